import JvmDerived
import JvmDerived.Pilot.@@N@@Statement
import JvmDerived.Pilot.@@N@@Code
set_option linter.unusedVariables false
set_option linter.unusedSimpArgs false
namespace Jvm.RoadKit
open Sem ClassFile Op Lib Jvm.Stand Jvm.Free Jvm.LawKit
section New
variable {p : Program} {l : Launch} {e : Env} {R : Room} {s : State} {m : MethodId} {args : Array Value} {below : List Frame} {meth : Method} {c : Code} {T : State} {locs : List Loc} {cells slots : Nat}
theorem retI (X : Stand p l e R s m args below meth c T locs cells slots) (hx : p.tables.exec = Jvm.exec) {pc : Nat} {Ls : Array Slot} {z : Int32} {rest : List Value} (hret : meth.sig.returnType = some .int) (hd : decode c.code pc = .ok (.ireturn, 1)) {fs : List Frame}
    (hl : ∀ (f : JFrame) (acts : List Action), f.method = m → f.locked = none → f.entered = [] → (doReturn e (T.setTop f) acts (some (.int z))).1 = T.setFrames fs) : Steps p.tables e below (T.setTop (mkF m pc Ls (.int z :: rest))) (T.setFrames fs) := by
  have hm' : T.vm.method? m = some meth := X.method'
  have hn : narrow .int (.int z) = .int z := rfl
  show Steps p.tables e below (T.setTop { method := m, pc := pc, locals := Ls, stack := _ :: rest, locked := none }) _
  jvm_step X.here [X.here.top, hx, hd, hm', hret, hn]
  first | (intro acts; rw [hl _ acts rfl rfl rfl]) | rw [hl _ _ rfl rfl rfl]
  exact Steps.refl _
end New
end Jvm.RoadKit
namespace Jvm.Pilot.@@N@@
open Jvm Jvm.ClassFile Sem Op Lib Jvm.Free Jvm.Stand Jvm.LawKit Jvm.RoadKit Bundle Jvm.Pilot.@@N@@.Jvm.D
theorem own_eqI {args : Array Value} {first s : State} {o : Option Outcome} {idx : List Nat} {t : Term} {k : Int32} (h : (Jvm.Cond.eq t (Term.int k)).value args first o s idx = some true) : t.eval args first o idx s = some (.int k) := by
  simp only [Cond.value, Term.eval] at h
  cases ht : t.eval args first o idx s with
  | none => simp [ht] at h
  | some x => cases x <;> simp [ht] at h ⊢; exact h
theorem own_eqR {args : Array Value} {first s : State} {o : Option Outcome} {idx : List Nat} {t u : Term} {x : Addr} (h : (Jvm.Cond.eq t u).value args first o s idx = some true) (hu : u.eval args first o idx s = some (.ref x)) : t.eval args first o idx s = some (.ref x) := by
  simp only [Cond.value, hu] at h
  cases ht : t.eval args first o idx s with
  | none => simp [ht] at h
  | some y => cases y <;> simp [ht] at h ⊢; exact h
theorem own_lenI {args : Array Value} {s : State} {t : Term} {x : Addr} {cl : Cell} {ty : FieldType} {n : Int32} (ev : t.eval args s none [] s = some (.ref x)) (A : Arr s s.heap x cl ty) (ln : (Term.length t).eval args s none [] s = some (.int n)) : cl.slots.size < 2 ^ 31 ∧ cl.slots.size.toInt32 = n := by
  have harr : s.arrayAt? x = some cl := Arr.fin (Vm.Alike.refl _) A
  by_cases h : cl.slots.size < 2 ^ 31
  · have e := len_f ev harr h
    exact ⟨h, Value.int.inj (Option.some.inj (e.symm.trans ln))⟩
  · exfalso
    simp [Term.eval, ev, harr, h] at ln
theorem own_neI {args : Array Value} {first s : State} {o : Option Outcome} {idx : List Nat} {t : Term} {k x : Int32} (h : (Jvm.Cond.not (Jvm.Cond.eq t (Term.int k))).value args first o s idx = some true) (e : t.eval args first o idx s = some (.int x)) : ¬ (x = k) := by
  have q := not_v h
  simp only [Cond.value, Term.eval, e] at q
  simpa using q

theorem own_wS {Z : State} {a0 : Array Value} (hw : ∀ d ∈ tables_1, d.before a0 Z = true) : ∀ a ∈ Bundle.stringAtoms, a.before a0 Z = true := by
  intro d hd
  simp only [Bundle.stringAtoms, Bundle.sN, List.mem_cons, List.not_mem_nil, or_false] at hd
  rcases hd with rfl | rfl | rfl | rfl | rfl | rfl | rfl
  · exact (hw _ (List.mem_of_getElem? (i := 30) rfl))
  · exact (hw _ (List.mem_of_getElem? (i := 31) rfl))
  · exact (hw _ (List.mem_of_getElem? (i := 32) rfl))
  · exact (hw _ (List.mem_of_getElem? (i := 33) rfl))
  · exact (hw _ (List.mem_of_getElem? (i := 34) rfl))
  · exact (hw _ (List.mem_of_getElem? (i := 35) rfl))
  · exact (hw _ (List.mem_of_getElem? (i := 36) rfl))
theorem own_len_ne {Z : State} {h : Heap} {a b : Addr} {k k' : ClassId} {ty ty' : FieldType} {n n' : Int32} {vs vs' : List Value} {d d' : Value} (A : Arv Z h a k ty n vs d) (B : Arv Z h b k' ty' n' vs' d') (q : n.toNatClampNeg ≠ n'.toNatClampNeg) : a ≠ b := by
  intro e
  subst e
  obtain ⟨c, A1, -, s1, -⟩ := A
  obtain ⟨c', B1, -, s2, -⟩ := B
  cases A1.1.symm.trans B1.1
  exact q (s1.symm.trans s2)
theorem own_hd_ne {Z : State} {h : Heap} {a b : Addr} {k k' : ClassId} {ty ty' : FieldType} {n n' : Int32} {x y : Value} {vs vs' : List Value} {d d' : Value} (A : Arv Z h a k ty n (x :: vs) d) (B : Arv Z h b k' ty' n' (y :: vs') d') (hn : 0 < n.toNatClampNeg) (q : x ≠ y) : a ≠ b := by
  intro e
  subst e
  obtain ⟨c, A1, -, s1, -, H1, -⟩ := A
  obtain ⟨c', B1, -, s2, -, H2, -⟩ := B
  cases A1.1.symm.trans B1.1
  have h1 := H1 0 (by rw [s1]; exact hn)
  have h2 := H2 0 (by rw [s1]; exact hn)
  exact q (Option.some.inj (h1.symm.trans h2))
theorem d1_0 : decode method_2_code 0 = .ok (.iload_n 0, 1) := by decide +kernel
theorem d1_1 : decode method_2_code 1 = .ok (.ldc 7, 2) := by decide +kernel
theorem d1_3 : decode method_2_code 3 = .ok (.iand, 1) := by decide +kernel
theorem d1_4 : decode method_2_code 4 = .ok (.iconst 3, 1) := by decide +kernel
theorem d1_5 : decode method_2_code 5 = .ok (.irem, 1) := by decide +kernel
theorem d1_6 : decode method_2_code 6 = .ok (.istore_n 1, 1) := by decide +kernel
theorem d1_7 : decode method_2_code 7 = .ok (.iload_n 1, 1) := by decide +kernel
theorem d1_8 : decode method_2_code 8 = .ok (.ifCond .ne 7, 3) := by decide +kernel
theorem d1_11 : decode method_2_code 11 = .ok (.getstatic 8, 3) := by decide +kernel
theorem d1_14 : decode method_2_code 14 = .ok (.areturn, 1) := by decide +kernel
theorem pn_1 : plainName "com/example/notesmith/notesmith/note/ConvertedInterestConvertsPinLaw" = true := by first | (simp [plainName, overriddenIn]; done) | decide +kernel
theorem ef_1i (m : MethodId) (x0 : Int32) : entryFrame m #[(.int x0)] 2 = mkF m 0 #[.val (.int x0), .unset] [] := by first | (simp [entryFrame, mkF, argsToLocals, Value.category]; done) | rfl
def F1i (wI : Addr) : Addr :=
  wI
def Q1i (Z : State) (p1 : Int32) (wI : Addr) (wX : Addr) (wE : Addr) (h0 : Heap) (n0 : Nat) (v : Option Value) (h : Heap) (L : List Loc) : Prop := v = some (.ref (F1i wI)) ∧ Fr n0 L ∧ h = h0
set_option maxRecDepth 65536 in
set_option maxHeartbeats 40000000 in
theorem rm1i (l : Launch) (Z : State) (a0 : Array Value) (hw : ∀ d ∈ tables_1, d.before a0 Z = true) (ws : List Jvm.Cond) (p1 : Int32) (wI : Addr) (wX : Addr) (wE : Addr) (h0 : Heap) (n0 : Nat) (Z0 : n0 ≤ h0.size) (hk0 : ((p1 &&& (2147483647 : Int32)) % (3 : Int32)) = (0 : Int32)) (S_wI : Sta Z h0 "com/example/notesmith/notesmith/note/ConvertedInterest" "INCLUDED" "Lcom/example/notesmith/notesmith/note/ConvertedInterest;" (.ref wI)) (S_wX : Sta Z h0 "com/example/notesmith/notesmith/note/ConvertedInterest" "EXCLUDED" "Lcom/example/notesmith/notesmith/note/ConvertedInterest;" (.ref wX)) (S_wE : Sta Z h0 "com/example/notesmith/notesmith/note/ConvertedInterest" "ISSUER_ELECTS" "Lcom/example/notesmith/notesmith/note/ConvertedInterest;" (.ref wE)) :
    MetFree l (⟨"com/example/notesmith/notesmith/note/ConvertedInterestConvertsPinLaw", "pick", "(I)Lcom/example/notesmith/notesmith/note/ConvertedInterest;"⟩ : MethodName) (head1 (Jvm.Cond.code (⟨"com/example/notesmith/notesmith/note/ConvertedInterestConvertsPinLaw", "pick", "(I)Lcom/example/notesmith/notesmith/note/ConvertedInterest;"⟩ : MethodName) method_2_code 2 (some (.object "com/example/notesmith/notesmith/note/ConvertedInterest")) :: ws) ({ frames := 0, cells := 0, slots := 0, locals := 0 } : Room)) (fun a U => a = #[(.int p1)] ∧ Z.Warmed39 U.vm ∧ U.heap = h0) (fun _ _ _ _ _ => True) (fun _ U o U' => ∃ v L, o = .returned v ∧ Q1i Z p1 wI wX wE h0 n0 v U'.heap L ∧ FrameEnd U o U' L ({ frames := 0, cells := 0, slots := 0, locals := 0 } : Room).cells ({ frames := 0, cells := 0, slots := 0, locals := 0 } : Room).slots) := by
  refine MetFree.of_bodySF (plainFor_of_name pn_1) hisR ?_
  intro p e s m args below meth c s₁ Bd hml0 hP hK
  obtain ⟨rfl, hZ, hh⟩ := hP
  have hx := Bd.exec
  have hby := Bd.bytes
  have hml : c.maxLocals = 2 := hml0
  have hown : s.vm.findClass "com/example/notesmith/notesmith/note/ConvertedInterestConvertsPinLaw" = some m.cls := findClass_of_methodNamed Bd.named
  have hnm := (name_of_methodNamed Bd.named Bd.method).1
  have hret := Bd.returns
  have hlocks : meth.locks = false := Bd.notSynchronized
  have X0 : Stand p l e ({ frames := 0, cells := 0, slots := 0, locals := 0 } : Room) s m #[(.int p1)] below meth c s₁ [] 0 0 := Stand.of_body Bd
  have e0 : s₁.heap = h0 := by rw [← hh, Bd.state]; rfl
  have N0 := Fr.nil n0
  have pre0 : ∀ t, Steps p.tables e below (s₁.setTop (mkF m 0 #[.val (.int p1), .unset] [])) t → Steps p.tables e below (s₁.setTop (entryFrame m #[(.int p1)] 2)) t := fun t k => castTop (ef_1i m p1) k
  have pre1 : ∀ t, Steps p.tables e below (s₁.setTop (mkF m 8 #[.val (.int p1), .val (.int ((p1 &&& (2147483647 : Int32)) % (3 : Int32)))] [(.int ((p1 &&& (2147483647 : Int32)) % (3 : Int32)))])) t → Steps p.tables e below (s₁.setTop (entryFrame m #[(.int p1)] 2)) t := by
    intro t k
    refine pre0 _ ?_
    show Steps p.tables e below (s₁.setTop (mkF m 0 #[.val (.int p1), .unset] [])) _
    refine XS.iloadN X0.here hx rfl (hb hby d1_0) rfl ?_
    show Steps p.tables e below (s₁.setTop (mkF m 1 #[.val (.int p1), .unset] [(.int p1)])) _
    refine X0.ldcInt hx hown (mvT hZ (hw _ (List.mem_of_getElem? (i := 4) rfl))) (g := (mkF m 1 #[.val (.int p1), .unset] [(.int p1)])) rfl (hb hby d1_1) _ ?_
    show Steps p.tables e below (s₁.setTop (mkF m 3 #[.val (.int p1), .unset] [(.int (2147483647 : Int32)), (.int p1)])) _
    refine XS.iand X0.here hx rfl (hb hby d1_3) rfl ?_
    show Steps p.tables e below (s₁.setTop (mkF m 4 #[.val (.int p1), .unset] [(.int (p1 &&& (2147483647 : Int32)))])) _
    refine XS.iconst X0.here hx rfl (hb hby d1_4) ?_
    show Steps p.tables e below (s₁.setTop (mkF m 5 #[.val (.int p1), .unset] [(.int (3 : Int32)), (.int (p1 &&& (2147483647 : Int32)))])) _
    refine iremM X0 hx rfl (hb hby d1_5) rfl (by decide) ?_
    show Steps p.tables e below (s₁.setTop (mkF m 6 #[.val (.int p1), .unset] [(.int ((p1 &&& (2147483647 : Int32)) % (3 : Int32)))])) _
    refine XS.istoreN X0.here hx rfl (hb hby d1_6) rfl (l' := #[.val (.int p1), .val (.int ((p1 &&& (2147483647 : Int32)) % (3 : Int32)))]) rfl ?_
    show Steps p.tables e below (s₁.setTop (mkF m 7 #[.val (.int p1), .val (.int ((p1 &&& (2147483647 : Int32)) % (3 : Int32)))] [])) _
    refine XS.iloadN X0.here hx rfl (hb hby d1_7) rfl ?_
    exact k
  have pre3 : ∀ t, Steps p.tables e below (s₁.setTop (mkF m 11 #[.val (.int p1), .val (.int ((p1 &&& (2147483647 : Int32)) % (3 : Int32)))] [])) t → Steps p.tables e below (s₁.setTop (entryFrame m #[(.int p1)] 2)) t := by
    intro t k
    refine pre1 _ ?_
    show Steps p.tables e below (s₁.setTop (mkF m 8 #[.val (.int p1), .val (.int ((p1 &&& (2147483647 : Int32)) % (3 : Int32)))] [(.int ((p1 &&& (2147483647 : Int32)) % (3 : Int32)))])) _
    refine XS.ifNo X0.here hx rfl (hb hby d1_8) rfl ((if0 _ _).trans (teq hk0).2) ?_
    exact k
  obtain ⟨T4, X4, e4, st4⟩ := getS2 X0 hx hZ hown (host := "") (Or.inl (hw _ (List.mem_of_getElem? (i := 5) rfl))) Via.refl e0 S_wI (g := (mkF m 11 #[.val (.int p1), .val (.int ((p1 &&& (2147483647 : Int32)) % (3 : Int32)))] [])) rfl (hb hby d1_11)
  have pre5 : ∀ t, Steps p.tables e below (T4.setTop (mkF m 14 #[.val (.int p1), .val (.int ((p1 &&& (2147483647 : Int32)) % (3 : Int32)))] [(.ref wI)])) t → Steps p.tables e below (s₁.setTop (entryFrame m #[(.int p1)] 2)) t := by
    intro t k
    refine pre3 _ ?_
    show Steps p.tables e below (s₁.setTop (mkF m 11 #[.val (.int p1), .val (.int ((p1 &&& (2147483647 : Int32)) % (3 : Int32)))] [])) _
    refine st4 _ ?_
    exact k
  obtain ⟨fs, hr, hrun, hended, hW, hsame⟩ := X4.leave (v := some (.ref wI)) (fun h => by rw [hret] at h; cases h)
  refine ⟨_, _, pre5 _ ?_, hrun, hended, _, _, rfl, ?_, ⟨_, rfl⟩, hW, hsame.mono (by decide) (by decide)⟩
  · show Steps p.tables e below (T4.setTop (mkF m 14 #[.val (.int p1), .val (.int ((p1 &&& (2147483647 : Int32)) % (3 : Int32)))] [(.ref wI)])) _
    jvm_step X4.here [X4.here.top, hx, (hb hby d1_14), X4.method', hret, Value.isRef, FieldType.isReference]
    first | (intro acts; rw [hr _ acts rfl rfl rfl]) | rw [hr _ _ rfl rfl rfl]
    exact Steps.refl _
  · show Q1i Z p1 wI wX wE h0 n0 _ T4.heap _
    exact ⟨(by rw [F1i]), N0, e4⟩
theorem d1_15 : decode method_2_code 15 = .ok (.iload_n 1, 1) := by decide +kernel
theorem d1_16 : decode method_2_code 16 = .ok (.iconst 1, 1) := by decide +kernel
theorem d1_17 : decode method_2_code 17 = .ok (.if_icmp .ne 7, 3) := by decide +kernel
theorem d1_20 : decode method_2_code 20 = .ok (.getstatic 14, 3) := by decide +kernel
theorem d1_23 : decode method_2_code 23 = .ok (.areturn, 1) := by decide +kernel
theorem ef_1x (m : MethodId) (x0 : Int32) : entryFrame m #[(.int x0)] 2 = mkF m 0 #[.val (.int x0), .unset] [] := by first | (simp [entryFrame, mkF, argsToLocals, Value.category]; done) | rfl
def F1x (wX : Addr) : Addr :=
  wX
def Q1x (Z : State) (p1 : Int32) (wI : Addr) (wX : Addr) (wE : Addr) (h0 : Heap) (n0 : Nat) (v : Option Value) (h : Heap) (L : List Loc) : Prop := v = some (.ref (F1x wX)) ∧ Fr n0 L ∧ h = h0
set_option maxRecDepth 65536 in
set_option maxHeartbeats 40000000 in
theorem rm1x (l : Launch) (Z : State) (a0 : Array Value) (hw : ∀ d ∈ tables_1, d.before a0 Z = true) (ws : List Jvm.Cond) (p1 : Int32) (wI : Addr) (wX : Addr) (wE : Addr) (h0 : Heap) (n0 : Nat) (Z0 : n0 ≤ h0.size) (hk0 : ¬ (((p1 &&& (2147483647 : Int32)) % (3 : Int32)) = (0 : Int32))) (hk1 : ((p1 &&& (2147483647 : Int32)) % (3 : Int32)) = (1 : Int32)) (S_wI : Sta Z h0 "com/example/notesmith/notesmith/note/ConvertedInterest" "INCLUDED" "Lcom/example/notesmith/notesmith/note/ConvertedInterest;" (.ref wI)) (S_wX : Sta Z h0 "com/example/notesmith/notesmith/note/ConvertedInterest" "EXCLUDED" "Lcom/example/notesmith/notesmith/note/ConvertedInterest;" (.ref wX)) (S_wE : Sta Z h0 "com/example/notesmith/notesmith/note/ConvertedInterest" "ISSUER_ELECTS" "Lcom/example/notesmith/notesmith/note/ConvertedInterest;" (.ref wE)) :
    MetFree l (⟨"com/example/notesmith/notesmith/note/ConvertedInterestConvertsPinLaw", "pick", "(I)Lcom/example/notesmith/notesmith/note/ConvertedInterest;"⟩ : MethodName) (head1 (Jvm.Cond.code (⟨"com/example/notesmith/notesmith/note/ConvertedInterestConvertsPinLaw", "pick", "(I)Lcom/example/notesmith/notesmith/note/ConvertedInterest;"⟩ : MethodName) method_2_code 2 (some (.object "com/example/notesmith/notesmith/note/ConvertedInterest")) :: ws) ({ frames := 0, cells := 0, slots := 0, locals := 0 } : Room)) (fun a U => a = #[(.int p1)] ∧ Z.Warmed39 U.vm ∧ U.heap = h0) (fun _ _ _ _ _ => True) (fun _ U o U' => ∃ v L, o = .returned v ∧ Q1x Z p1 wI wX wE h0 n0 v U'.heap L ∧ FrameEnd U o U' L ({ frames := 0, cells := 0, slots := 0, locals := 0 } : Room).cells ({ frames := 0, cells := 0, slots := 0, locals := 0 } : Room).slots) := by
  refine MetFree.of_bodySF (plainFor_of_name pn_1) hisR ?_
  intro p e s m args below meth c s₁ Bd hml0 hP hK
  obtain ⟨rfl, hZ, hh⟩ := hP
  have hx := Bd.exec
  have hby := Bd.bytes
  have hml : c.maxLocals = 2 := hml0
  have hown : s.vm.findClass "com/example/notesmith/notesmith/note/ConvertedInterestConvertsPinLaw" = some m.cls := findClass_of_methodNamed Bd.named
  have hnm := (name_of_methodNamed Bd.named Bd.method).1
  have hret := Bd.returns
  have hlocks : meth.locks = false := Bd.notSynchronized
  have X0 : Stand p l e ({ frames := 0, cells := 0, slots := 0, locals := 0 } : Room) s m #[(.int p1)] below meth c s₁ [] 0 0 := Stand.of_body Bd
  have e0 : s₁.heap = h0 := by rw [← hh, Bd.state]; rfl
  have N0 := Fr.nil n0
  have pre0 : ∀ t, Steps p.tables e below (s₁.setTop (mkF m 0 #[.val (.int p1), .unset] [])) t → Steps p.tables e below (s₁.setTop (entryFrame m #[(.int p1)] 2)) t := fun t k => castTop (ef_1x m p1) k
  have pre6 : ∀ t, Steps p.tables e below (s₁.setTop (mkF m 8 #[.val (.int p1), .val (.int ((p1 &&& (2147483647 : Int32)) % (3 : Int32)))] [(.int ((p1 &&& (2147483647 : Int32)) % (3 : Int32)))])) t → Steps p.tables e below (s₁.setTop (entryFrame m #[(.int p1)] 2)) t := by
    intro t k
    refine pre0 _ ?_
    show Steps p.tables e below (s₁.setTop (mkF m 0 #[.val (.int p1), .unset] [])) _
    refine XS.iloadN X0.here hx rfl (hb hby d1_0) rfl ?_
    show Steps p.tables e below (s₁.setTop (mkF m 1 #[.val (.int p1), .unset] [(.int p1)])) _
    refine X0.ldcInt hx hown (mvT hZ (hw _ (List.mem_of_getElem? (i := 4) rfl))) (g := (mkF m 1 #[.val (.int p1), .unset] [(.int p1)])) rfl (hb hby d1_1) _ ?_
    show Steps p.tables e below (s₁.setTop (mkF m 3 #[.val (.int p1), .unset] [(.int (2147483647 : Int32)), (.int p1)])) _
    refine XS.iand X0.here hx rfl (hb hby d1_3) rfl ?_
    show Steps p.tables e below (s₁.setTop (mkF m 4 #[.val (.int p1), .unset] [(.int (p1 &&& (2147483647 : Int32)))])) _
    refine XS.iconst X0.here hx rfl (hb hby d1_4) ?_
    show Steps p.tables e below (s₁.setTop (mkF m 5 #[.val (.int p1), .unset] [(.int (3 : Int32)), (.int (p1 &&& (2147483647 : Int32)))])) _
    refine iremM X0 hx rfl (hb hby d1_5) rfl (by decide) ?_
    show Steps p.tables e below (s₁.setTop (mkF m 6 #[.val (.int p1), .unset] [(.int ((p1 &&& (2147483647 : Int32)) % (3 : Int32)))])) _
    refine XS.istoreN X0.here hx rfl (hb hby d1_6) rfl (l' := #[.val (.int p1), .val (.int ((p1 &&& (2147483647 : Int32)) % (3 : Int32)))]) rfl ?_
    show Steps p.tables e below (s₁.setTop (mkF m 7 #[.val (.int p1), .val (.int ((p1 &&& (2147483647 : Int32)) % (3 : Int32)))] [])) _
    refine XS.iloadN X0.here hx rfl (hb hby d1_7) rfl ?_
    exact k
  have pre8 : ∀ t, Steps p.tables e below (s₁.setTop (mkF m 15 #[.val (.int p1), .val (.int ((p1 &&& (2147483647 : Int32)) % (3 : Int32)))] [])) t → Steps p.tables e below (s₁.setTop (entryFrame m #[(.int p1)] 2)) t := by
    intro t k
    refine pre6 _ ?_
    show Steps p.tables e below (s₁.setTop (mkF m 8 #[.val (.int p1), .val (.int ((p1 &&& (2147483647 : Int32)) % (3 : Int32)))] [(.int ((p1 &&& (2147483647 : Int32)) % (3 : Int32)))])) _
    refine XS.ifYes X0.here hx rfl (pc0 := 8) (pc' := 15) rfl (hb hby d1_8) rfl ((if0 _ _).trans (feq hk0).2) (by decide) (by decide) ?_
    exact k
  have pre9 : ∀ t, Steps p.tables e below (s₁.setTop (mkF m 17 #[.val (.int p1), .val (.int ((p1 &&& (2147483647 : Int32)) % (3 : Int32)))] [(.int (1 : Int32)), (.int ((p1 &&& (2147483647 : Int32)) % (3 : Int32)))])) t → Steps p.tables e below (s₁.setTop (entryFrame m #[(.int p1)] 2)) t := by
    intro t k
    refine pre8 _ ?_
    show Steps p.tables e below (s₁.setTop (mkF m 15 #[.val (.int p1), .val (.int ((p1 &&& (2147483647 : Int32)) % (3 : Int32)))] [])) _
    refine XS.iloadN X0.here hx rfl (hb hby d1_15) rfl ?_
    show Steps p.tables e below (s₁.setTop (mkF m 16 #[.val (.int p1), .val (.int ((p1 &&& (2147483647 : Int32)) % (3 : Int32)))] [(.int ((p1 &&& (2147483647 : Int32)) % (3 : Int32)))])) _
    refine XS.iconst X0.here hx rfl (hb hby d1_16) ?_
    exact k
  have pre11 : ∀ t, Steps p.tables e below (s₁.setTop (mkF m 20 #[.val (.int p1), .val (.int ((p1 &&& (2147483647 : Int32)) % (3 : Int32)))] [])) t → Steps p.tables e below (s₁.setTop (entryFrame m #[(.int p1)] 2)) t := by
    intro t k
    refine pre9 _ ?_
    show Steps p.tables e below (s₁.setTop (mkF m 17 #[.val (.int p1), .val (.int ((p1 &&& (2147483647 : Int32)) % (3 : Int32)))] [(.int (1 : Int32)), (.int ((p1 &&& (2147483647 : Int32)) % (3 : Int32)))])) _
    refine XS.icmpNo X0.here hx rfl (hb hby d1_17) rfl (teq hk1).2 ?_
    exact k
  obtain ⟨T12, X12, e12, st12⟩ := getS2 X0 hx hZ hown (host := "") (Or.inl (hw _ (List.mem_of_getElem? (i := 55) rfl))) Via.refl e0 S_wX (g := (mkF m 20 #[.val (.int p1), .val (.int ((p1 &&& (2147483647 : Int32)) % (3 : Int32)))] [])) rfl (hb hby d1_20)
  have pre13 : ∀ t, Steps p.tables e below (T12.setTop (mkF m 23 #[.val (.int p1), .val (.int ((p1 &&& (2147483647 : Int32)) % (3 : Int32)))] [(.ref wX)])) t → Steps p.tables e below (s₁.setTop (entryFrame m #[(.int p1)] 2)) t := by
    intro t k
    refine pre11 _ ?_
    show Steps p.tables e below (s₁.setTop (mkF m 20 #[.val (.int p1), .val (.int ((p1 &&& (2147483647 : Int32)) % (3 : Int32)))] [])) _
    refine st12 _ ?_
    exact k
  obtain ⟨fs, hr, hrun, hended, hW, hsame⟩ := X12.leave (v := some (.ref wX)) (fun h => by rw [hret] at h; cases h)
  refine ⟨_, _, pre13 _ ?_, hrun, hended, _, _, rfl, ?_, ⟨_, rfl⟩, hW, hsame.mono (by decide) (by decide)⟩
  · show Steps p.tables e below (T12.setTop (mkF m 23 #[.val (.int p1), .val (.int ((p1 &&& (2147483647 : Int32)) % (3 : Int32)))] [(.ref wX)])) _
    jvm_step X12.here [X12.here.top, hx, (hb hby d1_23), X12.method', hret, Value.isRef, FieldType.isReference]
    first | (intro acts; rw [hr _ acts rfl rfl rfl]) | rw [hr _ _ rfl rfl rfl]
    exact Steps.refl _
  · show Q1x Z p1 wI wX wE h0 n0 _ T12.heap _
    exact ⟨(by rw [F1x]), N0, e12⟩
theorem d1_24 : decode method_2_code 24 = .ok (.getstatic 17, 3) := by decide +kernel
theorem d1_27 : decode method_2_code 27 = .ok (.areturn, 1) := by decide +kernel
theorem ef_1e (m : MethodId) (x0 : Int32) : entryFrame m #[(.int x0)] 2 = mkF m 0 #[.val (.int x0), .unset] [] := by first | (simp [entryFrame, mkF, argsToLocals, Value.category]; done) | rfl
def F1e (wE : Addr) : Addr :=
  wE
def Q1e (Z : State) (p1 : Int32) (wI : Addr) (wX : Addr) (wE : Addr) (h0 : Heap) (n0 : Nat) (v : Option Value) (h : Heap) (L : List Loc) : Prop := v = some (.ref (F1e wE)) ∧ Fr n0 L ∧ h = h0
set_option maxRecDepth 65536 in
set_option maxHeartbeats 40000000 in
theorem rm1e (l : Launch) (Z : State) (a0 : Array Value) (hw : ∀ d ∈ tables_1, d.before a0 Z = true) (ws : List Jvm.Cond) (p1 : Int32) (wI : Addr) (wX : Addr) (wE : Addr) (h0 : Heap) (n0 : Nat) (Z0 : n0 ≤ h0.size) (hk0 : ¬ (((p1 &&& (2147483647 : Int32)) % (3 : Int32)) = (0 : Int32))) (hk1 : ¬ (((p1 &&& (2147483647 : Int32)) % (3 : Int32)) = (1 : Int32))) (S_wI : Sta Z h0 "com/example/notesmith/notesmith/note/ConvertedInterest" "INCLUDED" "Lcom/example/notesmith/notesmith/note/ConvertedInterest;" (.ref wI)) (S_wX : Sta Z h0 "com/example/notesmith/notesmith/note/ConvertedInterest" "EXCLUDED" "Lcom/example/notesmith/notesmith/note/ConvertedInterest;" (.ref wX)) (S_wE : Sta Z h0 "com/example/notesmith/notesmith/note/ConvertedInterest" "ISSUER_ELECTS" "Lcom/example/notesmith/notesmith/note/ConvertedInterest;" (.ref wE)) :
    MetFree l (⟨"com/example/notesmith/notesmith/note/ConvertedInterestConvertsPinLaw", "pick", "(I)Lcom/example/notesmith/notesmith/note/ConvertedInterest;"⟩ : MethodName) (head1 (Jvm.Cond.code (⟨"com/example/notesmith/notesmith/note/ConvertedInterestConvertsPinLaw", "pick", "(I)Lcom/example/notesmith/notesmith/note/ConvertedInterest;"⟩ : MethodName) method_2_code 2 (some (.object "com/example/notesmith/notesmith/note/ConvertedInterest")) :: ws) ({ frames := 0, cells := 0, slots := 0, locals := 0 } : Room)) (fun a U => a = #[(.int p1)] ∧ Z.Warmed39 U.vm ∧ U.heap = h0) (fun _ _ _ _ _ => True) (fun _ U o U' => ∃ v L, o = .returned v ∧ Q1e Z p1 wI wX wE h0 n0 v U'.heap L ∧ FrameEnd U o U' L ({ frames := 0, cells := 0, slots := 0, locals := 0 } : Room).cells ({ frames := 0, cells := 0, slots := 0, locals := 0 } : Room).slots) := by
  refine MetFree.of_bodySF (plainFor_of_name pn_1) hisR ?_
  intro p e s m args below meth c s₁ Bd hml0 hP hK
  obtain ⟨rfl, hZ, hh⟩ := hP
  have hx := Bd.exec
  have hby := Bd.bytes
  have hml : c.maxLocals = 2 := hml0
  have hown : s.vm.findClass "com/example/notesmith/notesmith/note/ConvertedInterestConvertsPinLaw" = some m.cls := findClass_of_methodNamed Bd.named
  have hnm := (name_of_methodNamed Bd.named Bd.method).1
  have hret := Bd.returns
  have hlocks : meth.locks = false := Bd.notSynchronized
  have X0 : Stand p l e ({ frames := 0, cells := 0, slots := 0, locals := 0 } : Room) s m #[(.int p1)] below meth c s₁ [] 0 0 := Stand.of_body Bd
  have e0 : s₁.heap = h0 := by rw [← hh, Bd.state]; rfl
  have N0 := Fr.nil n0
  have pre0 : ∀ t, Steps p.tables e below (s₁.setTop (mkF m 0 #[.val (.int p1), .unset] [])) t → Steps p.tables e below (s₁.setTop (entryFrame m #[(.int p1)] 2)) t := fun t k => castTop (ef_1e m p1) k
  have pre14 : ∀ t, Steps p.tables e below (s₁.setTop (mkF m 8 #[.val (.int p1), .val (.int ((p1 &&& (2147483647 : Int32)) % (3 : Int32)))] [(.int ((p1 &&& (2147483647 : Int32)) % (3 : Int32)))])) t → Steps p.tables e below (s₁.setTop (entryFrame m #[(.int p1)] 2)) t := by
    intro t k
    refine pre0 _ ?_
    show Steps p.tables e below (s₁.setTop (mkF m 0 #[.val (.int p1), .unset] [])) _
    refine XS.iloadN X0.here hx rfl (hb hby d1_0) rfl ?_
    show Steps p.tables e below (s₁.setTop (mkF m 1 #[.val (.int p1), .unset] [(.int p1)])) _
    refine X0.ldcInt hx hown (mvT hZ (hw _ (List.mem_of_getElem? (i := 4) rfl))) (g := (mkF m 1 #[.val (.int p1), .unset] [(.int p1)])) rfl (hb hby d1_1) _ ?_
    show Steps p.tables e below (s₁.setTop (mkF m 3 #[.val (.int p1), .unset] [(.int (2147483647 : Int32)), (.int p1)])) _
    refine XS.iand X0.here hx rfl (hb hby d1_3) rfl ?_
    show Steps p.tables e below (s₁.setTop (mkF m 4 #[.val (.int p1), .unset] [(.int (p1 &&& (2147483647 : Int32)))])) _
    refine XS.iconst X0.here hx rfl (hb hby d1_4) ?_
    show Steps p.tables e below (s₁.setTop (mkF m 5 #[.val (.int p1), .unset] [(.int (3 : Int32)), (.int (p1 &&& (2147483647 : Int32)))])) _
    refine iremM X0 hx rfl (hb hby d1_5) rfl (by decide) ?_
    show Steps p.tables e below (s₁.setTop (mkF m 6 #[.val (.int p1), .unset] [(.int ((p1 &&& (2147483647 : Int32)) % (3 : Int32)))])) _
    refine XS.istoreN X0.here hx rfl (hb hby d1_6) rfl (l' := #[.val (.int p1), .val (.int ((p1 &&& (2147483647 : Int32)) % (3 : Int32)))]) rfl ?_
    show Steps p.tables e below (s₁.setTop (mkF m 7 #[.val (.int p1), .val (.int ((p1 &&& (2147483647 : Int32)) % (3 : Int32)))] [])) _
    refine XS.iloadN X0.here hx rfl (hb hby d1_7) rfl ?_
    exact k
  have pre16 : ∀ t, Steps p.tables e below (s₁.setTop (mkF m 15 #[.val (.int p1), .val (.int ((p1 &&& (2147483647 : Int32)) % (3 : Int32)))] [])) t → Steps p.tables e below (s₁.setTop (entryFrame m #[(.int p1)] 2)) t := by
    intro t k
    refine pre14 _ ?_
    show Steps p.tables e below (s₁.setTop (mkF m 8 #[.val (.int p1), .val (.int ((p1 &&& (2147483647 : Int32)) % (3 : Int32)))] [(.int ((p1 &&& (2147483647 : Int32)) % (3 : Int32)))])) _
    refine XS.ifYes X0.here hx rfl (pc0 := 8) (pc' := 15) rfl (hb hby d1_8) rfl ((if0 _ _).trans (feq hk0).2) (by decide) (by decide) ?_
    exact k
  have pre17 : ∀ t, Steps p.tables e below (s₁.setTop (mkF m 17 #[.val (.int p1), .val (.int ((p1 &&& (2147483647 : Int32)) % (3 : Int32)))] [(.int (1 : Int32)), (.int ((p1 &&& (2147483647 : Int32)) % (3 : Int32)))])) t → Steps p.tables e below (s₁.setTop (entryFrame m #[(.int p1)] 2)) t := by
    intro t k
    refine pre16 _ ?_
    show Steps p.tables e below (s₁.setTop (mkF m 15 #[.val (.int p1), .val (.int ((p1 &&& (2147483647 : Int32)) % (3 : Int32)))] [])) _
    refine XS.iloadN X0.here hx rfl (hb hby d1_15) rfl ?_
    show Steps p.tables e below (s₁.setTop (mkF m 16 #[.val (.int p1), .val (.int ((p1 &&& (2147483647 : Int32)) % (3 : Int32)))] [(.int ((p1 &&& (2147483647 : Int32)) % (3 : Int32)))])) _
    refine XS.iconst X0.here hx rfl (hb hby d1_16) ?_
    exact k
  have pre19 : ∀ t, Steps p.tables e below (s₁.setTop (mkF m 24 #[.val (.int p1), .val (.int ((p1 &&& (2147483647 : Int32)) % (3 : Int32)))] [])) t → Steps p.tables e below (s₁.setTop (entryFrame m #[(.int p1)] 2)) t := by
    intro t k
    refine pre17 _ ?_
    show Steps p.tables e below (s₁.setTop (mkF m 17 #[.val (.int p1), .val (.int ((p1 &&& (2147483647 : Int32)) % (3 : Int32)))] [(.int (1 : Int32)), (.int ((p1 &&& (2147483647 : Int32)) % (3 : Int32)))])) _
    refine XS.icmpYes X0.here hx rfl (pc0 := 17) (pc' := 24) rfl (hb hby d1_17) rfl (feq hk1).2 (by decide) (by decide) ?_
    exact k
  obtain ⟨T20, X20, e20, st20⟩ := getS2 X0 hx hZ hown (host := "") (Or.inl (hw _ (List.mem_of_getElem? (i := 51) rfl))) Via.refl e0 S_wE (g := (mkF m 24 #[.val (.int p1), .val (.int ((p1 &&& (2147483647 : Int32)) % (3 : Int32)))] [])) rfl (hb hby d1_24)
  have pre21 : ∀ t, Steps p.tables e below (T20.setTop (mkF m 27 #[.val (.int p1), .val (.int ((p1 &&& (2147483647 : Int32)) % (3 : Int32)))] [(.ref wE)])) t → Steps p.tables e below (s₁.setTop (entryFrame m #[(.int p1)] 2)) t := by
    intro t k
    refine pre19 _ ?_
    show Steps p.tables e below (s₁.setTop (mkF m 24 #[.val (.int p1), .val (.int ((p1 &&& (2147483647 : Int32)) % (3 : Int32)))] [])) _
    refine st20 _ ?_
    exact k
  obtain ⟨fs, hr, hrun, hended, hW, hsame⟩ := X20.leave (v := some (.ref wE)) (fun h => by rw [hret] at h; cases h)
  refine ⟨_, _, pre21 _ ?_, hrun, hended, _, _, rfl, ?_, ⟨_, rfl⟩, hW, hsame.mono (by decide) (by decide)⟩
  · show Steps p.tables e below (T20.setTop (mkF m 27 #[.val (.int p1), .val (.int ((p1 &&& (2147483647 : Int32)) % (3 : Int32)))] [(.ref wE)])) _
    jvm_step X20.here [X20.here.top, hx, (hb hby d1_27), X20.method', hret, Value.isRef, FieldType.isReference]
    first | (intro acts; rw [hr _ acts rfl rfl rfl]) | rw [hr _ _ rfl rfl rfl]
    exact Steps.refl _
  · show Q1e Z p1 wI wX wE h0 n0 _ T20.heap _
    exact ⟨(by rw [F1e]), N0, e20⟩
theorem d3_0 : decode jdk_37_method_2_code 0 = .ok (.aload_n 0, 1) := by decide +kernel
theorem d3_1 : decode jdk_37_method_2_code 1 = .ok (.getfield 7, 3) := by decide +kernel
theorem d3_4 : decode jdk_37_method_2_code 4 = .ok (.ireturn, 1) := by decide +kernel
theorem pn_3 : plainName "java/lang/Enum" = true := by first | (simp [plainName, overriddenIn]; done) | decide +kernel
theorem ef_3 (m : MethodId) (x0 : Addr) : entryFrame m #[(.ref x0)] 1 = mkF m 0 #[.val (.ref x0)] [] := by first | (simp [entryFrame, mkF, argsToLocals, Value.category]; done) | rfl
def F3 (f_ordinal_a1 : Int32) : Int32 :=
  f_ordinal_a1
def Q3 (Z : State) (a1 : Addr) (f_ordinal_a1 : Int32) (h0 : Heap) (n0 : Nat) (v : Option Value) (h : Heap) (L : List Loc) : Prop := v = some (.int (F3 f_ordinal_a1)) ∧ Fr n0 L ∧ h = h0
set_option maxRecDepth 65536 in
set_option maxHeartbeats 40000000 in
theorem rm3 (l : Launch) (Z : State) (a0 : Array Value) (hw : ∀ d ∈ tables_1, d.before a0 Z = true) (ws : List Jvm.Cond) (a1 : Addr) (f_ordinal_a1 : Int32) (h0 : Heap) (n0 : Nat) (Z0 : n0 ≤ h0.size) (F_f_ordinal_a1 : Fld Z h0 a1 "java/lang/Enum" "ordinal" "I" (.int f_ordinal_a1)) :
    MetFree l (⟨"java/lang/Enum", "ordinal", "()I"⟩ : MethodName) (head1 (Jvm.Cond.code (⟨"java/lang/Enum", "ordinal", "()I"⟩ : MethodName) jdk_37_method_2_code 1 (some .int) :: ws) ({ frames := 0, cells := 0, slots := 0, locals := 0 } : Room)) (fun a U => a = #[(.ref a1)] ∧ Z.Warmed39 U.vm ∧ U.heap = h0) (fun _ _ _ _ _ => True) (fun _ U o U' => ∃ v L, o = .returned v ∧ Q3 Z a1 f_ordinal_a1 h0 n0 v U'.heap L ∧ FrameEnd U o U' L ({ frames := 0, cells := 0, slots := 0, locals := 0 } : Room).cells ({ frames := 0, cells := 0, slots := 0, locals := 0 } : Room).slots) := by
  refine MetFree.of_bodySF (plainFor_of_name pn_3) hisR ?_
  intro p e s m args below meth c s₁ Bd hml0 hP hK
  obtain ⟨rfl, hZ, hh⟩ := hP
  have hx := Bd.exec
  have hby := Bd.bytes
  have hml : c.maxLocals = 1 := hml0
  have hown : s.vm.findClass "java/lang/Enum" = some m.cls := findClass_of_methodNamed Bd.named
  have hnm := (name_of_methodNamed Bd.named Bd.method).1
  have hret := Bd.returns
  have hlocks : meth.locks = false := Bd.notSynchronized
  have X0 : Stand p l e ({ frames := 0, cells := 0, slots := 0, locals := 0 } : Room) s m #[(.ref a1)] below meth c s₁ [] 0 0 := Stand.of_body Bd
  have e0 : s₁.heap = h0 := by rw [← hh, Bd.state]; rfl
  have N0 := Fr.nil n0
  have pre0 : ∀ t, Steps p.tables e below (s₁.setTop (mkF m 0 #[.val (.ref a1)] [])) t → Steps p.tables e below (s₁.setTop (entryFrame m #[(.ref a1)] 1)) t := fun t k => castTop (ef_3 m a1) k
  have pre22 : ∀ t, Steps p.tables e below (s₁.setTop (mkF m 1 #[.val (.ref a1)] [(.ref a1)])) t → Steps p.tables e below (s₁.setTop (entryFrame m #[(.ref a1)] 1)) t := by
    intro t k
    refine pre0 _ ?_
    show Steps p.tables e below (s₁.setTop (mkF m 0 #[.val (.ref a1)] [])) _
    refine XS.aloadN X0.here hx rfl (hb hby d3_0) rfl rfl ?_
    exact k
  obtain ⟨T23, X23, e23, st23⟩ := getF X0 hx hZ hown (host := "") (Or.inl (hw _ (List.mem_of_getElem? (i := 20) rfl))) Via.refl e0 F_f_ordinal_a1 (g := (mkF m 1 #[.val (.ref a1)] [(.ref a1)])) rfl rfl (hb hby d3_1)
  have pre24 : ∀ t, Steps p.tables e below (T23.setTop (mkF m 4 #[.val (.ref a1)] [(.int f_ordinal_a1)])) t → Steps p.tables e below (s₁.setTop (entryFrame m #[(.ref a1)] 1)) t := by
    intro t k
    refine pre22 _ ?_
    show Steps p.tables e below (s₁.setTop (mkF m 1 #[.val (.ref a1)] [(.ref a1)])) _
    refine st23 _ ?_
    exact k
  obtain ⟨fs, hr, hrun, hended, hW, hsame⟩ := X23.leave (v := some (.int f_ordinal_a1)) (fun h => by rw [hret] at h; cases h)
  refine ⟨_, _, pre24 _ ?_, hrun, hended, _, _, rfl, ?_, ⟨_, rfl⟩, hW, hsame.mono (by decide) (by decide)⟩
  · show Steps p.tables e below (T23.setTop (mkF m 4 #[.val (.ref a1)] [(.int f_ordinal_a1)])) _
    exact retI X23 hx hret (hb hby d3_4) hr
  · show Q3 Z a1 f_ordinal_a1 h0 n0 _ T23.heap _
    exact ⟨(by rw [F3]), N0, e23⟩
theorem d2_0 : decode prog_58_method_5_code 0 = .ok (.aload_n 0, 1) := by decide +kernel
theorem d2_1 : decode prog_58_method_5_code 1 = .ok (.invokevirtual 36, 3) := by decide +kernel
theorem pd___I : parseMethodDescriptor "()I" = some ⟨[], some .int⟩ := by decide +kernel
theorem d2_4 : decode prog_58_method_5_code 4 = .ok (.tableswitch 28 0 2 #[38, 42, 46], 28) := by decide +kernel
theorem d2_42 : decode prog_58_method_5_code 42 = .ok (.iconst 1, 1) := by decide +kernel
theorem d2_43 : decode prog_58_method_5_code 43 = .ok (.goto 8, 3) := by decide +kernel
theorem d2_51 : decode prog_58_method_5_code 51 = .ok (.ireturn, 1) := by decide +kernel
theorem pn_2 : plainName "com/example/notesmith/notesmith/note/ConvertedInterest" = true := by first | (simp [plainName, overriddenIn]; done) | decide +kernel
theorem ef_2i (m : MethodId) (x0 : Addr) (x1 : Int32) : entryFrame m #[(.ref x0), (.int x1)] 2 = mkF m 0 #[.val (.ref x0), .val (.int x1)] [] := by first | (simp [entryFrame, mkF, argsToLocals, Value.category]; done) | rfl
def F2i  : Int32 :=
  (1 : Int32)
def Q2i (Z : State) (a1 : Addr) (p2 : Int32) (h0 : Heap) (n0 : Nat) (v : Option Value) (h : Heap) (L : List Loc) : Prop := v = some (.int (F2i)) ∧ Fr n0 L ∧ h = h0
set_option maxRecDepth 65536 in
set_option maxHeartbeats 40000000 in
theorem rm2i (l : Launch) (Z : State) (a0 : Array Value) (hw : ∀ d ∈ tables_1, d.before a0 Z = true) (ws : List Jvm.Cond) (a1 : Addr) (p2 : Int32) (h0 : Heap) (n0 : Nat) (Z0 : n0 ≤ h0.size) (E_a1 : Exa Z h0 a1 "com/example/notesmith/notesmith/note/ConvertedInterest") (Ford : Fld Z h0 a1 "java/lang/Enum" "ordinal" "I" (.int (0 : Int32))) :
    MetFree l (⟨"com/example/notesmith/notesmith/note/ConvertedInterest", "converts", "(Z)Z"⟩ : MethodName) (head1 (Jvm.Cond.code (⟨"com/example/notesmith/notesmith/note/ConvertedInterest", "converts", "(Z)Z"⟩ : MethodName) prog_58_method_5_code 2 (some .boolean) :: ws) ({ frames := 1, cells := 0, slots := 0, locals := 12 } : Room)) (fun a U => a = #[(.ref a1), (.int p2)] ∧ Z.Warmed39 U.vm ∧ U.heap = h0) (fun _ _ _ _ _ => True) (fun _ U o U' => ∃ v L, o = .returned v ∧ Q2i Z a1 p2 h0 n0 v U'.heap L ∧ FrameEnd U o U' L ({ frames := 1, cells := 0, slots := 0, locals := 12 } : Room).cells ({ frames := 1, cells := 0, slots := 0, locals := 12 } : Room).slots) := by
  refine MetFree.of_bodySF (plainFor_of_name pn_2) hisR ?_
  intro p e s m args below meth c s₁ Bd hml0 hP hK
  obtain ⟨rfl, hZ, hh⟩ := hP
  have hx := Bd.exec
  have hby := Bd.bytes
  have hml : c.maxLocals = 2 := hml0
  have hown : s.vm.findClass "com/example/notesmith/notesmith/note/ConvertedInterest" = some m.cls := findClass_of_methodNamed Bd.named
  have hnm := (name_of_methodNamed Bd.named Bd.method).1
  have hret := Bd.returns
  have hlocks : meth.locks = false := Bd.notSynchronized
  have X0 : Stand p l e ({ frames := 1, cells := 0, slots := 0, locals := 12 } : Room) s m #[(.ref a1), (.int p2)] below meth c s₁ [] 0 0 := Stand.of_body Bd
  have e0 : s₁.heap = h0 := by rw [← hh, Bd.state]; rfl
  have N0 := Fr.nil n0
  have pre0 : ∀ t, Steps p.tables e below (s₁.setTop (mkF m 0 #[.val (.ref a1), .val (.int p2)] [])) t → Steps p.tables e below (s₁.setTop (entryFrame m #[(.ref a1), (.int p2)] 2)) t := fun t k => castTop (ef_2i m a1 p2) k
  have pre25 : ∀ t, Steps p.tables e below (s₁.setTop (mkF m 1 #[.val (.ref a1), .val (.int p2)] [(.ref a1)])) t → Steps p.tables e below (s₁.setTop (entryFrame m #[(.ref a1), (.int p2)] 2)) t := by
    intro t k
    refine pre0 _ ?_
    show Steps p.tables e below (s₁.setTop (mkF m 0 #[.val (.ref a1), .val (.int p2)] [])) _
    refine XS.aloadN X0.here hx rfl (hb hby d2_0) rfl rfl ?_
    exact k
  obtain ⟨cq26, kq26, q26a, q26b, q26c⟩ := isOf hZ e0 E_a1
  obtain ⟨_, _, ⟨T26, L26, k26, n26⟩, -, X26, ⟨Lc26, hQ26, l26, y26, z26⟩, st26⟩ := X0.virtualBackUp hx (owner := "java/lang/Enum") (x := (⟨"com/example/notesmith/notesmith/note/ConvertedInterest", "ordinal", "()I"⟩ : MethodName)) (y := (⟨"java/lang/Enum", "ordinal", "()I"⟩ : MethodName)) hown (mvT hZ (hw _ (List.mem_of_getElem? (i := 13) rfl))) (mvT hZ (hw _ (List.mem_of_getElem? (i := 14) rfl))) (mvT hZ (hw _ (List.mem_of_getElem? (i := 15) rfl))) (by decide) (mvT hZ (hw _ (List.mem_of_getElem? (i := 17) rfl))) (mvT hZ (hw _ (List.mem_of_getElem? (i := 16) rfl))) (backOf (W := 0) (rm3 l Z a0 hw [] a1 (0 : Int32) h0 n0 Z0 Ford) hZ (hw _ (List.mem_of_getElem? (i := 19) rfl)) (hw _ (List.mem_of_getElem? (i := 18) rfl)) (by decide) (by decide)) q26a q26c (g := (mkF m 1 #[.val (.ref a1), .val (.int p2)] [(.ref a1)])) rfl (by rw [hml]; rfl) (Steps.refl _) (argsL := []) (rest := []) (lenOf pd___I rfl) rfl (by show 2 * 0 + _ ≤ _; exact Nat.le_of_eq rfl) (hb hby d2_1) (fun _ _ => ⟨rfl, e0, (by decide : 0 + 0 ≤ _), (by decide : 0 + 0 ≤ _)⟩)
  dsimp only [Pt.U, Pt.locs, Pt.cells, Pt.slots] at X26 l26 y26 z26 st26 hQ26
  subst l26 y26 z26
  obtain ⟨rfl, N26q, e26⟩ := hQ26
  have N26 := Fr.app N0 N26q
  have pre27 : ∀ t, Steps p.tables e below (T26.setTop (mkF m 4 #[.val (.ref a1), .val (.int p2)] [(.int (0 : Int32))])) t → Steps p.tables e below (s₁.setTop (entryFrame m #[(.ref a1), (.int p2)] 2)) t := by
    intro t k
    refine pre25 _ ?_
    show Steps p.tables e below (s₁.setTop (mkF m 1 #[.val (.ref a1), .val (.int p2)] [(.ref a1)])) _
    refine st26.trans ?_
    exact k
  have pre28 : ∀ t, Steps p.tables e below (T26.setTop (mkF m 51 #[.val (.ref a1), .val (.int p2)] [(.int (1 : Int32))])) t → Steps p.tables e below (s₁.setTop (entryFrame m #[(.ref a1), (.int p2)] 2)) t := by
    intro t k
    refine pre27 _ ?_
    show Steps p.tables e below (T26.setTop (mkF m 4 #[.val (.ref a1), .val (.int p2)] [(.int (0 : Int32))])) _
    refine XS.tswIn X26.here hx rfl (pc0 := 4) (pc' := 42) rfl (hb hby d2_4) rfl (by decide) (o := 38) (by decide) (by decide) (by decide) ?_
    show Steps p.tables e below (T26.setTop (mkF m 42 #[.val (.ref a1), .val (.int p2)] [])) _
    refine XS.iconst X26.here hx rfl (hb hby d2_42) ?_
    show Steps p.tables e below (T26.setTop (mkF m 43 #[.val (.ref a1), .val (.int p2)] [(.int (1 : Int32))])) _
    refine XS.goto X26.here hx rfl (pc0 := 43) (pc' := 51) rfl (hb hby d2_43) (by decide) (by decide) ?_
    exact k
  obtain ⟨fs, hr, hrun, hended, hW, hsame⟩ := X26.leave (v := some (.int (1 : Int32))) (fun h => by rw [hret] at h; cases h)
  refine ⟨_, _, pre28 _ ?_, hrun, hended, _, _, rfl, ?_, ⟨_, rfl⟩, hW, hsame.mono (by decide) (by decide)⟩
  · show Steps p.tables e below (T26.setTop (mkF m 51 #[.val (.ref a1), .val (.int p2)] [(.int (1 : Int32))])) _
    exact retN X26 hx (t := .boolean) hret (by simp) (hb hby d2_51) hr
  · show Q2i Z a1 p2 h0 n0 _ T26.heap _
    exact ⟨(by rw [F2i]), N26, e26⟩
theorem d2_46 : decode prog_58_method_5_code 46 = .ok (.iconst 0, 1) := by decide +kernel
theorem d2_47 : decode prog_58_method_5_code 47 = .ok (.goto 4, 3) := by decide +kernel
theorem ef_2x (m : MethodId) (x0 : Addr) (x1 : Int32) : entryFrame m #[(.ref x0), (.int x1)] 2 = mkF m 0 #[.val (.ref x0), .val (.int x1)] [] := by first | (simp [entryFrame, mkF, argsToLocals, Value.category]; done) | rfl
def F2x  : Int32 :=
  (0 : Int32)
def Q2x (Z : State) (a1 : Addr) (p2 : Int32) (h0 : Heap) (n0 : Nat) (v : Option Value) (h : Heap) (L : List Loc) : Prop := v = some (.int (F2x)) ∧ Fr n0 L ∧ h = h0
set_option maxRecDepth 65536 in
set_option maxHeartbeats 40000000 in
theorem rm2x (l : Launch) (Z : State) (a0 : Array Value) (hw : ∀ d ∈ tables_1, d.before a0 Z = true) (ws : List Jvm.Cond) (a1 : Addr) (p2 : Int32) (h0 : Heap) (n0 : Nat) (Z0 : n0 ≤ h0.size) (E_a1 : Exa Z h0 a1 "com/example/notesmith/notesmith/note/ConvertedInterest") (Ford : Fld Z h0 a1 "java/lang/Enum" "ordinal" "I" (.int (1 : Int32))) :
    MetFree l (⟨"com/example/notesmith/notesmith/note/ConvertedInterest", "converts", "(Z)Z"⟩ : MethodName) (head1 (Jvm.Cond.code (⟨"com/example/notesmith/notesmith/note/ConvertedInterest", "converts", "(Z)Z"⟩ : MethodName) prog_58_method_5_code 2 (some .boolean) :: ws) ({ frames := 1, cells := 0, slots := 0, locals := 12 } : Room)) (fun a U => a = #[(.ref a1), (.int p2)] ∧ Z.Warmed39 U.vm ∧ U.heap = h0) (fun _ _ _ _ _ => True) (fun _ U o U' => ∃ v L, o = .returned v ∧ Q2x Z a1 p2 h0 n0 v U'.heap L ∧ FrameEnd U o U' L ({ frames := 1, cells := 0, slots := 0, locals := 12 } : Room).cells ({ frames := 1, cells := 0, slots := 0, locals := 12 } : Room).slots) := by
  refine MetFree.of_bodySF (plainFor_of_name pn_2) hisR ?_
  intro p e s m args below meth c s₁ Bd hml0 hP hK
  obtain ⟨rfl, hZ, hh⟩ := hP
  have hx := Bd.exec
  have hby := Bd.bytes
  have hml : c.maxLocals = 2 := hml0
  have hown : s.vm.findClass "com/example/notesmith/notesmith/note/ConvertedInterest" = some m.cls := findClass_of_methodNamed Bd.named
  have hnm := (name_of_methodNamed Bd.named Bd.method).1
  have hret := Bd.returns
  have hlocks : meth.locks = false := Bd.notSynchronized
  have X0 : Stand p l e ({ frames := 1, cells := 0, slots := 0, locals := 12 } : Room) s m #[(.ref a1), (.int p2)] below meth c s₁ [] 0 0 := Stand.of_body Bd
  have e0 : s₁.heap = h0 := by rw [← hh, Bd.state]; rfl
  have N0 := Fr.nil n0
  have pre0 : ∀ t, Steps p.tables e below (s₁.setTop (mkF m 0 #[.val (.ref a1), .val (.int p2)] [])) t → Steps p.tables e below (s₁.setTop (entryFrame m #[(.ref a1), (.int p2)] 2)) t := fun t k => castTop (ef_2x m a1 p2) k
  have pre29 : ∀ t, Steps p.tables e below (s₁.setTop (mkF m 1 #[.val (.ref a1), .val (.int p2)] [(.ref a1)])) t → Steps p.tables e below (s₁.setTop (entryFrame m #[(.ref a1), (.int p2)] 2)) t := by
    intro t k
    refine pre0 _ ?_
    show Steps p.tables e below (s₁.setTop (mkF m 0 #[.val (.ref a1), .val (.int p2)] [])) _
    refine XS.aloadN X0.here hx rfl (hb hby d2_0) rfl rfl ?_
    exact k
  obtain ⟨cq30, kq30, q30a, q30b, q30c⟩ := isOf hZ e0 E_a1
  obtain ⟨_, _, ⟨T30, L30, k30, n30⟩, -, X30, ⟨Lc30, hQ30, l30, y30, z30⟩, st30⟩ := X0.virtualBackUp hx (owner := "java/lang/Enum") (x := (⟨"com/example/notesmith/notesmith/note/ConvertedInterest", "ordinal", "()I"⟩ : MethodName)) (y := (⟨"java/lang/Enum", "ordinal", "()I"⟩ : MethodName)) hown (mvT hZ (hw _ (List.mem_of_getElem? (i := 13) rfl))) (mvT hZ (hw _ (List.mem_of_getElem? (i := 14) rfl))) (mvT hZ (hw _ (List.mem_of_getElem? (i := 15) rfl))) (by decide) (mvT hZ (hw _ (List.mem_of_getElem? (i := 17) rfl))) (mvT hZ (hw _ (List.mem_of_getElem? (i := 16) rfl))) (backOf (W := 0) (rm3 l Z a0 hw [] a1 (1 : Int32) h0 n0 Z0 Ford) hZ (hw _ (List.mem_of_getElem? (i := 19) rfl)) (hw _ (List.mem_of_getElem? (i := 18) rfl)) (by decide) (by decide)) q30a q30c (g := (mkF m 1 #[.val (.ref a1), .val (.int p2)] [(.ref a1)])) rfl (by rw [hml]; rfl) (Steps.refl _) (argsL := []) (rest := []) (lenOf pd___I rfl) rfl (by show 2 * 0 + _ ≤ _; exact Nat.le_of_eq rfl) (hb hby d2_1) (fun _ _ => ⟨rfl, e0, (by decide : 0 + 0 ≤ _), (by decide : 0 + 0 ≤ _)⟩)
  dsimp only [Pt.U, Pt.locs, Pt.cells, Pt.slots] at X30 l30 y30 z30 st30 hQ30
  subst l30 y30 z30
  obtain ⟨rfl, N30q, e30⟩ := hQ30
  have N30 := Fr.app N0 N30q
  have pre31 : ∀ t, Steps p.tables e below (T30.setTop (mkF m 4 #[.val (.ref a1), .val (.int p2)] [(.int (1 : Int32))])) t → Steps p.tables e below (s₁.setTop (entryFrame m #[(.ref a1), (.int p2)] 2)) t := by
    intro t k
    refine pre29 _ ?_
    show Steps p.tables e below (s₁.setTop (mkF m 1 #[.val (.ref a1), .val (.int p2)] [(.ref a1)])) _
    refine st30.trans ?_
    exact k
  have pre32 : ∀ t, Steps p.tables e below (T30.setTop (mkF m 51 #[.val (.ref a1), .val (.int p2)] [(.int (0 : Int32))])) t → Steps p.tables e below (s₁.setTop (entryFrame m #[(.ref a1), (.int p2)] 2)) t := by
    intro t k
    refine pre31 _ ?_
    show Steps p.tables e below (T30.setTop (mkF m 4 #[.val (.ref a1), .val (.int p2)] [(.int (1 : Int32))])) _
    refine XS.tswIn X30.here hx rfl (pc0 := 4) (pc' := 46) rfl (hb hby d2_4) rfl (by decide) (o := 42) (by decide) (by decide) (by decide) ?_
    show Steps p.tables e below (T30.setTop (mkF m 46 #[.val (.ref a1), .val (.int p2)] [])) _
    refine XS.iconst X30.here hx rfl (hb hby d2_46) ?_
    show Steps p.tables e below (T30.setTop (mkF m 47 #[.val (.ref a1), .val (.int p2)] [(.int (0 : Int32))])) _
    refine XS.goto X30.here hx rfl (pc0 := 47) (pc' := 51) rfl (hb hby d2_47) (by decide) (by decide) ?_
    exact k
  obtain ⟨fs, hr, hrun, hended, hW, hsame⟩ := X30.leave (v := some (.int (0 : Int32))) (fun h => by rw [hret] at h; cases h)
  refine ⟨_, _, pre32 _ ?_, hrun, hended, _, _, rfl, ?_, ⟨_, rfl⟩, hW, hsame.mono (by decide) (by decide)⟩
  · show Steps p.tables e below (T30.setTop (mkF m 51 #[.val (.ref a1), .val (.int p2)] [(.int (0 : Int32))])) _
    exact retN X30 hx (t := .boolean) hret (by simp) (hb hby d2_51) hr
  · show Q2x Z a1 p2 h0 n0 _ T30.heap _
    exact ⟨(by rw [F2x]), N30, e30⟩
theorem d2_50 : decode prog_58_method_5_code 50 = .ok (.iload_n 1, 1) := by decide +kernel
theorem ef_2e (m : MethodId) (x0 : Addr) (x1 : Int32) : entryFrame m #[(.ref x0), (.int x1)] 2 = mkF m 0 #[.val (.ref x0), .val (.int x1)] [] := by first | (simp [entryFrame, mkF, argsToLocals, Value.category]; done) | rfl
def F2e (p2 : Int32) : Int32 :=
  (nar .boolean p2)
def Q2e (Z : State) (a1 : Addr) (p2 : Int32) (h0 : Heap) (n0 : Nat) (v : Option Value) (h : Heap) (L : List Loc) : Prop := v = some (.int (F2e p2)) ∧ Fr n0 L ∧ h = h0
set_option maxRecDepth 65536 in
set_option maxHeartbeats 40000000 in
theorem rm2e (l : Launch) (Z : State) (a0 : Array Value) (hw : ∀ d ∈ tables_1, d.before a0 Z = true) (ws : List Jvm.Cond) (a1 : Addr) (p2 : Int32) (h0 : Heap) (n0 : Nat) (Z0 : n0 ≤ h0.size) (E_a1 : Exa Z h0 a1 "com/example/notesmith/notesmith/note/ConvertedInterest") (Ford : Fld Z h0 a1 "java/lang/Enum" "ordinal" "I" (.int (2 : Int32))) :
    MetFree l (⟨"com/example/notesmith/notesmith/note/ConvertedInterest", "converts", "(Z)Z"⟩ : MethodName) (head1 (Jvm.Cond.code (⟨"com/example/notesmith/notesmith/note/ConvertedInterest", "converts", "(Z)Z"⟩ : MethodName) prog_58_method_5_code 2 (some .boolean) :: ws) ({ frames := 1, cells := 0, slots := 0, locals := 12 } : Room)) (fun a U => a = #[(.ref a1), (.int p2)] ∧ Z.Warmed39 U.vm ∧ U.heap = h0) (fun _ _ _ _ _ => True) (fun _ U o U' => ∃ v L, o = .returned v ∧ Q2e Z a1 p2 h0 n0 v U'.heap L ∧ FrameEnd U o U' L ({ frames := 1, cells := 0, slots := 0, locals := 12 } : Room).cells ({ frames := 1, cells := 0, slots := 0, locals := 12 } : Room).slots) := by
  refine MetFree.of_bodySF (plainFor_of_name pn_2) hisR ?_
  intro p e s m args below meth c s₁ Bd hml0 hP hK
  obtain ⟨rfl, hZ, hh⟩ := hP
  have hx := Bd.exec
  have hby := Bd.bytes
  have hml : c.maxLocals = 2 := hml0
  have hown : s.vm.findClass "com/example/notesmith/notesmith/note/ConvertedInterest" = some m.cls := findClass_of_methodNamed Bd.named
  have hnm := (name_of_methodNamed Bd.named Bd.method).1
  have hret := Bd.returns
  have hlocks : meth.locks = false := Bd.notSynchronized
  have X0 : Stand p l e ({ frames := 1, cells := 0, slots := 0, locals := 12 } : Room) s m #[(.ref a1), (.int p2)] below meth c s₁ [] 0 0 := Stand.of_body Bd
  have e0 : s₁.heap = h0 := by rw [← hh, Bd.state]; rfl
  have N0 := Fr.nil n0
  have pre0 : ∀ t, Steps p.tables e below (s₁.setTop (mkF m 0 #[.val (.ref a1), .val (.int p2)] [])) t → Steps p.tables e below (s₁.setTop (entryFrame m #[(.ref a1), (.int p2)] 2)) t := fun t k => castTop (ef_2e m a1 p2) k
  have pre33 : ∀ t, Steps p.tables e below (s₁.setTop (mkF m 1 #[.val (.ref a1), .val (.int p2)] [(.ref a1)])) t → Steps p.tables e below (s₁.setTop (entryFrame m #[(.ref a1), (.int p2)] 2)) t := by
    intro t k
    refine pre0 _ ?_
    show Steps p.tables e below (s₁.setTop (mkF m 0 #[.val (.ref a1), .val (.int p2)] [])) _
    refine XS.aloadN X0.here hx rfl (hb hby d2_0) rfl rfl ?_
    exact k
  obtain ⟨cq34, kq34, q34a, q34b, q34c⟩ := isOf hZ e0 E_a1
  obtain ⟨_, _, ⟨T34, L34, k34, n34⟩, -, X34, ⟨Lc34, hQ34, l34, y34, z34⟩, st34⟩ := X0.virtualBackUp hx (owner := "java/lang/Enum") (x := (⟨"com/example/notesmith/notesmith/note/ConvertedInterest", "ordinal", "()I"⟩ : MethodName)) (y := (⟨"java/lang/Enum", "ordinal", "()I"⟩ : MethodName)) hown (mvT hZ (hw _ (List.mem_of_getElem? (i := 13) rfl))) (mvT hZ (hw _ (List.mem_of_getElem? (i := 14) rfl))) (mvT hZ (hw _ (List.mem_of_getElem? (i := 15) rfl))) (by decide) (mvT hZ (hw _ (List.mem_of_getElem? (i := 17) rfl))) (mvT hZ (hw _ (List.mem_of_getElem? (i := 16) rfl))) (backOf (W := 0) (rm3 l Z a0 hw [] a1 (2 : Int32) h0 n0 Z0 Ford) hZ (hw _ (List.mem_of_getElem? (i := 19) rfl)) (hw _ (List.mem_of_getElem? (i := 18) rfl)) (by decide) (by decide)) q34a q34c (g := (mkF m 1 #[.val (.ref a1), .val (.int p2)] [(.ref a1)])) rfl (by rw [hml]; rfl) (Steps.refl _) (argsL := []) (rest := []) (lenOf pd___I rfl) rfl (by show 2 * 0 + _ ≤ _; exact Nat.le_of_eq rfl) (hb hby d2_1) (fun _ _ => ⟨rfl, e0, (by decide : 0 + 0 ≤ _), (by decide : 0 + 0 ≤ _)⟩)
  dsimp only [Pt.U, Pt.locs, Pt.cells, Pt.slots] at X34 l34 y34 z34 st34 hQ34
  subst l34 y34 z34
  obtain ⟨rfl, N34q, e34⟩ := hQ34
  have N34 := Fr.app N0 N34q
  have pre35 : ∀ t, Steps p.tables e below (T34.setTop (mkF m 4 #[.val (.ref a1), .val (.int p2)] [(.int (2 : Int32))])) t → Steps p.tables e below (s₁.setTop (entryFrame m #[(.ref a1), (.int p2)] 2)) t := by
    intro t k
    refine pre33 _ ?_
    show Steps p.tables e below (s₁.setTop (mkF m 1 #[.val (.ref a1), .val (.int p2)] [(.ref a1)])) _
    refine st34.trans ?_
    exact k
  have pre36 : ∀ t, Steps p.tables e below (T34.setTop (mkF m 51 #[.val (.ref a1), .val (.int p2)] [(.int p2)])) t → Steps p.tables e below (s₁.setTop (entryFrame m #[(.ref a1), (.int p2)] 2)) t := by
    intro t k
    refine pre35 _ ?_
    show Steps p.tables e below (T34.setTop (mkF m 4 #[.val (.ref a1), .val (.int p2)] [(.int (2 : Int32))])) _
    refine XS.tswIn X34.here hx rfl (pc0 := 4) (pc' := 50) rfl (hb hby d2_4) rfl (by decide) (o := 46) (by decide) (by decide) (by decide) ?_
    show Steps p.tables e below (T34.setTop (mkF m 50 #[.val (.ref a1), .val (.int p2)] [])) _
    refine XS.iloadN X34.here hx rfl (hb hby d2_50) rfl ?_
    exact k
  obtain ⟨fs, hr, hrun, hended, hW, hsame⟩ := X34.leave (v := some (.int (nar .boolean p2))) (fun h => by rw [hret] at h; cases h)
  refine ⟨_, _, pre36 _ ?_, hrun, hended, _, _, rfl, ?_, ⟨_, rfl⟩, hW, hsame.mono (by decide) (by decide)⟩
  · show Steps p.tables e below (T34.setTop (mkF m 51 #[.val (.ref a1), .val (.int p2)] [(.int p2)])) _
    exact retN X34 hx (t := .boolean) hret (by simp) (hb hby d2_51) hr
  · show Q2e Z a1 p2 h0 n0 _ T34.heap _
    exact ⟨(by rw [F2e]), N34, e34⟩
theorem d4_0 : decode prog_58_method_4_code 0 = .ok (.aload_n 0, 1) := by decide +kernel
theorem d4_1 : decode prog_58_method_4_code 1 = .ok (.getfield 32, 3) := by decide +kernel
theorem d4_4 : decode prog_58_method_4_code 4 = .ok (.areturn, 1) := by decide +kernel
theorem ef_4 (m : MethodId) (x0 : Addr) : entryFrame m #[(.ref x0)] 1 = mkF m 0 #[.val (.ref x0)] [] := by first | (simp [entryFrame, mkF, argsToLocals, Value.category]; done) | rfl
def F4 (f_label_a1 : Addr) : Addr :=
  f_label_a1
def Q4 (Z : State) (a1 : Addr) (f_label_a1 : Addr) (h0 : Heap) (n0 : Nat) (v : Option Value) (h : Heap) (L : List Loc) : Prop := v = some (.ref (F4 f_label_a1)) ∧ Fr n0 L ∧ h = h0
set_option maxRecDepth 65536 in
set_option maxHeartbeats 40000000 in
theorem rm4 (l : Launch) (Z : State) (a0 : Array Value) (hw : ∀ d ∈ tables_1, d.before a0 Z = true) (ws : List Jvm.Cond) (a1 : Addr) (f_label_a1 : Addr) (h0 : Heap) (n0 : Nat) (Z0 : n0 ≤ h0.size) (F_f_label_a1 : Fld Z h0 a1 "com/example/notesmith/notesmith/note/ConvertedInterest" "label" "Ljava/lang/String;" (.ref f_label_a1)) :
    MetFree l (⟨"com/example/notesmith/notesmith/note/ConvertedInterest", "label", "()Ljava/lang/String;"⟩ : MethodName) (head1 (Jvm.Cond.code (⟨"com/example/notesmith/notesmith/note/ConvertedInterest", "label", "()Ljava/lang/String;"⟩ : MethodName) prog_58_method_4_code 1 (some (.object "java/lang/String")) :: ws) ({ frames := 0, cells := 0, slots := 0, locals := 0 } : Room)) (fun a U => a = #[(.ref a1)] ∧ Z.Warmed39 U.vm ∧ U.heap = h0) (fun _ _ _ _ _ => True) (fun _ U o U' => ∃ v L, o = .returned v ∧ Q4 Z a1 f_label_a1 h0 n0 v U'.heap L ∧ FrameEnd U o U' L ({ frames := 0, cells := 0, slots := 0, locals := 0 } : Room).cells ({ frames := 0, cells := 0, slots := 0, locals := 0 } : Room).slots) := by
  refine MetFree.of_bodySF (plainFor_of_name pn_2) hisR ?_
  intro p e s m args below meth c s₁ Bd hml0 hP hK
  obtain ⟨rfl, hZ, hh⟩ := hP
  have hx := Bd.exec
  have hby := Bd.bytes
  have hml : c.maxLocals = 1 := hml0
  have hown : s.vm.findClass "com/example/notesmith/notesmith/note/ConvertedInterest" = some m.cls := findClass_of_methodNamed Bd.named
  have hnm := (name_of_methodNamed Bd.named Bd.method).1
  have hret := Bd.returns
  have hlocks : meth.locks = false := Bd.notSynchronized
  have X0 : Stand p l e ({ frames := 0, cells := 0, slots := 0, locals := 0 } : Room) s m #[(.ref a1)] below meth c s₁ [] 0 0 := Stand.of_body Bd
  have e0 : s₁.heap = h0 := by rw [← hh, Bd.state]; rfl
  have N0 := Fr.nil n0
  have pre0 : ∀ t, Steps p.tables e below (s₁.setTop (mkF m 0 #[.val (.ref a1)] [])) t → Steps p.tables e below (s₁.setTop (entryFrame m #[(.ref a1)] 1)) t := fun t k => castTop (ef_4 m a1) k
  have pre37 : ∀ t, Steps p.tables e below (s₁.setTop (mkF m 1 #[.val (.ref a1)] [(.ref a1)])) t → Steps p.tables e below (s₁.setTop (entryFrame m #[(.ref a1)] 1)) t := by
    intro t k
    refine pre0 _ ?_
    show Steps p.tables e below (s₁.setTop (mkF m 0 #[.val (.ref a1)] [])) _
    refine XS.aloadN X0.here hx rfl (hb hby d4_0) rfl rfl ?_
    exact k
  obtain ⟨T38, X38, e38, st38⟩ := getF X0 hx hZ hown (host := "") (Or.inl (hw _ (List.mem_of_getElem? (i := 27) rfl))) Via.refl e0 F_f_label_a1 (g := (mkF m 1 #[.val (.ref a1)] [(.ref a1)])) rfl rfl (hb hby d4_1)
  have pre39 : ∀ t, Steps p.tables e below (T38.setTop (mkF m 4 #[.val (.ref a1)] [(.ref f_label_a1)])) t → Steps p.tables e below (s₁.setTop (entryFrame m #[(.ref a1)] 1)) t := by
    intro t k
    refine pre37 _ ?_
    show Steps p.tables e below (s₁.setTop (mkF m 1 #[.val (.ref a1)] [(.ref a1)])) _
    refine st38 _ ?_
    exact k
  obtain ⟨fs, hr, hrun, hended, hW, hsame⟩ := X38.leave (v := some (.ref f_label_a1)) (fun h => by rw [hret] at h; cases h)
  refine ⟨_, _, pre39 _ ?_, hrun, hended, _, _, rfl, ?_, ⟨_, rfl⟩, hW, hsame.mono (by decide) (by decide)⟩
  · show Steps p.tables e below (T38.setTop (mkF m 4 #[.val (.ref a1)] [(.ref f_label_a1)])) _
    jvm_step X38.here [X38.here.top, hx, (hb hby d4_4), X38.method', hret, Value.isRef, FieldType.isReference]
    first | (intro acts; rw [hr _ acts rfl rfl rfl]) | rw [hr _ _ rfl rfl rfl]
    exact Steps.refl _
  · show Q4 Z a1 f_label_a1 h0 n0 _ T38.heap _
    exact ⟨(by rw [F4]), N0, e38⟩
theorem d6_0 : decode jdk_43_method_13_code 0 = .ok (.aload_n 0, 1) := by decide +kernel
theorem d6_1 : decode jdk_43_method_13_code 1 = .ok (.arraylength, 1) := by decide +kernel
theorem d6_2 : decode jdk_43_method_13_code 2 = .ok (.aload_n 1, 1) := by decide +kernel
theorem d6_3 : decode jdk_43_method_13_code 3 = .ok (.arraylength, 1) := by decide +kernel
theorem d6_4 : decode jdk_43_method_13_code 4 = .ok (.if_icmp .ne 30, 3) := by decide +kernel
theorem d6_7 : decode jdk_43_method_13_code 7 = .ok (.iconst 0, 1) := by decide +kernel
theorem d6_8 : decode jdk_43_method_13_code 8 = .ok (.istore_n 2, 1) := by decide +kernel
theorem d6_9 : decode jdk_43_method_13_code 9 = .ok (.iload_n 2, 1) := by decide +kernel
theorem d6_10 : decode jdk_43_method_13_code 10 = .ok (.aload_n 0, 1) := by decide +kernel
theorem d6_11 : decode jdk_43_method_13_code 11 = .ok (.arraylength, 1) := by decide +kernel
theorem d6_12 : decode jdk_43_method_13_code 12 = .ok (.if_icmp .ge 20, 3) := by decide +kernel
theorem d6_15 : decode jdk_43_method_13_code 15 = .ok (.aload_n 0, 1) := by decide +kernel
theorem d6_16 : decode jdk_43_method_13_code 16 = .ok (.iload_n 2, 1) := by decide +kernel
theorem d6_17 : decode jdk_43_method_13_code 17 = .ok (.baload, 1) := by decide +kernel
theorem d6_18 : decode jdk_43_method_13_code 18 = .ok (.aload_n 1, 1) := by decide +kernel
theorem d6_19 : decode jdk_43_method_13_code 19 = .ok (.iload_n 2, 1) := by decide +kernel
theorem d6_20 : decode jdk_43_method_13_code 20 = .ok (.baload, 1) := by decide +kernel
theorem d6_21 : decode jdk_43_method_13_code 21 = .ok (.if_icmp .eq 5, 3) := by decide +kernel
theorem d6_26 : decode jdk_43_method_13_code 26 = .ok (.iinc 2 1, 3) := by decide +kernel
theorem d6_29 : decode jdk_43_method_13_code 29 = .ok (.goto (-20), 3) := by decide +kernel
theorem d6_32 : decode jdk_43_method_13_code 32 = .ok (.iconst 1, 1) := by decide +kernel
theorem d6_33 : decode jdk_43_method_13_code 33 = .ok (.ireturn, 1) := by decide +kernel
theorem pn_6 : plainName "java/lang/StringLatin1" = true := by first | (simp [plainName, overriddenIn]; done) | decide +kernel
theorem ef_6ii (m : MethodId) (x0 : Addr) (x1 : Addr) : entryFrame m #[(.ref x0), (.ref x1)] 3 = mkF m 0 #[.val (.ref x0), .val (.ref x1), .unset] [] := by first | (simp [entryFrame, mkF, argsToLocals, Value.category]; done) | rfl
def Q6ii (Z : State) (a1 : Addr) (a2 : Addr) (k1 : ClassId) (k2 : ClassId) (h0 : Heap) (n0 : Nat) (v : Option Value) (h : Heap) (L : List Loc) : Prop := v = some (.int (1 : Int32)) ∧ Fr n0 L ∧ h = h0
set_option maxRecDepth 65536 in
set_option maxHeartbeats 40000000 in
theorem rm6ii (l : Launch) (Z : State) (a0 : Array Value) (hw : ∀ d ∈ tables_1, d.before a0 Z = true) (ws : List Jvm.Cond) (a1 : Addr) (a2 : Addr) (k1 : ClassId) (k2 : ClassId) (h0 : Heap) (n0 : Nat) (Z0 : n0 ≤ h0.size) (A1 : Arv Z h0 a1 k1 .byte (8 : Int32) [.int (105 : Int32), .int (110 : Int32), .int (99 : Int32), .int (108 : Int32), .int (117 : Int32), .int (100 : Int32), .int (101 : Int32), .int (100 : Int32)] (.int (0 : Int32))) (A2 : Arv Z h0 a2 k2 .byte (8 : Int32) [.int (105 : Int32), .int (110 : Int32), .int (99 : Int32), .int (108 : Int32), .int (117 : Int32), .int (100 : Int32), .int (101 : Int32), .int (100 : Int32)] (.int (0 : Int32))) :
    MetFree l (⟨"java/lang/StringLatin1", "equals", "([B[B)Z"⟩ : MethodName) (head1 (Jvm.Cond.code (⟨"java/lang/StringLatin1", "equals", "([B[B)Z"⟩ : MethodName) jdk_43_method_13_code 3 (some .boolean) :: ws) ({ frames := 0, cells := 0, slots := 0, locals := 0 } : Room)) (fun a U => a = #[(.ref a1), (.ref a2)] ∧ Z.Warmed39 U.vm ∧ U.heap = h0) (fun _ _ _ _ _ => True) (fun _ U o U' => ∃ v L, o = .returned v ∧ Q6ii Z a1 a2 k1 k2 h0 n0 v U'.heap L ∧ FrameEnd U o U' L ({ frames := 0, cells := 0, slots := 0, locals := 0 } : Room).cells ({ frames := 0, cells := 0, slots := 0, locals := 0 } : Room).slots) := by
  refine MetFree.of_bodySF (plainFor_of_name pn_6) hisR ?_
  intro p e s m args below meth c s₁ Bd hml0 hP hK
  obtain ⟨rfl, hZ, hh⟩ := hP
  have hx := Bd.exec
  have hby := Bd.bytes
  have hml : c.maxLocals = 3 := hml0
  have hown : s.vm.findClass "java/lang/StringLatin1" = some m.cls := findClass_of_methodNamed Bd.named
  have hnm := (name_of_methodNamed Bd.named Bd.method).1
  have hret := Bd.returns
  have hlocks : meth.locks = false := Bd.notSynchronized
  have X0 : Stand p l e ({ frames := 0, cells := 0, slots := 0, locals := 0 } : Room) s m #[(.ref a1), (.ref a2)] below meth c s₁ [] 0 0 := Stand.of_body Bd
  have e0 : s₁.heap = h0 := by rw [← hh, Bd.state]; rfl
  have N0 := Fr.nil n0
  obtain ⟨cl1, Ar1, _, S1, N_1, H1, _⟩ := A1
  obtain ⟨cl2, Ar2, _, S2, N_2, H2, _⟩ := A2
  have pre0 : ∀ t, Steps p.tables e below (s₁.setTop (mkF m 0 #[.val (.ref a1), .val (.ref a2), .unset] [])) t → Steps p.tables e below (s₁.setTop (entryFrame m #[(.ref a1), (.ref a2)] 3)) t := fun t k => castTop (ef_6ii m a1 a2) k
  have pre40 : ∀ t, Steps p.tables e below (s₁.setTop (mkF m 4 #[.val (.ref a1), .val (.ref a2), .unset] [(.int (8 : Int32)), (.int (8 : Int32))])) t → Steps p.tables e below (s₁.setTop (entryFrame m #[(.ref a1), (.ref a2)] 3)) t := by
    intro t k
    refine pre0 _ ?_
    show Steps p.tables e below (s₁.setTop (mkF m 0 #[.val (.ref a1), .val (.ref a2), .unset] [])) _
    refine XS.aloadN X0.here hx rfl (hb hby d6_0) rfl rfl ?_
    show Steps p.tables e below (s₁.setTop (mkF m 1 #[.val (.ref a1), .val (.ref a2), .unset] [(.ref a1)])) _
    refine X0.arraylength hx (by rw [e0]; exact Ar1.1) (State.isArrayOf_alike hZ.alike Ar1.2.1) (g := (mkF m 1 #[.val (.ref a1), .val (.ref a2), .unset] [(.ref a1)])) rfl rfl (hb hby d6_1) _ ?_
    rw [len_of S1 N_1]
    show Steps p.tables e below (s₁.setTop (mkF m 2 #[.val (.ref a1), .val (.ref a2), .unset] [(.int (8 : Int32))])) _
    refine XS.aloadN X0.here hx rfl (hb hby d6_2) rfl rfl ?_
    show Steps p.tables e below (s₁.setTop (mkF m 3 #[.val (.ref a1), .val (.ref a2), .unset] [(.ref a2), (.int (8 : Int32))])) _
    refine X0.arraylength hx (by rw [e0]; exact Ar2.1) (State.isArrayOf_alike hZ.alike Ar2.2.1) (g := (mkF m 3 #[.val (.ref a1), .val (.ref a2), .unset] [(.ref a2), (.int (8 : Int32))])) rfl rfl (hb hby d6_3) _ ?_
    rw [len_of S2 N_2]
    exact k
  have pre42 : ∀ t, Steps p.tables e below (s₁.setTop (mkF m 7 #[.val (.ref a1), .val (.ref a2), .unset] [])) t → Steps p.tables e below (s₁.setTop (entryFrame m #[(.ref a1), (.ref a2)] 3)) t := by
    intro t k
    refine pre40 _ ?_
    show Steps p.tables e below (s₁.setTop (mkF m 4 #[.val (.ref a1), .val (.ref a2), .unset] [(.int (8 : Int32)), (.int (8 : Int32))])) _
    refine XS.icmpNo X0.here hx rfl (hb hby d6_4) rfl (teq (rfl : (8 : Int32) = (8 : Int32))).2 ?_
    exact k
  have pre43 : ∀ t, Steps p.tables e below (s₁.setTop (mkF m 12 #[.val (.ref a1), .val (.ref a2), .val (.int (0 : Int32))] [(.int (8 : Int32)), (.int (0 : Int32))])) t → Steps p.tables e below (s₁.setTop (entryFrame m #[(.ref a1), (.ref a2)] 3)) t := by
    intro t k
    refine pre42 _ ?_
    show Steps p.tables e below (s₁.setTop (mkF m 7 #[.val (.ref a1), .val (.ref a2), .unset] [])) _
    refine XS.iconst X0.here hx rfl (hb hby d6_7) ?_
    show Steps p.tables e below (s₁.setTop (mkF m 8 #[.val (.ref a1), .val (.ref a2), .unset] [(.int (0 : Int32))])) _
    refine XS.istoreN X0.here hx rfl (hb hby d6_8) rfl (l' := #[.val (.ref a1), .val (.ref a2), .val (.int (0 : Int32))]) rfl ?_
    show Steps p.tables e below (s₁.setTop (mkF m 9 #[.val (.ref a1), .val (.ref a2), .val (.int (0 : Int32))] [])) _
    refine XS.iloadN X0.here hx rfl (hb hby d6_9) rfl ?_
    show Steps p.tables e below (s₁.setTop (mkF m 10 #[.val (.ref a1), .val (.ref a2), .val (.int (0 : Int32))] [(.int (0 : Int32))])) _
    refine XS.aloadN X0.here hx rfl (hb hby d6_10) rfl rfl ?_
    show Steps p.tables e below (s₁.setTop (mkF m 11 #[.val (.ref a1), .val (.ref a2), .val (.int (0 : Int32))] [(.ref a1), (.int (0 : Int32))])) _
    refine X0.arraylength hx (by rw [e0]; exact Ar1.1) (State.isArrayOf_alike hZ.alike Ar1.2.1) (g := (mkF m 11 #[.val (.ref a1), .val (.ref a2), .val (.int (0 : Int32))] [(.ref a1), (.int (0 : Int32))])) rfl rfl (hb hby d6_11) _ ?_
    rw [len_of S1 N_1]
    exact k
  have pre45 : ∀ t, Steps p.tables e below (s₁.setTop (mkF m 15 #[.val (.ref a1), .val (.ref a2), .val (.int (0 : Int32))] [])) t → Steps p.tables e below (s₁.setTop (entryFrame m #[(.ref a1), (.ref a2)] 3)) t := by
    intro t k
    refine pre43 _ ?_
    show Steps p.tables e below (s₁.setTop (mkF m 12 #[.val (.ref a1), .val (.ref a2), .val (.int (0 : Int32))] [(.int (8 : Int32)), (.int (0 : Int32))])) _
    refine XS.icmpNo X0.here hx rfl (hb hby d6_12) rfl (tlt (by decide : (0 : Int32) < (8 : Int32))).2.1 ?_
    exact k
  have pre46 : ∀ t, Steps p.tables e below (s₁.setTop (mkF m 21 #[.val (.ref a1), .val (.ref a2), .val (.int (0 : Int32))] [(.int (105 : Int32)), (.int (105 : Int32))])) t → Steps p.tables e below (s₁.setTop (entryFrame m #[(.ref a1), (.ref a2)] 3)) t := by
    intro t k
    refine pre45 _ ?_
    show Steps p.tables e below (s₁.setTop (mkF m 15 #[.val (.ref a1), .val (.ref a2), .val (.int (0 : Int32))] [])) _
    refine XS.aloadN X0.here hx rfl (hb hby d6_15) rfl rfl ?_
    show Steps p.tables e below (s₁.setTop (mkF m 16 #[.val (.ref a1), .val (.ref a2), .val (.int (0 : Int32))] [(.ref a1)])) _
    refine XS.iloadN X0.here hx rfl (hb hby d6_16) rfl ?_
    show Steps p.tables e below (s₁.setTop (mkF m 17 #[.val (.ref a1), .val (.ref a2), .val (.int (0 : Int32))] [(.int (0 : Int32)), (.ref a1)])) _
    refine X0.baloadBytes hx (j := (0 : Int32)) (v := (.int (105 : Int32))) (by rw [e0]; exact Ar1.1) (State.isArrayOf_alike hZ.alike Ar1.2.1) Ar1.2.2 (inb_of S1 ⟨by decide, by decide⟩) (Has.at (v := (.int (105 : Int32))) H1 (inb_of S1 ⟨by decide, by decide⟩) rfl) (g := (mkF m 17 #[.val (.ref a1), .val (.ref a2), .val (.int (0 : Int32))] [(.int (0 : Int32)), (.ref a1)])) rfl rfl (hb hby d6_17) _ ?_
    show Steps p.tables e below (s₁.setTop (mkF m 18 #[.val (.ref a1), .val (.ref a2), .val (.int (0 : Int32))] [(.int (105 : Int32))])) _
    refine XS.aloadN X0.here hx rfl (hb hby d6_18) rfl rfl ?_
    show Steps p.tables e below (s₁.setTop (mkF m 19 #[.val (.ref a1), .val (.ref a2), .val (.int (0 : Int32))] [(.ref a2), (.int (105 : Int32))])) _
    refine XS.iloadN X0.here hx rfl (hb hby d6_19) rfl ?_
    show Steps p.tables e below (s₁.setTop (mkF m 20 #[.val (.ref a1), .val (.ref a2), .val (.int (0 : Int32))] [(.int (0 : Int32)), (.ref a2), (.int (105 : Int32))])) _
    refine X0.baloadBytes hx (j := (0 : Int32)) (v := (.int (105 : Int32))) (by rw [e0]; exact Ar2.1) (State.isArrayOf_alike hZ.alike Ar2.2.1) Ar2.2.2 (inb_of S2 ⟨by decide, by decide⟩) (Has.at (v := (.int (105 : Int32))) H2 (inb_of S2 ⟨by decide, by decide⟩) rfl) (g := (mkF m 20 #[.val (.ref a1), .val (.ref a2), .val (.int (0 : Int32))] [(.int (0 : Int32)), (.ref a2), (.int (105 : Int32))])) rfl rfl (hb hby d6_20) _ ?_
    exact k
  have pre48 : ∀ t, Steps p.tables e below (s₁.setTop (mkF m 26 #[.val (.ref a1), .val (.ref a2), .val (.int (0 : Int32))] [])) t → Steps p.tables e below (s₁.setTop (entryFrame m #[(.ref a1), (.ref a2)] 3)) t := by
    intro t k
    refine pre46 _ ?_
    show Steps p.tables e below (s₁.setTop (mkF m 21 #[.val (.ref a1), .val (.ref a2), .val (.int (0 : Int32))] [(.int (105 : Int32)), (.int (105 : Int32))])) _
    refine XS.icmpYes X0.here hx rfl (pc0 := 21) (pc' := 26) rfl (hb hby d6_21) rfl (teq (rfl : (105 : Int32) = (105 : Int32))).1 (by decide) (by decide) ?_
    exact k
  have pre49 : ∀ t, Steps p.tables e below (s₁.setTop (mkF m 12 #[.val (.ref a1), .val (.ref a2), .val (.int (1 : Int32))] [(.int (8 : Int32)), (.int (1 : Int32))])) t → Steps p.tables e below (s₁.setTop (entryFrame m #[(.ref a1), (.ref a2)] 3)) t := by
    intro t k
    refine pre48 _ ?_
    show Steps p.tables e below (s₁.setTop (mkF m 26 #[.val (.ref a1), .val (.ref a2), .val (.int (0 : Int32))] [])) _
    refine XS.iinc X0.here hx rfl (hb hby d6_26) rfl (l' := #[.val (.ref a1), .val (.ref a2), .val (.int (1 : Int32))]) rfl ?_
    show Steps p.tables e below (s₁.setTop (mkF m 29 #[.val (.ref a1), .val (.ref a2), .val (.int (1 : Int32))] [])) _
    refine XS.goto X0.here hx rfl (pc0 := 29) (pc' := 9) rfl (hb hby d6_29) (by decide) (by decide) ?_
    show Steps p.tables e below (s₁.setTop (mkF m 9 #[.val (.ref a1), .val (.ref a2), .val (.int (1 : Int32))] [])) _
    refine XS.iloadN X0.here hx rfl (hb hby d6_9) rfl ?_
    show Steps p.tables e below (s₁.setTop (mkF m 10 #[.val (.ref a1), .val (.ref a2), .val (.int (1 : Int32))] [(.int (1 : Int32))])) _
    refine XS.aloadN X0.here hx rfl (hb hby d6_10) rfl rfl ?_
    show Steps p.tables e below (s₁.setTop (mkF m 11 #[.val (.ref a1), .val (.ref a2), .val (.int (1 : Int32))] [(.ref a1), (.int (1 : Int32))])) _
    refine X0.arraylength hx (by rw [e0]; exact Ar1.1) (State.isArrayOf_alike hZ.alike Ar1.2.1) (g := (mkF m 11 #[.val (.ref a1), .val (.ref a2), .val (.int (1 : Int32))] [(.ref a1), (.int (1 : Int32))])) rfl rfl (hb hby d6_11) _ ?_
    rw [len_of S1 N_1]
    exact k
  have pre51 : ∀ t, Steps p.tables e below (s₁.setTop (mkF m 15 #[.val (.ref a1), .val (.ref a2), .val (.int (1 : Int32))] [])) t → Steps p.tables e below (s₁.setTop (entryFrame m #[(.ref a1), (.ref a2)] 3)) t := by
    intro t k
    refine pre49 _ ?_
    show Steps p.tables e below (s₁.setTop (mkF m 12 #[.val (.ref a1), .val (.ref a2), .val (.int (1 : Int32))] [(.int (8 : Int32)), (.int (1 : Int32))])) _
    refine XS.icmpNo X0.here hx rfl (hb hby d6_12) rfl (tlt (by decide : (1 : Int32) < (8 : Int32))).2.1 ?_
    exact k
  have pre52 : ∀ t, Steps p.tables e below (s₁.setTop (mkF m 21 #[.val (.ref a1), .val (.ref a2), .val (.int (1 : Int32))] [(.int (110 : Int32)), (.int (110 : Int32))])) t → Steps p.tables e below (s₁.setTop (entryFrame m #[(.ref a1), (.ref a2)] 3)) t := by
    intro t k
    refine pre51 _ ?_
    show Steps p.tables e below (s₁.setTop (mkF m 15 #[.val (.ref a1), .val (.ref a2), .val (.int (1 : Int32))] [])) _
    refine XS.aloadN X0.here hx rfl (hb hby d6_15) rfl rfl ?_
    show Steps p.tables e below (s₁.setTop (mkF m 16 #[.val (.ref a1), .val (.ref a2), .val (.int (1 : Int32))] [(.ref a1)])) _
    refine XS.iloadN X0.here hx rfl (hb hby d6_16) rfl ?_
    show Steps p.tables e below (s₁.setTop (mkF m 17 #[.val (.ref a1), .val (.ref a2), .val (.int (1 : Int32))] [(.int (1 : Int32)), (.ref a1)])) _
    refine X0.baloadBytes hx (j := (1 : Int32)) (v := (.int (110 : Int32))) (by rw [e0]; exact Ar1.1) (State.isArrayOf_alike hZ.alike Ar1.2.1) Ar1.2.2 (inb_of S1 ⟨by decide, by decide⟩) (Has.at (v := (.int (110 : Int32))) H1 (inb_of S1 ⟨by decide, by decide⟩) rfl) (g := (mkF m 17 #[.val (.ref a1), .val (.ref a2), .val (.int (1 : Int32))] [(.int (1 : Int32)), (.ref a1)])) rfl rfl (hb hby d6_17) _ ?_
    show Steps p.tables e below (s₁.setTop (mkF m 18 #[.val (.ref a1), .val (.ref a2), .val (.int (1 : Int32))] [(.int (110 : Int32))])) _
    refine XS.aloadN X0.here hx rfl (hb hby d6_18) rfl rfl ?_
    show Steps p.tables e below (s₁.setTop (mkF m 19 #[.val (.ref a1), .val (.ref a2), .val (.int (1 : Int32))] [(.ref a2), (.int (110 : Int32))])) _
    refine XS.iloadN X0.here hx rfl (hb hby d6_19) rfl ?_
    show Steps p.tables e below (s₁.setTop (mkF m 20 #[.val (.ref a1), .val (.ref a2), .val (.int (1 : Int32))] [(.int (1 : Int32)), (.ref a2), (.int (110 : Int32))])) _
    refine X0.baloadBytes hx (j := (1 : Int32)) (v := (.int (110 : Int32))) (by rw [e0]; exact Ar2.1) (State.isArrayOf_alike hZ.alike Ar2.2.1) Ar2.2.2 (inb_of S2 ⟨by decide, by decide⟩) (Has.at (v := (.int (110 : Int32))) H2 (inb_of S2 ⟨by decide, by decide⟩) rfl) (g := (mkF m 20 #[.val (.ref a1), .val (.ref a2), .val (.int (1 : Int32))] [(.int (1 : Int32)), (.ref a2), (.int (110 : Int32))])) rfl rfl (hb hby d6_20) _ ?_
    exact k
  have pre54 : ∀ t, Steps p.tables e below (s₁.setTop (mkF m 26 #[.val (.ref a1), .val (.ref a2), .val (.int (1 : Int32))] [])) t → Steps p.tables e below (s₁.setTop (entryFrame m #[(.ref a1), (.ref a2)] 3)) t := by
    intro t k
    refine pre52 _ ?_
    show Steps p.tables e below (s₁.setTop (mkF m 21 #[.val (.ref a1), .val (.ref a2), .val (.int (1 : Int32))] [(.int (110 : Int32)), (.int (110 : Int32))])) _
    refine XS.icmpYes X0.here hx rfl (pc0 := 21) (pc' := 26) rfl (hb hby d6_21) rfl (teq (rfl : (110 : Int32) = (110 : Int32))).1 (by decide) (by decide) ?_
    exact k
  have pre55 : ∀ t, Steps p.tables e below (s₁.setTop (mkF m 12 #[.val (.ref a1), .val (.ref a2), .val (.int (2 : Int32))] [(.int (8 : Int32)), (.int (2 : Int32))])) t → Steps p.tables e below (s₁.setTop (entryFrame m #[(.ref a1), (.ref a2)] 3)) t := by
    intro t k
    refine pre54 _ ?_
    show Steps p.tables e below (s₁.setTop (mkF m 26 #[.val (.ref a1), .val (.ref a2), .val (.int (1 : Int32))] [])) _
    refine XS.iinc X0.here hx rfl (hb hby d6_26) rfl (l' := #[.val (.ref a1), .val (.ref a2), .val (.int (2 : Int32))]) rfl ?_
    show Steps p.tables e below (s₁.setTop (mkF m 29 #[.val (.ref a1), .val (.ref a2), .val (.int (2 : Int32))] [])) _
    refine XS.goto X0.here hx rfl (pc0 := 29) (pc' := 9) rfl (hb hby d6_29) (by decide) (by decide) ?_
    show Steps p.tables e below (s₁.setTop (mkF m 9 #[.val (.ref a1), .val (.ref a2), .val (.int (2 : Int32))] [])) _
    refine XS.iloadN X0.here hx rfl (hb hby d6_9) rfl ?_
    show Steps p.tables e below (s₁.setTop (mkF m 10 #[.val (.ref a1), .val (.ref a2), .val (.int (2 : Int32))] [(.int (2 : Int32))])) _
    refine XS.aloadN X0.here hx rfl (hb hby d6_10) rfl rfl ?_
    show Steps p.tables e below (s₁.setTop (mkF m 11 #[.val (.ref a1), .val (.ref a2), .val (.int (2 : Int32))] [(.ref a1), (.int (2 : Int32))])) _
    refine X0.arraylength hx (by rw [e0]; exact Ar1.1) (State.isArrayOf_alike hZ.alike Ar1.2.1) (g := (mkF m 11 #[.val (.ref a1), .val (.ref a2), .val (.int (2 : Int32))] [(.ref a1), (.int (2 : Int32))])) rfl rfl (hb hby d6_11) _ ?_
    rw [len_of S1 N_1]
    exact k
  have pre57 : ∀ t, Steps p.tables e below (s₁.setTop (mkF m 15 #[.val (.ref a1), .val (.ref a2), .val (.int (2 : Int32))] [])) t → Steps p.tables e below (s₁.setTop (entryFrame m #[(.ref a1), (.ref a2)] 3)) t := by
    intro t k
    refine pre55 _ ?_
    show Steps p.tables e below (s₁.setTop (mkF m 12 #[.val (.ref a1), .val (.ref a2), .val (.int (2 : Int32))] [(.int (8 : Int32)), (.int (2 : Int32))])) _
    refine XS.icmpNo X0.here hx rfl (hb hby d6_12) rfl (tlt (by decide : (2 : Int32) < (8 : Int32))).2.1 ?_
    exact k
  have pre58 : ∀ t, Steps p.tables e below (s₁.setTop (mkF m 21 #[.val (.ref a1), .val (.ref a2), .val (.int (2 : Int32))] [(.int (99 : Int32)), (.int (99 : Int32))])) t → Steps p.tables e below (s₁.setTop (entryFrame m #[(.ref a1), (.ref a2)] 3)) t := by
    intro t k
    refine pre57 _ ?_
    show Steps p.tables e below (s₁.setTop (mkF m 15 #[.val (.ref a1), .val (.ref a2), .val (.int (2 : Int32))] [])) _
    refine XS.aloadN X0.here hx rfl (hb hby d6_15) rfl rfl ?_
    show Steps p.tables e below (s₁.setTop (mkF m 16 #[.val (.ref a1), .val (.ref a2), .val (.int (2 : Int32))] [(.ref a1)])) _
    refine XS.iloadN X0.here hx rfl (hb hby d6_16) rfl ?_
    show Steps p.tables e below (s₁.setTop (mkF m 17 #[.val (.ref a1), .val (.ref a2), .val (.int (2 : Int32))] [(.int (2 : Int32)), (.ref a1)])) _
    refine X0.baloadBytes hx (j := (2 : Int32)) (v := (.int (99 : Int32))) (by rw [e0]; exact Ar1.1) (State.isArrayOf_alike hZ.alike Ar1.2.1) Ar1.2.2 (inb_of S1 ⟨by decide, by decide⟩) (Has.at (v := (.int (99 : Int32))) H1 (inb_of S1 ⟨by decide, by decide⟩) rfl) (g := (mkF m 17 #[.val (.ref a1), .val (.ref a2), .val (.int (2 : Int32))] [(.int (2 : Int32)), (.ref a1)])) rfl rfl (hb hby d6_17) _ ?_
    show Steps p.tables e below (s₁.setTop (mkF m 18 #[.val (.ref a1), .val (.ref a2), .val (.int (2 : Int32))] [(.int (99 : Int32))])) _
    refine XS.aloadN X0.here hx rfl (hb hby d6_18) rfl rfl ?_
    show Steps p.tables e below (s₁.setTop (mkF m 19 #[.val (.ref a1), .val (.ref a2), .val (.int (2 : Int32))] [(.ref a2), (.int (99 : Int32))])) _
    refine XS.iloadN X0.here hx rfl (hb hby d6_19) rfl ?_
    show Steps p.tables e below (s₁.setTop (mkF m 20 #[.val (.ref a1), .val (.ref a2), .val (.int (2 : Int32))] [(.int (2 : Int32)), (.ref a2), (.int (99 : Int32))])) _
    refine X0.baloadBytes hx (j := (2 : Int32)) (v := (.int (99 : Int32))) (by rw [e0]; exact Ar2.1) (State.isArrayOf_alike hZ.alike Ar2.2.1) Ar2.2.2 (inb_of S2 ⟨by decide, by decide⟩) (Has.at (v := (.int (99 : Int32))) H2 (inb_of S2 ⟨by decide, by decide⟩) rfl) (g := (mkF m 20 #[.val (.ref a1), .val (.ref a2), .val (.int (2 : Int32))] [(.int (2 : Int32)), (.ref a2), (.int (99 : Int32))])) rfl rfl (hb hby d6_20) _ ?_
    exact k
  have pre60 : ∀ t, Steps p.tables e below (s₁.setTop (mkF m 26 #[.val (.ref a1), .val (.ref a2), .val (.int (2 : Int32))] [])) t → Steps p.tables e below (s₁.setTop (entryFrame m #[(.ref a1), (.ref a2)] 3)) t := by
    intro t k
    refine pre58 _ ?_
    show Steps p.tables e below (s₁.setTop (mkF m 21 #[.val (.ref a1), .val (.ref a2), .val (.int (2 : Int32))] [(.int (99 : Int32)), (.int (99 : Int32))])) _
    refine XS.icmpYes X0.here hx rfl (pc0 := 21) (pc' := 26) rfl (hb hby d6_21) rfl (teq (rfl : (99 : Int32) = (99 : Int32))).1 (by decide) (by decide) ?_
    exact k
  have pre61 : ∀ t, Steps p.tables e below (s₁.setTop (mkF m 12 #[.val (.ref a1), .val (.ref a2), .val (.int (3 : Int32))] [(.int (8 : Int32)), (.int (3 : Int32))])) t → Steps p.tables e below (s₁.setTop (entryFrame m #[(.ref a1), (.ref a2)] 3)) t := by
    intro t k
    refine pre60 _ ?_
    show Steps p.tables e below (s₁.setTop (mkF m 26 #[.val (.ref a1), .val (.ref a2), .val (.int (2 : Int32))] [])) _
    refine XS.iinc X0.here hx rfl (hb hby d6_26) rfl (l' := #[.val (.ref a1), .val (.ref a2), .val (.int (3 : Int32))]) rfl ?_
    show Steps p.tables e below (s₁.setTop (mkF m 29 #[.val (.ref a1), .val (.ref a2), .val (.int (3 : Int32))] [])) _
    refine XS.goto X0.here hx rfl (pc0 := 29) (pc' := 9) rfl (hb hby d6_29) (by decide) (by decide) ?_
    show Steps p.tables e below (s₁.setTop (mkF m 9 #[.val (.ref a1), .val (.ref a2), .val (.int (3 : Int32))] [])) _
    refine XS.iloadN X0.here hx rfl (hb hby d6_9) rfl ?_
    show Steps p.tables e below (s₁.setTop (mkF m 10 #[.val (.ref a1), .val (.ref a2), .val (.int (3 : Int32))] [(.int (3 : Int32))])) _
    refine XS.aloadN X0.here hx rfl (hb hby d6_10) rfl rfl ?_
    show Steps p.tables e below (s₁.setTop (mkF m 11 #[.val (.ref a1), .val (.ref a2), .val (.int (3 : Int32))] [(.ref a1), (.int (3 : Int32))])) _
    refine X0.arraylength hx (by rw [e0]; exact Ar1.1) (State.isArrayOf_alike hZ.alike Ar1.2.1) (g := (mkF m 11 #[.val (.ref a1), .val (.ref a2), .val (.int (3 : Int32))] [(.ref a1), (.int (3 : Int32))])) rfl rfl (hb hby d6_11) _ ?_
    rw [len_of S1 N_1]
    exact k
  have pre63 : ∀ t, Steps p.tables e below (s₁.setTop (mkF m 15 #[.val (.ref a1), .val (.ref a2), .val (.int (3 : Int32))] [])) t → Steps p.tables e below (s₁.setTop (entryFrame m #[(.ref a1), (.ref a2)] 3)) t := by
    intro t k
    refine pre61 _ ?_
    show Steps p.tables e below (s₁.setTop (mkF m 12 #[.val (.ref a1), .val (.ref a2), .val (.int (3 : Int32))] [(.int (8 : Int32)), (.int (3 : Int32))])) _
    refine XS.icmpNo X0.here hx rfl (hb hby d6_12) rfl (tlt (by decide : (3 : Int32) < (8 : Int32))).2.1 ?_
    exact k
  have pre64 : ∀ t, Steps p.tables e below (s₁.setTop (mkF m 21 #[.val (.ref a1), .val (.ref a2), .val (.int (3 : Int32))] [(.int (108 : Int32)), (.int (108 : Int32))])) t → Steps p.tables e below (s₁.setTop (entryFrame m #[(.ref a1), (.ref a2)] 3)) t := by
    intro t k
    refine pre63 _ ?_
    show Steps p.tables e below (s₁.setTop (mkF m 15 #[.val (.ref a1), .val (.ref a2), .val (.int (3 : Int32))] [])) _
    refine XS.aloadN X0.here hx rfl (hb hby d6_15) rfl rfl ?_
    show Steps p.tables e below (s₁.setTop (mkF m 16 #[.val (.ref a1), .val (.ref a2), .val (.int (3 : Int32))] [(.ref a1)])) _
    refine XS.iloadN X0.here hx rfl (hb hby d6_16) rfl ?_
    show Steps p.tables e below (s₁.setTop (mkF m 17 #[.val (.ref a1), .val (.ref a2), .val (.int (3 : Int32))] [(.int (3 : Int32)), (.ref a1)])) _
    refine X0.baloadBytes hx (j := (3 : Int32)) (v := (.int (108 : Int32))) (by rw [e0]; exact Ar1.1) (State.isArrayOf_alike hZ.alike Ar1.2.1) Ar1.2.2 (inb_of S1 ⟨by decide, by decide⟩) (Has.at (v := (.int (108 : Int32))) H1 (inb_of S1 ⟨by decide, by decide⟩) rfl) (g := (mkF m 17 #[.val (.ref a1), .val (.ref a2), .val (.int (3 : Int32))] [(.int (3 : Int32)), (.ref a1)])) rfl rfl (hb hby d6_17) _ ?_
    show Steps p.tables e below (s₁.setTop (mkF m 18 #[.val (.ref a1), .val (.ref a2), .val (.int (3 : Int32))] [(.int (108 : Int32))])) _
    refine XS.aloadN X0.here hx rfl (hb hby d6_18) rfl rfl ?_
    show Steps p.tables e below (s₁.setTop (mkF m 19 #[.val (.ref a1), .val (.ref a2), .val (.int (3 : Int32))] [(.ref a2), (.int (108 : Int32))])) _
    refine XS.iloadN X0.here hx rfl (hb hby d6_19) rfl ?_
    show Steps p.tables e below (s₁.setTop (mkF m 20 #[.val (.ref a1), .val (.ref a2), .val (.int (3 : Int32))] [(.int (3 : Int32)), (.ref a2), (.int (108 : Int32))])) _
    refine X0.baloadBytes hx (j := (3 : Int32)) (v := (.int (108 : Int32))) (by rw [e0]; exact Ar2.1) (State.isArrayOf_alike hZ.alike Ar2.2.1) Ar2.2.2 (inb_of S2 ⟨by decide, by decide⟩) (Has.at (v := (.int (108 : Int32))) H2 (inb_of S2 ⟨by decide, by decide⟩) rfl) (g := (mkF m 20 #[.val (.ref a1), .val (.ref a2), .val (.int (3 : Int32))] [(.int (3 : Int32)), (.ref a2), (.int (108 : Int32))])) rfl rfl (hb hby d6_20) _ ?_
    exact k
  have pre66 : ∀ t, Steps p.tables e below (s₁.setTop (mkF m 26 #[.val (.ref a1), .val (.ref a2), .val (.int (3 : Int32))] [])) t → Steps p.tables e below (s₁.setTop (entryFrame m #[(.ref a1), (.ref a2)] 3)) t := by
    intro t k
    refine pre64 _ ?_
    show Steps p.tables e below (s₁.setTop (mkF m 21 #[.val (.ref a1), .val (.ref a2), .val (.int (3 : Int32))] [(.int (108 : Int32)), (.int (108 : Int32))])) _
    refine XS.icmpYes X0.here hx rfl (pc0 := 21) (pc' := 26) rfl (hb hby d6_21) rfl (teq (rfl : (108 : Int32) = (108 : Int32))).1 (by decide) (by decide) ?_
    exact k
  have pre67 : ∀ t, Steps p.tables e below (s₁.setTop (mkF m 12 #[.val (.ref a1), .val (.ref a2), .val (.int (4 : Int32))] [(.int (8 : Int32)), (.int (4 : Int32))])) t → Steps p.tables e below (s₁.setTop (entryFrame m #[(.ref a1), (.ref a2)] 3)) t := by
    intro t k
    refine pre66 _ ?_
    show Steps p.tables e below (s₁.setTop (mkF m 26 #[.val (.ref a1), .val (.ref a2), .val (.int (3 : Int32))] [])) _
    refine XS.iinc X0.here hx rfl (hb hby d6_26) rfl (l' := #[.val (.ref a1), .val (.ref a2), .val (.int (4 : Int32))]) rfl ?_
    show Steps p.tables e below (s₁.setTop (mkF m 29 #[.val (.ref a1), .val (.ref a2), .val (.int (4 : Int32))] [])) _
    refine XS.goto X0.here hx rfl (pc0 := 29) (pc' := 9) rfl (hb hby d6_29) (by decide) (by decide) ?_
    show Steps p.tables e below (s₁.setTop (mkF m 9 #[.val (.ref a1), .val (.ref a2), .val (.int (4 : Int32))] [])) _
    refine XS.iloadN X0.here hx rfl (hb hby d6_9) rfl ?_
    show Steps p.tables e below (s₁.setTop (mkF m 10 #[.val (.ref a1), .val (.ref a2), .val (.int (4 : Int32))] [(.int (4 : Int32))])) _
    refine XS.aloadN X0.here hx rfl (hb hby d6_10) rfl rfl ?_
    show Steps p.tables e below (s₁.setTop (mkF m 11 #[.val (.ref a1), .val (.ref a2), .val (.int (4 : Int32))] [(.ref a1), (.int (4 : Int32))])) _
    refine X0.arraylength hx (by rw [e0]; exact Ar1.1) (State.isArrayOf_alike hZ.alike Ar1.2.1) (g := (mkF m 11 #[.val (.ref a1), .val (.ref a2), .val (.int (4 : Int32))] [(.ref a1), (.int (4 : Int32))])) rfl rfl (hb hby d6_11) _ ?_
    rw [len_of S1 N_1]
    exact k
  have pre69 : ∀ t, Steps p.tables e below (s₁.setTop (mkF m 15 #[.val (.ref a1), .val (.ref a2), .val (.int (4 : Int32))] [])) t → Steps p.tables e below (s₁.setTop (entryFrame m #[(.ref a1), (.ref a2)] 3)) t := by
    intro t k
    refine pre67 _ ?_
    show Steps p.tables e below (s₁.setTop (mkF m 12 #[.val (.ref a1), .val (.ref a2), .val (.int (4 : Int32))] [(.int (8 : Int32)), (.int (4 : Int32))])) _
    refine XS.icmpNo X0.here hx rfl (hb hby d6_12) rfl (tlt (by decide : (4 : Int32) < (8 : Int32))).2.1 ?_
    exact k
  have pre70 : ∀ t, Steps p.tables e below (s₁.setTop (mkF m 21 #[.val (.ref a1), .val (.ref a2), .val (.int (4 : Int32))] [(.int (117 : Int32)), (.int (117 : Int32))])) t → Steps p.tables e below (s₁.setTop (entryFrame m #[(.ref a1), (.ref a2)] 3)) t := by
    intro t k
    refine pre69 _ ?_
    show Steps p.tables e below (s₁.setTop (mkF m 15 #[.val (.ref a1), .val (.ref a2), .val (.int (4 : Int32))] [])) _
    refine XS.aloadN X0.here hx rfl (hb hby d6_15) rfl rfl ?_
    show Steps p.tables e below (s₁.setTop (mkF m 16 #[.val (.ref a1), .val (.ref a2), .val (.int (4 : Int32))] [(.ref a1)])) _
    refine XS.iloadN X0.here hx rfl (hb hby d6_16) rfl ?_
    show Steps p.tables e below (s₁.setTop (mkF m 17 #[.val (.ref a1), .val (.ref a2), .val (.int (4 : Int32))] [(.int (4 : Int32)), (.ref a1)])) _
    refine X0.baloadBytes hx (j := (4 : Int32)) (v := (.int (117 : Int32))) (by rw [e0]; exact Ar1.1) (State.isArrayOf_alike hZ.alike Ar1.2.1) Ar1.2.2 (inb_of S1 ⟨by decide, by decide⟩) (Has.at (v := (.int (117 : Int32))) H1 (inb_of S1 ⟨by decide, by decide⟩) rfl) (g := (mkF m 17 #[.val (.ref a1), .val (.ref a2), .val (.int (4 : Int32))] [(.int (4 : Int32)), (.ref a1)])) rfl rfl (hb hby d6_17) _ ?_
    show Steps p.tables e below (s₁.setTop (mkF m 18 #[.val (.ref a1), .val (.ref a2), .val (.int (4 : Int32))] [(.int (117 : Int32))])) _
    refine XS.aloadN X0.here hx rfl (hb hby d6_18) rfl rfl ?_
    show Steps p.tables e below (s₁.setTop (mkF m 19 #[.val (.ref a1), .val (.ref a2), .val (.int (4 : Int32))] [(.ref a2), (.int (117 : Int32))])) _
    refine XS.iloadN X0.here hx rfl (hb hby d6_19) rfl ?_
    show Steps p.tables e below (s₁.setTop (mkF m 20 #[.val (.ref a1), .val (.ref a2), .val (.int (4 : Int32))] [(.int (4 : Int32)), (.ref a2), (.int (117 : Int32))])) _
    refine X0.baloadBytes hx (j := (4 : Int32)) (v := (.int (117 : Int32))) (by rw [e0]; exact Ar2.1) (State.isArrayOf_alike hZ.alike Ar2.2.1) Ar2.2.2 (inb_of S2 ⟨by decide, by decide⟩) (Has.at (v := (.int (117 : Int32))) H2 (inb_of S2 ⟨by decide, by decide⟩) rfl) (g := (mkF m 20 #[.val (.ref a1), .val (.ref a2), .val (.int (4 : Int32))] [(.int (4 : Int32)), (.ref a2), (.int (117 : Int32))])) rfl rfl (hb hby d6_20) _ ?_
    exact k
  have pre72 : ∀ t, Steps p.tables e below (s₁.setTop (mkF m 26 #[.val (.ref a1), .val (.ref a2), .val (.int (4 : Int32))] [])) t → Steps p.tables e below (s₁.setTop (entryFrame m #[(.ref a1), (.ref a2)] 3)) t := by
    intro t k
    refine pre70 _ ?_
    show Steps p.tables e below (s₁.setTop (mkF m 21 #[.val (.ref a1), .val (.ref a2), .val (.int (4 : Int32))] [(.int (117 : Int32)), (.int (117 : Int32))])) _
    refine XS.icmpYes X0.here hx rfl (pc0 := 21) (pc' := 26) rfl (hb hby d6_21) rfl (teq (rfl : (117 : Int32) = (117 : Int32))).1 (by decide) (by decide) ?_
    exact k
  have pre73 : ∀ t, Steps p.tables e below (s₁.setTop (mkF m 12 #[.val (.ref a1), .val (.ref a2), .val (.int (5 : Int32))] [(.int (8 : Int32)), (.int (5 : Int32))])) t → Steps p.tables e below (s₁.setTop (entryFrame m #[(.ref a1), (.ref a2)] 3)) t := by
    intro t k
    refine pre72 _ ?_
    show Steps p.tables e below (s₁.setTop (mkF m 26 #[.val (.ref a1), .val (.ref a2), .val (.int (4 : Int32))] [])) _
    refine XS.iinc X0.here hx rfl (hb hby d6_26) rfl (l' := #[.val (.ref a1), .val (.ref a2), .val (.int (5 : Int32))]) rfl ?_
    show Steps p.tables e below (s₁.setTop (mkF m 29 #[.val (.ref a1), .val (.ref a2), .val (.int (5 : Int32))] [])) _
    refine XS.goto X0.here hx rfl (pc0 := 29) (pc' := 9) rfl (hb hby d6_29) (by decide) (by decide) ?_
    show Steps p.tables e below (s₁.setTop (mkF m 9 #[.val (.ref a1), .val (.ref a2), .val (.int (5 : Int32))] [])) _
    refine XS.iloadN X0.here hx rfl (hb hby d6_9) rfl ?_
    show Steps p.tables e below (s₁.setTop (mkF m 10 #[.val (.ref a1), .val (.ref a2), .val (.int (5 : Int32))] [(.int (5 : Int32))])) _
    refine XS.aloadN X0.here hx rfl (hb hby d6_10) rfl rfl ?_
    show Steps p.tables e below (s₁.setTop (mkF m 11 #[.val (.ref a1), .val (.ref a2), .val (.int (5 : Int32))] [(.ref a1), (.int (5 : Int32))])) _
    refine X0.arraylength hx (by rw [e0]; exact Ar1.1) (State.isArrayOf_alike hZ.alike Ar1.2.1) (g := (mkF m 11 #[.val (.ref a1), .val (.ref a2), .val (.int (5 : Int32))] [(.ref a1), (.int (5 : Int32))])) rfl rfl (hb hby d6_11) _ ?_
    rw [len_of S1 N_1]
    exact k
  have pre75 : ∀ t, Steps p.tables e below (s₁.setTop (mkF m 15 #[.val (.ref a1), .val (.ref a2), .val (.int (5 : Int32))] [])) t → Steps p.tables e below (s₁.setTop (entryFrame m #[(.ref a1), (.ref a2)] 3)) t := by
    intro t k
    refine pre73 _ ?_
    show Steps p.tables e below (s₁.setTop (mkF m 12 #[.val (.ref a1), .val (.ref a2), .val (.int (5 : Int32))] [(.int (8 : Int32)), (.int (5 : Int32))])) _
    refine XS.icmpNo X0.here hx rfl (hb hby d6_12) rfl (tlt (by decide : (5 : Int32) < (8 : Int32))).2.1 ?_
    exact k
  have pre76 : ∀ t, Steps p.tables e below (s₁.setTop (mkF m 21 #[.val (.ref a1), .val (.ref a2), .val (.int (5 : Int32))] [(.int (100 : Int32)), (.int (100 : Int32))])) t → Steps p.tables e below (s₁.setTop (entryFrame m #[(.ref a1), (.ref a2)] 3)) t := by
    intro t k
    refine pre75 _ ?_
    show Steps p.tables e below (s₁.setTop (mkF m 15 #[.val (.ref a1), .val (.ref a2), .val (.int (5 : Int32))] [])) _
    refine XS.aloadN X0.here hx rfl (hb hby d6_15) rfl rfl ?_
    show Steps p.tables e below (s₁.setTop (mkF m 16 #[.val (.ref a1), .val (.ref a2), .val (.int (5 : Int32))] [(.ref a1)])) _
    refine XS.iloadN X0.here hx rfl (hb hby d6_16) rfl ?_
    show Steps p.tables e below (s₁.setTop (mkF m 17 #[.val (.ref a1), .val (.ref a2), .val (.int (5 : Int32))] [(.int (5 : Int32)), (.ref a1)])) _
    refine X0.baloadBytes hx (j := (5 : Int32)) (v := (.int (100 : Int32))) (by rw [e0]; exact Ar1.1) (State.isArrayOf_alike hZ.alike Ar1.2.1) Ar1.2.2 (inb_of S1 ⟨by decide, by decide⟩) (Has.at (v := (.int (100 : Int32))) H1 (inb_of S1 ⟨by decide, by decide⟩) rfl) (g := (mkF m 17 #[.val (.ref a1), .val (.ref a2), .val (.int (5 : Int32))] [(.int (5 : Int32)), (.ref a1)])) rfl rfl (hb hby d6_17) _ ?_
    show Steps p.tables e below (s₁.setTop (mkF m 18 #[.val (.ref a1), .val (.ref a2), .val (.int (5 : Int32))] [(.int (100 : Int32))])) _
    refine XS.aloadN X0.here hx rfl (hb hby d6_18) rfl rfl ?_
    show Steps p.tables e below (s₁.setTop (mkF m 19 #[.val (.ref a1), .val (.ref a2), .val (.int (5 : Int32))] [(.ref a2), (.int (100 : Int32))])) _
    refine XS.iloadN X0.here hx rfl (hb hby d6_19) rfl ?_
    show Steps p.tables e below (s₁.setTop (mkF m 20 #[.val (.ref a1), .val (.ref a2), .val (.int (5 : Int32))] [(.int (5 : Int32)), (.ref a2), (.int (100 : Int32))])) _
    refine X0.baloadBytes hx (j := (5 : Int32)) (v := (.int (100 : Int32))) (by rw [e0]; exact Ar2.1) (State.isArrayOf_alike hZ.alike Ar2.2.1) Ar2.2.2 (inb_of S2 ⟨by decide, by decide⟩) (Has.at (v := (.int (100 : Int32))) H2 (inb_of S2 ⟨by decide, by decide⟩) rfl) (g := (mkF m 20 #[.val (.ref a1), .val (.ref a2), .val (.int (5 : Int32))] [(.int (5 : Int32)), (.ref a2), (.int (100 : Int32))])) rfl rfl (hb hby d6_20) _ ?_
    exact k
  have pre78 : ∀ t, Steps p.tables e below (s₁.setTop (mkF m 26 #[.val (.ref a1), .val (.ref a2), .val (.int (5 : Int32))] [])) t → Steps p.tables e below (s₁.setTop (entryFrame m #[(.ref a1), (.ref a2)] 3)) t := by
    intro t k
    refine pre76 _ ?_
    show Steps p.tables e below (s₁.setTop (mkF m 21 #[.val (.ref a1), .val (.ref a2), .val (.int (5 : Int32))] [(.int (100 : Int32)), (.int (100 : Int32))])) _
    refine XS.icmpYes X0.here hx rfl (pc0 := 21) (pc' := 26) rfl (hb hby d6_21) rfl (teq (rfl : (100 : Int32) = (100 : Int32))).1 (by decide) (by decide) ?_
    exact k
  have pre79 : ∀ t, Steps p.tables e below (s₁.setTop (mkF m 12 #[.val (.ref a1), .val (.ref a2), .val (.int (6 : Int32))] [(.int (8 : Int32)), (.int (6 : Int32))])) t → Steps p.tables e below (s₁.setTop (entryFrame m #[(.ref a1), (.ref a2)] 3)) t := by
    intro t k
    refine pre78 _ ?_
    show Steps p.tables e below (s₁.setTop (mkF m 26 #[.val (.ref a1), .val (.ref a2), .val (.int (5 : Int32))] [])) _
    refine XS.iinc X0.here hx rfl (hb hby d6_26) rfl (l' := #[.val (.ref a1), .val (.ref a2), .val (.int (6 : Int32))]) rfl ?_
    show Steps p.tables e below (s₁.setTop (mkF m 29 #[.val (.ref a1), .val (.ref a2), .val (.int (6 : Int32))] [])) _
    refine XS.goto X0.here hx rfl (pc0 := 29) (pc' := 9) rfl (hb hby d6_29) (by decide) (by decide) ?_
    show Steps p.tables e below (s₁.setTop (mkF m 9 #[.val (.ref a1), .val (.ref a2), .val (.int (6 : Int32))] [])) _
    refine XS.iloadN X0.here hx rfl (hb hby d6_9) rfl ?_
    show Steps p.tables e below (s₁.setTop (mkF m 10 #[.val (.ref a1), .val (.ref a2), .val (.int (6 : Int32))] [(.int (6 : Int32))])) _
    refine XS.aloadN X0.here hx rfl (hb hby d6_10) rfl rfl ?_
    show Steps p.tables e below (s₁.setTop (mkF m 11 #[.val (.ref a1), .val (.ref a2), .val (.int (6 : Int32))] [(.ref a1), (.int (6 : Int32))])) _
    refine X0.arraylength hx (by rw [e0]; exact Ar1.1) (State.isArrayOf_alike hZ.alike Ar1.2.1) (g := (mkF m 11 #[.val (.ref a1), .val (.ref a2), .val (.int (6 : Int32))] [(.ref a1), (.int (6 : Int32))])) rfl rfl (hb hby d6_11) _ ?_
    rw [len_of S1 N_1]
    exact k
  have pre81 : ∀ t, Steps p.tables e below (s₁.setTop (mkF m 15 #[.val (.ref a1), .val (.ref a2), .val (.int (6 : Int32))] [])) t → Steps p.tables e below (s₁.setTop (entryFrame m #[(.ref a1), (.ref a2)] 3)) t := by
    intro t k
    refine pre79 _ ?_
    show Steps p.tables e below (s₁.setTop (mkF m 12 #[.val (.ref a1), .val (.ref a2), .val (.int (6 : Int32))] [(.int (8 : Int32)), (.int (6 : Int32))])) _
    refine XS.icmpNo X0.here hx rfl (hb hby d6_12) rfl (tlt (by decide : (6 : Int32) < (8 : Int32))).2.1 ?_
    exact k
  have pre82 : ∀ t, Steps p.tables e below (s₁.setTop (mkF m 21 #[.val (.ref a1), .val (.ref a2), .val (.int (6 : Int32))] [(.int (101 : Int32)), (.int (101 : Int32))])) t → Steps p.tables e below (s₁.setTop (entryFrame m #[(.ref a1), (.ref a2)] 3)) t := by
    intro t k
    refine pre81 _ ?_
    show Steps p.tables e below (s₁.setTop (mkF m 15 #[.val (.ref a1), .val (.ref a2), .val (.int (6 : Int32))] [])) _
    refine XS.aloadN X0.here hx rfl (hb hby d6_15) rfl rfl ?_
    show Steps p.tables e below (s₁.setTop (mkF m 16 #[.val (.ref a1), .val (.ref a2), .val (.int (6 : Int32))] [(.ref a1)])) _
    refine XS.iloadN X0.here hx rfl (hb hby d6_16) rfl ?_
    show Steps p.tables e below (s₁.setTop (mkF m 17 #[.val (.ref a1), .val (.ref a2), .val (.int (6 : Int32))] [(.int (6 : Int32)), (.ref a1)])) _
    refine X0.baloadBytes hx (j := (6 : Int32)) (v := (.int (101 : Int32))) (by rw [e0]; exact Ar1.1) (State.isArrayOf_alike hZ.alike Ar1.2.1) Ar1.2.2 (inb_of S1 ⟨by decide, by decide⟩) (Has.at (v := (.int (101 : Int32))) H1 (inb_of S1 ⟨by decide, by decide⟩) rfl) (g := (mkF m 17 #[.val (.ref a1), .val (.ref a2), .val (.int (6 : Int32))] [(.int (6 : Int32)), (.ref a1)])) rfl rfl (hb hby d6_17) _ ?_
    show Steps p.tables e below (s₁.setTop (mkF m 18 #[.val (.ref a1), .val (.ref a2), .val (.int (6 : Int32))] [(.int (101 : Int32))])) _
    refine XS.aloadN X0.here hx rfl (hb hby d6_18) rfl rfl ?_
    show Steps p.tables e below (s₁.setTop (mkF m 19 #[.val (.ref a1), .val (.ref a2), .val (.int (6 : Int32))] [(.ref a2), (.int (101 : Int32))])) _
    refine XS.iloadN X0.here hx rfl (hb hby d6_19) rfl ?_
    show Steps p.tables e below (s₁.setTop (mkF m 20 #[.val (.ref a1), .val (.ref a2), .val (.int (6 : Int32))] [(.int (6 : Int32)), (.ref a2), (.int (101 : Int32))])) _
    refine X0.baloadBytes hx (j := (6 : Int32)) (v := (.int (101 : Int32))) (by rw [e0]; exact Ar2.1) (State.isArrayOf_alike hZ.alike Ar2.2.1) Ar2.2.2 (inb_of S2 ⟨by decide, by decide⟩) (Has.at (v := (.int (101 : Int32))) H2 (inb_of S2 ⟨by decide, by decide⟩) rfl) (g := (mkF m 20 #[.val (.ref a1), .val (.ref a2), .val (.int (6 : Int32))] [(.int (6 : Int32)), (.ref a2), (.int (101 : Int32))])) rfl rfl (hb hby d6_20) _ ?_
    exact k
  have pre84 : ∀ t, Steps p.tables e below (s₁.setTop (mkF m 26 #[.val (.ref a1), .val (.ref a2), .val (.int (6 : Int32))] [])) t → Steps p.tables e below (s₁.setTop (entryFrame m #[(.ref a1), (.ref a2)] 3)) t := by
    intro t k
    refine pre82 _ ?_
    show Steps p.tables e below (s₁.setTop (mkF m 21 #[.val (.ref a1), .val (.ref a2), .val (.int (6 : Int32))] [(.int (101 : Int32)), (.int (101 : Int32))])) _
    refine XS.icmpYes X0.here hx rfl (pc0 := 21) (pc' := 26) rfl (hb hby d6_21) rfl (teq (rfl : (101 : Int32) = (101 : Int32))).1 (by decide) (by decide) ?_
    exact k
  have pre85 : ∀ t, Steps p.tables e below (s₁.setTop (mkF m 12 #[.val (.ref a1), .val (.ref a2), .val (.int (7 : Int32))] [(.int (8 : Int32)), (.int (7 : Int32))])) t → Steps p.tables e below (s₁.setTop (entryFrame m #[(.ref a1), (.ref a2)] 3)) t := by
    intro t k
    refine pre84 _ ?_
    show Steps p.tables e below (s₁.setTop (mkF m 26 #[.val (.ref a1), .val (.ref a2), .val (.int (6 : Int32))] [])) _
    refine XS.iinc X0.here hx rfl (hb hby d6_26) rfl (l' := #[.val (.ref a1), .val (.ref a2), .val (.int (7 : Int32))]) rfl ?_
    show Steps p.tables e below (s₁.setTop (mkF m 29 #[.val (.ref a1), .val (.ref a2), .val (.int (7 : Int32))] [])) _
    refine XS.goto X0.here hx rfl (pc0 := 29) (pc' := 9) rfl (hb hby d6_29) (by decide) (by decide) ?_
    show Steps p.tables e below (s₁.setTop (mkF m 9 #[.val (.ref a1), .val (.ref a2), .val (.int (7 : Int32))] [])) _
    refine XS.iloadN X0.here hx rfl (hb hby d6_9) rfl ?_
    show Steps p.tables e below (s₁.setTop (mkF m 10 #[.val (.ref a1), .val (.ref a2), .val (.int (7 : Int32))] [(.int (7 : Int32))])) _
    refine XS.aloadN X0.here hx rfl (hb hby d6_10) rfl rfl ?_
    show Steps p.tables e below (s₁.setTop (mkF m 11 #[.val (.ref a1), .val (.ref a2), .val (.int (7 : Int32))] [(.ref a1), (.int (7 : Int32))])) _
    refine X0.arraylength hx (by rw [e0]; exact Ar1.1) (State.isArrayOf_alike hZ.alike Ar1.2.1) (g := (mkF m 11 #[.val (.ref a1), .val (.ref a2), .val (.int (7 : Int32))] [(.ref a1), (.int (7 : Int32))])) rfl rfl (hb hby d6_11) _ ?_
    rw [len_of S1 N_1]
    exact k
  have pre87 : ∀ t, Steps p.tables e below (s₁.setTop (mkF m 15 #[.val (.ref a1), .val (.ref a2), .val (.int (7 : Int32))] [])) t → Steps p.tables e below (s₁.setTop (entryFrame m #[(.ref a1), (.ref a2)] 3)) t := by
    intro t k
    refine pre85 _ ?_
    show Steps p.tables e below (s₁.setTop (mkF m 12 #[.val (.ref a1), .val (.ref a2), .val (.int (7 : Int32))] [(.int (8 : Int32)), (.int (7 : Int32))])) _
    refine XS.icmpNo X0.here hx rfl (hb hby d6_12) rfl (tlt (by decide : (7 : Int32) < (8 : Int32))).2.1 ?_
    exact k
  have pre88 : ∀ t, Steps p.tables e below (s₁.setTop (mkF m 21 #[.val (.ref a1), .val (.ref a2), .val (.int (7 : Int32))] [(.int (100 : Int32)), (.int (100 : Int32))])) t → Steps p.tables e below (s₁.setTop (entryFrame m #[(.ref a1), (.ref a2)] 3)) t := by
    intro t k
    refine pre87 _ ?_
    show Steps p.tables e below (s₁.setTop (mkF m 15 #[.val (.ref a1), .val (.ref a2), .val (.int (7 : Int32))] [])) _
    refine XS.aloadN X0.here hx rfl (hb hby d6_15) rfl rfl ?_
    show Steps p.tables e below (s₁.setTop (mkF m 16 #[.val (.ref a1), .val (.ref a2), .val (.int (7 : Int32))] [(.ref a1)])) _
    refine XS.iloadN X0.here hx rfl (hb hby d6_16) rfl ?_
    show Steps p.tables e below (s₁.setTop (mkF m 17 #[.val (.ref a1), .val (.ref a2), .val (.int (7 : Int32))] [(.int (7 : Int32)), (.ref a1)])) _
    refine X0.baloadBytes hx (j := (7 : Int32)) (v := (.int (100 : Int32))) (by rw [e0]; exact Ar1.1) (State.isArrayOf_alike hZ.alike Ar1.2.1) Ar1.2.2 (inb_of S1 ⟨by decide, by decide⟩) (Has.at (v := (.int (100 : Int32))) H1 (inb_of S1 ⟨by decide, by decide⟩) rfl) (g := (mkF m 17 #[.val (.ref a1), .val (.ref a2), .val (.int (7 : Int32))] [(.int (7 : Int32)), (.ref a1)])) rfl rfl (hb hby d6_17) _ ?_
    show Steps p.tables e below (s₁.setTop (mkF m 18 #[.val (.ref a1), .val (.ref a2), .val (.int (7 : Int32))] [(.int (100 : Int32))])) _
    refine XS.aloadN X0.here hx rfl (hb hby d6_18) rfl rfl ?_
    show Steps p.tables e below (s₁.setTop (mkF m 19 #[.val (.ref a1), .val (.ref a2), .val (.int (7 : Int32))] [(.ref a2), (.int (100 : Int32))])) _
    refine XS.iloadN X0.here hx rfl (hb hby d6_19) rfl ?_
    show Steps p.tables e below (s₁.setTop (mkF m 20 #[.val (.ref a1), .val (.ref a2), .val (.int (7 : Int32))] [(.int (7 : Int32)), (.ref a2), (.int (100 : Int32))])) _
    refine X0.baloadBytes hx (j := (7 : Int32)) (v := (.int (100 : Int32))) (by rw [e0]; exact Ar2.1) (State.isArrayOf_alike hZ.alike Ar2.2.1) Ar2.2.2 (inb_of S2 ⟨by decide, by decide⟩) (Has.at (v := (.int (100 : Int32))) H2 (inb_of S2 ⟨by decide, by decide⟩) rfl) (g := (mkF m 20 #[.val (.ref a1), .val (.ref a2), .val (.int (7 : Int32))] [(.int (7 : Int32)), (.ref a2), (.int (100 : Int32))])) rfl rfl (hb hby d6_20) _ ?_
    exact k
  have pre90 : ∀ t, Steps p.tables e below (s₁.setTop (mkF m 26 #[.val (.ref a1), .val (.ref a2), .val (.int (7 : Int32))] [])) t → Steps p.tables e below (s₁.setTop (entryFrame m #[(.ref a1), (.ref a2)] 3)) t := by
    intro t k
    refine pre88 _ ?_
    show Steps p.tables e below (s₁.setTop (mkF m 21 #[.val (.ref a1), .val (.ref a2), .val (.int (7 : Int32))] [(.int (100 : Int32)), (.int (100 : Int32))])) _
    refine XS.icmpYes X0.here hx rfl (pc0 := 21) (pc' := 26) rfl (hb hby d6_21) rfl (teq (rfl : (100 : Int32) = (100 : Int32))).1 (by decide) (by decide) ?_
    exact k
  have pre91 : ∀ t, Steps p.tables e below (s₁.setTop (mkF m 12 #[.val (.ref a1), .val (.ref a2), .val (.int (8 : Int32))] [(.int (8 : Int32)), (.int (8 : Int32))])) t → Steps p.tables e below (s₁.setTop (entryFrame m #[(.ref a1), (.ref a2)] 3)) t := by
    intro t k
    refine pre90 _ ?_
    show Steps p.tables e below (s₁.setTop (mkF m 26 #[.val (.ref a1), .val (.ref a2), .val (.int (7 : Int32))] [])) _
    refine XS.iinc X0.here hx rfl (hb hby d6_26) rfl (l' := #[.val (.ref a1), .val (.ref a2), .val (.int (8 : Int32))]) rfl ?_
    show Steps p.tables e below (s₁.setTop (mkF m 29 #[.val (.ref a1), .val (.ref a2), .val (.int (8 : Int32))] [])) _
    refine XS.goto X0.here hx rfl (pc0 := 29) (pc' := 9) rfl (hb hby d6_29) (by decide) (by decide) ?_
    show Steps p.tables e below (s₁.setTop (mkF m 9 #[.val (.ref a1), .val (.ref a2), .val (.int (8 : Int32))] [])) _
    refine XS.iloadN X0.here hx rfl (hb hby d6_9) rfl ?_
    show Steps p.tables e below (s₁.setTop (mkF m 10 #[.val (.ref a1), .val (.ref a2), .val (.int (8 : Int32))] [(.int (8 : Int32))])) _
    refine XS.aloadN X0.here hx rfl (hb hby d6_10) rfl rfl ?_
    show Steps p.tables e below (s₁.setTop (mkF m 11 #[.val (.ref a1), .val (.ref a2), .val (.int (8 : Int32))] [(.ref a1), (.int (8 : Int32))])) _
    refine X0.arraylength hx (by rw [e0]; exact Ar1.1) (State.isArrayOf_alike hZ.alike Ar1.2.1) (g := (mkF m 11 #[.val (.ref a1), .val (.ref a2), .val (.int (8 : Int32))] [(.ref a1), (.int (8 : Int32))])) rfl rfl (hb hby d6_11) _ ?_
    rw [len_of S1 N_1]
    exact k
  have pre93 : ∀ t, Steps p.tables e below (s₁.setTop (mkF m 32 #[.val (.ref a1), .val (.ref a2), .val (.int (8 : Int32))] [])) t → Steps p.tables e below (s₁.setTop (entryFrame m #[(.ref a1), (.ref a2)] 3)) t := by
    intro t k
    refine pre91 _ ?_
    show Steps p.tables e below (s₁.setTop (mkF m 12 #[.val (.ref a1), .val (.ref a2), .val (.int (8 : Int32))] [(.int (8 : Int32)), (.int (8 : Int32))])) _
    refine XS.icmpYes X0.here hx rfl (pc0 := 12) (pc' := 32) rfl (hb hby d6_12) rfl (flt (by decide : ¬ ((8 : Int32) < (8 : Int32)))).2.1 (by decide) (by decide) ?_
    exact k
  have pre94 : ∀ t, Steps p.tables e below (s₁.setTop (mkF m 33 #[.val (.ref a1), .val (.ref a2), .val (.int (8 : Int32))] [(.int (1 : Int32))])) t → Steps p.tables e below (s₁.setTop (entryFrame m #[(.ref a1), (.ref a2)] 3)) t := by
    intro t k
    refine pre93 _ ?_
    show Steps p.tables e below (s₁.setTop (mkF m 32 #[.val (.ref a1), .val (.ref a2), .val (.int (8 : Int32))] [])) _
    refine XS.iconst X0.here hx rfl (hb hby d6_32) ?_
    exact k
  obtain ⟨fs, hr, hrun, hended, hW, hsame⟩ := X0.leave (v := some (.int (1 : Int32))) (fun h => by rw [hret] at h; cases h)
  refine ⟨_, _, pre94 _ ?_, hrun, hended, _, _, rfl, ?_, ⟨_, rfl⟩, hW, hsame.mono (by decide) (by decide)⟩
  · show Steps p.tables e below (s₁.setTop (mkF m 33 #[.val (.ref a1), .val (.ref a2), .val (.int (8 : Int32))] [(.int (1 : Int32))])) _
    exact retN X0 hx (t := .boolean) hret (by simp) (hb hby d6_33) hr
  · show Q6ii Z a1 a2 k1 k2 h0 n0 _ s₁.heap _
    rw [e0]
    exact ⟨rfl, N0, rfl⟩
theorem d5_0 : decode jdk_42_method_66_code 0 = .ok (.aload_n 0, 1) := by decide +kernel
theorem d5_1 : decode jdk_42_method_66_code 1 = .ok (.aload_n 1, 1) := by decide +kernel
theorem d5_2 : decode jdk_42_method_66_code 2 = .ok (.if_acmp .ne 5, 3) := by decide +kernel
theorem d5_5 : decode jdk_42_method_66_code 5 = .ok (.iconst 1, 1) := by decide +kernel
theorem d5_6 : decode jdk_42_method_66_code 6 = .ok (.ireturn, 1) := by decide +kernel
theorem d5_7 : decode jdk_42_method_66_code 7 = .ok (.aload_n 1, 1) := by decide +kernel
theorem d5_8 : decode jdk_42_method_66_code 8 = .ok (.instanceof 10, 3) := by decide +kernel
theorem d5_11 : decode jdk_42_method_66_code 11 = .ok (.ifCond .eq 43, 3) := by decide +kernel
theorem d5_14 : decode jdk_42_method_66_code 14 = .ok (.aload_n 1, 1) := by decide +kernel
theorem d5_15 : decode jdk_42_method_66_code 15 = .ok (.checkcast 10, 3) := by decide +kernel
theorem d5_18 : decode jdk_42_method_66_code 18 = .ok (.astore_n 2, 1) := by decide +kernel
theorem d5_19 : decode jdk_42_method_66_code 19 = .ok (.getstatic 38, 3) := by decide +kernel
theorem d5_22 : decode jdk_42_method_66_code 22 = .ok (.ifCond .eq 14, 3) := by decide +kernel
theorem d5_25 : decode jdk_42_method_66_code 25 = .ok (.aload_n 0, 1) := by decide +kernel
theorem d5_26 : decode jdk_42_method_66_code 26 = .ok (.getfield 15, 3) := by decide +kernel
theorem d5_29 : decode jdk_42_method_66_code 29 = .ok (.aload_n 2, 1) := by decide +kernel
theorem d5_30 : decode jdk_42_method_66_code 30 = .ok (.getfield 15, 3) := by decide +kernel
theorem d5_33 : decode jdk_42_method_66_code 33 = .ok (.if_icmp .ne 21, 3) := by decide +kernel
theorem d5_36 : decode jdk_42_method_66_code 36 = .ok (.aload_n 0, 1) := by decide +kernel
theorem d5_37 : decode jdk_42_method_66_code 37 = .ok (.getfield 9, 3) := by decide +kernel
theorem d5_40 : decode jdk_42_method_66_code 40 = .ok (.aload_n 2, 1) := by decide +kernel
theorem d5_41 : decode jdk_42_method_66_code 41 = .ok (.getfield 9, 3) := by decide +kernel
theorem d5_44 : decode jdk_42_method_66_code 44 = .ok (.invokestatic 541, 3) := by decide +kernel
theorem pd___B_B_Z : parseMethodDescriptor "([B[B)Z" = some ⟨[(.array .byte), (.array .byte)], some .boolean⟩ := by decide +kernel
theorem d5_47 : decode jdk_42_method_66_code 47 = .ok (.ifCond .eq 7, 3) := by decide +kernel
theorem d5_50 : decode jdk_42_method_66_code 50 = .ok (.iconst 1, 1) := by decide +kernel
theorem d5_51 : decode jdk_42_method_66_code 51 = .ok (.goto 4, 3) := by decide +kernel
theorem d5_55 : decode jdk_42_method_66_code 55 = .ok (.ireturn, 1) := by decide +kernel
theorem pn_5 : plainName "java/lang/String" = true := by first | (simp [plainName, overriddenIn]; done) | decide +kernel
theorem ef_5ii (m : MethodId) (x0 : Addr) (x1 : Addr) : entryFrame m #[(.ref x0), (.ref x1)] 3 = mkF m 0 #[.val (.ref x0), .val (.ref x1), .unset] [] := by first | (simp [entryFrame, mkF, argsToLocals, Value.category]; done) | rfl
def Q5ii (Z : State) (a1 : Addr) (a2 : Addr) (v1 : Addr) (v2 : Addr) (k1 : ClassId) (k2 : ClassId) (pC : Int32) (h0 : Heap) (n0 : Nat) (v : Option Value) (h : Heap) (L : List Loc) : Prop := v = some (.int (1 : Int32)) ∧ Fr n0 L ∧ h = h0
set_option maxRecDepth 65536 in
set_option maxHeartbeats 40000000 in
theorem rm5ii (l : Launch) (Z : State) (a0 : Array Value) (hw : ∀ d ∈ tables_1, d.before a0 Z = true) (ws : List Jvm.Cond) (a1 : Addr) (a2 : Addr) (v1 : Addr) (v2 : Addr) (k1 : ClassId) (k2 : ClassId) (pC : Int32) (h0 : Heap) (n0 : Nat) (Z0 : n0 ≤ h0.size) (E_a2 : Exa Z h0 a2 "java/lang/String") (C1 : Fld Z h0 a1 "java/lang/String" "coder" "B" (.int (0 : Int32))) (C2 : Fld Z h0 a2 "java/lang/String" "coder" "B" (.int (0 : Int32))) (V1 : Fld Z h0 a1 "java/lang/String" "value" "[B" (.ref v1)) (V2 : Fld Z h0 a2 "java/lang/String" "value" "[B" (.ref v2)) (A1 : Arv Z h0 v1 k1 .byte (8 : Int32) [.int (105 : Int32), .int (110 : Int32), .int (99 : Int32), .int (108 : Int32), .int (117 : Int32), .int (100 : Int32), .int (101 : Int32), .int (100 : Int32)] (.int (0 : Int32))) (A2 : Arv Z h0 v2 k2 .byte (8 : Int32) [.int (105 : Int32), .int (110 : Int32), .int (99 : Int32), .int (108 : Int32), .int (117 : Int32), .int (100 : Int32), .int (101 : Int32), .int (100 : Int32)] (.int (0 : Int32))) (hpc : ¬ (pC = (0 : Int32))) (S_pC : Sta Z h0 "java/lang/String" "COMPACT_STRINGS" "Z" (.int pC)) :
    MetFree l (⟨"java/lang/String", "equals", "(Ljava/lang/Object;)Z"⟩ : MethodName) (head1 (Jvm.Cond.code (⟨"java/lang/String", "equals", "(Ljava/lang/Object;)Z"⟩ : MethodName) jdk_42_method_66_code 3 (some .boolean) :: ws) ({ frames := 1, cells := 0, slots := 0, locals := 14 } : Room)) (fun a U => a = #[(.ref a1), (.ref a2)] ∧ Z.Warmed39 U.vm ∧ U.heap = h0) (fun _ _ _ _ _ => True) (fun _ U o U' => ∃ v L, o = .returned v ∧ Q5ii Z a1 a2 v1 v2 k1 k2 pC h0 n0 v U'.heap L ∧ FrameEnd U o U' L ({ frames := 1, cells := 0, slots := 0, locals := 14 } : Room).cells ({ frames := 1, cells := 0, slots := 0, locals := 14 } : Room).slots) := by
  refine MetFree.of_bodySF (plainFor_of_name pn_5) hisR ?_
  intro p e s m args below meth c s₁ Bd hml0 hP hK
  obtain ⟨rfl, hZ, hh⟩ := hP
  have hx := Bd.exec
  have hby := Bd.bytes
  have hml : c.maxLocals = 3 := hml0
  have hown : s.vm.findClass "java/lang/String" = some m.cls := findClass_of_methodNamed Bd.named
  have hnm := (name_of_methodNamed Bd.named Bd.method).1
  have hret := Bd.returns
  have hlocks : meth.locks = false := Bd.notSynchronized
  have X0 : Stand p l e ({ frames := 1, cells := 0, slots := 0, locals := 14 } : Room) s m #[(.ref a1), (.ref a2)] below meth c s₁ [] 0 0 := Stand.of_body Bd
  have e0 : s₁.heap = h0 := by rw [← hh, Bd.state]; rfl
  have N0 := Fr.nil n0
  have pre0 : ∀ t, Steps p.tables e below (s₁.setTop (mkF m 0 #[.val (.ref a1), .val (.ref a2), .unset] [])) t → Steps p.tables e below (s₁.setTop (entryFrame m #[(.ref a1), (.ref a2)] 3)) t := fun t k => castTop (ef_5ii m a1 a2) k
  have pre95 : ∀ t, Steps p.tables e below (s₁.setTop (mkF m 2 #[.val (.ref a1), .val (.ref a2), .unset] [(.ref a2), (.ref a1)])) t → Steps p.tables e below (s₁.setTop (entryFrame m #[(.ref a1), (.ref a2)] 3)) t := by
    intro t k
    refine pre0 _ ?_
    show Steps p.tables e below (s₁.setTop (mkF m 0 #[.val (.ref a1), .val (.ref a2), .unset] [])) _
    refine XS.aloadN X0.here hx rfl (hb hby d5_0) rfl rfl ?_
    show Steps p.tables e below (s₁.setTop (mkF m 1 #[.val (.ref a1), .val (.ref a2), .unset] [(.ref a1)])) _
    refine XS.aloadN X0.here hx rfl (hb hby d5_1) rfl rfl ?_
    exact k
  by_cases ha96 : a1 = a2
  · have pre97 : ∀ t, Steps p.tables e below (s₁.setTop (mkF m 5 #[.val (.ref a1), .val (.ref a2), .unset] [])) t → Steps p.tables e below (s₁.setTop (entryFrame m #[(.ref a1), (.ref a2)] 3)) t := by
      intro t k
      refine pre95 _ ?_
      show Steps p.tables e below (s₁.setTop (mkF m 2 #[.val (.ref a1), .val (.ref a2), .unset] [(.ref a2), (.ref a1)])) _
      refine Jvm.RoadKit.acmp (g := (mkF m 2 #[.val (.ref a1), .val (.ref a2), .unset] [(.ref a2), (.ref a1)])) X0 hx rfl rfl rfl (pc0 := 2) (pc' := 5) (same := true) rfl (hb hby d5_2) rfl (decide_eq_true (congrArg Value.ref ha96)) (by decide) (by decide) ?_
      exact k
    have pre98 : ∀ t, Steps p.tables e below (s₁.setTop (mkF m 6 #[.val (.ref a1), .val (.ref a2), .unset] [(.int (1 : Int32))])) t → Steps p.tables e below (s₁.setTop (entryFrame m #[(.ref a1), (.ref a2)] 3)) t := by
      intro t k
      refine pre97 _ ?_
      show Steps p.tables e below (s₁.setTop (mkF m 5 #[.val (.ref a1), .val (.ref a2), .unset] [])) _
      refine XS.iconst X0.here hx rfl (hb hby d5_5) ?_
      exact k
    obtain ⟨fs, hr, hrun, hended, hW, hsame⟩ := X0.leave (v := some (.int (1 : Int32))) (fun h => by rw [hret] at h; cases h)
    refine ⟨_, _, pre98 _ ?_, hrun, hended, _, _, rfl, ?_, ⟨_, rfl⟩, hW, hsame.mono (by decide) (by decide)⟩
    · show Steps p.tables e below (s₁.setTop (mkF m 6 #[.val (.ref a1), .val (.ref a2), .unset] [(.int (1 : Int32))])) _
      exact retN X0 hx (t := .boolean) hret (by simp) (hb hby d5_6) hr
    · show Q5ii Z a1 a2 v1 v2 k1 k2 pC h0 n0 _ s₁.heap _
      rw [e0]
      exact ⟨rfl, N0, rfl⟩
  · have pre99 : ∀ t, Steps p.tables e below (s₁.setTop (mkF m 7 #[.val (.ref a1), .val (.ref a2), .unset] [])) t → Steps p.tables e below (s₁.setTop (entryFrame m #[(.ref a1), (.ref a2)] 3)) t := by
      intro t k
      refine pre95 _ ?_
      show Steps p.tables e below (s₁.setTop (mkF m 2 #[.val (.ref a1), .val (.ref a2), .unset] [(.ref a2), (.ref a1)])) _
      refine Jvm.RoadKit.acmp (g := (mkF m 2 #[.val (.ref a1), .val (.ref a2), .unset] [(.ref a2), (.ref a1)])) X0 hx rfl rfl rfl (pc0 := 2) (pc' := 7) (same := false) rfl (hb hby d5_2) rfl (decide_eq_false fun q => ha96 (Value.ref.inj q)) (by decide) (by decide) ?_
      exact k
    have pre100 : ∀ t, Steps p.tables e below (s₁.setTop (mkF m 8 #[.val (.ref a1), .val (.ref a2), .unset] [(.ref a2)])) t → Steps p.tables e below (s₁.setTop (entryFrame m #[(.ref a1), (.ref a2)] 3)) t := by
      intro t k
      refine pre99 _ ?_
      show Steps p.tables e below (s₁.setTop (mkF m 7 #[.val (.ref a1), .val (.ref a2), .unset] [])) _
      refine XS.aloadN X0.here hx rfl (hb hby d5_7) rfl rfl ?_
      exact k
    obtain ⟨T101, X101, e101, st101⟩ := instY X0 hx hZ hown (hw _ (List.mem_of_getElem? (i := 42) rfl)) e0 (Ins.self E_a2) (g := (mkF m 8 #[.val (.ref a1), .val (.ref a2), .unset] [(.ref a2)])) rfl rfl (hb hby d5_8)
    have pre102 : ∀ t, Steps p.tables e below (T101.setTop (mkF m 11 #[.val (.ref a1), .val (.ref a2), .unset] [(.int (1 : Int32))])) t → Steps p.tables e below (s₁.setTop (entryFrame m #[(.ref a1), (.ref a2)] 3)) t := by
      intro t k
      refine pre100 _ ?_
      show Steps p.tables e below (s₁.setTop (mkF m 8 #[.val (.ref a1), .val (.ref a2), .unset] [(.ref a2)])) _
      refine st101 _ ?_
      exact k
    have pre104 : ∀ t, Steps p.tables e below (T101.setTop (mkF m 14 #[.val (.ref a1), .val (.ref a2), .unset] [])) t → Steps p.tables e below (s₁.setTop (entryFrame m #[(.ref a1), (.ref a2)] 3)) t := by
      intro t k
      refine pre102 _ ?_
      show Steps p.tables e below (T101.setTop (mkF m 11 #[.val (.ref a1), .val (.ref a2), .unset] [(.int (1 : Int32))])) _
      refine XS.ifNo X101.here hx rfl (hb hby d5_11) rfl ((if0 _ _).trans (feq (by decide : ¬ ((1 : Int32) = (0 : Int32)))).1) ?_
      exact k
    have pre105 : ∀ t, Steps p.tables e below (T101.setTop (mkF m 15 #[.val (.ref a1), .val (.ref a2), .unset] [(.ref a2)])) t → Steps p.tables e below (s₁.setTop (entryFrame m #[(.ref a1), (.ref a2)] 3)) t := by
      intro t k
      refine pre104 _ ?_
      show Steps p.tables e below (T101.setTop (mkF m 14 #[.val (.ref a1), .val (.ref a2), .unset] [])) _
      refine XS.aloadN X101.here hx rfl (hb hby d5_14) rfl rfl ?_
      exact k
    obtain ⟨T106, X106, e106, st106⟩ := castY X101 hx hZ hown (hw _ (List.mem_of_getElem? (i := 42) rfl)) e101 (Ins.self E_a2) (g := (mkF m 15 #[.val (.ref a1), .val (.ref a2), .unset] [(.ref a2)])) rfl rfl (hb hby d5_15)
    have pre107 : ∀ t, Steps p.tables e below (T106.setTop (mkF m 18 #[.val (.ref a1), .val (.ref a2), .unset] [(.ref a2)])) t → Steps p.tables e below (s₁.setTop (entryFrame m #[(.ref a1), (.ref a2)] 3)) t := by
      intro t k
      refine pre105 _ ?_
      show Steps p.tables e below (T101.setTop (mkF m 15 #[.val (.ref a1), .val (.ref a2), .unset] [(.ref a2)])) _
      refine st106 _ ?_
      exact k
    have pre108 : ∀ t, Steps p.tables e below (T106.setTop (mkF m 19 #[.val (.ref a1), .val (.ref a2), .val (.ref a2)] [])) t → Steps p.tables e below (s₁.setTop (entryFrame m #[(.ref a1), (.ref a2)] 3)) t := by
      intro t k
      refine pre107 _ ?_
      show Steps p.tables e below (T106.setTop (mkF m 18 #[.val (.ref a1), .val (.ref a2), .unset] [(.ref a2)])) _
      refine XS.astoreN X106.here hx rfl (hb hby d5_18) rfl rfl (l' := #[.val (.ref a1), .val (.ref a2), .val (.ref a2)]) rfl ?_
      exact k
    obtain ⟨T109, X109, e109, st109⟩ := getS2 X106 hx hZ hown (host := "") (Or.inl (hw _ (List.mem_of_getElem? (i := 44) rfl))) Via.refl e106 S_pC (g := (mkF m 19 #[.val (.ref a1), .val (.ref a2), .val (.ref a2)] [])) rfl (hb hby d5_19)
    have pre110 : ∀ t, Steps p.tables e below (T109.setTop (mkF m 22 #[.val (.ref a1), .val (.ref a2), .val (.ref a2)] [(.int pC)])) t → Steps p.tables e below (s₁.setTop (entryFrame m #[(.ref a1), (.ref a2)] 3)) t := by
      intro t k
      refine pre108 _ ?_
      show Steps p.tables e below (T106.setTop (mkF m 19 #[.val (.ref a1), .val (.ref a2), .val (.ref a2)] [])) _
      refine st109 _ ?_
      exact k
    have pre112 : ∀ t, Steps p.tables e below (T109.setTop (mkF m 25 #[.val (.ref a1), .val (.ref a2), .val (.ref a2)] [])) t → Steps p.tables e below (s₁.setTop (entryFrame m #[(.ref a1), (.ref a2)] 3)) t := by
      intro t k
      refine pre110 _ ?_
      show Steps p.tables e below (T109.setTop (mkF m 22 #[.val (.ref a1), .val (.ref a2), .val (.ref a2)] [(.int pC)])) _
      refine XS.ifNo X109.here hx rfl (hb hby d5_22) rfl ((if0 _ _).trans (feq hpc).1) ?_
      exact k
    have pre113 : ∀ t, Steps p.tables e below (T109.setTop (mkF m 26 #[.val (.ref a1), .val (.ref a2), .val (.ref a2)] [(.ref a1)])) t → Steps p.tables e below (s₁.setTop (entryFrame m #[(.ref a1), (.ref a2)] 3)) t := by
      intro t k
      refine pre112 _ ?_
      show Steps p.tables e below (T109.setTop (mkF m 25 #[.val (.ref a1), .val (.ref a2), .val (.ref a2)] [])) _
      refine XS.aloadN X109.here hx rfl (hb hby d5_25) rfl rfl ?_
      exact k
    obtain ⟨T114, X114, e114, st114⟩ := getF X109 hx hZ hown (host := "") (Or.inl (hw _ (List.mem_of_getElem? (i := 45) rfl))) Via.refl e109 C1 (g := (mkF m 26 #[.val (.ref a1), .val (.ref a2), .val (.ref a2)] [(.ref a1)])) rfl rfl (hb hby d5_26)
    have pre115 : ∀ t, Steps p.tables e below (T114.setTop (mkF m 29 #[.val (.ref a1), .val (.ref a2), .val (.ref a2)] [(.int (0 : Int32))])) t → Steps p.tables e below (s₁.setTop (entryFrame m #[(.ref a1), (.ref a2)] 3)) t := by
      intro t k
      refine pre113 _ ?_
      show Steps p.tables e below (T109.setTop (mkF m 26 #[.val (.ref a1), .val (.ref a2), .val (.ref a2)] [(.ref a1)])) _
      refine st114 _ ?_
      exact k
    have pre116 : ∀ t, Steps p.tables e below (T114.setTop (mkF m 30 #[.val (.ref a1), .val (.ref a2), .val (.ref a2)] [(.ref a2), (.int (0 : Int32))])) t → Steps p.tables e below (s₁.setTop (entryFrame m #[(.ref a1), (.ref a2)] 3)) t := by
      intro t k
      refine pre115 _ ?_
      show Steps p.tables e below (T114.setTop (mkF m 29 #[.val (.ref a1), .val (.ref a2), .val (.ref a2)] [(.int (0 : Int32))])) _
      refine XS.aloadN X114.here hx rfl (hb hby d5_29) rfl rfl ?_
      exact k
    obtain ⟨T117, X117, e117, st117⟩ := getF X114 hx hZ hown (host := "") (Or.inl (hw _ (List.mem_of_getElem? (i := 45) rfl))) Via.refl e114 C2 (g := (mkF m 30 #[.val (.ref a1), .val (.ref a2), .val (.ref a2)] [(.ref a2), (.int (0 : Int32))])) rfl rfl (hb hby d5_30)
    have pre118 : ∀ t, Steps p.tables e below (T117.setTop (mkF m 33 #[.val (.ref a1), .val (.ref a2), .val (.ref a2)] [(.int (0 : Int32)), (.int (0 : Int32))])) t → Steps p.tables e below (s₁.setTop (entryFrame m #[(.ref a1), (.ref a2)] 3)) t := by
      intro t k
      refine pre116 _ ?_
      show Steps p.tables e below (T114.setTop (mkF m 30 #[.val (.ref a1), .val (.ref a2), .val (.ref a2)] [(.ref a2), (.int (0 : Int32))])) _
      refine st117 _ ?_
      exact k
    have pre120 : ∀ t, Steps p.tables e below (T117.setTop (mkF m 36 #[.val (.ref a1), .val (.ref a2), .val (.ref a2)] [])) t → Steps p.tables e below (s₁.setTop (entryFrame m #[(.ref a1), (.ref a2)] 3)) t := by
      intro t k
      refine pre118 _ ?_
      show Steps p.tables e below (T117.setTop (mkF m 33 #[.val (.ref a1), .val (.ref a2), .val (.ref a2)] [(.int (0 : Int32)), (.int (0 : Int32))])) _
      refine XS.icmpNo X117.here hx rfl (hb hby d5_33) rfl (teq (rfl : (0 : Int32) = (0 : Int32))).2 ?_
      exact k
    have pre121 : ∀ t, Steps p.tables e below (T117.setTop (mkF m 37 #[.val (.ref a1), .val (.ref a2), .val (.ref a2)] [(.ref a1)])) t → Steps p.tables e below (s₁.setTop (entryFrame m #[(.ref a1), (.ref a2)] 3)) t := by
      intro t k
      refine pre120 _ ?_
      show Steps p.tables e below (T117.setTop (mkF m 36 #[.val (.ref a1), .val (.ref a2), .val (.ref a2)] [])) _
      refine XS.aloadN X117.here hx rfl (hb hby d5_36) rfl rfl ?_
      exact k
    obtain ⟨T122, X122, e122, st122⟩ := getF X117 hx hZ hown (host := "") (Or.inl (hw _ (List.mem_of_getElem? (i := 46) rfl))) Via.refl e117 V1 (g := (mkF m 37 #[.val (.ref a1), .val (.ref a2), .val (.ref a2)] [(.ref a1)])) rfl rfl (hb hby d5_37)
    have pre123 : ∀ t, Steps p.tables e below (T122.setTop (mkF m 40 #[.val (.ref a1), .val (.ref a2), .val (.ref a2)] [(.ref v1)])) t → Steps p.tables e below (s₁.setTop (entryFrame m #[(.ref a1), (.ref a2)] 3)) t := by
      intro t k
      refine pre121 _ ?_
      show Steps p.tables e below (T117.setTop (mkF m 37 #[.val (.ref a1), .val (.ref a2), .val (.ref a2)] [(.ref a1)])) _
      refine st122 _ ?_
      exact k
    have pre124 : ∀ t, Steps p.tables e below (T122.setTop (mkF m 41 #[.val (.ref a1), .val (.ref a2), .val (.ref a2)] [(.ref a2), (.ref v1)])) t → Steps p.tables e below (s₁.setTop (entryFrame m #[(.ref a1), (.ref a2)] 3)) t := by
      intro t k
      refine pre123 _ ?_
      show Steps p.tables e below (T122.setTop (mkF m 40 #[.val (.ref a1), .val (.ref a2), .val (.ref a2)] [(.ref v1)])) _
      refine XS.aloadN X122.here hx rfl (hb hby d5_40) rfl rfl ?_
      exact k
    obtain ⟨T125, X125, e125, st125⟩ := getF X122 hx hZ hown (host := "") (Or.inl (hw _ (List.mem_of_getElem? (i := 46) rfl))) Via.refl e122 V2 (g := (mkF m 41 #[.val (.ref a1), .val (.ref a2), .val (.ref a2)] [(.ref a2), (.ref v1)])) rfl rfl (hb hby d5_41)
    have pre126 : ∀ t, Steps p.tables e below (T125.setTop (mkF m 44 #[.val (.ref a1), .val (.ref a2), .val (.ref a2)] [(.ref v2), (.ref v1)])) t → Steps p.tables e below (s₁.setTop (entryFrame m #[(.ref a1), (.ref a2)] 3)) t := by
      intro t k
      refine pre124 _ ?_
      show Steps p.tables e below (T122.setTop (mkF m 41 #[.val (.ref a1), .val (.ref a2), .val (.ref a2)] [(.ref a2), (.ref v1)])) _
      refine st125 _ ?_
      exact k
    obtain ⟨_, _, ⟨T127, L127, k127, n127⟩, -, X127, ⟨Lc127, hQ127, l127, y127, z127⟩, st127⟩ := Jvm.LawKit.callS X125 hx (y := (⟨"java/lang/StringLatin1", "equals", "([B[B)Z"⟩ : MethodName)) hown (mvT hZ (hw _ (List.mem_of_getElem? (i := 47) rfl))) (mvT hZ (hw _ (List.mem_of_getElem? (i := 48) rfl))) (mvT hZ (hw _ (List.mem_of_getElem? (i := 49) rfl))) (mvT hZ (hw _ (List.mem_of_getElem? (i := 50) rfl))) (by decide) (backOf (W := 0) (rm6ii l Z a0 hw [] v1 v2 k1 k2 h0 n0 Z0 A1 A2) hZ (hw _ (List.mem_of_getElem? (i := 50) rfl)) (hw _ (List.mem_of_getElem? (i := 49) rfl)) (by decide) (by decide)) (g := (mkF m 44 #[.val (.ref a1), .val (.ref a2), .val (.ref a2)] [(.ref v2), (.ref v1)])) rfl (by rw [hml]; rfl) (argsL := [(.ref v1), (.ref v2)]) (rest := []) (lenOf pd___B_B_Z rfl) rfl (by show 2 * 0 + _ ≤ _; exact Nat.le_of_eq rfl) (hb hby d5_44) (fun _ _ => ⟨rfl, e125, (by decide : 0 + 0 ≤ _), (by decide : 0 + 0 ≤ _)⟩)
    dsimp only [Pt.U, Pt.locs, Pt.cells, Pt.slots] at X127 l127 y127 z127 st127 hQ127
    subst l127 y127 z127
    obtain ⟨rfl, N127q, e127⟩ := hQ127
    have N127 := Fr.app N0 N127q
    have pre128 : ∀ t, Steps p.tables e below (T127.setTop (mkF m 47 #[.val (.ref a1), .val (.ref a2), .val (.ref a2)] [(.int (1 : Int32))])) t → Steps p.tables e below (s₁.setTop (entryFrame m #[(.ref a1), (.ref a2)] 3)) t := by
      intro t k
      refine pre126 _ ?_
      show Steps p.tables e below (T125.setTop (mkF m 44 #[.val (.ref a1), .val (.ref a2), .val (.ref a2)] [(.ref v2), (.ref v1)])) _
      refine st127 _ ?_
      exact k
    have pre130 : ∀ t, Steps p.tables e below (T127.setTop (mkF m 50 #[.val (.ref a1), .val (.ref a2), .val (.ref a2)] [])) t → Steps p.tables e below (s₁.setTop (entryFrame m #[(.ref a1), (.ref a2)] 3)) t := by
      intro t k
      refine pre128 _ ?_
      show Steps p.tables e below (T127.setTop (mkF m 47 #[.val (.ref a1), .val (.ref a2), .val (.ref a2)] [(.int (1 : Int32))])) _
      refine XS.ifNo X127.here hx rfl (hb hby d5_47) rfl ((if0 _ _).trans (feq (by decide : ¬ ((1 : Int32) = (0 : Int32)))).1) ?_
      exact k
    have pre131 : ∀ t, Steps p.tables e below (T127.setTop (mkF m 55 #[.val (.ref a1), .val (.ref a2), .val (.ref a2)] [(.int (1 : Int32))])) t → Steps p.tables e below (s₁.setTop (entryFrame m #[(.ref a1), (.ref a2)] 3)) t := by
      intro t k
      refine pre130 _ ?_
      show Steps p.tables e below (T127.setTop (mkF m 50 #[.val (.ref a1), .val (.ref a2), .val (.ref a2)] [])) _
      refine XS.iconst X127.here hx rfl (hb hby d5_50) ?_
      show Steps p.tables e below (T127.setTop (mkF m 51 #[.val (.ref a1), .val (.ref a2), .val (.ref a2)] [(.int (1 : Int32))])) _
      refine XS.goto X127.here hx rfl (pc0 := 51) (pc' := 55) rfl (hb hby d5_51) (by decide) (by decide) ?_
      exact k
    obtain ⟨fs, hr, hrun, hended, hW, hsame⟩ := X127.leave (v := some (.int (1 : Int32))) (fun h => by rw [hret] at h; cases h)
    refine ⟨_, _, pre131 _ ?_, hrun, hended, _, _, rfl, ?_, ⟨_, rfl⟩, hW, hsame.mono (by decide) (by decide)⟩
    · show Steps p.tables e below (T127.setTop (mkF m 55 #[.val (.ref a1), .val (.ref a2), .val (.ref a2)] [(.int (1 : Int32))])) _
      exact retN X127 hx (t := .boolean) hret (by simp) (hb hby d5_55) hr
    · show Q5ii Z a1 a2 v1 v2 k1 k2 pC h0 n0 _ T127.heap _
      rw [e127]
      exact ⟨rfl, N127, rfl⟩
theorem d6_24 : decode jdk_43_method_13_code 24 = .ok (.iconst 0, 1) := by decide +kernel
theorem d6_25 : decode jdk_43_method_13_code 25 = .ok (.ireturn, 1) := by decide +kernel
theorem ef_6xi (m : MethodId) (x0 : Addr) (x1 : Addr) : entryFrame m #[(.ref x0), (.ref x1)] 3 = mkF m 0 #[.val (.ref x0), .val (.ref x1), .unset] [] := by first | (simp [entryFrame, mkF, argsToLocals, Value.category]; done) | rfl
def Q6xi (Z : State) (a1 : Addr) (a2 : Addr) (k1 : ClassId) (k2 : ClassId) (h0 : Heap) (n0 : Nat) (v : Option Value) (h : Heap) (L : List Loc) : Prop := v = some (.int (0 : Int32)) ∧ Fr n0 L ∧ h = h0
set_option maxRecDepth 65536 in
set_option maxHeartbeats 40000000 in
theorem rm6xi (l : Launch) (Z : State) (a0 : Array Value) (hw : ∀ d ∈ tables_1, d.before a0 Z = true) (ws : List Jvm.Cond) (a1 : Addr) (a2 : Addr) (k1 : ClassId) (k2 : ClassId) (h0 : Heap) (n0 : Nat) (Z0 : n0 ≤ h0.size) (A1 : Arv Z h0 a1 k1 .byte (8 : Int32) [.int (101 : Int32), .int (120 : Int32), .int (99 : Int32), .int (108 : Int32), .int (117 : Int32), .int (100 : Int32), .int (101 : Int32), .int (100 : Int32)] (.int (0 : Int32))) (A2 : Arv Z h0 a2 k2 .byte (8 : Int32) [.int (105 : Int32), .int (110 : Int32), .int (99 : Int32), .int (108 : Int32), .int (117 : Int32), .int (100 : Int32), .int (101 : Int32), .int (100 : Int32)] (.int (0 : Int32))) :
    MetFree l (⟨"java/lang/StringLatin1", "equals", "([B[B)Z"⟩ : MethodName) (head1 (Jvm.Cond.code (⟨"java/lang/StringLatin1", "equals", "([B[B)Z"⟩ : MethodName) jdk_43_method_13_code 3 (some .boolean) :: ws) ({ frames := 0, cells := 0, slots := 0, locals := 0 } : Room)) (fun a U => a = #[(.ref a1), (.ref a2)] ∧ Z.Warmed39 U.vm ∧ U.heap = h0) (fun _ _ _ _ _ => True) (fun _ U o U' => ∃ v L, o = .returned v ∧ Q6xi Z a1 a2 k1 k2 h0 n0 v U'.heap L ∧ FrameEnd U o U' L ({ frames := 0, cells := 0, slots := 0, locals := 0 } : Room).cells ({ frames := 0, cells := 0, slots := 0, locals := 0 } : Room).slots) := by
  refine MetFree.of_bodySF (plainFor_of_name pn_6) hisR ?_
  intro p e s m args below meth c s₁ Bd hml0 hP hK
  obtain ⟨rfl, hZ, hh⟩ := hP
  have hx := Bd.exec
  have hby := Bd.bytes
  have hml : c.maxLocals = 3 := hml0
  have hown : s.vm.findClass "java/lang/StringLatin1" = some m.cls := findClass_of_methodNamed Bd.named
  have hnm := (name_of_methodNamed Bd.named Bd.method).1
  have hret := Bd.returns
  have hlocks : meth.locks = false := Bd.notSynchronized
  have X0 : Stand p l e ({ frames := 0, cells := 0, slots := 0, locals := 0 } : Room) s m #[(.ref a1), (.ref a2)] below meth c s₁ [] 0 0 := Stand.of_body Bd
  have e0 : s₁.heap = h0 := by rw [← hh, Bd.state]; rfl
  have N0 := Fr.nil n0
  obtain ⟨cl1, Ar1, _, S1, N_1, H1, _⟩ := A1
  obtain ⟨cl2, Ar2, _, S2, N_2, H2, _⟩ := A2
  have pre0 : ∀ t, Steps p.tables e below (s₁.setTop (mkF m 0 #[.val (.ref a1), .val (.ref a2), .unset] [])) t → Steps p.tables e below (s₁.setTop (entryFrame m #[(.ref a1), (.ref a2)] 3)) t := fun t k => castTop (ef_6xi m a1 a2) k
  have pre132 : ∀ t, Steps p.tables e below (s₁.setTop (mkF m 4 #[.val (.ref a1), .val (.ref a2), .unset] [(.int (8 : Int32)), (.int (8 : Int32))])) t → Steps p.tables e below (s₁.setTop (entryFrame m #[(.ref a1), (.ref a2)] 3)) t := by
    intro t k
    refine pre0 _ ?_
    show Steps p.tables e below (s₁.setTop (mkF m 0 #[.val (.ref a1), .val (.ref a2), .unset] [])) _
    refine XS.aloadN X0.here hx rfl (hb hby d6_0) rfl rfl ?_
    show Steps p.tables e below (s₁.setTop (mkF m 1 #[.val (.ref a1), .val (.ref a2), .unset] [(.ref a1)])) _
    refine X0.arraylength hx (by rw [e0]; exact Ar1.1) (State.isArrayOf_alike hZ.alike Ar1.2.1) (g := (mkF m 1 #[.val (.ref a1), .val (.ref a2), .unset] [(.ref a1)])) rfl rfl (hb hby d6_1) _ ?_
    rw [len_of S1 N_1]
    show Steps p.tables e below (s₁.setTop (mkF m 2 #[.val (.ref a1), .val (.ref a2), .unset] [(.int (8 : Int32))])) _
    refine XS.aloadN X0.here hx rfl (hb hby d6_2) rfl rfl ?_
    show Steps p.tables e below (s₁.setTop (mkF m 3 #[.val (.ref a1), .val (.ref a2), .unset] [(.ref a2), (.int (8 : Int32))])) _
    refine X0.arraylength hx (by rw [e0]; exact Ar2.1) (State.isArrayOf_alike hZ.alike Ar2.2.1) (g := (mkF m 3 #[.val (.ref a1), .val (.ref a2), .unset] [(.ref a2), (.int (8 : Int32))])) rfl rfl (hb hby d6_3) _ ?_
    rw [len_of S2 N_2]
    exact k
  have pre134 : ∀ t, Steps p.tables e below (s₁.setTop (mkF m 7 #[.val (.ref a1), .val (.ref a2), .unset] [])) t → Steps p.tables e below (s₁.setTop (entryFrame m #[(.ref a1), (.ref a2)] 3)) t := by
    intro t k
    refine pre132 _ ?_
    show Steps p.tables e below (s₁.setTop (mkF m 4 #[.val (.ref a1), .val (.ref a2), .unset] [(.int (8 : Int32)), (.int (8 : Int32))])) _
    refine XS.icmpNo X0.here hx rfl (hb hby d6_4) rfl (teq (rfl : (8 : Int32) = (8 : Int32))).2 ?_
    exact k
  have pre135 : ∀ t, Steps p.tables e below (s₁.setTop (mkF m 12 #[.val (.ref a1), .val (.ref a2), .val (.int (0 : Int32))] [(.int (8 : Int32)), (.int (0 : Int32))])) t → Steps p.tables e below (s₁.setTop (entryFrame m #[(.ref a1), (.ref a2)] 3)) t := by
    intro t k
    refine pre134 _ ?_
    show Steps p.tables e below (s₁.setTop (mkF m 7 #[.val (.ref a1), .val (.ref a2), .unset] [])) _
    refine XS.iconst X0.here hx rfl (hb hby d6_7) ?_
    show Steps p.tables e below (s₁.setTop (mkF m 8 #[.val (.ref a1), .val (.ref a2), .unset] [(.int (0 : Int32))])) _
    refine XS.istoreN X0.here hx rfl (hb hby d6_8) rfl (l' := #[.val (.ref a1), .val (.ref a2), .val (.int (0 : Int32))]) rfl ?_
    show Steps p.tables e below (s₁.setTop (mkF m 9 #[.val (.ref a1), .val (.ref a2), .val (.int (0 : Int32))] [])) _
    refine XS.iloadN X0.here hx rfl (hb hby d6_9) rfl ?_
    show Steps p.tables e below (s₁.setTop (mkF m 10 #[.val (.ref a1), .val (.ref a2), .val (.int (0 : Int32))] [(.int (0 : Int32))])) _
    refine XS.aloadN X0.here hx rfl (hb hby d6_10) rfl rfl ?_
    show Steps p.tables e below (s₁.setTop (mkF m 11 #[.val (.ref a1), .val (.ref a2), .val (.int (0 : Int32))] [(.ref a1), (.int (0 : Int32))])) _
    refine X0.arraylength hx (by rw [e0]; exact Ar1.1) (State.isArrayOf_alike hZ.alike Ar1.2.1) (g := (mkF m 11 #[.val (.ref a1), .val (.ref a2), .val (.int (0 : Int32))] [(.ref a1), (.int (0 : Int32))])) rfl rfl (hb hby d6_11) _ ?_
    rw [len_of S1 N_1]
    exact k
  have pre137 : ∀ t, Steps p.tables e below (s₁.setTop (mkF m 15 #[.val (.ref a1), .val (.ref a2), .val (.int (0 : Int32))] [])) t → Steps p.tables e below (s₁.setTop (entryFrame m #[(.ref a1), (.ref a2)] 3)) t := by
    intro t k
    refine pre135 _ ?_
    show Steps p.tables e below (s₁.setTop (mkF m 12 #[.val (.ref a1), .val (.ref a2), .val (.int (0 : Int32))] [(.int (8 : Int32)), (.int (0 : Int32))])) _
    refine XS.icmpNo X0.here hx rfl (hb hby d6_12) rfl (tlt (by decide : (0 : Int32) < (8 : Int32))).2.1 ?_
    exact k
  have pre138 : ∀ t, Steps p.tables e below (s₁.setTop (mkF m 21 #[.val (.ref a1), .val (.ref a2), .val (.int (0 : Int32))] [(.int (105 : Int32)), (.int (101 : Int32))])) t → Steps p.tables e below (s₁.setTop (entryFrame m #[(.ref a1), (.ref a2)] 3)) t := by
    intro t k
    refine pre137 _ ?_
    show Steps p.tables e below (s₁.setTop (mkF m 15 #[.val (.ref a1), .val (.ref a2), .val (.int (0 : Int32))] [])) _
    refine XS.aloadN X0.here hx rfl (hb hby d6_15) rfl rfl ?_
    show Steps p.tables e below (s₁.setTop (mkF m 16 #[.val (.ref a1), .val (.ref a2), .val (.int (0 : Int32))] [(.ref a1)])) _
    refine XS.iloadN X0.here hx rfl (hb hby d6_16) rfl ?_
    show Steps p.tables e below (s₁.setTop (mkF m 17 #[.val (.ref a1), .val (.ref a2), .val (.int (0 : Int32))] [(.int (0 : Int32)), (.ref a1)])) _
    refine X0.baloadBytes hx (j := (0 : Int32)) (v := (.int (101 : Int32))) (by rw [e0]; exact Ar1.1) (State.isArrayOf_alike hZ.alike Ar1.2.1) Ar1.2.2 (inb_of S1 ⟨by decide, by decide⟩) (Has.at (v := (.int (101 : Int32))) H1 (inb_of S1 ⟨by decide, by decide⟩) rfl) (g := (mkF m 17 #[.val (.ref a1), .val (.ref a2), .val (.int (0 : Int32))] [(.int (0 : Int32)), (.ref a1)])) rfl rfl (hb hby d6_17) _ ?_
    show Steps p.tables e below (s₁.setTop (mkF m 18 #[.val (.ref a1), .val (.ref a2), .val (.int (0 : Int32))] [(.int (101 : Int32))])) _
    refine XS.aloadN X0.here hx rfl (hb hby d6_18) rfl rfl ?_
    show Steps p.tables e below (s₁.setTop (mkF m 19 #[.val (.ref a1), .val (.ref a2), .val (.int (0 : Int32))] [(.ref a2), (.int (101 : Int32))])) _
    refine XS.iloadN X0.here hx rfl (hb hby d6_19) rfl ?_
    show Steps p.tables e below (s₁.setTop (mkF m 20 #[.val (.ref a1), .val (.ref a2), .val (.int (0 : Int32))] [(.int (0 : Int32)), (.ref a2), (.int (101 : Int32))])) _
    refine X0.baloadBytes hx (j := (0 : Int32)) (v := (.int (105 : Int32))) (by rw [e0]; exact Ar2.1) (State.isArrayOf_alike hZ.alike Ar2.2.1) Ar2.2.2 (inb_of S2 ⟨by decide, by decide⟩) (Has.at (v := (.int (105 : Int32))) H2 (inb_of S2 ⟨by decide, by decide⟩) rfl) (g := (mkF m 20 #[.val (.ref a1), .val (.ref a2), .val (.int (0 : Int32))] [(.int (0 : Int32)), (.ref a2), (.int (101 : Int32))])) rfl rfl (hb hby d6_20) _ ?_
    exact k
  have pre140 : ∀ t, Steps p.tables e below (s₁.setTop (mkF m 24 #[.val (.ref a1), .val (.ref a2), .val (.int (0 : Int32))] [])) t → Steps p.tables e below (s₁.setTop (entryFrame m #[(.ref a1), (.ref a2)] 3)) t := by
    intro t k
    refine pre138 _ ?_
    show Steps p.tables e below (s₁.setTop (mkF m 21 #[.val (.ref a1), .val (.ref a2), .val (.int (0 : Int32))] [(.int (105 : Int32)), (.int (101 : Int32))])) _
    refine XS.icmpNo X0.here hx rfl (hb hby d6_21) rfl (feq (by decide : ¬ ((101 : Int32) = (105 : Int32)))).1 ?_
    exact k
  have pre141 : ∀ t, Steps p.tables e below (s₁.setTop (mkF m 25 #[.val (.ref a1), .val (.ref a2), .val (.int (0 : Int32))] [(.int (0 : Int32))])) t → Steps p.tables e below (s₁.setTop (entryFrame m #[(.ref a1), (.ref a2)] 3)) t := by
    intro t k
    refine pre140 _ ?_
    show Steps p.tables e below (s₁.setTop (mkF m 24 #[.val (.ref a1), .val (.ref a2), .val (.int (0 : Int32))] [])) _
    refine XS.iconst X0.here hx rfl (hb hby d6_24) ?_
    exact k
  obtain ⟨fs, hr, hrun, hended, hW, hsame⟩ := X0.leave (v := some (.int (0 : Int32))) (fun h => by rw [hret] at h; cases h)
  refine ⟨_, _, pre141 _ ?_, hrun, hended, _, _, rfl, ?_, ⟨_, rfl⟩, hW, hsame.mono (by decide) (by decide)⟩
  · show Steps p.tables e below (s₁.setTop (mkF m 25 #[.val (.ref a1), .val (.ref a2), .val (.int (0 : Int32))] [(.int (0 : Int32))])) _
    exact retN X0 hx (t := .boolean) hret (by simp) (hb hby d6_25) hr
  · show Q6xi Z a1 a2 k1 k2 h0 n0 _ s₁.heap _
    rw [e0]
    exact ⟨rfl, N0, rfl⟩
theorem d5_54 : decode jdk_42_method_66_code 54 = .ok (.iconst 0, 1) := by decide +kernel
theorem ef_5xi (m : MethodId) (x0 : Addr) (x1 : Addr) : entryFrame m #[(.ref x0), (.ref x1)] 3 = mkF m 0 #[.val (.ref x0), .val (.ref x1), .unset] [] := by first | (simp [entryFrame, mkF, argsToLocals, Value.category]; done) | rfl
def Q5xi (Z : State) (a1 : Addr) (a2 : Addr) (v1 : Addr) (v2 : Addr) (k1 : ClassId) (k2 : ClassId) (pC : Int32) (h0 : Heap) (n0 : Nat) (v : Option Value) (h : Heap) (L : List Loc) : Prop := v = some (.int (0 : Int32)) ∧ Fr n0 L ∧ h = h0
set_option maxRecDepth 65536 in
set_option maxHeartbeats 40000000 in
theorem rm5xi (l : Launch) (Z : State) (a0 : Array Value) (hw : ∀ d ∈ tables_1, d.before a0 Z = true) (ws : List Jvm.Cond) (a1 : Addr) (a2 : Addr) (v1 : Addr) (v2 : Addr) (k1 : ClassId) (k2 : ClassId) (pC : Int32) (h0 : Heap) (n0 : Nat) (Z0 : n0 ≤ h0.size) (E_a2 : Exa Z h0 a2 "java/lang/String") (C1 : Fld Z h0 a1 "java/lang/String" "coder" "B" (.int (0 : Int32))) (C2 : Fld Z h0 a2 "java/lang/String" "coder" "B" (.int (0 : Int32))) (V1 : Fld Z h0 a1 "java/lang/String" "value" "[B" (.ref v1)) (V2 : Fld Z h0 a2 "java/lang/String" "value" "[B" (.ref v2)) (A1 : Arv Z h0 v1 k1 .byte (8 : Int32) [.int (101 : Int32), .int (120 : Int32), .int (99 : Int32), .int (108 : Int32), .int (117 : Int32), .int (100 : Int32), .int (101 : Int32), .int (100 : Int32)] (.int (0 : Int32))) (A2 : Arv Z h0 v2 k2 .byte (8 : Int32) [.int (105 : Int32), .int (110 : Int32), .int (99 : Int32), .int (108 : Int32), .int (117 : Int32), .int (100 : Int32), .int (101 : Int32), .int (100 : Int32)] (.int (0 : Int32))) (hpc : ¬ (pC = (0 : Int32))) (hne : a1 ≠ a2) (S_pC : Sta Z h0 "java/lang/String" "COMPACT_STRINGS" "Z" (.int pC)) :
    MetFree l (⟨"java/lang/String", "equals", "(Ljava/lang/Object;)Z"⟩ : MethodName) (head1 (Jvm.Cond.code (⟨"java/lang/String", "equals", "(Ljava/lang/Object;)Z"⟩ : MethodName) jdk_42_method_66_code 3 (some .boolean) :: ws) ({ frames := 1, cells := 0, slots := 0, locals := 14 } : Room)) (fun a U => a = #[(.ref a1), (.ref a2)] ∧ Z.Warmed39 U.vm ∧ U.heap = h0) (fun _ _ _ _ _ => True) (fun _ U o U' => ∃ v L, o = .returned v ∧ Q5xi Z a1 a2 v1 v2 k1 k2 pC h0 n0 v U'.heap L ∧ FrameEnd U o U' L ({ frames := 1, cells := 0, slots := 0, locals := 14 } : Room).cells ({ frames := 1, cells := 0, slots := 0, locals := 14 } : Room).slots) := by
  refine MetFree.of_bodySF (plainFor_of_name pn_5) hisR ?_
  intro p e s m args below meth c s₁ Bd hml0 hP hK
  obtain ⟨rfl, hZ, hh⟩ := hP
  have hx := Bd.exec
  have hby := Bd.bytes
  have hml : c.maxLocals = 3 := hml0
  have hown : s.vm.findClass "java/lang/String" = some m.cls := findClass_of_methodNamed Bd.named
  have hnm := (name_of_methodNamed Bd.named Bd.method).1
  have hret := Bd.returns
  have hlocks : meth.locks = false := Bd.notSynchronized
  have X0 : Stand p l e ({ frames := 1, cells := 0, slots := 0, locals := 14 } : Room) s m #[(.ref a1), (.ref a2)] below meth c s₁ [] 0 0 := Stand.of_body Bd
  have e0 : s₁.heap = h0 := by rw [← hh, Bd.state]; rfl
  have N0 := Fr.nil n0
  have pre0 : ∀ t, Steps p.tables e below (s₁.setTop (mkF m 0 #[.val (.ref a1), .val (.ref a2), .unset] [])) t → Steps p.tables e below (s₁.setTop (entryFrame m #[(.ref a1), (.ref a2)] 3)) t := fun t k => castTop (ef_5xi m a1 a2) k
  have pre142 : ∀ t, Steps p.tables e below (s₁.setTop (mkF m 2 #[.val (.ref a1), .val (.ref a2), .unset] [(.ref a2), (.ref a1)])) t → Steps p.tables e below (s₁.setTop (entryFrame m #[(.ref a1), (.ref a2)] 3)) t := by
    intro t k
    refine pre0 _ ?_
    show Steps p.tables e below (s₁.setTop (mkF m 0 #[.val (.ref a1), .val (.ref a2), .unset] [])) _
    refine XS.aloadN X0.here hx rfl (hb hby d5_0) rfl rfl ?_
    show Steps p.tables e below (s₁.setTop (mkF m 1 #[.val (.ref a1), .val (.ref a2), .unset] [(.ref a1)])) _
    refine XS.aloadN X0.here hx rfl (hb hby d5_1) rfl rfl ?_
    exact k
  have pre143 : ∀ t, Steps p.tables e below (s₁.setTop (mkF m 7 #[.val (.ref a1), .val (.ref a2), .unset] [])) t → Steps p.tables e below (s₁.setTop (entryFrame m #[(.ref a1), (.ref a2)] 3)) t := by
    intro t k
    refine pre142 _ ?_
    show Steps p.tables e below (s₁.setTop (mkF m 2 #[.val (.ref a1), .val (.ref a2), .unset] [(.ref a2), (.ref a1)])) _
    refine Jvm.RoadKit.acmp (g := (mkF m 2 #[.val (.ref a1), .val (.ref a2), .unset] [(.ref a2), (.ref a1)])) X0 hx rfl rfl rfl (pc0 := 2) (pc' := 7) (same := false) rfl (hb hby d5_2) rfl (decide_eq_false fun q => hne (Value.ref.inj q)) (by decide) (by decide) ?_
    exact k
  have pre144 : ∀ t, Steps p.tables e below (s₁.setTop (mkF m 8 #[.val (.ref a1), .val (.ref a2), .unset] [(.ref a2)])) t → Steps p.tables e below (s₁.setTop (entryFrame m #[(.ref a1), (.ref a2)] 3)) t := by
    intro t k
    refine pre143 _ ?_
    show Steps p.tables e below (s₁.setTop (mkF m 7 #[.val (.ref a1), .val (.ref a2), .unset] [])) _
    refine XS.aloadN X0.here hx rfl (hb hby d5_7) rfl rfl ?_
    exact k
  obtain ⟨T145, X145, e145, st145⟩ := instY X0 hx hZ hown (hw _ (List.mem_of_getElem? (i := 42) rfl)) e0 (Ins.self E_a2) (g := (mkF m 8 #[.val (.ref a1), .val (.ref a2), .unset] [(.ref a2)])) rfl rfl (hb hby d5_8)
  have pre146 : ∀ t, Steps p.tables e below (T145.setTop (mkF m 11 #[.val (.ref a1), .val (.ref a2), .unset] [(.int (1 : Int32))])) t → Steps p.tables e below (s₁.setTop (entryFrame m #[(.ref a1), (.ref a2)] 3)) t := by
    intro t k
    refine pre144 _ ?_
    show Steps p.tables e below (s₁.setTop (mkF m 8 #[.val (.ref a1), .val (.ref a2), .unset] [(.ref a2)])) _
    refine st145 _ ?_
    exact k
  have pre148 : ∀ t, Steps p.tables e below (T145.setTop (mkF m 14 #[.val (.ref a1), .val (.ref a2), .unset] [])) t → Steps p.tables e below (s₁.setTop (entryFrame m #[(.ref a1), (.ref a2)] 3)) t := by
    intro t k
    refine pre146 _ ?_
    show Steps p.tables e below (T145.setTop (mkF m 11 #[.val (.ref a1), .val (.ref a2), .unset] [(.int (1 : Int32))])) _
    refine XS.ifNo X145.here hx rfl (hb hby d5_11) rfl ((if0 _ _).trans (feq (by decide : ¬ ((1 : Int32) = (0 : Int32)))).1) ?_
    exact k
  have pre149 : ∀ t, Steps p.tables e below (T145.setTop (mkF m 15 #[.val (.ref a1), .val (.ref a2), .unset] [(.ref a2)])) t → Steps p.tables e below (s₁.setTop (entryFrame m #[(.ref a1), (.ref a2)] 3)) t := by
    intro t k
    refine pre148 _ ?_
    show Steps p.tables e below (T145.setTop (mkF m 14 #[.val (.ref a1), .val (.ref a2), .unset] [])) _
    refine XS.aloadN X145.here hx rfl (hb hby d5_14) rfl rfl ?_
    exact k
  obtain ⟨T150, X150, e150, st150⟩ := castY X145 hx hZ hown (hw _ (List.mem_of_getElem? (i := 42) rfl)) e145 (Ins.self E_a2) (g := (mkF m 15 #[.val (.ref a1), .val (.ref a2), .unset] [(.ref a2)])) rfl rfl (hb hby d5_15)
  have pre151 : ∀ t, Steps p.tables e below (T150.setTop (mkF m 18 #[.val (.ref a1), .val (.ref a2), .unset] [(.ref a2)])) t → Steps p.tables e below (s₁.setTop (entryFrame m #[(.ref a1), (.ref a2)] 3)) t := by
    intro t k
    refine pre149 _ ?_
    show Steps p.tables e below (T145.setTop (mkF m 15 #[.val (.ref a1), .val (.ref a2), .unset] [(.ref a2)])) _
    refine st150 _ ?_
    exact k
  have pre152 : ∀ t, Steps p.tables e below (T150.setTop (mkF m 19 #[.val (.ref a1), .val (.ref a2), .val (.ref a2)] [])) t → Steps p.tables e below (s₁.setTop (entryFrame m #[(.ref a1), (.ref a2)] 3)) t := by
    intro t k
    refine pre151 _ ?_
    show Steps p.tables e below (T150.setTop (mkF m 18 #[.val (.ref a1), .val (.ref a2), .unset] [(.ref a2)])) _
    refine XS.astoreN X150.here hx rfl (hb hby d5_18) rfl rfl (l' := #[.val (.ref a1), .val (.ref a2), .val (.ref a2)]) rfl ?_
    exact k
  obtain ⟨T153, X153, e153, st153⟩ := getS2 X150 hx hZ hown (host := "") (Or.inl (hw _ (List.mem_of_getElem? (i := 44) rfl))) Via.refl e150 S_pC (g := (mkF m 19 #[.val (.ref a1), .val (.ref a2), .val (.ref a2)] [])) rfl (hb hby d5_19)
  have pre154 : ∀ t, Steps p.tables e below (T153.setTop (mkF m 22 #[.val (.ref a1), .val (.ref a2), .val (.ref a2)] [(.int pC)])) t → Steps p.tables e below (s₁.setTop (entryFrame m #[(.ref a1), (.ref a2)] 3)) t := by
    intro t k
    refine pre152 _ ?_
    show Steps p.tables e below (T150.setTop (mkF m 19 #[.val (.ref a1), .val (.ref a2), .val (.ref a2)] [])) _
    refine st153 _ ?_
    exact k
  have pre156 : ∀ t, Steps p.tables e below (T153.setTop (mkF m 25 #[.val (.ref a1), .val (.ref a2), .val (.ref a2)] [])) t → Steps p.tables e below (s₁.setTop (entryFrame m #[(.ref a1), (.ref a2)] 3)) t := by
    intro t k
    refine pre154 _ ?_
    show Steps p.tables e below (T153.setTop (mkF m 22 #[.val (.ref a1), .val (.ref a2), .val (.ref a2)] [(.int pC)])) _
    refine XS.ifNo X153.here hx rfl (hb hby d5_22) rfl ((if0 _ _).trans (feq hpc).1) ?_
    exact k
  have pre157 : ∀ t, Steps p.tables e below (T153.setTop (mkF m 26 #[.val (.ref a1), .val (.ref a2), .val (.ref a2)] [(.ref a1)])) t → Steps p.tables e below (s₁.setTop (entryFrame m #[(.ref a1), (.ref a2)] 3)) t := by
    intro t k
    refine pre156 _ ?_
    show Steps p.tables e below (T153.setTop (mkF m 25 #[.val (.ref a1), .val (.ref a2), .val (.ref a2)] [])) _
    refine XS.aloadN X153.here hx rfl (hb hby d5_25) rfl rfl ?_
    exact k
  obtain ⟨T158, X158, e158, st158⟩ := getF X153 hx hZ hown (host := "") (Or.inl (hw _ (List.mem_of_getElem? (i := 45) rfl))) Via.refl e153 C1 (g := (mkF m 26 #[.val (.ref a1), .val (.ref a2), .val (.ref a2)] [(.ref a1)])) rfl rfl (hb hby d5_26)
  have pre159 : ∀ t, Steps p.tables e below (T158.setTop (mkF m 29 #[.val (.ref a1), .val (.ref a2), .val (.ref a2)] [(.int (0 : Int32))])) t → Steps p.tables e below (s₁.setTop (entryFrame m #[(.ref a1), (.ref a2)] 3)) t := by
    intro t k
    refine pre157 _ ?_
    show Steps p.tables e below (T153.setTop (mkF m 26 #[.val (.ref a1), .val (.ref a2), .val (.ref a2)] [(.ref a1)])) _
    refine st158 _ ?_
    exact k
  have pre160 : ∀ t, Steps p.tables e below (T158.setTop (mkF m 30 #[.val (.ref a1), .val (.ref a2), .val (.ref a2)] [(.ref a2), (.int (0 : Int32))])) t → Steps p.tables e below (s₁.setTop (entryFrame m #[(.ref a1), (.ref a2)] 3)) t := by
    intro t k
    refine pre159 _ ?_
    show Steps p.tables e below (T158.setTop (mkF m 29 #[.val (.ref a1), .val (.ref a2), .val (.ref a2)] [(.int (0 : Int32))])) _
    refine XS.aloadN X158.here hx rfl (hb hby d5_29) rfl rfl ?_
    exact k
  obtain ⟨T161, X161, e161, st161⟩ := getF X158 hx hZ hown (host := "") (Or.inl (hw _ (List.mem_of_getElem? (i := 45) rfl))) Via.refl e158 C2 (g := (mkF m 30 #[.val (.ref a1), .val (.ref a2), .val (.ref a2)] [(.ref a2), (.int (0 : Int32))])) rfl rfl (hb hby d5_30)
  have pre162 : ∀ t, Steps p.tables e below (T161.setTop (mkF m 33 #[.val (.ref a1), .val (.ref a2), .val (.ref a2)] [(.int (0 : Int32)), (.int (0 : Int32))])) t → Steps p.tables e below (s₁.setTop (entryFrame m #[(.ref a1), (.ref a2)] 3)) t := by
    intro t k
    refine pre160 _ ?_
    show Steps p.tables e below (T158.setTop (mkF m 30 #[.val (.ref a1), .val (.ref a2), .val (.ref a2)] [(.ref a2), (.int (0 : Int32))])) _
    refine st161 _ ?_
    exact k
  have pre164 : ∀ t, Steps p.tables e below (T161.setTop (mkF m 36 #[.val (.ref a1), .val (.ref a2), .val (.ref a2)] [])) t → Steps p.tables e below (s₁.setTop (entryFrame m #[(.ref a1), (.ref a2)] 3)) t := by
    intro t k
    refine pre162 _ ?_
    show Steps p.tables e below (T161.setTop (mkF m 33 #[.val (.ref a1), .val (.ref a2), .val (.ref a2)] [(.int (0 : Int32)), (.int (0 : Int32))])) _
    refine XS.icmpNo X161.here hx rfl (hb hby d5_33) rfl (teq (rfl : (0 : Int32) = (0 : Int32))).2 ?_
    exact k
  have pre165 : ∀ t, Steps p.tables e below (T161.setTop (mkF m 37 #[.val (.ref a1), .val (.ref a2), .val (.ref a2)] [(.ref a1)])) t → Steps p.tables e below (s₁.setTop (entryFrame m #[(.ref a1), (.ref a2)] 3)) t := by
    intro t k
    refine pre164 _ ?_
    show Steps p.tables e below (T161.setTop (mkF m 36 #[.val (.ref a1), .val (.ref a2), .val (.ref a2)] [])) _
    refine XS.aloadN X161.here hx rfl (hb hby d5_36) rfl rfl ?_
    exact k
  obtain ⟨T166, X166, e166, st166⟩ := getF X161 hx hZ hown (host := "") (Or.inl (hw _ (List.mem_of_getElem? (i := 46) rfl))) Via.refl e161 V1 (g := (mkF m 37 #[.val (.ref a1), .val (.ref a2), .val (.ref a2)] [(.ref a1)])) rfl rfl (hb hby d5_37)
  have pre167 : ∀ t, Steps p.tables e below (T166.setTop (mkF m 40 #[.val (.ref a1), .val (.ref a2), .val (.ref a2)] [(.ref v1)])) t → Steps p.tables e below (s₁.setTop (entryFrame m #[(.ref a1), (.ref a2)] 3)) t := by
    intro t k
    refine pre165 _ ?_
    show Steps p.tables e below (T161.setTop (mkF m 37 #[.val (.ref a1), .val (.ref a2), .val (.ref a2)] [(.ref a1)])) _
    refine st166 _ ?_
    exact k
  have pre168 : ∀ t, Steps p.tables e below (T166.setTop (mkF m 41 #[.val (.ref a1), .val (.ref a2), .val (.ref a2)] [(.ref a2), (.ref v1)])) t → Steps p.tables e below (s₁.setTop (entryFrame m #[(.ref a1), (.ref a2)] 3)) t := by
    intro t k
    refine pre167 _ ?_
    show Steps p.tables e below (T166.setTop (mkF m 40 #[.val (.ref a1), .val (.ref a2), .val (.ref a2)] [(.ref v1)])) _
    refine XS.aloadN X166.here hx rfl (hb hby d5_40) rfl rfl ?_
    exact k
  obtain ⟨T169, X169, e169, st169⟩ := getF X166 hx hZ hown (host := "") (Or.inl (hw _ (List.mem_of_getElem? (i := 46) rfl))) Via.refl e166 V2 (g := (mkF m 41 #[.val (.ref a1), .val (.ref a2), .val (.ref a2)] [(.ref a2), (.ref v1)])) rfl rfl (hb hby d5_41)
  have pre170 : ∀ t, Steps p.tables e below (T169.setTop (mkF m 44 #[.val (.ref a1), .val (.ref a2), .val (.ref a2)] [(.ref v2), (.ref v1)])) t → Steps p.tables e below (s₁.setTop (entryFrame m #[(.ref a1), (.ref a2)] 3)) t := by
    intro t k
    refine pre168 _ ?_
    show Steps p.tables e below (T166.setTop (mkF m 41 #[.val (.ref a1), .val (.ref a2), .val (.ref a2)] [(.ref a2), (.ref v1)])) _
    refine st169 _ ?_
    exact k
  obtain ⟨_, _, ⟨T171, L171, k171, n171⟩, -, X171, ⟨Lc171, hQ171, l171, y171, z171⟩, st171⟩ := Jvm.LawKit.callS X169 hx (y := (⟨"java/lang/StringLatin1", "equals", "([B[B)Z"⟩ : MethodName)) hown (mvT hZ (hw _ (List.mem_of_getElem? (i := 47) rfl))) (mvT hZ (hw _ (List.mem_of_getElem? (i := 48) rfl))) (mvT hZ (hw _ (List.mem_of_getElem? (i := 49) rfl))) (mvT hZ (hw _ (List.mem_of_getElem? (i := 50) rfl))) (by decide) (backOf (W := 0) (rm6xi l Z a0 hw [] v1 v2 k1 k2 h0 n0 Z0 A1 A2) hZ (hw _ (List.mem_of_getElem? (i := 50) rfl)) (hw _ (List.mem_of_getElem? (i := 49) rfl)) (by decide) (by decide)) (g := (mkF m 44 #[.val (.ref a1), .val (.ref a2), .val (.ref a2)] [(.ref v2), (.ref v1)])) rfl (by rw [hml]; rfl) (argsL := [(.ref v1), (.ref v2)]) (rest := []) (lenOf pd___B_B_Z rfl) rfl (by show 2 * 0 + _ ≤ _; exact Nat.le_of_eq rfl) (hb hby d5_44) (fun _ _ => ⟨rfl, e169, (by decide : 0 + 0 ≤ _), (by decide : 0 + 0 ≤ _)⟩)
  dsimp only [Pt.U, Pt.locs, Pt.cells, Pt.slots] at X171 l171 y171 z171 st171 hQ171
  subst l171 y171 z171
  obtain ⟨rfl, N171q, e171⟩ := hQ171
  have N171 := Fr.app N0 N171q
  have pre172 : ∀ t, Steps p.tables e below (T171.setTop (mkF m 47 #[.val (.ref a1), .val (.ref a2), .val (.ref a2)] [(.int (0 : Int32))])) t → Steps p.tables e below (s₁.setTop (entryFrame m #[(.ref a1), (.ref a2)] 3)) t := by
    intro t k
    refine pre170 _ ?_
    show Steps p.tables e below (T169.setTop (mkF m 44 #[.val (.ref a1), .val (.ref a2), .val (.ref a2)] [(.ref v2), (.ref v1)])) _
    refine st171 _ ?_
    exact k
  have pre174 : ∀ t, Steps p.tables e below (T171.setTop (mkF m 54 #[.val (.ref a1), .val (.ref a2), .val (.ref a2)] [])) t → Steps p.tables e below (s₁.setTop (entryFrame m #[(.ref a1), (.ref a2)] 3)) t := by
    intro t k
    refine pre172 _ ?_
    show Steps p.tables e below (T171.setTop (mkF m 47 #[.val (.ref a1), .val (.ref a2), .val (.ref a2)] [(.int (0 : Int32))])) _
    refine XS.ifYes X171.here hx rfl (pc0 := 47) (pc' := 54) rfl (hb hby d5_47) rfl ((if0 _ _).trans (teq (rfl : (0 : Int32) = (0 : Int32))).1) (by decide) (by decide) ?_
    exact k
  have pre175 : ∀ t, Steps p.tables e below (T171.setTop (mkF m 55 #[.val (.ref a1), .val (.ref a2), .val (.ref a2)] [(.int (0 : Int32))])) t → Steps p.tables e below (s₁.setTop (entryFrame m #[(.ref a1), (.ref a2)] 3)) t := by
    intro t k
    refine pre174 _ ?_
    show Steps p.tables e below (T171.setTop (mkF m 54 #[.val (.ref a1), .val (.ref a2), .val (.ref a2)] [])) _
    refine XS.iconst X171.here hx rfl (hb hby d5_54) ?_
    exact k
  obtain ⟨fs, hr, hrun, hended, hW, hsame⟩ := X171.leave (v := some (.int (0 : Int32))) (fun h => by rw [hret] at h; cases h)
  refine ⟨_, _, pre175 _ ?_, hrun, hended, _, _, rfl, ?_, ⟨_, rfl⟩, hW, hsame.mono (by decide) (by decide)⟩
  · show Steps p.tables e below (T171.setTop (mkF m 55 #[.val (.ref a1), .val (.ref a2), .val (.ref a2)] [(.int (0 : Int32))])) _
    exact retN X171 hx (t := .boolean) hret (by simp) (hb hby d5_55) hr
  · show Q5xi Z a1 a2 v1 v2 k1 k2 pC h0 n0 _ T171.heap _
    rw [e171]
    exact ⟨rfl, N171, rfl⟩
theorem ef_6xx (m : MethodId) (x0 : Addr) (x1 : Addr) : entryFrame m #[(.ref x0), (.ref x1)] 3 = mkF m 0 #[.val (.ref x0), .val (.ref x1), .unset] [] := by first | (simp [entryFrame, mkF, argsToLocals, Value.category]; done) | rfl
def Q6xx (Z : State) (a1 : Addr) (a2 : Addr) (k1 : ClassId) (k2 : ClassId) (h0 : Heap) (n0 : Nat) (v : Option Value) (h : Heap) (L : List Loc) : Prop := v = some (.int (1 : Int32)) ∧ Fr n0 L ∧ h = h0
set_option maxRecDepth 65536 in
set_option maxHeartbeats 40000000 in
theorem rm6xx (l : Launch) (Z : State) (a0 : Array Value) (hw : ∀ d ∈ tables_1, d.before a0 Z = true) (ws : List Jvm.Cond) (a1 : Addr) (a2 : Addr) (k1 : ClassId) (k2 : ClassId) (h0 : Heap) (n0 : Nat) (Z0 : n0 ≤ h0.size) (A1 : Arv Z h0 a1 k1 .byte (8 : Int32) [.int (101 : Int32), .int (120 : Int32), .int (99 : Int32), .int (108 : Int32), .int (117 : Int32), .int (100 : Int32), .int (101 : Int32), .int (100 : Int32)] (.int (0 : Int32))) (A2 : Arv Z h0 a2 k2 .byte (8 : Int32) [.int (101 : Int32), .int (120 : Int32), .int (99 : Int32), .int (108 : Int32), .int (117 : Int32), .int (100 : Int32), .int (101 : Int32), .int (100 : Int32)] (.int (0 : Int32))) :
    MetFree l (⟨"java/lang/StringLatin1", "equals", "([B[B)Z"⟩ : MethodName) (head1 (Jvm.Cond.code (⟨"java/lang/StringLatin1", "equals", "([B[B)Z"⟩ : MethodName) jdk_43_method_13_code 3 (some .boolean) :: ws) ({ frames := 0, cells := 0, slots := 0, locals := 0 } : Room)) (fun a U => a = #[(.ref a1), (.ref a2)] ∧ Z.Warmed39 U.vm ∧ U.heap = h0) (fun _ _ _ _ _ => True) (fun _ U o U' => ∃ v L, o = .returned v ∧ Q6xx Z a1 a2 k1 k2 h0 n0 v U'.heap L ∧ FrameEnd U o U' L ({ frames := 0, cells := 0, slots := 0, locals := 0 } : Room).cells ({ frames := 0, cells := 0, slots := 0, locals := 0 } : Room).slots) := by
  refine MetFree.of_bodySF (plainFor_of_name pn_6) hisR ?_
  intro p e s m args below meth c s₁ Bd hml0 hP hK
  obtain ⟨rfl, hZ, hh⟩ := hP
  have hx := Bd.exec
  have hby := Bd.bytes
  have hml : c.maxLocals = 3 := hml0
  have hown : s.vm.findClass "java/lang/StringLatin1" = some m.cls := findClass_of_methodNamed Bd.named
  have hnm := (name_of_methodNamed Bd.named Bd.method).1
  have hret := Bd.returns
  have hlocks : meth.locks = false := Bd.notSynchronized
  have X0 : Stand p l e ({ frames := 0, cells := 0, slots := 0, locals := 0 } : Room) s m #[(.ref a1), (.ref a2)] below meth c s₁ [] 0 0 := Stand.of_body Bd
  have e0 : s₁.heap = h0 := by rw [← hh, Bd.state]; rfl
  have N0 := Fr.nil n0
  obtain ⟨cl1, Ar1, _, S1, N_1, H1, _⟩ := A1
  obtain ⟨cl2, Ar2, _, S2, N_2, H2, _⟩ := A2
  have pre0 : ∀ t, Steps p.tables e below (s₁.setTop (mkF m 0 #[.val (.ref a1), .val (.ref a2), .unset] [])) t → Steps p.tables e below (s₁.setTop (entryFrame m #[(.ref a1), (.ref a2)] 3)) t := fun t k => castTop (ef_6xx m a1 a2) k
  have pre176 : ∀ t, Steps p.tables e below (s₁.setTop (mkF m 4 #[.val (.ref a1), .val (.ref a2), .unset] [(.int (8 : Int32)), (.int (8 : Int32))])) t → Steps p.tables e below (s₁.setTop (entryFrame m #[(.ref a1), (.ref a2)] 3)) t := by
    intro t k
    refine pre0 _ ?_
    show Steps p.tables e below (s₁.setTop (mkF m 0 #[.val (.ref a1), .val (.ref a2), .unset] [])) _
    refine XS.aloadN X0.here hx rfl (hb hby d6_0) rfl rfl ?_
    show Steps p.tables e below (s₁.setTop (mkF m 1 #[.val (.ref a1), .val (.ref a2), .unset] [(.ref a1)])) _
    refine X0.arraylength hx (by rw [e0]; exact Ar1.1) (State.isArrayOf_alike hZ.alike Ar1.2.1) (g := (mkF m 1 #[.val (.ref a1), .val (.ref a2), .unset] [(.ref a1)])) rfl rfl (hb hby d6_1) _ ?_
    rw [len_of S1 N_1]
    show Steps p.tables e below (s₁.setTop (mkF m 2 #[.val (.ref a1), .val (.ref a2), .unset] [(.int (8 : Int32))])) _
    refine XS.aloadN X0.here hx rfl (hb hby d6_2) rfl rfl ?_
    show Steps p.tables e below (s₁.setTop (mkF m 3 #[.val (.ref a1), .val (.ref a2), .unset] [(.ref a2), (.int (8 : Int32))])) _
    refine X0.arraylength hx (by rw [e0]; exact Ar2.1) (State.isArrayOf_alike hZ.alike Ar2.2.1) (g := (mkF m 3 #[.val (.ref a1), .val (.ref a2), .unset] [(.ref a2), (.int (8 : Int32))])) rfl rfl (hb hby d6_3) _ ?_
    rw [len_of S2 N_2]
    exact k
  have pre178 : ∀ t, Steps p.tables e below (s₁.setTop (mkF m 7 #[.val (.ref a1), .val (.ref a2), .unset] [])) t → Steps p.tables e below (s₁.setTop (entryFrame m #[(.ref a1), (.ref a2)] 3)) t := by
    intro t k
    refine pre176 _ ?_
    show Steps p.tables e below (s₁.setTop (mkF m 4 #[.val (.ref a1), .val (.ref a2), .unset] [(.int (8 : Int32)), (.int (8 : Int32))])) _
    refine XS.icmpNo X0.here hx rfl (hb hby d6_4) rfl (teq (rfl : (8 : Int32) = (8 : Int32))).2 ?_
    exact k
  have pre179 : ∀ t, Steps p.tables e below (s₁.setTop (mkF m 12 #[.val (.ref a1), .val (.ref a2), .val (.int (0 : Int32))] [(.int (8 : Int32)), (.int (0 : Int32))])) t → Steps p.tables e below (s₁.setTop (entryFrame m #[(.ref a1), (.ref a2)] 3)) t := by
    intro t k
    refine pre178 _ ?_
    show Steps p.tables e below (s₁.setTop (mkF m 7 #[.val (.ref a1), .val (.ref a2), .unset] [])) _
    refine XS.iconst X0.here hx rfl (hb hby d6_7) ?_
    show Steps p.tables e below (s₁.setTop (mkF m 8 #[.val (.ref a1), .val (.ref a2), .unset] [(.int (0 : Int32))])) _
    refine XS.istoreN X0.here hx rfl (hb hby d6_8) rfl (l' := #[.val (.ref a1), .val (.ref a2), .val (.int (0 : Int32))]) rfl ?_
    show Steps p.tables e below (s₁.setTop (mkF m 9 #[.val (.ref a1), .val (.ref a2), .val (.int (0 : Int32))] [])) _
    refine XS.iloadN X0.here hx rfl (hb hby d6_9) rfl ?_
    show Steps p.tables e below (s₁.setTop (mkF m 10 #[.val (.ref a1), .val (.ref a2), .val (.int (0 : Int32))] [(.int (0 : Int32))])) _
    refine XS.aloadN X0.here hx rfl (hb hby d6_10) rfl rfl ?_
    show Steps p.tables e below (s₁.setTop (mkF m 11 #[.val (.ref a1), .val (.ref a2), .val (.int (0 : Int32))] [(.ref a1), (.int (0 : Int32))])) _
    refine X0.arraylength hx (by rw [e0]; exact Ar1.1) (State.isArrayOf_alike hZ.alike Ar1.2.1) (g := (mkF m 11 #[.val (.ref a1), .val (.ref a2), .val (.int (0 : Int32))] [(.ref a1), (.int (0 : Int32))])) rfl rfl (hb hby d6_11) _ ?_
    rw [len_of S1 N_1]
    exact k
  have pre181 : ∀ t, Steps p.tables e below (s₁.setTop (mkF m 15 #[.val (.ref a1), .val (.ref a2), .val (.int (0 : Int32))] [])) t → Steps p.tables e below (s₁.setTop (entryFrame m #[(.ref a1), (.ref a2)] 3)) t := by
    intro t k
    refine pre179 _ ?_
    show Steps p.tables e below (s₁.setTop (mkF m 12 #[.val (.ref a1), .val (.ref a2), .val (.int (0 : Int32))] [(.int (8 : Int32)), (.int (0 : Int32))])) _
    refine XS.icmpNo X0.here hx rfl (hb hby d6_12) rfl (tlt (by decide : (0 : Int32) < (8 : Int32))).2.1 ?_
    exact k
  have pre182 : ∀ t, Steps p.tables e below (s₁.setTop (mkF m 21 #[.val (.ref a1), .val (.ref a2), .val (.int (0 : Int32))] [(.int (101 : Int32)), (.int (101 : Int32))])) t → Steps p.tables e below (s₁.setTop (entryFrame m #[(.ref a1), (.ref a2)] 3)) t := by
    intro t k
    refine pre181 _ ?_
    show Steps p.tables e below (s₁.setTop (mkF m 15 #[.val (.ref a1), .val (.ref a2), .val (.int (0 : Int32))] [])) _
    refine XS.aloadN X0.here hx rfl (hb hby d6_15) rfl rfl ?_
    show Steps p.tables e below (s₁.setTop (mkF m 16 #[.val (.ref a1), .val (.ref a2), .val (.int (0 : Int32))] [(.ref a1)])) _
    refine XS.iloadN X0.here hx rfl (hb hby d6_16) rfl ?_
    show Steps p.tables e below (s₁.setTop (mkF m 17 #[.val (.ref a1), .val (.ref a2), .val (.int (0 : Int32))] [(.int (0 : Int32)), (.ref a1)])) _
    refine X0.baloadBytes hx (j := (0 : Int32)) (v := (.int (101 : Int32))) (by rw [e0]; exact Ar1.1) (State.isArrayOf_alike hZ.alike Ar1.2.1) Ar1.2.2 (inb_of S1 ⟨by decide, by decide⟩) (Has.at (v := (.int (101 : Int32))) H1 (inb_of S1 ⟨by decide, by decide⟩) rfl) (g := (mkF m 17 #[.val (.ref a1), .val (.ref a2), .val (.int (0 : Int32))] [(.int (0 : Int32)), (.ref a1)])) rfl rfl (hb hby d6_17) _ ?_
    show Steps p.tables e below (s₁.setTop (mkF m 18 #[.val (.ref a1), .val (.ref a2), .val (.int (0 : Int32))] [(.int (101 : Int32))])) _
    refine XS.aloadN X0.here hx rfl (hb hby d6_18) rfl rfl ?_
    show Steps p.tables e below (s₁.setTop (mkF m 19 #[.val (.ref a1), .val (.ref a2), .val (.int (0 : Int32))] [(.ref a2), (.int (101 : Int32))])) _
    refine XS.iloadN X0.here hx rfl (hb hby d6_19) rfl ?_
    show Steps p.tables e below (s₁.setTop (mkF m 20 #[.val (.ref a1), .val (.ref a2), .val (.int (0 : Int32))] [(.int (0 : Int32)), (.ref a2), (.int (101 : Int32))])) _
    refine X0.baloadBytes hx (j := (0 : Int32)) (v := (.int (101 : Int32))) (by rw [e0]; exact Ar2.1) (State.isArrayOf_alike hZ.alike Ar2.2.1) Ar2.2.2 (inb_of S2 ⟨by decide, by decide⟩) (Has.at (v := (.int (101 : Int32))) H2 (inb_of S2 ⟨by decide, by decide⟩) rfl) (g := (mkF m 20 #[.val (.ref a1), .val (.ref a2), .val (.int (0 : Int32))] [(.int (0 : Int32)), (.ref a2), (.int (101 : Int32))])) rfl rfl (hb hby d6_20) _ ?_
    exact k
  have pre184 : ∀ t, Steps p.tables e below (s₁.setTop (mkF m 26 #[.val (.ref a1), .val (.ref a2), .val (.int (0 : Int32))] [])) t → Steps p.tables e below (s₁.setTop (entryFrame m #[(.ref a1), (.ref a2)] 3)) t := by
    intro t k
    refine pre182 _ ?_
    show Steps p.tables e below (s₁.setTop (mkF m 21 #[.val (.ref a1), .val (.ref a2), .val (.int (0 : Int32))] [(.int (101 : Int32)), (.int (101 : Int32))])) _
    refine XS.icmpYes X0.here hx rfl (pc0 := 21) (pc' := 26) rfl (hb hby d6_21) rfl (teq (rfl : (101 : Int32) = (101 : Int32))).1 (by decide) (by decide) ?_
    exact k
  have pre185 : ∀ t, Steps p.tables e below (s₁.setTop (mkF m 12 #[.val (.ref a1), .val (.ref a2), .val (.int (1 : Int32))] [(.int (8 : Int32)), (.int (1 : Int32))])) t → Steps p.tables e below (s₁.setTop (entryFrame m #[(.ref a1), (.ref a2)] 3)) t := by
    intro t k
    refine pre184 _ ?_
    show Steps p.tables e below (s₁.setTop (mkF m 26 #[.val (.ref a1), .val (.ref a2), .val (.int (0 : Int32))] [])) _
    refine XS.iinc X0.here hx rfl (hb hby d6_26) rfl (l' := #[.val (.ref a1), .val (.ref a2), .val (.int (1 : Int32))]) rfl ?_
    show Steps p.tables e below (s₁.setTop (mkF m 29 #[.val (.ref a1), .val (.ref a2), .val (.int (1 : Int32))] [])) _
    refine XS.goto X0.here hx rfl (pc0 := 29) (pc' := 9) rfl (hb hby d6_29) (by decide) (by decide) ?_
    show Steps p.tables e below (s₁.setTop (mkF m 9 #[.val (.ref a1), .val (.ref a2), .val (.int (1 : Int32))] [])) _
    refine XS.iloadN X0.here hx rfl (hb hby d6_9) rfl ?_
    show Steps p.tables e below (s₁.setTop (mkF m 10 #[.val (.ref a1), .val (.ref a2), .val (.int (1 : Int32))] [(.int (1 : Int32))])) _
    refine XS.aloadN X0.here hx rfl (hb hby d6_10) rfl rfl ?_
    show Steps p.tables e below (s₁.setTop (mkF m 11 #[.val (.ref a1), .val (.ref a2), .val (.int (1 : Int32))] [(.ref a1), (.int (1 : Int32))])) _
    refine X0.arraylength hx (by rw [e0]; exact Ar1.1) (State.isArrayOf_alike hZ.alike Ar1.2.1) (g := (mkF m 11 #[.val (.ref a1), .val (.ref a2), .val (.int (1 : Int32))] [(.ref a1), (.int (1 : Int32))])) rfl rfl (hb hby d6_11) _ ?_
    rw [len_of S1 N_1]
    exact k
  have pre187 : ∀ t, Steps p.tables e below (s₁.setTop (mkF m 15 #[.val (.ref a1), .val (.ref a2), .val (.int (1 : Int32))] [])) t → Steps p.tables e below (s₁.setTop (entryFrame m #[(.ref a1), (.ref a2)] 3)) t := by
    intro t k
    refine pre185 _ ?_
    show Steps p.tables e below (s₁.setTop (mkF m 12 #[.val (.ref a1), .val (.ref a2), .val (.int (1 : Int32))] [(.int (8 : Int32)), (.int (1 : Int32))])) _
    refine XS.icmpNo X0.here hx rfl (hb hby d6_12) rfl (tlt (by decide : (1 : Int32) < (8 : Int32))).2.1 ?_
    exact k
  have pre188 : ∀ t, Steps p.tables e below (s₁.setTop (mkF m 21 #[.val (.ref a1), .val (.ref a2), .val (.int (1 : Int32))] [(.int (120 : Int32)), (.int (120 : Int32))])) t → Steps p.tables e below (s₁.setTop (entryFrame m #[(.ref a1), (.ref a2)] 3)) t := by
    intro t k
    refine pre187 _ ?_
    show Steps p.tables e below (s₁.setTop (mkF m 15 #[.val (.ref a1), .val (.ref a2), .val (.int (1 : Int32))] [])) _
    refine XS.aloadN X0.here hx rfl (hb hby d6_15) rfl rfl ?_
    show Steps p.tables e below (s₁.setTop (mkF m 16 #[.val (.ref a1), .val (.ref a2), .val (.int (1 : Int32))] [(.ref a1)])) _
    refine XS.iloadN X0.here hx rfl (hb hby d6_16) rfl ?_
    show Steps p.tables e below (s₁.setTop (mkF m 17 #[.val (.ref a1), .val (.ref a2), .val (.int (1 : Int32))] [(.int (1 : Int32)), (.ref a1)])) _
    refine X0.baloadBytes hx (j := (1 : Int32)) (v := (.int (120 : Int32))) (by rw [e0]; exact Ar1.1) (State.isArrayOf_alike hZ.alike Ar1.2.1) Ar1.2.2 (inb_of S1 ⟨by decide, by decide⟩) (Has.at (v := (.int (120 : Int32))) H1 (inb_of S1 ⟨by decide, by decide⟩) rfl) (g := (mkF m 17 #[.val (.ref a1), .val (.ref a2), .val (.int (1 : Int32))] [(.int (1 : Int32)), (.ref a1)])) rfl rfl (hb hby d6_17) _ ?_
    show Steps p.tables e below (s₁.setTop (mkF m 18 #[.val (.ref a1), .val (.ref a2), .val (.int (1 : Int32))] [(.int (120 : Int32))])) _
    refine XS.aloadN X0.here hx rfl (hb hby d6_18) rfl rfl ?_
    show Steps p.tables e below (s₁.setTop (mkF m 19 #[.val (.ref a1), .val (.ref a2), .val (.int (1 : Int32))] [(.ref a2), (.int (120 : Int32))])) _
    refine XS.iloadN X0.here hx rfl (hb hby d6_19) rfl ?_
    show Steps p.tables e below (s₁.setTop (mkF m 20 #[.val (.ref a1), .val (.ref a2), .val (.int (1 : Int32))] [(.int (1 : Int32)), (.ref a2), (.int (120 : Int32))])) _
    refine X0.baloadBytes hx (j := (1 : Int32)) (v := (.int (120 : Int32))) (by rw [e0]; exact Ar2.1) (State.isArrayOf_alike hZ.alike Ar2.2.1) Ar2.2.2 (inb_of S2 ⟨by decide, by decide⟩) (Has.at (v := (.int (120 : Int32))) H2 (inb_of S2 ⟨by decide, by decide⟩) rfl) (g := (mkF m 20 #[.val (.ref a1), .val (.ref a2), .val (.int (1 : Int32))] [(.int (1 : Int32)), (.ref a2), (.int (120 : Int32))])) rfl rfl (hb hby d6_20) _ ?_
    exact k
  have pre190 : ∀ t, Steps p.tables e below (s₁.setTop (mkF m 26 #[.val (.ref a1), .val (.ref a2), .val (.int (1 : Int32))] [])) t → Steps p.tables e below (s₁.setTop (entryFrame m #[(.ref a1), (.ref a2)] 3)) t := by
    intro t k
    refine pre188 _ ?_
    show Steps p.tables e below (s₁.setTop (mkF m 21 #[.val (.ref a1), .val (.ref a2), .val (.int (1 : Int32))] [(.int (120 : Int32)), (.int (120 : Int32))])) _
    refine XS.icmpYes X0.here hx rfl (pc0 := 21) (pc' := 26) rfl (hb hby d6_21) rfl (teq (rfl : (120 : Int32) = (120 : Int32))).1 (by decide) (by decide) ?_
    exact k
  have pre191 : ∀ t, Steps p.tables e below (s₁.setTop (mkF m 12 #[.val (.ref a1), .val (.ref a2), .val (.int (2 : Int32))] [(.int (8 : Int32)), (.int (2 : Int32))])) t → Steps p.tables e below (s₁.setTop (entryFrame m #[(.ref a1), (.ref a2)] 3)) t := by
    intro t k
    refine pre190 _ ?_
    show Steps p.tables e below (s₁.setTop (mkF m 26 #[.val (.ref a1), .val (.ref a2), .val (.int (1 : Int32))] [])) _
    refine XS.iinc X0.here hx rfl (hb hby d6_26) rfl (l' := #[.val (.ref a1), .val (.ref a2), .val (.int (2 : Int32))]) rfl ?_
    show Steps p.tables e below (s₁.setTop (mkF m 29 #[.val (.ref a1), .val (.ref a2), .val (.int (2 : Int32))] [])) _
    refine XS.goto X0.here hx rfl (pc0 := 29) (pc' := 9) rfl (hb hby d6_29) (by decide) (by decide) ?_
    show Steps p.tables e below (s₁.setTop (mkF m 9 #[.val (.ref a1), .val (.ref a2), .val (.int (2 : Int32))] [])) _
    refine XS.iloadN X0.here hx rfl (hb hby d6_9) rfl ?_
    show Steps p.tables e below (s₁.setTop (mkF m 10 #[.val (.ref a1), .val (.ref a2), .val (.int (2 : Int32))] [(.int (2 : Int32))])) _
    refine XS.aloadN X0.here hx rfl (hb hby d6_10) rfl rfl ?_
    show Steps p.tables e below (s₁.setTop (mkF m 11 #[.val (.ref a1), .val (.ref a2), .val (.int (2 : Int32))] [(.ref a1), (.int (2 : Int32))])) _
    refine X0.arraylength hx (by rw [e0]; exact Ar1.1) (State.isArrayOf_alike hZ.alike Ar1.2.1) (g := (mkF m 11 #[.val (.ref a1), .val (.ref a2), .val (.int (2 : Int32))] [(.ref a1), (.int (2 : Int32))])) rfl rfl (hb hby d6_11) _ ?_
    rw [len_of S1 N_1]
    exact k
  have pre193 : ∀ t, Steps p.tables e below (s₁.setTop (mkF m 15 #[.val (.ref a1), .val (.ref a2), .val (.int (2 : Int32))] [])) t → Steps p.tables e below (s₁.setTop (entryFrame m #[(.ref a1), (.ref a2)] 3)) t := by
    intro t k
    refine pre191 _ ?_
    show Steps p.tables e below (s₁.setTop (mkF m 12 #[.val (.ref a1), .val (.ref a2), .val (.int (2 : Int32))] [(.int (8 : Int32)), (.int (2 : Int32))])) _
    refine XS.icmpNo X0.here hx rfl (hb hby d6_12) rfl (tlt (by decide : (2 : Int32) < (8 : Int32))).2.1 ?_
    exact k
  have pre194 : ∀ t, Steps p.tables e below (s₁.setTop (mkF m 21 #[.val (.ref a1), .val (.ref a2), .val (.int (2 : Int32))] [(.int (99 : Int32)), (.int (99 : Int32))])) t → Steps p.tables e below (s₁.setTop (entryFrame m #[(.ref a1), (.ref a2)] 3)) t := by
    intro t k
    refine pre193 _ ?_
    show Steps p.tables e below (s₁.setTop (mkF m 15 #[.val (.ref a1), .val (.ref a2), .val (.int (2 : Int32))] [])) _
    refine XS.aloadN X0.here hx rfl (hb hby d6_15) rfl rfl ?_
    show Steps p.tables e below (s₁.setTop (mkF m 16 #[.val (.ref a1), .val (.ref a2), .val (.int (2 : Int32))] [(.ref a1)])) _
    refine XS.iloadN X0.here hx rfl (hb hby d6_16) rfl ?_
    show Steps p.tables e below (s₁.setTop (mkF m 17 #[.val (.ref a1), .val (.ref a2), .val (.int (2 : Int32))] [(.int (2 : Int32)), (.ref a1)])) _
    refine X0.baloadBytes hx (j := (2 : Int32)) (v := (.int (99 : Int32))) (by rw [e0]; exact Ar1.1) (State.isArrayOf_alike hZ.alike Ar1.2.1) Ar1.2.2 (inb_of S1 ⟨by decide, by decide⟩) (Has.at (v := (.int (99 : Int32))) H1 (inb_of S1 ⟨by decide, by decide⟩) rfl) (g := (mkF m 17 #[.val (.ref a1), .val (.ref a2), .val (.int (2 : Int32))] [(.int (2 : Int32)), (.ref a1)])) rfl rfl (hb hby d6_17) _ ?_
    show Steps p.tables e below (s₁.setTop (mkF m 18 #[.val (.ref a1), .val (.ref a2), .val (.int (2 : Int32))] [(.int (99 : Int32))])) _
    refine XS.aloadN X0.here hx rfl (hb hby d6_18) rfl rfl ?_
    show Steps p.tables e below (s₁.setTop (mkF m 19 #[.val (.ref a1), .val (.ref a2), .val (.int (2 : Int32))] [(.ref a2), (.int (99 : Int32))])) _
    refine XS.iloadN X0.here hx rfl (hb hby d6_19) rfl ?_
    show Steps p.tables e below (s₁.setTop (mkF m 20 #[.val (.ref a1), .val (.ref a2), .val (.int (2 : Int32))] [(.int (2 : Int32)), (.ref a2), (.int (99 : Int32))])) _
    refine X0.baloadBytes hx (j := (2 : Int32)) (v := (.int (99 : Int32))) (by rw [e0]; exact Ar2.1) (State.isArrayOf_alike hZ.alike Ar2.2.1) Ar2.2.2 (inb_of S2 ⟨by decide, by decide⟩) (Has.at (v := (.int (99 : Int32))) H2 (inb_of S2 ⟨by decide, by decide⟩) rfl) (g := (mkF m 20 #[.val (.ref a1), .val (.ref a2), .val (.int (2 : Int32))] [(.int (2 : Int32)), (.ref a2), (.int (99 : Int32))])) rfl rfl (hb hby d6_20) _ ?_
    exact k
  have pre196 : ∀ t, Steps p.tables e below (s₁.setTop (mkF m 26 #[.val (.ref a1), .val (.ref a2), .val (.int (2 : Int32))] [])) t → Steps p.tables e below (s₁.setTop (entryFrame m #[(.ref a1), (.ref a2)] 3)) t := by
    intro t k
    refine pre194 _ ?_
    show Steps p.tables e below (s₁.setTop (mkF m 21 #[.val (.ref a1), .val (.ref a2), .val (.int (2 : Int32))] [(.int (99 : Int32)), (.int (99 : Int32))])) _
    refine XS.icmpYes X0.here hx rfl (pc0 := 21) (pc' := 26) rfl (hb hby d6_21) rfl (teq (rfl : (99 : Int32) = (99 : Int32))).1 (by decide) (by decide) ?_
    exact k
  have pre197 : ∀ t, Steps p.tables e below (s₁.setTop (mkF m 12 #[.val (.ref a1), .val (.ref a2), .val (.int (3 : Int32))] [(.int (8 : Int32)), (.int (3 : Int32))])) t → Steps p.tables e below (s₁.setTop (entryFrame m #[(.ref a1), (.ref a2)] 3)) t := by
    intro t k
    refine pre196 _ ?_
    show Steps p.tables e below (s₁.setTop (mkF m 26 #[.val (.ref a1), .val (.ref a2), .val (.int (2 : Int32))] [])) _
    refine XS.iinc X0.here hx rfl (hb hby d6_26) rfl (l' := #[.val (.ref a1), .val (.ref a2), .val (.int (3 : Int32))]) rfl ?_
    show Steps p.tables e below (s₁.setTop (mkF m 29 #[.val (.ref a1), .val (.ref a2), .val (.int (3 : Int32))] [])) _
    refine XS.goto X0.here hx rfl (pc0 := 29) (pc' := 9) rfl (hb hby d6_29) (by decide) (by decide) ?_
    show Steps p.tables e below (s₁.setTop (mkF m 9 #[.val (.ref a1), .val (.ref a2), .val (.int (3 : Int32))] [])) _
    refine XS.iloadN X0.here hx rfl (hb hby d6_9) rfl ?_
    show Steps p.tables e below (s₁.setTop (mkF m 10 #[.val (.ref a1), .val (.ref a2), .val (.int (3 : Int32))] [(.int (3 : Int32))])) _
    refine XS.aloadN X0.here hx rfl (hb hby d6_10) rfl rfl ?_
    show Steps p.tables e below (s₁.setTop (mkF m 11 #[.val (.ref a1), .val (.ref a2), .val (.int (3 : Int32))] [(.ref a1), (.int (3 : Int32))])) _
    refine X0.arraylength hx (by rw [e0]; exact Ar1.1) (State.isArrayOf_alike hZ.alike Ar1.2.1) (g := (mkF m 11 #[.val (.ref a1), .val (.ref a2), .val (.int (3 : Int32))] [(.ref a1), (.int (3 : Int32))])) rfl rfl (hb hby d6_11) _ ?_
    rw [len_of S1 N_1]
    exact k
  have pre199 : ∀ t, Steps p.tables e below (s₁.setTop (mkF m 15 #[.val (.ref a1), .val (.ref a2), .val (.int (3 : Int32))] [])) t → Steps p.tables e below (s₁.setTop (entryFrame m #[(.ref a1), (.ref a2)] 3)) t := by
    intro t k
    refine pre197 _ ?_
    show Steps p.tables e below (s₁.setTop (mkF m 12 #[.val (.ref a1), .val (.ref a2), .val (.int (3 : Int32))] [(.int (8 : Int32)), (.int (3 : Int32))])) _
    refine XS.icmpNo X0.here hx rfl (hb hby d6_12) rfl (tlt (by decide : (3 : Int32) < (8 : Int32))).2.1 ?_
    exact k
  have pre200 : ∀ t, Steps p.tables e below (s₁.setTop (mkF m 21 #[.val (.ref a1), .val (.ref a2), .val (.int (3 : Int32))] [(.int (108 : Int32)), (.int (108 : Int32))])) t → Steps p.tables e below (s₁.setTop (entryFrame m #[(.ref a1), (.ref a2)] 3)) t := by
    intro t k
    refine pre199 _ ?_
    show Steps p.tables e below (s₁.setTop (mkF m 15 #[.val (.ref a1), .val (.ref a2), .val (.int (3 : Int32))] [])) _
    refine XS.aloadN X0.here hx rfl (hb hby d6_15) rfl rfl ?_
    show Steps p.tables e below (s₁.setTop (mkF m 16 #[.val (.ref a1), .val (.ref a2), .val (.int (3 : Int32))] [(.ref a1)])) _
    refine XS.iloadN X0.here hx rfl (hb hby d6_16) rfl ?_
    show Steps p.tables e below (s₁.setTop (mkF m 17 #[.val (.ref a1), .val (.ref a2), .val (.int (3 : Int32))] [(.int (3 : Int32)), (.ref a1)])) _
    refine X0.baloadBytes hx (j := (3 : Int32)) (v := (.int (108 : Int32))) (by rw [e0]; exact Ar1.1) (State.isArrayOf_alike hZ.alike Ar1.2.1) Ar1.2.2 (inb_of S1 ⟨by decide, by decide⟩) (Has.at (v := (.int (108 : Int32))) H1 (inb_of S1 ⟨by decide, by decide⟩) rfl) (g := (mkF m 17 #[.val (.ref a1), .val (.ref a2), .val (.int (3 : Int32))] [(.int (3 : Int32)), (.ref a1)])) rfl rfl (hb hby d6_17) _ ?_
    show Steps p.tables e below (s₁.setTop (mkF m 18 #[.val (.ref a1), .val (.ref a2), .val (.int (3 : Int32))] [(.int (108 : Int32))])) _
    refine XS.aloadN X0.here hx rfl (hb hby d6_18) rfl rfl ?_
    show Steps p.tables e below (s₁.setTop (mkF m 19 #[.val (.ref a1), .val (.ref a2), .val (.int (3 : Int32))] [(.ref a2), (.int (108 : Int32))])) _
    refine XS.iloadN X0.here hx rfl (hb hby d6_19) rfl ?_
    show Steps p.tables e below (s₁.setTop (mkF m 20 #[.val (.ref a1), .val (.ref a2), .val (.int (3 : Int32))] [(.int (3 : Int32)), (.ref a2), (.int (108 : Int32))])) _
    refine X0.baloadBytes hx (j := (3 : Int32)) (v := (.int (108 : Int32))) (by rw [e0]; exact Ar2.1) (State.isArrayOf_alike hZ.alike Ar2.2.1) Ar2.2.2 (inb_of S2 ⟨by decide, by decide⟩) (Has.at (v := (.int (108 : Int32))) H2 (inb_of S2 ⟨by decide, by decide⟩) rfl) (g := (mkF m 20 #[.val (.ref a1), .val (.ref a2), .val (.int (3 : Int32))] [(.int (3 : Int32)), (.ref a2), (.int (108 : Int32))])) rfl rfl (hb hby d6_20) _ ?_
    exact k
  have pre202 : ∀ t, Steps p.tables e below (s₁.setTop (mkF m 26 #[.val (.ref a1), .val (.ref a2), .val (.int (3 : Int32))] [])) t → Steps p.tables e below (s₁.setTop (entryFrame m #[(.ref a1), (.ref a2)] 3)) t := by
    intro t k
    refine pre200 _ ?_
    show Steps p.tables e below (s₁.setTop (mkF m 21 #[.val (.ref a1), .val (.ref a2), .val (.int (3 : Int32))] [(.int (108 : Int32)), (.int (108 : Int32))])) _
    refine XS.icmpYes X0.here hx rfl (pc0 := 21) (pc' := 26) rfl (hb hby d6_21) rfl (teq (rfl : (108 : Int32) = (108 : Int32))).1 (by decide) (by decide) ?_
    exact k
  have pre203 : ∀ t, Steps p.tables e below (s₁.setTop (mkF m 12 #[.val (.ref a1), .val (.ref a2), .val (.int (4 : Int32))] [(.int (8 : Int32)), (.int (4 : Int32))])) t → Steps p.tables e below (s₁.setTop (entryFrame m #[(.ref a1), (.ref a2)] 3)) t := by
    intro t k
    refine pre202 _ ?_
    show Steps p.tables e below (s₁.setTop (mkF m 26 #[.val (.ref a1), .val (.ref a2), .val (.int (3 : Int32))] [])) _
    refine XS.iinc X0.here hx rfl (hb hby d6_26) rfl (l' := #[.val (.ref a1), .val (.ref a2), .val (.int (4 : Int32))]) rfl ?_
    show Steps p.tables e below (s₁.setTop (mkF m 29 #[.val (.ref a1), .val (.ref a2), .val (.int (4 : Int32))] [])) _
    refine XS.goto X0.here hx rfl (pc0 := 29) (pc' := 9) rfl (hb hby d6_29) (by decide) (by decide) ?_
    show Steps p.tables e below (s₁.setTop (mkF m 9 #[.val (.ref a1), .val (.ref a2), .val (.int (4 : Int32))] [])) _
    refine XS.iloadN X0.here hx rfl (hb hby d6_9) rfl ?_
    show Steps p.tables e below (s₁.setTop (mkF m 10 #[.val (.ref a1), .val (.ref a2), .val (.int (4 : Int32))] [(.int (4 : Int32))])) _
    refine XS.aloadN X0.here hx rfl (hb hby d6_10) rfl rfl ?_
    show Steps p.tables e below (s₁.setTop (mkF m 11 #[.val (.ref a1), .val (.ref a2), .val (.int (4 : Int32))] [(.ref a1), (.int (4 : Int32))])) _
    refine X0.arraylength hx (by rw [e0]; exact Ar1.1) (State.isArrayOf_alike hZ.alike Ar1.2.1) (g := (mkF m 11 #[.val (.ref a1), .val (.ref a2), .val (.int (4 : Int32))] [(.ref a1), (.int (4 : Int32))])) rfl rfl (hb hby d6_11) _ ?_
    rw [len_of S1 N_1]
    exact k
  have pre205 : ∀ t, Steps p.tables e below (s₁.setTop (mkF m 15 #[.val (.ref a1), .val (.ref a2), .val (.int (4 : Int32))] [])) t → Steps p.tables e below (s₁.setTop (entryFrame m #[(.ref a1), (.ref a2)] 3)) t := by
    intro t k
    refine pre203 _ ?_
    show Steps p.tables e below (s₁.setTop (mkF m 12 #[.val (.ref a1), .val (.ref a2), .val (.int (4 : Int32))] [(.int (8 : Int32)), (.int (4 : Int32))])) _
    refine XS.icmpNo X0.here hx rfl (hb hby d6_12) rfl (tlt (by decide : (4 : Int32) < (8 : Int32))).2.1 ?_
    exact k
  have pre206 : ∀ t, Steps p.tables e below (s₁.setTop (mkF m 21 #[.val (.ref a1), .val (.ref a2), .val (.int (4 : Int32))] [(.int (117 : Int32)), (.int (117 : Int32))])) t → Steps p.tables e below (s₁.setTop (entryFrame m #[(.ref a1), (.ref a2)] 3)) t := by
    intro t k
    refine pre205 _ ?_
    show Steps p.tables e below (s₁.setTop (mkF m 15 #[.val (.ref a1), .val (.ref a2), .val (.int (4 : Int32))] [])) _
    refine XS.aloadN X0.here hx rfl (hb hby d6_15) rfl rfl ?_
    show Steps p.tables e below (s₁.setTop (mkF m 16 #[.val (.ref a1), .val (.ref a2), .val (.int (4 : Int32))] [(.ref a1)])) _
    refine XS.iloadN X0.here hx rfl (hb hby d6_16) rfl ?_
    show Steps p.tables e below (s₁.setTop (mkF m 17 #[.val (.ref a1), .val (.ref a2), .val (.int (4 : Int32))] [(.int (4 : Int32)), (.ref a1)])) _
    refine X0.baloadBytes hx (j := (4 : Int32)) (v := (.int (117 : Int32))) (by rw [e0]; exact Ar1.1) (State.isArrayOf_alike hZ.alike Ar1.2.1) Ar1.2.2 (inb_of S1 ⟨by decide, by decide⟩) (Has.at (v := (.int (117 : Int32))) H1 (inb_of S1 ⟨by decide, by decide⟩) rfl) (g := (mkF m 17 #[.val (.ref a1), .val (.ref a2), .val (.int (4 : Int32))] [(.int (4 : Int32)), (.ref a1)])) rfl rfl (hb hby d6_17) _ ?_
    show Steps p.tables e below (s₁.setTop (mkF m 18 #[.val (.ref a1), .val (.ref a2), .val (.int (4 : Int32))] [(.int (117 : Int32))])) _
    refine XS.aloadN X0.here hx rfl (hb hby d6_18) rfl rfl ?_
    show Steps p.tables e below (s₁.setTop (mkF m 19 #[.val (.ref a1), .val (.ref a2), .val (.int (4 : Int32))] [(.ref a2), (.int (117 : Int32))])) _
    refine XS.iloadN X0.here hx rfl (hb hby d6_19) rfl ?_
    show Steps p.tables e below (s₁.setTop (mkF m 20 #[.val (.ref a1), .val (.ref a2), .val (.int (4 : Int32))] [(.int (4 : Int32)), (.ref a2), (.int (117 : Int32))])) _
    refine X0.baloadBytes hx (j := (4 : Int32)) (v := (.int (117 : Int32))) (by rw [e0]; exact Ar2.1) (State.isArrayOf_alike hZ.alike Ar2.2.1) Ar2.2.2 (inb_of S2 ⟨by decide, by decide⟩) (Has.at (v := (.int (117 : Int32))) H2 (inb_of S2 ⟨by decide, by decide⟩) rfl) (g := (mkF m 20 #[.val (.ref a1), .val (.ref a2), .val (.int (4 : Int32))] [(.int (4 : Int32)), (.ref a2), (.int (117 : Int32))])) rfl rfl (hb hby d6_20) _ ?_
    exact k
  have pre208 : ∀ t, Steps p.tables e below (s₁.setTop (mkF m 26 #[.val (.ref a1), .val (.ref a2), .val (.int (4 : Int32))] [])) t → Steps p.tables e below (s₁.setTop (entryFrame m #[(.ref a1), (.ref a2)] 3)) t := by
    intro t k
    refine pre206 _ ?_
    show Steps p.tables e below (s₁.setTop (mkF m 21 #[.val (.ref a1), .val (.ref a2), .val (.int (4 : Int32))] [(.int (117 : Int32)), (.int (117 : Int32))])) _
    refine XS.icmpYes X0.here hx rfl (pc0 := 21) (pc' := 26) rfl (hb hby d6_21) rfl (teq (rfl : (117 : Int32) = (117 : Int32))).1 (by decide) (by decide) ?_
    exact k
  have pre209 : ∀ t, Steps p.tables e below (s₁.setTop (mkF m 12 #[.val (.ref a1), .val (.ref a2), .val (.int (5 : Int32))] [(.int (8 : Int32)), (.int (5 : Int32))])) t → Steps p.tables e below (s₁.setTop (entryFrame m #[(.ref a1), (.ref a2)] 3)) t := by
    intro t k
    refine pre208 _ ?_
    show Steps p.tables e below (s₁.setTop (mkF m 26 #[.val (.ref a1), .val (.ref a2), .val (.int (4 : Int32))] [])) _
    refine XS.iinc X0.here hx rfl (hb hby d6_26) rfl (l' := #[.val (.ref a1), .val (.ref a2), .val (.int (5 : Int32))]) rfl ?_
    show Steps p.tables e below (s₁.setTop (mkF m 29 #[.val (.ref a1), .val (.ref a2), .val (.int (5 : Int32))] [])) _
    refine XS.goto X0.here hx rfl (pc0 := 29) (pc' := 9) rfl (hb hby d6_29) (by decide) (by decide) ?_
    show Steps p.tables e below (s₁.setTop (mkF m 9 #[.val (.ref a1), .val (.ref a2), .val (.int (5 : Int32))] [])) _
    refine XS.iloadN X0.here hx rfl (hb hby d6_9) rfl ?_
    show Steps p.tables e below (s₁.setTop (mkF m 10 #[.val (.ref a1), .val (.ref a2), .val (.int (5 : Int32))] [(.int (5 : Int32))])) _
    refine XS.aloadN X0.here hx rfl (hb hby d6_10) rfl rfl ?_
    show Steps p.tables e below (s₁.setTop (mkF m 11 #[.val (.ref a1), .val (.ref a2), .val (.int (5 : Int32))] [(.ref a1), (.int (5 : Int32))])) _
    refine X0.arraylength hx (by rw [e0]; exact Ar1.1) (State.isArrayOf_alike hZ.alike Ar1.2.1) (g := (mkF m 11 #[.val (.ref a1), .val (.ref a2), .val (.int (5 : Int32))] [(.ref a1), (.int (5 : Int32))])) rfl rfl (hb hby d6_11) _ ?_
    rw [len_of S1 N_1]
    exact k
  have pre211 : ∀ t, Steps p.tables e below (s₁.setTop (mkF m 15 #[.val (.ref a1), .val (.ref a2), .val (.int (5 : Int32))] [])) t → Steps p.tables e below (s₁.setTop (entryFrame m #[(.ref a1), (.ref a2)] 3)) t := by
    intro t k
    refine pre209 _ ?_
    show Steps p.tables e below (s₁.setTop (mkF m 12 #[.val (.ref a1), .val (.ref a2), .val (.int (5 : Int32))] [(.int (8 : Int32)), (.int (5 : Int32))])) _
    refine XS.icmpNo X0.here hx rfl (hb hby d6_12) rfl (tlt (by decide : (5 : Int32) < (8 : Int32))).2.1 ?_
    exact k
  have pre212 : ∀ t, Steps p.tables e below (s₁.setTop (mkF m 21 #[.val (.ref a1), .val (.ref a2), .val (.int (5 : Int32))] [(.int (100 : Int32)), (.int (100 : Int32))])) t → Steps p.tables e below (s₁.setTop (entryFrame m #[(.ref a1), (.ref a2)] 3)) t := by
    intro t k
    refine pre211 _ ?_
    show Steps p.tables e below (s₁.setTop (mkF m 15 #[.val (.ref a1), .val (.ref a2), .val (.int (5 : Int32))] [])) _
    refine XS.aloadN X0.here hx rfl (hb hby d6_15) rfl rfl ?_
    show Steps p.tables e below (s₁.setTop (mkF m 16 #[.val (.ref a1), .val (.ref a2), .val (.int (5 : Int32))] [(.ref a1)])) _
    refine XS.iloadN X0.here hx rfl (hb hby d6_16) rfl ?_
    show Steps p.tables e below (s₁.setTop (mkF m 17 #[.val (.ref a1), .val (.ref a2), .val (.int (5 : Int32))] [(.int (5 : Int32)), (.ref a1)])) _
    refine X0.baloadBytes hx (j := (5 : Int32)) (v := (.int (100 : Int32))) (by rw [e0]; exact Ar1.1) (State.isArrayOf_alike hZ.alike Ar1.2.1) Ar1.2.2 (inb_of S1 ⟨by decide, by decide⟩) (Has.at (v := (.int (100 : Int32))) H1 (inb_of S1 ⟨by decide, by decide⟩) rfl) (g := (mkF m 17 #[.val (.ref a1), .val (.ref a2), .val (.int (5 : Int32))] [(.int (5 : Int32)), (.ref a1)])) rfl rfl (hb hby d6_17) _ ?_
    show Steps p.tables e below (s₁.setTop (mkF m 18 #[.val (.ref a1), .val (.ref a2), .val (.int (5 : Int32))] [(.int (100 : Int32))])) _
    refine XS.aloadN X0.here hx rfl (hb hby d6_18) rfl rfl ?_
    show Steps p.tables e below (s₁.setTop (mkF m 19 #[.val (.ref a1), .val (.ref a2), .val (.int (5 : Int32))] [(.ref a2), (.int (100 : Int32))])) _
    refine XS.iloadN X0.here hx rfl (hb hby d6_19) rfl ?_
    show Steps p.tables e below (s₁.setTop (mkF m 20 #[.val (.ref a1), .val (.ref a2), .val (.int (5 : Int32))] [(.int (5 : Int32)), (.ref a2), (.int (100 : Int32))])) _
    refine X0.baloadBytes hx (j := (5 : Int32)) (v := (.int (100 : Int32))) (by rw [e0]; exact Ar2.1) (State.isArrayOf_alike hZ.alike Ar2.2.1) Ar2.2.2 (inb_of S2 ⟨by decide, by decide⟩) (Has.at (v := (.int (100 : Int32))) H2 (inb_of S2 ⟨by decide, by decide⟩) rfl) (g := (mkF m 20 #[.val (.ref a1), .val (.ref a2), .val (.int (5 : Int32))] [(.int (5 : Int32)), (.ref a2), (.int (100 : Int32))])) rfl rfl (hb hby d6_20) _ ?_
    exact k
  have pre214 : ∀ t, Steps p.tables e below (s₁.setTop (mkF m 26 #[.val (.ref a1), .val (.ref a2), .val (.int (5 : Int32))] [])) t → Steps p.tables e below (s₁.setTop (entryFrame m #[(.ref a1), (.ref a2)] 3)) t := by
    intro t k
    refine pre212 _ ?_
    show Steps p.tables e below (s₁.setTop (mkF m 21 #[.val (.ref a1), .val (.ref a2), .val (.int (5 : Int32))] [(.int (100 : Int32)), (.int (100 : Int32))])) _
    refine XS.icmpYes X0.here hx rfl (pc0 := 21) (pc' := 26) rfl (hb hby d6_21) rfl (teq (rfl : (100 : Int32) = (100 : Int32))).1 (by decide) (by decide) ?_
    exact k
  have pre215 : ∀ t, Steps p.tables e below (s₁.setTop (mkF m 12 #[.val (.ref a1), .val (.ref a2), .val (.int (6 : Int32))] [(.int (8 : Int32)), (.int (6 : Int32))])) t → Steps p.tables e below (s₁.setTop (entryFrame m #[(.ref a1), (.ref a2)] 3)) t := by
    intro t k
    refine pre214 _ ?_
    show Steps p.tables e below (s₁.setTop (mkF m 26 #[.val (.ref a1), .val (.ref a2), .val (.int (5 : Int32))] [])) _
    refine XS.iinc X0.here hx rfl (hb hby d6_26) rfl (l' := #[.val (.ref a1), .val (.ref a2), .val (.int (6 : Int32))]) rfl ?_
    show Steps p.tables e below (s₁.setTop (mkF m 29 #[.val (.ref a1), .val (.ref a2), .val (.int (6 : Int32))] [])) _
    refine XS.goto X0.here hx rfl (pc0 := 29) (pc' := 9) rfl (hb hby d6_29) (by decide) (by decide) ?_
    show Steps p.tables e below (s₁.setTop (mkF m 9 #[.val (.ref a1), .val (.ref a2), .val (.int (6 : Int32))] [])) _
    refine XS.iloadN X0.here hx rfl (hb hby d6_9) rfl ?_
    show Steps p.tables e below (s₁.setTop (mkF m 10 #[.val (.ref a1), .val (.ref a2), .val (.int (6 : Int32))] [(.int (6 : Int32))])) _
    refine XS.aloadN X0.here hx rfl (hb hby d6_10) rfl rfl ?_
    show Steps p.tables e below (s₁.setTop (mkF m 11 #[.val (.ref a1), .val (.ref a2), .val (.int (6 : Int32))] [(.ref a1), (.int (6 : Int32))])) _
    refine X0.arraylength hx (by rw [e0]; exact Ar1.1) (State.isArrayOf_alike hZ.alike Ar1.2.1) (g := (mkF m 11 #[.val (.ref a1), .val (.ref a2), .val (.int (6 : Int32))] [(.ref a1), (.int (6 : Int32))])) rfl rfl (hb hby d6_11) _ ?_
    rw [len_of S1 N_1]
    exact k
  have pre217 : ∀ t, Steps p.tables e below (s₁.setTop (mkF m 15 #[.val (.ref a1), .val (.ref a2), .val (.int (6 : Int32))] [])) t → Steps p.tables e below (s₁.setTop (entryFrame m #[(.ref a1), (.ref a2)] 3)) t := by
    intro t k
    refine pre215 _ ?_
    show Steps p.tables e below (s₁.setTop (mkF m 12 #[.val (.ref a1), .val (.ref a2), .val (.int (6 : Int32))] [(.int (8 : Int32)), (.int (6 : Int32))])) _
    refine XS.icmpNo X0.here hx rfl (hb hby d6_12) rfl (tlt (by decide : (6 : Int32) < (8 : Int32))).2.1 ?_
    exact k
  have pre218 : ∀ t, Steps p.tables e below (s₁.setTop (mkF m 21 #[.val (.ref a1), .val (.ref a2), .val (.int (6 : Int32))] [(.int (101 : Int32)), (.int (101 : Int32))])) t → Steps p.tables e below (s₁.setTop (entryFrame m #[(.ref a1), (.ref a2)] 3)) t := by
    intro t k
    refine pre217 _ ?_
    show Steps p.tables e below (s₁.setTop (mkF m 15 #[.val (.ref a1), .val (.ref a2), .val (.int (6 : Int32))] [])) _
    refine XS.aloadN X0.here hx rfl (hb hby d6_15) rfl rfl ?_
    show Steps p.tables e below (s₁.setTop (mkF m 16 #[.val (.ref a1), .val (.ref a2), .val (.int (6 : Int32))] [(.ref a1)])) _
    refine XS.iloadN X0.here hx rfl (hb hby d6_16) rfl ?_
    show Steps p.tables e below (s₁.setTop (mkF m 17 #[.val (.ref a1), .val (.ref a2), .val (.int (6 : Int32))] [(.int (6 : Int32)), (.ref a1)])) _
    refine X0.baloadBytes hx (j := (6 : Int32)) (v := (.int (101 : Int32))) (by rw [e0]; exact Ar1.1) (State.isArrayOf_alike hZ.alike Ar1.2.1) Ar1.2.2 (inb_of S1 ⟨by decide, by decide⟩) (Has.at (v := (.int (101 : Int32))) H1 (inb_of S1 ⟨by decide, by decide⟩) rfl) (g := (mkF m 17 #[.val (.ref a1), .val (.ref a2), .val (.int (6 : Int32))] [(.int (6 : Int32)), (.ref a1)])) rfl rfl (hb hby d6_17) _ ?_
    show Steps p.tables e below (s₁.setTop (mkF m 18 #[.val (.ref a1), .val (.ref a2), .val (.int (6 : Int32))] [(.int (101 : Int32))])) _
    refine XS.aloadN X0.here hx rfl (hb hby d6_18) rfl rfl ?_
    show Steps p.tables e below (s₁.setTop (mkF m 19 #[.val (.ref a1), .val (.ref a2), .val (.int (6 : Int32))] [(.ref a2), (.int (101 : Int32))])) _
    refine XS.iloadN X0.here hx rfl (hb hby d6_19) rfl ?_
    show Steps p.tables e below (s₁.setTop (mkF m 20 #[.val (.ref a1), .val (.ref a2), .val (.int (6 : Int32))] [(.int (6 : Int32)), (.ref a2), (.int (101 : Int32))])) _
    refine X0.baloadBytes hx (j := (6 : Int32)) (v := (.int (101 : Int32))) (by rw [e0]; exact Ar2.1) (State.isArrayOf_alike hZ.alike Ar2.2.1) Ar2.2.2 (inb_of S2 ⟨by decide, by decide⟩) (Has.at (v := (.int (101 : Int32))) H2 (inb_of S2 ⟨by decide, by decide⟩) rfl) (g := (mkF m 20 #[.val (.ref a1), .val (.ref a2), .val (.int (6 : Int32))] [(.int (6 : Int32)), (.ref a2), (.int (101 : Int32))])) rfl rfl (hb hby d6_20) _ ?_
    exact k
  have pre220 : ∀ t, Steps p.tables e below (s₁.setTop (mkF m 26 #[.val (.ref a1), .val (.ref a2), .val (.int (6 : Int32))] [])) t → Steps p.tables e below (s₁.setTop (entryFrame m #[(.ref a1), (.ref a2)] 3)) t := by
    intro t k
    refine pre218 _ ?_
    show Steps p.tables e below (s₁.setTop (mkF m 21 #[.val (.ref a1), .val (.ref a2), .val (.int (6 : Int32))] [(.int (101 : Int32)), (.int (101 : Int32))])) _
    refine XS.icmpYes X0.here hx rfl (pc0 := 21) (pc' := 26) rfl (hb hby d6_21) rfl (teq (rfl : (101 : Int32) = (101 : Int32))).1 (by decide) (by decide) ?_
    exact k
  have pre221 : ∀ t, Steps p.tables e below (s₁.setTop (mkF m 12 #[.val (.ref a1), .val (.ref a2), .val (.int (7 : Int32))] [(.int (8 : Int32)), (.int (7 : Int32))])) t → Steps p.tables e below (s₁.setTop (entryFrame m #[(.ref a1), (.ref a2)] 3)) t := by
    intro t k
    refine pre220 _ ?_
    show Steps p.tables e below (s₁.setTop (mkF m 26 #[.val (.ref a1), .val (.ref a2), .val (.int (6 : Int32))] [])) _
    refine XS.iinc X0.here hx rfl (hb hby d6_26) rfl (l' := #[.val (.ref a1), .val (.ref a2), .val (.int (7 : Int32))]) rfl ?_
    show Steps p.tables e below (s₁.setTop (mkF m 29 #[.val (.ref a1), .val (.ref a2), .val (.int (7 : Int32))] [])) _
    refine XS.goto X0.here hx rfl (pc0 := 29) (pc' := 9) rfl (hb hby d6_29) (by decide) (by decide) ?_
    show Steps p.tables e below (s₁.setTop (mkF m 9 #[.val (.ref a1), .val (.ref a2), .val (.int (7 : Int32))] [])) _
    refine XS.iloadN X0.here hx rfl (hb hby d6_9) rfl ?_
    show Steps p.tables e below (s₁.setTop (mkF m 10 #[.val (.ref a1), .val (.ref a2), .val (.int (7 : Int32))] [(.int (7 : Int32))])) _
    refine XS.aloadN X0.here hx rfl (hb hby d6_10) rfl rfl ?_
    show Steps p.tables e below (s₁.setTop (mkF m 11 #[.val (.ref a1), .val (.ref a2), .val (.int (7 : Int32))] [(.ref a1), (.int (7 : Int32))])) _
    refine X0.arraylength hx (by rw [e0]; exact Ar1.1) (State.isArrayOf_alike hZ.alike Ar1.2.1) (g := (mkF m 11 #[.val (.ref a1), .val (.ref a2), .val (.int (7 : Int32))] [(.ref a1), (.int (7 : Int32))])) rfl rfl (hb hby d6_11) _ ?_
    rw [len_of S1 N_1]
    exact k
  have pre223 : ∀ t, Steps p.tables e below (s₁.setTop (mkF m 15 #[.val (.ref a1), .val (.ref a2), .val (.int (7 : Int32))] [])) t → Steps p.tables e below (s₁.setTop (entryFrame m #[(.ref a1), (.ref a2)] 3)) t := by
    intro t k
    refine pre221 _ ?_
    show Steps p.tables e below (s₁.setTop (mkF m 12 #[.val (.ref a1), .val (.ref a2), .val (.int (7 : Int32))] [(.int (8 : Int32)), (.int (7 : Int32))])) _
    refine XS.icmpNo X0.here hx rfl (hb hby d6_12) rfl (tlt (by decide : (7 : Int32) < (8 : Int32))).2.1 ?_
    exact k
  have pre224 : ∀ t, Steps p.tables e below (s₁.setTop (mkF m 21 #[.val (.ref a1), .val (.ref a2), .val (.int (7 : Int32))] [(.int (100 : Int32)), (.int (100 : Int32))])) t → Steps p.tables e below (s₁.setTop (entryFrame m #[(.ref a1), (.ref a2)] 3)) t := by
    intro t k
    refine pre223 _ ?_
    show Steps p.tables e below (s₁.setTop (mkF m 15 #[.val (.ref a1), .val (.ref a2), .val (.int (7 : Int32))] [])) _
    refine XS.aloadN X0.here hx rfl (hb hby d6_15) rfl rfl ?_
    show Steps p.tables e below (s₁.setTop (mkF m 16 #[.val (.ref a1), .val (.ref a2), .val (.int (7 : Int32))] [(.ref a1)])) _
    refine XS.iloadN X0.here hx rfl (hb hby d6_16) rfl ?_
    show Steps p.tables e below (s₁.setTop (mkF m 17 #[.val (.ref a1), .val (.ref a2), .val (.int (7 : Int32))] [(.int (7 : Int32)), (.ref a1)])) _
    refine X0.baloadBytes hx (j := (7 : Int32)) (v := (.int (100 : Int32))) (by rw [e0]; exact Ar1.1) (State.isArrayOf_alike hZ.alike Ar1.2.1) Ar1.2.2 (inb_of S1 ⟨by decide, by decide⟩) (Has.at (v := (.int (100 : Int32))) H1 (inb_of S1 ⟨by decide, by decide⟩) rfl) (g := (mkF m 17 #[.val (.ref a1), .val (.ref a2), .val (.int (7 : Int32))] [(.int (7 : Int32)), (.ref a1)])) rfl rfl (hb hby d6_17) _ ?_
    show Steps p.tables e below (s₁.setTop (mkF m 18 #[.val (.ref a1), .val (.ref a2), .val (.int (7 : Int32))] [(.int (100 : Int32))])) _
    refine XS.aloadN X0.here hx rfl (hb hby d6_18) rfl rfl ?_
    show Steps p.tables e below (s₁.setTop (mkF m 19 #[.val (.ref a1), .val (.ref a2), .val (.int (7 : Int32))] [(.ref a2), (.int (100 : Int32))])) _
    refine XS.iloadN X0.here hx rfl (hb hby d6_19) rfl ?_
    show Steps p.tables e below (s₁.setTop (mkF m 20 #[.val (.ref a1), .val (.ref a2), .val (.int (7 : Int32))] [(.int (7 : Int32)), (.ref a2), (.int (100 : Int32))])) _
    refine X0.baloadBytes hx (j := (7 : Int32)) (v := (.int (100 : Int32))) (by rw [e0]; exact Ar2.1) (State.isArrayOf_alike hZ.alike Ar2.2.1) Ar2.2.2 (inb_of S2 ⟨by decide, by decide⟩) (Has.at (v := (.int (100 : Int32))) H2 (inb_of S2 ⟨by decide, by decide⟩) rfl) (g := (mkF m 20 #[.val (.ref a1), .val (.ref a2), .val (.int (7 : Int32))] [(.int (7 : Int32)), (.ref a2), (.int (100 : Int32))])) rfl rfl (hb hby d6_20) _ ?_
    exact k
  have pre226 : ∀ t, Steps p.tables e below (s₁.setTop (mkF m 26 #[.val (.ref a1), .val (.ref a2), .val (.int (7 : Int32))] [])) t → Steps p.tables e below (s₁.setTop (entryFrame m #[(.ref a1), (.ref a2)] 3)) t := by
    intro t k
    refine pre224 _ ?_
    show Steps p.tables e below (s₁.setTop (mkF m 21 #[.val (.ref a1), .val (.ref a2), .val (.int (7 : Int32))] [(.int (100 : Int32)), (.int (100 : Int32))])) _
    refine XS.icmpYes X0.here hx rfl (pc0 := 21) (pc' := 26) rfl (hb hby d6_21) rfl (teq (rfl : (100 : Int32) = (100 : Int32))).1 (by decide) (by decide) ?_
    exact k
  have pre227 : ∀ t, Steps p.tables e below (s₁.setTop (mkF m 12 #[.val (.ref a1), .val (.ref a2), .val (.int (8 : Int32))] [(.int (8 : Int32)), (.int (8 : Int32))])) t → Steps p.tables e below (s₁.setTop (entryFrame m #[(.ref a1), (.ref a2)] 3)) t := by
    intro t k
    refine pre226 _ ?_
    show Steps p.tables e below (s₁.setTop (mkF m 26 #[.val (.ref a1), .val (.ref a2), .val (.int (7 : Int32))] [])) _
    refine XS.iinc X0.here hx rfl (hb hby d6_26) rfl (l' := #[.val (.ref a1), .val (.ref a2), .val (.int (8 : Int32))]) rfl ?_
    show Steps p.tables e below (s₁.setTop (mkF m 29 #[.val (.ref a1), .val (.ref a2), .val (.int (8 : Int32))] [])) _
    refine XS.goto X0.here hx rfl (pc0 := 29) (pc' := 9) rfl (hb hby d6_29) (by decide) (by decide) ?_
    show Steps p.tables e below (s₁.setTop (mkF m 9 #[.val (.ref a1), .val (.ref a2), .val (.int (8 : Int32))] [])) _
    refine XS.iloadN X0.here hx rfl (hb hby d6_9) rfl ?_
    show Steps p.tables e below (s₁.setTop (mkF m 10 #[.val (.ref a1), .val (.ref a2), .val (.int (8 : Int32))] [(.int (8 : Int32))])) _
    refine XS.aloadN X0.here hx rfl (hb hby d6_10) rfl rfl ?_
    show Steps p.tables e below (s₁.setTop (mkF m 11 #[.val (.ref a1), .val (.ref a2), .val (.int (8 : Int32))] [(.ref a1), (.int (8 : Int32))])) _
    refine X0.arraylength hx (by rw [e0]; exact Ar1.1) (State.isArrayOf_alike hZ.alike Ar1.2.1) (g := (mkF m 11 #[.val (.ref a1), .val (.ref a2), .val (.int (8 : Int32))] [(.ref a1), (.int (8 : Int32))])) rfl rfl (hb hby d6_11) _ ?_
    rw [len_of S1 N_1]
    exact k
  have pre229 : ∀ t, Steps p.tables e below (s₁.setTop (mkF m 32 #[.val (.ref a1), .val (.ref a2), .val (.int (8 : Int32))] [])) t → Steps p.tables e below (s₁.setTop (entryFrame m #[(.ref a1), (.ref a2)] 3)) t := by
    intro t k
    refine pre227 _ ?_
    show Steps p.tables e below (s₁.setTop (mkF m 12 #[.val (.ref a1), .val (.ref a2), .val (.int (8 : Int32))] [(.int (8 : Int32)), (.int (8 : Int32))])) _
    refine XS.icmpYes X0.here hx rfl (pc0 := 12) (pc' := 32) rfl (hb hby d6_12) rfl (flt (by decide : ¬ ((8 : Int32) < (8 : Int32)))).2.1 (by decide) (by decide) ?_
    exact k
  have pre230 : ∀ t, Steps p.tables e below (s₁.setTop (mkF m 33 #[.val (.ref a1), .val (.ref a2), .val (.int (8 : Int32))] [(.int (1 : Int32))])) t → Steps p.tables e below (s₁.setTop (entryFrame m #[(.ref a1), (.ref a2)] 3)) t := by
    intro t k
    refine pre229 _ ?_
    show Steps p.tables e below (s₁.setTop (mkF m 32 #[.val (.ref a1), .val (.ref a2), .val (.int (8 : Int32))] [])) _
    refine XS.iconst X0.here hx rfl (hb hby d6_32) ?_
    exact k
  obtain ⟨fs, hr, hrun, hended, hW, hsame⟩ := X0.leave (v := some (.int (1 : Int32))) (fun h => by rw [hret] at h; cases h)
  refine ⟨_, _, pre230 _ ?_, hrun, hended, _, _, rfl, ?_, ⟨_, rfl⟩, hW, hsame.mono (by decide) (by decide)⟩
  · show Steps p.tables e below (s₁.setTop (mkF m 33 #[.val (.ref a1), .val (.ref a2), .val (.int (8 : Int32))] [(.int (1 : Int32))])) _
    exact retN X0 hx (t := .boolean) hret (by simp) (hb hby d6_33) hr
  · show Q6xx Z a1 a2 k1 k2 h0 n0 _ s₁.heap _
    rw [e0]
    exact ⟨rfl, N0, rfl⟩
theorem ef_5xx (m : MethodId) (x0 : Addr) (x1 : Addr) : entryFrame m #[(.ref x0), (.ref x1)] 3 = mkF m 0 #[.val (.ref x0), .val (.ref x1), .unset] [] := by first | (simp [entryFrame, mkF, argsToLocals, Value.category]; done) | rfl
def Q5xx (Z : State) (a1 : Addr) (a2 : Addr) (v1 : Addr) (v2 : Addr) (k1 : ClassId) (k2 : ClassId) (pC : Int32) (h0 : Heap) (n0 : Nat) (v : Option Value) (h : Heap) (L : List Loc) : Prop := v = some (.int (1 : Int32)) ∧ Fr n0 L ∧ h = h0
set_option maxRecDepth 65536 in
set_option maxHeartbeats 40000000 in
theorem rm5xx (l : Launch) (Z : State) (a0 : Array Value) (hw : ∀ d ∈ tables_1, d.before a0 Z = true) (ws : List Jvm.Cond) (a1 : Addr) (a2 : Addr) (v1 : Addr) (v2 : Addr) (k1 : ClassId) (k2 : ClassId) (pC : Int32) (h0 : Heap) (n0 : Nat) (Z0 : n0 ≤ h0.size) (E_a2 : Exa Z h0 a2 "java/lang/String") (C1 : Fld Z h0 a1 "java/lang/String" "coder" "B" (.int (0 : Int32))) (C2 : Fld Z h0 a2 "java/lang/String" "coder" "B" (.int (0 : Int32))) (V1 : Fld Z h0 a1 "java/lang/String" "value" "[B" (.ref v1)) (V2 : Fld Z h0 a2 "java/lang/String" "value" "[B" (.ref v2)) (A1 : Arv Z h0 v1 k1 .byte (8 : Int32) [.int (101 : Int32), .int (120 : Int32), .int (99 : Int32), .int (108 : Int32), .int (117 : Int32), .int (100 : Int32), .int (101 : Int32), .int (100 : Int32)] (.int (0 : Int32))) (A2 : Arv Z h0 v2 k2 .byte (8 : Int32) [.int (101 : Int32), .int (120 : Int32), .int (99 : Int32), .int (108 : Int32), .int (117 : Int32), .int (100 : Int32), .int (101 : Int32), .int (100 : Int32)] (.int (0 : Int32))) (hpc : ¬ (pC = (0 : Int32))) (S_pC : Sta Z h0 "java/lang/String" "COMPACT_STRINGS" "Z" (.int pC)) :
    MetFree l (⟨"java/lang/String", "equals", "(Ljava/lang/Object;)Z"⟩ : MethodName) (head1 (Jvm.Cond.code (⟨"java/lang/String", "equals", "(Ljava/lang/Object;)Z"⟩ : MethodName) jdk_42_method_66_code 3 (some .boolean) :: ws) ({ frames := 1, cells := 0, slots := 0, locals := 14 } : Room)) (fun a U => a = #[(.ref a1), (.ref a2)] ∧ Z.Warmed39 U.vm ∧ U.heap = h0) (fun _ _ _ _ _ => True) (fun _ U o U' => ∃ v L, o = .returned v ∧ Q5xx Z a1 a2 v1 v2 k1 k2 pC h0 n0 v U'.heap L ∧ FrameEnd U o U' L ({ frames := 1, cells := 0, slots := 0, locals := 14 } : Room).cells ({ frames := 1, cells := 0, slots := 0, locals := 14 } : Room).slots) := by
  refine MetFree.of_bodySF (plainFor_of_name pn_5) hisR ?_
  intro p e s m args below meth c s₁ Bd hml0 hP hK
  obtain ⟨rfl, hZ, hh⟩ := hP
  have hx := Bd.exec
  have hby := Bd.bytes
  have hml : c.maxLocals = 3 := hml0
  have hown : s.vm.findClass "java/lang/String" = some m.cls := findClass_of_methodNamed Bd.named
  have hnm := (name_of_methodNamed Bd.named Bd.method).1
  have hret := Bd.returns
  have hlocks : meth.locks = false := Bd.notSynchronized
  have X0 : Stand p l e ({ frames := 1, cells := 0, slots := 0, locals := 14 } : Room) s m #[(.ref a1), (.ref a2)] below meth c s₁ [] 0 0 := Stand.of_body Bd
  have e0 : s₁.heap = h0 := by rw [← hh, Bd.state]; rfl
  have N0 := Fr.nil n0
  have pre0 : ∀ t, Steps p.tables e below (s₁.setTop (mkF m 0 #[.val (.ref a1), .val (.ref a2), .unset] [])) t → Steps p.tables e below (s₁.setTop (entryFrame m #[(.ref a1), (.ref a2)] 3)) t := fun t k => castTop (ef_5xx m a1 a2) k
  have pre231 : ∀ t, Steps p.tables e below (s₁.setTop (mkF m 2 #[.val (.ref a1), .val (.ref a2), .unset] [(.ref a2), (.ref a1)])) t → Steps p.tables e below (s₁.setTop (entryFrame m #[(.ref a1), (.ref a2)] 3)) t := by
    intro t k
    refine pre0 _ ?_
    show Steps p.tables e below (s₁.setTop (mkF m 0 #[.val (.ref a1), .val (.ref a2), .unset] [])) _
    refine XS.aloadN X0.here hx rfl (hb hby d5_0) rfl rfl ?_
    show Steps p.tables e below (s₁.setTop (mkF m 1 #[.val (.ref a1), .val (.ref a2), .unset] [(.ref a1)])) _
    refine XS.aloadN X0.here hx rfl (hb hby d5_1) rfl rfl ?_
    exact k
  by_cases ha232 : a1 = a2
  · have pre233 : ∀ t, Steps p.tables e below (s₁.setTop (mkF m 5 #[.val (.ref a1), .val (.ref a2), .unset] [])) t → Steps p.tables e below (s₁.setTop (entryFrame m #[(.ref a1), (.ref a2)] 3)) t := by
      intro t k
      refine pre231 _ ?_
      show Steps p.tables e below (s₁.setTop (mkF m 2 #[.val (.ref a1), .val (.ref a2), .unset] [(.ref a2), (.ref a1)])) _
      refine Jvm.RoadKit.acmp (g := (mkF m 2 #[.val (.ref a1), .val (.ref a2), .unset] [(.ref a2), (.ref a1)])) X0 hx rfl rfl rfl (pc0 := 2) (pc' := 5) (same := true) rfl (hb hby d5_2) rfl (decide_eq_true (congrArg Value.ref ha232)) (by decide) (by decide) ?_
      exact k
    have pre234 : ∀ t, Steps p.tables e below (s₁.setTop (mkF m 6 #[.val (.ref a1), .val (.ref a2), .unset] [(.int (1 : Int32))])) t → Steps p.tables e below (s₁.setTop (entryFrame m #[(.ref a1), (.ref a2)] 3)) t := by
      intro t k
      refine pre233 _ ?_
      show Steps p.tables e below (s₁.setTop (mkF m 5 #[.val (.ref a1), .val (.ref a2), .unset] [])) _
      refine XS.iconst X0.here hx rfl (hb hby d5_5) ?_
      exact k
    obtain ⟨fs, hr, hrun, hended, hW, hsame⟩ := X0.leave (v := some (.int (1 : Int32))) (fun h => by rw [hret] at h; cases h)
    refine ⟨_, _, pre234 _ ?_, hrun, hended, _, _, rfl, ?_, ⟨_, rfl⟩, hW, hsame.mono (by decide) (by decide)⟩
    · show Steps p.tables e below (s₁.setTop (mkF m 6 #[.val (.ref a1), .val (.ref a2), .unset] [(.int (1 : Int32))])) _
      exact retN X0 hx (t := .boolean) hret (by simp) (hb hby d5_6) hr
    · show Q5xx Z a1 a2 v1 v2 k1 k2 pC h0 n0 _ s₁.heap _
      rw [e0]
      exact ⟨rfl, N0, rfl⟩
  · have pre235 : ∀ t, Steps p.tables e below (s₁.setTop (mkF m 7 #[.val (.ref a1), .val (.ref a2), .unset] [])) t → Steps p.tables e below (s₁.setTop (entryFrame m #[(.ref a1), (.ref a2)] 3)) t := by
      intro t k
      refine pre231 _ ?_
      show Steps p.tables e below (s₁.setTop (mkF m 2 #[.val (.ref a1), .val (.ref a2), .unset] [(.ref a2), (.ref a1)])) _
      refine Jvm.RoadKit.acmp (g := (mkF m 2 #[.val (.ref a1), .val (.ref a2), .unset] [(.ref a2), (.ref a1)])) X0 hx rfl rfl rfl (pc0 := 2) (pc' := 7) (same := false) rfl (hb hby d5_2) rfl (decide_eq_false fun q => ha232 (Value.ref.inj q)) (by decide) (by decide) ?_
      exact k
    have pre236 : ∀ t, Steps p.tables e below (s₁.setTop (mkF m 8 #[.val (.ref a1), .val (.ref a2), .unset] [(.ref a2)])) t → Steps p.tables e below (s₁.setTop (entryFrame m #[(.ref a1), (.ref a2)] 3)) t := by
      intro t k
      refine pre235 _ ?_
      show Steps p.tables e below (s₁.setTop (mkF m 7 #[.val (.ref a1), .val (.ref a2), .unset] [])) _
      refine XS.aloadN X0.here hx rfl (hb hby d5_7) rfl rfl ?_
      exact k
    obtain ⟨T237, X237, e237, st237⟩ := instY X0 hx hZ hown (hw _ (List.mem_of_getElem? (i := 42) rfl)) e0 (Ins.self E_a2) (g := (mkF m 8 #[.val (.ref a1), .val (.ref a2), .unset] [(.ref a2)])) rfl rfl (hb hby d5_8)
    have pre238 : ∀ t, Steps p.tables e below (T237.setTop (mkF m 11 #[.val (.ref a1), .val (.ref a2), .unset] [(.int (1 : Int32))])) t → Steps p.tables e below (s₁.setTop (entryFrame m #[(.ref a1), (.ref a2)] 3)) t := by
      intro t k
      refine pre236 _ ?_
      show Steps p.tables e below (s₁.setTop (mkF m 8 #[.val (.ref a1), .val (.ref a2), .unset] [(.ref a2)])) _
      refine st237 _ ?_
      exact k
    have pre240 : ∀ t, Steps p.tables e below (T237.setTop (mkF m 14 #[.val (.ref a1), .val (.ref a2), .unset] [])) t → Steps p.tables e below (s₁.setTop (entryFrame m #[(.ref a1), (.ref a2)] 3)) t := by
      intro t k
      refine pre238 _ ?_
      show Steps p.tables e below (T237.setTop (mkF m 11 #[.val (.ref a1), .val (.ref a2), .unset] [(.int (1 : Int32))])) _
      refine XS.ifNo X237.here hx rfl (hb hby d5_11) rfl ((if0 _ _).trans (feq (by decide : ¬ ((1 : Int32) = (0 : Int32)))).1) ?_
      exact k
    have pre241 : ∀ t, Steps p.tables e below (T237.setTop (mkF m 15 #[.val (.ref a1), .val (.ref a2), .unset] [(.ref a2)])) t → Steps p.tables e below (s₁.setTop (entryFrame m #[(.ref a1), (.ref a2)] 3)) t := by
      intro t k
      refine pre240 _ ?_
      show Steps p.tables e below (T237.setTop (mkF m 14 #[.val (.ref a1), .val (.ref a2), .unset] [])) _
      refine XS.aloadN X237.here hx rfl (hb hby d5_14) rfl rfl ?_
      exact k
    obtain ⟨T242, X242, e242, st242⟩ := castY X237 hx hZ hown (hw _ (List.mem_of_getElem? (i := 42) rfl)) e237 (Ins.self E_a2) (g := (mkF m 15 #[.val (.ref a1), .val (.ref a2), .unset] [(.ref a2)])) rfl rfl (hb hby d5_15)
    have pre243 : ∀ t, Steps p.tables e below (T242.setTop (mkF m 18 #[.val (.ref a1), .val (.ref a2), .unset] [(.ref a2)])) t → Steps p.tables e below (s₁.setTop (entryFrame m #[(.ref a1), (.ref a2)] 3)) t := by
      intro t k
      refine pre241 _ ?_
      show Steps p.tables e below (T237.setTop (mkF m 15 #[.val (.ref a1), .val (.ref a2), .unset] [(.ref a2)])) _
      refine st242 _ ?_
      exact k
    have pre244 : ∀ t, Steps p.tables e below (T242.setTop (mkF m 19 #[.val (.ref a1), .val (.ref a2), .val (.ref a2)] [])) t → Steps p.tables e below (s₁.setTop (entryFrame m #[(.ref a1), (.ref a2)] 3)) t := by
      intro t k
      refine pre243 _ ?_
      show Steps p.tables e below (T242.setTop (mkF m 18 #[.val (.ref a1), .val (.ref a2), .unset] [(.ref a2)])) _
      refine XS.astoreN X242.here hx rfl (hb hby d5_18) rfl rfl (l' := #[.val (.ref a1), .val (.ref a2), .val (.ref a2)]) rfl ?_
      exact k
    obtain ⟨T245, X245, e245, st245⟩ := getS2 X242 hx hZ hown (host := "") (Or.inl (hw _ (List.mem_of_getElem? (i := 44) rfl))) Via.refl e242 S_pC (g := (mkF m 19 #[.val (.ref a1), .val (.ref a2), .val (.ref a2)] [])) rfl (hb hby d5_19)
    have pre246 : ∀ t, Steps p.tables e below (T245.setTop (mkF m 22 #[.val (.ref a1), .val (.ref a2), .val (.ref a2)] [(.int pC)])) t → Steps p.tables e below (s₁.setTop (entryFrame m #[(.ref a1), (.ref a2)] 3)) t := by
      intro t k
      refine pre244 _ ?_
      show Steps p.tables e below (T242.setTop (mkF m 19 #[.val (.ref a1), .val (.ref a2), .val (.ref a2)] [])) _
      refine st245 _ ?_
      exact k
    have pre248 : ∀ t, Steps p.tables e below (T245.setTop (mkF m 25 #[.val (.ref a1), .val (.ref a2), .val (.ref a2)] [])) t → Steps p.tables e below (s₁.setTop (entryFrame m #[(.ref a1), (.ref a2)] 3)) t := by
      intro t k
      refine pre246 _ ?_
      show Steps p.tables e below (T245.setTop (mkF m 22 #[.val (.ref a1), .val (.ref a2), .val (.ref a2)] [(.int pC)])) _
      refine XS.ifNo X245.here hx rfl (hb hby d5_22) rfl ((if0 _ _).trans (feq hpc).1) ?_
      exact k
    have pre249 : ∀ t, Steps p.tables e below (T245.setTop (mkF m 26 #[.val (.ref a1), .val (.ref a2), .val (.ref a2)] [(.ref a1)])) t → Steps p.tables e below (s₁.setTop (entryFrame m #[(.ref a1), (.ref a2)] 3)) t := by
      intro t k
      refine pre248 _ ?_
      show Steps p.tables e below (T245.setTop (mkF m 25 #[.val (.ref a1), .val (.ref a2), .val (.ref a2)] [])) _
      refine XS.aloadN X245.here hx rfl (hb hby d5_25) rfl rfl ?_
      exact k
    obtain ⟨T250, X250, e250, st250⟩ := getF X245 hx hZ hown (host := "") (Or.inl (hw _ (List.mem_of_getElem? (i := 45) rfl))) Via.refl e245 C1 (g := (mkF m 26 #[.val (.ref a1), .val (.ref a2), .val (.ref a2)] [(.ref a1)])) rfl rfl (hb hby d5_26)
    have pre251 : ∀ t, Steps p.tables e below (T250.setTop (mkF m 29 #[.val (.ref a1), .val (.ref a2), .val (.ref a2)] [(.int (0 : Int32))])) t → Steps p.tables e below (s₁.setTop (entryFrame m #[(.ref a1), (.ref a2)] 3)) t := by
      intro t k
      refine pre249 _ ?_
      show Steps p.tables e below (T245.setTop (mkF m 26 #[.val (.ref a1), .val (.ref a2), .val (.ref a2)] [(.ref a1)])) _
      refine st250 _ ?_
      exact k
    have pre252 : ∀ t, Steps p.tables e below (T250.setTop (mkF m 30 #[.val (.ref a1), .val (.ref a2), .val (.ref a2)] [(.ref a2), (.int (0 : Int32))])) t → Steps p.tables e below (s₁.setTop (entryFrame m #[(.ref a1), (.ref a2)] 3)) t := by
      intro t k
      refine pre251 _ ?_
      show Steps p.tables e below (T250.setTop (mkF m 29 #[.val (.ref a1), .val (.ref a2), .val (.ref a2)] [(.int (0 : Int32))])) _
      refine XS.aloadN X250.here hx rfl (hb hby d5_29) rfl rfl ?_
      exact k
    obtain ⟨T253, X253, e253, st253⟩ := getF X250 hx hZ hown (host := "") (Or.inl (hw _ (List.mem_of_getElem? (i := 45) rfl))) Via.refl e250 C2 (g := (mkF m 30 #[.val (.ref a1), .val (.ref a2), .val (.ref a2)] [(.ref a2), (.int (0 : Int32))])) rfl rfl (hb hby d5_30)
    have pre254 : ∀ t, Steps p.tables e below (T253.setTop (mkF m 33 #[.val (.ref a1), .val (.ref a2), .val (.ref a2)] [(.int (0 : Int32)), (.int (0 : Int32))])) t → Steps p.tables e below (s₁.setTop (entryFrame m #[(.ref a1), (.ref a2)] 3)) t := by
      intro t k
      refine pre252 _ ?_
      show Steps p.tables e below (T250.setTop (mkF m 30 #[.val (.ref a1), .val (.ref a2), .val (.ref a2)] [(.ref a2), (.int (0 : Int32))])) _
      refine st253 _ ?_
      exact k
    have pre256 : ∀ t, Steps p.tables e below (T253.setTop (mkF m 36 #[.val (.ref a1), .val (.ref a2), .val (.ref a2)] [])) t → Steps p.tables e below (s₁.setTop (entryFrame m #[(.ref a1), (.ref a2)] 3)) t := by
      intro t k
      refine pre254 _ ?_
      show Steps p.tables e below (T253.setTop (mkF m 33 #[.val (.ref a1), .val (.ref a2), .val (.ref a2)] [(.int (0 : Int32)), (.int (0 : Int32))])) _
      refine XS.icmpNo X253.here hx rfl (hb hby d5_33) rfl (teq (rfl : (0 : Int32) = (0 : Int32))).2 ?_
      exact k
    have pre257 : ∀ t, Steps p.tables e below (T253.setTop (mkF m 37 #[.val (.ref a1), .val (.ref a2), .val (.ref a2)] [(.ref a1)])) t → Steps p.tables e below (s₁.setTop (entryFrame m #[(.ref a1), (.ref a2)] 3)) t := by
      intro t k
      refine pre256 _ ?_
      show Steps p.tables e below (T253.setTop (mkF m 36 #[.val (.ref a1), .val (.ref a2), .val (.ref a2)] [])) _
      refine XS.aloadN X253.here hx rfl (hb hby d5_36) rfl rfl ?_
      exact k
    obtain ⟨T258, X258, e258, st258⟩ := getF X253 hx hZ hown (host := "") (Or.inl (hw _ (List.mem_of_getElem? (i := 46) rfl))) Via.refl e253 V1 (g := (mkF m 37 #[.val (.ref a1), .val (.ref a2), .val (.ref a2)] [(.ref a1)])) rfl rfl (hb hby d5_37)
    have pre259 : ∀ t, Steps p.tables e below (T258.setTop (mkF m 40 #[.val (.ref a1), .val (.ref a2), .val (.ref a2)] [(.ref v1)])) t → Steps p.tables e below (s₁.setTop (entryFrame m #[(.ref a1), (.ref a2)] 3)) t := by
      intro t k
      refine pre257 _ ?_
      show Steps p.tables e below (T253.setTop (mkF m 37 #[.val (.ref a1), .val (.ref a2), .val (.ref a2)] [(.ref a1)])) _
      refine st258 _ ?_
      exact k
    have pre260 : ∀ t, Steps p.tables e below (T258.setTop (mkF m 41 #[.val (.ref a1), .val (.ref a2), .val (.ref a2)] [(.ref a2), (.ref v1)])) t → Steps p.tables e below (s₁.setTop (entryFrame m #[(.ref a1), (.ref a2)] 3)) t := by
      intro t k
      refine pre259 _ ?_
      show Steps p.tables e below (T258.setTop (mkF m 40 #[.val (.ref a1), .val (.ref a2), .val (.ref a2)] [(.ref v1)])) _
      refine XS.aloadN X258.here hx rfl (hb hby d5_40) rfl rfl ?_
      exact k
    obtain ⟨T261, X261, e261, st261⟩ := getF X258 hx hZ hown (host := "") (Or.inl (hw _ (List.mem_of_getElem? (i := 46) rfl))) Via.refl e258 V2 (g := (mkF m 41 #[.val (.ref a1), .val (.ref a2), .val (.ref a2)] [(.ref a2), (.ref v1)])) rfl rfl (hb hby d5_41)
    have pre262 : ∀ t, Steps p.tables e below (T261.setTop (mkF m 44 #[.val (.ref a1), .val (.ref a2), .val (.ref a2)] [(.ref v2), (.ref v1)])) t → Steps p.tables e below (s₁.setTop (entryFrame m #[(.ref a1), (.ref a2)] 3)) t := by
      intro t k
      refine pre260 _ ?_
      show Steps p.tables e below (T258.setTop (mkF m 41 #[.val (.ref a1), .val (.ref a2), .val (.ref a2)] [(.ref a2), (.ref v1)])) _
      refine st261 _ ?_
      exact k
    obtain ⟨_, _, ⟨T263, L263, k263, n263⟩, -, X263, ⟨Lc263, hQ263, l263, y263, z263⟩, st263⟩ := Jvm.LawKit.callS X261 hx (y := (⟨"java/lang/StringLatin1", "equals", "([B[B)Z"⟩ : MethodName)) hown (mvT hZ (hw _ (List.mem_of_getElem? (i := 47) rfl))) (mvT hZ (hw _ (List.mem_of_getElem? (i := 48) rfl))) (mvT hZ (hw _ (List.mem_of_getElem? (i := 49) rfl))) (mvT hZ (hw _ (List.mem_of_getElem? (i := 50) rfl))) (by decide) (backOf (W := 0) (rm6xx l Z a0 hw [] v1 v2 k1 k2 h0 n0 Z0 A1 A2) hZ (hw _ (List.mem_of_getElem? (i := 50) rfl)) (hw _ (List.mem_of_getElem? (i := 49) rfl)) (by decide) (by decide)) (g := (mkF m 44 #[.val (.ref a1), .val (.ref a2), .val (.ref a2)] [(.ref v2), (.ref v1)])) rfl (by rw [hml]; rfl) (argsL := [(.ref v1), (.ref v2)]) (rest := []) (lenOf pd___B_B_Z rfl) rfl (by show 2 * 0 + _ ≤ _; exact Nat.le_of_eq rfl) (hb hby d5_44) (fun _ _ => ⟨rfl, e261, (by decide : 0 + 0 ≤ _), (by decide : 0 + 0 ≤ _)⟩)
    dsimp only [Pt.U, Pt.locs, Pt.cells, Pt.slots] at X263 l263 y263 z263 st263 hQ263
    subst l263 y263 z263
    obtain ⟨rfl, N263q, e263⟩ := hQ263
    have N263 := Fr.app N0 N263q
    have pre264 : ∀ t, Steps p.tables e below (T263.setTop (mkF m 47 #[.val (.ref a1), .val (.ref a2), .val (.ref a2)] [(.int (1 : Int32))])) t → Steps p.tables e below (s₁.setTop (entryFrame m #[(.ref a1), (.ref a2)] 3)) t := by
      intro t k
      refine pre262 _ ?_
      show Steps p.tables e below (T261.setTop (mkF m 44 #[.val (.ref a1), .val (.ref a2), .val (.ref a2)] [(.ref v2), (.ref v1)])) _
      refine st263 _ ?_
      exact k
    have pre266 : ∀ t, Steps p.tables e below (T263.setTop (mkF m 50 #[.val (.ref a1), .val (.ref a2), .val (.ref a2)] [])) t → Steps p.tables e below (s₁.setTop (entryFrame m #[(.ref a1), (.ref a2)] 3)) t := by
      intro t k
      refine pre264 _ ?_
      show Steps p.tables e below (T263.setTop (mkF m 47 #[.val (.ref a1), .val (.ref a2), .val (.ref a2)] [(.int (1 : Int32))])) _
      refine XS.ifNo X263.here hx rfl (hb hby d5_47) rfl ((if0 _ _).trans (feq (by decide : ¬ ((1 : Int32) = (0 : Int32)))).1) ?_
      exact k
    have pre267 : ∀ t, Steps p.tables e below (T263.setTop (mkF m 55 #[.val (.ref a1), .val (.ref a2), .val (.ref a2)] [(.int (1 : Int32))])) t → Steps p.tables e below (s₁.setTop (entryFrame m #[(.ref a1), (.ref a2)] 3)) t := by
      intro t k
      refine pre266 _ ?_
      show Steps p.tables e below (T263.setTop (mkF m 50 #[.val (.ref a1), .val (.ref a2), .val (.ref a2)] [])) _
      refine XS.iconst X263.here hx rfl (hb hby d5_50) ?_
      show Steps p.tables e below (T263.setTop (mkF m 51 #[.val (.ref a1), .val (.ref a2), .val (.ref a2)] [(.int (1 : Int32))])) _
      refine XS.goto X263.here hx rfl (pc0 := 51) (pc' := 55) rfl (hb hby d5_51) (by decide) (by decide) ?_
      exact k
    obtain ⟨fs, hr, hrun, hended, hW, hsame⟩ := X263.leave (v := some (.int (1 : Int32))) (fun h => by rw [hret] at h; cases h)
    refine ⟨_, _, pre267 _ ?_, hrun, hended, _, _, rfl, ?_, ⟨_, rfl⟩, hW, hsame.mono (by decide) (by decide)⟩
    · show Steps p.tables e below (T263.setTop (mkF m 55 #[.val (.ref a1), .val (.ref a2), .val (.ref a2)] [(.int (1 : Int32))])) _
      exact retN X263 hx (t := .boolean) hret (by simp) (hb hby d5_55) hr
    · show Q5xx Z a1 a2 v1 v2 k1 k2 pC h0 n0 _ T263.heap _
      rw [e263]
      exact ⟨rfl, N263, rfl⟩
theorem d6_34 : decode jdk_43_method_13_code 34 = .ok (.iconst 0, 1) := by decide +kernel
theorem d6_35 : decode jdk_43_method_13_code 35 = .ok (.ireturn, 1) := by decide +kernel
theorem ef_6ei (m : MethodId) (x0 : Addr) (x1 : Addr) : entryFrame m #[(.ref x0), (.ref x1)] 3 = mkF m 0 #[.val (.ref x0), .val (.ref x1), .unset] [] := by first | (simp [entryFrame, mkF, argsToLocals, Value.category]; done) | rfl
def Q6ei (Z : State) (a1 : Addr) (a2 : Addr) (k1 : ClassId) (k2 : ClassId) (h0 : Heap) (n0 : Nat) (v : Option Value) (h : Heap) (L : List Loc) : Prop := v = some (.int (0 : Int32)) ∧ Fr n0 L ∧ h = h0
set_option maxRecDepth 65536 in
set_option maxHeartbeats 40000000 in
theorem rm6ei (l : Launch) (Z : State) (a0 : Array Value) (hw : ∀ d ∈ tables_1, d.before a0 Z = true) (ws : List Jvm.Cond) (a1 : Addr) (a2 : Addr) (k1 : ClassId) (k2 : ClassId) (h0 : Heap) (n0 : Nat) (Z0 : n0 ≤ h0.size) (A1 : Arv Z h0 a1 k1 .byte (13 : Int32) [.int (105 : Int32), .int (115 : Int32), .int (115 : Int32), .int (117 : Int32), .int (101 : Int32), .int (114 : Int32), .int (45 : Int32), .int (101 : Int32), .int (108 : Int32), .int (101 : Int32), .int (99 : Int32), .int (116 : Int32), .int (115 : Int32)] (.int (0 : Int32))) (A2 : Arv Z h0 a2 k2 .byte (8 : Int32) [.int (105 : Int32), .int (110 : Int32), .int (99 : Int32), .int (108 : Int32), .int (117 : Int32), .int (100 : Int32), .int (101 : Int32), .int (100 : Int32)] (.int (0 : Int32))) :
    MetFree l (⟨"java/lang/StringLatin1", "equals", "([B[B)Z"⟩ : MethodName) (head1 (Jvm.Cond.code (⟨"java/lang/StringLatin1", "equals", "([B[B)Z"⟩ : MethodName) jdk_43_method_13_code 3 (some .boolean) :: ws) ({ frames := 0, cells := 0, slots := 0, locals := 0 } : Room)) (fun a U => a = #[(.ref a1), (.ref a2)] ∧ Z.Warmed39 U.vm ∧ U.heap = h0) (fun _ _ _ _ _ => True) (fun _ U o U' => ∃ v L, o = .returned v ∧ Q6ei Z a1 a2 k1 k2 h0 n0 v U'.heap L ∧ FrameEnd U o U' L ({ frames := 0, cells := 0, slots := 0, locals := 0 } : Room).cells ({ frames := 0, cells := 0, slots := 0, locals := 0 } : Room).slots) := by
  refine MetFree.of_bodySF (plainFor_of_name pn_6) hisR ?_
  intro p e s m args below meth c s₁ Bd hml0 hP hK
  obtain ⟨rfl, hZ, hh⟩ := hP
  have hx := Bd.exec
  have hby := Bd.bytes
  have hml : c.maxLocals = 3 := hml0
  have hown : s.vm.findClass "java/lang/StringLatin1" = some m.cls := findClass_of_methodNamed Bd.named
  have hnm := (name_of_methodNamed Bd.named Bd.method).1
  have hret := Bd.returns
  have hlocks : meth.locks = false := Bd.notSynchronized
  have X0 : Stand p l e ({ frames := 0, cells := 0, slots := 0, locals := 0 } : Room) s m #[(.ref a1), (.ref a2)] below meth c s₁ [] 0 0 := Stand.of_body Bd
  have e0 : s₁.heap = h0 := by rw [← hh, Bd.state]; rfl
  have N0 := Fr.nil n0
  obtain ⟨cl1, Ar1, _, S1, N_1, H1, _⟩ := A1
  obtain ⟨cl2, Ar2, _, S2, N_2, H2, _⟩ := A2
  have pre0 : ∀ t, Steps p.tables e below (s₁.setTop (mkF m 0 #[.val (.ref a1), .val (.ref a2), .unset] [])) t → Steps p.tables e below (s₁.setTop (entryFrame m #[(.ref a1), (.ref a2)] 3)) t := fun t k => castTop (ef_6ei m a1 a2) k
  have pre268 : ∀ t, Steps p.tables e below (s₁.setTop (mkF m 4 #[.val (.ref a1), .val (.ref a2), .unset] [(.int (8 : Int32)), (.int (13 : Int32))])) t → Steps p.tables e below (s₁.setTop (entryFrame m #[(.ref a1), (.ref a2)] 3)) t := by
    intro t k
    refine pre0 _ ?_
    show Steps p.tables e below (s₁.setTop (mkF m 0 #[.val (.ref a1), .val (.ref a2), .unset] [])) _
    refine XS.aloadN X0.here hx rfl (hb hby d6_0) rfl rfl ?_
    show Steps p.tables e below (s₁.setTop (mkF m 1 #[.val (.ref a1), .val (.ref a2), .unset] [(.ref a1)])) _
    refine X0.arraylength hx (by rw [e0]; exact Ar1.1) (State.isArrayOf_alike hZ.alike Ar1.2.1) (g := (mkF m 1 #[.val (.ref a1), .val (.ref a2), .unset] [(.ref a1)])) rfl rfl (hb hby d6_1) _ ?_
    rw [len_of S1 N_1]
    show Steps p.tables e below (s₁.setTop (mkF m 2 #[.val (.ref a1), .val (.ref a2), .unset] [(.int (13 : Int32))])) _
    refine XS.aloadN X0.here hx rfl (hb hby d6_2) rfl rfl ?_
    show Steps p.tables e below (s₁.setTop (mkF m 3 #[.val (.ref a1), .val (.ref a2), .unset] [(.ref a2), (.int (13 : Int32))])) _
    refine X0.arraylength hx (by rw [e0]; exact Ar2.1) (State.isArrayOf_alike hZ.alike Ar2.2.1) (g := (mkF m 3 #[.val (.ref a1), .val (.ref a2), .unset] [(.ref a2), (.int (13 : Int32))])) rfl rfl (hb hby d6_3) _ ?_
    rw [len_of S2 N_2]
    exact k
  have pre270 : ∀ t, Steps p.tables e below (s₁.setTop (mkF m 34 #[.val (.ref a1), .val (.ref a2), .unset] [])) t → Steps p.tables e below (s₁.setTop (entryFrame m #[(.ref a1), (.ref a2)] 3)) t := by
    intro t k
    refine pre268 _ ?_
    show Steps p.tables e below (s₁.setTop (mkF m 4 #[.val (.ref a1), .val (.ref a2), .unset] [(.int (8 : Int32)), (.int (13 : Int32))])) _
    refine XS.icmpYes X0.here hx rfl (pc0 := 4) (pc' := 34) rfl (hb hby d6_4) rfl (feq (by decide : ¬ ((13 : Int32) = (8 : Int32)))).2 (by decide) (by decide) ?_
    exact k
  have pre271 : ∀ t, Steps p.tables e below (s₁.setTop (mkF m 35 #[.val (.ref a1), .val (.ref a2), .unset] [(.int (0 : Int32))])) t → Steps p.tables e below (s₁.setTop (entryFrame m #[(.ref a1), (.ref a2)] 3)) t := by
    intro t k
    refine pre270 _ ?_
    show Steps p.tables e below (s₁.setTop (mkF m 34 #[.val (.ref a1), .val (.ref a2), .unset] [])) _
    refine XS.iconst X0.here hx rfl (hb hby d6_34) ?_
    exact k
  obtain ⟨fs, hr, hrun, hended, hW, hsame⟩ := X0.leave (v := some (.int (0 : Int32))) (fun h => by rw [hret] at h; cases h)
  refine ⟨_, _, pre271 _ ?_, hrun, hended, _, _, rfl, ?_, ⟨_, rfl⟩, hW, hsame.mono (by decide) (by decide)⟩
  · show Steps p.tables e below (s₁.setTop (mkF m 35 #[.val (.ref a1), .val (.ref a2), .unset] [(.int (0 : Int32))])) _
    exact retN X0 hx (t := .boolean) hret (by simp) (hb hby d6_35) hr
  · show Q6ei Z a1 a2 k1 k2 h0 n0 _ s₁.heap _
    rw [e0]
    exact ⟨rfl, N0, rfl⟩
theorem ef_5ei (m : MethodId) (x0 : Addr) (x1 : Addr) : entryFrame m #[(.ref x0), (.ref x1)] 3 = mkF m 0 #[.val (.ref x0), .val (.ref x1), .unset] [] := by first | (simp [entryFrame, mkF, argsToLocals, Value.category]; done) | rfl
def Q5ei (Z : State) (a1 : Addr) (a2 : Addr) (v1 : Addr) (v2 : Addr) (k1 : ClassId) (k2 : ClassId) (pC : Int32) (h0 : Heap) (n0 : Nat) (v : Option Value) (h : Heap) (L : List Loc) : Prop := v = some (.int (0 : Int32)) ∧ Fr n0 L ∧ h = h0
set_option maxRecDepth 65536 in
set_option maxHeartbeats 40000000 in
theorem rm5ei (l : Launch) (Z : State) (a0 : Array Value) (hw : ∀ d ∈ tables_1, d.before a0 Z = true) (ws : List Jvm.Cond) (a1 : Addr) (a2 : Addr) (v1 : Addr) (v2 : Addr) (k1 : ClassId) (k2 : ClassId) (pC : Int32) (h0 : Heap) (n0 : Nat) (Z0 : n0 ≤ h0.size) (E_a2 : Exa Z h0 a2 "java/lang/String") (C1 : Fld Z h0 a1 "java/lang/String" "coder" "B" (.int (0 : Int32))) (C2 : Fld Z h0 a2 "java/lang/String" "coder" "B" (.int (0 : Int32))) (V1 : Fld Z h0 a1 "java/lang/String" "value" "[B" (.ref v1)) (V2 : Fld Z h0 a2 "java/lang/String" "value" "[B" (.ref v2)) (A1 : Arv Z h0 v1 k1 .byte (13 : Int32) [.int (105 : Int32), .int (115 : Int32), .int (115 : Int32), .int (117 : Int32), .int (101 : Int32), .int (114 : Int32), .int (45 : Int32), .int (101 : Int32), .int (108 : Int32), .int (101 : Int32), .int (99 : Int32), .int (116 : Int32), .int (115 : Int32)] (.int (0 : Int32))) (A2 : Arv Z h0 v2 k2 .byte (8 : Int32) [.int (105 : Int32), .int (110 : Int32), .int (99 : Int32), .int (108 : Int32), .int (117 : Int32), .int (100 : Int32), .int (101 : Int32), .int (100 : Int32)] (.int (0 : Int32))) (hpc : ¬ (pC = (0 : Int32))) (hne : a1 ≠ a2) (S_pC : Sta Z h0 "java/lang/String" "COMPACT_STRINGS" "Z" (.int pC)) :
    MetFree l (⟨"java/lang/String", "equals", "(Ljava/lang/Object;)Z"⟩ : MethodName) (head1 (Jvm.Cond.code (⟨"java/lang/String", "equals", "(Ljava/lang/Object;)Z"⟩ : MethodName) jdk_42_method_66_code 3 (some .boolean) :: ws) ({ frames := 1, cells := 0, slots := 0, locals := 14 } : Room)) (fun a U => a = #[(.ref a1), (.ref a2)] ∧ Z.Warmed39 U.vm ∧ U.heap = h0) (fun _ _ _ _ _ => True) (fun _ U o U' => ∃ v L, o = .returned v ∧ Q5ei Z a1 a2 v1 v2 k1 k2 pC h0 n0 v U'.heap L ∧ FrameEnd U o U' L ({ frames := 1, cells := 0, slots := 0, locals := 14 } : Room).cells ({ frames := 1, cells := 0, slots := 0, locals := 14 } : Room).slots) := by
  refine MetFree.of_bodySF (plainFor_of_name pn_5) hisR ?_
  intro p e s m args below meth c s₁ Bd hml0 hP hK
  obtain ⟨rfl, hZ, hh⟩ := hP
  have hx := Bd.exec
  have hby := Bd.bytes
  have hml : c.maxLocals = 3 := hml0
  have hown : s.vm.findClass "java/lang/String" = some m.cls := findClass_of_methodNamed Bd.named
  have hnm := (name_of_methodNamed Bd.named Bd.method).1
  have hret := Bd.returns
  have hlocks : meth.locks = false := Bd.notSynchronized
  have X0 : Stand p l e ({ frames := 1, cells := 0, slots := 0, locals := 14 } : Room) s m #[(.ref a1), (.ref a2)] below meth c s₁ [] 0 0 := Stand.of_body Bd
  have e0 : s₁.heap = h0 := by rw [← hh, Bd.state]; rfl
  have N0 := Fr.nil n0
  have pre0 : ∀ t, Steps p.tables e below (s₁.setTop (mkF m 0 #[.val (.ref a1), .val (.ref a2), .unset] [])) t → Steps p.tables e below (s₁.setTop (entryFrame m #[(.ref a1), (.ref a2)] 3)) t := fun t k => castTop (ef_5ei m a1 a2) k
  have pre272 : ∀ t, Steps p.tables e below (s₁.setTop (mkF m 2 #[.val (.ref a1), .val (.ref a2), .unset] [(.ref a2), (.ref a1)])) t → Steps p.tables e below (s₁.setTop (entryFrame m #[(.ref a1), (.ref a2)] 3)) t := by
    intro t k
    refine pre0 _ ?_
    show Steps p.tables e below (s₁.setTop (mkF m 0 #[.val (.ref a1), .val (.ref a2), .unset] [])) _
    refine XS.aloadN X0.here hx rfl (hb hby d5_0) rfl rfl ?_
    show Steps p.tables e below (s₁.setTop (mkF m 1 #[.val (.ref a1), .val (.ref a2), .unset] [(.ref a1)])) _
    refine XS.aloadN X0.here hx rfl (hb hby d5_1) rfl rfl ?_
    exact k
  have pre273 : ∀ t, Steps p.tables e below (s₁.setTop (mkF m 7 #[.val (.ref a1), .val (.ref a2), .unset] [])) t → Steps p.tables e below (s₁.setTop (entryFrame m #[(.ref a1), (.ref a2)] 3)) t := by
    intro t k
    refine pre272 _ ?_
    show Steps p.tables e below (s₁.setTop (mkF m 2 #[.val (.ref a1), .val (.ref a2), .unset] [(.ref a2), (.ref a1)])) _
    refine Jvm.RoadKit.acmp (g := (mkF m 2 #[.val (.ref a1), .val (.ref a2), .unset] [(.ref a2), (.ref a1)])) X0 hx rfl rfl rfl (pc0 := 2) (pc' := 7) (same := false) rfl (hb hby d5_2) rfl (decide_eq_false fun q => hne (Value.ref.inj q)) (by decide) (by decide) ?_
    exact k
  have pre274 : ∀ t, Steps p.tables e below (s₁.setTop (mkF m 8 #[.val (.ref a1), .val (.ref a2), .unset] [(.ref a2)])) t → Steps p.tables e below (s₁.setTop (entryFrame m #[(.ref a1), (.ref a2)] 3)) t := by
    intro t k
    refine pre273 _ ?_
    show Steps p.tables e below (s₁.setTop (mkF m 7 #[.val (.ref a1), .val (.ref a2), .unset] [])) _
    refine XS.aloadN X0.here hx rfl (hb hby d5_7) rfl rfl ?_
    exact k
  obtain ⟨T275, X275, e275, st275⟩ := instY X0 hx hZ hown (hw _ (List.mem_of_getElem? (i := 42) rfl)) e0 (Ins.self E_a2) (g := (mkF m 8 #[.val (.ref a1), .val (.ref a2), .unset] [(.ref a2)])) rfl rfl (hb hby d5_8)
  have pre276 : ∀ t, Steps p.tables e below (T275.setTop (mkF m 11 #[.val (.ref a1), .val (.ref a2), .unset] [(.int (1 : Int32))])) t → Steps p.tables e below (s₁.setTop (entryFrame m #[(.ref a1), (.ref a2)] 3)) t := by
    intro t k
    refine pre274 _ ?_
    show Steps p.tables e below (s₁.setTop (mkF m 8 #[.val (.ref a1), .val (.ref a2), .unset] [(.ref a2)])) _
    refine st275 _ ?_
    exact k
  have pre278 : ∀ t, Steps p.tables e below (T275.setTop (mkF m 14 #[.val (.ref a1), .val (.ref a2), .unset] [])) t → Steps p.tables e below (s₁.setTop (entryFrame m #[(.ref a1), (.ref a2)] 3)) t := by
    intro t k
    refine pre276 _ ?_
    show Steps p.tables e below (T275.setTop (mkF m 11 #[.val (.ref a1), .val (.ref a2), .unset] [(.int (1 : Int32))])) _
    refine XS.ifNo X275.here hx rfl (hb hby d5_11) rfl ((if0 _ _).trans (feq (by decide : ¬ ((1 : Int32) = (0 : Int32)))).1) ?_
    exact k
  have pre279 : ∀ t, Steps p.tables e below (T275.setTop (mkF m 15 #[.val (.ref a1), .val (.ref a2), .unset] [(.ref a2)])) t → Steps p.tables e below (s₁.setTop (entryFrame m #[(.ref a1), (.ref a2)] 3)) t := by
    intro t k
    refine pre278 _ ?_
    show Steps p.tables e below (T275.setTop (mkF m 14 #[.val (.ref a1), .val (.ref a2), .unset] [])) _
    refine XS.aloadN X275.here hx rfl (hb hby d5_14) rfl rfl ?_
    exact k
  obtain ⟨T280, X280, e280, st280⟩ := castY X275 hx hZ hown (hw _ (List.mem_of_getElem? (i := 42) rfl)) e275 (Ins.self E_a2) (g := (mkF m 15 #[.val (.ref a1), .val (.ref a2), .unset] [(.ref a2)])) rfl rfl (hb hby d5_15)
  have pre281 : ∀ t, Steps p.tables e below (T280.setTop (mkF m 18 #[.val (.ref a1), .val (.ref a2), .unset] [(.ref a2)])) t → Steps p.tables e below (s₁.setTop (entryFrame m #[(.ref a1), (.ref a2)] 3)) t := by
    intro t k
    refine pre279 _ ?_
    show Steps p.tables e below (T275.setTop (mkF m 15 #[.val (.ref a1), .val (.ref a2), .unset] [(.ref a2)])) _
    refine st280 _ ?_
    exact k
  have pre282 : ∀ t, Steps p.tables e below (T280.setTop (mkF m 19 #[.val (.ref a1), .val (.ref a2), .val (.ref a2)] [])) t → Steps p.tables e below (s₁.setTop (entryFrame m #[(.ref a1), (.ref a2)] 3)) t := by
    intro t k
    refine pre281 _ ?_
    show Steps p.tables e below (T280.setTop (mkF m 18 #[.val (.ref a1), .val (.ref a2), .unset] [(.ref a2)])) _
    refine XS.astoreN X280.here hx rfl (hb hby d5_18) rfl rfl (l' := #[.val (.ref a1), .val (.ref a2), .val (.ref a2)]) rfl ?_
    exact k
  obtain ⟨T283, X283, e283, st283⟩ := getS2 X280 hx hZ hown (host := "") (Or.inl (hw _ (List.mem_of_getElem? (i := 44) rfl))) Via.refl e280 S_pC (g := (mkF m 19 #[.val (.ref a1), .val (.ref a2), .val (.ref a2)] [])) rfl (hb hby d5_19)
  have pre284 : ∀ t, Steps p.tables e below (T283.setTop (mkF m 22 #[.val (.ref a1), .val (.ref a2), .val (.ref a2)] [(.int pC)])) t → Steps p.tables e below (s₁.setTop (entryFrame m #[(.ref a1), (.ref a2)] 3)) t := by
    intro t k
    refine pre282 _ ?_
    show Steps p.tables e below (T280.setTop (mkF m 19 #[.val (.ref a1), .val (.ref a2), .val (.ref a2)] [])) _
    refine st283 _ ?_
    exact k
  have pre286 : ∀ t, Steps p.tables e below (T283.setTop (mkF m 25 #[.val (.ref a1), .val (.ref a2), .val (.ref a2)] [])) t → Steps p.tables e below (s₁.setTop (entryFrame m #[(.ref a1), (.ref a2)] 3)) t := by
    intro t k
    refine pre284 _ ?_
    show Steps p.tables e below (T283.setTop (mkF m 22 #[.val (.ref a1), .val (.ref a2), .val (.ref a2)] [(.int pC)])) _
    refine XS.ifNo X283.here hx rfl (hb hby d5_22) rfl ((if0 _ _).trans (feq hpc).1) ?_
    exact k
  have pre287 : ∀ t, Steps p.tables e below (T283.setTop (mkF m 26 #[.val (.ref a1), .val (.ref a2), .val (.ref a2)] [(.ref a1)])) t → Steps p.tables e below (s₁.setTop (entryFrame m #[(.ref a1), (.ref a2)] 3)) t := by
    intro t k
    refine pre286 _ ?_
    show Steps p.tables e below (T283.setTop (mkF m 25 #[.val (.ref a1), .val (.ref a2), .val (.ref a2)] [])) _
    refine XS.aloadN X283.here hx rfl (hb hby d5_25) rfl rfl ?_
    exact k
  obtain ⟨T288, X288, e288, st288⟩ := getF X283 hx hZ hown (host := "") (Or.inl (hw _ (List.mem_of_getElem? (i := 45) rfl))) Via.refl e283 C1 (g := (mkF m 26 #[.val (.ref a1), .val (.ref a2), .val (.ref a2)] [(.ref a1)])) rfl rfl (hb hby d5_26)
  have pre289 : ∀ t, Steps p.tables e below (T288.setTop (mkF m 29 #[.val (.ref a1), .val (.ref a2), .val (.ref a2)] [(.int (0 : Int32))])) t → Steps p.tables e below (s₁.setTop (entryFrame m #[(.ref a1), (.ref a2)] 3)) t := by
    intro t k
    refine pre287 _ ?_
    show Steps p.tables e below (T283.setTop (mkF m 26 #[.val (.ref a1), .val (.ref a2), .val (.ref a2)] [(.ref a1)])) _
    refine st288 _ ?_
    exact k
  have pre290 : ∀ t, Steps p.tables e below (T288.setTop (mkF m 30 #[.val (.ref a1), .val (.ref a2), .val (.ref a2)] [(.ref a2), (.int (0 : Int32))])) t → Steps p.tables e below (s₁.setTop (entryFrame m #[(.ref a1), (.ref a2)] 3)) t := by
    intro t k
    refine pre289 _ ?_
    show Steps p.tables e below (T288.setTop (mkF m 29 #[.val (.ref a1), .val (.ref a2), .val (.ref a2)] [(.int (0 : Int32))])) _
    refine XS.aloadN X288.here hx rfl (hb hby d5_29) rfl rfl ?_
    exact k
  obtain ⟨T291, X291, e291, st291⟩ := getF X288 hx hZ hown (host := "") (Or.inl (hw _ (List.mem_of_getElem? (i := 45) rfl))) Via.refl e288 C2 (g := (mkF m 30 #[.val (.ref a1), .val (.ref a2), .val (.ref a2)] [(.ref a2), (.int (0 : Int32))])) rfl rfl (hb hby d5_30)
  have pre292 : ∀ t, Steps p.tables e below (T291.setTop (mkF m 33 #[.val (.ref a1), .val (.ref a2), .val (.ref a2)] [(.int (0 : Int32)), (.int (0 : Int32))])) t → Steps p.tables e below (s₁.setTop (entryFrame m #[(.ref a1), (.ref a2)] 3)) t := by
    intro t k
    refine pre290 _ ?_
    show Steps p.tables e below (T288.setTop (mkF m 30 #[.val (.ref a1), .val (.ref a2), .val (.ref a2)] [(.ref a2), (.int (0 : Int32))])) _
    refine st291 _ ?_
    exact k
  have pre294 : ∀ t, Steps p.tables e below (T291.setTop (mkF m 36 #[.val (.ref a1), .val (.ref a2), .val (.ref a2)] [])) t → Steps p.tables e below (s₁.setTop (entryFrame m #[(.ref a1), (.ref a2)] 3)) t := by
    intro t k
    refine pre292 _ ?_
    show Steps p.tables e below (T291.setTop (mkF m 33 #[.val (.ref a1), .val (.ref a2), .val (.ref a2)] [(.int (0 : Int32)), (.int (0 : Int32))])) _
    refine XS.icmpNo X291.here hx rfl (hb hby d5_33) rfl (teq (rfl : (0 : Int32) = (0 : Int32))).2 ?_
    exact k
  have pre295 : ∀ t, Steps p.tables e below (T291.setTop (mkF m 37 #[.val (.ref a1), .val (.ref a2), .val (.ref a2)] [(.ref a1)])) t → Steps p.tables e below (s₁.setTop (entryFrame m #[(.ref a1), (.ref a2)] 3)) t := by
    intro t k
    refine pre294 _ ?_
    show Steps p.tables e below (T291.setTop (mkF m 36 #[.val (.ref a1), .val (.ref a2), .val (.ref a2)] [])) _
    refine XS.aloadN X291.here hx rfl (hb hby d5_36) rfl rfl ?_
    exact k
  obtain ⟨T296, X296, e296, st296⟩ := getF X291 hx hZ hown (host := "") (Or.inl (hw _ (List.mem_of_getElem? (i := 46) rfl))) Via.refl e291 V1 (g := (mkF m 37 #[.val (.ref a1), .val (.ref a2), .val (.ref a2)] [(.ref a1)])) rfl rfl (hb hby d5_37)
  have pre297 : ∀ t, Steps p.tables e below (T296.setTop (mkF m 40 #[.val (.ref a1), .val (.ref a2), .val (.ref a2)] [(.ref v1)])) t → Steps p.tables e below (s₁.setTop (entryFrame m #[(.ref a1), (.ref a2)] 3)) t := by
    intro t k
    refine pre295 _ ?_
    show Steps p.tables e below (T291.setTop (mkF m 37 #[.val (.ref a1), .val (.ref a2), .val (.ref a2)] [(.ref a1)])) _
    refine st296 _ ?_
    exact k
  have pre298 : ∀ t, Steps p.tables e below (T296.setTop (mkF m 41 #[.val (.ref a1), .val (.ref a2), .val (.ref a2)] [(.ref a2), (.ref v1)])) t → Steps p.tables e below (s₁.setTop (entryFrame m #[(.ref a1), (.ref a2)] 3)) t := by
    intro t k
    refine pre297 _ ?_
    show Steps p.tables e below (T296.setTop (mkF m 40 #[.val (.ref a1), .val (.ref a2), .val (.ref a2)] [(.ref v1)])) _
    refine XS.aloadN X296.here hx rfl (hb hby d5_40) rfl rfl ?_
    exact k
  obtain ⟨T299, X299, e299, st299⟩ := getF X296 hx hZ hown (host := "") (Or.inl (hw _ (List.mem_of_getElem? (i := 46) rfl))) Via.refl e296 V2 (g := (mkF m 41 #[.val (.ref a1), .val (.ref a2), .val (.ref a2)] [(.ref a2), (.ref v1)])) rfl rfl (hb hby d5_41)
  have pre300 : ∀ t, Steps p.tables e below (T299.setTop (mkF m 44 #[.val (.ref a1), .val (.ref a2), .val (.ref a2)] [(.ref v2), (.ref v1)])) t → Steps p.tables e below (s₁.setTop (entryFrame m #[(.ref a1), (.ref a2)] 3)) t := by
    intro t k
    refine pre298 _ ?_
    show Steps p.tables e below (T296.setTop (mkF m 41 #[.val (.ref a1), .val (.ref a2), .val (.ref a2)] [(.ref a2), (.ref v1)])) _
    refine st299 _ ?_
    exact k
  obtain ⟨_, _, ⟨T301, L301, k301, n301⟩, -, X301, ⟨Lc301, hQ301, l301, y301, z301⟩, st301⟩ := Jvm.LawKit.callS X299 hx (y := (⟨"java/lang/StringLatin1", "equals", "([B[B)Z"⟩ : MethodName)) hown (mvT hZ (hw _ (List.mem_of_getElem? (i := 47) rfl))) (mvT hZ (hw _ (List.mem_of_getElem? (i := 48) rfl))) (mvT hZ (hw _ (List.mem_of_getElem? (i := 49) rfl))) (mvT hZ (hw _ (List.mem_of_getElem? (i := 50) rfl))) (by decide) (backOf (W := 0) (rm6ei l Z a0 hw [] v1 v2 k1 k2 h0 n0 Z0 A1 A2) hZ (hw _ (List.mem_of_getElem? (i := 50) rfl)) (hw _ (List.mem_of_getElem? (i := 49) rfl)) (by decide) (by decide)) (g := (mkF m 44 #[.val (.ref a1), .val (.ref a2), .val (.ref a2)] [(.ref v2), (.ref v1)])) rfl (by rw [hml]; rfl) (argsL := [(.ref v1), (.ref v2)]) (rest := []) (lenOf pd___B_B_Z rfl) rfl (by show 2 * 0 + _ ≤ _; exact Nat.le_of_eq rfl) (hb hby d5_44) (fun _ _ => ⟨rfl, e299, (by decide : 0 + 0 ≤ _), (by decide : 0 + 0 ≤ _)⟩)
  dsimp only [Pt.U, Pt.locs, Pt.cells, Pt.slots] at X301 l301 y301 z301 st301 hQ301
  subst l301 y301 z301
  obtain ⟨rfl, N301q, e301⟩ := hQ301
  have N301 := Fr.app N0 N301q
  have pre302 : ∀ t, Steps p.tables e below (T301.setTop (mkF m 47 #[.val (.ref a1), .val (.ref a2), .val (.ref a2)] [(.int (0 : Int32))])) t → Steps p.tables e below (s₁.setTop (entryFrame m #[(.ref a1), (.ref a2)] 3)) t := by
    intro t k
    refine pre300 _ ?_
    show Steps p.tables e below (T299.setTop (mkF m 44 #[.val (.ref a1), .val (.ref a2), .val (.ref a2)] [(.ref v2), (.ref v1)])) _
    refine st301 _ ?_
    exact k
  have pre304 : ∀ t, Steps p.tables e below (T301.setTop (mkF m 54 #[.val (.ref a1), .val (.ref a2), .val (.ref a2)] [])) t → Steps p.tables e below (s₁.setTop (entryFrame m #[(.ref a1), (.ref a2)] 3)) t := by
    intro t k
    refine pre302 _ ?_
    show Steps p.tables e below (T301.setTop (mkF m 47 #[.val (.ref a1), .val (.ref a2), .val (.ref a2)] [(.int (0 : Int32))])) _
    refine XS.ifYes X301.here hx rfl (pc0 := 47) (pc' := 54) rfl (hb hby d5_47) rfl ((if0 _ _).trans (teq (rfl : (0 : Int32) = (0 : Int32))).1) (by decide) (by decide) ?_
    exact k
  have pre305 : ∀ t, Steps p.tables e below (T301.setTop (mkF m 55 #[.val (.ref a1), .val (.ref a2), .val (.ref a2)] [(.int (0 : Int32))])) t → Steps p.tables e below (s₁.setTop (entryFrame m #[(.ref a1), (.ref a2)] 3)) t := by
    intro t k
    refine pre304 _ ?_
    show Steps p.tables e below (T301.setTop (mkF m 54 #[.val (.ref a1), .val (.ref a2), .val (.ref a2)] [])) _
    refine XS.iconst X301.here hx rfl (hb hby d5_54) ?_
    exact k
  obtain ⟨fs, hr, hrun, hended, hW, hsame⟩ := X301.leave (v := some (.int (0 : Int32))) (fun h => by rw [hret] at h; cases h)
  refine ⟨_, _, pre305 _ ?_, hrun, hended, _, _, rfl, ?_, ⟨_, rfl⟩, hW, hsame.mono (by decide) (by decide)⟩
  · show Steps p.tables e below (T301.setTop (mkF m 55 #[.val (.ref a1), .val (.ref a2), .val (.ref a2)] [(.int (0 : Int32))])) _
    exact retN X301 hx (t := .boolean) hret (by simp) (hb hby d5_55) hr
  · show Q5ei Z a1 a2 v1 v2 k1 k2 pC h0 n0 _ T301.heap _
    rw [e301]
    exact ⟨rfl, N301, rfl⟩
theorem ef_6ex (m : MethodId) (x0 : Addr) (x1 : Addr) : entryFrame m #[(.ref x0), (.ref x1)] 3 = mkF m 0 #[.val (.ref x0), .val (.ref x1), .unset] [] := by first | (simp [entryFrame, mkF, argsToLocals, Value.category]; done) | rfl
def Q6ex (Z : State) (a1 : Addr) (a2 : Addr) (k1 : ClassId) (k2 : ClassId) (h0 : Heap) (n0 : Nat) (v : Option Value) (h : Heap) (L : List Loc) : Prop := v = some (.int (0 : Int32)) ∧ Fr n0 L ∧ h = h0
set_option maxRecDepth 65536 in
set_option maxHeartbeats 40000000 in
theorem rm6ex (l : Launch) (Z : State) (a0 : Array Value) (hw : ∀ d ∈ tables_1, d.before a0 Z = true) (ws : List Jvm.Cond) (a1 : Addr) (a2 : Addr) (k1 : ClassId) (k2 : ClassId) (h0 : Heap) (n0 : Nat) (Z0 : n0 ≤ h0.size) (A1 : Arv Z h0 a1 k1 .byte (13 : Int32) [.int (105 : Int32), .int (115 : Int32), .int (115 : Int32), .int (117 : Int32), .int (101 : Int32), .int (114 : Int32), .int (45 : Int32), .int (101 : Int32), .int (108 : Int32), .int (101 : Int32), .int (99 : Int32), .int (116 : Int32), .int (115 : Int32)] (.int (0 : Int32))) (A2 : Arv Z h0 a2 k2 .byte (8 : Int32) [.int (101 : Int32), .int (120 : Int32), .int (99 : Int32), .int (108 : Int32), .int (117 : Int32), .int (100 : Int32), .int (101 : Int32), .int (100 : Int32)] (.int (0 : Int32))) :
    MetFree l (⟨"java/lang/StringLatin1", "equals", "([B[B)Z"⟩ : MethodName) (head1 (Jvm.Cond.code (⟨"java/lang/StringLatin1", "equals", "([B[B)Z"⟩ : MethodName) jdk_43_method_13_code 3 (some .boolean) :: ws) ({ frames := 0, cells := 0, slots := 0, locals := 0 } : Room)) (fun a U => a = #[(.ref a1), (.ref a2)] ∧ Z.Warmed39 U.vm ∧ U.heap = h0) (fun _ _ _ _ _ => True) (fun _ U o U' => ∃ v L, o = .returned v ∧ Q6ex Z a1 a2 k1 k2 h0 n0 v U'.heap L ∧ FrameEnd U o U' L ({ frames := 0, cells := 0, slots := 0, locals := 0 } : Room).cells ({ frames := 0, cells := 0, slots := 0, locals := 0 } : Room).slots) := by
  refine MetFree.of_bodySF (plainFor_of_name pn_6) hisR ?_
  intro p e s m args below meth c s₁ Bd hml0 hP hK
  obtain ⟨rfl, hZ, hh⟩ := hP
  have hx := Bd.exec
  have hby := Bd.bytes
  have hml : c.maxLocals = 3 := hml0
  have hown : s.vm.findClass "java/lang/StringLatin1" = some m.cls := findClass_of_methodNamed Bd.named
  have hnm := (name_of_methodNamed Bd.named Bd.method).1
  have hret := Bd.returns
  have hlocks : meth.locks = false := Bd.notSynchronized
  have X0 : Stand p l e ({ frames := 0, cells := 0, slots := 0, locals := 0 } : Room) s m #[(.ref a1), (.ref a2)] below meth c s₁ [] 0 0 := Stand.of_body Bd
  have e0 : s₁.heap = h0 := by rw [← hh, Bd.state]; rfl
  have N0 := Fr.nil n0
  obtain ⟨cl1, Ar1, _, S1, N_1, H1, _⟩ := A1
  obtain ⟨cl2, Ar2, _, S2, N_2, H2, _⟩ := A2
  have pre0 : ∀ t, Steps p.tables e below (s₁.setTop (mkF m 0 #[.val (.ref a1), .val (.ref a2), .unset] [])) t → Steps p.tables e below (s₁.setTop (entryFrame m #[(.ref a1), (.ref a2)] 3)) t := fun t k => castTop (ef_6ex m a1 a2) k
  have pre306 : ∀ t, Steps p.tables e below (s₁.setTop (mkF m 4 #[.val (.ref a1), .val (.ref a2), .unset] [(.int (8 : Int32)), (.int (13 : Int32))])) t → Steps p.tables e below (s₁.setTop (entryFrame m #[(.ref a1), (.ref a2)] 3)) t := by
    intro t k
    refine pre0 _ ?_
    show Steps p.tables e below (s₁.setTop (mkF m 0 #[.val (.ref a1), .val (.ref a2), .unset] [])) _
    refine XS.aloadN X0.here hx rfl (hb hby d6_0) rfl rfl ?_
    show Steps p.tables e below (s₁.setTop (mkF m 1 #[.val (.ref a1), .val (.ref a2), .unset] [(.ref a1)])) _
    refine X0.arraylength hx (by rw [e0]; exact Ar1.1) (State.isArrayOf_alike hZ.alike Ar1.2.1) (g := (mkF m 1 #[.val (.ref a1), .val (.ref a2), .unset] [(.ref a1)])) rfl rfl (hb hby d6_1) _ ?_
    rw [len_of S1 N_1]
    show Steps p.tables e below (s₁.setTop (mkF m 2 #[.val (.ref a1), .val (.ref a2), .unset] [(.int (13 : Int32))])) _
    refine XS.aloadN X0.here hx rfl (hb hby d6_2) rfl rfl ?_
    show Steps p.tables e below (s₁.setTop (mkF m 3 #[.val (.ref a1), .val (.ref a2), .unset] [(.ref a2), (.int (13 : Int32))])) _
    refine X0.arraylength hx (by rw [e0]; exact Ar2.1) (State.isArrayOf_alike hZ.alike Ar2.2.1) (g := (mkF m 3 #[.val (.ref a1), .val (.ref a2), .unset] [(.ref a2), (.int (13 : Int32))])) rfl rfl (hb hby d6_3) _ ?_
    rw [len_of S2 N_2]
    exact k
  have pre308 : ∀ t, Steps p.tables e below (s₁.setTop (mkF m 34 #[.val (.ref a1), .val (.ref a2), .unset] [])) t → Steps p.tables e below (s₁.setTop (entryFrame m #[(.ref a1), (.ref a2)] 3)) t := by
    intro t k
    refine pre306 _ ?_
    show Steps p.tables e below (s₁.setTop (mkF m 4 #[.val (.ref a1), .val (.ref a2), .unset] [(.int (8 : Int32)), (.int (13 : Int32))])) _
    refine XS.icmpYes X0.here hx rfl (pc0 := 4) (pc' := 34) rfl (hb hby d6_4) rfl (feq (by decide : ¬ ((13 : Int32) = (8 : Int32)))).2 (by decide) (by decide) ?_
    exact k
  have pre309 : ∀ t, Steps p.tables e below (s₁.setTop (mkF m 35 #[.val (.ref a1), .val (.ref a2), .unset] [(.int (0 : Int32))])) t → Steps p.tables e below (s₁.setTop (entryFrame m #[(.ref a1), (.ref a2)] 3)) t := by
    intro t k
    refine pre308 _ ?_
    show Steps p.tables e below (s₁.setTop (mkF m 34 #[.val (.ref a1), .val (.ref a2), .unset] [])) _
    refine XS.iconst X0.here hx rfl (hb hby d6_34) ?_
    exact k
  obtain ⟨fs, hr, hrun, hended, hW, hsame⟩ := X0.leave (v := some (.int (0 : Int32))) (fun h => by rw [hret] at h; cases h)
  refine ⟨_, _, pre309 _ ?_, hrun, hended, _, _, rfl, ?_, ⟨_, rfl⟩, hW, hsame.mono (by decide) (by decide)⟩
  · show Steps p.tables e below (s₁.setTop (mkF m 35 #[.val (.ref a1), .val (.ref a2), .unset] [(.int (0 : Int32))])) _
    exact retN X0 hx (t := .boolean) hret (by simp) (hb hby d6_35) hr
  · show Q6ex Z a1 a2 k1 k2 h0 n0 _ s₁.heap _
    rw [e0]
    exact ⟨rfl, N0, rfl⟩
theorem ef_5ex (m : MethodId) (x0 : Addr) (x1 : Addr) : entryFrame m #[(.ref x0), (.ref x1)] 3 = mkF m 0 #[.val (.ref x0), .val (.ref x1), .unset] [] := by first | (simp [entryFrame, mkF, argsToLocals, Value.category]; done) | rfl
def Q5ex (Z : State) (a1 : Addr) (a2 : Addr) (v1 : Addr) (v2 : Addr) (k1 : ClassId) (k2 : ClassId) (pC : Int32) (h0 : Heap) (n0 : Nat) (v : Option Value) (h : Heap) (L : List Loc) : Prop := v = some (.int (0 : Int32)) ∧ Fr n0 L ∧ h = h0
set_option maxRecDepth 65536 in
set_option maxHeartbeats 40000000 in
theorem rm5ex (l : Launch) (Z : State) (a0 : Array Value) (hw : ∀ d ∈ tables_1, d.before a0 Z = true) (ws : List Jvm.Cond) (a1 : Addr) (a2 : Addr) (v1 : Addr) (v2 : Addr) (k1 : ClassId) (k2 : ClassId) (pC : Int32) (h0 : Heap) (n0 : Nat) (Z0 : n0 ≤ h0.size) (E_a2 : Exa Z h0 a2 "java/lang/String") (C1 : Fld Z h0 a1 "java/lang/String" "coder" "B" (.int (0 : Int32))) (C2 : Fld Z h0 a2 "java/lang/String" "coder" "B" (.int (0 : Int32))) (V1 : Fld Z h0 a1 "java/lang/String" "value" "[B" (.ref v1)) (V2 : Fld Z h0 a2 "java/lang/String" "value" "[B" (.ref v2)) (A1 : Arv Z h0 v1 k1 .byte (13 : Int32) [.int (105 : Int32), .int (115 : Int32), .int (115 : Int32), .int (117 : Int32), .int (101 : Int32), .int (114 : Int32), .int (45 : Int32), .int (101 : Int32), .int (108 : Int32), .int (101 : Int32), .int (99 : Int32), .int (116 : Int32), .int (115 : Int32)] (.int (0 : Int32))) (A2 : Arv Z h0 v2 k2 .byte (8 : Int32) [.int (101 : Int32), .int (120 : Int32), .int (99 : Int32), .int (108 : Int32), .int (117 : Int32), .int (100 : Int32), .int (101 : Int32), .int (100 : Int32)] (.int (0 : Int32))) (hpc : ¬ (pC = (0 : Int32))) (hne : a1 ≠ a2) (S_pC : Sta Z h0 "java/lang/String" "COMPACT_STRINGS" "Z" (.int pC)) :
    MetFree l (⟨"java/lang/String", "equals", "(Ljava/lang/Object;)Z"⟩ : MethodName) (head1 (Jvm.Cond.code (⟨"java/lang/String", "equals", "(Ljava/lang/Object;)Z"⟩ : MethodName) jdk_42_method_66_code 3 (some .boolean) :: ws) ({ frames := 1, cells := 0, slots := 0, locals := 14 } : Room)) (fun a U => a = #[(.ref a1), (.ref a2)] ∧ Z.Warmed39 U.vm ∧ U.heap = h0) (fun _ _ _ _ _ => True) (fun _ U o U' => ∃ v L, o = .returned v ∧ Q5ex Z a1 a2 v1 v2 k1 k2 pC h0 n0 v U'.heap L ∧ FrameEnd U o U' L ({ frames := 1, cells := 0, slots := 0, locals := 14 } : Room).cells ({ frames := 1, cells := 0, slots := 0, locals := 14 } : Room).slots) := by
  refine MetFree.of_bodySF (plainFor_of_name pn_5) hisR ?_
  intro p e s m args below meth c s₁ Bd hml0 hP hK
  obtain ⟨rfl, hZ, hh⟩ := hP
  have hx := Bd.exec
  have hby := Bd.bytes
  have hml : c.maxLocals = 3 := hml0
  have hown : s.vm.findClass "java/lang/String" = some m.cls := findClass_of_methodNamed Bd.named
  have hnm := (name_of_methodNamed Bd.named Bd.method).1
  have hret := Bd.returns
  have hlocks : meth.locks = false := Bd.notSynchronized
  have X0 : Stand p l e ({ frames := 1, cells := 0, slots := 0, locals := 14 } : Room) s m #[(.ref a1), (.ref a2)] below meth c s₁ [] 0 0 := Stand.of_body Bd
  have e0 : s₁.heap = h0 := by rw [← hh, Bd.state]; rfl
  have N0 := Fr.nil n0
  have pre0 : ∀ t, Steps p.tables e below (s₁.setTop (mkF m 0 #[.val (.ref a1), .val (.ref a2), .unset] [])) t → Steps p.tables e below (s₁.setTop (entryFrame m #[(.ref a1), (.ref a2)] 3)) t := fun t k => castTop (ef_5ex m a1 a2) k
  have pre310 : ∀ t, Steps p.tables e below (s₁.setTop (mkF m 2 #[.val (.ref a1), .val (.ref a2), .unset] [(.ref a2), (.ref a1)])) t → Steps p.tables e below (s₁.setTop (entryFrame m #[(.ref a1), (.ref a2)] 3)) t := by
    intro t k
    refine pre0 _ ?_
    show Steps p.tables e below (s₁.setTop (mkF m 0 #[.val (.ref a1), .val (.ref a2), .unset] [])) _
    refine XS.aloadN X0.here hx rfl (hb hby d5_0) rfl rfl ?_
    show Steps p.tables e below (s₁.setTop (mkF m 1 #[.val (.ref a1), .val (.ref a2), .unset] [(.ref a1)])) _
    refine XS.aloadN X0.here hx rfl (hb hby d5_1) rfl rfl ?_
    exact k
  have pre311 : ∀ t, Steps p.tables e below (s₁.setTop (mkF m 7 #[.val (.ref a1), .val (.ref a2), .unset] [])) t → Steps p.tables e below (s₁.setTop (entryFrame m #[(.ref a1), (.ref a2)] 3)) t := by
    intro t k
    refine pre310 _ ?_
    show Steps p.tables e below (s₁.setTop (mkF m 2 #[.val (.ref a1), .val (.ref a2), .unset] [(.ref a2), (.ref a1)])) _
    refine Jvm.RoadKit.acmp (g := (mkF m 2 #[.val (.ref a1), .val (.ref a2), .unset] [(.ref a2), (.ref a1)])) X0 hx rfl rfl rfl (pc0 := 2) (pc' := 7) (same := false) rfl (hb hby d5_2) rfl (decide_eq_false fun q => hne (Value.ref.inj q)) (by decide) (by decide) ?_
    exact k
  have pre312 : ∀ t, Steps p.tables e below (s₁.setTop (mkF m 8 #[.val (.ref a1), .val (.ref a2), .unset] [(.ref a2)])) t → Steps p.tables e below (s₁.setTop (entryFrame m #[(.ref a1), (.ref a2)] 3)) t := by
    intro t k
    refine pre311 _ ?_
    show Steps p.tables e below (s₁.setTop (mkF m 7 #[.val (.ref a1), .val (.ref a2), .unset] [])) _
    refine XS.aloadN X0.here hx rfl (hb hby d5_7) rfl rfl ?_
    exact k
  obtain ⟨T313, X313, e313, st313⟩ := instY X0 hx hZ hown (hw _ (List.mem_of_getElem? (i := 42) rfl)) e0 (Ins.self E_a2) (g := (mkF m 8 #[.val (.ref a1), .val (.ref a2), .unset] [(.ref a2)])) rfl rfl (hb hby d5_8)
  have pre314 : ∀ t, Steps p.tables e below (T313.setTop (mkF m 11 #[.val (.ref a1), .val (.ref a2), .unset] [(.int (1 : Int32))])) t → Steps p.tables e below (s₁.setTop (entryFrame m #[(.ref a1), (.ref a2)] 3)) t := by
    intro t k
    refine pre312 _ ?_
    show Steps p.tables e below (s₁.setTop (mkF m 8 #[.val (.ref a1), .val (.ref a2), .unset] [(.ref a2)])) _
    refine st313 _ ?_
    exact k
  have pre316 : ∀ t, Steps p.tables e below (T313.setTop (mkF m 14 #[.val (.ref a1), .val (.ref a2), .unset] [])) t → Steps p.tables e below (s₁.setTop (entryFrame m #[(.ref a1), (.ref a2)] 3)) t := by
    intro t k
    refine pre314 _ ?_
    show Steps p.tables e below (T313.setTop (mkF m 11 #[.val (.ref a1), .val (.ref a2), .unset] [(.int (1 : Int32))])) _
    refine XS.ifNo X313.here hx rfl (hb hby d5_11) rfl ((if0 _ _).trans (feq (by decide : ¬ ((1 : Int32) = (0 : Int32)))).1) ?_
    exact k
  have pre317 : ∀ t, Steps p.tables e below (T313.setTop (mkF m 15 #[.val (.ref a1), .val (.ref a2), .unset] [(.ref a2)])) t → Steps p.tables e below (s₁.setTop (entryFrame m #[(.ref a1), (.ref a2)] 3)) t := by
    intro t k
    refine pre316 _ ?_
    show Steps p.tables e below (T313.setTop (mkF m 14 #[.val (.ref a1), .val (.ref a2), .unset] [])) _
    refine XS.aloadN X313.here hx rfl (hb hby d5_14) rfl rfl ?_
    exact k
  obtain ⟨T318, X318, e318, st318⟩ := castY X313 hx hZ hown (hw _ (List.mem_of_getElem? (i := 42) rfl)) e313 (Ins.self E_a2) (g := (mkF m 15 #[.val (.ref a1), .val (.ref a2), .unset] [(.ref a2)])) rfl rfl (hb hby d5_15)
  have pre319 : ∀ t, Steps p.tables e below (T318.setTop (mkF m 18 #[.val (.ref a1), .val (.ref a2), .unset] [(.ref a2)])) t → Steps p.tables e below (s₁.setTop (entryFrame m #[(.ref a1), (.ref a2)] 3)) t := by
    intro t k
    refine pre317 _ ?_
    show Steps p.tables e below (T313.setTop (mkF m 15 #[.val (.ref a1), .val (.ref a2), .unset] [(.ref a2)])) _
    refine st318 _ ?_
    exact k
  have pre320 : ∀ t, Steps p.tables e below (T318.setTop (mkF m 19 #[.val (.ref a1), .val (.ref a2), .val (.ref a2)] [])) t → Steps p.tables e below (s₁.setTop (entryFrame m #[(.ref a1), (.ref a2)] 3)) t := by
    intro t k
    refine pre319 _ ?_
    show Steps p.tables e below (T318.setTop (mkF m 18 #[.val (.ref a1), .val (.ref a2), .unset] [(.ref a2)])) _
    refine XS.astoreN X318.here hx rfl (hb hby d5_18) rfl rfl (l' := #[.val (.ref a1), .val (.ref a2), .val (.ref a2)]) rfl ?_
    exact k
  obtain ⟨T321, X321, e321, st321⟩ := getS2 X318 hx hZ hown (host := "") (Or.inl (hw _ (List.mem_of_getElem? (i := 44) rfl))) Via.refl e318 S_pC (g := (mkF m 19 #[.val (.ref a1), .val (.ref a2), .val (.ref a2)] [])) rfl (hb hby d5_19)
  have pre322 : ∀ t, Steps p.tables e below (T321.setTop (mkF m 22 #[.val (.ref a1), .val (.ref a2), .val (.ref a2)] [(.int pC)])) t → Steps p.tables e below (s₁.setTop (entryFrame m #[(.ref a1), (.ref a2)] 3)) t := by
    intro t k
    refine pre320 _ ?_
    show Steps p.tables e below (T318.setTop (mkF m 19 #[.val (.ref a1), .val (.ref a2), .val (.ref a2)] [])) _
    refine st321 _ ?_
    exact k
  have pre324 : ∀ t, Steps p.tables e below (T321.setTop (mkF m 25 #[.val (.ref a1), .val (.ref a2), .val (.ref a2)] [])) t → Steps p.tables e below (s₁.setTop (entryFrame m #[(.ref a1), (.ref a2)] 3)) t := by
    intro t k
    refine pre322 _ ?_
    show Steps p.tables e below (T321.setTop (mkF m 22 #[.val (.ref a1), .val (.ref a2), .val (.ref a2)] [(.int pC)])) _
    refine XS.ifNo X321.here hx rfl (hb hby d5_22) rfl ((if0 _ _).trans (feq hpc).1) ?_
    exact k
  have pre325 : ∀ t, Steps p.tables e below (T321.setTop (mkF m 26 #[.val (.ref a1), .val (.ref a2), .val (.ref a2)] [(.ref a1)])) t → Steps p.tables e below (s₁.setTop (entryFrame m #[(.ref a1), (.ref a2)] 3)) t := by
    intro t k
    refine pre324 _ ?_
    show Steps p.tables e below (T321.setTop (mkF m 25 #[.val (.ref a1), .val (.ref a2), .val (.ref a2)] [])) _
    refine XS.aloadN X321.here hx rfl (hb hby d5_25) rfl rfl ?_
    exact k
  obtain ⟨T326, X326, e326, st326⟩ := getF X321 hx hZ hown (host := "") (Or.inl (hw _ (List.mem_of_getElem? (i := 45) rfl))) Via.refl e321 C1 (g := (mkF m 26 #[.val (.ref a1), .val (.ref a2), .val (.ref a2)] [(.ref a1)])) rfl rfl (hb hby d5_26)
  have pre327 : ∀ t, Steps p.tables e below (T326.setTop (mkF m 29 #[.val (.ref a1), .val (.ref a2), .val (.ref a2)] [(.int (0 : Int32))])) t → Steps p.tables e below (s₁.setTop (entryFrame m #[(.ref a1), (.ref a2)] 3)) t := by
    intro t k
    refine pre325 _ ?_
    show Steps p.tables e below (T321.setTop (mkF m 26 #[.val (.ref a1), .val (.ref a2), .val (.ref a2)] [(.ref a1)])) _
    refine st326 _ ?_
    exact k
  have pre328 : ∀ t, Steps p.tables e below (T326.setTop (mkF m 30 #[.val (.ref a1), .val (.ref a2), .val (.ref a2)] [(.ref a2), (.int (0 : Int32))])) t → Steps p.tables e below (s₁.setTop (entryFrame m #[(.ref a1), (.ref a2)] 3)) t := by
    intro t k
    refine pre327 _ ?_
    show Steps p.tables e below (T326.setTop (mkF m 29 #[.val (.ref a1), .val (.ref a2), .val (.ref a2)] [(.int (0 : Int32))])) _
    refine XS.aloadN X326.here hx rfl (hb hby d5_29) rfl rfl ?_
    exact k
  obtain ⟨T329, X329, e329, st329⟩ := getF X326 hx hZ hown (host := "") (Or.inl (hw _ (List.mem_of_getElem? (i := 45) rfl))) Via.refl e326 C2 (g := (mkF m 30 #[.val (.ref a1), .val (.ref a2), .val (.ref a2)] [(.ref a2), (.int (0 : Int32))])) rfl rfl (hb hby d5_30)
  have pre330 : ∀ t, Steps p.tables e below (T329.setTop (mkF m 33 #[.val (.ref a1), .val (.ref a2), .val (.ref a2)] [(.int (0 : Int32)), (.int (0 : Int32))])) t → Steps p.tables e below (s₁.setTop (entryFrame m #[(.ref a1), (.ref a2)] 3)) t := by
    intro t k
    refine pre328 _ ?_
    show Steps p.tables e below (T326.setTop (mkF m 30 #[.val (.ref a1), .val (.ref a2), .val (.ref a2)] [(.ref a2), (.int (0 : Int32))])) _
    refine st329 _ ?_
    exact k
  have pre332 : ∀ t, Steps p.tables e below (T329.setTop (mkF m 36 #[.val (.ref a1), .val (.ref a2), .val (.ref a2)] [])) t → Steps p.tables e below (s₁.setTop (entryFrame m #[(.ref a1), (.ref a2)] 3)) t := by
    intro t k
    refine pre330 _ ?_
    show Steps p.tables e below (T329.setTop (mkF m 33 #[.val (.ref a1), .val (.ref a2), .val (.ref a2)] [(.int (0 : Int32)), (.int (0 : Int32))])) _
    refine XS.icmpNo X329.here hx rfl (hb hby d5_33) rfl (teq (rfl : (0 : Int32) = (0 : Int32))).2 ?_
    exact k
  have pre333 : ∀ t, Steps p.tables e below (T329.setTop (mkF m 37 #[.val (.ref a1), .val (.ref a2), .val (.ref a2)] [(.ref a1)])) t → Steps p.tables e below (s₁.setTop (entryFrame m #[(.ref a1), (.ref a2)] 3)) t := by
    intro t k
    refine pre332 _ ?_
    show Steps p.tables e below (T329.setTop (mkF m 36 #[.val (.ref a1), .val (.ref a2), .val (.ref a2)] [])) _
    refine XS.aloadN X329.here hx rfl (hb hby d5_36) rfl rfl ?_
    exact k
  obtain ⟨T334, X334, e334, st334⟩ := getF X329 hx hZ hown (host := "") (Or.inl (hw _ (List.mem_of_getElem? (i := 46) rfl))) Via.refl e329 V1 (g := (mkF m 37 #[.val (.ref a1), .val (.ref a2), .val (.ref a2)] [(.ref a1)])) rfl rfl (hb hby d5_37)
  have pre335 : ∀ t, Steps p.tables e below (T334.setTop (mkF m 40 #[.val (.ref a1), .val (.ref a2), .val (.ref a2)] [(.ref v1)])) t → Steps p.tables e below (s₁.setTop (entryFrame m #[(.ref a1), (.ref a2)] 3)) t := by
    intro t k
    refine pre333 _ ?_
    show Steps p.tables e below (T329.setTop (mkF m 37 #[.val (.ref a1), .val (.ref a2), .val (.ref a2)] [(.ref a1)])) _
    refine st334 _ ?_
    exact k
  have pre336 : ∀ t, Steps p.tables e below (T334.setTop (mkF m 41 #[.val (.ref a1), .val (.ref a2), .val (.ref a2)] [(.ref a2), (.ref v1)])) t → Steps p.tables e below (s₁.setTop (entryFrame m #[(.ref a1), (.ref a2)] 3)) t := by
    intro t k
    refine pre335 _ ?_
    show Steps p.tables e below (T334.setTop (mkF m 40 #[.val (.ref a1), .val (.ref a2), .val (.ref a2)] [(.ref v1)])) _
    refine XS.aloadN X334.here hx rfl (hb hby d5_40) rfl rfl ?_
    exact k
  obtain ⟨T337, X337, e337, st337⟩ := getF X334 hx hZ hown (host := "") (Or.inl (hw _ (List.mem_of_getElem? (i := 46) rfl))) Via.refl e334 V2 (g := (mkF m 41 #[.val (.ref a1), .val (.ref a2), .val (.ref a2)] [(.ref a2), (.ref v1)])) rfl rfl (hb hby d5_41)
  have pre338 : ∀ t, Steps p.tables e below (T337.setTop (mkF m 44 #[.val (.ref a1), .val (.ref a2), .val (.ref a2)] [(.ref v2), (.ref v1)])) t → Steps p.tables e below (s₁.setTop (entryFrame m #[(.ref a1), (.ref a2)] 3)) t := by
    intro t k
    refine pre336 _ ?_
    show Steps p.tables e below (T334.setTop (mkF m 41 #[.val (.ref a1), .val (.ref a2), .val (.ref a2)] [(.ref a2), (.ref v1)])) _
    refine st337 _ ?_
    exact k
  obtain ⟨_, _, ⟨T339, L339, k339, n339⟩, -, X339, ⟨Lc339, hQ339, l339, y339, z339⟩, st339⟩ := Jvm.LawKit.callS X337 hx (y := (⟨"java/lang/StringLatin1", "equals", "([B[B)Z"⟩ : MethodName)) hown (mvT hZ (hw _ (List.mem_of_getElem? (i := 47) rfl))) (mvT hZ (hw _ (List.mem_of_getElem? (i := 48) rfl))) (mvT hZ (hw _ (List.mem_of_getElem? (i := 49) rfl))) (mvT hZ (hw _ (List.mem_of_getElem? (i := 50) rfl))) (by decide) (backOf (W := 0) (rm6ex l Z a0 hw [] v1 v2 k1 k2 h0 n0 Z0 A1 A2) hZ (hw _ (List.mem_of_getElem? (i := 50) rfl)) (hw _ (List.mem_of_getElem? (i := 49) rfl)) (by decide) (by decide)) (g := (mkF m 44 #[.val (.ref a1), .val (.ref a2), .val (.ref a2)] [(.ref v2), (.ref v1)])) rfl (by rw [hml]; rfl) (argsL := [(.ref v1), (.ref v2)]) (rest := []) (lenOf pd___B_B_Z rfl) rfl (by show 2 * 0 + _ ≤ _; exact Nat.le_of_eq rfl) (hb hby d5_44) (fun _ _ => ⟨rfl, e337, (by decide : 0 + 0 ≤ _), (by decide : 0 + 0 ≤ _)⟩)
  dsimp only [Pt.U, Pt.locs, Pt.cells, Pt.slots] at X339 l339 y339 z339 st339 hQ339
  subst l339 y339 z339
  obtain ⟨rfl, N339q, e339⟩ := hQ339
  have N339 := Fr.app N0 N339q
  have pre340 : ∀ t, Steps p.tables e below (T339.setTop (mkF m 47 #[.val (.ref a1), .val (.ref a2), .val (.ref a2)] [(.int (0 : Int32))])) t → Steps p.tables e below (s₁.setTop (entryFrame m #[(.ref a1), (.ref a2)] 3)) t := by
    intro t k
    refine pre338 _ ?_
    show Steps p.tables e below (T337.setTop (mkF m 44 #[.val (.ref a1), .val (.ref a2), .val (.ref a2)] [(.ref v2), (.ref v1)])) _
    refine st339 _ ?_
    exact k
  have pre342 : ∀ t, Steps p.tables e below (T339.setTop (mkF m 54 #[.val (.ref a1), .val (.ref a2), .val (.ref a2)] [])) t → Steps p.tables e below (s₁.setTop (entryFrame m #[(.ref a1), (.ref a2)] 3)) t := by
    intro t k
    refine pre340 _ ?_
    show Steps p.tables e below (T339.setTop (mkF m 47 #[.val (.ref a1), .val (.ref a2), .val (.ref a2)] [(.int (0 : Int32))])) _
    refine XS.ifYes X339.here hx rfl (pc0 := 47) (pc' := 54) rfl (hb hby d5_47) rfl ((if0 _ _).trans (teq (rfl : (0 : Int32) = (0 : Int32))).1) (by decide) (by decide) ?_
    exact k
  have pre343 : ∀ t, Steps p.tables e below (T339.setTop (mkF m 55 #[.val (.ref a1), .val (.ref a2), .val (.ref a2)] [(.int (0 : Int32))])) t → Steps p.tables e below (s₁.setTop (entryFrame m #[(.ref a1), (.ref a2)] 3)) t := by
    intro t k
    refine pre342 _ ?_
    show Steps p.tables e below (T339.setTop (mkF m 54 #[.val (.ref a1), .val (.ref a2), .val (.ref a2)] [])) _
    refine XS.iconst X339.here hx rfl (hb hby d5_54) ?_
    exact k
  obtain ⟨fs, hr, hrun, hended, hW, hsame⟩ := X339.leave (v := some (.int (0 : Int32))) (fun h => by rw [hret] at h; cases h)
  refine ⟨_, _, pre343 _ ?_, hrun, hended, _, _, rfl, ?_, ⟨_, rfl⟩, hW, hsame.mono (by decide) (by decide)⟩
  · show Steps p.tables e below (T339.setTop (mkF m 55 #[.val (.ref a1), .val (.ref a2), .val (.ref a2)] [(.int (0 : Int32))])) _
    exact retN X339 hx (t := .boolean) hret (by simp) (hb hby d5_55) hr
  · show Q5ex Z a1 a2 v1 v2 k1 k2 pC h0 n0 _ T339.heap _
    rw [e339]
    exact ⟨rfl, N339, rfl⟩
theorem ef_6ee (m : MethodId) (x0 : Addr) (x1 : Addr) : entryFrame m #[(.ref x0), (.ref x1)] 3 = mkF m 0 #[.val (.ref x0), .val (.ref x1), .unset] [] := by first | (simp [entryFrame, mkF, argsToLocals, Value.category]; done) | rfl
def Q6ee (Z : State) (a1 : Addr) (a2 : Addr) (k1 : ClassId) (k2 : ClassId) (h0 : Heap) (n0 : Nat) (v : Option Value) (h : Heap) (L : List Loc) : Prop := v = some (.int (1 : Int32)) ∧ Fr n0 L ∧ h = h0
set_option maxRecDepth 65536 in
set_option maxHeartbeats 40000000 in
theorem rm6ee (l : Launch) (Z : State) (a0 : Array Value) (hw : ∀ d ∈ tables_1, d.before a0 Z = true) (ws : List Jvm.Cond) (a1 : Addr) (a2 : Addr) (k1 : ClassId) (k2 : ClassId) (h0 : Heap) (n0 : Nat) (Z0 : n0 ≤ h0.size) (A1 : Arv Z h0 a1 k1 .byte (13 : Int32) [.int (105 : Int32), .int (115 : Int32), .int (115 : Int32), .int (117 : Int32), .int (101 : Int32), .int (114 : Int32), .int (45 : Int32), .int (101 : Int32), .int (108 : Int32), .int (101 : Int32), .int (99 : Int32), .int (116 : Int32), .int (115 : Int32)] (.int (0 : Int32))) (A2 : Arv Z h0 a2 k2 .byte (13 : Int32) [.int (105 : Int32), .int (115 : Int32), .int (115 : Int32), .int (117 : Int32), .int (101 : Int32), .int (114 : Int32), .int (45 : Int32), .int (101 : Int32), .int (108 : Int32), .int (101 : Int32), .int (99 : Int32), .int (116 : Int32), .int (115 : Int32)] (.int (0 : Int32))) :
    MetFree l (⟨"java/lang/StringLatin1", "equals", "([B[B)Z"⟩ : MethodName) (head1 (Jvm.Cond.code (⟨"java/lang/StringLatin1", "equals", "([B[B)Z"⟩ : MethodName) jdk_43_method_13_code 3 (some .boolean) :: ws) ({ frames := 0, cells := 0, slots := 0, locals := 0 } : Room)) (fun a U => a = #[(.ref a1), (.ref a2)] ∧ Z.Warmed39 U.vm ∧ U.heap = h0) (fun _ _ _ _ _ => True) (fun _ U o U' => ∃ v L, o = .returned v ∧ Q6ee Z a1 a2 k1 k2 h0 n0 v U'.heap L ∧ FrameEnd U o U' L ({ frames := 0, cells := 0, slots := 0, locals := 0 } : Room).cells ({ frames := 0, cells := 0, slots := 0, locals := 0 } : Room).slots) := by
  refine MetFree.of_bodySF (plainFor_of_name pn_6) hisR ?_
  intro p e s m args below meth c s₁ Bd hml0 hP hK
  obtain ⟨rfl, hZ, hh⟩ := hP
  have hx := Bd.exec
  have hby := Bd.bytes
  have hml : c.maxLocals = 3 := hml0
  have hown : s.vm.findClass "java/lang/StringLatin1" = some m.cls := findClass_of_methodNamed Bd.named
  have hnm := (name_of_methodNamed Bd.named Bd.method).1
  have hret := Bd.returns
  have hlocks : meth.locks = false := Bd.notSynchronized
  have X0 : Stand p l e ({ frames := 0, cells := 0, slots := 0, locals := 0 } : Room) s m #[(.ref a1), (.ref a2)] below meth c s₁ [] 0 0 := Stand.of_body Bd
  have e0 : s₁.heap = h0 := by rw [← hh, Bd.state]; rfl
  have N0 := Fr.nil n0
  obtain ⟨cl1, Ar1, _, S1, N_1, H1, _⟩ := A1
  obtain ⟨cl2, Ar2, _, S2, N_2, H2, _⟩ := A2
  have pre0 : ∀ t, Steps p.tables e below (s₁.setTop (mkF m 0 #[.val (.ref a1), .val (.ref a2), .unset] [])) t → Steps p.tables e below (s₁.setTop (entryFrame m #[(.ref a1), (.ref a2)] 3)) t := fun t k => castTop (ef_6ee m a1 a2) k
  have pre344 : ∀ t, Steps p.tables e below (s₁.setTop (mkF m 4 #[.val (.ref a1), .val (.ref a2), .unset] [(.int (13 : Int32)), (.int (13 : Int32))])) t → Steps p.tables e below (s₁.setTop (entryFrame m #[(.ref a1), (.ref a2)] 3)) t := by
    intro t k
    refine pre0 _ ?_
    show Steps p.tables e below (s₁.setTop (mkF m 0 #[.val (.ref a1), .val (.ref a2), .unset] [])) _
    refine XS.aloadN X0.here hx rfl (hb hby d6_0) rfl rfl ?_
    show Steps p.tables e below (s₁.setTop (mkF m 1 #[.val (.ref a1), .val (.ref a2), .unset] [(.ref a1)])) _
    refine X0.arraylength hx (by rw [e0]; exact Ar1.1) (State.isArrayOf_alike hZ.alike Ar1.2.1) (g := (mkF m 1 #[.val (.ref a1), .val (.ref a2), .unset] [(.ref a1)])) rfl rfl (hb hby d6_1) _ ?_
    rw [len_of S1 N_1]
    show Steps p.tables e below (s₁.setTop (mkF m 2 #[.val (.ref a1), .val (.ref a2), .unset] [(.int (13 : Int32))])) _
    refine XS.aloadN X0.here hx rfl (hb hby d6_2) rfl rfl ?_
    show Steps p.tables e below (s₁.setTop (mkF m 3 #[.val (.ref a1), .val (.ref a2), .unset] [(.ref a2), (.int (13 : Int32))])) _
    refine X0.arraylength hx (by rw [e0]; exact Ar2.1) (State.isArrayOf_alike hZ.alike Ar2.2.1) (g := (mkF m 3 #[.val (.ref a1), .val (.ref a2), .unset] [(.ref a2), (.int (13 : Int32))])) rfl rfl (hb hby d6_3) _ ?_
    rw [len_of S2 N_2]
    exact k
  have pre346 : ∀ t, Steps p.tables e below (s₁.setTop (mkF m 7 #[.val (.ref a1), .val (.ref a2), .unset] [])) t → Steps p.tables e below (s₁.setTop (entryFrame m #[(.ref a1), (.ref a2)] 3)) t := by
    intro t k
    refine pre344 _ ?_
    show Steps p.tables e below (s₁.setTop (mkF m 4 #[.val (.ref a1), .val (.ref a2), .unset] [(.int (13 : Int32)), (.int (13 : Int32))])) _
    refine XS.icmpNo X0.here hx rfl (hb hby d6_4) rfl (teq (rfl : (13 : Int32) = (13 : Int32))).2 ?_
    exact k
  have pre347 : ∀ t, Steps p.tables e below (s₁.setTop (mkF m 12 #[.val (.ref a1), .val (.ref a2), .val (.int (0 : Int32))] [(.int (13 : Int32)), (.int (0 : Int32))])) t → Steps p.tables e below (s₁.setTop (entryFrame m #[(.ref a1), (.ref a2)] 3)) t := by
    intro t k
    refine pre346 _ ?_
    show Steps p.tables e below (s₁.setTop (mkF m 7 #[.val (.ref a1), .val (.ref a2), .unset] [])) _
    refine XS.iconst X0.here hx rfl (hb hby d6_7) ?_
    show Steps p.tables e below (s₁.setTop (mkF m 8 #[.val (.ref a1), .val (.ref a2), .unset] [(.int (0 : Int32))])) _
    refine XS.istoreN X0.here hx rfl (hb hby d6_8) rfl (l' := #[.val (.ref a1), .val (.ref a2), .val (.int (0 : Int32))]) rfl ?_
    show Steps p.tables e below (s₁.setTop (mkF m 9 #[.val (.ref a1), .val (.ref a2), .val (.int (0 : Int32))] [])) _
    refine XS.iloadN X0.here hx rfl (hb hby d6_9) rfl ?_
    show Steps p.tables e below (s₁.setTop (mkF m 10 #[.val (.ref a1), .val (.ref a2), .val (.int (0 : Int32))] [(.int (0 : Int32))])) _
    refine XS.aloadN X0.here hx rfl (hb hby d6_10) rfl rfl ?_
    show Steps p.tables e below (s₁.setTop (mkF m 11 #[.val (.ref a1), .val (.ref a2), .val (.int (0 : Int32))] [(.ref a1), (.int (0 : Int32))])) _
    refine X0.arraylength hx (by rw [e0]; exact Ar1.1) (State.isArrayOf_alike hZ.alike Ar1.2.1) (g := (mkF m 11 #[.val (.ref a1), .val (.ref a2), .val (.int (0 : Int32))] [(.ref a1), (.int (0 : Int32))])) rfl rfl (hb hby d6_11) _ ?_
    rw [len_of S1 N_1]
    exact k
  have pre349 : ∀ t, Steps p.tables e below (s₁.setTop (mkF m 15 #[.val (.ref a1), .val (.ref a2), .val (.int (0 : Int32))] [])) t → Steps p.tables e below (s₁.setTop (entryFrame m #[(.ref a1), (.ref a2)] 3)) t := by
    intro t k
    refine pre347 _ ?_
    show Steps p.tables e below (s₁.setTop (mkF m 12 #[.val (.ref a1), .val (.ref a2), .val (.int (0 : Int32))] [(.int (13 : Int32)), (.int (0 : Int32))])) _
    refine XS.icmpNo X0.here hx rfl (hb hby d6_12) rfl (tlt (by decide : (0 : Int32) < (13 : Int32))).2.1 ?_
    exact k
  have pre350 : ∀ t, Steps p.tables e below (s₁.setTop (mkF m 21 #[.val (.ref a1), .val (.ref a2), .val (.int (0 : Int32))] [(.int (105 : Int32)), (.int (105 : Int32))])) t → Steps p.tables e below (s₁.setTop (entryFrame m #[(.ref a1), (.ref a2)] 3)) t := by
    intro t k
    refine pre349 _ ?_
    show Steps p.tables e below (s₁.setTop (mkF m 15 #[.val (.ref a1), .val (.ref a2), .val (.int (0 : Int32))] [])) _
    refine XS.aloadN X0.here hx rfl (hb hby d6_15) rfl rfl ?_
    show Steps p.tables e below (s₁.setTop (mkF m 16 #[.val (.ref a1), .val (.ref a2), .val (.int (0 : Int32))] [(.ref a1)])) _
    refine XS.iloadN X0.here hx rfl (hb hby d6_16) rfl ?_
    show Steps p.tables e below (s₁.setTop (mkF m 17 #[.val (.ref a1), .val (.ref a2), .val (.int (0 : Int32))] [(.int (0 : Int32)), (.ref a1)])) _
    refine X0.baloadBytes hx (j := (0 : Int32)) (v := (.int (105 : Int32))) (by rw [e0]; exact Ar1.1) (State.isArrayOf_alike hZ.alike Ar1.2.1) Ar1.2.2 (inb_of S1 ⟨by decide, by decide⟩) (Has.at (v := (.int (105 : Int32))) H1 (inb_of S1 ⟨by decide, by decide⟩) rfl) (g := (mkF m 17 #[.val (.ref a1), .val (.ref a2), .val (.int (0 : Int32))] [(.int (0 : Int32)), (.ref a1)])) rfl rfl (hb hby d6_17) _ ?_
    show Steps p.tables e below (s₁.setTop (mkF m 18 #[.val (.ref a1), .val (.ref a2), .val (.int (0 : Int32))] [(.int (105 : Int32))])) _
    refine XS.aloadN X0.here hx rfl (hb hby d6_18) rfl rfl ?_
    show Steps p.tables e below (s₁.setTop (mkF m 19 #[.val (.ref a1), .val (.ref a2), .val (.int (0 : Int32))] [(.ref a2), (.int (105 : Int32))])) _
    refine XS.iloadN X0.here hx rfl (hb hby d6_19) rfl ?_
    show Steps p.tables e below (s₁.setTop (mkF m 20 #[.val (.ref a1), .val (.ref a2), .val (.int (0 : Int32))] [(.int (0 : Int32)), (.ref a2), (.int (105 : Int32))])) _
    refine X0.baloadBytes hx (j := (0 : Int32)) (v := (.int (105 : Int32))) (by rw [e0]; exact Ar2.1) (State.isArrayOf_alike hZ.alike Ar2.2.1) Ar2.2.2 (inb_of S2 ⟨by decide, by decide⟩) (Has.at (v := (.int (105 : Int32))) H2 (inb_of S2 ⟨by decide, by decide⟩) rfl) (g := (mkF m 20 #[.val (.ref a1), .val (.ref a2), .val (.int (0 : Int32))] [(.int (0 : Int32)), (.ref a2), (.int (105 : Int32))])) rfl rfl (hb hby d6_20) _ ?_
    exact k
  have pre352 : ∀ t, Steps p.tables e below (s₁.setTop (mkF m 26 #[.val (.ref a1), .val (.ref a2), .val (.int (0 : Int32))] [])) t → Steps p.tables e below (s₁.setTop (entryFrame m #[(.ref a1), (.ref a2)] 3)) t := by
    intro t k
    refine pre350 _ ?_
    show Steps p.tables e below (s₁.setTop (mkF m 21 #[.val (.ref a1), .val (.ref a2), .val (.int (0 : Int32))] [(.int (105 : Int32)), (.int (105 : Int32))])) _
    refine XS.icmpYes X0.here hx rfl (pc0 := 21) (pc' := 26) rfl (hb hby d6_21) rfl (teq (rfl : (105 : Int32) = (105 : Int32))).1 (by decide) (by decide) ?_
    exact k
  have pre353 : ∀ t, Steps p.tables e below (s₁.setTop (mkF m 12 #[.val (.ref a1), .val (.ref a2), .val (.int (1 : Int32))] [(.int (13 : Int32)), (.int (1 : Int32))])) t → Steps p.tables e below (s₁.setTop (entryFrame m #[(.ref a1), (.ref a2)] 3)) t := by
    intro t k
    refine pre352 _ ?_
    show Steps p.tables e below (s₁.setTop (mkF m 26 #[.val (.ref a1), .val (.ref a2), .val (.int (0 : Int32))] [])) _
    refine XS.iinc X0.here hx rfl (hb hby d6_26) rfl (l' := #[.val (.ref a1), .val (.ref a2), .val (.int (1 : Int32))]) rfl ?_
    show Steps p.tables e below (s₁.setTop (mkF m 29 #[.val (.ref a1), .val (.ref a2), .val (.int (1 : Int32))] [])) _
    refine XS.goto X0.here hx rfl (pc0 := 29) (pc' := 9) rfl (hb hby d6_29) (by decide) (by decide) ?_
    show Steps p.tables e below (s₁.setTop (mkF m 9 #[.val (.ref a1), .val (.ref a2), .val (.int (1 : Int32))] [])) _
    refine XS.iloadN X0.here hx rfl (hb hby d6_9) rfl ?_
    show Steps p.tables e below (s₁.setTop (mkF m 10 #[.val (.ref a1), .val (.ref a2), .val (.int (1 : Int32))] [(.int (1 : Int32))])) _
    refine XS.aloadN X0.here hx rfl (hb hby d6_10) rfl rfl ?_
    show Steps p.tables e below (s₁.setTop (mkF m 11 #[.val (.ref a1), .val (.ref a2), .val (.int (1 : Int32))] [(.ref a1), (.int (1 : Int32))])) _
    refine X0.arraylength hx (by rw [e0]; exact Ar1.1) (State.isArrayOf_alike hZ.alike Ar1.2.1) (g := (mkF m 11 #[.val (.ref a1), .val (.ref a2), .val (.int (1 : Int32))] [(.ref a1), (.int (1 : Int32))])) rfl rfl (hb hby d6_11) _ ?_
    rw [len_of S1 N_1]
    exact k
  have pre355 : ∀ t, Steps p.tables e below (s₁.setTop (mkF m 15 #[.val (.ref a1), .val (.ref a2), .val (.int (1 : Int32))] [])) t → Steps p.tables e below (s₁.setTop (entryFrame m #[(.ref a1), (.ref a2)] 3)) t := by
    intro t k
    refine pre353 _ ?_
    show Steps p.tables e below (s₁.setTop (mkF m 12 #[.val (.ref a1), .val (.ref a2), .val (.int (1 : Int32))] [(.int (13 : Int32)), (.int (1 : Int32))])) _
    refine XS.icmpNo X0.here hx rfl (hb hby d6_12) rfl (tlt (by decide : (1 : Int32) < (13 : Int32))).2.1 ?_
    exact k
  have pre356 : ∀ t, Steps p.tables e below (s₁.setTop (mkF m 21 #[.val (.ref a1), .val (.ref a2), .val (.int (1 : Int32))] [(.int (115 : Int32)), (.int (115 : Int32))])) t → Steps p.tables e below (s₁.setTop (entryFrame m #[(.ref a1), (.ref a2)] 3)) t := by
    intro t k
    refine pre355 _ ?_
    show Steps p.tables e below (s₁.setTop (mkF m 15 #[.val (.ref a1), .val (.ref a2), .val (.int (1 : Int32))] [])) _
    refine XS.aloadN X0.here hx rfl (hb hby d6_15) rfl rfl ?_
    show Steps p.tables e below (s₁.setTop (mkF m 16 #[.val (.ref a1), .val (.ref a2), .val (.int (1 : Int32))] [(.ref a1)])) _
    refine XS.iloadN X0.here hx rfl (hb hby d6_16) rfl ?_
    show Steps p.tables e below (s₁.setTop (mkF m 17 #[.val (.ref a1), .val (.ref a2), .val (.int (1 : Int32))] [(.int (1 : Int32)), (.ref a1)])) _
    refine X0.baloadBytes hx (j := (1 : Int32)) (v := (.int (115 : Int32))) (by rw [e0]; exact Ar1.1) (State.isArrayOf_alike hZ.alike Ar1.2.1) Ar1.2.2 (inb_of S1 ⟨by decide, by decide⟩) (Has.at (v := (.int (115 : Int32))) H1 (inb_of S1 ⟨by decide, by decide⟩) rfl) (g := (mkF m 17 #[.val (.ref a1), .val (.ref a2), .val (.int (1 : Int32))] [(.int (1 : Int32)), (.ref a1)])) rfl rfl (hb hby d6_17) _ ?_
    show Steps p.tables e below (s₁.setTop (mkF m 18 #[.val (.ref a1), .val (.ref a2), .val (.int (1 : Int32))] [(.int (115 : Int32))])) _
    refine XS.aloadN X0.here hx rfl (hb hby d6_18) rfl rfl ?_
    show Steps p.tables e below (s₁.setTop (mkF m 19 #[.val (.ref a1), .val (.ref a2), .val (.int (1 : Int32))] [(.ref a2), (.int (115 : Int32))])) _
    refine XS.iloadN X0.here hx rfl (hb hby d6_19) rfl ?_
    show Steps p.tables e below (s₁.setTop (mkF m 20 #[.val (.ref a1), .val (.ref a2), .val (.int (1 : Int32))] [(.int (1 : Int32)), (.ref a2), (.int (115 : Int32))])) _
    refine X0.baloadBytes hx (j := (1 : Int32)) (v := (.int (115 : Int32))) (by rw [e0]; exact Ar2.1) (State.isArrayOf_alike hZ.alike Ar2.2.1) Ar2.2.2 (inb_of S2 ⟨by decide, by decide⟩) (Has.at (v := (.int (115 : Int32))) H2 (inb_of S2 ⟨by decide, by decide⟩) rfl) (g := (mkF m 20 #[.val (.ref a1), .val (.ref a2), .val (.int (1 : Int32))] [(.int (1 : Int32)), (.ref a2), (.int (115 : Int32))])) rfl rfl (hb hby d6_20) _ ?_
    exact k
  have pre358 : ∀ t, Steps p.tables e below (s₁.setTop (mkF m 26 #[.val (.ref a1), .val (.ref a2), .val (.int (1 : Int32))] [])) t → Steps p.tables e below (s₁.setTop (entryFrame m #[(.ref a1), (.ref a2)] 3)) t := by
    intro t k
    refine pre356 _ ?_
    show Steps p.tables e below (s₁.setTop (mkF m 21 #[.val (.ref a1), .val (.ref a2), .val (.int (1 : Int32))] [(.int (115 : Int32)), (.int (115 : Int32))])) _
    refine XS.icmpYes X0.here hx rfl (pc0 := 21) (pc' := 26) rfl (hb hby d6_21) rfl (teq (rfl : (115 : Int32) = (115 : Int32))).1 (by decide) (by decide) ?_
    exact k
  have pre359 : ∀ t, Steps p.tables e below (s₁.setTop (mkF m 12 #[.val (.ref a1), .val (.ref a2), .val (.int (2 : Int32))] [(.int (13 : Int32)), (.int (2 : Int32))])) t → Steps p.tables e below (s₁.setTop (entryFrame m #[(.ref a1), (.ref a2)] 3)) t := by
    intro t k
    refine pre358 _ ?_
    show Steps p.tables e below (s₁.setTop (mkF m 26 #[.val (.ref a1), .val (.ref a2), .val (.int (1 : Int32))] [])) _
    refine XS.iinc X0.here hx rfl (hb hby d6_26) rfl (l' := #[.val (.ref a1), .val (.ref a2), .val (.int (2 : Int32))]) rfl ?_
    show Steps p.tables e below (s₁.setTop (mkF m 29 #[.val (.ref a1), .val (.ref a2), .val (.int (2 : Int32))] [])) _
    refine XS.goto X0.here hx rfl (pc0 := 29) (pc' := 9) rfl (hb hby d6_29) (by decide) (by decide) ?_
    show Steps p.tables e below (s₁.setTop (mkF m 9 #[.val (.ref a1), .val (.ref a2), .val (.int (2 : Int32))] [])) _
    refine XS.iloadN X0.here hx rfl (hb hby d6_9) rfl ?_
    show Steps p.tables e below (s₁.setTop (mkF m 10 #[.val (.ref a1), .val (.ref a2), .val (.int (2 : Int32))] [(.int (2 : Int32))])) _
    refine XS.aloadN X0.here hx rfl (hb hby d6_10) rfl rfl ?_
    show Steps p.tables e below (s₁.setTop (mkF m 11 #[.val (.ref a1), .val (.ref a2), .val (.int (2 : Int32))] [(.ref a1), (.int (2 : Int32))])) _
    refine X0.arraylength hx (by rw [e0]; exact Ar1.1) (State.isArrayOf_alike hZ.alike Ar1.2.1) (g := (mkF m 11 #[.val (.ref a1), .val (.ref a2), .val (.int (2 : Int32))] [(.ref a1), (.int (2 : Int32))])) rfl rfl (hb hby d6_11) _ ?_
    rw [len_of S1 N_1]
    exact k
  have pre361 : ∀ t, Steps p.tables e below (s₁.setTop (mkF m 15 #[.val (.ref a1), .val (.ref a2), .val (.int (2 : Int32))] [])) t → Steps p.tables e below (s₁.setTop (entryFrame m #[(.ref a1), (.ref a2)] 3)) t := by
    intro t k
    refine pre359 _ ?_
    show Steps p.tables e below (s₁.setTop (mkF m 12 #[.val (.ref a1), .val (.ref a2), .val (.int (2 : Int32))] [(.int (13 : Int32)), (.int (2 : Int32))])) _
    refine XS.icmpNo X0.here hx rfl (hb hby d6_12) rfl (tlt (by decide : (2 : Int32) < (13 : Int32))).2.1 ?_
    exact k
  have pre362 : ∀ t, Steps p.tables e below (s₁.setTop (mkF m 21 #[.val (.ref a1), .val (.ref a2), .val (.int (2 : Int32))] [(.int (115 : Int32)), (.int (115 : Int32))])) t → Steps p.tables e below (s₁.setTop (entryFrame m #[(.ref a1), (.ref a2)] 3)) t := by
    intro t k
    refine pre361 _ ?_
    show Steps p.tables e below (s₁.setTop (mkF m 15 #[.val (.ref a1), .val (.ref a2), .val (.int (2 : Int32))] [])) _
    refine XS.aloadN X0.here hx rfl (hb hby d6_15) rfl rfl ?_
    show Steps p.tables e below (s₁.setTop (mkF m 16 #[.val (.ref a1), .val (.ref a2), .val (.int (2 : Int32))] [(.ref a1)])) _
    refine XS.iloadN X0.here hx rfl (hb hby d6_16) rfl ?_
    show Steps p.tables e below (s₁.setTop (mkF m 17 #[.val (.ref a1), .val (.ref a2), .val (.int (2 : Int32))] [(.int (2 : Int32)), (.ref a1)])) _
    refine X0.baloadBytes hx (j := (2 : Int32)) (v := (.int (115 : Int32))) (by rw [e0]; exact Ar1.1) (State.isArrayOf_alike hZ.alike Ar1.2.1) Ar1.2.2 (inb_of S1 ⟨by decide, by decide⟩) (Has.at (v := (.int (115 : Int32))) H1 (inb_of S1 ⟨by decide, by decide⟩) rfl) (g := (mkF m 17 #[.val (.ref a1), .val (.ref a2), .val (.int (2 : Int32))] [(.int (2 : Int32)), (.ref a1)])) rfl rfl (hb hby d6_17) _ ?_
    show Steps p.tables e below (s₁.setTop (mkF m 18 #[.val (.ref a1), .val (.ref a2), .val (.int (2 : Int32))] [(.int (115 : Int32))])) _
    refine XS.aloadN X0.here hx rfl (hb hby d6_18) rfl rfl ?_
    show Steps p.tables e below (s₁.setTop (mkF m 19 #[.val (.ref a1), .val (.ref a2), .val (.int (2 : Int32))] [(.ref a2), (.int (115 : Int32))])) _
    refine XS.iloadN X0.here hx rfl (hb hby d6_19) rfl ?_
    show Steps p.tables e below (s₁.setTop (mkF m 20 #[.val (.ref a1), .val (.ref a2), .val (.int (2 : Int32))] [(.int (2 : Int32)), (.ref a2), (.int (115 : Int32))])) _
    refine X0.baloadBytes hx (j := (2 : Int32)) (v := (.int (115 : Int32))) (by rw [e0]; exact Ar2.1) (State.isArrayOf_alike hZ.alike Ar2.2.1) Ar2.2.2 (inb_of S2 ⟨by decide, by decide⟩) (Has.at (v := (.int (115 : Int32))) H2 (inb_of S2 ⟨by decide, by decide⟩) rfl) (g := (mkF m 20 #[.val (.ref a1), .val (.ref a2), .val (.int (2 : Int32))] [(.int (2 : Int32)), (.ref a2), (.int (115 : Int32))])) rfl rfl (hb hby d6_20) _ ?_
    exact k
  have pre364 : ∀ t, Steps p.tables e below (s₁.setTop (mkF m 26 #[.val (.ref a1), .val (.ref a2), .val (.int (2 : Int32))] [])) t → Steps p.tables e below (s₁.setTop (entryFrame m #[(.ref a1), (.ref a2)] 3)) t := by
    intro t k
    refine pre362 _ ?_
    show Steps p.tables e below (s₁.setTop (mkF m 21 #[.val (.ref a1), .val (.ref a2), .val (.int (2 : Int32))] [(.int (115 : Int32)), (.int (115 : Int32))])) _
    refine XS.icmpYes X0.here hx rfl (pc0 := 21) (pc' := 26) rfl (hb hby d6_21) rfl (teq (rfl : (115 : Int32) = (115 : Int32))).1 (by decide) (by decide) ?_
    exact k
  have pre365 : ∀ t, Steps p.tables e below (s₁.setTop (mkF m 12 #[.val (.ref a1), .val (.ref a2), .val (.int (3 : Int32))] [(.int (13 : Int32)), (.int (3 : Int32))])) t → Steps p.tables e below (s₁.setTop (entryFrame m #[(.ref a1), (.ref a2)] 3)) t := by
    intro t k
    refine pre364 _ ?_
    show Steps p.tables e below (s₁.setTop (mkF m 26 #[.val (.ref a1), .val (.ref a2), .val (.int (2 : Int32))] [])) _
    refine XS.iinc X0.here hx rfl (hb hby d6_26) rfl (l' := #[.val (.ref a1), .val (.ref a2), .val (.int (3 : Int32))]) rfl ?_
    show Steps p.tables e below (s₁.setTop (mkF m 29 #[.val (.ref a1), .val (.ref a2), .val (.int (3 : Int32))] [])) _
    refine XS.goto X0.here hx rfl (pc0 := 29) (pc' := 9) rfl (hb hby d6_29) (by decide) (by decide) ?_
    show Steps p.tables e below (s₁.setTop (mkF m 9 #[.val (.ref a1), .val (.ref a2), .val (.int (3 : Int32))] [])) _
    refine XS.iloadN X0.here hx rfl (hb hby d6_9) rfl ?_
    show Steps p.tables e below (s₁.setTop (mkF m 10 #[.val (.ref a1), .val (.ref a2), .val (.int (3 : Int32))] [(.int (3 : Int32))])) _
    refine XS.aloadN X0.here hx rfl (hb hby d6_10) rfl rfl ?_
    show Steps p.tables e below (s₁.setTop (mkF m 11 #[.val (.ref a1), .val (.ref a2), .val (.int (3 : Int32))] [(.ref a1), (.int (3 : Int32))])) _
    refine X0.arraylength hx (by rw [e0]; exact Ar1.1) (State.isArrayOf_alike hZ.alike Ar1.2.1) (g := (mkF m 11 #[.val (.ref a1), .val (.ref a2), .val (.int (3 : Int32))] [(.ref a1), (.int (3 : Int32))])) rfl rfl (hb hby d6_11) _ ?_
    rw [len_of S1 N_1]
    exact k
  have pre367 : ∀ t, Steps p.tables e below (s₁.setTop (mkF m 15 #[.val (.ref a1), .val (.ref a2), .val (.int (3 : Int32))] [])) t → Steps p.tables e below (s₁.setTop (entryFrame m #[(.ref a1), (.ref a2)] 3)) t := by
    intro t k
    refine pre365 _ ?_
    show Steps p.tables e below (s₁.setTop (mkF m 12 #[.val (.ref a1), .val (.ref a2), .val (.int (3 : Int32))] [(.int (13 : Int32)), (.int (3 : Int32))])) _
    refine XS.icmpNo X0.here hx rfl (hb hby d6_12) rfl (tlt (by decide : (3 : Int32) < (13 : Int32))).2.1 ?_
    exact k
  have pre368 : ∀ t, Steps p.tables e below (s₁.setTop (mkF m 21 #[.val (.ref a1), .val (.ref a2), .val (.int (3 : Int32))] [(.int (117 : Int32)), (.int (117 : Int32))])) t → Steps p.tables e below (s₁.setTop (entryFrame m #[(.ref a1), (.ref a2)] 3)) t := by
    intro t k
    refine pre367 _ ?_
    show Steps p.tables e below (s₁.setTop (mkF m 15 #[.val (.ref a1), .val (.ref a2), .val (.int (3 : Int32))] [])) _
    refine XS.aloadN X0.here hx rfl (hb hby d6_15) rfl rfl ?_
    show Steps p.tables e below (s₁.setTop (mkF m 16 #[.val (.ref a1), .val (.ref a2), .val (.int (3 : Int32))] [(.ref a1)])) _
    refine XS.iloadN X0.here hx rfl (hb hby d6_16) rfl ?_
    show Steps p.tables e below (s₁.setTop (mkF m 17 #[.val (.ref a1), .val (.ref a2), .val (.int (3 : Int32))] [(.int (3 : Int32)), (.ref a1)])) _
    refine X0.baloadBytes hx (j := (3 : Int32)) (v := (.int (117 : Int32))) (by rw [e0]; exact Ar1.1) (State.isArrayOf_alike hZ.alike Ar1.2.1) Ar1.2.2 (inb_of S1 ⟨by decide, by decide⟩) (Has.at (v := (.int (117 : Int32))) H1 (inb_of S1 ⟨by decide, by decide⟩) rfl) (g := (mkF m 17 #[.val (.ref a1), .val (.ref a2), .val (.int (3 : Int32))] [(.int (3 : Int32)), (.ref a1)])) rfl rfl (hb hby d6_17) _ ?_
    show Steps p.tables e below (s₁.setTop (mkF m 18 #[.val (.ref a1), .val (.ref a2), .val (.int (3 : Int32))] [(.int (117 : Int32))])) _
    refine XS.aloadN X0.here hx rfl (hb hby d6_18) rfl rfl ?_
    show Steps p.tables e below (s₁.setTop (mkF m 19 #[.val (.ref a1), .val (.ref a2), .val (.int (3 : Int32))] [(.ref a2), (.int (117 : Int32))])) _
    refine XS.iloadN X0.here hx rfl (hb hby d6_19) rfl ?_
    show Steps p.tables e below (s₁.setTop (mkF m 20 #[.val (.ref a1), .val (.ref a2), .val (.int (3 : Int32))] [(.int (3 : Int32)), (.ref a2), (.int (117 : Int32))])) _
    refine X0.baloadBytes hx (j := (3 : Int32)) (v := (.int (117 : Int32))) (by rw [e0]; exact Ar2.1) (State.isArrayOf_alike hZ.alike Ar2.2.1) Ar2.2.2 (inb_of S2 ⟨by decide, by decide⟩) (Has.at (v := (.int (117 : Int32))) H2 (inb_of S2 ⟨by decide, by decide⟩) rfl) (g := (mkF m 20 #[.val (.ref a1), .val (.ref a2), .val (.int (3 : Int32))] [(.int (3 : Int32)), (.ref a2), (.int (117 : Int32))])) rfl rfl (hb hby d6_20) _ ?_
    exact k
  have pre370 : ∀ t, Steps p.tables e below (s₁.setTop (mkF m 26 #[.val (.ref a1), .val (.ref a2), .val (.int (3 : Int32))] [])) t → Steps p.tables e below (s₁.setTop (entryFrame m #[(.ref a1), (.ref a2)] 3)) t := by
    intro t k
    refine pre368 _ ?_
    show Steps p.tables e below (s₁.setTop (mkF m 21 #[.val (.ref a1), .val (.ref a2), .val (.int (3 : Int32))] [(.int (117 : Int32)), (.int (117 : Int32))])) _
    refine XS.icmpYes X0.here hx rfl (pc0 := 21) (pc' := 26) rfl (hb hby d6_21) rfl (teq (rfl : (117 : Int32) = (117 : Int32))).1 (by decide) (by decide) ?_
    exact k
  have pre371 : ∀ t, Steps p.tables e below (s₁.setTop (mkF m 12 #[.val (.ref a1), .val (.ref a2), .val (.int (4 : Int32))] [(.int (13 : Int32)), (.int (4 : Int32))])) t → Steps p.tables e below (s₁.setTop (entryFrame m #[(.ref a1), (.ref a2)] 3)) t := by
    intro t k
    refine pre370 _ ?_
    show Steps p.tables e below (s₁.setTop (mkF m 26 #[.val (.ref a1), .val (.ref a2), .val (.int (3 : Int32))] [])) _
    refine XS.iinc X0.here hx rfl (hb hby d6_26) rfl (l' := #[.val (.ref a1), .val (.ref a2), .val (.int (4 : Int32))]) rfl ?_
    show Steps p.tables e below (s₁.setTop (mkF m 29 #[.val (.ref a1), .val (.ref a2), .val (.int (4 : Int32))] [])) _
    refine XS.goto X0.here hx rfl (pc0 := 29) (pc' := 9) rfl (hb hby d6_29) (by decide) (by decide) ?_
    show Steps p.tables e below (s₁.setTop (mkF m 9 #[.val (.ref a1), .val (.ref a2), .val (.int (4 : Int32))] [])) _
    refine XS.iloadN X0.here hx rfl (hb hby d6_9) rfl ?_
    show Steps p.tables e below (s₁.setTop (mkF m 10 #[.val (.ref a1), .val (.ref a2), .val (.int (4 : Int32))] [(.int (4 : Int32))])) _
    refine XS.aloadN X0.here hx rfl (hb hby d6_10) rfl rfl ?_
    show Steps p.tables e below (s₁.setTop (mkF m 11 #[.val (.ref a1), .val (.ref a2), .val (.int (4 : Int32))] [(.ref a1), (.int (4 : Int32))])) _
    refine X0.arraylength hx (by rw [e0]; exact Ar1.1) (State.isArrayOf_alike hZ.alike Ar1.2.1) (g := (mkF m 11 #[.val (.ref a1), .val (.ref a2), .val (.int (4 : Int32))] [(.ref a1), (.int (4 : Int32))])) rfl rfl (hb hby d6_11) _ ?_
    rw [len_of S1 N_1]
    exact k
  have pre373 : ∀ t, Steps p.tables e below (s₁.setTop (mkF m 15 #[.val (.ref a1), .val (.ref a2), .val (.int (4 : Int32))] [])) t → Steps p.tables e below (s₁.setTop (entryFrame m #[(.ref a1), (.ref a2)] 3)) t := by
    intro t k
    refine pre371 _ ?_
    show Steps p.tables e below (s₁.setTop (mkF m 12 #[.val (.ref a1), .val (.ref a2), .val (.int (4 : Int32))] [(.int (13 : Int32)), (.int (4 : Int32))])) _
    refine XS.icmpNo X0.here hx rfl (hb hby d6_12) rfl (tlt (by decide : (4 : Int32) < (13 : Int32))).2.1 ?_
    exact k
  have pre374 : ∀ t, Steps p.tables e below (s₁.setTop (mkF m 21 #[.val (.ref a1), .val (.ref a2), .val (.int (4 : Int32))] [(.int (101 : Int32)), (.int (101 : Int32))])) t → Steps p.tables e below (s₁.setTop (entryFrame m #[(.ref a1), (.ref a2)] 3)) t := by
    intro t k
    refine pre373 _ ?_
    show Steps p.tables e below (s₁.setTop (mkF m 15 #[.val (.ref a1), .val (.ref a2), .val (.int (4 : Int32))] [])) _
    refine XS.aloadN X0.here hx rfl (hb hby d6_15) rfl rfl ?_
    show Steps p.tables e below (s₁.setTop (mkF m 16 #[.val (.ref a1), .val (.ref a2), .val (.int (4 : Int32))] [(.ref a1)])) _
    refine XS.iloadN X0.here hx rfl (hb hby d6_16) rfl ?_
    show Steps p.tables e below (s₁.setTop (mkF m 17 #[.val (.ref a1), .val (.ref a2), .val (.int (4 : Int32))] [(.int (4 : Int32)), (.ref a1)])) _
    refine X0.baloadBytes hx (j := (4 : Int32)) (v := (.int (101 : Int32))) (by rw [e0]; exact Ar1.1) (State.isArrayOf_alike hZ.alike Ar1.2.1) Ar1.2.2 (inb_of S1 ⟨by decide, by decide⟩) (Has.at (v := (.int (101 : Int32))) H1 (inb_of S1 ⟨by decide, by decide⟩) rfl) (g := (mkF m 17 #[.val (.ref a1), .val (.ref a2), .val (.int (4 : Int32))] [(.int (4 : Int32)), (.ref a1)])) rfl rfl (hb hby d6_17) _ ?_
    show Steps p.tables e below (s₁.setTop (mkF m 18 #[.val (.ref a1), .val (.ref a2), .val (.int (4 : Int32))] [(.int (101 : Int32))])) _
    refine XS.aloadN X0.here hx rfl (hb hby d6_18) rfl rfl ?_
    show Steps p.tables e below (s₁.setTop (mkF m 19 #[.val (.ref a1), .val (.ref a2), .val (.int (4 : Int32))] [(.ref a2), (.int (101 : Int32))])) _
    refine XS.iloadN X0.here hx rfl (hb hby d6_19) rfl ?_
    show Steps p.tables e below (s₁.setTop (mkF m 20 #[.val (.ref a1), .val (.ref a2), .val (.int (4 : Int32))] [(.int (4 : Int32)), (.ref a2), (.int (101 : Int32))])) _
    refine X0.baloadBytes hx (j := (4 : Int32)) (v := (.int (101 : Int32))) (by rw [e0]; exact Ar2.1) (State.isArrayOf_alike hZ.alike Ar2.2.1) Ar2.2.2 (inb_of S2 ⟨by decide, by decide⟩) (Has.at (v := (.int (101 : Int32))) H2 (inb_of S2 ⟨by decide, by decide⟩) rfl) (g := (mkF m 20 #[.val (.ref a1), .val (.ref a2), .val (.int (4 : Int32))] [(.int (4 : Int32)), (.ref a2), (.int (101 : Int32))])) rfl rfl (hb hby d6_20) _ ?_
    exact k
  have pre376 : ∀ t, Steps p.tables e below (s₁.setTop (mkF m 26 #[.val (.ref a1), .val (.ref a2), .val (.int (4 : Int32))] [])) t → Steps p.tables e below (s₁.setTop (entryFrame m #[(.ref a1), (.ref a2)] 3)) t := by
    intro t k
    refine pre374 _ ?_
    show Steps p.tables e below (s₁.setTop (mkF m 21 #[.val (.ref a1), .val (.ref a2), .val (.int (4 : Int32))] [(.int (101 : Int32)), (.int (101 : Int32))])) _
    refine XS.icmpYes X0.here hx rfl (pc0 := 21) (pc' := 26) rfl (hb hby d6_21) rfl (teq (rfl : (101 : Int32) = (101 : Int32))).1 (by decide) (by decide) ?_
    exact k
  have pre377 : ∀ t, Steps p.tables e below (s₁.setTop (mkF m 12 #[.val (.ref a1), .val (.ref a2), .val (.int (5 : Int32))] [(.int (13 : Int32)), (.int (5 : Int32))])) t → Steps p.tables e below (s₁.setTop (entryFrame m #[(.ref a1), (.ref a2)] 3)) t := by
    intro t k
    refine pre376 _ ?_
    show Steps p.tables e below (s₁.setTop (mkF m 26 #[.val (.ref a1), .val (.ref a2), .val (.int (4 : Int32))] [])) _
    refine XS.iinc X0.here hx rfl (hb hby d6_26) rfl (l' := #[.val (.ref a1), .val (.ref a2), .val (.int (5 : Int32))]) rfl ?_
    show Steps p.tables e below (s₁.setTop (mkF m 29 #[.val (.ref a1), .val (.ref a2), .val (.int (5 : Int32))] [])) _
    refine XS.goto X0.here hx rfl (pc0 := 29) (pc' := 9) rfl (hb hby d6_29) (by decide) (by decide) ?_
    show Steps p.tables e below (s₁.setTop (mkF m 9 #[.val (.ref a1), .val (.ref a2), .val (.int (5 : Int32))] [])) _
    refine XS.iloadN X0.here hx rfl (hb hby d6_9) rfl ?_
    show Steps p.tables e below (s₁.setTop (mkF m 10 #[.val (.ref a1), .val (.ref a2), .val (.int (5 : Int32))] [(.int (5 : Int32))])) _
    refine XS.aloadN X0.here hx rfl (hb hby d6_10) rfl rfl ?_
    show Steps p.tables e below (s₁.setTop (mkF m 11 #[.val (.ref a1), .val (.ref a2), .val (.int (5 : Int32))] [(.ref a1), (.int (5 : Int32))])) _
    refine X0.arraylength hx (by rw [e0]; exact Ar1.1) (State.isArrayOf_alike hZ.alike Ar1.2.1) (g := (mkF m 11 #[.val (.ref a1), .val (.ref a2), .val (.int (5 : Int32))] [(.ref a1), (.int (5 : Int32))])) rfl rfl (hb hby d6_11) _ ?_
    rw [len_of S1 N_1]
    exact k
  have pre379 : ∀ t, Steps p.tables e below (s₁.setTop (mkF m 15 #[.val (.ref a1), .val (.ref a2), .val (.int (5 : Int32))] [])) t → Steps p.tables e below (s₁.setTop (entryFrame m #[(.ref a1), (.ref a2)] 3)) t := by
    intro t k
    refine pre377 _ ?_
    show Steps p.tables e below (s₁.setTop (mkF m 12 #[.val (.ref a1), .val (.ref a2), .val (.int (5 : Int32))] [(.int (13 : Int32)), (.int (5 : Int32))])) _
    refine XS.icmpNo X0.here hx rfl (hb hby d6_12) rfl (tlt (by decide : (5 : Int32) < (13 : Int32))).2.1 ?_
    exact k
  have pre380 : ∀ t, Steps p.tables e below (s₁.setTop (mkF m 21 #[.val (.ref a1), .val (.ref a2), .val (.int (5 : Int32))] [(.int (114 : Int32)), (.int (114 : Int32))])) t → Steps p.tables e below (s₁.setTop (entryFrame m #[(.ref a1), (.ref a2)] 3)) t := by
    intro t k
    refine pre379 _ ?_
    show Steps p.tables e below (s₁.setTop (mkF m 15 #[.val (.ref a1), .val (.ref a2), .val (.int (5 : Int32))] [])) _
    refine XS.aloadN X0.here hx rfl (hb hby d6_15) rfl rfl ?_
    show Steps p.tables e below (s₁.setTop (mkF m 16 #[.val (.ref a1), .val (.ref a2), .val (.int (5 : Int32))] [(.ref a1)])) _
    refine XS.iloadN X0.here hx rfl (hb hby d6_16) rfl ?_
    show Steps p.tables e below (s₁.setTop (mkF m 17 #[.val (.ref a1), .val (.ref a2), .val (.int (5 : Int32))] [(.int (5 : Int32)), (.ref a1)])) _
    refine X0.baloadBytes hx (j := (5 : Int32)) (v := (.int (114 : Int32))) (by rw [e0]; exact Ar1.1) (State.isArrayOf_alike hZ.alike Ar1.2.1) Ar1.2.2 (inb_of S1 ⟨by decide, by decide⟩) (Has.at (v := (.int (114 : Int32))) H1 (inb_of S1 ⟨by decide, by decide⟩) rfl) (g := (mkF m 17 #[.val (.ref a1), .val (.ref a2), .val (.int (5 : Int32))] [(.int (5 : Int32)), (.ref a1)])) rfl rfl (hb hby d6_17) _ ?_
    show Steps p.tables e below (s₁.setTop (mkF m 18 #[.val (.ref a1), .val (.ref a2), .val (.int (5 : Int32))] [(.int (114 : Int32))])) _
    refine XS.aloadN X0.here hx rfl (hb hby d6_18) rfl rfl ?_
    show Steps p.tables e below (s₁.setTop (mkF m 19 #[.val (.ref a1), .val (.ref a2), .val (.int (5 : Int32))] [(.ref a2), (.int (114 : Int32))])) _
    refine XS.iloadN X0.here hx rfl (hb hby d6_19) rfl ?_
    show Steps p.tables e below (s₁.setTop (mkF m 20 #[.val (.ref a1), .val (.ref a2), .val (.int (5 : Int32))] [(.int (5 : Int32)), (.ref a2), (.int (114 : Int32))])) _
    refine X0.baloadBytes hx (j := (5 : Int32)) (v := (.int (114 : Int32))) (by rw [e0]; exact Ar2.1) (State.isArrayOf_alike hZ.alike Ar2.2.1) Ar2.2.2 (inb_of S2 ⟨by decide, by decide⟩) (Has.at (v := (.int (114 : Int32))) H2 (inb_of S2 ⟨by decide, by decide⟩) rfl) (g := (mkF m 20 #[.val (.ref a1), .val (.ref a2), .val (.int (5 : Int32))] [(.int (5 : Int32)), (.ref a2), (.int (114 : Int32))])) rfl rfl (hb hby d6_20) _ ?_
    exact k
  have pre382 : ∀ t, Steps p.tables e below (s₁.setTop (mkF m 26 #[.val (.ref a1), .val (.ref a2), .val (.int (5 : Int32))] [])) t → Steps p.tables e below (s₁.setTop (entryFrame m #[(.ref a1), (.ref a2)] 3)) t := by
    intro t k
    refine pre380 _ ?_
    show Steps p.tables e below (s₁.setTop (mkF m 21 #[.val (.ref a1), .val (.ref a2), .val (.int (5 : Int32))] [(.int (114 : Int32)), (.int (114 : Int32))])) _
    refine XS.icmpYes X0.here hx rfl (pc0 := 21) (pc' := 26) rfl (hb hby d6_21) rfl (teq (rfl : (114 : Int32) = (114 : Int32))).1 (by decide) (by decide) ?_
    exact k
  have pre383 : ∀ t, Steps p.tables e below (s₁.setTop (mkF m 12 #[.val (.ref a1), .val (.ref a2), .val (.int (6 : Int32))] [(.int (13 : Int32)), (.int (6 : Int32))])) t → Steps p.tables e below (s₁.setTop (entryFrame m #[(.ref a1), (.ref a2)] 3)) t := by
    intro t k
    refine pre382 _ ?_
    show Steps p.tables e below (s₁.setTop (mkF m 26 #[.val (.ref a1), .val (.ref a2), .val (.int (5 : Int32))] [])) _
    refine XS.iinc X0.here hx rfl (hb hby d6_26) rfl (l' := #[.val (.ref a1), .val (.ref a2), .val (.int (6 : Int32))]) rfl ?_
    show Steps p.tables e below (s₁.setTop (mkF m 29 #[.val (.ref a1), .val (.ref a2), .val (.int (6 : Int32))] [])) _
    refine XS.goto X0.here hx rfl (pc0 := 29) (pc' := 9) rfl (hb hby d6_29) (by decide) (by decide) ?_
    show Steps p.tables e below (s₁.setTop (mkF m 9 #[.val (.ref a1), .val (.ref a2), .val (.int (6 : Int32))] [])) _
    refine XS.iloadN X0.here hx rfl (hb hby d6_9) rfl ?_
    show Steps p.tables e below (s₁.setTop (mkF m 10 #[.val (.ref a1), .val (.ref a2), .val (.int (6 : Int32))] [(.int (6 : Int32))])) _
    refine XS.aloadN X0.here hx rfl (hb hby d6_10) rfl rfl ?_
    show Steps p.tables e below (s₁.setTop (mkF m 11 #[.val (.ref a1), .val (.ref a2), .val (.int (6 : Int32))] [(.ref a1), (.int (6 : Int32))])) _
    refine X0.arraylength hx (by rw [e0]; exact Ar1.1) (State.isArrayOf_alike hZ.alike Ar1.2.1) (g := (mkF m 11 #[.val (.ref a1), .val (.ref a2), .val (.int (6 : Int32))] [(.ref a1), (.int (6 : Int32))])) rfl rfl (hb hby d6_11) _ ?_
    rw [len_of S1 N_1]
    exact k
  have pre385 : ∀ t, Steps p.tables e below (s₁.setTop (mkF m 15 #[.val (.ref a1), .val (.ref a2), .val (.int (6 : Int32))] [])) t → Steps p.tables e below (s₁.setTop (entryFrame m #[(.ref a1), (.ref a2)] 3)) t := by
    intro t k
    refine pre383 _ ?_
    show Steps p.tables e below (s₁.setTop (mkF m 12 #[.val (.ref a1), .val (.ref a2), .val (.int (6 : Int32))] [(.int (13 : Int32)), (.int (6 : Int32))])) _
    refine XS.icmpNo X0.here hx rfl (hb hby d6_12) rfl (tlt (by decide : (6 : Int32) < (13 : Int32))).2.1 ?_
    exact k
  have pre386 : ∀ t, Steps p.tables e below (s₁.setTop (mkF m 21 #[.val (.ref a1), .val (.ref a2), .val (.int (6 : Int32))] [(.int (45 : Int32)), (.int (45 : Int32))])) t → Steps p.tables e below (s₁.setTop (entryFrame m #[(.ref a1), (.ref a2)] 3)) t := by
    intro t k
    refine pre385 _ ?_
    show Steps p.tables e below (s₁.setTop (mkF m 15 #[.val (.ref a1), .val (.ref a2), .val (.int (6 : Int32))] [])) _
    refine XS.aloadN X0.here hx rfl (hb hby d6_15) rfl rfl ?_
    show Steps p.tables e below (s₁.setTop (mkF m 16 #[.val (.ref a1), .val (.ref a2), .val (.int (6 : Int32))] [(.ref a1)])) _
    refine XS.iloadN X0.here hx rfl (hb hby d6_16) rfl ?_
    show Steps p.tables e below (s₁.setTop (mkF m 17 #[.val (.ref a1), .val (.ref a2), .val (.int (6 : Int32))] [(.int (6 : Int32)), (.ref a1)])) _
    refine X0.baloadBytes hx (j := (6 : Int32)) (v := (.int (45 : Int32))) (by rw [e0]; exact Ar1.1) (State.isArrayOf_alike hZ.alike Ar1.2.1) Ar1.2.2 (inb_of S1 ⟨by decide, by decide⟩) (Has.at (v := (.int (45 : Int32))) H1 (inb_of S1 ⟨by decide, by decide⟩) rfl) (g := (mkF m 17 #[.val (.ref a1), .val (.ref a2), .val (.int (6 : Int32))] [(.int (6 : Int32)), (.ref a1)])) rfl rfl (hb hby d6_17) _ ?_
    show Steps p.tables e below (s₁.setTop (mkF m 18 #[.val (.ref a1), .val (.ref a2), .val (.int (6 : Int32))] [(.int (45 : Int32))])) _
    refine XS.aloadN X0.here hx rfl (hb hby d6_18) rfl rfl ?_
    show Steps p.tables e below (s₁.setTop (mkF m 19 #[.val (.ref a1), .val (.ref a2), .val (.int (6 : Int32))] [(.ref a2), (.int (45 : Int32))])) _
    refine XS.iloadN X0.here hx rfl (hb hby d6_19) rfl ?_
    show Steps p.tables e below (s₁.setTop (mkF m 20 #[.val (.ref a1), .val (.ref a2), .val (.int (6 : Int32))] [(.int (6 : Int32)), (.ref a2), (.int (45 : Int32))])) _
    refine X0.baloadBytes hx (j := (6 : Int32)) (v := (.int (45 : Int32))) (by rw [e0]; exact Ar2.1) (State.isArrayOf_alike hZ.alike Ar2.2.1) Ar2.2.2 (inb_of S2 ⟨by decide, by decide⟩) (Has.at (v := (.int (45 : Int32))) H2 (inb_of S2 ⟨by decide, by decide⟩) rfl) (g := (mkF m 20 #[.val (.ref a1), .val (.ref a2), .val (.int (6 : Int32))] [(.int (6 : Int32)), (.ref a2), (.int (45 : Int32))])) rfl rfl (hb hby d6_20) _ ?_
    exact k
  have pre388 : ∀ t, Steps p.tables e below (s₁.setTop (mkF m 26 #[.val (.ref a1), .val (.ref a2), .val (.int (6 : Int32))] [])) t → Steps p.tables e below (s₁.setTop (entryFrame m #[(.ref a1), (.ref a2)] 3)) t := by
    intro t k
    refine pre386 _ ?_
    show Steps p.tables e below (s₁.setTop (mkF m 21 #[.val (.ref a1), .val (.ref a2), .val (.int (6 : Int32))] [(.int (45 : Int32)), (.int (45 : Int32))])) _
    refine XS.icmpYes X0.here hx rfl (pc0 := 21) (pc' := 26) rfl (hb hby d6_21) rfl (teq (rfl : (45 : Int32) = (45 : Int32))).1 (by decide) (by decide) ?_
    exact k
  have pre389 : ∀ t, Steps p.tables e below (s₁.setTop (mkF m 12 #[.val (.ref a1), .val (.ref a2), .val (.int (7 : Int32))] [(.int (13 : Int32)), (.int (7 : Int32))])) t → Steps p.tables e below (s₁.setTop (entryFrame m #[(.ref a1), (.ref a2)] 3)) t := by
    intro t k
    refine pre388 _ ?_
    show Steps p.tables e below (s₁.setTop (mkF m 26 #[.val (.ref a1), .val (.ref a2), .val (.int (6 : Int32))] [])) _
    refine XS.iinc X0.here hx rfl (hb hby d6_26) rfl (l' := #[.val (.ref a1), .val (.ref a2), .val (.int (7 : Int32))]) rfl ?_
    show Steps p.tables e below (s₁.setTop (mkF m 29 #[.val (.ref a1), .val (.ref a2), .val (.int (7 : Int32))] [])) _
    refine XS.goto X0.here hx rfl (pc0 := 29) (pc' := 9) rfl (hb hby d6_29) (by decide) (by decide) ?_
    show Steps p.tables e below (s₁.setTop (mkF m 9 #[.val (.ref a1), .val (.ref a2), .val (.int (7 : Int32))] [])) _
    refine XS.iloadN X0.here hx rfl (hb hby d6_9) rfl ?_
    show Steps p.tables e below (s₁.setTop (mkF m 10 #[.val (.ref a1), .val (.ref a2), .val (.int (7 : Int32))] [(.int (7 : Int32))])) _
    refine XS.aloadN X0.here hx rfl (hb hby d6_10) rfl rfl ?_
    show Steps p.tables e below (s₁.setTop (mkF m 11 #[.val (.ref a1), .val (.ref a2), .val (.int (7 : Int32))] [(.ref a1), (.int (7 : Int32))])) _
    refine X0.arraylength hx (by rw [e0]; exact Ar1.1) (State.isArrayOf_alike hZ.alike Ar1.2.1) (g := (mkF m 11 #[.val (.ref a1), .val (.ref a2), .val (.int (7 : Int32))] [(.ref a1), (.int (7 : Int32))])) rfl rfl (hb hby d6_11) _ ?_
    rw [len_of S1 N_1]
    exact k
  have pre391 : ∀ t, Steps p.tables e below (s₁.setTop (mkF m 15 #[.val (.ref a1), .val (.ref a2), .val (.int (7 : Int32))] [])) t → Steps p.tables e below (s₁.setTop (entryFrame m #[(.ref a1), (.ref a2)] 3)) t := by
    intro t k
    refine pre389 _ ?_
    show Steps p.tables e below (s₁.setTop (mkF m 12 #[.val (.ref a1), .val (.ref a2), .val (.int (7 : Int32))] [(.int (13 : Int32)), (.int (7 : Int32))])) _
    refine XS.icmpNo X0.here hx rfl (hb hby d6_12) rfl (tlt (by decide : (7 : Int32) < (13 : Int32))).2.1 ?_
    exact k
  have pre392 : ∀ t, Steps p.tables e below (s₁.setTop (mkF m 21 #[.val (.ref a1), .val (.ref a2), .val (.int (7 : Int32))] [(.int (101 : Int32)), (.int (101 : Int32))])) t → Steps p.tables e below (s₁.setTop (entryFrame m #[(.ref a1), (.ref a2)] 3)) t := by
    intro t k
    refine pre391 _ ?_
    show Steps p.tables e below (s₁.setTop (mkF m 15 #[.val (.ref a1), .val (.ref a2), .val (.int (7 : Int32))] [])) _
    refine XS.aloadN X0.here hx rfl (hb hby d6_15) rfl rfl ?_
    show Steps p.tables e below (s₁.setTop (mkF m 16 #[.val (.ref a1), .val (.ref a2), .val (.int (7 : Int32))] [(.ref a1)])) _
    refine XS.iloadN X0.here hx rfl (hb hby d6_16) rfl ?_
    show Steps p.tables e below (s₁.setTop (mkF m 17 #[.val (.ref a1), .val (.ref a2), .val (.int (7 : Int32))] [(.int (7 : Int32)), (.ref a1)])) _
    refine X0.baloadBytes hx (j := (7 : Int32)) (v := (.int (101 : Int32))) (by rw [e0]; exact Ar1.1) (State.isArrayOf_alike hZ.alike Ar1.2.1) Ar1.2.2 (inb_of S1 ⟨by decide, by decide⟩) (Has.at (v := (.int (101 : Int32))) H1 (inb_of S1 ⟨by decide, by decide⟩) rfl) (g := (mkF m 17 #[.val (.ref a1), .val (.ref a2), .val (.int (7 : Int32))] [(.int (7 : Int32)), (.ref a1)])) rfl rfl (hb hby d6_17) _ ?_
    show Steps p.tables e below (s₁.setTop (mkF m 18 #[.val (.ref a1), .val (.ref a2), .val (.int (7 : Int32))] [(.int (101 : Int32))])) _
    refine XS.aloadN X0.here hx rfl (hb hby d6_18) rfl rfl ?_
    show Steps p.tables e below (s₁.setTop (mkF m 19 #[.val (.ref a1), .val (.ref a2), .val (.int (7 : Int32))] [(.ref a2), (.int (101 : Int32))])) _
    refine XS.iloadN X0.here hx rfl (hb hby d6_19) rfl ?_
    show Steps p.tables e below (s₁.setTop (mkF m 20 #[.val (.ref a1), .val (.ref a2), .val (.int (7 : Int32))] [(.int (7 : Int32)), (.ref a2), (.int (101 : Int32))])) _
    refine X0.baloadBytes hx (j := (7 : Int32)) (v := (.int (101 : Int32))) (by rw [e0]; exact Ar2.1) (State.isArrayOf_alike hZ.alike Ar2.2.1) Ar2.2.2 (inb_of S2 ⟨by decide, by decide⟩) (Has.at (v := (.int (101 : Int32))) H2 (inb_of S2 ⟨by decide, by decide⟩) rfl) (g := (mkF m 20 #[.val (.ref a1), .val (.ref a2), .val (.int (7 : Int32))] [(.int (7 : Int32)), (.ref a2), (.int (101 : Int32))])) rfl rfl (hb hby d6_20) _ ?_
    exact k
  have pre394 : ∀ t, Steps p.tables e below (s₁.setTop (mkF m 26 #[.val (.ref a1), .val (.ref a2), .val (.int (7 : Int32))] [])) t → Steps p.tables e below (s₁.setTop (entryFrame m #[(.ref a1), (.ref a2)] 3)) t := by
    intro t k
    refine pre392 _ ?_
    show Steps p.tables e below (s₁.setTop (mkF m 21 #[.val (.ref a1), .val (.ref a2), .val (.int (7 : Int32))] [(.int (101 : Int32)), (.int (101 : Int32))])) _
    refine XS.icmpYes X0.here hx rfl (pc0 := 21) (pc' := 26) rfl (hb hby d6_21) rfl (teq (rfl : (101 : Int32) = (101 : Int32))).1 (by decide) (by decide) ?_
    exact k
  have pre395 : ∀ t, Steps p.tables e below (s₁.setTop (mkF m 12 #[.val (.ref a1), .val (.ref a2), .val (.int (8 : Int32))] [(.int (13 : Int32)), (.int (8 : Int32))])) t → Steps p.tables e below (s₁.setTop (entryFrame m #[(.ref a1), (.ref a2)] 3)) t := by
    intro t k
    refine pre394 _ ?_
    show Steps p.tables e below (s₁.setTop (mkF m 26 #[.val (.ref a1), .val (.ref a2), .val (.int (7 : Int32))] [])) _
    refine XS.iinc X0.here hx rfl (hb hby d6_26) rfl (l' := #[.val (.ref a1), .val (.ref a2), .val (.int (8 : Int32))]) rfl ?_
    show Steps p.tables e below (s₁.setTop (mkF m 29 #[.val (.ref a1), .val (.ref a2), .val (.int (8 : Int32))] [])) _
    refine XS.goto X0.here hx rfl (pc0 := 29) (pc' := 9) rfl (hb hby d6_29) (by decide) (by decide) ?_
    show Steps p.tables e below (s₁.setTop (mkF m 9 #[.val (.ref a1), .val (.ref a2), .val (.int (8 : Int32))] [])) _
    refine XS.iloadN X0.here hx rfl (hb hby d6_9) rfl ?_
    show Steps p.tables e below (s₁.setTop (mkF m 10 #[.val (.ref a1), .val (.ref a2), .val (.int (8 : Int32))] [(.int (8 : Int32))])) _
    refine XS.aloadN X0.here hx rfl (hb hby d6_10) rfl rfl ?_
    show Steps p.tables e below (s₁.setTop (mkF m 11 #[.val (.ref a1), .val (.ref a2), .val (.int (8 : Int32))] [(.ref a1), (.int (8 : Int32))])) _
    refine X0.arraylength hx (by rw [e0]; exact Ar1.1) (State.isArrayOf_alike hZ.alike Ar1.2.1) (g := (mkF m 11 #[.val (.ref a1), .val (.ref a2), .val (.int (8 : Int32))] [(.ref a1), (.int (8 : Int32))])) rfl rfl (hb hby d6_11) _ ?_
    rw [len_of S1 N_1]
    exact k
  have pre397 : ∀ t, Steps p.tables e below (s₁.setTop (mkF m 15 #[.val (.ref a1), .val (.ref a2), .val (.int (8 : Int32))] [])) t → Steps p.tables e below (s₁.setTop (entryFrame m #[(.ref a1), (.ref a2)] 3)) t := by
    intro t k
    refine pre395 _ ?_
    show Steps p.tables e below (s₁.setTop (mkF m 12 #[.val (.ref a1), .val (.ref a2), .val (.int (8 : Int32))] [(.int (13 : Int32)), (.int (8 : Int32))])) _
    refine XS.icmpNo X0.here hx rfl (hb hby d6_12) rfl (tlt (by decide : (8 : Int32) < (13 : Int32))).2.1 ?_
    exact k
  have pre398 : ∀ t, Steps p.tables e below (s₁.setTop (mkF m 21 #[.val (.ref a1), .val (.ref a2), .val (.int (8 : Int32))] [(.int (108 : Int32)), (.int (108 : Int32))])) t → Steps p.tables e below (s₁.setTop (entryFrame m #[(.ref a1), (.ref a2)] 3)) t := by
    intro t k
    refine pre397 _ ?_
    show Steps p.tables e below (s₁.setTop (mkF m 15 #[.val (.ref a1), .val (.ref a2), .val (.int (8 : Int32))] [])) _
    refine XS.aloadN X0.here hx rfl (hb hby d6_15) rfl rfl ?_
    show Steps p.tables e below (s₁.setTop (mkF m 16 #[.val (.ref a1), .val (.ref a2), .val (.int (8 : Int32))] [(.ref a1)])) _
    refine XS.iloadN X0.here hx rfl (hb hby d6_16) rfl ?_
    show Steps p.tables e below (s₁.setTop (mkF m 17 #[.val (.ref a1), .val (.ref a2), .val (.int (8 : Int32))] [(.int (8 : Int32)), (.ref a1)])) _
    refine X0.baloadBytes hx (j := (8 : Int32)) (v := (.int (108 : Int32))) (by rw [e0]; exact Ar1.1) (State.isArrayOf_alike hZ.alike Ar1.2.1) Ar1.2.2 (inb_of S1 ⟨by decide, by decide⟩) (Has.at (v := (.int (108 : Int32))) H1 (inb_of S1 ⟨by decide, by decide⟩) rfl) (g := (mkF m 17 #[.val (.ref a1), .val (.ref a2), .val (.int (8 : Int32))] [(.int (8 : Int32)), (.ref a1)])) rfl rfl (hb hby d6_17) _ ?_
    show Steps p.tables e below (s₁.setTop (mkF m 18 #[.val (.ref a1), .val (.ref a2), .val (.int (8 : Int32))] [(.int (108 : Int32))])) _
    refine XS.aloadN X0.here hx rfl (hb hby d6_18) rfl rfl ?_
    show Steps p.tables e below (s₁.setTop (mkF m 19 #[.val (.ref a1), .val (.ref a2), .val (.int (8 : Int32))] [(.ref a2), (.int (108 : Int32))])) _
    refine XS.iloadN X0.here hx rfl (hb hby d6_19) rfl ?_
    show Steps p.tables e below (s₁.setTop (mkF m 20 #[.val (.ref a1), .val (.ref a2), .val (.int (8 : Int32))] [(.int (8 : Int32)), (.ref a2), (.int (108 : Int32))])) _
    refine X0.baloadBytes hx (j := (8 : Int32)) (v := (.int (108 : Int32))) (by rw [e0]; exact Ar2.1) (State.isArrayOf_alike hZ.alike Ar2.2.1) Ar2.2.2 (inb_of S2 ⟨by decide, by decide⟩) (Has.at (v := (.int (108 : Int32))) H2 (inb_of S2 ⟨by decide, by decide⟩) rfl) (g := (mkF m 20 #[.val (.ref a1), .val (.ref a2), .val (.int (8 : Int32))] [(.int (8 : Int32)), (.ref a2), (.int (108 : Int32))])) rfl rfl (hb hby d6_20) _ ?_
    exact k
  have pre400 : ∀ t, Steps p.tables e below (s₁.setTop (mkF m 26 #[.val (.ref a1), .val (.ref a2), .val (.int (8 : Int32))] [])) t → Steps p.tables e below (s₁.setTop (entryFrame m #[(.ref a1), (.ref a2)] 3)) t := by
    intro t k
    refine pre398 _ ?_
    show Steps p.tables e below (s₁.setTop (mkF m 21 #[.val (.ref a1), .val (.ref a2), .val (.int (8 : Int32))] [(.int (108 : Int32)), (.int (108 : Int32))])) _
    refine XS.icmpYes X0.here hx rfl (pc0 := 21) (pc' := 26) rfl (hb hby d6_21) rfl (teq (rfl : (108 : Int32) = (108 : Int32))).1 (by decide) (by decide) ?_
    exact k
  have pre401 : ∀ t, Steps p.tables e below (s₁.setTop (mkF m 12 #[.val (.ref a1), .val (.ref a2), .val (.int (9 : Int32))] [(.int (13 : Int32)), (.int (9 : Int32))])) t → Steps p.tables e below (s₁.setTop (entryFrame m #[(.ref a1), (.ref a2)] 3)) t := by
    intro t k
    refine pre400 _ ?_
    show Steps p.tables e below (s₁.setTop (mkF m 26 #[.val (.ref a1), .val (.ref a2), .val (.int (8 : Int32))] [])) _
    refine XS.iinc X0.here hx rfl (hb hby d6_26) rfl (l' := #[.val (.ref a1), .val (.ref a2), .val (.int (9 : Int32))]) rfl ?_
    show Steps p.tables e below (s₁.setTop (mkF m 29 #[.val (.ref a1), .val (.ref a2), .val (.int (9 : Int32))] [])) _
    refine XS.goto X0.here hx rfl (pc0 := 29) (pc' := 9) rfl (hb hby d6_29) (by decide) (by decide) ?_
    show Steps p.tables e below (s₁.setTop (mkF m 9 #[.val (.ref a1), .val (.ref a2), .val (.int (9 : Int32))] [])) _
    refine XS.iloadN X0.here hx rfl (hb hby d6_9) rfl ?_
    show Steps p.tables e below (s₁.setTop (mkF m 10 #[.val (.ref a1), .val (.ref a2), .val (.int (9 : Int32))] [(.int (9 : Int32))])) _
    refine XS.aloadN X0.here hx rfl (hb hby d6_10) rfl rfl ?_
    show Steps p.tables e below (s₁.setTop (mkF m 11 #[.val (.ref a1), .val (.ref a2), .val (.int (9 : Int32))] [(.ref a1), (.int (9 : Int32))])) _
    refine X0.arraylength hx (by rw [e0]; exact Ar1.1) (State.isArrayOf_alike hZ.alike Ar1.2.1) (g := (mkF m 11 #[.val (.ref a1), .val (.ref a2), .val (.int (9 : Int32))] [(.ref a1), (.int (9 : Int32))])) rfl rfl (hb hby d6_11) _ ?_
    rw [len_of S1 N_1]
    exact k
  have pre403 : ∀ t, Steps p.tables e below (s₁.setTop (mkF m 15 #[.val (.ref a1), .val (.ref a2), .val (.int (9 : Int32))] [])) t → Steps p.tables e below (s₁.setTop (entryFrame m #[(.ref a1), (.ref a2)] 3)) t := by
    intro t k
    refine pre401 _ ?_
    show Steps p.tables e below (s₁.setTop (mkF m 12 #[.val (.ref a1), .val (.ref a2), .val (.int (9 : Int32))] [(.int (13 : Int32)), (.int (9 : Int32))])) _
    refine XS.icmpNo X0.here hx rfl (hb hby d6_12) rfl (tlt (by decide : (9 : Int32) < (13 : Int32))).2.1 ?_
    exact k
  have pre404 : ∀ t, Steps p.tables e below (s₁.setTop (mkF m 21 #[.val (.ref a1), .val (.ref a2), .val (.int (9 : Int32))] [(.int (101 : Int32)), (.int (101 : Int32))])) t → Steps p.tables e below (s₁.setTop (entryFrame m #[(.ref a1), (.ref a2)] 3)) t := by
    intro t k
    refine pre403 _ ?_
    show Steps p.tables e below (s₁.setTop (mkF m 15 #[.val (.ref a1), .val (.ref a2), .val (.int (9 : Int32))] [])) _
    refine XS.aloadN X0.here hx rfl (hb hby d6_15) rfl rfl ?_
    show Steps p.tables e below (s₁.setTop (mkF m 16 #[.val (.ref a1), .val (.ref a2), .val (.int (9 : Int32))] [(.ref a1)])) _
    refine XS.iloadN X0.here hx rfl (hb hby d6_16) rfl ?_
    show Steps p.tables e below (s₁.setTop (mkF m 17 #[.val (.ref a1), .val (.ref a2), .val (.int (9 : Int32))] [(.int (9 : Int32)), (.ref a1)])) _
    refine X0.baloadBytes hx (j := (9 : Int32)) (v := (.int (101 : Int32))) (by rw [e0]; exact Ar1.1) (State.isArrayOf_alike hZ.alike Ar1.2.1) Ar1.2.2 (inb_of S1 ⟨by decide, by decide⟩) (Has.at (v := (.int (101 : Int32))) H1 (inb_of S1 ⟨by decide, by decide⟩) rfl) (g := (mkF m 17 #[.val (.ref a1), .val (.ref a2), .val (.int (9 : Int32))] [(.int (9 : Int32)), (.ref a1)])) rfl rfl (hb hby d6_17) _ ?_
    show Steps p.tables e below (s₁.setTop (mkF m 18 #[.val (.ref a1), .val (.ref a2), .val (.int (9 : Int32))] [(.int (101 : Int32))])) _
    refine XS.aloadN X0.here hx rfl (hb hby d6_18) rfl rfl ?_
    show Steps p.tables e below (s₁.setTop (mkF m 19 #[.val (.ref a1), .val (.ref a2), .val (.int (9 : Int32))] [(.ref a2), (.int (101 : Int32))])) _
    refine XS.iloadN X0.here hx rfl (hb hby d6_19) rfl ?_
    show Steps p.tables e below (s₁.setTop (mkF m 20 #[.val (.ref a1), .val (.ref a2), .val (.int (9 : Int32))] [(.int (9 : Int32)), (.ref a2), (.int (101 : Int32))])) _
    refine X0.baloadBytes hx (j := (9 : Int32)) (v := (.int (101 : Int32))) (by rw [e0]; exact Ar2.1) (State.isArrayOf_alike hZ.alike Ar2.2.1) Ar2.2.2 (inb_of S2 ⟨by decide, by decide⟩) (Has.at (v := (.int (101 : Int32))) H2 (inb_of S2 ⟨by decide, by decide⟩) rfl) (g := (mkF m 20 #[.val (.ref a1), .val (.ref a2), .val (.int (9 : Int32))] [(.int (9 : Int32)), (.ref a2), (.int (101 : Int32))])) rfl rfl (hb hby d6_20) _ ?_
    exact k
  have pre406 : ∀ t, Steps p.tables e below (s₁.setTop (mkF m 26 #[.val (.ref a1), .val (.ref a2), .val (.int (9 : Int32))] [])) t → Steps p.tables e below (s₁.setTop (entryFrame m #[(.ref a1), (.ref a2)] 3)) t := by
    intro t k
    refine pre404 _ ?_
    show Steps p.tables e below (s₁.setTop (mkF m 21 #[.val (.ref a1), .val (.ref a2), .val (.int (9 : Int32))] [(.int (101 : Int32)), (.int (101 : Int32))])) _
    refine XS.icmpYes X0.here hx rfl (pc0 := 21) (pc' := 26) rfl (hb hby d6_21) rfl (teq (rfl : (101 : Int32) = (101 : Int32))).1 (by decide) (by decide) ?_
    exact k
  have pre407 : ∀ t, Steps p.tables e below (s₁.setTop (mkF m 12 #[.val (.ref a1), .val (.ref a2), .val (.int (10 : Int32))] [(.int (13 : Int32)), (.int (10 : Int32))])) t → Steps p.tables e below (s₁.setTop (entryFrame m #[(.ref a1), (.ref a2)] 3)) t := by
    intro t k
    refine pre406 _ ?_
    show Steps p.tables e below (s₁.setTop (mkF m 26 #[.val (.ref a1), .val (.ref a2), .val (.int (9 : Int32))] [])) _
    refine XS.iinc X0.here hx rfl (hb hby d6_26) rfl (l' := #[.val (.ref a1), .val (.ref a2), .val (.int (10 : Int32))]) rfl ?_
    show Steps p.tables e below (s₁.setTop (mkF m 29 #[.val (.ref a1), .val (.ref a2), .val (.int (10 : Int32))] [])) _
    refine XS.goto X0.here hx rfl (pc0 := 29) (pc' := 9) rfl (hb hby d6_29) (by decide) (by decide) ?_
    show Steps p.tables e below (s₁.setTop (mkF m 9 #[.val (.ref a1), .val (.ref a2), .val (.int (10 : Int32))] [])) _
    refine XS.iloadN X0.here hx rfl (hb hby d6_9) rfl ?_
    show Steps p.tables e below (s₁.setTop (mkF m 10 #[.val (.ref a1), .val (.ref a2), .val (.int (10 : Int32))] [(.int (10 : Int32))])) _
    refine XS.aloadN X0.here hx rfl (hb hby d6_10) rfl rfl ?_
    show Steps p.tables e below (s₁.setTop (mkF m 11 #[.val (.ref a1), .val (.ref a2), .val (.int (10 : Int32))] [(.ref a1), (.int (10 : Int32))])) _
    refine X0.arraylength hx (by rw [e0]; exact Ar1.1) (State.isArrayOf_alike hZ.alike Ar1.2.1) (g := (mkF m 11 #[.val (.ref a1), .val (.ref a2), .val (.int (10 : Int32))] [(.ref a1), (.int (10 : Int32))])) rfl rfl (hb hby d6_11) _ ?_
    rw [len_of S1 N_1]
    exact k
  have pre409 : ∀ t, Steps p.tables e below (s₁.setTop (mkF m 15 #[.val (.ref a1), .val (.ref a2), .val (.int (10 : Int32))] [])) t → Steps p.tables e below (s₁.setTop (entryFrame m #[(.ref a1), (.ref a2)] 3)) t := by
    intro t k
    refine pre407 _ ?_
    show Steps p.tables e below (s₁.setTop (mkF m 12 #[.val (.ref a1), .val (.ref a2), .val (.int (10 : Int32))] [(.int (13 : Int32)), (.int (10 : Int32))])) _
    refine XS.icmpNo X0.here hx rfl (hb hby d6_12) rfl (tlt (by decide : (10 : Int32) < (13 : Int32))).2.1 ?_
    exact k
  have pre410 : ∀ t, Steps p.tables e below (s₁.setTop (mkF m 21 #[.val (.ref a1), .val (.ref a2), .val (.int (10 : Int32))] [(.int (99 : Int32)), (.int (99 : Int32))])) t → Steps p.tables e below (s₁.setTop (entryFrame m #[(.ref a1), (.ref a2)] 3)) t := by
    intro t k
    refine pre409 _ ?_
    show Steps p.tables e below (s₁.setTop (mkF m 15 #[.val (.ref a1), .val (.ref a2), .val (.int (10 : Int32))] [])) _
    refine XS.aloadN X0.here hx rfl (hb hby d6_15) rfl rfl ?_
    show Steps p.tables e below (s₁.setTop (mkF m 16 #[.val (.ref a1), .val (.ref a2), .val (.int (10 : Int32))] [(.ref a1)])) _
    refine XS.iloadN X0.here hx rfl (hb hby d6_16) rfl ?_
    show Steps p.tables e below (s₁.setTop (mkF m 17 #[.val (.ref a1), .val (.ref a2), .val (.int (10 : Int32))] [(.int (10 : Int32)), (.ref a1)])) _
    refine X0.baloadBytes hx (j := (10 : Int32)) (v := (.int (99 : Int32))) (by rw [e0]; exact Ar1.1) (State.isArrayOf_alike hZ.alike Ar1.2.1) Ar1.2.2 (inb_of S1 ⟨by decide, by decide⟩) (Has.at (v := (.int (99 : Int32))) H1 (inb_of S1 ⟨by decide, by decide⟩) rfl) (g := (mkF m 17 #[.val (.ref a1), .val (.ref a2), .val (.int (10 : Int32))] [(.int (10 : Int32)), (.ref a1)])) rfl rfl (hb hby d6_17) _ ?_
    show Steps p.tables e below (s₁.setTop (mkF m 18 #[.val (.ref a1), .val (.ref a2), .val (.int (10 : Int32))] [(.int (99 : Int32))])) _
    refine XS.aloadN X0.here hx rfl (hb hby d6_18) rfl rfl ?_
    show Steps p.tables e below (s₁.setTop (mkF m 19 #[.val (.ref a1), .val (.ref a2), .val (.int (10 : Int32))] [(.ref a2), (.int (99 : Int32))])) _
    refine XS.iloadN X0.here hx rfl (hb hby d6_19) rfl ?_
    show Steps p.tables e below (s₁.setTop (mkF m 20 #[.val (.ref a1), .val (.ref a2), .val (.int (10 : Int32))] [(.int (10 : Int32)), (.ref a2), (.int (99 : Int32))])) _
    refine X0.baloadBytes hx (j := (10 : Int32)) (v := (.int (99 : Int32))) (by rw [e0]; exact Ar2.1) (State.isArrayOf_alike hZ.alike Ar2.2.1) Ar2.2.2 (inb_of S2 ⟨by decide, by decide⟩) (Has.at (v := (.int (99 : Int32))) H2 (inb_of S2 ⟨by decide, by decide⟩) rfl) (g := (mkF m 20 #[.val (.ref a1), .val (.ref a2), .val (.int (10 : Int32))] [(.int (10 : Int32)), (.ref a2), (.int (99 : Int32))])) rfl rfl (hb hby d6_20) _ ?_
    exact k
  have pre412 : ∀ t, Steps p.tables e below (s₁.setTop (mkF m 26 #[.val (.ref a1), .val (.ref a2), .val (.int (10 : Int32))] [])) t → Steps p.tables e below (s₁.setTop (entryFrame m #[(.ref a1), (.ref a2)] 3)) t := by
    intro t k
    refine pre410 _ ?_
    show Steps p.tables e below (s₁.setTop (mkF m 21 #[.val (.ref a1), .val (.ref a2), .val (.int (10 : Int32))] [(.int (99 : Int32)), (.int (99 : Int32))])) _
    refine XS.icmpYes X0.here hx rfl (pc0 := 21) (pc' := 26) rfl (hb hby d6_21) rfl (teq (rfl : (99 : Int32) = (99 : Int32))).1 (by decide) (by decide) ?_
    exact k
  have pre413 : ∀ t, Steps p.tables e below (s₁.setTop (mkF m 12 #[.val (.ref a1), .val (.ref a2), .val (.int (11 : Int32))] [(.int (13 : Int32)), (.int (11 : Int32))])) t → Steps p.tables e below (s₁.setTop (entryFrame m #[(.ref a1), (.ref a2)] 3)) t := by
    intro t k
    refine pre412 _ ?_
    show Steps p.tables e below (s₁.setTop (mkF m 26 #[.val (.ref a1), .val (.ref a2), .val (.int (10 : Int32))] [])) _
    refine XS.iinc X0.here hx rfl (hb hby d6_26) rfl (l' := #[.val (.ref a1), .val (.ref a2), .val (.int (11 : Int32))]) rfl ?_
    show Steps p.tables e below (s₁.setTop (mkF m 29 #[.val (.ref a1), .val (.ref a2), .val (.int (11 : Int32))] [])) _
    refine XS.goto X0.here hx rfl (pc0 := 29) (pc' := 9) rfl (hb hby d6_29) (by decide) (by decide) ?_
    show Steps p.tables e below (s₁.setTop (mkF m 9 #[.val (.ref a1), .val (.ref a2), .val (.int (11 : Int32))] [])) _
    refine XS.iloadN X0.here hx rfl (hb hby d6_9) rfl ?_
    show Steps p.tables e below (s₁.setTop (mkF m 10 #[.val (.ref a1), .val (.ref a2), .val (.int (11 : Int32))] [(.int (11 : Int32))])) _
    refine XS.aloadN X0.here hx rfl (hb hby d6_10) rfl rfl ?_
    show Steps p.tables e below (s₁.setTop (mkF m 11 #[.val (.ref a1), .val (.ref a2), .val (.int (11 : Int32))] [(.ref a1), (.int (11 : Int32))])) _
    refine X0.arraylength hx (by rw [e0]; exact Ar1.1) (State.isArrayOf_alike hZ.alike Ar1.2.1) (g := (mkF m 11 #[.val (.ref a1), .val (.ref a2), .val (.int (11 : Int32))] [(.ref a1), (.int (11 : Int32))])) rfl rfl (hb hby d6_11) _ ?_
    rw [len_of S1 N_1]
    exact k
  have pre415 : ∀ t, Steps p.tables e below (s₁.setTop (mkF m 15 #[.val (.ref a1), .val (.ref a2), .val (.int (11 : Int32))] [])) t → Steps p.tables e below (s₁.setTop (entryFrame m #[(.ref a1), (.ref a2)] 3)) t := by
    intro t k
    refine pre413 _ ?_
    show Steps p.tables e below (s₁.setTop (mkF m 12 #[.val (.ref a1), .val (.ref a2), .val (.int (11 : Int32))] [(.int (13 : Int32)), (.int (11 : Int32))])) _
    refine XS.icmpNo X0.here hx rfl (hb hby d6_12) rfl (tlt (by decide : (11 : Int32) < (13 : Int32))).2.1 ?_
    exact k
  have pre416 : ∀ t, Steps p.tables e below (s₁.setTop (mkF m 21 #[.val (.ref a1), .val (.ref a2), .val (.int (11 : Int32))] [(.int (116 : Int32)), (.int (116 : Int32))])) t → Steps p.tables e below (s₁.setTop (entryFrame m #[(.ref a1), (.ref a2)] 3)) t := by
    intro t k
    refine pre415 _ ?_
    show Steps p.tables e below (s₁.setTop (mkF m 15 #[.val (.ref a1), .val (.ref a2), .val (.int (11 : Int32))] [])) _
    refine XS.aloadN X0.here hx rfl (hb hby d6_15) rfl rfl ?_
    show Steps p.tables e below (s₁.setTop (mkF m 16 #[.val (.ref a1), .val (.ref a2), .val (.int (11 : Int32))] [(.ref a1)])) _
    refine XS.iloadN X0.here hx rfl (hb hby d6_16) rfl ?_
    show Steps p.tables e below (s₁.setTop (mkF m 17 #[.val (.ref a1), .val (.ref a2), .val (.int (11 : Int32))] [(.int (11 : Int32)), (.ref a1)])) _
    refine X0.baloadBytes hx (j := (11 : Int32)) (v := (.int (116 : Int32))) (by rw [e0]; exact Ar1.1) (State.isArrayOf_alike hZ.alike Ar1.2.1) Ar1.2.2 (inb_of S1 ⟨by decide, by decide⟩) (Has.at (v := (.int (116 : Int32))) H1 (inb_of S1 ⟨by decide, by decide⟩) rfl) (g := (mkF m 17 #[.val (.ref a1), .val (.ref a2), .val (.int (11 : Int32))] [(.int (11 : Int32)), (.ref a1)])) rfl rfl (hb hby d6_17) _ ?_
    show Steps p.tables e below (s₁.setTop (mkF m 18 #[.val (.ref a1), .val (.ref a2), .val (.int (11 : Int32))] [(.int (116 : Int32))])) _
    refine XS.aloadN X0.here hx rfl (hb hby d6_18) rfl rfl ?_
    show Steps p.tables e below (s₁.setTop (mkF m 19 #[.val (.ref a1), .val (.ref a2), .val (.int (11 : Int32))] [(.ref a2), (.int (116 : Int32))])) _
    refine XS.iloadN X0.here hx rfl (hb hby d6_19) rfl ?_
    show Steps p.tables e below (s₁.setTop (mkF m 20 #[.val (.ref a1), .val (.ref a2), .val (.int (11 : Int32))] [(.int (11 : Int32)), (.ref a2), (.int (116 : Int32))])) _
    refine X0.baloadBytes hx (j := (11 : Int32)) (v := (.int (116 : Int32))) (by rw [e0]; exact Ar2.1) (State.isArrayOf_alike hZ.alike Ar2.2.1) Ar2.2.2 (inb_of S2 ⟨by decide, by decide⟩) (Has.at (v := (.int (116 : Int32))) H2 (inb_of S2 ⟨by decide, by decide⟩) rfl) (g := (mkF m 20 #[.val (.ref a1), .val (.ref a2), .val (.int (11 : Int32))] [(.int (11 : Int32)), (.ref a2), (.int (116 : Int32))])) rfl rfl (hb hby d6_20) _ ?_
    exact k
  have pre418 : ∀ t, Steps p.tables e below (s₁.setTop (mkF m 26 #[.val (.ref a1), .val (.ref a2), .val (.int (11 : Int32))] [])) t → Steps p.tables e below (s₁.setTop (entryFrame m #[(.ref a1), (.ref a2)] 3)) t := by
    intro t k
    refine pre416 _ ?_
    show Steps p.tables e below (s₁.setTop (mkF m 21 #[.val (.ref a1), .val (.ref a2), .val (.int (11 : Int32))] [(.int (116 : Int32)), (.int (116 : Int32))])) _
    refine XS.icmpYes X0.here hx rfl (pc0 := 21) (pc' := 26) rfl (hb hby d6_21) rfl (teq (rfl : (116 : Int32) = (116 : Int32))).1 (by decide) (by decide) ?_
    exact k
  have pre419 : ∀ t, Steps p.tables e below (s₁.setTop (mkF m 12 #[.val (.ref a1), .val (.ref a2), .val (.int (12 : Int32))] [(.int (13 : Int32)), (.int (12 : Int32))])) t → Steps p.tables e below (s₁.setTop (entryFrame m #[(.ref a1), (.ref a2)] 3)) t := by
    intro t k
    refine pre418 _ ?_
    show Steps p.tables e below (s₁.setTop (mkF m 26 #[.val (.ref a1), .val (.ref a2), .val (.int (11 : Int32))] [])) _
    refine XS.iinc X0.here hx rfl (hb hby d6_26) rfl (l' := #[.val (.ref a1), .val (.ref a2), .val (.int (12 : Int32))]) rfl ?_
    show Steps p.tables e below (s₁.setTop (mkF m 29 #[.val (.ref a1), .val (.ref a2), .val (.int (12 : Int32))] [])) _
    refine XS.goto X0.here hx rfl (pc0 := 29) (pc' := 9) rfl (hb hby d6_29) (by decide) (by decide) ?_
    show Steps p.tables e below (s₁.setTop (mkF m 9 #[.val (.ref a1), .val (.ref a2), .val (.int (12 : Int32))] [])) _
    refine XS.iloadN X0.here hx rfl (hb hby d6_9) rfl ?_
    show Steps p.tables e below (s₁.setTop (mkF m 10 #[.val (.ref a1), .val (.ref a2), .val (.int (12 : Int32))] [(.int (12 : Int32))])) _
    refine XS.aloadN X0.here hx rfl (hb hby d6_10) rfl rfl ?_
    show Steps p.tables e below (s₁.setTop (mkF m 11 #[.val (.ref a1), .val (.ref a2), .val (.int (12 : Int32))] [(.ref a1), (.int (12 : Int32))])) _
    refine X0.arraylength hx (by rw [e0]; exact Ar1.1) (State.isArrayOf_alike hZ.alike Ar1.2.1) (g := (mkF m 11 #[.val (.ref a1), .val (.ref a2), .val (.int (12 : Int32))] [(.ref a1), (.int (12 : Int32))])) rfl rfl (hb hby d6_11) _ ?_
    rw [len_of S1 N_1]
    exact k
  have pre421 : ∀ t, Steps p.tables e below (s₁.setTop (mkF m 15 #[.val (.ref a1), .val (.ref a2), .val (.int (12 : Int32))] [])) t → Steps p.tables e below (s₁.setTop (entryFrame m #[(.ref a1), (.ref a2)] 3)) t := by
    intro t k
    refine pre419 _ ?_
    show Steps p.tables e below (s₁.setTop (mkF m 12 #[.val (.ref a1), .val (.ref a2), .val (.int (12 : Int32))] [(.int (13 : Int32)), (.int (12 : Int32))])) _
    refine XS.icmpNo X0.here hx rfl (hb hby d6_12) rfl (tlt (by decide : (12 : Int32) < (13 : Int32))).2.1 ?_
    exact k
  have pre422 : ∀ t, Steps p.tables e below (s₁.setTop (mkF m 21 #[.val (.ref a1), .val (.ref a2), .val (.int (12 : Int32))] [(.int (115 : Int32)), (.int (115 : Int32))])) t → Steps p.tables e below (s₁.setTop (entryFrame m #[(.ref a1), (.ref a2)] 3)) t := by
    intro t k
    refine pre421 _ ?_
    show Steps p.tables e below (s₁.setTop (mkF m 15 #[.val (.ref a1), .val (.ref a2), .val (.int (12 : Int32))] [])) _
    refine XS.aloadN X0.here hx rfl (hb hby d6_15) rfl rfl ?_
    show Steps p.tables e below (s₁.setTop (mkF m 16 #[.val (.ref a1), .val (.ref a2), .val (.int (12 : Int32))] [(.ref a1)])) _
    refine XS.iloadN X0.here hx rfl (hb hby d6_16) rfl ?_
    show Steps p.tables e below (s₁.setTop (mkF m 17 #[.val (.ref a1), .val (.ref a2), .val (.int (12 : Int32))] [(.int (12 : Int32)), (.ref a1)])) _
    refine X0.baloadBytes hx (j := (12 : Int32)) (v := (.int (115 : Int32))) (by rw [e0]; exact Ar1.1) (State.isArrayOf_alike hZ.alike Ar1.2.1) Ar1.2.2 (inb_of S1 ⟨by decide, by decide⟩) (Has.at (v := (.int (115 : Int32))) H1 (inb_of S1 ⟨by decide, by decide⟩) rfl) (g := (mkF m 17 #[.val (.ref a1), .val (.ref a2), .val (.int (12 : Int32))] [(.int (12 : Int32)), (.ref a1)])) rfl rfl (hb hby d6_17) _ ?_
    show Steps p.tables e below (s₁.setTop (mkF m 18 #[.val (.ref a1), .val (.ref a2), .val (.int (12 : Int32))] [(.int (115 : Int32))])) _
    refine XS.aloadN X0.here hx rfl (hb hby d6_18) rfl rfl ?_
    show Steps p.tables e below (s₁.setTop (mkF m 19 #[.val (.ref a1), .val (.ref a2), .val (.int (12 : Int32))] [(.ref a2), (.int (115 : Int32))])) _
    refine XS.iloadN X0.here hx rfl (hb hby d6_19) rfl ?_
    show Steps p.tables e below (s₁.setTop (mkF m 20 #[.val (.ref a1), .val (.ref a2), .val (.int (12 : Int32))] [(.int (12 : Int32)), (.ref a2), (.int (115 : Int32))])) _
    refine X0.baloadBytes hx (j := (12 : Int32)) (v := (.int (115 : Int32))) (by rw [e0]; exact Ar2.1) (State.isArrayOf_alike hZ.alike Ar2.2.1) Ar2.2.2 (inb_of S2 ⟨by decide, by decide⟩) (Has.at (v := (.int (115 : Int32))) H2 (inb_of S2 ⟨by decide, by decide⟩) rfl) (g := (mkF m 20 #[.val (.ref a1), .val (.ref a2), .val (.int (12 : Int32))] [(.int (12 : Int32)), (.ref a2), (.int (115 : Int32))])) rfl rfl (hb hby d6_20) _ ?_
    exact k
  have pre424 : ∀ t, Steps p.tables e below (s₁.setTop (mkF m 26 #[.val (.ref a1), .val (.ref a2), .val (.int (12 : Int32))] [])) t → Steps p.tables e below (s₁.setTop (entryFrame m #[(.ref a1), (.ref a2)] 3)) t := by
    intro t k
    refine pre422 _ ?_
    show Steps p.tables e below (s₁.setTop (mkF m 21 #[.val (.ref a1), .val (.ref a2), .val (.int (12 : Int32))] [(.int (115 : Int32)), (.int (115 : Int32))])) _
    refine XS.icmpYes X0.here hx rfl (pc0 := 21) (pc' := 26) rfl (hb hby d6_21) rfl (teq (rfl : (115 : Int32) = (115 : Int32))).1 (by decide) (by decide) ?_
    exact k
  have pre425 : ∀ t, Steps p.tables e below (s₁.setTop (mkF m 12 #[.val (.ref a1), .val (.ref a2), .val (.int (13 : Int32))] [(.int (13 : Int32)), (.int (13 : Int32))])) t → Steps p.tables e below (s₁.setTop (entryFrame m #[(.ref a1), (.ref a2)] 3)) t := by
    intro t k
    refine pre424 _ ?_
    show Steps p.tables e below (s₁.setTop (mkF m 26 #[.val (.ref a1), .val (.ref a2), .val (.int (12 : Int32))] [])) _
    refine XS.iinc X0.here hx rfl (hb hby d6_26) rfl (l' := #[.val (.ref a1), .val (.ref a2), .val (.int (13 : Int32))]) rfl ?_
    show Steps p.tables e below (s₁.setTop (mkF m 29 #[.val (.ref a1), .val (.ref a2), .val (.int (13 : Int32))] [])) _
    refine XS.goto X0.here hx rfl (pc0 := 29) (pc' := 9) rfl (hb hby d6_29) (by decide) (by decide) ?_
    show Steps p.tables e below (s₁.setTop (mkF m 9 #[.val (.ref a1), .val (.ref a2), .val (.int (13 : Int32))] [])) _
    refine XS.iloadN X0.here hx rfl (hb hby d6_9) rfl ?_
    show Steps p.tables e below (s₁.setTop (mkF m 10 #[.val (.ref a1), .val (.ref a2), .val (.int (13 : Int32))] [(.int (13 : Int32))])) _
    refine XS.aloadN X0.here hx rfl (hb hby d6_10) rfl rfl ?_
    show Steps p.tables e below (s₁.setTop (mkF m 11 #[.val (.ref a1), .val (.ref a2), .val (.int (13 : Int32))] [(.ref a1), (.int (13 : Int32))])) _
    refine X0.arraylength hx (by rw [e0]; exact Ar1.1) (State.isArrayOf_alike hZ.alike Ar1.2.1) (g := (mkF m 11 #[.val (.ref a1), .val (.ref a2), .val (.int (13 : Int32))] [(.ref a1), (.int (13 : Int32))])) rfl rfl (hb hby d6_11) _ ?_
    rw [len_of S1 N_1]
    exact k
  have pre427 : ∀ t, Steps p.tables e below (s₁.setTop (mkF m 32 #[.val (.ref a1), .val (.ref a2), .val (.int (13 : Int32))] [])) t → Steps p.tables e below (s₁.setTop (entryFrame m #[(.ref a1), (.ref a2)] 3)) t := by
    intro t k
    refine pre425 _ ?_
    show Steps p.tables e below (s₁.setTop (mkF m 12 #[.val (.ref a1), .val (.ref a2), .val (.int (13 : Int32))] [(.int (13 : Int32)), (.int (13 : Int32))])) _
    refine XS.icmpYes X0.here hx rfl (pc0 := 12) (pc' := 32) rfl (hb hby d6_12) rfl (flt (by decide : ¬ ((13 : Int32) < (13 : Int32)))).2.1 (by decide) (by decide) ?_
    exact k
  have pre428 : ∀ t, Steps p.tables e below (s₁.setTop (mkF m 33 #[.val (.ref a1), .val (.ref a2), .val (.int (13 : Int32))] [(.int (1 : Int32))])) t → Steps p.tables e below (s₁.setTop (entryFrame m #[(.ref a1), (.ref a2)] 3)) t := by
    intro t k
    refine pre427 _ ?_
    show Steps p.tables e below (s₁.setTop (mkF m 32 #[.val (.ref a1), .val (.ref a2), .val (.int (13 : Int32))] [])) _
    refine XS.iconst X0.here hx rfl (hb hby d6_32) ?_
    exact k
  obtain ⟨fs, hr, hrun, hended, hW, hsame⟩ := X0.leave (v := some (.int (1 : Int32))) (fun h => by rw [hret] at h; cases h)
  refine ⟨_, _, pre428 _ ?_, hrun, hended, _, _, rfl, ?_, ⟨_, rfl⟩, hW, hsame.mono (by decide) (by decide)⟩
  · show Steps p.tables e below (s₁.setTop (mkF m 33 #[.val (.ref a1), .val (.ref a2), .val (.int (13 : Int32))] [(.int (1 : Int32))])) _
    exact retN X0 hx (t := .boolean) hret (by simp) (hb hby d6_33) hr
  · show Q6ee Z a1 a2 k1 k2 h0 n0 _ s₁.heap _
    rw [e0]
    exact ⟨rfl, N0, rfl⟩
theorem ef_5ee (m : MethodId) (x0 : Addr) (x1 : Addr) : entryFrame m #[(.ref x0), (.ref x1)] 3 = mkF m 0 #[.val (.ref x0), .val (.ref x1), .unset] [] := by first | (simp [entryFrame, mkF, argsToLocals, Value.category]; done) | rfl
def Q5ee (Z : State) (a1 : Addr) (a2 : Addr) (v1 : Addr) (v2 : Addr) (k1 : ClassId) (k2 : ClassId) (pC : Int32) (h0 : Heap) (n0 : Nat) (v : Option Value) (h : Heap) (L : List Loc) : Prop := v = some (.int (1 : Int32)) ∧ Fr n0 L ∧ h = h0
set_option maxRecDepth 65536 in
set_option maxHeartbeats 40000000 in
theorem rm5ee (l : Launch) (Z : State) (a0 : Array Value) (hw : ∀ d ∈ tables_1, d.before a0 Z = true) (ws : List Jvm.Cond) (a1 : Addr) (a2 : Addr) (v1 : Addr) (v2 : Addr) (k1 : ClassId) (k2 : ClassId) (pC : Int32) (h0 : Heap) (n0 : Nat) (Z0 : n0 ≤ h0.size) (E_a2 : Exa Z h0 a2 "java/lang/String") (C1 : Fld Z h0 a1 "java/lang/String" "coder" "B" (.int (0 : Int32))) (C2 : Fld Z h0 a2 "java/lang/String" "coder" "B" (.int (0 : Int32))) (V1 : Fld Z h0 a1 "java/lang/String" "value" "[B" (.ref v1)) (V2 : Fld Z h0 a2 "java/lang/String" "value" "[B" (.ref v2)) (A1 : Arv Z h0 v1 k1 .byte (13 : Int32) [.int (105 : Int32), .int (115 : Int32), .int (115 : Int32), .int (117 : Int32), .int (101 : Int32), .int (114 : Int32), .int (45 : Int32), .int (101 : Int32), .int (108 : Int32), .int (101 : Int32), .int (99 : Int32), .int (116 : Int32), .int (115 : Int32)] (.int (0 : Int32))) (A2 : Arv Z h0 v2 k2 .byte (13 : Int32) [.int (105 : Int32), .int (115 : Int32), .int (115 : Int32), .int (117 : Int32), .int (101 : Int32), .int (114 : Int32), .int (45 : Int32), .int (101 : Int32), .int (108 : Int32), .int (101 : Int32), .int (99 : Int32), .int (116 : Int32), .int (115 : Int32)] (.int (0 : Int32))) (hpc : ¬ (pC = (0 : Int32))) (S_pC : Sta Z h0 "java/lang/String" "COMPACT_STRINGS" "Z" (.int pC)) :
    MetFree l (⟨"java/lang/String", "equals", "(Ljava/lang/Object;)Z"⟩ : MethodName) (head1 (Jvm.Cond.code (⟨"java/lang/String", "equals", "(Ljava/lang/Object;)Z"⟩ : MethodName) jdk_42_method_66_code 3 (some .boolean) :: ws) ({ frames := 1, cells := 0, slots := 0, locals := 14 } : Room)) (fun a U => a = #[(.ref a1), (.ref a2)] ∧ Z.Warmed39 U.vm ∧ U.heap = h0) (fun _ _ _ _ _ => True) (fun _ U o U' => ∃ v L, o = .returned v ∧ Q5ee Z a1 a2 v1 v2 k1 k2 pC h0 n0 v U'.heap L ∧ FrameEnd U o U' L ({ frames := 1, cells := 0, slots := 0, locals := 14 } : Room).cells ({ frames := 1, cells := 0, slots := 0, locals := 14 } : Room).slots) := by
  refine MetFree.of_bodySF (plainFor_of_name pn_5) hisR ?_
  intro p e s m args below meth c s₁ Bd hml0 hP hK
  obtain ⟨rfl, hZ, hh⟩ := hP
  have hx := Bd.exec
  have hby := Bd.bytes
  have hml : c.maxLocals = 3 := hml0
  have hown : s.vm.findClass "java/lang/String" = some m.cls := findClass_of_methodNamed Bd.named
  have hnm := (name_of_methodNamed Bd.named Bd.method).1
  have hret := Bd.returns
  have hlocks : meth.locks = false := Bd.notSynchronized
  have X0 : Stand p l e ({ frames := 1, cells := 0, slots := 0, locals := 14 } : Room) s m #[(.ref a1), (.ref a2)] below meth c s₁ [] 0 0 := Stand.of_body Bd
  have e0 : s₁.heap = h0 := by rw [← hh, Bd.state]; rfl
  have N0 := Fr.nil n0
  have pre0 : ∀ t, Steps p.tables e below (s₁.setTop (mkF m 0 #[.val (.ref a1), .val (.ref a2), .unset] [])) t → Steps p.tables e below (s₁.setTop (entryFrame m #[(.ref a1), (.ref a2)] 3)) t := fun t k => castTop (ef_5ee m a1 a2) k
  have pre429 : ∀ t, Steps p.tables e below (s₁.setTop (mkF m 2 #[.val (.ref a1), .val (.ref a2), .unset] [(.ref a2), (.ref a1)])) t → Steps p.tables e below (s₁.setTop (entryFrame m #[(.ref a1), (.ref a2)] 3)) t := by
    intro t k
    refine pre0 _ ?_
    show Steps p.tables e below (s₁.setTop (mkF m 0 #[.val (.ref a1), .val (.ref a2), .unset] [])) _
    refine XS.aloadN X0.here hx rfl (hb hby d5_0) rfl rfl ?_
    show Steps p.tables e below (s₁.setTop (mkF m 1 #[.val (.ref a1), .val (.ref a2), .unset] [(.ref a1)])) _
    refine XS.aloadN X0.here hx rfl (hb hby d5_1) rfl rfl ?_
    exact k
  by_cases ha430 : a1 = a2
  · have pre431 : ∀ t, Steps p.tables e below (s₁.setTop (mkF m 5 #[.val (.ref a1), .val (.ref a2), .unset] [])) t → Steps p.tables e below (s₁.setTop (entryFrame m #[(.ref a1), (.ref a2)] 3)) t := by
      intro t k
      refine pre429 _ ?_
      show Steps p.tables e below (s₁.setTop (mkF m 2 #[.val (.ref a1), .val (.ref a2), .unset] [(.ref a2), (.ref a1)])) _
      refine Jvm.RoadKit.acmp (g := (mkF m 2 #[.val (.ref a1), .val (.ref a2), .unset] [(.ref a2), (.ref a1)])) X0 hx rfl rfl rfl (pc0 := 2) (pc' := 5) (same := true) rfl (hb hby d5_2) rfl (decide_eq_true (congrArg Value.ref ha430)) (by decide) (by decide) ?_
      exact k
    have pre432 : ∀ t, Steps p.tables e below (s₁.setTop (mkF m 6 #[.val (.ref a1), .val (.ref a2), .unset] [(.int (1 : Int32))])) t → Steps p.tables e below (s₁.setTop (entryFrame m #[(.ref a1), (.ref a2)] 3)) t := by
      intro t k
      refine pre431 _ ?_
      show Steps p.tables e below (s₁.setTop (mkF m 5 #[.val (.ref a1), .val (.ref a2), .unset] [])) _
      refine XS.iconst X0.here hx rfl (hb hby d5_5) ?_
      exact k
    obtain ⟨fs, hr, hrun, hended, hW, hsame⟩ := X0.leave (v := some (.int (1 : Int32))) (fun h => by rw [hret] at h; cases h)
    refine ⟨_, _, pre432 _ ?_, hrun, hended, _, _, rfl, ?_, ⟨_, rfl⟩, hW, hsame.mono (by decide) (by decide)⟩
    · show Steps p.tables e below (s₁.setTop (mkF m 6 #[.val (.ref a1), .val (.ref a2), .unset] [(.int (1 : Int32))])) _
      exact retN X0 hx (t := .boolean) hret (by simp) (hb hby d5_6) hr
    · show Q5ee Z a1 a2 v1 v2 k1 k2 pC h0 n0 _ s₁.heap _
      rw [e0]
      exact ⟨rfl, N0, rfl⟩
  · have pre433 : ∀ t, Steps p.tables e below (s₁.setTop (mkF m 7 #[.val (.ref a1), .val (.ref a2), .unset] [])) t → Steps p.tables e below (s₁.setTop (entryFrame m #[(.ref a1), (.ref a2)] 3)) t := by
      intro t k
      refine pre429 _ ?_
      show Steps p.tables e below (s₁.setTop (mkF m 2 #[.val (.ref a1), .val (.ref a2), .unset] [(.ref a2), (.ref a1)])) _
      refine Jvm.RoadKit.acmp (g := (mkF m 2 #[.val (.ref a1), .val (.ref a2), .unset] [(.ref a2), (.ref a1)])) X0 hx rfl rfl rfl (pc0 := 2) (pc' := 7) (same := false) rfl (hb hby d5_2) rfl (decide_eq_false fun q => ha430 (Value.ref.inj q)) (by decide) (by decide) ?_
      exact k
    have pre434 : ∀ t, Steps p.tables e below (s₁.setTop (mkF m 8 #[.val (.ref a1), .val (.ref a2), .unset] [(.ref a2)])) t → Steps p.tables e below (s₁.setTop (entryFrame m #[(.ref a1), (.ref a2)] 3)) t := by
      intro t k
      refine pre433 _ ?_
      show Steps p.tables e below (s₁.setTop (mkF m 7 #[.val (.ref a1), .val (.ref a2), .unset] [])) _
      refine XS.aloadN X0.here hx rfl (hb hby d5_7) rfl rfl ?_
      exact k
    obtain ⟨T435, X435, e435, st435⟩ := instY X0 hx hZ hown (hw _ (List.mem_of_getElem? (i := 42) rfl)) e0 (Ins.self E_a2) (g := (mkF m 8 #[.val (.ref a1), .val (.ref a2), .unset] [(.ref a2)])) rfl rfl (hb hby d5_8)
    have pre436 : ∀ t, Steps p.tables e below (T435.setTop (mkF m 11 #[.val (.ref a1), .val (.ref a2), .unset] [(.int (1 : Int32))])) t → Steps p.tables e below (s₁.setTop (entryFrame m #[(.ref a1), (.ref a2)] 3)) t := by
      intro t k
      refine pre434 _ ?_
      show Steps p.tables e below (s₁.setTop (mkF m 8 #[.val (.ref a1), .val (.ref a2), .unset] [(.ref a2)])) _
      refine st435 _ ?_
      exact k
    have pre438 : ∀ t, Steps p.tables e below (T435.setTop (mkF m 14 #[.val (.ref a1), .val (.ref a2), .unset] [])) t → Steps p.tables e below (s₁.setTop (entryFrame m #[(.ref a1), (.ref a2)] 3)) t := by
      intro t k
      refine pre436 _ ?_
      show Steps p.tables e below (T435.setTop (mkF m 11 #[.val (.ref a1), .val (.ref a2), .unset] [(.int (1 : Int32))])) _
      refine XS.ifNo X435.here hx rfl (hb hby d5_11) rfl ((if0 _ _).trans (feq (by decide : ¬ ((1 : Int32) = (0 : Int32)))).1) ?_
      exact k
    have pre439 : ∀ t, Steps p.tables e below (T435.setTop (mkF m 15 #[.val (.ref a1), .val (.ref a2), .unset] [(.ref a2)])) t → Steps p.tables e below (s₁.setTop (entryFrame m #[(.ref a1), (.ref a2)] 3)) t := by
      intro t k
      refine pre438 _ ?_
      show Steps p.tables e below (T435.setTop (mkF m 14 #[.val (.ref a1), .val (.ref a2), .unset] [])) _
      refine XS.aloadN X435.here hx rfl (hb hby d5_14) rfl rfl ?_
      exact k
    obtain ⟨T440, X440, e440, st440⟩ := castY X435 hx hZ hown (hw _ (List.mem_of_getElem? (i := 42) rfl)) e435 (Ins.self E_a2) (g := (mkF m 15 #[.val (.ref a1), .val (.ref a2), .unset] [(.ref a2)])) rfl rfl (hb hby d5_15)
    have pre441 : ∀ t, Steps p.tables e below (T440.setTop (mkF m 18 #[.val (.ref a1), .val (.ref a2), .unset] [(.ref a2)])) t → Steps p.tables e below (s₁.setTop (entryFrame m #[(.ref a1), (.ref a2)] 3)) t := by
      intro t k
      refine pre439 _ ?_
      show Steps p.tables e below (T435.setTop (mkF m 15 #[.val (.ref a1), .val (.ref a2), .unset] [(.ref a2)])) _
      refine st440 _ ?_
      exact k
    have pre442 : ∀ t, Steps p.tables e below (T440.setTop (mkF m 19 #[.val (.ref a1), .val (.ref a2), .val (.ref a2)] [])) t → Steps p.tables e below (s₁.setTop (entryFrame m #[(.ref a1), (.ref a2)] 3)) t := by
      intro t k
      refine pre441 _ ?_
      show Steps p.tables e below (T440.setTop (mkF m 18 #[.val (.ref a1), .val (.ref a2), .unset] [(.ref a2)])) _
      refine XS.astoreN X440.here hx rfl (hb hby d5_18) rfl rfl (l' := #[.val (.ref a1), .val (.ref a2), .val (.ref a2)]) rfl ?_
      exact k
    obtain ⟨T443, X443, e443, st443⟩ := getS2 X440 hx hZ hown (host := "") (Or.inl (hw _ (List.mem_of_getElem? (i := 44) rfl))) Via.refl e440 S_pC (g := (mkF m 19 #[.val (.ref a1), .val (.ref a2), .val (.ref a2)] [])) rfl (hb hby d5_19)
    have pre444 : ∀ t, Steps p.tables e below (T443.setTop (mkF m 22 #[.val (.ref a1), .val (.ref a2), .val (.ref a2)] [(.int pC)])) t → Steps p.tables e below (s₁.setTop (entryFrame m #[(.ref a1), (.ref a2)] 3)) t := by
      intro t k
      refine pre442 _ ?_
      show Steps p.tables e below (T440.setTop (mkF m 19 #[.val (.ref a1), .val (.ref a2), .val (.ref a2)] [])) _
      refine st443 _ ?_
      exact k
    have pre446 : ∀ t, Steps p.tables e below (T443.setTop (mkF m 25 #[.val (.ref a1), .val (.ref a2), .val (.ref a2)] [])) t → Steps p.tables e below (s₁.setTop (entryFrame m #[(.ref a1), (.ref a2)] 3)) t := by
      intro t k
      refine pre444 _ ?_
      show Steps p.tables e below (T443.setTop (mkF m 22 #[.val (.ref a1), .val (.ref a2), .val (.ref a2)] [(.int pC)])) _
      refine XS.ifNo X443.here hx rfl (hb hby d5_22) rfl ((if0 _ _).trans (feq hpc).1) ?_
      exact k
    have pre447 : ∀ t, Steps p.tables e below (T443.setTop (mkF m 26 #[.val (.ref a1), .val (.ref a2), .val (.ref a2)] [(.ref a1)])) t → Steps p.tables e below (s₁.setTop (entryFrame m #[(.ref a1), (.ref a2)] 3)) t := by
      intro t k
      refine pre446 _ ?_
      show Steps p.tables e below (T443.setTop (mkF m 25 #[.val (.ref a1), .val (.ref a2), .val (.ref a2)] [])) _
      refine XS.aloadN X443.here hx rfl (hb hby d5_25) rfl rfl ?_
      exact k
    obtain ⟨T448, X448, e448, st448⟩ := getF X443 hx hZ hown (host := "") (Or.inl (hw _ (List.mem_of_getElem? (i := 45) rfl))) Via.refl e443 C1 (g := (mkF m 26 #[.val (.ref a1), .val (.ref a2), .val (.ref a2)] [(.ref a1)])) rfl rfl (hb hby d5_26)
    have pre449 : ∀ t, Steps p.tables e below (T448.setTop (mkF m 29 #[.val (.ref a1), .val (.ref a2), .val (.ref a2)] [(.int (0 : Int32))])) t → Steps p.tables e below (s₁.setTop (entryFrame m #[(.ref a1), (.ref a2)] 3)) t := by
      intro t k
      refine pre447 _ ?_
      show Steps p.tables e below (T443.setTop (mkF m 26 #[.val (.ref a1), .val (.ref a2), .val (.ref a2)] [(.ref a1)])) _
      refine st448 _ ?_
      exact k
    have pre450 : ∀ t, Steps p.tables e below (T448.setTop (mkF m 30 #[.val (.ref a1), .val (.ref a2), .val (.ref a2)] [(.ref a2), (.int (0 : Int32))])) t → Steps p.tables e below (s₁.setTop (entryFrame m #[(.ref a1), (.ref a2)] 3)) t := by
      intro t k
      refine pre449 _ ?_
      show Steps p.tables e below (T448.setTop (mkF m 29 #[.val (.ref a1), .val (.ref a2), .val (.ref a2)] [(.int (0 : Int32))])) _
      refine XS.aloadN X448.here hx rfl (hb hby d5_29) rfl rfl ?_
      exact k
    obtain ⟨T451, X451, e451, st451⟩ := getF X448 hx hZ hown (host := "") (Or.inl (hw _ (List.mem_of_getElem? (i := 45) rfl))) Via.refl e448 C2 (g := (mkF m 30 #[.val (.ref a1), .val (.ref a2), .val (.ref a2)] [(.ref a2), (.int (0 : Int32))])) rfl rfl (hb hby d5_30)
    have pre452 : ∀ t, Steps p.tables e below (T451.setTop (mkF m 33 #[.val (.ref a1), .val (.ref a2), .val (.ref a2)] [(.int (0 : Int32)), (.int (0 : Int32))])) t → Steps p.tables e below (s₁.setTop (entryFrame m #[(.ref a1), (.ref a2)] 3)) t := by
      intro t k
      refine pre450 _ ?_
      show Steps p.tables e below (T448.setTop (mkF m 30 #[.val (.ref a1), .val (.ref a2), .val (.ref a2)] [(.ref a2), (.int (0 : Int32))])) _
      refine st451 _ ?_
      exact k
    have pre454 : ∀ t, Steps p.tables e below (T451.setTop (mkF m 36 #[.val (.ref a1), .val (.ref a2), .val (.ref a2)] [])) t → Steps p.tables e below (s₁.setTop (entryFrame m #[(.ref a1), (.ref a2)] 3)) t := by
      intro t k
      refine pre452 _ ?_
      show Steps p.tables e below (T451.setTop (mkF m 33 #[.val (.ref a1), .val (.ref a2), .val (.ref a2)] [(.int (0 : Int32)), (.int (0 : Int32))])) _
      refine XS.icmpNo X451.here hx rfl (hb hby d5_33) rfl (teq (rfl : (0 : Int32) = (0 : Int32))).2 ?_
      exact k
    have pre455 : ∀ t, Steps p.tables e below (T451.setTop (mkF m 37 #[.val (.ref a1), .val (.ref a2), .val (.ref a2)] [(.ref a1)])) t → Steps p.tables e below (s₁.setTop (entryFrame m #[(.ref a1), (.ref a2)] 3)) t := by
      intro t k
      refine pre454 _ ?_
      show Steps p.tables e below (T451.setTop (mkF m 36 #[.val (.ref a1), .val (.ref a2), .val (.ref a2)] [])) _
      refine XS.aloadN X451.here hx rfl (hb hby d5_36) rfl rfl ?_
      exact k
    obtain ⟨T456, X456, e456, st456⟩ := getF X451 hx hZ hown (host := "") (Or.inl (hw _ (List.mem_of_getElem? (i := 46) rfl))) Via.refl e451 V1 (g := (mkF m 37 #[.val (.ref a1), .val (.ref a2), .val (.ref a2)] [(.ref a1)])) rfl rfl (hb hby d5_37)
    have pre457 : ∀ t, Steps p.tables e below (T456.setTop (mkF m 40 #[.val (.ref a1), .val (.ref a2), .val (.ref a2)] [(.ref v1)])) t → Steps p.tables e below (s₁.setTop (entryFrame m #[(.ref a1), (.ref a2)] 3)) t := by
      intro t k
      refine pre455 _ ?_
      show Steps p.tables e below (T451.setTop (mkF m 37 #[.val (.ref a1), .val (.ref a2), .val (.ref a2)] [(.ref a1)])) _
      refine st456 _ ?_
      exact k
    have pre458 : ∀ t, Steps p.tables e below (T456.setTop (mkF m 41 #[.val (.ref a1), .val (.ref a2), .val (.ref a2)] [(.ref a2), (.ref v1)])) t → Steps p.tables e below (s₁.setTop (entryFrame m #[(.ref a1), (.ref a2)] 3)) t := by
      intro t k
      refine pre457 _ ?_
      show Steps p.tables e below (T456.setTop (mkF m 40 #[.val (.ref a1), .val (.ref a2), .val (.ref a2)] [(.ref v1)])) _
      refine XS.aloadN X456.here hx rfl (hb hby d5_40) rfl rfl ?_
      exact k
    obtain ⟨T459, X459, e459, st459⟩ := getF X456 hx hZ hown (host := "") (Or.inl (hw _ (List.mem_of_getElem? (i := 46) rfl))) Via.refl e456 V2 (g := (mkF m 41 #[.val (.ref a1), .val (.ref a2), .val (.ref a2)] [(.ref a2), (.ref v1)])) rfl rfl (hb hby d5_41)
    have pre460 : ∀ t, Steps p.tables e below (T459.setTop (mkF m 44 #[.val (.ref a1), .val (.ref a2), .val (.ref a2)] [(.ref v2), (.ref v1)])) t → Steps p.tables e below (s₁.setTop (entryFrame m #[(.ref a1), (.ref a2)] 3)) t := by
      intro t k
      refine pre458 _ ?_
      show Steps p.tables e below (T456.setTop (mkF m 41 #[.val (.ref a1), .val (.ref a2), .val (.ref a2)] [(.ref a2), (.ref v1)])) _
      refine st459 _ ?_
      exact k
    obtain ⟨_, _, ⟨T461, L461, k461, n461⟩, -, X461, ⟨Lc461, hQ461, l461, y461, z461⟩, st461⟩ := Jvm.LawKit.callS X459 hx (y := (⟨"java/lang/StringLatin1", "equals", "([B[B)Z"⟩ : MethodName)) hown (mvT hZ (hw _ (List.mem_of_getElem? (i := 47) rfl))) (mvT hZ (hw _ (List.mem_of_getElem? (i := 48) rfl))) (mvT hZ (hw _ (List.mem_of_getElem? (i := 49) rfl))) (mvT hZ (hw _ (List.mem_of_getElem? (i := 50) rfl))) (by decide) (backOf (W := 0) (rm6ee l Z a0 hw [] v1 v2 k1 k2 h0 n0 Z0 A1 A2) hZ (hw _ (List.mem_of_getElem? (i := 50) rfl)) (hw _ (List.mem_of_getElem? (i := 49) rfl)) (by decide) (by decide)) (g := (mkF m 44 #[.val (.ref a1), .val (.ref a2), .val (.ref a2)] [(.ref v2), (.ref v1)])) rfl (by rw [hml]; rfl) (argsL := [(.ref v1), (.ref v2)]) (rest := []) (lenOf pd___B_B_Z rfl) rfl (by show 2 * 0 + _ ≤ _; exact Nat.le_of_eq rfl) (hb hby d5_44) (fun _ _ => ⟨rfl, e459, (by decide : 0 + 0 ≤ _), (by decide : 0 + 0 ≤ _)⟩)
    dsimp only [Pt.U, Pt.locs, Pt.cells, Pt.slots] at X461 l461 y461 z461 st461 hQ461
    subst l461 y461 z461
    obtain ⟨rfl, N461q, e461⟩ := hQ461
    have N461 := Fr.app N0 N461q
    have pre462 : ∀ t, Steps p.tables e below (T461.setTop (mkF m 47 #[.val (.ref a1), .val (.ref a2), .val (.ref a2)] [(.int (1 : Int32))])) t → Steps p.tables e below (s₁.setTop (entryFrame m #[(.ref a1), (.ref a2)] 3)) t := by
      intro t k
      refine pre460 _ ?_
      show Steps p.tables e below (T459.setTop (mkF m 44 #[.val (.ref a1), .val (.ref a2), .val (.ref a2)] [(.ref v2), (.ref v1)])) _
      refine st461 _ ?_
      exact k
    have pre464 : ∀ t, Steps p.tables e below (T461.setTop (mkF m 50 #[.val (.ref a1), .val (.ref a2), .val (.ref a2)] [])) t → Steps p.tables e below (s₁.setTop (entryFrame m #[(.ref a1), (.ref a2)] 3)) t := by
      intro t k
      refine pre462 _ ?_
      show Steps p.tables e below (T461.setTop (mkF m 47 #[.val (.ref a1), .val (.ref a2), .val (.ref a2)] [(.int (1 : Int32))])) _
      refine XS.ifNo X461.here hx rfl (hb hby d5_47) rfl ((if0 _ _).trans (feq (by decide : ¬ ((1 : Int32) = (0 : Int32)))).1) ?_
      exact k
    have pre465 : ∀ t, Steps p.tables e below (T461.setTop (mkF m 55 #[.val (.ref a1), .val (.ref a2), .val (.ref a2)] [(.int (1 : Int32))])) t → Steps p.tables e below (s₁.setTop (entryFrame m #[(.ref a1), (.ref a2)] 3)) t := by
      intro t k
      refine pre464 _ ?_
      show Steps p.tables e below (T461.setTop (mkF m 50 #[.val (.ref a1), .val (.ref a2), .val (.ref a2)] [])) _
      refine XS.iconst X461.here hx rfl (hb hby d5_50) ?_
      show Steps p.tables e below (T461.setTop (mkF m 51 #[.val (.ref a1), .val (.ref a2), .val (.ref a2)] [(.int (1 : Int32))])) _
      refine XS.goto X461.here hx rfl (pc0 := 51) (pc' := 55) rfl (hb hby d5_51) (by decide) (by decide) ?_
      exact k
    obtain ⟨fs, hr, hrun, hended, hW, hsame⟩ := X461.leave (v := some (.int (1 : Int32))) (fun h => by rw [hret] at h; cases h)
    refine ⟨_, _, pre465 _ ?_, hrun, hended, _, _, rfl, ?_, ⟨_, rfl⟩, hW, hsame.mono (by decide) (by decide)⟩
    · show Steps p.tables e below (T461.setTop (mkF m 55 #[.val (.ref a1), .val (.ref a2), .val (.ref a2)] [(.int (1 : Int32))])) _
      exact retN X461 hx (t := .boolean) hret (by simp) (hb hby d5_55) hr
    · show Q5ee Z a1 a2 v1 v2 k1 k2 pC h0 n0 _ T461.heap _
      rw [e461]
      exact ⟨rfl, N461, rfl⟩
theorem pd__I_Lcom_example_notesmith_notesmith_note_ConvertedInterest_ : parseMethodDescriptor "(I)Lcom/example/notesmith/notesmith/note/ConvertedInterest;" = some ⟨[.int], some (.object "com/example/notesmith/notesmith/note/ConvertedInterest")⟩ := by decide +kernel
theorem pd__Z_Z : parseMethodDescriptor "(Z)Z" = some ⟨[.boolean], some .boolean⟩ := by decide +kernel
theorem pd___Ljava_lang_String_ : parseMethodDescriptor "()Ljava/lang/String;" = some ⟨[], some (.object "java/lang/String")⟩ := by decide +kernel
theorem pd__Ljava_lang_Object__Z : parseMethodDescriptor "(Ljava/lang/Object;)Z" = some ⟨[(.object "java/lang/Object")], some .boolean⟩ := by decide +kernel
theorem ef_0 (m : MethodId) (x0 : Int32) (x1 : Int32) : entryFrame m #[(.int x0), (.int x1)] maxLocals = mkF m 0 #[.val (.int x0), .val (.int x1), .unset, .unset, .unset, .unset, .unset] [] := by first | (simp [entryFrame, mkF, argsToLocals, Value.category, maxLocals]; done) | rfl
def F0 (p1 : Int32) (p2 : Int32) : Int32 :=
  if ((p1 &&& (2147483647 : Int32)) % (3 : Int32)) = (0 : Int32) then (  if (p2 &&& (1 : Int32)) = (0 : Int32) then (  (1 : Int32))
  else (  (1 : Int32)))
  else (  if ((p1 &&& (2147483647 : Int32)) % (3 : Int32)) = (1 : Int32) then (  if (p2 &&& (1 : Int32)) = (0 : Int32) then (  (1 : Int32))
  else (  (1 : Int32)))
  else (  if (p2 &&& (1 : Int32)) = (0 : Int32) then (  (1 : Int32))
  else (  (1 : Int32))))
def Q0 (Z : State) (p1 : Int32) (p2 : Int32) (wI_label : Addr) (wI_label_value : Addr) (k_wI_label_value : ClassId) (wX_label : Addr) (wX_label_value : Addr) (k_wX_label_value : ClassId) (wE_label : Addr) (wE_label_value : Addr) (k_wE_label_value : ClassId) (wI : Addr) (wX : Addr) (wE : Addr) (pC : Int32) (h0 : Heap) (n0 : Nat) (v : Option Value) (h : Heap) (L : List Loc) : Prop := v = some (.int (F0 p1 p2)) ∧ Fr n0 L
set_option maxRecDepth 65536 in
set_option maxHeartbeats 40000000 in
theorem rm0 (l : Launch) (Z : State) (a0 : Array Value) (hw : ∀ d ∈ tables_1, d.before a0 Z = true) (ws : List Jvm.Cond) (p1 : Int32) (p2 : Int32) (wI_label : Addr) (wI_label_value : Addr) (k_wI_label_value : ClassId) (wX_label : Addr) (wX_label_value : Addr) (k_wX_label_value : ClassId) (wE_label : Addr) (wE_label_value : Addr) (k_wE_label_value : ClassId) (wI : Addr) (wX : Addr) (wE : Addr) (pC : Int32) (h0 : Heap) (n0 : Nat) (Z0 : n0 ≤ h0.size) (O0 : Old Z n0 h0) (E_wI : Exa Z Z.heap wI "com/example/notesmith/notesmith/note/ConvertedInterest") (F_wI_ordinal : Fld Z Z.heap wI "java/lang/Enum" "ordinal" "I" (.int (0 : Int32))) (F_wI_label : Fld Z Z.heap wI "com/example/notesmith/notesmith/note/ConvertedInterest" "label" "Ljava/lang/String;" (.ref wI_label)) (E_wI_label : Exa Z Z.heap wI_label "java/lang/String") (F_wI_label_coder : Fld Z Z.heap wI_label "java/lang/String" "coder" "B" (.int (0 : Int32))) (F_wI_label_value : Fld Z Z.heap wI_label "java/lang/String" "value" "[B" (.ref wI_label_value)) (V_wI : Arv Z Z.heap wI_label_value k_wI_label_value .byte (8 : Int32) [.int (105 : Int32), .int (110 : Int32), .int (99 : Int32), .int (108 : Int32), .int (117 : Int32), .int (100 : Int32), .int (101 : Int32), .int (100 : Int32)] (.int (0 : Int32))) (E_wX : Exa Z Z.heap wX "com/example/notesmith/notesmith/note/ConvertedInterest") (F_wX_ordinal : Fld Z Z.heap wX "java/lang/Enum" "ordinal" "I" (.int (1 : Int32))) (F_wX_label : Fld Z Z.heap wX "com/example/notesmith/notesmith/note/ConvertedInterest" "label" "Ljava/lang/String;" (.ref wX_label)) (E_wX_label : Exa Z Z.heap wX_label "java/lang/String") (F_wX_label_coder : Fld Z Z.heap wX_label "java/lang/String" "coder" "B" (.int (0 : Int32))) (F_wX_label_value : Fld Z Z.heap wX_label "java/lang/String" "value" "[B" (.ref wX_label_value)) (V_wX : Arv Z Z.heap wX_label_value k_wX_label_value .byte (8 : Int32) [.int (101 : Int32), .int (120 : Int32), .int (99 : Int32), .int (108 : Int32), .int (117 : Int32), .int (100 : Int32), .int (101 : Int32), .int (100 : Int32)] (.int (0 : Int32))) (E_wE : Exa Z Z.heap wE "com/example/notesmith/notesmith/note/ConvertedInterest") (F_wE_ordinal : Fld Z Z.heap wE "java/lang/Enum" "ordinal" "I" (.int (2 : Int32))) (F_wE_label : Fld Z Z.heap wE "com/example/notesmith/notesmith/note/ConvertedInterest" "label" "Ljava/lang/String;" (.ref wE_label)) (E_wE_label : Exa Z Z.heap wE_label "java/lang/String") (F_wE_label_coder : Fld Z Z.heap wE_label "java/lang/String" "coder" "B" (.int (0 : Int32))) (F_wE_label_value : Fld Z Z.heap wE_label "java/lang/String" "value" "[B" (.ref wE_label_value)) (V_wE : Arv Z Z.heap wE_label_value k_wE_label_value .byte (13 : Int32) [.int (105 : Int32), .int (115 : Int32), .int (115 : Int32), .int (117 : Int32), .int (101 : Int32), .int (114 : Int32), .int (45 : Int32), .int (101 : Int32), .int (108 : Int32), .int (101 : Int32), .int (99 : Int32), .int (116 : Int32), .int (115 : Int32)] (.int (0 : Int32))) (hpc : ¬ (pC = (0 : Int32))) (hn : n0 = h0.size) (hcw : Jvm.Lit.compactW.before a0 Z = true) (hc34 : Jvm.Lit.constHeld Z "com/example/notesmith/notesmith/note/ConvertedInterestConvertsPinLaw" 34) (hc42 : Jvm.Lit.constHeld Z "com/example/notesmith/notesmith/note/ConvertedInterestConvertsPinLaw" 42) (hc44 : Jvm.Lit.constHeld Z "com/example/notesmith/notesmith/note/ConvertedInterestConvertsPinLaw" 44) (S_wI : Sta Z Z.heap "com/example/notesmith/notesmith/note/ConvertedInterest" "INCLUDED" "Lcom/example/notesmith/notesmith/note/ConvertedInterest;" (.ref wI)) (S_wX : Sta Z Z.heap "com/example/notesmith/notesmith/note/ConvertedInterest" "EXCLUDED" "Lcom/example/notesmith/notesmith/note/ConvertedInterest;" (.ref wX)) (S_wE : Sta Z Z.heap "com/example/notesmith/notesmith/note/ConvertedInterest" "ISSUER_ELECTS" "Lcom/example/notesmith/notesmith/note/ConvertedInterest;" (.ref wE)) (S_pC : Sta Z Z.heap "java/lang/String" "COMPACT_STRINGS" "Z" (.int pC)) :
    MetFree l x (head1 (Jvm.Cond.code x code maxLocals ret :: ws) room_1) (fun a U => a = #[(.int p1), (.int p2)] ∧ Z.Warmed39 U.vm ∧ U.heap = h0 ∧ IB Z U.vm []) (fun _ _ _ _ _ => True) (fun _ U o U' => ∃ v L, o = .returned v ∧ Q0 Z p1 p2 wI_label wI_label_value k_wI_label_value wX_label wX_label_value k_wX_label_value wE_label wE_label_value k_wE_label_value wI wX wE pC h0 n0 v U'.heap L ∧ ReturnedEndW U o U' L room_1.cells room_1.slots) := by
  refine MetFree.of_bodySF (plainFor_of_name pn_1) hisR ?_
  intro p e s m args below meth c s₁ Bd hml0 hP hK
  obtain ⟨rfl, hZ, hh, hIB⟩ := hP
  have hx := Bd.exec
  have hby := Bd.bytes
  have hml : c.maxLocals = 7 := hml0
  have hown : s.vm.findClass "com/example/notesmith/notesmith/note/ConvertedInterestConvertsPinLaw" = some m.cls := findClass_of_methodNamed Bd.named
  have hnm := (name_of_methodNamed Bd.named Bd.method).1
  have hret := Bd.returns
  have hlocks : meth.locks = false := Bd.notSynchronized
  have X0 : Stand p l e room_1 s m #[(.int p1), (.int p2)] below meth c s₁ [] 0 0 := Stand.of_body Bd
  have e0 : s₁.heap = h0 := by rw [← hh, Bd.state]; rfl
  have N0 := Fr.nil n0
  have hS0 : s.Since s.vm h0.size := (State.WarmedH.refl s).since _
  have SK0 : h0.size ≤ h0.size := Nat.le_refl _
  have hn0 : n0 = s.heap.size := by rw [hh]; exact hn
  have hkeep : ∀ (b : Addr) (cl : Cell), Z.heap[b]? = some cl → s.heap[b]? = some cl := fun b cl hb => by rw [hh]; exact O0.2.2 b cl hb
  have pre0 : ∀ t, Steps p.tables e below (s₁.setTop (mkF m 0 #[.val (.int p1), .val (.int p2), .unset, .unset, .unset, .unset, .unset] [])) t → Steps p.tables e below (s₁.setTop (entryFrame m #[(.int p1), (.int p2)] maxLocals)) t := fun t k => castTop (ef_0 m p1 p2) k
  have pre466 : ∀ t, Steps p.tables e below (s₁.setTop (mkF m 1 #[.val (.int p1), .val (.int p2), .unset, .unset, .unset, .unset, .unset] [(.int p1)])) t → Steps p.tables e below (s₁.setTop (entryFrame m #[(.int p1), (.int p2)] maxLocals)) t := by
    intro t k
    refine pre0 _ ?_
    show Steps p.tables e below (s₁.setTop (mkF m 0 #[.val (.int p1), .val (.int p2), .unset, .unset, .unset, .unset, .unset] [])) _
    refine XS.iloadN X0.here hx rfl (hb hby at_0) rfl ?_
    exact k
  by_cases hk467 : ((p1 &&& (2147483647 : Int32)) % (3 : Int32)) = (0 : Int32)
  · obtain ⟨_, _, ⟨T468, L468, k468, n468⟩, -, X468, ⟨Lc468, hQ468, l468, y468, z468⟩, st468⟩ := Jvm.LawKit.callS X0 hx (y := (⟨"com/example/notesmith/notesmith/note/ConvertedInterestConvertsPinLaw", "pick", "(I)Lcom/example/notesmith/notesmith/note/ConvertedInterest;"⟩ : MethodName)) hown (mvT hZ (hw _ (List.mem_of_getElem? (i := 0) rfl))) (mvT hZ (hw _ (List.mem_of_getElem? (i := 1) rfl))) (mvT hZ (hw _ (List.mem_of_getElem? (i := 2) rfl))) (mvT hZ (hw _ (List.mem_of_getElem? (i := 3) rfl))) (by decide) (backOf (W := 0) (rm1i l Z a0 hw [] p1 wI wX wE h0 n0 Z0 hk467 (S_wI.ext O0.2) (S_wX.ext O0.2) (S_wE.ext O0.2)) hZ (hw _ (List.mem_of_getElem? (i := 3) rfl)) (hw _ (List.mem_of_getElem? (i := 2) rfl)) (by decide) (by decide)) (g := (mkF m 1 #[.val (.int p1), .val (.int p2), .unset, .unset, .unset, .unset, .unset] [(.int p1)])) rfl (by rw [hml]; rfl) (argsL := [(.int p1)]) (rest := []) (lenOf pd__I_Lcom_example_notesmith_notesmith_note_ConvertedInterest_ rfl) rfl (by show 2 * 0 + _ ≤ _; exact Nat.le_of_eq rfl) (hb hby at_1) (fun _ _ => ⟨rfl, e0, (by decide : 0 + 0 ≤ _), (by decide : 0 + 0 ≤ _)⟩)
    dsimp only [Pt.U, Pt.locs, Pt.cells, Pt.slots] at X468 l468 y468 z468 st468 hQ468
    subst l468 y468 z468
    obtain ⟨rfl, N468q, e468⟩ := hQ468
    have N468 := Fr.app N0 N468q
    have pre469 : ∀ t, Steps p.tables e below (T468.setTop (mkF m 4 #[.val (.int p1), .val (.int p2), .unset, .unset, .unset, .unset, .unset] [(.ref wI)])) t → Steps p.tables e below (s₁.setTop (entryFrame m #[(.int p1), (.int p2)] maxLocals)) t := by
      intro t k
      refine pre466 _ ?_
      show Steps p.tables e below (s₁.setTop (mkF m 1 #[.val (.int p1), .val (.int p2), .unset, .unset, .unset, .unset, .unset] [(.int p1)])) _
      refine st468 _ ?_
      exact k
    have pre470 : ∀ t, Steps p.tables e below (T468.setTop (mkF m 8 #[.val (.int p1), .val (.int p2), .val (.ref wI), .unset, .unset, .unset, .unset] [(.int (p2 &&& (1 : Int32)))])) t → Steps p.tables e below (s₁.setTop (entryFrame m #[(.int p1), (.int p2)] maxLocals)) t := by
      intro t k
      refine pre469 _ ?_
      show Steps p.tables e below (T468.setTop (mkF m 4 #[.val (.int p1), .val (.int p2), .unset, .unset, .unset, .unset, .unset] [(.ref wI)])) _
      refine XS.astoreN X468.here hx rfl (hb hby at_4) rfl rfl (l' := #[.val (.int p1), .val (.int p2), .val (.ref wI), .unset, .unset, .unset, .unset]) rfl ?_
      show Steps p.tables e below (T468.setTop (mkF m 5 #[.val (.int p1), .val (.int p2), .val (.ref wI), .unset, .unset, .unset, .unset] [])) _
      refine XS.iloadN X468.here hx rfl (hb hby at_5) rfl ?_
      show Steps p.tables e below (T468.setTop (mkF m 6 #[.val (.int p1), .val (.int p2), .val (.ref wI), .unset, .unset, .unset, .unset] [(.int p2)])) _
      refine XS.iconst X468.here hx rfl (hb hby at_6) ?_
      show Steps p.tables e below (T468.setTop (mkF m 7 #[.val (.int p1), .val (.int p2), .val (.ref wI), .unset, .unset, .unset, .unset] [(.int (1 : Int32)), (.int p2)])) _
      refine XS.iand X468.here hx rfl (hb hby at_7) rfl ?_
      exact k
    by_cases hc471 : (p2 &&& (1 : Int32)) = (0 : Int32)
    · have pre472 : ∀ t, Steps p.tables e below (T468.setTop (mkF m 15 #[.val (.int p1), .val (.int p2), .val (.ref wI), .unset, .unset, .unset, .unset] [])) t → Steps p.tables e below (s₁.setTop (entryFrame m #[(.int p1), (.int p2)] maxLocals)) t := by
        intro t k
        refine pre470 _ ?_
        show Steps p.tables e below (T468.setTop (mkF m 8 #[.val (.int p1), .val (.int p2), .val (.ref wI), .unset, .unset, .unset, .unset] [(.int (p2 &&& (1 : Int32)))])) _
        refine XS.ifYes X468.here hx rfl (pc0 := 8) (pc' := 15) rfl (hb hby at_8) rfl ((if0 _ _).trans (teq hc471).1) (by decide) (by decide) ?_
        exact k
      have pre473 : ∀ t, Steps p.tables e below (T468.setTop (mkF m 19 #[.val (.int p1), .val (.int p2), .val (.ref wI), .val (.int (0 : Int32)), .unset, .unset, .unset] [(.int (0 : Int32)), (.ref wI)])) t → Steps p.tables e below (s₁.setTop (entryFrame m #[(.int p1), (.int p2)] maxLocals)) t := by
        intro t k
        refine pre472 _ ?_
        show Steps p.tables e below (T468.setTop (mkF m 15 #[.val (.int p1), .val (.int p2), .val (.ref wI), .unset, .unset, .unset, .unset] [])) _
        refine XS.iconst X468.here hx rfl (hb hby at_15) ?_
        show Steps p.tables e below (T468.setTop (mkF m 16 #[.val (.int p1), .val (.int p2), .val (.ref wI), .unset, .unset, .unset, .unset] [(.int (0 : Int32))])) _
        refine XS.istoreN X468.here hx rfl (hb hby at_16) rfl (l' := #[.val (.int p1), .val (.int p2), .val (.ref wI), .val (.int (0 : Int32)), .unset, .unset, .unset]) rfl ?_
        show Steps p.tables e below (T468.setTop (mkF m 17 #[.val (.int p1), .val (.int p2), .val (.ref wI), .val (.int (0 : Int32)), .unset, .unset, .unset] [])) _
        refine XS.aloadN X468.here hx rfl (hb hby at_17) rfl rfl ?_
        show Steps p.tables e below (T468.setTop (mkF m 18 #[.val (.int p1), .val (.int p2), .val (.ref wI), .val (.int (0 : Int32)), .unset, .unset, .unset] [(.ref wI)])) _
        refine XS.iloadN X468.here hx rfl (hb hby at_18) rfl ?_
        exact k
      obtain ⟨cq474, kq474, q474a, q474b, q474c⟩ := isOf hZ e468 (E_wI.ext O0.2)
      obtain ⟨_, _, ⟨T474, L474, k474, n474⟩, -, X474, ⟨Lc474, hQ474, l474, y474, z474⟩, st474⟩ := X468.virtualBack hx (y := (⟨"com/example/notesmith/notesmith/note/ConvertedInterest", "converts", "(Z)Z"⟩ : MethodName)) (z := (⟨"com/example/notesmith/notesmith/note/ConvertedInterest", "converts", "(Z)Z"⟩ : MethodName)) hown (mvT hZ (hw _ (List.mem_of_getElem? (i := 8) rfl))) (mvT hZ (hw _ (List.mem_of_getElem? (i := 9) rfl))) (notFace_of_selects (args := #[]) (mvT hZ (hw _ (List.mem_of_getElem? (i := 11) rfl)))) (mvT hZ (hw _ (List.mem_of_getElem? (i := 11) rfl))) (mvT hZ (hw _ (List.mem_of_getElem? (i := 10) rfl))) (by decide) (backOf (W := 0) (rm2i l Z a0 hw [] wI (0 : Int32) h0 n0 Z0 (E_wI.ext O0.2) (F_wI_ordinal.ext O0.2)) hZ (hw _ (List.mem_of_getElem? (i := 12) rfl)) (hw _ (List.mem_of_getElem? (i := 6) rfl)) (by decide) (by decide)) q474a q474c (g := (mkF m 19 #[.val (.int p1), .val (.int p2), .val (.ref wI), .val (.int (0 : Int32)), .unset, .unset, .unset] [(.int (0 : Int32)), (.ref wI)])) rfl (by rw [hml]; rfl) (Steps.refl _) (argsL := [(.int (0 : Int32))]) (rest := []) (lenOf pd__Z_Z rfl) rfl (by show 2 * 0 + _ ≤ _; exact Nat.le_of_eq rfl) (hb hby at_19) (fun _ _ => ⟨rfl, e468, (by decide : 0 + 0 ≤ _), (by decide : 0 + 0 ≤ _)⟩)
      dsimp only [Pt.U, Pt.locs, Pt.cells, Pt.slots] at X474 l474 y474 z474 st474 hQ474
      subst l474 y474 z474
      obtain ⟨rfl, N474q, e474⟩ := hQ474
      have N474 := Fr.app N468 N474q
      have pre475 : ∀ t, Steps p.tables e below (T474.setTop (mkF m 22 #[.val (.int p1), .val (.int p2), .val (.ref wI), .val (.int (0 : Int32)), .unset, .unset, .unset] [(.int (1 : Int32))])) t → Steps p.tables e below (s₁.setTop (entryFrame m #[(.int p1), (.int p2)] maxLocals)) t := by
        intro t k
        refine pre473 _ ?_
        show Steps p.tables e below (T468.setTop (mkF m 19 #[.val (.int p1), .val (.int p2), .val (.ref wI), .val (.int (0 : Int32)), .unset, .unset, .unset] [(.int (0 : Int32)), (.ref wI)])) _
        refine st474.trans ?_
        exact k
      have pre476 : ∀ t, Steps p.tables e below (T474.setTop (mkF m 25 #[.val (.int p1), .val (.int p2), .val (.ref wI), .val (.int (0 : Int32)), .val (.int (1 : Int32)), .unset, .unset] [(.ref wI)])) t → Steps p.tables e below (s₁.setTop (entryFrame m #[(.int p1), (.int p2)] maxLocals)) t := by
        intro t k
        refine pre475 _ ?_
        show Steps p.tables e below (T474.setTop (mkF m 22 #[.val (.int p1), .val (.int p2), .val (.ref wI), .val (.int (0 : Int32)), .unset, .unset, .unset] [(.int (1 : Int32))])) _
        refine XS.istore X474.here hx rfl (hb hby at_22) rfl (l' := #[.val (.int p1), .val (.int p2), .val (.ref wI), .val (.int (0 : Int32)), .val (.int (1 : Int32)), .unset, .unset]) rfl ?_
        show Steps p.tables e below (T474.setTop (mkF m 24 #[.val (.int p1), .val (.int p2), .val (.ref wI), .val (.int (0 : Int32)), .val (.int (1 : Int32)), .unset, .unset] [])) _
        refine XS.aloadN X474.here hx rfl (hb hby at_24) rfl rfl ?_
        exact k
      obtain ⟨cq477, kq477, q477a, q477b, q477c⟩ := isOf hZ e474 (E_wI.ext O0.2)
      obtain ⟨_, _, ⟨T477, L477, k477, n477⟩, -, X477, ⟨Lc477, hQ477, l477, y477, z477⟩, st477⟩ := X474.virtualBack hx (y := (⟨"com/example/notesmith/notesmith/note/ConvertedInterest", "label", "()Ljava/lang/String;"⟩ : MethodName)) (z := (⟨"com/example/notesmith/notesmith/note/ConvertedInterest", "label", "()Ljava/lang/String;"⟩ : MethodName)) hown (mvT hZ (hw _ (List.mem_of_getElem? (i := 22) rfl))) (mvT hZ (hw _ (List.mem_of_getElem? (i := 23) rfl))) (notFace_of_selects (args := #[]) (mvT hZ (hw _ (List.mem_of_getElem? (i := 25) rfl)))) (mvT hZ (hw _ (List.mem_of_getElem? (i := 25) rfl))) (mvT hZ (hw _ (List.mem_of_getElem? (i := 24) rfl))) (by decide) (backOf (W := 0) (rm4 l Z a0 hw [] wI wI_label h0 n0 Z0 (F_wI_label.ext O0.2)) hZ (hw _ (List.mem_of_getElem? (i := 26) rfl)) (hw _ (List.mem_of_getElem? (i := 6) rfl)) (by decide) (by decide)) q477a q477c (g := (mkF m 25 #[.val (.int p1), .val (.int p2), .val (.ref wI), .val (.int (0 : Int32)), .val (.int (1 : Int32)), .unset, .unset] [(.ref wI)])) rfl (by rw [hml]; rfl) (Steps.refl _) (argsL := []) (rest := []) (lenOf pd___Ljava_lang_String_ rfl) rfl (by show 2 * 0 + _ ≤ _; exact Nat.le_of_eq rfl) (hb hby at_25) (fun _ _ => ⟨rfl, e474, (by decide : 0 + 0 ≤ _), (by decide : 0 + 0 ≤ _)⟩)
      dsimp only [Pt.U, Pt.locs, Pt.cells, Pt.slots] at X477 l477 y477 z477 st477 hQ477
      subst l477 y477 z477
      obtain ⟨rfl, N477q, e477⟩ := hQ477
      have N477 := Fr.app N474 N477q
      have pre478 : ∀ t, Steps p.tables e below (T477.setTop (mkF m 28 #[.val (.int p1), .val (.int p2), .val (.ref wI), .val (.int (0 : Int32)), .val (.int (1 : Int32)), .unset, .unset] [(.ref wI_label)])) t → Steps p.tables e below (s₁.setTop (entryFrame m #[(.int p1), (.int p2)] maxLocals)) t := by
        intro t k
        refine pre476 _ ?_
        show Steps p.tables e below (T474.setTop (mkF m 25 #[.val (.int p1), .val (.int p2), .val (.ref wI), .val (.int (0 : Int32)), .val (.int (1 : Int32)), .unset, .unset] [(.ref wI)])) _
        refine st477.trans ?_
        exact k
      have pre479 : ∀ t, Steps p.tables e below (T477.setTop (mkF m 32 #[.val (.int p1), .val (.int p2), .val (.ref wI), .val (.int (0 : Int32)), .val (.int (1 : Int32)), .val (.ref wI_label), .unset] [(.ref wI_label)])) t → Steps p.tables e below (s₁.setTop (entryFrame m #[(.int p1), (.int p2)] maxLocals)) t := by
        intro t k
        refine pre478 _ ?_
        show Steps p.tables e below (T477.setTop (mkF m 28 #[.val (.int p1), .val (.int p2), .val (.ref wI), .val (.int (0 : Int32)), .val (.int (1 : Int32)), .unset, .unset] [(.ref wI_label)])) _
        refine XS.astore X477.here hx rfl (hb hby at_28) rfl rfl (l' := #[.val (.int p1), .val (.int p2), .val (.ref wI), .val (.int (0 : Int32)), .val (.int (1 : Int32)), .val (.ref wI_label), .unset]) rfl ?_
        show Steps p.tables e below (T477.setTop (mkF m 30 #[.val (.int p1), .val (.int p2), .val (.ref wI), .val (.int (0 : Int32)), .val (.int (1 : Int32)), .val (.ref wI_label), .unset] [])) _
        refine XS.aload X477.here hx rfl (hb hby at_30) rfl rfl ?_
        exact k
      have NFs480 : Fr s.heap.size _ := hn0 ▸ N477
      obtain ⟨l480, T480, h480, kk480, vl480, k_vl480, X480, e480, E480, hS480, sk480, hZ480, hown480, Ex480, Co480, Va480, Av480, -, -, IB480, st480⟩ := ldcSV (s := s) (vm0 := s.vm) X477 hx hZ hown (hw _ (List.mem_of_getElem? (i := 29) rfl)) (own_wS hw) e477 hS0 SK0 NFs480 hkeep hIB (by decide) hc34 hcw (vs := [.int (105 : Int32), .int (110 : Int32), .int (99 : Int32), .int (108 : Int32), .int (117 : Int32), .int (100 : Int32), .int (101 : Int32), .int (100 : Int32)]) (z := (8 : Int32)) ⟨by decide, rfl⟩ (by decide) (by decide) (g := (mkF m 32 #[.val (.int p1), .val (.int p2), .val (.ref wI), .val (.int (0 : Int32)), .val (.int (1 : Int32)), .val (.ref wI_label), .unset] [(.ref wI_label)])) rfl (hb hby at_32) (n := 32) (by decide) (by decide) (by decide) (by decide)
      have O481 := O0.ext E480
      have Z482 : n0 ≤ h480.size := Nat.le_trans Z0 E480.1
      have pre483 : ∀ t, Steps p.tables e below (T480.setTop (mkF m 34 #[.val (.int p1), .val (.int p2), .val (.ref wI), .val (.int (0 : Int32)), .val (.int (1 : Int32)), .val (.ref wI_label), .unset] [(.ref l480), (.ref wI_label)])) t → Steps p.tables e below (s₁.setTop (entryFrame m #[(.int p1), (.int p2)] maxLocals)) t := by
        intro t k
        refine pre479 _ ?_
        show Steps p.tables e below (T477.setTop (mkF m 32 #[.val (.int p1), .val (.int p2), .val (.ref wI), .val (.int (0 : Int32)), .val (.int (1 : Int32)), .val (.ref wI_label), .unset] [(.ref wI_label)])) _
        refine st480 _ ?_
        exact k
      obtain ⟨cq484, kq484, q484a, q484b, q484c⟩ := isOf hZ480 e480 (E_wI_label.ext O481.2)
      obtain ⟨_, _, ⟨T484, L484, k484, n484⟩, -, X484, ⟨Lc484, hQ484, l484, y484, z484⟩, st484⟩ := X480.virtualBack hx (y := (⟨"java/lang/String", "equals", "(Ljava/lang/Object;)Z"⟩ : MethodName)) (z := (⟨"java/lang/String", "equals", "(Ljava/lang/Object;)Z"⟩ : MethodName)) hown480 (mvT hZ480 (hw _ (List.mem_of_getElem? (i := 37) rfl))) (mvT hZ480 (hw _ (List.mem_of_getElem? (i := 38) rfl))) (notFace_of_selects (args := #[]) (mvT hZ480 (hw _ (List.mem_of_getElem? (i := 40) rfl)))) (mvT hZ480 (hw _ (List.mem_of_getElem? (i := 40) rfl))) (mvT hZ480 (hw _ (List.mem_of_getElem? (i := 39) rfl))) (by decide) (backOf (W := 0) (rm5ii l Z a0 hw [] wI_label l480 wI_label_value vl480 k_wI_label_value k_vl480 pC h480 n0 Z482 Ex480 (F_wI_label_coder.ext O481.2) Co480 (F_wI_label_value.ext O481.2) Va480 (V_wI.ext O481.2) Av480 hpc (S_pC.ext O481.2)) hZ480 (hw _ (List.mem_of_getElem? (i := 41) rfl)) (hw _ (List.mem_of_getElem? (i := 30) rfl)) (by decide) (by decide)) q484a q484c (g := (mkF m 34 #[.val (.int p1), .val (.int p2), .val (.ref wI), .val (.int (0 : Int32)), .val (.int (1 : Int32)), .val (.ref wI_label), .unset] [(.ref l480), (.ref wI_label)])) rfl (by rw [hml]; rfl) (Steps.refl _) (argsL := [(.ref l480)]) (rest := []) (lenOf pd__Ljava_lang_Object__Z rfl) rfl (by show 2 * 0 + _ ≤ _; exact Nat.le_of_eq rfl) (hb hby at_34) (fun _ _ => ⟨rfl, e480, (by decide : 2 + 0 ≤ _), (by decide : 36 + 0 ≤ _)⟩)
      dsimp only [Pt.U, Pt.locs, Pt.cells, Pt.slots] at X484 l484 y484 z484 st484 hQ484
      subst l484 y484 z484
      obtain ⟨rfl, N484q, e484⟩ := hQ484
      have N484 := Fr.app N477 N484q
      have pre485 : ∀ t, Steps p.tables e below (T484.setTop (mkF m 37 #[.val (.int p1), .val (.int p2), .val (.ref wI), .val (.int (0 : Int32)), .val (.int (1 : Int32)), .val (.ref wI_label), .unset] [(.int (1 : Int32))])) t → Steps p.tables e below (s₁.setTop (entryFrame m #[(.int p1), (.int p2)] maxLocals)) t := by
        intro t k
        refine pre483 _ ?_
        show Steps p.tables e below (T480.setTop (mkF m 34 #[.val (.int p1), .val (.int p2), .val (.ref wI), .val (.int (0 : Int32)), .val (.int (1 : Int32)), .val (.ref wI_label), .unset] [(.ref l480), (.ref wI_label)])) _
        refine st484.trans ?_
        exact k
      have pre487 : ∀ t, Steps p.tables e below (T484.setTop (mkF m 40 #[.val (.int p1), .val (.int p2), .val (.ref wI), .val (.int (0 : Int32)), .val (.int (1 : Int32)), .val (.ref wI_label), .unset] [])) t → Steps p.tables e below (s₁.setTop (entryFrame m #[(.int p1), (.int p2)] maxLocals)) t := by
        intro t k
        refine pre485 _ ?_
        show Steps p.tables e below (T484.setTop (mkF m 37 #[.val (.int p1), .val (.int p2), .val (.ref wI), .val (.int (0 : Int32)), .val (.int (1 : Int32)), .val (.ref wI_label), .unset] [(.int (1 : Int32))])) _
        refine XS.ifNo X484.here hx rfl (hb hby at_37) rfl ((if0 _ _).trans (feq (by decide : ¬ ((1 : Int32) = (0 : Int32)))).1) ?_
        exact k
      have pre488 : ∀ t, Steps p.tables e below (T484.setTop (mkF m 84 #[.val (.int p1), .val (.int p2), .val (.ref wI), .val (.int (0 : Int32)), .val (.int (1 : Int32)), .val (.ref wI_label), .val (.int (1 : Int32))] [(.int (1 : Int32)), (.int (1 : Int32))])) t → Steps p.tables e below (s₁.setTop (entryFrame m #[(.int p1), (.int p2)] maxLocals)) t := by
        intro t k
        refine pre487 _ ?_
        show Steps p.tables e below (T484.setTop (mkF m 40 #[.val (.int p1), .val (.int p2), .val (.ref wI), .val (.int (0 : Int32)), .val (.int (1 : Int32)), .val (.ref wI_label), .unset] [])) _
        refine XS.iconst X484.here hx rfl (hb hby at_40) ?_
        show Steps p.tables e below (T484.setTop (mkF m 41 #[.val (.int p1), .val (.int p2), .val (.ref wI), .val (.int (0 : Int32)), .val (.int (1 : Int32)), .val (.ref wI_label), .unset] [(.int (1 : Int32))])) _
        refine XS.istore X484.here hx rfl (hb hby at_41) rfl (l' := #[.val (.int p1), .val (.int p2), .val (.ref wI), .val (.int (0 : Int32)), .val (.int (1 : Int32)), .val (.ref wI_label), .val (.int (1 : Int32))]) rfl ?_
        show Steps p.tables e below (T484.setTop (mkF m 43 #[.val (.int p1), .val (.int p2), .val (.ref wI), .val (.int (0 : Int32)), .val (.int (1 : Int32)), .val (.ref wI_label), .val (.int (1 : Int32))] [])) _
        refine XS.goto X484.here hx rfl (pc0 := 43) (pc' := 80) rfl (hb hby at_43) (by decide) (by decide) ?_
        show Steps p.tables e below (T484.setTop (mkF m 80 #[.val (.int p1), .val (.int p2), .val (.ref wI), .val (.int (0 : Int32)), .val (.int (1 : Int32)), .val (.ref wI_label), .val (.int (1 : Int32))] [])) _
        refine XS.iload X484.here hx rfl (hb hby at_80) rfl ?_
        show Steps p.tables e below (T484.setTop (mkF m 82 #[.val (.int p1), .val (.int p2), .val (.ref wI), .val (.int (0 : Int32)), .val (.int (1 : Int32)), .val (.ref wI_label), .val (.int (1 : Int32))] [(.int (1 : Int32))])) _
        refine XS.iload X484.here hx rfl (hb hby at_82) rfl ?_
        exact k
      have pre490 : ∀ t, Steps p.tables e below (T484.setTop (mkF m 87 #[.val (.int p1), .val (.int p2), .val (.ref wI), .val (.int (0 : Int32)), .val (.int (1 : Int32)), .val (.ref wI_label), .val (.int (1 : Int32))] [])) t → Steps p.tables e below (s₁.setTop (entryFrame m #[(.int p1), (.int p2)] maxLocals)) t := by
        intro t k
        refine pre488 _ ?_
        show Steps p.tables e below (T484.setTop (mkF m 84 #[.val (.int p1), .val (.int p2), .val (.ref wI), .val (.int (0 : Int32)), .val (.int (1 : Int32)), .val (.ref wI_label), .val (.int (1 : Int32))] [(.int (1 : Int32)), (.int (1 : Int32))])) _
        refine XS.icmpNo X484.here hx rfl (hb hby at_84) rfl (teq (rfl : (1 : Int32) = (1 : Int32))).2 ?_
        exact k
      have pre491 : ∀ t, Steps p.tables e below (T484.setTop (mkF m 92 #[.val (.int p1), .val (.int p2), .val (.ref wI), .val (.int (0 : Int32)), .val (.int (1 : Int32)), .val (.ref wI_label), .val (.int (1 : Int32))] [(.int (1 : Int32))])) t → Steps p.tables e below (s₁.setTop (entryFrame m #[(.int p1), (.int p2)] maxLocals)) t := by
        intro t k
        refine pre490 _ ?_
        show Steps p.tables e below (T484.setTop (mkF m 87 #[.val (.int p1), .val (.int p2), .val (.ref wI), .val (.int (0 : Int32)), .val (.int (1 : Int32)), .val (.ref wI_label), .val (.int (1 : Int32))] [])) _
        refine XS.iconst X484.here hx rfl (hb hby at_87) ?_
        show Steps p.tables e below (T484.setTop (mkF m 88 #[.val (.int p1), .val (.int p2), .val (.ref wI), .val (.int (0 : Int32)), .val (.int (1 : Int32)), .val (.ref wI_label), .val (.int (1 : Int32))] [(.int (1 : Int32))])) _
        refine XS.goto X484.here hx rfl (pc0 := 88) (pc' := 92) rfl (hb hby at_88) (by decide) (by decide) ?_
        exact k
      obtain ⟨fs, hr, hrun, hended, hsame⟩ := Stand.leaveW (s := s) (vm₁ := T480.vm) X484 hS480 (by rw [e484]; exact sk480) (v := some (.int (1 : Int32))) (fun h => by rw [hret] at h; cases h)
      refine ⟨_, _, pre491 _ ?_, hrun, hended, _, _, rfl, ?_, ⟨hsame.1, hsame.2.1, hsame.2.2.1, hsame.2.2.2.mono (by decide) (by decide)⟩⟩
      · show Steps p.tables e below (T484.setTop (mkF m 92 #[.val (.int p1), .val (.int p2), .val (.ref wI), .val (.int (0 : Int32)), .val (.int (1 : Int32)), .val (.ref wI_label), .val (.int (1 : Int32))] [(.int (1 : Int32))])) _
        exact retN X484 hx (t := .boolean) hret (by simp) (hb hby at_92) hr
      · show Q0 Z p1 p2 wI_label wI_label_value k_wI_label_value wX_label wX_label_value k_wX_label_value wE_label wE_label_value k_wE_label_value wI wX wE pC h0 n0 _ T484.heap _
        exact ⟨(by rw [F0, if_pos hk467, if_pos hc471]), N484⟩
    · have pre492 : ∀ t, Steps p.tables e below (T468.setTop (mkF m 11 #[.val (.int p1), .val (.int p2), .val (.ref wI), .unset, .unset, .unset, .unset] [])) t → Steps p.tables e below (s₁.setTop (entryFrame m #[(.int p1), (.int p2)] maxLocals)) t := by
        intro t k
        refine pre470 _ ?_
        show Steps p.tables e below (T468.setTop (mkF m 8 #[.val (.int p1), .val (.int p2), .val (.ref wI), .unset, .unset, .unset, .unset] [(.int (p2 &&& (1 : Int32)))])) _
        refine XS.ifNo X468.here hx rfl (hb hby at_8) rfl ((if0 _ _).trans (feq hc471).1) ?_
        exact k
      have pre493 : ∀ t, Steps p.tables e below (T468.setTop (mkF m 19 #[.val (.int p1), .val (.int p2), .val (.ref wI), .val (.int (1 : Int32)), .unset, .unset, .unset] [(.int (1 : Int32)), (.ref wI)])) t → Steps p.tables e below (s₁.setTop (entryFrame m #[(.int p1), (.int p2)] maxLocals)) t := by
        intro t k
        refine pre492 _ ?_
        show Steps p.tables e below (T468.setTop (mkF m 11 #[.val (.int p1), .val (.int p2), .val (.ref wI), .unset, .unset, .unset, .unset] [])) _
        refine XS.iconst X468.here hx rfl (hb hby at_11) ?_
        show Steps p.tables e below (T468.setTop (mkF m 12 #[.val (.int p1), .val (.int p2), .val (.ref wI), .unset, .unset, .unset, .unset] [(.int (1 : Int32))])) _
        refine XS.goto X468.here hx rfl (pc0 := 12) (pc' := 16) rfl (hb hby at_12) (by decide) (by decide) ?_
        show Steps p.tables e below (T468.setTop (mkF m 16 #[.val (.int p1), .val (.int p2), .val (.ref wI), .unset, .unset, .unset, .unset] [(.int (1 : Int32))])) _
        refine XS.istoreN X468.here hx rfl (hb hby at_16) rfl (l' := #[.val (.int p1), .val (.int p2), .val (.ref wI), .val (.int (1 : Int32)), .unset, .unset, .unset]) rfl ?_
        show Steps p.tables e below (T468.setTop (mkF m 17 #[.val (.int p1), .val (.int p2), .val (.ref wI), .val (.int (1 : Int32)), .unset, .unset, .unset] [])) _
        refine XS.aloadN X468.here hx rfl (hb hby at_17) rfl rfl ?_
        show Steps p.tables e below (T468.setTop (mkF m 18 #[.val (.int p1), .val (.int p2), .val (.ref wI), .val (.int (1 : Int32)), .unset, .unset, .unset] [(.ref wI)])) _
        refine XS.iloadN X468.here hx rfl (hb hby at_18) rfl ?_
        exact k
      obtain ⟨cq494, kq494, q494a, q494b, q494c⟩ := isOf hZ e468 (E_wI.ext O0.2)
      obtain ⟨_, _, ⟨T494, L494, k494, n494⟩, -, X494, ⟨Lc494, hQ494, l494, y494, z494⟩, st494⟩ := X468.virtualBack hx (y := (⟨"com/example/notesmith/notesmith/note/ConvertedInterest", "converts", "(Z)Z"⟩ : MethodName)) (z := (⟨"com/example/notesmith/notesmith/note/ConvertedInterest", "converts", "(Z)Z"⟩ : MethodName)) hown (mvT hZ (hw _ (List.mem_of_getElem? (i := 8) rfl))) (mvT hZ (hw _ (List.mem_of_getElem? (i := 9) rfl))) (notFace_of_selects (args := #[]) (mvT hZ (hw _ (List.mem_of_getElem? (i := 11) rfl)))) (mvT hZ (hw _ (List.mem_of_getElem? (i := 11) rfl))) (mvT hZ (hw _ (List.mem_of_getElem? (i := 10) rfl))) (by decide) (backOf (W := 0) (rm2i l Z a0 hw [] wI (1 : Int32) h0 n0 Z0 (E_wI.ext O0.2) (F_wI_ordinal.ext O0.2)) hZ (hw _ (List.mem_of_getElem? (i := 12) rfl)) (hw _ (List.mem_of_getElem? (i := 6) rfl)) (by decide) (by decide)) q494a q494c (g := (mkF m 19 #[.val (.int p1), .val (.int p2), .val (.ref wI), .val (.int (1 : Int32)), .unset, .unset, .unset] [(.int (1 : Int32)), (.ref wI)])) rfl (by rw [hml]; rfl) (Steps.refl _) (argsL := [(.int (1 : Int32))]) (rest := []) (lenOf pd__Z_Z rfl) rfl (by show 2 * 0 + _ ≤ _; exact Nat.le_of_eq rfl) (hb hby at_19) (fun _ _ => ⟨rfl, e468, (by decide : 0 + 0 ≤ _), (by decide : 0 + 0 ≤ _)⟩)
      dsimp only [Pt.U, Pt.locs, Pt.cells, Pt.slots] at X494 l494 y494 z494 st494 hQ494
      subst l494 y494 z494
      obtain ⟨rfl, N494q, e494⟩ := hQ494
      have N494 := Fr.app N468 N494q
      have pre495 : ∀ t, Steps p.tables e below (T494.setTop (mkF m 22 #[.val (.int p1), .val (.int p2), .val (.ref wI), .val (.int (1 : Int32)), .unset, .unset, .unset] [(.int (1 : Int32))])) t → Steps p.tables e below (s₁.setTop (entryFrame m #[(.int p1), (.int p2)] maxLocals)) t := by
        intro t k
        refine pre493 _ ?_
        show Steps p.tables e below (T468.setTop (mkF m 19 #[.val (.int p1), .val (.int p2), .val (.ref wI), .val (.int (1 : Int32)), .unset, .unset, .unset] [(.int (1 : Int32)), (.ref wI)])) _
        refine st494.trans ?_
        exact k
      have pre496 : ∀ t, Steps p.tables e below (T494.setTop (mkF m 25 #[.val (.int p1), .val (.int p2), .val (.ref wI), .val (.int (1 : Int32)), .val (.int (1 : Int32)), .unset, .unset] [(.ref wI)])) t → Steps p.tables e below (s₁.setTop (entryFrame m #[(.int p1), (.int p2)] maxLocals)) t := by
        intro t k
        refine pre495 _ ?_
        show Steps p.tables e below (T494.setTop (mkF m 22 #[.val (.int p1), .val (.int p2), .val (.ref wI), .val (.int (1 : Int32)), .unset, .unset, .unset] [(.int (1 : Int32))])) _
        refine XS.istore X494.here hx rfl (hb hby at_22) rfl (l' := #[.val (.int p1), .val (.int p2), .val (.ref wI), .val (.int (1 : Int32)), .val (.int (1 : Int32)), .unset, .unset]) rfl ?_
        show Steps p.tables e below (T494.setTop (mkF m 24 #[.val (.int p1), .val (.int p2), .val (.ref wI), .val (.int (1 : Int32)), .val (.int (1 : Int32)), .unset, .unset] [])) _
        refine XS.aloadN X494.here hx rfl (hb hby at_24) rfl rfl ?_
        exact k
      obtain ⟨cq497, kq497, q497a, q497b, q497c⟩ := isOf hZ e494 (E_wI.ext O0.2)
      obtain ⟨_, _, ⟨T497, L497, k497, n497⟩, -, X497, ⟨Lc497, hQ497, l497, y497, z497⟩, st497⟩ := X494.virtualBack hx (y := (⟨"com/example/notesmith/notesmith/note/ConvertedInterest", "label", "()Ljava/lang/String;"⟩ : MethodName)) (z := (⟨"com/example/notesmith/notesmith/note/ConvertedInterest", "label", "()Ljava/lang/String;"⟩ : MethodName)) hown (mvT hZ (hw _ (List.mem_of_getElem? (i := 22) rfl))) (mvT hZ (hw _ (List.mem_of_getElem? (i := 23) rfl))) (notFace_of_selects (args := #[]) (mvT hZ (hw _ (List.mem_of_getElem? (i := 25) rfl)))) (mvT hZ (hw _ (List.mem_of_getElem? (i := 25) rfl))) (mvT hZ (hw _ (List.mem_of_getElem? (i := 24) rfl))) (by decide) (backOf (W := 0) (rm4 l Z a0 hw [] wI wI_label h0 n0 Z0 (F_wI_label.ext O0.2)) hZ (hw _ (List.mem_of_getElem? (i := 26) rfl)) (hw _ (List.mem_of_getElem? (i := 6) rfl)) (by decide) (by decide)) q497a q497c (g := (mkF m 25 #[.val (.int p1), .val (.int p2), .val (.ref wI), .val (.int (1 : Int32)), .val (.int (1 : Int32)), .unset, .unset] [(.ref wI)])) rfl (by rw [hml]; rfl) (Steps.refl _) (argsL := []) (rest := []) (lenOf pd___Ljava_lang_String_ rfl) rfl (by show 2 * 0 + _ ≤ _; exact Nat.le_of_eq rfl) (hb hby at_25) (fun _ _ => ⟨rfl, e494, (by decide : 0 + 0 ≤ _), (by decide : 0 + 0 ≤ _)⟩)
      dsimp only [Pt.U, Pt.locs, Pt.cells, Pt.slots] at X497 l497 y497 z497 st497 hQ497
      subst l497 y497 z497
      obtain ⟨rfl, N497q, e497⟩ := hQ497
      have N497 := Fr.app N494 N497q
      have pre498 : ∀ t, Steps p.tables e below (T497.setTop (mkF m 28 #[.val (.int p1), .val (.int p2), .val (.ref wI), .val (.int (1 : Int32)), .val (.int (1 : Int32)), .unset, .unset] [(.ref wI_label)])) t → Steps p.tables e below (s₁.setTop (entryFrame m #[(.int p1), (.int p2)] maxLocals)) t := by
        intro t k
        refine pre496 _ ?_
        show Steps p.tables e below (T494.setTop (mkF m 25 #[.val (.int p1), .val (.int p2), .val (.ref wI), .val (.int (1 : Int32)), .val (.int (1 : Int32)), .unset, .unset] [(.ref wI)])) _
        refine st497.trans ?_
        exact k
      have pre499 : ∀ t, Steps p.tables e below (T497.setTop (mkF m 32 #[.val (.int p1), .val (.int p2), .val (.ref wI), .val (.int (1 : Int32)), .val (.int (1 : Int32)), .val (.ref wI_label), .unset] [(.ref wI_label)])) t → Steps p.tables e below (s₁.setTop (entryFrame m #[(.int p1), (.int p2)] maxLocals)) t := by
        intro t k
        refine pre498 _ ?_
        show Steps p.tables e below (T497.setTop (mkF m 28 #[.val (.int p1), .val (.int p2), .val (.ref wI), .val (.int (1 : Int32)), .val (.int (1 : Int32)), .unset, .unset] [(.ref wI_label)])) _
        refine XS.astore X497.here hx rfl (hb hby at_28) rfl rfl (l' := #[.val (.int p1), .val (.int p2), .val (.ref wI), .val (.int (1 : Int32)), .val (.int (1 : Int32)), .val (.ref wI_label), .unset]) rfl ?_
        show Steps p.tables e below (T497.setTop (mkF m 30 #[.val (.int p1), .val (.int p2), .val (.ref wI), .val (.int (1 : Int32)), .val (.int (1 : Int32)), .val (.ref wI_label), .unset] [])) _
        refine XS.aload X497.here hx rfl (hb hby at_30) rfl rfl ?_
        exact k
      have NFs500 : Fr s.heap.size _ := hn0 ▸ N497
      obtain ⟨l500, T500, h500, kk500, vl500, k_vl500, X500, e500, E500, hS500, sk500, hZ500, hown500, Ex500, Co500, Va500, Av500, -, -, IB500, st500⟩ := ldcSV (s := s) (vm0 := s.vm) X497 hx hZ hown (hw _ (List.mem_of_getElem? (i := 29) rfl)) (own_wS hw) e497 hS0 SK0 NFs500 hkeep hIB (by decide) hc34 hcw (vs := [.int (105 : Int32), .int (110 : Int32), .int (99 : Int32), .int (108 : Int32), .int (117 : Int32), .int (100 : Int32), .int (101 : Int32), .int (100 : Int32)]) (z := (8 : Int32)) ⟨by decide, rfl⟩ (by decide) (by decide) (g := (mkF m 32 #[.val (.int p1), .val (.int p2), .val (.ref wI), .val (.int (1 : Int32)), .val (.int (1 : Int32)), .val (.ref wI_label), .unset] [(.ref wI_label)])) rfl (hb hby at_32) (n := 32) (by decide) (by decide) (by decide) (by decide)
      have O501 := O0.ext E500
      have Z502 : n0 ≤ h500.size := Nat.le_trans Z0 E500.1
      have pre503 : ∀ t, Steps p.tables e below (T500.setTop (mkF m 34 #[.val (.int p1), .val (.int p2), .val (.ref wI), .val (.int (1 : Int32)), .val (.int (1 : Int32)), .val (.ref wI_label), .unset] [(.ref l500), (.ref wI_label)])) t → Steps p.tables e below (s₁.setTop (entryFrame m #[(.int p1), (.int p2)] maxLocals)) t := by
        intro t k
        refine pre499 _ ?_
        show Steps p.tables e below (T497.setTop (mkF m 32 #[.val (.int p1), .val (.int p2), .val (.ref wI), .val (.int (1 : Int32)), .val (.int (1 : Int32)), .val (.ref wI_label), .unset] [(.ref wI_label)])) _
        refine st500 _ ?_
        exact k
      obtain ⟨cq504, kq504, q504a, q504b, q504c⟩ := isOf hZ500 e500 (E_wI_label.ext O501.2)
      obtain ⟨_, _, ⟨T504, L504, k504, n504⟩, -, X504, ⟨Lc504, hQ504, l504, y504, z504⟩, st504⟩ := X500.virtualBack hx (y := (⟨"java/lang/String", "equals", "(Ljava/lang/Object;)Z"⟩ : MethodName)) (z := (⟨"java/lang/String", "equals", "(Ljava/lang/Object;)Z"⟩ : MethodName)) hown500 (mvT hZ500 (hw _ (List.mem_of_getElem? (i := 37) rfl))) (mvT hZ500 (hw _ (List.mem_of_getElem? (i := 38) rfl))) (notFace_of_selects (args := #[]) (mvT hZ500 (hw _ (List.mem_of_getElem? (i := 40) rfl)))) (mvT hZ500 (hw _ (List.mem_of_getElem? (i := 40) rfl))) (mvT hZ500 (hw _ (List.mem_of_getElem? (i := 39) rfl))) (by decide) (backOf (W := 0) (rm5ii l Z a0 hw [] wI_label l500 wI_label_value vl500 k_wI_label_value k_vl500 pC h500 n0 Z502 Ex500 (F_wI_label_coder.ext O501.2) Co500 (F_wI_label_value.ext O501.2) Va500 (V_wI.ext O501.2) Av500 hpc (S_pC.ext O501.2)) hZ500 (hw _ (List.mem_of_getElem? (i := 41) rfl)) (hw _ (List.mem_of_getElem? (i := 30) rfl)) (by decide) (by decide)) q504a q504c (g := (mkF m 34 #[.val (.int p1), .val (.int p2), .val (.ref wI), .val (.int (1 : Int32)), .val (.int (1 : Int32)), .val (.ref wI_label), .unset] [(.ref l500), (.ref wI_label)])) rfl (by rw [hml]; rfl) (Steps.refl _) (argsL := [(.ref l500)]) (rest := []) (lenOf pd__Ljava_lang_Object__Z rfl) rfl (by show 2 * 0 + _ ≤ _; exact Nat.le_of_eq rfl) (hb hby at_34) (fun _ _ => ⟨rfl, e500, (by decide : 2 + 0 ≤ _), (by decide : 36 + 0 ≤ _)⟩)
      dsimp only [Pt.U, Pt.locs, Pt.cells, Pt.slots] at X504 l504 y504 z504 st504 hQ504
      subst l504 y504 z504
      obtain ⟨rfl, N504q, e504⟩ := hQ504
      have N504 := Fr.app N497 N504q
      have pre505 : ∀ t, Steps p.tables e below (T504.setTop (mkF m 37 #[.val (.int p1), .val (.int p2), .val (.ref wI), .val (.int (1 : Int32)), .val (.int (1 : Int32)), .val (.ref wI_label), .unset] [(.int (1 : Int32))])) t → Steps p.tables e below (s₁.setTop (entryFrame m #[(.int p1), (.int p2)] maxLocals)) t := by
        intro t k
        refine pre503 _ ?_
        show Steps p.tables e below (T500.setTop (mkF m 34 #[.val (.int p1), .val (.int p2), .val (.ref wI), .val (.int (1 : Int32)), .val (.int (1 : Int32)), .val (.ref wI_label), .unset] [(.ref l500), (.ref wI_label)])) _
        refine st504.trans ?_
        exact k
      have pre507 : ∀ t, Steps p.tables e below (T504.setTop (mkF m 40 #[.val (.int p1), .val (.int p2), .val (.ref wI), .val (.int (1 : Int32)), .val (.int (1 : Int32)), .val (.ref wI_label), .unset] [])) t → Steps p.tables e below (s₁.setTop (entryFrame m #[(.int p1), (.int p2)] maxLocals)) t := by
        intro t k
        refine pre505 _ ?_
        show Steps p.tables e below (T504.setTop (mkF m 37 #[.val (.int p1), .val (.int p2), .val (.ref wI), .val (.int (1 : Int32)), .val (.int (1 : Int32)), .val (.ref wI_label), .unset] [(.int (1 : Int32))])) _
        refine XS.ifNo X504.here hx rfl (hb hby at_37) rfl ((if0 _ _).trans (feq (by decide : ¬ ((1 : Int32) = (0 : Int32)))).1) ?_
        exact k
      have pre508 : ∀ t, Steps p.tables e below (T504.setTop (mkF m 84 #[.val (.int p1), .val (.int p2), .val (.ref wI), .val (.int (1 : Int32)), .val (.int (1 : Int32)), .val (.ref wI_label), .val (.int (1 : Int32))] [(.int (1 : Int32)), (.int (1 : Int32))])) t → Steps p.tables e below (s₁.setTop (entryFrame m #[(.int p1), (.int p2)] maxLocals)) t := by
        intro t k
        refine pre507 _ ?_
        show Steps p.tables e below (T504.setTop (mkF m 40 #[.val (.int p1), .val (.int p2), .val (.ref wI), .val (.int (1 : Int32)), .val (.int (1 : Int32)), .val (.ref wI_label), .unset] [])) _
        refine XS.iconst X504.here hx rfl (hb hby at_40) ?_
        show Steps p.tables e below (T504.setTop (mkF m 41 #[.val (.int p1), .val (.int p2), .val (.ref wI), .val (.int (1 : Int32)), .val (.int (1 : Int32)), .val (.ref wI_label), .unset] [(.int (1 : Int32))])) _
        refine XS.istore X504.here hx rfl (hb hby at_41) rfl (l' := #[.val (.int p1), .val (.int p2), .val (.ref wI), .val (.int (1 : Int32)), .val (.int (1 : Int32)), .val (.ref wI_label), .val (.int (1 : Int32))]) rfl ?_
        show Steps p.tables e below (T504.setTop (mkF m 43 #[.val (.int p1), .val (.int p2), .val (.ref wI), .val (.int (1 : Int32)), .val (.int (1 : Int32)), .val (.ref wI_label), .val (.int (1 : Int32))] [])) _
        refine XS.goto X504.here hx rfl (pc0 := 43) (pc' := 80) rfl (hb hby at_43) (by decide) (by decide) ?_
        show Steps p.tables e below (T504.setTop (mkF m 80 #[.val (.int p1), .val (.int p2), .val (.ref wI), .val (.int (1 : Int32)), .val (.int (1 : Int32)), .val (.ref wI_label), .val (.int (1 : Int32))] [])) _
        refine XS.iload X504.here hx rfl (hb hby at_80) rfl ?_
        show Steps p.tables e below (T504.setTop (mkF m 82 #[.val (.int p1), .val (.int p2), .val (.ref wI), .val (.int (1 : Int32)), .val (.int (1 : Int32)), .val (.ref wI_label), .val (.int (1 : Int32))] [(.int (1 : Int32))])) _
        refine XS.iload X504.here hx rfl (hb hby at_82) rfl ?_
        exact k
      have pre510 : ∀ t, Steps p.tables e below (T504.setTop (mkF m 87 #[.val (.int p1), .val (.int p2), .val (.ref wI), .val (.int (1 : Int32)), .val (.int (1 : Int32)), .val (.ref wI_label), .val (.int (1 : Int32))] [])) t → Steps p.tables e below (s₁.setTop (entryFrame m #[(.int p1), (.int p2)] maxLocals)) t := by
        intro t k
        refine pre508 _ ?_
        show Steps p.tables e below (T504.setTop (mkF m 84 #[.val (.int p1), .val (.int p2), .val (.ref wI), .val (.int (1 : Int32)), .val (.int (1 : Int32)), .val (.ref wI_label), .val (.int (1 : Int32))] [(.int (1 : Int32)), (.int (1 : Int32))])) _
        refine XS.icmpNo X504.here hx rfl (hb hby at_84) rfl (teq (rfl : (1 : Int32) = (1 : Int32))).2 ?_
        exact k
      have pre511 : ∀ t, Steps p.tables e below (T504.setTop (mkF m 92 #[.val (.int p1), .val (.int p2), .val (.ref wI), .val (.int (1 : Int32)), .val (.int (1 : Int32)), .val (.ref wI_label), .val (.int (1 : Int32))] [(.int (1 : Int32))])) t → Steps p.tables e below (s₁.setTop (entryFrame m #[(.int p1), (.int p2)] maxLocals)) t := by
        intro t k
        refine pre510 _ ?_
        show Steps p.tables e below (T504.setTop (mkF m 87 #[.val (.int p1), .val (.int p2), .val (.ref wI), .val (.int (1 : Int32)), .val (.int (1 : Int32)), .val (.ref wI_label), .val (.int (1 : Int32))] [])) _
        refine XS.iconst X504.here hx rfl (hb hby at_87) ?_
        show Steps p.tables e below (T504.setTop (mkF m 88 #[.val (.int p1), .val (.int p2), .val (.ref wI), .val (.int (1 : Int32)), .val (.int (1 : Int32)), .val (.ref wI_label), .val (.int (1 : Int32))] [(.int (1 : Int32))])) _
        refine XS.goto X504.here hx rfl (pc0 := 88) (pc' := 92) rfl (hb hby at_88) (by decide) (by decide) ?_
        exact k
      obtain ⟨fs, hr, hrun, hended, hsame⟩ := Stand.leaveW (s := s) (vm₁ := T500.vm) X504 hS500 (by rw [e504]; exact sk500) (v := some (.int (1 : Int32))) (fun h => by rw [hret] at h; cases h)
      refine ⟨_, _, pre511 _ ?_, hrun, hended, _, _, rfl, ?_, ⟨hsame.1, hsame.2.1, hsame.2.2.1, hsame.2.2.2.mono (by decide) (by decide)⟩⟩
      · show Steps p.tables e below (T504.setTop (mkF m 92 #[.val (.int p1), .val (.int p2), .val (.ref wI), .val (.int (1 : Int32)), .val (.int (1 : Int32)), .val (.ref wI_label), .val (.int (1 : Int32))] [(.int (1 : Int32))])) _
        exact retN X504 hx (t := .boolean) hret (by simp) (hb hby at_92) hr
      · show Q0 Z p1 p2 wI_label wI_label_value k_wI_label_value wX_label wX_label_value k_wX_label_value wE_label wE_label_value k_wE_label_value wI wX wE pC h0 n0 _ T504.heap _
        exact ⟨(by rw [F0, if_pos hk467, if_neg hc471]), N504⟩
  · by_cases hk512 : ((p1 &&& (2147483647 : Int32)) % (3 : Int32)) = (1 : Int32)
    · obtain ⟨_, _, ⟨T513, L513, k513, n513⟩, -, X513, ⟨Lc513, hQ513, l513, y513, z513⟩, st513⟩ := Jvm.LawKit.callS X0 hx (y := (⟨"com/example/notesmith/notesmith/note/ConvertedInterestConvertsPinLaw", "pick", "(I)Lcom/example/notesmith/notesmith/note/ConvertedInterest;"⟩ : MethodName)) hown (mvT hZ (hw _ (List.mem_of_getElem? (i := 0) rfl))) (mvT hZ (hw _ (List.mem_of_getElem? (i := 1) rfl))) (mvT hZ (hw _ (List.mem_of_getElem? (i := 2) rfl))) (mvT hZ (hw _ (List.mem_of_getElem? (i := 3) rfl))) (by decide) (backOf (W := 0) (rm1x l Z a0 hw [] p1 wI wX wE h0 n0 Z0 hk467 hk512 (S_wI.ext O0.2) (S_wX.ext O0.2) (S_wE.ext O0.2)) hZ (hw _ (List.mem_of_getElem? (i := 3) rfl)) (hw _ (List.mem_of_getElem? (i := 2) rfl)) (by decide) (by decide)) (g := (mkF m 1 #[.val (.int p1), .val (.int p2), .unset, .unset, .unset, .unset, .unset] [(.int p1)])) rfl (by rw [hml]; rfl) (argsL := [(.int p1)]) (rest := []) (lenOf pd__I_Lcom_example_notesmith_notesmith_note_ConvertedInterest_ rfl) rfl (by show 2 * 0 + _ ≤ _; exact Nat.le_of_eq rfl) (hb hby at_1) (fun _ _ => ⟨rfl, e0, (by decide : 0 + 0 ≤ _), (by decide : 0 + 0 ≤ _)⟩)
      dsimp only [Pt.U, Pt.locs, Pt.cells, Pt.slots] at X513 l513 y513 z513 st513 hQ513
      subst l513 y513 z513
      obtain ⟨rfl, N513q, e513⟩ := hQ513
      have N513 := Fr.app N0 N513q
      have pre514 : ∀ t, Steps p.tables e below (T513.setTop (mkF m 4 #[.val (.int p1), .val (.int p2), .unset, .unset, .unset, .unset, .unset] [(.ref wX)])) t → Steps p.tables e below (s₁.setTop (entryFrame m #[(.int p1), (.int p2)] maxLocals)) t := by
        intro t k
        refine pre466 _ ?_
        show Steps p.tables e below (s₁.setTop (mkF m 1 #[.val (.int p1), .val (.int p2), .unset, .unset, .unset, .unset, .unset] [(.int p1)])) _
        refine st513 _ ?_
        exact k
      have pre515 : ∀ t, Steps p.tables e below (T513.setTop (mkF m 8 #[.val (.int p1), .val (.int p2), .val (.ref wX), .unset, .unset, .unset, .unset] [(.int (p2 &&& (1 : Int32)))])) t → Steps p.tables e below (s₁.setTop (entryFrame m #[(.int p1), (.int p2)] maxLocals)) t := by
        intro t k
        refine pre514 _ ?_
        show Steps p.tables e below (T513.setTop (mkF m 4 #[.val (.int p1), .val (.int p2), .unset, .unset, .unset, .unset, .unset] [(.ref wX)])) _
        refine XS.astoreN X513.here hx rfl (hb hby at_4) rfl rfl (l' := #[.val (.int p1), .val (.int p2), .val (.ref wX), .unset, .unset, .unset, .unset]) rfl ?_
        show Steps p.tables e below (T513.setTop (mkF m 5 #[.val (.int p1), .val (.int p2), .val (.ref wX), .unset, .unset, .unset, .unset] [])) _
        refine XS.iloadN X513.here hx rfl (hb hby at_5) rfl ?_
        show Steps p.tables e below (T513.setTop (mkF m 6 #[.val (.int p1), .val (.int p2), .val (.ref wX), .unset, .unset, .unset, .unset] [(.int p2)])) _
        refine XS.iconst X513.here hx rfl (hb hby at_6) ?_
        show Steps p.tables e below (T513.setTop (mkF m 7 #[.val (.int p1), .val (.int p2), .val (.ref wX), .unset, .unset, .unset, .unset] [(.int (1 : Int32)), (.int p2)])) _
        refine XS.iand X513.here hx rfl (hb hby at_7) rfl ?_
        exact k
      by_cases hc516 : (p2 &&& (1 : Int32)) = (0 : Int32)
      · have pre517 : ∀ t, Steps p.tables e below (T513.setTop (mkF m 15 #[.val (.int p1), .val (.int p2), .val (.ref wX), .unset, .unset, .unset, .unset] [])) t → Steps p.tables e below (s₁.setTop (entryFrame m #[(.int p1), (.int p2)] maxLocals)) t := by
          intro t k
          refine pre515 _ ?_
          show Steps p.tables e below (T513.setTop (mkF m 8 #[.val (.int p1), .val (.int p2), .val (.ref wX), .unset, .unset, .unset, .unset] [(.int (p2 &&& (1 : Int32)))])) _
          refine XS.ifYes X513.here hx rfl (pc0 := 8) (pc' := 15) rfl (hb hby at_8) rfl ((if0 _ _).trans (teq hc516).1) (by decide) (by decide) ?_
          exact k
        have pre518 : ∀ t, Steps p.tables e below (T513.setTop (mkF m 19 #[.val (.int p1), .val (.int p2), .val (.ref wX), .val (.int (0 : Int32)), .unset, .unset, .unset] [(.int (0 : Int32)), (.ref wX)])) t → Steps p.tables e below (s₁.setTop (entryFrame m #[(.int p1), (.int p2)] maxLocals)) t := by
          intro t k
          refine pre517 _ ?_
          show Steps p.tables e below (T513.setTop (mkF m 15 #[.val (.int p1), .val (.int p2), .val (.ref wX), .unset, .unset, .unset, .unset] [])) _
          refine XS.iconst X513.here hx rfl (hb hby at_15) ?_
          show Steps p.tables e below (T513.setTop (mkF m 16 #[.val (.int p1), .val (.int p2), .val (.ref wX), .unset, .unset, .unset, .unset] [(.int (0 : Int32))])) _
          refine XS.istoreN X513.here hx rfl (hb hby at_16) rfl (l' := #[.val (.int p1), .val (.int p2), .val (.ref wX), .val (.int (0 : Int32)), .unset, .unset, .unset]) rfl ?_
          show Steps p.tables e below (T513.setTop (mkF m 17 #[.val (.int p1), .val (.int p2), .val (.ref wX), .val (.int (0 : Int32)), .unset, .unset, .unset] [])) _
          refine XS.aloadN X513.here hx rfl (hb hby at_17) rfl rfl ?_
          show Steps p.tables e below (T513.setTop (mkF m 18 #[.val (.int p1), .val (.int p2), .val (.ref wX), .val (.int (0 : Int32)), .unset, .unset, .unset] [(.ref wX)])) _
          refine XS.iloadN X513.here hx rfl (hb hby at_18) rfl ?_
          exact k
        obtain ⟨cq519, kq519, q519a, q519b, q519c⟩ := isOf hZ e513 (E_wX.ext O0.2)
        obtain ⟨_, _, ⟨T519, L519, k519, n519⟩, -, X519, ⟨Lc519, hQ519, l519, y519, z519⟩, st519⟩ := X513.virtualBack hx (y := (⟨"com/example/notesmith/notesmith/note/ConvertedInterest", "converts", "(Z)Z"⟩ : MethodName)) (z := (⟨"com/example/notesmith/notesmith/note/ConvertedInterest", "converts", "(Z)Z"⟩ : MethodName)) hown (mvT hZ (hw _ (List.mem_of_getElem? (i := 8) rfl))) (mvT hZ (hw _ (List.mem_of_getElem? (i := 9) rfl))) (notFace_of_selects (args := #[]) (mvT hZ (hw _ (List.mem_of_getElem? (i := 11) rfl)))) (mvT hZ (hw _ (List.mem_of_getElem? (i := 11) rfl))) (mvT hZ (hw _ (List.mem_of_getElem? (i := 10) rfl))) (by decide) (backOf (W := 0) (rm2x l Z a0 hw [] wX (0 : Int32) h0 n0 Z0 (E_wX.ext O0.2) (F_wX_ordinal.ext O0.2)) hZ (hw _ (List.mem_of_getElem? (i := 12) rfl)) (hw _ (List.mem_of_getElem? (i := 6) rfl)) (by decide) (by decide)) q519a q519c (g := (mkF m 19 #[.val (.int p1), .val (.int p2), .val (.ref wX), .val (.int (0 : Int32)), .unset, .unset, .unset] [(.int (0 : Int32)), (.ref wX)])) rfl (by rw [hml]; rfl) (Steps.refl _) (argsL := [(.int (0 : Int32))]) (rest := []) (lenOf pd__Z_Z rfl) rfl (by show 2 * 0 + _ ≤ _; exact Nat.le_of_eq rfl) (hb hby at_19) (fun _ _ => ⟨rfl, e513, (by decide : 0 + 0 ≤ _), (by decide : 0 + 0 ≤ _)⟩)
        dsimp only [Pt.U, Pt.locs, Pt.cells, Pt.slots] at X519 l519 y519 z519 st519 hQ519
        subst l519 y519 z519
        obtain ⟨rfl, N519q, e519⟩ := hQ519
        have N519 := Fr.app N513 N519q
        have pre520 : ∀ t, Steps p.tables e below (T519.setTop (mkF m 22 #[.val (.int p1), .val (.int p2), .val (.ref wX), .val (.int (0 : Int32)), .unset, .unset, .unset] [(.int (0 : Int32))])) t → Steps p.tables e below (s₁.setTop (entryFrame m #[(.int p1), (.int p2)] maxLocals)) t := by
          intro t k
          refine pre518 _ ?_
          show Steps p.tables e below (T513.setTop (mkF m 19 #[.val (.int p1), .val (.int p2), .val (.ref wX), .val (.int (0 : Int32)), .unset, .unset, .unset] [(.int (0 : Int32)), (.ref wX)])) _
          refine st519.trans ?_
          exact k
        have pre521 : ∀ t, Steps p.tables e below (T519.setTop (mkF m 25 #[.val (.int p1), .val (.int p2), .val (.ref wX), .val (.int (0 : Int32)), .val (.int (0 : Int32)), .unset, .unset] [(.ref wX)])) t → Steps p.tables e below (s₁.setTop (entryFrame m #[(.int p1), (.int p2)] maxLocals)) t := by
          intro t k
          refine pre520 _ ?_
          show Steps p.tables e below (T519.setTop (mkF m 22 #[.val (.int p1), .val (.int p2), .val (.ref wX), .val (.int (0 : Int32)), .unset, .unset, .unset] [(.int (0 : Int32))])) _
          refine XS.istore X519.here hx rfl (hb hby at_22) rfl (l' := #[.val (.int p1), .val (.int p2), .val (.ref wX), .val (.int (0 : Int32)), .val (.int (0 : Int32)), .unset, .unset]) rfl ?_
          show Steps p.tables e below (T519.setTop (mkF m 24 #[.val (.int p1), .val (.int p2), .val (.ref wX), .val (.int (0 : Int32)), .val (.int (0 : Int32)), .unset, .unset] [])) _
          refine XS.aloadN X519.here hx rfl (hb hby at_24) rfl rfl ?_
          exact k
        obtain ⟨cq522, kq522, q522a, q522b, q522c⟩ := isOf hZ e519 (E_wX.ext O0.2)
        obtain ⟨_, _, ⟨T522, L522, k522, n522⟩, -, X522, ⟨Lc522, hQ522, l522, y522, z522⟩, st522⟩ := X519.virtualBack hx (y := (⟨"com/example/notesmith/notesmith/note/ConvertedInterest", "label", "()Ljava/lang/String;"⟩ : MethodName)) (z := (⟨"com/example/notesmith/notesmith/note/ConvertedInterest", "label", "()Ljava/lang/String;"⟩ : MethodName)) hown (mvT hZ (hw _ (List.mem_of_getElem? (i := 22) rfl))) (mvT hZ (hw _ (List.mem_of_getElem? (i := 23) rfl))) (notFace_of_selects (args := #[]) (mvT hZ (hw _ (List.mem_of_getElem? (i := 25) rfl)))) (mvT hZ (hw _ (List.mem_of_getElem? (i := 25) rfl))) (mvT hZ (hw _ (List.mem_of_getElem? (i := 24) rfl))) (by decide) (backOf (W := 0) (rm4 l Z a0 hw [] wX wX_label h0 n0 Z0 (F_wX_label.ext O0.2)) hZ (hw _ (List.mem_of_getElem? (i := 26) rfl)) (hw _ (List.mem_of_getElem? (i := 6) rfl)) (by decide) (by decide)) q522a q522c (g := (mkF m 25 #[.val (.int p1), .val (.int p2), .val (.ref wX), .val (.int (0 : Int32)), .val (.int (0 : Int32)), .unset, .unset] [(.ref wX)])) rfl (by rw [hml]; rfl) (Steps.refl _) (argsL := []) (rest := []) (lenOf pd___Ljava_lang_String_ rfl) rfl (by show 2 * 0 + _ ≤ _; exact Nat.le_of_eq rfl) (hb hby at_25) (fun _ _ => ⟨rfl, e519, (by decide : 0 + 0 ≤ _), (by decide : 0 + 0 ≤ _)⟩)
        dsimp only [Pt.U, Pt.locs, Pt.cells, Pt.slots] at X522 l522 y522 z522 st522 hQ522
        subst l522 y522 z522
        obtain ⟨rfl, N522q, e522⟩ := hQ522
        have N522 := Fr.app N519 N522q
        have pre523 : ∀ t, Steps p.tables e below (T522.setTop (mkF m 28 #[.val (.int p1), .val (.int p2), .val (.ref wX), .val (.int (0 : Int32)), .val (.int (0 : Int32)), .unset, .unset] [(.ref wX_label)])) t → Steps p.tables e below (s₁.setTop (entryFrame m #[(.int p1), (.int p2)] maxLocals)) t := by
          intro t k
          refine pre521 _ ?_
          show Steps p.tables e below (T519.setTop (mkF m 25 #[.val (.int p1), .val (.int p2), .val (.ref wX), .val (.int (0 : Int32)), .val (.int (0 : Int32)), .unset, .unset] [(.ref wX)])) _
          refine st522.trans ?_
          exact k
        have pre524 : ∀ t, Steps p.tables e below (T522.setTop (mkF m 32 #[.val (.int p1), .val (.int p2), .val (.ref wX), .val (.int (0 : Int32)), .val (.int (0 : Int32)), .val (.ref wX_label), .unset] [(.ref wX_label)])) t → Steps p.tables e below (s₁.setTop (entryFrame m #[(.int p1), (.int p2)] maxLocals)) t := by
          intro t k
          refine pre523 _ ?_
          show Steps p.tables e below (T522.setTop (mkF m 28 #[.val (.int p1), .val (.int p2), .val (.ref wX), .val (.int (0 : Int32)), .val (.int (0 : Int32)), .unset, .unset] [(.ref wX_label)])) _
          refine XS.astore X522.here hx rfl (hb hby at_28) rfl rfl (l' := #[.val (.int p1), .val (.int p2), .val (.ref wX), .val (.int (0 : Int32)), .val (.int (0 : Int32)), .val (.ref wX_label), .unset]) rfl ?_
          show Steps p.tables e below (T522.setTop (mkF m 30 #[.val (.int p1), .val (.int p2), .val (.ref wX), .val (.int (0 : Int32)), .val (.int (0 : Int32)), .val (.ref wX_label), .unset] [])) _
          refine XS.aload X522.here hx rfl (hb hby at_30) rfl rfl ?_
          exact k
        have NFs525 : Fr s.heap.size _ := hn0 ▸ N522
        obtain ⟨l525, T525, h525, kk525, vl525, k_vl525, X525, e525, E525, hS525, sk525, hZ525, hown525, Ex525, Co525, Va525, Av525, -, -, IB525, st525⟩ := ldcSV (s := s) (vm0 := s.vm) X522 hx hZ hown (hw _ (List.mem_of_getElem? (i := 29) rfl)) (own_wS hw) e522 hS0 SK0 NFs525 hkeep hIB (by decide) hc34 hcw (vs := [.int (105 : Int32), .int (110 : Int32), .int (99 : Int32), .int (108 : Int32), .int (117 : Int32), .int (100 : Int32), .int (101 : Int32), .int (100 : Int32)]) (z := (8 : Int32)) ⟨by decide, rfl⟩ (by decide) (by decide) (g := (mkF m 32 #[.val (.int p1), .val (.int p2), .val (.ref wX), .val (.int (0 : Int32)), .val (.int (0 : Int32)), .val (.ref wX_label), .unset] [(.ref wX_label)])) rfl (hb hby at_32) (n := 32) (by decide) (by decide) (by decide) (by decide)
        have O526 := O0.ext E525
        have Z527 : n0 ≤ h525.size := Nat.le_trans Z0 E525.1
        have pre528 : ∀ t, Steps p.tables e below (T525.setTop (mkF m 34 #[.val (.int p1), .val (.int p2), .val (.ref wX), .val (.int (0 : Int32)), .val (.int (0 : Int32)), .val (.ref wX_label), .unset] [(.ref l525), (.ref wX_label)])) t → Steps p.tables e below (s₁.setTop (entryFrame m #[(.int p1), (.int p2)] maxLocals)) t := by
          intro t k
          refine pre524 _ ?_
          show Steps p.tables e below (T522.setTop (mkF m 32 #[.val (.int p1), .val (.int p2), .val (.ref wX), .val (.int (0 : Int32)), .val (.int (0 : Int32)), .val (.ref wX_label), .unset] [(.ref wX_label)])) _
          refine st525 _ ?_
          exact k
        obtain ⟨cq529, kq529, q529a, q529b, q529c⟩ := isOf hZ525 e525 (E_wX_label.ext O526.2)
        obtain ⟨_, _, ⟨T529, L529, k529, n529⟩, -, X529, ⟨Lc529, hQ529, l529, y529, z529⟩, st529⟩ := X525.virtualBack hx (y := (⟨"java/lang/String", "equals", "(Ljava/lang/Object;)Z"⟩ : MethodName)) (z := (⟨"java/lang/String", "equals", "(Ljava/lang/Object;)Z"⟩ : MethodName)) hown525 (mvT hZ525 (hw _ (List.mem_of_getElem? (i := 37) rfl))) (mvT hZ525 (hw _ (List.mem_of_getElem? (i := 38) rfl))) (notFace_of_selects (args := #[]) (mvT hZ525 (hw _ (List.mem_of_getElem? (i := 40) rfl)))) (mvT hZ525 (hw _ (List.mem_of_getElem? (i := 40) rfl))) (mvT hZ525 (hw _ (List.mem_of_getElem? (i := 39) rfl))) (by decide) (backOf (W := 0) (rm5xi l Z a0 hw [] wX_label l525 wX_label_value vl525 k_wX_label_value k_vl525 pC h525 n0 Z527 Ex525 (F_wX_label_coder.ext O526.2) Co525 (F_wX_label_value.ext O526.2) Va525 (V_wX.ext O526.2) Av525 hpc (Fld.ne (F_wX_label_value.ext O526.2) Va525 (fun q => own_hd_ne (V_wX.ext O526.2) Av525 (by decide) (by decide) (Value.ref.inj q))) (S_pC.ext O526.2)) hZ525 (hw _ (List.mem_of_getElem? (i := 41) rfl)) (hw _ (List.mem_of_getElem? (i := 30) rfl)) (by decide) (by decide)) q529a q529c (g := (mkF m 34 #[.val (.int p1), .val (.int p2), .val (.ref wX), .val (.int (0 : Int32)), .val (.int (0 : Int32)), .val (.ref wX_label), .unset] [(.ref l525), (.ref wX_label)])) rfl (by rw [hml]; rfl) (Steps.refl _) (argsL := [(.ref l525)]) (rest := []) (lenOf pd__Ljava_lang_Object__Z rfl) rfl (by show 2 * 0 + _ ≤ _; exact Nat.le_of_eq rfl) (hb hby at_34) (fun _ _ => ⟨rfl, e525, (by decide : 2 + 0 ≤ _), (by decide : 36 + 0 ≤ _)⟩)
        dsimp only [Pt.U, Pt.locs, Pt.cells, Pt.slots] at X529 l529 y529 z529 st529 hQ529
        subst l529 y529 z529
        obtain ⟨rfl, N529q, e529⟩ := hQ529
        have N529 := Fr.app N522 N529q
        have pre530 : ∀ t, Steps p.tables e below (T529.setTop (mkF m 37 #[.val (.int p1), .val (.int p2), .val (.ref wX), .val (.int (0 : Int32)), .val (.int (0 : Int32)), .val (.ref wX_label), .unset] [(.int (0 : Int32))])) t → Steps p.tables e below (s₁.setTop (entryFrame m #[(.int p1), (.int p2)] maxLocals)) t := by
          intro t k
          refine pre528 _ ?_
          show Steps p.tables e below (T525.setTop (mkF m 34 #[.val (.int p1), .val (.int p2), .val (.ref wX), .val (.int (0 : Int32)), .val (.int (0 : Int32)), .val (.ref wX_label), .unset] [(.ref l525), (.ref wX_label)])) _
          refine st529.trans ?_
          exact k
        have pre532 : ∀ t, Steps p.tables e below (T529.setTop (mkF m 46 #[.val (.int p1), .val (.int p2), .val (.ref wX), .val (.int (0 : Int32)), .val (.int (0 : Int32)), .val (.ref wX_label), .unset] [])) t → Steps p.tables e below (s₁.setTop (entryFrame m #[(.int p1), (.int p2)] maxLocals)) t := by
          intro t k
          refine pre530 _ ?_
          show Steps p.tables e below (T529.setTop (mkF m 37 #[.val (.int p1), .val (.int p2), .val (.ref wX), .val (.int (0 : Int32)), .val (.int (0 : Int32)), .val (.ref wX_label), .unset] [(.int (0 : Int32))])) _
          refine XS.ifYes X529.here hx rfl (pc0 := 37) (pc' := 46) rfl (hb hby at_37) rfl ((if0 _ _).trans (teq (rfl : (0 : Int32) = (0 : Int32))).1) (by decide) (by decide) ?_
          exact k
        have pre533 : ∀ t, Steps p.tables e below (T529.setTop (mkF m 48 #[.val (.int p1), .val (.int p2), .val (.ref wX), .val (.int (0 : Int32)), .val (.int (0 : Int32)), .val (.ref wX_label), .unset] [(.ref wX_label)])) t → Steps p.tables e below (s₁.setTop (entryFrame m #[(.int p1), (.int p2)] maxLocals)) t := by
          intro t k
          refine pre532 _ ?_
          show Steps p.tables e below (T529.setTop (mkF m 46 #[.val (.int p1), .val (.int p2), .val (.ref wX), .val (.int (0 : Int32)), .val (.int (0 : Int32)), .val (.ref wX_label), .unset] [])) _
          refine XS.aload X529.here hx rfl (hb hby at_46) rfl rfl ?_
          exact k
        have NFs534 : Fr s.heap.size _ := hn0 ▸ N529
        obtain ⟨l534, T534, h534, kk534, vl534, k_vl534, X534, e534, E534, hS534, sk534, hZ534, hown534, Ex534, Co534, Va534, Av534, -, -, IB534, st534⟩ := ldcSV (s := s) (vm0 := T525.vm) X529 hx hZ525 hown525 (hw _ (List.mem_of_getElem? (i := 53) rfl)) (own_wS hw) e529 hS525 sk525 NFs534 hkeep IB525 (by decide) hc42 hcw (vs := [.int (101 : Int32), .int (120 : Int32), .int (99 : Int32), .int (108 : Int32), .int (117 : Int32), .int (100 : Int32), .int (101 : Int32), .int (100 : Int32)]) (z := (8 : Int32)) ⟨by decide, rfl⟩ (by decide) (by decide) (g := (mkF m 48 #[.val (.int p1), .val (.int p2), .val (.ref wX), .val (.int (0 : Int32)), .val (.int (0 : Int32)), .val (.ref wX_label), .unset] [(.ref wX_label)])) rfl (hb hby at_48) (n := 32) (by decide) (by decide) (by decide) (by decide)
        have O535 := O526.ext E534
        have Z536 : n0 ≤ h534.size := Nat.le_trans Z527 E534.1
        have pre537 : ∀ t, Steps p.tables e below (T534.setTop (mkF m 50 #[.val (.int p1), .val (.int p2), .val (.ref wX), .val (.int (0 : Int32)), .val (.int (0 : Int32)), .val (.ref wX_label), .unset] [(.ref l534), (.ref wX_label)])) t → Steps p.tables e below (s₁.setTop (entryFrame m #[(.int p1), (.int p2)] maxLocals)) t := by
          intro t k
          refine pre533 _ ?_
          show Steps p.tables e below (T529.setTop (mkF m 48 #[.val (.int p1), .val (.int p2), .val (.ref wX), .val (.int (0 : Int32)), .val (.int (0 : Int32)), .val (.ref wX_label), .unset] [(.ref wX_label)])) _
          refine st534 _ ?_
          exact k
        obtain ⟨cq538, kq538, q538a, q538b, q538c⟩ := isOf hZ534 e534 (E_wX_label.ext O535.2)
        obtain ⟨_, _, ⟨T538, L538, k538, n538⟩, -, X538, ⟨Lc538, hQ538, l538, y538, z538⟩, st538⟩ := X534.virtualBack hx (y := (⟨"java/lang/String", "equals", "(Ljava/lang/Object;)Z"⟩ : MethodName)) (z := (⟨"java/lang/String", "equals", "(Ljava/lang/Object;)Z"⟩ : MethodName)) hown534 (mvT hZ534 (hw _ (List.mem_of_getElem? (i := 37) rfl))) (mvT hZ534 (hw _ (List.mem_of_getElem? (i := 38) rfl))) (notFace_of_selects (args := #[]) (mvT hZ534 (hw _ (List.mem_of_getElem? (i := 40) rfl)))) (mvT hZ534 (hw _ (List.mem_of_getElem? (i := 40) rfl))) (mvT hZ534 (hw _ (List.mem_of_getElem? (i := 39) rfl))) (by decide) (backOf (W := 0) (rm5xx l Z a0 hw [] wX_label l534 wX_label_value vl534 k_wX_label_value k_vl534 pC h534 n0 Z536 Ex534 (F_wX_label_coder.ext O535.2) Co534 (F_wX_label_value.ext O535.2) Va534 (V_wX.ext O535.2) Av534 hpc (S_pC.ext O535.2)) hZ534 (hw _ (List.mem_of_getElem? (i := 41) rfl)) (hw _ (List.mem_of_getElem? (i := 30) rfl)) (by decide) (by decide)) q538a q538c (g := (mkF m 50 #[.val (.int p1), .val (.int p2), .val (.ref wX), .val (.int (0 : Int32)), .val (.int (0 : Int32)), .val (.ref wX_label), .unset] [(.ref l534), (.ref wX_label)])) rfl (by rw [hml]; rfl) (Steps.refl _) (argsL := [(.ref l534)]) (rest := []) (lenOf pd__Ljava_lang_Object__Z rfl) rfl (by show 2 * 0 + _ ≤ _; exact Nat.le_of_eq rfl) (hb hby at_50) (fun _ _ => ⟨rfl, e534, (by decide : 4 + 0 ≤ _), (by decide : 72 + 0 ≤ _)⟩)
        dsimp only [Pt.U, Pt.locs, Pt.cells, Pt.slots] at X538 l538 y538 z538 st538 hQ538
        subst l538 y538 z538
        obtain ⟨rfl, N538q, e538⟩ := hQ538
        have N538 := Fr.app N529 N538q
        have pre539 : ∀ t, Steps p.tables e below (T538.setTop (mkF m 53 #[.val (.int p1), .val (.int p2), .val (.ref wX), .val (.int (0 : Int32)), .val (.int (0 : Int32)), .val (.ref wX_label), .unset] [(.int (1 : Int32))])) t → Steps p.tables e below (s₁.setTop (entryFrame m #[(.int p1), (.int p2)] maxLocals)) t := by
          intro t k
          refine pre537 _ ?_
          show Steps p.tables e below (T534.setTop (mkF m 50 #[.val (.int p1), .val (.int p2), .val (.ref wX), .val (.int (0 : Int32)), .val (.int (0 : Int32)), .val (.ref wX_label), .unset] [(.ref l534), (.ref wX_label)])) _
          refine st538.trans ?_
          exact k
        have pre541 : ∀ t, Steps p.tables e below (T538.setTop (mkF m 56 #[.val (.int p1), .val (.int p2), .val (.ref wX), .val (.int (0 : Int32)), .val (.int (0 : Int32)), .val (.ref wX_label), .unset] [])) t → Steps p.tables e below (s₁.setTop (entryFrame m #[(.int p1), (.int p2)] maxLocals)) t := by
          intro t k
          refine pre539 _ ?_
          show Steps p.tables e below (T538.setTop (mkF m 53 #[.val (.int p1), .val (.int p2), .val (.ref wX), .val (.int (0 : Int32)), .val (.int (0 : Int32)), .val (.ref wX_label), .unset] [(.int (1 : Int32))])) _
          refine XS.ifNo X538.here hx rfl (hb hby at_53) rfl ((if0 _ _).trans (feq (by decide : ¬ ((1 : Int32) = (0 : Int32)))).1) ?_
          exact k
        have pre542 : ∀ t, Steps p.tables e below (T538.setTop (mkF m 84 #[.val (.int p1), .val (.int p2), .val (.ref wX), .val (.int (0 : Int32)), .val (.int (0 : Int32)), .val (.ref wX_label), .val (.int (0 : Int32))] [(.int (0 : Int32)), (.int (0 : Int32))])) t → Steps p.tables e below (s₁.setTop (entryFrame m #[(.int p1), (.int p2)] maxLocals)) t := by
          intro t k
          refine pre541 _ ?_
          show Steps p.tables e below (T538.setTop (mkF m 56 #[.val (.int p1), .val (.int p2), .val (.ref wX), .val (.int (0 : Int32)), .val (.int (0 : Int32)), .val (.ref wX_label), .unset] [])) _
          refine XS.iconst X538.here hx rfl (hb hby at_56) ?_
          show Steps p.tables e below (T538.setTop (mkF m 57 #[.val (.int p1), .val (.int p2), .val (.ref wX), .val (.int (0 : Int32)), .val (.int (0 : Int32)), .val (.ref wX_label), .unset] [(.int (0 : Int32))])) _
          refine XS.istore X538.here hx rfl (hb hby at_57) rfl (l' := #[.val (.int p1), .val (.int p2), .val (.ref wX), .val (.int (0 : Int32)), .val (.int (0 : Int32)), .val (.ref wX_label), .val (.int (0 : Int32))]) rfl ?_
          show Steps p.tables e below (T538.setTop (mkF m 59 #[.val (.int p1), .val (.int p2), .val (.ref wX), .val (.int (0 : Int32)), .val (.int (0 : Int32)), .val (.ref wX_label), .val (.int (0 : Int32))] [])) _
          refine XS.goto X538.here hx rfl (pc0 := 59) (pc' := 80) rfl (hb hby at_59) (by decide) (by decide) ?_
          show Steps p.tables e below (T538.setTop (mkF m 80 #[.val (.int p1), .val (.int p2), .val (.ref wX), .val (.int (0 : Int32)), .val (.int (0 : Int32)), .val (.ref wX_label), .val (.int (0 : Int32))] [])) _
          refine XS.iload X538.here hx rfl (hb hby at_80) rfl ?_
          show Steps p.tables e below (T538.setTop (mkF m 82 #[.val (.int p1), .val (.int p2), .val (.ref wX), .val (.int (0 : Int32)), .val (.int (0 : Int32)), .val (.ref wX_label), .val (.int (0 : Int32))] [(.int (0 : Int32))])) _
          refine XS.iload X538.here hx rfl (hb hby at_82) rfl ?_
          exact k
        have pre544 : ∀ t, Steps p.tables e below (T538.setTop (mkF m 87 #[.val (.int p1), .val (.int p2), .val (.ref wX), .val (.int (0 : Int32)), .val (.int (0 : Int32)), .val (.ref wX_label), .val (.int (0 : Int32))] [])) t → Steps p.tables e below (s₁.setTop (entryFrame m #[(.int p1), (.int p2)] maxLocals)) t := by
          intro t k
          refine pre542 _ ?_
          show Steps p.tables e below (T538.setTop (mkF m 84 #[.val (.int p1), .val (.int p2), .val (.ref wX), .val (.int (0 : Int32)), .val (.int (0 : Int32)), .val (.ref wX_label), .val (.int (0 : Int32))] [(.int (0 : Int32)), (.int (0 : Int32))])) _
          refine XS.icmpNo X538.here hx rfl (hb hby at_84) rfl (teq (rfl : (0 : Int32) = (0 : Int32))).2 ?_
          exact k
        have pre545 : ∀ t, Steps p.tables e below (T538.setTop (mkF m 92 #[.val (.int p1), .val (.int p2), .val (.ref wX), .val (.int (0 : Int32)), .val (.int (0 : Int32)), .val (.ref wX_label), .val (.int (0 : Int32))] [(.int (1 : Int32))])) t → Steps p.tables e below (s₁.setTop (entryFrame m #[(.int p1), (.int p2)] maxLocals)) t := by
          intro t k
          refine pre544 _ ?_
          show Steps p.tables e below (T538.setTop (mkF m 87 #[.val (.int p1), .val (.int p2), .val (.ref wX), .val (.int (0 : Int32)), .val (.int (0 : Int32)), .val (.ref wX_label), .val (.int (0 : Int32))] [])) _
          refine XS.iconst X538.here hx rfl (hb hby at_87) ?_
          show Steps p.tables e below (T538.setTop (mkF m 88 #[.val (.int p1), .val (.int p2), .val (.ref wX), .val (.int (0 : Int32)), .val (.int (0 : Int32)), .val (.ref wX_label), .val (.int (0 : Int32))] [(.int (1 : Int32))])) _
          refine XS.goto X538.here hx rfl (pc0 := 88) (pc' := 92) rfl (hb hby at_88) (by decide) (by decide) ?_
          exact k
        obtain ⟨fs, hr, hrun, hended, hsame⟩ := Stand.leaveW (s := s) (vm₁ := T534.vm) X538 hS534 (by rw [e538]; exact sk534) (v := some (.int (1 : Int32))) (fun h => by rw [hret] at h; cases h)
        refine ⟨_, _, pre545 _ ?_, hrun, hended, _, _, rfl, ?_, ⟨hsame.1, hsame.2.1, hsame.2.2.1, hsame.2.2.2.mono (by decide) (by decide)⟩⟩
        · show Steps p.tables e below (T538.setTop (mkF m 92 #[.val (.int p1), .val (.int p2), .val (.ref wX), .val (.int (0 : Int32)), .val (.int (0 : Int32)), .val (.ref wX_label), .val (.int (0 : Int32))] [(.int (1 : Int32))])) _
          exact retN X538 hx (t := .boolean) hret (by simp) (hb hby at_92) hr
        · show Q0 Z p1 p2 wI_label wI_label_value k_wI_label_value wX_label wX_label_value k_wX_label_value wE_label wE_label_value k_wE_label_value wI wX wE pC h0 n0 _ T538.heap _
          exact ⟨(by rw [F0, if_neg hk467, if_pos hk512, if_pos hc516]), N538⟩
      · have pre546 : ∀ t, Steps p.tables e below (T513.setTop (mkF m 11 #[.val (.int p1), .val (.int p2), .val (.ref wX), .unset, .unset, .unset, .unset] [])) t → Steps p.tables e below (s₁.setTop (entryFrame m #[(.int p1), (.int p2)] maxLocals)) t := by
          intro t k
          refine pre515 _ ?_
          show Steps p.tables e below (T513.setTop (mkF m 8 #[.val (.int p1), .val (.int p2), .val (.ref wX), .unset, .unset, .unset, .unset] [(.int (p2 &&& (1 : Int32)))])) _
          refine XS.ifNo X513.here hx rfl (hb hby at_8) rfl ((if0 _ _).trans (feq hc516).1) ?_
          exact k
        have pre547 : ∀ t, Steps p.tables e below (T513.setTop (mkF m 19 #[.val (.int p1), .val (.int p2), .val (.ref wX), .val (.int (1 : Int32)), .unset, .unset, .unset] [(.int (1 : Int32)), (.ref wX)])) t → Steps p.tables e below (s₁.setTop (entryFrame m #[(.int p1), (.int p2)] maxLocals)) t := by
          intro t k
          refine pre546 _ ?_
          show Steps p.tables e below (T513.setTop (mkF m 11 #[.val (.int p1), .val (.int p2), .val (.ref wX), .unset, .unset, .unset, .unset] [])) _
          refine XS.iconst X513.here hx rfl (hb hby at_11) ?_
          show Steps p.tables e below (T513.setTop (mkF m 12 #[.val (.int p1), .val (.int p2), .val (.ref wX), .unset, .unset, .unset, .unset] [(.int (1 : Int32))])) _
          refine XS.goto X513.here hx rfl (pc0 := 12) (pc' := 16) rfl (hb hby at_12) (by decide) (by decide) ?_
          show Steps p.tables e below (T513.setTop (mkF m 16 #[.val (.int p1), .val (.int p2), .val (.ref wX), .unset, .unset, .unset, .unset] [(.int (1 : Int32))])) _
          refine XS.istoreN X513.here hx rfl (hb hby at_16) rfl (l' := #[.val (.int p1), .val (.int p2), .val (.ref wX), .val (.int (1 : Int32)), .unset, .unset, .unset]) rfl ?_
          show Steps p.tables e below (T513.setTop (mkF m 17 #[.val (.int p1), .val (.int p2), .val (.ref wX), .val (.int (1 : Int32)), .unset, .unset, .unset] [])) _
          refine XS.aloadN X513.here hx rfl (hb hby at_17) rfl rfl ?_
          show Steps p.tables e below (T513.setTop (mkF m 18 #[.val (.int p1), .val (.int p2), .val (.ref wX), .val (.int (1 : Int32)), .unset, .unset, .unset] [(.ref wX)])) _
          refine XS.iloadN X513.here hx rfl (hb hby at_18) rfl ?_
          exact k
        obtain ⟨cq548, kq548, q548a, q548b, q548c⟩ := isOf hZ e513 (E_wX.ext O0.2)
        obtain ⟨_, _, ⟨T548, L548, k548, n548⟩, -, X548, ⟨Lc548, hQ548, l548, y548, z548⟩, st548⟩ := X513.virtualBack hx (y := (⟨"com/example/notesmith/notesmith/note/ConvertedInterest", "converts", "(Z)Z"⟩ : MethodName)) (z := (⟨"com/example/notesmith/notesmith/note/ConvertedInterest", "converts", "(Z)Z"⟩ : MethodName)) hown (mvT hZ (hw _ (List.mem_of_getElem? (i := 8) rfl))) (mvT hZ (hw _ (List.mem_of_getElem? (i := 9) rfl))) (notFace_of_selects (args := #[]) (mvT hZ (hw _ (List.mem_of_getElem? (i := 11) rfl)))) (mvT hZ (hw _ (List.mem_of_getElem? (i := 11) rfl))) (mvT hZ (hw _ (List.mem_of_getElem? (i := 10) rfl))) (by decide) (backOf (W := 0) (rm2x l Z a0 hw [] wX (1 : Int32) h0 n0 Z0 (E_wX.ext O0.2) (F_wX_ordinal.ext O0.2)) hZ (hw _ (List.mem_of_getElem? (i := 12) rfl)) (hw _ (List.mem_of_getElem? (i := 6) rfl)) (by decide) (by decide)) q548a q548c (g := (mkF m 19 #[.val (.int p1), .val (.int p2), .val (.ref wX), .val (.int (1 : Int32)), .unset, .unset, .unset] [(.int (1 : Int32)), (.ref wX)])) rfl (by rw [hml]; rfl) (Steps.refl _) (argsL := [(.int (1 : Int32))]) (rest := []) (lenOf pd__Z_Z rfl) rfl (by show 2 * 0 + _ ≤ _; exact Nat.le_of_eq rfl) (hb hby at_19) (fun _ _ => ⟨rfl, e513, (by decide : 0 + 0 ≤ _), (by decide : 0 + 0 ≤ _)⟩)
        dsimp only [Pt.U, Pt.locs, Pt.cells, Pt.slots] at X548 l548 y548 z548 st548 hQ548
        subst l548 y548 z548
        obtain ⟨rfl, N548q, e548⟩ := hQ548
        have N548 := Fr.app N513 N548q
        have pre549 : ∀ t, Steps p.tables e below (T548.setTop (mkF m 22 #[.val (.int p1), .val (.int p2), .val (.ref wX), .val (.int (1 : Int32)), .unset, .unset, .unset] [(.int (0 : Int32))])) t → Steps p.tables e below (s₁.setTop (entryFrame m #[(.int p1), (.int p2)] maxLocals)) t := by
          intro t k
          refine pre547 _ ?_
          show Steps p.tables e below (T513.setTop (mkF m 19 #[.val (.int p1), .val (.int p2), .val (.ref wX), .val (.int (1 : Int32)), .unset, .unset, .unset] [(.int (1 : Int32)), (.ref wX)])) _
          refine st548.trans ?_
          exact k
        have pre550 : ∀ t, Steps p.tables e below (T548.setTop (mkF m 25 #[.val (.int p1), .val (.int p2), .val (.ref wX), .val (.int (1 : Int32)), .val (.int (0 : Int32)), .unset, .unset] [(.ref wX)])) t → Steps p.tables e below (s₁.setTop (entryFrame m #[(.int p1), (.int p2)] maxLocals)) t := by
          intro t k
          refine pre549 _ ?_
          show Steps p.tables e below (T548.setTop (mkF m 22 #[.val (.int p1), .val (.int p2), .val (.ref wX), .val (.int (1 : Int32)), .unset, .unset, .unset] [(.int (0 : Int32))])) _
          refine XS.istore X548.here hx rfl (hb hby at_22) rfl (l' := #[.val (.int p1), .val (.int p2), .val (.ref wX), .val (.int (1 : Int32)), .val (.int (0 : Int32)), .unset, .unset]) rfl ?_
          show Steps p.tables e below (T548.setTop (mkF m 24 #[.val (.int p1), .val (.int p2), .val (.ref wX), .val (.int (1 : Int32)), .val (.int (0 : Int32)), .unset, .unset] [])) _
          refine XS.aloadN X548.here hx rfl (hb hby at_24) rfl rfl ?_
          exact k
        obtain ⟨cq551, kq551, q551a, q551b, q551c⟩ := isOf hZ e548 (E_wX.ext O0.2)
        obtain ⟨_, _, ⟨T551, L551, k551, n551⟩, -, X551, ⟨Lc551, hQ551, l551, y551, z551⟩, st551⟩ := X548.virtualBack hx (y := (⟨"com/example/notesmith/notesmith/note/ConvertedInterest", "label", "()Ljava/lang/String;"⟩ : MethodName)) (z := (⟨"com/example/notesmith/notesmith/note/ConvertedInterest", "label", "()Ljava/lang/String;"⟩ : MethodName)) hown (mvT hZ (hw _ (List.mem_of_getElem? (i := 22) rfl))) (mvT hZ (hw _ (List.mem_of_getElem? (i := 23) rfl))) (notFace_of_selects (args := #[]) (mvT hZ (hw _ (List.mem_of_getElem? (i := 25) rfl)))) (mvT hZ (hw _ (List.mem_of_getElem? (i := 25) rfl))) (mvT hZ (hw _ (List.mem_of_getElem? (i := 24) rfl))) (by decide) (backOf (W := 0) (rm4 l Z a0 hw [] wX wX_label h0 n0 Z0 (F_wX_label.ext O0.2)) hZ (hw _ (List.mem_of_getElem? (i := 26) rfl)) (hw _ (List.mem_of_getElem? (i := 6) rfl)) (by decide) (by decide)) q551a q551c (g := (mkF m 25 #[.val (.int p1), .val (.int p2), .val (.ref wX), .val (.int (1 : Int32)), .val (.int (0 : Int32)), .unset, .unset] [(.ref wX)])) rfl (by rw [hml]; rfl) (Steps.refl _) (argsL := []) (rest := []) (lenOf pd___Ljava_lang_String_ rfl) rfl (by show 2 * 0 + _ ≤ _; exact Nat.le_of_eq rfl) (hb hby at_25) (fun _ _ => ⟨rfl, e548, (by decide : 0 + 0 ≤ _), (by decide : 0 + 0 ≤ _)⟩)
        dsimp only [Pt.U, Pt.locs, Pt.cells, Pt.slots] at X551 l551 y551 z551 st551 hQ551
        subst l551 y551 z551
        obtain ⟨rfl, N551q, e551⟩ := hQ551
        have N551 := Fr.app N548 N551q
        have pre552 : ∀ t, Steps p.tables e below (T551.setTop (mkF m 28 #[.val (.int p1), .val (.int p2), .val (.ref wX), .val (.int (1 : Int32)), .val (.int (0 : Int32)), .unset, .unset] [(.ref wX_label)])) t → Steps p.tables e below (s₁.setTop (entryFrame m #[(.int p1), (.int p2)] maxLocals)) t := by
          intro t k
          refine pre550 _ ?_
          show Steps p.tables e below (T548.setTop (mkF m 25 #[.val (.int p1), .val (.int p2), .val (.ref wX), .val (.int (1 : Int32)), .val (.int (0 : Int32)), .unset, .unset] [(.ref wX)])) _
          refine st551.trans ?_
          exact k
        have pre553 : ∀ t, Steps p.tables e below (T551.setTop (mkF m 32 #[.val (.int p1), .val (.int p2), .val (.ref wX), .val (.int (1 : Int32)), .val (.int (0 : Int32)), .val (.ref wX_label), .unset] [(.ref wX_label)])) t → Steps p.tables e below (s₁.setTop (entryFrame m #[(.int p1), (.int p2)] maxLocals)) t := by
          intro t k
          refine pre552 _ ?_
          show Steps p.tables e below (T551.setTop (mkF m 28 #[.val (.int p1), .val (.int p2), .val (.ref wX), .val (.int (1 : Int32)), .val (.int (0 : Int32)), .unset, .unset] [(.ref wX_label)])) _
          refine XS.astore X551.here hx rfl (hb hby at_28) rfl rfl (l' := #[.val (.int p1), .val (.int p2), .val (.ref wX), .val (.int (1 : Int32)), .val (.int (0 : Int32)), .val (.ref wX_label), .unset]) rfl ?_
          show Steps p.tables e below (T551.setTop (mkF m 30 #[.val (.int p1), .val (.int p2), .val (.ref wX), .val (.int (1 : Int32)), .val (.int (0 : Int32)), .val (.ref wX_label), .unset] [])) _
          refine XS.aload X551.here hx rfl (hb hby at_30) rfl rfl ?_
          exact k
        have NFs554 : Fr s.heap.size _ := hn0 ▸ N551
        obtain ⟨l554, T554, h554, kk554, vl554, k_vl554, X554, e554, E554, hS554, sk554, hZ554, hown554, Ex554, Co554, Va554, Av554, -, -, IB554, st554⟩ := ldcSV (s := s) (vm0 := s.vm) X551 hx hZ hown (hw _ (List.mem_of_getElem? (i := 29) rfl)) (own_wS hw) e551 hS0 SK0 NFs554 hkeep hIB (by decide) hc34 hcw (vs := [.int (105 : Int32), .int (110 : Int32), .int (99 : Int32), .int (108 : Int32), .int (117 : Int32), .int (100 : Int32), .int (101 : Int32), .int (100 : Int32)]) (z := (8 : Int32)) ⟨by decide, rfl⟩ (by decide) (by decide) (g := (mkF m 32 #[.val (.int p1), .val (.int p2), .val (.ref wX), .val (.int (1 : Int32)), .val (.int (0 : Int32)), .val (.ref wX_label), .unset] [(.ref wX_label)])) rfl (hb hby at_32) (n := 32) (by decide) (by decide) (by decide) (by decide)
        have O555 := O0.ext E554
        have Z556 : n0 ≤ h554.size := Nat.le_trans Z0 E554.1
        have pre557 : ∀ t, Steps p.tables e below (T554.setTop (mkF m 34 #[.val (.int p1), .val (.int p2), .val (.ref wX), .val (.int (1 : Int32)), .val (.int (0 : Int32)), .val (.ref wX_label), .unset] [(.ref l554), (.ref wX_label)])) t → Steps p.tables e below (s₁.setTop (entryFrame m #[(.int p1), (.int p2)] maxLocals)) t := by
          intro t k
          refine pre553 _ ?_
          show Steps p.tables e below (T551.setTop (mkF m 32 #[.val (.int p1), .val (.int p2), .val (.ref wX), .val (.int (1 : Int32)), .val (.int (0 : Int32)), .val (.ref wX_label), .unset] [(.ref wX_label)])) _
          refine st554 _ ?_
          exact k
        obtain ⟨cq558, kq558, q558a, q558b, q558c⟩ := isOf hZ554 e554 (E_wX_label.ext O555.2)
        obtain ⟨_, _, ⟨T558, L558, k558, n558⟩, -, X558, ⟨Lc558, hQ558, l558, y558, z558⟩, st558⟩ := X554.virtualBack hx (y := (⟨"java/lang/String", "equals", "(Ljava/lang/Object;)Z"⟩ : MethodName)) (z := (⟨"java/lang/String", "equals", "(Ljava/lang/Object;)Z"⟩ : MethodName)) hown554 (mvT hZ554 (hw _ (List.mem_of_getElem? (i := 37) rfl))) (mvT hZ554 (hw _ (List.mem_of_getElem? (i := 38) rfl))) (notFace_of_selects (args := #[]) (mvT hZ554 (hw _ (List.mem_of_getElem? (i := 40) rfl)))) (mvT hZ554 (hw _ (List.mem_of_getElem? (i := 40) rfl))) (mvT hZ554 (hw _ (List.mem_of_getElem? (i := 39) rfl))) (by decide) (backOf (W := 0) (rm5xi l Z a0 hw [] wX_label l554 wX_label_value vl554 k_wX_label_value k_vl554 pC h554 n0 Z556 Ex554 (F_wX_label_coder.ext O555.2) Co554 (F_wX_label_value.ext O555.2) Va554 (V_wX.ext O555.2) Av554 hpc (Fld.ne (F_wX_label_value.ext O555.2) Va554 (fun q => own_hd_ne (V_wX.ext O555.2) Av554 (by decide) (by decide) (Value.ref.inj q))) (S_pC.ext O555.2)) hZ554 (hw _ (List.mem_of_getElem? (i := 41) rfl)) (hw _ (List.mem_of_getElem? (i := 30) rfl)) (by decide) (by decide)) q558a q558c (g := (mkF m 34 #[.val (.int p1), .val (.int p2), .val (.ref wX), .val (.int (1 : Int32)), .val (.int (0 : Int32)), .val (.ref wX_label), .unset] [(.ref l554), (.ref wX_label)])) rfl (by rw [hml]; rfl) (Steps.refl _) (argsL := [(.ref l554)]) (rest := []) (lenOf pd__Ljava_lang_Object__Z rfl) rfl (by show 2 * 0 + _ ≤ _; exact Nat.le_of_eq rfl) (hb hby at_34) (fun _ _ => ⟨rfl, e554, (by decide : 2 + 0 ≤ _), (by decide : 36 + 0 ≤ _)⟩)
        dsimp only [Pt.U, Pt.locs, Pt.cells, Pt.slots] at X558 l558 y558 z558 st558 hQ558
        subst l558 y558 z558
        obtain ⟨rfl, N558q, e558⟩ := hQ558
        have N558 := Fr.app N551 N558q
        have pre559 : ∀ t, Steps p.tables e below (T558.setTop (mkF m 37 #[.val (.int p1), .val (.int p2), .val (.ref wX), .val (.int (1 : Int32)), .val (.int (0 : Int32)), .val (.ref wX_label), .unset] [(.int (0 : Int32))])) t → Steps p.tables e below (s₁.setTop (entryFrame m #[(.int p1), (.int p2)] maxLocals)) t := by
          intro t k
          refine pre557 _ ?_
          show Steps p.tables e below (T554.setTop (mkF m 34 #[.val (.int p1), .val (.int p2), .val (.ref wX), .val (.int (1 : Int32)), .val (.int (0 : Int32)), .val (.ref wX_label), .unset] [(.ref l554), (.ref wX_label)])) _
          refine st558.trans ?_
          exact k
        have pre561 : ∀ t, Steps p.tables e below (T558.setTop (mkF m 46 #[.val (.int p1), .val (.int p2), .val (.ref wX), .val (.int (1 : Int32)), .val (.int (0 : Int32)), .val (.ref wX_label), .unset] [])) t → Steps p.tables e below (s₁.setTop (entryFrame m #[(.int p1), (.int p2)] maxLocals)) t := by
          intro t k
          refine pre559 _ ?_
          show Steps p.tables e below (T558.setTop (mkF m 37 #[.val (.int p1), .val (.int p2), .val (.ref wX), .val (.int (1 : Int32)), .val (.int (0 : Int32)), .val (.ref wX_label), .unset] [(.int (0 : Int32))])) _
          refine XS.ifYes X558.here hx rfl (pc0 := 37) (pc' := 46) rfl (hb hby at_37) rfl ((if0 _ _).trans (teq (rfl : (0 : Int32) = (0 : Int32))).1) (by decide) (by decide) ?_
          exact k
        have pre562 : ∀ t, Steps p.tables e below (T558.setTop (mkF m 48 #[.val (.int p1), .val (.int p2), .val (.ref wX), .val (.int (1 : Int32)), .val (.int (0 : Int32)), .val (.ref wX_label), .unset] [(.ref wX_label)])) t → Steps p.tables e below (s₁.setTop (entryFrame m #[(.int p1), (.int p2)] maxLocals)) t := by
          intro t k
          refine pre561 _ ?_
          show Steps p.tables e below (T558.setTop (mkF m 46 #[.val (.int p1), .val (.int p2), .val (.ref wX), .val (.int (1 : Int32)), .val (.int (0 : Int32)), .val (.ref wX_label), .unset] [])) _
          refine XS.aload X558.here hx rfl (hb hby at_46) rfl rfl ?_
          exact k
        have NFs563 : Fr s.heap.size _ := hn0 ▸ N558
        obtain ⟨l563, T563, h563, kk563, vl563, k_vl563, X563, e563, E563, hS563, sk563, hZ563, hown563, Ex563, Co563, Va563, Av563, -, -, IB563, st563⟩ := ldcSV (s := s) (vm0 := T554.vm) X558 hx hZ554 hown554 (hw _ (List.mem_of_getElem? (i := 53) rfl)) (own_wS hw) e558 hS554 sk554 NFs563 hkeep IB554 (by decide) hc42 hcw (vs := [.int (101 : Int32), .int (120 : Int32), .int (99 : Int32), .int (108 : Int32), .int (117 : Int32), .int (100 : Int32), .int (101 : Int32), .int (100 : Int32)]) (z := (8 : Int32)) ⟨by decide, rfl⟩ (by decide) (by decide) (g := (mkF m 48 #[.val (.int p1), .val (.int p2), .val (.ref wX), .val (.int (1 : Int32)), .val (.int (0 : Int32)), .val (.ref wX_label), .unset] [(.ref wX_label)])) rfl (hb hby at_48) (n := 32) (by decide) (by decide) (by decide) (by decide)
        have O564 := O555.ext E563
        have Z565 : n0 ≤ h563.size := Nat.le_trans Z556 E563.1
        have pre566 : ∀ t, Steps p.tables e below (T563.setTop (mkF m 50 #[.val (.int p1), .val (.int p2), .val (.ref wX), .val (.int (1 : Int32)), .val (.int (0 : Int32)), .val (.ref wX_label), .unset] [(.ref l563), (.ref wX_label)])) t → Steps p.tables e below (s₁.setTop (entryFrame m #[(.int p1), (.int p2)] maxLocals)) t := by
          intro t k
          refine pre562 _ ?_
          show Steps p.tables e below (T558.setTop (mkF m 48 #[.val (.int p1), .val (.int p2), .val (.ref wX), .val (.int (1 : Int32)), .val (.int (0 : Int32)), .val (.ref wX_label), .unset] [(.ref wX_label)])) _
          refine st563 _ ?_
          exact k
        obtain ⟨cq567, kq567, q567a, q567b, q567c⟩ := isOf hZ563 e563 (E_wX_label.ext O564.2)
        obtain ⟨_, _, ⟨T567, L567, k567, n567⟩, -, X567, ⟨Lc567, hQ567, l567, y567, z567⟩, st567⟩ := X563.virtualBack hx (y := (⟨"java/lang/String", "equals", "(Ljava/lang/Object;)Z"⟩ : MethodName)) (z := (⟨"java/lang/String", "equals", "(Ljava/lang/Object;)Z"⟩ : MethodName)) hown563 (mvT hZ563 (hw _ (List.mem_of_getElem? (i := 37) rfl))) (mvT hZ563 (hw _ (List.mem_of_getElem? (i := 38) rfl))) (notFace_of_selects (args := #[]) (mvT hZ563 (hw _ (List.mem_of_getElem? (i := 40) rfl)))) (mvT hZ563 (hw _ (List.mem_of_getElem? (i := 40) rfl))) (mvT hZ563 (hw _ (List.mem_of_getElem? (i := 39) rfl))) (by decide) (backOf (W := 0) (rm5xx l Z a0 hw [] wX_label l563 wX_label_value vl563 k_wX_label_value k_vl563 pC h563 n0 Z565 Ex563 (F_wX_label_coder.ext O564.2) Co563 (F_wX_label_value.ext O564.2) Va563 (V_wX.ext O564.2) Av563 hpc (S_pC.ext O564.2)) hZ563 (hw _ (List.mem_of_getElem? (i := 41) rfl)) (hw _ (List.mem_of_getElem? (i := 30) rfl)) (by decide) (by decide)) q567a q567c (g := (mkF m 50 #[.val (.int p1), .val (.int p2), .val (.ref wX), .val (.int (1 : Int32)), .val (.int (0 : Int32)), .val (.ref wX_label), .unset] [(.ref l563), (.ref wX_label)])) rfl (by rw [hml]; rfl) (Steps.refl _) (argsL := [(.ref l563)]) (rest := []) (lenOf pd__Ljava_lang_Object__Z rfl) rfl (by show 2 * 0 + _ ≤ _; exact Nat.le_of_eq rfl) (hb hby at_50) (fun _ _ => ⟨rfl, e563, (by decide : 4 + 0 ≤ _), (by decide : 72 + 0 ≤ _)⟩)
        dsimp only [Pt.U, Pt.locs, Pt.cells, Pt.slots] at X567 l567 y567 z567 st567 hQ567
        subst l567 y567 z567
        obtain ⟨rfl, N567q, e567⟩ := hQ567
        have N567 := Fr.app N558 N567q
        have pre568 : ∀ t, Steps p.tables e below (T567.setTop (mkF m 53 #[.val (.int p1), .val (.int p2), .val (.ref wX), .val (.int (1 : Int32)), .val (.int (0 : Int32)), .val (.ref wX_label), .unset] [(.int (1 : Int32))])) t → Steps p.tables e below (s₁.setTop (entryFrame m #[(.int p1), (.int p2)] maxLocals)) t := by
          intro t k
          refine pre566 _ ?_
          show Steps p.tables e below (T563.setTop (mkF m 50 #[.val (.int p1), .val (.int p2), .val (.ref wX), .val (.int (1 : Int32)), .val (.int (0 : Int32)), .val (.ref wX_label), .unset] [(.ref l563), (.ref wX_label)])) _
          refine st567.trans ?_
          exact k
        have pre570 : ∀ t, Steps p.tables e below (T567.setTop (mkF m 56 #[.val (.int p1), .val (.int p2), .val (.ref wX), .val (.int (1 : Int32)), .val (.int (0 : Int32)), .val (.ref wX_label), .unset] [])) t → Steps p.tables e below (s₁.setTop (entryFrame m #[(.int p1), (.int p2)] maxLocals)) t := by
          intro t k
          refine pre568 _ ?_
          show Steps p.tables e below (T567.setTop (mkF m 53 #[.val (.int p1), .val (.int p2), .val (.ref wX), .val (.int (1 : Int32)), .val (.int (0 : Int32)), .val (.ref wX_label), .unset] [(.int (1 : Int32))])) _
          refine XS.ifNo X567.here hx rfl (hb hby at_53) rfl ((if0 _ _).trans (feq (by decide : ¬ ((1 : Int32) = (0 : Int32)))).1) ?_
          exact k
        have pre571 : ∀ t, Steps p.tables e below (T567.setTop (mkF m 84 #[.val (.int p1), .val (.int p2), .val (.ref wX), .val (.int (1 : Int32)), .val (.int (0 : Int32)), .val (.ref wX_label), .val (.int (0 : Int32))] [(.int (0 : Int32)), (.int (0 : Int32))])) t → Steps p.tables e below (s₁.setTop (entryFrame m #[(.int p1), (.int p2)] maxLocals)) t := by
          intro t k
          refine pre570 _ ?_
          show Steps p.tables e below (T567.setTop (mkF m 56 #[.val (.int p1), .val (.int p2), .val (.ref wX), .val (.int (1 : Int32)), .val (.int (0 : Int32)), .val (.ref wX_label), .unset] [])) _
          refine XS.iconst X567.here hx rfl (hb hby at_56) ?_
          show Steps p.tables e below (T567.setTop (mkF m 57 #[.val (.int p1), .val (.int p2), .val (.ref wX), .val (.int (1 : Int32)), .val (.int (0 : Int32)), .val (.ref wX_label), .unset] [(.int (0 : Int32))])) _
          refine XS.istore X567.here hx rfl (hb hby at_57) rfl (l' := #[.val (.int p1), .val (.int p2), .val (.ref wX), .val (.int (1 : Int32)), .val (.int (0 : Int32)), .val (.ref wX_label), .val (.int (0 : Int32))]) rfl ?_
          show Steps p.tables e below (T567.setTop (mkF m 59 #[.val (.int p1), .val (.int p2), .val (.ref wX), .val (.int (1 : Int32)), .val (.int (0 : Int32)), .val (.ref wX_label), .val (.int (0 : Int32))] [])) _
          refine XS.goto X567.here hx rfl (pc0 := 59) (pc' := 80) rfl (hb hby at_59) (by decide) (by decide) ?_
          show Steps p.tables e below (T567.setTop (mkF m 80 #[.val (.int p1), .val (.int p2), .val (.ref wX), .val (.int (1 : Int32)), .val (.int (0 : Int32)), .val (.ref wX_label), .val (.int (0 : Int32))] [])) _
          refine XS.iload X567.here hx rfl (hb hby at_80) rfl ?_
          show Steps p.tables e below (T567.setTop (mkF m 82 #[.val (.int p1), .val (.int p2), .val (.ref wX), .val (.int (1 : Int32)), .val (.int (0 : Int32)), .val (.ref wX_label), .val (.int (0 : Int32))] [(.int (0 : Int32))])) _
          refine XS.iload X567.here hx rfl (hb hby at_82) rfl ?_
          exact k
        have pre573 : ∀ t, Steps p.tables e below (T567.setTop (mkF m 87 #[.val (.int p1), .val (.int p2), .val (.ref wX), .val (.int (1 : Int32)), .val (.int (0 : Int32)), .val (.ref wX_label), .val (.int (0 : Int32))] [])) t → Steps p.tables e below (s₁.setTop (entryFrame m #[(.int p1), (.int p2)] maxLocals)) t := by
          intro t k
          refine pre571 _ ?_
          show Steps p.tables e below (T567.setTop (mkF m 84 #[.val (.int p1), .val (.int p2), .val (.ref wX), .val (.int (1 : Int32)), .val (.int (0 : Int32)), .val (.ref wX_label), .val (.int (0 : Int32))] [(.int (0 : Int32)), (.int (0 : Int32))])) _
          refine XS.icmpNo X567.here hx rfl (hb hby at_84) rfl (teq (rfl : (0 : Int32) = (0 : Int32))).2 ?_
          exact k
        have pre574 : ∀ t, Steps p.tables e below (T567.setTop (mkF m 92 #[.val (.int p1), .val (.int p2), .val (.ref wX), .val (.int (1 : Int32)), .val (.int (0 : Int32)), .val (.ref wX_label), .val (.int (0 : Int32))] [(.int (1 : Int32))])) t → Steps p.tables e below (s₁.setTop (entryFrame m #[(.int p1), (.int p2)] maxLocals)) t := by
          intro t k
          refine pre573 _ ?_
          show Steps p.tables e below (T567.setTop (mkF m 87 #[.val (.int p1), .val (.int p2), .val (.ref wX), .val (.int (1 : Int32)), .val (.int (0 : Int32)), .val (.ref wX_label), .val (.int (0 : Int32))] [])) _
          refine XS.iconst X567.here hx rfl (hb hby at_87) ?_
          show Steps p.tables e below (T567.setTop (mkF m 88 #[.val (.int p1), .val (.int p2), .val (.ref wX), .val (.int (1 : Int32)), .val (.int (0 : Int32)), .val (.ref wX_label), .val (.int (0 : Int32))] [(.int (1 : Int32))])) _
          refine XS.goto X567.here hx rfl (pc0 := 88) (pc' := 92) rfl (hb hby at_88) (by decide) (by decide) ?_
          exact k
        obtain ⟨fs, hr, hrun, hended, hsame⟩ := Stand.leaveW (s := s) (vm₁ := T563.vm) X567 hS563 (by rw [e567]; exact sk563) (v := some (.int (1 : Int32))) (fun h => by rw [hret] at h; cases h)
        refine ⟨_, _, pre574 _ ?_, hrun, hended, _, _, rfl, ?_, ⟨hsame.1, hsame.2.1, hsame.2.2.1, hsame.2.2.2.mono (by decide) (by decide)⟩⟩
        · show Steps p.tables e below (T567.setTop (mkF m 92 #[.val (.int p1), .val (.int p2), .val (.ref wX), .val (.int (1 : Int32)), .val (.int (0 : Int32)), .val (.ref wX_label), .val (.int (0 : Int32))] [(.int (1 : Int32))])) _
          exact retN X567 hx (t := .boolean) hret (by simp) (hb hby at_92) hr
        · show Q0 Z p1 p2 wI_label wI_label_value k_wI_label_value wX_label wX_label_value k_wX_label_value wE_label wE_label_value k_wE_label_value wI wX wE pC h0 n0 _ T567.heap _
          exact ⟨(by rw [F0, if_neg hk467, if_pos hk512, if_neg hc516]), N567⟩
    · obtain ⟨_, _, ⟨T575, L575, k575, n575⟩, -, X575, ⟨Lc575, hQ575, l575, y575, z575⟩, st575⟩ := Jvm.LawKit.callS X0 hx (y := (⟨"com/example/notesmith/notesmith/note/ConvertedInterestConvertsPinLaw", "pick", "(I)Lcom/example/notesmith/notesmith/note/ConvertedInterest;"⟩ : MethodName)) hown (mvT hZ (hw _ (List.mem_of_getElem? (i := 0) rfl))) (mvT hZ (hw _ (List.mem_of_getElem? (i := 1) rfl))) (mvT hZ (hw _ (List.mem_of_getElem? (i := 2) rfl))) (mvT hZ (hw _ (List.mem_of_getElem? (i := 3) rfl))) (by decide) (backOf (W := 0) (rm1e l Z a0 hw [] p1 wI wX wE h0 n0 Z0 hk467 hk512 (S_wI.ext O0.2) (S_wX.ext O0.2) (S_wE.ext O0.2)) hZ (hw _ (List.mem_of_getElem? (i := 3) rfl)) (hw _ (List.mem_of_getElem? (i := 2) rfl)) (by decide) (by decide)) (g := (mkF m 1 #[.val (.int p1), .val (.int p2), .unset, .unset, .unset, .unset, .unset] [(.int p1)])) rfl (by rw [hml]; rfl) (argsL := [(.int p1)]) (rest := []) (lenOf pd__I_Lcom_example_notesmith_notesmith_note_ConvertedInterest_ rfl) rfl (by show 2 * 0 + _ ≤ _; exact Nat.le_of_eq rfl) (hb hby at_1) (fun _ _ => ⟨rfl, e0, (by decide : 0 + 0 ≤ _), (by decide : 0 + 0 ≤ _)⟩)
      dsimp only [Pt.U, Pt.locs, Pt.cells, Pt.slots] at X575 l575 y575 z575 st575 hQ575
      subst l575 y575 z575
      obtain ⟨rfl, N575q, e575⟩ := hQ575
      have N575 := Fr.app N0 N575q
      have pre576 : ∀ t, Steps p.tables e below (T575.setTop (mkF m 4 #[.val (.int p1), .val (.int p2), .unset, .unset, .unset, .unset, .unset] [(.ref wE)])) t → Steps p.tables e below (s₁.setTop (entryFrame m #[(.int p1), (.int p2)] maxLocals)) t := by
        intro t k
        refine pre466 _ ?_
        show Steps p.tables e below (s₁.setTop (mkF m 1 #[.val (.int p1), .val (.int p2), .unset, .unset, .unset, .unset, .unset] [(.int p1)])) _
        refine st575 _ ?_
        exact k
      have pre577 : ∀ t, Steps p.tables e below (T575.setTop (mkF m 8 #[.val (.int p1), .val (.int p2), .val (.ref wE), .unset, .unset, .unset, .unset] [(.int (p2 &&& (1 : Int32)))])) t → Steps p.tables e below (s₁.setTop (entryFrame m #[(.int p1), (.int p2)] maxLocals)) t := by
        intro t k
        refine pre576 _ ?_
        show Steps p.tables e below (T575.setTop (mkF m 4 #[.val (.int p1), .val (.int p2), .unset, .unset, .unset, .unset, .unset] [(.ref wE)])) _
        refine XS.astoreN X575.here hx rfl (hb hby at_4) rfl rfl (l' := #[.val (.int p1), .val (.int p2), .val (.ref wE), .unset, .unset, .unset, .unset]) rfl ?_
        show Steps p.tables e below (T575.setTop (mkF m 5 #[.val (.int p1), .val (.int p2), .val (.ref wE), .unset, .unset, .unset, .unset] [])) _
        refine XS.iloadN X575.here hx rfl (hb hby at_5) rfl ?_
        show Steps p.tables e below (T575.setTop (mkF m 6 #[.val (.int p1), .val (.int p2), .val (.ref wE), .unset, .unset, .unset, .unset] [(.int p2)])) _
        refine XS.iconst X575.here hx rfl (hb hby at_6) ?_
        show Steps p.tables e below (T575.setTop (mkF m 7 #[.val (.int p1), .val (.int p2), .val (.ref wE), .unset, .unset, .unset, .unset] [(.int (1 : Int32)), (.int p2)])) _
        refine XS.iand X575.here hx rfl (hb hby at_7) rfl ?_
        exact k
      by_cases hc578 : (p2 &&& (1 : Int32)) = (0 : Int32)
      · have pre579 : ∀ t, Steps p.tables e below (T575.setTop (mkF m 15 #[.val (.int p1), .val (.int p2), .val (.ref wE), .unset, .unset, .unset, .unset] [])) t → Steps p.tables e below (s₁.setTop (entryFrame m #[(.int p1), (.int p2)] maxLocals)) t := by
          intro t k
          refine pre577 _ ?_
          show Steps p.tables e below (T575.setTop (mkF m 8 #[.val (.int p1), .val (.int p2), .val (.ref wE), .unset, .unset, .unset, .unset] [(.int (p2 &&& (1 : Int32)))])) _
          refine XS.ifYes X575.here hx rfl (pc0 := 8) (pc' := 15) rfl (hb hby at_8) rfl ((if0 _ _).trans (teq hc578).1) (by decide) (by decide) ?_
          exact k
        have pre580 : ∀ t, Steps p.tables e below (T575.setTop (mkF m 19 #[.val (.int p1), .val (.int p2), .val (.ref wE), .val (.int (0 : Int32)), .unset, .unset, .unset] [(.int (0 : Int32)), (.ref wE)])) t → Steps p.tables e below (s₁.setTop (entryFrame m #[(.int p1), (.int p2)] maxLocals)) t := by
          intro t k
          refine pre579 _ ?_
          show Steps p.tables e below (T575.setTop (mkF m 15 #[.val (.int p1), .val (.int p2), .val (.ref wE), .unset, .unset, .unset, .unset] [])) _
          refine XS.iconst X575.here hx rfl (hb hby at_15) ?_
          show Steps p.tables e below (T575.setTop (mkF m 16 #[.val (.int p1), .val (.int p2), .val (.ref wE), .unset, .unset, .unset, .unset] [(.int (0 : Int32))])) _
          refine XS.istoreN X575.here hx rfl (hb hby at_16) rfl (l' := #[.val (.int p1), .val (.int p2), .val (.ref wE), .val (.int (0 : Int32)), .unset, .unset, .unset]) rfl ?_
          show Steps p.tables e below (T575.setTop (mkF m 17 #[.val (.int p1), .val (.int p2), .val (.ref wE), .val (.int (0 : Int32)), .unset, .unset, .unset] [])) _
          refine XS.aloadN X575.here hx rfl (hb hby at_17) rfl rfl ?_
          show Steps p.tables e below (T575.setTop (mkF m 18 #[.val (.int p1), .val (.int p2), .val (.ref wE), .val (.int (0 : Int32)), .unset, .unset, .unset] [(.ref wE)])) _
          refine XS.iloadN X575.here hx rfl (hb hby at_18) rfl ?_
          exact k
        obtain ⟨cq581, kq581, q581a, q581b, q581c⟩ := isOf hZ e575 (E_wE.ext O0.2)
        obtain ⟨_, _, ⟨T581, L581, k581, n581⟩, -, X581, ⟨Lc581, hQ581, l581, y581, z581⟩, st581⟩ := X575.virtualBack hx (y := (⟨"com/example/notesmith/notesmith/note/ConvertedInterest", "converts", "(Z)Z"⟩ : MethodName)) (z := (⟨"com/example/notesmith/notesmith/note/ConvertedInterest", "converts", "(Z)Z"⟩ : MethodName)) hown (mvT hZ (hw _ (List.mem_of_getElem? (i := 8) rfl))) (mvT hZ (hw _ (List.mem_of_getElem? (i := 9) rfl))) (notFace_of_selects (args := #[]) (mvT hZ (hw _ (List.mem_of_getElem? (i := 11) rfl)))) (mvT hZ (hw _ (List.mem_of_getElem? (i := 11) rfl))) (mvT hZ (hw _ (List.mem_of_getElem? (i := 10) rfl))) (by decide) (backOf (W := 0) (rm2e l Z a0 hw [] wE (0 : Int32) h0 n0 Z0 (E_wE.ext O0.2) (F_wE_ordinal.ext O0.2)) hZ (hw _ (List.mem_of_getElem? (i := 12) rfl)) (hw _ (List.mem_of_getElem? (i := 6) rfl)) (by decide) (by decide)) q581a q581c (g := (mkF m 19 #[.val (.int p1), .val (.int p2), .val (.ref wE), .val (.int (0 : Int32)), .unset, .unset, .unset] [(.int (0 : Int32)), (.ref wE)])) rfl (by rw [hml]; rfl) (Steps.refl _) (argsL := [(.int (0 : Int32))]) (rest := []) (lenOf pd__Z_Z rfl) rfl (by show 2 * 0 + _ ≤ _; exact Nat.le_of_eq rfl) (hb hby at_19) (fun _ _ => ⟨rfl, e575, (by decide : 0 + 0 ≤ _), (by decide : 0 + 0 ≤ _)⟩)
        dsimp only [Pt.U, Pt.locs, Pt.cells, Pt.slots] at X581 l581 y581 z581 st581 hQ581
        subst l581 y581 z581
        obtain ⟨rfl, N581q, e581⟩ := hQ581
        have N581 := Fr.app N575 N581q
        have pre582 : ∀ t, Steps p.tables e below (T581.setTop (mkF m 22 #[.val (.int p1), .val (.int p2), .val (.ref wE), .val (.int (0 : Int32)), .unset, .unset, .unset] [(.int (0 : Int32))])) t → Steps p.tables e below (s₁.setTop (entryFrame m #[(.int p1), (.int p2)] maxLocals)) t := by
          intro t k
          refine pre580 _ ?_
          show Steps p.tables e below (T575.setTop (mkF m 19 #[.val (.int p1), .val (.int p2), .val (.ref wE), .val (.int (0 : Int32)), .unset, .unset, .unset] [(.int (0 : Int32)), (.ref wE)])) _
          refine st581.trans ?_
          exact k
        have pre583 : ∀ t, Steps p.tables e below (T581.setTop (mkF m 25 #[.val (.int p1), .val (.int p2), .val (.ref wE), .val (.int (0 : Int32)), .val (.int (0 : Int32)), .unset, .unset] [(.ref wE)])) t → Steps p.tables e below (s₁.setTop (entryFrame m #[(.int p1), (.int p2)] maxLocals)) t := by
          intro t k
          refine pre582 _ ?_
          show Steps p.tables e below (T581.setTop (mkF m 22 #[.val (.int p1), .val (.int p2), .val (.ref wE), .val (.int (0 : Int32)), .unset, .unset, .unset] [(.int (0 : Int32))])) _
          refine XS.istore X581.here hx rfl (hb hby at_22) rfl (l' := #[.val (.int p1), .val (.int p2), .val (.ref wE), .val (.int (0 : Int32)), .val (.int (0 : Int32)), .unset, .unset]) rfl ?_
          show Steps p.tables e below (T581.setTop (mkF m 24 #[.val (.int p1), .val (.int p2), .val (.ref wE), .val (.int (0 : Int32)), .val (.int (0 : Int32)), .unset, .unset] [])) _
          refine XS.aloadN X581.here hx rfl (hb hby at_24) rfl rfl ?_
          exact k
        obtain ⟨cq584, kq584, q584a, q584b, q584c⟩ := isOf hZ e581 (E_wE.ext O0.2)
        obtain ⟨_, _, ⟨T584, L584, k584, n584⟩, -, X584, ⟨Lc584, hQ584, l584, y584, z584⟩, st584⟩ := X581.virtualBack hx (y := (⟨"com/example/notesmith/notesmith/note/ConvertedInterest", "label", "()Ljava/lang/String;"⟩ : MethodName)) (z := (⟨"com/example/notesmith/notesmith/note/ConvertedInterest", "label", "()Ljava/lang/String;"⟩ : MethodName)) hown (mvT hZ (hw _ (List.mem_of_getElem? (i := 22) rfl))) (mvT hZ (hw _ (List.mem_of_getElem? (i := 23) rfl))) (notFace_of_selects (args := #[]) (mvT hZ (hw _ (List.mem_of_getElem? (i := 25) rfl)))) (mvT hZ (hw _ (List.mem_of_getElem? (i := 25) rfl))) (mvT hZ (hw _ (List.mem_of_getElem? (i := 24) rfl))) (by decide) (backOf (W := 0) (rm4 l Z a0 hw [] wE wE_label h0 n0 Z0 (F_wE_label.ext O0.2)) hZ (hw _ (List.mem_of_getElem? (i := 26) rfl)) (hw _ (List.mem_of_getElem? (i := 6) rfl)) (by decide) (by decide)) q584a q584c (g := (mkF m 25 #[.val (.int p1), .val (.int p2), .val (.ref wE), .val (.int (0 : Int32)), .val (.int (0 : Int32)), .unset, .unset] [(.ref wE)])) rfl (by rw [hml]; rfl) (Steps.refl _) (argsL := []) (rest := []) (lenOf pd___Ljava_lang_String_ rfl) rfl (by show 2 * 0 + _ ≤ _; exact Nat.le_of_eq rfl) (hb hby at_25) (fun _ _ => ⟨rfl, e581, (by decide : 0 + 0 ≤ _), (by decide : 0 + 0 ≤ _)⟩)
        dsimp only [Pt.U, Pt.locs, Pt.cells, Pt.slots] at X584 l584 y584 z584 st584 hQ584
        subst l584 y584 z584
        obtain ⟨rfl, N584q, e584⟩ := hQ584
        have N584 := Fr.app N581 N584q
        have pre585 : ∀ t, Steps p.tables e below (T584.setTop (mkF m 28 #[.val (.int p1), .val (.int p2), .val (.ref wE), .val (.int (0 : Int32)), .val (.int (0 : Int32)), .unset, .unset] [(.ref wE_label)])) t → Steps p.tables e below (s₁.setTop (entryFrame m #[(.int p1), (.int p2)] maxLocals)) t := by
          intro t k
          refine pre583 _ ?_
          show Steps p.tables e below (T581.setTop (mkF m 25 #[.val (.int p1), .val (.int p2), .val (.ref wE), .val (.int (0 : Int32)), .val (.int (0 : Int32)), .unset, .unset] [(.ref wE)])) _
          refine st584.trans ?_
          exact k
        have pre586 : ∀ t, Steps p.tables e below (T584.setTop (mkF m 32 #[.val (.int p1), .val (.int p2), .val (.ref wE), .val (.int (0 : Int32)), .val (.int (0 : Int32)), .val (.ref wE_label), .unset] [(.ref wE_label)])) t → Steps p.tables e below (s₁.setTop (entryFrame m #[(.int p1), (.int p2)] maxLocals)) t := by
          intro t k
          refine pre585 _ ?_
          show Steps p.tables e below (T584.setTop (mkF m 28 #[.val (.int p1), .val (.int p2), .val (.ref wE), .val (.int (0 : Int32)), .val (.int (0 : Int32)), .unset, .unset] [(.ref wE_label)])) _
          refine XS.astore X584.here hx rfl (hb hby at_28) rfl rfl (l' := #[.val (.int p1), .val (.int p2), .val (.ref wE), .val (.int (0 : Int32)), .val (.int (0 : Int32)), .val (.ref wE_label), .unset]) rfl ?_
          show Steps p.tables e below (T584.setTop (mkF m 30 #[.val (.int p1), .val (.int p2), .val (.ref wE), .val (.int (0 : Int32)), .val (.int (0 : Int32)), .val (.ref wE_label), .unset] [])) _
          refine XS.aload X584.here hx rfl (hb hby at_30) rfl rfl ?_
          exact k
        have NFs587 : Fr s.heap.size _ := hn0 ▸ N584
        obtain ⟨l587, T587, h587, kk587, vl587, k_vl587, X587, e587, E587, hS587, sk587, hZ587, hown587, Ex587, Co587, Va587, Av587, -, -, IB587, st587⟩ := ldcSV (s := s) (vm0 := s.vm) X584 hx hZ hown (hw _ (List.mem_of_getElem? (i := 29) rfl)) (own_wS hw) e584 hS0 SK0 NFs587 hkeep hIB (by decide) hc34 hcw (vs := [.int (105 : Int32), .int (110 : Int32), .int (99 : Int32), .int (108 : Int32), .int (117 : Int32), .int (100 : Int32), .int (101 : Int32), .int (100 : Int32)]) (z := (8 : Int32)) ⟨by decide, rfl⟩ (by decide) (by decide) (g := (mkF m 32 #[.val (.int p1), .val (.int p2), .val (.ref wE), .val (.int (0 : Int32)), .val (.int (0 : Int32)), .val (.ref wE_label), .unset] [(.ref wE_label)])) rfl (hb hby at_32) (n := 32) (by decide) (by decide) (by decide) (by decide)
        have O588 := O0.ext E587
        have Z589 : n0 ≤ h587.size := Nat.le_trans Z0 E587.1
        have pre590 : ∀ t, Steps p.tables e below (T587.setTop (mkF m 34 #[.val (.int p1), .val (.int p2), .val (.ref wE), .val (.int (0 : Int32)), .val (.int (0 : Int32)), .val (.ref wE_label), .unset] [(.ref l587), (.ref wE_label)])) t → Steps p.tables e below (s₁.setTop (entryFrame m #[(.int p1), (.int p2)] maxLocals)) t := by
          intro t k
          refine pre586 _ ?_
          show Steps p.tables e below (T584.setTop (mkF m 32 #[.val (.int p1), .val (.int p2), .val (.ref wE), .val (.int (0 : Int32)), .val (.int (0 : Int32)), .val (.ref wE_label), .unset] [(.ref wE_label)])) _
          refine st587 _ ?_
          exact k
        obtain ⟨cq591, kq591, q591a, q591b, q591c⟩ := isOf hZ587 e587 (E_wE_label.ext O588.2)
        obtain ⟨_, _, ⟨T591, L591, k591, n591⟩, -, X591, ⟨Lc591, hQ591, l591, y591, z591⟩, st591⟩ := X587.virtualBack hx (y := (⟨"java/lang/String", "equals", "(Ljava/lang/Object;)Z"⟩ : MethodName)) (z := (⟨"java/lang/String", "equals", "(Ljava/lang/Object;)Z"⟩ : MethodName)) hown587 (mvT hZ587 (hw _ (List.mem_of_getElem? (i := 37) rfl))) (mvT hZ587 (hw _ (List.mem_of_getElem? (i := 38) rfl))) (notFace_of_selects (args := #[]) (mvT hZ587 (hw _ (List.mem_of_getElem? (i := 40) rfl)))) (mvT hZ587 (hw _ (List.mem_of_getElem? (i := 40) rfl))) (mvT hZ587 (hw _ (List.mem_of_getElem? (i := 39) rfl))) (by decide) (backOf (W := 0) (rm5ei l Z a0 hw [] wE_label l587 wE_label_value vl587 k_wE_label_value k_vl587 pC h587 n0 Z589 Ex587 (F_wE_label_coder.ext O588.2) Co587 (F_wE_label_value.ext O588.2) Va587 (V_wE.ext O588.2) Av587 hpc (Fld.ne (F_wE_label_value.ext O588.2) Va587 (fun q => own_len_ne (V_wE.ext O588.2) Av587 (by decide) (Value.ref.inj q))) (S_pC.ext O588.2)) hZ587 (hw _ (List.mem_of_getElem? (i := 41) rfl)) (hw _ (List.mem_of_getElem? (i := 30) rfl)) (by decide) (by decide)) q591a q591c (g := (mkF m 34 #[.val (.int p1), .val (.int p2), .val (.ref wE), .val (.int (0 : Int32)), .val (.int (0 : Int32)), .val (.ref wE_label), .unset] [(.ref l587), (.ref wE_label)])) rfl (by rw [hml]; rfl) (Steps.refl _) (argsL := [(.ref l587)]) (rest := []) (lenOf pd__Ljava_lang_Object__Z rfl) rfl (by show 2 * 0 + _ ≤ _; exact Nat.le_of_eq rfl) (hb hby at_34) (fun _ _ => ⟨rfl, e587, (by decide : 2 + 0 ≤ _), (by decide : 36 + 0 ≤ _)⟩)
        dsimp only [Pt.U, Pt.locs, Pt.cells, Pt.slots] at X591 l591 y591 z591 st591 hQ591
        subst l591 y591 z591
        obtain ⟨rfl, N591q, e591⟩ := hQ591
        have N591 := Fr.app N584 N591q
        have pre592 : ∀ t, Steps p.tables e below (T591.setTop (mkF m 37 #[.val (.int p1), .val (.int p2), .val (.ref wE), .val (.int (0 : Int32)), .val (.int (0 : Int32)), .val (.ref wE_label), .unset] [(.int (0 : Int32))])) t → Steps p.tables e below (s₁.setTop (entryFrame m #[(.int p1), (.int p2)] maxLocals)) t := by
          intro t k
          refine pre590 _ ?_
          show Steps p.tables e below (T587.setTop (mkF m 34 #[.val (.int p1), .val (.int p2), .val (.ref wE), .val (.int (0 : Int32)), .val (.int (0 : Int32)), .val (.ref wE_label), .unset] [(.ref l587), (.ref wE_label)])) _
          refine st591.trans ?_
          exact k
        have pre594 : ∀ t, Steps p.tables e below (T591.setTop (mkF m 46 #[.val (.int p1), .val (.int p2), .val (.ref wE), .val (.int (0 : Int32)), .val (.int (0 : Int32)), .val (.ref wE_label), .unset] [])) t → Steps p.tables e below (s₁.setTop (entryFrame m #[(.int p1), (.int p2)] maxLocals)) t := by
          intro t k
          refine pre592 _ ?_
          show Steps p.tables e below (T591.setTop (mkF m 37 #[.val (.int p1), .val (.int p2), .val (.ref wE), .val (.int (0 : Int32)), .val (.int (0 : Int32)), .val (.ref wE_label), .unset] [(.int (0 : Int32))])) _
          refine XS.ifYes X591.here hx rfl (pc0 := 37) (pc' := 46) rfl (hb hby at_37) rfl ((if0 _ _).trans (teq (rfl : (0 : Int32) = (0 : Int32))).1) (by decide) (by decide) ?_
          exact k
        have pre595 : ∀ t, Steps p.tables e below (T591.setTop (mkF m 48 #[.val (.int p1), .val (.int p2), .val (.ref wE), .val (.int (0 : Int32)), .val (.int (0 : Int32)), .val (.ref wE_label), .unset] [(.ref wE_label)])) t → Steps p.tables e below (s₁.setTop (entryFrame m #[(.int p1), (.int p2)] maxLocals)) t := by
          intro t k
          refine pre594 _ ?_
          show Steps p.tables e below (T591.setTop (mkF m 46 #[.val (.int p1), .val (.int p2), .val (.ref wE), .val (.int (0 : Int32)), .val (.int (0 : Int32)), .val (.ref wE_label), .unset] [])) _
          refine XS.aload X591.here hx rfl (hb hby at_46) rfl rfl ?_
          exact k
        have NFs596 : Fr s.heap.size _ := hn0 ▸ N591
        obtain ⟨l596, T596, h596, kk596, vl596, k_vl596, X596, e596, E596, hS596, sk596, hZ596, hown596, Ex596, Co596, Va596, Av596, -, -, IB596, st596⟩ := ldcSV (s := s) (vm0 := T587.vm) X591 hx hZ587 hown587 (hw _ (List.mem_of_getElem? (i := 53) rfl)) (own_wS hw) e591 hS587 sk587 NFs596 hkeep IB587 (by decide) hc42 hcw (vs := [.int (101 : Int32), .int (120 : Int32), .int (99 : Int32), .int (108 : Int32), .int (117 : Int32), .int (100 : Int32), .int (101 : Int32), .int (100 : Int32)]) (z := (8 : Int32)) ⟨by decide, rfl⟩ (by decide) (by decide) (g := (mkF m 48 #[.val (.int p1), .val (.int p2), .val (.ref wE), .val (.int (0 : Int32)), .val (.int (0 : Int32)), .val (.ref wE_label), .unset] [(.ref wE_label)])) rfl (hb hby at_48) (n := 32) (by decide) (by decide) (by decide) (by decide)
        have O597 := O588.ext E596
        have Z598 : n0 ≤ h596.size := Nat.le_trans Z589 E596.1
        have pre599 : ∀ t, Steps p.tables e below (T596.setTop (mkF m 50 #[.val (.int p1), .val (.int p2), .val (.ref wE), .val (.int (0 : Int32)), .val (.int (0 : Int32)), .val (.ref wE_label), .unset] [(.ref l596), (.ref wE_label)])) t → Steps p.tables e below (s₁.setTop (entryFrame m #[(.int p1), (.int p2)] maxLocals)) t := by
          intro t k
          refine pre595 _ ?_
          show Steps p.tables e below (T591.setTop (mkF m 48 #[.val (.int p1), .val (.int p2), .val (.ref wE), .val (.int (0 : Int32)), .val (.int (0 : Int32)), .val (.ref wE_label), .unset] [(.ref wE_label)])) _
          refine st596 _ ?_
          exact k
        obtain ⟨cq600, kq600, q600a, q600b, q600c⟩ := isOf hZ596 e596 (E_wE_label.ext O597.2)
        obtain ⟨_, _, ⟨T600, L600, k600, n600⟩, -, X600, ⟨Lc600, hQ600, l600, y600, z600⟩, st600⟩ := X596.virtualBack hx (y := (⟨"java/lang/String", "equals", "(Ljava/lang/Object;)Z"⟩ : MethodName)) (z := (⟨"java/lang/String", "equals", "(Ljava/lang/Object;)Z"⟩ : MethodName)) hown596 (mvT hZ596 (hw _ (List.mem_of_getElem? (i := 37) rfl))) (mvT hZ596 (hw _ (List.mem_of_getElem? (i := 38) rfl))) (notFace_of_selects (args := #[]) (mvT hZ596 (hw _ (List.mem_of_getElem? (i := 40) rfl)))) (mvT hZ596 (hw _ (List.mem_of_getElem? (i := 40) rfl))) (mvT hZ596 (hw _ (List.mem_of_getElem? (i := 39) rfl))) (by decide) (backOf (W := 0) (rm5ex l Z a0 hw [] wE_label l596 wE_label_value vl596 k_wE_label_value k_vl596 pC h596 n0 Z598 Ex596 (F_wE_label_coder.ext O597.2) Co596 (F_wE_label_value.ext O597.2) Va596 (V_wE.ext O597.2) Av596 hpc (Fld.ne (F_wE_label_value.ext O597.2) Va596 (fun q => own_len_ne (V_wE.ext O597.2) Av596 (by decide) (Value.ref.inj q))) (S_pC.ext O597.2)) hZ596 (hw _ (List.mem_of_getElem? (i := 41) rfl)) (hw _ (List.mem_of_getElem? (i := 30) rfl)) (by decide) (by decide)) q600a q600c (g := (mkF m 50 #[.val (.int p1), .val (.int p2), .val (.ref wE), .val (.int (0 : Int32)), .val (.int (0 : Int32)), .val (.ref wE_label), .unset] [(.ref l596), (.ref wE_label)])) rfl (by rw [hml]; rfl) (Steps.refl _) (argsL := [(.ref l596)]) (rest := []) (lenOf pd__Ljava_lang_Object__Z rfl) rfl (by show 2 * 0 + _ ≤ _; exact Nat.le_of_eq rfl) (hb hby at_50) (fun _ _ => ⟨rfl, e596, (by decide : 4 + 0 ≤ _), (by decide : 72 + 0 ≤ _)⟩)
        dsimp only [Pt.U, Pt.locs, Pt.cells, Pt.slots] at X600 l600 y600 z600 st600 hQ600
        subst l600 y600 z600
        obtain ⟨rfl, N600q, e600⟩ := hQ600
        have N600 := Fr.app N591 N600q
        have pre601 : ∀ t, Steps p.tables e below (T600.setTop (mkF m 53 #[.val (.int p1), .val (.int p2), .val (.ref wE), .val (.int (0 : Int32)), .val (.int (0 : Int32)), .val (.ref wE_label), .unset] [(.int (0 : Int32))])) t → Steps p.tables e below (s₁.setTop (entryFrame m #[(.int p1), (.int p2)] maxLocals)) t := by
          intro t k
          refine pre599 _ ?_
          show Steps p.tables e below (T596.setTop (mkF m 50 #[.val (.int p1), .val (.int p2), .val (.ref wE), .val (.int (0 : Int32)), .val (.int (0 : Int32)), .val (.ref wE_label), .unset] [(.ref l596), (.ref wE_label)])) _
          refine st600.trans ?_
          exact k
        have pre603 : ∀ t, Steps p.tables e below (T600.setTop (mkF m 62 #[.val (.int p1), .val (.int p2), .val (.ref wE), .val (.int (0 : Int32)), .val (.int (0 : Int32)), .val (.ref wE_label), .unset] [])) t → Steps p.tables e below (s₁.setTop (entryFrame m #[(.int p1), (.int p2)] maxLocals)) t := by
          intro t k
          refine pre601 _ ?_
          show Steps p.tables e below (T600.setTop (mkF m 53 #[.val (.int p1), .val (.int p2), .val (.ref wE), .val (.int (0 : Int32)), .val (.int (0 : Int32)), .val (.ref wE_label), .unset] [(.int (0 : Int32))])) _
          refine XS.ifYes X600.here hx rfl (pc0 := 53) (pc' := 62) rfl (hb hby at_53) rfl ((if0 _ _).trans (teq (rfl : (0 : Int32) = (0 : Int32))).1) (by decide) (by decide) ?_
          exact k
        have pre604 : ∀ t, Steps p.tables e below (T600.setTop (mkF m 64 #[.val (.int p1), .val (.int p2), .val (.ref wE), .val (.int (0 : Int32)), .val (.int (0 : Int32)), .val (.ref wE_label), .unset] [(.ref wE_label)])) t → Steps p.tables e below (s₁.setTop (entryFrame m #[(.int p1), (.int p2)] maxLocals)) t := by
          intro t k
          refine pre603 _ ?_
          show Steps p.tables e below (T600.setTop (mkF m 62 #[.val (.int p1), .val (.int p2), .val (.ref wE), .val (.int (0 : Int32)), .val (.int (0 : Int32)), .val (.ref wE_label), .unset] [])) _
          refine XS.aload X600.here hx rfl (hb hby at_62) rfl rfl ?_
          exact k
        have NFs605 : Fr s.heap.size _ := hn0 ▸ N600
        obtain ⟨l605, T605, h605, kk605, vl605, k_vl605, X605, e605, E605, hS605, sk605, hZ605, hown605, Ex605, Co605, Va605, Av605, -, -, IB605, st605⟩ := ldcSV (s := s) (vm0 := T596.vm) X600 hx hZ596 hown596 (hw _ (List.mem_of_getElem? (i := 54) rfl)) (own_wS hw) e600 hS596 sk596 NFs605 hkeep IB596 (by decide) hc44 hcw (vs := [.int (105 : Int32), .int (115 : Int32), .int (115 : Int32), .int (117 : Int32), .int (101 : Int32), .int (114 : Int32), .int (45 : Int32), .int (101 : Int32), .int (108 : Int32), .int (101 : Int32), .int (99 : Int32), .int (116 : Int32), .int (115 : Int32)]) (z := (13 : Int32)) ⟨by decide, rfl⟩ (by decide) (by decide) (g := (mkF m 64 #[.val (.int p1), .val (.int p2), .val (.ref wE), .val (.int (0 : Int32)), .val (.int (0 : Int32)), .val (.ref wE_label), .unset] [(.ref wE_label)])) rfl (hb hby at_64) (n := 52) (by decide) (by decide) (by decide) (by decide)
        have O606 := O597.ext E605
        have Z607 : n0 ≤ h605.size := Nat.le_trans Z598 E605.1
        have pre608 : ∀ t, Steps p.tables e below (T605.setTop (mkF m 66 #[.val (.int p1), .val (.int p2), .val (.ref wE), .val (.int (0 : Int32)), .val (.int (0 : Int32)), .val (.ref wE_label), .unset] [(.ref l605), (.ref wE_label)])) t → Steps p.tables e below (s₁.setTop (entryFrame m #[(.int p1), (.int p2)] maxLocals)) t := by
          intro t k
          refine pre604 _ ?_
          show Steps p.tables e below (T600.setTop (mkF m 64 #[.val (.int p1), .val (.int p2), .val (.ref wE), .val (.int (0 : Int32)), .val (.int (0 : Int32)), .val (.ref wE_label), .unset] [(.ref wE_label)])) _
          refine st605 _ ?_
          exact k
        obtain ⟨cq609, kq609, q609a, q609b, q609c⟩ := isOf hZ605 e605 (E_wE_label.ext O606.2)
        obtain ⟨_, _, ⟨T609, L609, k609, n609⟩, -, X609, ⟨Lc609, hQ609, l609, y609, z609⟩, st609⟩ := X605.virtualBack hx (y := (⟨"java/lang/String", "equals", "(Ljava/lang/Object;)Z"⟩ : MethodName)) (z := (⟨"java/lang/String", "equals", "(Ljava/lang/Object;)Z"⟩ : MethodName)) hown605 (mvT hZ605 (hw _ (List.mem_of_getElem? (i := 37) rfl))) (mvT hZ605 (hw _ (List.mem_of_getElem? (i := 38) rfl))) (notFace_of_selects (args := #[]) (mvT hZ605 (hw _ (List.mem_of_getElem? (i := 40) rfl)))) (mvT hZ605 (hw _ (List.mem_of_getElem? (i := 40) rfl))) (mvT hZ605 (hw _ (List.mem_of_getElem? (i := 39) rfl))) (by decide) (backOf (W := 0) (rm5ee l Z a0 hw [] wE_label l605 wE_label_value vl605 k_wE_label_value k_vl605 pC h605 n0 Z607 Ex605 (F_wE_label_coder.ext O606.2) Co605 (F_wE_label_value.ext O606.2) Va605 (V_wE.ext O606.2) Av605 hpc (S_pC.ext O606.2)) hZ605 (hw _ (List.mem_of_getElem? (i := 41) rfl)) (hw _ (List.mem_of_getElem? (i := 30) rfl)) (by decide) (by decide)) q609a q609c (g := (mkF m 66 #[.val (.int p1), .val (.int p2), .val (.ref wE), .val (.int (0 : Int32)), .val (.int (0 : Int32)), .val (.ref wE_label), .unset] [(.ref l605), (.ref wE_label)])) rfl (by rw [hml]; rfl) (Steps.refl _) (argsL := [(.ref l605)]) (rest := []) (lenOf pd__Ljava_lang_Object__Z rfl) rfl (by show 2 * 0 + _ ≤ _; exact Nat.le_of_eq rfl) (hb hby at_66) (fun _ _ => ⟨rfl, e605, (by decide : 6 + 0 ≤ _), (by decide : 128 + 0 ≤ _)⟩)
        dsimp only [Pt.U, Pt.locs, Pt.cells, Pt.slots] at X609 l609 y609 z609 st609 hQ609
        subst l609 y609 z609
        obtain ⟨rfl, N609q, e609⟩ := hQ609
        have N609 := Fr.app N600 N609q
        have pre610 : ∀ t, Steps p.tables e below (T609.setTop (mkF m 69 #[.val (.int p1), .val (.int p2), .val (.ref wE), .val (.int (0 : Int32)), .val (.int (0 : Int32)), .val (.ref wE_label), .unset] [(.int (1 : Int32))])) t → Steps p.tables e below (s₁.setTop (entryFrame m #[(.int p1), (.int p2)] maxLocals)) t := by
          intro t k
          refine pre608 _ ?_
          show Steps p.tables e below (T605.setTop (mkF m 66 #[.val (.int p1), .val (.int p2), .val (.ref wE), .val (.int (0 : Int32)), .val (.int (0 : Int32)), .val (.ref wE_label), .unset] [(.ref l605), (.ref wE_label)])) _
          refine st609.trans ?_
          exact k
        have pre612 : ∀ t, Steps p.tables e below (T609.setTop (mkF m 72 #[.val (.int p1), .val (.int p2), .val (.ref wE), .val (.int (0 : Int32)), .val (.int (0 : Int32)), .val (.ref wE_label), .unset] [])) t → Steps p.tables e below (s₁.setTop (entryFrame m #[(.int p1), (.int p2)] maxLocals)) t := by
          intro t k
          refine pre610 _ ?_
          show Steps p.tables e below (T609.setTop (mkF m 69 #[.val (.int p1), .val (.int p2), .val (.ref wE), .val (.int (0 : Int32)), .val (.int (0 : Int32)), .val (.ref wE_label), .unset] [(.int (1 : Int32))])) _
          refine XS.ifNo X609.here hx rfl (hb hby at_69) rfl ((if0 _ _).trans (feq (by decide : ¬ ((1 : Int32) = (0 : Int32)))).1) ?_
          exact k
        have pre613 : ∀ t, Steps p.tables e below (T609.setTop (mkF m 84 #[.val (.int p1), .val (.int p2), .val (.ref wE), .val (.int (0 : Int32)), .val (.int (0 : Int32)), .val (.ref wE_label), .val (.int (0 : Int32))] [(.int (0 : Int32)), (.int (0 : Int32))])) t → Steps p.tables e below (s₁.setTop (entryFrame m #[(.int p1), (.int p2)] maxLocals)) t := by
          intro t k
          refine pre612 _ ?_
          show Steps p.tables e below (T609.setTop (mkF m 72 #[.val (.int p1), .val (.int p2), .val (.ref wE), .val (.int (0 : Int32)), .val (.int (0 : Int32)), .val (.ref wE_label), .unset] [])) _
          refine XS.iloadN X609.here hx rfl (hb hby at_72) rfl ?_
          show Steps p.tables e below (T609.setTop (mkF m 73 #[.val (.int p1), .val (.int p2), .val (.ref wE), .val (.int (0 : Int32)), .val (.int (0 : Int32)), .val (.ref wE_label), .unset] [(.int (0 : Int32))])) _
          refine XS.istore X609.here hx rfl (hb hby at_73) rfl (l' := #[.val (.int p1), .val (.int p2), .val (.ref wE), .val (.int (0 : Int32)), .val (.int (0 : Int32)), .val (.ref wE_label), .val (.int (0 : Int32))]) rfl ?_
          show Steps p.tables e below (T609.setTop (mkF m 75 #[.val (.int p1), .val (.int p2), .val (.ref wE), .val (.int (0 : Int32)), .val (.int (0 : Int32)), .val (.ref wE_label), .val (.int (0 : Int32))] [])) _
          refine XS.goto X609.here hx rfl (pc0 := 75) (pc' := 80) rfl (hb hby at_75) (by decide) (by decide) ?_
          show Steps p.tables e below (T609.setTop (mkF m 80 #[.val (.int p1), .val (.int p2), .val (.ref wE), .val (.int (0 : Int32)), .val (.int (0 : Int32)), .val (.ref wE_label), .val (.int (0 : Int32))] [])) _
          refine XS.iload X609.here hx rfl (hb hby at_80) rfl ?_
          show Steps p.tables e below (T609.setTop (mkF m 82 #[.val (.int p1), .val (.int p2), .val (.ref wE), .val (.int (0 : Int32)), .val (.int (0 : Int32)), .val (.ref wE_label), .val (.int (0 : Int32))] [(.int (0 : Int32))])) _
          refine XS.iload X609.here hx rfl (hb hby at_82) rfl ?_
          exact k
        have pre615 : ∀ t, Steps p.tables e below (T609.setTop (mkF m 87 #[.val (.int p1), .val (.int p2), .val (.ref wE), .val (.int (0 : Int32)), .val (.int (0 : Int32)), .val (.ref wE_label), .val (.int (0 : Int32))] [])) t → Steps p.tables e below (s₁.setTop (entryFrame m #[(.int p1), (.int p2)] maxLocals)) t := by
          intro t k
          refine pre613 _ ?_
          show Steps p.tables e below (T609.setTop (mkF m 84 #[.val (.int p1), .val (.int p2), .val (.ref wE), .val (.int (0 : Int32)), .val (.int (0 : Int32)), .val (.ref wE_label), .val (.int (0 : Int32))] [(.int (0 : Int32)), (.int (0 : Int32))])) _
          refine XS.icmpNo X609.here hx rfl (hb hby at_84) rfl (teq (rfl : (0 : Int32) = (0 : Int32))).2 ?_
          exact k
        have pre616 : ∀ t, Steps p.tables e below (T609.setTop (mkF m 92 #[.val (.int p1), .val (.int p2), .val (.ref wE), .val (.int (0 : Int32)), .val (.int (0 : Int32)), .val (.ref wE_label), .val (.int (0 : Int32))] [(.int (1 : Int32))])) t → Steps p.tables e below (s₁.setTop (entryFrame m #[(.int p1), (.int p2)] maxLocals)) t := by
          intro t k
          refine pre615 _ ?_
          show Steps p.tables e below (T609.setTop (mkF m 87 #[.val (.int p1), .val (.int p2), .val (.ref wE), .val (.int (0 : Int32)), .val (.int (0 : Int32)), .val (.ref wE_label), .val (.int (0 : Int32))] [])) _
          refine XS.iconst X609.here hx rfl (hb hby at_87) ?_
          show Steps p.tables e below (T609.setTop (mkF m 88 #[.val (.int p1), .val (.int p2), .val (.ref wE), .val (.int (0 : Int32)), .val (.int (0 : Int32)), .val (.ref wE_label), .val (.int (0 : Int32))] [(.int (1 : Int32))])) _
          refine XS.goto X609.here hx rfl (pc0 := 88) (pc' := 92) rfl (hb hby at_88) (by decide) (by decide) ?_
          exact k
        obtain ⟨fs, hr, hrun, hended, hsame⟩ := Stand.leaveW (s := s) (vm₁ := T605.vm) X609 hS605 (by rw [e609]; exact sk605) (v := some (.int (1 : Int32))) (fun h => by rw [hret] at h; cases h)
        refine ⟨_, _, pre616 _ ?_, hrun, hended, _, _, rfl, ?_, ⟨hsame.1, hsame.2.1, hsame.2.2.1, hsame.2.2.2.mono (by decide) (by decide)⟩⟩
        · show Steps p.tables e below (T609.setTop (mkF m 92 #[.val (.int p1), .val (.int p2), .val (.ref wE), .val (.int (0 : Int32)), .val (.int (0 : Int32)), .val (.ref wE_label), .val (.int (0 : Int32))] [(.int (1 : Int32))])) _
          exact retN X609 hx (t := .boolean) hret (by simp) (hb hby at_92) hr
        · show Q0 Z p1 p2 wI_label wI_label_value k_wI_label_value wX_label wX_label_value k_wX_label_value wE_label wE_label_value k_wE_label_value wI wX wE pC h0 n0 _ T609.heap _
          exact ⟨(by rw [F0, if_neg hk467, if_neg hk512, if_pos hc578]), N609⟩
      · have pre617 : ∀ t, Steps p.tables e below (T575.setTop (mkF m 11 #[.val (.int p1), .val (.int p2), .val (.ref wE), .unset, .unset, .unset, .unset] [])) t → Steps p.tables e below (s₁.setTop (entryFrame m #[(.int p1), (.int p2)] maxLocals)) t := by
          intro t k
          refine pre577 _ ?_
          show Steps p.tables e below (T575.setTop (mkF m 8 #[.val (.int p1), .val (.int p2), .val (.ref wE), .unset, .unset, .unset, .unset] [(.int (p2 &&& (1 : Int32)))])) _
          refine XS.ifNo X575.here hx rfl (hb hby at_8) rfl ((if0 _ _).trans (feq hc578).1) ?_
          exact k
        have pre618 : ∀ t, Steps p.tables e below (T575.setTop (mkF m 19 #[.val (.int p1), .val (.int p2), .val (.ref wE), .val (.int (1 : Int32)), .unset, .unset, .unset] [(.int (1 : Int32)), (.ref wE)])) t → Steps p.tables e below (s₁.setTop (entryFrame m #[(.int p1), (.int p2)] maxLocals)) t := by
          intro t k
          refine pre617 _ ?_
          show Steps p.tables e below (T575.setTop (mkF m 11 #[.val (.int p1), .val (.int p2), .val (.ref wE), .unset, .unset, .unset, .unset] [])) _
          refine XS.iconst X575.here hx rfl (hb hby at_11) ?_
          show Steps p.tables e below (T575.setTop (mkF m 12 #[.val (.int p1), .val (.int p2), .val (.ref wE), .unset, .unset, .unset, .unset] [(.int (1 : Int32))])) _
          refine XS.goto X575.here hx rfl (pc0 := 12) (pc' := 16) rfl (hb hby at_12) (by decide) (by decide) ?_
          show Steps p.tables e below (T575.setTop (mkF m 16 #[.val (.int p1), .val (.int p2), .val (.ref wE), .unset, .unset, .unset, .unset] [(.int (1 : Int32))])) _
          refine XS.istoreN X575.here hx rfl (hb hby at_16) rfl (l' := #[.val (.int p1), .val (.int p2), .val (.ref wE), .val (.int (1 : Int32)), .unset, .unset, .unset]) rfl ?_
          show Steps p.tables e below (T575.setTop (mkF m 17 #[.val (.int p1), .val (.int p2), .val (.ref wE), .val (.int (1 : Int32)), .unset, .unset, .unset] [])) _
          refine XS.aloadN X575.here hx rfl (hb hby at_17) rfl rfl ?_
          show Steps p.tables e below (T575.setTop (mkF m 18 #[.val (.int p1), .val (.int p2), .val (.ref wE), .val (.int (1 : Int32)), .unset, .unset, .unset] [(.ref wE)])) _
          refine XS.iloadN X575.here hx rfl (hb hby at_18) rfl ?_
          exact k
        obtain ⟨cq619, kq619, q619a, q619b, q619c⟩ := isOf hZ e575 (E_wE.ext O0.2)
        obtain ⟨_, _, ⟨T619, L619, k619, n619⟩, -, X619, ⟨Lc619, hQ619, l619, y619, z619⟩, st619⟩ := X575.virtualBack hx (y := (⟨"com/example/notesmith/notesmith/note/ConvertedInterest", "converts", "(Z)Z"⟩ : MethodName)) (z := (⟨"com/example/notesmith/notesmith/note/ConvertedInterest", "converts", "(Z)Z"⟩ : MethodName)) hown (mvT hZ (hw _ (List.mem_of_getElem? (i := 8) rfl))) (mvT hZ (hw _ (List.mem_of_getElem? (i := 9) rfl))) (notFace_of_selects (args := #[]) (mvT hZ (hw _ (List.mem_of_getElem? (i := 11) rfl)))) (mvT hZ (hw _ (List.mem_of_getElem? (i := 11) rfl))) (mvT hZ (hw _ (List.mem_of_getElem? (i := 10) rfl))) (by decide) (backOf (W := 0) (rm2e l Z a0 hw [] wE (1 : Int32) h0 n0 Z0 (E_wE.ext O0.2) (F_wE_ordinal.ext O0.2)) hZ (hw _ (List.mem_of_getElem? (i := 12) rfl)) (hw _ (List.mem_of_getElem? (i := 6) rfl)) (by decide) (by decide)) q619a q619c (g := (mkF m 19 #[.val (.int p1), .val (.int p2), .val (.ref wE), .val (.int (1 : Int32)), .unset, .unset, .unset] [(.int (1 : Int32)), (.ref wE)])) rfl (by rw [hml]; rfl) (Steps.refl _) (argsL := [(.int (1 : Int32))]) (rest := []) (lenOf pd__Z_Z rfl) rfl (by show 2 * 0 + _ ≤ _; exact Nat.le_of_eq rfl) (hb hby at_19) (fun _ _ => ⟨rfl, e575, (by decide : 0 + 0 ≤ _), (by decide : 0 + 0 ≤ _)⟩)
        dsimp only [Pt.U, Pt.locs, Pt.cells, Pt.slots] at X619 l619 y619 z619 st619 hQ619
        subst l619 y619 z619
        obtain ⟨rfl, N619q, e619⟩ := hQ619
        have N619 := Fr.app N575 N619q
        have pre620 : ∀ t, Steps p.tables e below (T619.setTop (mkF m 22 #[.val (.int p1), .val (.int p2), .val (.ref wE), .val (.int (1 : Int32)), .unset, .unset, .unset] [(.int (1 : Int32))])) t → Steps p.tables e below (s₁.setTop (entryFrame m #[(.int p1), (.int p2)] maxLocals)) t := by
          intro t k
          refine pre618 _ ?_
          show Steps p.tables e below (T575.setTop (mkF m 19 #[.val (.int p1), .val (.int p2), .val (.ref wE), .val (.int (1 : Int32)), .unset, .unset, .unset] [(.int (1 : Int32)), (.ref wE)])) _
          refine st619.trans ?_
          exact k
        have pre621 : ∀ t, Steps p.tables e below (T619.setTop (mkF m 25 #[.val (.int p1), .val (.int p2), .val (.ref wE), .val (.int (1 : Int32)), .val (.int (1 : Int32)), .unset, .unset] [(.ref wE)])) t → Steps p.tables e below (s₁.setTop (entryFrame m #[(.int p1), (.int p2)] maxLocals)) t := by
          intro t k
          refine pre620 _ ?_
          show Steps p.tables e below (T619.setTop (mkF m 22 #[.val (.int p1), .val (.int p2), .val (.ref wE), .val (.int (1 : Int32)), .unset, .unset, .unset] [(.int (1 : Int32))])) _
          refine XS.istore X619.here hx rfl (hb hby at_22) rfl (l' := #[.val (.int p1), .val (.int p2), .val (.ref wE), .val (.int (1 : Int32)), .val (.int (1 : Int32)), .unset, .unset]) rfl ?_
          show Steps p.tables e below (T619.setTop (mkF m 24 #[.val (.int p1), .val (.int p2), .val (.ref wE), .val (.int (1 : Int32)), .val (.int (1 : Int32)), .unset, .unset] [])) _
          refine XS.aloadN X619.here hx rfl (hb hby at_24) rfl rfl ?_
          exact k
        obtain ⟨cq622, kq622, q622a, q622b, q622c⟩ := isOf hZ e619 (E_wE.ext O0.2)
        obtain ⟨_, _, ⟨T622, L622, k622, n622⟩, -, X622, ⟨Lc622, hQ622, l622, y622, z622⟩, st622⟩ := X619.virtualBack hx (y := (⟨"com/example/notesmith/notesmith/note/ConvertedInterest", "label", "()Ljava/lang/String;"⟩ : MethodName)) (z := (⟨"com/example/notesmith/notesmith/note/ConvertedInterest", "label", "()Ljava/lang/String;"⟩ : MethodName)) hown (mvT hZ (hw _ (List.mem_of_getElem? (i := 22) rfl))) (mvT hZ (hw _ (List.mem_of_getElem? (i := 23) rfl))) (notFace_of_selects (args := #[]) (mvT hZ (hw _ (List.mem_of_getElem? (i := 25) rfl)))) (mvT hZ (hw _ (List.mem_of_getElem? (i := 25) rfl))) (mvT hZ (hw _ (List.mem_of_getElem? (i := 24) rfl))) (by decide) (backOf (W := 0) (rm4 l Z a0 hw [] wE wE_label h0 n0 Z0 (F_wE_label.ext O0.2)) hZ (hw _ (List.mem_of_getElem? (i := 26) rfl)) (hw _ (List.mem_of_getElem? (i := 6) rfl)) (by decide) (by decide)) q622a q622c (g := (mkF m 25 #[.val (.int p1), .val (.int p2), .val (.ref wE), .val (.int (1 : Int32)), .val (.int (1 : Int32)), .unset, .unset] [(.ref wE)])) rfl (by rw [hml]; rfl) (Steps.refl _) (argsL := []) (rest := []) (lenOf pd___Ljava_lang_String_ rfl) rfl (by show 2 * 0 + _ ≤ _; exact Nat.le_of_eq rfl) (hb hby at_25) (fun _ _ => ⟨rfl, e619, (by decide : 0 + 0 ≤ _), (by decide : 0 + 0 ≤ _)⟩)
        dsimp only [Pt.U, Pt.locs, Pt.cells, Pt.slots] at X622 l622 y622 z622 st622 hQ622
        subst l622 y622 z622
        obtain ⟨rfl, N622q, e622⟩ := hQ622
        have N622 := Fr.app N619 N622q
        have pre623 : ∀ t, Steps p.tables e below (T622.setTop (mkF m 28 #[.val (.int p1), .val (.int p2), .val (.ref wE), .val (.int (1 : Int32)), .val (.int (1 : Int32)), .unset, .unset] [(.ref wE_label)])) t → Steps p.tables e below (s₁.setTop (entryFrame m #[(.int p1), (.int p2)] maxLocals)) t := by
          intro t k
          refine pre621 _ ?_
          show Steps p.tables e below (T619.setTop (mkF m 25 #[.val (.int p1), .val (.int p2), .val (.ref wE), .val (.int (1 : Int32)), .val (.int (1 : Int32)), .unset, .unset] [(.ref wE)])) _
          refine st622.trans ?_
          exact k
        have pre624 : ∀ t, Steps p.tables e below (T622.setTop (mkF m 32 #[.val (.int p1), .val (.int p2), .val (.ref wE), .val (.int (1 : Int32)), .val (.int (1 : Int32)), .val (.ref wE_label), .unset] [(.ref wE_label)])) t → Steps p.tables e below (s₁.setTop (entryFrame m #[(.int p1), (.int p2)] maxLocals)) t := by
          intro t k
          refine pre623 _ ?_
          show Steps p.tables e below (T622.setTop (mkF m 28 #[.val (.int p1), .val (.int p2), .val (.ref wE), .val (.int (1 : Int32)), .val (.int (1 : Int32)), .unset, .unset] [(.ref wE_label)])) _
          refine XS.astore X622.here hx rfl (hb hby at_28) rfl rfl (l' := #[.val (.int p1), .val (.int p2), .val (.ref wE), .val (.int (1 : Int32)), .val (.int (1 : Int32)), .val (.ref wE_label), .unset]) rfl ?_
          show Steps p.tables e below (T622.setTop (mkF m 30 #[.val (.int p1), .val (.int p2), .val (.ref wE), .val (.int (1 : Int32)), .val (.int (1 : Int32)), .val (.ref wE_label), .unset] [])) _
          refine XS.aload X622.here hx rfl (hb hby at_30) rfl rfl ?_
          exact k
        have NFs625 : Fr s.heap.size _ := hn0 ▸ N622
        obtain ⟨l625, T625, h625, kk625, vl625, k_vl625, X625, e625, E625, hS625, sk625, hZ625, hown625, Ex625, Co625, Va625, Av625, -, -, IB625, st625⟩ := ldcSV (s := s) (vm0 := s.vm) X622 hx hZ hown (hw _ (List.mem_of_getElem? (i := 29) rfl)) (own_wS hw) e622 hS0 SK0 NFs625 hkeep hIB (by decide) hc34 hcw (vs := [.int (105 : Int32), .int (110 : Int32), .int (99 : Int32), .int (108 : Int32), .int (117 : Int32), .int (100 : Int32), .int (101 : Int32), .int (100 : Int32)]) (z := (8 : Int32)) ⟨by decide, rfl⟩ (by decide) (by decide) (g := (mkF m 32 #[.val (.int p1), .val (.int p2), .val (.ref wE), .val (.int (1 : Int32)), .val (.int (1 : Int32)), .val (.ref wE_label), .unset] [(.ref wE_label)])) rfl (hb hby at_32) (n := 32) (by decide) (by decide) (by decide) (by decide)
        have O626 := O0.ext E625
        have Z627 : n0 ≤ h625.size := Nat.le_trans Z0 E625.1
        have pre628 : ∀ t, Steps p.tables e below (T625.setTop (mkF m 34 #[.val (.int p1), .val (.int p2), .val (.ref wE), .val (.int (1 : Int32)), .val (.int (1 : Int32)), .val (.ref wE_label), .unset] [(.ref l625), (.ref wE_label)])) t → Steps p.tables e below (s₁.setTop (entryFrame m #[(.int p1), (.int p2)] maxLocals)) t := by
          intro t k
          refine pre624 _ ?_
          show Steps p.tables e below (T622.setTop (mkF m 32 #[.val (.int p1), .val (.int p2), .val (.ref wE), .val (.int (1 : Int32)), .val (.int (1 : Int32)), .val (.ref wE_label), .unset] [(.ref wE_label)])) _
          refine st625 _ ?_
          exact k
        obtain ⟨cq629, kq629, q629a, q629b, q629c⟩ := isOf hZ625 e625 (E_wE_label.ext O626.2)
        obtain ⟨_, _, ⟨T629, L629, k629, n629⟩, -, X629, ⟨Lc629, hQ629, l629, y629, z629⟩, st629⟩ := X625.virtualBack hx (y := (⟨"java/lang/String", "equals", "(Ljava/lang/Object;)Z"⟩ : MethodName)) (z := (⟨"java/lang/String", "equals", "(Ljava/lang/Object;)Z"⟩ : MethodName)) hown625 (mvT hZ625 (hw _ (List.mem_of_getElem? (i := 37) rfl))) (mvT hZ625 (hw _ (List.mem_of_getElem? (i := 38) rfl))) (notFace_of_selects (args := #[]) (mvT hZ625 (hw _ (List.mem_of_getElem? (i := 40) rfl)))) (mvT hZ625 (hw _ (List.mem_of_getElem? (i := 40) rfl))) (mvT hZ625 (hw _ (List.mem_of_getElem? (i := 39) rfl))) (by decide) (backOf (W := 0) (rm5ei l Z a0 hw [] wE_label l625 wE_label_value vl625 k_wE_label_value k_vl625 pC h625 n0 Z627 Ex625 (F_wE_label_coder.ext O626.2) Co625 (F_wE_label_value.ext O626.2) Va625 (V_wE.ext O626.2) Av625 hpc (Fld.ne (F_wE_label_value.ext O626.2) Va625 (fun q => own_len_ne (V_wE.ext O626.2) Av625 (by decide) (Value.ref.inj q))) (S_pC.ext O626.2)) hZ625 (hw _ (List.mem_of_getElem? (i := 41) rfl)) (hw _ (List.mem_of_getElem? (i := 30) rfl)) (by decide) (by decide)) q629a q629c (g := (mkF m 34 #[.val (.int p1), .val (.int p2), .val (.ref wE), .val (.int (1 : Int32)), .val (.int (1 : Int32)), .val (.ref wE_label), .unset] [(.ref l625), (.ref wE_label)])) rfl (by rw [hml]; rfl) (Steps.refl _) (argsL := [(.ref l625)]) (rest := []) (lenOf pd__Ljava_lang_Object__Z rfl) rfl (by show 2 * 0 + _ ≤ _; exact Nat.le_of_eq rfl) (hb hby at_34) (fun _ _ => ⟨rfl, e625, (by decide : 2 + 0 ≤ _), (by decide : 36 + 0 ≤ _)⟩)
        dsimp only [Pt.U, Pt.locs, Pt.cells, Pt.slots] at X629 l629 y629 z629 st629 hQ629
        subst l629 y629 z629
        obtain ⟨rfl, N629q, e629⟩ := hQ629
        have N629 := Fr.app N622 N629q
        have pre630 : ∀ t, Steps p.tables e below (T629.setTop (mkF m 37 #[.val (.int p1), .val (.int p2), .val (.ref wE), .val (.int (1 : Int32)), .val (.int (1 : Int32)), .val (.ref wE_label), .unset] [(.int (0 : Int32))])) t → Steps p.tables e below (s₁.setTop (entryFrame m #[(.int p1), (.int p2)] maxLocals)) t := by
          intro t k
          refine pre628 _ ?_
          show Steps p.tables e below (T625.setTop (mkF m 34 #[.val (.int p1), .val (.int p2), .val (.ref wE), .val (.int (1 : Int32)), .val (.int (1 : Int32)), .val (.ref wE_label), .unset] [(.ref l625), (.ref wE_label)])) _
          refine st629.trans ?_
          exact k
        have pre632 : ∀ t, Steps p.tables e below (T629.setTop (mkF m 46 #[.val (.int p1), .val (.int p2), .val (.ref wE), .val (.int (1 : Int32)), .val (.int (1 : Int32)), .val (.ref wE_label), .unset] [])) t → Steps p.tables e below (s₁.setTop (entryFrame m #[(.int p1), (.int p2)] maxLocals)) t := by
          intro t k
          refine pre630 _ ?_
          show Steps p.tables e below (T629.setTop (mkF m 37 #[.val (.int p1), .val (.int p2), .val (.ref wE), .val (.int (1 : Int32)), .val (.int (1 : Int32)), .val (.ref wE_label), .unset] [(.int (0 : Int32))])) _
          refine XS.ifYes X629.here hx rfl (pc0 := 37) (pc' := 46) rfl (hb hby at_37) rfl ((if0 _ _).trans (teq (rfl : (0 : Int32) = (0 : Int32))).1) (by decide) (by decide) ?_
          exact k
        have pre633 : ∀ t, Steps p.tables e below (T629.setTop (mkF m 48 #[.val (.int p1), .val (.int p2), .val (.ref wE), .val (.int (1 : Int32)), .val (.int (1 : Int32)), .val (.ref wE_label), .unset] [(.ref wE_label)])) t → Steps p.tables e below (s₁.setTop (entryFrame m #[(.int p1), (.int p2)] maxLocals)) t := by
          intro t k
          refine pre632 _ ?_
          show Steps p.tables e below (T629.setTop (mkF m 46 #[.val (.int p1), .val (.int p2), .val (.ref wE), .val (.int (1 : Int32)), .val (.int (1 : Int32)), .val (.ref wE_label), .unset] [])) _
          refine XS.aload X629.here hx rfl (hb hby at_46) rfl rfl ?_
          exact k
        have NFs634 : Fr s.heap.size _ := hn0 ▸ N629
        obtain ⟨l634, T634, h634, kk634, vl634, k_vl634, X634, e634, E634, hS634, sk634, hZ634, hown634, Ex634, Co634, Va634, Av634, -, -, IB634, st634⟩ := ldcSV (s := s) (vm0 := T625.vm) X629 hx hZ625 hown625 (hw _ (List.mem_of_getElem? (i := 53) rfl)) (own_wS hw) e629 hS625 sk625 NFs634 hkeep IB625 (by decide) hc42 hcw (vs := [.int (101 : Int32), .int (120 : Int32), .int (99 : Int32), .int (108 : Int32), .int (117 : Int32), .int (100 : Int32), .int (101 : Int32), .int (100 : Int32)]) (z := (8 : Int32)) ⟨by decide, rfl⟩ (by decide) (by decide) (g := (mkF m 48 #[.val (.int p1), .val (.int p2), .val (.ref wE), .val (.int (1 : Int32)), .val (.int (1 : Int32)), .val (.ref wE_label), .unset] [(.ref wE_label)])) rfl (hb hby at_48) (n := 32) (by decide) (by decide) (by decide) (by decide)
        have O635 := O626.ext E634
        have Z636 : n0 ≤ h634.size := Nat.le_trans Z627 E634.1
        have pre637 : ∀ t, Steps p.tables e below (T634.setTop (mkF m 50 #[.val (.int p1), .val (.int p2), .val (.ref wE), .val (.int (1 : Int32)), .val (.int (1 : Int32)), .val (.ref wE_label), .unset] [(.ref l634), (.ref wE_label)])) t → Steps p.tables e below (s₁.setTop (entryFrame m #[(.int p1), (.int p2)] maxLocals)) t := by
          intro t k
          refine pre633 _ ?_
          show Steps p.tables e below (T629.setTop (mkF m 48 #[.val (.int p1), .val (.int p2), .val (.ref wE), .val (.int (1 : Int32)), .val (.int (1 : Int32)), .val (.ref wE_label), .unset] [(.ref wE_label)])) _
          refine st634 _ ?_
          exact k
        obtain ⟨cq638, kq638, q638a, q638b, q638c⟩ := isOf hZ634 e634 (E_wE_label.ext O635.2)
        obtain ⟨_, _, ⟨T638, L638, k638, n638⟩, -, X638, ⟨Lc638, hQ638, l638, y638, z638⟩, st638⟩ := X634.virtualBack hx (y := (⟨"java/lang/String", "equals", "(Ljava/lang/Object;)Z"⟩ : MethodName)) (z := (⟨"java/lang/String", "equals", "(Ljava/lang/Object;)Z"⟩ : MethodName)) hown634 (mvT hZ634 (hw _ (List.mem_of_getElem? (i := 37) rfl))) (mvT hZ634 (hw _ (List.mem_of_getElem? (i := 38) rfl))) (notFace_of_selects (args := #[]) (mvT hZ634 (hw _ (List.mem_of_getElem? (i := 40) rfl)))) (mvT hZ634 (hw _ (List.mem_of_getElem? (i := 40) rfl))) (mvT hZ634 (hw _ (List.mem_of_getElem? (i := 39) rfl))) (by decide) (backOf (W := 0) (rm5ex l Z a0 hw [] wE_label l634 wE_label_value vl634 k_wE_label_value k_vl634 pC h634 n0 Z636 Ex634 (F_wE_label_coder.ext O635.2) Co634 (F_wE_label_value.ext O635.2) Va634 (V_wE.ext O635.2) Av634 hpc (Fld.ne (F_wE_label_value.ext O635.2) Va634 (fun q => own_len_ne (V_wE.ext O635.2) Av634 (by decide) (Value.ref.inj q))) (S_pC.ext O635.2)) hZ634 (hw _ (List.mem_of_getElem? (i := 41) rfl)) (hw _ (List.mem_of_getElem? (i := 30) rfl)) (by decide) (by decide)) q638a q638c (g := (mkF m 50 #[.val (.int p1), .val (.int p2), .val (.ref wE), .val (.int (1 : Int32)), .val (.int (1 : Int32)), .val (.ref wE_label), .unset] [(.ref l634), (.ref wE_label)])) rfl (by rw [hml]; rfl) (Steps.refl _) (argsL := [(.ref l634)]) (rest := []) (lenOf pd__Ljava_lang_Object__Z rfl) rfl (by show 2 * 0 + _ ≤ _; exact Nat.le_of_eq rfl) (hb hby at_50) (fun _ _ => ⟨rfl, e634, (by decide : 4 + 0 ≤ _), (by decide : 72 + 0 ≤ _)⟩)
        dsimp only [Pt.U, Pt.locs, Pt.cells, Pt.slots] at X638 l638 y638 z638 st638 hQ638
        subst l638 y638 z638
        obtain ⟨rfl, N638q, e638⟩ := hQ638
        have N638 := Fr.app N629 N638q
        have pre639 : ∀ t, Steps p.tables e below (T638.setTop (mkF m 53 #[.val (.int p1), .val (.int p2), .val (.ref wE), .val (.int (1 : Int32)), .val (.int (1 : Int32)), .val (.ref wE_label), .unset] [(.int (0 : Int32))])) t → Steps p.tables e below (s₁.setTop (entryFrame m #[(.int p1), (.int p2)] maxLocals)) t := by
          intro t k
          refine pre637 _ ?_
          show Steps p.tables e below (T634.setTop (mkF m 50 #[.val (.int p1), .val (.int p2), .val (.ref wE), .val (.int (1 : Int32)), .val (.int (1 : Int32)), .val (.ref wE_label), .unset] [(.ref l634), (.ref wE_label)])) _
          refine st638.trans ?_
          exact k
        have pre641 : ∀ t, Steps p.tables e below (T638.setTop (mkF m 62 #[.val (.int p1), .val (.int p2), .val (.ref wE), .val (.int (1 : Int32)), .val (.int (1 : Int32)), .val (.ref wE_label), .unset] [])) t → Steps p.tables e below (s₁.setTop (entryFrame m #[(.int p1), (.int p2)] maxLocals)) t := by
          intro t k
          refine pre639 _ ?_
          show Steps p.tables e below (T638.setTop (mkF m 53 #[.val (.int p1), .val (.int p2), .val (.ref wE), .val (.int (1 : Int32)), .val (.int (1 : Int32)), .val (.ref wE_label), .unset] [(.int (0 : Int32))])) _
          refine XS.ifYes X638.here hx rfl (pc0 := 53) (pc' := 62) rfl (hb hby at_53) rfl ((if0 _ _).trans (teq (rfl : (0 : Int32) = (0 : Int32))).1) (by decide) (by decide) ?_
          exact k
        have pre642 : ∀ t, Steps p.tables e below (T638.setTop (mkF m 64 #[.val (.int p1), .val (.int p2), .val (.ref wE), .val (.int (1 : Int32)), .val (.int (1 : Int32)), .val (.ref wE_label), .unset] [(.ref wE_label)])) t → Steps p.tables e below (s₁.setTop (entryFrame m #[(.int p1), (.int p2)] maxLocals)) t := by
          intro t k
          refine pre641 _ ?_
          show Steps p.tables e below (T638.setTop (mkF m 62 #[.val (.int p1), .val (.int p2), .val (.ref wE), .val (.int (1 : Int32)), .val (.int (1 : Int32)), .val (.ref wE_label), .unset] [])) _
          refine XS.aload X638.here hx rfl (hb hby at_62) rfl rfl ?_
          exact k
        have NFs643 : Fr s.heap.size _ := hn0 ▸ N638
        obtain ⟨l643, T643, h643, kk643, vl643, k_vl643, X643, e643, E643, hS643, sk643, hZ643, hown643, Ex643, Co643, Va643, Av643, -, -, IB643, st643⟩ := ldcSV (s := s) (vm0 := T634.vm) X638 hx hZ634 hown634 (hw _ (List.mem_of_getElem? (i := 54) rfl)) (own_wS hw) e638 hS634 sk634 NFs643 hkeep IB634 (by decide) hc44 hcw (vs := [.int (105 : Int32), .int (115 : Int32), .int (115 : Int32), .int (117 : Int32), .int (101 : Int32), .int (114 : Int32), .int (45 : Int32), .int (101 : Int32), .int (108 : Int32), .int (101 : Int32), .int (99 : Int32), .int (116 : Int32), .int (115 : Int32)]) (z := (13 : Int32)) ⟨by decide, rfl⟩ (by decide) (by decide) (g := (mkF m 64 #[.val (.int p1), .val (.int p2), .val (.ref wE), .val (.int (1 : Int32)), .val (.int (1 : Int32)), .val (.ref wE_label), .unset] [(.ref wE_label)])) rfl (hb hby at_64) (n := 52) (by decide) (by decide) (by decide) (by decide)
        have O644 := O635.ext E643
        have Z645 : n0 ≤ h643.size := Nat.le_trans Z636 E643.1
        have pre646 : ∀ t, Steps p.tables e below (T643.setTop (mkF m 66 #[.val (.int p1), .val (.int p2), .val (.ref wE), .val (.int (1 : Int32)), .val (.int (1 : Int32)), .val (.ref wE_label), .unset] [(.ref l643), (.ref wE_label)])) t → Steps p.tables e below (s₁.setTop (entryFrame m #[(.int p1), (.int p2)] maxLocals)) t := by
          intro t k
          refine pre642 _ ?_
          show Steps p.tables e below (T638.setTop (mkF m 64 #[.val (.int p1), .val (.int p2), .val (.ref wE), .val (.int (1 : Int32)), .val (.int (1 : Int32)), .val (.ref wE_label), .unset] [(.ref wE_label)])) _
          refine st643 _ ?_
          exact k
        obtain ⟨cq647, kq647, q647a, q647b, q647c⟩ := isOf hZ643 e643 (E_wE_label.ext O644.2)
        obtain ⟨_, _, ⟨T647, L647, k647, n647⟩, -, X647, ⟨Lc647, hQ647, l647, y647, z647⟩, st647⟩ := X643.virtualBack hx (y := (⟨"java/lang/String", "equals", "(Ljava/lang/Object;)Z"⟩ : MethodName)) (z := (⟨"java/lang/String", "equals", "(Ljava/lang/Object;)Z"⟩ : MethodName)) hown643 (mvT hZ643 (hw _ (List.mem_of_getElem? (i := 37) rfl))) (mvT hZ643 (hw _ (List.mem_of_getElem? (i := 38) rfl))) (notFace_of_selects (args := #[]) (mvT hZ643 (hw _ (List.mem_of_getElem? (i := 40) rfl)))) (mvT hZ643 (hw _ (List.mem_of_getElem? (i := 40) rfl))) (mvT hZ643 (hw _ (List.mem_of_getElem? (i := 39) rfl))) (by decide) (backOf (W := 0) (rm5ee l Z a0 hw [] wE_label l643 wE_label_value vl643 k_wE_label_value k_vl643 pC h643 n0 Z645 Ex643 (F_wE_label_coder.ext O644.2) Co643 (F_wE_label_value.ext O644.2) Va643 (V_wE.ext O644.2) Av643 hpc (S_pC.ext O644.2)) hZ643 (hw _ (List.mem_of_getElem? (i := 41) rfl)) (hw _ (List.mem_of_getElem? (i := 30) rfl)) (by decide) (by decide)) q647a q647c (g := (mkF m 66 #[.val (.int p1), .val (.int p2), .val (.ref wE), .val (.int (1 : Int32)), .val (.int (1 : Int32)), .val (.ref wE_label), .unset] [(.ref l643), (.ref wE_label)])) rfl (by rw [hml]; rfl) (Steps.refl _) (argsL := [(.ref l643)]) (rest := []) (lenOf pd__Ljava_lang_Object__Z rfl) rfl (by show 2 * 0 + _ ≤ _; exact Nat.le_of_eq rfl) (hb hby at_66) (fun _ _ => ⟨rfl, e643, (by decide : 6 + 0 ≤ _), (by decide : 128 + 0 ≤ _)⟩)
        dsimp only [Pt.U, Pt.locs, Pt.cells, Pt.slots] at X647 l647 y647 z647 st647 hQ647
        subst l647 y647 z647
        obtain ⟨rfl, N647q, e647⟩ := hQ647
        have N647 := Fr.app N638 N647q
        have pre648 : ∀ t, Steps p.tables e below (T647.setTop (mkF m 69 #[.val (.int p1), .val (.int p2), .val (.ref wE), .val (.int (1 : Int32)), .val (.int (1 : Int32)), .val (.ref wE_label), .unset] [(.int (1 : Int32))])) t → Steps p.tables e below (s₁.setTop (entryFrame m #[(.int p1), (.int p2)] maxLocals)) t := by
          intro t k
          refine pre646 _ ?_
          show Steps p.tables e below (T643.setTop (mkF m 66 #[.val (.int p1), .val (.int p2), .val (.ref wE), .val (.int (1 : Int32)), .val (.int (1 : Int32)), .val (.ref wE_label), .unset] [(.ref l643), (.ref wE_label)])) _
          refine st647.trans ?_
          exact k
        have pre650 : ∀ t, Steps p.tables e below (T647.setTop (mkF m 72 #[.val (.int p1), .val (.int p2), .val (.ref wE), .val (.int (1 : Int32)), .val (.int (1 : Int32)), .val (.ref wE_label), .unset] [])) t → Steps p.tables e below (s₁.setTop (entryFrame m #[(.int p1), (.int p2)] maxLocals)) t := by
          intro t k
          refine pre648 _ ?_
          show Steps p.tables e below (T647.setTop (mkF m 69 #[.val (.int p1), .val (.int p2), .val (.ref wE), .val (.int (1 : Int32)), .val (.int (1 : Int32)), .val (.ref wE_label), .unset] [(.int (1 : Int32))])) _
          refine XS.ifNo X647.here hx rfl (hb hby at_69) rfl ((if0 _ _).trans (feq (by decide : ¬ ((1 : Int32) = (0 : Int32)))).1) ?_
          exact k
        have pre651 : ∀ t, Steps p.tables e below (T647.setTop (mkF m 84 #[.val (.int p1), .val (.int p2), .val (.ref wE), .val (.int (1 : Int32)), .val (.int (1 : Int32)), .val (.ref wE_label), .val (.int (1 : Int32))] [(.int (1 : Int32)), (.int (1 : Int32))])) t → Steps p.tables e below (s₁.setTop (entryFrame m #[(.int p1), (.int p2)] maxLocals)) t := by
          intro t k
          refine pre650 _ ?_
          show Steps p.tables e below (T647.setTop (mkF m 72 #[.val (.int p1), .val (.int p2), .val (.ref wE), .val (.int (1 : Int32)), .val (.int (1 : Int32)), .val (.ref wE_label), .unset] [])) _
          refine XS.iloadN X647.here hx rfl (hb hby at_72) rfl ?_
          show Steps p.tables e below (T647.setTop (mkF m 73 #[.val (.int p1), .val (.int p2), .val (.ref wE), .val (.int (1 : Int32)), .val (.int (1 : Int32)), .val (.ref wE_label), .unset] [(.int (1 : Int32))])) _
          refine XS.istore X647.here hx rfl (hb hby at_73) rfl (l' := #[.val (.int p1), .val (.int p2), .val (.ref wE), .val (.int (1 : Int32)), .val (.int (1 : Int32)), .val (.ref wE_label), .val (.int (1 : Int32))]) rfl ?_
          show Steps p.tables e below (T647.setTop (mkF m 75 #[.val (.int p1), .val (.int p2), .val (.ref wE), .val (.int (1 : Int32)), .val (.int (1 : Int32)), .val (.ref wE_label), .val (.int (1 : Int32))] [])) _
          refine XS.goto X647.here hx rfl (pc0 := 75) (pc' := 80) rfl (hb hby at_75) (by decide) (by decide) ?_
          show Steps p.tables e below (T647.setTop (mkF m 80 #[.val (.int p1), .val (.int p2), .val (.ref wE), .val (.int (1 : Int32)), .val (.int (1 : Int32)), .val (.ref wE_label), .val (.int (1 : Int32))] [])) _
          refine XS.iload X647.here hx rfl (hb hby at_80) rfl ?_
          show Steps p.tables e below (T647.setTop (mkF m 82 #[.val (.int p1), .val (.int p2), .val (.ref wE), .val (.int (1 : Int32)), .val (.int (1 : Int32)), .val (.ref wE_label), .val (.int (1 : Int32))] [(.int (1 : Int32))])) _
          refine XS.iload X647.here hx rfl (hb hby at_82) rfl ?_
          exact k
        have pre653 : ∀ t, Steps p.tables e below (T647.setTop (mkF m 87 #[.val (.int p1), .val (.int p2), .val (.ref wE), .val (.int (1 : Int32)), .val (.int (1 : Int32)), .val (.ref wE_label), .val (.int (1 : Int32))] [])) t → Steps p.tables e below (s₁.setTop (entryFrame m #[(.int p1), (.int p2)] maxLocals)) t := by
          intro t k
          refine pre651 _ ?_
          show Steps p.tables e below (T647.setTop (mkF m 84 #[.val (.int p1), .val (.int p2), .val (.ref wE), .val (.int (1 : Int32)), .val (.int (1 : Int32)), .val (.ref wE_label), .val (.int (1 : Int32))] [(.int (1 : Int32)), (.int (1 : Int32))])) _
          refine XS.icmpNo X647.here hx rfl (hb hby at_84) rfl (teq (rfl : (1 : Int32) = (1 : Int32))).2 ?_
          exact k
        have pre654 : ∀ t, Steps p.tables e below (T647.setTop (mkF m 92 #[.val (.int p1), .val (.int p2), .val (.ref wE), .val (.int (1 : Int32)), .val (.int (1 : Int32)), .val (.ref wE_label), .val (.int (1 : Int32))] [(.int (1 : Int32))])) t → Steps p.tables e below (s₁.setTop (entryFrame m #[(.int p1), (.int p2)] maxLocals)) t := by
          intro t k
          refine pre653 _ ?_
          show Steps p.tables e below (T647.setTop (mkF m 87 #[.val (.int p1), .val (.int p2), .val (.ref wE), .val (.int (1 : Int32)), .val (.int (1 : Int32)), .val (.ref wE_label), .val (.int (1 : Int32))] [])) _
          refine XS.iconst X647.here hx rfl (hb hby at_87) ?_
          show Steps p.tables e below (T647.setTop (mkF m 88 #[.val (.int p1), .val (.int p2), .val (.ref wE), .val (.int (1 : Int32)), .val (.int (1 : Int32)), .val (.ref wE_label), .val (.int (1 : Int32))] [(.int (1 : Int32))])) _
          refine XS.goto X647.here hx rfl (pc0 := 88) (pc' := 92) rfl (hb hby at_88) (by decide) (by decide) ?_
          exact k
        obtain ⟨fs, hr, hrun, hended, hsame⟩ := Stand.leaveW (s := s) (vm₁ := T643.vm) X647 hS643 (by rw [e647]; exact sk643) (v := some (.int (1 : Int32))) (fun h => by rw [hret] at h; cases h)
        refine ⟨_, _, pre654 _ ?_, hrun, hended, _, _, rfl, ?_, ⟨hsame.1, hsame.2.1, hsame.2.2.1, hsame.2.2.2.mono (by decide) (by decide)⟩⟩
        · show Steps p.tables e below (T647.setTop (mkF m 92 #[.val (.int p1), .val (.int p2), .val (.ref wE), .val (.int (1 : Int32)), .val (.int (1 : Int32)), .val (.ref wE_label), .val (.int (1 : Int32))] [(.int (1 : Int32))])) _
          exact retN X647 hx (t := .boolean) hret (by simp) (hb hby at_92) hr
        · show Q0 Z p1 p2 wI_label wI_label_value k_wI_label_value wX_label wX_label_value k_wX_label_value wE_label wE_label_value k_wE_label_value wI wX wE pC h0 n0 _ T647.heap _
          exact ⟨(by rw [F0, if_neg hk467, if_neg hk512, if_neg hc578]), N647⟩
theorem plain0 (p1 p2 : Int32) : F0 p1 p2 = 1 := by
  unfold F0
  repeat' split
  all_goals rfl
set_option maxRecDepth 65536 in
set_option maxHeartbeats 40000000 in
theorem comes_1 {Post : Tables → Env → Array Value → State → Outcome → State → Prop} (hpost : ∀ tb e args s v u, (limb_1_1.after args s (.returned v) u = true ∧ limb_1_2.after args s (.returned v) u = true ∧ True) → ReturnedEndW s (.returned v) u (Jvm.fieldLocs frame_1_writes args s ++ Jvm.arrayLocs frame_1_arrays args s ++ Jvm.staticLocs frame_1_statics s) 8 3136 → Post tb e args s (.returned v) u) :
    ArmFor flags0 classFile x code maxLocals ret World_1 tables_1 room_1 Calls_1 rest_1 Pre_1 Post := by
  intro l hfl _ _ p e ha hc hk s m args below hf hA hF happ hP
  obtain ⟨hcalls, hrest, hpre⟩ := hP
  obtain ⟨-, -, -, hnamed, -, -, -, hat⟩ := (Spec.applies_iff hf).mp happ
  obtain ⟨hg, hn⟩ := and_e (Cond.before_iff.mp (show (Jvm.Cond.and given_1 narrow_1).before args s = true from hpre))
  obtain ⟨g655, g656⟩ := and_e hg
  obtain ⟨g657, g658⟩ := and_e g656
  obtain ⟨w0, w1, rfl⟩ : ∃ w0 w1 : Value, args = #[w0, w1] := by
    have hs : args.size = 2 := by simpa [Cond.value, given_1] using g655
    obtain ⟨L⟩ := args
    match L, hs with
    | [w0, w1], _ => exact ⟨w0, w1, rfl⟩
  have hw := fun d (hd : d ∈ tables_1) => atoms_spec (ws := Jvm.Cond.code x code maxLocals ret :: tables_1) hat d (List.mem_cons_of_mem _ hd)
  have hfit : Fit s := fun {y c} hc i hi => by
    obtain ⟨ha, rfl⟩ := Array.getElem?_eq_some_iff.mp hc
    have q := List.all_eq_true.mp ((Array.all_eq_true_iff_forall_mem.mp hF) _ (Array.getElem_mem ha)) i (List.mem_range.mpr hi)
    simpa [Array.getElem?_eq_getElem hi] using q
  obtain ⟨hsets, hown0⟩ := atoms_of _ (rest_1_c_eq ▸ (show rest_1_c.before _ s = true from hrest))
  obtain ⟨i0, ei0⟩ := is_v g657
  obtain rfl : w0 = (.int i0) := Option.some.inj ei0
  obtain ⟨i1, ei1⟩ := is_v g658
  obtain rfl : w1 = (.int i1) := Option.some.inj ei1
  obtain ⟨n1, n2⟩ := and_e hn
  obtain ⟨wI, ev_wI⟩ := exa_v n1
  have S_wI := Sta.start ev_wI (Or.inr ⟨(hw _ (List.mem_of_getElem? (i := 6) rfl)), (hw _ (List.mem_of_getElem? (i := 7) rfl))⟩)
  have E_wI := Exa.start ev_wI n1
  obtain ⟨n3, n4⟩ := and_e n2
  have F_wI_ordinal := Fld.start ((fld_at ev_wI).symm.trans (own_eqI n3))
  obtain ⟨n5, n6⟩ := and_e n4
  obtain ⟨wI_label, ev_wI_label⟩ := exa_v n5
  have F_wI_label := Fld.start ((fld_at ev_wI).symm.trans ev_wI_label)
  have E_wI_label := Exa.start ev_wI_label n5
  obtain ⟨n7, n8⟩ := and_e n6
  have F_wI_label_coder := Fld.start ((fld_at ev_wI_label).symm.trans (own_eqI n7))
  obtain ⟨n9, n10⟩ := and_e n8
  obtain ⟨wI_label_value, ev_wI_label_value⟩ := arr_v n9
  have F_wI_label_value := Fld.start ((fld_at ev_wI_label).symm.trans ev_wI_label_value)
  obtain ⟨cl_wI_label_value, Ar_wI_label_value⟩ := Arr.start ev_wI_label_value n9
  obtain ⟨n11, n12⟩ := and_e n10
  have ln_wI_label_value := own_eqI n11
  obtain ⟨n13, n14⟩ := and_e n12
  obtain ⟨wE, ev_wE⟩ := exa_v n13
  have S_wE := Sta.start ev_wE (Or.inr ⟨(hw _ (List.mem_of_getElem? (i := 6) rfl)), (hw _ (List.mem_of_getElem? (i := 52) rfl))⟩)
  have E_wE := Exa.start ev_wE n13
  obtain ⟨n15, n16⟩ := and_e n14
  have F_wE_ordinal := Fld.start ((fld_at ev_wE).symm.trans (own_eqI n15))
  obtain ⟨n17, n18⟩ := and_e n16
  obtain ⟨wE_label, ev_wE_label⟩ := exa_v n17
  have F_wE_label := Fld.start ((fld_at ev_wE).symm.trans ev_wE_label)
  have E_wE_label := Exa.start ev_wE_label n17
  obtain ⟨n19, n20⟩ := and_e n18
  have F_wE_label_coder := Fld.start ((fld_at ev_wE_label).symm.trans (own_eqI n19))
  obtain ⟨n21, n22⟩ := and_e n20
  obtain ⟨wE_label_value, ev_wE_label_value⟩ := arr_v n21
  have F_wE_label_value := Fld.start ((fld_at ev_wE_label).symm.trans ev_wE_label_value)
  obtain ⟨cl_wE_label_value, Ar_wE_label_value⟩ := Arr.start ev_wE_label_value n21
  obtain ⟨n23, n24⟩ := and_e n22
  have ln_wE_label_value := own_eqI n23
  obtain ⟨n25, n26⟩ := and_e n24
  obtain ⟨wX, ev_wX⟩ := exa_v n25
  have S_wX := Sta.start ev_wX (Or.inr ⟨(hw _ (List.mem_of_getElem? (i := 6) rfl)), (hw _ (List.mem_of_getElem? (i := 56) rfl))⟩)
  have E_wX := Exa.start ev_wX n25
  obtain ⟨n27, n28⟩ := and_e n26
  have F_wX_ordinal := Fld.start ((fld_at ev_wX).symm.trans (own_eqI n27))
  obtain ⟨n29, n30⟩ := and_e n28
  obtain ⟨wX_label, ev_wX_label⟩ := exa_v n29
  have F_wX_label := Fld.start ((fld_at ev_wX).symm.trans ev_wX_label)
  have E_wX_label := Exa.start ev_wX_label n29
  obtain ⟨n31, n32⟩ := and_e n30
  have F_wX_label_coder := Fld.start ((fld_at ev_wX_label).symm.trans (own_eqI n31))
  obtain ⟨n33, n34⟩ := and_e n32
  obtain ⟨wX_label_value, ev_wX_label_value⟩ := arr_v n33
  have F_wX_label_value := Fld.start ((fld_at ev_wX_label).symm.trans ev_wX_label_value)
  obtain ⟨cl_wX_label_value, Ar_wX_label_value⟩ := Arr.start ev_wX_label_value n33
  obtain ⟨n35, n36⟩ := and_e n34
  have ln_wX_label_value := own_eqI n35
  obtain ⟨n37, n38⟩ := and_e n36
  have el_wI_label_value_0 := elem_in (own_eqI n37) ev_wI_label_value rfl Ar_wI_label_value.1
  obtain ⟨n39, n40⟩ := and_e n38
  have el_wI_label_value_1 := elem_in (own_eqI n39) ev_wI_label_value rfl Ar_wI_label_value.1
  obtain ⟨n41, n42⟩ := and_e n40
  have el_wI_label_value_2 := elem_in (own_eqI n41) ev_wI_label_value rfl Ar_wI_label_value.1
  obtain ⟨n43, n44⟩ := and_e n42
  have el_wI_label_value_3 := elem_in (own_eqI n43) ev_wI_label_value rfl Ar_wI_label_value.1
  obtain ⟨n45, n46⟩ := and_e n44
  have el_wI_label_value_4 := elem_in (own_eqI n45) ev_wI_label_value rfl Ar_wI_label_value.1
  obtain ⟨n47, n48⟩ := and_e n46
  have el_wI_label_value_5 := elem_in (own_eqI n47) ev_wI_label_value rfl Ar_wI_label_value.1
  obtain ⟨n49, n50⟩ := and_e n48
  have el_wI_label_value_6 := elem_in (own_eqI n49) ev_wI_label_value rfl Ar_wI_label_value.1
  obtain ⟨n51, n52⟩ := and_e n50
  have el_wI_label_value_7 := elem_in (own_eqI n51) ev_wI_label_value rfl Ar_wI_label_value.1
  obtain ⟨n53, n54⟩ := and_e n52
  have el_wE_label_value_0 := elem_in (own_eqI n53) ev_wE_label_value rfl Ar_wE_label_value.1
  obtain ⟨n55, n56⟩ := and_e n54
  have el_wE_label_value_1 := elem_in (own_eqI n55) ev_wE_label_value rfl Ar_wE_label_value.1
  obtain ⟨n57, n58⟩ := and_e n56
  have el_wE_label_value_2 := elem_in (own_eqI n57) ev_wE_label_value rfl Ar_wE_label_value.1
  obtain ⟨n59, n60⟩ := and_e n58
  have el_wE_label_value_3 := elem_in (own_eqI n59) ev_wE_label_value rfl Ar_wE_label_value.1
  obtain ⟨n61, n62⟩ := and_e n60
  have el_wE_label_value_4 := elem_in (own_eqI n61) ev_wE_label_value rfl Ar_wE_label_value.1
  obtain ⟨n63, n64⟩ := and_e n62
  have el_wE_label_value_5 := elem_in (own_eqI n63) ev_wE_label_value rfl Ar_wE_label_value.1
  obtain ⟨n65, n66⟩ := and_e n64
  have el_wE_label_value_6 := elem_in (own_eqI n65) ev_wE_label_value rfl Ar_wE_label_value.1
  obtain ⟨n67, n68⟩ := and_e n66
  have el_wE_label_value_7 := elem_in (own_eqI n67) ev_wE_label_value rfl Ar_wE_label_value.1
  obtain ⟨n69, n70⟩ := and_e n68
  have el_wE_label_value_8 := elem_in (own_eqI n69) ev_wE_label_value rfl Ar_wE_label_value.1
  obtain ⟨n71, n72⟩ := and_e n70
  have el_wE_label_value_9 := elem_in (own_eqI n71) ev_wE_label_value rfl Ar_wE_label_value.1
  obtain ⟨n73, n74⟩ := and_e n72
  have el_wE_label_value_10 := elem_in (own_eqI n73) ev_wE_label_value rfl Ar_wE_label_value.1
  obtain ⟨n75, n76⟩ := and_e n74
  have el_wE_label_value_11 := elem_in (own_eqI n75) ev_wE_label_value rfl Ar_wE_label_value.1
  obtain ⟨n77, n78⟩ := and_e n76
  have el_wE_label_value_12 := elem_in (own_eqI n77) ev_wE_label_value rfl Ar_wE_label_value.1
  obtain ⟨n79, n80⟩ := and_e n78
  have el_wX_label_value_0 := elem_in (own_eqI n79) ev_wX_label_value rfl Ar_wX_label_value.1
  obtain ⟨n81, n82⟩ := and_e n80
  have el_wX_label_value_1 := elem_in (own_eqI n81) ev_wX_label_value rfl Ar_wX_label_value.1
  obtain ⟨n83, n84⟩ := and_e n82
  have el_wX_label_value_2 := elem_in (own_eqI n83) ev_wX_label_value rfl Ar_wX_label_value.1
  obtain ⟨n85, n86⟩ := and_e n84
  have el_wX_label_value_3 := elem_in (own_eqI n85) ev_wX_label_value rfl Ar_wX_label_value.1
  obtain ⟨n87, n88⟩ := and_e n86
  have el_wX_label_value_4 := elem_in (own_eqI n87) ev_wX_label_value rfl Ar_wX_label_value.1
  obtain ⟨n89, n90⟩ := and_e n88
  have el_wX_label_value_5 := elem_in (own_eqI n89) ev_wX_label_value rfl Ar_wX_label_value.1
  obtain ⟨n91, n92⟩ := and_e n90
  have el_wX_label_value_6 := elem_in (own_eqI n91) ev_wX_label_value rfl Ar_wX_label_value.1
  have el_wX_label_value_7 := elem_in (own_eqI n92) ev_wX_label_value rfl Ar_wX_label_value.1
  have lz_wI := own_lenI ev_wI_label_value Ar_wI_label_value ln_wI_label_value
  have V_wI : Arv s s.heap wI_label_value cl_wI_label_value.cls .byte (8 : Int32) [.int (105 : Int32), .int (110 : Int32), .int (99 : Int32), .int (108 : Int32), .int (117 : Int32), .int (100 : Int32), .int (101 : Int32), .int (100 : Int32)] (.int (0 : Int32)) := Arv.start hfit Ar_wI_label_value lz_wI.1 lz_wI.2 (by decide) (by decide) ⟨el_wI_label_value_0.2, el_wI_label_value_1.2, el_wI_label_value_2.2, el_wI_label_value_3.2, el_wI_label_value_4.2, el_wI_label_value_5.2, el_wI_label_value_6.2, el_wI_label_value_7.2, trivial⟩
  have lz_wX := own_lenI ev_wX_label_value Ar_wX_label_value ln_wX_label_value
  have V_wX : Arv s s.heap wX_label_value cl_wX_label_value.cls .byte (8 : Int32) [.int (101 : Int32), .int (120 : Int32), .int (99 : Int32), .int (108 : Int32), .int (117 : Int32), .int (100 : Int32), .int (101 : Int32), .int (100 : Int32)] (.int (0 : Int32)) := Arv.start hfit Ar_wX_label_value lz_wX.1 lz_wX.2 (by decide) (by decide) ⟨el_wX_label_value_0.2, el_wX_label_value_1.2, el_wX_label_value_2.2, el_wX_label_value_3.2, el_wX_label_value_4.2, el_wX_label_value_5.2, el_wX_label_value_6.2, el_wX_label_value_7.2, trivial⟩
  have lz_wE := own_lenI ev_wE_label_value Ar_wE_label_value ln_wE_label_value
  have V_wE : Arv s s.heap wE_label_value cl_wE_label_value.cls .byte (13 : Int32) [.int (105 : Int32), .int (115 : Int32), .int (115 : Int32), .int (117 : Int32), .int (101 : Int32), .int (114 : Int32), .int (45 : Int32), .int (101 : Int32), .int (108 : Int32), .int (101 : Int32), .int (99 : Int32), .int (116 : Int32), .int (115 : Int32)] (.int (0 : Int32)) := Arv.start hfit Ar_wE_label_value lz_wE.1 lz_wE.2 (by decide) (by decide) ⟨el_wE_label_value_0.2, el_wE_label_value_1.2, el_wE_label_value_2.2, el_wE_label_value_3.2, el_wE_label_value_4.2, el_wE_label_value_5.2, el_wE_label_value_6.2, el_wE_label_value_7.2, el_wE_label_value_8.2, el_wE_label_value_9.2, el_wE_label_value_10.2, el_wE_label_value_11.2, el_wE_label_value_12.2, trivial⟩
  obtain ⟨pC, ev_pC⟩ := is_v (Cond.before_iff.mp (hsets _ (List.mem_of_getElem? (i := 1) rfl)))
  have S_pC := Sta.start ev_pC (Or.inl (hsets _ (List.mem_of_getElem? (i := 0) rfl)))
  have hpc := own_neI (Cond.before_iff.mp (hsets _ (List.mem_of_getElem? (i := 2) rfl))) ev_pC
  obtain ⟨n, o, h1, h2, h3, v, L, rfl, ⟨hv, N⟩, hq⟩ := rm0 l s _ hw tables_1 i0 i1 wI_label wI_label_value cl_wI_label_value.cls wX_label wX_label_value cl_wX_label_value.cls wE_label wE_label_value cl_wE_label_value.cls wI wX wE pC s.heap s.heap.size (Nat.le_refl _) (Old.start s) E_wI F_wI_ordinal F_wI_label E_wI_label F_wI_label_coder F_wI_label_value V_wI E_wX F_wX_ordinal F_wX_label E_wX_label F_wX_label_coder F_wX_label_value V_wX E_wE F_wE_ordinal F_wE_label E_wE_label F_wE_label_coder F_wE_label_value V_wE hpc rfl (hsets _ (List.mem_of_getElem? (i := 2) rfl)) (hcalls.1 _ (List.mem_of_getElem? (i := 0) rfl)) (hcalls.1 _ (List.mem_of_getElem? (i := 1) rfl)) (hcalls.1 _ (List.mem_of_getElem? (i := 2) rfl)) S_wI S_wX S_wE S_pC p e ha hc hk s m _ below hf ((Spec.applies_iff_loose hf).mp happ).1 ⟨rfl, State.Warmed39.refl s, rfl, IB.start⟩ trivial
  rw [plain0] at hv
  subst hv
  refine ⟨n, _, h1, h2, h3, hpost _ _ _ _ _ _ ⟨Cond.after_iff.mpr rfl, Cond.after_iff.mpr (eq_i res_at (Term.int_eval (1)) rfl), trivial⟩ ⟨hq.1, hq.2.1, hq.2.2.1, (hq.2.2.2.sift fun y hy => Or.inr (N y hy)).mono (by decide) (by decide)⟩⟩
theorem main_1_1 : Claimed_1_1 := comes_1 fun _ _ _ _ _ _ h hF => ⟨h.1, hF⟩
theorem main_1_2 : Claimed_1_2 := comes_1 fun _ _ _ _ _ _ h hF => ⟨h.2.1, hF⟩
end Jvm.Pilot.@@N@@
namespace Jvm.Pilot.@@N@@
open Jvm Jvm.ClassFile Sem Op Lib Jvm.Free Jvm.Stand Jvm.Pilot.@@N@@.Jvm.D
/-! MADE BY PROGRAM (witnessworld.py) out of the Statement's table words and the real class files: 19 classes; the members and pool entries that the words name. The judged class is class 1, her method 2. -/
namespace start1
open Jvm.ClassFile
def u (s : String) : CpInfo := .utf8 (stringToUtf16 s)
/-- a pool by its gaps: so many unusable entries, then the entry; so many at the end -/
def gap : Nat → List CpInfo → List CpInfo
  | 0, r => r
  | n + 1, r => .unusable :: gap n r
def poolList (es : List (Nat × CpInfo)) (last : Nat) : List CpInfo := es.foldr (fun e r => gap e.1 (e.2 :: r)) (gap last [])
def pool (es : List (Nat × CpInfo)) (last : Nat) : Array CpInfo := ⟨poolList es last⟩
def fileOf (pool : Array CpInfo) (this : Nat) (attrs : Array Attribute := #[]) (ms : Array MethodInfo := #[]) (fl : Nat := 33) (sup : Nat := 0) (ifs : Array Nat := #[]) (fds : Array FieldInfo := #[]) : ClassFile where
  minorVersion := 0
  majorVersion := 65
  constantPool := pool
  accessFlags := fl
  thisClass := this
  superClass := sup
  interfaces := ifs
  fields := fds
  methods := ms
  attributes := attrs
def plain (name : String) (sup : Option ClassId) : Class where
  name := name
  kind := .ordinary
  loader := none
  accessFlags := 33
  super := sup
  interfaces := #[]
  cf := none
  fields := #[]
  methods := #[]
  instanceTypes := #[]
  staticTypes := #[]
  resolved := #[]
  callSites := []
  init := .initialized
  statics := none
  mirror := none

def pool0 : Array CpInfo := pool [(5, u "<init>"), (0, u "()V"), (1, .class_ 10), (1, u "java/lang/Object")] 113

def k0m0 : Method := { name := "<init>", desc := "()V", sig := { parameters := [], returnType := none }, accessFlags := 1, code := none }
/-- java/lang/Object -/
def k0 : Class := { plain "java/lang/Object" none with
  accessFlags := 33
  interfaces := #[]
  cf := some (fileOf pool0 8 #[] #[{ accessFlags := 1, nameIndex := 5, descriptorIndex := 6, attributes := #[] }] 33 0 #[] #[])
  fields := #[]
  methods := #[k0m0]
  instanceTypes := #[]
  staticTypes := #[]
  resolved := Array.replicate 124 none
  statics := none }

def pool1 : Array CpInfo := pool [(2, .class_ 4), (1, u "java/lang/Object"), (0, u "<init>"), (0, u "()V"), (0, .integer 2147483647), (0, .fieldref 9 10), (0, .class_ 11), (0, .nameAndType 12 13), (0, u "com/example/notesmith/notesmith/note/ConvertedInterest"), (0, u "INCLUDED"), (0, u "Lcom/example/notesmith/notesmith/note/ConvertedInterest;"), (0, .fieldref 9 15), (0, .nameAndType 16 13), (0, u "EXCLUDED"), (0, .fieldref 9 18), (0, .nameAndType 19 13), (0, u "ISSUER_ELECTS"), (0, .methodref 21 22), (0, .class_ 23), (0, .nameAndType 24 25), (0, u "com/example/notesmith/notesmith/note/ConvertedInterestConvertsPinLaw"), (0, u "pick"), (0, u "(I)Lcom/example/notesmith/notesmith/note/ConvertedInterest;"), (0, .methodref 9 27), (0, .nameAndType 28 29), (0, u "converts"), (0, u "(Z)Z"), (0, .methodref 9 31), (0, .nameAndType 32 33), (0, u "label"), (0, u "()Ljava/lang/String;"), (0, .string 35), (0, u "included"), (0, .methodref 37 38), (0, .class_ 39), (0, .nameAndType 40 41), (0, u "java/lang/String"), (0, u "equals"), (0, u "(Ljava/lang/Object;)Z"), (0, .string 43), (0, u "excluded"), (0, .string 45), (0, u "issuer-elects"), (3, u "law"), (0, u "(II)Z")] 2

def k1m0 : Method := { name := "<init>", desc := "()V", sig := { parameters := [], returnType := none }, accessFlags := 1, code := none }
def k1c1 : Code := { maxStack := 2, maxLocals := 2, code := method_2_code, exceptionTable := #[], attributes := #[] }
def k1m1 : Method := { name := "pick", desc := "(I)Lcom/example/notesmith/notesmith/note/ConvertedInterest;", sig := { parameters := [.int], returnType := some (.object "com/example/notesmith/notesmith/note/ConvertedInterest") }, accessFlags := 10, code := some k1c1 }
def k1c2 : Code := { maxStack := 2, maxLocals := 7, code := code, exceptionTable := #[], attributes := #[] }
def k1m2 : Method := { name := "law", desc := "(II)Z", sig := { parameters := [.int, .int], returnType := some .boolean }, accessFlags := 9, code := some k1c2 }
/-- com/example/notesmith/notesmith/note/ConvertedInterestConvertsPinLaw -/
def k1 : Class := { plain "com/example/notesmith/notesmith/note/ConvertedInterestConvertsPinLaw" (some 0) with
  accessFlags := 49
  interfaces := #[]
  cf := some (fileOf pool1 21 #[] #[{ accessFlags := 1, nameIndex := 5, descriptorIndex := 6, attributes := #[] }, { accessFlags := 10, nameIndex := 24, descriptorIndex := 25, attributes := #[] }, { accessFlags := 9, nameIndex := 49, descriptorIndex := 50, attributes := #[] }] 49 2 #[] #[])
  fields := #[]
  methods := #[k1m0, k1m1, k1m2]
  instanceTypes := #[]
  staticTypes := #[]
  resolved := Array.replicate 53 none
  statics := none }

def pool2 : Array CpInfo := pool [(1, .class_ 2), (0, u "java/lang/constant/Constable"), (0, .class_ 4), (0, u "java/lang/Object")] 6

/-- java/lang/constant/Constable -/
def k2 : Class := { plain "java/lang/constant/Constable" (some 0) with
  accessFlags := 1537
  interfaces := #[]
  cf := some (fileOf pool2 1 #[] #[] 1537 3 #[] #[])
  fields := #[]
  methods := #[]
  instanceTypes := #[]
  staticTypes := #[]
  resolved := Array.replicate 11 none
  statics := none }

def pool3 : Array CpInfo := pool [(1, .class_ 2), (0, u "java/lang/Comparable"), (0, .class_ 4), (0, u "java/lang/Object")] 7

/-- java/lang/Comparable -/
def k3 : Class := { plain "java/lang/Comparable" (some 0) with
  accessFlags := 1537
  interfaces := #[]
  cf := some (fileOf pool3 1 #[] #[] 1537 3 #[] #[])
  fields := #[]
  methods := #[]
  instanceTypes := #[]
  staticTypes := #[]
  resolved := Array.replicate 12 none
  statics := none }

def pool4 : Array CpInfo := pool [(1, .class_ 2), (0, u "java/io/Serializable"), (0, .class_ 4), (0, u "java/lang/Object")] 2

/-- java/io/Serializable -/
def k4 : Class := { plain "java/io/Serializable" (some 0) with
  accessFlags := 1537
  interfaces := #[]
  cf := some (fileOf pool4 1 #[] #[] 1537 3 #[] #[])
  fields := #[]
  methods := #[]
  instanceTypes := #[]
  staticTypes := #[]
  resolved := Array.replicate 7 none
  statics := none }

def pool5 : Array CpInfo := pool [(2, .class_ 4), (1, u "java/lang/Enum"), (0, u "name"), (0, u "Ljava/lang/String;"), (0, .fieldref 2 8), (0, .nameAndType 9 10), (0, u "ordinal"), (0, u "I"), (1, .class_ 14), (1, u "java/lang/Object"), (4, u "hash"), (86, .class_ 108), (1, u "java/lang/Enum$EnumDesc"), (2, .class_ 112), (0, u "java/lang/constant/Constable"), (0, .class_ 114), (0, u "java/lang/Comparable"), (0, .class_ 116), (0, u "java/io/Serializable"), (9, u "()I")] 77

def k5c0 : Code := { maxStack := 1, maxLocals := 1, code := jdk_37_method_2_code, exceptionTable := #[], attributes := #[] }
def k5m0 : Method := { name := "ordinal", desc := "()I", sig := { parameters := [], returnType := some .int }, accessFlags := 17, code := some k5c0 }
/-- java/lang/Enum -/
def k5 : Class := { plain "java/lang/Enum" (some 0) with
  accessFlags := 1057
  interfaces := #[2, 3, 4]
  cf := some (fileOf pool5 2 #[.nestMembers #[106]] #[{ accessFlags := 17, nameIndex := 9, descriptorIndex := 126, attributes := #[] }] 1057 12 #[111, 113, 115] #[{ accessFlags := 18, nameIndex := 5, descriptorIndex := 6, attributes := #[] }, { accessFlags := 18, nameIndex := 9, descriptorIndex := 10, attributes := #[] }, { accessFlags := 2, nameIndex := 19, descriptorIndex := 10, attributes := #[] }])
  fields := #[{ name := "name", type := (.object "java/lang/String"), accessFlags := 18, slot := 0, constantValue := 0 }, { name := "ordinal", type := .int, accessFlags := 18, slot := 1, constantValue := 0 }, { name := "hash", type := .int, accessFlags := 2, slot := 2, constantValue := 0 }]
  methods := #[k5m0]
  instanceTypes := #[(.object "java/lang/String"), .int, .int]
  staticTypes := #[]
  resolved := Array.replicate 204 none
  statics := none }

def pool6 : Array CpInfo := pool [(1, .class_ 2), (0, u "com/example/notesmith/notesmith/note/Labelled"), (0, .class_ 4), (0, u "java/lang/Object")] 4

/-- com/example/notesmith/notesmith/note/Labelled -/
def k6 : Class := { plain "com/example/notesmith/notesmith/note/Labelled" (some 0) with
  accessFlags := 1537
  interfaces := #[]
  cf := some (fileOf pool6 1 #[] #[] 1537 3 #[] #[])
  fields := #[]
  methods := #[]
  instanceTypes := #[]
  staticTypes := #[]
  resolved := Array.replicate 9 none
  statics := none }

def pool7 : Array CpInfo := pool [(1, .class_ 2), (0, u "com/example/notesmith/notesmith/note/ConvertedInterest"), (2, u "INCLUDED"), (0, u "Lcom/example/notesmith/notesmith/note/ConvertedInterest;"), (2, u "EXCLUDED"), (2, u "ISSUER_ELECTS"), (2, u "$VALUES"), (0, u "[Lcom/example/notesmith/notesmith/note/ConvertedInterest;"), (6, .class_ 25), (1, u "java/lang/Enum"), (6, .fieldref 1 33), (0, .nameAndType 34 35), (0, u "label"), (0, u "Ljava/lang/String;"), (0, .methodref 1 37), (0, .nameAndType 38 39), (0, u "ordinal"), (0, u "()I"), (21, .class_ 62), (0, u "com/example/notesmith/notesmith/note/Labelled"), (7, u "()Ljava/lang/String;"), (0, u "converts"), (0, u "(Z)Z")] 6

def k7c0 : Code := { maxStack := 1, maxLocals := 1, code := prog_58_method_4_code, exceptionTable := #[], attributes := #[] }
def k7m0 : Method := { name := "label", desc := "()Ljava/lang/String;", sig := { parameters := [], returnType := some (.object "java/lang/String") }, accessFlags := 1, code := some k7c0 }
def k7c1 : Code := { maxStack := 4, maxLocals := 2, code := prog_58_method_5_code, exceptionTable := #[], attributes := #[] }
def k7m1 : Method := { name := "converts", desc := "(Z)Z", sig := { parameters := [.boolean], returnType := some .boolean }, accessFlags := 1, code := some k7c1 }
/-- com/example/notesmith/notesmith/note/ConvertedInterest -/
def k7 : Class := { plain "com/example/notesmith/notesmith/note/ConvertedInterest" (some 5) with
  accessFlags := 16433
  interfaces := #[6]
  cf := some (fileOf pool7 1 #[] #[{ accessFlags := 1, nameIndex := 34, descriptorIndex := 70, attributes := #[] }, { accessFlags := 1, nameIndex := 71, descriptorIndex := 72, attributes := #[] }] 16433 23 #[61] #[{ accessFlags := 16409, nameIndex := 5, descriptorIndex := 6, attributes := #[] }, { accessFlags := 16409, nameIndex := 9, descriptorIndex := 6, attributes := #[] }, { accessFlags := 16409, nameIndex := 12, descriptorIndex := 6, attributes := #[] }, { accessFlags := 18, nameIndex := 34, descriptorIndex := 35, attributes := #[] }, { accessFlags := 4122, nameIndex := 15, descriptorIndex := 16, attributes := #[] }])
  fields := #[{ name := "INCLUDED", type := (.object "com/example/notesmith/notesmith/note/ConvertedInterest"), accessFlags := 16409, slot := 0, constantValue := 0 }, { name := "EXCLUDED", type := (.object "com/example/notesmith/notesmith/note/ConvertedInterest"), accessFlags := 16409, slot := 1, constantValue := 0 }, { name := "ISSUER_ELECTS", type := (.object "com/example/notesmith/notesmith/note/ConvertedInterest"), accessFlags := 16409, slot := 2, constantValue := 0 }, { name := "label", type := (.object "java/lang/String"), accessFlags := 18, slot := 3, constantValue := 0 }, { name := "$VALUES", type := (.array (.object "com/example/notesmith/notesmith/note/ConvertedInterest")), accessFlags := 4122, slot := 3, constantValue := 0 }]
  methods := #[k7m0, k7m1]
  instanceTypes := #[(.object "java/lang/String"), .int, .int, (.object "java/lang/String")]
  staticTypes := #[(.object "com/example/notesmith/notesmith/note/ConvertedInterest"), (.object "com/example/notesmith/notesmith/note/ConvertedInterest"), (.object "com/example/notesmith/notesmith/note/ConvertedInterest"), (.array (.object "com/example/notesmith/notesmith/note/ConvertedInterest"))]
  resolved := Array.replicate 79 none
  statics := some 0 }

def pool8 : Array CpInfo := pool [(2, .class_ 4), (1, u "java/lang/CharSequence"), (42, .class_ 48), (0, u "java/lang/CharSequence$1CodePointIterator"), (10, .class_ 60), (0, u "java/lang/CharSequence$1CharIterator"), (5, .class_ 67), (0, u "java/lang/Object")] 63

/-- java/lang/CharSequence -/
def k8 : Class := { plain "java/lang/CharSequence" (some 0) with
  accessFlags := 1537
  interfaces := #[]
  cf := some (fileOf pool8 2 #[.nestMembers #[47, 59]] #[] 1537 66 #[] #[])
  fields := #[]
  methods := #[]
  instanceTypes := #[]
  staticTypes := #[]
  resolved := Array.replicate 131 none
  statics := none }

def pool9 : Array CpInfo := pool [(1, .class_ 2), (0, u "java/lang/constant/ConstantDesc"), (0, .class_ 4), (0, u "java/lang/Object")] 32

/-- java/lang/constant/ConstantDesc -/
def k9 : Class := { plain "java/lang/constant/ConstantDesc" (some 0) with
  accessFlags := 1537
  interfaces := #[]
  cf := some (fileOf pool9 1 #[] #[] 1537 3 #[] #[])
  fields := #[]
  methods := #[]
  instanceTypes := #[]
  staticTypes := #[]
  resolved := Array.replicate 37 none
  statics := none }

def pool10 : Array CpInfo := pool [(2, .class_ 4), (1, u "java/lang/Object"), (0, u "<init>"), (0, u "()V"), (2, .fieldref 10 11), (0, .class_ 12), (0, .nameAndType 13 14), (0, u "java/lang/String"), (0, u "value"), (0, u "[B"), (0, .fieldref 10 16), (0, .nameAndType 17 18), (0, u "coder"), (0, u "B"), (2, u "hash"), (0, u "I"), (2, u "hashIsZero"), (0, u "Z"), (11, .fieldref 10 39), (0, .nameAndType 40 26), (0, u "COMPACT_STRINGS"), (66, .class_ 109), (1, u "java/lang/StringLatin1"), (431, .methodref 107 542), (0, .nameAndType 543 544), (0, u "equals"), (0, u "([B[B)Z"), (28, u "(Ljava/lang/Object;)Z"), (1, .class_ 576), (0, u "java/lang/CharSequence"), (22, u "CASE_INSENSITIVE_ORDER"), (0, u "Ljava/util/Comparator;"), (500, u "serialPersistentFields"), (0, u "[Ljava/io/ObjectStreamField;"), (0, .class_ 1104), (0, u "java/lang/String$CaseInsensitiveComparator"), (1, .class_ 1107), (0, u "java/io/Serializable"), (0, .class_ 1109), (0, u "java/lang/Comparable"), (0, .class_ 1111), (0, u "java/lang/constant/Constable"), (0, .class_ 1113), (0, u "java/lang/constant/ConstantDesc"), (2, u "serialVersionUID"), (0, u "J"), (3, u "REPL"), (0, u "C"), (2, u "LATIN1"), (1, u "UTF16")] 323

def k10m0 : Method := { name := "<init>", desc := "()V", sig := { parameters := [], returnType := none }, accessFlags := 1, code := none }
def k10c1 : Code := { maxStack := 2, maxLocals := 3, code := jdk_42_method_66_code, exceptionTable := #[], attributes := #[] }
def k10m1 : Method := { name := "equals", desc := "(Ljava/lang/Object;)Z", sig := { parameters := [(.object "java/lang/Object")], returnType := some .boolean }, accessFlags := 1, code := some k10c1 }
/-- java/lang/String -/
def k10 : Class := { plain "java/lang/String" (some 0) with
  accessFlags := 49
  interfaces := #[4, 3, 8, 2, 9]
  cf := some (fileOf pool10 10 #[.nestMembers #[1103]] #[{ accessFlags := 1, nameIndex := 5, descriptorIndex := 6, attributes := #[] }, { accessFlags := 1, nameIndex := 543, descriptorIndex := 573, attributes := #[] }] 49 2 #[1106, 1108, 575, 1110, 1112] #[{ accessFlags := 18, nameIndex := 13, descriptorIndex := 14, attributes := #[] }, { accessFlags := 18, nameIndex := 17, descriptorIndex := 18, attributes := #[] }, { accessFlags := 2, nameIndex := 21, descriptorIndex := 22, attributes := #[] }, { accessFlags := 2, nameIndex := 25, descriptorIndex := 26, attributes := #[] }, { accessFlags := 26, nameIndex := 1116, descriptorIndex := 1117, attributes := #[] }, { accessFlags := 24, nameIndex := 40, descriptorIndex := 26, attributes := #[] }, { accessFlags := 26, nameIndex := 1101, descriptorIndex := 1102, attributes := #[] }, { accessFlags := 26, nameIndex := 1121, descriptorIndex := 1122, attributes := #[] }, { accessFlags := 25, nameIndex := 599, descriptorIndex := 600, attributes := #[] }, { accessFlags := 24, nameIndex := 1125, descriptorIndex := 18, attributes := #[] }, { accessFlags := 24, nameIndex := 1127, descriptorIndex := 18, attributes := #[] }])
  fields := #[{ name := "value", type := (.array .byte), accessFlags := 18, slot := 0, constantValue := 0 }, { name := "coder", type := .byte, accessFlags := 18, slot := 1, constantValue := 0 }, { name := "hash", type := .int, accessFlags := 2, slot := 2, constantValue := 0 }, { name := "hashIsZero", type := .boolean, accessFlags := 2, slot := 3, constantValue := 0 }, { name := "serialVersionUID", type := .long, accessFlags := 26, slot := 0, constantValue := 0 }, { name := "COMPACT_STRINGS", type := .boolean, accessFlags := 24, slot := 1, constantValue := 0 }, { name := "serialPersistentFields", type := (.array (.object "java/io/ObjectStreamField")), accessFlags := 26, slot := 2, constantValue := 0 }, { name := "REPL", type := .char, accessFlags := 26, slot := 3, constantValue := 0 }, { name := "CASE_INSENSITIVE_ORDER", type := (.object "java/util/Comparator"), accessFlags := 25, slot := 4, constantValue := 0 }, { name := "LATIN1", type := .byte, accessFlags := 24, slot := 5, constantValue := 0 }, { name := "UTF16", type := .byte, accessFlags := 24, slot := 6, constantValue := 0 }]
  methods := #[k10m0, k10m1]
  instanceTypes := #[(.array .byte), .byte, .int, .boolean]
  staticTypes := #[.long, .boolean, (.array (.object "java/io/ObjectStreamField")), .char, (.object "java/util/Comparator"), .byte, .byte]
  resolved := Array.replicate 1451 none
  statics := some 1 }

def pool11 : Array CpInfo := pool [(4, .class_ 6), (1, u "java/lang/Object"), (0, u "<init>"), (0, u "()V"), (5, .class_ 16), (1, u "java/lang/StringLatin1"), (104, u "$assertionsDisabled"), (0, u "Z"), (98, .class_ 223), (1, u "java/lang/StringLatin1$LinesSpliterator"), (57, u "equals"), (0, u "([B[B)Z"), (107, .class_ 391), (0, u "java/lang/StringLatin1$CharsSpliterator")] 3

def k11m0 : Method := { name := "<init>", desc := "()V", sig := { parameters := [], returnType := none }, accessFlags := 0, code := none }
def k11c1 : Code := { maxStack := 3, maxLocals := 3, code := jdk_43_method_13_code, exceptionTable := #[], attributes := #[] }
def k11m1 : Method := { name := "equals", desc := "([B[B)Z", sig := { parameters := [(.array .byte), (.array .byte)], returnType := some .boolean }, accessFlags := 9, code := some k11c1 }
/-- java/lang/StringLatin1 -/
def k11 : Class := { plain "java/lang/StringLatin1" (some 0) with
  accessFlags := 48
  interfaces := #[]
  cf := some (fileOf pool11 14 #[.nestMembers #[390, 221]] #[{ accessFlags := 0, nameIndex := 7, descriptorIndex := 8, attributes := #[] }, { accessFlags := 9, nameIndex := 281, descriptorIndex := 282, attributes := #[] }] 48 4 #[] #[{ accessFlags := 4120, nameIndex := 121, descriptorIndex := 122, attributes := #[] }])
  fields := #[{ name := "$assertionsDisabled", type := .boolean, accessFlags := 4120, slot := 0, constantValue := 0 }]
  methods := #[k11m0, k11m1]
  instanceTypes := #[]
  staticTypes := #[.boolean]
  resolved := Array.replicate 395 none
  statics := none }

def pool12 : Array CpInfo := pool [(2, .class_ 4), (1, u "java/lang/Object"), (0, u "<init>"), (0, u "()V"), (17, .class_ 26), (1, u "jdk/internal/util/Preconditions"), (28, .class_ 56), (0, u "jdk/internal/util/Preconditions$4"), (57, .class_ 115), (0, u "jdk/internal/util/Preconditions$1"), (7, u "SIOOBE_FORMATTER"), (0, u "Ljava/util/function/BiFunction;"), (0, .class_ 126), (0, u "jdk/internal/util/Preconditions$2"), (3, u "AIOOBE_FORMATTER"), (0, .class_ 132), (0, u "jdk/internal/util/Preconditions$3"), (3, u "IOOBE_FORMATTER")] 57

def k12m0 : Method := { name := "<init>", desc := "()V", sig := { parameters := [], returnType := none }, accessFlags := 1, code := none }
/-- jdk/internal/util/Preconditions -/
def k12 : Class := { plain "jdk/internal/util/Preconditions" (some 0) with
  accessFlags := 33
  interfaces := #[]
  cf := some (fileOf pool12 24 #[.nestMembers #[55, 131, 125, 114]] #[{ accessFlags := 1, nameIndex := 5, descriptorIndex := 6, attributes := #[] }] 33 2 #[] #[{ accessFlags := 25, nameIndex := 123, descriptorIndex := 124, attributes := #[] }, { accessFlags := 25, nameIndex := 130, descriptorIndex := 124, attributes := #[] }, { accessFlags := 25, nameIndex := 136, descriptorIndex := 124, attributes := #[] }])
  fields := #[{ name := "SIOOBE_FORMATTER", type := (.object "java/util/function/BiFunction"), accessFlags := 25, slot := 0, constantValue := 0 }, { name := "AIOOBE_FORMATTER", type := (.object "java/util/function/BiFunction"), accessFlags := 25, slot := 1, constantValue := 0 }, { name := "IOOBE_FORMATTER", type := (.object "java/util/function/BiFunction"), accessFlags := 25, slot := 2, constantValue := 0 }]
  methods := #[k12m0]
  instanceTypes := #[]
  staticTypes := #[(.object "java/util/function/BiFunction"), (.object "java/util/function/BiFunction"), (.object "java/util/function/BiFunction")]
  resolved := Array.replicate 194 none
  statics := some 2 }

def pool13 : Array CpInfo := pool [(9, u "<init>"), (6, .class_ 18), (1, u "java/lang/Object"), (0, u "()V"), (1, .class_ 23), (1, u "jdk/internal/util/ArraysSupport"), (0, u "LOG2_ARRAY_LONG_INDEX_SCALE"), (0, u "I"), (2, u "U"), (0, u "Ljdk/internal/misc/Unsafe;"), (8, u "BIG_ENDIAN"), (0, u "Z"), (8, u "LOG2_BYTE_BIT_SIZE"), (4, u "LOG2_ARRAY_INT_INDEX_SCALE"), (54, u "JLA"), (0, u "Ljdk/internal/access/JavaLangAccess;"), (11, u "LOG2_ARRAY_BOOLEAN_INDEX_SCALE"), (9, u "LOG2_ARRAY_BYTE_INDEX_SCALE"), (5, u "LOG2_ARRAY_CHAR_INDEX_SCALE"), (5, u "LOG2_ARRAY_SHORT_INDEX_SCALE"), (18, u "LOG2_ARRAY_FLOAT_INDEX_SCALE"), (24, u "LOG2_ARRAY_DOUBLE_INDEX_SCALE"), (89, u "T_BOOLEAN"), (2, u "T_CHAR"), (1, u "T_FLOAT"), (1, u "T_DOUBLE"), (1, u "T_BYTE"), (1, u "T_SHORT"), (1, u "T_INT"), (1, u "T_LONG"), (1, u "SOFT_MAX_ARRAY_LENGTH")] 83

def k13m0 : Method := { name := "<init>", desc := "()V", sig := { parameters := [], returnType := none }, accessFlags := 2, code := none }
/-- jdk/internal/util/ArraysSupport -/
def k13 : Class := { plain "jdk/internal/util/ArraysSupport" (some 0) with
  accessFlags := 33
  interfaces := #[]
  cf := some (fileOf pool13 21 #[] #[{ accessFlags := 2, nameIndex := 9, descriptorIndex := 19, attributes := #[] }] 33 16 #[] #[{ accessFlags := 24, nameIndex := 28, descriptorIndex := 29, attributes := #[] }, { accessFlags := 26, nameIndex := 38, descriptorIndex := 39, attributes := #[] }, { accessFlags := 25, nameIndex := 121, descriptorIndex := 25, attributes := #[] }, { accessFlags := 25, nameIndex := 131, descriptorIndex := 25, attributes := #[] }, { accessFlags := 25, nameIndex := 137, descriptorIndex := 25, attributes := #[] }, { accessFlags := 25, nameIndex := 143, descriptorIndex := 25, attributes := #[] }, { accessFlags := 25, nameIndex := 53, descriptorIndex := 25, attributes := #[] }, { accessFlags := 25, nameIndex := 24, descriptorIndex := 25, attributes := #[] }, { accessFlags := 25, nameIndex := 162, descriptorIndex := 25, attributes := #[] }, { accessFlags := 25, nameIndex := 187, descriptorIndex := 25, attributes := #[] }, { accessFlags := 26, nameIndex := 48, descriptorIndex := 25, attributes := #[] }, { accessFlags := 25, nameIndex := 277, descriptorIndex := 25, attributes := #[] }, { accessFlags := 25, nameIndex := 280, descriptorIndex := 25, attributes := #[] }, { accessFlags := 25, nameIndex := 282, descriptorIndex := 25, attributes := #[] }, { accessFlags := 25, nameIndex := 284, descriptorIndex := 25, attributes := #[] }, { accessFlags := 25, nameIndex := 286, descriptorIndex := 25, attributes := #[] }, { accessFlags := 25, nameIndex := 288, descriptorIndex := 25, attributes := #[] }, { accessFlags := 25, nameIndex := 290, descriptorIndex := 25, attributes := #[] }, { accessFlags := 25, nameIndex := 292, descriptorIndex := 25, attributes := #[] }, { accessFlags := 26, nameIndex := 108, descriptorIndex := 109, attributes := #[] }, { accessFlags := 25, nameIndex := 294, descriptorIndex := 25, attributes := #[] }])
  fields := #[{ name := "U", type := (.object "jdk/internal/misc/Unsafe"), accessFlags := 24, slot := 0, constantValue := 0 }, { name := "BIG_ENDIAN", type := .boolean, accessFlags := 26, slot := 1, constantValue := 0 }, { name := "LOG2_ARRAY_BOOLEAN_INDEX_SCALE", type := .int, accessFlags := 25, slot := 2, constantValue := 0 }, { name := "LOG2_ARRAY_BYTE_INDEX_SCALE", type := .int, accessFlags := 25, slot := 3, constantValue := 0 }, { name := "LOG2_ARRAY_CHAR_INDEX_SCALE", type := .int, accessFlags := 25, slot := 4, constantValue := 0 }, { name := "LOG2_ARRAY_SHORT_INDEX_SCALE", type := .int, accessFlags := 25, slot := 5, constantValue := 0 }, { name := "LOG2_ARRAY_INT_INDEX_SCALE", type := .int, accessFlags := 25, slot := 6, constantValue := 0 }, { name := "LOG2_ARRAY_LONG_INDEX_SCALE", type := .int, accessFlags := 25, slot := 7, constantValue := 0 }, { name := "LOG2_ARRAY_FLOAT_INDEX_SCALE", type := .int, accessFlags := 25, slot := 8, constantValue := 0 }, { name := "LOG2_ARRAY_DOUBLE_INDEX_SCALE", type := .int, accessFlags := 25, slot := 9, constantValue := 0 }, { name := "LOG2_BYTE_BIT_SIZE", type := .int, accessFlags := 26, slot := 10, constantValue := 0 }, { name := "T_BOOLEAN", type := .int, accessFlags := 25, slot := 11, constantValue := 0 }, { name := "T_CHAR", type := .int, accessFlags := 25, slot := 12, constantValue := 0 }, { name := "T_FLOAT", type := .int, accessFlags := 25, slot := 13, constantValue := 0 }, { name := "T_DOUBLE", type := .int, accessFlags := 25, slot := 14, constantValue := 0 }, { name := "T_BYTE", type := .int, accessFlags := 25, slot := 15, constantValue := 0 }, { name := "T_SHORT", type := .int, accessFlags := 25, slot := 16, constantValue := 0 }, { name := "T_INT", type := .int, accessFlags := 25, slot := 17, constantValue := 0 }, { name := "T_LONG", type := .int, accessFlags := 25, slot := 18, constantValue := 0 }, { name := "JLA", type := (.object "jdk/internal/access/JavaLangAccess"), accessFlags := 26, slot := 19, constantValue := 0 }, { name := "SOFT_MAX_ARRAY_LENGTH", type := .int, accessFlags := 25, slot := 20, constantValue := 0 }]
  methods := #[k13m0]
  instanceTypes := #[]
  staticTypes := #[(.object "jdk/internal/misc/Unsafe"), .boolean, .int, .int, .int, .int, .int, .int, .int, .int, .int, .int, .int, .int, .int, .int, .int, .int, .int, (.object "jdk/internal/access/JavaLangAccess"), .int]
  resolved := Array.replicate 378 none
  statics := none }

def pool14 : Array CpInfo := pool [(1, u "java/lang/Cloneable"), (0, .class_ 1), (0, u "java/lang/Object"), (0, .class_ 3)] 3

/-- java/lang/Cloneable -/
def k14 : Class := { plain "java/lang/Cloneable" (some 0) with
  accessFlags := 1537
  interfaces := #[]
  cf := some (fileOf pool14 2 #[] #[] 1537 4 #[] #[])
  fields := #[]
  methods := #[]
  instanceTypes := #[]
  staticTypes := #[]
  resolved := Array.replicate 8 none
  statics := none }

/-- the primitive byte -/
def k15 : Class := { plain "byte" none with kind := .primitive 'B', accessFlags := 0x411 }
/-- [B -/
def k16 : Class := { plain "[B" (some 0) with kind := .array 15 .byte, interfaces := #[14, 4], accessFlags := 1041 }

/-- the primitive int -/
def k17 : Class := { plain "int" none with kind := .primitive 'I', accessFlags := 0x411 }
/-- [I -/
def k18 : Class := { plain "[I" (some 0) with kind := .array 17 .int, interfaces := #[14, 4], accessFlags := 1041 }

def heap : Heap := #[{ cls := 7, slots := #[.ref 9, .ref 10, .ref 11, .null], vm := .statics 7 },
  { cls := 10, slots := #[.long 0, .int 1, .null, .int 0, .null, .int 0, .int 0], vm := .statics 10 },
  { cls := 12, slots := #[.null, .null, .null], vm := .statics 12 },
  { cls := 16, slots := #[.int 105, .int 110, .int 99, .int 108, .int 117, .int 100, .int 101, .int 100], vm := .none },
  { cls := 16, slots := #[.int 101, .int 120, .int 99, .int 108, .int 117, .int 100, .int 101, .int 100], vm := .none },
  { cls := 16, slots := #[.int 105, .int 115, .int 115, .int 117, .int 101, .int 114, .int 45, .int 101, .int 108, .int 101, .int 99, .int 116, .int 115], vm := .none },
  { cls := 10, slots := #[.ref 3, .int 0, .int 0, .int 0], vm := .none },
  { cls := 10, slots := #[.ref 4, .int 0, .int 0, .int 0], vm := .none },
  { cls := 10, slots := #[.ref 5, .int 0, .int 0, .int 0], vm := .none },
  { cls := 7, slots := #[.null, .int 0, .int 0, .ref 6], vm := .none },
  { cls := 7, slots := #[.null, .int 1, .int 0, .ref 7], vm := .none },
  { cls := 7, slots := #[.null, .int 2, .int 0, .ref 8], vm := .none }]
def classes : Array Class := #[k0, k1, k2, k3, k4, k5, k6, k7, k8, k9, k10, k11, k12, k13, k14, k15, k16, k17, k18]
def interned : List (Array UInt16 × Addr) := []
def slotsUsed : Nat := 67
def theMethod : MethodId := ⟨1, 2⟩
def args0 : Array Value := #[.int 5, .int 7]
def aboutOver (below : List Frame) : State where
  vm := { classes := classes, interned := interned.toArray }
  heap := heap
  slotsUsed := slotsUsed
  threads := #[{ frames := .invoking theMethod args0 :: below }]
def below0 : List Frame := [.native { method := ⟨0, 0⟩, args := #[] }]
def about1 : State := aboutOver below0
def p0 : Program := .bare "" "" ""
def e0 : Env := launch0.env 0 0 0
theorem w_frames : about1.frames = Frame.invoking theMethod args0 :: below0 := rfl
set_option maxRecDepth 65536 in
theorem w_args : argsFit about1.vm theMethod args0 = true := by decide +kernel
set_option maxRecDepth 65536 in
theorem w_heap : heapFits about1 = true := by decide +kernel
set_option maxRecDepth 65536 in
theorem w_runnable : about1.curStatus? = some .runnable := by decide +kernel
set_option maxRecDepth 65536 in
theorem w_alone : about1.alone = true := by decide +kernel
set_option maxRecDepth 65536 in
theorem w_named : about1.methodNamed? x = some theMethod := by decide +kernel
set_option maxRecDepth 65536 in
theorem w_hears : about1.hears theMethod below0 = true := by decide +kernel
set_option maxRecDepth 65536 in
theorem w_ripe : about1.ripe theMethod args0 below0 = true := by decide +kernel
theorem w_running : about1.status = .running := rfl
set_option maxRecDepth 65536 in
theorem w_room : about1.hasRoom e0.platform room_1 = true :=
  launch0.hasRoom_least _ room_1 (by decide +kernel) (by decide +kernel) (by decide +kernel) (by decide +kernel) (by decide +kernel) (by decide +kernel)
theorem allAtoms_all (ts : List Jvm.Cond) (a : Array Jvm.Value) (st : Jvm.State) : (allAtoms ts).before a st = ts.all (fun c => c.before a st) := by
  induction ts with
  | nil => rfl
  | cons c t ih =>
    show (Jvm.Cond.and c (allAtoms t)).before a st = _
    rw [Jvm.Cond.before_and, ih, List.all_cons]
def words1 : List Jvm.Cond := Jvm.Cond.code x code maxLocals ret :: tables_1
/-- a 'code' word, met by the world's own term for the bytes: nothing is compared byte by byte -/
theorem code_word {y : MethodName} {bytes : ByteArray} {mx : Nat} {rt : Option FieldType} {a : Array Value} {s : State} {m : MethodId} {meth : Method} {c : Code} (h1 : s.methodNamed? y = some m) (h2 : s.vm.method? m = some meth) (h3 : meth.code = some c) (h4 : c.code = bytes)
    (h5 : (c.maxLocals == mx && c.exceptionTable.isEmpty && decide (c.maxStack ≤ mostOperands) && decide (meth.sig.returnType = rt) && !meth.locks && decide (parseMethodDescriptor y.desc = some meth.sig)) = true) : (Jvm.Cond.code y bytes mx rt).before a s = true := by
  simp only [Bool.and_eq_true, beq_iff_eq, Bool.not_eq_true', decide_eq_true_eq] at h5
  obtain ⟨⟨⟨⟨⟨g1, g2⟩, g3⟩, g4⟩, g5⟩, g6⟩ := h5
  simp [Cond.before, Cond.holds, Cond.value, h1, h2, h3, h4, g1, g2, g3, g4, g5, g6]
def isCode : Jvm.Cond → Bool
  | .code _ _ _ _ => true
  | _ => false
theorem all_split {L : List Jvm.Cond} {P : Jvm.Cond → Bool} (h1 : L.all (fun c => isCode c || P c) = true) (h2 : ∀ c ∈ L.filter isCode, P c = true) : L.all P = true := by
  refine List.all_eq_true.mpr fun c hc => ?_
  have h := List.all_eq_true.mp h1 c hc
  rcases Bool.eq_false_or_eq_true (isCode c) with hi | hi
  · exact h2 c (List.mem_filter.mpr ⟨hc, hi⟩)
  · simpa [hi] using h
set_option maxRecDepth 65536 in
theorem w_c0 : (Jvm.Cond.code x code maxLocals ret).before args0 about1 = true := code_word (m := ⟨1, 2⟩) (meth := k1m2) (c := k1c2) (by decide +kernel) rfl rfl rfl (by decide +kernel)
set_option maxRecDepth 65536 in
theorem w_c1 : (Jvm.Cond.code ({ cls := "com/example/notesmith/notesmith/note/ConvertedInterestConvertsPinLaw", name := "pick", desc := "(I)Lcom/example/notesmith/notesmith/note/ConvertedInterest;" } : Jvm.MethodName) method_2_code (2 : Nat) (Option.some (Jvm.ClassFile.FieldType.object "com/example/notesmith/notesmith/note/ConvertedInterest"))).before args0 about1 = true := code_word (m := ⟨1, 1⟩) (meth := k1m1) (c := k1c1) (by decide +kernel) rfl rfl rfl (by decide +kernel)
set_option maxRecDepth 65536 in
theorem w_c2 : (Jvm.Cond.code ({ cls := "com/example/notesmith/notesmith/note/ConvertedInterest", name := "converts", desc := "(Z)Z" } : Jvm.MethodName) prog_58_method_5_code (2 : Nat) (Option.some Jvm.ClassFile.FieldType.boolean)).before args0 about1 = true := code_word (m := ⟨7, 1⟩) (meth := k7m1) (c := k7c1) (by decide +kernel) rfl rfl rfl (by decide +kernel)
set_option maxRecDepth 65536 in
theorem w_c3 : (Jvm.Cond.code ({ cls := "java/lang/Enum", name := "ordinal", desc := "()I" } : Jvm.MethodName) jdk_37_method_2_code (1 : Nat) (Option.some Jvm.ClassFile.FieldType.int)).before args0 about1 = true := code_word (m := ⟨5, 0⟩) (meth := k5m0) (c := k5c0) (by decide +kernel) rfl rfl rfl (by decide +kernel)
set_option maxRecDepth 65536 in
theorem w_c4 : (Jvm.Cond.code ({ cls := "com/example/notesmith/notesmith/note/ConvertedInterest", name := "label", desc := "()Ljava/lang/String;" } : Jvm.MethodName) prog_58_method_4_code (1 : Nat) (Option.some (Jvm.ClassFile.FieldType.object "java/lang/String"))).before args0 about1 = true := code_word (m := ⟨7, 0⟩) (meth := k7m0) (c := k7c0) (by decide +kernel) rfl rfl rfl (by decide +kernel)
set_option maxRecDepth 65536 in
theorem w_c5 : (Jvm.Cond.code ({ cls := "java/lang/String", name := "equals", desc := "(Ljava/lang/Object;)Z" } : Jvm.MethodName) jdk_42_method_66_code (3 : Nat) (Option.some Jvm.ClassFile.FieldType.boolean)).before args0 about1 = true := code_word (m := ⟨10, 1⟩) (meth := k10m1) (c := k10c1) (by decide +kernel) rfl rfl rfl (by decide +kernel)
set_option maxRecDepth 65536 in
theorem w_c6 : (Jvm.Cond.code ({ cls := "java/lang/StringLatin1", name := "equals", desc := "([B[B)Z" } : Jvm.MethodName) jdk_43_method_13_code (3 : Nat) (Option.some Jvm.ClassFile.FieldType.boolean)).before args0 about1 = true := code_word (m := ⟨11, 1⟩) (meth := k11m1) (c := k11c1) (by decide +kernel) rfl rfl rfl (by decide +kernel)
def codes1 : List Jvm.Cond := [Jvm.Cond.code x code maxLocals ret, Jvm.Cond.code ({ cls := "com/example/notesmith/notesmith/note/ConvertedInterestConvertsPinLaw", name := "pick", desc := "(I)Lcom/example/notesmith/notesmith/note/ConvertedInterest;" } : Jvm.MethodName) method_2_code (2 : Nat) (Option.some (Jvm.ClassFile.FieldType.object "com/example/notesmith/notesmith/note/ConvertedInterest")), Jvm.Cond.code ({ cls := "com/example/notesmith/notesmith/note/ConvertedInterest", name := "converts", desc := "(Z)Z" } : Jvm.MethodName) prog_58_method_5_code (2 : Nat) (Option.some Jvm.ClassFile.FieldType.boolean), Jvm.Cond.code ({ cls := "java/lang/Enum", name := "ordinal", desc := "()I" } : Jvm.MethodName) jdk_37_method_2_code (1 : Nat) (Option.some Jvm.ClassFile.FieldType.int), Jvm.Cond.code ({ cls := "com/example/notesmith/notesmith/note/ConvertedInterest", name := "label", desc := "()Ljava/lang/String;" } : Jvm.MethodName) prog_58_method_4_code (1 : Nat) (Option.some (Jvm.ClassFile.FieldType.object "java/lang/String")), Jvm.Cond.code ({ cls := "java/lang/String", name := "equals", desc := "(Ljava/lang/Object;)Z" } : Jvm.MethodName) jdk_42_method_66_code (3 : Nat) (Option.some Jvm.ClassFile.FieldType.boolean), Jvm.Cond.code ({ cls := "java/lang/StringLatin1", name := "equals", desc := "([B[B)Z" } : Jvm.MethodName) jdk_43_method_13_code (3 : Nat) (Option.some Jvm.ClassFile.FieldType.boolean)]
set_option maxRecDepth 65536 in
theorem codes_eq : words1.filter isCode = codes1 := rfl
theorem w_codes : ∀ c ∈ words1.filter isCode, c.before args0 about1 = true := by
  rw [codes_eq]
  intro c hc
  simp only [codes1, List.mem_cons, List.not_mem_nil, or_false] at hc
  rcases hc with rfl | rfl | rfl | rfl | rfl | rfl | rfl
  · exact w_c0
  · exact w_c1
  · exact w_c2
  · exact w_c3
  · exact w_c4
  · exact w_c5
  · exact w_c6
set_option maxRecDepth 65536 in
theorem w_t1 : (words1.take 24).all (fun c => isCode c || c.before args0 about1) = true := by decide +kernel
set_option maxRecDepth 65536 in
theorem w_t2 : ((words1.drop 24).take 24).all (fun c => isCode c || c.before args0 about1) = true := by decide +kernel
set_option maxRecDepth 65536 in
theorem w_t3 : ((words1.drop 24).drop 24).all (fun c => isCode c || c.before args0 about1) = true := by decide +kernel
theorem w_tables : (allAtoms (Jvm.Cond.code x code maxLocals ret :: tables_1)).before args0 about1 = true := by
  rw [allAtoms_all]
  show words1.all (fun c => c.before args0 about1) = true
  refine all_split ?_ w_codes
  rw [← List.take_append_drop 24 words1, List.all_append, w_t1, ← List.take_append_drop 24 (words1.drop 24), List.all_append, w_t2, w_t3]
  rfl
set_option maxRecDepth 65536 in
theorem w_rest : rest_1_c.before args0 about1 = true := by decide +kernel
set_option maxRecDepth 65536 in
theorem w_case : (Jvm.Cond.and given_1 narrow_1).before args0 about1 = true := by decide +kernel
set_option maxRecDepth 65536 in
theorem w_consts : constsHeld consts_1 about1 := Jvm.Lit.constsHeldB_iff.mp (by decide +kernel)
theorem w_applies : (headSpec (Jvm.Cond.code x code maxLocals ret :: tables_1) room_1).applies x e0.platform about1 = true :=
  (Spec.applies_iff w_frames).mpr ⟨w_running, w_runnable, w_alone, w_named, w_hears, w_ripe, w_room, w_tables⟩
theorem atStart : AtStart classFile x code maxLocals ret World_1 tables_1 room_1 Calls_1 rest_1 Pre_1 launch0 p0 e0 about1 theMethod args0 below0 :=
  ⟨lists_1, trivial, launch0.admits_env _ _ _, launch0.least_env, fairChoices_fair.cas, fairChoices_fair.clock, w_frames, w_args, w_heap, w_applies, ⟨w_consts, trivial⟩, w_rest, w_case⟩
end start1
theorem witness_1 : WitnessClaimed_1 := ⟨start1.p0, start1.e0, start1.about1, start1.theMethod, start1.args0, start1.below0, start1.atStart⟩
end Jvm.Pilot.@@N@@
