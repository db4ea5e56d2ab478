import JvmDerived
import JvmDerived.Pilot.@@N@@Statement
import JvmDerived.Pilot.@@N@@Code
set_option linter.unusedVariables false
set_option linter.unusedSimpArgs false
namespace Jvm.RoadKit
open Sem ClassFile Op Lib Jvm.Stand Jvm.Free Jvm.LawKit
section New
variable {p : Program} {l : Launch} {e : Env} {R : Room} {s : State} {m : MethodId} {args : Array Value} {below : List Frame} {meth : Method} {c : Code} {T : State} {locs : List Loc} {cells slots : Nat}
theorem retI (X : Stand p l e R s m args below meth c T locs cells slots) (hx : p.tables.exec = Jvm.exec) {pc : Nat} {Ls : Array Slot} {z : Int32} {rest : List Value} (hret : meth.sig.returnType = some .int) (hd : decode c.code pc = .ok (.ireturn, 1)) {fs : List Frame}
    (hl : ∀ (f : JFrame) (acts : List Action), f.method = m → f.locked = none → f.entered = [] → (doReturn e (T.setTop f) acts (some (.int z))).1 = T.setFrames fs) : Steps p.tables e below (T.setTop (mkF m pc Ls (.int z :: rest))) (T.setFrames fs) := by
  have hm' : T.vm.method? m = some meth := X.method'
  have hn : narrow .int (.int z) = .int z := rfl
  show Steps p.tables e below (T.setTop { method := m, pc := pc, locals := Ls, stack := _ :: rest, locked := none }) _
  jvm_step X.here [X.here.top, hx, hd, hm', hret, hn]
  first | (intro acts; rw [hl _ acts rfl rfl rfl]) | rw [hl _ _ rfl rfl rfl]
  exact Steps.refl _
end New
end Jvm.RoadKit
@@BLOCK:LamKit.lean.txt@@
/- laws to paste: Road.backV (cut by pick.py; bodies as the Statement names them) -/
namespace Jvm.Pilot.@@N@@
namespace StrChars
open Jvm Sem ClassFile Op Lib Jvm.Stand Jvm.Free.XT Jvm.Free.ALB Jvm.Free.JM Jvm.Free
open Jvm.Lib.Cold (StaticIs)
/-- a char array whose places are chars -/
def Ch (a : Addr) (A : Cell) (U : State) : Prop := Arr .char a A U ∧ Typed .char A
theorem Ch.mv {a : Addr} {A : Cell} {U U' : State} (h : Ch a A U) (hal : U.vm.Alike U'.vm) (hh : U'.heap = U.heap) : Ch a A U' := ⟨h.1.mv hal hh, h.2⟩
theorem Ch.keep {a : Addr} {A : Cell} {U U' : State} (h : Ch a A U) (hal : U.vm.Alike U'.vm) (hk : U'.heap[a]? = some A) : Ch a A U' := ⟨h.1.keep hal hk, h.2⟩
/-- what place i of a char[]'s cell holds -/
def cv (A : Cell) (i : Nat) : Int32 := match A.slots[i]? with | some (.int x) => x | _ => 0
theorem Ch.get {a : Addr} {A : Cell} {U : State} (h : Ch a A U) {i : Nat} (hi : i < A.slots.size) : A.slots[i]? = some (.int (cv A i)) := by
  have e := Array.getElem?_eq_getElem hi
  have f := h.2 i _ e
  unfold cv; rw [e]
  generalize A.slots[i] = v at f
  cases v <;> simp [fits] at f ⊢
/-- the byte that i2b leaves of a char -/
def lo8 (x : Int32) : Int32 := x.toInt8.toInt32
theorem fits_lo8 (y : Int32) : fits .byte (.int (lo8 y)) = true := by
  have h1 := y.toInt8.le_toInt
  have h2 := y.toInt8.toInt_lt
  simp only [lo8, fits, Bool.and_eq_true, decide_eq_true_eq, Int32.le_iff_toInt_le, Int8.toInt_toInt32, show (-128 : Int32).toInt = -128 from by decide, show (127 : Int32).toInt = 127 from by decide]
  omega
/-- A' is A but that each place j of lo .. hi - 1 holds f j -/
def Laid (A A' : Cell) (lo hi : Nat) (f : Nat → Value) : Prop := A'.cls = A.cls ∧ A'.vm = A.vm ∧ A'.slots.size = A.slots.size ∧ ∀ i, A'.slots[i]? = if lo ≤ i ∧ i < hi then some (f i) else A.slots[i]?
theorem Laid.zero (A : Cell) (lo : Nat) (f : Nat → Value) : Laid A A lo (lo + 0) f := ⟨rfl, rfl, rfl, fun i => by rw [if_neg (by omega)]⟩
theorem Laid.step {A Ak : Cell} {lo k : Nat} {f : Nat → Value} {v : Value} (h : Laid A Ak lo k f) (hlo : lo ≤ k) (hk : k < Ak.slots.size) (hv : v = f k) : Laid A (Ak.setSlot k v) lo (k + 1) f := by
  refine ⟨h.1, h.2.1, by simpa [Cell.setSlot] using h.2.2.1, fun i => ?_⟩
  by_cases e : k = i
  · subst e; rw [Cell.slots_setSlot_self v hk, if_pos (by omega), hv]
  · rw [Cell.slots_setSlot_ne v e, h.2.2.2 i]
    by_cases q : lo ≤ i ∧ i < k
    · rw [if_pos q, if_pos (by omega)]
    · rw [if_neg q, if_neg (by omega)]
def U16 : String := "java/lang/StringUTF16"
namespace Cmp5
def yN : MethodName := ⟨"java/lang/StringUTF16", "compress", "([CI[BII)I"⟩
abbrev yB : ByteArray := jdk_52_method_21_code
theorem d0 : decode yB 0 = .ok (.iconst 0, 1) := by decide +kernel
theorem d1 : decode yB 1 = .ok (.istore 5, 2) := by decide +kernel
theorem d3 : decode yB 3 = .ok (.iload 5, 2) := by decide +kernel
theorem d5 : decode yB 5 = .ok (.iload 4, 2) := by decide +kernel
theorem d7 : decode yB 7 = .ok (.if_icmp (.ge) 37, 3) := by decide +kernel
theorem d10 : decode yB 10 = .ok (.aload_n 0, 1) := by decide +kernel
theorem d11 : decode yB 11 = .ok (.iload_n 1, 1) := by decide +kernel
theorem d12 : decode yB 12 = .ok (.caload, 1) := by decide +kernel
theorem d13 : decode yB 13 = .ok (.istore 6, 2) := by decide +kernel
theorem d15 : decode yB 15 = .ok (.iload 6, 2) := by decide +kernel
theorem d17 : decode yB 17 = .ok (.sipush 255, 3) := by decide +kernel
theorem d20 : decode yB 20 = .ok (.if_icmp (.le) 6, 3) := by decide +kernel
theorem d26 : decode yB 26 = .ok (.aload_n 2, 1) := by decide +kernel
theorem d27 : decode yB 27 = .ok (.iload_n 3, 1) := by decide +kernel
theorem d28 : decode yB 28 = .ok (.iload 6, 2) := by decide +kernel
theorem d30 : decode yB 30 = .ok (.i2b, 1) := by decide +kernel
theorem d31 : decode yB 31 = .ok (.bastore, 1) := by decide +kernel
theorem d32 : decode yB 32 = .ok (.iinc 1 1, 3) := by decide +kernel
theorem d35 : decode yB 35 = .ok (.iinc 3 1, 3) := by decide +kernel
theorem d38 : decode yB 38 = .ok (.iinc 5 1, 3) := by decide +kernel
theorem d41 : decode yB 41 = .ok (.goto (-38), 3) := by decide +kernel
theorem d44 : decode yB 44 = .ok (.iload 4, 2) := by decide +kernel
theorem d46 : decode yB 46 = .ok (.ireturn, 1) := by decide +kernel
def site : List Cond := []
def tab : Cond := tabOf yN yB 7 (some .int) site
def P (b : Addr) (A : Cell) (d : Addr) (B : Cell) (o q len : Nat) (args : Array Value) (s : State) : Prop := args = #[.ref b, .int (Int32.ofNat o), .ref d, .int (Int32.ofNat q), .int (Int32.ofNat len)] ∧ Ch b A s ∧ Arr .byte d B s ∧ b ≠ d ∧ o + len ≤ A.slots.size ∧ q + len ≤ B.slots.size ∧ ∀ i, i < len → ¬ 255 < cv A (o + i)
def E (b : Addr) (A : Cell) (d : Addr) (B : Cell) (o q len : Nat) (r : Option Value) (s u : State) : Prop := r = some (.int (Int32.ofNat len)) ∧ ∃ B', Put d B' s u ∧ Laid B B' q (q + len) (fun j => Value.int (lo8 (cv A (o + (j - q)))))
/-- no char of the range above 255: len; the places written hold each char's low byte -/
theorem law (l : Launch) (b : Addr) (A : Cell) (d : Addr) (B : Cell) (o q len : Nat) : Law l yN 5 5 0 0 yB 7 (some .int) site (P b A d B o q len) (E b A d B o q len) (copyLocs d q len) 0 0 := by
  refine Law.of_walk (plainFor_of_name (by decide +kernel)) (by decide +kernel) (by decide +kernel) (by decide) (fun _ _ h => by rw [h.1]; rfl) (fun _ U U' hal hh h => ⟨h.1, h.2.1.mv hal hh, h.2.2.1.mv hal hh, h.2.2.2⟩) (fun r U U' V V' h1 hal h2 h => ⟨h.1, h.2.elim fun B' q => ⟨B', q.1.mv h1 h2, q.2⟩⟩) ?_
  intro p e s m args below meth c s₁ X0 hexec hbytes hml hret hlk hnm hown hh0 W hP
  obtain ⟨rfl, hA, hB, hne, l1, l2, hp⟩ := hP
  have c1 : Steps p.tables e below (s₁.setTop (entryFrame m #[.ref b, .int (Int32.ofNat o), .ref d, .int (Int32.ofNat q), .int (Int32.ofNat len)] 7)) (s₁.setTop (mkF m 0 #[.val (.ref b), .val (.int (Int32.ofNat o)), .val (.ref d), .val (.int (Int32.ofNat q)), .val (.int (Int32.ofNat len)), .unset, .unset] [])) := entry rfl
  have hA0 := hA.1.mv X0.warmed.alike hh0
  have hB0 := hB.mv X0.warmed.alike hh0
  have a31 := hA.1.2.2.2
  have c2 : Steps p.tables e below (s₁.setTop (entryFrame m #[.ref b, .int (Int32.ofNat o), .ref d, .int (Int32.ofNat q), .int (Int32.ofNat len)] 7)) (s₁.setTop (mkF m 3 #[.val (.ref b), .val (.int (Int32.ofNat o)), .val (.ref d), .val (.int (Int32.ofNat q)), .val (.int (Int32.ofNat len)), .val (.int 0), .unset] [])) := c1.trans (by
    refine iconstV X0.here hexec rfl 0 (hb hbytes d0) (by decide) ?_
    refine XS.istore X0.here hexec rfl (hb hbytes d1) rfl rfl ?_
    exact Steps.refl _)
  have loop : ∀ (r i : Nat), i + r = len → ∀ (z : Slot), (z = .unset ∨ ∃ w, z = .val w ∧ w.category = 1) → ∀ (Tl : State) (Bk : Cell), Stand p l e { frames := 0, locals := 0, cells := 0, slots := 0 } s m #[.ref b, .int (Int32.ofNat o), .ref d, .int (Int32.ofNat q), .int (Int32.ofNat len)] below meth c Tl ([] ++ copyLocs d q i) 0 0 → Put d Bk s₁ Tl → Laid B Bk q (q + i) (fun j => Value.int (lo8 (cv A (o + (j - q))))) →
      Steps p.tables e below (s₁.setTop (entryFrame m #[.ref b, .int (Int32.ofNat o), .ref d, .int (Int32.ofNat q), .int (Int32.ofNat len)] 7)) (Tl.setTop (mkF m 3 #[.val (.ref b), .val (.int (Int32.ofNat (o + i))), .val (.ref d), .val (.int (Int32.ofNat (q + i))), .val (.int (Int32.ofNat len)), .val (.int (Int32.ofNat i)), z] [])) → ∃ (T' : State) (B' : Cell) (z' : Slot), Stand p l e { frames := 0, locals := 0, cells := 0, slots := 0 } s m #[.ref b, .int (Int32.ofNat o), .ref d, .int (Int32.ofNat q), .int (Int32.ofNat len)] below meth c T' ([] ++ copyLocs d q len) 0 0 ∧ Put d B' s₁ T' ∧ Laid B B' q (q + len) (fun j => Value.int (lo8 (cv A (o + (j - q))))) ∧
      Steps p.tables e below (s₁.setTop (entryFrame m #[.ref b, .int (Int32.ofNat o), .ref d, .int (Int32.ofNat q), .int (Int32.ofNat len)] 7)) (T'.setTop (mkF m 3 #[.val (.ref b), .val (.int (Int32.ofNat (o + len))), .val (.ref d), .val (.int (Int32.ofNat (q + len))), .val (.int (Int32.ofNat len)), .val (.int (Int32.ofNat len)), z'] [])) := by
    intro r
    induction r with
    | zero =>
      intro i hi z hz Tl Bk Xl pl fl cl
      have hil : i = len := by omega
      rw [hil] at Xl fl cl
      exact ⟨Tl, Bk, z, Xl, pl, fl, cl⟩
    | succ r ih =>
      intro i hi z hz Tl Bk Xl pl fl cl
      have all := X0.warmed.alike.symm.trans Xl.warmed.alike
      have hAl := hA0.keep all (pl.other hne hA0.1)
      have hBk := hB0.like all pl.1 fl.1 fl.2.1 fl.2.2.1
      have hlt : q + i < Bk.slots.size := by rw [fl.2.2.1]; omega
      have c3 : Steps p.tables e below (s₁.setTop (entryFrame m #[.ref b, .int (Int32.ofNat o), .ref d, .int (Int32.ofNat q), .int (Int32.ofNat len)] 7)) (Tl.setTop (mkF m 12 #[.val (.ref b), .val (.int (Int32.ofNat (o + i))), .val (.ref d), .val (.int (Int32.ofNat (q + i))), .val (.int (Int32.ofNat len)), .val (.int (Int32.ofNat i)), z] [.int (Int32.ofNat (o + i)), .ref b])) := cl.trans (by
        refine XS.iload Xl.here hexec rfl (hb hbytes d3) rfl ?_
        refine XS.iload Xl.here hexec rfl (hb hbytes d5) rfl ?_
        refine XS.icmpNo Xl.here hexec rfl (hb hbytes d7) rfl (ii_ge_f (lt32 (by omega) (by omega))) ?_
        refine XS.aloadN Xl.here hexec rfl (hb hbytes d10) rfl rfl ?_
        refine XS.iloadN Xl.here hexec rfl (hb hbytes d11) rfl ?_
        exact Steps.refl _)
      have c4 : Steps p.tables e below (s₁.setTop (entryFrame m #[.ref b, .int (Int32.ofNat o), .ref d, .int (Int32.ofNat q), .int (Int32.ofNat len)] 7)) (Tl.setTop (mkF m 13 #[.val (.ref b), .val (.int (Int32.ofNat (o + i))), .val (.ref d), .val (.int (Int32.ofNat (q + i))), .val (.int (Int32.ofNat len)), .val (.int (Int32.ofNat i)), z] [.int (cv A (o + i))])) := c3.trans (by
        refine Xl.aget hexec hAl rfl (hA.get (i := o + i) (by omega)) rfl rfl (hb hbytes d12) ?_
        exact Steps.refl _)
      have c5 : Steps p.tables e below (s₁.setTop (entryFrame m #[.ref b, .int (Int32.ofNat o), .ref d, .int (Int32.ofNat q), .int (Int32.ofNat len)] 7)) (Tl.setTop (mkF m 15 #[.val (.ref b), .val (.int (Int32.ofNat (o + i))), .val (.ref d), .val (.int (Int32.ofNat (q + i))), .val (.int (Int32.ofNat len)), .val (.int (Int32.ofNat i)), .val (.int (cv A (o + i)))] [])) := c4.trans (by
        refine XS.istoreS Xl.here hexec rfl (hb hbytes d13) rfl rfl hz ?_
        exact Steps.refl _)
      have c6 : Steps p.tables e below (s₁.setTop (entryFrame m #[.ref b, .int (Int32.ofNat o), .ref d, .int (Int32.ofNat q), .int (Int32.ofNat len)] 7)) (Tl.setTop (mkF m 31 #[.val (.ref b), .val (.int (Int32.ofNat (o + i))), .val (.ref d), .val (.int (Int32.ofNat (q + i))), .val (.int (Int32.ofNat len)), .val (.int (Int32.ofNat i)), .val (.int (cv A (o + i)))] [.int (lo8 (cv A (o + i))), .int (Int32.ofNat (q + i)), .ref d])) := c5.trans (by
        refine XS.iload Xl.here hexec rfl (hb hbytes d15) rfl ?_
        refine sipushV Xl.here hexec rfl 255 (hb hbytes d17) (by decide) ?_
        refine XS.icmpYes Xl.here hexec rfl (pc0 := 20) rfl (hb hbytes d20) rfl (ii_le_t (hp i (by omega))) (by decide) rfl ?_
        refine XS.aloadN Xl.here hexec rfl (hb hbytes d26) rfl rfl ?_
        refine XS.iloadN Xl.here hexec rfl (hb hbytes d27) rfl ?_
        refine XS.iload Xl.here hexec rfl (hb hbytes d28) rfl ?_
        refine i2b Xl.here hexec rfl (hb hbytes d30) rfl ?_
        exact Steps.refl _)
      obtain ⟨T7, X7, p7, st7⟩ := Xl.aput hexec hBk rfl hlt rfl (fits_lo8 (cv A (o + i))) (g := (mkF m 31 #[.val (.ref b), .val (.int (Int32.ofNat (o + i))), .val (.ref d), .val (.int (Int32.ofNat (q + i))), .val (.int (Int32.ofNat len)), .val (.int (Int32.ofNat i)), .val (.int (cv A (o + i)))] [.int (lo8 (cv A (o + i))), .int (Int32.ofNat (q + i)), .ref d])) rfl (rest := []) rfl (hb hbytes d31)
      have c8 : Steps p.tables e below (s₁.setTop (entryFrame m #[.ref b, .int (Int32.ofNat o), .ref d, .int (Int32.ofNat q), .int (Int32.ofNat len)] 7)) (T7.setTop (mkF m 32 #[.val (.ref b), .val (.int (Int32.ofNat (o + i))), .val (.ref d), .val (.int (Int32.ofNat (q + i))), .val (.int (Int32.ofNat len)), .val (.int (Int32.ofNat i)), .val (.int (cv A (o + i)))] [])) := c6.trans (st7 _ (Steps.refl _))
      have c9 : Steps p.tables e below (s₁.setTop (entryFrame m #[.ref b, .int (Int32.ofNat o), .ref d, .int (Int32.ofNat q), .int (Int32.ofNat len)] 7)) (T7.setTop (mkF m 3 #[.val (.ref b), .val (.int (Int32.ofNat (o + i) + 1)), .val (.ref d), .val (.int (Int32.ofNat (q + i) + 1)), .val (.int (Int32.ofNat len)), .val (.int (Int32.ofNat i + 1)), .val (.int (cv A (o + i)))] [])) := c8.trans (by
        refine iincV X7.here hexec rfl 1 (hb hbytes d32) (by decide) rfl rfl ?_
        refine iincV X7.here hexec rfl 1 (hb hbytes d35) (by decide) rfl rfl ?_
        refine iincV X7.here hexec rfl 1 (hb hbytes d38) (by decide) rfl rfl ?_
        refine XS.goto X7.here hexec rfl (pc0 := 41) rfl (hb hbytes d41) (by decide) rfl ?_
        exact Steps.refl _)
      have c10 : Steps p.tables e below (s₁.setTop (entryFrame m #[.ref b, .int (Int32.ofNat o), .ref d, .int (Int32.ofNat q), .int (Int32.ofNat len)] 7)) (T7.setTop (mkF m 3 #[.val (.ref b), .val (.int (Int32.ofNat (o + (i + 1)))), .val (.ref d), .val (.int (Int32.ofNat (q + (i + 1)))), .val (.int (Int32.ofNat len)), .val (.int (Int32.ofNat (i + 1))), .val (.int (cv A (o + i)))] [])) := by
        have := c9
        rw [succ32, succ32, succ32] at this
        exact this
      exact ih (i + 1) (by omega) _ (Or.inr ⟨_, rfl, rfl⟩) T7 _ (by rw [copyLocs_step, ← List.append_assoc]; exact X7) (pl.trans p7) (fl.step (by omega) hlt (by simp)) c10
  obtain ⟨T9, B9, z9, X9, p9, f9, g9⟩ := loop len 0 (by omega) .unset (Or.inl rfl) s₁ B (by simpa [copyLocs] using X0) ⟨hB0.1, fun _ _ => rfl, rfl⟩ (Laid.zero _ _ _) c2
  have c11 : Steps p.tables e below (s₁.setTop (entryFrame m #[.ref b, .int (Int32.ofNat o), .ref d, .int (Int32.ofNat q), .int (Int32.ofNat len)] 7)) (T9.setTop (mkF m 46 #[.val (.ref b), .val (.int (Int32.ofNat (o + len))), .val (.ref d), .val (.int (Int32.ofNat (q + len))), .val (.int (Int32.ofNat len)), .val (.int (Int32.ofNat len)), z9] [.int (Int32.ofNat len)])) := g9.trans (by
    refine XS.iload X9.here hexec rfl (hb hbytes d3) rfl ?_
    refine XS.iload X9.here hexec rfl (hb hbytes d5) rfl ?_
    refine XS.icmpYes X9.here hexec rfl (pc0 := 7) rfl (hb hbytes d7) rfl (ii_ge_t (nlt32 (by omega) (Nat.le_refl _))) (by decide) rfl ?_
    refine XS.iload X9.here hexec rfl (hb hbytes d44) rfl ?_
    exact Steps.refl _)
  exact ⟨T9, some (.int (Int32.ofNat len)), _, _, _, X9, by simp, rfl, rfl, (fun h => by cases h), ⟨rfl, B9, p9.from hh0, f9⟩, fun fs hl => c11.trans (X9.ireturnOut hexec hret rfl (Or.inl rfl) (hb hbytes d46) hl)⟩
end Cmp5
namespace Cmp3
def yN : MethodName := ⟨"java/lang/StringUTF16", "compress", "([CII)[B"⟩
abbrev yB : ByteArray := jdk_52_method_16_code
theorem d0 : decode yB 0 = .ok (.iload_n 2, 1) := by decide +kernel
theorem d1 : decode yB 1 = .ok (.newarray .byte, 2) := by decide +kernel
theorem d3 : decode yB 3 = .ok (.astore_n 3, 1) := by decide +kernel
theorem d4 : decode yB 4 = .ok (.aload_n 0, 1) := by decide +kernel
theorem d5 : decode yB 5 = .ok (.iload_n 1, 1) := by decide +kernel
theorem d6 : decode yB 6 = .ok (.aload_n 3, 1) := by decide +kernel
theorem d7 : decode yB 7 = .ok (.iconst 0, 1) := by decide +kernel
theorem d8 : decode yB 8 = .ok (.iload_n 2, 1) := by decide +kernel
theorem d9 : decode yB 9 = .ok (.invokestatic 115, 3) := by decide +kernel
theorem d12 : decode yB 12 = .ok (.istore 4, 2) := by decide +kernel
theorem d14 : decode yB 14 = .ok (.iload 4, 2) := by decide +kernel
theorem d16 : decode yB 16 = .ok (.iload_n 2, 1) := by decide +kernel
theorem d17 : decode yB 17 = .ok (.if_icmp (.eq) 40, 3) := by decide +kernel
theorem d57 : decode yB 57 = .ok (.aload_n 3, 1) := by decide +kernel
theorem d58 : decode yB 58 = .ok (.areturn, 1) := by decide +kernel
def site : List Cond := [.arrayClass .byte, Cmp5.tab] ++ staticW U16 115 Cmp5.yN
def tab : Cond := tabOf yN yB 6 (some (.array .byte)) site
def P (b : Addr) (A : Cell) (o len : Nat) (args : Array Value) (s : State) : Prop := args = #[.ref b, .int (Int32.ofNat o), .int (Int32.ofNat len)] ∧ Ch b A s ∧ o + len ≤ A.slots.size ∧ len ≤ 536870912 ∧ ∀ i, i < len → ¬ 255 < cv A (o + i)
def E (b : Addr) (A : Cell) (o len : Nat) (r : Option Value) (s u : State) : Prop := NewArr .byte "[B" len (fun j => .int (lo8 (cv A (o + j)))) r s u ∧ u.heap.size = s.heap.size + 1
/-- no char of the range above 255: a new byte[] of their low bytes -/
theorem law (l : Launch) (b : Addr) (A : Cell) (o len : Nat) : Law l yN 3 3 1 18 yB 6 (some (.array .byte)) site (P b A o len) (E b A o len) [] 1 len := by
  refine Law.of_walk (plainFor_of_name (by decide +kernel)) (by decide +kernel) (by decide +kernel) (by decide) (fun _ _ h => by rw [h.1]; rfl) (fun _ U U' hal hh h => ⟨h.1, h.2.1.mv hal hh, h.2.2⟩) (fun r U U' V V' h1 hal h2 h => ⟨NewArr.mv r U U' V V' h1 hal h2 h.1, by rw [h1, h2]; exact h.2⟩) ?_
  intro p e s m args below meth c s₁ X0 hexec hbytes hml hret hlk hnm hown hh0 W hP
  obtain ⟨rfl, hA, l1, l2, hp⟩ := hP
  have a31 := hA.1.2.2.2
  have c1 : Steps p.tables e below (s₁.setTop (entryFrame m #[.ref b, .int (Int32.ofNat o), .int (Int32.ofNat len)] 6)) (s₁.setTop (mkF m 0 #[.val (.ref b), .val (.int (Int32.ofNat o)), .val (.int (Int32.ofNat len)), .unset, .unset, .unset] [])) := entry rfl
  have c2 : Steps p.tables e below (s₁.setTop (entryFrame m #[.ref b, .int (Int32.ofNat o), .int (Int32.ofNat len)] 6)) (s₁.setTop (mkF m 1 #[.val (.ref b), .val (.int (Int32.ofNat o)), .val (.int (Int32.ofNat len)), .unset, .unset, .unset] [.int (Int32.ofNat len)])) := c1.trans (by
    refine XS.iloadN X0.here hexec rfl (hb hbytes d0) rfl ?_
    exact Steps.refl _)
  obtain ⟨T3, B3, X3, ba3, bs3, bv3, bh3, bf3, st3⟩ := X0.anew hexec (atype := .byte) (wk W (.arrayClass .byte)) rfl (by show len * 1 ≤ _; omega) (by omega) (g := (mkF m 1 #[.val (.ref b), .val (.int (Int32.ofNat o)), .val (.int (Int32.ofNat len)), .unset, .unset, .unset] [.int (Int32.ofNat len)])) rfl (hb hbytes d1) (rest := []) rfl (Nat.le_refl _) (by show 0 + len ≤ len; omega)
  rw [hh0] at ba3 st3
  have kp3 : XT.Kept s T3 := (XT.Kept.of_eq hh0).push bh3
  have hA3 := hA.keep X3.warmed.alike (kp3 _ _ hA.1.1)
  have hne : b ≠ s.heap.size := hA.1.ne
  have c4 : Steps p.tables e below (s₁.setTop (entryFrame m #[.ref b, .int (Int32.ofNat o), .int (Int32.ofNat len)] 6)) (T3.setTop (mkF m 3 #[.val (.ref b), .val (.int (Int32.ofNat o)), .val (.int (Int32.ofNat len)), .unset, .unset, .unset] [.ref s.heap.size])) := c2.trans (st3 _ (Steps.refl _))
  have c5 : Steps p.tables e below (s₁.setTop (entryFrame m #[.ref b, .int (Int32.ofNat o), .int (Int32.ofNat len)] 6)) (T3.setTop (mkF m 9 #[.val (.ref b), .val (.int (Int32.ofNat o)), .val (.int (Int32.ofNat len)), .val (.ref s.heap.size), .unset, .unset] [.int (Int32.ofNat len), .int 0, .ref s.heap.size, .int (Int32.ofNat o), .ref b])) := c4.trans (by
    refine XS.astoreN X3.here hexec rfl (hb hbytes d3) rfl rfl rfl ?_
    refine XS.aloadN X3.here hexec rfl (hb hbytes d4) rfl rfl ?_
    refine XS.iloadN X3.here hexec rfl (hb hbytes d5) rfl ?_
    refine XS.aloadN X3.here hexec rfl (hb hbytes d6) rfl rfl ?_
    refine iconstV X3.here hexec rfl 0 (hb hbytes d7) (by decide) ?_
    refine XS.iloadN X3.here hexec rfl (hb hbytes d8) rfl ?_
    exact Steps.refl _)
  obtain ⟨v6, T6, X6, E6, g6⟩ := X3.callS hexec (Cmp5.law l b A s.heap.size B3 o 0 len) hown (wks W (staticW U16 115 Cmp5.yN)) (wk W Cmp5.tab) (W := 0) (Nat.le_of_ble_eq_true rfl) (Nat.le_of_ble_eq_true rfl) (Nat.le_refl _) (by show 0 + len + 0 ≤ len; omega) (g := (mkF m 9 #[.val (.ref b), .val (.int (Int32.ofNat o)), .val (.int (Int32.ofNat len)), .val (.ref s.heap.size), .unset, .unset] [.int (Int32.ofNat len), .int (Int32.ofNat 0), .ref s.heap.size, .int (Int32.ofNat o), .ref b])) rfl (by rw [hml]; rfl) c5 (argsL := [.ref b, .int (Int32.ofNat o), .ref s.heap.size, .int (Int32.ofNat 0), .int (Int32.ofNat len)]) (rest := []) rfl rfl (by show 2 * 0 + 0 ≤ _; decide) (hb hbytes d9) (⟨rfl, hA3, ba3, hne, l1, by rw [bs3]; simp, hp⟩)
  obtain ⟨rfl, B6, p6, f6⟩ := E6
  have c7 : Steps p.tables e below (s₁.setTop (entryFrame m #[.ref b, .int (Int32.ofNat o), .int (Int32.ofNat len)] 6)) (T6.setTop (mkF m 12 #[.val (.ref b), .val (.int (Int32.ofNat o)), .val (.int (Int32.ofNat len)), .val (.ref s.heap.size), .unset, .unset] [.int (Int32.ofNat len)])) := g6
  have c8 : Steps p.tables e below (s₁.setTop (entryFrame m #[.ref b, .int (Int32.ofNat o), .int (Int32.ofNat len)] 6)) (T6.setTop (mkF m 58 #[.val (.ref b), .val (.int (Int32.ofNat o)), .val (.int (Int32.ofNat len)), .val (.ref s.heap.size), .val (.int (Int32.ofNat len)), .unset] [.ref s.heap.size])) := c7.trans (by
    refine XS.istore X6.here hexec rfl (hb hbytes d12) rfl rfl ?_
    refine XS.iload X6.here hexec rfl (hb hbytes d14) rfl ?_
    refine XS.iloadN X6.here hexec rfl (hb hbytes d16) rfl ?_
    refine XS.icmpYes X6.here hexec rfl (pc0 := 17) rfl (hb hbytes d17) rfl (ii_eq_t rfl) (by decide) rfl ?_
    refine XS.aloadN X6.here hexec rfl (hb hbytes d57) rfl rfl ?_
    exact Steps.refl _)
  have X8 := X6.wide (L' := []) (cells' := 1) (slots' := len) (fun x hx hlt => by
    simp only [List.nil_append, copyLocs, List.mem_map, List.mem_range] at hx
    obtain ⟨i, -, rfl⟩ := hx
    exact absurd hlt (Nat.lt_irrefl _)) (Nat.le_refl _) (by omega)
  exact ⟨T6, some (.ref s.heap.size), _, _, _, X8, rfl, rfl, rfl, (fun h => by cases h), ⟨⟨rfl, B6, ba3.like (X3.warmed.alike.symm.trans X6.warmed.alike) p6.1 f6.1 f6.2.1 f6.2.2.1, f6.2.1.trans bv3, by rw [X6.warmed.alike.findClass, f6.1]; exact bf3, by rw [f6.2.2.1, bs3]; simp, fun j hj => by rw [f6.2.2.2 j, if_pos (by omega)]; rfl, kp3.put p6 (Nat.le_refl _)⟩, by rw [p6.2.2, bh3, hh0]; simp⟩, fun fs hl => c8.trans (X8.areturnOut hexec rfl hret rfl (hb hbytes d58) hl)⟩
end Cmp3
namespace CodL
def yN : MethodName := ⟨"java/lang/StringUTF16", "coderFromArrayLen", "([BI)B"⟩
abbrev yB : ByteArray := jdk_52_method_15_code
theorem d0 : decode yB 0 = .ok (.iload_n 1, 1) := by decide +kernel
theorem d1 : decode yB 1 = .ok (.aload_n 0, 1) := by decide +kernel
theorem d2 : decode yB 2 = .ok (.arraylength, 1) := by decide +kernel
theorem d3 : decode yB 3 = .ok (.isub, 1) := by decide +kernel
theorem d4 : decode yB 4 = .ok (.bipush 31, 2) := by decide +kernel
theorem d6 : decode yB 6 = .ok (.iushr, 1) := by decide +kernel
theorem d7 : decode yB 7 = .ok (.i2b, 1) := by decide +kernel
theorem d8 : decode yB 8 = .ok (.ireturn, 1) := by decide +kernel
def site : List Cond := []
def tab : Cond := tabOf yN yB 2 (some .byte) site
def P (d : Addr) (B : Cell) (args : Array Value) (s : State) : Prop := args = #[.ref d, .int (Int32.ofNat B.slots.size)] ∧ Arr .byte d B s
def E (r : Option Value) (s u : State) : Prop := XT.PureE (some (.int 0)) r s u
/-- an array as long as the number of chars: LATIN1 -/
theorem law (l : Launch) (d : Addr) (B : Cell) : Law l yN 2 2 0 0 yB 2 (some .byte) site (P d B) E [] 0 0 := by
  refine Law.of_walk (plainFor_of_name (by decide +kernel)) (by decide +kernel) (by decide +kernel) (by decide) (fun _ _ h => by rw [h.1]; rfl) (fun _ U U' hal hh h => ⟨h.1, h.2.mv hal hh⟩) (fun r U U' V V' h1 hal h2 h => XT.PureE.mv r U U' V V' h1 hal h2 h) ?_
  intro p e s m args below meth c s₁ X0 hexec hbytes hml hret hlk hnm hown hh0 W hP
  obtain ⟨rfl, hB⟩ := hP
  have hB0 := hB.mv X0.warmed.alike hh0
  have c1 : Steps p.tables e below (s₁.setTop (entryFrame m #[.ref d, .int (Int32.ofNat B.slots.size)] 2)) (s₁.setTop (mkF m 0 #[.val (.ref d), .val (.int (Int32.ofNat B.slots.size))] [])) := entry rfl
  have c2 : Steps p.tables e below (s₁.setTop (entryFrame m #[.ref d, .int (Int32.ofNat B.slots.size)] 2)) (s₁.setTop (mkF m 2 #[.val (.ref d), .val (.int (Int32.ofNat B.slots.size))] [.ref d, .int (Int32.ofNat B.slots.size)])) := c1.trans (by
    refine XS.iloadN X0.here hexec rfl (hb hbytes d0) rfl ?_
    refine XS.aloadN X0.here hexec rfl (hb hbytes d1) rfl rfl ?_
    exact Steps.refl _)
  have c3 : Steps p.tables e below (s₁.setTop (entryFrame m #[.ref d, .int (Int32.ofNat B.slots.size)] 2)) (s₁.setTop (mkF m 8 #[.val (.ref d), .val (.int (Int32.ofNat B.slots.size))] [.int (lo8 (ushr (Int32.ofNat B.slots.size - Int32.ofNat B.slots.size) 31))])) := c2.trans (by
    refine X0.alen hexec hB0 rfl rfl (hb hbytes d2) ?_
    refine XS.isub X0.here hexec rfl (hb hbytes d3) rfl ?_
    refine bipushV X0.here hexec rfl 31 (hb hbytes d4) (by decide) ?_
    refine iushr X0.here hexec rfl (hb hbytes d6) rfl ?_
    refine i2b X0.here hexec rfl (hb hbytes d7) rfl ?_
    exact Steps.refl _)
  have e0 : lo8 (ushr (Int32.ofNat B.slots.size - Int32.ofNat B.slots.size) 31) = 0 := by rw [Int32.sub_self]; decide
  rw [e0] at c3
  exact ⟨s₁, some (.int 0), _, _, _, X0, rfl, rfl, rfl, (fun h => by cases h), ⟨rfl, hh0⟩, fun fs hl => c3.trans (X0.ireturnOut hexec hret rfl (Or.inr (Or.inr (Or.inl rfl))) (hb hbytes d8) hl)⟩
end CodL
/-- the String at a is Latin-1 over a new byte[] (the heap's one new cell): the low bytes of the len chars of A from o on; every cell but a is kept -/
def Got (a : Addr) (D : Cell) (fV fC : Field) (A : Cell) (o len : Nat) (r : Option Value) (s u : State) : Prop := r = none ∧ ∃ D' V : Cell, Blank "java/lang/String" a D' u ∧ Same D D' [fV.slot, fC.slot] ∧ D'.slots[fV.slot]? = some (.ref s.heap.size) ∧ D'.slots[fC.slot]? = some (.int 0) ∧ Arr .byte s.heap.size V u ∧ V.vm = .none ∧ u.vm.findClass "[B" = some V.cls ∧ V.slots.size = len ∧ (∀ j, j < len → V.slots[j]? = some (.int (lo8 (cv A (o + j))))) ∧ (∀ (y : Addr) (c : Cell), y ≠ a → s.heap[y]? = some c → u.heap[y]? = some c) ∧ u.heap.size = s.heap.size + 1
theorem Got.mv {a : Addr} {D A : Cell} {fV fC : Field} {o len : Nat} : ∀ r (U U' V V' : State), U'.heap = U.heap → V.vm.Alike V'.vm → V'.heap = V.heap → Got a D fV fC A o len r U V → Got a D fV fC A o len r U' V' :=
  fun r U U' V V' h1 hal h2 ⟨e0, D', X, a1, a2, a3, a4, a5, a6, a7, a8, a9, a10, a11⟩ => ⟨e0, D', X, a1.mv hal h2, a2, by rw [h1]; exact a3, a4, by rw [h1]; exact a5.mv hal h2, a6, by rw [hal.findClass]; exact a7, a8, a9, by rw [h1, h2]; exact a10, by rw [h1, h2]; exact a11⟩
namespace New4
def yN : MethodName := ⟨"java/lang/String", "<init>", "([CIILjava/lang/Void;)V"⟩
abbrev yB : ByteArray := jdk_42_method_149_code
theorem d0 : decode yB 0 = .ok (.aload_n 0, 1) := by decide +kernel
theorem d1 : decode yB 1 = .ok (.invokespecial 1, 3) := by decide +kernel
theorem d4 : decode yB 4 = .ok (.iload_n 3, 1) := by decide +kernel
theorem d5 : decode yB 5 = .ok (.ifCond (.ne) 22, 3) := by decide +kernel
theorem d27 : decode yB 27 = .ok (.getstatic 38, 3) := by decide +kernel
theorem d30 : decode yB 30 = .ok (.ifCond (.eq) 28, 3) := by decide +kernel
theorem d33 : decode yB 33 = .ok (.aload_n 1, 1) := by decide +kernel
theorem d34 : decode yB 34 = .ok (.iload_n 2, 1) := by decide +kernel
theorem d35 : decode yB 35 = .ok (.iload_n 3, 1) := by decide +kernel
theorem d36 : decode yB 36 = .ok (.invokestatic 177, 3) := by decide +kernel
theorem d39 : decode yB 39 = .ok (.astore 5, 2) := by decide +kernel
theorem d41 : decode yB 41 = .ok (.aload_n 0, 1) := by decide +kernel
theorem d42 : decode yB 42 = .ok (.aload 5, 2) := by decide +kernel
theorem d44 : decode yB 44 = .ok (.iload_n 3, 1) := by decide +kernel
theorem d45 : decode yB 45 = .ok (.invokestatic 47, 3) := by decide +kernel
theorem d48 : decode yB 48 = .ok (.putfield 15, 3) := by decide +kernel
theorem d51 : decode yB 51 = .ok (.aload_n 0, 1) := by decide +kernel
theorem d52 : decode yB 52 = .ok (.aload 5, 2) := by decide +kernel
theorem d54 : decode yB 54 = .ok (.putfield 9, 3) := by decide +kernel
theorem d57 : decode yB 57 = .ok (.return_, 1) := by decide +kernel
def site : List Cond := [.fieldLink "java/lang/String" 38 "java/lang/String" "COMPACT_STRINGS" "Z", Cmp3.tab, CodL.tab, .laysFinal "java/lang/String" "java/lang/String" "value" "[B", .fieldLink "java/lang/String" 9 "java/lang/String" "value" "[B", .laysFinal "java/lang/String" "java/lang/String" "coder" "B", .fieldLink "java/lang/String" 15 "java/lang/String" "coder" "B"] ++ objW "java/lang/String" 1 ++ staticW "java/lang/String" 177 Cmp3.yN ++ staticW "java/lang/String" 47 CodL.yN
def tab : Cond := tabOf yN yB 6 none site
def P (a : Addr) (D : Cell) (fV fC : Field) (b : Addr) (A : Cell) (z : Int32) (o len : Nat) (args : Array Value) (s : State) : Prop := args = #[.ref a, .ref b, .int (Int32.ofNat o), .int (Int32.ofNat len), .null] ∧ Blank "java/lang/String" a D s ∧ Found "java/lang/String" "value" "[B" fV s ∧ Found "java/lang/String" "coder" "B" fC s ∧ Ch b A s ∧ StaticIs s "java/lang/String" "COMPACT_STRINGS" "Z" (.int z) ∧ ¬ z = 0 ∧ 0 < len ∧ o + len ≤ A.slots.size ∧ len ≤ 536870912 ∧ ∀ i, i < len → ¬ 255 < cv A (o + i)
def E (a : Addr) (D : Cell) (fV fC : Field) (A : Cell) (o len : Nat) (r : Option Value) (s u : State) : Prop := Got a D fV fC A o len r s u
/-- len > 0, no char of the range above 255: a Latin-1 String of their low bytes -/
theorem law (l : Launch) (a : Addr) (D : Cell) (fV fC : Field) (b : Addr) (A : Cell) (z : Int32) (o len : Nat) : Law l yN 5 4 2 35 yB 6 none site (P a D fV fC b A z o len) (E a D fV fC A o len) [⟨a, fC.slot⟩, ⟨a, fV.slot⟩] 1 len := by
  refine Law.of_walk (plainFor_of_name (by decide +kernel)) (by decide +kernel) (by decide +kernel) (by decide) (fun _ _ h => by rw [h.1]; rfl) (fun _ U U' hal hh h => ⟨h.1, h.2.1.mv hal hh, h.2.2.1.al hal, h.2.2.2.1.al hal, h.2.2.2.2.1.mv hal hh, h.2.2.2.2.2.1.there hal hh, h.2.2.2.2.2.2⟩) (fun r U U' V V' h1 hal h2 h => Got.mv r U U' V V' h1 hal h2 h) ?_
  intro p e s m args below meth c s₁ X0 hexec hbytes hml hret hlk hnm hown hh0 W hP
  obtain ⟨rfl, hB, f1, f2, hA, s1, hz, l0, l1, l2, hp⟩ := hP
  have a31 := hA.1.2.2.2
  have c1 : Steps p.tables e below (s₁.setTop (entryFrame m #[.ref a, .ref b, .int (Int32.ofNat o), .int (Int32.ofNat len), .null] 6)) (s₁.setTop (mkF m 0 #[.val (.ref a), .val (.ref b), .val (.int (Int32.ofNat o)), .val (.int (Int32.ofNat len)), .val .null, .unset] [])) := entry rfl
  have c2 : Steps p.tables e below (s₁.setTop (entryFrame m #[.ref a, .ref b, .int (Int32.ofNat o), .int (Int32.ofNat len), .null] 6)) (s₁.setTop (mkF m 1 #[.val (.ref a), .val (.ref b), .val (.int (Int32.ofNat o)), .val (.int (Int32.ofNat len)), .val .null, .unset] [.ref a])) := c1.trans (by
    refine XS.aloadN X0.here hexec rfl (hb hbytes d0) rfl rfl ?_
    exact Steps.refl _)
  obtain ⟨T3, X3, q3, st3⟩ := X0.oinit hexec hown (wks W (objW "java/lang/String" 1)) (g := (mkF m 1 #[.val (.ref a), .val (.ref b), .val (.int (Int32.ofNat o)), .val (.int (Int32.ofNat len)), .val .null, .unset] [.ref a])) rfl (by rw [hml]; rfl) (rest := []) rfl (hb hbytes d1) (W := 0) (by show 2 * 0 + 0 ≤ _; decide) (Nat.le_of_ble_eq_true rfl) (Nat.le_of_ble_eq_true rfl)
  have hh3 := q3.trans hh0
  have c4 : Steps p.tables e below (s₁.setTop (entryFrame m #[.ref a, .ref b, .int (Int32.ofNat o), .int (Int32.ofNat len), .null] 6)) (T3.setTop (mkF m 27 #[.val (.ref a), .val (.ref b), .val (.int (Int32.ofNat o)), .val (.int (Int32.ofNat len)), .val .null, .unset] [])) := (c2.trans (st3 _ (Steps.refl _))).trans (by
    refine XS.iloadN X3.here hexec rfl (hb hbytes d4) rfl ?_
    refine XS.ifYes X3.here hexec rfl (pc0 := 5) rfl (hb hbytes d5) rfl (i0_ne_t (nz32 (by omega) l0)) (by decide) rfl ?_
    exact Steps.refl _)
  obtain ⟨T5, X5, q5, st5⟩ := X3.sget hexec hown (wk W (.fieldLink "java/lang/String" 38 "java/lang/String" "COMPACT_STRINGS" "Z")) s1 (fun _ _ h => by rw [hh3]; exact h) (g := (mkF m 27 #[.val (.ref a), .val (.ref b), .val (.int (Int32.ofNat o)), .val (.int (Int32.ofNat len)), .val .null, .unset] [])) rfl (hb hbytes d27)
  have hh5 := q5.trans hh3
  have c6 : Steps p.tables e below (s₁.setTop (entryFrame m #[.ref a, .ref b, .int (Int32.ofNat o), .int (Int32.ofNat len), .null] 6)) (T5.setTop (mkF m 30 #[.val (.ref a), .val (.ref b), .val (.int (Int32.ofNat o)), .val (.int (Int32.ofNat len)), .val .null, .unset] [.int z])) := c4.trans (st5 _ (Steps.refl _))
  have c7 : Steps p.tables e below (s₁.setTop (entryFrame m #[.ref a, .ref b, .int (Int32.ofNat o), .int (Int32.ofNat len), .null] 6)) (T5.setTop (mkF m 36 #[.val (.ref a), .val (.ref b), .val (.int (Int32.ofNat o)), .val (.int (Int32.ofNat len)), .val .null, .unset] [.int (Int32.ofNat len), .int (Int32.ofNat o), .ref b])) := c6.trans (by
    refine XS.ifNo X5.here hexec rfl (hb hbytes d30) rfl (i0_eq_f hz) ?_
    refine XS.aloadN X5.here hexec rfl (hb hbytes d33) rfl rfl ?_
    refine XS.iloadN X5.here hexec rfl (hb hbytes d34) rfl ?_
    refine XS.iloadN X5.here hexec rfl (hb hbytes d35) rfl ?_
    exact Steps.refl _)
  obtain ⟨v8, T8, X8, E8, g8⟩ := X5.callS hexec (Cmp3.law l b A o len) hown (wks W (staticW "java/lang/String" 177 Cmp3.yN)) (wk W Cmp3.tab) (W := 0) (Nat.le_of_ble_eq_true rfl) (Nat.le_of_ble_eq_true rfl) (Nat.le_refl _) (by show 0 + len ≤ len; omega) (g := (mkF m 36 #[.val (.ref a), .val (.ref b), .val (.int (Int32.ofNat o)), .val (.int (Int32.ofNat len)), .val .null, .unset] [.int (Int32.ofNat len), .int (Int32.ofNat o), .ref b])) rfl (by rw [hml]; rfl) c7 (argsL := [.ref b, .int (Int32.ofNat o), .int (Int32.ofNat len)]) (rest := []) rfl rfl (by show 2 * 0 + 0 ≤ _; decide) (hb hbytes d36) (⟨rfl, hA.mv X5.warmed.alike hh5, l1, l2, hp⟩)
  obtain ⟨e8, z8⟩ := E8
  obtain ⟨rfl, N, n1, n2, n3, n4, n5, n6⟩ := NewArr.mv _ T5 s _ _ hh5.symm (Vm.Alike.refl _) rfl e8
  rw [hh5] at z8
  have hB1 := hB.keep X8.warmed.alike (n6 _ _ hB.1)
  have hne : s.heap.size ≠ a := (Nat.ne_of_lt (Array.getElem?_eq_some_iff.mp hB.1).1).symm
  have c9 : Steps p.tables e below (s₁.setTop (entryFrame m #[.ref a, .ref b, .int (Int32.ofNat o), .int (Int32.ofNat len), .null] 6)) (T8.setTop (mkF m 39 #[.val (.ref a), .val (.ref b), .val (.int (Int32.ofNat o)), .val (.int (Int32.ofNat len)), .val .null, .unset] [.ref s.heap.size])) := g8
  have c10 : Steps p.tables e below (s₁.setTop (entryFrame m #[.ref a, .ref b, .int (Int32.ofNat o), .int (Int32.ofNat len), .null] 6)) (T8.setTop (mkF m 45 #[.val (.ref a), .val (.ref b), .val (.int (Int32.ofNat o)), .val (.int (Int32.ofNat len)), .val .null, .val (.ref s.heap.size)] [.int (Int32.ofNat N.slots.size), .ref s.heap.size, .ref a])) := by
    have hc : Steps p.tables e below (s₁.setTop (entryFrame m #[.ref a, .ref b, .int (Int32.ofNat o), .int (Int32.ofNat len), .null] 6)) (T8.setTop (mkF m 45 #[.val (.ref a), .val (.ref b), .val (.int (Int32.ofNat o)), .val (.int (Int32.ofNat len)), .val .null, .val (.ref s.heap.size)] [.int (Int32.ofNat len), .ref s.heap.size, .ref a])) := c9.trans (by
      refine XS.astore X8.here hexec rfl (hb hbytes d39) rfl rfl rfl ?_
      refine XS.aloadN X8.here hexec rfl (hb hbytes d41) rfl rfl ?_
      refine XS.aload X8.here hexec rfl (hb hbytes d42) rfl rfl ?_
      refine XS.iloadN X8.here hexec rfl (hb hbytes d44) rfl ?_
      exact Steps.refl _)
    rw [n4]; exact hc
  obtain ⟨v11, T11, X11, E11, g11⟩ := X8.callS hexec (CodL.law l s.heap.size N) hown (wks W (staticW "java/lang/String" 47 CodL.yN)) (wk W CodL.tab) (W := 1) (Nat.le_of_ble_eq_true rfl) (Nat.le_of_ble_eq_true rfl) (Nat.le_refl _) (by show 0 + len + 0 ≤ len; omega) (g := (mkF m 45 #[.val (.ref a), .val (.ref b), .val (.int (Int32.ofNat o)), .val (.int (Int32.ofNat len)), .val .null, .val (.ref s.heap.size)] [.int (Int32.ofNat N.slots.size), .ref s.heap.size, .ref a])) rfl (by rw [hml]; rfl) c10 (argsL := [.ref s.heap.size, .int (Int32.ofNat N.slots.size)]) (rest := [.ref a]) rfl rfl (by show 2 * 0 + (1 + 0) ≤ _; decide) (hb hbytes d45) (⟨rfl, n1⟩)
  obtain ⟨rfl, q11⟩ := E11
  have hB11 := hB1.mv (X8.warmed.alike.symm.trans X11.warmed.alike) q11
  have c12 : Steps p.tables e below (s₁.setTop (entryFrame m #[.ref a, .ref b, .int (Int32.ofNat o), .int (Int32.ofNat len), .null] 6)) (T11.setTop (mkF m 48 #[.val (.ref a), .val (.ref b), .val (.int (Int32.ofNat o)), .val (.int (Int32.ofNat len)), .val .null, .val (.ref s.heap.size)] [.int 0, .ref a])) := g11
  obtain ⟨T13, X13, p13, bl13, sl13, st13⟩ := X11.finit hexec hown (wk W (.fieldLink "java/lang/String" 15 "java/lang/String" "coder" "B")) (Or.inr ⟨_, (wk W (.laysFinal "java/lang/String" "java/lang/String" "coder" "B"))⟩) (Or.inl ⟨rfl, hnm⟩) f2 (Or.inl rfl) hB11 (t := .byte) (by decide +kernel) rfl (g := (mkF m 48 #[.val (.ref a), .val (.ref b), .val (.int (Int32.ofNat o)), .val (.int (Int32.ofNat len)), .val .null, .val (.ref s.heap.size)] [.int 0, .ref a])) rfl (rest := []) rfl (hb hbytes d48)
  have c14 : Steps p.tables e below (s₁.setTop (entryFrame m #[.ref a, .ref b, .int (Int32.ofNat o), .int (Int32.ofNat len), .null] 6)) (T13.setTop (mkF m 54 #[.val (.ref a), .val (.ref b), .val (.int (Int32.ofNat o)), .val (.int (Int32.ofNat len)), .val .null, .val (.ref s.heap.size)] [.ref s.heap.size, .ref a])) := (c12.trans (st13 _ (Steps.refl _))).trans (by
    refine XS.aloadN X13.here hexec rfl (hb hbytes d51) rfl rfl ?_
    refine XS.aload X13.here hexec rfl (hb hbytes d52) rfl rfl ?_
    exact Steps.refl _)
  obtain ⟨T15, X15, p15, bl15, sl15, st15⟩ := X13.finit hexec hown (wk W (.fieldLink "java/lang/String" 9 "java/lang/String" "value" "[B")) (Or.inr ⟨_, (wk W (.laysFinal "java/lang/String" "java/lang/String" "value" "[B"))⟩) (Or.inl ⟨rfl, hnm⟩) f1 (Or.inl rfl) bl13 (t := (.array .byte)) (by decide +kernel) rfl (g := (mkF m 54 #[.val (.ref a), .val (.ref b), .val (.int (Int32.ofNat o)), .val (.int (Int32.ofNat len)), .val .null, .val (.ref s.heap.size)] [.ref s.heap.size, .ref a])) rfl (rest := []) rfl (hb hbytes d54)
  have c16 : Steps p.tables e below (s₁.setTop (entryFrame m #[.ref a, .ref b, .int (Int32.ofNat o), .int (Int32.ofNat len), .null] 6)) (T15.setTop (mkF m 57 #[.val (.ref a), .val (.ref b), .val (.int (Int32.ofNat o)), .val (.int (Int32.ofNat len)), .val .null, .val (.ref s.heap.size)] [])) := c14.trans (st15 _ (Steps.refl _))
  have ap := apart (Or.inr ⟨_, (wk W (.laysFinal "java/lang/String" "java/lang/String" "value" "[B"))⟩) (Or.inr ⟨_, (wk W (.laysFinal "java/lang/String" "java/lang/String" "coder" "B"))⟩) f1 f2 (t₁ := .array .byte) (t₂ := .byte) (by decide +kernel) (by decide +kernel) (by decide)
  have al := X8.warmed.alike.symm.trans X15.warmed.alike
  have n7 : T11.heap[s.heap.size]? = some N := by rw [q11]; exact n1.1
  exact ⟨T15, none, _, _, _, X15, by simp, rfl, by omega, (fun _ => rfl), ⟨rfl, _, N, bl15, ((Same.refl D _).set _ (by simp)).set _ (by simp), sl15, (Cell.slots_setSlot_ne _ ap).trans sl13, n1.keep al (p15.other hne (p13.other hne n7)), n2, by rw [al.findClass]; exact n3, n4, n5, fun y c h1 h2 => p15.other h1 (p13.other h1 (by rw [q11]; exact n6 y c h2)), by rw [p15.2.2, p13.2.2, q11]; exact z8⟩, fun fs hl => c16.trans (X15.returnOut hexec hret (hb hbytes d57) hl)⟩
end New4
namespace New1
def yN : MethodName := ⟨"java/lang/String", "<init>", "([C)V"⟩
abbrev yB : ByteArray := jdk_42_method_3_code
theorem d0 : decode yB 0 = .ok (.aload_n 0, 1) := by decide +kernel
theorem d1 : decode yB 1 = .ok (.aload_n 1, 1) := by decide +kernel
theorem d2 : decode yB 2 = .ok (.iconst 0, 1) := by decide +kernel
theorem d3 : decode yB 3 = .ok (.aload_n 1, 1) := by decide +kernel
theorem d4 : decode yB 4 = .ok (.arraylength, 1) := by decide +kernel
theorem d5 : decode yB 5 = .ok (.aconst_null, 1) := by decide +kernel
theorem d6 : decode yB 6 = .ok (.invokespecial 27, 3) := by decide +kernel
theorem d9 : decode yB 9 = .ok (.return_, 1) := by decide +kernel
def site : List Cond := [New4.tab] ++ initW "java/lang/String" 27 New4.yN
def tab : Cond := tabOf yN yB 2 none site
def P (a : Addr) (D : Cell) (fV fC : Field) (b : Addr) (A : Cell) (z : Int32) (args : Array Value) (s : State) : Prop := args = #[.ref a, .ref b] ∧ Blank "java/lang/String" a D s ∧ Found "java/lang/String" "value" "[B" fV s ∧ Found "java/lang/String" "coder" "B" fC s ∧ Ch b A s ∧ StaticIs s "java/lang/String" "COMPACT_STRINGS" "Z" (.int z) ∧ ¬ z = 0 ∧ 0 < A.slots.size ∧ A.slots.size ≤ 536870912 ∧ ∀ i, i < A.slots.size → ¬ 255 < cv A i
def E (a : Addr) (D : Cell) (fV fC : Field) (A : Cell) (r : Option Value) (s u : State) : Prop := Got a D fV fC A 0 A.slots.size r s u
/-- new String(chars), not empty, no char above 255: a Latin-1 String of their low bytes -/
theorem law (l : Launch) (a : Addr) (D : Cell) (fV fC : Field) (b : Addr) (A : Cell) (z : Int32) : Law l yN 2 1 3 52 yB 2 none site (P a D fV fC b A z) (E a D fV fC A) [⟨a, fC.slot⟩, ⟨a, fV.slot⟩] 1 A.slots.size := by
  refine Law.of_walk (plainFor_of_name (by decide +kernel)) (by decide +kernel) (by decide +kernel) (by decide) (fun _ _ h => by rw [h.1]; rfl) (fun _ U U' hal hh h => ⟨h.1, h.2.1.mv hal hh, h.2.2.1.al hal, h.2.2.2.1.al hal, h.2.2.2.2.1.mv hal hh, h.2.2.2.2.2.1.there hal hh, h.2.2.2.2.2.2⟩) (fun r U U' V V' h1 hal h2 h => Got.mv r U U' V V' h1 hal h2 h) ?_
  intro p e s m args below meth c s₁ X0 hexec hbytes hml hret hlk hnm hown hh0 W hP
  obtain ⟨rfl, hB, f1, f2, hA, s1, hz, l0, l2, hp⟩ := hP
  have c1 : Steps p.tables e below (s₁.setTop (entryFrame m #[.ref a, .ref b] 2)) (s₁.setTop (mkF m 0 #[.val (.ref a), .val (.ref b)] [])) := entry rfl
  have c2 : Steps p.tables e below (s₁.setTop (entryFrame m #[.ref a, .ref b] 2)) (s₁.setTop (mkF m 6 #[.val (.ref a), .val (.ref b)] [.null, .int (Int32.ofNat A.slots.size), .int 0, .ref b, .ref a])) := c1.trans (by
    refine XS.aloadN X0.here hexec rfl (hb hbytes d0) rfl rfl ?_
    refine XS.aloadN X0.here hexec rfl (hb hbytes d1) rfl rfl ?_
    refine iconstV X0.here hexec rfl 0 (hb hbytes d2) (by decide) ?_
    refine XS.aloadN X0.here hexec rfl (hb hbytes d3) rfl rfl ?_
    refine X0.alen hexec (hA.1.mv X0.warmed.alike hh0) rfl rfl (hb hbytes d4) ?_
    refine XS.aconstNull X0.here hexec rfl (hb hbytes d5) ?_
    exact Steps.refl _)
  obtain ⟨v3, T3, X3, E3, g3⟩ := X0.callN hexec (New4.law l a D fV fC b A z 0 A.slots.size) rfl hown (wks W (initW "java/lang/String" 27 New4.yN)) (W New4.tab (by simp only [site, List.mem_cons, List.mem_append, true_or, or_true])) (W := 0) (Nat.le_of_ble_eq_true rfl) (Nat.le_of_ble_eq_true rfl) (Nat.le_refl _) (by show 0 + A.slots.size ≤ A.slots.size; omega) (g := (mkF m 6 #[.val (.ref a), .val (.ref b)] [.null, .int (Int32.ofNat A.slots.size), .int (Int32.ofNat 0), .ref b, .ref a])) rfl (by rw [hml]; rfl) c2 (argsL := [.ref b, .int (Int32.ofNat 0), .int (Int32.ofNat A.slots.size), .null]) (rest := []) rfl rfl (by show 2 * 0 + 0 ≤ _; decide) (hb hbytes d6) (⟨rfl, hB.mv X0.warmed.alike hh0, f1.al X0.warmed.alike, f2.al X0.warmed.alike, hA.mv X0.warmed.alike hh0, s1.there X0.warmed.alike hh0, hz, l0, by omega, l2, fun i hi => by rw [Nat.zero_add]; exact hp i hi⟩)
  have e0 := Got.mv _ s₁ s _ _ hh0.symm (Vm.Alike.refl _) rfl E3
  obtain rfl := e0.1
  have c4 : Steps p.tables e below (s₁.setTop (entryFrame m #[.ref a, .ref b] 2)) (T3.setTop (mkF m 9 #[.val (.ref a), .val (.ref b)] [])) := g3
  exact ⟨T3, none, _, _, _, X3, by simp, rfl, by omega, (fun _ => rfl), e0, fun fs hl => c4.trans (X3.returnOut hexec hret (hb hbytes d9) hl)⟩
theorem pays {l : Launch} {R : Room} {p : Program} {e : Env} {below : List Frame} {s : State} {sargs : Array Value} {len W : Nat} (a : Addr) (D : Cell) (fV fC : Field) (b : Addr) (A : Cell) (z : Int32) (htab : tab.before sargs s = true) (hfr : 4 ≤ R.frames) (hlo : W + 65 ≤ R.locals) :
    Back l R p e below s sargs yN len W (fun A₁ a₁ => A₁.cells + 1 ≤ R.cells ∧ A₁.slots + A.slots.size ≤ R.slots ∧ P a D fV fC b A z a₁ A₁.U) (fun A₁ _ v₁ B₁ => E a D fV fC A v₁ A₁.U B₁.U ∧ B₁.locs = A₁.locs ++ [⟨a, fC.slot⟩, ⟨a, fV.slot⟩] ∧ B₁.cells = A₁.cells + 1 ∧ B₁.slots = A₁.slots + A.slots.size) :=
  (law l a D fV fC b A z).pays htab hfr (by omega)
end New1
end StrChars
namespace StrChars.Road
open Jvm Sem ClassFile Op Lib Jvm.Stand Jvm.Free Jvm.Free.XT
open Jvm.Lib.Cold (StaticIs)
abbrev ST : String := "java/lang/String"
/-- every table word that New1's law asks, flat -/
abbrev words : List Jvm.Cond := [.code New1.yN New1.yB 2 none, .initialized ST, .methodLink ST 27 New4.yN, .instanceMethod New4.yN,
  .code New4.yN New4.yB 6 none, .fieldLink ST 38 ST "COMPACT_STRINGS" "Z", .laysFinal ST ST "value" "[B", .fieldLink ST 9 ST "value" "[B", .laysFinal ST ST "coder" "B", .fieldLink ST 15 ST "coder" "B",
  .methodLink ST 1 Lib.objectInit, .instanceMethod Lib.objectInit, .code Lib.objectInit ⟨#[0xb1]⟩ 1 none, .methodLink ST 177 Cmp3.yN, .static Cmp3.yN, .methodLink ST 47 CodL.yN, .static CodL.yN,
  .code Cmp3.yN Cmp3.yB 6 (some (.array .byte)), .initialized U16, .arrayClass .byte, .methodLink U16 115 Cmp5.yN, .static Cmp5.yN, .code Cmp5.yN Cmp5.yB 7 (some .int), .code CodL.yN CodL.yB 2 (some .byte)]
theorem tab_of {a : Array Value} {s : State} (h : ∀ w ∈ words, w.before a s = true) : New1.tab.before a s = true := by
  have h5 : Cmp5.tab.before a s = true := unparts (wk h (.code Cmp5.yN Cmp5.yB 7 (some .int))) (wks h (.initialized Cmp5.yN.cls :: Cmp5.site))
  have hc : CodL.tab.before a s = true := unparts (wk h (.code CodL.yN CodL.yB 2 (some .byte))) (wks h (.initialized CodL.yN.cls :: CodL.site))
  have q5 : ∀ w ∈ Cmp5.tab :: words, w.before a s = true := fun w hw => (List.mem_cons.mp hw).elim (fun e => e ▸ h5) (h w)
  have h3 : Cmp3.tab.before a s = true := unparts (wk q5 (.code Cmp3.yN Cmp3.yB 6 (some (.array .byte)))) (wks q5 (.initialized Cmp3.yN.cls :: Cmp3.site))
  have q3 : ∀ w ∈ Cmp3.tab :: CodL.tab :: words, w.before a s = true := fun w hw => (List.mem_cons.mp hw).elim (fun e => e ▸ h3) fun hw => (List.mem_cons.mp hw).elim (fun e => e ▸ hc) (h w)
  have h4 : New4.tab.before a s = true := unparts (wk q3 (.code New4.yN New4.yB 6 none)) (wks q3 (.initialized New4.yN.cls :: New4.site))
  have q4 : ∀ w ∈ New4.tab :: words, w.before a s = true := fun w hw => (List.mem_cons.mp hw).elim (fun e => e ▸ h4) (h w)
  exact unparts (wk q4 (.code New1.yN New1.yB 2 none)) (wks q4 (.initialized New1.yN.cls :: New1.site))
/-- the words ride from the start Z to the walk's own state -/
theorem moved {Z s : State} {a0 args : Array Value} (hZ : Z.Warmed39 s.vm) (hw : ∀ d ∈ words, d.before a0 Z = true) : ∀ d ∈ words, d.before args s = true := fun d hd => by
  have q := hw d hd
  have t : ∀ d ∈ words, d = .arrayClass .byte ∨ (d.onTables && d.keepsFace) = true := by decide +kernel
  rcases t d hd with rfl | t
  · exact RoadKit.mvA hZ q
  · exact RoadKit.mv hZ q t
/-- WHAT COMES BACK, over the tables of the start Z: h the heap at the call, h' behind it -/
def Q (Z : State) (x : Addr) (A : Cell) (h : Heap) (v : Option Value) (h' : Heap) (L : List Loc) : Prop := v = none ∧ (∀ y ∈ L, y.base = x) ∧ RoadKit.Keep h h' [x] ∧ h'.size = h.size + 1 ∧ RoadKit.Exa Z h' x ST ∧ RoadKit.Fld Z h' x ST "value" "[B" (.ref h.size) ∧ RoadKit.Fld Z h' x ST "coder" "B" (.int 0) ∧
  (∃ V : Cell, RoadKit.Arr Z h' h.size V .byte ∧ V.vm = .none ∧ Z.vm.findClass "[B" = some V.cls ∧ V.slots.size = A.slots.size ∧ ∀ j, j < A.slots.size → V.slots[j]? = some (.int (lo8 (cv A j)))) ∧
  ∀ (O n d : String) (w : Value), RoadKit.Fld Z h x O n d w → RoadKit.slotOf Z O n d ≠ RoadKit.slotOf Z ST "value" "[B" → RoadKit.slotOf Z O n d ≠ RoadKit.slotOf Z ST "coder" "B" → RoadKit.Fld Z h' x O n d w
/-- **new String(chars) AT A CALL, IN THE ROAD'S FORM**: for specialBack behind newO: x the fresh String, b the char[] with the cell A -/
theorem back {p : Program} {l : Launch} {e : Env} {R : Room} {s : State} {args : Array Value} {below : List Frame} {len W : Nat} {Z : State} {a0 : Array Value} {h : Heap} (hZ : Z.Warmed39 s.vm) (hw : ∀ d ∈ words, d.before a0 Z = true) {kI : Nat} (wi : (Jvm.Cond.instantiable ST kI).before a0 Z = true)
    {x b : Addr} {A : Cell} {z : Int32} {v0 c0 : Value} (E : RoadKit.Exa Z h x ST) (V : RoadKit.Fld Z h x ST "value" "[B" v0) (C : RoadKit.Fld Z h x ST "coder" "B" c0) (K : RoadKit.Arr Z h b A .char) (hty : Typed .char A) (S : RoadKit.Sta Z h ST "COMPACT_STRINGS" "Z" (.int z)) (hz : ¬ z = 0)
    (l0 : 0 < A.slots.size) (l2 : A.slots.size ≤ 536870912) (hp : ∀ i, i < A.slots.size → ¬ 255 < cv A i) (hfr : 4 ≤ R.frames) (hlo : W + 65 ≤ R.locals) :
    Back l R p e below s args New1.yN len W (fun P a => a = #[.ref x, .ref b] ∧ P.U.heap = h ∧ P.cells + 1 ≤ R.cells ∧ P.slots + A.slots.size ≤ R.slots)
      (fun P _ v B => ∃ L, Q Z x A h v B.U.heap L ∧ B.locs = P.locs ++ L ∧ B.cells = P.cells + 1 ∧ B.slots = P.slots + A.slots.size) := by
  intro m meth c P g ig mk a X hg hsize hdg hW hn hp'
  obtain ⟨rfl, rfl, r1, r2⟩ := hp'
  have al : Z.vm.Alike P.U.vm := hZ.alike.trans X.warmed.alike
  obtain ⟨D, cfV, kV, iV, fV, hD, gV, stV, knV, obV, asV, slV⟩ := id V
  obtain ⟨D', cfC, kC, iC, fC, hD', gC, stC, -, -, asC, slC⟩ := id C
  cases hD.symm.trans hD'
  obtain ⟨D2, kD, e1, e2, e3, e4, e5⟩ := id E
  cases hD.symm.trans e1
  obtain ⟨c2, k2, i1, i2, i3, -⟩ := Cond.instantiable_spec wi
  cases e2.symm.trans i1
  cases e3.symm.trans i2
  obtain ⟨kU, u1, u2⟩ := al.2.2 _ _ e3
  have hB : Blank ST x D P.U := ⟨hD, ⟨knV, fun q hq => by rw [hq] at obV; cases obV⟩, by rw [al.findClass]; exact e2, kU, u1, by rw [u2]; exact i3, by rw [u2]; exact e5 i3⟩
  have F1 : Found ST "value" "[B" fV P.U := ⟨SBG.found_only al ⟨cfV, kV, iV, gV⟩, stV⟩
  have F2 : Found ST "coder" "B" fC P.U := ⟨SBG.found_only al ⟨cfC, kC, iC, gC⟩, stC⟩
  have hA : Ch b A P.U := ⟨⟨K.1, State.isArrayOf_alike al K.2.1, K.2.2, by omega⟩, hty⟩
  have hS : StaticIs P.U ST "COMPACT_STRINGS" "Z" (.int z) := by
    obtain ⟨cfS, iS, kS, fS, st, cS, t1, t2, t3, t4, t5, t6, t7⟩ := S
    exact StaticIs.there (s := { Z with heap := P.U.heap }) ⟨cfS, iS, kS, fS, st, cS, t1, t2, t3, t4, t5, (fun q => by rw [q] at t6; cases t6), t7⟩ al rfl
  obtain ⟨v, B, X', ⟨⟨hv, E', V', q1, q2, q3, q4, q5, q6, q7, q8, q9, q10, q11⟩, hl, hc, hs⟩, st⟩ := New1.pays x D fV fC b A z (tab_of (moved hZ hw)) hfr hlo m meth c P g ig mk _ X hg hsize hdg hW hn ⟨r1, r2, rfl, hB, F1, F2, hA, hS, hz, l0, l2, hp⟩
  have al' : Z.vm.Alike B.U.vm := hZ.alike.trans X'.warmed.alike
  have hsz : E'.slots.size = D.slots.size := by
    obtain ⟨-, -, -, kB, w1, w2, w3⟩ := q1
    obtain ⟨kB', y1, y2⟩ := al'.2.2 _ _ e3
    rw [q2.2.1] at w1
    cases w1.symm.trans y1
    rw [w3, e5 i3, y2]
  refine ⟨v, B, X', ⟨_, ⟨hv, ?_, ⟨by omega, fun y cy hy hn' => q10 y cy (by simpa using hn') hy, fun y cy hy => ?_⟩, q11, ⟨E', _, q1.1, by rw [q2.2.1]; exact e2, by rw [q2.2.1]; exact e3, by rw [q2.1]; exact obV, fun _ => by rw [hsz]; exact e5 i3⟩,
    ⟨E', cfV, kV, iV, fV, q1.1, gV, stV, by rw [q2.1]; exact knV, by rw [q2.1]; exact obV, by rw [q2.2.1]; exact asV, q3⟩, ⟨E', cfC, kC, iC, fC, q1.1, gC, stC, by rw [q2.1]; exact knV, by rw [q2.1]; exact obV, by rw [q2.2.1]; exact asC, q4⟩,
    ⟨V', ⟨q5.1, State.isArrayOf_alike al'.symm q5.2.1, q5.2.2.1⟩, q6, by rw [← al'.findClass]; exact q7, q8, fun j hj => by have := q9 j hj; rwa [Nat.zero_add] at this⟩, fun O n d w F n1 n2 => ?_⟩, hl, hc, hs⟩, st⟩
  · intro y hy
    simp only [List.mem_cons, List.not_mem_nil, or_false] at hy
    rcases hy with rfl | rfl <;> rfl
  · by_cases q : y = x
    · subst q
      cases hD.symm.trans hy
      exact ⟨E', q1.1, q2.2.1, q2.1, hsz⟩
    · exact ⟨cy, q10 y cy q hy, rfl, rfl, rfl⟩
  · obtain ⟨D3, cf, k, i, f, g1, g2, g3, g4, g5, g6, g7⟩ := F
    cases hD.symm.trans g1
    simp only [RoadKit.slotOf, g2, gV, gC, Option.map_some, Option.getD_some] at n1 n2
    exact ⟨E', cf, k, i, f, q1.1, g2, g3, by rw [q2.1]; exact g4, by rw [q2.1]; exact g5, by rw [q2.2.1]; exact g6, by rw [q2.2.2 f.slot (by simp [n1, n2])]; exact g7⟩
end StrChars.Road
namespace StrChars.Road
open Jvm Sem ClassFile Op Lib Jvm.Stand Jvm.Free Jvm.Free.XT
/-- WHAT COMES BACK, the byte[] as a list of values -/
def QA (Z : State) (x : Addr) (zn : Int32) (cs : List Int32) (h : Heap) (v : Option Value) (h' : Heap) (L : List Loc) : Prop := v = none ∧ (∀ y ∈ L, y.base = x) ∧ RoadKit.Keep h h' [x] ∧ h'.size = h.size + 1 ∧ RoadKit.Exa Z h' x ST ∧ RoadKit.Fld Z h' x ST "value" "[B" (.ref h.size) ∧ RoadKit.Fld Z h' x ST "coder" "B" (.int 0) ∧
  (∃ kb, Z.vm.findClass "[B" = some kb ∧ RoadKit.Arv Z h' h.size kb .byte zn (cs.map fun c => .int (lo8 c)) (.int 0)) ∧
  ∀ (O n d : String) (w : Value), RoadKit.Fld Z h x O n d w → RoadKit.slotOf Z O n d ≠ RoadKit.slotOf Z ST "value" "[B" → RoadKit.slotOf Z O n d ≠ RoadKit.slotOf Z ST "coder" "B" → RoadKit.Fld Z h' x O n d w
/-- **new String(chars) AT A CALL, THE ARRAYS AS LISTS**: the char[] at b holds cs, not empty, no char above 255 -/
theorem backArv {p : Program} {l : Launch} {e : Env} {R : Room} {s : State} {args : Array Value} {below : List Frame} {len W : Nat} {Z : State} {a0 : Array Value} {h : Heap} (hZ : Z.Warmed39 s.vm) (hw : ∀ d ∈ words, d.before a0 Z = true) {kI : Nat} (wi : (Jvm.Cond.instantiable ST kI).before a0 Z = true)
    {x b : Addr} {k : ClassId} {zn z : Int32} {cs : List Int32} {dv v0 c0 : Value} (E : RoadKit.Exa Z h x ST) (V : RoadKit.Fld Z h x ST "value" "[B" v0) (C : RoadKit.Fld Z h x ST "coder" "B" c0) (K : RoadKit.Arv Z h b k .char zn (cs.map Value.int) dv) (S : RoadKit.Sta Z h ST "COMPACT_STRINGS" "Z" (.int z)) (hz : ¬ z = 0)
    (hlen : zn.toNatClampNeg = cs.length) (h0 : 0 < cs.length) (hbig : cs.length ≤ 536870912) (hall : ∀ c ∈ cs, ¬ 255 < c) (hfr : 4 ≤ R.frames) (hlo : W + 65 ≤ R.locals) :
    Back l R p e below s args New1.yN len W (fun P a => a = #[.ref x, .ref b] ∧ P.U.heap = h ∧ P.cells + 1 ≤ R.cells ∧ P.slots + cs.length ≤ R.slots)
      (fun P _ v B => ∃ L, QA Z x zn cs h v B.U.heap L ∧ B.locs = P.locs ++ L ∧ B.cells = P.cells + 1 ∧ B.slots = P.slots + cs.length) := by
  obtain ⟨A, K1, K2, K3, K4, K5, K6⟩ := K
  have e : A.slots.size = cs.length := K3.trans hlen
  have hat : ∀ (i : Nat) (hi : i < cs.length), A.slots[i]? = some (.int cs[i]) := fun i hi => by rw [K5 i (by omega)]; simp [List.getD_eq_getElem?_getD, hi]
  have hcv : ∀ (i : Nat) (hi : i < cs.length), cv A i = cs[i] := fun i hi => by unfold cv; rw [hat i hi]
  have hty : Typed .char A := fun i v hv => by
    have hi : i < A.slots.size := (Array.getElem?_eq_some_iff.mp hv).1
    have q := K5 i hi
    rw [hv] at q
    rw [Option.some.inj q]
    exact K6 i hi
  refine Back.mono (back hZ hw wi E V C K1 hty S hz (by omega) (by omega) (fun i hi => by rw [hcv i (by omega)]; exact hall _ (List.getElem_mem _)) hfr hlo) (fun P a hp => ⟨hp.1, hp.2.1, hp.2.2.1, by rw [e]; exact hp.2.2.2⟩) (fun P a v B hp hq => ?_)
  obtain ⟨L, ⟨q1, q2, q3, q4, q5, q6, q7, ⟨V', v1, v2, v3, v4, v5⟩, q9⟩, hl, hc, hs⟩ := hq
  refine ⟨L, ⟨q1, q2, q3, q4, q5, q6, q7, ⟨V'.cls, v3, V', v1, rfl, by rw [v4, e, hlen], K4, fun i hi => ?_, fun i hi => ?_⟩, q9⟩, hl, hc, by rw [hs, e]⟩
  · have hi' : i < cs.length := by omega
    rw [v5 i (by omega), hcv i hi']; simp [List.getD_eq_getElem?_getD, hi']
  · have hi' : i < cs.length := by omega
    simp only [List.getD_eq_getElem?_getD, List.getElem?_map, List.getElem?_eq_getElem hi', Option.map_some, Option.getD_some]
    exact fits_lo8 _
end StrChars.Road
namespace StrChars.Road
open Jvm Sem ClassFile Op Lib Jvm.Stand Jvm.Free Jvm.Free.XT
/-- WHAT COMES BACK, in the writer's own shape -/
def QV (Z : State) (x : Addr) (N : Int32) (bs : List Int32) (h : Heap) (n0 : Nat) (v : Option Value) (h' : Heap) (L : List Loc) : Prop := v = none ∧ RoadKit.Fr n0 L ∧ RoadKit.Keep h h' [x] ∧ RoadKit.Exa Z h' x ST ∧ RoadKit.Fld Z h' x ST "coder" "B" (.int 0) ∧
  ∃ (t : Addr) (kb : ClassId), n0 ≤ t ∧ h.size ≤ t ∧ ¬ t = x ∧ RoadKit.Fld Z h' x ST "value" "[B" (.ref t) ∧ RoadKit.Arv Z h' t kb .byte N (bs.map Value.int) (.int 0)
/-- **new String(chars) AT A CALL, FOR THE WRITER**: a char[] of n known ints, each 0 to 255 -/
theorem backV {p : Program} {l : Launch} {e : Env} {R : Room} {s : State} {args : Array Value} {below : List Frame} {len W : Nat} {Z : State} {a0 : Array Value} {h : Heap} (hZ : Z.Warmed39 s.vm) (hw : ∀ d ∈ words, d.before a0 Z = true) {kI : Nat} (wi : (Jvm.Cond.instantiable ST kI).before a0 Z = true)
    {x b : Addr} {kC : ClassId} {cs bs : List Int32} {d v0 c0 : Value} {z N : Int32} {n n0 : Nat} (hx0 : n0 ≤ x) (hh0 : n0 ≤ h.size) (E : RoadKit.Exa Z h x ST) (V : RoadKit.Fld Z h x ST "value" "[B" v0) (C : RoadKit.Fld Z h x ST "coder" "B" c0) (K : RoadKit.Arv Z h b kC .char N (cs.map Value.int) d) (S : RoadKit.Sta Z h ST "COMPACT_STRINGS" "Z" (.int z)) (hz : ¬ z = 0)
    (hn : cs.length = n) (hN : N = Int32.ofNat n) (l0 : 0 < n) (l2 : n ≤ 4000) (hp : ∀ c ∈ cs, ¬ c < 0 ∧ ¬ (255 : Int32) < c) (hb : bs = cs.map (fun c => c.toInt8.toInt32)) (hfr : 4 ≤ R.frames) (hlo : W + 65 ≤ R.locals) :
    Back l R p e below s args (⟨"java/lang/String", "<init>", "([C)V"⟩ : MethodName) len W (fun P a => a = #[.ref x, .ref b] ∧ P.U.heap = h ∧ P.cells + 1 ≤ R.cells ∧ P.slots + n ≤ R.slots)
      (fun P _ v B => ∃ L, QV Z x N bs h n0 v B.U.heap L ∧ B.locs = P.locs ++ L ∧ B.cells = P.cells + 1 ∧ B.slots = P.slots + n) := by
  subst hn hN hb
  refine Back.mono (backArv hZ hw wi E V C K S hz (n32 (by omega)) l0 (by omega) (fun c hc => (hp c hc).2) hfr hlo) (fun P a hp => hp) (fun P a v B hp hq => ?_)
  obtain ⟨L, ⟨q1, q2, q3, q4, q5, q6, q7, ⟨kb, v1, v2⟩, q9⟩, hl, hc, hs⟩ := hq
  exact ⟨L, ⟨q1, fun y hy => by rw [q2 y hy]; exact hx0, q3, q5, q7, h.size, kb, hh0, Nat.le_refl _, Nat.ne_of_gt E.lt, q6, by rw [List.map_map]; exact v2⟩, hl, hc, hs⟩
end StrChars.Road
end Jvm.Pilot.@@N@@
namespace Jvm.Pilot.@@N@@
open Jvm Jvm.ClassFile Sem Op Lib Jvm.Free Jvm.Stand Jvm.LawKit Jvm.RoadKit Bundle Jvm.Pilot.@@N@@.Jvm.D
theorem own_eqI {args : Array Value} {first s : State} {o : Option Outcome} {idx : List Nat} {t : Term} {k : Int32} (h : (Jvm.Cond.eq t (Term.int k)).value args first o s idx = some true) : t.eval args first o idx s = some (.int k) := by
  simp only [Cond.value, Term.eval] at h
  cases ht : t.eval args first o idx s with
  | none => simp [ht] at h
  | some x => cases x <;> simp [ht] at h ⊢; exact h
theorem own_eqR {args : Array Value} {first s : State} {o : Option Outcome} {idx : List Nat} {t u : Term} {x : Addr} (h : (Jvm.Cond.eq t u).value args first o s idx = some true) (hu : u.eval args first o idx s = some (.ref x)) : t.eval args first o idx s = some (.ref x) := by
  simp only [Cond.value, hu] at h
  cases ht : t.eval args first o idx s with
  | none => simp [ht] at h
  | some y => cases y <;> simp [ht] at h ⊢; exact h
theorem own_lenI {args : Array Value} {s : State} {t : Term} {x : Addr} {cl : Cell} {ty : FieldType} {n : Int32} (ev : t.eval args s none [] s = some (.ref x)) (A : Arr s s.heap x cl ty) (ln : (Term.length t).eval args s none [] s = some (.int n)) : cl.slots.size < 2 ^ 31 ∧ cl.slots.size.toInt32 = n := by
  have harr : s.arrayAt? x = some cl := Arr.fin (Vm.Alike.refl _) A
  by_cases h : cl.slots.size < 2 ^ 31
  · have e := len_f ev harr h
    exact ⟨h, Value.int.inj (Option.some.inj (e.symm.trans ln))⟩
  · exfalso
    simp [Term.eval, ev, harr, h] at ln
theorem own_neI {args : Array Value} {first s : State} {o : Option Outcome} {idx : List Nat} {t : Term} {k x : Int32} (h : (Jvm.Cond.not (Jvm.Cond.eq t (Term.int k))).value args first o s idx = some true) (e : t.eval args first o idx s = some (.int x)) : ¬ (x = k) := by
  have q := not_v h
  simp only [Cond.value, Term.eval, e] at q
  simpa using q

theorem own_wS {Z : State} {a0 : Array Value} (hw : ∀ d ∈ tables_1, d.before a0 Z = true) : ∀ a ∈ Bundle.stringAtoms, a.before a0 Z = true := by
  intro d hd
  simp only [Bundle.stringAtoms, Bundle.sN, List.mem_cons, List.not_mem_nil, or_false] at hd
  rcases hd with rfl | rfl | rfl | rfl | rfl | rfl | rfl
  · exact (hw _ (List.mem_of_getElem? (i := 7) rfl))
  · exact (hw _ (List.mem_of_getElem? (i := 6) rfl))
  · exact (hw _ (List.mem_of_getElem? (i := 19) rfl))
  · exact (hw _ (List.mem_of_getElem? (i := 20) rfl))
  · exact (hw _ (List.mem_of_getElem? (i := 21) rfl))
  · exact (hw _ (List.mem_of_getElem? (i := 22) rfl))
  · exact (hw _ (List.mem_of_getElem? (i := 23) rfl))
theorem own_words {Z : State} {a0 : Array Value} (hw : ∀ d ∈ tables_1, d.before a0 Z = true) : ∀ d ∈ StrChars.Road.words, d.before a0 Z = true := fun d hd => hw d ((by decide +kernel : ∀ d ∈ StrChars.Road.words, d ∈ tables_1) d hd)
def own_EL : List (String × Nat) := [("java/lang/String", 7)]
theorem own_EW {Z : State} {a0 : Array Value} (hw : ∀ d ∈ tables_1, d.before a0 Z = true) : EW Z a0 own_EL := EW.cons (own := "java/lang/String") (index := 7) (text := "") (hw _ (List.mem_of_getElem? (i := 18) rfl)) (by decide) EW.nil
theorem own_backI {p : Program} {l : Launch} {e : Env} {R : Room} {s : State} {args : Array Value} {below : List Frame} {Z : State} {a0 : Array Value} {EL : List (String × Nat)} {h : Heap} {y : MethodName} {bytes : ByteArray} {maxL : Nat} {ret : Option FieldType} {rm : Room} {len W : Nat} {as' : Array Value} {Q : Option Value → Heap → List Loc → Prop}
    (hM : MetFree l y (head1 [Jvm.Cond.code y bytes maxL ret] rm) (fun a U => a = as' ∧ Z.Warmed39 U.vm ∧ U.heap = h ∧ CHv Z EL U.vm h) (fun _ _ _ _ _ => True) (fun _ U o U' => ∃ v L, o = .returned v ∧ Q v U'.heap L ∧ ReturnedEndW U o U' L rm.cells rm.slots))
    (hZ : Z.Warmed39 s.vm) (wc : (Jvm.Cond.code y bytes maxL ret).before a0 Z = true) (wz : (Jvm.Cond.initialized y.cls).before a0 Z = true) (hf : rm.frames + 1 ≤ R.frames) (hl : W + (maxL + 11) + rm.locals ≤ R.locals) (hEL : EW Z a0 EL) (H : CHv Z EL s.vm h) :
    BackS l R p e below s args y len W (fun A a => a = as' ∧ A.U.heap = h ∧ A.cells + rm.cells ≤ R.cells ∧ A.slots + rm.slots ≤ R.slots)
      (fun A _ v B => ∃ L, Q v B.U.heap L ∧ B.locs = A.locs ++ L ∧ B.cells = A.cells + rm.cells ∧ B.slots = A.slots + rm.slots) :=
  BackS.of_freeW (bytes := bytes) (maxL := maxL) (ret := ret) (E := fun _ _ o t L k n => k = rm.cells ∧ n = rm.slots ∧ ∃ v, o = .returned v ∧ Q v t.heap L) hM hf hl
    (fun m meth c A a Y hp => by
      have hU : Z.Warmed39 A.U.vm := wtrans hZ Y.warmed
      refine ⟨?_, mv hU wc, mv hU wz, hp.2.2.1, hp.2.2.2⟩
      show (Jvm.Cond.and _ .tt).before a A.U = true
      rw [Cond.before_and, mv hU wc]
      rfl)
    (fun m meth c A a g mk Y hp => ⟨hp.1, wtrans hZ Y.warmed, hp.2.1, (CHv.at (s := s) (vm0 := s.vm) Y hZ hEL H).1⟩) (fun _ _ _ _ _ _ _ _ _ => trivial)
    (fun _ _ _ _ ⟨v, L, h1, h2, h3⟩ => ⟨L, _, _, h3, rfl, rfl, v, h1, h2⟩)
    (fun m meth c A a g mk v t L k n Y hp _ _ ⟨e1, e2, v', e3, e4⟩ => by cases e3; subst e1 e2; exact ⟨L, e4, rfl, rfl, rfl⟩)
theorem own_ne_arr {Z : State} {a0 : Array Value} {h : Heap} {x b : Addr} {k : ClassId} {ty : FieldType} {n : Int32} {vs : List Value} {d : Value} {C : String} {nn : Nat} (wi : (Jvm.Cond.instantiable C nn).before a0 Z = true) (E : Exa Z h x C) (A : Arv Z h b k ty n vs d) : b ≠ x := by
  intro e
  subst e
  obtain ⟨cell, kc, e1, e2, e3, -, -⟩ := E
  obtain ⟨c, ⟨A1, ⟨-, kA, hkA, comp, hkind⟩, -⟩, -⟩ := A
  obtain ⟨t, kt, g1, g2, g3, -⟩ := Cond.instantiable_spec wi
  have ec : c = cell := Option.some.inj (A1.symm.trans e1)
  subst ec
  have q1 : t = c.cls := Option.some.inj (g1.symm.trans e2)
  rw [q1] at g2
  have q2 : kt = kA := Option.some.inj (g2.symm.trans hkA)
  rw [q2, hkind] at g3
  cases g3
theorem own_len_ne {Z : State} {h : Heap} {a b : Addr} {k k' : ClassId} {ty ty' : FieldType} {n n' : Int32} {vs vs' : List Value} {d d' : Value} (A : Arv Z h a k ty n vs d) (B : Arv Z h b k' ty' n' vs' d') (q : n.toNatClampNeg ≠ n'.toNatClampNeg) : a ≠ b := by
  intro e
  subst e
  obtain ⟨c, A1, -, s1, -⟩ := A
  obtain ⟨c', B1, -, s2, -⟩ := B
  cases A1.1.symm.trans B1.1
  exact q (s1.symm.trans s2)
theorem d11_0 : decode prog_7_method_4_code 0 = .ok (.aload_n 0, 1) := by decide +kernel
theorem d11_1 : decode prog_7_method_4_code 1 = .ok (.getfield 29, 3) := by decide +kernel
theorem d11_4 : decode prog_7_method_4_code 4 = .ok (.areturn, 1) := by decide +kernel
theorem pn_11 : plainName "com/example/matchbook/matchbook/Pricing" = true := by first | (simp [plainName, overriddenIn]; done) | decide +kernel
theorem ef_11 (m : MethodId) (x0 : Addr) : entryFrame m #[(.ref x0)] 1 = mkF m 0 #[.val (.ref x0)] [] := by first | (simp [entryFrame, mkF, argsToLocals, Value.category]; done) | rfl
def F11 (f_label_a1 : Addr) : Addr :=
  f_label_a1
def Q11 (Z : State) (a1 : Addr) (f_label_a1 : Addr) (h0 : Heap) (n0 : Nat) (v : Option Value) (h : Heap) (L : List Loc) : Prop := v = some (.ref (F11 f_label_a1)) ∧ Fr n0 L ∧ h = h0
set_option maxRecDepth 65536 in
set_option maxHeartbeats 40000000 in
theorem rm11 (l : Launch) (Z : State) (a0 : Array Value) (hw : ∀ d ∈ tables_1, d.before a0 Z = true) (ws : List Jvm.Cond) (a1 : Addr) (f_label_a1 : Addr) (h0 : Heap) (n0 : Nat) (Z0 : n0 ≤ h0.size) (F_f_label_a1 : Fld Z h0 a1 "com/example/matchbook/matchbook/Pricing" "label" "Ljava/lang/String;" (.ref f_label_a1)) :
    MetFree l (⟨"com/example/matchbook/matchbook/Pricing", "label", "()Ljava/lang/String;"⟩ : MethodName) (head1 (Jvm.Cond.code (⟨"com/example/matchbook/matchbook/Pricing", "label", "()Ljava/lang/String;"⟩ : MethodName) prog_7_method_4_code 1 (some (.object "java/lang/String")) :: ws) ({ frames := 0, cells := 0, slots := 0, locals := 0 } : Room)) (fun a U => a = #[(.ref a1)] ∧ Z.Warmed39 U.vm ∧ U.heap = h0) (fun _ _ _ _ _ => True) (fun _ U o U' => ∃ v L, o = .returned v ∧ Q11 Z a1 f_label_a1 h0 n0 v U'.heap L ∧ FrameEnd U o U' L ({ frames := 0, cells := 0, slots := 0, locals := 0 } : Room).cells ({ frames := 0, cells := 0, slots := 0, locals := 0 } : Room).slots) := by
  refine MetFree.of_bodySF (plainFor_of_name pn_11) hisR ?_
  intro p e s m args below meth c s₁ Bd hml0 hP hK
  obtain ⟨rfl, hZ, hh⟩ := hP
  have hx := Bd.exec
  have hby := Bd.bytes
  have hml : c.maxLocals = 1 := hml0
  have hown : s.vm.findClass "com/example/matchbook/matchbook/Pricing" = some m.cls := findClass_of_methodNamed Bd.named
  have hnm := (name_of_methodNamed Bd.named Bd.method).1
  have hret := Bd.returns
  have hlocks : meth.locks = false := Bd.notSynchronized
  have X0 : Stand p l e ({ frames := 0, cells := 0, slots := 0, locals := 0 } : Room) s m #[(.ref a1)] below meth c s₁ [] 0 0 := Stand.of_body Bd
  have e0 : s₁.heap = h0 := by rw [← hh, Bd.state]; rfl
  have N0 := Fr.nil n0
  have pre0 : ∀ t, Steps p.tables e below (s₁.setTop (mkF m 0 #[.val (.ref a1)] [])) t → Steps p.tables e below (s₁.setTop (entryFrame m #[(.ref a1)] 1)) t := fun t k => castTop (ef_11 m a1) k
  have pre1 : ∀ t, Steps p.tables e below (s₁.setTop (mkF m 1 #[.val (.ref a1)] [(.ref a1)])) t → Steps p.tables e below (s₁.setTop (entryFrame m #[(.ref a1)] 1)) t := by
    intro t k
    refine pre0 _ ?_
    show Steps p.tables e below (s₁.setTop (mkF m 0 #[.val (.ref a1)] [])) _
    refine XS.aloadN X0.here hx rfl (hb hby d11_0) rfl rfl ?_
    exact k
  obtain ⟨T2, X2, e2, st2⟩ := getF X0 hx hZ hown (host := "") (Or.inl (hw _ (List.mem_of_getElem? (i := 78) rfl))) Via.refl e0 F_f_label_a1 (g := (mkF m 1 #[.val (.ref a1)] [(.ref a1)])) rfl rfl (hb hby d11_1)
  have pre3 : ∀ t, Steps p.tables e below (T2.setTop (mkF m 4 #[.val (.ref a1)] [(.ref f_label_a1)])) t → Steps p.tables e below (s₁.setTop (entryFrame m #[(.ref a1)] 1)) t := by
    intro t k
    refine pre1 _ ?_
    show Steps p.tables e below (s₁.setTop (mkF m 1 #[.val (.ref a1)] [(.ref a1)])) _
    refine st2 _ ?_
    exact k
  obtain ⟨fs, hr, hrun, hended, hW, hsame⟩ := X2.leave (v := some (.ref f_label_a1)) (fun h => by rw [hret] at h; cases h) (hlocks := hlocks)
  refine ⟨_, _, pre3 _ ?_, hrun, hended, _, _, rfl, ?_, ⟨_, rfl⟩, hW, hsame.mono (by decide) (by decide)⟩
  · show Steps p.tables e below (T2.setTop (mkF m 4 #[.val (.ref a1)] [(.ref f_label_a1)])) _
    exact Jvm.RoadKit.retOut X2 hx hret rfl (Or.inr (Or.inr (Or.inr (Or.inr ⟨rfl, rfl, rfl⟩)))) (hb hby d11_4) hr
  · show Q11 Z a1 f_label_a1 h0 n0 _ T2.heap _
    exact ⟨(by rw [F11]), N0, e2⟩
theorem d13_0 : decode jdk_43_method_13_code 0 = .ok (.aload_n 0, 1) := by decide +kernel
theorem d13_1 : decode jdk_43_method_13_code 1 = .ok (.arraylength, 1) := by decide +kernel
theorem d13_2 : decode jdk_43_method_13_code 2 = .ok (.aload_n 1, 1) := by decide +kernel
theorem d13_3 : decode jdk_43_method_13_code 3 = .ok (.arraylength, 1) := by decide +kernel
theorem d13_4 : decode jdk_43_method_13_code 4 = .ok (.if_icmp .ne 30, 3) := by decide +kernel
theorem d13_7 : decode jdk_43_method_13_code 7 = .ok (.iconst 0, 1) := by decide +kernel
theorem d13_8 : decode jdk_43_method_13_code 8 = .ok (.istore_n 2, 1) := by decide +kernel
theorem d13_9 : decode jdk_43_method_13_code 9 = .ok (.iload_n 2, 1) := by decide +kernel
theorem d13_10 : decode jdk_43_method_13_code 10 = .ok (.aload_n 0, 1) := by decide +kernel
theorem d13_11 : decode jdk_43_method_13_code 11 = .ok (.arraylength, 1) := by decide +kernel
theorem d13_12 : decode jdk_43_method_13_code 12 = .ok (.if_icmp .ge 20, 3) := by decide +kernel
theorem d13_15 : decode jdk_43_method_13_code 15 = .ok (.aload_n 0, 1) := by decide +kernel
theorem d13_16 : decode jdk_43_method_13_code 16 = .ok (.iload_n 2, 1) := by decide +kernel
theorem d13_17 : decode jdk_43_method_13_code 17 = .ok (.baload, 1) := by decide +kernel
theorem d13_18 : decode jdk_43_method_13_code 18 = .ok (.aload_n 1, 1) := by decide +kernel
theorem d13_19 : decode jdk_43_method_13_code 19 = .ok (.iload_n 2, 1) := by decide +kernel
theorem d13_20 : decode jdk_43_method_13_code 20 = .ok (.baload, 1) := by decide +kernel
theorem d13_21 : decode jdk_43_method_13_code 21 = .ok (.if_icmp .eq 5, 3) := by decide +kernel
theorem d13_26 : decode jdk_43_method_13_code 26 = .ok (.iinc 2 1, 3) := by decide +kernel
theorem d13_29 : decode jdk_43_method_13_code 29 = .ok (.goto (-20), 3) := by decide +kernel
theorem d13_32 : decode jdk_43_method_13_code 32 = .ok (.iconst 1, 1) := by decide +kernel
theorem d13_33 : decode jdk_43_method_13_code 33 = .ok (.ireturn, 1) := by decide +kernel
theorem pn_13 : plainName "java/lang/StringLatin1" = true := by first | (simp [plainName, overriddenIn]; done) | decide +kernel
theorem ef_13oo (m : MethodId) (x0 : Addr) (x1 : Addr) : entryFrame m #[(.ref x0), (.ref x1)] 3 = mkF m 0 #[.val (.ref x0), .val (.ref x1), .unset] [] := by first | (simp [entryFrame, mkF, argsToLocals, Value.category]; done) | rfl
def Q13oo (Z : State) (a1 : Addr) (a2 : Addr) (k1 : ClassId) (k2 : ClassId) (h0 : Heap) (n0 : Nat) (v : Option Value) (h : Heap) (L : List Loc) : Prop := v = some (.int (1 : Int32)) ∧ Fr n0 L ∧ h = h0
set_option maxRecDepth 65536 in
set_option maxHeartbeats 40000000 in
theorem rm13oo (l : Launch) (Z : State) (a0 : Array Value) (hw : ∀ d ∈ tables_1, d.before a0 Z = true) (ws : List Jvm.Cond) (a1 : Addr) (a2 : Addr) (k1 : ClassId) (k2 : ClassId) (h0 : Heap) (n0 : Nat) (Z0 : n0 ≤ h0.size) (A1 : Arv Z h0 a1 k1 .byte (9 : Int32) [.int (111 : Int32), .int (110 : Int32), .int (45 : Int32), .int (100 : Int32), .int (101 : Int32), .int (109 : Int32), .int (97 : Int32), .int (110 : Int32), .int (100 : Int32)] (.int (0 : Int32))) (A2 : Arv Z h0 a2 k2 .byte (9 : Int32) [.int (111 : Int32), .int (110 : Int32), .int (45 : Int32), .int (100 : Int32), .int (101 : Int32), .int (109 : Int32), .int (97 : Int32), .int (110 : Int32), .int (100 : Int32)] (.int (0 : Int32))) :
    MetFree l (⟨"java/lang/StringLatin1", "equals", "([B[B)Z"⟩ : MethodName) (head1 (Jvm.Cond.code (⟨"java/lang/StringLatin1", "equals", "([B[B)Z"⟩ : MethodName) jdk_43_method_13_code 3 (some .boolean) :: ws) ({ frames := 0, cells := 0, slots := 0, locals := 0 } : Room)) (fun a U => a = #[(.ref a1), (.ref a2)] ∧ Z.Warmed39 U.vm ∧ U.heap = h0) (fun _ _ _ _ _ => True) (fun _ U o U' => ∃ v L, o = .returned v ∧ Q13oo Z a1 a2 k1 k2 h0 n0 v U'.heap L ∧ FrameEnd U o U' L ({ frames := 0, cells := 0, slots := 0, locals := 0 } : Room).cells ({ frames := 0, cells := 0, slots := 0, locals := 0 } : Room).slots) := by
  refine MetFree.of_bodySF (plainFor_of_name pn_13) hisR ?_
  intro p e s m args below meth c s₁ Bd hml0 hP hK
  obtain ⟨rfl, hZ, hh⟩ := hP
  have hx := Bd.exec
  have hby := Bd.bytes
  have hml : c.maxLocals = 3 := hml0
  have hown : s.vm.findClass "java/lang/StringLatin1" = some m.cls := findClass_of_methodNamed Bd.named
  have hnm := (name_of_methodNamed Bd.named Bd.method).1
  have hret := Bd.returns
  have hlocks : meth.locks = false := Bd.notSynchronized
  have X0 : Stand p l e ({ frames := 0, cells := 0, slots := 0, locals := 0 } : Room) s m #[(.ref a1), (.ref a2)] below meth c s₁ [] 0 0 := Stand.of_body Bd
  have e0 : s₁.heap = h0 := by rw [← hh, Bd.state]; rfl
  have N0 := Fr.nil n0
  obtain ⟨cl1, Ar1, _, S1, N_1, H1, _⟩ := A1
  obtain ⟨cl2, Ar2, _, S2, N_2, H2, _⟩ := A2
  have pre0 : ∀ t, Steps p.tables e below (s₁.setTop (mkF m 0 #[.val (.ref a1), .val (.ref a2), .unset] [])) t → Steps p.tables e below (s₁.setTop (entryFrame m #[(.ref a1), (.ref a2)] 3)) t := fun t k => castTop (ef_13oo m a1 a2) k
  have pre4 : ∀ t, Steps p.tables e below (s₁.setTop (mkF m 4 #[.val (.ref a1), .val (.ref a2), .unset] [(.int (9 : Int32)), (.int (9 : Int32))])) t → Steps p.tables e below (s₁.setTop (entryFrame m #[(.ref a1), (.ref a2)] 3)) t := by
    intro t k
    refine pre0 _ ?_
    show Steps p.tables e below (s₁.setTop (mkF m 0 #[.val (.ref a1), .val (.ref a2), .unset] [])) _
    refine XS.aloadN X0.here hx rfl (hb hby d13_0) rfl rfl ?_
    show Steps p.tables e below (s₁.setTop (mkF m 1 #[.val (.ref a1), .val (.ref a2), .unset] [(.ref a1)])) _
    refine X0.arraylength hx (by rw [e0]; exact Ar1.1) (State.isArrayOf_alike hZ.alike Ar1.2.1) (g := (mkF m 1 #[.val (.ref a1), .val (.ref a2), .unset] [(.ref a1)])) rfl rfl (hb hby d13_1) _ ?_
    rw [len_of S1 N_1]
    show Steps p.tables e below (s₁.setTop (mkF m 2 #[.val (.ref a1), .val (.ref a2), .unset] [(.int (9 : Int32))])) _
    refine XS.aloadN X0.here hx rfl (hb hby d13_2) rfl rfl ?_
    show Steps p.tables e below (s₁.setTop (mkF m 3 #[.val (.ref a1), .val (.ref a2), .unset] [(.ref a2), (.int (9 : Int32))])) _
    refine X0.arraylength hx (by rw [e0]; exact Ar2.1) (State.isArrayOf_alike hZ.alike Ar2.2.1) (g := (mkF m 3 #[.val (.ref a1), .val (.ref a2), .unset] [(.ref a2), (.int (9 : Int32))])) rfl rfl (hb hby d13_3) _ ?_
    rw [len_of S2 N_2]
    exact k
  have pre6 : ∀ t, Steps p.tables e below (s₁.setTop (mkF m 7 #[.val (.ref a1), .val (.ref a2), .unset] [])) t → Steps p.tables e below (s₁.setTop (entryFrame m #[(.ref a1), (.ref a2)] 3)) t := by
    intro t k
    refine pre4 _ ?_
    show Steps p.tables e below (s₁.setTop (mkF m 4 #[.val (.ref a1), .val (.ref a2), .unset] [(.int (9 : Int32)), (.int (9 : Int32))])) _
    refine XS.icmpNo X0.here hx rfl (hb hby d13_4) rfl (teq (rfl : (9 : Int32) = (9 : Int32))).2 ?_
    exact k
  have pre7 : ∀ t, Steps p.tables e below (s₁.setTop (mkF m 12 #[.val (.ref a1), .val (.ref a2), .val (.int (0 : Int32))] [(.int (9 : Int32)), (.int (0 : Int32))])) t → Steps p.tables e below (s₁.setTop (entryFrame m #[(.ref a1), (.ref a2)] 3)) t := by
    intro t k
    refine pre6 _ ?_
    show Steps p.tables e below (s₁.setTop (mkF m 7 #[.val (.ref a1), .val (.ref a2), .unset] [])) _
    refine XS.iconst X0.here hx rfl (hb hby d13_7) ?_
    show Steps p.tables e below (s₁.setTop (mkF m 8 #[.val (.ref a1), .val (.ref a2), .unset] [(.int (0 : Int32))])) _
    refine XS.istoreN X0.here hx rfl (hb hby d13_8) rfl (l' := #[.val (.ref a1), .val (.ref a2), .val (.int (0 : Int32))]) rfl ?_
    show Steps p.tables e below (s₁.setTop (mkF m 9 #[.val (.ref a1), .val (.ref a2), .val (.int (0 : Int32))] [])) _
    refine XS.iloadN X0.here hx rfl (hb hby d13_9) rfl ?_
    show Steps p.tables e below (s₁.setTop (mkF m 10 #[.val (.ref a1), .val (.ref a2), .val (.int (0 : Int32))] [(.int (0 : Int32))])) _
    refine XS.aloadN X0.here hx rfl (hb hby d13_10) rfl rfl ?_
    show Steps p.tables e below (s₁.setTop (mkF m 11 #[.val (.ref a1), .val (.ref a2), .val (.int (0 : Int32))] [(.ref a1), (.int (0 : Int32))])) _
    refine X0.arraylength hx (by rw [e0]; exact Ar1.1) (State.isArrayOf_alike hZ.alike Ar1.2.1) (g := (mkF m 11 #[.val (.ref a1), .val (.ref a2), .val (.int (0 : Int32))] [(.ref a1), (.int (0 : Int32))])) rfl rfl (hb hby d13_11) _ ?_
    rw [len_of S1 N_1]
    exact k
  have pre9 : ∀ t, Steps p.tables e below (s₁.setTop (mkF m 15 #[.val (.ref a1), .val (.ref a2), .val (.int (0 : Int32))] [])) t → Steps p.tables e below (s₁.setTop (entryFrame m #[(.ref a1), (.ref a2)] 3)) t := by
    intro t k
    refine pre7 _ ?_
    show Steps p.tables e below (s₁.setTop (mkF m 12 #[.val (.ref a1), .val (.ref a2), .val (.int (0 : Int32))] [(.int (9 : Int32)), (.int (0 : Int32))])) _
    refine XS.icmpNo X0.here hx rfl (hb hby d13_12) rfl (tlt (by decide : (0 : Int32) < (9 : Int32))).2.1 ?_
    exact k
  have pre10 : ∀ t, Steps p.tables e below (s₁.setTop (mkF m 21 #[.val (.ref a1), .val (.ref a2), .val (.int (0 : Int32))] [(.int (111 : Int32)), (.int (111 : Int32))])) t → Steps p.tables e below (s₁.setTop (entryFrame m #[(.ref a1), (.ref a2)] 3)) t := by
    intro t k
    refine pre9 _ ?_
    show Steps p.tables e below (s₁.setTop (mkF m 15 #[.val (.ref a1), .val (.ref a2), .val (.int (0 : Int32))] [])) _
    refine XS.aloadN X0.here hx rfl (hb hby d13_15) rfl rfl ?_
    show Steps p.tables e below (s₁.setTop (mkF m 16 #[.val (.ref a1), .val (.ref a2), .val (.int (0 : Int32))] [(.ref a1)])) _
    refine XS.iloadN X0.here hx rfl (hb hby d13_16) rfl ?_
    show Steps p.tables e below (s₁.setTop (mkF m 17 #[.val (.ref a1), .val (.ref a2), .val (.int (0 : Int32))] [(.int (0 : Int32)), (.ref a1)])) _
    refine X0.baloadBytes hx (j := (0 : Int32)) (v := (.int (111 : Int32))) (by rw [e0]; exact Ar1.1) (State.isArrayOf_alike hZ.alike Ar1.2.1) Ar1.2.2 (inb_of S1 ⟨by decide, by decide⟩) (Has.at (v := (.int (111 : Int32))) H1 (inb_of S1 ⟨by decide, by decide⟩) rfl) (g := (mkF m 17 #[.val (.ref a1), .val (.ref a2), .val (.int (0 : Int32))] [(.int (0 : Int32)), (.ref a1)])) rfl rfl (hb hby d13_17) _ ?_
    show Steps p.tables e below (s₁.setTop (mkF m 18 #[.val (.ref a1), .val (.ref a2), .val (.int (0 : Int32))] [(.int (111 : Int32))])) _
    refine XS.aloadN X0.here hx rfl (hb hby d13_18) rfl rfl ?_
    show Steps p.tables e below (s₁.setTop (mkF m 19 #[.val (.ref a1), .val (.ref a2), .val (.int (0 : Int32))] [(.ref a2), (.int (111 : Int32))])) _
    refine XS.iloadN X0.here hx rfl (hb hby d13_19) rfl ?_
    show Steps p.tables e below (s₁.setTop (mkF m 20 #[.val (.ref a1), .val (.ref a2), .val (.int (0 : Int32))] [(.int (0 : Int32)), (.ref a2), (.int (111 : Int32))])) _
    refine X0.baloadBytes hx (j := (0 : Int32)) (v := (.int (111 : Int32))) (by rw [e0]; exact Ar2.1) (State.isArrayOf_alike hZ.alike Ar2.2.1) Ar2.2.2 (inb_of S2 ⟨by decide, by decide⟩) (Has.at (v := (.int (111 : Int32))) H2 (inb_of S2 ⟨by decide, by decide⟩) rfl) (g := (mkF m 20 #[.val (.ref a1), .val (.ref a2), .val (.int (0 : Int32))] [(.int (0 : Int32)), (.ref a2), (.int (111 : Int32))])) rfl rfl (hb hby d13_20) _ ?_
    exact k
  have pre12 : ∀ t, Steps p.tables e below (s₁.setTop (mkF m 26 #[.val (.ref a1), .val (.ref a2), .val (.int (0 : Int32))] [])) t → Steps p.tables e below (s₁.setTop (entryFrame m #[(.ref a1), (.ref a2)] 3)) t := by
    intro t k
    refine pre10 _ ?_
    show Steps p.tables e below (s₁.setTop (mkF m 21 #[.val (.ref a1), .val (.ref a2), .val (.int (0 : Int32))] [(.int (111 : Int32)), (.int (111 : Int32))])) _
    refine XS.icmpYes X0.here hx rfl (pc0 := 21) (pc' := 26) rfl (hb hby d13_21) rfl (teq (rfl : (111 : Int32) = (111 : Int32))).1 (by decide) (by decide) ?_
    exact k
  have pre13 : ∀ t, Steps p.tables e below (s₁.setTop (mkF m 12 #[.val (.ref a1), .val (.ref a2), .val (.int (1 : Int32))] [(.int (9 : Int32)), (.int (1 : Int32))])) t → Steps p.tables e below (s₁.setTop (entryFrame m #[(.ref a1), (.ref a2)] 3)) t := by
    intro t k
    refine pre12 _ ?_
    show Steps p.tables e below (s₁.setTop (mkF m 26 #[.val (.ref a1), .val (.ref a2), .val (.int (0 : Int32))] [])) _
    refine XS.iinc X0.here hx rfl (hb hby d13_26) rfl (l' := #[.val (.ref a1), .val (.ref a2), .val (.int (1 : Int32))]) rfl ?_
    show Steps p.tables e below (s₁.setTop (mkF m 29 #[.val (.ref a1), .val (.ref a2), .val (.int (1 : Int32))] [])) _
    refine XS.goto X0.here hx rfl (pc0 := 29) (pc' := 9) rfl (hb hby d13_29) (by decide) (by decide) ?_
    show Steps p.tables e below (s₁.setTop (mkF m 9 #[.val (.ref a1), .val (.ref a2), .val (.int (1 : Int32))] [])) _
    refine XS.iloadN X0.here hx rfl (hb hby d13_9) rfl ?_
    show Steps p.tables e below (s₁.setTop (mkF m 10 #[.val (.ref a1), .val (.ref a2), .val (.int (1 : Int32))] [(.int (1 : Int32))])) _
    refine XS.aloadN X0.here hx rfl (hb hby d13_10) rfl rfl ?_
    show Steps p.tables e below (s₁.setTop (mkF m 11 #[.val (.ref a1), .val (.ref a2), .val (.int (1 : Int32))] [(.ref a1), (.int (1 : Int32))])) _
    refine X0.arraylength hx (by rw [e0]; exact Ar1.1) (State.isArrayOf_alike hZ.alike Ar1.2.1) (g := (mkF m 11 #[.val (.ref a1), .val (.ref a2), .val (.int (1 : Int32))] [(.ref a1), (.int (1 : Int32))])) rfl rfl (hb hby d13_11) _ ?_
    rw [len_of S1 N_1]
    exact k
  have pre15 : ∀ t, Steps p.tables e below (s₁.setTop (mkF m 15 #[.val (.ref a1), .val (.ref a2), .val (.int (1 : Int32))] [])) t → Steps p.tables e below (s₁.setTop (entryFrame m #[(.ref a1), (.ref a2)] 3)) t := by
    intro t k
    refine pre13 _ ?_
    show Steps p.tables e below (s₁.setTop (mkF m 12 #[.val (.ref a1), .val (.ref a2), .val (.int (1 : Int32))] [(.int (9 : Int32)), (.int (1 : Int32))])) _
    refine XS.icmpNo X0.here hx rfl (hb hby d13_12) rfl (tlt (by decide : (1 : Int32) < (9 : Int32))).2.1 ?_
    exact k
  have pre16 : ∀ t, Steps p.tables e below (s₁.setTop (mkF m 21 #[.val (.ref a1), .val (.ref a2), .val (.int (1 : Int32))] [(.int (110 : Int32)), (.int (110 : Int32))])) t → Steps p.tables e below (s₁.setTop (entryFrame m #[(.ref a1), (.ref a2)] 3)) t := by
    intro t k
    refine pre15 _ ?_
    show Steps p.tables e below (s₁.setTop (mkF m 15 #[.val (.ref a1), .val (.ref a2), .val (.int (1 : Int32))] [])) _
    refine XS.aloadN X0.here hx rfl (hb hby d13_15) rfl rfl ?_
    show Steps p.tables e below (s₁.setTop (mkF m 16 #[.val (.ref a1), .val (.ref a2), .val (.int (1 : Int32))] [(.ref a1)])) _
    refine XS.iloadN X0.here hx rfl (hb hby d13_16) rfl ?_
    show Steps p.tables e below (s₁.setTop (mkF m 17 #[.val (.ref a1), .val (.ref a2), .val (.int (1 : Int32))] [(.int (1 : Int32)), (.ref a1)])) _
    refine X0.baloadBytes hx (j := (1 : Int32)) (v := (.int (110 : Int32))) (by rw [e0]; exact Ar1.1) (State.isArrayOf_alike hZ.alike Ar1.2.1) Ar1.2.2 (inb_of S1 ⟨by decide, by decide⟩) (Has.at (v := (.int (110 : Int32))) H1 (inb_of S1 ⟨by decide, by decide⟩) rfl) (g := (mkF m 17 #[.val (.ref a1), .val (.ref a2), .val (.int (1 : Int32))] [(.int (1 : Int32)), (.ref a1)])) rfl rfl (hb hby d13_17) _ ?_
    show Steps p.tables e below (s₁.setTop (mkF m 18 #[.val (.ref a1), .val (.ref a2), .val (.int (1 : Int32))] [(.int (110 : Int32))])) _
    refine XS.aloadN X0.here hx rfl (hb hby d13_18) rfl rfl ?_
    show Steps p.tables e below (s₁.setTop (mkF m 19 #[.val (.ref a1), .val (.ref a2), .val (.int (1 : Int32))] [(.ref a2), (.int (110 : Int32))])) _
    refine XS.iloadN X0.here hx rfl (hb hby d13_19) rfl ?_
    show Steps p.tables e below (s₁.setTop (mkF m 20 #[.val (.ref a1), .val (.ref a2), .val (.int (1 : Int32))] [(.int (1 : Int32)), (.ref a2), (.int (110 : Int32))])) _
    refine X0.baloadBytes hx (j := (1 : Int32)) (v := (.int (110 : Int32))) (by rw [e0]; exact Ar2.1) (State.isArrayOf_alike hZ.alike Ar2.2.1) Ar2.2.2 (inb_of S2 ⟨by decide, by decide⟩) (Has.at (v := (.int (110 : Int32))) H2 (inb_of S2 ⟨by decide, by decide⟩) rfl) (g := (mkF m 20 #[.val (.ref a1), .val (.ref a2), .val (.int (1 : Int32))] [(.int (1 : Int32)), (.ref a2), (.int (110 : Int32))])) rfl rfl (hb hby d13_20) _ ?_
    exact k
  have pre18 : ∀ t, Steps p.tables e below (s₁.setTop (mkF m 26 #[.val (.ref a1), .val (.ref a2), .val (.int (1 : Int32))] [])) t → Steps p.tables e below (s₁.setTop (entryFrame m #[(.ref a1), (.ref a2)] 3)) t := by
    intro t k
    refine pre16 _ ?_
    show Steps p.tables e below (s₁.setTop (mkF m 21 #[.val (.ref a1), .val (.ref a2), .val (.int (1 : Int32))] [(.int (110 : Int32)), (.int (110 : Int32))])) _
    refine XS.icmpYes X0.here hx rfl (pc0 := 21) (pc' := 26) rfl (hb hby d13_21) rfl (teq (rfl : (110 : Int32) = (110 : Int32))).1 (by decide) (by decide) ?_
    exact k
  have pre19 : ∀ t, Steps p.tables e below (s₁.setTop (mkF m 12 #[.val (.ref a1), .val (.ref a2), .val (.int (2 : Int32))] [(.int (9 : Int32)), (.int (2 : Int32))])) t → Steps p.tables e below (s₁.setTop (entryFrame m #[(.ref a1), (.ref a2)] 3)) t := by
    intro t k
    refine pre18 _ ?_
    show Steps p.tables e below (s₁.setTop (mkF m 26 #[.val (.ref a1), .val (.ref a2), .val (.int (1 : Int32))] [])) _
    refine XS.iinc X0.here hx rfl (hb hby d13_26) rfl (l' := #[.val (.ref a1), .val (.ref a2), .val (.int (2 : Int32))]) rfl ?_
    show Steps p.tables e below (s₁.setTop (mkF m 29 #[.val (.ref a1), .val (.ref a2), .val (.int (2 : Int32))] [])) _
    refine XS.goto X0.here hx rfl (pc0 := 29) (pc' := 9) rfl (hb hby d13_29) (by decide) (by decide) ?_
    show Steps p.tables e below (s₁.setTop (mkF m 9 #[.val (.ref a1), .val (.ref a2), .val (.int (2 : Int32))] [])) _
    refine XS.iloadN X0.here hx rfl (hb hby d13_9) rfl ?_
    show Steps p.tables e below (s₁.setTop (mkF m 10 #[.val (.ref a1), .val (.ref a2), .val (.int (2 : Int32))] [(.int (2 : Int32))])) _
    refine XS.aloadN X0.here hx rfl (hb hby d13_10) rfl rfl ?_
    show Steps p.tables e below (s₁.setTop (mkF m 11 #[.val (.ref a1), .val (.ref a2), .val (.int (2 : Int32))] [(.ref a1), (.int (2 : Int32))])) _
    refine X0.arraylength hx (by rw [e0]; exact Ar1.1) (State.isArrayOf_alike hZ.alike Ar1.2.1) (g := (mkF m 11 #[.val (.ref a1), .val (.ref a2), .val (.int (2 : Int32))] [(.ref a1), (.int (2 : Int32))])) rfl rfl (hb hby d13_11) _ ?_
    rw [len_of S1 N_1]
    exact k
  have pre21 : ∀ t, Steps p.tables e below (s₁.setTop (mkF m 15 #[.val (.ref a1), .val (.ref a2), .val (.int (2 : Int32))] [])) t → Steps p.tables e below (s₁.setTop (entryFrame m #[(.ref a1), (.ref a2)] 3)) t := by
    intro t k
    refine pre19 _ ?_
    show Steps p.tables e below (s₁.setTop (mkF m 12 #[.val (.ref a1), .val (.ref a2), .val (.int (2 : Int32))] [(.int (9 : Int32)), (.int (2 : Int32))])) _
    refine XS.icmpNo X0.here hx rfl (hb hby d13_12) rfl (tlt (by decide : (2 : Int32) < (9 : Int32))).2.1 ?_
    exact k
  have pre22 : ∀ t, Steps p.tables e below (s₁.setTop (mkF m 21 #[.val (.ref a1), .val (.ref a2), .val (.int (2 : Int32))] [(.int (45 : Int32)), (.int (45 : Int32))])) t → Steps p.tables e below (s₁.setTop (entryFrame m #[(.ref a1), (.ref a2)] 3)) t := by
    intro t k
    refine pre21 _ ?_
    show Steps p.tables e below (s₁.setTop (mkF m 15 #[.val (.ref a1), .val (.ref a2), .val (.int (2 : Int32))] [])) _
    refine XS.aloadN X0.here hx rfl (hb hby d13_15) rfl rfl ?_
    show Steps p.tables e below (s₁.setTop (mkF m 16 #[.val (.ref a1), .val (.ref a2), .val (.int (2 : Int32))] [(.ref a1)])) _
    refine XS.iloadN X0.here hx rfl (hb hby d13_16) rfl ?_
    show Steps p.tables e below (s₁.setTop (mkF m 17 #[.val (.ref a1), .val (.ref a2), .val (.int (2 : Int32))] [(.int (2 : Int32)), (.ref a1)])) _
    refine X0.baloadBytes hx (j := (2 : Int32)) (v := (.int (45 : Int32))) (by rw [e0]; exact Ar1.1) (State.isArrayOf_alike hZ.alike Ar1.2.1) Ar1.2.2 (inb_of S1 ⟨by decide, by decide⟩) (Has.at (v := (.int (45 : Int32))) H1 (inb_of S1 ⟨by decide, by decide⟩) rfl) (g := (mkF m 17 #[.val (.ref a1), .val (.ref a2), .val (.int (2 : Int32))] [(.int (2 : Int32)), (.ref a1)])) rfl rfl (hb hby d13_17) _ ?_
    show Steps p.tables e below (s₁.setTop (mkF m 18 #[.val (.ref a1), .val (.ref a2), .val (.int (2 : Int32))] [(.int (45 : Int32))])) _
    refine XS.aloadN X0.here hx rfl (hb hby d13_18) rfl rfl ?_
    show Steps p.tables e below (s₁.setTop (mkF m 19 #[.val (.ref a1), .val (.ref a2), .val (.int (2 : Int32))] [(.ref a2), (.int (45 : Int32))])) _
    refine XS.iloadN X0.here hx rfl (hb hby d13_19) rfl ?_
    show Steps p.tables e below (s₁.setTop (mkF m 20 #[.val (.ref a1), .val (.ref a2), .val (.int (2 : Int32))] [(.int (2 : Int32)), (.ref a2), (.int (45 : Int32))])) _
    refine X0.baloadBytes hx (j := (2 : Int32)) (v := (.int (45 : Int32))) (by rw [e0]; exact Ar2.1) (State.isArrayOf_alike hZ.alike Ar2.2.1) Ar2.2.2 (inb_of S2 ⟨by decide, by decide⟩) (Has.at (v := (.int (45 : Int32))) H2 (inb_of S2 ⟨by decide, by decide⟩) rfl) (g := (mkF m 20 #[.val (.ref a1), .val (.ref a2), .val (.int (2 : Int32))] [(.int (2 : Int32)), (.ref a2), (.int (45 : Int32))])) rfl rfl (hb hby d13_20) _ ?_
    exact k
  have pre24 : ∀ t, Steps p.tables e below (s₁.setTop (mkF m 26 #[.val (.ref a1), .val (.ref a2), .val (.int (2 : Int32))] [])) t → Steps p.tables e below (s₁.setTop (entryFrame m #[(.ref a1), (.ref a2)] 3)) t := by
    intro t k
    refine pre22 _ ?_
    show Steps p.tables e below (s₁.setTop (mkF m 21 #[.val (.ref a1), .val (.ref a2), .val (.int (2 : Int32))] [(.int (45 : Int32)), (.int (45 : Int32))])) _
    refine XS.icmpYes X0.here hx rfl (pc0 := 21) (pc' := 26) rfl (hb hby d13_21) rfl (teq (rfl : (45 : Int32) = (45 : Int32))).1 (by decide) (by decide) ?_
    exact k
  have pre25 : ∀ t, Steps p.tables e below (s₁.setTop (mkF m 12 #[.val (.ref a1), .val (.ref a2), .val (.int (3 : Int32))] [(.int (9 : Int32)), (.int (3 : Int32))])) t → Steps p.tables e below (s₁.setTop (entryFrame m #[(.ref a1), (.ref a2)] 3)) t := by
    intro t k
    refine pre24 _ ?_
    show Steps p.tables e below (s₁.setTop (mkF m 26 #[.val (.ref a1), .val (.ref a2), .val (.int (2 : Int32))] [])) _
    refine XS.iinc X0.here hx rfl (hb hby d13_26) rfl (l' := #[.val (.ref a1), .val (.ref a2), .val (.int (3 : Int32))]) rfl ?_
    show Steps p.tables e below (s₁.setTop (mkF m 29 #[.val (.ref a1), .val (.ref a2), .val (.int (3 : Int32))] [])) _
    refine XS.goto X0.here hx rfl (pc0 := 29) (pc' := 9) rfl (hb hby d13_29) (by decide) (by decide) ?_
    show Steps p.tables e below (s₁.setTop (mkF m 9 #[.val (.ref a1), .val (.ref a2), .val (.int (3 : Int32))] [])) _
    refine XS.iloadN X0.here hx rfl (hb hby d13_9) rfl ?_
    show Steps p.tables e below (s₁.setTop (mkF m 10 #[.val (.ref a1), .val (.ref a2), .val (.int (3 : Int32))] [(.int (3 : Int32))])) _
    refine XS.aloadN X0.here hx rfl (hb hby d13_10) rfl rfl ?_
    show Steps p.tables e below (s₁.setTop (mkF m 11 #[.val (.ref a1), .val (.ref a2), .val (.int (3 : Int32))] [(.ref a1), (.int (3 : Int32))])) _
    refine X0.arraylength hx (by rw [e0]; exact Ar1.1) (State.isArrayOf_alike hZ.alike Ar1.2.1) (g := (mkF m 11 #[.val (.ref a1), .val (.ref a2), .val (.int (3 : Int32))] [(.ref a1), (.int (3 : Int32))])) rfl rfl (hb hby d13_11) _ ?_
    rw [len_of S1 N_1]
    exact k
  have pre27 : ∀ t, Steps p.tables e below (s₁.setTop (mkF m 15 #[.val (.ref a1), .val (.ref a2), .val (.int (3 : Int32))] [])) t → Steps p.tables e below (s₁.setTop (entryFrame m #[(.ref a1), (.ref a2)] 3)) t := by
    intro t k
    refine pre25 _ ?_
    show Steps p.tables e below (s₁.setTop (mkF m 12 #[.val (.ref a1), .val (.ref a2), .val (.int (3 : Int32))] [(.int (9 : Int32)), (.int (3 : Int32))])) _
    refine XS.icmpNo X0.here hx rfl (hb hby d13_12) rfl (tlt (by decide : (3 : Int32) < (9 : Int32))).2.1 ?_
    exact k
  have pre28 : ∀ t, Steps p.tables e below (s₁.setTop (mkF m 21 #[.val (.ref a1), .val (.ref a2), .val (.int (3 : Int32))] [(.int (100 : Int32)), (.int (100 : Int32))])) t → Steps p.tables e below (s₁.setTop (entryFrame m #[(.ref a1), (.ref a2)] 3)) t := by
    intro t k
    refine pre27 _ ?_
    show Steps p.tables e below (s₁.setTop (mkF m 15 #[.val (.ref a1), .val (.ref a2), .val (.int (3 : Int32))] [])) _
    refine XS.aloadN X0.here hx rfl (hb hby d13_15) rfl rfl ?_
    show Steps p.tables e below (s₁.setTop (mkF m 16 #[.val (.ref a1), .val (.ref a2), .val (.int (3 : Int32))] [(.ref a1)])) _
    refine XS.iloadN X0.here hx rfl (hb hby d13_16) rfl ?_
    show Steps p.tables e below (s₁.setTop (mkF m 17 #[.val (.ref a1), .val (.ref a2), .val (.int (3 : Int32))] [(.int (3 : Int32)), (.ref a1)])) _
    refine X0.baloadBytes hx (j := (3 : Int32)) (v := (.int (100 : Int32))) (by rw [e0]; exact Ar1.1) (State.isArrayOf_alike hZ.alike Ar1.2.1) Ar1.2.2 (inb_of S1 ⟨by decide, by decide⟩) (Has.at (v := (.int (100 : Int32))) H1 (inb_of S1 ⟨by decide, by decide⟩) rfl) (g := (mkF m 17 #[.val (.ref a1), .val (.ref a2), .val (.int (3 : Int32))] [(.int (3 : Int32)), (.ref a1)])) rfl rfl (hb hby d13_17) _ ?_
    show Steps p.tables e below (s₁.setTop (mkF m 18 #[.val (.ref a1), .val (.ref a2), .val (.int (3 : Int32))] [(.int (100 : Int32))])) _
    refine XS.aloadN X0.here hx rfl (hb hby d13_18) rfl rfl ?_
    show Steps p.tables e below (s₁.setTop (mkF m 19 #[.val (.ref a1), .val (.ref a2), .val (.int (3 : Int32))] [(.ref a2), (.int (100 : Int32))])) _
    refine XS.iloadN X0.here hx rfl (hb hby d13_19) rfl ?_
    show Steps p.tables e below (s₁.setTop (mkF m 20 #[.val (.ref a1), .val (.ref a2), .val (.int (3 : Int32))] [(.int (3 : Int32)), (.ref a2), (.int (100 : Int32))])) _
    refine X0.baloadBytes hx (j := (3 : Int32)) (v := (.int (100 : Int32))) (by rw [e0]; exact Ar2.1) (State.isArrayOf_alike hZ.alike Ar2.2.1) Ar2.2.2 (inb_of S2 ⟨by decide, by decide⟩) (Has.at (v := (.int (100 : Int32))) H2 (inb_of S2 ⟨by decide, by decide⟩) rfl) (g := (mkF m 20 #[.val (.ref a1), .val (.ref a2), .val (.int (3 : Int32))] [(.int (3 : Int32)), (.ref a2), (.int (100 : Int32))])) rfl rfl (hb hby d13_20) _ ?_
    exact k
  have pre30 : ∀ t, Steps p.tables e below (s₁.setTop (mkF m 26 #[.val (.ref a1), .val (.ref a2), .val (.int (3 : Int32))] [])) t → Steps p.tables e below (s₁.setTop (entryFrame m #[(.ref a1), (.ref a2)] 3)) t := by
    intro t k
    refine pre28 _ ?_
    show Steps p.tables e below (s₁.setTop (mkF m 21 #[.val (.ref a1), .val (.ref a2), .val (.int (3 : Int32))] [(.int (100 : Int32)), (.int (100 : Int32))])) _
    refine XS.icmpYes X0.here hx rfl (pc0 := 21) (pc' := 26) rfl (hb hby d13_21) rfl (teq (rfl : (100 : Int32) = (100 : Int32))).1 (by decide) (by decide) ?_
    exact k
  have pre31 : ∀ t, Steps p.tables e below (s₁.setTop (mkF m 12 #[.val (.ref a1), .val (.ref a2), .val (.int (4 : Int32))] [(.int (9 : Int32)), (.int (4 : Int32))])) t → Steps p.tables e below (s₁.setTop (entryFrame m #[(.ref a1), (.ref a2)] 3)) t := by
    intro t k
    refine pre30 _ ?_
    show Steps p.tables e below (s₁.setTop (mkF m 26 #[.val (.ref a1), .val (.ref a2), .val (.int (3 : Int32))] [])) _
    refine XS.iinc X0.here hx rfl (hb hby d13_26) rfl (l' := #[.val (.ref a1), .val (.ref a2), .val (.int (4 : Int32))]) rfl ?_
    show Steps p.tables e below (s₁.setTop (mkF m 29 #[.val (.ref a1), .val (.ref a2), .val (.int (4 : Int32))] [])) _
    refine XS.goto X0.here hx rfl (pc0 := 29) (pc' := 9) rfl (hb hby d13_29) (by decide) (by decide) ?_
    show Steps p.tables e below (s₁.setTop (mkF m 9 #[.val (.ref a1), .val (.ref a2), .val (.int (4 : Int32))] [])) _
    refine XS.iloadN X0.here hx rfl (hb hby d13_9) rfl ?_
    show Steps p.tables e below (s₁.setTop (mkF m 10 #[.val (.ref a1), .val (.ref a2), .val (.int (4 : Int32))] [(.int (4 : Int32))])) _
    refine XS.aloadN X0.here hx rfl (hb hby d13_10) rfl rfl ?_
    show Steps p.tables e below (s₁.setTop (mkF m 11 #[.val (.ref a1), .val (.ref a2), .val (.int (4 : Int32))] [(.ref a1), (.int (4 : Int32))])) _
    refine X0.arraylength hx (by rw [e0]; exact Ar1.1) (State.isArrayOf_alike hZ.alike Ar1.2.1) (g := (mkF m 11 #[.val (.ref a1), .val (.ref a2), .val (.int (4 : Int32))] [(.ref a1), (.int (4 : Int32))])) rfl rfl (hb hby d13_11) _ ?_
    rw [len_of S1 N_1]
    exact k
  have pre33 : ∀ t, Steps p.tables e below (s₁.setTop (mkF m 15 #[.val (.ref a1), .val (.ref a2), .val (.int (4 : Int32))] [])) t → Steps p.tables e below (s₁.setTop (entryFrame m #[(.ref a1), (.ref a2)] 3)) t := by
    intro t k
    refine pre31 _ ?_
    show Steps p.tables e below (s₁.setTop (mkF m 12 #[.val (.ref a1), .val (.ref a2), .val (.int (4 : Int32))] [(.int (9 : Int32)), (.int (4 : Int32))])) _
    refine XS.icmpNo X0.here hx rfl (hb hby d13_12) rfl (tlt (by decide : (4 : Int32) < (9 : Int32))).2.1 ?_
    exact k
  have pre34 : ∀ t, Steps p.tables e below (s₁.setTop (mkF m 21 #[.val (.ref a1), .val (.ref a2), .val (.int (4 : Int32))] [(.int (101 : Int32)), (.int (101 : Int32))])) t → Steps p.tables e below (s₁.setTop (entryFrame m #[(.ref a1), (.ref a2)] 3)) t := by
    intro t k
    refine pre33 _ ?_
    show Steps p.tables e below (s₁.setTop (mkF m 15 #[.val (.ref a1), .val (.ref a2), .val (.int (4 : Int32))] [])) _
    refine XS.aloadN X0.here hx rfl (hb hby d13_15) rfl rfl ?_
    show Steps p.tables e below (s₁.setTop (mkF m 16 #[.val (.ref a1), .val (.ref a2), .val (.int (4 : Int32))] [(.ref a1)])) _
    refine XS.iloadN X0.here hx rfl (hb hby d13_16) rfl ?_
    show Steps p.tables e below (s₁.setTop (mkF m 17 #[.val (.ref a1), .val (.ref a2), .val (.int (4 : Int32))] [(.int (4 : Int32)), (.ref a1)])) _
    refine X0.baloadBytes hx (j := (4 : Int32)) (v := (.int (101 : Int32))) (by rw [e0]; exact Ar1.1) (State.isArrayOf_alike hZ.alike Ar1.2.1) Ar1.2.2 (inb_of S1 ⟨by decide, by decide⟩) (Has.at (v := (.int (101 : Int32))) H1 (inb_of S1 ⟨by decide, by decide⟩) rfl) (g := (mkF m 17 #[.val (.ref a1), .val (.ref a2), .val (.int (4 : Int32))] [(.int (4 : Int32)), (.ref a1)])) rfl rfl (hb hby d13_17) _ ?_
    show Steps p.tables e below (s₁.setTop (mkF m 18 #[.val (.ref a1), .val (.ref a2), .val (.int (4 : Int32))] [(.int (101 : Int32))])) _
    refine XS.aloadN X0.here hx rfl (hb hby d13_18) rfl rfl ?_
    show Steps p.tables e below (s₁.setTop (mkF m 19 #[.val (.ref a1), .val (.ref a2), .val (.int (4 : Int32))] [(.ref a2), (.int (101 : Int32))])) _
    refine XS.iloadN X0.here hx rfl (hb hby d13_19) rfl ?_
    show Steps p.tables e below (s₁.setTop (mkF m 20 #[.val (.ref a1), .val (.ref a2), .val (.int (4 : Int32))] [(.int (4 : Int32)), (.ref a2), (.int (101 : Int32))])) _
    refine X0.baloadBytes hx (j := (4 : Int32)) (v := (.int (101 : Int32))) (by rw [e0]; exact Ar2.1) (State.isArrayOf_alike hZ.alike Ar2.2.1) Ar2.2.2 (inb_of S2 ⟨by decide, by decide⟩) (Has.at (v := (.int (101 : Int32))) H2 (inb_of S2 ⟨by decide, by decide⟩) rfl) (g := (mkF m 20 #[.val (.ref a1), .val (.ref a2), .val (.int (4 : Int32))] [(.int (4 : Int32)), (.ref a2), (.int (101 : Int32))])) rfl rfl (hb hby d13_20) _ ?_
    exact k
  have pre36 : ∀ t, Steps p.tables e below (s₁.setTop (mkF m 26 #[.val (.ref a1), .val (.ref a2), .val (.int (4 : Int32))] [])) t → Steps p.tables e below (s₁.setTop (entryFrame m #[(.ref a1), (.ref a2)] 3)) t := by
    intro t k
    refine pre34 _ ?_
    show Steps p.tables e below (s₁.setTop (mkF m 21 #[.val (.ref a1), .val (.ref a2), .val (.int (4 : Int32))] [(.int (101 : Int32)), (.int (101 : Int32))])) _
    refine XS.icmpYes X0.here hx rfl (pc0 := 21) (pc' := 26) rfl (hb hby d13_21) rfl (teq (rfl : (101 : Int32) = (101 : Int32))).1 (by decide) (by decide) ?_
    exact k
  have pre37 : ∀ t, Steps p.tables e below (s₁.setTop (mkF m 12 #[.val (.ref a1), .val (.ref a2), .val (.int (5 : Int32))] [(.int (9 : Int32)), (.int (5 : Int32))])) t → Steps p.tables e below (s₁.setTop (entryFrame m #[(.ref a1), (.ref a2)] 3)) t := by
    intro t k
    refine pre36 _ ?_
    show Steps p.tables e below (s₁.setTop (mkF m 26 #[.val (.ref a1), .val (.ref a2), .val (.int (4 : Int32))] [])) _
    refine XS.iinc X0.here hx rfl (hb hby d13_26) rfl (l' := #[.val (.ref a1), .val (.ref a2), .val (.int (5 : Int32))]) rfl ?_
    show Steps p.tables e below (s₁.setTop (mkF m 29 #[.val (.ref a1), .val (.ref a2), .val (.int (5 : Int32))] [])) _
    refine XS.goto X0.here hx rfl (pc0 := 29) (pc' := 9) rfl (hb hby d13_29) (by decide) (by decide) ?_
    show Steps p.tables e below (s₁.setTop (mkF m 9 #[.val (.ref a1), .val (.ref a2), .val (.int (5 : Int32))] [])) _
    refine XS.iloadN X0.here hx rfl (hb hby d13_9) rfl ?_
    show Steps p.tables e below (s₁.setTop (mkF m 10 #[.val (.ref a1), .val (.ref a2), .val (.int (5 : Int32))] [(.int (5 : Int32))])) _
    refine XS.aloadN X0.here hx rfl (hb hby d13_10) rfl rfl ?_
    show Steps p.tables e below (s₁.setTop (mkF m 11 #[.val (.ref a1), .val (.ref a2), .val (.int (5 : Int32))] [(.ref a1), (.int (5 : Int32))])) _
    refine X0.arraylength hx (by rw [e0]; exact Ar1.1) (State.isArrayOf_alike hZ.alike Ar1.2.1) (g := (mkF m 11 #[.val (.ref a1), .val (.ref a2), .val (.int (5 : Int32))] [(.ref a1), (.int (5 : Int32))])) rfl rfl (hb hby d13_11) _ ?_
    rw [len_of S1 N_1]
    exact k
  have pre39 : ∀ t, Steps p.tables e below (s₁.setTop (mkF m 15 #[.val (.ref a1), .val (.ref a2), .val (.int (5 : Int32))] [])) t → Steps p.tables e below (s₁.setTop (entryFrame m #[(.ref a1), (.ref a2)] 3)) t := by
    intro t k
    refine pre37 _ ?_
    show Steps p.tables e below (s₁.setTop (mkF m 12 #[.val (.ref a1), .val (.ref a2), .val (.int (5 : Int32))] [(.int (9 : Int32)), (.int (5 : Int32))])) _
    refine XS.icmpNo X0.here hx rfl (hb hby d13_12) rfl (tlt (by decide : (5 : Int32) < (9 : Int32))).2.1 ?_
    exact k
  have pre40 : ∀ t, Steps p.tables e below (s₁.setTop (mkF m 21 #[.val (.ref a1), .val (.ref a2), .val (.int (5 : Int32))] [(.int (109 : Int32)), (.int (109 : Int32))])) t → Steps p.tables e below (s₁.setTop (entryFrame m #[(.ref a1), (.ref a2)] 3)) t := by
    intro t k
    refine pre39 _ ?_
    show Steps p.tables e below (s₁.setTop (mkF m 15 #[.val (.ref a1), .val (.ref a2), .val (.int (5 : Int32))] [])) _
    refine XS.aloadN X0.here hx rfl (hb hby d13_15) rfl rfl ?_
    show Steps p.tables e below (s₁.setTop (mkF m 16 #[.val (.ref a1), .val (.ref a2), .val (.int (5 : Int32))] [(.ref a1)])) _
    refine XS.iloadN X0.here hx rfl (hb hby d13_16) rfl ?_
    show Steps p.tables e below (s₁.setTop (mkF m 17 #[.val (.ref a1), .val (.ref a2), .val (.int (5 : Int32))] [(.int (5 : Int32)), (.ref a1)])) _
    refine X0.baloadBytes hx (j := (5 : Int32)) (v := (.int (109 : Int32))) (by rw [e0]; exact Ar1.1) (State.isArrayOf_alike hZ.alike Ar1.2.1) Ar1.2.2 (inb_of S1 ⟨by decide, by decide⟩) (Has.at (v := (.int (109 : Int32))) H1 (inb_of S1 ⟨by decide, by decide⟩) rfl) (g := (mkF m 17 #[.val (.ref a1), .val (.ref a2), .val (.int (5 : Int32))] [(.int (5 : Int32)), (.ref a1)])) rfl rfl (hb hby d13_17) _ ?_
    show Steps p.tables e below (s₁.setTop (mkF m 18 #[.val (.ref a1), .val (.ref a2), .val (.int (5 : Int32))] [(.int (109 : Int32))])) _
    refine XS.aloadN X0.here hx rfl (hb hby d13_18) rfl rfl ?_
    show Steps p.tables e below (s₁.setTop (mkF m 19 #[.val (.ref a1), .val (.ref a2), .val (.int (5 : Int32))] [(.ref a2), (.int (109 : Int32))])) _
    refine XS.iloadN X0.here hx rfl (hb hby d13_19) rfl ?_
    show Steps p.tables e below (s₁.setTop (mkF m 20 #[.val (.ref a1), .val (.ref a2), .val (.int (5 : Int32))] [(.int (5 : Int32)), (.ref a2), (.int (109 : Int32))])) _
    refine X0.baloadBytes hx (j := (5 : Int32)) (v := (.int (109 : Int32))) (by rw [e0]; exact Ar2.1) (State.isArrayOf_alike hZ.alike Ar2.2.1) Ar2.2.2 (inb_of S2 ⟨by decide, by decide⟩) (Has.at (v := (.int (109 : Int32))) H2 (inb_of S2 ⟨by decide, by decide⟩) rfl) (g := (mkF m 20 #[.val (.ref a1), .val (.ref a2), .val (.int (5 : Int32))] [(.int (5 : Int32)), (.ref a2), (.int (109 : Int32))])) rfl rfl (hb hby d13_20) _ ?_
    exact k
  have pre42 : ∀ t, Steps p.tables e below (s₁.setTop (mkF m 26 #[.val (.ref a1), .val (.ref a2), .val (.int (5 : Int32))] [])) t → Steps p.tables e below (s₁.setTop (entryFrame m #[(.ref a1), (.ref a2)] 3)) t := by
    intro t k
    refine pre40 _ ?_
    show Steps p.tables e below (s₁.setTop (mkF m 21 #[.val (.ref a1), .val (.ref a2), .val (.int (5 : Int32))] [(.int (109 : Int32)), (.int (109 : Int32))])) _
    refine XS.icmpYes X0.here hx rfl (pc0 := 21) (pc' := 26) rfl (hb hby d13_21) rfl (teq (rfl : (109 : Int32) = (109 : Int32))).1 (by decide) (by decide) ?_
    exact k
  have pre43 : ∀ t, Steps p.tables e below (s₁.setTop (mkF m 12 #[.val (.ref a1), .val (.ref a2), .val (.int (6 : Int32))] [(.int (9 : Int32)), (.int (6 : Int32))])) t → Steps p.tables e below (s₁.setTop (entryFrame m #[(.ref a1), (.ref a2)] 3)) t := by
    intro t k
    refine pre42 _ ?_
    show Steps p.tables e below (s₁.setTop (mkF m 26 #[.val (.ref a1), .val (.ref a2), .val (.int (5 : Int32))] [])) _
    refine XS.iinc X0.here hx rfl (hb hby d13_26) rfl (l' := #[.val (.ref a1), .val (.ref a2), .val (.int (6 : Int32))]) rfl ?_
    show Steps p.tables e below (s₁.setTop (mkF m 29 #[.val (.ref a1), .val (.ref a2), .val (.int (6 : Int32))] [])) _
    refine XS.goto X0.here hx rfl (pc0 := 29) (pc' := 9) rfl (hb hby d13_29) (by decide) (by decide) ?_
    show Steps p.tables e below (s₁.setTop (mkF m 9 #[.val (.ref a1), .val (.ref a2), .val (.int (6 : Int32))] [])) _
    refine XS.iloadN X0.here hx rfl (hb hby d13_9) rfl ?_
    show Steps p.tables e below (s₁.setTop (mkF m 10 #[.val (.ref a1), .val (.ref a2), .val (.int (6 : Int32))] [(.int (6 : Int32))])) _
    refine XS.aloadN X0.here hx rfl (hb hby d13_10) rfl rfl ?_
    show Steps p.tables e below (s₁.setTop (mkF m 11 #[.val (.ref a1), .val (.ref a2), .val (.int (6 : Int32))] [(.ref a1), (.int (6 : Int32))])) _
    refine X0.arraylength hx (by rw [e0]; exact Ar1.1) (State.isArrayOf_alike hZ.alike Ar1.2.1) (g := (mkF m 11 #[.val (.ref a1), .val (.ref a2), .val (.int (6 : Int32))] [(.ref a1), (.int (6 : Int32))])) rfl rfl (hb hby d13_11) _ ?_
    rw [len_of S1 N_1]
    exact k
  have pre45 : ∀ t, Steps p.tables e below (s₁.setTop (mkF m 15 #[.val (.ref a1), .val (.ref a2), .val (.int (6 : Int32))] [])) t → Steps p.tables e below (s₁.setTop (entryFrame m #[(.ref a1), (.ref a2)] 3)) t := by
    intro t k
    refine pre43 _ ?_
    show Steps p.tables e below (s₁.setTop (mkF m 12 #[.val (.ref a1), .val (.ref a2), .val (.int (6 : Int32))] [(.int (9 : Int32)), (.int (6 : Int32))])) _
    refine XS.icmpNo X0.here hx rfl (hb hby d13_12) rfl (tlt (by decide : (6 : Int32) < (9 : Int32))).2.1 ?_
    exact k
  have pre46 : ∀ t, Steps p.tables e below (s₁.setTop (mkF m 21 #[.val (.ref a1), .val (.ref a2), .val (.int (6 : Int32))] [(.int (97 : Int32)), (.int (97 : Int32))])) t → Steps p.tables e below (s₁.setTop (entryFrame m #[(.ref a1), (.ref a2)] 3)) t := by
    intro t k
    refine pre45 _ ?_
    show Steps p.tables e below (s₁.setTop (mkF m 15 #[.val (.ref a1), .val (.ref a2), .val (.int (6 : Int32))] [])) _
    refine XS.aloadN X0.here hx rfl (hb hby d13_15) rfl rfl ?_
    show Steps p.tables e below (s₁.setTop (mkF m 16 #[.val (.ref a1), .val (.ref a2), .val (.int (6 : Int32))] [(.ref a1)])) _
    refine XS.iloadN X0.here hx rfl (hb hby d13_16) rfl ?_
    show Steps p.tables e below (s₁.setTop (mkF m 17 #[.val (.ref a1), .val (.ref a2), .val (.int (6 : Int32))] [(.int (6 : Int32)), (.ref a1)])) _
    refine X0.baloadBytes hx (j := (6 : Int32)) (v := (.int (97 : Int32))) (by rw [e0]; exact Ar1.1) (State.isArrayOf_alike hZ.alike Ar1.2.1) Ar1.2.2 (inb_of S1 ⟨by decide, by decide⟩) (Has.at (v := (.int (97 : Int32))) H1 (inb_of S1 ⟨by decide, by decide⟩) rfl) (g := (mkF m 17 #[.val (.ref a1), .val (.ref a2), .val (.int (6 : Int32))] [(.int (6 : Int32)), (.ref a1)])) rfl rfl (hb hby d13_17) _ ?_
    show Steps p.tables e below (s₁.setTop (mkF m 18 #[.val (.ref a1), .val (.ref a2), .val (.int (6 : Int32))] [(.int (97 : Int32))])) _
    refine XS.aloadN X0.here hx rfl (hb hby d13_18) rfl rfl ?_
    show Steps p.tables e below (s₁.setTop (mkF m 19 #[.val (.ref a1), .val (.ref a2), .val (.int (6 : Int32))] [(.ref a2), (.int (97 : Int32))])) _
    refine XS.iloadN X0.here hx rfl (hb hby d13_19) rfl ?_
    show Steps p.tables e below (s₁.setTop (mkF m 20 #[.val (.ref a1), .val (.ref a2), .val (.int (6 : Int32))] [(.int (6 : Int32)), (.ref a2), (.int (97 : Int32))])) _
    refine X0.baloadBytes hx (j := (6 : Int32)) (v := (.int (97 : Int32))) (by rw [e0]; exact Ar2.1) (State.isArrayOf_alike hZ.alike Ar2.2.1) Ar2.2.2 (inb_of S2 ⟨by decide, by decide⟩) (Has.at (v := (.int (97 : Int32))) H2 (inb_of S2 ⟨by decide, by decide⟩) rfl) (g := (mkF m 20 #[.val (.ref a1), .val (.ref a2), .val (.int (6 : Int32))] [(.int (6 : Int32)), (.ref a2), (.int (97 : Int32))])) rfl rfl (hb hby d13_20) _ ?_
    exact k
  have pre48 : ∀ t, Steps p.tables e below (s₁.setTop (mkF m 26 #[.val (.ref a1), .val (.ref a2), .val (.int (6 : Int32))] [])) t → Steps p.tables e below (s₁.setTop (entryFrame m #[(.ref a1), (.ref a2)] 3)) t := by
    intro t k
    refine pre46 _ ?_
    show Steps p.tables e below (s₁.setTop (mkF m 21 #[.val (.ref a1), .val (.ref a2), .val (.int (6 : Int32))] [(.int (97 : Int32)), (.int (97 : Int32))])) _
    refine XS.icmpYes X0.here hx rfl (pc0 := 21) (pc' := 26) rfl (hb hby d13_21) rfl (teq (rfl : (97 : Int32) = (97 : Int32))).1 (by decide) (by decide) ?_
    exact k
  have pre49 : ∀ t, Steps p.tables e below (s₁.setTop (mkF m 12 #[.val (.ref a1), .val (.ref a2), .val (.int (7 : Int32))] [(.int (9 : Int32)), (.int (7 : Int32))])) t → Steps p.tables e below (s₁.setTop (entryFrame m #[(.ref a1), (.ref a2)] 3)) t := by
    intro t k
    refine pre48 _ ?_
    show Steps p.tables e below (s₁.setTop (mkF m 26 #[.val (.ref a1), .val (.ref a2), .val (.int (6 : Int32))] [])) _
    refine XS.iinc X0.here hx rfl (hb hby d13_26) rfl (l' := #[.val (.ref a1), .val (.ref a2), .val (.int (7 : Int32))]) rfl ?_
    show Steps p.tables e below (s₁.setTop (mkF m 29 #[.val (.ref a1), .val (.ref a2), .val (.int (7 : Int32))] [])) _
    refine XS.goto X0.here hx rfl (pc0 := 29) (pc' := 9) rfl (hb hby d13_29) (by decide) (by decide) ?_
    show Steps p.tables e below (s₁.setTop (mkF m 9 #[.val (.ref a1), .val (.ref a2), .val (.int (7 : Int32))] [])) _
    refine XS.iloadN X0.here hx rfl (hb hby d13_9) rfl ?_
    show Steps p.tables e below (s₁.setTop (mkF m 10 #[.val (.ref a1), .val (.ref a2), .val (.int (7 : Int32))] [(.int (7 : Int32))])) _
    refine XS.aloadN X0.here hx rfl (hb hby d13_10) rfl rfl ?_
    show Steps p.tables e below (s₁.setTop (mkF m 11 #[.val (.ref a1), .val (.ref a2), .val (.int (7 : Int32))] [(.ref a1), (.int (7 : Int32))])) _
    refine X0.arraylength hx (by rw [e0]; exact Ar1.1) (State.isArrayOf_alike hZ.alike Ar1.2.1) (g := (mkF m 11 #[.val (.ref a1), .val (.ref a2), .val (.int (7 : Int32))] [(.ref a1), (.int (7 : Int32))])) rfl rfl (hb hby d13_11) _ ?_
    rw [len_of S1 N_1]
    exact k
  have pre51 : ∀ t, Steps p.tables e below (s₁.setTop (mkF m 15 #[.val (.ref a1), .val (.ref a2), .val (.int (7 : Int32))] [])) t → Steps p.tables e below (s₁.setTop (entryFrame m #[(.ref a1), (.ref a2)] 3)) t := by
    intro t k
    refine pre49 _ ?_
    show Steps p.tables e below (s₁.setTop (mkF m 12 #[.val (.ref a1), .val (.ref a2), .val (.int (7 : Int32))] [(.int (9 : Int32)), (.int (7 : Int32))])) _
    refine XS.icmpNo X0.here hx rfl (hb hby d13_12) rfl (tlt (by decide : (7 : Int32) < (9 : Int32))).2.1 ?_
    exact k
  have pre52 : ∀ t, Steps p.tables e below (s₁.setTop (mkF m 21 #[.val (.ref a1), .val (.ref a2), .val (.int (7 : Int32))] [(.int (110 : Int32)), (.int (110 : Int32))])) t → Steps p.tables e below (s₁.setTop (entryFrame m #[(.ref a1), (.ref a2)] 3)) t := by
    intro t k
    refine pre51 _ ?_
    show Steps p.tables e below (s₁.setTop (mkF m 15 #[.val (.ref a1), .val (.ref a2), .val (.int (7 : Int32))] [])) _
    refine XS.aloadN X0.here hx rfl (hb hby d13_15) rfl rfl ?_
    show Steps p.tables e below (s₁.setTop (mkF m 16 #[.val (.ref a1), .val (.ref a2), .val (.int (7 : Int32))] [(.ref a1)])) _
    refine XS.iloadN X0.here hx rfl (hb hby d13_16) rfl ?_
    show Steps p.tables e below (s₁.setTop (mkF m 17 #[.val (.ref a1), .val (.ref a2), .val (.int (7 : Int32))] [(.int (7 : Int32)), (.ref a1)])) _
    refine X0.baloadBytes hx (j := (7 : Int32)) (v := (.int (110 : Int32))) (by rw [e0]; exact Ar1.1) (State.isArrayOf_alike hZ.alike Ar1.2.1) Ar1.2.2 (inb_of S1 ⟨by decide, by decide⟩) (Has.at (v := (.int (110 : Int32))) H1 (inb_of S1 ⟨by decide, by decide⟩) rfl) (g := (mkF m 17 #[.val (.ref a1), .val (.ref a2), .val (.int (7 : Int32))] [(.int (7 : Int32)), (.ref a1)])) rfl rfl (hb hby d13_17) _ ?_
    show Steps p.tables e below (s₁.setTop (mkF m 18 #[.val (.ref a1), .val (.ref a2), .val (.int (7 : Int32))] [(.int (110 : Int32))])) _
    refine XS.aloadN X0.here hx rfl (hb hby d13_18) rfl rfl ?_
    show Steps p.tables e below (s₁.setTop (mkF m 19 #[.val (.ref a1), .val (.ref a2), .val (.int (7 : Int32))] [(.ref a2), (.int (110 : Int32))])) _
    refine XS.iloadN X0.here hx rfl (hb hby d13_19) rfl ?_
    show Steps p.tables e below (s₁.setTop (mkF m 20 #[.val (.ref a1), .val (.ref a2), .val (.int (7 : Int32))] [(.int (7 : Int32)), (.ref a2), (.int (110 : Int32))])) _
    refine X0.baloadBytes hx (j := (7 : Int32)) (v := (.int (110 : Int32))) (by rw [e0]; exact Ar2.1) (State.isArrayOf_alike hZ.alike Ar2.2.1) Ar2.2.2 (inb_of S2 ⟨by decide, by decide⟩) (Has.at (v := (.int (110 : Int32))) H2 (inb_of S2 ⟨by decide, by decide⟩) rfl) (g := (mkF m 20 #[.val (.ref a1), .val (.ref a2), .val (.int (7 : Int32))] [(.int (7 : Int32)), (.ref a2), (.int (110 : Int32))])) rfl rfl (hb hby d13_20) _ ?_
    exact k
  have pre54 : ∀ t, Steps p.tables e below (s₁.setTop (mkF m 26 #[.val (.ref a1), .val (.ref a2), .val (.int (7 : Int32))] [])) t → Steps p.tables e below (s₁.setTop (entryFrame m #[(.ref a1), (.ref a2)] 3)) t := by
    intro t k
    refine pre52 _ ?_
    show Steps p.tables e below (s₁.setTop (mkF m 21 #[.val (.ref a1), .val (.ref a2), .val (.int (7 : Int32))] [(.int (110 : Int32)), (.int (110 : Int32))])) _
    refine XS.icmpYes X0.here hx rfl (pc0 := 21) (pc' := 26) rfl (hb hby d13_21) rfl (teq (rfl : (110 : Int32) = (110 : Int32))).1 (by decide) (by decide) ?_
    exact k
  have pre55 : ∀ t, Steps p.tables e below (s₁.setTop (mkF m 12 #[.val (.ref a1), .val (.ref a2), .val (.int (8 : Int32))] [(.int (9 : Int32)), (.int (8 : Int32))])) t → Steps p.tables e below (s₁.setTop (entryFrame m #[(.ref a1), (.ref a2)] 3)) t := by
    intro t k
    refine pre54 _ ?_
    show Steps p.tables e below (s₁.setTop (mkF m 26 #[.val (.ref a1), .val (.ref a2), .val (.int (7 : Int32))] [])) _
    refine XS.iinc X0.here hx rfl (hb hby d13_26) rfl (l' := #[.val (.ref a1), .val (.ref a2), .val (.int (8 : Int32))]) rfl ?_
    show Steps p.tables e below (s₁.setTop (mkF m 29 #[.val (.ref a1), .val (.ref a2), .val (.int (8 : Int32))] [])) _
    refine XS.goto X0.here hx rfl (pc0 := 29) (pc' := 9) rfl (hb hby d13_29) (by decide) (by decide) ?_
    show Steps p.tables e below (s₁.setTop (mkF m 9 #[.val (.ref a1), .val (.ref a2), .val (.int (8 : Int32))] [])) _
    refine XS.iloadN X0.here hx rfl (hb hby d13_9) rfl ?_
    show Steps p.tables e below (s₁.setTop (mkF m 10 #[.val (.ref a1), .val (.ref a2), .val (.int (8 : Int32))] [(.int (8 : Int32))])) _
    refine XS.aloadN X0.here hx rfl (hb hby d13_10) rfl rfl ?_
    show Steps p.tables e below (s₁.setTop (mkF m 11 #[.val (.ref a1), .val (.ref a2), .val (.int (8 : Int32))] [(.ref a1), (.int (8 : Int32))])) _
    refine X0.arraylength hx (by rw [e0]; exact Ar1.1) (State.isArrayOf_alike hZ.alike Ar1.2.1) (g := (mkF m 11 #[.val (.ref a1), .val (.ref a2), .val (.int (8 : Int32))] [(.ref a1), (.int (8 : Int32))])) rfl rfl (hb hby d13_11) _ ?_
    rw [len_of S1 N_1]
    exact k
  have pre57 : ∀ t, Steps p.tables e below (s₁.setTop (mkF m 15 #[.val (.ref a1), .val (.ref a2), .val (.int (8 : Int32))] [])) t → Steps p.tables e below (s₁.setTop (entryFrame m #[(.ref a1), (.ref a2)] 3)) t := by
    intro t k
    refine pre55 _ ?_
    show Steps p.tables e below (s₁.setTop (mkF m 12 #[.val (.ref a1), .val (.ref a2), .val (.int (8 : Int32))] [(.int (9 : Int32)), (.int (8 : Int32))])) _
    refine XS.icmpNo X0.here hx rfl (hb hby d13_12) rfl (tlt (by decide : (8 : Int32) < (9 : Int32))).2.1 ?_
    exact k
  have pre58 : ∀ t, Steps p.tables e below (s₁.setTop (mkF m 21 #[.val (.ref a1), .val (.ref a2), .val (.int (8 : Int32))] [(.int (100 : Int32)), (.int (100 : Int32))])) t → Steps p.tables e below (s₁.setTop (entryFrame m #[(.ref a1), (.ref a2)] 3)) t := by
    intro t k
    refine pre57 _ ?_
    show Steps p.tables e below (s₁.setTop (mkF m 15 #[.val (.ref a1), .val (.ref a2), .val (.int (8 : Int32))] [])) _
    refine XS.aloadN X0.here hx rfl (hb hby d13_15) rfl rfl ?_
    show Steps p.tables e below (s₁.setTop (mkF m 16 #[.val (.ref a1), .val (.ref a2), .val (.int (8 : Int32))] [(.ref a1)])) _
    refine XS.iloadN X0.here hx rfl (hb hby d13_16) rfl ?_
    show Steps p.tables e below (s₁.setTop (mkF m 17 #[.val (.ref a1), .val (.ref a2), .val (.int (8 : Int32))] [(.int (8 : Int32)), (.ref a1)])) _
    refine X0.baloadBytes hx (j := (8 : Int32)) (v := (.int (100 : Int32))) (by rw [e0]; exact Ar1.1) (State.isArrayOf_alike hZ.alike Ar1.2.1) Ar1.2.2 (inb_of S1 ⟨by decide, by decide⟩) (Has.at (v := (.int (100 : Int32))) H1 (inb_of S1 ⟨by decide, by decide⟩) rfl) (g := (mkF m 17 #[.val (.ref a1), .val (.ref a2), .val (.int (8 : Int32))] [(.int (8 : Int32)), (.ref a1)])) rfl rfl (hb hby d13_17) _ ?_
    show Steps p.tables e below (s₁.setTop (mkF m 18 #[.val (.ref a1), .val (.ref a2), .val (.int (8 : Int32))] [(.int (100 : Int32))])) _
    refine XS.aloadN X0.here hx rfl (hb hby d13_18) rfl rfl ?_
    show Steps p.tables e below (s₁.setTop (mkF m 19 #[.val (.ref a1), .val (.ref a2), .val (.int (8 : Int32))] [(.ref a2), (.int (100 : Int32))])) _
    refine XS.iloadN X0.here hx rfl (hb hby d13_19) rfl ?_
    show Steps p.tables e below (s₁.setTop (mkF m 20 #[.val (.ref a1), .val (.ref a2), .val (.int (8 : Int32))] [(.int (8 : Int32)), (.ref a2), (.int (100 : Int32))])) _
    refine X0.baloadBytes hx (j := (8 : Int32)) (v := (.int (100 : Int32))) (by rw [e0]; exact Ar2.1) (State.isArrayOf_alike hZ.alike Ar2.2.1) Ar2.2.2 (inb_of S2 ⟨by decide, by decide⟩) (Has.at (v := (.int (100 : Int32))) H2 (inb_of S2 ⟨by decide, by decide⟩) rfl) (g := (mkF m 20 #[.val (.ref a1), .val (.ref a2), .val (.int (8 : Int32))] [(.int (8 : Int32)), (.ref a2), (.int (100 : Int32))])) rfl rfl (hb hby d13_20) _ ?_
    exact k
  have pre60 : ∀ t, Steps p.tables e below (s₁.setTop (mkF m 26 #[.val (.ref a1), .val (.ref a2), .val (.int (8 : Int32))] [])) t → Steps p.tables e below (s₁.setTop (entryFrame m #[(.ref a1), (.ref a2)] 3)) t := by
    intro t k
    refine pre58 _ ?_
    show Steps p.tables e below (s₁.setTop (mkF m 21 #[.val (.ref a1), .val (.ref a2), .val (.int (8 : Int32))] [(.int (100 : Int32)), (.int (100 : Int32))])) _
    refine XS.icmpYes X0.here hx rfl (pc0 := 21) (pc' := 26) rfl (hb hby d13_21) rfl (teq (rfl : (100 : Int32) = (100 : Int32))).1 (by decide) (by decide) ?_
    exact k
  have pre61 : ∀ t, Steps p.tables e below (s₁.setTop (mkF m 12 #[.val (.ref a1), .val (.ref a2), .val (.int (9 : Int32))] [(.int (9 : Int32)), (.int (9 : Int32))])) t → Steps p.tables e below (s₁.setTop (entryFrame m #[(.ref a1), (.ref a2)] 3)) t := by
    intro t k
    refine pre60 _ ?_
    show Steps p.tables e below (s₁.setTop (mkF m 26 #[.val (.ref a1), .val (.ref a2), .val (.int (8 : Int32))] [])) _
    refine XS.iinc X0.here hx rfl (hb hby d13_26) rfl (l' := #[.val (.ref a1), .val (.ref a2), .val (.int (9 : Int32))]) rfl ?_
    show Steps p.tables e below (s₁.setTop (mkF m 29 #[.val (.ref a1), .val (.ref a2), .val (.int (9 : Int32))] [])) _
    refine XS.goto X0.here hx rfl (pc0 := 29) (pc' := 9) rfl (hb hby d13_29) (by decide) (by decide) ?_
    show Steps p.tables e below (s₁.setTop (mkF m 9 #[.val (.ref a1), .val (.ref a2), .val (.int (9 : Int32))] [])) _
    refine XS.iloadN X0.here hx rfl (hb hby d13_9) rfl ?_
    show Steps p.tables e below (s₁.setTop (mkF m 10 #[.val (.ref a1), .val (.ref a2), .val (.int (9 : Int32))] [(.int (9 : Int32))])) _
    refine XS.aloadN X0.here hx rfl (hb hby d13_10) rfl rfl ?_
    show Steps p.tables e below (s₁.setTop (mkF m 11 #[.val (.ref a1), .val (.ref a2), .val (.int (9 : Int32))] [(.ref a1), (.int (9 : Int32))])) _
    refine X0.arraylength hx (by rw [e0]; exact Ar1.1) (State.isArrayOf_alike hZ.alike Ar1.2.1) (g := (mkF m 11 #[.val (.ref a1), .val (.ref a2), .val (.int (9 : Int32))] [(.ref a1), (.int (9 : Int32))])) rfl rfl (hb hby d13_11) _ ?_
    rw [len_of S1 N_1]
    exact k
  have pre63 : ∀ t, Steps p.tables e below (s₁.setTop (mkF m 32 #[.val (.ref a1), .val (.ref a2), .val (.int (9 : Int32))] [])) t → Steps p.tables e below (s₁.setTop (entryFrame m #[(.ref a1), (.ref a2)] 3)) t := by
    intro t k
    refine pre61 _ ?_
    show Steps p.tables e below (s₁.setTop (mkF m 12 #[.val (.ref a1), .val (.ref a2), .val (.int (9 : Int32))] [(.int (9 : Int32)), (.int (9 : Int32))])) _
    refine XS.icmpYes X0.here hx rfl (pc0 := 12) (pc' := 32) rfl (hb hby d13_12) rfl (flt (by decide : ¬ ((9 : Int32) < (9 : Int32)))).2.1 (by decide) (by decide) ?_
    exact k
  have pre64 : ∀ t, Steps p.tables e below (s₁.setTop (mkF m 33 #[.val (.ref a1), .val (.ref a2), .val (.int (9 : Int32))] [(.int (1 : Int32))])) t → Steps p.tables e below (s₁.setTop (entryFrame m #[(.ref a1), (.ref a2)] 3)) t := by
    intro t k
    refine pre63 _ ?_
    show Steps p.tables e below (s₁.setTop (mkF m 32 #[.val (.ref a1), .val (.ref a2), .val (.int (9 : Int32))] [])) _
    refine XS.iconst X0.here hx rfl (hb hby d13_32) ?_
    exact k
  obtain ⟨fs, hr, hrun, hended, hW, hsame⟩ := X0.leave (v := some (.int (1 : Int32))) (fun h => by rw [hret] at h; cases h) (hlocks := hlocks)
  refine ⟨_, _, pre64 _ ?_, hrun, hended, _, _, rfl, ?_, ⟨_, rfl⟩, hW, hsame.mono (by decide) (by decide)⟩
  · show Steps p.tables e below (s₁.setTop (mkF m 33 #[.val (.ref a1), .val (.ref a2), .val (.int (9 : Int32))] [(.int (1 : Int32))])) _
    exact retN X0 hx (t := .boolean) hret (by simp) (hb hby d13_33) hr
  · show Q13oo Z a1 a2 k1 k2 h0 n0 _ s₁.heap _
    rw [e0]
    exact ⟨rfl, N0, rfl⟩
theorem d12_0 : decode jdk_42_method_66_code 0 = .ok (.aload_n 0, 1) := by decide +kernel
theorem d12_1 : decode jdk_42_method_66_code 1 = .ok (.aload_n 1, 1) := by decide +kernel
theorem d12_2 : decode jdk_42_method_66_code 2 = .ok (.if_acmp .ne 5, 3) := by decide +kernel
theorem d12_5 : decode jdk_42_method_66_code 5 = .ok (.iconst 1, 1) := by decide +kernel
theorem d12_6 : decode jdk_42_method_66_code 6 = .ok (.ireturn, 1) := by decide +kernel
theorem d12_7 : decode jdk_42_method_66_code 7 = .ok (.aload_n 1, 1) := by decide +kernel
theorem d12_8 : decode jdk_42_method_66_code 8 = .ok (.instanceof 10, 3) := by decide +kernel
theorem d12_11 : decode jdk_42_method_66_code 11 = .ok (.ifCond .eq 43, 3) := by decide +kernel
theorem d12_14 : decode jdk_42_method_66_code 14 = .ok (.aload_n 1, 1) := by decide +kernel
theorem d12_15 : decode jdk_42_method_66_code 15 = .ok (.checkcast 10, 3) := by decide +kernel
theorem d12_18 : decode jdk_42_method_66_code 18 = .ok (.astore_n 2, 1) := by decide +kernel
theorem d12_19 : decode jdk_42_method_66_code 19 = .ok (.getstatic 38, 3) := by decide +kernel
theorem d12_22 : decode jdk_42_method_66_code 22 = .ok (.ifCond .eq 14, 3) := by decide +kernel
theorem d12_25 : decode jdk_42_method_66_code 25 = .ok (.aload_n 0, 1) := by decide +kernel
theorem d12_26 : decode jdk_42_method_66_code 26 = .ok (.getfield 15, 3) := by decide +kernel
theorem d12_29 : decode jdk_42_method_66_code 29 = .ok (.aload_n 2, 1) := by decide +kernel
theorem d12_30 : decode jdk_42_method_66_code 30 = .ok (.getfield 15, 3) := by decide +kernel
theorem d12_33 : decode jdk_42_method_66_code 33 = .ok (.if_icmp .ne 21, 3) := by decide +kernel
theorem d12_36 : decode jdk_42_method_66_code 36 = .ok (.aload_n 0, 1) := by decide +kernel
theorem d12_37 : decode jdk_42_method_66_code 37 = .ok (.getfield 9, 3) := by decide +kernel
theorem d12_40 : decode jdk_42_method_66_code 40 = .ok (.aload_n 2, 1) := by decide +kernel
theorem d12_41 : decode jdk_42_method_66_code 41 = .ok (.getfield 9, 3) := by decide +kernel
theorem d12_44 : decode jdk_42_method_66_code 44 = .ok (.invokestatic 541, 3) := by decide +kernel
theorem pd___B_B_Z : parseMethodDescriptor "([B[B)Z" = some ⟨[(.array .byte), (.array .byte)], some .boolean⟩ := by decide +kernel
theorem d12_47 : decode jdk_42_method_66_code 47 = .ok (.ifCond .eq 7, 3) := by decide +kernel
theorem d12_50 : decode jdk_42_method_66_code 50 = .ok (.iconst 1, 1) := by decide +kernel
theorem d12_51 : decode jdk_42_method_66_code 51 = .ok (.goto 4, 3) := by decide +kernel
theorem d12_55 : decode jdk_42_method_66_code 55 = .ok (.ireturn, 1) := by decide +kernel
theorem pn_12 : plainName "java/lang/String" = true := by first | (simp [plainName, overriddenIn]; done) | decide +kernel
theorem ef_12oo (m : MethodId) (x0 : Addr) (x1 : Addr) : entryFrame m #[(.ref x0), (.ref x1)] 3 = mkF m 0 #[.val (.ref x0), .val (.ref x1), .unset] [] := by first | (simp [entryFrame, mkF, argsToLocals, Value.category]; done) | rfl
def Q12oo (Z : State) (a1 : Addr) (a2 : Addr) (v1 : Addr) (v2 : Addr) (k1 : ClassId) (k2 : ClassId) (pC : Int32) (h0 : Heap) (n0 : Nat) (v : Option Value) (h : Heap) (L : List Loc) : Prop := v = some (.int (1 : Int32)) ∧ Fr n0 L ∧ h = h0
set_option maxRecDepth 65536 in
set_option maxHeartbeats 40000000 in
theorem rm12oo (l : Launch) (Z : State) (a0 : Array Value) (hw : ∀ d ∈ tables_1, d.before a0 Z = true) (ws : List Jvm.Cond) (a1 : Addr) (a2 : Addr) (v1 : Addr) (v2 : Addr) (k1 : ClassId) (k2 : ClassId) (pC : Int32) (h0 : Heap) (n0 : Nat) (Z0 : n0 ≤ h0.size) (E_a2 : Exa Z h0 a2 "java/lang/String") (C1 : Fld Z h0 a1 "java/lang/String" "coder" "B" (.int (0 : Int32))) (C2 : Fld Z h0 a2 "java/lang/String" "coder" "B" (.int (0 : Int32))) (V1 : Fld Z h0 a1 "java/lang/String" "value" "[B" (.ref v1)) (V2 : Fld Z h0 a2 "java/lang/String" "value" "[B" (.ref v2)) (A1 : Arv Z h0 v1 k1 .byte (9 : Int32) [.int (111 : Int32), .int (110 : Int32), .int (45 : Int32), .int (100 : Int32), .int (101 : Int32), .int (109 : Int32), .int (97 : Int32), .int (110 : Int32), .int (100 : Int32)] (.int (0 : Int32))) (A2 : Arv Z h0 v2 k2 .byte (9 : Int32) [.int (111 : Int32), .int (110 : Int32), .int (45 : Int32), .int (100 : Int32), .int (101 : Int32), .int (109 : Int32), .int (97 : Int32), .int (110 : Int32), .int (100 : Int32)] (.int (0 : Int32))) (hpc : ¬ (pC = (0 : Int32))) (S_pC : Sta Z h0 "java/lang/String" "COMPACT_STRINGS" "Z" (.int pC)) :
    MetFree l (⟨"java/lang/String", "equals", "(Ljava/lang/Object;)Z"⟩ : MethodName) (head1 (Jvm.Cond.code (⟨"java/lang/String", "equals", "(Ljava/lang/Object;)Z"⟩ : MethodName) jdk_42_method_66_code 3 (some .boolean) :: ws) ({ frames := 1, cells := 0, slots := 0, locals := 14 } : Room)) (fun a U => a = #[(.ref a1), (.ref a2)] ∧ Z.Warmed39 U.vm ∧ U.heap = h0) (fun _ _ _ _ _ => True) (fun _ U o U' => ∃ v L, o = .returned v ∧ Q12oo Z a1 a2 v1 v2 k1 k2 pC h0 n0 v U'.heap L ∧ FrameEnd U o U' L ({ frames := 1, cells := 0, slots := 0, locals := 14 } : Room).cells ({ frames := 1, cells := 0, slots := 0, locals := 14 } : Room).slots) := by
  refine MetFree.of_bodySF (plainFor_of_name pn_12) hisR ?_
  intro p e s m args below meth c s₁ Bd hml0 hP hK
  obtain ⟨rfl, hZ, hh⟩ := hP
  have hx := Bd.exec
  have hby := Bd.bytes
  have hml : c.maxLocals = 3 := hml0
  have hown : s.vm.findClass "java/lang/String" = some m.cls := findClass_of_methodNamed Bd.named
  have hnm := (name_of_methodNamed Bd.named Bd.method).1
  have hret := Bd.returns
  have hlocks : meth.locks = false := Bd.notSynchronized
  have X0 : Stand p l e ({ frames := 1, cells := 0, slots := 0, locals := 14 } : Room) s m #[(.ref a1), (.ref a2)] below meth c s₁ [] 0 0 := Stand.of_body Bd
  have e0 : s₁.heap = h0 := by rw [← hh, Bd.state]; rfl
  have N0 := Fr.nil n0
  have pre0 : ∀ t, Steps p.tables e below (s₁.setTop (mkF m 0 #[.val (.ref a1), .val (.ref a2), .unset] [])) t → Steps p.tables e below (s₁.setTop (entryFrame m #[(.ref a1), (.ref a2)] 3)) t := fun t k => castTop (ef_12oo m a1 a2) k
  have pre65 : ∀ t, Steps p.tables e below (s₁.setTop (mkF m 2 #[.val (.ref a1), .val (.ref a2), .unset] [(.ref a2), (.ref a1)])) t → Steps p.tables e below (s₁.setTop (entryFrame m #[(.ref a1), (.ref a2)] 3)) t := by
    intro t k
    refine pre0 _ ?_
    show Steps p.tables e below (s₁.setTop (mkF m 0 #[.val (.ref a1), .val (.ref a2), .unset] [])) _
    refine XS.aloadN X0.here hx rfl (hb hby d12_0) rfl rfl ?_
    show Steps p.tables e below (s₁.setTop (mkF m 1 #[.val (.ref a1), .val (.ref a2), .unset] [(.ref a1)])) _
    refine XS.aloadN X0.here hx rfl (hb hby d12_1) rfl rfl ?_
    exact k
  by_cases ha66 : a1 = a2
  · have pre67 : ∀ t, Steps p.tables e below (s₁.setTop (mkF m 5 #[.val (.ref a1), .val (.ref a2), .unset] [])) t → Steps p.tables e below (s₁.setTop (entryFrame m #[(.ref a1), (.ref a2)] 3)) t := by
      intro t k
      refine pre65 _ ?_
      show Steps p.tables e below (s₁.setTop (mkF m 2 #[.val (.ref a1), .val (.ref a2), .unset] [(.ref a2), (.ref a1)])) _
      refine Jvm.RoadKit.acmp (g := (mkF m 2 #[.val (.ref a1), .val (.ref a2), .unset] [(.ref a2), (.ref a1)])) X0 hx rfl rfl rfl (pc0 := 2) (pc' := 5) (same := true) rfl (hb hby d12_2) rfl (decide_eq_true (congrArg Value.ref ha66)) (by decide) (by decide) ?_
      exact k
    have pre68 : ∀ t, Steps p.tables e below (s₁.setTop (mkF m 6 #[.val (.ref a1), .val (.ref a2), .unset] [(.int (1 : Int32))])) t → Steps p.tables e below (s₁.setTop (entryFrame m #[(.ref a1), (.ref a2)] 3)) t := by
      intro t k
      refine pre67 _ ?_
      show Steps p.tables e below (s₁.setTop (mkF m 5 #[.val (.ref a1), .val (.ref a2), .unset] [])) _
      refine XS.iconst X0.here hx rfl (hb hby d12_5) ?_
      exact k
    obtain ⟨fs, hr, hrun, hended, hW, hsame⟩ := X0.leave (v := some (.int (1 : Int32))) (fun h => by rw [hret] at h; cases h) (hlocks := hlocks)
    refine ⟨_, _, pre68 _ ?_, hrun, hended, _, _, rfl, ?_, ⟨_, rfl⟩, hW, hsame.mono (by decide) (by decide)⟩
    · show Steps p.tables e below (s₁.setTop (mkF m 6 #[.val (.ref a1), .val (.ref a2), .unset] [(.int (1 : Int32))])) _
      exact retN X0 hx (t := .boolean) hret (by simp) (hb hby d12_6) hr
    · show Q12oo Z a1 a2 v1 v2 k1 k2 pC h0 n0 _ s₁.heap _
      rw [e0]
      exact ⟨rfl, N0, rfl⟩
  · have pre69 : ∀ t, Steps p.tables e below (s₁.setTop (mkF m 7 #[.val (.ref a1), .val (.ref a2), .unset] [])) t → Steps p.tables e below (s₁.setTop (entryFrame m #[(.ref a1), (.ref a2)] 3)) t := by
      intro t k
      refine pre65 _ ?_
      show Steps p.tables e below (s₁.setTop (mkF m 2 #[.val (.ref a1), .val (.ref a2), .unset] [(.ref a2), (.ref a1)])) _
      refine Jvm.RoadKit.acmp (g := (mkF m 2 #[.val (.ref a1), .val (.ref a2), .unset] [(.ref a2), (.ref a1)])) X0 hx rfl rfl rfl (pc0 := 2) (pc' := 7) (same := false) rfl (hb hby d12_2) rfl (decide_eq_false fun q => ha66 (Value.ref.inj q)) (by decide) (by decide) ?_
      exact k
    have pre70 : ∀ t, Steps p.tables e below (s₁.setTop (mkF m 8 #[.val (.ref a1), .val (.ref a2), .unset] [(.ref a2)])) t → Steps p.tables e below (s₁.setTop (entryFrame m #[(.ref a1), (.ref a2)] 3)) t := by
      intro t k
      refine pre69 _ ?_
      show Steps p.tables e below (s₁.setTop (mkF m 7 #[.val (.ref a1), .val (.ref a2), .unset] [])) _
      refine XS.aloadN X0.here hx rfl (hb hby d12_7) rfl rfl ?_
      exact k
    obtain ⟨T71, X71, e71, st71⟩ := instY X0 hx hZ hown (hw _ (List.mem_of_getElem? (i := 86) rfl)) e0 (Ins.self E_a2) (g := (mkF m 8 #[.val (.ref a1), .val (.ref a2), .unset] [(.ref a2)])) rfl rfl (hb hby d12_8)
    have pre72 : ∀ t, Steps p.tables e below (T71.setTop (mkF m 11 #[.val (.ref a1), .val (.ref a2), .unset] [(.int (1 : Int32))])) t → Steps p.tables e below (s₁.setTop (entryFrame m #[(.ref a1), (.ref a2)] 3)) t := by
      intro t k
      refine pre70 _ ?_
      show Steps p.tables e below (s₁.setTop (mkF m 8 #[.val (.ref a1), .val (.ref a2), .unset] [(.ref a2)])) _
      refine st71 _ ?_
      exact k
    have pre74 : ∀ t, Steps p.tables e below (T71.setTop (mkF m 14 #[.val (.ref a1), .val (.ref a2), .unset] [])) t → Steps p.tables e below (s₁.setTop (entryFrame m #[(.ref a1), (.ref a2)] 3)) t := by
      intro t k
      refine pre72 _ ?_
      show Steps p.tables e below (T71.setTop (mkF m 11 #[.val (.ref a1), .val (.ref a2), .unset] [(.int (1 : Int32))])) _
      refine XS.ifNo X71.here hx rfl (hb hby d12_11) rfl ((if0 _ _).trans (feq (by decide : ¬ ((1 : Int32) = (0 : Int32)))).1) ?_
      exact k
    have pre75 : ∀ t, Steps p.tables e below (T71.setTop (mkF m 15 #[.val (.ref a1), .val (.ref a2), .unset] [(.ref a2)])) t → Steps p.tables e below (s₁.setTop (entryFrame m #[(.ref a1), (.ref a2)] 3)) t := by
      intro t k
      refine pre74 _ ?_
      show Steps p.tables e below (T71.setTop (mkF m 14 #[.val (.ref a1), .val (.ref a2), .unset] [])) _
      refine XS.aloadN X71.here hx rfl (hb hby d12_14) rfl rfl ?_
      exact k
    obtain ⟨T76, X76, e76, st76⟩ := castY X71 hx hZ hown (hw _ (List.mem_of_getElem? (i := 86) rfl)) e71 (Ins.self E_a2) (g := (mkF m 15 #[.val (.ref a1), .val (.ref a2), .unset] [(.ref a2)])) rfl rfl (hb hby d12_15)
    have pre77 : ∀ t, Steps p.tables e below (T76.setTop (mkF m 18 #[.val (.ref a1), .val (.ref a2), .unset] [(.ref a2)])) t → Steps p.tables e below (s₁.setTop (entryFrame m #[(.ref a1), (.ref a2)] 3)) t := by
      intro t k
      refine pre75 _ ?_
      show Steps p.tables e below (T71.setTop (mkF m 15 #[.val (.ref a1), .val (.ref a2), .unset] [(.ref a2)])) _
      refine st76 _ ?_
      exact k
    have pre78 : ∀ t, Steps p.tables e below (T76.setTop (mkF m 19 #[.val (.ref a1), .val (.ref a2), .val (.ref a2)] [])) t → Steps p.tables e below (s₁.setTop (entryFrame m #[(.ref a1), (.ref a2)] 3)) t := by
      intro t k
      refine pre77 _ ?_
      show Steps p.tables e below (T76.setTop (mkF m 18 #[.val (.ref a1), .val (.ref a2), .unset] [(.ref a2)])) _
      refine XS.astoreN X76.here hx rfl (hb hby d12_18) rfl rfl (l' := #[.val (.ref a1), .val (.ref a2), .val (.ref a2)]) rfl ?_
      exact k
    obtain ⟨T79, X79, e79, st79⟩ := getS2 X76 hx hZ hown (host := "") (Or.inl (hw _ (List.mem_of_getElem? (i := 37) rfl))) Via.refl e76 S_pC (g := (mkF m 19 #[.val (.ref a1), .val (.ref a2), .val (.ref a2)] [])) rfl (hb hby d12_19)
    have pre80 : ∀ t, Steps p.tables e below (T79.setTop (mkF m 22 #[.val (.ref a1), .val (.ref a2), .val (.ref a2)] [(.int pC)])) t → Steps p.tables e below (s₁.setTop (entryFrame m #[(.ref a1), (.ref a2)] 3)) t := by
      intro t k
      refine pre78 _ ?_
      show Steps p.tables e below (T76.setTop (mkF m 19 #[.val (.ref a1), .val (.ref a2), .val (.ref a2)] [])) _
      refine st79 _ ?_
      exact k
    have pre82 : ∀ t, Steps p.tables e below (T79.setTop (mkF m 25 #[.val (.ref a1), .val (.ref a2), .val (.ref a2)] [])) t → Steps p.tables e below (s₁.setTop (entryFrame m #[(.ref a1), (.ref a2)] 3)) t := by
      intro t k
      refine pre80 _ ?_
      show Steps p.tables e below (T79.setTop (mkF m 22 #[.val (.ref a1), .val (.ref a2), .val (.ref a2)] [(.int pC)])) _
      refine XS.ifNo X79.here hx rfl (hb hby d12_22) rfl ((if0 _ _).trans (feq hpc).1) ?_
      exact k
    have pre83 : ∀ t, Steps p.tables e below (T79.setTop (mkF m 26 #[.val (.ref a1), .val (.ref a2), .val (.ref a2)] [(.ref a1)])) t → Steps p.tables e below (s₁.setTop (entryFrame m #[(.ref a1), (.ref a2)] 3)) t := by
      intro t k
      refine pre82 _ ?_
      show Steps p.tables e below (T79.setTop (mkF m 25 #[.val (.ref a1), .val (.ref a2), .val (.ref a2)] [])) _
      refine XS.aloadN X79.here hx rfl (hb hby d12_25) rfl rfl ?_
      exact k
    obtain ⟨T84, X84, e84, st84⟩ := getF X79 hx hZ hown (host := "") (Or.inl (hw _ (List.mem_of_getElem? (i := 25) rfl))) Via.refl e79 C1 (g := (mkF m 26 #[.val (.ref a1), .val (.ref a2), .val (.ref a2)] [(.ref a1)])) rfl rfl (hb hby d12_26)
    have pre85 : ∀ t, Steps p.tables e below (T84.setTop (mkF m 29 #[.val (.ref a1), .val (.ref a2), .val (.ref a2)] [(.int (0 : Int32))])) t → Steps p.tables e below (s₁.setTop (entryFrame m #[(.ref a1), (.ref a2)] 3)) t := by
      intro t k
      refine pre83 _ ?_
      show Steps p.tables e below (T79.setTop (mkF m 26 #[.val (.ref a1), .val (.ref a2), .val (.ref a2)] [(.ref a1)])) _
      refine st84 _ ?_
      exact k
    have pre86 : ∀ t, Steps p.tables e below (T84.setTop (mkF m 30 #[.val (.ref a1), .val (.ref a2), .val (.ref a2)] [(.ref a2), (.int (0 : Int32))])) t → Steps p.tables e below (s₁.setTop (entryFrame m #[(.ref a1), (.ref a2)] 3)) t := by
      intro t k
      refine pre85 _ ?_
      show Steps p.tables e below (T84.setTop (mkF m 29 #[.val (.ref a1), .val (.ref a2), .val (.ref a2)] [(.int (0 : Int32))])) _
      refine XS.aloadN X84.here hx rfl (hb hby d12_29) rfl rfl ?_
      exact k
    obtain ⟨T87, X87, e87, st87⟩ := getF X84 hx hZ hown (host := "") (Or.inl (hw _ (List.mem_of_getElem? (i := 25) rfl))) Via.refl e84 C2 (g := (mkF m 30 #[.val (.ref a1), .val (.ref a2), .val (.ref a2)] [(.ref a2), (.int (0 : Int32))])) rfl rfl (hb hby d12_30)
    have pre88 : ∀ t, Steps p.tables e below (T87.setTop (mkF m 33 #[.val (.ref a1), .val (.ref a2), .val (.ref a2)] [(.int (0 : Int32)), (.int (0 : Int32))])) t → Steps p.tables e below (s₁.setTop (entryFrame m #[(.ref a1), (.ref a2)] 3)) t := by
      intro t k
      refine pre86 _ ?_
      show Steps p.tables e below (T84.setTop (mkF m 30 #[.val (.ref a1), .val (.ref a2), .val (.ref a2)] [(.ref a2), (.int (0 : Int32))])) _
      refine st87 _ ?_
      exact k
    have pre90 : ∀ t, Steps p.tables e below (T87.setTop (mkF m 36 #[.val (.ref a1), .val (.ref a2), .val (.ref a2)] [])) t → Steps p.tables e below (s₁.setTop (entryFrame m #[(.ref a1), (.ref a2)] 3)) t := by
      intro t k
      refine pre88 _ ?_
      show Steps p.tables e below (T87.setTop (mkF m 33 #[.val (.ref a1), .val (.ref a2), .val (.ref a2)] [(.int (0 : Int32)), (.int (0 : Int32))])) _
      refine XS.icmpNo X87.here hx rfl (hb hby d12_33) rfl (teq (rfl : (0 : Int32) = (0 : Int32))).2 ?_
      exact k
    have pre91 : ∀ t, Steps p.tables e below (T87.setTop (mkF m 37 #[.val (.ref a1), .val (.ref a2), .val (.ref a2)] [(.ref a1)])) t → Steps p.tables e below (s₁.setTop (entryFrame m #[(.ref a1), (.ref a2)] 3)) t := by
      intro t k
      refine pre90 _ ?_
      show Steps p.tables e below (T87.setTop (mkF m 36 #[.val (.ref a1), .val (.ref a2), .val (.ref a2)] [])) _
      refine XS.aloadN X87.here hx rfl (hb hby d12_36) rfl rfl ?_
      exact k
    obtain ⟨T92, X92, e92, st92⟩ := getF X87 hx hZ hown (host := "") (Or.inl (hw _ (List.mem_of_getElem? (i := 24) rfl))) Via.refl e87 V1 (g := (mkF m 37 #[.val (.ref a1), .val (.ref a2), .val (.ref a2)] [(.ref a1)])) rfl rfl (hb hby d12_37)
    have pre93 : ∀ t, Steps p.tables e below (T92.setTop (mkF m 40 #[.val (.ref a1), .val (.ref a2), .val (.ref a2)] [(.ref v1)])) t → Steps p.tables e below (s₁.setTop (entryFrame m #[(.ref a1), (.ref a2)] 3)) t := by
      intro t k
      refine pre91 _ ?_
      show Steps p.tables e below (T87.setTop (mkF m 37 #[.val (.ref a1), .val (.ref a2), .val (.ref a2)] [(.ref a1)])) _
      refine st92 _ ?_
      exact k
    have pre94 : ∀ t, Steps p.tables e below (T92.setTop (mkF m 41 #[.val (.ref a1), .val (.ref a2), .val (.ref a2)] [(.ref a2), (.ref v1)])) t → Steps p.tables e below (s₁.setTop (entryFrame m #[(.ref a1), (.ref a2)] 3)) t := by
      intro t k
      refine pre93 _ ?_
      show Steps p.tables e below (T92.setTop (mkF m 40 #[.val (.ref a1), .val (.ref a2), .val (.ref a2)] [(.ref v1)])) _
      refine XS.aloadN X92.here hx rfl (hb hby d12_40) rfl rfl ?_
      exact k
    obtain ⟨T95, X95, e95, st95⟩ := getF X92 hx hZ hown (host := "") (Or.inl (hw _ (List.mem_of_getElem? (i := 24) rfl))) Via.refl e92 V2 (g := (mkF m 41 #[.val (.ref a1), .val (.ref a2), .val (.ref a2)] [(.ref a2), (.ref v1)])) rfl rfl (hb hby d12_41)
    have pre96 : ∀ t, Steps p.tables e below (T95.setTop (mkF m 44 #[.val (.ref a1), .val (.ref a2), .val (.ref a2)] [(.ref v2), (.ref v1)])) t → Steps p.tables e below (s₁.setTop (entryFrame m #[(.ref a1), (.ref a2)] 3)) t := by
      intro t k
      refine pre94 _ ?_
      show Steps p.tables e below (T92.setTop (mkF m 41 #[.val (.ref a1), .val (.ref a2), .val (.ref a2)] [(.ref a2), (.ref v1)])) _
      refine st95 _ ?_
      exact k
    obtain ⟨_, _, ⟨T97, L97, k97, n97⟩, -, X97, ⟨Lc97, hQ97, l97, y97, z97⟩, st97⟩ := Jvm.LawKit.callS X95 hx (y := (⟨"java/lang/StringLatin1", "equals", "([B[B)Z"⟩ : MethodName)) hown (mvT hZ (hw _ (List.mem_of_getElem? (i := 87) rfl))) (mvT hZ (hw _ (List.mem_of_getElem? (i := 88) rfl))) (mvT hZ (hw _ (List.mem_of_getElem? (i := 89) rfl))) (mvT hZ (hw _ (List.mem_of_getElem? (i := 90) rfl))) (by decide) (backOf (W := 0) (rm13oo l Z a0 hw [] v1 v2 k1 k2 h0 n0 Z0 A1 A2) hZ (hw _ (List.mem_of_getElem? (i := 90) rfl)) (hw _ (List.mem_of_getElem? (i := 89) rfl)) (by decide) (by decide)) (g := (mkF m 44 #[.val (.ref a1), .val (.ref a2), .val (.ref a2)] [(.ref v2), (.ref v1)])) rfl (by rw [hml]; rfl) (argsL := [(.ref v1), (.ref v2)]) (rest := []) (lenOf pd___B_B_Z rfl) rfl (by show 2 * 0 + _ ≤ _; exact Nat.le_of_eq rfl) (hb hby d12_44) (fun _ _ => ⟨rfl, e95, (by decide : 0 + 0 ≤ _), (by decide : 0 + 0 ≤ _)⟩)
    dsimp only [Pt.U, Pt.locs, Pt.cells, Pt.slots] at X97 l97 y97 z97 st97 hQ97
    subst l97 y97 z97
    obtain ⟨rfl, N97q, e97⟩ := hQ97
    have N97 := Fr.app N0 N97q
    have pre98 : ∀ t, Steps p.tables e below (T97.setTop (mkF m 47 #[.val (.ref a1), .val (.ref a2), .val (.ref a2)] [(.int (1 : Int32))])) t → Steps p.tables e below (s₁.setTop (entryFrame m #[(.ref a1), (.ref a2)] 3)) t := by
      intro t k
      refine pre96 _ ?_
      show Steps p.tables e below (T95.setTop (mkF m 44 #[.val (.ref a1), .val (.ref a2), .val (.ref a2)] [(.ref v2), (.ref v1)])) _
      refine st97 _ ?_
      exact k
    have pre100 : ∀ t, Steps p.tables e below (T97.setTop (mkF m 50 #[.val (.ref a1), .val (.ref a2), .val (.ref a2)] [])) t → Steps p.tables e below (s₁.setTop (entryFrame m #[(.ref a1), (.ref a2)] 3)) t := by
      intro t k
      refine pre98 _ ?_
      show Steps p.tables e below (T97.setTop (mkF m 47 #[.val (.ref a1), .val (.ref a2), .val (.ref a2)] [(.int (1 : Int32))])) _
      refine XS.ifNo X97.here hx rfl (hb hby d12_47) rfl ((if0 _ _).trans (feq (by decide : ¬ ((1 : Int32) = (0 : Int32)))).1) ?_
      exact k
    have pre101 : ∀ t, Steps p.tables e below (T97.setTop (mkF m 55 #[.val (.ref a1), .val (.ref a2), .val (.ref a2)] [(.int (1 : Int32))])) t → Steps p.tables e below (s₁.setTop (entryFrame m #[(.ref a1), (.ref a2)] 3)) t := by
      intro t k
      refine pre100 _ ?_
      show Steps p.tables e below (T97.setTop (mkF m 50 #[.val (.ref a1), .val (.ref a2), .val (.ref a2)] [])) _
      refine XS.iconst X97.here hx rfl (hb hby d12_50) ?_
      show Steps p.tables e below (T97.setTop (mkF m 51 #[.val (.ref a1), .val (.ref a2), .val (.ref a2)] [(.int (1 : Int32))])) _
      refine XS.goto X97.here hx rfl (pc0 := 51) (pc' := 55) rfl (hb hby d12_51) (by decide) (by decide) ?_
      exact k
    obtain ⟨fs, hr, hrun, hended, hW, hsame⟩ := X97.leave (v := some (.int (1 : Int32))) (fun h => by rw [hret] at h; cases h) (hlocks := hlocks)
    refine ⟨_, _, pre101 _ ?_, hrun, hended, _, _, rfl, ?_, ⟨_, rfl⟩, hW, hsame.mono (by decide) (by decide)⟩
    · show Steps p.tables e below (T97.setTop (mkF m 55 #[.val (.ref a1), .val (.ref a2), .val (.ref a2)] [(.int (1 : Int32))])) _
      exact retN X97 hx (t := .boolean) hret (by simp) (hb hby d12_55) hr
    · show Q12oo Z a1 a2 v1 v2 k1 k2 pC h0 n0 _ T97.heap _
      rw [e97]
      exact ⟨rfl, N97, rfl⟩
theorem d13_34 : decode jdk_43_method_13_code 34 = .ok (.iconst 0, 1) := by decide +kernel
theorem d13_35 : decode jdk_43_method_13_code 35 = .ok (.ireturn, 1) := by decide +kernel
theorem ef_13os (m : MethodId) (x0 : Addr) (x1 : Addr) : entryFrame m #[(.ref x0), (.ref x1)] 3 = mkF m 0 #[.val (.ref x0), .val (.ref x1), .unset] [] := by first | (simp [entryFrame, mkF, argsToLocals, Value.category]; done) | rfl
def Q13os (Z : State) (a1 : Addr) (a2 : Addr) (k1 : ClassId) (k2 : ClassId) (h0 : Heap) (n0 : Nat) (v : Option Value) (h : Heap) (L : List Loc) : Prop := v = some (.int (0 : Int32)) ∧ Fr n0 L ∧ h = h0
set_option maxRecDepth 65536 in
set_option maxHeartbeats 40000000 in
theorem rm13os (l : Launch) (Z : State) (a0 : Array Value) (hw : ∀ d ∈ tables_1, d.before a0 Z = true) (ws : List Jvm.Cond) (a1 : Addr) (a2 : Addr) (k1 : ClassId) (k2 : ClassId) (h0 : Heap) (n0 : Nat) (Z0 : n0 ≤ h0.size) (A1 : Arv Z h0 a1 k1 .byte (9 : Int32) [.int (111 : Int32), .int (110 : Int32), .int (45 : Int32), .int (100 : Int32), .int (101 : Int32), .int (109 : Int32), .int (97 : Int32), .int (110 : Int32), .int (100 : Int32)] (.int (0 : Int32))) (A2 : Arv Z h0 a2 k2 .byte (4 : Int32) [.int (115 : Int32), .int (112 : Int32), .int (111 : Int32), .int (116 : Int32)] (.int (0 : Int32))) :
    MetFree l (⟨"java/lang/StringLatin1", "equals", "([B[B)Z"⟩ : MethodName) (head1 (Jvm.Cond.code (⟨"java/lang/StringLatin1", "equals", "([B[B)Z"⟩ : MethodName) jdk_43_method_13_code 3 (some .boolean) :: ws) ({ frames := 0, cells := 0, slots := 0, locals := 0 } : Room)) (fun a U => a = #[(.ref a1), (.ref a2)] ∧ Z.Warmed39 U.vm ∧ U.heap = h0) (fun _ _ _ _ _ => True) (fun _ U o U' => ∃ v L, o = .returned v ∧ Q13os Z a1 a2 k1 k2 h0 n0 v U'.heap L ∧ FrameEnd U o U' L ({ frames := 0, cells := 0, slots := 0, locals := 0 } : Room).cells ({ frames := 0, cells := 0, slots := 0, locals := 0 } : Room).slots) := by
  refine MetFree.of_bodySF (plainFor_of_name pn_13) hisR ?_
  intro p e s m args below meth c s₁ Bd hml0 hP hK
  obtain ⟨rfl, hZ, hh⟩ := hP
  have hx := Bd.exec
  have hby := Bd.bytes
  have hml : c.maxLocals = 3 := hml0
  have hown : s.vm.findClass "java/lang/StringLatin1" = some m.cls := findClass_of_methodNamed Bd.named
  have hnm := (name_of_methodNamed Bd.named Bd.method).1
  have hret := Bd.returns
  have hlocks : meth.locks = false := Bd.notSynchronized
  have X0 : Stand p l e ({ frames := 0, cells := 0, slots := 0, locals := 0 } : Room) s m #[(.ref a1), (.ref a2)] below meth c s₁ [] 0 0 := Stand.of_body Bd
  have e0 : s₁.heap = h0 := by rw [← hh, Bd.state]; rfl
  have N0 := Fr.nil n0
  obtain ⟨cl1, Ar1, _, S1, N_1, H1, _⟩ := A1
  obtain ⟨cl2, Ar2, _, S2, N_2, H2, _⟩ := A2
  have pre0 : ∀ t, Steps p.tables e below (s₁.setTop (mkF m 0 #[.val (.ref a1), .val (.ref a2), .unset] [])) t → Steps p.tables e below (s₁.setTop (entryFrame m #[(.ref a1), (.ref a2)] 3)) t := fun t k => castTop (ef_13os m a1 a2) k
  have pre102 : ∀ t, Steps p.tables e below (s₁.setTop (mkF m 4 #[.val (.ref a1), .val (.ref a2), .unset] [(.int (4 : Int32)), (.int (9 : Int32))])) t → Steps p.tables e below (s₁.setTop (entryFrame m #[(.ref a1), (.ref a2)] 3)) t := by
    intro t k
    refine pre0 _ ?_
    show Steps p.tables e below (s₁.setTop (mkF m 0 #[.val (.ref a1), .val (.ref a2), .unset] [])) _
    refine XS.aloadN X0.here hx rfl (hb hby d13_0) rfl rfl ?_
    show Steps p.tables e below (s₁.setTop (mkF m 1 #[.val (.ref a1), .val (.ref a2), .unset] [(.ref a1)])) _
    refine X0.arraylength hx (by rw [e0]; exact Ar1.1) (State.isArrayOf_alike hZ.alike Ar1.2.1) (g := (mkF m 1 #[.val (.ref a1), .val (.ref a2), .unset] [(.ref a1)])) rfl rfl (hb hby d13_1) _ ?_
    rw [len_of S1 N_1]
    show Steps p.tables e below (s₁.setTop (mkF m 2 #[.val (.ref a1), .val (.ref a2), .unset] [(.int (9 : Int32))])) _
    refine XS.aloadN X0.here hx rfl (hb hby d13_2) rfl rfl ?_
    show Steps p.tables e below (s₁.setTop (mkF m 3 #[.val (.ref a1), .val (.ref a2), .unset] [(.ref a2), (.int (9 : Int32))])) _
    refine X0.arraylength hx (by rw [e0]; exact Ar2.1) (State.isArrayOf_alike hZ.alike Ar2.2.1) (g := (mkF m 3 #[.val (.ref a1), .val (.ref a2), .unset] [(.ref a2), (.int (9 : Int32))])) rfl rfl (hb hby d13_3) _ ?_
    rw [len_of S2 N_2]
    exact k
  have pre104 : ∀ t, Steps p.tables e below (s₁.setTop (mkF m 34 #[.val (.ref a1), .val (.ref a2), .unset] [])) t → Steps p.tables e below (s₁.setTop (entryFrame m #[(.ref a1), (.ref a2)] 3)) t := by
    intro t k
    refine pre102 _ ?_
    show Steps p.tables e below (s₁.setTop (mkF m 4 #[.val (.ref a1), .val (.ref a2), .unset] [(.int (4 : Int32)), (.int (9 : Int32))])) _
    refine XS.icmpYes X0.here hx rfl (pc0 := 4) (pc' := 34) rfl (hb hby d13_4) rfl (feq (by decide : ¬ ((9 : Int32) = (4 : Int32)))).2 (by decide) (by decide) ?_
    exact k
  have pre105 : ∀ t, Steps p.tables e below (s₁.setTop (mkF m 35 #[.val (.ref a1), .val (.ref a2), .unset] [(.int (0 : Int32))])) t → Steps p.tables e below (s₁.setTop (entryFrame m #[(.ref a1), (.ref a2)] 3)) t := by
    intro t k
    refine pre104 _ ?_
    show Steps p.tables e below (s₁.setTop (mkF m 34 #[.val (.ref a1), .val (.ref a2), .unset] [])) _
    refine XS.iconst X0.here hx rfl (hb hby d13_34) ?_
    exact k
  obtain ⟨fs, hr, hrun, hended, hW, hsame⟩ := X0.leave (v := some (.int (0 : Int32))) (fun h => by rw [hret] at h; cases h) (hlocks := hlocks)
  refine ⟨_, _, pre105 _ ?_, hrun, hended, _, _, rfl, ?_, ⟨_, rfl⟩, hW, hsame.mono (by decide) (by decide)⟩
  · show Steps p.tables e below (s₁.setTop (mkF m 35 #[.val (.ref a1), .val (.ref a2), .unset] [(.int (0 : Int32))])) _
    exact retN X0 hx (t := .boolean) hret (by simp) (hb hby d13_35) hr
  · show Q13os Z a1 a2 k1 k2 h0 n0 _ s₁.heap _
    rw [e0]
    exact ⟨rfl, N0, rfl⟩
theorem d12_54 : decode jdk_42_method_66_code 54 = .ok (.iconst 0, 1) := by decide +kernel
theorem ef_12os (m : MethodId) (x0 : Addr) (x1 : Addr) : entryFrame m #[(.ref x0), (.ref x1)] 3 = mkF m 0 #[.val (.ref x0), .val (.ref x1), .unset] [] := by first | (simp [entryFrame, mkF, argsToLocals, Value.category]; done) | rfl
def Q12os (Z : State) (a1 : Addr) (a2 : Addr) (v1 : Addr) (v2 : Addr) (k1 : ClassId) (k2 : ClassId) (pC : Int32) (h0 : Heap) (n0 : Nat) (v : Option Value) (h : Heap) (L : List Loc) : Prop := v = some (.int (0 : Int32)) ∧ Fr n0 L ∧ h = h0
set_option maxRecDepth 65536 in
set_option maxHeartbeats 40000000 in
theorem rm12os (l : Launch) (Z : State) (a0 : Array Value) (hw : ∀ d ∈ tables_1, d.before a0 Z = true) (ws : List Jvm.Cond) (a1 : Addr) (a2 : Addr) (v1 : Addr) (v2 : Addr) (k1 : ClassId) (k2 : ClassId) (pC : Int32) (h0 : Heap) (n0 : Nat) (Z0 : n0 ≤ h0.size) (E_a2 : Exa Z h0 a2 "java/lang/String") (C1 : Fld Z h0 a1 "java/lang/String" "coder" "B" (.int (0 : Int32))) (C2 : Fld Z h0 a2 "java/lang/String" "coder" "B" (.int (0 : Int32))) (V1 : Fld Z h0 a1 "java/lang/String" "value" "[B" (.ref v1)) (V2 : Fld Z h0 a2 "java/lang/String" "value" "[B" (.ref v2)) (A1 : Arv Z h0 v1 k1 .byte (9 : Int32) [.int (111 : Int32), .int (110 : Int32), .int (45 : Int32), .int (100 : Int32), .int (101 : Int32), .int (109 : Int32), .int (97 : Int32), .int (110 : Int32), .int (100 : Int32)] (.int (0 : Int32))) (A2 : Arv Z h0 v2 k2 .byte (4 : Int32) [.int (115 : Int32), .int (112 : Int32), .int (111 : Int32), .int (116 : Int32)] (.int (0 : Int32))) (hpc : ¬ (pC = (0 : Int32))) (hne : a1 ≠ a2) (S_pC : Sta Z h0 "java/lang/String" "COMPACT_STRINGS" "Z" (.int pC)) :
    MetFree l (⟨"java/lang/String", "equals", "(Ljava/lang/Object;)Z"⟩ : MethodName) (head1 (Jvm.Cond.code (⟨"java/lang/String", "equals", "(Ljava/lang/Object;)Z"⟩ : MethodName) jdk_42_method_66_code 3 (some .boolean) :: ws) ({ frames := 1, cells := 0, slots := 0, locals := 14 } : Room)) (fun a U => a = #[(.ref a1), (.ref a2)] ∧ Z.Warmed39 U.vm ∧ U.heap = h0) (fun _ _ _ _ _ => True) (fun _ U o U' => ∃ v L, o = .returned v ∧ Q12os Z a1 a2 v1 v2 k1 k2 pC h0 n0 v U'.heap L ∧ FrameEnd U o U' L ({ frames := 1, cells := 0, slots := 0, locals := 14 } : Room).cells ({ frames := 1, cells := 0, slots := 0, locals := 14 } : Room).slots) := by
  refine MetFree.of_bodySF (plainFor_of_name pn_12) hisR ?_
  intro p e s m args below meth c s₁ Bd hml0 hP hK
  obtain ⟨rfl, hZ, hh⟩ := hP
  have hx := Bd.exec
  have hby := Bd.bytes
  have hml : c.maxLocals = 3 := hml0
  have hown : s.vm.findClass "java/lang/String" = some m.cls := findClass_of_methodNamed Bd.named
  have hnm := (name_of_methodNamed Bd.named Bd.method).1
  have hret := Bd.returns
  have hlocks : meth.locks = false := Bd.notSynchronized
  have X0 : Stand p l e ({ frames := 1, cells := 0, slots := 0, locals := 14 } : Room) s m #[(.ref a1), (.ref a2)] below meth c s₁ [] 0 0 := Stand.of_body Bd
  have e0 : s₁.heap = h0 := by rw [← hh, Bd.state]; rfl
  have N0 := Fr.nil n0
  have pre0 : ∀ t, Steps p.tables e below (s₁.setTop (mkF m 0 #[.val (.ref a1), .val (.ref a2), .unset] [])) t → Steps p.tables e below (s₁.setTop (entryFrame m #[(.ref a1), (.ref a2)] 3)) t := fun t k => castTop (ef_12os m a1 a2) k
  have pre106 : ∀ t, Steps p.tables e below (s₁.setTop (mkF m 2 #[.val (.ref a1), .val (.ref a2), .unset] [(.ref a2), (.ref a1)])) t → Steps p.tables e below (s₁.setTop (entryFrame m #[(.ref a1), (.ref a2)] 3)) t := by
    intro t k
    refine pre0 _ ?_
    show Steps p.tables e below (s₁.setTop (mkF m 0 #[.val (.ref a1), .val (.ref a2), .unset] [])) _
    refine XS.aloadN X0.here hx rfl (hb hby d12_0) rfl rfl ?_
    show Steps p.tables e below (s₁.setTop (mkF m 1 #[.val (.ref a1), .val (.ref a2), .unset] [(.ref a1)])) _
    refine XS.aloadN X0.here hx rfl (hb hby d12_1) rfl rfl ?_
    exact k
  have pre107 : ∀ t, Steps p.tables e below (s₁.setTop (mkF m 7 #[.val (.ref a1), .val (.ref a2), .unset] [])) t → Steps p.tables e below (s₁.setTop (entryFrame m #[(.ref a1), (.ref a2)] 3)) t := by
    intro t k
    refine pre106 _ ?_
    show Steps p.tables e below (s₁.setTop (mkF m 2 #[.val (.ref a1), .val (.ref a2), .unset] [(.ref a2), (.ref a1)])) _
    refine Jvm.RoadKit.acmp (g := (mkF m 2 #[.val (.ref a1), .val (.ref a2), .unset] [(.ref a2), (.ref a1)])) X0 hx rfl rfl rfl (pc0 := 2) (pc' := 7) (same := false) rfl (hb hby d12_2) rfl (decide_eq_false fun q => hne (Value.ref.inj q)) (by decide) (by decide) ?_
    exact k
  have pre108 : ∀ t, Steps p.tables e below (s₁.setTop (mkF m 8 #[.val (.ref a1), .val (.ref a2), .unset] [(.ref a2)])) t → Steps p.tables e below (s₁.setTop (entryFrame m #[(.ref a1), (.ref a2)] 3)) t := by
    intro t k
    refine pre107 _ ?_
    show Steps p.tables e below (s₁.setTop (mkF m 7 #[.val (.ref a1), .val (.ref a2), .unset] [])) _
    refine XS.aloadN X0.here hx rfl (hb hby d12_7) rfl rfl ?_
    exact k
  obtain ⟨T109, X109, e109, st109⟩ := instY X0 hx hZ hown (hw _ (List.mem_of_getElem? (i := 86) rfl)) e0 (Ins.self E_a2) (g := (mkF m 8 #[.val (.ref a1), .val (.ref a2), .unset] [(.ref a2)])) rfl rfl (hb hby d12_8)
  have pre110 : ∀ t, Steps p.tables e below (T109.setTop (mkF m 11 #[.val (.ref a1), .val (.ref a2), .unset] [(.int (1 : Int32))])) t → Steps p.tables e below (s₁.setTop (entryFrame m #[(.ref a1), (.ref a2)] 3)) t := by
    intro t k
    refine pre108 _ ?_
    show Steps p.tables e below (s₁.setTop (mkF m 8 #[.val (.ref a1), .val (.ref a2), .unset] [(.ref a2)])) _
    refine st109 _ ?_
    exact k
  have pre112 : ∀ t, Steps p.tables e below (T109.setTop (mkF m 14 #[.val (.ref a1), .val (.ref a2), .unset] [])) t → Steps p.tables e below (s₁.setTop (entryFrame m #[(.ref a1), (.ref a2)] 3)) t := by
    intro t k
    refine pre110 _ ?_
    show Steps p.tables e below (T109.setTop (mkF m 11 #[.val (.ref a1), .val (.ref a2), .unset] [(.int (1 : Int32))])) _
    refine XS.ifNo X109.here hx rfl (hb hby d12_11) rfl ((if0 _ _).trans (feq (by decide : ¬ ((1 : Int32) = (0 : Int32)))).1) ?_
    exact k
  have pre113 : ∀ t, Steps p.tables e below (T109.setTop (mkF m 15 #[.val (.ref a1), .val (.ref a2), .unset] [(.ref a2)])) t → Steps p.tables e below (s₁.setTop (entryFrame m #[(.ref a1), (.ref a2)] 3)) t := by
    intro t k
    refine pre112 _ ?_
    show Steps p.tables e below (T109.setTop (mkF m 14 #[.val (.ref a1), .val (.ref a2), .unset] [])) _
    refine XS.aloadN X109.here hx rfl (hb hby d12_14) rfl rfl ?_
    exact k
  obtain ⟨T114, X114, e114, st114⟩ := castY X109 hx hZ hown (hw _ (List.mem_of_getElem? (i := 86) rfl)) e109 (Ins.self E_a2) (g := (mkF m 15 #[.val (.ref a1), .val (.ref a2), .unset] [(.ref a2)])) rfl rfl (hb hby d12_15)
  have pre115 : ∀ t, Steps p.tables e below (T114.setTop (mkF m 18 #[.val (.ref a1), .val (.ref a2), .unset] [(.ref a2)])) t → Steps p.tables e below (s₁.setTop (entryFrame m #[(.ref a1), (.ref a2)] 3)) t := by
    intro t k
    refine pre113 _ ?_
    show Steps p.tables e below (T109.setTop (mkF m 15 #[.val (.ref a1), .val (.ref a2), .unset] [(.ref a2)])) _
    refine st114 _ ?_
    exact k
  have pre116 : ∀ t, Steps p.tables e below (T114.setTop (mkF m 19 #[.val (.ref a1), .val (.ref a2), .val (.ref a2)] [])) t → Steps p.tables e below (s₁.setTop (entryFrame m #[(.ref a1), (.ref a2)] 3)) t := by
    intro t k
    refine pre115 _ ?_
    show Steps p.tables e below (T114.setTop (mkF m 18 #[.val (.ref a1), .val (.ref a2), .unset] [(.ref a2)])) _
    refine XS.astoreN X114.here hx rfl (hb hby d12_18) rfl rfl (l' := #[.val (.ref a1), .val (.ref a2), .val (.ref a2)]) rfl ?_
    exact k
  obtain ⟨T117, X117, e117, st117⟩ := getS2 X114 hx hZ hown (host := "") (Or.inl (hw _ (List.mem_of_getElem? (i := 37) rfl))) Via.refl e114 S_pC (g := (mkF m 19 #[.val (.ref a1), .val (.ref a2), .val (.ref a2)] [])) rfl (hb hby d12_19)
  have pre118 : ∀ t, Steps p.tables e below (T117.setTop (mkF m 22 #[.val (.ref a1), .val (.ref a2), .val (.ref a2)] [(.int pC)])) t → Steps p.tables e below (s₁.setTop (entryFrame m #[(.ref a1), (.ref a2)] 3)) t := by
    intro t k
    refine pre116 _ ?_
    show Steps p.tables e below (T114.setTop (mkF m 19 #[.val (.ref a1), .val (.ref a2), .val (.ref a2)] [])) _
    refine st117 _ ?_
    exact k
  have pre120 : ∀ t, Steps p.tables e below (T117.setTop (mkF m 25 #[.val (.ref a1), .val (.ref a2), .val (.ref a2)] [])) t → Steps p.tables e below (s₁.setTop (entryFrame m #[(.ref a1), (.ref a2)] 3)) t := by
    intro t k
    refine pre118 _ ?_
    show Steps p.tables e below (T117.setTop (mkF m 22 #[.val (.ref a1), .val (.ref a2), .val (.ref a2)] [(.int pC)])) _
    refine XS.ifNo X117.here hx rfl (hb hby d12_22) rfl ((if0 _ _).trans (feq hpc).1) ?_
    exact k
  have pre121 : ∀ t, Steps p.tables e below (T117.setTop (mkF m 26 #[.val (.ref a1), .val (.ref a2), .val (.ref a2)] [(.ref a1)])) t → Steps p.tables e below (s₁.setTop (entryFrame m #[(.ref a1), (.ref a2)] 3)) t := by
    intro t k
    refine pre120 _ ?_
    show Steps p.tables e below (T117.setTop (mkF m 25 #[.val (.ref a1), .val (.ref a2), .val (.ref a2)] [])) _
    refine XS.aloadN X117.here hx rfl (hb hby d12_25) rfl rfl ?_
    exact k
  obtain ⟨T122, X122, e122, st122⟩ := getF X117 hx hZ hown (host := "") (Or.inl (hw _ (List.mem_of_getElem? (i := 25) rfl))) Via.refl e117 C1 (g := (mkF m 26 #[.val (.ref a1), .val (.ref a2), .val (.ref a2)] [(.ref a1)])) rfl rfl (hb hby d12_26)
  have pre123 : ∀ t, Steps p.tables e below (T122.setTop (mkF m 29 #[.val (.ref a1), .val (.ref a2), .val (.ref a2)] [(.int (0 : Int32))])) t → Steps p.tables e below (s₁.setTop (entryFrame m #[(.ref a1), (.ref a2)] 3)) t := by
    intro t k
    refine pre121 _ ?_
    show Steps p.tables e below (T117.setTop (mkF m 26 #[.val (.ref a1), .val (.ref a2), .val (.ref a2)] [(.ref a1)])) _
    refine st122 _ ?_
    exact k
  have pre124 : ∀ t, Steps p.tables e below (T122.setTop (mkF m 30 #[.val (.ref a1), .val (.ref a2), .val (.ref a2)] [(.ref a2), (.int (0 : Int32))])) t → Steps p.tables e below (s₁.setTop (entryFrame m #[(.ref a1), (.ref a2)] 3)) t := by
    intro t k
    refine pre123 _ ?_
    show Steps p.tables e below (T122.setTop (mkF m 29 #[.val (.ref a1), .val (.ref a2), .val (.ref a2)] [(.int (0 : Int32))])) _
    refine XS.aloadN X122.here hx rfl (hb hby d12_29) rfl rfl ?_
    exact k
  obtain ⟨T125, X125, e125, st125⟩ := getF X122 hx hZ hown (host := "") (Or.inl (hw _ (List.mem_of_getElem? (i := 25) rfl))) Via.refl e122 C2 (g := (mkF m 30 #[.val (.ref a1), .val (.ref a2), .val (.ref a2)] [(.ref a2), (.int (0 : Int32))])) rfl rfl (hb hby d12_30)
  have pre126 : ∀ t, Steps p.tables e below (T125.setTop (mkF m 33 #[.val (.ref a1), .val (.ref a2), .val (.ref a2)] [(.int (0 : Int32)), (.int (0 : Int32))])) t → Steps p.tables e below (s₁.setTop (entryFrame m #[(.ref a1), (.ref a2)] 3)) t := by
    intro t k
    refine pre124 _ ?_
    show Steps p.tables e below (T122.setTop (mkF m 30 #[.val (.ref a1), .val (.ref a2), .val (.ref a2)] [(.ref a2), (.int (0 : Int32))])) _
    refine st125 _ ?_
    exact k
  have pre128 : ∀ t, Steps p.tables e below (T125.setTop (mkF m 36 #[.val (.ref a1), .val (.ref a2), .val (.ref a2)] [])) t → Steps p.tables e below (s₁.setTop (entryFrame m #[(.ref a1), (.ref a2)] 3)) t := by
    intro t k
    refine pre126 _ ?_
    show Steps p.tables e below (T125.setTop (mkF m 33 #[.val (.ref a1), .val (.ref a2), .val (.ref a2)] [(.int (0 : Int32)), (.int (0 : Int32))])) _
    refine XS.icmpNo X125.here hx rfl (hb hby d12_33) rfl (teq (rfl : (0 : Int32) = (0 : Int32))).2 ?_
    exact k
  have pre129 : ∀ t, Steps p.tables e below (T125.setTop (mkF m 37 #[.val (.ref a1), .val (.ref a2), .val (.ref a2)] [(.ref a1)])) t → Steps p.tables e below (s₁.setTop (entryFrame m #[(.ref a1), (.ref a2)] 3)) t := by
    intro t k
    refine pre128 _ ?_
    show Steps p.tables e below (T125.setTop (mkF m 36 #[.val (.ref a1), .val (.ref a2), .val (.ref a2)] [])) _
    refine XS.aloadN X125.here hx rfl (hb hby d12_36) rfl rfl ?_
    exact k
  obtain ⟨T130, X130, e130, st130⟩ := getF X125 hx hZ hown (host := "") (Or.inl (hw _ (List.mem_of_getElem? (i := 24) rfl))) Via.refl e125 V1 (g := (mkF m 37 #[.val (.ref a1), .val (.ref a2), .val (.ref a2)] [(.ref a1)])) rfl rfl (hb hby d12_37)
  have pre131 : ∀ t, Steps p.tables e below (T130.setTop (mkF m 40 #[.val (.ref a1), .val (.ref a2), .val (.ref a2)] [(.ref v1)])) t → Steps p.tables e below (s₁.setTop (entryFrame m #[(.ref a1), (.ref a2)] 3)) t := by
    intro t k
    refine pre129 _ ?_
    show Steps p.tables e below (T125.setTop (mkF m 37 #[.val (.ref a1), .val (.ref a2), .val (.ref a2)] [(.ref a1)])) _
    refine st130 _ ?_
    exact k
  have pre132 : ∀ t, Steps p.tables e below (T130.setTop (mkF m 41 #[.val (.ref a1), .val (.ref a2), .val (.ref a2)] [(.ref a2), (.ref v1)])) t → Steps p.tables e below (s₁.setTop (entryFrame m #[(.ref a1), (.ref a2)] 3)) t := by
    intro t k
    refine pre131 _ ?_
    show Steps p.tables e below (T130.setTop (mkF m 40 #[.val (.ref a1), .val (.ref a2), .val (.ref a2)] [(.ref v1)])) _
    refine XS.aloadN X130.here hx rfl (hb hby d12_40) rfl rfl ?_
    exact k
  obtain ⟨T133, X133, e133, st133⟩ := getF X130 hx hZ hown (host := "") (Or.inl (hw _ (List.mem_of_getElem? (i := 24) rfl))) Via.refl e130 V2 (g := (mkF m 41 #[.val (.ref a1), .val (.ref a2), .val (.ref a2)] [(.ref a2), (.ref v1)])) rfl rfl (hb hby d12_41)
  have pre134 : ∀ t, Steps p.tables e below (T133.setTop (mkF m 44 #[.val (.ref a1), .val (.ref a2), .val (.ref a2)] [(.ref v2), (.ref v1)])) t → Steps p.tables e below (s₁.setTop (entryFrame m #[(.ref a1), (.ref a2)] 3)) t := by
    intro t k
    refine pre132 _ ?_
    show Steps p.tables e below (T130.setTop (mkF m 41 #[.val (.ref a1), .val (.ref a2), .val (.ref a2)] [(.ref a2), (.ref v1)])) _
    refine st133 _ ?_
    exact k
  obtain ⟨_, _, ⟨T135, L135, k135, n135⟩, -, X135, ⟨Lc135, hQ135, l135, y135, z135⟩, st135⟩ := Jvm.LawKit.callS X133 hx (y := (⟨"java/lang/StringLatin1", "equals", "([B[B)Z"⟩ : MethodName)) hown (mvT hZ (hw _ (List.mem_of_getElem? (i := 87) rfl))) (mvT hZ (hw _ (List.mem_of_getElem? (i := 88) rfl))) (mvT hZ (hw _ (List.mem_of_getElem? (i := 89) rfl))) (mvT hZ (hw _ (List.mem_of_getElem? (i := 90) rfl))) (by decide) (backOf (W := 0) (rm13os l Z a0 hw [] v1 v2 k1 k2 h0 n0 Z0 A1 A2) hZ (hw _ (List.mem_of_getElem? (i := 90) rfl)) (hw _ (List.mem_of_getElem? (i := 89) rfl)) (by decide) (by decide)) (g := (mkF m 44 #[.val (.ref a1), .val (.ref a2), .val (.ref a2)] [(.ref v2), (.ref v1)])) rfl (by rw [hml]; rfl) (argsL := [(.ref v1), (.ref v2)]) (rest := []) (lenOf pd___B_B_Z rfl) rfl (by show 2 * 0 + _ ≤ _; exact Nat.le_of_eq rfl) (hb hby d12_44) (fun _ _ => ⟨rfl, e133, (by decide : 0 + 0 ≤ _), (by decide : 0 + 0 ≤ _)⟩)
  dsimp only [Pt.U, Pt.locs, Pt.cells, Pt.slots] at X135 l135 y135 z135 st135 hQ135
  subst l135 y135 z135
  obtain ⟨rfl, N135q, e135⟩ := hQ135
  have N135 := Fr.app N0 N135q
  have pre136 : ∀ t, Steps p.tables e below (T135.setTop (mkF m 47 #[.val (.ref a1), .val (.ref a2), .val (.ref a2)] [(.int (0 : Int32))])) t → Steps p.tables e below (s₁.setTop (entryFrame m #[(.ref a1), (.ref a2)] 3)) t := by
    intro t k
    refine pre134 _ ?_
    show Steps p.tables e below (T133.setTop (mkF m 44 #[.val (.ref a1), .val (.ref a2), .val (.ref a2)] [(.ref v2), (.ref v1)])) _
    refine st135 _ ?_
    exact k
  have pre138 : ∀ t, Steps p.tables e below (T135.setTop (mkF m 54 #[.val (.ref a1), .val (.ref a2), .val (.ref a2)] [])) t → Steps p.tables e below (s₁.setTop (entryFrame m #[(.ref a1), (.ref a2)] 3)) t := by
    intro t k
    refine pre136 _ ?_
    show Steps p.tables e below (T135.setTop (mkF m 47 #[.val (.ref a1), .val (.ref a2), .val (.ref a2)] [(.int (0 : Int32))])) _
    refine XS.ifYes X135.here hx rfl (pc0 := 47) (pc' := 54) rfl (hb hby d12_47) rfl ((if0 _ _).trans (teq (rfl : (0 : Int32) = (0 : Int32))).1) (by decide) (by decide) ?_
    exact k
  have pre139 : ∀ t, Steps p.tables e below (T135.setTop (mkF m 55 #[.val (.ref a1), .val (.ref a2), .val (.ref a2)] [(.int (0 : Int32))])) t → Steps p.tables e below (s₁.setTop (entryFrame m #[(.ref a1), (.ref a2)] 3)) t := by
    intro t k
    refine pre138 _ ?_
    show Steps p.tables e below (T135.setTop (mkF m 54 #[.val (.ref a1), .val (.ref a2), .val (.ref a2)] [])) _
    refine XS.iconst X135.here hx rfl (hb hby d12_54) ?_
    exact k
  obtain ⟨fs, hr, hrun, hended, hW, hsame⟩ := X135.leave (v := some (.int (0 : Int32))) (fun h => by rw [hret] at h; cases h) (hlocks := hlocks)
  refine ⟨_, _, pre139 _ ?_, hrun, hended, _, _, rfl, ?_, ⟨_, rfl⟩, hW, hsame.mono (by decide) (by decide)⟩
  · show Steps p.tables e below (T135.setTop (mkF m 55 #[.val (.ref a1), .val (.ref a2), .val (.ref a2)] [(.int (0 : Int32))])) _
    exact retN X135 hx (t := .boolean) hret (by simp) (hb hby d12_55) hr
  · show Q12os Z a1 a2 v1 v2 k1 k2 pC h0 n0 _ T135.heap _
    rw [e135]
    exact ⟨rfl, N135, rfl⟩
theorem ef_13ss (m : MethodId) (x0 : Addr) (x1 : Addr) : entryFrame m #[(.ref x0), (.ref x1)] 3 = mkF m 0 #[.val (.ref x0), .val (.ref x1), .unset] [] := by first | (simp [entryFrame, mkF, argsToLocals, Value.category]; done) | rfl
def Q13ss (Z : State) (a1 : Addr) (a2 : Addr) (k1 : ClassId) (k2 : ClassId) (h0 : Heap) (n0 : Nat) (v : Option Value) (h : Heap) (L : List Loc) : Prop := v = some (.int (1 : Int32)) ∧ Fr n0 L ∧ h = h0
set_option maxRecDepth 65536 in
set_option maxHeartbeats 40000000 in
theorem rm13ss (l : Launch) (Z : State) (a0 : Array Value) (hw : ∀ d ∈ tables_1, d.before a0 Z = true) (ws : List Jvm.Cond) (a1 : Addr) (a2 : Addr) (k1 : ClassId) (k2 : ClassId) (h0 : Heap) (n0 : Nat) (Z0 : n0 ≤ h0.size) (A1 : Arv Z h0 a1 k1 .byte (4 : Int32) [.int (115 : Int32), .int (112 : Int32), .int (111 : Int32), .int (116 : Int32)] (.int (0 : Int32))) (A2 : Arv Z h0 a2 k2 .byte (4 : Int32) [.int (115 : Int32), .int (112 : Int32), .int (111 : Int32), .int (116 : Int32)] (.int (0 : Int32))) :
    MetFree l (⟨"java/lang/StringLatin1", "equals", "([B[B)Z"⟩ : MethodName) (head1 (Jvm.Cond.code (⟨"java/lang/StringLatin1", "equals", "([B[B)Z"⟩ : MethodName) jdk_43_method_13_code 3 (some .boolean) :: ws) ({ frames := 0, cells := 0, slots := 0, locals := 0 } : Room)) (fun a U => a = #[(.ref a1), (.ref a2)] ∧ Z.Warmed39 U.vm ∧ U.heap = h0) (fun _ _ _ _ _ => True) (fun _ U o U' => ∃ v L, o = .returned v ∧ Q13ss Z a1 a2 k1 k2 h0 n0 v U'.heap L ∧ FrameEnd U o U' L ({ frames := 0, cells := 0, slots := 0, locals := 0 } : Room).cells ({ frames := 0, cells := 0, slots := 0, locals := 0 } : Room).slots) := by
  refine MetFree.of_bodySF (plainFor_of_name pn_13) hisR ?_
  intro p e s m args below meth c s₁ Bd hml0 hP hK
  obtain ⟨rfl, hZ, hh⟩ := hP
  have hx := Bd.exec
  have hby := Bd.bytes
  have hml : c.maxLocals = 3 := hml0
  have hown : s.vm.findClass "java/lang/StringLatin1" = some m.cls := findClass_of_methodNamed Bd.named
  have hnm := (name_of_methodNamed Bd.named Bd.method).1
  have hret := Bd.returns
  have hlocks : meth.locks = false := Bd.notSynchronized
  have X0 : Stand p l e ({ frames := 0, cells := 0, slots := 0, locals := 0 } : Room) s m #[(.ref a1), (.ref a2)] below meth c s₁ [] 0 0 := Stand.of_body Bd
  have e0 : s₁.heap = h0 := by rw [← hh, Bd.state]; rfl
  have N0 := Fr.nil n0
  obtain ⟨cl1, Ar1, _, S1, N_1, H1, _⟩ := A1
  obtain ⟨cl2, Ar2, _, S2, N_2, H2, _⟩ := A2
  have pre0 : ∀ t, Steps p.tables e below (s₁.setTop (mkF m 0 #[.val (.ref a1), .val (.ref a2), .unset] [])) t → Steps p.tables e below (s₁.setTop (entryFrame m #[(.ref a1), (.ref a2)] 3)) t := fun t k => castTop (ef_13ss m a1 a2) k
  have pre140 : ∀ t, Steps p.tables e below (s₁.setTop (mkF m 4 #[.val (.ref a1), .val (.ref a2), .unset] [(.int (4 : Int32)), (.int (4 : Int32))])) t → Steps p.tables e below (s₁.setTop (entryFrame m #[(.ref a1), (.ref a2)] 3)) t := by
    intro t k
    refine pre0 _ ?_
    show Steps p.tables e below (s₁.setTop (mkF m 0 #[.val (.ref a1), .val (.ref a2), .unset] [])) _
    refine XS.aloadN X0.here hx rfl (hb hby d13_0) rfl rfl ?_
    show Steps p.tables e below (s₁.setTop (mkF m 1 #[.val (.ref a1), .val (.ref a2), .unset] [(.ref a1)])) _
    refine X0.arraylength hx (by rw [e0]; exact Ar1.1) (State.isArrayOf_alike hZ.alike Ar1.2.1) (g := (mkF m 1 #[.val (.ref a1), .val (.ref a2), .unset] [(.ref a1)])) rfl rfl (hb hby d13_1) _ ?_
    rw [len_of S1 N_1]
    show Steps p.tables e below (s₁.setTop (mkF m 2 #[.val (.ref a1), .val (.ref a2), .unset] [(.int (4 : Int32))])) _
    refine XS.aloadN X0.here hx rfl (hb hby d13_2) rfl rfl ?_
    show Steps p.tables e below (s₁.setTop (mkF m 3 #[.val (.ref a1), .val (.ref a2), .unset] [(.ref a2), (.int (4 : Int32))])) _
    refine X0.arraylength hx (by rw [e0]; exact Ar2.1) (State.isArrayOf_alike hZ.alike Ar2.2.1) (g := (mkF m 3 #[.val (.ref a1), .val (.ref a2), .unset] [(.ref a2), (.int (4 : Int32))])) rfl rfl (hb hby d13_3) _ ?_
    rw [len_of S2 N_2]
    exact k
  have pre142 : ∀ t, Steps p.tables e below (s₁.setTop (mkF m 7 #[.val (.ref a1), .val (.ref a2), .unset] [])) t → Steps p.tables e below (s₁.setTop (entryFrame m #[(.ref a1), (.ref a2)] 3)) t := by
    intro t k
    refine pre140 _ ?_
    show Steps p.tables e below (s₁.setTop (mkF m 4 #[.val (.ref a1), .val (.ref a2), .unset] [(.int (4 : Int32)), (.int (4 : Int32))])) _
    refine XS.icmpNo X0.here hx rfl (hb hby d13_4) rfl (teq (rfl : (4 : Int32) = (4 : Int32))).2 ?_
    exact k
  have pre143 : ∀ t, Steps p.tables e below (s₁.setTop (mkF m 12 #[.val (.ref a1), .val (.ref a2), .val (.int (0 : Int32))] [(.int (4 : Int32)), (.int (0 : Int32))])) t → Steps p.tables e below (s₁.setTop (entryFrame m #[(.ref a1), (.ref a2)] 3)) t := by
    intro t k
    refine pre142 _ ?_
    show Steps p.tables e below (s₁.setTop (mkF m 7 #[.val (.ref a1), .val (.ref a2), .unset] [])) _
    refine XS.iconst X0.here hx rfl (hb hby d13_7) ?_
    show Steps p.tables e below (s₁.setTop (mkF m 8 #[.val (.ref a1), .val (.ref a2), .unset] [(.int (0 : Int32))])) _
    refine XS.istoreN X0.here hx rfl (hb hby d13_8) rfl (l' := #[.val (.ref a1), .val (.ref a2), .val (.int (0 : Int32))]) rfl ?_
    show Steps p.tables e below (s₁.setTop (mkF m 9 #[.val (.ref a1), .val (.ref a2), .val (.int (0 : Int32))] [])) _
    refine XS.iloadN X0.here hx rfl (hb hby d13_9) rfl ?_
    show Steps p.tables e below (s₁.setTop (mkF m 10 #[.val (.ref a1), .val (.ref a2), .val (.int (0 : Int32))] [(.int (0 : Int32))])) _
    refine XS.aloadN X0.here hx rfl (hb hby d13_10) rfl rfl ?_
    show Steps p.tables e below (s₁.setTop (mkF m 11 #[.val (.ref a1), .val (.ref a2), .val (.int (0 : Int32))] [(.ref a1), (.int (0 : Int32))])) _
    refine X0.arraylength hx (by rw [e0]; exact Ar1.1) (State.isArrayOf_alike hZ.alike Ar1.2.1) (g := (mkF m 11 #[.val (.ref a1), .val (.ref a2), .val (.int (0 : Int32))] [(.ref a1), (.int (0 : Int32))])) rfl rfl (hb hby d13_11) _ ?_
    rw [len_of S1 N_1]
    exact k
  have pre145 : ∀ t, Steps p.tables e below (s₁.setTop (mkF m 15 #[.val (.ref a1), .val (.ref a2), .val (.int (0 : Int32))] [])) t → Steps p.tables e below (s₁.setTop (entryFrame m #[(.ref a1), (.ref a2)] 3)) t := by
    intro t k
    refine pre143 _ ?_
    show Steps p.tables e below (s₁.setTop (mkF m 12 #[.val (.ref a1), .val (.ref a2), .val (.int (0 : Int32))] [(.int (4 : Int32)), (.int (0 : Int32))])) _
    refine XS.icmpNo X0.here hx rfl (hb hby d13_12) rfl (tlt (by decide : (0 : Int32) < (4 : Int32))).2.1 ?_
    exact k
  have pre146 : ∀ t, Steps p.tables e below (s₁.setTop (mkF m 21 #[.val (.ref a1), .val (.ref a2), .val (.int (0 : Int32))] [(.int (115 : Int32)), (.int (115 : Int32))])) t → Steps p.tables e below (s₁.setTop (entryFrame m #[(.ref a1), (.ref a2)] 3)) t := by
    intro t k
    refine pre145 _ ?_
    show Steps p.tables e below (s₁.setTop (mkF m 15 #[.val (.ref a1), .val (.ref a2), .val (.int (0 : Int32))] [])) _
    refine XS.aloadN X0.here hx rfl (hb hby d13_15) rfl rfl ?_
    show Steps p.tables e below (s₁.setTop (mkF m 16 #[.val (.ref a1), .val (.ref a2), .val (.int (0 : Int32))] [(.ref a1)])) _
    refine XS.iloadN X0.here hx rfl (hb hby d13_16) rfl ?_
    show Steps p.tables e below (s₁.setTop (mkF m 17 #[.val (.ref a1), .val (.ref a2), .val (.int (0 : Int32))] [(.int (0 : Int32)), (.ref a1)])) _
    refine X0.baloadBytes hx (j := (0 : Int32)) (v := (.int (115 : Int32))) (by rw [e0]; exact Ar1.1) (State.isArrayOf_alike hZ.alike Ar1.2.1) Ar1.2.2 (inb_of S1 ⟨by decide, by decide⟩) (Has.at (v := (.int (115 : Int32))) H1 (inb_of S1 ⟨by decide, by decide⟩) rfl) (g := (mkF m 17 #[.val (.ref a1), .val (.ref a2), .val (.int (0 : Int32))] [(.int (0 : Int32)), (.ref a1)])) rfl rfl (hb hby d13_17) _ ?_
    show Steps p.tables e below (s₁.setTop (mkF m 18 #[.val (.ref a1), .val (.ref a2), .val (.int (0 : Int32))] [(.int (115 : Int32))])) _
    refine XS.aloadN X0.here hx rfl (hb hby d13_18) rfl rfl ?_
    show Steps p.tables e below (s₁.setTop (mkF m 19 #[.val (.ref a1), .val (.ref a2), .val (.int (0 : Int32))] [(.ref a2), (.int (115 : Int32))])) _
    refine XS.iloadN X0.here hx rfl (hb hby d13_19) rfl ?_
    show Steps p.tables e below (s₁.setTop (mkF m 20 #[.val (.ref a1), .val (.ref a2), .val (.int (0 : Int32))] [(.int (0 : Int32)), (.ref a2), (.int (115 : Int32))])) _
    refine X0.baloadBytes hx (j := (0 : Int32)) (v := (.int (115 : Int32))) (by rw [e0]; exact Ar2.1) (State.isArrayOf_alike hZ.alike Ar2.2.1) Ar2.2.2 (inb_of S2 ⟨by decide, by decide⟩) (Has.at (v := (.int (115 : Int32))) H2 (inb_of S2 ⟨by decide, by decide⟩) rfl) (g := (mkF m 20 #[.val (.ref a1), .val (.ref a2), .val (.int (0 : Int32))] [(.int (0 : Int32)), (.ref a2), (.int (115 : Int32))])) rfl rfl (hb hby d13_20) _ ?_
    exact k
  have pre148 : ∀ t, Steps p.tables e below (s₁.setTop (mkF m 26 #[.val (.ref a1), .val (.ref a2), .val (.int (0 : Int32))] [])) t → Steps p.tables e below (s₁.setTop (entryFrame m #[(.ref a1), (.ref a2)] 3)) t := by
    intro t k
    refine pre146 _ ?_
    show Steps p.tables e below (s₁.setTop (mkF m 21 #[.val (.ref a1), .val (.ref a2), .val (.int (0 : Int32))] [(.int (115 : Int32)), (.int (115 : Int32))])) _
    refine XS.icmpYes X0.here hx rfl (pc0 := 21) (pc' := 26) rfl (hb hby d13_21) rfl (teq (rfl : (115 : Int32) = (115 : Int32))).1 (by decide) (by decide) ?_
    exact k
  have pre149 : ∀ t, Steps p.tables e below (s₁.setTop (mkF m 12 #[.val (.ref a1), .val (.ref a2), .val (.int (1 : Int32))] [(.int (4 : Int32)), (.int (1 : Int32))])) t → Steps p.tables e below (s₁.setTop (entryFrame m #[(.ref a1), (.ref a2)] 3)) t := by
    intro t k
    refine pre148 _ ?_
    show Steps p.tables e below (s₁.setTop (mkF m 26 #[.val (.ref a1), .val (.ref a2), .val (.int (0 : Int32))] [])) _
    refine XS.iinc X0.here hx rfl (hb hby d13_26) rfl (l' := #[.val (.ref a1), .val (.ref a2), .val (.int (1 : Int32))]) rfl ?_
    show Steps p.tables e below (s₁.setTop (mkF m 29 #[.val (.ref a1), .val (.ref a2), .val (.int (1 : Int32))] [])) _
    refine XS.goto X0.here hx rfl (pc0 := 29) (pc' := 9) rfl (hb hby d13_29) (by decide) (by decide) ?_
    show Steps p.tables e below (s₁.setTop (mkF m 9 #[.val (.ref a1), .val (.ref a2), .val (.int (1 : Int32))] [])) _
    refine XS.iloadN X0.here hx rfl (hb hby d13_9) rfl ?_
    show Steps p.tables e below (s₁.setTop (mkF m 10 #[.val (.ref a1), .val (.ref a2), .val (.int (1 : Int32))] [(.int (1 : Int32))])) _
    refine XS.aloadN X0.here hx rfl (hb hby d13_10) rfl rfl ?_
    show Steps p.tables e below (s₁.setTop (mkF m 11 #[.val (.ref a1), .val (.ref a2), .val (.int (1 : Int32))] [(.ref a1), (.int (1 : Int32))])) _
    refine X0.arraylength hx (by rw [e0]; exact Ar1.1) (State.isArrayOf_alike hZ.alike Ar1.2.1) (g := (mkF m 11 #[.val (.ref a1), .val (.ref a2), .val (.int (1 : Int32))] [(.ref a1), (.int (1 : Int32))])) rfl rfl (hb hby d13_11) _ ?_
    rw [len_of S1 N_1]
    exact k
  have pre151 : ∀ t, Steps p.tables e below (s₁.setTop (mkF m 15 #[.val (.ref a1), .val (.ref a2), .val (.int (1 : Int32))] [])) t → Steps p.tables e below (s₁.setTop (entryFrame m #[(.ref a1), (.ref a2)] 3)) t := by
    intro t k
    refine pre149 _ ?_
    show Steps p.tables e below (s₁.setTop (mkF m 12 #[.val (.ref a1), .val (.ref a2), .val (.int (1 : Int32))] [(.int (4 : Int32)), (.int (1 : Int32))])) _
    refine XS.icmpNo X0.here hx rfl (hb hby d13_12) rfl (tlt (by decide : (1 : Int32) < (4 : Int32))).2.1 ?_
    exact k
  have pre152 : ∀ t, Steps p.tables e below (s₁.setTop (mkF m 21 #[.val (.ref a1), .val (.ref a2), .val (.int (1 : Int32))] [(.int (112 : Int32)), (.int (112 : Int32))])) t → Steps p.tables e below (s₁.setTop (entryFrame m #[(.ref a1), (.ref a2)] 3)) t := by
    intro t k
    refine pre151 _ ?_
    show Steps p.tables e below (s₁.setTop (mkF m 15 #[.val (.ref a1), .val (.ref a2), .val (.int (1 : Int32))] [])) _
    refine XS.aloadN X0.here hx rfl (hb hby d13_15) rfl rfl ?_
    show Steps p.tables e below (s₁.setTop (mkF m 16 #[.val (.ref a1), .val (.ref a2), .val (.int (1 : Int32))] [(.ref a1)])) _
    refine XS.iloadN X0.here hx rfl (hb hby d13_16) rfl ?_
    show Steps p.tables e below (s₁.setTop (mkF m 17 #[.val (.ref a1), .val (.ref a2), .val (.int (1 : Int32))] [(.int (1 : Int32)), (.ref a1)])) _
    refine X0.baloadBytes hx (j := (1 : Int32)) (v := (.int (112 : Int32))) (by rw [e0]; exact Ar1.1) (State.isArrayOf_alike hZ.alike Ar1.2.1) Ar1.2.2 (inb_of S1 ⟨by decide, by decide⟩) (Has.at (v := (.int (112 : Int32))) H1 (inb_of S1 ⟨by decide, by decide⟩) rfl) (g := (mkF m 17 #[.val (.ref a1), .val (.ref a2), .val (.int (1 : Int32))] [(.int (1 : Int32)), (.ref a1)])) rfl rfl (hb hby d13_17) _ ?_
    show Steps p.tables e below (s₁.setTop (mkF m 18 #[.val (.ref a1), .val (.ref a2), .val (.int (1 : Int32))] [(.int (112 : Int32))])) _
    refine XS.aloadN X0.here hx rfl (hb hby d13_18) rfl rfl ?_
    show Steps p.tables e below (s₁.setTop (mkF m 19 #[.val (.ref a1), .val (.ref a2), .val (.int (1 : Int32))] [(.ref a2), (.int (112 : Int32))])) _
    refine XS.iloadN X0.here hx rfl (hb hby d13_19) rfl ?_
    show Steps p.tables e below (s₁.setTop (mkF m 20 #[.val (.ref a1), .val (.ref a2), .val (.int (1 : Int32))] [(.int (1 : Int32)), (.ref a2), (.int (112 : Int32))])) _
    refine X0.baloadBytes hx (j := (1 : Int32)) (v := (.int (112 : Int32))) (by rw [e0]; exact Ar2.1) (State.isArrayOf_alike hZ.alike Ar2.2.1) Ar2.2.2 (inb_of S2 ⟨by decide, by decide⟩) (Has.at (v := (.int (112 : Int32))) H2 (inb_of S2 ⟨by decide, by decide⟩) rfl) (g := (mkF m 20 #[.val (.ref a1), .val (.ref a2), .val (.int (1 : Int32))] [(.int (1 : Int32)), (.ref a2), (.int (112 : Int32))])) rfl rfl (hb hby d13_20) _ ?_
    exact k
  have pre154 : ∀ t, Steps p.tables e below (s₁.setTop (mkF m 26 #[.val (.ref a1), .val (.ref a2), .val (.int (1 : Int32))] [])) t → Steps p.tables e below (s₁.setTop (entryFrame m #[(.ref a1), (.ref a2)] 3)) t := by
    intro t k
    refine pre152 _ ?_
    show Steps p.tables e below (s₁.setTop (mkF m 21 #[.val (.ref a1), .val (.ref a2), .val (.int (1 : Int32))] [(.int (112 : Int32)), (.int (112 : Int32))])) _
    refine XS.icmpYes X0.here hx rfl (pc0 := 21) (pc' := 26) rfl (hb hby d13_21) rfl (teq (rfl : (112 : Int32) = (112 : Int32))).1 (by decide) (by decide) ?_
    exact k
  have pre155 : ∀ t, Steps p.tables e below (s₁.setTop (mkF m 12 #[.val (.ref a1), .val (.ref a2), .val (.int (2 : Int32))] [(.int (4 : Int32)), (.int (2 : Int32))])) t → Steps p.tables e below (s₁.setTop (entryFrame m #[(.ref a1), (.ref a2)] 3)) t := by
    intro t k
    refine pre154 _ ?_
    show Steps p.tables e below (s₁.setTop (mkF m 26 #[.val (.ref a1), .val (.ref a2), .val (.int (1 : Int32))] [])) _
    refine XS.iinc X0.here hx rfl (hb hby d13_26) rfl (l' := #[.val (.ref a1), .val (.ref a2), .val (.int (2 : Int32))]) rfl ?_
    show Steps p.tables e below (s₁.setTop (mkF m 29 #[.val (.ref a1), .val (.ref a2), .val (.int (2 : Int32))] [])) _
    refine XS.goto X0.here hx rfl (pc0 := 29) (pc' := 9) rfl (hb hby d13_29) (by decide) (by decide) ?_
    show Steps p.tables e below (s₁.setTop (mkF m 9 #[.val (.ref a1), .val (.ref a2), .val (.int (2 : Int32))] [])) _
    refine XS.iloadN X0.here hx rfl (hb hby d13_9) rfl ?_
    show Steps p.tables e below (s₁.setTop (mkF m 10 #[.val (.ref a1), .val (.ref a2), .val (.int (2 : Int32))] [(.int (2 : Int32))])) _
    refine XS.aloadN X0.here hx rfl (hb hby d13_10) rfl rfl ?_
    show Steps p.tables e below (s₁.setTop (mkF m 11 #[.val (.ref a1), .val (.ref a2), .val (.int (2 : Int32))] [(.ref a1), (.int (2 : Int32))])) _
    refine X0.arraylength hx (by rw [e0]; exact Ar1.1) (State.isArrayOf_alike hZ.alike Ar1.2.1) (g := (mkF m 11 #[.val (.ref a1), .val (.ref a2), .val (.int (2 : Int32))] [(.ref a1), (.int (2 : Int32))])) rfl rfl (hb hby d13_11) _ ?_
    rw [len_of S1 N_1]
    exact k
  have pre157 : ∀ t, Steps p.tables e below (s₁.setTop (mkF m 15 #[.val (.ref a1), .val (.ref a2), .val (.int (2 : Int32))] [])) t → Steps p.tables e below (s₁.setTop (entryFrame m #[(.ref a1), (.ref a2)] 3)) t := by
    intro t k
    refine pre155 _ ?_
    show Steps p.tables e below (s₁.setTop (mkF m 12 #[.val (.ref a1), .val (.ref a2), .val (.int (2 : Int32))] [(.int (4 : Int32)), (.int (2 : Int32))])) _
    refine XS.icmpNo X0.here hx rfl (hb hby d13_12) rfl (tlt (by decide : (2 : Int32) < (4 : Int32))).2.1 ?_
    exact k
  have pre158 : ∀ t, Steps p.tables e below (s₁.setTop (mkF m 21 #[.val (.ref a1), .val (.ref a2), .val (.int (2 : Int32))] [(.int (111 : Int32)), (.int (111 : Int32))])) t → Steps p.tables e below (s₁.setTop (entryFrame m #[(.ref a1), (.ref a2)] 3)) t := by
    intro t k
    refine pre157 _ ?_
    show Steps p.tables e below (s₁.setTop (mkF m 15 #[.val (.ref a1), .val (.ref a2), .val (.int (2 : Int32))] [])) _
    refine XS.aloadN X0.here hx rfl (hb hby d13_15) rfl rfl ?_
    show Steps p.tables e below (s₁.setTop (mkF m 16 #[.val (.ref a1), .val (.ref a2), .val (.int (2 : Int32))] [(.ref a1)])) _
    refine XS.iloadN X0.here hx rfl (hb hby d13_16) rfl ?_
    show Steps p.tables e below (s₁.setTop (mkF m 17 #[.val (.ref a1), .val (.ref a2), .val (.int (2 : Int32))] [(.int (2 : Int32)), (.ref a1)])) _
    refine X0.baloadBytes hx (j := (2 : Int32)) (v := (.int (111 : Int32))) (by rw [e0]; exact Ar1.1) (State.isArrayOf_alike hZ.alike Ar1.2.1) Ar1.2.2 (inb_of S1 ⟨by decide, by decide⟩) (Has.at (v := (.int (111 : Int32))) H1 (inb_of S1 ⟨by decide, by decide⟩) rfl) (g := (mkF m 17 #[.val (.ref a1), .val (.ref a2), .val (.int (2 : Int32))] [(.int (2 : Int32)), (.ref a1)])) rfl rfl (hb hby d13_17) _ ?_
    show Steps p.tables e below (s₁.setTop (mkF m 18 #[.val (.ref a1), .val (.ref a2), .val (.int (2 : Int32))] [(.int (111 : Int32))])) _
    refine XS.aloadN X0.here hx rfl (hb hby d13_18) rfl rfl ?_
    show Steps p.tables e below (s₁.setTop (mkF m 19 #[.val (.ref a1), .val (.ref a2), .val (.int (2 : Int32))] [(.ref a2), (.int (111 : Int32))])) _
    refine XS.iloadN X0.here hx rfl (hb hby d13_19) rfl ?_
    show Steps p.tables e below (s₁.setTop (mkF m 20 #[.val (.ref a1), .val (.ref a2), .val (.int (2 : Int32))] [(.int (2 : Int32)), (.ref a2), (.int (111 : Int32))])) _
    refine X0.baloadBytes hx (j := (2 : Int32)) (v := (.int (111 : Int32))) (by rw [e0]; exact Ar2.1) (State.isArrayOf_alike hZ.alike Ar2.2.1) Ar2.2.2 (inb_of S2 ⟨by decide, by decide⟩) (Has.at (v := (.int (111 : Int32))) H2 (inb_of S2 ⟨by decide, by decide⟩) rfl) (g := (mkF m 20 #[.val (.ref a1), .val (.ref a2), .val (.int (2 : Int32))] [(.int (2 : Int32)), (.ref a2), (.int (111 : Int32))])) rfl rfl (hb hby d13_20) _ ?_
    exact k
  have pre160 : ∀ t, Steps p.tables e below (s₁.setTop (mkF m 26 #[.val (.ref a1), .val (.ref a2), .val (.int (2 : Int32))] [])) t → Steps p.tables e below (s₁.setTop (entryFrame m #[(.ref a1), (.ref a2)] 3)) t := by
    intro t k
    refine pre158 _ ?_
    show Steps p.tables e below (s₁.setTop (mkF m 21 #[.val (.ref a1), .val (.ref a2), .val (.int (2 : Int32))] [(.int (111 : Int32)), (.int (111 : Int32))])) _
    refine XS.icmpYes X0.here hx rfl (pc0 := 21) (pc' := 26) rfl (hb hby d13_21) rfl (teq (rfl : (111 : Int32) = (111 : Int32))).1 (by decide) (by decide) ?_
    exact k
  have pre161 : ∀ t, Steps p.tables e below (s₁.setTop (mkF m 12 #[.val (.ref a1), .val (.ref a2), .val (.int (3 : Int32))] [(.int (4 : Int32)), (.int (3 : Int32))])) t → Steps p.tables e below (s₁.setTop (entryFrame m #[(.ref a1), (.ref a2)] 3)) t := by
    intro t k
    refine pre160 _ ?_
    show Steps p.tables e below (s₁.setTop (mkF m 26 #[.val (.ref a1), .val (.ref a2), .val (.int (2 : Int32))] [])) _
    refine XS.iinc X0.here hx rfl (hb hby d13_26) rfl (l' := #[.val (.ref a1), .val (.ref a2), .val (.int (3 : Int32))]) rfl ?_
    show Steps p.tables e below (s₁.setTop (mkF m 29 #[.val (.ref a1), .val (.ref a2), .val (.int (3 : Int32))] [])) _
    refine XS.goto X0.here hx rfl (pc0 := 29) (pc' := 9) rfl (hb hby d13_29) (by decide) (by decide) ?_
    show Steps p.tables e below (s₁.setTop (mkF m 9 #[.val (.ref a1), .val (.ref a2), .val (.int (3 : Int32))] [])) _
    refine XS.iloadN X0.here hx rfl (hb hby d13_9) rfl ?_
    show Steps p.tables e below (s₁.setTop (mkF m 10 #[.val (.ref a1), .val (.ref a2), .val (.int (3 : Int32))] [(.int (3 : Int32))])) _
    refine XS.aloadN X0.here hx rfl (hb hby d13_10) rfl rfl ?_
    show Steps p.tables e below (s₁.setTop (mkF m 11 #[.val (.ref a1), .val (.ref a2), .val (.int (3 : Int32))] [(.ref a1), (.int (3 : Int32))])) _
    refine X0.arraylength hx (by rw [e0]; exact Ar1.1) (State.isArrayOf_alike hZ.alike Ar1.2.1) (g := (mkF m 11 #[.val (.ref a1), .val (.ref a2), .val (.int (3 : Int32))] [(.ref a1), (.int (3 : Int32))])) rfl rfl (hb hby d13_11) _ ?_
    rw [len_of S1 N_1]
    exact k
  have pre163 : ∀ t, Steps p.tables e below (s₁.setTop (mkF m 15 #[.val (.ref a1), .val (.ref a2), .val (.int (3 : Int32))] [])) t → Steps p.tables e below (s₁.setTop (entryFrame m #[(.ref a1), (.ref a2)] 3)) t := by
    intro t k
    refine pre161 _ ?_
    show Steps p.tables e below (s₁.setTop (mkF m 12 #[.val (.ref a1), .val (.ref a2), .val (.int (3 : Int32))] [(.int (4 : Int32)), (.int (3 : Int32))])) _
    refine XS.icmpNo X0.here hx rfl (hb hby d13_12) rfl (tlt (by decide : (3 : Int32) < (4 : Int32))).2.1 ?_
    exact k
  have pre164 : ∀ t, Steps p.tables e below (s₁.setTop (mkF m 21 #[.val (.ref a1), .val (.ref a2), .val (.int (3 : Int32))] [(.int (116 : Int32)), (.int (116 : Int32))])) t → Steps p.tables e below (s₁.setTop (entryFrame m #[(.ref a1), (.ref a2)] 3)) t := by
    intro t k
    refine pre163 _ ?_
    show Steps p.tables e below (s₁.setTop (mkF m 15 #[.val (.ref a1), .val (.ref a2), .val (.int (3 : Int32))] [])) _
    refine XS.aloadN X0.here hx rfl (hb hby d13_15) rfl rfl ?_
    show Steps p.tables e below (s₁.setTop (mkF m 16 #[.val (.ref a1), .val (.ref a2), .val (.int (3 : Int32))] [(.ref a1)])) _
    refine XS.iloadN X0.here hx rfl (hb hby d13_16) rfl ?_
    show Steps p.tables e below (s₁.setTop (mkF m 17 #[.val (.ref a1), .val (.ref a2), .val (.int (3 : Int32))] [(.int (3 : Int32)), (.ref a1)])) _
    refine X0.baloadBytes hx (j := (3 : Int32)) (v := (.int (116 : Int32))) (by rw [e0]; exact Ar1.1) (State.isArrayOf_alike hZ.alike Ar1.2.1) Ar1.2.2 (inb_of S1 ⟨by decide, by decide⟩) (Has.at (v := (.int (116 : Int32))) H1 (inb_of S1 ⟨by decide, by decide⟩) rfl) (g := (mkF m 17 #[.val (.ref a1), .val (.ref a2), .val (.int (3 : Int32))] [(.int (3 : Int32)), (.ref a1)])) rfl rfl (hb hby d13_17) _ ?_
    show Steps p.tables e below (s₁.setTop (mkF m 18 #[.val (.ref a1), .val (.ref a2), .val (.int (3 : Int32))] [(.int (116 : Int32))])) _
    refine XS.aloadN X0.here hx rfl (hb hby d13_18) rfl rfl ?_
    show Steps p.tables e below (s₁.setTop (mkF m 19 #[.val (.ref a1), .val (.ref a2), .val (.int (3 : Int32))] [(.ref a2), (.int (116 : Int32))])) _
    refine XS.iloadN X0.here hx rfl (hb hby d13_19) rfl ?_
    show Steps p.tables e below (s₁.setTop (mkF m 20 #[.val (.ref a1), .val (.ref a2), .val (.int (3 : Int32))] [(.int (3 : Int32)), (.ref a2), (.int (116 : Int32))])) _
    refine X0.baloadBytes hx (j := (3 : Int32)) (v := (.int (116 : Int32))) (by rw [e0]; exact Ar2.1) (State.isArrayOf_alike hZ.alike Ar2.2.1) Ar2.2.2 (inb_of S2 ⟨by decide, by decide⟩) (Has.at (v := (.int (116 : Int32))) H2 (inb_of S2 ⟨by decide, by decide⟩) rfl) (g := (mkF m 20 #[.val (.ref a1), .val (.ref a2), .val (.int (3 : Int32))] [(.int (3 : Int32)), (.ref a2), (.int (116 : Int32))])) rfl rfl (hb hby d13_20) _ ?_
    exact k
  have pre166 : ∀ t, Steps p.tables e below (s₁.setTop (mkF m 26 #[.val (.ref a1), .val (.ref a2), .val (.int (3 : Int32))] [])) t → Steps p.tables e below (s₁.setTop (entryFrame m #[(.ref a1), (.ref a2)] 3)) t := by
    intro t k
    refine pre164 _ ?_
    show Steps p.tables e below (s₁.setTop (mkF m 21 #[.val (.ref a1), .val (.ref a2), .val (.int (3 : Int32))] [(.int (116 : Int32)), (.int (116 : Int32))])) _
    refine XS.icmpYes X0.here hx rfl (pc0 := 21) (pc' := 26) rfl (hb hby d13_21) rfl (teq (rfl : (116 : Int32) = (116 : Int32))).1 (by decide) (by decide) ?_
    exact k
  have pre167 : ∀ t, Steps p.tables e below (s₁.setTop (mkF m 12 #[.val (.ref a1), .val (.ref a2), .val (.int (4 : Int32))] [(.int (4 : Int32)), (.int (4 : Int32))])) t → Steps p.tables e below (s₁.setTop (entryFrame m #[(.ref a1), (.ref a2)] 3)) t := by
    intro t k
    refine pre166 _ ?_
    show Steps p.tables e below (s₁.setTop (mkF m 26 #[.val (.ref a1), .val (.ref a2), .val (.int (3 : Int32))] [])) _
    refine XS.iinc X0.here hx rfl (hb hby d13_26) rfl (l' := #[.val (.ref a1), .val (.ref a2), .val (.int (4 : Int32))]) rfl ?_
    show Steps p.tables e below (s₁.setTop (mkF m 29 #[.val (.ref a1), .val (.ref a2), .val (.int (4 : Int32))] [])) _
    refine XS.goto X0.here hx rfl (pc0 := 29) (pc' := 9) rfl (hb hby d13_29) (by decide) (by decide) ?_
    show Steps p.tables e below (s₁.setTop (mkF m 9 #[.val (.ref a1), .val (.ref a2), .val (.int (4 : Int32))] [])) _
    refine XS.iloadN X0.here hx rfl (hb hby d13_9) rfl ?_
    show Steps p.tables e below (s₁.setTop (mkF m 10 #[.val (.ref a1), .val (.ref a2), .val (.int (4 : Int32))] [(.int (4 : Int32))])) _
    refine XS.aloadN X0.here hx rfl (hb hby d13_10) rfl rfl ?_
    show Steps p.tables e below (s₁.setTop (mkF m 11 #[.val (.ref a1), .val (.ref a2), .val (.int (4 : Int32))] [(.ref a1), (.int (4 : Int32))])) _
    refine X0.arraylength hx (by rw [e0]; exact Ar1.1) (State.isArrayOf_alike hZ.alike Ar1.2.1) (g := (mkF m 11 #[.val (.ref a1), .val (.ref a2), .val (.int (4 : Int32))] [(.ref a1), (.int (4 : Int32))])) rfl rfl (hb hby d13_11) _ ?_
    rw [len_of S1 N_1]
    exact k
  have pre169 : ∀ t, Steps p.tables e below (s₁.setTop (mkF m 32 #[.val (.ref a1), .val (.ref a2), .val (.int (4 : Int32))] [])) t → Steps p.tables e below (s₁.setTop (entryFrame m #[(.ref a1), (.ref a2)] 3)) t := by
    intro t k
    refine pre167 _ ?_
    show Steps p.tables e below (s₁.setTop (mkF m 12 #[.val (.ref a1), .val (.ref a2), .val (.int (4 : Int32))] [(.int (4 : Int32)), (.int (4 : Int32))])) _
    refine XS.icmpYes X0.here hx rfl (pc0 := 12) (pc' := 32) rfl (hb hby d13_12) rfl (flt (by decide : ¬ ((4 : Int32) < (4 : Int32)))).2.1 (by decide) (by decide) ?_
    exact k
  have pre170 : ∀ t, Steps p.tables e below (s₁.setTop (mkF m 33 #[.val (.ref a1), .val (.ref a2), .val (.int (4 : Int32))] [(.int (1 : Int32))])) t → Steps p.tables e below (s₁.setTop (entryFrame m #[(.ref a1), (.ref a2)] 3)) t := by
    intro t k
    refine pre169 _ ?_
    show Steps p.tables e below (s₁.setTop (mkF m 32 #[.val (.ref a1), .val (.ref a2), .val (.int (4 : Int32))] [])) _
    refine XS.iconst X0.here hx rfl (hb hby d13_32) ?_
    exact k
  obtain ⟨fs, hr, hrun, hended, hW, hsame⟩ := X0.leave (v := some (.int (1 : Int32))) (fun h => by rw [hret] at h; cases h) (hlocks := hlocks)
  refine ⟨_, _, pre170 _ ?_, hrun, hended, _, _, rfl, ?_, ⟨_, rfl⟩, hW, hsame.mono (by decide) (by decide)⟩
  · show Steps p.tables e below (s₁.setTop (mkF m 33 #[.val (.ref a1), .val (.ref a2), .val (.int (4 : Int32))] [(.int (1 : Int32))])) _
    exact retN X0 hx (t := .boolean) hret (by simp) (hb hby d13_33) hr
  · show Q13ss Z a1 a2 k1 k2 h0 n0 _ s₁.heap _
    rw [e0]
    exact ⟨rfl, N0, rfl⟩
theorem ef_12ss (m : MethodId) (x0 : Addr) (x1 : Addr) : entryFrame m #[(.ref x0), (.ref x1)] 3 = mkF m 0 #[.val (.ref x0), .val (.ref x1), .unset] [] := by first | (simp [entryFrame, mkF, argsToLocals, Value.category]; done) | rfl
def Q12ss (Z : State) (a1 : Addr) (a2 : Addr) (v1 : Addr) (v2 : Addr) (k1 : ClassId) (k2 : ClassId) (pC : Int32) (h0 : Heap) (n0 : Nat) (v : Option Value) (h : Heap) (L : List Loc) : Prop := v = some (.int (1 : Int32)) ∧ Fr n0 L ∧ h = h0
set_option maxRecDepth 65536 in
set_option maxHeartbeats 40000000 in
theorem rm12ss (l : Launch) (Z : State) (a0 : Array Value) (hw : ∀ d ∈ tables_1, d.before a0 Z = true) (ws : List Jvm.Cond) (a1 : Addr) (a2 : Addr) (v1 : Addr) (v2 : Addr) (k1 : ClassId) (k2 : ClassId) (pC : Int32) (h0 : Heap) (n0 : Nat) (Z0 : n0 ≤ h0.size) (E_a2 : Exa Z h0 a2 "java/lang/String") (C1 : Fld Z h0 a1 "java/lang/String" "coder" "B" (.int (0 : Int32))) (C2 : Fld Z h0 a2 "java/lang/String" "coder" "B" (.int (0 : Int32))) (V1 : Fld Z h0 a1 "java/lang/String" "value" "[B" (.ref v1)) (V2 : Fld Z h0 a2 "java/lang/String" "value" "[B" (.ref v2)) (A1 : Arv Z h0 v1 k1 .byte (4 : Int32) [.int (115 : Int32), .int (112 : Int32), .int (111 : Int32), .int (116 : Int32)] (.int (0 : Int32))) (A2 : Arv Z h0 v2 k2 .byte (4 : Int32) [.int (115 : Int32), .int (112 : Int32), .int (111 : Int32), .int (116 : Int32)] (.int (0 : Int32))) (hpc : ¬ (pC = (0 : Int32))) (S_pC : Sta Z h0 "java/lang/String" "COMPACT_STRINGS" "Z" (.int pC)) :
    MetFree l (⟨"java/lang/String", "equals", "(Ljava/lang/Object;)Z"⟩ : MethodName) (head1 (Jvm.Cond.code (⟨"java/lang/String", "equals", "(Ljava/lang/Object;)Z"⟩ : MethodName) jdk_42_method_66_code 3 (some .boolean) :: ws) ({ frames := 1, cells := 0, slots := 0, locals := 14 } : Room)) (fun a U => a = #[(.ref a1), (.ref a2)] ∧ Z.Warmed39 U.vm ∧ U.heap = h0) (fun _ _ _ _ _ => True) (fun _ U o U' => ∃ v L, o = .returned v ∧ Q12ss Z a1 a2 v1 v2 k1 k2 pC h0 n0 v U'.heap L ∧ FrameEnd U o U' L ({ frames := 1, cells := 0, slots := 0, locals := 14 } : Room).cells ({ frames := 1, cells := 0, slots := 0, locals := 14 } : Room).slots) := by
  refine MetFree.of_bodySF (plainFor_of_name pn_12) hisR ?_
  intro p e s m args below meth c s₁ Bd hml0 hP hK
  obtain ⟨rfl, hZ, hh⟩ := hP
  have hx := Bd.exec
  have hby := Bd.bytes
  have hml : c.maxLocals = 3 := hml0
  have hown : s.vm.findClass "java/lang/String" = some m.cls := findClass_of_methodNamed Bd.named
  have hnm := (name_of_methodNamed Bd.named Bd.method).1
  have hret := Bd.returns
  have hlocks : meth.locks = false := Bd.notSynchronized
  have X0 : Stand p l e ({ frames := 1, cells := 0, slots := 0, locals := 14 } : Room) s m #[(.ref a1), (.ref a2)] below meth c s₁ [] 0 0 := Stand.of_body Bd
  have e0 : s₁.heap = h0 := by rw [← hh, Bd.state]; rfl
  have N0 := Fr.nil n0
  have pre0 : ∀ t, Steps p.tables e below (s₁.setTop (mkF m 0 #[.val (.ref a1), .val (.ref a2), .unset] [])) t → Steps p.tables e below (s₁.setTop (entryFrame m #[(.ref a1), (.ref a2)] 3)) t := fun t k => castTop (ef_12ss m a1 a2) k
  have pre171 : ∀ t, Steps p.tables e below (s₁.setTop (mkF m 2 #[.val (.ref a1), .val (.ref a2), .unset] [(.ref a2), (.ref a1)])) t → Steps p.tables e below (s₁.setTop (entryFrame m #[(.ref a1), (.ref a2)] 3)) t := by
    intro t k
    refine pre0 _ ?_
    show Steps p.tables e below (s₁.setTop (mkF m 0 #[.val (.ref a1), .val (.ref a2), .unset] [])) _
    refine XS.aloadN X0.here hx rfl (hb hby d12_0) rfl rfl ?_
    show Steps p.tables e below (s₁.setTop (mkF m 1 #[.val (.ref a1), .val (.ref a2), .unset] [(.ref a1)])) _
    refine XS.aloadN X0.here hx rfl (hb hby d12_1) rfl rfl ?_
    exact k
  by_cases ha172 : a1 = a2
  · have pre173 : ∀ t, Steps p.tables e below (s₁.setTop (mkF m 5 #[.val (.ref a1), .val (.ref a2), .unset] [])) t → Steps p.tables e below (s₁.setTop (entryFrame m #[(.ref a1), (.ref a2)] 3)) t := by
      intro t k
      refine pre171 _ ?_
      show Steps p.tables e below (s₁.setTop (mkF m 2 #[.val (.ref a1), .val (.ref a2), .unset] [(.ref a2), (.ref a1)])) _
      refine Jvm.RoadKit.acmp (g := (mkF m 2 #[.val (.ref a1), .val (.ref a2), .unset] [(.ref a2), (.ref a1)])) X0 hx rfl rfl rfl (pc0 := 2) (pc' := 5) (same := true) rfl (hb hby d12_2) rfl (decide_eq_true (congrArg Value.ref ha172)) (by decide) (by decide) ?_
      exact k
    have pre174 : ∀ t, Steps p.tables e below (s₁.setTop (mkF m 6 #[.val (.ref a1), .val (.ref a2), .unset] [(.int (1 : Int32))])) t → Steps p.tables e below (s₁.setTop (entryFrame m #[(.ref a1), (.ref a2)] 3)) t := by
      intro t k
      refine pre173 _ ?_
      show Steps p.tables e below (s₁.setTop (mkF m 5 #[.val (.ref a1), .val (.ref a2), .unset] [])) _
      refine XS.iconst X0.here hx rfl (hb hby d12_5) ?_
      exact k
    obtain ⟨fs, hr, hrun, hended, hW, hsame⟩ := X0.leave (v := some (.int (1 : Int32))) (fun h => by rw [hret] at h; cases h) (hlocks := hlocks)
    refine ⟨_, _, pre174 _ ?_, hrun, hended, _, _, rfl, ?_, ⟨_, rfl⟩, hW, hsame.mono (by decide) (by decide)⟩
    · show Steps p.tables e below (s₁.setTop (mkF m 6 #[.val (.ref a1), .val (.ref a2), .unset] [(.int (1 : Int32))])) _
      exact retN X0 hx (t := .boolean) hret (by simp) (hb hby d12_6) hr
    · show Q12ss Z a1 a2 v1 v2 k1 k2 pC h0 n0 _ s₁.heap _
      rw [e0]
      exact ⟨rfl, N0, rfl⟩
  · have pre175 : ∀ t, Steps p.tables e below (s₁.setTop (mkF m 7 #[.val (.ref a1), .val (.ref a2), .unset] [])) t → Steps p.tables e below (s₁.setTop (entryFrame m #[(.ref a1), (.ref a2)] 3)) t := by
      intro t k
      refine pre171 _ ?_
      show Steps p.tables e below (s₁.setTop (mkF m 2 #[.val (.ref a1), .val (.ref a2), .unset] [(.ref a2), (.ref a1)])) _
      refine Jvm.RoadKit.acmp (g := (mkF m 2 #[.val (.ref a1), .val (.ref a2), .unset] [(.ref a2), (.ref a1)])) X0 hx rfl rfl rfl (pc0 := 2) (pc' := 7) (same := false) rfl (hb hby d12_2) rfl (decide_eq_false fun q => ha172 (Value.ref.inj q)) (by decide) (by decide) ?_
      exact k
    have pre176 : ∀ t, Steps p.tables e below (s₁.setTop (mkF m 8 #[.val (.ref a1), .val (.ref a2), .unset] [(.ref a2)])) t → Steps p.tables e below (s₁.setTop (entryFrame m #[(.ref a1), (.ref a2)] 3)) t := by
      intro t k
      refine pre175 _ ?_
      show Steps p.tables e below (s₁.setTop (mkF m 7 #[.val (.ref a1), .val (.ref a2), .unset] [])) _
      refine XS.aloadN X0.here hx rfl (hb hby d12_7) rfl rfl ?_
      exact k
    obtain ⟨T177, X177, e177, st177⟩ := instY X0 hx hZ hown (hw _ (List.mem_of_getElem? (i := 86) rfl)) e0 (Ins.self E_a2) (g := (mkF m 8 #[.val (.ref a1), .val (.ref a2), .unset] [(.ref a2)])) rfl rfl (hb hby d12_8)
    have pre178 : ∀ t, Steps p.tables e below (T177.setTop (mkF m 11 #[.val (.ref a1), .val (.ref a2), .unset] [(.int (1 : Int32))])) t → Steps p.tables e below (s₁.setTop (entryFrame m #[(.ref a1), (.ref a2)] 3)) t := by
      intro t k
      refine pre176 _ ?_
      show Steps p.tables e below (s₁.setTop (mkF m 8 #[.val (.ref a1), .val (.ref a2), .unset] [(.ref a2)])) _
      refine st177 _ ?_
      exact k
    have pre180 : ∀ t, Steps p.tables e below (T177.setTop (mkF m 14 #[.val (.ref a1), .val (.ref a2), .unset] [])) t → Steps p.tables e below (s₁.setTop (entryFrame m #[(.ref a1), (.ref a2)] 3)) t := by
      intro t k
      refine pre178 _ ?_
      show Steps p.tables e below (T177.setTop (mkF m 11 #[.val (.ref a1), .val (.ref a2), .unset] [(.int (1 : Int32))])) _
      refine XS.ifNo X177.here hx rfl (hb hby d12_11) rfl ((if0 _ _).trans (feq (by decide : ¬ ((1 : Int32) = (0 : Int32)))).1) ?_
      exact k
    have pre181 : ∀ t, Steps p.tables e below (T177.setTop (mkF m 15 #[.val (.ref a1), .val (.ref a2), .unset] [(.ref a2)])) t → Steps p.tables e below (s₁.setTop (entryFrame m #[(.ref a1), (.ref a2)] 3)) t := by
      intro t k
      refine pre180 _ ?_
      show Steps p.tables e below (T177.setTop (mkF m 14 #[.val (.ref a1), .val (.ref a2), .unset] [])) _
      refine XS.aloadN X177.here hx rfl (hb hby d12_14) rfl rfl ?_
      exact k
    obtain ⟨T182, X182, e182, st182⟩ := castY X177 hx hZ hown (hw _ (List.mem_of_getElem? (i := 86) rfl)) e177 (Ins.self E_a2) (g := (mkF m 15 #[.val (.ref a1), .val (.ref a2), .unset] [(.ref a2)])) rfl rfl (hb hby d12_15)
    have pre183 : ∀ t, Steps p.tables e below (T182.setTop (mkF m 18 #[.val (.ref a1), .val (.ref a2), .unset] [(.ref a2)])) t → Steps p.tables e below (s₁.setTop (entryFrame m #[(.ref a1), (.ref a2)] 3)) t := by
      intro t k
      refine pre181 _ ?_
      show Steps p.tables e below (T177.setTop (mkF m 15 #[.val (.ref a1), .val (.ref a2), .unset] [(.ref a2)])) _
      refine st182 _ ?_
      exact k
    have pre184 : ∀ t, Steps p.tables e below (T182.setTop (mkF m 19 #[.val (.ref a1), .val (.ref a2), .val (.ref a2)] [])) t → Steps p.tables e below (s₁.setTop (entryFrame m #[(.ref a1), (.ref a2)] 3)) t := by
      intro t k
      refine pre183 _ ?_
      show Steps p.tables e below (T182.setTop (mkF m 18 #[.val (.ref a1), .val (.ref a2), .unset] [(.ref a2)])) _
      refine XS.astoreN X182.here hx rfl (hb hby d12_18) rfl rfl (l' := #[.val (.ref a1), .val (.ref a2), .val (.ref a2)]) rfl ?_
      exact k
    obtain ⟨T185, X185, e185, st185⟩ := getS2 X182 hx hZ hown (host := "") (Or.inl (hw _ (List.mem_of_getElem? (i := 37) rfl))) Via.refl e182 S_pC (g := (mkF m 19 #[.val (.ref a1), .val (.ref a2), .val (.ref a2)] [])) rfl (hb hby d12_19)
    have pre186 : ∀ t, Steps p.tables e below (T185.setTop (mkF m 22 #[.val (.ref a1), .val (.ref a2), .val (.ref a2)] [(.int pC)])) t → Steps p.tables e below (s₁.setTop (entryFrame m #[(.ref a1), (.ref a2)] 3)) t := by
      intro t k
      refine pre184 _ ?_
      show Steps p.tables e below (T182.setTop (mkF m 19 #[.val (.ref a1), .val (.ref a2), .val (.ref a2)] [])) _
      refine st185 _ ?_
      exact k
    have pre188 : ∀ t, Steps p.tables e below (T185.setTop (mkF m 25 #[.val (.ref a1), .val (.ref a2), .val (.ref a2)] [])) t → Steps p.tables e below (s₁.setTop (entryFrame m #[(.ref a1), (.ref a2)] 3)) t := by
      intro t k
      refine pre186 _ ?_
      show Steps p.tables e below (T185.setTop (mkF m 22 #[.val (.ref a1), .val (.ref a2), .val (.ref a2)] [(.int pC)])) _
      refine XS.ifNo X185.here hx rfl (hb hby d12_22) rfl ((if0 _ _).trans (feq hpc).1) ?_
      exact k
    have pre189 : ∀ t, Steps p.tables e below (T185.setTop (mkF m 26 #[.val (.ref a1), .val (.ref a2), .val (.ref a2)] [(.ref a1)])) t → Steps p.tables e below (s₁.setTop (entryFrame m #[(.ref a1), (.ref a2)] 3)) t := by
      intro t k
      refine pre188 _ ?_
      show Steps p.tables e below (T185.setTop (mkF m 25 #[.val (.ref a1), .val (.ref a2), .val (.ref a2)] [])) _
      refine XS.aloadN X185.here hx rfl (hb hby d12_25) rfl rfl ?_
      exact k
    obtain ⟨T190, X190, e190, st190⟩ := getF X185 hx hZ hown (host := "") (Or.inl (hw _ (List.mem_of_getElem? (i := 25) rfl))) Via.refl e185 C1 (g := (mkF m 26 #[.val (.ref a1), .val (.ref a2), .val (.ref a2)] [(.ref a1)])) rfl rfl (hb hby d12_26)
    have pre191 : ∀ t, Steps p.tables e below (T190.setTop (mkF m 29 #[.val (.ref a1), .val (.ref a2), .val (.ref a2)] [(.int (0 : Int32))])) t → Steps p.tables e below (s₁.setTop (entryFrame m #[(.ref a1), (.ref a2)] 3)) t := by
      intro t k
      refine pre189 _ ?_
      show Steps p.tables e below (T185.setTop (mkF m 26 #[.val (.ref a1), .val (.ref a2), .val (.ref a2)] [(.ref a1)])) _
      refine st190 _ ?_
      exact k
    have pre192 : ∀ t, Steps p.tables e below (T190.setTop (mkF m 30 #[.val (.ref a1), .val (.ref a2), .val (.ref a2)] [(.ref a2), (.int (0 : Int32))])) t → Steps p.tables e below (s₁.setTop (entryFrame m #[(.ref a1), (.ref a2)] 3)) t := by
      intro t k
      refine pre191 _ ?_
      show Steps p.tables e below (T190.setTop (mkF m 29 #[.val (.ref a1), .val (.ref a2), .val (.ref a2)] [(.int (0 : Int32))])) _
      refine XS.aloadN X190.here hx rfl (hb hby d12_29) rfl rfl ?_
      exact k
    obtain ⟨T193, X193, e193, st193⟩ := getF X190 hx hZ hown (host := "") (Or.inl (hw _ (List.mem_of_getElem? (i := 25) rfl))) Via.refl e190 C2 (g := (mkF m 30 #[.val (.ref a1), .val (.ref a2), .val (.ref a2)] [(.ref a2), (.int (0 : Int32))])) rfl rfl (hb hby d12_30)
    have pre194 : ∀ t, Steps p.tables e below (T193.setTop (mkF m 33 #[.val (.ref a1), .val (.ref a2), .val (.ref a2)] [(.int (0 : Int32)), (.int (0 : Int32))])) t → Steps p.tables e below (s₁.setTop (entryFrame m #[(.ref a1), (.ref a2)] 3)) t := by
      intro t k
      refine pre192 _ ?_
      show Steps p.tables e below (T190.setTop (mkF m 30 #[.val (.ref a1), .val (.ref a2), .val (.ref a2)] [(.ref a2), (.int (0 : Int32))])) _
      refine st193 _ ?_
      exact k
    have pre196 : ∀ t, Steps p.tables e below (T193.setTop (mkF m 36 #[.val (.ref a1), .val (.ref a2), .val (.ref a2)] [])) t → Steps p.tables e below (s₁.setTop (entryFrame m #[(.ref a1), (.ref a2)] 3)) t := by
      intro t k
      refine pre194 _ ?_
      show Steps p.tables e below (T193.setTop (mkF m 33 #[.val (.ref a1), .val (.ref a2), .val (.ref a2)] [(.int (0 : Int32)), (.int (0 : Int32))])) _
      refine XS.icmpNo X193.here hx rfl (hb hby d12_33) rfl (teq (rfl : (0 : Int32) = (0 : Int32))).2 ?_
      exact k
    have pre197 : ∀ t, Steps p.tables e below (T193.setTop (mkF m 37 #[.val (.ref a1), .val (.ref a2), .val (.ref a2)] [(.ref a1)])) t → Steps p.tables e below (s₁.setTop (entryFrame m #[(.ref a1), (.ref a2)] 3)) t := by
      intro t k
      refine pre196 _ ?_
      show Steps p.tables e below (T193.setTop (mkF m 36 #[.val (.ref a1), .val (.ref a2), .val (.ref a2)] [])) _
      refine XS.aloadN X193.here hx rfl (hb hby d12_36) rfl rfl ?_
      exact k
    obtain ⟨T198, X198, e198, st198⟩ := getF X193 hx hZ hown (host := "") (Or.inl (hw _ (List.mem_of_getElem? (i := 24) rfl))) Via.refl e193 V1 (g := (mkF m 37 #[.val (.ref a1), .val (.ref a2), .val (.ref a2)] [(.ref a1)])) rfl rfl (hb hby d12_37)
    have pre199 : ∀ t, Steps p.tables e below (T198.setTop (mkF m 40 #[.val (.ref a1), .val (.ref a2), .val (.ref a2)] [(.ref v1)])) t → Steps p.tables e below (s₁.setTop (entryFrame m #[(.ref a1), (.ref a2)] 3)) t := by
      intro t k
      refine pre197 _ ?_
      show Steps p.tables e below (T193.setTop (mkF m 37 #[.val (.ref a1), .val (.ref a2), .val (.ref a2)] [(.ref a1)])) _
      refine st198 _ ?_
      exact k
    have pre200 : ∀ t, Steps p.tables e below (T198.setTop (mkF m 41 #[.val (.ref a1), .val (.ref a2), .val (.ref a2)] [(.ref a2), (.ref v1)])) t → Steps p.tables e below (s₁.setTop (entryFrame m #[(.ref a1), (.ref a2)] 3)) t := by
      intro t k
      refine pre199 _ ?_
      show Steps p.tables e below (T198.setTop (mkF m 40 #[.val (.ref a1), .val (.ref a2), .val (.ref a2)] [(.ref v1)])) _
      refine XS.aloadN X198.here hx rfl (hb hby d12_40) rfl rfl ?_
      exact k
    obtain ⟨T201, X201, e201, st201⟩ := getF X198 hx hZ hown (host := "") (Or.inl (hw _ (List.mem_of_getElem? (i := 24) rfl))) Via.refl e198 V2 (g := (mkF m 41 #[.val (.ref a1), .val (.ref a2), .val (.ref a2)] [(.ref a2), (.ref v1)])) rfl rfl (hb hby d12_41)
    have pre202 : ∀ t, Steps p.tables e below (T201.setTop (mkF m 44 #[.val (.ref a1), .val (.ref a2), .val (.ref a2)] [(.ref v2), (.ref v1)])) t → Steps p.tables e below (s₁.setTop (entryFrame m #[(.ref a1), (.ref a2)] 3)) t := by
      intro t k
      refine pre200 _ ?_
      show Steps p.tables e below (T198.setTop (mkF m 41 #[.val (.ref a1), .val (.ref a2), .val (.ref a2)] [(.ref a2), (.ref v1)])) _
      refine st201 _ ?_
      exact k
    obtain ⟨_, _, ⟨T203, L203, k203, n203⟩, -, X203, ⟨Lc203, hQ203, l203, y203, z203⟩, st203⟩ := Jvm.LawKit.callS X201 hx (y := (⟨"java/lang/StringLatin1", "equals", "([B[B)Z"⟩ : MethodName)) hown (mvT hZ (hw _ (List.mem_of_getElem? (i := 87) rfl))) (mvT hZ (hw _ (List.mem_of_getElem? (i := 88) rfl))) (mvT hZ (hw _ (List.mem_of_getElem? (i := 89) rfl))) (mvT hZ (hw _ (List.mem_of_getElem? (i := 90) rfl))) (by decide) (backOf (W := 0) (rm13ss l Z a0 hw [] v1 v2 k1 k2 h0 n0 Z0 A1 A2) hZ (hw _ (List.mem_of_getElem? (i := 90) rfl)) (hw _ (List.mem_of_getElem? (i := 89) rfl)) (by decide) (by decide)) (g := (mkF m 44 #[.val (.ref a1), .val (.ref a2), .val (.ref a2)] [(.ref v2), (.ref v1)])) rfl (by rw [hml]; rfl) (argsL := [(.ref v1), (.ref v2)]) (rest := []) (lenOf pd___B_B_Z rfl) rfl (by show 2 * 0 + _ ≤ _; exact Nat.le_of_eq rfl) (hb hby d12_44) (fun _ _ => ⟨rfl, e201, (by decide : 0 + 0 ≤ _), (by decide : 0 + 0 ≤ _)⟩)
    dsimp only [Pt.U, Pt.locs, Pt.cells, Pt.slots] at X203 l203 y203 z203 st203 hQ203
    subst l203 y203 z203
    obtain ⟨rfl, N203q, e203⟩ := hQ203
    have N203 := Fr.app N0 N203q
    have pre204 : ∀ t, Steps p.tables e below (T203.setTop (mkF m 47 #[.val (.ref a1), .val (.ref a2), .val (.ref a2)] [(.int (1 : Int32))])) t → Steps p.tables e below (s₁.setTop (entryFrame m #[(.ref a1), (.ref a2)] 3)) t := by
      intro t k
      refine pre202 _ ?_
      show Steps p.tables e below (T201.setTop (mkF m 44 #[.val (.ref a1), .val (.ref a2), .val (.ref a2)] [(.ref v2), (.ref v1)])) _
      refine st203 _ ?_
      exact k
    have pre206 : ∀ t, Steps p.tables e below (T203.setTop (mkF m 50 #[.val (.ref a1), .val (.ref a2), .val (.ref a2)] [])) t → Steps p.tables e below (s₁.setTop (entryFrame m #[(.ref a1), (.ref a2)] 3)) t := by
      intro t k
      refine pre204 _ ?_
      show Steps p.tables e below (T203.setTop (mkF m 47 #[.val (.ref a1), .val (.ref a2), .val (.ref a2)] [(.int (1 : Int32))])) _
      refine XS.ifNo X203.here hx rfl (hb hby d12_47) rfl ((if0 _ _).trans (feq (by decide : ¬ ((1 : Int32) = (0 : Int32)))).1) ?_
      exact k
    have pre207 : ∀ t, Steps p.tables e below (T203.setTop (mkF m 55 #[.val (.ref a1), .val (.ref a2), .val (.ref a2)] [(.int (1 : Int32))])) t → Steps p.tables e below (s₁.setTop (entryFrame m #[(.ref a1), (.ref a2)] 3)) t := by
      intro t k
      refine pre206 _ ?_
      show Steps p.tables e below (T203.setTop (mkF m 50 #[.val (.ref a1), .val (.ref a2), .val (.ref a2)] [])) _
      refine XS.iconst X203.here hx rfl (hb hby d12_50) ?_
      show Steps p.tables e below (T203.setTop (mkF m 51 #[.val (.ref a1), .val (.ref a2), .val (.ref a2)] [(.int (1 : Int32))])) _
      refine XS.goto X203.here hx rfl (pc0 := 51) (pc' := 55) rfl (hb hby d12_51) (by decide) (by decide) ?_
      exact k
    obtain ⟨fs, hr, hrun, hended, hW, hsame⟩ := X203.leave (v := some (.int (1 : Int32))) (fun h => by rw [hret] at h; cases h) (hlocks := hlocks)
    refine ⟨_, _, pre207 _ ?_, hrun, hended, _, _, rfl, ?_, ⟨_, rfl⟩, hW, hsame.mono (by decide) (by decide)⟩
    · show Steps p.tables e below (T203.setTop (mkF m 55 #[.val (.ref a1), .val (.ref a2), .val (.ref a2)] [(.int (1 : Int32))])) _
      exact retN X203 hx (t := .boolean) hret (by simp) (hb hby d12_55) hr
    · show Q12ss Z a1 a2 v1 v2 k1 k2 pC h0 n0 _ T203.heap _
      rw [e203]
      exact ⟨rfl, N203, rfl⟩
theorem d5_0 : decode jdk_42_method_55_code 0 = .ok (.aload_n 0, 1) := by decide +kernel
theorem d5_1 : decode jdk_42_method_55_code 1 = .ok (.getfield 9, 3) := by decide +kernel
theorem d5_4 : decode jdk_42_method_55_code 4 = .ok (.arraylength, 1) := by decide +kernel
theorem d5_5 : decode jdk_42_method_55_code 5 = .ok (.ifCond .ne 7, 3) := by decide +kernel
theorem d5_8 : decode jdk_42_method_55_code 8 = .ok (.iconst 1, 1) := by decide +kernel
theorem d5_9 : decode jdk_42_method_55_code 9 = .ok (.goto 4, 3) := by decide +kernel
theorem d5_13 : decode jdk_42_method_55_code 13 = .ok (.ireturn, 1) := by decide +kernel
theorem ef_5e (m : MethodId) (x0 : Addr) : entryFrame m #[(.ref x0)] 1 = mkF m 0 #[.val (.ref x0)] [] := by first | (simp [entryFrame, mkF, argsToLocals, Value.category]; done) | rfl
def Q5e (Z : State) (a1 : Addr) (v1 : Addr) (k1 : ClassId) (vs : List Value) (dv : Value) (h0 : Heap) (n0 : Nat) (v : Option Value) (h : Heap) (L : List Loc) : Prop := v = some (.int (1 : Int32)) ∧ Fr n0 L ∧ h = h0
set_option maxRecDepth 65536 in
set_option maxHeartbeats 40000000 in
theorem rm5e (l : Launch) (Z : State) (a0 : Array Value) (hw : ∀ d ∈ tables_1, d.before a0 Z = true) (ws : List Jvm.Cond) (a1 : Addr) (v1 : Addr) (k1 : ClassId) (vs : List Value) (dv : Value) (h0 : Heap) (n0 : Nat) (Z0 : n0 ≤ h0.size) (V1 : Fld Z h0 a1 "java/lang/String" "value" "[B" (.ref v1)) (A1 : Arv Z h0 v1 k1 .byte (0 : Int32) vs dv) :
    MetFree l (⟨"java/lang/String", "isEmpty", "()Z"⟩ : MethodName) (head1 (Jvm.Cond.code (⟨"java/lang/String", "isEmpty", "()Z"⟩ : MethodName) jdk_42_method_55_code 1 (some .boolean) :: ws) ({ frames := 0, cells := 0, slots := 0, locals := 0 } : Room)) (fun a U => a = #[(.ref a1)] ∧ Z.Warmed39 U.vm ∧ U.heap = h0) (fun _ _ _ _ _ => True) (fun _ U o U' => ∃ v L, o = .returned v ∧ Q5e Z a1 v1 k1 vs dv h0 n0 v U'.heap L ∧ FrameEnd U o U' L ({ frames := 0, cells := 0, slots := 0, locals := 0 } : Room).cells ({ frames := 0, cells := 0, slots := 0, locals := 0 } : Room).slots) := by
  refine MetFree.of_bodySF (plainFor_of_name pn_12) hisR ?_
  intro p e s m args below meth c s₁ Bd hml0 hP hK
  obtain ⟨rfl, hZ, hh⟩ := hP
  have hx := Bd.exec
  have hby := Bd.bytes
  have hml : c.maxLocals = 1 := hml0
  have hown : s.vm.findClass "java/lang/String" = some m.cls := findClass_of_methodNamed Bd.named
  have hnm := (name_of_methodNamed Bd.named Bd.method).1
  have hret := Bd.returns
  have hlocks : meth.locks = false := Bd.notSynchronized
  have X0 : Stand p l e ({ frames := 0, cells := 0, slots := 0, locals := 0 } : Room) s m #[(.ref a1)] below meth c s₁ [] 0 0 := Stand.of_body Bd
  have e0 : s₁.heap = h0 := by rw [← hh, Bd.state]; rfl
  have N0 := Fr.nil n0
  obtain ⟨cl1, Ar1, _, S1, N_1, _, _⟩ := A1
  have pre0 : ∀ t, Steps p.tables e below (s₁.setTop (mkF m 0 #[.val (.ref a1)] [])) t → Steps p.tables e below (s₁.setTop (entryFrame m #[(.ref a1)] 1)) t := fun t k => castTop (ef_5e m a1) k
  have pre208 : ∀ t, Steps p.tables e below (s₁.setTop (mkF m 1 #[.val (.ref a1)] [(.ref a1)])) t → Steps p.tables e below (s₁.setTop (entryFrame m #[(.ref a1)] 1)) t := by
    intro t k
    refine pre0 _ ?_
    show Steps p.tables e below (s₁.setTop (mkF m 0 #[.val (.ref a1)] [])) _
    refine XS.aloadN X0.here hx rfl (hb hby d5_0) rfl rfl ?_
    exact k
  obtain ⟨T209, X209, e209, st209⟩ := getF X0 hx hZ hown (host := "") (Or.inl (hw _ (List.mem_of_getElem? (i := 24) rfl))) Via.refl e0 V1 (g := (mkF m 1 #[.val (.ref a1)] [(.ref a1)])) rfl rfl (hb hby d5_1)
  have pre210 : ∀ t, Steps p.tables e below (T209.setTop (mkF m 4 #[.val (.ref a1)] [(.ref v1)])) t → Steps p.tables e below (s₁.setTop (entryFrame m #[(.ref a1)] 1)) t := by
    intro t k
    refine pre208 _ ?_
    show Steps p.tables e below (s₁.setTop (mkF m 1 #[.val (.ref a1)] [(.ref a1)])) _
    refine st209 _ ?_
    exact k
  have pre211 : ∀ t, Steps p.tables e below (T209.setTop (mkF m 5 #[.val (.ref a1)] [(.int (0 : Int32))])) t → Steps p.tables e below (s₁.setTop (entryFrame m #[(.ref a1)] 1)) t := by
    intro t k
    refine pre210 _ ?_
    show Steps p.tables e below (T209.setTop (mkF m 4 #[.val (.ref a1)] [(.ref v1)])) _
    refine X209.arraylength hx (by rw [e209]; exact Ar1.1) (State.isArrayOf_alike hZ.alike Ar1.2.1) (g := (mkF m 4 #[.val (.ref a1)] [(.ref v1)])) rfl rfl (hb hby d5_4) _ ?_
    rw [len_of S1 N_1]
    exact k
  have pre213 : ∀ t, Steps p.tables e below (T209.setTop (mkF m 8 #[.val (.ref a1)] [])) t → Steps p.tables e below (s₁.setTop (entryFrame m #[(.ref a1)] 1)) t := by
    intro t k
    refine pre211 _ ?_
    show Steps p.tables e below (T209.setTop (mkF m 5 #[.val (.ref a1)] [(.int (0 : Int32))])) _
    refine XS.ifNo X209.here hx rfl (hb hby d5_5) rfl ((if0 _ _).trans (teq (rfl : (0 : Int32) = (0 : Int32))).2) ?_
    exact k
  have pre214 : ∀ t, Steps p.tables e below (T209.setTop (mkF m 13 #[.val (.ref a1)] [(.int (1 : Int32))])) t → Steps p.tables e below (s₁.setTop (entryFrame m #[(.ref a1)] 1)) t := by
    intro t k
    refine pre213 _ ?_
    show Steps p.tables e below (T209.setTop (mkF m 8 #[.val (.ref a1)] [])) _
    refine XS.iconst X209.here hx rfl (hb hby d5_8) ?_
    show Steps p.tables e below (T209.setTop (mkF m 9 #[.val (.ref a1)] [(.int (1 : Int32))])) _
    refine XS.goto X209.here hx rfl (pc0 := 9) (pc' := 13) rfl (hb hby d5_9) (by decide) (by decide) ?_
    exact k
  obtain ⟨fs, hr, hrun, hended, hW, hsame⟩ := X209.leave (v := some (.int (1 : Int32))) (fun h => by rw [hret] at h; cases h) (hlocks := hlocks)
  refine ⟨_, _, pre214 _ ?_, hrun, hended, _, _, rfl, ?_, ⟨_, rfl⟩, hW, hsame.mono (by decide) (by decide)⟩
  · show Steps p.tables e below (T209.setTop (mkF m 13 #[.val (.ref a1)] [(.int (1 : Int32))])) _
    exact retN X209 hx (t := .boolean) hret (by simp) (hb hby d5_13) hr
  · show Q5e Z a1 v1 k1 vs dv h0 n0 _ T209.heap _
    rw [e209]
    exact ⟨rfl, N0, rfl⟩
theorem d5_12 : decode jdk_42_method_55_code 12 = .ok (.iconst 0, 1) := by decide +kernel
theorem ef_5o (m : MethodId) (x0 : Addr) : entryFrame m #[(.ref x0)] 1 = mkF m 0 #[.val (.ref x0)] [] := by first | (simp [entryFrame, mkF, argsToLocals, Value.category]; done) | rfl
def Q5o (Z : State) (a1 : Addr) (v1 : Addr) (k1 : ClassId) (vs : List Value) (dv : Value) (h0 : Heap) (n0 : Nat) (v : Option Value) (h : Heap) (L : List Loc) : Prop := v = some (.int (0 : Int32)) ∧ Fr n0 L ∧ h = h0
set_option maxRecDepth 65536 in
set_option maxHeartbeats 40000000 in
theorem rm5o (l : Launch) (Z : State) (a0 : Array Value) (hw : ∀ d ∈ tables_1, d.before a0 Z = true) (ws : List Jvm.Cond) (a1 : Addr) (v1 : Addr) (k1 : ClassId) (vs : List Value) (dv : Value) (h0 : Heap) (n0 : Nat) (Z0 : n0 ≤ h0.size) (V1 : Fld Z h0 a1 "java/lang/String" "value" "[B" (.ref v1)) (A1 : Arv Z h0 v1 k1 .byte (9 : Int32) vs dv) :
    MetFree l (⟨"java/lang/String", "isEmpty", "()Z"⟩ : MethodName) (head1 (Jvm.Cond.code (⟨"java/lang/String", "isEmpty", "()Z"⟩ : MethodName) jdk_42_method_55_code 1 (some .boolean) :: ws) ({ frames := 0, cells := 0, slots := 0, locals := 0 } : Room)) (fun a U => a = #[(.ref a1)] ∧ Z.Warmed39 U.vm ∧ U.heap = h0) (fun _ _ _ _ _ => True) (fun _ U o U' => ∃ v L, o = .returned v ∧ Q5o Z a1 v1 k1 vs dv h0 n0 v U'.heap L ∧ FrameEnd U o U' L ({ frames := 0, cells := 0, slots := 0, locals := 0 } : Room).cells ({ frames := 0, cells := 0, slots := 0, locals := 0 } : Room).slots) := by
  refine MetFree.of_bodySF (plainFor_of_name pn_12) hisR ?_
  intro p e s m args below meth c s₁ Bd hml0 hP hK
  obtain ⟨rfl, hZ, hh⟩ := hP
  have hx := Bd.exec
  have hby := Bd.bytes
  have hml : c.maxLocals = 1 := hml0
  have hown : s.vm.findClass "java/lang/String" = some m.cls := findClass_of_methodNamed Bd.named
  have hnm := (name_of_methodNamed Bd.named Bd.method).1
  have hret := Bd.returns
  have hlocks : meth.locks = false := Bd.notSynchronized
  have X0 : Stand p l e ({ frames := 0, cells := 0, slots := 0, locals := 0 } : Room) s m #[(.ref a1)] below meth c s₁ [] 0 0 := Stand.of_body Bd
  have e0 : s₁.heap = h0 := by rw [← hh, Bd.state]; rfl
  have N0 := Fr.nil n0
  obtain ⟨cl1, Ar1, _, S1, N_1, _, _⟩ := A1
  have pre0 : ∀ t, Steps p.tables e below (s₁.setTop (mkF m 0 #[.val (.ref a1)] [])) t → Steps p.tables e below (s₁.setTop (entryFrame m #[(.ref a1)] 1)) t := fun t k => castTop (ef_5o m a1) k
  have pre215 : ∀ t, Steps p.tables e below (s₁.setTop (mkF m 1 #[.val (.ref a1)] [(.ref a1)])) t → Steps p.tables e below (s₁.setTop (entryFrame m #[(.ref a1)] 1)) t := by
    intro t k
    refine pre0 _ ?_
    show Steps p.tables e below (s₁.setTop (mkF m 0 #[.val (.ref a1)] [])) _
    refine XS.aloadN X0.here hx rfl (hb hby d5_0) rfl rfl ?_
    exact k
  obtain ⟨T216, X216, e216, st216⟩ := getF X0 hx hZ hown (host := "") (Or.inl (hw _ (List.mem_of_getElem? (i := 24) rfl))) Via.refl e0 V1 (g := (mkF m 1 #[.val (.ref a1)] [(.ref a1)])) rfl rfl (hb hby d5_1)
  have pre217 : ∀ t, Steps p.tables e below (T216.setTop (mkF m 4 #[.val (.ref a1)] [(.ref v1)])) t → Steps p.tables e below (s₁.setTop (entryFrame m #[(.ref a1)] 1)) t := by
    intro t k
    refine pre215 _ ?_
    show Steps p.tables e below (s₁.setTop (mkF m 1 #[.val (.ref a1)] [(.ref a1)])) _
    refine st216 _ ?_
    exact k
  have pre218 : ∀ t, Steps p.tables e below (T216.setTop (mkF m 5 #[.val (.ref a1)] [(.int (9 : Int32))])) t → Steps p.tables e below (s₁.setTop (entryFrame m #[(.ref a1)] 1)) t := by
    intro t k
    refine pre217 _ ?_
    show Steps p.tables e below (T216.setTop (mkF m 4 #[.val (.ref a1)] [(.ref v1)])) _
    refine X216.arraylength hx (by rw [e216]; exact Ar1.1) (State.isArrayOf_alike hZ.alike Ar1.2.1) (g := (mkF m 4 #[.val (.ref a1)] [(.ref v1)])) rfl rfl (hb hby d5_4) _ ?_
    rw [len_of S1 N_1]
    exact k
  have pre220 : ∀ t, Steps p.tables e below (T216.setTop (mkF m 12 #[.val (.ref a1)] [])) t → Steps p.tables e below (s₁.setTop (entryFrame m #[(.ref a1)] 1)) t := by
    intro t k
    refine pre218 _ ?_
    show Steps p.tables e below (T216.setTop (mkF m 5 #[.val (.ref a1)] [(.int (9 : Int32))])) _
    refine XS.ifYes X216.here hx rfl (pc0 := 5) (pc' := 12) rfl (hb hby d5_5) rfl ((if0 _ _).trans (feq (by decide : ¬ ((9 : Int32) = (0 : Int32)))).2) (by decide) (by decide) ?_
    exact k
  have pre221 : ∀ t, Steps p.tables e below (T216.setTop (mkF m 13 #[.val (.ref a1)] [(.int (0 : Int32))])) t → Steps p.tables e below (s₁.setTop (entryFrame m #[(.ref a1)] 1)) t := by
    intro t k
    refine pre220 _ ?_
    show Steps p.tables e below (T216.setTop (mkF m 12 #[.val (.ref a1)] [])) _
    refine XS.iconst X216.here hx rfl (hb hby d5_12) ?_
    exact k
  obtain ⟨fs, hr, hrun, hended, hW, hsame⟩ := X216.leave (v := some (.int (0 : Int32))) (fun h => by rw [hret] at h; cases h) (hlocks := hlocks)
  refine ⟨_, _, pre221 _ ?_, hrun, hended, _, _, rfl, ?_, ⟨_, rfl⟩, hW, hsame.mono (by decide) (by decide)⟩
  · show Steps p.tables e below (T216.setTop (mkF m 13 #[.val (.ref a1)] [(.int (0 : Int32))])) _
    exact retN X216 hx (t := .boolean) hret (by simp) (hb hby d5_13) hr
  · show Q5o Z a1 v1 k1 vs dv h0 n0 _ T216.heap _
    rw [e216]
    exact ⟨rfl, N0, rfl⟩
theorem ef_5s (m : MethodId) (x0 : Addr) : entryFrame m #[(.ref x0)] 1 = mkF m 0 #[.val (.ref x0)] [] := by first | (simp [entryFrame, mkF, argsToLocals, Value.category]; done) | rfl
def Q5s (Z : State) (a1 : Addr) (v1 : Addr) (k1 : ClassId) (vs : List Value) (dv : Value) (h0 : Heap) (n0 : Nat) (v : Option Value) (h : Heap) (L : List Loc) : Prop := v = some (.int (0 : Int32)) ∧ Fr n0 L ∧ h = h0
set_option maxRecDepth 65536 in
set_option maxHeartbeats 40000000 in
theorem rm5s (l : Launch) (Z : State) (a0 : Array Value) (hw : ∀ d ∈ tables_1, d.before a0 Z = true) (ws : List Jvm.Cond) (a1 : Addr) (v1 : Addr) (k1 : ClassId) (vs : List Value) (dv : Value) (h0 : Heap) (n0 : Nat) (Z0 : n0 ≤ h0.size) (V1 : Fld Z h0 a1 "java/lang/String" "value" "[B" (.ref v1)) (A1 : Arv Z h0 v1 k1 .byte (4 : Int32) vs dv) :
    MetFree l (⟨"java/lang/String", "isEmpty", "()Z"⟩ : MethodName) (head1 (Jvm.Cond.code (⟨"java/lang/String", "isEmpty", "()Z"⟩ : MethodName) jdk_42_method_55_code 1 (some .boolean) :: ws) ({ frames := 0, cells := 0, slots := 0, locals := 0 } : Room)) (fun a U => a = #[(.ref a1)] ∧ Z.Warmed39 U.vm ∧ U.heap = h0) (fun _ _ _ _ _ => True) (fun _ U o U' => ∃ v L, o = .returned v ∧ Q5s Z a1 v1 k1 vs dv h0 n0 v U'.heap L ∧ FrameEnd U o U' L ({ frames := 0, cells := 0, slots := 0, locals := 0 } : Room).cells ({ frames := 0, cells := 0, slots := 0, locals := 0 } : Room).slots) := by
  refine MetFree.of_bodySF (plainFor_of_name pn_12) hisR ?_
  intro p e s m args below meth c s₁ Bd hml0 hP hK
  obtain ⟨rfl, hZ, hh⟩ := hP
  have hx := Bd.exec
  have hby := Bd.bytes
  have hml : c.maxLocals = 1 := hml0
  have hown : s.vm.findClass "java/lang/String" = some m.cls := findClass_of_methodNamed Bd.named
  have hnm := (name_of_methodNamed Bd.named Bd.method).1
  have hret := Bd.returns
  have hlocks : meth.locks = false := Bd.notSynchronized
  have X0 : Stand p l e ({ frames := 0, cells := 0, slots := 0, locals := 0 } : Room) s m #[(.ref a1)] below meth c s₁ [] 0 0 := Stand.of_body Bd
  have e0 : s₁.heap = h0 := by rw [← hh, Bd.state]; rfl
  have N0 := Fr.nil n0
  obtain ⟨cl1, Ar1, _, S1, N_1, _, _⟩ := A1
  have pre0 : ∀ t, Steps p.tables e below (s₁.setTop (mkF m 0 #[.val (.ref a1)] [])) t → Steps p.tables e below (s₁.setTop (entryFrame m #[(.ref a1)] 1)) t := fun t k => castTop (ef_5s m a1) k
  have pre222 : ∀ t, Steps p.tables e below (s₁.setTop (mkF m 1 #[.val (.ref a1)] [(.ref a1)])) t → Steps p.tables e below (s₁.setTop (entryFrame m #[(.ref a1)] 1)) t := by
    intro t k
    refine pre0 _ ?_
    show Steps p.tables e below (s₁.setTop (mkF m 0 #[.val (.ref a1)] [])) _
    refine XS.aloadN X0.here hx rfl (hb hby d5_0) rfl rfl ?_
    exact k
  obtain ⟨T223, X223, e223, st223⟩ := getF X0 hx hZ hown (host := "") (Or.inl (hw _ (List.mem_of_getElem? (i := 24) rfl))) Via.refl e0 V1 (g := (mkF m 1 #[.val (.ref a1)] [(.ref a1)])) rfl rfl (hb hby d5_1)
  have pre224 : ∀ t, Steps p.tables e below (T223.setTop (mkF m 4 #[.val (.ref a1)] [(.ref v1)])) t → Steps p.tables e below (s₁.setTop (entryFrame m #[(.ref a1)] 1)) t := by
    intro t k
    refine pre222 _ ?_
    show Steps p.tables e below (s₁.setTop (mkF m 1 #[.val (.ref a1)] [(.ref a1)])) _
    refine st223 _ ?_
    exact k
  have pre225 : ∀ t, Steps p.tables e below (T223.setTop (mkF m 5 #[.val (.ref a1)] [(.int (4 : Int32))])) t → Steps p.tables e below (s₁.setTop (entryFrame m #[(.ref a1)] 1)) t := by
    intro t k
    refine pre224 _ ?_
    show Steps p.tables e below (T223.setTop (mkF m 4 #[.val (.ref a1)] [(.ref v1)])) _
    refine X223.arraylength hx (by rw [e223]; exact Ar1.1) (State.isArrayOf_alike hZ.alike Ar1.2.1) (g := (mkF m 4 #[.val (.ref a1)] [(.ref v1)])) rfl rfl (hb hby d5_4) _ ?_
    rw [len_of S1 N_1]
    exact k
  have pre227 : ∀ t, Steps p.tables e below (T223.setTop (mkF m 12 #[.val (.ref a1)] [])) t → Steps p.tables e below (s₁.setTop (entryFrame m #[(.ref a1)] 1)) t := by
    intro t k
    refine pre225 _ ?_
    show Steps p.tables e below (T223.setTop (mkF m 5 #[.val (.ref a1)] [(.int (4 : Int32))])) _
    refine XS.ifYes X223.here hx rfl (pc0 := 5) (pc' := 12) rfl (hb hby d5_5) rfl ((if0 _ _).trans (feq (by decide : ¬ ((4 : Int32) = (0 : Int32)))).2) (by decide) (by decide) ?_
    exact k
  have pre228 : ∀ t, Steps p.tables e below (T223.setTop (mkF m 13 #[.val (.ref a1)] [(.int (0 : Int32))])) t → Steps p.tables e below (s₁.setTop (entryFrame m #[(.ref a1)] 1)) t := by
    intro t k
    refine pre227 _ ?_
    show Steps p.tables e below (T223.setTop (mkF m 12 #[.val (.ref a1)] [])) _
    refine XS.iconst X223.here hx rfl (hb hby d5_12) ?_
    exact k
  obtain ⟨fs, hr, hrun, hended, hW, hsame⟩ := X223.leave (v := some (.int (0 : Int32))) (fun h => by rw [hret] at h; cases h) (hlocks := hlocks)
  refine ⟨_, _, pre228 _ ?_, hrun, hended, _, _, rfl, ?_, ⟨_, rfl⟩, hW, hsame.mono (by decide) (by decide)⟩
  · show Steps p.tables e below (T223.setTop (mkF m 13 #[.val (.ref a1)] [(.int (0 : Int32))])) _
    exact retN X223 hx (t := .boolean) hret (by simp) (hb hby d5_13) hr
  · show Q5s Z a1 v1 k1 vs dv h0 n0 _ T223.heap _
    rw [e223]
    exact ⟨rfl, N0, rfl⟩
abbrev own_sh : Jvm.Lambda.Shape := (Jvm.Lambda.Shape.mk "java/util/function/Function" "apply" (Jvm.ClassFile.MethodDescriptor.mk ([(Jvm.ClassFile.FieldType.object "java/lang/Object")] : List Jvm.ClassFile.FieldType) (Option.some (Jvm.ClassFile.FieldType.object "java/lang/Object"))) ([] : List Jvm.ClassFile.FieldType) (5 : Nat) "com/example/matchbook/matchbook/Pricing" "label" (Jvm.ClassFile.MethodDescriptor.mk ([] : List Jvm.ClassFile.FieldType) (Option.some (Jvm.ClassFile.FieldType.object "java/lang/String"))) false (Jvm.ClassFile.MethodDescriptor.mk ([(Jvm.ClassFile.FieldType.object "com/example/matchbook/matchbook/Pricing")] : List Jvm.ClassFile.FieldType) (Option.some (Jvm.ClassFile.FieldType.object "java/lang/String"))))
abbrev own_xi : MethodName := ⟨"java/util/function/Function", "apply", "(Ljava/lang/Object;)Ljava/lang/Object;"⟩
def own_fcode : ByteArray := ⟨#[0x2b, 0xc0, 0x00, 0x0e, 0xb6, 0x00, 0x12, 0xb0]⟩
theorem own_ok : Jvm.LamKit.fwdOK own_sh "com/example/matchbook/matchbook/Pricing" own_fcode 2 (some (.object "java/lang/Object")) 18 14 = true := by decide +kernel
theorem own_f0 : decode own_fcode 0 = .ok (.aload_n 1, 1) := by decide +kernel
theorem own_f1 : decode own_fcode 1 = .ok (.checkcast 14, 3) := by decide +kernel
theorem own_f4 : decode own_fcode 4 = .ok (.invokevirtual 18, 3) := by decide +kernel
theorem own_f7 : decode own_fcode 7 = .ok (.areturn, 1) := by decide +kernel
theorem own_sam : own_sh.sam.toString = "(Ljava/lang/Object;)Ljava/lang/Object;" := by decide +kernel
theorem own_desc : own_sh.implDesc.toString = "()Ljava/lang/String;" := by decide +kernel
theorem own_pdA : parseMethodDescriptor "(Ljava/lang/Object;)Ljava/lang/Object;" = some ⟨[.object "java/lang/Object"], some (.object "java/lang/Object")⟩ := by decide +kernel
theorem own_pdL : parseMethodDescriptor "()Ljava/lang/String;" = some ⟨[], some (.object "java/lang/String")⟩ := by decide +kernel
theorem own_ef (mk : MethodId) (a b : Addr) : entryFrame mk #[.ref a, .ref b] 2 = mkF mk 0 #[.val (.ref a), .val (.ref b)] [] := by first | (simp [entryFrame, mkF, argsToLocals, Value.category]; done) | rfl
def own_Fn (h : Heap) (a : Addr) (cK : ClassId) : Prop := Jvm.LamKit.FnAt h a cK
theorem own_Fn.ext {h h' : Heap} {a : Addr} {cK : ClassId} (F : own_Fn h a cK) (E : Ext h h') : own_Fn h' a cK := by
  obtain ⟨cell, h1, h2, h3⟩ := F
  exact ⟨cell, E.2 _ _ h1, h2, h3⟩
theorem own_named {Z s : State} {x : MethodName} {m : MethodId} (hZ : Z.Warmed39 s.vm) (hn : Z.methodNamed? x = some m) : s.methodNamed? x = some m := by
  have q := State.methodNamed?_setVm (s := Z) hZ.alike x
  rw [hn] at q
  exact q
theorem own_site {p : Program} {l : Launch} {e : Env} {R : Room} {s : State} {m : MethodId} {args : Array Value} {below : List Frame} {meth : Method} {c : Code} {T : State} {locs : List Loc} {cells slots : Nat} {Z : State} {a0 : Array Value} {h : Heap} {n0 : Nat}
    (X : Stand p l e R s m args below meth c T locs cells slots) (hx : p.tables.exec = Jvm.exec) (hZ : Z.Warmed39 s.vm) (O : Old Z n0 h) {x : MethodName} {pc index : Nat} {sh : Jvm.Lambda.Shape} (hnamed : s.methodNamed? x = some m)
    (w : (Jvm.Cond.lambdaSite x pc index sh).before a0 Z = true) (hcap : sh.captured = []) {g : JFrame} (hg : g.method = m) (hpc : g.pc = pc) (hsize : g.locals.size = c.maxLocals) (hd : decode c.code g.pc = .ok (.invokedynamic index, 5))
    {W : Nat} (hW : 2 * g.monitorRoom + (g.stack.map fun v => v.category).sum ≤ W) (hl : W + 3072 ≤ R.locals) :
    ∃ (a : Addr) (cK : ClassId), Jvm.LamKit.Made Z x.cls sh cK ∧ own_Fn h a cK ∧ ∀ target, Steps p.tables e below (T.setTop { g with pc := g.pc + 5, stack := .ref a :: g.stack }) target → Steps p.tables e below (T.setTop g) target := by
  obtain ⟨cK, one, hat⟩ := Cond.lambdaSite_spec w
  obtain ⟨mD, kD, cfD, i0, p0, lk, hmD, hkD, -, -, -, hfind, hmade, hcan, hlk⟩ := State.lambdaAt?_spec hat
  have hmm : m = mD := Option.some.inj (hnamed.symm.trans (own_named hZ hmD))
  subst hmm
  obtain ⟨kD', hkD', hnameD⟩ := className_of_methodNamed hmD
  have ek : kD' = kD := Option.some.inj (hkD'.symm.trans hkD)
  rw [ek] at hnameD
  obtain ⟨ks, hks, eks⟩ := hZ.alike.2.2 _ _ hkD
  have hfind' : (ks.callSites.find? fun y => y.1 == m.idx && y.2.1 == pc) = some (i0, p0, lk) := by rw [eks]; exact hfind
  rcases hlk with ⟨a, cell, rfl, -, -, hcell, hcls, hvm, -⟩ | ⟨-, -, hne⟩
  · have hwd : e.platform.lambdaLinkWords = 3072 := by rw [X.admits.platform]
    refine ⟨a, cK, ⟨_, kD, hkD, hnameD, hmade, hcan⟩, ⟨cell, O.2.2 _ _ hcell, hcls, hvm⟩, fun target k => ?_⟩
    exact X.lambdaConstant hx hg hsize hd hks (by rw [hpc]; exact hfind') (by rw [hwd]; omega) k
  · exact absurd hcap hne
theorem own_apply {p : Program} {l : Launch} {e : Env} {R : Room} {s : State} {m : MethodId} {args : Array Value} {below : List Frame} {meth : Method} {c : Code} {T : State} {locs : List Loc} {cells slots : Nat} {Z : State} {a0 : Array Value} {h : Heap} {n0 : Nat}
    (X : Stand p l e R s m args below meth c T locs cells slots) (hx : p.tables.exec = Jvm.exec) (hZ : Z.Warmed39 s.vm) (hw : ∀ d ∈ tables_1, d.before a0 Z = true) (hown : s.vm.findClass "com/example/matchbook/matchbook/Labels" = some m.cls) (eT : T.heap = h) (Z0 : n0 ≤ h.size)
    {a b lab : Addr} {cK : ClassId} (M : Jvm.LamKit.Made Z "com/example/matchbook/matchbook/Pricing" own_sh cK) (A : own_Fn h a cK) (E : Exa Z h b "com/example/matchbook/matchbook/Pricing") (F : Fld Z h b "com/example/matchbook/matchbook/Pricing" "label" "Ljava/lang/String;" (.ref lab))
    {g : JFrame} (hg : g.method = m) (hsize : g.locals.size = c.maxLocals) {rest : List Value} (hst : g.stack = .ref b :: .ref a :: rest) (hd : decode c.code g.pc = .ok (.invokeinterface 7 2, 5))
    (hf : 2 ≤ R.frames) {W : Nat} (hW : 2 * g.monitorRoom + (rest.map fun v => v.category).sum ≤ W) (hl : W + 25 ≤ R.locals) (hc : cells + 0 ≤ R.cells) (hs : slots + 0 ≤ R.slots) :
    ∃ T' L, Stand p l e R s m args below meth c T' (locs ++ L) cells slots ∧ Fr n0 L ∧ T'.heap = h ∧ ∀ target, Steps p.tables e below (T'.setTop { g with pc := g.pc + 5, stack := .ref lab :: rest }) target → Steps p.tables e below (T.setTop g) target := by
  obtain ⟨cell, hcell, hcls, hvmc⟩ := A
  subst hcls
  have hal := hZ.alike
  have wl := (hw _ (List.mem_of_getElem? (i := 71) rfl))
  have wd := (hw _ (List.mem_of_getElem? (i := 72) rfl))
  have wf := (hw _ (List.mem_of_getElem? (i := 73) rfl))
  obtain ⟨kK, methk, hkK, hmk, hpub, habs, hsel⟩ := Jvm.LamKit.madeSelects (xi := own_xi) M own_ok wf ⟨rfl, rfl, own_sam.symm⟩
  obtain ⟨r0, r, hn, hrm, hstR, hsigR⟩ := Cond.declares_spec (x := own_xi) wd
  obtain ⟨cL, kL, r1, hcL, hkL, hiL, -, -⟩ := Cond.interfaceMethod_spec wf
  have hr0cls : r0.cls = cL := Option.some.inj ((findClass_of_methodNamed hn).symm.trans hcL)
  obtain ⟨hasg, hsel', hway⟩ := hsel r0 r hn hrm
  have hrmS : s.vm.method? r0 = some r := by rw [hal.method?]; exact hrm
  obtain ⟨kL', hkL', eL⟩ := hal.2.2 _ _ hkL
  have hiL' : kL'.isInterface = true := by
    have q : kL'.isInterface = kL.isInterface := by rw [eL]; rfl
    rw [q]; exact hiL
  obtain ⟨kK', hkK', eK⟩ := hal.2.2 _ _ hkK
  have hmkS : s.vm.method? ⟨cell.cls, 1⟩ = some methk := by rw [hal.method?]; exact hmk
  obtain ⟨vm₁, X₁, hstep₁⟩ := X.invokeinterface hx (own := "com/example/matchbook/matchbook/Labels") (index := 7) (count := 2) (x := own_xi) hown (mvT hZ wl) (own_named hZ hn) hrmS hstR (ki := kL') (by rw [hr0cls]; exact hkL') hiL' (by decide) (a := a) (cell := cell) (kcell := kK') (by rw [eT]; exact hcell) (fun z q => by rw [hvmc] at q; cases q) hkK' (by rw [hal.assignable]; exact hasg)
    (m' := ⟨cell.cls, 1⟩) (meth' := methk) (by rw [Launch.admits_selectMethod X.admits, hal.selectMethod]; exact hsel') hmkS (by simp only [hal.superclasses, hal.declaredIn]; exact hway) hpub habs hg (argsL := [.ref b]) (rest := rest) (lenOf own_pdA rfl _ hsigR) hst hd
  obtain ⟨d, dk, hdd, hdn, hmade, -⟩ := M
  obtain ⟨kF, tk, file, mF, cF, toy, t, nt, hkF, hpn, hfile, hidx, hnt, hmF, hcF, hby, hml, hlk, -, hret, htoy, htk, hlook, hready, hclsR⟩ := Jvm.LamKit.made_static own_ok hdd hdn hmade
  obtain ⟨kq, hkq, hmr⟩ := hready
  obtain ⟨kq', hkq', hcr⟩ := hclsR
  have ekq : kq = kF := Option.some.inj (hkq.symm.trans hkF)
  have ekq' : kq' = kF := Option.some.inj (hkq'.symm.trans hkF)
  rw [ekq] at hmr
  rw [ekq'] at hcr
  have facts : ∀ V : Vm, Z.Warmed39 V → ∃ kV : Class, V.classes[cell.cls]? = some kV ∧ kV.name = kF.name ∧ kV.cf = some file ∧ kV.resolved[18]? = some (some (.method t)) ∧ kV.resolved[14]? = some (some (.cls toy)) := fun V hV => by
    obtain ⟨k₁, hk₁, e₁, -, hres, -⟩ := hV.2.2.2 _ _ hkF
    have keepR : ∀ (i : Nat) (r : Resolved), kF.resolved[i]? = some (some r) → k₁.resolved[i]? = some (some r) := fun i r q => by
      rcases hres i with q1 | ⟨q1, -⟩
      · rw [q1]; exact q
      · rw [q] at q1; cases q1
    exact ⟨k₁, hk₁, by rw [e₁], by rw [e₁]; exact hfile, keepR _ _ hmr, keepR _ _ hcr⟩
  have hW₁ : Z.Warmed39 vm₁ := wtrans hZ X₁.warmed
  obtain ⟨k₁, hk₁, hn₁, -, -, -⟩ := facts vm₁ hW₁
  have hmF₁ : (T.setVm vm₁).vm.method? ⟨cell.cls, 1⟩ = some mF := by
    show vm₁.method? _ = _
    rw [hW₁.alike.method?]; exact hmF
  have hpk : (T.setVm vm₁).plainMethod ⟨cell.cls, 1⟩ := State.plainMethod.of_name (fun k' hk' => by
    have q : k' = k₁ := Option.some.inj ((show vm₁.classes[cell.cls]? = some k' from hk').symm.trans hk₁)
    rw [q, hn₁]; exact hpn)
  have wy := (hw _ (List.mem_of_getElem? (i := 74) rfl))
  have ws := (hw _ (List.mem_of_getElem? (i := 75) rfl))
  obtain ⟨rY, mY, hnY, hmY, -, -⟩ := Cond.declares_spec wy
  obtain ⟨c2, r2, m2, q1, q2, q3, q4, kP, hkP, hkPi⟩ := Cond.selects_spec ws
  have em2 : m2 = rY := Option.some.inj (q3.symm.trans hnY)
  rw [em2] at hkP
  have htoy' : Z.vm.findClass "com/example/matchbook/matchbook/Pricing" = some toy := htoy
  have ety : rY.cls = toy := Option.some.inj ((findClass_of_methodNamed hnY).symm.trans htoy')
  rw [ety] at hkP
  have ht : rY = t := by
    have h1 : Z.methodFound? "com/example/matchbook/matchbook/Pricing" "label" "()Ljava/lang/String;" = some rY := State.methodFound?_of_named hnY (by decide)
    have hlook' : ((methodIn toy "label" "()Ljava/lang/String;" tk.isInterface none).ask { classPath := fun _ => none } Z.vm).1 = .ok t := by
      have q := hlook
      rw [own_desc] at q
      exact q
    simp only [State.methodFound?, htoy', htk, Option.bind_eq_bind, Option.bind_some] at h1
    rw [hlook'] at h1
    exact (Option.some.inj h1).symm
  obtain ⟨cB, kB, hB1, hB2, hB3, hB4, -⟩ := id E
  have etb : toy = cB.cls := Option.some.inj (htoy'.symm.trans hB2)
  obtain ⟨v, T', U₁, L₁, c₁, n₁, X', ⟨hv, hh, hN, hc₁, hn₁'⟩, hheap', -, -, steps⟩ := X₁.through (g := { g with stack := rest }) hg hsize hd #[.ref a, .ref b] (R' := ({ frames := 1, cells := 0, slots := 0, locals := 12 } : Room)) hmF₁ hcF hlk hpk hf (by rw [hml]; show 2 * g.monitorRoom + (rest.map fun v => v.category).sum + (2 + 11) + 12 ≤ R.locals; omega) hc hs
    (Φ := fun v U₁ L₁ c₁ n₁ => v = some (.ref lab) ∧ U₁.heap = h ∧ Fr n0 L₁ ∧ c₁ = 0 ∧ n₁ = 0) (fun U₀ hU₀ Y₀ => by
      have hvm : U₀.vm = vm₁ := by rw [hU₀]; rfl
      have hheap : U₀.heap = h := by rw [hU₀]; exact eT
      have hZ' : Z.Warmed39 ((T.setVm vm₁).calling { g with stack := rest } ⟨cell.cls, 1⟩ #[.ref a, .ref b]).vm := hW₁
      obtain ⟨kV, hkV, -, -, -, hrV⟩ := facts U₀.vm (by rw [hvm]; exact hW₁)
      obtain ⟨kB', hkB', -⟩ := hW₁.alike.2.2 _ _ hB3
      rw [hml, own_ef]
      have c1 : Steps p.tables e (.java { g with stack := rest } :: below) (U₀.setTop (mkF ⟨cell.cls, 1⟩ 0 #[.val (.ref a), .val (.ref b)] [])) (U₀.setTop (mkF ⟨cell.cls, 1⟩ 1 #[.val (.ref a), .val (.ref b)] [.ref b])) := by
        refine XS.aloadN Y₀.here hx rfl (k := 1) (v := .ref b) (by rw [hby]; exact own_f0) rfl rfl ?_
        exact Steps.refl _
      have c2 := Y₀.checkcastR hx (g := mkF ⟨cell.cls, 1⟩ 1 #[.val (.ref a), .val (.ref b)] [.ref b]) rfl (index := 14) (cT := toy) (x := .ref b) (rest := []) ⟨kV, hkV, hrV⟩ rfl
        (Or.inr ⟨b, cB, kB', kB', rfl, by rw [hheap]; exact hB1, (fun k q => by rw [q] at hB4; cases hB4), by rw [hvm]; exact hkB', by rw [hvm, etb]; exact hkB', by rw [hvm, etb]; exact Vm.assignable_self _ _⟩) (by rw [hby]; exact own_f1) c1
      have V : VCall p l e ({ frames := 1, cells := 0, slots := 0, locals := 12 } : Room) ((T.setVm vm₁).calling { g with stack := rest } ⟨cell.cls, 1⟩ #[.ref a, .ref b]) ⟨cell.cls, 1⟩ #[.ref a, .ref b] (.java { g with stack := rest } :: below) mF cF 18 "com/example/matchbook/matchbook/Pricing" (⟨"com/example/matchbook/matchbook/Pricing", "label", "()Ljava/lang/String;"⟩ : MethodName) :=
        VCall.of_ready hx (mvT hZ' wy) (mvT hZ' ws) (mvT hZ' (hw _ (List.mem_of_getElem? (i := 76) rfl))) (by decide) (fun U r hU hr => by
          have hWU : Z.Warmed39 U.vm := wtrans hZ' hU
          have er : r = t := by
            have q := own_named hZ' hnY
            exact (Option.some.inj (hr.symm.trans q)).trans ht
          obtain ⟨kU, hkU, -, hfU, hmU, hrU⟩ := facts U.vm hWU
          obtain ⟨kP', hkP', eP⟩ := hWU.alike.2.2 _ _ hkP
          have hiP : kP'.isInterface = false := by
            have q : kP'.isInterface = kP.isInterface := by rw [eP]; rfl
            rw [q]; exact hkPi
          rw [er]
          exact ⟨⟨kU, file, 14, nt, toy, kP', hkU, hfU, hidx, ⟨kU, hkU, hrU⟩, hkP', hiP⟩, ⟨kU, hkU, hmU⟩⟩)
      obtain ⟨v, vm₂, ⟨U₁, L₁, c₁, n₁⟩, -, Y₁, ⟨L, ⟨hv, hN, hh⟩, e1, e2, e3⟩, c3⟩ := V Y₀ (backOf (W := 0) (rm11 l Z a0 hw [] b lab h n0 Z0 F) hZ' (hw _ (List.mem_of_getElem? (i := 77) rfl)) (hw _ (List.mem_of_getElem? (i := 3) rfl)) (by decide) (by decide)) (b := b) (cB := cB.cls) (by rw [hZ'.alike.findClass]; exact hB2) ⟨cB, by rw [hheap]; exact hB1, rfl, hB4⟩
        (g := mkF ⟨cell.cls, 1⟩ 4 #[.val (.ref a), .val (.ref b)] [.ref b]) rfl (by rw [hml]; rfl) c2 (argsL := []) (rest := []) (lenOf own_pdL rfl) rfl (by show 2 * 0 + _ ≤ _; exact Nat.le_of_eq rfl) (by rw [hby]; exact own_f4) (fun _ _ => ⟨rfl, hheap, (by decide : 0 + 0 ≤ 0), (by decide : 0 + 0 ≤ 0)⟩)
      dsimp only [Pt.U, Pt.locs, Pt.cells, Pt.slots] at Y₁ e1 e2 e3 c3 hh
      subst e1 e2 e3 hv
      refine ⟨some (.ref lab), U₁, _, _, _, Y₁, (fun q => by rw [hret] at q; cases q), ⟨rfl, hh, hN, rfl, rfl⟩, fun fs hleave => c3.trans ?_⟩
      exact Y₁.areturnOut hx (pc := 7) (w := .ref lab) rfl hret rfl (by rw [hby]; exact own_f7) hleave)
  subst hc₁ hn₁' hv
  refine ⟨T', L₁, X', hN, hheap'.trans hh, fun target k => hstep₁ _ fun acts => ?_⟩
  rw [doInvoke_state]
  exact steps.trans k
theorem d9_0 : decode prog_7_method_1_code 0 = .ok (.getstatic 10, 3) := by decide +kernel
theorem d9_3 : decode prog_7_method_1_code 3 = .ok (.invokevirtual 14, 3) := by decide +kernel
theorem d9_6 : decode prog_7_method_1_code 6 = .ok (.checkcast 15, 3) := by decide +kernel
theorem d9_9 : decode prog_7_method_1_code 9 = .ok (.areturn, 1) := by decide +kernel
theorem ef_9 (m : MethodId)  : entryFrame m #[] 0 = mkF m 0 #[] [] := by first | (simp [entryFrame, mkF, argsToLocals, Value.category]; done) | rfl
def Q9 (Z : State) (kV : ClassId) (wO : Addr) (wS : Addr) (wV : Addr) (h0 : Heap) (n0 : Nat) (v : Option Value) (h : Heap) (L : List Loc) : Prop := ∃ r : Addr, v = some (.ref r) ∧ Fr n0 L ∧ Keep h0 h [] ∧ h0.size ≤ r ∧ Arv Z h r kV (.object "com/example/matchbook/matchbook/Pricing") (2 : Int32) [.ref wO, .ref wS] .null
set_option maxRecDepth 65536 in
set_option maxHeartbeats 40000000 in
theorem rm9 (l : Launch) (Z : State) (a0 : Array Value) (hw : ∀ d ∈ tables_1, d.before a0 Z = true) (ws : List Jvm.Cond) (kV : ClassId) (wO : Addr) (wS : Addr) (wV : Addr) (h0 : Heap) (n0 : Nat) (Z0 : n0 ≤ h0.size) (E_wV : Exa Z h0 wV "[Lcom/example/matchbook/matchbook/Pricing;") (V_wV : Arv Z h0 wV kV (.object "com/example/matchbook/matchbook/Pricing") (2 : Int32) [.ref wO, .ref wS] .null) (S_wV : Sta Z h0 "com/example/matchbook/matchbook/Pricing" "$VALUES" "[Lcom/example/matchbook/matchbook/Pricing;" (.ref wV)) :
    MetFree l (⟨"com/example/matchbook/matchbook/Pricing", "values", "()[Lcom/example/matchbook/matchbook/Pricing;"⟩ : MethodName) (head1 (Jvm.Cond.code (⟨"com/example/matchbook/matchbook/Pricing", "values", "()[Lcom/example/matchbook/matchbook/Pricing;"⟩ : MethodName) prog_7_method_1_code 0 (some (.array (.object "com/example/matchbook/matchbook/Pricing"))) :: ws) ({ frames := 1, cells := 1, slots := 2, locals := 14 } : Room)) (fun a U => a = #[] ∧ Z.Warmed39 U.vm ∧ U.heap = h0) (fun _ _ _ _ _ => True) (fun _ U o U' => ∃ v L, o = .returned v ∧ Q9 Z kV wO wS wV h0 n0 v U'.heap L ∧ FrameEnd U o U' L ({ frames := 1, cells := 1, slots := 2, locals := 14 } : Room).cells ({ frames := 1, cells := 1, slots := 2, locals := 14 } : Room).slots) := by
  refine MetFree.of_bodySF (plainFor_of_name pn_11) hisR ?_
  intro p e s m args below meth c s₁ Bd hml0 hP hK
  obtain ⟨rfl, hZ, hh⟩ := hP
  have hx := Bd.exec
  have hby := Bd.bytes
  have hml : c.maxLocals = 0 := hml0
  have hown : s.vm.findClass "com/example/matchbook/matchbook/Pricing" = some m.cls := findClass_of_methodNamed Bd.named
  have hnm := (name_of_methodNamed Bd.named Bd.method).1
  have hret := Bd.returns
  have hlocks : meth.locks = false := Bd.notSynchronized
  have X0 : Stand p l e ({ frames := 1, cells := 1, slots := 2, locals := 14 } : Room) s m #[] below meth c s₁ [] 0 0 := Stand.of_body Bd
  have e0 : s₁.heap = h0 := by rw [← hh, Bd.state]; rfl
  have N0 := Fr.nil n0
  have pre0 : ∀ t, Steps p.tables e below (s₁.setTop (mkF m 0 #[] [])) t → Steps p.tables e below (s₁.setTop (entryFrame m #[] 0)) t := fun t k => castTop (ef_9 m ) k
  obtain ⟨T229, X229, e229, st229⟩ := getS2 X0 hx hZ hown (host := "") (Or.inl (hw _ (List.mem_of_getElem? (i := 51) rfl))) Via.refl e0 S_wV (g := (mkF m 0 #[] [])) rfl (hb hby d9_0)
  have pre230 : ∀ t, Steps p.tables e below (T229.setTop (mkF m 3 #[] [(.ref wV)])) t → Steps p.tables e below (s₁.setTop (entryFrame m #[] 0)) t := by
    intro t k
    refine pre0 _ ?_
    show Steps p.tables e below (s₁.setTop (mkF m 0 #[] [])) _
    refine st229 _ ?_
    exact k
  obtain ⟨T231, h231, X231, e231, E231, V231, Ex231, st231⟩ := cloneH X229 hx hZ (ad := "[Lcom/example/matchbook/matchbook/Pricing;") hown (hw _ (List.mem_of_getElem? (i := 53) rfl)) (hw _ (List.mem_of_getElem? (i := 54) rfl)) (hw _ (List.mem_of_getElem? (i := 58) rfl)) (hw _ (List.mem_of_getElem? (i := 56) rfl)) (hw _ (List.mem_of_getElem? (i := 57) rfl)) (hw _ (List.mem_of_getElem? (i := 59) rfl)) e229 (Arv.arh V_wV) E_wV (g := (mkF m 3 #[] [(.ref wV)])) rfl (by rw [hml]; rfl) rfl (hb hby d9_3) (by decide) (W := 0) (cap := 2) (by show 2 * 0 + _ ≤ _; exact Nat.le_of_eq rfl) (by decide) (by decide) (by decide) (by decide)
  obtain ⟨c231, g231⟩ : ∃ z, z = h0.size := ⟨_, rfl⟩
  rw [← g231] at V231 Ex231 st231
  have g_c231 : n0 ≤ c231 := Nat.le_trans Z0 (Nat.le_of_eq g231.symm)
  have sz_c231 : h0.size ≤ c231 := Nat.le_trans (Keep.refl h0 []).1 (Nat.le_of_eq g231.symm)
  have Z232 : n0 ≤ h231.size := Nat.le_trans Z0 E231.1
  have KP233 := (Keep.refl h0 []).ext E231
  have VV231 : Arv Z h231 c231 kV (.object "com/example/matchbook/matchbook/Pricing") (2 : Int32) [.ref wO, .ref wS] .null := V231
  have pre234 : ∀ t, Steps p.tables e below (T231.setTop (mkF m 6 #[] [(.ref c231)])) t → Steps p.tables e below (s₁.setTop (entryFrame m #[] 0)) t := by
    intro t k
    refine pre230 _ ?_
    show Steps p.tables e below (T229.setTop (mkF m 3 #[] [(.ref wV)])) _
    refine st231 _ ?_
    exact k
  obtain ⟨T235, X235, e235, st235⟩ := castY X231 hx hZ hown (hw _ (List.mem_of_getElem? (i := 61) rfl)) e231 (Ins.self Ex231) (g := (mkF m 6 #[] [(.ref c231)])) rfl rfl (hb hby d9_6)
  have pre236 : ∀ t, Steps p.tables e below (T235.setTop (mkF m 9 #[] [(.ref c231)])) t → Steps p.tables e below (s₁.setTop (entryFrame m #[] 0)) t := by
    intro t k
    refine pre234 _ ?_
    show Steps p.tables e below (T231.setTop (mkF m 6 #[] [(.ref c231)])) _
    refine st235 _ ?_
    exact k
  obtain ⟨fs, hr, hrun, hended, hW, hsame⟩ := X235.leave (v := some (.ref c231)) (fun h => by rw [hret] at h; cases h) (hlocks := hlocks)
  refine ⟨_, _, pre236 _ ?_, hrun, hended, _, _, rfl, ?_, ⟨_, rfl⟩, hW, hsame.mono (by decide) (by decide)⟩
  · show Steps p.tables e below (T235.setTop (mkF m 9 #[] [(.ref c231)])) _
    exact Jvm.RoadKit.retOut X235 hx hret rfl (Or.inr (Or.inr (Or.inr (Or.inr ⟨rfl, rfl, rfl⟩)))) (hb hby d9_9) hr
  · show Q9 Z kV wO wS wV h0 n0 _ T235.heap _
    rw [e235]
    exact ⟨_, rfl, N0, KP233, sz_c231, VV231⟩
theorem d10_0 : decode prog_6_method_2_code 0 = .ok (.aload_n 0, 1) := by decide +kernel
theorem d10_1 : decode prog_6_method_2_code 1 = .ok (.astore 4, 2) := by decide +kernel
theorem d10_3 : decode prog_6_method_2_code 3 = .ok (.aload 4, 2) := by decide +kernel
theorem d10_5 : decode prog_6_method_2_code 5 = .ok (.arraylength, 1) := by decide +kernel
theorem d10_6 : decode prog_6_method_2_code 6 = .ok (.istore 5, 2) := by decide +kernel
theorem d10_8 : decode prog_6_method_2_code 8 = .ok (.iconst 0, 1) := by decide +kernel
theorem d10_9 : decode prog_6_method_2_code 9 = .ok (.istore 6, 2) := by decide +kernel
theorem d10_11 : decode prog_6_method_2_code 11 = .ok (.iload 6, 2) := by decide +kernel
theorem d10_13 : decode prog_6_method_2_code 13 = .ok (.iload 5, 2) := by decide +kernel
theorem d10_15 : decode prog_6_method_2_code 15 = .ok (.if_icmp .ge 37, 3) := by decide +kernel
theorem d10_18 : decode prog_6_method_2_code 18 = .ok (.aload 4, 2) := by decide +kernel
theorem d10_20 : decode prog_6_method_2_code 20 = .ok (.iload 6, 2) := by decide +kernel
theorem d10_22 : decode prog_6_method_2_code 22 = .ok (.aaload, 1) := by decide +kernel
theorem d10_23 : decode prog_6_method_2_code 23 = .ok (.astore 7, 2) := by decide +kernel
theorem d10_25 : decode prog_6_method_2_code 25 = .ok (.aload_n 1, 1) := by decide +kernel
theorem d10_26 : decode prog_6_method_2_code 26 = .ok (.aload 7, 2) := by decide +kernel
theorem d10_28 : decode prog_6_method_2_code 28 = .ok (.invokeinterface 7 2, 5) := by decide +kernel
theorem d10_33 : decode prog_6_method_2_code 33 = .ok (.checkcast 13, 3) := by decide +kernel
theorem d10_36 : decode prog_6_method_2_code 36 = .ok (.aload_n 3, 1) := by decide +kernel
theorem d10_37 : decode prog_6_method_2_code 37 = .ok (.invokevirtual 15, 3) := by decide +kernel
theorem pd__Ljava_lang_Object__Z : parseMethodDescriptor "(Ljava/lang/Object;)Z" = some ⟨[(.object "java/lang/Object")], some .boolean⟩ := by decide +kernel
theorem d10_40 : decode prog_6_method_2_code 40 = .ok (.ifCond .eq 6, 3) := by decide +kernel
theorem d10_43 : decode prog_6_method_2_code 43 = .ok (.aload 7, 2) := by decide +kernel
theorem d10_45 : decode prog_6_method_2_code 45 = .ok (.areturn, 1) := by decide +kernel
theorem pn_10 : plainName "com/example/matchbook/matchbook/Labels" = true := by first | (simp [plainName, overriddenIn]; done) | decide +kernel
theorem ef_10o (m : MethodId) (x0 : Addr) (x1 : Addr) (x2 : Addr) (x3 : Addr) : entryFrame m #[(.ref x0), (.ref x1), (.ref x2), (.ref x3)] 8 = mkF m 0 #[.val (.ref x0), .val (.ref x1), .val (.ref x2), .val (.ref x3), .unset, .unset, .unset, .unset] [] := by first | (simp [entryFrame, mkF, argsToLocals, Value.category]; done) | rfl
def Q10o (Z : State) (a1 : Addr) (a2 : Addr) (a3 : Addr) (a4 : Addr) (cK : ClassId) (kV : ClassId) (wO : Addr) (wS : Addr) (wO_label : Addr) (wO_label_value : Addr) (k_wO : ClassId) (wS_label : Addr) (wS_label_value : Addr) (k_wS : ClassId) (tV : Addr) (kt : ClassId) (pC : Int32) (h0 : Heap) (n0 : Nat) (v : Option Value) (h : Heap) (L : List Loc) : Prop := v = some (.ref wO) ∧ Fr n0 L ∧ h = h0
set_option maxRecDepth 65536 in
set_option maxHeartbeats 40000000 in
theorem rm10o (l : Launch) (Z : State) (a0 : Array Value) (hw : ∀ d ∈ tables_1, d.before a0 Z = true) (ws : List Jvm.Cond) (a1 : Addr) (a2 : Addr) (a3 : Addr) (a4 : Addr) (cK : ClassId) (kV : ClassId) (wO : Addr) (wS : Addr) (wO_label : Addr) (wO_label_value : Addr) (k_wO : ClassId) (wS_label : Addr) (wS_label_value : Addr) (k_wS : ClassId) (tV : Addr) (kt : ClassId) (pC : Int32) (h0 : Heap) (n0 : Nat) (Z0 : n0 ≤ h0.size) (M : Jvm.LamKit.Made Z "com/example/matchbook/matchbook/Pricing" own_sh cK) (FA : own_Fn h0 a2 cK) (A1 : Arv Z h0 a1 kV (.object "com/example/matchbook/matchbook/Pricing") (2 : Int32) [.ref wO, .ref wS] .null) (E_wO : Exa Z h0 wO "com/example/matchbook/matchbook/Pricing") (F_wO_label : Fld Z h0 wO "com/example/matchbook/matchbook/Pricing" "label" "Ljava/lang/String;" (.ref wO_label)) (E_wO_label : Exa Z h0 wO_label "java/lang/String") (F_wO_label_coder : Fld Z h0 wO_label "java/lang/String" "coder" "B" (.int (0 : Int32))) (F_wO_label_value : Fld Z h0 wO_label "java/lang/String" "value" "[B" (.ref wO_label_value)) (V_wO : Arv Z h0 wO_label_value k_wO .byte (9 : Int32) [.int (111 : Int32), .int (110 : Int32), .int (45 : Int32), .int (100 : Int32), .int (101 : Int32), .int (109 : Int32), .int (97 : Int32), .int (110 : Int32), .int (100 : Int32)] (.int (0 : Int32))) (E_wS : Exa Z h0 wS "com/example/matchbook/matchbook/Pricing") (F_wS_label : Fld Z h0 wS "com/example/matchbook/matchbook/Pricing" "label" "Ljava/lang/String;" (.ref wS_label)) (E_wS_label : Exa Z h0 wS_label "java/lang/String") (F_wS_label_coder : Fld Z h0 wS_label "java/lang/String" "coder" "B" (.int (0 : Int32))) (F_wS_label_value : Fld Z h0 wS_label "java/lang/String" "value" "[B" (.ref wS_label_value)) (V_wS : Arv Z h0 wS_label_value k_wS .byte (4 : Int32) [.int (115 : Int32), .int (112 : Int32), .int (111 : Int32), .int (116 : Int32)] (.int (0 : Int32))) (E_a4 : Exa Z h0 a4 "java/lang/String") (F_a4_value : Fld Z h0 a4 "java/lang/String" "value" "[B" (.ref tV)) (F_a4_coder : Fld Z h0 a4 "java/lang/String" "coder" "B" (.int (0 : Int32))) (V_t : Arv Z h0 tV kt .byte (9 : Int32) [.int (111 : Int32), .int (110 : Int32), .int (45 : Int32), .int (100 : Int32), .int (101 : Int32), .int (109 : Int32), .int (97 : Int32), .int (110 : Int32), .int (100 : Int32)] (.int (0 : Int32))) (hpc : ¬ (pC = (0 : Int32))) (S_pC : Sta Z h0 "java/lang/String" "COMPACT_STRINGS" "Z" (.int pC)) :
    MetFree l (⟨"com/example/matchbook/matchbook/Labels", "parse", "([Ljava/lang/Object;Ljava/util/function/Function;Ljava/lang/String;Ljava/lang/String;)Ljava/lang/Object;"⟩ : MethodName) (head1 (Jvm.Cond.code (⟨"com/example/matchbook/matchbook/Labels", "parse", "([Ljava/lang/Object;Ljava/util/function/Function;Ljava/lang/String;Ljava/lang/String;)Ljava/lang/Object;"⟩ : MethodName) prog_6_method_2_code 8 (some (.object "java/lang/Object")) :: ws) ({ frames := 2, cells := 0, slots := 0, locals := 28 } : Room)) (fun a U => a = #[(.ref a1), (.ref a2), (.ref a3), (.ref a4)] ∧ Z.Warmed39 U.vm ∧ U.heap = h0) (fun _ _ _ _ _ => True) (fun _ U o U' => ∃ v L, o = .returned v ∧ Q10o Z a1 a2 a3 a4 cK kV wO wS wO_label wO_label_value k_wO wS_label wS_label_value k_wS tV kt pC h0 n0 v U'.heap L ∧ FrameEnd U o U' L ({ frames := 2, cells := 0, slots := 0, locals := 28 } : Room).cells ({ frames := 2, cells := 0, slots := 0, locals := 28 } : Room).slots) := by
  refine MetFree.of_bodySF (plainFor_of_name pn_10) hisR ?_
  intro p e s m args below meth c s₁ Bd hml0 hP hK
  obtain ⟨rfl, hZ, hh⟩ := hP
  have hx := Bd.exec
  have hby := Bd.bytes
  have hml : c.maxLocals = 8 := hml0
  have hown : s.vm.findClass "com/example/matchbook/matchbook/Labels" = some m.cls := findClass_of_methodNamed Bd.named
  have hnm := (name_of_methodNamed Bd.named Bd.method).1
  have hret := Bd.returns
  have hlocks : meth.locks = false := Bd.notSynchronized
  have X0 : Stand p l e ({ frames := 2, cells := 0, slots := 0, locals := 28 } : Room) s m #[(.ref a1), (.ref a2), (.ref a3), (.ref a4)] below meth c s₁ [] 0 0 := Stand.of_body Bd
  have e0 : s₁.heap = h0 := by rw [← hh, Bd.state]; rfl
  have N0 := Fr.nil n0
  obtain ⟨cl1, Ar1, _, S1, N_1, H1, _⟩ := A1
  have pre0 : ∀ t, Steps p.tables e below (s₁.setTop (mkF m 0 #[.val (.ref a1), .val (.ref a2), .val (.ref a3), .val (.ref a4), .unset, .unset, .unset, .unset] [])) t → Steps p.tables e below (s₁.setTop (entryFrame m #[(.ref a1), (.ref a2), (.ref a3), (.ref a4)] 8)) t := fun t k => castTop (ef_10o m a1 a2 a3 a4) k
  have pre237 : ∀ t, Steps p.tables e below (s₁.setTop (mkF m 15 #[.val (.ref a1), .val (.ref a2), .val (.ref a3), .val (.ref a4), .val (.ref a1), .val (.int (2 : Int32)), .val (.int (0 : Int32)), .unset] [(.int (2 : Int32)), (.int (0 : Int32))])) t → Steps p.tables e below (s₁.setTop (entryFrame m #[(.ref a1), (.ref a2), (.ref a3), (.ref a4)] 8)) t := by
    intro t k
    refine pre0 _ ?_
    show Steps p.tables e below (s₁.setTop (mkF m 0 #[.val (.ref a1), .val (.ref a2), .val (.ref a3), .val (.ref a4), .unset, .unset, .unset, .unset] [])) _
    refine XS.aloadN X0.here hx rfl (hb hby d10_0) rfl rfl ?_
    show Steps p.tables e below (s₁.setTop (mkF m 1 #[.val (.ref a1), .val (.ref a2), .val (.ref a3), .val (.ref a4), .unset, .unset, .unset, .unset] [(.ref a1)])) _
    refine XS.astore X0.here hx rfl (hb hby d10_1) rfl rfl (l' := #[.val (.ref a1), .val (.ref a2), .val (.ref a3), .val (.ref a4), .val (.ref a1), .unset, .unset, .unset]) rfl ?_
    show Steps p.tables e below (s₁.setTop (mkF m 3 #[.val (.ref a1), .val (.ref a2), .val (.ref a3), .val (.ref a4), .val (.ref a1), .unset, .unset, .unset] [])) _
    refine XS.aload X0.here hx rfl (hb hby d10_3) rfl rfl ?_
    show Steps p.tables e below (s₁.setTop (mkF m 5 #[.val (.ref a1), .val (.ref a2), .val (.ref a3), .val (.ref a4), .val (.ref a1), .unset, .unset, .unset] [(.ref a1)])) _
    refine X0.arraylength hx (by rw [e0]; exact Ar1.1) (State.isArrayOf_alike hZ.alike Ar1.2.1) (g := (mkF m 5 #[.val (.ref a1), .val (.ref a2), .val (.ref a3), .val (.ref a4), .val (.ref a1), .unset, .unset, .unset] [(.ref a1)])) rfl rfl (hb hby d10_5) _ ?_
    rw [len_of S1 N_1]
    show Steps p.tables e below (s₁.setTop (mkF m 6 #[.val (.ref a1), .val (.ref a2), .val (.ref a3), .val (.ref a4), .val (.ref a1), .unset, .unset, .unset] [(.int (2 : Int32))])) _
    refine XS.istore X0.here hx rfl (hb hby d10_6) rfl (l' := #[.val (.ref a1), .val (.ref a2), .val (.ref a3), .val (.ref a4), .val (.ref a1), .val (.int (2 : Int32)), .unset, .unset]) rfl ?_
    show Steps p.tables e below (s₁.setTop (mkF m 8 #[.val (.ref a1), .val (.ref a2), .val (.ref a3), .val (.ref a4), .val (.ref a1), .val (.int (2 : Int32)), .unset, .unset] [])) _
    refine XS.iconst X0.here hx rfl (hb hby d10_8) ?_
    show Steps p.tables e below (s₁.setTop (mkF m 9 #[.val (.ref a1), .val (.ref a2), .val (.ref a3), .val (.ref a4), .val (.ref a1), .val (.int (2 : Int32)), .unset, .unset] [(.int (0 : Int32))])) _
    refine XS.istore X0.here hx rfl (hb hby d10_9) rfl (l' := #[.val (.ref a1), .val (.ref a2), .val (.ref a3), .val (.ref a4), .val (.ref a1), .val (.int (2 : Int32)), .val (.int (0 : Int32)), .unset]) rfl ?_
    show Steps p.tables e below (s₁.setTop (mkF m 11 #[.val (.ref a1), .val (.ref a2), .val (.ref a3), .val (.ref a4), .val (.ref a1), .val (.int (2 : Int32)), .val (.int (0 : Int32)), .unset] [])) _
    refine XS.iload X0.here hx rfl (hb hby d10_11) rfl ?_
    show Steps p.tables e below (s₁.setTop (mkF m 13 #[.val (.ref a1), .val (.ref a2), .val (.ref a3), .val (.ref a4), .val (.ref a1), .val (.int (2 : Int32)), .val (.int (0 : Int32)), .unset] [(.int (0 : Int32))])) _
    refine XS.iload X0.here hx rfl (hb hby d10_13) rfl ?_
    exact k
  have pre239 : ∀ t, Steps p.tables e below (s₁.setTop (mkF m 18 #[.val (.ref a1), .val (.ref a2), .val (.ref a3), .val (.ref a4), .val (.ref a1), .val (.int (2 : Int32)), .val (.int (0 : Int32)), .unset] [])) t → Steps p.tables e below (s₁.setTop (entryFrame m #[(.ref a1), (.ref a2), (.ref a3), (.ref a4)] 8)) t := by
    intro t k
    refine pre237 _ ?_
    show Steps p.tables e below (s₁.setTop (mkF m 15 #[.val (.ref a1), .val (.ref a2), .val (.ref a3), .val (.ref a4), .val (.ref a1), .val (.int (2 : Int32)), .val (.int (0 : Int32)), .unset] [(.int (2 : Int32)), (.int (0 : Int32))])) _
    refine XS.icmpNo X0.here hx rfl (hb hby d10_15) rfl (tlt (by decide : (0 : Int32) < (2 : Int32))).2.1 ?_
    exact k
  have pre240 : ∀ t, Steps p.tables e below (s₁.setTop (mkF m 28 #[.val (.ref a1), .val (.ref a2), .val (.ref a3), .val (.ref a4), .val (.ref a1), .val (.int (2 : Int32)), .val (.int (0 : Int32)), .val (.ref wO)] [(.ref wO), (.ref a2)])) t → Steps p.tables e below (s₁.setTop (entryFrame m #[(.ref a1), (.ref a2), (.ref a3), (.ref a4)] 8)) t := by
    intro t k
    refine pre239 _ ?_
    show Steps p.tables e below (s₁.setTop (mkF m 18 #[.val (.ref a1), .val (.ref a2), .val (.ref a3), .val (.ref a4), .val (.ref a1), .val (.int (2 : Int32)), .val (.int (0 : Int32)), .unset] [])) _
    refine XS.aload X0.here hx rfl (hb hby d10_18) rfl rfl ?_
    show Steps p.tables e below (s₁.setTop (mkF m 20 #[.val (.ref a1), .val (.ref a2), .val (.ref a3), .val (.ref a4), .val (.ref a1), .val (.int (2 : Int32)), .val (.int (0 : Int32)), .unset] [(.ref a1)])) _
    refine XS.iload X0.here hx rfl (hb hby d10_20) rfl ?_
    show Steps p.tables e below (s₁.setTop (mkF m 22 #[.val (.ref a1), .val (.ref a2), .val (.ref a3), .val (.ref a4), .val (.ref a1), .val (.int (2 : Int32)), .val (.int (0 : Int32)), .unset] [(.int (0 : Int32)), (.ref a1)])) _
    refine X0.aaload hx (j := (0 : Int32)) (v := (.ref wO)) (by rw [e0]; exact Ar1.1) (State.isArrayOf_alike hZ.alike Ar1.2.1) rfl Ar1.2.2 (inb_of S1 ⟨by decide, by decide⟩) (Has.at (v := (.ref wO)) H1 (inb_of S1 ⟨by decide, by decide⟩) rfl) (g := (mkF m 22 #[.val (.ref a1), .val (.ref a2), .val (.ref a3), .val (.ref a4), .val (.ref a1), .val (.int (2 : Int32)), .val (.int (0 : Int32)), .unset] [(.int (0 : Int32)), (.ref a1)])) rfl rfl (hb hby d10_22) _ ?_
    show Steps p.tables e below (s₁.setTop (mkF m 23 #[.val (.ref a1), .val (.ref a2), .val (.ref a3), .val (.ref a4), .val (.ref a1), .val (.int (2 : Int32)), .val (.int (0 : Int32)), .unset] [(.ref wO)])) _
    refine XS.astore X0.here hx rfl (hb hby d10_23) rfl rfl (l' := #[.val (.ref a1), .val (.ref a2), .val (.ref a3), .val (.ref a4), .val (.ref a1), .val (.int (2 : Int32)), .val (.int (0 : Int32)), .val (.ref wO)]) rfl ?_
    show Steps p.tables e below (s₁.setTop (mkF m 25 #[.val (.ref a1), .val (.ref a2), .val (.ref a3), .val (.ref a4), .val (.ref a1), .val (.int (2 : Int32)), .val (.int (0 : Int32)), .val (.ref wO)] [])) _
    refine XS.aloadN X0.here hx rfl (hb hby d10_25) rfl rfl ?_
    show Steps p.tables e below (s₁.setTop (mkF m 26 #[.val (.ref a1), .val (.ref a2), .val (.ref a3), .val (.ref a4), .val (.ref a1), .val (.int (2 : Int32)), .val (.int (0 : Int32)), .val (.ref wO)] [(.ref a2)])) _
    refine XS.aload X0.here hx rfl (hb hby d10_26) rfl rfl ?_
    exact k
  obtain ⟨T241, L241, X241, N241q, e241, st241⟩ := own_apply X0 hx hZ hw hown e0 Z0 M FA E_wO F_wO_label (g := (mkF m 28 #[.val (.ref a1), .val (.ref a2), .val (.ref a3), .val (.ref a4), .val (.ref a1), .val (.int (2 : Int32)), .val (.int (0 : Int32)), .val (.ref wO)] [(.ref wO), (.ref a2)])) rfl (by rw [hml]; rfl) rfl (hb hby d10_28) (by decide) (W := 0) (by show 2 * 0 + _ ≤ _; exact Nat.le_of_eq rfl) (by decide) (by decide) (by decide)
  have N241 := Fr.app N0 N241q
  have pre242 : ∀ t, Steps p.tables e below (T241.setTop (mkF m 33 #[.val (.ref a1), .val (.ref a2), .val (.ref a3), .val (.ref a4), .val (.ref a1), .val (.int (2 : Int32)), .val (.int (0 : Int32)), .val (.ref wO)] [(.ref wO_label)])) t → Steps p.tables e below (s₁.setTop (entryFrame m #[(.ref a1), (.ref a2), (.ref a3), (.ref a4)] 8)) t := by
    intro t k
    refine pre240 _ ?_
    show Steps p.tables e below (s₁.setTop (mkF m 28 #[.val (.ref a1), .val (.ref a2), .val (.ref a3), .val (.ref a4), .val (.ref a1), .val (.int (2 : Int32)), .val (.int (0 : Int32)), .val (.ref wO)] [(.ref wO), (.ref a2)])) _
    refine st241 _ ?_
    exact k
  obtain ⟨T243, X243, e243, st243⟩ := castY X241 hx hZ hown (hw _ (List.mem_of_getElem? (i := 80) rfl)) e241 (Ins.self E_wO_label) (g := (mkF m 33 #[.val (.ref a1), .val (.ref a2), .val (.ref a3), .val (.ref a4), .val (.ref a1), .val (.int (2 : Int32)), .val (.int (0 : Int32)), .val (.ref wO)] [(.ref wO_label)])) rfl rfl (hb hby d10_33)
  have pre244 : ∀ t, Steps p.tables e below (T243.setTop (mkF m 36 #[.val (.ref a1), .val (.ref a2), .val (.ref a3), .val (.ref a4), .val (.ref a1), .val (.int (2 : Int32)), .val (.int (0 : Int32)), .val (.ref wO)] [(.ref wO_label)])) t → Steps p.tables e below (s₁.setTop (entryFrame m #[(.ref a1), (.ref a2), (.ref a3), (.ref a4)] 8)) t := by
    intro t k
    refine pre242 _ ?_
    show Steps p.tables e below (T241.setTop (mkF m 33 #[.val (.ref a1), .val (.ref a2), .val (.ref a3), .val (.ref a4), .val (.ref a1), .val (.int (2 : Int32)), .val (.int (0 : Int32)), .val (.ref wO)] [(.ref wO_label)])) _
    refine st243 _ ?_
    exact k
  have pre245 : ∀ t, Steps p.tables e below (T243.setTop (mkF m 37 #[.val (.ref a1), .val (.ref a2), .val (.ref a3), .val (.ref a4), .val (.ref a1), .val (.int (2 : Int32)), .val (.int (0 : Int32)), .val (.ref wO)] [(.ref a4), (.ref wO_label)])) t → Steps p.tables e below (s₁.setTop (entryFrame m #[(.ref a1), (.ref a2), (.ref a3), (.ref a4)] 8)) t := by
    intro t k
    refine pre244 _ ?_
    show Steps p.tables e below (T243.setTop (mkF m 36 #[.val (.ref a1), .val (.ref a2), .val (.ref a3), .val (.ref a4), .val (.ref a1), .val (.int (2 : Int32)), .val (.int (0 : Int32)), .val (.ref wO)] [(.ref wO_label)])) _
    refine XS.aloadN X243.here hx rfl (hb hby d10_36) rfl rfl ?_
    exact k
  obtain ⟨cq246, kq246, q246a, q246b, q246c⟩ := isOf hZ e243 E_wO_label
  obtain ⟨_, _, ⟨T246, L246, k246, n246⟩, -, X246, ⟨Lc246, hQ246, l246, y246, z246⟩, st246⟩ := X243.virtualBack hx (y := (⟨"java/lang/String", "equals", "(Ljava/lang/Object;)Z"⟩ : MethodName)) (z := (⟨"java/lang/String", "equals", "(Ljava/lang/Object;)Z"⟩ : MethodName)) hown (mvT hZ (hw _ (List.mem_of_getElem? (i := 81) rfl))) (mvT hZ (hw _ (List.mem_of_getElem? (i := 82) rfl))) (notFace_of_selects (args := #[]) (mvT hZ (hw _ (List.mem_of_getElem? (i := 84) rfl)))) (mvT hZ (hw _ (List.mem_of_getElem? (i := 84) rfl))) (mvT hZ (hw _ (List.mem_of_getElem? (i := 83) rfl))) (by decide) (backOf (W := 0) (rm12oo l Z a0 hw [] wO_label a4 wO_label_value tV k_wO kt pC h0 n0 Z0 E_a4 F_wO_label_coder F_a4_coder F_wO_label_value F_a4_value V_wO V_t hpc S_pC) hZ (hw _ (List.mem_of_getElem? (i := 85) rfl)) (hw _ (List.mem_of_getElem? (i := 7) rfl)) (by decide) (by decide)) q246a q246c (g := (mkF m 37 #[.val (.ref a1), .val (.ref a2), .val (.ref a3), .val (.ref a4), .val (.ref a1), .val (.int (2 : Int32)), .val (.int (0 : Int32)), .val (.ref wO)] [(.ref a4), (.ref wO_label)])) rfl (by rw [hml]; rfl) (Steps.refl _) (argsL := [(.ref a4)]) (rest := []) (lenOf pd__Ljava_lang_Object__Z rfl) rfl (by show 2 * 0 + _ ≤ _; exact Nat.le_of_eq rfl) (hb hby d10_37) (fun _ _ => ⟨rfl, e243, (by decide : 0 + 0 ≤ _), (by decide : 0 + 0 ≤ _)⟩)
  dsimp only [Pt.U, Pt.locs, Pt.cells, Pt.slots] at X246 l246 y246 z246 st246 hQ246
  subst l246 y246 z246
  obtain ⟨rfl, N246q, e246⟩ := hQ246
  have N246 := Fr.app N241 N246q
  have pre247 : ∀ t, Steps p.tables e below (T246.setTop (mkF m 40 #[.val (.ref a1), .val (.ref a2), .val (.ref a3), .val (.ref a4), .val (.ref a1), .val (.int (2 : Int32)), .val (.int (0 : Int32)), .val (.ref wO)] [(.int (1 : Int32))])) t → Steps p.tables e below (s₁.setTop (entryFrame m #[(.ref a1), (.ref a2), (.ref a3), (.ref a4)] 8)) t := by
    intro t k
    refine pre245 _ ?_
    show Steps p.tables e below (T243.setTop (mkF m 37 #[.val (.ref a1), .val (.ref a2), .val (.ref a3), .val (.ref a4), .val (.ref a1), .val (.int (2 : Int32)), .val (.int (0 : Int32)), .val (.ref wO)] [(.ref a4), (.ref wO_label)])) _
    refine st246.trans ?_
    exact k
  have pre249 : ∀ t, Steps p.tables e below (T246.setTop (mkF m 43 #[.val (.ref a1), .val (.ref a2), .val (.ref a3), .val (.ref a4), .val (.ref a1), .val (.int (2 : Int32)), .val (.int (0 : Int32)), .val (.ref wO)] [])) t → Steps p.tables e below (s₁.setTop (entryFrame m #[(.ref a1), (.ref a2), (.ref a3), (.ref a4)] 8)) t := by
    intro t k
    refine pre247 _ ?_
    show Steps p.tables e below (T246.setTop (mkF m 40 #[.val (.ref a1), .val (.ref a2), .val (.ref a3), .val (.ref a4), .val (.ref a1), .val (.int (2 : Int32)), .val (.int (0 : Int32)), .val (.ref wO)] [(.int (1 : Int32))])) _
    refine XS.ifNo X246.here hx rfl (hb hby d10_40) rfl ((if0 _ _).trans (feq (by decide : ¬ ((1 : Int32) = (0 : Int32)))).1) ?_
    exact k
  have pre250 : ∀ t, Steps p.tables e below (T246.setTop (mkF m 45 #[.val (.ref a1), .val (.ref a2), .val (.ref a3), .val (.ref a4), .val (.ref a1), .val (.int (2 : Int32)), .val (.int (0 : Int32)), .val (.ref wO)] [(.ref wO)])) t → Steps p.tables e below (s₁.setTop (entryFrame m #[(.ref a1), (.ref a2), (.ref a3), (.ref a4)] 8)) t := by
    intro t k
    refine pre249 _ ?_
    show Steps p.tables e below (T246.setTop (mkF m 43 #[.val (.ref a1), .val (.ref a2), .val (.ref a3), .val (.ref a4), .val (.ref a1), .val (.int (2 : Int32)), .val (.int (0 : Int32)), .val (.ref wO)] [])) _
    refine XS.aload X246.here hx rfl (hb hby d10_43) rfl rfl ?_
    exact k
  obtain ⟨fs, hr, hrun, hended, hW, hsame⟩ := X246.leave (v := some (.ref wO)) (fun h => by rw [hret] at h; cases h) (hlocks := hlocks)
  refine ⟨_, _, pre250 _ ?_, hrun, hended, _, _, rfl, ?_, ⟨_, rfl⟩, hW, hsame.mono (by decide) (by decide)⟩
  · show Steps p.tables e below (T246.setTop (mkF m 45 #[.val (.ref a1), .val (.ref a2), .val (.ref a3), .val (.ref a4), .val (.ref a1), .val (.int (2 : Int32)), .val (.int (0 : Int32)), .val (.ref wO)] [(.ref wO)])) _
    exact Jvm.RoadKit.retOut X246 hx hret rfl (Or.inr (Or.inr (Or.inr (Or.inr ⟨rfl, rfl, rfl⟩)))) (hb hby d10_45) hr
  · show Q10o Z a1 a2 a3 a4 cK kV wO wS wO_label wO_label_value k_wO wS_label wS_label_value k_wS tV kt pC h0 n0 _ T246.heap _
    rw [e246]
    exact ⟨rfl, N246, rfl⟩
theorem d10_46 : decode prog_6_method_2_code 46 = .ok (.iinc 6 1, 3) := by decide +kernel
theorem d10_49 : decode prog_6_method_2_code 49 = .ok (.goto (-38), 3) := by decide +kernel
theorem ef_10s (m : MethodId) (x0 : Addr) (x1 : Addr) (x2 : Addr) (x3 : Addr) : entryFrame m #[(.ref x0), (.ref x1), (.ref x2), (.ref x3)] 8 = mkF m 0 #[.val (.ref x0), .val (.ref x1), .val (.ref x2), .val (.ref x3), .unset, .unset, .unset, .unset] [] := by first | (simp [entryFrame, mkF, argsToLocals, Value.category]; done) | rfl
def Q10s (Z : State) (a1 : Addr) (a2 : Addr) (a3 : Addr) (a4 : Addr) (cK : ClassId) (kV : ClassId) (wO : Addr) (wS : Addr) (wO_label : Addr) (wO_label_value : Addr) (k_wO : ClassId) (wS_label : Addr) (wS_label_value : Addr) (k_wS : ClassId) (tV : Addr) (kt : ClassId) (pC : Int32) (h0 : Heap) (n0 : Nat) (v : Option Value) (h : Heap) (L : List Loc) : Prop := v = some (.ref wS) ∧ Fr n0 L ∧ h = h0
set_option maxRecDepth 65536 in
set_option maxHeartbeats 40000000 in
theorem rm10s (l : Launch) (Z : State) (a0 : Array Value) (hw : ∀ d ∈ tables_1, d.before a0 Z = true) (ws : List Jvm.Cond) (a1 : Addr) (a2 : Addr) (a3 : Addr) (a4 : Addr) (cK : ClassId) (kV : ClassId) (wO : Addr) (wS : Addr) (wO_label : Addr) (wO_label_value : Addr) (k_wO : ClassId) (wS_label : Addr) (wS_label_value : Addr) (k_wS : ClassId) (tV : Addr) (kt : ClassId) (pC : Int32) (h0 : Heap) (n0 : Nat) (Z0 : n0 ≤ h0.size) (M : Jvm.LamKit.Made Z "com/example/matchbook/matchbook/Pricing" own_sh cK) (FA : own_Fn h0 a2 cK) (A1 : Arv Z h0 a1 kV (.object "com/example/matchbook/matchbook/Pricing") (2 : Int32) [.ref wO, .ref wS] .null) (E_wO : Exa Z h0 wO "com/example/matchbook/matchbook/Pricing") (F_wO_label : Fld Z h0 wO "com/example/matchbook/matchbook/Pricing" "label" "Ljava/lang/String;" (.ref wO_label)) (E_wO_label : Exa Z h0 wO_label "java/lang/String") (F_wO_label_coder : Fld Z h0 wO_label "java/lang/String" "coder" "B" (.int (0 : Int32))) (F_wO_label_value : Fld Z h0 wO_label "java/lang/String" "value" "[B" (.ref wO_label_value)) (V_wO : Arv Z h0 wO_label_value k_wO .byte (9 : Int32) [.int (111 : Int32), .int (110 : Int32), .int (45 : Int32), .int (100 : Int32), .int (101 : Int32), .int (109 : Int32), .int (97 : Int32), .int (110 : Int32), .int (100 : Int32)] (.int (0 : Int32))) (E_wS : Exa Z h0 wS "com/example/matchbook/matchbook/Pricing") (F_wS_label : Fld Z h0 wS "com/example/matchbook/matchbook/Pricing" "label" "Ljava/lang/String;" (.ref wS_label)) (E_wS_label : Exa Z h0 wS_label "java/lang/String") (F_wS_label_coder : Fld Z h0 wS_label "java/lang/String" "coder" "B" (.int (0 : Int32))) (F_wS_label_value : Fld Z h0 wS_label "java/lang/String" "value" "[B" (.ref wS_label_value)) (V_wS : Arv Z h0 wS_label_value k_wS .byte (4 : Int32) [.int (115 : Int32), .int (112 : Int32), .int (111 : Int32), .int (116 : Int32)] (.int (0 : Int32))) (E_a4 : Exa Z h0 a4 "java/lang/String") (F_a4_value : Fld Z h0 a4 "java/lang/String" "value" "[B" (.ref tV)) (F_a4_coder : Fld Z h0 a4 "java/lang/String" "coder" "B" (.int (0 : Int32))) (V_t : Arv Z h0 tV kt .byte (4 : Int32) [.int (115 : Int32), .int (112 : Int32), .int (111 : Int32), .int (116 : Int32)] (.int (0 : Int32))) (hpc : ¬ (pC = (0 : Int32))) (S_pC : Sta Z h0 "java/lang/String" "COMPACT_STRINGS" "Z" (.int pC)) :
    MetFree l (⟨"com/example/matchbook/matchbook/Labels", "parse", "([Ljava/lang/Object;Ljava/util/function/Function;Ljava/lang/String;Ljava/lang/String;)Ljava/lang/Object;"⟩ : MethodName) (head1 (Jvm.Cond.code (⟨"com/example/matchbook/matchbook/Labels", "parse", "([Ljava/lang/Object;Ljava/util/function/Function;Ljava/lang/String;Ljava/lang/String;)Ljava/lang/Object;"⟩ : MethodName) prog_6_method_2_code 8 (some (.object "java/lang/Object")) :: ws) ({ frames := 2, cells := 0, slots := 0, locals := 28 } : Room)) (fun a U => a = #[(.ref a1), (.ref a2), (.ref a3), (.ref a4)] ∧ Z.Warmed39 U.vm ∧ U.heap = h0) (fun _ _ _ _ _ => True) (fun _ U o U' => ∃ v L, o = .returned v ∧ Q10s Z a1 a2 a3 a4 cK kV wO wS wO_label wO_label_value k_wO wS_label wS_label_value k_wS tV kt pC h0 n0 v U'.heap L ∧ FrameEnd U o U' L ({ frames := 2, cells := 0, slots := 0, locals := 28 } : Room).cells ({ frames := 2, cells := 0, slots := 0, locals := 28 } : Room).slots) := by
  refine MetFree.of_bodySF (plainFor_of_name pn_10) hisR ?_
  intro p e s m args below meth c s₁ Bd hml0 hP hK
  obtain ⟨rfl, hZ, hh⟩ := hP
  have hx := Bd.exec
  have hby := Bd.bytes
  have hml : c.maxLocals = 8 := hml0
  have hown : s.vm.findClass "com/example/matchbook/matchbook/Labels" = some m.cls := findClass_of_methodNamed Bd.named
  have hnm := (name_of_methodNamed Bd.named Bd.method).1
  have hret := Bd.returns
  have hlocks : meth.locks = false := Bd.notSynchronized
  have X0 : Stand p l e ({ frames := 2, cells := 0, slots := 0, locals := 28 } : Room) s m #[(.ref a1), (.ref a2), (.ref a3), (.ref a4)] below meth c s₁ [] 0 0 := Stand.of_body Bd
  have e0 : s₁.heap = h0 := by rw [← hh, Bd.state]; rfl
  have N0 := Fr.nil n0
  obtain ⟨cl1, Ar1, _, S1, N_1, H1, _⟩ := A1
  have pre0 : ∀ t, Steps p.tables e below (s₁.setTop (mkF m 0 #[.val (.ref a1), .val (.ref a2), .val (.ref a3), .val (.ref a4), .unset, .unset, .unset, .unset] [])) t → Steps p.tables e below (s₁.setTop (entryFrame m #[(.ref a1), (.ref a2), (.ref a3), (.ref a4)] 8)) t := fun t k => castTop (ef_10s m a1 a2 a3 a4) k
  have pre251 : ∀ t, Steps p.tables e below (s₁.setTop (mkF m 15 #[.val (.ref a1), .val (.ref a2), .val (.ref a3), .val (.ref a4), .val (.ref a1), .val (.int (2 : Int32)), .val (.int (0 : Int32)), .unset] [(.int (2 : Int32)), (.int (0 : Int32))])) t → Steps p.tables e below (s₁.setTop (entryFrame m #[(.ref a1), (.ref a2), (.ref a3), (.ref a4)] 8)) t := by
    intro t k
    refine pre0 _ ?_
    show Steps p.tables e below (s₁.setTop (mkF m 0 #[.val (.ref a1), .val (.ref a2), .val (.ref a3), .val (.ref a4), .unset, .unset, .unset, .unset] [])) _
    refine XS.aloadN X0.here hx rfl (hb hby d10_0) rfl rfl ?_
    show Steps p.tables e below (s₁.setTop (mkF m 1 #[.val (.ref a1), .val (.ref a2), .val (.ref a3), .val (.ref a4), .unset, .unset, .unset, .unset] [(.ref a1)])) _
    refine XS.astore X0.here hx rfl (hb hby d10_1) rfl rfl (l' := #[.val (.ref a1), .val (.ref a2), .val (.ref a3), .val (.ref a4), .val (.ref a1), .unset, .unset, .unset]) rfl ?_
    show Steps p.tables e below (s₁.setTop (mkF m 3 #[.val (.ref a1), .val (.ref a2), .val (.ref a3), .val (.ref a4), .val (.ref a1), .unset, .unset, .unset] [])) _
    refine XS.aload X0.here hx rfl (hb hby d10_3) rfl rfl ?_
    show Steps p.tables e below (s₁.setTop (mkF m 5 #[.val (.ref a1), .val (.ref a2), .val (.ref a3), .val (.ref a4), .val (.ref a1), .unset, .unset, .unset] [(.ref a1)])) _
    refine X0.arraylength hx (by rw [e0]; exact Ar1.1) (State.isArrayOf_alike hZ.alike Ar1.2.1) (g := (mkF m 5 #[.val (.ref a1), .val (.ref a2), .val (.ref a3), .val (.ref a4), .val (.ref a1), .unset, .unset, .unset] [(.ref a1)])) rfl rfl (hb hby d10_5) _ ?_
    rw [len_of S1 N_1]
    show Steps p.tables e below (s₁.setTop (mkF m 6 #[.val (.ref a1), .val (.ref a2), .val (.ref a3), .val (.ref a4), .val (.ref a1), .unset, .unset, .unset] [(.int (2 : Int32))])) _
    refine XS.istore X0.here hx rfl (hb hby d10_6) rfl (l' := #[.val (.ref a1), .val (.ref a2), .val (.ref a3), .val (.ref a4), .val (.ref a1), .val (.int (2 : Int32)), .unset, .unset]) rfl ?_
    show Steps p.tables e below (s₁.setTop (mkF m 8 #[.val (.ref a1), .val (.ref a2), .val (.ref a3), .val (.ref a4), .val (.ref a1), .val (.int (2 : Int32)), .unset, .unset] [])) _
    refine XS.iconst X0.here hx rfl (hb hby d10_8) ?_
    show Steps p.tables e below (s₁.setTop (mkF m 9 #[.val (.ref a1), .val (.ref a2), .val (.ref a3), .val (.ref a4), .val (.ref a1), .val (.int (2 : Int32)), .unset, .unset] [(.int (0 : Int32))])) _
    refine XS.istore X0.here hx rfl (hb hby d10_9) rfl (l' := #[.val (.ref a1), .val (.ref a2), .val (.ref a3), .val (.ref a4), .val (.ref a1), .val (.int (2 : Int32)), .val (.int (0 : Int32)), .unset]) rfl ?_
    show Steps p.tables e below (s₁.setTop (mkF m 11 #[.val (.ref a1), .val (.ref a2), .val (.ref a3), .val (.ref a4), .val (.ref a1), .val (.int (2 : Int32)), .val (.int (0 : Int32)), .unset] [])) _
    refine XS.iload X0.here hx rfl (hb hby d10_11) rfl ?_
    show Steps p.tables e below (s₁.setTop (mkF m 13 #[.val (.ref a1), .val (.ref a2), .val (.ref a3), .val (.ref a4), .val (.ref a1), .val (.int (2 : Int32)), .val (.int (0 : Int32)), .unset] [(.int (0 : Int32))])) _
    refine XS.iload X0.here hx rfl (hb hby d10_13) rfl ?_
    exact k
  have pre253 : ∀ t, Steps p.tables e below (s₁.setTop (mkF m 18 #[.val (.ref a1), .val (.ref a2), .val (.ref a3), .val (.ref a4), .val (.ref a1), .val (.int (2 : Int32)), .val (.int (0 : Int32)), .unset] [])) t → Steps p.tables e below (s₁.setTop (entryFrame m #[(.ref a1), (.ref a2), (.ref a3), (.ref a4)] 8)) t := by
    intro t k
    refine pre251 _ ?_
    show Steps p.tables e below (s₁.setTop (mkF m 15 #[.val (.ref a1), .val (.ref a2), .val (.ref a3), .val (.ref a4), .val (.ref a1), .val (.int (2 : Int32)), .val (.int (0 : Int32)), .unset] [(.int (2 : Int32)), (.int (0 : Int32))])) _
    refine XS.icmpNo X0.here hx rfl (hb hby d10_15) rfl (tlt (by decide : (0 : Int32) < (2 : Int32))).2.1 ?_
    exact k
  have pre254 : ∀ t, Steps p.tables e below (s₁.setTop (mkF m 28 #[.val (.ref a1), .val (.ref a2), .val (.ref a3), .val (.ref a4), .val (.ref a1), .val (.int (2 : Int32)), .val (.int (0 : Int32)), .val (.ref wO)] [(.ref wO), (.ref a2)])) t → Steps p.tables e below (s₁.setTop (entryFrame m #[(.ref a1), (.ref a2), (.ref a3), (.ref a4)] 8)) t := by
    intro t k
    refine pre253 _ ?_
    show Steps p.tables e below (s₁.setTop (mkF m 18 #[.val (.ref a1), .val (.ref a2), .val (.ref a3), .val (.ref a4), .val (.ref a1), .val (.int (2 : Int32)), .val (.int (0 : Int32)), .unset] [])) _
    refine XS.aload X0.here hx rfl (hb hby d10_18) rfl rfl ?_
    show Steps p.tables e below (s₁.setTop (mkF m 20 #[.val (.ref a1), .val (.ref a2), .val (.ref a3), .val (.ref a4), .val (.ref a1), .val (.int (2 : Int32)), .val (.int (0 : Int32)), .unset] [(.ref a1)])) _
    refine XS.iload X0.here hx rfl (hb hby d10_20) rfl ?_
    show Steps p.tables e below (s₁.setTop (mkF m 22 #[.val (.ref a1), .val (.ref a2), .val (.ref a3), .val (.ref a4), .val (.ref a1), .val (.int (2 : Int32)), .val (.int (0 : Int32)), .unset] [(.int (0 : Int32)), (.ref a1)])) _
    refine X0.aaload hx (j := (0 : Int32)) (v := (.ref wO)) (by rw [e0]; exact Ar1.1) (State.isArrayOf_alike hZ.alike Ar1.2.1) rfl Ar1.2.2 (inb_of S1 ⟨by decide, by decide⟩) (Has.at (v := (.ref wO)) H1 (inb_of S1 ⟨by decide, by decide⟩) rfl) (g := (mkF m 22 #[.val (.ref a1), .val (.ref a2), .val (.ref a3), .val (.ref a4), .val (.ref a1), .val (.int (2 : Int32)), .val (.int (0 : Int32)), .unset] [(.int (0 : Int32)), (.ref a1)])) rfl rfl (hb hby d10_22) _ ?_
    show Steps p.tables e below (s₁.setTop (mkF m 23 #[.val (.ref a1), .val (.ref a2), .val (.ref a3), .val (.ref a4), .val (.ref a1), .val (.int (2 : Int32)), .val (.int (0 : Int32)), .unset] [(.ref wO)])) _
    refine XS.astore X0.here hx rfl (hb hby d10_23) rfl rfl (l' := #[.val (.ref a1), .val (.ref a2), .val (.ref a3), .val (.ref a4), .val (.ref a1), .val (.int (2 : Int32)), .val (.int (0 : Int32)), .val (.ref wO)]) rfl ?_
    show Steps p.tables e below (s₁.setTop (mkF m 25 #[.val (.ref a1), .val (.ref a2), .val (.ref a3), .val (.ref a4), .val (.ref a1), .val (.int (2 : Int32)), .val (.int (0 : Int32)), .val (.ref wO)] [])) _
    refine XS.aloadN X0.here hx rfl (hb hby d10_25) rfl rfl ?_
    show Steps p.tables e below (s₁.setTop (mkF m 26 #[.val (.ref a1), .val (.ref a2), .val (.ref a3), .val (.ref a4), .val (.ref a1), .val (.int (2 : Int32)), .val (.int (0 : Int32)), .val (.ref wO)] [(.ref a2)])) _
    refine XS.aload X0.here hx rfl (hb hby d10_26) rfl rfl ?_
    exact k
  obtain ⟨T255, L255, X255, N255q, e255, st255⟩ := own_apply X0 hx hZ hw hown e0 Z0 M FA E_wO F_wO_label (g := (mkF m 28 #[.val (.ref a1), .val (.ref a2), .val (.ref a3), .val (.ref a4), .val (.ref a1), .val (.int (2 : Int32)), .val (.int (0 : Int32)), .val (.ref wO)] [(.ref wO), (.ref a2)])) rfl (by rw [hml]; rfl) rfl (hb hby d10_28) (by decide) (W := 0) (by show 2 * 0 + _ ≤ _; exact Nat.le_of_eq rfl) (by decide) (by decide) (by decide)
  have N255 := Fr.app N0 N255q
  have pre256 : ∀ t, Steps p.tables e below (T255.setTop (mkF m 33 #[.val (.ref a1), .val (.ref a2), .val (.ref a3), .val (.ref a4), .val (.ref a1), .val (.int (2 : Int32)), .val (.int (0 : Int32)), .val (.ref wO)] [(.ref wO_label)])) t → Steps p.tables e below (s₁.setTop (entryFrame m #[(.ref a1), (.ref a2), (.ref a3), (.ref a4)] 8)) t := by
    intro t k
    refine pre254 _ ?_
    show Steps p.tables e below (s₁.setTop (mkF m 28 #[.val (.ref a1), .val (.ref a2), .val (.ref a3), .val (.ref a4), .val (.ref a1), .val (.int (2 : Int32)), .val (.int (0 : Int32)), .val (.ref wO)] [(.ref wO), (.ref a2)])) _
    refine st255 _ ?_
    exact k
  obtain ⟨T257, X257, e257, st257⟩ := castY X255 hx hZ hown (hw _ (List.mem_of_getElem? (i := 80) rfl)) e255 (Ins.self E_wO_label) (g := (mkF m 33 #[.val (.ref a1), .val (.ref a2), .val (.ref a3), .val (.ref a4), .val (.ref a1), .val (.int (2 : Int32)), .val (.int (0 : Int32)), .val (.ref wO)] [(.ref wO_label)])) rfl rfl (hb hby d10_33)
  have pre258 : ∀ t, Steps p.tables e below (T257.setTop (mkF m 36 #[.val (.ref a1), .val (.ref a2), .val (.ref a3), .val (.ref a4), .val (.ref a1), .val (.int (2 : Int32)), .val (.int (0 : Int32)), .val (.ref wO)] [(.ref wO_label)])) t → Steps p.tables e below (s₁.setTop (entryFrame m #[(.ref a1), (.ref a2), (.ref a3), (.ref a4)] 8)) t := by
    intro t k
    refine pre256 _ ?_
    show Steps p.tables e below (T255.setTop (mkF m 33 #[.val (.ref a1), .val (.ref a2), .val (.ref a3), .val (.ref a4), .val (.ref a1), .val (.int (2 : Int32)), .val (.int (0 : Int32)), .val (.ref wO)] [(.ref wO_label)])) _
    refine st257 _ ?_
    exact k
  have pre259 : ∀ t, Steps p.tables e below (T257.setTop (mkF m 37 #[.val (.ref a1), .val (.ref a2), .val (.ref a3), .val (.ref a4), .val (.ref a1), .val (.int (2 : Int32)), .val (.int (0 : Int32)), .val (.ref wO)] [(.ref a4), (.ref wO_label)])) t → Steps p.tables e below (s₁.setTop (entryFrame m #[(.ref a1), (.ref a2), (.ref a3), (.ref a4)] 8)) t := by
    intro t k
    refine pre258 _ ?_
    show Steps p.tables e below (T257.setTop (mkF m 36 #[.val (.ref a1), .val (.ref a2), .val (.ref a3), .val (.ref a4), .val (.ref a1), .val (.int (2 : Int32)), .val (.int (0 : Int32)), .val (.ref wO)] [(.ref wO_label)])) _
    refine XS.aloadN X257.here hx rfl (hb hby d10_36) rfl rfl ?_
    exact k
  obtain ⟨cq260, kq260, q260a, q260b, q260c⟩ := isOf hZ e257 E_wO_label
  obtain ⟨_, _, ⟨T260, L260, k260, n260⟩, -, X260, ⟨Lc260, hQ260, l260, y260, z260⟩, st260⟩ := X257.virtualBack hx (y := (⟨"java/lang/String", "equals", "(Ljava/lang/Object;)Z"⟩ : MethodName)) (z := (⟨"java/lang/String", "equals", "(Ljava/lang/Object;)Z"⟩ : MethodName)) hown (mvT hZ (hw _ (List.mem_of_getElem? (i := 81) rfl))) (mvT hZ (hw _ (List.mem_of_getElem? (i := 82) rfl))) (notFace_of_selects (args := #[]) (mvT hZ (hw _ (List.mem_of_getElem? (i := 84) rfl)))) (mvT hZ (hw _ (List.mem_of_getElem? (i := 84) rfl))) (mvT hZ (hw _ (List.mem_of_getElem? (i := 83) rfl))) (by decide) (backOf (W := 0) (rm12os l Z a0 hw [] wO_label a4 wO_label_value tV k_wO kt pC h0 n0 Z0 E_a4 F_wO_label_coder F_a4_coder F_wO_label_value F_a4_value V_wO V_t hpc (Fld.ne F_wO_label_value F_a4_value (fun q => own_len_ne V_wO V_t (by decide) (Value.ref.inj q))) S_pC) hZ (hw _ (List.mem_of_getElem? (i := 85) rfl)) (hw _ (List.mem_of_getElem? (i := 7) rfl)) (by decide) (by decide)) q260a q260c (g := (mkF m 37 #[.val (.ref a1), .val (.ref a2), .val (.ref a3), .val (.ref a4), .val (.ref a1), .val (.int (2 : Int32)), .val (.int (0 : Int32)), .val (.ref wO)] [(.ref a4), (.ref wO_label)])) rfl (by rw [hml]; rfl) (Steps.refl _) (argsL := [(.ref a4)]) (rest := []) (lenOf pd__Ljava_lang_Object__Z rfl) rfl (by show 2 * 0 + _ ≤ _; exact Nat.le_of_eq rfl) (hb hby d10_37) (fun _ _ => ⟨rfl, e257, (by decide : 0 + 0 ≤ _), (by decide : 0 + 0 ≤ _)⟩)
  dsimp only [Pt.U, Pt.locs, Pt.cells, Pt.slots] at X260 l260 y260 z260 st260 hQ260
  subst l260 y260 z260
  obtain ⟨rfl, N260q, e260⟩ := hQ260
  have N260 := Fr.app N255 N260q
  have pre261 : ∀ t, Steps p.tables e below (T260.setTop (mkF m 40 #[.val (.ref a1), .val (.ref a2), .val (.ref a3), .val (.ref a4), .val (.ref a1), .val (.int (2 : Int32)), .val (.int (0 : Int32)), .val (.ref wO)] [(.int (0 : Int32))])) t → Steps p.tables e below (s₁.setTop (entryFrame m #[(.ref a1), (.ref a2), (.ref a3), (.ref a4)] 8)) t := by
    intro t k
    refine pre259 _ ?_
    show Steps p.tables e below (T257.setTop (mkF m 37 #[.val (.ref a1), .val (.ref a2), .val (.ref a3), .val (.ref a4), .val (.ref a1), .val (.int (2 : Int32)), .val (.int (0 : Int32)), .val (.ref wO)] [(.ref a4), (.ref wO_label)])) _
    refine st260.trans ?_
    exact k
  have pre263 : ∀ t, Steps p.tables e below (T260.setTop (mkF m 46 #[.val (.ref a1), .val (.ref a2), .val (.ref a3), .val (.ref a4), .val (.ref a1), .val (.int (2 : Int32)), .val (.int (0 : Int32)), .val (.ref wO)] [])) t → Steps p.tables e below (s₁.setTop (entryFrame m #[(.ref a1), (.ref a2), (.ref a3), (.ref a4)] 8)) t := by
    intro t k
    refine pre261 _ ?_
    show Steps p.tables e below (T260.setTop (mkF m 40 #[.val (.ref a1), .val (.ref a2), .val (.ref a3), .val (.ref a4), .val (.ref a1), .val (.int (2 : Int32)), .val (.int (0 : Int32)), .val (.ref wO)] [(.int (0 : Int32))])) _
    refine XS.ifYes X260.here hx rfl (pc0 := 40) (pc' := 46) rfl (hb hby d10_40) rfl ((if0 _ _).trans (teq (rfl : (0 : Int32) = (0 : Int32))).1) (by decide) (by decide) ?_
    exact k
  have pre264 : ∀ t, Steps p.tables e below (T260.setTop (mkF m 15 #[.val (.ref a1), .val (.ref a2), .val (.ref a3), .val (.ref a4), .val (.ref a1), .val (.int (2 : Int32)), .val (.int (1 : Int32)), .val (.ref wO)] [(.int (2 : Int32)), (.int (1 : Int32))])) t → Steps p.tables e below (s₁.setTop (entryFrame m #[(.ref a1), (.ref a2), (.ref a3), (.ref a4)] 8)) t := by
    intro t k
    refine pre263 _ ?_
    show Steps p.tables e below (T260.setTop (mkF m 46 #[.val (.ref a1), .val (.ref a2), .val (.ref a3), .val (.ref a4), .val (.ref a1), .val (.int (2 : Int32)), .val (.int (0 : Int32)), .val (.ref wO)] [])) _
    refine XS.iinc X260.here hx rfl (hb hby d10_46) rfl (l' := #[.val (.ref a1), .val (.ref a2), .val (.ref a3), .val (.ref a4), .val (.ref a1), .val (.int (2 : Int32)), .val (.int (1 : Int32)), .val (.ref wO)]) rfl ?_
    show Steps p.tables e below (T260.setTop (mkF m 49 #[.val (.ref a1), .val (.ref a2), .val (.ref a3), .val (.ref a4), .val (.ref a1), .val (.int (2 : Int32)), .val (.int (1 : Int32)), .val (.ref wO)] [])) _
    refine XS.goto X260.here hx rfl (pc0 := 49) (pc' := 11) rfl (hb hby d10_49) (by decide) (by decide) ?_
    show Steps p.tables e below (T260.setTop (mkF m 11 #[.val (.ref a1), .val (.ref a2), .val (.ref a3), .val (.ref a4), .val (.ref a1), .val (.int (2 : Int32)), .val (.int (1 : Int32)), .val (.ref wO)] [])) _
    refine XS.iload X260.here hx rfl (hb hby d10_11) rfl ?_
    show Steps p.tables e below (T260.setTop (mkF m 13 #[.val (.ref a1), .val (.ref a2), .val (.ref a3), .val (.ref a4), .val (.ref a1), .val (.int (2 : Int32)), .val (.int (1 : Int32)), .val (.ref wO)] [(.int (1 : Int32))])) _
    refine XS.iload X260.here hx rfl (hb hby d10_13) rfl ?_
    exact k
  have pre266 : ∀ t, Steps p.tables e below (T260.setTop (mkF m 18 #[.val (.ref a1), .val (.ref a2), .val (.ref a3), .val (.ref a4), .val (.ref a1), .val (.int (2 : Int32)), .val (.int (1 : Int32)), .val (.ref wO)] [])) t → Steps p.tables e below (s₁.setTop (entryFrame m #[(.ref a1), (.ref a2), (.ref a3), (.ref a4)] 8)) t := by
    intro t k
    refine pre264 _ ?_
    show Steps p.tables e below (T260.setTop (mkF m 15 #[.val (.ref a1), .val (.ref a2), .val (.ref a3), .val (.ref a4), .val (.ref a1), .val (.int (2 : Int32)), .val (.int (1 : Int32)), .val (.ref wO)] [(.int (2 : Int32)), (.int (1 : Int32))])) _
    refine XS.icmpNo X260.here hx rfl (hb hby d10_15) rfl (tlt (by decide : (1 : Int32) < (2 : Int32))).2.1 ?_
    exact k
  have pre267 : ∀ t, Steps p.tables e below (T260.setTop (mkF m 28 #[.val (.ref a1), .val (.ref a2), .val (.ref a3), .val (.ref a4), .val (.ref a1), .val (.int (2 : Int32)), .val (.int (1 : Int32)), .val (.ref wS)] [(.ref wS), (.ref a2)])) t → Steps p.tables e below (s₁.setTop (entryFrame m #[(.ref a1), (.ref a2), (.ref a3), (.ref a4)] 8)) t := by
    intro t k
    refine pre266 _ ?_
    show Steps p.tables e below (T260.setTop (mkF m 18 #[.val (.ref a1), .val (.ref a2), .val (.ref a3), .val (.ref a4), .val (.ref a1), .val (.int (2 : Int32)), .val (.int (1 : Int32)), .val (.ref wO)] [])) _
    refine XS.aload X260.here hx rfl (hb hby d10_18) rfl rfl ?_
    show Steps p.tables e below (T260.setTop (mkF m 20 #[.val (.ref a1), .val (.ref a2), .val (.ref a3), .val (.ref a4), .val (.ref a1), .val (.int (2 : Int32)), .val (.int (1 : Int32)), .val (.ref wO)] [(.ref a1)])) _
    refine XS.iload X260.here hx rfl (hb hby d10_20) rfl ?_
    show Steps p.tables e below (T260.setTop (mkF m 22 #[.val (.ref a1), .val (.ref a2), .val (.ref a3), .val (.ref a4), .val (.ref a1), .val (.int (2 : Int32)), .val (.int (1 : Int32)), .val (.ref wO)] [(.int (1 : Int32)), (.ref a1)])) _
    refine X260.aaload hx (j := (1 : Int32)) (v := (.ref wS)) (by rw [e260]; exact Ar1.1) (State.isArrayOf_alike hZ.alike Ar1.2.1) rfl Ar1.2.2 (inb_of S1 ⟨by decide, by decide⟩) (Has.at (v := (.ref wS)) H1 (inb_of S1 ⟨by decide, by decide⟩) rfl) (g := (mkF m 22 #[.val (.ref a1), .val (.ref a2), .val (.ref a3), .val (.ref a4), .val (.ref a1), .val (.int (2 : Int32)), .val (.int (1 : Int32)), .val (.ref wO)] [(.int (1 : Int32)), (.ref a1)])) rfl rfl (hb hby d10_22) _ ?_
    show Steps p.tables e below (T260.setTop (mkF m 23 #[.val (.ref a1), .val (.ref a2), .val (.ref a3), .val (.ref a4), .val (.ref a1), .val (.int (2 : Int32)), .val (.int (1 : Int32)), .val (.ref wO)] [(.ref wS)])) _
    refine XS.astore X260.here hx rfl (hb hby d10_23) rfl rfl (l' := #[.val (.ref a1), .val (.ref a2), .val (.ref a3), .val (.ref a4), .val (.ref a1), .val (.int (2 : Int32)), .val (.int (1 : Int32)), .val (.ref wS)]) rfl ?_
    show Steps p.tables e below (T260.setTop (mkF m 25 #[.val (.ref a1), .val (.ref a2), .val (.ref a3), .val (.ref a4), .val (.ref a1), .val (.int (2 : Int32)), .val (.int (1 : Int32)), .val (.ref wS)] [])) _
    refine XS.aloadN X260.here hx rfl (hb hby d10_25) rfl rfl ?_
    show Steps p.tables e below (T260.setTop (mkF m 26 #[.val (.ref a1), .val (.ref a2), .val (.ref a3), .val (.ref a4), .val (.ref a1), .val (.int (2 : Int32)), .val (.int (1 : Int32)), .val (.ref wS)] [(.ref a2)])) _
    refine XS.aload X260.here hx rfl (hb hby d10_26) rfl rfl ?_
    exact k
  obtain ⟨T268, L268, X268, N268q, e268, st268⟩ := own_apply X260 hx hZ hw hown e260 Z0 M FA E_wS F_wS_label (g := (mkF m 28 #[.val (.ref a1), .val (.ref a2), .val (.ref a3), .val (.ref a4), .val (.ref a1), .val (.int (2 : Int32)), .val (.int (1 : Int32)), .val (.ref wS)] [(.ref wS), (.ref a2)])) rfl (by rw [hml]; rfl) rfl (hb hby d10_28) (by decide) (W := 0) (by show 2 * 0 + _ ≤ _; exact Nat.le_of_eq rfl) (by decide) (by decide) (by decide)
  have N268 := Fr.app N260 N268q
  have pre269 : ∀ t, Steps p.tables e below (T268.setTop (mkF m 33 #[.val (.ref a1), .val (.ref a2), .val (.ref a3), .val (.ref a4), .val (.ref a1), .val (.int (2 : Int32)), .val (.int (1 : Int32)), .val (.ref wS)] [(.ref wS_label)])) t → Steps p.tables e below (s₁.setTop (entryFrame m #[(.ref a1), (.ref a2), (.ref a3), (.ref a4)] 8)) t := by
    intro t k
    refine pre267 _ ?_
    show Steps p.tables e below (T260.setTop (mkF m 28 #[.val (.ref a1), .val (.ref a2), .val (.ref a3), .val (.ref a4), .val (.ref a1), .val (.int (2 : Int32)), .val (.int (1 : Int32)), .val (.ref wS)] [(.ref wS), (.ref a2)])) _
    refine st268 _ ?_
    exact k
  obtain ⟨T270, X270, e270, st270⟩ := castY X268 hx hZ hown (hw _ (List.mem_of_getElem? (i := 80) rfl)) e268 (Ins.self E_wS_label) (g := (mkF m 33 #[.val (.ref a1), .val (.ref a2), .val (.ref a3), .val (.ref a4), .val (.ref a1), .val (.int (2 : Int32)), .val (.int (1 : Int32)), .val (.ref wS)] [(.ref wS_label)])) rfl rfl (hb hby d10_33)
  have pre271 : ∀ t, Steps p.tables e below (T270.setTop (mkF m 36 #[.val (.ref a1), .val (.ref a2), .val (.ref a3), .val (.ref a4), .val (.ref a1), .val (.int (2 : Int32)), .val (.int (1 : Int32)), .val (.ref wS)] [(.ref wS_label)])) t → Steps p.tables e below (s₁.setTop (entryFrame m #[(.ref a1), (.ref a2), (.ref a3), (.ref a4)] 8)) t := by
    intro t k
    refine pre269 _ ?_
    show Steps p.tables e below (T268.setTop (mkF m 33 #[.val (.ref a1), .val (.ref a2), .val (.ref a3), .val (.ref a4), .val (.ref a1), .val (.int (2 : Int32)), .val (.int (1 : Int32)), .val (.ref wS)] [(.ref wS_label)])) _
    refine st270 _ ?_
    exact k
  have pre272 : ∀ t, Steps p.tables e below (T270.setTop (mkF m 37 #[.val (.ref a1), .val (.ref a2), .val (.ref a3), .val (.ref a4), .val (.ref a1), .val (.int (2 : Int32)), .val (.int (1 : Int32)), .val (.ref wS)] [(.ref a4), (.ref wS_label)])) t → Steps p.tables e below (s₁.setTop (entryFrame m #[(.ref a1), (.ref a2), (.ref a3), (.ref a4)] 8)) t := by
    intro t k
    refine pre271 _ ?_
    show Steps p.tables e below (T270.setTop (mkF m 36 #[.val (.ref a1), .val (.ref a2), .val (.ref a3), .val (.ref a4), .val (.ref a1), .val (.int (2 : Int32)), .val (.int (1 : Int32)), .val (.ref wS)] [(.ref wS_label)])) _
    refine XS.aloadN X270.here hx rfl (hb hby d10_36) rfl rfl ?_
    exact k
  obtain ⟨cq273, kq273, q273a, q273b, q273c⟩ := isOf hZ e270 E_wS_label
  obtain ⟨_, _, ⟨T273, L273, k273, n273⟩, -, X273, ⟨Lc273, hQ273, l273, y273, z273⟩, st273⟩ := X270.virtualBack hx (y := (⟨"java/lang/String", "equals", "(Ljava/lang/Object;)Z"⟩ : MethodName)) (z := (⟨"java/lang/String", "equals", "(Ljava/lang/Object;)Z"⟩ : MethodName)) hown (mvT hZ (hw _ (List.mem_of_getElem? (i := 81) rfl))) (mvT hZ (hw _ (List.mem_of_getElem? (i := 82) rfl))) (notFace_of_selects (args := #[]) (mvT hZ (hw _ (List.mem_of_getElem? (i := 84) rfl)))) (mvT hZ (hw _ (List.mem_of_getElem? (i := 84) rfl))) (mvT hZ (hw _ (List.mem_of_getElem? (i := 83) rfl))) (by decide) (backOf (W := 0) (rm12ss l Z a0 hw [] wS_label a4 wS_label_value tV k_wS kt pC h0 n0 Z0 E_a4 F_wS_label_coder F_a4_coder F_wS_label_value F_a4_value V_wS V_t hpc S_pC) hZ (hw _ (List.mem_of_getElem? (i := 85) rfl)) (hw _ (List.mem_of_getElem? (i := 7) rfl)) (by decide) (by decide)) q273a q273c (g := (mkF m 37 #[.val (.ref a1), .val (.ref a2), .val (.ref a3), .val (.ref a4), .val (.ref a1), .val (.int (2 : Int32)), .val (.int (1 : Int32)), .val (.ref wS)] [(.ref a4), (.ref wS_label)])) rfl (by rw [hml]; rfl) (Steps.refl _) (argsL := [(.ref a4)]) (rest := []) (lenOf pd__Ljava_lang_Object__Z rfl) rfl (by show 2 * 0 + _ ≤ _; exact Nat.le_of_eq rfl) (hb hby d10_37) (fun _ _ => ⟨rfl, e270, (by decide : 0 + 0 ≤ _), (by decide : 0 + 0 ≤ _)⟩)
  dsimp only [Pt.U, Pt.locs, Pt.cells, Pt.slots] at X273 l273 y273 z273 st273 hQ273
  subst l273 y273 z273
  obtain ⟨rfl, N273q, e273⟩ := hQ273
  have N273 := Fr.app N268 N273q
  have pre274 : ∀ t, Steps p.tables e below (T273.setTop (mkF m 40 #[.val (.ref a1), .val (.ref a2), .val (.ref a3), .val (.ref a4), .val (.ref a1), .val (.int (2 : Int32)), .val (.int (1 : Int32)), .val (.ref wS)] [(.int (1 : Int32))])) t → Steps p.tables e below (s₁.setTop (entryFrame m #[(.ref a1), (.ref a2), (.ref a3), (.ref a4)] 8)) t := by
    intro t k
    refine pre272 _ ?_
    show Steps p.tables e below (T270.setTop (mkF m 37 #[.val (.ref a1), .val (.ref a2), .val (.ref a3), .val (.ref a4), .val (.ref a1), .val (.int (2 : Int32)), .val (.int (1 : Int32)), .val (.ref wS)] [(.ref a4), (.ref wS_label)])) _
    refine st273.trans ?_
    exact k
  have pre276 : ∀ t, Steps p.tables e below (T273.setTop (mkF m 43 #[.val (.ref a1), .val (.ref a2), .val (.ref a3), .val (.ref a4), .val (.ref a1), .val (.int (2 : Int32)), .val (.int (1 : Int32)), .val (.ref wS)] [])) t → Steps p.tables e below (s₁.setTop (entryFrame m #[(.ref a1), (.ref a2), (.ref a3), (.ref a4)] 8)) t := by
    intro t k
    refine pre274 _ ?_
    show Steps p.tables e below (T273.setTop (mkF m 40 #[.val (.ref a1), .val (.ref a2), .val (.ref a3), .val (.ref a4), .val (.ref a1), .val (.int (2 : Int32)), .val (.int (1 : Int32)), .val (.ref wS)] [(.int (1 : Int32))])) _
    refine XS.ifNo X273.here hx rfl (hb hby d10_40) rfl ((if0 _ _).trans (feq (by decide : ¬ ((1 : Int32) = (0 : Int32)))).1) ?_
    exact k
  have pre277 : ∀ t, Steps p.tables e below (T273.setTop (mkF m 45 #[.val (.ref a1), .val (.ref a2), .val (.ref a3), .val (.ref a4), .val (.ref a1), .val (.int (2 : Int32)), .val (.int (1 : Int32)), .val (.ref wS)] [(.ref wS)])) t → Steps p.tables e below (s₁.setTop (entryFrame m #[(.ref a1), (.ref a2), (.ref a3), (.ref a4)] 8)) t := by
    intro t k
    refine pre276 _ ?_
    show Steps p.tables e below (T273.setTop (mkF m 43 #[.val (.ref a1), .val (.ref a2), .val (.ref a3), .val (.ref a4), .val (.ref a1), .val (.int (2 : Int32)), .val (.int (1 : Int32)), .val (.ref wS)] [])) _
    refine XS.aload X273.here hx rfl (hb hby d10_43) rfl rfl ?_
    exact k
  obtain ⟨fs, hr, hrun, hended, hW, hsame⟩ := X273.leave (v := some (.ref wS)) (fun h => by rw [hret] at h; cases h) (hlocks := hlocks)
  refine ⟨_, _, pre277 _ ?_, hrun, hended, _, _, rfl, ?_, ⟨_, rfl⟩, hW, hsame.mono (by decide) (by decide)⟩
  · show Steps p.tables e below (T273.setTop (mkF m 45 #[.val (.ref a1), .val (.ref a2), .val (.ref a3), .val (.ref a4), .val (.ref a1), .val (.int (2 : Int32)), .val (.int (1 : Int32)), .val (.ref wS)] [(.ref wS)])) _
    exact Jvm.RoadKit.retOut X273 hx hret rfl (Or.inr (Or.inr (Or.inr (Or.inr ⟨rfl, rfl, rfl⟩)))) (hb hby d10_45) hr
  · show Q10s Z a1 a2 a3 a4 cK kV wO wS wO_label wO_label_value k_wO wS_label wS_label_value k_wS tV kt pC h0 n0 _ T273.heap _
    rw [e273]
    exact ⟨rfl, N273, rfl⟩
theorem d4_0 : decode prog_7_method_7_code 0 = .ok (.aload_n 0, 1) := by decide +kernel
theorem d4_1 : decode prog_7_method_7_code 1 = .ok (.invokevirtual 40, 3) := by decide +kernel
theorem pd___Z : parseMethodDescriptor "()Z" = some ⟨[], some .boolean⟩ := by decide +kernel
theorem d4_4 : decode prog_7_method_7_code 4 = .ok (.ifCond .eq 9, 3) := by decide +kernel
theorem d4_7 : decode prog_7_method_7_code 7 = .ok (.getstatic 3, 3) := by decide +kernel
theorem d4_10 : decode prog_7_method_7_code 10 = .ok (.goto 20, 3) := by decide +kernel
theorem d4_30 : decode prog_7_method_7_code 30 = .ok (.areturn, 1) := by decide +kernel
theorem ef_4e (m : MethodId) (x0 : Addr) : entryFrame m #[(.ref x0)] 1 = mkF m 0 #[.val (.ref x0)] [] := by first | (simp [entryFrame, mkF, argsToLocals, Value.category]; done) | rfl
def Q4e (Z : State) (a1 : Addr) (tV : Addr) (kt : ClassId) (wO : Addr) (h0 : Heap) (n0 : Nat) (v : Option Value) (h : Heap) (L : List Loc) : Prop := v = some (.ref wO) ∧ Fr n0 L ∧ h = h0
set_option maxRecDepth 65536 in
set_option maxHeartbeats 40000000 in
theorem rm4e (l : Launch) (Z : State) (a0 : Array Value) (hw : ∀ d ∈ tables_1, d.before a0 Z = true) (ws : List Jvm.Cond) (a1 : Addr) (tV : Addr) (kt : ClassId) (wO : Addr) (h0 : Heap) (n0 : Nat) (Z0 : n0 ≤ h0.size) (E_a1 : Exa Z h0 a1 "java/lang/String") (F_a1_value : Fld Z h0 a1 "java/lang/String" "value" "[B" (.ref tV)) (V_t : Arv Z h0 tV kt .byte (0 : Int32) [] (.int (0 : Int32))) (S_wO : Sta Z h0 "com/example/matchbook/matchbook/Pricing" "ON_DEMAND" "Lcom/example/matchbook/matchbook/Pricing;" (.ref wO)) :
    MetFree l (⟨"com/example/matchbook/matchbook/Pricing", "parse", "(Ljava/lang/String;)Lcom/example/matchbook/matchbook/Pricing;"⟩ : MethodName) (head1 (Jvm.Cond.code (⟨"com/example/matchbook/matchbook/Pricing", "parse", "(Ljava/lang/String;)Lcom/example/matchbook/matchbook/Pricing;"⟩ : MethodName) prog_7_method_7_code 1 (some (.object "com/example/matchbook/matchbook/Pricing")) :: ws) ({ frames := 1, cells := 0, slots := 0, locals := 12 } : Room)) (fun a U => a = #[(.ref a1)] ∧ Z.Warmed39 U.vm ∧ U.heap = h0) (fun _ _ _ _ _ => True) (fun _ U o U' => ∃ v L, o = .returned v ∧ Q4e Z a1 tV kt wO h0 n0 v U'.heap L ∧ FrameEnd U o U' L ({ frames := 1, cells := 0, slots := 0, locals := 12 } : Room).cells ({ frames := 1, cells := 0, slots := 0, locals := 12 } : Room).slots) := by
  refine MetFree.of_bodySF (plainFor_of_name pn_11) hisR ?_
  intro p e s m args below meth c s₁ Bd hml0 hP hK
  obtain ⟨rfl, hZ, hh⟩ := hP
  have hx := Bd.exec
  have hby := Bd.bytes
  have hml : c.maxLocals = 1 := hml0
  have hown : s.vm.findClass "com/example/matchbook/matchbook/Pricing" = some m.cls := findClass_of_methodNamed Bd.named
  have hnm := (name_of_methodNamed Bd.named Bd.method).1
  have hret := Bd.returns
  have hlocks : meth.locks = false := Bd.notSynchronized
  have X0 : Stand p l e ({ frames := 1, cells := 0, slots := 0, locals := 12 } : Room) s m #[(.ref a1)] below meth c s₁ [] 0 0 := Stand.of_body Bd
  have e0 : s₁.heap = h0 := by rw [← hh, Bd.state]; rfl
  have N0 := Fr.nil n0
  have pre0 : ∀ t, Steps p.tables e below (s₁.setTop (mkF m 0 #[.val (.ref a1)] [])) t → Steps p.tables e below (s₁.setTop (entryFrame m #[(.ref a1)] 1)) t := fun t k => castTop (ef_4e m a1) k
  have pre278 : ∀ t, Steps p.tables e below (s₁.setTop (mkF m 1 #[.val (.ref a1)] [(.ref a1)])) t → Steps p.tables e below (s₁.setTop (entryFrame m #[(.ref a1)] 1)) t := by
    intro t k
    refine pre0 _ ?_
    show Steps p.tables e below (s₁.setTop (mkF m 0 #[.val (.ref a1)] [])) _
    refine XS.aloadN X0.here hx rfl (hb hby d4_0) rfl rfl ?_
    exact k
  obtain ⟨cq279, kq279, q279a, q279b, q279c⟩ := isOf hZ e0 E_a1
  obtain ⟨_, _, ⟨T279, L279, k279, n279⟩, -, X279, ⟨Lc279, hQ279, l279, y279, z279⟩, st279⟩ := X0.virtualBack hx (y := (⟨"java/lang/String", "isEmpty", "()Z"⟩ : MethodName)) (z := (⟨"java/lang/String", "isEmpty", "()Z"⟩ : MethodName)) hown (mvT hZ (hw _ (List.mem_of_getElem? (i := 29) rfl))) (mvT hZ (hw _ (List.mem_of_getElem? (i := 30) rfl))) (notFace_of_selects (args := #[]) (mvT hZ (hw _ (List.mem_of_getElem? (i := 32) rfl)))) (mvT hZ (hw _ (List.mem_of_getElem? (i := 32) rfl))) (mvT hZ (hw _ (List.mem_of_getElem? (i := 31) rfl))) (by decide) (backOf (W := 0) (rm5e l Z a0 hw [] a1 tV kt [] (.int (0 : Int32)) h0 n0 Z0 F_a1_value V_t) hZ (hw _ (List.mem_of_getElem? (i := 33) rfl)) (hw _ (List.mem_of_getElem? (i := 7) rfl)) (by decide) (by decide)) q279a q279c (g := (mkF m 1 #[.val (.ref a1)] [(.ref a1)])) rfl (by rw [hml]; rfl) (Steps.refl _) (argsL := []) (rest := []) (lenOf pd___Z rfl) rfl (by show 2 * 0 + _ ≤ _; exact Nat.le_of_eq rfl) (hb hby d4_1) (fun _ _ => ⟨rfl, e0, (by decide : 0 + 0 ≤ _), (by decide : 0 + 0 ≤ _)⟩)
  dsimp only [Pt.U, Pt.locs, Pt.cells, Pt.slots] at X279 l279 y279 z279 st279 hQ279
  subst l279 y279 z279
  obtain ⟨rfl, N279q, e279⟩ := hQ279
  have N279 := Fr.app N0 N279q
  have pre280 : ∀ t, Steps p.tables e below (T279.setTop (mkF m 4 #[.val (.ref a1)] [(.int (1 : Int32))])) t → Steps p.tables e below (s₁.setTop (entryFrame m #[(.ref a1)] 1)) t := by
    intro t k
    refine pre278 _ ?_
    show Steps p.tables e below (s₁.setTop (mkF m 1 #[.val (.ref a1)] [(.ref a1)])) _
    refine st279.trans ?_
    exact k
  have pre282 : ∀ t, Steps p.tables e below (T279.setTop (mkF m 7 #[.val (.ref a1)] [])) t → Steps p.tables e below (s₁.setTop (entryFrame m #[(.ref a1)] 1)) t := by
    intro t k
    refine pre280 _ ?_
    show Steps p.tables e below (T279.setTop (mkF m 4 #[.val (.ref a1)] [(.int (1 : Int32))])) _
    refine XS.ifNo X279.here hx rfl (hb hby d4_4) rfl ((if0 _ _).trans (feq (by decide : ¬ ((1 : Int32) = (0 : Int32)))).1) ?_
    exact k
  obtain ⟨T283, X283, e283, st283⟩ := getS2 X279 hx hZ hown (host := "") (Or.inl (hw _ (List.mem_of_getElem? (i := 34) rfl))) Via.refl e279 S_wO (g := (mkF m 7 #[.val (.ref a1)] [])) rfl (hb hby d4_7)
  have pre284 : ∀ t, Steps p.tables e below (T283.setTop (mkF m 10 #[.val (.ref a1)] [(.ref wO)])) t → Steps p.tables e below (s₁.setTop (entryFrame m #[(.ref a1)] 1)) t := by
    intro t k
    refine pre282 _ ?_
    show Steps p.tables e below (T279.setTop (mkF m 7 #[.val (.ref a1)] [])) _
    refine st283 _ ?_
    exact k
  have pre285 : ∀ t, Steps p.tables e below (T283.setTop (mkF m 30 #[.val (.ref a1)] [(.ref wO)])) t → Steps p.tables e below (s₁.setTop (entryFrame m #[(.ref a1)] 1)) t := by
    intro t k
    refine pre284 _ ?_
    show Steps p.tables e below (T283.setTop (mkF m 10 #[.val (.ref a1)] [(.ref wO)])) _
    refine XS.goto X283.here hx rfl (pc0 := 10) (pc' := 30) rfl (hb hby d4_10) (by decide) (by decide) ?_
    exact k
  obtain ⟨fs, hr, hrun, hended, hW, hsame⟩ := X283.leave (v := some (.ref wO)) (fun h => by rw [hret] at h; cases h) (hlocks := hlocks)
  refine ⟨_, _, pre285 _ ?_, hrun, hended, _, _, rfl, ?_, ⟨_, rfl⟩, hW, hsame.mono (by decide) (by decide)⟩
  · show Steps p.tables e below (T283.setTop (mkF m 30 #[.val (.ref a1)] [(.ref wO)])) _
    exact Jvm.RoadKit.retOut X283 hx hret rfl (Or.inr (Or.inr (Or.inr (Or.inr ⟨rfl, rfl, rfl⟩)))) (hb hby d4_30) hr
  · show Q4e Z a1 tV kt wO h0 n0 _ T283.heap _
    rw [e283]
    exact ⟨rfl, N279, rfl⟩
theorem d2_0 : decode jdk_42_method_149_code 0 = .ok (.aload_n 0, 1) := by decide +kernel
theorem d2_1 : decode jdk_42_method_149_code 1 = .ok (.invokespecial 1, 3) := by decide +kernel
theorem d2_4 : decode jdk_42_method_149_code 4 = .ok (.iload_n 3, 1) := by decide +kernel
theorem d2_5 : decode jdk_42_method_149_code 5 = .ok (.ifCond .ne 22, 3) := by decide +kernel
theorem d2_8 : decode jdk_42_method_149_code 8 = .ok (.aload_n 0, 1) := by decide +kernel
theorem d2_9 : decode jdk_42_method_149_code 9 = .ok (.ldc 7, 2) := by decide +kernel
theorem d2_11 : decode jdk_42_method_149_code 11 = .ok (.getfield 9, 3) := by decide +kernel
theorem d2_14 : decode jdk_42_method_149_code 14 = .ok (.putfield 9, 3) := by decide +kernel
theorem d2_17 : decode jdk_42_method_149_code 17 = .ok (.aload_n 0, 1) := by decide +kernel
theorem d2_18 : decode jdk_42_method_149_code 18 = .ok (.ldc 7, 2) := by decide +kernel
theorem d2_20 : decode jdk_42_method_149_code 20 = .ok (.getfield 15, 3) := by decide +kernel
theorem d2_23 : decode jdk_42_method_149_code 23 = .ok (.putfield 15, 3) := by decide +kernel
theorem d2_26 : decode jdk_42_method_149_code 26 = .ok (.return_, 1) := by decide +kernel
theorem ef_2e (m : MethodId) (x0 : Addr) (x1 : Addr) : entryFrame m #[(.ref x0), (.ref x1), (.int (0 : Int32)), (.int (0 : Int32)), .null] 6 = mkF m 0 #[.val (.ref x0), .val (.ref x1), .val (.int (0 : Int32)), .val (.int (0 : Int32)), .val .null, .unset] [] := by first | (simp [entryFrame, mkF, argsToLocals, Value.category]; done) | rfl
def Q2e (Z : State) (a1 : Addr) (a2 : Addr) (u1 : Value) (u2 : Value) (h0 : Heap) (n0 : Nat) (v : Option Value) (h : Heap) (L : List Loc) : Prop := v = none ∧ Fr n0 L ∧ Keep h0 h [a1] ∧ Exa Z h a1 "java/lang/String" ∧ ∃ (t : Addr) (kt : ClassId), Fld Z h a1 "java/lang/String" "value" "[B" (.ref t) ∧ Fld Z h a1 "java/lang/String" "coder" "B" (.int (0 : Int32)) ∧ Arv Z h t kt .byte (0 : Int32) [] (.int (0 : Int32))
set_option maxRecDepth 65536 in
set_option maxHeartbeats 40000000 in
theorem rm2e (l : Launch) (Z : State) (a0 : Array Value) (hw : ∀ d ∈ tables_1, d.before a0 Z = true) (ws : List Jvm.Cond) (a1 : Addr) (a2 : Addr) (u1 : Value) (u2 : Value) (h0 : Heap) (n0 : Nat) (Z0 : n0 ≤ h0.size) (E_a1 : Exa Z h0 a1 "java/lang/String") (F_value : Fld Z h0 a1 "java/lang/String" "value" "[B" .null) (F_coder : Fld Z h0 a1 "java/lang/String" "coder" "B" u2) (g_a1 : n0 ≤ a1) :
    MetFree l (⟨"java/lang/String", "<init>", "([CIILjava/lang/Void;)V"⟩ : MethodName) (head1 (Jvm.Cond.code (⟨"java/lang/String", "<init>", "([CIILjava/lang/Void;)V"⟩ : MethodName) jdk_42_method_149_code 6 none :: ws) ({ frames := 1, cells := 2, slots := 4, locals := 12 } : Room)) (fun a U => a = #[(.ref a1), (.ref a2), (.int (0 : Int32)), (.int (0 : Int32)), .null] ∧ Z.Warmed39 U.vm ∧ U.heap = h0 ∧ CHv Z own_EL U.vm h0) (fun _ _ _ _ _ => True) (fun _ U o U' => ∃ v L, o = .returned v ∧ Q2e Z a1 a2 u1 u2 h0 n0 v U'.heap L ∧ ReturnedEndW U o U' L ({ frames := 1, cells := 2, slots := 4, locals := 12 } : Room).cells ({ frames := 1, cells := 2, slots := 4, locals := 12 } : Room).slots) := by
  refine MetFree.of_bodySF (plainFor_of_name pn_12) hisR ?_
  intro p e s m args below meth c s₁ Bd hml0 hP hK
  obtain ⟨rfl, hZ, hh, hCH⟩ := hP
  have hx := Bd.exec
  have hby := Bd.bytes
  have hml : c.maxLocals = 6 := hml0
  have hown : s.vm.findClass "java/lang/String" = some m.cls := findClass_of_methodNamed Bd.named
  have hnm := (name_of_methodNamed Bd.named Bd.method).1
  have hret := Bd.returns
  have hlocks : meth.locks = false := Bd.notSynchronized
  have X0 : Stand p l e ({ frames := 1, cells := 2, slots := 4, locals := 12 } : Room) s m #[(.ref a1), (.ref a2), (.int (0 : Int32)), (.int (0 : Int32)), .null] below meth c s₁ [] 0 0 := Stand.of_body Bd
  have e0 : s₁.heap = h0 := by rw [← hh, Bd.state]; rfl
  have N0 := Fr.nil n0
  have hS0 : s.Since s.vm h0.size := (State.WarmedH.refl s).since _
  have SK0 : h0.size ≤ h0.size := Nat.le_refl _
  have pre0 : ∀ t, Steps p.tables e below (s₁.setTop (mkF m 0 #[.val (.ref a1), .val (.ref a2), .val (.int (0 : Int32)), .val (.int (0 : Int32)), .val .null, .unset] [])) t → Steps p.tables e below (s₁.setTop (entryFrame m #[(.ref a1), (.ref a2), (.int (0 : Int32)), (.int (0 : Int32)), .null] 6)) t := fun t k => castTop (ef_2e m a1 a2) k
  have pre286 : ∀ t, Steps p.tables e below (s₁.setTop (mkF m 1 #[.val (.ref a1), .val (.ref a2), .val (.int (0 : Int32)), .val (.int (0 : Int32)), .val .null, .unset] [(.ref a1)])) t → Steps p.tables e below (s₁.setTop (entryFrame m #[(.ref a1), (.ref a2), (.int (0 : Int32)), (.int (0 : Int32)), .null] 6)) t := by
    intro t k
    refine pre0 _ ?_
    show Steps p.tables e below (s₁.setTop (mkF m 0 #[.val (.ref a1), .val (.ref a2), .val (.int (0 : Int32)), .val (.int (0 : Int32)), .val .null, .unset] [])) _
    refine XS.aloadN X0.here hx rfl (hb hby d2_0) rfl rfl ?_
    exact k
  obtain ⟨T287, X287, e287, st287⟩ := initO X0 hx hZ hown (hw _ (List.mem_of_getElem? (i := 15) rfl)) (hw _ (List.mem_of_getElem? (i := 16) rfl)) (hw _ (List.mem_of_getElem? (i := 17) rfl)) e0 (g := (mkF m 1 #[.val (.ref a1), .val (.ref a2), .val (.int (0 : Int32)), .val (.int (0 : Int32)), .val .null, .unset] [(.ref a1)])) rfl (by rw [hml]; rfl) rfl (hb hby d2_1) (by decide) (W := 0) (by show 2 * 0 + _ ≤ _; exact Nat.le_of_eq rfl) (by decide)
  have pre288 : ∀ t, Steps p.tables e below (T287.setTop (mkF m 4 #[.val (.ref a1), .val (.ref a2), .val (.int (0 : Int32)), .val (.int (0 : Int32)), .val .null, .unset] [])) t → Steps p.tables e below (s₁.setTop (entryFrame m #[(.ref a1), (.ref a2), (.int (0 : Int32)), (.int (0 : Int32)), .null] 6)) t := by
    intro t k
    refine pre286 _ ?_
    show Steps p.tables e below (s₁.setTop (mkF m 1 #[.val (.ref a1), .val (.ref a2), .val (.int (0 : Int32)), .val (.int (0 : Int32)), .val .null, .unset] [(.ref a1)])) _
    refine st287 _ ?_
    exact k
  have pre289 : ∀ t, Steps p.tables e below (T287.setTop (mkF m 5 #[.val (.ref a1), .val (.ref a2), .val (.int (0 : Int32)), .val (.int (0 : Int32)), .val .null, .unset] [(.int (0 : Int32))])) t → Steps p.tables e below (s₁.setTop (entryFrame m #[(.ref a1), (.ref a2), (.int (0 : Int32)), (.int (0 : Int32)), .null] 6)) t := by
    intro t k
    refine pre288 _ ?_
    show Steps p.tables e below (T287.setTop (mkF m 4 #[.val (.ref a1), .val (.ref a2), .val (.int (0 : Int32)), .val (.int (0 : Int32)), .val .null, .unset] [])) _
    refine XS.iloadN X287.here hx rfl (hb hby d2_4) rfl ?_
    exact k
  have pre291 : ∀ t, Steps p.tables e below (T287.setTop (mkF m 8 #[.val (.ref a1), .val (.ref a2), .val (.int (0 : Int32)), .val (.int (0 : Int32)), .val .null, .unset] [])) t → Steps p.tables e below (s₁.setTop (entryFrame m #[(.ref a1), (.ref a2), (.int (0 : Int32)), (.int (0 : Int32)), .null] 6)) t := by
    intro t k
    refine pre289 _ ?_
    show Steps p.tables e below (T287.setTop (mkF m 5 #[.val (.ref a1), .val (.ref a2), .val (.int (0 : Int32)), .val (.int (0 : Int32)), .val .null, .unset] [(.int (0 : Int32))])) _
    refine XS.ifNo X287.here hx rfl (hb hby d2_5) rfl ((if0 _ _).trans (teq (rfl : (0 : Int32) = (0 : Int32))).2) ?_
    exact k
  have pre292 : ∀ t, Steps p.tables e below (T287.setTop (mkF m 9 #[.val (.ref a1), .val (.ref a2), .val (.int (0 : Int32)), .val (.int (0 : Int32)), .val .null, .unset] [(.ref a1)])) t → Steps p.tables e below (s₁.setTop (entryFrame m #[(.ref a1), (.ref a2), (.int (0 : Int32)), (.int (0 : Int32)), .null] 6)) t := by
    intro t k
    refine pre291 _ ?_
    show Steps p.tables e below (T287.setTop (mkF m 8 #[.val (.ref a1), .val (.ref a2), .val (.int (0 : Int32)), .val (.int (0 : Int32)), .val .null, .unset] [])) _
    refine XS.aloadN X287.here hx rfl (hb hby d2_8) rfl rfl ?_
    exact k
  obtain ⟨l293, T293, h293, kk293, vl293, k_vl293, X293, e293, E293, hS293, sk293, hZ293, hown293, Ex293, Co293, Va293, Av293, -, -, -, LT293, -, st293⟩ := ldcCH (s := s) (vm0 := s.vm) X287 hx hZ hown (hw _ (List.mem_of_getElem? (i := 18) rfl)) (own_wS hw) e287 hS0 SK0 (own_EW hw) (List.mem_of_getElem? (i := 0) rfl) hCH (vs := []) (z := (0 : Int32)) ⟨by decide, rfl⟩ (by decide) (by decide) (g := (mkF m 9 #[.val (.ref a1), .val (.ref a2), .val (.int (0 : Int32)), .val (.int (0 : Int32)), .val .null, .unset] [(.ref a1)])) rfl (hb hby d2_9) (n := 0) (by decide) (by decide) (by decide) (by decide)
  have Z294 : n0 ≤ h293.size := Nat.le_trans Z0 E293.1
  have KP295 := (Keep.refl h0 [a1]).ext E293
  have ne_a1_l293 : a1 ≠ l293 := Fld.ne (F_value.ext E293) Va293 (fun q => by cases q)
  have ne_vl293_a1 : vl293 ≠ a1 := own_ne_arr (hw _ (List.mem_of_getElem? (i := 6) rfl)) (E_a1.ext E293) Av293
  have pre296 : ∀ t, Steps p.tables e below (T293.setTop (mkF m 11 #[.val (.ref a1), .val (.ref a2), .val (.int (0 : Int32)), .val (.int (0 : Int32)), .val .null, .unset] [(.ref l293), (.ref a1)])) t → Steps p.tables e below (s₁.setTop (entryFrame m #[(.ref a1), (.ref a2), (.int (0 : Int32)), (.int (0 : Int32)), .null] 6)) t := by
    intro t k
    refine pre292 _ ?_
    show Steps p.tables e below (T287.setTop (mkF m 9 #[.val (.ref a1), .val (.ref a2), .val (.int (0 : Int32)), .val (.int (0 : Int32)), .val .null, .unset] [(.ref a1)])) _
    refine st293 _ ?_
    exact k
  obtain ⟨T297, X297, e297, st297⟩ := getF X293 hx hZ293 hown293 (host := "") (Or.inl (hw _ (List.mem_of_getElem? (i := 24) rfl))) Via.refl e293 Va293 (g := (mkF m 11 #[.val (.ref a1), .val (.ref a2), .val (.int (0 : Int32)), .val (.int (0 : Int32)), .val .null, .unset] [(.ref l293), (.ref a1)])) rfl rfl (hb hby d2_11)
  have pre298 : ∀ t, Steps p.tables e below (T297.setTop (mkF m 14 #[.val (.ref a1), .val (.ref a2), .val (.int (0 : Int32)), .val (.int (0 : Int32)), .val .null, .unset] [(.ref vl293), (.ref a1)])) t → Steps p.tables e below (s₁.setTop (entryFrame m #[(.ref a1), (.ref a2), (.int (0 : Int32)), (.int (0 : Int32)), .null] 6)) t := by
    intro t k
    refine pre296 _ ?_
    show Steps p.tables e below (T293.setTop (mkF m 11 #[.val (.ref a1), .val (.ref a2), .val (.int (0 : Int32)), .val (.int (0 : Int32)), .val .null, .unset] [(.ref l293), (.ref a1)])) _
    refine st297 _ ?_
    exact k
  obtain ⟨T299, h299, X299, e299, W299, st299⟩ := putF X297 hx hZ293 hown293 (host := "") (Or.inl (hw _ (List.mem_of_getElem? (i := 24) rfl))) Via.refl e297 (F_value.ext E293) (E_a1.ext E293) (Or.inr ⟨(hw _ (List.mem_of_getElem? (i := 20) rfl)), rfl, hnm⟩) (hw _ (List.mem_of_getElem? (i := 6) rfl)) (ty := (.array .byte)) (by decide) rfl rfl (g := (mkF m 14 #[.val (.ref a1), .val (.ref a2), .val (.int (0 : Int32)), .val (.int (0 : Int32)), .val .null, .unset] [(.ref vl293), (.ref a1)])) rfl rfl (hb hby d2_14)
  have Fw299 := (F_value.ext E293).same W299
  have Z300 : n0 ≤ h299.size := Nat.le_trans Z294 (Keep.of_wr W299).1
  have K301 := Nat.le_trans sk293 (Keep.of_wr W299).1
  have KP302 := KP295.wr W299 (Or.inl (List.mem_of_getElem? (i := 0) rfl))
  have NN299 := Fr.snoc X299 N0 g_a1
  have pre303 : ∀ t, Steps p.tables e below (T299.setTop (mkF m 17 #[.val (.ref a1), .val (.ref a2), .val (.int (0 : Int32)), .val (.int (0 : Int32)), .val .null, .unset] [])) t → Steps p.tables e below (s₁.setTop (entryFrame m #[(.ref a1), (.ref a2), (.int (0 : Int32)), (.int (0 : Int32)), .null] 6)) t := by
    intro t k
    refine pre298 _ ?_
    show Steps p.tables e below (T297.setTop (mkF m 14 #[.val (.ref a1), .val (.ref a2), .val (.int (0 : Int32)), .val (.int (0 : Int32)), .val .null, .unset] [(.ref vl293), (.ref a1)])) _
    refine st299 _ ?_
    exact k
  have pre304 : ∀ t, Steps p.tables e below (T299.setTop (mkF m 18 #[.val (.ref a1), .val (.ref a2), .val (.int (0 : Int32)), .val (.int (0 : Int32)), .val .null, .unset] [(.ref a1)])) t → Steps p.tables e below (s₁.setTop (entryFrame m #[(.ref a1), (.ref a2), (.int (0 : Int32)), (.int (0 : Int32)), .null] 6)) t := by
    intro t k
    refine pre303 _ ?_
    show Steps p.tables e below (T299.setTop (mkF m 17 #[.val (.ref a1), .val (.ref a2), .val (.int (0 : Int32)), .val (.int (0 : Int32)), .val .null, .unset] [])) _
    refine XS.aloadN X299.here hx rfl (hb hby d2_17) rfl rfl ?_
    exact k
  have pre305 : ∀ t, Steps p.tables e below (T299.setTop (mkF m 20 #[.val (.ref a1), .val (.ref a2), .val (.int (0 : Int32)), .val (.int (0 : Int32)), .val .null, .unset] [(.ref l293), (.ref a1)])) t → Steps p.tables e below (s₁.setTop (entryFrame m #[(.ref a1), (.ref a2), (.int (0 : Int32)), (.int (0 : Int32)), .null] 6)) t := by
    intro t k
    refine pre304 _ ?_
    show Steps p.tables e below (T299.setTop (mkF m 18 #[.val (.ref a1), .val (.ref a2), .val (.int (0 : Int32)), .val (.int (0 : Int32)), .val .null, .unset] [(.ref a1)])) _
    refine ldcAgain (s := s) (vm0 := T293.vm) X299 hx hZ293 hown293 (hw _ (List.mem_of_getElem? (i := 18) rfl)) LT293 (g := (mkF m 18 #[.val (.ref a1), .val (.ref a2), .val (.int (0 : Int32)), .val (.int (0 : Int32)), .val .null, .unset] [(.ref a1)])) rfl (hb hby d2_18) _ ?_
    exact k
  obtain ⟨T306, X306, e306, st306⟩ := getF X299 hx hZ293 hown293 (host := "") (Or.inl (hw _ (List.mem_of_getElem? (i := 25) rfl))) Via.refl e299 (Co293.other W299 (Or.inl (Ne.symm ne_a1_l293))) (g := (mkF m 20 #[.val (.ref a1), .val (.ref a2), .val (.int (0 : Int32)), .val (.int (0 : Int32)), .val .null, .unset] [(.ref l293), (.ref a1)])) rfl rfl (hb hby d2_20)
  have pre307 : ∀ t, Steps p.tables e below (T306.setTop (mkF m 23 #[.val (.ref a1), .val (.ref a2), .val (.int (0 : Int32)), .val (.int (0 : Int32)), .val .null, .unset] [(.int (0 : Int32)), (.ref a1)])) t → Steps p.tables e below (s₁.setTop (entryFrame m #[(.ref a1), (.ref a2), (.int (0 : Int32)), (.int (0 : Int32)), .null] 6)) t := by
    intro t k
    refine pre305 _ ?_
    show Steps p.tables e below (T299.setTop (mkF m 20 #[.val (.ref a1), .val (.ref a2), .val (.int (0 : Int32)), .val (.int (0 : Int32)), .val .null, .unset] [(.ref l293), (.ref a1)])) _
    refine st306 _ ?_
    exact k
  obtain ⟨T308, h308, X308, e308, W308, st308⟩ := putF X306 hx hZ293 hown293 (host := "") (Or.inl (hw _ (List.mem_of_getElem? (i := 25) rfl))) Via.refl e306 ((F_coder.ext E293).other W299 (Or.inr (slot_ne (Or.inr (hw _ (List.mem_of_getElem? (i := 21) rfl))) (Or.inr (hw _ (List.mem_of_getElem? (i := 20) rfl))) (by decide) (t := .byte) (t' := (.array .byte)) (by decide) (by decide)))) ((E_a1.ext E293).wr W299) (Or.inr ⟨(hw _ (List.mem_of_getElem? (i := 21) rfl)), rfl, hnm⟩) (hw _ (List.mem_of_getElem? (i := 6) rfl)) (ty := .byte) (by decide) rfl rfl (g := (mkF m 23 #[.val (.ref a1), .val (.ref a2), .val (.int (0 : Int32)), .val (.int (0 : Int32)), .val .null, .unset] [(.int (0 : Int32)), (.ref a1)])) rfl rfl (hb hby d2_23)
  have Fw308 := ((F_coder.ext E293).other W299 (Or.inr (slot_ne (Or.inr (hw _ (List.mem_of_getElem? (i := 21) rfl))) (Or.inr (hw _ (List.mem_of_getElem? (i := 20) rfl))) (by decide) (t := .byte) (t' := (.array .byte)) (by decide) (by decide)))).same W308
  have Z309 : n0 ≤ h308.size := Nat.le_trans Z300 (Keep.of_wr W308).1
  have K310 := Nat.le_trans K301 (Keep.of_wr W308).1
  have KP311 := KP302.wr W308 (Or.inl (List.mem_of_getElem? (i := 0) rfl))
  have NN308 := Fr.snoc X308 NN299 g_a1
  have pre312 : ∀ t, Steps p.tables e below (T308.setTop (mkF m 26 #[.val (.ref a1), .val (.ref a2), .val (.int (0 : Int32)), .val (.int (0 : Int32)), .val .null, .unset] [])) t → Steps p.tables e below (s₁.setTop (entryFrame m #[(.ref a1), (.ref a2), (.int (0 : Int32)), (.int (0 : Int32)), .null] 6)) t := by
    intro t k
    refine pre307 _ ?_
    show Steps p.tables e below (T306.setTop (mkF m 23 #[.val (.ref a1), .val (.ref a2), .val (.int (0 : Int32)), .val (.int (0 : Int32)), .val .null, .unset] [(.int (0 : Int32)), (.ref a1)])) _
    refine st308 _ ?_
    exact k
  obtain ⟨fs, hr, hrun, hended, hsame⟩ := Stand.leaveW (s := s) (vm₁ := T293.vm) X308 hS293 (by rw [e308]; exact K310) (v := none) (fun _ => rfl) (hlocks := hlocks)
  refine ⟨_, _, pre312 _ ?_, hrun, hended, _, _, rfl, ?_, ⟨hsame.1, hsame.2.1, hsame.2.2.1, hsame.2.2.2.mono (by decide) (by decide)⟩⟩
  · show Steps p.tables e below (T308.setTop (mkF m 26 #[.val (.ref a1), .val (.ref a2), .val (.int (0 : Int32)), .val (.int (0 : Int32)), .val .null, .unset] [])) _
    exact X308.returnOut hx hret (hb hby d2_26) hr
  · show Q2e Z a1 a2 u1 u2 h0 n0 _ T308.heap _
    rw [e308]
    exact ⟨rfl, NN308, KP311, (((E_a1.ext E293).wr W299).wr W308), vl293, k_vl293, (Fw299.other W308 (Or.inr (slot_ne (Or.inr (hw _ (List.mem_of_getElem? (i := 20) rfl))) (Or.inr (hw _ (List.mem_of_getElem? (i := 21) rfl))) (by decide) (t := (.array .byte)) (t' := .byte) (by decide) (by decide)))), Fw308, ((Av293.other W299 ne_vl293_a1).other W308 ne_vl293_a1)⟩
theorem d1_0 : decode jdk_42_method_3_code 0 = .ok (.aload_n 0, 1) := by decide +kernel
theorem d1_1 : decode jdk_42_method_3_code 1 = .ok (.aload_n 1, 1) := by decide +kernel
theorem d1_2 : decode jdk_42_method_3_code 2 = .ok (.iconst 0, 1) := by decide +kernel
theorem d1_3 : decode jdk_42_method_3_code 3 = .ok (.aload_n 1, 1) := by decide +kernel
theorem d1_4 : decode jdk_42_method_3_code 4 = .ok (.arraylength, 1) := by decide +kernel
theorem d1_5 : decode jdk_42_method_3_code 5 = .ok (.aconst_null, 1) := by decide +kernel
theorem d1_6 : decode jdk_42_method_3_code 6 = .ok (.invokespecial 27, 3) := by decide +kernel
theorem pd___CIILjava_lang_Void__V : parseMethodDescriptor "([CIILjava/lang/Void;)V" = some ⟨[(.array .char), .int, .int, (.object "java/lang/Void")], none⟩ := by decide +kernel
theorem d1_9 : decode jdk_42_method_3_code 9 = .ok (.return_, 1) := by decide +kernel
theorem ef_1e (m : MethodId) (x0 : Addr) (x1 : Addr) : entryFrame m #[(.ref x0), (.ref x1)] 2 = mkF m 0 #[.val (.ref x0), .val (.ref x1)] [] := by first | (simp [entryFrame, mkF, argsToLocals, Value.category]; done) | rfl
def Q1e (Z : State) (a1 : Addr) (a2 : Addr) (u1 : Value) (u2 : Value) (k2 : ClassId) (vs : List Value) (dv : Value) (h0 : Heap) (n0 : Nat) (v : Option Value) (h : Heap) (L : List Loc) : Prop := v = none ∧ Fr n0 L ∧ Keep h0 h [a1] ∧ Exa Z h a1 "java/lang/String" ∧ ∃ (t : Addr) (kt : ClassId), Fld Z h a1 "java/lang/String" "value" "[B" (.ref t) ∧ Fld Z h a1 "java/lang/String" "coder" "B" (.int (0 : Int32)) ∧ Arv Z h t kt .byte (0 : Int32) [] (.int (0 : Int32))
set_option maxRecDepth 65536 in
set_option maxHeartbeats 40000000 in
theorem rm1e (l : Launch) (Z : State) (a0 : Array Value) (hw : ∀ d ∈ tables_1, d.before a0 Z = true) (ws : List Jvm.Cond) (a1 : Addr) (a2 : Addr) (u1 : Value) (u2 : Value) (k2 : ClassId) (vs : List Value) (dv : Value) (h0 : Heap) (n0 : Nat) (Z0 : n0 ≤ h0.size) (E_a1 : Exa Z h0 a1 "java/lang/String") (F_value : Fld Z h0 a1 "java/lang/String" "value" "[B" .null) (F_coder : Fld Z h0 a1 "java/lang/String" "coder" "B" u2) (g_a1 : n0 ≤ a1) (A2 : Arv Z h0 a2 k2 .char (0 : Int32) vs dv) :
    MetFree l (⟨"java/lang/String", "<init>", "([C)V"⟩ : MethodName) (head1 (Jvm.Cond.code (⟨"java/lang/String", "<init>", "([C)V"⟩ : MethodName) jdk_42_method_3_code 2 none :: ws) ({ frames := 2, cells := 2, slots := 4, locals := 29 } : Room)) (fun a U => a = #[(.ref a1), (.ref a2)] ∧ Z.Warmed39 U.vm ∧ U.heap = h0 ∧ CHv Z own_EL U.vm h0) (fun _ _ _ _ _ => True) (fun _ U o U' => ∃ v L, o = .returned v ∧ Q1e Z a1 a2 u1 u2 k2 vs dv h0 n0 v U'.heap L ∧ ReturnedEndW U o U' L ({ frames := 2, cells := 2, slots := 4, locals := 29 } : Room).cells ({ frames := 2, cells := 2, slots := 4, locals := 29 } : Room).slots) := by
  refine MetFree.of_bodySF (plainFor_of_name pn_12) hisR ?_
  intro p e s m args below meth c s₁ Bd hml0 hP hK
  obtain ⟨rfl, hZ, hh, hCH⟩ := hP
  have hx := Bd.exec
  have hby := Bd.bytes
  have hml : c.maxLocals = 2 := hml0
  have hown : s.vm.findClass "java/lang/String" = some m.cls := findClass_of_methodNamed Bd.named
  have hnm := (name_of_methodNamed Bd.named Bd.method).1
  have hret := Bd.returns
  have hlocks : meth.locks = false := Bd.notSynchronized
  have X0 : Stand p l e ({ frames := 2, cells := 2, slots := 4, locals := 29 } : Room) s m #[(.ref a1), (.ref a2)] below meth c s₁ [] 0 0 := Stand.of_body Bd
  have e0 : s₁.heap = h0 := by rw [← hh, Bd.state]; rfl
  have N0 := Fr.nil n0
  have hS0 : s.Since s.vm h0.size := (State.WarmedH.refl s).since _
  have SK0 : h0.size ≤ h0.size := Nat.le_refl _
  obtain ⟨cl2, Ar2, _, S2, N_2, _, _⟩ := A2
  have pre0 : ∀ t, Steps p.tables e below (s₁.setTop (mkF m 0 #[.val (.ref a1), .val (.ref a2)] [])) t → Steps p.tables e below (s₁.setTop (entryFrame m #[(.ref a1), (.ref a2)] 2)) t := fun t k => castTop (ef_1e m a1 a2) k
  have pre313 : ∀ t, Steps p.tables e below (s₁.setTop (mkF m 6 #[.val (.ref a1), .val (.ref a2)] [.null, (.int (0 : Int32)), (.int (0 : Int32)), (.ref a2), (.ref a1)])) t → Steps p.tables e below (s₁.setTop (entryFrame m #[(.ref a1), (.ref a2)] 2)) t := by
    intro t k
    refine pre0 _ ?_
    show Steps p.tables e below (s₁.setTop (mkF m 0 #[.val (.ref a1), .val (.ref a2)] [])) _
    refine XS.aloadN X0.here hx rfl (hb hby d1_0) rfl rfl ?_
    show Steps p.tables e below (s₁.setTop (mkF m 1 #[.val (.ref a1), .val (.ref a2)] [(.ref a1)])) _
    refine XS.aloadN X0.here hx rfl (hb hby d1_1) rfl rfl ?_
    show Steps p.tables e below (s₁.setTop (mkF m 2 #[.val (.ref a1), .val (.ref a2)] [(.ref a2), (.ref a1)])) _
    refine XS.iconst X0.here hx rfl (hb hby d1_2) ?_
    show Steps p.tables e below (s₁.setTop (mkF m 3 #[.val (.ref a1), .val (.ref a2)] [(.int (0 : Int32)), (.ref a2), (.ref a1)])) _
    refine XS.aloadN X0.here hx rfl (hb hby d1_3) rfl rfl ?_
    show Steps p.tables e below (s₁.setTop (mkF m 4 #[.val (.ref a1), .val (.ref a2)] [(.ref a2), (.int (0 : Int32)), (.ref a2), (.ref a1)])) _
    refine X0.arraylength hx (by rw [e0]; exact Ar2.1) (State.isArrayOf_alike hZ.alike Ar2.2.1) (g := (mkF m 4 #[.val (.ref a1), .val (.ref a2)] [(.ref a2), (.int (0 : Int32)), (.ref a2), (.ref a1)])) rfl rfl (hb hby d1_4) _ ?_
    rw [len_of S2 N_2]
    show Steps p.tables e below (s₁.setTop (mkF m 5 #[.val (.ref a1), .val (.ref a2)] [(.int (0 : Int32)), (.int (0 : Int32)), (.ref a2), (.ref a1)])) _
    refine XS.aconstNull X0.here hx rfl (hb hby d1_5) ?_
    exact k
  obtain ⟨_, _, ⟨T314, L314, k314, n314⟩, -, X314, sS314, gr314, ⟨Lc314, hQ314, l314, y314, z314⟩, st314⟩ := X0.specialBackS hx (y := (⟨"java/lang/String", "<init>", "([CIILjava/lang/Void;)V"⟩ : MethodName)) rfl hown (mvT hZ (hw _ (List.mem_of_getElem? (i := 11) rfl))) (mvT hZ (hw _ (List.mem_of_getElem? (i := 12) rfl))) (mvT hZ (hw _ (List.mem_of_getElem? (i := 14) rfl))) (by decide) (own_backI (W := 0) (rm2e l Z a0 hw [] a1 a2 u1 u2 h0 n0 Z0 E_a1 F_value F_coder g_a1) hZ (hw _ (List.mem_of_getElem? (i := 14) rfl)) (hw _ (List.mem_of_getElem? (i := 7) rfl)) (by decide) (by decide) (own_EW hw) hCH) (g := (mkF m 6 #[.val (.ref a1), .val (.ref a2)] [.null, (.int (0 : Int32)), (.int (0 : Int32)), (.ref a2), (.ref a1)])) rfl (by rw [hml]; rfl) (Steps.refl _) (a := a1) (argsL := [(.ref a2), (.int (0 : Int32)), (.int (0 : Int32)), .null]) (rest := []) (lenOf pd___CIILjava_lang_Void__V rfl) rfl (by show 2 * 0 + _ ≤ _; exact Nat.le_of_eq rfl) (hb hby d1_6) (fun _ _ => ⟨rfl, e0, (by decide : 0 + 2 ≤ _), (by decide : 0 + 4 ≤ _)⟩)
  dsimp only [Pt.U, Pt.locs, Pt.cells, Pt.slots] at X314 l314 y314 z314 st314 hQ314 sS314 gr314
  subst l314 y314 z314
  obtain ⟨rfl, N314q, K314, E314, t314, kt314, Fv314, Fc314, V314⟩ := hQ314
  have N314 := Fr.app N0 N314q
  have Z315 : n0 ≤ T314.heap.size := Nat.le_trans Z0 K314.1
  have K316 := Nat.le_trans SK0 K314.1
  have KP317 := (Keep.refl h0 [a1]).trans K314 (allS (Or.inl (List.mem_of_getElem? (i := 0) rfl)) all0)
  have hS314 := foldS (s := s) (vm0 := s.vm) hS0 (by rw [e0]; exact SK0) sS314 gr314
  have hZ314 : Z.Warmed39 (s.setVm T314.vm).vm := State.Warmed39.trans (t := s.setVm s.vm) hZ sS314.1
  have hown314 : (s.setVm T314.vm).vm.findClass "java/lang/String" = some m.cls := by rw [show (s.setVm T314.vm).vm = T314.vm from rfl, sS314.1.alike.findClass]; exact hown
  have X314 : Stand p l e ({ frames := 2, cells := 2, slots := 4, locals := 29 } : Room) (s.setVm T314.vm) m _ below meth c T314 _ _ _ := X314
  have pre318 : ∀ t, Steps p.tables e below (T314.setTop (mkF m 9 #[.val (.ref a1), .val (.ref a2)] [])) t → Steps p.tables e below (s₁.setTop (entryFrame m #[(.ref a1), (.ref a2)] 2)) t := by
    intro t k
    refine pre313 _ ?_
    show Steps p.tables e below (s₁.setTop (mkF m 6 #[.val (.ref a1), .val (.ref a2)] [.null, (.int (0 : Int32)), (.int (0 : Int32)), (.ref a2), (.ref a1)])) _
    refine st314.trans ?_
    exact k
  obtain ⟨fs, hr, hrun, hended, hsame⟩ := Stand.leaveW (s := s) (vm₁ := T314.vm) X314 hS314 (Nat.le_refl _) (v := none) (fun _ => rfl) (hlocks := hlocks)
  refine ⟨_, _, pre318 _ ?_, hrun, hended, _, _, rfl, ?_, ⟨hsame.1, hsame.2.1, hsame.2.2.1, hsame.2.2.2.mono (by decide) (by decide)⟩⟩
  · show Steps p.tables e below (T314.setTop (mkF m 9 #[.val (.ref a1), .val (.ref a2)] [])) _
    exact X314.returnOut hx hret (hb hby d1_9) hr
  · show Q1e Z a1 a2 u1 u2 k2 vs dv h0 n0 _ T314.heap _
    skip
    exact ⟨rfl, N314, KP317, E314, t314, kt314, Fv314, Fc314, V314⟩
theorem d4_13 : decode prog_7_method_7_code 13 = .ok (.invokestatic 46, 3) := by decide +kernel
theorem pd____Lcom_example_matchbook_matchbook_Pricing_ : parseMethodDescriptor "()[Lcom/example/matchbook/matchbook/Pricing;" = some ⟨[], some (.array (.object "com/example/matchbook/matchbook/Pricing"))⟩ := by decide +kernel
theorem d4_16 : decode prog_7_method_7_code 16 = .ok (.invokedynamic 50, 5) := by decide +kernel
theorem d4_21 : decode prog_7_method_7_code 21 = .ok (.ldc 54, 2) := by decide +kernel
theorem d4_23 : decode prog_7_method_7_code 23 = .ok (.aload_n 0, 1) := by decide +kernel
theorem d4_24 : decode prog_7_method_7_code 24 = .ok (.invokestatic 56, 3) := by decide +kernel
theorem pd___Ljava_lang_Object_Ljava_util_function_Function_Ljava_lang_String_Ljava_lang_String__Ljava_lang_Object_ : parseMethodDescriptor "([Ljava/lang/Object;Ljava/util/function/Function;Ljava/lang/String;Ljava/lang/String;)Ljava/lang/Object;" = some ⟨[(.array (.object "java/lang/Object")), (.object "java/util/function/Function"), (.object "java/lang/String"), (.object "java/lang/String")], some (.object "java/lang/Object")⟩ := by decide +kernel
theorem d4_27 : decode prog_7_method_7_code 27 = .ok (.checkcast 1, 3) := by decide +kernel
theorem ef_4o (m : MethodId) (x0 : Addr) : entryFrame m #[(.ref x0)] 1 = mkF m 0 #[.val (.ref x0)] [] := by first | (simp [entryFrame, mkF, argsToLocals, Value.category]; done) | rfl
def Q4o (Z : State) (a1 : Addr) (kV : ClassId) (wO : Addr) (wS : Addr) (wO_label : Addr) (wO_label_value : Addr) (k_wO : ClassId) (wS_label : Addr) (wS_label_value : Addr) (k_wS : ClassId) (tV : Addr) (kt : ClassId) (wV : Addr) (pC : Int32) (h0 : Heap) (n0 : Nat) (v : Option Value) (h : Heap) (L : List Loc) : Prop := v = some (.ref wO) ∧ Fr n0 L ∧ Keep h0 h []
set_option maxRecDepth 65536 in
set_option maxHeartbeats 40000000 in
theorem rm4o (l : Launch) (Z : State) (a0 : Array Value) (hw : ∀ d ∈ tables_1, d.before a0 Z = true) (ws : List Jvm.Cond) (a1 : Addr) (kV : ClassId) (wO : Addr) (wS : Addr) (wO_label : Addr) (wO_label_value : Addr) (k_wO : ClassId) (wS_label : Addr) (wS_label_value : Addr) (k_wS : ClassId) (tV : Addr) (kt : ClassId) (wV : Addr) (pC : Int32) (h0 : Heap) (n0 : Nat) (Z0 : n0 ≤ h0.size) (O0 : Old Z n0 h0) (E_wV : Exa Z Z.heap wV "[Lcom/example/matchbook/matchbook/Pricing;") (V_wV : Arv Z Z.heap wV kV (.object "com/example/matchbook/matchbook/Pricing") (2 : Int32) [.ref wO, .ref wS] .null) (E_wO : Exa Z Z.heap wO "com/example/matchbook/matchbook/Pricing") (F_wO_label : Fld Z Z.heap wO "com/example/matchbook/matchbook/Pricing" "label" "Ljava/lang/String;" (.ref wO_label)) (E_wO_label : Exa Z Z.heap wO_label "java/lang/String") (F_wO_label_coder : Fld Z Z.heap wO_label "java/lang/String" "coder" "B" (.int (0 : Int32))) (F_wO_label_value : Fld Z Z.heap wO_label "java/lang/String" "value" "[B" (.ref wO_label_value)) (V_wO : Arv Z Z.heap wO_label_value k_wO .byte (9 : Int32) [.int (111 : Int32), .int (110 : Int32), .int (45 : Int32), .int (100 : Int32), .int (101 : Int32), .int (109 : Int32), .int (97 : Int32), .int (110 : Int32), .int (100 : Int32)] (.int (0 : Int32))) (E_wS : Exa Z Z.heap wS "com/example/matchbook/matchbook/Pricing") (F_wS_label : Fld Z Z.heap wS "com/example/matchbook/matchbook/Pricing" "label" "Ljava/lang/String;" (.ref wS_label)) (E_wS_label : Exa Z Z.heap wS_label "java/lang/String") (F_wS_label_coder : Fld Z Z.heap wS_label "java/lang/String" "coder" "B" (.int (0 : Int32))) (F_wS_label_value : Fld Z Z.heap wS_label "java/lang/String" "value" "[B" (.ref wS_label_value)) (V_wS : Arv Z Z.heap wS_label_value k_wS .byte (4 : Int32) [.int (115 : Int32), .int (112 : Int32), .int (111 : Int32), .int (116 : Int32)] (.int (0 : Int32))) (E_a1 : Exa Z h0 a1 "java/lang/String") (F_a1_value : Fld Z h0 a1 "java/lang/String" "value" "[B" (.ref tV)) (F_a1_coder : Fld Z h0 a1 "java/lang/String" "coder" "B" (.int (0 : Int32))) (V_t : Arv Z h0 tV kt .byte (9 : Int32) [.int (111 : Int32), .int (110 : Int32), .int (45 : Int32), .int (100 : Int32), .int (101 : Int32), .int (109 : Int32), .int (97 : Int32), .int (110 : Int32), .int (100 : Int32)] (.int (0 : Int32))) (hpc : ¬ (pC = (0 : Int32))) (S_wV : Sta Z Z.heap "com/example/matchbook/matchbook/Pricing" "$VALUES" "[Lcom/example/matchbook/matchbook/Pricing;" (.ref wV)) (S_pC : Sta Z Z.heap "java/lang/String" "COMPACT_STRINGS" "Z" (.int pC)) :
    MetFree l (⟨"com/example/matchbook/matchbook/Pricing", "parse", "(Ljava/lang/String;)Lcom/example/matchbook/matchbook/Pricing;"⟩ : MethodName) (head1 (Jvm.Cond.code (⟨"com/example/matchbook/matchbook/Pricing", "parse", "(Ljava/lang/String;)Lcom/example/matchbook/matchbook/Pricing;"⟩ : MethodName) prog_7_method_7_code 1 (some (.object "com/example/matchbook/matchbook/Pricing")) :: ws) ({ frames := 3, cells := 3, slots := 106, locals := 3073 } : Room)) (fun a U => a = #[(.ref a1)] ∧ Z.Warmed39 U.vm ∧ U.heap = h0) (fun _ _ _ _ _ => True) (fun _ U o U' => ∃ v L, o = .returned v ∧ Q4o Z a1 kV wO wS wO_label wO_label_value k_wO wS_label wS_label_value k_wS tV kt wV pC h0 n0 v U'.heap L ∧ ReturnedEndW U o U' L ({ frames := 3, cells := 3, slots := 106, locals := 3073 } : Room).cells ({ frames := 3, cells := 3, slots := 106, locals := 3073 } : Room).slots) := by
  refine MetFree.of_bodySF (plainFor_of_name pn_11) hisR ?_
  intro p e s m args below meth c s₁ Bd hml0 hP hK
  obtain ⟨rfl, hZ, hh⟩ := hP
  have hx := Bd.exec
  have hby := Bd.bytes
  have hml : c.maxLocals = 1 := hml0
  have hown : s.vm.findClass "com/example/matchbook/matchbook/Pricing" = some m.cls := findClass_of_methodNamed Bd.named
  have hnm := (name_of_methodNamed Bd.named Bd.method).1
  have hret := Bd.returns
  have hlocks : meth.locks = false := Bd.notSynchronized
  have X0 : Stand p l e ({ frames := 3, cells := 3, slots := 106, locals := 3073 } : Room) s m #[(.ref a1)] below meth c s₁ [] 0 0 := Stand.of_body Bd
  have e0 : s₁.heap = h0 := by rw [← hh, Bd.state]; rfl
  have N0 := Fr.nil n0
  have hS0 : s.Since s.vm h0.size := (State.WarmedH.refl s).since _
  have SK0 : h0.size ≤ h0.size := Nat.le_refl _
  have pre0 : ∀ t, Steps p.tables e below (s₁.setTop (mkF m 0 #[.val (.ref a1)] [])) t → Steps p.tables e below (s₁.setTop (entryFrame m #[(.ref a1)] 1)) t := fun t k => castTop (ef_4o m a1) k
  have pre319 : ∀ t, Steps p.tables e below (s₁.setTop (mkF m 1 #[.val (.ref a1)] [(.ref a1)])) t → Steps p.tables e below (s₁.setTop (entryFrame m #[(.ref a1)] 1)) t := by
    intro t k
    refine pre0 _ ?_
    show Steps p.tables e below (s₁.setTop (mkF m 0 #[.val (.ref a1)] [])) _
    refine XS.aloadN X0.here hx rfl (hb hby d4_0) rfl rfl ?_
    exact k
  obtain ⟨cq320, kq320, q320a, q320b, q320c⟩ := isOf hZ e0 E_a1
  obtain ⟨_, _, ⟨T320, L320, k320, n320⟩, -, X320, ⟨Lc320, hQ320, l320, y320, z320⟩, st320⟩ := X0.virtualBack hx (y := (⟨"java/lang/String", "isEmpty", "()Z"⟩ : MethodName)) (z := (⟨"java/lang/String", "isEmpty", "()Z"⟩ : MethodName)) hown (mvT hZ (hw _ (List.mem_of_getElem? (i := 29) rfl))) (mvT hZ (hw _ (List.mem_of_getElem? (i := 30) rfl))) (notFace_of_selects (args := #[]) (mvT hZ (hw _ (List.mem_of_getElem? (i := 32) rfl)))) (mvT hZ (hw _ (List.mem_of_getElem? (i := 32) rfl))) (mvT hZ (hw _ (List.mem_of_getElem? (i := 31) rfl))) (by decide) (backOf (W := 0) (rm5o l Z a0 hw [] a1 tV kt [.int (111 : Int32), .int (110 : Int32), .int (45 : Int32), .int (100 : Int32), .int (101 : Int32), .int (109 : Int32), .int (97 : Int32), .int (110 : Int32), .int (100 : Int32)] (.int (0 : Int32)) h0 n0 Z0 F_a1_value V_t) hZ (hw _ (List.mem_of_getElem? (i := 33) rfl)) (hw _ (List.mem_of_getElem? (i := 7) rfl)) (by decide) (by decide)) q320a q320c (g := (mkF m 1 #[.val (.ref a1)] [(.ref a1)])) rfl (by rw [hml]; rfl) (Steps.refl _) (argsL := []) (rest := []) (lenOf pd___Z rfl) rfl (by show 2 * 0 + _ ≤ _; exact Nat.le_of_eq rfl) (hb hby d4_1) (fun _ _ => ⟨rfl, e0, (by decide : 0 + 0 ≤ _), (by decide : 0 + 0 ≤ _)⟩)
  dsimp only [Pt.U, Pt.locs, Pt.cells, Pt.slots] at X320 l320 y320 z320 st320 hQ320
  subst l320 y320 z320
  obtain ⟨rfl, N320q, e320⟩ := hQ320
  have N320 := Fr.app N0 N320q
  have pre321 : ∀ t, Steps p.tables e below (T320.setTop (mkF m 4 #[.val (.ref a1)] [(.int (0 : Int32))])) t → Steps p.tables e below (s₁.setTop (entryFrame m #[(.ref a1)] 1)) t := by
    intro t k
    refine pre319 _ ?_
    show Steps p.tables e below (s₁.setTop (mkF m 1 #[.val (.ref a1)] [(.ref a1)])) _
    refine st320.trans ?_
    exact k
  have pre323 : ∀ t, Steps p.tables e below (T320.setTop (mkF m 13 #[.val (.ref a1)] [])) t → Steps p.tables e below (s₁.setTop (entryFrame m #[(.ref a1)] 1)) t := by
    intro t k
    refine pre321 _ ?_
    show Steps p.tables e below (T320.setTop (mkF m 4 #[.val (.ref a1)] [(.int (0 : Int32))])) _
    refine XS.ifYes X320.here hx rfl (pc0 := 4) (pc' := 13) rfl (hb hby d4_4) rfl ((if0 _ _).trans (teq (rfl : (0 : Int32) = (0 : Int32))).1) (by decide) (by decide) ?_
    exact k
  obtain ⟨_, _, ⟨T324, L324, k324, n324⟩, -, X324, ⟨Lc324, hQ324, l324, y324, z324⟩, st324⟩ := Jvm.LawKit.callS X320 hx (y := (⟨"com/example/matchbook/matchbook/Pricing", "values", "()[Lcom/example/matchbook/matchbook/Pricing;"⟩ : MethodName)) hown (mvT hZ (hw _ (List.mem_of_getElem? (i := 48) rfl))) (mvT hZ (hw _ (List.mem_of_getElem? (i := 49) rfl))) (mvT hZ (hw _ (List.mem_of_getElem? (i := 3) rfl))) (mvT hZ (hw _ (List.mem_of_getElem? (i := 50) rfl))) (by decide) (backOf (W := 0) (rm9 l Z a0 hw [] kV wO wS wV h0 n0 Z0 (E_wV.ext O0.2) (V_wV.ext O0.2) (S_wV.ext O0.2)) hZ (hw _ (List.mem_of_getElem? (i := 50) rfl)) (hw _ (List.mem_of_getElem? (i := 3) rfl)) (by decide) (by decide)) (g := (mkF m 13 #[.val (.ref a1)] [])) rfl (by rw [hml]; rfl) (argsL := []) (rest := []) (lenOf pd____Lcom_example_matchbook_matchbook_Pricing_ rfl) rfl (by show 2 * 0 + _ ≤ _; exact Nat.le_of_eq rfl) (hb hby d4_13) (fun _ _ => ⟨rfl, e320, (by decide : 0 + 1 ≤ _), (by decide : 0 + 2 ≤ _)⟩)
  dsimp only [Pt.U, Pt.locs, Pt.cells, Pt.slots] at X324 l324 y324 z324 st324 hQ324
  subst l324 y324 z324
  obtain ⟨r324, rfl, N324q, K324, lr324, V324⟩ := hQ324
  have N324 := Fr.app N320 N324q
  have O325 := O0.keep K324 all0
  have Z326 : n0 ≤ T324.heap.size := Nat.le_trans Z0 K324.1
  have K327 := Nat.le_trans SK0 K324.1
  have KP328 := (Keep.refl h0 []).trans K324 all0
  have pre329 : ∀ t, Steps p.tables e below (T324.setTop (mkF m 16 #[.val (.ref a1)] [(.ref r324)])) t → Steps p.tables e below (s₁.setTop (entryFrame m #[(.ref a1)] 1)) t := by
    intro t k
    refine pre323 _ ?_
    show Steps p.tables e below (T320.setTop (mkF m 13 #[.val (.ref a1)] [])) _
    refine st324 _ ?_
    exact k
  obtain ⟨fa330, cK330, M330, FA330, st330⟩ := own_site X324 hx hZ O325 Bd.named (hw _ (List.mem_of_getElem? (i := 63) rfl)) rfl (g := (mkF m 16 #[.val (.ref a1)] [(.ref r324)])) rfl rfl (by rw [hml]; rfl) (hb hby d4_16) (W := 1) (by show 2 * 0 + _ ≤ _; exact Nat.le_of_eq rfl) (by decide)
  have pre331 : ∀ t, Steps p.tables e below (T324.setTop (mkF m 21 #[.val (.ref a1)] [(.ref fa330), (.ref r324)])) t → Steps p.tables e below (s₁.setTop (entryFrame m #[(.ref a1)] 1)) t := by
    intro t k
    refine pre329 _ ?_
    show Steps p.tables e below (T324.setTop (mkF m 16 #[.val (.ref a1)] [(.ref r324)])) _
    refine st330 _ ?_
    exact k
  obtain ⟨l332, T332, h332, kk332, X332, e332, E332, hS332, sk332, hZ332, hown332, st332⟩ := ldcS (s := s) (vm0 := s.vm) X324 hx hZ hown (hw _ (List.mem_of_getElem? (i := 66) rfl)) (own_wS hw) rfl hS0 K327 (g := (mkF m 21 #[.val (.ref a1)] [(.ref fa330), (.ref r324)])) rfl (hb hby d4_21) (n := 100) (by decide) (by decide) (by decide) (by decide)
  have O333 := O325.ext E332
  have Z334 : n0 ≤ h332.size := Nat.le_trans Z326 E332.1
  have KP335 := KP328.ext E332
  have pre336 : ∀ t, Steps p.tables e below (T332.setTop (mkF m 23 #[.val (.ref a1)] [(.ref l332), (.ref fa330), (.ref r324)])) t → Steps p.tables e below (s₁.setTop (entryFrame m #[(.ref a1)] 1)) t := by
    intro t k
    refine pre331 _ ?_
    show Steps p.tables e below (T324.setTop (mkF m 21 #[.val (.ref a1)] [(.ref fa330), (.ref r324)])) _
    refine st332 _ ?_
    exact k
  have pre337 : ∀ t, Steps p.tables e below (T332.setTop (mkF m 24 #[.val (.ref a1)] [(.ref a1), (.ref l332), (.ref fa330), (.ref r324)])) t → Steps p.tables e below (s₁.setTop (entryFrame m #[(.ref a1)] 1)) t := by
    intro t k
    refine pre336 _ ?_
    show Steps p.tables e below (T332.setTop (mkF m 23 #[.val (.ref a1)] [(.ref l332), (.ref fa330), (.ref r324)])) _
    refine XS.aloadN X332.here hx rfl (hb hby d4_23) rfl rfl ?_
    exact k
  obtain ⟨_, _, ⟨T338, L338, k338, n338⟩, -, X338, ⟨Lc338, hQ338, l338, y338, z338⟩, st338⟩ := Jvm.LawKit.callS X332 hx (y := (⟨"com/example/matchbook/matchbook/Labels", "parse", "([Ljava/lang/Object;Ljava/util/function/Function;Ljava/lang/String;Ljava/lang/String;)Ljava/lang/Object;"⟩ : MethodName)) hown332 (mvT hZ332 (hw _ (List.mem_of_getElem? (i := 67) rfl))) (mvT hZ332 (hw _ (List.mem_of_getElem? (i := 68) rfl))) (mvT hZ332 (hw _ (List.mem_of_getElem? (i := 69) rfl))) (mvT hZ332 (hw _ (List.mem_of_getElem? (i := 70) rfl))) (by decide) (backOf (W := 0) (rm10o l Z a0 hw [] r324 fa330 l332 a1 cK330 kV wO wS wO_label wO_label_value k_wO wS_label wS_label_value k_wS tV kt pC h332 n0 Z334 M330 (FA330.ext E332) (V324.ext E332) (E_wO.ext O333.2) (F_wO_label.ext O333.2) (E_wO_label.ext O333.2) (F_wO_label_coder.ext O333.2) (F_wO_label_value.ext O333.2) (V_wO.ext O333.2) (E_wS.ext O333.2) (F_wS_label.ext O333.2) (E_wS_label.ext O333.2) (F_wS_label_coder.ext O333.2) (F_wS_label_value.ext O333.2) (V_wS.ext O333.2) ((E_a1.keep K324).ext E332) ((F_a1_value.keep K324 nin0).ext E332) ((F_a1_coder.keep K324 nin0).ext E332) ((V_t.keep K324 nin0).ext E332) hpc (S_pC.ext O333.2)) hZ332 (hw _ (List.mem_of_getElem? (i := 70) rfl)) (hw _ (List.mem_of_getElem? (i := 69) rfl)) (by decide) (by decide)) (g := (mkF m 24 #[.val (.ref a1)] [(.ref a1), (.ref l332), (.ref fa330), (.ref r324)])) rfl (by rw [hml]; rfl) (argsL := [(.ref r324), (.ref fa330), (.ref l332), (.ref a1)]) (rest := []) (lenOf pd___Ljava_lang_Object_Ljava_util_function_Function_Ljava_lang_String_Ljava_lang_String__Ljava_lang_Object_ rfl) rfl (by show 2 * 0 + _ ≤ _; exact Nat.le_of_eq rfl) (hb hby d4_24) (fun _ _ => ⟨rfl, e332, (by decide : 3 + 0 ≤ _), (by decide : 106 + 0 ≤ _)⟩)
  dsimp only [Pt.U, Pt.locs, Pt.cells, Pt.slots] at X338 l338 y338 z338 st338 hQ338
  subst l338 y338 z338
  obtain ⟨rfl, N338q, e338⟩ := hQ338
  have N338 := Fr.app N324 N338q
  have pre339 : ∀ t, Steps p.tables e below (T338.setTop (mkF m 27 #[.val (.ref a1)] [(.ref wO)])) t → Steps p.tables e below (s₁.setTop (entryFrame m #[(.ref a1)] 1)) t := by
    intro t k
    refine pre337 _ ?_
    show Steps p.tables e below (T332.setTop (mkF m 24 #[.val (.ref a1)] [(.ref a1), (.ref l332), (.ref fa330), (.ref r324)])) _
    refine st338 _ ?_
    exact k
  obtain ⟨T340, X340, e340, st340⟩ := castY X338 hx hZ332 hown332 (hw _ (List.mem_of_getElem? (i := 91) rfl)) e338 (Ins.self (E_wO.ext O333.2)) (g := (mkF m 27 #[.val (.ref a1)] [(.ref wO)])) rfl rfl (hb hby d4_27)
  have pre341 : ∀ t, Steps p.tables e below (T340.setTop (mkF m 30 #[.val (.ref a1)] [(.ref wO)])) t → Steps p.tables e below (s₁.setTop (entryFrame m #[(.ref a1)] 1)) t := by
    intro t k
    refine pre339 _ ?_
    show Steps p.tables e below (T338.setTop (mkF m 27 #[.val (.ref a1)] [(.ref wO)])) _
    refine st340 _ ?_
    exact k
  obtain ⟨fs, hr, hrun, hended, hsame⟩ := Stand.leaveW (s := s) (vm₁ := T332.vm) X340 hS332 (by rw [e340]; exact sk332) (v := some (.ref wO)) (fun h => by rw [hret] at h; cases h) (hlocks := hlocks)
  refine ⟨_, _, pre341 _ ?_, hrun, hended, _, _, rfl, ?_, ⟨hsame.1, hsame.2.1, hsame.2.2.1, hsame.2.2.2.mono (by decide) (by decide)⟩⟩
  · show Steps p.tables e below (T340.setTop (mkF m 30 #[.val (.ref a1)] [(.ref wO)])) _
    exact Jvm.RoadKit.retOut X340 hx hret rfl (Or.inr (Or.inr (Or.inr (Or.inr ⟨rfl, rfl, rfl⟩)))) (hb hby d4_30) hr
  · show Q4o Z a1 kV wO wS wO_label wO_label_value k_wO wS_label wS_label_value k_wS tV kt wV pC h0 n0 _ T340.heap _
    rw [e340]
    exact ⟨rfl, N338, KP335⟩
theorem ef_4s (m : MethodId) (x0 : Addr) : entryFrame m #[(.ref x0)] 1 = mkF m 0 #[.val (.ref x0)] [] := by first | (simp [entryFrame, mkF, argsToLocals, Value.category]; done) | rfl
def Q4s (Z : State) (a1 : Addr) (kV : ClassId) (wO : Addr) (wS : Addr) (wO_label : Addr) (wO_label_value : Addr) (k_wO : ClassId) (wS_label : Addr) (wS_label_value : Addr) (k_wS : ClassId) (tV : Addr) (kt : ClassId) (wV : Addr) (pC : Int32) (h0 : Heap) (n0 : Nat) (v : Option Value) (h : Heap) (L : List Loc) : Prop := v = some (.ref wS) ∧ Fr n0 L ∧ Keep h0 h []
set_option maxRecDepth 65536 in
set_option maxHeartbeats 40000000 in
theorem rm4s (l : Launch) (Z : State) (a0 : Array Value) (hw : ∀ d ∈ tables_1, d.before a0 Z = true) (ws : List Jvm.Cond) (a1 : Addr) (kV : ClassId) (wO : Addr) (wS : Addr) (wO_label : Addr) (wO_label_value : Addr) (k_wO : ClassId) (wS_label : Addr) (wS_label_value : Addr) (k_wS : ClassId) (tV : Addr) (kt : ClassId) (wV : Addr) (pC : Int32) (h0 : Heap) (n0 : Nat) (Z0 : n0 ≤ h0.size) (O0 : Old Z n0 h0) (E_wV : Exa Z Z.heap wV "[Lcom/example/matchbook/matchbook/Pricing;") (V_wV : Arv Z Z.heap wV kV (.object "com/example/matchbook/matchbook/Pricing") (2 : Int32) [.ref wO, .ref wS] .null) (E_wO : Exa Z Z.heap wO "com/example/matchbook/matchbook/Pricing") (F_wO_label : Fld Z Z.heap wO "com/example/matchbook/matchbook/Pricing" "label" "Ljava/lang/String;" (.ref wO_label)) (E_wO_label : Exa Z Z.heap wO_label "java/lang/String") (F_wO_label_coder : Fld Z Z.heap wO_label "java/lang/String" "coder" "B" (.int (0 : Int32))) (F_wO_label_value : Fld Z Z.heap wO_label "java/lang/String" "value" "[B" (.ref wO_label_value)) (V_wO : Arv Z Z.heap wO_label_value k_wO .byte (9 : Int32) [.int (111 : Int32), .int (110 : Int32), .int (45 : Int32), .int (100 : Int32), .int (101 : Int32), .int (109 : Int32), .int (97 : Int32), .int (110 : Int32), .int (100 : Int32)] (.int (0 : Int32))) (E_wS : Exa Z Z.heap wS "com/example/matchbook/matchbook/Pricing") (F_wS_label : Fld Z Z.heap wS "com/example/matchbook/matchbook/Pricing" "label" "Ljava/lang/String;" (.ref wS_label)) (E_wS_label : Exa Z Z.heap wS_label "java/lang/String") (F_wS_label_coder : Fld Z Z.heap wS_label "java/lang/String" "coder" "B" (.int (0 : Int32))) (F_wS_label_value : Fld Z Z.heap wS_label "java/lang/String" "value" "[B" (.ref wS_label_value)) (V_wS : Arv Z Z.heap wS_label_value k_wS .byte (4 : Int32) [.int (115 : Int32), .int (112 : Int32), .int (111 : Int32), .int (116 : Int32)] (.int (0 : Int32))) (E_a1 : Exa Z h0 a1 "java/lang/String") (F_a1_value : Fld Z h0 a1 "java/lang/String" "value" "[B" (.ref tV)) (F_a1_coder : Fld Z h0 a1 "java/lang/String" "coder" "B" (.int (0 : Int32))) (V_t : Arv Z h0 tV kt .byte (4 : Int32) [.int (115 : Int32), .int (112 : Int32), .int (111 : Int32), .int (116 : Int32)] (.int (0 : Int32))) (hpc : ¬ (pC = (0 : Int32))) (S_wV : Sta Z Z.heap "com/example/matchbook/matchbook/Pricing" "$VALUES" "[Lcom/example/matchbook/matchbook/Pricing;" (.ref wV)) (S_pC : Sta Z Z.heap "java/lang/String" "COMPACT_STRINGS" "Z" (.int pC)) :
    MetFree l (⟨"com/example/matchbook/matchbook/Pricing", "parse", "(Ljava/lang/String;)Lcom/example/matchbook/matchbook/Pricing;"⟩ : MethodName) (head1 (Jvm.Cond.code (⟨"com/example/matchbook/matchbook/Pricing", "parse", "(Ljava/lang/String;)Lcom/example/matchbook/matchbook/Pricing;"⟩ : MethodName) prog_7_method_7_code 1 (some (.object "com/example/matchbook/matchbook/Pricing")) :: ws) ({ frames := 3, cells := 3, slots := 106, locals := 3073 } : Room)) (fun a U => a = #[(.ref a1)] ∧ Z.Warmed39 U.vm ∧ U.heap = h0) (fun _ _ _ _ _ => True) (fun _ U o U' => ∃ v L, o = .returned v ∧ Q4s Z a1 kV wO wS wO_label wO_label_value k_wO wS_label wS_label_value k_wS tV kt wV pC h0 n0 v U'.heap L ∧ ReturnedEndW U o U' L ({ frames := 3, cells := 3, slots := 106, locals := 3073 } : Room).cells ({ frames := 3, cells := 3, slots := 106, locals := 3073 } : Room).slots) := by
  refine MetFree.of_bodySF (plainFor_of_name pn_11) hisR ?_
  intro p e s m args below meth c s₁ Bd hml0 hP hK
  obtain ⟨rfl, hZ, hh⟩ := hP
  have hx := Bd.exec
  have hby := Bd.bytes
  have hml : c.maxLocals = 1 := hml0
  have hown : s.vm.findClass "com/example/matchbook/matchbook/Pricing" = some m.cls := findClass_of_methodNamed Bd.named
  have hnm := (name_of_methodNamed Bd.named Bd.method).1
  have hret := Bd.returns
  have hlocks : meth.locks = false := Bd.notSynchronized
  have X0 : Stand p l e ({ frames := 3, cells := 3, slots := 106, locals := 3073 } : Room) s m #[(.ref a1)] below meth c s₁ [] 0 0 := Stand.of_body Bd
  have e0 : s₁.heap = h0 := by rw [← hh, Bd.state]; rfl
  have N0 := Fr.nil n0
  have hS0 : s.Since s.vm h0.size := (State.WarmedH.refl s).since _
  have SK0 : h0.size ≤ h0.size := Nat.le_refl _
  have pre0 : ∀ t, Steps p.tables e below (s₁.setTop (mkF m 0 #[.val (.ref a1)] [])) t → Steps p.tables e below (s₁.setTop (entryFrame m #[(.ref a1)] 1)) t := fun t k => castTop (ef_4s m a1) k
  have pre342 : ∀ t, Steps p.tables e below (s₁.setTop (mkF m 1 #[.val (.ref a1)] [(.ref a1)])) t → Steps p.tables e below (s₁.setTop (entryFrame m #[(.ref a1)] 1)) t := by
    intro t k
    refine pre0 _ ?_
    show Steps p.tables e below (s₁.setTop (mkF m 0 #[.val (.ref a1)] [])) _
    refine XS.aloadN X0.here hx rfl (hb hby d4_0) rfl rfl ?_
    exact k
  obtain ⟨cq343, kq343, q343a, q343b, q343c⟩ := isOf hZ e0 E_a1
  obtain ⟨_, _, ⟨T343, L343, k343, n343⟩, -, X343, ⟨Lc343, hQ343, l343, y343, z343⟩, st343⟩ := X0.virtualBack hx (y := (⟨"java/lang/String", "isEmpty", "()Z"⟩ : MethodName)) (z := (⟨"java/lang/String", "isEmpty", "()Z"⟩ : MethodName)) hown (mvT hZ (hw _ (List.mem_of_getElem? (i := 29) rfl))) (mvT hZ (hw _ (List.mem_of_getElem? (i := 30) rfl))) (notFace_of_selects (args := #[]) (mvT hZ (hw _ (List.mem_of_getElem? (i := 32) rfl)))) (mvT hZ (hw _ (List.mem_of_getElem? (i := 32) rfl))) (mvT hZ (hw _ (List.mem_of_getElem? (i := 31) rfl))) (by decide) (backOf (W := 0) (rm5s l Z a0 hw [] a1 tV kt [.int (115 : Int32), .int (112 : Int32), .int (111 : Int32), .int (116 : Int32)] (.int (0 : Int32)) h0 n0 Z0 F_a1_value V_t) hZ (hw _ (List.mem_of_getElem? (i := 33) rfl)) (hw _ (List.mem_of_getElem? (i := 7) rfl)) (by decide) (by decide)) q343a q343c (g := (mkF m 1 #[.val (.ref a1)] [(.ref a1)])) rfl (by rw [hml]; rfl) (Steps.refl _) (argsL := []) (rest := []) (lenOf pd___Z rfl) rfl (by show 2 * 0 + _ ≤ _; exact Nat.le_of_eq rfl) (hb hby d4_1) (fun _ _ => ⟨rfl, e0, (by decide : 0 + 0 ≤ _), (by decide : 0 + 0 ≤ _)⟩)
  dsimp only [Pt.U, Pt.locs, Pt.cells, Pt.slots] at X343 l343 y343 z343 st343 hQ343
  subst l343 y343 z343
  obtain ⟨rfl, N343q, e343⟩ := hQ343
  have N343 := Fr.app N0 N343q
  have pre344 : ∀ t, Steps p.tables e below (T343.setTop (mkF m 4 #[.val (.ref a1)] [(.int (0 : Int32))])) t → Steps p.tables e below (s₁.setTop (entryFrame m #[(.ref a1)] 1)) t := by
    intro t k
    refine pre342 _ ?_
    show Steps p.tables e below (s₁.setTop (mkF m 1 #[.val (.ref a1)] [(.ref a1)])) _
    refine st343.trans ?_
    exact k
  have pre346 : ∀ t, Steps p.tables e below (T343.setTop (mkF m 13 #[.val (.ref a1)] [])) t → Steps p.tables e below (s₁.setTop (entryFrame m #[(.ref a1)] 1)) t := by
    intro t k
    refine pre344 _ ?_
    show Steps p.tables e below (T343.setTop (mkF m 4 #[.val (.ref a1)] [(.int (0 : Int32))])) _
    refine XS.ifYes X343.here hx rfl (pc0 := 4) (pc' := 13) rfl (hb hby d4_4) rfl ((if0 _ _).trans (teq (rfl : (0 : Int32) = (0 : Int32))).1) (by decide) (by decide) ?_
    exact k
  obtain ⟨_, _, ⟨T347, L347, k347, n347⟩, -, X347, ⟨Lc347, hQ347, l347, y347, z347⟩, st347⟩ := Jvm.LawKit.callS X343 hx (y := (⟨"com/example/matchbook/matchbook/Pricing", "values", "()[Lcom/example/matchbook/matchbook/Pricing;"⟩ : MethodName)) hown (mvT hZ (hw _ (List.mem_of_getElem? (i := 48) rfl))) (mvT hZ (hw _ (List.mem_of_getElem? (i := 49) rfl))) (mvT hZ (hw _ (List.mem_of_getElem? (i := 3) rfl))) (mvT hZ (hw _ (List.mem_of_getElem? (i := 50) rfl))) (by decide) (backOf (W := 0) (rm9 l Z a0 hw [] kV wO wS wV h0 n0 Z0 (E_wV.ext O0.2) (V_wV.ext O0.2) (S_wV.ext O0.2)) hZ (hw _ (List.mem_of_getElem? (i := 50) rfl)) (hw _ (List.mem_of_getElem? (i := 3) rfl)) (by decide) (by decide)) (g := (mkF m 13 #[.val (.ref a1)] [])) rfl (by rw [hml]; rfl) (argsL := []) (rest := []) (lenOf pd____Lcom_example_matchbook_matchbook_Pricing_ rfl) rfl (by show 2 * 0 + _ ≤ _; exact Nat.le_of_eq rfl) (hb hby d4_13) (fun _ _ => ⟨rfl, e343, (by decide : 0 + 1 ≤ _), (by decide : 0 + 2 ≤ _)⟩)
  dsimp only [Pt.U, Pt.locs, Pt.cells, Pt.slots] at X347 l347 y347 z347 st347 hQ347
  subst l347 y347 z347
  obtain ⟨r347, rfl, N347q, K347, lr347, V347⟩ := hQ347
  have N347 := Fr.app N343 N347q
  have O348 := O0.keep K347 all0
  have Z349 : n0 ≤ T347.heap.size := Nat.le_trans Z0 K347.1
  have K350 := Nat.le_trans SK0 K347.1
  have KP351 := (Keep.refl h0 []).trans K347 all0
  have pre352 : ∀ t, Steps p.tables e below (T347.setTop (mkF m 16 #[.val (.ref a1)] [(.ref r347)])) t → Steps p.tables e below (s₁.setTop (entryFrame m #[(.ref a1)] 1)) t := by
    intro t k
    refine pre346 _ ?_
    show Steps p.tables e below (T343.setTop (mkF m 13 #[.val (.ref a1)] [])) _
    refine st347 _ ?_
    exact k
  obtain ⟨fa353, cK353, M353, FA353, st353⟩ := own_site X347 hx hZ O348 Bd.named (hw _ (List.mem_of_getElem? (i := 63) rfl)) rfl (g := (mkF m 16 #[.val (.ref a1)] [(.ref r347)])) rfl rfl (by rw [hml]; rfl) (hb hby d4_16) (W := 1) (by show 2 * 0 + _ ≤ _; exact Nat.le_of_eq rfl) (by decide)
  have pre354 : ∀ t, Steps p.tables e below (T347.setTop (mkF m 21 #[.val (.ref a1)] [(.ref fa353), (.ref r347)])) t → Steps p.tables e below (s₁.setTop (entryFrame m #[(.ref a1)] 1)) t := by
    intro t k
    refine pre352 _ ?_
    show Steps p.tables e below (T347.setTop (mkF m 16 #[.val (.ref a1)] [(.ref r347)])) _
    refine st353 _ ?_
    exact k
  obtain ⟨l355, T355, h355, kk355, X355, e355, E355, hS355, sk355, hZ355, hown355, st355⟩ := ldcS (s := s) (vm0 := s.vm) X347 hx hZ hown (hw _ (List.mem_of_getElem? (i := 66) rfl)) (own_wS hw) rfl hS0 K350 (g := (mkF m 21 #[.val (.ref a1)] [(.ref fa353), (.ref r347)])) rfl (hb hby d4_21) (n := 100) (by decide) (by decide) (by decide) (by decide)
  have O356 := O348.ext E355
  have Z357 : n0 ≤ h355.size := Nat.le_trans Z349 E355.1
  have KP358 := KP351.ext E355
  have pre359 : ∀ t, Steps p.tables e below (T355.setTop (mkF m 23 #[.val (.ref a1)] [(.ref l355), (.ref fa353), (.ref r347)])) t → Steps p.tables e below (s₁.setTop (entryFrame m #[(.ref a1)] 1)) t := by
    intro t k
    refine pre354 _ ?_
    show Steps p.tables e below (T347.setTop (mkF m 21 #[.val (.ref a1)] [(.ref fa353), (.ref r347)])) _
    refine st355 _ ?_
    exact k
  have pre360 : ∀ t, Steps p.tables e below (T355.setTop (mkF m 24 #[.val (.ref a1)] [(.ref a1), (.ref l355), (.ref fa353), (.ref r347)])) t → Steps p.tables e below (s₁.setTop (entryFrame m #[(.ref a1)] 1)) t := by
    intro t k
    refine pre359 _ ?_
    show Steps p.tables e below (T355.setTop (mkF m 23 #[.val (.ref a1)] [(.ref l355), (.ref fa353), (.ref r347)])) _
    refine XS.aloadN X355.here hx rfl (hb hby d4_23) rfl rfl ?_
    exact k
  obtain ⟨_, _, ⟨T361, L361, k361, n361⟩, -, X361, ⟨Lc361, hQ361, l361, y361, z361⟩, st361⟩ := Jvm.LawKit.callS X355 hx (y := (⟨"com/example/matchbook/matchbook/Labels", "parse", "([Ljava/lang/Object;Ljava/util/function/Function;Ljava/lang/String;Ljava/lang/String;)Ljava/lang/Object;"⟩ : MethodName)) hown355 (mvT hZ355 (hw _ (List.mem_of_getElem? (i := 67) rfl))) (mvT hZ355 (hw _ (List.mem_of_getElem? (i := 68) rfl))) (mvT hZ355 (hw _ (List.mem_of_getElem? (i := 69) rfl))) (mvT hZ355 (hw _ (List.mem_of_getElem? (i := 70) rfl))) (by decide) (backOf (W := 0) (rm10s l Z a0 hw [] r347 fa353 l355 a1 cK353 kV wO wS wO_label wO_label_value k_wO wS_label wS_label_value k_wS tV kt pC h355 n0 Z357 M353 (FA353.ext E355) (V347.ext E355) (E_wO.ext O356.2) (F_wO_label.ext O356.2) (E_wO_label.ext O356.2) (F_wO_label_coder.ext O356.2) (F_wO_label_value.ext O356.2) (V_wO.ext O356.2) (E_wS.ext O356.2) (F_wS_label.ext O356.2) (E_wS_label.ext O356.2) (F_wS_label_coder.ext O356.2) (F_wS_label_value.ext O356.2) (V_wS.ext O356.2) ((E_a1.keep K347).ext E355) ((F_a1_value.keep K347 nin0).ext E355) ((F_a1_coder.keep K347 nin0).ext E355) ((V_t.keep K347 nin0).ext E355) hpc (S_pC.ext O356.2)) hZ355 (hw _ (List.mem_of_getElem? (i := 70) rfl)) (hw _ (List.mem_of_getElem? (i := 69) rfl)) (by decide) (by decide)) (g := (mkF m 24 #[.val (.ref a1)] [(.ref a1), (.ref l355), (.ref fa353), (.ref r347)])) rfl (by rw [hml]; rfl) (argsL := [(.ref r347), (.ref fa353), (.ref l355), (.ref a1)]) (rest := []) (lenOf pd___Ljava_lang_Object_Ljava_util_function_Function_Ljava_lang_String_Ljava_lang_String__Ljava_lang_Object_ rfl) rfl (by show 2 * 0 + _ ≤ _; exact Nat.le_of_eq rfl) (hb hby d4_24) (fun _ _ => ⟨rfl, e355, (by decide : 3 + 0 ≤ _), (by decide : 106 + 0 ≤ _)⟩)
  dsimp only [Pt.U, Pt.locs, Pt.cells, Pt.slots] at X361 l361 y361 z361 st361 hQ361
  subst l361 y361 z361
  obtain ⟨rfl, N361q, e361⟩ := hQ361
  have N361 := Fr.app N347 N361q
  have pre362 : ∀ t, Steps p.tables e below (T361.setTop (mkF m 27 #[.val (.ref a1)] [(.ref wS)])) t → Steps p.tables e below (s₁.setTop (entryFrame m #[(.ref a1)] 1)) t := by
    intro t k
    refine pre360 _ ?_
    show Steps p.tables e below (T355.setTop (mkF m 24 #[.val (.ref a1)] [(.ref a1), (.ref l355), (.ref fa353), (.ref r347)])) _
    refine st361 _ ?_
    exact k
  obtain ⟨T363, X363, e363, st363⟩ := castY X361 hx hZ355 hown355 (hw _ (List.mem_of_getElem? (i := 91) rfl)) e361 (Ins.self (E_wS.ext O356.2)) (g := (mkF m 27 #[.val (.ref a1)] [(.ref wS)])) rfl rfl (hb hby d4_27)
  have pre364 : ∀ t, Steps p.tables e below (T363.setTop (mkF m 30 #[.val (.ref a1)] [(.ref wS)])) t → Steps p.tables e below (s₁.setTop (entryFrame m #[(.ref a1)] 1)) t := by
    intro t k
    refine pre362 _ ?_
    show Steps p.tables e below (T361.setTop (mkF m 27 #[.val (.ref a1)] [(.ref wS)])) _
    refine st363 _ ?_
    exact k
  obtain ⟨fs, hr, hrun, hended, hsame⟩ := Stand.leaveW (s := s) (vm₁ := T355.vm) X363 hS355 (by rw [e363]; exact sk355) (v := some (.ref wS)) (fun h => by rw [hret] at h; cases h) (hlocks := hlocks)
  refine ⟨_, _, pre364 _ ?_, hrun, hended, _, _, rfl, ?_, ⟨hsame.1, hsame.2.1, hsame.2.2.1, hsame.2.2.2.mono (by decide) (by decide)⟩⟩
  · show Steps p.tables e below (T363.setTop (mkF m 30 #[.val (.ref a1)] [(.ref wS)])) _
    exact Jvm.RoadKit.retOut X363 hx hret rfl (Or.inr (Or.inr (Or.inr (Or.inr ⟨rfl, rfl, rfl⟩)))) (hb hby d4_30) hr
  · show Q4s Z a1 kV wO wS wO_label wO_label_value k_wO wS_label wS_label_value k_wS tV kt wV pC h0 n0 _ T363.heap _
    rw [e363]
    exact ⟨rfl, N361, KP358⟩
theorem pd___C_V : parseMethodDescriptor "([C)V" = some ⟨[(.array .char)], none⟩ := by decide +kernel
theorem pd__Ljava_lang_String__Lcom_example_matchbook_matchbook_Pricing_ : parseMethodDescriptor "(Ljava/lang/String;)Lcom/example/matchbook/matchbook/Pricing;" = some ⟨[(.object "java/lang/String")], some (.object "com/example/matchbook/matchbook/Pricing")⟩ := by decide +kernel
theorem pn_0 : plainName "com/example/matchbook/matchbook/PricingParsePinLaw" = true := by first | (simp [plainName, overriddenIn]; done) | decide +kernel
theorem ef_0e (m : MethodId) (x0 : Int32) : entryFrame m #[(.int x0)] maxLocals = mkF m 0 #[.val (.int x0), .unset, .unset, .unset, .unset] [] := by first | (simp [entryFrame, mkF, argsToLocals, Value.category, maxLocals]; done) | rfl
def F0e  : Int32 :=
  (1 : Int32)
def Q0e (Z : State) (p1 : Int32) (kV : ClassId) (wO_label : Addr) (wO_label_value : Addr) (k_wO : ClassId) (wS_label : Addr) (wS_label_value : Addr) (k_wS : ClassId) (wO : Addr) (wS : Addr) (wV : Addr) (pC : Int32) (h0 : Heap) (n0 : Nat) (v : Option Value) (h : Heap) (L : List Loc) : Prop := v = some (.int (F0e)) ∧ Fr n0 L
set_option maxRecDepth 65536 in
set_option maxHeartbeats 40000000 in
theorem rm0e (l : Launch) (Z : State) (a0 : Array Value) (hw : ∀ d ∈ tables_1, d.before a0 Z = true) (ws : List Jvm.Cond) (p1 : Int32) (kV : ClassId) (wO_label : Addr) (wO_label_value : Addr) (k_wO : ClassId) (wS_label : Addr) (wS_label_value : Addr) (k_wS : ClassId) (wO : Addr) (wS : Addr) (wV : Addr) (pC : Int32) (h0 : Heap) (n0 : Nat) (Z0 : n0 ≤ h0.size) (O0 : Old Z n0 h0) (E_wV : Exa Z Z.heap wV "[Lcom/example/matchbook/matchbook/Pricing;") (V_wV : Arv Z Z.heap wV kV (.object "com/example/matchbook/matchbook/Pricing") (2 : Int32) [.ref wO, .ref wS] .null) (E_wO : Exa Z Z.heap wO "com/example/matchbook/matchbook/Pricing") (F_wO_label : Fld Z Z.heap wO "com/example/matchbook/matchbook/Pricing" "label" "Ljava/lang/String;" (.ref wO_label)) (E_wO_label : Exa Z Z.heap wO_label "java/lang/String") (F_wO_label_coder : Fld Z Z.heap wO_label "java/lang/String" "coder" "B" (.int (0 : Int32))) (F_wO_label_value : Fld Z Z.heap wO_label "java/lang/String" "value" "[B" (.ref wO_label_value)) (V_wO : Arv Z Z.heap wO_label_value k_wO .byte (9 : Int32) [.int (111 : Int32), .int (110 : Int32), .int (45 : Int32), .int (100 : Int32), .int (101 : Int32), .int (109 : Int32), .int (97 : Int32), .int (110 : Int32), .int (100 : Int32)] (.int (0 : Int32))) (E_wS : Exa Z Z.heap wS "com/example/matchbook/matchbook/Pricing") (F_wS_label : Fld Z Z.heap wS "com/example/matchbook/matchbook/Pricing" "label" "Ljava/lang/String;" (.ref wS_label)) (E_wS_label : Exa Z Z.heap wS_label "java/lang/String") (F_wS_label_coder : Fld Z Z.heap wS_label "java/lang/String" "coder" "B" (.int (0 : Int32))) (F_wS_label_value : Fld Z Z.heap wS_label "java/lang/String" "value" "[B" (.ref wS_label_value)) (V_wS : Arv Z Z.heap wS_label_value k_wS .byte (4 : Int32) [.int (115 : Int32), .int (112 : Int32), .int (111 : Int32), .int (116 : Int32)] (.int (0 : Int32))) (hpc : ¬ (pC = (0 : Int32))) (hk0 : ((p1 &&& (2147483647 : Int32)) % (3 : Int32)) = (0 : Int32)) (S_wO : Sta Z Z.heap "com/example/matchbook/matchbook/Pricing" "ON_DEMAND" "Lcom/example/matchbook/matchbook/Pricing;" (.ref wO)) (S_wS : Sta Z Z.heap "com/example/matchbook/matchbook/Pricing" "SPOT" "Lcom/example/matchbook/matchbook/Pricing;" (.ref wS)) (S_wV : Sta Z Z.heap "com/example/matchbook/matchbook/Pricing" "$VALUES" "[Lcom/example/matchbook/matchbook/Pricing;" (.ref wV)) (S_pC : Sta Z Z.heap "java/lang/String" "COMPACT_STRINGS" "Z" (.int pC)) :
    MetFree l x (head1 (Jvm.Cond.code x code maxLocals ret :: ws) room_1) (fun a U => a = #[(.int p1)] ∧ Z.Warmed39 U.vm ∧ U.heap = h0 ∧ CHv Z own_EL U.vm h0) (fun _ _ _ _ _ => True) (fun _ U o U' => ∃ v L, o = .returned v ∧ Q0e Z p1 kV wO_label wO_label_value k_wO wS_label wS_label_value k_wS wO wS wV pC h0 n0 v U'.heap L ∧ ReturnedEndW U o U' L room_1.cells room_1.slots) := by
  refine MetFree.of_bodySF (plainFor_of_name pn_0) hisR ?_
  intro p e s m args below meth c s₁ Bd hml0 hP hK
  obtain ⟨rfl, hZ, hh, hCH⟩ := hP
  have hx := Bd.exec
  have hby := Bd.bytes
  have hml : c.maxLocals = 5 := hml0
  have hown : s.vm.findClass "com/example/matchbook/matchbook/PricingParsePinLaw" = some m.cls := findClass_of_methodNamed Bd.named
  have hnm := (name_of_methodNamed Bd.named Bd.method).1
  have hret := Bd.returns
  have hlocks : meth.locks = false := Bd.notSynchronized
  have X0 : Stand p l e room_1 s m #[(.int p1)] below meth c s₁ [] 0 0 := Stand.of_body Bd
  have e0 : s₁.heap = h0 := by rw [← hh, Bd.state]; rfl
  have N0 := Fr.nil n0
  have hS0 : s.Since s.vm h0.size := (State.WarmedH.refl s).since _
  have SK0 : h0.size ≤ h0.size := Nat.le_refl _
  have pre0 : ∀ t, Steps p.tables e below (s₁.setTop (mkF m 0 #[.val (.int p1), .unset, .unset, .unset, .unset] [])) t → Steps p.tables e below (s₁.setTop (entryFrame m #[(.int p1)] maxLocals)) t := fun t k => castTop (ef_0e m p1) k
  have pre365 : ∀ t, Steps p.tables e below (s₁.setTop (mkF m 8 #[.val (.int p1), .val (.int ((p1 &&& (2147483647 : Int32)) % (3 : Int32))), .unset, .unset, .unset] [(.int ((p1 &&& (2147483647 : Int32)) % (3 : Int32)))])) t → Steps p.tables e below (s₁.setTop (entryFrame m #[(.int p1)] maxLocals)) t := by
    intro t k
    refine pre0 _ ?_
    show Steps p.tables e below (s₁.setTop (mkF m 0 #[.val (.int p1), .unset, .unset, .unset, .unset] [])) _
    refine XS.iloadN X0.here hx rfl (hb hby at_0) rfl ?_
    show Steps p.tables e below (s₁.setTop (mkF m 1 #[.val (.int p1), .unset, .unset, .unset, .unset] [(.int p1)])) _
    refine X0.ldcInt hx hown (mvT hZ (hw _ (List.mem_of_getElem? (i := 0) rfl))) (g := (mkF m 1 #[.val (.int p1), .unset, .unset, .unset, .unset] [(.int p1)])) rfl (hb hby at_1) _ ?_
    show Steps p.tables e below (s₁.setTop (mkF m 3 #[.val (.int p1), .unset, .unset, .unset, .unset] [(.int (2147483647 : Int32)), (.int p1)])) _
    refine XS.iand X0.here hx rfl (hb hby at_3) rfl ?_
    show Steps p.tables e below (s₁.setTop (mkF m 4 #[.val (.int p1), .unset, .unset, .unset, .unset] [(.int (p1 &&& (2147483647 : Int32)))])) _
    refine XS.iconst X0.here hx rfl (hb hby at_4) ?_
    show Steps p.tables e below (s₁.setTop (mkF m 5 #[.val (.int p1), .unset, .unset, .unset, .unset] [(.int (3 : Int32)), (.int (p1 &&& (2147483647 : Int32)))])) _
    refine iremM X0 hx rfl (hb hby at_5) rfl (by decide) ?_
    show Steps p.tables e below (s₁.setTop (mkF m 6 #[.val (.int p1), .unset, .unset, .unset, .unset] [(.int ((p1 &&& (2147483647 : Int32)) % (3 : Int32)))])) _
    refine XS.istoreN X0.here hx rfl (hb hby at_6) rfl (l' := #[.val (.int p1), .val (.int ((p1 &&& (2147483647 : Int32)) % (3 : Int32))), .unset, .unset, .unset]) rfl ?_
    show Steps p.tables e below (s₁.setTop (mkF m 7 #[.val (.int p1), .val (.int ((p1 &&& (2147483647 : Int32)) % (3 : Int32))), .unset, .unset, .unset] [])) _
    refine XS.iloadN X0.here hx rfl (hb hby at_7) rfl ?_
    exact k
  have pre367 : ∀ t, Steps p.tables e below (s₁.setTop (mkF m 11 #[.val (.int p1), .val (.int ((p1 &&& (2147483647 : Int32)) % (3 : Int32))), .unset, .unset, .unset] [])) t → Steps p.tables e below (s₁.setTop (entryFrame m #[(.int p1)] maxLocals)) t := by
    intro t k
    refine pre365 _ ?_
    show Steps p.tables e below (s₁.setTop (mkF m 8 #[.val (.int p1), .val (.int ((p1 &&& (2147483647 : Int32)) % (3 : Int32))), .unset, .unset, .unset] [(.int ((p1 &&& (2147483647 : Int32)) % (3 : Int32)))])) _
    refine XS.ifNo X0.here hx rfl (hb hby at_8) rfl ((if0 _ _).trans (teq hk0).2) ?_
    exact k
  have pre368 : ∀ t, Steps p.tables e below (s₁.setTop (mkF m 12 #[.val (.int p1), .val (.int ((p1 &&& (2147483647 : Int32)) % (3 : Int32))), .unset, .unset, .unset] [(.int (0 : Int32))])) t → Steps p.tables e below (s₁.setTop (entryFrame m #[(.int p1)] maxLocals)) t := by
    intro t k
    refine pre367 _ ?_
    show Steps p.tables e below (s₁.setTop (mkF m 11 #[.val (.int p1), .val (.int ((p1 &&& (2147483647 : Int32)) % (3 : Int32))), .unset, .unset, .unset] [])) _
    refine XS.iconst X0.here hx rfl (hb hby at_11) ?_
    exact k
  obtain ⟨T369, h369, k369, X369, e369, E369, A369, st369⟩ := newP X0 hx hZ (hw _ (List.mem_of_getElem? (i := 1) rfl)) e0 (g := (mkF m 12 #[.val (.int p1), .val (.int ((p1 &&& (2147483647 : Int32)) % (3 : Int32))), .unset, .unset, .unset] [(.int (0 : Int32))])) rfl (hb hby at_12) rfl (by decide) (cap := 0) (by decide) (by decide) (by decide) (by decide)
  obtain ⟨b369, g369⟩ : ∃ z, z = h0.size := ⟨_, rfl⟩
  rw [← g369] at A369 st369
  have g_b369 : n0 ≤ b369 := Nat.le_trans Z0 (Nat.le_of_eq g369.symm)
  have O370 := O0.ext E369
  have Z371 : n0 ≤ h369.size := Nat.le_trans Z0 E369.1
  have K372 := Nat.le_trans SK0 E369.1
  have V369 : Arv Z h369 b369 k369 .char (0 : Int32) [] (.int (0 : Int32)) := Arv.new A369 (by decide)
  have pre373 : ∀ t, Steps p.tables e below (T369.setTop (mkF m 14 #[.val (.int p1), .val (.int ((p1 &&& (2147483647 : Int32)) % (3 : Int32))), .unset, .unset, .unset] [(.ref b369)])) t → Steps p.tables e below (s₁.setTop (entryFrame m #[(.int p1)] maxLocals)) t := by
    intro t k
    refine pre368 _ ?_
    show Steps p.tables e below (s₁.setTop (mkF m 12 #[.val (.int p1), .val (.int ((p1 &&& (2147483647 : Int32)) % (3 : Int32))), .unset, .unset, .unset] [(.int (0 : Int32))])) _
    refine st369 _ ?_
    exact k
  have pre374 : ∀ t, Steps p.tables e below (T369.setTop (mkF m 15 #[.val (.int p1), .val (.int ((p1 &&& (2147483647 : Int32)) % (3 : Int32))), .val (.ref b369), .unset, .unset] [])) t → Steps p.tables e below (s₁.setTop (entryFrame m #[(.int p1)] maxLocals)) t := by
    intro t k
    refine pre373 _ ?_
    show Steps p.tables e below (T369.setTop (mkF m 14 #[.val (.int p1), .val (.int ((p1 &&& (2147483647 : Int32)) % (3 : Int32))), .unset, .unset, .unset] [(.ref b369)])) _
    refine XS.astoreN X369.here hx rfl (hb hby at_14) rfl rfl (l' := #[.val (.int p1), .val (.int ((p1 &&& (2147483647 : Int32)) % (3 : Int32))), .val (.ref b369), .unset, .unset]) rfl ?_
    exact k
  obtain ⟨T375, X375, e375, st375⟩ := getS2 X369 hx hZ hown (host := "") (Or.inl (hw _ (List.mem_of_getElem? (i := 2) rfl))) Via.refl e369 (S_wO.ext O370.2) (g := (mkF m 15 #[.val (.int p1), .val (.int ((p1 &&& (2147483647 : Int32)) % (3 : Int32))), .val (.ref b369), .unset, .unset] [])) rfl (hb hby at_15)
  have pre376 : ∀ t, Steps p.tables e below (T375.setTop (mkF m 18 #[.val (.int p1), .val (.int ((p1 &&& (2147483647 : Int32)) % (3 : Int32))), .val (.ref b369), .unset, .unset] [(.ref wO)])) t → Steps p.tables e below (s₁.setTop (entryFrame m #[(.int p1)] maxLocals)) t := by
    intro t k
    refine pre374 _ ?_
    show Steps p.tables e below (T369.setTop (mkF m 15 #[.val (.int p1), .val (.int ((p1 &&& (2147483647 : Int32)) % (3 : Int32))), .val (.ref b369), .unset, .unset] [])) _
    refine st375 _ ?_
    exact k
  have pre377 : ∀ t, Steps p.tables e below (T375.setTop (mkF m 115 #[.val (.int p1), .val (.int ((p1 &&& (2147483647 : Int32)) % (3 : Int32))), .val (.ref b369), .val (.ref wO), .unset] [])) t → Steps p.tables e below (s₁.setTop (entryFrame m #[(.int p1)] maxLocals)) t := by
    intro t k
    refine pre376 _ ?_
    show Steps p.tables e below (T375.setTop (mkF m 18 #[.val (.int p1), .val (.int ((p1 &&& (2147483647 : Int32)) % (3 : Int32))), .val (.ref b369), .unset, .unset] [(.ref wO)])) _
    refine XS.astoreN X375.here hx rfl (hb hby at_18) rfl rfl (l' := #[.val (.int p1), .val (.int ((p1 &&& (2147483647 : Int32)) % (3 : Int32))), .val (.ref b369), .val (.ref wO), .unset]) rfl ?_
    show Steps p.tables e below (T375.setTop (mkF m 19 #[.val (.int p1), .val (.int ((p1 &&& (2147483647 : Int32)) % (3 : Int32))), .val (.ref b369), .val (.ref wO), .unset] [])) _
    refine XS.goto X375.here hx rfl (pc0 := 19) (pc' := 115) rfl (hb hby at_19) (by decide) (by decide) ?_
    exact k
  obtain ⟨T378, h378, X378, e378, E378, A378, D378, -, st378⟩ := newO X375 hx hZ hown (hw _ (List.mem_of_getElem? (i := 5) rfl)) (hw _ (List.mem_of_getElem? (i := 6) rfl)) (hw _ (List.mem_of_getElem? (i := 7) rfl)) e375 (g := (mkF m 115 #[.val (.int p1), .val (.int ((p1 &&& (2147483647 : Int32)) % (3 : Int32))), .val (.ref b369), .val (.ref wO), .unset] [])) rfl (hb hby at_115) (by decide) (by decide)
  obtain ⟨b378, g378⟩ : ∃ z, z = h369.size := ⟨_, rfl⟩
  rw [← g378] at A378 D378 st378
  have g_b378 : n0 ≤ b378 := Nat.le_trans Z371 (Nat.le_of_eq g378.symm)
  have ne_b369_b378 : b369 ≠ b378 := Nat.ne_of_lt (Nat.lt_of_lt_of_le V369.lt (Nat.le_of_eq g378.symm))
  have O379 := O370.ext E378
  have Z380 : n0 ≤ h378.size := Nat.le_trans Z371 E378.1
  have K381 := Nat.le_trans K372 E378.1
  have F_value_b378 : Fld Z h378 b378 "java/lang/String" "value" "[B" .null := D378 (Or.inr (hw _ (List.mem_of_getElem? (i := 20) rfl))) (ty := (.array .byte)) (by decide)
  have F_coder_b378 : Fld Z h378 b378 "java/lang/String" "coder" "B" (.int (0 : Int32)) := D378 (Or.inr (hw _ (List.mem_of_getElem? (i := 21) rfl))) (ty := .byte) (by decide)
  have pre382 : ∀ t, Steps p.tables e below (T378.setTop (mkF m 118 #[.val (.int p1), .val (.int ((p1 &&& (2147483647 : Int32)) % (3 : Int32))), .val (.ref b369), .val (.ref wO), .unset] [(.ref b378)])) t → Steps p.tables e below (s₁.setTop (entryFrame m #[(.int p1)] maxLocals)) t := by
    intro t k
    refine pre377 _ ?_
    show Steps p.tables e below (T375.setTop (mkF m 115 #[.val (.int p1), .val (.int ((p1 &&& (2147483647 : Int32)) % (3 : Int32))), .val (.ref b369), .val (.ref wO), .unset] [])) _
    refine st378 _ ?_
    exact k
  have pre383 : ∀ t, Steps p.tables e below (T378.setTop (mkF m 120 #[.val (.int p1), .val (.int ((p1 &&& (2147483647 : Int32)) % (3 : Int32))), .val (.ref b369), .val (.ref wO), .unset] [(.ref b369), (.ref b378), (.ref b378)])) t → Steps p.tables e below (s₁.setTop (entryFrame m #[(.int p1)] maxLocals)) t := by
    intro t k
    refine pre382 _ ?_
    show Steps p.tables e below (T378.setTop (mkF m 118 #[.val (.int p1), .val (.int ((p1 &&& (2147483647 : Int32)) % (3 : Int32))), .val (.ref b369), .val (.ref wO), .unset] [(.ref b378)])) _
    refine XS.dup X378.here hx rfl (hb hby at_118) rfl rfl ?_
    show Steps p.tables e below (T378.setTop (mkF m 119 #[.val (.int p1), .val (.int ((p1 &&& (2147483647 : Int32)) % (3 : Int32))), .val (.ref b369), .val (.ref wO), .unset] [(.ref b378), (.ref b378)])) _
    refine XS.aloadN X378.here hx rfl (hb hby at_119) rfl rfl ?_
    exact k
  obtain ⟨_, _, ⟨T384, L384, k384, n384⟩, -, X384, sS384, gr384, ⟨Lc384, hQ384, l384, y384, z384⟩, st384⟩ := X378.specialBackS hx (y := (⟨"java/lang/String", "<init>", "([C)V"⟩ : MethodName)) rfl hown (mvT hZ (hw _ (List.mem_of_getElem? (i := 8) rfl))) (mvT hZ (hw _ (List.mem_of_getElem? (i := 9) rfl))) (mvT hZ (hw _ (List.mem_of_getElem? (i := 10) rfl))) (by decide) (own_backI (W := 1) (rm1e l Z a0 hw [] b378 b369 .null (.int (0 : Int32)) k369 [] (.int (0 : Int32)) h378 n0 Z380 A378 F_value_b378 F_coder_b378 g_b378 (V369.ext E378)) hZ (hw _ (List.mem_of_getElem? (i := 10) rfl)) (hw _ (List.mem_of_getElem? (i := 7) rfl)) (by decide) (by decide) (own_EW hw) ((hCH.ext E369).ext E378)) (g := (mkF m 120 #[.val (.int p1), .val (.int ((p1 &&& (2147483647 : Int32)) % (3 : Int32))), .val (.ref b369), .val (.ref wO), .unset] [(.ref b369), (.ref b378), (.ref b378)])) rfl (by rw [hml]; rfl) (Steps.refl _) (a := b378) (argsL := [(.ref b369)]) (rest := [(.ref b378)]) (lenOf pd___C_V rfl) rfl (by show 2 * 0 + _ ≤ _; exact Nat.le_of_eq rfl) (hb hby at_120) (fun _ _ => ⟨rfl, e378, (by decide : 2 + 2 ≤ _), (by decide : 4 + 4 ≤ _)⟩)
  dsimp only [Pt.U, Pt.locs, Pt.cells, Pt.slots] at X384 l384 y384 z384 st384 hQ384 sS384 gr384
  subst l384 y384 z384
  obtain ⟨rfl, N384q, K384, E384, t384, kt384, Fv384, Fc384, V384⟩ := hQ384
  have N384 := Fr.app N0 N384q
  have O385 := O379.keep K384 (allS g_b378 all0)
  have Z386 : n0 ≤ T384.heap.size := Nat.le_trans Z380 K384.1
  have K387 := Nat.le_trans K381 K384.1
  have hS384 := foldS (s := s) (vm0 := s.vm) hS0 (by rw [e378]; exact K381) sS384 gr384
  have hZ384 : Z.Warmed39 (s.setVm T384.vm).vm := State.Warmed39.trans (t := s.setVm s.vm) hZ sS384.1
  have hown384 : (s.setVm T384.vm).vm.findClass "com/example/matchbook/matchbook/PricingParsePinLaw" = some m.cls := by rw [show (s.setVm T384.vm).vm = T384.vm from rfl, sS384.1.alike.findClass]; exact hown
  have X384 : Stand p l e room_1 (s.setVm T384.vm) m _ below meth c T384 _ _ _ := X384
  have pre388 : ∀ t, Steps p.tables e below (T384.setTop (mkF m 123 #[.val (.int p1), .val (.int ((p1 &&& (2147483647 : Int32)) % (3 : Int32))), .val (.ref b369), .val (.ref wO), .unset] [(.ref b378)])) t → Steps p.tables e below (s₁.setTop (entryFrame m #[(.int p1)] maxLocals)) t := by
    intro t k
    refine pre383 _ ?_
    show Steps p.tables e below (T378.setTop (mkF m 120 #[.val (.int p1), .val (.int ((p1 &&& (2147483647 : Int32)) % (3 : Int32))), .val (.ref b369), .val (.ref wO), .unset] [(.ref b369), (.ref b378), (.ref b378)])) _
    refine st384.trans ?_
    exact k
  have pre389 : ∀ t, Steps p.tables e below (T384.setTop (mkF m 127 #[.val (.int p1), .val (.int ((p1 &&& (2147483647 : Int32)) % (3 : Int32))), .val (.ref b369), .val (.ref wO), .val (.ref b378)] [(.ref b378)])) t → Steps p.tables e below (s₁.setTop (entryFrame m #[(.int p1)] maxLocals)) t := by
    intro t k
    refine pre388 _ ?_
    show Steps p.tables e below (T384.setTop (mkF m 123 #[.val (.int p1), .val (.int ((p1 &&& (2147483647 : Int32)) % (3 : Int32))), .val (.ref b369), .val (.ref wO), .unset] [(.ref b378)])) _
    refine XS.astore X384.here hx rfl (hb hby at_123) rfl rfl (l' := #[.val (.int p1), .val (.int ((p1 &&& (2147483647 : Int32)) % (3 : Int32))), .val (.ref b369), .val (.ref wO), .val (.ref b378)]) rfl ?_
    show Steps p.tables e below (T384.setTop (mkF m 125 #[.val (.int p1), .val (.int ((p1 &&& (2147483647 : Int32)) % (3 : Int32))), .val (.ref b369), .val (.ref wO), .val (.ref b378)] [])) _
    refine XS.aload X384.here hx rfl (hb hby at_125) rfl rfl ?_
    exact k
  obtain ⟨_, _, ⟨T390, L390, k390, n390⟩, -, X390, ⟨Lc390, hQ390, l390, y390, z390⟩, st390⟩ := Jvm.LawKit.callS X384 hx (y := (⟨"com/example/matchbook/matchbook/Pricing", "parse", "(Ljava/lang/String;)Lcom/example/matchbook/matchbook/Pricing;"⟩ : MethodName)) hown384 (mvT hZ384 (hw _ (List.mem_of_getElem? (i := 26) rfl))) (mvT hZ384 (hw _ (List.mem_of_getElem? (i := 27) rfl))) (mvT hZ384 (hw _ (List.mem_of_getElem? (i := 3) rfl))) (mvT hZ384 (hw _ (List.mem_of_getElem? (i := 28) rfl))) (by decide) (backOf (W := 0) (rm4e l Z a0 hw [] b378 t384 kt384 wO T384.heap n0 Z386 E384 Fv384 V384 (S_wO.ext O385.2)) hZ384 (hw _ (List.mem_of_getElem? (i := 28) rfl)) (hw _ (List.mem_of_getElem? (i := 3) rfl)) (by decide) (by decide)) (g := (mkF m 127 #[.val (.int p1), .val (.int ((p1 &&& (2147483647 : Int32)) % (3 : Int32))), .val (.ref b369), .val (.ref wO), .val (.ref b378)] [(.ref b378)])) rfl (by rw [hml]; rfl) (argsL := [(.ref b378)]) (rest := []) (lenOf pd__Ljava_lang_String__Lcom_example_matchbook_matchbook_Pricing_ rfl) rfl (by show 2 * 0 + _ ≤ _; exact Nat.le_of_eq rfl) (hb hby at_127) (fun _ _ => ⟨rfl, rfl, (by decide : 4 + 0 ≤ _), (by decide : 8 + 0 ≤ _)⟩)
  dsimp only [Pt.U, Pt.locs, Pt.cells, Pt.slots] at X390 l390 y390 z390 st390 hQ390
  subst l390 y390 z390
  obtain ⟨rfl, N390q, e390⟩ := hQ390
  have N390 := Fr.app N384 N390q
  have pre391 : ∀ t, Steps p.tables e below (T390.setTop (mkF m 130 #[.val (.int p1), .val (.int ((p1 &&& (2147483647 : Int32)) % (3 : Int32))), .val (.ref b369), .val (.ref wO), .val (.ref b378)] [(.ref wO)])) t → Steps p.tables e below (s₁.setTop (entryFrame m #[(.int p1)] maxLocals)) t := by
    intro t k
    refine pre389 _ ?_
    show Steps p.tables e below (T384.setTop (mkF m 127 #[.val (.int p1), .val (.int ((p1 &&& (2147483647 : Int32)) % (3 : Int32))), .val (.ref b369), .val (.ref wO), .val (.ref b378)] [(.ref b378)])) _
    refine st390 _ ?_
    exact k
  have pre392 : ∀ t, Steps p.tables e below (T390.setTop (mkF m 131 #[.val (.int p1), .val (.int ((p1 &&& (2147483647 : Int32)) % (3 : Int32))), .val (.ref b369), .val (.ref wO), .val (.ref b378)] [(.ref wO), (.ref wO)])) t → Steps p.tables e below (s₁.setTop (entryFrame m #[(.int p1)] maxLocals)) t := by
    intro t k
    refine pre391 _ ?_
    show Steps p.tables e below (T390.setTop (mkF m 130 #[.val (.int p1), .val (.int ((p1 &&& (2147483647 : Int32)) % (3 : Int32))), .val (.ref b369), .val (.ref wO), .val (.ref b378)] [(.ref wO)])) _
    refine XS.aloadN X390.here hx rfl (hb hby at_130) rfl rfl ?_
    exact k
  have pre393 : ∀ t, Steps p.tables e below (T390.setTop (mkF m 134 #[.val (.int p1), .val (.int ((p1 &&& (2147483647 : Int32)) % (3 : Int32))), .val (.ref b369), .val (.ref wO), .val (.ref b378)] [])) t → Steps p.tables e below (s₁.setTop (entryFrame m #[(.int p1)] maxLocals)) t := by
    intro t k
    refine pre392 _ ?_
    show Steps p.tables e below (T390.setTop (mkF m 131 #[.val (.int p1), .val (.int ((p1 &&& (2147483647 : Int32)) % (3 : Int32))), .val (.ref b369), .val (.ref wO), .val (.ref b378)] [(.ref wO), (.ref wO)])) _
    refine Jvm.RoadKit.acmp (g := (mkF m 131 #[.val (.int p1), .val (.int ((p1 &&& (2147483647 : Int32)) % (3 : Int32))), .val (.ref b369), .val (.ref wO), .val (.ref b378)] [(.ref wO), (.ref wO)])) X390 hx rfl rfl rfl (pc0 := 131) (pc' := 134) (same := true) rfl (hb hby at_131) rfl (decide_eq_true rfl) (by decide) (by decide) ?_
    exact k
  have pre394 : ∀ t, Steps p.tables e below (T390.setTop (mkF m 139 #[.val (.int p1), .val (.int ((p1 &&& (2147483647 : Int32)) % (3 : Int32))), .val (.ref b369), .val (.ref wO), .val (.ref b378)] [(.int (1 : Int32))])) t → Steps p.tables e below (s₁.setTop (entryFrame m #[(.int p1)] maxLocals)) t := by
    intro t k
    refine pre393 _ ?_
    show Steps p.tables e below (T390.setTop (mkF m 134 #[.val (.int p1), .val (.int ((p1 &&& (2147483647 : Int32)) % (3 : Int32))), .val (.ref b369), .val (.ref wO), .val (.ref b378)] [])) _
    refine XS.iconst X390.here hx rfl (hb hby at_134) ?_
    show Steps p.tables e below (T390.setTop (mkF m 135 #[.val (.int p1), .val (.int ((p1 &&& (2147483647 : Int32)) % (3 : Int32))), .val (.ref b369), .val (.ref wO), .val (.ref b378)] [(.int (1 : Int32))])) _
    refine XS.goto X390.here hx rfl (pc0 := 135) (pc' := 139) rfl (hb hby at_135) (by decide) (by decide) ?_
    exact k
  obtain ⟨fs, hr, hrun, hended, hsame⟩ := Stand.leaveW (s := s) (vm₁ := T384.vm) X390 hS384 (by rw [e390]; exact (Nat.le_refl _)) (v := some (.int (1 : Int32))) (fun h => by rw [hret] at h; cases h) (hlocks := hlocks)
  refine ⟨_, _, pre394 _ ?_, hrun, hended, _, _, rfl, ?_, ⟨hsame.1, hsame.2.1, hsame.2.2.1, hsame.2.2.2.mono (by decide) (by decide)⟩⟩
  · show Steps p.tables e below (T390.setTop (mkF m 139 #[.val (.int p1), .val (.int ((p1 &&& (2147483647 : Int32)) % (3 : Int32))), .val (.ref b369), .val (.ref wO), .val (.ref b378)] [(.int (1 : Int32))])) _
    exact retN X390 hx (t := .boolean) hret (by simp) (hb hby at_139) hr
  · show Q0e Z p1 kV wO_label wO_label_value k_wO wS_label wS_label_value k_wS wO wS wV pC h0 n0 _ T390.heap _
    exact ⟨(by rw [F0e]), N390⟩
theorem ef_0o (m : MethodId) (x0 : Int32) : entryFrame m #[(.int x0)] maxLocals = mkF m 0 #[.val (.int x0), .unset, .unset, .unset, .unset] [] := by first | (simp [entryFrame, mkF, argsToLocals, Value.category, maxLocals]; done) | rfl
def F0o  : Int32 :=
  (1 : Int32)
def Q0o (Z : State) (p1 : Int32) (kV : ClassId) (wO_label : Addr) (wO_label_value : Addr) (k_wO : ClassId) (wS_label : Addr) (wS_label_value : Addr) (k_wS : ClassId) (wO : Addr) (wS : Addr) (wV : Addr) (pC : Int32) (h0 : Heap) (n0 : Nat) (v : Option Value) (h : Heap) (L : List Loc) : Prop := v = some (.int (F0o)) ∧ Fr n0 L
set_option maxRecDepth 65536 in
set_option maxHeartbeats 40000000 in
theorem rm0o (l : Launch) (Z : State) (a0 : Array Value) (hw : ∀ d ∈ tables_1, d.before a0 Z = true) (ws : List Jvm.Cond) (p1 : Int32) (kV : ClassId) (wO_label : Addr) (wO_label_value : Addr) (k_wO : ClassId) (wS_label : Addr) (wS_label_value : Addr) (k_wS : ClassId) (wO : Addr) (wS : Addr) (wV : Addr) (pC : Int32) (h0 : Heap) (n0 : Nat) (Z0 : n0 ≤ h0.size) (O0 : Old Z n0 h0) (E_wV : Exa Z Z.heap wV "[Lcom/example/matchbook/matchbook/Pricing;") (V_wV : Arv Z Z.heap wV kV (.object "com/example/matchbook/matchbook/Pricing") (2 : Int32) [.ref wO, .ref wS] .null) (E_wO : Exa Z Z.heap wO "com/example/matchbook/matchbook/Pricing") (F_wO_label : Fld Z Z.heap wO "com/example/matchbook/matchbook/Pricing" "label" "Ljava/lang/String;" (.ref wO_label)) (E_wO_label : Exa Z Z.heap wO_label "java/lang/String") (F_wO_label_coder : Fld Z Z.heap wO_label "java/lang/String" "coder" "B" (.int (0 : Int32))) (F_wO_label_value : Fld Z Z.heap wO_label "java/lang/String" "value" "[B" (.ref wO_label_value)) (V_wO : Arv Z Z.heap wO_label_value k_wO .byte (9 : Int32) [.int (111 : Int32), .int (110 : Int32), .int (45 : Int32), .int (100 : Int32), .int (101 : Int32), .int (109 : Int32), .int (97 : Int32), .int (110 : Int32), .int (100 : Int32)] (.int (0 : Int32))) (E_wS : Exa Z Z.heap wS "com/example/matchbook/matchbook/Pricing") (F_wS_label : Fld Z Z.heap wS "com/example/matchbook/matchbook/Pricing" "label" "Ljava/lang/String;" (.ref wS_label)) (E_wS_label : Exa Z Z.heap wS_label "java/lang/String") (F_wS_label_coder : Fld Z Z.heap wS_label "java/lang/String" "coder" "B" (.int (0 : Int32))) (F_wS_label_value : Fld Z Z.heap wS_label "java/lang/String" "value" "[B" (.ref wS_label_value)) (V_wS : Arv Z Z.heap wS_label_value k_wS .byte (4 : Int32) [.int (115 : Int32), .int (112 : Int32), .int (111 : Int32), .int (116 : Int32)] (.int (0 : Int32))) (hpc : ¬ (pC = (0 : Int32))) (hk0 : ¬ (((p1 &&& (2147483647 : Int32)) % (3 : Int32)) = (0 : Int32))) (hk1 : ((p1 &&& (2147483647 : Int32)) % (3 : Int32)) = (1 : Int32)) (S_wO : Sta Z Z.heap "com/example/matchbook/matchbook/Pricing" "ON_DEMAND" "Lcom/example/matchbook/matchbook/Pricing;" (.ref wO)) (S_wS : Sta Z Z.heap "com/example/matchbook/matchbook/Pricing" "SPOT" "Lcom/example/matchbook/matchbook/Pricing;" (.ref wS)) (S_wV : Sta Z Z.heap "com/example/matchbook/matchbook/Pricing" "$VALUES" "[Lcom/example/matchbook/matchbook/Pricing;" (.ref wV)) (S_pC : Sta Z Z.heap "java/lang/String" "COMPACT_STRINGS" "Z" (.int pC)) :
    MetFree l x (head1 (Jvm.Cond.code x code maxLocals ret :: ws) room_1) (fun a U => a = #[(.int p1)] ∧ Z.Warmed39 U.vm ∧ U.heap = h0) (fun _ _ _ _ _ => True) (fun _ U o U' => ∃ v L, o = .returned v ∧ Q0o Z p1 kV wO_label wO_label_value k_wO wS_label wS_label_value k_wS wO wS wV pC h0 n0 v U'.heap L ∧ ReturnedEndW U o U' L room_1.cells room_1.slots) := by
  refine MetFree.of_bodySF (plainFor_of_name pn_0) hisR ?_
  intro p e s m args below meth c s₁ Bd hml0 hP hK
  obtain ⟨rfl, hZ, hh⟩ := hP
  have hx := Bd.exec
  have hby := Bd.bytes
  have hml : c.maxLocals = 5 := hml0
  have hown : s.vm.findClass "com/example/matchbook/matchbook/PricingParsePinLaw" = some m.cls := findClass_of_methodNamed Bd.named
  have hnm := (name_of_methodNamed Bd.named Bd.method).1
  have hret := Bd.returns
  have hlocks : meth.locks = false := Bd.notSynchronized
  have X0 : Stand p l e room_1 s m #[(.int p1)] below meth c s₁ [] 0 0 := Stand.of_body Bd
  have e0 : s₁.heap = h0 := by rw [← hh, Bd.state]; rfl
  have N0 := Fr.nil n0
  have hS0 : s.Since s.vm h0.size := (State.WarmedH.refl s).since _
  have SK0 : h0.size ≤ h0.size := Nat.le_refl _
  have pre0 : ∀ t, Steps p.tables e below (s₁.setTop (mkF m 0 #[.val (.int p1), .unset, .unset, .unset, .unset] [])) t → Steps p.tables e below (s₁.setTop (entryFrame m #[(.int p1)] maxLocals)) t := fun t k => castTop (ef_0o m p1) k
  have pre395 : ∀ t, Steps p.tables e below (s₁.setTop (mkF m 8 #[.val (.int p1), .val (.int ((p1 &&& (2147483647 : Int32)) % (3 : Int32))), .unset, .unset, .unset] [(.int ((p1 &&& (2147483647 : Int32)) % (3 : Int32)))])) t → Steps p.tables e below (s₁.setTop (entryFrame m #[(.int p1)] maxLocals)) t := by
    intro t k
    refine pre0 _ ?_
    show Steps p.tables e below (s₁.setTop (mkF m 0 #[.val (.int p1), .unset, .unset, .unset, .unset] [])) _
    refine XS.iloadN X0.here hx rfl (hb hby at_0) rfl ?_
    show Steps p.tables e below (s₁.setTop (mkF m 1 #[.val (.int p1), .unset, .unset, .unset, .unset] [(.int p1)])) _
    refine X0.ldcInt hx hown (mvT hZ (hw _ (List.mem_of_getElem? (i := 0) rfl))) (g := (mkF m 1 #[.val (.int p1), .unset, .unset, .unset, .unset] [(.int p1)])) rfl (hb hby at_1) _ ?_
    show Steps p.tables e below (s₁.setTop (mkF m 3 #[.val (.int p1), .unset, .unset, .unset, .unset] [(.int (2147483647 : Int32)), (.int p1)])) _
    refine XS.iand X0.here hx rfl (hb hby at_3) rfl ?_
    show Steps p.tables e below (s₁.setTop (mkF m 4 #[.val (.int p1), .unset, .unset, .unset, .unset] [(.int (p1 &&& (2147483647 : Int32)))])) _
    refine XS.iconst X0.here hx rfl (hb hby at_4) ?_
    show Steps p.tables e below (s₁.setTop (mkF m 5 #[.val (.int p1), .unset, .unset, .unset, .unset] [(.int (3 : Int32)), (.int (p1 &&& (2147483647 : Int32)))])) _
    refine iremM X0 hx rfl (hb hby at_5) rfl (by decide) ?_
    show Steps p.tables e below (s₁.setTop (mkF m 6 #[.val (.int p1), .unset, .unset, .unset, .unset] [(.int ((p1 &&& (2147483647 : Int32)) % (3 : Int32)))])) _
    refine XS.istoreN X0.here hx rfl (hb hby at_6) rfl (l' := #[.val (.int p1), .val (.int ((p1 &&& (2147483647 : Int32)) % (3 : Int32))), .unset, .unset, .unset]) rfl ?_
    show Steps p.tables e below (s₁.setTop (mkF m 7 #[.val (.int p1), .val (.int ((p1 &&& (2147483647 : Int32)) % (3 : Int32))), .unset, .unset, .unset] [])) _
    refine XS.iloadN X0.here hx rfl (hb hby at_7) rfl ?_
    exact k
  have pre397 : ∀ t, Steps p.tables e below (s₁.setTop (mkF m 22 #[.val (.int p1), .val (.int ((p1 &&& (2147483647 : Int32)) % (3 : Int32))), .unset, .unset, .unset] [])) t → Steps p.tables e below (s₁.setTop (entryFrame m #[(.int p1)] maxLocals)) t := by
    intro t k
    refine pre395 _ ?_
    show Steps p.tables e below (s₁.setTop (mkF m 8 #[.val (.int p1), .val (.int ((p1 &&& (2147483647 : Int32)) % (3 : Int32))), .unset, .unset, .unset] [(.int ((p1 &&& (2147483647 : Int32)) % (3 : Int32)))])) _
    refine XS.ifYes X0.here hx rfl (pc0 := 8) (pc' := 22) rfl (hb hby at_8) rfl ((if0 _ _).trans (feq hk0).2) (by decide) (by decide) ?_
    exact k
  have pre398 : ∀ t, Steps p.tables e below (s₁.setTop (mkF m 24 #[.val (.int p1), .val (.int ((p1 &&& (2147483647 : Int32)) % (3 : Int32))), .unset, .unset, .unset] [(.int (1 : Int32)), (.int ((p1 &&& (2147483647 : Int32)) % (3 : Int32)))])) t → Steps p.tables e below (s₁.setTop (entryFrame m #[(.int p1)] maxLocals)) t := by
    intro t k
    refine pre397 _ ?_
    show Steps p.tables e below (s₁.setTop (mkF m 22 #[.val (.int p1), .val (.int ((p1 &&& (2147483647 : Int32)) % (3 : Int32))), .unset, .unset, .unset] [])) _
    refine XS.iloadN X0.here hx rfl (hb hby at_22) rfl ?_
    show Steps p.tables e below (s₁.setTop (mkF m 23 #[.val (.int p1), .val (.int ((p1 &&& (2147483647 : Int32)) % (3 : Int32))), .unset, .unset, .unset] [(.int ((p1 &&& (2147483647 : Int32)) % (3 : Int32)))])) _
    refine XS.iconst X0.here hx rfl (hb hby at_23) ?_
    exact k
  have pre400 : ∀ t, Steps p.tables e below (s₁.setTop (mkF m 27 #[.val (.int p1), .val (.int ((p1 &&& (2147483647 : Int32)) % (3 : Int32))), .unset, .unset, .unset] [])) t → Steps p.tables e below (s₁.setTop (entryFrame m #[(.int p1)] maxLocals)) t := by
    intro t k
    refine pre398 _ ?_
    show Steps p.tables e below (s₁.setTop (mkF m 24 #[.val (.int p1), .val (.int ((p1 &&& (2147483647 : Int32)) % (3 : Int32))), .unset, .unset, .unset] [(.int (1 : Int32)), (.int ((p1 &&& (2147483647 : Int32)) % (3 : Int32)))])) _
    refine XS.icmpNo X0.here hx rfl (hb hby at_24) rfl (teq hk1).2 ?_
    exact k
  have pre401 : ∀ t, Steps p.tables e below (s₁.setTop (mkF m 29 #[.val (.int p1), .val (.int ((p1 &&& (2147483647 : Int32)) % (3 : Int32))), .unset, .unset, .unset] [(.int (9 : Int32))])) t → Steps p.tables e below (s₁.setTop (entryFrame m #[(.int p1)] maxLocals)) t := by
    intro t k
    refine pre400 _ ?_
    show Steps p.tables e below (s₁.setTop (mkF m 27 #[.val (.int p1), .val (.int ((p1 &&& (2147483647 : Int32)) % (3 : Int32))), .unset, .unset, .unset] [])) _
    refine XS.bipush X0.here hx rfl (hb hby at_27) ?_
    exact k
  obtain ⟨T402, h402, k402, X402, e402, E402, A402, st402⟩ := newP X0 hx hZ (hw _ (List.mem_of_getElem? (i := 1) rfl)) e0 (g := (mkF m 29 #[.val (.int p1), .val (.int ((p1 &&& (2147483647 : Int32)) % (3 : Int32))), .unset, .unset, .unset] [(.int (9 : Int32))])) rfl (hb hby at_29) rfl (by decide) (cap := 9) (by decide) (by decide) (by decide) (by decide)
  obtain ⟨b402, g402⟩ : ∃ z, z = h0.size := ⟨_, rfl⟩
  rw [← g402] at A402 st402
  have g_b402 : n0 ≤ b402 := Nat.le_trans Z0 (Nat.le_of_eq g402.symm)
  have O403 := O0.ext E402
  have Z404 : n0 ≤ h402.size := Nat.le_trans Z0 E402.1
  have K405 := Nat.le_trans SK0 E402.1
  have V402 : Arv Z h402 b402 k402 .char (9 : Int32) [(.int (0 : Int32)), (.int (0 : Int32)), (.int (0 : Int32)), (.int (0 : Int32)), (.int (0 : Int32)), (.int (0 : Int32)), (.int (0 : Int32)), (.int (0 : Int32)), (.int (0 : Int32))] (.int (0 : Int32)) := (Arv.new A402 (by decide)).pad (pad_rep [] (.int (0 : Int32)) 9)
  have pre406 : ∀ t, Steps p.tables e below (T402.setTop (mkF m 31 #[.val (.int p1), .val (.int ((p1 &&& (2147483647 : Int32)) % (3 : Int32))), .unset, .unset, .unset] [(.ref b402)])) t → Steps p.tables e below (s₁.setTop (entryFrame m #[(.int p1)] maxLocals)) t := by
    intro t k
    refine pre401 _ ?_
    show Steps p.tables e below (s₁.setTop (mkF m 29 #[.val (.int p1), .val (.int ((p1 &&& (2147483647 : Int32)) % (3 : Int32))), .unset, .unset, .unset] [(.int (9 : Int32))])) _
    refine st402 _ ?_
    exact k
  have pre407 : ∀ t, Steps p.tables e below (T402.setTop (mkF m 35 #[.val (.int p1), .val (.int ((p1 &&& (2147483647 : Int32)) % (3 : Int32))), .unset, .unset, .unset] [(.int (111 : Int32)), (.int (0 : Int32)), (.ref b402), (.ref b402)])) t → Steps p.tables e below (s₁.setTop (entryFrame m #[(.int p1)] maxLocals)) t := by
    intro t k
    refine pre406 _ ?_
    show Steps p.tables e below (T402.setTop (mkF m 31 #[.val (.int p1), .val (.int ((p1 &&& (2147483647 : Int32)) % (3 : Int32))), .unset, .unset, .unset] [(.ref b402)])) _
    refine XS.dup X402.here hx rfl (hb hby at_31) rfl rfl ?_
    show Steps p.tables e below (T402.setTop (mkF m 32 #[.val (.int p1), .val (.int ((p1 &&& (2147483647 : Int32)) % (3 : Int32))), .unset, .unset, .unset] [(.ref b402), (.ref b402)])) _
    refine XS.iconst X402.here hx rfl (hb hby at_32) ?_
    show Steps p.tables e below (T402.setTop (mkF m 33 #[.val (.int p1), .val (.int ((p1 &&& (2147483647 : Int32)) % (3 : Int32))), .unset, .unset, .unset] [(.int (0 : Int32)), (.ref b402), (.ref b402)])) _
    refine XS.bipush X402.here hx rfl (hb hby at_33) ?_
    exact k
  obtain ⟨cl408, Ar408, q408, S408, N_408, H408, G408⟩ := V402
  obtain ⟨T408, h408, X408, e408, W408, st408⟩ := stC X402 hx hZ e402 Ar408 (j := (0 : Int32)) (inb_of S408 ⟨by decide, by decide⟩) (g := (mkF m 35 #[.val (.int p1), .val (.int ((p1 &&& (2147483647 : Int32)) % (3 : Int32))), .unset, .unset, .unset] [(.int (111 : Int32)), (.int (0 : Int32)), (.ref b402), (.ref b402)])) rfl rfl (hb hby at_35)
  have V408 : Arv Z h408 b402 k402 .char (9 : Int32) [(.int (nar .char (111 : Int32))), (.int (0 : Int32)), (.int (0 : Int32)), (.int (0 : Int32)), (.int (0 : Int32)), (.int (0 : Int32)), (.int (0 : Int32)), (.int (0 : Int32)), (.int (0 : Int32))] (.int (0 : Int32)) := Arv.set Ar408 q408 S408 N_408 H408 G408 (fits_nar_char _) W408 0 rfl (Nat.le_of_ble_eq_true rfl)
  have O409 := O403.wr W408 g_b402
  have Z410 : n0 ≤ h408.size := Nat.le_trans Z404 (Keep.of_wr W408).1
  have K411 := Nat.le_trans K405 (Keep.of_wr W408).1
  have NN408 := Fr.snoc X408 N0 g_b402
  have pre412 : ∀ t, Steps p.tables e below (T408.setTop (mkF m 36 #[.val (.int p1), .val (.int ((p1 &&& (2147483647 : Int32)) % (3 : Int32))), .unset, .unset, .unset] [(.ref b402)])) t → Steps p.tables e below (s₁.setTop (entryFrame m #[(.int p1)] maxLocals)) t := by
    intro t k
    refine pre407 _ ?_
    show Steps p.tables e below (T402.setTop (mkF m 35 #[.val (.int p1), .val (.int ((p1 &&& (2147483647 : Int32)) % (3 : Int32))), .unset, .unset, .unset] [(.int (111 : Int32)), (.int (0 : Int32)), (.ref b402), (.ref b402)])) _
    refine st408 _ ?_
    exact k
  have pre413 : ∀ t, Steps p.tables e below (T408.setTop (mkF m 40 #[.val (.int p1), .val (.int ((p1 &&& (2147483647 : Int32)) % (3 : Int32))), .unset, .unset, .unset] [(.int (110 : Int32)), (.int (1 : Int32)), (.ref b402), (.ref b402)])) t → Steps p.tables e below (s₁.setTop (entryFrame m #[(.int p1)] maxLocals)) t := by
    intro t k
    refine pre412 _ ?_
    show Steps p.tables e below (T408.setTop (mkF m 36 #[.val (.int p1), .val (.int ((p1 &&& (2147483647 : Int32)) % (3 : Int32))), .unset, .unset, .unset] [(.ref b402)])) _
    refine XS.dup X408.here hx rfl (hb hby at_36) rfl rfl ?_
    show Steps p.tables e below (T408.setTop (mkF m 37 #[.val (.int p1), .val (.int ((p1 &&& (2147483647 : Int32)) % (3 : Int32))), .unset, .unset, .unset] [(.ref b402), (.ref b402)])) _
    refine XS.iconst X408.here hx rfl (hb hby at_37) ?_
    show Steps p.tables e below (T408.setTop (mkF m 38 #[.val (.int p1), .val (.int ((p1 &&& (2147483647 : Int32)) % (3 : Int32))), .unset, .unset, .unset] [(.int (1 : Int32)), (.ref b402), (.ref b402)])) _
    refine XS.bipush X408.here hx rfl (hb hby at_38) ?_
    exact k
  obtain ⟨cl414, Ar414, q414, S414, N_414, H414, G414⟩ := V408
  obtain ⟨T414, h414, X414, e414, W414, st414⟩ := stC X408 hx hZ e408 Ar414 (j := (1 : Int32)) (inb_of S414 ⟨by decide, by decide⟩) (g := (mkF m 40 #[.val (.int p1), .val (.int ((p1 &&& (2147483647 : Int32)) % (3 : Int32))), .unset, .unset, .unset] [(.int (110 : Int32)), (.int (1 : Int32)), (.ref b402), (.ref b402)])) rfl rfl (hb hby at_40)
  have V414 : Arv Z h414 b402 k402 .char (9 : Int32) [(.int (nar .char (111 : Int32))), (.int (nar .char (110 : Int32))), (.int (0 : Int32)), (.int (0 : Int32)), (.int (0 : Int32)), (.int (0 : Int32)), (.int (0 : Int32)), (.int (0 : Int32)), (.int (0 : Int32))] (.int (0 : Int32)) := Arv.set Ar414 q414 S414 N_414 H414 G414 (fits_nar_char _) W414 1 rfl (Nat.le_of_ble_eq_true rfl)
  have O415 := O409.wr W414 g_b402
  have Z416 : n0 ≤ h414.size := Nat.le_trans Z410 (Keep.of_wr W414).1
  have K417 := Nat.le_trans K411 (Keep.of_wr W414).1
  have NN414 := Fr.snoc X414 NN408 g_b402
  have pre418 : ∀ t, Steps p.tables e below (T414.setTop (mkF m 41 #[.val (.int p1), .val (.int ((p1 &&& (2147483647 : Int32)) % (3 : Int32))), .unset, .unset, .unset] [(.ref b402)])) t → Steps p.tables e below (s₁.setTop (entryFrame m #[(.int p1)] maxLocals)) t := by
    intro t k
    refine pre413 _ ?_
    show Steps p.tables e below (T408.setTop (mkF m 40 #[.val (.int p1), .val (.int ((p1 &&& (2147483647 : Int32)) % (3 : Int32))), .unset, .unset, .unset] [(.int (110 : Int32)), (.int (1 : Int32)), (.ref b402), (.ref b402)])) _
    refine st414 _ ?_
    exact k
  have pre419 : ∀ t, Steps p.tables e below (T414.setTop (mkF m 45 #[.val (.int p1), .val (.int ((p1 &&& (2147483647 : Int32)) % (3 : Int32))), .unset, .unset, .unset] [(.int (45 : Int32)), (.int (2 : Int32)), (.ref b402), (.ref b402)])) t → Steps p.tables e below (s₁.setTop (entryFrame m #[(.int p1)] maxLocals)) t := by
    intro t k
    refine pre418 _ ?_
    show Steps p.tables e below (T414.setTop (mkF m 41 #[.val (.int p1), .val (.int ((p1 &&& (2147483647 : Int32)) % (3 : Int32))), .unset, .unset, .unset] [(.ref b402)])) _
    refine XS.dup X414.here hx rfl (hb hby at_41) rfl rfl ?_
    show Steps p.tables e below (T414.setTop (mkF m 42 #[.val (.int p1), .val (.int ((p1 &&& (2147483647 : Int32)) % (3 : Int32))), .unset, .unset, .unset] [(.ref b402), (.ref b402)])) _
    refine XS.iconst X414.here hx rfl (hb hby at_42) ?_
    show Steps p.tables e below (T414.setTop (mkF m 43 #[.val (.int p1), .val (.int ((p1 &&& (2147483647 : Int32)) % (3 : Int32))), .unset, .unset, .unset] [(.int (2 : Int32)), (.ref b402), (.ref b402)])) _
    refine XS.bipush X414.here hx rfl (hb hby at_43) ?_
    exact k
  obtain ⟨cl420, Ar420, q420, S420, N_420, H420, G420⟩ := V414
  obtain ⟨T420, h420, X420, e420, W420, st420⟩ := stC X414 hx hZ e414 Ar420 (j := (2 : Int32)) (inb_of S420 ⟨by decide, by decide⟩) (g := (mkF m 45 #[.val (.int p1), .val (.int ((p1 &&& (2147483647 : Int32)) % (3 : Int32))), .unset, .unset, .unset] [(.int (45 : Int32)), (.int (2 : Int32)), (.ref b402), (.ref b402)])) rfl rfl (hb hby at_45)
  have V420 : Arv Z h420 b402 k402 .char (9 : Int32) [(.int (nar .char (111 : Int32))), (.int (nar .char (110 : Int32))), (.int (nar .char (45 : Int32))), (.int (0 : Int32)), (.int (0 : Int32)), (.int (0 : Int32)), (.int (0 : Int32)), (.int (0 : Int32)), (.int (0 : Int32))] (.int (0 : Int32)) := Arv.set Ar420 q420 S420 N_420 H420 G420 (fits_nar_char _) W420 2 rfl (Nat.le_of_ble_eq_true rfl)
  have O421 := O415.wr W420 g_b402
  have Z422 : n0 ≤ h420.size := Nat.le_trans Z416 (Keep.of_wr W420).1
  have K423 := Nat.le_trans K417 (Keep.of_wr W420).1
  have NN420 := Fr.snoc X420 NN414 g_b402
  have pre424 : ∀ t, Steps p.tables e below (T420.setTop (mkF m 46 #[.val (.int p1), .val (.int ((p1 &&& (2147483647 : Int32)) % (3 : Int32))), .unset, .unset, .unset] [(.ref b402)])) t → Steps p.tables e below (s₁.setTop (entryFrame m #[(.int p1)] maxLocals)) t := by
    intro t k
    refine pre419 _ ?_
    show Steps p.tables e below (T414.setTop (mkF m 45 #[.val (.int p1), .val (.int ((p1 &&& (2147483647 : Int32)) % (3 : Int32))), .unset, .unset, .unset] [(.int (45 : Int32)), (.int (2 : Int32)), (.ref b402), (.ref b402)])) _
    refine st420 _ ?_
    exact k
  have pre425 : ∀ t, Steps p.tables e below (T420.setTop (mkF m 50 #[.val (.int p1), .val (.int ((p1 &&& (2147483647 : Int32)) % (3 : Int32))), .unset, .unset, .unset] [(.int (100 : Int32)), (.int (3 : Int32)), (.ref b402), (.ref b402)])) t → Steps p.tables e below (s₁.setTop (entryFrame m #[(.int p1)] maxLocals)) t := by
    intro t k
    refine pre424 _ ?_
    show Steps p.tables e below (T420.setTop (mkF m 46 #[.val (.int p1), .val (.int ((p1 &&& (2147483647 : Int32)) % (3 : Int32))), .unset, .unset, .unset] [(.ref b402)])) _
    refine XS.dup X420.here hx rfl (hb hby at_46) rfl rfl ?_
    show Steps p.tables e below (T420.setTop (mkF m 47 #[.val (.int p1), .val (.int ((p1 &&& (2147483647 : Int32)) % (3 : Int32))), .unset, .unset, .unset] [(.ref b402), (.ref b402)])) _
    refine XS.iconst X420.here hx rfl (hb hby at_47) ?_
    show Steps p.tables e below (T420.setTop (mkF m 48 #[.val (.int p1), .val (.int ((p1 &&& (2147483647 : Int32)) % (3 : Int32))), .unset, .unset, .unset] [(.int (3 : Int32)), (.ref b402), (.ref b402)])) _
    refine XS.bipush X420.here hx rfl (hb hby at_48) ?_
    exact k
  obtain ⟨cl426, Ar426, q426, S426, N_426, H426, G426⟩ := V420
  obtain ⟨T426, h426, X426, e426, W426, st426⟩ := stC X420 hx hZ e420 Ar426 (j := (3 : Int32)) (inb_of S426 ⟨by decide, by decide⟩) (g := (mkF m 50 #[.val (.int p1), .val (.int ((p1 &&& (2147483647 : Int32)) % (3 : Int32))), .unset, .unset, .unset] [(.int (100 : Int32)), (.int (3 : Int32)), (.ref b402), (.ref b402)])) rfl rfl (hb hby at_50)
  have V426 : Arv Z h426 b402 k402 .char (9 : Int32) [(.int (nar .char (111 : Int32))), (.int (nar .char (110 : Int32))), (.int (nar .char (45 : Int32))), (.int (nar .char (100 : Int32))), (.int (0 : Int32)), (.int (0 : Int32)), (.int (0 : Int32)), (.int (0 : Int32)), (.int (0 : Int32))] (.int (0 : Int32)) := Arv.set Ar426 q426 S426 N_426 H426 G426 (fits_nar_char _) W426 3 rfl (Nat.le_of_ble_eq_true rfl)
  have O427 := O421.wr W426 g_b402
  have Z428 : n0 ≤ h426.size := Nat.le_trans Z422 (Keep.of_wr W426).1
  have K429 := Nat.le_trans K423 (Keep.of_wr W426).1
  have NN426 := Fr.snoc X426 NN420 g_b402
  have pre430 : ∀ t, Steps p.tables e below (T426.setTop (mkF m 51 #[.val (.int p1), .val (.int ((p1 &&& (2147483647 : Int32)) % (3 : Int32))), .unset, .unset, .unset] [(.ref b402)])) t → Steps p.tables e below (s₁.setTop (entryFrame m #[(.int p1)] maxLocals)) t := by
    intro t k
    refine pre425 _ ?_
    show Steps p.tables e below (T420.setTop (mkF m 50 #[.val (.int p1), .val (.int ((p1 &&& (2147483647 : Int32)) % (3 : Int32))), .unset, .unset, .unset] [(.int (100 : Int32)), (.int (3 : Int32)), (.ref b402), (.ref b402)])) _
    refine st426 _ ?_
    exact k
  have pre431 : ∀ t, Steps p.tables e below (T426.setTop (mkF m 55 #[.val (.int p1), .val (.int ((p1 &&& (2147483647 : Int32)) % (3 : Int32))), .unset, .unset, .unset] [(.int (101 : Int32)), (.int (4 : Int32)), (.ref b402), (.ref b402)])) t → Steps p.tables e below (s₁.setTop (entryFrame m #[(.int p1)] maxLocals)) t := by
    intro t k
    refine pre430 _ ?_
    show Steps p.tables e below (T426.setTop (mkF m 51 #[.val (.int p1), .val (.int ((p1 &&& (2147483647 : Int32)) % (3 : Int32))), .unset, .unset, .unset] [(.ref b402)])) _
    refine XS.dup X426.here hx rfl (hb hby at_51) rfl rfl ?_
    show Steps p.tables e below (T426.setTop (mkF m 52 #[.val (.int p1), .val (.int ((p1 &&& (2147483647 : Int32)) % (3 : Int32))), .unset, .unset, .unset] [(.ref b402), (.ref b402)])) _
    refine XS.iconst X426.here hx rfl (hb hby at_52) ?_
    show Steps p.tables e below (T426.setTop (mkF m 53 #[.val (.int p1), .val (.int ((p1 &&& (2147483647 : Int32)) % (3 : Int32))), .unset, .unset, .unset] [(.int (4 : Int32)), (.ref b402), (.ref b402)])) _
    refine XS.bipush X426.here hx rfl (hb hby at_53) ?_
    exact k
  obtain ⟨cl432, Ar432, q432, S432, N_432, H432, G432⟩ := V426
  obtain ⟨T432, h432, X432, e432, W432, st432⟩ := stC X426 hx hZ e426 Ar432 (j := (4 : Int32)) (inb_of S432 ⟨by decide, by decide⟩) (g := (mkF m 55 #[.val (.int p1), .val (.int ((p1 &&& (2147483647 : Int32)) % (3 : Int32))), .unset, .unset, .unset] [(.int (101 : Int32)), (.int (4 : Int32)), (.ref b402), (.ref b402)])) rfl rfl (hb hby at_55)
  have V432 : Arv Z h432 b402 k402 .char (9 : Int32) [(.int (nar .char (111 : Int32))), (.int (nar .char (110 : Int32))), (.int (nar .char (45 : Int32))), (.int (nar .char (100 : Int32))), (.int (nar .char (101 : Int32))), (.int (0 : Int32)), (.int (0 : Int32)), (.int (0 : Int32)), (.int (0 : Int32))] (.int (0 : Int32)) := Arv.set Ar432 q432 S432 N_432 H432 G432 (fits_nar_char _) W432 4 rfl (Nat.le_of_ble_eq_true rfl)
  have O433 := O427.wr W432 g_b402
  have Z434 : n0 ≤ h432.size := Nat.le_trans Z428 (Keep.of_wr W432).1
  have K435 := Nat.le_trans K429 (Keep.of_wr W432).1
  have NN432 := Fr.snoc X432 NN426 g_b402
  have pre436 : ∀ t, Steps p.tables e below (T432.setTop (mkF m 56 #[.val (.int p1), .val (.int ((p1 &&& (2147483647 : Int32)) % (3 : Int32))), .unset, .unset, .unset] [(.ref b402)])) t → Steps p.tables e below (s₁.setTop (entryFrame m #[(.int p1)] maxLocals)) t := by
    intro t k
    refine pre431 _ ?_
    show Steps p.tables e below (T426.setTop (mkF m 55 #[.val (.int p1), .val (.int ((p1 &&& (2147483647 : Int32)) % (3 : Int32))), .unset, .unset, .unset] [(.int (101 : Int32)), (.int (4 : Int32)), (.ref b402), (.ref b402)])) _
    refine st432 _ ?_
    exact k
  have pre437 : ∀ t, Steps p.tables e below (T432.setTop (mkF m 60 #[.val (.int p1), .val (.int ((p1 &&& (2147483647 : Int32)) % (3 : Int32))), .unset, .unset, .unset] [(.int (109 : Int32)), (.int (5 : Int32)), (.ref b402), (.ref b402)])) t → Steps p.tables e below (s₁.setTop (entryFrame m #[(.int p1)] maxLocals)) t := by
    intro t k
    refine pre436 _ ?_
    show Steps p.tables e below (T432.setTop (mkF m 56 #[.val (.int p1), .val (.int ((p1 &&& (2147483647 : Int32)) % (3 : Int32))), .unset, .unset, .unset] [(.ref b402)])) _
    refine XS.dup X432.here hx rfl (hb hby at_56) rfl rfl ?_
    show Steps p.tables e below (T432.setTop (mkF m 57 #[.val (.int p1), .val (.int ((p1 &&& (2147483647 : Int32)) % (3 : Int32))), .unset, .unset, .unset] [(.ref b402), (.ref b402)])) _
    refine XS.iconst X432.here hx rfl (hb hby at_57) ?_
    show Steps p.tables e below (T432.setTop (mkF m 58 #[.val (.int p1), .val (.int ((p1 &&& (2147483647 : Int32)) % (3 : Int32))), .unset, .unset, .unset] [(.int (5 : Int32)), (.ref b402), (.ref b402)])) _
    refine XS.bipush X432.here hx rfl (hb hby at_58) ?_
    exact k
  obtain ⟨cl438, Ar438, q438, S438, N_438, H438, G438⟩ := V432
  obtain ⟨T438, h438, X438, e438, W438, st438⟩ := stC X432 hx hZ e432 Ar438 (j := (5 : Int32)) (inb_of S438 ⟨by decide, by decide⟩) (g := (mkF m 60 #[.val (.int p1), .val (.int ((p1 &&& (2147483647 : Int32)) % (3 : Int32))), .unset, .unset, .unset] [(.int (109 : Int32)), (.int (5 : Int32)), (.ref b402), (.ref b402)])) rfl rfl (hb hby at_60)
  have V438 : Arv Z h438 b402 k402 .char (9 : Int32) [(.int (nar .char (111 : Int32))), (.int (nar .char (110 : Int32))), (.int (nar .char (45 : Int32))), (.int (nar .char (100 : Int32))), (.int (nar .char (101 : Int32))), (.int (nar .char (109 : Int32))), (.int (0 : Int32)), (.int (0 : Int32)), (.int (0 : Int32))] (.int (0 : Int32)) := Arv.set Ar438 q438 S438 N_438 H438 G438 (fits_nar_char _) W438 5 rfl (Nat.le_of_ble_eq_true rfl)
  have O439 := O433.wr W438 g_b402
  have Z440 : n0 ≤ h438.size := Nat.le_trans Z434 (Keep.of_wr W438).1
  have K441 := Nat.le_trans K435 (Keep.of_wr W438).1
  have NN438 := Fr.snoc X438 NN432 g_b402
  have pre442 : ∀ t, Steps p.tables e below (T438.setTop (mkF m 61 #[.val (.int p1), .val (.int ((p1 &&& (2147483647 : Int32)) % (3 : Int32))), .unset, .unset, .unset] [(.ref b402)])) t → Steps p.tables e below (s₁.setTop (entryFrame m #[(.int p1)] maxLocals)) t := by
    intro t k
    refine pre437 _ ?_
    show Steps p.tables e below (T432.setTop (mkF m 60 #[.val (.int p1), .val (.int ((p1 &&& (2147483647 : Int32)) % (3 : Int32))), .unset, .unset, .unset] [(.int (109 : Int32)), (.int (5 : Int32)), (.ref b402), (.ref b402)])) _
    refine st438 _ ?_
    exact k
  have pre443 : ∀ t, Steps p.tables e below (T438.setTop (mkF m 66 #[.val (.int p1), .val (.int ((p1 &&& (2147483647 : Int32)) % (3 : Int32))), .unset, .unset, .unset] [(.int (97 : Int32)), (.int (6 : Int32)), (.ref b402), (.ref b402)])) t → Steps p.tables e below (s₁.setTop (entryFrame m #[(.int p1)] maxLocals)) t := by
    intro t k
    refine pre442 _ ?_
    show Steps p.tables e below (T438.setTop (mkF m 61 #[.val (.int p1), .val (.int ((p1 &&& (2147483647 : Int32)) % (3 : Int32))), .unset, .unset, .unset] [(.ref b402)])) _
    refine XS.dup X438.here hx rfl (hb hby at_61) rfl rfl ?_
    show Steps p.tables e below (T438.setTop (mkF m 62 #[.val (.int p1), .val (.int ((p1 &&& (2147483647 : Int32)) % (3 : Int32))), .unset, .unset, .unset] [(.ref b402), (.ref b402)])) _
    refine XS.bipush X438.here hx rfl (hb hby at_62) ?_
    show Steps p.tables e below (T438.setTop (mkF m 64 #[.val (.int p1), .val (.int ((p1 &&& (2147483647 : Int32)) % (3 : Int32))), .unset, .unset, .unset] [(.int (6 : Int32)), (.ref b402), (.ref b402)])) _
    refine XS.bipush X438.here hx rfl (hb hby at_64) ?_
    exact k
  obtain ⟨cl444, Ar444, q444, S444, N_444, H444, G444⟩ := V438
  obtain ⟨T444, h444, X444, e444, W444, st444⟩ := stC X438 hx hZ e438 Ar444 (j := (6 : Int32)) (inb_of S444 ⟨by decide, by decide⟩) (g := (mkF m 66 #[.val (.int p1), .val (.int ((p1 &&& (2147483647 : Int32)) % (3 : Int32))), .unset, .unset, .unset] [(.int (97 : Int32)), (.int (6 : Int32)), (.ref b402), (.ref b402)])) rfl rfl (hb hby at_66)
  have V444 : Arv Z h444 b402 k402 .char (9 : Int32) [(.int (nar .char (111 : Int32))), (.int (nar .char (110 : Int32))), (.int (nar .char (45 : Int32))), (.int (nar .char (100 : Int32))), (.int (nar .char (101 : Int32))), (.int (nar .char (109 : Int32))), (.int (nar .char (97 : Int32))), (.int (0 : Int32)), (.int (0 : Int32))] (.int (0 : Int32)) := Arv.set Ar444 q444 S444 N_444 H444 G444 (fits_nar_char _) W444 6 rfl (Nat.le_of_ble_eq_true rfl)
  have O445 := O439.wr W444 g_b402
  have Z446 : n0 ≤ h444.size := Nat.le_trans Z440 (Keep.of_wr W444).1
  have K447 := Nat.le_trans K441 (Keep.of_wr W444).1
  have NN444 := Fr.snoc X444 NN438 g_b402
  have pre448 : ∀ t, Steps p.tables e below (T444.setTop (mkF m 67 #[.val (.int p1), .val (.int ((p1 &&& (2147483647 : Int32)) % (3 : Int32))), .unset, .unset, .unset] [(.ref b402)])) t → Steps p.tables e below (s₁.setTop (entryFrame m #[(.int p1)] maxLocals)) t := by
    intro t k
    refine pre443 _ ?_
    show Steps p.tables e below (T438.setTop (mkF m 66 #[.val (.int p1), .val (.int ((p1 &&& (2147483647 : Int32)) % (3 : Int32))), .unset, .unset, .unset] [(.int (97 : Int32)), (.int (6 : Int32)), (.ref b402), (.ref b402)])) _
    refine st444 _ ?_
    exact k
  have pre449 : ∀ t, Steps p.tables e below (T444.setTop (mkF m 72 #[.val (.int p1), .val (.int ((p1 &&& (2147483647 : Int32)) % (3 : Int32))), .unset, .unset, .unset] [(.int (110 : Int32)), (.int (7 : Int32)), (.ref b402), (.ref b402)])) t → Steps p.tables e below (s₁.setTop (entryFrame m #[(.int p1)] maxLocals)) t := by
    intro t k
    refine pre448 _ ?_
    show Steps p.tables e below (T444.setTop (mkF m 67 #[.val (.int p1), .val (.int ((p1 &&& (2147483647 : Int32)) % (3 : Int32))), .unset, .unset, .unset] [(.ref b402)])) _
    refine XS.dup X444.here hx rfl (hb hby at_67) rfl rfl ?_
    show Steps p.tables e below (T444.setTop (mkF m 68 #[.val (.int p1), .val (.int ((p1 &&& (2147483647 : Int32)) % (3 : Int32))), .unset, .unset, .unset] [(.ref b402), (.ref b402)])) _
    refine XS.bipush X444.here hx rfl (hb hby at_68) ?_
    show Steps p.tables e below (T444.setTop (mkF m 70 #[.val (.int p1), .val (.int ((p1 &&& (2147483647 : Int32)) % (3 : Int32))), .unset, .unset, .unset] [(.int (7 : Int32)), (.ref b402), (.ref b402)])) _
    refine XS.bipush X444.here hx rfl (hb hby at_70) ?_
    exact k
  obtain ⟨cl450, Ar450, q450, S450, N_450, H450, G450⟩ := V444
  obtain ⟨T450, h450, X450, e450, W450, st450⟩ := stC X444 hx hZ e444 Ar450 (j := (7 : Int32)) (inb_of S450 ⟨by decide, by decide⟩) (g := (mkF m 72 #[.val (.int p1), .val (.int ((p1 &&& (2147483647 : Int32)) % (3 : Int32))), .unset, .unset, .unset] [(.int (110 : Int32)), (.int (7 : Int32)), (.ref b402), (.ref b402)])) rfl rfl (hb hby at_72)
  have V450 : Arv Z h450 b402 k402 .char (9 : Int32) [(.int (nar .char (111 : Int32))), (.int (nar .char (110 : Int32))), (.int (nar .char (45 : Int32))), (.int (nar .char (100 : Int32))), (.int (nar .char (101 : Int32))), (.int (nar .char (109 : Int32))), (.int (nar .char (97 : Int32))), (.int (nar .char (110 : Int32))), (.int (0 : Int32))] (.int (0 : Int32)) := Arv.set Ar450 q450 S450 N_450 H450 G450 (fits_nar_char _) W450 7 rfl (Nat.le_of_ble_eq_true rfl)
  have O451 := O445.wr W450 g_b402
  have Z452 : n0 ≤ h450.size := Nat.le_trans Z446 (Keep.of_wr W450).1
  have K453 := Nat.le_trans K447 (Keep.of_wr W450).1
  have NN450 := Fr.snoc X450 NN444 g_b402
  have pre454 : ∀ t, Steps p.tables e below (T450.setTop (mkF m 73 #[.val (.int p1), .val (.int ((p1 &&& (2147483647 : Int32)) % (3 : Int32))), .unset, .unset, .unset] [(.ref b402)])) t → Steps p.tables e below (s₁.setTop (entryFrame m #[(.int p1)] maxLocals)) t := by
    intro t k
    refine pre449 _ ?_
    show Steps p.tables e below (T444.setTop (mkF m 72 #[.val (.int p1), .val (.int ((p1 &&& (2147483647 : Int32)) % (3 : Int32))), .unset, .unset, .unset] [(.int (110 : Int32)), (.int (7 : Int32)), (.ref b402), (.ref b402)])) _
    refine st450 _ ?_
    exact k
  have pre455 : ∀ t, Steps p.tables e below (T450.setTop (mkF m 78 #[.val (.int p1), .val (.int ((p1 &&& (2147483647 : Int32)) % (3 : Int32))), .unset, .unset, .unset] [(.int (100 : Int32)), (.int (8 : Int32)), (.ref b402), (.ref b402)])) t → Steps p.tables e below (s₁.setTop (entryFrame m #[(.int p1)] maxLocals)) t := by
    intro t k
    refine pre454 _ ?_
    show Steps p.tables e below (T450.setTop (mkF m 73 #[.val (.int p1), .val (.int ((p1 &&& (2147483647 : Int32)) % (3 : Int32))), .unset, .unset, .unset] [(.ref b402)])) _
    refine XS.dup X450.here hx rfl (hb hby at_73) rfl rfl ?_
    show Steps p.tables e below (T450.setTop (mkF m 74 #[.val (.int p1), .val (.int ((p1 &&& (2147483647 : Int32)) % (3 : Int32))), .unset, .unset, .unset] [(.ref b402), (.ref b402)])) _
    refine XS.bipush X450.here hx rfl (hb hby at_74) ?_
    show Steps p.tables e below (T450.setTop (mkF m 76 #[.val (.int p1), .val (.int ((p1 &&& (2147483647 : Int32)) % (3 : Int32))), .unset, .unset, .unset] [(.int (8 : Int32)), (.ref b402), (.ref b402)])) _
    refine XS.bipush X450.here hx rfl (hb hby at_76) ?_
    exact k
  obtain ⟨cl456, Ar456, q456, S456, N_456, H456, G456⟩ := V450
  obtain ⟨T456, h456, X456, e456, W456, st456⟩ := stC X450 hx hZ e450 Ar456 (j := (8 : Int32)) (inb_of S456 ⟨by decide, by decide⟩) (g := (mkF m 78 #[.val (.int p1), .val (.int ((p1 &&& (2147483647 : Int32)) % (3 : Int32))), .unset, .unset, .unset] [(.int (100 : Int32)), (.int (8 : Int32)), (.ref b402), (.ref b402)])) rfl rfl (hb hby at_78)
  have V456 : Arv Z h456 b402 k402 .char (9 : Int32) [(.int (nar .char (111 : Int32))), (.int (nar .char (110 : Int32))), (.int (nar .char (45 : Int32))), (.int (nar .char (100 : Int32))), (.int (nar .char (101 : Int32))), (.int (nar .char (109 : Int32))), (.int (nar .char (97 : Int32))), (.int (nar .char (110 : Int32))), (.int (nar .char (100 : Int32)))] (.int (0 : Int32)) := Arv.set Ar456 q456 S456 N_456 H456 G456 (fits_nar_char _) W456 8 rfl (Nat.le_of_ble_eq_true rfl)
  have O457 := O451.wr W456 g_b402
  have Z458 : n0 ≤ h456.size := Nat.le_trans Z452 (Keep.of_wr W456).1
  have K459 := Nat.le_trans K453 (Keep.of_wr W456).1
  have NN456 := Fr.snoc X456 NN450 g_b402
  have pre460 : ∀ t, Steps p.tables e below (T456.setTop (mkF m 79 #[.val (.int p1), .val (.int ((p1 &&& (2147483647 : Int32)) % (3 : Int32))), .unset, .unset, .unset] [(.ref b402)])) t → Steps p.tables e below (s₁.setTop (entryFrame m #[(.int p1)] maxLocals)) t := by
    intro t k
    refine pre455 _ ?_
    show Steps p.tables e below (T450.setTop (mkF m 78 #[.val (.int p1), .val (.int ((p1 &&& (2147483647 : Int32)) % (3 : Int32))), .unset, .unset, .unset] [(.int (100 : Int32)), (.int (8 : Int32)), (.ref b402), (.ref b402)])) _
    refine st456 _ ?_
    exact k
  have pre461 : ∀ t, Steps p.tables e below (T456.setTop (mkF m 80 #[.val (.int p1), .val (.int ((p1 &&& (2147483647 : Int32)) % (3 : Int32))), .val (.ref b402), .unset, .unset] [])) t → Steps p.tables e below (s₁.setTop (entryFrame m #[(.int p1)] maxLocals)) t := by
    intro t k
    refine pre460 _ ?_
    show Steps p.tables e below (T456.setTop (mkF m 79 #[.val (.int p1), .val (.int ((p1 &&& (2147483647 : Int32)) % (3 : Int32))), .unset, .unset, .unset] [(.ref b402)])) _
    refine XS.astoreN X456.here hx rfl (hb hby at_79) rfl rfl (l' := #[.val (.int p1), .val (.int ((p1 &&& (2147483647 : Int32)) % (3 : Int32))), .val (.ref b402), .unset, .unset]) rfl ?_
    exact k
  obtain ⟨T462, X462, e462, st462⟩ := getS2 X456 hx hZ hown (host := "") (Or.inl (hw _ (List.mem_of_getElem? (i := 2) rfl))) Via.refl e456 (S_wO.ext O457.2) (g := (mkF m 80 #[.val (.int p1), .val (.int ((p1 &&& (2147483647 : Int32)) % (3 : Int32))), .val (.ref b402), .unset, .unset] [])) rfl (hb hby at_80)
  have pre463 : ∀ t, Steps p.tables e below (T462.setTop (mkF m 83 #[.val (.int p1), .val (.int ((p1 &&& (2147483647 : Int32)) % (3 : Int32))), .val (.ref b402), .unset, .unset] [(.ref wO)])) t → Steps p.tables e below (s₁.setTop (entryFrame m #[(.int p1)] maxLocals)) t := by
    intro t k
    refine pre461 _ ?_
    show Steps p.tables e below (T456.setTop (mkF m 80 #[.val (.int p1), .val (.int ((p1 &&& (2147483647 : Int32)) % (3 : Int32))), .val (.ref b402), .unset, .unset] [])) _
    refine st462 _ ?_
    exact k
  have pre464 : ∀ t, Steps p.tables e below (T462.setTop (mkF m 115 #[.val (.int p1), .val (.int ((p1 &&& (2147483647 : Int32)) % (3 : Int32))), .val (.ref b402), .val (.ref wO), .unset] [])) t → Steps p.tables e below (s₁.setTop (entryFrame m #[(.int p1)] maxLocals)) t := by
    intro t k
    refine pre463 _ ?_
    show Steps p.tables e below (T462.setTop (mkF m 83 #[.val (.int p1), .val (.int ((p1 &&& (2147483647 : Int32)) % (3 : Int32))), .val (.ref b402), .unset, .unset] [(.ref wO)])) _
    refine XS.astoreN X462.here hx rfl (hb hby at_83) rfl rfl (l' := #[.val (.int p1), .val (.int ((p1 &&& (2147483647 : Int32)) % (3 : Int32))), .val (.ref b402), .val (.ref wO), .unset]) rfl ?_
    show Steps p.tables e below (T462.setTop (mkF m 84 #[.val (.int p1), .val (.int ((p1 &&& (2147483647 : Int32)) % (3 : Int32))), .val (.ref b402), .val (.ref wO), .unset] [])) _
    refine XS.goto X462.here hx rfl (pc0 := 84) (pc' := 115) rfl (hb hby at_84) (by decide) (by decide) ?_
    exact k
  obtain ⟨T465, h465, X465, e465, E465, A465, D465, -, st465⟩ := newO X462 hx hZ hown (hw _ (List.mem_of_getElem? (i := 5) rfl)) (hw _ (List.mem_of_getElem? (i := 6) rfl)) (hw _ (List.mem_of_getElem? (i := 7) rfl)) e462 (g := (mkF m 115 #[.val (.int p1), .val (.int ((p1 &&& (2147483647 : Int32)) % (3 : Int32))), .val (.ref b402), .val (.ref wO), .unset] [])) rfl (hb hby at_115) (by decide) (by decide)
  obtain ⟨b465, g465⟩ : ∃ z, z = h456.size := ⟨_, rfl⟩
  rw [← g465] at A465 D465 st465
  have g_b465 : n0 ≤ b465 := Nat.le_trans Z458 (Nat.le_of_eq g465.symm)
  have ne_b402_b465 : b402 ≠ b465 := Nat.ne_of_lt (Nat.lt_of_lt_of_le V456.lt (Nat.le_of_eq g465.symm))
  have O466 := O457.ext E465
  have Z467 : n0 ≤ h465.size := Nat.le_trans Z458 E465.1
  have K468 := Nat.le_trans K459 E465.1
  have F_value_b465 : Fld Z h465 b465 "java/lang/String" "value" "[B" .null := D465 (Or.inr (hw _ (List.mem_of_getElem? (i := 20) rfl))) (ty := (.array .byte)) (by decide)
  have F_coder_b465 : Fld Z h465 b465 "java/lang/String" "coder" "B" (.int (0 : Int32)) := D465 (Or.inr (hw _ (List.mem_of_getElem? (i := 21) rfl))) (ty := .byte) (by decide)
  have pre469 : ∀ t, Steps p.tables e below (T465.setTop (mkF m 118 #[.val (.int p1), .val (.int ((p1 &&& (2147483647 : Int32)) % (3 : Int32))), .val (.ref b402), .val (.ref wO), .unset] [(.ref b465)])) t → Steps p.tables e below (s₁.setTop (entryFrame m #[(.int p1)] maxLocals)) t := by
    intro t k
    refine pre464 _ ?_
    show Steps p.tables e below (T462.setTop (mkF m 115 #[.val (.int p1), .val (.int ((p1 &&& (2147483647 : Int32)) % (3 : Int32))), .val (.ref b402), .val (.ref wO), .unset] [])) _
    refine st465 _ ?_
    exact k
  have pre470 : ∀ t, Steps p.tables e below (T465.setTop (mkF m 120 #[.val (.int p1), .val (.int ((p1 &&& (2147483647 : Int32)) % (3 : Int32))), .val (.ref b402), .val (.ref wO), .unset] [(.ref b402), (.ref b465), (.ref b465)])) t → Steps p.tables e below (s₁.setTop (entryFrame m #[(.int p1)] maxLocals)) t := by
    intro t k
    refine pre469 _ ?_
    show Steps p.tables e below (T465.setTop (mkF m 118 #[.val (.int p1), .val (.int ((p1 &&& (2147483647 : Int32)) % (3 : Int32))), .val (.ref b402), .val (.ref wO), .unset] [(.ref b465)])) _
    refine XS.dup X465.here hx rfl (hb hby at_118) rfl rfl ?_
    show Steps p.tables e below (T465.setTop (mkF m 119 #[.val (.int p1), .val (.int ((p1 &&& (2147483647 : Int32)) % (3 : Int32))), .val (.ref b402), .val (.ref wO), .unset] [(.ref b465), (.ref b465)])) _
    refine XS.aloadN X465.here hx rfl (hb hby at_119) rfl rfl ?_
    exact k
  obtain ⟨_, _, ⟨T471, L471, k471, n471⟩, -, X471, ⟨Lc471, hQ471, l471, y471, z471⟩, st471⟩ := X465.specialBack hx (y := (⟨"java/lang/String", "<init>", "([C)V"⟩ : MethodName)) rfl hown (mvT hZ (hw _ (List.mem_of_getElem? (i := 8) rfl))) (mvT hZ (hw _ (List.mem_of_getElem? (i := 9) rfl))) (mvT hZ (hw _ (List.mem_of_getElem? (i := 10) rfl))) (by decide) (StrChars.Road.backV (W := 1) hZ (own_words hw) (kI := 4) (hw _ (List.mem_of_getElem? (i := 6) rfl)) (cs := [(nar .char (111 : Int32)), (nar .char (110 : Int32)), (nar .char (45 : Int32)), (nar .char (100 : Int32)), (nar .char (101 : Int32)), (nar .char (109 : Int32)), (nar .char (97 : Int32)), (nar .char (110 : Int32)), (nar .char (100 : Int32))]) (bs := [(111 : Int32), (110 : Int32), (45 : Int32), (100 : Int32), (101 : Int32), (109 : Int32), (97 : Int32), (110 : Int32), (100 : Int32)]) (n := 9) g_b465 Z467 A465 F_value_b465 F_coder_b465 (V456.ext E465) (S_pC.ext O466.2) hpc rfl rfl (by decide) (by decide) (by decide) (by decide) (by decide) (by decide)) (g := (mkF m 120 #[.val (.int p1), .val (.int ((p1 &&& (2147483647 : Int32)) % (3 : Int32))), .val (.ref b402), .val (.ref wO), .unset] [(.ref b402), (.ref b465), (.ref b465)])) rfl (by rw [hml]; rfl) (Steps.refl _) (a := b465) (argsL := [(.ref b402)]) (rest := [(.ref b465)]) (lenOf pd___C_V rfl) rfl (by show 2 * 0 + _ ≤ _; exact Nat.le_of_eq rfl) (hb hby at_120) (fun _ _ => ⟨rfl, e465, (by decide : 2 + 1 ≤ _), (by decide : 13 + 9 ≤ _)⟩)
  dsimp only [Pt.U, Pt.locs, Pt.cells, Pt.slots] at X471 l471 y471 z471 st471 hQ471
  subst l471 y471 z471
  obtain ⟨rfl, N471q, K471, E471, Fc471, t471, kt471, -, -, -, Fv471, Vq471⟩ := hQ471
  have N471 := Fr.app NN456 N471q
  have V471 : Arv Z T471.heap t471 kt471 .byte (9 : Int32) [.int (111 : Int32), .int (110 : Int32), .int (45 : Int32), .int (100 : Int32), .int (101 : Int32), .int (109 : Int32), .int (97 : Int32), .int (110 : Int32), .int (100 : Int32)] (.int (0 : Int32)) := Vq471
  have O472 := O466.keep K471 (allS g_b465 all0)
  have Z473 : n0 ≤ T471.heap.size := Nat.le_trans Z467 K471.1
  have K474 := Nat.le_trans K468 K471.1
  have pre475 : ∀ t, Steps p.tables e below (T471.setTop (mkF m 123 #[.val (.int p1), .val (.int ((p1 &&& (2147483647 : Int32)) % (3 : Int32))), .val (.ref b402), .val (.ref wO), .unset] [(.ref b465)])) t → Steps p.tables e below (s₁.setTop (entryFrame m #[(.int p1)] maxLocals)) t := by
    intro t k
    refine pre470 _ ?_
    show Steps p.tables e below (T465.setTop (mkF m 120 #[.val (.int p1), .val (.int ((p1 &&& (2147483647 : Int32)) % (3 : Int32))), .val (.ref b402), .val (.ref wO), .unset] [(.ref b402), (.ref b465), (.ref b465)])) _
    refine st471.trans ?_
    exact k
  have pre476 : ∀ t, Steps p.tables e below (T471.setTop (mkF m 127 #[.val (.int p1), .val (.int ((p1 &&& (2147483647 : Int32)) % (3 : Int32))), .val (.ref b402), .val (.ref wO), .val (.ref b465)] [(.ref b465)])) t → Steps p.tables e below (s₁.setTop (entryFrame m #[(.int p1)] maxLocals)) t := by
    intro t k
    refine pre475 _ ?_
    show Steps p.tables e below (T471.setTop (mkF m 123 #[.val (.int p1), .val (.int ((p1 &&& (2147483647 : Int32)) % (3 : Int32))), .val (.ref b402), .val (.ref wO), .unset] [(.ref b465)])) _
    refine XS.astore X471.here hx rfl (hb hby at_123) rfl rfl (l' := #[.val (.int p1), .val (.int ((p1 &&& (2147483647 : Int32)) % (3 : Int32))), .val (.ref b402), .val (.ref wO), .val (.ref b465)]) rfl ?_
    show Steps p.tables e below (T471.setTop (mkF m 125 #[.val (.int p1), .val (.int ((p1 &&& (2147483647 : Int32)) % (3 : Int32))), .val (.ref b402), .val (.ref wO), .val (.ref b465)] [])) _
    refine XS.aload X471.here hx rfl (hb hby at_125) rfl rfl ?_
    exact k
  obtain ⟨_, _, ⟨T477, L477, k477, n477⟩, -, X477, sS477, gr477, ⟨Lc477, hQ477, l477, y477, z477⟩, st477⟩ := Jvm.RoadKit.callSS X471 hx (y := (⟨"com/example/matchbook/matchbook/Pricing", "parse", "(Ljava/lang/String;)Lcom/example/matchbook/matchbook/Pricing;"⟩ : MethodName)) hown (mvT hZ (hw _ (List.mem_of_getElem? (i := 26) rfl))) (mvT hZ (hw _ (List.mem_of_getElem? (i := 27) rfl))) (mvT hZ (hw _ (List.mem_of_getElem? (i := 3) rfl))) (mvT hZ (hw _ (List.mem_of_getElem? (i := 28) rfl))) (by decide) (backOfS (W := 0) (rm4o l Z a0 hw [] b465 kV wO wS wO_label wO_label_value k_wO wS_label wS_label_value k_wS t471 kt471 wV pC T471.heap n0 Z473 O472 E_wV V_wV E_wO F_wO_label E_wO_label F_wO_label_coder F_wO_label_value V_wO E_wS F_wS_label E_wS_label F_wS_label_coder F_wS_label_value V_wS E471 Fv471 Fc471 V471 hpc S_wV S_pC) hZ (hw _ (List.mem_of_getElem? (i := 28) rfl)) (hw _ (List.mem_of_getElem? (i := 3) rfl)) (by decide) (by decide)) (g := (mkF m 127 #[.val (.int p1), .val (.int ((p1 &&& (2147483647 : Int32)) % (3 : Int32))), .val (.ref b402), .val (.ref wO), .val (.ref b465)] [(.ref b465)])) rfl (by rw [hml]; rfl) (argsL := [(.ref b465)]) (rest := []) (lenOf pd__Ljava_lang_String__Lcom_example_matchbook_matchbook_Pricing_ rfl) rfl (by show 2 * 0 + _ ≤ _; exact Nat.le_of_eq rfl) (hb hby at_127) (fun _ _ => ⟨rfl, rfl, (by decide : 3 + 3 ≤ _), (by decide : 22 + 106 ≤ _)⟩)
  dsimp only [Pt.U, Pt.locs, Pt.cells, Pt.slots] at X477 l477 y477 z477 st477 hQ477 sS477 gr477
  subst l477 y477 z477
  obtain ⟨rfl, N477q, K477⟩ := hQ477
  have N477 := Fr.app N471 N477q
  have O478 := O472.keep K477 all0
  have Z479 : n0 ≤ T477.heap.size := Nat.le_trans Z473 K477.1
  have K480 := Nat.le_trans K474 K477.1
  have hS477 := foldS (s := s) (vm0 := s.vm) hS0 K474 sS477 gr477
  have hZ477 : Z.Warmed39 (s.setVm T477.vm).vm := State.Warmed39.trans (t := s.setVm s.vm) hZ sS477.1
  have hown477 : (s.setVm T477.vm).vm.findClass "com/example/matchbook/matchbook/PricingParsePinLaw" = some m.cls := by rw [show (s.setVm T477.vm).vm = T477.vm from rfl, sS477.1.alike.findClass]; exact hown
  have X477 : Stand p l e room_1 (s.setVm T477.vm) m _ below meth c T477 _ _ _ := X477
  have pre481 : ∀ t, Steps p.tables e below (T477.setTop (mkF m 130 #[.val (.int p1), .val (.int ((p1 &&& (2147483647 : Int32)) % (3 : Int32))), .val (.ref b402), .val (.ref wO), .val (.ref b465)] [(.ref wO)])) t → Steps p.tables e below (s₁.setTop (entryFrame m #[(.int p1)] maxLocals)) t := by
    intro t k
    refine pre476 _ ?_
    show Steps p.tables e below (T471.setTop (mkF m 127 #[.val (.int p1), .val (.int ((p1 &&& (2147483647 : Int32)) % (3 : Int32))), .val (.ref b402), .val (.ref wO), .val (.ref b465)] [(.ref b465)])) _
    refine st477.trans ?_
    exact k
  have pre482 : ∀ t, Steps p.tables e below (T477.setTop (mkF m 131 #[.val (.int p1), .val (.int ((p1 &&& (2147483647 : Int32)) % (3 : Int32))), .val (.ref b402), .val (.ref wO), .val (.ref b465)] [(.ref wO), (.ref wO)])) t → Steps p.tables e below (s₁.setTop (entryFrame m #[(.int p1)] maxLocals)) t := by
    intro t k
    refine pre481 _ ?_
    show Steps p.tables e below (T477.setTop (mkF m 130 #[.val (.int p1), .val (.int ((p1 &&& (2147483647 : Int32)) % (3 : Int32))), .val (.ref b402), .val (.ref wO), .val (.ref b465)] [(.ref wO)])) _
    refine XS.aloadN X477.here hx rfl (hb hby at_130) rfl rfl ?_
    exact k
  have pre483 : ∀ t, Steps p.tables e below (T477.setTop (mkF m 134 #[.val (.int p1), .val (.int ((p1 &&& (2147483647 : Int32)) % (3 : Int32))), .val (.ref b402), .val (.ref wO), .val (.ref b465)] [])) t → Steps p.tables e below (s₁.setTop (entryFrame m #[(.int p1)] maxLocals)) t := by
    intro t k
    refine pre482 _ ?_
    show Steps p.tables e below (T477.setTop (mkF m 131 #[.val (.int p1), .val (.int ((p1 &&& (2147483647 : Int32)) % (3 : Int32))), .val (.ref b402), .val (.ref wO), .val (.ref b465)] [(.ref wO), (.ref wO)])) _
    refine Jvm.RoadKit.acmp (g := (mkF m 131 #[.val (.int p1), .val (.int ((p1 &&& (2147483647 : Int32)) % (3 : Int32))), .val (.ref b402), .val (.ref wO), .val (.ref b465)] [(.ref wO), (.ref wO)])) X477 hx rfl rfl rfl (pc0 := 131) (pc' := 134) (same := true) rfl (hb hby at_131) rfl (decide_eq_true rfl) (by decide) (by decide) ?_
    exact k
  have pre484 : ∀ t, Steps p.tables e below (T477.setTop (mkF m 139 #[.val (.int p1), .val (.int ((p1 &&& (2147483647 : Int32)) % (3 : Int32))), .val (.ref b402), .val (.ref wO), .val (.ref b465)] [(.int (1 : Int32))])) t → Steps p.tables e below (s₁.setTop (entryFrame m #[(.int p1)] maxLocals)) t := by
    intro t k
    refine pre483 _ ?_
    show Steps p.tables e below (T477.setTop (mkF m 134 #[.val (.int p1), .val (.int ((p1 &&& (2147483647 : Int32)) % (3 : Int32))), .val (.ref b402), .val (.ref wO), .val (.ref b465)] [])) _
    refine XS.iconst X477.here hx rfl (hb hby at_134) ?_
    show Steps p.tables e below (T477.setTop (mkF m 135 #[.val (.int p1), .val (.int ((p1 &&& (2147483647 : Int32)) % (3 : Int32))), .val (.ref b402), .val (.ref wO), .val (.ref b465)] [(.int (1 : Int32))])) _
    refine XS.goto X477.here hx rfl (pc0 := 135) (pc' := 139) rfl (hb hby at_135) (by decide) (by decide) ?_
    exact k
  obtain ⟨fs, hr, hrun, hended, hsame⟩ := Stand.leaveW (s := s) (vm₁ := T477.vm) X477 hS477 (Nat.le_refl _) (v := some (.int (1 : Int32))) (fun h => by rw [hret] at h; cases h) (hlocks := hlocks)
  refine ⟨_, _, pre484 _ ?_, hrun, hended, _, _, rfl, ?_, ⟨hsame.1, hsame.2.1, hsame.2.2.1, hsame.2.2.2.mono (by decide) (by decide)⟩⟩
  · show Steps p.tables e below (T477.setTop (mkF m 139 #[.val (.int p1), .val (.int ((p1 &&& (2147483647 : Int32)) % (3 : Int32))), .val (.ref b402), .val (.ref wO), .val (.ref b465)] [(.int (1 : Int32))])) _
    exact retN X477 hx (t := .boolean) hret (by simp) (hb hby at_139) hr
  · show Q0o Z p1 kV wO_label wO_label_value k_wO wS_label wS_label_value k_wS wO wS wV pC h0 n0 _ T477.heap _
    exact ⟨(by rw [F0o]), N477⟩
theorem ef_0s (m : MethodId) (x0 : Int32) : entryFrame m #[(.int x0)] maxLocals = mkF m 0 #[.val (.int x0), .unset, .unset, .unset, .unset] [] := by first | (simp [entryFrame, mkF, argsToLocals, Value.category, maxLocals]; done) | rfl
def F0s  : Int32 :=
  (1 : Int32)
def Q0s (Z : State) (p1 : Int32) (kV : ClassId) (wO_label : Addr) (wO_label_value : Addr) (k_wO : ClassId) (wS_label : Addr) (wS_label_value : Addr) (k_wS : ClassId) (wO : Addr) (wS : Addr) (wV : Addr) (pC : Int32) (h0 : Heap) (n0 : Nat) (v : Option Value) (h : Heap) (L : List Loc) : Prop := v = some (.int (F0s)) ∧ Fr n0 L
set_option maxRecDepth 65536 in
set_option maxHeartbeats 40000000 in
theorem rm0s (l : Launch) (Z : State) (a0 : Array Value) (hw : ∀ d ∈ tables_1, d.before a0 Z = true) (ws : List Jvm.Cond) (p1 : Int32) (kV : ClassId) (wO_label : Addr) (wO_label_value : Addr) (k_wO : ClassId) (wS_label : Addr) (wS_label_value : Addr) (k_wS : ClassId) (wO : Addr) (wS : Addr) (wV : Addr) (pC : Int32) (h0 : Heap) (n0 : Nat) (Z0 : n0 ≤ h0.size) (O0 : Old Z n0 h0) (E_wV : Exa Z Z.heap wV "[Lcom/example/matchbook/matchbook/Pricing;") (V_wV : Arv Z Z.heap wV kV (.object "com/example/matchbook/matchbook/Pricing") (2 : Int32) [.ref wO, .ref wS] .null) (E_wO : Exa Z Z.heap wO "com/example/matchbook/matchbook/Pricing") (F_wO_label : Fld Z Z.heap wO "com/example/matchbook/matchbook/Pricing" "label" "Ljava/lang/String;" (.ref wO_label)) (E_wO_label : Exa Z Z.heap wO_label "java/lang/String") (F_wO_label_coder : Fld Z Z.heap wO_label "java/lang/String" "coder" "B" (.int (0 : Int32))) (F_wO_label_value : Fld Z Z.heap wO_label "java/lang/String" "value" "[B" (.ref wO_label_value)) (V_wO : Arv Z Z.heap wO_label_value k_wO .byte (9 : Int32) [.int (111 : Int32), .int (110 : Int32), .int (45 : Int32), .int (100 : Int32), .int (101 : Int32), .int (109 : Int32), .int (97 : Int32), .int (110 : Int32), .int (100 : Int32)] (.int (0 : Int32))) (E_wS : Exa Z Z.heap wS "com/example/matchbook/matchbook/Pricing") (F_wS_label : Fld Z Z.heap wS "com/example/matchbook/matchbook/Pricing" "label" "Ljava/lang/String;" (.ref wS_label)) (E_wS_label : Exa Z Z.heap wS_label "java/lang/String") (F_wS_label_coder : Fld Z Z.heap wS_label "java/lang/String" "coder" "B" (.int (0 : Int32))) (F_wS_label_value : Fld Z Z.heap wS_label "java/lang/String" "value" "[B" (.ref wS_label_value)) (V_wS : Arv Z Z.heap wS_label_value k_wS .byte (4 : Int32) [.int (115 : Int32), .int (112 : Int32), .int (111 : Int32), .int (116 : Int32)] (.int (0 : Int32))) (hpc : ¬ (pC = (0 : Int32))) (hk0 : ¬ (((p1 &&& (2147483647 : Int32)) % (3 : Int32)) = (0 : Int32))) (hk1 : ¬ (((p1 &&& (2147483647 : Int32)) % (3 : Int32)) = (1 : Int32))) (S_wO : Sta Z Z.heap "com/example/matchbook/matchbook/Pricing" "ON_DEMAND" "Lcom/example/matchbook/matchbook/Pricing;" (.ref wO)) (S_wS : Sta Z Z.heap "com/example/matchbook/matchbook/Pricing" "SPOT" "Lcom/example/matchbook/matchbook/Pricing;" (.ref wS)) (S_wV : Sta Z Z.heap "com/example/matchbook/matchbook/Pricing" "$VALUES" "[Lcom/example/matchbook/matchbook/Pricing;" (.ref wV)) (S_pC : Sta Z Z.heap "java/lang/String" "COMPACT_STRINGS" "Z" (.int pC)) :
    MetFree l x (head1 (Jvm.Cond.code x code maxLocals ret :: ws) room_1) (fun a U => a = #[(.int p1)] ∧ Z.Warmed39 U.vm ∧ U.heap = h0) (fun _ _ _ _ _ => True) (fun _ U o U' => ∃ v L, o = .returned v ∧ Q0s Z p1 kV wO_label wO_label_value k_wO wS_label wS_label_value k_wS wO wS wV pC h0 n0 v U'.heap L ∧ ReturnedEndW U o U' L room_1.cells room_1.slots) := by
  refine MetFree.of_bodySF (plainFor_of_name pn_0) hisR ?_
  intro p e s m args below meth c s₁ Bd hml0 hP hK
  obtain ⟨rfl, hZ, hh⟩ := hP
  have hx := Bd.exec
  have hby := Bd.bytes
  have hml : c.maxLocals = 5 := hml0
  have hown : s.vm.findClass "com/example/matchbook/matchbook/PricingParsePinLaw" = some m.cls := findClass_of_methodNamed Bd.named
  have hnm := (name_of_methodNamed Bd.named Bd.method).1
  have hret := Bd.returns
  have hlocks : meth.locks = false := Bd.notSynchronized
  have X0 : Stand p l e room_1 s m #[(.int p1)] below meth c s₁ [] 0 0 := Stand.of_body Bd
  have e0 : s₁.heap = h0 := by rw [← hh, Bd.state]; rfl
  have N0 := Fr.nil n0
  have hS0 : s.Since s.vm h0.size := (State.WarmedH.refl s).since _
  have SK0 : h0.size ≤ h0.size := Nat.le_refl _
  have pre0 : ∀ t, Steps p.tables e below (s₁.setTop (mkF m 0 #[.val (.int p1), .unset, .unset, .unset, .unset] [])) t → Steps p.tables e below (s₁.setTop (entryFrame m #[(.int p1)] maxLocals)) t := fun t k => castTop (ef_0s m p1) k
  have pre485 : ∀ t, Steps p.tables e below (s₁.setTop (mkF m 8 #[.val (.int p1), .val (.int ((p1 &&& (2147483647 : Int32)) % (3 : Int32))), .unset, .unset, .unset] [(.int ((p1 &&& (2147483647 : Int32)) % (3 : Int32)))])) t → Steps p.tables e below (s₁.setTop (entryFrame m #[(.int p1)] maxLocals)) t := by
    intro t k
    refine pre0 _ ?_
    show Steps p.tables e below (s₁.setTop (mkF m 0 #[.val (.int p1), .unset, .unset, .unset, .unset] [])) _
    refine XS.iloadN X0.here hx rfl (hb hby at_0) rfl ?_
    show Steps p.tables e below (s₁.setTop (mkF m 1 #[.val (.int p1), .unset, .unset, .unset, .unset] [(.int p1)])) _
    refine X0.ldcInt hx hown (mvT hZ (hw _ (List.mem_of_getElem? (i := 0) rfl))) (g := (mkF m 1 #[.val (.int p1), .unset, .unset, .unset, .unset] [(.int p1)])) rfl (hb hby at_1) _ ?_
    show Steps p.tables e below (s₁.setTop (mkF m 3 #[.val (.int p1), .unset, .unset, .unset, .unset] [(.int (2147483647 : Int32)), (.int p1)])) _
    refine XS.iand X0.here hx rfl (hb hby at_3) rfl ?_
    show Steps p.tables e below (s₁.setTop (mkF m 4 #[.val (.int p1), .unset, .unset, .unset, .unset] [(.int (p1 &&& (2147483647 : Int32)))])) _
    refine XS.iconst X0.here hx rfl (hb hby at_4) ?_
    show Steps p.tables e below (s₁.setTop (mkF m 5 #[.val (.int p1), .unset, .unset, .unset, .unset] [(.int (3 : Int32)), (.int (p1 &&& (2147483647 : Int32)))])) _
    refine iremM X0 hx rfl (hb hby at_5) rfl (by decide) ?_
    show Steps p.tables e below (s₁.setTop (mkF m 6 #[.val (.int p1), .unset, .unset, .unset, .unset] [(.int ((p1 &&& (2147483647 : Int32)) % (3 : Int32)))])) _
    refine XS.istoreN X0.here hx rfl (hb hby at_6) rfl (l' := #[.val (.int p1), .val (.int ((p1 &&& (2147483647 : Int32)) % (3 : Int32))), .unset, .unset, .unset]) rfl ?_
    show Steps p.tables e below (s₁.setTop (mkF m 7 #[.val (.int p1), .val (.int ((p1 &&& (2147483647 : Int32)) % (3 : Int32))), .unset, .unset, .unset] [])) _
    refine XS.iloadN X0.here hx rfl (hb hby at_7) rfl ?_
    exact k
  have pre487 : ∀ t, Steps p.tables e below (s₁.setTop (mkF m 22 #[.val (.int p1), .val (.int ((p1 &&& (2147483647 : Int32)) % (3 : Int32))), .unset, .unset, .unset] [])) t → Steps p.tables e below (s₁.setTop (entryFrame m #[(.int p1)] maxLocals)) t := by
    intro t k
    refine pre485 _ ?_
    show Steps p.tables e below (s₁.setTop (mkF m 8 #[.val (.int p1), .val (.int ((p1 &&& (2147483647 : Int32)) % (3 : Int32))), .unset, .unset, .unset] [(.int ((p1 &&& (2147483647 : Int32)) % (3 : Int32)))])) _
    refine XS.ifYes X0.here hx rfl (pc0 := 8) (pc' := 22) rfl (hb hby at_8) rfl ((if0 _ _).trans (feq hk0).2) (by decide) (by decide) ?_
    exact k
  have pre488 : ∀ t, Steps p.tables e below (s₁.setTop (mkF m 24 #[.val (.int p1), .val (.int ((p1 &&& (2147483647 : Int32)) % (3 : Int32))), .unset, .unset, .unset] [(.int (1 : Int32)), (.int ((p1 &&& (2147483647 : Int32)) % (3 : Int32)))])) t → Steps p.tables e below (s₁.setTop (entryFrame m #[(.int p1)] maxLocals)) t := by
    intro t k
    refine pre487 _ ?_
    show Steps p.tables e below (s₁.setTop (mkF m 22 #[.val (.int p1), .val (.int ((p1 &&& (2147483647 : Int32)) % (3 : Int32))), .unset, .unset, .unset] [])) _
    refine XS.iloadN X0.here hx rfl (hb hby at_22) rfl ?_
    show Steps p.tables e below (s₁.setTop (mkF m 23 #[.val (.int p1), .val (.int ((p1 &&& (2147483647 : Int32)) % (3 : Int32))), .unset, .unset, .unset] [(.int ((p1 &&& (2147483647 : Int32)) % (3 : Int32)))])) _
    refine XS.iconst X0.here hx rfl (hb hby at_23) ?_
    exact k
  have pre490 : ∀ t, Steps p.tables e below (s₁.setTop (mkF m 87 #[.val (.int p1), .val (.int ((p1 &&& (2147483647 : Int32)) % (3 : Int32))), .unset, .unset, .unset] [])) t → Steps p.tables e below (s₁.setTop (entryFrame m #[(.int p1)] maxLocals)) t := by
    intro t k
    refine pre488 _ ?_
    show Steps p.tables e below (s₁.setTop (mkF m 24 #[.val (.int p1), .val (.int ((p1 &&& (2147483647 : Int32)) % (3 : Int32))), .unset, .unset, .unset] [(.int (1 : Int32)), (.int ((p1 &&& (2147483647 : Int32)) % (3 : Int32)))])) _
    refine XS.icmpYes X0.here hx rfl (pc0 := 24) (pc' := 87) rfl (hb hby at_24) rfl (feq hk1).2 (by decide) (by decide) ?_
    exact k
  have pre491 : ∀ t, Steps p.tables e below (s₁.setTop (mkF m 88 #[.val (.int p1), .val (.int ((p1 &&& (2147483647 : Int32)) % (3 : Int32))), .unset, .unset, .unset] [(.int (4 : Int32))])) t → Steps p.tables e below (s₁.setTop (entryFrame m #[(.int p1)] maxLocals)) t := by
    intro t k
    refine pre490 _ ?_
    show Steps p.tables e below (s₁.setTop (mkF m 87 #[.val (.int p1), .val (.int ((p1 &&& (2147483647 : Int32)) % (3 : Int32))), .unset, .unset, .unset] [])) _
    refine XS.iconst X0.here hx rfl (hb hby at_87) ?_
    exact k
  obtain ⟨T492, h492, k492, X492, e492, E492, A492, st492⟩ := newP X0 hx hZ (hw _ (List.mem_of_getElem? (i := 1) rfl)) e0 (g := (mkF m 88 #[.val (.int p1), .val (.int ((p1 &&& (2147483647 : Int32)) % (3 : Int32))), .unset, .unset, .unset] [(.int (4 : Int32))])) rfl (hb hby at_88) rfl (by decide) (cap := 4) (by decide) (by decide) (by decide) (by decide)
  obtain ⟨b492, g492⟩ : ∃ z, z = h0.size := ⟨_, rfl⟩
  rw [← g492] at A492 st492
  have g_b492 : n0 ≤ b492 := Nat.le_trans Z0 (Nat.le_of_eq g492.symm)
  have O493 := O0.ext E492
  have Z494 : n0 ≤ h492.size := Nat.le_trans Z0 E492.1
  have K495 := Nat.le_trans SK0 E492.1
  have V492 : Arv Z h492 b492 k492 .char (4 : Int32) [(.int (0 : Int32)), (.int (0 : Int32)), (.int (0 : Int32)), (.int (0 : Int32))] (.int (0 : Int32)) := (Arv.new A492 (by decide)).pad (pad_rep [] (.int (0 : Int32)) 4)
  have pre496 : ∀ t, Steps p.tables e below (T492.setTop (mkF m 90 #[.val (.int p1), .val (.int ((p1 &&& (2147483647 : Int32)) % (3 : Int32))), .unset, .unset, .unset] [(.ref b492)])) t → Steps p.tables e below (s₁.setTop (entryFrame m #[(.int p1)] maxLocals)) t := by
    intro t k
    refine pre491 _ ?_
    show Steps p.tables e below (s₁.setTop (mkF m 88 #[.val (.int p1), .val (.int ((p1 &&& (2147483647 : Int32)) % (3 : Int32))), .unset, .unset, .unset] [(.int (4 : Int32))])) _
    refine st492 _ ?_
    exact k
  have pre497 : ∀ t, Steps p.tables e below (T492.setTop (mkF m 94 #[.val (.int p1), .val (.int ((p1 &&& (2147483647 : Int32)) % (3 : Int32))), .unset, .unset, .unset] [(.int (115 : Int32)), (.int (0 : Int32)), (.ref b492), (.ref b492)])) t → Steps p.tables e below (s₁.setTop (entryFrame m #[(.int p1)] maxLocals)) t := by
    intro t k
    refine pre496 _ ?_
    show Steps p.tables e below (T492.setTop (mkF m 90 #[.val (.int p1), .val (.int ((p1 &&& (2147483647 : Int32)) % (3 : Int32))), .unset, .unset, .unset] [(.ref b492)])) _
    refine XS.dup X492.here hx rfl (hb hby at_90) rfl rfl ?_
    show Steps p.tables e below (T492.setTop (mkF m 91 #[.val (.int p1), .val (.int ((p1 &&& (2147483647 : Int32)) % (3 : Int32))), .unset, .unset, .unset] [(.ref b492), (.ref b492)])) _
    refine XS.iconst X492.here hx rfl (hb hby at_91) ?_
    show Steps p.tables e below (T492.setTop (mkF m 92 #[.val (.int p1), .val (.int ((p1 &&& (2147483647 : Int32)) % (3 : Int32))), .unset, .unset, .unset] [(.int (0 : Int32)), (.ref b492), (.ref b492)])) _
    refine XS.bipush X492.here hx rfl (hb hby at_92) ?_
    exact k
  obtain ⟨cl498, Ar498, q498, S498, N_498, H498, G498⟩ := V492
  obtain ⟨T498, h498, X498, e498, W498, st498⟩ := stC X492 hx hZ e492 Ar498 (j := (0 : Int32)) (inb_of S498 ⟨by decide, by decide⟩) (g := (mkF m 94 #[.val (.int p1), .val (.int ((p1 &&& (2147483647 : Int32)) % (3 : Int32))), .unset, .unset, .unset] [(.int (115 : Int32)), (.int (0 : Int32)), (.ref b492), (.ref b492)])) rfl rfl (hb hby at_94)
  have V498 : Arv Z h498 b492 k492 .char (4 : Int32) [(.int (nar .char (115 : Int32))), (.int (0 : Int32)), (.int (0 : Int32)), (.int (0 : Int32))] (.int (0 : Int32)) := Arv.set Ar498 q498 S498 N_498 H498 G498 (fits_nar_char _) W498 0 rfl (Nat.le_of_ble_eq_true rfl)
  have O499 := O493.wr W498 g_b492
  have Z500 : n0 ≤ h498.size := Nat.le_trans Z494 (Keep.of_wr W498).1
  have K501 := Nat.le_trans K495 (Keep.of_wr W498).1
  have NN498 := Fr.snoc X498 N0 g_b492
  have pre502 : ∀ t, Steps p.tables e below (T498.setTop (mkF m 95 #[.val (.int p1), .val (.int ((p1 &&& (2147483647 : Int32)) % (3 : Int32))), .unset, .unset, .unset] [(.ref b492)])) t → Steps p.tables e below (s₁.setTop (entryFrame m #[(.int p1)] maxLocals)) t := by
    intro t k
    refine pre497 _ ?_
    show Steps p.tables e below (T492.setTop (mkF m 94 #[.val (.int p1), .val (.int ((p1 &&& (2147483647 : Int32)) % (3 : Int32))), .unset, .unset, .unset] [(.int (115 : Int32)), (.int (0 : Int32)), (.ref b492), (.ref b492)])) _
    refine st498 _ ?_
    exact k
  have pre503 : ∀ t, Steps p.tables e below (T498.setTop (mkF m 99 #[.val (.int p1), .val (.int ((p1 &&& (2147483647 : Int32)) % (3 : Int32))), .unset, .unset, .unset] [(.int (112 : Int32)), (.int (1 : Int32)), (.ref b492), (.ref b492)])) t → Steps p.tables e below (s₁.setTop (entryFrame m #[(.int p1)] maxLocals)) t := by
    intro t k
    refine pre502 _ ?_
    show Steps p.tables e below (T498.setTop (mkF m 95 #[.val (.int p1), .val (.int ((p1 &&& (2147483647 : Int32)) % (3 : Int32))), .unset, .unset, .unset] [(.ref b492)])) _
    refine XS.dup X498.here hx rfl (hb hby at_95) rfl rfl ?_
    show Steps p.tables e below (T498.setTop (mkF m 96 #[.val (.int p1), .val (.int ((p1 &&& (2147483647 : Int32)) % (3 : Int32))), .unset, .unset, .unset] [(.ref b492), (.ref b492)])) _
    refine XS.iconst X498.here hx rfl (hb hby at_96) ?_
    show Steps p.tables e below (T498.setTop (mkF m 97 #[.val (.int p1), .val (.int ((p1 &&& (2147483647 : Int32)) % (3 : Int32))), .unset, .unset, .unset] [(.int (1 : Int32)), (.ref b492), (.ref b492)])) _
    refine XS.bipush X498.here hx rfl (hb hby at_97) ?_
    exact k
  obtain ⟨cl504, Ar504, q504, S504, N_504, H504, G504⟩ := V498
  obtain ⟨T504, h504, X504, e504, W504, st504⟩ := stC X498 hx hZ e498 Ar504 (j := (1 : Int32)) (inb_of S504 ⟨by decide, by decide⟩) (g := (mkF m 99 #[.val (.int p1), .val (.int ((p1 &&& (2147483647 : Int32)) % (3 : Int32))), .unset, .unset, .unset] [(.int (112 : Int32)), (.int (1 : Int32)), (.ref b492), (.ref b492)])) rfl rfl (hb hby at_99)
  have V504 : Arv Z h504 b492 k492 .char (4 : Int32) [(.int (nar .char (115 : Int32))), (.int (nar .char (112 : Int32))), (.int (0 : Int32)), (.int (0 : Int32))] (.int (0 : Int32)) := Arv.set Ar504 q504 S504 N_504 H504 G504 (fits_nar_char _) W504 1 rfl (Nat.le_of_ble_eq_true rfl)
  have O505 := O499.wr W504 g_b492
  have Z506 : n0 ≤ h504.size := Nat.le_trans Z500 (Keep.of_wr W504).1
  have K507 := Nat.le_trans K501 (Keep.of_wr W504).1
  have NN504 := Fr.snoc X504 NN498 g_b492
  have pre508 : ∀ t, Steps p.tables e below (T504.setTop (mkF m 100 #[.val (.int p1), .val (.int ((p1 &&& (2147483647 : Int32)) % (3 : Int32))), .unset, .unset, .unset] [(.ref b492)])) t → Steps p.tables e below (s₁.setTop (entryFrame m #[(.int p1)] maxLocals)) t := by
    intro t k
    refine pre503 _ ?_
    show Steps p.tables e below (T498.setTop (mkF m 99 #[.val (.int p1), .val (.int ((p1 &&& (2147483647 : Int32)) % (3 : Int32))), .unset, .unset, .unset] [(.int (112 : Int32)), (.int (1 : Int32)), (.ref b492), (.ref b492)])) _
    refine st504 _ ?_
    exact k
  have pre509 : ∀ t, Steps p.tables e below (T504.setTop (mkF m 104 #[.val (.int p1), .val (.int ((p1 &&& (2147483647 : Int32)) % (3 : Int32))), .unset, .unset, .unset] [(.int (111 : Int32)), (.int (2 : Int32)), (.ref b492), (.ref b492)])) t → Steps p.tables e below (s₁.setTop (entryFrame m #[(.int p1)] maxLocals)) t := by
    intro t k
    refine pre508 _ ?_
    show Steps p.tables e below (T504.setTop (mkF m 100 #[.val (.int p1), .val (.int ((p1 &&& (2147483647 : Int32)) % (3 : Int32))), .unset, .unset, .unset] [(.ref b492)])) _
    refine XS.dup X504.here hx rfl (hb hby at_100) rfl rfl ?_
    show Steps p.tables e below (T504.setTop (mkF m 101 #[.val (.int p1), .val (.int ((p1 &&& (2147483647 : Int32)) % (3 : Int32))), .unset, .unset, .unset] [(.ref b492), (.ref b492)])) _
    refine XS.iconst X504.here hx rfl (hb hby at_101) ?_
    show Steps p.tables e below (T504.setTop (mkF m 102 #[.val (.int p1), .val (.int ((p1 &&& (2147483647 : Int32)) % (3 : Int32))), .unset, .unset, .unset] [(.int (2 : Int32)), (.ref b492), (.ref b492)])) _
    refine XS.bipush X504.here hx rfl (hb hby at_102) ?_
    exact k
  obtain ⟨cl510, Ar510, q510, S510, N_510, H510, G510⟩ := V504
  obtain ⟨T510, h510, X510, e510, W510, st510⟩ := stC X504 hx hZ e504 Ar510 (j := (2 : Int32)) (inb_of S510 ⟨by decide, by decide⟩) (g := (mkF m 104 #[.val (.int p1), .val (.int ((p1 &&& (2147483647 : Int32)) % (3 : Int32))), .unset, .unset, .unset] [(.int (111 : Int32)), (.int (2 : Int32)), (.ref b492), (.ref b492)])) rfl rfl (hb hby at_104)
  have V510 : Arv Z h510 b492 k492 .char (4 : Int32) [(.int (nar .char (115 : Int32))), (.int (nar .char (112 : Int32))), (.int (nar .char (111 : Int32))), (.int (0 : Int32))] (.int (0 : Int32)) := Arv.set Ar510 q510 S510 N_510 H510 G510 (fits_nar_char _) W510 2 rfl (Nat.le_of_ble_eq_true rfl)
  have O511 := O505.wr W510 g_b492
  have Z512 : n0 ≤ h510.size := Nat.le_trans Z506 (Keep.of_wr W510).1
  have K513 := Nat.le_trans K507 (Keep.of_wr W510).1
  have NN510 := Fr.snoc X510 NN504 g_b492
  have pre514 : ∀ t, Steps p.tables e below (T510.setTop (mkF m 105 #[.val (.int p1), .val (.int ((p1 &&& (2147483647 : Int32)) % (3 : Int32))), .unset, .unset, .unset] [(.ref b492)])) t → Steps p.tables e below (s₁.setTop (entryFrame m #[(.int p1)] maxLocals)) t := by
    intro t k
    refine pre509 _ ?_
    show Steps p.tables e below (T504.setTop (mkF m 104 #[.val (.int p1), .val (.int ((p1 &&& (2147483647 : Int32)) % (3 : Int32))), .unset, .unset, .unset] [(.int (111 : Int32)), (.int (2 : Int32)), (.ref b492), (.ref b492)])) _
    refine st510 _ ?_
    exact k
  have pre515 : ∀ t, Steps p.tables e below (T510.setTop (mkF m 109 #[.val (.int p1), .val (.int ((p1 &&& (2147483647 : Int32)) % (3 : Int32))), .unset, .unset, .unset] [(.int (116 : Int32)), (.int (3 : Int32)), (.ref b492), (.ref b492)])) t → Steps p.tables e below (s₁.setTop (entryFrame m #[(.int p1)] maxLocals)) t := by
    intro t k
    refine pre514 _ ?_
    show Steps p.tables e below (T510.setTop (mkF m 105 #[.val (.int p1), .val (.int ((p1 &&& (2147483647 : Int32)) % (3 : Int32))), .unset, .unset, .unset] [(.ref b492)])) _
    refine XS.dup X510.here hx rfl (hb hby at_105) rfl rfl ?_
    show Steps p.tables e below (T510.setTop (mkF m 106 #[.val (.int p1), .val (.int ((p1 &&& (2147483647 : Int32)) % (3 : Int32))), .unset, .unset, .unset] [(.ref b492), (.ref b492)])) _
    refine XS.iconst X510.here hx rfl (hb hby at_106) ?_
    show Steps p.tables e below (T510.setTop (mkF m 107 #[.val (.int p1), .val (.int ((p1 &&& (2147483647 : Int32)) % (3 : Int32))), .unset, .unset, .unset] [(.int (3 : Int32)), (.ref b492), (.ref b492)])) _
    refine XS.bipush X510.here hx rfl (hb hby at_107) ?_
    exact k
  obtain ⟨cl516, Ar516, q516, S516, N_516, H516, G516⟩ := V510
  obtain ⟨T516, h516, X516, e516, W516, st516⟩ := stC X510 hx hZ e510 Ar516 (j := (3 : Int32)) (inb_of S516 ⟨by decide, by decide⟩) (g := (mkF m 109 #[.val (.int p1), .val (.int ((p1 &&& (2147483647 : Int32)) % (3 : Int32))), .unset, .unset, .unset] [(.int (116 : Int32)), (.int (3 : Int32)), (.ref b492), (.ref b492)])) rfl rfl (hb hby at_109)
  have V516 : Arv Z h516 b492 k492 .char (4 : Int32) [(.int (nar .char (115 : Int32))), (.int (nar .char (112 : Int32))), (.int (nar .char (111 : Int32))), (.int (nar .char (116 : Int32)))] (.int (0 : Int32)) := Arv.set Ar516 q516 S516 N_516 H516 G516 (fits_nar_char _) W516 3 rfl (Nat.le_of_ble_eq_true rfl)
  have O517 := O511.wr W516 g_b492
  have Z518 : n0 ≤ h516.size := Nat.le_trans Z512 (Keep.of_wr W516).1
  have K519 := Nat.le_trans K513 (Keep.of_wr W516).1
  have NN516 := Fr.snoc X516 NN510 g_b492
  have pre520 : ∀ t, Steps p.tables e below (T516.setTop (mkF m 110 #[.val (.int p1), .val (.int ((p1 &&& (2147483647 : Int32)) % (3 : Int32))), .unset, .unset, .unset] [(.ref b492)])) t → Steps p.tables e below (s₁.setTop (entryFrame m #[(.int p1)] maxLocals)) t := by
    intro t k
    refine pre515 _ ?_
    show Steps p.tables e below (T510.setTop (mkF m 109 #[.val (.int p1), .val (.int ((p1 &&& (2147483647 : Int32)) % (3 : Int32))), .unset, .unset, .unset] [(.int (116 : Int32)), (.int (3 : Int32)), (.ref b492), (.ref b492)])) _
    refine st516 _ ?_
    exact k
  have pre521 : ∀ t, Steps p.tables e below (T516.setTop (mkF m 111 #[.val (.int p1), .val (.int ((p1 &&& (2147483647 : Int32)) % (3 : Int32))), .val (.ref b492), .unset, .unset] [])) t → Steps p.tables e below (s₁.setTop (entryFrame m #[(.int p1)] maxLocals)) t := by
    intro t k
    refine pre520 _ ?_
    show Steps p.tables e below (T516.setTop (mkF m 110 #[.val (.int p1), .val (.int ((p1 &&& (2147483647 : Int32)) % (3 : Int32))), .unset, .unset, .unset] [(.ref b492)])) _
    refine XS.astoreN X516.here hx rfl (hb hby at_110) rfl rfl (l' := #[.val (.int p1), .val (.int ((p1 &&& (2147483647 : Int32)) % (3 : Int32))), .val (.ref b492), .unset, .unset]) rfl ?_
    exact k
  obtain ⟨T522, X522, e522, st522⟩ := getS2 X516 hx hZ hown (host := "") (Or.inl (hw _ (List.mem_of_getElem? (i := 35) rfl))) Via.refl e516 (S_wS.ext O517.2) (g := (mkF m 111 #[.val (.int p1), .val (.int ((p1 &&& (2147483647 : Int32)) % (3 : Int32))), .val (.ref b492), .unset, .unset] [])) rfl (hb hby at_111)
  have pre523 : ∀ t, Steps p.tables e below (T522.setTop (mkF m 114 #[.val (.int p1), .val (.int ((p1 &&& (2147483647 : Int32)) % (3 : Int32))), .val (.ref b492), .unset, .unset] [(.ref wS)])) t → Steps p.tables e below (s₁.setTop (entryFrame m #[(.int p1)] maxLocals)) t := by
    intro t k
    refine pre521 _ ?_
    show Steps p.tables e below (T516.setTop (mkF m 111 #[.val (.int p1), .val (.int ((p1 &&& (2147483647 : Int32)) % (3 : Int32))), .val (.ref b492), .unset, .unset] [])) _
    refine st522 _ ?_
    exact k
  have pre524 : ∀ t, Steps p.tables e below (T522.setTop (mkF m 115 #[.val (.int p1), .val (.int ((p1 &&& (2147483647 : Int32)) % (3 : Int32))), .val (.ref b492), .val (.ref wS), .unset] [])) t → Steps p.tables e below (s₁.setTop (entryFrame m #[(.int p1)] maxLocals)) t := by
    intro t k
    refine pre523 _ ?_
    show Steps p.tables e below (T522.setTop (mkF m 114 #[.val (.int p1), .val (.int ((p1 &&& (2147483647 : Int32)) % (3 : Int32))), .val (.ref b492), .unset, .unset] [(.ref wS)])) _
    refine XS.astoreN X522.here hx rfl (hb hby at_114) rfl rfl (l' := #[.val (.int p1), .val (.int ((p1 &&& (2147483647 : Int32)) % (3 : Int32))), .val (.ref b492), .val (.ref wS), .unset]) rfl ?_
    exact k
  obtain ⟨T525, h525, X525, e525, E525, A525, D525, -, st525⟩ := newO X522 hx hZ hown (hw _ (List.mem_of_getElem? (i := 5) rfl)) (hw _ (List.mem_of_getElem? (i := 6) rfl)) (hw _ (List.mem_of_getElem? (i := 7) rfl)) e522 (g := (mkF m 115 #[.val (.int p1), .val (.int ((p1 &&& (2147483647 : Int32)) % (3 : Int32))), .val (.ref b492), .val (.ref wS), .unset] [])) rfl (hb hby at_115) (by decide) (by decide)
  obtain ⟨b525, g525⟩ : ∃ z, z = h516.size := ⟨_, rfl⟩
  rw [← g525] at A525 D525 st525
  have g_b525 : n0 ≤ b525 := Nat.le_trans Z518 (Nat.le_of_eq g525.symm)
  have ne_b492_b525 : b492 ≠ b525 := Nat.ne_of_lt (Nat.lt_of_lt_of_le V516.lt (Nat.le_of_eq g525.symm))
  have O526 := O517.ext E525
  have Z527 : n0 ≤ h525.size := Nat.le_trans Z518 E525.1
  have K528 := Nat.le_trans K519 E525.1
  have F_value_b525 : Fld Z h525 b525 "java/lang/String" "value" "[B" .null := D525 (Or.inr (hw _ (List.mem_of_getElem? (i := 20) rfl))) (ty := (.array .byte)) (by decide)
  have F_coder_b525 : Fld Z h525 b525 "java/lang/String" "coder" "B" (.int (0 : Int32)) := D525 (Or.inr (hw _ (List.mem_of_getElem? (i := 21) rfl))) (ty := .byte) (by decide)
  have pre529 : ∀ t, Steps p.tables e below (T525.setTop (mkF m 118 #[.val (.int p1), .val (.int ((p1 &&& (2147483647 : Int32)) % (3 : Int32))), .val (.ref b492), .val (.ref wS), .unset] [(.ref b525)])) t → Steps p.tables e below (s₁.setTop (entryFrame m #[(.int p1)] maxLocals)) t := by
    intro t k
    refine pre524 _ ?_
    show Steps p.tables e below (T522.setTop (mkF m 115 #[.val (.int p1), .val (.int ((p1 &&& (2147483647 : Int32)) % (3 : Int32))), .val (.ref b492), .val (.ref wS), .unset] [])) _
    refine st525 _ ?_
    exact k
  have pre530 : ∀ t, Steps p.tables e below (T525.setTop (mkF m 120 #[.val (.int p1), .val (.int ((p1 &&& (2147483647 : Int32)) % (3 : Int32))), .val (.ref b492), .val (.ref wS), .unset] [(.ref b492), (.ref b525), (.ref b525)])) t → Steps p.tables e below (s₁.setTop (entryFrame m #[(.int p1)] maxLocals)) t := by
    intro t k
    refine pre529 _ ?_
    show Steps p.tables e below (T525.setTop (mkF m 118 #[.val (.int p1), .val (.int ((p1 &&& (2147483647 : Int32)) % (3 : Int32))), .val (.ref b492), .val (.ref wS), .unset] [(.ref b525)])) _
    refine XS.dup X525.here hx rfl (hb hby at_118) rfl rfl ?_
    show Steps p.tables e below (T525.setTop (mkF m 119 #[.val (.int p1), .val (.int ((p1 &&& (2147483647 : Int32)) % (3 : Int32))), .val (.ref b492), .val (.ref wS), .unset] [(.ref b525), (.ref b525)])) _
    refine XS.aloadN X525.here hx rfl (hb hby at_119) rfl rfl ?_
    exact k
  obtain ⟨_, _, ⟨T531, L531, k531, n531⟩, -, X531, ⟨Lc531, hQ531, l531, y531, z531⟩, st531⟩ := X525.specialBack hx (y := (⟨"java/lang/String", "<init>", "([C)V"⟩ : MethodName)) rfl hown (mvT hZ (hw _ (List.mem_of_getElem? (i := 8) rfl))) (mvT hZ (hw _ (List.mem_of_getElem? (i := 9) rfl))) (mvT hZ (hw _ (List.mem_of_getElem? (i := 10) rfl))) (by decide) (StrChars.Road.backV (W := 1) hZ (own_words hw) (kI := 4) (hw _ (List.mem_of_getElem? (i := 6) rfl)) (cs := [(nar .char (115 : Int32)), (nar .char (112 : Int32)), (nar .char (111 : Int32)), (nar .char (116 : Int32))]) (bs := [(115 : Int32), (112 : Int32), (111 : Int32), (116 : Int32)]) (n := 4) g_b525 Z527 A525 F_value_b525 F_coder_b525 (V516.ext E525) (S_pC.ext O526.2) hpc rfl rfl (by decide) (by decide) (by decide) (by decide) (by decide) (by decide)) (g := (mkF m 120 #[.val (.int p1), .val (.int ((p1 &&& (2147483647 : Int32)) % (3 : Int32))), .val (.ref b492), .val (.ref wS), .unset] [(.ref b492), (.ref b525), (.ref b525)])) rfl (by rw [hml]; rfl) (Steps.refl _) (a := b525) (argsL := [(.ref b492)]) (rest := [(.ref b525)]) (lenOf pd___C_V rfl) rfl (by show 2 * 0 + _ ≤ _; exact Nat.le_of_eq rfl) (hb hby at_120) (fun _ _ => ⟨rfl, e525, (by decide : 2 + 1 ≤ _), (by decide : 8 + 4 ≤ _)⟩)
  dsimp only [Pt.U, Pt.locs, Pt.cells, Pt.slots] at X531 l531 y531 z531 st531 hQ531
  subst l531 y531 z531
  obtain ⟨rfl, N531q, K531, E531, Fc531, t531, kt531, -, -, -, Fv531, Vq531⟩ := hQ531
  have N531 := Fr.app NN516 N531q
  have V531 : Arv Z T531.heap t531 kt531 .byte (4 : Int32) [.int (115 : Int32), .int (112 : Int32), .int (111 : Int32), .int (116 : Int32)] (.int (0 : Int32)) := Vq531
  have O532 := O526.keep K531 (allS g_b525 all0)
  have Z533 : n0 ≤ T531.heap.size := Nat.le_trans Z527 K531.1
  have K534 := Nat.le_trans K528 K531.1
  have pre535 : ∀ t, Steps p.tables e below (T531.setTop (mkF m 123 #[.val (.int p1), .val (.int ((p1 &&& (2147483647 : Int32)) % (3 : Int32))), .val (.ref b492), .val (.ref wS), .unset] [(.ref b525)])) t → Steps p.tables e below (s₁.setTop (entryFrame m #[(.int p1)] maxLocals)) t := by
    intro t k
    refine pre530 _ ?_
    show Steps p.tables e below (T525.setTop (mkF m 120 #[.val (.int p1), .val (.int ((p1 &&& (2147483647 : Int32)) % (3 : Int32))), .val (.ref b492), .val (.ref wS), .unset] [(.ref b492), (.ref b525), (.ref b525)])) _
    refine st531.trans ?_
    exact k
  have pre536 : ∀ t, Steps p.tables e below (T531.setTop (mkF m 127 #[.val (.int p1), .val (.int ((p1 &&& (2147483647 : Int32)) % (3 : Int32))), .val (.ref b492), .val (.ref wS), .val (.ref b525)] [(.ref b525)])) t → Steps p.tables e below (s₁.setTop (entryFrame m #[(.int p1)] maxLocals)) t := by
    intro t k
    refine pre535 _ ?_
    show Steps p.tables e below (T531.setTop (mkF m 123 #[.val (.int p1), .val (.int ((p1 &&& (2147483647 : Int32)) % (3 : Int32))), .val (.ref b492), .val (.ref wS), .unset] [(.ref b525)])) _
    refine XS.astore X531.here hx rfl (hb hby at_123) rfl rfl (l' := #[.val (.int p1), .val (.int ((p1 &&& (2147483647 : Int32)) % (3 : Int32))), .val (.ref b492), .val (.ref wS), .val (.ref b525)]) rfl ?_
    show Steps p.tables e below (T531.setTop (mkF m 125 #[.val (.int p1), .val (.int ((p1 &&& (2147483647 : Int32)) % (3 : Int32))), .val (.ref b492), .val (.ref wS), .val (.ref b525)] [])) _
    refine XS.aload X531.here hx rfl (hb hby at_125) rfl rfl ?_
    exact k
  obtain ⟨_, _, ⟨T537, L537, k537, n537⟩, -, X537, sS537, gr537, ⟨Lc537, hQ537, l537, y537, z537⟩, st537⟩ := Jvm.RoadKit.callSS X531 hx (y := (⟨"com/example/matchbook/matchbook/Pricing", "parse", "(Ljava/lang/String;)Lcom/example/matchbook/matchbook/Pricing;"⟩ : MethodName)) hown (mvT hZ (hw _ (List.mem_of_getElem? (i := 26) rfl))) (mvT hZ (hw _ (List.mem_of_getElem? (i := 27) rfl))) (mvT hZ (hw _ (List.mem_of_getElem? (i := 3) rfl))) (mvT hZ (hw _ (List.mem_of_getElem? (i := 28) rfl))) (by decide) (backOfS (W := 0) (rm4s l Z a0 hw [] b525 kV wO wS wO_label wO_label_value k_wO wS_label wS_label_value k_wS t531 kt531 wV pC T531.heap n0 Z533 O532 E_wV V_wV E_wO F_wO_label E_wO_label F_wO_label_coder F_wO_label_value V_wO E_wS F_wS_label E_wS_label F_wS_label_coder F_wS_label_value V_wS E531 Fv531 Fc531 V531 hpc S_wV S_pC) hZ (hw _ (List.mem_of_getElem? (i := 28) rfl)) (hw _ (List.mem_of_getElem? (i := 3) rfl)) (by decide) (by decide)) (g := (mkF m 127 #[.val (.int p1), .val (.int ((p1 &&& (2147483647 : Int32)) % (3 : Int32))), .val (.ref b492), .val (.ref wS), .val (.ref b525)] [(.ref b525)])) rfl (by rw [hml]; rfl) (argsL := [(.ref b525)]) (rest := []) (lenOf pd__Ljava_lang_String__Lcom_example_matchbook_matchbook_Pricing_ rfl) rfl (by show 2 * 0 + _ ≤ _; exact Nat.le_of_eq rfl) (hb hby at_127) (fun _ _ => ⟨rfl, rfl, (by decide : 3 + 3 ≤ _), (by decide : 12 + 106 ≤ _)⟩)
  dsimp only [Pt.U, Pt.locs, Pt.cells, Pt.slots] at X537 l537 y537 z537 st537 hQ537 sS537 gr537
  subst l537 y537 z537
  obtain ⟨rfl, N537q, K537⟩ := hQ537
  have N537 := Fr.app N531 N537q
  have O538 := O532.keep K537 all0
  have Z539 : n0 ≤ T537.heap.size := Nat.le_trans Z533 K537.1
  have K540 := Nat.le_trans K534 K537.1
  have hS537 := foldS (s := s) (vm0 := s.vm) hS0 K534 sS537 gr537
  have hZ537 : Z.Warmed39 (s.setVm T537.vm).vm := State.Warmed39.trans (t := s.setVm s.vm) hZ sS537.1
  have hown537 : (s.setVm T537.vm).vm.findClass "com/example/matchbook/matchbook/PricingParsePinLaw" = some m.cls := by rw [show (s.setVm T537.vm).vm = T537.vm from rfl, sS537.1.alike.findClass]; exact hown
  have X537 : Stand p l e room_1 (s.setVm T537.vm) m _ below meth c T537 _ _ _ := X537
  have pre541 : ∀ t, Steps p.tables e below (T537.setTop (mkF m 130 #[.val (.int p1), .val (.int ((p1 &&& (2147483647 : Int32)) % (3 : Int32))), .val (.ref b492), .val (.ref wS), .val (.ref b525)] [(.ref wS)])) t → Steps p.tables e below (s₁.setTop (entryFrame m #[(.int p1)] maxLocals)) t := by
    intro t k
    refine pre536 _ ?_
    show Steps p.tables e below (T531.setTop (mkF m 127 #[.val (.int p1), .val (.int ((p1 &&& (2147483647 : Int32)) % (3 : Int32))), .val (.ref b492), .val (.ref wS), .val (.ref b525)] [(.ref b525)])) _
    refine st537.trans ?_
    exact k
  have pre542 : ∀ t, Steps p.tables e below (T537.setTop (mkF m 131 #[.val (.int p1), .val (.int ((p1 &&& (2147483647 : Int32)) % (3 : Int32))), .val (.ref b492), .val (.ref wS), .val (.ref b525)] [(.ref wS), (.ref wS)])) t → Steps p.tables e below (s₁.setTop (entryFrame m #[(.int p1)] maxLocals)) t := by
    intro t k
    refine pre541 _ ?_
    show Steps p.tables e below (T537.setTop (mkF m 130 #[.val (.int p1), .val (.int ((p1 &&& (2147483647 : Int32)) % (3 : Int32))), .val (.ref b492), .val (.ref wS), .val (.ref b525)] [(.ref wS)])) _
    refine XS.aloadN X537.here hx rfl (hb hby at_130) rfl rfl ?_
    exact k
  have pre543 : ∀ t, Steps p.tables e below (T537.setTop (mkF m 134 #[.val (.int p1), .val (.int ((p1 &&& (2147483647 : Int32)) % (3 : Int32))), .val (.ref b492), .val (.ref wS), .val (.ref b525)] [])) t → Steps p.tables e below (s₁.setTop (entryFrame m #[(.int p1)] maxLocals)) t := by
    intro t k
    refine pre542 _ ?_
    show Steps p.tables e below (T537.setTop (mkF m 131 #[.val (.int p1), .val (.int ((p1 &&& (2147483647 : Int32)) % (3 : Int32))), .val (.ref b492), .val (.ref wS), .val (.ref b525)] [(.ref wS), (.ref wS)])) _
    refine Jvm.RoadKit.acmp (g := (mkF m 131 #[.val (.int p1), .val (.int ((p1 &&& (2147483647 : Int32)) % (3 : Int32))), .val (.ref b492), .val (.ref wS), .val (.ref b525)] [(.ref wS), (.ref wS)])) X537 hx rfl rfl rfl (pc0 := 131) (pc' := 134) (same := true) rfl (hb hby at_131) rfl (decide_eq_true rfl) (by decide) (by decide) ?_
    exact k
  have pre544 : ∀ t, Steps p.tables e below (T537.setTop (mkF m 139 #[.val (.int p1), .val (.int ((p1 &&& (2147483647 : Int32)) % (3 : Int32))), .val (.ref b492), .val (.ref wS), .val (.ref b525)] [(.int (1 : Int32))])) t → Steps p.tables e below (s₁.setTop (entryFrame m #[(.int p1)] maxLocals)) t := by
    intro t k
    refine pre543 _ ?_
    show Steps p.tables e below (T537.setTop (mkF m 134 #[.val (.int p1), .val (.int ((p1 &&& (2147483647 : Int32)) % (3 : Int32))), .val (.ref b492), .val (.ref wS), .val (.ref b525)] [])) _
    refine XS.iconst X537.here hx rfl (hb hby at_134) ?_
    show Steps p.tables e below (T537.setTop (mkF m 135 #[.val (.int p1), .val (.int ((p1 &&& (2147483647 : Int32)) % (3 : Int32))), .val (.ref b492), .val (.ref wS), .val (.ref b525)] [(.int (1 : Int32))])) _
    refine XS.goto X537.here hx rfl (pc0 := 135) (pc' := 139) rfl (hb hby at_135) (by decide) (by decide) ?_
    exact k
  obtain ⟨fs, hr, hrun, hended, hsame⟩ := Stand.leaveW (s := s) (vm₁ := T537.vm) X537 hS537 (Nat.le_refl _) (v := some (.int (1 : Int32))) (fun h => by rw [hret] at h; cases h) (hlocks := hlocks)
  refine ⟨_, _, pre544 _ ?_, hrun, hended, _, _, rfl, ?_, ⟨hsame.1, hsame.2.1, hsame.2.2.1, hsame.2.2.2.mono (by decide) (by decide)⟩⟩
  · show Steps p.tables e below (T537.setTop (mkF m 139 #[.val (.int p1), .val (.int ((p1 &&& (2147483647 : Int32)) % (3 : Int32))), .val (.ref b492), .val (.ref wS), .val (.ref b525)] [(.int (1 : Int32))])) _
    exact retN X537 hx (t := .boolean) hret (by simp) (hb hby at_139) hr
  · show Q0s Z p1 kV wO_label wO_label_value k_wO wS_label wS_label_value k_wS wO wS wV pC h0 n0 _ T537.heap _
    exact ⟨(by rw [F0s]), N537⟩
theorem own_rm0 (l : Launch) (Z : State) (a0 : Array Value) (hw : ∀ d ∈ tables_1, d.before a0 Z = true) (ws : List Jvm.Cond) (p1 : Int32) (kV : ClassId) (wO_label : Addr) (wO_label_value : Addr) (k_wO : ClassId) (wS_label : Addr) (wS_label_value : Addr) (k_wS : ClassId) (wO : Addr) (wS : Addr) (wV : Addr) (pC : Int32) (h0 : Heap) (n0 : Nat) (Z0 : n0 ≤ h0.size) (O0 : Old Z n0 h0) (E_wV : Exa Z Z.heap wV "[Lcom/example/matchbook/matchbook/Pricing;") (V_wV : Arv Z Z.heap wV kV (.object "com/example/matchbook/matchbook/Pricing") (2 : Int32) [.ref wO, .ref wS] .null) (E_wO : Exa Z Z.heap wO "com/example/matchbook/matchbook/Pricing") (F_wO_label : Fld Z Z.heap wO "com/example/matchbook/matchbook/Pricing" "label" "Ljava/lang/String;" (.ref wO_label)) (E_wO_label : Exa Z Z.heap wO_label "java/lang/String") (F_wO_label_coder : Fld Z Z.heap wO_label "java/lang/String" "coder" "B" (.int (0 : Int32))) (F_wO_label_value : Fld Z Z.heap wO_label "java/lang/String" "value" "[B" (.ref wO_label_value)) (V_wO : Arv Z Z.heap wO_label_value k_wO .byte (9 : Int32) [.int (111 : Int32), .int (110 : Int32), .int (45 : Int32), .int (100 : Int32), .int (101 : Int32), .int (109 : Int32), .int (97 : Int32), .int (110 : Int32), .int (100 : Int32)] (.int (0 : Int32))) (E_wS : Exa Z Z.heap wS "com/example/matchbook/matchbook/Pricing") (F_wS_label : Fld Z Z.heap wS "com/example/matchbook/matchbook/Pricing" "label" "Ljava/lang/String;" (.ref wS_label)) (E_wS_label : Exa Z Z.heap wS_label "java/lang/String") (F_wS_label_coder : Fld Z Z.heap wS_label "java/lang/String" "coder" "B" (.int (0 : Int32))) (F_wS_label_value : Fld Z Z.heap wS_label "java/lang/String" "value" "[B" (.ref wS_label_value)) (V_wS : Arv Z Z.heap wS_label_value k_wS .byte (4 : Int32) [.int (115 : Int32), .int (112 : Int32), .int (111 : Int32), .int (116 : Int32)] (.int (0 : Int32))) (hpc : ¬ (pC = (0 : Int32))) (S_wO : Sta Z Z.heap "com/example/matchbook/matchbook/Pricing" "ON_DEMAND" "Lcom/example/matchbook/matchbook/Pricing;" (.ref wO)) (S_wS : Sta Z Z.heap "com/example/matchbook/matchbook/Pricing" "SPOT" "Lcom/example/matchbook/matchbook/Pricing;" (.ref wS)) (S_wV : Sta Z Z.heap "com/example/matchbook/matchbook/Pricing" "$VALUES" "[Lcom/example/matchbook/matchbook/Pricing;" (.ref wV)) (S_pC : Sta Z Z.heap "java/lang/String" "COMPACT_STRINGS" "Z" (.int pC)) :
    MetFree l x (head1 (Jvm.Cond.code x code maxLocals ret :: ws) room_1) (fun a U => a = #[(.int p1)] ∧ Z.Warmed39 U.vm ∧ U.heap = h0 ∧ CHv Z own_EL U.vm h0) (fun _ _ _ _ _ => True) (fun _ U o U' => ∃ v L, o = .returned v ∧ (v = some (.int (1 : Int32)) ∧ Fr n0 L) ∧ ReturnedEndW U o U' L room_1.cells room_1.slots) := by
  by_cases hk0 : ((p1 &&& (2147483647 : Int32)) % (3 : Int32)) = (0 : Int32)
  · refine MetFree.mono (rm0e l Z a0 hw ws p1 kV wO_label wO_label_value k_wO wS_label wS_label_value k_wS wO wS wV pC h0 n0 Z0 O0 E_wV V_wV E_wO F_wO_label E_wO_label F_wO_label_coder F_wO_label_value V_wO E_wS F_wS_label E_wS_label F_wS_label_coder F_wS_label_value V_wS hpc hk0 S_wO S_wS S_wV S_pC) (fun _ _ q => q) (fun _ _ _ _ _ q => q) (fun a s o s' _ q => ?_)
    obtain ⟨v, L, ho, ⟨hv, hN⟩, he⟩ := q
    exact ⟨v, L, ho, ⟨hv, hN⟩, he⟩
  · by_cases hk1 : ((p1 &&& (2147483647 : Int32)) % (3 : Int32)) = (1 : Int32)
    · refine MetFree.mono (rm0o l Z a0 hw ws p1 kV wO_label wO_label_value k_wO wS_label wS_label_value k_wS wO wS wV pC h0 n0 Z0 O0 E_wV V_wV E_wO F_wO_label E_wO_label F_wO_label_coder F_wO_label_value V_wO E_wS F_wS_label E_wS_label F_wS_label_coder F_wS_label_value V_wS hpc hk0 hk1 S_wO S_wS S_wV S_pC) (fun _ _ q => ⟨q.1, q.2.1, q.2.2.1⟩) (fun _ _ _ _ _ q => q) (fun a s o s' _ q => ?_)
      obtain ⟨v, L, ho, ⟨hv, hN⟩, he⟩ := q
      exact ⟨v, L, ho, ⟨hv, hN⟩, he⟩
    · refine MetFree.mono (rm0s l Z a0 hw ws p1 kV wO_label wO_label_value k_wO wS_label wS_label_value k_wS wO wS wV pC h0 n0 Z0 O0 E_wV V_wV E_wO F_wO_label E_wO_label F_wO_label_coder F_wO_label_value V_wO E_wS F_wS_label E_wS_label F_wS_label_coder F_wS_label_value V_wS hpc hk0 hk1 S_wO S_wS S_wV S_pC) (fun _ _ q => ⟨q.1, q.2.1, q.2.2.1⟩) (fun _ _ _ _ _ q => q) (fun a s o s' _ q => ?_)
      obtain ⟨v, L, ho, ⟨hv, hN⟩, he⟩ := q
      exact ⟨v, L, ho, ⟨hv, hN⟩, he⟩
set_option maxRecDepth 65536 in
set_option maxHeartbeats 40000000 in
theorem comes_1 {Post : Tables → Env → Array Value → State → Outcome → State → Prop} (hpost : ∀ tb e args s v u, (limb_1_1.after args s (.returned v) u = true ∧ limb_1_2.after args s (.returned v) u = true ∧ True) → ReturnedEndW s (.returned v) u (Jvm.fieldLocs frame_1_writes args s ++ Jvm.arrayLocs frame_1_arrays args s ++ Jvm.staticLocs frame_1_statics s) 24 2176 → Post tb e args s (.returned v) u) :
    ArmFor flags0 classFile x code maxLocals ret World_1 tables_1 room_1 Calls_1 rest_1 Pre_1 Post := by
  intro l hfl _ _ p e ha hc hk s m args below hf hA hF happ hP
  obtain ⟨hcalls, hrest, hpre⟩ := hP
  obtain ⟨-, -, -, hnamed, -, -, -, hat⟩ := (Spec.applies_iff hf).mp happ
  obtain ⟨hg, hn⟩ := and_e (Cond.before_iff.mp (show (Jvm.Cond.and given_1 narrow_1).before args s = true from hpre))
  obtain ⟨g545, g546⟩ := and_e hg
  obtain ⟨w0, rfl⟩ : ∃ w0 : Value, args = #[w0] := by
    have hs : args.size = 1 := by simpa [Cond.value, given_1] using g545
    obtain ⟨L⟩ := args
    match L, hs with
    | [w0], _ => exact ⟨w0, rfl⟩
  have hw := fun d (hd : d ∈ tables_1) => atoms_spec (ws := Jvm.Cond.code x code maxLocals ret :: tables_1) hat d (List.mem_cons_of_mem _ hd)
  have hfit : Fit s := fun {y c} hc i hi => by
    obtain ⟨ha, rfl⟩ := Array.getElem?_eq_some_iff.mp hc
    have q := List.all_eq_true.mp ((Array.all_eq_true_iff_forall_mem.mp hF) _ (Array.getElem_mem ha)) i (List.mem_range.mpr hi)
    simpa [Array.getElem?_eq_getElem hi] using q
  obtain ⟨hsets, hown0⟩ := atoms_of _ (rest_1_c_eq ▸ (show rest_1_c.before _ s = true from hrest))
  obtain ⟨i0, ei0⟩ := is_v g546
  obtain rfl : w0 = (.int i0) := Option.some.inj ei0
  obtain ⟨n1, n2⟩ := and_e hn
  obtain ⟨wO, ev_wO⟩ := exa_v n1
  have S_wO := Sta.start ev_wO (Or.inr ⟨(hw _ (List.mem_of_getElem? (i := 3) rfl)), (hw _ (List.mem_of_getElem? (i := 4) rfl))⟩)
  have E_wO := Exa.start ev_wO n1
  obtain ⟨n3, n4⟩ := and_e n2
  obtain ⟨wS, ev_wS⟩ := exa_v n3
  have S_wS := Sta.start ev_wS (Or.inr ⟨(hw _ (List.mem_of_getElem? (i := 3) rfl)), (hw _ (List.mem_of_getElem? (i := 36) rfl))⟩)
  have E_wS := Exa.start ev_wS n3
  obtain ⟨n5, n6⟩ := and_e n4
  obtain ⟨wV, ev_wV⟩ := arr_v n5
  have S_wV := Sta.start ev_wV (Or.inr ⟨(hw _ (List.mem_of_getElem? (i := 3) rfl)), (hw _ (List.mem_of_getElem? (i := 52) rfl))⟩)
  obtain ⟨cl_wV, Ar_wV⟩ := Arr.start ev_wV n5
  obtain ⟨n7, n8⟩ := and_e n6
  have E_wV := Exa.start ev_wV n7
  obtain ⟨n9, n10⟩ := and_e n8
  have ln_wV := own_eqI n9
  obtain ⟨n11, n12⟩ := and_e n10
  have el_wV_0 := elem_in (own_eqR n11 ev_wO) ev_wV rfl Ar_wV.1
  obtain ⟨n13, n14⟩ := and_e n12
  have el_wV_1 := elem_in (own_eqR n13 ev_wS) ev_wV rfl Ar_wV.1
  obtain ⟨n15, n16⟩ := and_e n14
  obtain ⟨wO_label, ev_wO_label⟩ := exa_v n15
  have F_wO_label := Fld.start ((fld_at ev_wO).symm.trans ev_wO_label)
  have E_wO_label := Exa.start ev_wO_label n15
  obtain ⟨n17, n18⟩ := and_e n16
  have F_wO_label_coder := Fld.start ((fld_at ev_wO_label).symm.trans (own_eqI n17))
  obtain ⟨n19, n20⟩ := and_e n18
  obtain ⟨wO_label_value, ev_wO_label_value⟩ := arr_v n19
  have F_wO_label_value := Fld.start ((fld_at ev_wO_label).symm.trans ev_wO_label_value)
  obtain ⟨cl_wO_label_value, Ar_wO_label_value⟩ := Arr.start ev_wO_label_value n19
  obtain ⟨n21, n22⟩ := and_e n20
  have ln_wO_label_value := own_eqI n21
  obtain ⟨n23, n24⟩ := and_e n22
  obtain ⟨wS_label, ev_wS_label⟩ := exa_v n23
  have F_wS_label := Fld.start ((fld_at ev_wS).symm.trans ev_wS_label)
  have E_wS_label := Exa.start ev_wS_label n23
  obtain ⟨n25, n26⟩ := and_e n24
  have F_wS_label_coder := Fld.start ((fld_at ev_wS_label).symm.trans (own_eqI n25))
  obtain ⟨n27, n28⟩ := and_e n26
  obtain ⟨wS_label_value, ev_wS_label_value⟩ := arr_v n27
  have F_wS_label_value := Fld.start ((fld_at ev_wS_label).symm.trans ev_wS_label_value)
  obtain ⟨cl_wS_label_value, Ar_wS_label_value⟩ := Arr.start ev_wS_label_value n27
  obtain ⟨n29, n30⟩ := and_e n28
  have ln_wS_label_value := own_eqI n29
  obtain ⟨n31, n32⟩ := and_e n30
  have el_wS_label_value_0 := elem_in (own_eqI n31) ev_wS_label_value rfl Ar_wS_label_value.1
  obtain ⟨n33, n34⟩ := and_e n32
  have el_wS_label_value_1 := elem_in (own_eqI n33) ev_wS_label_value rfl Ar_wS_label_value.1
  obtain ⟨n35, n36⟩ := and_e n34
  have el_wS_label_value_2 := elem_in (own_eqI n35) ev_wS_label_value rfl Ar_wS_label_value.1
  obtain ⟨n37, n38⟩ := and_e n36
  have el_wS_label_value_3 := elem_in (own_eqI n37) ev_wS_label_value rfl Ar_wS_label_value.1
  obtain ⟨n39, n40⟩ := and_e n38
  have el_wO_label_value_0 := elem_in (own_eqI n39) ev_wO_label_value rfl Ar_wO_label_value.1
  obtain ⟨n41, n42⟩ := and_e n40
  have el_wO_label_value_1 := elem_in (own_eqI n41) ev_wO_label_value rfl Ar_wO_label_value.1
  obtain ⟨n43, n44⟩ := and_e n42
  have el_wO_label_value_2 := elem_in (own_eqI n43) ev_wO_label_value rfl Ar_wO_label_value.1
  obtain ⟨n45, n46⟩ := and_e n44
  have el_wO_label_value_3 := elem_in (own_eqI n45) ev_wO_label_value rfl Ar_wO_label_value.1
  obtain ⟨n47, n48⟩ := and_e n46
  have el_wO_label_value_4 := elem_in (own_eqI n47) ev_wO_label_value rfl Ar_wO_label_value.1
  obtain ⟨n49, n50⟩ := and_e n48
  have el_wO_label_value_5 := elem_in (own_eqI n49) ev_wO_label_value rfl Ar_wO_label_value.1
  obtain ⟨n51, n52⟩ := and_e n50
  have el_wO_label_value_6 := elem_in (own_eqI n51) ev_wO_label_value rfl Ar_wO_label_value.1
  obtain ⟨n53, n54⟩ := and_e n52
  have el_wO_label_value_7 := elem_in (own_eqI n53) ev_wO_label_value rfl Ar_wO_label_value.1
  have el_wO_label_value_8 := elem_in (own_eqI n54) ev_wO_label_value rfl Ar_wO_label_value.1
  have lz_wV := own_lenI ev_wV Ar_wV ln_wV
  have V_wV : Arv s s.heap wV cl_wV.cls (.object "com/example/matchbook/matchbook/Pricing") (2 : Int32) [.ref wO, .ref wS] .null := Arv.start hfit Ar_wV lz_wV.1 lz_wV.2 (by decide) rfl ⟨el_wV_0.2, el_wV_1.2, trivial⟩
  have lz_wO := own_lenI ev_wO_label_value Ar_wO_label_value ln_wO_label_value
  have V_wO : Arv s s.heap wO_label_value cl_wO_label_value.cls .byte (9 : Int32) [.int (111 : Int32), .int (110 : Int32), .int (45 : Int32), .int (100 : Int32), .int (101 : Int32), .int (109 : Int32), .int (97 : Int32), .int (110 : Int32), .int (100 : Int32)] (.int (0 : Int32)) := Arv.start hfit Ar_wO_label_value lz_wO.1 lz_wO.2 (by decide) (by decide) ⟨el_wO_label_value_0.2, el_wO_label_value_1.2, el_wO_label_value_2.2, el_wO_label_value_3.2, el_wO_label_value_4.2, el_wO_label_value_5.2, el_wO_label_value_6.2, el_wO_label_value_7.2, el_wO_label_value_8.2, trivial⟩
  have lz_wS := own_lenI ev_wS_label_value Ar_wS_label_value ln_wS_label_value
  have V_wS : Arv s s.heap wS_label_value cl_wS_label_value.cls .byte (4 : Int32) [.int (115 : Int32), .int (112 : Int32), .int (111 : Int32), .int (116 : Int32)] (.int (0 : Int32)) := Arv.start hfit Ar_wS_label_value lz_wS.1 lz_wS.2 (by decide) (by decide) ⟨el_wS_label_value_0.2, el_wS_label_value_1.2, el_wS_label_value_2.2, el_wS_label_value_3.2, trivial⟩
  obtain ⟨pC, ev_pC⟩ := is_v (Cond.before_iff.mp (hsets _ (List.mem_of_getElem? (i := 1) rfl)))
  have S_pC := Sta.start ev_pC (Or.inl (hsets _ (List.mem_of_getElem? (i := 0) rfl)))
  have hpc := own_neI (Cond.before_iff.mp (hsets _ (List.mem_of_getElem? (i := 2) rfl))) ev_pC
  have hCH : CHv s own_EL s.vm s.heap := CHv.start (own_EW hw) (fun p hp => by cases List.mem_singleton.mp (show p ∈ [("java/lang/String", 7)] from hp); exact hcalls.1 _ (List.mem_of_getElem? (i := 1) rfl)) (hsets _ (List.mem_of_getElem? (i := 2) rfl)) (hw _ (List.mem_of_getElem? (i := 19) rfl)) (hw _ (List.mem_of_getElem? (i := 6) rfl))
  obtain ⟨n, o, h1, h2, h3, v, L, rfl, ⟨hv, N⟩, hq⟩ := own_rm0 l s _ hw tables_1 i0 cl_wV.cls wO_label wO_label_value cl_wO_label_value.cls wS_label wS_label_value cl_wS_label_value.cls wO wS wV pC s.heap s.heap.size (Nat.le_refl _) (Old.start s) E_wV V_wV E_wO F_wO_label E_wO_label F_wO_label_coder F_wO_label_value V_wO E_wS F_wS_label E_wS_label F_wS_label_coder F_wS_label_value V_wS hpc S_wO S_wS S_wV S_pC p e ha hc hk s m _ below hf ((Spec.applies_iff_loose hf).mp happ).1 ⟨rfl, State.Warmed39.refl s, rfl, hCH⟩ trivial
  subst hv
  refine ⟨n, _, h1, h2, h3, hpost _ _ _ _ _ _ ⟨Cond.after_iff.mpr rfl, Cond.after_iff.mpr (eq_i res_at (Term.int_eval (1)) rfl), trivial⟩ ⟨hq.1, hq.2.1, hq.2.2.1, (hq.2.2.2.sift fun y hy => Or.inr (N y hy)).mono (by decide) (by decide)⟩⟩
theorem main_1_1 : Claimed_1_1 := comes_1 fun _ _ _ _ _ _ h hF => ⟨h.1, hF⟩
theorem main_1_2 : Claimed_1_2 := comes_1 fun _ _ _ _ _ _ h hF => ⟨h.2.1, hF⟩
end Jvm.Pilot.@@N@@
namespace Jvm.Pilot.@@N@@
open Jvm Jvm.ClassFile Sem Op Lib Jvm.Free Jvm.Stand Jvm.Pilot.@@N@@.Jvm.D
/-! MADE BY PROGRAM (witnessworld.py) out of the Statement's table words and the real class files: 25 classes; the members and pool entries that the words name. The judged class is class 1, her method 1. -/
namespace start1
open Jvm.ClassFile
def u (s : String) : CpInfo := .utf8 (stringToUtf16 s)
/-- a pool by its gaps: so many unusable entries, then the entry; so many at the end -/
def gap : Nat → List CpInfo → List CpInfo
  | 0, r => r
  | n + 1, r => .unusable :: gap n r
def poolList (es : List (Nat × CpInfo)) (last : Nat) : List CpInfo := es.foldr (fun e r => gap e.1 (e.2 :: r)) (gap last [])
def pool (es : List (Nat × CpInfo)) (last : Nat) : Array CpInfo := ⟨poolList es last⟩
def fileOf (pool : Array CpInfo) (this : Nat) (attrs : Array Attribute := #[]) (ms : Array MethodInfo := #[]) (fl : Nat := 33) (sup : Nat := 0) (ifs : Array Nat := #[]) (fds : Array FieldInfo := #[]) : ClassFile where
  minorVersion := 0
  majorVersion := 65
  constantPool := pool
  accessFlags := fl
  thisClass := this
  superClass := sup
  interfaces := ifs
  fields := fds
  methods := ms
  attributes := attrs
def plain (name : String) (sup : Option ClassId) : Class where
  name := name
  kind := .ordinary
  loader := none
  accessFlags := 33
  super := sup
  interfaces := #[]
  cf := none
  fields := #[]
  methods := #[]
  instanceTypes := #[]
  staticTypes := #[]
  resolved := #[]
  callSites := []
  init := .initialized
  statics := none
  mirror := none

def pool0 : Array CpInfo := pool [(5, u "<init>"), (0, u "()V"), (1, .class_ 10), (1, u "java/lang/Object"), (85, u "clone"), (0, u "()Ljava/lang/Object;")] 26

def k0c0 : Code := { maxStack := 0, maxLocals := 1, code := object_method_1_code, exceptionTable := #[], attributes := #[] }
def k0m0 : Method := { name := "<init>", desc := "()V", sig := { parameters := [], returnType := none }, accessFlags := 1, code := some k0c0 }
def k0m1 : Method := { name := "clone", desc := "()Ljava/lang/Object;", sig := { parameters := [], returnType := some (.object "java/lang/Object") }, accessFlags := 260, code := none }
/-- java/lang/Object -/
def k0 : Class := { plain "java/lang/Object" none with
  accessFlags := 33
  interfaces := #[]
  cf := some (fileOf pool0 8 #[] #[{ accessFlags := 1, nameIndex := 5, descriptorIndex := 6, attributes := #[] }, { accessFlags := 260, nameIndex := 96, descriptorIndex := 97, attributes := #[] }] 33 0 #[] #[])
  fields := #[]
  methods := #[k0m0, k0m1]
  instanceTypes := #[]
  staticTypes := #[]
  resolved := Array.replicate 124 none
  statics := none }

def pool1 : Array CpInfo := pool [(2, .class_ 4), (1, u "java/lang/Object"), (0, u "<init>"), (0, u "()V"), (0, .integer 2147483647), (0, .fieldref 9 10), (0, .class_ 11), (0, .nameAndType 12 13), (0, u "com/example/matchbook/matchbook/Pricing"), (0, u "ON_DEMAND"), (0, u "Lcom/example/matchbook/matchbook/Pricing;"), (0, .fieldref 9 15), (0, .nameAndType 16 13), (0, u "SPOT"), (0, .class_ 18), (0, u "java/lang/String"), (0, .methodref 17 20), (0, .nameAndType 5 21), (0, u "([C)V"), (0, .methodref 9 23), (0, .nameAndType 24 25), (0, u "parse"), (0, u "(Ljava/lang/String;)Lcom/example/matchbook/matchbook/Pricing;"), (0, .class_ 27), (0, u "com/example/matchbook/matchbook/PricingParsePinLaw"), (2, u "law"), (0, u "(I)Z")] 5

def k1m0 : Method := { name := "<init>", desc := "()V", sig := { parameters := [], returnType := none }, accessFlags := 1, code := none }
def k1c1 : Code := { maxStack := 4, maxLocals := 5, code := code, exceptionTable := #[], attributes := #[] }
def k1m1 : Method := { name := "law", desc := "(I)Z", sig := { parameters := [.int], returnType := some .boolean }, accessFlags := 9, code := some k1c1 }
/-- com/example/matchbook/matchbook/PricingParsePinLaw -/
def k1 : Class := { plain "com/example/matchbook/matchbook/PricingParsePinLaw" (some 0) with
  accessFlags := 49
  interfaces := #[]
  cf := some (fileOf pool1 26 #[] #[{ accessFlags := 1, nameIndex := 5, descriptorIndex := 6, attributes := #[] }, { accessFlags := 9, nameIndex := 30, descriptorIndex := 31, attributes := #[] }] 49 2 #[] #[])
  fields := #[]
  methods := #[k1m0, k1m1]
  instanceTypes := #[]
  staticTypes := #[]
  resolved := Array.replicate 37 none
  statics := none }

def pool2 : Array CpInfo := pool [(1, .class_ 2), (0, u "java/lang/constant/Constable"), (0, .class_ 4), (0, u "java/lang/Object")] 6

/-- java/lang/constant/Constable -/
def k2 : Class := { plain "java/lang/constant/Constable" (some 0) with
  accessFlags := 1537
  interfaces := #[]
  cf := some (fileOf pool2 1 #[] #[] 1537 3 #[] #[])
  fields := #[]
  methods := #[]
  instanceTypes := #[]
  staticTypes := #[]
  resolved := Array.replicate 11 none
  statics := none }

def pool3 : Array CpInfo := pool [(1, .class_ 2), (0, u "java/lang/Comparable"), (0, .class_ 4), (0, u "java/lang/Object")] 7

/-- java/lang/Comparable -/
def k3 : Class := { plain "java/lang/Comparable" (some 0) with
  accessFlags := 1537
  interfaces := #[]
  cf := some (fileOf pool3 1 #[] #[] 1537 3 #[] #[])
  fields := #[]
  methods := #[]
  instanceTypes := #[]
  staticTypes := #[]
  resolved := Array.replicate 12 none
  statics := none }

def pool4 : Array CpInfo := pool [(1, .class_ 2), (0, u "java/io/Serializable"), (0, .class_ 4), (0, u "java/lang/Object")] 2

/-- java/io/Serializable -/
def k4 : Class := { plain "java/io/Serializable" (some 0) with
  accessFlags := 1537
  interfaces := #[]
  cf := some (fileOf pool4 1 #[] #[] 1537 3 #[] #[])
  fields := #[]
  methods := #[]
  instanceTypes := #[]
  staticTypes := #[]
  resolved := Array.replicate 7 none
  statics := none }

def pool5 : Array CpInfo := pool [(2, .class_ 4), (1, u "java/lang/Enum"), (0, u "name"), (0, u "Ljava/lang/String;"), (2, u "ordinal"), (0, u "I"), (1, .class_ 14), (1, u "java/lang/Object"), (4, u "hash"), (86, .class_ 108), (1, u "java/lang/Enum$EnumDesc"), (2, .class_ 112), (0, u "java/lang/constant/Constable"), (0, .class_ 114), (0, u "java/lang/Comparable"), (0, .class_ 116), (0, u "java/io/Serializable")] 87

/-- java/lang/Enum -/
def k5 : Class := { plain "java/lang/Enum" (some 0) with
  accessFlags := 1057
  interfaces := #[2, 3, 4]
  cf := some (fileOf pool5 2 #[.nestMembers #[106]] #[] 1057 12 #[111, 113, 115] #[{ accessFlags := 18, nameIndex := 5, descriptorIndex := 6, attributes := #[] }, { accessFlags := 18, nameIndex := 9, descriptorIndex := 10, attributes := #[] }, { accessFlags := 2, nameIndex := 19, descriptorIndex := 10, attributes := #[] }])
  fields := #[{ name := "name", type := (.object "java/lang/String"), accessFlags := 18, slot := 0, constantValue := 0 }, { name := "ordinal", type := .int, accessFlags := 18, slot := 1, constantValue := 0 }, { name := "hash", type := .int, accessFlags := 2, slot := 2, constantValue := 0 }]
  methods := #[]
  instanceTypes := #[(.object "java/lang/String"), .int, .int]
  staticTypes := #[]
  resolved := Array.replicate 204 none
  statics := none }

def pool6 : Array CpInfo := pool [(1, .class_ 2), (0, u "com/example/matchbook/matchbook/Pricing"), (0, .fieldref 1 4), (0, .nameAndType 5 6), (0, u "ON_DEMAND"), (0, u "Lcom/example/matchbook/matchbook/Pricing;"), (2, u "SPOT"), (0, .fieldref 1 11), (0, .nameAndType 12 13), (0, u "$VALUES"), (0, u "[Lcom/example/matchbook/matchbook/Pricing;"), (0, .methodref 15 16), (0, .class_ 13), (0, .nameAndType 17 18), (0, u "clone"), (0, u "()Ljava/lang/Object;"), (1, .class_ 22), (1, u "java/lang/Enum"), (6, .fieldref 1 30), (0, .nameAndType 31 32), (0, u "label"), (0, u "Ljava/lang/String;"), (2, u "reservable"), (0, u "Z"), (2, u "pricingCategory"), (0, .methodref 41 42), (0, .class_ 43), (0, .nameAndType 44 45), (0, u "java/lang/String"), (0, u "isEmpty"), (0, u "()Z"), (0, .methodref 1 47), (0, .nameAndType 48 49), (0, u "values"), (0, u "()[Lcom/example/matchbook/matchbook/Pricing;"), (0, .invokeDynamic 0 51), (0, .nameAndType 52 53), (0, u "apply"), (0, u "()Ljava/util/function/Function;"), (0, .string 55), (0, u "a pricing matchbook knows"), (0, .methodref 57 58), (0, .class_ 59), (0, .nameAndType 60 61), (0, u "com/example/matchbook/matchbook/Labels"), (0, u "parse"), (0, u "([Ljava/lang/Object;Ljava/util/function/Function;Ljava/lang/String;Ljava/lang/String;)Ljava/lang/Object;"), (18, u "(Ljava/lang/String;)Lcom/example/matchbook/matchbook/Pricing;"), (3, u "()Ljava/lang/String;"), (7, .methodType 93), (0, u "(Ljava/lang/Object;)Ljava/lang/Object;"), (0, .methodHandle 5 95), (0, .methodref 1 96), (0, .nameAndType 31 84), (0, .methodType 98), (0, u "(Lcom/example/matchbook/matchbook/Pricing;)Ljava/lang/String;"), (0, .methodHandle 6 100), (0, .methodref 101 102), (0, .class_ 103), (0, .nameAndType 104 105), (0, u "java/lang/invoke/LambdaMetafactory"), (0, u "metafactory"), (0, u "(Ljava/lang/invoke/MethodHandles$Lookup;Ljava/lang/String;Ljava/lang/invoke/MethodType;Ljava/lang/invoke/MethodType;Ljava/lang/invoke/MethodHandle;Ljava/lang/invoke/MethodType;)Ljava/lang/invoke/CallSite;")] 6

def k6c0 : Code := { maxStack := 1, maxLocals := 0, code := prog_7_method_1_code, exceptionTable := #[], attributes := #[] }
def k6m0 : Method := { name := "values", desc := "()[Lcom/example/matchbook/matchbook/Pricing;", sig := { parameters := [], returnType := some (.array (.object "com/example/matchbook/matchbook/Pricing")) }, accessFlags := 9, code := some k6c0 }
def k6c1 : Code := { maxStack := 1, maxLocals := 1, code := prog_7_method_4_code, exceptionTable := #[], attributes := #[] }
def k6m1 : Method := { name := "label", desc := "()Ljava/lang/String;", sig := { parameters := [], returnType := some (.object "java/lang/String") }, accessFlags := 0, code := some k6c1 }
def k6c2 : Code := { maxStack := 4, maxLocals := 1, code := prog_7_method_7_code, exceptionTable := #[], attributes := #[] }
def k6m2 : Method := { name := "parse", desc := "(Ljava/lang/String;)Lcom/example/matchbook/matchbook/Pricing;", sig := { parameters := [(.object "java/lang/String")], returnType := some (.object "com/example/matchbook/matchbook/Pricing") }, accessFlags := 8, code := some k6c2 }
/-- com/example/matchbook/matchbook/Pricing -/
def k6 : Class := { plain "com/example/matchbook/matchbook/Pricing" (some 5) with
  accessFlags := 16432
  interfaces := #[]
  cf := some (fileOf pool6 1 #[.bootstrapMethods #[⟨99, #[92, 94, 97]⟩]] #[{ accessFlags := 9, nameIndex := 48, descriptorIndex := 49, attributes := #[] }, { accessFlags := 0, nameIndex := 31, descriptorIndex := 84, attributes := #[] }, { accessFlags := 8, nameIndex := 60, descriptorIndex := 80, attributes := #[] }] 16432 20 #[] #[{ accessFlags := 16409, nameIndex := 5, descriptorIndex := 6, attributes := #[] }, { accessFlags := 16409, nameIndex := 9, descriptorIndex := 6, attributes := #[] }, { accessFlags := 18, nameIndex := 31, descriptorIndex := 32, attributes := #[] }, { accessFlags := 18, nameIndex := 35, descriptorIndex := 36, attributes := #[] }, { accessFlags := 18, nameIndex := 39, descriptorIndex := 32, attributes := #[] }, { accessFlags := 4122, nameIndex := 12, descriptorIndex := 13, attributes := #[] }])
  fields := #[{ name := "ON_DEMAND", type := (.object "com/example/matchbook/matchbook/Pricing"), accessFlags := 16409, slot := 0, constantValue := 0 }, { name := "SPOT", type := (.object "com/example/matchbook/matchbook/Pricing"), accessFlags := 16409, slot := 1, constantValue := 0 }, { name := "label", type := (.object "java/lang/String"), accessFlags := 18, slot := 3, constantValue := 0 }, { name := "reservable", type := .boolean, accessFlags := 18, slot := 4, constantValue := 0 }, { name := "pricingCategory", type := (.object "java/lang/String"), accessFlags := 18, slot := 5, constantValue := 0 }, { name := "$VALUES", type := (.array (.object "com/example/matchbook/matchbook/Pricing")), accessFlags := 4122, slot := 2, constantValue := 0 }]
  methods := #[k6m0, k6m1, k6m2]
  instanceTypes := #[(.object "java/lang/String"), .int, .int, (.object "java/lang/String"), .boolean, (.object "java/lang/String")]
  staticTypes := #[(.object "com/example/matchbook/matchbook/Pricing"), (.object "com/example/matchbook/matchbook/Pricing"), (.array (.object "com/example/matchbook/matchbook/Pricing"))]
  resolved := Array.replicate 112 none
  callSites := [(2, 16, .constant 3)]
  statics := some 0 }

def pool7 : Array CpInfo := pool [(2, .class_ 4), (1, u "java/lang/CharSequence"), (42, .class_ 48), (0, u "java/lang/CharSequence$1CodePointIterator"), (10, .class_ 60), (0, u "java/lang/CharSequence$1CharIterator"), (5, .class_ 67), (0, u "java/lang/Object")] 63

/-- java/lang/CharSequence -/
def k7 : Class := { plain "java/lang/CharSequence" (some 0) with
  accessFlags := 1537
  interfaces := #[]
  cf := some (fileOf pool7 2 #[.nestMembers #[47, 59]] #[] 1537 66 #[] #[])
  fields := #[]
  methods := #[]
  instanceTypes := #[]
  staticTypes := #[]
  resolved := Array.replicate 131 none
  statics := none }

def pool8 : Array CpInfo := pool [(1, .class_ 2), (0, u "java/lang/constant/ConstantDesc"), (0, .class_ 4), (0, u "java/lang/Object")] 32

/-- java/lang/constant/ConstantDesc -/
def k8 : Class := { plain "java/lang/constant/ConstantDesc" (some 0) with
  accessFlags := 1537
  interfaces := #[]
  cf := some (fileOf pool8 1 #[] #[] 1537 3 #[] #[])
  fields := #[]
  methods := #[]
  instanceTypes := #[]
  staticTypes := #[]
  resolved := Array.replicate 37 none
  statics := none }

def pool9 : Array CpInfo := pool [(1, .methodref 2 3), (0, .class_ 4), (0, .nameAndType 5 6), (0, u "java/lang/Object"), (0, u "<init>"), (0, u "()V"), (0, .string 8), (0, u ""), (0, .fieldref 10 11), (0, .class_ 12), (0, .nameAndType 13 14), (0, u "java/lang/String"), (0, u "value"), (0, u "[B"), (0, .fieldref 10 16), (0, .nameAndType 17 18), (0, u "coder"), (0, u "B"), (2, u "hash"), (0, u "I"), (2, u "hashIsZero"), (0, u "Z"), (0, .methodref 10 28), (0, .nameAndType 5 29), (0, u "([CIILjava/lang/Void;)V"), (8, .fieldref 10 39), (0, .nameAndType 40 26), (0, u "COMPACT_STRINGS"), (1, .class_ 44), (1, u "java/lang/StringUTF16"), (0, u "compress"), (1, .methodref 42 48), (0, .nameAndType 49 50), (0, u "coderFromArrayLen"), (0, u "([BI)B"), (56, .class_ 109), (1, u "java/lang/StringLatin1"), (32, u "()Z"), (34, .methodref 42 178), (0, .nameAndType 45 179), (0, u "([CII)[B"), (361, .methodref 107 542), (0, .nameAndType 543 544), (0, u "equals"), (0, u "([B[B)Z"), (28, u "(Ljava/lang/Object;)Z"), (1, .class_ 576), (0, u "java/lang/CharSequence"), (22, u "CASE_INSENSITIVE_ORDER"), (0, u "Ljava/util/Comparator;"), (91, u "isEmpty"), (317, u "([C)V"), (90, u "serialPersistentFields"), (0, u "[Ljava/io/ObjectStreamField;"), (0, .class_ 1104), (0, u "java/lang/String$CaseInsensitiveComparator"), (1, .class_ 1107), (0, u "java/io/Serializable"), (0, .class_ 1109), (0, u "java/lang/Comparable"), (0, .class_ 1111), (0, u "java/lang/constant/Constable"), (0, .class_ 1113), (0, u "java/lang/constant/ConstantDesc"), (2, u "serialVersionUID"), (0, u "J"), (3, u "REPL"), (0, u "C"), (2, u "LATIN1"), (1, u "UTF16")] 323

def k9m0 : Method := { name := "<init>", desc := "()V", sig := { parameters := [], returnType := none }, accessFlags := 1, code := none }
def k9c1 : Code := { maxStack := 5, maxLocals := 2, code := jdk_42_method_3_code, exceptionTable := #[], attributes := #[] }
def k9m1 : Method := { name := "<init>", desc := "([C)V", sig := { parameters := [(.array .char)], returnType := none }, accessFlags := 1, code := some k9c1 }
def k9c2 : Code := { maxStack := 1, maxLocals := 1, code := jdk_42_method_55_code, exceptionTable := #[], attributes := #[] }
def k9m2 : Method := { name := "isEmpty", desc := "()Z", sig := { parameters := [], returnType := some .boolean }, accessFlags := 1, code := some k9c2 }
def k9c3 : Code := { maxStack := 2, maxLocals := 3, code := jdk_42_method_66_code, exceptionTable := #[], attributes := #[] }
def k9m3 : Method := { name := "equals", desc := "(Ljava/lang/Object;)Z", sig := { parameters := [(.object "java/lang/Object")], returnType := some .boolean }, accessFlags := 1, code := some k9c3 }
def k9c4 : Code := { maxStack := 4, maxLocals := 6, code := jdk_42_method_149_code, exceptionTable := #[], attributes := #[] }
def k9m4 : Method := { name := "<init>", desc := "([CIILjava/lang/Void;)V", sig := { parameters := [(.array .char), .int, .int, (.object "java/lang/Void")], returnType := none }, accessFlags := 2, code := some k9c4 }
/-- java/lang/String -/
def k9 : Class := { plain "java/lang/String" (some 0) with
  accessFlags := 49
  interfaces := #[4, 3, 7, 2, 8]
  cf := some (fileOf pool9 10 #[.nestMembers #[1103]] #[{ accessFlags := 1, nameIndex := 5, descriptorIndex := 6, attributes := #[] }, { accessFlags := 1, nameIndex := 5, descriptorIndex := 1010, attributes := #[] }, { accessFlags := 1, nameIndex := 692, descriptorIndex := 142, attributes := #[] }, { accessFlags := 1, nameIndex := 543, descriptorIndex := 573, attributes := #[] }, { accessFlags := 2, nameIndex := 5, descriptorIndex := 29, attributes := #[] }] 49 2 #[1106, 1108, 575, 1110, 1112] #[{ accessFlags := 18, nameIndex := 13, descriptorIndex := 14, attributes := #[] }, { accessFlags := 18, nameIndex := 17, descriptorIndex := 18, attributes := #[] }, { accessFlags := 2, nameIndex := 21, descriptorIndex := 22, attributes := #[] }, { accessFlags := 2, nameIndex := 25, descriptorIndex := 26, attributes := #[] }, { accessFlags := 26, nameIndex := 1116, descriptorIndex := 1117, attributes := #[] }, { accessFlags := 24, nameIndex := 40, descriptorIndex := 26, attributes := #[] }, { accessFlags := 26, nameIndex := 1101, descriptorIndex := 1102, attributes := #[] }, { accessFlags := 26, nameIndex := 1121, descriptorIndex := 1122, attributes := #[] }, { accessFlags := 25, nameIndex := 599, descriptorIndex := 600, attributes := #[] }, { accessFlags := 24, nameIndex := 1125, descriptorIndex := 18, attributes := #[] }, { accessFlags := 24, nameIndex := 1127, descriptorIndex := 18, attributes := #[] }])
  fields := #[{ name := "value", type := (.array .byte), accessFlags := 18, slot := 0, constantValue := 0 }, { name := "coder", type := .byte, accessFlags := 18, slot := 1, constantValue := 0 }, { name := "hash", type := .int, accessFlags := 2, slot := 2, constantValue := 0 }, { name := "hashIsZero", type := .boolean, accessFlags := 2, slot := 3, constantValue := 0 }, { name := "serialVersionUID", type := .long, accessFlags := 26, slot := 0, constantValue := 0 }, { name := "COMPACT_STRINGS", type := .boolean, accessFlags := 24, slot := 1, constantValue := 0 }, { name := "serialPersistentFields", type := (.array (.object "java/io/ObjectStreamField")), accessFlags := 26, slot := 2, constantValue := 0 }, { name := "REPL", type := .char, accessFlags := 26, slot := 3, constantValue := 0 }, { name := "CASE_INSENSITIVE_ORDER", type := (.object "java/util/Comparator"), accessFlags := 25, slot := 4, constantValue := 0 }, { name := "LATIN1", type := .byte, accessFlags := 24, slot := 5, constantValue := 0 }, { name := "UTF16", type := .byte, accessFlags := 24, slot := 6, constantValue := 0 }]
  methods := #[k9m0, k9m1, k9m2, k9m3, k9m4]
  instanceTypes := #[(.array .byte), .byte, .int, .boolean]
  staticTypes := #[.long, .boolean, (.array (.object "java/io/ObjectStreamField")), .char, (.object "java/util/Comparator"), .byte, .byte]
  resolved := Array.replicate 1451 none
  statics := some 1 }

def pool10 : Array CpInfo := pool [(6, .class_ 8), (1, u "java/lang/Object"), (0, u "<init>"), (0, u "()V"), (1, .class_ 14), (1, u "java/lang/StringUTF16"), (31, u "$assertionsDisabled"), (0, u "Z"), (13, u "HI_BYTE_SHIFT"), (0, u "I"), (2, u "LO_BYTE_SHIFT"), (49, .methodref 12 116), (0, .nameAndType 117 118), (0, u "compress"), (0, u "([CI[BII)I"), (3, u "([CII)[B"), (138, u "coderFromArrayLen"), (0, u "([BI)B"), (106, .class_ 371), (1, u "java/lang/StringUTF16$LinesSpliterator"), (58, u "MAX_LENGTH"), (196, .class_ 628), (0, u "java/lang/StringUTF16$CodePointsSpliterator"), (0, .class_ 630), (0, u "java/lang/StringUTF16$CharsSpliterator")] 4

def k10m0 : Method := { name := "<init>", desc := "()V", sig := { parameters := [], returnType := none }, accessFlags := 0, code := none }
def k10c1 : Code := { maxStack := 2, maxLocals := 2, code := jdk_52_method_15_code, exceptionTable := #[], attributes := #[] }
def k10m1 : Method := { name := "coderFromArrayLen", desc := "([BI)B", sig := { parameters := [(.array .byte), .int], returnType := some .byte }, accessFlags := 8, code := some k10c1 }
def k10c2 : Code := { maxStack := 5, maxLocals := 6, code := jdk_52_method_16_code, exceptionTable := #[], attributes := #[] }
def k10m2 : Method := { name := "compress", desc := "([CII)[B", sig := { parameters := [(.array .char), .int, .int], returnType := some (.array .byte) }, accessFlags := 9, code := some k10c2 }
def k10c3 : Code := { maxStack := 3, maxLocals := 7, code := jdk_52_method_21_code, exceptionTable := #[], attributes := #[] }
def k10m3 : Method := { name := "compress", desc := "([CI[BII)I", sig := { parameters := [(.array .char), .int, (.array .byte), .int, .int], returnType := some .int }, accessFlags := 9, code := some k10c3 }
/-- java/lang/StringUTF16 -/
def k10 : Class := { plain "java/lang/StringUTF16" (some 0) with
  accessFlags := 48
  interfaces := #[]
  cf := some (fileOf pool10 12 #[.nestMembers #[627, 629, 369]] #[{ accessFlags := 0, nameIndex := 9, descriptorIndex := 10, attributes := #[] }, { accessFlags := 8, nameIndex := 261, descriptorIndex := 262, attributes := #[] }, { accessFlags := 9, nameIndex := 117, descriptorIndex := 122, attributes := #[] }, { accessFlags := 9, nameIndex := 117, descriptorIndex := 118, attributes := #[] }] 48 6 #[] #[{ accessFlags := 26, nameIndex := 61, descriptorIndex := 62, attributes := #[] }, { accessFlags := 26, nameIndex := 65, descriptorIndex := 62, attributes := #[] }, { accessFlags := 24, nameIndex := 430, descriptorIndex := 62, attributes := #[] }, { accessFlags := 4120, nameIndex := 46, descriptorIndex := 47, attributes := #[] }])
  fields := #[{ name := "HI_BYTE_SHIFT", type := .int, accessFlags := 26, slot := 0, constantValue := 0 }, { name := "LO_BYTE_SHIFT", type := .int, accessFlags := 26, slot := 1, constantValue := 0 }, { name := "MAX_LENGTH", type := .int, accessFlags := 24, slot := 2, constantValue := 0 }, { name := "$assertionsDisabled", type := .boolean, accessFlags := 4120, slot := 3, constantValue := 0 }]
  methods := #[k10m0, k10m1, k10m2, k10m3]
  instanceTypes := #[]
  staticTypes := #[.int, .int, .int, .boolean]
  resolved := Array.replicate 635 none
  statics := none }

def pool11 : Array CpInfo := pool [(1, .class_ 2), (0, u "java/lang/Cloneable"), (0, .class_ 4), (0, u "java/lang/Object")] 2

/-- java/lang/Cloneable -/
def k11 : Class := { plain "java/lang/Cloneable" (some 0) with
  accessFlags := 1537
  interfaces := #[]
  cf := some (fileOf pool11 1 #[] #[] 1537 3 #[] #[])
  fields := #[]
  methods := #[]
  instanceTypes := #[]
  staticTypes := #[]
  resolved := Array.replicate 7 none
  statics := none }

def pool12 : Array CpInfo := pool [(6, u "(Ljava/lang/Object;)Ljava/lang/Object;"), (2, u "apply"), (6, .class_ 18), (1, u "java/util/function/Function"), (0, .class_ 20), (0, u "java/lang/Object")] 56

def k12m0 : Method := { name := "apply", desc := "(Ljava/lang/Object;)Ljava/lang/Object;", sig := { parameters := [(.object "java/lang/Object")], returnType := some (.object "java/lang/Object") }, accessFlags := 1025, code := none }
/-- java/util/function/Function -/
def k12 : Class := { plain "java/util/function/Function" (some 0) with
  accessFlags := 1537
  interfaces := #[]
  cf := some (fileOf pool12 16 #[] #[{ accessFlags := 1025, nameIndex := 9, descriptorIndex := 6, attributes := #[] }] 1537 19 #[] #[])
  fields := #[]
  methods := #[k12m0]
  instanceTypes := #[]
  staticTypes := #[]
  resolved := Array.replicate 77 none
  statics := none }

def pool13 : Array CpInfo := pool [(2, .class_ 4), (1, u "java/lang/Object"), (0, u "<init>"), (0, u "()V"), (0, .interfaceMethodref 8 9), (0, .class_ 10), (0, .nameAndType 11 12), (0, u "java/util/function/Function"), (0, u "apply"), (0, u "(Ljava/lang/Object;)Ljava/lang/Object;"), (0, .class_ 14), (0, u "java/lang/String"), (0, .methodref 13 16), (0, .nameAndType 17 18), (0, u "equals"), (0, u "(Ljava/lang/Object;)Z"), (33, .class_ 53), (0, u "com/example/matchbook/matchbook/Labels"), (2, u "parse"), (0, u "([Ljava/lang/Object;Ljava/util/function/Function;Ljava/lang/String;Ljava/lang/String;)Ljava/lang/Object;")] 22

def k13m0 : Method := { name := "<init>", desc := "()V", sig := { parameters := [], returnType := none }, accessFlags := 2, code := none }
def k13c1 : Code := { maxStack := 5, maxLocals := 8, code := prog_6_method_2_code, exceptionTable := #[], attributes := #[] }
def k13m1 : Method := { name := "parse", desc := "([Ljava/lang/Object;Ljava/util/function/Function;Ljava/lang/String;Ljava/lang/String;)Ljava/lang/Object;", sig := { parameters := [(.array (.object "java/lang/Object")), (.object "java/util/function/Function"), (.object "java/lang/String"), (.object "java/lang/String")], returnType := some (.object "java/lang/Object") }, accessFlags := 8, code := some k13c1 }
/-- com/example/matchbook/matchbook/Labels -/
def k13 : Class := { plain "com/example/matchbook/matchbook/Labels" (some 0) with
  accessFlags := 48
  interfaces := #[]
  cf := some (fileOf pool13 52 #[] #[{ accessFlags := 2, nameIndex := 5, descriptorIndex := 6, attributes := #[] }, { accessFlags := 8, nameIndex := 56, descriptorIndex := 57, attributes := #[] }] 48 2 #[] #[])
  fields := #[]
  methods := #[k13m0, k13m1]
  instanceTypes := #[]
  staticTypes := #[]
  resolved := Array.replicate 80 none
  statics := none }

def pool14 : Array CpInfo := pool [(4, .class_ 6), (1, u "java/lang/Object"), (0, u "<init>"), (0, u "()V"), (5, .class_ 16), (1, u "java/lang/StringLatin1"), (104, u "$assertionsDisabled"), (0, u "Z"), (98, .class_ 223), (1, u "java/lang/StringLatin1$LinesSpliterator"), (57, u "equals"), (0, u "([B[B)Z"), (107, .class_ 391), (0, u "java/lang/StringLatin1$CharsSpliterator")] 3

def k14m0 : Method := { name := "<init>", desc := "()V", sig := { parameters := [], returnType := none }, accessFlags := 0, code := none }
def k14c1 : Code := { maxStack := 3, maxLocals := 3, code := jdk_43_method_13_code, exceptionTable := #[], attributes := #[] }
def k14m1 : Method := { name := "equals", desc := "([B[B)Z", sig := { parameters := [(.array .byte), (.array .byte)], returnType := some .boolean }, accessFlags := 9, code := some k14c1 }
/-- java/lang/StringLatin1 -/
def k14 : Class := { plain "java/lang/StringLatin1" (some 0) with
  accessFlags := 48
  interfaces := #[]
  cf := some (fileOf pool14 14 #[.nestMembers #[390, 221]] #[{ accessFlags := 0, nameIndex := 7, descriptorIndex := 8, attributes := #[] }, { accessFlags := 9, nameIndex := 281, descriptorIndex := 282, attributes := #[] }] 48 4 #[] #[{ accessFlags := 4120, nameIndex := 121, descriptorIndex := 122, attributes := #[] }])
  fields := #[{ name := "$assertionsDisabled", type := .boolean, accessFlags := 4120, slot := 0, constantValue := 0 }]
  methods := #[k14m0, k14m1]
  instanceTypes := #[]
  staticTypes := #[.boolean]
  resolved := Array.replicate 395 none
  statics := none }

def pool15 : Array CpInfo := pool [(2, .class_ 4), (1, u "java/lang/Object"), (0, u "<init>"), (0, u "()V"), (17, .class_ 26), (1, u "jdk/internal/util/Preconditions"), (28, .class_ 56), (0, u "jdk/internal/util/Preconditions$4"), (57, .class_ 115), (0, u "jdk/internal/util/Preconditions$1"), (7, u "SIOOBE_FORMATTER"), (0, u "Ljava/util/function/BiFunction;"), (0, .class_ 126), (0, u "jdk/internal/util/Preconditions$2"), (3, u "AIOOBE_FORMATTER"), (0, .class_ 132), (0, u "jdk/internal/util/Preconditions$3"), (3, u "IOOBE_FORMATTER")] 57

def k15m0 : Method := { name := "<init>", desc := "()V", sig := { parameters := [], returnType := none }, accessFlags := 1, code := none }
/-- jdk/internal/util/Preconditions -/
def k15 : Class := { plain "jdk/internal/util/Preconditions" (some 0) with
  accessFlags := 33
  interfaces := #[]
  cf := some (fileOf pool15 24 #[.nestMembers #[55, 131, 125, 114]] #[{ accessFlags := 1, nameIndex := 5, descriptorIndex := 6, attributes := #[] }] 33 2 #[] #[{ accessFlags := 25, nameIndex := 123, descriptorIndex := 124, attributes := #[] }, { accessFlags := 25, nameIndex := 130, descriptorIndex := 124, attributes := #[] }, { accessFlags := 25, nameIndex := 136, descriptorIndex := 124, attributes := #[] }])
  fields := #[{ name := "SIOOBE_FORMATTER", type := (.object "java/util/function/BiFunction"), accessFlags := 25, slot := 0, constantValue := 0 }, { name := "AIOOBE_FORMATTER", type := (.object "java/util/function/BiFunction"), accessFlags := 25, slot := 1, constantValue := 0 }, { name := "IOOBE_FORMATTER", type := (.object "java/util/function/BiFunction"), accessFlags := 25, slot := 2, constantValue := 0 }]
  methods := #[k15m0]
  instanceTypes := #[]
  staticTypes := #[(.object "java/util/function/BiFunction"), (.object "java/util/function/BiFunction"), (.object "java/util/function/BiFunction")]
  resolved := Array.replicate 194 none
  statics := some 2 }

def pool16 : Array CpInfo := pool [(9, u "<init>"), (6, .class_ 18), (1, u "java/lang/Object"), (0, u "()V"), (1, .class_ 23), (1, u "jdk/internal/util/ArraysSupport"), (0, u "LOG2_ARRAY_LONG_INDEX_SCALE"), (0, u "I"), (2, u "U"), (0, u "Ljdk/internal/misc/Unsafe;"), (8, u "BIG_ENDIAN"), (0, u "Z"), (8, u "LOG2_BYTE_BIT_SIZE"), (4, u "LOG2_ARRAY_INT_INDEX_SCALE"), (54, u "JLA"), (0, u "Ljdk/internal/access/JavaLangAccess;"), (11, u "LOG2_ARRAY_BOOLEAN_INDEX_SCALE"), (9, u "LOG2_ARRAY_BYTE_INDEX_SCALE"), (5, u "LOG2_ARRAY_CHAR_INDEX_SCALE"), (5, u "LOG2_ARRAY_SHORT_INDEX_SCALE"), (18, u "LOG2_ARRAY_FLOAT_INDEX_SCALE"), (24, u "LOG2_ARRAY_DOUBLE_INDEX_SCALE"), (89, u "T_BOOLEAN"), (2, u "T_CHAR"), (1, u "T_FLOAT"), (1, u "T_DOUBLE"), (1, u "T_BYTE"), (1, u "T_SHORT"), (1, u "T_INT"), (1, u "T_LONG"), (1, u "SOFT_MAX_ARRAY_LENGTH")] 83

def k16m0 : Method := { name := "<init>", desc := "()V", sig := { parameters := [], returnType := none }, accessFlags := 2, code := none }
/-- jdk/internal/util/ArraysSupport -/
def k16 : Class := { plain "jdk/internal/util/ArraysSupport" (some 0) with
  accessFlags := 33
  interfaces := #[]
  cf := some (fileOf pool16 21 #[] #[{ accessFlags := 2, nameIndex := 9, descriptorIndex := 19, attributes := #[] }] 33 16 #[] #[{ accessFlags := 24, nameIndex := 28, descriptorIndex := 29, attributes := #[] }, { accessFlags := 26, nameIndex := 38, descriptorIndex := 39, attributes := #[] }, { accessFlags := 25, nameIndex := 121, descriptorIndex := 25, attributes := #[] }, { accessFlags := 25, nameIndex := 131, descriptorIndex := 25, attributes := #[] }, { accessFlags := 25, nameIndex := 137, descriptorIndex := 25, attributes := #[] }, { accessFlags := 25, nameIndex := 143, descriptorIndex := 25, attributes := #[] }, { accessFlags := 25, nameIndex := 53, descriptorIndex := 25, attributes := #[] }, { accessFlags := 25, nameIndex := 24, descriptorIndex := 25, attributes := #[] }, { accessFlags := 25, nameIndex := 162, descriptorIndex := 25, attributes := #[] }, { accessFlags := 25, nameIndex := 187, descriptorIndex := 25, attributes := #[] }, { accessFlags := 26, nameIndex := 48, descriptorIndex := 25, attributes := #[] }, { accessFlags := 25, nameIndex := 277, descriptorIndex := 25, attributes := #[] }, { accessFlags := 25, nameIndex := 280, descriptorIndex := 25, attributes := #[] }, { accessFlags := 25, nameIndex := 282, descriptorIndex := 25, attributes := #[] }, { accessFlags := 25, nameIndex := 284, descriptorIndex := 25, attributes := #[] }, { accessFlags := 25, nameIndex := 286, descriptorIndex := 25, attributes := #[] }, { accessFlags := 25, nameIndex := 288, descriptorIndex := 25, attributes := #[] }, { accessFlags := 25, nameIndex := 290, descriptorIndex := 25, attributes := #[] }, { accessFlags := 25, nameIndex := 292, descriptorIndex := 25, attributes := #[] }, { accessFlags := 26, nameIndex := 108, descriptorIndex := 109, attributes := #[] }, { accessFlags := 25, nameIndex := 294, descriptorIndex := 25, attributes := #[] }])
  fields := #[{ name := "U", type := (.object "jdk/internal/misc/Unsafe"), accessFlags := 24, slot := 0, constantValue := 0 }, { name := "BIG_ENDIAN", type := .boolean, accessFlags := 26, slot := 1, constantValue := 0 }, { name := "LOG2_ARRAY_BOOLEAN_INDEX_SCALE", type := .int, accessFlags := 25, slot := 2, constantValue := 0 }, { name := "LOG2_ARRAY_BYTE_INDEX_SCALE", type := .int, accessFlags := 25, slot := 3, constantValue := 0 }, { name := "LOG2_ARRAY_CHAR_INDEX_SCALE", type := .int, accessFlags := 25, slot := 4, constantValue := 0 }, { name := "LOG2_ARRAY_SHORT_INDEX_SCALE", type := .int, accessFlags := 25, slot := 5, constantValue := 0 }, { name := "LOG2_ARRAY_INT_INDEX_SCALE", type := .int, accessFlags := 25, slot := 6, constantValue := 0 }, { name := "LOG2_ARRAY_LONG_INDEX_SCALE", type := .int, accessFlags := 25, slot := 7, constantValue := 0 }, { name := "LOG2_ARRAY_FLOAT_INDEX_SCALE", type := .int, accessFlags := 25, slot := 8, constantValue := 0 }, { name := "LOG2_ARRAY_DOUBLE_INDEX_SCALE", type := .int, accessFlags := 25, slot := 9, constantValue := 0 }, { name := "LOG2_BYTE_BIT_SIZE", type := .int, accessFlags := 26, slot := 10, constantValue := 0 }, { name := "T_BOOLEAN", type := .int, accessFlags := 25, slot := 11, constantValue := 0 }, { name := "T_CHAR", type := .int, accessFlags := 25, slot := 12, constantValue := 0 }, { name := "T_FLOAT", type := .int, accessFlags := 25, slot := 13, constantValue := 0 }, { name := "T_DOUBLE", type := .int, accessFlags := 25, slot := 14, constantValue := 0 }, { name := "T_BYTE", type := .int, accessFlags := 25, slot := 15, constantValue := 0 }, { name := "T_SHORT", type := .int, accessFlags := 25, slot := 16, constantValue := 0 }, { name := "T_INT", type := .int, accessFlags := 25, slot := 17, constantValue := 0 }, { name := "T_LONG", type := .int, accessFlags := 25, slot := 18, constantValue := 0 }, { name := "JLA", type := (.object "jdk/internal/access/JavaLangAccess"), accessFlags := 26, slot := 19, constantValue := 0 }, { name := "SOFT_MAX_ARRAY_LENGTH", type := .int, accessFlags := 25, slot := 20, constantValue := 0 }]
  methods := #[k16m0]
  instanceTypes := #[]
  staticTypes := #[(.object "jdk/internal/misc/Unsafe"), .boolean, .int, .int, .int, .int, .int, .int, .int, .int, .int, .int, .int, .int, .int, .int, .int, .int, .int, (.object "jdk/internal/access/JavaLangAccess"), .int]
  resolved := Array.replicate 378 none
  statics := none }

/-- the primitive byte -/
def k17 : Class := { plain "byte" none with kind := .primitive 'B', accessFlags := 0x411 }
/-- [B -/
def k18 : Class := { plain "[B" (some 0) with kind := .array 17 .byte, interfaces := #[11, 4], accessFlags := 1041 }

/-- the primitive char -/
def k19 : Class := { plain "char" none with kind := .primitive 'C', accessFlags := 0x411 }
/-- [C -/
def k20 : Class := { plain "[C" (some 0) with kind := .array 19 .char, interfaces := #[11, 4], accessFlags := 1041 }

/-- the primitive int -/
def k21 : Class := { plain "int" none with kind := .primitive 'I', accessFlags := 0x411 }
/-- [I -/
def k22 : Class := { plain "[I" (some 0) with kind := .array 21 .int, interfaces := #[11, 4], accessFlags := 1041 }

/-- [Lcom/example/matchbook/matchbook/Pricing; -/
def k23 : Class := { plain "[Lcom/example/matchbook/matchbook/Pricing;" (some 0) with kind := .array 6 (.object "com/example/matchbook/matchbook/Pricing"), interfaces := #[11, 4], accessFlags := 1041 }

def classes0 : Array Class := #[k0, k1, k2, k3, k4, k5, k6, k7, k8, k9, k10, k11, k12, k13, k14, k15, k16, k17, k18, k19, k20, k21, k22, k23]
/-- the class that the rule has made for the site at 16 of com/example/matchbook/matchbook/Pricing.parse -/
def k24 : Class := Jvm.LamKit.madeRec { classes := classes0 } "com/example/matchbook/matchbook/Pricing" (Jvm.Lambda.Shape.mk "java/util/function/Function" "apply" (Jvm.ClassFile.MethodDescriptor.mk ([(Jvm.ClassFile.FieldType.object "java/lang/Object")] : List Jvm.ClassFile.FieldType) (Option.some (Jvm.ClassFile.FieldType.object "java/lang/Object"))) ([] : List Jvm.ClassFile.FieldType) (5 : Nat) "com/example/matchbook/matchbook/Pricing" "label" (Jvm.ClassFile.MethodDescriptor.mk ([] : List Jvm.ClassFile.FieldType) (Option.some (Jvm.ClassFile.FieldType.object "java/lang/String"))) false (Jvm.ClassFile.MethodDescriptor.mk ([(Jvm.ClassFile.FieldType.object "com/example/matchbook/matchbook/Pricing")] : List Jvm.ClassFile.FieldType) (Option.some (Jvm.ClassFile.FieldType.object "java/lang/String")))) 24

def heap : Heap := #[{ cls := 6, slots := #[.ref 9, .ref 10, .ref 4], vm := .statics 6 },
  { cls := 9, slots := #[.long 0, .int 1, .null, .int 0, .null, .int 0, .int 0], vm := .statics 9 },
  { cls := 15, slots := #[.null, .null, .null], vm := .statics 15 },
  { cls := 24, slots := #[], vm := .none },
  { cls := 23, slots := #[.ref 9, .ref 10], vm := .none },
  { cls := 18, slots := #[.int 111, .int 110, .int 45, .int 100, .int 101, .int 109, .int 97, .int 110, .int 100], vm := .none },
  { cls := 18, slots := #[.int 115, .int 112, .int 111, .int 116], vm := .none },
  { cls := 9, slots := #[.ref 5, .int 0, .int 0, .int 0], vm := .none },
  { cls := 9, slots := #[.ref 6, .int 0, .int 0, .int 0], vm := .none },
  { cls := 6, slots := #[.null, .int 0, .int 0, .ref 7, .int 0, .null], vm := .none },
  { cls := 6, slots := #[.null, .int 1, .int 0, .ref 8, .int 0, .null], vm := .none }]
def classes : Array Class := #[k0, k1, k2, k3, k4, k5, k6, k7, k8, k9, k10, k11, k12, k13, k14, k15, k16, k17, k18, k19, k20, k21, k22, k23, k24]
def interned : List (Array UInt16 × Addr) := []
def slotsUsed : Nat := 48
def theMethod : MethodId := ⟨1, 1⟩
def args0 : Array Value := #[.int 5]
def aboutOver (below : List Frame) : State where
  vm := { classes := classes, interned := interned.toArray }
  heap := heap
  slotsUsed := slotsUsed
  threads := #[{ frames := .invoking theMethod args0 :: below }]
def below0 : List Frame := [.native { method := ⟨0, 0⟩, args := #[] }]
def about1 : State := aboutOver below0
def p0 : Program := .bare "" "" ""
def e0 : Env := launch0.env 0 0 0
theorem w_frames : about1.frames = Frame.invoking theMethod args0 :: below0 := rfl
set_option maxRecDepth 65536 in
theorem w_args : argsFit about1.vm theMethod args0 = true := by decide +kernel
set_option maxRecDepth 65536 in
theorem w_heap : heapFits about1 = true := by decide +kernel
set_option maxRecDepth 65536 in
theorem w_runnable : about1.curStatus? = some .runnable := by decide +kernel
set_option maxRecDepth 65536 in
theorem w_alone : about1.alone = true := by decide +kernel
set_option maxRecDepth 65536 in
theorem w_named : about1.methodNamed? x = some theMethod := by decide +kernel
set_option maxRecDepth 65536 in
theorem w_hears : about1.hears theMethod below0 = true := by decide +kernel
set_option maxRecDepth 65536 in
theorem w_ripe : about1.ripe theMethod args0 below0 = true := by decide +kernel
theorem w_running : about1.status = .running := rfl
set_option maxRecDepth 65536 in
theorem w_room : about1.hasRoom e0.platform room_1 = true :=
  launch0.hasRoom_least _ room_1 (by decide +kernel) (by decide +kernel) (by decide +kernel) (by decide +kernel) (by decide +kernel) (by decide +kernel)
theorem allAtoms_all (ts : List Jvm.Cond) (a : Array Jvm.Value) (st : Jvm.State) : (allAtoms ts).before a st = ts.all (fun c => c.before a st) := by
  induction ts with
  | nil => rfl
  | cons c t ih =>
    show (Jvm.Cond.and c (allAtoms t)).before a st = _
    rw [Jvm.Cond.before_and, ih, List.all_cons]
def words1 : List Jvm.Cond := Jvm.Cond.code x code maxLocals ret :: tables_1
/-- a 'code' word, met by the world's own term for the bytes: nothing is compared byte by byte -/
theorem code_word {y : MethodName} {bytes : ByteArray} {mx : Nat} {rt : Option FieldType} {a : Array Value} {s : State} {m : MethodId} {meth : Method} {c : Code} (h1 : s.methodNamed? y = some m) (h2 : s.vm.method? m = some meth) (h3 : meth.code = some c) (h4 : c.code = bytes)
    (h5 : (c.maxLocals == mx && c.exceptionTable.isEmpty && decide (c.maxStack ≤ mostOperands) && decide (meth.sig.returnType = rt) && !meth.locks && decide (parseMethodDescriptor y.desc = some meth.sig)) = true) : (Jvm.Cond.code y bytes mx rt).before a s = true := by
  simp only [Bool.and_eq_true, beq_iff_eq, Bool.not_eq_true', decide_eq_true_eq] at h5
  obtain ⟨⟨⟨⟨⟨g1, g2⟩, g3⟩, g4⟩, g5⟩, g6⟩ := h5
  simp [Cond.before, Cond.holds, Cond.value, h1, h2, h3, h4, g1, g2, g3, g4, g5, g6]
def isCode : Jvm.Cond → Bool
  | .code _ _ _ _ => true
  | _ => false
theorem all_split {L : List Jvm.Cond} {P : Jvm.Cond → Bool} (h1 : L.all (fun c => isCode c || P c) = true) (h2 : ∀ c ∈ L.filter isCode, P c = true) : L.all P = true := by
  refine List.all_eq_true.mpr fun c hc => ?_
  have h := List.all_eq_true.mp h1 c hc
  rcases Bool.eq_false_or_eq_true (isCode c) with hi | hi
  · exact h2 c (List.mem_filter.mpr ⟨hc, hi⟩)
  · simpa [hi] using h
set_option maxRecDepth 65536 in
theorem w_c0 : (Jvm.Cond.code x code maxLocals ret).before args0 about1 = true := code_word (m := ⟨1, 1⟩) (meth := k1m1) (c := k1c1) (by decide +kernel) rfl rfl rfl (by decide +kernel)
set_option maxRecDepth 65536 in
theorem w_c1 : (Jvm.Cond.code ({ cls := "java/lang/String", name := "<init>", desc := "([C)V" } : Jvm.MethodName) jdk_42_method_3_code (2 : Nat) (Option.none : Option Jvm.ClassFile.FieldType)).before args0 about1 = true := code_word (m := ⟨9, 1⟩) (meth := k9m1) (c := k9c1) (by decide +kernel) rfl rfl rfl (by decide +kernel)
set_option maxRecDepth 65536 in
theorem w_c2 : (Jvm.Cond.code ({ cls := "java/lang/String", name := "<init>", desc := "([CIILjava/lang/Void;)V" } : Jvm.MethodName) jdk_42_method_149_code (6 : Nat) (Option.none : Option Jvm.ClassFile.FieldType)).before args0 about1 = true := code_word (m := ⟨9, 4⟩) (meth := k9m4) (c := k9c4) (by decide +kernel) rfl rfl rfl (by decide +kernel)
set_option maxRecDepth 65536 in
theorem w_c3 : (Jvm.Cond.code ({ cls := "java/lang/Object", name := "<init>", desc := "()V" } : Jvm.MethodName) object_method_1_code (1 : Nat) (Option.none : Option Jvm.ClassFile.FieldType)).before args0 about1 = true := code_word (m := ⟨0, 0⟩) (meth := k0m0) (c := k0c0) (by decide +kernel) rfl rfl rfl (by decide +kernel)
set_option maxRecDepth 65536 in
theorem w_c4 : (Jvm.Cond.code ({ cls := "com/example/matchbook/matchbook/Pricing", name := "parse", desc := "(Ljava/lang/String;)Lcom/example/matchbook/matchbook/Pricing;" } : Jvm.MethodName) prog_7_method_7_code (1 : Nat) (Option.some (Jvm.ClassFile.FieldType.object "com/example/matchbook/matchbook/Pricing"))).before args0 about1 = true := code_word (m := ⟨6, 2⟩) (meth := k6m2) (c := k6c2) (by decide +kernel) rfl rfl rfl (by decide +kernel)
set_option maxRecDepth 65536 in
theorem w_c5 : (Jvm.Cond.code ({ cls := "java/lang/String", name := "isEmpty", desc := "()Z" } : Jvm.MethodName) jdk_42_method_55_code (1 : Nat) (Option.some Jvm.ClassFile.FieldType.boolean)).before args0 about1 = true := code_word (m := ⟨9, 2⟩) (meth := k9m2) (c := k9c2) (by decide +kernel) rfl rfl rfl (by decide +kernel)
set_option maxRecDepth 65536 in
theorem w_c6 : (Jvm.Cond.code ({ cls := "java/lang/StringUTF16", name := "compress", desc := "([CII)[B" } : Jvm.MethodName) jdk_52_method_16_code (6 : Nat) (Option.some (Jvm.ClassFile.FieldType.array Jvm.ClassFile.FieldType.byte))).before args0 about1 = true := code_word (m := ⟨10, 2⟩) (meth := k10m2) (c := k10c2) (by decide +kernel) rfl rfl rfl (by decide +kernel)
set_option maxRecDepth 65536 in
theorem w_c7 : (Jvm.Cond.code ({ cls := "java/lang/StringUTF16", name := "compress", desc := "([CI[BII)I" } : Jvm.MethodName) jdk_52_method_21_code (7 : Nat) (Option.some Jvm.ClassFile.FieldType.int)).before args0 about1 = true := code_word (m := ⟨10, 3⟩) (meth := k10m3) (c := k10c3) (by decide +kernel) rfl rfl rfl (by decide +kernel)
set_option maxRecDepth 65536 in
theorem w_c8 : (Jvm.Cond.code ({ cls := "java/lang/StringUTF16", name := "coderFromArrayLen", desc := "([BI)B" } : Jvm.MethodName) jdk_52_method_15_code (2 : Nat) (Option.some Jvm.ClassFile.FieldType.byte)).before args0 about1 = true := code_word (m := ⟨10, 1⟩) (meth := k10m1) (c := k10c1) (by decide +kernel) rfl rfl rfl (by decide +kernel)
set_option maxRecDepth 65536 in
theorem w_c9 : (Jvm.Cond.code ({ cls := "com/example/matchbook/matchbook/Pricing", name := "values", desc := "()[Lcom/example/matchbook/matchbook/Pricing;" } : Jvm.MethodName) prog_7_method_1_code (0 : Nat) (Option.some (Jvm.ClassFile.FieldType.array (Jvm.ClassFile.FieldType.object "com/example/matchbook/matchbook/Pricing")))).before args0 about1 = true := code_word (m := ⟨6, 0⟩) (meth := k6m0) (c := k6c0) (by decide +kernel) rfl rfl rfl (by decide +kernel)
set_option maxRecDepth 65536 in
theorem w_c10 : (Jvm.Cond.code ({ cls := "com/example/matchbook/matchbook/Labels", name := "parse", desc := "([Ljava/lang/Object;Ljava/util/function/Function;Ljava/lang/String;Ljava/lang/String;)Ljava/lang/Object;" } : Jvm.MethodName) prog_6_method_2_code (8 : Nat) (Option.some (Jvm.ClassFile.FieldType.object "java/lang/Object"))).before args0 about1 = true := code_word (m := ⟨13, 1⟩) (meth := k13m1) (c := k13c1) (by decide +kernel) rfl rfl rfl (by decide +kernel)
set_option maxRecDepth 65536 in
theorem w_c11 : (Jvm.Cond.code ({ cls := "com/example/matchbook/matchbook/Pricing", name := "label", desc := "()Ljava/lang/String;" } : Jvm.MethodName) prog_7_method_4_code (1 : Nat) (Option.some (Jvm.ClassFile.FieldType.object "java/lang/String"))).before args0 about1 = true := code_word (m := ⟨6, 1⟩) (meth := k6m1) (c := k6c1) (by decide +kernel) rfl rfl rfl (by decide +kernel)
set_option maxRecDepth 65536 in
theorem w_c12 : (Jvm.Cond.code ({ cls := "java/lang/String", name := "equals", desc := "(Ljava/lang/Object;)Z" } : Jvm.MethodName) jdk_42_method_66_code (3 : Nat) (Option.some Jvm.ClassFile.FieldType.boolean)).before args0 about1 = true := code_word (m := ⟨9, 3⟩) (meth := k9m3) (c := k9c3) (by decide +kernel) rfl rfl rfl (by decide +kernel)
set_option maxRecDepth 65536 in
theorem w_c13 : (Jvm.Cond.code ({ cls := "java/lang/StringLatin1", name := "equals", desc := "([B[B)Z" } : Jvm.MethodName) jdk_43_method_13_code (3 : Nat) (Option.some Jvm.ClassFile.FieldType.boolean)).before args0 about1 = true := code_word (m := ⟨14, 1⟩) (meth := k14m1) (c := k14c1) (by decide +kernel) rfl rfl rfl (by decide +kernel)
def codes1 : List Jvm.Cond := [Jvm.Cond.code x code maxLocals ret, Jvm.Cond.code ({ cls := "java/lang/String", name := "<init>", desc := "([C)V" } : Jvm.MethodName) jdk_42_method_3_code (2 : Nat) (Option.none : Option Jvm.ClassFile.FieldType), Jvm.Cond.code ({ cls := "java/lang/String", name := "<init>", desc := "([CIILjava/lang/Void;)V" } : Jvm.MethodName) jdk_42_method_149_code (6 : Nat) (Option.none : Option Jvm.ClassFile.FieldType), Jvm.Cond.code ({ cls := "java/lang/Object", name := "<init>", desc := "()V" } : Jvm.MethodName) object_method_1_code (1 : Nat) (Option.none : Option Jvm.ClassFile.FieldType), Jvm.Cond.code ({ cls := "com/example/matchbook/matchbook/Pricing", name := "parse", desc := "(Ljava/lang/String;)Lcom/example/matchbook/matchbook/Pricing;" } : Jvm.MethodName) prog_7_method_7_code (1 : Nat) (Option.some (Jvm.ClassFile.FieldType.object "com/example/matchbook/matchbook/Pricing")), Jvm.Cond.code ({ cls := "java/lang/String", name := "isEmpty", desc := "()Z" } : Jvm.MethodName) jdk_42_method_55_code (1 : Nat) (Option.some Jvm.ClassFile.FieldType.boolean), Jvm.Cond.code ({ cls := "java/lang/StringUTF16", name := "compress", desc := "([CII)[B" } : Jvm.MethodName) jdk_52_method_16_code (6 : Nat) (Option.some (Jvm.ClassFile.FieldType.array Jvm.ClassFile.FieldType.byte)), Jvm.Cond.code ({ cls := "java/lang/StringUTF16", name := "compress", desc := "([CI[BII)I" } : Jvm.MethodName) jdk_52_method_21_code (7 : Nat) (Option.some Jvm.ClassFile.FieldType.int), Jvm.Cond.code ({ cls := "java/lang/StringUTF16", name := "coderFromArrayLen", desc := "([BI)B" } : Jvm.MethodName) jdk_52_method_15_code (2 : Nat) (Option.some Jvm.ClassFile.FieldType.byte), Jvm.Cond.code ({ cls := "com/example/matchbook/matchbook/Pricing", name := "values", desc := "()[Lcom/example/matchbook/matchbook/Pricing;" } : Jvm.MethodName) prog_7_method_1_code (0 : Nat) (Option.some (Jvm.ClassFile.FieldType.array (Jvm.ClassFile.FieldType.object "com/example/matchbook/matchbook/Pricing"))), Jvm.Cond.code ({ cls := "com/example/matchbook/matchbook/Labels", name := "parse", desc := "([Ljava/lang/Object;Ljava/util/function/Function;Ljava/lang/String;Ljava/lang/String;)Ljava/lang/Object;" } : Jvm.MethodName) prog_6_method_2_code (8 : Nat) (Option.some (Jvm.ClassFile.FieldType.object "java/lang/Object")), Jvm.Cond.code ({ cls := "com/example/matchbook/matchbook/Pricing", name := "label", desc := "()Ljava/lang/String;" } : Jvm.MethodName) prog_7_method_4_code (1 : Nat) (Option.some (Jvm.ClassFile.FieldType.object "java/lang/String")), Jvm.Cond.code ({ cls := "java/lang/String", name := "equals", desc := "(Ljava/lang/Object;)Z" } : Jvm.MethodName) jdk_42_method_66_code (3 : Nat) (Option.some Jvm.ClassFile.FieldType.boolean), Jvm.Cond.code ({ cls := "java/lang/StringLatin1", name := "equals", desc := "([B[B)Z" } : Jvm.MethodName) jdk_43_method_13_code (3 : Nat) (Option.some Jvm.ClassFile.FieldType.boolean)]
set_option maxRecDepth 65536 in
theorem codes_eq : words1.filter isCode = codes1 := rfl
theorem w_codes : ∀ c ∈ words1.filter isCode, c.before args0 about1 = true := by
  rw [codes_eq]
  intro c hc
  simp only [codes1, List.mem_cons, List.not_mem_nil, or_false] at hc
  rcases hc with rfl | rfl | rfl | rfl | rfl | rfl | rfl | rfl | rfl | rfl | rfl | rfl | rfl | rfl
  · exact w_c0
  · exact w_c1
  · exact w_c2
  · exact w_c3
  · exact w_c4
  · exact w_c5
  · exact w_c6
  · exact w_c7
  · exact w_c8
  · exact w_c9
  · exact w_c10
  · exact w_c11
  · exact w_c12
  · exact w_c13
set_option maxRecDepth 65536 in
theorem w_t1 : (words1.take 24).all (fun c => isCode c || c.before args0 about1) = true := by decide +kernel
set_option maxRecDepth 65536 in
theorem w_t2 : ((words1.drop 24).take 24).all (fun c => isCode c || c.before args0 about1) = true := by decide +kernel
set_option maxRecDepth 65536 in
theorem w_t3 : (((words1.drop 24).drop 24).take 24).all (fun c => isCode c || c.before args0 about1) = true := by decide +kernel
set_option maxRecDepth 65536 in
theorem w_t4 : (((words1.drop 24).drop 24).drop 24).all (fun c => isCode c || c.before args0 about1) = true := by decide +kernel
theorem w_tables : (allAtoms (Jvm.Cond.code x code maxLocals ret :: tables_1)).before args0 about1 = true := by
  rw [allAtoms_all]
  show words1.all (fun c => c.before args0 about1) = true
  refine all_split ?_ w_codes
  rw [← List.take_append_drop 24 words1, List.all_append, w_t1, ← List.take_append_drop 24 (words1.drop 24), List.all_append, w_t2, ← List.take_append_drop 24 ((words1.drop 24).drop 24), List.all_append, w_t3, w_t4]
  rfl
set_option maxRecDepth 65536 in
theorem w_rest : rest_1_c.before args0 about1 = true := by decide +kernel
set_option maxRecDepth 65536 in
theorem w_case : (Jvm.Cond.and given_1 narrow_1).before args0 about1 = true := by decide +kernel
set_option maxRecDepth 65536 in
theorem w_consts : constsHeld consts_1 about1 := Jvm.Lit.constsHeldB_iff.mp (by decide +kernel)
theorem w_applies : (headSpec (Jvm.Cond.code x code maxLocals ret :: tables_1) room_1).applies x e0.platform about1 = true :=
  (Spec.applies_iff w_frames).mpr ⟨w_running, w_runnable, w_alone, w_named, w_hears, w_ripe, w_room, w_tables⟩
theorem atStart : AtStart classFile x code maxLocals ret World_1 tables_1 room_1 Calls_1 rest_1 Pre_1 launch0 p0 e0 about1 theMethod args0 below0 :=
  ⟨lists_1, trivial, launch0.admits_env _ _ _, launch0.least_env, fairChoices_fair.cas, fairChoices_fair.clock, w_frames, w_args, w_heap, w_applies, ⟨w_consts, trivial⟩, w_rest, w_case⟩
end start1
theorem witness_1 : WitnessClaimed_1 := ⟨start1.p0, start1.e0, start1.about1, start1.theMethod, start1.args0, start1.below0, start1.atStart⟩
end Jvm.Pilot.@@N@@
