import JvmDerived
import JvmDerived.Pilot.@@N@@Statement
import JvmDerived.Pilot.@@N@@Code
set_option linter.unusedVariables false
set_option linter.unusedSimpArgs false
namespace Jvm.RoadKit
open Sem ClassFile Op Lib Jvm.Stand Jvm.Free Jvm.LawKit
section New
variable {p : Program} {l : Launch} {e : Env} {R : Room} {s : State} {m : MethodId} {args : Array Value} {below : List Frame} {meth : Method} {c : Code} {T : State} {locs : List Loc} {cells slots : Nat}
theorem retI (X : Stand p l e R s m args below meth c T locs cells slots) (hx : p.tables.exec = Jvm.exec) {pc : Nat} {Ls : Array Slot} {z : Int32} {rest : List Value} (hret : meth.sig.returnType = some .int) (hd : decode c.code pc = .ok (.ireturn, 1)) {fs : List Frame}
    (hl : ∀ (f : JFrame) (acts : List Action), f.method = m → f.locked = none → f.entered = [] → (doReturn e (T.setTop f) acts (some (.int z))).1 = T.setFrames fs) : Steps p.tables e below (T.setTop (mkF m pc Ls (.int z :: rest))) (T.setFrames fs) := by
  have hm' : T.vm.method? m = some meth := X.method'
  have hn : narrow .int (.int z) = .int z := rfl
  show Steps p.tables e below (T.setTop { method := m, pc := pc, locals := Ls, stack := _ :: rest, locked := none }) _
  jvm_step X.here [X.here.top, hx, hd, hm', hret, hn]
  first | (intro acts; rw [hl _ acts rfl rfl rfl]) | rw [hl _ _ rfl rfl rfl]
  exact Steps.refl _
def Gl (p : Program) (e : Env) (below : List Frame) (s : State) (kc ks : Nat) (Q : Option Value → Heap → List Loc → Prop) (T : State) (g : JFrame) : Prop :=
  ∃ U o, Steps p.tables e below (T.setTop g) U ∧ U.status = .running ∧ Ended U below o ∧ ∃ v L, o = .returned v ∧ Q v U.heap L ∧ FrameEnd s o U L kc ks
theorem Gl.st {kc ks : Nat} {Q : Option Value → Heap → List Loc → Prop} {T' : State} {g g' : JFrame} (h : ∀ t, Steps p.tables e below (T'.setTop g') t → Steps p.tables e below (T.setTop g) t) (k : Gl p e below s kc ks Q T' g') : Gl p e below s kc ks Q T g := by
  obtain ⟨U, o, h1, r⟩ := k
  exact ⟨U, o, h _ h1, r⟩
theorem Gl.wider {cells' slots' : Nat} (X : Stand p l e R s m args below meth c T locs cells slots) (h1 : cells ≤ cells') (h2 : slots ≤ slots') : Stand p l e R s m args below meth c T locs cells' slots' :=
  ⟨X.admits, X.cas, X.clock, X.frames, X.room, X.hears, X.method, X.code, X.here, X.tail, X.warmed, X.limits, X.bytes, X.same.mono h1 h2⟩
theorem Gl.start {kc ks : Nat} {Q : Option Value → Heap → List Loc → Prop} {g g' : JFrame} (q : g = g') (k : Gl p e below s kc ks Q T g') :
    ∃ U o, Steps p.tables e below (T.setTop g) U ∧ U.status = .running ∧ Ended U below o ∧ ∃ v L, o = .returned v ∧ Q v U.heap L ∧ FrameEnd s o U L kc ks := q ▸ k
theorem Gl.ret {kc ks : Nat} {Q : Option Value → Heap → List Loc → Prop} {g : JFrame} {h : Heap} (X : Stand p l e R s m args below meth c T locs cells slots) {v : Option Value} (hv : meth.sig.returnType = none → v = none) (hlk : meth.locks = false)
    (st : ∀ {fs : List Frame}, (∀ (f : JFrame) (acts : List Action), f.method = m → f.locked = none → f.entered = [] → (doReturn e (T.setTop f) acts v).1 = T.setFrames fs) → Steps p.tables e below (T.setTop g) (T.setFrames fs))
    (eT : T.heap = h) (hQ : Q v h locs) (hc : cells ≤ kc) (hs : slots ≤ ks) : Gl p e below s kc ks Q T g := by
  obtain ⟨fs, hr, hrun, hended, hW, hsame⟩ := X.leave hv hlk
  refine ⟨_, _, st hr, hrun, hended, _, _, rfl, ?_, ⟨_, rfl⟩, hW, hsame.mono hc hs⟩
  show Q v T.heap locs
  rw [eT]; exact hQ
end New
end Jvm.RoadKit
/- laws to paste: Road.backV (cut by pick.py; bodies as the Statement names them) -/
namespace Jvm.Pilot.@@N@@
namespace StrChars
open Jvm Sem ClassFile Op Lib Jvm.Stand Jvm.Free.XT Jvm.Free.ALB Jvm.Free.JM Jvm.Free
open Jvm.Lib.Cold (StaticIs)
/-- a char array whose places are chars -/
def Ch (a : Addr) (A : Cell) (U : State) : Prop := Arr .char a A U ∧ Typed .char A
theorem Ch.mv {a : Addr} {A : Cell} {U U' : State} (h : Ch a A U) (hal : U.vm.Alike U'.vm) (hh : U'.heap = U.heap) : Ch a A U' := ⟨h.1.mv hal hh, h.2⟩
theorem Ch.keep {a : Addr} {A : Cell} {U U' : State} (h : Ch a A U) (hal : U.vm.Alike U'.vm) (hk : U'.heap[a]? = some A) : Ch a A U' := ⟨h.1.keep hal hk, h.2⟩
/-- what place i of a char[]'s cell holds -/
def cv (A : Cell) (i : Nat) : Int32 := match A.slots[i]? with | some (.int x) => x | _ => 0
theorem Ch.get {a : Addr} {A : Cell} {U : State} (h : Ch a A U) {i : Nat} (hi : i < A.slots.size) : A.slots[i]? = some (.int (cv A i)) := by
  have e := Array.getElem?_eq_getElem hi
  have f := h.2 i _ e
  unfold cv; rw [e]
  generalize A.slots[i] = v at f
  cases v <;> simp [fits] at f ⊢
/-- the byte that i2b leaves of a char -/
def lo8 (x : Int32) : Int32 := x.toInt8.toInt32
theorem fits_lo8 (y : Int32) : fits .byte (.int (lo8 y)) = true := by
  have h1 := y.toInt8.le_toInt
  have h2 := y.toInt8.toInt_lt
  simp only [lo8, fits, Bool.and_eq_true, decide_eq_true_eq, Int32.le_iff_toInt_le, Int8.toInt_toInt32, show (-128 : Int32).toInt = -128 from by decide, show (127 : Int32).toInt = 127 from by decide]
  omega
/-- A' is A but that each place j of lo .. hi - 1 holds f j -/
def Laid (A A' : Cell) (lo hi : Nat) (f : Nat → Value) : Prop := A'.cls = A.cls ∧ A'.vm = A.vm ∧ A'.slots.size = A.slots.size ∧ ∀ i, A'.slots[i]? = if lo ≤ i ∧ i < hi then some (f i) else A.slots[i]?
theorem Laid.zero (A : Cell) (lo : Nat) (f : Nat → Value) : Laid A A lo (lo + 0) f := ⟨rfl, rfl, rfl, fun i => by rw [if_neg (by omega)]⟩
theorem Laid.step {A Ak : Cell} {lo k : Nat} {f : Nat → Value} {v : Value} (h : Laid A Ak lo k f) (hlo : lo ≤ k) (hk : k < Ak.slots.size) (hv : v = f k) : Laid A (Ak.setSlot k v) lo (k + 1) f := by
  refine ⟨h.1, h.2.1, by simpa [Cell.setSlot] using h.2.2.1, fun i => ?_⟩
  by_cases e : k = i
  · subst e; rw [Cell.slots_setSlot_self v hk, if_pos (by omega), hv]
  · rw [Cell.slots_setSlot_ne v e, h.2.2.2 i]
    by_cases q : lo ≤ i ∧ i < k
    · rw [if_pos q, if_pos (by omega)]
    · rw [if_neg q, if_neg (by omega)]
def U16 : String := "java/lang/StringUTF16"
namespace Cmp5
def yN : MethodName := ⟨"java/lang/StringUTF16", "compress", "([CI[BII)I"⟩
abbrev yB : ByteArray := jdk_52_method_21_code
theorem d0 : decode yB 0 = .ok (.iconst 0, 1) := by decide +kernel
theorem d1 : decode yB 1 = .ok (.istore 5, 2) := by decide +kernel
theorem d3 : decode yB 3 = .ok (.iload 5, 2) := by decide +kernel
theorem d5 : decode yB 5 = .ok (.iload 4, 2) := by decide +kernel
theorem d7 : decode yB 7 = .ok (.if_icmp (.ge) 37, 3) := by decide +kernel
theorem d10 : decode yB 10 = .ok (.aload_n 0, 1) := by decide +kernel
theorem d11 : decode yB 11 = .ok (.iload_n 1, 1) := by decide +kernel
theorem d12 : decode yB 12 = .ok (.caload, 1) := by decide +kernel
theorem d13 : decode yB 13 = .ok (.istore 6, 2) := by decide +kernel
theorem d15 : decode yB 15 = .ok (.iload 6, 2) := by decide +kernel
theorem d17 : decode yB 17 = .ok (.sipush 255, 3) := by decide +kernel
theorem d20 : decode yB 20 = .ok (.if_icmp (.le) 6, 3) := by decide +kernel
theorem d26 : decode yB 26 = .ok (.aload_n 2, 1) := by decide +kernel
theorem d27 : decode yB 27 = .ok (.iload_n 3, 1) := by decide +kernel
theorem d28 : decode yB 28 = .ok (.iload 6, 2) := by decide +kernel
theorem d30 : decode yB 30 = .ok (.i2b, 1) := by decide +kernel
theorem d31 : decode yB 31 = .ok (.bastore, 1) := by decide +kernel
theorem d32 : decode yB 32 = .ok (.iinc 1 1, 3) := by decide +kernel
theorem d35 : decode yB 35 = .ok (.iinc 3 1, 3) := by decide +kernel
theorem d38 : decode yB 38 = .ok (.iinc 5 1, 3) := by decide +kernel
theorem d41 : decode yB 41 = .ok (.goto (-38), 3) := by decide +kernel
theorem d44 : decode yB 44 = .ok (.iload 4, 2) := by decide +kernel
theorem d46 : decode yB 46 = .ok (.ireturn, 1) := by decide +kernel
def site : List Cond := []
def tab : Cond := tabOf yN yB 7 (some .int) site
def P (b : Addr) (A : Cell) (d : Addr) (B : Cell) (o q len : Nat) (args : Array Value) (s : State) : Prop := args = #[.ref b, .int (Int32.ofNat o), .ref d, .int (Int32.ofNat q), .int (Int32.ofNat len)] ∧ Ch b A s ∧ Arr .byte d B s ∧ b ≠ d ∧ o + len ≤ A.slots.size ∧ q + len ≤ B.slots.size ∧ ∀ i, i < len → ¬ 255 < cv A (o + i)
def E (b : Addr) (A : Cell) (d : Addr) (B : Cell) (o q len : Nat) (r : Option Value) (s u : State) : Prop := r = some (.int (Int32.ofNat len)) ∧ ∃ B', Put d B' s u ∧ Laid B B' q (q + len) (fun j => Value.int (lo8 (cv A (o + (j - q)))))
/-- no char of the range above 255: len; the places written hold each char's low byte -/
theorem law (l : Launch) (b : Addr) (A : Cell) (d : Addr) (B : Cell) (o q len : Nat) : Law l yN 5 5 0 0 yB 7 (some .int) site (P b A d B o q len) (E b A d B o q len) (copyLocs d q len) 0 0 := by
  refine Law.of_walk (plainFor_of_name (by decide +kernel)) (by decide +kernel) (by decide +kernel) (by decide) (fun _ _ h => by rw [h.1]; rfl) (fun _ U U' hal hh h => ⟨h.1, h.2.1.mv hal hh, h.2.2.1.mv hal hh, h.2.2.2⟩) (fun r U U' V V' h1 hal h2 h => ⟨h.1, h.2.elim fun B' q => ⟨B', q.1.mv h1 h2, q.2⟩⟩) ?_
  intro p e s m args below meth c s₁ X0 hexec hbytes hml hret hlk hnm hown hh0 W hP
  obtain ⟨rfl, hA, hB, hne, l1, l2, hp⟩ := hP
  have c1 : Steps p.tables e below (s₁.setTop (entryFrame m #[.ref b, .int (Int32.ofNat o), .ref d, .int (Int32.ofNat q), .int (Int32.ofNat len)] 7)) (s₁.setTop (mkF m 0 #[.val (.ref b), .val (.int (Int32.ofNat o)), .val (.ref d), .val (.int (Int32.ofNat q)), .val (.int (Int32.ofNat len)), .unset, .unset] [])) := entry rfl
  have hA0 := hA.1.mv X0.warmed.alike hh0
  have hB0 := hB.mv X0.warmed.alike hh0
  have a31 := hA.1.2.2.2
  have c2 : Steps p.tables e below (s₁.setTop (entryFrame m #[.ref b, .int (Int32.ofNat o), .ref d, .int (Int32.ofNat q), .int (Int32.ofNat len)] 7)) (s₁.setTop (mkF m 3 #[.val (.ref b), .val (.int (Int32.ofNat o)), .val (.ref d), .val (.int (Int32.ofNat q)), .val (.int (Int32.ofNat len)), .val (.int 0), .unset] [])) := c1.trans (by
    refine iconstV X0.here hexec rfl 0 (hb hbytes d0) (by decide) ?_
    refine XS.istore X0.here hexec rfl (hb hbytes d1) rfl rfl ?_
    exact Steps.refl _)
  have loop : ∀ (r i : Nat), i + r = len → ∀ (z : Slot), (z = .unset ∨ ∃ w, z = .val w ∧ w.category = 1) → ∀ (Tl : State) (Bk : Cell), Stand p l e { frames := 0, locals := 0, cells := 0, slots := 0 } s m #[.ref b, .int (Int32.ofNat o), .ref d, .int (Int32.ofNat q), .int (Int32.ofNat len)] below meth c Tl ([] ++ copyLocs d q i) 0 0 → Put d Bk s₁ Tl → Laid B Bk q (q + i) (fun j => Value.int (lo8 (cv A (o + (j - q))))) →
      Steps p.tables e below (s₁.setTop (entryFrame m #[.ref b, .int (Int32.ofNat o), .ref d, .int (Int32.ofNat q), .int (Int32.ofNat len)] 7)) (Tl.setTop (mkF m 3 #[.val (.ref b), .val (.int (Int32.ofNat (o + i))), .val (.ref d), .val (.int (Int32.ofNat (q + i))), .val (.int (Int32.ofNat len)), .val (.int (Int32.ofNat i)), z] [])) → ∃ (T' : State) (B' : Cell) (z' : Slot), Stand p l e { frames := 0, locals := 0, cells := 0, slots := 0 } s m #[.ref b, .int (Int32.ofNat o), .ref d, .int (Int32.ofNat q), .int (Int32.ofNat len)] below meth c T' ([] ++ copyLocs d q len) 0 0 ∧ Put d B' s₁ T' ∧ Laid B B' q (q + len) (fun j => Value.int (lo8 (cv A (o + (j - q))))) ∧
      Steps p.tables e below (s₁.setTop (entryFrame m #[.ref b, .int (Int32.ofNat o), .ref d, .int (Int32.ofNat q), .int (Int32.ofNat len)] 7)) (T'.setTop (mkF m 3 #[.val (.ref b), .val (.int (Int32.ofNat (o + len))), .val (.ref d), .val (.int (Int32.ofNat (q + len))), .val (.int (Int32.ofNat len)), .val (.int (Int32.ofNat len)), z'] [])) := by
    intro r
    induction r with
    | zero =>
      intro i hi z hz Tl Bk Xl pl fl cl
      have hil : i = len := by omega
      rw [hil] at Xl fl cl
      exact ⟨Tl, Bk, z, Xl, pl, fl, cl⟩
    | succ r ih =>
      intro i hi z hz Tl Bk Xl pl fl cl
      have all := X0.warmed.alike.symm.trans Xl.warmed.alike
      have hAl := hA0.keep all (pl.other hne hA0.1)
      have hBk := hB0.like all pl.1 fl.1 fl.2.1 fl.2.2.1
      have hlt : q + i < Bk.slots.size := by rw [fl.2.2.1]; omega
      have c3 : Steps p.tables e below (s₁.setTop (entryFrame m #[.ref b, .int (Int32.ofNat o), .ref d, .int (Int32.ofNat q), .int (Int32.ofNat len)] 7)) (Tl.setTop (mkF m 12 #[.val (.ref b), .val (.int (Int32.ofNat (o + i))), .val (.ref d), .val (.int (Int32.ofNat (q + i))), .val (.int (Int32.ofNat len)), .val (.int (Int32.ofNat i)), z] [.int (Int32.ofNat (o + i)), .ref b])) := cl.trans (by
        refine XS.iload Xl.here hexec rfl (hb hbytes d3) rfl ?_
        refine XS.iload Xl.here hexec rfl (hb hbytes d5) rfl ?_
        refine XS.icmpNo Xl.here hexec rfl (hb hbytes d7) rfl (ii_ge_f (lt32 (by omega) (by omega))) ?_
        refine XS.aloadN Xl.here hexec rfl (hb hbytes d10) rfl rfl ?_
        refine XS.iloadN Xl.here hexec rfl (hb hbytes d11) rfl ?_
        exact Steps.refl _)
      have c4 : Steps p.tables e below (s₁.setTop (entryFrame m #[.ref b, .int (Int32.ofNat o), .ref d, .int (Int32.ofNat q), .int (Int32.ofNat len)] 7)) (Tl.setTop (mkF m 13 #[.val (.ref b), .val (.int (Int32.ofNat (o + i))), .val (.ref d), .val (.int (Int32.ofNat (q + i))), .val (.int (Int32.ofNat len)), .val (.int (Int32.ofNat i)), z] [.int (cv A (o + i))])) := c3.trans (by
        refine Xl.aget hexec hAl rfl (hA.get (i := o + i) (by omega)) rfl rfl (hb hbytes d12) ?_
        exact Steps.refl _)
      have c5 : Steps p.tables e below (s₁.setTop (entryFrame m #[.ref b, .int (Int32.ofNat o), .ref d, .int (Int32.ofNat q), .int (Int32.ofNat len)] 7)) (Tl.setTop (mkF m 15 #[.val (.ref b), .val (.int (Int32.ofNat (o + i))), .val (.ref d), .val (.int (Int32.ofNat (q + i))), .val (.int (Int32.ofNat len)), .val (.int (Int32.ofNat i)), .val (.int (cv A (o + i)))] [])) := c4.trans (by
        refine XS.istoreS Xl.here hexec rfl (hb hbytes d13) rfl rfl hz ?_
        exact Steps.refl _)
      have c6 : Steps p.tables e below (s₁.setTop (entryFrame m #[.ref b, .int (Int32.ofNat o), .ref d, .int (Int32.ofNat q), .int (Int32.ofNat len)] 7)) (Tl.setTop (mkF m 31 #[.val (.ref b), .val (.int (Int32.ofNat (o + i))), .val (.ref d), .val (.int (Int32.ofNat (q + i))), .val (.int (Int32.ofNat len)), .val (.int (Int32.ofNat i)), .val (.int (cv A (o + i)))] [.int (lo8 (cv A (o + i))), .int (Int32.ofNat (q + i)), .ref d])) := c5.trans (by
        refine XS.iload Xl.here hexec rfl (hb hbytes d15) rfl ?_
        refine sipushV Xl.here hexec rfl 255 (hb hbytes d17) (by decide) ?_
        refine XS.icmpYes Xl.here hexec rfl (pc0 := 20) rfl (hb hbytes d20) rfl (ii_le_t (hp i (by omega))) (by decide) rfl ?_
        refine XS.aloadN Xl.here hexec rfl (hb hbytes d26) rfl rfl ?_
        refine XS.iloadN Xl.here hexec rfl (hb hbytes d27) rfl ?_
        refine XS.iload Xl.here hexec rfl (hb hbytes d28) rfl ?_
        refine i2b Xl.here hexec rfl (hb hbytes d30) rfl ?_
        exact Steps.refl _)
      obtain ⟨T7, X7, p7, st7⟩ := Xl.aput hexec hBk rfl hlt rfl (fits_lo8 (cv A (o + i))) (g := (mkF m 31 #[.val (.ref b), .val (.int (Int32.ofNat (o + i))), .val (.ref d), .val (.int (Int32.ofNat (q + i))), .val (.int (Int32.ofNat len)), .val (.int (Int32.ofNat i)), .val (.int (cv A (o + i)))] [.int (lo8 (cv A (o + i))), .int (Int32.ofNat (q + i)), .ref d])) rfl (rest := []) rfl (hb hbytes d31)
      have c8 : Steps p.tables e below (s₁.setTop (entryFrame m #[.ref b, .int (Int32.ofNat o), .ref d, .int (Int32.ofNat q), .int (Int32.ofNat len)] 7)) (T7.setTop (mkF m 32 #[.val (.ref b), .val (.int (Int32.ofNat (o + i))), .val (.ref d), .val (.int (Int32.ofNat (q + i))), .val (.int (Int32.ofNat len)), .val (.int (Int32.ofNat i)), .val (.int (cv A (o + i)))] [])) := c6.trans (st7 _ (Steps.refl _))
      have c9 : Steps p.tables e below (s₁.setTop (entryFrame m #[.ref b, .int (Int32.ofNat o), .ref d, .int (Int32.ofNat q), .int (Int32.ofNat len)] 7)) (T7.setTop (mkF m 3 #[.val (.ref b), .val (.int (Int32.ofNat (o + i) + 1)), .val (.ref d), .val (.int (Int32.ofNat (q + i) + 1)), .val (.int (Int32.ofNat len)), .val (.int (Int32.ofNat i + 1)), .val (.int (cv A (o + i)))] [])) := c8.trans (by
        refine iincV X7.here hexec rfl 1 (hb hbytes d32) (by decide) rfl rfl ?_
        refine iincV X7.here hexec rfl 1 (hb hbytes d35) (by decide) rfl rfl ?_
        refine iincV X7.here hexec rfl 1 (hb hbytes d38) (by decide) rfl rfl ?_
        refine XS.goto X7.here hexec rfl (pc0 := 41) rfl (hb hbytes d41) (by decide) rfl ?_
        exact Steps.refl _)
      have c10 : Steps p.tables e below (s₁.setTop (entryFrame m #[.ref b, .int (Int32.ofNat o), .ref d, .int (Int32.ofNat q), .int (Int32.ofNat len)] 7)) (T7.setTop (mkF m 3 #[.val (.ref b), .val (.int (Int32.ofNat (o + (i + 1)))), .val (.ref d), .val (.int (Int32.ofNat (q + (i + 1)))), .val (.int (Int32.ofNat len)), .val (.int (Int32.ofNat (i + 1))), .val (.int (cv A (o + i)))] [])) := by
        have := c9
        rw [succ32, succ32, succ32] at this
        exact this
      exact ih (i + 1) (by omega) _ (Or.inr ⟨_, rfl, rfl⟩) T7 _ (by rw [copyLocs_step, ← List.append_assoc]; exact X7) (pl.trans p7) (fl.step (by omega) hlt (by simp)) c10
  obtain ⟨T9, B9, z9, X9, p9, f9, g9⟩ := loop len 0 (by omega) .unset (Or.inl rfl) s₁ B (by simpa [copyLocs] using X0) ⟨hB0.1, fun _ _ => rfl, rfl⟩ (Laid.zero _ _ _) c2
  have c11 : Steps p.tables e below (s₁.setTop (entryFrame m #[.ref b, .int (Int32.ofNat o), .ref d, .int (Int32.ofNat q), .int (Int32.ofNat len)] 7)) (T9.setTop (mkF m 46 #[.val (.ref b), .val (.int (Int32.ofNat (o + len))), .val (.ref d), .val (.int (Int32.ofNat (q + len))), .val (.int (Int32.ofNat len)), .val (.int (Int32.ofNat len)), z9] [.int (Int32.ofNat len)])) := g9.trans (by
    refine XS.iload X9.here hexec rfl (hb hbytes d3) rfl ?_
    refine XS.iload X9.here hexec rfl (hb hbytes d5) rfl ?_
    refine XS.icmpYes X9.here hexec rfl (pc0 := 7) rfl (hb hbytes d7) rfl (ii_ge_t (nlt32 (by omega) (Nat.le_refl _))) (by decide) rfl ?_
    refine XS.iload X9.here hexec rfl (hb hbytes d44) rfl ?_
    exact Steps.refl _)
  exact ⟨T9, some (.int (Int32.ofNat len)), _, _, _, X9, by simp, rfl, rfl, (fun h => by cases h), ⟨rfl, B9, p9.from hh0, f9⟩, fun fs hl => c11.trans (X9.ireturnOut hexec hret rfl (Or.inl rfl) (hb hbytes d46) hl)⟩
end Cmp5
namespace Cmp3
def yN : MethodName := ⟨"java/lang/StringUTF16", "compress", "([CII)[B"⟩
abbrev yB : ByteArray := jdk_52_method_16_code
theorem d0 : decode yB 0 = .ok (.iload_n 2, 1) := by decide +kernel
theorem d1 : decode yB 1 = .ok (.newarray .byte, 2) := by decide +kernel
theorem d3 : decode yB 3 = .ok (.astore_n 3, 1) := by decide +kernel
theorem d4 : decode yB 4 = .ok (.aload_n 0, 1) := by decide +kernel
theorem d5 : decode yB 5 = .ok (.iload_n 1, 1) := by decide +kernel
theorem d6 : decode yB 6 = .ok (.aload_n 3, 1) := by decide +kernel
theorem d7 : decode yB 7 = .ok (.iconst 0, 1) := by decide +kernel
theorem d8 : decode yB 8 = .ok (.iload_n 2, 1) := by decide +kernel
theorem d9 : decode yB 9 = .ok (.invokestatic 115, 3) := by decide +kernel
theorem d12 : decode yB 12 = .ok (.istore 4, 2) := by decide +kernel
theorem d14 : decode yB 14 = .ok (.iload 4, 2) := by decide +kernel
theorem d16 : decode yB 16 = .ok (.iload_n 2, 1) := by decide +kernel
theorem d17 : decode yB 17 = .ok (.if_icmp (.eq) 40, 3) := by decide +kernel
theorem d57 : decode yB 57 = .ok (.aload_n 3, 1) := by decide +kernel
theorem d58 : decode yB 58 = .ok (.areturn, 1) := by decide +kernel
def site : List Cond := [.arrayClass .byte, Cmp5.tab] ++ staticW U16 115 Cmp5.yN
def tab : Cond := tabOf yN yB 6 (some (.array .byte)) site
def P (b : Addr) (A : Cell) (o len : Nat) (args : Array Value) (s : State) : Prop := args = #[.ref b, .int (Int32.ofNat o), .int (Int32.ofNat len)] ∧ Ch b A s ∧ o + len ≤ A.slots.size ∧ len ≤ 536870912 ∧ ∀ i, i < len → ¬ 255 < cv A (o + i)
def E (b : Addr) (A : Cell) (o len : Nat) (r : Option Value) (s u : State) : Prop := NewArr .byte "[B" len (fun j => .int (lo8 (cv A (o + j)))) r s u ∧ u.heap.size = s.heap.size + 1
/-- no char of the range above 255: a new byte[] of their low bytes -/
theorem law (l : Launch) (b : Addr) (A : Cell) (o len : Nat) : Law l yN 3 3 1 18 yB 6 (some (.array .byte)) site (P b A o len) (E b A o len) [] 1 len := by
  refine Law.of_walk (plainFor_of_name (by decide +kernel)) (by decide +kernel) (by decide +kernel) (by decide) (fun _ _ h => by rw [h.1]; rfl) (fun _ U U' hal hh h => ⟨h.1, h.2.1.mv hal hh, h.2.2⟩) (fun r U U' V V' h1 hal h2 h => ⟨NewArr.mv r U U' V V' h1 hal h2 h.1, by rw [h1, h2]; exact h.2⟩) ?_
  intro p e s m args below meth c s₁ X0 hexec hbytes hml hret hlk hnm hown hh0 W hP
  obtain ⟨rfl, hA, l1, l2, hp⟩ := hP
  have a31 := hA.1.2.2.2
  have c1 : Steps p.tables e below (s₁.setTop (entryFrame m #[.ref b, .int (Int32.ofNat o), .int (Int32.ofNat len)] 6)) (s₁.setTop (mkF m 0 #[.val (.ref b), .val (.int (Int32.ofNat o)), .val (.int (Int32.ofNat len)), .unset, .unset, .unset] [])) := entry rfl
  have c2 : Steps p.tables e below (s₁.setTop (entryFrame m #[.ref b, .int (Int32.ofNat o), .int (Int32.ofNat len)] 6)) (s₁.setTop (mkF m 1 #[.val (.ref b), .val (.int (Int32.ofNat o)), .val (.int (Int32.ofNat len)), .unset, .unset, .unset] [.int (Int32.ofNat len)])) := c1.trans (by
    refine XS.iloadN X0.here hexec rfl (hb hbytes d0) rfl ?_
    exact Steps.refl _)
  obtain ⟨T3, B3, X3, ba3, bs3, bv3, bh3, bf3, st3⟩ := X0.anew hexec (atype := .byte) (wk W (.arrayClass .byte)) rfl (by show len * 1 ≤ _; omega) (by omega) (g := (mkF m 1 #[.val (.ref b), .val (.int (Int32.ofNat o)), .val (.int (Int32.ofNat len)), .unset, .unset, .unset] [.int (Int32.ofNat len)])) rfl (hb hbytes d1) (rest := []) rfl (Nat.le_refl _) (by show 0 + len ≤ len; omega)
  rw [hh0] at ba3 st3
  have kp3 : XT.Kept s T3 := (XT.Kept.of_eq hh0).push bh3
  have hA3 := hA.keep X3.warmed.alike (kp3 _ _ hA.1.1)
  have hne : b ≠ s.heap.size := hA.1.ne
  have c4 : Steps p.tables e below (s₁.setTop (entryFrame m #[.ref b, .int (Int32.ofNat o), .int (Int32.ofNat len)] 6)) (T3.setTop (mkF m 3 #[.val (.ref b), .val (.int (Int32.ofNat o)), .val (.int (Int32.ofNat len)), .unset, .unset, .unset] [.ref s.heap.size])) := c2.trans (st3 _ (Steps.refl _))
  have c5 : Steps p.tables e below (s₁.setTop (entryFrame m #[.ref b, .int (Int32.ofNat o), .int (Int32.ofNat len)] 6)) (T3.setTop (mkF m 9 #[.val (.ref b), .val (.int (Int32.ofNat o)), .val (.int (Int32.ofNat len)), .val (.ref s.heap.size), .unset, .unset] [.int (Int32.ofNat len), .int 0, .ref s.heap.size, .int (Int32.ofNat o), .ref b])) := c4.trans (by
    refine XS.astoreN X3.here hexec rfl (hb hbytes d3) rfl rfl rfl ?_
    refine XS.aloadN X3.here hexec rfl (hb hbytes d4) rfl rfl ?_
    refine XS.iloadN X3.here hexec rfl (hb hbytes d5) rfl ?_
    refine XS.aloadN X3.here hexec rfl (hb hbytes d6) rfl rfl ?_
    refine iconstV X3.here hexec rfl 0 (hb hbytes d7) (by decide) ?_
    refine XS.iloadN X3.here hexec rfl (hb hbytes d8) rfl ?_
    exact Steps.refl _)
  obtain ⟨v6, T6, X6, E6, g6⟩ := X3.callS hexec (Cmp5.law l b A s.heap.size B3 o 0 len) hown (wks W (staticW U16 115 Cmp5.yN)) (wk W Cmp5.tab) (W := 0) (Nat.le_of_ble_eq_true rfl) (Nat.le_of_ble_eq_true rfl) (Nat.le_refl _) (by show 0 + len + 0 ≤ len; omega) (g := (mkF m 9 #[.val (.ref b), .val (.int (Int32.ofNat o)), .val (.int (Int32.ofNat len)), .val (.ref s.heap.size), .unset, .unset] [.int (Int32.ofNat len), .int (Int32.ofNat 0), .ref s.heap.size, .int (Int32.ofNat o), .ref b])) rfl (by rw [hml]; rfl) c5 (argsL := [.ref b, .int (Int32.ofNat o), .ref s.heap.size, .int (Int32.ofNat 0), .int (Int32.ofNat len)]) (rest := []) rfl rfl (by show 2 * 0 + 0 ≤ _; decide) (hb hbytes d9) (⟨rfl, hA3, ba3, hne, l1, by rw [bs3]; simp, hp⟩)
  obtain ⟨rfl, B6, p6, f6⟩ := E6
  have c7 : Steps p.tables e below (s₁.setTop (entryFrame m #[.ref b, .int (Int32.ofNat o), .int (Int32.ofNat len)] 6)) (T6.setTop (mkF m 12 #[.val (.ref b), .val (.int (Int32.ofNat o)), .val (.int (Int32.ofNat len)), .val (.ref s.heap.size), .unset, .unset] [.int (Int32.ofNat len)])) := g6
  have c8 : Steps p.tables e below (s₁.setTop (entryFrame m #[.ref b, .int (Int32.ofNat o), .int (Int32.ofNat len)] 6)) (T6.setTop (mkF m 58 #[.val (.ref b), .val (.int (Int32.ofNat o)), .val (.int (Int32.ofNat len)), .val (.ref s.heap.size), .val (.int (Int32.ofNat len)), .unset] [.ref s.heap.size])) := c7.trans (by
    refine XS.istore X6.here hexec rfl (hb hbytes d12) rfl rfl ?_
    refine XS.iload X6.here hexec rfl (hb hbytes d14) rfl ?_
    refine XS.iloadN X6.here hexec rfl (hb hbytes d16) rfl ?_
    refine XS.icmpYes X6.here hexec rfl (pc0 := 17) rfl (hb hbytes d17) rfl (ii_eq_t rfl) (by decide) rfl ?_
    refine XS.aloadN X6.here hexec rfl (hb hbytes d57) rfl rfl ?_
    exact Steps.refl _)
  have X8 := X6.wide (L' := []) (cells' := 1) (slots' := len) (fun x hx hlt => by
    simp only [List.nil_append, copyLocs, List.mem_map, List.mem_range] at hx
    obtain ⟨i, -, rfl⟩ := hx
    exact absurd hlt (Nat.lt_irrefl _)) (Nat.le_refl _) (by omega)
  exact ⟨T6, some (.ref s.heap.size), _, _, _, X8, rfl, rfl, rfl, (fun h => by cases h), ⟨⟨rfl, B6, ba3.like (X3.warmed.alike.symm.trans X6.warmed.alike) p6.1 f6.1 f6.2.1 f6.2.2.1, f6.2.1.trans bv3, by rw [X6.warmed.alike.findClass, f6.1]; exact bf3, by rw [f6.2.2.1, bs3]; simp, fun j hj => by rw [f6.2.2.2 j, if_pos (by omega)]; rfl, kp3.put p6 (Nat.le_refl _)⟩, by rw [p6.2.2, bh3, hh0]; simp⟩, fun fs hl => c8.trans (X8.areturnOut hexec rfl hret rfl (hb hbytes d58) hl)⟩
end Cmp3
namespace CodL
def yN : MethodName := ⟨"java/lang/StringUTF16", "coderFromArrayLen", "([BI)B"⟩
abbrev yB : ByteArray := jdk_52_method_15_code
theorem d0 : decode yB 0 = .ok (.iload_n 1, 1) := by decide +kernel
theorem d1 : decode yB 1 = .ok (.aload_n 0, 1) := by decide +kernel
theorem d2 : decode yB 2 = .ok (.arraylength, 1) := by decide +kernel
theorem d3 : decode yB 3 = .ok (.isub, 1) := by decide +kernel
theorem d4 : decode yB 4 = .ok (.bipush 31, 2) := by decide +kernel
theorem d6 : decode yB 6 = .ok (.iushr, 1) := by decide +kernel
theorem d7 : decode yB 7 = .ok (.i2b, 1) := by decide +kernel
theorem d8 : decode yB 8 = .ok (.ireturn, 1) := by decide +kernel
def site : List Cond := []
def tab : Cond := tabOf yN yB 2 (some .byte) site
def P (d : Addr) (B : Cell) (args : Array Value) (s : State) : Prop := args = #[.ref d, .int (Int32.ofNat B.slots.size)] ∧ Arr .byte d B s
def E (r : Option Value) (s u : State) : Prop := XT.PureE (some (.int 0)) r s u
/-- an array as long as the number of chars: LATIN1 -/
theorem law (l : Launch) (d : Addr) (B : Cell) : Law l yN 2 2 0 0 yB 2 (some .byte) site (P d B) E [] 0 0 := by
  refine Law.of_walk (plainFor_of_name (by decide +kernel)) (by decide +kernel) (by decide +kernel) (by decide) (fun _ _ h => by rw [h.1]; rfl) (fun _ U U' hal hh h => ⟨h.1, h.2.mv hal hh⟩) (fun r U U' V V' h1 hal h2 h => XT.PureE.mv r U U' V V' h1 hal h2 h) ?_
  intro p e s m args below meth c s₁ X0 hexec hbytes hml hret hlk hnm hown hh0 W hP
  obtain ⟨rfl, hB⟩ := hP
  have hB0 := hB.mv X0.warmed.alike hh0
  have c1 : Steps p.tables e below (s₁.setTop (entryFrame m #[.ref d, .int (Int32.ofNat B.slots.size)] 2)) (s₁.setTop (mkF m 0 #[.val (.ref d), .val (.int (Int32.ofNat B.slots.size))] [])) := entry rfl
  have c2 : Steps p.tables e below (s₁.setTop (entryFrame m #[.ref d, .int (Int32.ofNat B.slots.size)] 2)) (s₁.setTop (mkF m 2 #[.val (.ref d), .val (.int (Int32.ofNat B.slots.size))] [.ref d, .int (Int32.ofNat B.slots.size)])) := c1.trans (by
    refine XS.iloadN X0.here hexec rfl (hb hbytes d0) rfl ?_
    refine XS.aloadN X0.here hexec rfl (hb hbytes d1) rfl rfl ?_
    exact Steps.refl _)
  have c3 : Steps p.tables e below (s₁.setTop (entryFrame m #[.ref d, .int (Int32.ofNat B.slots.size)] 2)) (s₁.setTop (mkF m 8 #[.val (.ref d), .val (.int (Int32.ofNat B.slots.size))] [.int (lo8 (ushr (Int32.ofNat B.slots.size - Int32.ofNat B.slots.size) 31))])) := c2.trans (by
    refine X0.alen hexec hB0 rfl rfl (hb hbytes d2) ?_
    refine XS.isub X0.here hexec rfl (hb hbytes d3) rfl ?_
    refine bipushV X0.here hexec rfl 31 (hb hbytes d4) (by decide) ?_
    refine iushr X0.here hexec rfl (hb hbytes d6) rfl ?_
    refine i2b X0.here hexec rfl (hb hbytes d7) rfl ?_
    exact Steps.refl _)
  have e0 : lo8 (ushr (Int32.ofNat B.slots.size - Int32.ofNat B.slots.size) 31) = 0 := by rw [Int32.sub_self]; decide
  rw [e0] at c3
  exact ⟨s₁, some (.int 0), _, _, _, X0, rfl, rfl, rfl, (fun h => by cases h), ⟨rfl, hh0⟩, fun fs hl => c3.trans (X0.ireturnOut hexec hret rfl (Or.inr (Or.inr (Or.inl rfl))) (hb hbytes d8) hl)⟩
end CodL
/-- the String at a is Latin-1 over a new byte[] (the heap's one new cell): the low bytes of the len chars of A from o on; every cell but a is kept -/
def Got (a : Addr) (D : Cell) (fV fC : Field) (A : Cell) (o len : Nat) (r : Option Value) (s u : State) : Prop := r = none ∧ ∃ D' V : Cell, Blank "java/lang/String" a D' u ∧ Same D D' [fV.slot, fC.slot] ∧ D'.slots[fV.slot]? = some (.ref s.heap.size) ∧ D'.slots[fC.slot]? = some (.int 0) ∧ Arr .byte s.heap.size V u ∧ V.vm = .none ∧ u.vm.findClass "[B" = some V.cls ∧ V.slots.size = len ∧ (∀ j, j < len → V.slots[j]? = some (.int (lo8 (cv A (o + j))))) ∧ (∀ (y : Addr) (c : Cell), y ≠ a → s.heap[y]? = some c → u.heap[y]? = some c) ∧ u.heap.size = s.heap.size + 1
theorem Got.mv {a : Addr} {D A : Cell} {fV fC : Field} {o len : Nat} : ∀ r (U U' V V' : State), U'.heap = U.heap → V.vm.Alike V'.vm → V'.heap = V.heap → Got a D fV fC A o len r U V → Got a D fV fC A o len r U' V' :=
  fun r U U' V V' h1 hal h2 ⟨e0, D', X, a1, a2, a3, a4, a5, a6, a7, a8, a9, a10, a11⟩ => ⟨e0, D', X, a1.mv hal h2, a2, by rw [h1]; exact a3, a4, by rw [h1]; exact a5.mv hal h2, a6, by rw [hal.findClass]; exact a7, a8, a9, by rw [h1, h2]; exact a10, by rw [h1, h2]; exact a11⟩
namespace New4
def yN : MethodName := ⟨"java/lang/String", "<init>", "([CIILjava/lang/Void;)V"⟩
abbrev yB : ByteArray := jdk_42_method_149_code
theorem d0 : decode yB 0 = .ok (.aload_n 0, 1) := by decide +kernel
theorem d1 : decode yB 1 = .ok (.invokespecial 1, 3) := by decide +kernel
theorem d4 : decode yB 4 = .ok (.iload_n 3, 1) := by decide +kernel
theorem d5 : decode yB 5 = .ok (.ifCond (.ne) 22, 3) := by decide +kernel
theorem d27 : decode yB 27 = .ok (.getstatic 38, 3) := by decide +kernel
theorem d30 : decode yB 30 = .ok (.ifCond (.eq) 28, 3) := by decide +kernel
theorem d33 : decode yB 33 = .ok (.aload_n 1, 1) := by decide +kernel
theorem d34 : decode yB 34 = .ok (.iload_n 2, 1) := by decide +kernel
theorem d35 : decode yB 35 = .ok (.iload_n 3, 1) := by decide +kernel
theorem d36 : decode yB 36 = .ok (.invokestatic 177, 3) := by decide +kernel
theorem d39 : decode yB 39 = .ok (.astore 5, 2) := by decide +kernel
theorem d41 : decode yB 41 = .ok (.aload_n 0, 1) := by decide +kernel
theorem d42 : decode yB 42 = .ok (.aload 5, 2) := by decide +kernel
theorem d44 : decode yB 44 = .ok (.iload_n 3, 1) := by decide +kernel
theorem d45 : decode yB 45 = .ok (.invokestatic 47, 3) := by decide +kernel
theorem d48 : decode yB 48 = .ok (.putfield 15, 3) := by decide +kernel
theorem d51 : decode yB 51 = .ok (.aload_n 0, 1) := by decide +kernel
theorem d52 : decode yB 52 = .ok (.aload 5, 2) := by decide +kernel
theorem d54 : decode yB 54 = .ok (.putfield 9, 3) := by decide +kernel
theorem d57 : decode yB 57 = .ok (.return_, 1) := by decide +kernel
def site : List Cond := [.fieldLink "java/lang/String" 38 "java/lang/String" "COMPACT_STRINGS" "Z", Cmp3.tab, CodL.tab, .laysFinal "java/lang/String" "java/lang/String" "value" "[B", .fieldLink "java/lang/String" 9 "java/lang/String" "value" "[B", .laysFinal "java/lang/String" "java/lang/String" "coder" "B", .fieldLink "java/lang/String" 15 "java/lang/String" "coder" "B"] ++ objW "java/lang/String" 1 ++ staticW "java/lang/String" 177 Cmp3.yN ++ staticW "java/lang/String" 47 CodL.yN
def tab : Cond := tabOf yN yB 6 none site
def P (a : Addr) (D : Cell) (fV fC : Field) (b : Addr) (A : Cell) (z : Int32) (o len : Nat) (args : Array Value) (s : State) : Prop := args = #[.ref a, .ref b, .int (Int32.ofNat o), .int (Int32.ofNat len), .null] ∧ Blank "java/lang/String" a D s ∧ Found "java/lang/String" "value" "[B" fV s ∧ Found "java/lang/String" "coder" "B" fC s ∧ Ch b A s ∧ StaticIs s "java/lang/String" "COMPACT_STRINGS" "Z" (.int z) ∧ ¬ z = 0 ∧ 0 < len ∧ o + len ≤ A.slots.size ∧ len ≤ 536870912 ∧ ∀ i, i < len → ¬ 255 < cv A (o + i)
def E (a : Addr) (D : Cell) (fV fC : Field) (A : Cell) (o len : Nat) (r : Option Value) (s u : State) : Prop := Got a D fV fC A o len r s u
/-- len > 0, no char of the range above 255: a Latin-1 String of their low bytes -/
theorem law (l : Launch) (a : Addr) (D : Cell) (fV fC : Field) (b : Addr) (A : Cell) (z : Int32) (o len : Nat) : Law l yN 5 4 2 35 yB 6 none site (P a D fV fC b A z o len) (E a D fV fC A o len) [⟨a, fC.slot⟩, ⟨a, fV.slot⟩] 1 len := by
  refine Law.of_walk (plainFor_of_name (by decide +kernel)) (by decide +kernel) (by decide +kernel) (by decide) (fun _ _ h => by rw [h.1]; rfl) (fun _ U U' hal hh h => ⟨h.1, h.2.1.mv hal hh, h.2.2.1.al hal, h.2.2.2.1.al hal, h.2.2.2.2.1.mv hal hh, h.2.2.2.2.2.1.there hal hh, h.2.2.2.2.2.2⟩) (fun r U U' V V' h1 hal h2 h => Got.mv r U U' V V' h1 hal h2 h) ?_
  intro p e s m args below meth c s₁ X0 hexec hbytes hml hret hlk hnm hown hh0 W hP
  obtain ⟨rfl, hB, f1, f2, hA, s1, hz, l0, l1, l2, hp⟩ := hP
  have a31 := hA.1.2.2.2
  have c1 : Steps p.tables e below (s₁.setTop (entryFrame m #[.ref a, .ref b, .int (Int32.ofNat o), .int (Int32.ofNat len), .null] 6)) (s₁.setTop (mkF m 0 #[.val (.ref a), .val (.ref b), .val (.int (Int32.ofNat o)), .val (.int (Int32.ofNat len)), .val .null, .unset] [])) := entry rfl
  have c2 : Steps p.tables e below (s₁.setTop (entryFrame m #[.ref a, .ref b, .int (Int32.ofNat o), .int (Int32.ofNat len), .null] 6)) (s₁.setTop (mkF m 1 #[.val (.ref a), .val (.ref b), .val (.int (Int32.ofNat o)), .val (.int (Int32.ofNat len)), .val .null, .unset] [.ref a])) := c1.trans (by
    refine XS.aloadN X0.here hexec rfl (hb hbytes d0) rfl rfl ?_
    exact Steps.refl _)
  obtain ⟨T3, X3, q3, st3⟩ := X0.oinit hexec hown (wks W (objW "java/lang/String" 1)) (g := (mkF m 1 #[.val (.ref a), .val (.ref b), .val (.int (Int32.ofNat o)), .val (.int (Int32.ofNat len)), .val .null, .unset] [.ref a])) rfl (by rw [hml]; rfl) (rest := []) rfl (hb hbytes d1) (W := 0) (by show 2 * 0 + 0 ≤ _; decide) (Nat.le_of_ble_eq_true rfl) (Nat.le_of_ble_eq_true rfl)
  have hh3 := q3.trans hh0
  have c4 : Steps p.tables e below (s₁.setTop (entryFrame m #[.ref a, .ref b, .int (Int32.ofNat o), .int (Int32.ofNat len), .null] 6)) (T3.setTop (mkF m 27 #[.val (.ref a), .val (.ref b), .val (.int (Int32.ofNat o)), .val (.int (Int32.ofNat len)), .val .null, .unset] [])) := (c2.trans (st3 _ (Steps.refl _))).trans (by
    refine XS.iloadN X3.here hexec rfl (hb hbytes d4) rfl ?_
    refine XS.ifYes X3.here hexec rfl (pc0 := 5) rfl (hb hbytes d5) rfl (i0_ne_t (nz32 (by omega) l0)) (by decide) rfl ?_
    exact Steps.refl _)
  obtain ⟨T5, X5, q5, st5⟩ := X3.sget hexec hown (wk W (.fieldLink "java/lang/String" 38 "java/lang/String" "COMPACT_STRINGS" "Z")) s1 (fun _ _ h => by rw [hh3]; exact h) (g := (mkF m 27 #[.val (.ref a), .val (.ref b), .val (.int (Int32.ofNat o)), .val (.int (Int32.ofNat len)), .val .null, .unset] [])) rfl (hb hbytes d27)
  have hh5 := q5.trans hh3
  have c6 : Steps p.tables e below (s₁.setTop (entryFrame m #[.ref a, .ref b, .int (Int32.ofNat o), .int (Int32.ofNat len), .null] 6)) (T5.setTop (mkF m 30 #[.val (.ref a), .val (.ref b), .val (.int (Int32.ofNat o)), .val (.int (Int32.ofNat len)), .val .null, .unset] [.int z])) := c4.trans (st5 _ (Steps.refl _))
  have c7 : Steps p.tables e below (s₁.setTop (entryFrame m #[.ref a, .ref b, .int (Int32.ofNat o), .int (Int32.ofNat len), .null] 6)) (T5.setTop (mkF m 36 #[.val (.ref a), .val (.ref b), .val (.int (Int32.ofNat o)), .val (.int (Int32.ofNat len)), .val .null, .unset] [.int (Int32.ofNat len), .int (Int32.ofNat o), .ref b])) := c6.trans (by
    refine XS.ifNo X5.here hexec rfl (hb hbytes d30) rfl (i0_eq_f hz) ?_
    refine XS.aloadN X5.here hexec rfl (hb hbytes d33) rfl rfl ?_
    refine XS.iloadN X5.here hexec rfl (hb hbytes d34) rfl ?_
    refine XS.iloadN X5.here hexec rfl (hb hbytes d35) rfl ?_
    exact Steps.refl _)
  obtain ⟨v8, T8, X8, E8, g8⟩ := X5.callS hexec (Cmp3.law l b A o len) hown (wks W (staticW "java/lang/String" 177 Cmp3.yN)) (wk W Cmp3.tab) (W := 0) (Nat.le_of_ble_eq_true rfl) (Nat.le_of_ble_eq_true rfl) (Nat.le_refl _) (by show 0 + len ≤ len; omega) (g := (mkF m 36 #[.val (.ref a), .val (.ref b), .val (.int (Int32.ofNat o)), .val (.int (Int32.ofNat len)), .val .null, .unset] [.int (Int32.ofNat len), .int (Int32.ofNat o), .ref b])) rfl (by rw [hml]; rfl) c7 (argsL := [.ref b, .int (Int32.ofNat o), .int (Int32.ofNat len)]) (rest := []) rfl rfl (by show 2 * 0 + 0 ≤ _; decide) (hb hbytes d36) (⟨rfl, hA.mv X5.warmed.alike hh5, l1, l2, hp⟩)
  obtain ⟨e8, z8⟩ := E8
  obtain ⟨rfl, N, n1, n2, n3, n4, n5, n6⟩ := NewArr.mv _ T5 s _ _ hh5.symm (Vm.Alike.refl _) rfl e8
  rw [hh5] at z8
  have hB1 := hB.keep X8.warmed.alike (n6 _ _ hB.1)
  have hne : s.heap.size ≠ a := (Nat.ne_of_lt (Array.getElem?_eq_some_iff.mp hB.1).1).symm
  have c9 : Steps p.tables e below (s₁.setTop (entryFrame m #[.ref a, .ref b, .int (Int32.ofNat o), .int (Int32.ofNat len), .null] 6)) (T8.setTop (mkF m 39 #[.val (.ref a), .val (.ref b), .val (.int (Int32.ofNat o)), .val (.int (Int32.ofNat len)), .val .null, .unset] [.ref s.heap.size])) := g8
  have c10 : Steps p.tables e below (s₁.setTop (entryFrame m #[.ref a, .ref b, .int (Int32.ofNat o), .int (Int32.ofNat len), .null] 6)) (T8.setTop (mkF m 45 #[.val (.ref a), .val (.ref b), .val (.int (Int32.ofNat o)), .val (.int (Int32.ofNat len)), .val .null, .val (.ref s.heap.size)] [.int (Int32.ofNat N.slots.size), .ref s.heap.size, .ref a])) := by
    have hc : Steps p.tables e below (s₁.setTop (entryFrame m #[.ref a, .ref b, .int (Int32.ofNat o), .int (Int32.ofNat len), .null] 6)) (T8.setTop (mkF m 45 #[.val (.ref a), .val (.ref b), .val (.int (Int32.ofNat o)), .val (.int (Int32.ofNat len)), .val .null, .val (.ref s.heap.size)] [.int (Int32.ofNat len), .ref s.heap.size, .ref a])) := c9.trans (by
      refine XS.astore X8.here hexec rfl (hb hbytes d39) rfl rfl rfl ?_
      refine XS.aloadN X8.here hexec rfl (hb hbytes d41) rfl rfl ?_
      refine XS.aload X8.here hexec rfl (hb hbytes d42) rfl rfl ?_
      refine XS.iloadN X8.here hexec rfl (hb hbytes d44) rfl ?_
      exact Steps.refl _)
    rw [n4]; exact hc
  obtain ⟨v11, T11, X11, E11, g11⟩ := X8.callS hexec (CodL.law l s.heap.size N) hown (wks W (staticW "java/lang/String" 47 CodL.yN)) (wk W CodL.tab) (W := 1) (Nat.le_of_ble_eq_true rfl) (Nat.le_of_ble_eq_true rfl) (Nat.le_refl _) (by show 0 + len + 0 ≤ len; omega) (g := (mkF m 45 #[.val (.ref a), .val (.ref b), .val (.int (Int32.ofNat o)), .val (.int (Int32.ofNat len)), .val .null, .val (.ref s.heap.size)] [.int (Int32.ofNat N.slots.size), .ref s.heap.size, .ref a])) rfl (by rw [hml]; rfl) c10 (argsL := [.ref s.heap.size, .int (Int32.ofNat N.slots.size)]) (rest := [.ref a]) rfl rfl (by show 2 * 0 + (1 + 0) ≤ _; decide) (hb hbytes d45) (⟨rfl, n1⟩)
  obtain ⟨rfl, q11⟩ := E11
  have hB11 := hB1.mv (X8.warmed.alike.symm.trans X11.warmed.alike) q11
  have c12 : Steps p.tables e below (s₁.setTop (entryFrame m #[.ref a, .ref b, .int (Int32.ofNat o), .int (Int32.ofNat len), .null] 6)) (T11.setTop (mkF m 48 #[.val (.ref a), .val (.ref b), .val (.int (Int32.ofNat o)), .val (.int (Int32.ofNat len)), .val .null, .val (.ref s.heap.size)] [.int 0, .ref a])) := g11
  obtain ⟨T13, X13, p13, bl13, sl13, st13⟩ := X11.finit hexec hown (wk W (.fieldLink "java/lang/String" 15 "java/lang/String" "coder" "B")) (Or.inr ⟨_, (wk W (.laysFinal "java/lang/String" "java/lang/String" "coder" "B"))⟩) (Or.inl ⟨rfl, hnm⟩) f2 (Or.inl rfl) hB11 (t := .byte) (by decide +kernel) rfl (g := (mkF m 48 #[.val (.ref a), .val (.ref b), .val (.int (Int32.ofNat o)), .val (.int (Int32.ofNat len)), .val .null, .val (.ref s.heap.size)] [.int 0, .ref a])) rfl (rest := []) rfl (hb hbytes d48)
  have c14 : Steps p.tables e below (s₁.setTop (entryFrame m #[.ref a, .ref b, .int (Int32.ofNat o), .int (Int32.ofNat len), .null] 6)) (T13.setTop (mkF m 54 #[.val (.ref a), .val (.ref b), .val (.int (Int32.ofNat o)), .val (.int (Int32.ofNat len)), .val .null, .val (.ref s.heap.size)] [.ref s.heap.size, .ref a])) := (c12.trans (st13 _ (Steps.refl _))).trans (by
    refine XS.aloadN X13.here hexec rfl (hb hbytes d51) rfl rfl ?_
    refine XS.aload X13.here hexec rfl (hb hbytes d52) rfl rfl ?_
    exact Steps.refl _)
  obtain ⟨T15, X15, p15, bl15, sl15, st15⟩ := X13.finit hexec hown (wk W (.fieldLink "java/lang/String" 9 "java/lang/String" "value" "[B")) (Or.inr ⟨_, (wk W (.laysFinal "java/lang/String" "java/lang/String" "value" "[B"))⟩) (Or.inl ⟨rfl, hnm⟩) f1 (Or.inl rfl) bl13 (t := (.array .byte)) (by decide +kernel) rfl (g := (mkF m 54 #[.val (.ref a), .val (.ref b), .val (.int (Int32.ofNat o)), .val (.int (Int32.ofNat len)), .val .null, .val (.ref s.heap.size)] [.ref s.heap.size, .ref a])) rfl (rest := []) rfl (hb hbytes d54)
  have c16 : Steps p.tables e below (s₁.setTop (entryFrame m #[.ref a, .ref b, .int (Int32.ofNat o), .int (Int32.ofNat len), .null] 6)) (T15.setTop (mkF m 57 #[.val (.ref a), .val (.ref b), .val (.int (Int32.ofNat o)), .val (.int (Int32.ofNat len)), .val .null, .val (.ref s.heap.size)] [])) := c14.trans (st15 _ (Steps.refl _))
  have ap := apart (Or.inr ⟨_, (wk W (.laysFinal "java/lang/String" "java/lang/String" "value" "[B"))⟩) (Or.inr ⟨_, (wk W (.laysFinal "java/lang/String" "java/lang/String" "coder" "B"))⟩) f1 f2 (t₁ := .array .byte) (t₂ := .byte) (by decide +kernel) (by decide +kernel) (by decide)
  have al := X8.warmed.alike.symm.trans X15.warmed.alike
  have n7 : T11.heap[s.heap.size]? = some N := by rw [q11]; exact n1.1
  exact ⟨T15, none, _, _, _, X15, by simp, rfl, by omega, (fun _ => rfl), ⟨rfl, _, N, bl15, ((Same.refl D _).set _ (by simp)).set _ (by simp), sl15, (Cell.slots_setSlot_ne _ ap).trans sl13, n1.keep al (p15.other hne (p13.other hne n7)), n2, by rw [al.findClass]; exact n3, n4, n5, fun y c h1 h2 => p15.other h1 (p13.other h1 (by rw [q11]; exact n6 y c h2)), by rw [p15.2.2, p13.2.2, q11]; exact z8⟩, fun fs hl => c16.trans (X15.returnOut hexec hret (hb hbytes d57) hl)⟩
end New4
namespace New1
def yN : MethodName := ⟨"java/lang/String", "<init>", "([C)V"⟩
abbrev yB : ByteArray := jdk_42_method_3_code
theorem d0 : decode yB 0 = .ok (.aload_n 0, 1) := by decide +kernel
theorem d1 : decode yB 1 = .ok (.aload_n 1, 1) := by decide +kernel
theorem d2 : decode yB 2 = .ok (.iconst 0, 1) := by decide +kernel
theorem d3 : decode yB 3 = .ok (.aload_n 1, 1) := by decide +kernel
theorem d4 : decode yB 4 = .ok (.arraylength, 1) := by decide +kernel
theorem d5 : decode yB 5 = .ok (.aconst_null, 1) := by decide +kernel
theorem d6 : decode yB 6 = .ok (.invokespecial 27, 3) := by decide +kernel
theorem d9 : decode yB 9 = .ok (.return_, 1) := by decide +kernel
def site : List Cond := [New4.tab] ++ initW "java/lang/String" 27 New4.yN
def tab : Cond := tabOf yN yB 2 none site
def P (a : Addr) (D : Cell) (fV fC : Field) (b : Addr) (A : Cell) (z : Int32) (args : Array Value) (s : State) : Prop := args = #[.ref a, .ref b] ∧ Blank "java/lang/String" a D s ∧ Found "java/lang/String" "value" "[B" fV s ∧ Found "java/lang/String" "coder" "B" fC s ∧ Ch b A s ∧ StaticIs s "java/lang/String" "COMPACT_STRINGS" "Z" (.int z) ∧ ¬ z = 0 ∧ 0 < A.slots.size ∧ A.slots.size ≤ 536870912 ∧ ∀ i, i < A.slots.size → ¬ 255 < cv A i
def E (a : Addr) (D : Cell) (fV fC : Field) (A : Cell) (r : Option Value) (s u : State) : Prop := Got a D fV fC A 0 A.slots.size r s u
/-- new String(chars), not empty, no char above 255: a Latin-1 String of their low bytes -/
theorem law (l : Launch) (a : Addr) (D : Cell) (fV fC : Field) (b : Addr) (A : Cell) (z : Int32) : Law l yN 2 1 3 52 yB 2 none site (P a D fV fC b A z) (E a D fV fC A) [⟨a, fC.slot⟩, ⟨a, fV.slot⟩] 1 A.slots.size := by
  refine Law.of_walk (plainFor_of_name (by decide +kernel)) (by decide +kernel) (by decide +kernel) (by decide) (fun _ _ h => by rw [h.1]; rfl) (fun _ U U' hal hh h => ⟨h.1, h.2.1.mv hal hh, h.2.2.1.al hal, h.2.2.2.1.al hal, h.2.2.2.2.1.mv hal hh, h.2.2.2.2.2.1.there hal hh, h.2.2.2.2.2.2⟩) (fun r U U' V V' h1 hal h2 h => Got.mv r U U' V V' h1 hal h2 h) ?_
  intro p e s m args below meth c s₁ X0 hexec hbytes hml hret hlk hnm hown hh0 W hP
  obtain ⟨rfl, hB, f1, f2, hA, s1, hz, l0, l2, hp⟩ := hP
  have c1 : Steps p.tables e below (s₁.setTop (entryFrame m #[.ref a, .ref b] 2)) (s₁.setTop (mkF m 0 #[.val (.ref a), .val (.ref b)] [])) := entry rfl
  have c2 : Steps p.tables e below (s₁.setTop (entryFrame m #[.ref a, .ref b] 2)) (s₁.setTop (mkF m 6 #[.val (.ref a), .val (.ref b)] [.null, .int (Int32.ofNat A.slots.size), .int 0, .ref b, .ref a])) := c1.trans (by
    refine XS.aloadN X0.here hexec rfl (hb hbytes d0) rfl rfl ?_
    refine XS.aloadN X0.here hexec rfl (hb hbytes d1) rfl rfl ?_
    refine iconstV X0.here hexec rfl 0 (hb hbytes d2) (by decide) ?_
    refine XS.aloadN X0.here hexec rfl (hb hbytes d3) rfl rfl ?_
    refine X0.alen hexec (hA.1.mv X0.warmed.alike hh0) rfl rfl (hb hbytes d4) ?_
    refine XS.aconstNull X0.here hexec rfl (hb hbytes d5) ?_
    exact Steps.refl _)
  obtain ⟨v3, T3, X3, E3, g3⟩ := X0.callN hexec (New4.law l a D fV fC b A z 0 A.slots.size) rfl hown (wks W (initW "java/lang/String" 27 New4.yN)) (W New4.tab (by simp only [site, List.mem_cons, List.mem_append, true_or, or_true])) (W := 0) (Nat.le_of_ble_eq_true rfl) (Nat.le_of_ble_eq_true rfl) (Nat.le_refl _) (by show 0 + A.slots.size ≤ A.slots.size; omega) (g := (mkF m 6 #[.val (.ref a), .val (.ref b)] [.null, .int (Int32.ofNat A.slots.size), .int (Int32.ofNat 0), .ref b, .ref a])) rfl (by rw [hml]; rfl) c2 (argsL := [.ref b, .int (Int32.ofNat 0), .int (Int32.ofNat A.slots.size), .null]) (rest := []) rfl rfl (by show 2 * 0 + 0 ≤ _; decide) (hb hbytes d6) (⟨rfl, hB.mv X0.warmed.alike hh0, f1.al X0.warmed.alike, f2.al X0.warmed.alike, hA.mv X0.warmed.alike hh0, s1.there X0.warmed.alike hh0, hz, l0, by omega, l2, fun i hi => by rw [Nat.zero_add]; exact hp i hi⟩)
  have e0 := Got.mv _ s₁ s _ _ hh0.symm (Vm.Alike.refl _) rfl E3
  obtain rfl := e0.1
  have c4 : Steps p.tables e below (s₁.setTop (entryFrame m #[.ref a, .ref b] 2)) (T3.setTop (mkF m 9 #[.val (.ref a), .val (.ref b)] [])) := g3
  exact ⟨T3, none, _, _, _, X3, by simp, rfl, by omega, (fun _ => rfl), e0, fun fs hl => c4.trans (X3.returnOut hexec hret (hb hbytes d9) hl)⟩
theorem pays {l : Launch} {R : Room} {p : Program} {e : Env} {below : List Frame} {s : State} {sargs : Array Value} {len W : Nat} (a : Addr) (D : Cell) (fV fC : Field) (b : Addr) (A : Cell) (z : Int32) (htab : tab.before sargs s = true) (hfr : 4 ≤ R.frames) (hlo : W + 65 ≤ R.locals) :
    Back l R p e below s sargs yN len W (fun A₁ a₁ => A₁.cells + 1 ≤ R.cells ∧ A₁.slots + A.slots.size ≤ R.slots ∧ P a D fV fC b A z a₁ A₁.U) (fun A₁ _ v₁ B₁ => E a D fV fC A v₁ A₁.U B₁.U ∧ B₁.locs = A₁.locs ++ [⟨a, fC.slot⟩, ⟨a, fV.slot⟩] ∧ B₁.cells = A₁.cells + 1 ∧ B₁.slots = A₁.slots + A.slots.size) :=
  (law l a D fV fC b A z).pays htab hfr (by omega)
end New1
end StrChars
namespace StrChars.Road
open Jvm Sem ClassFile Op Lib Jvm.Stand Jvm.Free Jvm.Free.XT
open Jvm.Lib.Cold (StaticIs)
abbrev ST : String := "java/lang/String"
/-- every table word that New1's law asks, flat -/
abbrev words : List Jvm.Cond := [.code New1.yN New1.yB 2 none, .initialized ST, .methodLink ST 27 New4.yN, .instanceMethod New4.yN,
  .code New4.yN New4.yB 6 none, .fieldLink ST 38 ST "COMPACT_STRINGS" "Z", .laysFinal ST ST "value" "[B", .fieldLink ST 9 ST "value" "[B", .laysFinal ST ST "coder" "B", .fieldLink ST 15 ST "coder" "B",
  .methodLink ST 1 Lib.objectInit, .instanceMethod Lib.objectInit, .code Lib.objectInit ⟨#[0xb1]⟩ 1 none, .methodLink ST 177 Cmp3.yN, .static Cmp3.yN, .methodLink ST 47 CodL.yN, .static CodL.yN,
  .code Cmp3.yN Cmp3.yB 6 (some (.array .byte)), .initialized U16, .arrayClass .byte, .methodLink U16 115 Cmp5.yN, .static Cmp5.yN, .code Cmp5.yN Cmp5.yB 7 (some .int), .code CodL.yN CodL.yB 2 (some .byte)]
theorem tab_of {a : Array Value} {s : State} (h : ∀ w ∈ words, w.before a s = true) : New1.tab.before a s = true := by
  have h5 : Cmp5.tab.before a s = true := unparts (wk h (.code Cmp5.yN Cmp5.yB 7 (some .int))) (wks h (.initialized Cmp5.yN.cls :: Cmp5.site))
  have hc : CodL.tab.before a s = true := unparts (wk h (.code CodL.yN CodL.yB 2 (some .byte))) (wks h (.initialized CodL.yN.cls :: CodL.site))
  have q5 : ∀ w ∈ Cmp5.tab :: words, w.before a s = true := fun w hw => (List.mem_cons.mp hw).elim (fun e => e ▸ h5) (h w)
  have h3 : Cmp3.tab.before a s = true := unparts (wk q5 (.code Cmp3.yN Cmp3.yB 6 (some (.array .byte)))) (wks q5 (.initialized Cmp3.yN.cls :: Cmp3.site))
  have q3 : ∀ w ∈ Cmp3.tab :: CodL.tab :: words, w.before a s = true := fun w hw => (List.mem_cons.mp hw).elim (fun e => e ▸ h3) fun hw => (List.mem_cons.mp hw).elim (fun e => e ▸ hc) (h w)
  have h4 : New4.tab.before a s = true := unparts (wk q3 (.code New4.yN New4.yB 6 none)) (wks q3 (.initialized New4.yN.cls :: New4.site))
  have q4 : ∀ w ∈ New4.tab :: words, w.before a s = true := fun w hw => (List.mem_cons.mp hw).elim (fun e => e ▸ h4) (h w)
  exact unparts (wk q4 (.code New1.yN New1.yB 2 none)) (wks q4 (.initialized New1.yN.cls :: New1.site))
/-- the words ride from the start Z to the walk's own state -/
theorem moved {Z s : State} {a0 args : Array Value} (hZ : Z.Warmed39 s.vm) (hw : ∀ d ∈ words, d.before a0 Z = true) : ∀ d ∈ words, d.before args s = true := fun d hd => by
  have q := hw d hd
  have t : ∀ d ∈ words, d = .arrayClass .byte ∨ (d.onTables && d.keepsFace) = true := by decide +kernel
  rcases t d hd with rfl | t
  · exact RoadKit.mvA hZ q
  · exact RoadKit.mv hZ q t
/-- WHAT COMES BACK, over the tables of the start Z: h the heap at the call, h' behind it -/
def Q (Z : State) (x : Addr) (A : Cell) (h : Heap) (v : Option Value) (h' : Heap) (L : List Loc) : Prop := v = none ∧ (∀ y ∈ L, y.base = x) ∧ RoadKit.Keep h h' [x] ∧ h'.size = h.size + 1 ∧ RoadKit.Exa Z h' x ST ∧ RoadKit.Fld Z h' x ST "value" "[B" (.ref h.size) ∧ RoadKit.Fld Z h' x ST "coder" "B" (.int 0) ∧
  (∃ V : Cell, RoadKit.Arr Z h' h.size V .byte ∧ V.vm = .none ∧ Z.vm.findClass "[B" = some V.cls ∧ V.slots.size = A.slots.size ∧ ∀ j, j < A.slots.size → V.slots[j]? = some (.int (lo8 (cv A j)))) ∧
  ∀ (O n d : String) (w : Value), RoadKit.Fld Z h x O n d w → RoadKit.slotOf Z O n d ≠ RoadKit.slotOf Z ST "value" "[B" → RoadKit.slotOf Z O n d ≠ RoadKit.slotOf Z ST "coder" "B" → RoadKit.Fld Z h' x O n d w
/-- **new String(chars) AT A CALL, IN THE ROAD'S FORM**: for specialBack behind newO: x the fresh String, b the char[] with the cell A -/
theorem back {p : Program} {l : Launch} {e : Env} {R : Room} {s : State} {args : Array Value} {below : List Frame} {len W : Nat} {Z : State} {a0 : Array Value} {h : Heap} (hZ : Z.Warmed39 s.vm) (hw : ∀ d ∈ words, d.before a0 Z = true) {kI : Nat} (wi : (Jvm.Cond.instantiable ST kI).before a0 Z = true)
    {x b : Addr} {A : Cell} {z : Int32} {v0 c0 : Value} (E : RoadKit.Exa Z h x ST) (V : RoadKit.Fld Z h x ST "value" "[B" v0) (C : RoadKit.Fld Z h x ST "coder" "B" c0) (K : RoadKit.Arr Z h b A .char) (hty : Typed .char A) (S : RoadKit.Sta Z h ST "COMPACT_STRINGS" "Z" (.int z)) (hz : ¬ z = 0)
    (l0 : 0 < A.slots.size) (l2 : A.slots.size ≤ 536870912) (hp : ∀ i, i < A.slots.size → ¬ 255 < cv A i) (hfr : 4 ≤ R.frames) (hlo : W + 65 ≤ R.locals) :
    Back l R p e below s args New1.yN len W (fun P a => a = #[.ref x, .ref b] ∧ P.U.heap = h ∧ P.cells + 1 ≤ R.cells ∧ P.slots + A.slots.size ≤ R.slots)
      (fun P _ v B => ∃ L, Q Z x A h v B.U.heap L ∧ B.locs = P.locs ++ L ∧ B.cells = P.cells + 1 ∧ B.slots = P.slots + A.slots.size) := by
  intro m meth c P g ig mk a X hg hsize hdg hW hn hp'
  obtain ⟨rfl, rfl, r1, r2⟩ := hp'
  have al : Z.vm.Alike P.U.vm := hZ.alike.trans X.warmed.alike
  obtain ⟨D, cfV, kV, iV, fV, hD, gV, stV, knV, obV, asV, slV⟩ := id V
  obtain ⟨D', cfC, kC, iC, fC, hD', gC, stC, -, -, asC, slC⟩ := id C
  cases hD.symm.trans hD'
  obtain ⟨D2, kD, e1, e2, e3, e4, e5⟩ := id E
  cases hD.symm.trans e1
  obtain ⟨c2, k2, i1, i2, i3, -⟩ := Cond.instantiable_spec wi
  cases e2.symm.trans i1
  cases e3.symm.trans i2
  obtain ⟨kU, u1, u2⟩ := al.2.2 _ _ e3
  have hB : Blank ST x D P.U := ⟨hD, ⟨knV, fun q hq => by rw [hq] at obV; cases obV⟩, by rw [al.findClass]; exact e2, kU, u1, by rw [u2]; exact i3, by rw [u2]; exact e5 i3⟩
  have F1 : Found ST "value" "[B" fV P.U := ⟨SBG.found_only al ⟨cfV, kV, iV, gV⟩, stV⟩
  have F2 : Found ST "coder" "B" fC P.U := ⟨SBG.found_only al ⟨cfC, kC, iC, gC⟩, stC⟩
  have hA : Ch b A P.U := ⟨⟨K.1, State.isArrayOf_alike al K.2.1, K.2.2, by omega⟩, hty⟩
  have hS : StaticIs P.U ST "COMPACT_STRINGS" "Z" (.int z) := by
    obtain ⟨cfS, iS, kS, fS, st, cS, t1, t2, t3, t4, t5, t6, t7⟩ := S
    exact StaticIs.there (s := { Z with heap := P.U.heap }) ⟨cfS, iS, kS, fS, st, cS, t1, t2, t3, t4, t5, (fun q => by rw [q] at t6; cases t6), t7⟩ al rfl
  obtain ⟨v, B, X', ⟨⟨hv, E', V', q1, q2, q3, q4, q5, q6, q7, q8, q9, q10, q11⟩, hl, hc, hs⟩, st⟩ := New1.pays x D fV fC b A z (tab_of (moved hZ hw)) hfr hlo m meth c P g ig mk _ X hg hsize hdg hW hn ⟨r1, r2, rfl, hB, F1, F2, hA, hS, hz, l0, l2, hp⟩
  have al' : Z.vm.Alike B.U.vm := hZ.alike.trans X'.warmed.alike
  have hsz : E'.slots.size = D.slots.size := by
    obtain ⟨-, -, -, kB, w1, w2, w3⟩ := q1
    obtain ⟨kB', y1, y2⟩ := al'.2.2 _ _ e3
    rw [q2.2.1] at w1
    cases w1.symm.trans y1
    rw [w3, e5 i3, y2]
  refine ⟨v, B, X', ⟨_, ⟨hv, ?_, ⟨by omega, fun y cy hy hn' => q10 y cy (by simpa using hn') hy, fun y cy hy => ?_⟩, q11, ⟨E', _, q1.1, by rw [q2.2.1]; exact e2, by rw [q2.2.1]; exact e3, by rw [q2.1]; exact obV, fun _ => by rw [hsz]; exact e5 i3⟩,
    ⟨E', cfV, kV, iV, fV, q1.1, gV, stV, by rw [q2.1]; exact knV, by rw [q2.1]; exact obV, by rw [q2.2.1]; exact asV, q3⟩, ⟨E', cfC, kC, iC, fC, q1.1, gC, stC, by rw [q2.1]; exact knV, by rw [q2.1]; exact obV, by rw [q2.2.1]; exact asC, q4⟩,
    ⟨V', ⟨q5.1, State.isArrayOf_alike al'.symm q5.2.1, q5.2.2.1⟩, q6, by rw [← al'.findClass]; exact q7, q8, fun j hj => by have := q9 j hj; rwa [Nat.zero_add] at this⟩, fun O n d w F n1 n2 => ?_⟩, hl, hc, hs⟩, st⟩
  · intro y hy
    simp only [List.mem_cons, List.not_mem_nil, or_false] at hy
    rcases hy with rfl | rfl <;> rfl
  · by_cases q : y = x
    · subst q
      cases hD.symm.trans hy
      exact ⟨E', q1.1, q2.2.1, q2.1, hsz⟩
    · exact ⟨cy, q10 y cy q hy, rfl, rfl, rfl⟩
  · obtain ⟨D3, cf, k, i, f, g1, g2, g3, g4, g5, g6, g7⟩ := F
    cases hD.symm.trans g1
    simp only [RoadKit.slotOf, g2, gV, gC, Option.map_some, Option.getD_some] at n1 n2
    exact ⟨E', cf, k, i, f, q1.1, g2, g3, by rw [q2.1]; exact g4, by rw [q2.1]; exact g5, by rw [q2.2.1]; exact g6, by rw [q2.2.2 f.slot (by simp [n1, n2])]; exact g7⟩
end StrChars.Road
namespace StrChars.Road
open Jvm Sem ClassFile Op Lib Jvm.Stand Jvm.Free Jvm.Free.XT
/-- WHAT COMES BACK, the byte[] as a list of values -/
def QA (Z : State) (x : Addr) (zn : Int32) (cs : List Int32) (h : Heap) (v : Option Value) (h' : Heap) (L : List Loc) : Prop := v = none ∧ (∀ y ∈ L, y.base = x) ∧ RoadKit.Keep h h' [x] ∧ h'.size = h.size + 1 ∧ RoadKit.Exa Z h' x ST ∧ RoadKit.Fld Z h' x ST "value" "[B" (.ref h.size) ∧ RoadKit.Fld Z h' x ST "coder" "B" (.int 0) ∧
  (∃ kb, Z.vm.findClass "[B" = some kb ∧ RoadKit.Arv Z h' h.size kb .byte zn (cs.map fun c => .int (lo8 c)) (.int 0)) ∧
  ∀ (O n d : String) (w : Value), RoadKit.Fld Z h x O n d w → RoadKit.slotOf Z O n d ≠ RoadKit.slotOf Z ST "value" "[B" → RoadKit.slotOf Z O n d ≠ RoadKit.slotOf Z ST "coder" "B" → RoadKit.Fld Z h' x O n d w
/-- **new String(chars) AT A CALL, THE ARRAYS AS LISTS**: the char[] at b holds cs, not empty, no char above 255 -/
theorem backArv {p : Program} {l : Launch} {e : Env} {R : Room} {s : State} {args : Array Value} {below : List Frame} {len W : Nat} {Z : State} {a0 : Array Value} {h : Heap} (hZ : Z.Warmed39 s.vm) (hw : ∀ d ∈ words, d.before a0 Z = true) {kI : Nat} (wi : (Jvm.Cond.instantiable ST kI).before a0 Z = true)
    {x b : Addr} {k : ClassId} {zn z : Int32} {cs : List Int32} {dv v0 c0 : Value} (E : RoadKit.Exa Z h x ST) (V : RoadKit.Fld Z h x ST "value" "[B" v0) (C : RoadKit.Fld Z h x ST "coder" "B" c0) (K : RoadKit.Arv Z h b k .char zn (cs.map Value.int) dv) (S : RoadKit.Sta Z h ST "COMPACT_STRINGS" "Z" (.int z)) (hz : ¬ z = 0)
    (hlen : zn.toNatClampNeg = cs.length) (h0 : 0 < cs.length) (hbig : cs.length ≤ 536870912) (hall : ∀ c ∈ cs, ¬ 255 < c) (hfr : 4 ≤ R.frames) (hlo : W + 65 ≤ R.locals) :
    Back l R p e below s args New1.yN len W (fun P a => a = #[.ref x, .ref b] ∧ P.U.heap = h ∧ P.cells + 1 ≤ R.cells ∧ P.slots + cs.length ≤ R.slots)
      (fun P _ v B => ∃ L, QA Z x zn cs h v B.U.heap L ∧ B.locs = P.locs ++ L ∧ B.cells = P.cells + 1 ∧ B.slots = P.slots + cs.length) := by
  obtain ⟨A, K1, K2, K3, K4, K5, K6⟩ := K
  have e : A.slots.size = cs.length := K3.trans hlen
  have hat : ∀ (i : Nat) (hi : i < cs.length), A.slots[i]? = some (.int cs[i]) := fun i hi => by rw [K5 i (by omega)]; simp [List.getD_eq_getElem?_getD, hi]
  have hcv : ∀ (i : Nat) (hi : i < cs.length), cv A i = cs[i] := fun i hi => by unfold cv; rw [hat i hi]
  have hty : Typed .char A := fun i v hv => by
    have hi : i < A.slots.size := (Array.getElem?_eq_some_iff.mp hv).1
    have q := K5 i hi
    rw [hv] at q
    rw [Option.some.inj q]
    exact K6 i hi
  refine Back.mono (back hZ hw wi E V C K1 hty S hz (by omega) (by omega) (fun i hi => by rw [hcv i (by omega)]; exact hall _ (List.getElem_mem _)) hfr hlo) (fun P a hp => ⟨hp.1, hp.2.1, hp.2.2.1, by rw [e]; exact hp.2.2.2⟩) (fun P a v B hp hq => ?_)
  obtain ⟨L, ⟨q1, q2, q3, q4, q5, q6, q7, ⟨V', v1, v2, v3, v4, v5⟩, q9⟩, hl, hc, hs⟩ := hq
  refine ⟨L, ⟨q1, q2, q3, q4, q5, q6, q7, ⟨V'.cls, v3, V', v1, rfl, by rw [v4, e, hlen], K4, fun i hi => ?_, fun i hi => ?_⟩, q9⟩, hl, hc, by rw [hs, e]⟩
  · have hi' : i < cs.length := by omega
    rw [v5 i (by omega), hcv i hi']; simp [List.getD_eq_getElem?_getD, hi']
  · have hi' : i < cs.length := by omega
    simp only [List.getD_eq_getElem?_getD, List.getElem?_map, List.getElem?_eq_getElem hi', Option.map_some, Option.getD_some]
    exact fits_lo8 _
end StrChars.Road
namespace StrChars.Road
open Jvm Sem ClassFile Op Lib Jvm.Stand Jvm.Free Jvm.Free.XT
/-- WHAT COMES BACK, in the writer's own shape -/
def QV (Z : State) (x : Addr) (N : Int32) (bs : List Int32) (h : Heap) (n0 : Nat) (v : Option Value) (h' : Heap) (L : List Loc) : Prop := v = none ∧ RoadKit.Fr n0 L ∧ RoadKit.Keep h h' [x] ∧ RoadKit.Exa Z h' x ST ∧ RoadKit.Fld Z h' x ST "coder" "B" (.int 0) ∧
  ∃ (t : Addr) (kb : ClassId), n0 ≤ t ∧ h.size ≤ t ∧ ¬ t = x ∧ RoadKit.Fld Z h' x ST "value" "[B" (.ref t) ∧ RoadKit.Arv Z h' t kb .byte N (bs.map Value.int) (.int 0)
/-- **new String(chars) AT A CALL, FOR THE WRITER**: a char[] of n known ints, each 0 to 255 -/
theorem backV {p : Program} {l : Launch} {e : Env} {R : Room} {s : State} {args : Array Value} {below : List Frame} {len W : Nat} {Z : State} {a0 : Array Value} {h : Heap} (hZ : Z.Warmed39 s.vm) (hw : ∀ d ∈ words, d.before a0 Z = true) {kI : Nat} (wi : (Jvm.Cond.instantiable ST kI).before a0 Z = true)
    {x b : Addr} {kC : ClassId} {cs bs : List Int32} {d v0 c0 : Value} {z N : Int32} {n n0 : Nat} (hx0 : n0 ≤ x) (hh0 : n0 ≤ h.size) (E : RoadKit.Exa Z h x ST) (V : RoadKit.Fld Z h x ST "value" "[B" v0) (C : RoadKit.Fld Z h x ST "coder" "B" c0) (K : RoadKit.Arv Z h b kC .char N (cs.map Value.int) d) (S : RoadKit.Sta Z h ST "COMPACT_STRINGS" "Z" (.int z)) (hz : ¬ z = 0)
    (hn : cs.length = n) (hN : N = Int32.ofNat n) (l0 : 0 < n) (l2 : n ≤ 4000) (hp : ∀ c ∈ cs, ¬ c < 0 ∧ ¬ (255 : Int32) < c) (hb : bs = cs.map (fun c => c.toInt8.toInt32)) (hfr : 4 ≤ R.frames) (hlo : W + 65 ≤ R.locals) :
    Back l R p e below s args (⟨"java/lang/String", "<init>", "([C)V"⟩ : MethodName) len W (fun P a => a = #[.ref x, .ref b] ∧ P.U.heap = h ∧ P.cells + 1 ≤ R.cells ∧ P.slots + n ≤ R.slots)
      (fun P _ v B => ∃ L, QV Z x N bs h n0 v B.U.heap L ∧ B.locs = P.locs ++ L ∧ B.cells = P.cells + 1 ∧ B.slots = P.slots + n) := by
  subst hn hN hb
  refine Back.mono (backArv hZ hw wi E V C K S hz (n32 (by omega)) l0 (by omega) (fun c hc => (hp c hc).2) hfr hlo) (fun P a hp => hp) (fun P a v B hp hq => ?_)
  obtain ⟨L, ⟨q1, q2, q3, q4, q5, q6, q7, ⟨kb, v1, v2⟩, q9⟩, hl, hc, hs⟩ := hq
  exact ⟨L, ⟨q1, fun y hy => by rw [q2 y hy]; exact hx0, q3, q5, q7, h.size, kb, hh0, Nat.le_refl _, Nat.ne_of_gt E.lt, q6, by rw [List.map_map]; exact v2⟩, hl, hc, hs⟩
end StrChars.Road
end Jvm.Pilot.@@N@@

namespace Jvm.Pilot.@@N@@
open Jvm Jvm.ClassFile Sem Op Lib Jvm.Free Jvm.Stand Jvm.LawKit Jvm.RoadKit Bundle Jvm.Pilot.@@N@@.Jvm.D
theorem own_eqint {args : Array Value} {first s : State} {o : Option Outcome} {idx : List Nat} {t : Term} {k : Int32} (h : (Jvm.Cond.eq t (.int k)).value args first o s idx = some true) : t.eval args first o idx s = some (.int k) := by
  cases ht : t.eval args first o idx s with
  | none => simp [Cond.value, ht] at h
  | some x => cases x <;> simp [Cond.value, ht, Term.eval] at h ⊢; exact h
theorem own_nar255 (x : Int32) : nar .char ((x &&& (255 : Int32)).toUInt32.toUInt16.toUInt32.toInt32) = x &&& 255 := by simp only [nar, i2c_mask]
theorem own_and255 (x : Int32) : ¬ (x &&& (255 : Int32)) < 0 ∧ ¬ (255 : Int32) < (x &&& (255 : Int32)) := by
  have h := c_and x (255 : Int32) (by decide)
  have e : (255 : Int32).toInt = 255 := by decide
  have z : (0 : Int32).toInt = 0 := by decide
  rw [e] at h
  refine ⟨fun q => ?_, fun q => ?_⟩
  · rw [Int32.lt_iff_toInt_lt, z] at q; omega
  · rw [Int32.lt_iff_toInt_lt, e] at q; omega
theorem d1_0 : decode method_2_code 0 = .ok (.iload_n 0, 1) := by decide +kernel
theorem d1_1 : decode method_2_code 1 = .ok (.iconst 5, 1) := by decide +kernel
theorem d1_2 : decode method_2_code 2 = .ok (.irem, 1) := by decide +kernel
theorem d1_3 : decode method_2_code 3 = .ok (.istore_n 1, 1) := by decide +kernel
theorem d1_4 : decode method_2_code 4 = .ok (.iload_n 1, 1) := by decide +kernel
theorem d1_5 : decode method_2_code 5 = .ok (.ifCond .ne 7, 3) := by decide +kernel
theorem d1_8 : decode method_2_code 8 = .ok (.getstatic 7, 3) := by decide +kernel
theorem d1_11 : decode method_2_code 11 = .ok (.areturn, 1) := by decide +kernel
theorem d1_12 : decode method_2_code 12 = .ok (.iload_n 1, 1) := by decide +kernel
theorem d1_13 : decode method_2_code 13 = .ok (.iconst 1, 1) := by decide +kernel
theorem d1_14 : decode method_2_code 14 = .ok (.if_icmp .ne 7, 3) := by decide +kernel
theorem d1_17 : decode method_2_code 17 = .ok (.getstatic 13, 3) := by decide +kernel
theorem d1_20 : decode method_2_code 20 = .ok (.areturn, 1) := by decide +kernel
theorem d1_21 : decode method_2_code 21 = .ok (.iload_n 1, 1) := by decide +kernel
theorem d1_22 : decode method_2_code 22 = .ok (.iconst 2, 1) := by decide +kernel
theorem d1_23 : decode method_2_code 23 = .ok (.if_icmp .ne 7, 3) := by decide +kernel
theorem d1_26 : decode method_2_code 26 = .ok (.getstatic 16, 3) := by decide +kernel
theorem d1_29 : decode method_2_code 29 = .ok (.areturn, 1) := by decide +kernel
theorem d1_30 : decode method_2_code 30 = .ok (.iload_n 1, 1) := by decide +kernel
theorem d1_31 : decode method_2_code 31 = .ok (.iconst 3, 1) := by decide +kernel
theorem d1_32 : decode method_2_code 32 = .ok (.if_icmp .ne 7, 3) := by decide +kernel
theorem d1_35 : decode method_2_code 35 = .ok (.getstatic 19, 3) := by decide +kernel
theorem d1_38 : decode method_2_code 38 = .ok (.areturn, 1) := by decide +kernel
theorem d1_39 : decode method_2_code 39 = .ok (.getstatic 22, 3) := by decide +kernel
theorem d1_42 : decode method_2_code 42 = .ok (.areturn, 1) := by decide +kernel
theorem pn_rm1 : plainName "com/example/always_once/alwaysonce/ledger/JobWithPinLaw" = true := by first | (simp [plainName, overriddenIn]; done) | decide +kernel
theorem ef_rm1 (m : MethodId) (q1 : Int32) : entryFrame m #[(.int q1)] 2 = mkF m 0 #[.val (.int q1), .unset] [] := by first | (simp [entryFrame, mkF, argsToLocals, Value.category]; done) | rfl
def Q_rm1 (Z : State) (q1 : Int32) (ws_UPLOADED ws_PROCESSING ws_COLUMN_MAPPING ws_COMPLETED ws_FAILED : Addr) (h0 : Heap) (n0 : Nat) (v : Option Value) (h : Heap) (L : List Loc) : Prop := (∃ w, v = some (.ref w)) ∧ Fr n0 L ∧ h = h0
set_option maxRecDepth 65536 in
set_option maxHeartbeats 40000000 in
theorem rm1 (l : Launch) (Z : State) (a0 : Array Value) (hw : ∀ d ∈ tables_1, d.before a0 Z = true) (ws : List Jvm.Cond) (q1 : Int32) (ws_UPLOADED ws_PROCESSING ws_COLUMN_MAPPING ws_COMPLETED ws_FAILED : Addr) (h0 : Heap) (n0 : Nat) (O0 : Old Z n0 h0) (Ss_UPLOADED : Sta Z Z.heap "com/example/always_once/alwaysonce/ledger/JobStatus" "UPLOADED" "Lcom/example/always_once/alwaysonce/ledger/JobStatus;" (.ref ws_UPLOADED)) (Ss_PROCESSING : Sta Z Z.heap "com/example/always_once/alwaysonce/ledger/JobStatus" "PROCESSING" "Lcom/example/always_once/alwaysonce/ledger/JobStatus;" (.ref ws_PROCESSING)) (Ss_COLUMN_MAPPING : Sta Z Z.heap "com/example/always_once/alwaysonce/ledger/JobStatus" "COLUMN_MAPPING" "Lcom/example/always_once/alwaysonce/ledger/JobStatus;" (.ref ws_COLUMN_MAPPING)) (Ss_COMPLETED : Sta Z Z.heap "com/example/always_once/alwaysonce/ledger/JobStatus" "COMPLETED" "Lcom/example/always_once/alwaysonce/ledger/JobStatus;" (.ref ws_COMPLETED)) (Ss_FAILED : Sta Z Z.heap "com/example/always_once/alwaysonce/ledger/JobStatus" "FAILED" "Lcom/example/always_once/alwaysonce/ledger/JobStatus;" (.ref ws_FAILED)) :
    MetFree l (⟨"com/example/always_once/alwaysonce/ledger/JobWithPinLaw", "status", "(I)Lcom/example/always_once/alwaysonce/ledger/JobStatus;"⟩ : MethodName) (head1 (Jvm.Cond.code (⟨"com/example/always_once/alwaysonce/ledger/JobWithPinLaw", "status", "(I)Lcom/example/always_once/alwaysonce/ledger/JobStatus;"⟩ : MethodName) method_2_code 2 (some (.object "com/example/always_once/alwaysonce/ledger/JobStatus")) :: ws) ({ frames := 0, cells := 0, slots := 0, locals := 0 } : Room)) (fun a U => a = #[(.int q1)] ∧ Z.Warmed39 U.vm ∧ U.heap = h0) (fun _ _ _ _ _ => True) (fun _ U o U' => ∃ v L, o = .returned v ∧ Q_rm1 Z q1 ws_UPLOADED ws_PROCESSING ws_COLUMN_MAPPING ws_COMPLETED ws_FAILED h0 n0 v U'.heap L ∧ FrameEnd U o U' L ({ frames := 0, cells := 0, slots := 0, locals := 0 } : Room).cells ({ frames := 0, cells := 0, slots := 0, locals := 0 } : Room).slots) := by
  refine MetFree.of_bodySF (plainFor_of_name pn_rm1) hisR ?_
  intro p e s m args below meth c s₁ Bd hml0 hP hK
  obtain ⟨rfl, hZ, hh⟩ := hP
  have hx := Bd.exec
  have hby := Bd.bytes
  have hml : c.maxLocals = 2 := hml0
  have hown : s.vm.findClass "com/example/always_once/alwaysonce/ledger/JobWithPinLaw" = some m.cls := findClass_of_methodNamed Bd.named
  have hnm := (name_of_methodNamed Bd.named Bd.method).1
  have X0 : Stand p l e ({ frames := 0, cells := 0, slots := 0, locals := 0 } : Room) s m #[(.int q1)] below meth c s₁ [] 0 0 := Stand.of_body Bd
  have e0 : s₁.heap = h0 := by rw [← hh, Bd.state]; rfl
  have N0 := Fr.nil n0
  refine Gl.start (Q := Q_rm1 Z q1 ws_UPLOADED ws_PROCESSING ws_COLUMN_MAPPING ws_COMPLETED ws_FAILED h0 n0) (ef_rm1 m q1) ?_
  show Gl p e below s _ _ _ s₁ (mkF m 0 #[.val (.int q1), .unset] [])
  refine Gl.st (fun _ kk => XS.iloadN X0.here hx rfl (hb hby d1_0) rfl kk) ?_
  show Gl p e below s _ _ _ s₁ (mkF m 1 #[.val (.int q1), .unset] [(.int q1)])
  refine Gl.st (fun _ kk => XS.iconst X0.here hx rfl (hb hby d1_1) kk) ?_
  show Gl p e below s _ _ _ s₁ (mkF m 2 #[.val (.int q1), .unset] [(.int (5 : Int32)), (.int q1)])
  refine Gl.st (fun _ kk => iremM (g := (mkF m 2 #[.val (.int q1), .unset] [(.int (5 : Int32)), (.int q1)])) X0 hx rfl (hb hby d1_2) rfl (by decide) kk) ?_
  show Gl p e below s _ _ _ s₁ (mkF m 3 #[.val (.int q1), .unset] [(.int (q1 % (5 : Int32)))])
  refine Gl.st (fun _ kk => XS.istoreN X0.here hx rfl (hb hby d1_3) rfl (l' := #[.val (.int q1), .val (.int (q1 % (5 : Int32)))]) rfl kk) ?_
  show Gl p e below s _ _ _ s₁ (mkF m 4 #[.val (.int q1), .val (.int (q1 % (5 : Int32)))] [])
  refine Gl.st (fun _ kk => XS.iloadN X0.here hx rfl (hb hby d1_4) rfl kk) ?_
  show Gl p e below s _ _ _ s₁ (mkF m 5 #[.val (.int q1), .val (.int (q1 % (5 : Int32)))] [(.int (q1 % (5 : Int32)))])
  by_cases hc5 : (q1 % (5 : Int32)) = (0 : Int32)
  · skip
    refine Gl.st (fun _ kk => XS.ifNo X0.here hx rfl (hb hby d1_5) rfl ((if0 _ _).trans (teq hc5).2) kk) ?_
    show Gl p e below s _ _ _ s₁ (mkF m 8 #[.val (.int q1), .val (.int (q1 % (5 : Int32)))] [])
    obtain ⟨T1, X1, e1, st1⟩ := getS2 X0 hx hZ hown (host := "") (Or.inl (hw _ (List.mem_of_getElem? (i := 7) rfl))) Via.refl e0 (Ss_UPLOADED.ext O0.2) (g := (mkF m 8 #[.val (.int q1), .val (.int (q1 % (5 : Int32)))] [])) rfl (hb hby d1_8)
    refine Gl.st st1 ?_
    show Gl p e below s _ _ _ T1 (mkF m 11 #[.val (.int q1), .val (.int (q1 % (5 : Int32)))] [(.ref ws_UPLOADED)])
    exact Gl.ret X1 (v := (some (.ref ws_UPLOADED))) (fun h => by rw [Bd.returns] at h; cases h) (BodyLoose.notSynchronized Bd) (fun hr => retOut X1 hx Bd.returns rfl (Or.inr (Or.inr (Or.inr (Or.inr ⟨rfl, rfl, rfl⟩)))) (hb hby d1_11) hr) e1 ⟨⟨_, rfl⟩, N0, rfl⟩ (by decide) (by decide)
  · skip
    refine Gl.st (fun _ kk => XS.ifYes X0.here hx rfl (pc0 := 5) (pc' := 12) rfl (hb hby d1_5) rfl ((if0 _ _).trans (feq hc5).2) (by decide) (by decide) kk) ?_
    show Gl p e below s _ _ _ s₁ (mkF m 12 #[.val (.int q1), .val (.int (q1 % (5 : Int32)))] [])
    refine Gl.st (fun _ kk => XS.iloadN X0.here hx rfl (hb hby d1_12) rfl kk) ?_
    show Gl p e below s _ _ _ s₁ (mkF m 13 #[.val (.int q1), .val (.int (q1 % (5 : Int32)))] [(.int (q1 % (5 : Int32)))])
    refine Gl.st (fun _ kk => XS.iconst X0.here hx rfl (hb hby d1_13) kk) ?_
    show Gl p e below s _ _ _ s₁ (mkF m 14 #[.val (.int q1), .val (.int (q1 % (5 : Int32)))] [(.int (1 : Int32)), (.int (q1 % (5 : Int32)))])
    by_cases hc14 : (q1 % (5 : Int32)) = (1 : Int32)
    · skip
      refine Gl.st (fun _ kk => XS.icmpNo X0.here hx rfl (hb hby d1_14) rfl (teq hc14).2 kk) ?_
      show Gl p e below s _ _ _ s₁ (mkF m 17 #[.val (.int q1), .val (.int (q1 % (5 : Int32)))] [])
      obtain ⟨T2, X2, e2, st2⟩ := getS2 X0 hx hZ hown (host := "") (Or.inl (hw _ (List.mem_of_getElem? (i := 117) rfl))) Via.refl e0 (Ss_PROCESSING.ext O0.2) (g := (mkF m 17 #[.val (.int q1), .val (.int (q1 % (5 : Int32)))] [])) rfl (hb hby d1_17)
      refine Gl.st st2 ?_
      show Gl p e below s _ _ _ T2 (mkF m 20 #[.val (.int q1), .val (.int (q1 % (5 : Int32)))] [(.ref ws_PROCESSING)])
      exact Gl.ret X2 (v := (some (.ref ws_PROCESSING))) (fun h => by rw [Bd.returns] at h; cases h) (BodyLoose.notSynchronized Bd) (fun hr => retOut X2 hx Bd.returns rfl (Or.inr (Or.inr (Or.inr (Or.inr ⟨rfl, rfl, rfl⟩)))) (hb hby d1_20) hr) e2 ⟨⟨_, rfl⟩, N0, rfl⟩ (by decide) (by decide)
    · skip
      refine Gl.st (fun _ kk => XS.icmpYes X0.here hx rfl (pc0 := 14) (pc' := 21) rfl (hb hby d1_14) rfl (feq hc14).2 (by decide) (by decide) kk) ?_
      show Gl p e below s _ _ _ s₁ (mkF m 21 #[.val (.int q1), .val (.int (q1 % (5 : Int32)))] [])
      refine Gl.st (fun _ kk => XS.iloadN X0.here hx rfl (hb hby d1_21) rfl kk) ?_
      show Gl p e below s _ _ _ s₁ (mkF m 22 #[.val (.int q1), .val (.int (q1 % (5 : Int32)))] [(.int (q1 % (5 : Int32)))])
      refine Gl.st (fun _ kk => XS.iconst X0.here hx rfl (hb hby d1_22) kk) ?_
      show Gl p e below s _ _ _ s₁ (mkF m 23 #[.val (.int q1), .val (.int (q1 % (5 : Int32)))] [(.int (2 : Int32)), (.int (q1 % (5 : Int32)))])
      by_cases hc23 : (q1 % (5 : Int32)) = (2 : Int32)
      · skip
        refine Gl.st (fun _ kk => XS.icmpNo X0.here hx rfl (hb hby d1_23) rfl (teq hc23).2 kk) ?_
        show Gl p e below s _ _ _ s₁ (mkF m 26 #[.val (.int q1), .val (.int (q1 % (5 : Int32)))] [])
        obtain ⟨T3, X3, e3, st3⟩ := getS2 X0 hx hZ hown (host := "") (Or.inl (hw _ (List.mem_of_getElem? (i := 121) rfl))) Via.refl e0 (Ss_COLUMN_MAPPING.ext O0.2) (g := (mkF m 26 #[.val (.int q1), .val (.int (q1 % (5 : Int32)))] [])) rfl (hb hby d1_26)
        refine Gl.st st3 ?_
        show Gl p e below s _ _ _ T3 (mkF m 29 #[.val (.int q1), .val (.int (q1 % (5 : Int32)))] [(.ref ws_COLUMN_MAPPING)])
        exact Gl.ret X3 (v := (some (.ref ws_COLUMN_MAPPING))) (fun h => by rw [Bd.returns] at h; cases h) (BodyLoose.notSynchronized Bd) (fun hr => retOut X3 hx Bd.returns rfl (Or.inr (Or.inr (Or.inr (Or.inr ⟨rfl, rfl, rfl⟩)))) (hb hby d1_29) hr) e3 ⟨⟨_, rfl⟩, N0, rfl⟩ (by decide) (by decide)
      · skip
        refine Gl.st (fun _ kk => XS.icmpYes X0.here hx rfl (pc0 := 23) (pc' := 30) rfl (hb hby d1_23) rfl (feq hc23).2 (by decide) (by decide) kk) ?_
        show Gl p e below s _ _ _ s₁ (mkF m 30 #[.val (.int q1), .val (.int (q1 % (5 : Int32)))] [])
        refine Gl.st (fun _ kk => XS.iloadN X0.here hx rfl (hb hby d1_30) rfl kk) ?_
        show Gl p e below s _ _ _ s₁ (mkF m 31 #[.val (.int q1), .val (.int (q1 % (5 : Int32)))] [(.int (q1 % (5 : Int32)))])
        refine Gl.st (fun _ kk => XS.iconst X0.here hx rfl (hb hby d1_31) kk) ?_
        show Gl p e below s _ _ _ s₁ (mkF m 32 #[.val (.int q1), .val (.int (q1 % (5 : Int32)))] [(.int (3 : Int32)), (.int (q1 % (5 : Int32)))])
        by_cases hc32 : (q1 % (5 : Int32)) = (3 : Int32)
        · skip
          refine Gl.st (fun _ kk => XS.icmpNo X0.here hx rfl (hb hby d1_32) rfl (teq hc32).2 kk) ?_
          show Gl p e below s _ _ _ s₁ (mkF m 35 #[.val (.int q1), .val (.int (q1 % (5 : Int32)))] [])
          obtain ⟨T4, X4, e4, st4⟩ := getS2 X0 hx hZ hown (host := "") (Or.inl (hw _ (List.mem_of_getElem? (i := 4) rfl))) Via.refl e0 (Ss_COMPLETED.ext O0.2) (g := (mkF m 35 #[.val (.int q1), .val (.int (q1 % (5 : Int32)))] [])) rfl (hb hby d1_35)
          refine Gl.st st4 ?_
          show Gl p e below s _ _ _ T4 (mkF m 38 #[.val (.int q1), .val (.int (q1 % (5 : Int32)))] [(.ref ws_COMPLETED)])
          exact Gl.ret X4 (v := (some (.ref ws_COMPLETED))) (fun h => by rw [Bd.returns] at h; cases h) (BodyLoose.notSynchronized Bd) (fun hr => retOut X4 hx Bd.returns rfl (Or.inr (Or.inr (Or.inr (Or.inr ⟨rfl, rfl, rfl⟩)))) (hb hby d1_38) hr) e4 ⟨⟨_, rfl⟩, N0, rfl⟩ (by decide) (by decide)
        · skip
          refine Gl.st (fun _ kk => XS.icmpYes X0.here hx rfl (pc0 := 32) (pc' := 39) rfl (hb hby d1_32) rfl (feq hc32).2 (by decide) (by decide) kk) ?_
          show Gl p e below s _ _ _ s₁ (mkF m 39 #[.val (.int q1), .val (.int (q1 % (5 : Int32)))] [])
          obtain ⟨T5, X5, e5, st5⟩ := getS2 X0 hx hZ hown (host := "") (Or.inl (hw _ (List.mem_of_getElem? (i := 123) rfl))) Via.refl e0 (Ss_FAILED.ext O0.2) (g := (mkF m 39 #[.val (.int q1), .val (.int (q1 % (5 : Int32)))] [])) rfl (hb hby d1_39)
          refine Gl.st st5 ?_
          show Gl p e below s _ _ _ T5 (mkF m 42 #[.val (.int q1), .val (.int (q1 % (5 : Int32)))] [(.ref ws_FAILED)])
          exact Gl.ret X5 (v := (some (.ref ws_FAILED))) (fun h => by rw [Bd.returns] at h; cases h) (BodyLoose.notSynchronized Bd) (fun hr => retOut X5 hx Bd.returns rfl (Or.inr (Or.inr (Or.inr (Or.inr ⟨rfl, rfl, rfl⟩)))) (hb hby d1_42) hr) e5 ⟨⟨_, rfl⟩, N0, rfl⟩ (by decide) (by decide)
theorem d9_0 : decode jdk_30_method_1_code 0 = .ok (.aload_n 0, 1) := by decide +kernel
theorem d9_1 : decode jdk_30_method_1_code 1 = .ok (.invokespecial 1, 3) := by decide +kernel
theorem d9_4 : decode jdk_30_method_1_code 4 = .ok (.return_, 1) := by decide +kernel
theorem pn_rmR : plainName "java/lang/Record" = true := by first | (simp [plainName, overriddenIn]; done) | decide +kernel
theorem ef_rmR (m : MethodId) (a1 : Addr) : entryFrame m #[(.ref a1)] 1 = mkF m 0 #[.val (.ref a1)] [] := by first | (simp [entryFrame, mkF, argsToLocals, Value.category]; done) | rfl
def Q_rmR (Z : State) (a1 : Addr)  (h0 : Heap) (n0 : Nat) (v : Option Value) (h : Heap) (L : List Loc) : Prop := v = none ∧ Fr n0 L ∧ h = h0
set_option maxRecDepth 65536 in
set_option maxHeartbeats 40000000 in
theorem rmR (l : Launch) (Z : State) (a0 : Array Value) (hw : ∀ d ∈ tables_1, d.before a0 Z = true) (ws : List Jvm.Cond) (a1 : Addr)  (h0 : Heap) (n0 : Nat) (O0 : Old Z n0 h0) :
    MetFree l (⟨"java/lang/Record", "<init>", "()V"⟩ : MethodName) (head1 (Jvm.Cond.code (⟨"java/lang/Record", "<init>", "()V"⟩ : MethodName) jdk_30_method_1_code 1 none :: ws) ({ frames := 1, cells := 0, slots := 0, locals := 12 } : Room)) (fun a U => a = #[(.ref a1)] ∧ Z.Warmed39 U.vm ∧ U.heap = h0) (fun _ _ _ _ _ => True) (fun _ U o U' => ∃ v L, o = .returned v ∧ Q_rmR Z a1  h0 n0 v U'.heap L ∧ FrameEnd U o U' L ({ frames := 1, cells := 0, slots := 0, locals := 12 } : Room).cells ({ frames := 1, cells := 0, slots := 0, locals := 12 } : Room).slots) := by
  refine MetFree.of_bodySF (plainFor_of_name pn_rmR) hisR ?_
  intro p e s m args below meth c s₁ Bd hml0 hP hK
  obtain ⟨rfl, hZ, hh⟩ := hP
  have hx := Bd.exec
  have hby := Bd.bytes
  have hml : c.maxLocals = 1 := hml0
  have hown : s.vm.findClass "java/lang/Record" = some m.cls := findClass_of_methodNamed Bd.named
  have hnm := (name_of_methodNamed Bd.named Bd.method).1
  have X0 : Stand p l e ({ frames := 1, cells := 0, slots := 0, locals := 12 } : Room) s m #[(.ref a1)] below meth c s₁ [] 0 0 := Stand.of_body Bd
  have e0 : s₁.heap = h0 := by rw [← hh, Bd.state]; rfl
  have N0 := Fr.nil n0
  refine Gl.start (Q := Q_rmR Z a1  h0 n0) (ef_rmR m a1) ?_
  show Gl p e below s _ _ _ s₁ (mkF m 0 #[.val (.ref a1)] [])
  refine Gl.st (fun _ kk => XS.aloadN X0.here hx rfl (hb hby d9_0) rfl rfl kk) ?_
  show Gl p e below s _ _ _ s₁ (mkF m 1 #[.val (.ref a1)] [(.ref a1)])
  obtain ⟨T1, X1, e1, st1⟩ := initO X0 hx hZ hown (hw _ (List.mem_of_getElem? (i := 53) rfl)) (hw _ (List.mem_of_getElem? (i := 24) rfl)) (hw _ (List.mem_of_getElem? (i := 25) rfl)) e0 (g := (mkF m 1 #[.val (.ref a1)] [(.ref a1)])) rfl (by rw [hml]; rfl) rfl (hb hby d9_1) (by decide) (W := 0) (by show 2 * 0 + _ ≤ _; exact Nat.le_of_eq rfl) (by decide)
  refine Gl.st st1 ?_
  show Gl p e below s _ _ _ T1 (mkF m 4 #[.val (.ref a1)] [])
  exact Gl.ret X1 (v := none) (fun _ => rfl) (BodyLoose.notSynchronized Bd) (fun hr => X1.returnOut hx Bd.returns (hb hby d9_4) hr) e1 ⟨rfl, N0, rfl⟩ (by decide) (by decide)
theorem d8_0 : decode prog_9_method_1_code 0 = .ok (.aload_n 0, 1) := by decide +kernel
theorem d8_1 : decode prog_9_method_1_code 1 = .ok (.invokespecial 1, 3) := by decide +kernel
theorem d8_4 : decode prog_9_method_1_code 4 = .ok (.aload_n 0, 1) := by decide +kernel
theorem d8_5 : decode prog_9_method_1_code 5 = .ok (.lload_n 1, 1) := by decide +kernel
theorem d8_6 : decode prog_9_method_1_code 6 = .ok (.putfield 7, 3) := by decide +kernel
theorem d8_9 : decode prog_9_method_1_code 9 = .ok (.aload_n 0, 1) := by decide +kernel
theorem d8_10 : decode prog_9_method_1_code 10 = .ok (.aload_n 3, 1) := by decide +kernel
theorem d8_11 : decode prog_9_method_1_code 11 = .ok (.putfield 13, 3) := by decide +kernel
theorem d8_14 : decode prog_9_method_1_code 14 = .ok (.aload_n 0, 1) := by decide +kernel
theorem d8_15 : decode prog_9_method_1_code 15 = .ok (.aload 4, 2) := by decide +kernel
theorem d8_17 : decode prog_9_method_1_code 17 = .ok (.putfield 17, 3) := by decide +kernel
theorem d8_20 : decode prog_9_method_1_code 20 = .ok (.aload_n 0, 1) := by decide +kernel
theorem d8_21 : decode prog_9_method_1_code 21 = .ok (.aload 5, 2) := by decide +kernel
theorem d8_23 : decode prog_9_method_1_code 23 = .ok (.putfield 20, 3) := by decide +kernel
theorem d8_26 : decode prog_9_method_1_code 26 = .ok (.aload_n 0, 1) := by decide +kernel
theorem d8_27 : decode prog_9_method_1_code 27 = .ok (.aload 6, 2) := by decide +kernel
theorem d8_29 : decode prog_9_method_1_code 29 = .ok (.putfield 24, 3) := by decide +kernel
theorem d8_32 : decode prog_9_method_1_code 32 = .ok (.aload_n 0, 1) := by decide +kernel
theorem d8_33 : decode prog_9_method_1_code 33 = .ok (.lload 7, 2) := by decide +kernel
theorem d8_35 : decode prog_9_method_1_code 35 = .ok (.putfield 28, 3) := by decide +kernel
theorem d8_38 : decode prog_9_method_1_code 38 = .ok (.aload_n 0, 1) := by decide +kernel
theorem d8_39 : decode prog_9_method_1_code 39 = .ok (.lload 9, 2) := by decide +kernel
theorem d8_41 : decode prog_9_method_1_code 41 = .ok (.putfield 31, 3) := by decide +kernel
theorem d8_44 : decode prog_9_method_1_code 44 = .ok (.aload_n 0, 1) := by decide +kernel
theorem d8_45 : decode prog_9_method_1_code 45 = .ok (.aload 11, 2) := by decide +kernel
theorem d8_47 : decode prog_9_method_1_code 47 = .ok (.putfield 34, 3) := by decide +kernel
theorem d8_50 : decode prog_9_method_1_code 50 = .ok (.return_, 1) := by decide +kernel
theorem pd_rmIr_0 : parseMethodDescriptor "()V" = some ⟨[], none⟩ := by decide +kernel
theorem pn_rmIr : plainName "com/example/always_once/alwaysonce/ledger/Job" = true := by first | (simp [plainName, overriddenIn]; done) | decide +kernel
theorem ef_rmIr (m : MethodId) (a1 : Addr) (id : Int64) (df : Addr) (fi : Addr) (ss : Addr) (cc : Addr) (sz : Int64) (rd : Int64) (fl : Addr) : entryFrame m #[(.ref a1), (.long id), (.ref df), (.ref fi), (.ref ss), (.ref cc), (.long sz), (.long rd), (.ref fl)] 12 = mkF m 0 #[.val (.ref a1), .val (.long id), .second, .val (.ref df), .val (.ref fi), .val (.ref ss), .val (.ref cc), .val (.long sz), .second, .val (.long rd), .second, .val (.ref fl)] [] := by first | (simp [entryFrame, mkF, argsToLocals, Value.category]; done) | rfl
def Q_rmIr (Z : State) (a1 : Addr) (id : Int64) (df : Addr) (fi : Addr) (ss : Addr) (cc : Addr) (sz : Int64) (rd : Int64) (fl : Addr)  (h0 : Heap) (n0 : Nat) (v : Option Value) (h : Heap) (L : List Loc) : Prop := v = none ∧ Fr n0 L ∧ Keep h0 h [a1] ∧ Fld Z h a1 "com/example/always_once/alwaysonce/ledger/Job" "id" "J" (.long id) ∧ Fld Z h a1 "com/example/always_once/alwaysonce/ledger/Job" "definition" "Ljava/lang/String;" (.ref df) ∧ Fld Z h a1 "com/example/always_once/alwaysonce/ledger/Job" "file" "Ljava/lang/String;" (.ref fi) ∧ Fld Z h a1 "com/example/always_once/alwaysonce/ledger/Job" "status" "Lcom/example/always_once/alwaysonce/ledger/JobStatus;" (.ref ss) ∧ Fld Z h a1 "com/example/always_once/alwaysonce/ledger/Job" "counts" "Lcom/example/always_once/alwaysonce/ledger/JobCounts;" (.ref cc) ∧ Fld Z h a1 "com/example/always_once/alwaysonce/ledger/Job" "size" "J" (.long sz) ∧ Fld Z h a1 "com/example/always_once/alwaysonce/ledger/Job" "read" "J" (.long rd) ∧ Fld Z h a1 "com/example/always_once/alwaysonce/ledger/Job" "failure" "Ljava/lang/String;" (.ref fl)
set_option maxRecDepth 65536 in
set_option maxHeartbeats 40000000 in
theorem rmIr (l : Launch) (Z : State) (a0 : Array Value) (hw : ∀ d ∈ tables_1, d.before a0 Z = true) (ws : List Jvm.Cond) (a1 : Addr) (id : Int64) (df : Addr) (fi : Addr) (ss : Addr) (cc : Addr) (sz : Int64) (rd : Int64) (fl : Addr)  (h0 : Heap) (n0 : Nat) (O0 : Old Z n0 h0) (Exa_a1 : Exa Z h0 a1 "com/example/always_once/alwaysonce/ledger/Job") (F_id_a1 : Fld Z h0 a1 "com/example/always_once/alwaysonce/ledger/Job" "id" "J" (.long (0 : Int64))) (F_definition_a1 : Fld Z h0 a1 "com/example/always_once/alwaysonce/ledger/Job" "definition" "Ljava/lang/String;" .null) (F_file_a1 : Fld Z h0 a1 "com/example/always_once/alwaysonce/ledger/Job" "file" "Ljava/lang/String;" .null) (F_status_a1 : Fld Z h0 a1 "com/example/always_once/alwaysonce/ledger/Job" "status" "Lcom/example/always_once/alwaysonce/ledger/JobStatus;" .null) (F_counts_a1 : Fld Z h0 a1 "com/example/always_once/alwaysonce/ledger/Job" "counts" "Lcom/example/always_once/alwaysonce/ledger/JobCounts;" .null) (F_size_a1 : Fld Z h0 a1 "com/example/always_once/alwaysonce/ledger/Job" "size" "J" (.long (0 : Int64))) (F_read_a1 : Fld Z h0 a1 "com/example/always_once/alwaysonce/ledger/Job" "read" "J" (.long (0 : Int64))) (F_failure_a1 : Fld Z h0 a1 "com/example/always_once/alwaysonce/ledger/Job" "failure" "Ljava/lang/String;" .null) (g1 : n0 ≤ a1) :
    MetFree l (⟨"com/example/always_once/alwaysonce/ledger/Job", "<init>", "(JLjava/lang/String;Ljava/lang/String;Lcom/example/always_once/alwaysonce/ledger/JobStatus;Lcom/example/always_once/alwaysonce/ledger/JobCounts;JJLjava/lang/String;)V"⟩ : MethodName) (head1 (Jvm.Cond.code (⟨"com/example/always_once/alwaysonce/ledger/Job", "<init>", "(JLjava/lang/String;Ljava/lang/String;Lcom/example/always_once/alwaysonce/ledger/JobStatus;Lcom/example/always_once/alwaysonce/ledger/JobCounts;JJLjava/lang/String;)V"⟩ : MethodName) prog_9_method_1_code 12 none :: ws) ({ frames := 2, cells := 0, slots := 0, locals := 24 } : Room)) (fun a U => a = #[(.ref a1), (.long id), (.ref df), (.ref fi), (.ref ss), (.ref cc), (.long sz), (.long rd), (.ref fl)] ∧ Z.Warmed39 U.vm ∧ U.heap = h0) (fun _ _ _ _ _ => True) (fun _ U o U' => ∃ v L, o = .returned v ∧ Q_rmIr Z a1 id df fi ss cc sz rd fl  h0 n0 v U'.heap L ∧ FrameEnd U o U' L ({ frames := 2, cells := 0, slots := 0, locals := 24 } : Room).cells ({ frames := 2, cells := 0, slots := 0, locals := 24 } : Room).slots) := by
  refine MetFree.of_bodySF (plainFor_of_name pn_rmIr) hisR ?_
  intro p e s m args below meth c s₁ Bd hml0 hP hK
  obtain ⟨rfl, hZ, hh⟩ := hP
  have hx := Bd.exec
  have hby := Bd.bytes
  have hml : c.maxLocals = 12 := hml0
  have hown : s.vm.findClass "com/example/always_once/alwaysonce/ledger/Job" = some m.cls := findClass_of_methodNamed Bd.named
  have hnm := (name_of_methodNamed Bd.named Bd.method).1
  have X0 : Stand p l e ({ frames := 2, cells := 0, slots := 0, locals := 24 } : Room) s m #[(.ref a1), (.long id), (.ref df), (.ref fi), (.ref ss), (.ref cc), (.long sz), (.long rd), (.ref fl)] below meth c s₁ [] 0 0 := Stand.of_body Bd
  have e0 : s₁.heap = h0 := by rw [← hh, Bd.state]; rfl
  have N0 := Fr.nil n0
  refine Gl.start (Q := Q_rmIr Z a1 id df fi ss cc sz rd fl  h0 n0) (ef_rmIr m a1 id df fi ss cc sz rd fl) ?_
  show Gl p e below s _ _ _ s₁ (mkF m 0 #[.val (.ref a1), .val (.long id), .second, .val (.ref df), .val (.ref fi), .val (.ref ss), .val (.ref cc), .val (.long sz), .second, .val (.long rd), .second, .val (.ref fl)] [])
  refine Gl.st (fun _ kk => XS.aloadN X0.here hx rfl (hb hby d8_0) rfl rfl kk) ?_
  show Gl p e below s _ _ _ s₁ (mkF m 1 #[.val (.ref a1), .val (.long id), .second, .val (.ref df), .val (.ref fi), .val (.ref ss), .val (.ref cc), .val (.long sz), .second, .val (.long rd), .second, .val (.ref fl)] [(.ref a1)])
  obtain ⟨_, _, ⟨T1, L1, k1, n1⟩, -, X1, ⟨Lc1, hQ1, l1, y1, z1⟩, st1⟩ := X0.specialBack hx (y := (⟨"java/lang/Record", "<init>", "()V"⟩ : MethodName)) rfl hown (mvT hZ (hw _ (List.mem_of_getElem? (i := 48) rfl))) (mvT hZ (hw _ (List.mem_of_getElem? (i := 49) rfl))) (mvT hZ (hw _ (List.mem_of_getElem? (i := 52) rfl))) (by decide) (backOf (W := 0) (rmR l Z a0 hw [] a1 h0 n0 O0) hZ (hw _ (List.mem_of_getElem? (i := 52) rfl)) (hw _ (List.mem_of_getElem? (i := 51) rfl)) (by decide) (by decide)) (g := (mkF m 1 #[.val (.ref a1), .val (.long id), .second, .val (.ref df), .val (.ref fi), .val (.ref ss), .val (.ref cc), .val (.long sz), .second, .val (.long rd), .second, .val (.ref fl)] [(.ref a1)])) rfl (by rw [hml]; rfl) (Steps.refl _) (a := a1) (argsL := []) (rest := []) (lenOf pd_rmIr_0 rfl) rfl (by show 2 * 0 + _ ≤ _; exact Nat.le_of_eq rfl) (hb hby d8_1) (fun _ _ => ⟨rfl, e0, (by decide : 0 + 0 ≤ _), (by decide : 0 + 0 ≤ _)⟩)
  dsimp only [Pt.U, Pt.locs, Pt.cells, Pt.slots] at X1 l1 y1 z1 st1 hQ1
  subst l1 y1 z1
  obtain ⟨rfl, Nq1, e1⟩ := hQ1
  have N1 := Fr.app N0 Nq1
  refine Gl.st (fun _ kk => st1.trans kk) ?_
  show Gl p e below s _ _ _ T1 (mkF m 4 #[.val (.ref a1), .val (.long id), .second, .val (.ref df), .val (.ref fi), .val (.ref ss), .val (.ref cc), .val (.long sz), .second, .val (.long rd), .second, .val (.ref fl)] [])
  refine Gl.st (fun _ kk => XS.aloadN X1.here hx rfl (hb hby d8_4) rfl rfl kk) ?_
  show Gl p e below s _ _ _ T1 (mkF m 5 #[.val (.ref a1), .val (.long id), .second, .val (.ref df), .val (.ref fi), .val (.ref ss), .val (.ref cc), .val (.long sz), .second, .val (.long rd), .second, .val (.ref fl)] [(.ref a1)])
  refine Gl.st (fun _ kk => XS.lloadN X1.here hx rfl (hb hby d8_5) rfl kk) ?_
  show Gl p e below s _ _ _ T1 (mkF m 6 #[.val (.ref a1), .val (.long id), .second, .val (.ref df), .val (.ref fi), .val (.ref ss), .val (.ref cc), .val (.long sz), .second, .val (.long rd), .second, .val (.ref fl)] [(.long id), (.ref a1)])
  obtain ⟨T2, h2, X2, e2, W2, st2⟩ := putF X1 hx hZ hown (host := "") (Or.inl (hw _ (List.mem_of_getElem? (i := 54) rfl))) Via.refl e1 F_id_a1 Exa_a1 (Or.inr ⟨(hw _ (List.mem_of_getElem? (i := 55) rfl)), rfl, hnm⟩) (hw _ (List.mem_of_getElem? (i := 43) rfl)) (ty := .long) (by decide) rfl rfl (g := (mkF m 6 #[.val (.ref a1), .val (.long id), .second, .val (.ref df), .val (.ref fi), .val (.ref ss), .val (.ref cc), .val (.long sz), .second, .val (.long rd), .second, .val (.ref fl)] [(.long id), (.ref a1)])) rfl rfl (hb hby d8_6)
  refine Gl.st st2 ?_
  have F_id_a1 := F_id_a1.same W2
  have Exa_a1 := Exa_a1.wr W2
  have F_definition_a1 := F_definition_a1.other W2 (Or.inr (slot_ne (Or.inr (hw _ (List.mem_of_getElem? (i := 57) rfl))) (Or.inr (hw _ (List.mem_of_getElem? (i := 55) rfl))) (by decide) (t := (.object "java/lang/String")) (t' := .long) (by decide) (by decide)))
  have F_file_a1 := F_file_a1.other W2 (Or.inr (slot_ne (Or.inr (hw _ (List.mem_of_getElem? (i := 59) rfl))) (Or.inr (hw _ (List.mem_of_getElem? (i := 55) rfl))) (by decide) (t := (.object "java/lang/String")) (t' := .long) (by decide) (by decide)))
  have F_status_a1 := F_status_a1.other W2 (Or.inr (slot_ne (Or.inr (hw _ (List.mem_of_getElem? (i := 61) rfl))) (Or.inr (hw _ (List.mem_of_getElem? (i := 55) rfl))) (by decide) (t := (.object "com/example/always_once/alwaysonce/ledger/JobStatus")) (t' := .long) (by decide) (by decide)))
  have F_counts_a1 := F_counts_a1.other W2 (Or.inr (slot_ne (Or.inr (hw _ (List.mem_of_getElem? (i := 63) rfl))) (Or.inr (hw _ (List.mem_of_getElem? (i := 55) rfl))) (by decide) (t := (.object "com/example/always_once/alwaysonce/ledger/JobCounts")) (t' := .long) (by decide) (by decide)))
  have F_size_a1 := F_size_a1.other W2 (Or.inr (slot_ne (Or.inr (hw _ (List.mem_of_getElem? (i := 65) rfl))) (Or.inr (hw _ (List.mem_of_getElem? (i := 55) rfl))) (by decide) (t := .long) (t' := .long) (by decide) (by decide)))
  have F_read_a1 := F_read_a1.other W2 (Or.inr (slot_ne (Or.inr (hw _ (List.mem_of_getElem? (i := 67) rfl))) (Or.inr (hw _ (List.mem_of_getElem? (i := 55) rfl))) (by decide) (t := .long) (t' := .long) (by decide) (by decide)))
  have F_failure_a1 := F_failure_a1.other W2 (Or.inr (slot_ne (Or.inr (hw _ (List.mem_of_getElem? (i := 69) rfl))) (Or.inr (hw _ (List.mem_of_getElem? (i := 55) rfl))) (by decide) (t := (.object "java/lang/String")) (t' := .long) (by decide) (by decide)))
  have O2 := O0.wr W2 g1
  have K2 := (Keep.refl h0 [a1]).wr W2 (Or.inl (List.mem_of_getElem? (i := 0) rfl))
  have N2 := Fr.snoc X2 N1 g1
  show Gl p e below s _ _ _ T2 (mkF m 9 #[.val (.ref a1), .val (.long id), .second, .val (.ref df), .val (.ref fi), .val (.ref ss), .val (.ref cc), .val (.long sz), .second, .val (.long rd), .second, .val (.ref fl)] [])
  refine Gl.st (fun _ kk => XS.aloadN X2.here hx rfl (hb hby d8_9) rfl rfl kk) ?_
  show Gl p e below s _ _ _ T2 (mkF m 10 #[.val (.ref a1), .val (.long id), .second, .val (.ref df), .val (.ref fi), .val (.ref ss), .val (.ref cc), .val (.long sz), .second, .val (.long rd), .second, .val (.ref fl)] [(.ref a1)])
  refine Gl.st (fun _ kk => XS.aloadN X2.here hx rfl (hb hby d8_10) rfl rfl kk) ?_
  show Gl p e below s _ _ _ T2 (mkF m 11 #[.val (.ref a1), .val (.long id), .second, .val (.ref df), .val (.ref fi), .val (.ref ss), .val (.ref cc), .val (.long sz), .second, .val (.long rd), .second, .val (.ref fl)] [(.ref df), (.ref a1)])
  obtain ⟨T3, h3, X3, e3, W3, st3⟩ := putF X2 hx hZ hown (host := "") (Or.inl (hw _ (List.mem_of_getElem? (i := 56) rfl))) Via.refl e2 F_definition_a1 Exa_a1 (Or.inr ⟨(hw _ (List.mem_of_getElem? (i := 57) rfl)), rfl, hnm⟩) (hw _ (List.mem_of_getElem? (i := 43) rfl)) (ty := (.object "java/lang/String")) (by decide) rfl rfl (g := (mkF m 11 #[.val (.ref a1), .val (.long id), .second, .val (.ref df), .val (.ref fi), .val (.ref ss), .val (.ref cc), .val (.long sz), .second, .val (.long rd), .second, .val (.ref fl)] [(.ref df), (.ref a1)])) rfl rfl (hb hby d8_11)
  refine Gl.st st3 ?_
  have F_definition_a1 := F_definition_a1.same W3
  have Exa_a1 := Exa_a1.wr W3
  have F_id_a1 := F_id_a1.other W3 (Or.inr (slot_ne (Or.inr (hw _ (List.mem_of_getElem? (i := 55) rfl))) (Or.inr (hw _ (List.mem_of_getElem? (i := 57) rfl))) (by decide) (t := .long) (t' := (.object "java/lang/String")) (by decide) (by decide)))
  have F_file_a1 := F_file_a1.other W3 (Or.inr (slot_ne (Or.inr (hw _ (List.mem_of_getElem? (i := 59) rfl))) (Or.inr (hw _ (List.mem_of_getElem? (i := 57) rfl))) (by decide) (t := (.object "java/lang/String")) (t' := (.object "java/lang/String")) (by decide) (by decide)))
  have F_status_a1 := F_status_a1.other W3 (Or.inr (slot_ne (Or.inr (hw _ (List.mem_of_getElem? (i := 61) rfl))) (Or.inr (hw _ (List.mem_of_getElem? (i := 57) rfl))) (by decide) (t := (.object "com/example/always_once/alwaysonce/ledger/JobStatus")) (t' := (.object "java/lang/String")) (by decide) (by decide)))
  have F_counts_a1 := F_counts_a1.other W3 (Or.inr (slot_ne (Or.inr (hw _ (List.mem_of_getElem? (i := 63) rfl))) (Or.inr (hw _ (List.mem_of_getElem? (i := 57) rfl))) (by decide) (t := (.object "com/example/always_once/alwaysonce/ledger/JobCounts")) (t' := (.object "java/lang/String")) (by decide) (by decide)))
  have F_size_a1 := F_size_a1.other W3 (Or.inr (slot_ne (Or.inr (hw _ (List.mem_of_getElem? (i := 65) rfl))) (Or.inr (hw _ (List.mem_of_getElem? (i := 57) rfl))) (by decide) (t := .long) (t' := (.object "java/lang/String")) (by decide) (by decide)))
  have F_read_a1 := F_read_a1.other W3 (Or.inr (slot_ne (Or.inr (hw _ (List.mem_of_getElem? (i := 67) rfl))) (Or.inr (hw _ (List.mem_of_getElem? (i := 57) rfl))) (by decide) (t := .long) (t' := (.object "java/lang/String")) (by decide) (by decide)))
  have F_failure_a1 := F_failure_a1.other W3 (Or.inr (slot_ne (Or.inr (hw _ (List.mem_of_getElem? (i := 69) rfl))) (Or.inr (hw _ (List.mem_of_getElem? (i := 57) rfl))) (by decide) (t := (.object "java/lang/String")) (t' := (.object "java/lang/String")) (by decide) (by decide)))
  have O3 := O2.wr W3 g1
  have K3 := K2.wr W3 (Or.inl (List.mem_of_getElem? (i := 0) rfl))
  have N3 := Fr.snoc X3 N2 g1
  show Gl p e below s _ _ _ T3 (mkF m 14 #[.val (.ref a1), .val (.long id), .second, .val (.ref df), .val (.ref fi), .val (.ref ss), .val (.ref cc), .val (.long sz), .second, .val (.long rd), .second, .val (.ref fl)] [])
  refine Gl.st (fun _ kk => XS.aloadN X3.here hx rfl (hb hby d8_14) rfl rfl kk) ?_
  show Gl p e below s _ _ _ T3 (mkF m 15 #[.val (.ref a1), .val (.long id), .second, .val (.ref df), .val (.ref fi), .val (.ref ss), .val (.ref cc), .val (.long sz), .second, .val (.long rd), .second, .val (.ref fl)] [(.ref a1)])
  refine Gl.st (fun _ kk => XS.aload X3.here hx rfl (hb hby d8_15) rfl rfl kk) ?_
  show Gl p e below s _ _ _ T3 (mkF m 17 #[.val (.ref a1), .val (.long id), .second, .val (.ref df), .val (.ref fi), .val (.ref ss), .val (.ref cc), .val (.long sz), .second, .val (.long rd), .second, .val (.ref fl)] [(.ref fi), (.ref a1)])
  obtain ⟨T4, h4, X4, e4, W4, st4⟩ := putF X3 hx hZ hown (host := "") (Or.inl (hw _ (List.mem_of_getElem? (i := 58) rfl))) Via.refl e3 F_file_a1 Exa_a1 (Or.inr ⟨(hw _ (List.mem_of_getElem? (i := 59) rfl)), rfl, hnm⟩) (hw _ (List.mem_of_getElem? (i := 43) rfl)) (ty := (.object "java/lang/String")) (by decide) rfl rfl (g := (mkF m 17 #[.val (.ref a1), .val (.long id), .second, .val (.ref df), .val (.ref fi), .val (.ref ss), .val (.ref cc), .val (.long sz), .second, .val (.long rd), .second, .val (.ref fl)] [(.ref fi), (.ref a1)])) rfl rfl (hb hby d8_17)
  refine Gl.st st4 ?_
  have F_file_a1 := F_file_a1.same W4
  have Exa_a1 := Exa_a1.wr W4
  have F_id_a1 := F_id_a1.other W4 (Or.inr (slot_ne (Or.inr (hw _ (List.mem_of_getElem? (i := 55) rfl))) (Or.inr (hw _ (List.mem_of_getElem? (i := 59) rfl))) (by decide) (t := .long) (t' := (.object "java/lang/String")) (by decide) (by decide)))
  have F_definition_a1 := F_definition_a1.other W4 (Or.inr (slot_ne (Or.inr (hw _ (List.mem_of_getElem? (i := 57) rfl))) (Or.inr (hw _ (List.mem_of_getElem? (i := 59) rfl))) (by decide) (t := (.object "java/lang/String")) (t' := (.object "java/lang/String")) (by decide) (by decide)))
  have F_status_a1 := F_status_a1.other W4 (Or.inr (slot_ne (Or.inr (hw _ (List.mem_of_getElem? (i := 61) rfl))) (Or.inr (hw _ (List.mem_of_getElem? (i := 59) rfl))) (by decide) (t := (.object "com/example/always_once/alwaysonce/ledger/JobStatus")) (t' := (.object "java/lang/String")) (by decide) (by decide)))
  have F_counts_a1 := F_counts_a1.other W4 (Or.inr (slot_ne (Or.inr (hw _ (List.mem_of_getElem? (i := 63) rfl))) (Or.inr (hw _ (List.mem_of_getElem? (i := 59) rfl))) (by decide) (t := (.object "com/example/always_once/alwaysonce/ledger/JobCounts")) (t' := (.object "java/lang/String")) (by decide) (by decide)))
  have F_size_a1 := F_size_a1.other W4 (Or.inr (slot_ne (Or.inr (hw _ (List.mem_of_getElem? (i := 65) rfl))) (Or.inr (hw _ (List.mem_of_getElem? (i := 59) rfl))) (by decide) (t := .long) (t' := (.object "java/lang/String")) (by decide) (by decide)))
  have F_read_a1 := F_read_a1.other W4 (Or.inr (slot_ne (Or.inr (hw _ (List.mem_of_getElem? (i := 67) rfl))) (Or.inr (hw _ (List.mem_of_getElem? (i := 59) rfl))) (by decide) (t := .long) (t' := (.object "java/lang/String")) (by decide) (by decide)))
  have F_failure_a1 := F_failure_a1.other W4 (Or.inr (slot_ne (Or.inr (hw _ (List.mem_of_getElem? (i := 69) rfl))) (Or.inr (hw _ (List.mem_of_getElem? (i := 59) rfl))) (by decide) (t := (.object "java/lang/String")) (t' := (.object "java/lang/String")) (by decide) (by decide)))
  have O4 := O3.wr W4 g1
  have K4 := K3.wr W4 (Or.inl (List.mem_of_getElem? (i := 0) rfl))
  have N4 := Fr.snoc X4 N3 g1
  show Gl p e below s _ _ _ T4 (mkF m 20 #[.val (.ref a1), .val (.long id), .second, .val (.ref df), .val (.ref fi), .val (.ref ss), .val (.ref cc), .val (.long sz), .second, .val (.long rd), .second, .val (.ref fl)] [])
  refine Gl.st (fun _ kk => XS.aloadN X4.here hx rfl (hb hby d8_20) rfl rfl kk) ?_
  show Gl p e below s _ _ _ T4 (mkF m 21 #[.val (.ref a1), .val (.long id), .second, .val (.ref df), .val (.ref fi), .val (.ref ss), .val (.ref cc), .val (.long sz), .second, .val (.long rd), .second, .val (.ref fl)] [(.ref a1)])
  refine Gl.st (fun _ kk => XS.aload X4.here hx rfl (hb hby d8_21) rfl rfl kk) ?_
  show Gl p e below s _ _ _ T4 (mkF m 23 #[.val (.ref a1), .val (.long id), .second, .val (.ref df), .val (.ref fi), .val (.ref ss), .val (.ref cc), .val (.long sz), .second, .val (.long rd), .second, .val (.ref fl)] [(.ref ss), (.ref a1)])
  obtain ⟨T5, h5, X5, e5, W5, st5⟩ := putF X4 hx hZ hown (host := "") (Or.inl (hw _ (List.mem_of_getElem? (i := 60) rfl))) Via.refl e4 F_status_a1 Exa_a1 (Or.inr ⟨(hw _ (List.mem_of_getElem? (i := 61) rfl)), rfl, hnm⟩) (hw _ (List.mem_of_getElem? (i := 43) rfl)) (ty := (.object "com/example/always_once/alwaysonce/ledger/JobStatus")) (by decide) rfl rfl (g := (mkF m 23 #[.val (.ref a1), .val (.long id), .second, .val (.ref df), .val (.ref fi), .val (.ref ss), .val (.ref cc), .val (.long sz), .second, .val (.long rd), .second, .val (.ref fl)] [(.ref ss), (.ref a1)])) rfl rfl (hb hby d8_23)
  refine Gl.st st5 ?_
  have F_status_a1 := F_status_a1.same W5
  have Exa_a1 := Exa_a1.wr W5
  have F_id_a1 := F_id_a1.other W5 (Or.inr (slot_ne (Or.inr (hw _ (List.mem_of_getElem? (i := 55) rfl))) (Or.inr (hw _ (List.mem_of_getElem? (i := 61) rfl))) (by decide) (t := .long) (t' := (.object "com/example/always_once/alwaysonce/ledger/JobStatus")) (by decide) (by decide)))
  have F_definition_a1 := F_definition_a1.other W5 (Or.inr (slot_ne (Or.inr (hw _ (List.mem_of_getElem? (i := 57) rfl))) (Or.inr (hw _ (List.mem_of_getElem? (i := 61) rfl))) (by decide) (t := (.object "java/lang/String")) (t' := (.object "com/example/always_once/alwaysonce/ledger/JobStatus")) (by decide) (by decide)))
  have F_file_a1 := F_file_a1.other W5 (Or.inr (slot_ne (Or.inr (hw _ (List.mem_of_getElem? (i := 59) rfl))) (Or.inr (hw _ (List.mem_of_getElem? (i := 61) rfl))) (by decide) (t := (.object "java/lang/String")) (t' := (.object "com/example/always_once/alwaysonce/ledger/JobStatus")) (by decide) (by decide)))
  have F_counts_a1 := F_counts_a1.other W5 (Or.inr (slot_ne (Or.inr (hw _ (List.mem_of_getElem? (i := 63) rfl))) (Or.inr (hw _ (List.mem_of_getElem? (i := 61) rfl))) (by decide) (t := (.object "com/example/always_once/alwaysonce/ledger/JobCounts")) (t' := (.object "com/example/always_once/alwaysonce/ledger/JobStatus")) (by decide) (by decide)))
  have F_size_a1 := F_size_a1.other W5 (Or.inr (slot_ne (Or.inr (hw _ (List.mem_of_getElem? (i := 65) rfl))) (Or.inr (hw _ (List.mem_of_getElem? (i := 61) rfl))) (by decide) (t := .long) (t' := (.object "com/example/always_once/alwaysonce/ledger/JobStatus")) (by decide) (by decide)))
  have F_read_a1 := F_read_a1.other W5 (Or.inr (slot_ne (Or.inr (hw _ (List.mem_of_getElem? (i := 67) rfl))) (Or.inr (hw _ (List.mem_of_getElem? (i := 61) rfl))) (by decide) (t := .long) (t' := (.object "com/example/always_once/alwaysonce/ledger/JobStatus")) (by decide) (by decide)))
  have F_failure_a1 := F_failure_a1.other W5 (Or.inr (slot_ne (Or.inr (hw _ (List.mem_of_getElem? (i := 69) rfl))) (Or.inr (hw _ (List.mem_of_getElem? (i := 61) rfl))) (by decide) (t := (.object "java/lang/String")) (t' := (.object "com/example/always_once/alwaysonce/ledger/JobStatus")) (by decide) (by decide)))
  have O5 := O4.wr W5 g1
  have K5 := K4.wr W5 (Or.inl (List.mem_of_getElem? (i := 0) rfl))
  have N5 := Fr.snoc X5 N4 g1
  show Gl p e below s _ _ _ T5 (mkF m 26 #[.val (.ref a1), .val (.long id), .second, .val (.ref df), .val (.ref fi), .val (.ref ss), .val (.ref cc), .val (.long sz), .second, .val (.long rd), .second, .val (.ref fl)] [])
  refine Gl.st (fun _ kk => XS.aloadN X5.here hx rfl (hb hby d8_26) rfl rfl kk) ?_
  show Gl p e below s _ _ _ T5 (mkF m 27 #[.val (.ref a1), .val (.long id), .second, .val (.ref df), .val (.ref fi), .val (.ref ss), .val (.ref cc), .val (.long sz), .second, .val (.long rd), .second, .val (.ref fl)] [(.ref a1)])
  refine Gl.st (fun _ kk => XS.aload X5.here hx rfl (hb hby d8_27) rfl rfl kk) ?_
  show Gl p e below s _ _ _ T5 (mkF m 29 #[.val (.ref a1), .val (.long id), .second, .val (.ref df), .val (.ref fi), .val (.ref ss), .val (.ref cc), .val (.long sz), .second, .val (.long rd), .second, .val (.ref fl)] [(.ref cc), (.ref a1)])
  obtain ⟨T6, h6, X6, e6, W6, st6⟩ := putF X5 hx hZ hown (host := "") (Or.inl (hw _ (List.mem_of_getElem? (i := 62) rfl))) Via.refl e5 F_counts_a1 Exa_a1 (Or.inr ⟨(hw _ (List.mem_of_getElem? (i := 63) rfl)), rfl, hnm⟩) (hw _ (List.mem_of_getElem? (i := 43) rfl)) (ty := (.object "com/example/always_once/alwaysonce/ledger/JobCounts")) (by decide) rfl rfl (g := (mkF m 29 #[.val (.ref a1), .val (.long id), .second, .val (.ref df), .val (.ref fi), .val (.ref ss), .val (.ref cc), .val (.long sz), .second, .val (.long rd), .second, .val (.ref fl)] [(.ref cc), (.ref a1)])) rfl rfl (hb hby d8_29)
  refine Gl.st st6 ?_
  have F_counts_a1 := F_counts_a1.same W6
  have Exa_a1 := Exa_a1.wr W6
  have F_id_a1 := F_id_a1.other W6 (Or.inr (slot_ne (Or.inr (hw _ (List.mem_of_getElem? (i := 55) rfl))) (Or.inr (hw _ (List.mem_of_getElem? (i := 63) rfl))) (by decide) (t := .long) (t' := (.object "com/example/always_once/alwaysonce/ledger/JobCounts")) (by decide) (by decide)))
  have F_definition_a1 := F_definition_a1.other W6 (Or.inr (slot_ne (Or.inr (hw _ (List.mem_of_getElem? (i := 57) rfl))) (Or.inr (hw _ (List.mem_of_getElem? (i := 63) rfl))) (by decide) (t := (.object "java/lang/String")) (t' := (.object "com/example/always_once/alwaysonce/ledger/JobCounts")) (by decide) (by decide)))
  have F_file_a1 := F_file_a1.other W6 (Or.inr (slot_ne (Or.inr (hw _ (List.mem_of_getElem? (i := 59) rfl))) (Or.inr (hw _ (List.mem_of_getElem? (i := 63) rfl))) (by decide) (t := (.object "java/lang/String")) (t' := (.object "com/example/always_once/alwaysonce/ledger/JobCounts")) (by decide) (by decide)))
  have F_status_a1 := F_status_a1.other W6 (Or.inr (slot_ne (Or.inr (hw _ (List.mem_of_getElem? (i := 61) rfl))) (Or.inr (hw _ (List.mem_of_getElem? (i := 63) rfl))) (by decide) (t := (.object "com/example/always_once/alwaysonce/ledger/JobStatus")) (t' := (.object "com/example/always_once/alwaysonce/ledger/JobCounts")) (by decide) (by decide)))
  have F_size_a1 := F_size_a1.other W6 (Or.inr (slot_ne (Or.inr (hw _ (List.mem_of_getElem? (i := 65) rfl))) (Or.inr (hw _ (List.mem_of_getElem? (i := 63) rfl))) (by decide) (t := .long) (t' := (.object "com/example/always_once/alwaysonce/ledger/JobCounts")) (by decide) (by decide)))
  have F_read_a1 := F_read_a1.other W6 (Or.inr (slot_ne (Or.inr (hw _ (List.mem_of_getElem? (i := 67) rfl))) (Or.inr (hw _ (List.mem_of_getElem? (i := 63) rfl))) (by decide) (t := .long) (t' := (.object "com/example/always_once/alwaysonce/ledger/JobCounts")) (by decide) (by decide)))
  have F_failure_a1 := F_failure_a1.other W6 (Or.inr (slot_ne (Or.inr (hw _ (List.mem_of_getElem? (i := 69) rfl))) (Or.inr (hw _ (List.mem_of_getElem? (i := 63) rfl))) (by decide) (t := (.object "java/lang/String")) (t' := (.object "com/example/always_once/alwaysonce/ledger/JobCounts")) (by decide) (by decide)))
  have O6 := O5.wr W6 g1
  have K6 := K5.wr W6 (Or.inl (List.mem_of_getElem? (i := 0) rfl))
  have N6 := Fr.snoc X6 N5 g1
  show Gl p e below s _ _ _ T6 (mkF m 32 #[.val (.ref a1), .val (.long id), .second, .val (.ref df), .val (.ref fi), .val (.ref ss), .val (.ref cc), .val (.long sz), .second, .val (.long rd), .second, .val (.ref fl)] [])
  refine Gl.st (fun _ kk => XS.aloadN X6.here hx rfl (hb hby d8_32) rfl rfl kk) ?_
  show Gl p e below s _ _ _ T6 (mkF m 33 #[.val (.ref a1), .val (.long id), .second, .val (.ref df), .val (.ref fi), .val (.ref ss), .val (.ref cc), .val (.long sz), .second, .val (.long rd), .second, .val (.ref fl)] [(.ref a1)])
  refine Gl.st (fun _ kk => XS.lload X6.here hx rfl (hb hby d8_33) rfl kk) ?_
  show Gl p e below s _ _ _ T6 (mkF m 35 #[.val (.ref a1), .val (.long id), .second, .val (.ref df), .val (.ref fi), .val (.ref ss), .val (.ref cc), .val (.long sz), .second, .val (.long rd), .second, .val (.ref fl)] [(.long sz), (.ref a1)])
  obtain ⟨T7, h7, X7, e7, W7, st7⟩ := putF X6 hx hZ hown (host := "") (Or.inl (hw _ (List.mem_of_getElem? (i := 64) rfl))) Via.refl e6 F_size_a1 Exa_a1 (Or.inr ⟨(hw _ (List.mem_of_getElem? (i := 65) rfl)), rfl, hnm⟩) (hw _ (List.mem_of_getElem? (i := 43) rfl)) (ty := .long) (by decide) rfl rfl (g := (mkF m 35 #[.val (.ref a1), .val (.long id), .second, .val (.ref df), .val (.ref fi), .val (.ref ss), .val (.ref cc), .val (.long sz), .second, .val (.long rd), .second, .val (.ref fl)] [(.long sz), (.ref a1)])) rfl rfl (hb hby d8_35)
  refine Gl.st st7 ?_
  have F_size_a1 := F_size_a1.same W7
  have Exa_a1 := Exa_a1.wr W7
  have F_id_a1 := F_id_a1.other W7 (Or.inr (slot_ne (Or.inr (hw _ (List.mem_of_getElem? (i := 55) rfl))) (Or.inr (hw _ (List.mem_of_getElem? (i := 65) rfl))) (by decide) (t := .long) (t' := .long) (by decide) (by decide)))
  have F_definition_a1 := F_definition_a1.other W7 (Or.inr (slot_ne (Or.inr (hw _ (List.mem_of_getElem? (i := 57) rfl))) (Or.inr (hw _ (List.mem_of_getElem? (i := 65) rfl))) (by decide) (t := (.object "java/lang/String")) (t' := .long) (by decide) (by decide)))
  have F_file_a1 := F_file_a1.other W7 (Or.inr (slot_ne (Or.inr (hw _ (List.mem_of_getElem? (i := 59) rfl))) (Or.inr (hw _ (List.mem_of_getElem? (i := 65) rfl))) (by decide) (t := (.object "java/lang/String")) (t' := .long) (by decide) (by decide)))
  have F_status_a1 := F_status_a1.other W7 (Or.inr (slot_ne (Or.inr (hw _ (List.mem_of_getElem? (i := 61) rfl))) (Or.inr (hw _ (List.mem_of_getElem? (i := 65) rfl))) (by decide) (t := (.object "com/example/always_once/alwaysonce/ledger/JobStatus")) (t' := .long) (by decide) (by decide)))
  have F_counts_a1 := F_counts_a1.other W7 (Or.inr (slot_ne (Or.inr (hw _ (List.mem_of_getElem? (i := 63) rfl))) (Or.inr (hw _ (List.mem_of_getElem? (i := 65) rfl))) (by decide) (t := (.object "com/example/always_once/alwaysonce/ledger/JobCounts")) (t' := .long) (by decide) (by decide)))
  have F_read_a1 := F_read_a1.other W7 (Or.inr (slot_ne (Or.inr (hw _ (List.mem_of_getElem? (i := 67) rfl))) (Or.inr (hw _ (List.mem_of_getElem? (i := 65) rfl))) (by decide) (t := .long) (t' := .long) (by decide) (by decide)))
  have F_failure_a1 := F_failure_a1.other W7 (Or.inr (slot_ne (Or.inr (hw _ (List.mem_of_getElem? (i := 69) rfl))) (Or.inr (hw _ (List.mem_of_getElem? (i := 65) rfl))) (by decide) (t := (.object "java/lang/String")) (t' := .long) (by decide) (by decide)))
  have O7 := O6.wr W7 g1
  have K7 := K6.wr W7 (Or.inl (List.mem_of_getElem? (i := 0) rfl))
  have N7 := Fr.snoc X7 N6 g1
  show Gl p e below s _ _ _ T7 (mkF m 38 #[.val (.ref a1), .val (.long id), .second, .val (.ref df), .val (.ref fi), .val (.ref ss), .val (.ref cc), .val (.long sz), .second, .val (.long rd), .second, .val (.ref fl)] [])
  refine Gl.st (fun _ kk => XS.aloadN X7.here hx rfl (hb hby d8_38) rfl rfl kk) ?_
  show Gl p e below s _ _ _ T7 (mkF m 39 #[.val (.ref a1), .val (.long id), .second, .val (.ref df), .val (.ref fi), .val (.ref ss), .val (.ref cc), .val (.long sz), .second, .val (.long rd), .second, .val (.ref fl)] [(.ref a1)])
  refine Gl.st (fun _ kk => XS.lload X7.here hx rfl (hb hby d8_39) rfl kk) ?_
  show Gl p e below s _ _ _ T7 (mkF m 41 #[.val (.ref a1), .val (.long id), .second, .val (.ref df), .val (.ref fi), .val (.ref ss), .val (.ref cc), .val (.long sz), .second, .val (.long rd), .second, .val (.ref fl)] [(.long rd), (.ref a1)])
  obtain ⟨T8, h8, X8, e8, W8, st8⟩ := putF X7 hx hZ hown (host := "") (Or.inl (hw _ (List.mem_of_getElem? (i := 66) rfl))) Via.refl e7 F_read_a1 Exa_a1 (Or.inr ⟨(hw _ (List.mem_of_getElem? (i := 67) rfl)), rfl, hnm⟩) (hw _ (List.mem_of_getElem? (i := 43) rfl)) (ty := .long) (by decide) rfl rfl (g := (mkF m 41 #[.val (.ref a1), .val (.long id), .second, .val (.ref df), .val (.ref fi), .val (.ref ss), .val (.ref cc), .val (.long sz), .second, .val (.long rd), .second, .val (.ref fl)] [(.long rd), (.ref a1)])) rfl rfl (hb hby d8_41)
  refine Gl.st st8 ?_
  have F_read_a1 := F_read_a1.same W8
  have Exa_a1 := Exa_a1.wr W8
  have F_id_a1 := F_id_a1.other W8 (Or.inr (slot_ne (Or.inr (hw _ (List.mem_of_getElem? (i := 55) rfl))) (Or.inr (hw _ (List.mem_of_getElem? (i := 67) rfl))) (by decide) (t := .long) (t' := .long) (by decide) (by decide)))
  have F_definition_a1 := F_definition_a1.other W8 (Or.inr (slot_ne (Or.inr (hw _ (List.mem_of_getElem? (i := 57) rfl))) (Or.inr (hw _ (List.mem_of_getElem? (i := 67) rfl))) (by decide) (t := (.object "java/lang/String")) (t' := .long) (by decide) (by decide)))
  have F_file_a1 := F_file_a1.other W8 (Or.inr (slot_ne (Or.inr (hw _ (List.mem_of_getElem? (i := 59) rfl))) (Or.inr (hw _ (List.mem_of_getElem? (i := 67) rfl))) (by decide) (t := (.object "java/lang/String")) (t' := .long) (by decide) (by decide)))
  have F_status_a1 := F_status_a1.other W8 (Or.inr (slot_ne (Or.inr (hw _ (List.mem_of_getElem? (i := 61) rfl))) (Or.inr (hw _ (List.mem_of_getElem? (i := 67) rfl))) (by decide) (t := (.object "com/example/always_once/alwaysonce/ledger/JobStatus")) (t' := .long) (by decide) (by decide)))
  have F_counts_a1 := F_counts_a1.other W8 (Or.inr (slot_ne (Or.inr (hw _ (List.mem_of_getElem? (i := 63) rfl))) (Or.inr (hw _ (List.mem_of_getElem? (i := 67) rfl))) (by decide) (t := (.object "com/example/always_once/alwaysonce/ledger/JobCounts")) (t' := .long) (by decide) (by decide)))
  have F_size_a1 := F_size_a1.other W8 (Or.inr (slot_ne (Or.inr (hw _ (List.mem_of_getElem? (i := 65) rfl))) (Or.inr (hw _ (List.mem_of_getElem? (i := 67) rfl))) (by decide) (t := .long) (t' := .long) (by decide) (by decide)))
  have F_failure_a1 := F_failure_a1.other W8 (Or.inr (slot_ne (Or.inr (hw _ (List.mem_of_getElem? (i := 69) rfl))) (Or.inr (hw _ (List.mem_of_getElem? (i := 67) rfl))) (by decide) (t := (.object "java/lang/String")) (t' := .long) (by decide) (by decide)))
  have O8 := O7.wr W8 g1
  have K8 := K7.wr W8 (Or.inl (List.mem_of_getElem? (i := 0) rfl))
  have N8 := Fr.snoc X8 N7 g1
  show Gl p e below s _ _ _ T8 (mkF m 44 #[.val (.ref a1), .val (.long id), .second, .val (.ref df), .val (.ref fi), .val (.ref ss), .val (.ref cc), .val (.long sz), .second, .val (.long rd), .second, .val (.ref fl)] [])
  refine Gl.st (fun _ kk => XS.aloadN X8.here hx rfl (hb hby d8_44) rfl rfl kk) ?_
  show Gl p e below s _ _ _ T8 (mkF m 45 #[.val (.ref a1), .val (.long id), .second, .val (.ref df), .val (.ref fi), .val (.ref ss), .val (.ref cc), .val (.long sz), .second, .val (.long rd), .second, .val (.ref fl)] [(.ref a1)])
  refine Gl.st (fun _ kk => XS.aload X8.here hx rfl (hb hby d8_45) rfl rfl kk) ?_
  show Gl p e below s _ _ _ T8 (mkF m 47 #[.val (.ref a1), .val (.long id), .second, .val (.ref df), .val (.ref fi), .val (.ref ss), .val (.ref cc), .val (.long sz), .second, .val (.long rd), .second, .val (.ref fl)] [(.ref fl), (.ref a1)])
  obtain ⟨T9, h9, X9, e9, W9, st9⟩ := putF X8 hx hZ hown (host := "") (Or.inl (hw _ (List.mem_of_getElem? (i := 68) rfl))) Via.refl e8 F_failure_a1 Exa_a1 (Or.inr ⟨(hw _ (List.mem_of_getElem? (i := 69) rfl)), rfl, hnm⟩) (hw _ (List.mem_of_getElem? (i := 43) rfl)) (ty := (.object "java/lang/String")) (by decide) rfl rfl (g := (mkF m 47 #[.val (.ref a1), .val (.long id), .second, .val (.ref df), .val (.ref fi), .val (.ref ss), .val (.ref cc), .val (.long sz), .second, .val (.long rd), .second, .val (.ref fl)] [(.ref fl), (.ref a1)])) rfl rfl (hb hby d8_47)
  refine Gl.st st9 ?_
  have F_failure_a1 := F_failure_a1.same W9
  have Exa_a1 := Exa_a1.wr W9
  have F_id_a1 := F_id_a1.other W9 (Or.inr (slot_ne (Or.inr (hw _ (List.mem_of_getElem? (i := 55) rfl))) (Or.inr (hw _ (List.mem_of_getElem? (i := 69) rfl))) (by decide) (t := .long) (t' := (.object "java/lang/String")) (by decide) (by decide)))
  have F_definition_a1 := F_definition_a1.other W9 (Or.inr (slot_ne (Or.inr (hw _ (List.mem_of_getElem? (i := 57) rfl))) (Or.inr (hw _ (List.mem_of_getElem? (i := 69) rfl))) (by decide) (t := (.object "java/lang/String")) (t' := (.object "java/lang/String")) (by decide) (by decide)))
  have F_file_a1 := F_file_a1.other W9 (Or.inr (slot_ne (Or.inr (hw _ (List.mem_of_getElem? (i := 59) rfl))) (Or.inr (hw _ (List.mem_of_getElem? (i := 69) rfl))) (by decide) (t := (.object "java/lang/String")) (t' := (.object "java/lang/String")) (by decide) (by decide)))
  have F_status_a1 := F_status_a1.other W9 (Or.inr (slot_ne (Or.inr (hw _ (List.mem_of_getElem? (i := 61) rfl))) (Or.inr (hw _ (List.mem_of_getElem? (i := 69) rfl))) (by decide) (t := (.object "com/example/always_once/alwaysonce/ledger/JobStatus")) (t' := (.object "java/lang/String")) (by decide) (by decide)))
  have F_counts_a1 := F_counts_a1.other W9 (Or.inr (slot_ne (Or.inr (hw _ (List.mem_of_getElem? (i := 63) rfl))) (Or.inr (hw _ (List.mem_of_getElem? (i := 69) rfl))) (by decide) (t := (.object "com/example/always_once/alwaysonce/ledger/JobCounts")) (t' := (.object "java/lang/String")) (by decide) (by decide)))
  have F_size_a1 := F_size_a1.other W9 (Or.inr (slot_ne (Or.inr (hw _ (List.mem_of_getElem? (i := 65) rfl))) (Or.inr (hw _ (List.mem_of_getElem? (i := 69) rfl))) (by decide) (t := .long) (t' := (.object "java/lang/String")) (by decide) (by decide)))
  have F_read_a1 := F_read_a1.other W9 (Or.inr (slot_ne (Or.inr (hw _ (List.mem_of_getElem? (i := 67) rfl))) (Or.inr (hw _ (List.mem_of_getElem? (i := 69) rfl))) (by decide) (t := .long) (t' := (.object "java/lang/String")) (by decide) (by decide)))
  have O9 := O8.wr W9 g1
  have K9 := K8.wr W9 (Or.inl (List.mem_of_getElem? (i := 0) rfl))
  have N9 := Fr.snoc X9 N8 g1
  show Gl p e below s _ _ _ T9 (mkF m 50 #[.val (.ref a1), .val (.long id), .second, .val (.ref df), .val (.ref fi), .val (.ref ss), .val (.ref cc), .val (.long sz), .second, .val (.long rd), .second, .val (.ref fl)] [])
  exact Gl.ret X9 (v := none) (fun _ => rfl) (BodyLoose.notSynchronized Bd) (fun hr => X9.returnOut hx Bd.returns (hb hby d8_50) hr) e9 ⟨rfl, N9, K9, F_id_a1, F_definition_a1, F_file_a1, F_status_a1, F_counts_a1, F_size_a1, F_read_a1, F_failure_a1⟩ (by decide) (by decide)
theorem pd_rmIn_0 : parseMethodDescriptor "()V" = some ⟨[], none⟩ := by decide +kernel
theorem pn_rmIn : plainName "com/example/always_once/alwaysonce/ledger/Job" = true := by first | (simp [plainName, overriddenIn]; done) | decide +kernel
theorem ef_rmIn (m : MethodId) (a1 : Addr) (id : Int64) (df : Addr) (fi : Addr) (ss : Addr) (cc : Addr) (sz : Int64) (rd : Int64) : entryFrame m #[(.ref a1), (.long id), (.ref df), (.ref fi), (.ref ss), (.ref cc), (.long sz), (.long rd), .null] 12 = mkF m 0 #[.val (.ref a1), .val (.long id), .second, .val (.ref df), .val (.ref fi), .val (.ref ss), .val (.ref cc), .val (.long sz), .second, .val (.long rd), .second, .val .null] [] := by first | (simp [entryFrame, mkF, argsToLocals, Value.category]; done) | rfl
def Q_rmIn (Z : State) (a1 : Addr) (id : Int64) (df : Addr) (fi : Addr) (ss : Addr) (cc : Addr) (sz : Int64) (rd : Int64)  (h0 : Heap) (n0 : Nat) (v : Option Value) (h : Heap) (L : List Loc) : Prop := v = none ∧ Fr n0 L ∧ Keep h0 h [a1] ∧ Fld Z h a1 "com/example/always_once/alwaysonce/ledger/Job" "id" "J" (.long id) ∧ Fld Z h a1 "com/example/always_once/alwaysonce/ledger/Job" "definition" "Ljava/lang/String;" (.ref df) ∧ Fld Z h a1 "com/example/always_once/alwaysonce/ledger/Job" "file" "Ljava/lang/String;" (.ref fi) ∧ Fld Z h a1 "com/example/always_once/alwaysonce/ledger/Job" "status" "Lcom/example/always_once/alwaysonce/ledger/JobStatus;" (.ref ss) ∧ Fld Z h a1 "com/example/always_once/alwaysonce/ledger/Job" "counts" "Lcom/example/always_once/alwaysonce/ledger/JobCounts;" (.ref cc) ∧ Fld Z h a1 "com/example/always_once/alwaysonce/ledger/Job" "size" "J" (.long sz) ∧ Fld Z h a1 "com/example/always_once/alwaysonce/ledger/Job" "read" "J" (.long rd) ∧ Fld Z h a1 "com/example/always_once/alwaysonce/ledger/Job" "failure" "Ljava/lang/String;" .null
set_option maxRecDepth 65536 in
set_option maxHeartbeats 40000000 in
theorem rmIn (l : Launch) (Z : State) (a0 : Array Value) (hw : ∀ d ∈ tables_1, d.before a0 Z = true) (ws : List Jvm.Cond) (a1 : Addr) (id : Int64) (df : Addr) (fi : Addr) (ss : Addr) (cc : Addr) (sz : Int64) (rd : Int64)  (h0 : Heap) (n0 : Nat) (O0 : Old Z n0 h0) (Exa_a1 : Exa Z h0 a1 "com/example/always_once/alwaysonce/ledger/Job") (F_id_a1 : Fld Z h0 a1 "com/example/always_once/alwaysonce/ledger/Job" "id" "J" (.long (0 : Int64))) (F_definition_a1 : Fld Z h0 a1 "com/example/always_once/alwaysonce/ledger/Job" "definition" "Ljava/lang/String;" .null) (F_file_a1 : Fld Z h0 a1 "com/example/always_once/alwaysonce/ledger/Job" "file" "Ljava/lang/String;" .null) (F_status_a1 : Fld Z h0 a1 "com/example/always_once/alwaysonce/ledger/Job" "status" "Lcom/example/always_once/alwaysonce/ledger/JobStatus;" .null) (F_counts_a1 : Fld Z h0 a1 "com/example/always_once/alwaysonce/ledger/Job" "counts" "Lcom/example/always_once/alwaysonce/ledger/JobCounts;" .null) (F_size_a1 : Fld Z h0 a1 "com/example/always_once/alwaysonce/ledger/Job" "size" "J" (.long (0 : Int64))) (F_read_a1 : Fld Z h0 a1 "com/example/always_once/alwaysonce/ledger/Job" "read" "J" (.long (0 : Int64))) (F_failure_a1 : Fld Z h0 a1 "com/example/always_once/alwaysonce/ledger/Job" "failure" "Ljava/lang/String;" .null) (g1 : n0 ≤ a1) :
    MetFree l (⟨"com/example/always_once/alwaysonce/ledger/Job", "<init>", "(JLjava/lang/String;Ljava/lang/String;Lcom/example/always_once/alwaysonce/ledger/JobStatus;Lcom/example/always_once/alwaysonce/ledger/JobCounts;JJLjava/lang/String;)V"⟩ : MethodName) (head1 (Jvm.Cond.code (⟨"com/example/always_once/alwaysonce/ledger/Job", "<init>", "(JLjava/lang/String;Ljava/lang/String;Lcom/example/always_once/alwaysonce/ledger/JobStatus;Lcom/example/always_once/alwaysonce/ledger/JobCounts;JJLjava/lang/String;)V"⟩ : MethodName) prog_9_method_1_code 12 none :: ws) ({ frames := 2, cells := 0, slots := 0, locals := 24 } : Room)) (fun a U => a = #[(.ref a1), (.long id), (.ref df), (.ref fi), (.ref ss), (.ref cc), (.long sz), (.long rd), .null] ∧ Z.Warmed39 U.vm ∧ U.heap = h0) (fun _ _ _ _ _ => True) (fun _ U o U' => ∃ v L, o = .returned v ∧ Q_rmIn Z a1 id df fi ss cc sz rd  h0 n0 v U'.heap L ∧ FrameEnd U o U' L ({ frames := 2, cells := 0, slots := 0, locals := 24 } : Room).cells ({ frames := 2, cells := 0, slots := 0, locals := 24 } : Room).slots) := by
  refine MetFree.of_bodySF (plainFor_of_name pn_rmIn) hisR ?_
  intro p e s m args below meth c s₁ Bd hml0 hP hK
  obtain ⟨rfl, hZ, hh⟩ := hP
  have hx := Bd.exec
  have hby := Bd.bytes
  have hml : c.maxLocals = 12 := hml0
  have hown : s.vm.findClass "com/example/always_once/alwaysonce/ledger/Job" = some m.cls := findClass_of_methodNamed Bd.named
  have hnm := (name_of_methodNamed Bd.named Bd.method).1
  have X0 : Stand p l e ({ frames := 2, cells := 0, slots := 0, locals := 24 } : Room) s m #[(.ref a1), (.long id), (.ref df), (.ref fi), (.ref ss), (.ref cc), (.long sz), (.long rd), .null] below meth c s₁ [] 0 0 := Stand.of_body Bd
  have e0 : s₁.heap = h0 := by rw [← hh, Bd.state]; rfl
  have N0 := Fr.nil n0
  refine Gl.start (Q := Q_rmIn Z a1 id df fi ss cc sz rd  h0 n0) (ef_rmIn m a1 id df fi ss cc sz rd) ?_
  show Gl p e below s _ _ _ s₁ (mkF m 0 #[.val (.ref a1), .val (.long id), .second, .val (.ref df), .val (.ref fi), .val (.ref ss), .val (.ref cc), .val (.long sz), .second, .val (.long rd), .second, .val .null] [])
  refine Gl.st (fun _ kk => XS.aloadN X0.here hx rfl (hb hby d8_0) rfl rfl kk) ?_
  show Gl p e below s _ _ _ s₁ (mkF m 1 #[.val (.ref a1), .val (.long id), .second, .val (.ref df), .val (.ref fi), .val (.ref ss), .val (.ref cc), .val (.long sz), .second, .val (.long rd), .second, .val .null] [(.ref a1)])
  obtain ⟨_, _, ⟨T1, L1, k1, n1⟩, -, X1, ⟨Lc1, hQ1, l1, y1, z1⟩, st1⟩ := X0.specialBack hx (y := (⟨"java/lang/Record", "<init>", "()V"⟩ : MethodName)) rfl hown (mvT hZ (hw _ (List.mem_of_getElem? (i := 48) rfl))) (mvT hZ (hw _ (List.mem_of_getElem? (i := 49) rfl))) (mvT hZ (hw _ (List.mem_of_getElem? (i := 52) rfl))) (by decide) (backOf (W := 0) (rmR l Z a0 hw [] a1 h0 n0 O0) hZ (hw _ (List.mem_of_getElem? (i := 52) rfl)) (hw _ (List.mem_of_getElem? (i := 51) rfl)) (by decide) (by decide)) (g := (mkF m 1 #[.val (.ref a1), .val (.long id), .second, .val (.ref df), .val (.ref fi), .val (.ref ss), .val (.ref cc), .val (.long sz), .second, .val (.long rd), .second, .val .null] [(.ref a1)])) rfl (by rw [hml]; rfl) (Steps.refl _) (a := a1) (argsL := []) (rest := []) (lenOf pd_rmIn_0 rfl) rfl (by show 2 * 0 + _ ≤ _; exact Nat.le_of_eq rfl) (hb hby d8_1) (fun _ _ => ⟨rfl, e0, (by decide : 0 + 0 ≤ _), (by decide : 0 + 0 ≤ _)⟩)
  dsimp only [Pt.U, Pt.locs, Pt.cells, Pt.slots] at X1 l1 y1 z1 st1 hQ1
  subst l1 y1 z1
  obtain ⟨rfl, Nq1, e1⟩ := hQ1
  have N1 := Fr.app N0 Nq1
  refine Gl.st (fun _ kk => st1.trans kk) ?_
  show Gl p e below s _ _ _ T1 (mkF m 4 #[.val (.ref a1), .val (.long id), .second, .val (.ref df), .val (.ref fi), .val (.ref ss), .val (.ref cc), .val (.long sz), .second, .val (.long rd), .second, .val .null] [])
  refine Gl.st (fun _ kk => XS.aloadN X1.here hx rfl (hb hby d8_4) rfl rfl kk) ?_
  show Gl p e below s _ _ _ T1 (mkF m 5 #[.val (.ref a1), .val (.long id), .second, .val (.ref df), .val (.ref fi), .val (.ref ss), .val (.ref cc), .val (.long sz), .second, .val (.long rd), .second, .val .null] [(.ref a1)])
  refine Gl.st (fun _ kk => XS.lloadN X1.here hx rfl (hb hby d8_5) rfl kk) ?_
  show Gl p e below s _ _ _ T1 (mkF m 6 #[.val (.ref a1), .val (.long id), .second, .val (.ref df), .val (.ref fi), .val (.ref ss), .val (.ref cc), .val (.long sz), .second, .val (.long rd), .second, .val .null] [(.long id), (.ref a1)])
  obtain ⟨T2, h2, X2, e2, W2, st2⟩ := putF X1 hx hZ hown (host := "") (Or.inl (hw _ (List.mem_of_getElem? (i := 54) rfl))) Via.refl e1 F_id_a1 Exa_a1 (Or.inr ⟨(hw _ (List.mem_of_getElem? (i := 55) rfl)), rfl, hnm⟩) (hw _ (List.mem_of_getElem? (i := 43) rfl)) (ty := .long) (by decide) rfl rfl (g := (mkF m 6 #[.val (.ref a1), .val (.long id), .second, .val (.ref df), .val (.ref fi), .val (.ref ss), .val (.ref cc), .val (.long sz), .second, .val (.long rd), .second, .val .null] [(.long id), (.ref a1)])) rfl rfl (hb hby d8_6)
  refine Gl.st st2 ?_
  have F_id_a1 := F_id_a1.same W2
  have Exa_a1 := Exa_a1.wr W2
  have F_definition_a1 := F_definition_a1.other W2 (Or.inr (slot_ne (Or.inr (hw _ (List.mem_of_getElem? (i := 57) rfl))) (Or.inr (hw _ (List.mem_of_getElem? (i := 55) rfl))) (by decide) (t := (.object "java/lang/String")) (t' := .long) (by decide) (by decide)))
  have F_file_a1 := F_file_a1.other W2 (Or.inr (slot_ne (Or.inr (hw _ (List.mem_of_getElem? (i := 59) rfl))) (Or.inr (hw _ (List.mem_of_getElem? (i := 55) rfl))) (by decide) (t := (.object "java/lang/String")) (t' := .long) (by decide) (by decide)))
  have F_status_a1 := F_status_a1.other W2 (Or.inr (slot_ne (Or.inr (hw _ (List.mem_of_getElem? (i := 61) rfl))) (Or.inr (hw _ (List.mem_of_getElem? (i := 55) rfl))) (by decide) (t := (.object "com/example/always_once/alwaysonce/ledger/JobStatus")) (t' := .long) (by decide) (by decide)))
  have F_counts_a1 := F_counts_a1.other W2 (Or.inr (slot_ne (Or.inr (hw _ (List.mem_of_getElem? (i := 63) rfl))) (Or.inr (hw _ (List.mem_of_getElem? (i := 55) rfl))) (by decide) (t := (.object "com/example/always_once/alwaysonce/ledger/JobCounts")) (t' := .long) (by decide) (by decide)))
  have F_size_a1 := F_size_a1.other W2 (Or.inr (slot_ne (Or.inr (hw _ (List.mem_of_getElem? (i := 65) rfl))) (Or.inr (hw _ (List.mem_of_getElem? (i := 55) rfl))) (by decide) (t := .long) (t' := .long) (by decide) (by decide)))
  have F_read_a1 := F_read_a1.other W2 (Or.inr (slot_ne (Or.inr (hw _ (List.mem_of_getElem? (i := 67) rfl))) (Or.inr (hw _ (List.mem_of_getElem? (i := 55) rfl))) (by decide) (t := .long) (t' := .long) (by decide) (by decide)))
  have F_failure_a1 := F_failure_a1.other W2 (Or.inr (slot_ne (Or.inr (hw _ (List.mem_of_getElem? (i := 69) rfl))) (Or.inr (hw _ (List.mem_of_getElem? (i := 55) rfl))) (by decide) (t := (.object "java/lang/String")) (t' := .long) (by decide) (by decide)))
  have O2 := O0.wr W2 g1
  have K2 := (Keep.refl h0 [a1]).wr W2 (Or.inl (List.mem_of_getElem? (i := 0) rfl))
  have N2 := Fr.snoc X2 N1 g1
  show Gl p e below s _ _ _ T2 (mkF m 9 #[.val (.ref a1), .val (.long id), .second, .val (.ref df), .val (.ref fi), .val (.ref ss), .val (.ref cc), .val (.long sz), .second, .val (.long rd), .second, .val .null] [])
  refine Gl.st (fun _ kk => XS.aloadN X2.here hx rfl (hb hby d8_9) rfl rfl kk) ?_
  show Gl p e below s _ _ _ T2 (mkF m 10 #[.val (.ref a1), .val (.long id), .second, .val (.ref df), .val (.ref fi), .val (.ref ss), .val (.ref cc), .val (.long sz), .second, .val (.long rd), .second, .val .null] [(.ref a1)])
  refine Gl.st (fun _ kk => XS.aloadN X2.here hx rfl (hb hby d8_10) rfl rfl kk) ?_
  show Gl p e below s _ _ _ T2 (mkF m 11 #[.val (.ref a1), .val (.long id), .second, .val (.ref df), .val (.ref fi), .val (.ref ss), .val (.ref cc), .val (.long sz), .second, .val (.long rd), .second, .val .null] [(.ref df), (.ref a1)])
  obtain ⟨T3, h3, X3, e3, W3, st3⟩ := putF X2 hx hZ hown (host := "") (Or.inl (hw _ (List.mem_of_getElem? (i := 56) rfl))) Via.refl e2 F_definition_a1 Exa_a1 (Or.inr ⟨(hw _ (List.mem_of_getElem? (i := 57) rfl)), rfl, hnm⟩) (hw _ (List.mem_of_getElem? (i := 43) rfl)) (ty := (.object "java/lang/String")) (by decide) rfl rfl (g := (mkF m 11 #[.val (.ref a1), .val (.long id), .second, .val (.ref df), .val (.ref fi), .val (.ref ss), .val (.ref cc), .val (.long sz), .second, .val (.long rd), .second, .val .null] [(.ref df), (.ref a1)])) rfl rfl (hb hby d8_11)
  refine Gl.st st3 ?_
  have F_definition_a1 := F_definition_a1.same W3
  have Exa_a1 := Exa_a1.wr W3
  have F_id_a1 := F_id_a1.other W3 (Or.inr (slot_ne (Or.inr (hw _ (List.mem_of_getElem? (i := 55) rfl))) (Or.inr (hw _ (List.mem_of_getElem? (i := 57) rfl))) (by decide) (t := .long) (t' := (.object "java/lang/String")) (by decide) (by decide)))
  have F_file_a1 := F_file_a1.other W3 (Or.inr (slot_ne (Or.inr (hw _ (List.mem_of_getElem? (i := 59) rfl))) (Or.inr (hw _ (List.mem_of_getElem? (i := 57) rfl))) (by decide) (t := (.object "java/lang/String")) (t' := (.object "java/lang/String")) (by decide) (by decide)))
  have F_status_a1 := F_status_a1.other W3 (Or.inr (slot_ne (Or.inr (hw _ (List.mem_of_getElem? (i := 61) rfl))) (Or.inr (hw _ (List.mem_of_getElem? (i := 57) rfl))) (by decide) (t := (.object "com/example/always_once/alwaysonce/ledger/JobStatus")) (t' := (.object "java/lang/String")) (by decide) (by decide)))
  have F_counts_a1 := F_counts_a1.other W3 (Or.inr (slot_ne (Or.inr (hw _ (List.mem_of_getElem? (i := 63) rfl))) (Or.inr (hw _ (List.mem_of_getElem? (i := 57) rfl))) (by decide) (t := (.object "com/example/always_once/alwaysonce/ledger/JobCounts")) (t' := (.object "java/lang/String")) (by decide) (by decide)))
  have F_size_a1 := F_size_a1.other W3 (Or.inr (slot_ne (Or.inr (hw _ (List.mem_of_getElem? (i := 65) rfl))) (Or.inr (hw _ (List.mem_of_getElem? (i := 57) rfl))) (by decide) (t := .long) (t' := (.object "java/lang/String")) (by decide) (by decide)))
  have F_read_a1 := F_read_a1.other W3 (Or.inr (slot_ne (Or.inr (hw _ (List.mem_of_getElem? (i := 67) rfl))) (Or.inr (hw _ (List.mem_of_getElem? (i := 57) rfl))) (by decide) (t := .long) (t' := (.object "java/lang/String")) (by decide) (by decide)))
  have F_failure_a1 := F_failure_a1.other W3 (Or.inr (slot_ne (Or.inr (hw _ (List.mem_of_getElem? (i := 69) rfl))) (Or.inr (hw _ (List.mem_of_getElem? (i := 57) rfl))) (by decide) (t := (.object "java/lang/String")) (t' := (.object "java/lang/String")) (by decide) (by decide)))
  have O3 := O2.wr W3 g1
  have K3 := K2.wr W3 (Or.inl (List.mem_of_getElem? (i := 0) rfl))
  have N3 := Fr.snoc X3 N2 g1
  show Gl p e below s _ _ _ T3 (mkF m 14 #[.val (.ref a1), .val (.long id), .second, .val (.ref df), .val (.ref fi), .val (.ref ss), .val (.ref cc), .val (.long sz), .second, .val (.long rd), .second, .val .null] [])
  refine Gl.st (fun _ kk => XS.aloadN X3.here hx rfl (hb hby d8_14) rfl rfl kk) ?_
  show Gl p e below s _ _ _ T3 (mkF m 15 #[.val (.ref a1), .val (.long id), .second, .val (.ref df), .val (.ref fi), .val (.ref ss), .val (.ref cc), .val (.long sz), .second, .val (.long rd), .second, .val .null] [(.ref a1)])
  refine Gl.st (fun _ kk => XS.aload X3.here hx rfl (hb hby d8_15) rfl rfl kk) ?_
  show Gl p e below s _ _ _ T3 (mkF m 17 #[.val (.ref a1), .val (.long id), .second, .val (.ref df), .val (.ref fi), .val (.ref ss), .val (.ref cc), .val (.long sz), .second, .val (.long rd), .second, .val .null] [(.ref fi), (.ref a1)])
  obtain ⟨T4, h4, X4, e4, W4, st4⟩ := putF X3 hx hZ hown (host := "") (Or.inl (hw _ (List.mem_of_getElem? (i := 58) rfl))) Via.refl e3 F_file_a1 Exa_a1 (Or.inr ⟨(hw _ (List.mem_of_getElem? (i := 59) rfl)), rfl, hnm⟩) (hw _ (List.mem_of_getElem? (i := 43) rfl)) (ty := (.object "java/lang/String")) (by decide) rfl rfl (g := (mkF m 17 #[.val (.ref a1), .val (.long id), .second, .val (.ref df), .val (.ref fi), .val (.ref ss), .val (.ref cc), .val (.long sz), .second, .val (.long rd), .second, .val .null] [(.ref fi), (.ref a1)])) rfl rfl (hb hby d8_17)
  refine Gl.st st4 ?_
  have F_file_a1 := F_file_a1.same W4
  have Exa_a1 := Exa_a1.wr W4
  have F_id_a1 := F_id_a1.other W4 (Or.inr (slot_ne (Or.inr (hw _ (List.mem_of_getElem? (i := 55) rfl))) (Or.inr (hw _ (List.mem_of_getElem? (i := 59) rfl))) (by decide) (t := .long) (t' := (.object "java/lang/String")) (by decide) (by decide)))
  have F_definition_a1 := F_definition_a1.other W4 (Or.inr (slot_ne (Or.inr (hw _ (List.mem_of_getElem? (i := 57) rfl))) (Or.inr (hw _ (List.mem_of_getElem? (i := 59) rfl))) (by decide) (t := (.object "java/lang/String")) (t' := (.object "java/lang/String")) (by decide) (by decide)))
  have F_status_a1 := F_status_a1.other W4 (Or.inr (slot_ne (Or.inr (hw _ (List.mem_of_getElem? (i := 61) rfl))) (Or.inr (hw _ (List.mem_of_getElem? (i := 59) rfl))) (by decide) (t := (.object "com/example/always_once/alwaysonce/ledger/JobStatus")) (t' := (.object "java/lang/String")) (by decide) (by decide)))
  have F_counts_a1 := F_counts_a1.other W4 (Or.inr (slot_ne (Or.inr (hw _ (List.mem_of_getElem? (i := 63) rfl))) (Or.inr (hw _ (List.mem_of_getElem? (i := 59) rfl))) (by decide) (t := (.object "com/example/always_once/alwaysonce/ledger/JobCounts")) (t' := (.object "java/lang/String")) (by decide) (by decide)))
  have F_size_a1 := F_size_a1.other W4 (Or.inr (slot_ne (Or.inr (hw _ (List.mem_of_getElem? (i := 65) rfl))) (Or.inr (hw _ (List.mem_of_getElem? (i := 59) rfl))) (by decide) (t := .long) (t' := (.object "java/lang/String")) (by decide) (by decide)))
  have F_read_a1 := F_read_a1.other W4 (Or.inr (slot_ne (Or.inr (hw _ (List.mem_of_getElem? (i := 67) rfl))) (Or.inr (hw _ (List.mem_of_getElem? (i := 59) rfl))) (by decide) (t := .long) (t' := (.object "java/lang/String")) (by decide) (by decide)))
  have F_failure_a1 := F_failure_a1.other W4 (Or.inr (slot_ne (Or.inr (hw _ (List.mem_of_getElem? (i := 69) rfl))) (Or.inr (hw _ (List.mem_of_getElem? (i := 59) rfl))) (by decide) (t := (.object "java/lang/String")) (t' := (.object "java/lang/String")) (by decide) (by decide)))
  have O4 := O3.wr W4 g1
  have K4 := K3.wr W4 (Or.inl (List.mem_of_getElem? (i := 0) rfl))
  have N4 := Fr.snoc X4 N3 g1
  show Gl p e below s _ _ _ T4 (mkF m 20 #[.val (.ref a1), .val (.long id), .second, .val (.ref df), .val (.ref fi), .val (.ref ss), .val (.ref cc), .val (.long sz), .second, .val (.long rd), .second, .val .null] [])
  refine Gl.st (fun _ kk => XS.aloadN X4.here hx rfl (hb hby d8_20) rfl rfl kk) ?_
  show Gl p e below s _ _ _ T4 (mkF m 21 #[.val (.ref a1), .val (.long id), .second, .val (.ref df), .val (.ref fi), .val (.ref ss), .val (.ref cc), .val (.long sz), .second, .val (.long rd), .second, .val .null] [(.ref a1)])
  refine Gl.st (fun _ kk => XS.aload X4.here hx rfl (hb hby d8_21) rfl rfl kk) ?_
  show Gl p e below s _ _ _ T4 (mkF m 23 #[.val (.ref a1), .val (.long id), .second, .val (.ref df), .val (.ref fi), .val (.ref ss), .val (.ref cc), .val (.long sz), .second, .val (.long rd), .second, .val .null] [(.ref ss), (.ref a1)])
  obtain ⟨T5, h5, X5, e5, W5, st5⟩ := putF X4 hx hZ hown (host := "") (Or.inl (hw _ (List.mem_of_getElem? (i := 60) rfl))) Via.refl e4 F_status_a1 Exa_a1 (Or.inr ⟨(hw _ (List.mem_of_getElem? (i := 61) rfl)), rfl, hnm⟩) (hw _ (List.mem_of_getElem? (i := 43) rfl)) (ty := (.object "com/example/always_once/alwaysonce/ledger/JobStatus")) (by decide) rfl rfl (g := (mkF m 23 #[.val (.ref a1), .val (.long id), .second, .val (.ref df), .val (.ref fi), .val (.ref ss), .val (.ref cc), .val (.long sz), .second, .val (.long rd), .second, .val .null] [(.ref ss), (.ref a1)])) rfl rfl (hb hby d8_23)
  refine Gl.st st5 ?_
  have F_status_a1 := F_status_a1.same W5
  have Exa_a1 := Exa_a1.wr W5
  have F_id_a1 := F_id_a1.other W5 (Or.inr (slot_ne (Or.inr (hw _ (List.mem_of_getElem? (i := 55) rfl))) (Or.inr (hw _ (List.mem_of_getElem? (i := 61) rfl))) (by decide) (t := .long) (t' := (.object "com/example/always_once/alwaysonce/ledger/JobStatus")) (by decide) (by decide)))
  have F_definition_a1 := F_definition_a1.other W5 (Or.inr (slot_ne (Or.inr (hw _ (List.mem_of_getElem? (i := 57) rfl))) (Or.inr (hw _ (List.mem_of_getElem? (i := 61) rfl))) (by decide) (t := (.object "java/lang/String")) (t' := (.object "com/example/always_once/alwaysonce/ledger/JobStatus")) (by decide) (by decide)))
  have F_file_a1 := F_file_a1.other W5 (Or.inr (slot_ne (Or.inr (hw _ (List.mem_of_getElem? (i := 59) rfl))) (Or.inr (hw _ (List.mem_of_getElem? (i := 61) rfl))) (by decide) (t := (.object "java/lang/String")) (t' := (.object "com/example/always_once/alwaysonce/ledger/JobStatus")) (by decide) (by decide)))
  have F_counts_a1 := F_counts_a1.other W5 (Or.inr (slot_ne (Or.inr (hw _ (List.mem_of_getElem? (i := 63) rfl))) (Or.inr (hw _ (List.mem_of_getElem? (i := 61) rfl))) (by decide) (t := (.object "com/example/always_once/alwaysonce/ledger/JobCounts")) (t' := (.object "com/example/always_once/alwaysonce/ledger/JobStatus")) (by decide) (by decide)))
  have F_size_a1 := F_size_a1.other W5 (Or.inr (slot_ne (Or.inr (hw _ (List.mem_of_getElem? (i := 65) rfl))) (Or.inr (hw _ (List.mem_of_getElem? (i := 61) rfl))) (by decide) (t := .long) (t' := (.object "com/example/always_once/alwaysonce/ledger/JobStatus")) (by decide) (by decide)))
  have F_read_a1 := F_read_a1.other W5 (Or.inr (slot_ne (Or.inr (hw _ (List.mem_of_getElem? (i := 67) rfl))) (Or.inr (hw _ (List.mem_of_getElem? (i := 61) rfl))) (by decide) (t := .long) (t' := (.object "com/example/always_once/alwaysonce/ledger/JobStatus")) (by decide) (by decide)))
  have F_failure_a1 := F_failure_a1.other W5 (Or.inr (slot_ne (Or.inr (hw _ (List.mem_of_getElem? (i := 69) rfl))) (Or.inr (hw _ (List.mem_of_getElem? (i := 61) rfl))) (by decide) (t := (.object "java/lang/String")) (t' := (.object "com/example/always_once/alwaysonce/ledger/JobStatus")) (by decide) (by decide)))
  have O5 := O4.wr W5 g1
  have K5 := K4.wr W5 (Or.inl (List.mem_of_getElem? (i := 0) rfl))
  have N5 := Fr.snoc X5 N4 g1
  show Gl p e below s _ _ _ T5 (mkF m 26 #[.val (.ref a1), .val (.long id), .second, .val (.ref df), .val (.ref fi), .val (.ref ss), .val (.ref cc), .val (.long sz), .second, .val (.long rd), .second, .val .null] [])
  refine Gl.st (fun _ kk => XS.aloadN X5.here hx rfl (hb hby d8_26) rfl rfl kk) ?_
  show Gl p e below s _ _ _ T5 (mkF m 27 #[.val (.ref a1), .val (.long id), .second, .val (.ref df), .val (.ref fi), .val (.ref ss), .val (.ref cc), .val (.long sz), .second, .val (.long rd), .second, .val .null] [(.ref a1)])
  refine Gl.st (fun _ kk => XS.aload X5.here hx rfl (hb hby d8_27) rfl rfl kk) ?_
  show Gl p e below s _ _ _ T5 (mkF m 29 #[.val (.ref a1), .val (.long id), .second, .val (.ref df), .val (.ref fi), .val (.ref ss), .val (.ref cc), .val (.long sz), .second, .val (.long rd), .second, .val .null] [(.ref cc), (.ref a1)])
  obtain ⟨T6, h6, X6, e6, W6, st6⟩ := putF X5 hx hZ hown (host := "") (Or.inl (hw _ (List.mem_of_getElem? (i := 62) rfl))) Via.refl e5 F_counts_a1 Exa_a1 (Or.inr ⟨(hw _ (List.mem_of_getElem? (i := 63) rfl)), rfl, hnm⟩) (hw _ (List.mem_of_getElem? (i := 43) rfl)) (ty := (.object "com/example/always_once/alwaysonce/ledger/JobCounts")) (by decide) rfl rfl (g := (mkF m 29 #[.val (.ref a1), .val (.long id), .second, .val (.ref df), .val (.ref fi), .val (.ref ss), .val (.ref cc), .val (.long sz), .second, .val (.long rd), .second, .val .null] [(.ref cc), (.ref a1)])) rfl rfl (hb hby d8_29)
  refine Gl.st st6 ?_
  have F_counts_a1 := F_counts_a1.same W6
  have Exa_a1 := Exa_a1.wr W6
  have F_id_a1 := F_id_a1.other W6 (Or.inr (slot_ne (Or.inr (hw _ (List.mem_of_getElem? (i := 55) rfl))) (Or.inr (hw _ (List.mem_of_getElem? (i := 63) rfl))) (by decide) (t := .long) (t' := (.object "com/example/always_once/alwaysonce/ledger/JobCounts")) (by decide) (by decide)))
  have F_definition_a1 := F_definition_a1.other W6 (Or.inr (slot_ne (Or.inr (hw _ (List.mem_of_getElem? (i := 57) rfl))) (Or.inr (hw _ (List.mem_of_getElem? (i := 63) rfl))) (by decide) (t := (.object "java/lang/String")) (t' := (.object "com/example/always_once/alwaysonce/ledger/JobCounts")) (by decide) (by decide)))
  have F_file_a1 := F_file_a1.other W6 (Or.inr (slot_ne (Or.inr (hw _ (List.mem_of_getElem? (i := 59) rfl))) (Or.inr (hw _ (List.mem_of_getElem? (i := 63) rfl))) (by decide) (t := (.object "java/lang/String")) (t' := (.object "com/example/always_once/alwaysonce/ledger/JobCounts")) (by decide) (by decide)))
  have F_status_a1 := F_status_a1.other W6 (Or.inr (slot_ne (Or.inr (hw _ (List.mem_of_getElem? (i := 61) rfl))) (Or.inr (hw _ (List.mem_of_getElem? (i := 63) rfl))) (by decide) (t := (.object "com/example/always_once/alwaysonce/ledger/JobStatus")) (t' := (.object "com/example/always_once/alwaysonce/ledger/JobCounts")) (by decide) (by decide)))
  have F_size_a1 := F_size_a1.other W6 (Or.inr (slot_ne (Or.inr (hw _ (List.mem_of_getElem? (i := 65) rfl))) (Or.inr (hw _ (List.mem_of_getElem? (i := 63) rfl))) (by decide) (t := .long) (t' := (.object "com/example/always_once/alwaysonce/ledger/JobCounts")) (by decide) (by decide)))
  have F_read_a1 := F_read_a1.other W6 (Or.inr (slot_ne (Or.inr (hw _ (List.mem_of_getElem? (i := 67) rfl))) (Or.inr (hw _ (List.mem_of_getElem? (i := 63) rfl))) (by decide) (t := .long) (t' := (.object "com/example/always_once/alwaysonce/ledger/JobCounts")) (by decide) (by decide)))
  have F_failure_a1 := F_failure_a1.other W6 (Or.inr (slot_ne (Or.inr (hw _ (List.mem_of_getElem? (i := 69) rfl))) (Or.inr (hw _ (List.mem_of_getElem? (i := 63) rfl))) (by decide) (t := (.object "java/lang/String")) (t' := (.object "com/example/always_once/alwaysonce/ledger/JobCounts")) (by decide) (by decide)))
  have O6 := O5.wr W6 g1
  have K6 := K5.wr W6 (Or.inl (List.mem_of_getElem? (i := 0) rfl))
  have N6 := Fr.snoc X6 N5 g1
  show Gl p e below s _ _ _ T6 (mkF m 32 #[.val (.ref a1), .val (.long id), .second, .val (.ref df), .val (.ref fi), .val (.ref ss), .val (.ref cc), .val (.long sz), .second, .val (.long rd), .second, .val .null] [])
  refine Gl.st (fun _ kk => XS.aloadN X6.here hx rfl (hb hby d8_32) rfl rfl kk) ?_
  show Gl p e below s _ _ _ T6 (mkF m 33 #[.val (.ref a1), .val (.long id), .second, .val (.ref df), .val (.ref fi), .val (.ref ss), .val (.ref cc), .val (.long sz), .second, .val (.long rd), .second, .val .null] [(.ref a1)])
  refine Gl.st (fun _ kk => XS.lload X6.here hx rfl (hb hby d8_33) rfl kk) ?_
  show Gl p e below s _ _ _ T6 (mkF m 35 #[.val (.ref a1), .val (.long id), .second, .val (.ref df), .val (.ref fi), .val (.ref ss), .val (.ref cc), .val (.long sz), .second, .val (.long rd), .second, .val .null] [(.long sz), (.ref a1)])
  obtain ⟨T7, h7, X7, e7, W7, st7⟩ := putF X6 hx hZ hown (host := "") (Or.inl (hw _ (List.mem_of_getElem? (i := 64) rfl))) Via.refl e6 F_size_a1 Exa_a1 (Or.inr ⟨(hw _ (List.mem_of_getElem? (i := 65) rfl)), rfl, hnm⟩) (hw _ (List.mem_of_getElem? (i := 43) rfl)) (ty := .long) (by decide) rfl rfl (g := (mkF m 35 #[.val (.ref a1), .val (.long id), .second, .val (.ref df), .val (.ref fi), .val (.ref ss), .val (.ref cc), .val (.long sz), .second, .val (.long rd), .second, .val .null] [(.long sz), (.ref a1)])) rfl rfl (hb hby d8_35)
  refine Gl.st st7 ?_
  have F_size_a1 := F_size_a1.same W7
  have Exa_a1 := Exa_a1.wr W7
  have F_id_a1 := F_id_a1.other W7 (Or.inr (slot_ne (Or.inr (hw _ (List.mem_of_getElem? (i := 55) rfl))) (Or.inr (hw _ (List.mem_of_getElem? (i := 65) rfl))) (by decide) (t := .long) (t' := .long) (by decide) (by decide)))
  have F_definition_a1 := F_definition_a1.other W7 (Or.inr (slot_ne (Or.inr (hw _ (List.mem_of_getElem? (i := 57) rfl))) (Or.inr (hw _ (List.mem_of_getElem? (i := 65) rfl))) (by decide) (t := (.object "java/lang/String")) (t' := .long) (by decide) (by decide)))
  have F_file_a1 := F_file_a1.other W7 (Or.inr (slot_ne (Or.inr (hw _ (List.mem_of_getElem? (i := 59) rfl))) (Or.inr (hw _ (List.mem_of_getElem? (i := 65) rfl))) (by decide) (t := (.object "java/lang/String")) (t' := .long) (by decide) (by decide)))
  have F_status_a1 := F_status_a1.other W7 (Or.inr (slot_ne (Or.inr (hw _ (List.mem_of_getElem? (i := 61) rfl))) (Or.inr (hw _ (List.mem_of_getElem? (i := 65) rfl))) (by decide) (t := (.object "com/example/always_once/alwaysonce/ledger/JobStatus")) (t' := .long) (by decide) (by decide)))
  have F_counts_a1 := F_counts_a1.other W7 (Or.inr (slot_ne (Or.inr (hw _ (List.mem_of_getElem? (i := 63) rfl))) (Or.inr (hw _ (List.mem_of_getElem? (i := 65) rfl))) (by decide) (t := (.object "com/example/always_once/alwaysonce/ledger/JobCounts")) (t' := .long) (by decide) (by decide)))
  have F_read_a1 := F_read_a1.other W7 (Or.inr (slot_ne (Or.inr (hw _ (List.mem_of_getElem? (i := 67) rfl))) (Or.inr (hw _ (List.mem_of_getElem? (i := 65) rfl))) (by decide) (t := .long) (t' := .long) (by decide) (by decide)))
  have F_failure_a1 := F_failure_a1.other W7 (Or.inr (slot_ne (Or.inr (hw _ (List.mem_of_getElem? (i := 69) rfl))) (Or.inr (hw _ (List.mem_of_getElem? (i := 65) rfl))) (by decide) (t := (.object "java/lang/String")) (t' := .long) (by decide) (by decide)))
  have O7 := O6.wr W7 g1
  have K7 := K6.wr W7 (Or.inl (List.mem_of_getElem? (i := 0) rfl))
  have N7 := Fr.snoc X7 N6 g1
  show Gl p e below s _ _ _ T7 (mkF m 38 #[.val (.ref a1), .val (.long id), .second, .val (.ref df), .val (.ref fi), .val (.ref ss), .val (.ref cc), .val (.long sz), .second, .val (.long rd), .second, .val .null] [])
  refine Gl.st (fun _ kk => XS.aloadN X7.here hx rfl (hb hby d8_38) rfl rfl kk) ?_
  show Gl p e below s _ _ _ T7 (mkF m 39 #[.val (.ref a1), .val (.long id), .second, .val (.ref df), .val (.ref fi), .val (.ref ss), .val (.ref cc), .val (.long sz), .second, .val (.long rd), .second, .val .null] [(.ref a1)])
  refine Gl.st (fun _ kk => XS.lload X7.here hx rfl (hb hby d8_39) rfl kk) ?_
  show Gl p e below s _ _ _ T7 (mkF m 41 #[.val (.ref a1), .val (.long id), .second, .val (.ref df), .val (.ref fi), .val (.ref ss), .val (.ref cc), .val (.long sz), .second, .val (.long rd), .second, .val .null] [(.long rd), (.ref a1)])
  obtain ⟨T8, h8, X8, e8, W8, st8⟩ := putF X7 hx hZ hown (host := "") (Or.inl (hw _ (List.mem_of_getElem? (i := 66) rfl))) Via.refl e7 F_read_a1 Exa_a1 (Or.inr ⟨(hw _ (List.mem_of_getElem? (i := 67) rfl)), rfl, hnm⟩) (hw _ (List.mem_of_getElem? (i := 43) rfl)) (ty := .long) (by decide) rfl rfl (g := (mkF m 41 #[.val (.ref a1), .val (.long id), .second, .val (.ref df), .val (.ref fi), .val (.ref ss), .val (.ref cc), .val (.long sz), .second, .val (.long rd), .second, .val .null] [(.long rd), (.ref a1)])) rfl rfl (hb hby d8_41)
  refine Gl.st st8 ?_
  have F_read_a1 := F_read_a1.same W8
  have Exa_a1 := Exa_a1.wr W8
  have F_id_a1 := F_id_a1.other W8 (Or.inr (slot_ne (Or.inr (hw _ (List.mem_of_getElem? (i := 55) rfl))) (Or.inr (hw _ (List.mem_of_getElem? (i := 67) rfl))) (by decide) (t := .long) (t' := .long) (by decide) (by decide)))
  have F_definition_a1 := F_definition_a1.other W8 (Or.inr (slot_ne (Or.inr (hw _ (List.mem_of_getElem? (i := 57) rfl))) (Or.inr (hw _ (List.mem_of_getElem? (i := 67) rfl))) (by decide) (t := (.object "java/lang/String")) (t' := .long) (by decide) (by decide)))
  have F_file_a1 := F_file_a1.other W8 (Or.inr (slot_ne (Or.inr (hw _ (List.mem_of_getElem? (i := 59) rfl))) (Or.inr (hw _ (List.mem_of_getElem? (i := 67) rfl))) (by decide) (t := (.object "java/lang/String")) (t' := .long) (by decide) (by decide)))
  have F_status_a1 := F_status_a1.other W8 (Or.inr (slot_ne (Or.inr (hw _ (List.mem_of_getElem? (i := 61) rfl))) (Or.inr (hw _ (List.mem_of_getElem? (i := 67) rfl))) (by decide) (t := (.object "com/example/always_once/alwaysonce/ledger/JobStatus")) (t' := .long) (by decide) (by decide)))
  have F_counts_a1 := F_counts_a1.other W8 (Or.inr (slot_ne (Or.inr (hw _ (List.mem_of_getElem? (i := 63) rfl))) (Or.inr (hw _ (List.mem_of_getElem? (i := 67) rfl))) (by decide) (t := (.object "com/example/always_once/alwaysonce/ledger/JobCounts")) (t' := .long) (by decide) (by decide)))
  have F_size_a1 := F_size_a1.other W8 (Or.inr (slot_ne (Or.inr (hw _ (List.mem_of_getElem? (i := 65) rfl))) (Or.inr (hw _ (List.mem_of_getElem? (i := 67) rfl))) (by decide) (t := .long) (t' := .long) (by decide) (by decide)))
  have F_failure_a1 := F_failure_a1.other W8 (Or.inr (slot_ne (Or.inr (hw _ (List.mem_of_getElem? (i := 69) rfl))) (Or.inr (hw _ (List.mem_of_getElem? (i := 67) rfl))) (by decide) (t := (.object "java/lang/String")) (t' := .long) (by decide) (by decide)))
  have O8 := O7.wr W8 g1
  have K8 := K7.wr W8 (Or.inl (List.mem_of_getElem? (i := 0) rfl))
  have N8 := Fr.snoc X8 N7 g1
  show Gl p e below s _ _ _ T8 (mkF m 44 #[.val (.ref a1), .val (.long id), .second, .val (.ref df), .val (.ref fi), .val (.ref ss), .val (.ref cc), .val (.long sz), .second, .val (.long rd), .second, .val .null] [])
  refine Gl.st (fun _ kk => XS.aloadN X8.here hx rfl (hb hby d8_44) rfl rfl kk) ?_
  show Gl p e below s _ _ _ T8 (mkF m 45 #[.val (.ref a1), .val (.long id), .second, .val (.ref df), .val (.ref fi), .val (.ref ss), .val (.ref cc), .val (.long sz), .second, .val (.long rd), .second, .val .null] [(.ref a1)])
  refine Gl.st (fun _ kk => XS.aload X8.here hx rfl (hb hby d8_45) rfl rfl kk) ?_
  show Gl p e below s _ _ _ T8 (mkF m 47 #[.val (.ref a1), .val (.long id), .second, .val (.ref df), .val (.ref fi), .val (.ref ss), .val (.ref cc), .val (.long sz), .second, .val (.long rd), .second, .val .null] [.null, (.ref a1)])
  obtain ⟨T9, h9, X9, e9, W9, st9⟩ := putF X8 hx hZ hown (host := "") (Or.inl (hw _ (List.mem_of_getElem? (i := 68) rfl))) Via.refl e8 F_failure_a1 Exa_a1 (Or.inr ⟨(hw _ (List.mem_of_getElem? (i := 69) rfl)), rfl, hnm⟩) (hw _ (List.mem_of_getElem? (i := 43) rfl)) (ty := (.object "java/lang/String")) (by decide) rfl rfl (g := (mkF m 47 #[.val (.ref a1), .val (.long id), .second, .val (.ref df), .val (.ref fi), .val (.ref ss), .val (.ref cc), .val (.long sz), .second, .val (.long rd), .second, .val .null] [.null, (.ref a1)])) rfl rfl (hb hby d8_47)
  refine Gl.st st9 ?_
  have F_failure_a1 := F_failure_a1.same W9
  have Exa_a1 := Exa_a1.wr W9
  have F_id_a1 := F_id_a1.other W9 (Or.inr (slot_ne (Or.inr (hw _ (List.mem_of_getElem? (i := 55) rfl))) (Or.inr (hw _ (List.mem_of_getElem? (i := 69) rfl))) (by decide) (t := .long) (t' := (.object "java/lang/String")) (by decide) (by decide)))
  have F_definition_a1 := F_definition_a1.other W9 (Or.inr (slot_ne (Or.inr (hw _ (List.mem_of_getElem? (i := 57) rfl))) (Or.inr (hw _ (List.mem_of_getElem? (i := 69) rfl))) (by decide) (t := (.object "java/lang/String")) (t' := (.object "java/lang/String")) (by decide) (by decide)))
  have F_file_a1 := F_file_a1.other W9 (Or.inr (slot_ne (Or.inr (hw _ (List.mem_of_getElem? (i := 59) rfl))) (Or.inr (hw _ (List.mem_of_getElem? (i := 69) rfl))) (by decide) (t := (.object "java/lang/String")) (t' := (.object "java/lang/String")) (by decide) (by decide)))
  have F_status_a1 := F_status_a1.other W9 (Or.inr (slot_ne (Or.inr (hw _ (List.mem_of_getElem? (i := 61) rfl))) (Or.inr (hw _ (List.mem_of_getElem? (i := 69) rfl))) (by decide) (t := (.object "com/example/always_once/alwaysonce/ledger/JobStatus")) (t' := (.object "java/lang/String")) (by decide) (by decide)))
  have F_counts_a1 := F_counts_a1.other W9 (Or.inr (slot_ne (Or.inr (hw _ (List.mem_of_getElem? (i := 63) rfl))) (Or.inr (hw _ (List.mem_of_getElem? (i := 69) rfl))) (by decide) (t := (.object "com/example/always_once/alwaysonce/ledger/JobCounts")) (t' := (.object "java/lang/String")) (by decide) (by decide)))
  have F_size_a1 := F_size_a1.other W9 (Or.inr (slot_ne (Or.inr (hw _ (List.mem_of_getElem? (i := 65) rfl))) (Or.inr (hw _ (List.mem_of_getElem? (i := 69) rfl))) (by decide) (t := .long) (t' := (.object "java/lang/String")) (by decide) (by decide)))
  have F_read_a1 := F_read_a1.other W9 (Or.inr (slot_ne (Or.inr (hw _ (List.mem_of_getElem? (i := 67) rfl))) (Or.inr (hw _ (List.mem_of_getElem? (i := 69) rfl))) (by decide) (t := .long) (t' := (.object "java/lang/String")) (by decide) (by decide)))
  have O9 := O8.wr W9 g1
  have K9 := K8.wr W9 (Or.inl (List.mem_of_getElem? (i := 0) rfl))
  have N9 := Fr.snoc X9 N8 g1
  show Gl p e below s _ _ _ T9 (mkF m 50 #[.val (.ref a1), .val (.long id), .second, .val (.ref df), .val (.ref fi), .val (.ref ss), .val (.ref cc), .val (.long sz), .second, .val (.long rd), .second, .val .null] [])
  exact Gl.ret X9 (v := none) (fun _ => rfl) (BodyLoose.notSynchronized Bd) (fun hr => X9.returnOut hx Bd.returns (hb hby d8_50) hr) e9 ⟨rfl, N9, K9, F_id_a1, F_definition_a1, F_file_a1, F_status_a1, F_counts_a1, F_size_a1, F_read_a1, F_failure_a1⟩ (by decide) (by decide)
theorem d10_0 : decode prog_9_method_2_code 0 = .ok (.new 8, 3) := by decide +kernel
theorem d10_3 : decode prog_9_method_2_code 3 = .ok (.dup, 1) := by decide +kernel
theorem d10_4 : decode prog_9_method_2_code 4 = .ok (.aload_n 0, 1) := by decide +kernel
theorem d10_5 : decode prog_9_method_2_code 5 = .ok (.getfield 7, 3) := by decide +kernel
theorem d10_8 : decode prog_9_method_2_code 8 = .ok (.aload_n 0, 1) := by decide +kernel
theorem d10_9 : decode prog_9_method_2_code 9 = .ok (.getfield 13, 3) := by decide +kernel
theorem d10_12 : decode prog_9_method_2_code 12 = .ok (.aload_n 0, 1) := by decide +kernel
theorem d10_13 : decode prog_9_method_2_code 13 = .ok (.getfield 17, 3) := by decide +kernel
theorem d10_16 : decode prog_9_method_2_code 16 = .ok (.aload_n 1, 1) := by decide +kernel
theorem d10_17 : decode prog_9_method_2_code 17 = .ok (.aload_n 2, 1) := by decide +kernel
theorem d10_18 : decode prog_9_method_2_code 18 = .ok (.aload_n 0, 1) := by decide +kernel
theorem d10_19 : decode prog_9_method_2_code 19 = .ok (.getfield 28, 3) := by decide +kernel
theorem d10_22 : decode prog_9_method_2_code 22 = .ok (.lload_n 3, 1) := by decide +kernel
theorem d10_23 : decode prog_9_method_2_code 23 = .ok (.aload 5, 2) := by decide +kernel
theorem d10_25 : decode prog_9_method_2_code 25 = .ok (.invokespecial 37, 3) := by decide +kernel
theorem d10_28 : decode prog_9_method_2_code 28 = .ok (.areturn, 1) := by decide +kernel
theorem pd_rmWr_0 : parseMethodDescriptor "(JLjava/lang/String;Ljava/lang/String;Lcom/example/always_once/alwaysonce/ledger/JobStatus;Lcom/example/always_once/alwaysonce/ledger/JobCounts;JJLjava/lang/String;)V" = some ⟨[.long, (.object "java/lang/String"), (.object "java/lang/String"), (.object "com/example/always_once/alwaysonce/ledger/JobStatus"), (.object "com/example/always_once/alwaysonce/ledger/JobCounts"), .long, .long, (.object "java/lang/String")], none⟩ := by decide +kernel
theorem pn_rmWr : plainName "com/example/always_once/alwaysonce/ledger/Job" = true := by first | (simp [plainName, overriddenIn]; done) | decide +kernel
theorem ef_rmWr (m : MethodId) (a1 : Addr) (ss : Addr) (cc : Addr) (rd : Int64) (fl : Addr) : entryFrame m #[(.ref a1), (.ref ss), (.ref cc), (.long rd), (.ref fl)] 6 = mkF m 0 #[.val (.ref a1), .val (.ref ss), .val (.ref cc), .val (.long rd), .second, .val (.ref fl)] [] := by first | (simp [entryFrame, mkF, argsToLocals, Value.category]; done) | rfl
def Q_rmWr (Z : State) (a1 : Addr) (ss : Addr) (cc : Addr) (rd : Int64) (fl : Addr) (id : Int64) (df fi : Addr) (sz : Int64) (h0 : Heap) (n0 : Nat) (v : Option Value) (h : Heap) (L : List Loc) : Prop := ∃ b, v = some (.ref b) ∧ Fr n0 L ∧ Keep h0 h [] ∧ Exa Z h b "com/example/always_once/alwaysonce/ledger/Job" ∧ Fld Z h b "com/example/always_once/alwaysonce/ledger/Job" "id" "J" (.long id) ∧ Fld Z h b "com/example/always_once/alwaysonce/ledger/Job" "definition" "Ljava/lang/String;" (.ref df) ∧ Fld Z h b "com/example/always_once/alwaysonce/ledger/Job" "file" "Ljava/lang/String;" (.ref fi) ∧ Fld Z h b "com/example/always_once/alwaysonce/ledger/Job" "status" "Lcom/example/always_once/alwaysonce/ledger/JobStatus;" (.ref ss) ∧ Fld Z h b "com/example/always_once/alwaysonce/ledger/Job" "counts" "Lcom/example/always_once/alwaysonce/ledger/JobCounts;" (.ref cc) ∧ Fld Z h b "com/example/always_once/alwaysonce/ledger/Job" "size" "J" (.long sz) ∧ Fld Z h b "com/example/always_once/alwaysonce/ledger/Job" "read" "J" (.long rd) ∧ Fld Z h b "com/example/always_once/alwaysonce/ledger/Job" "failure" "Ljava/lang/String;" (.ref fl) ∧ n0 ≤ b ∧ h0.size ≤ b
set_option maxRecDepth 65536 in
set_option maxHeartbeats 40000000 in
theorem rmWr (l : Launch) (Z : State) (a0 : Array Value) (hw : ∀ d ∈ tables_1, d.before a0 Z = true) (ws : List Jvm.Cond) (a1 : Addr) (ss : Addr) (cc : Addr) (rd : Int64) (fl : Addr) (id : Int64) (df fi : Addr) (sz : Int64) (h0 : Heap) (n0 : Nat) (O0 : Old Z n0 h0) (F_id_a1 : Fld Z h0 a1 "com/example/always_once/alwaysonce/ledger/Job" "id" "J" (.long id)) (F_definition_a1 : Fld Z h0 a1 "com/example/always_once/alwaysonce/ledger/Job" "definition" "Ljava/lang/String;" (.ref df)) (F_file_a1 : Fld Z h0 a1 "com/example/always_once/alwaysonce/ledger/Job" "file" "Ljava/lang/String;" (.ref fi)) (F_size_a1 : Fld Z h0 a1 "com/example/always_once/alwaysonce/ledger/Job" "size" "J" (.long sz)) :
    MetFree l (⟨"com/example/always_once/alwaysonce/ledger/Job", "with", "(Lcom/example/always_once/alwaysonce/ledger/JobStatus;Lcom/example/always_once/alwaysonce/ledger/JobCounts;JLjava/lang/String;)Lcom/example/always_once/alwaysonce/ledger/Job;"⟩ : MethodName) (head1 (Jvm.Cond.code (⟨"com/example/always_once/alwaysonce/ledger/Job", "with", "(Lcom/example/always_once/alwaysonce/ledger/JobStatus;Lcom/example/always_once/alwaysonce/ledger/JobCounts;JLjava/lang/String;)Lcom/example/always_once/alwaysonce/ledger/Job;"⟩ : MethodName) prog_9_method_2_code 6 (some (.object "com/example/always_once/alwaysonce/ledger/Job")) :: ws) ({ frames := 3, cells := 1, slots := 8, locals := 48 } : Room)) (fun a U => a = #[(.ref a1), (.ref ss), (.ref cc), (.long rd), (.ref fl)] ∧ Z.Warmed39 U.vm ∧ U.heap = h0) (fun _ _ _ _ _ => True) (fun _ U o U' => ∃ v L, o = .returned v ∧ Q_rmWr Z a1 ss cc rd fl id df fi sz h0 n0 v U'.heap L ∧ FrameEnd U o U' L ({ frames := 3, cells := 1, slots := 8, locals := 48 } : Room).cells ({ frames := 3, cells := 1, slots := 8, locals := 48 } : Room).slots) := by
  refine MetFree.of_bodySF (plainFor_of_name pn_rmWr) hisR ?_
  intro p e s m args below meth c s₁ Bd hml0 hP hK
  obtain ⟨rfl, hZ, hh⟩ := hP
  have hx := Bd.exec
  have hby := Bd.bytes
  have hml : c.maxLocals = 6 := hml0
  have hown : s.vm.findClass "com/example/always_once/alwaysonce/ledger/Job" = some m.cls := findClass_of_methodNamed Bd.named
  have hnm := (name_of_methodNamed Bd.named Bd.method).1
  have X0 : Stand p l e ({ frames := 3, cells := 1, slots := 8, locals := 48 } : Room) s m #[(.ref a1), (.ref ss), (.ref cc), (.long rd), (.ref fl)] below meth c s₁ [] 0 0 := Stand.of_body Bd
  have e0 : s₁.heap = h0 := by rw [← hh, Bd.state]; rfl
  have N0 := Fr.nil n0
  refine Gl.start (Q := Q_rmWr Z a1 ss cc rd fl id df fi sz h0 n0) (ef_rmWr m a1 ss cc rd fl) ?_
  show Gl p e below s _ _ _ s₁ (mkF m 0 #[.val (.ref a1), .val (.ref ss), .val (.ref cc), .val (.long rd), .second, .val (.ref fl)] [])
  obtain ⟨T1, h1, X1, e1, E1, A1, D1, V1, st1⟩ := newO X0 hx hZ hown (hw _ (List.mem_of_getElem? (i := 75) rfl)) (hw _ (List.mem_of_getElem? (i := 43) rfl)) (hw _ (List.mem_of_getElem? (i := 44) rfl)) e0 (g := (mkF m 0 #[.val (.ref a1), .val (.ref ss), .val (.ref cc), .val (.long rd), .second, .val (.ref fl)] [])) rfl (hb hby d10_0) (by decide) (by decide)
  obtain ⟨b1, g1⟩ : ∃ z, z = h0.size := ⟨_, rfl⟩
  rw [← g1] at A1 D1 V1 st1
  refine Gl.st st1 ?_
  have ne_a1_b1 : a1 ≠ b1 := Nat.ne_of_lt (Nat.lt_of_lt_of_eq F_id_a1.lt g1.symm)
  have ge_b1 : n0 ≤ b1 := Nat.le_trans (Nat.le_trans (Nat.le_of_eq O0.1.symm) O0.2.1) (Nat.le_of_eq g1.symm)
  have fr_b1 : h0.size ≤ b1 := Nat.le_trans (Nat.le_refl _) (Nat.le_of_eq g1.symm)
  have F_id_a1 := F_id_a1.ext E1
  have F_definition_a1 := F_definition_a1.ext E1
  have F_file_a1 := F_file_a1.ext E1
  have F_size_a1 := F_size_a1.ext E1
  have O1 := O0.ext E1
  have K1 := (Keep.refl h0 []).ext E1
  have Exa_b1 := A1
  have F_id_b1 : Fld Z h1 b1 "com/example/always_once/alwaysonce/ledger/Job" "id" "J" (.long (0 : Int64)) := D1 (Or.inr (hw _ (List.mem_of_getElem? (i := 55) rfl))) (ty := .long) (by decide)
  have F_definition_b1 : Fld Z h1 b1 "com/example/always_once/alwaysonce/ledger/Job" "definition" "Ljava/lang/String;" .null := D1 (Or.inr (hw _ (List.mem_of_getElem? (i := 57) rfl))) (ty := (.object "java/lang/String")) (by decide)
  have F_file_b1 : Fld Z h1 b1 "com/example/always_once/alwaysonce/ledger/Job" "file" "Ljava/lang/String;" .null := D1 (Or.inr (hw _ (List.mem_of_getElem? (i := 59) rfl))) (ty := (.object "java/lang/String")) (by decide)
  have F_status_b1 : Fld Z h1 b1 "com/example/always_once/alwaysonce/ledger/Job" "status" "Lcom/example/always_once/alwaysonce/ledger/JobStatus;" .null := D1 (Or.inr (hw _ (List.mem_of_getElem? (i := 61) rfl))) (ty := (.object "com/example/always_once/alwaysonce/ledger/JobStatus")) (by decide)
  have F_counts_b1 : Fld Z h1 b1 "com/example/always_once/alwaysonce/ledger/Job" "counts" "Lcom/example/always_once/alwaysonce/ledger/JobCounts;" .null := D1 (Or.inr (hw _ (List.mem_of_getElem? (i := 63) rfl))) (ty := (.object "com/example/always_once/alwaysonce/ledger/JobCounts")) (by decide)
  have F_size_b1 : Fld Z h1 b1 "com/example/always_once/alwaysonce/ledger/Job" "size" "J" (.long (0 : Int64)) := D1 (Or.inr (hw _ (List.mem_of_getElem? (i := 65) rfl))) (ty := .long) (by decide)
  have F_read_b1 : Fld Z h1 b1 "com/example/always_once/alwaysonce/ledger/Job" "read" "J" (.long (0 : Int64)) := D1 (Or.inr (hw _ (List.mem_of_getElem? (i := 67) rfl))) (ty := .long) (by decide)
  have F_failure_b1 : Fld Z h1 b1 "com/example/always_once/alwaysonce/ledger/Job" "failure" "Ljava/lang/String;" .null := D1 (Or.inr (hw _ (List.mem_of_getElem? (i := 69) rfl))) (ty := (.object "java/lang/String")) (by decide)
  show Gl p e below s _ _ _ T1 (mkF m 3 #[.val (.ref a1), .val (.ref ss), .val (.ref cc), .val (.long rd), .second, .val (.ref fl)] [(.ref b1)])
  refine Gl.st (fun _ kk => XS.dup X1.here hx rfl (hb hby d10_3) rfl rfl kk) ?_
  show Gl p e below s _ _ _ T1 (mkF m 4 #[.val (.ref a1), .val (.ref ss), .val (.ref cc), .val (.long rd), .second, .val (.ref fl)] [(.ref b1), (.ref b1)])
  refine Gl.st (fun _ kk => XS.aloadN X1.here hx rfl (hb hby d10_4) rfl rfl kk) ?_
  show Gl p e below s _ _ _ T1 (mkF m 5 #[.val (.ref a1), .val (.ref ss), .val (.ref cc), .val (.long rd), .second, .val (.ref fl)] [(.ref a1), (.ref b1), (.ref b1)])
  obtain ⟨T2, X2, e2, st2⟩ := getF X1 hx hZ hown (host := "") (Or.inl (hw _ (List.mem_of_getElem? (i := 54) rfl))) Via.refl e1 F_id_a1 (g := (mkF m 5 #[.val (.ref a1), .val (.ref ss), .val (.ref cc), .val (.long rd), .second, .val (.ref fl)] [(.ref a1), (.ref b1), (.ref b1)])) rfl rfl (hb hby d10_5)
  refine Gl.st st2 ?_
  show Gl p e below s _ _ _ T2 (mkF m 8 #[.val (.ref a1), .val (.ref ss), .val (.ref cc), .val (.long rd), .second, .val (.ref fl)] [(.long id), (.ref b1), (.ref b1)])
  refine Gl.st (fun _ kk => XS.aloadN X2.here hx rfl (hb hby d10_8) rfl rfl kk) ?_
  show Gl p e below s _ _ _ T2 (mkF m 9 #[.val (.ref a1), .val (.ref ss), .val (.ref cc), .val (.long rd), .second, .val (.ref fl)] [(.ref a1), (.long id), (.ref b1), (.ref b1)])
  obtain ⟨T3, X3, e3, st3⟩ := getF X2 hx hZ hown (host := "") (Or.inl (hw _ (List.mem_of_getElem? (i := 56) rfl))) Via.refl e2 F_definition_a1 (g := (mkF m 9 #[.val (.ref a1), .val (.ref ss), .val (.ref cc), .val (.long rd), .second, .val (.ref fl)] [(.ref a1), (.long id), (.ref b1), (.ref b1)])) rfl rfl (hb hby d10_9)
  refine Gl.st st3 ?_
  show Gl p e below s _ _ _ T3 (mkF m 12 #[.val (.ref a1), .val (.ref ss), .val (.ref cc), .val (.long rd), .second, .val (.ref fl)] [(.ref df), (.long id), (.ref b1), (.ref b1)])
  refine Gl.st (fun _ kk => XS.aloadN X3.here hx rfl (hb hby d10_12) rfl rfl kk) ?_
  show Gl p e below s _ _ _ T3 (mkF m 13 #[.val (.ref a1), .val (.ref ss), .val (.ref cc), .val (.long rd), .second, .val (.ref fl)] [(.ref a1), (.ref df), (.long id), (.ref b1), (.ref b1)])
  obtain ⟨T4, X4, e4, st4⟩ := getF X3 hx hZ hown (host := "") (Or.inl (hw _ (List.mem_of_getElem? (i := 58) rfl))) Via.refl e3 F_file_a1 (g := (mkF m 13 #[.val (.ref a1), .val (.ref ss), .val (.ref cc), .val (.long rd), .second, .val (.ref fl)] [(.ref a1), (.ref df), (.long id), (.ref b1), (.ref b1)])) rfl rfl (hb hby d10_13)
  refine Gl.st st4 ?_
  show Gl p e below s _ _ _ T4 (mkF m 16 #[.val (.ref a1), .val (.ref ss), .val (.ref cc), .val (.long rd), .second, .val (.ref fl)] [(.ref fi), (.ref df), (.long id), (.ref b1), (.ref b1)])
  refine Gl.st (fun _ kk => XS.aloadN X4.here hx rfl (hb hby d10_16) rfl rfl kk) ?_
  show Gl p e below s _ _ _ T4 (mkF m 17 #[.val (.ref a1), .val (.ref ss), .val (.ref cc), .val (.long rd), .second, .val (.ref fl)] [(.ref ss), (.ref fi), (.ref df), (.long id), (.ref b1), (.ref b1)])
  refine Gl.st (fun _ kk => XS.aloadN X4.here hx rfl (hb hby d10_17) rfl rfl kk) ?_
  show Gl p e below s _ _ _ T4 (mkF m 18 #[.val (.ref a1), .val (.ref ss), .val (.ref cc), .val (.long rd), .second, .val (.ref fl)] [(.ref cc), (.ref ss), (.ref fi), (.ref df), (.long id), (.ref b1), (.ref b1)])
  refine Gl.st (fun _ kk => XS.aloadN X4.here hx rfl (hb hby d10_18) rfl rfl kk) ?_
  show Gl p e below s _ _ _ T4 (mkF m 19 #[.val (.ref a1), .val (.ref ss), .val (.ref cc), .val (.long rd), .second, .val (.ref fl)] [(.ref a1), (.ref cc), (.ref ss), (.ref fi), (.ref df), (.long id), (.ref b1), (.ref b1)])
  obtain ⟨T5, X5, e5, st5⟩ := getF X4 hx hZ hown (host := "") (Or.inl (hw _ (List.mem_of_getElem? (i := 64) rfl))) Via.refl e4 F_size_a1 (g := (mkF m 19 #[.val (.ref a1), .val (.ref ss), .val (.ref cc), .val (.long rd), .second, .val (.ref fl)] [(.ref a1), (.ref cc), (.ref ss), (.ref fi), (.ref df), (.long id), (.ref b1), (.ref b1)])) rfl rfl (hb hby d10_19)
  refine Gl.st st5 ?_
  show Gl p e below s _ _ _ T5 (mkF m 22 #[.val (.ref a1), .val (.ref ss), .val (.ref cc), .val (.long rd), .second, .val (.ref fl)] [(.long sz), (.ref cc), (.ref ss), (.ref fi), (.ref df), (.long id), (.ref b1), (.ref b1)])
  refine Gl.st (fun _ kk => XS.lloadN X5.here hx rfl (hb hby d10_22) rfl kk) ?_
  show Gl p e below s _ _ _ T5 (mkF m 23 #[.val (.ref a1), .val (.ref ss), .val (.ref cc), .val (.long rd), .second, .val (.ref fl)] [(.long rd), (.long sz), (.ref cc), (.ref ss), (.ref fi), (.ref df), (.long id), (.ref b1), (.ref b1)])
  refine Gl.st (fun _ kk => XS.aload X5.here hx rfl (hb hby d10_23) rfl rfl kk) ?_
  show Gl p e below s _ _ _ T5 (mkF m 25 #[.val (.ref a1), .val (.ref ss), .val (.ref cc), .val (.long rd), .second, .val (.ref fl)] [(.ref fl), (.long rd), (.long sz), (.ref cc), (.ref ss), (.ref fi), (.ref df), (.long id), (.ref b1), (.ref b1)])
  obtain ⟨_, _, ⟨T6, L6, k6, n6⟩, -, X6, ⟨Lc6, hQ6, l6, y6, z6⟩, st6⟩ := X5.specialBack hx (y := (⟨"com/example/always_once/alwaysonce/ledger/Job", "<init>", "(JLjava/lang/String;Ljava/lang/String;Lcom/example/always_once/alwaysonce/ledger/JobStatus;Lcom/example/always_once/alwaysonce/ledger/JobCounts;JJLjava/lang/String;)V"⟩ : MethodName)) rfl hown (mvT hZ (hw _ (List.mem_of_getElem? (i := 76) rfl))) (mvT hZ (hw _ (List.mem_of_getElem? (i := 46) rfl))) (mvT hZ (hw _ (List.mem_of_getElem? (i := 47) rfl))) (by decide) (backOf (W := 1) (rmIr l Z a0 hw [] b1 id df fi ss cc sz rd fl h1 n0 O1 Exa_b1 F_id_b1 F_definition_b1 F_file_b1 F_status_b1 F_counts_b1 F_size_b1 F_read_b1 F_failure_b1 ge_b1) hZ (hw _ (List.mem_of_getElem? (i := 47) rfl)) (hw _ (List.mem_of_getElem? (i := 44) rfl)) (by decide) (by decide)) (g := (mkF m 25 #[.val (.ref a1), .val (.ref ss), .val (.ref cc), .val (.long rd), .second, .val (.ref fl)] [(.ref fl), (.long rd), (.long sz), (.ref cc), (.ref ss), (.ref fi), (.ref df), (.long id), (.ref b1), (.ref b1)])) rfl (by rw [hml]; rfl) (Steps.refl _) (a := b1) (argsL := [(.long id), (.ref df), (.ref fi), (.ref ss), (.ref cc), (.long sz), (.long rd), (.ref fl)]) (rest := [(.ref b1)]) (lenOf pd_rmWr_0 rfl) rfl (by show 2 * 0 + _ ≤ _; exact Nat.le_of_eq rfl) (hb hby d10_25) (fun _ _ => ⟨rfl, e5, (by decide : 1 + 0 ≤ _), (by decide : 8 + 0 ≤ _)⟩)
  dsimp only [Pt.U, Pt.locs, Pt.cells, Pt.slots] at X6 l6 y6 z6 st6 hQ6
  subst l6 y6 z6
  obtain ⟨h6, e6⟩ : ∃ z, T6.heap = z := ⟨_, rfl⟩
  rw [e6] at hQ6
  obtain ⟨rfl, Nq6, Kq6, F_id_q6, F_definition_q6, F_file_q6, F_status_q6, F_counts_q6, F_size_q6, F_read_q6, F_failure_q6⟩ := hQ6
  have N6 := Fr.app N0 Nq6
  refine Gl.st (fun _ kk => st6.trans kk) ?_
  have F_id_a1 := F_id_a1.keep Kq6 (ninS ne_a1_b1 nin0)
  have F_definition_a1 := F_definition_a1.keep Kq6 (ninS ne_a1_b1 nin0)
  have F_file_a1 := F_file_a1.keep Kq6 (ninS ne_a1_b1 nin0)
  have F_size_a1 := F_size_a1.keep Kq6 (ninS ne_a1_b1 nin0)
  have Exa_b1 := Exa_b1.keep Kq6
  have O6 := O1.keep Kq6 (allS ge_b1 all0)
  have K6 := K1.trans Kq6 (allS (Or.inr fr_b1) all0)
  have F_id_b1 := F_id_q6
  have F_definition_b1 := F_definition_q6
  have F_file_b1 := F_file_q6
  have F_status_b1 := F_status_q6
  have F_counts_b1 := F_counts_q6
  have F_size_b1 := F_size_q6
  have F_read_b1 := F_read_q6
  have F_failure_b1 := F_failure_q6
  show Gl p e below s _ _ _ T6 (mkF m 28 #[.val (.ref a1), .val (.ref ss), .val (.ref cc), .val (.long rd), .second, .val (.ref fl)] [(.ref b1)])
  exact Gl.ret X6 (v := (some (.ref b1))) (fun h => by rw [Bd.returns] at h; cases h) (BodyLoose.notSynchronized Bd) (fun hr => retOut X6 hx Bd.returns rfl (Or.inr (Or.inr (Or.inr (Or.inr ⟨rfl, rfl, rfl⟩)))) (hb hby d10_28) hr) e6 ⟨b1, rfl, N6, K6, Exa_b1, F_id_b1, F_definition_b1, F_file_b1, F_status_b1, F_counts_b1, F_size_b1, F_read_b1, F_failure_b1, ge_b1, fr_b1⟩ (by decide) (by decide)
theorem pd_rmWn_0 : parseMethodDescriptor "(JLjava/lang/String;Ljava/lang/String;Lcom/example/always_once/alwaysonce/ledger/JobStatus;Lcom/example/always_once/alwaysonce/ledger/JobCounts;JJLjava/lang/String;)V" = some ⟨[.long, (.object "java/lang/String"), (.object "java/lang/String"), (.object "com/example/always_once/alwaysonce/ledger/JobStatus"), (.object "com/example/always_once/alwaysonce/ledger/JobCounts"), .long, .long, (.object "java/lang/String")], none⟩ := by decide +kernel
theorem pn_rmWn : plainName "com/example/always_once/alwaysonce/ledger/Job" = true := by first | (simp [plainName, overriddenIn]; done) | decide +kernel
theorem ef_rmWn (m : MethodId) (a1 : Addr) (ss : Addr) (cc : Addr) (rd : Int64) : entryFrame m #[(.ref a1), (.ref ss), (.ref cc), (.long rd), .null] 6 = mkF m 0 #[.val (.ref a1), .val (.ref ss), .val (.ref cc), .val (.long rd), .second, .val .null] [] := by first | (simp [entryFrame, mkF, argsToLocals, Value.category]; done) | rfl
def Q_rmWn (Z : State) (a1 : Addr) (ss : Addr) (cc : Addr) (rd : Int64) (id : Int64) (df fi : Addr) (sz : Int64) (h0 : Heap) (n0 : Nat) (v : Option Value) (h : Heap) (L : List Loc) : Prop := ∃ b, v = some (.ref b) ∧ Fr n0 L ∧ Keep h0 h [] ∧ Exa Z h b "com/example/always_once/alwaysonce/ledger/Job" ∧ Fld Z h b "com/example/always_once/alwaysonce/ledger/Job" "id" "J" (.long id) ∧ Fld Z h b "com/example/always_once/alwaysonce/ledger/Job" "definition" "Ljava/lang/String;" (.ref df) ∧ Fld Z h b "com/example/always_once/alwaysonce/ledger/Job" "file" "Ljava/lang/String;" (.ref fi) ∧ Fld Z h b "com/example/always_once/alwaysonce/ledger/Job" "status" "Lcom/example/always_once/alwaysonce/ledger/JobStatus;" (.ref ss) ∧ Fld Z h b "com/example/always_once/alwaysonce/ledger/Job" "counts" "Lcom/example/always_once/alwaysonce/ledger/JobCounts;" (.ref cc) ∧ Fld Z h b "com/example/always_once/alwaysonce/ledger/Job" "size" "J" (.long sz) ∧ Fld Z h b "com/example/always_once/alwaysonce/ledger/Job" "read" "J" (.long rd) ∧ Fld Z h b "com/example/always_once/alwaysonce/ledger/Job" "failure" "Ljava/lang/String;" .null ∧ n0 ≤ b ∧ h0.size ≤ b
set_option maxRecDepth 65536 in
set_option maxHeartbeats 40000000 in
theorem rmWn (l : Launch) (Z : State) (a0 : Array Value) (hw : ∀ d ∈ tables_1, d.before a0 Z = true) (ws : List Jvm.Cond) (a1 : Addr) (ss : Addr) (cc : Addr) (rd : Int64) (id : Int64) (df fi : Addr) (sz : Int64) (h0 : Heap) (n0 : Nat) (O0 : Old Z n0 h0) (F_id_a1 : Fld Z h0 a1 "com/example/always_once/alwaysonce/ledger/Job" "id" "J" (.long id)) (F_definition_a1 : Fld Z h0 a1 "com/example/always_once/alwaysonce/ledger/Job" "definition" "Ljava/lang/String;" (.ref df)) (F_file_a1 : Fld Z h0 a1 "com/example/always_once/alwaysonce/ledger/Job" "file" "Ljava/lang/String;" (.ref fi)) (F_size_a1 : Fld Z h0 a1 "com/example/always_once/alwaysonce/ledger/Job" "size" "J" (.long sz)) :
    MetFree l (⟨"com/example/always_once/alwaysonce/ledger/Job", "with", "(Lcom/example/always_once/alwaysonce/ledger/JobStatus;Lcom/example/always_once/alwaysonce/ledger/JobCounts;JLjava/lang/String;)Lcom/example/always_once/alwaysonce/ledger/Job;"⟩ : MethodName) (head1 (Jvm.Cond.code (⟨"com/example/always_once/alwaysonce/ledger/Job", "with", "(Lcom/example/always_once/alwaysonce/ledger/JobStatus;Lcom/example/always_once/alwaysonce/ledger/JobCounts;JLjava/lang/String;)Lcom/example/always_once/alwaysonce/ledger/Job;"⟩ : MethodName) prog_9_method_2_code 6 (some (.object "com/example/always_once/alwaysonce/ledger/Job")) :: ws) ({ frames := 3, cells := 1, slots := 8, locals := 48 } : Room)) (fun a U => a = #[(.ref a1), (.ref ss), (.ref cc), (.long rd), .null] ∧ Z.Warmed39 U.vm ∧ U.heap = h0) (fun _ _ _ _ _ => True) (fun _ U o U' => ∃ v L, o = .returned v ∧ Q_rmWn Z a1 ss cc rd id df fi sz h0 n0 v U'.heap L ∧ FrameEnd U o U' L ({ frames := 3, cells := 1, slots := 8, locals := 48 } : Room).cells ({ frames := 3, cells := 1, slots := 8, locals := 48 } : Room).slots) := by
  refine MetFree.of_bodySF (plainFor_of_name pn_rmWn) hisR ?_
  intro p e s m args below meth c s₁ Bd hml0 hP hK
  obtain ⟨rfl, hZ, hh⟩ := hP
  have hx := Bd.exec
  have hby := Bd.bytes
  have hml : c.maxLocals = 6 := hml0
  have hown : s.vm.findClass "com/example/always_once/alwaysonce/ledger/Job" = some m.cls := findClass_of_methodNamed Bd.named
  have hnm := (name_of_methodNamed Bd.named Bd.method).1
  have X0 : Stand p l e ({ frames := 3, cells := 1, slots := 8, locals := 48 } : Room) s m #[(.ref a1), (.ref ss), (.ref cc), (.long rd), .null] below meth c s₁ [] 0 0 := Stand.of_body Bd
  have e0 : s₁.heap = h0 := by rw [← hh, Bd.state]; rfl
  have N0 := Fr.nil n0
  refine Gl.start (Q := Q_rmWn Z a1 ss cc rd id df fi sz h0 n0) (ef_rmWn m a1 ss cc rd) ?_
  show Gl p e below s _ _ _ s₁ (mkF m 0 #[.val (.ref a1), .val (.ref ss), .val (.ref cc), .val (.long rd), .second, .val .null] [])
  obtain ⟨T1, h1, X1, e1, E1, A1, D1, V1, st1⟩ := newO X0 hx hZ hown (hw _ (List.mem_of_getElem? (i := 75) rfl)) (hw _ (List.mem_of_getElem? (i := 43) rfl)) (hw _ (List.mem_of_getElem? (i := 44) rfl)) e0 (g := (mkF m 0 #[.val (.ref a1), .val (.ref ss), .val (.ref cc), .val (.long rd), .second, .val .null] [])) rfl (hb hby d10_0) (by decide) (by decide)
  obtain ⟨b1, g1⟩ : ∃ z, z = h0.size := ⟨_, rfl⟩
  rw [← g1] at A1 D1 V1 st1
  refine Gl.st st1 ?_
  have ne_a1_b1 : a1 ≠ b1 := Nat.ne_of_lt (Nat.lt_of_lt_of_eq F_id_a1.lt g1.symm)
  have ge_b1 : n0 ≤ b1 := Nat.le_trans (Nat.le_trans (Nat.le_of_eq O0.1.symm) O0.2.1) (Nat.le_of_eq g1.symm)
  have fr_b1 : h0.size ≤ b1 := Nat.le_trans (Nat.le_refl _) (Nat.le_of_eq g1.symm)
  have F_id_a1 := F_id_a1.ext E1
  have F_definition_a1 := F_definition_a1.ext E1
  have F_file_a1 := F_file_a1.ext E1
  have F_size_a1 := F_size_a1.ext E1
  have O1 := O0.ext E1
  have K1 := (Keep.refl h0 []).ext E1
  have Exa_b1 := A1
  have F_id_b1 : Fld Z h1 b1 "com/example/always_once/alwaysonce/ledger/Job" "id" "J" (.long (0 : Int64)) := D1 (Or.inr (hw _ (List.mem_of_getElem? (i := 55) rfl))) (ty := .long) (by decide)
  have F_definition_b1 : Fld Z h1 b1 "com/example/always_once/alwaysonce/ledger/Job" "definition" "Ljava/lang/String;" .null := D1 (Or.inr (hw _ (List.mem_of_getElem? (i := 57) rfl))) (ty := (.object "java/lang/String")) (by decide)
  have F_file_b1 : Fld Z h1 b1 "com/example/always_once/alwaysonce/ledger/Job" "file" "Ljava/lang/String;" .null := D1 (Or.inr (hw _ (List.mem_of_getElem? (i := 59) rfl))) (ty := (.object "java/lang/String")) (by decide)
  have F_status_b1 : Fld Z h1 b1 "com/example/always_once/alwaysonce/ledger/Job" "status" "Lcom/example/always_once/alwaysonce/ledger/JobStatus;" .null := D1 (Or.inr (hw _ (List.mem_of_getElem? (i := 61) rfl))) (ty := (.object "com/example/always_once/alwaysonce/ledger/JobStatus")) (by decide)
  have F_counts_b1 : Fld Z h1 b1 "com/example/always_once/alwaysonce/ledger/Job" "counts" "Lcom/example/always_once/alwaysonce/ledger/JobCounts;" .null := D1 (Or.inr (hw _ (List.mem_of_getElem? (i := 63) rfl))) (ty := (.object "com/example/always_once/alwaysonce/ledger/JobCounts")) (by decide)
  have F_size_b1 : Fld Z h1 b1 "com/example/always_once/alwaysonce/ledger/Job" "size" "J" (.long (0 : Int64)) := D1 (Or.inr (hw _ (List.mem_of_getElem? (i := 65) rfl))) (ty := .long) (by decide)
  have F_read_b1 : Fld Z h1 b1 "com/example/always_once/alwaysonce/ledger/Job" "read" "J" (.long (0 : Int64)) := D1 (Or.inr (hw _ (List.mem_of_getElem? (i := 67) rfl))) (ty := .long) (by decide)
  have F_failure_b1 : Fld Z h1 b1 "com/example/always_once/alwaysonce/ledger/Job" "failure" "Ljava/lang/String;" .null := D1 (Or.inr (hw _ (List.mem_of_getElem? (i := 69) rfl))) (ty := (.object "java/lang/String")) (by decide)
  show Gl p e below s _ _ _ T1 (mkF m 3 #[.val (.ref a1), .val (.ref ss), .val (.ref cc), .val (.long rd), .second, .val .null] [(.ref b1)])
  refine Gl.st (fun _ kk => XS.dup X1.here hx rfl (hb hby d10_3) rfl rfl kk) ?_
  show Gl p e below s _ _ _ T1 (mkF m 4 #[.val (.ref a1), .val (.ref ss), .val (.ref cc), .val (.long rd), .second, .val .null] [(.ref b1), (.ref b1)])
  refine Gl.st (fun _ kk => XS.aloadN X1.here hx rfl (hb hby d10_4) rfl rfl kk) ?_
  show Gl p e below s _ _ _ T1 (mkF m 5 #[.val (.ref a1), .val (.ref ss), .val (.ref cc), .val (.long rd), .second, .val .null] [(.ref a1), (.ref b1), (.ref b1)])
  obtain ⟨T2, X2, e2, st2⟩ := getF X1 hx hZ hown (host := "") (Or.inl (hw _ (List.mem_of_getElem? (i := 54) rfl))) Via.refl e1 F_id_a1 (g := (mkF m 5 #[.val (.ref a1), .val (.ref ss), .val (.ref cc), .val (.long rd), .second, .val .null] [(.ref a1), (.ref b1), (.ref b1)])) rfl rfl (hb hby d10_5)
  refine Gl.st st2 ?_
  show Gl p e below s _ _ _ T2 (mkF m 8 #[.val (.ref a1), .val (.ref ss), .val (.ref cc), .val (.long rd), .second, .val .null] [(.long id), (.ref b1), (.ref b1)])
  refine Gl.st (fun _ kk => XS.aloadN X2.here hx rfl (hb hby d10_8) rfl rfl kk) ?_
  show Gl p e below s _ _ _ T2 (mkF m 9 #[.val (.ref a1), .val (.ref ss), .val (.ref cc), .val (.long rd), .second, .val .null] [(.ref a1), (.long id), (.ref b1), (.ref b1)])
  obtain ⟨T3, X3, e3, st3⟩ := getF X2 hx hZ hown (host := "") (Or.inl (hw _ (List.mem_of_getElem? (i := 56) rfl))) Via.refl e2 F_definition_a1 (g := (mkF m 9 #[.val (.ref a1), .val (.ref ss), .val (.ref cc), .val (.long rd), .second, .val .null] [(.ref a1), (.long id), (.ref b1), (.ref b1)])) rfl rfl (hb hby d10_9)
  refine Gl.st st3 ?_
  show Gl p e below s _ _ _ T3 (mkF m 12 #[.val (.ref a1), .val (.ref ss), .val (.ref cc), .val (.long rd), .second, .val .null] [(.ref df), (.long id), (.ref b1), (.ref b1)])
  refine Gl.st (fun _ kk => XS.aloadN X3.here hx rfl (hb hby d10_12) rfl rfl kk) ?_
  show Gl p e below s _ _ _ T3 (mkF m 13 #[.val (.ref a1), .val (.ref ss), .val (.ref cc), .val (.long rd), .second, .val .null] [(.ref a1), (.ref df), (.long id), (.ref b1), (.ref b1)])
  obtain ⟨T4, X4, e4, st4⟩ := getF X3 hx hZ hown (host := "") (Or.inl (hw _ (List.mem_of_getElem? (i := 58) rfl))) Via.refl e3 F_file_a1 (g := (mkF m 13 #[.val (.ref a1), .val (.ref ss), .val (.ref cc), .val (.long rd), .second, .val .null] [(.ref a1), (.ref df), (.long id), (.ref b1), (.ref b1)])) rfl rfl (hb hby d10_13)
  refine Gl.st st4 ?_
  show Gl p e below s _ _ _ T4 (mkF m 16 #[.val (.ref a1), .val (.ref ss), .val (.ref cc), .val (.long rd), .second, .val .null] [(.ref fi), (.ref df), (.long id), (.ref b1), (.ref b1)])
  refine Gl.st (fun _ kk => XS.aloadN X4.here hx rfl (hb hby d10_16) rfl rfl kk) ?_
  show Gl p e below s _ _ _ T4 (mkF m 17 #[.val (.ref a1), .val (.ref ss), .val (.ref cc), .val (.long rd), .second, .val .null] [(.ref ss), (.ref fi), (.ref df), (.long id), (.ref b1), (.ref b1)])
  refine Gl.st (fun _ kk => XS.aloadN X4.here hx rfl (hb hby d10_17) rfl rfl kk) ?_
  show Gl p e below s _ _ _ T4 (mkF m 18 #[.val (.ref a1), .val (.ref ss), .val (.ref cc), .val (.long rd), .second, .val .null] [(.ref cc), (.ref ss), (.ref fi), (.ref df), (.long id), (.ref b1), (.ref b1)])
  refine Gl.st (fun _ kk => XS.aloadN X4.here hx rfl (hb hby d10_18) rfl rfl kk) ?_
  show Gl p e below s _ _ _ T4 (mkF m 19 #[.val (.ref a1), .val (.ref ss), .val (.ref cc), .val (.long rd), .second, .val .null] [(.ref a1), (.ref cc), (.ref ss), (.ref fi), (.ref df), (.long id), (.ref b1), (.ref b1)])
  obtain ⟨T5, X5, e5, st5⟩ := getF X4 hx hZ hown (host := "") (Or.inl (hw _ (List.mem_of_getElem? (i := 64) rfl))) Via.refl e4 F_size_a1 (g := (mkF m 19 #[.val (.ref a1), .val (.ref ss), .val (.ref cc), .val (.long rd), .second, .val .null] [(.ref a1), (.ref cc), (.ref ss), (.ref fi), (.ref df), (.long id), (.ref b1), (.ref b1)])) rfl rfl (hb hby d10_19)
  refine Gl.st st5 ?_
  show Gl p e below s _ _ _ T5 (mkF m 22 #[.val (.ref a1), .val (.ref ss), .val (.ref cc), .val (.long rd), .second, .val .null] [(.long sz), (.ref cc), (.ref ss), (.ref fi), (.ref df), (.long id), (.ref b1), (.ref b1)])
  refine Gl.st (fun _ kk => XS.lloadN X5.here hx rfl (hb hby d10_22) rfl kk) ?_
  show Gl p e below s _ _ _ T5 (mkF m 23 #[.val (.ref a1), .val (.ref ss), .val (.ref cc), .val (.long rd), .second, .val .null] [(.long rd), (.long sz), (.ref cc), (.ref ss), (.ref fi), (.ref df), (.long id), (.ref b1), (.ref b1)])
  refine Gl.st (fun _ kk => XS.aload X5.here hx rfl (hb hby d10_23) rfl rfl kk) ?_
  show Gl p e below s _ _ _ T5 (mkF m 25 #[.val (.ref a1), .val (.ref ss), .val (.ref cc), .val (.long rd), .second, .val .null] [.null, (.long rd), (.long sz), (.ref cc), (.ref ss), (.ref fi), (.ref df), (.long id), (.ref b1), (.ref b1)])
  obtain ⟨_, _, ⟨T6, L6, k6, n6⟩, -, X6, ⟨Lc6, hQ6, l6, y6, z6⟩, st6⟩ := X5.specialBack hx (y := (⟨"com/example/always_once/alwaysonce/ledger/Job", "<init>", "(JLjava/lang/String;Ljava/lang/String;Lcom/example/always_once/alwaysonce/ledger/JobStatus;Lcom/example/always_once/alwaysonce/ledger/JobCounts;JJLjava/lang/String;)V"⟩ : MethodName)) rfl hown (mvT hZ (hw _ (List.mem_of_getElem? (i := 76) rfl))) (mvT hZ (hw _ (List.mem_of_getElem? (i := 46) rfl))) (mvT hZ (hw _ (List.mem_of_getElem? (i := 47) rfl))) (by decide) (backOf (W := 1) (rmIn l Z a0 hw [] b1 id df fi ss cc sz rd h1 n0 O1 Exa_b1 F_id_b1 F_definition_b1 F_file_b1 F_status_b1 F_counts_b1 F_size_b1 F_read_b1 F_failure_b1 ge_b1) hZ (hw _ (List.mem_of_getElem? (i := 47) rfl)) (hw _ (List.mem_of_getElem? (i := 44) rfl)) (by decide) (by decide)) (g := (mkF m 25 #[.val (.ref a1), .val (.ref ss), .val (.ref cc), .val (.long rd), .second, .val .null] [.null, (.long rd), (.long sz), (.ref cc), (.ref ss), (.ref fi), (.ref df), (.long id), (.ref b1), (.ref b1)])) rfl (by rw [hml]; rfl) (Steps.refl _) (a := b1) (argsL := [(.long id), (.ref df), (.ref fi), (.ref ss), (.ref cc), (.long sz), (.long rd), .null]) (rest := [(.ref b1)]) (lenOf pd_rmWn_0 rfl) rfl (by show 2 * 0 + _ ≤ _; exact Nat.le_of_eq rfl) (hb hby d10_25) (fun _ _ => ⟨rfl, e5, (by decide : 1 + 0 ≤ _), (by decide : 8 + 0 ≤ _)⟩)
  dsimp only [Pt.U, Pt.locs, Pt.cells, Pt.slots] at X6 l6 y6 z6 st6 hQ6
  subst l6 y6 z6
  obtain ⟨h6, e6⟩ : ∃ z, T6.heap = z := ⟨_, rfl⟩
  rw [e6] at hQ6
  obtain ⟨rfl, Nq6, Kq6, F_id_q6, F_definition_q6, F_file_q6, F_status_q6, F_counts_q6, F_size_q6, F_read_q6, F_failure_q6⟩ := hQ6
  have N6 := Fr.app N0 Nq6
  refine Gl.st (fun _ kk => st6.trans kk) ?_
  have F_id_a1 := F_id_a1.keep Kq6 (ninS ne_a1_b1 nin0)
  have F_definition_a1 := F_definition_a1.keep Kq6 (ninS ne_a1_b1 nin0)
  have F_file_a1 := F_file_a1.keep Kq6 (ninS ne_a1_b1 nin0)
  have F_size_a1 := F_size_a1.keep Kq6 (ninS ne_a1_b1 nin0)
  have Exa_b1 := Exa_b1.keep Kq6
  have O6 := O1.keep Kq6 (allS ge_b1 all0)
  have K6 := K1.trans Kq6 (allS (Or.inr fr_b1) all0)
  have F_id_b1 := F_id_q6
  have F_definition_b1 := F_definition_q6
  have F_file_b1 := F_file_q6
  have F_status_b1 := F_status_q6
  have F_counts_b1 := F_counts_q6
  have F_size_b1 := F_size_q6
  have F_read_b1 := F_read_q6
  have F_failure_b1 := F_failure_q6
  show Gl p e below s _ _ _ T6 (mkF m 28 #[.val (.ref a1), .val (.ref ss), .val (.ref cc), .val (.long rd), .second, .val .null] [(.ref b1)])
  exact Gl.ret X6 (v := (some (.ref b1))) (fun h => by rw [Bd.returns] at h; cases h) (BodyLoose.notSynchronized Bd) (fun hr => retOut X6 hx Bd.returns rfl (Or.inr (Or.inr (Or.inr (Or.inr ⟨rfl, rfl, rfl⟩)))) (hb hby d10_28) hr) e6 ⟨b1, rfl, N6, K6, Exa_b1, F_id_b1, F_definition_b1, F_file_b1, F_status_b1, F_counts_b1, F_size_b1, F_read_b1, F_failure_b1, ge_b1, fr_b1⟩ (by decide) (by decide)
theorem d11_0 : decode prog_9_method_7_code 0 = .ok (.aload_n 0, 1) := by decide +kernel
theorem d11_1 : decode prog_9_method_7_code 1 = .ok (.getfield 7, 3) := by decide +kernel
theorem d11_4 : decode prog_9_method_7_code 4 = .ok (.lreturn, 1) := by decide +kernel
theorem pn_rmA_id : plainName "com/example/always_once/alwaysonce/ledger/Job" = true := by first | (simp [plainName, overriddenIn]; done) | decide +kernel
theorem ef_rmA_id (m : MethodId) (a1 : Addr) : entryFrame m #[(.ref a1)] 1 = mkF m 0 #[.val (.ref a1)] [] := by first | (simp [entryFrame, mkF, argsToLocals, Value.category]; done) | rfl
def Q_rmA_id (Z : State) (a1 : Addr) (u : Int64) (h0 : Heap) (n0 : Nat) (v : Option Value) (h : Heap) (L : List Loc) : Prop := v = some (.long u) ∧ Fr n0 L ∧ h = h0
set_option maxRecDepth 65536 in
set_option maxHeartbeats 40000000 in
theorem rmA_id (l : Launch) (Z : State) (a0 : Array Value) (hw : ∀ d ∈ tables_1, d.before a0 Z = true) (ws : List Jvm.Cond) (a1 : Addr) (u : Int64) (h0 : Heap) (n0 : Nat) (O0 : Old Z n0 h0) (F_id_a1 : Fld Z h0 a1 "com/example/always_once/alwaysonce/ledger/Job" "id" "J" (.long u)) :
    MetFree l (⟨"com/example/always_once/alwaysonce/ledger/Job", "id", "()J"⟩ : MethodName) (head1 (Jvm.Cond.code (⟨"com/example/always_once/alwaysonce/ledger/Job", "id", "()J"⟩ : MethodName) prog_9_method_7_code 1 (some .long) :: ws) ({ frames := 0, cells := 0, slots := 0, locals := 0 } : Room)) (fun a U => a = #[(.ref a1)] ∧ Z.Warmed39 U.vm ∧ U.heap = h0) (fun _ _ _ _ _ => True) (fun _ U o U' => ∃ v L, o = .returned v ∧ Q_rmA_id Z a1 u h0 n0 v U'.heap L ∧ FrameEnd U o U' L ({ frames := 0, cells := 0, slots := 0, locals := 0 } : Room).cells ({ frames := 0, cells := 0, slots := 0, locals := 0 } : Room).slots) := by
  refine MetFree.of_bodySF (plainFor_of_name pn_rmA_id) hisR ?_
  intro p e s m args below meth c s₁ Bd hml0 hP hK
  obtain ⟨rfl, hZ, hh⟩ := hP
  have hx := Bd.exec
  have hby := Bd.bytes
  have hml : c.maxLocals = 1 := hml0
  have hown : s.vm.findClass "com/example/always_once/alwaysonce/ledger/Job" = some m.cls := findClass_of_methodNamed Bd.named
  have hnm := (name_of_methodNamed Bd.named Bd.method).1
  have X0 : Stand p l e ({ frames := 0, cells := 0, slots := 0, locals := 0 } : Room) s m #[(.ref a1)] below meth c s₁ [] 0 0 := Stand.of_body Bd
  have e0 : s₁.heap = h0 := by rw [← hh, Bd.state]; rfl
  have N0 := Fr.nil n0
  refine Gl.start (Q := Q_rmA_id Z a1 u h0 n0) (ef_rmA_id m a1) ?_
  show Gl p e below s _ _ _ s₁ (mkF m 0 #[.val (.ref a1)] [])
  refine Gl.st (fun _ kk => XS.aloadN X0.here hx rfl (hb hby d11_0) rfl rfl kk) ?_
  show Gl p e below s _ _ _ s₁ (mkF m 1 #[.val (.ref a1)] [(.ref a1)])
  obtain ⟨T1, X1, e1, st1⟩ := getF X0 hx hZ hown (host := "") (Or.inl (hw _ (List.mem_of_getElem? (i := 54) rfl))) Via.refl e0 F_id_a1 (g := (mkF m 1 #[.val (.ref a1)] [(.ref a1)])) rfl rfl (hb hby d11_1)
  refine Gl.st st1 ?_
  show Gl p e below s _ _ _ T1 (mkF m 4 #[.val (.ref a1)] [(.long u)])
  exact Gl.ret X1 (v := (some (.long u))) (fun h => by rw [Bd.returns] at h; cases h) (BodyLoose.notSynchronized Bd) (fun hr => retOut X1 hx Bd.returns rfl (Or.inr (Or.inl ⟨rfl, rfl, _, rfl⟩)) (hb hby d11_4) hr) e1 ⟨rfl, N0, rfl⟩ (by decide) (by decide)
theorem d12_0 : decode prog_9_method_8_code 0 = .ok (.aload_n 0, 1) := by decide +kernel
theorem d12_1 : decode prog_9_method_8_code 1 = .ok (.getfield 13, 3) := by decide +kernel
theorem d12_4 : decode prog_9_method_8_code 4 = .ok (.areturn, 1) := by decide +kernel
theorem pn_rmA_definition : plainName "com/example/always_once/alwaysonce/ledger/Job" = true := by first | (simp [plainName, overriddenIn]; done) | decide +kernel
theorem ef_rmA_definition (m : MethodId) (a1 : Addr) : entryFrame m #[(.ref a1)] 1 = mkF m 0 #[.val (.ref a1)] [] := by first | (simp [entryFrame, mkF, argsToLocals, Value.category]; done) | rfl
def Q_rmA_definition (Z : State) (a1 : Addr) (u : Addr) (h0 : Heap) (n0 : Nat) (v : Option Value) (h : Heap) (L : List Loc) : Prop := v = some (.ref u) ∧ Fr n0 L ∧ h = h0
set_option maxRecDepth 65536 in
set_option maxHeartbeats 40000000 in
theorem rmA_definition (l : Launch) (Z : State) (a0 : Array Value) (hw : ∀ d ∈ tables_1, d.before a0 Z = true) (ws : List Jvm.Cond) (a1 : Addr) (u : Addr) (h0 : Heap) (n0 : Nat) (O0 : Old Z n0 h0) (F_definition_a1 : Fld Z h0 a1 "com/example/always_once/alwaysonce/ledger/Job" "definition" "Ljava/lang/String;" (.ref u)) :
    MetFree l (⟨"com/example/always_once/alwaysonce/ledger/Job", "definition", "()Ljava/lang/String;"⟩ : MethodName) (head1 (Jvm.Cond.code (⟨"com/example/always_once/alwaysonce/ledger/Job", "definition", "()Ljava/lang/String;"⟩ : MethodName) prog_9_method_8_code 1 (some (.object "java/lang/String")) :: ws) ({ frames := 0, cells := 0, slots := 0, locals := 0 } : Room)) (fun a U => a = #[(.ref a1)] ∧ Z.Warmed39 U.vm ∧ U.heap = h0) (fun _ _ _ _ _ => True) (fun _ U o U' => ∃ v L, o = .returned v ∧ Q_rmA_definition Z a1 u h0 n0 v U'.heap L ∧ FrameEnd U o U' L ({ frames := 0, cells := 0, slots := 0, locals := 0 } : Room).cells ({ frames := 0, cells := 0, slots := 0, locals := 0 } : Room).slots) := by
  refine MetFree.of_bodySF (plainFor_of_name pn_rmA_definition) hisR ?_
  intro p e s m args below meth c s₁ Bd hml0 hP hK
  obtain ⟨rfl, hZ, hh⟩ := hP
  have hx := Bd.exec
  have hby := Bd.bytes
  have hml : c.maxLocals = 1 := hml0
  have hown : s.vm.findClass "com/example/always_once/alwaysonce/ledger/Job" = some m.cls := findClass_of_methodNamed Bd.named
  have hnm := (name_of_methodNamed Bd.named Bd.method).1
  have X0 : Stand p l e ({ frames := 0, cells := 0, slots := 0, locals := 0 } : Room) s m #[(.ref a1)] below meth c s₁ [] 0 0 := Stand.of_body Bd
  have e0 : s₁.heap = h0 := by rw [← hh, Bd.state]; rfl
  have N0 := Fr.nil n0
  refine Gl.start (Q := Q_rmA_definition Z a1 u h0 n0) (ef_rmA_definition m a1) ?_
  show Gl p e below s _ _ _ s₁ (mkF m 0 #[.val (.ref a1)] [])
  refine Gl.st (fun _ kk => XS.aloadN X0.here hx rfl (hb hby d12_0) rfl rfl kk) ?_
  show Gl p e below s _ _ _ s₁ (mkF m 1 #[.val (.ref a1)] [(.ref a1)])
  obtain ⟨T1, X1, e1, st1⟩ := getF X0 hx hZ hown (host := "") (Or.inl (hw _ (List.mem_of_getElem? (i := 56) rfl))) Via.refl e0 F_definition_a1 (g := (mkF m 1 #[.val (.ref a1)] [(.ref a1)])) rfl rfl (hb hby d12_1)
  refine Gl.st st1 ?_
  show Gl p e below s _ _ _ T1 (mkF m 4 #[.val (.ref a1)] [(.ref u)])
  exact Gl.ret X1 (v := (some (.ref u))) (fun h => by rw [Bd.returns] at h; cases h) (BodyLoose.notSynchronized Bd) (fun hr => retOut X1 hx Bd.returns rfl (Or.inr (Or.inr (Or.inr (Or.inr ⟨rfl, rfl, rfl⟩)))) (hb hby d12_4) hr) e1 ⟨rfl, N0, rfl⟩ (by decide) (by decide)
theorem d13_0 : decode prog_9_method_9_code 0 = .ok (.aload_n 0, 1) := by decide +kernel
theorem d13_1 : decode prog_9_method_9_code 1 = .ok (.getfield 17, 3) := by decide +kernel
theorem d13_4 : decode prog_9_method_9_code 4 = .ok (.areturn, 1) := by decide +kernel
theorem pn_rmA_file : plainName "com/example/always_once/alwaysonce/ledger/Job" = true := by first | (simp [plainName, overriddenIn]; done) | decide +kernel
theorem ef_rmA_file (m : MethodId) (a1 : Addr) : entryFrame m #[(.ref a1)] 1 = mkF m 0 #[.val (.ref a1)] [] := by first | (simp [entryFrame, mkF, argsToLocals, Value.category]; done) | rfl
def Q_rmA_file (Z : State) (a1 : Addr) (u : Addr) (h0 : Heap) (n0 : Nat) (v : Option Value) (h : Heap) (L : List Loc) : Prop := v = some (.ref u) ∧ Fr n0 L ∧ h = h0
set_option maxRecDepth 65536 in
set_option maxHeartbeats 40000000 in
theorem rmA_file (l : Launch) (Z : State) (a0 : Array Value) (hw : ∀ d ∈ tables_1, d.before a0 Z = true) (ws : List Jvm.Cond) (a1 : Addr) (u : Addr) (h0 : Heap) (n0 : Nat) (O0 : Old Z n0 h0) (F_file_a1 : Fld Z h0 a1 "com/example/always_once/alwaysonce/ledger/Job" "file" "Ljava/lang/String;" (.ref u)) :
    MetFree l (⟨"com/example/always_once/alwaysonce/ledger/Job", "file", "()Ljava/lang/String;"⟩ : MethodName) (head1 (Jvm.Cond.code (⟨"com/example/always_once/alwaysonce/ledger/Job", "file", "()Ljava/lang/String;"⟩ : MethodName) prog_9_method_9_code 1 (some (.object "java/lang/String")) :: ws) ({ frames := 0, cells := 0, slots := 0, locals := 0 } : Room)) (fun a U => a = #[(.ref a1)] ∧ Z.Warmed39 U.vm ∧ U.heap = h0) (fun _ _ _ _ _ => True) (fun _ U o U' => ∃ v L, o = .returned v ∧ Q_rmA_file Z a1 u h0 n0 v U'.heap L ∧ FrameEnd U o U' L ({ frames := 0, cells := 0, slots := 0, locals := 0 } : Room).cells ({ frames := 0, cells := 0, slots := 0, locals := 0 } : Room).slots) := by
  refine MetFree.of_bodySF (plainFor_of_name pn_rmA_file) hisR ?_
  intro p e s m args below meth c s₁ Bd hml0 hP hK
  obtain ⟨rfl, hZ, hh⟩ := hP
  have hx := Bd.exec
  have hby := Bd.bytes
  have hml : c.maxLocals = 1 := hml0
  have hown : s.vm.findClass "com/example/always_once/alwaysonce/ledger/Job" = some m.cls := findClass_of_methodNamed Bd.named
  have hnm := (name_of_methodNamed Bd.named Bd.method).1
  have X0 : Stand p l e ({ frames := 0, cells := 0, slots := 0, locals := 0 } : Room) s m #[(.ref a1)] below meth c s₁ [] 0 0 := Stand.of_body Bd
  have e0 : s₁.heap = h0 := by rw [← hh, Bd.state]; rfl
  have N0 := Fr.nil n0
  refine Gl.start (Q := Q_rmA_file Z a1 u h0 n0) (ef_rmA_file m a1) ?_
  show Gl p e below s _ _ _ s₁ (mkF m 0 #[.val (.ref a1)] [])
  refine Gl.st (fun _ kk => XS.aloadN X0.here hx rfl (hb hby d13_0) rfl rfl kk) ?_
  show Gl p e below s _ _ _ s₁ (mkF m 1 #[.val (.ref a1)] [(.ref a1)])
  obtain ⟨T1, X1, e1, st1⟩ := getF X0 hx hZ hown (host := "") (Or.inl (hw _ (List.mem_of_getElem? (i := 58) rfl))) Via.refl e0 F_file_a1 (g := (mkF m 1 #[.val (.ref a1)] [(.ref a1)])) rfl rfl (hb hby d13_1)
  refine Gl.st st1 ?_
  show Gl p e below s _ _ _ T1 (mkF m 4 #[.val (.ref a1)] [(.ref u)])
  exact Gl.ret X1 (v := (some (.ref u))) (fun h => by rw [Bd.returns] at h; cases h) (BodyLoose.notSynchronized Bd) (fun hr => retOut X1 hx Bd.returns rfl (Or.inr (Or.inr (Or.inr (Or.inr ⟨rfl, rfl, rfl⟩)))) (hb hby d13_4) hr) e1 ⟨rfl, N0, rfl⟩ (by decide) (by decide)
theorem d14_0 : decode prog_9_method_10_code 0 = .ok (.aload_n 0, 1) := by decide +kernel
theorem d14_1 : decode prog_9_method_10_code 1 = .ok (.getfield 20, 3) := by decide +kernel
theorem d14_4 : decode prog_9_method_10_code 4 = .ok (.areturn, 1) := by decide +kernel
theorem pn_rmA_status : plainName "com/example/always_once/alwaysonce/ledger/Job" = true := by first | (simp [plainName, overriddenIn]; done) | decide +kernel
theorem ef_rmA_status (m : MethodId) (a1 : Addr) : entryFrame m #[(.ref a1)] 1 = mkF m 0 #[.val (.ref a1)] [] := by first | (simp [entryFrame, mkF, argsToLocals, Value.category]; done) | rfl
def Q_rmA_status (Z : State) (a1 : Addr) (u : Addr) (h0 : Heap) (n0 : Nat) (v : Option Value) (h : Heap) (L : List Loc) : Prop := v = some (.ref u) ∧ Fr n0 L ∧ h = h0
set_option maxRecDepth 65536 in
set_option maxHeartbeats 40000000 in
theorem rmA_status (l : Launch) (Z : State) (a0 : Array Value) (hw : ∀ d ∈ tables_1, d.before a0 Z = true) (ws : List Jvm.Cond) (a1 : Addr) (u : Addr) (h0 : Heap) (n0 : Nat) (O0 : Old Z n0 h0) (F_status_a1 : Fld Z h0 a1 "com/example/always_once/alwaysonce/ledger/Job" "status" "Lcom/example/always_once/alwaysonce/ledger/JobStatus;" (.ref u)) :
    MetFree l (⟨"com/example/always_once/alwaysonce/ledger/Job", "status", "()Lcom/example/always_once/alwaysonce/ledger/JobStatus;"⟩ : MethodName) (head1 (Jvm.Cond.code (⟨"com/example/always_once/alwaysonce/ledger/Job", "status", "()Lcom/example/always_once/alwaysonce/ledger/JobStatus;"⟩ : MethodName) prog_9_method_10_code 1 (some (.object "com/example/always_once/alwaysonce/ledger/JobStatus")) :: ws) ({ frames := 0, cells := 0, slots := 0, locals := 0 } : Room)) (fun a U => a = #[(.ref a1)] ∧ Z.Warmed39 U.vm ∧ U.heap = h0) (fun _ _ _ _ _ => True) (fun _ U o U' => ∃ v L, o = .returned v ∧ Q_rmA_status Z a1 u h0 n0 v U'.heap L ∧ FrameEnd U o U' L ({ frames := 0, cells := 0, slots := 0, locals := 0 } : Room).cells ({ frames := 0, cells := 0, slots := 0, locals := 0 } : Room).slots) := by
  refine MetFree.of_bodySF (plainFor_of_name pn_rmA_status) hisR ?_
  intro p e s m args below meth c s₁ Bd hml0 hP hK
  obtain ⟨rfl, hZ, hh⟩ := hP
  have hx := Bd.exec
  have hby := Bd.bytes
  have hml : c.maxLocals = 1 := hml0
  have hown : s.vm.findClass "com/example/always_once/alwaysonce/ledger/Job" = some m.cls := findClass_of_methodNamed Bd.named
  have hnm := (name_of_methodNamed Bd.named Bd.method).1
  have X0 : Stand p l e ({ frames := 0, cells := 0, slots := 0, locals := 0 } : Room) s m #[(.ref a1)] below meth c s₁ [] 0 0 := Stand.of_body Bd
  have e0 : s₁.heap = h0 := by rw [← hh, Bd.state]; rfl
  have N0 := Fr.nil n0
  refine Gl.start (Q := Q_rmA_status Z a1 u h0 n0) (ef_rmA_status m a1) ?_
  show Gl p e below s _ _ _ s₁ (mkF m 0 #[.val (.ref a1)] [])
  refine Gl.st (fun _ kk => XS.aloadN X0.here hx rfl (hb hby d14_0) rfl rfl kk) ?_
  show Gl p e below s _ _ _ s₁ (mkF m 1 #[.val (.ref a1)] [(.ref a1)])
  obtain ⟨T1, X1, e1, st1⟩ := getF X0 hx hZ hown (host := "") (Or.inl (hw _ (List.mem_of_getElem? (i := 60) rfl))) Via.refl e0 F_status_a1 (g := (mkF m 1 #[.val (.ref a1)] [(.ref a1)])) rfl rfl (hb hby d14_1)
  refine Gl.st st1 ?_
  show Gl p e below s _ _ _ T1 (mkF m 4 #[.val (.ref a1)] [(.ref u)])
  exact Gl.ret X1 (v := (some (.ref u))) (fun h => by rw [Bd.returns] at h; cases h) (BodyLoose.notSynchronized Bd) (fun hr => retOut X1 hx Bd.returns rfl (Or.inr (Or.inr (Or.inr (Or.inr ⟨rfl, rfl, rfl⟩)))) (hb hby d14_4) hr) e1 ⟨rfl, N0, rfl⟩ (by decide) (by decide)
theorem d15_0 : decode prog_9_method_11_code 0 = .ok (.aload_n 0, 1) := by decide +kernel
theorem d15_1 : decode prog_9_method_11_code 1 = .ok (.getfield 24, 3) := by decide +kernel
theorem d15_4 : decode prog_9_method_11_code 4 = .ok (.areturn, 1) := by decide +kernel
theorem pn_rmA_counts : plainName "com/example/always_once/alwaysonce/ledger/Job" = true := by first | (simp [plainName, overriddenIn]; done) | decide +kernel
theorem ef_rmA_counts (m : MethodId) (a1 : Addr) : entryFrame m #[(.ref a1)] 1 = mkF m 0 #[.val (.ref a1)] [] := by first | (simp [entryFrame, mkF, argsToLocals, Value.category]; done) | rfl
def Q_rmA_counts (Z : State) (a1 : Addr) (u : Addr) (h0 : Heap) (n0 : Nat) (v : Option Value) (h : Heap) (L : List Loc) : Prop := v = some (.ref u) ∧ Fr n0 L ∧ h = h0
set_option maxRecDepth 65536 in
set_option maxHeartbeats 40000000 in
theorem rmA_counts (l : Launch) (Z : State) (a0 : Array Value) (hw : ∀ d ∈ tables_1, d.before a0 Z = true) (ws : List Jvm.Cond) (a1 : Addr) (u : Addr) (h0 : Heap) (n0 : Nat) (O0 : Old Z n0 h0) (F_counts_a1 : Fld Z h0 a1 "com/example/always_once/alwaysonce/ledger/Job" "counts" "Lcom/example/always_once/alwaysonce/ledger/JobCounts;" (.ref u)) :
    MetFree l (⟨"com/example/always_once/alwaysonce/ledger/Job", "counts", "()Lcom/example/always_once/alwaysonce/ledger/JobCounts;"⟩ : MethodName) (head1 (Jvm.Cond.code (⟨"com/example/always_once/alwaysonce/ledger/Job", "counts", "()Lcom/example/always_once/alwaysonce/ledger/JobCounts;"⟩ : MethodName) prog_9_method_11_code 1 (some (.object "com/example/always_once/alwaysonce/ledger/JobCounts")) :: ws) ({ frames := 0, cells := 0, slots := 0, locals := 0 } : Room)) (fun a U => a = #[(.ref a1)] ∧ Z.Warmed39 U.vm ∧ U.heap = h0) (fun _ _ _ _ _ => True) (fun _ U o U' => ∃ v L, o = .returned v ∧ Q_rmA_counts Z a1 u h0 n0 v U'.heap L ∧ FrameEnd U o U' L ({ frames := 0, cells := 0, slots := 0, locals := 0 } : Room).cells ({ frames := 0, cells := 0, slots := 0, locals := 0 } : Room).slots) := by
  refine MetFree.of_bodySF (plainFor_of_name pn_rmA_counts) hisR ?_
  intro p e s m args below meth c s₁ Bd hml0 hP hK
  obtain ⟨rfl, hZ, hh⟩ := hP
  have hx := Bd.exec
  have hby := Bd.bytes
  have hml : c.maxLocals = 1 := hml0
  have hown : s.vm.findClass "com/example/always_once/alwaysonce/ledger/Job" = some m.cls := findClass_of_methodNamed Bd.named
  have hnm := (name_of_methodNamed Bd.named Bd.method).1
  have X0 : Stand p l e ({ frames := 0, cells := 0, slots := 0, locals := 0 } : Room) s m #[(.ref a1)] below meth c s₁ [] 0 0 := Stand.of_body Bd
  have e0 : s₁.heap = h0 := by rw [← hh, Bd.state]; rfl
  have N0 := Fr.nil n0
  refine Gl.start (Q := Q_rmA_counts Z a1 u h0 n0) (ef_rmA_counts m a1) ?_
  show Gl p e below s _ _ _ s₁ (mkF m 0 #[.val (.ref a1)] [])
  refine Gl.st (fun _ kk => XS.aloadN X0.here hx rfl (hb hby d15_0) rfl rfl kk) ?_
  show Gl p e below s _ _ _ s₁ (mkF m 1 #[.val (.ref a1)] [(.ref a1)])
  obtain ⟨T1, X1, e1, st1⟩ := getF X0 hx hZ hown (host := "") (Or.inl (hw _ (List.mem_of_getElem? (i := 62) rfl))) Via.refl e0 F_counts_a1 (g := (mkF m 1 #[.val (.ref a1)] [(.ref a1)])) rfl rfl (hb hby d15_1)
  refine Gl.st st1 ?_
  show Gl p e below s _ _ _ T1 (mkF m 4 #[.val (.ref a1)] [(.ref u)])
  exact Gl.ret X1 (v := (some (.ref u))) (fun h => by rw [Bd.returns] at h; cases h) (BodyLoose.notSynchronized Bd) (fun hr => retOut X1 hx Bd.returns rfl (Or.inr (Or.inr (Or.inr (Or.inr ⟨rfl, rfl, rfl⟩)))) (hb hby d15_4) hr) e1 ⟨rfl, N0, rfl⟩ (by decide) (by decide)
theorem d16_0 : decode prog_9_method_12_code 0 = .ok (.aload_n 0, 1) := by decide +kernel
theorem d16_1 : decode prog_9_method_12_code 1 = .ok (.getfield 28, 3) := by decide +kernel
theorem d16_4 : decode prog_9_method_12_code 4 = .ok (.lreturn, 1) := by decide +kernel
theorem pn_rmA_size : plainName "com/example/always_once/alwaysonce/ledger/Job" = true := by first | (simp [plainName, overriddenIn]; done) | decide +kernel
theorem ef_rmA_size (m : MethodId) (a1 : Addr) : entryFrame m #[(.ref a1)] 1 = mkF m 0 #[.val (.ref a1)] [] := by first | (simp [entryFrame, mkF, argsToLocals, Value.category]; done) | rfl
def Q_rmA_size (Z : State) (a1 : Addr) (u : Int64) (h0 : Heap) (n0 : Nat) (v : Option Value) (h : Heap) (L : List Loc) : Prop := v = some (.long u) ∧ Fr n0 L ∧ h = h0
set_option maxRecDepth 65536 in
set_option maxHeartbeats 40000000 in
theorem rmA_size (l : Launch) (Z : State) (a0 : Array Value) (hw : ∀ d ∈ tables_1, d.before a0 Z = true) (ws : List Jvm.Cond) (a1 : Addr) (u : Int64) (h0 : Heap) (n0 : Nat) (O0 : Old Z n0 h0) (F_size_a1 : Fld Z h0 a1 "com/example/always_once/alwaysonce/ledger/Job" "size" "J" (.long u)) :
    MetFree l (⟨"com/example/always_once/alwaysonce/ledger/Job", "size", "()J"⟩ : MethodName) (head1 (Jvm.Cond.code (⟨"com/example/always_once/alwaysonce/ledger/Job", "size", "()J"⟩ : MethodName) prog_9_method_12_code 1 (some .long) :: ws) ({ frames := 0, cells := 0, slots := 0, locals := 0 } : Room)) (fun a U => a = #[(.ref a1)] ∧ Z.Warmed39 U.vm ∧ U.heap = h0) (fun _ _ _ _ _ => True) (fun _ U o U' => ∃ v L, o = .returned v ∧ Q_rmA_size Z a1 u h0 n0 v U'.heap L ∧ FrameEnd U o U' L ({ frames := 0, cells := 0, slots := 0, locals := 0 } : Room).cells ({ frames := 0, cells := 0, slots := 0, locals := 0 } : Room).slots) := by
  refine MetFree.of_bodySF (plainFor_of_name pn_rmA_size) hisR ?_
  intro p e s m args below meth c s₁ Bd hml0 hP hK
  obtain ⟨rfl, hZ, hh⟩ := hP
  have hx := Bd.exec
  have hby := Bd.bytes
  have hml : c.maxLocals = 1 := hml0
  have hown : s.vm.findClass "com/example/always_once/alwaysonce/ledger/Job" = some m.cls := findClass_of_methodNamed Bd.named
  have hnm := (name_of_methodNamed Bd.named Bd.method).1
  have X0 : Stand p l e ({ frames := 0, cells := 0, slots := 0, locals := 0 } : Room) s m #[(.ref a1)] below meth c s₁ [] 0 0 := Stand.of_body Bd
  have e0 : s₁.heap = h0 := by rw [← hh, Bd.state]; rfl
  have N0 := Fr.nil n0
  refine Gl.start (Q := Q_rmA_size Z a1 u h0 n0) (ef_rmA_size m a1) ?_
  show Gl p e below s _ _ _ s₁ (mkF m 0 #[.val (.ref a1)] [])
  refine Gl.st (fun _ kk => XS.aloadN X0.here hx rfl (hb hby d16_0) rfl rfl kk) ?_
  show Gl p e below s _ _ _ s₁ (mkF m 1 #[.val (.ref a1)] [(.ref a1)])
  obtain ⟨T1, X1, e1, st1⟩ := getF X0 hx hZ hown (host := "") (Or.inl (hw _ (List.mem_of_getElem? (i := 64) rfl))) Via.refl e0 F_size_a1 (g := (mkF m 1 #[.val (.ref a1)] [(.ref a1)])) rfl rfl (hb hby d16_1)
  refine Gl.st st1 ?_
  show Gl p e below s _ _ _ T1 (mkF m 4 #[.val (.ref a1)] [(.long u)])
  exact Gl.ret X1 (v := (some (.long u))) (fun h => by rw [Bd.returns] at h; cases h) (BodyLoose.notSynchronized Bd) (fun hr => retOut X1 hx Bd.returns rfl (Or.inr (Or.inl ⟨rfl, rfl, _, rfl⟩)) (hb hby d16_4) hr) e1 ⟨rfl, N0, rfl⟩ (by decide) (by decide)
theorem d17_0 : decode prog_9_method_13_code 0 = .ok (.aload_n 0, 1) := by decide +kernel
theorem d17_1 : decode prog_9_method_13_code 1 = .ok (.getfield 31, 3) := by decide +kernel
theorem d17_4 : decode prog_9_method_13_code 4 = .ok (.lreturn, 1) := by decide +kernel
theorem pn_rmA_read : plainName "com/example/always_once/alwaysonce/ledger/Job" = true := by first | (simp [plainName, overriddenIn]; done) | decide +kernel
theorem ef_rmA_read (m : MethodId) (a1 : Addr) : entryFrame m #[(.ref a1)] 1 = mkF m 0 #[.val (.ref a1)] [] := by first | (simp [entryFrame, mkF, argsToLocals, Value.category]; done) | rfl
def Q_rmA_read (Z : State) (a1 : Addr) (u : Int64) (h0 : Heap) (n0 : Nat) (v : Option Value) (h : Heap) (L : List Loc) : Prop := v = some (.long u) ∧ Fr n0 L ∧ h = h0
set_option maxRecDepth 65536 in
set_option maxHeartbeats 40000000 in
theorem rmA_read (l : Launch) (Z : State) (a0 : Array Value) (hw : ∀ d ∈ tables_1, d.before a0 Z = true) (ws : List Jvm.Cond) (a1 : Addr) (u : Int64) (h0 : Heap) (n0 : Nat) (O0 : Old Z n0 h0) (F_read_a1 : Fld Z h0 a1 "com/example/always_once/alwaysonce/ledger/Job" "read" "J" (.long u)) :
    MetFree l (⟨"com/example/always_once/alwaysonce/ledger/Job", "read", "()J"⟩ : MethodName) (head1 (Jvm.Cond.code (⟨"com/example/always_once/alwaysonce/ledger/Job", "read", "()J"⟩ : MethodName) prog_9_method_13_code 1 (some .long) :: ws) ({ frames := 0, cells := 0, slots := 0, locals := 0 } : Room)) (fun a U => a = #[(.ref a1)] ∧ Z.Warmed39 U.vm ∧ U.heap = h0) (fun _ _ _ _ _ => True) (fun _ U o U' => ∃ v L, o = .returned v ∧ Q_rmA_read Z a1 u h0 n0 v U'.heap L ∧ FrameEnd U o U' L ({ frames := 0, cells := 0, slots := 0, locals := 0 } : Room).cells ({ frames := 0, cells := 0, slots := 0, locals := 0 } : Room).slots) := by
  refine MetFree.of_bodySF (plainFor_of_name pn_rmA_read) hisR ?_
  intro p e s m args below meth c s₁ Bd hml0 hP hK
  obtain ⟨rfl, hZ, hh⟩ := hP
  have hx := Bd.exec
  have hby := Bd.bytes
  have hml : c.maxLocals = 1 := hml0
  have hown : s.vm.findClass "com/example/always_once/alwaysonce/ledger/Job" = some m.cls := findClass_of_methodNamed Bd.named
  have hnm := (name_of_methodNamed Bd.named Bd.method).1
  have X0 : Stand p l e ({ frames := 0, cells := 0, slots := 0, locals := 0 } : Room) s m #[(.ref a1)] below meth c s₁ [] 0 0 := Stand.of_body Bd
  have e0 : s₁.heap = h0 := by rw [← hh, Bd.state]; rfl
  have N0 := Fr.nil n0
  refine Gl.start (Q := Q_rmA_read Z a1 u h0 n0) (ef_rmA_read m a1) ?_
  show Gl p e below s _ _ _ s₁ (mkF m 0 #[.val (.ref a1)] [])
  refine Gl.st (fun _ kk => XS.aloadN X0.here hx rfl (hb hby d17_0) rfl rfl kk) ?_
  show Gl p e below s _ _ _ s₁ (mkF m 1 #[.val (.ref a1)] [(.ref a1)])
  obtain ⟨T1, X1, e1, st1⟩ := getF X0 hx hZ hown (host := "") (Or.inl (hw _ (List.mem_of_getElem? (i := 66) rfl))) Via.refl e0 F_read_a1 (g := (mkF m 1 #[.val (.ref a1)] [(.ref a1)])) rfl rfl (hb hby d17_1)
  refine Gl.st st1 ?_
  show Gl p e below s _ _ _ T1 (mkF m 4 #[.val (.ref a1)] [(.long u)])
  exact Gl.ret X1 (v := (some (.long u))) (fun h => by rw [Bd.returns] at h; cases h) (BodyLoose.notSynchronized Bd) (fun hr => retOut X1 hx Bd.returns rfl (Or.inr (Or.inl ⟨rfl, rfl, _, rfl⟩)) (hb hby d17_4) hr) e1 ⟨rfl, N0, rfl⟩ (by decide) (by decide)
theorem d18_0 : decode prog_9_method_14_code 0 = .ok (.aload_n 0, 1) := by decide +kernel
theorem d18_1 : decode prog_9_method_14_code 1 = .ok (.getfield 34, 3) := by decide +kernel
theorem d18_4 : decode prog_9_method_14_code 4 = .ok (.areturn, 1) := by decide +kernel
theorem pn_rmA_failure : plainName "com/example/always_once/alwaysonce/ledger/Job" = true := by first | (simp [plainName, overriddenIn]; done) | decide +kernel
theorem ef_rmA_failure (m : MethodId) (a1 : Addr) : entryFrame m #[(.ref a1)] 1 = mkF m 0 #[.val (.ref a1)] [] := by first | (simp [entryFrame, mkF, argsToLocals, Value.category]; done) | rfl
def Q_rmA_failure (Z : State) (a1 : Addr) (u : Addr) (h0 : Heap) (n0 : Nat) (v : Option Value) (h : Heap) (L : List Loc) : Prop := v = some (.ref u) ∧ Fr n0 L ∧ h = h0
set_option maxRecDepth 65536 in
set_option maxHeartbeats 40000000 in
theorem rmA_failure (l : Launch) (Z : State) (a0 : Array Value) (hw : ∀ d ∈ tables_1, d.before a0 Z = true) (ws : List Jvm.Cond) (a1 : Addr) (u : Addr) (h0 : Heap) (n0 : Nat) (O0 : Old Z n0 h0) (F_failure_a1 : Fld Z h0 a1 "com/example/always_once/alwaysonce/ledger/Job" "failure" "Ljava/lang/String;" (.ref u)) :
    MetFree l (⟨"com/example/always_once/alwaysonce/ledger/Job", "failure", "()Ljava/lang/String;"⟩ : MethodName) (head1 (Jvm.Cond.code (⟨"com/example/always_once/alwaysonce/ledger/Job", "failure", "()Ljava/lang/String;"⟩ : MethodName) prog_9_method_14_code 1 (some (.object "java/lang/String")) :: ws) ({ frames := 0, cells := 0, slots := 0, locals := 0 } : Room)) (fun a U => a = #[(.ref a1)] ∧ Z.Warmed39 U.vm ∧ U.heap = h0) (fun _ _ _ _ _ => True) (fun _ U o U' => ∃ v L, o = .returned v ∧ Q_rmA_failure Z a1 u h0 n0 v U'.heap L ∧ FrameEnd U o U' L ({ frames := 0, cells := 0, slots := 0, locals := 0 } : Room).cells ({ frames := 0, cells := 0, slots := 0, locals := 0 } : Room).slots) := by
  refine MetFree.of_bodySF (plainFor_of_name pn_rmA_failure) hisR ?_
  intro p e s m args below meth c s₁ Bd hml0 hP hK
  obtain ⟨rfl, hZ, hh⟩ := hP
  have hx := Bd.exec
  have hby := Bd.bytes
  have hml : c.maxLocals = 1 := hml0
  have hown : s.vm.findClass "com/example/always_once/alwaysonce/ledger/Job" = some m.cls := findClass_of_methodNamed Bd.named
  have hnm := (name_of_methodNamed Bd.named Bd.method).1
  have X0 : Stand p l e ({ frames := 0, cells := 0, slots := 0, locals := 0 } : Room) s m #[(.ref a1)] below meth c s₁ [] 0 0 := Stand.of_body Bd
  have e0 : s₁.heap = h0 := by rw [← hh, Bd.state]; rfl
  have N0 := Fr.nil n0
  refine Gl.start (Q := Q_rmA_failure Z a1 u h0 n0) (ef_rmA_failure m a1) ?_
  show Gl p e below s _ _ _ s₁ (mkF m 0 #[.val (.ref a1)] [])
  refine Gl.st (fun _ kk => XS.aloadN X0.here hx rfl (hb hby d18_0) rfl rfl kk) ?_
  show Gl p e below s _ _ _ s₁ (mkF m 1 #[.val (.ref a1)] [(.ref a1)])
  obtain ⟨T1, X1, e1, st1⟩ := getF X0 hx hZ hown (host := "") (Or.inl (hw _ (List.mem_of_getElem? (i := 68) rfl))) Via.refl e0 F_failure_a1 (g := (mkF m 1 #[.val (.ref a1)] [(.ref a1)])) rfl rfl (hb hby d18_1)
  refine Gl.st st1 ?_
  show Gl p e below s _ _ _ T1 (mkF m 4 #[.val (.ref a1)] [(.ref u)])
  exact Gl.ret X1 (v := (some (.ref u))) (fun h => by rw [Bd.returns] at h; cases h) (BodyLoose.notSynchronized Bd) (fun hr => retOut X1 hx Bd.returns rfl (Or.inr (Or.inr (Or.inr (Or.inr ⟨rfl, rfl, rfl⟩)))) (hb hby d18_4) hr) e1 ⟨rfl, N0, rfl⟩ (by decide) (by decide)
theorem pn_rmA_nofail : plainName "com/example/always_once/alwaysonce/ledger/Job" = true := by first | (simp [plainName, overriddenIn]; done) | decide +kernel
theorem ef_rmA_nofail (m : MethodId) (a1 : Addr) : entryFrame m #[(.ref a1)] 1 = mkF m 0 #[.val (.ref a1)] [] := by first | (simp [entryFrame, mkF, argsToLocals, Value.category]; done) | rfl
def Q_rmA_nofail (Z : State) (a1 : Addr)  (h0 : Heap) (n0 : Nat) (v : Option Value) (h : Heap) (L : List Loc) : Prop := v = some .null ∧ Fr n0 L ∧ h = h0
set_option maxRecDepth 65536 in
set_option maxHeartbeats 40000000 in
theorem rmA_nofail (l : Launch) (Z : State) (a0 : Array Value) (hw : ∀ d ∈ tables_1, d.before a0 Z = true) (ws : List Jvm.Cond) (a1 : Addr)  (h0 : Heap) (n0 : Nat) (O0 : Old Z n0 h0) (F_failure_a1 : Fld Z h0 a1 "com/example/always_once/alwaysonce/ledger/Job" "failure" "Ljava/lang/String;" .null) :
    MetFree l (⟨"com/example/always_once/alwaysonce/ledger/Job", "failure", "()Ljava/lang/String;"⟩ : MethodName) (head1 (Jvm.Cond.code (⟨"com/example/always_once/alwaysonce/ledger/Job", "failure", "()Ljava/lang/String;"⟩ : MethodName) prog_9_method_14_code 1 (some (.object "java/lang/String")) :: ws) ({ frames := 0, cells := 0, slots := 0, locals := 0 } : Room)) (fun a U => a = #[(.ref a1)] ∧ Z.Warmed39 U.vm ∧ U.heap = h0) (fun _ _ _ _ _ => True) (fun _ U o U' => ∃ v L, o = .returned v ∧ Q_rmA_nofail Z a1  h0 n0 v U'.heap L ∧ FrameEnd U o U' L ({ frames := 0, cells := 0, slots := 0, locals := 0 } : Room).cells ({ frames := 0, cells := 0, slots := 0, locals := 0 } : Room).slots) := by
  refine MetFree.of_bodySF (plainFor_of_name pn_rmA_nofail) hisR ?_
  intro p e s m args below meth c s₁ Bd hml0 hP hK
  obtain ⟨rfl, hZ, hh⟩ := hP
  have hx := Bd.exec
  have hby := Bd.bytes
  have hml : c.maxLocals = 1 := hml0
  have hown : s.vm.findClass "com/example/always_once/alwaysonce/ledger/Job" = some m.cls := findClass_of_methodNamed Bd.named
  have hnm := (name_of_methodNamed Bd.named Bd.method).1
  have X0 : Stand p l e ({ frames := 0, cells := 0, slots := 0, locals := 0 } : Room) s m #[(.ref a1)] below meth c s₁ [] 0 0 := Stand.of_body Bd
  have e0 : s₁.heap = h0 := by rw [← hh, Bd.state]; rfl
  have N0 := Fr.nil n0
  refine Gl.start (Q := Q_rmA_nofail Z a1  h0 n0) (ef_rmA_nofail m a1) ?_
  show Gl p e below s _ _ _ s₁ (mkF m 0 #[.val (.ref a1)] [])
  refine Gl.st (fun _ kk => XS.aloadN X0.here hx rfl (hb hby d18_0) rfl rfl kk) ?_
  show Gl p e below s _ _ _ s₁ (mkF m 1 #[.val (.ref a1)] [(.ref a1)])
  obtain ⟨T1, X1, e1, st1⟩ := getF X0 hx hZ hown (host := "") (Or.inl (hw _ (List.mem_of_getElem? (i := 68) rfl))) Via.refl e0 F_failure_a1 (g := (mkF m 1 #[.val (.ref a1)] [(.ref a1)])) rfl rfl (hb hby d18_1)
  refine Gl.st st1 ?_
  show Gl p e below s _ _ _ T1 (mkF m 4 #[.val (.ref a1)] [.null])
  exact Gl.ret X1 (v := (some .null)) (fun h => by rw [Bd.returns] at h; cases h) (BodyLoose.notSynchronized Bd) (fun hr => retOut X1 hx Bd.returns rfl (Or.inr (Or.inr (Or.inr (Or.inr ⟨rfl, rfl, rfl⟩)))) (hb hby d18_4) hr) e1 ⟨rfl, N0, rfl⟩ (by decide) (by decide)
theorem pd_rm0_0 : parseMethodDescriptor "(I)Lcom/example/always_once/alwaysonce/ledger/JobStatus;" = some ⟨[.int], some (.object "com/example/always_once/alwaysonce/ledger/JobStatus")⟩ := by decide +kernel
theorem pd_rm0_1 : parseMethodDescriptor "([C)V" = some ⟨[(.array .char)], none⟩ := by decide +kernel
theorem pd_rm0_2 : parseMethodDescriptor "(JLjava/lang/String;Ljava/lang/String;Lcom/example/always_once/alwaysonce/ledger/JobStatus;Lcom/example/always_once/alwaysonce/ledger/JobCounts;JJLjava/lang/String;)V" = some ⟨[.long, (.object "java/lang/String"), (.object "java/lang/String"), (.object "com/example/always_once/alwaysonce/ledger/JobStatus"), (.object "com/example/always_once/alwaysonce/ledger/JobCounts"), .long, .long, (.object "java/lang/String")], none⟩ := by decide +kernel
theorem pd_rm0_3 : parseMethodDescriptor "(Lcom/example/always_once/alwaysonce/ledger/JobStatus;Lcom/example/always_once/alwaysonce/ledger/JobCounts;JLjava/lang/String;)Lcom/example/always_once/alwaysonce/ledger/Job;" = some ⟨[(.object "com/example/always_once/alwaysonce/ledger/JobStatus"), (.object "com/example/always_once/alwaysonce/ledger/JobCounts"), .long, (.object "java/lang/String")], some (.object "com/example/always_once/alwaysonce/ledger/Job")⟩ := by decide +kernel
theorem pd_rm0_4 : parseMethodDescriptor "()J" = some ⟨[], some .long⟩ := by decide +kernel
theorem pd_rm0_5 : parseMethodDescriptor "()Ljava/lang/String;" = some ⟨[], some (.object "java/lang/String")⟩ := by decide +kernel
theorem pd_rm0_6 : parseMethodDescriptor "()Lcom/example/always_once/alwaysonce/ledger/JobStatus;" = some ⟨[], some (.object "com/example/always_once/alwaysonce/ledger/JobStatus")⟩ := by decide +kernel
theorem pd_rm0_7 : parseMethodDescriptor "()Lcom/example/always_once/alwaysonce/ledger/JobCounts;" = some ⟨[], some (.object "com/example/always_once/alwaysonce/ledger/JobCounts")⟩ := by decide +kernel
theorem pn_rm0 : plainName "com/example/always_once/alwaysonce/ledger/JobWithPinLaw" = true := by first | (simp [plainName, overriddenIn]; done) | decide +kernel
theorem ef_rm0 (m : MethodId) (p1 : Int64) (p2 : Int64) (p3 : Int64) (p4 : Int64) (p5 : Int32) (p6 : Int32) : entryFrame m #[(.long p1), (.long p2), (.long p3), (.long p4), (.int p5), (.int p6)] maxLocals = mkF m 0 #[.val (.long p1), .second, .val (.long p2), .second, .val (.long p3), .second, .val (.long p4), .second, .val (.int p5), .val (.int p6), .unset, .unset, .unset, .unset, .unset, .unset, .unset, .unset, .unset, .unset] [] := by first | (simp [entryFrame, mkF, argsToLocals, Value.category, maxLocals]; done) | rfl
def Q_rm0 (Z : State) (p1 : Int64) (p2 : Int64) (p3 : Int64) (p4 : Int64) (p5 : Int32) (p6 : Int32) (ws_UPLOADED ws_PROCESSING ws_COLUMN_MAPPING ws_COMPLETED ws_FAILED : Addr) (wc_NONE wc_HEADER_ONLY : Addr) (cz : Int32) (h0 : Heap) (n0 : Nat) (v : Option Value) (h : Heap) (L : List Loc) : Prop := v = some (.int 1) ∧ Fr n0 L
set_option maxRecDepth 65536 in
set_option maxHeartbeats 40000000 in
theorem rm0 (l : Launch) (Z : State) (a0 : Array Value) (hw : ∀ d ∈ tables_1, d.before a0 Z = true) (ws : List Jvm.Cond) (p1 : Int64) (p2 : Int64) (p3 : Int64) (p4 : Int64) (p5 : Int32) (p6 : Int32) (ws_UPLOADED ws_PROCESSING ws_COLUMN_MAPPING ws_COMPLETED ws_FAILED : Addr) (wc_NONE wc_HEADER_ONLY : Addr) (cz : Int32) (h0 : Heap) (n0 : Nat) (O0 : Old Z n0 h0) (Ss_UPLOADED : Sta Z Z.heap "com/example/always_once/alwaysonce/ledger/JobStatus" "UPLOADED" "Lcom/example/always_once/alwaysonce/ledger/JobStatus;" (.ref ws_UPLOADED)) (Ss_PROCESSING : Sta Z Z.heap "com/example/always_once/alwaysonce/ledger/JobStatus" "PROCESSING" "Lcom/example/always_once/alwaysonce/ledger/JobStatus;" (.ref ws_PROCESSING)) (Ss_COLUMN_MAPPING : Sta Z Z.heap "com/example/always_once/alwaysonce/ledger/JobStatus" "COLUMN_MAPPING" "Lcom/example/always_once/alwaysonce/ledger/JobStatus;" (.ref ws_COLUMN_MAPPING)) (Ss_COMPLETED : Sta Z Z.heap "com/example/always_once/alwaysonce/ledger/JobStatus" "COMPLETED" "Lcom/example/always_once/alwaysonce/ledger/JobStatus;" (.ref ws_COMPLETED)) (Ss_FAILED : Sta Z Z.heap "com/example/always_once/alwaysonce/ledger/JobStatus" "FAILED" "Lcom/example/always_once/alwaysonce/ledger/JobStatus;" (.ref ws_FAILED)) (Es_UPLOADED : Exa Z Z.heap ws_UPLOADED "com/example/always_once/alwaysonce/ledger/JobStatus") (Es_PROCESSING : Exa Z Z.heap ws_PROCESSING "com/example/always_once/alwaysonce/ledger/JobStatus") (Es_COLUMN_MAPPING : Exa Z Z.heap ws_COLUMN_MAPPING "com/example/always_once/alwaysonce/ledger/JobStatus") (Es_COMPLETED : Exa Z Z.heap ws_COMPLETED "com/example/always_once/alwaysonce/ledger/JobStatus") (Es_FAILED : Exa Z Z.heap ws_FAILED "com/example/always_once/alwaysonce/ledger/JobStatus") (Sc_NONE : Sta Z Z.heap "com/example/always_once/alwaysonce/ledger/JobCounts" "NONE" "Lcom/example/always_once/alwaysonce/ledger/JobCounts;" (.ref wc_NONE)) (Sc_HEADER_ONLY : Sta Z Z.heap "com/example/always_once/alwaysonce/ledger/JobCounts" "HEADER_ONLY" "Lcom/example/always_once/alwaysonce/ledger/JobCounts;" (.ref wc_HEADER_ONLY)) (Ec_NONE : Exa Z Z.heap wc_NONE "com/example/always_once/alwaysonce/ledger/JobCounts") (Ec_HEADER_ONLY : Exa Z Z.heap wc_HEADER_ONLY "com/example/always_once/alwaysonce/ledger/JobCounts") (S_COMPACT : Sta Z Z.heap "java/lang/String" "COMPACT_STRINGS" "Z" (.int cz)) (hcz : ¬ cz = 0) :
    MetFree l x (head1 (Jvm.Cond.code x code maxLocals ret :: ws) room_1) (fun a U => a = #[(.long p1), (.long p2), (.long p3), (.long p4), (.int p5), (.int p6)] ∧ Z.Warmed39 U.vm ∧ U.heap = h0) (fun _ _ _ _ _ => True) (fun _ U o U' => ∃ v L, o = .returned v ∧ Q_rm0 Z p1 p2 p3 p4 p5 p6 ws_UPLOADED ws_PROCESSING ws_COLUMN_MAPPING ws_COMPLETED ws_FAILED wc_NONE wc_HEADER_ONLY cz h0 n0 v U'.heap L ∧ FrameEnd U o U' L room_1.cells room_1.slots) := by
  refine MetFree.of_bodySF (plainFor_of_name pn_rm0) hisR ?_
  intro p e s m args below meth c s₁ Bd hml0 hP hK
  obtain ⟨rfl, hZ, hh⟩ := hP
  have hx := Bd.exec
  have hby := Bd.bytes
  have hml : c.maxLocals = 20 := hml0
  have hown : s.vm.findClass "com/example/always_once/alwaysonce/ledger/JobWithPinLaw" = some m.cls := findClass_of_methodNamed Bd.named
  have hnm := (name_of_methodNamed Bd.named Bd.method).1
  have X0 : Stand p l e room_1 s m #[(.long p1), (.long p2), (.long p3), (.long p4), (.int p5), (.int p6)] below meth c s₁ [] 0 0 := Stand.of_body Bd
  have e0 : s₁.heap = h0 := by rw [← hh, Bd.state]; rfl
  have N0 := Fr.nil n0
  refine Gl.start (Q := Q_rm0 Z p1 p2 p3 p4 p5 p6 ws_UPLOADED ws_PROCESSING ws_COLUMN_MAPPING ws_COMPLETED ws_FAILED wc_NONE wc_HEADER_ONLY cz h0 n0) (ef_rm0 m p1 p2 p3 p4 p5 p6) ?_
  have hws : ∀ d ∈ StrChars.Road.words, d.before a0 Z = true := fun d hd => hw d ((by decide +kernel : ∀ d ∈ StrChars.Road.words, d ∈ tables_1) d hd)
  show Gl p e below s _ _ _ s₁ (mkF m 0 #[.val (.long p1), .second, .val (.long p2), .second, .val (.long p3), .second, .val (.long p4), .second, .val (.int p5), .val (.int p6), .unset, .unset, .unset, .unset, .unset, .unset, .unset, .unset, .unset, .unset] [])
  refine Gl.st (fun _ kk => XS.iload X0.here hx rfl (hb hby at_0) rfl kk) ?_
  show Gl p e below s _ _ _ s₁ (mkF m 2 #[.val (.long p1), .second, .val (.long p2), .second, .val (.long p3), .second, .val (.long p4), .second, .val (.int p5), .val (.int p6), .unset, .unset, .unset, .unset, .unset, .unset, .unset, .unset, .unset, .unset] [(.int p5)])
  refine Gl.st (fun _ kk => XS.bipush X0.here hx rfl (hb hby at_2) kk) ?_
  show Gl p e below s _ _ _ s₁ (mkF m 4 #[.val (.long p1), .second, .val (.long p2), .second, .val (.long p3), .second, .val (.long p4), .second, .val (.int p5), .val (.int p6), .unset, .unset, .unset, .unset, .unset, .unset, .unset, .unset, .unset, .unset] [(.int (7 : Int32)), (.int p5)])
  refine Gl.st (fun _ kk => XS.iand X0.here hx rfl (hb hby at_4) rfl kk) ?_
  show Gl p e below s _ _ _ s₁ (mkF m 5 #[.val (.long p1), .second, .val (.long p2), .second, .val (.long p3), .second, .val (.long p4), .second, .val (.int p5), .val (.int p6), .unset, .unset, .unset, .unset, .unset, .unset, .unset, .unset, .unset, .unset] [(.int (p5 &&& (7 : Int32)))])
  obtain ⟨_, _, ⟨T1, L1, k1, n1⟩, -, X1, ⟨Lc1, hQ1, l1, y1, z1⟩, st1⟩ := Jvm.LawKit.callS X0 hx (y := (⟨"com/example/always_once/alwaysonce/ledger/JobWithPinLaw", "status", "(I)Lcom/example/always_once/alwaysonce/ledger/JobStatus;"⟩ : MethodName)) hown (mvT hZ (hw _ (List.mem_of_getElem? (i := 0) rfl))) (mvT hZ (hw _ (List.mem_of_getElem? (i := 1) rfl))) (mvT hZ (hw _ (List.mem_of_getElem? (i := 2) rfl))) (mvT hZ (hw _ (List.mem_of_getElem? (i := 3) rfl))) (by decide) (backOf (W := 0) (rm1 l Z a0 hw [] (p5 &&& (7 : Int32)) ws_UPLOADED ws_PROCESSING ws_COLUMN_MAPPING ws_COMPLETED ws_FAILED h0 n0 O0 Ss_UPLOADED Ss_PROCESSING Ss_COLUMN_MAPPING Ss_COMPLETED Ss_FAILED) hZ (hw _ (List.mem_of_getElem? (i := 3) rfl)) (hw _ (List.mem_of_getElem? (i := 2) rfl)) (by decide) (by decide)) (g := (mkF m 5 #[.val (.long p1), .second, .val (.long p2), .second, .val (.long p3), .second, .val (.long p4), .second, .val (.int p5), .val (.int p6), .unset, .unset, .unset, .unset, .unset, .unset, .unset, .unset, .unset, .unset] [(.int (p5 &&& (7 : Int32)))])) rfl (by rw [hml]; rfl) (argsL := [(.int (p5 &&& (7 : Int32)))]) (rest := []) (lenOf pd_rm0_0 rfl) rfl (by show 2 * 0 + _ ≤ _; exact Nat.le_of_eq rfl) (hb hby at_5) (fun _ _ => ⟨rfl, e0, (by decide : 0 + 0 ≤ _), (by decide : 0 + 0 ≤ _)⟩)
  dsimp only [Pt.U, Pt.locs, Pt.cells, Pt.slots] at X1 l1 y1 z1 st1 hQ1
  subst l1 y1 z1
  obtain ⟨⟨w1, rfl⟩, Nq1, e1⟩ := hQ1
  have N1 := Fr.app N0 Nq1
  refine Gl.st st1 ?_
  show Gl p e below s _ _ _ T1 (mkF m 8 #[.val (.long p1), .second, .val (.long p2), .second, .val (.long p3), .second, .val (.long p4), .second, .val (.int p5), .val (.int p6), .unset, .unset, .unset, .unset, .unset, .unset, .unset, .unset, .unset, .unset] [(.ref w1)])
  refine Gl.st (fun _ kk => XS.astore X1.here hx rfl (hb hby at_8) rfl rfl (l' := #[.val (.long p1), .second, .val (.long p2), .second, .val (.long p3), .second, .val (.long p4), .second, .val (.int p5), .val (.int p6), .val (.ref w1), .unset, .unset, .unset, .unset, .unset, .unset, .unset, .unset, .unset]) rfl kk) ?_
  show Gl p e below s _ _ _ T1 (mkF m 10 #[.val (.long p1), .second, .val (.long p2), .second, .val (.long p3), .second, .val (.long p4), .second, .val (.int p5), .val (.int p6), .val (.ref w1), .unset, .unset, .unset, .unset, .unset, .unset, .unset, .unset, .unset] [])
  refine Gl.st (fun _ kk => XS.iload X1.here hx rfl (hb hby at_10) rfl kk) ?_
  show Gl p e below s _ _ _ T1 (mkF m 12 #[.val (.long p1), .second, .val (.long p2), .second, .val (.long p3), .second, .val (.long p4), .second, .val (.int p5), .val (.int p6), .val (.ref w1), .unset, .unset, .unset, .unset, .unset, .unset, .unset, .unset, .unset] [(.int p5)])
  refine Gl.st (fun _ kk => XS.iconst X1.here hx rfl (hb hby at_12) kk) ?_
  show Gl p e below s _ _ _ T1 (mkF m 13 #[.val (.long p1), .second, .val (.long p2), .second, .val (.long p3), .second, .val (.long p4), .second, .val (.int p5), .val (.int p6), .val (.ref w1), .unset, .unset, .unset, .unset, .unset, .unset, .unset, .unset, .unset] [(.int (3 : Int32)), (.int p5)])
  refine Gl.st (fun _ kk => XS.iushr X1.here hx rfl (hb hby at_13) rfl kk) ?_
  show Gl p e below s _ _ _ T1 (mkF m 14 #[.val (.long p1), .second, .val (.long p2), .second, .val (.long p3), .second, .val (.long p4), .second, .val (.int p5), .val (.int p6), .val (.ref w1), .unset, .unset, .unset, .unset, .unset, .unset, .unset, .unset, .unset] [(.int ((p5.toUInt32 >>> ((3 : Int32) &&& 31).toUInt32).toInt32))])
  refine Gl.st (fun _ kk => XS.bipush X1.here hx rfl (hb hby at_14) kk) ?_
  show Gl p e below s _ _ _ T1 (mkF m 16 #[.val (.long p1), .second, .val (.long p2), .second, .val (.long p3), .second, .val (.long p4), .second, .val (.int p5), .val (.int p6), .val (.ref w1), .unset, .unset, .unset, .unset, .unset, .unset, .unset, .unset, .unset] [(.int (7 : Int32)), (.int ((p5.toUInt32 >>> ((3 : Int32) &&& 31).toUInt32).toInt32))])
  refine Gl.st (fun _ kk => XS.iand X1.here hx rfl (hb hby at_16) rfl kk) ?_
  show Gl p e below s _ _ _ T1 (mkF m 17 #[.val (.long p1), .second, .val (.long p2), .second, .val (.long p3), .second, .val (.long p4), .second, .val (.int p5), .val (.int p6), .val (.ref w1), .unset, .unset, .unset, .unset, .unset, .unset, .unset, .unset, .unset] [(.int (((p5.toUInt32 >>> ((3 : Int32) &&& 31).toUInt32).toInt32) &&& (7 : Int32)))])
  obtain ⟨_, _, ⟨T2, L2, k2, n2⟩, -, X2, ⟨Lc2, hQ2, l2, y2, z2⟩, st2⟩ := Jvm.LawKit.callS X1 hx (y := (⟨"com/example/always_once/alwaysonce/ledger/JobWithPinLaw", "status", "(I)Lcom/example/always_once/alwaysonce/ledger/JobStatus;"⟩ : MethodName)) hown (mvT hZ (hw _ (List.mem_of_getElem? (i := 0) rfl))) (mvT hZ (hw _ (List.mem_of_getElem? (i := 1) rfl))) (mvT hZ (hw _ (List.mem_of_getElem? (i := 2) rfl))) (mvT hZ (hw _ (List.mem_of_getElem? (i := 3) rfl))) (by decide) (backOf (W := 0) (rm1 l Z a0 hw [] (((p5.toUInt32 >>> ((3 : Int32) &&& 31).toUInt32).toInt32) &&& (7 : Int32)) ws_UPLOADED ws_PROCESSING ws_COLUMN_MAPPING ws_COMPLETED ws_FAILED h0 n0 O0 Ss_UPLOADED Ss_PROCESSING Ss_COLUMN_MAPPING Ss_COMPLETED Ss_FAILED) hZ (hw _ (List.mem_of_getElem? (i := 3) rfl)) (hw _ (List.mem_of_getElem? (i := 2) rfl)) (by decide) (by decide)) (g := (mkF m 17 #[.val (.long p1), .second, .val (.long p2), .second, .val (.long p3), .second, .val (.long p4), .second, .val (.int p5), .val (.int p6), .val (.ref w1), .unset, .unset, .unset, .unset, .unset, .unset, .unset, .unset, .unset] [(.int (((p5.toUInt32 >>> ((3 : Int32) &&& 31).toUInt32).toInt32) &&& (7 : Int32)))])) rfl (by rw [hml]; rfl) (argsL := [(.int (((p5.toUInt32 >>> ((3 : Int32) &&& 31).toUInt32).toInt32) &&& (7 : Int32)))]) (rest := []) (lenOf pd_rm0_0 rfl) rfl (by show 2 * 0 + _ ≤ _; exact Nat.le_of_eq rfl) (hb hby at_17) (fun _ _ => ⟨rfl, e1, (by decide : 0 + 0 ≤ _), (by decide : 0 + 0 ≤ _)⟩)
  dsimp only [Pt.U, Pt.locs, Pt.cells, Pt.slots] at X2 l2 y2 z2 st2 hQ2
  subst l2 y2 z2
  obtain ⟨⟨w2, rfl⟩, Nq2, e2⟩ := hQ2
  have N2 := Fr.app N1 Nq2
  refine Gl.st st2 ?_
  show Gl p e below s _ _ _ T2 (mkF m 20 #[.val (.long p1), .second, .val (.long p2), .second, .val (.long p3), .second, .val (.long p4), .second, .val (.int p5), .val (.int p6), .val (.ref w1), .unset, .unset, .unset, .unset, .unset, .unset, .unset, .unset, .unset] [(.ref w2)])
  refine Gl.st (fun _ kk => XS.astore X2.here hx rfl (hb hby at_20) rfl rfl (l' := #[.val (.long p1), .second, .val (.long p2), .second, .val (.long p3), .second, .val (.long p4), .second, .val (.int p5), .val (.int p6), .val (.ref w1), .val (.ref w2), .unset, .unset, .unset, .unset, .unset, .unset, .unset, .unset]) rfl kk) ?_
  show Gl p e below s _ _ _ T2 (mkF m 22 #[.val (.long p1), .second, .val (.long p2), .second, .val (.long p3), .second, .val (.long p4), .second, .val (.int p5), .val (.int p6), .val (.ref w1), .val (.ref w2), .unset, .unset, .unset, .unset, .unset, .unset, .unset, .unset] [])
  refine Gl.st (fun _ kk => XS.iload X2.here hx rfl (hb hby at_22) rfl kk) ?_
  show Gl p e below s _ _ _ T2 (mkF m 24 #[.val (.long p1), .second, .val (.long p2), .second, .val (.long p3), .second, .val (.long p4), .second, .val (.int p5), .val (.int p6), .val (.ref w1), .val (.ref w2), .unset, .unset, .unset, .unset, .unset, .unset, .unset, .unset] [(.int p5)])
  refine Gl.st (fun _ kk => XS.bipush X2.here hx rfl (hb hby at_24) kk) ?_
  show Gl p e below s _ _ _ T2 (mkF m 26 #[.val (.long p1), .second, .val (.long p2), .second, .val (.long p3), .second, .val (.long p4), .second, .val (.int p5), .val (.int p6), .val (.ref w1), .val (.ref w2), .unset, .unset, .unset, .unset, .unset, .unset, .unset, .unset] [(.int (6 : Int32)), (.int p5)])
  refine Gl.st (fun _ kk => XS.iushr X2.here hx rfl (hb hby at_26) rfl kk) ?_
  show Gl p e below s _ _ _ T2 (mkF m 27 #[.val (.long p1), .second, .val (.long p2), .second, .val (.long p3), .second, .val (.long p4), .second, .val (.int p5), .val (.int p6), .val (.ref w1), .val (.ref w2), .unset, .unset, .unset, .unset, .unset, .unset, .unset, .unset] [(.int ((p5.toUInt32 >>> ((6 : Int32) &&& 31).toUInt32).toInt32))])
  refine Gl.st (fun _ kk => XS.iconst X2.here hx rfl (hb hby at_27) kk) ?_
  show Gl p e below s _ _ _ T2 (mkF m 28 #[.val (.long p1), .second, .val (.long p2), .second, .val (.long p3), .second, .val (.long p4), .second, .val (.int p5), .val (.int p6), .val (.ref w1), .val (.ref w2), .unset, .unset, .unset, .unset, .unset, .unset, .unset, .unset] [(.int (1 : Int32)), (.int ((p5.toUInt32 >>> ((6 : Int32) &&& 31).toUInt32).toInt32))])
  refine Gl.st (fun _ kk => XS.iand X2.here hx rfl (hb hby at_28) rfl kk) ?_
  show Gl p e below s _ _ _ T2 (mkF m 29 #[.val (.long p1), .second, .val (.long p2), .second, .val (.long p3), .second, .val (.long p4), .second, .val (.int p5), .val (.int p6), .val (.ref w1), .val (.ref w2), .unset, .unset, .unset, .unset, .unset, .unset, .unset, .unset] [(.int (((p5.toUInt32 >>> ((6 : Int32) &&& 31).toUInt32).toInt32) &&& (1 : Int32)))])
  have join41 : ∀ (u12 : Addr) (T3 : State) (L3 : List Loc), Stand p l e room_1 s m #[(.long p1), (.long p2), (.long p3), (.long p4), (.int p5), (.int p6)] below meth c T3 L3 0 0 → T3.heap = h0 → Fr n0 L3 → Gl p e below s room_1.cells room_1.slots (Q_rm0 Z p1 p2 p3 p4 p5 p6 ws_UPLOADED ws_PROCESSING ws_COLUMN_MAPPING ws_COMPLETED ws_FAILED wc_NONE wc_HEADER_ONLY cz h0 n0) T3 (mkF m 41 #[.val (.long p1), .second, .val (.long p2), .second, .val (.long p3), .second, .val (.long p4), .second, .val (.int p5), .val (.int p6), .val (.ref w1), .val (.ref w2), .unset, .unset, .unset, .unset, .unset, .unset, .unset, .unset] [(.ref u12)]) := by
    intro u12  T3 L3 X3 e3 N3
    refine Gl.st (fun _ kk => XS.astore X3.here hx rfl (hb hby at_41) rfl rfl (l' := #[.val (.long p1), .second, .val (.long p2), .second, .val (.long p3), .second, .val (.long p4), .second, .val (.int p5), .val (.int p6), .val (.ref w1), .val (.ref w2), .val (.ref u12), .unset, .unset, .unset, .unset, .unset, .unset, .unset]) rfl kk) ?_
    show Gl p e below s _ _ _ T3 (mkF m 43 #[.val (.long p1), .second, .val (.long p2), .second, .val (.long p3), .second, .val (.long p4), .second, .val (.int p5), .val (.int p6), .val (.ref w1), .val (.ref w2), .val (.ref u12), .unset, .unset, .unset, .unset, .unset, .unset, .unset] [])
    refine Gl.st (fun _ kk => XS.iload X3.here hx rfl (hb hby at_43) rfl kk) ?_
    show Gl p e below s _ _ _ T3 (mkF m 45 #[.val (.long p1), .second, .val (.long p2), .second, .val (.long p3), .second, .val (.long p4), .second, .val (.int p5), .val (.int p6), .val (.ref w1), .val (.ref w2), .val (.ref u12), .unset, .unset, .unset, .unset, .unset, .unset, .unset] [(.int p5)])
    refine Gl.st (fun _ kk => XS.bipush X3.here hx rfl (hb hby at_45) kk) ?_
    show Gl p e below s _ _ _ T3 (mkF m 47 #[.val (.long p1), .second, .val (.long p2), .second, .val (.long p3), .second, .val (.long p4), .second, .val (.int p5), .val (.int p6), .val (.ref w1), .val (.ref w2), .val (.ref u12), .unset, .unset, .unset, .unset, .unset, .unset, .unset] [(.int (7 : Int32)), (.int p5)])
    refine Gl.st (fun _ kk => XS.iushr X3.here hx rfl (hb hby at_47) rfl kk) ?_
    show Gl p e below s _ _ _ T3 (mkF m 48 #[.val (.long p1), .second, .val (.long p2), .second, .val (.long p3), .second, .val (.long p4), .second, .val (.int p5), .val (.int p6), .val (.ref w1), .val (.ref w2), .val (.ref u12), .unset, .unset, .unset, .unset, .unset, .unset, .unset] [(.int ((p5.toUInt32 >>> ((7 : Int32) &&& 31).toUInt32).toInt32))])
    refine Gl.st (fun _ kk => XS.iconst X3.here hx rfl (hb hby at_48) kk) ?_
    show Gl p e below s _ _ _ T3 (mkF m 49 #[.val (.long p1), .second, .val (.long p2), .second, .val (.long p3), .second, .val (.long p4), .second, .val (.int p5), .val (.int p6), .val (.ref w1), .val (.ref w2), .val (.ref u12), .unset, .unset, .unset, .unset, .unset, .unset, .unset] [(.int (1 : Int32)), (.int ((p5.toUInt32 >>> ((7 : Int32) &&& 31).toUInt32).toInt32))])
    refine Gl.st (fun _ kk => XS.iand X3.here hx rfl (hb hby at_49) rfl kk) ?_
    show Gl p e below s _ _ _ T3 (mkF m 50 #[.val (.long p1), .second, .val (.long p2), .second, .val (.long p3), .second, .val (.long p4), .second, .val (.int p5), .val (.int p6), .val (.ref w1), .val (.ref w2), .val (.ref u12), .unset, .unset, .unset, .unset, .unset, .unset, .unset] [(.int (((p5.toUInt32 >>> ((7 : Int32) &&& 31).toUInt32).toInt32) &&& (1 : Int32)))])
    have join62 : ∀ (u13 : Addr) (T4 : State) (L4 : List Loc), Stand p l e room_1 s m #[(.long p1), (.long p2), (.long p3), (.long p4), (.int p5), (.int p6)] below meth c T4 L4 0 0 → T4.heap = h0 → Fr n0 L4 → Gl p e below s room_1.cells room_1.slots (Q_rm0 Z p1 p2 p3 p4 p5 p6 ws_UPLOADED ws_PROCESSING ws_COLUMN_MAPPING ws_COMPLETED ws_FAILED wc_NONE wc_HEADER_ONLY cz h0 n0) T4 (mkF m 62 #[.val (.long p1), .second, .val (.long p2), .second, .val (.long p3), .second, .val (.long p4), .second, .val (.int p5), .val (.int p6), .val (.ref w1), .val (.ref w2), .val (.ref u12), .unset, .unset, .unset, .unset, .unset, .unset, .unset] [(.ref u13)]) := by
      intro u13  T4 L4 X4 e4 N4
      refine Gl.st (fun _ kk => XS.astore X4.here hx rfl (hb hby at_62) rfl rfl (l' := #[.val (.long p1), .second, .val (.long p2), .second, .val (.long p3), .second, .val (.long p4), .second, .val (.int p5), .val (.int p6), .val (.ref w1), .val (.ref w2), .val (.ref u12), .val (.ref u13), .unset, .unset, .unset, .unset, .unset, .unset]) rfl kk) ?_
      show Gl p e below s _ _ _ T4 (mkF m 64 #[.val (.long p1), .second, .val (.long p2), .second, .val (.long p3), .second, .val (.long p4), .second, .val (.int p5), .val (.int p6), .val (.ref w1), .val (.ref w2), .val (.ref u12), .val (.ref u13), .unset, .unset, .unset, .unset, .unset, .unset] [])
      obtain ⟨T5, h5, X5, e5, E5, A5, D5, V5, st5⟩ := newO X4 hx hZ hown (hw _ (List.mem_of_getElem? (i := 12) rfl)) (hw _ (List.mem_of_getElem? (i := 13) rfl)) (hw _ (List.mem_of_getElem? (i := 14) rfl)) e4 (g := (mkF m 64 #[.val (.long p1), .second, .val (.long p2), .second, .val (.long p3), .second, .val (.long p4), .second, .val (.int p5), .val (.int p6), .val (.ref w1), .val (.ref w2), .val (.ref u12), .val (.ref u13), .unset, .unset, .unset, .unset, .unset, .unset] [])) rfl (hb hby at_64) (by decide) (by decide)
      obtain ⟨b5, g5⟩ : ∃ z, z = h0.size := ⟨_, rfl⟩
      rw [← g5] at A5 D5 V5 st5
      refine Gl.st st5 ?_
      have ge_b5 : n0 ≤ b5 := Nat.le_trans (Nat.le_trans (Nat.le_of_eq O0.1.symm) O0.2.1) (Nat.le_of_eq g5.symm)
      have fr_b5 : h0.size ≤ b5 := Nat.le_trans (Nat.le_refl _) (Nat.le_of_eq g5.symm)
      have O5 := O0.ext E5
      have K5 := (Keep.refl h0 []).ext E5
      have Exa_b5 := A5
      have F_coder_b5 : Fld Z h5 b5 "java/lang/String" "coder" "B" (.int (0 : Int32)) := D5 (Or.inr (hw _ (List.mem_of_getElem? (i := 39) rfl))) (ty := .byte) (by decide)
      have F_value_b5 : Fld Z h5 b5 "java/lang/String" "value" "[B" .null := D5 (Or.inr (hw _ (List.mem_of_getElem? (i := 41) rfl))) (ty := (.array .byte)) (by decide)
      show Gl p e below s _ _ _ T5 (mkF m 67 #[.val (.long p1), .second, .val (.long p2), .second, .val (.long p3), .second, .val (.long p4), .second, .val (.int p5), .val (.int p6), .val (.ref w1), .val (.ref w2), .val (.ref u12), .val (.ref u13), .unset, .unset, .unset, .unset, .unset, .unset] [(.ref b5)])
      refine Gl.st (fun _ kk => XS.dup X5.here hx rfl (hb hby at_67) rfl rfl kk) ?_
      show Gl p e below s _ _ _ T5 (mkF m 68 #[.val (.long p1), .second, .val (.long p2), .second, .val (.long p3), .second, .val (.long p4), .second, .val (.int p5), .val (.int p6), .val (.ref w1), .val (.ref w2), .val (.ref u12), .val (.ref u13), .unset, .unset, .unset, .unset, .unset, .unset] [(.ref b5), (.ref b5)])
      refine Gl.st (fun _ kk => XS.iconst X5.here hx rfl (hb hby at_68) kk) ?_
      show Gl p e below s _ _ _ T5 (mkF m 69 #[.val (.long p1), .second, .val (.long p2), .second, .val (.long p3), .second, .val (.long p4), .second, .val (.int p5), .val (.int p6), .val (.ref w1), .val (.ref w2), .val (.ref u12), .val (.ref u13), .unset, .unset, .unset, .unset, .unset, .unset] [(.int (1 : Int32)), (.ref b5), (.ref b5)])
      obtain ⟨T6, h6, k6, X6, e6, E6, A6, st6⟩ := newP X5 hx hZ (hw _ (List.mem_of_getElem? (i := 15) rfl)) e5 (g := (mkF m 69 #[.val (.long p1), .second, .val (.long p2), .second, .val (.long p3), .second, .val (.long p4), .second, .val (.int p5), .val (.int p6), .val (.ref w1), .val (.ref w2), .val (.ref u12), .val (.ref u13), .unset, .unset, .unset, .unset, .unset, .unset] [(.int (1 : Int32)), (.ref b5), (.ref b5)])) rfl (hb hby at_69) rfl (by decide) (cap := 1) (by decide) (by decide) (by decide) (by decide)
      obtain ⟨b6, g6⟩ : ∃ z, z = h5.size := ⟨_, rfl⟩
      rw [← g6] at A6 st6
      refine Gl.st st6 ?_
      have ne_b5_b6 : b5 ≠ b6 := Nat.ne_of_lt (Nat.lt_of_lt_of_eq Exa_b5.lt g6.symm)
      have ge_b6 : n0 ≤ b6 := Nat.le_trans (Nat.le_trans (Nat.le_of_eq O5.1.symm) O5.2.1) (Nat.le_of_eq g6.symm)
      have fr_b6 : h0.size ≤ b6 := Nat.le_trans K5.1 (Nat.le_of_eq g6.symm)
      have Exa_b5 := Exa_b5.ext E6
      have F_coder_b5 := F_coder_b5.ext E6
      have F_value_b5 := F_value_b5.ext E6
      have O6 := O5.ext E6
      have K6 := K5.ext E6
      have Arv_b6 : Arv Z h6 b6 k6 .char (1 : Int32) [(.int (0 : Int32))] (.int (0 : Int32)) := (Arv.new A6 (by decide)).pad (pad_rep [] (.int (0 : Int32)) 1)
      show Gl p e below s _ _ _ T6 (mkF m 71 #[.val (.long p1), .second, .val (.long p2), .second, .val (.long p3), .second, .val (.long p4), .second, .val (.int p5), .val (.int p6), .val (.ref w1), .val (.ref w2), .val (.ref u12), .val (.ref u13), .unset, .unset, .unset, .unset, .unset, .unset] [(.ref b6), (.ref b5), (.ref b5)])
      refine Gl.st (fun _ kk => XS.dup X6.here hx rfl (hb hby at_71) rfl rfl kk) ?_
      show Gl p e below s _ _ _ T6 (mkF m 72 #[.val (.long p1), .second, .val (.long p2), .second, .val (.long p3), .second, .val (.long p4), .second, .val (.int p5), .val (.int p6), .val (.ref w1), .val (.ref w2), .val (.ref u12), .val (.ref u13), .unset, .unset, .unset, .unset, .unset, .unset] [(.ref b6), (.ref b6), (.ref b5), (.ref b5)])
      refine Gl.st (fun _ kk => XS.iconst X6.here hx rfl (hb hby at_72) kk) ?_
      show Gl p e below s _ _ _ T6 (mkF m 73 #[.val (.long p1), .second, .val (.long p2), .second, .val (.long p3), .second, .val (.long p4), .second, .val (.int p5), .val (.int p6), .val (.ref w1), .val (.ref w2), .val (.ref u12), .val (.ref u13), .unset, .unset, .unset, .unset, .unset, .unset] [(.int (0 : Int32)), (.ref b6), (.ref b6), (.ref b5), (.ref b5)])
      refine Gl.st (fun _ kk => XS.iload X6.here hx rfl (hb hby at_73) rfl kk) ?_
      show Gl p e below s _ _ _ T6 (mkF m 75 #[.val (.long p1), .second, .val (.long p2), .second, .val (.long p3), .second, .val (.long p4), .second, .val (.int p5), .val (.int p6), .val (.ref w1), .val (.ref w2), .val (.ref u12), .val (.ref u13), .unset, .unset, .unset, .unset, .unset, .unset] [(.int p6), (.int (0 : Int32)), (.ref b6), (.ref b6), (.ref b5), (.ref b5)])
      refine Gl.st (fun _ kk => XS.sipush X6.here hx rfl (hb hby at_75) kk) ?_
      show Gl p e below s _ _ _ T6 (mkF m 78 #[.val (.long p1), .second, .val (.long p2), .second, .val (.long p3), .second, .val (.long p4), .second, .val (.int p5), .val (.int p6), .val (.ref w1), .val (.ref w2), .val (.ref u12), .val (.ref u13), .unset, .unset, .unset, .unset, .unset, .unset] [(.int (255 : Int32)), (.int p6), (.int (0 : Int32)), (.ref b6), (.ref b6), (.ref b5), (.ref b5)])
      refine Gl.st (fun _ kk => XS.iand X6.here hx rfl (hb hby at_78) rfl kk) ?_
      show Gl p e below s _ _ _ T6 (mkF m 79 #[.val (.long p1), .second, .val (.long p2), .second, .val (.long p3), .second, .val (.long p4), .second, .val (.int p5), .val (.int p6), .val (.ref w1), .val (.ref w2), .val (.ref u12), .val (.ref u13), .unset, .unset, .unset, .unset, .unset, .unset] [(.int (p6 &&& (255 : Int32))), (.int (0 : Int32)), (.ref b6), (.ref b6), (.ref b5), (.ref b5)])
      refine Gl.st (fun _ kk => XS.i2c X6.here hx rfl (hb hby at_79) rfl kk) ?_
      show Gl p e below s _ _ _ T6 (mkF m 80 #[.val (.long p1), .second, .val (.long p2), .second, .val (.long p3), .second, .val (.long p4), .second, .val (.int p5), .val (.int p6), .val (.ref w1), .val (.ref w2), .val (.ref u12), .val (.ref u13), .unset, .unset, .unset, .unset, .unset, .unset] [(.int ((p6 &&& (255 : Int32)).toUInt32.toUInt16.toUInt32.toInt32)), (.int (0 : Int32)), (.ref b6), (.ref b6), (.ref b5), (.ref b5)])
      obtain ⟨cl7, Ar7, q7, Sz7, Ng7, Ha7, Fi7⟩ := id Arv_b6
      have hin7 : ¬ ((0 : Int32) < 0 ∨ cl7.slots.size ≤ ((0 : Int32)).toNatClampNeg) := inb_of Sz7 ⟨by decide, by decide⟩
      obtain ⟨T7, h7, X7, e7, W7, st7⟩ := stC X6 hx hZ e6 Ar7 (j := (0 : Int32)) hin7 (g := (mkF m 80 #[.val (.long p1), .second, .val (.long p2), .second, .val (.long p3), .second, .val (.long p4), .second, .val (.int p5), .val (.int p6), .val (.ref w1), .val (.ref w2), .val (.ref u12), .val (.ref u13), .unset, .unset, .unset, .unset, .unset, .unset] [(.int ((p6 &&& (255 : Int32)).toUInt32.toUInt16.toUInt32.toInt32)), (.int (0 : Int32)), (.ref b6), (.ref b6), (.ref b5), (.ref b5)])) rfl rfl (hb hby at_80)
      refine Gl.st st7 ?_
      have Arv_b6 : Arv Z h7 b6 k6 .char (1 : Int32) [(.int (nar .char ((p6 &&& (255 : Int32)).toUInt32.toUInt16.toUInt32.toInt32)))] (.int (0 : Int32)) := Arv.set Ar7 q7 Sz7 Ng7 Ha7 Fi7 (fits_nar_char _) W7 0 rfl (Nat.le_of_ble_eq_true rfl)
      have Exa_b5 := Exa_b5.wr W7
      have F_coder_b5 := F_coder_b5.other W7 (Or.inl ne_b5_b6)
      have F_value_b5 := F_value_b5.other W7 (Or.inl ne_b5_b6)
      have O7 := O6.wr W7 ge_b6
      have K7 := K6.wr W7 (Or.inr fr_b6)
      have N7 := Fr.snoc X7 N4 ge_b6
      show Gl p e below s _ _ _ T7 (mkF m 81 #[.val (.long p1), .second, .val (.long p2), .second, .val (.long p3), .second, .val (.long p4), .second, .val (.int p5), .val (.int p6), .val (.ref w1), .val (.ref w2), .val (.ref u12), .val (.ref u13), .unset, .unset, .unset, .unset, .unset, .unset] [(.ref b6), (.ref b5), (.ref b5)])
      have hlat8 : ∀ c ∈ ([(nar .char ((p6 &&& (255 : Int32)).toUInt32.toUInt16.toUInt32.toInt32))] : List Int32), ¬ c < 0 ∧ ¬ (255 : Int32) < c := by
        intro c hc
        simp only [List.mem_cons, List.not_mem_nil, or_false] at hc
        rcases hc with rfl
        · rw [own_nar255]; exact own_and255 _
      obtain ⟨_, _, ⟨T9, L9, k9, n9⟩, -, X9, ⟨Lc9, hQ9, l9, y9, z9⟩, st9⟩ := X7.specialBack hx (y := (⟨"java/lang/String", "<init>", "([C)V"⟩ : MethodName)) rfl hown (mvT hZ (hw _ (List.mem_of_getElem? (i := 16) rfl))) (mvT hZ (hw _ (List.mem_of_getElem? (i := 17) rfl))) (mvT hZ (hw _ (List.mem_of_getElem? (i := 18) rfl))) (by decide) (StrChars.Road.backV (W := 1) hZ hws (kI := 4) (hw _ (List.mem_of_getElem? (i := 13) rfl)) (cs := [(nar .char ((p6 &&& (255 : Int32)).toUInt32.toUInt16.toUInt32.toInt32))]) (bs := [((nar .char ((p6 &&& (255 : Int32)).toUInt32.toUInt16.toUInt32.toInt32))).toInt8.toInt32]) (n := 1) ge_b5 (Nat.le_trans (Nat.le_of_eq O7.1.symm) O7.2.1) Exa_b5 F_value_b5 F_coder_b5 Arv_b6 (S_COMPACT.ext O7.2) hcz rfl rfl (by decide) (by decide) hlat8 rfl (by decide) (by decide)) (g := (mkF m 81 #[.val (.long p1), .second, .val (.long p2), .second, .val (.long p3), .second, .val (.long p4), .second, .val (.int p5), .val (.int p6), .val (.ref w1), .val (.ref w2), .val (.ref u12), .val (.ref u13), .unset, .unset, .unset, .unset, .unset, .unset] [(.ref b6), (.ref b5), (.ref b5)])) rfl (by rw [hml]; rfl) (Steps.refl _) (a := b5) (argsL := [(.ref b6)]) (rest := [(.ref b5)]) (lenOf pd_rm0_1 rfl) rfl (by show 2 * 0 + _ ≤ _; exact Nat.le_of_eq rfl) (hb hby at_81) (fun _ _ => ⟨rfl, e7, (by decide : 2 + 1 ≤ _), (by decide : 5 + 1 ≤ _)⟩)
      dsimp only [Pt.U, Pt.locs, Pt.cells, Pt.slots] at X9 l9 y9 z9 st9 hQ9
      subst l9 y9 z9
      obtain ⟨h9, e9⟩ : ∃ z, T9.heap = z := ⟨_, rfl⟩
      rw [e9] at hQ9
      obtain ⟨rfl, Nq9, Kq9, Eq9, Cq9, t9, kb9, gt9, fr_t9, ne_t9, Fq9, Aq9⟩ := hQ9
      have N9 := Fr.app N7 Nq9
      refine Gl.st (fun _ kk => st9.trans kk) ?_
      have Exa_b5 := Exa_b5.keep Kq9
      have Arv_b6 := Arv_b6.keep Kq9 (ninS (Ne.symm ne_b5_b6) nin0)
      have O9 := O7.keep Kq9 (allS ge_b5 all0)
      have K9 := K7.trans Kq9 (allS (Or.inr fr_b5) all0)
      have F_coder_b5 := Cq9
      have F_value_b5 := Fq9
      have Arv_t9 := Aq9
      show Gl p e below s _ _ _ T9 (mkF m 84 #[.val (.long p1), .second, .val (.long p2), .second, .val (.long p3), .second, .val (.long p4), .second, .val (.int p5), .val (.int p6), .val (.ref w1), .val (.ref w2), .val (.ref u12), .val (.ref u13), .unset, .unset, .unset, .unset, .unset, .unset] [(.ref b5)])
      refine Gl.st (fun _ kk => XS.astore X9.here hx rfl (hb hby at_84) rfl rfl (l' := #[.val (.long p1), .second, .val (.long p2), .second, .val (.long p3), .second, .val (.long p4), .second, .val (.int p5), .val (.int p6), .val (.ref w1), .val (.ref w2), .val (.ref u12), .val (.ref u13), .val (.ref b5), .unset, .unset, .unset, .unset, .unset]) rfl kk) ?_
      show Gl p e below s _ _ _ T9 (mkF m 86 #[.val (.long p1), .second, .val (.long p2), .second, .val (.long p3), .second, .val (.long p4), .second, .val (.int p5), .val (.int p6), .val (.ref w1), .val (.ref w2), .val (.ref u12), .val (.ref u13), .val (.ref b5), .unset, .unset, .unset, .unset, .unset] [])
      obtain ⟨T10, h10, X10, e10, E10, A10, D10, V10, st10⟩ := newO X9 hx hZ hown (hw _ (List.mem_of_getElem? (i := 12) rfl)) (hw _ (List.mem_of_getElem? (i := 13) rfl)) (hw _ (List.mem_of_getElem? (i := 14) rfl)) e9 (g := (mkF m 86 #[.val (.long p1), .second, .val (.long p2), .second, .val (.long p3), .second, .val (.long p4), .second, .val (.int p5), .val (.int p6), .val (.ref w1), .val (.ref w2), .val (.ref u12), .val (.ref u13), .val (.ref b5), .unset, .unset, .unset, .unset, .unset] [])) rfl (hb hby at_86) (by decide) (by decide)
      obtain ⟨b10, g10⟩ : ∃ z, z = h9.size := ⟨_, rfl⟩
      rw [← g10] at A10 D10 V10 st10
      refine Gl.st st10 ?_
      have ge_b10 : n0 ≤ b10 := Nat.le_trans (Nat.le_trans (Nat.le_of_eq O9.1.symm) O9.2.1) (Nat.le_of_eq g10.symm)
      have fr_b10 : h0.size ≤ b10 := Nat.le_trans K9.1 (Nat.le_of_eq g10.symm)
      have O10 := O9.ext E10
      have K10 := K9.ext E10
      have Exa_b10 := A10
      have F_coder_b10 : Fld Z h10 b10 "java/lang/String" "coder" "B" (.int (0 : Int32)) := D10 (Or.inr (hw _ (List.mem_of_getElem? (i := 39) rfl))) (ty := .byte) (by decide)
      have F_value_b10 : Fld Z h10 b10 "java/lang/String" "value" "[B" .null := D10 (Or.inr (hw _ (List.mem_of_getElem? (i := 41) rfl))) (ty := (.array .byte)) (by decide)
      show Gl p e below s _ _ _ T10 (mkF m 89 #[.val (.long p1), .second, .val (.long p2), .second, .val (.long p3), .second, .val (.long p4), .second, .val (.int p5), .val (.int p6), .val (.ref w1), .val (.ref w2), .val (.ref u12), .val (.ref u13), .val (.ref b5), .unset, .unset, .unset, .unset, .unset] [(.ref b10)])
      refine Gl.st (fun _ kk => XS.dup X10.here hx rfl (hb hby at_89) rfl rfl kk) ?_
      show Gl p e below s _ _ _ T10 (mkF m 90 #[.val (.long p1), .second, .val (.long p2), .second, .val (.long p3), .second, .val (.long p4), .second, .val (.int p5), .val (.int p6), .val (.ref w1), .val (.ref w2), .val (.ref u12), .val (.ref u13), .val (.ref b5), .unset, .unset, .unset, .unset, .unset] [(.ref b10), (.ref b10)])
      refine Gl.st (fun _ kk => XS.iconst X10.here hx rfl (hb hby at_90) kk) ?_
      show Gl p e below s _ _ _ T10 (mkF m 91 #[.val (.long p1), .second, .val (.long p2), .second, .val (.long p3), .second, .val (.long p4), .second, .val (.int p5), .val (.int p6), .val (.ref w1), .val (.ref w2), .val (.ref u12), .val (.ref u13), .val (.ref b5), .unset, .unset, .unset, .unset, .unset] [(.int (1 : Int32)), (.ref b10), (.ref b10)])
      obtain ⟨T11, h11, k11, X11, e11, E11, A11, st11⟩ := newP X10 hx hZ (hw _ (List.mem_of_getElem? (i := 15) rfl)) e10 (g := (mkF m 91 #[.val (.long p1), .second, .val (.long p2), .second, .val (.long p3), .second, .val (.long p4), .second, .val (.int p5), .val (.int p6), .val (.ref w1), .val (.ref w2), .val (.ref u12), .val (.ref u13), .val (.ref b5), .unset, .unset, .unset, .unset, .unset] [(.int (1 : Int32)), (.ref b10), (.ref b10)])) rfl (hb hby at_91) rfl (by decide) (cap := 1) (by decide) (by decide) (by decide) (by decide)
      obtain ⟨b11, g11⟩ : ∃ z, z = h10.size := ⟨_, rfl⟩
      rw [← g11] at A11 st11
      refine Gl.st st11 ?_
      have ne_b10_b11 : b10 ≠ b11 := Nat.ne_of_lt (Nat.lt_of_lt_of_eq Exa_b10.lt g11.symm)
      have ge_b11 : n0 ≤ b11 := Nat.le_trans (Nat.le_trans (Nat.le_of_eq O10.1.symm) O10.2.1) (Nat.le_of_eq g11.symm)
      have fr_b11 : h0.size ≤ b11 := Nat.le_trans K10.1 (Nat.le_of_eq g11.symm)
      have Exa_b10 := Exa_b10.ext E11
      have F_coder_b10 := F_coder_b10.ext E11
      have F_value_b10 := F_value_b10.ext E11
      have O11 := O10.ext E11
      have K11 := K10.ext E11
      have Arv_b11 : Arv Z h11 b11 k11 .char (1 : Int32) [(.int (0 : Int32))] (.int (0 : Int32)) := (Arv.new A11 (by decide)).pad (pad_rep [] (.int (0 : Int32)) 1)
      show Gl p e below s _ _ _ T11 (mkF m 93 #[.val (.long p1), .second, .val (.long p2), .second, .val (.long p3), .second, .val (.long p4), .second, .val (.int p5), .val (.int p6), .val (.ref w1), .val (.ref w2), .val (.ref u12), .val (.ref u13), .val (.ref b5), .unset, .unset, .unset, .unset, .unset] [(.ref b11), (.ref b10), (.ref b10)])
      refine Gl.st (fun _ kk => XS.dup X11.here hx rfl (hb hby at_93) rfl rfl kk) ?_
      show Gl p e below s _ _ _ T11 (mkF m 94 #[.val (.long p1), .second, .val (.long p2), .second, .val (.long p3), .second, .val (.long p4), .second, .val (.int p5), .val (.int p6), .val (.ref w1), .val (.ref w2), .val (.ref u12), .val (.ref u13), .val (.ref b5), .unset, .unset, .unset, .unset, .unset] [(.ref b11), (.ref b11), (.ref b10), (.ref b10)])
      refine Gl.st (fun _ kk => XS.iconst X11.here hx rfl (hb hby at_94) kk) ?_
      show Gl p e below s _ _ _ T11 (mkF m 95 #[.val (.long p1), .second, .val (.long p2), .second, .val (.long p3), .second, .val (.long p4), .second, .val (.int p5), .val (.int p6), .val (.ref w1), .val (.ref w2), .val (.ref u12), .val (.ref u13), .val (.ref b5), .unset, .unset, .unset, .unset, .unset] [(.int (0 : Int32)), (.ref b11), (.ref b11), (.ref b10), (.ref b10)])
      refine Gl.st (fun _ kk => XS.iload X11.here hx rfl (hb hby at_95) rfl kk) ?_
      show Gl p e below s _ _ _ T11 (mkF m 97 #[.val (.long p1), .second, .val (.long p2), .second, .val (.long p3), .second, .val (.long p4), .second, .val (.int p5), .val (.int p6), .val (.ref w1), .val (.ref w2), .val (.ref u12), .val (.ref u13), .val (.ref b5), .unset, .unset, .unset, .unset, .unset] [(.int p6), (.int (0 : Int32)), (.ref b11), (.ref b11), (.ref b10), (.ref b10)])
      refine Gl.st (fun _ kk => XS.bipush X11.here hx rfl (hb hby at_97) kk) ?_
      show Gl p e below s _ _ _ T11 (mkF m 99 #[.val (.long p1), .second, .val (.long p2), .second, .val (.long p3), .second, .val (.long p4), .second, .val (.int p5), .val (.int p6), .val (.ref w1), .val (.ref w2), .val (.ref u12), .val (.ref u13), .val (.ref b5), .unset, .unset, .unset, .unset, .unset] [(.int (8 : Int32)), (.int p6), (.int (0 : Int32)), (.ref b11), (.ref b11), (.ref b10), (.ref b10)])
      refine Gl.st (fun _ kk => XS.iushr X11.here hx rfl (hb hby at_99) rfl kk) ?_
      show Gl p e below s _ _ _ T11 (mkF m 100 #[.val (.long p1), .second, .val (.long p2), .second, .val (.long p3), .second, .val (.long p4), .second, .val (.int p5), .val (.int p6), .val (.ref w1), .val (.ref w2), .val (.ref u12), .val (.ref u13), .val (.ref b5), .unset, .unset, .unset, .unset, .unset] [(.int ((p6.toUInt32 >>> ((8 : Int32) &&& 31).toUInt32).toInt32)), (.int (0 : Int32)), (.ref b11), (.ref b11), (.ref b10), (.ref b10)])
      refine Gl.st (fun _ kk => XS.sipush X11.here hx rfl (hb hby at_100) kk) ?_
      show Gl p e below s _ _ _ T11 (mkF m 103 #[.val (.long p1), .second, .val (.long p2), .second, .val (.long p3), .second, .val (.long p4), .second, .val (.int p5), .val (.int p6), .val (.ref w1), .val (.ref w2), .val (.ref u12), .val (.ref u13), .val (.ref b5), .unset, .unset, .unset, .unset, .unset] [(.int (255 : Int32)), (.int ((p6.toUInt32 >>> ((8 : Int32) &&& 31).toUInt32).toInt32)), (.int (0 : Int32)), (.ref b11), (.ref b11), (.ref b10), (.ref b10)])
      refine Gl.st (fun _ kk => XS.iand X11.here hx rfl (hb hby at_103) rfl kk) ?_
      show Gl p e below s _ _ _ T11 (mkF m 104 #[.val (.long p1), .second, .val (.long p2), .second, .val (.long p3), .second, .val (.long p4), .second, .val (.int p5), .val (.int p6), .val (.ref w1), .val (.ref w2), .val (.ref u12), .val (.ref u13), .val (.ref b5), .unset, .unset, .unset, .unset, .unset] [(.int (((p6.toUInt32 >>> ((8 : Int32) &&& 31).toUInt32).toInt32) &&& (255 : Int32))), (.int (0 : Int32)), (.ref b11), (.ref b11), (.ref b10), (.ref b10)])
      refine Gl.st (fun _ kk => XS.i2c X11.here hx rfl (hb hby at_104) rfl kk) ?_
      show Gl p e below s _ _ _ T11 (mkF m 105 #[.val (.long p1), .second, .val (.long p2), .second, .val (.long p3), .second, .val (.long p4), .second, .val (.int p5), .val (.int p6), .val (.ref w1), .val (.ref w2), .val (.ref u12), .val (.ref u13), .val (.ref b5), .unset, .unset, .unset, .unset, .unset] [(.int ((((p6.toUInt32 >>> ((8 : Int32) &&& 31).toUInt32).toInt32) &&& (255 : Int32)).toUInt32.toUInt16.toUInt32.toInt32)), (.int (0 : Int32)), (.ref b11), (.ref b11), (.ref b10), (.ref b10)])
      obtain ⟨cl12, Ar12, q12, Sz12, Ng12, Ha12, Fi12⟩ := id Arv_b11
      have hin12 : ¬ ((0 : Int32) < 0 ∨ cl12.slots.size ≤ ((0 : Int32)).toNatClampNeg) := inb_of Sz12 ⟨by decide, by decide⟩
      obtain ⟨T12, h12, X12, e12, W12, st12⟩ := stC X11 hx hZ e11 Ar12 (j := (0 : Int32)) hin12 (g := (mkF m 105 #[.val (.long p1), .second, .val (.long p2), .second, .val (.long p3), .second, .val (.long p4), .second, .val (.int p5), .val (.int p6), .val (.ref w1), .val (.ref w2), .val (.ref u12), .val (.ref u13), .val (.ref b5), .unset, .unset, .unset, .unset, .unset] [(.int ((((p6.toUInt32 >>> ((8 : Int32) &&& 31).toUInt32).toInt32) &&& (255 : Int32)).toUInt32.toUInt16.toUInt32.toInt32)), (.int (0 : Int32)), (.ref b11), (.ref b11), (.ref b10), (.ref b10)])) rfl rfl (hb hby at_105)
      refine Gl.st st12 ?_
      have Arv_b11 : Arv Z h12 b11 k11 .char (1 : Int32) [(.int (nar .char ((((p6.toUInt32 >>> ((8 : Int32) &&& 31).toUInt32).toInt32) &&& (255 : Int32)).toUInt32.toUInt16.toUInt32.toInt32)))] (.int (0 : Int32)) := Arv.set Ar12 q12 Sz12 Ng12 Ha12 Fi12 (fits_nar_char _) W12 0 rfl (Nat.le_of_ble_eq_true rfl)
      have Exa_b10 := Exa_b10.wr W12
      have F_coder_b10 := F_coder_b10.other W12 (Or.inl ne_b10_b11)
      have F_value_b10 := F_value_b10.other W12 (Or.inl ne_b10_b11)
      have O12 := O11.wr W12 ge_b11
      have K12 := K11.wr W12 (Or.inr fr_b11)
      have N12 := Fr.snoc X12 N9 ge_b11
      show Gl p e below s _ _ _ T12 (mkF m 106 #[.val (.long p1), .second, .val (.long p2), .second, .val (.long p3), .second, .val (.long p4), .second, .val (.int p5), .val (.int p6), .val (.ref w1), .val (.ref w2), .val (.ref u12), .val (.ref u13), .val (.ref b5), .unset, .unset, .unset, .unset, .unset] [(.ref b11), (.ref b10), (.ref b10)])
      have hlat13 : ∀ c ∈ ([(nar .char ((((p6.toUInt32 >>> ((8 : Int32) &&& 31).toUInt32).toInt32) &&& (255 : Int32)).toUInt32.toUInt16.toUInt32.toInt32))] : List Int32), ¬ c < 0 ∧ ¬ (255 : Int32) < c := by
        intro c hc
        simp only [List.mem_cons, List.not_mem_nil, or_false] at hc
        rcases hc with rfl
        · rw [own_nar255]; exact own_and255 _
      obtain ⟨_, _, ⟨T14, L14, k14, n14⟩, -, X14, ⟨Lc14, hQ14, l14, y14, z14⟩, st14⟩ := X12.specialBack hx (y := (⟨"java/lang/String", "<init>", "([C)V"⟩ : MethodName)) rfl hown (mvT hZ (hw _ (List.mem_of_getElem? (i := 16) rfl))) (mvT hZ (hw _ (List.mem_of_getElem? (i := 17) rfl))) (mvT hZ (hw _ (List.mem_of_getElem? (i := 18) rfl))) (by decide) (StrChars.Road.backV (W := 1) hZ hws (kI := 4) (hw _ (List.mem_of_getElem? (i := 13) rfl)) (cs := [(nar .char ((((p6.toUInt32 >>> ((8 : Int32) &&& 31).toUInt32).toInt32) &&& (255 : Int32)).toUInt32.toUInt16.toUInt32.toInt32))]) (bs := [((nar .char ((((p6.toUInt32 >>> ((8 : Int32) &&& 31).toUInt32).toInt32) &&& (255 : Int32)).toUInt32.toUInt16.toUInt32.toInt32))).toInt8.toInt32]) (n := 1) ge_b10 (Nat.le_trans (Nat.le_of_eq O12.1.symm) O12.2.1) Exa_b10 F_value_b10 F_coder_b10 Arv_b11 (S_COMPACT.ext O12.2) hcz rfl rfl (by decide) (by decide) hlat13 rfl (by decide) (by decide)) (g := (mkF m 106 #[.val (.long p1), .second, .val (.long p2), .second, .val (.long p3), .second, .val (.long p4), .second, .val (.int p5), .val (.int p6), .val (.ref w1), .val (.ref w2), .val (.ref u12), .val (.ref u13), .val (.ref b5), .unset, .unset, .unset, .unset, .unset] [(.ref b11), (.ref b10), (.ref b10)])) rfl (by rw [hml]; rfl) (Steps.refl _) (a := b10) (argsL := [(.ref b11)]) (rest := [(.ref b10)]) (lenOf pd_rm0_1 rfl) rfl (by show 2 * 0 + _ ≤ _; exact Nat.le_of_eq rfl) (hb hby at_106) (fun _ _ => ⟨rfl, e12, (by decide : 5 + 1 ≤ _), (by decide : 11 + 1 ≤ _)⟩)
      dsimp only [Pt.U, Pt.locs, Pt.cells, Pt.slots] at X14 l14 y14 z14 st14 hQ14
      subst l14 y14 z14
      obtain ⟨h14, e14⟩ : ∃ z, T14.heap = z := ⟨_, rfl⟩
      rw [e14] at hQ14
      obtain ⟨rfl, Nq14, Kq14, Eq14, Cq14, t14, kb14, gt14, fr_t14, ne_t14, Fq14, Aq14⟩ := hQ14
      have N14 := Fr.app N12 Nq14
      refine Gl.st (fun _ kk => st14.trans kk) ?_
      have Exa_b10 := Exa_b10.keep Kq14
      have Arv_b11 := Arv_b11.keep Kq14 (ninS (Ne.symm ne_b10_b11) nin0)
      have O14 := O12.keep Kq14 (allS ge_b10 all0)
      have K14 := K12.trans Kq14 (allS (Or.inr fr_b10) all0)
      have F_coder_b10 := Cq14
      have F_value_b10 := Fq14
      have Arv_t14 := Aq14
      show Gl p e below s _ _ _ T14 (mkF m 109 #[.val (.long p1), .second, .val (.long p2), .second, .val (.long p3), .second, .val (.long p4), .second, .val (.int p5), .val (.int p6), .val (.ref w1), .val (.ref w2), .val (.ref u12), .val (.ref u13), .val (.ref b5), .unset, .unset, .unset, .unset, .unset] [(.ref b10)])
      refine Gl.st (fun _ kk => XS.astore X14.here hx rfl (hb hby at_109) rfl rfl (l' := #[.val (.long p1), .second, .val (.long p2), .second, .val (.long p3), .second, .val (.long p4), .second, .val (.int p5), .val (.int p6), .val (.ref w1), .val (.ref w2), .val (.ref u12), .val (.ref u13), .val (.ref b5), .val (.ref b10), .unset, .unset, .unset, .unset]) rfl kk) ?_
      show Gl p e below s _ _ _ T14 (mkF m 111 #[.val (.long p1), .second, .val (.long p2), .second, .val (.long p3), .second, .val (.long p4), .second, .val (.int p5), .val (.int p6), .val (.ref w1), .val (.ref w2), .val (.ref u12), .val (.ref u13), .val (.ref b5), .val (.ref b10), .unset, .unset, .unset, .unset] [])
      refine Gl.st (fun _ kk => XS.iload X14.here hx rfl (hb hby at_111) rfl kk) ?_
      show Gl p e below s _ _ _ T14 (mkF m 113 #[.val (.long p1), .second, .val (.long p2), .second, .val (.long p3), .second, .val (.long p4), .second, .val (.int p5), .val (.int p6), .val (.ref w1), .val (.ref w2), .val (.ref u12), .val (.ref u13), .val (.ref b5), .val (.ref b10), .unset, .unset, .unset, .unset] [(.int p5)])
      refine Gl.st (fun _ kk => XS.bipush X14.here hx rfl (hb hby at_113) kk) ?_
      show Gl p e below s _ _ _ T14 (mkF m 115 #[.val (.long p1), .second, .val (.long p2), .second, .val (.long p3), .second, .val (.long p4), .second, .val (.int p5), .val (.int p6), .val (.ref w1), .val (.ref w2), .val (.ref u12), .val (.ref u13), .val (.ref b5), .val (.ref b10), .unset, .unset, .unset, .unset] [(.int (8 : Int32)), (.int p5)])
      refine Gl.st (fun _ kk => XS.iushr X14.here hx rfl (hb hby at_115) rfl kk) ?_
      show Gl p e below s _ _ _ T14 (mkF m 116 #[.val (.long p1), .second, .val (.long p2), .second, .val (.long p3), .second, .val (.long p4), .second, .val (.int p5), .val (.int p6), .val (.ref w1), .val (.ref w2), .val (.ref u12), .val (.ref u13), .val (.ref b5), .val (.ref b10), .unset, .unset, .unset, .unset] [(.int ((p5.toUInt32 >>> ((8 : Int32) &&& 31).toUInt32).toInt32))])
      refine Gl.st (fun _ kk => XS.iconst X14.here hx rfl (hb hby at_116) kk) ?_
      show Gl p e below s _ _ _ T14 (mkF m 117 #[.val (.long p1), .second, .val (.long p2), .second, .val (.long p3), .second, .val (.long p4), .second, .val (.int p5), .val (.int p6), .val (.ref w1), .val (.ref w2), .val (.ref u12), .val (.ref u13), .val (.ref b5), .val (.ref b10), .unset, .unset, .unset, .unset] [(.int (1 : Int32)), (.int ((p5.toUInt32 >>> ((8 : Int32) &&& 31).toUInt32).toInt32))])
      refine Gl.st (fun _ kk => XS.iand X14.here hx rfl (hb hby at_117) rfl kk) ?_
      show Gl p e below s _ _ _ T14 (mkF m 118 #[.val (.long p1), .second, .val (.long p2), .second, .val (.long p3), .second, .val (.long p4), .second, .val (.int p5), .val (.int p6), .val (.ref w1), .val (.ref w2), .val (.ref u12), .val (.ref u13), .val (.ref b5), .val (.ref b10), .unset, .unset, .unset, .unset] [(.int (((p5.toUInt32 >>> ((8 : Int32) &&& 31).toUInt32).toInt32) &&& (1 : Int32)))])
      by_cases hc118 : (((p5.toUInt32 >>> ((8 : Int32) &&& 31).toUInt32).toInt32) &&& (1 : Int32)) = (0 : Int32)
      · skip
        refine Gl.st (fun _ kk => XS.ifYes X14.here hx rfl (pc0 := 118) (pc' := 125) rfl (hb hby at_118) rfl ((if0 _ _).trans (teq hc118).1) (by decide) (by decide) kk) ?_
        show Gl p e below s _ _ _ T14 (mkF m 125 #[.val (.long p1), .second, .val (.long p2), .second, .val (.long p3), .second, .val (.long p4), .second, .val (.int p5), .val (.int p6), .val (.ref w1), .val (.ref w2), .val (.ref u12), .val (.ref u13), .val (.ref b5), .val (.ref b10), .unset, .unset, .unset, .unset] [])
        obtain ⟨T15, h15, X15, e15, E15, A15, D15, V15, st15⟩ := newO X14 hx hZ hown (hw _ (List.mem_of_getElem? (i := 12) rfl)) (hw _ (List.mem_of_getElem? (i := 13) rfl)) (hw _ (List.mem_of_getElem? (i := 14) rfl)) e14 (g := (mkF m 125 #[.val (.long p1), .second, .val (.long p2), .second, .val (.long p3), .second, .val (.long p4), .second, .val (.int p5), .val (.int p6), .val (.ref w1), .val (.ref w2), .val (.ref u12), .val (.ref u13), .val (.ref b5), .val (.ref b10), .unset, .unset, .unset, .unset] [])) rfl (hb hby at_125) (by decide) (by decide)
        obtain ⟨b15, g15⟩ : ∃ z, z = h14.size := ⟨_, rfl⟩
        rw [← g15] at A15 D15 V15 st15
        refine Gl.st st15 ?_
        have ge_b15 : n0 ≤ b15 := Nat.le_trans (Nat.le_trans (Nat.le_of_eq O14.1.symm) O14.2.1) (Nat.le_of_eq g15.symm)
        have fr_b15 : h0.size ≤ b15 := Nat.le_trans K14.1 (Nat.le_of_eq g15.symm)
        have O15 := O14.ext E15
        have K15 := K14.ext E15
        have Exa_b15 := A15
        have F_coder_b15 : Fld Z h15 b15 "java/lang/String" "coder" "B" (.int (0 : Int32)) := D15 (Or.inr (hw _ (List.mem_of_getElem? (i := 39) rfl))) (ty := .byte) (by decide)
        have F_value_b15 : Fld Z h15 b15 "java/lang/String" "value" "[B" .null := D15 (Or.inr (hw _ (List.mem_of_getElem? (i := 41) rfl))) (ty := (.array .byte)) (by decide)
        show Gl p e below s _ _ _ T15 (mkF m 128 #[.val (.long p1), .second, .val (.long p2), .second, .val (.long p3), .second, .val (.long p4), .second, .val (.int p5), .val (.int p6), .val (.ref w1), .val (.ref w2), .val (.ref u12), .val (.ref u13), .val (.ref b5), .val (.ref b10), .unset, .unset, .unset, .unset] [(.ref b15)])
        refine Gl.st (fun _ kk => XS.dup X15.here hx rfl (hb hby at_128) rfl rfl kk) ?_
        show Gl p e below s _ _ _ T15 (mkF m 129 #[.val (.long p1), .second, .val (.long p2), .second, .val (.long p3), .second, .val (.long p4), .second, .val (.int p5), .val (.int p6), .val (.ref w1), .val (.ref w2), .val (.ref u12), .val (.ref u13), .val (.ref b5), .val (.ref b10), .unset, .unset, .unset, .unset] [(.ref b15), (.ref b15)])
        refine Gl.st (fun _ kk => XS.iconst X15.here hx rfl (hb hby at_129) kk) ?_
        show Gl p e below s _ _ _ T15 (mkF m 130 #[.val (.long p1), .second, .val (.long p2), .second, .val (.long p3), .second, .val (.long p4), .second, .val (.int p5), .val (.int p6), .val (.ref w1), .val (.ref w2), .val (.ref u12), .val (.ref u13), .val (.ref b5), .val (.ref b10), .unset, .unset, .unset, .unset] [(.int (1 : Int32)), (.ref b15), (.ref b15)])
        obtain ⟨T16, h16, k16, X16, e16, E16, A16, st16⟩ := newP X15 hx hZ (hw _ (List.mem_of_getElem? (i := 15) rfl)) e15 (g := (mkF m 130 #[.val (.long p1), .second, .val (.long p2), .second, .val (.long p3), .second, .val (.long p4), .second, .val (.int p5), .val (.int p6), .val (.ref w1), .val (.ref w2), .val (.ref u12), .val (.ref u13), .val (.ref b5), .val (.ref b10), .unset, .unset, .unset, .unset] [(.int (1 : Int32)), (.ref b15), (.ref b15)])) rfl (hb hby at_130) rfl (by decide) (cap := 1) (by decide) (by decide) (by decide) (by decide)
        obtain ⟨b16, g16⟩ : ∃ z, z = h15.size := ⟨_, rfl⟩
        rw [← g16] at A16 st16
        refine Gl.st st16 ?_
        have ne_b15_b16 : b15 ≠ b16 := Nat.ne_of_lt (Nat.lt_of_lt_of_eq Exa_b15.lt g16.symm)
        have ge_b16 : n0 ≤ b16 := Nat.le_trans (Nat.le_trans (Nat.le_of_eq O15.1.symm) O15.2.1) (Nat.le_of_eq g16.symm)
        have fr_b16 : h0.size ≤ b16 := Nat.le_trans K15.1 (Nat.le_of_eq g16.symm)
        have Exa_b15 := Exa_b15.ext E16
        have F_coder_b15 := F_coder_b15.ext E16
        have F_value_b15 := F_value_b15.ext E16
        have O16 := O15.ext E16
        have K16 := K15.ext E16
        have Arv_b16 : Arv Z h16 b16 k16 .char (1 : Int32) [(.int (0 : Int32))] (.int (0 : Int32)) := (Arv.new A16 (by decide)).pad (pad_rep [] (.int (0 : Int32)) 1)
        show Gl p e below s _ _ _ T16 (mkF m 132 #[.val (.long p1), .second, .val (.long p2), .second, .val (.long p3), .second, .val (.long p4), .second, .val (.int p5), .val (.int p6), .val (.ref w1), .val (.ref w2), .val (.ref u12), .val (.ref u13), .val (.ref b5), .val (.ref b10), .unset, .unset, .unset, .unset] [(.ref b16), (.ref b15), (.ref b15)])
        refine Gl.st (fun _ kk => XS.dup X16.here hx rfl (hb hby at_132) rfl rfl kk) ?_
        show Gl p e below s _ _ _ T16 (mkF m 133 #[.val (.long p1), .second, .val (.long p2), .second, .val (.long p3), .second, .val (.long p4), .second, .val (.int p5), .val (.int p6), .val (.ref w1), .val (.ref w2), .val (.ref u12), .val (.ref u13), .val (.ref b5), .val (.ref b10), .unset, .unset, .unset, .unset] [(.ref b16), (.ref b16), (.ref b15), (.ref b15)])
        refine Gl.st (fun _ kk => XS.iconst X16.here hx rfl (hb hby at_133) kk) ?_
        show Gl p e below s _ _ _ T16 (mkF m 134 #[.val (.long p1), .second, .val (.long p2), .second, .val (.long p3), .second, .val (.long p4), .second, .val (.int p5), .val (.int p6), .val (.ref w1), .val (.ref w2), .val (.ref u12), .val (.ref u13), .val (.ref b5), .val (.ref b10), .unset, .unset, .unset, .unset] [(.int (0 : Int32)), (.ref b16), (.ref b16), (.ref b15), (.ref b15)])
        refine Gl.st (fun _ kk => XS.iload X16.here hx rfl (hb hby at_134) rfl kk) ?_
        show Gl p e below s _ _ _ T16 (mkF m 136 #[.val (.long p1), .second, .val (.long p2), .second, .val (.long p3), .second, .val (.long p4), .second, .val (.int p5), .val (.int p6), .val (.ref w1), .val (.ref w2), .val (.ref u12), .val (.ref u13), .val (.ref b5), .val (.ref b10), .unset, .unset, .unset, .unset] [(.int p6), (.int (0 : Int32)), (.ref b16), (.ref b16), (.ref b15), (.ref b15)])
        refine Gl.st (fun _ kk => XS.bipush X16.here hx rfl (hb hby at_136) kk) ?_
        show Gl p e below s _ _ _ T16 (mkF m 138 #[.val (.long p1), .second, .val (.long p2), .second, .val (.long p3), .second, .val (.long p4), .second, .val (.int p5), .val (.int p6), .val (.ref w1), .val (.ref w2), .val (.ref u12), .val (.ref u13), .val (.ref b5), .val (.ref b10), .unset, .unset, .unset, .unset] [(.int (16 : Int32)), (.int p6), (.int (0 : Int32)), (.ref b16), (.ref b16), (.ref b15), (.ref b15)])
        refine Gl.st (fun _ kk => XS.iushr X16.here hx rfl (hb hby at_138) rfl kk) ?_
        show Gl p e below s _ _ _ T16 (mkF m 139 #[.val (.long p1), .second, .val (.long p2), .second, .val (.long p3), .second, .val (.long p4), .second, .val (.int p5), .val (.int p6), .val (.ref w1), .val (.ref w2), .val (.ref u12), .val (.ref u13), .val (.ref b5), .val (.ref b10), .unset, .unset, .unset, .unset] [(.int ((p6.toUInt32 >>> ((16 : Int32) &&& 31).toUInt32).toInt32)), (.int (0 : Int32)), (.ref b16), (.ref b16), (.ref b15), (.ref b15)])
        refine Gl.st (fun _ kk => XS.sipush X16.here hx rfl (hb hby at_139) kk) ?_
        show Gl p e below s _ _ _ T16 (mkF m 142 #[.val (.long p1), .second, .val (.long p2), .second, .val (.long p3), .second, .val (.long p4), .second, .val (.int p5), .val (.int p6), .val (.ref w1), .val (.ref w2), .val (.ref u12), .val (.ref u13), .val (.ref b5), .val (.ref b10), .unset, .unset, .unset, .unset] [(.int (255 : Int32)), (.int ((p6.toUInt32 >>> ((16 : Int32) &&& 31).toUInt32).toInt32)), (.int (0 : Int32)), (.ref b16), (.ref b16), (.ref b15), (.ref b15)])
        refine Gl.st (fun _ kk => XS.iand X16.here hx rfl (hb hby at_142) rfl kk) ?_
        show Gl p e below s _ _ _ T16 (mkF m 143 #[.val (.long p1), .second, .val (.long p2), .second, .val (.long p3), .second, .val (.long p4), .second, .val (.int p5), .val (.int p6), .val (.ref w1), .val (.ref w2), .val (.ref u12), .val (.ref u13), .val (.ref b5), .val (.ref b10), .unset, .unset, .unset, .unset] [(.int (((p6.toUInt32 >>> ((16 : Int32) &&& 31).toUInt32).toInt32) &&& (255 : Int32))), (.int (0 : Int32)), (.ref b16), (.ref b16), (.ref b15), (.ref b15)])
        refine Gl.st (fun _ kk => XS.i2c X16.here hx rfl (hb hby at_143) rfl kk) ?_
        show Gl p e below s _ _ _ T16 (mkF m 144 #[.val (.long p1), .second, .val (.long p2), .second, .val (.long p3), .second, .val (.long p4), .second, .val (.int p5), .val (.int p6), .val (.ref w1), .val (.ref w2), .val (.ref u12), .val (.ref u13), .val (.ref b5), .val (.ref b10), .unset, .unset, .unset, .unset] [(.int ((((p6.toUInt32 >>> ((16 : Int32) &&& 31).toUInt32).toInt32) &&& (255 : Int32)).toUInt32.toUInt16.toUInt32.toInt32)), (.int (0 : Int32)), (.ref b16), (.ref b16), (.ref b15), (.ref b15)])
        obtain ⟨cl17, Ar17, q17, Sz17, Ng17, Ha17, Fi17⟩ := id Arv_b16
        have hin17 : ¬ ((0 : Int32) < 0 ∨ cl17.slots.size ≤ ((0 : Int32)).toNatClampNeg) := inb_of Sz17 ⟨by decide, by decide⟩
        obtain ⟨T17, h17, X17, e17, W17, st17⟩ := stC X16 hx hZ e16 Ar17 (j := (0 : Int32)) hin17 (g := (mkF m 144 #[.val (.long p1), .second, .val (.long p2), .second, .val (.long p3), .second, .val (.long p4), .second, .val (.int p5), .val (.int p6), .val (.ref w1), .val (.ref w2), .val (.ref u12), .val (.ref u13), .val (.ref b5), .val (.ref b10), .unset, .unset, .unset, .unset] [(.int ((((p6.toUInt32 >>> ((16 : Int32) &&& 31).toUInt32).toInt32) &&& (255 : Int32)).toUInt32.toUInt16.toUInt32.toInt32)), (.int (0 : Int32)), (.ref b16), (.ref b16), (.ref b15), (.ref b15)])) rfl rfl (hb hby at_144)
        refine Gl.st st17 ?_
        have Arv_b16 : Arv Z h17 b16 k16 .char (1 : Int32) [(.int (nar .char ((((p6.toUInt32 >>> ((16 : Int32) &&& 31).toUInt32).toInt32) &&& (255 : Int32)).toUInt32.toUInt16.toUInt32.toInt32)))] (.int (0 : Int32)) := Arv.set Ar17 q17 Sz17 Ng17 Ha17 Fi17 (fits_nar_char _) W17 0 rfl (Nat.le_of_ble_eq_true rfl)
        have Exa_b15 := Exa_b15.wr W17
        have F_coder_b15 := F_coder_b15.other W17 (Or.inl ne_b15_b16)
        have F_value_b15 := F_value_b15.other W17 (Or.inl ne_b15_b16)
        have O17 := O16.wr W17 ge_b16
        have K17 := K16.wr W17 (Or.inr fr_b16)
        have N17 := Fr.snoc X17 N14 ge_b16
        show Gl p e below s _ _ _ T17 (mkF m 145 #[.val (.long p1), .second, .val (.long p2), .second, .val (.long p3), .second, .val (.long p4), .second, .val (.int p5), .val (.int p6), .val (.ref w1), .val (.ref w2), .val (.ref u12), .val (.ref u13), .val (.ref b5), .val (.ref b10), .unset, .unset, .unset, .unset] [(.ref b16), (.ref b15), (.ref b15)])
        have hlat18 : ∀ c ∈ ([(nar .char ((((p6.toUInt32 >>> ((16 : Int32) &&& 31).toUInt32).toInt32) &&& (255 : Int32)).toUInt32.toUInt16.toUInt32.toInt32))] : List Int32), ¬ c < 0 ∧ ¬ (255 : Int32) < c := by
          intro c hc
          simp only [List.mem_cons, List.not_mem_nil, or_false] at hc
          rcases hc with rfl
          · rw [own_nar255]; exact own_and255 _
        obtain ⟨_, _, ⟨T19, L19, k19, n19⟩, -, X19, ⟨Lc19, hQ19, l19, y19, z19⟩, st19⟩ := X17.specialBack hx (y := (⟨"java/lang/String", "<init>", "([C)V"⟩ : MethodName)) rfl hown (mvT hZ (hw _ (List.mem_of_getElem? (i := 16) rfl))) (mvT hZ (hw _ (List.mem_of_getElem? (i := 17) rfl))) (mvT hZ (hw _ (List.mem_of_getElem? (i := 18) rfl))) (by decide) (StrChars.Road.backV (W := 1) hZ hws (kI := 4) (hw _ (List.mem_of_getElem? (i := 13) rfl)) (cs := [(nar .char ((((p6.toUInt32 >>> ((16 : Int32) &&& 31).toUInt32).toInt32) &&& (255 : Int32)).toUInt32.toUInt16.toUInt32.toInt32))]) (bs := [((nar .char ((((p6.toUInt32 >>> ((16 : Int32) &&& 31).toUInt32).toInt32) &&& (255 : Int32)).toUInt32.toUInt16.toUInt32.toInt32))).toInt8.toInt32]) (n := 1) ge_b15 (Nat.le_trans (Nat.le_of_eq O17.1.symm) O17.2.1) Exa_b15 F_value_b15 F_coder_b15 Arv_b16 (S_COMPACT.ext O17.2) hcz rfl rfl (by decide) (by decide) hlat18 rfl (by decide) (by decide)) (g := (mkF m 145 #[.val (.long p1), .second, .val (.long p2), .second, .val (.long p3), .second, .val (.long p4), .second, .val (.int p5), .val (.int p6), .val (.ref w1), .val (.ref w2), .val (.ref u12), .val (.ref u13), .val (.ref b5), .val (.ref b10), .unset, .unset, .unset, .unset] [(.ref b16), (.ref b15), (.ref b15)])) rfl (by rw [hml]; rfl) (Steps.refl _) (a := b15) (argsL := [(.ref b16)]) (rest := [(.ref b15)]) (lenOf pd_rm0_1 rfl) rfl (by show 2 * 0 + _ ≤ _; exact Nat.le_of_eq rfl) (hb hby at_145) (fun _ _ => ⟨rfl, e17, (by decide : 8 + 1 ≤ _), (by decide : 17 + 1 ≤ _)⟩)
        dsimp only [Pt.U, Pt.locs, Pt.cells, Pt.slots] at X19 l19 y19 z19 st19 hQ19
        subst l19 y19 z19
        obtain ⟨h19, e19⟩ : ∃ z, T19.heap = z := ⟨_, rfl⟩
        rw [e19] at hQ19
        obtain ⟨rfl, Nq19, Kq19, Eq19, Cq19, t19, kb19, gt19, fr_t19, ne_t19, Fq19, Aq19⟩ := hQ19
        have N19 := Fr.app N17 Nq19
        refine Gl.st (fun _ kk => st19.trans kk) ?_
        have Exa_b15 := Exa_b15.keep Kq19
        have Arv_b16 := Arv_b16.keep Kq19 (ninS (Ne.symm ne_b15_b16) nin0)
        have O19 := O17.keep Kq19 (allS ge_b15 all0)
        have K19 := K17.trans Kq19 (allS (Or.inr fr_b15) all0)
        have F_coder_b15 := Cq19
        have F_value_b15 := Fq19
        have Arv_t19 := Aq19
        show Gl p e below s _ _ _ T19 (mkF m 148 #[.val (.long p1), .second, .val (.long p2), .second, .val (.long p3), .second, .val (.long p4), .second, .val (.int p5), .val (.int p6), .val (.ref w1), .val (.ref w2), .val (.ref u12), .val (.ref u13), .val (.ref b5), .val (.ref b10), .unset, .unset, .unset, .unset] [(.ref b15)])
        refine Gl.st (fun _ kk => XS.astore X19.here hx rfl (hb hby at_148) rfl rfl (l' := #[.val (.long p1), .second, .val (.long p2), .second, .val (.long p3), .second, .val (.long p4), .second, .val (.int p5), .val (.int p6), .val (.ref w1), .val (.ref w2), .val (.ref u12), .val (.ref u13), .val (.ref b5), .val (.ref b10), .val (.ref b15), .unset, .unset, .unset]) rfl kk) ?_
        show Gl p e below s _ _ _ T19 (mkF m 150 #[.val (.long p1), .second, .val (.long p2), .second, .val (.long p3), .second, .val (.long p4), .second, .val (.int p5), .val (.int p6), .val (.ref w1), .val (.ref w2), .val (.ref u12), .val (.ref u13), .val (.ref b5), .val (.ref b10), .val (.ref b15), .unset, .unset, .unset] [])
        refine Gl.st (fun _ kk => XS.iload X19.here hx rfl (hb hby at_150) rfl kk) ?_
        show Gl p e below s _ _ _ T19 (mkF m 152 #[.val (.long p1), .second, .val (.long p2), .second, .val (.long p3), .second, .val (.long p4), .second, .val (.int p5), .val (.int p6), .val (.ref w1), .val (.ref w2), .val (.ref u12), .val (.ref u13), .val (.ref b5), .val (.ref b10), .val (.ref b15), .unset, .unset, .unset] [(.int p5)])
        refine Gl.st (fun _ kk => XS.bipush X19.here hx rfl (hb hby at_152) kk) ?_
        show Gl p e below s _ _ _ T19 (mkF m 154 #[.val (.long p1), .second, .val (.long p2), .second, .val (.long p3), .second, .val (.long p4), .second, .val (.int p5), .val (.int p6), .val (.ref w1), .val (.ref w2), .val (.ref u12), .val (.ref u13), .val (.ref b5), .val (.ref b10), .val (.ref b15), .unset, .unset, .unset] [(.int (9 : Int32)), (.int p5)])
        refine Gl.st (fun _ kk => XS.iushr X19.here hx rfl (hb hby at_154) rfl kk) ?_
        show Gl p e below s _ _ _ T19 (mkF m 155 #[.val (.long p1), .second, .val (.long p2), .second, .val (.long p3), .second, .val (.long p4), .second, .val (.int p5), .val (.int p6), .val (.ref w1), .val (.ref w2), .val (.ref u12), .val (.ref u13), .val (.ref b5), .val (.ref b10), .val (.ref b15), .unset, .unset, .unset] [(.int ((p5.toUInt32 >>> ((9 : Int32) &&& 31).toUInt32).toInt32))])
        refine Gl.st (fun _ kk => XS.iconst X19.here hx rfl (hb hby at_155) kk) ?_
        show Gl p e below s _ _ _ T19 (mkF m 156 #[.val (.long p1), .second, .val (.long p2), .second, .val (.long p3), .second, .val (.long p4), .second, .val (.int p5), .val (.int p6), .val (.ref w1), .val (.ref w2), .val (.ref u12), .val (.ref u13), .val (.ref b5), .val (.ref b10), .val (.ref b15), .unset, .unset, .unset] [(.int (1 : Int32)), (.int ((p5.toUInt32 >>> ((9 : Int32) &&& 31).toUInt32).toInt32))])
        refine Gl.st (fun _ kk => XS.iand X19.here hx rfl (hb hby at_156) rfl kk) ?_
        show Gl p e below s _ _ _ T19 (mkF m 157 #[.val (.long p1), .second, .val (.long p2), .second, .val (.long p3), .second, .val (.long p4), .second, .val (.int p5), .val (.int p6), .val (.ref w1), .val (.ref w2), .val (.ref u12), .val (.ref u13), .val (.ref b5), .val (.ref b10), .val (.ref b15), .unset, .unset, .unset] [(.int (((p5.toUInt32 >>> ((9 : Int32) &&& 31).toUInt32).toInt32) &&& (1 : Int32)))])
        by_cases hc157 : (((p5.toUInt32 >>> ((9 : Int32) &&& 31).toUInt32).toInt32) &&& (1 : Int32)) = (0 : Int32)
        · skip
          refine Gl.st (fun _ kk => XS.ifYes X19.here hx rfl (pc0 := 157) (pc' := 164) rfl (hb hby at_157) rfl ((if0 _ _).trans (teq hc157).1) (by decide) (by decide) kk) ?_
          show Gl p e below s _ _ _ T19 (mkF m 164 #[.val (.long p1), .second, .val (.long p2), .second, .val (.long p3), .second, .val (.long p4), .second, .val (.int p5), .val (.int p6), .val (.ref w1), .val (.ref w2), .val (.ref u12), .val (.ref u13), .val (.ref b5), .val (.ref b10), .val (.ref b15), .unset, .unset, .unset] [])
          obtain ⟨T20, h20, X20, e20, E20, A20, D20, V20, st20⟩ := newO X19 hx hZ hown (hw _ (List.mem_of_getElem? (i := 12) rfl)) (hw _ (List.mem_of_getElem? (i := 13) rfl)) (hw _ (List.mem_of_getElem? (i := 14) rfl)) e19 (g := (mkF m 164 #[.val (.long p1), .second, .val (.long p2), .second, .val (.long p3), .second, .val (.long p4), .second, .val (.int p5), .val (.int p6), .val (.ref w1), .val (.ref w2), .val (.ref u12), .val (.ref u13), .val (.ref b5), .val (.ref b10), .val (.ref b15), .unset, .unset, .unset] [])) rfl (hb hby at_164) (by decide) (by decide)
          obtain ⟨b20, g20⟩ : ∃ z, z = h19.size := ⟨_, rfl⟩
          rw [← g20] at A20 D20 V20 st20
          refine Gl.st st20 ?_
          have ge_b20 : n0 ≤ b20 := Nat.le_trans (Nat.le_trans (Nat.le_of_eq O19.1.symm) O19.2.1) (Nat.le_of_eq g20.symm)
          have fr_b20 : h0.size ≤ b20 := Nat.le_trans K19.1 (Nat.le_of_eq g20.symm)
          have O20 := O19.ext E20
          have K20 := K19.ext E20
          have Exa_b20 := A20
          have F_coder_b20 : Fld Z h20 b20 "java/lang/String" "coder" "B" (.int (0 : Int32)) := D20 (Or.inr (hw _ (List.mem_of_getElem? (i := 39) rfl))) (ty := .byte) (by decide)
          have F_value_b20 : Fld Z h20 b20 "java/lang/String" "value" "[B" .null := D20 (Or.inr (hw _ (List.mem_of_getElem? (i := 41) rfl))) (ty := (.array .byte)) (by decide)
          show Gl p e below s _ _ _ T20 (mkF m 167 #[.val (.long p1), .second, .val (.long p2), .second, .val (.long p3), .second, .val (.long p4), .second, .val (.int p5), .val (.int p6), .val (.ref w1), .val (.ref w2), .val (.ref u12), .val (.ref u13), .val (.ref b5), .val (.ref b10), .val (.ref b15), .unset, .unset, .unset] [(.ref b20)])
          refine Gl.st (fun _ kk => XS.dup X20.here hx rfl (hb hby at_167) rfl rfl kk) ?_
          show Gl p e below s _ _ _ T20 (mkF m 168 #[.val (.long p1), .second, .val (.long p2), .second, .val (.long p3), .second, .val (.long p4), .second, .val (.int p5), .val (.int p6), .val (.ref w1), .val (.ref w2), .val (.ref u12), .val (.ref u13), .val (.ref b5), .val (.ref b10), .val (.ref b15), .unset, .unset, .unset] [(.ref b20), (.ref b20)])
          refine Gl.st (fun _ kk => XS.iconst X20.here hx rfl (hb hby at_168) kk) ?_
          show Gl p e below s _ _ _ T20 (mkF m 169 #[.val (.long p1), .second, .val (.long p2), .second, .val (.long p3), .second, .val (.long p4), .second, .val (.int p5), .val (.int p6), .val (.ref w1), .val (.ref w2), .val (.ref u12), .val (.ref u13), .val (.ref b5), .val (.ref b10), .val (.ref b15), .unset, .unset, .unset] [(.int (1 : Int32)), (.ref b20), (.ref b20)])
          obtain ⟨T21, h21, k21, X21, e21, E21, A21, st21⟩ := newP X20 hx hZ (hw _ (List.mem_of_getElem? (i := 15) rfl)) e20 (g := (mkF m 169 #[.val (.long p1), .second, .val (.long p2), .second, .val (.long p3), .second, .val (.long p4), .second, .val (.int p5), .val (.int p6), .val (.ref w1), .val (.ref w2), .val (.ref u12), .val (.ref u13), .val (.ref b5), .val (.ref b10), .val (.ref b15), .unset, .unset, .unset] [(.int (1 : Int32)), (.ref b20), (.ref b20)])) rfl (hb hby at_169) rfl (by decide) (cap := 1) (by decide) (by decide) (by decide) (by decide)
          obtain ⟨b21, g21⟩ : ∃ z, z = h20.size := ⟨_, rfl⟩
          rw [← g21] at A21 st21
          refine Gl.st st21 ?_
          have ne_b20_b21 : b20 ≠ b21 := Nat.ne_of_lt (Nat.lt_of_lt_of_eq Exa_b20.lt g21.symm)
          have ge_b21 : n0 ≤ b21 := Nat.le_trans (Nat.le_trans (Nat.le_of_eq O20.1.symm) O20.2.1) (Nat.le_of_eq g21.symm)
          have fr_b21 : h0.size ≤ b21 := Nat.le_trans K20.1 (Nat.le_of_eq g21.symm)
          have Exa_b20 := Exa_b20.ext E21
          have F_coder_b20 := F_coder_b20.ext E21
          have F_value_b20 := F_value_b20.ext E21
          have O21 := O20.ext E21
          have K21 := K20.ext E21
          have Arv_b21 : Arv Z h21 b21 k21 .char (1 : Int32) [(.int (0 : Int32))] (.int (0 : Int32)) := (Arv.new A21 (by decide)).pad (pad_rep [] (.int (0 : Int32)) 1)
          show Gl p e below s _ _ _ T21 (mkF m 171 #[.val (.long p1), .second, .val (.long p2), .second, .val (.long p3), .second, .val (.long p4), .second, .val (.int p5), .val (.int p6), .val (.ref w1), .val (.ref w2), .val (.ref u12), .val (.ref u13), .val (.ref b5), .val (.ref b10), .val (.ref b15), .unset, .unset, .unset] [(.ref b21), (.ref b20), (.ref b20)])
          refine Gl.st (fun _ kk => XS.dup X21.here hx rfl (hb hby at_171) rfl rfl kk) ?_
          show Gl p e below s _ _ _ T21 (mkF m 172 #[.val (.long p1), .second, .val (.long p2), .second, .val (.long p3), .second, .val (.long p4), .second, .val (.int p5), .val (.int p6), .val (.ref w1), .val (.ref w2), .val (.ref u12), .val (.ref u13), .val (.ref b5), .val (.ref b10), .val (.ref b15), .unset, .unset, .unset] [(.ref b21), (.ref b21), (.ref b20), (.ref b20)])
          refine Gl.st (fun _ kk => XS.iconst X21.here hx rfl (hb hby at_172) kk) ?_
          show Gl p e below s _ _ _ T21 (mkF m 173 #[.val (.long p1), .second, .val (.long p2), .second, .val (.long p3), .second, .val (.long p4), .second, .val (.int p5), .val (.int p6), .val (.ref w1), .val (.ref w2), .val (.ref u12), .val (.ref u13), .val (.ref b5), .val (.ref b10), .val (.ref b15), .unset, .unset, .unset] [(.int (0 : Int32)), (.ref b21), (.ref b21), (.ref b20), (.ref b20)])
          refine Gl.st (fun _ kk => XS.iload X21.here hx rfl (hb hby at_173) rfl kk) ?_
          show Gl p e below s _ _ _ T21 (mkF m 175 #[.val (.long p1), .second, .val (.long p2), .second, .val (.long p3), .second, .val (.long p4), .second, .val (.int p5), .val (.int p6), .val (.ref w1), .val (.ref w2), .val (.ref u12), .val (.ref u13), .val (.ref b5), .val (.ref b10), .val (.ref b15), .unset, .unset, .unset] [(.int p6), (.int (0 : Int32)), (.ref b21), (.ref b21), (.ref b20), (.ref b20)])
          refine Gl.st (fun _ kk => XS.bipush X21.here hx rfl (hb hby at_175) kk) ?_
          show Gl p e below s _ _ _ T21 (mkF m 177 #[.val (.long p1), .second, .val (.long p2), .second, .val (.long p3), .second, .val (.long p4), .second, .val (.int p5), .val (.int p6), .val (.ref w1), .val (.ref w2), .val (.ref u12), .val (.ref u13), .val (.ref b5), .val (.ref b10), .val (.ref b15), .unset, .unset, .unset] [(.int (24 : Int32)), (.int p6), (.int (0 : Int32)), (.ref b21), (.ref b21), (.ref b20), (.ref b20)])
          refine Gl.st (fun _ kk => XS.iushr X21.here hx rfl (hb hby at_177) rfl kk) ?_
          show Gl p e below s _ _ _ T21 (mkF m 178 #[.val (.long p1), .second, .val (.long p2), .second, .val (.long p3), .second, .val (.long p4), .second, .val (.int p5), .val (.int p6), .val (.ref w1), .val (.ref w2), .val (.ref u12), .val (.ref u13), .val (.ref b5), .val (.ref b10), .val (.ref b15), .unset, .unset, .unset] [(.int ((p6.toUInt32 >>> ((24 : Int32) &&& 31).toUInt32).toInt32)), (.int (0 : Int32)), (.ref b21), (.ref b21), (.ref b20), (.ref b20)])
          refine Gl.st (fun _ kk => XS.sipush X21.here hx rfl (hb hby at_178) kk) ?_
          show Gl p e below s _ _ _ T21 (mkF m 181 #[.val (.long p1), .second, .val (.long p2), .second, .val (.long p3), .second, .val (.long p4), .second, .val (.int p5), .val (.int p6), .val (.ref w1), .val (.ref w2), .val (.ref u12), .val (.ref u13), .val (.ref b5), .val (.ref b10), .val (.ref b15), .unset, .unset, .unset] [(.int (255 : Int32)), (.int ((p6.toUInt32 >>> ((24 : Int32) &&& 31).toUInt32).toInt32)), (.int (0 : Int32)), (.ref b21), (.ref b21), (.ref b20), (.ref b20)])
          refine Gl.st (fun _ kk => XS.iand X21.here hx rfl (hb hby at_181) rfl kk) ?_
          show Gl p e below s _ _ _ T21 (mkF m 182 #[.val (.long p1), .second, .val (.long p2), .second, .val (.long p3), .second, .val (.long p4), .second, .val (.int p5), .val (.int p6), .val (.ref w1), .val (.ref w2), .val (.ref u12), .val (.ref u13), .val (.ref b5), .val (.ref b10), .val (.ref b15), .unset, .unset, .unset] [(.int (((p6.toUInt32 >>> ((24 : Int32) &&& 31).toUInt32).toInt32) &&& (255 : Int32))), (.int (0 : Int32)), (.ref b21), (.ref b21), (.ref b20), (.ref b20)])
          refine Gl.st (fun _ kk => XS.i2c X21.here hx rfl (hb hby at_182) rfl kk) ?_
          show Gl p e below s _ _ _ T21 (mkF m 183 #[.val (.long p1), .second, .val (.long p2), .second, .val (.long p3), .second, .val (.long p4), .second, .val (.int p5), .val (.int p6), .val (.ref w1), .val (.ref w2), .val (.ref u12), .val (.ref u13), .val (.ref b5), .val (.ref b10), .val (.ref b15), .unset, .unset, .unset] [(.int ((((p6.toUInt32 >>> ((24 : Int32) &&& 31).toUInt32).toInt32) &&& (255 : Int32)).toUInt32.toUInt16.toUInt32.toInt32)), (.int (0 : Int32)), (.ref b21), (.ref b21), (.ref b20), (.ref b20)])
          obtain ⟨cl22, Ar22, q22, Sz22, Ng22, Ha22, Fi22⟩ := id Arv_b21
          have hin22 : ¬ ((0 : Int32) < 0 ∨ cl22.slots.size ≤ ((0 : Int32)).toNatClampNeg) := inb_of Sz22 ⟨by decide, by decide⟩
          obtain ⟨T22, h22, X22, e22, W22, st22⟩ := stC X21 hx hZ e21 Ar22 (j := (0 : Int32)) hin22 (g := (mkF m 183 #[.val (.long p1), .second, .val (.long p2), .second, .val (.long p3), .second, .val (.long p4), .second, .val (.int p5), .val (.int p6), .val (.ref w1), .val (.ref w2), .val (.ref u12), .val (.ref u13), .val (.ref b5), .val (.ref b10), .val (.ref b15), .unset, .unset, .unset] [(.int ((((p6.toUInt32 >>> ((24 : Int32) &&& 31).toUInt32).toInt32) &&& (255 : Int32)).toUInt32.toUInt16.toUInt32.toInt32)), (.int (0 : Int32)), (.ref b21), (.ref b21), (.ref b20), (.ref b20)])) rfl rfl (hb hby at_183)
          refine Gl.st st22 ?_
          have Arv_b21 : Arv Z h22 b21 k21 .char (1 : Int32) [(.int (nar .char ((((p6.toUInt32 >>> ((24 : Int32) &&& 31).toUInt32).toInt32) &&& (255 : Int32)).toUInt32.toUInt16.toUInt32.toInt32)))] (.int (0 : Int32)) := Arv.set Ar22 q22 Sz22 Ng22 Ha22 Fi22 (fits_nar_char _) W22 0 rfl (Nat.le_of_ble_eq_true rfl)
          have Exa_b20 := Exa_b20.wr W22
          have F_coder_b20 := F_coder_b20.other W22 (Or.inl ne_b20_b21)
          have F_value_b20 := F_value_b20.other W22 (Or.inl ne_b20_b21)
          have O22 := O21.wr W22 ge_b21
          have K22 := K21.wr W22 (Or.inr fr_b21)
          have N22 := Fr.snoc X22 N19 ge_b21
          show Gl p e below s _ _ _ T22 (mkF m 184 #[.val (.long p1), .second, .val (.long p2), .second, .val (.long p3), .second, .val (.long p4), .second, .val (.int p5), .val (.int p6), .val (.ref w1), .val (.ref w2), .val (.ref u12), .val (.ref u13), .val (.ref b5), .val (.ref b10), .val (.ref b15), .unset, .unset, .unset] [(.ref b21), (.ref b20), (.ref b20)])
          have hlat23 : ∀ c ∈ ([(nar .char ((((p6.toUInt32 >>> ((24 : Int32) &&& 31).toUInt32).toInt32) &&& (255 : Int32)).toUInt32.toUInt16.toUInt32.toInt32))] : List Int32), ¬ c < 0 ∧ ¬ (255 : Int32) < c := by
            intro c hc
            simp only [List.mem_cons, List.not_mem_nil, or_false] at hc
            rcases hc with rfl
            · rw [own_nar255]; exact own_and255 _
          obtain ⟨_, _, ⟨T24, L24, k24, n24⟩, -, X24, ⟨Lc24, hQ24, l24, y24, z24⟩, st24⟩ := X22.specialBack hx (y := (⟨"java/lang/String", "<init>", "([C)V"⟩ : MethodName)) rfl hown (mvT hZ (hw _ (List.mem_of_getElem? (i := 16) rfl))) (mvT hZ (hw _ (List.mem_of_getElem? (i := 17) rfl))) (mvT hZ (hw _ (List.mem_of_getElem? (i := 18) rfl))) (by decide) (StrChars.Road.backV (W := 1) hZ hws (kI := 4) (hw _ (List.mem_of_getElem? (i := 13) rfl)) (cs := [(nar .char ((((p6.toUInt32 >>> ((24 : Int32) &&& 31).toUInt32).toInt32) &&& (255 : Int32)).toUInt32.toUInt16.toUInt32.toInt32))]) (bs := [((nar .char ((((p6.toUInt32 >>> ((24 : Int32) &&& 31).toUInt32).toInt32) &&& (255 : Int32)).toUInt32.toUInt16.toUInt32.toInt32))).toInt8.toInt32]) (n := 1) ge_b20 (Nat.le_trans (Nat.le_of_eq O22.1.symm) O22.2.1) Exa_b20 F_value_b20 F_coder_b20 Arv_b21 (S_COMPACT.ext O22.2) hcz rfl rfl (by decide) (by decide) hlat23 rfl (by decide) (by decide)) (g := (mkF m 184 #[.val (.long p1), .second, .val (.long p2), .second, .val (.long p3), .second, .val (.long p4), .second, .val (.int p5), .val (.int p6), .val (.ref w1), .val (.ref w2), .val (.ref u12), .val (.ref u13), .val (.ref b5), .val (.ref b10), .val (.ref b15), .unset, .unset, .unset] [(.ref b21), (.ref b20), (.ref b20)])) rfl (by rw [hml]; rfl) (Steps.refl _) (a := b20) (argsL := [(.ref b21)]) (rest := [(.ref b20)]) (lenOf pd_rm0_1 rfl) rfl (by show 2 * 0 + _ ≤ _; exact Nat.le_of_eq rfl) (hb hby at_184) (fun _ _ => ⟨rfl, e22, (by decide : 11 + 1 ≤ _), (by decide : 23 + 1 ≤ _)⟩)
          dsimp only [Pt.U, Pt.locs, Pt.cells, Pt.slots] at X24 l24 y24 z24 st24 hQ24
          subst l24 y24 z24
          obtain ⟨h24, e24⟩ : ∃ z, T24.heap = z := ⟨_, rfl⟩
          rw [e24] at hQ24
          obtain ⟨rfl, Nq24, Kq24, Eq24, Cq24, t24, kb24, gt24, fr_t24, ne_t24, Fq24, Aq24⟩ := hQ24
          have N24 := Fr.app N22 Nq24
          refine Gl.st (fun _ kk => st24.trans kk) ?_
          have Exa_b20 := Exa_b20.keep Kq24
          have Arv_b21 := Arv_b21.keep Kq24 (ninS (Ne.symm ne_b20_b21) nin0)
          have O24 := O22.keep Kq24 (allS ge_b20 all0)
          have K24 := K22.trans Kq24 (allS (Or.inr fr_b20) all0)
          have F_coder_b20 := Cq24
          have F_value_b20 := Fq24
          have Arv_t24 := Aq24
          show Gl p e below s _ _ _ T24 (mkF m 187 #[.val (.long p1), .second, .val (.long p2), .second, .val (.long p3), .second, .val (.long p4), .second, .val (.int p5), .val (.int p6), .val (.ref w1), .val (.ref w2), .val (.ref u12), .val (.ref u13), .val (.ref b5), .val (.ref b10), .val (.ref b15), .unset, .unset, .unset] [(.ref b20)])
          refine Gl.st (fun _ kk => XS.astore X24.here hx rfl (hb hby at_187) rfl rfl (l' := #[.val (.long p1), .second, .val (.long p2), .second, .val (.long p3), .second, .val (.long p4), .second, .val (.int p5), .val (.int p6), .val (.ref w1), .val (.ref w2), .val (.ref u12), .val (.ref u13), .val (.ref b5), .val (.ref b10), .val (.ref b15), .val (.ref b20), .unset, .unset]) rfl kk) ?_
          show Gl p e below s _ _ _ T24 (mkF m 189 #[.val (.long p1), .second, .val (.long p2), .second, .val (.long p3), .second, .val (.long p4), .second, .val (.int p5), .val (.int p6), .val (.ref w1), .val (.ref w2), .val (.ref u12), .val (.ref u13), .val (.ref b5), .val (.ref b10), .val (.ref b15), .val (.ref b20), .unset, .unset] [])
          obtain ⟨T25, h25, X25, e25, E25, A25, D25, V25, st25⟩ := newO X24 hx hZ hown (hw _ (List.mem_of_getElem? (i := 42) rfl)) (hw _ (List.mem_of_getElem? (i := 43) rfl)) (hw _ (List.mem_of_getElem? (i := 44) rfl)) e24 (g := (mkF m 189 #[.val (.long p1), .second, .val (.long p2), .second, .val (.long p3), .second, .val (.long p4), .second, .val (.int p5), .val (.int p6), .val (.ref w1), .val (.ref w2), .val (.ref u12), .val (.ref u13), .val (.ref b5), .val (.ref b10), .val (.ref b15), .val (.ref b20), .unset, .unset] [])) rfl (hb hby at_189) (by decide) (by decide)
          obtain ⟨b25, g25⟩ : ∃ z, z = h24.size := ⟨_, rfl⟩
          rw [← g25] at A25 D25 V25 st25
          refine Gl.st st25 ?_
          have ge_b25 : n0 ≤ b25 := Nat.le_trans (Nat.le_trans (Nat.le_of_eq O24.1.symm) O24.2.1) (Nat.le_of_eq g25.symm)
          have fr_b25 : h0.size ≤ b25 := Nat.le_trans K24.1 (Nat.le_of_eq g25.symm)
          have O25 := O24.ext E25
          have K25 := K24.ext E25
          have Exa_b25 := A25
          have F_id_b25 : Fld Z h25 b25 "com/example/always_once/alwaysonce/ledger/Job" "id" "J" (.long (0 : Int64)) := D25 (Or.inr (hw _ (List.mem_of_getElem? (i := 55) rfl))) (ty := .long) (by decide)
          have F_definition_b25 : Fld Z h25 b25 "com/example/always_once/alwaysonce/ledger/Job" "definition" "Ljava/lang/String;" .null := D25 (Or.inr (hw _ (List.mem_of_getElem? (i := 57) rfl))) (ty := (.object "java/lang/String")) (by decide)
          have F_file_b25 : Fld Z h25 b25 "com/example/always_once/alwaysonce/ledger/Job" "file" "Ljava/lang/String;" .null := D25 (Or.inr (hw _ (List.mem_of_getElem? (i := 59) rfl))) (ty := (.object "java/lang/String")) (by decide)
          have F_status_b25 : Fld Z h25 b25 "com/example/always_once/alwaysonce/ledger/Job" "status" "Lcom/example/always_once/alwaysonce/ledger/JobStatus;" .null := D25 (Or.inr (hw _ (List.mem_of_getElem? (i := 61) rfl))) (ty := (.object "com/example/always_once/alwaysonce/ledger/JobStatus")) (by decide)
          have F_counts_b25 : Fld Z h25 b25 "com/example/always_once/alwaysonce/ledger/Job" "counts" "Lcom/example/always_once/alwaysonce/ledger/JobCounts;" .null := D25 (Or.inr (hw _ (List.mem_of_getElem? (i := 63) rfl))) (ty := (.object "com/example/always_once/alwaysonce/ledger/JobCounts")) (by decide)
          have F_size_b25 : Fld Z h25 b25 "com/example/always_once/alwaysonce/ledger/Job" "size" "J" (.long (0 : Int64)) := D25 (Or.inr (hw _ (List.mem_of_getElem? (i := 65) rfl))) (ty := .long) (by decide)
          have F_read_b25 : Fld Z h25 b25 "com/example/always_once/alwaysonce/ledger/Job" "read" "J" (.long (0 : Int64)) := D25 (Or.inr (hw _ (List.mem_of_getElem? (i := 67) rfl))) (ty := .long) (by decide)
          have F_failure_b25 : Fld Z h25 b25 "com/example/always_once/alwaysonce/ledger/Job" "failure" "Ljava/lang/String;" .null := D25 (Or.inr (hw _ (List.mem_of_getElem? (i := 69) rfl))) (ty := (.object "java/lang/String")) (by decide)
          show Gl p e below s _ _ _ T25 (mkF m 192 #[.val (.long p1), .second, .val (.long p2), .second, .val (.long p3), .second, .val (.long p4), .second, .val (.int p5), .val (.int p6), .val (.ref w1), .val (.ref w2), .val (.ref u12), .val (.ref u13), .val (.ref b5), .val (.ref b10), .val (.ref b15), .val (.ref b20), .unset, .unset] [(.ref b25)])
          refine Gl.st (fun _ kk => XS.dup X25.here hx rfl (hb hby at_192) rfl rfl kk) ?_
          show Gl p e below s _ _ _ T25 (mkF m 193 #[.val (.long p1), .second, .val (.long p2), .second, .val (.long p3), .second, .val (.long p4), .second, .val (.int p5), .val (.int p6), .val (.ref w1), .val (.ref w2), .val (.ref u12), .val (.ref u13), .val (.ref b5), .val (.ref b10), .val (.ref b15), .val (.ref b20), .unset, .unset] [(.ref b25), (.ref b25)])
          refine Gl.st (fun _ kk => XS.lloadN X25.here hx rfl (hb hby at_193) rfl kk) ?_
          show Gl p e below s _ _ _ T25 (mkF m 194 #[.val (.long p1), .second, .val (.long p2), .second, .val (.long p3), .second, .val (.long p4), .second, .val (.int p5), .val (.int p6), .val (.ref w1), .val (.ref w2), .val (.ref u12), .val (.ref u13), .val (.ref b5), .val (.ref b10), .val (.ref b15), .val (.ref b20), .unset, .unset] [(.long p1), (.ref b25), (.ref b25)])
          refine Gl.st (fun _ kk => XS.aload X25.here hx rfl (hb hby at_194) rfl rfl kk) ?_
          show Gl p e below s _ _ _ T25 (mkF m 196 #[.val (.long p1), .second, .val (.long p2), .second, .val (.long p3), .second, .val (.long p4), .second, .val (.int p5), .val (.int p6), .val (.ref w1), .val (.ref w2), .val (.ref u12), .val (.ref u13), .val (.ref b5), .val (.ref b10), .val (.ref b15), .val (.ref b20), .unset, .unset] [(.ref b5), (.long p1), (.ref b25), (.ref b25)])
          refine Gl.st (fun _ kk => XS.aload X25.here hx rfl (hb hby at_196) rfl rfl kk) ?_
          show Gl p e below s _ _ _ T25 (mkF m 198 #[.val (.long p1), .second, .val (.long p2), .second, .val (.long p3), .second, .val (.long p4), .second, .val (.int p5), .val (.int p6), .val (.ref w1), .val (.ref w2), .val (.ref u12), .val (.ref u13), .val (.ref b5), .val (.ref b10), .val (.ref b15), .val (.ref b20), .unset, .unset] [(.ref b10), (.ref b5), (.long p1), (.ref b25), (.ref b25)])
          refine Gl.st (fun _ kk => XS.aload X25.here hx rfl (hb hby at_198) rfl rfl kk) ?_
          show Gl p e below s _ _ _ T25 (mkF m 200 #[.val (.long p1), .second, .val (.long p2), .second, .val (.long p3), .second, .val (.long p4), .second, .val (.int p5), .val (.int p6), .val (.ref w1), .val (.ref w2), .val (.ref u12), .val (.ref u13), .val (.ref b5), .val (.ref b10), .val (.ref b15), .val (.ref b20), .unset, .unset] [(.ref w1), (.ref b10), (.ref b5), (.long p1), (.ref b25), (.ref b25)])
          refine Gl.st (fun _ kk => XS.aload X25.here hx rfl (hb hby at_200) rfl rfl kk) ?_
          show Gl p e below s _ _ _ T25 (mkF m 202 #[.val (.long p1), .second, .val (.long p2), .second, .val (.long p3), .second, .val (.long p4), .second, .val (.int p5), .val (.int p6), .val (.ref w1), .val (.ref w2), .val (.ref u12), .val (.ref u13), .val (.ref b5), .val (.ref b10), .val (.ref b15), .val (.ref b20), .unset, .unset] [(.ref u12), (.ref w1), (.ref b10), (.ref b5), (.long p1), (.ref b25), (.ref b25)])
          refine Gl.st (fun _ kk => XS.lloadN X25.here hx rfl (hb hby at_202) rfl kk) ?_
          show Gl p e below s _ _ _ T25 (mkF m 203 #[.val (.long p1), .second, .val (.long p2), .second, .val (.long p3), .second, .val (.long p4), .second, .val (.int p5), .val (.int p6), .val (.ref w1), .val (.ref w2), .val (.ref u12), .val (.ref u13), .val (.ref b5), .val (.ref b10), .val (.ref b15), .val (.ref b20), .unset, .unset] [(.long p2), (.ref u12), (.ref w1), (.ref b10), (.ref b5), (.long p1), (.ref b25), (.ref b25)])
          refine Gl.st (fun _ kk => XS.lload X25.here hx rfl (hb hby at_203) rfl kk) ?_
          show Gl p e below s _ _ _ T25 (mkF m 205 #[.val (.long p1), .second, .val (.long p2), .second, .val (.long p3), .second, .val (.long p4), .second, .val (.int p5), .val (.int p6), .val (.ref w1), .val (.ref w2), .val (.ref u12), .val (.ref u13), .val (.ref b5), .val (.ref b10), .val (.ref b15), .val (.ref b20), .unset, .unset] [(.long p3), (.long p2), (.ref u12), (.ref w1), (.ref b10), (.ref b5), (.long p1), (.ref b25), (.ref b25)])
          refine Gl.st (fun _ kk => XS.aload X25.here hx rfl (hb hby at_205) rfl rfl kk) ?_
          show Gl p e below s _ _ _ T25 (mkF m 207 #[.val (.long p1), .second, .val (.long p2), .second, .val (.long p3), .second, .val (.long p4), .second, .val (.int p5), .val (.int p6), .val (.ref w1), .val (.ref w2), .val (.ref u12), .val (.ref u13), .val (.ref b5), .val (.ref b10), .val (.ref b15), .val (.ref b20), .unset, .unset] [(.ref b15), (.long p3), (.long p2), (.ref u12), (.ref w1), (.ref b10), (.ref b5), (.long p1), (.ref b25), (.ref b25)])
          obtain ⟨_, _, ⟨T26, L26, k26, n26⟩, -, X26, ⟨Lc26, hQ26, l26, y26, z26⟩, st26⟩ := X25.specialBack hx (y := (⟨"com/example/always_once/alwaysonce/ledger/Job", "<init>", "(JLjava/lang/String;Ljava/lang/String;Lcom/example/always_once/alwaysonce/ledger/JobStatus;Lcom/example/always_once/alwaysonce/ledger/JobCounts;JJLjava/lang/String;)V"⟩ : MethodName)) rfl hown (mvT hZ (hw _ (List.mem_of_getElem? (i := 45) rfl))) (mvT hZ (hw _ (List.mem_of_getElem? (i := 46) rfl))) (mvT hZ (hw _ (List.mem_of_getElem? (i := 47) rfl))) (by decide) (backOf (W := 1) (rmIr l Z a0 hw [] b25 p1 b5 b10 w1 u12 p2 p3 b15 h25 n0 O25 Exa_b25 F_id_b25 F_definition_b25 F_file_b25 F_status_b25 F_counts_b25 F_size_b25 F_read_b25 F_failure_b25 ge_b25) hZ (hw _ (List.mem_of_getElem? (i := 47) rfl)) (hw _ (List.mem_of_getElem? (i := 44) rfl)) (by decide) (by decide)) (g := (mkF m 207 #[.val (.long p1), .second, .val (.long p2), .second, .val (.long p3), .second, .val (.long p4), .second, .val (.int p5), .val (.int p6), .val (.ref w1), .val (.ref w2), .val (.ref u12), .val (.ref u13), .val (.ref b5), .val (.ref b10), .val (.ref b15), .val (.ref b20), .unset, .unset] [(.ref b15), (.long p3), (.long p2), (.ref u12), (.ref w1), (.ref b10), (.ref b5), (.long p1), (.ref b25), (.ref b25)])) rfl (by rw [hml]; rfl) (Steps.refl _) (a := b25) (argsL := [(.long p1), (.ref b5), (.ref b10), (.ref w1), (.ref u12), (.long p2), (.long p3), (.ref b15)]) (rest := [(.ref b25)]) (lenOf pd_rm0_2 rfl) rfl (by show 2 * 0 + _ ≤ _; exact Nat.le_of_eq rfl) (hb hby at_207) (fun _ _ => ⟨rfl, e25, (by decide : 13 + 0 ≤ _), (by decide : 32 + 0 ≤ _)⟩)
          dsimp only [Pt.U, Pt.locs, Pt.cells, Pt.slots] at X26 l26 y26 z26 st26 hQ26
          subst l26 y26 z26
          obtain ⟨h26, e26⟩ : ∃ z, T26.heap = z := ⟨_, rfl⟩
          rw [e26] at hQ26
          obtain ⟨rfl, Nq26, Kq26, F_id_q26, F_definition_q26, F_file_q26, F_status_q26, F_counts_q26, F_size_q26, F_read_q26, F_failure_q26⟩ := hQ26
          have N26 := Fr.app N24 Nq26
          refine Gl.st (fun _ kk => st26.trans kk) ?_
          have Exa_b25 := Exa_b25.keep Kq26
          have O26 := O25.keep Kq26 (allS ge_b25 all0)
          have K26 := K25.trans Kq26 (allS (Or.inr fr_b25) all0)
          have F_id_b25 := F_id_q26
          have F_definition_b25 := F_definition_q26
          have F_file_b25 := F_file_q26
          have F_status_b25 := F_status_q26
          have F_counts_b25 := F_counts_q26
          have F_size_b25 := F_size_q26
          have F_read_b25 := F_read_q26
          have F_failure_b25 := F_failure_q26
          show Gl p e below s _ _ _ T26 (mkF m 210 #[.val (.long p1), .second, .val (.long p2), .second, .val (.long p3), .second, .val (.long p4), .second, .val (.int p5), .val (.int p6), .val (.ref w1), .val (.ref w2), .val (.ref u12), .val (.ref u13), .val (.ref b5), .val (.ref b10), .val (.ref b15), .val (.ref b20), .unset, .unset] [(.ref b25)])
          refine Gl.st (fun _ kk => XS.astore X26.here hx rfl (hb hby at_210) rfl rfl (l' := #[.val (.long p1), .second, .val (.long p2), .second, .val (.long p3), .second, .val (.long p4), .second, .val (.int p5), .val (.int p6), .val (.ref w1), .val (.ref w2), .val (.ref u12), .val (.ref u13), .val (.ref b5), .val (.ref b10), .val (.ref b15), .val (.ref b20), .val (.ref b25), .unset]) rfl kk) ?_
          show Gl p e below s _ _ _ T26 (mkF m 212 #[.val (.long p1), .second, .val (.long p2), .second, .val (.long p3), .second, .val (.long p4), .second, .val (.int p5), .val (.int p6), .val (.ref w1), .val (.ref w2), .val (.ref u12), .val (.ref u13), .val (.ref b5), .val (.ref b10), .val (.ref b15), .val (.ref b20), .val (.ref b25), .unset] [])
          refine Gl.st (fun _ kk => XS.aload X26.here hx rfl (hb hby at_212) rfl rfl kk) ?_
          show Gl p e below s _ _ _ T26 (mkF m 214 #[.val (.long p1), .second, .val (.long p2), .second, .val (.long p3), .second, .val (.long p4), .second, .val (.int p5), .val (.int p6), .val (.ref w1), .val (.ref w2), .val (.ref u12), .val (.ref u13), .val (.ref b5), .val (.ref b10), .val (.ref b15), .val (.ref b20), .val (.ref b25), .unset] [(.ref b25)])
          refine Gl.st (fun _ kk => XS.aload X26.here hx rfl (hb hby at_214) rfl rfl kk) ?_
          show Gl p e below s _ _ _ T26 (mkF m 216 #[.val (.long p1), .second, .val (.long p2), .second, .val (.long p3), .second, .val (.long p4), .second, .val (.int p5), .val (.int p6), .val (.ref w1), .val (.ref w2), .val (.ref u12), .val (.ref u13), .val (.ref b5), .val (.ref b10), .val (.ref b15), .val (.ref b20), .val (.ref b25), .unset] [(.ref w2), (.ref b25)])
          refine Gl.st (fun _ kk => XS.aload X26.here hx rfl (hb hby at_216) rfl rfl kk) ?_
          show Gl p e below s _ _ _ T26 (mkF m 218 #[.val (.long p1), .second, .val (.long p2), .second, .val (.long p3), .second, .val (.long p4), .second, .val (.int p5), .val (.int p6), .val (.ref w1), .val (.ref w2), .val (.ref u12), .val (.ref u13), .val (.ref b5), .val (.ref b10), .val (.ref b15), .val (.ref b20), .val (.ref b25), .unset] [(.ref u13), (.ref w2), (.ref b25)])
          refine Gl.st (fun _ kk => XS.lload X26.here hx rfl (hb hby at_218) rfl kk) ?_
          show Gl p e below s _ _ _ T26 (mkF m 220 #[.val (.long p1), .second, .val (.long p2), .second, .val (.long p3), .second, .val (.long p4), .second, .val (.int p5), .val (.int p6), .val (.ref w1), .val (.ref w2), .val (.ref u12), .val (.ref u13), .val (.ref b5), .val (.ref b10), .val (.ref b15), .val (.ref b20), .val (.ref b25), .unset] [(.long p4), (.ref u13), (.ref w2), (.ref b25)])
          refine Gl.st (fun _ kk => XS.aload X26.here hx rfl (hb hby at_220) rfl rfl kk) ?_
          show Gl p e below s _ _ _ T26 (mkF m 222 #[.val (.long p1), .second, .val (.long p2), .second, .val (.long p3), .second, .val (.long p4), .second, .val (.int p5), .val (.int p6), .val (.ref w1), .val (.ref w2), .val (.ref u12), .val (.ref u13), .val (.ref b5), .val (.ref b10), .val (.ref b15), .val (.ref b20), .val (.ref b25), .unset] [(.ref b20), (.long p4), (.ref u13), (.ref w2), (.ref b25)])
          obtain ⟨cq27, kq27, qa27, qb27, qc27⟩ := isOf hZ e26 Exa_b25
          obtain ⟨_, _, ⟨T27, L27, k27, n27⟩, -, X27, ⟨Lc27, hQ27, l27, y27, z27⟩, st27⟩ := X26.virtualBack hx (y := (⟨"com/example/always_once/alwaysonce/ledger/Job", "with", "(Lcom/example/always_once/alwaysonce/ledger/JobStatus;Lcom/example/always_once/alwaysonce/ledger/JobCounts;JLjava/lang/String;)Lcom/example/always_once/alwaysonce/ledger/Job;"⟩ : MethodName)) (z := (⟨"com/example/always_once/alwaysonce/ledger/Job", "with", "(Lcom/example/always_once/alwaysonce/ledger/JobStatus;Lcom/example/always_once/alwaysonce/ledger/JobCounts;JLjava/lang/String;)Lcom/example/always_once/alwaysonce/ledger/Job;"⟩ : MethodName)) hown (mvT hZ (hw _ (List.mem_of_getElem? (i := 70) rfl))) (mvT hZ (hw _ (List.mem_of_getElem? (i := 71) rfl))) (notFace_of_selects (args := #[]) (mvT hZ (hw _ (List.mem_of_getElem? (i := 73) rfl)))) (mvT hZ (hw _ (List.mem_of_getElem? (i := 73) rfl))) (mvT hZ (hw _ (List.mem_of_getElem? (i := 72) rfl))) (by decide) (backOf (W := 0) (rmWr l Z a0 hw [] b25 w2 u13 p4 b20 p1 b5 b10 p2 h26 n0 O26 F_id_b25 F_definition_b25 F_file_b25 F_size_b25) hZ (hw _ (List.mem_of_getElem? (i := 74) rfl)) (hw _ (List.mem_of_getElem? (i := 44) rfl)) (by decide) (by decide)) qa27 qc27 (g := (mkF m 222 #[.val (.long p1), .second, .val (.long p2), .second, .val (.long p3), .second, .val (.long p4), .second, .val (.int p5), .val (.int p6), .val (.ref w1), .val (.ref w2), .val (.ref u12), .val (.ref u13), .val (.ref b5), .val (.ref b10), .val (.ref b15), .val (.ref b20), .val (.ref b25), .unset] [(.ref b20), (.long p4), (.ref u13), (.ref w2), (.ref b25)])) rfl (by rw [hml]; rfl) (Steps.refl _) (argsL := [(.ref w2), (.ref u13), (.long p4), (.ref b20)]) (rest := []) (lenOf pd_rm0_3 rfl) rfl (by show 2 * 0 + _ ≤ _; exact Nat.le_of_eq rfl) (hb hby at_222) (fun _ _ => ⟨rfl, e26, (by decide : 13 + 1 ≤ _), (by decide : 32 + 8 ≤ _)⟩)
          dsimp only [Pt.U, Pt.locs, Pt.cells, Pt.slots] at X27 l27 y27 z27 st27 hQ27
          subst l27 y27 z27
          obtain ⟨h27, e27⟩ : ∃ z, T27.heap = z := ⟨_, rfl⟩
          rw [e27] at hQ27
          obtain ⟨b27, rfl, Nq27, Kq27, Exa_b27, F_id_b27, F_definition_b27, F_file_b27, F_status_b27, F_counts_b27, F_size_b27, F_read_b27, F_failure_b27, gb27, frb27⟩ := hQ27
          have N27 := Fr.app N26 Nq27
          refine Gl.st (fun _ kk => st27.trans kk) ?_
          have Exa_b25 := Exa_b25.keep Kq27
          have F_id_b25 := F_id_b25.keep Kq27 nin0
          have F_definition_b25 := F_definition_b25.keep Kq27 nin0
          have F_file_b25 := F_file_b25.keep Kq27 nin0
          have F_status_b25 := F_status_b25.keep Kq27 nin0
          have F_counts_b25 := F_counts_b25.keep Kq27 nin0
          have F_size_b25 := F_size_b25.keep Kq27 nin0
          have F_read_b25 := F_read_b25.keep Kq27 nin0
          have F_failure_b25 := F_failure_b25.keep Kq27 nin0
          have O27 := O26.keep Kq27 all0
          have K27 := K26.trans Kq27 all0
          show Gl p e below s _ _ _ T27 (mkF m 225 #[.val (.long p1), .second, .val (.long p2), .second, .val (.long p3), .second, .val (.long p4), .second, .val (.int p5), .val (.int p6), .val (.ref w1), .val (.ref w2), .val (.ref u12), .val (.ref u13), .val (.ref b5), .val (.ref b10), .val (.ref b15), .val (.ref b20), .val (.ref b25), .unset] [(.ref b27)])
          refine Gl.st (fun _ kk => XS.astore X27.here hx rfl (hb hby at_225) rfl rfl (l' := #[.val (.long p1), .second, .val (.long p2), .second, .val (.long p3), .second, .val (.long p4), .second, .val (.int p5), .val (.int p6), .val (.ref w1), .val (.ref w2), .val (.ref u12), .val (.ref u13), .val (.ref b5), .val (.ref b10), .val (.ref b15), .val (.ref b20), .val (.ref b25), .val (.ref b27)]) rfl kk) ?_
          show Gl p e below s _ _ _ T27 (mkF m 227 #[.val (.long p1), .second, .val (.long p2), .second, .val (.long p3), .second, .val (.long p4), .second, .val (.int p5), .val (.int p6), .val (.ref w1), .val (.ref w2), .val (.ref u12), .val (.ref u13), .val (.ref b5), .val (.ref b10), .val (.ref b15), .val (.ref b20), .val (.ref b25), .val (.ref b27)] [])
          refine Gl.st (fun _ kk => XS.aload X27.here hx rfl (hb hby at_227) rfl rfl kk) ?_
          show Gl p e below s _ _ _ T27 (mkF m 229 #[.val (.long p1), .second, .val (.long p2), .second, .val (.long p3), .second, .val (.long p4), .second, .val (.int p5), .val (.int p6), .val (.ref w1), .val (.ref w2), .val (.ref u12), .val (.ref u13), .val (.ref b5), .val (.ref b10), .val (.ref b15), .val (.ref b20), .val (.ref b25), .val (.ref b27)] [(.ref b27)])
          obtain ⟨cq28, kq28, qa28, qb28, qc28⟩ := isOf hZ e27 Exa_b27
          obtain ⟨_, _, ⟨T28, L28, k28, n28⟩, -, X28, ⟨Lc28, hQ28, l28, y28, z28⟩, st28⟩ := X27.virtualBack hx (y := (⟨"com/example/always_once/alwaysonce/ledger/Job", "id", "()J"⟩ : MethodName)) (z := (⟨"com/example/always_once/alwaysonce/ledger/Job", "id", "()J"⟩ : MethodName)) hown (mvT hZ (hw _ (List.mem_of_getElem? (i := 77) rfl))) (mvT hZ (hw _ (List.mem_of_getElem? (i := 78) rfl))) (notFace_of_selects (args := #[]) (mvT hZ (hw _ (List.mem_of_getElem? (i := 80) rfl)))) (mvT hZ (hw _ (List.mem_of_getElem? (i := 80) rfl))) (mvT hZ (hw _ (List.mem_of_getElem? (i := 79) rfl))) (by decide) (backOf (W := 0) (rmA_id l Z a0 hw [] b27 p1 h27 n0 O27 F_id_b27) hZ (hw _ (List.mem_of_getElem? (i := 81) rfl)) (hw _ (List.mem_of_getElem? (i := 44) rfl)) (by decide) (by decide)) qa28 qc28 (g := (mkF m 229 #[.val (.long p1), .second, .val (.long p2), .second, .val (.long p3), .second, .val (.long p4), .second, .val (.int p5), .val (.int p6), .val (.ref w1), .val (.ref w2), .val (.ref u12), .val (.ref u13), .val (.ref b5), .val (.ref b10), .val (.ref b15), .val (.ref b20), .val (.ref b25), .val (.ref b27)] [(.ref b27)])) rfl (by rw [hml]; rfl) (Steps.refl _) (argsL := []) (rest := []) (lenOf pd_rm0_4 rfl) rfl (by show 2 * 0 + _ ≤ _; exact Nat.le_of_eq rfl) (hb hby at_229) (fun _ _ => ⟨rfl, e27, (by decide : 14 + 0 ≤ _), (by decide : 40 + 0 ≤ _)⟩)
          dsimp only [Pt.U, Pt.locs, Pt.cells, Pt.slots] at X28 l28 y28 z28 st28 hQ28
          subst l28 y28 z28
          obtain ⟨rfl, Nq28, e28⟩ := hQ28
          have N28 := Fr.app N27 Nq28
          refine Gl.st (fun _ kk => st28.trans kk) ?_
          show Gl p e below s _ _ _ T28 (mkF m 232 #[.val (.long p1), .second, .val (.long p2), .second, .val (.long p3), .second, .val (.long p4), .second, .val (.int p5), .val (.int p6), .val (.ref w1), .val (.ref w2), .val (.ref u12), .val (.ref u13), .val (.ref b5), .val (.ref b10), .val (.ref b15), .val (.ref b20), .val (.ref b25), .val (.ref b27)] [(.long p1)])
          refine Gl.st (fun _ kk => XS.lloadN X28.here hx rfl (hb hby at_232) rfl kk) ?_
          show Gl p e below s _ _ _ T28 (mkF m 233 #[.val (.long p1), .second, .val (.long p2), .second, .val (.long p3), .second, .val (.long p4), .second, .val (.int p5), .val (.int p6), .val (.ref w1), .val (.ref w2), .val (.ref u12), .val (.ref u13), .val (.ref b5), .val (.ref b10), .val (.ref b15), .val (.ref b20), .val (.ref b25), .val (.ref b27)] [(.long p1), (.long p1)])
          refine Gl.st (fun _ kk => XS.lcmp X28.here hx rfl (hb hby at_233) rfl kk) ?_
          show Gl p e below s _ _ _ T28 (mkF m 234 #[.val (.long p1), .second, .val (.long p2), .second, .val (.long p3), .second, .val (.long p4), .second, .val (.int p5), .val (.int p6), .val (.ref w1), .val (.ref w2), .val (.ref u12), .val (.ref u13), .val (.ref b5), .val (.ref b10), .val (.ref b15), .val (.ref b20), .val (.ref b25), .val (.ref b27)] [(.int (lcmpW p1 p1))])
          refine Gl.st (fun _ kk => XS.ifNo X28.here hx rfl (hb hby at_234) rfl ((if0 _ _).trans (teq ((lw_eq _ _).mpr rfl : (lcmpW p1 p1) = (0 : Int32))).2) kk) ?_
          show Gl p e below s _ _ _ T28 (mkF m 237 #[.val (.long p1), .second, .val (.long p2), .second, .val (.long p3), .second, .val (.long p4), .second, .val (.int p5), .val (.int p6), .val (.ref w1), .val (.ref w2), .val (.ref u12), .val (.ref u13), .val (.ref b5), .val (.ref b10), .val (.ref b15), .val (.ref b20), .val (.ref b25), .val (.ref b27)] [])
          refine Gl.st (fun _ kk => XS.aload X28.here hx rfl (hb hby at_237) rfl rfl kk) ?_
          show Gl p e below s _ _ _ T28 (mkF m 239 #[.val (.long p1), .second, .val (.long p2), .second, .val (.long p3), .second, .val (.long p4), .second, .val (.int p5), .val (.int p6), .val (.ref w1), .val (.ref w2), .val (.ref u12), .val (.ref u13), .val (.ref b5), .val (.ref b10), .val (.ref b15), .val (.ref b20), .val (.ref b25), .val (.ref b27)] [(.ref b27)])
          obtain ⟨cq29, kq29, qa29, qb29, qc29⟩ := isOf hZ e28 Exa_b27
          obtain ⟨_, _, ⟨T29, L29, k29, n29⟩, -, X29, ⟨Lc29, hQ29, l29, y29, z29⟩, st29⟩ := X28.virtualBack hx (y := (⟨"com/example/always_once/alwaysonce/ledger/Job", "definition", "()Ljava/lang/String;"⟩ : MethodName)) (z := (⟨"com/example/always_once/alwaysonce/ledger/Job", "definition", "()Ljava/lang/String;"⟩ : MethodName)) hown (mvT hZ (hw _ (List.mem_of_getElem? (i := 82) rfl))) (mvT hZ (hw _ (List.mem_of_getElem? (i := 83) rfl))) (notFace_of_selects (args := #[]) (mvT hZ (hw _ (List.mem_of_getElem? (i := 85) rfl)))) (mvT hZ (hw _ (List.mem_of_getElem? (i := 85) rfl))) (mvT hZ (hw _ (List.mem_of_getElem? (i := 84) rfl))) (by decide) (backOf (W := 0) (rmA_definition l Z a0 hw [] b27 b5 h27 n0 O27 F_definition_b27) hZ (hw _ (List.mem_of_getElem? (i := 86) rfl)) (hw _ (List.mem_of_getElem? (i := 44) rfl)) (by decide) (by decide)) qa29 qc29 (g := (mkF m 239 #[.val (.long p1), .second, .val (.long p2), .second, .val (.long p3), .second, .val (.long p4), .second, .val (.int p5), .val (.int p6), .val (.ref w1), .val (.ref w2), .val (.ref u12), .val (.ref u13), .val (.ref b5), .val (.ref b10), .val (.ref b15), .val (.ref b20), .val (.ref b25), .val (.ref b27)] [(.ref b27)])) rfl (by rw [hml]; rfl) (Steps.refl _) (argsL := []) (rest := []) (lenOf pd_rm0_5 rfl) rfl (by show 2 * 0 + _ ≤ _; exact Nat.le_of_eq rfl) (hb hby at_239) (fun _ _ => ⟨rfl, e28, (by decide : 14 + 0 ≤ _), (by decide : 40 + 0 ≤ _)⟩)
          dsimp only [Pt.U, Pt.locs, Pt.cells, Pt.slots] at X29 l29 y29 z29 st29 hQ29
          subst l29 y29 z29
          obtain ⟨rfl, Nq29, e29⟩ := hQ29
          have N29 := Fr.app N28 Nq29
          refine Gl.st (fun _ kk => st29.trans kk) ?_
          show Gl p e below s _ _ _ T29 (mkF m 242 #[.val (.long p1), .second, .val (.long p2), .second, .val (.long p3), .second, .val (.long p4), .second, .val (.int p5), .val (.int p6), .val (.ref w1), .val (.ref w2), .val (.ref u12), .val (.ref u13), .val (.ref b5), .val (.ref b10), .val (.ref b15), .val (.ref b20), .val (.ref b25), .val (.ref b27)] [(.ref b5)])
          refine Gl.st (fun _ kk => XS.aload X29.here hx rfl (hb hby at_242) rfl rfl kk) ?_
          show Gl p e below s _ _ _ T29 (mkF m 244 #[.val (.long p1), .second, .val (.long p2), .second, .val (.long p3), .second, .val (.long p4), .second, .val (.int p5), .val (.int p6), .val (.ref w1), .val (.ref w2), .val (.ref u12), .val (.ref u13), .val (.ref b5), .val (.ref b10), .val (.ref b15), .val (.ref b20), .val (.ref b25), .val (.ref b27)] [(.ref b5), (.ref b5)])
          refine Gl.st (fun _ kk => Jvm.RoadKit.acmp (g := (mkF m 244 #[.val (.long p1), .second, .val (.long p2), .second, .val (.long p3), .second, .val (.long p4), .second, .val (.int p5), .val (.int p6), .val (.ref w1), .val (.ref w2), .val (.ref u12), .val (.ref u13), .val (.ref b5), .val (.ref b10), .val (.ref b15), .val (.ref b20), .val (.ref b25), .val (.ref b27)] [(.ref b5), (.ref b5)])) X29 hx rfl rfl rfl (pc0 := 244) (pc' := 247) (same := true) rfl (hb hby at_244) rfl (decide_eq_true rfl) (by decide) (by decide) kk) ?_
          show Gl p e below s _ _ _ T29 (mkF m 247 #[.val (.long p1), .second, .val (.long p2), .second, .val (.long p3), .second, .val (.long p4), .second, .val (.int p5), .val (.int p6), .val (.ref w1), .val (.ref w2), .val (.ref u12), .val (.ref u13), .val (.ref b5), .val (.ref b10), .val (.ref b15), .val (.ref b20), .val (.ref b25), .val (.ref b27)] [])
          refine Gl.st (fun _ kk => XS.aload X29.here hx rfl (hb hby at_247) rfl rfl kk) ?_
          show Gl p e below s _ _ _ T29 (mkF m 249 #[.val (.long p1), .second, .val (.long p2), .second, .val (.long p3), .second, .val (.long p4), .second, .val (.int p5), .val (.int p6), .val (.ref w1), .val (.ref w2), .val (.ref u12), .val (.ref u13), .val (.ref b5), .val (.ref b10), .val (.ref b15), .val (.ref b20), .val (.ref b25), .val (.ref b27)] [(.ref b27)])
          obtain ⟨cq30, kq30, qa30, qb30, qc30⟩ := isOf hZ e29 Exa_b27
          obtain ⟨_, _, ⟨T30, L30, k30, n30⟩, -, X30, ⟨Lc30, hQ30, l30, y30, z30⟩, st30⟩ := X29.virtualBack hx (y := (⟨"com/example/always_once/alwaysonce/ledger/Job", "file", "()Ljava/lang/String;"⟩ : MethodName)) (z := (⟨"com/example/always_once/alwaysonce/ledger/Job", "file", "()Ljava/lang/String;"⟩ : MethodName)) hown (mvT hZ (hw _ (List.mem_of_getElem? (i := 87) rfl))) (mvT hZ (hw _ (List.mem_of_getElem? (i := 88) rfl))) (notFace_of_selects (args := #[]) (mvT hZ (hw _ (List.mem_of_getElem? (i := 90) rfl)))) (mvT hZ (hw _ (List.mem_of_getElem? (i := 90) rfl))) (mvT hZ (hw _ (List.mem_of_getElem? (i := 89) rfl))) (by decide) (backOf (W := 0) (rmA_file l Z a0 hw [] b27 b10 h27 n0 O27 F_file_b27) hZ (hw _ (List.mem_of_getElem? (i := 91) rfl)) (hw _ (List.mem_of_getElem? (i := 44) rfl)) (by decide) (by decide)) qa30 qc30 (g := (mkF m 249 #[.val (.long p1), .second, .val (.long p2), .second, .val (.long p3), .second, .val (.long p4), .second, .val (.int p5), .val (.int p6), .val (.ref w1), .val (.ref w2), .val (.ref u12), .val (.ref u13), .val (.ref b5), .val (.ref b10), .val (.ref b15), .val (.ref b20), .val (.ref b25), .val (.ref b27)] [(.ref b27)])) rfl (by rw [hml]; rfl) (Steps.refl _) (argsL := []) (rest := []) (lenOf pd_rm0_5 rfl) rfl (by show 2 * 0 + _ ≤ _; exact Nat.le_of_eq rfl) (hb hby at_249) (fun _ _ => ⟨rfl, e29, (by decide : 14 + 0 ≤ _), (by decide : 40 + 0 ≤ _)⟩)
          dsimp only [Pt.U, Pt.locs, Pt.cells, Pt.slots] at X30 l30 y30 z30 st30 hQ30
          subst l30 y30 z30
          obtain ⟨rfl, Nq30, e30⟩ := hQ30
          have N30 := Fr.app N29 Nq30
          refine Gl.st (fun _ kk => st30.trans kk) ?_
          show Gl p e below s _ _ _ T30 (mkF m 252 #[.val (.long p1), .second, .val (.long p2), .second, .val (.long p3), .second, .val (.long p4), .second, .val (.int p5), .val (.int p6), .val (.ref w1), .val (.ref w2), .val (.ref u12), .val (.ref u13), .val (.ref b5), .val (.ref b10), .val (.ref b15), .val (.ref b20), .val (.ref b25), .val (.ref b27)] [(.ref b10)])
          refine Gl.st (fun _ kk => XS.aload X30.here hx rfl (hb hby at_252) rfl rfl kk) ?_
          show Gl p e below s _ _ _ T30 (mkF m 254 #[.val (.long p1), .second, .val (.long p2), .second, .val (.long p3), .second, .val (.long p4), .second, .val (.int p5), .val (.int p6), .val (.ref w1), .val (.ref w2), .val (.ref u12), .val (.ref u13), .val (.ref b5), .val (.ref b10), .val (.ref b15), .val (.ref b20), .val (.ref b25), .val (.ref b27)] [(.ref b10), (.ref b10)])
          refine Gl.st (fun _ kk => Jvm.RoadKit.acmp (g := (mkF m 254 #[.val (.long p1), .second, .val (.long p2), .second, .val (.long p3), .second, .val (.long p4), .second, .val (.int p5), .val (.int p6), .val (.ref w1), .val (.ref w2), .val (.ref u12), .val (.ref u13), .val (.ref b5), .val (.ref b10), .val (.ref b15), .val (.ref b20), .val (.ref b25), .val (.ref b27)] [(.ref b10), (.ref b10)])) X30 hx rfl rfl rfl (pc0 := 254) (pc' := 257) (same := true) rfl (hb hby at_254) rfl (decide_eq_true rfl) (by decide) (by decide) kk) ?_
          show Gl p e below s _ _ _ T30 (mkF m 257 #[.val (.long p1), .second, .val (.long p2), .second, .val (.long p3), .second, .val (.long p4), .second, .val (.int p5), .val (.int p6), .val (.ref w1), .val (.ref w2), .val (.ref u12), .val (.ref u13), .val (.ref b5), .val (.ref b10), .val (.ref b15), .val (.ref b20), .val (.ref b25), .val (.ref b27)] [])
          refine Gl.st (fun _ kk => XS.aload X30.here hx rfl (hb hby at_257) rfl rfl kk) ?_
          show Gl p e below s _ _ _ T30 (mkF m 259 #[.val (.long p1), .second, .val (.long p2), .second, .val (.long p3), .second, .val (.long p4), .second, .val (.int p5), .val (.int p6), .val (.ref w1), .val (.ref w2), .val (.ref u12), .val (.ref u13), .val (.ref b5), .val (.ref b10), .val (.ref b15), .val (.ref b20), .val (.ref b25), .val (.ref b27)] [(.ref b27)])
          obtain ⟨cq31, kq31, qa31, qb31, qc31⟩ := isOf hZ e30 Exa_b27
          obtain ⟨_, _, ⟨T31, L31, k31, n31⟩, -, X31, ⟨Lc31, hQ31, l31, y31, z31⟩, st31⟩ := X30.virtualBack hx (y := (⟨"com/example/always_once/alwaysonce/ledger/Job", "status", "()Lcom/example/always_once/alwaysonce/ledger/JobStatus;"⟩ : MethodName)) (z := (⟨"com/example/always_once/alwaysonce/ledger/Job", "status", "()Lcom/example/always_once/alwaysonce/ledger/JobStatus;"⟩ : MethodName)) hown (mvT hZ (hw _ (List.mem_of_getElem? (i := 92) rfl))) (mvT hZ (hw _ (List.mem_of_getElem? (i := 93) rfl))) (notFace_of_selects (args := #[]) (mvT hZ (hw _ (List.mem_of_getElem? (i := 95) rfl)))) (mvT hZ (hw _ (List.mem_of_getElem? (i := 95) rfl))) (mvT hZ (hw _ (List.mem_of_getElem? (i := 94) rfl))) (by decide) (backOf (W := 0) (rmA_status l Z a0 hw [] b27 w2 h27 n0 O27 F_status_b27) hZ (hw _ (List.mem_of_getElem? (i := 96) rfl)) (hw _ (List.mem_of_getElem? (i := 44) rfl)) (by decide) (by decide)) qa31 qc31 (g := (mkF m 259 #[.val (.long p1), .second, .val (.long p2), .second, .val (.long p3), .second, .val (.long p4), .second, .val (.int p5), .val (.int p6), .val (.ref w1), .val (.ref w2), .val (.ref u12), .val (.ref u13), .val (.ref b5), .val (.ref b10), .val (.ref b15), .val (.ref b20), .val (.ref b25), .val (.ref b27)] [(.ref b27)])) rfl (by rw [hml]; rfl) (Steps.refl _) (argsL := []) (rest := []) (lenOf pd_rm0_6 rfl) rfl (by show 2 * 0 + _ ≤ _; exact Nat.le_of_eq rfl) (hb hby at_259) (fun _ _ => ⟨rfl, e30, (by decide : 14 + 0 ≤ _), (by decide : 40 + 0 ≤ _)⟩)
          dsimp only [Pt.U, Pt.locs, Pt.cells, Pt.slots] at X31 l31 y31 z31 st31 hQ31
          subst l31 y31 z31
          obtain ⟨rfl, Nq31, e31⟩ := hQ31
          have N31 := Fr.app N30 Nq31
          refine Gl.st (fun _ kk => st31.trans kk) ?_
          show Gl p e below s _ _ _ T31 (mkF m 262 #[.val (.long p1), .second, .val (.long p2), .second, .val (.long p3), .second, .val (.long p4), .second, .val (.int p5), .val (.int p6), .val (.ref w1), .val (.ref w2), .val (.ref u12), .val (.ref u13), .val (.ref b5), .val (.ref b10), .val (.ref b15), .val (.ref b20), .val (.ref b25), .val (.ref b27)] [(.ref w2)])
          refine Gl.st (fun _ kk => XS.aload X31.here hx rfl (hb hby at_262) rfl rfl kk) ?_
          show Gl p e below s _ _ _ T31 (mkF m 264 #[.val (.long p1), .second, .val (.long p2), .second, .val (.long p3), .second, .val (.long p4), .second, .val (.int p5), .val (.int p6), .val (.ref w1), .val (.ref w2), .val (.ref u12), .val (.ref u13), .val (.ref b5), .val (.ref b10), .val (.ref b15), .val (.ref b20), .val (.ref b25), .val (.ref b27)] [(.ref w2), (.ref w2)])
          refine Gl.st (fun _ kk => Jvm.RoadKit.acmp (g := (mkF m 264 #[.val (.long p1), .second, .val (.long p2), .second, .val (.long p3), .second, .val (.long p4), .second, .val (.int p5), .val (.int p6), .val (.ref w1), .val (.ref w2), .val (.ref u12), .val (.ref u13), .val (.ref b5), .val (.ref b10), .val (.ref b15), .val (.ref b20), .val (.ref b25), .val (.ref b27)] [(.ref w2), (.ref w2)])) X31 hx rfl rfl rfl (pc0 := 264) (pc' := 267) (same := true) rfl (hb hby at_264) rfl (decide_eq_true rfl) (by decide) (by decide) kk) ?_
          show Gl p e below s _ _ _ T31 (mkF m 267 #[.val (.long p1), .second, .val (.long p2), .second, .val (.long p3), .second, .val (.long p4), .second, .val (.int p5), .val (.int p6), .val (.ref w1), .val (.ref w2), .val (.ref u12), .val (.ref u13), .val (.ref b5), .val (.ref b10), .val (.ref b15), .val (.ref b20), .val (.ref b25), .val (.ref b27)] [])
          refine Gl.st (fun _ kk => XS.aload X31.here hx rfl (hb hby at_267) rfl rfl kk) ?_
          show Gl p e below s _ _ _ T31 (mkF m 269 #[.val (.long p1), .second, .val (.long p2), .second, .val (.long p3), .second, .val (.long p4), .second, .val (.int p5), .val (.int p6), .val (.ref w1), .val (.ref w2), .val (.ref u12), .val (.ref u13), .val (.ref b5), .val (.ref b10), .val (.ref b15), .val (.ref b20), .val (.ref b25), .val (.ref b27)] [(.ref b27)])
          obtain ⟨cq32, kq32, qa32, qb32, qc32⟩ := isOf hZ e31 Exa_b27
          obtain ⟨_, _, ⟨T32, L32, k32, n32⟩, -, X32, ⟨Lc32, hQ32, l32, y32, z32⟩, st32⟩ := X31.virtualBack hx (y := (⟨"com/example/always_once/alwaysonce/ledger/Job", "counts", "()Lcom/example/always_once/alwaysonce/ledger/JobCounts;"⟩ : MethodName)) (z := (⟨"com/example/always_once/alwaysonce/ledger/Job", "counts", "()Lcom/example/always_once/alwaysonce/ledger/JobCounts;"⟩ : MethodName)) hown (mvT hZ (hw _ (List.mem_of_getElem? (i := 97) rfl))) (mvT hZ (hw _ (List.mem_of_getElem? (i := 98) rfl))) (notFace_of_selects (args := #[]) (mvT hZ (hw _ (List.mem_of_getElem? (i := 100) rfl)))) (mvT hZ (hw _ (List.mem_of_getElem? (i := 100) rfl))) (mvT hZ (hw _ (List.mem_of_getElem? (i := 99) rfl))) (by decide) (backOf (W := 0) (rmA_counts l Z a0 hw [] b27 u13 h27 n0 O27 F_counts_b27) hZ (hw _ (List.mem_of_getElem? (i := 101) rfl)) (hw _ (List.mem_of_getElem? (i := 44) rfl)) (by decide) (by decide)) qa32 qc32 (g := (mkF m 269 #[.val (.long p1), .second, .val (.long p2), .second, .val (.long p3), .second, .val (.long p4), .second, .val (.int p5), .val (.int p6), .val (.ref w1), .val (.ref w2), .val (.ref u12), .val (.ref u13), .val (.ref b5), .val (.ref b10), .val (.ref b15), .val (.ref b20), .val (.ref b25), .val (.ref b27)] [(.ref b27)])) rfl (by rw [hml]; rfl) (Steps.refl _) (argsL := []) (rest := []) (lenOf pd_rm0_7 rfl) rfl (by show 2 * 0 + _ ≤ _; exact Nat.le_of_eq rfl) (hb hby at_269) (fun _ _ => ⟨rfl, e31, (by decide : 14 + 0 ≤ _), (by decide : 40 + 0 ≤ _)⟩)
          dsimp only [Pt.U, Pt.locs, Pt.cells, Pt.slots] at X32 l32 y32 z32 st32 hQ32
          subst l32 y32 z32
          obtain ⟨rfl, Nq32, e32⟩ := hQ32
          have N32 := Fr.app N31 Nq32
          refine Gl.st (fun _ kk => st32.trans kk) ?_
          show Gl p e below s _ _ _ T32 (mkF m 272 #[.val (.long p1), .second, .val (.long p2), .second, .val (.long p3), .second, .val (.long p4), .second, .val (.int p5), .val (.int p6), .val (.ref w1), .val (.ref w2), .val (.ref u12), .val (.ref u13), .val (.ref b5), .val (.ref b10), .val (.ref b15), .val (.ref b20), .val (.ref b25), .val (.ref b27)] [(.ref u13)])
          refine Gl.st (fun _ kk => XS.aload X32.here hx rfl (hb hby at_272) rfl rfl kk) ?_
          show Gl p e below s _ _ _ T32 (mkF m 274 #[.val (.long p1), .second, .val (.long p2), .second, .val (.long p3), .second, .val (.long p4), .second, .val (.int p5), .val (.int p6), .val (.ref w1), .val (.ref w2), .val (.ref u12), .val (.ref u13), .val (.ref b5), .val (.ref b10), .val (.ref b15), .val (.ref b20), .val (.ref b25), .val (.ref b27)] [(.ref u13), (.ref u13)])
          refine Gl.st (fun _ kk => Jvm.RoadKit.acmp (g := (mkF m 274 #[.val (.long p1), .second, .val (.long p2), .second, .val (.long p3), .second, .val (.long p4), .second, .val (.int p5), .val (.int p6), .val (.ref w1), .val (.ref w2), .val (.ref u12), .val (.ref u13), .val (.ref b5), .val (.ref b10), .val (.ref b15), .val (.ref b20), .val (.ref b25), .val (.ref b27)] [(.ref u13), (.ref u13)])) X32 hx rfl rfl rfl (pc0 := 274) (pc' := 277) (same := true) rfl (hb hby at_274) rfl (decide_eq_true rfl) (by decide) (by decide) kk) ?_
          show Gl p e below s _ _ _ T32 (mkF m 277 #[.val (.long p1), .second, .val (.long p2), .second, .val (.long p3), .second, .val (.long p4), .second, .val (.int p5), .val (.int p6), .val (.ref w1), .val (.ref w2), .val (.ref u12), .val (.ref u13), .val (.ref b5), .val (.ref b10), .val (.ref b15), .val (.ref b20), .val (.ref b25), .val (.ref b27)] [])
          refine Gl.st (fun _ kk => XS.aload X32.here hx rfl (hb hby at_277) rfl rfl kk) ?_
          show Gl p e below s _ _ _ T32 (mkF m 279 #[.val (.long p1), .second, .val (.long p2), .second, .val (.long p3), .second, .val (.long p4), .second, .val (.int p5), .val (.int p6), .val (.ref w1), .val (.ref w2), .val (.ref u12), .val (.ref u13), .val (.ref b5), .val (.ref b10), .val (.ref b15), .val (.ref b20), .val (.ref b25), .val (.ref b27)] [(.ref b27)])
          obtain ⟨cq33, kq33, qa33, qb33, qc33⟩ := isOf hZ e32 Exa_b27
          obtain ⟨_, _, ⟨T33, L33, k33, n33⟩, -, X33, ⟨Lc33, hQ33, l33, y33, z33⟩, st33⟩ := X32.virtualBack hx (y := (⟨"com/example/always_once/alwaysonce/ledger/Job", "size", "()J"⟩ : MethodName)) (z := (⟨"com/example/always_once/alwaysonce/ledger/Job", "size", "()J"⟩ : MethodName)) hown (mvT hZ (hw _ (List.mem_of_getElem? (i := 102) rfl))) (mvT hZ (hw _ (List.mem_of_getElem? (i := 103) rfl))) (notFace_of_selects (args := #[]) (mvT hZ (hw _ (List.mem_of_getElem? (i := 105) rfl)))) (mvT hZ (hw _ (List.mem_of_getElem? (i := 105) rfl))) (mvT hZ (hw _ (List.mem_of_getElem? (i := 104) rfl))) (by decide) (backOf (W := 0) (rmA_size l Z a0 hw [] b27 p2 h27 n0 O27 F_size_b27) hZ (hw _ (List.mem_of_getElem? (i := 106) rfl)) (hw _ (List.mem_of_getElem? (i := 44) rfl)) (by decide) (by decide)) qa33 qc33 (g := (mkF m 279 #[.val (.long p1), .second, .val (.long p2), .second, .val (.long p3), .second, .val (.long p4), .second, .val (.int p5), .val (.int p6), .val (.ref w1), .val (.ref w2), .val (.ref u12), .val (.ref u13), .val (.ref b5), .val (.ref b10), .val (.ref b15), .val (.ref b20), .val (.ref b25), .val (.ref b27)] [(.ref b27)])) rfl (by rw [hml]; rfl) (Steps.refl _) (argsL := []) (rest := []) (lenOf pd_rm0_4 rfl) rfl (by show 2 * 0 + _ ≤ _; exact Nat.le_of_eq rfl) (hb hby at_279) (fun _ _ => ⟨rfl, e32, (by decide : 14 + 0 ≤ _), (by decide : 40 + 0 ≤ _)⟩)
          dsimp only [Pt.U, Pt.locs, Pt.cells, Pt.slots] at X33 l33 y33 z33 st33 hQ33
          subst l33 y33 z33
          obtain ⟨rfl, Nq33, e33⟩ := hQ33
          have N33 := Fr.app N32 Nq33
          refine Gl.st (fun _ kk => st33.trans kk) ?_
          show Gl p e below s _ _ _ T33 (mkF m 282 #[.val (.long p1), .second, .val (.long p2), .second, .val (.long p3), .second, .val (.long p4), .second, .val (.int p5), .val (.int p6), .val (.ref w1), .val (.ref w2), .val (.ref u12), .val (.ref u13), .val (.ref b5), .val (.ref b10), .val (.ref b15), .val (.ref b20), .val (.ref b25), .val (.ref b27)] [(.long p2)])
          refine Gl.st (fun _ kk => XS.lloadN X33.here hx rfl (hb hby at_282) rfl kk) ?_
          show Gl p e below s _ _ _ T33 (mkF m 283 #[.val (.long p1), .second, .val (.long p2), .second, .val (.long p3), .second, .val (.long p4), .second, .val (.int p5), .val (.int p6), .val (.ref w1), .val (.ref w2), .val (.ref u12), .val (.ref u13), .val (.ref b5), .val (.ref b10), .val (.ref b15), .val (.ref b20), .val (.ref b25), .val (.ref b27)] [(.long p2), (.long p2)])
          refine Gl.st (fun _ kk => XS.lcmp X33.here hx rfl (hb hby at_283) rfl kk) ?_
          show Gl p e below s _ _ _ T33 (mkF m 284 #[.val (.long p1), .second, .val (.long p2), .second, .val (.long p3), .second, .val (.long p4), .second, .val (.int p5), .val (.int p6), .val (.ref w1), .val (.ref w2), .val (.ref u12), .val (.ref u13), .val (.ref b5), .val (.ref b10), .val (.ref b15), .val (.ref b20), .val (.ref b25), .val (.ref b27)] [(.int (lcmpW p2 p2))])
          refine Gl.st (fun _ kk => XS.ifNo X33.here hx rfl (hb hby at_284) rfl ((if0 _ _).trans (teq ((lw_eq _ _).mpr rfl : (lcmpW p2 p2) = (0 : Int32))).2) kk) ?_
          show Gl p e below s _ _ _ T33 (mkF m 287 #[.val (.long p1), .second, .val (.long p2), .second, .val (.long p3), .second, .val (.long p4), .second, .val (.int p5), .val (.int p6), .val (.ref w1), .val (.ref w2), .val (.ref u12), .val (.ref u13), .val (.ref b5), .val (.ref b10), .val (.ref b15), .val (.ref b20), .val (.ref b25), .val (.ref b27)] [])
          refine Gl.st (fun _ kk => XS.aload X33.here hx rfl (hb hby at_287) rfl rfl kk) ?_
          show Gl p e below s _ _ _ T33 (mkF m 289 #[.val (.long p1), .second, .val (.long p2), .second, .val (.long p3), .second, .val (.long p4), .second, .val (.int p5), .val (.int p6), .val (.ref w1), .val (.ref w2), .val (.ref u12), .val (.ref u13), .val (.ref b5), .val (.ref b10), .val (.ref b15), .val (.ref b20), .val (.ref b25), .val (.ref b27)] [(.ref b27)])
          obtain ⟨cq34, kq34, qa34, qb34, qc34⟩ := isOf hZ e33 Exa_b27
          obtain ⟨_, _, ⟨T34, L34, k34, n34⟩, -, X34, ⟨Lc34, hQ34, l34, y34, z34⟩, st34⟩ := X33.virtualBack hx (y := (⟨"com/example/always_once/alwaysonce/ledger/Job", "read", "()J"⟩ : MethodName)) (z := (⟨"com/example/always_once/alwaysonce/ledger/Job", "read", "()J"⟩ : MethodName)) hown (mvT hZ (hw _ (List.mem_of_getElem? (i := 107) rfl))) (mvT hZ (hw _ (List.mem_of_getElem? (i := 108) rfl))) (notFace_of_selects (args := #[]) (mvT hZ (hw _ (List.mem_of_getElem? (i := 110) rfl)))) (mvT hZ (hw _ (List.mem_of_getElem? (i := 110) rfl))) (mvT hZ (hw _ (List.mem_of_getElem? (i := 109) rfl))) (by decide) (backOf (W := 0) (rmA_read l Z a0 hw [] b27 p4 h27 n0 O27 F_read_b27) hZ (hw _ (List.mem_of_getElem? (i := 111) rfl)) (hw _ (List.mem_of_getElem? (i := 44) rfl)) (by decide) (by decide)) qa34 qc34 (g := (mkF m 289 #[.val (.long p1), .second, .val (.long p2), .second, .val (.long p3), .second, .val (.long p4), .second, .val (.int p5), .val (.int p6), .val (.ref w1), .val (.ref w2), .val (.ref u12), .val (.ref u13), .val (.ref b5), .val (.ref b10), .val (.ref b15), .val (.ref b20), .val (.ref b25), .val (.ref b27)] [(.ref b27)])) rfl (by rw [hml]; rfl) (Steps.refl _) (argsL := []) (rest := []) (lenOf pd_rm0_4 rfl) rfl (by show 2 * 0 + _ ≤ _; exact Nat.le_of_eq rfl) (hb hby at_289) (fun _ _ => ⟨rfl, e33, (by decide : 14 + 0 ≤ _), (by decide : 40 + 0 ≤ _)⟩)
          dsimp only [Pt.U, Pt.locs, Pt.cells, Pt.slots] at X34 l34 y34 z34 st34 hQ34
          subst l34 y34 z34
          obtain ⟨rfl, Nq34, e34⟩ := hQ34
          have N34 := Fr.app N33 Nq34
          refine Gl.st (fun _ kk => st34.trans kk) ?_
          show Gl p e below s _ _ _ T34 (mkF m 292 #[.val (.long p1), .second, .val (.long p2), .second, .val (.long p3), .second, .val (.long p4), .second, .val (.int p5), .val (.int p6), .val (.ref w1), .val (.ref w2), .val (.ref u12), .val (.ref u13), .val (.ref b5), .val (.ref b10), .val (.ref b15), .val (.ref b20), .val (.ref b25), .val (.ref b27)] [(.long p4)])
          refine Gl.st (fun _ kk => XS.lload X34.here hx rfl (hb hby at_292) rfl kk) ?_
          show Gl p e below s _ _ _ T34 (mkF m 294 #[.val (.long p1), .second, .val (.long p2), .second, .val (.long p3), .second, .val (.long p4), .second, .val (.int p5), .val (.int p6), .val (.ref w1), .val (.ref w2), .val (.ref u12), .val (.ref u13), .val (.ref b5), .val (.ref b10), .val (.ref b15), .val (.ref b20), .val (.ref b25), .val (.ref b27)] [(.long p4), (.long p4)])
          refine Gl.st (fun _ kk => XS.lcmp X34.here hx rfl (hb hby at_294) rfl kk) ?_
          show Gl p e below s _ _ _ T34 (mkF m 295 #[.val (.long p1), .second, .val (.long p2), .second, .val (.long p3), .second, .val (.long p4), .second, .val (.int p5), .val (.int p6), .val (.ref w1), .val (.ref w2), .val (.ref u12), .val (.ref u13), .val (.ref b5), .val (.ref b10), .val (.ref b15), .val (.ref b20), .val (.ref b25), .val (.ref b27)] [(.int (lcmpW p4 p4))])
          refine Gl.st (fun _ kk => XS.ifNo X34.here hx rfl (hb hby at_295) rfl ((if0 _ _).trans (teq ((lw_eq _ _).mpr rfl : (lcmpW p4 p4) = (0 : Int32))).2) kk) ?_
          show Gl p e below s _ _ _ T34 (mkF m 298 #[.val (.long p1), .second, .val (.long p2), .second, .val (.long p3), .second, .val (.long p4), .second, .val (.int p5), .val (.int p6), .val (.ref w1), .val (.ref w2), .val (.ref u12), .val (.ref u13), .val (.ref b5), .val (.ref b10), .val (.ref b15), .val (.ref b20), .val (.ref b25), .val (.ref b27)] [])
          refine Gl.st (fun _ kk => XS.aload X34.here hx rfl (hb hby at_298) rfl rfl kk) ?_
          show Gl p e below s _ _ _ T34 (mkF m 300 #[.val (.long p1), .second, .val (.long p2), .second, .val (.long p3), .second, .val (.long p4), .second, .val (.int p5), .val (.int p6), .val (.ref w1), .val (.ref w2), .val (.ref u12), .val (.ref u13), .val (.ref b5), .val (.ref b10), .val (.ref b15), .val (.ref b20), .val (.ref b25), .val (.ref b27)] [(.ref b27)])
          obtain ⟨cq35, kq35, qa35, qb35, qc35⟩ := isOf hZ e34 Exa_b27
          obtain ⟨_, _, ⟨T35, L35, k35, n35⟩, -, X35, ⟨Lc35, hQ35, l35, y35, z35⟩, st35⟩ := X34.virtualBack hx (y := (⟨"com/example/always_once/alwaysonce/ledger/Job", "failure", "()Ljava/lang/String;"⟩ : MethodName)) (z := (⟨"com/example/always_once/alwaysonce/ledger/Job", "failure", "()Ljava/lang/String;"⟩ : MethodName)) hown (mvT hZ (hw _ (List.mem_of_getElem? (i := 112) rfl))) (mvT hZ (hw _ (List.mem_of_getElem? (i := 113) rfl))) (notFace_of_selects (args := #[]) (mvT hZ (hw _ (List.mem_of_getElem? (i := 115) rfl)))) (mvT hZ (hw _ (List.mem_of_getElem? (i := 115) rfl))) (mvT hZ (hw _ (List.mem_of_getElem? (i := 114) rfl))) (by decide) (backOf (W := 0) (rmA_failure l Z a0 hw [] b27 b20 h27 n0 O27 F_failure_b27) hZ (hw _ (List.mem_of_getElem? (i := 116) rfl)) (hw _ (List.mem_of_getElem? (i := 44) rfl)) (by decide) (by decide)) qa35 qc35 (g := (mkF m 300 #[.val (.long p1), .second, .val (.long p2), .second, .val (.long p3), .second, .val (.long p4), .second, .val (.int p5), .val (.int p6), .val (.ref w1), .val (.ref w2), .val (.ref u12), .val (.ref u13), .val (.ref b5), .val (.ref b10), .val (.ref b15), .val (.ref b20), .val (.ref b25), .val (.ref b27)] [(.ref b27)])) rfl (by rw [hml]; rfl) (Steps.refl _) (argsL := []) (rest := []) (lenOf pd_rm0_5 rfl) rfl (by show 2 * 0 + _ ≤ _; exact Nat.le_of_eq rfl) (hb hby at_300) (fun _ _ => ⟨rfl, e34, (by decide : 14 + 0 ≤ _), (by decide : 40 + 0 ≤ _)⟩)
          dsimp only [Pt.U, Pt.locs, Pt.cells, Pt.slots] at X35 l35 y35 z35 st35 hQ35
          subst l35 y35 z35
          obtain ⟨rfl, Nq35, e35⟩ := hQ35
          have N35 := Fr.app N34 Nq35
          refine Gl.st (fun _ kk => st35.trans kk) ?_
          show Gl p e below s _ _ _ T35 (mkF m 303 #[.val (.long p1), .second, .val (.long p2), .second, .val (.long p3), .second, .val (.long p4), .second, .val (.int p5), .val (.int p6), .val (.ref w1), .val (.ref w2), .val (.ref u12), .val (.ref u13), .val (.ref b5), .val (.ref b10), .val (.ref b15), .val (.ref b20), .val (.ref b25), .val (.ref b27)] [(.ref b20)])
          refine Gl.st (fun _ kk => XS.aload X35.here hx rfl (hb hby at_303) rfl rfl kk) ?_
          show Gl p e below s _ _ _ T35 (mkF m 305 #[.val (.long p1), .second, .val (.long p2), .second, .val (.long p3), .second, .val (.long p4), .second, .val (.int p5), .val (.int p6), .val (.ref w1), .val (.ref w2), .val (.ref u12), .val (.ref u13), .val (.ref b5), .val (.ref b10), .val (.ref b15), .val (.ref b20), .val (.ref b25), .val (.ref b27)] [(.ref b20), (.ref b20)])
          refine Gl.st (fun _ kk => Jvm.RoadKit.acmp (g := (mkF m 305 #[.val (.long p1), .second, .val (.long p2), .second, .val (.long p3), .second, .val (.long p4), .second, .val (.int p5), .val (.int p6), .val (.ref w1), .val (.ref w2), .val (.ref u12), .val (.ref u13), .val (.ref b5), .val (.ref b10), .val (.ref b15), .val (.ref b20), .val (.ref b25), .val (.ref b27)] [(.ref b20), (.ref b20)])) X35 hx rfl rfl rfl (pc0 := 305) (pc' := 308) (same := true) rfl (hb hby at_305) rfl (decide_eq_true rfl) (by decide) (by decide) kk) ?_
          show Gl p e below s _ _ _ T35 (mkF m 308 #[.val (.long p1), .second, .val (.long p2), .second, .val (.long p3), .second, .val (.long p4), .second, .val (.int p5), .val (.int p6), .val (.ref w1), .val (.ref w2), .val (.ref u12), .val (.ref u13), .val (.ref b5), .val (.ref b10), .val (.ref b15), .val (.ref b20), .val (.ref b25), .val (.ref b27)] [])
          refine Gl.st (fun _ kk => XS.iconst X35.here hx rfl (hb hby at_308) kk) ?_
          show Gl p e below s _ _ _ T35 (mkF m 309 #[.val (.long p1), .second, .val (.long p2), .second, .val (.long p3), .second, .val (.long p4), .second, .val (.int p5), .val (.int p6), .val (.ref w1), .val (.ref w2), .val (.ref u12), .val (.ref u13), .val (.ref b5), .val (.ref b10), .val (.ref b15), .val (.ref b20), .val (.ref b25), .val (.ref b27)] [(.int (1 : Int32))])
          refine Gl.st (fun _ kk => XS.goto X35.here hx rfl (pc0 := 309) (pc' := 313) rfl (hb hby at_309) (by decide) (by decide) kk) ?_
          show Gl p e below s _ _ _ T35 (mkF m 313 #[.val (.long p1), .second, .val (.long p2), .second, .val (.long p3), .second, .val (.long p4), .second, .val (.int p5), .val (.int p6), .val (.ref w1), .val (.ref w2), .val (.ref u12), .val (.ref u13), .val (.ref b5), .val (.ref b10), .val (.ref b15), .val (.ref b20), .val (.ref b25), .val (.ref b27)] [(.int (1 : Int32))])
          exact Gl.ret X35 (v := (some (.int (1 : Int32)))) (fun h => by rw [Bd.returns] at h; cases h) (BodyLoose.notSynchronized Bd) (fun hr => retN X35 hx (t := .boolean) Bd.returns (by simp) (hb hby at_313) hr) e35 ⟨rfl, N35⟩ (by decide) (by decide)
        · skip
          refine Gl.st (fun _ kk => XS.ifNo X19.here hx rfl (hb hby at_157) rfl ((if0 _ _).trans (feq hc157).1) kk) ?_
          show Gl p e below s _ _ _ T19 (mkF m 160 #[.val (.long p1), .second, .val (.long p2), .second, .val (.long p3), .second, .val (.long p4), .second, .val (.int p5), .val (.int p6), .val (.ref w1), .val (.ref w2), .val (.ref u12), .val (.ref u13), .val (.ref b5), .val (.ref b10), .val (.ref b15), .unset, .unset, .unset] [])
          refine Gl.st (fun _ kk => XS.aconstNull X19.here hx rfl (hb hby at_160) kk) ?_
          show Gl p e below s _ _ _ T19 (mkF m 161 #[.val (.long p1), .second, .val (.long p2), .second, .val (.long p3), .second, .val (.long p4), .second, .val (.int p5), .val (.int p6), .val (.ref w1), .val (.ref w2), .val (.ref u12), .val (.ref u13), .val (.ref b5), .val (.ref b10), .val (.ref b15), .unset, .unset, .unset] [.null])
          refine Gl.st (fun _ kk => XS.goto X19.here hx rfl (pc0 := 161) (pc' := 187) rfl (hb hby at_161) (by decide) (by decide) kk) ?_
          show Gl p e below s _ _ _ T19 (mkF m 187 #[.val (.long p1), .second, .val (.long p2), .second, .val (.long p3), .second, .val (.long p4), .second, .val (.int p5), .val (.int p6), .val (.ref w1), .val (.ref w2), .val (.ref u12), .val (.ref u13), .val (.ref b5), .val (.ref b10), .val (.ref b15), .unset, .unset, .unset] [.null])
          refine Gl.st (fun _ kk => XS.astore X19.here hx rfl (hb hby at_187) rfl rfl (l' := #[.val (.long p1), .second, .val (.long p2), .second, .val (.long p3), .second, .val (.long p4), .second, .val (.int p5), .val (.int p6), .val (.ref w1), .val (.ref w2), .val (.ref u12), .val (.ref u13), .val (.ref b5), .val (.ref b10), .val (.ref b15), .val .null, .unset, .unset]) rfl kk) ?_
          show Gl p e below s _ _ _ T19 (mkF m 189 #[.val (.long p1), .second, .val (.long p2), .second, .val (.long p3), .second, .val (.long p4), .second, .val (.int p5), .val (.int p6), .val (.ref w1), .val (.ref w2), .val (.ref u12), .val (.ref u13), .val (.ref b5), .val (.ref b10), .val (.ref b15), .val .null, .unset, .unset] [])
          obtain ⟨T36, h36, X36, e36, E36, A36, D36, V36, st36⟩ := newO X19 hx hZ hown (hw _ (List.mem_of_getElem? (i := 42) rfl)) (hw _ (List.mem_of_getElem? (i := 43) rfl)) (hw _ (List.mem_of_getElem? (i := 44) rfl)) e19 (g := (mkF m 189 #[.val (.long p1), .second, .val (.long p2), .second, .val (.long p3), .second, .val (.long p4), .second, .val (.int p5), .val (.int p6), .val (.ref w1), .val (.ref w2), .val (.ref u12), .val (.ref u13), .val (.ref b5), .val (.ref b10), .val (.ref b15), .val .null, .unset, .unset] [])) rfl (hb hby at_189) (by decide) (by decide)
          obtain ⟨b36, g36⟩ : ∃ z, z = h19.size := ⟨_, rfl⟩
          rw [← g36] at A36 D36 V36 st36
          refine Gl.st st36 ?_
          have ge_b36 : n0 ≤ b36 := Nat.le_trans (Nat.le_trans (Nat.le_of_eq O19.1.symm) O19.2.1) (Nat.le_of_eq g36.symm)
          have fr_b36 : h0.size ≤ b36 := Nat.le_trans K19.1 (Nat.le_of_eq g36.symm)
          have O36 := O19.ext E36
          have K36 := K19.ext E36
          have Exa_b36 := A36
          have F_id_b36 : Fld Z h36 b36 "com/example/always_once/alwaysonce/ledger/Job" "id" "J" (.long (0 : Int64)) := D36 (Or.inr (hw _ (List.mem_of_getElem? (i := 55) rfl))) (ty := .long) (by decide)
          have F_definition_b36 : Fld Z h36 b36 "com/example/always_once/alwaysonce/ledger/Job" "definition" "Ljava/lang/String;" .null := D36 (Or.inr (hw _ (List.mem_of_getElem? (i := 57) rfl))) (ty := (.object "java/lang/String")) (by decide)
          have F_file_b36 : Fld Z h36 b36 "com/example/always_once/alwaysonce/ledger/Job" "file" "Ljava/lang/String;" .null := D36 (Or.inr (hw _ (List.mem_of_getElem? (i := 59) rfl))) (ty := (.object "java/lang/String")) (by decide)
          have F_status_b36 : Fld Z h36 b36 "com/example/always_once/alwaysonce/ledger/Job" "status" "Lcom/example/always_once/alwaysonce/ledger/JobStatus;" .null := D36 (Or.inr (hw _ (List.mem_of_getElem? (i := 61) rfl))) (ty := (.object "com/example/always_once/alwaysonce/ledger/JobStatus")) (by decide)
          have F_counts_b36 : Fld Z h36 b36 "com/example/always_once/alwaysonce/ledger/Job" "counts" "Lcom/example/always_once/alwaysonce/ledger/JobCounts;" .null := D36 (Or.inr (hw _ (List.mem_of_getElem? (i := 63) rfl))) (ty := (.object "com/example/always_once/alwaysonce/ledger/JobCounts")) (by decide)
          have F_size_b36 : Fld Z h36 b36 "com/example/always_once/alwaysonce/ledger/Job" "size" "J" (.long (0 : Int64)) := D36 (Or.inr (hw _ (List.mem_of_getElem? (i := 65) rfl))) (ty := .long) (by decide)
          have F_read_b36 : Fld Z h36 b36 "com/example/always_once/alwaysonce/ledger/Job" "read" "J" (.long (0 : Int64)) := D36 (Or.inr (hw _ (List.mem_of_getElem? (i := 67) rfl))) (ty := .long) (by decide)
          have F_failure_b36 : Fld Z h36 b36 "com/example/always_once/alwaysonce/ledger/Job" "failure" "Ljava/lang/String;" .null := D36 (Or.inr (hw _ (List.mem_of_getElem? (i := 69) rfl))) (ty := (.object "java/lang/String")) (by decide)
          show Gl p e below s _ _ _ T36 (mkF m 192 #[.val (.long p1), .second, .val (.long p2), .second, .val (.long p3), .second, .val (.long p4), .second, .val (.int p5), .val (.int p6), .val (.ref w1), .val (.ref w2), .val (.ref u12), .val (.ref u13), .val (.ref b5), .val (.ref b10), .val (.ref b15), .val .null, .unset, .unset] [(.ref b36)])
          refine Gl.st (fun _ kk => XS.dup X36.here hx rfl (hb hby at_192) rfl rfl kk) ?_
          show Gl p e below s _ _ _ T36 (mkF m 193 #[.val (.long p1), .second, .val (.long p2), .second, .val (.long p3), .second, .val (.long p4), .second, .val (.int p5), .val (.int p6), .val (.ref w1), .val (.ref w2), .val (.ref u12), .val (.ref u13), .val (.ref b5), .val (.ref b10), .val (.ref b15), .val .null, .unset, .unset] [(.ref b36), (.ref b36)])
          refine Gl.st (fun _ kk => XS.lloadN X36.here hx rfl (hb hby at_193) rfl kk) ?_
          show Gl p e below s _ _ _ T36 (mkF m 194 #[.val (.long p1), .second, .val (.long p2), .second, .val (.long p3), .second, .val (.long p4), .second, .val (.int p5), .val (.int p6), .val (.ref w1), .val (.ref w2), .val (.ref u12), .val (.ref u13), .val (.ref b5), .val (.ref b10), .val (.ref b15), .val .null, .unset, .unset] [(.long p1), (.ref b36), (.ref b36)])
          refine Gl.st (fun _ kk => XS.aload X36.here hx rfl (hb hby at_194) rfl rfl kk) ?_
          show Gl p e below s _ _ _ T36 (mkF m 196 #[.val (.long p1), .second, .val (.long p2), .second, .val (.long p3), .second, .val (.long p4), .second, .val (.int p5), .val (.int p6), .val (.ref w1), .val (.ref w2), .val (.ref u12), .val (.ref u13), .val (.ref b5), .val (.ref b10), .val (.ref b15), .val .null, .unset, .unset] [(.ref b5), (.long p1), (.ref b36), (.ref b36)])
          refine Gl.st (fun _ kk => XS.aload X36.here hx rfl (hb hby at_196) rfl rfl kk) ?_
          show Gl p e below s _ _ _ T36 (mkF m 198 #[.val (.long p1), .second, .val (.long p2), .second, .val (.long p3), .second, .val (.long p4), .second, .val (.int p5), .val (.int p6), .val (.ref w1), .val (.ref w2), .val (.ref u12), .val (.ref u13), .val (.ref b5), .val (.ref b10), .val (.ref b15), .val .null, .unset, .unset] [(.ref b10), (.ref b5), (.long p1), (.ref b36), (.ref b36)])
          refine Gl.st (fun _ kk => XS.aload X36.here hx rfl (hb hby at_198) rfl rfl kk) ?_
          show Gl p e below s _ _ _ T36 (mkF m 200 #[.val (.long p1), .second, .val (.long p2), .second, .val (.long p3), .second, .val (.long p4), .second, .val (.int p5), .val (.int p6), .val (.ref w1), .val (.ref w2), .val (.ref u12), .val (.ref u13), .val (.ref b5), .val (.ref b10), .val (.ref b15), .val .null, .unset, .unset] [(.ref w1), (.ref b10), (.ref b5), (.long p1), (.ref b36), (.ref b36)])
          refine Gl.st (fun _ kk => XS.aload X36.here hx rfl (hb hby at_200) rfl rfl kk) ?_
          show Gl p e below s _ _ _ T36 (mkF m 202 #[.val (.long p1), .second, .val (.long p2), .second, .val (.long p3), .second, .val (.long p4), .second, .val (.int p5), .val (.int p6), .val (.ref w1), .val (.ref w2), .val (.ref u12), .val (.ref u13), .val (.ref b5), .val (.ref b10), .val (.ref b15), .val .null, .unset, .unset] [(.ref u12), (.ref w1), (.ref b10), (.ref b5), (.long p1), (.ref b36), (.ref b36)])
          refine Gl.st (fun _ kk => XS.lloadN X36.here hx rfl (hb hby at_202) rfl kk) ?_
          show Gl p e below s _ _ _ T36 (mkF m 203 #[.val (.long p1), .second, .val (.long p2), .second, .val (.long p3), .second, .val (.long p4), .second, .val (.int p5), .val (.int p6), .val (.ref w1), .val (.ref w2), .val (.ref u12), .val (.ref u13), .val (.ref b5), .val (.ref b10), .val (.ref b15), .val .null, .unset, .unset] [(.long p2), (.ref u12), (.ref w1), (.ref b10), (.ref b5), (.long p1), (.ref b36), (.ref b36)])
          refine Gl.st (fun _ kk => XS.lload X36.here hx rfl (hb hby at_203) rfl kk) ?_
          show Gl p e below s _ _ _ T36 (mkF m 205 #[.val (.long p1), .second, .val (.long p2), .second, .val (.long p3), .second, .val (.long p4), .second, .val (.int p5), .val (.int p6), .val (.ref w1), .val (.ref w2), .val (.ref u12), .val (.ref u13), .val (.ref b5), .val (.ref b10), .val (.ref b15), .val .null, .unset, .unset] [(.long p3), (.long p2), (.ref u12), (.ref w1), (.ref b10), (.ref b5), (.long p1), (.ref b36), (.ref b36)])
          refine Gl.st (fun _ kk => XS.aload X36.here hx rfl (hb hby at_205) rfl rfl kk) ?_
          show Gl p e below s _ _ _ T36 (mkF m 207 #[.val (.long p1), .second, .val (.long p2), .second, .val (.long p3), .second, .val (.long p4), .second, .val (.int p5), .val (.int p6), .val (.ref w1), .val (.ref w2), .val (.ref u12), .val (.ref u13), .val (.ref b5), .val (.ref b10), .val (.ref b15), .val .null, .unset, .unset] [(.ref b15), (.long p3), (.long p2), (.ref u12), (.ref w1), (.ref b10), (.ref b5), (.long p1), (.ref b36), (.ref b36)])
          obtain ⟨_, _, ⟨T37, L37, k37, n37⟩, -, X37, ⟨Lc37, hQ37, l37, y37, z37⟩, st37⟩ := X36.specialBack hx (y := (⟨"com/example/always_once/alwaysonce/ledger/Job", "<init>", "(JLjava/lang/String;Ljava/lang/String;Lcom/example/always_once/alwaysonce/ledger/JobStatus;Lcom/example/always_once/alwaysonce/ledger/JobCounts;JJLjava/lang/String;)V"⟩ : MethodName)) rfl hown (mvT hZ (hw _ (List.mem_of_getElem? (i := 45) rfl))) (mvT hZ (hw _ (List.mem_of_getElem? (i := 46) rfl))) (mvT hZ (hw _ (List.mem_of_getElem? (i := 47) rfl))) (by decide) (backOf (W := 1) (rmIr l Z a0 hw [] b36 p1 b5 b10 w1 u12 p2 p3 b15 h36 n0 O36 Exa_b36 F_id_b36 F_definition_b36 F_file_b36 F_status_b36 F_counts_b36 F_size_b36 F_read_b36 F_failure_b36 ge_b36) hZ (hw _ (List.mem_of_getElem? (i := 47) rfl)) (hw _ (List.mem_of_getElem? (i := 44) rfl)) (by decide) (by decide)) (g := (mkF m 207 #[.val (.long p1), .second, .val (.long p2), .second, .val (.long p3), .second, .val (.long p4), .second, .val (.int p5), .val (.int p6), .val (.ref w1), .val (.ref w2), .val (.ref u12), .val (.ref u13), .val (.ref b5), .val (.ref b10), .val (.ref b15), .val .null, .unset, .unset] [(.ref b15), (.long p3), (.long p2), (.ref u12), (.ref w1), (.ref b10), (.ref b5), (.long p1), (.ref b36), (.ref b36)])) rfl (by rw [hml]; rfl) (Steps.refl _) (a := b36) (argsL := [(.long p1), (.ref b5), (.ref b10), (.ref w1), (.ref u12), (.long p2), (.long p3), (.ref b15)]) (rest := [(.ref b36)]) (lenOf pd_rm0_2 rfl) rfl (by show 2 * 0 + _ ≤ _; exact Nat.le_of_eq rfl) (hb hby at_207) (fun _ _ => ⟨rfl, e36, (by decide : 10 + 0 ≤ _), (by decide : 26 + 0 ≤ _)⟩)
          dsimp only [Pt.U, Pt.locs, Pt.cells, Pt.slots] at X37 l37 y37 z37 st37 hQ37
          subst l37 y37 z37
          obtain ⟨h37, e37⟩ : ∃ z, T37.heap = z := ⟨_, rfl⟩
          rw [e37] at hQ37
          obtain ⟨rfl, Nq37, Kq37, F_id_q37, F_definition_q37, F_file_q37, F_status_q37, F_counts_q37, F_size_q37, F_read_q37, F_failure_q37⟩ := hQ37
          have N37 := Fr.app N19 Nq37
          refine Gl.st (fun _ kk => st37.trans kk) ?_
          have Exa_b36 := Exa_b36.keep Kq37
          have O37 := O36.keep Kq37 (allS ge_b36 all0)
          have K37 := K36.trans Kq37 (allS (Or.inr fr_b36) all0)
          have F_id_b36 := F_id_q37
          have F_definition_b36 := F_definition_q37
          have F_file_b36 := F_file_q37
          have F_status_b36 := F_status_q37
          have F_counts_b36 := F_counts_q37
          have F_size_b36 := F_size_q37
          have F_read_b36 := F_read_q37
          have F_failure_b36 := F_failure_q37
          show Gl p e below s _ _ _ T37 (mkF m 210 #[.val (.long p1), .second, .val (.long p2), .second, .val (.long p3), .second, .val (.long p4), .second, .val (.int p5), .val (.int p6), .val (.ref w1), .val (.ref w2), .val (.ref u12), .val (.ref u13), .val (.ref b5), .val (.ref b10), .val (.ref b15), .val .null, .unset, .unset] [(.ref b36)])
          refine Gl.st (fun _ kk => XS.astore X37.here hx rfl (hb hby at_210) rfl rfl (l' := #[.val (.long p1), .second, .val (.long p2), .second, .val (.long p3), .second, .val (.long p4), .second, .val (.int p5), .val (.int p6), .val (.ref w1), .val (.ref w2), .val (.ref u12), .val (.ref u13), .val (.ref b5), .val (.ref b10), .val (.ref b15), .val .null, .val (.ref b36), .unset]) rfl kk) ?_
          show Gl p e below s _ _ _ T37 (mkF m 212 #[.val (.long p1), .second, .val (.long p2), .second, .val (.long p3), .second, .val (.long p4), .second, .val (.int p5), .val (.int p6), .val (.ref w1), .val (.ref w2), .val (.ref u12), .val (.ref u13), .val (.ref b5), .val (.ref b10), .val (.ref b15), .val .null, .val (.ref b36), .unset] [])
          refine Gl.st (fun _ kk => XS.aload X37.here hx rfl (hb hby at_212) rfl rfl kk) ?_
          show Gl p e below s _ _ _ T37 (mkF m 214 #[.val (.long p1), .second, .val (.long p2), .second, .val (.long p3), .second, .val (.long p4), .second, .val (.int p5), .val (.int p6), .val (.ref w1), .val (.ref w2), .val (.ref u12), .val (.ref u13), .val (.ref b5), .val (.ref b10), .val (.ref b15), .val .null, .val (.ref b36), .unset] [(.ref b36)])
          refine Gl.st (fun _ kk => XS.aload X37.here hx rfl (hb hby at_214) rfl rfl kk) ?_
          show Gl p e below s _ _ _ T37 (mkF m 216 #[.val (.long p1), .second, .val (.long p2), .second, .val (.long p3), .second, .val (.long p4), .second, .val (.int p5), .val (.int p6), .val (.ref w1), .val (.ref w2), .val (.ref u12), .val (.ref u13), .val (.ref b5), .val (.ref b10), .val (.ref b15), .val .null, .val (.ref b36), .unset] [(.ref w2), (.ref b36)])
          refine Gl.st (fun _ kk => XS.aload X37.here hx rfl (hb hby at_216) rfl rfl kk) ?_
          show Gl p e below s _ _ _ T37 (mkF m 218 #[.val (.long p1), .second, .val (.long p2), .second, .val (.long p3), .second, .val (.long p4), .second, .val (.int p5), .val (.int p6), .val (.ref w1), .val (.ref w2), .val (.ref u12), .val (.ref u13), .val (.ref b5), .val (.ref b10), .val (.ref b15), .val .null, .val (.ref b36), .unset] [(.ref u13), (.ref w2), (.ref b36)])
          refine Gl.st (fun _ kk => XS.lload X37.here hx rfl (hb hby at_218) rfl kk) ?_
          show Gl p e below s _ _ _ T37 (mkF m 220 #[.val (.long p1), .second, .val (.long p2), .second, .val (.long p3), .second, .val (.long p4), .second, .val (.int p5), .val (.int p6), .val (.ref w1), .val (.ref w2), .val (.ref u12), .val (.ref u13), .val (.ref b5), .val (.ref b10), .val (.ref b15), .val .null, .val (.ref b36), .unset] [(.long p4), (.ref u13), (.ref w2), (.ref b36)])
          refine Gl.st (fun _ kk => XS.aload X37.here hx rfl (hb hby at_220) rfl rfl kk) ?_
          show Gl p e below s _ _ _ T37 (mkF m 222 #[.val (.long p1), .second, .val (.long p2), .second, .val (.long p3), .second, .val (.long p4), .second, .val (.int p5), .val (.int p6), .val (.ref w1), .val (.ref w2), .val (.ref u12), .val (.ref u13), .val (.ref b5), .val (.ref b10), .val (.ref b15), .val .null, .val (.ref b36), .unset] [.null, (.long p4), (.ref u13), (.ref w2), (.ref b36)])
          obtain ⟨cq38, kq38, qa38, qb38, qc38⟩ := isOf hZ e37 Exa_b36
          obtain ⟨_, _, ⟨T38, L38, k38, n38⟩, -, X38, ⟨Lc38, hQ38, l38, y38, z38⟩, st38⟩ := X37.virtualBack hx (y := (⟨"com/example/always_once/alwaysonce/ledger/Job", "with", "(Lcom/example/always_once/alwaysonce/ledger/JobStatus;Lcom/example/always_once/alwaysonce/ledger/JobCounts;JLjava/lang/String;)Lcom/example/always_once/alwaysonce/ledger/Job;"⟩ : MethodName)) (z := (⟨"com/example/always_once/alwaysonce/ledger/Job", "with", "(Lcom/example/always_once/alwaysonce/ledger/JobStatus;Lcom/example/always_once/alwaysonce/ledger/JobCounts;JLjava/lang/String;)Lcom/example/always_once/alwaysonce/ledger/Job;"⟩ : MethodName)) hown (mvT hZ (hw _ (List.mem_of_getElem? (i := 70) rfl))) (mvT hZ (hw _ (List.mem_of_getElem? (i := 71) rfl))) (notFace_of_selects (args := #[]) (mvT hZ (hw _ (List.mem_of_getElem? (i := 73) rfl)))) (mvT hZ (hw _ (List.mem_of_getElem? (i := 73) rfl))) (mvT hZ (hw _ (List.mem_of_getElem? (i := 72) rfl))) (by decide) (backOf (W := 0) (rmWn l Z a0 hw [] b36 w2 u13 p4 p1 b5 b10 p2 h37 n0 O37 F_id_b36 F_definition_b36 F_file_b36 F_size_b36) hZ (hw _ (List.mem_of_getElem? (i := 74) rfl)) (hw _ (List.mem_of_getElem? (i := 44) rfl)) (by decide) (by decide)) qa38 qc38 (g := (mkF m 222 #[.val (.long p1), .second, .val (.long p2), .second, .val (.long p3), .second, .val (.long p4), .second, .val (.int p5), .val (.int p6), .val (.ref w1), .val (.ref w2), .val (.ref u12), .val (.ref u13), .val (.ref b5), .val (.ref b10), .val (.ref b15), .val .null, .val (.ref b36), .unset] [.null, (.long p4), (.ref u13), (.ref w2), (.ref b36)])) rfl (by rw [hml]; rfl) (Steps.refl _) (argsL := [(.ref w2), (.ref u13), (.long p4), .null]) (rest := []) (lenOf pd_rm0_3 rfl) rfl (by show 2 * 0 + _ ≤ _; exact Nat.le_of_eq rfl) (hb hby at_222) (fun _ _ => ⟨rfl, e37, (by decide : 10 + 1 ≤ _), (by decide : 26 + 8 ≤ _)⟩)
          dsimp only [Pt.U, Pt.locs, Pt.cells, Pt.slots] at X38 l38 y38 z38 st38 hQ38
          subst l38 y38 z38
          obtain ⟨h38, e38⟩ : ∃ z, T38.heap = z := ⟨_, rfl⟩
          rw [e38] at hQ38
          obtain ⟨b38, rfl, Nq38, Kq38, Exa_b38, F_id_b38, F_definition_b38, F_file_b38, F_status_b38, F_counts_b38, F_size_b38, F_read_b38, F_failure_b38, gb38, frb38⟩ := hQ38
          have N38 := Fr.app N37 Nq38
          refine Gl.st (fun _ kk => st38.trans kk) ?_
          have Exa_b36 := Exa_b36.keep Kq38
          have F_id_b36 := F_id_b36.keep Kq38 nin0
          have F_definition_b36 := F_definition_b36.keep Kq38 nin0
          have F_file_b36 := F_file_b36.keep Kq38 nin0
          have F_status_b36 := F_status_b36.keep Kq38 nin0
          have F_counts_b36 := F_counts_b36.keep Kq38 nin0
          have F_size_b36 := F_size_b36.keep Kq38 nin0
          have F_read_b36 := F_read_b36.keep Kq38 nin0
          have F_failure_b36 := F_failure_b36.keep Kq38 nin0
          have O38 := O37.keep Kq38 all0
          have K38 := K37.trans Kq38 all0
          show Gl p e below s _ _ _ T38 (mkF m 225 #[.val (.long p1), .second, .val (.long p2), .second, .val (.long p3), .second, .val (.long p4), .second, .val (.int p5), .val (.int p6), .val (.ref w1), .val (.ref w2), .val (.ref u12), .val (.ref u13), .val (.ref b5), .val (.ref b10), .val (.ref b15), .val .null, .val (.ref b36), .unset] [(.ref b38)])
          refine Gl.st (fun _ kk => XS.astore X38.here hx rfl (hb hby at_225) rfl rfl (l' := #[.val (.long p1), .second, .val (.long p2), .second, .val (.long p3), .second, .val (.long p4), .second, .val (.int p5), .val (.int p6), .val (.ref w1), .val (.ref w2), .val (.ref u12), .val (.ref u13), .val (.ref b5), .val (.ref b10), .val (.ref b15), .val .null, .val (.ref b36), .val (.ref b38)]) rfl kk) ?_
          show Gl p e below s _ _ _ T38 (mkF m 227 #[.val (.long p1), .second, .val (.long p2), .second, .val (.long p3), .second, .val (.long p4), .second, .val (.int p5), .val (.int p6), .val (.ref w1), .val (.ref w2), .val (.ref u12), .val (.ref u13), .val (.ref b5), .val (.ref b10), .val (.ref b15), .val .null, .val (.ref b36), .val (.ref b38)] [])
          refine Gl.st (fun _ kk => XS.aload X38.here hx rfl (hb hby at_227) rfl rfl kk) ?_
          show Gl p e below s _ _ _ T38 (mkF m 229 #[.val (.long p1), .second, .val (.long p2), .second, .val (.long p3), .second, .val (.long p4), .second, .val (.int p5), .val (.int p6), .val (.ref w1), .val (.ref w2), .val (.ref u12), .val (.ref u13), .val (.ref b5), .val (.ref b10), .val (.ref b15), .val .null, .val (.ref b36), .val (.ref b38)] [(.ref b38)])
          obtain ⟨cq39, kq39, qa39, qb39, qc39⟩ := isOf hZ e38 Exa_b38
          obtain ⟨_, _, ⟨T39, L39, k39, n39⟩, -, X39, ⟨Lc39, hQ39, l39, y39, z39⟩, st39⟩ := X38.virtualBack hx (y := (⟨"com/example/always_once/alwaysonce/ledger/Job", "id", "()J"⟩ : MethodName)) (z := (⟨"com/example/always_once/alwaysonce/ledger/Job", "id", "()J"⟩ : MethodName)) hown (mvT hZ (hw _ (List.mem_of_getElem? (i := 77) rfl))) (mvT hZ (hw _ (List.mem_of_getElem? (i := 78) rfl))) (notFace_of_selects (args := #[]) (mvT hZ (hw _ (List.mem_of_getElem? (i := 80) rfl)))) (mvT hZ (hw _ (List.mem_of_getElem? (i := 80) rfl))) (mvT hZ (hw _ (List.mem_of_getElem? (i := 79) rfl))) (by decide) (backOf (W := 0) (rmA_id l Z a0 hw [] b38 p1 h38 n0 O38 F_id_b38) hZ (hw _ (List.mem_of_getElem? (i := 81) rfl)) (hw _ (List.mem_of_getElem? (i := 44) rfl)) (by decide) (by decide)) qa39 qc39 (g := (mkF m 229 #[.val (.long p1), .second, .val (.long p2), .second, .val (.long p3), .second, .val (.long p4), .second, .val (.int p5), .val (.int p6), .val (.ref w1), .val (.ref w2), .val (.ref u12), .val (.ref u13), .val (.ref b5), .val (.ref b10), .val (.ref b15), .val .null, .val (.ref b36), .val (.ref b38)] [(.ref b38)])) rfl (by rw [hml]; rfl) (Steps.refl _) (argsL := []) (rest := []) (lenOf pd_rm0_4 rfl) rfl (by show 2 * 0 + _ ≤ _; exact Nat.le_of_eq rfl) (hb hby at_229) (fun _ _ => ⟨rfl, e38, (by decide : 11 + 0 ≤ _), (by decide : 34 + 0 ≤ _)⟩)
          dsimp only [Pt.U, Pt.locs, Pt.cells, Pt.slots] at X39 l39 y39 z39 st39 hQ39
          subst l39 y39 z39
          obtain ⟨rfl, Nq39, e39⟩ := hQ39
          have N39 := Fr.app N38 Nq39
          refine Gl.st (fun _ kk => st39.trans kk) ?_
          show Gl p e below s _ _ _ T39 (mkF m 232 #[.val (.long p1), .second, .val (.long p2), .second, .val (.long p3), .second, .val (.long p4), .second, .val (.int p5), .val (.int p6), .val (.ref w1), .val (.ref w2), .val (.ref u12), .val (.ref u13), .val (.ref b5), .val (.ref b10), .val (.ref b15), .val .null, .val (.ref b36), .val (.ref b38)] [(.long p1)])
          refine Gl.st (fun _ kk => XS.lloadN X39.here hx rfl (hb hby at_232) rfl kk) ?_
          show Gl p e below s _ _ _ T39 (mkF m 233 #[.val (.long p1), .second, .val (.long p2), .second, .val (.long p3), .second, .val (.long p4), .second, .val (.int p5), .val (.int p6), .val (.ref w1), .val (.ref w2), .val (.ref u12), .val (.ref u13), .val (.ref b5), .val (.ref b10), .val (.ref b15), .val .null, .val (.ref b36), .val (.ref b38)] [(.long p1), (.long p1)])
          refine Gl.st (fun _ kk => XS.lcmp X39.here hx rfl (hb hby at_233) rfl kk) ?_
          show Gl p e below s _ _ _ T39 (mkF m 234 #[.val (.long p1), .second, .val (.long p2), .second, .val (.long p3), .second, .val (.long p4), .second, .val (.int p5), .val (.int p6), .val (.ref w1), .val (.ref w2), .val (.ref u12), .val (.ref u13), .val (.ref b5), .val (.ref b10), .val (.ref b15), .val .null, .val (.ref b36), .val (.ref b38)] [(.int (lcmpW p1 p1))])
          refine Gl.st (fun _ kk => XS.ifNo X39.here hx rfl (hb hby at_234) rfl ((if0 _ _).trans (teq ((lw_eq _ _).mpr rfl : (lcmpW p1 p1) = (0 : Int32))).2) kk) ?_
          show Gl p e below s _ _ _ T39 (mkF m 237 #[.val (.long p1), .second, .val (.long p2), .second, .val (.long p3), .second, .val (.long p4), .second, .val (.int p5), .val (.int p6), .val (.ref w1), .val (.ref w2), .val (.ref u12), .val (.ref u13), .val (.ref b5), .val (.ref b10), .val (.ref b15), .val .null, .val (.ref b36), .val (.ref b38)] [])
          refine Gl.st (fun _ kk => XS.aload X39.here hx rfl (hb hby at_237) rfl rfl kk) ?_
          show Gl p e below s _ _ _ T39 (mkF m 239 #[.val (.long p1), .second, .val (.long p2), .second, .val (.long p3), .second, .val (.long p4), .second, .val (.int p5), .val (.int p6), .val (.ref w1), .val (.ref w2), .val (.ref u12), .val (.ref u13), .val (.ref b5), .val (.ref b10), .val (.ref b15), .val .null, .val (.ref b36), .val (.ref b38)] [(.ref b38)])
          obtain ⟨cq40, kq40, qa40, qb40, qc40⟩ := isOf hZ e39 Exa_b38
          obtain ⟨_, _, ⟨T40, L40, k40, n40⟩, -, X40, ⟨Lc40, hQ40, l40, y40, z40⟩, st40⟩ := X39.virtualBack hx (y := (⟨"com/example/always_once/alwaysonce/ledger/Job", "definition", "()Ljava/lang/String;"⟩ : MethodName)) (z := (⟨"com/example/always_once/alwaysonce/ledger/Job", "definition", "()Ljava/lang/String;"⟩ : MethodName)) hown (mvT hZ (hw _ (List.mem_of_getElem? (i := 82) rfl))) (mvT hZ (hw _ (List.mem_of_getElem? (i := 83) rfl))) (notFace_of_selects (args := #[]) (mvT hZ (hw _ (List.mem_of_getElem? (i := 85) rfl)))) (mvT hZ (hw _ (List.mem_of_getElem? (i := 85) rfl))) (mvT hZ (hw _ (List.mem_of_getElem? (i := 84) rfl))) (by decide) (backOf (W := 0) (rmA_definition l Z a0 hw [] b38 b5 h38 n0 O38 F_definition_b38) hZ (hw _ (List.mem_of_getElem? (i := 86) rfl)) (hw _ (List.mem_of_getElem? (i := 44) rfl)) (by decide) (by decide)) qa40 qc40 (g := (mkF m 239 #[.val (.long p1), .second, .val (.long p2), .second, .val (.long p3), .second, .val (.long p4), .second, .val (.int p5), .val (.int p6), .val (.ref w1), .val (.ref w2), .val (.ref u12), .val (.ref u13), .val (.ref b5), .val (.ref b10), .val (.ref b15), .val .null, .val (.ref b36), .val (.ref b38)] [(.ref b38)])) rfl (by rw [hml]; rfl) (Steps.refl _) (argsL := []) (rest := []) (lenOf pd_rm0_5 rfl) rfl (by show 2 * 0 + _ ≤ _; exact Nat.le_of_eq rfl) (hb hby at_239) (fun _ _ => ⟨rfl, e39, (by decide : 11 + 0 ≤ _), (by decide : 34 + 0 ≤ _)⟩)
          dsimp only [Pt.U, Pt.locs, Pt.cells, Pt.slots] at X40 l40 y40 z40 st40 hQ40
          subst l40 y40 z40
          obtain ⟨rfl, Nq40, e40⟩ := hQ40
          have N40 := Fr.app N39 Nq40
          refine Gl.st (fun _ kk => st40.trans kk) ?_
          show Gl p e below s _ _ _ T40 (mkF m 242 #[.val (.long p1), .second, .val (.long p2), .second, .val (.long p3), .second, .val (.long p4), .second, .val (.int p5), .val (.int p6), .val (.ref w1), .val (.ref w2), .val (.ref u12), .val (.ref u13), .val (.ref b5), .val (.ref b10), .val (.ref b15), .val .null, .val (.ref b36), .val (.ref b38)] [(.ref b5)])
          refine Gl.st (fun _ kk => XS.aload X40.here hx rfl (hb hby at_242) rfl rfl kk) ?_
          show Gl p e below s _ _ _ T40 (mkF m 244 #[.val (.long p1), .second, .val (.long p2), .second, .val (.long p3), .second, .val (.long p4), .second, .val (.int p5), .val (.int p6), .val (.ref w1), .val (.ref w2), .val (.ref u12), .val (.ref u13), .val (.ref b5), .val (.ref b10), .val (.ref b15), .val .null, .val (.ref b36), .val (.ref b38)] [(.ref b5), (.ref b5)])
          refine Gl.st (fun _ kk => Jvm.RoadKit.acmp (g := (mkF m 244 #[.val (.long p1), .second, .val (.long p2), .second, .val (.long p3), .second, .val (.long p4), .second, .val (.int p5), .val (.int p6), .val (.ref w1), .val (.ref w2), .val (.ref u12), .val (.ref u13), .val (.ref b5), .val (.ref b10), .val (.ref b15), .val .null, .val (.ref b36), .val (.ref b38)] [(.ref b5), (.ref b5)])) X40 hx rfl rfl rfl (pc0 := 244) (pc' := 247) (same := true) rfl (hb hby at_244) rfl (decide_eq_true rfl) (by decide) (by decide) kk) ?_
          show Gl p e below s _ _ _ T40 (mkF m 247 #[.val (.long p1), .second, .val (.long p2), .second, .val (.long p3), .second, .val (.long p4), .second, .val (.int p5), .val (.int p6), .val (.ref w1), .val (.ref w2), .val (.ref u12), .val (.ref u13), .val (.ref b5), .val (.ref b10), .val (.ref b15), .val .null, .val (.ref b36), .val (.ref b38)] [])
          refine Gl.st (fun _ kk => XS.aload X40.here hx rfl (hb hby at_247) rfl rfl kk) ?_
          show Gl p e below s _ _ _ T40 (mkF m 249 #[.val (.long p1), .second, .val (.long p2), .second, .val (.long p3), .second, .val (.long p4), .second, .val (.int p5), .val (.int p6), .val (.ref w1), .val (.ref w2), .val (.ref u12), .val (.ref u13), .val (.ref b5), .val (.ref b10), .val (.ref b15), .val .null, .val (.ref b36), .val (.ref b38)] [(.ref b38)])
          obtain ⟨cq41, kq41, qa41, qb41, qc41⟩ := isOf hZ e40 Exa_b38
          obtain ⟨_, _, ⟨T41, L41, k41, n41⟩, -, X41, ⟨Lc41, hQ41, l41, y41, z41⟩, st41⟩ := X40.virtualBack hx (y := (⟨"com/example/always_once/alwaysonce/ledger/Job", "file", "()Ljava/lang/String;"⟩ : MethodName)) (z := (⟨"com/example/always_once/alwaysonce/ledger/Job", "file", "()Ljava/lang/String;"⟩ : MethodName)) hown (mvT hZ (hw _ (List.mem_of_getElem? (i := 87) rfl))) (mvT hZ (hw _ (List.mem_of_getElem? (i := 88) rfl))) (notFace_of_selects (args := #[]) (mvT hZ (hw _ (List.mem_of_getElem? (i := 90) rfl)))) (mvT hZ (hw _ (List.mem_of_getElem? (i := 90) rfl))) (mvT hZ (hw _ (List.mem_of_getElem? (i := 89) rfl))) (by decide) (backOf (W := 0) (rmA_file l Z a0 hw [] b38 b10 h38 n0 O38 F_file_b38) hZ (hw _ (List.mem_of_getElem? (i := 91) rfl)) (hw _ (List.mem_of_getElem? (i := 44) rfl)) (by decide) (by decide)) qa41 qc41 (g := (mkF m 249 #[.val (.long p1), .second, .val (.long p2), .second, .val (.long p3), .second, .val (.long p4), .second, .val (.int p5), .val (.int p6), .val (.ref w1), .val (.ref w2), .val (.ref u12), .val (.ref u13), .val (.ref b5), .val (.ref b10), .val (.ref b15), .val .null, .val (.ref b36), .val (.ref b38)] [(.ref b38)])) rfl (by rw [hml]; rfl) (Steps.refl _) (argsL := []) (rest := []) (lenOf pd_rm0_5 rfl) rfl (by show 2 * 0 + _ ≤ _; exact Nat.le_of_eq rfl) (hb hby at_249) (fun _ _ => ⟨rfl, e40, (by decide : 11 + 0 ≤ _), (by decide : 34 + 0 ≤ _)⟩)
          dsimp only [Pt.U, Pt.locs, Pt.cells, Pt.slots] at X41 l41 y41 z41 st41 hQ41
          subst l41 y41 z41
          obtain ⟨rfl, Nq41, e41⟩ := hQ41
          have N41 := Fr.app N40 Nq41
          refine Gl.st (fun _ kk => st41.trans kk) ?_
          show Gl p e below s _ _ _ T41 (mkF m 252 #[.val (.long p1), .second, .val (.long p2), .second, .val (.long p3), .second, .val (.long p4), .second, .val (.int p5), .val (.int p6), .val (.ref w1), .val (.ref w2), .val (.ref u12), .val (.ref u13), .val (.ref b5), .val (.ref b10), .val (.ref b15), .val .null, .val (.ref b36), .val (.ref b38)] [(.ref b10)])
          refine Gl.st (fun _ kk => XS.aload X41.here hx rfl (hb hby at_252) rfl rfl kk) ?_
          show Gl p e below s _ _ _ T41 (mkF m 254 #[.val (.long p1), .second, .val (.long p2), .second, .val (.long p3), .second, .val (.long p4), .second, .val (.int p5), .val (.int p6), .val (.ref w1), .val (.ref w2), .val (.ref u12), .val (.ref u13), .val (.ref b5), .val (.ref b10), .val (.ref b15), .val .null, .val (.ref b36), .val (.ref b38)] [(.ref b10), (.ref b10)])
          refine Gl.st (fun _ kk => Jvm.RoadKit.acmp (g := (mkF m 254 #[.val (.long p1), .second, .val (.long p2), .second, .val (.long p3), .second, .val (.long p4), .second, .val (.int p5), .val (.int p6), .val (.ref w1), .val (.ref w2), .val (.ref u12), .val (.ref u13), .val (.ref b5), .val (.ref b10), .val (.ref b15), .val .null, .val (.ref b36), .val (.ref b38)] [(.ref b10), (.ref b10)])) X41 hx rfl rfl rfl (pc0 := 254) (pc' := 257) (same := true) rfl (hb hby at_254) rfl (decide_eq_true rfl) (by decide) (by decide) kk) ?_
          show Gl p e below s _ _ _ T41 (mkF m 257 #[.val (.long p1), .second, .val (.long p2), .second, .val (.long p3), .second, .val (.long p4), .second, .val (.int p5), .val (.int p6), .val (.ref w1), .val (.ref w2), .val (.ref u12), .val (.ref u13), .val (.ref b5), .val (.ref b10), .val (.ref b15), .val .null, .val (.ref b36), .val (.ref b38)] [])
          refine Gl.st (fun _ kk => XS.aload X41.here hx rfl (hb hby at_257) rfl rfl kk) ?_
          show Gl p e below s _ _ _ T41 (mkF m 259 #[.val (.long p1), .second, .val (.long p2), .second, .val (.long p3), .second, .val (.long p4), .second, .val (.int p5), .val (.int p6), .val (.ref w1), .val (.ref w2), .val (.ref u12), .val (.ref u13), .val (.ref b5), .val (.ref b10), .val (.ref b15), .val .null, .val (.ref b36), .val (.ref b38)] [(.ref b38)])
          obtain ⟨cq42, kq42, qa42, qb42, qc42⟩ := isOf hZ e41 Exa_b38
          obtain ⟨_, _, ⟨T42, L42, k42, n42⟩, -, X42, ⟨Lc42, hQ42, l42, y42, z42⟩, st42⟩ := X41.virtualBack hx (y := (⟨"com/example/always_once/alwaysonce/ledger/Job", "status", "()Lcom/example/always_once/alwaysonce/ledger/JobStatus;"⟩ : MethodName)) (z := (⟨"com/example/always_once/alwaysonce/ledger/Job", "status", "()Lcom/example/always_once/alwaysonce/ledger/JobStatus;"⟩ : MethodName)) hown (mvT hZ (hw _ (List.mem_of_getElem? (i := 92) rfl))) (mvT hZ (hw _ (List.mem_of_getElem? (i := 93) rfl))) (notFace_of_selects (args := #[]) (mvT hZ (hw _ (List.mem_of_getElem? (i := 95) rfl)))) (mvT hZ (hw _ (List.mem_of_getElem? (i := 95) rfl))) (mvT hZ (hw _ (List.mem_of_getElem? (i := 94) rfl))) (by decide) (backOf (W := 0) (rmA_status l Z a0 hw [] b38 w2 h38 n0 O38 F_status_b38) hZ (hw _ (List.mem_of_getElem? (i := 96) rfl)) (hw _ (List.mem_of_getElem? (i := 44) rfl)) (by decide) (by decide)) qa42 qc42 (g := (mkF m 259 #[.val (.long p1), .second, .val (.long p2), .second, .val (.long p3), .second, .val (.long p4), .second, .val (.int p5), .val (.int p6), .val (.ref w1), .val (.ref w2), .val (.ref u12), .val (.ref u13), .val (.ref b5), .val (.ref b10), .val (.ref b15), .val .null, .val (.ref b36), .val (.ref b38)] [(.ref b38)])) rfl (by rw [hml]; rfl) (Steps.refl _) (argsL := []) (rest := []) (lenOf pd_rm0_6 rfl) rfl (by show 2 * 0 + _ ≤ _; exact Nat.le_of_eq rfl) (hb hby at_259) (fun _ _ => ⟨rfl, e41, (by decide : 11 + 0 ≤ _), (by decide : 34 + 0 ≤ _)⟩)
          dsimp only [Pt.U, Pt.locs, Pt.cells, Pt.slots] at X42 l42 y42 z42 st42 hQ42
          subst l42 y42 z42
          obtain ⟨rfl, Nq42, e42⟩ := hQ42
          have N42 := Fr.app N41 Nq42
          refine Gl.st (fun _ kk => st42.trans kk) ?_
          show Gl p e below s _ _ _ T42 (mkF m 262 #[.val (.long p1), .second, .val (.long p2), .second, .val (.long p3), .second, .val (.long p4), .second, .val (.int p5), .val (.int p6), .val (.ref w1), .val (.ref w2), .val (.ref u12), .val (.ref u13), .val (.ref b5), .val (.ref b10), .val (.ref b15), .val .null, .val (.ref b36), .val (.ref b38)] [(.ref w2)])
          refine Gl.st (fun _ kk => XS.aload X42.here hx rfl (hb hby at_262) rfl rfl kk) ?_
          show Gl p e below s _ _ _ T42 (mkF m 264 #[.val (.long p1), .second, .val (.long p2), .second, .val (.long p3), .second, .val (.long p4), .second, .val (.int p5), .val (.int p6), .val (.ref w1), .val (.ref w2), .val (.ref u12), .val (.ref u13), .val (.ref b5), .val (.ref b10), .val (.ref b15), .val .null, .val (.ref b36), .val (.ref b38)] [(.ref w2), (.ref w2)])
          refine Gl.st (fun _ kk => Jvm.RoadKit.acmp (g := (mkF m 264 #[.val (.long p1), .second, .val (.long p2), .second, .val (.long p3), .second, .val (.long p4), .second, .val (.int p5), .val (.int p6), .val (.ref w1), .val (.ref w2), .val (.ref u12), .val (.ref u13), .val (.ref b5), .val (.ref b10), .val (.ref b15), .val .null, .val (.ref b36), .val (.ref b38)] [(.ref w2), (.ref w2)])) X42 hx rfl rfl rfl (pc0 := 264) (pc' := 267) (same := true) rfl (hb hby at_264) rfl (decide_eq_true rfl) (by decide) (by decide) kk) ?_
          show Gl p e below s _ _ _ T42 (mkF m 267 #[.val (.long p1), .second, .val (.long p2), .second, .val (.long p3), .second, .val (.long p4), .second, .val (.int p5), .val (.int p6), .val (.ref w1), .val (.ref w2), .val (.ref u12), .val (.ref u13), .val (.ref b5), .val (.ref b10), .val (.ref b15), .val .null, .val (.ref b36), .val (.ref b38)] [])
          refine Gl.st (fun _ kk => XS.aload X42.here hx rfl (hb hby at_267) rfl rfl kk) ?_
          show Gl p e below s _ _ _ T42 (mkF m 269 #[.val (.long p1), .second, .val (.long p2), .second, .val (.long p3), .second, .val (.long p4), .second, .val (.int p5), .val (.int p6), .val (.ref w1), .val (.ref w2), .val (.ref u12), .val (.ref u13), .val (.ref b5), .val (.ref b10), .val (.ref b15), .val .null, .val (.ref b36), .val (.ref b38)] [(.ref b38)])
          obtain ⟨cq43, kq43, qa43, qb43, qc43⟩ := isOf hZ e42 Exa_b38
          obtain ⟨_, _, ⟨T43, L43, k43, n43⟩, -, X43, ⟨Lc43, hQ43, l43, y43, z43⟩, st43⟩ := X42.virtualBack hx (y := (⟨"com/example/always_once/alwaysonce/ledger/Job", "counts", "()Lcom/example/always_once/alwaysonce/ledger/JobCounts;"⟩ : MethodName)) (z := (⟨"com/example/always_once/alwaysonce/ledger/Job", "counts", "()Lcom/example/always_once/alwaysonce/ledger/JobCounts;"⟩ : MethodName)) hown (mvT hZ (hw _ (List.mem_of_getElem? (i := 97) rfl))) (mvT hZ (hw _ (List.mem_of_getElem? (i := 98) rfl))) (notFace_of_selects (args := #[]) (mvT hZ (hw _ (List.mem_of_getElem? (i := 100) rfl)))) (mvT hZ (hw _ (List.mem_of_getElem? (i := 100) rfl))) (mvT hZ (hw _ (List.mem_of_getElem? (i := 99) rfl))) (by decide) (backOf (W := 0) (rmA_counts l Z a0 hw [] b38 u13 h38 n0 O38 F_counts_b38) hZ (hw _ (List.mem_of_getElem? (i := 101) rfl)) (hw _ (List.mem_of_getElem? (i := 44) rfl)) (by decide) (by decide)) qa43 qc43 (g := (mkF m 269 #[.val (.long p1), .second, .val (.long p2), .second, .val (.long p3), .second, .val (.long p4), .second, .val (.int p5), .val (.int p6), .val (.ref w1), .val (.ref w2), .val (.ref u12), .val (.ref u13), .val (.ref b5), .val (.ref b10), .val (.ref b15), .val .null, .val (.ref b36), .val (.ref b38)] [(.ref b38)])) rfl (by rw [hml]; rfl) (Steps.refl _) (argsL := []) (rest := []) (lenOf pd_rm0_7 rfl) rfl (by show 2 * 0 + _ ≤ _; exact Nat.le_of_eq rfl) (hb hby at_269) (fun _ _ => ⟨rfl, e42, (by decide : 11 + 0 ≤ _), (by decide : 34 + 0 ≤ _)⟩)
          dsimp only [Pt.U, Pt.locs, Pt.cells, Pt.slots] at X43 l43 y43 z43 st43 hQ43
          subst l43 y43 z43
          obtain ⟨rfl, Nq43, e43⟩ := hQ43
          have N43 := Fr.app N42 Nq43
          refine Gl.st (fun _ kk => st43.trans kk) ?_
          show Gl p e below s _ _ _ T43 (mkF m 272 #[.val (.long p1), .second, .val (.long p2), .second, .val (.long p3), .second, .val (.long p4), .second, .val (.int p5), .val (.int p6), .val (.ref w1), .val (.ref w2), .val (.ref u12), .val (.ref u13), .val (.ref b5), .val (.ref b10), .val (.ref b15), .val .null, .val (.ref b36), .val (.ref b38)] [(.ref u13)])
          refine Gl.st (fun _ kk => XS.aload X43.here hx rfl (hb hby at_272) rfl rfl kk) ?_
          show Gl p e below s _ _ _ T43 (mkF m 274 #[.val (.long p1), .second, .val (.long p2), .second, .val (.long p3), .second, .val (.long p4), .second, .val (.int p5), .val (.int p6), .val (.ref w1), .val (.ref w2), .val (.ref u12), .val (.ref u13), .val (.ref b5), .val (.ref b10), .val (.ref b15), .val .null, .val (.ref b36), .val (.ref b38)] [(.ref u13), (.ref u13)])
          refine Gl.st (fun _ kk => Jvm.RoadKit.acmp (g := (mkF m 274 #[.val (.long p1), .second, .val (.long p2), .second, .val (.long p3), .second, .val (.long p4), .second, .val (.int p5), .val (.int p6), .val (.ref w1), .val (.ref w2), .val (.ref u12), .val (.ref u13), .val (.ref b5), .val (.ref b10), .val (.ref b15), .val .null, .val (.ref b36), .val (.ref b38)] [(.ref u13), (.ref u13)])) X43 hx rfl rfl rfl (pc0 := 274) (pc' := 277) (same := true) rfl (hb hby at_274) rfl (decide_eq_true rfl) (by decide) (by decide) kk) ?_
          show Gl p e below s _ _ _ T43 (mkF m 277 #[.val (.long p1), .second, .val (.long p2), .second, .val (.long p3), .second, .val (.long p4), .second, .val (.int p5), .val (.int p6), .val (.ref w1), .val (.ref w2), .val (.ref u12), .val (.ref u13), .val (.ref b5), .val (.ref b10), .val (.ref b15), .val .null, .val (.ref b36), .val (.ref b38)] [])
          refine Gl.st (fun _ kk => XS.aload X43.here hx rfl (hb hby at_277) rfl rfl kk) ?_
          show Gl p e below s _ _ _ T43 (mkF m 279 #[.val (.long p1), .second, .val (.long p2), .second, .val (.long p3), .second, .val (.long p4), .second, .val (.int p5), .val (.int p6), .val (.ref w1), .val (.ref w2), .val (.ref u12), .val (.ref u13), .val (.ref b5), .val (.ref b10), .val (.ref b15), .val .null, .val (.ref b36), .val (.ref b38)] [(.ref b38)])
          obtain ⟨cq44, kq44, qa44, qb44, qc44⟩ := isOf hZ e43 Exa_b38
          obtain ⟨_, _, ⟨T44, L44, k44, n44⟩, -, X44, ⟨Lc44, hQ44, l44, y44, z44⟩, st44⟩ := X43.virtualBack hx (y := (⟨"com/example/always_once/alwaysonce/ledger/Job", "size", "()J"⟩ : MethodName)) (z := (⟨"com/example/always_once/alwaysonce/ledger/Job", "size", "()J"⟩ : MethodName)) hown (mvT hZ (hw _ (List.mem_of_getElem? (i := 102) rfl))) (mvT hZ (hw _ (List.mem_of_getElem? (i := 103) rfl))) (notFace_of_selects (args := #[]) (mvT hZ (hw _ (List.mem_of_getElem? (i := 105) rfl)))) (mvT hZ (hw _ (List.mem_of_getElem? (i := 105) rfl))) (mvT hZ (hw _ (List.mem_of_getElem? (i := 104) rfl))) (by decide) (backOf (W := 0) (rmA_size l Z a0 hw [] b38 p2 h38 n0 O38 F_size_b38) hZ (hw _ (List.mem_of_getElem? (i := 106) rfl)) (hw _ (List.mem_of_getElem? (i := 44) rfl)) (by decide) (by decide)) qa44 qc44 (g := (mkF m 279 #[.val (.long p1), .second, .val (.long p2), .second, .val (.long p3), .second, .val (.long p4), .second, .val (.int p5), .val (.int p6), .val (.ref w1), .val (.ref w2), .val (.ref u12), .val (.ref u13), .val (.ref b5), .val (.ref b10), .val (.ref b15), .val .null, .val (.ref b36), .val (.ref b38)] [(.ref b38)])) rfl (by rw [hml]; rfl) (Steps.refl _) (argsL := []) (rest := []) (lenOf pd_rm0_4 rfl) rfl (by show 2 * 0 + _ ≤ _; exact Nat.le_of_eq rfl) (hb hby at_279) (fun _ _ => ⟨rfl, e43, (by decide : 11 + 0 ≤ _), (by decide : 34 + 0 ≤ _)⟩)
          dsimp only [Pt.U, Pt.locs, Pt.cells, Pt.slots] at X44 l44 y44 z44 st44 hQ44
          subst l44 y44 z44
          obtain ⟨rfl, Nq44, e44⟩ := hQ44
          have N44 := Fr.app N43 Nq44
          refine Gl.st (fun _ kk => st44.trans kk) ?_
          show Gl p e below s _ _ _ T44 (mkF m 282 #[.val (.long p1), .second, .val (.long p2), .second, .val (.long p3), .second, .val (.long p4), .second, .val (.int p5), .val (.int p6), .val (.ref w1), .val (.ref w2), .val (.ref u12), .val (.ref u13), .val (.ref b5), .val (.ref b10), .val (.ref b15), .val .null, .val (.ref b36), .val (.ref b38)] [(.long p2)])
          refine Gl.st (fun _ kk => XS.lloadN X44.here hx rfl (hb hby at_282) rfl kk) ?_
          show Gl p e below s _ _ _ T44 (mkF m 283 #[.val (.long p1), .second, .val (.long p2), .second, .val (.long p3), .second, .val (.long p4), .second, .val (.int p5), .val (.int p6), .val (.ref w1), .val (.ref w2), .val (.ref u12), .val (.ref u13), .val (.ref b5), .val (.ref b10), .val (.ref b15), .val .null, .val (.ref b36), .val (.ref b38)] [(.long p2), (.long p2)])
          refine Gl.st (fun _ kk => XS.lcmp X44.here hx rfl (hb hby at_283) rfl kk) ?_
          show Gl p e below s _ _ _ T44 (mkF m 284 #[.val (.long p1), .second, .val (.long p2), .second, .val (.long p3), .second, .val (.long p4), .second, .val (.int p5), .val (.int p6), .val (.ref w1), .val (.ref w2), .val (.ref u12), .val (.ref u13), .val (.ref b5), .val (.ref b10), .val (.ref b15), .val .null, .val (.ref b36), .val (.ref b38)] [(.int (lcmpW p2 p2))])
          refine Gl.st (fun _ kk => XS.ifNo X44.here hx rfl (hb hby at_284) rfl ((if0 _ _).trans (teq ((lw_eq _ _).mpr rfl : (lcmpW p2 p2) = (0 : Int32))).2) kk) ?_
          show Gl p e below s _ _ _ T44 (mkF m 287 #[.val (.long p1), .second, .val (.long p2), .second, .val (.long p3), .second, .val (.long p4), .second, .val (.int p5), .val (.int p6), .val (.ref w1), .val (.ref w2), .val (.ref u12), .val (.ref u13), .val (.ref b5), .val (.ref b10), .val (.ref b15), .val .null, .val (.ref b36), .val (.ref b38)] [])
          refine Gl.st (fun _ kk => XS.aload X44.here hx rfl (hb hby at_287) rfl rfl kk) ?_
          show Gl p e below s _ _ _ T44 (mkF m 289 #[.val (.long p1), .second, .val (.long p2), .second, .val (.long p3), .second, .val (.long p4), .second, .val (.int p5), .val (.int p6), .val (.ref w1), .val (.ref w2), .val (.ref u12), .val (.ref u13), .val (.ref b5), .val (.ref b10), .val (.ref b15), .val .null, .val (.ref b36), .val (.ref b38)] [(.ref b38)])
          obtain ⟨cq45, kq45, qa45, qb45, qc45⟩ := isOf hZ e44 Exa_b38
          obtain ⟨_, _, ⟨T45, L45, k45, n45⟩, -, X45, ⟨Lc45, hQ45, l45, y45, z45⟩, st45⟩ := X44.virtualBack hx (y := (⟨"com/example/always_once/alwaysonce/ledger/Job", "read", "()J"⟩ : MethodName)) (z := (⟨"com/example/always_once/alwaysonce/ledger/Job", "read", "()J"⟩ : MethodName)) hown (mvT hZ (hw _ (List.mem_of_getElem? (i := 107) rfl))) (mvT hZ (hw _ (List.mem_of_getElem? (i := 108) rfl))) (notFace_of_selects (args := #[]) (mvT hZ (hw _ (List.mem_of_getElem? (i := 110) rfl)))) (mvT hZ (hw _ (List.mem_of_getElem? (i := 110) rfl))) (mvT hZ (hw _ (List.mem_of_getElem? (i := 109) rfl))) (by decide) (backOf (W := 0) (rmA_read l Z a0 hw [] b38 p4 h38 n0 O38 F_read_b38) hZ (hw _ (List.mem_of_getElem? (i := 111) rfl)) (hw _ (List.mem_of_getElem? (i := 44) rfl)) (by decide) (by decide)) qa45 qc45 (g := (mkF m 289 #[.val (.long p1), .second, .val (.long p2), .second, .val (.long p3), .second, .val (.long p4), .second, .val (.int p5), .val (.int p6), .val (.ref w1), .val (.ref w2), .val (.ref u12), .val (.ref u13), .val (.ref b5), .val (.ref b10), .val (.ref b15), .val .null, .val (.ref b36), .val (.ref b38)] [(.ref b38)])) rfl (by rw [hml]; rfl) (Steps.refl _) (argsL := []) (rest := []) (lenOf pd_rm0_4 rfl) rfl (by show 2 * 0 + _ ≤ _; exact Nat.le_of_eq rfl) (hb hby at_289) (fun _ _ => ⟨rfl, e44, (by decide : 11 + 0 ≤ _), (by decide : 34 + 0 ≤ _)⟩)
          dsimp only [Pt.U, Pt.locs, Pt.cells, Pt.slots] at X45 l45 y45 z45 st45 hQ45
          subst l45 y45 z45
          obtain ⟨rfl, Nq45, e45⟩ := hQ45
          have N45 := Fr.app N44 Nq45
          refine Gl.st (fun _ kk => st45.trans kk) ?_
          show Gl p e below s _ _ _ T45 (mkF m 292 #[.val (.long p1), .second, .val (.long p2), .second, .val (.long p3), .second, .val (.long p4), .second, .val (.int p5), .val (.int p6), .val (.ref w1), .val (.ref w2), .val (.ref u12), .val (.ref u13), .val (.ref b5), .val (.ref b10), .val (.ref b15), .val .null, .val (.ref b36), .val (.ref b38)] [(.long p4)])
          refine Gl.st (fun _ kk => XS.lload X45.here hx rfl (hb hby at_292) rfl kk) ?_
          show Gl p e below s _ _ _ T45 (mkF m 294 #[.val (.long p1), .second, .val (.long p2), .second, .val (.long p3), .second, .val (.long p4), .second, .val (.int p5), .val (.int p6), .val (.ref w1), .val (.ref w2), .val (.ref u12), .val (.ref u13), .val (.ref b5), .val (.ref b10), .val (.ref b15), .val .null, .val (.ref b36), .val (.ref b38)] [(.long p4), (.long p4)])
          refine Gl.st (fun _ kk => XS.lcmp X45.here hx rfl (hb hby at_294) rfl kk) ?_
          show Gl p e below s _ _ _ T45 (mkF m 295 #[.val (.long p1), .second, .val (.long p2), .second, .val (.long p3), .second, .val (.long p4), .second, .val (.int p5), .val (.int p6), .val (.ref w1), .val (.ref w2), .val (.ref u12), .val (.ref u13), .val (.ref b5), .val (.ref b10), .val (.ref b15), .val .null, .val (.ref b36), .val (.ref b38)] [(.int (lcmpW p4 p4))])
          refine Gl.st (fun _ kk => XS.ifNo X45.here hx rfl (hb hby at_295) rfl ((if0 _ _).trans (teq ((lw_eq _ _).mpr rfl : (lcmpW p4 p4) = (0 : Int32))).2) kk) ?_
          show Gl p e below s _ _ _ T45 (mkF m 298 #[.val (.long p1), .second, .val (.long p2), .second, .val (.long p3), .second, .val (.long p4), .second, .val (.int p5), .val (.int p6), .val (.ref w1), .val (.ref w2), .val (.ref u12), .val (.ref u13), .val (.ref b5), .val (.ref b10), .val (.ref b15), .val .null, .val (.ref b36), .val (.ref b38)] [])
          refine Gl.st (fun _ kk => XS.aload X45.here hx rfl (hb hby at_298) rfl rfl kk) ?_
          show Gl p e below s _ _ _ T45 (mkF m 300 #[.val (.long p1), .second, .val (.long p2), .second, .val (.long p3), .second, .val (.long p4), .second, .val (.int p5), .val (.int p6), .val (.ref w1), .val (.ref w2), .val (.ref u12), .val (.ref u13), .val (.ref b5), .val (.ref b10), .val (.ref b15), .val .null, .val (.ref b36), .val (.ref b38)] [(.ref b38)])
          obtain ⟨cq46, kq46, qa46, qb46, qc46⟩ := isOf hZ e45 Exa_b38
          obtain ⟨_, _, ⟨T46, L46, k46, n46⟩, -, X46, ⟨Lc46, hQ46, l46, y46, z46⟩, st46⟩ := X45.virtualBack hx (y := (⟨"com/example/always_once/alwaysonce/ledger/Job", "failure", "()Ljava/lang/String;"⟩ : MethodName)) (z := (⟨"com/example/always_once/alwaysonce/ledger/Job", "failure", "()Ljava/lang/String;"⟩ : MethodName)) hown (mvT hZ (hw _ (List.mem_of_getElem? (i := 112) rfl))) (mvT hZ (hw _ (List.mem_of_getElem? (i := 113) rfl))) (notFace_of_selects (args := #[]) (mvT hZ (hw _ (List.mem_of_getElem? (i := 115) rfl)))) (mvT hZ (hw _ (List.mem_of_getElem? (i := 115) rfl))) (mvT hZ (hw _ (List.mem_of_getElem? (i := 114) rfl))) (by decide) (backOf (W := 0) (rmA_nofail l Z a0 hw [] b38  h38 n0 O38 F_failure_b38) hZ (hw _ (List.mem_of_getElem? (i := 116) rfl)) (hw _ (List.mem_of_getElem? (i := 44) rfl)) (by decide) (by decide)) qa46 qc46 (g := (mkF m 300 #[.val (.long p1), .second, .val (.long p2), .second, .val (.long p3), .second, .val (.long p4), .second, .val (.int p5), .val (.int p6), .val (.ref w1), .val (.ref w2), .val (.ref u12), .val (.ref u13), .val (.ref b5), .val (.ref b10), .val (.ref b15), .val .null, .val (.ref b36), .val (.ref b38)] [(.ref b38)])) rfl (by rw [hml]; rfl) (Steps.refl _) (argsL := []) (rest := []) (lenOf pd_rm0_5 rfl) rfl (by show 2 * 0 + _ ≤ _; exact Nat.le_of_eq rfl) (hb hby at_300) (fun _ _ => ⟨rfl, e45, (by decide : 11 + 0 ≤ _), (by decide : 34 + 0 ≤ _)⟩)
          dsimp only [Pt.U, Pt.locs, Pt.cells, Pt.slots] at X46 l46 y46 z46 st46 hQ46
          subst l46 y46 z46
          obtain ⟨rfl, Nq46, e46⟩ := hQ46
          have N46 := Fr.app N45 Nq46
          refine Gl.st (fun _ kk => st46.trans kk) ?_
          show Gl p e below s _ _ _ T46 (mkF m 303 #[.val (.long p1), .second, .val (.long p2), .second, .val (.long p3), .second, .val (.long p4), .second, .val (.int p5), .val (.int p6), .val (.ref w1), .val (.ref w2), .val (.ref u12), .val (.ref u13), .val (.ref b5), .val (.ref b10), .val (.ref b15), .val .null, .val (.ref b36), .val (.ref b38)] [.null])
          refine Gl.st (fun _ kk => XS.aload X46.here hx rfl (hb hby at_303) rfl rfl kk) ?_
          show Gl p e below s _ _ _ T46 (mkF m 305 #[.val (.long p1), .second, .val (.long p2), .second, .val (.long p3), .second, .val (.long p4), .second, .val (.int p5), .val (.int p6), .val (.ref w1), .val (.ref w2), .val (.ref u12), .val (.ref u13), .val (.ref b5), .val (.ref b10), .val (.ref b15), .val .null, .val (.ref b36), .val (.ref b38)] [.null, .null])
          refine Gl.st (fun _ kk => Jvm.RoadKit.acmp (g := (mkF m 305 #[.val (.long p1), .second, .val (.long p2), .second, .val (.long p3), .second, .val (.long p4), .second, .val (.int p5), .val (.int p6), .val (.ref w1), .val (.ref w2), .val (.ref u12), .val (.ref u13), .val (.ref b5), .val (.ref b10), .val (.ref b15), .val .null, .val (.ref b36), .val (.ref b38)] [.null, .null])) X46 hx rfl rfl rfl (pc0 := 305) (pc' := 308) (same := true) rfl (hb hby at_305) rfl (decide_eq_true rfl) (by decide) (by decide) kk) ?_
          show Gl p e below s _ _ _ T46 (mkF m 308 #[.val (.long p1), .second, .val (.long p2), .second, .val (.long p3), .second, .val (.long p4), .second, .val (.int p5), .val (.int p6), .val (.ref w1), .val (.ref w2), .val (.ref u12), .val (.ref u13), .val (.ref b5), .val (.ref b10), .val (.ref b15), .val .null, .val (.ref b36), .val (.ref b38)] [])
          refine Gl.st (fun _ kk => XS.iconst X46.here hx rfl (hb hby at_308) kk) ?_
          show Gl p e below s _ _ _ T46 (mkF m 309 #[.val (.long p1), .second, .val (.long p2), .second, .val (.long p3), .second, .val (.long p4), .second, .val (.int p5), .val (.int p6), .val (.ref w1), .val (.ref w2), .val (.ref u12), .val (.ref u13), .val (.ref b5), .val (.ref b10), .val (.ref b15), .val .null, .val (.ref b36), .val (.ref b38)] [(.int (1 : Int32))])
          refine Gl.st (fun _ kk => XS.goto X46.here hx rfl (pc0 := 309) (pc' := 313) rfl (hb hby at_309) (by decide) (by decide) kk) ?_
          show Gl p e below s _ _ _ T46 (mkF m 313 #[.val (.long p1), .second, .val (.long p2), .second, .val (.long p3), .second, .val (.long p4), .second, .val (.int p5), .val (.int p6), .val (.ref w1), .val (.ref w2), .val (.ref u12), .val (.ref u13), .val (.ref b5), .val (.ref b10), .val (.ref b15), .val .null, .val (.ref b36), .val (.ref b38)] [(.int (1 : Int32))])
          exact Gl.ret X46 (v := (some (.int (1 : Int32)))) (fun h => by rw [Bd.returns] at h; cases h) (BodyLoose.notSynchronized Bd) (fun hr => retN X46 hx (t := .boolean) Bd.returns (by simp) (hb hby at_313) hr) e46 ⟨rfl, N46⟩ (by decide) (by decide)
      · skip
        refine Gl.st (fun _ kk => XS.ifNo X14.here hx rfl (hb hby at_118) rfl ((if0 _ _).trans (feq hc118).1) kk) ?_
        show Gl p e below s _ _ _ T14 (mkF m 121 #[.val (.long p1), .second, .val (.long p2), .second, .val (.long p3), .second, .val (.long p4), .second, .val (.int p5), .val (.int p6), .val (.ref w1), .val (.ref w2), .val (.ref u12), .val (.ref u13), .val (.ref b5), .val (.ref b10), .unset, .unset, .unset, .unset] [])
        refine Gl.st (fun _ kk => XS.aconstNull X14.here hx rfl (hb hby at_121) kk) ?_
        show Gl p e below s _ _ _ T14 (mkF m 122 #[.val (.long p1), .second, .val (.long p2), .second, .val (.long p3), .second, .val (.long p4), .second, .val (.int p5), .val (.int p6), .val (.ref w1), .val (.ref w2), .val (.ref u12), .val (.ref u13), .val (.ref b5), .val (.ref b10), .unset, .unset, .unset, .unset] [.null])
        refine Gl.st (fun _ kk => XS.goto X14.here hx rfl (pc0 := 122) (pc' := 148) rfl (hb hby at_122) (by decide) (by decide) kk) ?_
        show Gl p e below s _ _ _ T14 (mkF m 148 #[.val (.long p1), .second, .val (.long p2), .second, .val (.long p3), .second, .val (.long p4), .second, .val (.int p5), .val (.int p6), .val (.ref w1), .val (.ref w2), .val (.ref u12), .val (.ref u13), .val (.ref b5), .val (.ref b10), .unset, .unset, .unset, .unset] [.null])
        refine Gl.st (fun _ kk => XS.astore X14.here hx rfl (hb hby at_148) rfl rfl (l' := #[.val (.long p1), .second, .val (.long p2), .second, .val (.long p3), .second, .val (.long p4), .second, .val (.int p5), .val (.int p6), .val (.ref w1), .val (.ref w2), .val (.ref u12), .val (.ref u13), .val (.ref b5), .val (.ref b10), .val .null, .unset, .unset, .unset]) rfl kk) ?_
        show Gl p e below s _ _ _ T14 (mkF m 150 #[.val (.long p1), .second, .val (.long p2), .second, .val (.long p3), .second, .val (.long p4), .second, .val (.int p5), .val (.int p6), .val (.ref w1), .val (.ref w2), .val (.ref u12), .val (.ref u13), .val (.ref b5), .val (.ref b10), .val .null, .unset, .unset, .unset] [])
        refine Gl.st (fun _ kk => XS.iload X14.here hx rfl (hb hby at_150) rfl kk) ?_
        show Gl p e below s _ _ _ T14 (mkF m 152 #[.val (.long p1), .second, .val (.long p2), .second, .val (.long p3), .second, .val (.long p4), .second, .val (.int p5), .val (.int p6), .val (.ref w1), .val (.ref w2), .val (.ref u12), .val (.ref u13), .val (.ref b5), .val (.ref b10), .val .null, .unset, .unset, .unset] [(.int p5)])
        refine Gl.st (fun _ kk => XS.bipush X14.here hx rfl (hb hby at_152) kk) ?_
        show Gl p e below s _ _ _ T14 (mkF m 154 #[.val (.long p1), .second, .val (.long p2), .second, .val (.long p3), .second, .val (.long p4), .second, .val (.int p5), .val (.int p6), .val (.ref w1), .val (.ref w2), .val (.ref u12), .val (.ref u13), .val (.ref b5), .val (.ref b10), .val .null, .unset, .unset, .unset] [(.int (9 : Int32)), (.int p5)])
        refine Gl.st (fun _ kk => XS.iushr X14.here hx rfl (hb hby at_154) rfl kk) ?_
        show Gl p e below s _ _ _ T14 (mkF m 155 #[.val (.long p1), .second, .val (.long p2), .second, .val (.long p3), .second, .val (.long p4), .second, .val (.int p5), .val (.int p6), .val (.ref w1), .val (.ref w2), .val (.ref u12), .val (.ref u13), .val (.ref b5), .val (.ref b10), .val .null, .unset, .unset, .unset] [(.int ((p5.toUInt32 >>> ((9 : Int32) &&& 31).toUInt32).toInt32))])
        refine Gl.st (fun _ kk => XS.iconst X14.here hx rfl (hb hby at_155) kk) ?_
        show Gl p e below s _ _ _ T14 (mkF m 156 #[.val (.long p1), .second, .val (.long p2), .second, .val (.long p3), .second, .val (.long p4), .second, .val (.int p5), .val (.int p6), .val (.ref w1), .val (.ref w2), .val (.ref u12), .val (.ref u13), .val (.ref b5), .val (.ref b10), .val .null, .unset, .unset, .unset] [(.int (1 : Int32)), (.int ((p5.toUInt32 >>> ((9 : Int32) &&& 31).toUInt32).toInt32))])
        refine Gl.st (fun _ kk => XS.iand X14.here hx rfl (hb hby at_156) rfl kk) ?_
        show Gl p e below s _ _ _ T14 (mkF m 157 #[.val (.long p1), .second, .val (.long p2), .second, .val (.long p3), .second, .val (.long p4), .second, .val (.int p5), .val (.int p6), .val (.ref w1), .val (.ref w2), .val (.ref u12), .val (.ref u13), .val (.ref b5), .val (.ref b10), .val .null, .unset, .unset, .unset] [(.int (((p5.toUInt32 >>> ((9 : Int32) &&& 31).toUInt32).toInt32) &&& (1 : Int32)))])
        by_cases hc157 : (((p5.toUInt32 >>> ((9 : Int32) &&& 31).toUInt32).toInt32) &&& (1 : Int32)) = (0 : Int32)
        · skip
          refine Gl.st (fun _ kk => XS.ifYes X14.here hx rfl (pc0 := 157) (pc' := 164) rfl (hb hby at_157) rfl ((if0 _ _).trans (teq hc157).1) (by decide) (by decide) kk) ?_
          show Gl p e below s _ _ _ T14 (mkF m 164 #[.val (.long p1), .second, .val (.long p2), .second, .val (.long p3), .second, .val (.long p4), .second, .val (.int p5), .val (.int p6), .val (.ref w1), .val (.ref w2), .val (.ref u12), .val (.ref u13), .val (.ref b5), .val (.ref b10), .val .null, .unset, .unset, .unset] [])
          obtain ⟨T47, h47, X47, e47, E47, A47, D47, V47, st47⟩ := newO X14 hx hZ hown (hw _ (List.mem_of_getElem? (i := 12) rfl)) (hw _ (List.mem_of_getElem? (i := 13) rfl)) (hw _ (List.mem_of_getElem? (i := 14) rfl)) e14 (g := (mkF m 164 #[.val (.long p1), .second, .val (.long p2), .second, .val (.long p3), .second, .val (.long p4), .second, .val (.int p5), .val (.int p6), .val (.ref w1), .val (.ref w2), .val (.ref u12), .val (.ref u13), .val (.ref b5), .val (.ref b10), .val .null, .unset, .unset, .unset] [])) rfl (hb hby at_164) (by decide) (by decide)
          obtain ⟨b47, g47⟩ : ∃ z, z = h14.size := ⟨_, rfl⟩
          rw [← g47] at A47 D47 V47 st47
          refine Gl.st st47 ?_
          have ge_b47 : n0 ≤ b47 := Nat.le_trans (Nat.le_trans (Nat.le_of_eq O14.1.symm) O14.2.1) (Nat.le_of_eq g47.symm)
          have fr_b47 : h0.size ≤ b47 := Nat.le_trans K14.1 (Nat.le_of_eq g47.symm)
          have O47 := O14.ext E47
          have K47 := K14.ext E47
          have Exa_b47 := A47
          have F_coder_b47 : Fld Z h47 b47 "java/lang/String" "coder" "B" (.int (0 : Int32)) := D47 (Or.inr (hw _ (List.mem_of_getElem? (i := 39) rfl))) (ty := .byte) (by decide)
          have F_value_b47 : Fld Z h47 b47 "java/lang/String" "value" "[B" .null := D47 (Or.inr (hw _ (List.mem_of_getElem? (i := 41) rfl))) (ty := (.array .byte)) (by decide)
          show Gl p e below s _ _ _ T47 (mkF m 167 #[.val (.long p1), .second, .val (.long p2), .second, .val (.long p3), .second, .val (.long p4), .second, .val (.int p5), .val (.int p6), .val (.ref w1), .val (.ref w2), .val (.ref u12), .val (.ref u13), .val (.ref b5), .val (.ref b10), .val .null, .unset, .unset, .unset] [(.ref b47)])
          refine Gl.st (fun _ kk => XS.dup X47.here hx rfl (hb hby at_167) rfl rfl kk) ?_
          show Gl p e below s _ _ _ T47 (mkF m 168 #[.val (.long p1), .second, .val (.long p2), .second, .val (.long p3), .second, .val (.long p4), .second, .val (.int p5), .val (.int p6), .val (.ref w1), .val (.ref w2), .val (.ref u12), .val (.ref u13), .val (.ref b5), .val (.ref b10), .val .null, .unset, .unset, .unset] [(.ref b47), (.ref b47)])
          refine Gl.st (fun _ kk => XS.iconst X47.here hx rfl (hb hby at_168) kk) ?_
          show Gl p e below s _ _ _ T47 (mkF m 169 #[.val (.long p1), .second, .val (.long p2), .second, .val (.long p3), .second, .val (.long p4), .second, .val (.int p5), .val (.int p6), .val (.ref w1), .val (.ref w2), .val (.ref u12), .val (.ref u13), .val (.ref b5), .val (.ref b10), .val .null, .unset, .unset, .unset] [(.int (1 : Int32)), (.ref b47), (.ref b47)])
          obtain ⟨T48, h48, k48, X48, e48, E48, A48, st48⟩ := newP X47 hx hZ (hw _ (List.mem_of_getElem? (i := 15) rfl)) e47 (g := (mkF m 169 #[.val (.long p1), .second, .val (.long p2), .second, .val (.long p3), .second, .val (.long p4), .second, .val (.int p5), .val (.int p6), .val (.ref w1), .val (.ref w2), .val (.ref u12), .val (.ref u13), .val (.ref b5), .val (.ref b10), .val .null, .unset, .unset, .unset] [(.int (1 : Int32)), (.ref b47), (.ref b47)])) rfl (hb hby at_169) rfl (by decide) (cap := 1) (by decide) (by decide) (by decide) (by decide)
          obtain ⟨b48, g48⟩ : ∃ z, z = h47.size := ⟨_, rfl⟩
          rw [← g48] at A48 st48
          refine Gl.st st48 ?_
          have ne_b47_b48 : b47 ≠ b48 := Nat.ne_of_lt (Nat.lt_of_lt_of_eq Exa_b47.lt g48.symm)
          have ge_b48 : n0 ≤ b48 := Nat.le_trans (Nat.le_trans (Nat.le_of_eq O47.1.symm) O47.2.1) (Nat.le_of_eq g48.symm)
          have fr_b48 : h0.size ≤ b48 := Nat.le_trans K47.1 (Nat.le_of_eq g48.symm)
          have Exa_b47 := Exa_b47.ext E48
          have F_coder_b47 := F_coder_b47.ext E48
          have F_value_b47 := F_value_b47.ext E48
          have O48 := O47.ext E48
          have K48 := K47.ext E48
          have Arv_b48 : Arv Z h48 b48 k48 .char (1 : Int32) [(.int (0 : Int32))] (.int (0 : Int32)) := (Arv.new A48 (by decide)).pad (pad_rep [] (.int (0 : Int32)) 1)
          show Gl p e below s _ _ _ T48 (mkF m 171 #[.val (.long p1), .second, .val (.long p2), .second, .val (.long p3), .second, .val (.long p4), .second, .val (.int p5), .val (.int p6), .val (.ref w1), .val (.ref w2), .val (.ref u12), .val (.ref u13), .val (.ref b5), .val (.ref b10), .val .null, .unset, .unset, .unset] [(.ref b48), (.ref b47), (.ref b47)])
          refine Gl.st (fun _ kk => XS.dup X48.here hx rfl (hb hby at_171) rfl rfl kk) ?_
          show Gl p e below s _ _ _ T48 (mkF m 172 #[.val (.long p1), .second, .val (.long p2), .second, .val (.long p3), .second, .val (.long p4), .second, .val (.int p5), .val (.int p6), .val (.ref w1), .val (.ref w2), .val (.ref u12), .val (.ref u13), .val (.ref b5), .val (.ref b10), .val .null, .unset, .unset, .unset] [(.ref b48), (.ref b48), (.ref b47), (.ref b47)])
          refine Gl.st (fun _ kk => XS.iconst X48.here hx rfl (hb hby at_172) kk) ?_
          show Gl p e below s _ _ _ T48 (mkF m 173 #[.val (.long p1), .second, .val (.long p2), .second, .val (.long p3), .second, .val (.long p4), .second, .val (.int p5), .val (.int p6), .val (.ref w1), .val (.ref w2), .val (.ref u12), .val (.ref u13), .val (.ref b5), .val (.ref b10), .val .null, .unset, .unset, .unset] [(.int (0 : Int32)), (.ref b48), (.ref b48), (.ref b47), (.ref b47)])
          refine Gl.st (fun _ kk => XS.iload X48.here hx rfl (hb hby at_173) rfl kk) ?_
          show Gl p e below s _ _ _ T48 (mkF m 175 #[.val (.long p1), .second, .val (.long p2), .second, .val (.long p3), .second, .val (.long p4), .second, .val (.int p5), .val (.int p6), .val (.ref w1), .val (.ref w2), .val (.ref u12), .val (.ref u13), .val (.ref b5), .val (.ref b10), .val .null, .unset, .unset, .unset] [(.int p6), (.int (0 : Int32)), (.ref b48), (.ref b48), (.ref b47), (.ref b47)])
          refine Gl.st (fun _ kk => XS.bipush X48.here hx rfl (hb hby at_175) kk) ?_
          show Gl p e below s _ _ _ T48 (mkF m 177 #[.val (.long p1), .second, .val (.long p2), .second, .val (.long p3), .second, .val (.long p4), .second, .val (.int p5), .val (.int p6), .val (.ref w1), .val (.ref w2), .val (.ref u12), .val (.ref u13), .val (.ref b5), .val (.ref b10), .val .null, .unset, .unset, .unset] [(.int (24 : Int32)), (.int p6), (.int (0 : Int32)), (.ref b48), (.ref b48), (.ref b47), (.ref b47)])
          refine Gl.st (fun _ kk => XS.iushr X48.here hx rfl (hb hby at_177) rfl kk) ?_
          show Gl p e below s _ _ _ T48 (mkF m 178 #[.val (.long p1), .second, .val (.long p2), .second, .val (.long p3), .second, .val (.long p4), .second, .val (.int p5), .val (.int p6), .val (.ref w1), .val (.ref w2), .val (.ref u12), .val (.ref u13), .val (.ref b5), .val (.ref b10), .val .null, .unset, .unset, .unset] [(.int ((p6.toUInt32 >>> ((24 : Int32) &&& 31).toUInt32).toInt32)), (.int (0 : Int32)), (.ref b48), (.ref b48), (.ref b47), (.ref b47)])
          refine Gl.st (fun _ kk => XS.sipush X48.here hx rfl (hb hby at_178) kk) ?_
          show Gl p e below s _ _ _ T48 (mkF m 181 #[.val (.long p1), .second, .val (.long p2), .second, .val (.long p3), .second, .val (.long p4), .second, .val (.int p5), .val (.int p6), .val (.ref w1), .val (.ref w2), .val (.ref u12), .val (.ref u13), .val (.ref b5), .val (.ref b10), .val .null, .unset, .unset, .unset] [(.int (255 : Int32)), (.int ((p6.toUInt32 >>> ((24 : Int32) &&& 31).toUInt32).toInt32)), (.int (0 : Int32)), (.ref b48), (.ref b48), (.ref b47), (.ref b47)])
          refine Gl.st (fun _ kk => XS.iand X48.here hx rfl (hb hby at_181) rfl kk) ?_
          show Gl p e below s _ _ _ T48 (mkF m 182 #[.val (.long p1), .second, .val (.long p2), .second, .val (.long p3), .second, .val (.long p4), .second, .val (.int p5), .val (.int p6), .val (.ref w1), .val (.ref w2), .val (.ref u12), .val (.ref u13), .val (.ref b5), .val (.ref b10), .val .null, .unset, .unset, .unset] [(.int (((p6.toUInt32 >>> ((24 : Int32) &&& 31).toUInt32).toInt32) &&& (255 : Int32))), (.int (0 : Int32)), (.ref b48), (.ref b48), (.ref b47), (.ref b47)])
          refine Gl.st (fun _ kk => XS.i2c X48.here hx rfl (hb hby at_182) rfl kk) ?_
          show Gl p e below s _ _ _ T48 (mkF m 183 #[.val (.long p1), .second, .val (.long p2), .second, .val (.long p3), .second, .val (.long p4), .second, .val (.int p5), .val (.int p6), .val (.ref w1), .val (.ref w2), .val (.ref u12), .val (.ref u13), .val (.ref b5), .val (.ref b10), .val .null, .unset, .unset, .unset] [(.int ((((p6.toUInt32 >>> ((24 : Int32) &&& 31).toUInt32).toInt32) &&& (255 : Int32)).toUInt32.toUInt16.toUInt32.toInt32)), (.int (0 : Int32)), (.ref b48), (.ref b48), (.ref b47), (.ref b47)])
          obtain ⟨cl49, Ar49, q49, Sz49, Ng49, Ha49, Fi49⟩ := id Arv_b48
          have hin49 : ¬ ((0 : Int32) < 0 ∨ cl49.slots.size ≤ ((0 : Int32)).toNatClampNeg) := inb_of Sz49 ⟨by decide, by decide⟩
          obtain ⟨T49, h49, X49, e49, W49, st49⟩ := stC X48 hx hZ e48 Ar49 (j := (0 : Int32)) hin49 (g := (mkF m 183 #[.val (.long p1), .second, .val (.long p2), .second, .val (.long p3), .second, .val (.long p4), .second, .val (.int p5), .val (.int p6), .val (.ref w1), .val (.ref w2), .val (.ref u12), .val (.ref u13), .val (.ref b5), .val (.ref b10), .val .null, .unset, .unset, .unset] [(.int ((((p6.toUInt32 >>> ((24 : Int32) &&& 31).toUInt32).toInt32) &&& (255 : Int32)).toUInt32.toUInt16.toUInt32.toInt32)), (.int (0 : Int32)), (.ref b48), (.ref b48), (.ref b47), (.ref b47)])) rfl rfl (hb hby at_183)
          refine Gl.st st49 ?_
          have Arv_b48 : Arv Z h49 b48 k48 .char (1 : Int32) [(.int (nar .char ((((p6.toUInt32 >>> ((24 : Int32) &&& 31).toUInt32).toInt32) &&& (255 : Int32)).toUInt32.toUInt16.toUInt32.toInt32)))] (.int (0 : Int32)) := Arv.set Ar49 q49 Sz49 Ng49 Ha49 Fi49 (fits_nar_char _) W49 0 rfl (Nat.le_of_ble_eq_true rfl)
          have Exa_b47 := Exa_b47.wr W49
          have F_coder_b47 := F_coder_b47.other W49 (Or.inl ne_b47_b48)
          have F_value_b47 := F_value_b47.other W49 (Or.inl ne_b47_b48)
          have O49 := O48.wr W49 ge_b48
          have K49 := K48.wr W49 (Or.inr fr_b48)
          have N49 := Fr.snoc X49 N14 ge_b48
          show Gl p e below s _ _ _ T49 (mkF m 184 #[.val (.long p1), .second, .val (.long p2), .second, .val (.long p3), .second, .val (.long p4), .second, .val (.int p5), .val (.int p6), .val (.ref w1), .val (.ref w2), .val (.ref u12), .val (.ref u13), .val (.ref b5), .val (.ref b10), .val .null, .unset, .unset, .unset] [(.ref b48), (.ref b47), (.ref b47)])
          have hlat50 : ∀ c ∈ ([(nar .char ((((p6.toUInt32 >>> ((24 : Int32) &&& 31).toUInt32).toInt32) &&& (255 : Int32)).toUInt32.toUInt16.toUInt32.toInt32))] : List Int32), ¬ c < 0 ∧ ¬ (255 : Int32) < c := by
            intro c hc
            simp only [List.mem_cons, List.not_mem_nil, or_false] at hc
            rcases hc with rfl
            · rw [own_nar255]; exact own_and255 _
          obtain ⟨_, _, ⟨T51, L51, k51, n51⟩, -, X51, ⟨Lc51, hQ51, l51, y51, z51⟩, st51⟩ := X49.specialBack hx (y := (⟨"java/lang/String", "<init>", "([C)V"⟩ : MethodName)) rfl hown (mvT hZ (hw _ (List.mem_of_getElem? (i := 16) rfl))) (mvT hZ (hw _ (List.mem_of_getElem? (i := 17) rfl))) (mvT hZ (hw _ (List.mem_of_getElem? (i := 18) rfl))) (by decide) (StrChars.Road.backV (W := 1) hZ hws (kI := 4) (hw _ (List.mem_of_getElem? (i := 13) rfl)) (cs := [(nar .char ((((p6.toUInt32 >>> ((24 : Int32) &&& 31).toUInt32).toInt32) &&& (255 : Int32)).toUInt32.toUInt16.toUInt32.toInt32))]) (bs := [((nar .char ((((p6.toUInt32 >>> ((24 : Int32) &&& 31).toUInt32).toInt32) &&& (255 : Int32)).toUInt32.toUInt16.toUInt32.toInt32))).toInt8.toInt32]) (n := 1) ge_b47 (Nat.le_trans (Nat.le_of_eq O49.1.symm) O49.2.1) Exa_b47 F_value_b47 F_coder_b47 Arv_b48 (S_COMPACT.ext O49.2) hcz rfl rfl (by decide) (by decide) hlat50 rfl (by decide) (by decide)) (g := (mkF m 184 #[.val (.long p1), .second, .val (.long p2), .second, .val (.long p3), .second, .val (.long p4), .second, .val (.int p5), .val (.int p6), .val (.ref w1), .val (.ref w2), .val (.ref u12), .val (.ref u13), .val (.ref b5), .val (.ref b10), .val .null, .unset, .unset, .unset] [(.ref b48), (.ref b47), (.ref b47)])) rfl (by rw [hml]; rfl) (Steps.refl _) (a := b47) (argsL := [(.ref b48)]) (rest := [(.ref b47)]) (lenOf pd_rm0_1 rfl) rfl (by show 2 * 0 + _ ≤ _; exact Nat.le_of_eq rfl) (hb hby at_184) (fun _ _ => ⟨rfl, e49, (by decide : 8 + 1 ≤ _), (by decide : 17 + 1 ≤ _)⟩)
          dsimp only [Pt.U, Pt.locs, Pt.cells, Pt.slots] at X51 l51 y51 z51 st51 hQ51
          subst l51 y51 z51
          obtain ⟨h51, e51⟩ : ∃ z, T51.heap = z := ⟨_, rfl⟩
          rw [e51] at hQ51
          obtain ⟨rfl, Nq51, Kq51, Eq51, Cq51, t51, kb51, gt51, fr_t51, ne_t51, Fq51, Aq51⟩ := hQ51
          have N51 := Fr.app N49 Nq51
          refine Gl.st (fun _ kk => st51.trans kk) ?_
          have Exa_b47 := Exa_b47.keep Kq51
          have Arv_b48 := Arv_b48.keep Kq51 (ninS (Ne.symm ne_b47_b48) nin0)
          have O51 := O49.keep Kq51 (allS ge_b47 all0)
          have K51 := K49.trans Kq51 (allS (Or.inr fr_b47) all0)
          have F_coder_b47 := Cq51
          have F_value_b47 := Fq51
          have Arv_t51 := Aq51
          show Gl p e below s _ _ _ T51 (mkF m 187 #[.val (.long p1), .second, .val (.long p2), .second, .val (.long p3), .second, .val (.long p4), .second, .val (.int p5), .val (.int p6), .val (.ref w1), .val (.ref w2), .val (.ref u12), .val (.ref u13), .val (.ref b5), .val (.ref b10), .val .null, .unset, .unset, .unset] [(.ref b47)])
          refine Gl.st (fun _ kk => XS.astore X51.here hx rfl (hb hby at_187) rfl rfl (l' := #[.val (.long p1), .second, .val (.long p2), .second, .val (.long p3), .second, .val (.long p4), .second, .val (.int p5), .val (.int p6), .val (.ref w1), .val (.ref w2), .val (.ref u12), .val (.ref u13), .val (.ref b5), .val (.ref b10), .val .null, .val (.ref b47), .unset, .unset]) rfl kk) ?_
          show Gl p e below s _ _ _ T51 (mkF m 189 #[.val (.long p1), .second, .val (.long p2), .second, .val (.long p3), .second, .val (.long p4), .second, .val (.int p5), .val (.int p6), .val (.ref w1), .val (.ref w2), .val (.ref u12), .val (.ref u13), .val (.ref b5), .val (.ref b10), .val .null, .val (.ref b47), .unset, .unset] [])
          obtain ⟨T52, h52, X52, e52, E52, A52, D52, V52, st52⟩ := newO X51 hx hZ hown (hw _ (List.mem_of_getElem? (i := 42) rfl)) (hw _ (List.mem_of_getElem? (i := 43) rfl)) (hw _ (List.mem_of_getElem? (i := 44) rfl)) e51 (g := (mkF m 189 #[.val (.long p1), .second, .val (.long p2), .second, .val (.long p3), .second, .val (.long p4), .second, .val (.int p5), .val (.int p6), .val (.ref w1), .val (.ref w2), .val (.ref u12), .val (.ref u13), .val (.ref b5), .val (.ref b10), .val .null, .val (.ref b47), .unset, .unset] [])) rfl (hb hby at_189) (by decide) (by decide)
          obtain ⟨b52, g52⟩ : ∃ z, z = h51.size := ⟨_, rfl⟩
          rw [← g52] at A52 D52 V52 st52
          refine Gl.st st52 ?_
          have ge_b52 : n0 ≤ b52 := Nat.le_trans (Nat.le_trans (Nat.le_of_eq O51.1.symm) O51.2.1) (Nat.le_of_eq g52.symm)
          have fr_b52 : h0.size ≤ b52 := Nat.le_trans K51.1 (Nat.le_of_eq g52.symm)
          have O52 := O51.ext E52
          have K52 := K51.ext E52
          have Exa_b52 := A52
          have F_id_b52 : Fld Z h52 b52 "com/example/always_once/alwaysonce/ledger/Job" "id" "J" (.long (0 : Int64)) := D52 (Or.inr (hw _ (List.mem_of_getElem? (i := 55) rfl))) (ty := .long) (by decide)
          have F_definition_b52 : Fld Z h52 b52 "com/example/always_once/alwaysonce/ledger/Job" "definition" "Ljava/lang/String;" .null := D52 (Or.inr (hw _ (List.mem_of_getElem? (i := 57) rfl))) (ty := (.object "java/lang/String")) (by decide)
          have F_file_b52 : Fld Z h52 b52 "com/example/always_once/alwaysonce/ledger/Job" "file" "Ljava/lang/String;" .null := D52 (Or.inr (hw _ (List.mem_of_getElem? (i := 59) rfl))) (ty := (.object "java/lang/String")) (by decide)
          have F_status_b52 : Fld Z h52 b52 "com/example/always_once/alwaysonce/ledger/Job" "status" "Lcom/example/always_once/alwaysonce/ledger/JobStatus;" .null := D52 (Or.inr (hw _ (List.mem_of_getElem? (i := 61) rfl))) (ty := (.object "com/example/always_once/alwaysonce/ledger/JobStatus")) (by decide)
          have F_counts_b52 : Fld Z h52 b52 "com/example/always_once/alwaysonce/ledger/Job" "counts" "Lcom/example/always_once/alwaysonce/ledger/JobCounts;" .null := D52 (Or.inr (hw _ (List.mem_of_getElem? (i := 63) rfl))) (ty := (.object "com/example/always_once/alwaysonce/ledger/JobCounts")) (by decide)
          have F_size_b52 : Fld Z h52 b52 "com/example/always_once/alwaysonce/ledger/Job" "size" "J" (.long (0 : Int64)) := D52 (Or.inr (hw _ (List.mem_of_getElem? (i := 65) rfl))) (ty := .long) (by decide)
          have F_read_b52 : Fld Z h52 b52 "com/example/always_once/alwaysonce/ledger/Job" "read" "J" (.long (0 : Int64)) := D52 (Or.inr (hw _ (List.mem_of_getElem? (i := 67) rfl))) (ty := .long) (by decide)
          have F_failure_b52 : Fld Z h52 b52 "com/example/always_once/alwaysonce/ledger/Job" "failure" "Ljava/lang/String;" .null := D52 (Or.inr (hw _ (List.mem_of_getElem? (i := 69) rfl))) (ty := (.object "java/lang/String")) (by decide)
          show Gl p e below s _ _ _ T52 (mkF m 192 #[.val (.long p1), .second, .val (.long p2), .second, .val (.long p3), .second, .val (.long p4), .second, .val (.int p5), .val (.int p6), .val (.ref w1), .val (.ref w2), .val (.ref u12), .val (.ref u13), .val (.ref b5), .val (.ref b10), .val .null, .val (.ref b47), .unset, .unset] [(.ref b52)])
          refine Gl.st (fun _ kk => XS.dup X52.here hx rfl (hb hby at_192) rfl rfl kk) ?_
          show Gl p e below s _ _ _ T52 (mkF m 193 #[.val (.long p1), .second, .val (.long p2), .second, .val (.long p3), .second, .val (.long p4), .second, .val (.int p5), .val (.int p6), .val (.ref w1), .val (.ref w2), .val (.ref u12), .val (.ref u13), .val (.ref b5), .val (.ref b10), .val .null, .val (.ref b47), .unset, .unset] [(.ref b52), (.ref b52)])
          refine Gl.st (fun _ kk => XS.lloadN X52.here hx rfl (hb hby at_193) rfl kk) ?_
          show Gl p e below s _ _ _ T52 (mkF m 194 #[.val (.long p1), .second, .val (.long p2), .second, .val (.long p3), .second, .val (.long p4), .second, .val (.int p5), .val (.int p6), .val (.ref w1), .val (.ref w2), .val (.ref u12), .val (.ref u13), .val (.ref b5), .val (.ref b10), .val .null, .val (.ref b47), .unset, .unset] [(.long p1), (.ref b52), (.ref b52)])
          refine Gl.st (fun _ kk => XS.aload X52.here hx rfl (hb hby at_194) rfl rfl kk) ?_
          show Gl p e below s _ _ _ T52 (mkF m 196 #[.val (.long p1), .second, .val (.long p2), .second, .val (.long p3), .second, .val (.long p4), .second, .val (.int p5), .val (.int p6), .val (.ref w1), .val (.ref w2), .val (.ref u12), .val (.ref u13), .val (.ref b5), .val (.ref b10), .val .null, .val (.ref b47), .unset, .unset] [(.ref b5), (.long p1), (.ref b52), (.ref b52)])
          refine Gl.st (fun _ kk => XS.aload X52.here hx rfl (hb hby at_196) rfl rfl kk) ?_
          show Gl p e below s _ _ _ T52 (mkF m 198 #[.val (.long p1), .second, .val (.long p2), .second, .val (.long p3), .second, .val (.long p4), .second, .val (.int p5), .val (.int p6), .val (.ref w1), .val (.ref w2), .val (.ref u12), .val (.ref u13), .val (.ref b5), .val (.ref b10), .val .null, .val (.ref b47), .unset, .unset] [(.ref b10), (.ref b5), (.long p1), (.ref b52), (.ref b52)])
          refine Gl.st (fun _ kk => XS.aload X52.here hx rfl (hb hby at_198) rfl rfl kk) ?_
          show Gl p e below s _ _ _ T52 (mkF m 200 #[.val (.long p1), .second, .val (.long p2), .second, .val (.long p3), .second, .val (.long p4), .second, .val (.int p5), .val (.int p6), .val (.ref w1), .val (.ref w2), .val (.ref u12), .val (.ref u13), .val (.ref b5), .val (.ref b10), .val .null, .val (.ref b47), .unset, .unset] [(.ref w1), (.ref b10), (.ref b5), (.long p1), (.ref b52), (.ref b52)])
          refine Gl.st (fun _ kk => XS.aload X52.here hx rfl (hb hby at_200) rfl rfl kk) ?_
          show Gl p e below s _ _ _ T52 (mkF m 202 #[.val (.long p1), .second, .val (.long p2), .second, .val (.long p3), .second, .val (.long p4), .second, .val (.int p5), .val (.int p6), .val (.ref w1), .val (.ref w2), .val (.ref u12), .val (.ref u13), .val (.ref b5), .val (.ref b10), .val .null, .val (.ref b47), .unset, .unset] [(.ref u12), (.ref w1), (.ref b10), (.ref b5), (.long p1), (.ref b52), (.ref b52)])
          refine Gl.st (fun _ kk => XS.lloadN X52.here hx rfl (hb hby at_202) rfl kk) ?_
          show Gl p e below s _ _ _ T52 (mkF m 203 #[.val (.long p1), .second, .val (.long p2), .second, .val (.long p3), .second, .val (.long p4), .second, .val (.int p5), .val (.int p6), .val (.ref w1), .val (.ref w2), .val (.ref u12), .val (.ref u13), .val (.ref b5), .val (.ref b10), .val .null, .val (.ref b47), .unset, .unset] [(.long p2), (.ref u12), (.ref w1), (.ref b10), (.ref b5), (.long p1), (.ref b52), (.ref b52)])
          refine Gl.st (fun _ kk => XS.lload X52.here hx rfl (hb hby at_203) rfl kk) ?_
          show Gl p e below s _ _ _ T52 (mkF m 205 #[.val (.long p1), .second, .val (.long p2), .second, .val (.long p3), .second, .val (.long p4), .second, .val (.int p5), .val (.int p6), .val (.ref w1), .val (.ref w2), .val (.ref u12), .val (.ref u13), .val (.ref b5), .val (.ref b10), .val .null, .val (.ref b47), .unset, .unset] [(.long p3), (.long p2), (.ref u12), (.ref w1), (.ref b10), (.ref b5), (.long p1), (.ref b52), (.ref b52)])
          refine Gl.st (fun _ kk => XS.aload X52.here hx rfl (hb hby at_205) rfl rfl kk) ?_
          show Gl p e below s _ _ _ T52 (mkF m 207 #[.val (.long p1), .second, .val (.long p2), .second, .val (.long p3), .second, .val (.long p4), .second, .val (.int p5), .val (.int p6), .val (.ref w1), .val (.ref w2), .val (.ref u12), .val (.ref u13), .val (.ref b5), .val (.ref b10), .val .null, .val (.ref b47), .unset, .unset] [.null, (.long p3), (.long p2), (.ref u12), (.ref w1), (.ref b10), (.ref b5), (.long p1), (.ref b52), (.ref b52)])
          obtain ⟨_, _, ⟨T53, L53, k53, n53⟩, -, X53, ⟨Lc53, hQ53, l53, y53, z53⟩, st53⟩ := X52.specialBack hx (y := (⟨"com/example/always_once/alwaysonce/ledger/Job", "<init>", "(JLjava/lang/String;Ljava/lang/String;Lcom/example/always_once/alwaysonce/ledger/JobStatus;Lcom/example/always_once/alwaysonce/ledger/JobCounts;JJLjava/lang/String;)V"⟩ : MethodName)) rfl hown (mvT hZ (hw _ (List.mem_of_getElem? (i := 45) rfl))) (mvT hZ (hw _ (List.mem_of_getElem? (i := 46) rfl))) (mvT hZ (hw _ (List.mem_of_getElem? (i := 47) rfl))) (by decide) (backOf (W := 1) (rmIn l Z a0 hw [] b52 p1 b5 b10 w1 u12 p2 p3 h52 n0 O52 Exa_b52 F_id_b52 F_definition_b52 F_file_b52 F_status_b52 F_counts_b52 F_size_b52 F_read_b52 F_failure_b52 ge_b52) hZ (hw _ (List.mem_of_getElem? (i := 47) rfl)) (hw _ (List.mem_of_getElem? (i := 44) rfl)) (by decide) (by decide)) (g := (mkF m 207 #[.val (.long p1), .second, .val (.long p2), .second, .val (.long p3), .second, .val (.long p4), .second, .val (.int p5), .val (.int p6), .val (.ref w1), .val (.ref w2), .val (.ref u12), .val (.ref u13), .val (.ref b5), .val (.ref b10), .val .null, .val (.ref b47), .unset, .unset] [.null, (.long p3), (.long p2), (.ref u12), (.ref w1), (.ref b10), (.ref b5), (.long p1), (.ref b52), (.ref b52)])) rfl (by rw [hml]; rfl) (Steps.refl _) (a := b52) (argsL := [(.long p1), (.ref b5), (.ref b10), (.ref w1), (.ref u12), (.long p2), (.long p3), .null]) (rest := [(.ref b52)]) (lenOf pd_rm0_2 rfl) rfl (by show 2 * 0 + _ ≤ _; exact Nat.le_of_eq rfl) (hb hby at_207) (fun _ _ => ⟨rfl, e52, (by decide : 10 + 0 ≤ _), (by decide : 26 + 0 ≤ _)⟩)
          dsimp only [Pt.U, Pt.locs, Pt.cells, Pt.slots] at X53 l53 y53 z53 st53 hQ53
          subst l53 y53 z53
          obtain ⟨h53, e53⟩ : ∃ z, T53.heap = z := ⟨_, rfl⟩
          rw [e53] at hQ53
          obtain ⟨rfl, Nq53, Kq53, F_id_q53, F_definition_q53, F_file_q53, F_status_q53, F_counts_q53, F_size_q53, F_read_q53, F_failure_q53⟩ := hQ53
          have N53 := Fr.app N51 Nq53
          refine Gl.st (fun _ kk => st53.trans kk) ?_
          have Exa_b52 := Exa_b52.keep Kq53
          have O53 := O52.keep Kq53 (allS ge_b52 all0)
          have K53 := K52.trans Kq53 (allS (Or.inr fr_b52) all0)
          have F_id_b52 := F_id_q53
          have F_definition_b52 := F_definition_q53
          have F_file_b52 := F_file_q53
          have F_status_b52 := F_status_q53
          have F_counts_b52 := F_counts_q53
          have F_size_b52 := F_size_q53
          have F_read_b52 := F_read_q53
          have F_failure_b52 := F_failure_q53
          show Gl p e below s _ _ _ T53 (mkF m 210 #[.val (.long p1), .second, .val (.long p2), .second, .val (.long p3), .second, .val (.long p4), .second, .val (.int p5), .val (.int p6), .val (.ref w1), .val (.ref w2), .val (.ref u12), .val (.ref u13), .val (.ref b5), .val (.ref b10), .val .null, .val (.ref b47), .unset, .unset] [(.ref b52)])
          refine Gl.st (fun _ kk => XS.astore X53.here hx rfl (hb hby at_210) rfl rfl (l' := #[.val (.long p1), .second, .val (.long p2), .second, .val (.long p3), .second, .val (.long p4), .second, .val (.int p5), .val (.int p6), .val (.ref w1), .val (.ref w2), .val (.ref u12), .val (.ref u13), .val (.ref b5), .val (.ref b10), .val .null, .val (.ref b47), .val (.ref b52), .unset]) rfl kk) ?_
          show Gl p e below s _ _ _ T53 (mkF m 212 #[.val (.long p1), .second, .val (.long p2), .second, .val (.long p3), .second, .val (.long p4), .second, .val (.int p5), .val (.int p6), .val (.ref w1), .val (.ref w2), .val (.ref u12), .val (.ref u13), .val (.ref b5), .val (.ref b10), .val .null, .val (.ref b47), .val (.ref b52), .unset] [])
          refine Gl.st (fun _ kk => XS.aload X53.here hx rfl (hb hby at_212) rfl rfl kk) ?_
          show Gl p e below s _ _ _ T53 (mkF m 214 #[.val (.long p1), .second, .val (.long p2), .second, .val (.long p3), .second, .val (.long p4), .second, .val (.int p5), .val (.int p6), .val (.ref w1), .val (.ref w2), .val (.ref u12), .val (.ref u13), .val (.ref b5), .val (.ref b10), .val .null, .val (.ref b47), .val (.ref b52), .unset] [(.ref b52)])
          refine Gl.st (fun _ kk => XS.aload X53.here hx rfl (hb hby at_214) rfl rfl kk) ?_
          show Gl p e below s _ _ _ T53 (mkF m 216 #[.val (.long p1), .second, .val (.long p2), .second, .val (.long p3), .second, .val (.long p4), .second, .val (.int p5), .val (.int p6), .val (.ref w1), .val (.ref w2), .val (.ref u12), .val (.ref u13), .val (.ref b5), .val (.ref b10), .val .null, .val (.ref b47), .val (.ref b52), .unset] [(.ref w2), (.ref b52)])
          refine Gl.st (fun _ kk => XS.aload X53.here hx rfl (hb hby at_216) rfl rfl kk) ?_
          show Gl p e below s _ _ _ T53 (mkF m 218 #[.val (.long p1), .second, .val (.long p2), .second, .val (.long p3), .second, .val (.long p4), .second, .val (.int p5), .val (.int p6), .val (.ref w1), .val (.ref w2), .val (.ref u12), .val (.ref u13), .val (.ref b5), .val (.ref b10), .val .null, .val (.ref b47), .val (.ref b52), .unset] [(.ref u13), (.ref w2), (.ref b52)])
          refine Gl.st (fun _ kk => XS.lload X53.here hx rfl (hb hby at_218) rfl kk) ?_
          show Gl p e below s _ _ _ T53 (mkF m 220 #[.val (.long p1), .second, .val (.long p2), .second, .val (.long p3), .second, .val (.long p4), .second, .val (.int p5), .val (.int p6), .val (.ref w1), .val (.ref w2), .val (.ref u12), .val (.ref u13), .val (.ref b5), .val (.ref b10), .val .null, .val (.ref b47), .val (.ref b52), .unset] [(.long p4), (.ref u13), (.ref w2), (.ref b52)])
          refine Gl.st (fun _ kk => XS.aload X53.here hx rfl (hb hby at_220) rfl rfl kk) ?_
          show Gl p e below s _ _ _ T53 (mkF m 222 #[.val (.long p1), .second, .val (.long p2), .second, .val (.long p3), .second, .val (.long p4), .second, .val (.int p5), .val (.int p6), .val (.ref w1), .val (.ref w2), .val (.ref u12), .val (.ref u13), .val (.ref b5), .val (.ref b10), .val .null, .val (.ref b47), .val (.ref b52), .unset] [(.ref b47), (.long p4), (.ref u13), (.ref w2), (.ref b52)])
          obtain ⟨cq54, kq54, qa54, qb54, qc54⟩ := isOf hZ e53 Exa_b52
          obtain ⟨_, _, ⟨T54, L54, k54, n54⟩, -, X54, ⟨Lc54, hQ54, l54, y54, z54⟩, st54⟩ := X53.virtualBack hx (y := (⟨"com/example/always_once/alwaysonce/ledger/Job", "with", "(Lcom/example/always_once/alwaysonce/ledger/JobStatus;Lcom/example/always_once/alwaysonce/ledger/JobCounts;JLjava/lang/String;)Lcom/example/always_once/alwaysonce/ledger/Job;"⟩ : MethodName)) (z := (⟨"com/example/always_once/alwaysonce/ledger/Job", "with", "(Lcom/example/always_once/alwaysonce/ledger/JobStatus;Lcom/example/always_once/alwaysonce/ledger/JobCounts;JLjava/lang/String;)Lcom/example/always_once/alwaysonce/ledger/Job;"⟩ : MethodName)) hown (mvT hZ (hw _ (List.mem_of_getElem? (i := 70) rfl))) (mvT hZ (hw _ (List.mem_of_getElem? (i := 71) rfl))) (notFace_of_selects (args := #[]) (mvT hZ (hw _ (List.mem_of_getElem? (i := 73) rfl)))) (mvT hZ (hw _ (List.mem_of_getElem? (i := 73) rfl))) (mvT hZ (hw _ (List.mem_of_getElem? (i := 72) rfl))) (by decide) (backOf (W := 0) (rmWr l Z a0 hw [] b52 w2 u13 p4 b47 p1 b5 b10 p2 h53 n0 O53 F_id_b52 F_definition_b52 F_file_b52 F_size_b52) hZ (hw _ (List.mem_of_getElem? (i := 74) rfl)) (hw _ (List.mem_of_getElem? (i := 44) rfl)) (by decide) (by decide)) qa54 qc54 (g := (mkF m 222 #[.val (.long p1), .second, .val (.long p2), .second, .val (.long p3), .second, .val (.long p4), .second, .val (.int p5), .val (.int p6), .val (.ref w1), .val (.ref w2), .val (.ref u12), .val (.ref u13), .val (.ref b5), .val (.ref b10), .val .null, .val (.ref b47), .val (.ref b52), .unset] [(.ref b47), (.long p4), (.ref u13), (.ref w2), (.ref b52)])) rfl (by rw [hml]; rfl) (Steps.refl _) (argsL := [(.ref w2), (.ref u13), (.long p4), (.ref b47)]) (rest := []) (lenOf pd_rm0_3 rfl) rfl (by show 2 * 0 + _ ≤ _; exact Nat.le_of_eq rfl) (hb hby at_222) (fun _ _ => ⟨rfl, e53, (by decide : 10 + 1 ≤ _), (by decide : 26 + 8 ≤ _)⟩)
          dsimp only [Pt.U, Pt.locs, Pt.cells, Pt.slots] at X54 l54 y54 z54 st54 hQ54
          subst l54 y54 z54
          obtain ⟨h54, e54⟩ : ∃ z, T54.heap = z := ⟨_, rfl⟩
          rw [e54] at hQ54
          obtain ⟨b54, rfl, Nq54, Kq54, Exa_b54, F_id_b54, F_definition_b54, F_file_b54, F_status_b54, F_counts_b54, F_size_b54, F_read_b54, F_failure_b54, gb54, frb54⟩ := hQ54
          have N54 := Fr.app N53 Nq54
          refine Gl.st (fun _ kk => st54.trans kk) ?_
          have Exa_b52 := Exa_b52.keep Kq54
          have F_id_b52 := F_id_b52.keep Kq54 nin0
          have F_definition_b52 := F_definition_b52.keep Kq54 nin0
          have F_file_b52 := F_file_b52.keep Kq54 nin0
          have F_status_b52 := F_status_b52.keep Kq54 nin0
          have F_counts_b52 := F_counts_b52.keep Kq54 nin0
          have F_size_b52 := F_size_b52.keep Kq54 nin0
          have F_read_b52 := F_read_b52.keep Kq54 nin0
          have F_failure_b52 := F_failure_b52.keep Kq54 nin0
          have O54 := O53.keep Kq54 all0
          have K54 := K53.trans Kq54 all0
          show Gl p e below s _ _ _ T54 (mkF m 225 #[.val (.long p1), .second, .val (.long p2), .second, .val (.long p3), .second, .val (.long p4), .second, .val (.int p5), .val (.int p6), .val (.ref w1), .val (.ref w2), .val (.ref u12), .val (.ref u13), .val (.ref b5), .val (.ref b10), .val .null, .val (.ref b47), .val (.ref b52), .unset] [(.ref b54)])
          refine Gl.st (fun _ kk => XS.astore X54.here hx rfl (hb hby at_225) rfl rfl (l' := #[.val (.long p1), .second, .val (.long p2), .second, .val (.long p3), .second, .val (.long p4), .second, .val (.int p5), .val (.int p6), .val (.ref w1), .val (.ref w2), .val (.ref u12), .val (.ref u13), .val (.ref b5), .val (.ref b10), .val .null, .val (.ref b47), .val (.ref b52), .val (.ref b54)]) rfl kk) ?_
          show Gl p e below s _ _ _ T54 (mkF m 227 #[.val (.long p1), .second, .val (.long p2), .second, .val (.long p3), .second, .val (.long p4), .second, .val (.int p5), .val (.int p6), .val (.ref w1), .val (.ref w2), .val (.ref u12), .val (.ref u13), .val (.ref b5), .val (.ref b10), .val .null, .val (.ref b47), .val (.ref b52), .val (.ref b54)] [])
          refine Gl.st (fun _ kk => XS.aload X54.here hx rfl (hb hby at_227) rfl rfl kk) ?_
          show Gl p e below s _ _ _ T54 (mkF m 229 #[.val (.long p1), .second, .val (.long p2), .second, .val (.long p3), .second, .val (.long p4), .second, .val (.int p5), .val (.int p6), .val (.ref w1), .val (.ref w2), .val (.ref u12), .val (.ref u13), .val (.ref b5), .val (.ref b10), .val .null, .val (.ref b47), .val (.ref b52), .val (.ref b54)] [(.ref b54)])
          obtain ⟨cq55, kq55, qa55, qb55, qc55⟩ := isOf hZ e54 Exa_b54
          obtain ⟨_, _, ⟨T55, L55, k55, n55⟩, -, X55, ⟨Lc55, hQ55, l55, y55, z55⟩, st55⟩ := X54.virtualBack hx (y := (⟨"com/example/always_once/alwaysonce/ledger/Job", "id", "()J"⟩ : MethodName)) (z := (⟨"com/example/always_once/alwaysonce/ledger/Job", "id", "()J"⟩ : MethodName)) hown (mvT hZ (hw _ (List.mem_of_getElem? (i := 77) rfl))) (mvT hZ (hw _ (List.mem_of_getElem? (i := 78) rfl))) (notFace_of_selects (args := #[]) (mvT hZ (hw _ (List.mem_of_getElem? (i := 80) rfl)))) (mvT hZ (hw _ (List.mem_of_getElem? (i := 80) rfl))) (mvT hZ (hw _ (List.mem_of_getElem? (i := 79) rfl))) (by decide) (backOf (W := 0) (rmA_id l Z a0 hw [] b54 p1 h54 n0 O54 F_id_b54) hZ (hw _ (List.mem_of_getElem? (i := 81) rfl)) (hw _ (List.mem_of_getElem? (i := 44) rfl)) (by decide) (by decide)) qa55 qc55 (g := (mkF m 229 #[.val (.long p1), .second, .val (.long p2), .second, .val (.long p3), .second, .val (.long p4), .second, .val (.int p5), .val (.int p6), .val (.ref w1), .val (.ref w2), .val (.ref u12), .val (.ref u13), .val (.ref b5), .val (.ref b10), .val .null, .val (.ref b47), .val (.ref b52), .val (.ref b54)] [(.ref b54)])) rfl (by rw [hml]; rfl) (Steps.refl _) (argsL := []) (rest := []) (lenOf pd_rm0_4 rfl) rfl (by show 2 * 0 + _ ≤ _; exact Nat.le_of_eq rfl) (hb hby at_229) (fun _ _ => ⟨rfl, e54, (by decide : 11 + 0 ≤ _), (by decide : 34 + 0 ≤ _)⟩)
          dsimp only [Pt.U, Pt.locs, Pt.cells, Pt.slots] at X55 l55 y55 z55 st55 hQ55
          subst l55 y55 z55
          obtain ⟨rfl, Nq55, e55⟩ := hQ55
          have N55 := Fr.app N54 Nq55
          refine Gl.st (fun _ kk => st55.trans kk) ?_
          show Gl p e below s _ _ _ T55 (mkF m 232 #[.val (.long p1), .second, .val (.long p2), .second, .val (.long p3), .second, .val (.long p4), .second, .val (.int p5), .val (.int p6), .val (.ref w1), .val (.ref w2), .val (.ref u12), .val (.ref u13), .val (.ref b5), .val (.ref b10), .val .null, .val (.ref b47), .val (.ref b52), .val (.ref b54)] [(.long p1)])
          refine Gl.st (fun _ kk => XS.lloadN X55.here hx rfl (hb hby at_232) rfl kk) ?_
          show Gl p e below s _ _ _ T55 (mkF m 233 #[.val (.long p1), .second, .val (.long p2), .second, .val (.long p3), .second, .val (.long p4), .second, .val (.int p5), .val (.int p6), .val (.ref w1), .val (.ref w2), .val (.ref u12), .val (.ref u13), .val (.ref b5), .val (.ref b10), .val .null, .val (.ref b47), .val (.ref b52), .val (.ref b54)] [(.long p1), (.long p1)])
          refine Gl.st (fun _ kk => XS.lcmp X55.here hx rfl (hb hby at_233) rfl kk) ?_
          show Gl p e below s _ _ _ T55 (mkF m 234 #[.val (.long p1), .second, .val (.long p2), .second, .val (.long p3), .second, .val (.long p4), .second, .val (.int p5), .val (.int p6), .val (.ref w1), .val (.ref w2), .val (.ref u12), .val (.ref u13), .val (.ref b5), .val (.ref b10), .val .null, .val (.ref b47), .val (.ref b52), .val (.ref b54)] [(.int (lcmpW p1 p1))])
          refine Gl.st (fun _ kk => XS.ifNo X55.here hx rfl (hb hby at_234) rfl ((if0 _ _).trans (teq ((lw_eq _ _).mpr rfl : (lcmpW p1 p1) = (0 : Int32))).2) kk) ?_
          show Gl p e below s _ _ _ T55 (mkF m 237 #[.val (.long p1), .second, .val (.long p2), .second, .val (.long p3), .second, .val (.long p4), .second, .val (.int p5), .val (.int p6), .val (.ref w1), .val (.ref w2), .val (.ref u12), .val (.ref u13), .val (.ref b5), .val (.ref b10), .val .null, .val (.ref b47), .val (.ref b52), .val (.ref b54)] [])
          refine Gl.st (fun _ kk => XS.aload X55.here hx rfl (hb hby at_237) rfl rfl kk) ?_
          show Gl p e below s _ _ _ T55 (mkF m 239 #[.val (.long p1), .second, .val (.long p2), .second, .val (.long p3), .second, .val (.long p4), .second, .val (.int p5), .val (.int p6), .val (.ref w1), .val (.ref w2), .val (.ref u12), .val (.ref u13), .val (.ref b5), .val (.ref b10), .val .null, .val (.ref b47), .val (.ref b52), .val (.ref b54)] [(.ref b54)])
          obtain ⟨cq56, kq56, qa56, qb56, qc56⟩ := isOf hZ e55 Exa_b54
          obtain ⟨_, _, ⟨T56, L56, k56, n56⟩, -, X56, ⟨Lc56, hQ56, l56, y56, z56⟩, st56⟩ := X55.virtualBack hx (y := (⟨"com/example/always_once/alwaysonce/ledger/Job", "definition", "()Ljava/lang/String;"⟩ : MethodName)) (z := (⟨"com/example/always_once/alwaysonce/ledger/Job", "definition", "()Ljava/lang/String;"⟩ : MethodName)) hown (mvT hZ (hw _ (List.mem_of_getElem? (i := 82) rfl))) (mvT hZ (hw _ (List.mem_of_getElem? (i := 83) rfl))) (notFace_of_selects (args := #[]) (mvT hZ (hw _ (List.mem_of_getElem? (i := 85) rfl)))) (mvT hZ (hw _ (List.mem_of_getElem? (i := 85) rfl))) (mvT hZ (hw _ (List.mem_of_getElem? (i := 84) rfl))) (by decide) (backOf (W := 0) (rmA_definition l Z a0 hw [] b54 b5 h54 n0 O54 F_definition_b54) hZ (hw _ (List.mem_of_getElem? (i := 86) rfl)) (hw _ (List.mem_of_getElem? (i := 44) rfl)) (by decide) (by decide)) qa56 qc56 (g := (mkF m 239 #[.val (.long p1), .second, .val (.long p2), .second, .val (.long p3), .second, .val (.long p4), .second, .val (.int p5), .val (.int p6), .val (.ref w1), .val (.ref w2), .val (.ref u12), .val (.ref u13), .val (.ref b5), .val (.ref b10), .val .null, .val (.ref b47), .val (.ref b52), .val (.ref b54)] [(.ref b54)])) rfl (by rw [hml]; rfl) (Steps.refl _) (argsL := []) (rest := []) (lenOf pd_rm0_5 rfl) rfl (by show 2 * 0 + _ ≤ _; exact Nat.le_of_eq rfl) (hb hby at_239) (fun _ _ => ⟨rfl, e55, (by decide : 11 + 0 ≤ _), (by decide : 34 + 0 ≤ _)⟩)
          dsimp only [Pt.U, Pt.locs, Pt.cells, Pt.slots] at X56 l56 y56 z56 st56 hQ56
          subst l56 y56 z56
          obtain ⟨rfl, Nq56, e56⟩ := hQ56
          have N56 := Fr.app N55 Nq56
          refine Gl.st (fun _ kk => st56.trans kk) ?_
          show Gl p e below s _ _ _ T56 (mkF m 242 #[.val (.long p1), .second, .val (.long p2), .second, .val (.long p3), .second, .val (.long p4), .second, .val (.int p5), .val (.int p6), .val (.ref w1), .val (.ref w2), .val (.ref u12), .val (.ref u13), .val (.ref b5), .val (.ref b10), .val .null, .val (.ref b47), .val (.ref b52), .val (.ref b54)] [(.ref b5)])
          refine Gl.st (fun _ kk => XS.aload X56.here hx rfl (hb hby at_242) rfl rfl kk) ?_
          show Gl p e below s _ _ _ T56 (mkF m 244 #[.val (.long p1), .second, .val (.long p2), .second, .val (.long p3), .second, .val (.long p4), .second, .val (.int p5), .val (.int p6), .val (.ref w1), .val (.ref w2), .val (.ref u12), .val (.ref u13), .val (.ref b5), .val (.ref b10), .val .null, .val (.ref b47), .val (.ref b52), .val (.ref b54)] [(.ref b5), (.ref b5)])
          refine Gl.st (fun _ kk => Jvm.RoadKit.acmp (g := (mkF m 244 #[.val (.long p1), .second, .val (.long p2), .second, .val (.long p3), .second, .val (.long p4), .second, .val (.int p5), .val (.int p6), .val (.ref w1), .val (.ref w2), .val (.ref u12), .val (.ref u13), .val (.ref b5), .val (.ref b10), .val .null, .val (.ref b47), .val (.ref b52), .val (.ref b54)] [(.ref b5), (.ref b5)])) X56 hx rfl rfl rfl (pc0 := 244) (pc' := 247) (same := true) rfl (hb hby at_244) rfl (decide_eq_true rfl) (by decide) (by decide) kk) ?_
          show Gl p e below s _ _ _ T56 (mkF m 247 #[.val (.long p1), .second, .val (.long p2), .second, .val (.long p3), .second, .val (.long p4), .second, .val (.int p5), .val (.int p6), .val (.ref w1), .val (.ref w2), .val (.ref u12), .val (.ref u13), .val (.ref b5), .val (.ref b10), .val .null, .val (.ref b47), .val (.ref b52), .val (.ref b54)] [])
          refine Gl.st (fun _ kk => XS.aload X56.here hx rfl (hb hby at_247) rfl rfl kk) ?_
          show Gl p e below s _ _ _ T56 (mkF m 249 #[.val (.long p1), .second, .val (.long p2), .second, .val (.long p3), .second, .val (.long p4), .second, .val (.int p5), .val (.int p6), .val (.ref w1), .val (.ref w2), .val (.ref u12), .val (.ref u13), .val (.ref b5), .val (.ref b10), .val .null, .val (.ref b47), .val (.ref b52), .val (.ref b54)] [(.ref b54)])
          obtain ⟨cq57, kq57, qa57, qb57, qc57⟩ := isOf hZ e56 Exa_b54
          obtain ⟨_, _, ⟨T57, L57, k57, n57⟩, -, X57, ⟨Lc57, hQ57, l57, y57, z57⟩, st57⟩ := X56.virtualBack hx (y := (⟨"com/example/always_once/alwaysonce/ledger/Job", "file", "()Ljava/lang/String;"⟩ : MethodName)) (z := (⟨"com/example/always_once/alwaysonce/ledger/Job", "file", "()Ljava/lang/String;"⟩ : MethodName)) hown (mvT hZ (hw _ (List.mem_of_getElem? (i := 87) rfl))) (mvT hZ (hw _ (List.mem_of_getElem? (i := 88) rfl))) (notFace_of_selects (args := #[]) (mvT hZ (hw _ (List.mem_of_getElem? (i := 90) rfl)))) (mvT hZ (hw _ (List.mem_of_getElem? (i := 90) rfl))) (mvT hZ (hw _ (List.mem_of_getElem? (i := 89) rfl))) (by decide) (backOf (W := 0) (rmA_file l Z a0 hw [] b54 b10 h54 n0 O54 F_file_b54) hZ (hw _ (List.mem_of_getElem? (i := 91) rfl)) (hw _ (List.mem_of_getElem? (i := 44) rfl)) (by decide) (by decide)) qa57 qc57 (g := (mkF m 249 #[.val (.long p1), .second, .val (.long p2), .second, .val (.long p3), .second, .val (.long p4), .second, .val (.int p5), .val (.int p6), .val (.ref w1), .val (.ref w2), .val (.ref u12), .val (.ref u13), .val (.ref b5), .val (.ref b10), .val .null, .val (.ref b47), .val (.ref b52), .val (.ref b54)] [(.ref b54)])) rfl (by rw [hml]; rfl) (Steps.refl _) (argsL := []) (rest := []) (lenOf pd_rm0_5 rfl) rfl (by show 2 * 0 + _ ≤ _; exact Nat.le_of_eq rfl) (hb hby at_249) (fun _ _ => ⟨rfl, e56, (by decide : 11 + 0 ≤ _), (by decide : 34 + 0 ≤ _)⟩)
          dsimp only [Pt.U, Pt.locs, Pt.cells, Pt.slots] at X57 l57 y57 z57 st57 hQ57
          subst l57 y57 z57
          obtain ⟨rfl, Nq57, e57⟩ := hQ57
          have N57 := Fr.app N56 Nq57
          refine Gl.st (fun _ kk => st57.trans kk) ?_
          show Gl p e below s _ _ _ T57 (mkF m 252 #[.val (.long p1), .second, .val (.long p2), .second, .val (.long p3), .second, .val (.long p4), .second, .val (.int p5), .val (.int p6), .val (.ref w1), .val (.ref w2), .val (.ref u12), .val (.ref u13), .val (.ref b5), .val (.ref b10), .val .null, .val (.ref b47), .val (.ref b52), .val (.ref b54)] [(.ref b10)])
          refine Gl.st (fun _ kk => XS.aload X57.here hx rfl (hb hby at_252) rfl rfl kk) ?_
          show Gl p e below s _ _ _ T57 (mkF m 254 #[.val (.long p1), .second, .val (.long p2), .second, .val (.long p3), .second, .val (.long p4), .second, .val (.int p5), .val (.int p6), .val (.ref w1), .val (.ref w2), .val (.ref u12), .val (.ref u13), .val (.ref b5), .val (.ref b10), .val .null, .val (.ref b47), .val (.ref b52), .val (.ref b54)] [(.ref b10), (.ref b10)])
          refine Gl.st (fun _ kk => Jvm.RoadKit.acmp (g := (mkF m 254 #[.val (.long p1), .second, .val (.long p2), .second, .val (.long p3), .second, .val (.long p4), .second, .val (.int p5), .val (.int p6), .val (.ref w1), .val (.ref w2), .val (.ref u12), .val (.ref u13), .val (.ref b5), .val (.ref b10), .val .null, .val (.ref b47), .val (.ref b52), .val (.ref b54)] [(.ref b10), (.ref b10)])) X57 hx rfl rfl rfl (pc0 := 254) (pc' := 257) (same := true) rfl (hb hby at_254) rfl (decide_eq_true rfl) (by decide) (by decide) kk) ?_
          show Gl p e below s _ _ _ T57 (mkF m 257 #[.val (.long p1), .second, .val (.long p2), .second, .val (.long p3), .second, .val (.long p4), .second, .val (.int p5), .val (.int p6), .val (.ref w1), .val (.ref w2), .val (.ref u12), .val (.ref u13), .val (.ref b5), .val (.ref b10), .val .null, .val (.ref b47), .val (.ref b52), .val (.ref b54)] [])
          refine Gl.st (fun _ kk => XS.aload X57.here hx rfl (hb hby at_257) rfl rfl kk) ?_
          show Gl p e below s _ _ _ T57 (mkF m 259 #[.val (.long p1), .second, .val (.long p2), .second, .val (.long p3), .second, .val (.long p4), .second, .val (.int p5), .val (.int p6), .val (.ref w1), .val (.ref w2), .val (.ref u12), .val (.ref u13), .val (.ref b5), .val (.ref b10), .val .null, .val (.ref b47), .val (.ref b52), .val (.ref b54)] [(.ref b54)])
          obtain ⟨cq58, kq58, qa58, qb58, qc58⟩ := isOf hZ e57 Exa_b54
          obtain ⟨_, _, ⟨T58, L58, k58, n58⟩, -, X58, ⟨Lc58, hQ58, l58, y58, z58⟩, st58⟩ := X57.virtualBack hx (y := (⟨"com/example/always_once/alwaysonce/ledger/Job", "status", "()Lcom/example/always_once/alwaysonce/ledger/JobStatus;"⟩ : MethodName)) (z := (⟨"com/example/always_once/alwaysonce/ledger/Job", "status", "()Lcom/example/always_once/alwaysonce/ledger/JobStatus;"⟩ : MethodName)) hown (mvT hZ (hw _ (List.mem_of_getElem? (i := 92) rfl))) (mvT hZ (hw _ (List.mem_of_getElem? (i := 93) rfl))) (notFace_of_selects (args := #[]) (mvT hZ (hw _ (List.mem_of_getElem? (i := 95) rfl)))) (mvT hZ (hw _ (List.mem_of_getElem? (i := 95) rfl))) (mvT hZ (hw _ (List.mem_of_getElem? (i := 94) rfl))) (by decide) (backOf (W := 0) (rmA_status l Z a0 hw [] b54 w2 h54 n0 O54 F_status_b54) hZ (hw _ (List.mem_of_getElem? (i := 96) rfl)) (hw _ (List.mem_of_getElem? (i := 44) rfl)) (by decide) (by decide)) qa58 qc58 (g := (mkF m 259 #[.val (.long p1), .second, .val (.long p2), .second, .val (.long p3), .second, .val (.long p4), .second, .val (.int p5), .val (.int p6), .val (.ref w1), .val (.ref w2), .val (.ref u12), .val (.ref u13), .val (.ref b5), .val (.ref b10), .val .null, .val (.ref b47), .val (.ref b52), .val (.ref b54)] [(.ref b54)])) rfl (by rw [hml]; rfl) (Steps.refl _) (argsL := []) (rest := []) (lenOf pd_rm0_6 rfl) rfl (by show 2 * 0 + _ ≤ _; exact Nat.le_of_eq rfl) (hb hby at_259) (fun _ _ => ⟨rfl, e57, (by decide : 11 + 0 ≤ _), (by decide : 34 + 0 ≤ _)⟩)
          dsimp only [Pt.U, Pt.locs, Pt.cells, Pt.slots] at X58 l58 y58 z58 st58 hQ58
          subst l58 y58 z58
          obtain ⟨rfl, Nq58, e58⟩ := hQ58
          have N58 := Fr.app N57 Nq58
          refine Gl.st (fun _ kk => st58.trans kk) ?_
          show Gl p e below s _ _ _ T58 (mkF m 262 #[.val (.long p1), .second, .val (.long p2), .second, .val (.long p3), .second, .val (.long p4), .second, .val (.int p5), .val (.int p6), .val (.ref w1), .val (.ref w2), .val (.ref u12), .val (.ref u13), .val (.ref b5), .val (.ref b10), .val .null, .val (.ref b47), .val (.ref b52), .val (.ref b54)] [(.ref w2)])
          refine Gl.st (fun _ kk => XS.aload X58.here hx rfl (hb hby at_262) rfl rfl kk) ?_
          show Gl p e below s _ _ _ T58 (mkF m 264 #[.val (.long p1), .second, .val (.long p2), .second, .val (.long p3), .second, .val (.long p4), .second, .val (.int p5), .val (.int p6), .val (.ref w1), .val (.ref w2), .val (.ref u12), .val (.ref u13), .val (.ref b5), .val (.ref b10), .val .null, .val (.ref b47), .val (.ref b52), .val (.ref b54)] [(.ref w2), (.ref w2)])
          refine Gl.st (fun _ kk => Jvm.RoadKit.acmp (g := (mkF m 264 #[.val (.long p1), .second, .val (.long p2), .second, .val (.long p3), .second, .val (.long p4), .second, .val (.int p5), .val (.int p6), .val (.ref w1), .val (.ref w2), .val (.ref u12), .val (.ref u13), .val (.ref b5), .val (.ref b10), .val .null, .val (.ref b47), .val (.ref b52), .val (.ref b54)] [(.ref w2), (.ref w2)])) X58 hx rfl rfl rfl (pc0 := 264) (pc' := 267) (same := true) rfl (hb hby at_264) rfl (decide_eq_true rfl) (by decide) (by decide) kk) ?_
          show Gl p e below s _ _ _ T58 (mkF m 267 #[.val (.long p1), .second, .val (.long p2), .second, .val (.long p3), .second, .val (.long p4), .second, .val (.int p5), .val (.int p6), .val (.ref w1), .val (.ref w2), .val (.ref u12), .val (.ref u13), .val (.ref b5), .val (.ref b10), .val .null, .val (.ref b47), .val (.ref b52), .val (.ref b54)] [])
          refine Gl.st (fun _ kk => XS.aload X58.here hx rfl (hb hby at_267) rfl rfl kk) ?_
          show Gl p e below s _ _ _ T58 (mkF m 269 #[.val (.long p1), .second, .val (.long p2), .second, .val (.long p3), .second, .val (.long p4), .second, .val (.int p5), .val (.int p6), .val (.ref w1), .val (.ref w2), .val (.ref u12), .val (.ref u13), .val (.ref b5), .val (.ref b10), .val .null, .val (.ref b47), .val (.ref b52), .val (.ref b54)] [(.ref b54)])
          obtain ⟨cq59, kq59, qa59, qb59, qc59⟩ := isOf hZ e58 Exa_b54
          obtain ⟨_, _, ⟨T59, L59, k59, n59⟩, -, X59, ⟨Lc59, hQ59, l59, y59, z59⟩, st59⟩ := X58.virtualBack hx (y := (⟨"com/example/always_once/alwaysonce/ledger/Job", "counts", "()Lcom/example/always_once/alwaysonce/ledger/JobCounts;"⟩ : MethodName)) (z := (⟨"com/example/always_once/alwaysonce/ledger/Job", "counts", "()Lcom/example/always_once/alwaysonce/ledger/JobCounts;"⟩ : MethodName)) hown (mvT hZ (hw _ (List.mem_of_getElem? (i := 97) rfl))) (mvT hZ (hw _ (List.mem_of_getElem? (i := 98) rfl))) (notFace_of_selects (args := #[]) (mvT hZ (hw _ (List.mem_of_getElem? (i := 100) rfl)))) (mvT hZ (hw _ (List.mem_of_getElem? (i := 100) rfl))) (mvT hZ (hw _ (List.mem_of_getElem? (i := 99) rfl))) (by decide) (backOf (W := 0) (rmA_counts l Z a0 hw [] b54 u13 h54 n0 O54 F_counts_b54) hZ (hw _ (List.mem_of_getElem? (i := 101) rfl)) (hw _ (List.mem_of_getElem? (i := 44) rfl)) (by decide) (by decide)) qa59 qc59 (g := (mkF m 269 #[.val (.long p1), .second, .val (.long p2), .second, .val (.long p3), .second, .val (.long p4), .second, .val (.int p5), .val (.int p6), .val (.ref w1), .val (.ref w2), .val (.ref u12), .val (.ref u13), .val (.ref b5), .val (.ref b10), .val .null, .val (.ref b47), .val (.ref b52), .val (.ref b54)] [(.ref b54)])) rfl (by rw [hml]; rfl) (Steps.refl _) (argsL := []) (rest := []) (lenOf pd_rm0_7 rfl) rfl (by show 2 * 0 + _ ≤ _; exact Nat.le_of_eq rfl) (hb hby at_269) (fun _ _ => ⟨rfl, e58, (by decide : 11 + 0 ≤ _), (by decide : 34 + 0 ≤ _)⟩)
          dsimp only [Pt.U, Pt.locs, Pt.cells, Pt.slots] at X59 l59 y59 z59 st59 hQ59
          subst l59 y59 z59
          obtain ⟨rfl, Nq59, e59⟩ := hQ59
          have N59 := Fr.app N58 Nq59
          refine Gl.st (fun _ kk => st59.trans kk) ?_
          show Gl p e below s _ _ _ T59 (mkF m 272 #[.val (.long p1), .second, .val (.long p2), .second, .val (.long p3), .second, .val (.long p4), .second, .val (.int p5), .val (.int p6), .val (.ref w1), .val (.ref w2), .val (.ref u12), .val (.ref u13), .val (.ref b5), .val (.ref b10), .val .null, .val (.ref b47), .val (.ref b52), .val (.ref b54)] [(.ref u13)])
          refine Gl.st (fun _ kk => XS.aload X59.here hx rfl (hb hby at_272) rfl rfl kk) ?_
          show Gl p e below s _ _ _ T59 (mkF m 274 #[.val (.long p1), .second, .val (.long p2), .second, .val (.long p3), .second, .val (.long p4), .second, .val (.int p5), .val (.int p6), .val (.ref w1), .val (.ref w2), .val (.ref u12), .val (.ref u13), .val (.ref b5), .val (.ref b10), .val .null, .val (.ref b47), .val (.ref b52), .val (.ref b54)] [(.ref u13), (.ref u13)])
          refine Gl.st (fun _ kk => Jvm.RoadKit.acmp (g := (mkF m 274 #[.val (.long p1), .second, .val (.long p2), .second, .val (.long p3), .second, .val (.long p4), .second, .val (.int p5), .val (.int p6), .val (.ref w1), .val (.ref w2), .val (.ref u12), .val (.ref u13), .val (.ref b5), .val (.ref b10), .val .null, .val (.ref b47), .val (.ref b52), .val (.ref b54)] [(.ref u13), (.ref u13)])) X59 hx rfl rfl rfl (pc0 := 274) (pc' := 277) (same := true) rfl (hb hby at_274) rfl (decide_eq_true rfl) (by decide) (by decide) kk) ?_
          show Gl p e below s _ _ _ T59 (mkF m 277 #[.val (.long p1), .second, .val (.long p2), .second, .val (.long p3), .second, .val (.long p4), .second, .val (.int p5), .val (.int p6), .val (.ref w1), .val (.ref w2), .val (.ref u12), .val (.ref u13), .val (.ref b5), .val (.ref b10), .val .null, .val (.ref b47), .val (.ref b52), .val (.ref b54)] [])
          refine Gl.st (fun _ kk => XS.aload X59.here hx rfl (hb hby at_277) rfl rfl kk) ?_
          show Gl p e below s _ _ _ T59 (mkF m 279 #[.val (.long p1), .second, .val (.long p2), .second, .val (.long p3), .second, .val (.long p4), .second, .val (.int p5), .val (.int p6), .val (.ref w1), .val (.ref w2), .val (.ref u12), .val (.ref u13), .val (.ref b5), .val (.ref b10), .val .null, .val (.ref b47), .val (.ref b52), .val (.ref b54)] [(.ref b54)])
          obtain ⟨cq60, kq60, qa60, qb60, qc60⟩ := isOf hZ e59 Exa_b54
          obtain ⟨_, _, ⟨T60, L60, k60, n60⟩, -, X60, ⟨Lc60, hQ60, l60, y60, z60⟩, st60⟩ := X59.virtualBack hx (y := (⟨"com/example/always_once/alwaysonce/ledger/Job", "size", "()J"⟩ : MethodName)) (z := (⟨"com/example/always_once/alwaysonce/ledger/Job", "size", "()J"⟩ : MethodName)) hown (mvT hZ (hw _ (List.mem_of_getElem? (i := 102) rfl))) (mvT hZ (hw _ (List.mem_of_getElem? (i := 103) rfl))) (notFace_of_selects (args := #[]) (mvT hZ (hw _ (List.mem_of_getElem? (i := 105) rfl)))) (mvT hZ (hw _ (List.mem_of_getElem? (i := 105) rfl))) (mvT hZ (hw _ (List.mem_of_getElem? (i := 104) rfl))) (by decide) (backOf (W := 0) (rmA_size l Z a0 hw [] b54 p2 h54 n0 O54 F_size_b54) hZ (hw _ (List.mem_of_getElem? (i := 106) rfl)) (hw _ (List.mem_of_getElem? (i := 44) rfl)) (by decide) (by decide)) qa60 qc60 (g := (mkF m 279 #[.val (.long p1), .second, .val (.long p2), .second, .val (.long p3), .second, .val (.long p4), .second, .val (.int p5), .val (.int p6), .val (.ref w1), .val (.ref w2), .val (.ref u12), .val (.ref u13), .val (.ref b5), .val (.ref b10), .val .null, .val (.ref b47), .val (.ref b52), .val (.ref b54)] [(.ref b54)])) rfl (by rw [hml]; rfl) (Steps.refl _) (argsL := []) (rest := []) (lenOf pd_rm0_4 rfl) rfl (by show 2 * 0 + _ ≤ _; exact Nat.le_of_eq rfl) (hb hby at_279) (fun _ _ => ⟨rfl, e59, (by decide : 11 + 0 ≤ _), (by decide : 34 + 0 ≤ _)⟩)
          dsimp only [Pt.U, Pt.locs, Pt.cells, Pt.slots] at X60 l60 y60 z60 st60 hQ60
          subst l60 y60 z60
          obtain ⟨rfl, Nq60, e60⟩ := hQ60
          have N60 := Fr.app N59 Nq60
          refine Gl.st (fun _ kk => st60.trans kk) ?_
          show Gl p e below s _ _ _ T60 (mkF m 282 #[.val (.long p1), .second, .val (.long p2), .second, .val (.long p3), .second, .val (.long p4), .second, .val (.int p5), .val (.int p6), .val (.ref w1), .val (.ref w2), .val (.ref u12), .val (.ref u13), .val (.ref b5), .val (.ref b10), .val .null, .val (.ref b47), .val (.ref b52), .val (.ref b54)] [(.long p2)])
          refine Gl.st (fun _ kk => XS.lloadN X60.here hx rfl (hb hby at_282) rfl kk) ?_
          show Gl p e below s _ _ _ T60 (mkF m 283 #[.val (.long p1), .second, .val (.long p2), .second, .val (.long p3), .second, .val (.long p4), .second, .val (.int p5), .val (.int p6), .val (.ref w1), .val (.ref w2), .val (.ref u12), .val (.ref u13), .val (.ref b5), .val (.ref b10), .val .null, .val (.ref b47), .val (.ref b52), .val (.ref b54)] [(.long p2), (.long p2)])
          refine Gl.st (fun _ kk => XS.lcmp X60.here hx rfl (hb hby at_283) rfl kk) ?_
          show Gl p e below s _ _ _ T60 (mkF m 284 #[.val (.long p1), .second, .val (.long p2), .second, .val (.long p3), .second, .val (.long p4), .second, .val (.int p5), .val (.int p6), .val (.ref w1), .val (.ref w2), .val (.ref u12), .val (.ref u13), .val (.ref b5), .val (.ref b10), .val .null, .val (.ref b47), .val (.ref b52), .val (.ref b54)] [(.int (lcmpW p2 p2))])
          refine Gl.st (fun _ kk => XS.ifNo X60.here hx rfl (hb hby at_284) rfl ((if0 _ _).trans (teq ((lw_eq _ _).mpr rfl : (lcmpW p2 p2) = (0 : Int32))).2) kk) ?_
          show Gl p e below s _ _ _ T60 (mkF m 287 #[.val (.long p1), .second, .val (.long p2), .second, .val (.long p3), .second, .val (.long p4), .second, .val (.int p5), .val (.int p6), .val (.ref w1), .val (.ref w2), .val (.ref u12), .val (.ref u13), .val (.ref b5), .val (.ref b10), .val .null, .val (.ref b47), .val (.ref b52), .val (.ref b54)] [])
          refine Gl.st (fun _ kk => XS.aload X60.here hx rfl (hb hby at_287) rfl rfl kk) ?_
          show Gl p e below s _ _ _ T60 (mkF m 289 #[.val (.long p1), .second, .val (.long p2), .second, .val (.long p3), .second, .val (.long p4), .second, .val (.int p5), .val (.int p6), .val (.ref w1), .val (.ref w2), .val (.ref u12), .val (.ref u13), .val (.ref b5), .val (.ref b10), .val .null, .val (.ref b47), .val (.ref b52), .val (.ref b54)] [(.ref b54)])
          obtain ⟨cq61, kq61, qa61, qb61, qc61⟩ := isOf hZ e60 Exa_b54
          obtain ⟨_, _, ⟨T61, L61, k61, n61⟩, -, X61, ⟨Lc61, hQ61, l61, y61, z61⟩, st61⟩ := X60.virtualBack hx (y := (⟨"com/example/always_once/alwaysonce/ledger/Job", "read", "()J"⟩ : MethodName)) (z := (⟨"com/example/always_once/alwaysonce/ledger/Job", "read", "()J"⟩ : MethodName)) hown (mvT hZ (hw _ (List.mem_of_getElem? (i := 107) rfl))) (mvT hZ (hw _ (List.mem_of_getElem? (i := 108) rfl))) (notFace_of_selects (args := #[]) (mvT hZ (hw _ (List.mem_of_getElem? (i := 110) rfl)))) (mvT hZ (hw _ (List.mem_of_getElem? (i := 110) rfl))) (mvT hZ (hw _ (List.mem_of_getElem? (i := 109) rfl))) (by decide) (backOf (W := 0) (rmA_read l Z a0 hw [] b54 p4 h54 n0 O54 F_read_b54) hZ (hw _ (List.mem_of_getElem? (i := 111) rfl)) (hw _ (List.mem_of_getElem? (i := 44) rfl)) (by decide) (by decide)) qa61 qc61 (g := (mkF m 289 #[.val (.long p1), .second, .val (.long p2), .second, .val (.long p3), .second, .val (.long p4), .second, .val (.int p5), .val (.int p6), .val (.ref w1), .val (.ref w2), .val (.ref u12), .val (.ref u13), .val (.ref b5), .val (.ref b10), .val .null, .val (.ref b47), .val (.ref b52), .val (.ref b54)] [(.ref b54)])) rfl (by rw [hml]; rfl) (Steps.refl _) (argsL := []) (rest := []) (lenOf pd_rm0_4 rfl) rfl (by show 2 * 0 + _ ≤ _; exact Nat.le_of_eq rfl) (hb hby at_289) (fun _ _ => ⟨rfl, e60, (by decide : 11 + 0 ≤ _), (by decide : 34 + 0 ≤ _)⟩)
          dsimp only [Pt.U, Pt.locs, Pt.cells, Pt.slots] at X61 l61 y61 z61 st61 hQ61
          subst l61 y61 z61
          obtain ⟨rfl, Nq61, e61⟩ := hQ61
          have N61 := Fr.app N60 Nq61
          refine Gl.st (fun _ kk => st61.trans kk) ?_
          show Gl p e below s _ _ _ T61 (mkF m 292 #[.val (.long p1), .second, .val (.long p2), .second, .val (.long p3), .second, .val (.long p4), .second, .val (.int p5), .val (.int p6), .val (.ref w1), .val (.ref w2), .val (.ref u12), .val (.ref u13), .val (.ref b5), .val (.ref b10), .val .null, .val (.ref b47), .val (.ref b52), .val (.ref b54)] [(.long p4)])
          refine Gl.st (fun _ kk => XS.lload X61.here hx rfl (hb hby at_292) rfl kk) ?_
          show Gl p e below s _ _ _ T61 (mkF m 294 #[.val (.long p1), .second, .val (.long p2), .second, .val (.long p3), .second, .val (.long p4), .second, .val (.int p5), .val (.int p6), .val (.ref w1), .val (.ref w2), .val (.ref u12), .val (.ref u13), .val (.ref b5), .val (.ref b10), .val .null, .val (.ref b47), .val (.ref b52), .val (.ref b54)] [(.long p4), (.long p4)])
          refine Gl.st (fun _ kk => XS.lcmp X61.here hx rfl (hb hby at_294) rfl kk) ?_
          show Gl p e below s _ _ _ T61 (mkF m 295 #[.val (.long p1), .second, .val (.long p2), .second, .val (.long p3), .second, .val (.long p4), .second, .val (.int p5), .val (.int p6), .val (.ref w1), .val (.ref w2), .val (.ref u12), .val (.ref u13), .val (.ref b5), .val (.ref b10), .val .null, .val (.ref b47), .val (.ref b52), .val (.ref b54)] [(.int (lcmpW p4 p4))])
          refine Gl.st (fun _ kk => XS.ifNo X61.here hx rfl (hb hby at_295) rfl ((if0 _ _).trans (teq ((lw_eq _ _).mpr rfl : (lcmpW p4 p4) = (0 : Int32))).2) kk) ?_
          show Gl p e below s _ _ _ T61 (mkF m 298 #[.val (.long p1), .second, .val (.long p2), .second, .val (.long p3), .second, .val (.long p4), .second, .val (.int p5), .val (.int p6), .val (.ref w1), .val (.ref w2), .val (.ref u12), .val (.ref u13), .val (.ref b5), .val (.ref b10), .val .null, .val (.ref b47), .val (.ref b52), .val (.ref b54)] [])
          refine Gl.st (fun _ kk => XS.aload X61.here hx rfl (hb hby at_298) rfl rfl kk) ?_
          show Gl p e below s _ _ _ T61 (mkF m 300 #[.val (.long p1), .second, .val (.long p2), .second, .val (.long p3), .second, .val (.long p4), .second, .val (.int p5), .val (.int p6), .val (.ref w1), .val (.ref w2), .val (.ref u12), .val (.ref u13), .val (.ref b5), .val (.ref b10), .val .null, .val (.ref b47), .val (.ref b52), .val (.ref b54)] [(.ref b54)])
          obtain ⟨cq62, kq62, qa62, qb62, qc62⟩ := isOf hZ e61 Exa_b54
          obtain ⟨_, _, ⟨T62, L62, k62, n62⟩, -, X62, ⟨Lc62, hQ62, l62, y62, z62⟩, st62⟩ := X61.virtualBack hx (y := (⟨"com/example/always_once/alwaysonce/ledger/Job", "failure", "()Ljava/lang/String;"⟩ : MethodName)) (z := (⟨"com/example/always_once/alwaysonce/ledger/Job", "failure", "()Ljava/lang/String;"⟩ : MethodName)) hown (mvT hZ (hw _ (List.mem_of_getElem? (i := 112) rfl))) (mvT hZ (hw _ (List.mem_of_getElem? (i := 113) rfl))) (notFace_of_selects (args := #[]) (mvT hZ (hw _ (List.mem_of_getElem? (i := 115) rfl)))) (mvT hZ (hw _ (List.mem_of_getElem? (i := 115) rfl))) (mvT hZ (hw _ (List.mem_of_getElem? (i := 114) rfl))) (by decide) (backOf (W := 0) (rmA_failure l Z a0 hw [] b54 b47 h54 n0 O54 F_failure_b54) hZ (hw _ (List.mem_of_getElem? (i := 116) rfl)) (hw _ (List.mem_of_getElem? (i := 44) rfl)) (by decide) (by decide)) qa62 qc62 (g := (mkF m 300 #[.val (.long p1), .second, .val (.long p2), .second, .val (.long p3), .second, .val (.long p4), .second, .val (.int p5), .val (.int p6), .val (.ref w1), .val (.ref w2), .val (.ref u12), .val (.ref u13), .val (.ref b5), .val (.ref b10), .val .null, .val (.ref b47), .val (.ref b52), .val (.ref b54)] [(.ref b54)])) rfl (by rw [hml]; rfl) (Steps.refl _) (argsL := []) (rest := []) (lenOf pd_rm0_5 rfl) rfl (by show 2 * 0 + _ ≤ _; exact Nat.le_of_eq rfl) (hb hby at_300) (fun _ _ => ⟨rfl, e61, (by decide : 11 + 0 ≤ _), (by decide : 34 + 0 ≤ _)⟩)
          dsimp only [Pt.U, Pt.locs, Pt.cells, Pt.slots] at X62 l62 y62 z62 st62 hQ62
          subst l62 y62 z62
          obtain ⟨rfl, Nq62, e62⟩ := hQ62
          have N62 := Fr.app N61 Nq62
          refine Gl.st (fun _ kk => st62.trans kk) ?_
          show Gl p e below s _ _ _ T62 (mkF m 303 #[.val (.long p1), .second, .val (.long p2), .second, .val (.long p3), .second, .val (.long p4), .second, .val (.int p5), .val (.int p6), .val (.ref w1), .val (.ref w2), .val (.ref u12), .val (.ref u13), .val (.ref b5), .val (.ref b10), .val .null, .val (.ref b47), .val (.ref b52), .val (.ref b54)] [(.ref b47)])
          refine Gl.st (fun _ kk => XS.aload X62.here hx rfl (hb hby at_303) rfl rfl kk) ?_
          show Gl p e below s _ _ _ T62 (mkF m 305 #[.val (.long p1), .second, .val (.long p2), .second, .val (.long p3), .second, .val (.long p4), .second, .val (.int p5), .val (.int p6), .val (.ref w1), .val (.ref w2), .val (.ref u12), .val (.ref u13), .val (.ref b5), .val (.ref b10), .val .null, .val (.ref b47), .val (.ref b52), .val (.ref b54)] [(.ref b47), (.ref b47)])
          refine Gl.st (fun _ kk => Jvm.RoadKit.acmp (g := (mkF m 305 #[.val (.long p1), .second, .val (.long p2), .second, .val (.long p3), .second, .val (.long p4), .second, .val (.int p5), .val (.int p6), .val (.ref w1), .val (.ref w2), .val (.ref u12), .val (.ref u13), .val (.ref b5), .val (.ref b10), .val .null, .val (.ref b47), .val (.ref b52), .val (.ref b54)] [(.ref b47), (.ref b47)])) X62 hx rfl rfl rfl (pc0 := 305) (pc' := 308) (same := true) rfl (hb hby at_305) rfl (decide_eq_true rfl) (by decide) (by decide) kk) ?_
          show Gl p e below s _ _ _ T62 (mkF m 308 #[.val (.long p1), .second, .val (.long p2), .second, .val (.long p3), .second, .val (.long p4), .second, .val (.int p5), .val (.int p6), .val (.ref w1), .val (.ref w2), .val (.ref u12), .val (.ref u13), .val (.ref b5), .val (.ref b10), .val .null, .val (.ref b47), .val (.ref b52), .val (.ref b54)] [])
          refine Gl.st (fun _ kk => XS.iconst X62.here hx rfl (hb hby at_308) kk) ?_
          show Gl p e below s _ _ _ T62 (mkF m 309 #[.val (.long p1), .second, .val (.long p2), .second, .val (.long p3), .second, .val (.long p4), .second, .val (.int p5), .val (.int p6), .val (.ref w1), .val (.ref w2), .val (.ref u12), .val (.ref u13), .val (.ref b5), .val (.ref b10), .val .null, .val (.ref b47), .val (.ref b52), .val (.ref b54)] [(.int (1 : Int32))])
          refine Gl.st (fun _ kk => XS.goto X62.here hx rfl (pc0 := 309) (pc' := 313) rfl (hb hby at_309) (by decide) (by decide) kk) ?_
          show Gl p e below s _ _ _ T62 (mkF m 313 #[.val (.long p1), .second, .val (.long p2), .second, .val (.long p3), .second, .val (.long p4), .second, .val (.int p5), .val (.int p6), .val (.ref w1), .val (.ref w2), .val (.ref u12), .val (.ref u13), .val (.ref b5), .val (.ref b10), .val .null, .val (.ref b47), .val (.ref b52), .val (.ref b54)] [(.int (1 : Int32))])
          exact Gl.ret X62 (v := (some (.int (1 : Int32)))) (fun h => by rw [Bd.returns] at h; cases h) (BodyLoose.notSynchronized Bd) (fun hr => retN X62 hx (t := .boolean) Bd.returns (by simp) (hb hby at_313) hr) e62 ⟨rfl, N62⟩ (by decide) (by decide)
        · skip
          refine Gl.st (fun _ kk => XS.ifNo X14.here hx rfl (hb hby at_157) rfl ((if0 _ _).trans (feq hc157).1) kk) ?_
          show Gl p e below s _ _ _ T14 (mkF m 160 #[.val (.long p1), .second, .val (.long p2), .second, .val (.long p3), .second, .val (.long p4), .second, .val (.int p5), .val (.int p6), .val (.ref w1), .val (.ref w2), .val (.ref u12), .val (.ref u13), .val (.ref b5), .val (.ref b10), .val .null, .unset, .unset, .unset] [])
          refine Gl.st (fun _ kk => XS.aconstNull X14.here hx rfl (hb hby at_160) kk) ?_
          show Gl p e below s _ _ _ T14 (mkF m 161 #[.val (.long p1), .second, .val (.long p2), .second, .val (.long p3), .second, .val (.long p4), .second, .val (.int p5), .val (.int p6), .val (.ref w1), .val (.ref w2), .val (.ref u12), .val (.ref u13), .val (.ref b5), .val (.ref b10), .val .null, .unset, .unset, .unset] [.null])
          refine Gl.st (fun _ kk => XS.goto X14.here hx rfl (pc0 := 161) (pc' := 187) rfl (hb hby at_161) (by decide) (by decide) kk) ?_
          show Gl p e below s _ _ _ T14 (mkF m 187 #[.val (.long p1), .second, .val (.long p2), .second, .val (.long p3), .second, .val (.long p4), .second, .val (.int p5), .val (.int p6), .val (.ref w1), .val (.ref w2), .val (.ref u12), .val (.ref u13), .val (.ref b5), .val (.ref b10), .val .null, .unset, .unset, .unset] [.null])
          refine Gl.st (fun _ kk => XS.astore X14.here hx rfl (hb hby at_187) rfl rfl (l' := #[.val (.long p1), .second, .val (.long p2), .second, .val (.long p3), .second, .val (.long p4), .second, .val (.int p5), .val (.int p6), .val (.ref w1), .val (.ref w2), .val (.ref u12), .val (.ref u13), .val (.ref b5), .val (.ref b10), .val .null, .val .null, .unset, .unset]) rfl kk) ?_
          show Gl p e below s _ _ _ T14 (mkF m 189 #[.val (.long p1), .second, .val (.long p2), .second, .val (.long p3), .second, .val (.long p4), .second, .val (.int p5), .val (.int p6), .val (.ref w1), .val (.ref w2), .val (.ref u12), .val (.ref u13), .val (.ref b5), .val (.ref b10), .val .null, .val .null, .unset, .unset] [])
          obtain ⟨T63, h63, X63, e63, E63, A63, D63, V63, st63⟩ := newO X14 hx hZ hown (hw _ (List.mem_of_getElem? (i := 42) rfl)) (hw _ (List.mem_of_getElem? (i := 43) rfl)) (hw _ (List.mem_of_getElem? (i := 44) rfl)) e14 (g := (mkF m 189 #[.val (.long p1), .second, .val (.long p2), .second, .val (.long p3), .second, .val (.long p4), .second, .val (.int p5), .val (.int p6), .val (.ref w1), .val (.ref w2), .val (.ref u12), .val (.ref u13), .val (.ref b5), .val (.ref b10), .val .null, .val .null, .unset, .unset] [])) rfl (hb hby at_189) (by decide) (by decide)
          obtain ⟨b63, g63⟩ : ∃ z, z = h14.size := ⟨_, rfl⟩
          rw [← g63] at A63 D63 V63 st63
          refine Gl.st st63 ?_
          have ge_b63 : n0 ≤ b63 := Nat.le_trans (Nat.le_trans (Nat.le_of_eq O14.1.symm) O14.2.1) (Nat.le_of_eq g63.symm)
          have fr_b63 : h0.size ≤ b63 := Nat.le_trans K14.1 (Nat.le_of_eq g63.symm)
          have O63 := O14.ext E63
          have K63 := K14.ext E63
          have Exa_b63 := A63
          have F_id_b63 : Fld Z h63 b63 "com/example/always_once/alwaysonce/ledger/Job" "id" "J" (.long (0 : Int64)) := D63 (Or.inr (hw _ (List.mem_of_getElem? (i := 55) rfl))) (ty := .long) (by decide)
          have F_definition_b63 : Fld Z h63 b63 "com/example/always_once/alwaysonce/ledger/Job" "definition" "Ljava/lang/String;" .null := D63 (Or.inr (hw _ (List.mem_of_getElem? (i := 57) rfl))) (ty := (.object "java/lang/String")) (by decide)
          have F_file_b63 : Fld Z h63 b63 "com/example/always_once/alwaysonce/ledger/Job" "file" "Ljava/lang/String;" .null := D63 (Or.inr (hw _ (List.mem_of_getElem? (i := 59) rfl))) (ty := (.object "java/lang/String")) (by decide)
          have F_status_b63 : Fld Z h63 b63 "com/example/always_once/alwaysonce/ledger/Job" "status" "Lcom/example/always_once/alwaysonce/ledger/JobStatus;" .null := D63 (Or.inr (hw _ (List.mem_of_getElem? (i := 61) rfl))) (ty := (.object "com/example/always_once/alwaysonce/ledger/JobStatus")) (by decide)
          have F_counts_b63 : Fld Z h63 b63 "com/example/always_once/alwaysonce/ledger/Job" "counts" "Lcom/example/always_once/alwaysonce/ledger/JobCounts;" .null := D63 (Or.inr (hw _ (List.mem_of_getElem? (i := 63) rfl))) (ty := (.object "com/example/always_once/alwaysonce/ledger/JobCounts")) (by decide)
          have F_size_b63 : Fld Z h63 b63 "com/example/always_once/alwaysonce/ledger/Job" "size" "J" (.long (0 : Int64)) := D63 (Or.inr (hw _ (List.mem_of_getElem? (i := 65) rfl))) (ty := .long) (by decide)
          have F_read_b63 : Fld Z h63 b63 "com/example/always_once/alwaysonce/ledger/Job" "read" "J" (.long (0 : Int64)) := D63 (Or.inr (hw _ (List.mem_of_getElem? (i := 67) rfl))) (ty := .long) (by decide)
          have F_failure_b63 : Fld Z h63 b63 "com/example/always_once/alwaysonce/ledger/Job" "failure" "Ljava/lang/String;" .null := D63 (Or.inr (hw _ (List.mem_of_getElem? (i := 69) rfl))) (ty := (.object "java/lang/String")) (by decide)
          show Gl p e below s _ _ _ T63 (mkF m 192 #[.val (.long p1), .second, .val (.long p2), .second, .val (.long p3), .second, .val (.long p4), .second, .val (.int p5), .val (.int p6), .val (.ref w1), .val (.ref w2), .val (.ref u12), .val (.ref u13), .val (.ref b5), .val (.ref b10), .val .null, .val .null, .unset, .unset] [(.ref b63)])
          refine Gl.st (fun _ kk => XS.dup X63.here hx rfl (hb hby at_192) rfl rfl kk) ?_
          show Gl p e below s _ _ _ T63 (mkF m 193 #[.val (.long p1), .second, .val (.long p2), .second, .val (.long p3), .second, .val (.long p4), .second, .val (.int p5), .val (.int p6), .val (.ref w1), .val (.ref w2), .val (.ref u12), .val (.ref u13), .val (.ref b5), .val (.ref b10), .val .null, .val .null, .unset, .unset] [(.ref b63), (.ref b63)])
          refine Gl.st (fun _ kk => XS.lloadN X63.here hx rfl (hb hby at_193) rfl kk) ?_
          show Gl p e below s _ _ _ T63 (mkF m 194 #[.val (.long p1), .second, .val (.long p2), .second, .val (.long p3), .second, .val (.long p4), .second, .val (.int p5), .val (.int p6), .val (.ref w1), .val (.ref w2), .val (.ref u12), .val (.ref u13), .val (.ref b5), .val (.ref b10), .val .null, .val .null, .unset, .unset] [(.long p1), (.ref b63), (.ref b63)])
          refine Gl.st (fun _ kk => XS.aload X63.here hx rfl (hb hby at_194) rfl rfl kk) ?_
          show Gl p e below s _ _ _ T63 (mkF m 196 #[.val (.long p1), .second, .val (.long p2), .second, .val (.long p3), .second, .val (.long p4), .second, .val (.int p5), .val (.int p6), .val (.ref w1), .val (.ref w2), .val (.ref u12), .val (.ref u13), .val (.ref b5), .val (.ref b10), .val .null, .val .null, .unset, .unset] [(.ref b5), (.long p1), (.ref b63), (.ref b63)])
          refine Gl.st (fun _ kk => XS.aload X63.here hx rfl (hb hby at_196) rfl rfl kk) ?_
          show Gl p e below s _ _ _ T63 (mkF m 198 #[.val (.long p1), .second, .val (.long p2), .second, .val (.long p3), .second, .val (.long p4), .second, .val (.int p5), .val (.int p6), .val (.ref w1), .val (.ref w2), .val (.ref u12), .val (.ref u13), .val (.ref b5), .val (.ref b10), .val .null, .val .null, .unset, .unset] [(.ref b10), (.ref b5), (.long p1), (.ref b63), (.ref b63)])
          refine Gl.st (fun _ kk => XS.aload X63.here hx rfl (hb hby at_198) rfl rfl kk) ?_
          show Gl p e below s _ _ _ T63 (mkF m 200 #[.val (.long p1), .second, .val (.long p2), .second, .val (.long p3), .second, .val (.long p4), .second, .val (.int p5), .val (.int p6), .val (.ref w1), .val (.ref w2), .val (.ref u12), .val (.ref u13), .val (.ref b5), .val (.ref b10), .val .null, .val .null, .unset, .unset] [(.ref w1), (.ref b10), (.ref b5), (.long p1), (.ref b63), (.ref b63)])
          refine Gl.st (fun _ kk => XS.aload X63.here hx rfl (hb hby at_200) rfl rfl kk) ?_
          show Gl p e below s _ _ _ T63 (mkF m 202 #[.val (.long p1), .second, .val (.long p2), .second, .val (.long p3), .second, .val (.long p4), .second, .val (.int p5), .val (.int p6), .val (.ref w1), .val (.ref w2), .val (.ref u12), .val (.ref u13), .val (.ref b5), .val (.ref b10), .val .null, .val .null, .unset, .unset] [(.ref u12), (.ref w1), (.ref b10), (.ref b5), (.long p1), (.ref b63), (.ref b63)])
          refine Gl.st (fun _ kk => XS.lloadN X63.here hx rfl (hb hby at_202) rfl kk) ?_
          show Gl p e below s _ _ _ T63 (mkF m 203 #[.val (.long p1), .second, .val (.long p2), .second, .val (.long p3), .second, .val (.long p4), .second, .val (.int p5), .val (.int p6), .val (.ref w1), .val (.ref w2), .val (.ref u12), .val (.ref u13), .val (.ref b5), .val (.ref b10), .val .null, .val .null, .unset, .unset] [(.long p2), (.ref u12), (.ref w1), (.ref b10), (.ref b5), (.long p1), (.ref b63), (.ref b63)])
          refine Gl.st (fun _ kk => XS.lload X63.here hx rfl (hb hby at_203) rfl kk) ?_
          show Gl p e below s _ _ _ T63 (mkF m 205 #[.val (.long p1), .second, .val (.long p2), .second, .val (.long p3), .second, .val (.long p4), .second, .val (.int p5), .val (.int p6), .val (.ref w1), .val (.ref w2), .val (.ref u12), .val (.ref u13), .val (.ref b5), .val (.ref b10), .val .null, .val .null, .unset, .unset] [(.long p3), (.long p2), (.ref u12), (.ref w1), (.ref b10), (.ref b5), (.long p1), (.ref b63), (.ref b63)])
          refine Gl.st (fun _ kk => XS.aload X63.here hx rfl (hb hby at_205) rfl rfl kk) ?_
          show Gl p e below s _ _ _ T63 (mkF m 207 #[.val (.long p1), .second, .val (.long p2), .second, .val (.long p3), .second, .val (.long p4), .second, .val (.int p5), .val (.int p6), .val (.ref w1), .val (.ref w2), .val (.ref u12), .val (.ref u13), .val (.ref b5), .val (.ref b10), .val .null, .val .null, .unset, .unset] [.null, (.long p3), (.long p2), (.ref u12), (.ref w1), (.ref b10), (.ref b5), (.long p1), (.ref b63), (.ref b63)])
          obtain ⟨_, _, ⟨T64, L64, k64, n64⟩, -, X64, ⟨Lc64, hQ64, l64, y64, z64⟩, st64⟩ := X63.specialBack hx (y := (⟨"com/example/always_once/alwaysonce/ledger/Job", "<init>", "(JLjava/lang/String;Ljava/lang/String;Lcom/example/always_once/alwaysonce/ledger/JobStatus;Lcom/example/always_once/alwaysonce/ledger/JobCounts;JJLjava/lang/String;)V"⟩ : MethodName)) rfl hown (mvT hZ (hw _ (List.mem_of_getElem? (i := 45) rfl))) (mvT hZ (hw _ (List.mem_of_getElem? (i := 46) rfl))) (mvT hZ (hw _ (List.mem_of_getElem? (i := 47) rfl))) (by decide) (backOf (W := 1) (rmIn l Z a0 hw [] b63 p1 b5 b10 w1 u12 p2 p3 h63 n0 O63 Exa_b63 F_id_b63 F_definition_b63 F_file_b63 F_status_b63 F_counts_b63 F_size_b63 F_read_b63 F_failure_b63 ge_b63) hZ (hw _ (List.mem_of_getElem? (i := 47) rfl)) (hw _ (List.mem_of_getElem? (i := 44) rfl)) (by decide) (by decide)) (g := (mkF m 207 #[.val (.long p1), .second, .val (.long p2), .second, .val (.long p3), .second, .val (.long p4), .second, .val (.int p5), .val (.int p6), .val (.ref w1), .val (.ref w2), .val (.ref u12), .val (.ref u13), .val (.ref b5), .val (.ref b10), .val .null, .val .null, .unset, .unset] [.null, (.long p3), (.long p2), (.ref u12), (.ref w1), (.ref b10), (.ref b5), (.long p1), (.ref b63), (.ref b63)])) rfl (by rw [hml]; rfl) (Steps.refl _) (a := b63) (argsL := [(.long p1), (.ref b5), (.ref b10), (.ref w1), (.ref u12), (.long p2), (.long p3), .null]) (rest := [(.ref b63)]) (lenOf pd_rm0_2 rfl) rfl (by show 2 * 0 + _ ≤ _; exact Nat.le_of_eq rfl) (hb hby at_207) (fun _ _ => ⟨rfl, e63, (by decide : 7 + 0 ≤ _), (by decide : 20 + 0 ≤ _)⟩)
          dsimp only [Pt.U, Pt.locs, Pt.cells, Pt.slots] at X64 l64 y64 z64 st64 hQ64
          subst l64 y64 z64
          obtain ⟨h64, e64⟩ : ∃ z, T64.heap = z := ⟨_, rfl⟩
          rw [e64] at hQ64
          obtain ⟨rfl, Nq64, Kq64, F_id_q64, F_definition_q64, F_file_q64, F_status_q64, F_counts_q64, F_size_q64, F_read_q64, F_failure_q64⟩ := hQ64
          have N64 := Fr.app N14 Nq64
          refine Gl.st (fun _ kk => st64.trans kk) ?_
          have Exa_b63 := Exa_b63.keep Kq64
          have O64 := O63.keep Kq64 (allS ge_b63 all0)
          have K64 := K63.trans Kq64 (allS (Or.inr fr_b63) all0)
          have F_id_b63 := F_id_q64
          have F_definition_b63 := F_definition_q64
          have F_file_b63 := F_file_q64
          have F_status_b63 := F_status_q64
          have F_counts_b63 := F_counts_q64
          have F_size_b63 := F_size_q64
          have F_read_b63 := F_read_q64
          have F_failure_b63 := F_failure_q64
          show Gl p e below s _ _ _ T64 (mkF m 210 #[.val (.long p1), .second, .val (.long p2), .second, .val (.long p3), .second, .val (.long p4), .second, .val (.int p5), .val (.int p6), .val (.ref w1), .val (.ref w2), .val (.ref u12), .val (.ref u13), .val (.ref b5), .val (.ref b10), .val .null, .val .null, .unset, .unset] [(.ref b63)])
          refine Gl.st (fun _ kk => XS.astore X64.here hx rfl (hb hby at_210) rfl rfl (l' := #[.val (.long p1), .second, .val (.long p2), .second, .val (.long p3), .second, .val (.long p4), .second, .val (.int p5), .val (.int p6), .val (.ref w1), .val (.ref w2), .val (.ref u12), .val (.ref u13), .val (.ref b5), .val (.ref b10), .val .null, .val .null, .val (.ref b63), .unset]) rfl kk) ?_
          show Gl p e below s _ _ _ T64 (mkF m 212 #[.val (.long p1), .second, .val (.long p2), .second, .val (.long p3), .second, .val (.long p4), .second, .val (.int p5), .val (.int p6), .val (.ref w1), .val (.ref w2), .val (.ref u12), .val (.ref u13), .val (.ref b5), .val (.ref b10), .val .null, .val .null, .val (.ref b63), .unset] [])
          refine Gl.st (fun _ kk => XS.aload X64.here hx rfl (hb hby at_212) rfl rfl kk) ?_
          show Gl p e below s _ _ _ T64 (mkF m 214 #[.val (.long p1), .second, .val (.long p2), .second, .val (.long p3), .second, .val (.long p4), .second, .val (.int p5), .val (.int p6), .val (.ref w1), .val (.ref w2), .val (.ref u12), .val (.ref u13), .val (.ref b5), .val (.ref b10), .val .null, .val .null, .val (.ref b63), .unset] [(.ref b63)])
          refine Gl.st (fun _ kk => XS.aload X64.here hx rfl (hb hby at_214) rfl rfl kk) ?_
          show Gl p e below s _ _ _ T64 (mkF m 216 #[.val (.long p1), .second, .val (.long p2), .second, .val (.long p3), .second, .val (.long p4), .second, .val (.int p5), .val (.int p6), .val (.ref w1), .val (.ref w2), .val (.ref u12), .val (.ref u13), .val (.ref b5), .val (.ref b10), .val .null, .val .null, .val (.ref b63), .unset] [(.ref w2), (.ref b63)])
          refine Gl.st (fun _ kk => XS.aload X64.here hx rfl (hb hby at_216) rfl rfl kk) ?_
          show Gl p e below s _ _ _ T64 (mkF m 218 #[.val (.long p1), .second, .val (.long p2), .second, .val (.long p3), .second, .val (.long p4), .second, .val (.int p5), .val (.int p6), .val (.ref w1), .val (.ref w2), .val (.ref u12), .val (.ref u13), .val (.ref b5), .val (.ref b10), .val .null, .val .null, .val (.ref b63), .unset] [(.ref u13), (.ref w2), (.ref b63)])
          refine Gl.st (fun _ kk => XS.lload X64.here hx rfl (hb hby at_218) rfl kk) ?_
          show Gl p e below s _ _ _ T64 (mkF m 220 #[.val (.long p1), .second, .val (.long p2), .second, .val (.long p3), .second, .val (.long p4), .second, .val (.int p5), .val (.int p6), .val (.ref w1), .val (.ref w2), .val (.ref u12), .val (.ref u13), .val (.ref b5), .val (.ref b10), .val .null, .val .null, .val (.ref b63), .unset] [(.long p4), (.ref u13), (.ref w2), (.ref b63)])
          refine Gl.st (fun _ kk => XS.aload X64.here hx rfl (hb hby at_220) rfl rfl kk) ?_
          show Gl p e below s _ _ _ T64 (mkF m 222 #[.val (.long p1), .second, .val (.long p2), .second, .val (.long p3), .second, .val (.long p4), .second, .val (.int p5), .val (.int p6), .val (.ref w1), .val (.ref w2), .val (.ref u12), .val (.ref u13), .val (.ref b5), .val (.ref b10), .val .null, .val .null, .val (.ref b63), .unset] [.null, (.long p4), (.ref u13), (.ref w2), (.ref b63)])
          obtain ⟨cq65, kq65, qa65, qb65, qc65⟩ := isOf hZ e64 Exa_b63
          obtain ⟨_, _, ⟨T65, L65, k65, n65⟩, -, X65, ⟨Lc65, hQ65, l65, y65, z65⟩, st65⟩ := X64.virtualBack hx (y := (⟨"com/example/always_once/alwaysonce/ledger/Job", "with", "(Lcom/example/always_once/alwaysonce/ledger/JobStatus;Lcom/example/always_once/alwaysonce/ledger/JobCounts;JLjava/lang/String;)Lcom/example/always_once/alwaysonce/ledger/Job;"⟩ : MethodName)) (z := (⟨"com/example/always_once/alwaysonce/ledger/Job", "with", "(Lcom/example/always_once/alwaysonce/ledger/JobStatus;Lcom/example/always_once/alwaysonce/ledger/JobCounts;JLjava/lang/String;)Lcom/example/always_once/alwaysonce/ledger/Job;"⟩ : MethodName)) hown (mvT hZ (hw _ (List.mem_of_getElem? (i := 70) rfl))) (mvT hZ (hw _ (List.mem_of_getElem? (i := 71) rfl))) (notFace_of_selects (args := #[]) (mvT hZ (hw _ (List.mem_of_getElem? (i := 73) rfl)))) (mvT hZ (hw _ (List.mem_of_getElem? (i := 73) rfl))) (mvT hZ (hw _ (List.mem_of_getElem? (i := 72) rfl))) (by decide) (backOf (W := 0) (rmWn l Z a0 hw [] b63 w2 u13 p4 p1 b5 b10 p2 h64 n0 O64 F_id_b63 F_definition_b63 F_file_b63 F_size_b63) hZ (hw _ (List.mem_of_getElem? (i := 74) rfl)) (hw _ (List.mem_of_getElem? (i := 44) rfl)) (by decide) (by decide)) qa65 qc65 (g := (mkF m 222 #[.val (.long p1), .second, .val (.long p2), .second, .val (.long p3), .second, .val (.long p4), .second, .val (.int p5), .val (.int p6), .val (.ref w1), .val (.ref w2), .val (.ref u12), .val (.ref u13), .val (.ref b5), .val (.ref b10), .val .null, .val .null, .val (.ref b63), .unset] [.null, (.long p4), (.ref u13), (.ref w2), (.ref b63)])) rfl (by rw [hml]; rfl) (Steps.refl _) (argsL := [(.ref w2), (.ref u13), (.long p4), .null]) (rest := []) (lenOf pd_rm0_3 rfl) rfl (by show 2 * 0 + _ ≤ _; exact Nat.le_of_eq rfl) (hb hby at_222) (fun _ _ => ⟨rfl, e64, (by decide : 7 + 1 ≤ _), (by decide : 20 + 8 ≤ _)⟩)
          dsimp only [Pt.U, Pt.locs, Pt.cells, Pt.slots] at X65 l65 y65 z65 st65 hQ65
          subst l65 y65 z65
          obtain ⟨h65, e65⟩ : ∃ z, T65.heap = z := ⟨_, rfl⟩
          rw [e65] at hQ65
          obtain ⟨b65, rfl, Nq65, Kq65, Exa_b65, F_id_b65, F_definition_b65, F_file_b65, F_status_b65, F_counts_b65, F_size_b65, F_read_b65, F_failure_b65, gb65, frb65⟩ := hQ65
          have N65 := Fr.app N64 Nq65
          refine Gl.st (fun _ kk => st65.trans kk) ?_
          have Exa_b63 := Exa_b63.keep Kq65
          have F_id_b63 := F_id_b63.keep Kq65 nin0
          have F_definition_b63 := F_definition_b63.keep Kq65 nin0
          have F_file_b63 := F_file_b63.keep Kq65 nin0
          have F_status_b63 := F_status_b63.keep Kq65 nin0
          have F_counts_b63 := F_counts_b63.keep Kq65 nin0
          have F_size_b63 := F_size_b63.keep Kq65 nin0
          have F_read_b63 := F_read_b63.keep Kq65 nin0
          have F_failure_b63 := F_failure_b63.keep Kq65 nin0
          have O65 := O64.keep Kq65 all0
          have K65 := K64.trans Kq65 all0
          show Gl p e below s _ _ _ T65 (mkF m 225 #[.val (.long p1), .second, .val (.long p2), .second, .val (.long p3), .second, .val (.long p4), .second, .val (.int p5), .val (.int p6), .val (.ref w1), .val (.ref w2), .val (.ref u12), .val (.ref u13), .val (.ref b5), .val (.ref b10), .val .null, .val .null, .val (.ref b63), .unset] [(.ref b65)])
          refine Gl.st (fun _ kk => XS.astore X65.here hx rfl (hb hby at_225) rfl rfl (l' := #[.val (.long p1), .second, .val (.long p2), .second, .val (.long p3), .second, .val (.long p4), .second, .val (.int p5), .val (.int p6), .val (.ref w1), .val (.ref w2), .val (.ref u12), .val (.ref u13), .val (.ref b5), .val (.ref b10), .val .null, .val .null, .val (.ref b63), .val (.ref b65)]) rfl kk) ?_
          show Gl p e below s _ _ _ T65 (mkF m 227 #[.val (.long p1), .second, .val (.long p2), .second, .val (.long p3), .second, .val (.long p4), .second, .val (.int p5), .val (.int p6), .val (.ref w1), .val (.ref w2), .val (.ref u12), .val (.ref u13), .val (.ref b5), .val (.ref b10), .val .null, .val .null, .val (.ref b63), .val (.ref b65)] [])
          refine Gl.st (fun _ kk => XS.aload X65.here hx rfl (hb hby at_227) rfl rfl kk) ?_
          show Gl p e below s _ _ _ T65 (mkF m 229 #[.val (.long p1), .second, .val (.long p2), .second, .val (.long p3), .second, .val (.long p4), .second, .val (.int p5), .val (.int p6), .val (.ref w1), .val (.ref w2), .val (.ref u12), .val (.ref u13), .val (.ref b5), .val (.ref b10), .val .null, .val .null, .val (.ref b63), .val (.ref b65)] [(.ref b65)])
          obtain ⟨cq66, kq66, qa66, qb66, qc66⟩ := isOf hZ e65 Exa_b65
          obtain ⟨_, _, ⟨T66, L66, k66, n66⟩, -, X66, ⟨Lc66, hQ66, l66, y66, z66⟩, st66⟩ := X65.virtualBack hx (y := (⟨"com/example/always_once/alwaysonce/ledger/Job", "id", "()J"⟩ : MethodName)) (z := (⟨"com/example/always_once/alwaysonce/ledger/Job", "id", "()J"⟩ : MethodName)) hown (mvT hZ (hw _ (List.mem_of_getElem? (i := 77) rfl))) (mvT hZ (hw _ (List.mem_of_getElem? (i := 78) rfl))) (notFace_of_selects (args := #[]) (mvT hZ (hw _ (List.mem_of_getElem? (i := 80) rfl)))) (mvT hZ (hw _ (List.mem_of_getElem? (i := 80) rfl))) (mvT hZ (hw _ (List.mem_of_getElem? (i := 79) rfl))) (by decide) (backOf (W := 0) (rmA_id l Z a0 hw [] b65 p1 h65 n0 O65 F_id_b65) hZ (hw _ (List.mem_of_getElem? (i := 81) rfl)) (hw _ (List.mem_of_getElem? (i := 44) rfl)) (by decide) (by decide)) qa66 qc66 (g := (mkF m 229 #[.val (.long p1), .second, .val (.long p2), .second, .val (.long p3), .second, .val (.long p4), .second, .val (.int p5), .val (.int p6), .val (.ref w1), .val (.ref w2), .val (.ref u12), .val (.ref u13), .val (.ref b5), .val (.ref b10), .val .null, .val .null, .val (.ref b63), .val (.ref b65)] [(.ref b65)])) rfl (by rw [hml]; rfl) (Steps.refl _) (argsL := []) (rest := []) (lenOf pd_rm0_4 rfl) rfl (by show 2 * 0 + _ ≤ _; exact Nat.le_of_eq rfl) (hb hby at_229) (fun _ _ => ⟨rfl, e65, (by decide : 8 + 0 ≤ _), (by decide : 28 + 0 ≤ _)⟩)
          dsimp only [Pt.U, Pt.locs, Pt.cells, Pt.slots] at X66 l66 y66 z66 st66 hQ66
          subst l66 y66 z66
          obtain ⟨rfl, Nq66, e66⟩ := hQ66
          have N66 := Fr.app N65 Nq66
          refine Gl.st (fun _ kk => st66.trans kk) ?_
          show Gl p e below s _ _ _ T66 (mkF m 232 #[.val (.long p1), .second, .val (.long p2), .second, .val (.long p3), .second, .val (.long p4), .second, .val (.int p5), .val (.int p6), .val (.ref w1), .val (.ref w2), .val (.ref u12), .val (.ref u13), .val (.ref b5), .val (.ref b10), .val .null, .val .null, .val (.ref b63), .val (.ref b65)] [(.long p1)])
          refine Gl.st (fun _ kk => XS.lloadN X66.here hx rfl (hb hby at_232) rfl kk) ?_
          show Gl p e below s _ _ _ T66 (mkF m 233 #[.val (.long p1), .second, .val (.long p2), .second, .val (.long p3), .second, .val (.long p4), .second, .val (.int p5), .val (.int p6), .val (.ref w1), .val (.ref w2), .val (.ref u12), .val (.ref u13), .val (.ref b5), .val (.ref b10), .val .null, .val .null, .val (.ref b63), .val (.ref b65)] [(.long p1), (.long p1)])
          refine Gl.st (fun _ kk => XS.lcmp X66.here hx rfl (hb hby at_233) rfl kk) ?_
          show Gl p e below s _ _ _ T66 (mkF m 234 #[.val (.long p1), .second, .val (.long p2), .second, .val (.long p3), .second, .val (.long p4), .second, .val (.int p5), .val (.int p6), .val (.ref w1), .val (.ref w2), .val (.ref u12), .val (.ref u13), .val (.ref b5), .val (.ref b10), .val .null, .val .null, .val (.ref b63), .val (.ref b65)] [(.int (lcmpW p1 p1))])
          refine Gl.st (fun _ kk => XS.ifNo X66.here hx rfl (hb hby at_234) rfl ((if0 _ _).trans (teq ((lw_eq _ _).mpr rfl : (lcmpW p1 p1) = (0 : Int32))).2) kk) ?_
          show Gl p e below s _ _ _ T66 (mkF m 237 #[.val (.long p1), .second, .val (.long p2), .second, .val (.long p3), .second, .val (.long p4), .second, .val (.int p5), .val (.int p6), .val (.ref w1), .val (.ref w2), .val (.ref u12), .val (.ref u13), .val (.ref b5), .val (.ref b10), .val .null, .val .null, .val (.ref b63), .val (.ref b65)] [])
          refine Gl.st (fun _ kk => XS.aload X66.here hx rfl (hb hby at_237) rfl rfl kk) ?_
          show Gl p e below s _ _ _ T66 (mkF m 239 #[.val (.long p1), .second, .val (.long p2), .second, .val (.long p3), .second, .val (.long p4), .second, .val (.int p5), .val (.int p6), .val (.ref w1), .val (.ref w2), .val (.ref u12), .val (.ref u13), .val (.ref b5), .val (.ref b10), .val .null, .val .null, .val (.ref b63), .val (.ref b65)] [(.ref b65)])
          obtain ⟨cq67, kq67, qa67, qb67, qc67⟩ := isOf hZ e66 Exa_b65
          obtain ⟨_, _, ⟨T67, L67, k67, n67⟩, -, X67, ⟨Lc67, hQ67, l67, y67, z67⟩, st67⟩ := X66.virtualBack hx (y := (⟨"com/example/always_once/alwaysonce/ledger/Job", "definition", "()Ljava/lang/String;"⟩ : MethodName)) (z := (⟨"com/example/always_once/alwaysonce/ledger/Job", "definition", "()Ljava/lang/String;"⟩ : MethodName)) hown (mvT hZ (hw _ (List.mem_of_getElem? (i := 82) rfl))) (mvT hZ (hw _ (List.mem_of_getElem? (i := 83) rfl))) (notFace_of_selects (args := #[]) (mvT hZ (hw _ (List.mem_of_getElem? (i := 85) rfl)))) (mvT hZ (hw _ (List.mem_of_getElem? (i := 85) rfl))) (mvT hZ (hw _ (List.mem_of_getElem? (i := 84) rfl))) (by decide) (backOf (W := 0) (rmA_definition l Z a0 hw [] b65 b5 h65 n0 O65 F_definition_b65) hZ (hw _ (List.mem_of_getElem? (i := 86) rfl)) (hw _ (List.mem_of_getElem? (i := 44) rfl)) (by decide) (by decide)) qa67 qc67 (g := (mkF m 239 #[.val (.long p1), .second, .val (.long p2), .second, .val (.long p3), .second, .val (.long p4), .second, .val (.int p5), .val (.int p6), .val (.ref w1), .val (.ref w2), .val (.ref u12), .val (.ref u13), .val (.ref b5), .val (.ref b10), .val .null, .val .null, .val (.ref b63), .val (.ref b65)] [(.ref b65)])) rfl (by rw [hml]; rfl) (Steps.refl _) (argsL := []) (rest := []) (lenOf pd_rm0_5 rfl) rfl (by show 2 * 0 + _ ≤ _; exact Nat.le_of_eq rfl) (hb hby at_239) (fun _ _ => ⟨rfl, e66, (by decide : 8 + 0 ≤ _), (by decide : 28 + 0 ≤ _)⟩)
          dsimp only [Pt.U, Pt.locs, Pt.cells, Pt.slots] at X67 l67 y67 z67 st67 hQ67
          subst l67 y67 z67
          obtain ⟨rfl, Nq67, e67⟩ := hQ67
          have N67 := Fr.app N66 Nq67
          refine Gl.st (fun _ kk => st67.trans kk) ?_
          show Gl p e below s _ _ _ T67 (mkF m 242 #[.val (.long p1), .second, .val (.long p2), .second, .val (.long p3), .second, .val (.long p4), .second, .val (.int p5), .val (.int p6), .val (.ref w1), .val (.ref w2), .val (.ref u12), .val (.ref u13), .val (.ref b5), .val (.ref b10), .val .null, .val .null, .val (.ref b63), .val (.ref b65)] [(.ref b5)])
          refine Gl.st (fun _ kk => XS.aload X67.here hx rfl (hb hby at_242) rfl rfl kk) ?_
          show Gl p e below s _ _ _ T67 (mkF m 244 #[.val (.long p1), .second, .val (.long p2), .second, .val (.long p3), .second, .val (.long p4), .second, .val (.int p5), .val (.int p6), .val (.ref w1), .val (.ref w2), .val (.ref u12), .val (.ref u13), .val (.ref b5), .val (.ref b10), .val .null, .val .null, .val (.ref b63), .val (.ref b65)] [(.ref b5), (.ref b5)])
          refine Gl.st (fun _ kk => Jvm.RoadKit.acmp (g := (mkF m 244 #[.val (.long p1), .second, .val (.long p2), .second, .val (.long p3), .second, .val (.long p4), .second, .val (.int p5), .val (.int p6), .val (.ref w1), .val (.ref w2), .val (.ref u12), .val (.ref u13), .val (.ref b5), .val (.ref b10), .val .null, .val .null, .val (.ref b63), .val (.ref b65)] [(.ref b5), (.ref b5)])) X67 hx rfl rfl rfl (pc0 := 244) (pc' := 247) (same := true) rfl (hb hby at_244) rfl (decide_eq_true rfl) (by decide) (by decide) kk) ?_
          show Gl p e below s _ _ _ T67 (mkF m 247 #[.val (.long p1), .second, .val (.long p2), .second, .val (.long p3), .second, .val (.long p4), .second, .val (.int p5), .val (.int p6), .val (.ref w1), .val (.ref w2), .val (.ref u12), .val (.ref u13), .val (.ref b5), .val (.ref b10), .val .null, .val .null, .val (.ref b63), .val (.ref b65)] [])
          refine Gl.st (fun _ kk => XS.aload X67.here hx rfl (hb hby at_247) rfl rfl kk) ?_
          show Gl p e below s _ _ _ T67 (mkF m 249 #[.val (.long p1), .second, .val (.long p2), .second, .val (.long p3), .second, .val (.long p4), .second, .val (.int p5), .val (.int p6), .val (.ref w1), .val (.ref w2), .val (.ref u12), .val (.ref u13), .val (.ref b5), .val (.ref b10), .val .null, .val .null, .val (.ref b63), .val (.ref b65)] [(.ref b65)])
          obtain ⟨cq68, kq68, qa68, qb68, qc68⟩ := isOf hZ e67 Exa_b65
          obtain ⟨_, _, ⟨T68, L68, k68, n68⟩, -, X68, ⟨Lc68, hQ68, l68, y68, z68⟩, st68⟩ := X67.virtualBack hx (y := (⟨"com/example/always_once/alwaysonce/ledger/Job", "file", "()Ljava/lang/String;"⟩ : MethodName)) (z := (⟨"com/example/always_once/alwaysonce/ledger/Job", "file", "()Ljava/lang/String;"⟩ : MethodName)) hown (mvT hZ (hw _ (List.mem_of_getElem? (i := 87) rfl))) (mvT hZ (hw _ (List.mem_of_getElem? (i := 88) rfl))) (notFace_of_selects (args := #[]) (mvT hZ (hw _ (List.mem_of_getElem? (i := 90) rfl)))) (mvT hZ (hw _ (List.mem_of_getElem? (i := 90) rfl))) (mvT hZ (hw _ (List.mem_of_getElem? (i := 89) rfl))) (by decide) (backOf (W := 0) (rmA_file l Z a0 hw [] b65 b10 h65 n0 O65 F_file_b65) hZ (hw _ (List.mem_of_getElem? (i := 91) rfl)) (hw _ (List.mem_of_getElem? (i := 44) rfl)) (by decide) (by decide)) qa68 qc68 (g := (mkF m 249 #[.val (.long p1), .second, .val (.long p2), .second, .val (.long p3), .second, .val (.long p4), .second, .val (.int p5), .val (.int p6), .val (.ref w1), .val (.ref w2), .val (.ref u12), .val (.ref u13), .val (.ref b5), .val (.ref b10), .val .null, .val .null, .val (.ref b63), .val (.ref b65)] [(.ref b65)])) rfl (by rw [hml]; rfl) (Steps.refl _) (argsL := []) (rest := []) (lenOf pd_rm0_5 rfl) rfl (by show 2 * 0 + _ ≤ _; exact Nat.le_of_eq rfl) (hb hby at_249) (fun _ _ => ⟨rfl, e67, (by decide : 8 + 0 ≤ _), (by decide : 28 + 0 ≤ _)⟩)
          dsimp only [Pt.U, Pt.locs, Pt.cells, Pt.slots] at X68 l68 y68 z68 st68 hQ68
          subst l68 y68 z68
          obtain ⟨rfl, Nq68, e68⟩ := hQ68
          have N68 := Fr.app N67 Nq68
          refine Gl.st (fun _ kk => st68.trans kk) ?_
          show Gl p e below s _ _ _ T68 (mkF m 252 #[.val (.long p1), .second, .val (.long p2), .second, .val (.long p3), .second, .val (.long p4), .second, .val (.int p5), .val (.int p6), .val (.ref w1), .val (.ref w2), .val (.ref u12), .val (.ref u13), .val (.ref b5), .val (.ref b10), .val .null, .val .null, .val (.ref b63), .val (.ref b65)] [(.ref b10)])
          refine Gl.st (fun _ kk => XS.aload X68.here hx rfl (hb hby at_252) rfl rfl kk) ?_
          show Gl p e below s _ _ _ T68 (mkF m 254 #[.val (.long p1), .second, .val (.long p2), .second, .val (.long p3), .second, .val (.long p4), .second, .val (.int p5), .val (.int p6), .val (.ref w1), .val (.ref w2), .val (.ref u12), .val (.ref u13), .val (.ref b5), .val (.ref b10), .val .null, .val .null, .val (.ref b63), .val (.ref b65)] [(.ref b10), (.ref b10)])
          refine Gl.st (fun _ kk => Jvm.RoadKit.acmp (g := (mkF m 254 #[.val (.long p1), .second, .val (.long p2), .second, .val (.long p3), .second, .val (.long p4), .second, .val (.int p5), .val (.int p6), .val (.ref w1), .val (.ref w2), .val (.ref u12), .val (.ref u13), .val (.ref b5), .val (.ref b10), .val .null, .val .null, .val (.ref b63), .val (.ref b65)] [(.ref b10), (.ref b10)])) X68 hx rfl rfl rfl (pc0 := 254) (pc' := 257) (same := true) rfl (hb hby at_254) rfl (decide_eq_true rfl) (by decide) (by decide) kk) ?_
          show Gl p e below s _ _ _ T68 (mkF m 257 #[.val (.long p1), .second, .val (.long p2), .second, .val (.long p3), .second, .val (.long p4), .second, .val (.int p5), .val (.int p6), .val (.ref w1), .val (.ref w2), .val (.ref u12), .val (.ref u13), .val (.ref b5), .val (.ref b10), .val .null, .val .null, .val (.ref b63), .val (.ref b65)] [])
          refine Gl.st (fun _ kk => XS.aload X68.here hx rfl (hb hby at_257) rfl rfl kk) ?_
          show Gl p e below s _ _ _ T68 (mkF m 259 #[.val (.long p1), .second, .val (.long p2), .second, .val (.long p3), .second, .val (.long p4), .second, .val (.int p5), .val (.int p6), .val (.ref w1), .val (.ref w2), .val (.ref u12), .val (.ref u13), .val (.ref b5), .val (.ref b10), .val .null, .val .null, .val (.ref b63), .val (.ref b65)] [(.ref b65)])
          obtain ⟨cq69, kq69, qa69, qb69, qc69⟩ := isOf hZ e68 Exa_b65
          obtain ⟨_, _, ⟨T69, L69, k69, n69⟩, -, X69, ⟨Lc69, hQ69, l69, y69, z69⟩, st69⟩ := X68.virtualBack hx (y := (⟨"com/example/always_once/alwaysonce/ledger/Job", "status", "()Lcom/example/always_once/alwaysonce/ledger/JobStatus;"⟩ : MethodName)) (z := (⟨"com/example/always_once/alwaysonce/ledger/Job", "status", "()Lcom/example/always_once/alwaysonce/ledger/JobStatus;"⟩ : MethodName)) hown (mvT hZ (hw _ (List.mem_of_getElem? (i := 92) rfl))) (mvT hZ (hw _ (List.mem_of_getElem? (i := 93) rfl))) (notFace_of_selects (args := #[]) (mvT hZ (hw _ (List.mem_of_getElem? (i := 95) rfl)))) (mvT hZ (hw _ (List.mem_of_getElem? (i := 95) rfl))) (mvT hZ (hw _ (List.mem_of_getElem? (i := 94) rfl))) (by decide) (backOf (W := 0) (rmA_status l Z a0 hw [] b65 w2 h65 n0 O65 F_status_b65) hZ (hw _ (List.mem_of_getElem? (i := 96) rfl)) (hw _ (List.mem_of_getElem? (i := 44) rfl)) (by decide) (by decide)) qa69 qc69 (g := (mkF m 259 #[.val (.long p1), .second, .val (.long p2), .second, .val (.long p3), .second, .val (.long p4), .second, .val (.int p5), .val (.int p6), .val (.ref w1), .val (.ref w2), .val (.ref u12), .val (.ref u13), .val (.ref b5), .val (.ref b10), .val .null, .val .null, .val (.ref b63), .val (.ref b65)] [(.ref b65)])) rfl (by rw [hml]; rfl) (Steps.refl _) (argsL := []) (rest := []) (lenOf pd_rm0_6 rfl) rfl (by show 2 * 0 + _ ≤ _; exact Nat.le_of_eq rfl) (hb hby at_259) (fun _ _ => ⟨rfl, e68, (by decide : 8 + 0 ≤ _), (by decide : 28 + 0 ≤ _)⟩)
          dsimp only [Pt.U, Pt.locs, Pt.cells, Pt.slots] at X69 l69 y69 z69 st69 hQ69
          subst l69 y69 z69
          obtain ⟨rfl, Nq69, e69⟩ := hQ69
          have N69 := Fr.app N68 Nq69
          refine Gl.st (fun _ kk => st69.trans kk) ?_
          show Gl p e below s _ _ _ T69 (mkF m 262 #[.val (.long p1), .second, .val (.long p2), .second, .val (.long p3), .second, .val (.long p4), .second, .val (.int p5), .val (.int p6), .val (.ref w1), .val (.ref w2), .val (.ref u12), .val (.ref u13), .val (.ref b5), .val (.ref b10), .val .null, .val .null, .val (.ref b63), .val (.ref b65)] [(.ref w2)])
          refine Gl.st (fun _ kk => XS.aload X69.here hx rfl (hb hby at_262) rfl rfl kk) ?_
          show Gl p e below s _ _ _ T69 (mkF m 264 #[.val (.long p1), .second, .val (.long p2), .second, .val (.long p3), .second, .val (.long p4), .second, .val (.int p5), .val (.int p6), .val (.ref w1), .val (.ref w2), .val (.ref u12), .val (.ref u13), .val (.ref b5), .val (.ref b10), .val .null, .val .null, .val (.ref b63), .val (.ref b65)] [(.ref w2), (.ref w2)])
          refine Gl.st (fun _ kk => Jvm.RoadKit.acmp (g := (mkF m 264 #[.val (.long p1), .second, .val (.long p2), .second, .val (.long p3), .second, .val (.long p4), .second, .val (.int p5), .val (.int p6), .val (.ref w1), .val (.ref w2), .val (.ref u12), .val (.ref u13), .val (.ref b5), .val (.ref b10), .val .null, .val .null, .val (.ref b63), .val (.ref b65)] [(.ref w2), (.ref w2)])) X69 hx rfl rfl rfl (pc0 := 264) (pc' := 267) (same := true) rfl (hb hby at_264) rfl (decide_eq_true rfl) (by decide) (by decide) kk) ?_
          show Gl p e below s _ _ _ T69 (mkF m 267 #[.val (.long p1), .second, .val (.long p2), .second, .val (.long p3), .second, .val (.long p4), .second, .val (.int p5), .val (.int p6), .val (.ref w1), .val (.ref w2), .val (.ref u12), .val (.ref u13), .val (.ref b5), .val (.ref b10), .val .null, .val .null, .val (.ref b63), .val (.ref b65)] [])
          refine Gl.st (fun _ kk => XS.aload X69.here hx rfl (hb hby at_267) rfl rfl kk) ?_
          show Gl p e below s _ _ _ T69 (mkF m 269 #[.val (.long p1), .second, .val (.long p2), .second, .val (.long p3), .second, .val (.long p4), .second, .val (.int p5), .val (.int p6), .val (.ref w1), .val (.ref w2), .val (.ref u12), .val (.ref u13), .val (.ref b5), .val (.ref b10), .val .null, .val .null, .val (.ref b63), .val (.ref b65)] [(.ref b65)])
          obtain ⟨cq70, kq70, qa70, qb70, qc70⟩ := isOf hZ e69 Exa_b65
          obtain ⟨_, _, ⟨T70, L70, k70, n70⟩, -, X70, ⟨Lc70, hQ70, l70, y70, z70⟩, st70⟩ := X69.virtualBack hx (y := (⟨"com/example/always_once/alwaysonce/ledger/Job", "counts", "()Lcom/example/always_once/alwaysonce/ledger/JobCounts;"⟩ : MethodName)) (z := (⟨"com/example/always_once/alwaysonce/ledger/Job", "counts", "()Lcom/example/always_once/alwaysonce/ledger/JobCounts;"⟩ : MethodName)) hown (mvT hZ (hw _ (List.mem_of_getElem? (i := 97) rfl))) (mvT hZ (hw _ (List.mem_of_getElem? (i := 98) rfl))) (notFace_of_selects (args := #[]) (mvT hZ (hw _ (List.mem_of_getElem? (i := 100) rfl)))) (mvT hZ (hw _ (List.mem_of_getElem? (i := 100) rfl))) (mvT hZ (hw _ (List.mem_of_getElem? (i := 99) rfl))) (by decide) (backOf (W := 0) (rmA_counts l Z a0 hw [] b65 u13 h65 n0 O65 F_counts_b65) hZ (hw _ (List.mem_of_getElem? (i := 101) rfl)) (hw _ (List.mem_of_getElem? (i := 44) rfl)) (by decide) (by decide)) qa70 qc70 (g := (mkF m 269 #[.val (.long p1), .second, .val (.long p2), .second, .val (.long p3), .second, .val (.long p4), .second, .val (.int p5), .val (.int p6), .val (.ref w1), .val (.ref w2), .val (.ref u12), .val (.ref u13), .val (.ref b5), .val (.ref b10), .val .null, .val .null, .val (.ref b63), .val (.ref b65)] [(.ref b65)])) rfl (by rw [hml]; rfl) (Steps.refl _) (argsL := []) (rest := []) (lenOf pd_rm0_7 rfl) rfl (by show 2 * 0 + _ ≤ _; exact Nat.le_of_eq rfl) (hb hby at_269) (fun _ _ => ⟨rfl, e69, (by decide : 8 + 0 ≤ _), (by decide : 28 + 0 ≤ _)⟩)
          dsimp only [Pt.U, Pt.locs, Pt.cells, Pt.slots] at X70 l70 y70 z70 st70 hQ70
          subst l70 y70 z70
          obtain ⟨rfl, Nq70, e70⟩ := hQ70
          have N70 := Fr.app N69 Nq70
          refine Gl.st (fun _ kk => st70.trans kk) ?_
          show Gl p e below s _ _ _ T70 (mkF m 272 #[.val (.long p1), .second, .val (.long p2), .second, .val (.long p3), .second, .val (.long p4), .second, .val (.int p5), .val (.int p6), .val (.ref w1), .val (.ref w2), .val (.ref u12), .val (.ref u13), .val (.ref b5), .val (.ref b10), .val .null, .val .null, .val (.ref b63), .val (.ref b65)] [(.ref u13)])
          refine Gl.st (fun _ kk => XS.aload X70.here hx rfl (hb hby at_272) rfl rfl kk) ?_
          show Gl p e below s _ _ _ T70 (mkF m 274 #[.val (.long p1), .second, .val (.long p2), .second, .val (.long p3), .second, .val (.long p4), .second, .val (.int p5), .val (.int p6), .val (.ref w1), .val (.ref w2), .val (.ref u12), .val (.ref u13), .val (.ref b5), .val (.ref b10), .val .null, .val .null, .val (.ref b63), .val (.ref b65)] [(.ref u13), (.ref u13)])
          refine Gl.st (fun _ kk => Jvm.RoadKit.acmp (g := (mkF m 274 #[.val (.long p1), .second, .val (.long p2), .second, .val (.long p3), .second, .val (.long p4), .second, .val (.int p5), .val (.int p6), .val (.ref w1), .val (.ref w2), .val (.ref u12), .val (.ref u13), .val (.ref b5), .val (.ref b10), .val .null, .val .null, .val (.ref b63), .val (.ref b65)] [(.ref u13), (.ref u13)])) X70 hx rfl rfl rfl (pc0 := 274) (pc' := 277) (same := true) rfl (hb hby at_274) rfl (decide_eq_true rfl) (by decide) (by decide) kk) ?_
          show Gl p e below s _ _ _ T70 (mkF m 277 #[.val (.long p1), .second, .val (.long p2), .second, .val (.long p3), .second, .val (.long p4), .second, .val (.int p5), .val (.int p6), .val (.ref w1), .val (.ref w2), .val (.ref u12), .val (.ref u13), .val (.ref b5), .val (.ref b10), .val .null, .val .null, .val (.ref b63), .val (.ref b65)] [])
          refine Gl.st (fun _ kk => XS.aload X70.here hx rfl (hb hby at_277) rfl rfl kk) ?_
          show Gl p e below s _ _ _ T70 (mkF m 279 #[.val (.long p1), .second, .val (.long p2), .second, .val (.long p3), .second, .val (.long p4), .second, .val (.int p5), .val (.int p6), .val (.ref w1), .val (.ref w2), .val (.ref u12), .val (.ref u13), .val (.ref b5), .val (.ref b10), .val .null, .val .null, .val (.ref b63), .val (.ref b65)] [(.ref b65)])
          obtain ⟨cq71, kq71, qa71, qb71, qc71⟩ := isOf hZ e70 Exa_b65
          obtain ⟨_, _, ⟨T71, L71, k71, n71⟩, -, X71, ⟨Lc71, hQ71, l71, y71, z71⟩, st71⟩ := X70.virtualBack hx (y := (⟨"com/example/always_once/alwaysonce/ledger/Job", "size", "()J"⟩ : MethodName)) (z := (⟨"com/example/always_once/alwaysonce/ledger/Job", "size", "()J"⟩ : MethodName)) hown (mvT hZ (hw _ (List.mem_of_getElem? (i := 102) rfl))) (mvT hZ (hw _ (List.mem_of_getElem? (i := 103) rfl))) (notFace_of_selects (args := #[]) (mvT hZ (hw _ (List.mem_of_getElem? (i := 105) rfl)))) (mvT hZ (hw _ (List.mem_of_getElem? (i := 105) rfl))) (mvT hZ (hw _ (List.mem_of_getElem? (i := 104) rfl))) (by decide) (backOf (W := 0) (rmA_size l Z a0 hw [] b65 p2 h65 n0 O65 F_size_b65) hZ (hw _ (List.mem_of_getElem? (i := 106) rfl)) (hw _ (List.mem_of_getElem? (i := 44) rfl)) (by decide) (by decide)) qa71 qc71 (g := (mkF m 279 #[.val (.long p1), .second, .val (.long p2), .second, .val (.long p3), .second, .val (.long p4), .second, .val (.int p5), .val (.int p6), .val (.ref w1), .val (.ref w2), .val (.ref u12), .val (.ref u13), .val (.ref b5), .val (.ref b10), .val .null, .val .null, .val (.ref b63), .val (.ref b65)] [(.ref b65)])) rfl (by rw [hml]; rfl) (Steps.refl _) (argsL := []) (rest := []) (lenOf pd_rm0_4 rfl) rfl (by show 2 * 0 + _ ≤ _; exact Nat.le_of_eq rfl) (hb hby at_279) (fun _ _ => ⟨rfl, e70, (by decide : 8 + 0 ≤ _), (by decide : 28 + 0 ≤ _)⟩)
          dsimp only [Pt.U, Pt.locs, Pt.cells, Pt.slots] at X71 l71 y71 z71 st71 hQ71
          subst l71 y71 z71
          obtain ⟨rfl, Nq71, e71⟩ := hQ71
          have N71 := Fr.app N70 Nq71
          refine Gl.st (fun _ kk => st71.trans kk) ?_
          show Gl p e below s _ _ _ T71 (mkF m 282 #[.val (.long p1), .second, .val (.long p2), .second, .val (.long p3), .second, .val (.long p4), .second, .val (.int p5), .val (.int p6), .val (.ref w1), .val (.ref w2), .val (.ref u12), .val (.ref u13), .val (.ref b5), .val (.ref b10), .val .null, .val .null, .val (.ref b63), .val (.ref b65)] [(.long p2)])
          refine Gl.st (fun _ kk => XS.lloadN X71.here hx rfl (hb hby at_282) rfl kk) ?_
          show Gl p e below s _ _ _ T71 (mkF m 283 #[.val (.long p1), .second, .val (.long p2), .second, .val (.long p3), .second, .val (.long p4), .second, .val (.int p5), .val (.int p6), .val (.ref w1), .val (.ref w2), .val (.ref u12), .val (.ref u13), .val (.ref b5), .val (.ref b10), .val .null, .val .null, .val (.ref b63), .val (.ref b65)] [(.long p2), (.long p2)])
          refine Gl.st (fun _ kk => XS.lcmp X71.here hx rfl (hb hby at_283) rfl kk) ?_
          show Gl p e below s _ _ _ T71 (mkF m 284 #[.val (.long p1), .second, .val (.long p2), .second, .val (.long p3), .second, .val (.long p4), .second, .val (.int p5), .val (.int p6), .val (.ref w1), .val (.ref w2), .val (.ref u12), .val (.ref u13), .val (.ref b5), .val (.ref b10), .val .null, .val .null, .val (.ref b63), .val (.ref b65)] [(.int (lcmpW p2 p2))])
          refine Gl.st (fun _ kk => XS.ifNo X71.here hx rfl (hb hby at_284) rfl ((if0 _ _).trans (teq ((lw_eq _ _).mpr rfl : (lcmpW p2 p2) = (0 : Int32))).2) kk) ?_
          show Gl p e below s _ _ _ T71 (mkF m 287 #[.val (.long p1), .second, .val (.long p2), .second, .val (.long p3), .second, .val (.long p4), .second, .val (.int p5), .val (.int p6), .val (.ref w1), .val (.ref w2), .val (.ref u12), .val (.ref u13), .val (.ref b5), .val (.ref b10), .val .null, .val .null, .val (.ref b63), .val (.ref b65)] [])
          refine Gl.st (fun _ kk => XS.aload X71.here hx rfl (hb hby at_287) rfl rfl kk) ?_
          show Gl p e below s _ _ _ T71 (mkF m 289 #[.val (.long p1), .second, .val (.long p2), .second, .val (.long p3), .second, .val (.long p4), .second, .val (.int p5), .val (.int p6), .val (.ref w1), .val (.ref w2), .val (.ref u12), .val (.ref u13), .val (.ref b5), .val (.ref b10), .val .null, .val .null, .val (.ref b63), .val (.ref b65)] [(.ref b65)])
          obtain ⟨cq72, kq72, qa72, qb72, qc72⟩ := isOf hZ e71 Exa_b65
          obtain ⟨_, _, ⟨T72, L72, k72, n72⟩, -, X72, ⟨Lc72, hQ72, l72, y72, z72⟩, st72⟩ := X71.virtualBack hx (y := (⟨"com/example/always_once/alwaysonce/ledger/Job", "read", "()J"⟩ : MethodName)) (z := (⟨"com/example/always_once/alwaysonce/ledger/Job", "read", "()J"⟩ : MethodName)) hown (mvT hZ (hw _ (List.mem_of_getElem? (i := 107) rfl))) (mvT hZ (hw _ (List.mem_of_getElem? (i := 108) rfl))) (notFace_of_selects (args := #[]) (mvT hZ (hw _ (List.mem_of_getElem? (i := 110) rfl)))) (mvT hZ (hw _ (List.mem_of_getElem? (i := 110) rfl))) (mvT hZ (hw _ (List.mem_of_getElem? (i := 109) rfl))) (by decide) (backOf (W := 0) (rmA_read l Z a0 hw [] b65 p4 h65 n0 O65 F_read_b65) hZ (hw _ (List.mem_of_getElem? (i := 111) rfl)) (hw _ (List.mem_of_getElem? (i := 44) rfl)) (by decide) (by decide)) qa72 qc72 (g := (mkF m 289 #[.val (.long p1), .second, .val (.long p2), .second, .val (.long p3), .second, .val (.long p4), .second, .val (.int p5), .val (.int p6), .val (.ref w1), .val (.ref w2), .val (.ref u12), .val (.ref u13), .val (.ref b5), .val (.ref b10), .val .null, .val .null, .val (.ref b63), .val (.ref b65)] [(.ref b65)])) rfl (by rw [hml]; rfl) (Steps.refl _) (argsL := []) (rest := []) (lenOf pd_rm0_4 rfl) rfl (by show 2 * 0 + _ ≤ _; exact Nat.le_of_eq rfl) (hb hby at_289) (fun _ _ => ⟨rfl, e71, (by decide : 8 + 0 ≤ _), (by decide : 28 + 0 ≤ _)⟩)
          dsimp only [Pt.U, Pt.locs, Pt.cells, Pt.slots] at X72 l72 y72 z72 st72 hQ72
          subst l72 y72 z72
          obtain ⟨rfl, Nq72, e72⟩ := hQ72
          have N72 := Fr.app N71 Nq72
          refine Gl.st (fun _ kk => st72.trans kk) ?_
          show Gl p e below s _ _ _ T72 (mkF m 292 #[.val (.long p1), .second, .val (.long p2), .second, .val (.long p3), .second, .val (.long p4), .second, .val (.int p5), .val (.int p6), .val (.ref w1), .val (.ref w2), .val (.ref u12), .val (.ref u13), .val (.ref b5), .val (.ref b10), .val .null, .val .null, .val (.ref b63), .val (.ref b65)] [(.long p4)])
          refine Gl.st (fun _ kk => XS.lload X72.here hx rfl (hb hby at_292) rfl kk) ?_
          show Gl p e below s _ _ _ T72 (mkF m 294 #[.val (.long p1), .second, .val (.long p2), .second, .val (.long p3), .second, .val (.long p4), .second, .val (.int p5), .val (.int p6), .val (.ref w1), .val (.ref w2), .val (.ref u12), .val (.ref u13), .val (.ref b5), .val (.ref b10), .val .null, .val .null, .val (.ref b63), .val (.ref b65)] [(.long p4), (.long p4)])
          refine Gl.st (fun _ kk => XS.lcmp X72.here hx rfl (hb hby at_294) rfl kk) ?_
          show Gl p e below s _ _ _ T72 (mkF m 295 #[.val (.long p1), .second, .val (.long p2), .second, .val (.long p3), .second, .val (.long p4), .second, .val (.int p5), .val (.int p6), .val (.ref w1), .val (.ref w2), .val (.ref u12), .val (.ref u13), .val (.ref b5), .val (.ref b10), .val .null, .val .null, .val (.ref b63), .val (.ref b65)] [(.int (lcmpW p4 p4))])
          refine Gl.st (fun _ kk => XS.ifNo X72.here hx rfl (hb hby at_295) rfl ((if0 _ _).trans (teq ((lw_eq _ _).mpr rfl : (lcmpW p4 p4) = (0 : Int32))).2) kk) ?_
          show Gl p e below s _ _ _ T72 (mkF m 298 #[.val (.long p1), .second, .val (.long p2), .second, .val (.long p3), .second, .val (.long p4), .second, .val (.int p5), .val (.int p6), .val (.ref w1), .val (.ref w2), .val (.ref u12), .val (.ref u13), .val (.ref b5), .val (.ref b10), .val .null, .val .null, .val (.ref b63), .val (.ref b65)] [])
          refine Gl.st (fun _ kk => XS.aload X72.here hx rfl (hb hby at_298) rfl rfl kk) ?_
          show Gl p e below s _ _ _ T72 (mkF m 300 #[.val (.long p1), .second, .val (.long p2), .second, .val (.long p3), .second, .val (.long p4), .second, .val (.int p5), .val (.int p6), .val (.ref w1), .val (.ref w2), .val (.ref u12), .val (.ref u13), .val (.ref b5), .val (.ref b10), .val .null, .val .null, .val (.ref b63), .val (.ref b65)] [(.ref b65)])
          obtain ⟨cq73, kq73, qa73, qb73, qc73⟩ := isOf hZ e72 Exa_b65
          obtain ⟨_, _, ⟨T73, L73, k73, n73⟩, -, X73, ⟨Lc73, hQ73, l73, y73, z73⟩, st73⟩ := X72.virtualBack hx (y := (⟨"com/example/always_once/alwaysonce/ledger/Job", "failure", "()Ljava/lang/String;"⟩ : MethodName)) (z := (⟨"com/example/always_once/alwaysonce/ledger/Job", "failure", "()Ljava/lang/String;"⟩ : MethodName)) hown (mvT hZ (hw _ (List.mem_of_getElem? (i := 112) rfl))) (mvT hZ (hw _ (List.mem_of_getElem? (i := 113) rfl))) (notFace_of_selects (args := #[]) (mvT hZ (hw _ (List.mem_of_getElem? (i := 115) rfl)))) (mvT hZ (hw _ (List.mem_of_getElem? (i := 115) rfl))) (mvT hZ (hw _ (List.mem_of_getElem? (i := 114) rfl))) (by decide) (backOf (W := 0) (rmA_nofail l Z a0 hw [] b65  h65 n0 O65 F_failure_b65) hZ (hw _ (List.mem_of_getElem? (i := 116) rfl)) (hw _ (List.mem_of_getElem? (i := 44) rfl)) (by decide) (by decide)) qa73 qc73 (g := (mkF m 300 #[.val (.long p1), .second, .val (.long p2), .second, .val (.long p3), .second, .val (.long p4), .second, .val (.int p5), .val (.int p6), .val (.ref w1), .val (.ref w2), .val (.ref u12), .val (.ref u13), .val (.ref b5), .val (.ref b10), .val .null, .val .null, .val (.ref b63), .val (.ref b65)] [(.ref b65)])) rfl (by rw [hml]; rfl) (Steps.refl _) (argsL := []) (rest := []) (lenOf pd_rm0_5 rfl) rfl (by show 2 * 0 + _ ≤ _; exact Nat.le_of_eq rfl) (hb hby at_300) (fun _ _ => ⟨rfl, e72, (by decide : 8 + 0 ≤ _), (by decide : 28 + 0 ≤ _)⟩)
          dsimp only [Pt.U, Pt.locs, Pt.cells, Pt.slots] at X73 l73 y73 z73 st73 hQ73
          subst l73 y73 z73
          obtain ⟨rfl, Nq73, e73⟩ := hQ73
          have N73 := Fr.app N72 Nq73
          refine Gl.st (fun _ kk => st73.trans kk) ?_
          show Gl p e below s _ _ _ T73 (mkF m 303 #[.val (.long p1), .second, .val (.long p2), .second, .val (.long p3), .second, .val (.long p4), .second, .val (.int p5), .val (.int p6), .val (.ref w1), .val (.ref w2), .val (.ref u12), .val (.ref u13), .val (.ref b5), .val (.ref b10), .val .null, .val .null, .val (.ref b63), .val (.ref b65)] [.null])
          refine Gl.st (fun _ kk => XS.aload X73.here hx rfl (hb hby at_303) rfl rfl kk) ?_
          show Gl p e below s _ _ _ T73 (mkF m 305 #[.val (.long p1), .second, .val (.long p2), .second, .val (.long p3), .second, .val (.long p4), .second, .val (.int p5), .val (.int p6), .val (.ref w1), .val (.ref w2), .val (.ref u12), .val (.ref u13), .val (.ref b5), .val (.ref b10), .val .null, .val .null, .val (.ref b63), .val (.ref b65)] [.null, .null])
          refine Gl.st (fun _ kk => Jvm.RoadKit.acmp (g := (mkF m 305 #[.val (.long p1), .second, .val (.long p2), .second, .val (.long p3), .second, .val (.long p4), .second, .val (.int p5), .val (.int p6), .val (.ref w1), .val (.ref w2), .val (.ref u12), .val (.ref u13), .val (.ref b5), .val (.ref b10), .val .null, .val .null, .val (.ref b63), .val (.ref b65)] [.null, .null])) X73 hx rfl rfl rfl (pc0 := 305) (pc' := 308) (same := true) rfl (hb hby at_305) rfl (decide_eq_true rfl) (by decide) (by decide) kk) ?_
          show Gl p e below s _ _ _ T73 (mkF m 308 #[.val (.long p1), .second, .val (.long p2), .second, .val (.long p3), .second, .val (.long p4), .second, .val (.int p5), .val (.int p6), .val (.ref w1), .val (.ref w2), .val (.ref u12), .val (.ref u13), .val (.ref b5), .val (.ref b10), .val .null, .val .null, .val (.ref b63), .val (.ref b65)] [])
          refine Gl.st (fun _ kk => XS.iconst X73.here hx rfl (hb hby at_308) kk) ?_
          show Gl p e below s _ _ _ T73 (mkF m 309 #[.val (.long p1), .second, .val (.long p2), .second, .val (.long p3), .second, .val (.long p4), .second, .val (.int p5), .val (.int p6), .val (.ref w1), .val (.ref w2), .val (.ref u12), .val (.ref u13), .val (.ref b5), .val (.ref b10), .val .null, .val .null, .val (.ref b63), .val (.ref b65)] [(.int (1 : Int32))])
          refine Gl.st (fun _ kk => XS.goto X73.here hx rfl (pc0 := 309) (pc' := 313) rfl (hb hby at_309) (by decide) (by decide) kk) ?_
          show Gl p e below s _ _ _ T73 (mkF m 313 #[.val (.long p1), .second, .val (.long p2), .second, .val (.long p3), .second, .val (.long p4), .second, .val (.int p5), .val (.int p6), .val (.ref w1), .val (.ref w2), .val (.ref u12), .val (.ref u13), .val (.ref b5), .val (.ref b10), .val .null, .val .null, .val (.ref b63), .val (.ref b65)] [(.int (1 : Int32))])
          exact Gl.ret X73 (v := (some (.int (1 : Int32)))) (fun h => by rw [Bd.returns] at h; cases h) (BodyLoose.notSynchronized Bd) (fun hr => retN X73 hx (t := .boolean) Bd.returns (by simp) (hb hby at_313) hr) e73 ⟨rfl, N73⟩ (by decide) (by decide)
    by_cases hc50 : (((p5.toUInt32 >>> ((7 : Int32) &&& 31).toUInt32).toInt32) &&& (1 : Int32)) = (0 : Int32)
    · skip
      refine Gl.st (fun _ kk => XS.ifYes X3.here hx rfl (pc0 := 50) (pc' := 59) rfl (hb hby at_50) rfl ((if0 _ _).trans (teq hc50).1) (by decide) (by decide) kk) ?_
      show Gl p e below s _ _ _ T3 (mkF m 59 #[.val (.long p1), .second, .val (.long p2), .second, .val (.long p3), .second, .val (.long p4), .second, .val (.int p5), .val (.int p6), .val (.ref w1), .val (.ref w2), .val (.ref u12), .unset, .unset, .unset, .unset, .unset, .unset, .unset] [])
      obtain ⟨T74, X74, e74, st74⟩ := getS2 X3 hx hZ hown (host := "") (Or.inl (hw _ (List.mem_of_getElem? (i := 9) rfl))) Via.refl e3 (Sc_NONE.ext O0.2) (g := (mkF m 59 #[.val (.long p1), .second, .val (.long p2), .second, .val (.long p3), .second, .val (.long p4), .second, .val (.int p5), .val (.int p6), .val (.ref w1), .val (.ref w2), .val (.ref u12), .unset, .unset, .unset, .unset, .unset, .unset, .unset] [])) rfl (hb hby at_59)
      refine Gl.st st74 ?_
      show Gl p e below s _ _ _ T74 (mkF m 62 #[.val (.long p1), .second, .val (.long p2), .second, .val (.long p3), .second, .val (.long p4), .second, .val (.int p5), .val (.int p6), .val (.ref w1), .val (.ref w2), .val (.ref u12), .unset, .unset, .unset, .unset, .unset, .unset, .unset] [(.ref wc_NONE)])
      exact join62 wc_NONE  _ _ (Gl.wider X74 (by decide) (by decide)) e74 N3
    · skip
      refine Gl.st (fun _ kk => XS.ifNo X3.here hx rfl (hb hby at_50) rfl ((if0 _ _).trans (feq hc50).1) kk) ?_
      show Gl p e below s _ _ _ T3 (mkF m 53 #[.val (.long p1), .second, .val (.long p2), .second, .val (.long p3), .second, .val (.long p4), .second, .val (.int p5), .val (.int p6), .val (.ref w1), .val (.ref w2), .val (.ref u12), .unset, .unset, .unset, .unset, .unset, .unset, .unset] [])
      obtain ⟨T75, X75, e75, st75⟩ := getS2 X3 hx hZ hown (host := "") (Or.inl (hw _ (List.mem_of_getElem? (i := 119) rfl))) Via.refl e3 (Sc_HEADER_ONLY.ext O0.2) (g := (mkF m 53 #[.val (.long p1), .second, .val (.long p2), .second, .val (.long p3), .second, .val (.long p4), .second, .val (.int p5), .val (.int p6), .val (.ref w1), .val (.ref w2), .val (.ref u12), .unset, .unset, .unset, .unset, .unset, .unset, .unset] [])) rfl (hb hby at_53)
      refine Gl.st st75 ?_
      show Gl p e below s _ _ _ T75 (mkF m 56 #[.val (.long p1), .second, .val (.long p2), .second, .val (.long p3), .second, .val (.long p4), .second, .val (.int p5), .val (.int p6), .val (.ref w1), .val (.ref w2), .val (.ref u12), .unset, .unset, .unset, .unset, .unset, .unset, .unset] [(.ref wc_HEADER_ONLY)])
      refine Gl.st (fun _ kk => XS.goto X75.here hx rfl (pc0 := 56) (pc' := 62) rfl (hb hby at_56) (by decide) (by decide) kk) ?_
      show Gl p e below s _ _ _ T75 (mkF m 62 #[.val (.long p1), .second, .val (.long p2), .second, .val (.long p3), .second, .val (.long p4), .second, .val (.int p5), .val (.int p6), .val (.ref w1), .val (.ref w2), .val (.ref u12), .unset, .unset, .unset, .unset, .unset, .unset, .unset] [(.ref wc_HEADER_ONLY)])
      exact join62 wc_HEADER_ONLY  _ _ (Gl.wider X75 (by decide) (by decide)) e75 N3
  by_cases hc29 : (((p5.toUInt32 >>> ((6 : Int32) &&& 31).toUInt32).toInt32) &&& (1 : Int32)) = (0 : Int32)
  · skip
    refine Gl.st (fun _ kk => XS.ifYes X2.here hx rfl (pc0 := 29) (pc' := 38) rfl (hb hby at_29) rfl ((if0 _ _).trans (teq hc29).1) (by decide) (by decide) kk) ?_
    show Gl p e below s _ _ _ T2 (mkF m 38 #[.val (.long p1), .second, .val (.long p2), .second, .val (.long p3), .second, .val (.long p4), .second, .val (.int p5), .val (.int p6), .val (.ref w1), .val (.ref w2), .unset, .unset, .unset, .unset, .unset, .unset, .unset, .unset] [])
    obtain ⟨T76, X76, e76, st76⟩ := getS2 X2 hx hZ hown (host := "") (Or.inl (hw _ (List.mem_of_getElem? (i := 9) rfl))) Via.refl e2 (Sc_NONE.ext O0.2) (g := (mkF m 38 #[.val (.long p1), .second, .val (.long p2), .second, .val (.long p3), .second, .val (.long p4), .second, .val (.int p5), .val (.int p6), .val (.ref w1), .val (.ref w2), .unset, .unset, .unset, .unset, .unset, .unset, .unset, .unset] [])) rfl (hb hby at_38)
    refine Gl.st st76 ?_
    show Gl p e below s _ _ _ T76 (mkF m 41 #[.val (.long p1), .second, .val (.long p2), .second, .val (.long p3), .second, .val (.long p4), .second, .val (.int p5), .val (.int p6), .val (.ref w1), .val (.ref w2), .unset, .unset, .unset, .unset, .unset, .unset, .unset, .unset] [(.ref wc_NONE)])
    exact join41 wc_NONE  _ _ (Gl.wider X76 (by decide) (by decide)) e76 N2
  · skip
    refine Gl.st (fun _ kk => XS.ifNo X2.here hx rfl (hb hby at_29) rfl ((if0 _ _).trans (feq hc29).1) kk) ?_
    show Gl p e below s _ _ _ T2 (mkF m 32 #[.val (.long p1), .second, .val (.long p2), .second, .val (.long p3), .second, .val (.long p4), .second, .val (.int p5), .val (.int p6), .val (.ref w1), .val (.ref w2), .unset, .unset, .unset, .unset, .unset, .unset, .unset, .unset] [])
    obtain ⟨T77, X77, e77, st77⟩ := getS2 X2 hx hZ hown (host := "") (Or.inl (hw _ (List.mem_of_getElem? (i := 119) rfl))) Via.refl e2 (Sc_HEADER_ONLY.ext O0.2) (g := (mkF m 32 #[.val (.long p1), .second, .val (.long p2), .second, .val (.long p3), .second, .val (.long p4), .second, .val (.int p5), .val (.int p6), .val (.ref w1), .val (.ref w2), .unset, .unset, .unset, .unset, .unset, .unset, .unset, .unset] [])) rfl (hb hby at_32)
    refine Gl.st st77 ?_
    show Gl p e below s _ _ _ T77 (mkF m 35 #[.val (.long p1), .second, .val (.long p2), .second, .val (.long p3), .second, .val (.long p4), .second, .val (.int p5), .val (.int p6), .val (.ref w1), .val (.ref w2), .unset, .unset, .unset, .unset, .unset, .unset, .unset, .unset] [(.ref wc_HEADER_ONLY)])
    refine Gl.st (fun _ kk => XS.goto X77.here hx rfl (pc0 := 35) (pc' := 41) rfl (hb hby at_35) (by decide) (by decide) kk) ?_
    show Gl p e below s _ _ _ T77 (mkF m 41 #[.val (.long p1), .second, .val (.long p2), .second, .val (.long p3), .second, .val (.long p4), .second, .val (.int p5), .val (.int p6), .val (.ref w1), .val (.ref w2), .unset, .unset, .unset, .unset, .unset, .unset, .unset, .unset] [(.ref wc_HEADER_ONLY)])
    exact join41 wc_HEADER_ONLY  _ _ (Gl.wider X77 (by decide) (by decide)) e77 N2
set_option maxRecDepth 65536 in
set_option maxHeartbeats 40000000 in
theorem comes_1 {Post : Tables → Env → Array Value → State → Outcome → State → Prop} (hpost : ∀ tb e args s v u, (limb_1_1.after args s (.returned v) u = true ∧ limb_1_2.after args s (.returned v) u = true ∧ True) → FrameEnd s (.returned v) u (Jvm.fieldLocs frame_1_writes args s ++ Jvm.arrayLocs frame_1_arrays args s ++ Jvm.staticLocs frame_1_statics s) 40 192 → Post tb e args s (.returned v) u) :
    ArmFor flags0 classFile x code maxLocals ret World_1 tables_1 room_1 Calls_1 rest_1 Pre_1 Post := by
  intro l hfl _ _ p e ha hc hk s m args below hf hA hF happ hP
  obtain ⟨hcalls, hrest, hpre⟩ := hP
  obtain ⟨-, -, -, hnamed, -, -, -, hat⟩ := (Spec.applies_iff hf).mp happ
  obtain ⟨hg, hn⟩ := and_e (Cond.before_iff.mp (show (Jvm.Cond.and given_1 narrow_1).before args s = true from hpre))
  obtain ⟨g1a, g1b⟩ := and_e hg
  obtain ⟨g2a, g2b⟩ := and_e g1b
  obtain ⟨g3a, g3b⟩ := and_e g2b
  obtain ⟨g4a, g4b⟩ := and_e g3b
  obtain ⟨g5a, g5b⟩ := and_e g4b
  obtain ⟨g6a, g6b⟩ := and_e g5b
  obtain ⟨w0, w1, w2, w3, w4, w5, rfl⟩ : ∃ w0 w1 w2 w3 w4 w5 : Value, args = #[w0, w1, w2, w3, w4, w5] := by
    have hs : args.size = 6 := by simpa [Cond.value, given_1] using g1a
    obtain ⟨L⟩ := args
    match L, hs with
    | [w0, w1, w2, w3, w4, w5], _ => exact ⟨w0, w1, w2, w3, w4, w5, rfl⟩
  have hw := fun d (hd : d ∈ tables_1) => atoms_spec (ws := Jvm.Cond.code x code maxLocals ret :: tables_1) hat d (List.mem_cons_of_mem _ hd)
  have hfit : Fit s := fun {y c} hc i hi => by
    obtain ⟨ha, rfl⟩ := Array.getElem?_eq_some_iff.mp hc
    have q := List.all_eq_true.mp ((Array.all_eq_true_iff_forall_mem.mp hF) _ (Array.getElem_mem ha)) i (List.mem_range.mpr hi)
    simpa [Array.getElem?_eq_getElem hi] using q
  obtain ⟨hsets, hown0⟩ := atoms_of _ (rest_1_c_eq ▸ (show rest_1_c.before _ s = true from hrest))
  have hr0 := Cond.before_iff.mp hown0
  obtain ⟨i0, ei0⟩ := isL_v g2a
  obtain rfl : w0 = (.long i0) := Option.some.inj ei0
  obtain ⟨i1, ei1⟩ := isL_v g3a
  obtain rfl : w1 = (.long i1) := Option.some.inj ei1
  obtain ⟨i2, ei2⟩ := isL_v g4a
  obtain rfl : w2 = (.long i2) := Option.some.inj ei2
  obtain ⟨i3, ei3⟩ := isL_v g5a
  obtain rfl : w3 = (.long i3) := Option.some.inj ei3
  obtain ⟨i4, ei4⟩ := is_v g6a
  obtain rfl : w4 = (.int i4) := Option.some.inj ei4
  obtain ⟨i5, ei5⟩ := is_v g6b
  obtain rfl : w5 = (.int i5) := Option.some.inj ei5
  obtain ⟨g7a, g7b⟩ := and_e hn
  obtain ⟨g8a, g8b⟩ := and_e g7b
  obtain ⟨g9a, g9b⟩ := and_e g8b
  obtain ⟨g10a, g10b⟩ := and_e g9b
  obtain ⟨g11a, g11b⟩ := and_e g10b
  obtain ⟨g12a, g12b⟩ := and_e g11b
  obtain ⟨ws_COMPLETED, evs_COMPLETED⟩ := exa_v g7a
  have Es_COMPLETED := Exa.start evs_COMPLETED g7a
  have Ss_COMPLETED := Sta.start evs_COMPLETED (Or.inr ⟨(hw _ (List.mem_of_getElem? (i := 5) rfl)), (hw _ (List.mem_of_getElem? (i := 6) rfl))⟩)
  obtain ⟨ws_UPLOADED, evs_UPLOADED⟩ := exa_v g8a
  have Es_UPLOADED := Exa.start evs_UPLOADED g8a
  have Ss_UPLOADED := Sta.start evs_UPLOADED (Or.inr ⟨(hw _ (List.mem_of_getElem? (i := 5) rfl)), (hw _ (List.mem_of_getElem? (i := 8) rfl))⟩)
  obtain ⟨wc_NONE, evc_NONE⟩ := exa_v g9a
  have Ec_NONE := Exa.start evc_NONE g9a
  have Sc_NONE := Sta.start evc_NONE (Or.inr ⟨(hw _ (List.mem_of_getElem? (i := 10) rfl)), (hw _ (List.mem_of_getElem? (i := 11) rfl))⟩)
  obtain ⟨ws_PROCESSING, evs_PROCESSING⟩ := exa_v g10a
  have Es_PROCESSING := Exa.start evs_PROCESSING g10a
  have Ss_PROCESSING := Sta.start evs_PROCESSING (Or.inr ⟨(hw _ (List.mem_of_getElem? (i := 5) rfl)), (hw _ (List.mem_of_getElem? (i := 118) rfl))⟩)
  obtain ⟨wc_HEADER_ONLY, evc_HEADER_ONLY⟩ := exa_v g11a
  have Ec_HEADER_ONLY := Exa.start evc_HEADER_ONLY g11a
  have Sc_HEADER_ONLY := Sta.start evc_HEADER_ONLY (Or.inr ⟨(hw _ (List.mem_of_getElem? (i := 10) rfl)), (hw _ (List.mem_of_getElem? (i := 120) rfl))⟩)
  obtain ⟨ws_COLUMN_MAPPING, evs_COLUMN_MAPPING⟩ := exa_v g12a
  have Es_COLUMN_MAPPING := Exa.start evs_COLUMN_MAPPING g12a
  have Ss_COLUMN_MAPPING := Sta.start evs_COLUMN_MAPPING (Or.inr ⟨(hw _ (List.mem_of_getElem? (i := 5) rfl)), (hw _ (List.mem_of_getElem? (i := 122) rfl))⟩)
  obtain ⟨ws_FAILED, evs_FAILED⟩ := exa_v g12b
  have Es_FAILED := Exa.start evs_FAILED g12b
  have Ss_FAILED := Sta.start evs_FAILED (Or.inr ⟨(hw _ (List.mem_of_getElem? (i := 5) rfl)), (hw _ (List.mem_of_getElem? (i := 124) rfl))⟩)
  have ncz := not_v (Cond.before_iff.mp (hsets _ (List.mem_of_getElem? (i := 2) rfl)))
  obtain ⟨cz, ecz⟩ := is_v (Cond.before_iff.mp (hsets _ (List.mem_of_getElem? (i := 1) rfl)))
  have S_COMPACT : Sta s s.heap "java/lang/String" "COMPACT_STRINGS" "Z" (.int cz) := Sta.start ecz (Or.inl (hsets _ (List.mem_of_getElem? (i := 0) rfl)))
  have hcz : ¬ (cz = (0 : Int32)) := gotF (Cond.eq_ints ecz (Term.int_eval (0))) ncz
  obtain ⟨n, o, h1, h2, h3, _, L, rfl, ⟨rfl, N⟩, hq⟩ := rm0 l s _ hw tables_1 i0 i1 i2 i3 i4 i5 ws_UPLOADED ws_PROCESSING ws_COLUMN_MAPPING ws_COMPLETED ws_FAILED wc_NONE wc_HEADER_ONLY cz s.heap s.heap.size (Old.start s) Ss_UPLOADED Ss_PROCESSING Ss_COLUMN_MAPPING Ss_COMPLETED Ss_FAILED Es_UPLOADED Es_PROCESSING Es_COLUMN_MAPPING Es_COMPLETED Es_FAILED Sc_NONE Sc_HEADER_ONLY Ec_NONE Ec_HEADER_ONLY S_COMPACT hcz p e ha hc hk s m _ below hf ((Spec.applies_iff_loose hf).mp happ).1 ⟨rfl, State.Warmed39.refl s, rfl⟩ trivial
  refine ⟨n, _, h1, h2, h3, hpost _ _ _ _ _ _ ⟨Cond.after_iff.mpr rfl, Cond.after_iff.mpr (eq_i res_at (Term.int_eval (1)) rfl), trivial⟩ ⟨hq.1, hq.2.1, (hq.2.2.sift fun y hy => Or.inr (N y hy)).mono (by decide) (by decide)⟩⟩
theorem main_1_1 : Claimed_1_1 := comes_1 fun _ _ _ _ _ _ h hF => ⟨h.1, hF⟩
theorem main_1_2 : Claimed_1_2 := comes_1 fun _ _ _ _ _ _ h hF => ⟨h.2.1, hF⟩
end Jvm.Pilot.@@N@@
namespace Jvm.Pilot.@@N@@
open Jvm Jvm.ClassFile Sem Op Lib Jvm.Free Jvm.Stand Jvm.Pilot.@@N@@.Jvm.D
/-! MADE BY PROGRAM (witnessworld.py) out of the Statement's table words and the real class files: 24 classes; the members and pool entries that the words name. The judged class is class 1, her method 2. -/
namespace start1
open Jvm.ClassFile
def u (s : String) : CpInfo := .utf8 (stringToUtf16 s)
/-- a pool by its gaps: so many unusable entries, then the entry; so many at the end -/
def gap : Nat → List CpInfo → List CpInfo
  | 0, r => r
  | n + 1, r => .unusable :: gap n r
def poolList (es : List (Nat × CpInfo)) (last : Nat) : List CpInfo := es.foldr (fun e r => gap e.1 (e.2 :: r)) (gap last [])
def pool (es : List (Nat × CpInfo)) (last : Nat) : Array CpInfo := ⟨poolList es last⟩
def fileOf (pool : Array CpInfo) (this : Nat) (attrs : Array Attribute := #[]) (ms : Array MethodInfo := #[]) (fl : Nat := 33) (sup : Nat := 0) (ifs : Array Nat := #[]) (fds : Array FieldInfo := #[]) : ClassFile where
  minorVersion := 0
  majorVersion := 65
  constantPool := pool
  accessFlags := fl
  thisClass := this
  superClass := sup
  interfaces := ifs
  fields := fds
  methods := ms
  attributes := attrs
def plain (name : String) (sup : Option ClassId) : Class where
  name := name
  kind := .ordinary
  loader := none
  accessFlags := 33
  super := sup
  interfaces := #[]
  cf := none
  fields := #[]
  methods := #[]
  instanceTypes := #[]
  staticTypes := #[]
  resolved := #[]
  callSites := []
  init := .initialized
  statics := none
  mirror := none

def pool0 : Array CpInfo := pool [(5, u "<init>"), (0, u "()V"), (1, .class_ 10), (1, u "java/lang/Object")] 113

def k0c0 : Code := { maxStack := 0, maxLocals := 1, code := object_method_1_code, exceptionTable := #[], attributes := #[] }
def k0m0 : Method := { name := "<init>", desc := "()V", sig := { parameters := [], returnType := none }, accessFlags := 1, code := some k0c0 }
/-- java/lang/Object -/
def k0 : Class := { plain "java/lang/Object" none with
  accessFlags := 33
  interfaces := #[]
  cf := some (fileOf pool0 8 #[] #[{ accessFlags := 1, nameIndex := 5, descriptorIndex := 6, attributes := #[] }] 33 0 #[] #[])
  fields := #[]
  methods := #[k0m0]
  instanceTypes := #[]
  staticTypes := #[]
  resolved := Array.replicate 124 none
  statics := none }

def pool1 : Array CpInfo := pool [(2, .class_ 4), (1, u "java/lang/Object"), (0, u "<init>"), (0, u "()V"), (0, .fieldref 8 9), (0, .class_ 10), (0, .nameAndType 11 12), (0, u "com/example/always_once/alwaysonce/ledger/JobStatus"), (0, u "UPLOADED"), (0, u "Lcom/example/always_once/alwaysonce/ledger/JobStatus;"), (0, .fieldref 8 14), (0, .nameAndType 15 12), (0, u "PROCESSING"), (0, .fieldref 8 17), (0, .nameAndType 18 12), (0, u "COLUMN_MAPPING"), (0, .fieldref 8 20), (0, .nameAndType 21 12), (0, u "COMPLETED"), (0, .fieldref 8 23), (0, .nameAndType 24 12), (0, u "FAILED"), (0, .methodref 26 27), (0, .class_ 28), (0, .nameAndType 29 30), (0, u "com/example/always_once/alwaysonce/ledger/JobWithPinLaw"), (0, u "status"), (0, u "(I)Lcom/example/always_once/alwaysonce/ledger/JobStatus;"), (0, .fieldref 32 33), (0, .class_ 34), (0, .nameAndType 35 36), (0, u "com/example/always_once/alwaysonce/ledger/JobCounts"), (0, u "HEADER_ONLY"), (0, u "Lcom/example/always_once/alwaysonce/ledger/JobCounts;"), (0, .fieldref 32 38), (0, .nameAndType 39 36), (0, u "NONE"), (0, .class_ 41), (0, u "java/lang/String"), (0, .methodref 40 43), (0, .nameAndType 5 44), (0, u "([C)V"), (0, .class_ 46), (0, u "com/example/always_once/alwaysonce/ledger/Job"), (0, .methodref 45 48), (0, .nameAndType 5 49), (0, u "(JLjava/lang/String;Ljava/lang/String;Lcom/example/always_once/alwaysonce/ledger/JobStatus;Lcom/example/always_once/alwaysonce/ledger/JobCounts;JJLjava/lang/String;)V"), (0, .methodref 45 51), (0, .nameAndType 52 53), (0, u "with"), (0, u "(Lcom/example/always_once/alwaysonce/ledger/JobStatus;Lcom/example/always_once/alwaysonce/ledger/JobCounts;JLjava/lang/String;)Lcom/example/always_once/alwaysonce/ledger/Job;"), (0, .methodref 45 55), (0, .nameAndType 56 57), (0, u "id"), (0, u "()J"), (0, .methodref 45 59), (0, .nameAndType 60 61), (0, u "definition"), (0, u "()Ljava/lang/String;"), (0, .methodref 45 63), (0, .nameAndType 64 61), (0, u "file"), (0, .methodref 45 66), (0, .nameAndType 29 67), (0, u "()Lcom/example/always_once/alwaysonce/ledger/JobStatus;"), (0, .methodref 45 69), (0, .nameAndType 70 71), (0, u "counts"), (0, u "()Lcom/example/always_once/alwaysonce/ledger/JobCounts;"), (0, .methodref 45 73), (0, .nameAndType 74 57), (0, u "size"), (0, .methodref 45 76), (0, .nameAndType 77 57), (0, u "read"), (0, .methodref 45 79), (0, .nameAndType 80 61), (0, u "failure"), (3, u "law"), (0, u "(JJJJII)Z")] 2

def k1m0 : Method := { name := "<init>", desc := "()V", sig := { parameters := [], returnType := none }, accessFlags := 1, code := none }
def k1c1 : Code := { maxStack := 2, maxLocals := 2, code := method_2_code, exceptionTable := #[], attributes := #[] }
def k1m1 : Method := { name := "status", desc := "(I)Lcom/example/always_once/alwaysonce/ledger/JobStatus;", sig := { parameters := [.int], returnType := some (.object "com/example/always_once/alwaysonce/ledger/JobStatus") }, accessFlags := 10, code := some k1c1 }
def k1c2 : Code := { maxStack := 13, maxLocals := 20, code := code, exceptionTable := #[], attributes := #[] }
def k1m2 : Method := { name := "law", desc := "(JJJJII)Z", sig := { parameters := [.long, .long, .long, .long, .int, .int], returnType := some .boolean }, accessFlags := 9, code := some k1c2 }
/-- com/example/always_once/alwaysonce/ledger/JobWithPinLaw -/
def k1 : Class := { plain "com/example/always_once/alwaysonce/ledger/JobWithPinLaw" (some 0) with
  accessFlags := 49
  interfaces := #[]
  cf := some (fileOf pool1 26 #[] #[{ accessFlags := 1, nameIndex := 5, descriptorIndex := 6, attributes := #[] }, { accessFlags := 10, nameIndex := 29, descriptorIndex := 30, attributes := #[] }, { accessFlags := 9, nameIndex := 84, descriptorIndex := 85, attributes := #[] }] 49 2 #[] #[])
  fields := #[]
  methods := #[k1m0, k1m1, k1m2]
  instanceTypes := #[]
  staticTypes := #[]
  resolved := Array.replicate 88 none
  statics := none }

def pool2 : Array CpInfo := pool [(1, .class_ 2), (0, u "java/lang/constant/Constable"), (0, .class_ 4), (0, u "java/lang/Object")] 6

/-- java/lang/constant/Constable -/
def k2 : Class := { plain "java/lang/constant/Constable" (some 0) with
  accessFlags := 1537
  interfaces := #[]
  cf := some (fileOf pool2 1 #[] #[] 1537 3 #[] #[])
  fields := #[]
  methods := #[]
  instanceTypes := #[]
  staticTypes := #[]
  resolved := Array.replicate 11 none
  statics := none }

def pool3 : Array CpInfo := pool [(1, .class_ 2), (0, u "java/lang/Comparable"), (0, .class_ 4), (0, u "java/lang/Object")] 7

/-- java/lang/Comparable -/
def k3 : Class := { plain "java/lang/Comparable" (some 0) with
  accessFlags := 1537
  interfaces := #[]
  cf := some (fileOf pool3 1 #[] #[] 1537 3 #[] #[])
  fields := #[]
  methods := #[]
  instanceTypes := #[]
  staticTypes := #[]
  resolved := Array.replicate 12 none
  statics := none }

def pool4 : Array CpInfo := pool [(1, .class_ 2), (0, u "java/io/Serializable"), (0, .class_ 4), (0, u "java/lang/Object")] 2

/-- java/io/Serializable -/
def k4 : Class := { plain "java/io/Serializable" (some 0) with
  accessFlags := 1537
  interfaces := #[]
  cf := some (fileOf pool4 1 #[] #[] 1537 3 #[] #[])
  fields := #[]
  methods := #[]
  instanceTypes := #[]
  staticTypes := #[]
  resolved := Array.replicate 7 none
  statics := none }

def pool5 : Array CpInfo := pool [(2, .class_ 4), (1, u "java/lang/Enum"), (0, u "name"), (0, u "Ljava/lang/String;"), (2, u "ordinal"), (0, u "I"), (1, .class_ 14), (1, u "java/lang/Object"), (4, u "hash"), (86, .class_ 108), (1, u "java/lang/Enum$EnumDesc"), (2, .class_ 112), (0, u "java/lang/constant/Constable"), (0, .class_ 114), (0, u "java/lang/Comparable"), (0, .class_ 116), (0, u "java/io/Serializable")] 87

/-- java/lang/Enum -/
def k5 : Class := { plain "java/lang/Enum" (some 0) with
  accessFlags := 1057
  interfaces := #[2, 3, 4]
  cf := some (fileOf pool5 2 #[.nestMembers #[106]] #[] 1057 12 #[111, 113, 115] #[{ accessFlags := 18, nameIndex := 5, descriptorIndex := 6, attributes := #[] }, { accessFlags := 18, nameIndex := 9, descriptorIndex := 10, attributes := #[] }, { accessFlags := 2, nameIndex := 19, descriptorIndex := 10, attributes := #[] }])
  fields := #[{ name := "name", type := (.object "java/lang/String"), accessFlags := 18, slot := 0, constantValue := 0 }, { name := "ordinal", type := .int, accessFlags := 18, slot := 1, constantValue := 0 }, { name := "hash", type := .int, accessFlags := 2, slot := 2, constantValue := 0 }]
  methods := #[]
  instanceTypes := #[(.object "java/lang/String"), .int, .int]
  staticTypes := #[]
  resolved := Array.replicate 204 none
  statics := none }

def pool6 : Array CpInfo := pool [(1, .class_ 2), (0, u "com/example/always_once/alwaysonce/ledger/JobStatus"), (2, u "UPLOADED"), (0, u "Lcom/example/always_once/alwaysonce/ledger/JobStatus;"), (2, u "PROCESSING"), (2, u "COLUMN_MAPPING"), (2, u "COMPLETED"), (2, u "FAILED"), (2, u "$VALUES"), (0, u "[Lcom/example/always_once/alwaysonce/ledger/JobStatus;"), (6, .class_ 31), (1, u "java/lang/Enum")] 30

/-- com/example/always_once/alwaysonce/ledger/JobStatus -/
def k6 : Class := { plain "com/example/always_once/alwaysonce/ledger/JobStatus" (some 5) with
  accessFlags := 16433
  interfaces := #[]
  cf := some (fileOf pool6 1 #[] #[] 16433 29 #[] #[{ accessFlags := 16409, nameIndex := 5, descriptorIndex := 6, attributes := #[] }, { accessFlags := 16409, nameIndex := 9, descriptorIndex := 6, attributes := #[] }, { accessFlags := 16409, nameIndex := 12, descriptorIndex := 6, attributes := #[] }, { accessFlags := 16409, nameIndex := 15, descriptorIndex := 6, attributes := #[] }, { accessFlags := 16409, nameIndex := 18, descriptorIndex := 6, attributes := #[] }, { accessFlags := 4122, nameIndex := 21, descriptorIndex := 22, attributes := #[] }])
  fields := #[{ name := "UPLOADED", type := (.object "com/example/always_once/alwaysonce/ledger/JobStatus"), accessFlags := 16409, slot := 0, constantValue := 0 }, { name := "PROCESSING", type := (.object "com/example/always_once/alwaysonce/ledger/JobStatus"), accessFlags := 16409, slot := 1, constantValue := 0 }, { name := "COLUMN_MAPPING", type := (.object "com/example/always_once/alwaysonce/ledger/JobStatus"), accessFlags := 16409, slot := 2, constantValue := 0 }, { name := "COMPLETED", type := (.object "com/example/always_once/alwaysonce/ledger/JobStatus"), accessFlags := 16409, slot := 3, constantValue := 0 }, { name := "FAILED", type := (.object "com/example/always_once/alwaysonce/ledger/JobStatus"), accessFlags := 16409, slot := 4, constantValue := 0 }, { name := "$VALUES", type := (.array (.object "com/example/always_once/alwaysonce/ledger/JobStatus")), accessFlags := 4122, slot := 5, constantValue := 0 }]
  methods := #[]
  instanceTypes := #[(.object "java/lang/String"), .int, .int]
  staticTypes := #[(.object "com/example/always_once/alwaysonce/ledger/JobStatus"), (.object "com/example/always_once/alwaysonce/ledger/JobStatus"), (.object "com/example/always_once/alwaysonce/ledger/JobStatus"), (.object "com/example/always_once/alwaysonce/ledger/JobStatus"), (.object "com/example/always_once/alwaysonce/ledger/JobStatus"), (.array (.object "com/example/always_once/alwaysonce/ledger/JobStatus"))]
  resolved := Array.replicate 62 none
  statics := some 0 }

def pool7 : Array CpInfo := pool [(1, .methodref 2 3), (0, .class_ 4), (0, .nameAndType 5 6), (0, u "java/lang/Object"), (0, u "<init>"), (0, u "()V"), (0, .class_ 8), (0, u "java/lang/Record")] 13

def k7c0 : Code := { maxStack := 1, maxLocals := 1, code := jdk_30_method_1_code, exceptionTable := #[], attributes := #[] }
def k7m0 : Method := { name := "<init>", desc := "()V", sig := { parameters := [], returnType := none }, accessFlags := 4, code := some k7c0 }
/-- java/lang/Record -/
def k7 : Class := { plain "java/lang/Record" (some 0) with
  accessFlags := 1057
  interfaces := #[]
  cf := some (fileOf pool7 7 #[] #[{ accessFlags := 4, nameIndex := 5, descriptorIndex := 6, attributes := #[] }] 1057 2 #[] #[])
  fields := #[]
  methods := #[k7m0]
  instanceTypes := #[]
  staticTypes := #[]
  resolved := Array.replicate 22 none
  statics := none }

def pool8 : Array CpInfo := pool [(2, .class_ 4), (1, u "java/lang/Record"), (3, .class_ 10), (1, u "com/example/always_once/alwaysonce/ledger/JobCounts"), (0, u "lines"), (0, u "J"), (2, u "header"), (2, u "blank"), (2, u "created"), (2, u "updated"), (2, u "unchanged"), (2, u "duplicate"), (2, u "error"), (31, .class_ 67), (1, u "com/example/always_once/alwaysonce/ledger/JobCounts$1"), (25, u "NONE"), (0, u "Lcom/example/always_once/alwaysonce/ledger/JobCounts;"), (2, u "HEADER_ONLY")] 42

/-- com/example/always_once/alwaysonce/ledger/JobCounts -/
def k8 : Class := { plain "com/example/always_once/alwaysonce/ledger/JobCounts" (some 7) with
  accessFlags := 49
  interfaces := #[]
  cf := some (fileOf pool8 8 #[.nestMembers #[65]] #[] 49 2 #[] #[{ accessFlags := 18, nameIndex := 11, descriptorIndex := 12, attributes := #[] }, { accessFlags := 18, nameIndex := 15, descriptorIndex := 12, attributes := #[] }, { accessFlags := 18, nameIndex := 18, descriptorIndex := 12, attributes := #[] }, { accessFlags := 18, nameIndex := 21, descriptorIndex := 12, attributes := #[] }, { accessFlags := 18, nameIndex := 24, descriptorIndex := 12, attributes := #[] }, { accessFlags := 18, nameIndex := 27, descriptorIndex := 12, attributes := #[] }, { accessFlags := 18, nameIndex := 30, descriptorIndex := 12, attributes := #[] }, { accessFlags := 18, nameIndex := 33, descriptorIndex := 12, attributes := #[] }, { accessFlags := 25, nameIndex := 93, descriptorIndex := 94, attributes := #[] }, { accessFlags := 25, nameIndex := 97, descriptorIndex := 94, attributes := #[] }])
  fields := #[{ name := "lines", type := .long, accessFlags := 18, slot := 0, constantValue := 0 }, { name := "header", type := .long, accessFlags := 18, slot := 1, constantValue := 0 }, { name := "blank", type := .long, accessFlags := 18, slot := 2, constantValue := 0 }, { name := "created", type := .long, accessFlags := 18, slot := 3, constantValue := 0 }, { name := "updated", type := .long, accessFlags := 18, slot := 4, constantValue := 0 }, { name := "unchanged", type := .long, accessFlags := 18, slot := 5, constantValue := 0 }, { name := "duplicate", type := .long, accessFlags := 18, slot := 6, constantValue := 0 }, { name := "error", type := .long, accessFlags := 18, slot := 7, constantValue := 0 }, { name := "NONE", type := (.object "com/example/always_once/alwaysonce/ledger/JobCounts"), accessFlags := 25, slot := 0, constantValue := 0 }, { name := "HEADER_ONLY", type := (.object "com/example/always_once/alwaysonce/ledger/JobCounts"), accessFlags := 25, slot := 1, constantValue := 0 }]
  methods := #[]
  instanceTypes := #[.long, .long, .long, .long, .long, .long, .long, .long]
  staticTypes := #[(.object "com/example/always_once/alwaysonce/ledger/JobCounts"), (.object "com/example/always_once/alwaysonce/ledger/JobCounts")]
  resolved := Array.replicate 140 none
  statics := some 1 }

def pool9 : Array CpInfo := pool [(2, .class_ 4), (1, u "java/lang/CharSequence"), (42, .class_ 48), (0, u "java/lang/CharSequence$1CodePointIterator"), (10, .class_ 60), (0, u "java/lang/CharSequence$1CharIterator"), (5, .class_ 67), (0, u "java/lang/Object")] 63

/-- java/lang/CharSequence -/
def k9 : Class := { plain "java/lang/CharSequence" (some 0) with
  accessFlags := 1537
  interfaces := #[]
  cf := some (fileOf pool9 2 #[.nestMembers #[47, 59]] #[] 1537 66 #[] #[])
  fields := #[]
  methods := #[]
  instanceTypes := #[]
  staticTypes := #[]
  resolved := Array.replicate 131 none
  statics := none }

def pool10 : Array CpInfo := pool [(1, .class_ 2), (0, u "java/lang/constant/ConstantDesc"), (0, .class_ 4), (0, u "java/lang/Object")] 32

/-- java/lang/constant/ConstantDesc -/
def k10 : Class := { plain "java/lang/constant/ConstantDesc" (some 0) with
  accessFlags := 1537
  interfaces := #[]
  cf := some (fileOf pool10 1 #[] #[] 1537 3 #[] #[])
  fields := #[]
  methods := #[]
  instanceTypes := #[]
  staticTypes := #[]
  resolved := Array.replicate 37 none
  statics := none }

def pool11 : Array CpInfo := pool [(1, .methodref 2 3), (0, .class_ 4), (0, .nameAndType 5 6), (0, u "java/lang/Object"), (0, u "<init>"), (0, u "()V"), (2, .fieldref 10 11), (0, .class_ 12), (0, .nameAndType 13 14), (0, u "java/lang/String"), (0, u "value"), (0, u "[B"), (0, .fieldref 10 16), (0, .nameAndType 17 18), (0, u "coder"), (0, u "B"), (2, u "hash"), (0, u "I"), (2, u "hashIsZero"), (0, u "Z"), (0, .methodref 10 28), (0, .nameAndType 5 29), (0, u "([CIILjava/lang/Void;)V"), (8, .fieldref 10 39), (0, .nameAndType 40 26), (0, u "COMPACT_STRINGS"), (1, .class_ 44), (1, u "java/lang/StringUTF16"), (0, u "compress"), (1, .methodref 42 48), (0, .nameAndType 49 50), (0, u "coderFromArrayLen"), (0, u "([BI)B"), (126, .methodref 42 178), (0, .nameAndType 45 179), (0, u "([CII)[B"), (395, .class_ 576), (0, u "java/lang/CharSequence"), (22, u "CASE_INSENSITIVE_ORDER"), (0, u "Ljava/util/Comparator;"), (409, u "([C)V"), (90, u "serialPersistentFields"), (0, u "[Ljava/io/ObjectStreamField;"), (0, .class_ 1104), (0, u "java/lang/String$CaseInsensitiveComparator"), (1, .class_ 1107), (0, u "java/io/Serializable"), (0, .class_ 1109), (0, u "java/lang/Comparable"), (0, .class_ 1111), (0, u "java/lang/constant/Constable"), (0, .class_ 1113), (0, u "java/lang/constant/ConstantDesc"), (2, u "serialVersionUID"), (0, u "J"), (3, u "REPL"), (0, u "C"), (2, u "LATIN1"), (1, u "UTF16")] 323

def k11m0 : Method := { name := "<init>", desc := "()V", sig := { parameters := [], returnType := none }, accessFlags := 1, code := none }
def k11c1 : Code := { maxStack := 5, maxLocals := 2, code := jdk_42_method_3_code, exceptionTable := #[], attributes := #[] }
def k11m1 : Method := { name := "<init>", desc := "([C)V", sig := { parameters := [(.array .char)], returnType := none }, accessFlags := 1, code := some k11c1 }
def k11c2 : Code := { maxStack := 4, maxLocals := 6, code := jdk_42_method_149_code, exceptionTable := #[], attributes := #[] }
def k11m2 : Method := { name := "<init>", desc := "([CIILjava/lang/Void;)V", sig := { parameters := [(.array .char), .int, .int, (.object "java/lang/Void")], returnType := none }, accessFlags := 2, code := some k11c2 }
/-- java/lang/String -/
def k11 : Class := { plain "java/lang/String" (some 0) with
  accessFlags := 49
  interfaces := #[4, 3, 9, 2, 10]
  cf := some (fileOf pool11 10 #[.nestMembers #[1103]] #[{ accessFlags := 1, nameIndex := 5, descriptorIndex := 6, attributes := #[] }, { accessFlags := 1, nameIndex := 5, descriptorIndex := 1010, attributes := #[] }, { accessFlags := 2, nameIndex := 5, descriptorIndex := 29, attributes := #[] }] 49 2 #[1106, 1108, 575, 1110, 1112] #[{ accessFlags := 18, nameIndex := 13, descriptorIndex := 14, attributes := #[] }, { accessFlags := 18, nameIndex := 17, descriptorIndex := 18, attributes := #[] }, { accessFlags := 2, nameIndex := 21, descriptorIndex := 22, attributes := #[] }, { accessFlags := 2, nameIndex := 25, descriptorIndex := 26, attributes := #[] }, { accessFlags := 26, nameIndex := 1116, descriptorIndex := 1117, attributes := #[] }, { accessFlags := 24, nameIndex := 40, descriptorIndex := 26, attributes := #[] }, { accessFlags := 26, nameIndex := 1101, descriptorIndex := 1102, attributes := #[] }, { accessFlags := 26, nameIndex := 1121, descriptorIndex := 1122, attributes := #[] }, { accessFlags := 25, nameIndex := 599, descriptorIndex := 600, attributes := #[] }, { accessFlags := 24, nameIndex := 1125, descriptorIndex := 18, attributes := #[] }, { accessFlags := 24, nameIndex := 1127, descriptorIndex := 18, attributes := #[] }])
  fields := #[{ name := "value", type := (.array .byte), accessFlags := 18, slot := 0, constantValue := 0 }, { name := "coder", type := .byte, accessFlags := 18, slot := 1, constantValue := 0 }, { name := "hash", type := .int, accessFlags := 2, slot := 2, constantValue := 0 }, { name := "hashIsZero", type := .boolean, accessFlags := 2, slot := 3, constantValue := 0 }, { name := "serialVersionUID", type := .long, accessFlags := 26, slot := 0, constantValue := 0 }, { name := "COMPACT_STRINGS", type := .boolean, accessFlags := 24, slot := 1, constantValue := 0 }, { name := "serialPersistentFields", type := (.array (.object "java/io/ObjectStreamField")), accessFlags := 26, slot := 2, constantValue := 0 }, { name := "REPL", type := .char, accessFlags := 26, slot := 3, constantValue := 0 }, { name := "CASE_INSENSITIVE_ORDER", type := (.object "java/util/Comparator"), accessFlags := 25, slot := 4, constantValue := 0 }, { name := "LATIN1", type := .byte, accessFlags := 24, slot := 5, constantValue := 0 }, { name := "UTF16", type := .byte, accessFlags := 24, slot := 6, constantValue := 0 }]
  methods := #[k11m0, k11m1, k11m2]
  instanceTypes := #[(.array .byte), .byte, .int, .boolean]
  staticTypes := #[.long, .boolean, (.array (.object "java/io/ObjectStreamField")), .char, (.object "java/util/Comparator"), .byte, .byte]
  resolved := Array.replicate 1451 none
  statics := some 2 }

def pool12 : Array CpInfo := pool [(6, .class_ 8), (1, u "java/lang/Object"), (0, u "<init>"), (0, u "()V"), (1, .class_ 14), (1, u "java/lang/StringUTF16"), (31, u "$assertionsDisabled"), (0, u "Z"), (13, u "HI_BYTE_SHIFT"), (0, u "I"), (2, u "LO_BYTE_SHIFT"), (49, .methodref 12 116), (0, .nameAndType 117 118), (0, u "compress"), (0, u "([CI[BII)I"), (3, u "([CII)[B"), (138, u "coderFromArrayLen"), (0, u "([BI)B"), (106, .class_ 371), (1, u "java/lang/StringUTF16$LinesSpliterator"), (58, u "MAX_LENGTH"), (196, .class_ 628), (0, u "java/lang/StringUTF16$CodePointsSpliterator"), (0, .class_ 630), (0, u "java/lang/StringUTF16$CharsSpliterator")] 4

def k12m0 : Method := { name := "<init>", desc := "()V", sig := { parameters := [], returnType := none }, accessFlags := 0, code := none }
def k12c1 : Code := { maxStack := 2, maxLocals := 2, code := jdk_52_method_15_code, exceptionTable := #[], attributes := #[] }
def k12m1 : Method := { name := "coderFromArrayLen", desc := "([BI)B", sig := { parameters := [(.array .byte), .int], returnType := some .byte }, accessFlags := 8, code := some k12c1 }
def k12c2 : Code := { maxStack := 5, maxLocals := 6, code := jdk_52_method_16_code, exceptionTable := #[], attributes := #[] }
def k12m2 : Method := { name := "compress", desc := "([CII)[B", sig := { parameters := [(.array .char), .int, .int], returnType := some (.array .byte) }, accessFlags := 9, code := some k12c2 }
def k12c3 : Code := { maxStack := 3, maxLocals := 7, code := jdk_52_method_21_code, exceptionTable := #[], attributes := #[] }
def k12m3 : Method := { name := "compress", desc := "([CI[BII)I", sig := { parameters := [(.array .char), .int, (.array .byte), .int, .int], returnType := some .int }, accessFlags := 9, code := some k12c3 }
/-- java/lang/StringUTF16 -/
def k12 : Class := { plain "java/lang/StringUTF16" (some 0) with
  accessFlags := 48
  interfaces := #[]
  cf := some (fileOf pool12 12 #[.nestMembers #[627, 629, 369]] #[{ accessFlags := 0, nameIndex := 9, descriptorIndex := 10, attributes := #[] }, { accessFlags := 8, nameIndex := 261, descriptorIndex := 262, attributes := #[] }, { accessFlags := 9, nameIndex := 117, descriptorIndex := 122, attributes := #[] }, { accessFlags := 9, nameIndex := 117, descriptorIndex := 118, attributes := #[] }] 48 6 #[] #[{ accessFlags := 26, nameIndex := 61, descriptorIndex := 62, attributes := #[] }, { accessFlags := 26, nameIndex := 65, descriptorIndex := 62, attributes := #[] }, { accessFlags := 24, nameIndex := 430, descriptorIndex := 62, attributes := #[] }, { accessFlags := 4120, nameIndex := 46, descriptorIndex := 47, attributes := #[] }])
  fields := #[{ name := "HI_BYTE_SHIFT", type := .int, accessFlags := 26, slot := 0, constantValue := 0 }, { name := "LO_BYTE_SHIFT", type := .int, accessFlags := 26, slot := 1, constantValue := 0 }, { name := "MAX_LENGTH", type := .int, accessFlags := 24, slot := 2, constantValue := 0 }, { name := "$assertionsDisabled", type := .boolean, accessFlags := 4120, slot := 3, constantValue := 0 }]
  methods := #[k12m0, k12m1, k12m2, k12m3]
  instanceTypes := #[]
  staticTypes := #[.int, .int, .int, .boolean]
  resolved := Array.replicate 635 none
  statics := none }

def pool13 : Array CpInfo := pool [(1, .methodref 2 3), (0, .class_ 4), (0, .nameAndType 5 6), (0, u "java/lang/Record"), (0, u "<init>"), (0, u "()V"), (0, .fieldref 8 9), (0, .class_ 10), (0, .nameAndType 11 12), (0, u "com/example/always_once/alwaysonce/ledger/Job"), (0, u "id"), (0, u "J"), (0, .fieldref 8 14), (0, .nameAndType 15 16), (0, u "definition"), (0, u "Ljava/lang/String;"), (0, .fieldref 8 18), (0, .nameAndType 19 16), (0, u "file"), (0, .fieldref 8 21), (0, .nameAndType 22 23), (0, u "status"), (0, u "Lcom/example/always_once/alwaysonce/ledger/JobStatus;"), (0, .fieldref 8 25), (0, .nameAndType 26 27), (0, u "counts"), (0, u "Lcom/example/always_once/alwaysonce/ledger/JobCounts;"), (0, .fieldref 8 29), (0, .nameAndType 30 12), (0, u "size"), (0, .fieldref 8 32), (0, .nameAndType 33 12), (0, u "read"), (0, .fieldref 8 35), (0, .nameAndType 36 16), (0, u "failure"), (0, .methodref 8 38), (0, .nameAndType 5 39), (0, u "(JLjava/lang/String;Ljava/lang/String;Lcom/example/always_once/alwaysonce/ledger/JobStatus;Lcom/example/always_once/alwaysonce/ledger/JobCounts;JJLjava/lang/String;)V"), (28, u "with"), (0, u "(Lcom/example/always_once/alwaysonce/ledger/JobStatus;Lcom/example/always_once/alwaysonce/ledger/JobCounts;JLjava/lang/String;)Lcom/example/always_once/alwaysonce/ledger/Job;"), (3, u "()Ljava/lang/String;"), (1, u "()J"), (0, u "()Lcom/example/always_once/alwaysonce/ledger/JobStatus;"), (0, u "()Lcom/example/always_once/alwaysonce/ledger/JobCounts;")] 27

def k13c0 : Code := { maxStack := 3, maxLocals := 12, code := prog_9_method_1_code, exceptionTable := #[], attributes := #[] }
def k13m0 : Method := { name := "<init>", desc := "(JLjava/lang/String;Ljava/lang/String;Lcom/example/always_once/alwaysonce/ledger/JobStatus;Lcom/example/always_once/alwaysonce/ledger/JobCounts;JJLjava/lang/String;)V", sig := { parameters := [.long, (.object "java/lang/String"), (.object "java/lang/String"), (.object "com/example/always_once/alwaysonce/ledger/JobStatus"), (.object "com/example/always_once/alwaysonce/ledger/JobCounts"), .long, .long, (.object "java/lang/String")], returnType := none }, accessFlags := 1, code := some k13c0 }
def k13c1 : Code := { maxStack := 13, maxLocals := 6, code := prog_9_method_2_code, exceptionTable := #[], attributes := #[] }
def k13m1 : Method := { name := "with", desc := "(Lcom/example/always_once/alwaysonce/ledger/JobStatus;Lcom/example/always_once/alwaysonce/ledger/JobCounts;JLjava/lang/String;)Lcom/example/always_once/alwaysonce/ledger/Job;", sig := { parameters := [(.object "com/example/always_once/alwaysonce/ledger/JobStatus"), (.object "com/example/always_once/alwaysonce/ledger/JobCounts"), .long, (.object "java/lang/String")], returnType := some (.object "com/example/always_once/alwaysonce/ledger/Job") }, accessFlags := 1, code := some k13c1 }
def k13c2 : Code := { maxStack := 2, maxLocals := 1, code := prog_9_method_7_code, exceptionTable := #[], attributes := #[] }
def k13m2 : Method := { name := "id", desc := "()J", sig := { parameters := [], returnType := some .long }, accessFlags := 1, code := some k13c2 }
def k13c3 : Code := { maxStack := 1, maxLocals := 1, code := prog_9_method_8_code, exceptionTable := #[], attributes := #[] }
def k13m3 : Method := { name := "definition", desc := "()Ljava/lang/String;", sig := { parameters := [], returnType := some (.object "java/lang/String") }, accessFlags := 1, code := some k13c3 }
def k13c4 : Code := { maxStack := 1, maxLocals := 1, code := prog_9_method_9_code, exceptionTable := #[], attributes := #[] }
def k13m4 : Method := { name := "file", desc := "()Ljava/lang/String;", sig := { parameters := [], returnType := some (.object "java/lang/String") }, accessFlags := 1, code := some k13c4 }
def k13c5 : Code := { maxStack := 1, maxLocals := 1, code := prog_9_method_10_code, exceptionTable := #[], attributes := #[] }
def k13m5 : Method := { name := "status", desc := "()Lcom/example/always_once/alwaysonce/ledger/JobStatus;", sig := { parameters := [], returnType := some (.object "com/example/always_once/alwaysonce/ledger/JobStatus") }, accessFlags := 1, code := some k13c5 }
def k13c6 : Code := { maxStack := 1, maxLocals := 1, code := prog_9_method_11_code, exceptionTable := #[], attributes := #[] }
def k13m6 : Method := { name := "counts", desc := "()Lcom/example/always_once/alwaysonce/ledger/JobCounts;", sig := { parameters := [], returnType := some (.object "com/example/always_once/alwaysonce/ledger/JobCounts") }, accessFlags := 1, code := some k13c6 }
def k13c7 : Code := { maxStack := 2, maxLocals := 1, code := prog_9_method_12_code, exceptionTable := #[], attributes := #[] }
def k13m7 : Method := { name := "size", desc := "()J", sig := { parameters := [], returnType := some .long }, accessFlags := 1, code := some k13c7 }
def k13c8 : Code := { maxStack := 2, maxLocals := 1, code := prog_9_method_13_code, exceptionTable := #[], attributes := #[] }
def k13m8 : Method := { name := "read", desc := "()J", sig := { parameters := [], returnType := some .long }, accessFlags := 1, code := some k13c8 }
def k13c9 : Code := { maxStack := 1, maxLocals := 1, code := prog_9_method_14_code, exceptionTable := #[], attributes := #[] }
def k13m9 : Method := { name := "failure", desc := "()Ljava/lang/String;", sig := { parameters := [], returnType := some (.object "java/lang/String") }, accessFlags := 1, code := some k13c9 }
/-- com/example/always_once/alwaysonce/ledger/Job -/
def k13 : Class := { plain "com/example/always_once/alwaysonce/ledger/Job" (some 7) with
  accessFlags := 49
  interfaces := #[]
  cf := some (fileOf pool13 8 #[] #[{ accessFlags := 1, nameIndex := 5, descriptorIndex := 39, attributes := #[] }, { accessFlags := 1, nameIndex := 68, descriptorIndex := 69, attributes := #[] }, { accessFlags := 1, nameIndex := 11, descriptorIndex := 75, attributes := #[] }, { accessFlags := 1, nameIndex := 15, descriptorIndex := 73, attributes := #[] }, { accessFlags := 1, nameIndex := 19, descriptorIndex := 73, attributes := #[] }, { accessFlags := 1, nameIndex := 22, descriptorIndex := 76, attributes := #[] }, { accessFlags := 1, nameIndex := 26, descriptorIndex := 77, attributes := #[] }, { accessFlags := 1, nameIndex := 30, descriptorIndex := 75, attributes := #[] }, { accessFlags := 1, nameIndex := 33, descriptorIndex := 75, attributes := #[] }, { accessFlags := 1, nameIndex := 36, descriptorIndex := 73, attributes := #[] }] 49 2 #[] #[{ accessFlags := 18, nameIndex := 11, descriptorIndex := 12, attributes := #[] }, { accessFlags := 18, nameIndex := 15, descriptorIndex := 16, attributes := #[] }, { accessFlags := 18, nameIndex := 19, descriptorIndex := 16, attributes := #[] }, { accessFlags := 18, nameIndex := 22, descriptorIndex := 23, attributes := #[] }, { accessFlags := 18, nameIndex := 26, descriptorIndex := 27, attributes := #[] }, { accessFlags := 18, nameIndex := 30, descriptorIndex := 12, attributes := #[] }, { accessFlags := 18, nameIndex := 33, descriptorIndex := 12, attributes := #[] }, { accessFlags := 18, nameIndex := 36, descriptorIndex := 16, attributes := #[] }])
  fields := #[{ name := "id", type := .long, accessFlags := 18, slot := 0, constantValue := 0 }, { name := "definition", type := (.object "java/lang/String"), accessFlags := 18, slot := 1, constantValue := 0 }, { name := "file", type := (.object "java/lang/String"), accessFlags := 18, slot := 2, constantValue := 0 }, { name := "status", type := (.object "com/example/always_once/alwaysonce/ledger/JobStatus"), accessFlags := 18, slot := 3, constantValue := 0 }, { name := "counts", type := (.object "com/example/always_once/alwaysonce/ledger/JobCounts"), accessFlags := 18, slot := 4, constantValue := 0 }, { name := "size", type := .long, accessFlags := 18, slot := 5, constantValue := 0 }, { name := "read", type := .long, accessFlags := 18, slot := 6, constantValue := 0 }, { name := "failure", type := (.object "java/lang/String"), accessFlags := 18, slot := 7, constantValue := 0 }]
  methods := #[k13m0, k13m1, k13m2, k13m3, k13m4, k13m5, k13m6, k13m7, k13m8, k13m9]
  instanceTypes := #[.long, (.object "java/lang/String"), (.object "java/lang/String"), (.object "com/example/always_once/alwaysonce/ledger/JobStatus"), (.object "com/example/always_once/alwaysonce/ledger/JobCounts"), .long, .long, (.object "java/lang/String")]
  staticTypes := #[]
  resolved := Array.replicate 105 none
  statics := none }

def pool14 : Array CpInfo := pool [(4, .class_ 6), (1, u "java/lang/Object"), (0, u "<init>"), (0, u "()V"), (5, .class_ 16), (1, u "java/lang/StringLatin1"), (104, u "$assertionsDisabled"), (0, u "Z"), (98, .class_ 223), (1, u "java/lang/StringLatin1$LinesSpliterator"), (166, .class_ 391), (0, u "java/lang/StringLatin1$CharsSpliterator")] 3

def k14m0 : Method := { name := "<init>", desc := "()V", sig := { parameters := [], returnType := none }, accessFlags := 0, code := none }
/-- java/lang/StringLatin1 -/
def k14 : Class := { plain "java/lang/StringLatin1" (some 0) with
  accessFlags := 48
  interfaces := #[]
  cf := some (fileOf pool14 14 #[.nestMembers #[390, 221]] #[{ accessFlags := 0, nameIndex := 7, descriptorIndex := 8, attributes := #[] }] 48 4 #[] #[{ accessFlags := 4120, nameIndex := 121, descriptorIndex := 122, attributes := #[] }])
  fields := #[{ name := "$assertionsDisabled", type := .boolean, accessFlags := 4120, slot := 0, constantValue := 0 }]
  methods := #[k14m0]
  instanceTypes := #[]
  staticTypes := #[.boolean]
  resolved := Array.replicate 395 none
  statics := none }

def pool15 : Array CpInfo := pool [(2, .class_ 4), (1, u "java/lang/Object"), (0, u "<init>"), (0, u "()V"), (17, .class_ 26), (1, u "jdk/internal/util/Preconditions"), (28, .class_ 56), (0, u "jdk/internal/util/Preconditions$4"), (57, .class_ 115), (0, u "jdk/internal/util/Preconditions$1"), (7, u "SIOOBE_FORMATTER"), (0, u "Ljava/util/function/BiFunction;"), (0, .class_ 126), (0, u "jdk/internal/util/Preconditions$2"), (3, u "AIOOBE_FORMATTER"), (0, .class_ 132), (0, u "jdk/internal/util/Preconditions$3"), (3, u "IOOBE_FORMATTER")] 57

def k15m0 : Method := { name := "<init>", desc := "()V", sig := { parameters := [], returnType := none }, accessFlags := 1, code := none }
/-- jdk/internal/util/Preconditions -/
def k15 : Class := { plain "jdk/internal/util/Preconditions" (some 0) with
  accessFlags := 33
  interfaces := #[]
  cf := some (fileOf pool15 24 #[.nestMembers #[55, 131, 125, 114]] #[{ accessFlags := 1, nameIndex := 5, descriptorIndex := 6, attributes := #[] }] 33 2 #[] #[{ accessFlags := 25, nameIndex := 123, descriptorIndex := 124, attributes := #[] }, { accessFlags := 25, nameIndex := 130, descriptorIndex := 124, attributes := #[] }, { accessFlags := 25, nameIndex := 136, descriptorIndex := 124, attributes := #[] }])
  fields := #[{ name := "SIOOBE_FORMATTER", type := (.object "java/util/function/BiFunction"), accessFlags := 25, slot := 0, constantValue := 0 }, { name := "AIOOBE_FORMATTER", type := (.object "java/util/function/BiFunction"), accessFlags := 25, slot := 1, constantValue := 0 }, { name := "IOOBE_FORMATTER", type := (.object "java/util/function/BiFunction"), accessFlags := 25, slot := 2, constantValue := 0 }]
  methods := #[k15m0]
  instanceTypes := #[]
  staticTypes := #[(.object "java/util/function/BiFunction"), (.object "java/util/function/BiFunction"), (.object "java/util/function/BiFunction")]
  resolved := Array.replicate 194 none
  statics := some 3 }

def pool16 : Array CpInfo := pool [(9, u "<init>"), (6, .class_ 18), (1, u "java/lang/Object"), (0, u "()V"), (1, .class_ 23), (1, u "jdk/internal/util/ArraysSupport"), (0, u "LOG2_ARRAY_LONG_INDEX_SCALE"), (0, u "I"), (2, u "U"), (0, u "Ljdk/internal/misc/Unsafe;"), (8, u "BIG_ENDIAN"), (0, u "Z"), (8, u "LOG2_BYTE_BIT_SIZE"), (4, u "LOG2_ARRAY_INT_INDEX_SCALE"), (54, u "JLA"), (0, u "Ljdk/internal/access/JavaLangAccess;"), (11, u "LOG2_ARRAY_BOOLEAN_INDEX_SCALE"), (9, u "LOG2_ARRAY_BYTE_INDEX_SCALE"), (5, u "LOG2_ARRAY_CHAR_INDEX_SCALE"), (5, u "LOG2_ARRAY_SHORT_INDEX_SCALE"), (18, u "LOG2_ARRAY_FLOAT_INDEX_SCALE"), (24, u "LOG2_ARRAY_DOUBLE_INDEX_SCALE"), (89, u "T_BOOLEAN"), (2, u "T_CHAR"), (1, u "T_FLOAT"), (1, u "T_DOUBLE"), (1, u "T_BYTE"), (1, u "T_SHORT"), (1, u "T_INT"), (1, u "T_LONG"), (1, u "SOFT_MAX_ARRAY_LENGTH")] 83

def k16m0 : Method := { name := "<init>", desc := "()V", sig := { parameters := [], returnType := none }, accessFlags := 2, code := none }
/-- jdk/internal/util/ArraysSupport -/
def k16 : Class := { plain "jdk/internal/util/ArraysSupport" (some 0) with
  accessFlags := 33
  interfaces := #[]
  cf := some (fileOf pool16 21 #[] #[{ accessFlags := 2, nameIndex := 9, descriptorIndex := 19, attributes := #[] }] 33 16 #[] #[{ accessFlags := 24, nameIndex := 28, descriptorIndex := 29, attributes := #[] }, { accessFlags := 26, nameIndex := 38, descriptorIndex := 39, attributes := #[] }, { accessFlags := 25, nameIndex := 121, descriptorIndex := 25, attributes := #[] }, { accessFlags := 25, nameIndex := 131, descriptorIndex := 25, attributes := #[] }, { accessFlags := 25, nameIndex := 137, descriptorIndex := 25, attributes := #[] }, { accessFlags := 25, nameIndex := 143, descriptorIndex := 25, attributes := #[] }, { accessFlags := 25, nameIndex := 53, descriptorIndex := 25, attributes := #[] }, { accessFlags := 25, nameIndex := 24, descriptorIndex := 25, attributes := #[] }, { accessFlags := 25, nameIndex := 162, descriptorIndex := 25, attributes := #[] }, { accessFlags := 25, nameIndex := 187, descriptorIndex := 25, attributes := #[] }, { accessFlags := 26, nameIndex := 48, descriptorIndex := 25, attributes := #[] }, { accessFlags := 25, nameIndex := 277, descriptorIndex := 25, attributes := #[] }, { accessFlags := 25, nameIndex := 280, descriptorIndex := 25, attributes := #[] }, { accessFlags := 25, nameIndex := 282, descriptorIndex := 25, attributes := #[] }, { accessFlags := 25, nameIndex := 284, descriptorIndex := 25, attributes := #[] }, { accessFlags := 25, nameIndex := 286, descriptorIndex := 25, attributes := #[] }, { accessFlags := 25, nameIndex := 288, descriptorIndex := 25, attributes := #[] }, { accessFlags := 25, nameIndex := 290, descriptorIndex := 25, attributes := #[] }, { accessFlags := 25, nameIndex := 292, descriptorIndex := 25, attributes := #[] }, { accessFlags := 26, nameIndex := 108, descriptorIndex := 109, attributes := #[] }, { accessFlags := 25, nameIndex := 294, descriptorIndex := 25, attributes := #[] }])
  fields := #[{ name := "U", type := (.object "jdk/internal/misc/Unsafe"), accessFlags := 24, slot := 0, constantValue := 0 }, { name := "BIG_ENDIAN", type := .boolean, accessFlags := 26, slot := 1, constantValue := 0 }, { name := "LOG2_ARRAY_BOOLEAN_INDEX_SCALE", type := .int, accessFlags := 25, slot := 2, constantValue := 0 }, { name := "LOG2_ARRAY_BYTE_INDEX_SCALE", type := .int, accessFlags := 25, slot := 3, constantValue := 0 }, { name := "LOG2_ARRAY_CHAR_INDEX_SCALE", type := .int, accessFlags := 25, slot := 4, constantValue := 0 }, { name := "LOG2_ARRAY_SHORT_INDEX_SCALE", type := .int, accessFlags := 25, slot := 5, constantValue := 0 }, { name := "LOG2_ARRAY_INT_INDEX_SCALE", type := .int, accessFlags := 25, slot := 6, constantValue := 0 }, { name := "LOG2_ARRAY_LONG_INDEX_SCALE", type := .int, accessFlags := 25, slot := 7, constantValue := 0 }, { name := "LOG2_ARRAY_FLOAT_INDEX_SCALE", type := .int, accessFlags := 25, slot := 8, constantValue := 0 }, { name := "LOG2_ARRAY_DOUBLE_INDEX_SCALE", type := .int, accessFlags := 25, slot := 9, constantValue := 0 }, { name := "LOG2_BYTE_BIT_SIZE", type := .int, accessFlags := 26, slot := 10, constantValue := 0 }, { name := "T_BOOLEAN", type := .int, accessFlags := 25, slot := 11, constantValue := 0 }, { name := "T_CHAR", type := .int, accessFlags := 25, slot := 12, constantValue := 0 }, { name := "T_FLOAT", type := .int, accessFlags := 25, slot := 13, constantValue := 0 }, { name := "T_DOUBLE", type := .int, accessFlags := 25, slot := 14, constantValue := 0 }, { name := "T_BYTE", type := .int, accessFlags := 25, slot := 15, constantValue := 0 }, { name := "T_SHORT", type := .int, accessFlags := 25, slot := 16, constantValue := 0 }, { name := "T_INT", type := .int, accessFlags := 25, slot := 17, constantValue := 0 }, { name := "T_LONG", type := .int, accessFlags := 25, slot := 18, constantValue := 0 }, { name := "JLA", type := (.object "jdk/internal/access/JavaLangAccess"), accessFlags := 26, slot := 19, constantValue := 0 }, { name := "SOFT_MAX_ARRAY_LENGTH", type := .int, accessFlags := 25, slot := 20, constantValue := 0 }]
  methods := #[k16m0]
  instanceTypes := #[]
  staticTypes := #[(.object "jdk/internal/misc/Unsafe"), .boolean, .int, .int, .int, .int, .int, .int, .int, .int, .int, .int, .int, .int, .int, .int, .int, .int, .int, (.object "jdk/internal/access/JavaLangAccess"), .int]
  resolved := Array.replicate 378 none
  statics := none }

def pool17 : Array CpInfo := pool [(1, u "java/lang/Cloneable"), (0, .class_ 1), (0, u "java/lang/Object"), (0, .class_ 3)] 3

/-- java/lang/Cloneable -/
def k17 : Class := { plain "java/lang/Cloneable" (some 0) with
  accessFlags := 1537
  interfaces := #[]
  cf := some (fileOf pool17 2 #[] #[] 1537 4 #[] #[])
  fields := #[]
  methods := #[]
  instanceTypes := #[]
  staticTypes := #[]
  resolved := Array.replicate 8 none
  statics := none }

/-- the primitive byte -/
def k18 : Class := { plain "byte" none with kind := .primitive 'B', accessFlags := 0x411 }
/-- [B -/
def k19 : Class := { plain "[B" (some 0) with kind := .array 18 .byte, interfaces := #[17, 4], accessFlags := 1041 }

/-- the primitive char -/
def k20 : Class := { plain "char" none with kind := .primitive 'C', accessFlags := 0x411 }
/-- [C -/
def k21 : Class := { plain "[C" (some 0) with kind := .array 20 .char, interfaces := #[17, 4], accessFlags := 1041 }

/-- the primitive int -/
def k22 : Class := { plain "int" none with kind := .primitive 'I', accessFlags := 0x411 }
/-- [I -/
def k23 : Class := { plain "[I" (some 0) with kind := .array 22 .int, interfaces := #[17, 4], accessFlags := 1041 }

def heap : Heap := #[{ cls := 6, slots := #[.ref 4, .ref 5, .ref 6, .ref 7, .ref 8, .null], vm := .statics 6 },
  { cls := 8, slots := #[.ref 9, .ref 10], vm := .statics 8 },
  { cls := 11, slots := #[.long 0, .int 1, .null, .int 0, .null, .int 0, .int 0], vm := .statics 11 },
  { cls := 15, slots := #[.null, .null, .null], vm := .statics 15 },
  { cls := 6, slots := #[.null, .int 0, .int 0], vm := .none },
  { cls := 6, slots := #[.null, .int 1, .int 0], vm := .none },
  { cls := 6, slots := #[.null, .int 2, .int 0], vm := .none },
  { cls := 6, slots := #[.null, .int 3, .int 0], vm := .none },
  { cls := 6, slots := #[.null, .int 4, .int 0], vm := .none },
  { cls := 8, slots := #[.long 0, .long 0, .long 0, .long 0, .long 0, .long 0, .long 0, .long 0], vm := .none },
  { cls := 8, slots := #[.long 0, .long 0, .long 0, .long 0, .long 0, .long 0, .long 0, .long 0], vm := .none }]
def classes : Array Class := #[k0, k1, k2, k3, k4, k5, k6, k7, k8, k9, k10, k11, k12, k13, k14, k15, k16, k17, k18, k19, k20, k21, k22, k23]
def interned : List (Array UInt16 × Addr) := []
def slotsUsed : Nat := 49
def theMethod : MethodId := ⟨1, 2⟩
def args0 : Array Value := #[.long 5, .long 6, .long 7, .long 8, .int 1, .int 2]
def aboutOver (below : List Frame) : State where
  vm := { classes := classes, interned := interned.toArray }
  heap := heap
  slotsUsed := slotsUsed
  threads := #[{ frames := .invoking theMethod args0 :: below }]
def below0 : List Frame := [.native { method := ⟨0, 0⟩, args := #[] }]
def about1 : State := aboutOver below0
def p0 : Program := .bare "" "" ""
def e0 : Env := launch0.env 0 0 0
theorem w_frames : about1.frames = Frame.invoking theMethod args0 :: below0 := rfl
set_option maxRecDepth 65536 in
theorem w_args : argsFit about1.vm theMethod args0 = true := by decide +kernel
set_option maxRecDepth 65536 in
theorem w_heap : heapFits about1 = true := by decide +kernel
set_option maxRecDepth 65536 in
theorem w_runnable : about1.curStatus? = some .runnable := by decide +kernel
set_option maxRecDepth 65536 in
theorem w_alone : about1.alone = true := by decide +kernel
set_option maxRecDepth 65536 in
theorem w_named : about1.methodNamed? x = some theMethod := by decide +kernel
set_option maxRecDepth 65536 in
theorem w_hears : about1.hears theMethod below0 = true := by decide +kernel
set_option maxRecDepth 65536 in
theorem w_ripe : about1.ripe theMethod args0 below0 = true := by decide +kernel
theorem w_running : about1.status = .running := rfl
set_option maxRecDepth 65536 in
theorem w_room : about1.hasRoom e0.platform room_1 = true :=
  launch0.hasRoom_least _ room_1 (by decide +kernel) (by decide +kernel) (by decide +kernel) (by decide +kernel) (by decide +kernel) (by decide +kernel)
theorem allAtoms_all (ts : List Jvm.Cond) (a : Array Jvm.Value) (st : Jvm.State) : (allAtoms ts).before a st = ts.all (fun c => c.before a st) := by
  induction ts with
  | nil => rfl
  | cons c t ih =>
    show (Jvm.Cond.and c (allAtoms t)).before a st = _
    rw [Jvm.Cond.before_and, ih, List.all_cons]
def words1 : List Jvm.Cond := Jvm.Cond.code x code maxLocals ret :: tables_1
/-- a 'code' word, met by the world's own term for the bytes: nothing is compared byte by byte -/
theorem code_word {y : MethodName} {bytes : ByteArray} {mx : Nat} {rt : Option FieldType} {a : Array Value} {s : State} {m : MethodId} {meth : Method} {c : Code} (h1 : s.methodNamed? y = some m) (h2 : s.vm.method? m = some meth) (h3 : meth.code = some c) (h4 : c.code = bytes)
    (h5 : (c.maxLocals == mx && c.exceptionTable.isEmpty && decide (c.maxStack ≤ mostOperands) && decide (meth.sig.returnType = rt) && !meth.locks && decide (parseMethodDescriptor y.desc = some meth.sig)) = true) : (Jvm.Cond.code y bytes mx rt).before a s = true := by
  simp only [Bool.and_eq_true, beq_iff_eq, Bool.not_eq_true', decide_eq_true_eq] at h5
  obtain ⟨⟨⟨⟨⟨g1, g2⟩, g3⟩, g4⟩, g5⟩, g6⟩ := h5
  simp [Cond.before, Cond.holds, Cond.value, h1, h2, h3, h4, g1, g2, g3, g4, g5, g6]
def isCode : Jvm.Cond → Bool
  | .code _ _ _ _ => true
  | _ => false
theorem all_split {L : List Jvm.Cond} {P : Jvm.Cond → Bool} (h1 : L.all (fun c => isCode c || P c) = true) (h2 : ∀ c ∈ L.filter isCode, P c = true) : L.all P = true := by
  refine List.all_eq_true.mpr fun c hc => ?_
  have h := List.all_eq_true.mp h1 c hc
  rcases Bool.eq_false_or_eq_true (isCode c) with hi | hi
  · exact h2 c (List.mem_filter.mpr ⟨hc, hi⟩)
  · simpa [hi] using h
set_option maxRecDepth 65536 in
theorem w_c0 : (Jvm.Cond.code x code maxLocals ret).before args0 about1 = true := code_word (m := ⟨1, 2⟩) (meth := k1m2) (c := k1c2) (by decide +kernel) rfl rfl rfl (by decide +kernel)
set_option maxRecDepth 65536 in
theorem w_c1 : (Jvm.Cond.code ({ cls := "com/example/always_once/alwaysonce/ledger/JobWithPinLaw", name := "status", desc := "(I)Lcom/example/always_once/alwaysonce/ledger/JobStatus;" } : Jvm.MethodName) method_2_code (2 : Nat) (Option.some (Jvm.ClassFile.FieldType.object "com/example/always_once/alwaysonce/ledger/JobStatus"))).before args0 about1 = true := code_word (m := ⟨1, 1⟩) (meth := k1m1) (c := k1c1) (by decide +kernel) rfl rfl rfl (by decide +kernel)
set_option maxRecDepth 65536 in
theorem w_c2 : (Jvm.Cond.code ({ cls := "java/lang/String", name := "<init>", desc := "([C)V" } : Jvm.MethodName) jdk_42_method_3_code (2 : Nat) (Option.none : Option Jvm.ClassFile.FieldType)).before args0 about1 = true := code_word (m := ⟨11, 1⟩) (meth := k11m1) (c := k11c1) (by decide +kernel) rfl rfl rfl (by decide +kernel)
set_option maxRecDepth 65536 in
theorem w_c3 : (Jvm.Cond.code ({ cls := "java/lang/String", name := "<init>", desc := "([CIILjava/lang/Void;)V" } : Jvm.MethodName) jdk_42_method_149_code (6 : Nat) (Option.none : Option Jvm.ClassFile.FieldType)).before args0 about1 = true := code_word (m := ⟨11, 2⟩) (meth := k11m2) (c := k11c2) (by decide +kernel) rfl rfl rfl (by decide +kernel)
set_option maxRecDepth 65536 in
theorem w_c4 : (Jvm.Cond.code ({ cls := "java/lang/Object", name := "<init>", desc := "()V" } : Jvm.MethodName) object_method_1_code (1 : Nat) (Option.none : Option Jvm.ClassFile.FieldType)).before args0 about1 = true := code_word (m := ⟨0, 0⟩) (meth := k0m0) (c := k0c0) (by decide +kernel) rfl rfl rfl (by decide +kernel)
set_option maxRecDepth 65536 in
theorem w_c5 : (Jvm.Cond.code ({ cls := "java/lang/StringUTF16", name := "compress", desc := "([CII)[B" } : Jvm.MethodName) jdk_52_method_16_code (6 : Nat) (Option.some (Jvm.ClassFile.FieldType.array Jvm.ClassFile.FieldType.byte))).before args0 about1 = true := code_word (m := ⟨12, 2⟩) (meth := k12m2) (c := k12c2) (by decide +kernel) rfl rfl rfl (by decide +kernel)
set_option maxRecDepth 65536 in
theorem w_c6 : (Jvm.Cond.code ({ cls := "java/lang/StringUTF16", name := "compress", desc := "([CI[BII)I" } : Jvm.MethodName) jdk_52_method_21_code (7 : Nat) (Option.some Jvm.ClassFile.FieldType.int)).before args0 about1 = true := code_word (m := ⟨12, 3⟩) (meth := k12m3) (c := k12c3) (by decide +kernel) rfl rfl rfl (by decide +kernel)
set_option maxRecDepth 65536 in
theorem w_c7 : (Jvm.Cond.code ({ cls := "java/lang/StringUTF16", name := "coderFromArrayLen", desc := "([BI)B" } : Jvm.MethodName) jdk_52_method_15_code (2 : Nat) (Option.some Jvm.ClassFile.FieldType.byte)).before args0 about1 = true := code_word (m := ⟨12, 1⟩) (meth := k12m1) (c := k12c1) (by decide +kernel) rfl rfl rfl (by decide +kernel)
set_option maxRecDepth 65536 in
theorem w_c8 : (Jvm.Cond.code ({ cls := "com/example/always_once/alwaysonce/ledger/Job", name := "<init>", desc := "(JLjava/lang/String;Ljava/lang/String;Lcom/example/always_once/alwaysonce/ledger/JobStatus;Lcom/example/always_once/alwaysonce/ledger/JobCounts;JJLjava/lang/String;)V" } : Jvm.MethodName) prog_9_method_1_code (12 : Nat) (Option.none : Option Jvm.ClassFile.FieldType)).before args0 about1 = true := code_word (m := ⟨13, 0⟩) (meth := k13m0) (c := k13c0) (by decide +kernel) rfl rfl rfl (by decide +kernel)
set_option maxRecDepth 65536 in
theorem w_c9 : (Jvm.Cond.code ({ cls := "java/lang/Record", name := "<init>", desc := "()V" } : Jvm.MethodName) jdk_30_method_1_code (1 : Nat) (Option.none : Option Jvm.ClassFile.FieldType)).before args0 about1 = true := code_word (m := ⟨7, 0⟩) (meth := k7m0) (c := k7c0) (by decide +kernel) rfl rfl rfl (by decide +kernel)
set_option maxRecDepth 65536 in
theorem w_c10 : (Jvm.Cond.code ({ cls := "com/example/always_once/alwaysonce/ledger/Job", name := "with", desc := "(Lcom/example/always_once/alwaysonce/ledger/JobStatus;Lcom/example/always_once/alwaysonce/ledger/JobCounts;JLjava/lang/String;)Lcom/example/always_once/alwaysonce/ledger/Job;" } : Jvm.MethodName) prog_9_method_2_code (6 : Nat) (Option.some (Jvm.ClassFile.FieldType.object "com/example/always_once/alwaysonce/ledger/Job"))).before args0 about1 = true := code_word (m := ⟨13, 1⟩) (meth := k13m1) (c := k13c1) (by decide +kernel) rfl rfl rfl (by decide +kernel)
set_option maxRecDepth 65536 in
theorem w_c11 : (Jvm.Cond.code ({ cls := "com/example/always_once/alwaysonce/ledger/Job", name := "id", desc := "()J" } : Jvm.MethodName) prog_9_method_7_code (1 : Nat) (Option.some Jvm.ClassFile.FieldType.long)).before args0 about1 = true := code_word (m := ⟨13, 2⟩) (meth := k13m2) (c := k13c2) (by decide +kernel) rfl rfl rfl (by decide +kernel)
set_option maxRecDepth 65536 in
theorem w_c12 : (Jvm.Cond.code ({ cls := "com/example/always_once/alwaysonce/ledger/Job", name := "definition", desc := "()Ljava/lang/String;" } : Jvm.MethodName) prog_9_method_8_code (1 : Nat) (Option.some (Jvm.ClassFile.FieldType.object "java/lang/String"))).before args0 about1 = true := code_word (m := ⟨13, 3⟩) (meth := k13m3) (c := k13c3) (by decide +kernel) rfl rfl rfl (by decide +kernel)
set_option maxRecDepth 65536 in
theorem w_c13 : (Jvm.Cond.code ({ cls := "com/example/always_once/alwaysonce/ledger/Job", name := "file", desc := "()Ljava/lang/String;" } : Jvm.MethodName) prog_9_method_9_code (1 : Nat) (Option.some (Jvm.ClassFile.FieldType.object "java/lang/String"))).before args0 about1 = true := code_word (m := ⟨13, 4⟩) (meth := k13m4) (c := k13c4) (by decide +kernel) rfl rfl rfl (by decide +kernel)
set_option maxRecDepth 65536 in
theorem w_c14 : (Jvm.Cond.code ({ cls := "com/example/always_once/alwaysonce/ledger/Job", name := "status", desc := "()Lcom/example/always_once/alwaysonce/ledger/JobStatus;" } : Jvm.MethodName) prog_9_method_10_code (1 : Nat) (Option.some (Jvm.ClassFile.FieldType.object "com/example/always_once/alwaysonce/ledger/JobStatus"))).before args0 about1 = true := code_word (m := ⟨13, 5⟩) (meth := k13m5) (c := k13c5) (by decide +kernel) rfl rfl rfl (by decide +kernel)
set_option maxRecDepth 65536 in
theorem w_c15 : (Jvm.Cond.code ({ cls := "com/example/always_once/alwaysonce/ledger/Job", name := "counts", desc := "()Lcom/example/always_once/alwaysonce/ledger/JobCounts;" } : Jvm.MethodName) prog_9_method_11_code (1 : Nat) (Option.some (Jvm.ClassFile.FieldType.object "com/example/always_once/alwaysonce/ledger/JobCounts"))).before args0 about1 = true := code_word (m := ⟨13, 6⟩) (meth := k13m6) (c := k13c6) (by decide +kernel) rfl rfl rfl (by decide +kernel)
set_option maxRecDepth 65536 in
theorem w_c16 : (Jvm.Cond.code ({ cls := "com/example/always_once/alwaysonce/ledger/Job", name := "size", desc := "()J" } : Jvm.MethodName) prog_9_method_12_code (1 : Nat) (Option.some Jvm.ClassFile.FieldType.long)).before args0 about1 = true := code_word (m := ⟨13, 7⟩) (meth := k13m7) (c := k13c7) (by decide +kernel) rfl rfl rfl (by decide +kernel)
set_option maxRecDepth 65536 in
theorem w_c17 : (Jvm.Cond.code ({ cls := "com/example/always_once/alwaysonce/ledger/Job", name := "read", desc := "()J" } : Jvm.MethodName) prog_9_method_13_code (1 : Nat) (Option.some Jvm.ClassFile.FieldType.long)).before args0 about1 = true := code_word (m := ⟨13, 8⟩) (meth := k13m8) (c := k13c8) (by decide +kernel) rfl rfl rfl (by decide +kernel)
set_option maxRecDepth 65536 in
theorem w_c18 : (Jvm.Cond.code ({ cls := "com/example/always_once/alwaysonce/ledger/Job", name := "failure", desc := "()Ljava/lang/String;" } : Jvm.MethodName) prog_9_method_14_code (1 : Nat) (Option.some (Jvm.ClassFile.FieldType.object "java/lang/String"))).before args0 about1 = true := code_word (m := ⟨13, 9⟩) (meth := k13m9) (c := k13c9) (by decide +kernel) rfl rfl rfl (by decide +kernel)
def codes1 : List Jvm.Cond := [Jvm.Cond.code x code maxLocals ret, Jvm.Cond.code ({ cls := "com/example/always_once/alwaysonce/ledger/JobWithPinLaw", name := "status", desc := "(I)Lcom/example/always_once/alwaysonce/ledger/JobStatus;" } : Jvm.MethodName) method_2_code (2 : Nat) (Option.some (Jvm.ClassFile.FieldType.object "com/example/always_once/alwaysonce/ledger/JobStatus")), Jvm.Cond.code ({ cls := "java/lang/String", name := "<init>", desc := "([C)V" } : Jvm.MethodName) jdk_42_method_3_code (2 : Nat) (Option.none : Option Jvm.ClassFile.FieldType), Jvm.Cond.code ({ cls := "java/lang/String", name := "<init>", desc := "([CIILjava/lang/Void;)V" } : Jvm.MethodName) jdk_42_method_149_code (6 : Nat) (Option.none : Option Jvm.ClassFile.FieldType), Jvm.Cond.code ({ cls := "java/lang/Object", name := "<init>", desc := "()V" } : Jvm.MethodName) object_method_1_code (1 : Nat) (Option.none : Option Jvm.ClassFile.FieldType), Jvm.Cond.code ({ cls := "java/lang/StringUTF16", name := "compress", desc := "([CII)[B" } : Jvm.MethodName) jdk_52_method_16_code (6 : Nat) (Option.some (Jvm.ClassFile.FieldType.array Jvm.ClassFile.FieldType.byte)), Jvm.Cond.code ({ cls := "java/lang/StringUTF16", name := "compress", desc := "([CI[BII)I" } : Jvm.MethodName) jdk_52_method_21_code (7 : Nat) (Option.some Jvm.ClassFile.FieldType.int), Jvm.Cond.code ({ cls := "java/lang/StringUTF16", name := "coderFromArrayLen", desc := "([BI)B" } : Jvm.MethodName) jdk_52_method_15_code (2 : Nat) (Option.some Jvm.ClassFile.FieldType.byte), Jvm.Cond.code ({ cls := "com/example/always_once/alwaysonce/ledger/Job", name := "<init>", desc := "(JLjava/lang/String;Ljava/lang/String;Lcom/example/always_once/alwaysonce/ledger/JobStatus;Lcom/example/always_once/alwaysonce/ledger/JobCounts;JJLjava/lang/String;)V" } : Jvm.MethodName) prog_9_method_1_code (12 : Nat) (Option.none : Option Jvm.ClassFile.FieldType), Jvm.Cond.code ({ cls := "java/lang/Record", name := "<init>", desc := "()V" } : Jvm.MethodName) jdk_30_method_1_code (1 : Nat) (Option.none : Option Jvm.ClassFile.FieldType), Jvm.Cond.code ({ cls := "com/example/always_once/alwaysonce/ledger/Job", name := "with", desc := "(Lcom/example/always_once/alwaysonce/ledger/JobStatus;Lcom/example/always_once/alwaysonce/ledger/JobCounts;JLjava/lang/String;)Lcom/example/always_once/alwaysonce/ledger/Job;" } : Jvm.MethodName) prog_9_method_2_code (6 : Nat) (Option.some (Jvm.ClassFile.FieldType.object "com/example/always_once/alwaysonce/ledger/Job")), Jvm.Cond.code ({ cls := "com/example/always_once/alwaysonce/ledger/Job", name := "id", desc := "()J" } : Jvm.MethodName) prog_9_method_7_code (1 : Nat) (Option.some Jvm.ClassFile.FieldType.long), Jvm.Cond.code ({ cls := "com/example/always_once/alwaysonce/ledger/Job", name := "definition", desc := "()Ljava/lang/String;" } : Jvm.MethodName) prog_9_method_8_code (1 : Nat) (Option.some (Jvm.ClassFile.FieldType.object "java/lang/String")), Jvm.Cond.code ({ cls := "com/example/always_once/alwaysonce/ledger/Job", name := "file", desc := "()Ljava/lang/String;" } : Jvm.MethodName) prog_9_method_9_code (1 : Nat) (Option.some (Jvm.ClassFile.FieldType.object "java/lang/String")), Jvm.Cond.code ({ cls := "com/example/always_once/alwaysonce/ledger/Job", name := "status", desc := "()Lcom/example/always_once/alwaysonce/ledger/JobStatus;" } : Jvm.MethodName) prog_9_method_10_code (1 : Nat) (Option.some (Jvm.ClassFile.FieldType.object "com/example/always_once/alwaysonce/ledger/JobStatus")), Jvm.Cond.code ({ cls := "com/example/always_once/alwaysonce/ledger/Job", name := "counts", desc := "()Lcom/example/always_once/alwaysonce/ledger/JobCounts;" } : Jvm.MethodName) prog_9_method_11_code (1 : Nat) (Option.some (Jvm.ClassFile.FieldType.object "com/example/always_once/alwaysonce/ledger/JobCounts")), Jvm.Cond.code ({ cls := "com/example/always_once/alwaysonce/ledger/Job", name := "size", desc := "()J" } : Jvm.MethodName) prog_9_method_12_code (1 : Nat) (Option.some Jvm.ClassFile.FieldType.long), Jvm.Cond.code ({ cls := "com/example/always_once/alwaysonce/ledger/Job", name := "read", desc := "()J" } : Jvm.MethodName) prog_9_method_13_code (1 : Nat) (Option.some Jvm.ClassFile.FieldType.long), Jvm.Cond.code ({ cls := "com/example/always_once/alwaysonce/ledger/Job", name := "failure", desc := "()Ljava/lang/String;" } : Jvm.MethodName) prog_9_method_14_code (1 : Nat) (Option.some (Jvm.ClassFile.FieldType.object "java/lang/String"))]
set_option maxRecDepth 65536 in
theorem codes_eq : words1.filter isCode = codes1 := rfl
theorem w_codes : ∀ c ∈ words1.filter isCode, c.before args0 about1 = true := by
  rw [codes_eq]
  intro c hc
  simp only [codes1, List.mem_cons, List.not_mem_nil, or_false] at hc
  rcases hc with rfl | rfl | rfl | rfl | rfl | rfl | rfl | rfl | rfl | rfl | rfl | rfl | rfl | rfl | rfl | rfl | rfl | rfl | rfl
  · exact w_c0
  · exact w_c1
  · exact w_c2
  · exact w_c3
  · exact w_c4
  · exact w_c5
  · exact w_c6
  · exact w_c7
  · exact w_c8
  · exact w_c9
  · exact w_c10
  · exact w_c11
  · exact w_c12
  · exact w_c13
  · exact w_c14
  · exact w_c15
  · exact w_c16
  · exact w_c17
  · exact w_c18
set_option maxRecDepth 65536 in
theorem w_t1 : (words1.take 24).all (fun c => isCode c || c.before args0 about1) = true := by decide +kernel
set_option maxRecDepth 65536 in
theorem w_t2 : ((words1.drop 24).take 24).all (fun c => isCode c || c.before args0 about1) = true := by decide +kernel
set_option maxRecDepth 65536 in
theorem w_t3 : (((words1.drop 24).drop 24).take 24).all (fun c => isCode c || c.before args0 about1) = true := by decide +kernel
set_option maxRecDepth 65536 in
theorem w_t4 : ((((words1.drop 24).drop 24).drop 24).take 24).all (fun c => isCode c || c.before args0 about1) = true := by decide +kernel
set_option maxRecDepth 65536 in
theorem w_t5 : (((((words1.drop 24).drop 24).drop 24).drop 24).take 24).all (fun c => isCode c || c.before args0 about1) = true := by decide +kernel
set_option maxRecDepth 65536 in
theorem w_t6 : (((((words1.drop 24).drop 24).drop 24).drop 24).drop 24).all (fun c => isCode c || c.before args0 about1) = true := by decide +kernel
theorem w_tables : (allAtoms (Jvm.Cond.code x code maxLocals ret :: tables_1)).before args0 about1 = true := by
  rw [allAtoms_all]
  show words1.all (fun c => c.before args0 about1) = true
  refine all_split ?_ w_codes
  rw [← List.take_append_drop 24 words1, List.all_append, w_t1, ← List.take_append_drop 24 (words1.drop 24), List.all_append, w_t2, ← List.take_append_drop 24 ((words1.drop 24).drop 24), List.all_append, w_t3, ← List.take_append_drop 24 (((words1.drop 24).drop 24).drop 24), List.all_append, w_t4, ← List.take_append_drop 24 ((((words1.drop 24).drop 24).drop 24).drop 24), List.all_append, w_t5, w_t6]
  rfl
set_option maxRecDepth 65536 in
theorem w_rest : rest_1_c.before args0 about1 = true := by decide +kernel
set_option maxRecDepth 65536 in
theorem w_case : (Jvm.Cond.and given_1 narrow_1).before args0 about1 = true := by decide +kernel
theorem w_applies : (headSpec (Jvm.Cond.code x code maxLocals ret :: tables_1) room_1).applies x e0.platform about1 = true :=
  (Spec.applies_iff w_frames).mpr ⟨w_running, w_runnable, w_alone, w_named, w_hears, w_ripe, w_room, w_tables⟩
theorem atStart : AtStart classFile x code maxLocals ret World_1 tables_1 room_1 Calls_1 rest_1 Pre_1 launch0 p0 e0 about1 theMethod args0 below0 :=
  ⟨lists_1, trivial, launch0.admits_env _ _ _, launch0.least_env, fairChoices_fair.cas, fairChoices_fair.clock, w_frames, w_args, w_heap, w_applies, trivial, w_rest, w_case⟩
end start1
theorem witness_1 : WitnessClaimed_1 := ⟨start1.p0, start1.e0, start1.about1, start1.theMethod, start1.args0, start1.below0, start1.atStart⟩
end Jvm.Pilot.@@N@@
