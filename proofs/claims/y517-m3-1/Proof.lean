import JvmDerived
import JvmDerived.Pilot.@@N@@Statement
import JvmDerived.Pilot.@@N@@Code
set_option linter.unusedVariables false
set_option linter.unusedSimpArgs false
@@BLOCK:TracedD.lean.txt@@
namespace Jvm.RoadKit
open Sem ClassFile Op Lib Jvm.Stand Jvm.Free Jvm.LawKit
section New
variable {p : Program} {l : Launch} {e : Env} {R : Room} {s : State} {m : MethodId} {args : Array Value} {below : List Frame} {meth : Method} {c : Code} {T : State} {locs : List Loc} {cells slots : Nat}
theorem retI (X : Stand p l e R s m args below meth c T locs cells slots) (hx : p.tables.exec = Jvm.exec) {pc : Nat} {Ls : Array Slot} {z : Int32} {rest : List Value} (hret : meth.sig.returnType = some .int) (hd : decode c.code pc = .ok (.ireturn, 1)) {fs : List Frame}
    (hl : ∀ (f : JFrame) (acts : List Action), f.method = m → f.locked = none → f.entered = [] → (doReturn e (T.setTop f) acts (some (.int z))).1 = T.setFrames fs) : Steps p.tables e below (T.setTop (mkF m pc Ls (.int z :: rest))) (T.setFrames fs) := by
  have hm' : T.vm.method? m = some meth := X.method'
  have hn : narrow .int (.int z) = .int z := rfl
  show Steps p.tables e below (T.setTop { method := m, pc := pc, locals := Ls, stack := _ :: rest, locked := none }) _
  jvm_step X.here [X.here.top, hx, hd, hm', hret, hn]
  first | (intro acts; rw [hl _ acts rfl rfl rfl]) | rw [hl _ _ rfl rfl rfl]
  exact Steps.refl _
def Gl (p : Program) (e : Env) (below : List Frame) (s : State) (kc ks : Nat) (Q : Option Value → Heap → List Loc → Prop) (T : State) (g : JFrame) : Prop :=
  ∃ U o, Steps p.tables e below (T.setTop g) U ∧ U.status = .running ∧ Ended U below o ∧ ∃ v L, o = .returned v ∧ Q v U.heap L ∧ FrameEnd s o U L kc ks
theorem Gl.st {kc ks : Nat} {Q : Option Value → Heap → List Loc → Prop} {T' : State} {g g' : JFrame} (h : ∀ t, Steps p.tables e below (T'.setTop g') t → Steps p.tables e below (T.setTop g) t) (k : Gl p e below s kc ks Q T' g') : Gl p e below s kc ks Q T g := by
  obtain ⟨U, o, h1, r⟩ := k
  exact ⟨U, o, h _ h1, r⟩
theorem Gl.wider {cells' slots' : Nat} (X : Stand p l e R s m args below meth c T locs cells slots) (h1 : cells ≤ cells') (h2 : slots ≤ slots') : Stand p l e R s m args below meth c T locs cells' slots' :=
  ⟨X.admits, X.cas, X.clock, X.frames, X.room, X.hears, X.method, X.code, X.here, X.tail, X.warmed, X.limits, X.bytes, X.same.mono h1 h2⟩
theorem Gl.start {kc ks : Nat} {Q : Option Value → Heap → List Loc → Prop} {g g' : JFrame} (q : g = g') (k : Gl p e below s kc ks Q T g') :
    ∃ U o, Steps p.tables e below (T.setTop g) U ∧ U.status = .running ∧ Ended U below o ∧ ∃ v L, o = .returned v ∧ Q v U.heap L ∧ FrameEnd s o U L kc ks := q ▸ k
theorem Gl.ret {kc ks : Nat} {Q : Option Value → Heap → List Loc → Prop} {g : JFrame} {h : Heap} (X : Stand p l e R s m args below meth c T locs cells slots) {v : Option Value} (hv : meth.sig.returnType = none → v = none) (hlk : meth.locks = false)
    (st : ∀ {fs : List Frame}, (∀ (f : JFrame) (acts : List Action), f.method = m → f.locked = none → f.entered = [] → (doReturn e (T.setTop f) acts v).1 = T.setFrames fs) → Steps p.tables e below (T.setTop g) (T.setFrames fs))
    (eT : T.heap = h) (hQ : Q v h locs) (hc : cells ≤ kc) (hs : slots ≤ ks) : Gl p e below s kc ks Q T g := by
  obtain ⟨fs, hr, hrun, hended, hW, hsame⟩ := X.leave hv hlk
  refine ⟨_, _, st hr, hrun, hended, _, _, rfl, ?_, ⟨_, rfl⟩, hW, hsame.mono hc hs⟩
  show Q v T.heap locs
  rw [eT]; exact hQ
def GlW (Z : State) (EL : List (String × Nat)) (p : Program) (e : Env) (below : List Frame) (s : State) (kc ks : Nat) (Q : Option Value → Heap → List Loc → Prop) (T : State) (g : JFrame) : Prop :=
  ∃ U o, Steps p.tables e below (T.setTop g) U ∧ U.status = .running ∧ Ended U below o ∧ ∃ v L, o = .returned v ∧ Q v U.heap L ∧ CHr Z EL s.vm s.heap U.vm U.heap ∧ ReturnedEndW s o U L kc ks
section Wide
variable {Z : State} {EL : List (String × Nat)} {a0 : Array Value}
theorem GlW.st {kc ks : Nat} {Q : Option Value → Heap → List Loc → Prop} {T' : State} {g g' : JFrame} (h : ∀ t, Steps p.tables e below (T'.setTop g') t → Steps p.tables e below (T.setTop g) t) (k : GlW Z EL p e below s kc ks Q T' g') : GlW Z EL p e below s kc ks Q T g := by
  obtain ⟨U, o, h1, r⟩ := k
  exact ⟨U, o, h _ h1, r⟩
theorem GlW.start {kc ks : Nat} {Q : Option Value → Heap → List Loc → Prop} {g g' : JFrame} (q : g = g') (k : GlW Z EL p e below s kc ks Q T g') :
    ∃ U o, Steps p.tables e below (T.setTop g) U ∧ U.status = .running ∧ Ended U below o ∧ ∃ v L, o = .returned v ∧ Q v U.heap L ∧ CHr Z EL s.vm s.heap U.vm U.heap ∧ ReturnedEndW s o U L kc ks := q ▸ k
theorem GlW.ret {kc ks n : Nat} {Q : Option Value → Heap → List Loc → Prop} {g : JFrame} {h hs : Heap} {vm0 : Vm} (X : Stand p l e R (s.setVm vm0) m args below meth c T locs cells slots) (hS : s.Since vm0 n) (hn : n ≤ h.size) (hZ : Z.Warmed39 vm0) (w : EW Z a0 EL) (hh : s.heap = hs) (HC : CHr Z EL s.vm hs vm0 h) {v : Option Value} (hv : meth.sig.returnType = none → v = none) (hlk : meth.locks = false)
    (st : ∀ {fs : List Frame}, (∀ (f : JFrame) (acts : List Action), f.method = m → f.locked = none → f.entered = [] → (doReturn e (T.setTop f) acts v).1 = T.setFrames fs) → Steps p.tables e below (T.setTop g) (T.setFrames fs))
    (eT : T.heap = h) (hQ : Q v h locs) (hc : cells ≤ kc) (hs' : slots ≤ ks) : GlW Z EL p e below s kc ks Q T g := by
  subst eT hh
  obtain ⟨fs, hr, hrun, hended, hW⟩ := X.leaveW hS hn hv hlk
  have hcc := HC.trans (CHv.at X hZ w HC.1)
  exact ⟨_, _, st hr, hrun, hended, _, _, rfl, hQ, hcc, hW.1, hW.2.1, hW.2.2.1, hW.2.2.2.mono hc hs'⟩
end Wide
end New
end Jvm.RoadKit
namespace Jvm.RoadKit
open Sem ClassFile Op Lib Bundle Jvm.Stand Jvm.Free Jvm.LawKit Jvm.Free.SB Jvm.Free.SBG
theorem own_safe_blank {Z : State} {EL : List (String × Nat)} {vm : Vm} {h : Heap} {x : Addr} (hal : Z.vm.Alike vm) (E : Exa Z h x "java/lang/String") (V : Fld Z h x "java/lang/String" "value" "[B" .null) : Safe Z EL vm h x := fun B => by
  obtain ⟨p, -, u, a, -, q, -, F, rfl | rfl⟩ := B
  · obtain ⟨cell, cf, k, i, f, h1, h2, -, -, -, -, h7⟩ := V
    cases (show h[q.sa]? = some q.sC from F.ha).symm.trans h1
    obtain ⟨cS, ⟨⟨-, -, -, ⟨c1, k1, i1, f1, -⟩, -, -, -, v1, -⟩, -⟩, -⟩ := F
    obtain ⟨k3, e3, -⟩ := State.fieldFound?_setVm (s := Z) hal h2
    have e4 := (show (Wst Z vm h).fieldFound? _ _ _ = _ from e3).symm.trans f1
    simp only [Option.some.injEq, Prod.mk.injEq] at e4
    rw [← e4.2.2.2, h7] at v1
    cases v1
  · obtain ⟨cell, k, e1, e2, -⟩ := E
    cases (show h[q.sd]? = some q.SA from F.hd).symm.trans e1
    obtain ⟨cS, -, -, f, -⟩ := F
    rw [show (Wst Z vm h).vm.findClass "[B" = Z.vm.findClass "[B" from hal.findClass _ _] at f
    obtain ⟨k1, q1, q2⟩ := Vm.findClass_spec f
    obtain ⟨k2, q3, q4⟩ := Vm.findClass_spec e2
    cases q1.symm.trans q3
    exact absurd (q2.symm.trans q4) (by decide)
end Jvm.RoadKit
/- laws to paste: Road.backV (cut by pick.py; bodies as the Statement names them) -/
namespace Jvm.Pilot.@@N@@
namespace StrChars
open Jvm Sem ClassFile Op Lib Jvm.Stand Jvm.Free.XT Jvm.Free.ALB Jvm.Free.JM Jvm.Free
open Jvm.Lib.Cold (StaticIs)
/-- a char array whose places are chars -/
def Ch (a : Addr) (A : Cell) (U : State) : Prop := Arr .char a A U ∧ Typed .char A
theorem Ch.mv {a : Addr} {A : Cell} {U U' : State} (h : Ch a A U) (hal : U.vm.Alike U'.vm) (hh : U'.heap = U.heap) : Ch a A U' := ⟨h.1.mv hal hh, h.2⟩
theorem Ch.keep {a : Addr} {A : Cell} {U U' : State} (h : Ch a A U) (hal : U.vm.Alike U'.vm) (hk : U'.heap[a]? = some A) : Ch a A U' := ⟨h.1.keep hal hk, h.2⟩
/-- what place i of a char[]'s cell holds -/
def cv (A : Cell) (i : Nat) : Int32 := match A.slots[i]? with | some (.int x) => x | _ => 0
theorem Ch.get {a : Addr} {A : Cell} {U : State} (h : Ch a A U) {i : Nat} (hi : i < A.slots.size) : A.slots[i]? = some (.int (cv A i)) := by
  have e := Array.getElem?_eq_getElem hi
  have f := h.2 i _ e
  unfold cv; rw [e]
  generalize A.slots[i] = v at f
  cases v <;> simp [fits] at f ⊢
/-- the byte that i2b leaves of a char -/
def lo8 (x : Int32) : Int32 := x.toInt8.toInt32
theorem fits_lo8 (y : Int32) : fits .byte (.int (lo8 y)) = true := by
  have h1 := y.toInt8.le_toInt
  have h2 := y.toInt8.toInt_lt
  simp only [lo8, fits, Bool.and_eq_true, decide_eq_true_eq, Int32.le_iff_toInt_le, Int8.toInt_toInt32, show (-128 : Int32).toInt = -128 from by decide, show (127 : Int32).toInt = 127 from by decide]
  omega
/-- A' is A but that each place j of lo .. hi - 1 holds f j -/
def Laid (A A' : Cell) (lo hi : Nat) (f : Nat → Value) : Prop := A'.cls = A.cls ∧ A'.vm = A.vm ∧ A'.slots.size = A.slots.size ∧ ∀ i, A'.slots[i]? = if lo ≤ i ∧ i < hi then some (f i) else A.slots[i]?
theorem Laid.zero (A : Cell) (lo : Nat) (f : Nat → Value) : Laid A A lo (lo + 0) f := ⟨rfl, rfl, rfl, fun i => by rw [if_neg (by omega)]⟩
theorem Laid.step {A Ak : Cell} {lo k : Nat} {f : Nat → Value} {v : Value} (h : Laid A Ak lo k f) (hlo : lo ≤ k) (hk : k < Ak.slots.size) (hv : v = f k) : Laid A (Ak.setSlot k v) lo (k + 1) f := by
  refine ⟨h.1, h.2.1, by simpa [Cell.setSlot] using h.2.2.1, fun i => ?_⟩
  by_cases e : k = i
  · subst e; rw [Cell.slots_setSlot_self v hk, if_pos (by omega), hv]
  · rw [Cell.slots_setSlot_ne v e, h.2.2.2 i]
    by_cases q : lo ≤ i ∧ i < k
    · rw [if_pos q, if_pos (by omega)]
    · rw [if_neg q, if_neg (by omega)]
def U16 : String := "java/lang/StringUTF16"
namespace Cmp5
def yN : MethodName := ⟨"java/lang/StringUTF16", "compress", "([CI[BII)I"⟩
abbrev yB : ByteArray := jdk_52_method_21_code
theorem d0 : decode yB 0 = .ok (.iconst 0, 1) := by decide +kernel
theorem d1 : decode yB 1 = .ok (.istore 5, 2) := by decide +kernel
theorem d3 : decode yB 3 = .ok (.iload 5, 2) := by decide +kernel
theorem d5 : decode yB 5 = .ok (.iload 4, 2) := by decide +kernel
theorem d7 : decode yB 7 = .ok (.if_icmp (.ge) 37, 3) := by decide +kernel
theorem d10 : decode yB 10 = .ok (.aload_n 0, 1) := by decide +kernel
theorem d11 : decode yB 11 = .ok (.iload_n 1, 1) := by decide +kernel
theorem d12 : decode yB 12 = .ok (.caload, 1) := by decide +kernel
theorem d13 : decode yB 13 = .ok (.istore 6, 2) := by decide +kernel
theorem d15 : decode yB 15 = .ok (.iload 6, 2) := by decide +kernel
theorem d17 : decode yB 17 = .ok (.sipush 255, 3) := by decide +kernel
theorem d20 : decode yB 20 = .ok (.if_icmp (.le) 6, 3) := by decide +kernel
theorem d26 : decode yB 26 = .ok (.aload_n 2, 1) := by decide +kernel
theorem d27 : decode yB 27 = .ok (.iload_n 3, 1) := by decide +kernel
theorem d28 : decode yB 28 = .ok (.iload 6, 2) := by decide +kernel
theorem d30 : decode yB 30 = .ok (.i2b, 1) := by decide +kernel
theorem d31 : decode yB 31 = .ok (.bastore, 1) := by decide +kernel
theorem d32 : decode yB 32 = .ok (.iinc 1 1, 3) := by decide +kernel
theorem d35 : decode yB 35 = .ok (.iinc 3 1, 3) := by decide +kernel
theorem d38 : decode yB 38 = .ok (.iinc 5 1, 3) := by decide +kernel
theorem d41 : decode yB 41 = .ok (.goto (-38), 3) := by decide +kernel
theorem d44 : decode yB 44 = .ok (.iload 4, 2) := by decide +kernel
theorem d46 : decode yB 46 = .ok (.ireturn, 1) := by decide +kernel
def site : List Cond := []
def tab : Cond := tabOf yN yB 7 (some .int) site
def P (b : Addr) (A : Cell) (d : Addr) (B : Cell) (o q len : Nat) (args : Array Value) (s : State) : Prop := args = #[.ref b, .int (Int32.ofNat o), .ref d, .int (Int32.ofNat q), .int (Int32.ofNat len)] ∧ Ch b A s ∧ Arr .byte d B s ∧ b ≠ d ∧ o + len ≤ A.slots.size ∧ q + len ≤ B.slots.size ∧ ∀ i, i < len → ¬ 255 < cv A (o + i)
def E (b : Addr) (A : Cell) (d : Addr) (B : Cell) (o q len : Nat) (r : Option Value) (s u : State) : Prop := r = some (.int (Int32.ofNat len)) ∧ ∃ B', Put d B' s u ∧ Laid B B' q (q + len) (fun j => Value.int (lo8 (cv A (o + (j - q)))))
/-- no char of the range above 255: len; the places written hold each char's low byte -/
theorem law (l : Launch) (b : Addr) (A : Cell) (d : Addr) (B : Cell) (o q len : Nat) : Law l yN 5 5 0 0 yB 7 (some .int) site (P b A d B o q len) (E b A d B o q len) (copyLocs d q len) 0 0 := by
  refine Law.of_walk (plainFor_of_name (by decide +kernel)) (by decide +kernel) (by decide +kernel) (by decide) (fun _ _ h => by rw [h.1]; rfl) (fun _ U U' hal hh h => ⟨h.1, h.2.1.mv hal hh, h.2.2.1.mv hal hh, h.2.2.2⟩) (fun r U U' V V' h1 hal h2 h => ⟨h.1, h.2.elim fun B' q => ⟨B', q.1.mv h1 h2, q.2⟩⟩) ?_
  intro p e s m args below meth c s₁ X0 hexec hbytes hml hret hlk hnm hown hh0 W hP
  obtain ⟨rfl, hA, hB, hne, l1, l2, hp⟩ := hP
  have c1 : Steps p.tables e below (s₁.setTop (entryFrame m #[.ref b, .int (Int32.ofNat o), .ref d, .int (Int32.ofNat q), .int (Int32.ofNat len)] 7)) (s₁.setTop (mkF m 0 #[.val (.ref b), .val (.int (Int32.ofNat o)), .val (.ref d), .val (.int (Int32.ofNat q)), .val (.int (Int32.ofNat len)), .unset, .unset] [])) := entry rfl
  have hA0 := hA.1.mv X0.warmed.alike hh0
  have hB0 := hB.mv X0.warmed.alike hh0
  have a31 := hA.1.2.2.2
  have c2 : Steps p.tables e below (s₁.setTop (entryFrame m #[.ref b, .int (Int32.ofNat o), .ref d, .int (Int32.ofNat q), .int (Int32.ofNat len)] 7)) (s₁.setTop (mkF m 3 #[.val (.ref b), .val (.int (Int32.ofNat o)), .val (.ref d), .val (.int (Int32.ofNat q)), .val (.int (Int32.ofNat len)), .val (.int 0), .unset] [])) := c1.trans (by
    refine iconstV X0.here hexec rfl 0 (hb hbytes d0) (by decide) ?_
    refine XS.istore X0.here hexec rfl (hb hbytes d1) rfl rfl ?_
    exact Steps.refl _)
  have loop : ∀ (r i : Nat), i + r = len → ∀ (z : Slot), (z = .unset ∨ ∃ w, z = .val w ∧ w.category = 1) → ∀ (Tl : State) (Bk : Cell), Stand p l e { frames := 0, locals := 0, cells := 0, slots := 0 } s m #[.ref b, .int (Int32.ofNat o), .ref d, .int (Int32.ofNat q), .int (Int32.ofNat len)] below meth c Tl ([] ++ copyLocs d q i) 0 0 → Put d Bk s₁ Tl → Laid B Bk q (q + i) (fun j => Value.int (lo8 (cv A (o + (j - q))))) →
      Steps p.tables e below (s₁.setTop (entryFrame m #[.ref b, .int (Int32.ofNat o), .ref d, .int (Int32.ofNat q), .int (Int32.ofNat len)] 7)) (Tl.setTop (mkF m 3 #[.val (.ref b), .val (.int (Int32.ofNat (o + i))), .val (.ref d), .val (.int (Int32.ofNat (q + i))), .val (.int (Int32.ofNat len)), .val (.int (Int32.ofNat i)), z] [])) → ∃ (T' : State) (B' : Cell) (z' : Slot), Stand p l e { frames := 0, locals := 0, cells := 0, slots := 0 } s m #[.ref b, .int (Int32.ofNat o), .ref d, .int (Int32.ofNat q), .int (Int32.ofNat len)] below meth c T' ([] ++ copyLocs d q len) 0 0 ∧ Put d B' s₁ T' ∧ Laid B B' q (q + len) (fun j => Value.int (lo8 (cv A (o + (j - q))))) ∧
      Steps p.tables e below (s₁.setTop (entryFrame m #[.ref b, .int (Int32.ofNat o), .ref d, .int (Int32.ofNat q), .int (Int32.ofNat len)] 7)) (T'.setTop (mkF m 3 #[.val (.ref b), .val (.int (Int32.ofNat (o + len))), .val (.ref d), .val (.int (Int32.ofNat (q + len))), .val (.int (Int32.ofNat len)), .val (.int (Int32.ofNat len)), z'] [])) := by
    intro r
    induction r with
    | zero =>
      intro i hi z hz Tl Bk Xl pl fl cl
      have hil : i = len := by omega
      rw [hil] at Xl fl cl
      exact ⟨Tl, Bk, z, Xl, pl, fl, cl⟩
    | succ r ih =>
      intro i hi z hz Tl Bk Xl pl fl cl
      have all := X0.warmed.alike.symm.trans Xl.warmed.alike
      have hAl := hA0.keep all (pl.other hne hA0.1)
      have hBk := hB0.like all pl.1 fl.1 fl.2.1 fl.2.2.1
      have hlt : q + i < Bk.slots.size := by rw [fl.2.2.1]; omega
      have c3 : Steps p.tables e below (s₁.setTop (entryFrame m #[.ref b, .int (Int32.ofNat o), .ref d, .int (Int32.ofNat q), .int (Int32.ofNat len)] 7)) (Tl.setTop (mkF m 12 #[.val (.ref b), .val (.int (Int32.ofNat (o + i))), .val (.ref d), .val (.int (Int32.ofNat (q + i))), .val (.int (Int32.ofNat len)), .val (.int (Int32.ofNat i)), z] [.int (Int32.ofNat (o + i)), .ref b])) := cl.trans (by
        refine XS.iload Xl.here hexec rfl (hb hbytes d3) rfl ?_
        refine XS.iload Xl.here hexec rfl (hb hbytes d5) rfl ?_
        refine XS.icmpNo Xl.here hexec rfl (hb hbytes d7) rfl (ii_ge_f (lt32 (by omega) (by omega))) ?_
        refine XS.aloadN Xl.here hexec rfl (hb hbytes d10) rfl rfl ?_
        refine XS.iloadN Xl.here hexec rfl (hb hbytes d11) rfl ?_
        exact Steps.refl _)
      have c4 : Steps p.tables e below (s₁.setTop (entryFrame m #[.ref b, .int (Int32.ofNat o), .ref d, .int (Int32.ofNat q), .int (Int32.ofNat len)] 7)) (Tl.setTop (mkF m 13 #[.val (.ref b), .val (.int (Int32.ofNat (o + i))), .val (.ref d), .val (.int (Int32.ofNat (q + i))), .val (.int (Int32.ofNat len)), .val (.int (Int32.ofNat i)), z] [.int (cv A (o + i))])) := c3.trans (by
        refine Xl.aget hexec hAl rfl (hA.get (i := o + i) (by omega)) rfl rfl (hb hbytes d12) ?_
        exact Steps.refl _)
      have c5 : Steps p.tables e below (s₁.setTop (entryFrame m #[.ref b, .int (Int32.ofNat o), .ref d, .int (Int32.ofNat q), .int (Int32.ofNat len)] 7)) (Tl.setTop (mkF m 15 #[.val (.ref b), .val (.int (Int32.ofNat (o + i))), .val (.ref d), .val (.int (Int32.ofNat (q + i))), .val (.int (Int32.ofNat len)), .val (.int (Int32.ofNat i)), .val (.int (cv A (o + i)))] [])) := c4.trans (by
        refine XS.istoreS Xl.here hexec rfl (hb hbytes d13) rfl rfl hz ?_
        exact Steps.refl _)
      have c6 : Steps p.tables e below (s₁.setTop (entryFrame m #[.ref b, .int (Int32.ofNat o), .ref d, .int (Int32.ofNat q), .int (Int32.ofNat len)] 7)) (Tl.setTop (mkF m 31 #[.val (.ref b), .val (.int (Int32.ofNat (o + i))), .val (.ref d), .val (.int (Int32.ofNat (q + i))), .val (.int (Int32.ofNat len)), .val (.int (Int32.ofNat i)), .val (.int (cv A (o + i)))] [.int (lo8 (cv A (o + i))), .int (Int32.ofNat (q + i)), .ref d])) := c5.trans (by
        refine XS.iload Xl.here hexec rfl (hb hbytes d15) rfl ?_
        refine sipushV Xl.here hexec rfl 255 (hb hbytes d17) (by decide) ?_
        refine XS.icmpYes Xl.here hexec rfl (pc0 := 20) rfl (hb hbytes d20) rfl (ii_le_t (hp i (by omega))) (by decide) rfl ?_
        refine XS.aloadN Xl.here hexec rfl (hb hbytes d26) rfl rfl ?_
        refine XS.iloadN Xl.here hexec rfl (hb hbytes d27) rfl ?_
        refine XS.iload Xl.here hexec rfl (hb hbytes d28) rfl ?_
        refine i2b Xl.here hexec rfl (hb hbytes d30) rfl ?_
        exact Steps.refl _)
      obtain ⟨T7, X7, p7, st7⟩ := Xl.aput hexec hBk rfl hlt rfl (fits_lo8 (cv A (o + i))) (g := (mkF m 31 #[.val (.ref b), .val (.int (Int32.ofNat (o + i))), .val (.ref d), .val (.int (Int32.ofNat (q + i))), .val (.int (Int32.ofNat len)), .val (.int (Int32.ofNat i)), .val (.int (cv A (o + i)))] [.int (lo8 (cv A (o + i))), .int (Int32.ofNat (q + i)), .ref d])) rfl (rest := []) rfl (hb hbytes d31)
      have c8 : Steps p.tables e below (s₁.setTop (entryFrame m #[.ref b, .int (Int32.ofNat o), .ref d, .int (Int32.ofNat q), .int (Int32.ofNat len)] 7)) (T7.setTop (mkF m 32 #[.val (.ref b), .val (.int (Int32.ofNat (o + i))), .val (.ref d), .val (.int (Int32.ofNat (q + i))), .val (.int (Int32.ofNat len)), .val (.int (Int32.ofNat i)), .val (.int (cv A (o + i)))] [])) := c6.trans (st7 _ (Steps.refl _))
      have c9 : Steps p.tables e below (s₁.setTop (entryFrame m #[.ref b, .int (Int32.ofNat o), .ref d, .int (Int32.ofNat q), .int (Int32.ofNat len)] 7)) (T7.setTop (mkF m 3 #[.val (.ref b), .val (.int (Int32.ofNat (o + i) + 1)), .val (.ref d), .val (.int (Int32.ofNat (q + i) + 1)), .val (.int (Int32.ofNat len)), .val (.int (Int32.ofNat i + 1)), .val (.int (cv A (o + i)))] [])) := c8.trans (by
        refine iincV X7.here hexec rfl 1 (hb hbytes d32) (by decide) rfl rfl ?_
        refine iincV X7.here hexec rfl 1 (hb hbytes d35) (by decide) rfl rfl ?_
        refine iincV X7.here hexec rfl 1 (hb hbytes d38) (by decide) rfl rfl ?_
        refine XS.goto X7.here hexec rfl (pc0 := 41) rfl (hb hbytes d41) (by decide) rfl ?_
        exact Steps.refl _)
      have c10 : Steps p.tables e below (s₁.setTop (entryFrame m #[.ref b, .int (Int32.ofNat o), .ref d, .int (Int32.ofNat q), .int (Int32.ofNat len)] 7)) (T7.setTop (mkF m 3 #[.val (.ref b), .val (.int (Int32.ofNat (o + (i + 1)))), .val (.ref d), .val (.int (Int32.ofNat (q + (i + 1)))), .val (.int (Int32.ofNat len)), .val (.int (Int32.ofNat (i + 1))), .val (.int (cv A (o + i)))] [])) := by
        have := c9
        rw [succ32, succ32, succ32] at this
        exact this
      exact ih (i + 1) (by omega) _ (Or.inr ⟨_, rfl, rfl⟩) T7 _ (by rw [copyLocs_step, ← List.append_assoc]; exact X7) (pl.trans p7) (fl.step (by omega) hlt (by simp)) c10
  obtain ⟨T9, B9, z9, X9, p9, f9, g9⟩ := loop len 0 (by omega) .unset (Or.inl rfl) s₁ B (by simpa [copyLocs] using X0) ⟨hB0.1, fun _ _ => rfl, rfl⟩ (Laid.zero _ _ _) c2
  have c11 : Steps p.tables e below (s₁.setTop (entryFrame m #[.ref b, .int (Int32.ofNat o), .ref d, .int (Int32.ofNat q), .int (Int32.ofNat len)] 7)) (T9.setTop (mkF m 46 #[.val (.ref b), .val (.int (Int32.ofNat (o + len))), .val (.ref d), .val (.int (Int32.ofNat (q + len))), .val (.int (Int32.ofNat len)), .val (.int (Int32.ofNat len)), z9] [.int (Int32.ofNat len)])) := g9.trans (by
    refine XS.iload X9.here hexec rfl (hb hbytes d3) rfl ?_
    refine XS.iload X9.here hexec rfl (hb hbytes d5) rfl ?_
    refine XS.icmpYes X9.here hexec rfl (pc0 := 7) rfl (hb hbytes d7) rfl (ii_ge_t (nlt32 (by omega) (Nat.le_refl _))) (by decide) rfl ?_
    refine XS.iload X9.here hexec rfl (hb hbytes d44) rfl ?_
    exact Steps.refl _)
  exact ⟨T9, some (.int (Int32.ofNat len)), _, _, _, X9, by simp, rfl, rfl, (fun h => by cases h), ⟨rfl, B9, p9.from hh0, f9⟩, fun fs hl => c11.trans (X9.ireturnOut hexec hret rfl (Or.inl rfl) (hb hbytes d46) hl)⟩
end Cmp5
namespace Cmp3
def yN : MethodName := ⟨"java/lang/StringUTF16", "compress", "([CII)[B"⟩
abbrev yB : ByteArray := jdk_52_method_16_code
theorem d0 : decode yB 0 = .ok (.iload_n 2, 1) := by decide +kernel
theorem d1 : decode yB 1 = .ok (.newarray .byte, 2) := by decide +kernel
theorem d3 : decode yB 3 = .ok (.astore_n 3, 1) := by decide +kernel
theorem d4 : decode yB 4 = .ok (.aload_n 0, 1) := by decide +kernel
theorem d5 : decode yB 5 = .ok (.iload_n 1, 1) := by decide +kernel
theorem d6 : decode yB 6 = .ok (.aload_n 3, 1) := by decide +kernel
theorem d7 : decode yB 7 = .ok (.iconst 0, 1) := by decide +kernel
theorem d8 : decode yB 8 = .ok (.iload_n 2, 1) := by decide +kernel
theorem d9 : decode yB 9 = .ok (.invokestatic 115, 3) := by decide +kernel
theorem d12 : decode yB 12 = .ok (.istore 4, 2) := by decide +kernel
theorem d14 : decode yB 14 = .ok (.iload 4, 2) := by decide +kernel
theorem d16 : decode yB 16 = .ok (.iload_n 2, 1) := by decide +kernel
theorem d17 : decode yB 17 = .ok (.if_icmp (.eq) 40, 3) := by decide +kernel
theorem d57 : decode yB 57 = .ok (.aload_n 3, 1) := by decide +kernel
theorem d58 : decode yB 58 = .ok (.areturn, 1) := by decide +kernel
def site : List Cond := [.arrayClass .byte, Cmp5.tab] ++ staticW U16 115 Cmp5.yN
def tab : Cond := tabOf yN yB 6 (some (.array .byte)) site
def P (b : Addr) (A : Cell) (o len : Nat) (args : Array Value) (s : State) : Prop := args = #[.ref b, .int (Int32.ofNat o), .int (Int32.ofNat len)] ∧ Ch b A s ∧ o + len ≤ A.slots.size ∧ len ≤ 536870912 ∧ ∀ i, i < len → ¬ 255 < cv A (o + i)
def E (b : Addr) (A : Cell) (o len : Nat) (r : Option Value) (s u : State) : Prop := NewArr .byte "[B" len (fun j => .int (lo8 (cv A (o + j)))) r s u ∧ u.heap.size = s.heap.size + 1
/-- no char of the range above 255: a new byte[] of their low bytes -/
theorem law (l : Launch) (b : Addr) (A : Cell) (o len : Nat) : Law l yN 3 3 1 18 yB 6 (some (.array .byte)) site (P b A o len) (E b A o len) [] 1 len := by
  refine Law.of_walk (plainFor_of_name (by decide +kernel)) (by decide +kernel) (by decide +kernel) (by decide) (fun _ _ h => by rw [h.1]; rfl) (fun _ U U' hal hh h => ⟨h.1, h.2.1.mv hal hh, h.2.2⟩) (fun r U U' V V' h1 hal h2 h => ⟨NewArr.mv r U U' V V' h1 hal h2 h.1, by rw [h1, h2]; exact h.2⟩) ?_
  intro p e s m args below meth c s₁ X0 hexec hbytes hml hret hlk hnm hown hh0 W hP
  obtain ⟨rfl, hA, l1, l2, hp⟩ := hP
  have a31 := hA.1.2.2.2
  have c1 : Steps p.tables e below (s₁.setTop (entryFrame m #[.ref b, .int (Int32.ofNat o), .int (Int32.ofNat len)] 6)) (s₁.setTop (mkF m 0 #[.val (.ref b), .val (.int (Int32.ofNat o)), .val (.int (Int32.ofNat len)), .unset, .unset, .unset] [])) := entry rfl
  have c2 : Steps p.tables e below (s₁.setTop (entryFrame m #[.ref b, .int (Int32.ofNat o), .int (Int32.ofNat len)] 6)) (s₁.setTop (mkF m 1 #[.val (.ref b), .val (.int (Int32.ofNat o)), .val (.int (Int32.ofNat len)), .unset, .unset, .unset] [.int (Int32.ofNat len)])) := c1.trans (by
    refine XS.iloadN X0.here hexec rfl (hb hbytes d0) rfl ?_
    exact Steps.refl _)
  obtain ⟨T3, B3, X3, ba3, bs3, bv3, bh3, bf3, st3⟩ := X0.anew hexec (atype := .byte) (wk W (.arrayClass .byte)) rfl (by show len * 1 ≤ _; omega) (by omega) (g := (mkF m 1 #[.val (.ref b), .val (.int (Int32.ofNat o)), .val (.int (Int32.ofNat len)), .unset, .unset, .unset] [.int (Int32.ofNat len)])) rfl (hb hbytes d1) (rest := []) rfl (Nat.le_refl _) (by show 0 + len ≤ len; omega)
  rw [hh0] at ba3 st3
  have kp3 : XT.Kept s T3 := (XT.Kept.of_eq hh0).push bh3
  have hA3 := hA.keep X3.warmed.alike (kp3 _ _ hA.1.1)
  have hne : b ≠ s.heap.size := hA.1.ne
  have c4 : Steps p.tables e below (s₁.setTop (entryFrame m #[.ref b, .int (Int32.ofNat o), .int (Int32.ofNat len)] 6)) (T3.setTop (mkF m 3 #[.val (.ref b), .val (.int (Int32.ofNat o)), .val (.int (Int32.ofNat len)), .unset, .unset, .unset] [.ref s.heap.size])) := c2.trans (st3 _ (Steps.refl _))
  have c5 : Steps p.tables e below (s₁.setTop (entryFrame m #[.ref b, .int (Int32.ofNat o), .int (Int32.ofNat len)] 6)) (T3.setTop (mkF m 9 #[.val (.ref b), .val (.int (Int32.ofNat o)), .val (.int (Int32.ofNat len)), .val (.ref s.heap.size), .unset, .unset] [.int (Int32.ofNat len), .int 0, .ref s.heap.size, .int (Int32.ofNat o), .ref b])) := c4.trans (by
    refine XS.astoreN X3.here hexec rfl (hb hbytes d3) rfl rfl rfl ?_
    refine XS.aloadN X3.here hexec rfl (hb hbytes d4) rfl rfl ?_
    refine XS.iloadN X3.here hexec rfl (hb hbytes d5) rfl ?_
    refine XS.aloadN X3.here hexec rfl (hb hbytes d6) rfl rfl ?_
    refine iconstV X3.here hexec rfl 0 (hb hbytes d7) (by decide) ?_
    refine XS.iloadN X3.here hexec rfl (hb hbytes d8) rfl ?_
    exact Steps.refl _)
  obtain ⟨v6, T6, X6, E6, g6⟩ := X3.callS hexec (Cmp5.law l b A s.heap.size B3 o 0 len) hown (wks W (staticW U16 115 Cmp5.yN)) (wk W Cmp5.tab) (W := 0) (Nat.le_of_ble_eq_true rfl) (Nat.le_of_ble_eq_true rfl) (Nat.le_refl _) (by show 0 + len + 0 ≤ len; omega) (g := (mkF m 9 #[.val (.ref b), .val (.int (Int32.ofNat o)), .val (.int (Int32.ofNat len)), .val (.ref s.heap.size), .unset, .unset] [.int (Int32.ofNat len), .int (Int32.ofNat 0), .ref s.heap.size, .int (Int32.ofNat o), .ref b])) rfl (by rw [hml]; rfl) c5 (argsL := [.ref b, .int (Int32.ofNat o), .ref s.heap.size, .int (Int32.ofNat 0), .int (Int32.ofNat len)]) (rest := []) rfl rfl (by show 2 * 0 + 0 ≤ _; decide) (hb hbytes d9) (⟨rfl, hA3, ba3, hne, l1, by rw [bs3]; simp, hp⟩)
  obtain ⟨rfl, B6, p6, f6⟩ := E6
  have c7 : Steps p.tables e below (s₁.setTop (entryFrame m #[.ref b, .int (Int32.ofNat o), .int (Int32.ofNat len)] 6)) (T6.setTop (mkF m 12 #[.val (.ref b), .val (.int (Int32.ofNat o)), .val (.int (Int32.ofNat len)), .val (.ref s.heap.size), .unset, .unset] [.int (Int32.ofNat len)])) := g6
  have c8 : Steps p.tables e below (s₁.setTop (entryFrame m #[.ref b, .int (Int32.ofNat o), .int (Int32.ofNat len)] 6)) (T6.setTop (mkF m 58 #[.val (.ref b), .val (.int (Int32.ofNat o)), .val (.int (Int32.ofNat len)), .val (.ref s.heap.size), .val (.int (Int32.ofNat len)), .unset] [.ref s.heap.size])) := c7.trans (by
    refine XS.istore X6.here hexec rfl (hb hbytes d12) rfl rfl ?_
    refine XS.iload X6.here hexec rfl (hb hbytes d14) rfl ?_
    refine XS.iloadN X6.here hexec rfl (hb hbytes d16) rfl ?_
    refine XS.icmpYes X6.here hexec rfl (pc0 := 17) rfl (hb hbytes d17) rfl (ii_eq_t rfl) (by decide) rfl ?_
    refine XS.aloadN X6.here hexec rfl (hb hbytes d57) rfl rfl ?_
    exact Steps.refl _)
  have X8 := X6.wide (L' := []) (cells' := 1) (slots' := len) (fun x hx hlt => by
    simp only [List.nil_append, copyLocs, List.mem_map, List.mem_range] at hx
    obtain ⟨i, -, rfl⟩ := hx
    exact absurd hlt (Nat.lt_irrefl _)) (Nat.le_refl _) (by omega)
  exact ⟨T6, some (.ref s.heap.size), _, _, _, X8, rfl, rfl, rfl, (fun h => by cases h), ⟨⟨rfl, B6, ba3.like (X3.warmed.alike.symm.trans X6.warmed.alike) p6.1 f6.1 f6.2.1 f6.2.2.1, f6.2.1.trans bv3, by rw [X6.warmed.alike.findClass, f6.1]; exact bf3, by rw [f6.2.2.1, bs3]; simp, fun j hj => by rw [f6.2.2.2 j, if_pos (by omega)]; rfl, kp3.put p6 (Nat.le_refl _)⟩, by rw [p6.2.2, bh3, hh0]; simp⟩, fun fs hl => c8.trans (X8.areturnOut hexec rfl hret rfl (hb hbytes d58) hl)⟩
end Cmp3
namespace CodL
def yN : MethodName := ⟨"java/lang/StringUTF16", "coderFromArrayLen", "([BI)B"⟩
abbrev yB : ByteArray := jdk_52_method_15_code
theorem d0 : decode yB 0 = .ok (.iload_n 1, 1) := by decide +kernel
theorem d1 : decode yB 1 = .ok (.aload_n 0, 1) := by decide +kernel
theorem d2 : decode yB 2 = .ok (.arraylength, 1) := by decide +kernel
theorem d3 : decode yB 3 = .ok (.isub, 1) := by decide +kernel
theorem d4 : decode yB 4 = .ok (.bipush 31, 2) := by decide +kernel
theorem d6 : decode yB 6 = .ok (.iushr, 1) := by decide +kernel
theorem d7 : decode yB 7 = .ok (.i2b, 1) := by decide +kernel
theorem d8 : decode yB 8 = .ok (.ireturn, 1) := by decide +kernel
def site : List Cond := []
def tab : Cond := tabOf yN yB 2 (some .byte) site
def P (d : Addr) (B : Cell) (args : Array Value) (s : State) : Prop := args = #[.ref d, .int (Int32.ofNat B.slots.size)] ∧ Arr .byte d B s
def E (r : Option Value) (s u : State) : Prop := XT.PureE (some (.int 0)) r s u
/-- an array as long as the number of chars: LATIN1 -/
theorem law (l : Launch) (d : Addr) (B : Cell) : Law l yN 2 2 0 0 yB 2 (some .byte) site (P d B) E [] 0 0 := by
  refine Law.of_walk (plainFor_of_name (by decide +kernel)) (by decide +kernel) (by decide +kernel) (by decide) (fun _ _ h => by rw [h.1]; rfl) (fun _ U U' hal hh h => ⟨h.1, h.2.mv hal hh⟩) (fun r U U' V V' h1 hal h2 h => XT.PureE.mv r U U' V V' h1 hal h2 h) ?_
  intro p e s m args below meth c s₁ X0 hexec hbytes hml hret hlk hnm hown hh0 W hP
  obtain ⟨rfl, hB⟩ := hP
  have hB0 := hB.mv X0.warmed.alike hh0
  have c1 : Steps p.tables e below (s₁.setTop (entryFrame m #[.ref d, .int (Int32.ofNat B.slots.size)] 2)) (s₁.setTop (mkF m 0 #[.val (.ref d), .val (.int (Int32.ofNat B.slots.size))] [])) := entry rfl
  have c2 : Steps p.tables e below (s₁.setTop (entryFrame m #[.ref d, .int (Int32.ofNat B.slots.size)] 2)) (s₁.setTop (mkF m 2 #[.val (.ref d), .val (.int (Int32.ofNat B.slots.size))] [.ref d, .int (Int32.ofNat B.slots.size)])) := c1.trans (by
    refine XS.iloadN X0.here hexec rfl (hb hbytes d0) rfl ?_
    refine XS.aloadN X0.here hexec rfl (hb hbytes d1) rfl rfl ?_
    exact Steps.refl _)
  have c3 : Steps p.tables e below (s₁.setTop (entryFrame m #[.ref d, .int (Int32.ofNat B.slots.size)] 2)) (s₁.setTop (mkF m 8 #[.val (.ref d), .val (.int (Int32.ofNat B.slots.size))] [.int (lo8 (ushr (Int32.ofNat B.slots.size - Int32.ofNat B.slots.size) 31))])) := c2.trans (by
    refine X0.alen hexec hB0 rfl rfl (hb hbytes d2) ?_
    refine XS.isub X0.here hexec rfl (hb hbytes d3) rfl ?_
    refine bipushV X0.here hexec rfl 31 (hb hbytes d4) (by decide) ?_
    refine iushr X0.here hexec rfl (hb hbytes d6) rfl ?_
    refine i2b X0.here hexec rfl (hb hbytes d7) rfl ?_
    exact Steps.refl _)
  have e0 : lo8 (ushr (Int32.ofNat B.slots.size - Int32.ofNat B.slots.size) 31) = 0 := by rw [Int32.sub_self]; decide
  rw [e0] at c3
  exact ⟨s₁, some (.int 0), _, _, _, X0, rfl, rfl, rfl, (fun h => by cases h), ⟨rfl, hh0⟩, fun fs hl => c3.trans (X0.ireturnOut hexec hret rfl (Or.inr (Or.inr (Or.inl rfl))) (hb hbytes d8) hl)⟩
end CodL
/-- the String at a is Latin-1 over a new byte[] (the heap's one new cell): the low bytes of the len chars of A from o on; every cell but a is kept -/
def Got (a : Addr) (D : Cell) (fV fC : Field) (A : Cell) (o len : Nat) (r : Option Value) (s u : State) : Prop := r = none ∧ ∃ D' V : Cell, Blank "java/lang/String" a D' u ∧ Same D D' [fV.slot, fC.slot] ∧ D'.slots[fV.slot]? = some (.ref s.heap.size) ∧ D'.slots[fC.slot]? = some (.int 0) ∧ Arr .byte s.heap.size V u ∧ V.vm = .none ∧ u.vm.findClass "[B" = some V.cls ∧ V.slots.size = len ∧ (∀ j, j < len → V.slots[j]? = some (.int (lo8 (cv A (o + j))))) ∧ (∀ (y : Addr) (c : Cell), y ≠ a → s.heap[y]? = some c → u.heap[y]? = some c) ∧ u.heap.size = s.heap.size + 1
theorem Got.mv {a : Addr} {D A : Cell} {fV fC : Field} {o len : Nat} : ∀ r (U U' V V' : State), U'.heap = U.heap → V.vm.Alike V'.vm → V'.heap = V.heap → Got a D fV fC A o len r U V → Got a D fV fC A o len r U' V' :=
  fun r U U' V V' h1 hal h2 ⟨e0, D', X, a1, a2, a3, a4, a5, a6, a7, a8, a9, a10, a11⟩ => ⟨e0, D', X, a1.mv hal h2, a2, by rw [h1]; exact a3, a4, by rw [h1]; exact a5.mv hal h2, a6, by rw [hal.findClass]; exact a7, a8, a9, by rw [h1, h2]; exact a10, by rw [h1, h2]; exact a11⟩
namespace New4
def yN : MethodName := ⟨"java/lang/String", "<init>", "([CIILjava/lang/Void;)V"⟩
abbrev yB : ByteArray := jdk_42_method_149_code
theorem d0 : decode yB 0 = .ok (.aload_n 0, 1) := by decide +kernel
theorem d1 : decode yB 1 = .ok (.invokespecial 1, 3) := by decide +kernel
theorem d4 : decode yB 4 = .ok (.iload_n 3, 1) := by decide +kernel
theorem d5 : decode yB 5 = .ok (.ifCond (.ne) 22, 3) := by decide +kernel
theorem d27 : decode yB 27 = .ok (.getstatic 38, 3) := by decide +kernel
theorem d30 : decode yB 30 = .ok (.ifCond (.eq) 28, 3) := by decide +kernel
theorem d33 : decode yB 33 = .ok (.aload_n 1, 1) := by decide +kernel
theorem d34 : decode yB 34 = .ok (.iload_n 2, 1) := by decide +kernel
theorem d35 : decode yB 35 = .ok (.iload_n 3, 1) := by decide +kernel
theorem d36 : decode yB 36 = .ok (.invokestatic 177, 3) := by decide +kernel
theorem d39 : decode yB 39 = .ok (.astore 5, 2) := by decide +kernel
theorem d41 : decode yB 41 = .ok (.aload_n 0, 1) := by decide +kernel
theorem d42 : decode yB 42 = .ok (.aload 5, 2) := by decide +kernel
theorem d44 : decode yB 44 = .ok (.iload_n 3, 1) := by decide +kernel
theorem d45 : decode yB 45 = .ok (.invokestatic 47, 3) := by decide +kernel
theorem d48 : decode yB 48 = .ok (.putfield 15, 3) := by decide +kernel
theorem d51 : decode yB 51 = .ok (.aload_n 0, 1) := by decide +kernel
theorem d52 : decode yB 52 = .ok (.aload 5, 2) := by decide +kernel
theorem d54 : decode yB 54 = .ok (.putfield 9, 3) := by decide +kernel
theorem d57 : decode yB 57 = .ok (.return_, 1) := by decide +kernel
def site : List Cond := [.fieldLink "java/lang/String" 38 "java/lang/String" "COMPACT_STRINGS" "Z", Cmp3.tab, CodL.tab, .laysFinal "java/lang/String" "java/lang/String" "value" "[B", .fieldLink "java/lang/String" 9 "java/lang/String" "value" "[B", .laysFinal "java/lang/String" "java/lang/String" "coder" "B", .fieldLink "java/lang/String" 15 "java/lang/String" "coder" "B"] ++ objW "java/lang/String" 1 ++ staticW "java/lang/String" 177 Cmp3.yN ++ staticW "java/lang/String" 47 CodL.yN
def tab : Cond := tabOf yN yB 6 none site
def P (a : Addr) (D : Cell) (fV fC : Field) (b : Addr) (A : Cell) (z : Int32) (o len : Nat) (args : Array Value) (s : State) : Prop := args = #[.ref a, .ref b, .int (Int32.ofNat o), .int (Int32.ofNat len), .null] ∧ Blank "java/lang/String" a D s ∧ Found "java/lang/String" "value" "[B" fV s ∧ Found "java/lang/String" "coder" "B" fC s ∧ Ch b A s ∧ StaticIs s "java/lang/String" "COMPACT_STRINGS" "Z" (.int z) ∧ ¬ z = 0 ∧ 0 < len ∧ o + len ≤ A.slots.size ∧ len ≤ 536870912 ∧ ∀ i, i < len → ¬ 255 < cv A (o + i)
def E (a : Addr) (D : Cell) (fV fC : Field) (A : Cell) (o len : Nat) (r : Option Value) (s u : State) : Prop := Got a D fV fC A o len r s u
/-- len > 0, no char of the range above 255: a Latin-1 String of their low bytes -/
theorem law (l : Launch) (a : Addr) (D : Cell) (fV fC : Field) (b : Addr) (A : Cell) (z : Int32) (o len : Nat) : Law l yN 5 4 2 35 yB 6 none site (P a D fV fC b A z o len) (E a D fV fC A o len) [⟨a, fC.slot⟩, ⟨a, fV.slot⟩] 1 len := by
  refine Law.of_walk (plainFor_of_name (by decide +kernel)) (by decide +kernel) (by decide +kernel) (by decide) (fun _ _ h => by rw [h.1]; rfl) (fun _ U U' hal hh h => ⟨h.1, h.2.1.mv hal hh, h.2.2.1.al hal, h.2.2.2.1.al hal, h.2.2.2.2.1.mv hal hh, h.2.2.2.2.2.1.there hal hh, h.2.2.2.2.2.2⟩) (fun r U U' V V' h1 hal h2 h => Got.mv r U U' V V' h1 hal h2 h) ?_
  intro p e s m args below meth c s₁ X0 hexec hbytes hml hret hlk hnm hown hh0 W hP
  obtain ⟨rfl, hB, f1, f2, hA, s1, hz, l0, l1, l2, hp⟩ := hP
  have a31 := hA.1.2.2.2
  have c1 : Steps p.tables e below (s₁.setTop (entryFrame m #[.ref a, .ref b, .int (Int32.ofNat o), .int (Int32.ofNat len), .null] 6)) (s₁.setTop (mkF m 0 #[.val (.ref a), .val (.ref b), .val (.int (Int32.ofNat o)), .val (.int (Int32.ofNat len)), .val .null, .unset] [])) := entry rfl
  have c2 : Steps p.tables e below (s₁.setTop (entryFrame m #[.ref a, .ref b, .int (Int32.ofNat o), .int (Int32.ofNat len), .null] 6)) (s₁.setTop (mkF m 1 #[.val (.ref a), .val (.ref b), .val (.int (Int32.ofNat o)), .val (.int (Int32.ofNat len)), .val .null, .unset] [.ref a])) := c1.trans (by
    refine XS.aloadN X0.here hexec rfl (hb hbytes d0) rfl rfl ?_
    exact Steps.refl _)
  obtain ⟨T3, X3, q3, st3⟩ := X0.oinit hexec hown (wks W (objW "java/lang/String" 1)) (g := (mkF m 1 #[.val (.ref a), .val (.ref b), .val (.int (Int32.ofNat o)), .val (.int (Int32.ofNat len)), .val .null, .unset] [.ref a])) rfl (by rw [hml]; rfl) (rest := []) rfl (hb hbytes d1) (W := 0) (by show 2 * 0 + 0 ≤ _; decide) (Nat.le_of_ble_eq_true rfl) (Nat.le_of_ble_eq_true rfl)
  have hh3 := q3.trans hh0
  have c4 : Steps p.tables e below (s₁.setTop (entryFrame m #[.ref a, .ref b, .int (Int32.ofNat o), .int (Int32.ofNat len), .null] 6)) (T3.setTop (mkF m 27 #[.val (.ref a), .val (.ref b), .val (.int (Int32.ofNat o)), .val (.int (Int32.ofNat len)), .val .null, .unset] [])) := (c2.trans (st3 _ (Steps.refl _))).trans (by
    refine XS.iloadN X3.here hexec rfl (hb hbytes d4) rfl ?_
    refine XS.ifYes X3.here hexec rfl (pc0 := 5) rfl (hb hbytes d5) rfl (i0_ne_t (nz32 (by omega) l0)) (by decide) rfl ?_
    exact Steps.refl _)
  obtain ⟨T5, X5, q5, st5⟩ := X3.sget hexec hown (wk W (.fieldLink "java/lang/String" 38 "java/lang/String" "COMPACT_STRINGS" "Z")) s1 (fun _ _ h => by rw [hh3]; exact h) (g := (mkF m 27 #[.val (.ref a), .val (.ref b), .val (.int (Int32.ofNat o)), .val (.int (Int32.ofNat len)), .val .null, .unset] [])) rfl (hb hbytes d27)
  have hh5 := q5.trans hh3
  have c6 : Steps p.tables e below (s₁.setTop (entryFrame m #[.ref a, .ref b, .int (Int32.ofNat o), .int (Int32.ofNat len), .null] 6)) (T5.setTop (mkF m 30 #[.val (.ref a), .val (.ref b), .val (.int (Int32.ofNat o)), .val (.int (Int32.ofNat len)), .val .null, .unset] [.int z])) := c4.trans (st5 _ (Steps.refl _))
  have c7 : Steps p.tables e below (s₁.setTop (entryFrame m #[.ref a, .ref b, .int (Int32.ofNat o), .int (Int32.ofNat len), .null] 6)) (T5.setTop (mkF m 36 #[.val (.ref a), .val (.ref b), .val (.int (Int32.ofNat o)), .val (.int (Int32.ofNat len)), .val .null, .unset] [.int (Int32.ofNat len), .int (Int32.ofNat o), .ref b])) := c6.trans (by
    refine XS.ifNo X5.here hexec rfl (hb hbytes d30) rfl (i0_eq_f hz) ?_
    refine XS.aloadN X5.here hexec rfl (hb hbytes d33) rfl rfl ?_
    refine XS.iloadN X5.here hexec rfl (hb hbytes d34) rfl ?_
    refine XS.iloadN X5.here hexec rfl (hb hbytes d35) rfl ?_
    exact Steps.refl _)
  obtain ⟨v8, T8, X8, E8, g8⟩ := X5.callS hexec (Cmp3.law l b A o len) hown (wks W (staticW "java/lang/String" 177 Cmp3.yN)) (wk W Cmp3.tab) (W := 0) (Nat.le_of_ble_eq_true rfl) (Nat.le_of_ble_eq_true rfl) (Nat.le_refl _) (by show 0 + len ≤ len; omega) (g := (mkF m 36 #[.val (.ref a), .val (.ref b), .val (.int (Int32.ofNat o)), .val (.int (Int32.ofNat len)), .val .null, .unset] [.int (Int32.ofNat len), .int (Int32.ofNat o), .ref b])) rfl (by rw [hml]; rfl) c7 (argsL := [.ref b, .int (Int32.ofNat o), .int (Int32.ofNat len)]) (rest := []) rfl rfl (by show 2 * 0 + 0 ≤ _; decide) (hb hbytes d36) (⟨rfl, hA.mv X5.warmed.alike hh5, l1, l2, hp⟩)
  obtain ⟨e8, z8⟩ := E8
  obtain ⟨rfl, N, n1, n2, n3, n4, n5, n6⟩ := NewArr.mv _ T5 s _ _ hh5.symm (Vm.Alike.refl _) rfl e8
  rw [hh5] at z8
  have hB1 := hB.keep X8.warmed.alike (n6 _ _ hB.1)
  have hne : s.heap.size ≠ a := (Nat.ne_of_lt (Array.getElem?_eq_some_iff.mp hB.1).1).symm
  have c9 : Steps p.tables e below (s₁.setTop (entryFrame m #[.ref a, .ref b, .int (Int32.ofNat o), .int (Int32.ofNat len), .null] 6)) (T8.setTop (mkF m 39 #[.val (.ref a), .val (.ref b), .val (.int (Int32.ofNat o)), .val (.int (Int32.ofNat len)), .val .null, .unset] [.ref s.heap.size])) := g8
  have c10 : Steps p.tables e below (s₁.setTop (entryFrame m #[.ref a, .ref b, .int (Int32.ofNat o), .int (Int32.ofNat len), .null] 6)) (T8.setTop (mkF m 45 #[.val (.ref a), .val (.ref b), .val (.int (Int32.ofNat o)), .val (.int (Int32.ofNat len)), .val .null, .val (.ref s.heap.size)] [.int (Int32.ofNat N.slots.size), .ref s.heap.size, .ref a])) := by
    have hc : Steps p.tables e below (s₁.setTop (entryFrame m #[.ref a, .ref b, .int (Int32.ofNat o), .int (Int32.ofNat len), .null] 6)) (T8.setTop (mkF m 45 #[.val (.ref a), .val (.ref b), .val (.int (Int32.ofNat o)), .val (.int (Int32.ofNat len)), .val .null, .val (.ref s.heap.size)] [.int (Int32.ofNat len), .ref s.heap.size, .ref a])) := c9.trans (by
      refine XS.astore X8.here hexec rfl (hb hbytes d39) rfl rfl rfl ?_
      refine XS.aloadN X8.here hexec rfl (hb hbytes d41) rfl rfl ?_
      refine XS.aload X8.here hexec rfl (hb hbytes d42) rfl rfl ?_
      refine XS.iloadN X8.here hexec rfl (hb hbytes d44) rfl ?_
      exact Steps.refl _)
    rw [n4]; exact hc
  obtain ⟨v11, T11, X11, E11, g11⟩ := X8.callS hexec (CodL.law l s.heap.size N) hown (wks W (staticW "java/lang/String" 47 CodL.yN)) (wk W CodL.tab) (W := 1) (Nat.le_of_ble_eq_true rfl) (Nat.le_of_ble_eq_true rfl) (Nat.le_refl _) (by show 0 + len + 0 ≤ len; omega) (g := (mkF m 45 #[.val (.ref a), .val (.ref b), .val (.int (Int32.ofNat o)), .val (.int (Int32.ofNat len)), .val .null, .val (.ref s.heap.size)] [.int (Int32.ofNat N.slots.size), .ref s.heap.size, .ref a])) rfl (by rw [hml]; rfl) c10 (argsL := [.ref s.heap.size, .int (Int32.ofNat N.slots.size)]) (rest := [.ref a]) rfl rfl (by show 2 * 0 + (1 + 0) ≤ _; decide) (hb hbytes d45) (⟨rfl, n1⟩)
  obtain ⟨rfl, q11⟩ := E11
  have hB11 := hB1.mv (X8.warmed.alike.symm.trans X11.warmed.alike) q11
  have c12 : Steps p.tables e below (s₁.setTop (entryFrame m #[.ref a, .ref b, .int (Int32.ofNat o), .int (Int32.ofNat len), .null] 6)) (T11.setTop (mkF m 48 #[.val (.ref a), .val (.ref b), .val (.int (Int32.ofNat o)), .val (.int (Int32.ofNat len)), .val .null, .val (.ref s.heap.size)] [.int 0, .ref a])) := g11
  obtain ⟨T13, X13, p13, bl13, sl13, st13⟩ := X11.finit hexec hown (wk W (.fieldLink "java/lang/String" 15 "java/lang/String" "coder" "B")) (Or.inr ⟨_, (wk W (.laysFinal "java/lang/String" "java/lang/String" "coder" "B"))⟩) (Or.inl ⟨rfl, hnm⟩) f2 (Or.inl rfl) hB11 (t := .byte) (by decide +kernel) rfl (g := (mkF m 48 #[.val (.ref a), .val (.ref b), .val (.int (Int32.ofNat o)), .val (.int (Int32.ofNat len)), .val .null, .val (.ref s.heap.size)] [.int 0, .ref a])) rfl (rest := []) rfl (hb hbytes d48)
  have c14 : Steps p.tables e below (s₁.setTop (entryFrame m #[.ref a, .ref b, .int (Int32.ofNat o), .int (Int32.ofNat len), .null] 6)) (T13.setTop (mkF m 54 #[.val (.ref a), .val (.ref b), .val (.int (Int32.ofNat o)), .val (.int (Int32.ofNat len)), .val .null, .val (.ref s.heap.size)] [.ref s.heap.size, .ref a])) := (c12.trans (st13 _ (Steps.refl _))).trans (by
    refine XS.aloadN X13.here hexec rfl (hb hbytes d51) rfl rfl ?_
    refine XS.aload X13.here hexec rfl (hb hbytes d52) rfl rfl ?_
    exact Steps.refl _)
  obtain ⟨T15, X15, p15, bl15, sl15, st15⟩ := X13.finit hexec hown (wk W (.fieldLink "java/lang/String" 9 "java/lang/String" "value" "[B")) (Or.inr ⟨_, (wk W (.laysFinal "java/lang/String" "java/lang/String" "value" "[B"))⟩) (Or.inl ⟨rfl, hnm⟩) f1 (Or.inl rfl) bl13 (t := (.array .byte)) (by decide +kernel) rfl (g := (mkF m 54 #[.val (.ref a), .val (.ref b), .val (.int (Int32.ofNat o)), .val (.int (Int32.ofNat len)), .val .null, .val (.ref s.heap.size)] [.ref s.heap.size, .ref a])) rfl (rest := []) rfl (hb hbytes d54)
  have c16 : Steps p.tables e below (s₁.setTop (entryFrame m #[.ref a, .ref b, .int (Int32.ofNat o), .int (Int32.ofNat len), .null] 6)) (T15.setTop (mkF m 57 #[.val (.ref a), .val (.ref b), .val (.int (Int32.ofNat o)), .val (.int (Int32.ofNat len)), .val .null, .val (.ref s.heap.size)] [])) := c14.trans (st15 _ (Steps.refl _))
  have ap := apart (Or.inr ⟨_, (wk W (.laysFinal "java/lang/String" "java/lang/String" "value" "[B"))⟩) (Or.inr ⟨_, (wk W (.laysFinal "java/lang/String" "java/lang/String" "coder" "B"))⟩) f1 f2 (t₁ := .array .byte) (t₂ := .byte) (by decide +kernel) (by decide +kernel) (by decide)
  have al := X8.warmed.alike.symm.trans X15.warmed.alike
  have n7 : T11.heap[s.heap.size]? = some N := by rw [q11]; exact n1.1
  exact ⟨T15, none, _, _, _, X15, by simp, rfl, by omega, (fun _ => rfl), ⟨rfl, _, N, bl15, ((Same.refl D _).set _ (by simp)).set _ (by simp), sl15, (Cell.slots_setSlot_ne _ ap).trans sl13, n1.keep al (p15.other hne (p13.other hne n7)), n2, by rw [al.findClass]; exact n3, n4, n5, fun y c h1 h2 => p15.other h1 (p13.other h1 (by rw [q11]; exact n6 y c h2)), by rw [p15.2.2, p13.2.2, q11]; exact z8⟩, fun fs hl => c16.trans (X15.returnOut hexec hret (hb hbytes d57) hl)⟩
end New4
namespace New1
def yN : MethodName := ⟨"java/lang/String", "<init>", "([C)V"⟩
abbrev yB : ByteArray := jdk_42_method_3_code
theorem d0 : decode yB 0 = .ok (.aload_n 0, 1) := by decide +kernel
theorem d1 : decode yB 1 = .ok (.aload_n 1, 1) := by decide +kernel
theorem d2 : decode yB 2 = .ok (.iconst 0, 1) := by decide +kernel
theorem d3 : decode yB 3 = .ok (.aload_n 1, 1) := by decide +kernel
theorem d4 : decode yB 4 = .ok (.arraylength, 1) := by decide +kernel
theorem d5 : decode yB 5 = .ok (.aconst_null, 1) := by decide +kernel
theorem d6 : decode yB 6 = .ok (.invokespecial 27, 3) := by decide +kernel
theorem d9 : decode yB 9 = .ok (.return_, 1) := by decide +kernel
def site : List Cond := [New4.tab] ++ initW "java/lang/String" 27 New4.yN
def tab : Cond := tabOf yN yB 2 none site
def P (a : Addr) (D : Cell) (fV fC : Field) (b : Addr) (A : Cell) (z : Int32) (args : Array Value) (s : State) : Prop := args = #[.ref a, .ref b] ∧ Blank "java/lang/String" a D s ∧ Found "java/lang/String" "value" "[B" fV s ∧ Found "java/lang/String" "coder" "B" fC s ∧ Ch b A s ∧ StaticIs s "java/lang/String" "COMPACT_STRINGS" "Z" (.int z) ∧ ¬ z = 0 ∧ 0 < A.slots.size ∧ A.slots.size ≤ 536870912 ∧ ∀ i, i < A.slots.size → ¬ 255 < cv A i
def E (a : Addr) (D : Cell) (fV fC : Field) (A : Cell) (r : Option Value) (s u : State) : Prop := Got a D fV fC A 0 A.slots.size r s u
/-- new String(chars), not empty, no char above 255: a Latin-1 String of their low bytes -/
theorem law (l : Launch) (a : Addr) (D : Cell) (fV fC : Field) (b : Addr) (A : Cell) (z : Int32) : Law l yN 2 1 3 52 yB 2 none site (P a D fV fC b A z) (E a D fV fC A) [⟨a, fC.slot⟩, ⟨a, fV.slot⟩] 1 A.slots.size := by
  refine Law.of_walk (plainFor_of_name (by decide +kernel)) (by decide +kernel) (by decide +kernel) (by decide) (fun _ _ h => by rw [h.1]; rfl) (fun _ U U' hal hh h => ⟨h.1, h.2.1.mv hal hh, h.2.2.1.al hal, h.2.2.2.1.al hal, h.2.2.2.2.1.mv hal hh, h.2.2.2.2.2.1.there hal hh, h.2.2.2.2.2.2⟩) (fun r U U' V V' h1 hal h2 h => Got.mv r U U' V V' h1 hal h2 h) ?_
  intro p e s m args below meth c s₁ X0 hexec hbytes hml hret hlk hnm hown hh0 W hP
  obtain ⟨rfl, hB, f1, f2, hA, s1, hz, l0, l2, hp⟩ := hP
  have c1 : Steps p.tables e below (s₁.setTop (entryFrame m #[.ref a, .ref b] 2)) (s₁.setTop (mkF m 0 #[.val (.ref a), .val (.ref b)] [])) := entry rfl
  have c2 : Steps p.tables e below (s₁.setTop (entryFrame m #[.ref a, .ref b] 2)) (s₁.setTop (mkF m 6 #[.val (.ref a), .val (.ref b)] [.null, .int (Int32.ofNat A.slots.size), .int 0, .ref b, .ref a])) := c1.trans (by
    refine XS.aloadN X0.here hexec rfl (hb hbytes d0) rfl rfl ?_
    refine XS.aloadN X0.here hexec rfl (hb hbytes d1) rfl rfl ?_
    refine iconstV X0.here hexec rfl 0 (hb hbytes d2) (by decide) ?_
    refine XS.aloadN X0.here hexec rfl (hb hbytes d3) rfl rfl ?_
    refine X0.alen hexec (hA.1.mv X0.warmed.alike hh0) rfl rfl (hb hbytes d4) ?_
    refine XS.aconstNull X0.here hexec rfl (hb hbytes d5) ?_
    exact Steps.refl _)
  obtain ⟨v3, T3, X3, E3, g3⟩ := X0.callN hexec (New4.law l a D fV fC b A z 0 A.slots.size) rfl hown (wks W (initW "java/lang/String" 27 New4.yN)) (W New4.tab (by simp only [site, List.mem_cons, List.mem_append, true_or, or_true])) (W := 0) (Nat.le_of_ble_eq_true rfl) (Nat.le_of_ble_eq_true rfl) (Nat.le_refl _) (by show 0 + A.slots.size ≤ A.slots.size; omega) (g := (mkF m 6 #[.val (.ref a), .val (.ref b)] [.null, .int (Int32.ofNat A.slots.size), .int (Int32.ofNat 0), .ref b, .ref a])) rfl (by rw [hml]; rfl) c2 (argsL := [.ref b, .int (Int32.ofNat 0), .int (Int32.ofNat A.slots.size), .null]) (rest := []) rfl rfl (by show 2 * 0 + 0 ≤ _; decide) (hb hbytes d6) (⟨rfl, hB.mv X0.warmed.alike hh0, f1.al X0.warmed.alike, f2.al X0.warmed.alike, hA.mv X0.warmed.alike hh0, s1.there X0.warmed.alike hh0, hz, l0, by omega, l2, fun i hi => by rw [Nat.zero_add]; exact hp i hi⟩)
  have e0 := Got.mv _ s₁ s _ _ hh0.symm (Vm.Alike.refl _) rfl E3
  obtain rfl := e0.1
  have c4 : Steps p.tables e below (s₁.setTop (entryFrame m #[.ref a, .ref b] 2)) (T3.setTop (mkF m 9 #[.val (.ref a), .val (.ref b)] [])) := g3
  exact ⟨T3, none, _, _, _, X3, by simp, rfl, by omega, (fun _ => rfl), e0, fun fs hl => c4.trans (X3.returnOut hexec hret (hb hbytes d9) hl)⟩
theorem pays {l : Launch} {R : Room} {p : Program} {e : Env} {below : List Frame} {s : State} {sargs : Array Value} {len W : Nat} (a : Addr) (D : Cell) (fV fC : Field) (b : Addr) (A : Cell) (z : Int32) (htab : tab.before sargs s = true) (hfr : 4 ≤ R.frames) (hlo : W + 65 ≤ R.locals) :
    Back l R p e below s sargs yN len W (fun A₁ a₁ => A₁.cells + 1 ≤ R.cells ∧ A₁.slots + A.slots.size ≤ R.slots ∧ P a D fV fC b A z a₁ A₁.U) (fun A₁ _ v₁ B₁ => E a D fV fC A v₁ A₁.U B₁.U ∧ B₁.locs = A₁.locs ++ [⟨a, fC.slot⟩, ⟨a, fV.slot⟩] ∧ B₁.cells = A₁.cells + 1 ∧ B₁.slots = A₁.slots + A.slots.size) :=
  (law l a D fV fC b A z).pays htab hfr (by omega)
end New1
end StrChars
namespace StrChars.Road
open Jvm Sem ClassFile Op Lib Jvm.Stand Jvm.Free Jvm.Free.XT
open Jvm.Lib.Cold (StaticIs)
abbrev ST : String := "java/lang/String"
/-- every table word that New1's law asks, flat -/
abbrev words : List Jvm.Cond := [.code New1.yN New1.yB 2 none, .initialized ST, .methodLink ST 27 New4.yN, .instanceMethod New4.yN,
  .code New4.yN New4.yB 6 none, .fieldLink ST 38 ST "COMPACT_STRINGS" "Z", .laysFinal ST ST "value" "[B", .fieldLink ST 9 ST "value" "[B", .laysFinal ST ST "coder" "B", .fieldLink ST 15 ST "coder" "B",
  .methodLink ST 1 Lib.objectInit, .instanceMethod Lib.objectInit, .code Lib.objectInit ⟨#[0xb1]⟩ 1 none, .methodLink ST 177 Cmp3.yN, .static Cmp3.yN, .methodLink ST 47 CodL.yN, .static CodL.yN,
  .code Cmp3.yN Cmp3.yB 6 (some (.array .byte)), .initialized U16, .arrayClass .byte, .methodLink U16 115 Cmp5.yN, .static Cmp5.yN, .code Cmp5.yN Cmp5.yB 7 (some .int), .code CodL.yN CodL.yB 2 (some .byte)]
theorem tab_of {a : Array Value} {s : State} (h : ∀ w ∈ words, w.before a s = true) : New1.tab.before a s = true := by
  have h5 : Cmp5.tab.before a s = true := unparts (wk h (.code Cmp5.yN Cmp5.yB 7 (some .int))) (wks h (.initialized Cmp5.yN.cls :: Cmp5.site))
  have hc : CodL.tab.before a s = true := unparts (wk h (.code CodL.yN CodL.yB 2 (some .byte))) (wks h (.initialized CodL.yN.cls :: CodL.site))
  have q5 : ∀ w ∈ Cmp5.tab :: words, w.before a s = true := fun w hw => (List.mem_cons.mp hw).elim (fun e => e ▸ h5) (h w)
  have h3 : Cmp3.tab.before a s = true := unparts (wk q5 (.code Cmp3.yN Cmp3.yB 6 (some (.array .byte)))) (wks q5 (.initialized Cmp3.yN.cls :: Cmp3.site))
  have q3 : ∀ w ∈ Cmp3.tab :: CodL.tab :: words, w.before a s = true := fun w hw => (List.mem_cons.mp hw).elim (fun e => e ▸ h3) fun hw => (List.mem_cons.mp hw).elim (fun e => e ▸ hc) (h w)
  have h4 : New4.tab.before a s = true := unparts (wk q3 (.code New4.yN New4.yB 6 none)) (wks q3 (.initialized New4.yN.cls :: New4.site))
  have q4 : ∀ w ∈ New4.tab :: words, w.before a s = true := fun w hw => (List.mem_cons.mp hw).elim (fun e => e ▸ h4) (h w)
  exact unparts (wk q4 (.code New1.yN New1.yB 2 none)) (wks q4 (.initialized New1.yN.cls :: New1.site))
/-- the words ride from the start Z to the walk's own state -/
theorem moved {Z s : State} {a0 args : Array Value} (hZ : Z.Warmed39 s.vm) (hw : ∀ d ∈ words, d.before a0 Z = true) : ∀ d ∈ words, d.before args s = true := fun d hd => by
  have q := hw d hd
  have t : ∀ d ∈ words, d = .arrayClass .byte ∨ (d.onTables && d.keepsFace) = true := by decide +kernel
  rcases t d hd with rfl | t
  · exact RoadKit.mvA hZ q
  · exact RoadKit.mv hZ q t
/-- WHAT COMES BACK, over the tables of the start Z: h the heap at the call, h' behind it -/
def Q (Z : State) (x : Addr) (A : Cell) (h : Heap) (v : Option Value) (h' : Heap) (L : List Loc) : Prop := v = none ∧ (∀ y ∈ L, y.base = x) ∧ RoadKit.Keep h h' [x] ∧ h'.size = h.size + 1 ∧ RoadKit.Exa Z h' x ST ∧ RoadKit.Fld Z h' x ST "value" "[B" (.ref h.size) ∧ RoadKit.Fld Z h' x ST "coder" "B" (.int 0) ∧
  (∃ V : Cell, RoadKit.Arr Z h' h.size V .byte ∧ V.vm = .none ∧ Z.vm.findClass "[B" = some V.cls ∧ V.slots.size = A.slots.size ∧ ∀ j, j < A.slots.size → V.slots[j]? = some (.int (lo8 (cv A j)))) ∧
  ∀ (O n d : String) (w : Value), RoadKit.Fld Z h x O n d w → RoadKit.slotOf Z O n d ≠ RoadKit.slotOf Z ST "value" "[B" → RoadKit.slotOf Z O n d ≠ RoadKit.slotOf Z ST "coder" "B" → RoadKit.Fld Z h' x O n d w
/-- **new String(chars) AT A CALL, IN THE ROAD'S FORM**: for specialBack behind newO: x the fresh String, b the char[] with the cell A -/
theorem back {p : Program} {l : Launch} {e : Env} {R : Room} {s : State} {args : Array Value} {below : List Frame} {len W : Nat} {Z : State} {a0 : Array Value} {h : Heap} (hZ : Z.Warmed39 s.vm) (hw : ∀ d ∈ words, d.before a0 Z = true) {kI : Nat} (wi : (Jvm.Cond.instantiable ST kI).before a0 Z = true)
    {x b : Addr} {A : Cell} {z : Int32} {v0 c0 : Value} (E : RoadKit.Exa Z h x ST) (V : RoadKit.Fld Z h x ST "value" "[B" v0) (C : RoadKit.Fld Z h x ST "coder" "B" c0) (K : RoadKit.Arr Z h b A .char) (hty : Typed .char A) (S : RoadKit.Sta Z h ST "COMPACT_STRINGS" "Z" (.int z)) (hz : ¬ z = 0)
    (l0 : 0 < A.slots.size) (l2 : A.slots.size ≤ 536870912) (hp : ∀ i, i < A.slots.size → ¬ 255 < cv A i) (hfr : 4 ≤ R.frames) (hlo : W + 65 ≤ R.locals) :
    Back l R p e below s args New1.yN len W (fun P a => a = #[.ref x, .ref b] ∧ P.U.heap = h ∧ P.cells + 1 ≤ R.cells ∧ P.slots + A.slots.size ≤ R.slots)
      (fun P _ v B => ∃ L, Q Z x A h v B.U.heap L ∧ B.locs = P.locs ++ L ∧ B.cells = P.cells + 1 ∧ B.slots = P.slots + A.slots.size) := by
  intro m meth c P g ig mk a X hg hsize hdg hW hn hp'
  obtain ⟨rfl, rfl, r1, r2⟩ := hp'
  have al : Z.vm.Alike P.U.vm := hZ.alike.trans X.warmed.alike
  obtain ⟨D, cfV, kV, iV, fV, hD, gV, stV, knV, obV, asV, slV⟩ := id V
  obtain ⟨D', cfC, kC, iC, fC, hD', gC, stC, -, -, asC, slC⟩ := id C
  cases hD.symm.trans hD'
  obtain ⟨D2, kD, e1, e2, e3, e4, e5⟩ := id E
  cases hD.symm.trans e1
  obtain ⟨c2, k2, i1, i2, i3, -⟩ := Cond.instantiable_spec wi
  cases e2.symm.trans i1
  cases e3.symm.trans i2
  obtain ⟨kU, u1, u2⟩ := al.2.2 _ _ e3
  have hB : Blank ST x D P.U := ⟨hD, ⟨knV, fun q hq => by rw [hq] at obV; cases obV⟩, by rw [al.findClass]; exact e2, kU, u1, by rw [u2]; exact i3, by rw [u2]; exact e5 i3⟩
  have F1 : Found ST "value" "[B" fV P.U := ⟨SBG.found_only al ⟨cfV, kV, iV, gV⟩, stV⟩
  have F2 : Found ST "coder" "B" fC P.U := ⟨SBG.found_only al ⟨cfC, kC, iC, gC⟩, stC⟩
  have hA : Ch b A P.U := ⟨⟨K.1, State.isArrayOf_alike al K.2.1, K.2.2, by omega⟩, hty⟩
  have hS : StaticIs P.U ST "COMPACT_STRINGS" "Z" (.int z) := by
    obtain ⟨cfS, iS, kS, fS, st, cS, t1, t2, t3, t4, t5, t6, t7⟩ := S
    exact StaticIs.there (s := { Z with heap := P.U.heap }) ⟨cfS, iS, kS, fS, st, cS, t1, t2, t3, t4, t5, (fun q => by rw [q] at t6; cases t6), t7⟩ al rfl
  obtain ⟨v, B, X', ⟨⟨hv, E', V', q1, q2, q3, q4, q5, q6, q7, q8, q9, q10, q11⟩, hl, hc, hs⟩, st⟩ := New1.pays x D fV fC b A z (tab_of (moved hZ hw)) hfr hlo m meth c P g ig mk _ X hg hsize hdg hW hn ⟨r1, r2, rfl, hB, F1, F2, hA, hS, hz, l0, l2, hp⟩
  have al' : Z.vm.Alike B.U.vm := hZ.alike.trans X'.warmed.alike
  have hsz : E'.slots.size = D.slots.size := by
    obtain ⟨-, -, -, kB, w1, w2, w3⟩ := q1
    obtain ⟨kB', y1, y2⟩ := al'.2.2 _ _ e3
    rw [q2.2.1] at w1
    cases w1.symm.trans y1
    rw [w3, e5 i3, y2]
  refine ⟨v, B, X', ⟨_, ⟨hv, ?_, ⟨by omega, fun y cy hy hn' => q10 y cy (by simpa using hn') hy, fun y cy hy => ?_⟩, q11, ⟨E', _, q1.1, by rw [q2.2.1]; exact e2, by rw [q2.2.1]; exact e3, by rw [q2.1]; exact obV, fun _ => by rw [hsz]; exact e5 i3⟩,
    ⟨E', cfV, kV, iV, fV, q1.1, gV, stV, by rw [q2.1]; exact knV, by rw [q2.1]; exact obV, by rw [q2.2.1]; exact asV, q3⟩, ⟨E', cfC, kC, iC, fC, q1.1, gC, stC, by rw [q2.1]; exact knV, by rw [q2.1]; exact obV, by rw [q2.2.1]; exact asC, q4⟩,
    ⟨V', ⟨q5.1, State.isArrayOf_alike al'.symm q5.2.1, q5.2.2.1⟩, q6, by rw [← al'.findClass]; exact q7, q8, fun j hj => by have := q9 j hj; rwa [Nat.zero_add] at this⟩, fun O n d w F n1 n2 => ?_⟩, hl, hc, hs⟩, st⟩
  · intro y hy
    simp only [List.mem_cons, List.not_mem_nil, or_false] at hy
    rcases hy with rfl | rfl <;> rfl
  · by_cases q : y = x
    · subst q
      cases hD.symm.trans hy
      exact ⟨E', q1.1, q2.2.1, q2.1, hsz⟩
    · exact ⟨cy, q10 y cy q hy, rfl, rfl, rfl⟩
  · obtain ⟨D3, cf, k, i, f, g1, g2, g3, g4, g5, g6, g7⟩ := F
    cases hD.symm.trans g1
    simp only [RoadKit.slotOf, g2, gV, gC, Option.map_some, Option.getD_some] at n1 n2
    exact ⟨E', cf, k, i, f, q1.1, g2, g3, by rw [q2.1]; exact g4, by rw [q2.1]; exact g5, by rw [q2.2.1]; exact g6, by rw [q2.2.2 f.slot (by simp [n1, n2])]; exact g7⟩
end StrChars.Road
namespace StrChars.Road
open Jvm Sem ClassFile Op Lib Jvm.Stand Jvm.Free Jvm.Free.XT
/-- WHAT COMES BACK, the byte[] as a list of values -/
def QA (Z : State) (x : Addr) (zn : Int32) (cs : List Int32) (h : Heap) (v : Option Value) (h' : Heap) (L : List Loc) : Prop := v = none ∧ (∀ y ∈ L, y.base = x) ∧ RoadKit.Keep h h' [x] ∧ h'.size = h.size + 1 ∧ RoadKit.Exa Z h' x ST ∧ RoadKit.Fld Z h' x ST "value" "[B" (.ref h.size) ∧ RoadKit.Fld Z h' x ST "coder" "B" (.int 0) ∧
  (∃ kb, Z.vm.findClass "[B" = some kb ∧ RoadKit.Arv Z h' h.size kb .byte zn (cs.map fun c => .int (lo8 c)) (.int 0)) ∧
  ∀ (O n d : String) (w : Value), RoadKit.Fld Z h x O n d w → RoadKit.slotOf Z O n d ≠ RoadKit.slotOf Z ST "value" "[B" → RoadKit.slotOf Z O n d ≠ RoadKit.slotOf Z ST "coder" "B" → RoadKit.Fld Z h' x O n d w
/-- **new String(chars) AT A CALL, THE ARRAYS AS LISTS**: the char[] at b holds cs, not empty, no char above 255 -/
theorem backArv {p : Program} {l : Launch} {e : Env} {R : Room} {s : State} {args : Array Value} {below : List Frame} {len W : Nat} {Z : State} {a0 : Array Value} {h : Heap} (hZ : Z.Warmed39 s.vm) (hw : ∀ d ∈ words, d.before a0 Z = true) {kI : Nat} (wi : (Jvm.Cond.instantiable ST kI).before a0 Z = true)
    {x b : Addr} {k : ClassId} {zn z : Int32} {cs : List Int32} {dv v0 c0 : Value} (E : RoadKit.Exa Z h x ST) (V : RoadKit.Fld Z h x ST "value" "[B" v0) (C : RoadKit.Fld Z h x ST "coder" "B" c0) (K : RoadKit.Arv Z h b k .char zn (cs.map Value.int) dv) (S : RoadKit.Sta Z h ST "COMPACT_STRINGS" "Z" (.int z)) (hz : ¬ z = 0)
    (hlen : zn.toNatClampNeg = cs.length) (h0 : 0 < cs.length) (hbig : cs.length ≤ 536870912) (hall : ∀ c ∈ cs, ¬ 255 < c) (hfr : 4 ≤ R.frames) (hlo : W + 65 ≤ R.locals) :
    Back l R p e below s args New1.yN len W (fun P a => a = #[.ref x, .ref b] ∧ P.U.heap = h ∧ P.cells + 1 ≤ R.cells ∧ P.slots + cs.length ≤ R.slots)
      (fun P _ v B => ∃ L, QA Z x zn cs h v B.U.heap L ∧ B.locs = P.locs ++ L ∧ B.cells = P.cells + 1 ∧ B.slots = P.slots + cs.length) := by
  obtain ⟨A, K1, K2, K3, K4, K5, K6⟩ := K
  have e : A.slots.size = cs.length := K3.trans hlen
  have hat : ∀ (i : Nat) (hi : i < cs.length), A.slots[i]? = some (.int cs[i]) := fun i hi => by rw [K5 i (by omega)]; simp [List.getD_eq_getElem?_getD, hi]
  have hcv : ∀ (i : Nat) (hi : i < cs.length), cv A i = cs[i] := fun i hi => by unfold cv; rw [hat i hi]
  have hty : Typed .char A := fun i v hv => by
    have hi : i < A.slots.size := (Array.getElem?_eq_some_iff.mp hv).1
    have q := K5 i hi
    rw [hv] at q
    rw [Option.some.inj q]
    exact K6 i hi
  refine Back.mono (back hZ hw wi E V C K1 hty S hz (by omega) (by omega) (fun i hi => by rw [hcv i (by omega)]; exact hall _ (List.getElem_mem _)) hfr hlo) (fun P a hp => ⟨hp.1, hp.2.1, hp.2.2.1, by rw [e]; exact hp.2.2.2⟩) (fun P a v B hp hq => ?_)
  obtain ⟨L, ⟨q1, q2, q3, q4, q5, q6, q7, ⟨V', v1, v2, v3, v4, v5⟩, q9⟩, hl, hc, hs⟩ := hq
  refine ⟨L, ⟨q1, q2, q3, q4, q5, q6, q7, ⟨V'.cls, v3, V', v1, rfl, by rw [v4, e, hlen], K4, fun i hi => ?_, fun i hi => ?_⟩, q9⟩, hl, hc, by rw [hs, e]⟩
  · have hi' : i < cs.length := by omega
    rw [v5 i (by omega), hcv i hi']; simp [List.getD_eq_getElem?_getD, hi']
  · have hi' : i < cs.length := by omega
    simp only [List.getD_eq_getElem?_getD, List.getElem?_map, List.getElem?_eq_getElem hi', Option.map_some, Option.getD_some]
    exact fits_lo8 _
end StrChars.Road
namespace StrChars.Road
open Jvm Sem ClassFile Op Lib Jvm.Stand Jvm.Free Jvm.Free.XT
/-- WHAT COMES BACK, in the writer's own shape -/
def QV (Z : State) (x : Addr) (N : Int32) (bs : List Int32) (h : Heap) (n0 : Nat) (v : Option Value) (h' : Heap) (L : List Loc) : Prop := v = none ∧ RoadKit.Fr n0 L ∧ RoadKit.Keep h h' [x] ∧ RoadKit.Exa Z h' x ST ∧ RoadKit.Fld Z h' x ST "coder" "B" (.int 0) ∧
  ∃ (t : Addr) (kb : ClassId), n0 ≤ t ∧ h.size ≤ t ∧ ¬ t = x ∧ RoadKit.Fld Z h' x ST "value" "[B" (.ref t) ∧ RoadKit.Arv Z h' t kb .byte N (bs.map Value.int) (.int 0)
/-- **new String(chars) AT A CALL, FOR THE WRITER**: a char[] of n known ints, each 0 to 255 -/
theorem backV {p : Program} {l : Launch} {e : Env} {R : Room} {s : State} {args : Array Value} {below : List Frame} {len W : Nat} {Z : State} {a0 : Array Value} {h : Heap} (hZ : Z.Warmed39 s.vm) (hw : ∀ d ∈ words, d.before a0 Z = true) {kI : Nat} (wi : (Jvm.Cond.instantiable ST kI).before a0 Z = true)
    {x b : Addr} {kC : ClassId} {cs bs : List Int32} {d v0 c0 : Value} {z N : Int32} {n n0 : Nat} (hx0 : n0 ≤ x) (hh0 : n0 ≤ h.size) (E : RoadKit.Exa Z h x ST) (V : RoadKit.Fld Z h x ST "value" "[B" v0) (C : RoadKit.Fld Z h x ST "coder" "B" c0) (K : RoadKit.Arv Z h b kC .char N (cs.map Value.int) d) (S : RoadKit.Sta Z h ST "COMPACT_STRINGS" "Z" (.int z)) (hz : ¬ z = 0)
    (hn : cs.length = n) (hN : N = Int32.ofNat n) (l0 : 0 < n) (l2 : n ≤ 4000) (hp : ∀ c ∈ cs, ¬ c < 0 ∧ ¬ (255 : Int32) < c) (hb : bs = cs.map (fun c => c.toInt8.toInt32)) (hfr : 4 ≤ R.frames) (hlo : W + 65 ≤ R.locals) :
    Back l R p e below s args (⟨"java/lang/String", "<init>", "([C)V"⟩ : MethodName) len W (fun P a => a = #[.ref x, .ref b] ∧ P.U.heap = h ∧ P.cells + 1 ≤ R.cells ∧ P.slots + n ≤ R.slots)
      (fun P _ v B => ∃ L, QV Z x N bs h n0 v B.U.heap L ∧ B.locs = P.locs ++ L ∧ B.cells = P.cells + 1 ∧ B.slots = P.slots + n) := by
  subst hn hN hb
  refine Back.mono (backArv hZ hw wi E V C K S hz (n32 (by omega)) l0 (by omega) (fun c hc => (hp c hc).2) hfr hlo) (fun P a hp => hp) (fun P a v B hp hq => ?_)
  obtain ⟨L, ⟨q1, q2, q3, q4, q5, q6, q7, ⟨kb, v1, v2⟩, q9⟩, hl, hc, hs⟩ := hq
  exact ⟨L, ⟨q1, fun y hy => by rw [q2 y hy]; exact hx0, q3, q5, q7, h.size, kb, hh0, Nat.le_refl _, Nat.ne_of_gt E.lt, q6, by rw [List.map_map]; exact v2⟩, hl, hc, hs⟩
end StrChars.Road
end Jvm.Pilot.@@N@@

namespace Jvm.Pilot.@@N@@
open Jvm Jvm.ClassFile Sem Op Lib Jvm.Free Jvm.Stand Jvm.LawKit Jvm.RoadKit Bundle Jvm.Pilot.@@N@@.Jvm.D
theorem own_eqint {args : Array Value} {first s : State} {o : Option Outcome} {idx : List Nat} {t : Term} {k : Int32} (h : (Jvm.Cond.eq t (.int k)).value args first o s idx = some true) : t.eval args first o idx s = some (.int k) := by
  cases ht : t.eval args first o idx s with
  | none => simp [Cond.value, ht] at h
  | some x => cases x <;> simp [Cond.value, ht, Term.eval] at h ⊢; exact h
theorem own_nar255 (x : Int32) : nar .char ((x &&& (255 : Int32)).toUInt32.toUInt16.toUInt32.toInt32) = x &&& 255 := by simp only [nar, i2c_mask]
theorem own_and255 (x : Int32) : ¬ (x &&& (255 : Int32)) < 0 ∧ ¬ (255 : Int32) < (x &&& (255 : Int32)) := by
  have h := c_and x (255 : Int32) (by decide)
  have e : (255 : Int32).toInt = 255 := by decide
  have z : (0 : Int32).toInt = 0 := by decide
  rw [e] at h
  refine ⟨fun q => ?_, fun q => ?_⟩
  · rw [Int32.lt_iff_toInt_lt, z] at q; omega
  · rw [Int32.lt_iff_toInt_lt, e] at q; omega
theorem own_nar8 (x : Int32) : nar .byte x.toInt8.toInt32 = x.toInt8.toInt32 := by
  show x.toInt8.toInt32.toInt8.toInt32 = x.toInt8.toInt32
  rw [Int8.toInt8_toInt32]
theorem own_i2c255 (x : Int32) : ((x &&& (255 : Int32)).toUInt32.toUInt16.toUInt32.toInt32) = x &&& 255 := by simp only [i2c_mask]
theorem own_sta {Z : State} {a0 : Array Value} {n d : String} (hi : (Jvm.Cond.initialized tN).before a0 Z = true) (hl : (Jvm.Cond.laysStatic tN n d).before a0 Z = true) (hr : (Jvm.Cond.isRef (.static tN n d)).before a0 Z = true) : ∃ u : RefV, Sta Z Z.heap tN n d u.v := by
  obtain ⟨u, cf, i, k, f, a, cell, h1, h2, h3, h4, h5, h6, h7⟩ := Jvm.Free.Exc.staticIs_of hi hl hr
  obtain ⟨_, _, _, _, _, _, -, g1, -, g2, g3, g4, -⟩ := Cond.laysStatic_spec hl
  cases h1.symm.trans g1
  cases h4.symm.trans g2
  cases h5.symm.trans g3
  exact ⟨u, cf, i, k, f, a, cell, h1, h2, h3, h4, h5, g4, h7⟩

open Jvm.Free.Exc (obD msgD thD fillPaysAny)
def own_thr (rc : String) (n : Nat) : List Jvm.Cond := [.initialized tN, .superclass tN "java/lang/Object", .instanceMethod tFill, .codeSync tFill LibCode.Throwable.Fill.code 1 (some (.object tN)), .instanceMethod tFill0, .native tFill0,
  .instanceMethod oInit, .code oInit object_method_1_code 1 none, .methodLink tN 1 oInit, .methodLink tN 27 tFill, .methodLink tN 202 tFill0,
  .fieldLink tN 7 tN "cause" thD, .fieldLink tN 17 tN "stackTrace" steD, .fieldLink tN 24 tN "suppressedExceptions" listD, .fieldLink tN 13 tN "UNASSIGNED_STACK" steD, .fieldLink tN 20 tN "SUPPRESSED_SENTINEL" listD, .fieldLink tN 198 tN "backtrace" obD,
  .lays rc tN "cause" thD, .lays rc tN "stackTrace" steD, .lays rc tN "suppressedExceptions" listD, .laysStatic tN "UNASSIGNED_STACK" steD, .laysStatic tN "SUPPRESSED_SENTINEL" listD,
  .lays rc tN "backtrace" obD, .lays rc tN "depth" "I", .selects rc tFill0 tFill0, .soleField tN "backtrace", .soleField tN "depth", .arrayOver (.object "java/lang/Object"), .instantiable rc n]
theorem own_thr_ok {rc : String} {n : Nat} : (own_thr rc n).all xOk = true := rfl
theorem own_links {rc : String} {n : Nat} {args : Array Value} {s : State} {pl : Platform} (howns : pl.frameOwnsMonitors = true) (hfin : pl.finalization = false) (hpl : pl.magicAccessors = ({} : Platform).magicAccessors) (w : ∀ d ∈ own_thr rc n, d.before args s = true) :
    ∃ T : ThrowableC, T.Links pl s ∧ s.vm.findClass tN = some T.cT ∧ s.methodNamed? tFill = some T.fill ∧ s.methodNamed? tFill0 = some T.fill0 ∧ s.fieldFound? tN "stackTrace" steD = some (T.cT, T.kT, T.i17, T.fStack) ∧
      T.fStack.type = .array (.object "java/lang/StackTraceElement") ∧ s.fieldFound? tN "UNASSIGNED_STACK" steD = some (T.cT, T.kT, T.i13, T.fUnassigned) := by
  have W : ∀ (k : Nat) (d : Jvm.Cond), (own_thr rc n)[k]? = some d → d.holds args s none s [] = true := fun k d q => w d (List.mem_of_getElem? q)
  obtain ⟨u, _, un, -⟩ := Cond.instanceMethod_spec (W 2 _ rfl)
  have hc : s.vm.findClass tN = some u.cls := findClass_of_methodNamed un
  generalize u.cls = c at hc
  obtain ⟨_, k, _, _, hk, _, _, hord, _, hface⟩ := Cond.superclass_spec hc (W 1 _ rfl)
  have hinit := Cond.initialized_spec hc hk (W 0 _ rfl)
  have hname : k.name = tN := by obtain ⟨k', q1, q2⟩ := Vm.findClass_spec hc; cases hk.symm.trans q1; exact q2
  -- the three methods
  obtain ⟨iF, F, fn, fm, fat, fst, fab, -, -⟩ := Cond.ownMethod (x := tFill) hc hk (W 2 _ rfl)
  obtain ⟨F', cF, fm', fc, fb, fl, fr, flk, -, fsg⟩ := Cond.codeSync_spec fn (W 3 _ rfl)
  cases fm.symm.trans fm'
  obtain ⟨iN, N, nn, nm, nat, nst, nab, nnm, nds⟩ := Cond.ownMethod (x := tFill0) hc hk (W 4 _ rfl)
  obtain ⟨q0, N', nn', nm', nnat, ncode, nlk, nsg⟩ := Cond.native_spec (W 5 _ rfl)
  cases nn.symm.trans nn'
  cases nm.symm.trans nm'
  obtain ⟨O, oM, on, om, ost, oab⟩ := Cond.instanceMethod_spec (W 6 _ rfl)
  obtain ⟨oM', oC, om', oc, ob, -, -, olk, -, osg⟩ := Cond.code_spec on (W 7 _ rfl)
  cases om.symm.trans om'
  obtain ⟨kO, okO, onO⟩ := Vm.findClass_spec (findClass_of_methodNamed on)
  obtain ⟨onm, ods⟩ := name_of_methodNamed on om
  -- the three entries that name them
  obtain ⟨x1, y1, cf, l1, r1, hcf, p1⟩ := Cond.linkedMethod hc hk on (W 8 _ rfl) pl hpl
  obtain ⟨x2, y2, cf2, l2, r2, hcf2, p2⟩ := Cond.linkedMethod hc hk fn (W 9 _ rfl) pl hpl
  cases hcf.symm.trans hcf2
  obtain ⟨x3, y3, cf3, l3, r3, hcf3, p3⟩ := Cond.linkedMethod hc hk nn (W 10 _ rfl) pl hpl
  cases hcf.symm.trans hcf3
  -- the fields
  obtain ⟨za, ia, fa, la, ra, ta, sa, na, -, -, -⟩ := Cond.ownField (t := .object tN) hc hk (by decide +kernel) (W 11 _ rfl) (W 17 _ rfl) pl hpl
  obtain ⟨zb, ib, f2, lb, rb, tb, sb, nb, mb, yb, gb⟩ := Cond.ownField (t := .array (.object "java/lang/StackTraceElement")) hc hk (by decide +kernel) (W 12 _ rfl) (W 18 _ rfl) pl hpl
  obtain ⟨zc, ic, f3, lc, rc', tc, sc, nc, mc, -, gc⟩ := Cond.ownField (t := .object "java/util/List") hc hk (by decide +kernel) (W 13 _ rfl) (W 19 _ rfl) pl hpl
  obtain ⟨zd, id', f4, aS, _, ld, rd, td, sd, -, -, hst, -, -, -, -, gd⟩ := Cond.ownStatic (t := .array (.object "java/lang/StackTraceElement")) hc hk (by decide +kernel) (W 14 _ rfl) (W 20 _ rfl) pl hpl
  obtain ⟨ze, ie, f5, _, _, le, re, te, se, -⟩ := Cond.ownStatic (t := .object "java/util/List") hc hk (by decide +kernel) (W 15 _ rfl) (W 21 _ rfl) pl hpl
  have hap : f2.slot ≠ f3.slot := by
    obtain ⟨cr, kr, _, _, _, _, hr1, hr2, -⟩ := Cond.lays_spec (W 18 _ rfl)
    obtain ⟨-, d2, e2, e3⟩ := Cond.laysAt hr1 hr2 gb (W 18 _ rfl)
    obtain ⟨-, d3, e4, e5⟩ := Cond.laysAt hr1 hr2 gc (W 19 _ rfl)
    exact Cond.laysApart e2 e4 e3 e5 (by rw [mb, mc]; decide)
  have hF0 : F.sig.parameters = [] := by rw [← Option.some.inj ((show parseMethodDescriptor tFill.desc = some ⟨[], some (.object tN)⟩ from by decide +kernel).symm.trans fsg)]
  have hN0 : N.sig.parameters = [.int] := by rw [← Option.some.inj ((show parseMethodDescriptor tFill0.desc = some ⟨[.int], some (.object tN)⟩ from by decide +kernel).symm.trans nsg)]
  have hO0 : oM.sig.parameters.length = 0 := by rw [← Option.some.inj ((show parseMethodDescriptor oInit.desc = some ⟨[], none⟩ from by decide +kernel).symm.trans osg)]; rfl
  refine ⟨{ cT := c, kT := k, cO := c, aS := aS, fillIdx := iF, fill0Idx := iN, initSIdx := iF, obj := O, kObj := kO, methFill := F, methFill0 := N, methInitS := F, methObj := oM, codeFill := cF, codeInitS := cF, codeObj := oC, fBack := f2, fDepth := f2, fStack := f2, fCause := fa, fSupp := f3, fMsg := fa, fUnassigned := f4, fSentinel := f5, cfT := cf, ci1 := x1, n1 := y1, ci27 := x2, n27 := y2, ci202 := x3, n202 := y3, ci7 := za, i7 := ia, ci13 := zd, i13 := id', ci17 := zb, i17 := ib, ci20 := ze, i20 := ie, ci24 := zc, i24 := ic }, ?_, hc, fn, nn, gb, yb, gd⟩
  exact ⟨howns, hfin, hk, hname, Vm.findClass_boot hc hk, hface, hinit, hst, fat, fc, fb, fl, flk, fst, fab, fr, hF0, nat, nnm, nds, hN0, nst, nnat, ncode, nlk, nab, sb, nb, sd,
    okO, onO, om, onm, ost, oab, by rw [ods]; exact lookupSpecial_of_named on om ost, hO0, oc, ob, olk, sa, na, se, sc, nc, sa, na, hap, hcf, l1, r1, p1, l2, r2, p2, l3, r3, p3, la, ra, ta, ld, rd, td, lb, rb, tb, le, re, te, lc, rc', tc⟩
theorem own_found {Z s : State} {h : Heap} {a : Addr} {C n d : String} {v : Value} (hZ : Z.Warmed39 s.vm) (F : Fld Z h a C n d v) : ∃ (cell : Cell) (cf : ClassId) (k : Class) (i : Nat) (f : Field), h[a]? = some cell ∧ s.fieldFound? C n d = some (cf, k, i, f) ∧ cell.slots[f.slot]? = some v := by
  obtain ⟨cell, cf, k, i, f, h1, h2, -, -, -, -, h7⟩ := F
  obtain ⟨k', h2', -⟩ := State.fieldFound?_setVm hZ.alike h2
  exact ⟨cell, cf, k', i, f, h1, h2', h7⟩
theorem own_unt {h h' : Heap} {a b : Addr} {sl : Nat} {v : Value} (W : Wr h h' b sl v) (U : Unt h a) : Unt h' a := by
  obtain ⟨cell, h1, h2, h3⟩ := U
  obtain ⟨c0, w1, -, -, rfl⟩ := W
  by_cases e : b = a
  · subst e; cases w1.symm.trans h1
    exact ⟨cell.setSlot sl v, by simp [(Array.getElem?_eq_some_iff.mp h1).1], h2, h3⟩
  · exact ⟨cell, by rw [Array.getElem?_setIfInBounds_ne e]; exact h1, h2, h3⟩
theorem own_unk {h h' : Heap} {ws : List Addr} {a : Addr} (K : Keep h h' ws) (U : Unt h a) : ∃ cell : Cell, h'[a]? = some cell ∧ cell.vm ≠ .unknown := by
  obtain ⟨cell, h1, h2, -⟩ := U
  obtain ⟨c', q1, -, q3, -⟩ := K.2.2 _ _ h1
  exact ⟨c', q1, by rw [q3, h2]; simp⟩
section OwnFill
variable {p : Program} {l : Launch} {e : Env} {R : Room} {s : State} {m : MethodId} {args : Array Value} {below : List Frame} {meth : Method} {c : Code} {T : State} {locs : List Loc} {cells slots : Nat} {Z : State} {a0 : Array Value} {h : Heap}
theorem own_b3 {a : Addr} {s1 s2 s3 : Nat} (X : Stand p l e R s m args below meth c T ([] ++ [⟨a, s1⟩] ++ [⟨a, s2⟩] ++ [⟨a, s3⟩]) cells slots) : ∀ y ∈ ([] ++ [⟨a, s1⟩] ++ [⟨a, s2⟩] ++ [⟨a, s3⟩] : List Loc), y.base = a := by
  intro y hy
  simp only [List.nil_append, List.cons_append, List.mem_cons, List.not_mem_nil, or_false] at hy
  rcases hy with rfl | rfl | rfl <;> rfl
/-- a heap all of whose writes since s lie in one object, and where nothing was made at the point A -/
theorem own_keep1 {U : State} {L1 L2 : List Loc} {k1 n1 k2 n2 : Nat} {T2 : State} {a : Addr} (X : Stand p l e R s m args below meth c U L1 k1 n1) (Y : Stand p l e R s m args below meth c T2 L2 k2 n2) (hk : k1 = 0) (h1 : ∀ y ∈ L1, y.base = a) (h2 : ∀ y ∈ L2, y.base = a) : Keep U.heap T2.heap [a] := by
  have g1 : U.heap.size ≤ s.heap.size := by have := X.same.2.2.1; rw [hk] at this; exact this
  have g2 : s.heap.size ≤ T2.heap.size := Y.same.2.1
  have one : ∀ (x : Addr) (cx : Cell), U.heap[x]? = some cx → ∃ (c0 c2 : Cell), T2.heap[x]? = some c2 ∧ cx = { c0 with slots := cx.slots } ∧ c2 = { c0 with slots := c2.slots } ∧ cx.slots.size = c0.slots.size ∧ c2.slots.size = c0.slots.size ∧ (x ≠ a → ∀ i : Nat, c2.slots[i]? = cx.slots[i]?) := by
    intro x cx hx
    have hlt : x < s.heap.size := Nat.lt_of_lt_of_le (Array.getElem?_eq_some_iff.mp hx).1 g1
    have hs : s.heap[x]? = some s.heap[x] := Array.getElem?_eq_getElem hlt
    obtain ⟨c1, q1, q2, q3, q4⟩ := X.same.2.2.2.2.2 x _ hs
    obtain ⟨c2, r1, r2, r3, r4⟩ := Y.same.2.2.2.2.2 x _ hs
    have q1' : U.heap[x]? = some c1 := q1
    cases q1'.symm.trans hx
    exact ⟨_, c2, r1, q2, r2, q3, r3, fun hne i => (r4 i fun hm => hne (h2 _ hm)).trans (q4 i fun hm => hne (h1 _ hm)).symm⟩
  refine ⟨Nat.le_trans g1 g2, fun x cx hx hn => ?_, fun x cx hx => ?_⟩
  · obtain ⟨c0, c2, r1, r2, r3, r4, r5, r6⟩ := one x cx hx
    rw [r1, r2, r3]
    have : c2.slots = cx.slots := Array.ext (r5.trans r4.symm) fun i hi1 hi2 => by
      have := r6 (fun z => hn (by simp [z])) i
      rw [Array.getElem?_eq_getElem hi1, Array.getElem?_eq_getElem hi2] at this
      exact Option.some.inj this
    rw [this]
  · obtain ⟨c0, c2, r1, r2, r3, r4, r5, -⟩ := one x cx hx
    exact ⟨c2, r1, by rw [r2, r3], by rw [r2, r3], r5.trans r4.symm⟩
theorem own_takes {cell : Cell} {rc : String} {kx : Class} {C n d : String} {cf i : Nat} {k : Class} {f : Field} {v : Value} (hr : s.vm.findClass rc = some cell.cls) (hk : s.vm.classes[cell.cls]? = some kx) (hord : kx.kind = .ordinary) (hsz : cell.slots.size = kx.instanceTypes.size) (hvm : cell.vm = .none)
    (hf : s.fieldFound? C n d = some (cf, k, i, f)) (w : (Cond.lays rc C n d).before args s = true) (hv : fits f.type v = true) : Jvm.Takes s cell f v := by
  obtain ⟨ty, -⟩ := Cond.laysAt hr hk hf w
  obtain ⟨q1, q2⟩ := Takes.of_laid (v := v) hk hord ty hv
  exact ⟨by rw [hsz]; simpa using q1, by rw [hvm]; exact q2⟩
set_option maxHeartbeats 4000000 in
theorem own_fillBack {rc : String} {n n0 W len : Nat} {a : Addr} {u0 : RefV} (hx : p.tables.exec = Jvm.exec) (hl : l.stackTraces = true) (hZ : Z.Warmed39 s.vm) (wZ : ∀ d ∈ own_thr rc n, d.before a0 Z = true) (hTK : s.vm.MethodsKnown) (hB : s.vm.FramesKnown below) (O : Old Z n0 s.heap)
    (E : Exa Z h a rc) (U : Unt h a) (Fs : Fld Z h a tN "stackTrace" steD u0.v) (Fb : Fld Z h a tN "backtrace" obD .null) (Su : Sta Z h tN "UNASSIGNED_STACK" steD u0.v) (ga : n0 ≤ a) (hf : 2 < R.frames) (hlo : W + 42 ≤ R.locals) :
    Back l R p e below s args tFill len W (fun A av => av = #[.ref a] ∧ A.U.heap = h ∧ A.cells + 1 ≤ R.cells ∧ A.slots + 2752 ≤ R.slots ∧ (∀ y ∈ A.locs, y.base = a) ∧ A.cells = 0)
      (fun A _ v B => ∃ L, (v = some (.ref a) ∧ Fr n0 L ∧ Keep h B.U.heap [a]) ∧ B.locs = A.locs ++ L ∧ B.cells = A.cells + 1 ∧ B.slots = A.slots + 2752) := by
  intro m meth c A g ig mk av X hg hsz hd hWd hmk hPre
  obtain ⟨rfl, hA, hcA, hsA, hLA, hA0⟩ := hPre
  have hpl := X.admits.platform
  have w : ∀ d ∈ own_thr rc n, d.before args s = true := fun d hd => mvX (ThS.start.ext O.2) hZ (List.all_eq_true.mp own_thr_ok d hd) (wZ d hd)
  have ww : ∀ (k : Nat) (d : Jvm.Cond), (own_thr rc n)[k]? = some d → d.holds args s none s [] = true := fun k d q => w d (List.mem_of_getElem? q)
  obtain ⟨T, L, hc, hF, h0, hS, tS, hU⟩ := own_links (pl := e.platform) (by rw [hpl]) (by rw [hpl]) (by rw [hpl]) w
  -- the object
  obtain ⟨cell, q1, q2, q3⟩ := U
  obtain ⟨c1, kz, e1, e2, e3, -, e5⟩ := E
  cases q1.symm.trans e1
  obtain ⟨kx, hkx, hek⟩ := hZ.alike.2.2 _ _ e3
  have hr : s.vm.findClass rc = some cell.cls := by rw [hZ.alike.findClass]; exact e2
  have hord : kx.kind = .ordinary := by
    obtain ⟨c2, k2, i1, i2, i3, -⟩ := Cond.instantiable_spec (ww 28 _ rfl)
    cases hr.symm.trans i1; cases hkx.symm.trans i2; exact i3
  have hszc : cell.slots.size = kx.instanceTypes.size := by rw [hek] at hord ⊢; exact e5 hord
  -- its fields
  obtain ⟨c2, _, _, _, f, g1, g2, g3⟩ := own_found hZ Fs
  cases q1.symm.trans g1
  cases hS.symm.trans g2
  obtain ⟨c3, cfb, kfb, ifb, fB, b1, b2, b3⟩ := own_found hZ Fb
  cases q1.symm.trans b1
  obtain ⟨z198, i198, fB', l198, r198, t198, s198, -, m198, y198, g198⟩ := Cond.ownField (t := .object "java/lang/Object") hc L.cls (by decide +kernel) (ww 16 _ rfl) (ww 22 _ rfl) e.platform (by rw [hpl])
  cases g198.symm.trans b2
  obtain ⟨_, _, cD, kD, iD, fD, -, -, d1, d2, -⟩ := Cond.lays_spec (ww 23 _ rfl)
  cases (Cond.lays_declared (ww 23 _ rfl) d1).symm.trans hc
  obtain ⟨d3, d4⟩ := State.fieldFound?_spec d1
  cases d3.symm.trans L.cls
  obtain ⟨mD, yD⟩ := State.fieldFound?_type d1 (t := .int) (by decide +kernel)
  -- Throwable's statics
  obtain ⟨cu, iu, ku, fu, st, cellS, u1, u2, -, u4, u5, u6, u7⟩ := Su
  obtain ⟨ku', u1', heku⟩ := State.fieldFound?_setVm hZ.alike u1
  have hst : ku'.statics = some st := by rw [heku]; exact u4
  cases hU.symm.trans u1'
  cases L.statics.symm.trans hst
  have hne : T.aS ≠ a := fun z => by rw [z] at u5; cases q1.symm.trans u5; rw [q2] at u6; cases u6
  obtain ⟨comp, cO, kO, -, -, o1, o2, o3⟩ := Cond.arrayOver_spec (ww 27 _ rfl)
  have hsel : selectMethod e.platform s.vm cell.cls T.fill0 = .method T.fill0 := by
    obtain ⟨_, _, _, v1, v2, v3, v4, -⟩ := Cond.selects_spec (ww 24 _ rfl)
    cases v1.symm.trans hr
    cases v2.symm.trans (State.methodFound?_of_named h0 (by decide))
    cases v3.symm.trans h0
    rw [Launch.admits_selectMethod X.admits]; exact v4
  obtain ⟨v, B, XB, hP, hsteps⟩ := fillPaysAny (l := l) (R := R) (p := p) (e := e) (below := below) (s := s) (sargs := args) (len := len) (W := W) hx (by rw [hpl]; exact hl) T L hF (u0 := u0) (self := a) (cell := cell) (cellS := cellS)
    (fun _ => by rw [q2]; simp) (by rw [q2]; simp) (by rw [q3]) (by rw [q3]) g3 hsel hne (fun z => by rw [z] at u6; cases u6) u7 (own_takes hr hkx hord hszc q2 g2 (ww 18 _ rfl) (by rw [tS]; exact fits_refV_array _ u0))
    ⟨{ ci198 := z198, i198 := ifb, fBack := fB }, ⟨l198, r198, t198, s198⟩, b3⟩ hTK hB hc o3 o1 o2
    (Cond.soleField_find hc L.cls (ww 25 _ rfl) t198 m198 s198) (Cond.soleField_find hc L.cls (ww 26 _ rfl) d4 mD d2)
    (fun x => own_takes hr hkx hord hszc q2 g198 (ww 22 _ rfl) (by rw [y198]; rfl)) (fun x => own_takes hr hkx hord hszc q2 d1 (ww 23 _ rfl) (by rw [yD]; rfl)) hf hlo
    m meth c A g ig mk #[.ref a] X hg hsz hd hWd hmk ⟨rfl, hcA, hsA, by rw [hA]; exact q1, by rw [hA]; exact u5⟩
  obtain ⟨hv, C, n', hn', -, -, -, -, -, hL, hcc, hss⟩ := hP
  have hLb : ∀ y ∈ [(⟨a, fB.slot⟩ : Loc), ⟨a, fD.slot⟩, ⟨a, T.fStack.slot⟩], y.base = a := fun y hy => by
    simp only [List.mem_cons, List.not_mem_nil, or_false] at hy
    rcases hy with rfl | rfl | rfl <;> rfl
  refine ⟨v, ⟨B.U, B.locs, B.cells, A.slots + 2752⟩, Gl.wider XB (Nat.le_refl _) (show B.slots ≤ A.slots + 2752 by rw [hss]; omega), ⟨[⟨a, fB.slot⟩, ⟨a, fD.slot⟩, ⟨a, T.fStack.slot⟩], ⟨hv, fun y hy => by rw [hLb y hy]; exact ga, ?_⟩, hL, hcc, rfl⟩, hsteps⟩
  have := own_keep1 X XB hA0 hLA (by rw [hL]; exact fun y hy => (List.mem_append.mp hy).elim (hLA y) (hLb y))
  rw [hA] at this
  exact this
end OwnFill
set_option maxRecDepth 65536 in
theorem own_thrI {Z : State} {a0 : Array Value} (hw : ∀ d ∈ tables_1, d.before a0 Z = true) : ∀ d ∈ own_thr "com/example/explain_locks/explainlocks/InvalidInputException" 6, d.before a0 Z = true := fun d hd => hw d ((by decide +kernel : ∀ d ∈ own_thr "com/example/explain_locks/explainlocks/InvalidInputException" 6, d ∈ tables_1) d hd)
set_option maxRecDepth 65536 in
theorem own_thrU {Z : State} {a0 : Array Value} (hw : ∀ d ∈ tables_1, d.before a0 Z = true) : ∀ d ∈ own_thr "com/example/explain_locks/explainlocks/UnsupportedInputException" 6, d.before a0 Z = true := fun d hd => hw d ((by decide +kernel : ∀ d ∈ own_thr "com/example/explain_locks/explainlocks/UnsupportedInputException" 6, d ∈ tables_1) d hd)
theorem own_mod4 (x : Int32) : (x &&& (2147483647 : Int32)) % (4 : Int32) = (0 : Int32) ∨ (x &&& (2147483647 : Int32)) % (4 : Int32) = (1 : Int32) ∨ (x &&& (2147483647 : Int32)) % (4 : Int32) = (2 : Int32) ∨ (x &&& (2147483647 : Int32)) % (4 : Int32) = (3 : Int32) := by
  have h1 := (c_and x (2147483647 : Int32) (by decide)).1
  have h2 := (c_irem (x &&& (2147483647 : Int32)) (4 : Int32) 4 (by decide)).1 h1
  have h3 : ((x &&& (2147483647 : Int32)) % (4 : Int32)).toInt = 0 ∨ ((x &&& (2147483647 : Int32)) % (4 : Int32)).toInt = 1 ∨ ((x &&& (2147483647 : Int32)) % (4 : Int32)).toInt = 2 ∨ ((x &&& (2147483647 : Int32)) % (4 : Int32)).toInt = 3 := by omega
  rcases h3 with h | h | h | h
  · exact Or.inl (Int32.toInt_inj.mp (h.trans (by decide)))
  · exact Or.inr (Or.inl (Int32.toInt_inj.mp (h.trans (by decide))))
  · exact Or.inr (Or.inr (Or.inl (Int32.toInt_inj.mp (h.trans (by decide)))))
  · exact Or.inr (Or.inr (Or.inr ((Int32.toInt_inj.mp (h.trans (by decide))))))
theorem own_EW {Z : State} {a0 : Array Value} (hw : ∀ d ∈ tables_1, d.before a0 Z = true) : EW Z a0 consts_1 := (EW.cons (hw _ (List.mem_of_getElem? (i := 112) rfl)) (by decide +kernel) EW.nil)
theorem d2_0 : decode jdk_42_method_149_code 0 = .ok (.aload_n 0, 1) := by decide +kernel
theorem d2_1 : decode jdk_42_method_149_code 1 = .ok (.invokespecial 1, 3) := by decide +kernel
theorem d2_4 : decode jdk_42_method_149_code 4 = .ok (.iload_n 3, 1) := by decide +kernel
theorem d2_5 : decode jdk_42_method_149_code 5 = .ok (.ifCond .ne 22, 3) := by decide +kernel
theorem d2_8 : decode jdk_42_method_149_code 8 = .ok (.aload_n 0, 1) := by decide +kernel
theorem d2_9 : decode jdk_42_method_149_code 9 = .ok (.ldc 7, 2) := by decide +kernel
theorem d2_11 : decode jdk_42_method_149_code 11 = .ok (.getfield 9, 3) := by decide +kernel
theorem d2_14 : decode jdk_42_method_149_code 14 = .ok (.putfield 9, 3) := by decide +kernel
theorem d2_17 : decode jdk_42_method_149_code 17 = .ok (.aload_n 0, 1) := by decide +kernel
theorem d2_18 : decode jdk_42_method_149_code 18 = .ok (.ldc 7, 2) := by decide +kernel
theorem d2_20 : decode jdk_42_method_149_code 20 = .ok (.getfield 15, 3) := by decide +kernel
theorem d2_23 : decode jdk_42_method_149_code 23 = .ok (.putfield 15, 3) := by decide +kernel
theorem d2_26 : decode jdk_42_method_149_code 26 = .ok (.return_, 1) := by decide +kernel
theorem pn_rmSV0 : plainName "java/lang/String" = true := by first | (simp [plainName, overriddenIn]; done) | decide +kernel
theorem ef_rmSV0 (m : MethodId) (x : Addr) (b : Addr) : entryFrame m #[(.ref x), (.ref b), (.int (0 : Int32)), (.int (0 : Int32)), .null] 6 = mkF m 0 #[.val (.ref x), .val (.ref b), .val (.int (0 : Int32)), .val (.int (0 : Int32)), .val .null, .unset] [] := by first | (simp [entryFrame, mkF, argsToLocals, Value.category]; done) | rfl
def Q_rmSV0 (Z : State) (x : Addr) (b : Addr)  (h0 : Heap) (n0 : Nat) (v : Option Value) (h : Heap) (L : List Loc) : Prop := v = none ∧ Fr n0 L ∧ Keep h0 h [x] ∧ Exa Z h x "java/lang/String" ∧ Fld Z h x "java/lang/String" "coder" "B" (.int 0) ∧ ∃ (t : Addr) (kt : ClassId), Fld Z h x "java/lang/String" "value" "[B" (.ref t) ∧ Arv Z h t kt .byte 0 [] (.int 0)
set_option maxRecDepth 65536 in
set_option maxHeartbeats 40000000 in
theorem rmSV0 (l : Launch) (Z : State) (a0 : Array Value) (hw : ∀ d ∈ tables_1, d.before a0 Z = true) (ws : List Jvm.Cond) (x : Addr) (b : Addr)  (h0 : Heap) (n0 : Nat) (O0 : Old Z n0 h0) (Exa_x : Exa Z h0 x "java/lang/String") (F_value_x : Fld Z h0 x "java/lang/String" "value" "[B" .null) (F_coder_x : Fld Z h0 x "java/lang/String" "coder" "B" (.int 0)) (g1 : n0 ≤ x) :
    MetFree l (⟨"java/lang/String", "<init>", "([CIILjava/lang/Void;)V"⟩ : MethodName) (head1 (Jvm.Cond.code (⟨"java/lang/String", "<init>", "([CIILjava/lang/Void;)V"⟩ : MethodName) jdk_42_method_149_code 6 none :: ws) ({ frames := 1, cells := 4, slots := 8, locals := 12 } : Room)) (fun a U => a = #[(.ref x), (.ref b), (.int (0 : Int32)), (.int (0 : Int32)), .null] ∧ Z.Warmed39 U.vm ∧ U.heap = h0 ∧ CHv Z consts_1 U.vm h0) (fun _ _ _ _ _ => True) (fun _ U o U' => ∃ v L, o = .returned v ∧ Q_rmSV0 Z x b  h0 n0 v U'.heap L ∧ CHr Z consts_1 U.vm U.heap U'.vm U'.heap ∧ ReturnedEndW U o U' L ({ frames := 1, cells := 4, slots := 8, locals := 12 } : Room).cells ({ frames := 1, cells := 4, slots := 8, locals := 12 } : Room).slots) := by
  refine MetFree.of_bodySF (plainFor_of_name pn_rmSV0) hisR ?_
  intro p e s m args below meth c s₁ Bd hml0 hP hK
  obtain ⟨rfl, hZ, hh, H0⟩ := hP
  have hx := Bd.exec
  have hby := Bd.bytes
  have hml : c.maxLocals = 6 := hml0
  have hown : s.vm.findClass "java/lang/String" = some m.cls := findClass_of_methodNamed Bd.named
  have hnm := (name_of_methodNamed Bd.named Bd.method).1
  have X0 : Stand p l e ({ frames := 1, cells := 4, slots := 8, locals := 12 } : Room) (s.setVm s.vm) m #[(.ref x), (.ref b), (.int (0 : Int32)), (.int (0 : Int32)), .null] below meth c s₁ [] 0 0 := Stand.of_body Bd
  have e0 : s₁.heap = h0 := by rw [← hh, Bd.state]; rfl
  have N0 := Fr.nil n0
  have hS0 : s.Since s.vm 0 := (State.WarmedH.refl s).since 0
  have hk0 : 0 ≤ h0.size := Nat.zero_le _
  have HC0 : CHr Z consts_1 s.vm h0 s.vm h0 := CHr.refl H0
  have hh0 : s.heap = h0 := hh
  refine GlW.start (Q := Q_rmSV0 Z x b  h0 n0) (ef_rmSV0 m x b) ?_
  have hEL := own_EW hw
  have hwS : ∀ a ∈ Bundle.stringAtoms, a.before a0 Z = true := fun d hd => hw d ((by decide +kernel : ∀ d ∈ Bundle.stringAtoms, d ∈ tables_1) d hd)
  have Sf_x : Safe Z consts_1 s.vm h0 x := own_safe_blank hZ.alike Exa_x F_value_x
  show GlW Z consts_1 p e below s _ _ _ s₁ (mkF m 0 #[.val (.ref x), .val (.ref b), .val (.int (0 : Int32)), .val (.int (0 : Int32)), .val .null, .unset] [])
  refine GlW.st (fun _ kk => XS.aloadN X0.here hx rfl (hb hby d2_0) rfl rfl kk) ?_
  show GlW Z consts_1 p e below s _ _ _ s₁ (mkF m 1 #[.val (.ref x), .val (.ref b), .val (.int (0 : Int32)), .val (.int (0 : Int32)), .val .null, .unset] [(.ref x)])
  obtain ⟨T1, X1, e1, st1⟩ := initO X0 hx hZ hown (hw _ (List.mem_of_getElem? (i := 12) rfl)) (hw _ (List.mem_of_getElem? (i := 13) rfl)) (hw _ (List.mem_of_getElem? (i := 14) rfl)) e0 (g := (mkF m 1 #[.val (.ref x), .val (.ref b), .val (.int (0 : Int32)), .val (.int (0 : Int32)), .val .null, .unset] [(.ref x)])) rfl (by rw [hml]; rfl) rfl (hb hby d2_1) (by decide) (W := 0) (by show 2 * 0 + _ ≤ _; exact Nat.le_of_eq rfl) (by decide)
  refine GlW.st st1 ?_
  show GlW Z consts_1 p e below s _ _ _ T1 (mkF m 4 #[.val (.ref x), .val (.ref b), .val (.int (0 : Int32)), .val (.int (0 : Int32)), .val .null, .unset] [])
  refine GlW.st (fun _ kk => XS.iloadN X1.here hx rfl (hb hby d2_4) rfl kk) ?_
  show GlW Z consts_1 p e below s _ _ _ T1 (mkF m 5 #[.val (.ref x), .val (.ref b), .val (.int (0 : Int32)), .val (.int (0 : Int32)), .val .null, .unset] [(.int (0 : Int32))])
  refine GlW.st (fun _ kk => XS.ifNo X1.here hx rfl (hb hby d2_5) rfl ((if0 _ _).trans (teq (by decide : (0 : Int32) = (0 : Int32))).2) kk) ?_
  show GlW Z consts_1 p e below s _ _ _ T1 (mkF m 8 #[.val (.ref x), .val (.ref b), .val (.int (0 : Int32)), .val (.int (0 : Int32)), .val .null, .unset] [])
  refine GlW.st (fun _ kk => XS.aloadN X1.here hx rfl (hb hby d2_8) rfl rfl kk) ?_
  show GlW Z consts_1 p e below s _ _ _ T1 (mkF m 9 #[.val (.ref x), .val (.ref b), .val (.int (0 : Int32)), .val (.int (0 : Int32)), .val .null, .unset] [(.ref x)])
  obtain ⟨la2, T2, h2, kn2, lb2, kc2, X2, e2, E2, hS2, hk2, hZ2, hown2, Exa_la2, F_coder_la2, F_value_la2, Arv_lb2, lta2, ltb2, HR2, Li2, sf2, st2⟩ := ldcCH X1 hx hZ hown (hw _ (List.mem_of_getElem? (i := 112) rfl)) hwS e1 hS0 hk0 hEL (List.mem_of_getElem? (i := 0) rfl) HC0.1 (vs := []) (z := 0) ⟨by decide +kernel, by decide +kernel⟩ (by decide) rfl (g := (mkF m 9 #[.val (.ref x), .val (.ref b), .val (.int (0 : Int32)), .val (.int (0 : Int32)), .val .null, .unset] [(.ref x)])) rfl (hb hby d2_9) (n := 0) (by decide) (by decide) (by decide) (by decide)
  refine GlW.st st2 ?_
  replace Sf_x := HR2.safe Exa_x.lt Sf_x
  replace Exa_x := Exa_x.ext E2
  replace F_value_x := F_value_x.ext E2
  replace F_coder_x := F_coder_x.ext E2
  have O2 := O0.ext E2
  have K2 := (Keep.refl h0 [x]).ext E2
  have HC2 := HC0.trans HR2
  have hZ := hZ2
  have hown := hown2
  have ne_x_la2 := (sf2 _ Sf_x).1
  have ne_x_lb2 := (sf2 _ Sf_x).2
  show GlW Z consts_1 p e below s _ _ _ T2 (mkF m 11 #[.val (.ref x), .val (.ref b), .val (.int (0 : Int32)), .val (.int (0 : Int32)), .val .null, .unset] [(.ref la2), (.ref x)])
  obtain ⟨T3, X3, e3, st3⟩ := getF X2 hx hZ hown (host := "") (Or.inl (hw _ (List.mem_of_getElem? (i := 29) rfl))) Via.refl e2 F_value_la2 (g := (mkF m 11 #[.val (.ref x), .val (.ref b), .val (.int (0 : Int32)), .val (.int (0 : Int32)), .val .null, .unset] [(.ref la2), (.ref x)])) rfl rfl (hb hby d2_11)
  refine GlW.st st3 ?_
  show GlW Z consts_1 p e below s _ _ _ T3 (mkF m 14 #[.val (.ref x), .val (.ref b), .val (.int (0 : Int32)), .val (.int (0 : Int32)), .val .null, .unset] [(.ref lb2), (.ref x)])
  obtain ⟨T4, h4, X4, e4, W4, st4⟩ := putF X3 hx hZ hown (host := "") (Or.inl (hw _ (List.mem_of_getElem? (i := 29) rfl))) Via.refl e3 F_value_x Exa_x (Or.inr ⟨(hw _ (List.mem_of_getElem? (i := 30) rfl)), rfl, hnm⟩) (hw _ (List.mem_of_getElem? (i := 2) rfl)) (ty := (.array .byte)) (by decide) rfl rfl (g := (mkF m 14 #[.val (.ref x), .val (.ref b), .val (.int (0 : Int32)), .val (.int (0 : Int32)), .val .null, .unset] [(.ref lb2), (.ref x)])) rfl rfl (hb hby d2_14)
  refine GlW.st st4 ?_
  have F_value_x := F_value_x.same W4
  have sfw4 := Sf_x
  replace Sf_x := Safe.wr W4 sfw4 HC2.1 Sf_x
  have HC4 := HC2.trans (CHr.wr W4 sfw4 HC2.1)
  have hk4 := Nat.le_trans hk2 (Nat.le_of_eq W4.size.symm)
  replace Exa_x := Exa_x.wr W4
  replace F_coder_x := F_coder_x.other W4 (Or.inr (slot_ne (Or.inr (hw _ (List.mem_of_getElem? (i := 28) rfl))) (Or.inr (hw _ (List.mem_of_getElem? (i := 30) rfl))) (by decide) (t := .byte) (t' := (.array .byte)) (by decide) (by decide)))
  replace Exa_la2 := Exa_la2.wr W4
  replace F_coder_la2 := F_coder_la2.other W4 (Or.inl (Ne.symm ne_x_la2))
  replace F_value_la2 := F_value_la2.other W4 (Or.inl (Ne.symm ne_x_la2))
  replace Arv_lb2 := Arv_lb2.other W4 (Ne.symm ne_x_lb2)
  have O4 := O2.wr W4 g1
  have K4 := K2.wr W4 (Or.inl (List.mem_of_getElem? (i := 0) rfl))
  have N4 := Fr.snoc X4 N0 g1
  show GlW Z consts_1 p e below s _ _ _ T4 (mkF m 17 #[.val (.ref x), .val (.ref b), .val (.int (0 : Int32)), .val (.int (0 : Int32)), .val .null, .unset] [])
  refine GlW.st (fun _ kk => XS.aloadN X4.here hx rfl (hb hby d2_17) rfl rfl kk) ?_
  show GlW Z consts_1 p e below s _ _ _ T4 (mkF m 18 #[.val (.ref x), .val (.ref b), .val (.int (0 : Int32)), .val (.int (0 : Int32)), .val .null, .unset] [(.ref x)])
  obtain ⟨la5, T5, h5, kn5, lb5, kc5, X5, e5, E5, hS5, hk5, hZ5, hown5, Exa_la5, F_coder_la5, F_value_la5, Arv_lb5, lta5, ltb5, HR5, Li5, sf5, st5⟩ := ldcCH X4 hx hZ hown (hw _ (List.mem_of_getElem? (i := 112) rfl)) hwS e4 hS2 hk4 hEL (List.mem_of_getElem? (i := 0) rfl) HC4.1 (vs := []) (z := 0) ⟨by decide +kernel, by decide +kernel⟩ (by decide) rfl (g := (mkF m 18 #[.val (.ref x), .val (.ref b), .val (.int (0 : Int32)), .val (.int (0 : Int32)), .val .null, .unset] [(.ref x)])) rfl (hb hby d2_18) (n := 0) (by decide) (by decide) (by decide) (by decide)
  refine GlW.st st5 ?_
  replace Sf_x := HR5.safe Exa_x.lt Sf_x
  replace Exa_x := Exa_x.ext E5
  replace F_value_x := F_value_x.ext E5
  replace F_coder_x := F_coder_x.ext E5
  replace Exa_la2 := Exa_la2.ext E5
  replace F_coder_la2 := F_coder_la2.ext E5
  replace F_value_la2 := F_value_la2.ext E5
  replace Arv_lb2 := Arv_lb2.ext E5
  have O5 := O4.ext E5
  have K5 := K4.ext E5
  have HC5 := HC4.trans HR5
  have hZ := hZ5
  have hown := hown5
  have ne_x_la5 := (sf5 _ Sf_x).1
  have ne_x_lb5 := (sf5 _ Sf_x).2
  show GlW Z consts_1 p e below s _ _ _ T5 (mkF m 20 #[.val (.ref x), .val (.ref b), .val (.int (0 : Int32)), .val (.int (0 : Int32)), .val .null, .unset] [(.ref la5), (.ref x)])
  obtain ⟨T6, X6, e6, st6⟩ := getF X5 hx hZ hown (host := "") (Or.inl (hw _ (List.mem_of_getElem? (i := 27) rfl))) Via.refl e5 F_coder_la5 (g := (mkF m 20 #[.val (.ref x), .val (.ref b), .val (.int (0 : Int32)), .val (.int (0 : Int32)), .val .null, .unset] [(.ref la5), (.ref x)])) rfl rfl (hb hby d2_20)
  refine GlW.st st6 ?_
  show GlW Z consts_1 p e below s _ _ _ T6 (mkF m 23 #[.val (.ref x), .val (.ref b), .val (.int (0 : Int32)), .val (.int (0 : Int32)), .val .null, .unset] [(.int (0 : Int32)), (.ref x)])
  obtain ⟨T7, h7, X7, e7, W7, st7⟩ := putFN X6 hx hZ hown (hw _ (List.mem_of_getElem? (i := 27) rfl)) Via.refl e6 F_coder_x Exa_x (Or.inr ⟨(hw _ (List.mem_of_getElem? (i := 28) rfl)), rfl, hnm⟩) (hw _ (List.mem_of_getElem? (i := 2) rfl)) (ty := .byte) (v' := (.int (0 : Int32))) (by decide) rfl rfl (g := (mkF m 23 #[.val (.ref x), .val (.ref b), .val (.int (0 : Int32)), .val (.int (0 : Int32)), .val .null, .unset] [(.int (0 : Int32)), (.ref x)])) rfl rfl (hb hby d2_23)
  refine GlW.st st7 ?_
  have F_coder_x := F_coder_x.same W7
  have sfw7 := Sf_x
  replace Sf_x := Safe.wr W7 sfw7 HC5.1 Sf_x
  have HC7 := HC5.trans (CHr.wr W7 sfw7 HC5.1)
  have hk7 := Nat.le_trans hk5 (Nat.le_of_eq W7.size.symm)
  replace Exa_x := Exa_x.wr W7
  replace F_value_x := F_value_x.other W7 (Or.inr (slot_ne (Or.inr (hw _ (List.mem_of_getElem? (i := 30) rfl))) (Or.inr (hw _ (List.mem_of_getElem? (i := 28) rfl))) (by decide) (t := (.array .byte)) (t' := .byte) (by decide) (by decide)))
  replace Exa_la2 := Exa_la2.wr W7
  replace F_coder_la2 := F_coder_la2.other W7 (Or.inl (Ne.symm ne_x_la2))
  replace F_value_la2 := F_value_la2.other W7 (Or.inl (Ne.symm ne_x_la2))
  replace Arv_lb2 := Arv_lb2.other W7 (Ne.symm ne_x_lb2)
  replace Exa_la5 := Exa_la5.wr W7
  replace F_coder_la5 := F_coder_la5.other W7 (Or.inl (Ne.symm ne_x_la5))
  replace F_value_la5 := F_value_la5.other W7 (Or.inl (Ne.symm ne_x_la5))
  replace Arv_lb5 := Arv_lb5.other W7 (Ne.symm ne_x_lb5)
  have O7 := O5.wr W7 g1
  have K7 := K5.wr W7 (Or.inl (List.mem_of_getElem? (i := 0) rfl))
  have N7 := Fr.snoc X7 N4 g1
  show GlW Z consts_1 p e below s _ _ _ T7 (mkF m 26 #[.val (.ref x), .val (.ref b), .val (.int (0 : Int32)), .val (.int (0 : Int32)), .val .null, .unset] [])
  exact GlW.ret X7 hS5 hk7 hZ hEL hh0 HC7 (v := none) (fun _ => rfl) (BodyLoose.notSynchronized Bd) (fun hr => X7.returnOut hx Bd.returns (hb hby d2_26) hr) e7 ⟨rfl, N7, K7, Exa_x, F_coder_x, lb2, kc2, F_value_x, Arv_lb2⟩ (by decide) (by decide)
theorem d1_0 : decode jdk_42_method_3_code 0 = .ok (.aload_n 0, 1) := by decide +kernel
theorem d1_1 : decode jdk_42_method_3_code 1 = .ok (.aload_n 1, 1) := by decide +kernel
theorem d1_2 : decode jdk_42_method_3_code 2 = .ok (.iconst 0, 1) := by decide +kernel
theorem d1_3 : decode jdk_42_method_3_code 3 = .ok (.aload_n 1, 1) := by decide +kernel
theorem d1_4 : decode jdk_42_method_3_code 4 = .ok (.arraylength, 1) := by decide +kernel
theorem d1_5 : decode jdk_42_method_3_code 5 = .ok (.aconst_null, 1) := by decide +kernel
theorem d1_6 : decode jdk_42_method_3_code 6 = .ok (.invokespecial 27, 3) := by decide +kernel
theorem d1_9 : decode jdk_42_method_3_code 9 = .ok (.return_, 1) := by decide +kernel
theorem pd_rmS0_0 : parseMethodDescriptor "([CIILjava/lang/Void;)V" = some ⟨[(.array .char), .int, .int, (.object "java/lang/Void")], none⟩ := by decide +kernel
theorem pn_rmS0 : plainName "java/lang/String" = true := by first | (simp [plainName, overriddenIn]; done) | decide +kernel
theorem ef_rmS0 (m : MethodId) (x : Addr) (b : Addr) : entryFrame m #[(.ref x), (.ref b)] 2 = mkF m 0 #[.val (.ref x), .val (.ref b)] [] := by first | (simp [entryFrame, mkF, argsToLocals, Value.category]; done) | rfl
def Q_rmS0 (Z : State) (x : Addr) (b : Addr) (kb : ClassId) (h0 : Heap) (n0 : Nat) (v : Option Value) (h : Heap) (L : List Loc) : Prop := v = none ∧ Fr n0 L ∧ Keep h0 h [x] ∧ Exa Z h x "java/lang/String" ∧ Fld Z h x "java/lang/String" "coder" "B" (.int 0) ∧ ∃ (t : Addr) (kt : ClassId), Fld Z h x "java/lang/String" "value" "[B" (.ref t) ∧ Arv Z h t kt .byte 0 [] (.int 0)
set_option maxRecDepth 65536 in
set_option maxHeartbeats 40000000 in
theorem rmS0 (l : Launch) (Z : State) (a0 : Array Value) (hw : ∀ d ∈ tables_1, d.before a0 Z = true) (ws : List Jvm.Cond) (x : Addr) (b : Addr) (kb : ClassId) (h0 : Heap) (n0 : Nat) (O0 : Old Z n0 h0) (Exa_x : Exa Z h0 x "java/lang/String") (F_value_x : Fld Z h0 x "java/lang/String" "value" "[B" .null) (F_coder_x : Fld Z h0 x "java/lang/String" "coder" "B" (.int 0)) (g1 : n0 ≤ x) (Arv_b : Arv Z h0 b kb .char 0 [] (.int 0)) (nbx : b ≠ x) :
    MetFree l (⟨"java/lang/String", "<init>", "([C)V"⟩ : MethodName) (head1 (Jvm.Cond.code (⟨"java/lang/String", "<init>", "([C)V"⟩ : MethodName) jdk_42_method_3_code 2 none :: ws) ({ frames := 2, cells := 4, slots := 8, locals := 29 } : Room)) (fun a U => a = #[(.ref x), (.ref b)] ∧ Z.Warmed39 U.vm ∧ U.heap = h0 ∧ CHv Z consts_1 U.vm h0) (fun _ _ _ _ _ => True) (fun _ U o U' => ∃ v L, o = .returned v ∧ Q_rmS0 Z x b kb h0 n0 v U'.heap L ∧ CHr Z consts_1 U.vm U.heap U'.vm U'.heap ∧ ReturnedEndW U o U' L ({ frames := 2, cells := 4, slots := 8, locals := 29 } : Room).cells ({ frames := 2, cells := 4, slots := 8, locals := 29 } : Room).slots) := by
  refine MetFree.of_bodySF (plainFor_of_name pn_rmS0) hisR ?_
  intro p e s m args below meth c s₁ Bd hml0 hP hK
  obtain ⟨rfl, hZ, hh, H0⟩ := hP
  have hx := Bd.exec
  have hby := Bd.bytes
  have hml : c.maxLocals = 2 := hml0
  have hown : s.vm.findClass "java/lang/String" = some m.cls := findClass_of_methodNamed Bd.named
  have hnm := (name_of_methodNamed Bd.named Bd.method).1
  have X0 : Stand p l e ({ frames := 2, cells := 4, slots := 8, locals := 29 } : Room) (s.setVm s.vm) m #[(.ref x), (.ref b)] below meth c s₁ [] 0 0 := Stand.of_body Bd
  have e0 : s₁.heap = h0 := by rw [← hh, Bd.state]; rfl
  have N0 := Fr.nil n0
  have hS0 : s.Since s.vm 0 := (State.WarmedH.refl s).since 0
  have hk0 : 0 ≤ h0.size := Nat.zero_le _
  have HC0 : CHr Z consts_1 s.vm h0 s.vm h0 := CHr.refl H0
  have hh0 : s.heap = h0 := hh
  refine GlW.start (Q := Q_rmS0 Z x b kb h0 n0) (ef_rmS0 m x b) ?_
  have hEL := own_EW hw
  have hwS : ∀ a ∈ Bundle.stringAtoms, a.before a0 Z = true := fun d hd => hw d ((by decide +kernel : ∀ d ∈ Bundle.stringAtoms, d ∈ tables_1) d hd)
  have Sf_x : Safe Z consts_1 s.vm h0 x := own_safe_blank hZ.alike Exa_x F_value_x
  show GlW Z consts_1 p e below s _ _ _ s₁ (mkF m 0 #[.val (.ref x), .val (.ref b)] [])
  refine GlW.st (fun _ kk => XS.aloadN X0.here hx rfl (hb hby d1_0) rfl rfl kk) ?_
  show GlW Z consts_1 p e below s _ _ _ s₁ (mkF m 1 #[.val (.ref x), .val (.ref b)] [(.ref x)])
  refine GlW.st (fun _ kk => XS.aloadN X0.here hx rfl (hb hby d1_1) rfl rfl kk) ?_
  show GlW Z consts_1 p e below s _ _ _ s₁ (mkF m 2 #[.val (.ref x), .val (.ref b)] [(.ref b), (.ref x)])
  refine GlW.st (fun _ kk => XS.iconst X0.here hx rfl (hb hby d1_2) kk) ?_
  show GlW Z consts_1 p e below s _ _ _ s₁ (mkF m 3 #[.val (.ref x), .val (.ref b)] [(.int (0 : Int32)), (.ref b), (.ref x)])
  refine GlW.st (fun _ kk => XS.aloadN X0.here hx rfl (hb hby d1_3) rfl rfl kk) ?_
  show GlW Z consts_1 p e below s _ _ _ s₁ (mkF m 4 #[.val (.ref x), .val (.ref b)] [(.ref b), (.int (0 : Int32)), (.ref b), (.ref x)])
  obtain ⟨cl1, Ar1, q1, Sz1, Ng1, Ha1, Fi1⟩ := id Arv_b
  refine GlW.st (fun _ kk => X0.arraylength hx (by rw [e0]; exact Ar1.1) (State.isArrayOf_alike hZ.alike Ar1.2.1) (g := (mkF m 4 #[.val (.ref x), .val (.ref b)] [(.ref b), (.int (0 : Int32)), (.ref b), (.ref x)])) rfl rfl (hb hby d1_4) _ kk) ?_
  rw [len_of Sz1 Ng1]
  show GlW Z consts_1 p e below s _ _ _ s₁ (mkF m 5 #[.val (.ref x), .val (.ref b)] [(.int (0 : Int32)), (.int (0 : Int32)), (.ref b), (.ref x)])
  refine GlW.st (fun _ kk => XS.aconstNull X0.here hx rfl (hb hby d1_5) kk) ?_
  show GlW Z consts_1 p e below s _ _ _ s₁ (mkF m 6 #[.val (.ref x), .val (.ref b)] [.null, (.int (0 : Int32)), (.int (0 : Int32)), (.ref b), (.ref x)])
  obtain ⟨v2, _, ⟨T2, L2, kQ2, nQ2⟩, -, X2, hSq2, hgq2, ⟨Lc2, hQ2, l2, y2, z2, HR2⟩, st2⟩ := X0.specialBackS hx (y := (⟨"java/lang/String", "<init>", "([CIILjava/lang/Void;)V"⟩ : MethodName)) rfl hown (mvT hZ (hw _ (List.mem_of_getElem? (i := 8) rfl))) (mvT hZ (hw _ (List.mem_of_getElem? (i := 9) rfl))) (mvT hZ (hw _ (List.mem_of_getElem? (i := 11) rfl))) (by decide) (backOfSH (W := 0) (rmSV0 l Z a0 hw [] x b h0 n0 O0 Exa_x F_value_x F_coder_x g1) hZ (hw _ (List.mem_of_getElem? (i := 11) rfl)) (hw _ (List.mem_of_getElem? (i := 3) rfl)) (by decide) (by decide) hEL HC0.1) (g := (mkF m 6 #[.val (.ref x), .val (.ref b)] [.null, (.int (0 : Int32)), (.int (0 : Int32)), (.ref b), (.ref x)])) rfl (by rw [hml]; rfl) (Steps.refl _) (a := x) (argsL := [(.ref b), (.int (0 : Int32)), (.int (0 : Int32)), .null]) (rest := []) (lenOf pd_rmS0_0 rfl) rfl (by show 2 * 0 + _ ≤ _; exact Nat.le_of_eq rfl) (hb hby d1_6) (fun _ _ => ⟨rfl, e0, (by decide : 0 + 4 ≤ _), (by decide : 0 + 8 ≤ _)⟩)
  dsimp only [Pt.U, Pt.locs, Pt.cells, Pt.slots] at X2 l2 y2 z2 st2 hQ2 hSq2 hgq2 HR2
  subst y2 z2
  obtain ⟨h2, e2⟩ : ∃ z, T2.heap = z := ⟨_, rfl⟩
  rw [e2] at hQ2 HR2 hSq2 hgq2
  obtain ⟨rfl, Nq2, Kq2, Eq2, Cq2, t2, kt2, Fq2, Aq2⟩ := hQ2
  rw [e0] at hgq2
  have hS2 := (hS0).trans hSq2 (Nat.le_trans hk0 hgq2)
  have hk2 := Nat.le_refl h2.size
  have hZ2 : Z.Warmed39 T2.vm := State.Warmed39.trans (t := s.setVm s.vm) hZ hSq2.1
  have hown2 : T2.vm.findClass "java/lang/String" = some m.cls := by rw [hSq2.1.alike.findClass]; exact hown
  have Sf_x := HR2.safe Exa_x.lt Sf_x
  have HC2 := HC0.trans HR2
  have hZ := hZ2
  have hown := hown2
  have N2 : Fr n0 L2 := l2 ▸ Fr.app N0 Nq2
  refine GlW.st (fun _ kk => st2.trans kk) ?_
  replace Exa_x := Exa_x.keep Kq2
  replace Arv_b := Arv_b.keep Kq2 (ninS nbx nin0)
  have O2 := O0.keep Kq2 (allS g1 all0)
  have K2 := (Keep.refl h0 [x]).trans Kq2 (allS (Or.inl (List.mem_of_getElem? (i := 0) rfl)) all0)
  have F_coder_x := Cq2
  have F_value_x := Fq2
  have Arv_t2 := Aq2
  clear st2 HR2
  show GlW Z consts_1 p e below s _ _ _ T2 (mkF m 9 #[.val (.ref x), .val (.ref b)] [])
  exact GlW.ret X2 hS2 hk2 hZ hEL hh0 HC2 (v := none) (fun _ => rfl) (BodyLoose.notSynchronized Bd) (fun hr => X2.returnOut hx Bd.returns (hb hby d1_9) hr) e2 ⟨rfl, N2, K2, Exa_x, F_coder_x, t2, kt2, F_value_x, Arv_t2⟩ (by decide) (by decide)
theorem d19_0 : decode jdk_43_method_3_code 0 = .ok (.iload_n 0, 1) := by decide +kernel
theorem d19_1 : decode jdk_43_method_3_code 1 = .ok (.sipush 255, 3) := by decide +kernel
theorem d19_4 : decode jdk_43_method_3_code 4 = .ok (.if_icmp .gt 7, 3) := by decide +kernel
theorem d19_7 : decode jdk_43_method_3_code 7 = .ok (.iconst 1, 1) := by decide +kernel
theorem d19_8 : decode jdk_43_method_3_code 8 = .ok (.goto 4, 3) := by decide +kernel
theorem d19_12 : decode jdk_43_method_3_code 12 = .ok (.ireturn, 1) := by decide +kernel
theorem pn_rmCE : plainName "java/lang/StringLatin1" = true := by first | (simp [plainName, overriddenIn]; done) | decide +kernel
theorem ef_rmCE (m : MethodId) (c1 : Int32) : entryFrame m #[(.int c1)] 1 = mkF m 0 #[.val (.int c1)] [] := by first | (simp [entryFrame, mkF, argsToLocals, Value.category]; done) | rfl
def Q_rmCE (Z : State) (c1 : Int32)  (h0 : Heap) (n0 : Nat) (v : Option Value) (h : Heap) (L : List Loc) : Prop := v = some (.int 1) ∧ Fr n0 L ∧ h = h0
set_option maxRecDepth 65536 in
set_option maxHeartbeats 40000000 in
theorem rmCE (l : Launch) (Z : State) (a0 : Array Value) (hw : ∀ d ∈ tables_1, d.before a0 Z = true) (ws : List Jvm.Cond) (c1 : Int32)  (h0 : Heap) (n0 : Nat) (O0 : Old Z n0 h0) (hc1 : ¬ (255 : Int32) < c1) :
    MetFree l (⟨"java/lang/StringLatin1", "canEncode", "(C)Z"⟩ : MethodName) (head1 (Jvm.Cond.code (⟨"java/lang/StringLatin1", "canEncode", "(C)Z"⟩ : MethodName) jdk_43_method_3_code 1 (some .boolean) :: ws) ({ frames := 0, cells := 0, slots := 0, locals := 0 } : Room)) (fun a U => a = #[(.int c1)] ∧ Z.Warmed39 U.vm ∧ U.heap = h0) (fun _ _ _ _ _ => True) (fun _ U o U' => ∃ v L, o = .returned v ∧ Q_rmCE Z c1  h0 n0 v U'.heap L ∧ FrameEnd U o U' L ({ frames := 0, cells := 0, slots := 0, locals := 0 } : Room).cells ({ frames := 0, cells := 0, slots := 0, locals := 0 } : Room).slots) := by
  refine MetFree.of_bodySF (plainFor_of_name pn_rmCE) hisR ?_
  intro p e s m args below meth c s₁ Bd hml0 hP hK
  obtain ⟨rfl, hZ, hh⟩ := hP
  have hx := Bd.exec
  have hby := Bd.bytes
  have hml : c.maxLocals = 1 := hml0
  have hown : s.vm.findClass "java/lang/StringLatin1" = some m.cls := findClass_of_methodNamed Bd.named
  have hnm := (name_of_methodNamed Bd.named Bd.method).1
  have X0 : Stand p l e ({ frames := 0, cells := 0, slots := 0, locals := 0 } : Room) s m #[(.int c1)] below meth c s₁ [] 0 0 := Stand.of_body Bd
  have e0 : s₁.heap = h0 := by rw [← hh, Bd.state]; rfl
  have N0 := Fr.nil n0
  refine Gl.start (Q := Q_rmCE Z c1  h0 n0) (ef_rmCE m c1) ?_
  show Gl p e below s _ _ _ s₁ (mkF m 0 #[.val (.int c1)] [])
  refine Gl.st (fun _ kk => XS.iloadN X0.here hx rfl (hb hby d19_0) rfl kk) ?_
  show Gl p e below s _ _ _ s₁ (mkF m 1 #[.val (.int c1)] [(.int c1)])
  refine Gl.st (fun _ kk => XS.sipush X0.here hx rfl (hb hby d19_1) kk) ?_
  show Gl p e below s _ _ _ s₁ (mkF m 4 #[.val (.int c1)] [(.int (255 : Int32)), (.int c1)])
  refine Gl.st (fun _ kk => XS.icmpNo X0.here hx rfl (hb hby d19_4) rfl (flt hc1).2.2.1 kk) ?_
  show Gl p e below s _ _ _ s₁ (mkF m 7 #[.val (.int c1)] [])
  refine Gl.st (fun _ kk => XS.iconst X0.here hx rfl (hb hby d19_7) kk) ?_
  show Gl p e below s _ _ _ s₁ (mkF m 8 #[.val (.int c1)] [(.int (1 : Int32))])
  refine Gl.st (fun _ kk => XS.goto X0.here hx rfl (pc0 := 8) (pc' := 12) rfl (hb hby d19_8) (by decide) (by decide) kk) ?_
  show Gl p e below s _ _ _ s₁ (mkF m 12 #[.val (.int c1)] [(.int (1 : Int32))])
  exact Gl.ret X0 (v := (some (.int (1 : Int32)))) (fun h => by rw [Bd.returns] at h; cases h) (BodyLoose.notSynchronized Bd) (fun hr => retN X0 hx (t := .boolean) Bd.returns (by simp) (hb hby d19_12) hr) e0 ⟨rfl, N0, rfl⟩ (by decide) (by decide)
theorem d20_0 : decode jdk_43_method_46_code 0 = .ok (.iconst 1, 1) := by decide +kernel
theorem d20_1 : decode jdk_43_method_46_code 1 = .ok (.newarray .byte, 2) := by decide +kernel
theorem d20_3 : decode jdk_43_method_46_code 3 = .ok (.dup, 1) := by decide +kernel
theorem d20_4 : decode jdk_43_method_46_code 4 = .ok (.iconst 0, 1) := by decide +kernel
theorem d20_5 : decode jdk_43_method_46_code 5 = .ok (.iload_n 0, 1) := by decide +kernel
theorem d20_6 : decode jdk_43_method_46_code 6 = .ok (.i2b, 1) := by decide +kernel
theorem d20_7 : decode jdk_43_method_46_code 7 = .ok (.bastore, 1) := by decide +kernel
theorem d20_8 : decode jdk_43_method_46_code 8 = .ok (.areturn, 1) := by decide +kernel
theorem pn_rmTB : plainName "java/lang/StringLatin1" = true := by first | (simp [plainName, overriddenIn]; done) | decide +kernel
theorem ef_rmTB (m : MethodId) (c1 : Int32) : entryFrame m #[(.int c1)] 1 = mkF m 0 #[.val (.int c1)] [] := by first | (simp [entryFrame, mkF, argsToLocals, Value.category]; done) | rfl
def Q_rmTB (Z : State) (c1 : Int32)  (h0 : Heap) (n0 : Nat) (v : Option Value) (h : Heap) (L : List Loc) : Prop := ∃ (b : Addr) (k : ClassId), v = some (.ref b) ∧ Fr n0 L ∧ Keep h0 h [] ∧ Arv Z h b k .byte 1 [(.int (c1.toInt8.toInt32))] (.int 0) ∧ h0.size ≤ b
set_option maxRecDepth 65536 in
set_option maxHeartbeats 40000000 in
theorem rmTB (l : Launch) (Z : State) (a0 : Array Value) (hw : ∀ d ∈ tables_1, d.before a0 Z = true) (ws : List Jvm.Cond) (c1 : Int32)  (h0 : Heap) (n0 : Nat) (O0 : Old Z n0 h0) :
    MetFree l (⟨"java/lang/StringLatin1", "toBytes", "(C)[B"⟩ : MethodName) (head1 (Jvm.Cond.code (⟨"java/lang/StringLatin1", "toBytes", "(C)[B"⟩ : MethodName) jdk_43_method_46_code 1 (some (.array .byte)) :: ws) ({ frames := 0, cells := 1, slots := 1, locals := 0 } : Room)) (fun a U => a = #[(.int c1)] ∧ Z.Warmed39 U.vm ∧ U.heap = h0) (fun _ _ _ _ _ => True) (fun _ U o U' => ∃ v L, o = .returned v ∧ Q_rmTB Z c1  h0 n0 v U'.heap L ∧ FrameEnd U o U' L ({ frames := 0, cells := 1, slots := 1, locals := 0 } : Room).cells ({ frames := 0, cells := 1, slots := 1, locals := 0 } : Room).slots) := by
  refine MetFree.of_bodySF (plainFor_of_name pn_rmTB) hisR ?_
  intro p e s m args below meth c s₁ Bd hml0 hP hK
  obtain ⟨rfl, hZ, hh⟩ := hP
  have hx := Bd.exec
  have hby := Bd.bytes
  have hml : c.maxLocals = 1 := hml0
  have hown : s.vm.findClass "java/lang/StringLatin1" = some m.cls := findClass_of_methodNamed Bd.named
  have hnm := (name_of_methodNamed Bd.named Bd.method).1
  have X0 : Stand p l e ({ frames := 0, cells := 1, slots := 1, locals := 0 } : Room) s m #[(.int c1)] below meth c s₁ [] 0 0 := Stand.of_body Bd
  have e0 : s₁.heap = h0 := by rw [← hh, Bd.state]; rfl
  have N0 := Fr.nil n0
  refine Gl.start (Q := Q_rmTB Z c1  h0 n0) (ef_rmTB m c1) ?_
  show Gl p e below s _ _ _ s₁ (mkF m 0 #[.val (.int c1)] [])
  refine Gl.st (fun _ kk => XS.iconst X0.here hx rfl (hb hby d20_0) kk) ?_
  show Gl p e below s _ _ _ s₁ (mkF m 1 #[.val (.int c1)] [(.int (1 : Int32))])
  obtain ⟨T1, h1, ka1, X1, e1, E1, A1, st1⟩ := newP X0 hx hZ (hw _ (List.mem_of_getElem? (i := 20) rfl)) e0 (g := (mkF m 1 #[.val (.int c1)] [(.int (1 : Int32))])) rfl (hb hby d20_1) rfl (by decide) (cap := 1) (by decide) (by decide) (by decide) (by decide)
  obtain ⟨b1, g1⟩ : ∃ z, z = h0.size := ⟨_, rfl⟩
  rw [← g1] at A1 st1
  refine Gl.st st1 ?_
  have ge_b1 : n0 ≤ b1 := Nat.le_trans (Nat.le_trans (Nat.le_of_eq O0.1.symm) O0.2.1) (Nat.le_of_eq g1.symm)
  have fr_b1 : h0.size ≤ b1 := Nat.le_trans (Nat.le_refl _) (Nat.le_of_eq g1.symm)
  have O1 := O0.ext E1
  have K1 := (Keep.refl h0 []).ext E1
  have Arv_b1 : Arv Z h1 b1 ka1 .byte (1 : Int32) [(.int (0 : Int32))] (.int (0 : Int32)) := (Arv.new A1 (by decide)).pad (pad_rep [] (.int (0 : Int32)) 1)
  show Gl p e below s _ _ _ T1 (mkF m 3 #[.val (.int c1)] [(.ref b1)])
  refine Gl.st (fun _ kk => XS.dup X1.here hx rfl (hb hby d20_3) rfl rfl kk) ?_
  show Gl p e below s _ _ _ T1 (mkF m 4 #[.val (.int c1)] [(.ref b1), (.ref b1)])
  refine Gl.st (fun _ kk => XS.iconst X1.here hx rfl (hb hby d20_4) kk) ?_
  show Gl p e below s _ _ _ T1 (mkF m 5 #[.val (.int c1)] [(.int (0 : Int32)), (.ref b1), (.ref b1)])
  refine Gl.st (fun _ kk => XS.iloadN X1.here hx rfl (hb hby d20_5) rfl kk) ?_
  show Gl p e below s _ _ _ T1 (mkF m 6 #[.val (.int c1)] [(.int c1), (.int (0 : Int32)), (.ref b1), (.ref b1)])
  refine Gl.st (fun _ kk => XS.i2b X1.here hx rfl (hb hby d20_6) rfl kk) ?_
  show Gl p e below s _ _ _ T1 (mkF m 7 #[.val (.int c1)] [(.int (c1.toInt8.toInt32)), (.int (0 : Int32)), (.ref b1), (.ref b1)])
  obtain ⟨cl2, Ar2, q2, Sz2, Ng2, Ha2, Fi2⟩ := id Arv_b1
  have hin2 : ¬ ((0 : Int32) < 0 ∨ cl2.slots.size ≤ ((0 : Int32)).toNatClampNeg) := inb_of Sz2 ⟨by decide, by decide⟩
  obtain ⟨T2, h2, X2, e2, W2, st2⟩ := stB X1 hx hZ e1 Ar2 (j := (0 : Int32)) hin2 (g := (mkF m 7 #[.val (.int c1)] [(.int (c1.toInt8.toInt32)), (.int (0 : Int32)), (.ref b1), (.ref b1)])) rfl rfl (hb hby d20_7)
  refine Gl.st st2 ?_
  replace Arv_b1 : Arv Z h2 b1 ka1 .byte (1 : Int32) [(.int (nar .byte (c1.toInt8.toInt32)))] (.int (0 : Int32)) := Arv.set Ar2 q2 Sz2 Ng2 Ha2 Fi2 (fits_nar_byte _) W2 0 rfl (Nat.le_of_ble_eq_true rfl)
  rw [own_nar8] at Arv_b1
  have O2 := O1.wr W2 ge_b1
  have K2 := K1.wr W2 (Or.inr fr_b1)
  have N2 := Fr.snoc X2 N0 ge_b1
  clear st2 W2 hin2 Fi2 Ha2 Ng2 Sz2 q2 Ar2 cl2
  clear O1 K1 X1 e1
  show Gl p e below s _ _ _ T2 (mkF m 8 #[.val (.int c1)] [(.ref b1)])
  exact Gl.ret X2 (v := (some (.ref b1))) (fun h => by rw [Bd.returns] at h; cases h) (BodyLoose.notSynchronized Bd) (fun hr => retOut X2 hx Bd.returns rfl (Or.inr (Or.inr (Or.inr (Or.inr ⟨rfl, rfl, rfl⟩)))) (hb hby d20_8) hr) e2 ⟨b1, ka1, rfl, N2, K2, Arv_b1, fr_b1⟩ (by decide) (by decide)
theorem d21_0 : decode jdk_42_method_151_code 0 = .ok (.aload_n 0, 1) := by decide +kernel
theorem d21_1 : decode jdk_42_method_151_code 1 = .ok (.invokespecial 1, 3) := by decide +kernel
theorem d21_4 : decode jdk_42_method_151_code 4 = .ok (.aload_n 0, 1) := by decide +kernel
theorem d21_5 : decode jdk_42_method_151_code 5 = .ok (.aload_n 1, 1) := by decide +kernel
theorem d21_6 : decode jdk_42_method_151_code 6 = .ok (.putfield 9, 3) := by decide +kernel
theorem d21_9 : decode jdk_42_method_151_code 9 = .ok (.aload_n 0, 1) := by decide +kernel
theorem d21_10 : decode jdk_42_method_151_code 10 = .ok (.iload_n 2, 1) := by decide +kernel
theorem d21_11 : decode jdk_42_method_151_code 11 = .ok (.putfield 15, 3) := by decide +kernel
theorem d21_14 : decode jdk_42_method_151_code 14 = .ok (.return_, 1) := by decide +kernel
theorem pn_rmBB : plainName "java/lang/String" = true := by first | (simp [plainName, overriddenIn]; done) | decide +kernel
theorem ef_rmBB (m : MethodId) (x : Addr) (t : Addr) : entryFrame m #[(.ref x), (.ref t), (.int (0 : Int32))] 3 = mkF m 0 #[.val (.ref x), .val (.ref t), .val (.int (0 : Int32))] [] := by first | (simp [entryFrame, mkF, argsToLocals, Value.category]; done) | rfl
def Q_rmBB (Z : State) (x : Addr) (t : Addr)  (h0 : Heap) (n0 : Nat) (v : Option Value) (h : Heap) (L : List Loc) : Prop := v = none ∧ Fr n0 L ∧ Keep h0 h [x] ∧ Fld Z h x "java/lang/String" "value" "[B" (.ref t) ∧ Fld Z h x "java/lang/String" "coder" "B" (.int 0)
set_option maxRecDepth 65536 in
set_option maxHeartbeats 40000000 in
theorem rmBB (l : Launch) (Z : State) (a0 : Array Value) (hw : ∀ d ∈ tables_1, d.before a0 Z = true) (ws : List Jvm.Cond) (x : Addr) (t : Addr)  (h0 : Heap) (n0 : Nat) (O0 : Old Z n0 h0) (Exa_x : Exa Z h0 x "java/lang/String") (F_value_x : Fld Z h0 x "java/lang/String" "value" "[B" .null) (F_coder_x : Fld Z h0 x "java/lang/String" "coder" "B" (.int 0)) (g1 : n0 ≤ x) :
    MetFree l (⟨"java/lang/String", "<init>", "([BB)V"⟩ : MethodName) (head1 (Jvm.Cond.code (⟨"java/lang/String", "<init>", "([BB)V"⟩ : MethodName) jdk_42_method_151_code 3 none :: ws) ({ frames := 1, cells := 0, slots := 0, locals := 12 } : Room)) (fun a U => a = #[(.ref x), (.ref t), (.int (0 : Int32))] ∧ Z.Warmed39 U.vm ∧ U.heap = h0) (fun _ _ _ _ _ => True) (fun _ U o U' => ∃ v L, o = .returned v ∧ Q_rmBB Z x t  h0 n0 v U'.heap L ∧ FrameEnd U o U' L ({ frames := 1, cells := 0, slots := 0, locals := 12 } : Room).cells ({ frames := 1, cells := 0, slots := 0, locals := 12 } : Room).slots) := by
  refine MetFree.of_bodySF (plainFor_of_name pn_rmBB) hisR ?_
  intro p e s m args below meth c s₁ Bd hml0 hP hK
  obtain ⟨rfl, hZ, hh⟩ := hP
  have hx := Bd.exec
  have hby := Bd.bytes
  have hml : c.maxLocals = 3 := hml0
  have hown : s.vm.findClass "java/lang/String" = some m.cls := findClass_of_methodNamed Bd.named
  have hnm := (name_of_methodNamed Bd.named Bd.method).1
  have X0 : Stand p l e ({ frames := 1, cells := 0, slots := 0, locals := 12 } : Room) s m #[(.ref x), (.ref t), (.int (0 : Int32))] below meth c s₁ [] 0 0 := Stand.of_body Bd
  have e0 : s₁.heap = h0 := by rw [← hh, Bd.state]; rfl
  have N0 := Fr.nil n0
  refine Gl.start (Q := Q_rmBB Z x t  h0 n0) (ef_rmBB m x t) ?_
  show Gl p e below s _ _ _ s₁ (mkF m 0 #[.val (.ref x), .val (.ref t), .val (.int (0 : Int32))] [])
  refine Gl.st (fun _ kk => XS.aloadN X0.here hx rfl (hb hby d21_0) rfl rfl kk) ?_
  show Gl p e below s _ _ _ s₁ (mkF m 1 #[.val (.ref x), .val (.ref t), .val (.int (0 : Int32))] [(.ref x)])
  obtain ⟨T1, X1, e1, st1⟩ := initO X0 hx hZ hown (hw _ (List.mem_of_getElem? (i := 12) rfl)) (hw _ (List.mem_of_getElem? (i := 13) rfl)) (hw _ (List.mem_of_getElem? (i := 14) rfl)) e0 (g := (mkF m 1 #[.val (.ref x), .val (.ref t), .val (.int (0 : Int32))] [(.ref x)])) rfl (by rw [hml]; rfl) rfl (hb hby d21_1) (by decide) (W := 0) (by show 2 * 0 + _ ≤ _; exact Nat.le_of_eq rfl) (by decide)
  refine Gl.st st1 ?_
  show Gl p e below s _ _ _ T1 (mkF m 4 #[.val (.ref x), .val (.ref t), .val (.int (0 : Int32))] [])
  refine Gl.st (fun _ kk => XS.aloadN X1.here hx rfl (hb hby d21_4) rfl rfl kk) ?_
  show Gl p e below s _ _ _ T1 (mkF m 5 #[.val (.ref x), .val (.ref t), .val (.int (0 : Int32))] [(.ref x)])
  refine Gl.st (fun _ kk => XS.aloadN X1.here hx rfl (hb hby d21_5) rfl rfl kk) ?_
  show Gl p e below s _ _ _ T1 (mkF m 6 #[.val (.ref x), .val (.ref t), .val (.int (0 : Int32))] [(.ref t), (.ref x)])
  obtain ⟨T2, h2, X2, e2, W2, st2⟩ := putF X1 hx hZ hown (host := "") (Or.inl (hw _ (List.mem_of_getElem? (i := 29) rfl))) Via.refl e1 F_value_x Exa_x (Or.inr ⟨(hw _ (List.mem_of_getElem? (i := 30) rfl)), rfl, hnm⟩) (hw _ (List.mem_of_getElem? (i := 2) rfl)) (ty := (.array .byte)) (by decide) rfl rfl (g := (mkF m 6 #[.val (.ref x), .val (.ref t), .val (.int (0 : Int32))] [(.ref t), (.ref x)])) rfl rfl (hb hby d21_6)
  refine Gl.st st2 ?_
  have F_value_x := F_value_x.same W2
  replace Exa_x := Exa_x.wr W2
  replace F_coder_x := F_coder_x.other W2 (Or.inr (slot_ne (Or.inr (hw _ (List.mem_of_getElem? (i := 28) rfl))) (Or.inr (hw _ (List.mem_of_getElem? (i := 30) rfl))) (by decide) (t := .byte) (t' := (.array .byte)) (by decide) (by decide)))
  have O2 := O0.wr W2 g1
  have K2 := (Keep.refl h0 [x]).wr W2 (Or.inl (List.mem_of_getElem? (i := 0) rfl))
  have N2 := Fr.snoc X2 N0 g1
  show Gl p e below s _ _ _ T2 (mkF m 9 #[.val (.ref x), .val (.ref t), .val (.int (0 : Int32))] [])
  refine Gl.st (fun _ kk => XS.aloadN X2.here hx rfl (hb hby d21_9) rfl rfl kk) ?_
  show Gl p e below s _ _ _ T2 (mkF m 10 #[.val (.ref x), .val (.ref t), .val (.int (0 : Int32))] [(.ref x)])
  refine Gl.st (fun _ kk => XS.iloadN X2.here hx rfl (hb hby d21_10) rfl kk) ?_
  show Gl p e below s _ _ _ T2 (mkF m 11 #[.val (.ref x), .val (.ref t), .val (.int (0 : Int32))] [(.int (0 : Int32)), (.ref x)])
  obtain ⟨T3, h3, X3, e3, W3, st3⟩ := putFN X2 hx hZ hown (hw _ (List.mem_of_getElem? (i := 27) rfl)) Via.refl e2 F_coder_x Exa_x (Or.inr ⟨(hw _ (List.mem_of_getElem? (i := 28) rfl)), rfl, hnm⟩) (hw _ (List.mem_of_getElem? (i := 2) rfl)) (ty := .byte) (v' := (.int (0 : Int32))) (by decide) rfl rfl (g := (mkF m 11 #[.val (.ref x), .val (.ref t), .val (.int (0 : Int32))] [(.int (0 : Int32)), (.ref x)])) rfl rfl (hb hby d21_11)
  refine Gl.st st3 ?_
  have F_coder_x := F_coder_x.same W3
  replace Exa_x := Exa_x.wr W3
  replace F_value_x := F_value_x.other W3 (Or.inr (slot_ne (Or.inr (hw _ (List.mem_of_getElem? (i := 30) rfl))) (Or.inr (hw _ (List.mem_of_getElem? (i := 28) rfl))) (by decide) (t := (.array .byte)) (t' := .byte) (by decide) (by decide)))
  have O3 := O2.wr W3 g1
  have K3 := K2.wr W3 (Or.inl (List.mem_of_getElem? (i := 0) rfl))
  have N3 := Fr.snoc X3 N2 g1
  show Gl p e below s _ _ _ T3 (mkF m 14 #[.val (.ref x), .val (.ref t), .val (.int (0 : Int32))] [])
  exact Gl.ret X3 (v := none) (fun _ => rfl) (BodyLoose.notSynchronized Bd) (fun hr => X3.returnOut hx Bd.returns (hb hby d21_14) hr) e3 ⟨rfl, N3, K3, F_value_x, F_coder_x⟩ (by decide) (by decide)
theorem d18_0 : decode jdk_42_method_139_code 0 = .ok (.getstatic 38, 3) := by decide +kernel
theorem d18_3 : decode jdk_42_method_139_code 3 = .ok (.ifCond .eq 23, 3) := by decide +kernel
theorem d18_6 : decode jdk_42_method_139_code 6 = .ok (.iload_n 0, 1) := by decide +kernel
theorem d18_7 : decode jdk_42_method_139_code 7 = .ok (.invokestatic 1015, 3) := by decide +kernel
theorem d18_10 : decode jdk_42_method_139_code 10 = .ok (.ifCond .eq 16, 3) := by decide +kernel
theorem d18_13 : decode jdk_42_method_139_code 13 = .ok (.new 10, 3) := by decide +kernel
theorem d18_16 : decode jdk_42_method_139_code 16 = .ok (.dup, 1) := by decide +kernel
theorem d18_17 : decode jdk_42_method_139_code 17 = .ok (.iload_n 0, 1) := by decide +kernel
theorem d18_18 : decode jdk_42_method_139_code 18 = .ok (.invokestatic 1018, 3) := by decide +kernel
theorem d18_21 : decode jdk_42_method_139_code 21 = .ok (.iconst 0, 1) := by decide +kernel
theorem d18_22 : decode jdk_42_method_139_code 22 = .ok (.invokespecial 209, 3) := by decide +kernel
theorem d18_25 : decode jdk_42_method_139_code 25 = .ok (.areturn, 1) := by decide +kernel
theorem pd_rmVO_0 : parseMethodDescriptor "(C)Z" = some ⟨[.char], some .boolean⟩ := by decide +kernel
theorem pd_rmVO_1 : parseMethodDescriptor "(C)[B" = some ⟨[.char], some (.array .byte)⟩ := by decide +kernel
theorem pd_rmVO_2 : parseMethodDescriptor "([BB)V" = some ⟨[(.array .byte), .byte], none⟩ := by decide +kernel
theorem pn_rmVO : plainName "java/lang/String" = true := by first | (simp [plainName, overriddenIn]; done) | decide +kernel
theorem ef_rmVO (m : MethodId) (c1 : Int32) : entryFrame m #[(.int c1)] 1 = mkF m 0 #[.val (.int c1)] [] := by first | (simp [entryFrame, mkF, argsToLocals, Value.category]; done) | rfl
def Q_rmVO (Z : State) (c1 : Int32) (cz : Int32) (h0 : Heap) (n0 : Nat) (v : Option Value) (h : Heap) (L : List Loc) : Prop := ∃ (x t : Addr) (k : ClassId), v = some (.ref x) ∧ Fr n0 L ∧ Keep h0 h [] ∧ Exa Z h x "java/lang/String" ∧ Fld Z h x "java/lang/String" "value" "[B" (.ref t) ∧ Fld Z h x "java/lang/String" "coder" "B" (.int 0) ∧ Arv Z h t k .byte 1 [(.int (c1.toInt8.toInt32))] (.int 0) ∧ h0.size ≤ x ∧ h0.size ≤ t
set_option maxRecDepth 65536 in
set_option maxHeartbeats 40000000 in
theorem rmVO (l : Launch) (Z : State) (a0 : Array Value) (hw : ∀ d ∈ tables_1, d.before a0 Z = true) (ws : List Jvm.Cond) (c1 : Int32) (cz : Int32) (h0 : Heap) (n0 : Nat) (O0 : Old Z n0 h0) (hc1 : ¬ (255 : Int32) < c1) (S_COMPACT : Sta Z Z.heap "java/lang/String" "COMPACT_STRINGS" "Z" (.int cz)) (hcz : ¬ cz = 0) :
    MetFree l (⟨"java/lang/String", "valueOf", "(C)Ljava/lang/String;"⟩ : MethodName) (head1 (Jvm.Cond.code (⟨"java/lang/String", "valueOf", "(C)Ljava/lang/String;"⟩ : MethodName) jdk_42_method_139_code 1 (some (.object "java/lang/String")) :: ws) ({ frames := 2, cells := 2, slots := 5, locals := 27 } : Room)) (fun a U => a = #[(.int c1)] ∧ Z.Warmed39 U.vm ∧ U.heap = h0) (fun _ _ _ _ _ => True) (fun _ U o U' => ∃ v L, o = .returned v ∧ Q_rmVO Z c1 cz h0 n0 v U'.heap L ∧ FrameEnd U o U' L ({ frames := 2, cells := 2, slots := 5, locals := 27 } : Room).cells ({ frames := 2, cells := 2, slots := 5, locals := 27 } : Room).slots) := by
  refine MetFree.of_bodySF (plainFor_of_name pn_rmVO) hisR ?_
  intro p e s m args below meth c s₁ Bd hml0 hP hK
  obtain ⟨rfl, hZ, hh⟩ := hP
  have hx := Bd.exec
  have hby := Bd.bytes
  have hml : c.maxLocals = 1 := hml0
  have hown : s.vm.findClass "java/lang/String" = some m.cls := findClass_of_methodNamed Bd.named
  have hnm := (name_of_methodNamed Bd.named Bd.method).1
  have X0 : Stand p l e ({ frames := 2, cells := 2, slots := 5, locals := 27 } : Room) s m #[(.int c1)] below meth c s₁ [] 0 0 := Stand.of_body Bd
  have e0 : s₁.heap = h0 := by rw [← hh, Bd.state]; rfl
  have N0 := Fr.nil n0
  refine Gl.start (Q := Q_rmVO Z c1 cz h0 n0) (ef_rmVO m c1) ?_
  show Gl p e below s _ _ _ s₁ (mkF m 0 #[.val (.int c1)] [])
  obtain ⟨T1, X1, e1, st1⟩ := getS2 X0 hx hZ hown (host := "") (Or.inl (hw _ (List.mem_of_getElem? (i := 15) rfl))) Via.refl e0 (S_COMPACT.ext O0.2) (g := (mkF m 0 #[.val (.int c1)] [])) rfl (hb hby d18_0)
  refine Gl.st st1 ?_
  show Gl p e below s _ _ _ T1 (mkF m 3 #[.val (.int c1)] [(.int cz)])
  refine Gl.st (fun _ kk => XS.ifNo X1.here hx rfl (hb hby d18_3) rfl ((if0 _ _).trans (feq hcz).1) kk) ?_
  show Gl p e below s _ _ _ T1 (mkF m 6 #[.val (.int c1)] [])
  refine Gl.st (fun _ kk => XS.iloadN X1.here hx rfl (hb hby d18_6) rfl kk) ?_
  show Gl p e below s _ _ _ T1 (mkF m 7 #[.val (.int c1)] [(.int c1)])
  obtain ⟨v2, _, ⟨T2, L2, kQ2, nQ2⟩, -, X2, ⟨Lc2, hQ2, l2, y2, z2⟩, st2⟩ := Jvm.LawKit.callS X1 hx (y := (⟨"java/lang/StringLatin1", "canEncode", "(C)Z"⟩ : MethodName)) hown (mvT hZ (hw _ (List.mem_of_getElem? (i := 141) rfl))) (mvT hZ (hw _ (List.mem_of_getElem? (i := 142) rfl))) (mvT hZ (hw _ (List.mem_of_getElem? (i := 143) rfl))) (mvT hZ (hw _ (List.mem_of_getElem? (i := 144) rfl))) (by decide) (backOf (W := 0) (rmCE l Z a0 hw [] c1 h0 n0 O0 hc1) hZ (hw _ (List.mem_of_getElem? (i := 144) rfl)) (hw _ (List.mem_of_getElem? (i := 143) rfl)) (by decide) (by decide)) (g := (mkF m 7 #[.val (.int c1)] [(.int c1)])) rfl (by rw [hml]; rfl) (argsL := [(.int c1)]) (rest := []) (lenOf pd_rmVO_0 rfl) rfl (by show 2 * 0 + _ ≤ _; exact Nat.le_of_eq rfl) (hb hby d18_7) (fun _ _ => ⟨rfl, e1, (by decide : 0 + 0 ≤ _), (by decide : 0 + 0 ≤ _)⟩)
  dsimp only [Pt.U, Pt.locs, Pt.cells, Pt.slots] at X2 l2 y2 z2 st2 hQ2
  subst y2 z2
  obtain ⟨rfl, Nq2, e2⟩ := hQ2
  have N2 : Fr n0 L2 := l2 ▸ Fr.app N0 Nq2
  refine Gl.st st2 ?_
  clear st2
  clear X1 e1
  show Gl p e below s _ _ _ T2 (mkF m 10 #[.val (.int c1)] [(.int (1 : Int32))])
  refine Gl.st (fun _ kk => XS.ifNo X2.here hx rfl (hb hby d18_10) rfl ((if0 _ _).trans (feq (by decide : ¬ ((1 : Int32) = (0 : Int32)))).1) kk) ?_
  show Gl p e below s _ _ _ T2 (mkF m 13 #[.val (.int c1)] [])
  obtain ⟨T3, h3, X3, e3, E3, A3, D3, V3, st3⟩ := newO X2 hx hZ hown (hw _ (List.mem_of_getElem? (i := 145) rfl)) (hw _ (List.mem_of_getElem? (i := 2) rfl)) (hw _ (List.mem_of_getElem? (i := 3) rfl)) e2 (g := (mkF m 13 #[.val (.int c1)] [])) rfl (hb hby d18_13) (by decide) (by decide)
  obtain ⟨b3, g3⟩ : ∃ z, z = h0.size := ⟨_, rfl⟩
  rw [← g3] at A3 D3 V3 st3
  refine Gl.st st3 ?_
  have ge_b3 : n0 ≤ b3 := Nat.le_trans (Nat.le_trans (Nat.le_of_eq O0.1.symm) O0.2.1) (Nat.le_of_eq g3.symm)
  have fr_b3 : h0.size ≤ b3 := Nat.le_trans (Nat.le_refl _) (Nat.le_of_eq g3.symm)
  have O3 := O0.ext E3
  have K3 := (Keep.refl h0 []).ext E3
  have Exa_b3 := A3
  have F_coder_b3 : Fld Z h3 b3 "java/lang/String" "coder" "B" (.int (0 : Int32)) := D3 (Or.inr (hw _ (List.mem_of_getElem? (i := 28) rfl))) (ty := .byte) (by decide)
  have F_value_b3 : Fld Z h3 b3 "java/lang/String" "value" "[B" .null := D3 (Or.inr (hw _ (List.mem_of_getElem? (i := 30) rfl))) (ty := (.array .byte)) (by decide)
  show Gl p e below s _ _ _ T3 (mkF m 16 #[.val (.int c1)] [(.ref b3)])
  refine Gl.st (fun _ kk => XS.dup X3.here hx rfl (hb hby d18_16) rfl rfl kk) ?_
  show Gl p e below s _ _ _ T3 (mkF m 17 #[.val (.int c1)] [(.ref b3), (.ref b3)])
  refine Gl.st (fun _ kk => XS.iloadN X3.here hx rfl (hb hby d18_17) rfl kk) ?_
  show Gl p e below s _ _ _ T3 (mkF m 18 #[.val (.int c1)] [(.int c1), (.ref b3), (.ref b3)])
  have lq4_b3 := Exa_b3.lt
  obtain ⟨v4, _, ⟨T4, L4, kQ4, nQ4⟩, -, X4, ⟨Lc4, hQ4, l4, y4, z4⟩, st4⟩ := Jvm.LawKit.callS X3 hx (y := (⟨"java/lang/StringLatin1", "toBytes", "(C)[B"⟩ : MethodName)) hown (mvT hZ (hw _ (List.mem_of_getElem? (i := 146) rfl))) (mvT hZ (hw _ (List.mem_of_getElem? (i := 147) rfl))) (mvT hZ (hw _ (List.mem_of_getElem? (i := 143) rfl))) (mvT hZ (hw _ (List.mem_of_getElem? (i := 148) rfl))) (by decide) (backOf (W := 2) (rmTB l Z a0 hw [] c1 h3 n0 O3) hZ (hw _ (List.mem_of_getElem? (i := 148) rfl)) (hw _ (List.mem_of_getElem? (i := 143) rfl)) (by decide) (by decide)) (g := (mkF m 18 #[.val (.int c1)] [(.int c1), (.ref b3), (.ref b3)])) rfl (by rw [hml]; rfl) (argsL := [(.int c1)]) (rest := [(.ref b3), (.ref b3)]) (lenOf pd_rmVO_1 rfl) rfl (by show 2 * 0 + _ ≤ _; exact Nat.le_of_eq rfl) (hb hby d18_18) (fun _ _ => ⟨rfl, e3, (by decide : 1 + 1 ≤ _), (by decide : 4 + 1 ≤ _)⟩)
  dsimp only [Pt.U, Pt.locs, Pt.cells, Pt.slots] at X4 l4 y4 z4 st4 hQ4
  subst y4 z4
  obtain ⟨h4, e4⟩ : ∃ z, T4.heap = z := ⟨_, rfl⟩
  rw [e4] at hQ4
  obtain ⟨b4, k4, rfl, Nq4, Kq4, Arv_b4, frq4⟩ := hQ4
  have N4 : Fr n0 L4 := l4 ▸ Fr.app N2 Nq4
  refine Gl.st st4 ?_
  replace Exa_b3 := Exa_b3.keep Kq4
  replace F_coder_b3 := F_coder_b3.keep Kq4 nin0
  replace F_value_b3 := F_value_b3.keep Kq4 nin0
  have O4 := O3.keep Kq4 all0
  have K4 := K3.trans Kq4 all0
  have ne_b3_b4 : b3 ≠ b4 := Nat.ne_of_lt (Nat.lt_of_lt_of_le lq4_b3 frq4)
  have ge_b4 : n0 ≤ b4 := Nat.le_trans (Nat.le_trans (Nat.le_of_eq O3.1.symm) O3.2.1) frq4
  have fr_b4 : h0.size ≤ b4 := Nat.le_trans K3.1 frq4
  clear st4
  clear O3 K3 N2 X3 e3
  show Gl p e below s _ _ _ T4 (mkF m 21 #[.val (.int c1)] [(.ref b4), (.ref b3), (.ref b3)])
  refine Gl.st (fun _ kk => XS.iconst X4.here hx rfl (hb hby d18_21) kk) ?_
  show Gl p e below s _ _ _ T4 (mkF m 22 #[.val (.int c1)] [(.int (0 : Int32)), (.ref b4), (.ref b3), (.ref b3)])
  obtain ⟨v5, _, ⟨T5, L5, kQ5, nQ5⟩, -, X5, ⟨Lc5, hQ5, l5, y5, z5⟩, st5⟩ := X4.specialBack hx (y := (⟨"java/lang/String", "<init>", "([BB)V"⟩ : MethodName)) rfl hown (mvT hZ (hw _ (List.mem_of_getElem? (i := 149) rfl))) (mvT hZ (hw _ (List.mem_of_getElem? (i := 150) rfl))) (mvT hZ (hw _ (List.mem_of_getElem? (i := 151) rfl))) (by decide) (backOf (W := 1) (rmBB l Z a0 hw [] b3 b4 h4 n0 O4 Exa_b3 F_value_b3 F_coder_b3 ge_b3) hZ (hw _ (List.mem_of_getElem? (i := 151) rfl)) (hw _ (List.mem_of_getElem? (i := 3) rfl)) (by decide) (by decide)) (g := (mkF m 22 #[.val (.int c1)] [(.int (0 : Int32)), (.ref b4), (.ref b3), (.ref b3)])) rfl (by rw [hml]; rfl) (Steps.refl _) (a := b3) (argsL := [(.ref b4), (.int (0 : Int32))]) (rest := [(.ref b3)]) (lenOf pd_rmVO_2 rfl) rfl (by show 2 * 0 + _ ≤ _; exact Nat.le_of_eq rfl) (hb hby d18_22) (fun _ _ => ⟨rfl, e4, (by decide : 2 + 0 ≤ _), (by decide : 5 + 0 ≤ _)⟩)
  dsimp only [Pt.U, Pt.locs, Pt.cells, Pt.slots] at X5 l5 y5 z5 st5 hQ5
  subst y5 z5
  obtain ⟨h5, e5⟩ : ∃ z, T5.heap = z := ⟨_, rfl⟩
  rw [e5] at hQ5
  obtain ⟨rfl, Nq5, Kq5, Fv5, Fc5⟩ := hQ5
  have N5 : Fr n0 L5 := l5 ▸ Fr.app N4 Nq5
  refine Gl.st (fun _ kk => st5.trans kk) ?_
  replace Exa_b3 := Exa_b3.keep Kq5
  replace Arv_b4 := Arv_b4.keep Kq5 (ninS (Ne.symm ne_b3_b4) nin0)
  have O5 := O4.keep Kq5 (allS ge_b3 all0)
  have K5 := K4.trans Kq5 (allS (Or.inr fr_b3) all0)
  have F_value_b3 := Fv5
  have F_coder_b3 := Fc5
  clear st5
  clear O4 K4 N4 X4 e4
  show Gl p e below s _ _ _ T5 (mkF m 25 #[.val (.int c1)] [(.ref b3)])
  exact Gl.ret X5 (v := (some (.ref b3))) (fun h => by rw [Bd.returns] at h; cases h) (BodyLoose.notSynchronized Bd) (fun hr => retOut X5 hx Bd.returns rfl (Or.inr (Or.inr (Or.inr (Or.inr ⟨rfl, rfl, rfl⟩)))) (hb hby d18_25) hr) e5 ⟨b3, b4, k4, rfl, N5, K5, Exa_b3, F_value_b3, F_coder_b3, Arv_b4, fr_b3, fr_b4⟩ (by decide) (by decide)
theorem d15_0 : decode jdk_42_method_66_code 0 = .ok (.aload_n 0, 1) := by decide +kernel
theorem d15_1 : decode jdk_42_method_66_code 1 = .ok (.aload_n 1, 1) := by decide +kernel
theorem d15_2 : decode jdk_42_method_66_code 2 = .ok (.if_acmp .ne 5, 3) := by decide +kernel
theorem d15_5 : decode jdk_42_method_66_code 5 = .ok (.iconst 1, 1) := by decide +kernel
theorem d15_6 : decode jdk_42_method_66_code 6 = .ok (.ireturn, 1) := by decide +kernel
theorem pn_rmEQ : plainName "java/lang/String" = true := by first | (simp [plainName, overriddenIn]; done) | decide +kernel
theorem ef_rmEQ (m : MethodId) (x : Addr) : entryFrame m #[(.ref x), (.ref x)] 3 = mkF m 0 #[.val (.ref x), .val (.ref x), .unset] [] := by first | (simp [entryFrame, mkF, argsToLocals, Value.category]; done) | rfl
def Q_rmEQ (Z : State) (x : Addr)  (h0 : Heap) (n0 : Nat) (v : Option Value) (h : Heap) (L : List Loc) : Prop := v = some (.int 1) ∧ Fr n0 L ∧ h = h0
set_option maxRecDepth 65536 in
set_option maxHeartbeats 40000000 in
theorem rmEQ (l : Launch) (Z : State) (a0 : Array Value) (hw : ∀ d ∈ tables_1, d.before a0 Z = true) (ws : List Jvm.Cond) (x : Addr)  (h0 : Heap) (n0 : Nat) (O0 : Old Z n0 h0) :
    MetFree l (⟨"java/lang/String", "equals", "(Ljava/lang/Object;)Z"⟩ : MethodName) (head1 (Jvm.Cond.code (⟨"java/lang/String", "equals", "(Ljava/lang/Object;)Z"⟩ : MethodName) jdk_42_method_66_code 3 (some .boolean) :: ws) ({ frames := 0, cells := 0, slots := 0, locals := 0 } : Room)) (fun a U => a = #[(.ref x), (.ref x)] ∧ Z.Warmed39 U.vm ∧ U.heap = h0) (fun _ _ _ _ _ => True) (fun _ U o U' => ∃ v L, o = .returned v ∧ Q_rmEQ Z x  h0 n0 v U'.heap L ∧ FrameEnd U o U' L ({ frames := 0, cells := 0, slots := 0, locals := 0 } : Room).cells ({ frames := 0, cells := 0, slots := 0, locals := 0 } : Room).slots) := by
  refine MetFree.of_bodySF (plainFor_of_name pn_rmEQ) hisR ?_
  intro p e s m args below meth c s₁ Bd hml0 hP hK
  obtain ⟨rfl, hZ, hh⟩ := hP
  have hx := Bd.exec
  have hby := Bd.bytes
  have hml : c.maxLocals = 3 := hml0
  have hown : s.vm.findClass "java/lang/String" = some m.cls := findClass_of_methodNamed Bd.named
  have hnm := (name_of_methodNamed Bd.named Bd.method).1
  have X0 : Stand p l e ({ frames := 0, cells := 0, slots := 0, locals := 0 } : Room) s m #[(.ref x), (.ref x)] below meth c s₁ [] 0 0 := Stand.of_body Bd
  have e0 : s₁.heap = h0 := by rw [← hh, Bd.state]; rfl
  have N0 := Fr.nil n0
  refine Gl.start (Q := Q_rmEQ Z x  h0 n0) (ef_rmEQ m x) ?_
  show Gl p e below s _ _ _ s₁ (mkF m 0 #[.val (.ref x), .val (.ref x), .unset] [])
  refine Gl.st (fun _ kk => XS.aloadN X0.here hx rfl (hb hby d15_0) rfl rfl kk) ?_
  show Gl p e below s _ _ _ s₁ (mkF m 1 #[.val (.ref x), .val (.ref x), .unset] [(.ref x)])
  refine Gl.st (fun _ kk => XS.aloadN X0.here hx rfl (hb hby d15_1) rfl rfl kk) ?_
  show Gl p e below s _ _ _ s₁ (mkF m 2 #[.val (.ref x), .val (.ref x), .unset] [(.ref x), (.ref x)])
  refine Gl.st (fun _ kk => Jvm.RoadKit.acmp (g := (mkF m 2 #[.val (.ref x), .val (.ref x), .unset] [(.ref x), (.ref x)])) X0 hx rfl rfl rfl (pc0 := 2) (pc' := 5) (same := true) rfl (hb hby d15_2) rfl (decide_eq_true rfl) (by decide) (by decide) kk) ?_
  show Gl p e below s _ _ _ s₁ (mkF m 5 #[.val (.ref x), .val (.ref x), .unset] [])
  refine Gl.st (fun _ kk => XS.iconst X0.here hx rfl (hb hby d15_5) kk) ?_
  show Gl p e below s _ _ _ s₁ (mkF m 6 #[.val (.ref x), .val (.ref x), .unset] [(.int (1 : Int32))])
  exact Gl.ret X0 (v := (some (.int (1 : Int32)))) (fun h => by rw [Bd.returns] at h; cases h) (BodyLoose.notSynchronized Bd) (fun hr => retN X0 hx (t := .boolean) Bd.returns (by simp) (hb hby d15_6) hr) e0 ⟨rfl, N0, rfl⟩ (by decide) (by decide)
theorem d17_0 : decode prog_19_method_1_code 0 = .ok (.aload_n 0, 1) := by decide +kernel
theorem d17_1 : decode prog_19_method_1_code 1 = .ok (.invokespecial 1, 3) := by decide +kernel
theorem d17_4 : decode prog_19_method_1_code 4 = .ok (.aload_n 0, 1) := by decide +kernel
theorem d17_5 : decode prog_19_method_1_code 5 = .ok (.aload_n 1, 1) := by decide +kernel
theorem d17_6 : decode prog_19_method_1_code 6 = .ok (.putfield 7, 3) := by decide +kernel
theorem d17_9 : decode prog_19_method_1_code 9 = .ok (.aload_n 0, 1) := by decide +kernel
theorem d17_10 : decode prog_19_method_1_code 10 = .ok (.aconst_null, 1) := by decide +kernel
theorem d17_11 : decode prog_19_method_1_code 11 = .ok (.putfield 13, 3) := by decide +kernel
theorem d17_14 : decode prog_19_method_1_code 14 = .ok (.return_, 1) := by decide +kernel
theorem pn_rmFI : plainName "com/example/explain_locks/explainlocks/schema/RowFault" = true := by first | (simp [plainName, overriddenIn]; done) | decide +kernel
theorem ef_rmFI (m : MethodId) (a1 : Addr) (x : Addr) : entryFrame m #[(.ref a1), (.ref x)] 2 = mkF m 0 #[.val (.ref a1), .val (.ref x)] [] := by first | (simp [entryFrame, mkF, argsToLocals, Value.category]; done) | rfl
def Q_rmFI (Z : State) (a1 : Addr) (x : Addr)  (h0 : Heap) (n0 : Nat) (v : Option Value) (h : Heap) (L : List Loc) : Prop := v = none ∧ Fr n0 L ∧ Keep h0 h [a1] ∧ Fld Z h a1 "com/example/explain_locks/explainlocks/schema/RowFault" "invalid" "Lcom/example/explain_locks/explainlocks/InvalidInputException;" (.ref x) ∧ Fld Z h a1 "com/example/explain_locks/explainlocks/schema/RowFault" "unsupported" "Lcom/example/explain_locks/explainlocks/UnsupportedInputException;" .null
set_option maxRecDepth 65536 in
set_option maxHeartbeats 40000000 in
theorem rmFI (l : Launch) (Z : State) (a0 : Array Value) (hw : ∀ d ∈ tables_1, d.before a0 Z = true) (ws : List Jvm.Cond) (a1 : Addr) (x : Addr)  (h0 : Heap) (n0 : Nat) (O0 : Old Z n0 h0) (Exa_a1 : Exa Z h0 a1 "com/example/explain_locks/explainlocks/schema/RowFault") (F_invalid_a1 : Fld Z h0 a1 "com/example/explain_locks/explainlocks/schema/RowFault" "invalid" "Lcom/example/explain_locks/explainlocks/InvalidInputException;" .null) (F_unsupported_a1 : Fld Z h0 a1 "com/example/explain_locks/explainlocks/schema/RowFault" "unsupported" "Lcom/example/explain_locks/explainlocks/UnsupportedInputException;" .null) (g1 : n0 ≤ a1) :
    MetFree l (⟨"com/example/explain_locks/explainlocks/schema/RowFault", "<init>", "(Lcom/example/explain_locks/explainlocks/InvalidInputException;)V"⟩ : MethodName) (head1 (Jvm.Cond.code (⟨"com/example/explain_locks/explainlocks/schema/RowFault", "<init>", "(Lcom/example/explain_locks/explainlocks/InvalidInputException;)V"⟩ : MethodName) prog_19_method_1_code 2 none :: ws) ({ frames := 1, cells := 0, slots := 0, locals := 12 } : Room)) (fun a U => a = #[(.ref a1), (.ref x)] ∧ Z.Warmed39 U.vm ∧ U.heap = h0) (fun _ _ _ _ _ => True) (fun _ U o U' => ∃ v L, o = .returned v ∧ Q_rmFI Z a1 x  h0 n0 v U'.heap L ∧ FrameEnd U o U' L ({ frames := 1, cells := 0, slots := 0, locals := 12 } : Room).cells ({ frames := 1, cells := 0, slots := 0, locals := 12 } : Room).slots) := by
  refine MetFree.of_bodySF (plainFor_of_name pn_rmFI) hisR ?_
  intro p e s m args below meth c s₁ Bd hml0 hP hK
  obtain ⟨rfl, hZ, hh⟩ := hP
  have hx := Bd.exec
  have hby := Bd.bytes
  have hml : c.maxLocals = 2 := hml0
  have hown : s.vm.findClass "com/example/explain_locks/explainlocks/schema/RowFault" = some m.cls := findClass_of_methodNamed Bd.named
  have hnm := (name_of_methodNamed Bd.named Bd.method).1
  have X0 : Stand p l e ({ frames := 1, cells := 0, slots := 0, locals := 12 } : Room) s m #[(.ref a1), (.ref x)] below meth c s₁ [] 0 0 := Stand.of_body Bd
  have e0 : s₁.heap = h0 := by rw [← hh, Bd.state]; rfl
  have N0 := Fr.nil n0
  refine Gl.start (Q := Q_rmFI Z a1 x  h0 n0) (ef_rmFI m a1 x) ?_
  show Gl p e below s _ _ _ s₁ (mkF m 0 #[.val (.ref a1), .val (.ref x)] [])
  refine Gl.st (fun _ kk => XS.aloadN X0.here hx rfl (hb hby d17_0) rfl rfl kk) ?_
  show Gl p e below s _ _ _ s₁ (mkF m 1 #[.val (.ref a1), .val (.ref x)] [(.ref a1)])
  obtain ⟨T1, X1, e1, st1⟩ := initO X0 hx hZ hown (hw _ (List.mem_of_getElem? (i := 91) rfl)) (hw _ (List.mem_of_getElem? (i := 13) rfl)) (hw _ (List.mem_of_getElem? (i := 14) rfl)) e0 (g := (mkF m 1 #[.val (.ref a1), .val (.ref x)] [(.ref a1)])) rfl (by rw [hml]; rfl) rfl (hb hby d17_1) (by decide) (W := 0) (by show 2 * 0 + _ ≤ _; exact Nat.le_of_eq rfl) (by decide)
  refine Gl.st st1 ?_
  show Gl p e below s _ _ _ T1 (mkF m 4 #[.val (.ref a1), .val (.ref x)] [])
  refine Gl.st (fun _ kk => XS.aloadN X1.here hx rfl (hb hby d17_4) rfl rfl kk) ?_
  show Gl p e below s _ _ _ T1 (mkF m 5 #[.val (.ref a1), .val (.ref x)] [(.ref a1)])
  refine Gl.st (fun _ kk => XS.aloadN X1.here hx rfl (hb hby d17_5) rfl rfl kk) ?_
  show Gl p e below s _ _ _ T1 (mkF m 6 #[.val (.ref a1), .val (.ref x)] [(.ref x), (.ref a1)])
  obtain ⟨T2, h2, X2, e2, W2, st2⟩ := putF X1 hx hZ hown (host := "") (Or.inl (hw _ (List.mem_of_getElem? (i := 92) rfl))) Via.refl e1 F_invalid_a1 Exa_a1 (Or.inr ⟨(hw _ (List.mem_of_getElem? (i := 93) rfl)), rfl, hnm⟩) (hw _ (List.mem_of_getElem? (i := 32) rfl)) (ty := (.object "com/example/explain_locks/explainlocks/InvalidInputException")) (by decide) rfl rfl (g := (mkF m 6 #[.val (.ref a1), .val (.ref x)] [(.ref x), (.ref a1)])) rfl rfl (hb hby d17_6)
  refine Gl.st st2 ?_
  have F_invalid_a1 := F_invalid_a1.same W2
  replace Exa_a1 := Exa_a1.wr W2
  replace F_unsupported_a1 := F_unsupported_a1.other W2 (Or.inr (slot_ne (Or.inr (hw _ (List.mem_of_getElem? (i := 95) rfl))) (Or.inr (hw _ (List.mem_of_getElem? (i := 93) rfl))) (by decide) (t := (.object "com/example/explain_locks/explainlocks/UnsupportedInputException")) (t' := (.object "com/example/explain_locks/explainlocks/InvalidInputException")) (by decide) (by decide)))
  have O2 := O0.wr W2 g1
  have K2 := (Keep.refl h0 [a1]).wr W2 (Or.inl (List.mem_of_getElem? (i := 0) rfl))
  have N2 := Fr.snoc X2 N0 g1
  show Gl p e below s _ _ _ T2 (mkF m 9 #[.val (.ref a1), .val (.ref x)] [])
  refine Gl.st (fun _ kk => XS.aloadN X2.here hx rfl (hb hby d17_9) rfl rfl kk) ?_
  show Gl p e below s _ _ _ T2 (mkF m 10 #[.val (.ref a1), .val (.ref x)] [(.ref a1)])
  refine Gl.st (fun _ kk => XS.aconstNull X2.here hx rfl (hb hby d17_10) kk) ?_
  show Gl p e below s _ _ _ T2 (mkF m 11 #[.val (.ref a1), .val (.ref x)] [.null, (.ref a1)])
  obtain ⟨T3, h3, X3, e3, W3, st3⟩ := putF X2 hx hZ hown (host := "") (Or.inl (hw _ (List.mem_of_getElem? (i := 94) rfl))) Via.refl e2 F_unsupported_a1 Exa_a1 (Or.inr ⟨(hw _ (List.mem_of_getElem? (i := 95) rfl)), rfl, hnm⟩) (hw _ (List.mem_of_getElem? (i := 32) rfl)) (ty := (.object "com/example/explain_locks/explainlocks/UnsupportedInputException")) (by decide) rfl rfl (g := (mkF m 11 #[.val (.ref a1), .val (.ref x)] [.null, (.ref a1)])) rfl rfl (hb hby d17_11)
  refine Gl.st st3 ?_
  have F_unsupported_a1 := F_unsupported_a1.same W3
  replace Exa_a1 := Exa_a1.wr W3
  replace F_invalid_a1 := F_invalid_a1.other W3 (Or.inr (slot_ne (Or.inr (hw _ (List.mem_of_getElem? (i := 93) rfl))) (Or.inr (hw _ (List.mem_of_getElem? (i := 95) rfl))) (by decide) (t := (.object "com/example/explain_locks/explainlocks/InvalidInputException")) (t' := (.object "com/example/explain_locks/explainlocks/UnsupportedInputException")) (by decide) (by decide)))
  have O3 := O2.wr W3 g1
  have K3 := K2.wr W3 (Or.inl (List.mem_of_getElem? (i := 0) rfl))
  have N3 := Fr.snoc X3 N2 g1
  show Gl p e below s _ _ _ T3 (mkF m 14 #[.val (.ref a1), .val (.ref x)] [])
  exact Gl.ret X3 (v := none) (fun _ => rfl) (BodyLoose.notSynchronized Bd) (fun hr => X3.returnOut hx Bd.returns (hb hby d17_14) hr) e3 ⟨rfl, N3, K3, F_invalid_a1, F_unsupported_a1⟩ (by decide) (by decide)
theorem d12_0 : decode prog_19_method_2_code 0 = .ok (.aload_n 0, 1) := by decide +kernel
theorem d12_1 : decode prog_19_method_2_code 1 = .ok (.invokespecial 1, 3) := by decide +kernel
theorem d12_4 : decode prog_19_method_2_code 4 = .ok (.aload_n 0, 1) := by decide +kernel
theorem d12_5 : decode prog_19_method_2_code 5 = .ok (.aconst_null, 1) := by decide +kernel
theorem d12_6 : decode prog_19_method_2_code 6 = .ok (.putfield 7, 3) := by decide +kernel
theorem d12_9 : decode prog_19_method_2_code 9 = .ok (.aload_n 0, 1) := by decide +kernel
theorem d12_10 : decode prog_19_method_2_code 10 = .ok (.aload_n 1, 1) := by decide +kernel
theorem d12_11 : decode prog_19_method_2_code 11 = .ok (.putfield 13, 3) := by decide +kernel
theorem d12_14 : decode prog_19_method_2_code 14 = .ok (.return_, 1) := by decide +kernel
theorem pn_rmFU : plainName "com/example/explain_locks/explainlocks/schema/RowFault" = true := by first | (simp [plainName, overriddenIn]; done) | decide +kernel
theorem ef_rmFU (m : MethodId) (a1 : Addr) (x : Addr) : entryFrame m #[(.ref a1), (.ref x)] 2 = mkF m 0 #[.val (.ref a1), .val (.ref x)] [] := by first | (simp [entryFrame, mkF, argsToLocals, Value.category]; done) | rfl
def Q_rmFU (Z : State) (a1 : Addr) (x : Addr)  (h0 : Heap) (n0 : Nat) (v : Option Value) (h : Heap) (L : List Loc) : Prop := v = none ∧ Fr n0 L ∧ Keep h0 h [a1] ∧ Fld Z h a1 "com/example/explain_locks/explainlocks/schema/RowFault" "invalid" "Lcom/example/explain_locks/explainlocks/InvalidInputException;" .null ∧ Fld Z h a1 "com/example/explain_locks/explainlocks/schema/RowFault" "unsupported" "Lcom/example/explain_locks/explainlocks/UnsupportedInputException;" (.ref x)
set_option maxRecDepth 65536 in
set_option maxHeartbeats 40000000 in
theorem rmFU (l : Launch) (Z : State) (a0 : Array Value) (hw : ∀ d ∈ tables_1, d.before a0 Z = true) (ws : List Jvm.Cond) (a1 : Addr) (x : Addr)  (h0 : Heap) (n0 : Nat) (O0 : Old Z n0 h0) (Exa_a1 : Exa Z h0 a1 "com/example/explain_locks/explainlocks/schema/RowFault") (F_invalid_a1 : Fld Z h0 a1 "com/example/explain_locks/explainlocks/schema/RowFault" "invalid" "Lcom/example/explain_locks/explainlocks/InvalidInputException;" .null) (F_unsupported_a1 : Fld Z h0 a1 "com/example/explain_locks/explainlocks/schema/RowFault" "unsupported" "Lcom/example/explain_locks/explainlocks/UnsupportedInputException;" .null) (g1 : n0 ≤ a1) :
    MetFree l (⟨"com/example/explain_locks/explainlocks/schema/RowFault", "<init>", "(Lcom/example/explain_locks/explainlocks/UnsupportedInputException;)V"⟩ : MethodName) (head1 (Jvm.Cond.code (⟨"com/example/explain_locks/explainlocks/schema/RowFault", "<init>", "(Lcom/example/explain_locks/explainlocks/UnsupportedInputException;)V"⟩ : MethodName) prog_19_method_2_code 2 none :: ws) ({ frames := 1, cells := 0, slots := 0, locals := 12 } : Room)) (fun a U => a = #[(.ref a1), (.ref x)] ∧ Z.Warmed39 U.vm ∧ U.heap = h0) (fun _ _ _ _ _ => True) (fun _ U o U' => ∃ v L, o = .returned v ∧ Q_rmFU Z a1 x  h0 n0 v U'.heap L ∧ FrameEnd U o U' L ({ frames := 1, cells := 0, slots := 0, locals := 12 } : Room).cells ({ frames := 1, cells := 0, slots := 0, locals := 12 } : Room).slots) := by
  refine MetFree.of_bodySF (plainFor_of_name pn_rmFU) hisR ?_
  intro p e s m args below meth c s₁ Bd hml0 hP hK
  obtain ⟨rfl, hZ, hh⟩ := hP
  have hx := Bd.exec
  have hby := Bd.bytes
  have hml : c.maxLocals = 2 := hml0
  have hown : s.vm.findClass "com/example/explain_locks/explainlocks/schema/RowFault" = some m.cls := findClass_of_methodNamed Bd.named
  have hnm := (name_of_methodNamed Bd.named Bd.method).1
  have X0 : Stand p l e ({ frames := 1, cells := 0, slots := 0, locals := 12 } : Room) s m #[(.ref a1), (.ref x)] below meth c s₁ [] 0 0 := Stand.of_body Bd
  have e0 : s₁.heap = h0 := by rw [← hh, Bd.state]; rfl
  have N0 := Fr.nil n0
  refine Gl.start (Q := Q_rmFU Z a1 x  h0 n0) (ef_rmFU m a1 x) ?_
  show Gl p e below s _ _ _ s₁ (mkF m 0 #[.val (.ref a1), .val (.ref x)] [])
  refine Gl.st (fun _ kk => XS.aloadN X0.here hx rfl (hb hby d12_0) rfl rfl kk) ?_
  show Gl p e below s _ _ _ s₁ (mkF m 1 #[.val (.ref a1), .val (.ref x)] [(.ref a1)])
  obtain ⟨T1, X1, e1, st1⟩ := initO X0 hx hZ hown (hw _ (List.mem_of_getElem? (i := 91) rfl)) (hw _ (List.mem_of_getElem? (i := 13) rfl)) (hw _ (List.mem_of_getElem? (i := 14) rfl)) e0 (g := (mkF m 1 #[.val (.ref a1), .val (.ref x)] [(.ref a1)])) rfl (by rw [hml]; rfl) rfl (hb hby d12_1) (by decide) (W := 0) (by show 2 * 0 + _ ≤ _; exact Nat.le_of_eq rfl) (by decide)
  refine Gl.st st1 ?_
  show Gl p e below s _ _ _ T1 (mkF m 4 #[.val (.ref a1), .val (.ref x)] [])
  refine Gl.st (fun _ kk => XS.aloadN X1.here hx rfl (hb hby d12_4) rfl rfl kk) ?_
  show Gl p e below s _ _ _ T1 (mkF m 5 #[.val (.ref a1), .val (.ref x)] [(.ref a1)])
  refine Gl.st (fun _ kk => XS.aconstNull X1.here hx rfl (hb hby d12_5) kk) ?_
  show Gl p e below s _ _ _ T1 (mkF m 6 #[.val (.ref a1), .val (.ref x)] [.null, (.ref a1)])
  obtain ⟨T2, h2, X2, e2, W2, st2⟩ := putF X1 hx hZ hown (host := "") (Or.inl (hw _ (List.mem_of_getElem? (i := 92) rfl))) Via.refl e1 F_invalid_a1 Exa_a1 (Or.inr ⟨(hw _ (List.mem_of_getElem? (i := 93) rfl)), rfl, hnm⟩) (hw _ (List.mem_of_getElem? (i := 32) rfl)) (ty := (.object "com/example/explain_locks/explainlocks/InvalidInputException")) (by decide) rfl rfl (g := (mkF m 6 #[.val (.ref a1), .val (.ref x)] [.null, (.ref a1)])) rfl rfl (hb hby d12_6)
  refine Gl.st st2 ?_
  have F_invalid_a1 := F_invalid_a1.same W2
  replace Exa_a1 := Exa_a1.wr W2
  replace F_unsupported_a1 := F_unsupported_a1.other W2 (Or.inr (slot_ne (Or.inr (hw _ (List.mem_of_getElem? (i := 95) rfl))) (Or.inr (hw _ (List.mem_of_getElem? (i := 93) rfl))) (by decide) (t := (.object "com/example/explain_locks/explainlocks/UnsupportedInputException")) (t' := (.object "com/example/explain_locks/explainlocks/InvalidInputException")) (by decide) (by decide)))
  have O2 := O0.wr W2 g1
  have K2 := (Keep.refl h0 [a1]).wr W2 (Or.inl (List.mem_of_getElem? (i := 0) rfl))
  have N2 := Fr.snoc X2 N0 g1
  show Gl p e below s _ _ _ T2 (mkF m 9 #[.val (.ref a1), .val (.ref x)] [])
  refine Gl.st (fun _ kk => XS.aloadN X2.here hx rfl (hb hby d12_9) rfl rfl kk) ?_
  show Gl p e below s _ _ _ T2 (mkF m 10 #[.val (.ref a1), .val (.ref x)] [(.ref a1)])
  refine Gl.st (fun _ kk => XS.aloadN X2.here hx rfl (hb hby d12_10) rfl rfl kk) ?_
  show Gl p e below s _ _ _ T2 (mkF m 11 #[.val (.ref a1), .val (.ref x)] [(.ref x), (.ref a1)])
  obtain ⟨T3, h3, X3, e3, W3, st3⟩ := putF X2 hx hZ hown (host := "") (Or.inl (hw _ (List.mem_of_getElem? (i := 94) rfl))) Via.refl e2 F_unsupported_a1 Exa_a1 (Or.inr ⟨(hw _ (List.mem_of_getElem? (i := 95) rfl)), rfl, hnm⟩) (hw _ (List.mem_of_getElem? (i := 32) rfl)) (ty := (.object "com/example/explain_locks/explainlocks/UnsupportedInputException")) (by decide) rfl rfl (g := (mkF m 11 #[.val (.ref a1), .val (.ref x)] [(.ref x), (.ref a1)])) rfl rfl (hb hby d12_11)
  refine Gl.st st3 ?_
  have F_unsupported_a1 := F_unsupported_a1.same W3
  replace Exa_a1 := Exa_a1.wr W3
  replace F_invalid_a1 := F_invalid_a1.other W3 (Or.inr (slot_ne (Or.inr (hw _ (List.mem_of_getElem? (i := 93) rfl))) (Or.inr (hw _ (List.mem_of_getElem? (i := 95) rfl))) (by decide) (t := (.object "com/example/explain_locks/explainlocks/InvalidInputException")) (t' := (.object "com/example/explain_locks/explainlocks/UnsupportedInputException")) (by decide) (by decide)))
  have O3 := O2.wr W3 g1
  have K3 := K2.wr W3 (Or.inl (List.mem_of_getElem? (i := 0) rfl))
  have N3 := Fr.snoc X3 N2 g1
  show Gl p e below s _ _ _ T3 (mkF m 14 #[.val (.ref a1), .val (.ref x)] [])
  exact Gl.ret X3 (v := none) (fun _ => rfl) (BodyLoose.notSynchronized Bd) (fun hr => X3.returnOut hx Bd.returns (hb hby d12_14) hr) e3 ⟨rfl, N3, K3, F_invalid_a1, F_unsupported_a1⟩ (by decide) (by decide)
theorem d14_0 : decode jdk_78_method_6_code 0 = .ok (.aload_n 0, 1) := by decide +kernel
theorem d14_1 : decode jdk_78_method_6_code 1 = .ok (.getfield 31, 3) := by decide +kernel
theorem d14_4 : decode jdk_78_method_6_code 4 = .ok (.areturn, 1) := by decide +kernel
theorem pn_rmGM0 : plainName "java/lang/Throwable" = true := by first | (simp [plainName, overriddenIn]; done) | decide +kernel
theorem ef_rmGM0 (m : MethodId) (a1 : Addr) : entryFrame m #[(.ref a1)] 1 = mkF m 0 #[.val (.ref a1)] [] := by first | (simp [entryFrame, mkF, argsToLocals, Value.category]; done) | rfl
def Q_rmGM0 (Z : State) (a1 : Addr) (u : Addr) (h0 : Heap) (n0 : Nat) (v : Option Value) (h : Heap) (L : List Loc) : Prop := v = some (.ref u) ∧ Fr n0 L ∧ h = h0
set_option maxRecDepth 65536 in
set_option maxHeartbeats 40000000 in
theorem rmGM0 (l : Launch) (Z : State) (a0 : Array Value) (hw : ∀ d ∈ tables_1, d.before a0 Z = true) (ws : List Jvm.Cond) (a1 : Addr) (u : Addr) (h0 : Heap) (n0 : Nat) (O0 : Old Z n0 h0) (F_detailMessage_a1 : Fld Z h0 a1 "java/lang/Throwable" "detailMessage" "Ljava/lang/String;" (.ref u)) :
    MetFree l (⟨"java/lang/Throwable", "getMessage", "()Ljava/lang/String;"⟩ : MethodName) (head1 (Jvm.Cond.code (⟨"java/lang/Throwable", "getMessage", "()Ljava/lang/String;"⟩ : MethodName) jdk_78_method_6_code 1 (some (.object "java/lang/String")) :: ws) ({ frames := 0, cells := 0, slots := 0, locals := 0 } : Room)) (fun a U => a = #[(.ref a1)] ∧ Z.Warmed39 U.vm ∧ U.heap = h0) (fun _ _ _ _ _ => True) (fun _ U o U' => ∃ v L, o = .returned v ∧ Q_rmGM0 Z a1 u h0 n0 v U'.heap L ∧ FrameEnd U o U' L ({ frames := 0, cells := 0, slots := 0, locals := 0 } : Room).cells ({ frames := 0, cells := 0, slots := 0, locals := 0 } : Room).slots) := by
  refine MetFree.of_bodySF (plainFor_of_name pn_rmGM0) hisR ?_
  intro p e s m args below meth c s₁ Bd hml0 hP hK
  obtain ⟨rfl, hZ, hh⟩ := hP
  have hx := Bd.exec
  have hby := Bd.bytes
  have hml : c.maxLocals = 1 := hml0
  have hown : s.vm.findClass "java/lang/Throwable" = some m.cls := findClass_of_methodNamed Bd.named
  have hnm := (name_of_methodNamed Bd.named Bd.method).1
  have X0 : Stand p l e ({ frames := 0, cells := 0, slots := 0, locals := 0 } : Room) s m #[(.ref a1)] below meth c s₁ [] 0 0 := Stand.of_body Bd
  have e0 : s₁.heap = h0 := by rw [← hh, Bd.state]; rfl
  have N0 := Fr.nil n0
  refine Gl.start (Q := Q_rmGM0 Z a1 u h0 n0) (ef_rmGM0 m a1) ?_
  show Gl p e below s _ _ _ s₁ (mkF m 0 #[.val (.ref a1)] [])
  refine Gl.st (fun _ kk => XS.aloadN X0.here hx rfl (hb hby d14_0) rfl rfl kk) ?_
  show Gl p e below s _ _ _ s₁ (mkF m 1 #[.val (.ref a1)] [(.ref a1)])
  obtain ⟨T1, X1, e1, st1⟩ := getF X0 hx hZ hown (host := "") (Or.inl (hw _ (List.mem_of_getElem? (i := 87) rfl))) Via.refl e0 F_detailMessage_a1 (g := (mkF m 1 #[.val (.ref a1)] [(.ref a1)])) rfl rfl (hb hby d14_1)
  refine Gl.st st1 ?_
  show Gl p e below s _ _ _ T1 (mkF m 4 #[.val (.ref a1)] [(.ref u)])
  exact Gl.ret X1 (v := (some (.ref u))) (fun h => by rw [Bd.returns] at h; cases h) (BodyLoose.notSynchronized Bd) (fun hr => retOut X1 hx Bd.returns rfl (Or.inr (Or.inr (Or.inr (Or.inr ⟨rfl, rfl, rfl⟩)))) (hb hby d14_4) hr) e1 ⟨rfl, N0, rfl⟩ (by decide) (by decide)
theorem d13_0 : decode prog_19_method_3_code 0 = .ok (.aload_n 0, 1) := by decide +kernel
theorem d13_1 : decode prog_19_method_3_code 1 = .ok (.getfield 7, 3) := by decide +kernel
theorem d13_4 : decode prog_19_method_3_code 4 = .ok (.ifnull 13, 3) := by decide +kernel
theorem d13_7 : decode prog_19_method_3_code 7 = .ok (.aload_n 0, 1) := by decide +kernel
theorem d13_8 : decode prog_19_method_3_code 8 = .ok (.getfield 7, 3) := by decide +kernel
theorem d13_11 : decode prog_19_method_3_code 11 = .ok (.invokevirtual 17, 3) := by decide +kernel
theorem d13_14 : decode prog_19_method_3_code 14 = .ok (.goto 10, 3) := by decide +kernel
theorem d13_24 : decode prog_19_method_3_code 24 = .ok (.areturn, 1) := by decide +kernel
theorem pd_rmMI0_0 : parseMethodDescriptor "()Ljava/lang/String;" = some ⟨[], some (.object "java/lang/String")⟩ := by decide +kernel
theorem pn_rmMI0 : plainName "com/example/explain_locks/explainlocks/schema/RowFault" = true := by first | (simp [plainName, overriddenIn]; done) | decide +kernel
theorem ef_rmMI0 (m : MethodId) (a1 : Addr) : entryFrame m #[(.ref a1)] 1 = mkF m 0 #[.val (.ref a1)] [] := by first | (simp [entryFrame, mkF, argsToLocals, Value.category]; done) | rfl
def Q_rmMI0 (Z : State) (a1 : Addr) (x : Addr) (u : Addr) (h0 : Heap) (n0 : Nat) (v : Option Value) (h : Heap) (L : List Loc) : Prop := v = some (.ref u) ∧ Fr n0 L ∧ h = h0
set_option maxRecDepth 65536 in
set_option maxHeartbeats 40000000 in
theorem rmMI0 (l : Launch) (Z : State) (a0 : Array Value) (hw : ∀ d ∈ tables_1, d.before a0 Z = true) (ws : List Jvm.Cond) (a1 : Addr) (x : Addr) (u : Addr) (h0 : Heap) (n0 : Nat) (O0 : Old Z n0 h0) (F_invalid_a1 : Fld Z h0 a1 "com/example/explain_locks/explainlocks/schema/RowFault" "invalid" "Lcom/example/explain_locks/explainlocks/InvalidInputException;" (.ref x)) (F_unsupported_a1 : Fld Z h0 a1 "com/example/explain_locks/explainlocks/schema/RowFault" "unsupported" "Lcom/example/explain_locks/explainlocks/UnsupportedInputException;" .null) (Exa_x : Exa Z h0 x "com/example/explain_locks/explainlocks/InvalidInputException") (F_detailMessage_x : Fld Z h0 x "java/lang/Throwable" "detailMessage" "Ljava/lang/String;" (.ref u)) :
    MetFree l (⟨"com/example/explain_locks/explainlocks/schema/RowFault", "message", "()Ljava/lang/String;"⟩ : MethodName) (head1 (Jvm.Cond.code (⟨"com/example/explain_locks/explainlocks/schema/RowFault", "message", "()Ljava/lang/String;"⟩ : MethodName) prog_19_method_3_code 1 (some (.object "java/lang/String")) :: ws) ({ frames := 1, cells := 0, slots := 0, locals := 12 } : Room)) (fun a U => a = #[(.ref a1)] ∧ Z.Warmed39 U.vm ∧ U.heap = h0) (fun _ _ _ _ _ => True) (fun _ U o U' => ∃ v L, o = .returned v ∧ Q_rmMI0 Z a1 x u h0 n0 v U'.heap L ∧ FrameEnd U o U' L ({ frames := 1, cells := 0, slots := 0, locals := 12 } : Room).cells ({ frames := 1, cells := 0, slots := 0, locals := 12 } : Room).slots) := by
  refine MetFree.of_bodySF (plainFor_of_name pn_rmMI0) hisR ?_
  intro p e s m args below meth c s₁ Bd hml0 hP hK
  obtain ⟨rfl, hZ, hh⟩ := hP
  have hx := Bd.exec
  have hby := Bd.bytes
  have hml : c.maxLocals = 1 := hml0
  have hown : s.vm.findClass "com/example/explain_locks/explainlocks/schema/RowFault" = some m.cls := findClass_of_methodNamed Bd.named
  have hnm := (name_of_methodNamed Bd.named Bd.method).1
  have X0 : Stand p l e ({ frames := 1, cells := 0, slots := 0, locals := 12 } : Room) s m #[(.ref a1)] below meth c s₁ [] 0 0 := Stand.of_body Bd
  have e0 : s₁.heap = h0 := by rw [← hh, Bd.state]; rfl
  have N0 := Fr.nil n0
  refine Gl.start (Q := Q_rmMI0 Z a1 x u h0 n0) (ef_rmMI0 m a1) ?_
  show Gl p e below s _ _ _ s₁ (mkF m 0 #[.val (.ref a1)] [])
  refine Gl.st (fun _ kk => XS.aloadN X0.here hx rfl (hb hby d13_0) rfl rfl kk) ?_
  show Gl p e below s _ _ _ s₁ (mkF m 1 #[.val (.ref a1)] [(.ref a1)])
  obtain ⟨T1, X1, e1, st1⟩ := getF X0 hx hZ hown (host := "") (Or.inl (hw _ (List.mem_of_getElem? (i := 92) rfl))) Via.refl e0 F_invalid_a1 (g := (mkF m 1 #[.val (.ref a1)] [(.ref a1)])) rfl rfl (hb hby d13_1)
  refine Gl.st st1 ?_
  show Gl p e below s _ _ _ T1 (mkF m 4 #[.val (.ref a1)] [(.ref x)])
  refine Gl.st (fun _ kk => XS.ifnullNo X1.here hx rfl (hb hby d13_4) rfl kk) ?_
  show Gl p e below s _ _ _ T1 (mkF m 7 #[.val (.ref a1)] [])
  refine Gl.st (fun _ kk => XS.aloadN X1.here hx rfl (hb hby d13_7) rfl rfl kk) ?_
  show Gl p e below s _ _ _ T1 (mkF m 8 #[.val (.ref a1)] [(.ref a1)])
  obtain ⟨T2, X2, e2, st2⟩ := getF X1 hx hZ hown (host := "") (Or.inl (hw _ (List.mem_of_getElem? (i := 92) rfl))) Via.refl e1 F_invalid_a1 (g := (mkF m 8 #[.val (.ref a1)] [(.ref a1)])) rfl rfl (hb hby d13_8)
  refine Gl.st st2 ?_
  show Gl p e below s _ _ _ T2 (mkF m 11 #[.val (.ref a1)] [(.ref x)])
  obtain ⟨cq3, kq3, qa3, qb3, qc3⟩ := isOf hZ e2 Exa_x
  obtain ⟨v3, _, ⟨T3, L3, kQ3, nQ3⟩, -, X3, ⟨Lc3, hQ3, l3, y3, z3⟩, st3⟩ := X2.virtualBackUp hx (x := (⟨"com/example/explain_locks/explainlocks/InvalidInputException", "getMessage", "()Ljava/lang/String;"⟩ : MethodName)) (y := (⟨"java/lang/Throwable", "getMessage", "()Ljava/lang/String;"⟩ : MethodName)) hown (mvT hZ (hw _ (List.mem_of_getElem? (i := 135) rfl))) (mvT hZ (hw _ (List.mem_of_getElem? (i := 136) rfl))) (mvT hZ (hw _ (List.mem_of_getElem? (i := 103) rfl))) (by decide) (mvT hZ (hw _ (List.mem_of_getElem? (i := 137) rfl))) (mvT hZ (hw _ (List.mem_of_getElem? (i := 104) rfl))) (backOf (W := 0) (rmGM0 l Z a0 hw [] x u h0 n0 O0 F_detailMessage_x) hZ (hw _ (List.mem_of_getElem? (i := 106) rfl)) (hw _ (List.mem_of_getElem? (i := 49) rfl)) (by decide) (by decide)) qa3 qc3 (g := (mkF m 11 #[.val (.ref a1)] [(.ref x)])) rfl (by rw [hml]; rfl) (Steps.refl _) (argsL := []) (rest := []) (lenOf pd_rmMI0_0 rfl) rfl (by show 2 * 0 + _ ≤ _; exact Nat.le_of_eq rfl) (hb hby d13_11) (fun _ _ => ⟨rfl, e2, (by decide : 0 + 0 ≤ _), (by decide : 0 + 0 ≤ _)⟩)
  dsimp only [Pt.U, Pt.locs, Pt.cells, Pt.slots] at X3 l3 y3 z3 st3 hQ3
  subst y3 z3
  obtain ⟨rfl, Nq3, e3⟩ := hQ3
  have N3 : Fr n0 L3 := l3 ▸ Fr.app N0 Nq3
  refine Gl.st (fun _ kk => st3.trans kk) ?_
  clear st3 qc3 qb3 qa3 kq3 cq3
  clear X2 e2
  show Gl p e below s _ _ _ T3 (mkF m 14 #[.val (.ref a1)] [(.ref u)])
  refine Gl.st (fun _ kk => XS.goto X3.here hx rfl (pc0 := 14) (pc' := 24) rfl (hb hby d13_14) (by decide) (by decide) kk) ?_
  show Gl p e below s _ _ _ T3 (mkF m 24 #[.val (.ref a1)] [(.ref u)])
  exact Gl.ret X3 (v := (some (.ref u))) (fun h => by rw [Bd.returns] at h; cases h) (BodyLoose.notSynchronized Bd) (fun hr => retOut X3 hx Bd.returns rfl (Or.inr (Or.inr (Or.inr (Or.inr ⟨rfl, rfl, rfl⟩)))) (hb hby d13_24) hr) e3 ⟨rfl, N3, rfl⟩ (by decide) (by decide)
theorem d13_17 : decode prog_19_method_3_code 17 = .ok (.aload_n 0, 1) := by decide +kernel
theorem d13_18 : decode prog_19_method_3_code 18 = .ok (.getfield 13, 3) := by decide +kernel
theorem d13_21 : decode prog_19_method_3_code 21 = .ok (.invokevirtual 23, 3) := by decide +kernel
theorem pd_rmMU0_0 : parseMethodDescriptor "()Ljava/lang/String;" = some ⟨[], some (.object "java/lang/String")⟩ := by decide +kernel
theorem pn_rmMU0 : plainName "com/example/explain_locks/explainlocks/schema/RowFault" = true := by first | (simp [plainName, overriddenIn]; done) | decide +kernel
theorem ef_rmMU0 (m : MethodId) (a1 : Addr) : entryFrame m #[(.ref a1)] 1 = mkF m 0 #[.val (.ref a1)] [] := by first | (simp [entryFrame, mkF, argsToLocals, Value.category]; done) | rfl
def Q_rmMU0 (Z : State) (a1 : Addr) (x : Addr) (u : Addr) (h0 : Heap) (n0 : Nat) (v : Option Value) (h : Heap) (L : List Loc) : Prop := v = some (.ref u) ∧ Fr n0 L ∧ h = h0
set_option maxRecDepth 65536 in
set_option maxHeartbeats 40000000 in
theorem rmMU0 (l : Launch) (Z : State) (a0 : Array Value) (hw : ∀ d ∈ tables_1, d.before a0 Z = true) (ws : List Jvm.Cond) (a1 : Addr) (x : Addr) (u : Addr) (h0 : Heap) (n0 : Nat) (O0 : Old Z n0 h0) (F_invalid_a1 : Fld Z h0 a1 "com/example/explain_locks/explainlocks/schema/RowFault" "invalid" "Lcom/example/explain_locks/explainlocks/InvalidInputException;" .null) (F_unsupported_a1 : Fld Z h0 a1 "com/example/explain_locks/explainlocks/schema/RowFault" "unsupported" "Lcom/example/explain_locks/explainlocks/UnsupportedInputException;" (.ref x)) (Exa_x : Exa Z h0 x "com/example/explain_locks/explainlocks/UnsupportedInputException") (F_detailMessage_x : Fld Z h0 x "java/lang/Throwable" "detailMessage" "Ljava/lang/String;" (.ref u)) :
    MetFree l (⟨"com/example/explain_locks/explainlocks/schema/RowFault", "message", "()Ljava/lang/String;"⟩ : MethodName) (head1 (Jvm.Cond.code (⟨"com/example/explain_locks/explainlocks/schema/RowFault", "message", "()Ljava/lang/String;"⟩ : MethodName) prog_19_method_3_code 1 (some (.object "java/lang/String")) :: ws) ({ frames := 1, cells := 0, slots := 0, locals := 12 } : Room)) (fun a U => a = #[(.ref a1)] ∧ Z.Warmed39 U.vm ∧ U.heap = h0) (fun _ _ _ _ _ => True) (fun _ U o U' => ∃ v L, o = .returned v ∧ Q_rmMU0 Z a1 x u h0 n0 v U'.heap L ∧ FrameEnd U o U' L ({ frames := 1, cells := 0, slots := 0, locals := 12 } : Room).cells ({ frames := 1, cells := 0, slots := 0, locals := 12 } : Room).slots) := by
  refine MetFree.of_bodySF (plainFor_of_name pn_rmMU0) hisR ?_
  intro p e s m args below meth c s₁ Bd hml0 hP hK
  obtain ⟨rfl, hZ, hh⟩ := hP
  have hx := Bd.exec
  have hby := Bd.bytes
  have hml : c.maxLocals = 1 := hml0
  have hown : s.vm.findClass "com/example/explain_locks/explainlocks/schema/RowFault" = some m.cls := findClass_of_methodNamed Bd.named
  have hnm := (name_of_methodNamed Bd.named Bd.method).1
  have X0 : Stand p l e ({ frames := 1, cells := 0, slots := 0, locals := 12 } : Room) s m #[(.ref a1)] below meth c s₁ [] 0 0 := Stand.of_body Bd
  have e0 : s₁.heap = h0 := by rw [← hh, Bd.state]; rfl
  have N0 := Fr.nil n0
  refine Gl.start (Q := Q_rmMU0 Z a1 x u h0 n0) (ef_rmMU0 m a1) ?_
  show Gl p e below s _ _ _ s₁ (mkF m 0 #[.val (.ref a1)] [])
  refine Gl.st (fun _ kk => XS.aloadN X0.here hx rfl (hb hby d13_0) rfl rfl kk) ?_
  show Gl p e below s _ _ _ s₁ (mkF m 1 #[.val (.ref a1)] [(.ref a1)])
  obtain ⟨T1, X1, e1, st1⟩ := getF X0 hx hZ hown (host := "") (Or.inl (hw _ (List.mem_of_getElem? (i := 92) rfl))) Via.refl e0 F_invalid_a1 (g := (mkF m 1 #[.val (.ref a1)] [(.ref a1)])) rfl rfl (hb hby d13_1)
  refine Gl.st st1 ?_
  show Gl p e below s _ _ _ T1 (mkF m 4 #[.val (.ref a1)] [.null])
  refine Gl.st (fun _ kk => XS.ifnullYes X1.here hx rfl (pc0 := 4) (pc' := 17) rfl (hb hby d13_4) rfl (by decide) (by decide) kk) ?_
  show Gl p e below s _ _ _ T1 (mkF m 17 #[.val (.ref a1)] [])
  refine Gl.st (fun _ kk => XS.aloadN X1.here hx rfl (hb hby d13_17) rfl rfl kk) ?_
  show Gl p e below s _ _ _ T1 (mkF m 18 #[.val (.ref a1)] [(.ref a1)])
  obtain ⟨T2, X2, e2, st2⟩ := getF X1 hx hZ hown (host := "") (Or.inl (hw _ (List.mem_of_getElem? (i := 94) rfl))) Via.refl e1 F_unsupported_a1 (g := (mkF m 18 #[.val (.ref a1)] [(.ref a1)])) rfl rfl (hb hby d13_18)
  refine Gl.st st2 ?_
  show Gl p e below s _ _ _ T2 (mkF m 21 #[.val (.ref a1)] [(.ref x)])
  obtain ⟨cq3, kq3, qa3, qb3, qc3⟩ := isOf hZ e2 Exa_x
  obtain ⟨v3, _, ⟨T3, L3, kQ3, nQ3⟩, -, X3, ⟨Lc3, hQ3, l3, y3, z3⟩, st3⟩ := X2.virtualBackUp hx (x := (⟨"com/example/explain_locks/explainlocks/UnsupportedInputException", "getMessage", "()Ljava/lang/String;"⟩ : MethodName)) (y := (⟨"java/lang/Throwable", "getMessage", "()Ljava/lang/String;"⟩ : MethodName)) hown (mvT hZ (hw _ (List.mem_of_getElem? (i := 101) rfl))) (mvT hZ (hw _ (List.mem_of_getElem? (i := 102) rfl))) (mvT hZ (hw _ (List.mem_of_getElem? (i := 103) rfl))) (by decide) (mvT hZ (hw _ (List.mem_of_getElem? (i := 105) rfl))) (mvT hZ (hw _ (List.mem_of_getElem? (i := 104) rfl))) (backOf (W := 0) (rmGM0 l Z a0 hw [] x u h0 n0 O0 F_detailMessage_x) hZ (hw _ (List.mem_of_getElem? (i := 106) rfl)) (hw _ (List.mem_of_getElem? (i := 49) rfl)) (by decide) (by decide)) qa3 qc3 (g := (mkF m 21 #[.val (.ref a1)] [(.ref x)])) rfl (by rw [hml]; rfl) (Steps.refl _) (argsL := []) (rest := []) (lenOf pd_rmMU0_0 rfl) rfl (by show 2 * 0 + _ ≤ _; exact Nat.le_of_eq rfl) (hb hby d13_21) (fun _ _ => ⟨rfl, e2, (by decide : 0 + 0 ≤ _), (by decide : 0 + 0 ≤ _)⟩)
  dsimp only [Pt.U, Pt.locs, Pt.cells, Pt.slots] at X3 l3 y3 z3 st3 hQ3
  subst y3 z3
  obtain ⟨rfl, Nq3, e3⟩ := hQ3
  have N3 : Fr n0 L3 := l3 ▸ Fr.app N0 Nq3
  refine Gl.st (fun _ kk => st3.trans kk) ?_
  clear st3 qc3 qb3 qa3 kq3 cq3
  clear X2 e2
  show Gl p e below s _ _ _ T3 (mkF m 24 #[.val (.ref a1)] [(.ref u)])
  exact Gl.ret X3 (v := (some (.ref u))) (fun h => by rw [Bd.returns] at h; cases h) (BodyLoose.notSynchronized Bd) (fun hr => retOut X3 hx Bd.returns rfl (Or.inr (Or.inr (Or.inr (Or.inr ⟨rfl, rfl, rfl⟩)))) (hb hby d13_24) hr) e3 ⟨rfl, N3, rfl⟩ (by decide) (by decide)
theorem pn_rmGM1 : plainName "java/lang/Throwable" = true := by first | (simp [plainName, overriddenIn]; done) | decide +kernel
theorem ef_rmGM1 (m : MethodId) (a1 : Addr) : entryFrame m #[(.ref a1)] 1 = mkF m 0 #[.val (.ref a1)] [] := by first | (simp [entryFrame, mkF, argsToLocals, Value.category]; done) | rfl
def Q_rmGM1 (Z : State) (a1 : Addr)  (h0 : Heap) (n0 : Nat) (v : Option Value) (h : Heap) (L : List Loc) : Prop := v = some .null ∧ Fr n0 L ∧ h = h0
set_option maxRecDepth 65536 in
set_option maxHeartbeats 40000000 in
theorem rmGM1 (l : Launch) (Z : State) (a0 : Array Value) (hw : ∀ d ∈ tables_1, d.before a0 Z = true) (ws : List Jvm.Cond) (a1 : Addr)  (h0 : Heap) (n0 : Nat) (O0 : Old Z n0 h0) (F_detailMessage_a1 : Fld Z h0 a1 "java/lang/Throwable" "detailMessage" "Ljava/lang/String;" .null) :
    MetFree l (⟨"java/lang/Throwable", "getMessage", "()Ljava/lang/String;"⟩ : MethodName) (head1 (Jvm.Cond.code (⟨"java/lang/Throwable", "getMessage", "()Ljava/lang/String;"⟩ : MethodName) jdk_78_method_6_code 1 (some (.object "java/lang/String")) :: ws) ({ frames := 0, cells := 0, slots := 0, locals := 0 } : Room)) (fun a U => a = #[(.ref a1)] ∧ Z.Warmed39 U.vm ∧ U.heap = h0) (fun _ _ _ _ _ => True) (fun _ U o U' => ∃ v L, o = .returned v ∧ Q_rmGM1 Z a1  h0 n0 v U'.heap L ∧ FrameEnd U o U' L ({ frames := 0, cells := 0, slots := 0, locals := 0 } : Room).cells ({ frames := 0, cells := 0, slots := 0, locals := 0 } : Room).slots) := by
  refine MetFree.of_bodySF (plainFor_of_name pn_rmGM1) hisR ?_
  intro p e s m args below meth c s₁ Bd hml0 hP hK
  obtain ⟨rfl, hZ, hh⟩ := hP
  have hx := Bd.exec
  have hby := Bd.bytes
  have hml : c.maxLocals = 1 := hml0
  have hown : s.vm.findClass "java/lang/Throwable" = some m.cls := findClass_of_methodNamed Bd.named
  have hnm := (name_of_methodNamed Bd.named Bd.method).1
  have X0 : Stand p l e ({ frames := 0, cells := 0, slots := 0, locals := 0 } : Room) s m #[(.ref a1)] below meth c s₁ [] 0 0 := Stand.of_body Bd
  have e0 : s₁.heap = h0 := by rw [← hh, Bd.state]; rfl
  have N0 := Fr.nil n0
  refine Gl.start (Q := Q_rmGM1 Z a1  h0 n0) (ef_rmGM1 m a1) ?_
  show Gl p e below s _ _ _ s₁ (mkF m 0 #[.val (.ref a1)] [])
  refine Gl.st (fun _ kk => XS.aloadN X0.here hx rfl (hb hby d14_0) rfl rfl kk) ?_
  show Gl p e below s _ _ _ s₁ (mkF m 1 #[.val (.ref a1)] [(.ref a1)])
  obtain ⟨T1, X1, e1, st1⟩ := getF X0 hx hZ hown (host := "") (Or.inl (hw _ (List.mem_of_getElem? (i := 87) rfl))) Via.refl e0 F_detailMessage_a1 (g := (mkF m 1 #[.val (.ref a1)] [(.ref a1)])) rfl rfl (hb hby d14_1)
  refine Gl.st st1 ?_
  show Gl p e below s _ _ _ T1 (mkF m 4 #[.val (.ref a1)] [.null])
  exact Gl.ret X1 (v := (some .null)) (fun h => by rw [Bd.returns] at h; cases h) (BodyLoose.notSynchronized Bd) (fun hr => retOut X1 hx Bd.returns rfl (Or.inr (Or.inr (Or.inr (Or.inr ⟨rfl, rfl, rfl⟩)))) (hb hby d14_4) hr) e1 ⟨rfl, N0, rfl⟩ (by decide) (by decide)
theorem pd_rmMI1_0 : parseMethodDescriptor "()Ljava/lang/String;" = some ⟨[], some (.object "java/lang/String")⟩ := by decide +kernel
theorem pn_rmMI1 : plainName "com/example/explain_locks/explainlocks/schema/RowFault" = true := by first | (simp [plainName, overriddenIn]; done) | decide +kernel
theorem ef_rmMI1 (m : MethodId) (a1 : Addr) : entryFrame m #[(.ref a1)] 1 = mkF m 0 #[.val (.ref a1)] [] := by first | (simp [entryFrame, mkF, argsToLocals, Value.category]; done) | rfl
def Q_rmMI1 (Z : State) (a1 : Addr) (x : Addr)  (h0 : Heap) (n0 : Nat) (v : Option Value) (h : Heap) (L : List Loc) : Prop := v = some .null ∧ Fr n0 L ∧ h = h0
set_option maxRecDepth 65536 in
set_option maxHeartbeats 40000000 in
theorem rmMI1 (l : Launch) (Z : State) (a0 : Array Value) (hw : ∀ d ∈ tables_1, d.before a0 Z = true) (ws : List Jvm.Cond) (a1 : Addr) (x : Addr)  (h0 : Heap) (n0 : Nat) (O0 : Old Z n0 h0) (F_invalid_a1 : Fld Z h0 a1 "com/example/explain_locks/explainlocks/schema/RowFault" "invalid" "Lcom/example/explain_locks/explainlocks/InvalidInputException;" (.ref x)) (F_unsupported_a1 : Fld Z h0 a1 "com/example/explain_locks/explainlocks/schema/RowFault" "unsupported" "Lcom/example/explain_locks/explainlocks/UnsupportedInputException;" .null) (Exa_x : Exa Z h0 x "com/example/explain_locks/explainlocks/InvalidInputException") (F_detailMessage_x : Fld Z h0 x "java/lang/Throwable" "detailMessage" "Ljava/lang/String;" .null) :
    MetFree l (⟨"com/example/explain_locks/explainlocks/schema/RowFault", "message", "()Ljava/lang/String;"⟩ : MethodName) (head1 (Jvm.Cond.code (⟨"com/example/explain_locks/explainlocks/schema/RowFault", "message", "()Ljava/lang/String;"⟩ : MethodName) prog_19_method_3_code 1 (some (.object "java/lang/String")) :: ws) ({ frames := 1, cells := 0, slots := 0, locals := 12 } : Room)) (fun a U => a = #[(.ref a1)] ∧ Z.Warmed39 U.vm ∧ U.heap = h0) (fun _ _ _ _ _ => True) (fun _ U o U' => ∃ v L, o = .returned v ∧ Q_rmMI1 Z a1 x  h0 n0 v U'.heap L ∧ FrameEnd U o U' L ({ frames := 1, cells := 0, slots := 0, locals := 12 } : Room).cells ({ frames := 1, cells := 0, slots := 0, locals := 12 } : Room).slots) := by
  refine MetFree.of_bodySF (plainFor_of_name pn_rmMI1) hisR ?_
  intro p e s m args below meth c s₁ Bd hml0 hP hK
  obtain ⟨rfl, hZ, hh⟩ := hP
  have hx := Bd.exec
  have hby := Bd.bytes
  have hml : c.maxLocals = 1 := hml0
  have hown : s.vm.findClass "com/example/explain_locks/explainlocks/schema/RowFault" = some m.cls := findClass_of_methodNamed Bd.named
  have hnm := (name_of_methodNamed Bd.named Bd.method).1
  have X0 : Stand p l e ({ frames := 1, cells := 0, slots := 0, locals := 12 } : Room) s m #[(.ref a1)] below meth c s₁ [] 0 0 := Stand.of_body Bd
  have e0 : s₁.heap = h0 := by rw [← hh, Bd.state]; rfl
  have N0 := Fr.nil n0
  refine Gl.start (Q := Q_rmMI1 Z a1 x  h0 n0) (ef_rmMI1 m a1) ?_
  show Gl p e below s _ _ _ s₁ (mkF m 0 #[.val (.ref a1)] [])
  refine Gl.st (fun _ kk => XS.aloadN X0.here hx rfl (hb hby d13_0) rfl rfl kk) ?_
  show Gl p e below s _ _ _ s₁ (mkF m 1 #[.val (.ref a1)] [(.ref a1)])
  obtain ⟨T1, X1, e1, st1⟩ := getF X0 hx hZ hown (host := "") (Or.inl (hw _ (List.mem_of_getElem? (i := 92) rfl))) Via.refl e0 F_invalid_a1 (g := (mkF m 1 #[.val (.ref a1)] [(.ref a1)])) rfl rfl (hb hby d13_1)
  refine Gl.st st1 ?_
  show Gl p e below s _ _ _ T1 (mkF m 4 #[.val (.ref a1)] [(.ref x)])
  refine Gl.st (fun _ kk => XS.ifnullNo X1.here hx rfl (hb hby d13_4) rfl kk) ?_
  show Gl p e below s _ _ _ T1 (mkF m 7 #[.val (.ref a1)] [])
  refine Gl.st (fun _ kk => XS.aloadN X1.here hx rfl (hb hby d13_7) rfl rfl kk) ?_
  show Gl p e below s _ _ _ T1 (mkF m 8 #[.val (.ref a1)] [(.ref a1)])
  obtain ⟨T2, X2, e2, st2⟩ := getF X1 hx hZ hown (host := "") (Or.inl (hw _ (List.mem_of_getElem? (i := 92) rfl))) Via.refl e1 F_invalid_a1 (g := (mkF m 8 #[.val (.ref a1)] [(.ref a1)])) rfl rfl (hb hby d13_8)
  refine Gl.st st2 ?_
  show Gl p e below s _ _ _ T2 (mkF m 11 #[.val (.ref a1)] [(.ref x)])
  obtain ⟨cq3, kq3, qa3, qb3, qc3⟩ := isOf hZ e2 Exa_x
  obtain ⟨v3, _, ⟨T3, L3, kQ3, nQ3⟩, -, X3, ⟨Lc3, hQ3, l3, y3, z3⟩, st3⟩ := X2.virtualBackUp hx (x := (⟨"com/example/explain_locks/explainlocks/InvalidInputException", "getMessage", "()Ljava/lang/String;"⟩ : MethodName)) (y := (⟨"java/lang/Throwable", "getMessage", "()Ljava/lang/String;"⟩ : MethodName)) hown (mvT hZ (hw _ (List.mem_of_getElem? (i := 135) rfl))) (mvT hZ (hw _ (List.mem_of_getElem? (i := 136) rfl))) (mvT hZ (hw _ (List.mem_of_getElem? (i := 103) rfl))) (by decide) (mvT hZ (hw _ (List.mem_of_getElem? (i := 137) rfl))) (mvT hZ (hw _ (List.mem_of_getElem? (i := 104) rfl))) (backOf (W := 0) (rmGM1 l Z a0 hw [] x  h0 n0 O0 F_detailMessage_x) hZ (hw _ (List.mem_of_getElem? (i := 106) rfl)) (hw _ (List.mem_of_getElem? (i := 49) rfl)) (by decide) (by decide)) qa3 qc3 (g := (mkF m 11 #[.val (.ref a1)] [(.ref x)])) rfl (by rw [hml]; rfl) (Steps.refl _) (argsL := []) (rest := []) (lenOf pd_rmMI1_0 rfl) rfl (by show 2 * 0 + _ ≤ _; exact Nat.le_of_eq rfl) (hb hby d13_11) (fun _ _ => ⟨rfl, e2, (by decide : 0 + 0 ≤ _), (by decide : 0 + 0 ≤ _)⟩)
  dsimp only [Pt.U, Pt.locs, Pt.cells, Pt.slots] at X3 l3 y3 z3 st3 hQ3
  subst y3 z3
  obtain ⟨rfl, Nq3, e3⟩ := hQ3
  have N3 : Fr n0 L3 := l3 ▸ Fr.app N0 Nq3
  refine Gl.st (fun _ kk => st3.trans kk) ?_
  clear st3 qc3 qb3 qa3 kq3 cq3
  clear X2 e2
  show Gl p e below s _ _ _ T3 (mkF m 14 #[.val (.ref a1)] [.null])
  refine Gl.st (fun _ kk => XS.goto X3.here hx rfl (pc0 := 14) (pc' := 24) rfl (hb hby d13_14) (by decide) (by decide) kk) ?_
  show Gl p e below s _ _ _ T3 (mkF m 24 #[.val (.ref a1)] [.null])
  exact Gl.ret X3 (v := (some .null)) (fun h => by rw [Bd.returns] at h; cases h) (BodyLoose.notSynchronized Bd) (fun hr => retOut X3 hx Bd.returns rfl (Or.inr (Or.inr (Or.inr (Or.inr ⟨rfl, rfl, rfl⟩)))) (hb hby d13_24) hr) e3 ⟨rfl, N3, rfl⟩ (by decide) (by decide)
theorem pd_rmMU1_0 : parseMethodDescriptor "()Ljava/lang/String;" = some ⟨[], some (.object "java/lang/String")⟩ := by decide +kernel
theorem pn_rmMU1 : plainName "com/example/explain_locks/explainlocks/schema/RowFault" = true := by first | (simp [plainName, overriddenIn]; done) | decide +kernel
theorem ef_rmMU1 (m : MethodId) (a1 : Addr) : entryFrame m #[(.ref a1)] 1 = mkF m 0 #[.val (.ref a1)] [] := by first | (simp [entryFrame, mkF, argsToLocals, Value.category]; done) | rfl
def Q_rmMU1 (Z : State) (a1 : Addr) (x : Addr)  (h0 : Heap) (n0 : Nat) (v : Option Value) (h : Heap) (L : List Loc) : Prop := v = some .null ∧ Fr n0 L ∧ h = h0
set_option maxRecDepth 65536 in
set_option maxHeartbeats 40000000 in
theorem rmMU1 (l : Launch) (Z : State) (a0 : Array Value) (hw : ∀ d ∈ tables_1, d.before a0 Z = true) (ws : List Jvm.Cond) (a1 : Addr) (x : Addr)  (h0 : Heap) (n0 : Nat) (O0 : Old Z n0 h0) (F_invalid_a1 : Fld Z h0 a1 "com/example/explain_locks/explainlocks/schema/RowFault" "invalid" "Lcom/example/explain_locks/explainlocks/InvalidInputException;" .null) (F_unsupported_a1 : Fld Z h0 a1 "com/example/explain_locks/explainlocks/schema/RowFault" "unsupported" "Lcom/example/explain_locks/explainlocks/UnsupportedInputException;" (.ref x)) (Exa_x : Exa Z h0 x "com/example/explain_locks/explainlocks/UnsupportedInputException") (F_detailMessage_x : Fld Z h0 x "java/lang/Throwable" "detailMessage" "Ljava/lang/String;" .null) :
    MetFree l (⟨"com/example/explain_locks/explainlocks/schema/RowFault", "message", "()Ljava/lang/String;"⟩ : MethodName) (head1 (Jvm.Cond.code (⟨"com/example/explain_locks/explainlocks/schema/RowFault", "message", "()Ljava/lang/String;"⟩ : MethodName) prog_19_method_3_code 1 (some (.object "java/lang/String")) :: ws) ({ frames := 1, cells := 0, slots := 0, locals := 12 } : Room)) (fun a U => a = #[(.ref a1)] ∧ Z.Warmed39 U.vm ∧ U.heap = h0) (fun _ _ _ _ _ => True) (fun _ U o U' => ∃ v L, o = .returned v ∧ Q_rmMU1 Z a1 x  h0 n0 v U'.heap L ∧ FrameEnd U o U' L ({ frames := 1, cells := 0, slots := 0, locals := 12 } : Room).cells ({ frames := 1, cells := 0, slots := 0, locals := 12 } : Room).slots) := by
  refine MetFree.of_bodySF (plainFor_of_name pn_rmMU1) hisR ?_
  intro p e s m args below meth c s₁ Bd hml0 hP hK
  obtain ⟨rfl, hZ, hh⟩ := hP
  have hx := Bd.exec
  have hby := Bd.bytes
  have hml : c.maxLocals = 1 := hml0
  have hown : s.vm.findClass "com/example/explain_locks/explainlocks/schema/RowFault" = some m.cls := findClass_of_methodNamed Bd.named
  have hnm := (name_of_methodNamed Bd.named Bd.method).1
  have X0 : Stand p l e ({ frames := 1, cells := 0, slots := 0, locals := 12 } : Room) s m #[(.ref a1)] below meth c s₁ [] 0 0 := Stand.of_body Bd
  have e0 : s₁.heap = h0 := by rw [← hh, Bd.state]; rfl
  have N0 := Fr.nil n0
  refine Gl.start (Q := Q_rmMU1 Z a1 x  h0 n0) (ef_rmMU1 m a1) ?_
  show Gl p e below s _ _ _ s₁ (mkF m 0 #[.val (.ref a1)] [])
  refine Gl.st (fun _ kk => XS.aloadN X0.here hx rfl (hb hby d13_0) rfl rfl kk) ?_
  show Gl p e below s _ _ _ s₁ (mkF m 1 #[.val (.ref a1)] [(.ref a1)])
  obtain ⟨T1, X1, e1, st1⟩ := getF X0 hx hZ hown (host := "") (Or.inl (hw _ (List.mem_of_getElem? (i := 92) rfl))) Via.refl e0 F_invalid_a1 (g := (mkF m 1 #[.val (.ref a1)] [(.ref a1)])) rfl rfl (hb hby d13_1)
  refine Gl.st st1 ?_
  show Gl p e below s _ _ _ T1 (mkF m 4 #[.val (.ref a1)] [.null])
  refine Gl.st (fun _ kk => XS.ifnullYes X1.here hx rfl (pc0 := 4) (pc' := 17) rfl (hb hby d13_4) rfl (by decide) (by decide) kk) ?_
  show Gl p e below s _ _ _ T1 (mkF m 17 #[.val (.ref a1)] [])
  refine Gl.st (fun _ kk => XS.aloadN X1.here hx rfl (hb hby d13_17) rfl rfl kk) ?_
  show Gl p e below s _ _ _ T1 (mkF m 18 #[.val (.ref a1)] [(.ref a1)])
  obtain ⟨T2, X2, e2, st2⟩ := getF X1 hx hZ hown (host := "") (Or.inl (hw _ (List.mem_of_getElem? (i := 94) rfl))) Via.refl e1 F_unsupported_a1 (g := (mkF m 18 #[.val (.ref a1)] [(.ref a1)])) rfl rfl (hb hby d13_18)
  refine Gl.st st2 ?_
  show Gl p e below s _ _ _ T2 (mkF m 21 #[.val (.ref a1)] [(.ref x)])
  obtain ⟨cq3, kq3, qa3, qb3, qc3⟩ := isOf hZ e2 Exa_x
  obtain ⟨v3, _, ⟨T3, L3, kQ3, nQ3⟩, -, X3, ⟨Lc3, hQ3, l3, y3, z3⟩, st3⟩ := X2.virtualBackUp hx (x := (⟨"com/example/explain_locks/explainlocks/UnsupportedInputException", "getMessage", "()Ljava/lang/String;"⟩ : MethodName)) (y := (⟨"java/lang/Throwable", "getMessage", "()Ljava/lang/String;"⟩ : MethodName)) hown (mvT hZ (hw _ (List.mem_of_getElem? (i := 101) rfl))) (mvT hZ (hw _ (List.mem_of_getElem? (i := 102) rfl))) (mvT hZ (hw _ (List.mem_of_getElem? (i := 103) rfl))) (by decide) (mvT hZ (hw _ (List.mem_of_getElem? (i := 105) rfl))) (mvT hZ (hw _ (List.mem_of_getElem? (i := 104) rfl))) (backOf (W := 0) (rmGM1 l Z a0 hw [] x  h0 n0 O0 F_detailMessage_x) hZ (hw _ (List.mem_of_getElem? (i := 106) rfl)) (hw _ (List.mem_of_getElem? (i := 49) rfl)) (by decide) (by decide)) qa3 qc3 (g := (mkF m 21 #[.val (.ref a1)] [(.ref x)])) rfl (by rw [hml]; rfl) (Steps.refl _) (argsL := []) (rest := []) (lenOf pd_rmMU1_0 rfl) rfl (by show 2 * 0 + _ ≤ _; exact Nat.le_of_eq rfl) (hb hby d13_21) (fun _ _ => ⟨rfl, e2, (by decide : 0 + 0 ≤ _), (by decide : 0 + 0 ≤ _)⟩)
  dsimp only [Pt.U, Pt.locs, Pt.cells, Pt.slots] at X3 l3 y3 z3 st3 hQ3
  subst y3 z3
  obtain ⟨rfl, Nq3, e3⟩ := hQ3
  have N3 : Fr n0 L3 := l3 ▸ Fr.app N0 Nq3
  refine Gl.st (fun _ kk => st3.trans kk) ?_
  clear st3 qc3 qb3 qa3 kq3 cq3
  clear X2 e2
  show Gl p e below s _ _ _ T3 (mkF m 24 #[.val (.ref a1)] [.null])
  exact Gl.ret X3 (v := (some .null)) (fun h => by rw [Bd.returns] at h; cases h) (BodyLoose.notSynchronized Bd) (fun hr => retOut X3 hx Bd.returns rfl (Or.inr (Or.inr (Or.inr (Or.inr ⟨rfl, rfl, rfl⟩)))) (hb hby d13_24) hr) e3 ⟨rfl, N3, rfl⟩ (by decide) (by decide)
theorem d9_0 : decode jdk_78_method_2_code 0 = .ok (.aload_n 0, 1) := by decide +kernel
theorem d9_1 : decode jdk_78_method_2_code 1 = .ok (.invokespecial 1, 3) := by decide +kernel
theorem d9_4 : decode jdk_78_method_2_code 4 = .ok (.aload_n 0, 1) := by decide +kernel
theorem d9_5 : decode jdk_78_method_2_code 5 = .ok (.aload_n 0, 1) := by decide +kernel
theorem d9_6 : decode jdk_78_method_2_code 6 = .ok (.putfield 7, 3) := by decide +kernel
theorem d9_9 : decode jdk_78_method_2_code 9 = .ok (.aload_n 0, 1) := by decide +kernel
theorem d9_10 : decode jdk_78_method_2_code 10 = .ok (.getstatic 13, 3) := by decide +kernel
theorem d9_13 : decode jdk_78_method_2_code 13 = .ok (.putfield 17, 3) := by decide +kernel
theorem d9_16 : decode jdk_78_method_2_code 16 = .ok (.aload_n 0, 1) := by decide +kernel
theorem d9_17 : decode jdk_78_method_2_code 17 = .ok (.getstatic 20, 3) := by decide +kernel
theorem d9_20 : decode jdk_78_method_2_code 20 = .ok (.putfield 24, 3) := by decide +kernel
theorem d9_23 : decode jdk_78_method_2_code 23 = .ok (.aload_n 0, 1) := by decide +kernel
theorem d9_24 : decode jdk_78_method_2_code 24 = .ok (.invokevirtual 27, 3) := by decide +kernel
theorem d9_27 : decode jdk_78_method_2_code 27 = .ok (.pop, 1) := by decide +kernel
theorem d9_28 : decode jdk_78_method_2_code 28 = .ok (.aload_n 0, 1) := by decide +kernel
theorem d9_29 : decode jdk_78_method_2_code 29 = .ok (.aload_n 1, 1) := by decide +kernel
theorem d9_30 : decode jdk_78_method_2_code 30 = .ok (.putfield 31, 3) := by decide +kernel
theorem d9_33 : decode jdk_78_method_2_code 33 = .ok (.return_, 1) := by decide +kernel
theorem pd_rmTI_0 : parseMethodDescriptor "()Ljava/lang/Throwable;" = some ⟨[], some (.object "java/lang/Throwable")⟩ := by decide +kernel
theorem pn_rmTI : plainName "java/lang/Throwable" = true := by first | (simp [plainName, overriddenIn]; done) | decide +kernel
theorem ef_rmTI (m : MethodId) (a1 : Addr) (mg : Value) (hmg : mg.isRef = true) : entryFrame m #[(.ref a1), mg] 2 = mkF m 0 #[.val (.ref a1), .val mg] [] := by
  all_goals cases mg
  all_goals first | (simp [entryFrame, mkF, argsToLocals, Value.category]; done) | rfl | contradiction | (simp [Value.isRef] at *; done)
def Q_rmTI (Z : State) (a1 : Addr) (mg : Value) (u0 us : RefV) (h0 : Heap) (n0 : Nat) (v : Option Value) (h : Heap) (L : List Loc) : Prop := v = none ∧ Fr n0 L ∧ Keep h0 h [a1] ∧ Fld Z h a1 "java/lang/Throwable" "detailMessage" "Ljava/lang/String;" mg
set_option maxRecDepth 65536 in
set_option maxHeartbeats 40000000 in
theorem rmTI (l : Launch) (Z : State) (a0 : Array Value) (hw : ∀ d ∈ tables_1, d.before a0 Z = true) (ws : List Jvm.Cond) (a1 : Addr) (mg : Value) (u0 us : RefV) (h0 : Heap) (n0 : Nat) (O0 : Old Z n0 h0) (Exa_a1 : Exa Z h0 a1 "com/example/explain_locks/explainlocks/InvalidInputException") (Un0 : Unt h0 a1) (F_cause_a1 : Fld Z h0 a1 "java/lang/Throwable" "cause" "Ljava/lang/Throwable;" .null) (F_stackTrace_a1 : Fld Z h0 a1 "java/lang/Throwable" "stackTrace" "[Ljava/lang/StackTraceElement;" .null) (F_suppressedExceptions_a1 : Fld Z h0 a1 "java/lang/Throwable" "suppressedExceptions" "Ljava/util/List;" .null) (F_backtrace_a1 : Fld Z h0 a1 "java/lang/Throwable" "backtrace" "Ljava/lang/Object;" .null) (F_detailMessage_a1 : Fld Z h0 a1 "java/lang/Throwable" "detailMessage" "Ljava/lang/String;" .null) (g1 : n0 ≤ a1) (S_U : Sta Z Z.heap "java/lang/Throwable" "UNASSIGNED_STACK" "[Ljava/lang/StackTraceElement;" u0.v) (S_S : Sta Z Z.heap "java/lang/Throwable" "SUPPRESSED_SENTINEL" "Ljava/util/List;" us.v) (hl : l.stackTraces = true) (hmg : mg.isRef = true) :
    MetFree l (⟨"java/lang/Throwable", "<init>", "(Ljava/lang/String;)V"⟩ : MethodName) (head1 (Jvm.Cond.code (⟨"java/lang/Throwable", "<init>", "(Ljava/lang/String;)V"⟩ : MethodName) jdk_78_method_2_code 2 none :: ws) ({ frames := 3, cells := 1, slots := 2752, locals := 42 } : Room)) (fun a U => a = #[(.ref a1), mg] ∧ Z.Warmed39 U.vm ∧ U.heap = h0) (fun _ _ bl s _ => s.vm.MethodsKnown ∧ s.vm.FramesKnown bl) (fun _ U o U' => ∃ v L, o = .returned v ∧ Q_rmTI Z a1 mg u0 us h0 n0 v U'.heap L ∧ FrameEnd U o U' L ({ frames := 3, cells := 1, slots := 2752, locals := 42 } : Room).cells ({ frames := 3, cells := 1, slots := 2752, locals := 42 } : Room).slots) := by
  refine MetFree.of_bodySF (plainFor_of_name pn_rmTI) hisR ?_
  intro p e s m args below meth c s₁ Bd hml0 hP hK
  obtain ⟨rfl, hZ, hh⟩ := hP
  have hx := Bd.exec
  have hby := Bd.bytes
  have hml : c.maxLocals = 2 := hml0
  have hown : s.vm.findClass "java/lang/Throwable" = some m.cls := findClass_of_methodNamed Bd.named
  have hnm := (name_of_methodNamed Bd.named Bd.method).1
  have X0 : Stand p l e ({ frames := 3, cells := 1, slots := 2752, locals := 42 } : Room) s m #[(.ref a1), mg] below meth c s₁ [] 0 0 := Stand.of_body Bd
  have e0 : s₁.heap = h0 := by rw [← hh, Bd.state]; rfl
  have N0 := Fr.nil n0
  refine Gl.start (Q := Q_rmTI Z a1 mg u0 us h0 n0) (ef_rmTI m a1 mg hmg) ?_
  have hO0 : Old Z n0 s.heap := hh ▸ O0
  show Gl p e below s _ _ _ s₁ (mkF m 0 #[.val (.ref a1), .val mg] [])
  refine Gl.st (fun _ kk => XS.aloadN X0.here hx rfl (hb hby d9_0) rfl rfl kk) ?_
  show Gl p e below s _ _ _ s₁ (mkF m 1 #[.val (.ref a1), .val mg] [(.ref a1)])
  obtain ⟨T1, X1, e1, st1⟩ := initO X0 hx hZ hown (hw _ (List.mem_of_getElem? (i := 51) rfl)) (hw _ (List.mem_of_getElem? (i := 13) rfl)) (hw _ (List.mem_of_getElem? (i := 14) rfl)) e0 (g := (mkF m 1 #[.val (.ref a1), .val mg] [(.ref a1)])) rfl (by rw [hml]; rfl) rfl (hb hby d9_1) (by decide) (W := 0) (by show 2 * 0 + _ ≤ _; exact Nat.le_of_eq rfl) (by decide)
  refine Gl.st st1 ?_
  show Gl p e below s _ _ _ T1 (mkF m 4 #[.val (.ref a1), .val mg] [])
  refine Gl.st (fun _ kk => XS.aloadN X1.here hx rfl (hb hby d9_4) rfl rfl kk) ?_
  show Gl p e below s _ _ _ T1 (mkF m 5 #[.val (.ref a1), .val mg] [(.ref a1)])
  refine Gl.st (fun _ kk => XS.aloadN X1.here hx rfl (hb hby d9_5) rfl rfl kk) ?_
  show Gl p e below s _ _ _ T1 (mkF m 6 #[.val (.ref a1), .val mg] [(.ref a1), (.ref a1)])
  obtain ⟨T2, h2, X2, e2, W2, st2⟩ := putF X1 hx hZ hown (host := "") (Or.inl (hw _ (List.mem_of_getElem? (i := 52) rfl))) Via.refl e1 F_cause_a1 Exa_a1 (Or.inl (hw _ (List.mem_of_getElem? (i := 123) rfl))) (hw _ (List.mem_of_getElem? (i := 116) rfl)) (ty := (.object "java/lang/Throwable")) (by decide) rfl rfl (g := (mkF m 6 #[.val (.ref a1), .val mg] [(.ref a1), (.ref a1)])) rfl rfl (hb hby d9_6)
  refine Gl.st st2 ?_
  have F_cause_a1 := F_cause_a1.same W2
  replace Exa_a1 := Exa_a1.wr W2
  replace F_stackTrace_a1 := F_stackTrace_a1.other W2 (Or.inr (slot_ne (Or.inl (hw _ (List.mem_of_getElem? (i := 124) rfl))) (Or.inl (hw _ (List.mem_of_getElem? (i := 123) rfl))) (by decide) (t := (.array (.object "java/lang/StackTraceElement"))) (t' := (.object "java/lang/Throwable")) (by decide) (by decide)))
  replace F_suppressedExceptions_a1 := F_suppressedExceptions_a1.other W2 (Or.inr (slot_ne (Or.inl (hw _ (List.mem_of_getElem? (i := 125) rfl))) (Or.inl (hw _ (List.mem_of_getElem? (i := 123) rfl))) (by decide) (t := (.object "java/util/List")) (t' := (.object "java/lang/Throwable")) (by decide) (by decide)))
  replace F_backtrace_a1 := F_backtrace_a1.other W2 (Or.inr (slot_ne (Or.inl (hw _ (List.mem_of_getElem? (i := 129) rfl))) (Or.inl (hw _ (List.mem_of_getElem? (i := 123) rfl))) (by decide) (t := (.object "java/lang/Object")) (t' := (.object "java/lang/Throwable")) (by decide) (by decide)))
  replace F_detailMessage_a1 := F_detailMessage_a1.other W2 (Or.inr (slot_ne (Or.inl (hw _ (List.mem_of_getElem? (i := 128) rfl))) (Or.inl (hw _ (List.mem_of_getElem? (i := 123) rfl))) (by decide) (t := (.object "java/lang/String")) (t' := (.object "java/lang/Throwable")) (by decide) (by decide)))
  have O2 := O0.wr W2 g1
  have K2 := (Keep.refl h0 [a1]).wr W2 (Or.inl (List.mem_of_getElem? (i := 0) rfl))
  have N2 := Fr.snoc X2 N0 g1
  show Gl p e below s _ _ _ T2 (mkF m 9 #[.val (.ref a1), .val mg] [])
  refine Gl.st (fun _ kk => XS.aloadN X2.here hx rfl (hb hby d9_9) rfl rfl kk) ?_
  show Gl p e below s _ _ _ T2 (mkF m 10 #[.val (.ref a1), .val mg] [(.ref a1)])
  obtain ⟨T3, X3, e3, st3⟩ := getS2 X2 hx hZ hown (host := "") (Or.inl (hw _ (List.mem_of_getElem? (i := 54) rfl))) Via.refl e2 (S_U.ext O2.2) (g := (mkF m 10 #[.val (.ref a1), .val mg] [(.ref a1)])) rfl (hb hby d9_10)
  refine Gl.st st3 ?_
  show Gl p e below s _ _ _ T3 (mkF m 13 #[.val (.ref a1), .val mg] [u0.v, (.ref a1)])
  obtain ⟨T4, h4, X4, e4, W4, st4⟩ := putF X3 hx hZ hown (host := "") (Or.inl (hw _ (List.mem_of_getElem? (i := 55) rfl))) Via.refl e3 F_stackTrace_a1 Exa_a1 (Or.inl (hw _ (List.mem_of_getElem? (i := 124) rfl))) (hw _ (List.mem_of_getElem? (i := 116) rfl)) (ty := (.array (.object "java/lang/StackTraceElement"))) (by decide) (narrow_refV _ u0) (fits_refV_array _ u0) (g := (mkF m 13 #[.val (.ref a1), .val mg] [u0.v, (.ref a1)])) rfl rfl (hb hby d9_13)
  refine Gl.st st4 ?_
  have F_stackTrace_a1 := F_stackTrace_a1.same W4
  replace Exa_a1 := Exa_a1.wr W4
  replace F_cause_a1 := F_cause_a1.other W4 (Or.inr (slot_ne (Or.inl (hw _ (List.mem_of_getElem? (i := 123) rfl))) (Or.inl (hw _ (List.mem_of_getElem? (i := 124) rfl))) (by decide) (t := (.object "java/lang/Throwable")) (t' := (.array (.object "java/lang/StackTraceElement"))) (by decide) (by decide)))
  replace F_suppressedExceptions_a1 := F_suppressedExceptions_a1.other W4 (Or.inr (slot_ne (Or.inl (hw _ (List.mem_of_getElem? (i := 125) rfl))) (Or.inl (hw _ (List.mem_of_getElem? (i := 124) rfl))) (by decide) (t := (.object "java/util/List")) (t' := (.array (.object "java/lang/StackTraceElement"))) (by decide) (by decide)))
  replace F_backtrace_a1 := F_backtrace_a1.other W4 (Or.inr (slot_ne (Or.inl (hw _ (List.mem_of_getElem? (i := 129) rfl))) (Or.inl (hw _ (List.mem_of_getElem? (i := 124) rfl))) (by decide) (t := (.object "java/lang/Object")) (t' := (.array (.object "java/lang/StackTraceElement"))) (by decide) (by decide)))
  replace F_detailMessage_a1 := F_detailMessage_a1.other W4 (Or.inr (slot_ne (Or.inl (hw _ (List.mem_of_getElem? (i := 128) rfl))) (Or.inl (hw _ (List.mem_of_getElem? (i := 124) rfl))) (by decide) (t := (.object "java/lang/String")) (t' := (.array (.object "java/lang/StackTraceElement"))) (by decide) (by decide)))
  have O4 := O2.wr W4 g1
  have K4 := K2.wr W4 (Or.inl (List.mem_of_getElem? (i := 0) rfl))
  have N4 := Fr.snoc X4 N2 g1
  show Gl p e below s _ _ _ T4 (mkF m 16 #[.val (.ref a1), .val mg] [])
  refine Gl.st (fun _ kk => XS.aloadN X4.here hx rfl (hb hby d9_16) rfl rfl kk) ?_
  show Gl p e below s _ _ _ T4 (mkF m 17 #[.val (.ref a1), .val mg] [(.ref a1)])
  obtain ⟨T5, X5, e5, st5⟩ := getS2 X4 hx hZ hown (host := "") (Or.inl (hw _ (List.mem_of_getElem? (i := 57) rfl))) Via.refl e4 (S_S.ext O4.2) (g := (mkF m 17 #[.val (.ref a1), .val mg] [(.ref a1)])) rfl (hb hby d9_17)
  refine Gl.st st5 ?_
  show Gl p e below s _ _ _ T5 (mkF m 20 #[.val (.ref a1), .val mg] [us.v, (.ref a1)])
  obtain ⟨T6, h6, X6, e6, W6, st6⟩ := putF X5 hx hZ hown (host := "") (Or.inl (hw _ (List.mem_of_getElem? (i := 58) rfl))) Via.refl e5 F_suppressedExceptions_a1 Exa_a1 (Or.inl (hw _ (List.mem_of_getElem? (i := 125) rfl))) (hw _ (List.mem_of_getElem? (i := 116) rfl)) (ty := (.object "java/util/List")) (by decide) (narrow_refV _ us) (fits_refV_object _ us) (g := (mkF m 20 #[.val (.ref a1), .val mg] [us.v, (.ref a1)])) rfl rfl (hb hby d9_20)
  refine Gl.st st6 ?_
  have F_suppressedExceptions_a1 := F_suppressedExceptions_a1.same W6
  replace Exa_a1 := Exa_a1.wr W6
  replace F_cause_a1 := F_cause_a1.other W6 (Or.inr (slot_ne (Or.inl (hw _ (List.mem_of_getElem? (i := 123) rfl))) (Or.inl (hw _ (List.mem_of_getElem? (i := 125) rfl))) (by decide) (t := (.object "java/lang/Throwable")) (t' := (.object "java/util/List")) (by decide) (by decide)))
  replace F_stackTrace_a1 := F_stackTrace_a1.other W6 (Or.inr (slot_ne (Or.inl (hw _ (List.mem_of_getElem? (i := 124) rfl))) (Or.inl (hw _ (List.mem_of_getElem? (i := 125) rfl))) (by decide) (t := (.array (.object "java/lang/StackTraceElement"))) (t' := (.object "java/util/List")) (by decide) (by decide)))
  replace F_backtrace_a1 := F_backtrace_a1.other W6 (Or.inr (slot_ne (Or.inl (hw _ (List.mem_of_getElem? (i := 129) rfl))) (Or.inl (hw _ (List.mem_of_getElem? (i := 125) rfl))) (by decide) (t := (.object "java/lang/Object")) (t' := (.object "java/util/List")) (by decide) (by decide)))
  replace F_detailMessage_a1 := F_detailMessage_a1.other W6 (Or.inr (slot_ne (Or.inl (hw _ (List.mem_of_getElem? (i := 128) rfl))) (Or.inl (hw _ (List.mem_of_getElem? (i := 125) rfl))) (by decide) (t := (.object "java/lang/String")) (t' := (.object "java/util/List")) (by decide) (by decide)))
  have O6 := O4.wr W6 g1
  have K6 := K4.wr W6 (Or.inl (List.mem_of_getElem? (i := 0) rfl))
  have N6 := Fr.snoc X6 N4 g1
  show Gl p e below s _ _ _ T6 (mkF m 23 #[.val (.ref a1), .val mg] [])
  refine Gl.st (fun _ kk => XS.aloadN X6.here hx rfl (hb hby d9_23) rfl rfl kk) ?_
  show Gl p e below s _ _ _ T6 (mkF m 24 #[.val (.ref a1), .val mg] [(.ref a1)])
  obtain ⟨cq7, kq7, qa7, qb7, qc7⟩ := isOf hZ e6 Exa_a1
  obtain ⟨v7, _, ⟨T7, L7, kQ7, nQ7⟩, -, X7, ⟨Lc7, hQ7, l7, y7, z7⟩, st7⟩ := X6.virtualBack hx (y := (⟨"java/lang/Throwable", "fillInStackTrace", "()Ljava/lang/Throwable;"⟩ : MethodName)) (z := (⟨"java/lang/Throwable", "fillInStackTrace", "()Ljava/lang/Throwable;"⟩ : MethodName)) hown (mvT hZ (hw _ (List.mem_of_getElem? (i := 60) rfl))) (mvT hZ (hw _ (List.mem_of_getElem? (i := 61) rfl))) (notFace_of_selects (args := #[]) (mvT hZ (hw _ (List.mem_of_getElem? (i := 126) rfl)))) (mvT hZ (hw _ (List.mem_of_getElem? (i := 126) rfl))) (mvT hZ (hw _ (List.mem_of_getElem? (i := 62) rfl))) (by decide) (own_fillBack (W := 0) hx hl hZ (own_thrI hw) hK.1 hK.2 hO0 Exa_a1 (own_unt W6 (own_unt W4 (own_unt W2 Un0))) F_stackTrace_a1 F_backtrace_a1 (S_U.ext O6.2) g1 (by decide) (by decide)) qa7 qc7 (g := (mkF m 24 #[.val (.ref a1), .val mg] [(.ref a1)])) rfl (by rw [hml]; rfl) (Steps.refl _) (argsL := []) (rest := []) (lenOf pd_rmTI_0 rfl) rfl (by show 2 * 0 + _ ≤ _; exact Nat.le_of_eq rfl) (hb hby d9_24) (fun _ _ => ⟨rfl, e6, (by decide : 0 + 1 ≤ _), (by decide : 0 + 2752 ≤ _), own_b3 X6, rfl⟩)
  dsimp only [Pt.U, Pt.locs, Pt.cells, Pt.slots] at X7 l7 y7 z7 st7 hQ7
  subst y7 z7
  obtain ⟨h7, e7⟩ : ∃ z, T7.heap = z := ⟨_, rfl⟩
  rw [e7] at hQ7
  obtain ⟨rfl, Nq7, Kq7⟩ := hQ7
  have N7 : Fr n0 L7 := l7 ▸ Fr.app N6 Nq7
  refine Gl.st (fun _ kk => st7.trans kk) ?_
  replace Exa_a1 := Exa_a1.keep Kq7
  have O7 := O6.keep Kq7 (allS g1 all0)
  have K7 := K6.trans Kq7 (allS (Or.inl (List.mem_of_getElem? (i := 0) rfl)) all0)
  obtain ⟨od7, F_detailMessage_a1⟩ := fld_laid (O := "java/lang/Throwable") (n := "detailMessage") (d := "Ljava/lang/String;") Exa_a1 (own_unk Kq7 (own_unt W6 (own_unt W4 (own_unt W2 Un0)))) (hw _ (List.mem_of_getElem? (i := 116) rfl)) (Or.inl (hw _ (List.mem_of_getElem? (i := 128) rfl)))
  clear st7 qc7 qb7 qa7 kq7 cq7
  clear O6 K6 N6 X6 e6
  show Gl p e below s _ _ _ T7 (mkF m 27 #[.val (.ref a1), .val mg] [(.ref a1)])
  refine Gl.st (fun _ kk => XS.pop X7.here hx rfl (hb hby d9_27) rfl rfl kk) ?_
  show Gl p e below s _ _ _ T7 (mkF m 28 #[.val (.ref a1), .val mg] [])
  refine Gl.st (fun _ kk => XS.aloadN X7.here hx rfl (hb hby d9_28) rfl rfl kk) ?_
  show Gl p e below s _ _ _ T7 (mkF m 29 #[.val (.ref a1), .val mg] [(.ref a1)])
  refine Gl.st (fun _ kk => XS.aloadN X7.here hx rfl (hb hby d9_29) rfl hmg kk) ?_
  show Gl p e below s _ _ _ T7 (mkF m 30 #[.val (.ref a1), .val mg] [mg, (.ref a1)])
  obtain ⟨T8, h8, X8, e8, W8, st8⟩ := putF X7 hx hZ hown (host := "") (Or.inl (hw _ (List.mem_of_getElem? (i := 87) rfl))) Via.refl e7 F_detailMessage_a1 Exa_a1 (Or.inl (hw _ (List.mem_of_getElem? (i := 128) rfl))) (hw _ (List.mem_of_getElem? (i := 116) rfl)) (ty := (.object "java/lang/String")) (by decide) (narrow_isRef _ hmg) (fits_refV_object _ ⟨mg, hmg⟩) (g := (mkF m 30 #[.val (.ref a1), .val mg] [mg, (.ref a1)])) rfl rfl (hb hby d9_30)
  refine Gl.st st8 ?_
  have F_detailMessage_a1 := F_detailMessage_a1.same W8
  replace Exa_a1 := Exa_a1.wr W8
  have O8 := O7.wr W8 g1
  have K8 := K7.wr W8 (Or.inl (List.mem_of_getElem? (i := 0) rfl))
  have N8 := Fr.snoc X8 N7 g1
  show Gl p e below s _ _ _ T8 (mkF m 33 #[.val (.ref a1), .val mg] [])
  exact Gl.ret X8 (v := none) (fun _ => rfl) (BodyLoose.notSynchronized Bd) (fun hr => X8.returnOut hx Bd.returns (hb hby d9_33) hr) e8 ⟨rfl, N8, K8, F_detailMessage_a1⟩ (by decide) (by decide)
theorem d8_0 : decode jdk_59_method_2_code 0 = .ok (.aload_n 0, 1) := by decide +kernel
theorem d8_1 : decode jdk_59_method_2_code 1 = .ok (.aload_n 1, 1) := by decide +kernel
theorem d8_2 : decode jdk_59_method_2_code 2 = .ok (.invokespecial 7, 3) := by decide +kernel
theorem d8_5 : decode jdk_59_method_2_code 5 = .ok (.return_, 1) := by decide +kernel
theorem pd_rmEI_0 : parseMethodDescriptor "(Ljava/lang/String;)V" = some ⟨[(.object "java/lang/String")], none⟩ := by decide +kernel
theorem pn_rmEI : plainName "java/lang/Exception" = true := by first | (simp [plainName, overriddenIn]; done) | decide +kernel
theorem ef_rmEI (m : MethodId) (a1 : Addr) (mg : Value) (hmg : mg.isRef = true) : entryFrame m #[(.ref a1), mg] 2 = mkF m 0 #[.val (.ref a1), .val mg] [] := by
  all_goals cases mg
  all_goals first | (simp [entryFrame, mkF, argsToLocals, Value.category]; done) | rfl | contradiction | (simp [Value.isRef] at *; done)
def Q_rmEI (Z : State) (a1 : Addr) (mg : Value) (u0 us : RefV) (h0 : Heap) (n0 : Nat) (v : Option Value) (h : Heap) (L : List Loc) : Prop := v = none ∧ Fr n0 L ∧ Keep h0 h [a1] ∧ Fld Z h a1 "java/lang/Throwable" "detailMessage" "Ljava/lang/String;" mg
set_option maxRecDepth 65536 in
set_option maxHeartbeats 40000000 in
theorem rmEI (l : Launch) (Z : State) (a0 : Array Value) (hw : ∀ d ∈ tables_1, d.before a0 Z = true) (ws : List Jvm.Cond) (a1 : Addr) (mg : Value) (u0 us : RefV) (h0 : Heap) (n0 : Nat) (O0 : Old Z n0 h0) (Exa_a1 : Exa Z h0 a1 "com/example/explain_locks/explainlocks/InvalidInputException") (Un0 : Unt h0 a1) (F_cause_a1 : Fld Z h0 a1 "java/lang/Throwable" "cause" "Ljava/lang/Throwable;" .null) (F_stackTrace_a1 : Fld Z h0 a1 "java/lang/Throwable" "stackTrace" "[Ljava/lang/StackTraceElement;" .null) (F_suppressedExceptions_a1 : Fld Z h0 a1 "java/lang/Throwable" "suppressedExceptions" "Ljava/util/List;" .null) (F_backtrace_a1 : Fld Z h0 a1 "java/lang/Throwable" "backtrace" "Ljava/lang/Object;" .null) (F_detailMessage_a1 : Fld Z h0 a1 "java/lang/Throwable" "detailMessage" "Ljava/lang/String;" .null) (g1 : n0 ≤ a1) (S_U : Sta Z Z.heap "java/lang/Throwable" "UNASSIGNED_STACK" "[Ljava/lang/StackTraceElement;" u0.v) (S_S : Sta Z Z.heap "java/lang/Throwable" "SUPPRESSED_SENTINEL" "Ljava/util/List;" us.v) (hl : l.stackTraces = true) (hmg : mg.isRef = true) :
    MetFree l (⟨"java/lang/Exception", "<init>", "(Ljava/lang/String;)V"⟩ : MethodName) (head1 (Jvm.Cond.code (⟨"java/lang/Exception", "<init>", "(Ljava/lang/String;)V"⟩ : MethodName) jdk_59_method_2_code 2 none :: ws) ({ frames := 4, cells := 1, slots := 2752, locals := 55 } : Room)) (fun a U => a = #[(.ref a1), mg] ∧ Z.Warmed39 U.vm ∧ U.heap = h0) (fun _ _ bl s _ => s.vm.MethodsKnown ∧ s.vm.FramesKnown bl) (fun _ U o U' => ∃ v L, o = .returned v ∧ Q_rmEI Z a1 mg u0 us h0 n0 v U'.heap L ∧ FrameEnd U o U' L ({ frames := 4, cells := 1, slots := 2752, locals := 55 } : Room).cells ({ frames := 4, cells := 1, slots := 2752, locals := 55 } : Room).slots) := by
  refine MetFree.of_bodySF (plainFor_of_name pn_rmEI) hisR ?_
  intro p e s m args below meth c s₁ Bd hml0 hP hK
  obtain ⟨rfl, hZ, hh⟩ := hP
  have hx := Bd.exec
  have hby := Bd.bytes
  have hml : c.maxLocals = 2 := hml0
  have hown : s.vm.findClass "java/lang/Exception" = some m.cls := findClass_of_methodNamed Bd.named
  have hnm := (name_of_methodNamed Bd.named Bd.method).1
  have X0 : Stand p l e ({ frames := 4, cells := 1, slots := 2752, locals := 55 } : Room) s m #[(.ref a1), mg] below meth c s₁ [] 0 0 := Stand.of_body Bd
  have e0 : s₁.heap = h0 := by rw [← hh, Bd.state]; rfl
  have N0 := Fr.nil n0
  refine Gl.start (Q := Q_rmEI Z a1 mg u0 us h0 n0) (ef_rmEI m a1 mg hmg) ?_
  have hO0 : Old Z n0 s.heap := hh ▸ O0
  show Gl p e below s _ _ _ s₁ (mkF m 0 #[.val (.ref a1), .val mg] [])
  refine Gl.st (fun _ kk => XS.aloadN X0.here hx rfl (hb hby d8_0) rfl rfl kk) ?_
  show Gl p e below s _ _ _ s₁ (mkF m 1 #[.val (.ref a1), .val mg] [(.ref a1)])
  refine Gl.st (fun _ kk => XS.aloadN X0.here hx rfl (hb hby d8_1) rfl hmg kk) ?_
  show Gl p e below s _ _ _ s₁ (mkF m 2 #[.val (.ref a1), .val mg] [mg, (.ref a1)])
  obtain ⟨v1, _, ⟨T1, L1, kQ1, nQ1⟩, -, X1, ⟨Lc1, hQ1, l1, y1, z1⟩, st1⟩ := X0.specialBack hx (y := (⟨"java/lang/Throwable", "<init>", "(Ljava/lang/String;)V"⟩ : MethodName)) rfl hown (mvT hZ (hw _ (List.mem_of_getElem? (i := 45) rfl))) (mvT hZ (hw _ (List.mem_of_getElem? (i := 46) rfl))) (mvT hZ (hw _ (List.mem_of_getElem? (i := 50) rfl))) (by decide) (backOfKL (W := 0) (rmTI l Z a0 hw [] a1 mg u0 us h0 n0 O0 Exa_a1 Un0 F_cause_a1 F_stackTrace_a1 F_suppressedExceptions_a1 F_backtrace_a1 F_detailMessage_a1 g1 S_U S_S hl hmg) hZ (hw _ (List.mem_of_getElem? (i := 50) rfl)) (hw _ (List.mem_of_getElem? (i := 49) rfl)) (by decide) (by decide) hK.1 hK.2) (g := (mkF m 2 #[.val (.ref a1), .val mg] [mg, (.ref a1)])) rfl (by rw [hml]; rfl) (Steps.refl _) (a := a1) (argsL := [mg]) (rest := []) (lenOf pd_rmEI_0 rfl) rfl (by show 2 * 0 + _ ≤ _; exact Nat.le_of_eq rfl) (hb hby d8_2) (fun _ _ => ⟨rfl, e0, (by decide : 0 + 1 ≤ _), (by decide : 0 + 2752 ≤ _)⟩)
  dsimp only [Pt.U, Pt.locs, Pt.cells, Pt.slots] at X1 l1 y1 z1 st1 hQ1
  subst y1 z1
  obtain ⟨h1, e1⟩ : ∃ z, T1.heap = z := ⟨_, rfl⟩
  rw [e1] at hQ1
  obtain ⟨rfl, Nq1, Kq1, F_detailMessage_q1⟩ := hQ1
  have N1 : Fr n0 L1 := l1 ▸ Fr.app N0 Nq1
  refine Gl.st (fun _ kk => st1.trans kk) ?_
  replace Exa_a1 := Exa_a1.keep Kq1
  have O1 := O0.keep Kq1 (allS g1 all0)
  have K1 := (Keep.refl h0 [a1]).trans Kq1 (allS (Or.inl (List.mem_of_getElem? (i := 0) rfl)) all0)
  have F_detailMessage_a1 := F_detailMessage_q1
  clear st1
  show Gl p e below s _ _ _ T1 (mkF m 5 #[.val (.ref a1), .val mg] [])
  exact Gl.ret X1 (v := none) (fun _ => rfl) (BodyLoose.notSynchronized Bd) (fun hr => X1.returnOut hx Bd.returns (hb hby d8_5) hr) e1 ⟨rfl, N1, K1, F_detailMessage_a1⟩ (by decide) (by decide)
theorem d16_0 : decode prog_1_method_1_code 0 = .ok (.aload_n 0, 1) := by decide +kernel
theorem d16_1 : decode prog_1_method_1_code 1 = .ok (.aload_n 1, 1) := by decide +kernel
theorem d16_2 : decode prog_1_method_1_code 2 = .ok (.invokespecial 1, 3) := by decide +kernel
theorem d16_5 : decode prog_1_method_1_code 5 = .ok (.return_, 1) := by decide +kernel
theorem pd_rmCI_0 : parseMethodDescriptor "(Ljava/lang/String;)V" = some ⟨[(.object "java/lang/String")], none⟩ := by decide +kernel
theorem pn_rmCI : plainName "com/example/explain_locks/explainlocks/InvalidInputException" = true := by first | (simp [plainName, overriddenIn]; done) | decide +kernel
theorem ef_rmCI (m : MethodId) (a1 : Addr) (mg : Value) (hmg : mg.isRef = true) : entryFrame m #[(.ref a1), mg] 2 = mkF m 0 #[.val (.ref a1), .val mg] [] := by
  all_goals cases mg
  all_goals first | (simp [entryFrame, mkF, argsToLocals, Value.category]; done) | rfl | contradiction | (simp [Value.isRef] at *; done)
def Q_rmCI (Z : State) (a1 : Addr) (mg : Value) (u0 us : RefV) (h0 : Heap) (n0 : Nat) (v : Option Value) (h : Heap) (L : List Loc) : Prop := v = none ∧ Fr n0 L ∧ Keep h0 h [a1] ∧ Fld Z h a1 "java/lang/Throwable" "detailMessage" "Ljava/lang/String;" mg
set_option maxRecDepth 65536 in
set_option maxHeartbeats 40000000 in
theorem rmCI (l : Launch) (Z : State) (a0 : Array Value) (hw : ∀ d ∈ tables_1, d.before a0 Z = true) (ws : List Jvm.Cond) (a1 : Addr) (mg : Value) (u0 us : RefV) (h0 : Heap) (n0 : Nat) (O0 : Old Z n0 h0) (Exa_a1 : Exa Z h0 a1 "com/example/explain_locks/explainlocks/InvalidInputException") (Un0 : Unt h0 a1) (F_cause_a1 : Fld Z h0 a1 "java/lang/Throwable" "cause" "Ljava/lang/Throwable;" .null) (F_stackTrace_a1 : Fld Z h0 a1 "java/lang/Throwable" "stackTrace" "[Ljava/lang/StackTraceElement;" .null) (F_suppressedExceptions_a1 : Fld Z h0 a1 "java/lang/Throwable" "suppressedExceptions" "Ljava/util/List;" .null) (F_backtrace_a1 : Fld Z h0 a1 "java/lang/Throwable" "backtrace" "Ljava/lang/Object;" .null) (F_detailMessage_a1 : Fld Z h0 a1 "java/lang/Throwable" "detailMessage" "Ljava/lang/String;" .null) (g1 : n0 ≤ a1) (S_U : Sta Z Z.heap "java/lang/Throwable" "UNASSIGNED_STACK" "[Ljava/lang/StackTraceElement;" u0.v) (S_S : Sta Z Z.heap "java/lang/Throwable" "SUPPRESSED_SENTINEL" "Ljava/util/List;" us.v) (hl : l.stackTraces = true) (hmg : mg.isRef = true) :
    MetFree l (⟨"com/example/explain_locks/explainlocks/InvalidInputException", "<init>", "(Ljava/lang/String;)V"⟩ : MethodName) (head1 (Jvm.Cond.code (⟨"com/example/explain_locks/explainlocks/InvalidInputException", "<init>", "(Ljava/lang/String;)V"⟩ : MethodName) prog_1_method_1_code 2 none :: ws) ({ frames := 5, cells := 1, slots := 2752, locals := 68 } : Room)) (fun a U => a = #[(.ref a1), mg] ∧ Z.Warmed39 U.vm ∧ U.heap = h0) (fun _ _ bl s _ => s.vm.MethodsKnown ∧ s.vm.FramesKnown bl) (fun _ U o U' => ∃ v L, o = .returned v ∧ Q_rmCI Z a1 mg u0 us h0 n0 v U'.heap L ∧ FrameEnd U o U' L ({ frames := 5, cells := 1, slots := 2752, locals := 68 } : Room).cells ({ frames := 5, cells := 1, slots := 2752, locals := 68 } : Room).slots) := by
  refine MetFree.of_bodySF (plainFor_of_name pn_rmCI) hisR ?_
  intro p e s m args below meth c s₁ Bd hml0 hP hK
  obtain ⟨rfl, hZ, hh⟩ := hP
  have hx := Bd.exec
  have hby := Bd.bytes
  have hml : c.maxLocals = 2 := hml0
  have hown : s.vm.findClass "com/example/explain_locks/explainlocks/InvalidInputException" = some m.cls := findClass_of_methodNamed Bd.named
  have hnm := (name_of_methodNamed Bd.named Bd.method).1
  have X0 : Stand p l e ({ frames := 5, cells := 1, slots := 2752, locals := 68 } : Room) s m #[(.ref a1), mg] below meth c s₁ [] 0 0 := Stand.of_body Bd
  have e0 : s₁.heap = h0 := by rw [← hh, Bd.state]; rfl
  have N0 := Fr.nil n0
  refine Gl.start (Q := Q_rmCI Z a1 mg u0 us h0 n0) (ef_rmCI m a1 mg hmg) ?_
  have hO0 : Old Z n0 s.heap := hh ▸ O0
  show Gl p e below s _ _ _ s₁ (mkF m 0 #[.val (.ref a1), .val mg] [])
  refine Gl.st (fun _ kk => XS.aloadN X0.here hx rfl (hb hby d16_0) rfl rfl kk) ?_
  show Gl p e below s _ _ _ s₁ (mkF m 1 #[.val (.ref a1), .val mg] [(.ref a1)])
  refine Gl.st (fun _ kk => XS.aloadN X0.here hx rfl (hb hby d16_1) rfl hmg kk) ?_
  show Gl p e below s _ _ _ s₁ (mkF m 2 #[.val (.ref a1), .val mg] [mg, (.ref a1)])
  obtain ⟨v1, _, ⟨T1, L1, kQ1, nQ1⟩, -, X1, ⟨Lc1, hQ1, l1, y1, z1⟩, st1⟩ := X0.specialBack hx (y := (⟨"java/lang/Exception", "<init>", "(Ljava/lang/String;)V"⟩ : MethodName)) rfl hown (mvT hZ (hw _ (List.mem_of_getElem? (i := 121) rfl))) (mvT hZ (hw _ (List.mem_of_getElem? (i := 41) rfl))) (mvT hZ (hw _ (List.mem_of_getElem? (i := 44) rfl))) (by decide) (backOfKL (W := 0) (rmEI l Z a0 hw [] a1 mg u0 us h0 n0 O0 Exa_a1 Un0 F_cause_a1 F_stackTrace_a1 F_suppressedExceptions_a1 F_backtrace_a1 F_detailMessage_a1 g1 S_U S_S hl hmg) hZ (hw _ (List.mem_of_getElem? (i := 44) rfl)) (hw _ (List.mem_of_getElem? (i := 43) rfl)) (by decide) (by decide) hK.1 hK.2) (g := (mkF m 2 #[.val (.ref a1), .val mg] [mg, (.ref a1)])) rfl (by rw [hml]; rfl) (Steps.refl _) (a := a1) (argsL := [mg]) (rest := []) (lenOf pd_rmCI_0 rfl) rfl (by show 2 * 0 + _ ≤ _; exact Nat.le_of_eq rfl) (hb hby d16_2) (fun _ _ => ⟨rfl, e0, (by decide : 0 + 1 ≤ _), (by decide : 0 + 2752 ≤ _)⟩)
  dsimp only [Pt.U, Pt.locs, Pt.cells, Pt.slots] at X1 l1 y1 z1 st1 hQ1
  subst y1 z1
  obtain ⟨h1, e1⟩ : ∃ z, T1.heap = z := ⟨_, rfl⟩
  rw [e1] at hQ1
  obtain ⟨rfl, Nq1, Kq1, F_detailMessage_q1⟩ := hQ1
  have N1 : Fr n0 L1 := l1 ▸ Fr.app N0 Nq1
  refine Gl.st (fun _ kk => st1.trans kk) ?_
  replace Exa_a1 := Exa_a1.keep Kq1
  have O1 := O0.keep Kq1 (allS g1 all0)
  have K1 := (Keep.refl h0 [a1]).trans Kq1 (allS (Or.inl (List.mem_of_getElem? (i := 0) rfl)) all0)
  have F_detailMessage_a1 := F_detailMessage_q1
  clear st1
  show Gl p e below s _ _ _ T1 (mkF m 5 #[.val (.ref a1), .val mg] [])
  exact Gl.ret X1 (v := none) (fun _ => rfl) (BodyLoose.notSynchronized Bd) (fun hr => X1.returnOut hx Bd.returns (hb hby d16_5) hr) e1 ⟨rfl, N1, K1, F_detailMessage_a1⟩ (by decide) (by decide)
theorem pd_rmTU_0 : parseMethodDescriptor "()Ljava/lang/Throwable;" = some ⟨[], some (.object "java/lang/Throwable")⟩ := by decide +kernel
theorem pn_rmTU : plainName "java/lang/Throwable" = true := by first | (simp [plainName, overriddenIn]; done) | decide +kernel
theorem ef_rmTU (m : MethodId) (a1 : Addr) (mg : Value) (hmg : mg.isRef = true) : entryFrame m #[(.ref a1), mg] 2 = mkF m 0 #[.val (.ref a1), .val mg] [] := by
  all_goals cases mg
  all_goals first | (simp [entryFrame, mkF, argsToLocals, Value.category]; done) | rfl | contradiction | (simp [Value.isRef] at *; done)
def Q_rmTU (Z : State) (a1 : Addr) (mg : Value) (u0 us : RefV) (h0 : Heap) (n0 : Nat) (v : Option Value) (h : Heap) (L : List Loc) : Prop := v = none ∧ Fr n0 L ∧ Keep h0 h [a1] ∧ Fld Z h a1 "java/lang/Throwable" "detailMessage" "Ljava/lang/String;" mg
set_option maxRecDepth 65536 in
set_option maxHeartbeats 40000000 in
theorem rmTU (l : Launch) (Z : State) (a0 : Array Value) (hw : ∀ d ∈ tables_1, d.before a0 Z = true) (ws : List Jvm.Cond) (a1 : Addr) (mg : Value) (u0 us : RefV) (h0 : Heap) (n0 : Nat) (O0 : Old Z n0 h0) (Exa_a1 : Exa Z h0 a1 "com/example/explain_locks/explainlocks/UnsupportedInputException") (Un0 : Unt h0 a1) (F_cause_a1 : Fld Z h0 a1 "java/lang/Throwable" "cause" "Ljava/lang/Throwable;" .null) (F_stackTrace_a1 : Fld Z h0 a1 "java/lang/Throwable" "stackTrace" "[Ljava/lang/StackTraceElement;" .null) (F_suppressedExceptions_a1 : Fld Z h0 a1 "java/lang/Throwable" "suppressedExceptions" "Ljava/util/List;" .null) (F_backtrace_a1 : Fld Z h0 a1 "java/lang/Throwable" "backtrace" "Ljava/lang/Object;" .null) (F_detailMessage_a1 : Fld Z h0 a1 "java/lang/Throwable" "detailMessage" "Ljava/lang/String;" .null) (g1 : n0 ≤ a1) (S_U : Sta Z Z.heap "java/lang/Throwable" "UNASSIGNED_STACK" "[Ljava/lang/StackTraceElement;" u0.v) (S_S : Sta Z Z.heap "java/lang/Throwable" "SUPPRESSED_SENTINEL" "Ljava/util/List;" us.v) (hl : l.stackTraces = true) (hmg : mg.isRef = true) :
    MetFree l (⟨"java/lang/Throwable", "<init>", "(Ljava/lang/String;)V"⟩ : MethodName) (head1 (Jvm.Cond.code (⟨"java/lang/Throwable", "<init>", "(Ljava/lang/String;)V"⟩ : MethodName) jdk_78_method_2_code 2 none :: ws) ({ frames := 3, cells := 1, slots := 2752, locals := 42 } : Room)) (fun a U => a = #[(.ref a1), mg] ∧ Z.Warmed39 U.vm ∧ U.heap = h0) (fun _ _ bl s _ => s.vm.MethodsKnown ∧ s.vm.FramesKnown bl) (fun _ U o U' => ∃ v L, o = .returned v ∧ Q_rmTU Z a1 mg u0 us h0 n0 v U'.heap L ∧ FrameEnd U o U' L ({ frames := 3, cells := 1, slots := 2752, locals := 42 } : Room).cells ({ frames := 3, cells := 1, slots := 2752, locals := 42 } : Room).slots) := by
  refine MetFree.of_bodySF (plainFor_of_name pn_rmTU) hisR ?_
  intro p e s m args below meth c s₁ Bd hml0 hP hK
  obtain ⟨rfl, hZ, hh⟩ := hP
  have hx := Bd.exec
  have hby := Bd.bytes
  have hml : c.maxLocals = 2 := hml0
  have hown : s.vm.findClass "java/lang/Throwable" = some m.cls := findClass_of_methodNamed Bd.named
  have hnm := (name_of_methodNamed Bd.named Bd.method).1
  have X0 : Stand p l e ({ frames := 3, cells := 1, slots := 2752, locals := 42 } : Room) s m #[(.ref a1), mg] below meth c s₁ [] 0 0 := Stand.of_body Bd
  have e0 : s₁.heap = h0 := by rw [← hh, Bd.state]; rfl
  have N0 := Fr.nil n0
  refine Gl.start (Q := Q_rmTU Z a1 mg u0 us h0 n0) (ef_rmTU m a1 mg hmg) ?_
  have hO0 : Old Z n0 s.heap := hh ▸ O0
  show Gl p e below s _ _ _ s₁ (mkF m 0 #[.val (.ref a1), .val mg] [])
  refine Gl.st (fun _ kk => XS.aloadN X0.here hx rfl (hb hby d9_0) rfl rfl kk) ?_
  show Gl p e below s _ _ _ s₁ (mkF m 1 #[.val (.ref a1), .val mg] [(.ref a1)])
  obtain ⟨T1, X1, e1, st1⟩ := initO X0 hx hZ hown (hw _ (List.mem_of_getElem? (i := 51) rfl)) (hw _ (List.mem_of_getElem? (i := 13) rfl)) (hw _ (List.mem_of_getElem? (i := 14) rfl)) e0 (g := (mkF m 1 #[.val (.ref a1), .val mg] [(.ref a1)])) rfl (by rw [hml]; rfl) rfl (hb hby d9_1) (by decide) (W := 0) (by show 2 * 0 + _ ≤ _; exact Nat.le_of_eq rfl) (by decide)
  refine Gl.st st1 ?_
  show Gl p e below s _ _ _ T1 (mkF m 4 #[.val (.ref a1), .val mg] [])
  refine Gl.st (fun _ kk => XS.aloadN X1.here hx rfl (hb hby d9_4) rfl rfl kk) ?_
  show Gl p e below s _ _ _ T1 (mkF m 5 #[.val (.ref a1), .val mg] [(.ref a1)])
  refine Gl.st (fun _ kk => XS.aloadN X1.here hx rfl (hb hby d9_5) rfl rfl kk) ?_
  show Gl p e below s _ _ _ T1 (mkF m 6 #[.val (.ref a1), .val mg] [(.ref a1), (.ref a1)])
  obtain ⟨T2, h2, X2, e2, W2, st2⟩ := putF X1 hx hZ hown (host := "") (Or.inl (hw _ (List.mem_of_getElem? (i := 52) rfl))) Via.refl e1 F_cause_a1 Exa_a1 (Or.inl (hw _ (List.mem_of_getElem? (i := 53) rfl))) (hw _ (List.mem_of_getElem? (i := 35) rfl)) (ty := (.object "java/lang/Throwable")) (by decide) rfl rfl (g := (mkF m 6 #[.val (.ref a1), .val mg] [(.ref a1), (.ref a1)])) rfl rfl (hb hby d9_6)
  refine Gl.st st2 ?_
  have F_cause_a1 := F_cause_a1.same W2
  replace Exa_a1 := Exa_a1.wr W2
  replace F_stackTrace_a1 := F_stackTrace_a1.other W2 (Or.inr (slot_ne (Or.inl (hw _ (List.mem_of_getElem? (i := 56) rfl))) (Or.inl (hw _ (List.mem_of_getElem? (i := 53) rfl))) (by decide) (t := (.array (.object "java/lang/StackTraceElement"))) (t' := (.object "java/lang/Throwable")) (by decide) (by decide)))
  replace F_suppressedExceptions_a1 := F_suppressedExceptions_a1.other W2 (Or.inr (slot_ne (Or.inl (hw _ (List.mem_of_getElem? (i := 59) rfl))) (Or.inl (hw _ (List.mem_of_getElem? (i := 53) rfl))) (by decide) (t := (.object "java/util/List")) (t' := (.object "java/lang/Throwable")) (by decide) (by decide)))
  replace F_backtrace_a1 := F_backtrace_a1.other W2 (Or.inr (slot_ne (Or.inl (hw _ (List.mem_of_getElem? (i := 84) rfl))) (Or.inl (hw _ (List.mem_of_getElem? (i := 53) rfl))) (by decide) (t := (.object "java/lang/Object")) (t' := (.object "java/lang/Throwable")) (by decide) (by decide)))
  replace F_detailMessage_a1 := F_detailMessage_a1.other W2 (Or.inr (slot_ne (Or.inl (hw _ (List.mem_of_getElem? (i := 83) rfl))) (Or.inl (hw _ (List.mem_of_getElem? (i := 53) rfl))) (by decide) (t := (.object "java/lang/String")) (t' := (.object "java/lang/Throwable")) (by decide) (by decide)))
  have O2 := O0.wr W2 g1
  have K2 := (Keep.refl h0 [a1]).wr W2 (Or.inl (List.mem_of_getElem? (i := 0) rfl))
  have N2 := Fr.snoc X2 N0 g1
  show Gl p e below s _ _ _ T2 (mkF m 9 #[.val (.ref a1), .val mg] [])
  refine Gl.st (fun _ kk => XS.aloadN X2.here hx rfl (hb hby d9_9) rfl rfl kk) ?_
  show Gl p e below s _ _ _ T2 (mkF m 10 #[.val (.ref a1), .val mg] [(.ref a1)])
  obtain ⟨T3, X3, e3, st3⟩ := getS2 X2 hx hZ hown (host := "") (Or.inl (hw _ (List.mem_of_getElem? (i := 54) rfl))) Via.refl e2 (S_U.ext O2.2) (g := (mkF m 10 #[.val (.ref a1), .val mg] [(.ref a1)])) rfl (hb hby d9_10)
  refine Gl.st st3 ?_
  show Gl p e below s _ _ _ T3 (mkF m 13 #[.val (.ref a1), .val mg] [u0.v, (.ref a1)])
  obtain ⟨T4, h4, X4, e4, W4, st4⟩ := putF X3 hx hZ hown (host := "") (Or.inl (hw _ (List.mem_of_getElem? (i := 55) rfl))) Via.refl e3 F_stackTrace_a1 Exa_a1 (Or.inl (hw _ (List.mem_of_getElem? (i := 56) rfl))) (hw _ (List.mem_of_getElem? (i := 35) rfl)) (ty := (.array (.object "java/lang/StackTraceElement"))) (by decide) (narrow_refV _ u0) (fits_refV_array _ u0) (g := (mkF m 13 #[.val (.ref a1), .val mg] [u0.v, (.ref a1)])) rfl rfl (hb hby d9_13)
  refine Gl.st st4 ?_
  have F_stackTrace_a1 := F_stackTrace_a1.same W4
  replace Exa_a1 := Exa_a1.wr W4
  replace F_cause_a1 := F_cause_a1.other W4 (Or.inr (slot_ne (Or.inl (hw _ (List.mem_of_getElem? (i := 53) rfl))) (Or.inl (hw _ (List.mem_of_getElem? (i := 56) rfl))) (by decide) (t := (.object "java/lang/Throwable")) (t' := (.array (.object "java/lang/StackTraceElement"))) (by decide) (by decide)))
  replace F_suppressedExceptions_a1 := F_suppressedExceptions_a1.other W4 (Or.inr (slot_ne (Or.inl (hw _ (List.mem_of_getElem? (i := 59) rfl))) (Or.inl (hw _ (List.mem_of_getElem? (i := 56) rfl))) (by decide) (t := (.object "java/util/List")) (t' := (.array (.object "java/lang/StackTraceElement"))) (by decide) (by decide)))
  replace F_backtrace_a1 := F_backtrace_a1.other W4 (Or.inr (slot_ne (Or.inl (hw _ (List.mem_of_getElem? (i := 84) rfl))) (Or.inl (hw _ (List.mem_of_getElem? (i := 56) rfl))) (by decide) (t := (.object "java/lang/Object")) (t' := (.array (.object "java/lang/StackTraceElement"))) (by decide) (by decide)))
  replace F_detailMessage_a1 := F_detailMessage_a1.other W4 (Or.inr (slot_ne (Or.inl (hw _ (List.mem_of_getElem? (i := 83) rfl))) (Or.inl (hw _ (List.mem_of_getElem? (i := 56) rfl))) (by decide) (t := (.object "java/lang/String")) (t' := (.array (.object "java/lang/StackTraceElement"))) (by decide) (by decide)))
  have O4 := O2.wr W4 g1
  have K4 := K2.wr W4 (Or.inl (List.mem_of_getElem? (i := 0) rfl))
  have N4 := Fr.snoc X4 N2 g1
  show Gl p e below s _ _ _ T4 (mkF m 16 #[.val (.ref a1), .val mg] [])
  refine Gl.st (fun _ kk => XS.aloadN X4.here hx rfl (hb hby d9_16) rfl rfl kk) ?_
  show Gl p e below s _ _ _ T4 (mkF m 17 #[.val (.ref a1), .val mg] [(.ref a1)])
  obtain ⟨T5, X5, e5, st5⟩ := getS2 X4 hx hZ hown (host := "") (Or.inl (hw _ (List.mem_of_getElem? (i := 57) rfl))) Via.refl e4 (S_S.ext O4.2) (g := (mkF m 17 #[.val (.ref a1), .val mg] [(.ref a1)])) rfl (hb hby d9_17)
  refine Gl.st st5 ?_
  show Gl p e below s _ _ _ T5 (mkF m 20 #[.val (.ref a1), .val mg] [us.v, (.ref a1)])
  obtain ⟨T6, h6, X6, e6, W6, st6⟩ := putF X5 hx hZ hown (host := "") (Or.inl (hw _ (List.mem_of_getElem? (i := 58) rfl))) Via.refl e5 F_suppressedExceptions_a1 Exa_a1 (Or.inl (hw _ (List.mem_of_getElem? (i := 59) rfl))) (hw _ (List.mem_of_getElem? (i := 35) rfl)) (ty := (.object "java/util/List")) (by decide) (narrow_refV _ us) (fits_refV_object _ us) (g := (mkF m 20 #[.val (.ref a1), .val mg] [us.v, (.ref a1)])) rfl rfl (hb hby d9_20)
  refine Gl.st st6 ?_
  have F_suppressedExceptions_a1 := F_suppressedExceptions_a1.same W6
  replace Exa_a1 := Exa_a1.wr W6
  replace F_cause_a1 := F_cause_a1.other W6 (Or.inr (slot_ne (Or.inl (hw _ (List.mem_of_getElem? (i := 53) rfl))) (Or.inl (hw _ (List.mem_of_getElem? (i := 59) rfl))) (by decide) (t := (.object "java/lang/Throwable")) (t' := (.object "java/util/List")) (by decide) (by decide)))
  replace F_stackTrace_a1 := F_stackTrace_a1.other W6 (Or.inr (slot_ne (Or.inl (hw _ (List.mem_of_getElem? (i := 56) rfl))) (Or.inl (hw _ (List.mem_of_getElem? (i := 59) rfl))) (by decide) (t := (.array (.object "java/lang/StackTraceElement"))) (t' := (.object "java/util/List")) (by decide) (by decide)))
  replace F_backtrace_a1 := F_backtrace_a1.other W6 (Or.inr (slot_ne (Or.inl (hw _ (List.mem_of_getElem? (i := 84) rfl))) (Or.inl (hw _ (List.mem_of_getElem? (i := 59) rfl))) (by decide) (t := (.object "java/lang/Object")) (t' := (.object "java/util/List")) (by decide) (by decide)))
  replace F_detailMessage_a1 := F_detailMessage_a1.other W6 (Or.inr (slot_ne (Or.inl (hw _ (List.mem_of_getElem? (i := 83) rfl))) (Or.inl (hw _ (List.mem_of_getElem? (i := 59) rfl))) (by decide) (t := (.object "java/lang/String")) (t' := (.object "java/util/List")) (by decide) (by decide)))
  have O6 := O4.wr W6 g1
  have K6 := K4.wr W6 (Or.inl (List.mem_of_getElem? (i := 0) rfl))
  have N6 := Fr.snoc X6 N4 g1
  show Gl p e below s _ _ _ T6 (mkF m 23 #[.val (.ref a1), .val mg] [])
  refine Gl.st (fun _ kk => XS.aloadN X6.here hx rfl (hb hby d9_23) rfl rfl kk) ?_
  show Gl p e below s _ _ _ T6 (mkF m 24 #[.val (.ref a1), .val mg] [(.ref a1)])
  obtain ⟨cq7, kq7, qa7, qb7, qc7⟩ := isOf hZ e6 Exa_a1
  obtain ⟨v7, _, ⟨T7, L7, kQ7, nQ7⟩, -, X7, ⟨Lc7, hQ7, l7, y7, z7⟩, st7⟩ := X6.virtualBack hx (y := (⟨"java/lang/Throwable", "fillInStackTrace", "()Ljava/lang/Throwable;"⟩ : MethodName)) (z := (⟨"java/lang/Throwable", "fillInStackTrace", "()Ljava/lang/Throwable;"⟩ : MethodName)) hown (mvT hZ (hw _ (List.mem_of_getElem? (i := 60) rfl))) (mvT hZ (hw _ (List.mem_of_getElem? (i := 61) rfl))) (notFace_of_selects (args := #[]) (mvT hZ (hw _ (List.mem_of_getElem? (i := 63) rfl)))) (mvT hZ (hw _ (List.mem_of_getElem? (i := 63) rfl))) (mvT hZ (hw _ (List.mem_of_getElem? (i := 62) rfl))) (by decide) (own_fillBack (W := 0) hx hl hZ (own_thrU hw) hK.1 hK.2 hO0 Exa_a1 (own_unt W6 (own_unt W4 (own_unt W2 Un0))) F_stackTrace_a1 F_backtrace_a1 (S_U.ext O6.2) g1 (by decide) (by decide)) qa7 qc7 (g := (mkF m 24 #[.val (.ref a1), .val mg] [(.ref a1)])) rfl (by rw [hml]; rfl) (Steps.refl _) (argsL := []) (rest := []) (lenOf pd_rmTU_0 rfl) rfl (by show 2 * 0 + _ ≤ _; exact Nat.le_of_eq rfl) (hb hby d9_24) (fun _ _ => ⟨rfl, e6, (by decide : 0 + 1 ≤ _), (by decide : 0 + 2752 ≤ _), own_b3 X6, rfl⟩)
  dsimp only [Pt.U, Pt.locs, Pt.cells, Pt.slots] at X7 l7 y7 z7 st7 hQ7
  subst y7 z7
  obtain ⟨h7, e7⟩ : ∃ z, T7.heap = z := ⟨_, rfl⟩
  rw [e7] at hQ7
  obtain ⟨rfl, Nq7, Kq7⟩ := hQ7
  have N7 : Fr n0 L7 := l7 ▸ Fr.app N6 Nq7
  refine Gl.st (fun _ kk => st7.trans kk) ?_
  replace Exa_a1 := Exa_a1.keep Kq7
  have O7 := O6.keep Kq7 (allS g1 all0)
  have K7 := K6.trans Kq7 (allS (Or.inl (List.mem_of_getElem? (i := 0) rfl)) all0)
  obtain ⟨od7, F_detailMessage_a1⟩ := fld_laid (O := "java/lang/Throwable") (n := "detailMessage") (d := "Ljava/lang/String;") Exa_a1 (own_unk Kq7 (own_unt W6 (own_unt W4 (own_unt W2 Un0)))) (hw _ (List.mem_of_getElem? (i := 35) rfl)) (Or.inl (hw _ (List.mem_of_getElem? (i := 83) rfl)))
  clear st7 qc7 qb7 qa7 kq7 cq7
  clear O6 K6 N6 X6 e6
  show Gl p e below s _ _ _ T7 (mkF m 27 #[.val (.ref a1), .val mg] [(.ref a1)])
  refine Gl.st (fun _ kk => XS.pop X7.here hx rfl (hb hby d9_27) rfl rfl kk) ?_
  show Gl p e below s _ _ _ T7 (mkF m 28 #[.val (.ref a1), .val mg] [])
  refine Gl.st (fun _ kk => XS.aloadN X7.here hx rfl (hb hby d9_28) rfl rfl kk) ?_
  show Gl p e below s _ _ _ T7 (mkF m 29 #[.val (.ref a1), .val mg] [(.ref a1)])
  refine Gl.st (fun _ kk => XS.aloadN X7.here hx rfl (hb hby d9_29) rfl hmg kk) ?_
  show Gl p e below s _ _ _ T7 (mkF m 30 #[.val (.ref a1), .val mg] [mg, (.ref a1)])
  obtain ⟨T8, h8, X8, e8, W8, st8⟩ := putF X7 hx hZ hown (host := "") (Or.inl (hw _ (List.mem_of_getElem? (i := 87) rfl))) Via.refl e7 F_detailMessage_a1 Exa_a1 (Or.inl (hw _ (List.mem_of_getElem? (i := 83) rfl))) (hw _ (List.mem_of_getElem? (i := 35) rfl)) (ty := (.object "java/lang/String")) (by decide) (narrow_isRef _ hmg) (fits_refV_object _ ⟨mg, hmg⟩) (g := (mkF m 30 #[.val (.ref a1), .val mg] [mg, (.ref a1)])) rfl rfl (hb hby d9_30)
  refine Gl.st st8 ?_
  have F_detailMessage_a1 := F_detailMessage_a1.same W8
  replace Exa_a1 := Exa_a1.wr W8
  have O8 := O7.wr W8 g1
  have K8 := K7.wr W8 (Or.inl (List.mem_of_getElem? (i := 0) rfl))
  have N8 := Fr.snoc X8 N7 g1
  show Gl p e below s _ _ _ T8 (mkF m 33 #[.val (.ref a1), .val mg] [])
  exact Gl.ret X8 (v := none) (fun _ => rfl) (BodyLoose.notSynchronized Bd) (fun hr => X8.returnOut hx Bd.returns (hb hby d9_33) hr) e8 ⟨rfl, N8, K8, F_detailMessage_a1⟩ (by decide) (by decide)
theorem pd_rmEU_0 : parseMethodDescriptor "(Ljava/lang/String;)V" = some ⟨[(.object "java/lang/String")], none⟩ := by decide +kernel
theorem pn_rmEU : plainName "java/lang/Exception" = true := by first | (simp [plainName, overriddenIn]; done) | decide +kernel
theorem ef_rmEU (m : MethodId) (a1 : Addr) (mg : Value) (hmg : mg.isRef = true) : entryFrame m #[(.ref a1), mg] 2 = mkF m 0 #[.val (.ref a1), .val mg] [] := by
  all_goals cases mg
  all_goals first | (simp [entryFrame, mkF, argsToLocals, Value.category]; done) | rfl | contradiction | (simp [Value.isRef] at *; done)
def Q_rmEU (Z : State) (a1 : Addr) (mg : Value) (u0 us : RefV) (h0 : Heap) (n0 : Nat) (v : Option Value) (h : Heap) (L : List Loc) : Prop := v = none ∧ Fr n0 L ∧ Keep h0 h [a1] ∧ Fld Z h a1 "java/lang/Throwable" "detailMessage" "Ljava/lang/String;" mg
set_option maxRecDepth 65536 in
set_option maxHeartbeats 40000000 in
theorem rmEU (l : Launch) (Z : State) (a0 : Array Value) (hw : ∀ d ∈ tables_1, d.before a0 Z = true) (ws : List Jvm.Cond) (a1 : Addr) (mg : Value) (u0 us : RefV) (h0 : Heap) (n0 : Nat) (O0 : Old Z n0 h0) (Exa_a1 : Exa Z h0 a1 "com/example/explain_locks/explainlocks/UnsupportedInputException") (Un0 : Unt h0 a1) (F_cause_a1 : Fld Z h0 a1 "java/lang/Throwable" "cause" "Ljava/lang/Throwable;" .null) (F_stackTrace_a1 : Fld Z h0 a1 "java/lang/Throwable" "stackTrace" "[Ljava/lang/StackTraceElement;" .null) (F_suppressedExceptions_a1 : Fld Z h0 a1 "java/lang/Throwable" "suppressedExceptions" "Ljava/util/List;" .null) (F_backtrace_a1 : Fld Z h0 a1 "java/lang/Throwable" "backtrace" "Ljava/lang/Object;" .null) (F_detailMessage_a1 : Fld Z h0 a1 "java/lang/Throwable" "detailMessage" "Ljava/lang/String;" .null) (g1 : n0 ≤ a1) (S_U : Sta Z Z.heap "java/lang/Throwable" "UNASSIGNED_STACK" "[Ljava/lang/StackTraceElement;" u0.v) (S_S : Sta Z Z.heap "java/lang/Throwable" "SUPPRESSED_SENTINEL" "Ljava/util/List;" us.v) (hl : l.stackTraces = true) (hmg : mg.isRef = true) :
    MetFree l (⟨"java/lang/Exception", "<init>", "(Ljava/lang/String;)V"⟩ : MethodName) (head1 (Jvm.Cond.code (⟨"java/lang/Exception", "<init>", "(Ljava/lang/String;)V"⟩ : MethodName) jdk_59_method_2_code 2 none :: ws) ({ frames := 4, cells := 1, slots := 2752, locals := 55 } : Room)) (fun a U => a = #[(.ref a1), mg] ∧ Z.Warmed39 U.vm ∧ U.heap = h0) (fun _ _ bl s _ => s.vm.MethodsKnown ∧ s.vm.FramesKnown bl) (fun _ U o U' => ∃ v L, o = .returned v ∧ Q_rmEU Z a1 mg u0 us h0 n0 v U'.heap L ∧ FrameEnd U o U' L ({ frames := 4, cells := 1, slots := 2752, locals := 55 } : Room).cells ({ frames := 4, cells := 1, slots := 2752, locals := 55 } : Room).slots) := by
  refine MetFree.of_bodySF (plainFor_of_name pn_rmEU) hisR ?_
  intro p e s m args below meth c s₁ Bd hml0 hP hK
  obtain ⟨rfl, hZ, hh⟩ := hP
  have hx := Bd.exec
  have hby := Bd.bytes
  have hml : c.maxLocals = 2 := hml0
  have hown : s.vm.findClass "java/lang/Exception" = some m.cls := findClass_of_methodNamed Bd.named
  have hnm := (name_of_methodNamed Bd.named Bd.method).1
  have X0 : Stand p l e ({ frames := 4, cells := 1, slots := 2752, locals := 55 } : Room) s m #[(.ref a1), mg] below meth c s₁ [] 0 0 := Stand.of_body Bd
  have e0 : s₁.heap = h0 := by rw [← hh, Bd.state]; rfl
  have N0 := Fr.nil n0
  refine Gl.start (Q := Q_rmEU Z a1 mg u0 us h0 n0) (ef_rmEU m a1 mg hmg) ?_
  have hO0 : Old Z n0 s.heap := hh ▸ O0
  show Gl p e below s _ _ _ s₁ (mkF m 0 #[.val (.ref a1), .val mg] [])
  refine Gl.st (fun _ kk => XS.aloadN X0.here hx rfl (hb hby d8_0) rfl rfl kk) ?_
  show Gl p e below s _ _ _ s₁ (mkF m 1 #[.val (.ref a1), .val mg] [(.ref a1)])
  refine Gl.st (fun _ kk => XS.aloadN X0.here hx rfl (hb hby d8_1) rfl hmg kk) ?_
  show Gl p e below s _ _ _ s₁ (mkF m 2 #[.val (.ref a1), .val mg] [mg, (.ref a1)])
  obtain ⟨v1, _, ⟨T1, L1, kQ1, nQ1⟩, -, X1, ⟨Lc1, hQ1, l1, y1, z1⟩, st1⟩ := X0.specialBack hx (y := (⟨"java/lang/Throwable", "<init>", "(Ljava/lang/String;)V"⟩ : MethodName)) rfl hown (mvT hZ (hw _ (List.mem_of_getElem? (i := 45) rfl))) (mvT hZ (hw _ (List.mem_of_getElem? (i := 46) rfl))) (mvT hZ (hw _ (List.mem_of_getElem? (i := 50) rfl))) (by decide) (backOfKL (W := 0) (rmTU l Z a0 hw [] a1 mg u0 us h0 n0 O0 Exa_a1 Un0 F_cause_a1 F_stackTrace_a1 F_suppressedExceptions_a1 F_backtrace_a1 F_detailMessage_a1 g1 S_U S_S hl hmg) hZ (hw _ (List.mem_of_getElem? (i := 50) rfl)) (hw _ (List.mem_of_getElem? (i := 49) rfl)) (by decide) (by decide) hK.1 hK.2) (g := (mkF m 2 #[.val (.ref a1), .val mg] [mg, (.ref a1)])) rfl (by rw [hml]; rfl) (Steps.refl _) (a := a1) (argsL := [mg]) (rest := []) (lenOf pd_rmEU_0 rfl) rfl (by show 2 * 0 + _ ≤ _; exact Nat.le_of_eq rfl) (hb hby d8_2) (fun _ _ => ⟨rfl, e0, (by decide : 0 + 1 ≤ _), (by decide : 0 + 2752 ≤ _)⟩)
  dsimp only [Pt.U, Pt.locs, Pt.cells, Pt.slots] at X1 l1 y1 z1 st1 hQ1
  subst y1 z1
  obtain ⟨h1, e1⟩ : ∃ z, T1.heap = z := ⟨_, rfl⟩
  rw [e1] at hQ1
  obtain ⟨rfl, Nq1, Kq1, F_detailMessage_q1⟩ := hQ1
  have N1 : Fr n0 L1 := l1 ▸ Fr.app N0 Nq1
  refine Gl.st (fun _ kk => st1.trans kk) ?_
  replace Exa_a1 := Exa_a1.keep Kq1
  have O1 := O0.keep Kq1 (allS g1 all0)
  have K1 := (Keep.refl h0 [a1]).trans Kq1 (allS (Or.inl (List.mem_of_getElem? (i := 0) rfl)) all0)
  have F_detailMessage_a1 := F_detailMessage_q1
  clear st1
  show Gl p e below s _ _ _ T1 (mkF m 5 #[.val (.ref a1), .val mg] [])
  exact Gl.ret X1 (v := none) (fun _ => rfl) (BodyLoose.notSynchronized Bd) (fun hr => X1.returnOut hx Bd.returns (hb hby d8_5) hr) e1 ⟨rfl, N1, K1, F_detailMessage_a1⟩ (by decide) (by decide)
theorem d7_0 : decode prog_7_method_1_code 0 = .ok (.aload_n 0, 1) := by decide +kernel
theorem d7_1 : decode prog_7_method_1_code 1 = .ok (.aload_n 1, 1) := by decide +kernel
theorem d7_2 : decode prog_7_method_1_code 2 = .ok (.invokespecial 1, 3) := by decide +kernel
theorem d7_5 : decode prog_7_method_1_code 5 = .ok (.return_, 1) := by decide +kernel
theorem pd_rmCU_0 : parseMethodDescriptor "(Ljava/lang/String;)V" = some ⟨[(.object "java/lang/String")], none⟩ := by decide +kernel
theorem pn_rmCU : plainName "com/example/explain_locks/explainlocks/UnsupportedInputException" = true := by first | (simp [plainName, overriddenIn]; done) | decide +kernel
theorem ef_rmCU (m : MethodId) (a1 : Addr) (mg : Value) (hmg : mg.isRef = true) : entryFrame m #[(.ref a1), mg] 2 = mkF m 0 #[.val (.ref a1), .val mg] [] := by
  all_goals cases mg
  all_goals first | (simp [entryFrame, mkF, argsToLocals, Value.category]; done) | rfl | contradiction | (simp [Value.isRef] at *; done)
def Q_rmCU (Z : State) (a1 : Addr) (mg : Value) (u0 us : RefV) (h0 : Heap) (n0 : Nat) (v : Option Value) (h : Heap) (L : List Loc) : Prop := v = none ∧ Fr n0 L ∧ Keep h0 h [a1] ∧ Fld Z h a1 "java/lang/Throwable" "detailMessage" "Ljava/lang/String;" mg
set_option maxRecDepth 65536 in
set_option maxHeartbeats 40000000 in
theorem rmCU (l : Launch) (Z : State) (a0 : Array Value) (hw : ∀ d ∈ tables_1, d.before a0 Z = true) (ws : List Jvm.Cond) (a1 : Addr) (mg : Value) (u0 us : RefV) (h0 : Heap) (n0 : Nat) (O0 : Old Z n0 h0) (Exa_a1 : Exa Z h0 a1 "com/example/explain_locks/explainlocks/UnsupportedInputException") (Un0 : Unt h0 a1) (F_cause_a1 : Fld Z h0 a1 "java/lang/Throwable" "cause" "Ljava/lang/Throwable;" .null) (F_stackTrace_a1 : Fld Z h0 a1 "java/lang/Throwable" "stackTrace" "[Ljava/lang/StackTraceElement;" .null) (F_suppressedExceptions_a1 : Fld Z h0 a1 "java/lang/Throwable" "suppressedExceptions" "Ljava/util/List;" .null) (F_backtrace_a1 : Fld Z h0 a1 "java/lang/Throwable" "backtrace" "Ljava/lang/Object;" .null) (F_detailMessage_a1 : Fld Z h0 a1 "java/lang/Throwable" "detailMessage" "Ljava/lang/String;" .null) (g1 : n0 ≤ a1) (S_U : Sta Z Z.heap "java/lang/Throwable" "UNASSIGNED_STACK" "[Ljava/lang/StackTraceElement;" u0.v) (S_S : Sta Z Z.heap "java/lang/Throwable" "SUPPRESSED_SENTINEL" "Ljava/util/List;" us.v) (hl : l.stackTraces = true) (hmg : mg.isRef = true) :
    MetFree l (⟨"com/example/explain_locks/explainlocks/UnsupportedInputException", "<init>", "(Ljava/lang/String;)V"⟩ : MethodName) (head1 (Jvm.Cond.code (⟨"com/example/explain_locks/explainlocks/UnsupportedInputException", "<init>", "(Ljava/lang/String;)V"⟩ : MethodName) prog_7_method_1_code 2 none :: ws) ({ frames := 5, cells := 1, slots := 2752, locals := 68 } : Room)) (fun a U => a = #[(.ref a1), mg] ∧ Z.Warmed39 U.vm ∧ U.heap = h0) (fun _ _ bl s _ => s.vm.MethodsKnown ∧ s.vm.FramesKnown bl) (fun _ U o U' => ∃ v L, o = .returned v ∧ Q_rmCU Z a1 mg u0 us h0 n0 v U'.heap L ∧ FrameEnd U o U' L ({ frames := 5, cells := 1, slots := 2752, locals := 68 } : Room).cells ({ frames := 5, cells := 1, slots := 2752, locals := 68 } : Room).slots) := by
  refine MetFree.of_bodySF (plainFor_of_name pn_rmCU) hisR ?_
  intro p e s m args below meth c s₁ Bd hml0 hP hK
  obtain ⟨rfl, hZ, hh⟩ := hP
  have hx := Bd.exec
  have hby := Bd.bytes
  have hml : c.maxLocals = 2 := hml0
  have hown : s.vm.findClass "com/example/explain_locks/explainlocks/UnsupportedInputException" = some m.cls := findClass_of_methodNamed Bd.named
  have hnm := (name_of_methodNamed Bd.named Bd.method).1
  have X0 : Stand p l e ({ frames := 5, cells := 1, slots := 2752, locals := 68 } : Room) s m #[(.ref a1), mg] below meth c s₁ [] 0 0 := Stand.of_body Bd
  have e0 : s₁.heap = h0 := by rw [← hh, Bd.state]; rfl
  have N0 := Fr.nil n0
  refine Gl.start (Q := Q_rmCU Z a1 mg u0 us h0 n0) (ef_rmCU m a1 mg hmg) ?_
  have hO0 : Old Z n0 s.heap := hh ▸ O0
  show Gl p e below s _ _ _ s₁ (mkF m 0 #[.val (.ref a1), .val mg] [])
  refine Gl.st (fun _ kk => XS.aloadN X0.here hx rfl (hb hby d7_0) rfl rfl kk) ?_
  show Gl p e below s _ _ _ s₁ (mkF m 1 #[.val (.ref a1), .val mg] [(.ref a1)])
  refine Gl.st (fun _ kk => XS.aloadN X0.here hx rfl (hb hby d7_1) rfl hmg kk) ?_
  show Gl p e below s _ _ _ s₁ (mkF m 2 #[.val (.ref a1), .val mg] [mg, (.ref a1)])
  obtain ⟨v1, _, ⟨T1, L1, kQ1, nQ1⟩, -, X1, ⟨Lc1, hQ1, l1, y1, z1⟩, st1⟩ := X0.specialBack hx (y := (⟨"java/lang/Exception", "<init>", "(Ljava/lang/String;)V"⟩ : MethodName)) rfl hown (mvT hZ (hw _ (List.mem_of_getElem? (i := 40) rfl))) (mvT hZ (hw _ (List.mem_of_getElem? (i := 41) rfl))) (mvT hZ (hw _ (List.mem_of_getElem? (i := 44) rfl))) (by decide) (backOfKL (W := 0) (rmEU l Z a0 hw [] a1 mg u0 us h0 n0 O0 Exa_a1 Un0 F_cause_a1 F_stackTrace_a1 F_suppressedExceptions_a1 F_backtrace_a1 F_detailMessage_a1 g1 S_U S_S hl hmg) hZ (hw _ (List.mem_of_getElem? (i := 44) rfl)) (hw _ (List.mem_of_getElem? (i := 43) rfl)) (by decide) (by decide) hK.1 hK.2) (g := (mkF m 2 #[.val (.ref a1), .val mg] [mg, (.ref a1)])) rfl (by rw [hml]; rfl) (Steps.refl _) (a := a1) (argsL := [mg]) (rest := []) (lenOf pd_rmCU_0 rfl) rfl (by show 2 * 0 + _ ≤ _; exact Nat.le_of_eq rfl) (hb hby d7_2) (fun _ _ => ⟨rfl, e0, (by decide : 0 + 1 ≤ _), (by decide : 0 + 2752 ≤ _)⟩)
  dsimp only [Pt.U, Pt.locs, Pt.cells, Pt.slots] at X1 l1 y1 z1 st1 hQ1
  subst y1 z1
  obtain ⟨h1, e1⟩ : ∃ z, T1.heap = z := ⟨_, rfl⟩
  rw [e1] at hQ1
  obtain ⟨rfl, Nq1, Kq1, F_detailMessage_q1⟩ := hQ1
  have N1 : Fr n0 L1 := l1 ▸ Fr.app N0 Nq1
  refine Gl.st (fun _ kk => st1.trans kk) ?_
  replace Exa_a1 := Exa_a1.keep Kq1
  have O1 := O0.keep Kq1 (allS g1 all0)
  have K1 := (Keep.refl h0 [a1]).trans Kq1 (allS (Or.inl (List.mem_of_getElem? (i := 0) rfl)) all0)
  have F_detailMessage_a1 := F_detailMessage_q1
  clear st1
  show Gl p e below s _ _ _ T1 (mkF m 5 #[.val (.ref a1), .val mg] [])
  exact Gl.ret X1 (v := none) (fun _ => rfl) (BodyLoose.notSynchronized Bd) (fun hr => X1.returnOut hx Bd.returns (hb hby d7_5) hr) e1 ⟨rfl, N1, K1, F_detailMessage_a1⟩ (by decide) (by decide)
theorem pd_rm0_0 : parseMethodDescriptor "(Ljava/lang/String;)V" = some ⟨[(.object "java/lang/String")], none⟩ := by decide +kernel
theorem pd_rm0_1 : parseMethodDescriptor "(Lcom/example/explain_locks/explainlocks/UnsupportedInputException;)V" = some ⟨[(.object "com/example/explain_locks/explainlocks/UnsupportedInputException")], none⟩ := by decide +kernel
theorem pd_rm0_2 : parseMethodDescriptor "()Ljava/lang/String;" = some ⟨[], some (.object "java/lang/String")⟩ := by decide +kernel
theorem pd_rm0_3 : parseMethodDescriptor "(Lcom/example/explain_locks/explainlocks/InvalidInputException;)V" = some ⟨[(.object "com/example/explain_locks/explainlocks/InvalidInputException")], none⟩ := by decide +kernel
theorem pd_rm0_4 : parseMethodDescriptor "(Ljava/lang/Object;)Z" = some ⟨[(.object "java/lang/Object")], some .boolean⟩ := by decide +kernel
theorem pd_rm0_5 : parseMethodDescriptor "([C)V" = some ⟨[(.array .char)], none⟩ := by decide +kernel
theorem pd_rm0_6 : parseMethodDescriptor "(C)Ljava/lang/String;" = some ⟨[.char], some (.object "java/lang/String")⟩ := by decide +kernel
theorem pn_rm0 : plainName "com/example/explain_locks/explainlocks/schema/RowFaultMessagePinLaw" = true := by first | (simp [plainName, overriddenIn]; done) | decide +kernel
theorem ef_rm0 (m : MethodId) (p1 : Int32) (p2 : Int32) (p3 : Int32) (p4 : Int32) (p5 : Int32) : entryFrame m #[(.int p1), (.int p2), (.int p3), (.int p4), (.int p5)] maxLocals = mkF m 0 #[.val (.int p1), .val (.int p2), .val (.int p3), .val (.int p4), .val (.int p5), .unset, .unset, .unset, .unset, .unset, .unset, .unset, .unset, .unset, .unset] [] := by first | (simp [entryFrame, mkF, argsToLocals, Value.category, maxLocals]; done) | rfl
def Q_rm0 (Z : State) (p1 : Int32) (p2 : Int32) (p3 : Int32) (p4 : Int32) (p5 : Int32) (cz : Int32) (uU uS : RefV) (h0 : Heap) (n0 : Nat) (v : Option Value) (h : Heap) (L : List Loc) : Prop := v = some (.int 1) ∧ Fr n0 L
set_option maxRecDepth 65536 in
set_option maxHeartbeats 40000000 in
theorem rm0 (l : Launch) (Z : State) (a0 : Array Value) (hw : ∀ d ∈ tables_1, d.before a0 Z = true) (ws : List Jvm.Cond) (p1 : Int32) (p2 : Int32) (p3 : Int32) (p4 : Int32) (p5 : Int32) (cz : Int32) (uU uS : RefV) (h0 : Heap) (n0 : Nat) (O0 : Old Z n0 h0) (S_COMPACT : Sta Z Z.heap "java/lang/String" "COMPACT_STRINGS" "Z" (.int cz)) (hcz : ¬ cz = 0) (hl : l.stackTraces = true) (hTK : Z.vm.MethodsKnown) (S_U : Sta Z Z.heap "java/lang/Throwable" "UNASSIGNED_STACK" "[Ljava/lang/StackTraceElement;" uU.v) (S_S : Sta Z Z.heap "java/lang/Throwable" "SUPPRESSED_SENTINEL" "Ljava/util/List;" uS.v) :
    MetFree l x (head1 (Jvm.Cond.code x code maxLocals ret :: ws) room_1) (fun a U => a = #[(.int p1), (.int p2), (.int p3), (.int p4), (.int p5)] ∧ Z.Warmed39 U.vm ∧ U.heap = h0 ∧ CHv Z consts_1 U.vm h0) (fun _ _ below _ _ => Z.vm.FramesKnown below) (fun _ U o U' => ∃ v L, o = .returned v ∧ Q_rm0 Z p1 p2 p3 p4 p5 cz uU uS h0 n0 v U'.heap L ∧ CHr Z consts_1 U.vm U.heap U'.vm U'.heap ∧ ReturnedEndW U o U' L room_1.cells room_1.slots) := by
  refine MetFree.of_bodySF (plainFor_of_name pn_rm0) hisR ?_
  intro p e s m args below meth c s₁ Bd hml0 hP hK
  obtain ⟨rfl, hZ, hh, H0⟩ := hP
  have hx := Bd.exec
  have hby := Bd.bytes
  have hml : c.maxLocals = 15 := hml0
  have hown : s.vm.findClass "com/example/explain_locks/explainlocks/schema/RowFaultMessagePinLaw" = some m.cls := findClass_of_methodNamed Bd.named
  have hnm := (name_of_methodNamed Bd.named Bd.method).1
  have X0 : Stand p l e room_1 (s.setVm s.vm) m #[(.int p1), (.int p2), (.int p3), (.int p4), (.int p5)] below meth c s₁ [] 0 0 := Stand.of_body Bd
  have e0 : s₁.heap = h0 := by rw [← hh, Bd.state]; rfl
  have N0 := Fr.nil n0
  have hS0 : s.Since s.vm 0 := (State.WarmedH.refl s).since 0
  have hk0 : 0 ≤ h0.size := Nat.zero_le _
  have HC0 : CHr Z consts_1 s.vm h0 s.vm h0 := CHr.refl H0
  have hh0 : s.heap = h0 := hh
  refine GlW.start (Q := Q_rm0 Z p1 p2 p3 p4 p5 cz uU uS h0 n0) (ef_rm0 m p1 p2 p3 p4 p5) ?_
  have hEL := own_EW hw
  have hwS : ∀ a ∈ Bundle.stringAtoms, a.before a0 Z = true := fun d hd => hw d ((by decide +kernel : ∀ d ∈ Bundle.stringAtoms, d ∈ tables_1) d hd)
  have hws : ∀ d ∈ StrChars.Road.words, d.before a0 Z = true := fun d hd => hw d ((by decide +kernel : ∀ d ∈ StrChars.Road.words, d ∈ tables_1) d hd)
  have hO0 : Old Z n0 s.heap := hh0 ▸ O0
  show GlW Z consts_1 p e below s _ _ _ s₁ (mkF m 0 #[.val (.int p1), .val (.int p2), .val (.int p3), .val (.int p4), .val (.int p5), .unset, .unset, .unset, .unset, .unset, .unset, .unset, .unset, .unset, .unset] [])
  refine GlW.st (fun _ kk => XS.iloadN X0.here hx rfl (hb hby at_0) rfl kk) ?_
  show GlW Z consts_1 p e below s _ _ _ s₁ (mkF m 1 #[.val (.int p1), .val (.int p2), .val (.int p3), .val (.int p4), .val (.int p5), .unset, .unset, .unset, .unset, .unset, .unset, .unset, .unset, .unset, .unset] [(.int p3)])
  refine GlW.st (fun _ kk => XS.sipush X0.here hx rfl (hb hby at_1) kk) ?_
  show GlW Z consts_1 p e below s _ _ _ s₁ (mkF m 4 #[.val (.int p1), .val (.int p2), .val (.int p3), .val (.int p4), .val (.int p5), .unset, .unset, .unset, .unset, .unset, .unset, .unset, .unset, .unset, .unset] [(.int (255 : Int32)), (.int p3)])
  refine GlW.st (fun _ kk => XS.iand X0.here hx rfl (hb hby at_4) rfl kk) ?_
  show GlW Z consts_1 p e below s _ _ _ s₁ (mkF m 5 #[.val (.int p1), .val (.int p2), .val (.int p3), .val (.int p4), .val (.int p5), .unset, .unset, .unset, .unset, .unset, .unset, .unset, .unset, .unset, .unset] [(.int (p3 &&& (255 : Int32)))])
  refine GlW.st (fun _ kk => XS.i2c X0.here hx rfl (hb hby at_5) rfl kk) ?_
  show GlW Z consts_1 p e below s _ _ _ s₁ (mkF m 6 #[.val (.int p1), .val (.int p2), .val (.int p3), .val (.int p4), .val (.int p5), .unset, .unset, .unset, .unset, .unset, .unset, .unset, .unset, .unset, .unset] [(.int ((p3 &&& (255 : Int32)).toUInt32.toUInt16.toUInt32.toInt32))])
  refine GlW.st (fun _ kk => XS.istore X0.here hx rfl (hb hby at_6) rfl (l' := #[.val (.int p1), .val (.int p2), .val (.int p3), .val (.int p4), .val (.int p5), .val (.int ((p3 &&& (255 : Int32)).toUInt32.toUInt16.toUInt32.toInt32)), .unset, .unset, .unset, .unset, .unset, .unset, .unset, .unset, .unset]) rfl kk) ?_
  show GlW Z consts_1 p e below s _ _ _ s₁ (mkF m 8 #[.val (.int p1), .val (.int p2), .val (.int p3), .val (.int p4), .val (.int p5), .val (.int ((p3 &&& (255 : Int32)).toUInt32.toUInt16.toUInt32.toInt32)), .unset, .unset, .unset, .unset, .unset, .unset, .unset, .unset, .unset] [])
  refine GlW.st (fun _ kk => XS.iloadN X0.here hx rfl (hb hby at_8) rfl kk) ?_
  show GlW Z consts_1 p e below s _ _ _ s₁ (mkF m 9 #[.val (.int p1), .val (.int p2), .val (.int p3), .val (.int p4), .val (.int p5), .val (.int ((p3 &&& (255 : Int32)).toUInt32.toUInt16.toUInt32.toInt32)), .unset, .unset, .unset, .unset, .unset, .unset, .unset, .unset, .unset] [(.int p4)])
  refine GlW.st (fun _ kk => XS.sipush X0.here hx rfl (hb hby at_9) kk) ?_
  show GlW Z consts_1 p e below s _ _ _ s₁ (mkF m 12 #[.val (.int p1), .val (.int p2), .val (.int p3), .val (.int p4), .val (.int p5), .val (.int ((p3 &&& (255 : Int32)).toUInt32.toUInt16.toUInt32.toInt32)), .unset, .unset, .unset, .unset, .unset, .unset, .unset, .unset, .unset] [(.int (255 : Int32)), (.int p4)])
  refine GlW.st (fun _ kk => XS.iand X0.here hx rfl (hb hby at_12) rfl kk) ?_
  show GlW Z consts_1 p e below s _ _ _ s₁ (mkF m 13 #[.val (.int p1), .val (.int p2), .val (.int p3), .val (.int p4), .val (.int p5), .val (.int ((p3 &&& (255 : Int32)).toUInt32.toUInt16.toUInt32.toInt32)), .unset, .unset, .unset, .unset, .unset, .unset, .unset, .unset, .unset] [(.int (p4 &&& (255 : Int32)))])
  refine GlW.st (fun _ kk => XS.i2c X0.here hx rfl (hb hby at_13) rfl kk) ?_
  show GlW Z consts_1 p e below s _ _ _ s₁ (mkF m 14 #[.val (.int p1), .val (.int p2), .val (.int p3), .val (.int p4), .val (.int p5), .val (.int ((p3 &&& (255 : Int32)).toUInt32.toUInt16.toUInt32.toInt32)), .unset, .unset, .unset, .unset, .unset, .unset, .unset, .unset, .unset] [(.int ((p4 &&& (255 : Int32)).toUInt32.toUInt16.toUInt32.toInt32))])
  refine GlW.st (fun _ kk => XS.istore X0.here hx rfl (hb hby at_14) rfl (l' := #[.val (.int p1), .val (.int p2), .val (.int p3), .val (.int p4), .val (.int p5), .val (.int ((p3 &&& (255 : Int32)).toUInt32.toUInt16.toUInt32.toInt32)), .val (.int ((p4 &&& (255 : Int32)).toUInt32.toUInt16.toUInt32.toInt32)), .unset, .unset, .unset, .unset, .unset, .unset, .unset, .unset]) rfl kk) ?_
  show GlW Z consts_1 p e below s _ _ _ s₁ (mkF m 16 #[.val (.int p1), .val (.int p2), .val (.int p3), .val (.int p4), .val (.int p5), .val (.int ((p3 &&& (255 : Int32)).toUInt32.toUInt16.toUInt32.toInt32)), .val (.int ((p4 &&& (255 : Int32)).toUInt32.toUInt16.toUInt32.toInt32)), .unset, .unset, .unset, .unset, .unset, .unset, .unset, .unset] [])
  refine GlW.st (fun _ kk => XS.iload X0.here hx rfl (hb hby at_16) rfl kk) ?_
  show GlW Z consts_1 p e below s _ _ _ s₁ (mkF m 18 #[.val (.int p1), .val (.int p2), .val (.int p3), .val (.int p4), .val (.int p5), .val (.int ((p3 &&& (255 : Int32)).toUInt32.toUInt16.toUInt32.toInt32)), .val (.int ((p4 &&& (255 : Int32)).toUInt32.toUInt16.toUInt32.toInt32)), .unset, .unset, .unset, .unset, .unset, .unset, .unset, .unset] [(.int p5)])
  refine GlW.st (fun _ kk => XS.sipush X0.here hx rfl (hb hby at_18) kk) ?_
  show GlW Z consts_1 p e below s _ _ _ s₁ (mkF m 21 #[.val (.int p1), .val (.int p2), .val (.int p3), .val (.int p4), .val (.int p5), .val (.int ((p3 &&& (255 : Int32)).toUInt32.toUInt16.toUInt32.toInt32)), .val (.int ((p4 &&& (255 : Int32)).toUInt32.toUInt16.toUInt32.toInt32)), .unset, .unset, .unset, .unset, .unset, .unset, .unset, .unset] [(.int (255 : Int32)), (.int p5)])
  refine GlW.st (fun _ kk => XS.iand X0.here hx rfl (hb hby at_21) rfl kk) ?_
  show GlW Z consts_1 p e below s _ _ _ s₁ (mkF m 22 #[.val (.int p1), .val (.int p2), .val (.int p3), .val (.int p4), .val (.int p5), .val (.int ((p3 &&& (255 : Int32)).toUInt32.toUInt16.toUInt32.toInt32)), .val (.int ((p4 &&& (255 : Int32)).toUInt32.toUInt16.toUInt32.toInt32)), .unset, .unset, .unset, .unset, .unset, .unset, .unset, .unset] [(.int (p5 &&& (255 : Int32)))])
  refine GlW.st (fun _ kk => XS.i2c X0.here hx rfl (hb hby at_22) rfl kk) ?_
  show GlW Z consts_1 p e below s _ _ _ s₁ (mkF m 23 #[.val (.int p1), .val (.int p2), .val (.int p3), .val (.int p4), .val (.int p5), .val (.int ((p3 &&& (255 : Int32)).toUInt32.toUInt16.toUInt32.toInt32)), .val (.int ((p4 &&& (255 : Int32)).toUInt32.toUInt16.toUInt32.toInt32)), .unset, .unset, .unset, .unset, .unset, .unset, .unset, .unset] [(.int ((p5 &&& (255 : Int32)).toUInt32.toUInt16.toUInt32.toInt32))])
  refine GlW.st (fun _ kk => XS.istore X0.here hx rfl (hb hby at_23) rfl (l' := #[.val (.int p1), .val (.int p2), .val (.int p3), .val (.int p4), .val (.int p5), .val (.int ((p3 &&& (255 : Int32)).toUInt32.toUInt16.toUInt32.toInt32)), .val (.int ((p4 &&& (255 : Int32)).toUInt32.toUInt16.toUInt32.toInt32)), .val (.int ((p5 &&& (255 : Int32)).toUInt32.toUInt16.toUInt32.toInt32)), .unset, .unset, .unset, .unset, .unset, .unset, .unset]) rfl kk) ?_
  show GlW Z consts_1 p e below s _ _ _ s₁ (mkF m 25 #[.val (.int p1), .val (.int p2), .val (.int p3), .val (.int p4), .val (.int p5), .val (.int ((p3 &&& (255 : Int32)).toUInt32.toUInt16.toUInt32.toInt32)), .val (.int ((p4 &&& (255 : Int32)).toUInt32.toUInt16.toUInt32.toInt32)), .val (.int ((p5 &&& (255 : Int32)).toUInt32.toUInt16.toUInt32.toInt32)), .unset, .unset, .unset, .unset, .unset, .unset, .unset] [])
  refine GlW.st (fun _ kk => XS.iloadN X0.here hx rfl (hb hby at_25) rfl kk) ?_
  show GlW Z consts_1 p e below s _ _ _ s₁ (mkF m 26 #[.val (.int p1), .val (.int p2), .val (.int p3), .val (.int p4), .val (.int p5), .val (.int ((p3 &&& (255 : Int32)).toUInt32.toUInt16.toUInt32.toInt32)), .val (.int ((p4 &&& (255 : Int32)).toUInt32.toUInt16.toUInt32.toInt32)), .val (.int ((p5 &&& (255 : Int32)).toUInt32.toUInt16.toUInt32.toInt32)), .unset, .unset, .unset, .unset, .unset, .unset, .unset] [(.int p2)])
  refine GlW.st (fun _ kk => X0.ldcInt hx hown (mvT hZ (hw _ (List.mem_of_getElem? (i := 0) rfl))) (g := (mkF m 26 #[.val (.int p1), .val (.int p2), .val (.int p3), .val (.int p4), .val (.int p5), .val (.int ((p3 &&& (255 : Int32)).toUInt32.toUInt16.toUInt32.toInt32)), .val (.int ((p4 &&& (255 : Int32)).toUInt32.toUInt16.toUInt32.toInt32)), .val (.int ((p5 &&& (255 : Int32)).toUInt32.toUInt16.toUInt32.toInt32)), .unset, .unset, .unset, .unset, .unset, .unset, .unset] [(.int p2)])) rfl (hb hby at_26) _ kk) ?_
  show GlW Z consts_1 p e below s _ _ _ s₁ (mkF m 28 #[.val (.int p1), .val (.int p2), .val (.int p3), .val (.int p4), .val (.int p5), .val (.int ((p3 &&& (255 : Int32)).toUInt32.toUInt16.toUInt32.toInt32)), .val (.int ((p4 &&& (255 : Int32)).toUInt32.toUInt16.toUInt32.toInt32)), .val (.int ((p5 &&& (255 : Int32)).toUInt32.toUInt16.toUInt32.toInt32)), .unset, .unset, .unset, .unset, .unset, .unset, .unset] [(.int (2147483647 : Int32)), (.int p2)])
  refine GlW.st (fun _ kk => XS.iand X0.here hx rfl (hb hby at_28) rfl kk) ?_
  show GlW Z consts_1 p e below s _ _ _ s₁ (mkF m 29 #[.val (.int p1), .val (.int p2), .val (.int p3), .val (.int p4), .val (.int p5), .val (.int ((p3 &&& (255 : Int32)).toUInt32.toUInt16.toUInt32.toInt32)), .val (.int ((p4 &&& (255 : Int32)).toUInt32.toUInt16.toUInt32.toInt32)), .val (.int ((p5 &&& (255 : Int32)).toUInt32.toUInt16.toUInt32.toInt32)), .unset, .unset, .unset, .unset, .unset, .unset, .unset] [(.int (p2 &&& (2147483647 : Int32)))])
  refine GlW.st (fun _ kk => XS.iconst X0.here hx rfl (hb hby at_29) kk) ?_
  show GlW Z consts_1 p e below s _ _ _ s₁ (mkF m 30 #[.val (.int p1), .val (.int p2), .val (.int p3), .val (.int p4), .val (.int p5), .val (.int ((p3 &&& (255 : Int32)).toUInt32.toUInt16.toUInt32.toInt32)), .val (.int ((p4 &&& (255 : Int32)).toUInt32.toUInt16.toUInt32.toInt32)), .val (.int ((p5 &&& (255 : Int32)).toUInt32.toUInt16.toUInt32.toInt32)), .unset, .unset, .unset, .unset, .unset, .unset, .unset] [(.int (4 : Int32)), (.int (p2 &&& (2147483647 : Int32)))])
  refine GlW.st (fun _ kk => iremM (g := (mkF m 30 #[.val (.int p1), .val (.int p2), .val (.int p3), .val (.int p4), .val (.int p5), .val (.int ((p3 &&& (255 : Int32)).toUInt32.toUInt16.toUInt32.toInt32)), .val (.int ((p4 &&& (255 : Int32)).toUInt32.toUInt16.toUInt32.toInt32)), .val (.int ((p5 &&& (255 : Int32)).toUInt32.toUInt16.toUInt32.toInt32)), .unset, .unset, .unset, .unset, .unset, .unset, .unset] [(.int (4 : Int32)), (.int (p2 &&& (2147483647 : Int32)))])) X0 hx rfl (hb hby at_30) rfl (by decide) kk) ?_
  show GlW Z consts_1 p e below s _ _ _ s₁ (mkF m 31 #[.val (.int p1), .val (.int p2), .val (.int p3), .val (.int p4), .val (.int p5), .val (.int ((p3 &&& (255 : Int32)).toUInt32.toUInt16.toUInt32.toInt32)), .val (.int ((p4 &&& (255 : Int32)).toUInt32.toUInt16.toUInt32.toInt32)), .val (.int ((p5 &&& (255 : Int32)).toUInt32.toUInt16.toUInt32.toInt32)), .unset, .unset, .unset, .unset, .unset, .unset, .unset] [(.int ((p2 &&& (2147483647 : Int32)) % (4 : Int32)))])
  refine GlW.st (fun _ kk => XS.istore X0.here hx rfl (hb hby at_31) rfl (l' := #[.val (.int p1), .val (.int p2), .val (.int p3), .val (.int p4), .val (.int p5), .val (.int ((p3 &&& (255 : Int32)).toUInt32.toUInt16.toUInt32.toInt32)), .val (.int ((p4 &&& (255 : Int32)).toUInt32.toUInt16.toUInt32.toInt32)), .val (.int ((p5 &&& (255 : Int32)).toUInt32.toUInt16.toUInt32.toInt32)), .val (.int ((p2 &&& (2147483647 : Int32)) % (4 : Int32))), .unset, .unset, .unset, .unset, .unset, .unset]) rfl kk) ?_
  show GlW Z consts_1 p e below s _ _ _ s₁ (mkF m 33 #[.val (.int p1), .val (.int p2), .val (.int p3), .val (.int p4), .val (.int p5), .val (.int ((p3 &&& (255 : Int32)).toUInt32.toUInt16.toUInt32.toInt32)), .val (.int ((p4 &&& (255 : Int32)).toUInt32.toUInt16.toUInt32.toInt32)), .val (.int ((p5 &&& (255 : Int32)).toUInt32.toUInt16.toUInt32.toInt32)), .val (.int ((p2 &&& (2147483647 : Int32)) % (4 : Int32))), .unset, .unset, .unset, .unset, .unset, .unset] [])
  have join127 : ∀ (x9 : Addr) (n8 : Int32) (T1 : State) (h1 : Heap) (L1 : List Loc) (vJ1 : Vm) (kJ1 : Nat), Stand p l e room_1 (s.setVm vJ1) m #[(.int p1), (.int p2), (.int p3), (.int p4), (.int p5)] below meth c T1 L1 6 40 → T1.heap = h1 → Fr n0 L1 → Old Z n0 h1 → Keep h0 h1 [] → s.Since vJ1 kJ1 → kJ1 ≤ h1.size → Z.Warmed39 vJ1 → vJ1.findClass "com/example/explain_locks/explainlocks/schema/RowFaultMessagePinLaw" = some m.cls → CHr Z consts_1 s.vm h0 vJ1 h1 → Exa Z h1 x9 "java/lang/String" → GlW Z consts_1 p e below s room_1.cells room_1.slots (Q_rm0 Z p1 p2 p3 p4 p5 cz uU uS h0 n0) T1 (mkF m 127 #[.val (.int p1), .val (.int p2), .val (.int p3), .val (.int p4), .val (.int p5), .val (.int ((p3 &&& (255 : Int32)).toUInt32.toUInt16.toUInt32.toInt32)), .val (.int ((p4 &&& (255 : Int32)).toUInt32.toUInt16.toUInt32.toInt32)), .val (.int ((p5 &&& (255 : Int32)).toUInt32.toUInt16.toUInt32.toInt32)), .val (.int n8), .val (.ref x9), .unset, .unset, .unset, .unset, .unset] []) := by
    intro x9 n8  T1 h1 L1 vJ1 kJ1 X1 e1 N1 O1 K1 hS1 hk1 hZ hown HC1  Exa_x9
    refine GlW.st (fun _ kk => XS.iloadN X1.here hx rfl (hb hby at_127) rfl kk) ?_
    show GlW Z consts_1 p e below s _ _ _ T1 (mkF m 128 #[.val (.int p1), .val (.int p2), .val (.int p3), .val (.int p4), .val (.int p5), .val (.int ((p3 &&& (255 : Int32)).toUInt32.toUInt16.toUInt32.toInt32)), .val (.int ((p4 &&& (255 : Int32)).toUInt32.toUInt16.toUInt32.toInt32)), .val (.int ((p5 &&& (255 : Int32)).toUInt32.toUInt16.toUInt32.toInt32)), .val (.int n8), .val (.ref x9), .unset, .unset, .unset, .unset, .unset] [(.int p1)])
    refine GlW.st (fun _ kk => XS.bipush X1.here hx rfl (hb hby at_128) kk) ?_
    show GlW Z consts_1 p e below s _ _ _ T1 (mkF m 130 #[.val (.int p1), .val (.int p2), .val (.int p3), .val (.int p4), .val (.int p5), .val (.int ((p3 &&& (255 : Int32)).toUInt32.toUInt16.toUInt32.toInt32)), .val (.int ((p4 &&& (255 : Int32)).toUInt32.toUInt16.toUInt32.toInt32)), .val (.int ((p5 &&& (255 : Int32)).toUInt32.toUInt16.toUInt32.toInt32)), .val (.int n8), .val (.ref x9), .unset, .unset, .unset, .unset, .unset] [(.int (6 : Int32)), (.int p1)])
    refine GlW.st (fun _ kk => XS.iand X1.here hx rfl (hb hby at_130) rfl kk) ?_
    show GlW Z consts_1 p e below s _ _ _ T1 (mkF m 131 #[.val (.int p1), .val (.int p2), .val (.int p3), .val (.int p4), .val (.int p5), .val (.int ((p3 &&& (255 : Int32)).toUInt32.toUInt16.toUInt32.toInt32)), .val (.int ((p4 &&& (255 : Int32)).toUInt32.toUInt16.toUInt32.toInt32)), .val (.int ((p5 &&& (255 : Int32)).toUInt32.toUInt16.toUInt32.toInt32)), .val (.int n8), .val (.ref x9), .unset, .unset, .unset, .unset, .unset] [(.int (p1 &&& (6 : Int32)))])
    refine GlW.st (fun _ kk => XS.bipush X1.here hx rfl (hb hby at_131) kk) ?_
    show GlW Z consts_1 p e below s _ _ _ T1 (mkF m 133 #[.val (.int p1), .val (.int p2), .val (.int p3), .val (.int p4), .val (.int p5), .val (.int ((p3 &&& (255 : Int32)).toUInt32.toUInt16.toUInt32.toInt32)), .val (.int ((p4 &&& (255 : Int32)).toUInt32.toUInt16.toUInt32.toInt32)), .val (.int ((p5 &&& (255 : Int32)).toUInt32.toUInt16.toUInt32.toInt32)), .val (.int n8), .val (.ref x9), .unset, .unset, .unset, .unset, .unset] [(.int (6 : Int32)), (.int (p1 &&& (6 : Int32)))])
    by_cases hc133 : (p1 &&& (6 : Int32)) = (6 : Int32)
    · skip
      refine GlW.st (fun _ kk => XS.icmpNo X1.here hx rfl (hb hby at_133) rfl (teq hc133).2 kk) ?_
      show GlW Z consts_1 p e below s _ _ _ T1 (mkF m 136 #[.val (.int p1), .val (.int p2), .val (.int p3), .val (.int p4), .val (.int p5), .val (.int ((p3 &&& (255 : Int32)).toUInt32.toUInt16.toUInt32.toInt32)), .val (.int ((p4 &&& (255 : Int32)).toUInt32.toUInt16.toUInt32.toInt32)), .val (.int ((p5 &&& (255 : Int32)).toUInt32.toUInt16.toUInt32.toInt32)), .val (.int n8), .val (.ref x9), .unset, .unset, .unset, .unset, .unset] [])
      refine GlW.st (fun _ kk => XS.iconst X1.here hx rfl (hb hby at_136) kk) ?_
      show GlW Z consts_1 p e below s _ _ _ T1 (mkF m 137 #[.val (.int p1), .val (.int p2), .val (.int p3), .val (.int p4), .val (.int p5), .val (.int ((p3 &&& (255 : Int32)).toUInt32.toUInt16.toUInt32.toInt32)), .val (.int ((p4 &&& (255 : Int32)).toUInt32.toUInt16.toUInt32.toInt32)), .val (.int ((p5 &&& (255 : Int32)).toUInt32.toUInt16.toUInt32.toInt32)), .val (.int n8), .val (.ref x9), .unset, .unset, .unset, .unset, .unset] [(.int (1 : Int32))])
      refine GlW.st (fun _ kk => XS.goto X1.here hx rfl (pc0 := 137) (pc' := 141) rfl (hb hby at_137) (by decide) (by decide) kk) ?_
      show GlW Z consts_1 p e below s _ _ _ T1 (mkF m 141 #[.val (.int p1), .val (.int p2), .val (.int p3), .val (.int p4), .val (.int p5), .val (.int ((p3 &&& (255 : Int32)).toUInt32.toUInt16.toUInt32.toInt32)), .val (.int ((p4 &&& (255 : Int32)).toUInt32.toUInt16.toUInt32.toInt32)), .val (.int ((p5 &&& (255 : Int32)).toUInt32.toUInt16.toUInt32.toInt32)), .val (.int n8), .val (.ref x9), .unset, .unset, .unset, .unset, .unset] [(.int (1 : Int32))])
      refine GlW.st (fun _ kk => XS.istore X1.here hx rfl (hb hby at_141) rfl (l' := #[.val (.int p1), .val (.int p2), .val (.int p3), .val (.int p4), .val (.int p5), .val (.int ((p3 &&& (255 : Int32)).toUInt32.toUInt16.toUInt32.toInt32)), .val (.int ((p4 &&& (255 : Int32)).toUInt32.toUInt16.toUInt32.toInt32)), .val (.int ((p5 &&& (255 : Int32)).toUInt32.toUInt16.toUInt32.toInt32)), .val (.int n8), .val (.ref x9), .val (.int (1 : Int32)), .unset, .unset, .unset, .unset]) rfl kk) ?_
      show GlW Z consts_1 p e below s _ _ _ T1 (mkF m 143 #[.val (.int p1), .val (.int p2), .val (.int p3), .val (.int p4), .val (.int p5), .val (.int ((p3 &&& (255 : Int32)).toUInt32.toUInt16.toUInt32.toInt32)), .val (.int ((p4 &&& (255 : Int32)).toUInt32.toUInt16.toUInt32.toInt32)), .val (.int ((p5 &&& (255 : Int32)).toUInt32.toUInt16.toUInt32.toInt32)), .val (.int n8), .val (.ref x9), .val (.int (1 : Int32)), .unset, .unset, .unset, .unset] [])
      refine GlW.st (fun _ kk => XS.iload X1.here hx rfl (hb hby at_143) rfl kk) ?_
      show GlW Z consts_1 p e below s _ _ _ T1 (mkF m 145 #[.val (.int p1), .val (.int p2), .val (.int p3), .val (.int p4), .val (.int p5), .val (.int ((p3 &&& (255 : Int32)).toUInt32.toUInt16.toUInt32.toInt32)), .val (.int ((p4 &&& (255 : Int32)).toUInt32.toUInt16.toUInt32.toInt32)), .val (.int ((p5 &&& (255 : Int32)).toUInt32.toUInt16.toUInt32.toInt32)), .val (.int n8), .val (.ref x9), .val (.int (1 : Int32)), .unset, .unset, .unset, .unset] [(.int (1 : Int32))])
      refine GlW.st (fun _ kk => XS.ifNo X1.here hx rfl (hb hby at_145) rfl ((if0 _ _).trans (feq (by decide : ¬ ((1 : Int32) = (0 : Int32)))).1) kk) ?_
      show GlW Z consts_1 p e below s _ _ _ T1 (mkF m 148 #[.val (.int p1), .val (.int p2), .val (.int p3), .val (.int p4), .val (.int p5), .val (.int ((p3 &&& (255 : Int32)).toUInt32.toUInt16.toUInt32.toInt32)), .val (.int ((p4 &&& (255 : Int32)).toUInt32.toUInt16.toUInt32.toInt32)), .val (.int ((p5 &&& (255 : Int32)).toUInt32.toUInt16.toUInt32.toInt32)), .val (.int n8), .val (.ref x9), .val (.int (1 : Int32)), .unset, .unset, .unset, .unset] [])
      refine GlW.st (fun _ kk => XS.aconstNull X1.here hx rfl (hb hby at_148) kk) ?_
      show GlW Z consts_1 p e below s _ _ _ T1 (mkF m 149 #[.val (.int p1), .val (.int p2), .val (.int p3), .val (.int p4), .val (.int p5), .val (.int ((p3 &&& (255 : Int32)).toUInt32.toUInt16.toUInt32.toInt32)), .val (.int ((p4 &&& (255 : Int32)).toUInt32.toUInt16.toUInt32.toInt32)), .val (.int ((p5 &&& (255 : Int32)).toUInt32.toUInt16.toUInt32.toInt32)), .val (.int n8), .val (.ref x9), .val (.int (1 : Int32)), .unset, .unset, .unset, .unset] [.null])
      refine GlW.st (fun _ kk => XS.goto X1.here hx rfl (pc0 := 149) (pc' := 154) rfl (hb hby at_149) (by decide) (by decide) kk) ?_
      show GlW Z consts_1 p e below s _ _ _ T1 (mkF m 154 #[.val (.int p1), .val (.int p2), .val (.int p3), .val (.int p4), .val (.int p5), .val (.int ((p3 &&& (255 : Int32)).toUInt32.toUInt16.toUInt32.toInt32)), .val (.int ((p4 &&& (255 : Int32)).toUInt32.toUInt16.toUInt32.toInt32)), .val (.int ((p5 &&& (255 : Int32)).toUInt32.toUInt16.toUInt32.toInt32)), .val (.int n8), .val (.ref x9), .val (.int (1 : Int32)), .unset, .unset, .unset, .unset] [.null])
      refine GlW.st (fun _ kk => XS.astore X1.here hx rfl (hb hby at_154) rfl rfl (l' := #[.val (.int p1), .val (.int p2), .val (.int p3), .val (.int p4), .val (.int p5), .val (.int ((p3 &&& (255 : Int32)).toUInt32.toUInt16.toUInt32.toInt32)), .val (.int ((p4 &&& (255 : Int32)).toUInt32.toUInt16.toUInt32.toInt32)), .val (.int ((p5 &&& (255 : Int32)).toUInt32.toUInt16.toUInt32.toInt32)), .val (.int n8), .val (.ref x9), .val (.int (1 : Int32)), .val .null, .unset, .unset, .unset]) rfl kk) ?_
      show GlW Z consts_1 p e below s _ _ _ T1 (mkF m 156 #[.val (.int p1), .val (.int p2), .val (.int p3), .val (.int p4), .val (.int p5), .val (.int ((p3 &&& (255 : Int32)).toUInt32.toUInt16.toUInt32.toInt32)), .val (.int ((p4 &&& (255 : Int32)).toUInt32.toUInt16.toUInt32.toInt32)), .val (.int ((p5 &&& (255 : Int32)).toUInt32.toUInt16.toUInt32.toInt32)), .val (.int n8), .val (.ref x9), .val (.int (1 : Int32)), .val .null, .unset, .unset, .unset] [])
      refine GlW.st (fun _ kk => XS.iloadN X1.here hx rfl (hb hby at_156) rfl kk) ?_
      show GlW Z consts_1 p e below s _ _ _ T1 (mkF m 157 #[.val (.int p1), .val (.int p2), .val (.int p3), .val (.int p4), .val (.int p5), .val (.int ((p3 &&& (255 : Int32)).toUInt32.toUInt16.toUInt32.toInt32)), .val (.int ((p4 &&& (255 : Int32)).toUInt32.toUInt16.toUInt32.toInt32)), .val (.int ((p5 &&& (255 : Int32)).toUInt32.toUInt16.toUInt32.toInt32)), .val (.int n8), .val (.ref x9), .val (.int (1 : Int32)), .val .null, .unset, .unset, .unset] [(.int p1)])
      refine GlW.st (fun _ kk => XS.iconst X1.here hx rfl (hb hby at_157) kk) ?_
      show GlW Z consts_1 p e below s _ _ _ T1 (mkF m 158 #[.val (.int p1), .val (.int p2), .val (.int p3), .val (.int p4), .val (.int p5), .val (.int ((p3 &&& (255 : Int32)).toUInt32.toUInt16.toUInt32.toInt32)), .val (.int ((p4 &&& (255 : Int32)).toUInt32.toUInt16.toUInt32.toInt32)), .val (.int ((p5 &&& (255 : Int32)).toUInt32.toUInt16.toUInt32.toInt32)), .val (.int n8), .val (.ref x9), .val (.int (1 : Int32)), .val .null, .unset, .unset, .unset] [(.int (1 : Int32)), (.int p1)])
      refine GlW.st (fun _ kk => XS.iand X1.here hx rfl (hb hby at_158) rfl kk) ?_
      show GlW Z consts_1 p e below s _ _ _ T1 (mkF m 159 #[.val (.int p1), .val (.int p2), .val (.int p3), .val (.int p4), .val (.int p5), .val (.int ((p3 &&& (255 : Int32)).toUInt32.toUInt16.toUInt32.toInt32)), .val (.int ((p4 &&& (255 : Int32)).toUInt32.toUInt16.toUInt32.toInt32)), .val (.int ((p5 &&& (255 : Int32)).toUInt32.toUInt16.toUInt32.toInt32)), .val (.int n8), .val (.ref x9), .val (.int (1 : Int32)), .val .null, .unset, .unset, .unset] [(.int (p1 &&& (1 : Int32)))])
      by_cases hc159 : (p1 &&& (1 : Int32)) = (0 : Int32)
      · skip
        refine GlW.st (fun _ kk => XS.ifYes X1.here hx rfl (pc0 := 159) (pc' := 166) rfl (hb hby at_159) rfl ((if0 _ _).trans (teq hc159).1) (by decide) (by decide) kk) ?_
        show GlW Z consts_1 p e below s _ _ _ T1 (mkF m 166 #[.val (.int p1), .val (.int p2), .val (.int p3), .val (.int p4), .val (.int p5), .val (.int ((p3 &&& (255 : Int32)).toUInt32.toUInt16.toUInt32.toInt32)), .val (.int ((p4 &&& (255 : Int32)).toUInt32.toUInt16.toUInt32.toInt32)), .val (.int ((p5 &&& (255 : Int32)).toUInt32.toUInt16.toUInt32.toInt32)), .val (.int n8), .val (.ref x9), .val (.int (1 : Int32)), .val .null, .unset, .unset, .unset] [])
        refine GlW.st (fun _ kk => XS.iconst X1.here hx rfl (hb hby at_166) kk) ?_
        show GlW Z consts_1 p e below s _ _ _ T1 (mkF m 167 #[.val (.int p1), .val (.int p2), .val (.int p3), .val (.int p4), .val (.int p5), .val (.int ((p3 &&& (255 : Int32)).toUInt32.toUInt16.toUInt32.toInt32)), .val (.int ((p4 &&& (255 : Int32)).toUInt32.toUInt16.toUInt32.toInt32)), .val (.int ((p5 &&& (255 : Int32)).toUInt32.toUInt16.toUInt32.toInt32)), .val (.int n8), .val (.ref x9), .val (.int (1 : Int32)), .val .null, .unset, .unset, .unset] [(.int (0 : Int32))])
        refine GlW.st (fun _ kk => XS.istore X1.here hx rfl (hb hby at_167) rfl (l' := #[.val (.int p1), .val (.int p2), .val (.int p3), .val (.int p4), .val (.int p5), .val (.int ((p3 &&& (255 : Int32)).toUInt32.toUInt16.toUInt32.toInt32)), .val (.int ((p4 &&& (255 : Int32)).toUInt32.toUInt16.toUInt32.toInt32)), .val (.int ((p5 &&& (255 : Int32)).toUInt32.toUInt16.toUInt32.toInt32)), .val (.int n8), .val (.ref x9), .val (.int (1 : Int32)), .val .null, .val (.int (0 : Int32)), .unset, .unset]) rfl kk) ?_
        show GlW Z consts_1 p e below s _ _ _ T1 (mkF m 169 #[.val (.int p1), .val (.int p2), .val (.int p3), .val (.int p4), .val (.int p5), .val (.int ((p3 &&& (255 : Int32)).toUInt32.toUInt16.toUInt32.toInt32)), .val (.int ((p4 &&& (255 : Int32)).toUInt32.toUInt16.toUInt32.toInt32)), .val (.int ((p5 &&& (255 : Int32)).toUInt32.toUInt16.toUInt32.toInt32)), .val (.int n8), .val (.ref x9), .val (.int (1 : Int32)), .val .null, .val (.int (0 : Int32)), .unset, .unset] [])
        refine GlW.st (fun _ kk => XS.iload X1.here hx rfl (hb hby at_169) rfl kk) ?_
        show GlW Z consts_1 p e below s _ _ _ T1 (mkF m 171 #[.val (.int p1), .val (.int p2), .val (.int p3), .val (.int p4), .val (.int p5), .val (.int ((p3 &&& (255 : Int32)).toUInt32.toUInt16.toUInt32.toInt32)), .val (.int ((p4 &&& (255 : Int32)).toUInt32.toUInt16.toUInt32.toInt32)), .val (.int ((p5 &&& (255 : Int32)).toUInt32.toUInt16.toUInt32.toInt32)), .val (.int n8), .val (.ref x9), .val (.int (1 : Int32)), .val .null, .val (.int (0 : Int32)), .unset, .unset] [(.int (0 : Int32))])
        refine GlW.st (fun _ kk => XS.ifYes X1.here hx rfl (pc0 := 171) (pc' := 195) rfl (hb hby at_171) rfl ((if0 _ _).trans (teq (by decide : (0 : Int32) = (0 : Int32))).1) (by decide) (by decide) kk) ?_
        show GlW Z consts_1 p e below s _ _ _ T1 (mkF m 195 #[.val (.int p1), .val (.int p2), .val (.int p3), .val (.int p4), .val (.int p5), .val (.int ((p3 &&& (255 : Int32)).toUInt32.toUInt16.toUInt32.toInt32)), .val (.int ((p4 &&& (255 : Int32)).toUInt32.toUInt16.toUInt32.toInt32)), .val (.int ((p5 &&& (255 : Int32)).toUInt32.toUInt16.toUInt32.toInt32)), .val (.int n8), .val (.ref x9), .val (.int (1 : Int32)), .val .null, .val (.int (0 : Int32)), .unset, .unset] [])
        obtain ⟨T2, h2, X2, e2, E2, A2, D2, V2, st2⟩ := newO X1 hx hZ hown (hw _ (List.mem_of_getElem? (i := 31) rfl)) (hw _ (List.mem_of_getElem? (i := 32) rfl)) (hw _ (List.mem_of_getElem? (i := 33) rfl)) e1 (g := (mkF m 195 #[.val (.int p1), .val (.int p2), .val (.int p3), .val (.int p4), .val (.int p5), .val (.int ((p3 &&& (255 : Int32)).toUInt32.toUInt16.toUInt32.toInt32)), .val (.int ((p4 &&& (255 : Int32)).toUInt32.toUInt16.toUInt32.toInt32)), .val (.int ((p5 &&& (255 : Int32)).toUInt32.toUInt16.toUInt32.toInt32)), .val (.int n8), .val (.ref x9), .val (.int (1 : Int32)), .val .null, .val (.int (0 : Int32)), .unset, .unset] [])) rfl (hb hby at_195) (by decide) (by decide)
        obtain ⟨b2, g2⟩ : ∃ z, z = h1.size := ⟨_, rfl⟩
        rw [← g2] at A2 D2 V2 st2
        refine GlW.st st2 ?_
        have ne_x9_b2 : x9 ≠ b2 := Nat.ne_of_lt (Nat.lt_of_lt_of_eq Exa_x9.lt g2.symm)
        have ge_b2 : n0 ≤ b2 := Nat.le_trans (Nat.le_trans (Nat.le_of_eq O1.1.symm) O1.2.1) (Nat.le_of_eq g2.symm)
        have fr_b2 : h0.size ≤ b2 := Nat.le_trans K1.1 (Nat.le_of_eq g2.symm)
        have HC2 := HC1.trans (CHr.ext E2 HC1.1)
        have hk2 := Nat.le_trans hk1 E2.1
        replace Exa_x9 := Exa_x9.ext E2
        have O2 := O1.ext E2
        have K2 := K1.ext E2
        have Exa_b2 := A2
        have F_invalid_b2 : Fld Z h2 b2 "com/example/explain_locks/explainlocks/schema/RowFault" "invalid" "Lcom/example/explain_locks/explainlocks/InvalidInputException;" .null := D2 (Or.inr (hw _ (List.mem_of_getElem? (i := 93) rfl))) (ty := (.object "com/example/explain_locks/explainlocks/InvalidInputException")) (by decide)
        have F_unsupported_b2 : Fld Z h2 b2 "com/example/explain_locks/explainlocks/schema/RowFault" "unsupported" "Lcom/example/explain_locks/explainlocks/UnsupportedInputException;" .null := D2 (Or.inr (hw _ (List.mem_of_getElem? (i := 95) rfl))) (ty := (.object "com/example/explain_locks/explainlocks/UnsupportedInputException")) (by decide)
        show GlW Z consts_1 p e below s _ _ _ T2 (mkF m 198 #[.val (.int p1), .val (.int p2), .val (.int p3), .val (.int p4), .val (.int p5), .val (.int ((p3 &&& (255 : Int32)).toUInt32.toUInt16.toUInt32.toInt32)), .val (.int ((p4 &&& (255 : Int32)).toUInt32.toUInt16.toUInt32.toInt32)), .val (.int ((p5 &&& (255 : Int32)).toUInt32.toUInt16.toUInt32.toInt32)), .val (.int n8), .val (.ref x9), .val (.int (1 : Int32)), .val .null, .val (.int (0 : Int32)), .unset, .unset] [(.ref b2)])
        refine GlW.st (fun _ kk => XS.dup X2.here hx rfl (hb hby at_198) rfl rfl kk) ?_
        show GlW Z consts_1 p e below s _ _ _ T2 (mkF m 199 #[.val (.int p1), .val (.int p2), .val (.int p3), .val (.int p4), .val (.int p5), .val (.int ((p3 &&& (255 : Int32)).toUInt32.toUInt16.toUInt32.toInt32)), .val (.int ((p4 &&& (255 : Int32)).toUInt32.toUInt16.toUInt32.toInt32)), .val (.int ((p5 &&& (255 : Int32)).toUInt32.toUInt16.toUInt32.toInt32)), .val (.int n8), .val (.ref x9), .val (.int (1 : Int32)), .val .null, .val (.int (0 : Int32)), .unset, .unset] [(.ref b2), (.ref b2)])
        obtain ⟨T3, h3, X3, e3, E3, A3, D3, V3, st3⟩ := newO X2 hx hZ hown (hw _ (List.mem_of_getElem? (i := 34) rfl)) (hw _ (List.mem_of_getElem? (i := 35) rfl)) (hw _ (List.mem_of_getElem? (i := 36) rfl)) e2 (g := (mkF m 199 #[.val (.int p1), .val (.int p2), .val (.int p3), .val (.int p4), .val (.int p5), .val (.int ((p3 &&& (255 : Int32)).toUInt32.toUInt16.toUInt32.toInt32)), .val (.int ((p4 &&& (255 : Int32)).toUInt32.toUInt16.toUInt32.toInt32)), .val (.int ((p5 &&& (255 : Int32)).toUInt32.toUInt16.toUInt32.toInt32)), .val (.int n8), .val (.ref x9), .val (.int (1 : Int32)), .val .null, .val (.int (0 : Int32)), .unset, .unset] [(.ref b2), (.ref b2)])) rfl (hb hby at_199) (by decide) (by decide)
        obtain ⟨b3, g3⟩ : ∃ z, z = h2.size := ⟨_, rfl⟩
        rw [← g3] at A3 D3 V3 st3
        refine GlW.st st3 ?_
        have ne_b2_b3 : b2 ≠ b3 := Nat.ne_of_lt (Nat.lt_of_lt_of_eq Exa_b2.lt g3.symm)
        have ne_x9_b3 : x9 ≠ b3 := Nat.ne_of_lt (Nat.lt_of_lt_of_eq Exa_x9.lt g3.symm)
        have ge_b3 : n0 ≤ b3 := Nat.le_trans (Nat.le_trans (Nat.le_of_eq O2.1.symm) O2.2.1) (Nat.le_of_eq g3.symm)
        have fr_b3 : h0.size ≤ b3 := Nat.le_trans K2.1 (Nat.le_of_eq g3.symm)
        have HC3 := HC2.trans (CHr.ext E3 HC2.1)
        have hk3 := Nat.le_trans hk2 E3.1
        replace Exa_x9 := Exa_x9.ext E3
        replace Exa_b2 := Exa_b2.ext E3
        replace F_invalid_b2 := F_invalid_b2.ext E3
        replace F_unsupported_b2 := F_unsupported_b2.ext E3
        have O3 := O2.ext E3
        have K3 := K2.ext E3
        have Exa_b3 := A3
        have F_cause_b3 : Fld Z h3 b3 "java/lang/Throwable" "cause" "Ljava/lang/Throwable;" .null := D3 (Or.inl (hw _ (List.mem_of_getElem? (i := 53) rfl))) (ty := (.object "java/lang/Throwable")) (by decide)
        have F_stackTrace_b3 : Fld Z h3 b3 "java/lang/Throwable" "stackTrace" "[Ljava/lang/StackTraceElement;" .null := D3 (Or.inl (hw _ (List.mem_of_getElem? (i := 56) rfl))) (ty := (.array (.object "java/lang/StackTraceElement"))) (by decide)
        have F_suppressedExceptions_b3 : Fld Z h3 b3 "java/lang/Throwable" "suppressedExceptions" "Ljava/util/List;" .null := D3 (Or.inl (hw _ (List.mem_of_getElem? (i := 59) rfl))) (ty := (.object "java/util/List")) (by decide)
        have F_detailMessage_b3 : Fld Z h3 b3 "java/lang/Throwable" "detailMessage" "Ljava/lang/String;" .null := D3 (Or.inl (hw _ (List.mem_of_getElem? (i := 83) rfl))) (ty := (.object "java/lang/String")) (by decide)
        have F_backtrace_b3 : Fld Z h3 b3 "java/lang/Throwable" "backtrace" "Ljava/lang/Object;" .null := D3 (Or.inl (hw _ (List.mem_of_getElem? (i := 84) rfl))) (ty := (.object "java/lang/Object")) (by decide)
        have F_depth_b3 : Fld Z h3 b3 "java/lang/Throwable" "depth" "I" (.int (0 : Int32)) := D3 (Or.inl (hw _ (List.mem_of_getElem? (i := 85) rfl))) (ty := .int) (by decide)
        show GlW Z consts_1 p e below s _ _ _ T3 (mkF m 202 #[.val (.int p1), .val (.int p2), .val (.int p3), .val (.int p4), .val (.int p5), .val (.int ((p3 &&& (255 : Int32)).toUInt32.toUInt16.toUInt32.toInt32)), .val (.int ((p4 &&& (255 : Int32)).toUInt32.toUInt16.toUInt32.toInt32)), .val (.int ((p5 &&& (255 : Int32)).toUInt32.toUInt16.toUInt32.toInt32)), .val (.int n8), .val (.ref x9), .val (.int (1 : Int32)), .val .null, .val (.int (0 : Int32)), .unset, .unset] [(.ref b3), (.ref b2), (.ref b2)])
        refine GlW.st (fun _ kk => XS.dup X3.here hx rfl (hb hby at_202) rfl rfl kk) ?_
        show GlW Z consts_1 p e below s _ _ _ T3 (mkF m 203 #[.val (.int p1), .val (.int p2), .val (.int p3), .val (.int p4), .val (.int p5), .val (.int ((p3 &&& (255 : Int32)).toUInt32.toUInt16.toUInt32.toInt32)), .val (.int ((p4 &&& (255 : Int32)).toUInt32.toUInt16.toUInt32.toInt32)), .val (.int ((p5 &&& (255 : Int32)).toUInt32.toUInt16.toUInt32.toInt32)), .val (.int n8), .val (.ref x9), .val (.int (1 : Int32)), .val .null, .val (.int (0 : Int32)), .unset, .unset] [(.ref b3), (.ref b3), (.ref b2), (.ref b2)])
        refine GlW.st (fun _ kk => XS.aload X3.here hx rfl (hb hby at_203) rfl rfl kk) ?_
        show GlW Z consts_1 p e below s _ _ _ T3 (mkF m 205 #[.val (.int p1), .val (.int p2), .val (.int p3), .val (.int p4), .val (.int p5), .val (.int ((p3 &&& (255 : Int32)).toUInt32.toUInt16.toUInt32.toInt32)), .val (.int ((p4 &&& (255 : Int32)).toUInt32.toUInt16.toUInt32.toInt32)), .val (.int ((p5 &&& (255 : Int32)).toUInt32.toUInt16.toUInt32.toInt32)), .val (.int n8), .val (.ref x9), .val (.int (1 : Int32)), .val .null, .val (.int (0 : Int32)), .unset, .unset] [.null, (.ref b3), (.ref b3), (.ref b2), (.ref b2)])
        obtain ⟨v4, _, ⟨T4, L4, kQ4, nQ4⟩, -, X4, ⟨Lc4, hQ4, l4, y4, z4⟩, st4⟩ := X3.specialBack hx (y := (⟨"com/example/explain_locks/explainlocks/UnsupportedInputException", "<init>", "(Ljava/lang/String;)V"⟩ : MethodName)) rfl hown (mvT hZ (hw _ (List.mem_of_getElem? (i := 37) rfl))) (mvT hZ (hw _ (List.mem_of_getElem? (i := 38) rfl))) (mvT hZ (hw _ (List.mem_of_getElem? (i := 39) rfl))) (by decide) (backOfKL (W := 3) (rmCU l Z a0 hw [] b3 .null uU uS h3 n0 O3 Exa_b3 V3 F_cause_b3 F_stackTrace_b3 F_suppressedExceptions_b3 F_backtrace_b3 F_detailMessage_b3 ge_b3 S_U S_S hl rfl) hZ (hw _ (List.mem_of_getElem? (i := 39) rfl)) (hw _ (List.mem_of_getElem? (i := 36) rfl)) (by decide) (by decide) (Vm.MethodsKnown.alikeC hZ.alike hTK) (Vm.FramesKnown.alikeC hZ.alike hK)) (g := (mkF m 205 #[.val (.int p1), .val (.int p2), .val (.int p3), .val (.int p4), .val (.int p5), .val (.int ((p3 &&& (255 : Int32)).toUInt32.toUInt16.toUInt32.toInt32)), .val (.int ((p4 &&& (255 : Int32)).toUInt32.toUInt16.toUInt32.toInt32)), .val (.int ((p5 &&& (255 : Int32)).toUInt32.toUInt16.toUInt32.toInt32)), .val (.int n8), .val (.ref x9), .val (.int (1 : Int32)), .val .null, .val (.int (0 : Int32)), .unset, .unset] [.null, (.ref b3), (.ref b3), (.ref b2), (.ref b2)])) rfl (by rw [hml]; rfl) (Steps.refl _) (a := b3) (argsL := [.null]) (rest := [(.ref b3), (.ref b2), (.ref b2)]) (lenOf pd_rm0_0 rfl) rfl (by show 2 * 0 + _ ≤ _; exact Nat.le_of_eq rfl) (hb hby at_205) (fun _ _ => ⟨rfl, e3, (by decide : 8 + 1 ≤ _), (by decide : 48 + 2752 ≤ _)⟩)
        dsimp only [Pt.U, Pt.locs, Pt.cells, Pt.slots] at X4 l4 y4 z4 st4 hQ4
        subst y4 z4
        obtain ⟨h4, e4⟩ : ∃ z, T4.heap = z := ⟨_, rfl⟩
        rw [e4] at hQ4
        obtain ⟨rfl, Nq4, Kq4, F_detailMessage_q4⟩ := hQ4
        have N4 : Fr n0 L4 := l4 ▸ Fr.app N1 Nq4
        refine GlW.st (fun _ kk => st4.trans kk) ?_
        have sfk4 : ∀ x ∈ [b3], Safe Z consts_1 _ _ x := (allS (Safe.exa hZ.alike Exa_b3 (by decide) (by decide)) all0)
        have HC4 := HC3.trans (CHr.keep Kq4 sfk4 HC3.1)
        have hk4 := Nat.le_trans hk3 Kq4.1
        replace Exa_x9 := Exa_x9.keep Kq4
        replace Exa_b2 := Exa_b2.keep Kq4
        replace F_invalid_b2 := F_invalid_b2.keep Kq4 (ninS ne_b2_b3 nin0)
        replace F_unsupported_b2 := F_unsupported_b2.keep Kq4 (ninS ne_b2_b3 nin0)
        replace Exa_b3 := Exa_b3.keep Kq4
        have O4 := O3.keep Kq4 (allS ge_b3 all0)
        have K4 := K3.trans Kq4 (allS (Or.inr fr_b3) all0)
        have F_detailMessage_b3 := F_detailMessage_q4
        clear st4
        clear O3 K3 N1 HC3 hk3 X3 e3
        show GlW Z consts_1 p e below s _ _ _ T4 (mkF m 208 #[.val (.int p1), .val (.int p2), .val (.int p3), .val (.int p4), .val (.int p5), .val (.int ((p3 &&& (255 : Int32)).toUInt32.toUInt16.toUInt32.toInt32)), .val (.int ((p4 &&& (255 : Int32)).toUInt32.toUInt16.toUInt32.toInt32)), .val (.int ((p5 &&& (255 : Int32)).toUInt32.toUInt16.toUInt32.toInt32)), .val (.int n8), .val (.ref x9), .val (.int (1 : Int32)), .val .null, .val (.int (0 : Int32)), .unset, .unset] [(.ref b3), (.ref b2), (.ref b2)])
        obtain ⟨v5, _, ⟨T5, L5, kQ5, nQ5⟩, -, X5, ⟨Lc5, hQ5, l5, y5, z5⟩, st5⟩ := X4.specialBack hx (y := (⟨"com/example/explain_locks/explainlocks/schema/RowFault", "<init>", "(Lcom/example/explain_locks/explainlocks/UnsupportedInputException;)V"⟩ : MethodName)) rfl hown (mvT hZ (hw _ (List.mem_of_getElem? (i := 88) rfl))) (mvT hZ (hw _ (List.mem_of_getElem? (i := 89) rfl))) (mvT hZ (hw _ (List.mem_of_getElem? (i := 90) rfl))) (by decide) (backOf (W := 1) (rmFU l Z a0 hw [] b2 b3 h4 n0 O4 Exa_b2 F_invalid_b2 F_unsupported_b2 ge_b2) hZ (hw _ (List.mem_of_getElem? (i := 90) rfl)) (hw _ (List.mem_of_getElem? (i := 33) rfl)) (by decide) (by decide)) (g := (mkF m 208 #[.val (.int p1), .val (.int p2), .val (.int p3), .val (.int p4), .val (.int p5), .val (.int ((p3 &&& (255 : Int32)).toUInt32.toUInt16.toUInt32.toInt32)), .val (.int ((p4 &&& (255 : Int32)).toUInt32.toUInt16.toUInt32.toInt32)), .val (.int ((p5 &&& (255 : Int32)).toUInt32.toUInt16.toUInt32.toInt32)), .val (.int n8), .val (.ref x9), .val (.int (1 : Int32)), .val .null, .val (.int (0 : Int32)), .unset, .unset] [(.ref b3), (.ref b2), (.ref b2)])) rfl (by rw [hml]; rfl) (Steps.refl _) (a := b2) (argsL := [(.ref b3)]) (rest := [(.ref b2)]) (lenOf pd_rm0_1 rfl) rfl (by show 2 * 0 + _ ≤ _; exact Nat.le_of_eq rfl) (hb hby at_208) (fun _ _ => ⟨rfl, e4, (by decide : 9 + 0 ≤ _), (by decide : 2800 + 0 ≤ _)⟩)
        dsimp only [Pt.U, Pt.locs, Pt.cells, Pt.slots] at X5 l5 y5 z5 st5 hQ5
        subst y5 z5
        obtain ⟨h5, e5⟩ : ∃ z, T5.heap = z := ⟨_, rfl⟩
        rw [e5] at hQ5
        obtain ⟨rfl, Nq5, Kq5, F_invalid_q5, F_unsupported_q5⟩ := hQ5
        have N5 : Fr n0 L5 := l5 ▸ Fr.app N4 Nq5
        refine GlW.st (fun _ kk => st5.trans kk) ?_
        have sfk5 : ∀ x ∈ [b2], Safe Z consts_1 _ _ x := (allS (Safe.exa hZ.alike Exa_b2 (by decide) (by decide)) all0)
        have HC5 := HC4.trans (CHr.keep Kq5 sfk5 HC4.1)
        have hk5 := Nat.le_trans hk4 Kq5.1
        replace Exa_x9 := Exa_x9.keep Kq5
        replace Exa_b2 := Exa_b2.keep Kq5
        replace Exa_b3 := Exa_b3.keep Kq5
        replace F_detailMessage_b3 := F_detailMessage_b3.keep Kq5 (ninS (Ne.symm ne_b2_b3) nin0)
        have O5 := O4.keep Kq5 (allS ge_b2 all0)
        have K5 := K4.trans Kq5 (allS (Or.inr fr_b2) all0)
        have F_invalid_b2 := F_invalid_q5
        have F_unsupported_b2 := F_unsupported_q5
        clear st5
        clear O4 K4 N4 HC4 hk4 X4 e4
        show GlW Z consts_1 p e below s _ _ _ T5 (mkF m 211 #[.val (.int p1), .val (.int p2), .val (.int p3), .val (.int p4), .val (.int p5), .val (.int ((p3 &&& (255 : Int32)).toUInt32.toUInt16.toUInt32.toInt32)), .val (.int ((p4 &&& (255 : Int32)).toUInt32.toUInt16.toUInt32.toInt32)), .val (.int ((p5 &&& (255 : Int32)).toUInt32.toUInt16.toUInt32.toInt32)), .val (.int n8), .val (.ref x9), .val (.int (1 : Int32)), .val .null, .val (.int (0 : Int32)), .unset, .unset] [(.ref b2)])
        refine GlW.st (fun _ kk => XS.astore X5.here hx rfl (hb hby at_211) rfl rfl (l' := #[.val (.int p1), .val (.int p2), .val (.int p3), .val (.int p4), .val (.int p5), .val (.int ((p3 &&& (255 : Int32)).toUInt32.toUInt16.toUInt32.toInt32)), .val (.int ((p4 &&& (255 : Int32)).toUInt32.toUInt16.toUInt32.toInt32)), .val (.int ((p5 &&& (255 : Int32)).toUInt32.toUInt16.toUInt32.toInt32)), .val (.int n8), .val (.ref x9), .val (.int (1 : Int32)), .val .null, .val (.int (0 : Int32)), .val (.ref b2), .unset]) rfl kk) ?_
        show GlW Z consts_1 p e below s _ _ _ T5 (mkF m 213 #[.val (.int p1), .val (.int p2), .val (.int p3), .val (.int p4), .val (.int p5), .val (.int ((p3 &&& (255 : Int32)).toUInt32.toUInt16.toUInt32.toInt32)), .val (.int ((p4 &&& (255 : Int32)).toUInt32.toUInt16.toUInt32.toInt32)), .val (.int ((p5 &&& (255 : Int32)).toUInt32.toUInt16.toUInt32.toInt32)), .val (.int n8), .val (.ref x9), .val (.int (1 : Int32)), .val .null, .val (.int (0 : Int32)), .val (.ref b2), .unset] [])
        refine GlW.st (fun _ kk => XS.aload X5.here hx rfl (hb hby at_213) rfl rfl kk) ?_
        show GlW Z consts_1 p e below s _ _ _ T5 (mkF m 215 #[.val (.int p1), .val (.int p2), .val (.int p3), .val (.int p4), .val (.int p5), .val (.int ((p3 &&& (255 : Int32)).toUInt32.toUInt16.toUInt32.toInt32)), .val (.int ((p4 &&& (255 : Int32)).toUInt32.toUInt16.toUInt32.toInt32)), .val (.int ((p5 &&& (255 : Int32)).toUInt32.toUInt16.toUInt32.toInt32)), .val (.int n8), .val (.ref x9), .val (.int (1 : Int32)), .val .null, .val (.int (0 : Int32)), .val (.ref b2), .unset] [(.ref b2)])
        obtain ⟨cq6, kq6, qa6, qb6, qc6⟩ := isOf (s := s.setVm vJ1) hZ e5 Exa_b2
        obtain ⟨v6, _, ⟨T6, L6, kQ6, nQ6⟩, -, X6, ⟨Lc6, hQ6, l6, y6, z6⟩, st6⟩ := X5.virtualBack hx (y := (⟨"com/example/explain_locks/explainlocks/schema/RowFault", "message", "()Ljava/lang/String;"⟩ : MethodName)) (z := (⟨"com/example/explain_locks/explainlocks/schema/RowFault", "message", "()Ljava/lang/String;"⟩ : MethodName)) hown (mvT hZ (hw _ (List.mem_of_getElem? (i := 96) rfl))) (mvT hZ (hw _ (List.mem_of_getElem? (i := 97) rfl))) (notFace_of_selects (args := #[]) (mvT hZ (hw _ (List.mem_of_getElem? (i := 99) rfl)))) (mvT hZ (hw _ (List.mem_of_getElem? (i := 99) rfl))) (mvT hZ (hw _ (List.mem_of_getElem? (i := 98) rfl))) (by decide) (backOf (W := 0) (rmMU1 l Z a0 hw [] b2 b3  h5 n0 O5 F_invalid_b2 F_unsupported_b2 Exa_b3 F_detailMessage_b3) hZ (hw _ (List.mem_of_getElem? (i := 100) rfl)) (hw _ (List.mem_of_getElem? (i := 33) rfl)) (by decide) (by decide)) qa6 qc6 (g := (mkF m 215 #[.val (.int p1), .val (.int p2), .val (.int p3), .val (.int p4), .val (.int p5), .val (.int ((p3 &&& (255 : Int32)).toUInt32.toUInt16.toUInt32.toInt32)), .val (.int ((p4 &&& (255 : Int32)).toUInt32.toUInt16.toUInt32.toInt32)), .val (.int ((p5 &&& (255 : Int32)).toUInt32.toUInt16.toUInt32.toInt32)), .val (.int n8), .val (.ref x9), .val (.int (1 : Int32)), .val .null, .val (.int (0 : Int32)), .val (.ref b2), .unset] [(.ref b2)])) rfl (by rw [hml]; rfl) (Steps.refl _) (argsL := []) (rest := []) (lenOf pd_rm0_2 rfl) rfl (by show 2 * 0 + _ ≤ _; exact Nat.le_of_eq rfl) (hb hby at_215) (fun _ _ => ⟨rfl, e5, (by decide : 9 + 0 ≤ _), (by decide : 2800 + 0 ≤ _)⟩)
        dsimp only [Pt.U, Pt.locs, Pt.cells, Pt.slots] at X6 l6 y6 z6 st6 hQ6
        subst y6 z6
        obtain ⟨rfl, Nq6, e6⟩ := hQ6
        have N6 : Fr n0 L6 := l6 ▸ Fr.app N5 Nq6
        refine GlW.st (fun _ kk => st6.trans kk) ?_
        clear st6 qc6 qb6 qa6 kq6 cq6
        clear N5 X5 e5
        show GlW Z consts_1 p e below s _ _ _ T6 (mkF m 218 #[.val (.int p1), .val (.int p2), .val (.int p3), .val (.int p4), .val (.int p5), .val (.int ((p3 &&& (255 : Int32)).toUInt32.toUInt16.toUInt32.toInt32)), .val (.int ((p4 &&& (255 : Int32)).toUInt32.toUInt16.toUInt32.toInt32)), .val (.int ((p5 &&& (255 : Int32)).toUInt32.toUInt16.toUInt32.toInt32)), .val (.int n8), .val (.ref x9), .val (.int (1 : Int32)), .val .null, .val (.int (0 : Int32)), .val (.ref b2), .unset] [.null])
        refine GlW.st (fun _ kk => XS.astore X6.here hx rfl (hb hby at_218) rfl rfl (l' := #[.val (.int p1), .val (.int p2), .val (.int p3), .val (.int p4), .val (.int p5), .val (.int ((p3 &&& (255 : Int32)).toUInt32.toUInt16.toUInt32.toInt32)), .val (.int ((p4 &&& (255 : Int32)).toUInt32.toUInt16.toUInt32.toInt32)), .val (.int ((p5 &&& (255 : Int32)).toUInt32.toUInt16.toUInt32.toInt32)), .val (.int n8), .val (.ref x9), .val (.int (1 : Int32)), .val .null, .val (.int (0 : Int32)), .val (.ref b2), .val .null]) rfl kk) ?_
        show GlW Z consts_1 p e below s _ _ _ T6 (mkF m 220 #[.val (.int p1), .val (.int p2), .val (.int p3), .val (.int p4), .val (.int p5), .val (.int ((p3 &&& (255 : Int32)).toUInt32.toUInt16.toUInt32.toInt32)), .val (.int ((p4 &&& (255 : Int32)).toUInt32.toUInt16.toUInt32.toInt32)), .val (.int ((p5 &&& (255 : Int32)).toUInt32.toUInt16.toUInt32.toInt32)), .val (.int n8), .val (.ref x9), .val (.int (1 : Int32)), .val .null, .val (.int (0 : Int32)), .val (.ref b2), .val .null] [])
        refine GlW.st (fun _ kk => XS.iload X6.here hx rfl (hb hby at_220) rfl kk) ?_
        show GlW Z consts_1 p e below s _ _ _ T6 (mkF m 222 #[.val (.int p1), .val (.int p2), .val (.int p3), .val (.int p4), .val (.int p5), .val (.int ((p3 &&& (255 : Int32)).toUInt32.toUInt16.toUInt32.toInt32)), .val (.int ((p4 &&& (255 : Int32)).toUInt32.toUInt16.toUInt32.toInt32)), .val (.int ((p5 &&& (255 : Int32)).toUInt32.toUInt16.toUInt32.toInt32)), .val (.int n8), .val (.ref x9), .val (.int (1 : Int32)), .val .null, .val (.int (0 : Int32)), .val (.ref b2), .val .null] [(.int (1 : Int32))])
        refine GlW.st (fun _ kk => XS.ifNo X6.here hx rfl (hb hby at_222) rfl ((if0 _ _).trans (feq (by decide : ¬ ((1 : Int32) = (0 : Int32)))).1) kk) ?_
        show GlW Z consts_1 p e below s _ _ _ T6 (mkF m 225 #[.val (.int p1), .val (.int p2), .val (.int p3), .val (.int p4), .val (.int p5), .val (.int ((p3 &&& (255 : Int32)).toUInt32.toUInt16.toUInt32.toInt32)), .val (.int ((p4 &&& (255 : Int32)).toUInt32.toUInt16.toUInt32.toInt32)), .val (.int ((p5 &&& (255 : Int32)).toUInt32.toUInt16.toUInt32.toInt32)), .val (.int n8), .val (.ref x9), .val (.int (1 : Int32)), .val .null, .val (.int (0 : Int32)), .val (.ref b2), .val .null] [])
        refine GlW.st (fun _ kk => XS.aload X6.here hx rfl (hb hby at_225) rfl rfl kk) ?_
        show GlW Z consts_1 p e below s _ _ _ T6 (mkF m 227 #[.val (.int p1), .val (.int p2), .val (.int p3), .val (.int p4), .val (.int p5), .val (.int ((p3 &&& (255 : Int32)).toUInt32.toUInt16.toUInt32.toInt32)), .val (.int ((p4 &&& (255 : Int32)).toUInt32.toUInt16.toUInt32.toInt32)), .val (.int ((p5 &&& (255 : Int32)).toUInt32.toUInt16.toUInt32.toInt32)), .val (.int n8), .val (.ref x9), .val (.int (1 : Int32)), .val .null, .val (.int (0 : Int32)), .val (.ref b2), .val .null] [.null])
        refine GlW.st (fun _ kk => XS.ifnonnullNo X6.here hx rfl (hb hby at_227) rfl kk) ?_
        show GlW Z consts_1 p e below s _ _ _ T6 (mkF m 230 #[.val (.int p1), .val (.int p2), .val (.int p3), .val (.int p4), .val (.int p5), .val (.int ((p3 &&& (255 : Int32)).toUInt32.toUInt16.toUInt32.toInt32)), .val (.int ((p4 &&& (255 : Int32)).toUInt32.toUInt16.toUInt32.toInt32)), .val (.int ((p5 &&& (255 : Int32)).toUInt32.toUInt16.toUInt32.toInt32)), .val (.int n8), .val (.ref x9), .val (.int (1 : Int32)), .val .null, .val (.int (0 : Int32)), .val (.ref b2), .val .null] [])
        refine GlW.st (fun _ kk => XS.iconst X6.here hx rfl (hb hby at_230) kk) ?_
        show GlW Z consts_1 p e below s _ _ _ T6 (mkF m 231 #[.val (.int p1), .val (.int p2), .val (.int p3), .val (.int p4), .val (.int p5), .val (.int ((p3 &&& (255 : Int32)).toUInt32.toUInt16.toUInt32.toInt32)), .val (.int ((p4 &&& (255 : Int32)).toUInt32.toUInt16.toUInt32.toInt32)), .val (.int ((p5 &&& (255 : Int32)).toUInt32.toUInt16.toUInt32.toInt32)), .val (.int n8), .val (.ref x9), .val (.int (1 : Int32)), .val .null, .val (.int (0 : Int32)), .val (.ref b2), .val .null] [(.int (1 : Int32))])
        refine GlW.st (fun _ kk => XS.goto X6.here hx rfl (pc0 := 231) (pc' := 235) rfl (hb hby at_231) (by decide) (by decide) kk) ?_
        show GlW Z consts_1 p e below s _ _ _ T6 (mkF m 235 #[.val (.int p1), .val (.int p2), .val (.int p3), .val (.int p4), .val (.int p5), .val (.int ((p3 &&& (255 : Int32)).toUInt32.toUInt16.toUInt32.toInt32)), .val (.int ((p4 &&& (255 : Int32)).toUInt32.toUInt16.toUInt32.toInt32)), .val (.int ((p5 &&& (255 : Int32)).toUInt32.toUInt16.toUInt32.toInt32)), .val (.int n8), .val (.ref x9), .val (.int (1 : Int32)), .val .null, .val (.int (0 : Int32)), .val (.ref b2), .val .null] [(.int (1 : Int32))])
        exact GlW.ret X6 hS1 hk5 hZ hEL hh0 HC5 (v := (some (.int (1 : Int32)))) (fun h => by rw [Bd.returns] at h; cases h) (BodyLoose.notSynchronized Bd) (fun hr => retN X6 hx (t := .boolean) Bd.returns (by simp) (hb hby at_235) hr) e6 ⟨rfl, N6⟩ (by decide) (by decide)
      · skip
        refine GlW.st (fun _ kk => XS.ifNo X1.here hx rfl (hb hby at_159) rfl ((if0 _ _).trans (feq hc159).1) kk) ?_
        show GlW Z consts_1 p e below s _ _ _ T1 (mkF m 162 #[.val (.int p1), .val (.int p2), .val (.int p3), .val (.int p4), .val (.int p5), .val (.int ((p3 &&& (255 : Int32)).toUInt32.toUInt16.toUInt32.toInt32)), .val (.int ((p4 &&& (255 : Int32)).toUInt32.toUInt16.toUInt32.toInt32)), .val (.int ((p5 &&& (255 : Int32)).toUInt32.toUInt16.toUInt32.toInt32)), .val (.int n8), .val (.ref x9), .val (.int (1 : Int32)), .val .null, .unset, .unset, .unset] [])
        refine GlW.st (fun _ kk => XS.iconst X1.here hx rfl (hb hby at_162) kk) ?_
        show GlW Z consts_1 p e below s _ _ _ T1 (mkF m 163 #[.val (.int p1), .val (.int p2), .val (.int p3), .val (.int p4), .val (.int p5), .val (.int ((p3 &&& (255 : Int32)).toUInt32.toUInt16.toUInt32.toInt32)), .val (.int ((p4 &&& (255 : Int32)).toUInt32.toUInt16.toUInt32.toInt32)), .val (.int ((p5 &&& (255 : Int32)).toUInt32.toUInt16.toUInt32.toInt32)), .val (.int n8), .val (.ref x9), .val (.int (1 : Int32)), .val .null, .unset, .unset, .unset] [(.int (1 : Int32))])
        refine GlW.st (fun _ kk => XS.goto X1.here hx rfl (pc0 := 163) (pc' := 167) rfl (hb hby at_163) (by decide) (by decide) kk) ?_
        show GlW Z consts_1 p e below s _ _ _ T1 (mkF m 167 #[.val (.int p1), .val (.int p2), .val (.int p3), .val (.int p4), .val (.int p5), .val (.int ((p3 &&& (255 : Int32)).toUInt32.toUInt16.toUInt32.toInt32)), .val (.int ((p4 &&& (255 : Int32)).toUInt32.toUInt16.toUInt32.toInt32)), .val (.int ((p5 &&& (255 : Int32)).toUInt32.toUInt16.toUInt32.toInt32)), .val (.int n8), .val (.ref x9), .val (.int (1 : Int32)), .val .null, .unset, .unset, .unset] [(.int (1 : Int32))])
        refine GlW.st (fun _ kk => XS.istore X1.here hx rfl (hb hby at_167) rfl (l' := #[.val (.int p1), .val (.int p2), .val (.int p3), .val (.int p4), .val (.int p5), .val (.int ((p3 &&& (255 : Int32)).toUInt32.toUInt16.toUInt32.toInt32)), .val (.int ((p4 &&& (255 : Int32)).toUInt32.toUInt16.toUInt32.toInt32)), .val (.int ((p5 &&& (255 : Int32)).toUInt32.toUInt16.toUInt32.toInt32)), .val (.int n8), .val (.ref x9), .val (.int (1 : Int32)), .val .null, .val (.int (1 : Int32)), .unset, .unset]) rfl kk) ?_
        show GlW Z consts_1 p e below s _ _ _ T1 (mkF m 169 #[.val (.int p1), .val (.int p2), .val (.int p3), .val (.int p4), .val (.int p5), .val (.int ((p3 &&& (255 : Int32)).toUInt32.toUInt16.toUInt32.toInt32)), .val (.int ((p4 &&& (255 : Int32)).toUInt32.toUInt16.toUInt32.toInt32)), .val (.int ((p5 &&& (255 : Int32)).toUInt32.toUInt16.toUInt32.toInt32)), .val (.int n8), .val (.ref x9), .val (.int (1 : Int32)), .val .null, .val (.int (1 : Int32)), .unset, .unset] [])
        refine GlW.st (fun _ kk => XS.iload X1.here hx rfl (hb hby at_169) rfl kk) ?_
        show GlW Z consts_1 p e below s _ _ _ T1 (mkF m 171 #[.val (.int p1), .val (.int p2), .val (.int p3), .val (.int p4), .val (.int p5), .val (.int ((p3 &&& (255 : Int32)).toUInt32.toUInt16.toUInt32.toInt32)), .val (.int ((p4 &&& (255 : Int32)).toUInt32.toUInt16.toUInt32.toInt32)), .val (.int ((p5 &&& (255 : Int32)).toUInt32.toUInt16.toUInt32.toInt32)), .val (.int n8), .val (.ref x9), .val (.int (1 : Int32)), .val .null, .val (.int (1 : Int32)), .unset, .unset] [(.int (1 : Int32))])
        refine GlW.st (fun _ kk => XS.ifNo X1.here hx rfl (hb hby at_171) rfl ((if0 _ _).trans (feq (by decide : ¬ ((1 : Int32) = (0 : Int32)))).1) kk) ?_
        show GlW Z consts_1 p e below s _ _ _ T1 (mkF m 174 #[.val (.int p1), .val (.int p2), .val (.int p3), .val (.int p4), .val (.int p5), .val (.int ((p3 &&& (255 : Int32)).toUInt32.toUInt16.toUInt32.toInt32)), .val (.int ((p4 &&& (255 : Int32)).toUInt32.toUInt16.toUInt32.toInt32)), .val (.int ((p5 &&& (255 : Int32)).toUInt32.toUInt16.toUInt32.toInt32)), .val (.int n8), .val (.ref x9), .val (.int (1 : Int32)), .val .null, .val (.int (1 : Int32)), .unset, .unset] [])
        obtain ⟨T7, h7, X7, e7, E7, A7, D7, V7, st7⟩ := newO X1 hx hZ hown (hw _ (List.mem_of_getElem? (i := 31) rfl)) (hw _ (List.mem_of_getElem? (i := 32) rfl)) (hw _ (List.mem_of_getElem? (i := 33) rfl)) e1 (g := (mkF m 174 #[.val (.int p1), .val (.int p2), .val (.int p3), .val (.int p4), .val (.int p5), .val (.int ((p3 &&& (255 : Int32)).toUInt32.toUInt16.toUInt32.toInt32)), .val (.int ((p4 &&& (255 : Int32)).toUInt32.toUInt16.toUInt32.toInt32)), .val (.int ((p5 &&& (255 : Int32)).toUInt32.toUInt16.toUInt32.toInt32)), .val (.int n8), .val (.ref x9), .val (.int (1 : Int32)), .val .null, .val (.int (1 : Int32)), .unset, .unset] [])) rfl (hb hby at_174) (by decide) (by decide)
        obtain ⟨b7, g7⟩ : ∃ z, z = h1.size := ⟨_, rfl⟩
        rw [← g7] at A7 D7 V7 st7
        refine GlW.st st7 ?_
        have ne_x9_b7 : x9 ≠ b7 := Nat.ne_of_lt (Nat.lt_of_lt_of_eq Exa_x9.lt g7.symm)
        have ge_b7 : n0 ≤ b7 := Nat.le_trans (Nat.le_trans (Nat.le_of_eq O1.1.symm) O1.2.1) (Nat.le_of_eq g7.symm)
        have fr_b7 : h0.size ≤ b7 := Nat.le_trans K1.1 (Nat.le_of_eq g7.symm)
        have HC7 := HC1.trans (CHr.ext E7 HC1.1)
        have hk7 := Nat.le_trans hk1 E7.1
        replace Exa_x9 := Exa_x9.ext E7
        have O7 := O1.ext E7
        have K7 := K1.ext E7
        have Exa_b7 := A7
        have F_invalid_b7 : Fld Z h7 b7 "com/example/explain_locks/explainlocks/schema/RowFault" "invalid" "Lcom/example/explain_locks/explainlocks/InvalidInputException;" .null := D7 (Or.inr (hw _ (List.mem_of_getElem? (i := 93) rfl))) (ty := (.object "com/example/explain_locks/explainlocks/InvalidInputException")) (by decide)
        have F_unsupported_b7 : Fld Z h7 b7 "com/example/explain_locks/explainlocks/schema/RowFault" "unsupported" "Lcom/example/explain_locks/explainlocks/UnsupportedInputException;" .null := D7 (Or.inr (hw _ (List.mem_of_getElem? (i := 95) rfl))) (ty := (.object "com/example/explain_locks/explainlocks/UnsupportedInputException")) (by decide)
        show GlW Z consts_1 p e below s _ _ _ T7 (mkF m 177 #[.val (.int p1), .val (.int p2), .val (.int p3), .val (.int p4), .val (.int p5), .val (.int ((p3 &&& (255 : Int32)).toUInt32.toUInt16.toUInt32.toInt32)), .val (.int ((p4 &&& (255 : Int32)).toUInt32.toUInt16.toUInt32.toInt32)), .val (.int ((p5 &&& (255 : Int32)).toUInt32.toUInt16.toUInt32.toInt32)), .val (.int n8), .val (.ref x9), .val (.int (1 : Int32)), .val .null, .val (.int (1 : Int32)), .unset, .unset] [(.ref b7)])
        refine GlW.st (fun _ kk => XS.dup X7.here hx rfl (hb hby at_177) rfl rfl kk) ?_
        show GlW Z consts_1 p e below s _ _ _ T7 (mkF m 178 #[.val (.int p1), .val (.int p2), .val (.int p3), .val (.int p4), .val (.int p5), .val (.int ((p3 &&& (255 : Int32)).toUInt32.toUInt16.toUInt32.toInt32)), .val (.int ((p4 &&& (255 : Int32)).toUInt32.toUInt16.toUInt32.toInt32)), .val (.int ((p5 &&& (255 : Int32)).toUInt32.toUInt16.toUInt32.toInt32)), .val (.int n8), .val (.ref x9), .val (.int (1 : Int32)), .val .null, .val (.int (1 : Int32)), .unset, .unset] [(.ref b7), (.ref b7)])
        obtain ⟨T8, h8, X8, e8, E8, A8, D8, V8, st8⟩ := newO X7 hx hZ hown (hw _ (List.mem_of_getElem? (i := 115) rfl)) (hw _ (List.mem_of_getElem? (i := 116) rfl)) (hw _ (List.mem_of_getElem? (i := 117) rfl)) e7 (g := (mkF m 178 #[.val (.int p1), .val (.int p2), .val (.int p3), .val (.int p4), .val (.int p5), .val (.int ((p3 &&& (255 : Int32)).toUInt32.toUInt16.toUInt32.toInt32)), .val (.int ((p4 &&& (255 : Int32)).toUInt32.toUInt16.toUInt32.toInt32)), .val (.int ((p5 &&& (255 : Int32)).toUInt32.toUInt16.toUInt32.toInt32)), .val (.int n8), .val (.ref x9), .val (.int (1 : Int32)), .val .null, .val (.int (1 : Int32)), .unset, .unset] [(.ref b7), (.ref b7)])) rfl (hb hby at_178) (by decide) (by decide)
        obtain ⟨b8, g8⟩ : ∃ z, z = h7.size := ⟨_, rfl⟩
        rw [← g8] at A8 D8 V8 st8
        refine GlW.st st8 ?_
        have ne_b7_b8 : b7 ≠ b8 := Nat.ne_of_lt (Nat.lt_of_lt_of_eq Exa_b7.lt g8.symm)
        have ne_x9_b8 : x9 ≠ b8 := Nat.ne_of_lt (Nat.lt_of_lt_of_eq Exa_x9.lt g8.symm)
        have ge_b8 : n0 ≤ b8 := Nat.le_trans (Nat.le_trans (Nat.le_of_eq O7.1.symm) O7.2.1) (Nat.le_of_eq g8.symm)
        have fr_b8 : h0.size ≤ b8 := Nat.le_trans K7.1 (Nat.le_of_eq g8.symm)
        have HC8 := HC7.trans (CHr.ext E8 HC7.1)
        have hk8 := Nat.le_trans hk7 E8.1
        replace Exa_x9 := Exa_x9.ext E8
        replace Exa_b7 := Exa_b7.ext E8
        replace F_invalid_b7 := F_invalid_b7.ext E8
        replace F_unsupported_b7 := F_unsupported_b7.ext E8
        have O8 := O7.ext E8
        have K8 := K7.ext E8
        have Exa_b8 := A8
        have F_cause_b8 : Fld Z h8 b8 "java/lang/Throwable" "cause" "Ljava/lang/Throwable;" .null := D8 (Or.inl (hw _ (List.mem_of_getElem? (i := 123) rfl))) (ty := (.object "java/lang/Throwable")) (by decide)
        have F_stackTrace_b8 : Fld Z h8 b8 "java/lang/Throwable" "stackTrace" "[Ljava/lang/StackTraceElement;" .null := D8 (Or.inl (hw _ (List.mem_of_getElem? (i := 124) rfl))) (ty := (.array (.object "java/lang/StackTraceElement"))) (by decide)
        have F_suppressedExceptions_b8 : Fld Z h8 b8 "java/lang/Throwable" "suppressedExceptions" "Ljava/util/List;" .null := D8 (Or.inl (hw _ (List.mem_of_getElem? (i := 125) rfl))) (ty := (.object "java/util/List")) (by decide)
        have F_detailMessage_b8 : Fld Z h8 b8 "java/lang/Throwable" "detailMessage" "Ljava/lang/String;" .null := D8 (Or.inl (hw _ (List.mem_of_getElem? (i := 128) rfl))) (ty := (.object "java/lang/String")) (by decide)
        have F_backtrace_b8 : Fld Z h8 b8 "java/lang/Throwable" "backtrace" "Ljava/lang/Object;" .null := D8 (Or.inl (hw _ (List.mem_of_getElem? (i := 129) rfl))) (ty := (.object "java/lang/Object")) (by decide)
        have F_depth_b8 : Fld Z h8 b8 "java/lang/Throwable" "depth" "I" (.int (0 : Int32)) := D8 (Or.inl (hw _ (List.mem_of_getElem? (i := 130) rfl))) (ty := .int) (by decide)
        show GlW Z consts_1 p e below s _ _ _ T8 (mkF m 181 #[.val (.int p1), .val (.int p2), .val (.int p3), .val (.int p4), .val (.int p5), .val (.int ((p3 &&& (255 : Int32)).toUInt32.toUInt16.toUInt32.toInt32)), .val (.int ((p4 &&& (255 : Int32)).toUInt32.toUInt16.toUInt32.toInt32)), .val (.int ((p5 &&& (255 : Int32)).toUInt32.toUInt16.toUInt32.toInt32)), .val (.int n8), .val (.ref x9), .val (.int (1 : Int32)), .val .null, .val (.int (1 : Int32)), .unset, .unset] [(.ref b8), (.ref b7), (.ref b7)])
        refine GlW.st (fun _ kk => XS.dup X8.here hx rfl (hb hby at_181) rfl rfl kk) ?_
        show GlW Z consts_1 p e below s _ _ _ T8 (mkF m 182 #[.val (.int p1), .val (.int p2), .val (.int p3), .val (.int p4), .val (.int p5), .val (.int ((p3 &&& (255 : Int32)).toUInt32.toUInt16.toUInt32.toInt32)), .val (.int ((p4 &&& (255 : Int32)).toUInt32.toUInt16.toUInt32.toInt32)), .val (.int ((p5 &&& (255 : Int32)).toUInt32.toUInt16.toUInt32.toInt32)), .val (.int n8), .val (.ref x9), .val (.int (1 : Int32)), .val .null, .val (.int (1 : Int32)), .unset, .unset] [(.ref b8), (.ref b8), (.ref b7), (.ref b7)])
        refine GlW.st (fun _ kk => XS.aload X8.here hx rfl (hb hby at_182) rfl rfl kk) ?_
        show GlW Z consts_1 p e below s _ _ _ T8 (mkF m 184 #[.val (.int p1), .val (.int p2), .val (.int p3), .val (.int p4), .val (.int p5), .val (.int ((p3 &&& (255 : Int32)).toUInt32.toUInt16.toUInt32.toInt32)), .val (.int ((p4 &&& (255 : Int32)).toUInt32.toUInt16.toUInt32.toInt32)), .val (.int ((p5 &&& (255 : Int32)).toUInt32.toUInt16.toUInt32.toInt32)), .val (.int n8), .val (.ref x9), .val (.int (1 : Int32)), .val .null, .val (.int (1 : Int32)), .unset, .unset] [.null, (.ref b8), (.ref b8), (.ref b7), (.ref b7)])
        obtain ⟨v9, _, ⟨T9, L9, kQ9, nQ9⟩, -, X9, ⟨Lc9, hQ9, l9, y9, z9⟩, st9⟩ := X8.specialBack hx (y := (⟨"com/example/explain_locks/explainlocks/InvalidInputException", "<init>", "(Ljava/lang/String;)V"⟩ : MethodName)) rfl hown (mvT hZ (hw _ (List.mem_of_getElem? (i := 118) rfl))) (mvT hZ (hw _ (List.mem_of_getElem? (i := 119) rfl))) (mvT hZ (hw _ (List.mem_of_getElem? (i := 120) rfl))) (by decide) (backOfKL (W := 3) (rmCI l Z a0 hw [] b8 .null uU uS h8 n0 O8 Exa_b8 V8 F_cause_b8 F_stackTrace_b8 F_suppressedExceptions_b8 F_backtrace_b8 F_detailMessage_b8 ge_b8 S_U S_S hl rfl) hZ (hw _ (List.mem_of_getElem? (i := 120) rfl)) (hw _ (List.mem_of_getElem? (i := 117) rfl)) (by decide) (by decide) (Vm.MethodsKnown.alikeC hZ.alike hTK) (Vm.FramesKnown.alikeC hZ.alike hK)) (g := (mkF m 184 #[.val (.int p1), .val (.int p2), .val (.int p3), .val (.int p4), .val (.int p5), .val (.int ((p3 &&& (255 : Int32)).toUInt32.toUInt16.toUInt32.toInt32)), .val (.int ((p4 &&& (255 : Int32)).toUInt32.toUInt16.toUInt32.toInt32)), .val (.int ((p5 &&& (255 : Int32)).toUInt32.toUInt16.toUInt32.toInt32)), .val (.int n8), .val (.ref x9), .val (.int (1 : Int32)), .val .null, .val (.int (1 : Int32)), .unset, .unset] [.null, (.ref b8), (.ref b8), (.ref b7), (.ref b7)])) rfl (by rw [hml]; rfl) (Steps.refl _) (a := b8) (argsL := [.null]) (rest := [(.ref b8), (.ref b7), (.ref b7)]) (lenOf pd_rm0_0 rfl) rfl (by show 2 * 0 + _ ≤ _; exact Nat.le_of_eq rfl) (hb hby at_184) (fun _ _ => ⟨rfl, e8, (by decide : 8 + 1 ≤ _), (by decide : 48 + 2752 ≤ _)⟩)
        dsimp only [Pt.U, Pt.locs, Pt.cells, Pt.slots] at X9 l9 y9 z9 st9 hQ9
        subst y9 z9
        obtain ⟨h9, e9⟩ : ∃ z, T9.heap = z := ⟨_, rfl⟩
        rw [e9] at hQ9
        obtain ⟨rfl, Nq9, Kq9, F_detailMessage_q9⟩ := hQ9
        have N9 : Fr n0 L9 := l9 ▸ Fr.app N1 Nq9
        refine GlW.st (fun _ kk => st9.trans kk) ?_
        have sfk9 : ∀ x ∈ [b8], Safe Z consts_1 _ _ x := (allS (Safe.exa hZ.alike Exa_b8 (by decide) (by decide)) all0)
        have HC9 := HC8.trans (CHr.keep Kq9 sfk9 HC8.1)
        have hk9 := Nat.le_trans hk8 Kq9.1
        replace Exa_x9 := Exa_x9.keep Kq9
        replace Exa_b7 := Exa_b7.keep Kq9
        replace F_invalid_b7 := F_invalid_b7.keep Kq9 (ninS ne_b7_b8 nin0)
        replace F_unsupported_b7 := F_unsupported_b7.keep Kq9 (ninS ne_b7_b8 nin0)
        replace Exa_b8 := Exa_b8.keep Kq9
        have O9 := O8.keep Kq9 (allS ge_b8 all0)
        have K9 := K8.trans Kq9 (allS (Or.inr fr_b8) all0)
        have F_detailMessage_b8 := F_detailMessage_q9
        clear st9
        clear O8 K8 N1 HC8 hk8 X8 e8
        show GlW Z consts_1 p e below s _ _ _ T9 (mkF m 187 #[.val (.int p1), .val (.int p2), .val (.int p3), .val (.int p4), .val (.int p5), .val (.int ((p3 &&& (255 : Int32)).toUInt32.toUInt16.toUInt32.toInt32)), .val (.int ((p4 &&& (255 : Int32)).toUInt32.toUInt16.toUInt32.toInt32)), .val (.int ((p5 &&& (255 : Int32)).toUInt32.toUInt16.toUInt32.toInt32)), .val (.int n8), .val (.ref x9), .val (.int (1 : Int32)), .val .null, .val (.int (1 : Int32)), .unset, .unset] [(.ref b8), (.ref b7), (.ref b7)])
        obtain ⟨v10, _, ⟨T10, L10, kQ10, nQ10⟩, -, X10, ⟨Lc10, hQ10, l10, y10, z10⟩, st10⟩ := X9.specialBack hx (y := (⟨"com/example/explain_locks/explainlocks/schema/RowFault", "<init>", "(Lcom/example/explain_locks/explainlocks/InvalidInputException;)V"⟩ : MethodName)) rfl hown (mvT hZ (hw _ (List.mem_of_getElem? (i := 132) rfl))) (mvT hZ (hw _ (List.mem_of_getElem? (i := 133) rfl))) (mvT hZ (hw _ (List.mem_of_getElem? (i := 134) rfl))) (by decide) (backOf (W := 1) (rmFI l Z a0 hw [] b7 b8 h9 n0 O9 Exa_b7 F_invalid_b7 F_unsupported_b7 ge_b7) hZ (hw _ (List.mem_of_getElem? (i := 134) rfl)) (hw _ (List.mem_of_getElem? (i := 33) rfl)) (by decide) (by decide)) (g := (mkF m 187 #[.val (.int p1), .val (.int p2), .val (.int p3), .val (.int p4), .val (.int p5), .val (.int ((p3 &&& (255 : Int32)).toUInt32.toUInt16.toUInt32.toInt32)), .val (.int ((p4 &&& (255 : Int32)).toUInt32.toUInt16.toUInt32.toInt32)), .val (.int ((p5 &&& (255 : Int32)).toUInt32.toUInt16.toUInt32.toInt32)), .val (.int n8), .val (.ref x9), .val (.int (1 : Int32)), .val .null, .val (.int (1 : Int32)), .unset, .unset] [(.ref b8), (.ref b7), (.ref b7)])) rfl (by rw [hml]; rfl) (Steps.refl _) (a := b7) (argsL := [(.ref b8)]) (rest := [(.ref b7)]) (lenOf pd_rm0_3 rfl) rfl (by show 2 * 0 + _ ≤ _; exact Nat.le_of_eq rfl) (hb hby at_187) (fun _ _ => ⟨rfl, e9, (by decide : 9 + 0 ≤ _), (by decide : 2800 + 0 ≤ _)⟩)
        dsimp only [Pt.U, Pt.locs, Pt.cells, Pt.slots] at X10 l10 y10 z10 st10 hQ10
        subst y10 z10
        obtain ⟨h10, e10⟩ : ∃ z, T10.heap = z := ⟨_, rfl⟩
        rw [e10] at hQ10
        obtain ⟨rfl, Nq10, Kq10, F_invalid_q10, F_unsupported_q10⟩ := hQ10
        have N10 : Fr n0 L10 := l10 ▸ Fr.app N9 Nq10
        refine GlW.st (fun _ kk => st10.trans kk) ?_
        have sfk10 : ∀ x ∈ [b7], Safe Z consts_1 _ _ x := (allS (Safe.exa hZ.alike Exa_b7 (by decide) (by decide)) all0)
        have HC10 := HC9.trans (CHr.keep Kq10 sfk10 HC9.1)
        have hk10 := Nat.le_trans hk9 Kq10.1
        replace Exa_x9 := Exa_x9.keep Kq10
        replace Exa_b7 := Exa_b7.keep Kq10
        replace Exa_b8 := Exa_b8.keep Kq10
        replace F_detailMessage_b8 := F_detailMessage_b8.keep Kq10 (ninS (Ne.symm ne_b7_b8) nin0)
        have O10 := O9.keep Kq10 (allS ge_b7 all0)
        have K10 := K9.trans Kq10 (allS (Or.inr fr_b7) all0)
        have F_invalid_b7 := F_invalid_q10
        have F_unsupported_b7 := F_unsupported_q10
        clear st10
        clear O9 K9 N9 HC9 hk9 X9 e9
        show GlW Z consts_1 p e below s _ _ _ T10 (mkF m 190 #[.val (.int p1), .val (.int p2), .val (.int p3), .val (.int p4), .val (.int p5), .val (.int ((p3 &&& (255 : Int32)).toUInt32.toUInt16.toUInt32.toInt32)), .val (.int ((p4 &&& (255 : Int32)).toUInt32.toUInt16.toUInt32.toInt32)), .val (.int ((p5 &&& (255 : Int32)).toUInt32.toUInt16.toUInt32.toInt32)), .val (.int n8), .val (.ref x9), .val (.int (1 : Int32)), .val .null, .val (.int (1 : Int32)), .unset, .unset] [(.ref b7)])
        refine GlW.st (fun _ kk => XS.astore X10.here hx rfl (hb hby at_190) rfl rfl (l' := #[.val (.int p1), .val (.int p2), .val (.int p3), .val (.int p4), .val (.int p5), .val (.int ((p3 &&& (255 : Int32)).toUInt32.toUInt16.toUInt32.toInt32)), .val (.int ((p4 &&& (255 : Int32)).toUInt32.toUInt16.toUInt32.toInt32)), .val (.int ((p5 &&& (255 : Int32)).toUInt32.toUInt16.toUInt32.toInt32)), .val (.int n8), .val (.ref x9), .val (.int (1 : Int32)), .val .null, .val (.int (1 : Int32)), .val (.ref b7), .unset]) rfl kk) ?_
        show GlW Z consts_1 p e below s _ _ _ T10 (mkF m 192 #[.val (.int p1), .val (.int p2), .val (.int p3), .val (.int p4), .val (.int p5), .val (.int ((p3 &&& (255 : Int32)).toUInt32.toUInt16.toUInt32.toInt32)), .val (.int ((p4 &&& (255 : Int32)).toUInt32.toUInt16.toUInt32.toInt32)), .val (.int ((p5 &&& (255 : Int32)).toUInt32.toUInt16.toUInt32.toInt32)), .val (.int n8), .val (.ref x9), .val (.int (1 : Int32)), .val .null, .val (.int (1 : Int32)), .val (.ref b7), .unset] [])
        refine GlW.st (fun _ kk => XS.goto X10.here hx rfl (pc0 := 192) (pc' := 213) rfl (hb hby at_192) (by decide) (by decide) kk) ?_
        show GlW Z consts_1 p e below s _ _ _ T10 (mkF m 213 #[.val (.int p1), .val (.int p2), .val (.int p3), .val (.int p4), .val (.int p5), .val (.int ((p3 &&& (255 : Int32)).toUInt32.toUInt16.toUInt32.toInt32)), .val (.int ((p4 &&& (255 : Int32)).toUInt32.toUInt16.toUInt32.toInt32)), .val (.int ((p5 &&& (255 : Int32)).toUInt32.toUInt16.toUInt32.toInt32)), .val (.int n8), .val (.ref x9), .val (.int (1 : Int32)), .val .null, .val (.int (1 : Int32)), .val (.ref b7), .unset] [])
        refine GlW.st (fun _ kk => XS.aload X10.here hx rfl (hb hby at_213) rfl rfl kk) ?_
        show GlW Z consts_1 p e below s _ _ _ T10 (mkF m 215 #[.val (.int p1), .val (.int p2), .val (.int p3), .val (.int p4), .val (.int p5), .val (.int ((p3 &&& (255 : Int32)).toUInt32.toUInt16.toUInt32.toInt32)), .val (.int ((p4 &&& (255 : Int32)).toUInt32.toUInt16.toUInt32.toInt32)), .val (.int ((p5 &&& (255 : Int32)).toUInt32.toUInt16.toUInt32.toInt32)), .val (.int n8), .val (.ref x9), .val (.int (1 : Int32)), .val .null, .val (.int (1 : Int32)), .val (.ref b7), .unset] [(.ref b7)])
        obtain ⟨cq11, kq11, qa11, qb11, qc11⟩ := isOf (s := s.setVm vJ1) hZ e10 Exa_b7
        obtain ⟨v11, _, ⟨T11, L11, kQ11, nQ11⟩, -, X11, ⟨Lc11, hQ11, l11, y11, z11⟩, st11⟩ := X10.virtualBack hx (y := (⟨"com/example/explain_locks/explainlocks/schema/RowFault", "message", "()Ljava/lang/String;"⟩ : MethodName)) (z := (⟨"com/example/explain_locks/explainlocks/schema/RowFault", "message", "()Ljava/lang/String;"⟩ : MethodName)) hown (mvT hZ (hw _ (List.mem_of_getElem? (i := 96) rfl))) (mvT hZ (hw _ (List.mem_of_getElem? (i := 97) rfl))) (notFace_of_selects (args := #[]) (mvT hZ (hw _ (List.mem_of_getElem? (i := 99) rfl)))) (mvT hZ (hw _ (List.mem_of_getElem? (i := 99) rfl))) (mvT hZ (hw _ (List.mem_of_getElem? (i := 98) rfl))) (by decide) (backOf (W := 0) (rmMI1 l Z a0 hw [] b7 b8  h10 n0 O10 F_invalid_b7 F_unsupported_b7 Exa_b8 F_detailMessage_b8) hZ (hw _ (List.mem_of_getElem? (i := 100) rfl)) (hw _ (List.mem_of_getElem? (i := 33) rfl)) (by decide) (by decide)) qa11 qc11 (g := (mkF m 215 #[.val (.int p1), .val (.int p2), .val (.int p3), .val (.int p4), .val (.int p5), .val (.int ((p3 &&& (255 : Int32)).toUInt32.toUInt16.toUInt32.toInt32)), .val (.int ((p4 &&& (255 : Int32)).toUInt32.toUInt16.toUInt32.toInt32)), .val (.int ((p5 &&& (255 : Int32)).toUInt32.toUInt16.toUInt32.toInt32)), .val (.int n8), .val (.ref x9), .val (.int (1 : Int32)), .val .null, .val (.int (1 : Int32)), .val (.ref b7), .unset] [(.ref b7)])) rfl (by rw [hml]; rfl) (Steps.refl _) (argsL := []) (rest := []) (lenOf pd_rm0_2 rfl) rfl (by show 2 * 0 + _ ≤ _; exact Nat.le_of_eq rfl) (hb hby at_215) (fun _ _ => ⟨rfl, e10, (by decide : 9 + 0 ≤ _), (by decide : 2800 + 0 ≤ _)⟩)
        dsimp only [Pt.U, Pt.locs, Pt.cells, Pt.slots] at X11 l11 y11 z11 st11 hQ11
        subst y11 z11
        obtain ⟨rfl, Nq11, e11⟩ := hQ11
        have N11 : Fr n0 L11 := l11 ▸ Fr.app N10 Nq11
        refine GlW.st (fun _ kk => st11.trans kk) ?_
        clear st11 qc11 qb11 qa11 kq11 cq11
        clear N10 X10 e10
        show GlW Z consts_1 p e below s _ _ _ T11 (mkF m 218 #[.val (.int p1), .val (.int p2), .val (.int p3), .val (.int p4), .val (.int p5), .val (.int ((p3 &&& (255 : Int32)).toUInt32.toUInt16.toUInt32.toInt32)), .val (.int ((p4 &&& (255 : Int32)).toUInt32.toUInt16.toUInt32.toInt32)), .val (.int ((p5 &&& (255 : Int32)).toUInt32.toUInt16.toUInt32.toInt32)), .val (.int n8), .val (.ref x9), .val (.int (1 : Int32)), .val .null, .val (.int (1 : Int32)), .val (.ref b7), .unset] [.null])
        refine GlW.st (fun _ kk => XS.astore X11.here hx rfl (hb hby at_218) rfl rfl (l' := #[.val (.int p1), .val (.int p2), .val (.int p3), .val (.int p4), .val (.int p5), .val (.int ((p3 &&& (255 : Int32)).toUInt32.toUInt16.toUInt32.toInt32)), .val (.int ((p4 &&& (255 : Int32)).toUInt32.toUInt16.toUInt32.toInt32)), .val (.int ((p5 &&& (255 : Int32)).toUInt32.toUInt16.toUInt32.toInt32)), .val (.int n8), .val (.ref x9), .val (.int (1 : Int32)), .val .null, .val (.int (1 : Int32)), .val (.ref b7), .val .null]) rfl kk) ?_
        show GlW Z consts_1 p e below s _ _ _ T11 (mkF m 220 #[.val (.int p1), .val (.int p2), .val (.int p3), .val (.int p4), .val (.int p5), .val (.int ((p3 &&& (255 : Int32)).toUInt32.toUInt16.toUInt32.toInt32)), .val (.int ((p4 &&& (255 : Int32)).toUInt32.toUInt16.toUInt32.toInt32)), .val (.int ((p5 &&& (255 : Int32)).toUInt32.toUInt16.toUInt32.toInt32)), .val (.int n8), .val (.ref x9), .val (.int (1 : Int32)), .val .null, .val (.int (1 : Int32)), .val (.ref b7), .val .null] [])
        refine GlW.st (fun _ kk => XS.iload X11.here hx rfl (hb hby at_220) rfl kk) ?_
        show GlW Z consts_1 p e below s _ _ _ T11 (mkF m 222 #[.val (.int p1), .val (.int p2), .val (.int p3), .val (.int p4), .val (.int p5), .val (.int ((p3 &&& (255 : Int32)).toUInt32.toUInt16.toUInt32.toInt32)), .val (.int ((p4 &&& (255 : Int32)).toUInt32.toUInt16.toUInt32.toInt32)), .val (.int ((p5 &&& (255 : Int32)).toUInt32.toUInt16.toUInt32.toInt32)), .val (.int n8), .val (.ref x9), .val (.int (1 : Int32)), .val .null, .val (.int (1 : Int32)), .val (.ref b7), .val .null] [(.int (1 : Int32))])
        refine GlW.st (fun _ kk => XS.ifNo X11.here hx rfl (hb hby at_222) rfl ((if0 _ _).trans (feq (by decide : ¬ ((1 : Int32) = (0 : Int32)))).1) kk) ?_
        show GlW Z consts_1 p e below s _ _ _ T11 (mkF m 225 #[.val (.int p1), .val (.int p2), .val (.int p3), .val (.int p4), .val (.int p5), .val (.int ((p3 &&& (255 : Int32)).toUInt32.toUInt16.toUInt32.toInt32)), .val (.int ((p4 &&& (255 : Int32)).toUInt32.toUInt16.toUInt32.toInt32)), .val (.int ((p5 &&& (255 : Int32)).toUInt32.toUInt16.toUInt32.toInt32)), .val (.int n8), .val (.ref x9), .val (.int (1 : Int32)), .val .null, .val (.int (1 : Int32)), .val (.ref b7), .val .null] [])
        refine GlW.st (fun _ kk => XS.aload X11.here hx rfl (hb hby at_225) rfl rfl kk) ?_
        show GlW Z consts_1 p e below s _ _ _ T11 (mkF m 227 #[.val (.int p1), .val (.int p2), .val (.int p3), .val (.int p4), .val (.int p5), .val (.int ((p3 &&& (255 : Int32)).toUInt32.toUInt16.toUInt32.toInt32)), .val (.int ((p4 &&& (255 : Int32)).toUInt32.toUInt16.toUInt32.toInt32)), .val (.int ((p5 &&& (255 : Int32)).toUInt32.toUInt16.toUInt32.toInt32)), .val (.int n8), .val (.ref x9), .val (.int (1 : Int32)), .val .null, .val (.int (1 : Int32)), .val (.ref b7), .val .null] [.null])
        refine GlW.st (fun _ kk => XS.ifnonnullNo X11.here hx rfl (hb hby at_227) rfl kk) ?_
        show GlW Z consts_1 p e below s _ _ _ T11 (mkF m 230 #[.val (.int p1), .val (.int p2), .val (.int p3), .val (.int p4), .val (.int p5), .val (.int ((p3 &&& (255 : Int32)).toUInt32.toUInt16.toUInt32.toInt32)), .val (.int ((p4 &&& (255 : Int32)).toUInt32.toUInt16.toUInt32.toInt32)), .val (.int ((p5 &&& (255 : Int32)).toUInt32.toUInt16.toUInt32.toInt32)), .val (.int n8), .val (.ref x9), .val (.int (1 : Int32)), .val .null, .val (.int (1 : Int32)), .val (.ref b7), .val .null] [])
        refine GlW.st (fun _ kk => XS.iconst X11.here hx rfl (hb hby at_230) kk) ?_
        show GlW Z consts_1 p e below s _ _ _ T11 (mkF m 231 #[.val (.int p1), .val (.int p2), .val (.int p3), .val (.int p4), .val (.int p5), .val (.int ((p3 &&& (255 : Int32)).toUInt32.toUInt16.toUInt32.toInt32)), .val (.int ((p4 &&& (255 : Int32)).toUInt32.toUInt16.toUInt32.toInt32)), .val (.int ((p5 &&& (255 : Int32)).toUInt32.toUInt16.toUInt32.toInt32)), .val (.int n8), .val (.ref x9), .val (.int (1 : Int32)), .val .null, .val (.int (1 : Int32)), .val (.ref b7), .val .null] [(.int (1 : Int32))])
        refine GlW.st (fun _ kk => XS.goto X11.here hx rfl (pc0 := 231) (pc' := 235) rfl (hb hby at_231) (by decide) (by decide) kk) ?_
        show GlW Z consts_1 p e below s _ _ _ T11 (mkF m 235 #[.val (.int p1), .val (.int p2), .val (.int p3), .val (.int p4), .val (.int p5), .val (.int ((p3 &&& (255 : Int32)).toUInt32.toUInt16.toUInt32.toInt32)), .val (.int ((p4 &&& (255 : Int32)).toUInt32.toUInt16.toUInt32.toInt32)), .val (.int ((p5 &&& (255 : Int32)).toUInt32.toUInt16.toUInt32.toInt32)), .val (.int n8), .val (.ref x9), .val (.int (1 : Int32)), .val .null, .val (.int (1 : Int32)), .val (.ref b7), .val .null] [(.int (1 : Int32))])
        exact GlW.ret X11 hS1 hk10 hZ hEL hh0 HC10 (v := (some (.int (1 : Int32)))) (fun h => by rw [Bd.returns] at h; cases h) (BodyLoose.notSynchronized Bd) (fun hr => retN X11 hx (t := .boolean) Bd.returns (by simp) (hb hby at_235) hr) e11 ⟨rfl, N11⟩ (by decide) (by decide)
    · skip
      refine GlW.st (fun _ kk => XS.icmpYes X1.here hx rfl (pc0 := 133) (pc' := 140) rfl (hb hby at_133) rfl (feq hc133).2 (by decide) (by decide) kk) ?_
      show GlW Z consts_1 p e below s _ _ _ T1 (mkF m 140 #[.val (.int p1), .val (.int p2), .val (.int p3), .val (.int p4), .val (.int p5), .val (.int ((p3 &&& (255 : Int32)).toUInt32.toUInt16.toUInt32.toInt32)), .val (.int ((p4 &&& (255 : Int32)).toUInt32.toUInt16.toUInt32.toInt32)), .val (.int ((p5 &&& (255 : Int32)).toUInt32.toUInt16.toUInt32.toInt32)), .val (.int n8), .val (.ref x9), .unset, .unset, .unset, .unset, .unset] [])
      refine GlW.st (fun _ kk => XS.iconst X1.here hx rfl (hb hby at_140) kk) ?_
      show GlW Z consts_1 p e below s _ _ _ T1 (mkF m 141 #[.val (.int p1), .val (.int p2), .val (.int p3), .val (.int p4), .val (.int p5), .val (.int ((p3 &&& (255 : Int32)).toUInt32.toUInt16.toUInt32.toInt32)), .val (.int ((p4 &&& (255 : Int32)).toUInt32.toUInt16.toUInt32.toInt32)), .val (.int ((p5 &&& (255 : Int32)).toUInt32.toUInt16.toUInt32.toInt32)), .val (.int n8), .val (.ref x9), .unset, .unset, .unset, .unset, .unset] [(.int (0 : Int32))])
      refine GlW.st (fun _ kk => XS.istore X1.here hx rfl (hb hby at_141) rfl (l' := #[.val (.int p1), .val (.int p2), .val (.int p3), .val (.int p4), .val (.int p5), .val (.int ((p3 &&& (255 : Int32)).toUInt32.toUInt16.toUInt32.toInt32)), .val (.int ((p4 &&& (255 : Int32)).toUInt32.toUInt16.toUInt32.toInt32)), .val (.int ((p5 &&& (255 : Int32)).toUInt32.toUInt16.toUInt32.toInt32)), .val (.int n8), .val (.ref x9), .val (.int (0 : Int32)), .unset, .unset, .unset, .unset]) rfl kk) ?_
      show GlW Z consts_1 p e below s _ _ _ T1 (mkF m 143 #[.val (.int p1), .val (.int p2), .val (.int p3), .val (.int p4), .val (.int p5), .val (.int ((p3 &&& (255 : Int32)).toUInt32.toUInt16.toUInt32.toInt32)), .val (.int ((p4 &&& (255 : Int32)).toUInt32.toUInt16.toUInt32.toInt32)), .val (.int ((p5 &&& (255 : Int32)).toUInt32.toUInt16.toUInt32.toInt32)), .val (.int n8), .val (.ref x9), .val (.int (0 : Int32)), .unset, .unset, .unset, .unset] [])
      refine GlW.st (fun _ kk => XS.iload X1.here hx rfl (hb hby at_143) rfl kk) ?_
      show GlW Z consts_1 p e below s _ _ _ T1 (mkF m 145 #[.val (.int p1), .val (.int p2), .val (.int p3), .val (.int p4), .val (.int p5), .val (.int ((p3 &&& (255 : Int32)).toUInt32.toUInt16.toUInt32.toInt32)), .val (.int ((p4 &&& (255 : Int32)).toUInt32.toUInt16.toUInt32.toInt32)), .val (.int ((p5 &&& (255 : Int32)).toUInt32.toUInt16.toUInt32.toInt32)), .val (.int n8), .val (.ref x9), .val (.int (0 : Int32)), .unset, .unset, .unset, .unset] [(.int (0 : Int32))])
      refine GlW.st (fun _ kk => XS.ifYes X1.here hx rfl (pc0 := 145) (pc' := 152) rfl (hb hby at_145) rfl ((if0 _ _).trans (teq (by decide : (0 : Int32) = (0 : Int32))).1) (by decide) (by decide) kk) ?_
      show GlW Z consts_1 p e below s _ _ _ T1 (mkF m 152 #[.val (.int p1), .val (.int p2), .val (.int p3), .val (.int p4), .val (.int p5), .val (.int ((p3 &&& (255 : Int32)).toUInt32.toUInt16.toUInt32.toInt32)), .val (.int ((p4 &&& (255 : Int32)).toUInt32.toUInt16.toUInt32.toInt32)), .val (.int ((p5 &&& (255 : Int32)).toUInt32.toUInt16.toUInt32.toInt32)), .val (.int n8), .val (.ref x9), .val (.int (0 : Int32)), .unset, .unset, .unset, .unset] [])
      refine GlW.st (fun _ kk => XS.aload X1.here hx rfl (hb hby at_152) rfl rfl kk) ?_
      show GlW Z consts_1 p e below s _ _ _ T1 (mkF m 154 #[.val (.int p1), .val (.int p2), .val (.int p3), .val (.int p4), .val (.int p5), .val (.int ((p3 &&& (255 : Int32)).toUInt32.toUInt16.toUInt32.toInt32)), .val (.int ((p4 &&& (255 : Int32)).toUInt32.toUInt16.toUInt32.toInt32)), .val (.int ((p5 &&& (255 : Int32)).toUInt32.toUInt16.toUInt32.toInt32)), .val (.int n8), .val (.ref x9), .val (.int (0 : Int32)), .unset, .unset, .unset, .unset] [(.ref x9)])
      refine GlW.st (fun _ kk => XS.astore X1.here hx rfl (hb hby at_154) rfl rfl (l' := #[.val (.int p1), .val (.int p2), .val (.int p3), .val (.int p4), .val (.int p5), .val (.int ((p3 &&& (255 : Int32)).toUInt32.toUInt16.toUInt32.toInt32)), .val (.int ((p4 &&& (255 : Int32)).toUInt32.toUInt16.toUInt32.toInt32)), .val (.int ((p5 &&& (255 : Int32)).toUInt32.toUInt16.toUInt32.toInt32)), .val (.int n8), .val (.ref x9), .val (.int (0 : Int32)), .val (.ref x9), .unset, .unset, .unset]) rfl kk) ?_
      show GlW Z consts_1 p e below s _ _ _ T1 (mkF m 156 #[.val (.int p1), .val (.int p2), .val (.int p3), .val (.int p4), .val (.int p5), .val (.int ((p3 &&& (255 : Int32)).toUInt32.toUInt16.toUInt32.toInt32)), .val (.int ((p4 &&& (255 : Int32)).toUInt32.toUInt16.toUInt32.toInt32)), .val (.int ((p5 &&& (255 : Int32)).toUInt32.toUInt16.toUInt32.toInt32)), .val (.int n8), .val (.ref x9), .val (.int (0 : Int32)), .val (.ref x9), .unset, .unset, .unset] [])
      refine GlW.st (fun _ kk => XS.iloadN X1.here hx rfl (hb hby at_156) rfl kk) ?_
      show GlW Z consts_1 p e below s _ _ _ T1 (mkF m 157 #[.val (.int p1), .val (.int p2), .val (.int p3), .val (.int p4), .val (.int p5), .val (.int ((p3 &&& (255 : Int32)).toUInt32.toUInt16.toUInt32.toInt32)), .val (.int ((p4 &&& (255 : Int32)).toUInt32.toUInt16.toUInt32.toInt32)), .val (.int ((p5 &&& (255 : Int32)).toUInt32.toUInt16.toUInt32.toInt32)), .val (.int n8), .val (.ref x9), .val (.int (0 : Int32)), .val (.ref x9), .unset, .unset, .unset] [(.int p1)])
      refine GlW.st (fun _ kk => XS.iconst X1.here hx rfl (hb hby at_157) kk) ?_
      show GlW Z consts_1 p e below s _ _ _ T1 (mkF m 158 #[.val (.int p1), .val (.int p2), .val (.int p3), .val (.int p4), .val (.int p5), .val (.int ((p3 &&& (255 : Int32)).toUInt32.toUInt16.toUInt32.toInt32)), .val (.int ((p4 &&& (255 : Int32)).toUInt32.toUInt16.toUInt32.toInt32)), .val (.int ((p5 &&& (255 : Int32)).toUInt32.toUInt16.toUInt32.toInt32)), .val (.int n8), .val (.ref x9), .val (.int (0 : Int32)), .val (.ref x9), .unset, .unset, .unset] [(.int (1 : Int32)), (.int p1)])
      refine GlW.st (fun _ kk => XS.iand X1.here hx rfl (hb hby at_158) rfl kk) ?_
      show GlW Z consts_1 p e below s _ _ _ T1 (mkF m 159 #[.val (.int p1), .val (.int p2), .val (.int p3), .val (.int p4), .val (.int p5), .val (.int ((p3 &&& (255 : Int32)).toUInt32.toUInt16.toUInt32.toInt32)), .val (.int ((p4 &&& (255 : Int32)).toUInt32.toUInt16.toUInt32.toInt32)), .val (.int ((p5 &&& (255 : Int32)).toUInt32.toUInt16.toUInt32.toInt32)), .val (.int n8), .val (.ref x9), .val (.int (0 : Int32)), .val (.ref x9), .unset, .unset, .unset] [(.int (p1 &&& (1 : Int32)))])
      by_cases hc159 : (p1 &&& (1 : Int32)) = (0 : Int32)
      · skip
        refine GlW.st (fun _ kk => XS.ifYes X1.here hx rfl (pc0 := 159) (pc' := 166) rfl (hb hby at_159) rfl ((if0 _ _).trans (teq hc159).1) (by decide) (by decide) kk) ?_
        show GlW Z consts_1 p e below s _ _ _ T1 (mkF m 166 #[.val (.int p1), .val (.int p2), .val (.int p3), .val (.int p4), .val (.int p5), .val (.int ((p3 &&& (255 : Int32)).toUInt32.toUInt16.toUInt32.toInt32)), .val (.int ((p4 &&& (255 : Int32)).toUInt32.toUInt16.toUInt32.toInt32)), .val (.int ((p5 &&& (255 : Int32)).toUInt32.toUInt16.toUInt32.toInt32)), .val (.int n8), .val (.ref x9), .val (.int (0 : Int32)), .val (.ref x9), .unset, .unset, .unset] [])
        refine GlW.st (fun _ kk => XS.iconst X1.here hx rfl (hb hby at_166) kk) ?_
        show GlW Z consts_1 p e below s _ _ _ T1 (mkF m 167 #[.val (.int p1), .val (.int p2), .val (.int p3), .val (.int p4), .val (.int p5), .val (.int ((p3 &&& (255 : Int32)).toUInt32.toUInt16.toUInt32.toInt32)), .val (.int ((p4 &&& (255 : Int32)).toUInt32.toUInt16.toUInt32.toInt32)), .val (.int ((p5 &&& (255 : Int32)).toUInt32.toUInt16.toUInt32.toInt32)), .val (.int n8), .val (.ref x9), .val (.int (0 : Int32)), .val (.ref x9), .unset, .unset, .unset] [(.int (0 : Int32))])
        refine GlW.st (fun _ kk => XS.istore X1.here hx rfl (hb hby at_167) rfl (l' := #[.val (.int p1), .val (.int p2), .val (.int p3), .val (.int p4), .val (.int p5), .val (.int ((p3 &&& (255 : Int32)).toUInt32.toUInt16.toUInt32.toInt32)), .val (.int ((p4 &&& (255 : Int32)).toUInt32.toUInt16.toUInt32.toInt32)), .val (.int ((p5 &&& (255 : Int32)).toUInt32.toUInt16.toUInt32.toInt32)), .val (.int n8), .val (.ref x9), .val (.int (0 : Int32)), .val (.ref x9), .val (.int (0 : Int32)), .unset, .unset]) rfl kk) ?_
        show GlW Z consts_1 p e below s _ _ _ T1 (mkF m 169 #[.val (.int p1), .val (.int p2), .val (.int p3), .val (.int p4), .val (.int p5), .val (.int ((p3 &&& (255 : Int32)).toUInt32.toUInt16.toUInt32.toInt32)), .val (.int ((p4 &&& (255 : Int32)).toUInt32.toUInt16.toUInt32.toInt32)), .val (.int ((p5 &&& (255 : Int32)).toUInt32.toUInt16.toUInt32.toInt32)), .val (.int n8), .val (.ref x9), .val (.int (0 : Int32)), .val (.ref x9), .val (.int (0 : Int32)), .unset, .unset] [])
        refine GlW.st (fun _ kk => XS.iload X1.here hx rfl (hb hby at_169) rfl kk) ?_
        show GlW Z consts_1 p e below s _ _ _ T1 (mkF m 171 #[.val (.int p1), .val (.int p2), .val (.int p3), .val (.int p4), .val (.int p5), .val (.int ((p3 &&& (255 : Int32)).toUInt32.toUInt16.toUInt32.toInt32)), .val (.int ((p4 &&& (255 : Int32)).toUInt32.toUInt16.toUInt32.toInt32)), .val (.int ((p5 &&& (255 : Int32)).toUInt32.toUInt16.toUInt32.toInt32)), .val (.int n8), .val (.ref x9), .val (.int (0 : Int32)), .val (.ref x9), .val (.int (0 : Int32)), .unset, .unset] [(.int (0 : Int32))])
        refine GlW.st (fun _ kk => XS.ifYes X1.here hx rfl (pc0 := 171) (pc' := 195) rfl (hb hby at_171) rfl ((if0 _ _).trans (teq (by decide : (0 : Int32) = (0 : Int32))).1) (by decide) (by decide) kk) ?_
        show GlW Z consts_1 p e below s _ _ _ T1 (mkF m 195 #[.val (.int p1), .val (.int p2), .val (.int p3), .val (.int p4), .val (.int p5), .val (.int ((p3 &&& (255 : Int32)).toUInt32.toUInt16.toUInt32.toInt32)), .val (.int ((p4 &&& (255 : Int32)).toUInt32.toUInt16.toUInt32.toInt32)), .val (.int ((p5 &&& (255 : Int32)).toUInt32.toUInt16.toUInt32.toInt32)), .val (.int n8), .val (.ref x9), .val (.int (0 : Int32)), .val (.ref x9), .val (.int (0 : Int32)), .unset, .unset] [])
        obtain ⟨T12, h12, X12, e12, E12, A12, D12, V12, st12⟩ := newO X1 hx hZ hown (hw _ (List.mem_of_getElem? (i := 31) rfl)) (hw _ (List.mem_of_getElem? (i := 32) rfl)) (hw _ (List.mem_of_getElem? (i := 33) rfl)) e1 (g := (mkF m 195 #[.val (.int p1), .val (.int p2), .val (.int p3), .val (.int p4), .val (.int p5), .val (.int ((p3 &&& (255 : Int32)).toUInt32.toUInt16.toUInt32.toInt32)), .val (.int ((p4 &&& (255 : Int32)).toUInt32.toUInt16.toUInt32.toInt32)), .val (.int ((p5 &&& (255 : Int32)).toUInt32.toUInt16.toUInt32.toInt32)), .val (.int n8), .val (.ref x9), .val (.int (0 : Int32)), .val (.ref x9), .val (.int (0 : Int32)), .unset, .unset] [])) rfl (hb hby at_195) (by decide) (by decide)
        obtain ⟨b12, g12⟩ : ∃ z, z = h1.size := ⟨_, rfl⟩
        rw [← g12] at A12 D12 V12 st12
        refine GlW.st st12 ?_
        have ne_x9_b12 : x9 ≠ b12 := Nat.ne_of_lt (Nat.lt_of_lt_of_eq Exa_x9.lt g12.symm)
        have ge_b12 : n0 ≤ b12 := Nat.le_trans (Nat.le_trans (Nat.le_of_eq O1.1.symm) O1.2.1) (Nat.le_of_eq g12.symm)
        have fr_b12 : h0.size ≤ b12 := Nat.le_trans K1.1 (Nat.le_of_eq g12.symm)
        have HC12 := HC1.trans (CHr.ext E12 HC1.1)
        have hk12 := Nat.le_trans hk1 E12.1
        replace Exa_x9 := Exa_x9.ext E12
        have O12 := O1.ext E12
        have K12 := K1.ext E12
        have Exa_b12 := A12
        have F_invalid_b12 : Fld Z h12 b12 "com/example/explain_locks/explainlocks/schema/RowFault" "invalid" "Lcom/example/explain_locks/explainlocks/InvalidInputException;" .null := D12 (Or.inr (hw _ (List.mem_of_getElem? (i := 93) rfl))) (ty := (.object "com/example/explain_locks/explainlocks/InvalidInputException")) (by decide)
        have F_unsupported_b12 : Fld Z h12 b12 "com/example/explain_locks/explainlocks/schema/RowFault" "unsupported" "Lcom/example/explain_locks/explainlocks/UnsupportedInputException;" .null := D12 (Or.inr (hw _ (List.mem_of_getElem? (i := 95) rfl))) (ty := (.object "com/example/explain_locks/explainlocks/UnsupportedInputException")) (by decide)
        show GlW Z consts_1 p e below s _ _ _ T12 (mkF m 198 #[.val (.int p1), .val (.int p2), .val (.int p3), .val (.int p4), .val (.int p5), .val (.int ((p3 &&& (255 : Int32)).toUInt32.toUInt16.toUInt32.toInt32)), .val (.int ((p4 &&& (255 : Int32)).toUInt32.toUInt16.toUInt32.toInt32)), .val (.int ((p5 &&& (255 : Int32)).toUInt32.toUInt16.toUInt32.toInt32)), .val (.int n8), .val (.ref x9), .val (.int (0 : Int32)), .val (.ref x9), .val (.int (0 : Int32)), .unset, .unset] [(.ref b12)])
        refine GlW.st (fun _ kk => XS.dup X12.here hx rfl (hb hby at_198) rfl rfl kk) ?_
        show GlW Z consts_1 p e below s _ _ _ T12 (mkF m 199 #[.val (.int p1), .val (.int p2), .val (.int p3), .val (.int p4), .val (.int p5), .val (.int ((p3 &&& (255 : Int32)).toUInt32.toUInt16.toUInt32.toInt32)), .val (.int ((p4 &&& (255 : Int32)).toUInt32.toUInt16.toUInt32.toInt32)), .val (.int ((p5 &&& (255 : Int32)).toUInt32.toUInt16.toUInt32.toInt32)), .val (.int n8), .val (.ref x9), .val (.int (0 : Int32)), .val (.ref x9), .val (.int (0 : Int32)), .unset, .unset] [(.ref b12), (.ref b12)])
        obtain ⟨T13, h13, X13, e13, E13, A13, D13, V13, st13⟩ := newO X12 hx hZ hown (hw _ (List.mem_of_getElem? (i := 34) rfl)) (hw _ (List.mem_of_getElem? (i := 35) rfl)) (hw _ (List.mem_of_getElem? (i := 36) rfl)) e12 (g := (mkF m 199 #[.val (.int p1), .val (.int p2), .val (.int p3), .val (.int p4), .val (.int p5), .val (.int ((p3 &&& (255 : Int32)).toUInt32.toUInt16.toUInt32.toInt32)), .val (.int ((p4 &&& (255 : Int32)).toUInt32.toUInt16.toUInt32.toInt32)), .val (.int ((p5 &&& (255 : Int32)).toUInt32.toUInt16.toUInt32.toInt32)), .val (.int n8), .val (.ref x9), .val (.int (0 : Int32)), .val (.ref x9), .val (.int (0 : Int32)), .unset, .unset] [(.ref b12), (.ref b12)])) rfl (hb hby at_199) (by decide) (by decide)
        obtain ⟨b13, g13⟩ : ∃ z, z = h12.size := ⟨_, rfl⟩
        rw [← g13] at A13 D13 V13 st13
        refine GlW.st st13 ?_
        have ne_b12_b13 : b12 ≠ b13 := Nat.ne_of_lt (Nat.lt_of_lt_of_eq Exa_b12.lt g13.symm)
        have ne_x9_b13 : x9 ≠ b13 := Nat.ne_of_lt (Nat.lt_of_lt_of_eq Exa_x9.lt g13.symm)
        have ge_b13 : n0 ≤ b13 := Nat.le_trans (Nat.le_trans (Nat.le_of_eq O12.1.symm) O12.2.1) (Nat.le_of_eq g13.symm)
        have fr_b13 : h0.size ≤ b13 := Nat.le_trans K12.1 (Nat.le_of_eq g13.symm)
        have HC13 := HC12.trans (CHr.ext E13 HC12.1)
        have hk13 := Nat.le_trans hk12 E13.1
        replace Exa_x9 := Exa_x9.ext E13
        replace Exa_b12 := Exa_b12.ext E13
        replace F_invalid_b12 := F_invalid_b12.ext E13
        replace F_unsupported_b12 := F_unsupported_b12.ext E13
        have O13 := O12.ext E13
        have K13 := K12.ext E13
        have Exa_b13 := A13
        have F_cause_b13 : Fld Z h13 b13 "java/lang/Throwable" "cause" "Ljava/lang/Throwable;" .null := D13 (Or.inl (hw _ (List.mem_of_getElem? (i := 53) rfl))) (ty := (.object "java/lang/Throwable")) (by decide)
        have F_stackTrace_b13 : Fld Z h13 b13 "java/lang/Throwable" "stackTrace" "[Ljava/lang/StackTraceElement;" .null := D13 (Or.inl (hw _ (List.mem_of_getElem? (i := 56) rfl))) (ty := (.array (.object "java/lang/StackTraceElement"))) (by decide)
        have F_suppressedExceptions_b13 : Fld Z h13 b13 "java/lang/Throwable" "suppressedExceptions" "Ljava/util/List;" .null := D13 (Or.inl (hw _ (List.mem_of_getElem? (i := 59) rfl))) (ty := (.object "java/util/List")) (by decide)
        have F_detailMessage_b13 : Fld Z h13 b13 "java/lang/Throwable" "detailMessage" "Ljava/lang/String;" .null := D13 (Or.inl (hw _ (List.mem_of_getElem? (i := 83) rfl))) (ty := (.object "java/lang/String")) (by decide)
        have F_backtrace_b13 : Fld Z h13 b13 "java/lang/Throwable" "backtrace" "Ljava/lang/Object;" .null := D13 (Or.inl (hw _ (List.mem_of_getElem? (i := 84) rfl))) (ty := (.object "java/lang/Object")) (by decide)
        have F_depth_b13 : Fld Z h13 b13 "java/lang/Throwable" "depth" "I" (.int (0 : Int32)) := D13 (Or.inl (hw _ (List.mem_of_getElem? (i := 85) rfl))) (ty := .int) (by decide)
        show GlW Z consts_1 p e below s _ _ _ T13 (mkF m 202 #[.val (.int p1), .val (.int p2), .val (.int p3), .val (.int p4), .val (.int p5), .val (.int ((p3 &&& (255 : Int32)).toUInt32.toUInt16.toUInt32.toInt32)), .val (.int ((p4 &&& (255 : Int32)).toUInt32.toUInt16.toUInt32.toInt32)), .val (.int ((p5 &&& (255 : Int32)).toUInt32.toUInt16.toUInt32.toInt32)), .val (.int n8), .val (.ref x9), .val (.int (0 : Int32)), .val (.ref x9), .val (.int (0 : Int32)), .unset, .unset] [(.ref b13), (.ref b12), (.ref b12)])
        refine GlW.st (fun _ kk => XS.dup X13.here hx rfl (hb hby at_202) rfl rfl kk) ?_
        show GlW Z consts_1 p e below s _ _ _ T13 (mkF m 203 #[.val (.int p1), .val (.int p2), .val (.int p3), .val (.int p4), .val (.int p5), .val (.int ((p3 &&& (255 : Int32)).toUInt32.toUInt16.toUInt32.toInt32)), .val (.int ((p4 &&& (255 : Int32)).toUInt32.toUInt16.toUInt32.toInt32)), .val (.int ((p5 &&& (255 : Int32)).toUInt32.toUInt16.toUInt32.toInt32)), .val (.int n8), .val (.ref x9), .val (.int (0 : Int32)), .val (.ref x9), .val (.int (0 : Int32)), .unset, .unset] [(.ref b13), (.ref b13), (.ref b12), (.ref b12)])
        refine GlW.st (fun _ kk => XS.aload X13.here hx rfl (hb hby at_203) rfl rfl kk) ?_
        show GlW Z consts_1 p e below s _ _ _ T13 (mkF m 205 #[.val (.int p1), .val (.int p2), .val (.int p3), .val (.int p4), .val (.int p5), .val (.int ((p3 &&& (255 : Int32)).toUInt32.toUInt16.toUInt32.toInt32)), .val (.int ((p4 &&& (255 : Int32)).toUInt32.toUInt16.toUInt32.toInt32)), .val (.int ((p5 &&& (255 : Int32)).toUInt32.toUInt16.toUInt32.toInt32)), .val (.int n8), .val (.ref x9), .val (.int (0 : Int32)), .val (.ref x9), .val (.int (0 : Int32)), .unset, .unset] [(.ref x9), (.ref b13), (.ref b13), (.ref b12), (.ref b12)])
        obtain ⟨v14, _, ⟨T14, L14, kQ14, nQ14⟩, -, X14, ⟨Lc14, hQ14, l14, y14, z14⟩, st14⟩ := X13.specialBack hx (y := (⟨"com/example/explain_locks/explainlocks/UnsupportedInputException", "<init>", "(Ljava/lang/String;)V"⟩ : MethodName)) rfl hown (mvT hZ (hw _ (List.mem_of_getElem? (i := 37) rfl))) (mvT hZ (hw _ (List.mem_of_getElem? (i := 38) rfl))) (mvT hZ (hw _ (List.mem_of_getElem? (i := 39) rfl))) (by decide) (backOfKL (W := 3) (rmCU l Z a0 hw [] b13 (.ref x9) uU uS h13 n0 O13 Exa_b13 V13 F_cause_b13 F_stackTrace_b13 F_suppressedExceptions_b13 F_backtrace_b13 F_detailMessage_b13 ge_b13 S_U S_S hl rfl) hZ (hw _ (List.mem_of_getElem? (i := 39) rfl)) (hw _ (List.mem_of_getElem? (i := 36) rfl)) (by decide) (by decide) (Vm.MethodsKnown.alikeC hZ.alike hTK) (Vm.FramesKnown.alikeC hZ.alike hK)) (g := (mkF m 205 #[.val (.int p1), .val (.int p2), .val (.int p3), .val (.int p4), .val (.int p5), .val (.int ((p3 &&& (255 : Int32)).toUInt32.toUInt16.toUInt32.toInt32)), .val (.int ((p4 &&& (255 : Int32)).toUInt32.toUInt16.toUInt32.toInt32)), .val (.int ((p5 &&& (255 : Int32)).toUInt32.toUInt16.toUInt32.toInt32)), .val (.int n8), .val (.ref x9), .val (.int (0 : Int32)), .val (.ref x9), .val (.int (0 : Int32)), .unset, .unset] [(.ref x9), (.ref b13), (.ref b13), (.ref b12), (.ref b12)])) rfl (by rw [hml]; rfl) (Steps.refl _) (a := b13) (argsL := [(.ref x9)]) (rest := [(.ref b13), (.ref b12), (.ref b12)]) (lenOf pd_rm0_0 rfl) rfl (by show 2 * 0 + _ ≤ _; exact Nat.le_of_eq rfl) (hb hby at_205) (fun _ _ => ⟨rfl, e13, (by decide : 8 + 1 ≤ _), (by decide : 48 + 2752 ≤ _)⟩)
        dsimp only [Pt.U, Pt.locs, Pt.cells, Pt.slots] at X14 l14 y14 z14 st14 hQ14
        subst y14 z14
        obtain ⟨h14, e14⟩ : ∃ z, T14.heap = z := ⟨_, rfl⟩
        rw [e14] at hQ14
        obtain ⟨rfl, Nq14, Kq14, F_detailMessage_q14⟩ := hQ14
        have N14 : Fr n0 L14 := l14 ▸ Fr.app N1 Nq14
        refine GlW.st (fun _ kk => st14.trans kk) ?_
        have sfk14 : ∀ x ∈ [b13], Safe Z consts_1 _ _ x := (allS (Safe.exa hZ.alike Exa_b13 (by decide) (by decide)) all0)
        have HC14 := HC13.trans (CHr.keep Kq14 sfk14 HC13.1)
        have hk14 := Nat.le_trans hk13 Kq14.1
        replace Exa_x9 := Exa_x9.keep Kq14
        replace Exa_b12 := Exa_b12.keep Kq14
        replace F_invalid_b12 := F_invalid_b12.keep Kq14 (ninS ne_b12_b13 nin0)
        replace F_unsupported_b12 := F_unsupported_b12.keep Kq14 (ninS ne_b12_b13 nin0)
        replace Exa_b13 := Exa_b13.keep Kq14
        have O14 := O13.keep Kq14 (allS ge_b13 all0)
        have K14 := K13.trans Kq14 (allS (Or.inr fr_b13) all0)
        have F_detailMessage_b13 := F_detailMessage_q14
        clear st14
        clear O13 K13 N1 HC13 hk13 X13 e13
        show GlW Z consts_1 p e below s _ _ _ T14 (mkF m 208 #[.val (.int p1), .val (.int p2), .val (.int p3), .val (.int p4), .val (.int p5), .val (.int ((p3 &&& (255 : Int32)).toUInt32.toUInt16.toUInt32.toInt32)), .val (.int ((p4 &&& (255 : Int32)).toUInt32.toUInt16.toUInt32.toInt32)), .val (.int ((p5 &&& (255 : Int32)).toUInt32.toUInt16.toUInt32.toInt32)), .val (.int n8), .val (.ref x9), .val (.int (0 : Int32)), .val (.ref x9), .val (.int (0 : Int32)), .unset, .unset] [(.ref b13), (.ref b12), (.ref b12)])
        obtain ⟨v15, _, ⟨T15, L15, kQ15, nQ15⟩, -, X15, ⟨Lc15, hQ15, l15, y15, z15⟩, st15⟩ := X14.specialBack hx (y := (⟨"com/example/explain_locks/explainlocks/schema/RowFault", "<init>", "(Lcom/example/explain_locks/explainlocks/UnsupportedInputException;)V"⟩ : MethodName)) rfl hown (mvT hZ (hw _ (List.mem_of_getElem? (i := 88) rfl))) (mvT hZ (hw _ (List.mem_of_getElem? (i := 89) rfl))) (mvT hZ (hw _ (List.mem_of_getElem? (i := 90) rfl))) (by decide) (backOf (W := 1) (rmFU l Z a0 hw [] b12 b13 h14 n0 O14 Exa_b12 F_invalid_b12 F_unsupported_b12 ge_b12) hZ (hw _ (List.mem_of_getElem? (i := 90) rfl)) (hw _ (List.mem_of_getElem? (i := 33) rfl)) (by decide) (by decide)) (g := (mkF m 208 #[.val (.int p1), .val (.int p2), .val (.int p3), .val (.int p4), .val (.int p5), .val (.int ((p3 &&& (255 : Int32)).toUInt32.toUInt16.toUInt32.toInt32)), .val (.int ((p4 &&& (255 : Int32)).toUInt32.toUInt16.toUInt32.toInt32)), .val (.int ((p5 &&& (255 : Int32)).toUInt32.toUInt16.toUInt32.toInt32)), .val (.int n8), .val (.ref x9), .val (.int (0 : Int32)), .val (.ref x9), .val (.int (0 : Int32)), .unset, .unset] [(.ref b13), (.ref b12), (.ref b12)])) rfl (by rw [hml]; rfl) (Steps.refl _) (a := b12) (argsL := [(.ref b13)]) (rest := [(.ref b12)]) (lenOf pd_rm0_1 rfl) rfl (by show 2 * 0 + _ ≤ _; exact Nat.le_of_eq rfl) (hb hby at_208) (fun _ _ => ⟨rfl, e14, (by decide : 9 + 0 ≤ _), (by decide : 2800 + 0 ≤ _)⟩)
        dsimp only [Pt.U, Pt.locs, Pt.cells, Pt.slots] at X15 l15 y15 z15 st15 hQ15
        subst y15 z15
        obtain ⟨h15, e15⟩ : ∃ z, T15.heap = z := ⟨_, rfl⟩
        rw [e15] at hQ15
        obtain ⟨rfl, Nq15, Kq15, F_invalid_q15, F_unsupported_q15⟩ := hQ15
        have N15 : Fr n0 L15 := l15 ▸ Fr.app N14 Nq15
        refine GlW.st (fun _ kk => st15.trans kk) ?_
        have sfk15 : ∀ x ∈ [b12], Safe Z consts_1 _ _ x := (allS (Safe.exa hZ.alike Exa_b12 (by decide) (by decide)) all0)
        have HC15 := HC14.trans (CHr.keep Kq15 sfk15 HC14.1)
        have hk15 := Nat.le_trans hk14 Kq15.1
        replace Exa_x9 := Exa_x9.keep Kq15
        replace Exa_b12 := Exa_b12.keep Kq15
        replace Exa_b13 := Exa_b13.keep Kq15
        replace F_detailMessage_b13 := F_detailMessage_b13.keep Kq15 (ninS (Ne.symm ne_b12_b13) nin0)
        have O15 := O14.keep Kq15 (allS ge_b12 all0)
        have K15 := K14.trans Kq15 (allS (Or.inr fr_b12) all0)
        have F_invalid_b12 := F_invalid_q15
        have F_unsupported_b12 := F_unsupported_q15
        clear st15
        clear O14 K14 N14 HC14 hk14 X14 e14
        show GlW Z consts_1 p e below s _ _ _ T15 (mkF m 211 #[.val (.int p1), .val (.int p2), .val (.int p3), .val (.int p4), .val (.int p5), .val (.int ((p3 &&& (255 : Int32)).toUInt32.toUInt16.toUInt32.toInt32)), .val (.int ((p4 &&& (255 : Int32)).toUInt32.toUInt16.toUInt32.toInt32)), .val (.int ((p5 &&& (255 : Int32)).toUInt32.toUInt16.toUInt32.toInt32)), .val (.int n8), .val (.ref x9), .val (.int (0 : Int32)), .val (.ref x9), .val (.int (0 : Int32)), .unset, .unset] [(.ref b12)])
        refine GlW.st (fun _ kk => XS.astore X15.here hx rfl (hb hby at_211) rfl rfl (l' := #[.val (.int p1), .val (.int p2), .val (.int p3), .val (.int p4), .val (.int p5), .val (.int ((p3 &&& (255 : Int32)).toUInt32.toUInt16.toUInt32.toInt32)), .val (.int ((p4 &&& (255 : Int32)).toUInt32.toUInt16.toUInt32.toInt32)), .val (.int ((p5 &&& (255 : Int32)).toUInt32.toUInt16.toUInt32.toInt32)), .val (.int n8), .val (.ref x9), .val (.int (0 : Int32)), .val (.ref x9), .val (.int (0 : Int32)), .val (.ref b12), .unset]) rfl kk) ?_
        show GlW Z consts_1 p e below s _ _ _ T15 (mkF m 213 #[.val (.int p1), .val (.int p2), .val (.int p3), .val (.int p4), .val (.int p5), .val (.int ((p3 &&& (255 : Int32)).toUInt32.toUInt16.toUInt32.toInt32)), .val (.int ((p4 &&& (255 : Int32)).toUInt32.toUInt16.toUInt32.toInt32)), .val (.int ((p5 &&& (255 : Int32)).toUInt32.toUInt16.toUInt32.toInt32)), .val (.int n8), .val (.ref x9), .val (.int (0 : Int32)), .val (.ref x9), .val (.int (0 : Int32)), .val (.ref b12), .unset] [])
        refine GlW.st (fun _ kk => XS.aload X15.here hx rfl (hb hby at_213) rfl rfl kk) ?_
        show GlW Z consts_1 p e below s _ _ _ T15 (mkF m 215 #[.val (.int p1), .val (.int p2), .val (.int p3), .val (.int p4), .val (.int p5), .val (.int ((p3 &&& (255 : Int32)).toUInt32.toUInt16.toUInt32.toInt32)), .val (.int ((p4 &&& (255 : Int32)).toUInt32.toUInt16.toUInt32.toInt32)), .val (.int ((p5 &&& (255 : Int32)).toUInt32.toUInt16.toUInt32.toInt32)), .val (.int n8), .val (.ref x9), .val (.int (0 : Int32)), .val (.ref x9), .val (.int (0 : Int32)), .val (.ref b12), .unset] [(.ref b12)])
        obtain ⟨cq16, kq16, qa16, qb16, qc16⟩ := isOf (s := s.setVm vJ1) hZ e15 Exa_b12
        obtain ⟨v16, _, ⟨T16, L16, kQ16, nQ16⟩, -, X16, ⟨Lc16, hQ16, l16, y16, z16⟩, st16⟩ := X15.virtualBack hx (y := (⟨"com/example/explain_locks/explainlocks/schema/RowFault", "message", "()Ljava/lang/String;"⟩ : MethodName)) (z := (⟨"com/example/explain_locks/explainlocks/schema/RowFault", "message", "()Ljava/lang/String;"⟩ : MethodName)) hown (mvT hZ (hw _ (List.mem_of_getElem? (i := 96) rfl))) (mvT hZ (hw _ (List.mem_of_getElem? (i := 97) rfl))) (notFace_of_selects (args := #[]) (mvT hZ (hw _ (List.mem_of_getElem? (i := 99) rfl)))) (mvT hZ (hw _ (List.mem_of_getElem? (i := 99) rfl))) (mvT hZ (hw _ (List.mem_of_getElem? (i := 98) rfl))) (by decide) (backOf (W := 0) (rmMU0 l Z a0 hw [] b12 b13 x9 h15 n0 O15 F_invalid_b12 F_unsupported_b12 Exa_b13 F_detailMessage_b13) hZ (hw _ (List.mem_of_getElem? (i := 100) rfl)) (hw _ (List.mem_of_getElem? (i := 33) rfl)) (by decide) (by decide)) qa16 qc16 (g := (mkF m 215 #[.val (.int p1), .val (.int p2), .val (.int p3), .val (.int p4), .val (.int p5), .val (.int ((p3 &&& (255 : Int32)).toUInt32.toUInt16.toUInt32.toInt32)), .val (.int ((p4 &&& (255 : Int32)).toUInt32.toUInt16.toUInt32.toInt32)), .val (.int ((p5 &&& (255 : Int32)).toUInt32.toUInt16.toUInt32.toInt32)), .val (.int n8), .val (.ref x9), .val (.int (0 : Int32)), .val (.ref x9), .val (.int (0 : Int32)), .val (.ref b12), .unset] [(.ref b12)])) rfl (by rw [hml]; rfl) (Steps.refl _) (argsL := []) (rest := []) (lenOf pd_rm0_2 rfl) rfl (by show 2 * 0 + _ ≤ _; exact Nat.le_of_eq rfl) (hb hby at_215) (fun _ _ => ⟨rfl, e15, (by decide : 9 + 0 ≤ _), (by decide : 2800 + 0 ≤ _)⟩)
        dsimp only [Pt.U, Pt.locs, Pt.cells, Pt.slots] at X16 l16 y16 z16 st16 hQ16
        subst y16 z16
        obtain ⟨rfl, Nq16, e16⟩ := hQ16
        have N16 : Fr n0 L16 := l16 ▸ Fr.app N15 Nq16
        refine GlW.st (fun _ kk => st16.trans kk) ?_
        clear st16 qc16 qb16 qa16 kq16 cq16
        clear N15 X15 e15
        show GlW Z consts_1 p e below s _ _ _ T16 (mkF m 218 #[.val (.int p1), .val (.int p2), .val (.int p3), .val (.int p4), .val (.int p5), .val (.int ((p3 &&& (255 : Int32)).toUInt32.toUInt16.toUInt32.toInt32)), .val (.int ((p4 &&& (255 : Int32)).toUInt32.toUInt16.toUInt32.toInt32)), .val (.int ((p5 &&& (255 : Int32)).toUInt32.toUInt16.toUInt32.toInt32)), .val (.int n8), .val (.ref x9), .val (.int (0 : Int32)), .val (.ref x9), .val (.int (0 : Int32)), .val (.ref b12), .unset] [(.ref x9)])
        refine GlW.st (fun _ kk => XS.astore X16.here hx rfl (hb hby at_218) rfl rfl (l' := #[.val (.int p1), .val (.int p2), .val (.int p3), .val (.int p4), .val (.int p5), .val (.int ((p3 &&& (255 : Int32)).toUInt32.toUInt16.toUInt32.toInt32)), .val (.int ((p4 &&& (255 : Int32)).toUInt32.toUInt16.toUInt32.toInt32)), .val (.int ((p5 &&& (255 : Int32)).toUInt32.toUInt16.toUInt32.toInt32)), .val (.int n8), .val (.ref x9), .val (.int (0 : Int32)), .val (.ref x9), .val (.int (0 : Int32)), .val (.ref b12), .val (.ref x9)]) rfl kk) ?_
        show GlW Z consts_1 p e below s _ _ _ T16 (mkF m 220 #[.val (.int p1), .val (.int p2), .val (.int p3), .val (.int p4), .val (.int p5), .val (.int ((p3 &&& (255 : Int32)).toUInt32.toUInt16.toUInt32.toInt32)), .val (.int ((p4 &&& (255 : Int32)).toUInt32.toUInt16.toUInt32.toInt32)), .val (.int ((p5 &&& (255 : Int32)).toUInt32.toUInt16.toUInt32.toInt32)), .val (.int n8), .val (.ref x9), .val (.int (0 : Int32)), .val (.ref x9), .val (.int (0 : Int32)), .val (.ref b12), .val (.ref x9)] [])
        refine GlW.st (fun _ kk => XS.iload X16.here hx rfl (hb hby at_220) rfl kk) ?_
        show GlW Z consts_1 p e below s _ _ _ T16 (mkF m 222 #[.val (.int p1), .val (.int p2), .val (.int p3), .val (.int p4), .val (.int p5), .val (.int ((p3 &&& (255 : Int32)).toUInt32.toUInt16.toUInt32.toInt32)), .val (.int ((p4 &&& (255 : Int32)).toUInt32.toUInt16.toUInt32.toInt32)), .val (.int ((p5 &&& (255 : Int32)).toUInt32.toUInt16.toUInt32.toInt32)), .val (.int n8), .val (.ref x9), .val (.int (0 : Int32)), .val (.ref x9), .val (.int (0 : Int32)), .val (.ref b12), .val (.ref x9)] [(.int (0 : Int32))])
        refine GlW.st (fun _ kk => XS.ifYes X16.here hx rfl (pc0 := 222) (pc' := 236) rfl (hb hby at_222) rfl ((if0 _ _).trans (teq (by decide : (0 : Int32) = (0 : Int32))).1) (by decide) (by decide) kk) ?_
        show GlW Z consts_1 p e below s _ _ _ T16 (mkF m 236 #[.val (.int p1), .val (.int p2), .val (.int p3), .val (.int p4), .val (.int p5), .val (.int ((p3 &&& (255 : Int32)).toUInt32.toUInt16.toUInt32.toInt32)), .val (.int ((p4 &&& (255 : Int32)).toUInt32.toUInt16.toUInt32.toInt32)), .val (.int ((p5 &&& (255 : Int32)).toUInt32.toUInt16.toUInt32.toInt32)), .val (.int n8), .val (.ref x9), .val (.int (0 : Int32)), .val (.ref x9), .val (.int (0 : Int32)), .val (.ref b12), .val (.ref x9)] [])
        refine GlW.st (fun _ kk => XS.aload X16.here hx rfl (hb hby at_236) rfl rfl kk) ?_
        show GlW Z consts_1 p e below s _ _ _ T16 (mkF m 238 #[.val (.int p1), .val (.int p2), .val (.int p3), .val (.int p4), .val (.int p5), .val (.int ((p3 &&& (255 : Int32)).toUInt32.toUInt16.toUInt32.toInt32)), .val (.int ((p4 &&& (255 : Int32)).toUInt32.toUInt16.toUInt32.toInt32)), .val (.int ((p5 &&& (255 : Int32)).toUInt32.toUInt16.toUInt32.toInt32)), .val (.int n8), .val (.ref x9), .val (.int (0 : Int32)), .val (.ref x9), .val (.int (0 : Int32)), .val (.ref b12), .val (.ref x9)] [(.ref x9)])
        refine GlW.st (fun _ kk => XS.ifnullNo X16.here hx rfl (hb hby at_238) rfl kk) ?_
        show GlW Z consts_1 p e below s _ _ _ T16 (mkF m 241 #[.val (.int p1), .val (.int p2), .val (.int p3), .val (.int p4), .val (.int p5), .val (.int ((p3 &&& (255 : Int32)).toUInt32.toUInt16.toUInt32.toInt32)), .val (.int ((p4 &&& (255 : Int32)).toUInt32.toUInt16.toUInt32.toInt32)), .val (.int ((p5 &&& (255 : Int32)).toUInt32.toUInt16.toUInt32.toInt32)), .val (.int n8), .val (.ref x9), .val (.int (0 : Int32)), .val (.ref x9), .val (.int (0 : Int32)), .val (.ref b12), .val (.ref x9)] [])
        refine GlW.st (fun _ kk => XS.aload X16.here hx rfl (hb hby at_241) rfl rfl kk) ?_
        show GlW Z consts_1 p e below s _ _ _ T16 (mkF m 243 #[.val (.int p1), .val (.int p2), .val (.int p3), .val (.int p4), .val (.int p5), .val (.int ((p3 &&& (255 : Int32)).toUInt32.toUInt16.toUInt32.toInt32)), .val (.int ((p4 &&& (255 : Int32)).toUInt32.toUInt16.toUInt32.toInt32)), .val (.int ((p5 &&& (255 : Int32)).toUInt32.toUInt16.toUInt32.toInt32)), .val (.int n8), .val (.ref x9), .val (.int (0 : Int32)), .val (.ref x9), .val (.int (0 : Int32)), .val (.ref b12), .val (.ref x9)] [(.ref x9)])
        refine GlW.st (fun _ kk => XS.aload X16.here hx rfl (hb hby at_243) rfl rfl kk) ?_
        show GlW Z consts_1 p e below s _ _ _ T16 (mkF m 245 #[.val (.int p1), .val (.int p2), .val (.int p3), .val (.int p4), .val (.int p5), .val (.int ((p3 &&& (255 : Int32)).toUInt32.toUInt16.toUInt32.toInt32)), .val (.int ((p4 &&& (255 : Int32)).toUInt32.toUInt16.toUInt32.toInt32)), .val (.int ((p5 &&& (255 : Int32)).toUInt32.toUInt16.toUInt32.toInt32)), .val (.int n8), .val (.ref x9), .val (.int (0 : Int32)), .val (.ref x9), .val (.int (0 : Int32)), .val (.ref b12), .val (.ref x9)] [(.ref x9), (.ref x9)])
        obtain ⟨cq17, kq17, qa17, qb17, qc17⟩ := isOf (s := s.setVm vJ1) hZ e16 Exa_x9
        obtain ⟨v17, _, ⟨T17, L17, kQ17, nQ17⟩, -, X17, ⟨Lc17, hQ17, l17, y17, z17⟩, st17⟩ := X16.virtualBack hx (y := (⟨"java/lang/String", "equals", "(Ljava/lang/Object;)Z"⟩ : MethodName)) (z := (⟨"java/lang/String", "equals", "(Ljava/lang/Object;)Z"⟩ : MethodName)) hown (mvT hZ (hw _ (List.mem_of_getElem? (i := 107) rfl))) (mvT hZ (hw _ (List.mem_of_getElem? (i := 108) rfl))) (notFace_of_selects (args := #[]) (mvT hZ (hw _ (List.mem_of_getElem? (i := 110) rfl)))) (mvT hZ (hw _ (List.mem_of_getElem? (i := 110) rfl))) (mvT hZ (hw _ (List.mem_of_getElem? (i := 109) rfl))) (by decide) (backOf (W := 0) (rmEQ l Z a0 hw [] x9 h15 n0 O15) hZ (hw _ (List.mem_of_getElem? (i := 111) rfl)) (hw _ (List.mem_of_getElem? (i := 3) rfl)) (by decide) (by decide)) qa17 qc17 (g := (mkF m 245 #[.val (.int p1), .val (.int p2), .val (.int p3), .val (.int p4), .val (.int p5), .val (.int ((p3 &&& (255 : Int32)).toUInt32.toUInt16.toUInt32.toInt32)), .val (.int ((p4 &&& (255 : Int32)).toUInt32.toUInt16.toUInt32.toInt32)), .val (.int ((p5 &&& (255 : Int32)).toUInt32.toUInt16.toUInt32.toInt32)), .val (.int n8), .val (.ref x9), .val (.int (0 : Int32)), .val (.ref x9), .val (.int (0 : Int32)), .val (.ref b12), .val (.ref x9)] [(.ref x9), (.ref x9)])) rfl (by rw [hml]; rfl) (Steps.refl _) (argsL := [(.ref x9)]) (rest := []) (lenOf pd_rm0_4 rfl) rfl (by show 2 * 0 + _ ≤ _; exact Nat.le_of_eq rfl) (hb hby at_245) (fun _ _ => ⟨rfl, e16, (by decide : 9 + 0 ≤ _), (by decide : 2800 + 0 ≤ _)⟩)
        dsimp only [Pt.U, Pt.locs, Pt.cells, Pt.slots] at X17 l17 y17 z17 st17 hQ17
        subst y17 z17
        obtain ⟨rfl, Nq17, e17⟩ := hQ17
        have N17 : Fr n0 L17 := l17 ▸ Fr.app N16 Nq17
        refine GlW.st (fun _ kk => st17.trans kk) ?_
        clear st17 qc17 qb17 qa17 kq17 cq17
        clear N16 X16 e16
        show GlW Z consts_1 p e below s _ _ _ T17 (mkF m 248 #[.val (.int p1), .val (.int p2), .val (.int p3), .val (.int p4), .val (.int p5), .val (.int ((p3 &&& (255 : Int32)).toUInt32.toUInt16.toUInt32.toInt32)), .val (.int ((p4 &&& (255 : Int32)).toUInt32.toUInt16.toUInt32.toInt32)), .val (.int ((p5 &&& (255 : Int32)).toUInt32.toUInt16.toUInt32.toInt32)), .val (.int n8), .val (.ref x9), .val (.int (0 : Int32)), .val (.ref x9), .val (.int (0 : Int32)), .val (.ref b12), .val (.ref x9)] [(.int (1 : Int32))])
        refine GlW.st (fun _ kk => XS.ifNo X17.here hx rfl (hb hby at_248) rfl ((if0 _ _).trans (feq (by decide : ¬ ((1 : Int32) = (0 : Int32)))).1) kk) ?_
        show GlW Z consts_1 p e below s _ _ _ T17 (mkF m 251 #[.val (.int p1), .val (.int p2), .val (.int p3), .val (.int p4), .val (.int p5), .val (.int ((p3 &&& (255 : Int32)).toUInt32.toUInt16.toUInt32.toInt32)), .val (.int ((p4 &&& (255 : Int32)).toUInt32.toUInt16.toUInt32.toInt32)), .val (.int ((p5 &&& (255 : Int32)).toUInt32.toUInt16.toUInt32.toInt32)), .val (.int n8), .val (.ref x9), .val (.int (0 : Int32)), .val (.ref x9), .val (.int (0 : Int32)), .val (.ref b12), .val (.ref x9)] [])
        refine GlW.st (fun _ kk => XS.iconst X17.here hx rfl (hb hby at_251) kk) ?_
        show GlW Z consts_1 p e below s _ _ _ T17 (mkF m 252 #[.val (.int p1), .val (.int p2), .val (.int p3), .val (.int p4), .val (.int p5), .val (.int ((p3 &&& (255 : Int32)).toUInt32.toUInt16.toUInt32.toInt32)), .val (.int ((p4 &&& (255 : Int32)).toUInt32.toUInt16.toUInt32.toInt32)), .val (.int ((p5 &&& (255 : Int32)).toUInt32.toUInt16.toUInt32.toInt32)), .val (.int n8), .val (.ref x9), .val (.int (0 : Int32)), .val (.ref x9), .val (.int (0 : Int32)), .val (.ref b12), .val (.ref x9)] [(.int (1 : Int32))])
        refine GlW.st (fun _ kk => XS.goto X17.here hx rfl (pc0 := 252) (pc' := 256) rfl (hb hby at_252) (by decide) (by decide) kk) ?_
        show GlW Z consts_1 p e below s _ _ _ T17 (mkF m 256 #[.val (.int p1), .val (.int p2), .val (.int p3), .val (.int p4), .val (.int p5), .val (.int ((p3 &&& (255 : Int32)).toUInt32.toUInt16.toUInt32.toInt32)), .val (.int ((p4 &&& (255 : Int32)).toUInt32.toUInt16.toUInt32.toInt32)), .val (.int ((p5 &&& (255 : Int32)).toUInt32.toUInt16.toUInt32.toInt32)), .val (.int n8), .val (.ref x9), .val (.int (0 : Int32)), .val (.ref x9), .val (.int (0 : Int32)), .val (.ref b12), .val (.ref x9)] [(.int (1 : Int32))])
        exact GlW.ret X17 hS1 hk15 hZ hEL hh0 HC15 (v := (some (.int (1 : Int32)))) (fun h => by rw [Bd.returns] at h; cases h) (BodyLoose.notSynchronized Bd) (fun hr => retN X17 hx (t := .boolean) Bd.returns (by simp) (hb hby at_256) hr) e17 ⟨rfl, N17⟩ (by decide) (by decide)
      · skip
        refine GlW.st (fun _ kk => XS.ifNo X1.here hx rfl (hb hby at_159) rfl ((if0 _ _).trans (feq hc159).1) kk) ?_
        show GlW Z consts_1 p e below s _ _ _ T1 (mkF m 162 #[.val (.int p1), .val (.int p2), .val (.int p3), .val (.int p4), .val (.int p5), .val (.int ((p3 &&& (255 : Int32)).toUInt32.toUInt16.toUInt32.toInt32)), .val (.int ((p4 &&& (255 : Int32)).toUInt32.toUInt16.toUInt32.toInt32)), .val (.int ((p5 &&& (255 : Int32)).toUInt32.toUInt16.toUInt32.toInt32)), .val (.int n8), .val (.ref x9), .val (.int (0 : Int32)), .val (.ref x9), .unset, .unset, .unset] [])
        refine GlW.st (fun _ kk => XS.iconst X1.here hx rfl (hb hby at_162) kk) ?_
        show GlW Z consts_1 p e below s _ _ _ T1 (mkF m 163 #[.val (.int p1), .val (.int p2), .val (.int p3), .val (.int p4), .val (.int p5), .val (.int ((p3 &&& (255 : Int32)).toUInt32.toUInt16.toUInt32.toInt32)), .val (.int ((p4 &&& (255 : Int32)).toUInt32.toUInt16.toUInt32.toInt32)), .val (.int ((p5 &&& (255 : Int32)).toUInt32.toUInt16.toUInt32.toInt32)), .val (.int n8), .val (.ref x9), .val (.int (0 : Int32)), .val (.ref x9), .unset, .unset, .unset] [(.int (1 : Int32))])
        refine GlW.st (fun _ kk => XS.goto X1.here hx rfl (pc0 := 163) (pc' := 167) rfl (hb hby at_163) (by decide) (by decide) kk) ?_
        show GlW Z consts_1 p e below s _ _ _ T1 (mkF m 167 #[.val (.int p1), .val (.int p2), .val (.int p3), .val (.int p4), .val (.int p5), .val (.int ((p3 &&& (255 : Int32)).toUInt32.toUInt16.toUInt32.toInt32)), .val (.int ((p4 &&& (255 : Int32)).toUInt32.toUInt16.toUInt32.toInt32)), .val (.int ((p5 &&& (255 : Int32)).toUInt32.toUInt16.toUInt32.toInt32)), .val (.int n8), .val (.ref x9), .val (.int (0 : Int32)), .val (.ref x9), .unset, .unset, .unset] [(.int (1 : Int32))])
        refine GlW.st (fun _ kk => XS.istore X1.here hx rfl (hb hby at_167) rfl (l' := #[.val (.int p1), .val (.int p2), .val (.int p3), .val (.int p4), .val (.int p5), .val (.int ((p3 &&& (255 : Int32)).toUInt32.toUInt16.toUInt32.toInt32)), .val (.int ((p4 &&& (255 : Int32)).toUInt32.toUInt16.toUInt32.toInt32)), .val (.int ((p5 &&& (255 : Int32)).toUInt32.toUInt16.toUInt32.toInt32)), .val (.int n8), .val (.ref x9), .val (.int (0 : Int32)), .val (.ref x9), .val (.int (1 : Int32)), .unset, .unset]) rfl kk) ?_
        show GlW Z consts_1 p e below s _ _ _ T1 (mkF m 169 #[.val (.int p1), .val (.int p2), .val (.int p3), .val (.int p4), .val (.int p5), .val (.int ((p3 &&& (255 : Int32)).toUInt32.toUInt16.toUInt32.toInt32)), .val (.int ((p4 &&& (255 : Int32)).toUInt32.toUInt16.toUInt32.toInt32)), .val (.int ((p5 &&& (255 : Int32)).toUInt32.toUInt16.toUInt32.toInt32)), .val (.int n8), .val (.ref x9), .val (.int (0 : Int32)), .val (.ref x9), .val (.int (1 : Int32)), .unset, .unset] [])
        refine GlW.st (fun _ kk => XS.iload X1.here hx rfl (hb hby at_169) rfl kk) ?_
        show GlW Z consts_1 p e below s _ _ _ T1 (mkF m 171 #[.val (.int p1), .val (.int p2), .val (.int p3), .val (.int p4), .val (.int p5), .val (.int ((p3 &&& (255 : Int32)).toUInt32.toUInt16.toUInt32.toInt32)), .val (.int ((p4 &&& (255 : Int32)).toUInt32.toUInt16.toUInt32.toInt32)), .val (.int ((p5 &&& (255 : Int32)).toUInt32.toUInt16.toUInt32.toInt32)), .val (.int n8), .val (.ref x9), .val (.int (0 : Int32)), .val (.ref x9), .val (.int (1 : Int32)), .unset, .unset] [(.int (1 : Int32))])
        refine GlW.st (fun _ kk => XS.ifNo X1.here hx rfl (hb hby at_171) rfl ((if0 _ _).trans (feq (by decide : ¬ ((1 : Int32) = (0 : Int32)))).1) kk) ?_
        show GlW Z consts_1 p e below s _ _ _ T1 (mkF m 174 #[.val (.int p1), .val (.int p2), .val (.int p3), .val (.int p4), .val (.int p5), .val (.int ((p3 &&& (255 : Int32)).toUInt32.toUInt16.toUInt32.toInt32)), .val (.int ((p4 &&& (255 : Int32)).toUInt32.toUInt16.toUInt32.toInt32)), .val (.int ((p5 &&& (255 : Int32)).toUInt32.toUInt16.toUInt32.toInt32)), .val (.int n8), .val (.ref x9), .val (.int (0 : Int32)), .val (.ref x9), .val (.int (1 : Int32)), .unset, .unset] [])
        obtain ⟨T18, h18, X18, e18, E18, A18, D18, V18, st18⟩ := newO X1 hx hZ hown (hw _ (List.mem_of_getElem? (i := 31) rfl)) (hw _ (List.mem_of_getElem? (i := 32) rfl)) (hw _ (List.mem_of_getElem? (i := 33) rfl)) e1 (g := (mkF m 174 #[.val (.int p1), .val (.int p2), .val (.int p3), .val (.int p4), .val (.int p5), .val (.int ((p3 &&& (255 : Int32)).toUInt32.toUInt16.toUInt32.toInt32)), .val (.int ((p4 &&& (255 : Int32)).toUInt32.toUInt16.toUInt32.toInt32)), .val (.int ((p5 &&& (255 : Int32)).toUInt32.toUInt16.toUInt32.toInt32)), .val (.int n8), .val (.ref x9), .val (.int (0 : Int32)), .val (.ref x9), .val (.int (1 : Int32)), .unset, .unset] [])) rfl (hb hby at_174) (by decide) (by decide)
        obtain ⟨b18, g18⟩ : ∃ z, z = h1.size := ⟨_, rfl⟩
        rw [← g18] at A18 D18 V18 st18
        refine GlW.st st18 ?_
        have ne_x9_b18 : x9 ≠ b18 := Nat.ne_of_lt (Nat.lt_of_lt_of_eq Exa_x9.lt g18.symm)
        have ge_b18 : n0 ≤ b18 := Nat.le_trans (Nat.le_trans (Nat.le_of_eq O1.1.symm) O1.2.1) (Nat.le_of_eq g18.symm)
        have fr_b18 : h0.size ≤ b18 := Nat.le_trans K1.1 (Nat.le_of_eq g18.symm)
        have HC18 := HC1.trans (CHr.ext E18 HC1.1)
        have hk18 := Nat.le_trans hk1 E18.1
        replace Exa_x9 := Exa_x9.ext E18
        have O18 := O1.ext E18
        have K18 := K1.ext E18
        have Exa_b18 := A18
        have F_invalid_b18 : Fld Z h18 b18 "com/example/explain_locks/explainlocks/schema/RowFault" "invalid" "Lcom/example/explain_locks/explainlocks/InvalidInputException;" .null := D18 (Or.inr (hw _ (List.mem_of_getElem? (i := 93) rfl))) (ty := (.object "com/example/explain_locks/explainlocks/InvalidInputException")) (by decide)
        have F_unsupported_b18 : Fld Z h18 b18 "com/example/explain_locks/explainlocks/schema/RowFault" "unsupported" "Lcom/example/explain_locks/explainlocks/UnsupportedInputException;" .null := D18 (Or.inr (hw _ (List.mem_of_getElem? (i := 95) rfl))) (ty := (.object "com/example/explain_locks/explainlocks/UnsupportedInputException")) (by decide)
        show GlW Z consts_1 p e below s _ _ _ T18 (mkF m 177 #[.val (.int p1), .val (.int p2), .val (.int p3), .val (.int p4), .val (.int p5), .val (.int ((p3 &&& (255 : Int32)).toUInt32.toUInt16.toUInt32.toInt32)), .val (.int ((p4 &&& (255 : Int32)).toUInt32.toUInt16.toUInt32.toInt32)), .val (.int ((p5 &&& (255 : Int32)).toUInt32.toUInt16.toUInt32.toInt32)), .val (.int n8), .val (.ref x9), .val (.int (0 : Int32)), .val (.ref x9), .val (.int (1 : Int32)), .unset, .unset] [(.ref b18)])
        refine GlW.st (fun _ kk => XS.dup X18.here hx rfl (hb hby at_177) rfl rfl kk) ?_
        show GlW Z consts_1 p e below s _ _ _ T18 (mkF m 178 #[.val (.int p1), .val (.int p2), .val (.int p3), .val (.int p4), .val (.int p5), .val (.int ((p3 &&& (255 : Int32)).toUInt32.toUInt16.toUInt32.toInt32)), .val (.int ((p4 &&& (255 : Int32)).toUInt32.toUInt16.toUInt32.toInt32)), .val (.int ((p5 &&& (255 : Int32)).toUInt32.toUInt16.toUInt32.toInt32)), .val (.int n8), .val (.ref x9), .val (.int (0 : Int32)), .val (.ref x9), .val (.int (1 : Int32)), .unset, .unset] [(.ref b18), (.ref b18)])
        obtain ⟨T19, h19, X19, e19, E19, A19, D19, V19, st19⟩ := newO X18 hx hZ hown (hw _ (List.mem_of_getElem? (i := 115) rfl)) (hw _ (List.mem_of_getElem? (i := 116) rfl)) (hw _ (List.mem_of_getElem? (i := 117) rfl)) e18 (g := (mkF m 178 #[.val (.int p1), .val (.int p2), .val (.int p3), .val (.int p4), .val (.int p5), .val (.int ((p3 &&& (255 : Int32)).toUInt32.toUInt16.toUInt32.toInt32)), .val (.int ((p4 &&& (255 : Int32)).toUInt32.toUInt16.toUInt32.toInt32)), .val (.int ((p5 &&& (255 : Int32)).toUInt32.toUInt16.toUInt32.toInt32)), .val (.int n8), .val (.ref x9), .val (.int (0 : Int32)), .val (.ref x9), .val (.int (1 : Int32)), .unset, .unset] [(.ref b18), (.ref b18)])) rfl (hb hby at_178) (by decide) (by decide)
        obtain ⟨b19, g19⟩ : ∃ z, z = h18.size := ⟨_, rfl⟩
        rw [← g19] at A19 D19 V19 st19
        refine GlW.st st19 ?_
        have ne_b18_b19 : b18 ≠ b19 := Nat.ne_of_lt (Nat.lt_of_lt_of_eq Exa_b18.lt g19.symm)
        have ne_x9_b19 : x9 ≠ b19 := Nat.ne_of_lt (Nat.lt_of_lt_of_eq Exa_x9.lt g19.symm)
        have ge_b19 : n0 ≤ b19 := Nat.le_trans (Nat.le_trans (Nat.le_of_eq O18.1.symm) O18.2.1) (Nat.le_of_eq g19.symm)
        have fr_b19 : h0.size ≤ b19 := Nat.le_trans K18.1 (Nat.le_of_eq g19.symm)
        have HC19 := HC18.trans (CHr.ext E19 HC18.1)
        have hk19 := Nat.le_trans hk18 E19.1
        replace Exa_x9 := Exa_x9.ext E19
        replace Exa_b18 := Exa_b18.ext E19
        replace F_invalid_b18 := F_invalid_b18.ext E19
        replace F_unsupported_b18 := F_unsupported_b18.ext E19
        have O19 := O18.ext E19
        have K19 := K18.ext E19
        have Exa_b19 := A19
        have F_cause_b19 : Fld Z h19 b19 "java/lang/Throwable" "cause" "Ljava/lang/Throwable;" .null := D19 (Or.inl (hw _ (List.mem_of_getElem? (i := 123) rfl))) (ty := (.object "java/lang/Throwable")) (by decide)
        have F_stackTrace_b19 : Fld Z h19 b19 "java/lang/Throwable" "stackTrace" "[Ljava/lang/StackTraceElement;" .null := D19 (Or.inl (hw _ (List.mem_of_getElem? (i := 124) rfl))) (ty := (.array (.object "java/lang/StackTraceElement"))) (by decide)
        have F_suppressedExceptions_b19 : Fld Z h19 b19 "java/lang/Throwable" "suppressedExceptions" "Ljava/util/List;" .null := D19 (Or.inl (hw _ (List.mem_of_getElem? (i := 125) rfl))) (ty := (.object "java/util/List")) (by decide)
        have F_detailMessage_b19 : Fld Z h19 b19 "java/lang/Throwable" "detailMessage" "Ljava/lang/String;" .null := D19 (Or.inl (hw _ (List.mem_of_getElem? (i := 128) rfl))) (ty := (.object "java/lang/String")) (by decide)
        have F_backtrace_b19 : Fld Z h19 b19 "java/lang/Throwable" "backtrace" "Ljava/lang/Object;" .null := D19 (Or.inl (hw _ (List.mem_of_getElem? (i := 129) rfl))) (ty := (.object "java/lang/Object")) (by decide)
        have F_depth_b19 : Fld Z h19 b19 "java/lang/Throwable" "depth" "I" (.int (0 : Int32)) := D19 (Or.inl (hw _ (List.mem_of_getElem? (i := 130) rfl))) (ty := .int) (by decide)
        show GlW Z consts_1 p e below s _ _ _ T19 (mkF m 181 #[.val (.int p1), .val (.int p2), .val (.int p3), .val (.int p4), .val (.int p5), .val (.int ((p3 &&& (255 : Int32)).toUInt32.toUInt16.toUInt32.toInt32)), .val (.int ((p4 &&& (255 : Int32)).toUInt32.toUInt16.toUInt32.toInt32)), .val (.int ((p5 &&& (255 : Int32)).toUInt32.toUInt16.toUInt32.toInt32)), .val (.int n8), .val (.ref x9), .val (.int (0 : Int32)), .val (.ref x9), .val (.int (1 : Int32)), .unset, .unset] [(.ref b19), (.ref b18), (.ref b18)])
        refine GlW.st (fun _ kk => XS.dup X19.here hx rfl (hb hby at_181) rfl rfl kk) ?_
        show GlW Z consts_1 p e below s _ _ _ T19 (mkF m 182 #[.val (.int p1), .val (.int p2), .val (.int p3), .val (.int p4), .val (.int p5), .val (.int ((p3 &&& (255 : Int32)).toUInt32.toUInt16.toUInt32.toInt32)), .val (.int ((p4 &&& (255 : Int32)).toUInt32.toUInt16.toUInt32.toInt32)), .val (.int ((p5 &&& (255 : Int32)).toUInt32.toUInt16.toUInt32.toInt32)), .val (.int n8), .val (.ref x9), .val (.int (0 : Int32)), .val (.ref x9), .val (.int (1 : Int32)), .unset, .unset] [(.ref b19), (.ref b19), (.ref b18), (.ref b18)])
        refine GlW.st (fun _ kk => XS.aload X19.here hx rfl (hb hby at_182) rfl rfl kk) ?_
        show GlW Z consts_1 p e below s _ _ _ T19 (mkF m 184 #[.val (.int p1), .val (.int p2), .val (.int p3), .val (.int p4), .val (.int p5), .val (.int ((p3 &&& (255 : Int32)).toUInt32.toUInt16.toUInt32.toInt32)), .val (.int ((p4 &&& (255 : Int32)).toUInt32.toUInt16.toUInt32.toInt32)), .val (.int ((p5 &&& (255 : Int32)).toUInt32.toUInt16.toUInt32.toInt32)), .val (.int n8), .val (.ref x9), .val (.int (0 : Int32)), .val (.ref x9), .val (.int (1 : Int32)), .unset, .unset] [(.ref x9), (.ref b19), (.ref b19), (.ref b18), (.ref b18)])
        obtain ⟨v20, _, ⟨T20, L20, kQ20, nQ20⟩, -, X20, ⟨Lc20, hQ20, l20, y20, z20⟩, st20⟩ := X19.specialBack hx (y := (⟨"com/example/explain_locks/explainlocks/InvalidInputException", "<init>", "(Ljava/lang/String;)V"⟩ : MethodName)) rfl hown (mvT hZ (hw _ (List.mem_of_getElem? (i := 118) rfl))) (mvT hZ (hw _ (List.mem_of_getElem? (i := 119) rfl))) (mvT hZ (hw _ (List.mem_of_getElem? (i := 120) rfl))) (by decide) (backOfKL (W := 3) (rmCI l Z a0 hw [] b19 (.ref x9) uU uS h19 n0 O19 Exa_b19 V19 F_cause_b19 F_stackTrace_b19 F_suppressedExceptions_b19 F_backtrace_b19 F_detailMessage_b19 ge_b19 S_U S_S hl rfl) hZ (hw _ (List.mem_of_getElem? (i := 120) rfl)) (hw _ (List.mem_of_getElem? (i := 117) rfl)) (by decide) (by decide) (Vm.MethodsKnown.alikeC hZ.alike hTK) (Vm.FramesKnown.alikeC hZ.alike hK)) (g := (mkF m 184 #[.val (.int p1), .val (.int p2), .val (.int p3), .val (.int p4), .val (.int p5), .val (.int ((p3 &&& (255 : Int32)).toUInt32.toUInt16.toUInt32.toInt32)), .val (.int ((p4 &&& (255 : Int32)).toUInt32.toUInt16.toUInt32.toInt32)), .val (.int ((p5 &&& (255 : Int32)).toUInt32.toUInt16.toUInt32.toInt32)), .val (.int n8), .val (.ref x9), .val (.int (0 : Int32)), .val (.ref x9), .val (.int (1 : Int32)), .unset, .unset] [(.ref x9), (.ref b19), (.ref b19), (.ref b18), (.ref b18)])) rfl (by rw [hml]; rfl) (Steps.refl _) (a := b19) (argsL := [(.ref x9)]) (rest := [(.ref b19), (.ref b18), (.ref b18)]) (lenOf pd_rm0_0 rfl) rfl (by show 2 * 0 + _ ≤ _; exact Nat.le_of_eq rfl) (hb hby at_184) (fun _ _ => ⟨rfl, e19, (by decide : 8 + 1 ≤ _), (by decide : 48 + 2752 ≤ _)⟩)
        dsimp only [Pt.U, Pt.locs, Pt.cells, Pt.slots] at X20 l20 y20 z20 st20 hQ20
        subst y20 z20
        obtain ⟨h20, e20⟩ : ∃ z, T20.heap = z := ⟨_, rfl⟩
        rw [e20] at hQ20
        obtain ⟨rfl, Nq20, Kq20, F_detailMessage_q20⟩ := hQ20
        have N20 : Fr n0 L20 := l20 ▸ Fr.app N1 Nq20
        refine GlW.st (fun _ kk => st20.trans kk) ?_
        have sfk20 : ∀ x ∈ [b19], Safe Z consts_1 _ _ x := (allS (Safe.exa hZ.alike Exa_b19 (by decide) (by decide)) all0)
        have HC20 := HC19.trans (CHr.keep Kq20 sfk20 HC19.1)
        have hk20 := Nat.le_trans hk19 Kq20.1
        replace Exa_x9 := Exa_x9.keep Kq20
        replace Exa_b18 := Exa_b18.keep Kq20
        replace F_invalid_b18 := F_invalid_b18.keep Kq20 (ninS ne_b18_b19 nin0)
        replace F_unsupported_b18 := F_unsupported_b18.keep Kq20 (ninS ne_b18_b19 nin0)
        replace Exa_b19 := Exa_b19.keep Kq20
        have O20 := O19.keep Kq20 (allS ge_b19 all0)
        have K20 := K19.trans Kq20 (allS (Or.inr fr_b19) all0)
        have F_detailMessage_b19 := F_detailMessage_q20
        clear st20
        clear O19 K19 N1 HC19 hk19 X19 e19
        show GlW Z consts_1 p e below s _ _ _ T20 (mkF m 187 #[.val (.int p1), .val (.int p2), .val (.int p3), .val (.int p4), .val (.int p5), .val (.int ((p3 &&& (255 : Int32)).toUInt32.toUInt16.toUInt32.toInt32)), .val (.int ((p4 &&& (255 : Int32)).toUInt32.toUInt16.toUInt32.toInt32)), .val (.int ((p5 &&& (255 : Int32)).toUInt32.toUInt16.toUInt32.toInt32)), .val (.int n8), .val (.ref x9), .val (.int (0 : Int32)), .val (.ref x9), .val (.int (1 : Int32)), .unset, .unset] [(.ref b19), (.ref b18), (.ref b18)])
        obtain ⟨v21, _, ⟨T21, L21, kQ21, nQ21⟩, -, X21, ⟨Lc21, hQ21, l21, y21, z21⟩, st21⟩ := X20.specialBack hx (y := (⟨"com/example/explain_locks/explainlocks/schema/RowFault", "<init>", "(Lcom/example/explain_locks/explainlocks/InvalidInputException;)V"⟩ : MethodName)) rfl hown (mvT hZ (hw _ (List.mem_of_getElem? (i := 132) rfl))) (mvT hZ (hw _ (List.mem_of_getElem? (i := 133) rfl))) (mvT hZ (hw _ (List.mem_of_getElem? (i := 134) rfl))) (by decide) (backOf (W := 1) (rmFI l Z a0 hw [] b18 b19 h20 n0 O20 Exa_b18 F_invalid_b18 F_unsupported_b18 ge_b18) hZ (hw _ (List.mem_of_getElem? (i := 134) rfl)) (hw _ (List.mem_of_getElem? (i := 33) rfl)) (by decide) (by decide)) (g := (mkF m 187 #[.val (.int p1), .val (.int p2), .val (.int p3), .val (.int p4), .val (.int p5), .val (.int ((p3 &&& (255 : Int32)).toUInt32.toUInt16.toUInt32.toInt32)), .val (.int ((p4 &&& (255 : Int32)).toUInt32.toUInt16.toUInt32.toInt32)), .val (.int ((p5 &&& (255 : Int32)).toUInt32.toUInt16.toUInt32.toInt32)), .val (.int n8), .val (.ref x9), .val (.int (0 : Int32)), .val (.ref x9), .val (.int (1 : Int32)), .unset, .unset] [(.ref b19), (.ref b18), (.ref b18)])) rfl (by rw [hml]; rfl) (Steps.refl _) (a := b18) (argsL := [(.ref b19)]) (rest := [(.ref b18)]) (lenOf pd_rm0_3 rfl) rfl (by show 2 * 0 + _ ≤ _; exact Nat.le_of_eq rfl) (hb hby at_187) (fun _ _ => ⟨rfl, e20, (by decide : 9 + 0 ≤ _), (by decide : 2800 + 0 ≤ _)⟩)
        dsimp only [Pt.U, Pt.locs, Pt.cells, Pt.slots] at X21 l21 y21 z21 st21 hQ21
        subst y21 z21
        obtain ⟨h21, e21⟩ : ∃ z, T21.heap = z := ⟨_, rfl⟩
        rw [e21] at hQ21
        obtain ⟨rfl, Nq21, Kq21, F_invalid_q21, F_unsupported_q21⟩ := hQ21
        have N21 : Fr n0 L21 := l21 ▸ Fr.app N20 Nq21
        refine GlW.st (fun _ kk => st21.trans kk) ?_
        have sfk21 : ∀ x ∈ [b18], Safe Z consts_1 _ _ x := (allS (Safe.exa hZ.alike Exa_b18 (by decide) (by decide)) all0)
        have HC21 := HC20.trans (CHr.keep Kq21 sfk21 HC20.1)
        have hk21 := Nat.le_trans hk20 Kq21.1
        replace Exa_x9 := Exa_x9.keep Kq21
        replace Exa_b18 := Exa_b18.keep Kq21
        replace Exa_b19 := Exa_b19.keep Kq21
        replace F_detailMessage_b19 := F_detailMessage_b19.keep Kq21 (ninS (Ne.symm ne_b18_b19) nin0)
        have O21 := O20.keep Kq21 (allS ge_b18 all0)
        have K21 := K20.trans Kq21 (allS (Or.inr fr_b18) all0)
        have F_invalid_b18 := F_invalid_q21
        have F_unsupported_b18 := F_unsupported_q21
        clear st21
        clear O20 K20 N20 HC20 hk20 X20 e20
        show GlW Z consts_1 p e below s _ _ _ T21 (mkF m 190 #[.val (.int p1), .val (.int p2), .val (.int p3), .val (.int p4), .val (.int p5), .val (.int ((p3 &&& (255 : Int32)).toUInt32.toUInt16.toUInt32.toInt32)), .val (.int ((p4 &&& (255 : Int32)).toUInt32.toUInt16.toUInt32.toInt32)), .val (.int ((p5 &&& (255 : Int32)).toUInt32.toUInt16.toUInt32.toInt32)), .val (.int n8), .val (.ref x9), .val (.int (0 : Int32)), .val (.ref x9), .val (.int (1 : Int32)), .unset, .unset] [(.ref b18)])
        refine GlW.st (fun _ kk => XS.astore X21.here hx rfl (hb hby at_190) rfl rfl (l' := #[.val (.int p1), .val (.int p2), .val (.int p3), .val (.int p4), .val (.int p5), .val (.int ((p3 &&& (255 : Int32)).toUInt32.toUInt16.toUInt32.toInt32)), .val (.int ((p4 &&& (255 : Int32)).toUInt32.toUInt16.toUInt32.toInt32)), .val (.int ((p5 &&& (255 : Int32)).toUInt32.toUInt16.toUInt32.toInt32)), .val (.int n8), .val (.ref x9), .val (.int (0 : Int32)), .val (.ref x9), .val (.int (1 : Int32)), .val (.ref b18), .unset]) rfl kk) ?_
        show GlW Z consts_1 p e below s _ _ _ T21 (mkF m 192 #[.val (.int p1), .val (.int p2), .val (.int p3), .val (.int p4), .val (.int p5), .val (.int ((p3 &&& (255 : Int32)).toUInt32.toUInt16.toUInt32.toInt32)), .val (.int ((p4 &&& (255 : Int32)).toUInt32.toUInt16.toUInt32.toInt32)), .val (.int ((p5 &&& (255 : Int32)).toUInt32.toUInt16.toUInt32.toInt32)), .val (.int n8), .val (.ref x9), .val (.int (0 : Int32)), .val (.ref x9), .val (.int (1 : Int32)), .val (.ref b18), .unset] [])
        refine GlW.st (fun _ kk => XS.goto X21.here hx rfl (pc0 := 192) (pc' := 213) rfl (hb hby at_192) (by decide) (by decide) kk) ?_
        show GlW Z consts_1 p e below s _ _ _ T21 (mkF m 213 #[.val (.int p1), .val (.int p2), .val (.int p3), .val (.int p4), .val (.int p5), .val (.int ((p3 &&& (255 : Int32)).toUInt32.toUInt16.toUInt32.toInt32)), .val (.int ((p4 &&& (255 : Int32)).toUInt32.toUInt16.toUInt32.toInt32)), .val (.int ((p5 &&& (255 : Int32)).toUInt32.toUInt16.toUInt32.toInt32)), .val (.int n8), .val (.ref x9), .val (.int (0 : Int32)), .val (.ref x9), .val (.int (1 : Int32)), .val (.ref b18), .unset] [])
        refine GlW.st (fun _ kk => XS.aload X21.here hx rfl (hb hby at_213) rfl rfl kk) ?_
        show GlW Z consts_1 p e below s _ _ _ T21 (mkF m 215 #[.val (.int p1), .val (.int p2), .val (.int p3), .val (.int p4), .val (.int p5), .val (.int ((p3 &&& (255 : Int32)).toUInt32.toUInt16.toUInt32.toInt32)), .val (.int ((p4 &&& (255 : Int32)).toUInt32.toUInt16.toUInt32.toInt32)), .val (.int ((p5 &&& (255 : Int32)).toUInt32.toUInt16.toUInt32.toInt32)), .val (.int n8), .val (.ref x9), .val (.int (0 : Int32)), .val (.ref x9), .val (.int (1 : Int32)), .val (.ref b18), .unset] [(.ref b18)])
        obtain ⟨cq22, kq22, qa22, qb22, qc22⟩ := isOf (s := s.setVm vJ1) hZ e21 Exa_b18
        obtain ⟨v22, _, ⟨T22, L22, kQ22, nQ22⟩, -, X22, ⟨Lc22, hQ22, l22, y22, z22⟩, st22⟩ := X21.virtualBack hx (y := (⟨"com/example/explain_locks/explainlocks/schema/RowFault", "message", "()Ljava/lang/String;"⟩ : MethodName)) (z := (⟨"com/example/explain_locks/explainlocks/schema/RowFault", "message", "()Ljava/lang/String;"⟩ : MethodName)) hown (mvT hZ (hw _ (List.mem_of_getElem? (i := 96) rfl))) (mvT hZ (hw _ (List.mem_of_getElem? (i := 97) rfl))) (notFace_of_selects (args := #[]) (mvT hZ (hw _ (List.mem_of_getElem? (i := 99) rfl)))) (mvT hZ (hw _ (List.mem_of_getElem? (i := 99) rfl))) (mvT hZ (hw _ (List.mem_of_getElem? (i := 98) rfl))) (by decide) (backOf (W := 0) (rmMI0 l Z a0 hw [] b18 b19 x9 h21 n0 O21 F_invalid_b18 F_unsupported_b18 Exa_b19 F_detailMessage_b19) hZ (hw _ (List.mem_of_getElem? (i := 100) rfl)) (hw _ (List.mem_of_getElem? (i := 33) rfl)) (by decide) (by decide)) qa22 qc22 (g := (mkF m 215 #[.val (.int p1), .val (.int p2), .val (.int p3), .val (.int p4), .val (.int p5), .val (.int ((p3 &&& (255 : Int32)).toUInt32.toUInt16.toUInt32.toInt32)), .val (.int ((p4 &&& (255 : Int32)).toUInt32.toUInt16.toUInt32.toInt32)), .val (.int ((p5 &&& (255 : Int32)).toUInt32.toUInt16.toUInt32.toInt32)), .val (.int n8), .val (.ref x9), .val (.int (0 : Int32)), .val (.ref x9), .val (.int (1 : Int32)), .val (.ref b18), .unset] [(.ref b18)])) rfl (by rw [hml]; rfl) (Steps.refl _) (argsL := []) (rest := []) (lenOf pd_rm0_2 rfl) rfl (by show 2 * 0 + _ ≤ _; exact Nat.le_of_eq rfl) (hb hby at_215) (fun _ _ => ⟨rfl, e21, (by decide : 9 + 0 ≤ _), (by decide : 2800 + 0 ≤ _)⟩)
        dsimp only [Pt.U, Pt.locs, Pt.cells, Pt.slots] at X22 l22 y22 z22 st22 hQ22
        subst y22 z22
        obtain ⟨rfl, Nq22, e22⟩ := hQ22
        have N22 : Fr n0 L22 := l22 ▸ Fr.app N21 Nq22
        refine GlW.st (fun _ kk => st22.trans kk) ?_
        clear st22 qc22 qb22 qa22 kq22 cq22
        clear N21 X21 e21
        show GlW Z consts_1 p e below s _ _ _ T22 (mkF m 218 #[.val (.int p1), .val (.int p2), .val (.int p3), .val (.int p4), .val (.int p5), .val (.int ((p3 &&& (255 : Int32)).toUInt32.toUInt16.toUInt32.toInt32)), .val (.int ((p4 &&& (255 : Int32)).toUInt32.toUInt16.toUInt32.toInt32)), .val (.int ((p5 &&& (255 : Int32)).toUInt32.toUInt16.toUInt32.toInt32)), .val (.int n8), .val (.ref x9), .val (.int (0 : Int32)), .val (.ref x9), .val (.int (1 : Int32)), .val (.ref b18), .unset] [(.ref x9)])
        refine GlW.st (fun _ kk => XS.astore X22.here hx rfl (hb hby at_218) rfl rfl (l' := #[.val (.int p1), .val (.int p2), .val (.int p3), .val (.int p4), .val (.int p5), .val (.int ((p3 &&& (255 : Int32)).toUInt32.toUInt16.toUInt32.toInt32)), .val (.int ((p4 &&& (255 : Int32)).toUInt32.toUInt16.toUInt32.toInt32)), .val (.int ((p5 &&& (255 : Int32)).toUInt32.toUInt16.toUInt32.toInt32)), .val (.int n8), .val (.ref x9), .val (.int (0 : Int32)), .val (.ref x9), .val (.int (1 : Int32)), .val (.ref b18), .val (.ref x9)]) rfl kk) ?_
        show GlW Z consts_1 p e below s _ _ _ T22 (mkF m 220 #[.val (.int p1), .val (.int p2), .val (.int p3), .val (.int p4), .val (.int p5), .val (.int ((p3 &&& (255 : Int32)).toUInt32.toUInt16.toUInt32.toInt32)), .val (.int ((p4 &&& (255 : Int32)).toUInt32.toUInt16.toUInt32.toInt32)), .val (.int ((p5 &&& (255 : Int32)).toUInt32.toUInt16.toUInt32.toInt32)), .val (.int n8), .val (.ref x9), .val (.int (0 : Int32)), .val (.ref x9), .val (.int (1 : Int32)), .val (.ref b18), .val (.ref x9)] [])
        refine GlW.st (fun _ kk => XS.iload X22.here hx rfl (hb hby at_220) rfl kk) ?_
        show GlW Z consts_1 p e below s _ _ _ T22 (mkF m 222 #[.val (.int p1), .val (.int p2), .val (.int p3), .val (.int p4), .val (.int p5), .val (.int ((p3 &&& (255 : Int32)).toUInt32.toUInt16.toUInt32.toInt32)), .val (.int ((p4 &&& (255 : Int32)).toUInt32.toUInt16.toUInt32.toInt32)), .val (.int ((p5 &&& (255 : Int32)).toUInt32.toUInt16.toUInt32.toInt32)), .val (.int n8), .val (.ref x9), .val (.int (0 : Int32)), .val (.ref x9), .val (.int (1 : Int32)), .val (.ref b18), .val (.ref x9)] [(.int (0 : Int32))])
        refine GlW.st (fun _ kk => XS.ifYes X22.here hx rfl (pc0 := 222) (pc' := 236) rfl (hb hby at_222) rfl ((if0 _ _).trans (teq (by decide : (0 : Int32) = (0 : Int32))).1) (by decide) (by decide) kk) ?_
        show GlW Z consts_1 p e below s _ _ _ T22 (mkF m 236 #[.val (.int p1), .val (.int p2), .val (.int p3), .val (.int p4), .val (.int p5), .val (.int ((p3 &&& (255 : Int32)).toUInt32.toUInt16.toUInt32.toInt32)), .val (.int ((p4 &&& (255 : Int32)).toUInt32.toUInt16.toUInt32.toInt32)), .val (.int ((p5 &&& (255 : Int32)).toUInt32.toUInt16.toUInt32.toInt32)), .val (.int n8), .val (.ref x9), .val (.int (0 : Int32)), .val (.ref x9), .val (.int (1 : Int32)), .val (.ref b18), .val (.ref x9)] [])
        refine GlW.st (fun _ kk => XS.aload X22.here hx rfl (hb hby at_236) rfl rfl kk) ?_
        show GlW Z consts_1 p e below s _ _ _ T22 (mkF m 238 #[.val (.int p1), .val (.int p2), .val (.int p3), .val (.int p4), .val (.int p5), .val (.int ((p3 &&& (255 : Int32)).toUInt32.toUInt16.toUInt32.toInt32)), .val (.int ((p4 &&& (255 : Int32)).toUInt32.toUInt16.toUInt32.toInt32)), .val (.int ((p5 &&& (255 : Int32)).toUInt32.toUInt16.toUInt32.toInt32)), .val (.int n8), .val (.ref x9), .val (.int (0 : Int32)), .val (.ref x9), .val (.int (1 : Int32)), .val (.ref b18), .val (.ref x9)] [(.ref x9)])
        refine GlW.st (fun _ kk => XS.ifnullNo X22.here hx rfl (hb hby at_238) rfl kk) ?_
        show GlW Z consts_1 p e below s _ _ _ T22 (mkF m 241 #[.val (.int p1), .val (.int p2), .val (.int p3), .val (.int p4), .val (.int p5), .val (.int ((p3 &&& (255 : Int32)).toUInt32.toUInt16.toUInt32.toInt32)), .val (.int ((p4 &&& (255 : Int32)).toUInt32.toUInt16.toUInt32.toInt32)), .val (.int ((p5 &&& (255 : Int32)).toUInt32.toUInt16.toUInt32.toInt32)), .val (.int n8), .val (.ref x9), .val (.int (0 : Int32)), .val (.ref x9), .val (.int (1 : Int32)), .val (.ref b18), .val (.ref x9)] [])
        refine GlW.st (fun _ kk => XS.aload X22.here hx rfl (hb hby at_241) rfl rfl kk) ?_
        show GlW Z consts_1 p e below s _ _ _ T22 (mkF m 243 #[.val (.int p1), .val (.int p2), .val (.int p3), .val (.int p4), .val (.int p5), .val (.int ((p3 &&& (255 : Int32)).toUInt32.toUInt16.toUInt32.toInt32)), .val (.int ((p4 &&& (255 : Int32)).toUInt32.toUInt16.toUInt32.toInt32)), .val (.int ((p5 &&& (255 : Int32)).toUInt32.toUInt16.toUInt32.toInt32)), .val (.int n8), .val (.ref x9), .val (.int (0 : Int32)), .val (.ref x9), .val (.int (1 : Int32)), .val (.ref b18), .val (.ref x9)] [(.ref x9)])
        refine GlW.st (fun _ kk => XS.aload X22.here hx rfl (hb hby at_243) rfl rfl kk) ?_
        show GlW Z consts_1 p e below s _ _ _ T22 (mkF m 245 #[.val (.int p1), .val (.int p2), .val (.int p3), .val (.int p4), .val (.int p5), .val (.int ((p3 &&& (255 : Int32)).toUInt32.toUInt16.toUInt32.toInt32)), .val (.int ((p4 &&& (255 : Int32)).toUInt32.toUInt16.toUInt32.toInt32)), .val (.int ((p5 &&& (255 : Int32)).toUInt32.toUInt16.toUInt32.toInt32)), .val (.int n8), .val (.ref x9), .val (.int (0 : Int32)), .val (.ref x9), .val (.int (1 : Int32)), .val (.ref b18), .val (.ref x9)] [(.ref x9), (.ref x9)])
        obtain ⟨cq23, kq23, qa23, qb23, qc23⟩ := isOf (s := s.setVm vJ1) hZ e22 Exa_x9
        obtain ⟨v23, _, ⟨T23, L23, kQ23, nQ23⟩, -, X23, ⟨Lc23, hQ23, l23, y23, z23⟩, st23⟩ := X22.virtualBack hx (y := (⟨"java/lang/String", "equals", "(Ljava/lang/Object;)Z"⟩ : MethodName)) (z := (⟨"java/lang/String", "equals", "(Ljava/lang/Object;)Z"⟩ : MethodName)) hown (mvT hZ (hw _ (List.mem_of_getElem? (i := 107) rfl))) (mvT hZ (hw _ (List.mem_of_getElem? (i := 108) rfl))) (notFace_of_selects (args := #[]) (mvT hZ (hw _ (List.mem_of_getElem? (i := 110) rfl)))) (mvT hZ (hw _ (List.mem_of_getElem? (i := 110) rfl))) (mvT hZ (hw _ (List.mem_of_getElem? (i := 109) rfl))) (by decide) (backOf (W := 0) (rmEQ l Z a0 hw [] x9 h21 n0 O21) hZ (hw _ (List.mem_of_getElem? (i := 111) rfl)) (hw _ (List.mem_of_getElem? (i := 3) rfl)) (by decide) (by decide)) qa23 qc23 (g := (mkF m 245 #[.val (.int p1), .val (.int p2), .val (.int p3), .val (.int p4), .val (.int p5), .val (.int ((p3 &&& (255 : Int32)).toUInt32.toUInt16.toUInt32.toInt32)), .val (.int ((p4 &&& (255 : Int32)).toUInt32.toUInt16.toUInt32.toInt32)), .val (.int ((p5 &&& (255 : Int32)).toUInt32.toUInt16.toUInt32.toInt32)), .val (.int n8), .val (.ref x9), .val (.int (0 : Int32)), .val (.ref x9), .val (.int (1 : Int32)), .val (.ref b18), .val (.ref x9)] [(.ref x9), (.ref x9)])) rfl (by rw [hml]; rfl) (Steps.refl _) (argsL := [(.ref x9)]) (rest := []) (lenOf pd_rm0_4 rfl) rfl (by show 2 * 0 + _ ≤ _; exact Nat.le_of_eq rfl) (hb hby at_245) (fun _ _ => ⟨rfl, e22, (by decide : 9 + 0 ≤ _), (by decide : 2800 + 0 ≤ _)⟩)
        dsimp only [Pt.U, Pt.locs, Pt.cells, Pt.slots] at X23 l23 y23 z23 st23 hQ23
        subst y23 z23
        obtain ⟨rfl, Nq23, e23⟩ := hQ23
        have N23 : Fr n0 L23 := l23 ▸ Fr.app N22 Nq23
        refine GlW.st (fun _ kk => st23.trans kk) ?_
        clear st23 qc23 qb23 qa23 kq23 cq23
        clear N22 X22 e22
        show GlW Z consts_1 p e below s _ _ _ T23 (mkF m 248 #[.val (.int p1), .val (.int p2), .val (.int p3), .val (.int p4), .val (.int p5), .val (.int ((p3 &&& (255 : Int32)).toUInt32.toUInt16.toUInt32.toInt32)), .val (.int ((p4 &&& (255 : Int32)).toUInt32.toUInt16.toUInt32.toInt32)), .val (.int ((p5 &&& (255 : Int32)).toUInt32.toUInt16.toUInt32.toInt32)), .val (.int n8), .val (.ref x9), .val (.int (0 : Int32)), .val (.ref x9), .val (.int (1 : Int32)), .val (.ref b18), .val (.ref x9)] [(.int (1 : Int32))])
        refine GlW.st (fun _ kk => XS.ifNo X23.here hx rfl (hb hby at_248) rfl ((if0 _ _).trans (feq (by decide : ¬ ((1 : Int32) = (0 : Int32)))).1) kk) ?_
        show GlW Z consts_1 p e below s _ _ _ T23 (mkF m 251 #[.val (.int p1), .val (.int p2), .val (.int p3), .val (.int p4), .val (.int p5), .val (.int ((p3 &&& (255 : Int32)).toUInt32.toUInt16.toUInt32.toInt32)), .val (.int ((p4 &&& (255 : Int32)).toUInt32.toUInt16.toUInt32.toInt32)), .val (.int ((p5 &&& (255 : Int32)).toUInt32.toUInt16.toUInt32.toInt32)), .val (.int n8), .val (.ref x9), .val (.int (0 : Int32)), .val (.ref x9), .val (.int (1 : Int32)), .val (.ref b18), .val (.ref x9)] [])
        refine GlW.st (fun _ kk => XS.iconst X23.here hx rfl (hb hby at_251) kk) ?_
        show GlW Z consts_1 p e below s _ _ _ T23 (mkF m 252 #[.val (.int p1), .val (.int p2), .val (.int p3), .val (.int p4), .val (.int p5), .val (.int ((p3 &&& (255 : Int32)).toUInt32.toUInt16.toUInt32.toInt32)), .val (.int ((p4 &&& (255 : Int32)).toUInt32.toUInt16.toUInt32.toInt32)), .val (.int ((p5 &&& (255 : Int32)).toUInt32.toUInt16.toUInt32.toInt32)), .val (.int n8), .val (.ref x9), .val (.int (0 : Int32)), .val (.ref x9), .val (.int (1 : Int32)), .val (.ref b18), .val (.ref x9)] [(.int (1 : Int32))])
        refine GlW.st (fun _ kk => XS.goto X23.here hx rfl (pc0 := 252) (pc' := 256) rfl (hb hby at_252) (by decide) (by decide) kk) ?_
        show GlW Z consts_1 p e below s _ _ _ T23 (mkF m 256 #[.val (.int p1), .val (.int p2), .val (.int p3), .val (.int p4), .val (.int p5), .val (.int ((p3 &&& (255 : Int32)).toUInt32.toUInt16.toUInt32.toInt32)), .val (.int ((p4 &&& (255 : Int32)).toUInt32.toUInt16.toUInt32.toInt32)), .val (.int ((p5 &&& (255 : Int32)).toUInt32.toUInt16.toUInt32.toInt32)), .val (.int n8), .val (.ref x9), .val (.int (0 : Int32)), .val (.ref x9), .val (.int (1 : Int32)), .val (.ref b18), .val (.ref x9)] [(.int (1 : Int32))])
        exact GlW.ret X23 hS1 hk21 hZ hEL hh0 HC21 (v := (some (.int (1 : Int32)))) (fun h => by rw [Bd.returns] at h; cases h) (BodyLoose.notSynchronized Bd) (fun hr => retN X23 hx (t := .boolean) Bd.returns (by simp) (hb hby at_256) hr) e23 ⟨rfl, N23⟩ (by decide) (by decide)
  rcases own_mod4 p2 with hk | hk | hk | hk
  · rw [hk]
    show GlW Z consts_1 p e below s _ _ _ s₁ (mkF m 33 #[.val (.int p1), .val (.int p2), .val (.int p3), .val (.int p4), .val (.int p5), .val (.int ((p3 &&& (255 : Int32)).toUInt32.toUInt16.toUInt32.toInt32)), .val (.int ((p4 &&& (255 : Int32)).toUInt32.toUInt16.toUInt32.toInt32)), .val (.int ((p5 &&& (255 : Int32)).toUInt32.toUInt16.toUInt32.toInt32)), .val (.int (0 : Int32)), .unset, .unset, .unset, .unset, .unset, .unset] [])
    refine GlW.st (fun _ kk => XS.iload X0.here hx rfl (hb hby at_33) rfl kk) ?_
    show GlW Z consts_1 p e below s _ _ _ s₁ (mkF m 35 #[.val (.int p1), .val (.int p2), .val (.int p3), .val (.int p4), .val (.int p5), .val (.int ((p3 &&& (255 : Int32)).toUInt32.toUInt16.toUInt32.toInt32)), .val (.int ((p4 &&& (255 : Int32)).toUInt32.toUInt16.toUInt32.toInt32)), .val (.int ((p5 &&& (255 : Int32)).toUInt32.toUInt16.toUInt32.toInt32)), .val (.int (0 : Int32)), .unset, .unset, .unset, .unset, .unset, .unset] [(.int (0 : Int32))])
    refine GlW.st (fun _ kk => XS.ifNo X0.here hx rfl (hb hby at_35) rfl ((if0 _ _).trans (teq (by decide : (0 : Int32) = (0 : Int32))).2) kk) ?_
    show GlW Z consts_1 p e below s _ _ _ s₁ (mkF m 38 #[.val (.int p1), .val (.int p2), .val (.int p3), .val (.int p4), .val (.int p5), .val (.int ((p3 &&& (255 : Int32)).toUInt32.toUInt16.toUInt32.toInt32)), .val (.int ((p4 &&& (255 : Int32)).toUInt32.toUInt16.toUInt32.toInt32)), .val (.int ((p5 &&& (255 : Int32)).toUInt32.toUInt16.toUInt32.toInt32)), .val (.int (0 : Int32)), .unset, .unset, .unset, .unset, .unset, .unset] [])
    obtain ⟨T24, h24, X24, e24, E24, A24, D24, V24, st24⟩ := newO X0 hx hZ hown (hw _ (List.mem_of_getElem? (i := 1) rfl)) (hw _ (List.mem_of_getElem? (i := 2) rfl)) (hw _ (List.mem_of_getElem? (i := 3) rfl)) e0 (g := (mkF m 38 #[.val (.int p1), .val (.int p2), .val (.int p3), .val (.int p4), .val (.int p5), .val (.int ((p3 &&& (255 : Int32)).toUInt32.toUInt16.toUInt32.toInt32)), .val (.int ((p4 &&& (255 : Int32)).toUInt32.toUInt16.toUInt32.toInt32)), .val (.int ((p5 &&& (255 : Int32)).toUInt32.toUInt16.toUInt32.toInt32)), .val (.int (0 : Int32)), .unset, .unset, .unset, .unset, .unset, .unset] [])) rfl (hb hby at_38) (by decide) (by decide)
    obtain ⟨b24, g24⟩ : ∃ z, z = h0.size := ⟨_, rfl⟩
    rw [← g24] at A24 D24 V24 st24
    refine GlW.st st24 ?_
    have ge_b24 : n0 ≤ b24 := Nat.le_trans (Nat.le_trans (Nat.le_of_eq O0.1.symm) O0.2.1) (Nat.le_of_eq g24.symm)
    have fr_b24 : h0.size ≤ b24 := Nat.le_trans (Nat.le_refl _) (Nat.le_of_eq g24.symm)
    have Sf_b24 : Safe Z consts_1 s.vm h0 b24 := Safe.new (Nat.le_of_eq g24.symm)
    replace Sf_b24 := Safe.ext E24 HC0.1 Sf_b24
    have HC24 := HC0.trans (CHr.ext E24 HC0.1)
    have hk24 := Nat.le_trans hk0 E24.1
    have O24 := O0.ext E24
    have K24 := (Keep.refl h0 []).ext E24
    have Exa_b24 := A24
    have F_coder_b24 : Fld Z h24 b24 "java/lang/String" "coder" "B" (.int (0 : Int32)) := D24 (Or.inr (hw _ (List.mem_of_getElem? (i := 28) rfl))) (ty := .byte) (by decide)
    have F_value_b24 : Fld Z h24 b24 "java/lang/String" "value" "[B" .null := D24 (Or.inr (hw _ (List.mem_of_getElem? (i := 30) rfl))) (ty := (.array .byte)) (by decide)
    show GlW Z consts_1 p e below s _ _ _ T24 (mkF m 41 #[.val (.int p1), .val (.int p2), .val (.int p3), .val (.int p4), .val (.int p5), .val (.int ((p3 &&& (255 : Int32)).toUInt32.toUInt16.toUInt32.toInt32)), .val (.int ((p4 &&& (255 : Int32)).toUInt32.toUInt16.toUInt32.toInt32)), .val (.int ((p5 &&& (255 : Int32)).toUInt32.toUInt16.toUInt32.toInt32)), .val (.int (0 : Int32)), .unset, .unset, .unset, .unset, .unset, .unset] [(.ref b24)])
    refine GlW.st (fun _ kk => XS.dup X24.here hx rfl (hb hby at_41) rfl rfl kk) ?_
    show GlW Z consts_1 p e below s _ _ _ T24 (mkF m 42 #[.val (.int p1), .val (.int p2), .val (.int p3), .val (.int p4), .val (.int p5), .val (.int ((p3 &&& (255 : Int32)).toUInt32.toUInt16.toUInt32.toInt32)), .val (.int ((p4 &&& (255 : Int32)).toUInt32.toUInt16.toUInt32.toInt32)), .val (.int ((p5 &&& (255 : Int32)).toUInt32.toUInt16.toUInt32.toInt32)), .val (.int (0 : Int32)), .unset, .unset, .unset, .unset, .unset, .unset] [(.ref b24), (.ref b24)])
    refine GlW.st (fun _ kk => XS.iconst X24.here hx rfl (hb hby at_42) kk) ?_
    show GlW Z consts_1 p e below s _ _ _ T24 (mkF m 43 #[.val (.int p1), .val (.int p2), .val (.int p3), .val (.int p4), .val (.int p5), .val (.int ((p3 &&& (255 : Int32)).toUInt32.toUInt16.toUInt32.toInt32)), .val (.int ((p4 &&& (255 : Int32)).toUInt32.toUInt16.toUInt32.toInt32)), .val (.int ((p5 &&& (255 : Int32)).toUInt32.toUInt16.toUInt32.toInt32)), .val (.int (0 : Int32)), .unset, .unset, .unset, .unset, .unset, .unset] [(.int (0 : Int32)), (.ref b24), (.ref b24)])
    obtain ⟨T25, h25, ka25, X25, e25, E25, A25, st25⟩ := newP X24 hx hZ (hw _ (List.mem_of_getElem? (i := 4) rfl)) e24 (g := (mkF m 43 #[.val (.int p1), .val (.int p2), .val (.int p3), .val (.int p4), .val (.int p5), .val (.int ((p3 &&& (255 : Int32)).toUInt32.toUInt16.toUInt32.toInt32)), .val (.int ((p4 &&& (255 : Int32)).toUInt32.toUInt16.toUInt32.toInt32)), .val (.int ((p5 &&& (255 : Int32)).toUInt32.toUInt16.toUInt32.toInt32)), .val (.int (0 : Int32)), .unset, .unset, .unset, .unset, .unset, .unset] [(.int (0 : Int32)), (.ref b24), (.ref b24)])) rfl (hb hby at_43) rfl (by decide) (cap := 0) (by decide) (by decide) (by decide) (by decide)
    obtain ⟨b25, g25⟩ : ∃ z, z = h24.size := ⟨_, rfl⟩
    rw [← g25] at A25 st25
    refine GlW.st st25 ?_
    have ne_b24_b25 : b24 ≠ b25 := Nat.ne_of_lt (Nat.lt_of_lt_of_eq Exa_b24.lt g25.symm)
    have ge_b25 : n0 ≤ b25 := Nat.le_trans (Nat.le_trans (Nat.le_of_eq O24.1.symm) O24.2.1) (Nat.le_of_eq g25.symm)
    have fr_b25 : h0.size ≤ b25 := Nat.le_trans K24.1 (Nat.le_of_eq g25.symm)
    replace Sf_b24 := Safe.ext E25 HC24.1 Sf_b24
    have HC25 := HC24.trans (CHr.ext E25 HC24.1)
    have hk25 := Nat.le_trans hk24 E25.1
    replace Exa_b24 := Exa_b24.ext E25
    replace F_coder_b24 := F_coder_b24.ext E25
    replace F_value_b24 := F_value_b24.ext E25
    have O25 := O24.ext E25
    have K25 := K24.ext E25
    have Arv_b25 : Arv Z h25 b25 ka25 .char (0 : Int32) [] (.int (0 : Int32)) := (Arv.new A25 (by decide)).pad (pad_rep [] (.int (0 : Int32)) 0)
    show GlW Z consts_1 p e below s _ _ _ T25 (mkF m 45 #[.val (.int p1), .val (.int p2), .val (.int p3), .val (.int p4), .val (.int p5), .val (.int ((p3 &&& (255 : Int32)).toUInt32.toUInt16.toUInt32.toInt32)), .val (.int ((p4 &&& (255 : Int32)).toUInt32.toUInt16.toUInt32.toInt32)), .val (.int ((p5 &&& (255 : Int32)).toUInt32.toUInt16.toUInt32.toInt32)), .val (.int (0 : Int32)), .unset, .unset, .unset, .unset, .unset, .unset] [(.ref b25), (.ref b24), (.ref b24)])
    obtain ⟨v26, _, ⟨T26, L26, kQ26, nQ26⟩, -, X26, hSq26, hgq26, ⟨Lc26, hQ26, l26, y26, z26, HR26⟩, st26⟩ := X25.specialBackS hx (y := (⟨"java/lang/String", "<init>", "([C)V"⟩ : MethodName)) rfl hown (mvT hZ (hw _ (List.mem_of_getElem? (i := 5) rfl))) (mvT hZ (hw _ (List.mem_of_getElem? (i := 6) rfl))) (mvT hZ (hw _ (List.mem_of_getElem? (i := 7) rfl))) (by decide) (backOfSH (W := 1) (rmS0 l Z a0 hw [] b24 b25 ka25 h25 n0 O25 Exa_b24 F_value_b24 F_coder_b24 ge_b24 Arv_b25 (Ne.symm ne_b24_b25)) hZ (hw _ (List.mem_of_getElem? (i := 7) rfl)) (hw _ (List.mem_of_getElem? (i := 3) rfl)) (by decide) (by decide) hEL HC25.1) (g := (mkF m 45 #[.val (.int p1), .val (.int p2), .val (.int p3), .val (.int p4), .val (.int p5), .val (.int ((p3 &&& (255 : Int32)).toUInt32.toUInt16.toUInt32.toInt32)), .val (.int ((p4 &&& (255 : Int32)).toUInt32.toUInt16.toUInt32.toInt32)), .val (.int ((p5 &&& (255 : Int32)).toUInt32.toUInt16.toUInt32.toInt32)), .val (.int (0 : Int32)), .unset, .unset, .unset, .unset, .unset, .unset] [(.ref b25), (.ref b24), (.ref b24)])) rfl (by rw [hml]; rfl) (Steps.refl _) (a := b24) (argsL := [(.ref b25)]) (rest := [(.ref b24)]) (lenOf pd_rm0_5 rfl) rfl (by show 2 * 0 + _ ≤ _; exact Nat.le_of_eq rfl) (hb hby at_45) (fun _ _ => ⟨rfl, e25, (by decide : 2 + 4 ≤ _), (by decide : 4 + 8 ≤ _)⟩)
    dsimp only [Pt.U, Pt.locs, Pt.cells, Pt.slots] at X26 l26 y26 z26 st26 hQ26 hSq26 hgq26 HR26
    subst y26 z26
    obtain ⟨h26, e26⟩ : ∃ z, T26.heap = z := ⟨_, rfl⟩
    rw [e26] at hQ26 HR26 hSq26 hgq26
    obtain ⟨rfl, Nq26, Kq26, Eq26, Cq26, t26, kt26, Fq26, Aq26⟩ := hQ26
    rw [e25] at hgq26
    have hS26 := (hS0).trans hSq26 (Nat.le_trans hk25 hgq26)
    have hk26 := Nat.le_refl h26.size
    have hZ26 : Z.Warmed39 T26.vm := State.Warmed39.trans (t := s.setVm s.vm) hZ hSq26.1
    have hown26 : T26.vm.findClass "com/example/explain_locks/explainlocks/schema/RowFaultMessagePinLaw" = some m.cls := by rw [hSq26.1.alike.findClass]; exact hown
    have Sf_b24 := HR26.safe Exa_b24.lt Sf_b24
    have HC26 := HC25.trans HR26
    have hZ := hZ26
    have hown := hown26
    have N26 : Fr n0 L26 := l26 ▸ Fr.app N0 Nq26
    refine GlW.st (fun _ kk => st26.trans kk) ?_
    replace Exa_b24 := Exa_b24.keep Kq26
    replace Arv_b25 := Arv_b25.keep Kq26 (ninS (Ne.symm ne_b24_b25) nin0)
    have O26 := O25.keep Kq26 (allS ge_b24 all0)
    have K26 := K25.trans Kq26 (allS (Or.inr fr_b24) all0)
    have F_coder_b24 := Cq26
    have F_value_b24 := Fq26
    have Arv_t26 := Aq26
    clear st26 HR26
    clear O25 K25 HC25 hk25 X25 e25
    show GlW Z consts_1 p e below s _ _ _ T26 (mkF m 48 #[.val (.int p1), .val (.int p2), .val (.int p3), .val (.int p4), .val (.int p5), .val (.int ((p3 &&& (255 : Int32)).toUInt32.toUInt16.toUInt32.toInt32)), .val (.int ((p4 &&& (255 : Int32)).toUInt32.toUInt16.toUInt32.toInt32)), .val (.int ((p5 &&& (255 : Int32)).toUInt32.toUInt16.toUInt32.toInt32)), .val (.int (0 : Int32)), .unset, .unset, .unset, .unset, .unset, .unset] [(.ref b24)])
    refine GlW.st (fun _ kk => XS.astore X26.here hx rfl (hb hby at_48) rfl rfl (l' := #[.val (.int p1), .val (.int p2), .val (.int p3), .val (.int p4), .val (.int p5), .val (.int ((p3 &&& (255 : Int32)).toUInt32.toUInt16.toUInt32.toInt32)), .val (.int ((p4 &&& (255 : Int32)).toUInt32.toUInt16.toUInt32.toInt32)), .val (.int ((p5 &&& (255 : Int32)).toUInt32.toUInt16.toUInt32.toInt32)), .val (.int (0 : Int32)), .val (.ref b24), .unset, .unset, .unset, .unset, .unset]) rfl kk) ?_
    show GlW Z consts_1 p e below s _ _ _ T26 (mkF m 50 #[.val (.int p1), .val (.int p2), .val (.int p3), .val (.int p4), .val (.int p5), .val (.int ((p3 &&& (255 : Int32)).toUInt32.toUInt16.toUInt32.toInt32)), .val (.int ((p4 &&& (255 : Int32)).toUInt32.toUInt16.toUInt32.toInt32)), .val (.int ((p5 &&& (255 : Int32)).toUInt32.toUInt16.toUInt32.toInt32)), .val (.int (0 : Int32)), .val (.ref b24), .unset, .unset, .unset, .unset, .unset] [])
    refine GlW.st (fun _ kk => XS.goto X26.here hx rfl (pc0 := 50) (pc' := 127) rfl (hb hby at_50) (by decide) (by decide) kk) ?_
    show GlW Z consts_1 p e below s _ _ _ T26 (mkF m 127 #[.val (.int p1), .val (.int p2), .val (.int p3), .val (.int p4), .val (.int p5), .val (.int ((p3 &&& (255 : Int32)).toUInt32.toUInt16.toUInt32.toInt32)), .val (.int ((p4 &&& (255 : Int32)).toUInt32.toUInt16.toUInt32.toInt32)), .val (.int ((p5 &&& (255 : Int32)).toUInt32.toUInt16.toUInt32.toInt32)), .val (.int (0 : Int32)), .val (.ref b24), .unset, .unset, .unset, .unset, .unset] [])
    exact join127 b24 (0 : Int32)  _ _ _ _ _ (Gl.wider X26 (by decide) (by decide)) e26 N26 O26 K26 hS26 hk26 hZ hown HC26  Exa_b24
  · rw [hk]
    show GlW Z consts_1 p e below s _ _ _ s₁ (mkF m 33 #[.val (.int p1), .val (.int p2), .val (.int p3), .val (.int p4), .val (.int p5), .val (.int ((p3 &&& (255 : Int32)).toUInt32.toUInt16.toUInt32.toInt32)), .val (.int ((p4 &&& (255 : Int32)).toUInt32.toUInt16.toUInt32.toInt32)), .val (.int ((p5 &&& (255 : Int32)).toUInt32.toUInt16.toUInt32.toInt32)), .val (.int (1 : Int32)), .unset, .unset, .unset, .unset, .unset, .unset] [])
    refine GlW.st (fun _ kk => XS.iload X0.here hx rfl (hb hby at_33) rfl kk) ?_
    show GlW Z consts_1 p e below s _ _ _ s₁ (mkF m 35 #[.val (.int p1), .val (.int p2), .val (.int p3), .val (.int p4), .val (.int p5), .val (.int ((p3 &&& (255 : Int32)).toUInt32.toUInt16.toUInt32.toInt32)), .val (.int ((p4 &&& (255 : Int32)).toUInt32.toUInt16.toUInt32.toInt32)), .val (.int ((p5 &&& (255 : Int32)).toUInt32.toUInt16.toUInt32.toInt32)), .val (.int (1 : Int32)), .unset, .unset, .unset, .unset, .unset, .unset] [(.int (1 : Int32))])
    refine GlW.st (fun _ kk => XS.ifYes X0.here hx rfl (pc0 := 35) (pc' := 53) rfl (hb hby at_35) rfl ((if0 _ _).trans (feq (by decide : ¬ ((1 : Int32) = (0 : Int32)))).2) (by decide) (by decide) kk) ?_
    show GlW Z consts_1 p e below s _ _ _ s₁ (mkF m 53 #[.val (.int p1), .val (.int p2), .val (.int p3), .val (.int p4), .val (.int p5), .val (.int ((p3 &&& (255 : Int32)).toUInt32.toUInt16.toUInt32.toInt32)), .val (.int ((p4 &&& (255 : Int32)).toUInt32.toUInt16.toUInt32.toInt32)), .val (.int ((p5 &&& (255 : Int32)).toUInt32.toUInt16.toUInt32.toInt32)), .val (.int (1 : Int32)), .unset, .unset, .unset, .unset, .unset, .unset] [])
    refine GlW.st (fun _ kk => XS.iload X0.here hx rfl (hb hby at_53) rfl kk) ?_
    show GlW Z consts_1 p e below s _ _ _ s₁ (mkF m 55 #[.val (.int p1), .val (.int p2), .val (.int p3), .val (.int p4), .val (.int p5), .val (.int ((p3 &&& (255 : Int32)).toUInt32.toUInt16.toUInt32.toInt32)), .val (.int ((p4 &&& (255 : Int32)).toUInt32.toUInt16.toUInt32.toInt32)), .val (.int ((p5 &&& (255 : Int32)).toUInt32.toUInt16.toUInt32.toInt32)), .val (.int (1 : Int32)), .unset, .unset, .unset, .unset, .unset, .unset] [(.int (1 : Int32))])
    refine GlW.st (fun _ kk => XS.iconst X0.here hx rfl (hb hby at_55) kk) ?_
    show GlW Z consts_1 p e below s _ _ _ s₁ (mkF m 56 #[.val (.int p1), .val (.int p2), .val (.int p3), .val (.int p4), .val (.int p5), .val (.int ((p3 &&& (255 : Int32)).toUInt32.toUInt16.toUInt32.toInt32)), .val (.int ((p4 &&& (255 : Int32)).toUInt32.toUInt16.toUInt32.toInt32)), .val (.int ((p5 &&& (255 : Int32)).toUInt32.toUInt16.toUInt32.toInt32)), .val (.int (1 : Int32)), .unset, .unset, .unset, .unset, .unset, .unset] [(.int (1 : Int32)), (.int (1 : Int32))])
    refine GlW.st (fun _ kk => XS.icmpNo X0.here hx rfl (hb hby at_56) rfl (teq (by decide : (1 : Int32) = (1 : Int32))).2 kk) ?_
    show GlW Z consts_1 p e below s _ _ _ s₁ (mkF m 59 #[.val (.int p1), .val (.int p2), .val (.int p3), .val (.int p4), .val (.int p5), .val (.int ((p3 &&& (255 : Int32)).toUInt32.toUInt16.toUInt32.toInt32)), .val (.int ((p4 &&& (255 : Int32)).toUInt32.toUInt16.toUInt32.toInt32)), .val (.int ((p5 &&& (255 : Int32)).toUInt32.toUInt16.toUInt32.toInt32)), .val (.int (1 : Int32)), .unset, .unset, .unset, .unset, .unset, .unset] [])
    refine GlW.st (fun _ kk => XS.iload X0.here hx rfl (hb hby at_59) rfl kk) ?_
    show GlW Z consts_1 p e below s _ _ _ s₁ (mkF m 61 #[.val (.int p1), .val (.int p2), .val (.int p3), .val (.int p4), .val (.int p5), .val (.int ((p3 &&& (255 : Int32)).toUInt32.toUInt16.toUInt32.toInt32)), .val (.int ((p4 &&& (255 : Int32)).toUInt32.toUInt16.toUInt32.toInt32)), .val (.int ((p5 &&& (255 : Int32)).toUInt32.toUInt16.toUInt32.toInt32)), .val (.int (1 : Int32)), .unset, .unset, .unset, .unset, .unset, .unset] [(.int ((p3 &&& (255 : Int32)).toUInt32.toUInt16.toUInt32.toInt32))])
    obtain ⟨v27, _, ⟨T27, L27, kQ27, nQ27⟩, -, X27, ⟨Lc27, hQ27, l27, y27, z27⟩, st27⟩ := Jvm.LawKit.callS X0 hx (y := (⟨"java/lang/String", "valueOf", "(C)Ljava/lang/String;"⟩ : MethodName)) hown (mvT hZ (hw _ (List.mem_of_getElem? (i := 138) rfl))) (mvT hZ (hw _ (List.mem_of_getElem? (i := 139) rfl))) (mvT hZ (hw _ (List.mem_of_getElem? (i := 3) rfl))) (mvT hZ (hw _ (List.mem_of_getElem? (i := 140) rfl))) (by decide) (backOf (W := 0) (rmVO l Z a0 hw [] ((p3 &&& (255 : Int32)).toUInt32.toUInt16.toUInt32.toInt32) cz h0 n0 O0 (by rw [own_i2c255]; exact (own_and255 _).2) S_COMPACT hcz) hZ (hw _ (List.mem_of_getElem? (i := 140) rfl)) (hw _ (List.mem_of_getElem? (i := 3) rfl)) (by decide) (by decide)) (g := (mkF m 61 #[.val (.int p1), .val (.int p2), .val (.int p3), .val (.int p4), .val (.int p5), .val (.int ((p3 &&& (255 : Int32)).toUInt32.toUInt16.toUInt32.toInt32)), .val (.int ((p4 &&& (255 : Int32)).toUInt32.toUInt16.toUInt32.toInt32)), .val (.int ((p5 &&& (255 : Int32)).toUInt32.toUInt16.toUInt32.toInt32)), .val (.int (1 : Int32)), .unset, .unset, .unset, .unset, .unset, .unset] [(.int ((p3 &&& (255 : Int32)).toUInt32.toUInt16.toUInt32.toInt32))])) rfl (by rw [hml]; rfl) (argsL := [(.int ((p3 &&& (255 : Int32)).toUInt32.toUInt16.toUInt32.toInt32))]) (rest := []) (lenOf pd_rm0_6 rfl) rfl (by show 2 * 0 + _ ≤ _; exact Nat.le_of_eq rfl) (hb hby at_61) (fun _ _ => ⟨rfl, e0, (by decide : 0 + 2 ≤ _), (by decide : 0 + 5 ≤ _)⟩)
    dsimp only [Pt.U, Pt.locs, Pt.cells, Pt.slots] at X27 l27 y27 z27 st27 hQ27
    subst y27 z27
    obtain ⟨h27, e27⟩ : ∃ z, T27.heap = z := ⟨_, rfl⟩
    rw [e27] at hQ27
    obtain ⟨x27, t27, k27, rfl, Nq27, Kq27, Exa_x27, F_value_x27, F_coder_x27, Arv_t27, frx27, frt27⟩ := hQ27
    have N27 : Fr n0 L27 := l27 ▸ Fr.app N0 Nq27
    refine GlW.st st27 ?_
    have sfk27 : ∀ x ∈ ([] : List Addr), Safe Z consts_1 s.vm h0 x := all0
    have HC27 := HC0.trans (CHr.keep Kq27 sfk27 HC0.1)
    have hk27 := Nat.le_trans hk0 Kq27.1
    have O27 := O0.keep Kq27 all0
    have K27 := (Keep.refl h0 []).trans Kq27 all0
    have ge_x27 : n0 ≤ x27 := Nat.le_trans (Nat.le_trans (Nat.le_of_eq O0.1.symm) O0.2.1) frx27
    have fr_x27 : h0.size ≤ x27 := frx27
    have ge_t27 : n0 ≤ t27 := Nat.le_trans (Nat.le_trans (Nat.le_of_eq O0.1.symm) O0.2.1) frt27
    have fr_t27 : h0.size ≤ t27 := frt27
    clear st27
    show GlW Z consts_1 p e below s _ _ _ T27 (mkF m 64 #[.val (.int p1), .val (.int p2), .val (.int p3), .val (.int p4), .val (.int p5), .val (.int ((p3 &&& (255 : Int32)).toUInt32.toUInt16.toUInt32.toInt32)), .val (.int ((p4 &&& (255 : Int32)).toUInt32.toUInt16.toUInt32.toInt32)), .val (.int ((p5 &&& (255 : Int32)).toUInt32.toUInt16.toUInt32.toInt32)), .val (.int (1 : Int32)), .unset, .unset, .unset, .unset, .unset, .unset] [(.ref x27)])
    refine GlW.st (fun _ kk => XS.astore X27.here hx rfl (hb hby at_64) rfl rfl (l' := #[.val (.int p1), .val (.int p2), .val (.int p3), .val (.int p4), .val (.int p5), .val (.int ((p3 &&& (255 : Int32)).toUInt32.toUInt16.toUInt32.toInt32)), .val (.int ((p4 &&& (255 : Int32)).toUInt32.toUInt16.toUInt32.toInt32)), .val (.int ((p5 &&& (255 : Int32)).toUInt32.toUInt16.toUInt32.toInt32)), .val (.int (1 : Int32)), .val (.ref x27), .unset, .unset, .unset, .unset, .unset]) rfl kk) ?_
    show GlW Z consts_1 p e below s _ _ _ T27 (mkF m 66 #[.val (.int p1), .val (.int p2), .val (.int p3), .val (.int p4), .val (.int p5), .val (.int ((p3 &&& (255 : Int32)).toUInt32.toUInt16.toUInt32.toInt32)), .val (.int ((p4 &&& (255 : Int32)).toUInt32.toUInt16.toUInt32.toInt32)), .val (.int ((p5 &&& (255 : Int32)).toUInt32.toUInt16.toUInt32.toInt32)), .val (.int (1 : Int32)), .val (.ref x27), .unset, .unset, .unset, .unset, .unset] [])
    refine GlW.st (fun _ kk => XS.goto X27.here hx rfl (pc0 := 66) (pc' := 127) rfl (hb hby at_66) (by decide) (by decide) kk) ?_
    show GlW Z consts_1 p e below s _ _ _ T27 (mkF m 127 #[.val (.int p1), .val (.int p2), .val (.int p3), .val (.int p4), .val (.int p5), .val (.int ((p3 &&& (255 : Int32)).toUInt32.toUInt16.toUInt32.toInt32)), .val (.int ((p4 &&& (255 : Int32)).toUInt32.toUInt16.toUInt32.toInt32)), .val (.int ((p5 &&& (255 : Int32)).toUInt32.toUInt16.toUInt32.toInt32)), .val (.int (1 : Int32)), .val (.ref x27), .unset, .unset, .unset, .unset, .unset] [])
    exact join127 x27 (1 : Int32)  _ _ _ _ _ (Gl.wider X27 (by decide) (by decide)) e27 N27 O27 K27 hS0 hk27 hZ hown HC27  Exa_x27
  · rw [hk]
    show GlW Z consts_1 p e below s _ _ _ s₁ (mkF m 33 #[.val (.int p1), .val (.int p2), .val (.int p3), .val (.int p4), .val (.int p5), .val (.int ((p3 &&& (255 : Int32)).toUInt32.toUInt16.toUInt32.toInt32)), .val (.int ((p4 &&& (255 : Int32)).toUInt32.toUInt16.toUInt32.toInt32)), .val (.int ((p5 &&& (255 : Int32)).toUInt32.toUInt16.toUInt32.toInt32)), .val (.int (2 : Int32)), .unset, .unset, .unset, .unset, .unset, .unset] [])
    refine GlW.st (fun _ kk => XS.iload X0.here hx rfl (hb hby at_33) rfl kk) ?_
    show GlW Z consts_1 p e below s _ _ _ s₁ (mkF m 35 #[.val (.int p1), .val (.int p2), .val (.int p3), .val (.int p4), .val (.int p5), .val (.int ((p3 &&& (255 : Int32)).toUInt32.toUInt16.toUInt32.toInt32)), .val (.int ((p4 &&& (255 : Int32)).toUInt32.toUInt16.toUInt32.toInt32)), .val (.int ((p5 &&& (255 : Int32)).toUInt32.toUInt16.toUInt32.toInt32)), .val (.int (2 : Int32)), .unset, .unset, .unset, .unset, .unset, .unset] [(.int (2 : Int32))])
    refine GlW.st (fun _ kk => XS.ifYes X0.here hx rfl (pc0 := 35) (pc' := 53) rfl (hb hby at_35) rfl ((if0 _ _).trans (feq (by decide : ¬ ((2 : Int32) = (0 : Int32)))).2) (by decide) (by decide) kk) ?_
    show GlW Z consts_1 p e below s _ _ _ s₁ (mkF m 53 #[.val (.int p1), .val (.int p2), .val (.int p3), .val (.int p4), .val (.int p5), .val (.int ((p3 &&& (255 : Int32)).toUInt32.toUInt16.toUInt32.toInt32)), .val (.int ((p4 &&& (255 : Int32)).toUInt32.toUInt16.toUInt32.toInt32)), .val (.int ((p5 &&& (255 : Int32)).toUInt32.toUInt16.toUInt32.toInt32)), .val (.int (2 : Int32)), .unset, .unset, .unset, .unset, .unset, .unset] [])
    refine GlW.st (fun _ kk => XS.iload X0.here hx rfl (hb hby at_53) rfl kk) ?_
    show GlW Z consts_1 p e below s _ _ _ s₁ (mkF m 55 #[.val (.int p1), .val (.int p2), .val (.int p3), .val (.int p4), .val (.int p5), .val (.int ((p3 &&& (255 : Int32)).toUInt32.toUInt16.toUInt32.toInt32)), .val (.int ((p4 &&& (255 : Int32)).toUInt32.toUInt16.toUInt32.toInt32)), .val (.int ((p5 &&& (255 : Int32)).toUInt32.toUInt16.toUInt32.toInt32)), .val (.int (2 : Int32)), .unset, .unset, .unset, .unset, .unset, .unset] [(.int (2 : Int32))])
    refine GlW.st (fun _ kk => XS.iconst X0.here hx rfl (hb hby at_55) kk) ?_
    show GlW Z consts_1 p e below s _ _ _ s₁ (mkF m 56 #[.val (.int p1), .val (.int p2), .val (.int p3), .val (.int p4), .val (.int p5), .val (.int ((p3 &&& (255 : Int32)).toUInt32.toUInt16.toUInt32.toInt32)), .val (.int ((p4 &&& (255 : Int32)).toUInt32.toUInt16.toUInt32.toInt32)), .val (.int ((p5 &&& (255 : Int32)).toUInt32.toUInt16.toUInt32.toInt32)), .val (.int (2 : Int32)), .unset, .unset, .unset, .unset, .unset, .unset] [(.int (1 : Int32)), (.int (2 : Int32))])
    refine GlW.st (fun _ kk => XS.icmpYes X0.here hx rfl (pc0 := 56) (pc' := 69) rfl (hb hby at_56) rfl (feq (by decide : ¬ ((2 : Int32) = (1 : Int32)))).2 (by decide) (by decide) kk) ?_
    show GlW Z consts_1 p e below s _ _ _ s₁ (mkF m 69 #[.val (.int p1), .val (.int p2), .val (.int p3), .val (.int p4), .val (.int p5), .val (.int ((p3 &&& (255 : Int32)).toUInt32.toUInt16.toUInt32.toInt32)), .val (.int ((p4 &&& (255 : Int32)).toUInt32.toUInt16.toUInt32.toInt32)), .val (.int ((p5 &&& (255 : Int32)).toUInt32.toUInt16.toUInt32.toInt32)), .val (.int (2 : Int32)), .unset, .unset, .unset, .unset, .unset, .unset] [])
    refine GlW.st (fun _ kk => XS.iload X0.here hx rfl (hb hby at_69) rfl kk) ?_
    show GlW Z consts_1 p e below s _ _ _ s₁ (mkF m 71 #[.val (.int p1), .val (.int p2), .val (.int p3), .val (.int p4), .val (.int p5), .val (.int ((p3 &&& (255 : Int32)).toUInt32.toUInt16.toUInt32.toInt32)), .val (.int ((p4 &&& (255 : Int32)).toUInt32.toUInt16.toUInt32.toInt32)), .val (.int ((p5 &&& (255 : Int32)).toUInt32.toUInt16.toUInt32.toInt32)), .val (.int (2 : Int32)), .unset, .unset, .unset, .unset, .unset, .unset] [(.int (2 : Int32))])
    refine GlW.st (fun _ kk => XS.iconst X0.here hx rfl (hb hby at_71) kk) ?_
    show GlW Z consts_1 p e below s _ _ _ s₁ (mkF m 72 #[.val (.int p1), .val (.int p2), .val (.int p3), .val (.int p4), .val (.int p5), .val (.int ((p3 &&& (255 : Int32)).toUInt32.toUInt16.toUInt32.toInt32)), .val (.int ((p4 &&& (255 : Int32)).toUInt32.toUInt16.toUInt32.toInt32)), .val (.int ((p5 &&& (255 : Int32)).toUInt32.toUInt16.toUInt32.toInt32)), .val (.int (2 : Int32)), .unset, .unset, .unset, .unset, .unset, .unset] [(.int (2 : Int32)), (.int (2 : Int32))])
    refine GlW.st (fun _ kk => XS.icmpNo X0.here hx rfl (hb hby at_72) rfl (teq (by decide : (2 : Int32) = (2 : Int32))).2 kk) ?_
    show GlW Z consts_1 p e below s _ _ _ s₁ (mkF m 75 #[.val (.int p1), .val (.int p2), .val (.int p3), .val (.int p4), .val (.int p5), .val (.int ((p3 &&& (255 : Int32)).toUInt32.toUInt16.toUInt32.toInt32)), .val (.int ((p4 &&& (255 : Int32)).toUInt32.toUInt16.toUInt32.toInt32)), .val (.int ((p5 &&& (255 : Int32)).toUInt32.toUInt16.toUInt32.toInt32)), .val (.int (2 : Int32)), .unset, .unset, .unset, .unset, .unset, .unset] [])
    obtain ⟨T28, h28, X28, e28, E28, A28, D28, V28, st28⟩ := newO X0 hx hZ hown (hw _ (List.mem_of_getElem? (i := 1) rfl)) (hw _ (List.mem_of_getElem? (i := 2) rfl)) (hw _ (List.mem_of_getElem? (i := 3) rfl)) e0 (g := (mkF m 75 #[.val (.int p1), .val (.int p2), .val (.int p3), .val (.int p4), .val (.int p5), .val (.int ((p3 &&& (255 : Int32)).toUInt32.toUInt16.toUInt32.toInt32)), .val (.int ((p4 &&& (255 : Int32)).toUInt32.toUInt16.toUInt32.toInt32)), .val (.int ((p5 &&& (255 : Int32)).toUInt32.toUInt16.toUInt32.toInt32)), .val (.int (2 : Int32)), .unset, .unset, .unset, .unset, .unset, .unset] [])) rfl (hb hby at_75) (by decide) (by decide)
    obtain ⟨b28, g28⟩ : ∃ z, z = h0.size := ⟨_, rfl⟩
    rw [← g28] at A28 D28 V28 st28
    refine GlW.st st28 ?_
    have ge_b28 : n0 ≤ b28 := Nat.le_trans (Nat.le_trans (Nat.le_of_eq O0.1.symm) O0.2.1) (Nat.le_of_eq g28.symm)
    have fr_b28 : h0.size ≤ b28 := Nat.le_trans (Nat.le_refl _) (Nat.le_of_eq g28.symm)
    have Sf_b28 : Safe Z consts_1 s.vm h0 b28 := Safe.new (Nat.le_of_eq g28.symm)
    replace Sf_b28 := Safe.ext E28 HC0.1 Sf_b28
    have HC28 := HC0.trans (CHr.ext E28 HC0.1)
    have hk28 := Nat.le_trans hk0 E28.1
    have O28 := O0.ext E28
    have K28 := (Keep.refl h0 []).ext E28
    have Exa_b28 := A28
    have F_coder_b28 : Fld Z h28 b28 "java/lang/String" "coder" "B" (.int (0 : Int32)) := D28 (Or.inr (hw _ (List.mem_of_getElem? (i := 28) rfl))) (ty := .byte) (by decide)
    have F_value_b28 : Fld Z h28 b28 "java/lang/String" "value" "[B" .null := D28 (Or.inr (hw _ (List.mem_of_getElem? (i := 30) rfl))) (ty := (.array .byte)) (by decide)
    show GlW Z consts_1 p e below s _ _ _ T28 (mkF m 78 #[.val (.int p1), .val (.int p2), .val (.int p3), .val (.int p4), .val (.int p5), .val (.int ((p3 &&& (255 : Int32)).toUInt32.toUInt16.toUInt32.toInt32)), .val (.int ((p4 &&& (255 : Int32)).toUInt32.toUInt16.toUInt32.toInt32)), .val (.int ((p5 &&& (255 : Int32)).toUInt32.toUInt16.toUInt32.toInt32)), .val (.int (2 : Int32)), .unset, .unset, .unset, .unset, .unset, .unset] [(.ref b28)])
    refine GlW.st (fun _ kk => XS.dup X28.here hx rfl (hb hby at_78) rfl rfl kk) ?_
    show GlW Z consts_1 p e below s _ _ _ T28 (mkF m 79 #[.val (.int p1), .val (.int p2), .val (.int p3), .val (.int p4), .val (.int p5), .val (.int ((p3 &&& (255 : Int32)).toUInt32.toUInt16.toUInt32.toInt32)), .val (.int ((p4 &&& (255 : Int32)).toUInt32.toUInt16.toUInt32.toInt32)), .val (.int ((p5 &&& (255 : Int32)).toUInt32.toUInt16.toUInt32.toInt32)), .val (.int (2 : Int32)), .unset, .unset, .unset, .unset, .unset, .unset] [(.ref b28), (.ref b28)])
    refine GlW.st (fun _ kk => XS.iconst X28.here hx rfl (hb hby at_79) kk) ?_
    show GlW Z consts_1 p e below s _ _ _ T28 (mkF m 80 #[.val (.int p1), .val (.int p2), .val (.int p3), .val (.int p4), .val (.int p5), .val (.int ((p3 &&& (255 : Int32)).toUInt32.toUInt16.toUInt32.toInt32)), .val (.int ((p4 &&& (255 : Int32)).toUInt32.toUInt16.toUInt32.toInt32)), .val (.int ((p5 &&& (255 : Int32)).toUInt32.toUInt16.toUInt32.toInt32)), .val (.int (2 : Int32)), .unset, .unset, .unset, .unset, .unset, .unset] [(.int (2 : Int32)), (.ref b28), (.ref b28)])
    obtain ⟨T29, h29, ka29, X29, e29, E29, A29, st29⟩ := newP X28 hx hZ (hw _ (List.mem_of_getElem? (i := 4) rfl)) e28 (g := (mkF m 80 #[.val (.int p1), .val (.int p2), .val (.int p3), .val (.int p4), .val (.int p5), .val (.int ((p3 &&& (255 : Int32)).toUInt32.toUInt16.toUInt32.toInt32)), .val (.int ((p4 &&& (255 : Int32)).toUInt32.toUInt16.toUInt32.toInt32)), .val (.int ((p5 &&& (255 : Int32)).toUInt32.toUInt16.toUInt32.toInt32)), .val (.int (2 : Int32)), .unset, .unset, .unset, .unset, .unset, .unset] [(.int (2 : Int32)), (.ref b28), (.ref b28)])) rfl (hb hby at_80) rfl (by decide) (cap := 2) (by decide) (by decide) (by decide) (by decide)
    obtain ⟨b29, g29⟩ : ∃ z, z = h28.size := ⟨_, rfl⟩
    rw [← g29] at A29 st29
    refine GlW.st st29 ?_
    have ne_b28_b29 : b28 ≠ b29 := Nat.ne_of_lt (Nat.lt_of_lt_of_eq Exa_b28.lt g29.symm)
    have ge_b29 : n0 ≤ b29 := Nat.le_trans (Nat.le_trans (Nat.le_of_eq O28.1.symm) O28.2.1) (Nat.le_of_eq g29.symm)
    have fr_b29 : h0.size ≤ b29 := Nat.le_trans K28.1 (Nat.le_of_eq g29.symm)
    replace Sf_b28 := Safe.ext E29 HC28.1 Sf_b28
    have HC29 := HC28.trans (CHr.ext E29 HC28.1)
    have hk29 := Nat.le_trans hk28 E29.1
    replace Exa_b28 := Exa_b28.ext E29
    replace F_coder_b28 := F_coder_b28.ext E29
    replace F_value_b28 := F_value_b28.ext E29
    have O29 := O28.ext E29
    have K29 := K28.ext E29
    have Arv_b29 : Arv Z h29 b29 ka29 .char (2 : Int32) [(.int (0 : Int32)), (.int (0 : Int32))] (.int (0 : Int32)) := (Arv.new A29 (by decide)).pad (pad_rep [] (.int (0 : Int32)) 2)
    show GlW Z consts_1 p e below s _ _ _ T29 (mkF m 82 #[.val (.int p1), .val (.int p2), .val (.int p3), .val (.int p4), .val (.int p5), .val (.int ((p3 &&& (255 : Int32)).toUInt32.toUInt16.toUInt32.toInt32)), .val (.int ((p4 &&& (255 : Int32)).toUInt32.toUInt16.toUInt32.toInt32)), .val (.int ((p5 &&& (255 : Int32)).toUInt32.toUInt16.toUInt32.toInt32)), .val (.int (2 : Int32)), .unset, .unset, .unset, .unset, .unset, .unset] [(.ref b29), (.ref b28), (.ref b28)])
    refine GlW.st (fun _ kk => XS.dup X29.here hx rfl (hb hby at_82) rfl rfl kk) ?_
    show GlW Z consts_1 p e below s _ _ _ T29 (mkF m 83 #[.val (.int p1), .val (.int p2), .val (.int p3), .val (.int p4), .val (.int p5), .val (.int ((p3 &&& (255 : Int32)).toUInt32.toUInt16.toUInt32.toInt32)), .val (.int ((p4 &&& (255 : Int32)).toUInt32.toUInt16.toUInt32.toInt32)), .val (.int ((p5 &&& (255 : Int32)).toUInt32.toUInt16.toUInt32.toInt32)), .val (.int (2 : Int32)), .unset, .unset, .unset, .unset, .unset, .unset] [(.ref b29), (.ref b29), (.ref b28), (.ref b28)])
    refine GlW.st (fun _ kk => XS.iconst X29.here hx rfl (hb hby at_83) kk) ?_
    show GlW Z consts_1 p e below s _ _ _ T29 (mkF m 84 #[.val (.int p1), .val (.int p2), .val (.int p3), .val (.int p4), .val (.int p5), .val (.int ((p3 &&& (255 : Int32)).toUInt32.toUInt16.toUInt32.toInt32)), .val (.int ((p4 &&& (255 : Int32)).toUInt32.toUInt16.toUInt32.toInt32)), .val (.int ((p5 &&& (255 : Int32)).toUInt32.toUInt16.toUInt32.toInt32)), .val (.int (2 : Int32)), .unset, .unset, .unset, .unset, .unset, .unset] [(.int (0 : Int32)), (.ref b29), (.ref b29), (.ref b28), (.ref b28)])
    refine GlW.st (fun _ kk => XS.iload X29.here hx rfl (hb hby at_84) rfl kk) ?_
    show GlW Z consts_1 p e below s _ _ _ T29 (mkF m 86 #[.val (.int p1), .val (.int p2), .val (.int p3), .val (.int p4), .val (.int p5), .val (.int ((p3 &&& (255 : Int32)).toUInt32.toUInt16.toUInt32.toInt32)), .val (.int ((p4 &&& (255 : Int32)).toUInt32.toUInt16.toUInt32.toInt32)), .val (.int ((p5 &&& (255 : Int32)).toUInt32.toUInt16.toUInt32.toInt32)), .val (.int (2 : Int32)), .unset, .unset, .unset, .unset, .unset, .unset] [(.int ((p3 &&& (255 : Int32)).toUInt32.toUInt16.toUInt32.toInt32)), (.int (0 : Int32)), (.ref b29), (.ref b29), (.ref b28), (.ref b28)])
    obtain ⟨cl30, Ar30, q30, Sz30, Ng30, Ha30, Fi30⟩ := id Arv_b29
    have hin30 : ¬ ((0 : Int32) < 0 ∨ cl30.slots.size ≤ ((0 : Int32)).toNatClampNeg) := inb_of Sz30 ⟨by decide, by decide⟩
    obtain ⟨T30, h30, X30, e30, W30, st30⟩ := stC X29 hx hZ e29 Ar30 (j := (0 : Int32)) hin30 (g := (mkF m 86 #[.val (.int p1), .val (.int p2), .val (.int p3), .val (.int p4), .val (.int p5), .val (.int ((p3 &&& (255 : Int32)).toUInt32.toUInt16.toUInt32.toInt32)), .val (.int ((p4 &&& (255 : Int32)).toUInt32.toUInt16.toUInt32.toInt32)), .val (.int ((p5 &&& (255 : Int32)).toUInt32.toUInt16.toUInt32.toInt32)), .val (.int (2 : Int32)), .unset, .unset, .unset, .unset, .unset, .unset] [(.int ((p3 &&& (255 : Int32)).toUInt32.toUInt16.toUInt32.toInt32)), (.int (0 : Int32)), (.ref b29), (.ref b29), (.ref b28), (.ref b28)])) rfl rfl (hb hby at_86)
    refine GlW.st st30 ?_
    replace Arv_b29 : Arv Z h30 b29 ka29 .char (2 : Int32) [(.int (nar .char ((p3 &&& (255 : Int32)).toUInt32.toUInt16.toUInt32.toInt32))), (.int (0 : Int32))] (.int (0 : Int32)) := Arv.set Ar30 q30 Sz30 Ng30 Ha30 Fi30 (fits_nar_char _) W30 0 rfl (Nat.le_of_ble_eq_true rfl)
    have sfw30 := (show Safe Z consts_1 s.vm h29 b29 from Safe.arr hZ.alike Ar30 (by decide))
    replace Sf_b28 := Safe.wr W30 sfw30 HC29.1 Sf_b28
    have HC30 := HC29.trans (CHr.wr W30 sfw30 HC29.1)
    have hk30 := Nat.le_trans hk29 (Nat.le_of_eq W30.size.symm)
    replace Exa_b28 := Exa_b28.wr W30
    replace F_coder_b28 := F_coder_b28.other W30 (Or.inl ne_b28_b29)
    replace F_value_b28 := F_value_b28.other W30 (Or.inl ne_b28_b29)
    have O30 := O29.wr W30 ge_b29
    have K30 := K29.wr W30 (Or.inr fr_b29)
    have N30 := Fr.snoc X30 N0 ge_b29
    clear st30 W30 hin30 Fi30 Ha30 Ng30 Sz30 q30 Ar30 cl30 sfw30
    clear O29 K29 HC29 hk29 X29 e29
    show GlW Z consts_1 p e below s _ _ _ T30 (mkF m 87 #[.val (.int p1), .val (.int p2), .val (.int p3), .val (.int p4), .val (.int p5), .val (.int ((p3 &&& (255 : Int32)).toUInt32.toUInt16.toUInt32.toInt32)), .val (.int ((p4 &&& (255 : Int32)).toUInt32.toUInt16.toUInt32.toInt32)), .val (.int ((p5 &&& (255 : Int32)).toUInt32.toUInt16.toUInt32.toInt32)), .val (.int (2 : Int32)), .unset, .unset, .unset, .unset, .unset, .unset] [(.ref b29), (.ref b28), (.ref b28)])
    refine GlW.st (fun _ kk => XS.dup X30.here hx rfl (hb hby at_87) rfl rfl kk) ?_
    show GlW Z consts_1 p e below s _ _ _ T30 (mkF m 88 #[.val (.int p1), .val (.int p2), .val (.int p3), .val (.int p4), .val (.int p5), .val (.int ((p3 &&& (255 : Int32)).toUInt32.toUInt16.toUInt32.toInt32)), .val (.int ((p4 &&& (255 : Int32)).toUInt32.toUInt16.toUInt32.toInt32)), .val (.int ((p5 &&& (255 : Int32)).toUInt32.toUInt16.toUInt32.toInt32)), .val (.int (2 : Int32)), .unset, .unset, .unset, .unset, .unset, .unset] [(.ref b29), (.ref b29), (.ref b28), (.ref b28)])
    refine GlW.st (fun _ kk => XS.iconst X30.here hx rfl (hb hby at_88) kk) ?_
    show GlW Z consts_1 p e below s _ _ _ T30 (mkF m 89 #[.val (.int p1), .val (.int p2), .val (.int p3), .val (.int p4), .val (.int p5), .val (.int ((p3 &&& (255 : Int32)).toUInt32.toUInt16.toUInt32.toInt32)), .val (.int ((p4 &&& (255 : Int32)).toUInt32.toUInt16.toUInt32.toInt32)), .val (.int ((p5 &&& (255 : Int32)).toUInt32.toUInt16.toUInt32.toInt32)), .val (.int (2 : Int32)), .unset, .unset, .unset, .unset, .unset, .unset] [(.int (1 : Int32)), (.ref b29), (.ref b29), (.ref b28), (.ref b28)])
    refine GlW.st (fun _ kk => XS.iload X30.here hx rfl (hb hby at_89) rfl kk) ?_
    show GlW Z consts_1 p e below s _ _ _ T30 (mkF m 91 #[.val (.int p1), .val (.int p2), .val (.int p3), .val (.int p4), .val (.int p5), .val (.int ((p3 &&& (255 : Int32)).toUInt32.toUInt16.toUInt32.toInt32)), .val (.int ((p4 &&& (255 : Int32)).toUInt32.toUInt16.toUInt32.toInt32)), .val (.int ((p5 &&& (255 : Int32)).toUInt32.toUInt16.toUInt32.toInt32)), .val (.int (2 : Int32)), .unset, .unset, .unset, .unset, .unset, .unset] [(.int ((p4 &&& (255 : Int32)).toUInt32.toUInt16.toUInt32.toInt32)), (.int (1 : Int32)), (.ref b29), (.ref b29), (.ref b28), (.ref b28)])
    obtain ⟨cl31, Ar31, q31, Sz31, Ng31, Ha31, Fi31⟩ := id Arv_b29
    have hin31 : ¬ ((1 : Int32) < 0 ∨ cl31.slots.size ≤ ((1 : Int32)).toNatClampNeg) := inb_of Sz31 ⟨by decide, by decide⟩
    obtain ⟨T31, h31, X31, e31, W31, st31⟩ := stC X30 hx hZ e30 Ar31 (j := (1 : Int32)) hin31 (g := (mkF m 91 #[.val (.int p1), .val (.int p2), .val (.int p3), .val (.int p4), .val (.int p5), .val (.int ((p3 &&& (255 : Int32)).toUInt32.toUInt16.toUInt32.toInt32)), .val (.int ((p4 &&& (255 : Int32)).toUInt32.toUInt16.toUInt32.toInt32)), .val (.int ((p5 &&& (255 : Int32)).toUInt32.toUInt16.toUInt32.toInt32)), .val (.int (2 : Int32)), .unset, .unset, .unset, .unset, .unset, .unset] [(.int ((p4 &&& (255 : Int32)).toUInt32.toUInt16.toUInt32.toInt32)), (.int (1 : Int32)), (.ref b29), (.ref b29), (.ref b28), (.ref b28)])) rfl rfl (hb hby at_91)
    refine GlW.st st31 ?_
    replace Arv_b29 : Arv Z h31 b29 ka29 .char (2 : Int32) [(.int (nar .char ((p3 &&& (255 : Int32)).toUInt32.toUInt16.toUInt32.toInt32))), (.int (nar .char ((p4 &&& (255 : Int32)).toUInt32.toUInt16.toUInt32.toInt32)))] (.int (0 : Int32)) := Arv.set Ar31 q31 Sz31 Ng31 Ha31 Fi31 (fits_nar_char _) W31 1 rfl (Nat.le_of_ble_eq_true rfl)
    have sfw31 := (show Safe Z consts_1 s.vm h30 b29 from Safe.arr hZ.alike Ar31 (by decide))
    replace Sf_b28 := Safe.wr W31 sfw31 HC30.1 Sf_b28
    have HC31 := HC30.trans (CHr.wr W31 sfw31 HC30.1)
    have hk31 := Nat.le_trans hk30 (Nat.le_of_eq W31.size.symm)
    replace Exa_b28 := Exa_b28.wr W31
    replace F_coder_b28 := F_coder_b28.other W31 (Or.inl ne_b28_b29)
    replace F_value_b28 := F_value_b28.other W31 (Or.inl ne_b28_b29)
    have O31 := O30.wr W31 ge_b29
    have K31 := K30.wr W31 (Or.inr fr_b29)
    have N31 := Fr.snoc X31 N30 ge_b29
    clear st31 W31 hin31 Fi31 Ha31 Ng31 Sz31 q31 Ar31 cl31 sfw31
    clear O30 K30 N30 HC30 hk30 X30 e30
    show GlW Z consts_1 p e below s _ _ _ T31 (mkF m 92 #[.val (.int p1), .val (.int p2), .val (.int p3), .val (.int p4), .val (.int p5), .val (.int ((p3 &&& (255 : Int32)).toUInt32.toUInt16.toUInt32.toInt32)), .val (.int ((p4 &&& (255 : Int32)).toUInt32.toUInt16.toUInt32.toInt32)), .val (.int ((p5 &&& (255 : Int32)).toUInt32.toUInt16.toUInt32.toInt32)), .val (.int (2 : Int32)), .unset, .unset, .unset, .unset, .unset, .unset] [(.ref b29), (.ref b28), (.ref b28)])
    have hlat32 : ∀ c ∈ ([(nar .char ((p3 &&& (255 : Int32)).toUInt32.toUInt16.toUInt32.toInt32)), (nar .char ((p4 &&& (255 : Int32)).toUInt32.toUInt16.toUInt32.toInt32))] : List Int32), ¬ c < 0 ∧ ¬ (255 : Int32) < c := by
      intro c hc
      simp only [List.mem_cons, List.not_mem_nil, or_false] at hc
      rcases hc with rfl | rfl
      · rw [own_nar255]; exact own_and255 _
      · rw [own_nar255]; exact own_and255 _
    obtain ⟨v33, _, ⟨T33, L33, kQ33, nQ33⟩, -, X33, ⟨Lc33, hQ33, l33, y33, z33⟩, st33⟩ := X31.specialBack hx (y := (⟨"java/lang/String", "<init>", "([C)V"⟩ : MethodName)) rfl hown (mvT hZ (hw _ (List.mem_of_getElem? (i := 5) rfl))) (mvT hZ (hw _ (List.mem_of_getElem? (i := 6) rfl))) (mvT hZ (hw _ (List.mem_of_getElem? (i := 7) rfl))) (by decide) (StrChars.Road.backV (W := 1) (s := (s.setVm s.vm)) hZ hws (kI := 4) (hw _ (List.mem_of_getElem? (i := 2) rfl)) (cs := [(nar .char ((p3 &&& (255 : Int32)).toUInt32.toUInt16.toUInt32.toInt32)), (nar .char ((p4 &&& (255 : Int32)).toUInt32.toUInt16.toUInt32.toInt32))]) (bs := [((nar .char ((p3 &&& (255 : Int32)).toUInt32.toUInt16.toUInt32.toInt32))).toInt8.toInt32, ((nar .char ((p4 &&& (255 : Int32)).toUInt32.toUInt16.toUInt32.toInt32))).toInt8.toInt32]) (n := 2) ge_b28 (Nat.le_trans (Nat.le_of_eq O31.1.symm) O31.2.1) Exa_b28 F_value_b28 F_coder_b28 Arv_b29 (S_COMPACT.ext O31.2) hcz rfl rfl (by decide) (by decide) hlat32 rfl (by decide) (by decide)) (g := (mkF m 92 #[.val (.int p1), .val (.int p2), .val (.int p3), .val (.int p4), .val (.int p5), .val (.int ((p3 &&& (255 : Int32)).toUInt32.toUInt16.toUInt32.toInt32)), .val (.int ((p4 &&& (255 : Int32)).toUInt32.toUInt16.toUInt32.toInt32)), .val (.int ((p5 &&& (255 : Int32)).toUInt32.toUInt16.toUInt32.toInt32)), .val (.int (2 : Int32)), .unset, .unset, .unset, .unset, .unset, .unset] [(.ref b29), (.ref b28), (.ref b28)])) rfl (by rw [hml]; rfl) (Steps.refl _) (a := b28) (argsL := [(.ref b29)]) (rest := [(.ref b28)]) (lenOf pd_rm0_5 rfl) rfl (by show 2 * 0 + _ ≤ _; exact Nat.le_of_eq rfl) (hb hby at_92) (fun _ _ => ⟨rfl, e31, (by decide : 2 + 1 ≤ _), (by decide : 6 + 2 ≤ _)⟩)
    dsimp only [Pt.U, Pt.locs, Pt.cells, Pt.slots] at X33 l33 y33 z33 st33 hQ33
    subst y33 z33
    obtain ⟨h33, e33⟩ : ∃ z, T33.heap = z := ⟨_, rfl⟩
    rw [e33] at hQ33
    obtain ⟨rfl, Nq33, Kq33, Eq33, Cq33, t33, kb33, gt33, fr_t33, ne_t33, Fq33, Aq33⟩ := hQ33
    have N33 : Fr n0 L33 := l33 ▸ Fr.app N31 Nq33
    refine GlW.st (fun _ kk => st33.trans kk) ?_
    have sfk33 : ∀ x ∈ [b28], Safe Z consts_1 _ _ x := (allS Sf_b28 all0)
    replace Sf_b28 := Safe.keep Kq33 sfk33 HC31.1 Sf_b28
    have HC33 := HC31.trans (CHr.keep Kq33 sfk33 HC31.1)
    have hk33 := Nat.le_trans hk31 Kq33.1
    replace Exa_b28 := Exa_b28.keep Kq33
    replace Arv_b29 := Arv_b29.keep Kq33 (ninS (Ne.symm ne_b28_b29) nin0)
    have O33 := O31.keep Kq33 (allS ge_b28 all0)
    have K33 := K31.trans Kq33 (allS (Or.inr fr_b28) all0)
    have F_coder_b28 := Cq33
    have F_value_b28 := Fq33
    have Arv_t33 := Aq33
    clear st33
    clear O31 K31 N31 HC31 hk31 X31 e31
    show GlW Z consts_1 p e below s _ _ _ T33 (mkF m 95 #[.val (.int p1), .val (.int p2), .val (.int p3), .val (.int p4), .val (.int p5), .val (.int ((p3 &&& (255 : Int32)).toUInt32.toUInt16.toUInt32.toInt32)), .val (.int ((p4 &&& (255 : Int32)).toUInt32.toUInt16.toUInt32.toInt32)), .val (.int ((p5 &&& (255 : Int32)).toUInt32.toUInt16.toUInt32.toInt32)), .val (.int (2 : Int32)), .unset, .unset, .unset, .unset, .unset, .unset] [(.ref b28)])
    refine GlW.st (fun _ kk => XS.astore X33.here hx rfl (hb hby at_95) rfl rfl (l' := #[.val (.int p1), .val (.int p2), .val (.int p3), .val (.int p4), .val (.int p5), .val (.int ((p3 &&& (255 : Int32)).toUInt32.toUInt16.toUInt32.toInt32)), .val (.int ((p4 &&& (255 : Int32)).toUInt32.toUInt16.toUInt32.toInt32)), .val (.int ((p5 &&& (255 : Int32)).toUInt32.toUInt16.toUInt32.toInt32)), .val (.int (2 : Int32)), .val (.ref b28), .unset, .unset, .unset, .unset, .unset]) rfl kk) ?_
    show GlW Z consts_1 p e below s _ _ _ T33 (mkF m 97 #[.val (.int p1), .val (.int p2), .val (.int p3), .val (.int p4), .val (.int p5), .val (.int ((p3 &&& (255 : Int32)).toUInt32.toUInt16.toUInt32.toInt32)), .val (.int ((p4 &&& (255 : Int32)).toUInt32.toUInt16.toUInt32.toInt32)), .val (.int ((p5 &&& (255 : Int32)).toUInt32.toUInt16.toUInt32.toInt32)), .val (.int (2 : Int32)), .val (.ref b28), .unset, .unset, .unset, .unset, .unset] [])
    refine GlW.st (fun _ kk => XS.goto X33.here hx rfl (pc0 := 97) (pc' := 127) rfl (hb hby at_97) (by decide) (by decide) kk) ?_
    show GlW Z consts_1 p e below s _ _ _ T33 (mkF m 127 #[.val (.int p1), .val (.int p2), .val (.int p3), .val (.int p4), .val (.int p5), .val (.int ((p3 &&& (255 : Int32)).toUInt32.toUInt16.toUInt32.toInt32)), .val (.int ((p4 &&& (255 : Int32)).toUInt32.toUInt16.toUInt32.toInt32)), .val (.int ((p5 &&& (255 : Int32)).toUInt32.toUInt16.toUInt32.toInt32)), .val (.int (2 : Int32)), .val (.ref b28), .unset, .unset, .unset, .unset, .unset] [])
    exact join127 b28 (2 : Int32)  _ _ _ _ _ (Gl.wider X33 (by decide) (by decide)) e33 N33 O33 K33 hS0 hk33 hZ hown HC33  Exa_b28
  · rw [hk]
    show GlW Z consts_1 p e below s _ _ _ s₁ (mkF m 33 #[.val (.int p1), .val (.int p2), .val (.int p3), .val (.int p4), .val (.int p5), .val (.int ((p3 &&& (255 : Int32)).toUInt32.toUInt16.toUInt32.toInt32)), .val (.int ((p4 &&& (255 : Int32)).toUInt32.toUInt16.toUInt32.toInt32)), .val (.int ((p5 &&& (255 : Int32)).toUInt32.toUInt16.toUInt32.toInt32)), .val (.int (3 : Int32)), .unset, .unset, .unset, .unset, .unset, .unset] [])
    refine GlW.st (fun _ kk => XS.iload X0.here hx rfl (hb hby at_33) rfl kk) ?_
    show GlW Z consts_1 p e below s _ _ _ s₁ (mkF m 35 #[.val (.int p1), .val (.int p2), .val (.int p3), .val (.int p4), .val (.int p5), .val (.int ((p3 &&& (255 : Int32)).toUInt32.toUInt16.toUInt32.toInt32)), .val (.int ((p4 &&& (255 : Int32)).toUInt32.toUInt16.toUInt32.toInt32)), .val (.int ((p5 &&& (255 : Int32)).toUInt32.toUInt16.toUInt32.toInt32)), .val (.int (3 : Int32)), .unset, .unset, .unset, .unset, .unset, .unset] [(.int (3 : Int32))])
    refine GlW.st (fun _ kk => XS.ifYes X0.here hx rfl (pc0 := 35) (pc' := 53) rfl (hb hby at_35) rfl ((if0 _ _).trans (feq (by decide : ¬ ((3 : Int32) = (0 : Int32)))).2) (by decide) (by decide) kk) ?_
    show GlW Z consts_1 p e below s _ _ _ s₁ (mkF m 53 #[.val (.int p1), .val (.int p2), .val (.int p3), .val (.int p4), .val (.int p5), .val (.int ((p3 &&& (255 : Int32)).toUInt32.toUInt16.toUInt32.toInt32)), .val (.int ((p4 &&& (255 : Int32)).toUInt32.toUInt16.toUInt32.toInt32)), .val (.int ((p5 &&& (255 : Int32)).toUInt32.toUInt16.toUInt32.toInt32)), .val (.int (3 : Int32)), .unset, .unset, .unset, .unset, .unset, .unset] [])
    refine GlW.st (fun _ kk => XS.iload X0.here hx rfl (hb hby at_53) rfl kk) ?_
    show GlW Z consts_1 p e below s _ _ _ s₁ (mkF m 55 #[.val (.int p1), .val (.int p2), .val (.int p3), .val (.int p4), .val (.int p5), .val (.int ((p3 &&& (255 : Int32)).toUInt32.toUInt16.toUInt32.toInt32)), .val (.int ((p4 &&& (255 : Int32)).toUInt32.toUInt16.toUInt32.toInt32)), .val (.int ((p5 &&& (255 : Int32)).toUInt32.toUInt16.toUInt32.toInt32)), .val (.int (3 : Int32)), .unset, .unset, .unset, .unset, .unset, .unset] [(.int (3 : Int32))])
    refine GlW.st (fun _ kk => XS.iconst X0.here hx rfl (hb hby at_55) kk) ?_
    show GlW Z consts_1 p e below s _ _ _ s₁ (mkF m 56 #[.val (.int p1), .val (.int p2), .val (.int p3), .val (.int p4), .val (.int p5), .val (.int ((p3 &&& (255 : Int32)).toUInt32.toUInt16.toUInt32.toInt32)), .val (.int ((p4 &&& (255 : Int32)).toUInt32.toUInt16.toUInt32.toInt32)), .val (.int ((p5 &&& (255 : Int32)).toUInt32.toUInt16.toUInt32.toInt32)), .val (.int (3 : Int32)), .unset, .unset, .unset, .unset, .unset, .unset] [(.int (1 : Int32)), (.int (3 : Int32))])
    refine GlW.st (fun _ kk => XS.icmpYes X0.here hx rfl (pc0 := 56) (pc' := 69) rfl (hb hby at_56) rfl (feq (by decide : ¬ ((3 : Int32) = (1 : Int32)))).2 (by decide) (by decide) kk) ?_
    show GlW Z consts_1 p e below s _ _ _ s₁ (mkF m 69 #[.val (.int p1), .val (.int p2), .val (.int p3), .val (.int p4), .val (.int p5), .val (.int ((p3 &&& (255 : Int32)).toUInt32.toUInt16.toUInt32.toInt32)), .val (.int ((p4 &&& (255 : Int32)).toUInt32.toUInt16.toUInt32.toInt32)), .val (.int ((p5 &&& (255 : Int32)).toUInt32.toUInt16.toUInt32.toInt32)), .val (.int (3 : Int32)), .unset, .unset, .unset, .unset, .unset, .unset] [])
    refine GlW.st (fun _ kk => XS.iload X0.here hx rfl (hb hby at_69) rfl kk) ?_
    show GlW Z consts_1 p e below s _ _ _ s₁ (mkF m 71 #[.val (.int p1), .val (.int p2), .val (.int p3), .val (.int p4), .val (.int p5), .val (.int ((p3 &&& (255 : Int32)).toUInt32.toUInt16.toUInt32.toInt32)), .val (.int ((p4 &&& (255 : Int32)).toUInt32.toUInt16.toUInt32.toInt32)), .val (.int ((p5 &&& (255 : Int32)).toUInt32.toUInt16.toUInt32.toInt32)), .val (.int (3 : Int32)), .unset, .unset, .unset, .unset, .unset, .unset] [(.int (3 : Int32))])
    refine GlW.st (fun _ kk => XS.iconst X0.here hx rfl (hb hby at_71) kk) ?_
    show GlW Z consts_1 p e below s _ _ _ s₁ (mkF m 72 #[.val (.int p1), .val (.int p2), .val (.int p3), .val (.int p4), .val (.int p5), .val (.int ((p3 &&& (255 : Int32)).toUInt32.toUInt16.toUInt32.toInt32)), .val (.int ((p4 &&& (255 : Int32)).toUInt32.toUInt16.toUInt32.toInt32)), .val (.int ((p5 &&& (255 : Int32)).toUInt32.toUInt16.toUInt32.toInt32)), .val (.int (3 : Int32)), .unset, .unset, .unset, .unset, .unset, .unset] [(.int (2 : Int32)), (.int (3 : Int32))])
    refine GlW.st (fun _ kk => XS.icmpYes X0.here hx rfl (pc0 := 72) (pc' := 100) rfl (hb hby at_72) rfl (feq (by decide : ¬ ((3 : Int32) = (2 : Int32)))).2 (by decide) (by decide) kk) ?_
    show GlW Z consts_1 p e below s _ _ _ s₁ (mkF m 100 #[.val (.int p1), .val (.int p2), .val (.int p3), .val (.int p4), .val (.int p5), .val (.int ((p3 &&& (255 : Int32)).toUInt32.toUInt16.toUInt32.toInt32)), .val (.int ((p4 &&& (255 : Int32)).toUInt32.toUInt16.toUInt32.toInt32)), .val (.int ((p5 &&& (255 : Int32)).toUInt32.toUInt16.toUInt32.toInt32)), .val (.int (3 : Int32)), .unset, .unset, .unset, .unset, .unset, .unset] [])
    obtain ⟨T34, h34, X34, e34, E34, A34, D34, V34, st34⟩ := newO X0 hx hZ hown (hw _ (List.mem_of_getElem? (i := 1) rfl)) (hw _ (List.mem_of_getElem? (i := 2) rfl)) (hw _ (List.mem_of_getElem? (i := 3) rfl)) e0 (g := (mkF m 100 #[.val (.int p1), .val (.int p2), .val (.int p3), .val (.int p4), .val (.int p5), .val (.int ((p3 &&& (255 : Int32)).toUInt32.toUInt16.toUInt32.toInt32)), .val (.int ((p4 &&& (255 : Int32)).toUInt32.toUInt16.toUInt32.toInt32)), .val (.int ((p5 &&& (255 : Int32)).toUInt32.toUInt16.toUInt32.toInt32)), .val (.int (3 : Int32)), .unset, .unset, .unset, .unset, .unset, .unset] [])) rfl (hb hby at_100) (by decide) (by decide)
    obtain ⟨b34, g34⟩ : ∃ z, z = h0.size := ⟨_, rfl⟩
    rw [← g34] at A34 D34 V34 st34
    refine GlW.st st34 ?_
    have ge_b34 : n0 ≤ b34 := Nat.le_trans (Nat.le_trans (Nat.le_of_eq O0.1.symm) O0.2.1) (Nat.le_of_eq g34.symm)
    have fr_b34 : h0.size ≤ b34 := Nat.le_trans (Nat.le_refl _) (Nat.le_of_eq g34.symm)
    have Sf_b34 : Safe Z consts_1 s.vm h0 b34 := Safe.new (Nat.le_of_eq g34.symm)
    replace Sf_b34 := Safe.ext E34 HC0.1 Sf_b34
    have HC34 := HC0.trans (CHr.ext E34 HC0.1)
    have hk34 := Nat.le_trans hk0 E34.1
    have O34 := O0.ext E34
    have K34 := (Keep.refl h0 []).ext E34
    have Exa_b34 := A34
    have F_coder_b34 : Fld Z h34 b34 "java/lang/String" "coder" "B" (.int (0 : Int32)) := D34 (Or.inr (hw _ (List.mem_of_getElem? (i := 28) rfl))) (ty := .byte) (by decide)
    have F_value_b34 : Fld Z h34 b34 "java/lang/String" "value" "[B" .null := D34 (Or.inr (hw _ (List.mem_of_getElem? (i := 30) rfl))) (ty := (.array .byte)) (by decide)
    show GlW Z consts_1 p e below s _ _ _ T34 (mkF m 103 #[.val (.int p1), .val (.int p2), .val (.int p3), .val (.int p4), .val (.int p5), .val (.int ((p3 &&& (255 : Int32)).toUInt32.toUInt16.toUInt32.toInt32)), .val (.int ((p4 &&& (255 : Int32)).toUInt32.toUInt16.toUInt32.toInt32)), .val (.int ((p5 &&& (255 : Int32)).toUInt32.toUInt16.toUInt32.toInt32)), .val (.int (3 : Int32)), .unset, .unset, .unset, .unset, .unset, .unset] [(.ref b34)])
    refine GlW.st (fun _ kk => XS.dup X34.here hx rfl (hb hby at_103) rfl rfl kk) ?_
    show GlW Z consts_1 p e below s _ _ _ T34 (mkF m 104 #[.val (.int p1), .val (.int p2), .val (.int p3), .val (.int p4), .val (.int p5), .val (.int ((p3 &&& (255 : Int32)).toUInt32.toUInt16.toUInt32.toInt32)), .val (.int ((p4 &&& (255 : Int32)).toUInt32.toUInt16.toUInt32.toInt32)), .val (.int ((p5 &&& (255 : Int32)).toUInt32.toUInt16.toUInt32.toInt32)), .val (.int (3 : Int32)), .unset, .unset, .unset, .unset, .unset, .unset] [(.ref b34), (.ref b34)])
    refine GlW.st (fun _ kk => XS.iconst X34.here hx rfl (hb hby at_104) kk) ?_
    show GlW Z consts_1 p e below s _ _ _ T34 (mkF m 105 #[.val (.int p1), .val (.int p2), .val (.int p3), .val (.int p4), .val (.int p5), .val (.int ((p3 &&& (255 : Int32)).toUInt32.toUInt16.toUInt32.toInt32)), .val (.int ((p4 &&& (255 : Int32)).toUInt32.toUInt16.toUInt32.toInt32)), .val (.int ((p5 &&& (255 : Int32)).toUInt32.toUInt16.toUInt32.toInt32)), .val (.int (3 : Int32)), .unset, .unset, .unset, .unset, .unset, .unset] [(.int (3 : Int32)), (.ref b34), (.ref b34)])
    obtain ⟨T35, h35, ka35, X35, e35, E35, A35, st35⟩ := newP X34 hx hZ (hw _ (List.mem_of_getElem? (i := 4) rfl)) e34 (g := (mkF m 105 #[.val (.int p1), .val (.int p2), .val (.int p3), .val (.int p4), .val (.int p5), .val (.int ((p3 &&& (255 : Int32)).toUInt32.toUInt16.toUInt32.toInt32)), .val (.int ((p4 &&& (255 : Int32)).toUInt32.toUInt16.toUInt32.toInt32)), .val (.int ((p5 &&& (255 : Int32)).toUInt32.toUInt16.toUInt32.toInt32)), .val (.int (3 : Int32)), .unset, .unset, .unset, .unset, .unset, .unset] [(.int (3 : Int32)), (.ref b34), (.ref b34)])) rfl (hb hby at_105) rfl (by decide) (cap := 3) (by decide) (by decide) (by decide) (by decide)
    obtain ⟨b35, g35⟩ : ∃ z, z = h34.size := ⟨_, rfl⟩
    rw [← g35] at A35 st35
    refine GlW.st st35 ?_
    have ne_b34_b35 : b34 ≠ b35 := Nat.ne_of_lt (Nat.lt_of_lt_of_eq Exa_b34.lt g35.symm)
    have ge_b35 : n0 ≤ b35 := Nat.le_trans (Nat.le_trans (Nat.le_of_eq O34.1.symm) O34.2.1) (Nat.le_of_eq g35.symm)
    have fr_b35 : h0.size ≤ b35 := Nat.le_trans K34.1 (Nat.le_of_eq g35.symm)
    replace Sf_b34 := Safe.ext E35 HC34.1 Sf_b34
    have HC35 := HC34.trans (CHr.ext E35 HC34.1)
    have hk35 := Nat.le_trans hk34 E35.1
    replace Exa_b34 := Exa_b34.ext E35
    replace F_coder_b34 := F_coder_b34.ext E35
    replace F_value_b34 := F_value_b34.ext E35
    have O35 := O34.ext E35
    have K35 := K34.ext E35
    have Arv_b35 : Arv Z h35 b35 ka35 .char (3 : Int32) [(.int (0 : Int32)), (.int (0 : Int32)), (.int (0 : Int32))] (.int (0 : Int32)) := (Arv.new A35 (by decide)).pad (pad_rep [] (.int (0 : Int32)) 3)
    show GlW Z consts_1 p e below s _ _ _ T35 (mkF m 107 #[.val (.int p1), .val (.int p2), .val (.int p3), .val (.int p4), .val (.int p5), .val (.int ((p3 &&& (255 : Int32)).toUInt32.toUInt16.toUInt32.toInt32)), .val (.int ((p4 &&& (255 : Int32)).toUInt32.toUInt16.toUInt32.toInt32)), .val (.int ((p5 &&& (255 : Int32)).toUInt32.toUInt16.toUInt32.toInt32)), .val (.int (3 : Int32)), .unset, .unset, .unset, .unset, .unset, .unset] [(.ref b35), (.ref b34), (.ref b34)])
    refine GlW.st (fun _ kk => XS.dup X35.here hx rfl (hb hby at_107) rfl rfl kk) ?_
    show GlW Z consts_1 p e below s _ _ _ T35 (mkF m 108 #[.val (.int p1), .val (.int p2), .val (.int p3), .val (.int p4), .val (.int p5), .val (.int ((p3 &&& (255 : Int32)).toUInt32.toUInt16.toUInt32.toInt32)), .val (.int ((p4 &&& (255 : Int32)).toUInt32.toUInt16.toUInt32.toInt32)), .val (.int ((p5 &&& (255 : Int32)).toUInt32.toUInt16.toUInt32.toInt32)), .val (.int (3 : Int32)), .unset, .unset, .unset, .unset, .unset, .unset] [(.ref b35), (.ref b35), (.ref b34), (.ref b34)])
    refine GlW.st (fun _ kk => XS.iconst X35.here hx rfl (hb hby at_108) kk) ?_
    show GlW Z consts_1 p e below s _ _ _ T35 (mkF m 109 #[.val (.int p1), .val (.int p2), .val (.int p3), .val (.int p4), .val (.int p5), .val (.int ((p3 &&& (255 : Int32)).toUInt32.toUInt16.toUInt32.toInt32)), .val (.int ((p4 &&& (255 : Int32)).toUInt32.toUInt16.toUInt32.toInt32)), .val (.int ((p5 &&& (255 : Int32)).toUInt32.toUInt16.toUInt32.toInt32)), .val (.int (3 : Int32)), .unset, .unset, .unset, .unset, .unset, .unset] [(.int (0 : Int32)), (.ref b35), (.ref b35), (.ref b34), (.ref b34)])
    refine GlW.st (fun _ kk => XS.iload X35.here hx rfl (hb hby at_109) rfl kk) ?_
    show GlW Z consts_1 p e below s _ _ _ T35 (mkF m 111 #[.val (.int p1), .val (.int p2), .val (.int p3), .val (.int p4), .val (.int p5), .val (.int ((p3 &&& (255 : Int32)).toUInt32.toUInt16.toUInt32.toInt32)), .val (.int ((p4 &&& (255 : Int32)).toUInt32.toUInt16.toUInt32.toInt32)), .val (.int ((p5 &&& (255 : Int32)).toUInt32.toUInt16.toUInt32.toInt32)), .val (.int (3 : Int32)), .unset, .unset, .unset, .unset, .unset, .unset] [(.int ((p3 &&& (255 : Int32)).toUInt32.toUInt16.toUInt32.toInt32)), (.int (0 : Int32)), (.ref b35), (.ref b35), (.ref b34), (.ref b34)])
    obtain ⟨cl36, Ar36, q36, Sz36, Ng36, Ha36, Fi36⟩ := id Arv_b35
    have hin36 : ¬ ((0 : Int32) < 0 ∨ cl36.slots.size ≤ ((0 : Int32)).toNatClampNeg) := inb_of Sz36 ⟨by decide, by decide⟩
    obtain ⟨T36, h36, X36, e36, W36, st36⟩ := stC X35 hx hZ e35 Ar36 (j := (0 : Int32)) hin36 (g := (mkF m 111 #[.val (.int p1), .val (.int p2), .val (.int p3), .val (.int p4), .val (.int p5), .val (.int ((p3 &&& (255 : Int32)).toUInt32.toUInt16.toUInt32.toInt32)), .val (.int ((p4 &&& (255 : Int32)).toUInt32.toUInt16.toUInt32.toInt32)), .val (.int ((p5 &&& (255 : Int32)).toUInt32.toUInt16.toUInt32.toInt32)), .val (.int (3 : Int32)), .unset, .unset, .unset, .unset, .unset, .unset] [(.int ((p3 &&& (255 : Int32)).toUInt32.toUInt16.toUInt32.toInt32)), (.int (0 : Int32)), (.ref b35), (.ref b35), (.ref b34), (.ref b34)])) rfl rfl (hb hby at_111)
    refine GlW.st st36 ?_
    replace Arv_b35 : Arv Z h36 b35 ka35 .char (3 : Int32) [(.int (nar .char ((p3 &&& (255 : Int32)).toUInt32.toUInt16.toUInt32.toInt32))), (.int (0 : Int32)), (.int (0 : Int32))] (.int (0 : Int32)) := Arv.set Ar36 q36 Sz36 Ng36 Ha36 Fi36 (fits_nar_char _) W36 0 rfl (Nat.le_of_ble_eq_true rfl)
    have sfw36 := (show Safe Z consts_1 s.vm h35 b35 from Safe.arr hZ.alike Ar36 (by decide))
    replace Sf_b34 := Safe.wr W36 sfw36 HC35.1 Sf_b34
    have HC36 := HC35.trans (CHr.wr W36 sfw36 HC35.1)
    have hk36 := Nat.le_trans hk35 (Nat.le_of_eq W36.size.symm)
    replace Exa_b34 := Exa_b34.wr W36
    replace F_coder_b34 := F_coder_b34.other W36 (Or.inl ne_b34_b35)
    replace F_value_b34 := F_value_b34.other W36 (Or.inl ne_b34_b35)
    have O36 := O35.wr W36 ge_b35
    have K36 := K35.wr W36 (Or.inr fr_b35)
    have N36 := Fr.snoc X36 N0 ge_b35
    clear st36 W36 hin36 Fi36 Ha36 Ng36 Sz36 q36 Ar36 cl36 sfw36
    clear O35 K35 HC35 hk35 X35 e35
    show GlW Z consts_1 p e below s _ _ _ T36 (mkF m 112 #[.val (.int p1), .val (.int p2), .val (.int p3), .val (.int p4), .val (.int p5), .val (.int ((p3 &&& (255 : Int32)).toUInt32.toUInt16.toUInt32.toInt32)), .val (.int ((p4 &&& (255 : Int32)).toUInt32.toUInt16.toUInt32.toInt32)), .val (.int ((p5 &&& (255 : Int32)).toUInt32.toUInt16.toUInt32.toInt32)), .val (.int (3 : Int32)), .unset, .unset, .unset, .unset, .unset, .unset] [(.ref b35), (.ref b34), (.ref b34)])
    refine GlW.st (fun _ kk => XS.dup X36.here hx rfl (hb hby at_112) rfl rfl kk) ?_
    show GlW Z consts_1 p e below s _ _ _ T36 (mkF m 113 #[.val (.int p1), .val (.int p2), .val (.int p3), .val (.int p4), .val (.int p5), .val (.int ((p3 &&& (255 : Int32)).toUInt32.toUInt16.toUInt32.toInt32)), .val (.int ((p4 &&& (255 : Int32)).toUInt32.toUInt16.toUInt32.toInt32)), .val (.int ((p5 &&& (255 : Int32)).toUInt32.toUInt16.toUInt32.toInt32)), .val (.int (3 : Int32)), .unset, .unset, .unset, .unset, .unset, .unset] [(.ref b35), (.ref b35), (.ref b34), (.ref b34)])
    refine GlW.st (fun _ kk => XS.iconst X36.here hx rfl (hb hby at_113) kk) ?_
    show GlW Z consts_1 p e below s _ _ _ T36 (mkF m 114 #[.val (.int p1), .val (.int p2), .val (.int p3), .val (.int p4), .val (.int p5), .val (.int ((p3 &&& (255 : Int32)).toUInt32.toUInt16.toUInt32.toInt32)), .val (.int ((p4 &&& (255 : Int32)).toUInt32.toUInt16.toUInt32.toInt32)), .val (.int ((p5 &&& (255 : Int32)).toUInt32.toUInt16.toUInt32.toInt32)), .val (.int (3 : Int32)), .unset, .unset, .unset, .unset, .unset, .unset] [(.int (1 : Int32)), (.ref b35), (.ref b35), (.ref b34), (.ref b34)])
    refine GlW.st (fun _ kk => XS.iload X36.here hx rfl (hb hby at_114) rfl kk) ?_
    show GlW Z consts_1 p e below s _ _ _ T36 (mkF m 116 #[.val (.int p1), .val (.int p2), .val (.int p3), .val (.int p4), .val (.int p5), .val (.int ((p3 &&& (255 : Int32)).toUInt32.toUInt16.toUInt32.toInt32)), .val (.int ((p4 &&& (255 : Int32)).toUInt32.toUInt16.toUInt32.toInt32)), .val (.int ((p5 &&& (255 : Int32)).toUInt32.toUInt16.toUInt32.toInt32)), .val (.int (3 : Int32)), .unset, .unset, .unset, .unset, .unset, .unset] [(.int ((p4 &&& (255 : Int32)).toUInt32.toUInt16.toUInt32.toInt32)), (.int (1 : Int32)), (.ref b35), (.ref b35), (.ref b34), (.ref b34)])
    obtain ⟨cl37, Ar37, q37, Sz37, Ng37, Ha37, Fi37⟩ := id Arv_b35
    have hin37 : ¬ ((1 : Int32) < 0 ∨ cl37.slots.size ≤ ((1 : Int32)).toNatClampNeg) := inb_of Sz37 ⟨by decide, by decide⟩
    obtain ⟨T37, h37, X37, e37, W37, st37⟩ := stC X36 hx hZ e36 Ar37 (j := (1 : Int32)) hin37 (g := (mkF m 116 #[.val (.int p1), .val (.int p2), .val (.int p3), .val (.int p4), .val (.int p5), .val (.int ((p3 &&& (255 : Int32)).toUInt32.toUInt16.toUInt32.toInt32)), .val (.int ((p4 &&& (255 : Int32)).toUInt32.toUInt16.toUInt32.toInt32)), .val (.int ((p5 &&& (255 : Int32)).toUInt32.toUInt16.toUInt32.toInt32)), .val (.int (3 : Int32)), .unset, .unset, .unset, .unset, .unset, .unset] [(.int ((p4 &&& (255 : Int32)).toUInt32.toUInt16.toUInt32.toInt32)), (.int (1 : Int32)), (.ref b35), (.ref b35), (.ref b34), (.ref b34)])) rfl rfl (hb hby at_116)
    refine GlW.st st37 ?_
    replace Arv_b35 : Arv Z h37 b35 ka35 .char (3 : Int32) [(.int (nar .char ((p3 &&& (255 : Int32)).toUInt32.toUInt16.toUInt32.toInt32))), (.int (nar .char ((p4 &&& (255 : Int32)).toUInt32.toUInt16.toUInt32.toInt32))), (.int (0 : Int32))] (.int (0 : Int32)) := Arv.set Ar37 q37 Sz37 Ng37 Ha37 Fi37 (fits_nar_char _) W37 1 rfl (Nat.le_of_ble_eq_true rfl)
    have sfw37 := (show Safe Z consts_1 s.vm h36 b35 from Safe.arr hZ.alike Ar37 (by decide))
    replace Sf_b34 := Safe.wr W37 sfw37 HC36.1 Sf_b34
    have HC37 := HC36.trans (CHr.wr W37 sfw37 HC36.1)
    have hk37 := Nat.le_trans hk36 (Nat.le_of_eq W37.size.symm)
    replace Exa_b34 := Exa_b34.wr W37
    replace F_coder_b34 := F_coder_b34.other W37 (Or.inl ne_b34_b35)
    replace F_value_b34 := F_value_b34.other W37 (Or.inl ne_b34_b35)
    have O37 := O36.wr W37 ge_b35
    have K37 := K36.wr W37 (Or.inr fr_b35)
    have N37 := Fr.snoc X37 N36 ge_b35
    clear st37 W37 hin37 Fi37 Ha37 Ng37 Sz37 q37 Ar37 cl37 sfw37
    clear O36 K36 N36 HC36 hk36 X36 e36
    show GlW Z consts_1 p e below s _ _ _ T37 (mkF m 117 #[.val (.int p1), .val (.int p2), .val (.int p3), .val (.int p4), .val (.int p5), .val (.int ((p3 &&& (255 : Int32)).toUInt32.toUInt16.toUInt32.toInt32)), .val (.int ((p4 &&& (255 : Int32)).toUInt32.toUInt16.toUInt32.toInt32)), .val (.int ((p5 &&& (255 : Int32)).toUInt32.toUInt16.toUInt32.toInt32)), .val (.int (3 : Int32)), .unset, .unset, .unset, .unset, .unset, .unset] [(.ref b35), (.ref b34), (.ref b34)])
    refine GlW.st (fun _ kk => XS.dup X37.here hx rfl (hb hby at_117) rfl rfl kk) ?_
    show GlW Z consts_1 p e below s _ _ _ T37 (mkF m 118 #[.val (.int p1), .val (.int p2), .val (.int p3), .val (.int p4), .val (.int p5), .val (.int ((p3 &&& (255 : Int32)).toUInt32.toUInt16.toUInt32.toInt32)), .val (.int ((p4 &&& (255 : Int32)).toUInt32.toUInt16.toUInt32.toInt32)), .val (.int ((p5 &&& (255 : Int32)).toUInt32.toUInt16.toUInt32.toInt32)), .val (.int (3 : Int32)), .unset, .unset, .unset, .unset, .unset, .unset] [(.ref b35), (.ref b35), (.ref b34), (.ref b34)])
    refine GlW.st (fun _ kk => XS.iconst X37.here hx rfl (hb hby at_118) kk) ?_
    show GlW Z consts_1 p e below s _ _ _ T37 (mkF m 119 #[.val (.int p1), .val (.int p2), .val (.int p3), .val (.int p4), .val (.int p5), .val (.int ((p3 &&& (255 : Int32)).toUInt32.toUInt16.toUInt32.toInt32)), .val (.int ((p4 &&& (255 : Int32)).toUInt32.toUInt16.toUInt32.toInt32)), .val (.int ((p5 &&& (255 : Int32)).toUInt32.toUInt16.toUInt32.toInt32)), .val (.int (3 : Int32)), .unset, .unset, .unset, .unset, .unset, .unset] [(.int (2 : Int32)), (.ref b35), (.ref b35), (.ref b34), (.ref b34)])
    refine GlW.st (fun _ kk => XS.iload X37.here hx rfl (hb hby at_119) rfl kk) ?_
    show GlW Z consts_1 p e below s _ _ _ T37 (mkF m 121 #[.val (.int p1), .val (.int p2), .val (.int p3), .val (.int p4), .val (.int p5), .val (.int ((p3 &&& (255 : Int32)).toUInt32.toUInt16.toUInt32.toInt32)), .val (.int ((p4 &&& (255 : Int32)).toUInt32.toUInt16.toUInt32.toInt32)), .val (.int ((p5 &&& (255 : Int32)).toUInt32.toUInt16.toUInt32.toInt32)), .val (.int (3 : Int32)), .unset, .unset, .unset, .unset, .unset, .unset] [(.int ((p5 &&& (255 : Int32)).toUInt32.toUInt16.toUInt32.toInt32)), (.int (2 : Int32)), (.ref b35), (.ref b35), (.ref b34), (.ref b34)])
    obtain ⟨cl38, Ar38, q38, Sz38, Ng38, Ha38, Fi38⟩ := id Arv_b35
    have hin38 : ¬ ((2 : Int32) < 0 ∨ cl38.slots.size ≤ ((2 : Int32)).toNatClampNeg) := inb_of Sz38 ⟨by decide, by decide⟩
    obtain ⟨T38, h38, X38, e38, W38, st38⟩ := stC X37 hx hZ e37 Ar38 (j := (2 : Int32)) hin38 (g := (mkF m 121 #[.val (.int p1), .val (.int p2), .val (.int p3), .val (.int p4), .val (.int p5), .val (.int ((p3 &&& (255 : Int32)).toUInt32.toUInt16.toUInt32.toInt32)), .val (.int ((p4 &&& (255 : Int32)).toUInt32.toUInt16.toUInt32.toInt32)), .val (.int ((p5 &&& (255 : Int32)).toUInt32.toUInt16.toUInt32.toInt32)), .val (.int (3 : Int32)), .unset, .unset, .unset, .unset, .unset, .unset] [(.int ((p5 &&& (255 : Int32)).toUInt32.toUInt16.toUInt32.toInt32)), (.int (2 : Int32)), (.ref b35), (.ref b35), (.ref b34), (.ref b34)])) rfl rfl (hb hby at_121)
    refine GlW.st st38 ?_
    replace Arv_b35 : Arv Z h38 b35 ka35 .char (3 : Int32) [(.int (nar .char ((p3 &&& (255 : Int32)).toUInt32.toUInt16.toUInt32.toInt32))), (.int (nar .char ((p4 &&& (255 : Int32)).toUInt32.toUInt16.toUInt32.toInt32))), (.int (nar .char ((p5 &&& (255 : Int32)).toUInt32.toUInt16.toUInt32.toInt32)))] (.int (0 : Int32)) := Arv.set Ar38 q38 Sz38 Ng38 Ha38 Fi38 (fits_nar_char _) W38 2 rfl (Nat.le_of_ble_eq_true rfl)
    have sfw38 := (show Safe Z consts_1 s.vm h37 b35 from Safe.arr hZ.alike Ar38 (by decide))
    replace Sf_b34 := Safe.wr W38 sfw38 HC37.1 Sf_b34
    have HC38 := HC37.trans (CHr.wr W38 sfw38 HC37.1)
    have hk38 := Nat.le_trans hk37 (Nat.le_of_eq W38.size.symm)
    replace Exa_b34 := Exa_b34.wr W38
    replace F_coder_b34 := F_coder_b34.other W38 (Or.inl ne_b34_b35)
    replace F_value_b34 := F_value_b34.other W38 (Or.inl ne_b34_b35)
    have O38 := O37.wr W38 ge_b35
    have K38 := K37.wr W38 (Or.inr fr_b35)
    have N38 := Fr.snoc X38 N37 ge_b35
    clear st38 W38 hin38 Fi38 Ha38 Ng38 Sz38 q38 Ar38 cl38 sfw38
    clear O37 K37 N37 HC37 hk37 X37 e37
    show GlW Z consts_1 p e below s _ _ _ T38 (mkF m 122 #[.val (.int p1), .val (.int p2), .val (.int p3), .val (.int p4), .val (.int p5), .val (.int ((p3 &&& (255 : Int32)).toUInt32.toUInt16.toUInt32.toInt32)), .val (.int ((p4 &&& (255 : Int32)).toUInt32.toUInt16.toUInt32.toInt32)), .val (.int ((p5 &&& (255 : Int32)).toUInt32.toUInt16.toUInt32.toInt32)), .val (.int (3 : Int32)), .unset, .unset, .unset, .unset, .unset, .unset] [(.ref b35), (.ref b34), (.ref b34)])
    have hlat39 : ∀ c ∈ ([(nar .char ((p3 &&& (255 : Int32)).toUInt32.toUInt16.toUInt32.toInt32)), (nar .char ((p4 &&& (255 : Int32)).toUInt32.toUInt16.toUInt32.toInt32)), (nar .char ((p5 &&& (255 : Int32)).toUInt32.toUInt16.toUInt32.toInt32))] : List Int32), ¬ c < 0 ∧ ¬ (255 : Int32) < c := by
      intro c hc
      simp only [List.mem_cons, List.not_mem_nil, or_false] at hc
      rcases hc with rfl | rfl | rfl
      · rw [own_nar255]; exact own_and255 _
      · rw [own_nar255]; exact own_and255 _
      · rw [own_nar255]; exact own_and255 _
    obtain ⟨v40, _, ⟨T40, L40, kQ40, nQ40⟩, -, X40, ⟨Lc40, hQ40, l40, y40, z40⟩, st40⟩ := X38.specialBack hx (y := (⟨"java/lang/String", "<init>", "([C)V"⟩ : MethodName)) rfl hown (mvT hZ (hw _ (List.mem_of_getElem? (i := 5) rfl))) (mvT hZ (hw _ (List.mem_of_getElem? (i := 6) rfl))) (mvT hZ (hw _ (List.mem_of_getElem? (i := 7) rfl))) (by decide) (StrChars.Road.backV (W := 1) (s := (s.setVm s.vm)) hZ hws (kI := 4) (hw _ (List.mem_of_getElem? (i := 2) rfl)) (cs := [(nar .char ((p3 &&& (255 : Int32)).toUInt32.toUInt16.toUInt32.toInt32)), (nar .char ((p4 &&& (255 : Int32)).toUInt32.toUInt16.toUInt32.toInt32)), (nar .char ((p5 &&& (255 : Int32)).toUInt32.toUInt16.toUInt32.toInt32))]) (bs := [((nar .char ((p3 &&& (255 : Int32)).toUInt32.toUInt16.toUInt32.toInt32))).toInt8.toInt32, ((nar .char ((p4 &&& (255 : Int32)).toUInt32.toUInt16.toUInt32.toInt32))).toInt8.toInt32, ((nar .char ((p5 &&& (255 : Int32)).toUInt32.toUInt16.toUInt32.toInt32))).toInt8.toInt32]) (n := 3) ge_b34 (Nat.le_trans (Nat.le_of_eq O38.1.symm) O38.2.1) Exa_b34 F_value_b34 F_coder_b34 Arv_b35 (S_COMPACT.ext O38.2) hcz rfl rfl (by decide) (by decide) hlat39 rfl (by decide) (by decide)) (g := (mkF m 122 #[.val (.int p1), .val (.int p2), .val (.int p3), .val (.int p4), .val (.int p5), .val (.int ((p3 &&& (255 : Int32)).toUInt32.toUInt16.toUInt32.toInt32)), .val (.int ((p4 &&& (255 : Int32)).toUInt32.toUInt16.toUInt32.toInt32)), .val (.int ((p5 &&& (255 : Int32)).toUInt32.toUInt16.toUInt32.toInt32)), .val (.int (3 : Int32)), .unset, .unset, .unset, .unset, .unset, .unset] [(.ref b35), (.ref b34), (.ref b34)])) rfl (by rw [hml]; rfl) (Steps.refl _) (a := b34) (argsL := [(.ref b35)]) (rest := [(.ref b34)]) (lenOf pd_rm0_5 rfl) rfl (by show 2 * 0 + _ ≤ _; exact Nat.le_of_eq rfl) (hb hby at_122) (fun _ _ => ⟨rfl, e38, (by decide : 2 + 1 ≤ _), (by decide : 7 + 3 ≤ _)⟩)
    dsimp only [Pt.U, Pt.locs, Pt.cells, Pt.slots] at X40 l40 y40 z40 st40 hQ40
    subst y40 z40
    obtain ⟨h40, e40⟩ : ∃ z, T40.heap = z := ⟨_, rfl⟩
    rw [e40] at hQ40
    obtain ⟨rfl, Nq40, Kq40, Eq40, Cq40, t40, kb40, gt40, fr_t40, ne_t40, Fq40, Aq40⟩ := hQ40
    have N40 : Fr n0 L40 := l40 ▸ Fr.app N38 Nq40
    refine GlW.st (fun _ kk => st40.trans kk) ?_
    have sfk40 : ∀ x ∈ [b34], Safe Z consts_1 _ _ x := (allS Sf_b34 all0)
    replace Sf_b34 := Safe.keep Kq40 sfk40 HC38.1 Sf_b34
    have HC40 := HC38.trans (CHr.keep Kq40 sfk40 HC38.1)
    have hk40 := Nat.le_trans hk38 Kq40.1
    replace Exa_b34 := Exa_b34.keep Kq40
    replace Arv_b35 := Arv_b35.keep Kq40 (ninS (Ne.symm ne_b34_b35) nin0)
    have O40 := O38.keep Kq40 (allS ge_b34 all0)
    have K40 := K38.trans Kq40 (allS (Or.inr fr_b34) all0)
    have F_coder_b34 := Cq40
    have F_value_b34 := Fq40
    have Arv_t40 := Aq40
    clear st40
    clear O38 K38 N38 HC38 hk38 X38 e38
    show GlW Z consts_1 p e below s _ _ _ T40 (mkF m 125 #[.val (.int p1), .val (.int p2), .val (.int p3), .val (.int p4), .val (.int p5), .val (.int ((p3 &&& (255 : Int32)).toUInt32.toUInt16.toUInt32.toInt32)), .val (.int ((p4 &&& (255 : Int32)).toUInt32.toUInt16.toUInt32.toInt32)), .val (.int ((p5 &&& (255 : Int32)).toUInt32.toUInt16.toUInt32.toInt32)), .val (.int (3 : Int32)), .unset, .unset, .unset, .unset, .unset, .unset] [(.ref b34)])
    refine GlW.st (fun _ kk => XS.astore X40.here hx rfl (hb hby at_125) rfl rfl (l' := #[.val (.int p1), .val (.int p2), .val (.int p3), .val (.int p4), .val (.int p5), .val (.int ((p3 &&& (255 : Int32)).toUInt32.toUInt16.toUInt32.toInt32)), .val (.int ((p4 &&& (255 : Int32)).toUInt32.toUInt16.toUInt32.toInt32)), .val (.int ((p5 &&& (255 : Int32)).toUInt32.toUInt16.toUInt32.toInt32)), .val (.int (3 : Int32)), .val (.ref b34), .unset, .unset, .unset, .unset, .unset]) rfl kk) ?_
    show GlW Z consts_1 p e below s _ _ _ T40 (mkF m 127 #[.val (.int p1), .val (.int p2), .val (.int p3), .val (.int p4), .val (.int p5), .val (.int ((p3 &&& (255 : Int32)).toUInt32.toUInt16.toUInt32.toInt32)), .val (.int ((p4 &&& (255 : Int32)).toUInt32.toUInt16.toUInt32.toInt32)), .val (.int ((p5 &&& (255 : Int32)).toUInt32.toUInt16.toUInt32.toInt32)), .val (.int (3 : Int32)), .val (.ref b34), .unset, .unset, .unset, .unset, .unset] [])
    exact join127 b34 (3 : Int32)  _ _ _ _ _ (Gl.wider X40 (by decide) (by decide)) e40 N40 O40 K40 hS0 hk40 hZ hown HC40  Exa_b34
set_option maxRecDepth 65536 in
set_option maxHeartbeats 40000000 in
theorem comes_1 {Post : Tables → Env → Array Value → State → Outcome → State → Prop} (hpost : ∀ tb e args s v u, (limb_1_1.after args s (.returned v) u = true ∧ limb_1_2.after args s (.returned v) u = true ∧ True) → ReturnedEndW s (.returned v) u (Jvm.fieldLocs frame_1_writes args s ++ Jvm.arrayLocs frame_1_arrays args s ++ Jvm.staticLocs frame_1_statics s) 24 6656 → Post tb e args s (.returned v) u) :
    ArmFor flags0 classFile x code maxLocals ret World_1 tables_1 room_1 Calls_1 rest_1 Pre_1 Post := by
  intro l hfl _ _ p e ha hc hk s m args below hf hA hF happ hP
  obtain ⟨hcalls, hrest, hpre⟩ := hP
  obtain ⟨-, -, -, hnamed, -, -, -, hat⟩ := (Spec.applies_iff hf).mp happ
  obtain ⟨hg, hn⟩ := and_e (Cond.before_iff.mp (show (Jvm.Cond.and given_1 narrow_1).before args s = true from hpre))
  obtain ⟨g1a, g1b⟩ := and_e hg
  obtain ⟨g2a, g2b⟩ := and_e g1b
  obtain ⟨g3a, g3b⟩ := and_e g2b
  obtain ⟨g4a, g4b⟩ := and_e g3b
  obtain ⟨g5a, g5b⟩ := and_e g4b
  obtain ⟨w0, w1, w2, w3, w4, rfl⟩ : ∃ w0 w1 w2 w3 w4 : Value, args = #[w0, w1, w2, w3, w4] := by
    have hs : args.size = 5 := by simpa [Cond.value, given_1] using g1a
    obtain ⟨L⟩ := args
    match L, hs with
    | [w0, w1, w2, w3, w4], _ => exact ⟨w0, w1, w2, w3, w4, rfl⟩
  have hw := fun d (hd : d ∈ tables_1) => atoms_spec (ws := Jvm.Cond.code x code maxLocals ret :: tables_1) hat d (List.mem_cons_of_mem _ hd)
  have hfit : Fit s := fun {y c} hc i hi => by
    obtain ⟨ha, rfl⟩ := Array.getElem?_eq_some_iff.mp hc
    have q := List.all_eq_true.mp ((Array.all_eq_true_iff_forall_mem.mp hF) _ (Array.getElem_mem ha)) i (List.mem_range.mpr hi)
    simpa [Array.getElem?_eq_getElem hi] using q
  obtain ⟨hsets, hown0⟩ := atoms_of _ (rest_1_c_eq ▸ (show rest_1_c.before _ s = true from hrest))
  have hr0 := Cond.before_iff.mp hown0
  obtain ⟨i0, ei0⟩ := is_v g2a
  obtain rfl : w0 = (.int i0) := Option.some.inj ei0
  obtain ⟨i1, ei1⟩ := is_v g3a
  obtain rfl : w1 = (.int i1) := Option.some.inj ei1
  obtain ⟨i2, ei2⟩ := is_v g4a
  obtain rfl : w2 = (.int i2) := Option.some.inj ei2
  obtain ⟨i3, ei3⟩ := is_v g5a
  obtain rfl : w3 = (.int i3) := Option.some.inj ei3
  obtain ⟨i4, ei4⟩ := is_v g5b
  obtain rfl : w4 = (.int i4) := Option.some.inj ei4
  have ncz := not_v (Cond.before_iff.mp (hsets _ (List.mem_of_getElem? (i := 2) rfl)))
  obtain ⟨cz, ecz⟩ := is_v (Cond.before_iff.mp (hsets _ (List.mem_of_getElem? (i := 1) rfl)))
  have S_COMPACT : Sta s s.heap "java/lang/String" "COMPACT_STRINGS" "Z" (.int cz) := Sta.start ecz (Or.inl (hsets _ (List.mem_of_getElem? (i := 0) rfl)))
  have hcz : ¬ (cz = (0 : Int32)) := gotF (Cond.eq_ints ecz (Term.int_eval (0))) ncz
  have hl : l.stackTraces = true := by unfold Launch.stackTraces; rw [hfl]; decide
  have hTK := MethodsKnown_of_tablesKnown hcalls.2.1
  have hr2 := two_refs hfit (hw _ (List.mem_of_getElem? (i := 80) rfl)) (hw _ (List.mem_of_getElem? (i := 81) rfl))
  obtain ⟨uU, S_U⟩ := own_sta (hw _ (List.mem_of_getElem? (i := 49) rfl)) (hw _ (List.mem_of_getElem? (i := 80) rfl)) (hr2 _ (List.mem_of_getElem? (i := 0) rfl))
  obtain ⟨uS, S_S⟩ := own_sta (hw _ (List.mem_of_getElem? (i := 49) rfl)) (hw _ (List.mem_of_getElem? (i := 81) rfl)) (hr2 _ (List.mem_of_getElem? (i := 1) rfl))
  obtain ⟨n, o, h1, h2, h3, _, L, rfl, ⟨rfl, N⟩, -, hq⟩ := rm0 l s _ hw tables_1 i0 i1 i2 i3 i4 cz uU uS s.heap s.heap.size (Old.start s) S_COMPACT hcz hl hTK S_U S_S p e ha hc hk s m _ below hf ((Spec.applies_iff_loose hf).mp happ).1 ⟨rfl, State.Warmed39.refl s, rfl, CHv.start (own_EW hw) hcalls.2.2.1 (hsets _ (List.mem_of_getElem? (i := 2) rfl)) (hw _ (List.mem_of_getElem? (i := 20) rfl)) (hw _ (List.mem_of_getElem? (i := 2) rfl))⟩ (FramesKnown_of_framesKnown hcalls.1 hf)
  refine ⟨n, _, h1, h2, h3, hpost _ _ _ _ _ _ ⟨Cond.after_iff.mpr rfl, Cond.after_iff.mpr (eq_i res_at (Term.int_eval (1)) rfl), trivial⟩ ⟨hq.1, hq.2.1, hq.2.2.1, (hq.2.2.2.sift fun y hy => Or.inr (N y hy)).mono (by decide) (by decide)⟩⟩
theorem main_1_1 : Claimed_1_1 := comes_1 fun _ _ _ _ _ _ h hF => ⟨h.1, hF⟩
theorem main_1_2 : Claimed_1_2 := comes_1 fun _ _ _ _ _ _ h hF => ⟨h.2.1, hF⟩
end Jvm.Pilot.@@N@@
namespace Jvm.Pilot.@@N@@
open Jvm Jvm.ClassFile Sem Op Lib Jvm.Free Jvm.Stand Jvm.Pilot.@@N@@.Jvm.D
/-! MADE BY PROGRAM (witnessworld.py) out of the Statement's table words and the real class files: 37 classes; the members and pool entries that the words name. The judged class is class 1, her method 1. -/
namespace start1
open Jvm.ClassFile
def u (s : String) : CpInfo := .utf8 (stringToUtf16 s)
/-- a pool by its gaps: so many unusable entries, then the entry; so many at the end -/
def gap : Nat → List CpInfo → List CpInfo
  | 0, r => r
  | n + 1, r => .unusable :: gap n r
def poolList (es : List (Nat × CpInfo)) (last : Nat) : List CpInfo := es.foldr (fun e r => gap e.1 (e.2 :: r)) (gap last [])
def pool (es : List (Nat × CpInfo)) (last : Nat) : Array CpInfo := ⟨poolList es last⟩
def fileOf (pool : Array CpInfo) (this : Nat) (attrs : Array Attribute := #[]) (ms : Array MethodInfo := #[]) (fl : Nat := 33) (sup : Nat := 0) (ifs : Array Nat := #[]) (fds : Array FieldInfo := #[]) : ClassFile where
  minorVersion := 0
  majorVersion := 65
  constantPool := pool
  accessFlags := fl
  thisClass := this
  superClass := sup
  interfaces := ifs
  fields := fds
  methods := ms
  attributes := attrs
def plain (name : String) (sup : Option ClassId) : Class where
  name := name
  kind := .ordinary
  loader := none
  accessFlags := 33
  super := sup
  interfaces := #[]
  cf := none
  fields := #[]
  methods := #[]
  instanceTypes := #[]
  staticTypes := #[]
  resolved := #[]
  callSites := []
  init := .initialized
  statics := none
  mirror := none

def pool0 : Array CpInfo := pool [(5, u "<init>"), (0, u "()V"), (1, .class_ 10), (1, u "java/lang/Object")] 113

def k0c0 : Code := { maxStack := 0, maxLocals := 1, code := object_method_1_code, exceptionTable := #[], attributes := #[] }
def k0m0 : Method := { name := "<init>", desc := "()V", sig := { parameters := [], returnType := none }, accessFlags := 1, code := some k0c0 }
/-- java/lang/Object -/
def k0 : Class := { plain "java/lang/Object" none with
  accessFlags := 33
  interfaces := #[]
  cf := some (fileOf pool0 8 #[] #[{ accessFlags := 1, nameIndex := 5, descriptorIndex := 6, attributes := #[] }] 33 0 #[] #[])
  fields := #[]
  methods := #[k0m0]
  instanceTypes := #[]
  staticTypes := #[]
  resolved := Array.replicate 124 none
  statics := none }

def pool1 : Array CpInfo := pool [(2, .class_ 4), (1, u "java/lang/Object"), (0, u "<init>"), (0, u "()V"), (0, .integer 2147483647), (0, .class_ 9), (0, u "java/lang/String"), (0, .methodref 8 11), (0, .nameAndType 5 12), (0, u "([C)V"), (0, .methodref 8 14), (0, .nameAndType 15 16), (0, u "valueOf"), (0, u "(C)Ljava/lang/String;"), (0, .class_ 18), (0, u "com/example/explain_locks/explainlocks/schema/RowFault"), (0, .class_ 20), (0, u "com/example/explain_locks/explainlocks/InvalidInputException"), (0, .methodref 19 22), (0, .nameAndType 5 23), (0, u "(Ljava/lang/String;)V"), (0, .methodref 17 25), (0, .nameAndType 5 26), (0, u "(Lcom/example/explain_locks/explainlocks/InvalidInputException;)V"), (0, .class_ 28), (0, u "com/example/explain_locks/explainlocks/UnsupportedInputException"), (0, .methodref 27 22), (0, .methodref 17 31), (0, .nameAndType 5 32), (0, u "(Lcom/example/explain_locks/explainlocks/UnsupportedInputException;)V"), (0, .methodref 17 34), (0, .nameAndType 35 36), (0, u "message"), (0, u "()Ljava/lang/String;"), (0, .methodref 8 38), (0, .nameAndType 39 40), (0, u "equals"), (0, u "(Ljava/lang/Object;)Z"), (0, .class_ 42), (0, u "com/example/explain_locks/explainlocks/schema/RowFaultMessagePinLaw"), (2, u "law"), (0, u "(IIIII)Z")] 3

def k1m0 : Method := { name := "<init>", desc := "()V", sig := { parameters := [], returnType := none }, accessFlags := 1, code := none }
def k1c1 : Code := { maxStack := 6, maxLocals := 15, code := code, exceptionTable := #[], attributes := #[] }
def k1m1 : Method := { name := "law", desc := "(IIIII)Z", sig := { parameters := [.int, .int, .int, .int, .int], returnType := some .boolean }, accessFlags := 9, code := some k1c1 }
/-- com/example/explain_locks/explainlocks/schema/RowFaultMessagePinLaw -/
def k1 : Class := { plain "com/example/explain_locks/explainlocks/schema/RowFaultMessagePinLaw" (some 0) with
  accessFlags := 49
  interfaces := #[]
  cf := some (fileOf pool1 41 #[] #[{ accessFlags := 1, nameIndex := 5, descriptorIndex := 6, attributes := #[] }, { accessFlags := 9, nameIndex := 45, descriptorIndex := 46, attributes := #[] }] 49 2 #[] #[])
  fields := #[]
  methods := #[k1m0, k1m1]
  instanceTypes := #[]
  staticTypes := #[]
  resolved := Array.replicate 50 none
  statics := none }

def pool2 : Array CpInfo := pool [(1, .class_ 2), (0, u "java/io/Serializable"), (0, .class_ 4), (0, u "java/lang/Object")] 2

/-- java/io/Serializable -/
def k2 : Class := { plain "java/io/Serializable" (some 0) with
  accessFlags := 1537
  interfaces := #[]
  cf := some (fileOf pool2 1 #[] #[] 1537 3 #[] #[])
  fields := #[]
  methods := #[]
  instanceTypes := #[]
  staticTypes := #[]
  resolved := Array.replicate 7 none
  statics := none }

def pool3 : Array CpInfo := pool [(1, .class_ 2), (0, u "java/lang/Comparable"), (0, .class_ 4), (0, u "java/lang/Object")] 7

/-- java/lang/Comparable -/
def k3 : Class := { plain "java/lang/Comparable" (some 0) with
  accessFlags := 1537
  interfaces := #[]
  cf := some (fileOf pool3 1 #[] #[] 1537 3 #[] #[])
  fields := #[]
  methods := #[]
  instanceTypes := #[]
  staticTypes := #[]
  resolved := Array.replicate 12 none
  statics := none }

def pool4 : Array CpInfo := pool [(2, .class_ 4), (1, u "java/lang/CharSequence"), (42, .class_ 48), (0, u "java/lang/CharSequence$1CodePointIterator"), (10, .class_ 60), (0, u "java/lang/CharSequence$1CharIterator"), (5, .class_ 67), (0, u "java/lang/Object")] 63

/-- java/lang/CharSequence -/
def k4 : Class := { plain "java/lang/CharSequence" (some 0) with
  accessFlags := 1537
  interfaces := #[]
  cf := some (fileOf pool4 2 #[.nestMembers #[47, 59]] #[] 1537 66 #[] #[])
  fields := #[]
  methods := #[]
  instanceTypes := #[]
  staticTypes := #[]
  resolved := Array.replicate 131 none
  statics := none }

def pool5 : Array CpInfo := pool [(1, .class_ 2), (0, u "java/lang/constant/Constable"), (0, .class_ 4), (0, u "java/lang/Object")] 6

/-- java/lang/constant/Constable -/
def k5 : Class := { plain "java/lang/constant/Constable" (some 0) with
  accessFlags := 1537
  interfaces := #[]
  cf := some (fileOf pool5 1 #[] #[] 1537 3 #[] #[])
  fields := #[]
  methods := #[]
  instanceTypes := #[]
  staticTypes := #[]
  resolved := Array.replicate 11 none
  statics := none }

def pool6 : Array CpInfo := pool [(1, .class_ 2), (0, u "java/lang/constant/ConstantDesc"), (0, .class_ 4), (0, u "java/lang/Object")] 32

/-- java/lang/constant/ConstantDesc -/
def k6 : Class := { plain "java/lang/constant/ConstantDesc" (some 0) with
  accessFlags := 1537
  interfaces := #[]
  cf := some (fileOf pool6 1 #[] #[] 1537 3 #[] #[])
  fields := #[]
  methods := #[]
  instanceTypes := #[]
  staticTypes := #[]
  resolved := Array.replicate 37 none
  statics := none }

def pool7 : Array CpInfo := pool [(1, .methodref 2 3), (0, .class_ 4), (0, .nameAndType 5 6), (0, u "java/lang/Object"), (0, u "<init>"), (0, u "()V"), (0, .string 8), (0, u ""), (0, .fieldref 10 11), (0, .class_ 12), (0, .nameAndType 13 14), (0, u "java/lang/String"), (0, u "value"), (0, u "[B"), (0, .fieldref 10 16), (0, .nameAndType 17 18), (0, u "coder"), (0, u "B"), (2, u "hash"), (0, u "I"), (2, u "hashIsZero"), (0, u "Z"), (0, .methodref 10 28), (0, .nameAndType 5 29), (0, u "([CIILjava/lang/Void;)V"), (8, .fieldref 10 39), (0, .nameAndType 40 26), (0, u "COMPACT_STRINGS"), (1, .class_ 44), (1, u "java/lang/StringUTF16"), (0, u "compress"), (1, .methodref 42 48), (0, .nameAndType 49 50), (0, u "coderFromArrayLen"), (0, u "([BI)B"), (2, u "toBytes"), (53, .class_ 109), (1, u "java/lang/StringLatin1"), (67, .methodref 42 178), (0, .nameAndType 45 179), (0, u "([CII)[B"), (29, .methodref 10 210), (0, .nameAndType 5 211), (0, u "([BB)V"), (157, u "(C)Z"), (173, u "equals"), (29, u "(Ljava/lang/Object;)Z"), (1, .class_ 576), (0, u "java/lang/CharSequence"), (22, u "CASE_INSENSITIVE_ORDER"), (0, u "Ljava/util/Comparator;"), (181, u "valueOf"), (0, u "(C)Ljava/lang/String;"), (226, u "([C)V"), (4, .methodref 107 1016), (0, .nameAndType 1017 369), (0, u "canEncode"), (0, .methodref 107 1019), (0, .nameAndType 53 1020), (0, u "(C)[B"), (80, u "serialPersistentFields"), (0, u "[Ljava/io/ObjectStreamField;"), (0, .class_ 1104), (0, u "java/lang/String$CaseInsensitiveComparator"), (1, .class_ 1107), (0, u "java/io/Serializable"), (0, .class_ 1109), (0, u "java/lang/Comparable"), (0, .class_ 1111), (0, u "java/lang/constant/Constable"), (0, .class_ 1113), (0, u "java/lang/constant/ConstantDesc"), (2, u "serialVersionUID"), (0, u "J"), (3, u "REPL"), (0, u "C"), (2, u "LATIN1"), (1, u "UTF16")] 323

def k7m0 : Method := { name := "<init>", desc := "()V", sig := { parameters := [], returnType := none }, accessFlags := 1, code := none }
def k7c1 : Code := { maxStack := 5, maxLocals := 2, code := jdk_42_method_3_code, exceptionTable := #[], attributes := #[] }
def k7m1 : Method := { name := "<init>", desc := "([C)V", sig := { parameters := [(.array .char)], returnType := none }, accessFlags := 1, code := some k7c1 }
def k7c2 : Code := { maxStack := 2, maxLocals := 3, code := jdk_42_method_66_code, exceptionTable := #[], attributes := #[] }
def k7m2 : Method := { name := "equals", desc := "(Ljava/lang/Object;)Z", sig := { parameters := [(.object "java/lang/Object")], returnType := some .boolean }, accessFlags := 1, code := some k7c2 }
def k7c3 : Code := { maxStack := 4, maxLocals := 1, code := jdk_42_method_139_code, exceptionTable := #[], attributes := #[] }
def k7m3 : Method := { name := "valueOf", desc := "(C)Ljava/lang/String;", sig := { parameters := [.char], returnType := some (.object "java/lang/String") }, accessFlags := 9, code := some k7c3 }
def k7c4 : Code := { maxStack := 4, maxLocals := 6, code := jdk_42_method_149_code, exceptionTable := #[], attributes := #[] }
def k7m4 : Method := { name := "<init>", desc := "([CIILjava/lang/Void;)V", sig := { parameters := [(.array .char), .int, .int, (.object "java/lang/Void")], returnType := none }, accessFlags := 2, code := some k7c4 }
def k7c5 : Code := { maxStack := 2, maxLocals := 3, code := jdk_42_method_151_code, exceptionTable := #[], attributes := #[] }
def k7m5 : Method := { name := "<init>", desc := "([BB)V", sig := { parameters := [(.array .byte), .byte], returnType := none }, accessFlags := 0, code := some k7c5 }
/-- java/lang/String -/
def k7 : Class := { plain "java/lang/String" (some 0) with
  accessFlags := 49
  interfaces := #[2, 3, 4, 5, 6]
  cf := some (fileOf pool7 10 #[.nestMembers #[1103]] #[{ accessFlags := 1, nameIndex := 5, descriptorIndex := 6, attributes := #[] }, { accessFlags := 1, nameIndex := 5, descriptorIndex := 1010, attributes := #[] }, { accessFlags := 1, nameIndex := 543, descriptorIndex := 573, attributes := #[] }, { accessFlags := 9, nameIndex := 782, descriptorIndex := 783, attributes := #[] }, { accessFlags := 2, nameIndex := 5, descriptorIndex := 29, attributes := #[] }, { accessFlags := 0, nameIndex := 5, descriptorIndex := 211, attributes := #[] }] 49 2 #[1106, 1108, 575, 1110, 1112] #[{ accessFlags := 18, nameIndex := 13, descriptorIndex := 14, attributes := #[] }, { accessFlags := 18, nameIndex := 17, descriptorIndex := 18, attributes := #[] }, { accessFlags := 2, nameIndex := 21, descriptorIndex := 22, attributes := #[] }, { accessFlags := 2, nameIndex := 25, descriptorIndex := 26, attributes := #[] }, { accessFlags := 26, nameIndex := 1116, descriptorIndex := 1117, attributes := #[] }, { accessFlags := 24, nameIndex := 40, descriptorIndex := 26, attributes := #[] }, { accessFlags := 26, nameIndex := 1101, descriptorIndex := 1102, attributes := #[] }, { accessFlags := 26, nameIndex := 1121, descriptorIndex := 1122, attributes := #[] }, { accessFlags := 25, nameIndex := 599, descriptorIndex := 600, attributes := #[] }, { accessFlags := 24, nameIndex := 1125, descriptorIndex := 18, attributes := #[] }, { accessFlags := 24, nameIndex := 1127, descriptorIndex := 18, attributes := #[] }])
  fields := #[{ name := "value", type := (.array .byte), accessFlags := 18, slot := 0, constantValue := 0 }, { name := "coder", type := .byte, accessFlags := 18, slot := 1, constantValue := 0 }, { name := "hash", type := .int, accessFlags := 2, slot := 2, constantValue := 0 }, { name := "hashIsZero", type := .boolean, accessFlags := 2, slot := 3, constantValue := 0 }, { name := "serialVersionUID", type := .long, accessFlags := 26, slot := 0, constantValue := 0 }, { name := "COMPACT_STRINGS", type := .boolean, accessFlags := 24, slot := 1, constantValue := 0 }, { name := "serialPersistentFields", type := (.array (.object "java/io/ObjectStreamField")), accessFlags := 26, slot := 2, constantValue := 0 }, { name := "REPL", type := .char, accessFlags := 26, slot := 3, constantValue := 0 }, { name := "CASE_INSENSITIVE_ORDER", type := (.object "java/util/Comparator"), accessFlags := 25, slot := 4, constantValue := 0 }, { name := "LATIN1", type := .byte, accessFlags := 24, slot := 5, constantValue := 0 }, { name := "UTF16", type := .byte, accessFlags := 24, slot := 6, constantValue := 0 }]
  methods := #[k7m0, k7m1, k7m2, k7m3, k7m4, k7m5]
  instanceTypes := #[(.array .byte), .byte, .int, .boolean]
  staticTypes := #[.long, .boolean, (.array (.object "java/io/ObjectStreamField")), .char, (.object "java/util/Comparator"), .byte, .byte]
  resolved := Array.replicate 1451 none
  statics := some 0 }

def pool8 : Array CpInfo := pool [(6, .class_ 8), (1, u "java/lang/Object"), (0, u "<init>"), (0, u "()V"), (1, .class_ 14), (1, u "java/lang/StringUTF16"), (31, u "$assertionsDisabled"), (0, u "Z"), (13, u "HI_BYTE_SHIFT"), (0, u "I"), (2, u "LO_BYTE_SHIFT"), (49, .methodref 12 116), (0, .nameAndType 117 118), (0, u "compress"), (0, u "([CI[BII)I"), (3, u "([CII)[B"), (138, u "coderFromArrayLen"), (0, u "([BI)B"), (106, .class_ 371), (1, u "java/lang/StringUTF16$LinesSpliterator"), (58, u "MAX_LENGTH"), (196, .class_ 628), (0, u "java/lang/StringUTF16$CodePointsSpliterator"), (0, .class_ 630), (0, u "java/lang/StringUTF16$CharsSpliterator")] 4

def k8m0 : Method := { name := "<init>", desc := "()V", sig := { parameters := [], returnType := none }, accessFlags := 0, code := none }
def k8c1 : Code := { maxStack := 2, maxLocals := 2, code := jdk_52_method_15_code, exceptionTable := #[], attributes := #[] }
def k8m1 : Method := { name := "coderFromArrayLen", desc := "([BI)B", sig := { parameters := [(.array .byte), .int], returnType := some .byte }, accessFlags := 8, code := some k8c1 }
def k8c2 : Code := { maxStack := 5, maxLocals := 6, code := jdk_52_method_16_code, exceptionTable := #[], attributes := #[] }
def k8m2 : Method := { name := "compress", desc := "([CII)[B", sig := { parameters := [(.array .char), .int, .int], returnType := some (.array .byte) }, accessFlags := 9, code := some k8c2 }
def k8c3 : Code := { maxStack := 3, maxLocals := 7, code := jdk_52_method_21_code, exceptionTable := #[], attributes := #[] }
def k8m3 : Method := { name := "compress", desc := "([CI[BII)I", sig := { parameters := [(.array .char), .int, (.array .byte), .int, .int], returnType := some .int }, accessFlags := 9, code := some k8c3 }
/-- java/lang/StringUTF16 -/
def k8 : Class := { plain "java/lang/StringUTF16" (some 0) with
  accessFlags := 48
  interfaces := #[]
  cf := some (fileOf pool8 12 #[.nestMembers #[627, 629, 369]] #[{ accessFlags := 0, nameIndex := 9, descriptorIndex := 10, attributes := #[] }, { accessFlags := 8, nameIndex := 261, descriptorIndex := 262, attributes := #[] }, { accessFlags := 9, nameIndex := 117, descriptorIndex := 122, attributes := #[] }, { accessFlags := 9, nameIndex := 117, descriptorIndex := 118, attributes := #[] }] 48 6 #[] #[{ accessFlags := 26, nameIndex := 61, descriptorIndex := 62, attributes := #[] }, { accessFlags := 26, nameIndex := 65, descriptorIndex := 62, attributes := #[] }, { accessFlags := 24, nameIndex := 430, descriptorIndex := 62, attributes := #[] }, { accessFlags := 4120, nameIndex := 46, descriptorIndex := 47, attributes := #[] }])
  fields := #[{ name := "HI_BYTE_SHIFT", type := .int, accessFlags := 26, slot := 0, constantValue := 0 }, { name := "LO_BYTE_SHIFT", type := .int, accessFlags := 26, slot := 1, constantValue := 0 }, { name := "MAX_LENGTH", type := .int, accessFlags := 24, slot := 2, constantValue := 0 }, { name := "$assertionsDisabled", type := .boolean, accessFlags := 4120, slot := 3, constantValue := 0 }]
  methods := #[k8m0, k8m1, k8m2, k8m3]
  instanceTypes := #[]
  staticTypes := #[.int, .int, .int, .boolean]
  resolved := Array.replicate 635 none
  statics := none }

def pool9 : Array CpInfo := pool [(1, .methodref 2 3), (0, .class_ 4), (0, .nameAndType 5 6), (0, u "java/lang/Object"), (0, u "<init>"), (0, u "()V"), (0, .fieldref 8 9), (0, .class_ 10), (0, .nameAndType 11 12), (0, u "com/example/explain_locks/explainlocks/schema/RowFault"), (0, u "invalid"), (0, u "Lcom/example/explain_locks/explainlocks/InvalidInputException;"), (0, .fieldref 8 14), (0, .nameAndType 15 16), (0, u "unsupported"), (0, u "Lcom/example/explain_locks/explainlocks/UnsupportedInputException;"), (0, .methodref 18 19), (0, .class_ 20), (0, .nameAndType 21 22), (0, u "com/example/explain_locks/explainlocks/InvalidInputException"), (0, u "getMessage"), (0, u "()Ljava/lang/String;"), (0, .methodref 24 19), (0, .class_ 25), (0, u "com/example/explain_locks/explainlocks/UnsupportedInputException"), (0, u "(Lcom/example/explain_locks/explainlocks/InvalidInputException;)V"), (2, u "(Lcom/example/explain_locks/explainlocks/UnsupportedInputException;)V"), (0, u "message")] 7

def k9c0 : Code := { maxStack := 2, maxLocals := 2, code := prog_19_method_1_code, exceptionTable := #[], attributes := #[] }
def k9m0 : Method := { name := "<init>", desc := "(Lcom/example/explain_locks/explainlocks/InvalidInputException;)V", sig := { parameters := [(.object "com/example/explain_locks/explainlocks/InvalidInputException")], returnType := none }, accessFlags := 0, code := some k9c0 }
def k9c1 : Code := { maxStack := 2, maxLocals := 2, code := prog_19_method_2_code, exceptionTable := #[], attributes := #[] }
def k9m1 : Method := { name := "<init>", desc := "(Lcom/example/explain_locks/explainlocks/UnsupportedInputException;)V", sig := { parameters := [(.object "com/example/explain_locks/explainlocks/UnsupportedInputException")], returnType := none }, accessFlags := 0, code := some k9c1 }
def k9c2 : Code := { maxStack := 1, maxLocals := 1, code := prog_19_method_3_code, exceptionTable := #[], attributes := #[] }
def k9m2 : Method := { name := "message", desc := "()Ljava/lang/String;", sig := { parameters := [], returnType := some (.object "java/lang/String") }, accessFlags := 0, code := some k9c2 }
/-- com/example/explain_locks/explainlocks/schema/RowFault -/
def k9 : Class := { plain "com/example/explain_locks/explainlocks/schema/RowFault" (some 0) with
  accessFlags := 48
  interfaces := #[]
  cf := some (fileOf pool9 8 #[] #[{ accessFlags := 0, nameIndex := 5, descriptorIndex := 26, attributes := #[] }, { accessFlags := 0, nameIndex := 5, descriptorIndex := 29, attributes := #[] }, { accessFlags := 0, nameIndex := 30, descriptorIndex := 22, attributes := #[] }] 48 2 #[] #[{ accessFlags := 18, nameIndex := 11, descriptorIndex := 12, attributes := #[] }, { accessFlags := 18, nameIndex := 15, descriptorIndex := 16, attributes := #[] }])
  fields := #[{ name := "invalid", type := (.object "com/example/explain_locks/explainlocks/InvalidInputException"), accessFlags := 18, slot := 0, constantValue := 0 }, { name := "unsupported", type := (.object "com/example/explain_locks/explainlocks/UnsupportedInputException"), accessFlags := 18, slot := 1, constantValue := 0 }]
  methods := #[k9m0, k9m1, k9m2]
  instanceTypes := #[(.object "com/example/explain_locks/explainlocks/InvalidInputException"), (.object "com/example/explain_locks/explainlocks/UnsupportedInputException")]
  staticTypes := #[]
  resolved := Array.replicate 38 none
  statics := none }

def pool10 : Array CpInfo := pool [(1, .methodref 2 3), (0, .class_ 4), (0, .nameAndType 5 6), (0, u "java/lang/Object"), (0, u "<init>"), (0, u "()V"), (0, .fieldref 8 9), (0, .class_ 10), (0, .nameAndType 11 12), (0, u "java/lang/Throwable"), (0, u "cause"), (0, u "Ljava/lang/Throwable;"), (0, .fieldref 8 14), (0, .nameAndType 15 16), (0, u "UNASSIGNED_STACK"), (0, u "[Ljava/lang/StackTraceElement;"), (0, .fieldref 8 18), (0, .nameAndType 19 16), (0, u "stackTrace"), (0, .fieldref 8 21), (0, .nameAndType 22 23), (0, u "SUPPRESSED_SENTINEL"), (0, u "Ljava/util/List;"), (0, .fieldref 8 25), (0, .nameAndType 26 23), (0, u "suppressedExceptions"), (0, .methodref 8 28), (0, .nameAndType 29 30), (0, u "fillInStackTrace"), (0, u "()Ljava/lang/Throwable;"), (0, .fieldref 8 32), (0, .nameAndType 33 34), (0, u "detailMessage"), (0, u "Ljava/lang/String;"), (3, u "()Ljava/lang/String;"), (2, u "getMessage"), (51, .class_ 94), (0, u "java/lang/Throwable$WrappedPrintStream"), (6, .class_ 103), (1, u "java/lang/Throwable$PrintStreamOrWriter"), (61, u "$assertionsDisabled"), (0, u "Z"), (26, .class_ 194), (0, u "java/lang/Throwable$WrappedPrintWriter"), (3, .fieldref 8 199), (0, .nameAndType 200 201), (0, u "backtrace"), (0, u "Ljava/lang/Object;"), (0, .methodref 8 203), (0, .nameAndType 29 204), (0, u "(I)Ljava/lang/Throwable;"), (6, u "depth"), (0, u "I"), (10, u "(Ljava/lang/String;)V"), (45, .class_ 271), (1, u "java/lang/Throwable$SentinelHolder"), (32, u "EMPTY_THROWABLE_ARRAY"), (0, u "[Ljava/lang/Throwable;"), (12, .class_ 319), (0, u "java/io/Serializable"), (0, u "serialVersionUID"), (0, u "J"), (5, u "NULL_CAUSE_MESSAGE"), (0, u "SELF_SUPPRESSION_MESSAGE"), (0, u "CAUSE_CAPTION"), (0, u "SUPPRESSED_CAPTION")] 73

def k10c0 : Code := { maxStack := 2, maxLocals := 1, code := jdk_78_method_1_code, exceptionTable := #[], attributes := #[] }
def k10m0 : Method := { name := "<init>", desc := "()V", sig := { parameters := [], returnType := none }, accessFlags := 1, code := some k10c0 }
def k10c1 : Code := { maxStack := 2, maxLocals := 2, code := jdk_78_method_2_code, exceptionTable := #[], attributes := #[] }
def k10m1 : Method := { name := "<init>", desc := "(Ljava/lang/String;)V", sig := { parameters := [(.object "java/lang/String")], returnType := none }, accessFlags := 1, code := some k10c1 }
def k10c2 : Code := { maxStack := 1, maxLocals := 1, code := jdk_78_method_6_code, exceptionTable := #[], attributes := #[] }
def k10m2 : Method := { name := "getMessage", desc := "()Ljava/lang/String;", sig := { parameters := [], returnType := some (.object "java/lang/String") }, accessFlags := 1, code := some k10c2 }
def k10c3 : Code := { maxStack := 2, maxLocals := 1, code := ⟨#[0x2a, 0xb4, 0x00, 0x11, 0xc7, 0x00, 0x0a, 0x2a, 0xb4, 0x00, 0xc6, 0xc6, 0x00, 0x10, 0x2a, 0x03, 0xb6, 0x00, 0xca, 0x57, 0x2a, 0xb2, 0x00, 0x0d, 0xb5, 0x00, 0x11, 0x2a, 0xb0]⟩, exceptionTable := #[], attributes := #[] }
def k10m3 : Method := { name := "fillInStackTrace", desc := "()Ljava/lang/Throwable;", sig := { parameters := [], returnType := some (.object "java/lang/Throwable") }, accessFlags := 33, code := some k10c3 }
def k10m4 : Method := { name := "fillInStackTrace", desc := "(I)Ljava/lang/Throwable;", sig := { parameters := [.int], returnType := some (.object "java/lang/Throwable") }, accessFlags := 258, code := none }
/-- java/lang/Throwable -/
def k10 : Class := { plain "java/lang/Throwable" (some 0) with
  accessFlags := 33
  interfaces := #[2]
  cf := some (fileOf pool10 8 #[.nestMembers #[193, 93, 101, 269]] #[{ accessFlags := 1, nameIndex := 5, descriptorIndex := 6, attributes := #[] }, { accessFlags := 1, nameIndex := 5, descriptorIndex := 223, attributes := #[] }, { accessFlags := 1, nameIndex := 41, descriptorIndex := 38, attributes := #[] }, { accessFlags := 33, nameIndex := 29, descriptorIndex := 30, attributes := #[] }, { accessFlags := 258, nameIndex := 29, descriptorIndex := 204, attributes := #[] }] 33 2 #[318] #[{ accessFlags := 26, nameIndex := 320, descriptorIndex := 321, attributes := #[] }, { accessFlags := 130, nameIndex := 200, descriptorIndex := 201, attributes := #[] }, { accessFlags := 2, nameIndex := 33, descriptorIndex := 34, attributes := #[] }, { accessFlags := 26, nameIndex := 15, descriptorIndex := 16, attributes := #[] }, { accessFlags := 2, nameIndex := 11, descriptorIndex := 12, attributes := #[] }, { accessFlags := 2, nameIndex := 19, descriptorIndex := 16, attributes := #[] }, { accessFlags := 130, nameIndex := 211, descriptorIndex := 212, attributes := #[] }, { accessFlags := 26, nameIndex := 22, descriptorIndex := 23, attributes := #[] }, { accessFlags := 2, nameIndex := 26, descriptorIndex := 23, attributes := #[] }, { accessFlags := 26, nameIndex := 327, descriptorIndex := 34, attributes := #[] }, { accessFlags := 26, nameIndex := 328, descriptorIndex := 34, attributes := #[] }, { accessFlags := 26, nameIndex := 329, descriptorIndex := 34, attributes := #[] }, { accessFlags := 26, nameIndex := 330, descriptorIndex := 34, attributes := #[] }, { accessFlags := 26, nameIndex := 304, descriptorIndex := 305, attributes := #[] }, { accessFlags := 4120, nameIndex := 165, descriptorIndex := 166, attributes := #[] }])
  fields := #[{ name := "serialVersionUID", type := .long, accessFlags := 26, slot := 0, constantValue := 0 }, { name := "backtrace", type := (.object "java/lang/Object"), accessFlags := 130, slot := 0, constantValue := 0 }, { name := "detailMessage", type := (.object "java/lang/String"), accessFlags := 2, slot := 1, constantValue := 0 }, { name := "UNASSIGNED_STACK", type := (.array (.object "java/lang/StackTraceElement")), accessFlags := 26, slot := 1, constantValue := 0 }, { name := "cause", type := (.object "java/lang/Throwable"), accessFlags := 2, slot := 2, constantValue := 0 }, { name := "stackTrace", type := (.array (.object "java/lang/StackTraceElement")), accessFlags := 2, slot := 3, constantValue := 0 }, { name := "depth", type := .int, accessFlags := 130, slot := 4, constantValue := 0 }, { name := "SUPPRESSED_SENTINEL", type := (.object "java/util/List"), accessFlags := 26, slot := 2, constantValue := 0 }, { name := "suppressedExceptions", type := (.object "java/util/List"), accessFlags := 2, slot := 5, constantValue := 0 }, { name := "NULL_CAUSE_MESSAGE", type := (.object "java/lang/String"), accessFlags := 26, slot := 3, constantValue := 0 }, { name := "SELF_SUPPRESSION_MESSAGE", type := (.object "java/lang/String"), accessFlags := 26, slot := 4, constantValue := 0 }, { name := "CAUSE_CAPTION", type := (.object "java/lang/String"), accessFlags := 26, slot := 5, constantValue := 0 }, { name := "SUPPRESSED_CAPTION", type := (.object "java/lang/String"), accessFlags := 26, slot := 6, constantValue := 0 }, { name := "EMPTY_THROWABLE_ARRAY", type := (.array (.object "java/lang/Throwable")), accessFlags := 26, slot := 7, constantValue := 0 }, { name := "$assertionsDisabled", type := .boolean, accessFlags := 4120, slot := 8, constantValue := 0 }]
  methods := #[k10m0, k10m1, k10m2, k10m3, k10m4]
  instanceTypes := #[(.object "java/lang/Object"), (.object "java/lang/String"), (.object "java/lang/Throwable"), (.array (.object "java/lang/StackTraceElement")), .int, (.object "java/util/List")]
  staticTypes := #[.long, (.array (.object "java/lang/StackTraceElement")), (.object "java/util/List"), (.object "java/lang/String"), (.object "java/lang/String"), (.object "java/lang/String"), (.object "java/lang/String"), (.array (.object "java/lang/Throwable")), .boolean]
  resolved := Array.replicate 404 none
  statics := some 1 }

def pool11 : Array CpInfo := pool [(2, .class_ 4), (1, u "java/lang/Throwable"), (0, u "<init>"), (0, u "()V"), (0, .methodref 2 8), (0, .nameAndType 5 9), (0, u "(Ljava/lang/String;)V"), (9, .class_ 20), (0, u "java/lang/Exception"), (0, u "serialVersionUID"), (0, u "J")] 17

def k11m0 : Method := { name := "<init>", desc := "()V", sig := { parameters := [], returnType := none }, accessFlags := 1, code := none }
def k11c1 : Code := { maxStack := 2, maxLocals := 2, code := jdk_59_method_2_code, exceptionTable := #[], attributes := #[] }
def k11m1 : Method := { name := "<init>", desc := "(Ljava/lang/String;)V", sig := { parameters := [(.object "java/lang/String")], returnType := none }, accessFlags := 1, code := some k11c1 }
/-- java/lang/Exception -/
def k11 : Class := { plain "java/lang/Exception" (some 10) with
  accessFlags := 33
  interfaces := #[]
  cf := some (fileOf pool11 19 #[] #[{ accessFlags := 1, nameIndex := 5, descriptorIndex := 6, attributes := #[] }, { accessFlags := 1, nameIndex := 5, descriptorIndex := 9, attributes := #[] }] 33 2 #[] #[{ accessFlags := 24, nameIndex := 21, descriptorIndex := 22, attributes := #[] }])
  fields := #[{ name := "serialVersionUID", type := .long, accessFlags := 24, slot := 0, constantValue := 0 }]
  methods := #[k11m0, k11m1]
  instanceTypes := #[(.object "java/lang/Object"), (.object "java/lang/String"), (.object "java/lang/Throwable"), (.array (.object "java/lang/StackTraceElement")), .int, (.object "java/util/List")]
  staticTypes := #[.long]
  resolved := Array.replicate 40 none
  statics := none }

def pool12 : Array CpInfo := pool [(1, .methodref 2 3), (0, .class_ 4), (0, .nameAndType 5 6), (0, u "java/lang/Exception"), (0, u "<init>"), (0, u "(Ljava/lang/String;)V"), (3, .class_ 11), (0, u "com/example/explain_locks/explainlocks/UnsupportedInputException"), (11, u "serialVersionUID"), (0, u "J")] 24

def k12c0 : Code := { maxStack := 2, maxLocals := 2, code := prog_7_method_1_code, exceptionTable := #[], attributes := #[] }
def k12m0 : Method := { name := "<init>", desc := "(Ljava/lang/String;)V", sig := { parameters := [(.object "java/lang/String")], returnType := none }, accessFlags := 1, code := some k12c0 }
/-- com/example/explain_locks/explainlocks/UnsupportedInputException -/
def k12 : Class := { plain "com/example/explain_locks/explainlocks/UnsupportedInputException" (some 11) with
  accessFlags := 33
  interfaces := #[]
  cf := some (fileOf pool12 10 #[] #[{ accessFlags := 1, nameIndex := 5, descriptorIndex := 6, attributes := #[] }] 33 2 #[] #[{ accessFlags := 26, nameIndex := 23, descriptorIndex := 24, attributes := #[] }])
  fields := #[{ name := "serialVersionUID", type := .long, accessFlags := 26, slot := 0, constantValue := 0 }]
  methods := #[k12m0]
  instanceTypes := #[(.object "java/lang/Object"), (.object "java/lang/String"), (.object "java/lang/Throwable"), (.array (.object "java/lang/StackTraceElement")), .int, (.object "java/util/List")]
  staticTypes := #[.long]
  resolved := Array.replicate 49 none
  statics := none }

def pool13 : Array CpInfo := pool [(1, .methodref 2 3), (0, .class_ 4), (0, .nameAndType 5 6), (0, u "java/lang/Exception"), (0, u "<init>"), (0, u "(Ljava/lang/String;)V"), (3, .class_ 11), (0, u "com/example/explain_locks/explainlocks/InvalidInputException"), (11, u "serialVersionUID"), (0, u "J")] 24

def k13c0 : Code := { maxStack := 2, maxLocals := 2, code := prog_1_method_1_code, exceptionTable := #[], attributes := #[] }
def k13m0 : Method := { name := "<init>", desc := "(Ljava/lang/String;)V", sig := { parameters := [(.object "java/lang/String")], returnType := none }, accessFlags := 1, code := some k13c0 }
/-- com/example/explain_locks/explainlocks/InvalidInputException -/
def k13 : Class := { plain "com/example/explain_locks/explainlocks/InvalidInputException" (some 11) with
  accessFlags := 33
  interfaces := #[]
  cf := some (fileOf pool13 10 #[] #[{ accessFlags := 1, nameIndex := 5, descriptorIndex := 6, attributes := #[] }] 33 2 #[] #[{ accessFlags := 26, nameIndex := 23, descriptorIndex := 24, attributes := #[] }])
  fields := #[{ name := "serialVersionUID", type := .long, accessFlags := 26, slot := 0, constantValue := 0 }]
  methods := #[k13m0]
  instanceTypes := #[(.object "java/lang/Object"), (.object "java/lang/String"), (.object "java/lang/Throwable"), (.array (.object "java/lang/StackTraceElement")), .int, (.object "java/util/List")]
  staticTypes := #[.long]
  resolved := Array.replicate 49 none
  statics := none }

def pool14 : Array CpInfo := pool [(4, .class_ 6), (1, u "java/lang/Object"), (0, u "<init>"), (0, u "()V"), (5, .class_ 16), (1, u "java/lang/StringLatin1"), (73, u "canEncode"), (14, u "(C)Z"), (15, u "$assertionsDisabled"), (0, u "Z"), (98, .class_ 223), (1, u "java/lang/StringLatin1$LinesSpliterator"), (156, u "toBytes"), (1, u "(C)[B"), (7, .class_ 391), (0, u "java/lang/StringLatin1$CharsSpliterator")] 3

def k14m0 : Method := { name := "<init>", desc := "()V", sig := { parameters := [], returnType := none }, accessFlags := 0, code := none }
def k14c1 : Code := { maxStack := 2, maxLocals := 1, code := jdk_43_method_3_code, exceptionTable := #[], attributes := #[] }
def k14m1 : Method := { name := "canEncode", desc := "(C)Z", sig := { parameters := [.char], returnType := some .boolean }, accessFlags := 9, code := some k14c1 }
def k14c2 : Code := { maxStack := 4, maxLocals := 1, code := jdk_43_method_46_code, exceptionTable := #[], attributes := #[] }
def k14m2 : Method := { name := "toBytes", desc := "(C)[B", sig := { parameters := [.char], returnType := some (.array .byte) }, accessFlags := 9, code := some k14c2 }
/-- java/lang/StringLatin1 -/
def k14 : Class := { plain "java/lang/StringLatin1" (some 0) with
  accessFlags := 48
  interfaces := #[]
  cf := some (fileOf pool14 14 #[.nestMembers #[390, 221]] #[{ accessFlags := 0, nameIndex := 7, descriptorIndex := 8, attributes := #[] }, { accessFlags := 9, nameIndex := 90, descriptorIndex := 105, attributes := #[] }, { accessFlags := 9, nameIndex := 380, descriptorIndex := 382, attributes := #[] }] 48 4 #[] #[{ accessFlags := 4120, nameIndex := 121, descriptorIndex := 122, attributes := #[] }])
  fields := #[{ name := "$assertionsDisabled", type := .boolean, accessFlags := 4120, slot := 0, constantValue := 0 }]
  methods := #[k14m0, k14m1, k14m2]
  instanceTypes := #[]
  staticTypes := #[.boolean]
  resolved := Array.replicate 395 none
  statics := none }

def pool15 : Array CpInfo := pool [(2, .class_ 4), (1, u "java/lang/Object"), (0, u "<init>"), (0, u "()V"), (17, .class_ 26), (1, u "jdk/internal/util/Preconditions"), (28, .class_ 56), (0, u "jdk/internal/util/Preconditions$4"), (57, .class_ 115), (0, u "jdk/internal/util/Preconditions$1"), (7, u "SIOOBE_FORMATTER"), (0, u "Ljava/util/function/BiFunction;"), (0, .class_ 126), (0, u "jdk/internal/util/Preconditions$2"), (3, u "AIOOBE_FORMATTER"), (0, .class_ 132), (0, u "jdk/internal/util/Preconditions$3"), (3, u "IOOBE_FORMATTER")] 57

def k15m0 : Method := { name := "<init>", desc := "()V", sig := { parameters := [], returnType := none }, accessFlags := 1, code := none }
/-- jdk/internal/util/Preconditions -/
def k15 : Class := { plain "jdk/internal/util/Preconditions" (some 0) with
  accessFlags := 33
  interfaces := #[]
  cf := some (fileOf pool15 24 #[.nestMembers #[55, 131, 125, 114]] #[{ accessFlags := 1, nameIndex := 5, descriptorIndex := 6, attributes := #[] }] 33 2 #[] #[{ accessFlags := 25, nameIndex := 123, descriptorIndex := 124, attributes := #[] }, { accessFlags := 25, nameIndex := 130, descriptorIndex := 124, attributes := #[] }, { accessFlags := 25, nameIndex := 136, descriptorIndex := 124, attributes := #[] }])
  fields := #[{ name := "SIOOBE_FORMATTER", type := (.object "java/util/function/BiFunction"), accessFlags := 25, slot := 0, constantValue := 0 }, { name := "AIOOBE_FORMATTER", type := (.object "java/util/function/BiFunction"), accessFlags := 25, slot := 1, constantValue := 0 }, { name := "IOOBE_FORMATTER", type := (.object "java/util/function/BiFunction"), accessFlags := 25, slot := 2, constantValue := 0 }]
  methods := #[k15m0]
  instanceTypes := #[]
  staticTypes := #[(.object "java/util/function/BiFunction"), (.object "java/util/function/BiFunction"), (.object "java/util/function/BiFunction")]
  resolved := Array.replicate 194 none
  statics := some 2 }

def pool16 : Array CpInfo := pool [(9, u "<init>"), (6, .class_ 18), (1, u "java/lang/Object"), (0, u "()V"), (1, .class_ 23), (1, u "jdk/internal/util/ArraysSupport"), (0, u "LOG2_ARRAY_LONG_INDEX_SCALE"), (0, u "I"), (2, u "U"), (0, u "Ljdk/internal/misc/Unsafe;"), (8, u "BIG_ENDIAN"), (0, u "Z"), (8, u "LOG2_BYTE_BIT_SIZE"), (4, u "LOG2_ARRAY_INT_INDEX_SCALE"), (54, u "JLA"), (0, u "Ljdk/internal/access/JavaLangAccess;"), (11, u "LOG2_ARRAY_BOOLEAN_INDEX_SCALE"), (9, u "LOG2_ARRAY_BYTE_INDEX_SCALE"), (5, u "LOG2_ARRAY_CHAR_INDEX_SCALE"), (5, u "LOG2_ARRAY_SHORT_INDEX_SCALE"), (18, u "LOG2_ARRAY_FLOAT_INDEX_SCALE"), (24, u "LOG2_ARRAY_DOUBLE_INDEX_SCALE"), (89, u "T_BOOLEAN"), (2, u "T_CHAR"), (1, u "T_FLOAT"), (1, u "T_DOUBLE"), (1, u "T_BYTE"), (1, u "T_SHORT"), (1, u "T_INT"), (1, u "T_LONG"), (1, u "SOFT_MAX_ARRAY_LENGTH")] 83

def k16m0 : Method := { name := "<init>", desc := "()V", sig := { parameters := [], returnType := none }, accessFlags := 2, code := none }
/-- jdk/internal/util/ArraysSupport -/
def k16 : Class := { plain "jdk/internal/util/ArraysSupport" (some 0) with
  accessFlags := 33
  interfaces := #[]
  cf := some (fileOf pool16 21 #[] #[{ accessFlags := 2, nameIndex := 9, descriptorIndex := 19, attributes := #[] }] 33 16 #[] #[{ accessFlags := 24, nameIndex := 28, descriptorIndex := 29, attributes := #[] }, { accessFlags := 26, nameIndex := 38, descriptorIndex := 39, attributes := #[] }, { accessFlags := 25, nameIndex := 121, descriptorIndex := 25, attributes := #[] }, { accessFlags := 25, nameIndex := 131, descriptorIndex := 25, attributes := #[] }, { accessFlags := 25, nameIndex := 137, descriptorIndex := 25, attributes := #[] }, { accessFlags := 25, nameIndex := 143, descriptorIndex := 25, attributes := #[] }, { accessFlags := 25, nameIndex := 53, descriptorIndex := 25, attributes := #[] }, { accessFlags := 25, nameIndex := 24, descriptorIndex := 25, attributes := #[] }, { accessFlags := 25, nameIndex := 162, descriptorIndex := 25, attributes := #[] }, { accessFlags := 25, nameIndex := 187, descriptorIndex := 25, attributes := #[] }, { accessFlags := 26, nameIndex := 48, descriptorIndex := 25, attributes := #[] }, { accessFlags := 25, nameIndex := 277, descriptorIndex := 25, attributes := #[] }, { accessFlags := 25, nameIndex := 280, descriptorIndex := 25, attributes := #[] }, { accessFlags := 25, nameIndex := 282, descriptorIndex := 25, attributes := #[] }, { accessFlags := 25, nameIndex := 284, descriptorIndex := 25, attributes := #[] }, { accessFlags := 25, nameIndex := 286, descriptorIndex := 25, attributes := #[] }, { accessFlags := 25, nameIndex := 288, descriptorIndex := 25, attributes := #[] }, { accessFlags := 25, nameIndex := 290, descriptorIndex := 25, attributes := #[] }, { accessFlags := 25, nameIndex := 292, descriptorIndex := 25, attributes := #[] }, { accessFlags := 26, nameIndex := 108, descriptorIndex := 109, attributes := #[] }, { accessFlags := 25, nameIndex := 294, descriptorIndex := 25, attributes := #[] }])
  fields := #[{ name := "U", type := (.object "jdk/internal/misc/Unsafe"), accessFlags := 24, slot := 0, constantValue := 0 }, { name := "BIG_ENDIAN", type := .boolean, accessFlags := 26, slot := 1, constantValue := 0 }, { name := "LOG2_ARRAY_BOOLEAN_INDEX_SCALE", type := .int, accessFlags := 25, slot := 2, constantValue := 0 }, { name := "LOG2_ARRAY_BYTE_INDEX_SCALE", type := .int, accessFlags := 25, slot := 3, constantValue := 0 }, { name := "LOG2_ARRAY_CHAR_INDEX_SCALE", type := .int, accessFlags := 25, slot := 4, constantValue := 0 }, { name := "LOG2_ARRAY_SHORT_INDEX_SCALE", type := .int, accessFlags := 25, slot := 5, constantValue := 0 }, { name := "LOG2_ARRAY_INT_INDEX_SCALE", type := .int, accessFlags := 25, slot := 6, constantValue := 0 }, { name := "LOG2_ARRAY_LONG_INDEX_SCALE", type := .int, accessFlags := 25, slot := 7, constantValue := 0 }, { name := "LOG2_ARRAY_FLOAT_INDEX_SCALE", type := .int, accessFlags := 25, slot := 8, constantValue := 0 }, { name := "LOG2_ARRAY_DOUBLE_INDEX_SCALE", type := .int, accessFlags := 25, slot := 9, constantValue := 0 }, { name := "LOG2_BYTE_BIT_SIZE", type := .int, accessFlags := 26, slot := 10, constantValue := 0 }, { name := "T_BOOLEAN", type := .int, accessFlags := 25, slot := 11, constantValue := 0 }, { name := "T_CHAR", type := .int, accessFlags := 25, slot := 12, constantValue := 0 }, { name := "T_FLOAT", type := .int, accessFlags := 25, slot := 13, constantValue := 0 }, { name := "T_DOUBLE", type := .int, accessFlags := 25, slot := 14, constantValue := 0 }, { name := "T_BYTE", type := .int, accessFlags := 25, slot := 15, constantValue := 0 }, { name := "T_SHORT", type := .int, accessFlags := 25, slot := 16, constantValue := 0 }, { name := "T_INT", type := .int, accessFlags := 25, slot := 17, constantValue := 0 }, { name := "T_LONG", type := .int, accessFlags := 25, slot := 18, constantValue := 0 }, { name := "JLA", type := (.object "jdk/internal/access/JavaLangAccess"), accessFlags := 26, slot := 19, constantValue := 0 }, { name := "SOFT_MAX_ARRAY_LENGTH", type := .int, accessFlags := 25, slot := 20, constantValue := 0 }]
  methods := #[k16m0]
  instanceTypes := #[]
  staticTypes := #[(.object "jdk/internal/misc/Unsafe"), .boolean, .int, .int, .int, .int, .int, .int, .int, .int, .int, .int, .int, .int, .int, .int, .int, .int, .int, (.object "jdk/internal/access/JavaLangAccess"), .int]
  resolved := Array.replicate 378 none
  statics := none }

def pool17 : Array CpInfo := pool [(2, .class_ 4), (1, u "java/lang/Object"), (0, u "<init>"), (0, u "()V"), (12, .class_ 20), (0, u "java/util/Collections"), (63, u "r"), (0, u "Ljava/util/Random;"), (80, .class_ 167), (0, u "java/util/Collections$UnmodifiableCollection"), (6, .class_ 175), (0, u "java/util/Collections$UnmodifiableSequencedCollection"), (6, .class_ 183), (0, u "java/util/Collections$UnmodifiableSet"), (6, .class_ 191), (0, u "java/util/Collections$UnmodifiableSequencedSet"), (6, .class_ 199), (0, u "java/util/Collections$UnmodifiableSortedSet"), (6, .class_ 207), (0, u "java/util/Collections$UnmodifiableNavigableSet"), (4, .class_ 213), (0, u "java/util/Collections$UnmodifiableList"), (1, .class_ 216), (0, u "java/util/Collections$UnmodifiableRandomAccessList"), (6, .class_ 224), (0, u "java/util/Collections$UnmodifiableMap"), (6, .class_ 232), (0, u "java/util/Collections$UnmodifiableSequencedMap"), (4, .class_ 238), (0, u "java/util/Collections$UnmodifiableSortedMap"), (6, .class_ 246), (0, u "java/util/Collections$UnmodifiableNavigableMap"), (3, .class_ 251), (0, u "java/util/Collections$SynchronizedCollection"), (4, .class_ 257), (0, u "java/util/Collections$SynchronizedSet"), (4, .class_ 263), (0, u "java/util/Collections$SynchronizedSortedSet"), (1, .class_ 266), (0, u "java/util/Collections$SynchronizedNavigableSet"), (1, .class_ 269), (0, u "java/util/Collections$SynchronizedRandomAccessList"), (1, .class_ 272), (0, u "java/util/Collections$SynchronizedList"), (5, .class_ 279), (0, u "java/util/Collections$SynchronizedMap"), (1, .class_ 282), (0, u "java/util/Collections$SynchronizedSortedMap"), (1, .class_ 285), (0, u "java/util/Collections$SynchronizedNavigableMap"), (1, .class_ 288), (0, u "java/util/Collections$CheckedCollection"), (11, .class_ 301), (0, u "java/util/Collections$CheckedQueue"), (3, .class_ 306), (0, u "java/util/Collections$CheckedSet"), (3, .class_ 311), (0, u "java/util/Collections$CheckedSortedSet"), (3, .class_ 316), (0, u "java/util/Collections$CheckedNavigableSet"), (3, .class_ 321), (0, u "java/util/Collections$CheckedRandomAccessList"), (3, .class_ 326), (0, u "java/util/Collections$CheckedList"), (1, .class_ 329), (0, u "java/util/Collections$CheckedMap"), (3, .class_ 334), (0, u "java/util/Collections$CheckedSortedMap"), (3, .class_ 339), (0, u "java/util/Collections$CheckedNavigableMap"), (4, .class_ 346), (1, u "java/util/Collections$EmptyIterator"), (3, .class_ 352), (1, u "java/util/Collections$EmptyListIterator"), (2, .class_ 357), (1, u "java/util/Collections$EmptyEnumeration"), (4, u "EMPTY_SET"), (0, u "Ljava/util/Set;"), (6, u "EMPTY_LIST"), (0, u "Ljava/util/List;"), (2, u "EMPTY_MAP"), (0, u "Ljava/util/Map;"), (4, .class_ 381), (0, u "java/util/Collections$SingletonSet"), (2, .class_ 385), (0, u "java/util/Collections$1"), (1, .class_ 388), (0, u "java/util/Collections$2"), (1, .class_ 391), (0, u "java/util/Collections$SingletonList"), (1, .class_ 394), (0, u "java/util/Collections$SingletonMap"), (22, .class_ 418), (0, u "java/util/Collections$CopiesList"), (4, .class_ 425), (1, u "java/util/Collections$ReverseComparator"), (8, .class_ 435), (0, u "java/util/Collections$ReverseComparator2"), (6, .class_ 443), (0, u "java/util/Collections$3"), (25, .class_ 470), (0, u "java/util/Collections$SetFromMap"), (2, .class_ 474), (0, u "java/util/Collections$SequencedSetFromMap"), (3, .class_ 479), (0, u "java/util/Collections$AsLIFOQueue"), (11, .class_ 492), (0, u "java/util/Collections$EmptySet"), (1, .class_ 495), (0, u "java/util/Collections$EmptyList"), (1, .class_ 498), (0, u "java/util/Collections$EmptyMap"), (1, u "BINARYSEARCH_THRESHOLD"), (0, u "I"), (2, u "REVERSE_THRESHOLD"), (1, u "SHUFFLE_THRESHOLD"), (1, u "FILL_THRESHOLD"), (1, u "ROTATE_THRESHOLD"), (1, u "COPY_THRESHOLD"), (1, u "REPLACEALL_THRESHOLD"), (1, u "INDEXOFSUBLIST_THRESHOLD"), (333, .class_ 851), (0, u "java/util/Collections$CheckedMap$CheckedEntrySet"), (0, .class_ 853), (0, u "java/util/Collections$CheckedMap$CheckedEntrySet$CheckedEntry"), (0, .class_ 855), (0, u "java/util/Collections$CheckedMap$CheckedEntrySet$1"), (0, .class_ 857), (0, u "java/util/Collections$CheckedList$1"), (0, .class_ 859), (0, u "java/util/Collections$CheckedCollection$1"), (0, .class_ 861), (0, u "java/util/Collections$UnmodifiableNavigableMap$EmptyNavigableMap"), (0, .class_ 863), (0, u "java/util/Collections$UnmodifiableMap$UnmodifiableEntrySet"), (0, .class_ 865), (0, u "java/util/Collections$UnmodifiableMap$UnmodifiableEntrySet$UnmodifiableEntry"), (0, .class_ 867), (0, u "java/util/Collections$UnmodifiableMap$UnmodifiableEntrySet$UnmodifiableEntrySetSpliterator"), (0, .class_ 869), (0, u "java/util/Collections$UnmodifiableMap$UnmodifiableEntrySet$1"), (0, .class_ 871), (0, u "java/util/Collections$UnmodifiableList$1"), (0, .class_ 873), (0, u "java/util/Collections$UnmodifiableNavigableSet$EmptyNavigableSet"), (0, .class_ 875), (0, u "java/util/Collections$UnmodifiableCollection$1")] 57

def k17m0 : Method := { name := "<init>", desc := "()V", sig := { parameters := [], returnType := none }, accessFlags := 2, code := none }
/-- java/util/Collections -/
def k17 : Class := { plain "java/util/Collections" (some 0) with
  accessFlags := 33
  interfaces := #[]
  cf := some (fileOf pool17 19 #[.nestMembers #[478, 473, 469, 434, 423, 417, 393, 390, 380, 497, 494, 491, 355, 350, 344, 338, 333, 328, 850, 852, 854, 320, 325, 856, 315, 310, 305, 300, 287, 858, 284, 281, 278, 268, 271, 265, 262, 256, 250, 245, 860, 237, 231, 223, 862, 864, 866, 868, 215, 212, 870, 206, 872, 198, 190, 182, 174, 166, 874, 442, 387, 384]] #[{ accessFlags := 2, nameIndex := 5, descriptorIndex := 6, attributes := #[] }] 33 2 #[] #[{ accessFlags := 26, nameIndex := 500, descriptorIndex := 501, attributes := #[] }, { accessFlags := 26, nameIndex := 504, descriptorIndex := 501, attributes := #[] }, { accessFlags := 26, nameIndex := 506, descriptorIndex := 501, attributes := #[] }, { accessFlags := 26, nameIndex := 508, descriptorIndex := 501, attributes := #[] }, { accessFlags := 26, nameIndex := 510, descriptorIndex := 501, attributes := #[] }, { accessFlags := 26, nameIndex := 512, descriptorIndex := 501, attributes := #[] }, { accessFlags := 26, nameIndex := 514, descriptorIndex := 501, attributes := #[] }, { accessFlags := 26, nameIndex := 516, descriptorIndex := 501, attributes := #[] }, { accessFlags := 10, nameIndex := 84, descriptorIndex := 85, attributes := #[] }, { accessFlags := 25, nameIndex := 362, descriptorIndex := 363, attributes := #[] }, { accessFlags := 25, nameIndex := 370, descriptorIndex := 371, attributes := #[] }, { accessFlags := 25, nameIndex := 374, descriptorIndex := 375, attributes := #[] }])
  fields := #[{ name := "BINARYSEARCH_THRESHOLD", type := .int, accessFlags := 26, slot := 0, constantValue := 0 }, { name := "REVERSE_THRESHOLD", type := .int, accessFlags := 26, slot := 1, constantValue := 0 }, { name := "SHUFFLE_THRESHOLD", type := .int, accessFlags := 26, slot := 2, constantValue := 0 }, { name := "FILL_THRESHOLD", type := .int, accessFlags := 26, slot := 3, constantValue := 0 }, { name := "ROTATE_THRESHOLD", type := .int, accessFlags := 26, slot := 4, constantValue := 0 }, { name := "COPY_THRESHOLD", type := .int, accessFlags := 26, slot := 5, constantValue := 0 }, { name := "REPLACEALL_THRESHOLD", type := .int, accessFlags := 26, slot := 6, constantValue := 0 }, { name := "INDEXOFSUBLIST_THRESHOLD", type := .int, accessFlags := 26, slot := 7, constantValue := 0 }, { name := "r", type := (.object "java/util/Random"), accessFlags := 10, slot := 8, constantValue := 0 }, { name := "EMPTY_SET", type := (.object "java/util/Set"), accessFlags := 25, slot := 9, constantValue := 0 }, { name := "EMPTY_LIST", type := (.object "java/util/List"), accessFlags := 25, slot := 10, constantValue := 0 }, { name := "EMPTY_MAP", type := (.object "java/util/Map"), accessFlags := 25, slot := 11, constantValue := 0 }]
  methods := #[k17m0]
  instanceTypes := #[]
  staticTypes := #[.int, .int, .int, .int, .int, .int, .int, .int, (.object "java/util/Random"), (.object "java/util/Set"), (.object "java/util/List"), (.object "java/util/Map")]
  resolved := Array.replicate 933 none
  statics := some 3 }

def pool18 : Array CpInfo := pool [(8, .class_ 10), (1, u "java/lang/Iterable"), (24, .class_ 36), (0, u "java/lang/Object")] 25

/-- java/lang/Iterable -/
def k18 : Class := { plain "java/lang/Iterable" (some 0) with
  accessFlags := 1537
  interfaces := #[]
  cf := some (fileOf pool18 8 #[] #[] 1537 35 #[] #[])
  fields := #[]
  methods := #[]
  instanceTypes := #[]
  staticTypes := #[]
  resolved := Array.replicate 62 none
  statics := none }

def pool19 : Array CpInfo := pool [(10, .class_ 12), (1, u "java/util/Collection"), (47, .class_ 61), (0, u "java/lang/Object"), (0, .class_ 63), (0, u "java/lang/Iterable")] 51

/-- java/util/Collection -/
def k19 : Class := { plain "java/util/Collection" (some 0) with
  accessFlags := 1537
  interfaces := #[18]
  cf := some (fileOf pool19 10 #[] #[] 1537 60 #[62] #[])
  fields := #[]
  methods := #[]
  instanceTypes := #[]
  staticTypes := #[]
  resolved := Array.replicate 115 none
  statics := none }

def pool20 : Array CpInfo := pool [(2, .class_ 4), (1, u "java/lang/Object"), (0, u "<init>"), (0, u "()V"), (1, .class_ 10), (1, u "java/util/AbstractCollection"), (66, .class_ 78), (0, u "java/util/Collection")] 81

def k20m0 : Method := { name := "<init>", desc := "()V", sig := { parameters := [], returnType := none }, accessFlags := 4, code := none }
/-- java/util/AbstractCollection -/
def k20 : Class := { plain "java/util/AbstractCollection" (some 0) with
  accessFlags := 1057
  interfaces := #[19]
  cf := some (fileOf pool20 8 #[] #[{ accessFlags := 4, nameIndex := 5, descriptorIndex := 6, attributes := #[] }] 1057 2 #[77] #[])
  fields := #[]
  methods := #[k20m0]
  instanceTypes := #[]
  staticTypes := #[]
  resolved := Array.replicate 160 none
  statics := none }

def pool21 : Array CpInfo := pool [(8, .class_ 10), (1, u "java/util/SequencedCollection"), (15, .class_ 27), (0, u "java/lang/Object"), (0, .class_ 29), (0, u "java/util/Collection")] 27

/-- java/util/SequencedCollection -/
def k21 : Class := { plain "java/util/SequencedCollection" (some 0) with
  accessFlags := 1537
  interfaces := #[19]
  cf := some (fileOf pool21 8 #[] #[] 1537 26 #[28] #[])
  fields := #[]
  methods := #[]
  instanceTypes := #[]
  staticTypes := #[]
  resolved := Array.replicate 57 none
  statics := none }

def pool22 : Array CpInfo := pool [(8, .class_ 10), (1, u "java/util/List"), (92, .class_ 104), (0, u "java/lang/Object"), (15, .class_ 121), (0, u "java/util/SequencedCollection")] 129

/-- java/util/List -/
def k22 : Class := { plain "java/util/List" (some 0) with
  accessFlags := 1537
  interfaces := #[21]
  cf := some (fileOf pool22 8 #[] #[] 1537 103 #[120] #[])
  fields := #[]
  methods := #[]
  instanceTypes := #[]
  staticTypes := #[]
  resolved := Array.replicate 251 none
  statics := none }

def pool23 : Array CpInfo := pool [(2, .class_ 4), (1, u "java/util/AbstractCollection"), (0, u "<init>"), (0, u "()V"), (1, .class_ 10), (1, u "java/util/AbstractList"), (0, u "modCount"), (0, u "I"), (64, .class_ 78), (0, u "java/util/AbstractList$Itr"), (3, .class_ 83), (0, u "java/util/AbstractList$ListItr"), (9, .class_ 94), (0, u "java/util/AbstractList$RandomAccessSubList"), (3, .class_ 99), (0, u "java/util/AbstractList$SubList"), (33, .class_ 134), (0, u "java/util/List"), (73, .class_ 209), (0, u "java/util/AbstractList$SubList$1"), (0, .class_ 211), (0, u "java/util/AbstractList$RandomAccessSpliterator")] 6

def k23m0 : Method := { name := "<init>", desc := "()V", sig := { parameters := [], returnType := none }, accessFlags := 4, code := none }
/-- java/util/AbstractList -/
def k23 : Class := { plain "java/util/AbstractList" (some 20) with
  accessFlags := 1057
  interfaces := #[22]
  cf := some (fileOf pool23 8 #[.nestMembers #[93, 98, 208, 210, 82, 77]] #[{ accessFlags := 4, nameIndex := 5, descriptorIndex := 6, attributes := #[] }] 1057 2 #[133] #[{ accessFlags := 132, nameIndex := 11, descriptorIndex := 12, attributes := #[] }])
  fields := #[{ name := "modCount", type := .int, accessFlags := 132, slot := 0, constantValue := 0 }]
  methods := #[k23m0]
  instanceTypes := #[.int]
  staticTypes := #[]
  resolved := Array.replicate 218 none
  statics := none }

def pool24 : Array CpInfo := pool [(1, .class_ 2), (0, u "java/util/RandomAccess"), (0, .class_ 4), (0, u "java/lang/Object")] 2

/-- java/util/RandomAccess -/
def k24 : Class := { plain "java/util/RandomAccess" (some 0) with
  accessFlags := 1537
  interfaces := #[]
  cf := some (fileOf pool24 1 #[] #[] 1537 3 #[] #[])
  fields := #[]
  methods := #[]
  instanceTypes := #[]
  staticTypes := #[]
  resolved := Array.replicate 7 none
  statics := none }

def pool25 : Array CpInfo := pool [(2, .class_ 4), (1, u "java/util/AbstractList"), (0, u "<init>"), (0, u "()V"), (1, .class_ 10), (1, u "java/util/Collections"), (54, .class_ 66), (0, u "java/util/Collections$EmptyList"), (0, .class_ 68), (0, u "java/util/RandomAccess"), (0, .class_ 70), (0, u "java/io/Serializable"), (0, u "serialVersionUID"), (0, u "J")] 77

def k25m0 : Method := { name := "<init>", desc := "()V", sig := { parameters := [], returnType := none }, accessFlags := 2, code := none }
/-- java/util/Collections$EmptyList -/
def k25 : Class := { plain "java/util/Collections$EmptyList" (some 23) with
  accessFlags := 32
  interfaces := #[24, 2]
  cf := some (fileOf pool25 65 #[.nestHost 8] #[{ accessFlags := 2, nameIndex := 5, descriptorIndex := 6, attributes := #[] }] 32 2 #[67, 69] #[{ accessFlags := 26, nameIndex := 71, descriptorIndex := 72, attributes := #[] }])
  fields := #[{ name := "serialVersionUID", type := .long, accessFlags := 26, slot := 0, constantValue := 0 }]
  methods := #[k25m0]
  instanceTypes := #[.int]
  staticTypes := #[.long]
  resolved := Array.replicate 150 none
  statics := none }

def pool26 : Array CpInfo := pool [(2, .class_ 4), (1, u "java/lang/StackTraceElement"), (0, u "<init>"), (2, .class_ 10), (1, u "java/lang/Object"), (0, u "()V"), (2, u "format"), (0, u "B"), (2, u "classLoaderName"), (0, u "Ljava/lang/String;"), (2, u "moduleName"), (2, u "moduleVersion"), (12, u "declaringClass"), (4, u "methodName"), (2, u "fileName"), (2, u "lineNumber"), (0, u "I"), (65, u "declaringClassObject"), (0, u "Ljava/lang/Class;"), (33, .class_ 153), (1, u "java/lang/StackTraceElement$HashedModules"), (17, .class_ 172), (0, u "java/io/Serializable"), (0, u "NATIVE_METHOD"), (1, u "UNKNOWN_SOURCE"), (2, u "BUILTIN_CLASS_LOADER"), (1, u "JDK_NON_UPGRADEABLE_MODULE"), (1, u "serialVersionUID"), (0, u "J")] 51

def k26m0 : Method := { name := "<init>", desc := "()V", sig := { parameters := [], returnType := none }, accessFlags := 2, code := none }
/-- java/lang/StackTraceElement -/
def k26 : Class := { plain "java/lang/StackTraceElement" (some 0) with
  accessFlags := 49
  interfaces := #[2]
  cf := some (fileOf pool26 2 #[.nestMembers #[151]] #[{ accessFlags := 2, nameIndex := 5, descriptorIndex := 11, attributes := #[] }] 49 8 #[171] #[{ accessFlags := 26, nameIndex := 173, descriptorIndex := 19, attributes := #[] }, { accessFlags := 26, nameIndex := 175, descriptorIndex := 19, attributes := #[] }, { accessFlags := 130, nameIndex := 116, descriptorIndex := 117, attributes := #[] }, { accessFlags := 2, nameIndex := 18, descriptorIndex := 19, attributes := #[] }, { accessFlags := 2, nameIndex := 22, descriptorIndex := 19, attributes := #[] }, { accessFlags := 2, nameIndex := 25, descriptorIndex := 19, attributes := #[] }, { accessFlags := 2, nameIndex := 38, descriptorIndex := 19, attributes := #[] }, { accessFlags := 2, nameIndex := 43, descriptorIndex := 19, attributes := #[] }, { accessFlags := 2, nameIndex := 46, descriptorIndex := 19, attributes := #[] }, { accessFlags := 2, nameIndex := 49, descriptorIndex := 50, attributes := #[] }, { accessFlags := 2, nameIndex := 14, descriptorIndex := 15, attributes := #[] }, { accessFlags := 26, nameIndex := 178, descriptorIndex := 15, attributes := #[] }, { accessFlags := 26, nameIndex := 180, descriptorIndex := 15, attributes := #[] }, { accessFlags := 26, nameIndex := 182, descriptorIndex := 183, attributes := #[] }])
  fields := #[{ name := "NATIVE_METHOD", type := (.object "java/lang/String"), accessFlags := 26, slot := 0, constantValue := 0 }, { name := "UNKNOWN_SOURCE", type := (.object "java/lang/String"), accessFlags := 26, slot := 1, constantValue := 0 }, { name := "declaringClassObject", type := (.object "java/lang/Class"), accessFlags := 130, slot := 0, constantValue := 0 }, { name := "classLoaderName", type := (.object "java/lang/String"), accessFlags := 2, slot := 1, constantValue := 0 }, { name := "moduleName", type := (.object "java/lang/String"), accessFlags := 2, slot := 2, constantValue := 0 }, { name := "moduleVersion", type := (.object "java/lang/String"), accessFlags := 2, slot := 3, constantValue := 0 }, { name := "declaringClass", type := (.object "java/lang/String"), accessFlags := 2, slot := 4, constantValue := 0 }, { name := "methodName", type := (.object "java/lang/String"), accessFlags := 2, slot := 5, constantValue := 0 }, { name := "fileName", type := (.object "java/lang/String"), accessFlags := 2, slot := 6, constantValue := 0 }, { name := "lineNumber", type := .int, accessFlags := 2, slot := 7, constantValue := 0 }, { name := "format", type := .byte, accessFlags := 2, slot := 8, constantValue := 0 }, { name := "BUILTIN_CLASS_LOADER", type := .byte, accessFlags := 26, slot := 2, constantValue := 0 }, { name := "JDK_NON_UPGRADEABLE_MODULE", type := .byte, accessFlags := 26, slot := 3, constantValue := 0 }, { name := "serialVersionUID", type := .long, accessFlags := 26, slot := 4, constantValue := 0 }]
  methods := #[k26m0]
  instanceTypes := #[(.object "java/lang/Class"), (.object "java/lang/String"), (.object "java/lang/String"), (.object "java/lang/String"), (.object "java/lang/String"), (.object "java/lang/String"), (.object "java/lang/String"), .int, .byte]
  staticTypes := #[(.object "java/lang/String"), (.object "java/lang/String"), .byte, .byte, .long]
  resolved := Array.replicate 235 none
  statics := none }

def pool27 : Array CpInfo := pool [(1, u "java/lang/Cloneable"), (0, .class_ 1), (0, u "java/lang/Object"), (0, .class_ 3)] 3

/-- java/lang/Cloneable -/
def k27 : Class := { plain "java/lang/Cloneable" (some 0) with
  accessFlags := 1537
  interfaces := #[]
  cf := some (fileOf pool27 2 #[] #[] 1537 4 #[] #[])
  fields := #[]
  methods := #[]
  instanceTypes := #[]
  staticTypes := #[]
  resolved := Array.replicate 8 none
  statics := none }

/-- the primitive byte -/
def k28 : Class := { plain "byte" none with kind := .primitive 'B', accessFlags := 0x411 }
/-- [B -/
def k29 : Class := { plain "[B" (some 0) with kind := .array 28 .byte, interfaces := #[27, 2], accessFlags := 1041 }

/-- the primitive char -/
def k30 : Class := { plain "char" none with kind := .primitive 'C', accessFlags := 0x411 }
/-- [C -/
def k31 : Class := { plain "[C" (some 0) with kind := .array 30 .char, interfaces := #[27, 2], accessFlags := 1041 }

/-- the primitive int -/
def k32 : Class := { plain "int" none with kind := .primitive 'I', accessFlags := 0x411 }
/-- [I -/
def k33 : Class := { plain "[I" (some 0) with kind := .array 32 .int, interfaces := #[27, 2], accessFlags := 1041 }

/-- [Ljava/lang/Object; -/
def k34 : Class := { plain "[Ljava/lang/Object;" (some 0) with kind := .array 0 (.object "java/lang/Object"), interfaces := #[27, 2], accessFlags := 1041 }

/-- [Ljava/lang/StackTraceElement; -/
def k35 : Class := { plain "[Ljava/lang/StackTraceElement;" (some 0) with kind := .array 26 (.object "java/lang/StackTraceElement"), interfaces := #[27, 2], accessFlags := 1041 }

/-- [Ljava/lang/Throwable; -/
def k36 : Class := { plain "[Ljava/lang/Throwable;" (some 0) with kind := .array 10 (.object "java/lang/Throwable"), interfaces := #[27, 2], accessFlags := 1041 }

def heap : Heap := #[{ cls := 7, slots := #[.long 0, .int 1, .null, .int 0, .null, .int 0, .int 0], vm := .statics 7 },
  { cls := 10, slots := #[.long 0, .ref 4, .ref 5, .null, .null, .null, .null, .ref 6, .int 1], vm := .statics 10 },
  { cls := 15, slots := #[.null, .null, .null], vm := .statics 15 },
  { cls := 17, slots := #[.int 0, .int 0, .int 0, .int 0, .int 0, .int 0, .int 0, .int 0, .null, .null, .ref 5, .null], vm := .statics 17 },
  { cls := 35, slots := #[], vm := .none },
  { cls := 25, slots := #[.int 0], vm := .none },
  { cls := 36, slots := #[], vm := .none }]
def classes : Array Class := #[k0, k1, k2, k3, k4, k5, k6, k7, k8, k9, k10, k11, k12, k13, k14, k15, k16, k17, k18, k19, k20, k21, k22, k23, k24, k25, k26, k27, k28, k29, k30, k31, k32, k33, k34, k35, k36]
def interned : List (Array UInt16 × Addr) := []
def slotsUsed : Nat := 32
def theMethod : MethodId := ⟨1, 1⟩
def args0 : Array Value := #[.int 5, .int 6, .int 7, .int 8, .int 9]
def aboutOver (below : List Frame) : State where
  vm := { classes := classes, interned := interned.toArray }
  heap := heap
  slotsUsed := slotsUsed
  threads := #[{ frames := .invoking theMethod args0 :: below }]
def below0 : List Frame := [.native { method := ⟨0, 0⟩, args := #[] }]
def about1 : State := aboutOver below0
def p0 : Program := .bare "" "" ""
def e0 : Env := launch0.env 0 0 0
theorem w_frames : about1.frames = Frame.invoking theMethod args0 :: below0 := rfl
set_option maxRecDepth 65536 in
theorem w_args : argsFit about1.vm theMethod args0 = true := by decide +kernel
set_option maxRecDepth 65536 in
theorem w_heap : heapFits about1 = true := by decide +kernel
set_option maxRecDepth 65536 in
theorem w_runnable : about1.curStatus? = some .runnable := by decide +kernel
set_option maxRecDepth 65536 in
theorem w_alone : about1.alone = true := by decide +kernel
set_option maxRecDepth 65536 in
theorem w_named : about1.methodNamed? x = some theMethod := by decide +kernel
set_option maxRecDepth 65536 in
theorem w_hears : about1.hears theMethod below0 = true := by decide +kernel
set_option maxRecDepth 65536 in
theorem w_ripe : about1.ripe theMethod args0 below0 = true := by decide +kernel
theorem w_running : about1.status = .running := rfl
set_option maxRecDepth 65536 in
theorem w_room : about1.hasRoom e0.platform room_1 = true :=
  launch0.hasRoom_least _ room_1 (by decide +kernel) (by decide +kernel) (by decide +kernel) (by decide +kernel) (by decide +kernel) (by decide +kernel)
theorem allAtoms_all (ts : List Jvm.Cond) (a : Array Jvm.Value) (st : Jvm.State) : (allAtoms ts).before a st = ts.all (fun c => c.before a st) := by
  induction ts with
  | nil => rfl
  | cons c t ih =>
    show (Jvm.Cond.and c (allAtoms t)).before a st = _
    rw [Jvm.Cond.before_and, ih, List.all_cons]
def words1 : List Jvm.Cond := Jvm.Cond.code x code maxLocals ret :: tables_1
/-- a 'code' word, met by the world's own term for the bytes: nothing is compared byte by byte -/
theorem code_word {y : MethodName} {bytes : ByteArray} {mx : Nat} {rt : Option FieldType} {a : Array Value} {s : State} {m : MethodId} {meth : Method} {c : Code} (h1 : s.methodNamed? y = some m) (h2 : s.vm.method? m = some meth) (h3 : meth.code = some c) (h4 : c.code = bytes)
    (h5 : (c.maxLocals == mx && c.exceptionTable.isEmpty && decide (c.maxStack ≤ mostOperands) && decide (meth.sig.returnType = rt) && !meth.locks && decide (parseMethodDescriptor y.desc = some meth.sig)) = true) : (Jvm.Cond.code y bytes mx rt).before a s = true := by
  simp only [Bool.and_eq_true, beq_iff_eq, Bool.not_eq_true', decide_eq_true_eq] at h5
  obtain ⟨⟨⟨⟨⟨g1, g2⟩, g3⟩, g4⟩, g5⟩, g6⟩ := h5
  simp [Cond.before, Cond.holds, Cond.value, h1, h2, h3, h4, g1, g2, g3, g4, g5, g6]
def isCode : Jvm.Cond → Bool
  | .code _ _ _ _ => true
  | _ => false
theorem all_split {L : List Jvm.Cond} {P : Jvm.Cond → Bool} (h1 : L.all (fun c => isCode c || P c) = true) (h2 : ∀ c ∈ L.filter isCode, P c = true) : L.all P = true := by
  refine List.all_eq_true.mpr fun c hc => ?_
  have h := List.all_eq_true.mp h1 c hc
  rcases Bool.eq_false_or_eq_true (isCode c) with hi | hi
  · exact h2 c (List.mem_filter.mpr ⟨hc, hi⟩)
  · simpa [hi] using h
set_option maxRecDepth 65536 in
theorem w_c0 : (Jvm.Cond.code x code maxLocals ret).before args0 about1 = true := code_word (m := ⟨1, 1⟩) (meth := k1m1) (c := k1c1) (by decide +kernel) rfl rfl rfl (by decide +kernel)
set_option maxRecDepth 65536 in
theorem w_c1 : (Jvm.Cond.code ({ cls := "java/lang/String", name := "<init>", desc := "([C)V" } : Jvm.MethodName) jdk_42_method_3_code (2 : Nat) (Option.none : Option Jvm.ClassFile.FieldType)).before args0 about1 = true := code_word (m := ⟨7, 1⟩) (meth := k7m1) (c := k7c1) (by decide +kernel) rfl rfl rfl (by decide +kernel)
set_option maxRecDepth 65536 in
theorem w_c2 : (Jvm.Cond.code ({ cls := "java/lang/String", name := "<init>", desc := "([CIILjava/lang/Void;)V" } : Jvm.MethodName) jdk_42_method_149_code (6 : Nat) (Option.none : Option Jvm.ClassFile.FieldType)).before args0 about1 = true := code_word (m := ⟨7, 4⟩) (meth := k7m4) (c := k7c4) (by decide +kernel) rfl rfl rfl (by decide +kernel)
set_option maxRecDepth 65536 in
theorem w_c3 : (Jvm.Cond.code ({ cls := "java/lang/Object", name := "<init>", desc := "()V" } : Jvm.MethodName) object_method_1_code (1 : Nat) (Option.none : Option Jvm.ClassFile.FieldType)).before args0 about1 = true := code_word (m := ⟨0, 0⟩) (meth := k0m0) (c := k0c0) (by decide +kernel) rfl rfl rfl (by decide +kernel)
set_option maxRecDepth 65536 in
theorem w_c4 : (Jvm.Cond.code ({ cls := "java/lang/StringUTF16", name := "compress", desc := "([CII)[B" } : Jvm.MethodName) jdk_52_method_16_code (6 : Nat) (Option.some (Jvm.ClassFile.FieldType.array Jvm.ClassFile.FieldType.byte))).before args0 about1 = true := code_word (m := ⟨8, 2⟩) (meth := k8m2) (c := k8c2) (by decide +kernel) rfl rfl rfl (by decide +kernel)
set_option maxRecDepth 65536 in
theorem w_c5 : (Jvm.Cond.code ({ cls := "java/lang/StringUTF16", name := "compress", desc := "([CI[BII)I" } : Jvm.MethodName) jdk_52_method_21_code (7 : Nat) (Option.some Jvm.ClassFile.FieldType.int)).before args0 about1 = true := code_word (m := ⟨8, 3⟩) (meth := k8m3) (c := k8c3) (by decide +kernel) rfl rfl rfl (by decide +kernel)
set_option maxRecDepth 65536 in
theorem w_c6 : (Jvm.Cond.code ({ cls := "java/lang/StringUTF16", name := "coderFromArrayLen", desc := "([BI)B" } : Jvm.MethodName) jdk_52_method_15_code (2 : Nat) (Option.some Jvm.ClassFile.FieldType.byte)).before args0 about1 = true := code_word (m := ⟨8, 1⟩) (meth := k8m1) (c := k8c1) (by decide +kernel) rfl rfl rfl (by decide +kernel)
set_option maxRecDepth 65536 in
theorem w_c7 : (Jvm.Cond.code ({ cls := "com/example/explain_locks/explainlocks/UnsupportedInputException", name := "<init>", desc := "(Ljava/lang/String;)V" } : Jvm.MethodName) prog_7_method_1_code (2 : Nat) (Option.none : Option Jvm.ClassFile.FieldType)).before args0 about1 = true := code_word (m := ⟨12, 0⟩) (meth := k12m0) (c := k12c0) (by decide +kernel) rfl rfl rfl (by decide +kernel)
set_option maxRecDepth 65536 in
theorem w_c8 : (Jvm.Cond.code ({ cls := "java/lang/Exception", name := "<init>", desc := "(Ljava/lang/String;)V" } : Jvm.MethodName) jdk_59_method_2_code (2 : Nat) (Option.none : Option Jvm.ClassFile.FieldType)).before args0 about1 = true := code_word (m := ⟨11, 1⟩) (meth := k11m1) (c := k11c1) (by decide +kernel) rfl rfl rfl (by decide +kernel)
set_option maxRecDepth 65536 in
theorem w_c9 : (Jvm.Cond.code ({ cls := "java/lang/Throwable", name := "<init>", desc := "(Ljava/lang/String;)V" } : Jvm.MethodName) jdk_78_method_2_code (2 : Nat) (Option.none : Option Jvm.ClassFile.FieldType)).before args0 about1 = true := code_word (m := ⟨10, 1⟩) (meth := k10m1) (c := k10c1) (by decide +kernel) rfl rfl rfl (by decide +kernel)
set_option maxRecDepth 65536 in
theorem w_c10 : (Jvm.Cond.code ({ cls := "java/lang/Throwable", name := "<init>", desc := "()V" } : Jvm.MethodName) jdk_78_method_1_code (1 : Nat) (Option.none : Option Jvm.ClassFile.FieldType)).before args0 about1 = true := code_word (m := ⟨10, 0⟩) (meth := k10m0) (c := k10c0) (by decide +kernel) rfl rfl rfl (by decide +kernel)
set_option maxRecDepth 65536 in
theorem w_c11 : (Jvm.Cond.code ({ cls := "com/example/explain_locks/explainlocks/schema/RowFault", name := "<init>", desc := "(Lcom/example/explain_locks/explainlocks/UnsupportedInputException;)V" } : Jvm.MethodName) prog_19_method_2_code (2 : Nat) (Option.none : Option Jvm.ClassFile.FieldType)).before args0 about1 = true := code_word (m := ⟨9, 1⟩) (meth := k9m1) (c := k9c1) (by decide +kernel) rfl rfl rfl (by decide +kernel)
set_option maxRecDepth 65536 in
theorem w_c12 : (Jvm.Cond.code ({ cls := "com/example/explain_locks/explainlocks/schema/RowFault", name := "message", desc := "()Ljava/lang/String;" } : Jvm.MethodName) prog_19_method_3_code (1 : Nat) (Option.some (Jvm.ClassFile.FieldType.object "java/lang/String"))).before args0 about1 = true := code_word (m := ⟨9, 2⟩) (meth := k9m2) (c := k9c2) (by decide +kernel) rfl rfl rfl (by decide +kernel)
set_option maxRecDepth 65536 in
theorem w_c13 : (Jvm.Cond.code ({ cls := "java/lang/Throwable", name := "getMessage", desc := "()Ljava/lang/String;" } : Jvm.MethodName) jdk_78_method_6_code (1 : Nat) (Option.some (Jvm.ClassFile.FieldType.object "java/lang/String"))).before args0 about1 = true := code_word (m := ⟨10, 2⟩) (meth := k10m2) (c := k10c2) (by decide +kernel) rfl rfl rfl (by decide +kernel)
set_option maxRecDepth 65536 in
theorem w_c14 : (Jvm.Cond.code ({ cls := "java/lang/String", name := "equals", desc := "(Ljava/lang/Object;)Z" } : Jvm.MethodName) jdk_42_method_66_code (3 : Nat) (Option.some Jvm.ClassFile.FieldType.boolean)).before args0 about1 = true := code_word (m := ⟨7, 2⟩) (meth := k7m2) (c := k7c2) (by decide +kernel) rfl rfl rfl (by decide +kernel)
set_option maxRecDepth 65536 in
theorem w_c15 : (Jvm.Cond.code ({ cls := "com/example/explain_locks/explainlocks/InvalidInputException", name := "<init>", desc := "(Ljava/lang/String;)V" } : Jvm.MethodName) prog_1_method_1_code (2 : Nat) (Option.none : Option Jvm.ClassFile.FieldType)).before args0 about1 = true := code_word (m := ⟨13, 0⟩) (meth := k13m0) (c := k13c0) (by decide +kernel) rfl rfl rfl (by decide +kernel)
set_option maxRecDepth 65536 in
theorem w_c16 : (Jvm.Cond.code ({ cls := "com/example/explain_locks/explainlocks/schema/RowFault", name := "<init>", desc := "(Lcom/example/explain_locks/explainlocks/InvalidInputException;)V" } : Jvm.MethodName) prog_19_method_1_code (2 : Nat) (Option.none : Option Jvm.ClassFile.FieldType)).before args0 about1 = true := code_word (m := ⟨9, 0⟩) (meth := k9m0) (c := k9c0) (by decide +kernel) rfl rfl rfl (by decide +kernel)
set_option maxRecDepth 65536 in
theorem w_c17 : (Jvm.Cond.code ({ cls := "java/lang/String", name := "valueOf", desc := "(C)Ljava/lang/String;" } : Jvm.MethodName) jdk_42_method_139_code (1 : Nat) (Option.some (Jvm.ClassFile.FieldType.object "java/lang/String"))).before args0 about1 = true := code_word (m := ⟨7, 3⟩) (meth := k7m3) (c := k7c3) (by decide +kernel) rfl rfl rfl (by decide +kernel)
set_option maxRecDepth 65536 in
theorem w_c18 : (Jvm.Cond.code ({ cls := "java/lang/StringLatin1", name := "canEncode", desc := "(C)Z" } : Jvm.MethodName) jdk_43_method_3_code (1 : Nat) (Option.some Jvm.ClassFile.FieldType.boolean)).before args0 about1 = true := code_word (m := ⟨14, 1⟩) (meth := k14m1) (c := k14c1) (by decide +kernel) rfl rfl rfl (by decide +kernel)
set_option maxRecDepth 65536 in
theorem w_c19 : (Jvm.Cond.code ({ cls := "java/lang/StringLatin1", name := "toBytes", desc := "(C)[B" } : Jvm.MethodName) jdk_43_method_46_code (1 : Nat) (Option.some (Jvm.ClassFile.FieldType.array Jvm.ClassFile.FieldType.byte))).before args0 about1 = true := code_word (m := ⟨14, 2⟩) (meth := k14m2) (c := k14c2) (by decide +kernel) rfl rfl rfl (by decide +kernel)
set_option maxRecDepth 65536 in
theorem w_c20 : (Jvm.Cond.code ({ cls := "java/lang/String", name := "<init>", desc := "([BB)V" } : Jvm.MethodName) jdk_42_method_151_code (3 : Nat) (Option.none : Option Jvm.ClassFile.FieldType)).before args0 about1 = true := code_word (m := ⟨7, 5⟩) (meth := k7m5) (c := k7c5) (by decide +kernel) rfl rfl rfl (by decide +kernel)
def codes1 : List Jvm.Cond := [Jvm.Cond.code x code maxLocals ret, Jvm.Cond.code ({ cls := "java/lang/String", name := "<init>", desc := "([C)V" } : Jvm.MethodName) jdk_42_method_3_code (2 : Nat) (Option.none : Option Jvm.ClassFile.FieldType), Jvm.Cond.code ({ cls := "java/lang/String", name := "<init>", desc := "([CIILjava/lang/Void;)V" } : Jvm.MethodName) jdk_42_method_149_code (6 : Nat) (Option.none : Option Jvm.ClassFile.FieldType), Jvm.Cond.code ({ cls := "java/lang/Object", name := "<init>", desc := "()V" } : Jvm.MethodName) object_method_1_code (1 : Nat) (Option.none : Option Jvm.ClassFile.FieldType), Jvm.Cond.code ({ cls := "java/lang/StringUTF16", name := "compress", desc := "([CII)[B" } : Jvm.MethodName) jdk_52_method_16_code (6 : Nat) (Option.some (Jvm.ClassFile.FieldType.array Jvm.ClassFile.FieldType.byte)), Jvm.Cond.code ({ cls := "java/lang/StringUTF16", name := "compress", desc := "([CI[BII)I" } : Jvm.MethodName) jdk_52_method_21_code (7 : Nat) (Option.some Jvm.ClassFile.FieldType.int), Jvm.Cond.code ({ cls := "java/lang/StringUTF16", name := "coderFromArrayLen", desc := "([BI)B" } : Jvm.MethodName) jdk_52_method_15_code (2 : Nat) (Option.some Jvm.ClassFile.FieldType.byte), Jvm.Cond.code ({ cls := "com/example/explain_locks/explainlocks/UnsupportedInputException", name := "<init>", desc := "(Ljava/lang/String;)V" } : Jvm.MethodName) prog_7_method_1_code (2 : Nat) (Option.none : Option Jvm.ClassFile.FieldType), Jvm.Cond.code ({ cls := "java/lang/Exception", name := "<init>", desc := "(Ljava/lang/String;)V" } : Jvm.MethodName) jdk_59_method_2_code (2 : Nat) (Option.none : Option Jvm.ClassFile.FieldType), Jvm.Cond.code ({ cls := "java/lang/Throwable", name := "<init>", desc := "(Ljava/lang/String;)V" } : Jvm.MethodName) jdk_78_method_2_code (2 : Nat) (Option.none : Option Jvm.ClassFile.FieldType), Jvm.Cond.code ({ cls := "java/lang/Throwable", name := "<init>", desc := "()V" } : Jvm.MethodName) jdk_78_method_1_code (1 : Nat) (Option.none : Option Jvm.ClassFile.FieldType), Jvm.Cond.code ({ cls := "com/example/explain_locks/explainlocks/schema/RowFault", name := "<init>", desc := "(Lcom/example/explain_locks/explainlocks/UnsupportedInputException;)V" } : Jvm.MethodName) prog_19_method_2_code (2 : Nat) (Option.none : Option Jvm.ClassFile.FieldType), Jvm.Cond.code ({ cls := "com/example/explain_locks/explainlocks/schema/RowFault", name := "message", desc := "()Ljava/lang/String;" } : Jvm.MethodName) prog_19_method_3_code (1 : Nat) (Option.some (Jvm.ClassFile.FieldType.object "java/lang/String")), Jvm.Cond.code ({ cls := "java/lang/Throwable", name := "getMessage", desc := "()Ljava/lang/String;" } : Jvm.MethodName) jdk_78_method_6_code (1 : Nat) (Option.some (Jvm.ClassFile.FieldType.object "java/lang/String")), Jvm.Cond.code ({ cls := "java/lang/String", name := "equals", desc := "(Ljava/lang/Object;)Z" } : Jvm.MethodName) jdk_42_method_66_code (3 : Nat) (Option.some Jvm.ClassFile.FieldType.boolean), Jvm.Cond.code ({ cls := "com/example/explain_locks/explainlocks/InvalidInputException", name := "<init>", desc := "(Ljava/lang/String;)V" } : Jvm.MethodName) prog_1_method_1_code (2 : Nat) (Option.none : Option Jvm.ClassFile.FieldType), Jvm.Cond.code ({ cls := "com/example/explain_locks/explainlocks/schema/RowFault", name := "<init>", desc := "(Lcom/example/explain_locks/explainlocks/InvalidInputException;)V" } : Jvm.MethodName) prog_19_method_1_code (2 : Nat) (Option.none : Option Jvm.ClassFile.FieldType), Jvm.Cond.code ({ cls := "java/lang/String", name := "valueOf", desc := "(C)Ljava/lang/String;" } : Jvm.MethodName) jdk_42_method_139_code (1 : Nat) (Option.some (Jvm.ClassFile.FieldType.object "java/lang/String")), Jvm.Cond.code ({ cls := "java/lang/StringLatin1", name := "canEncode", desc := "(C)Z" } : Jvm.MethodName) jdk_43_method_3_code (1 : Nat) (Option.some Jvm.ClassFile.FieldType.boolean), Jvm.Cond.code ({ cls := "java/lang/StringLatin1", name := "toBytes", desc := "(C)[B" } : Jvm.MethodName) jdk_43_method_46_code (1 : Nat) (Option.some (Jvm.ClassFile.FieldType.array Jvm.ClassFile.FieldType.byte)), Jvm.Cond.code ({ cls := "java/lang/String", name := "<init>", desc := "([BB)V" } : Jvm.MethodName) jdk_42_method_151_code (3 : Nat) (Option.none : Option Jvm.ClassFile.FieldType)]
set_option maxRecDepth 65536 in
theorem codes_eq : words1.filter isCode = codes1 := rfl
theorem w_codes : ∀ c ∈ words1.filter isCode, c.before args0 about1 = true := by
  rw [codes_eq]
  intro c hc
  simp only [codes1, List.mem_cons, List.not_mem_nil, or_false] at hc
  rcases hc with rfl | rfl | rfl | rfl | rfl | rfl | rfl | rfl | rfl | rfl | rfl | rfl | rfl | rfl | rfl | rfl | rfl | rfl | rfl | rfl | rfl
  · exact w_c0
  · exact w_c1
  · exact w_c2
  · exact w_c3
  · exact w_c4
  · exact w_c5
  · exact w_c6
  · exact w_c7
  · exact w_c8
  · exact w_c9
  · exact w_c10
  · exact w_c11
  · exact w_c12
  · exact w_c13
  · exact w_c14
  · exact w_c15
  · exact w_c16
  · exact w_c17
  · exact w_c18
  · exact w_c19
  · exact w_c20
set_option maxRecDepth 65536 in
theorem w_t1 : (words1.take 24).all (fun c => isCode c || c.before args0 about1) = true := by decide +kernel
set_option maxRecDepth 65536 in
theorem w_t2 : ((words1.drop 24).take 24).all (fun c => isCode c || c.before args0 about1) = true := by decide +kernel
set_option maxRecDepth 65536 in
theorem w_t3 : (((words1.drop 24).drop 24).take 24).all (fun c => isCode c || c.before args0 about1) = true := by decide +kernel
set_option maxRecDepth 65536 in
theorem w_t4 : ((((words1.drop 24).drop 24).drop 24).take 24).all (fun c => isCode c || c.before args0 about1) = true := by decide +kernel
set_option maxRecDepth 65536 in
theorem w_t5 : (((((words1.drop 24).drop 24).drop 24).drop 24).take 24).all (fun c => isCode c || c.before args0 about1) = true := by decide +kernel
set_option maxRecDepth 65536 in
theorem w_t6 : ((((((words1.drop 24).drop 24).drop 24).drop 24).drop 24).take 24).all (fun c => isCode c || c.before args0 about1) = true := by decide +kernel
set_option maxRecDepth 65536 in
theorem w_t7 : ((((((words1.drop 24).drop 24).drop 24).drop 24).drop 24).drop 24).all (fun c => isCode c || c.before args0 about1) = true := by decide +kernel
theorem w_tables : (allAtoms (Jvm.Cond.code x code maxLocals ret :: tables_1)).before args0 about1 = true := by
  rw [allAtoms_all]
  show words1.all (fun c => c.before args0 about1) = true
  refine all_split ?_ w_codes
  rw [← List.take_append_drop 24 words1, List.all_append, w_t1, ← List.take_append_drop 24 (words1.drop 24), List.all_append, w_t2, ← List.take_append_drop 24 ((words1.drop 24).drop 24), List.all_append, w_t3, ← List.take_append_drop 24 (((words1.drop 24).drop 24).drop 24), List.all_append, w_t4, ← List.take_append_drop 24 ((((words1.drop 24).drop 24).drop 24).drop 24), List.all_append, w_t5, ← List.take_append_drop 24 (((((words1.drop 24).drop 24).drop 24).drop 24).drop 24), List.all_append, w_t6, w_t7]
  rfl
set_option maxRecDepth 65536 in
theorem w_rest : rest_1_c.before args0 about1 = true := by decide +kernel
set_option maxRecDepth 65536 in
theorem w_case : (Jvm.Cond.and given_1 narrow_1).before args0 about1 = true := by decide +kernel
set_option maxRecDepth 65536 in
theorem w_consts : constsHeld consts_1 about1 := Jvm.Lit.constsHeldB_iff.mp (by decide +kernel)
theorem w_applies : (headSpec (Jvm.Cond.code x code maxLocals ret :: tables_1) room_1).applies x e0.platform about1 = true :=
  (Spec.applies_iff w_frames).mpr ⟨w_running, w_runnable, w_alone, w_named, w_hears, w_ripe, w_room, w_tables⟩
theorem atStart : AtStart classFile x code maxLocals ret World_1 tables_1 room_1 Calls_1 rest_1 Pre_1 launch0 p0 e0 about1 theMethod args0 below0 :=
  ⟨lists_1, trivial, launch0.admits_env _ _ _, launch0.least_env, fairChoices_fair.cas, fairChoices_fair.clock, w_frames, w_args, w_heap, w_applies, ⟨(by decide +kernel : framesKnown about1 = true), ⟨(by decide +kernel : tablesKnown about1 = true), ⟨w_consts, trivial⟩⟩⟩, w_rest, w_case⟩
end start1
theorem witness_1 : WitnessClaimed_1 := ⟨start1.p0, start1.e0, start1.about1, start1.theMethod, start1.args0, start1.below0, start1.atStart⟩
end Jvm.Pilot.@@N@@
