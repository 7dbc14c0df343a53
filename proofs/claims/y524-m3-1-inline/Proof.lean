import JvmDerived
import JvmDerived.Pilot.@@N@@Statement
import JvmDerived.Pilot.@@N@@Code
set_option linter.unusedVariables false
set_option linter.unusedSimpArgs false
namespace Jvm.RoadKit
open Sem ClassFile Op Lib Jvm.Stand Jvm.Free Jvm.LawKit
section New
variable {p : Program} {l : Launch} {e : Env} {R : Room} {s : State} {m : MethodId} {args : Array Value} {below : List Frame} {meth : Method} {c : Code} {T : State} {locs : List Loc} {cells slots : Nat}
theorem retI (X : Stand p l e R s m args below meth c T locs cells slots) (hx : p.tables.exec = Jvm.exec) {pc : Nat} {Ls : Array Slot} {z : Int32} {rest : List Value} (hret : meth.sig.returnType = some .int) (hd : decode c.code pc = .ok (.ireturn, 1)) {fs : List Frame}
    (hl : ∀ (f : JFrame) (acts : List Action), f.method = m → f.locked = none → f.entered = [] → (doReturn e (T.setTop f) acts (some (.int z))).1 = T.setFrames fs) : Steps p.tables e below (T.setTop (mkF m pc Ls (.int z :: rest))) (T.setFrames fs) := by
  have hm' : T.vm.method? m = some meth := X.method'
  have hn : narrow .int (.int z) = .int z := rfl
  show Steps p.tables e below (T.setTop { method := m, pc := pc, locals := Ls, stack := _ :: rest, locked := none }) _
  jvm_step X.here [X.here.top, hx, hd, hm', hret, hn]
  first | (intro acts; rw [hl _ acts rfl rfl rfl]) | rw [hl _ _ rfl rfl rfl]
  exact Steps.refl _
def Gl (p : Program) (e : Env) (below : List Frame) (s : State) (kc ks : Nat) (Q : Option Value → Heap → List Loc → Prop) (T : State) (g : JFrame) : Prop :=
  ∃ U o, Steps p.tables e below (T.setTop g) U ∧ U.status = .running ∧ Ended U below o ∧ ∃ v L, o = .returned v ∧ Q v U.heap L ∧ FrameEnd s o U L kc ks
theorem Gl.st {kc ks : Nat} {Q : Option Value → Heap → List Loc → Prop} {T' : State} {g g' : JFrame} (h : ∀ t, Steps p.tables e below (T'.setTop g') t → Steps p.tables e below (T.setTop g) t) (k : Gl p e below s kc ks Q T' g') : Gl p e below s kc ks Q T g := by
  obtain ⟨U, o, h1, r⟩ := k
  exact ⟨U, o, h _ h1, r⟩
theorem Gl.wider {cells' slots' : Nat} (X : Stand p l e R s m args below meth c T locs cells slots) (h1 : cells ≤ cells') (h2 : slots ≤ slots') : Stand p l e R s m args below meth c T locs cells' slots' :=
  ⟨X.admits, X.cas, X.clock, X.frames, X.room, X.hears, X.method, X.code, X.here, X.tail, X.warmed, X.limits, X.bytes, X.same.mono h1 h2⟩
theorem Gl.start {kc ks : Nat} {Q : Option Value → Heap → List Loc → Prop} {g g' : JFrame} (q : g = g') (k : Gl p e below s kc ks Q T g') :
    ∃ U o, Steps p.tables e below (T.setTop g) U ∧ U.status = .running ∧ Ended U below o ∧ ∃ v L, o = .returned v ∧ Q v U.heap L ∧ FrameEnd s o U L kc ks := q ▸ k
theorem Gl.ret {kc ks : Nat} {Q : Option Value → Heap → List Loc → Prop} {g : JFrame} {h : Heap} (X : Stand p l e R s m args below meth c T locs cells slots) {v : Option Value} (hv : meth.sig.returnType = none → v = none) (hlk : meth.locks = false)
    (st : ∀ {fs : List Frame}, (∀ (f : JFrame) (acts : List Action), f.method = m → f.locked = none → f.entered = [] → (doReturn e (T.setTop f) acts v).1 = T.setFrames fs) → Steps p.tables e below (T.setTop g) (T.setFrames fs))
    (eT : T.heap = h) (hQ : Q v h locs) (hc : cells ≤ kc) (hs : slots ≤ ks) : Gl p e below s kc ks Q T g := by
  obtain ⟨fs, hr, hrun, hended, hW, hsame⟩ := X.leave hv hlk
  refine ⟨_, _, st hr, hrun, hended, _, _, rfl, ?_, ⟨_, rfl⟩, hW, hsame.mono hc hs⟩
  show Q v T.heap locs
  rw [eT]; exact hQ
def GlW (Z : State) (EL : List (String × Nat)) (p : Program) (e : Env) (below : List Frame) (s : State) (kc ks : Nat) (Q : Option Value → Heap → List Loc → Prop) (T : State) (g : JFrame) : Prop :=
  ∃ U o, Steps p.tables e below (T.setTop g) U ∧ U.status = .running ∧ Ended U below o ∧ ∃ v L, o = .returned v ∧ Q v U.heap L ∧ CHr Z EL s.vm s.heap U.vm U.heap ∧ ReturnedEndW s o U L kc ks
section Wide
variable {Z : State} {EL : List (String × Nat)} {a0 : Array Value}
theorem GlW.st {kc ks : Nat} {Q : Option Value → Heap → List Loc → Prop} {T' : State} {g g' : JFrame} (h : ∀ t, Steps p.tables e below (T'.setTop g') t → Steps p.tables e below (T.setTop g) t) (k : GlW Z EL p e below s kc ks Q T' g') : GlW Z EL p e below s kc ks Q T g := by
  obtain ⟨U, o, h1, r⟩ := k
  exact ⟨U, o, h _ h1, r⟩
theorem GlW.start {kc ks : Nat} {Q : Option Value → Heap → List Loc → Prop} {g g' : JFrame} (q : g = g') (k : GlW Z EL p e below s kc ks Q T g') :
    ∃ U o, Steps p.tables e below (T.setTop g) U ∧ U.status = .running ∧ Ended U below o ∧ ∃ v L, o = .returned v ∧ Q v U.heap L ∧ CHr Z EL s.vm s.heap U.vm U.heap ∧ ReturnedEndW s o U L kc ks := q ▸ k
theorem GlW.ret {kc ks n : Nat} {Q : Option Value → Heap → List Loc → Prop} {g : JFrame} {h hs : Heap} {vm0 : Vm} (X : Stand p l e R (s.setVm vm0) m args below meth c T locs cells slots) (hS : s.Since vm0 n) (hn : n ≤ h.size) (hZ : Z.Warmed39 vm0) (w : EW Z a0 EL) (hh : s.heap = hs) (HC : CHr Z EL s.vm hs vm0 h) {v : Option Value} (hv : meth.sig.returnType = none → v = none) (hlk : meth.locks = false)
    (st : ∀ {fs : List Frame}, (∀ (f : JFrame) (acts : List Action), f.method = m → f.locked = none → f.entered = [] → (doReturn e (T.setTop f) acts v).1 = T.setFrames fs) → Steps p.tables e below (T.setTop g) (T.setFrames fs))
    (eT : T.heap = h) (hQ : Q v h locs) (hc : cells ≤ kc) (hs' : slots ≤ ks) : GlW Z EL p e below s kc ks Q T g := by
  subst eT hh
  obtain ⟨fs, hr, hrun, hended, hW⟩ := X.leaveW hS hn hv hlk
  have hcc := HC.trans (CHv.at X hZ w HC.1)
  exact ⟨_, _, st hr, hrun, hended, _, _, rfl, hQ, hcc, hW.1, hW.2.1, hW.2.2.1, hW.2.2.2.mono hc hs'⟩
end Wide
end New
end Jvm.RoadKit
namespace Jvm.RoadKit
open Sem ClassFile Op Lib Bundle Jvm.Stand Jvm.Free Jvm.LawKit Jvm.Free.SB Jvm.Free.SBG
theorem own_safe_blank {Z : State} {EL : List (String × Nat)} {vm : Vm} {h : Heap} {x : Addr} (hal : Z.vm.Alike vm) (E : Exa Z h x "java/lang/String") (V : Fld Z h x "java/lang/String" "value" "[B" .null) : Safe Z EL vm h x := fun B => by
  obtain ⟨p, -, u, a, -, q, -, F, rfl | rfl⟩ := B
  · obtain ⟨cell, cf, k, i, f, h1, h2, -, -, -, -, h7⟩ := V
    cases (show h[q.sa]? = some q.sC from F.ha).symm.trans h1
    obtain ⟨cS, ⟨⟨-, -, -, ⟨c1, k1, i1, f1, -⟩, -, -, -, v1, -⟩, -⟩, -⟩ := F
    obtain ⟨k3, e3, -⟩ := State.fieldFound?_setVm (s := Z) hal h2
    have e4 := (show (Wst Z vm h).fieldFound? _ _ _ = _ from e3).symm.trans f1
    simp only [Option.some.injEq, Prod.mk.injEq] at e4
    rw [← e4.2.2.2, h7] at v1
    cases v1
  · obtain ⟨cell, k, e1, e2, -⟩ := E
    cases (show h[q.sd]? = some q.SA from F.hd).symm.trans e1
    obtain ⟨cS, -, -, f, -⟩ := F
    rw [show (Wst Z vm h).vm.findClass "[B" = Z.vm.findClass "[B" from hal.findClass _ _] at f
    obtain ⟨k1, q1, q2⟩ := Vm.findClass_spec f
    obtain ⟨k2, q3, q4⟩ := Vm.findClass_spec e2
    cases q1.symm.trans q3
    exact absurd (q2.symm.trans q4) (by decide)
end Jvm.RoadKit
/- laws to paste: Road.backV (cut by pick.py; bodies as the Statement names them) -/
namespace Jvm.Pilot.@@N@@
namespace StrChars
open Jvm Sem ClassFile Op Lib Jvm.Stand Jvm.Free.XT Jvm.Free.ALB Jvm.Free.JM Jvm.Free
open Jvm.Lib.Cold (StaticIs)
/-- a char array whose places are chars -/
def Ch (a : Addr) (A : Cell) (U : State) : Prop := Arr .char a A U ∧ Typed .char A
theorem Ch.mv {a : Addr} {A : Cell} {U U' : State} (h : Ch a A U) (hal : U.vm.Alike U'.vm) (hh : U'.heap = U.heap) : Ch a A U' := ⟨h.1.mv hal hh, h.2⟩
theorem Ch.keep {a : Addr} {A : Cell} {U U' : State} (h : Ch a A U) (hal : U.vm.Alike U'.vm) (hk : U'.heap[a]? = some A) : Ch a A U' := ⟨h.1.keep hal hk, h.2⟩
/-- what place i of a char[]'s cell holds -/
def cv (A : Cell) (i : Nat) : Int32 := match A.slots[i]? with | some (.int x) => x | _ => 0
theorem Ch.get {a : Addr} {A : Cell} {U : State} (h : Ch a A U) {i : Nat} (hi : i < A.slots.size) : A.slots[i]? = some (.int (cv A i)) := by
  have e := Array.getElem?_eq_getElem hi
  have f := h.2 i _ e
  unfold cv; rw [e]
  generalize A.slots[i] = v at f
  cases v <;> simp [fits] at f ⊢
/-- the byte that i2b leaves of a char -/
def lo8 (x : Int32) : Int32 := x.toInt8.toInt32
theorem fits_lo8 (y : Int32) : fits .byte (.int (lo8 y)) = true := by
  have h1 := y.toInt8.le_toInt
  have h2 := y.toInt8.toInt_lt
  simp only [lo8, fits, Bool.and_eq_true, decide_eq_true_eq, Int32.le_iff_toInt_le, Int8.toInt_toInt32, show (-128 : Int32).toInt = -128 from by decide, show (127 : Int32).toInt = 127 from by decide]
  omega
/-- A' is A but that each place j of lo .. hi - 1 holds f j -/
def Laid (A A' : Cell) (lo hi : Nat) (f : Nat → Value) : Prop := A'.cls = A.cls ∧ A'.vm = A.vm ∧ A'.slots.size = A.slots.size ∧ ∀ i, A'.slots[i]? = if lo ≤ i ∧ i < hi then some (f i) else A.slots[i]?
theorem Laid.zero (A : Cell) (lo : Nat) (f : Nat → Value) : Laid A A lo (lo + 0) f := ⟨rfl, rfl, rfl, fun i => by rw [if_neg (by omega)]⟩
theorem Laid.step {A Ak : Cell} {lo k : Nat} {f : Nat → Value} {v : Value} (h : Laid A Ak lo k f) (hlo : lo ≤ k) (hk : k < Ak.slots.size) (hv : v = f k) : Laid A (Ak.setSlot k v) lo (k + 1) f := by
  refine ⟨h.1, h.2.1, by simpa [Cell.setSlot] using h.2.2.1, fun i => ?_⟩
  by_cases e : k = i
  · subst e; rw [Cell.slots_setSlot_self v hk, if_pos (by omega), hv]
  · rw [Cell.slots_setSlot_ne v e, h.2.2.2 i]
    by_cases q : lo ≤ i ∧ i < k
    · rw [if_pos q, if_pos (by omega)]
    · rw [if_neg q, if_neg (by omega)]
def U16 : String := "java/lang/StringUTF16"
namespace Cmp5
def yN : MethodName := ⟨"java/lang/StringUTF16", "compress", "([CI[BII)I"⟩
abbrev yB : ByteArray := jdk_52_method_21_code
theorem d0 : decode yB 0 = .ok (.iconst 0, 1) := by decide +kernel
theorem d1 : decode yB 1 = .ok (.istore 5, 2) := by decide +kernel
theorem d3 : decode yB 3 = .ok (.iload 5, 2) := by decide +kernel
theorem d5 : decode yB 5 = .ok (.iload 4, 2) := by decide +kernel
theorem d7 : decode yB 7 = .ok (.if_icmp (.ge) 37, 3) := by decide +kernel
theorem d10 : decode yB 10 = .ok (.aload_n 0, 1) := by decide +kernel
theorem d11 : decode yB 11 = .ok (.iload_n 1, 1) := by decide +kernel
theorem d12 : decode yB 12 = .ok (.caload, 1) := by decide +kernel
theorem d13 : decode yB 13 = .ok (.istore 6, 2) := by decide +kernel
theorem d15 : decode yB 15 = .ok (.iload 6, 2) := by decide +kernel
theorem d17 : decode yB 17 = .ok (.sipush 255, 3) := by decide +kernel
theorem d20 : decode yB 20 = .ok (.if_icmp (.le) 6, 3) := by decide +kernel
theorem d26 : decode yB 26 = .ok (.aload_n 2, 1) := by decide +kernel
theorem d27 : decode yB 27 = .ok (.iload_n 3, 1) := by decide +kernel
theorem d28 : decode yB 28 = .ok (.iload 6, 2) := by decide +kernel
theorem d30 : decode yB 30 = .ok (.i2b, 1) := by decide +kernel
theorem d31 : decode yB 31 = .ok (.bastore, 1) := by decide +kernel
theorem d32 : decode yB 32 = .ok (.iinc 1 1, 3) := by decide +kernel
theorem d35 : decode yB 35 = .ok (.iinc 3 1, 3) := by decide +kernel
theorem d38 : decode yB 38 = .ok (.iinc 5 1, 3) := by decide +kernel
theorem d41 : decode yB 41 = .ok (.goto (-38), 3) := by decide +kernel
theorem d44 : decode yB 44 = .ok (.iload 4, 2) := by decide +kernel
theorem d46 : decode yB 46 = .ok (.ireturn, 1) := by decide +kernel
def site : List Cond := []
def tab : Cond := tabOf yN yB 7 (some .int) site
def P (b : Addr) (A : Cell) (d : Addr) (B : Cell) (o q len : Nat) (args : Array Value) (s : State) : Prop := args = #[.ref b, .int (Int32.ofNat o), .ref d, .int (Int32.ofNat q), .int (Int32.ofNat len)] ∧ Ch b A s ∧ Arr .byte d B s ∧ b ≠ d ∧ o + len ≤ A.slots.size ∧ q + len ≤ B.slots.size ∧ ∀ i, i < len → ¬ 255 < cv A (o + i)
def E (b : Addr) (A : Cell) (d : Addr) (B : Cell) (o q len : Nat) (r : Option Value) (s u : State) : Prop := r = some (.int (Int32.ofNat len)) ∧ ∃ B', Put d B' s u ∧ Laid B B' q (q + len) (fun j => Value.int (lo8 (cv A (o + (j - q)))))
/-- no char of the range above 255: len; the places written hold each char's low byte -/
theorem law (l : Launch) (b : Addr) (A : Cell) (d : Addr) (B : Cell) (o q len : Nat) : Law l yN 5 5 0 0 yB 7 (some .int) site (P b A d B o q len) (E b A d B o q len) (copyLocs d q len) 0 0 := by
  refine Law.of_walk (plainFor_of_name (by decide +kernel)) (by decide +kernel) (by decide +kernel) (by decide) (fun _ _ h => by rw [h.1]; rfl) (fun _ U U' hal hh h => ⟨h.1, h.2.1.mv hal hh, h.2.2.1.mv hal hh, h.2.2.2⟩) (fun r U U' V V' h1 hal h2 h => ⟨h.1, h.2.elim fun B' q => ⟨B', q.1.mv h1 h2, q.2⟩⟩) ?_
  intro p e s m args below meth c s₁ X0 hexec hbytes hml hret hlk hnm hown hh0 W hP
  obtain ⟨rfl, hA, hB, hne, l1, l2, hp⟩ := hP
  have c1 : Steps p.tables e below (s₁.setTop (entryFrame m #[.ref b, .int (Int32.ofNat o), .ref d, .int (Int32.ofNat q), .int (Int32.ofNat len)] 7)) (s₁.setTop (mkF m 0 #[.val (.ref b), .val (.int (Int32.ofNat o)), .val (.ref d), .val (.int (Int32.ofNat q)), .val (.int (Int32.ofNat len)), .unset, .unset] [])) := entry rfl
  have hA0 := hA.1.mv X0.warmed.alike hh0
  have hB0 := hB.mv X0.warmed.alike hh0
  have a31 := hA.1.2.2.2
  have c2 : Steps p.tables e below (s₁.setTop (entryFrame m #[.ref b, .int (Int32.ofNat o), .ref d, .int (Int32.ofNat q), .int (Int32.ofNat len)] 7)) (s₁.setTop (mkF m 3 #[.val (.ref b), .val (.int (Int32.ofNat o)), .val (.ref d), .val (.int (Int32.ofNat q)), .val (.int (Int32.ofNat len)), .val (.int 0), .unset] [])) := c1.trans (by
    refine iconstV X0.here hexec rfl 0 (hb hbytes d0) (by decide) ?_
    refine XS.istore X0.here hexec rfl (hb hbytes d1) rfl rfl ?_
    exact Steps.refl _)
  have loop : ∀ (r i : Nat), i + r = len → ∀ (z : Slot), (z = .unset ∨ ∃ w, z = .val w ∧ w.category = 1) → ∀ (Tl : State) (Bk : Cell), Stand p l e { frames := 0, locals := 0, cells := 0, slots := 0 } s m #[.ref b, .int (Int32.ofNat o), .ref d, .int (Int32.ofNat q), .int (Int32.ofNat len)] below meth c Tl ([] ++ copyLocs d q i) 0 0 → Put d Bk s₁ Tl → Laid B Bk q (q + i) (fun j => Value.int (lo8 (cv A (o + (j - q))))) →
      Steps p.tables e below (s₁.setTop (entryFrame m #[.ref b, .int (Int32.ofNat o), .ref d, .int (Int32.ofNat q), .int (Int32.ofNat len)] 7)) (Tl.setTop (mkF m 3 #[.val (.ref b), .val (.int (Int32.ofNat (o + i))), .val (.ref d), .val (.int (Int32.ofNat (q + i))), .val (.int (Int32.ofNat len)), .val (.int (Int32.ofNat i)), z] [])) → ∃ (T' : State) (B' : Cell) (z' : Slot), Stand p l e { frames := 0, locals := 0, cells := 0, slots := 0 } s m #[.ref b, .int (Int32.ofNat o), .ref d, .int (Int32.ofNat q), .int (Int32.ofNat len)] below meth c T' ([] ++ copyLocs d q len) 0 0 ∧ Put d B' s₁ T' ∧ Laid B B' q (q + len) (fun j => Value.int (lo8 (cv A (o + (j - q))))) ∧
      Steps p.tables e below (s₁.setTop (entryFrame m #[.ref b, .int (Int32.ofNat o), .ref d, .int (Int32.ofNat q), .int (Int32.ofNat len)] 7)) (T'.setTop (mkF m 3 #[.val (.ref b), .val (.int (Int32.ofNat (o + len))), .val (.ref d), .val (.int (Int32.ofNat (q + len))), .val (.int (Int32.ofNat len)), .val (.int (Int32.ofNat len)), z'] [])) := by
    intro r
    induction r with
    | zero =>
      intro i hi z hz Tl Bk Xl pl fl cl
      have hil : i = len := by omega
      rw [hil] at Xl fl cl
      exact ⟨Tl, Bk, z, Xl, pl, fl, cl⟩
    | succ r ih =>
      intro i hi z hz Tl Bk Xl pl fl cl
      have all := X0.warmed.alike.symm.trans Xl.warmed.alike
      have hAl := hA0.keep all (pl.other hne hA0.1)
      have hBk := hB0.like all pl.1 fl.1 fl.2.1 fl.2.2.1
      have hlt : q + i < Bk.slots.size := by rw [fl.2.2.1]; omega
      have c3 : Steps p.tables e below (s₁.setTop (entryFrame m #[.ref b, .int (Int32.ofNat o), .ref d, .int (Int32.ofNat q), .int (Int32.ofNat len)] 7)) (Tl.setTop (mkF m 12 #[.val (.ref b), .val (.int (Int32.ofNat (o + i))), .val (.ref d), .val (.int (Int32.ofNat (q + i))), .val (.int (Int32.ofNat len)), .val (.int (Int32.ofNat i)), z] [.int (Int32.ofNat (o + i)), .ref b])) := cl.trans (by
        refine XS.iload Xl.here hexec rfl (hb hbytes d3) rfl ?_
        refine XS.iload Xl.here hexec rfl (hb hbytes d5) rfl ?_
        refine XS.icmpNo Xl.here hexec rfl (hb hbytes d7) rfl (ii_ge_f (lt32 (by omega) (by omega))) ?_
        refine XS.aloadN Xl.here hexec rfl (hb hbytes d10) rfl rfl ?_
        refine XS.iloadN Xl.here hexec rfl (hb hbytes d11) rfl ?_
        exact Steps.refl _)
      have c4 : Steps p.tables e below (s₁.setTop (entryFrame m #[.ref b, .int (Int32.ofNat o), .ref d, .int (Int32.ofNat q), .int (Int32.ofNat len)] 7)) (Tl.setTop (mkF m 13 #[.val (.ref b), .val (.int (Int32.ofNat (o + i))), .val (.ref d), .val (.int (Int32.ofNat (q + i))), .val (.int (Int32.ofNat len)), .val (.int (Int32.ofNat i)), z] [.int (cv A (o + i))])) := c3.trans (by
        refine Xl.aget hexec hAl rfl (hA.get (i := o + i) (by omega)) rfl rfl (hb hbytes d12) ?_
        exact Steps.refl _)
      have c5 : Steps p.tables e below (s₁.setTop (entryFrame m #[.ref b, .int (Int32.ofNat o), .ref d, .int (Int32.ofNat q), .int (Int32.ofNat len)] 7)) (Tl.setTop (mkF m 15 #[.val (.ref b), .val (.int (Int32.ofNat (o + i))), .val (.ref d), .val (.int (Int32.ofNat (q + i))), .val (.int (Int32.ofNat len)), .val (.int (Int32.ofNat i)), .val (.int (cv A (o + i)))] [])) := c4.trans (by
        refine XS.istoreS Xl.here hexec rfl (hb hbytes d13) rfl rfl hz ?_
        exact Steps.refl _)
      have c6 : Steps p.tables e below (s₁.setTop (entryFrame m #[.ref b, .int (Int32.ofNat o), .ref d, .int (Int32.ofNat q), .int (Int32.ofNat len)] 7)) (Tl.setTop (mkF m 31 #[.val (.ref b), .val (.int (Int32.ofNat (o + i))), .val (.ref d), .val (.int (Int32.ofNat (q + i))), .val (.int (Int32.ofNat len)), .val (.int (Int32.ofNat i)), .val (.int (cv A (o + i)))] [.int (lo8 (cv A (o + i))), .int (Int32.ofNat (q + i)), .ref d])) := c5.trans (by
        refine XS.iload Xl.here hexec rfl (hb hbytes d15) rfl ?_
        refine sipushV Xl.here hexec rfl 255 (hb hbytes d17) (by decide) ?_
        refine XS.icmpYes Xl.here hexec rfl (pc0 := 20) rfl (hb hbytes d20) rfl (ii_le_t (hp i (by omega))) (by decide) rfl ?_
        refine XS.aloadN Xl.here hexec rfl (hb hbytes d26) rfl rfl ?_
        refine XS.iloadN Xl.here hexec rfl (hb hbytes d27) rfl ?_
        refine XS.iload Xl.here hexec rfl (hb hbytes d28) rfl ?_
        refine i2b Xl.here hexec rfl (hb hbytes d30) rfl ?_
        exact Steps.refl _)
      obtain ⟨T7, X7, p7, st7⟩ := Xl.aput hexec hBk rfl hlt rfl (fits_lo8 (cv A (o + i))) (g := (mkF m 31 #[.val (.ref b), .val (.int (Int32.ofNat (o + i))), .val (.ref d), .val (.int (Int32.ofNat (q + i))), .val (.int (Int32.ofNat len)), .val (.int (Int32.ofNat i)), .val (.int (cv A (o + i)))] [.int (lo8 (cv A (o + i))), .int (Int32.ofNat (q + i)), .ref d])) rfl (rest := []) rfl (hb hbytes d31)
      have c8 : Steps p.tables e below (s₁.setTop (entryFrame m #[.ref b, .int (Int32.ofNat o), .ref d, .int (Int32.ofNat q), .int (Int32.ofNat len)] 7)) (T7.setTop (mkF m 32 #[.val (.ref b), .val (.int (Int32.ofNat (o + i))), .val (.ref d), .val (.int (Int32.ofNat (q + i))), .val (.int (Int32.ofNat len)), .val (.int (Int32.ofNat i)), .val (.int (cv A (o + i)))] [])) := c6.trans (st7 _ (Steps.refl _))
      have c9 : Steps p.tables e below (s₁.setTop (entryFrame m #[.ref b, .int (Int32.ofNat o), .ref d, .int (Int32.ofNat q), .int (Int32.ofNat len)] 7)) (T7.setTop (mkF m 3 #[.val (.ref b), .val (.int (Int32.ofNat (o + i) + 1)), .val (.ref d), .val (.int (Int32.ofNat (q + i) + 1)), .val (.int (Int32.ofNat len)), .val (.int (Int32.ofNat i + 1)), .val (.int (cv A (o + i)))] [])) := c8.trans (by
        refine iincV X7.here hexec rfl 1 (hb hbytes d32) (by decide) rfl rfl ?_
        refine iincV X7.here hexec rfl 1 (hb hbytes d35) (by decide) rfl rfl ?_
        refine iincV X7.here hexec rfl 1 (hb hbytes d38) (by decide) rfl rfl ?_
        refine XS.goto X7.here hexec rfl (pc0 := 41) rfl (hb hbytes d41) (by decide) rfl ?_
        exact Steps.refl _)
      have c10 : Steps p.tables e below (s₁.setTop (entryFrame m #[.ref b, .int (Int32.ofNat o), .ref d, .int (Int32.ofNat q), .int (Int32.ofNat len)] 7)) (T7.setTop (mkF m 3 #[.val (.ref b), .val (.int (Int32.ofNat (o + (i + 1)))), .val (.ref d), .val (.int (Int32.ofNat (q + (i + 1)))), .val (.int (Int32.ofNat len)), .val (.int (Int32.ofNat (i + 1))), .val (.int (cv A (o + i)))] [])) := by
        have := c9
        rw [succ32, succ32, succ32] at this
        exact this
      exact ih (i + 1) (by omega) _ (Or.inr ⟨_, rfl, rfl⟩) T7 _ (by rw [copyLocs_step, ← List.append_assoc]; exact X7) (pl.trans p7) (fl.step (by omega) hlt (by simp)) c10
  obtain ⟨T9, B9, z9, X9, p9, f9, g9⟩ := loop len 0 (by omega) .unset (Or.inl rfl) s₁ B (by simpa [copyLocs] using X0) ⟨hB0.1, fun _ _ => rfl, rfl⟩ (Laid.zero _ _ _) c2
  have c11 : Steps p.tables e below (s₁.setTop (entryFrame m #[.ref b, .int (Int32.ofNat o), .ref d, .int (Int32.ofNat q), .int (Int32.ofNat len)] 7)) (T9.setTop (mkF m 46 #[.val (.ref b), .val (.int (Int32.ofNat (o + len))), .val (.ref d), .val (.int (Int32.ofNat (q + len))), .val (.int (Int32.ofNat len)), .val (.int (Int32.ofNat len)), z9] [.int (Int32.ofNat len)])) := g9.trans (by
    refine XS.iload X9.here hexec rfl (hb hbytes d3) rfl ?_
    refine XS.iload X9.here hexec rfl (hb hbytes d5) rfl ?_
    refine XS.icmpYes X9.here hexec rfl (pc0 := 7) rfl (hb hbytes d7) rfl (ii_ge_t (nlt32 (by omega) (Nat.le_refl _))) (by decide) rfl ?_
    refine XS.iload X9.here hexec rfl (hb hbytes d44) rfl ?_
    exact Steps.refl _)
  exact ⟨T9, some (.int (Int32.ofNat len)), _, _, _, X9, by simp, rfl, rfl, (fun h => by cases h), ⟨rfl, B9, p9.from hh0, f9⟩, fun fs hl => c11.trans (X9.ireturnOut hexec hret rfl (Or.inl rfl) (hb hbytes d46) hl)⟩
end Cmp5
namespace Cmp3
def yN : MethodName := ⟨"java/lang/StringUTF16", "compress", "([CII)[B"⟩
abbrev yB : ByteArray := jdk_52_method_16_code
theorem d0 : decode yB 0 = .ok (.iload_n 2, 1) := by decide +kernel
theorem d1 : decode yB 1 = .ok (.newarray .byte, 2) := by decide +kernel
theorem d3 : decode yB 3 = .ok (.astore_n 3, 1) := by decide +kernel
theorem d4 : decode yB 4 = .ok (.aload_n 0, 1) := by decide +kernel
theorem d5 : decode yB 5 = .ok (.iload_n 1, 1) := by decide +kernel
theorem d6 : decode yB 6 = .ok (.aload_n 3, 1) := by decide +kernel
theorem d7 : decode yB 7 = .ok (.iconst 0, 1) := by decide +kernel
theorem d8 : decode yB 8 = .ok (.iload_n 2, 1) := by decide +kernel
theorem d9 : decode yB 9 = .ok (.invokestatic 115, 3) := by decide +kernel
theorem d12 : decode yB 12 = .ok (.istore 4, 2) := by decide +kernel
theorem d14 : decode yB 14 = .ok (.iload 4, 2) := by decide +kernel
theorem d16 : decode yB 16 = .ok (.iload_n 2, 1) := by decide +kernel
theorem d17 : decode yB 17 = .ok (.if_icmp (.eq) 40, 3) := by decide +kernel
theorem d57 : decode yB 57 = .ok (.aload_n 3, 1) := by decide +kernel
theorem d58 : decode yB 58 = .ok (.areturn, 1) := by decide +kernel
def site : List Cond := [.arrayClass .byte, Cmp5.tab] ++ staticW U16 115 Cmp5.yN
def tab : Cond := tabOf yN yB 6 (some (.array .byte)) site
def P (b : Addr) (A : Cell) (o len : Nat) (args : Array Value) (s : State) : Prop := args = #[.ref b, .int (Int32.ofNat o), .int (Int32.ofNat len)] ∧ Ch b A s ∧ o + len ≤ A.slots.size ∧ len ≤ 536870912 ∧ ∀ i, i < len → ¬ 255 < cv A (o + i)
def E (b : Addr) (A : Cell) (o len : Nat) (r : Option Value) (s u : State) : Prop := NewArr .byte "[B" len (fun j => .int (lo8 (cv A (o + j)))) r s u ∧ u.heap.size = s.heap.size + 1
/-- no char of the range above 255: a new byte[] of their low bytes -/
theorem law (l : Launch) (b : Addr) (A : Cell) (o len : Nat) : Law l yN 3 3 1 18 yB 6 (some (.array .byte)) site (P b A o len) (E b A o len) [] 1 len := by
  refine Law.of_walk (plainFor_of_name (by decide +kernel)) (by decide +kernel) (by decide +kernel) (by decide) (fun _ _ h => by rw [h.1]; rfl) (fun _ U U' hal hh h => ⟨h.1, h.2.1.mv hal hh, h.2.2⟩) (fun r U U' V V' h1 hal h2 h => ⟨NewArr.mv r U U' V V' h1 hal h2 h.1, by rw [h1, h2]; exact h.2⟩) ?_
  intro p e s m args below meth c s₁ X0 hexec hbytes hml hret hlk hnm hown hh0 W hP
  obtain ⟨rfl, hA, l1, l2, hp⟩ := hP
  have a31 := hA.1.2.2.2
  have c1 : Steps p.tables e below (s₁.setTop (entryFrame m #[.ref b, .int (Int32.ofNat o), .int (Int32.ofNat len)] 6)) (s₁.setTop (mkF m 0 #[.val (.ref b), .val (.int (Int32.ofNat o)), .val (.int (Int32.ofNat len)), .unset, .unset, .unset] [])) := entry rfl
  have c2 : Steps p.tables e below (s₁.setTop (entryFrame m #[.ref b, .int (Int32.ofNat o), .int (Int32.ofNat len)] 6)) (s₁.setTop (mkF m 1 #[.val (.ref b), .val (.int (Int32.ofNat o)), .val (.int (Int32.ofNat len)), .unset, .unset, .unset] [.int (Int32.ofNat len)])) := c1.trans (by
    refine XS.iloadN X0.here hexec rfl (hb hbytes d0) rfl ?_
    exact Steps.refl _)
  obtain ⟨T3, B3, X3, ba3, bs3, bv3, bh3, bf3, st3⟩ := X0.anew hexec (atype := .byte) (wk W (.arrayClass .byte)) rfl (by show len * 1 ≤ _; omega) (by omega) (g := (mkF m 1 #[.val (.ref b), .val (.int (Int32.ofNat o)), .val (.int (Int32.ofNat len)), .unset, .unset, .unset] [.int (Int32.ofNat len)])) rfl (hb hbytes d1) (rest := []) rfl (Nat.le_refl _) (by show 0 + len ≤ len; omega)
  rw [hh0] at ba3 st3
  have kp3 : XT.Kept s T3 := (XT.Kept.of_eq hh0).push bh3
  have hA3 := hA.keep X3.warmed.alike (kp3 _ _ hA.1.1)
  have hne : b ≠ s.heap.size := hA.1.ne
  have c4 : Steps p.tables e below (s₁.setTop (entryFrame m #[.ref b, .int (Int32.ofNat o), .int (Int32.ofNat len)] 6)) (T3.setTop (mkF m 3 #[.val (.ref b), .val (.int (Int32.ofNat o)), .val (.int (Int32.ofNat len)), .unset, .unset, .unset] [.ref s.heap.size])) := c2.trans (st3 _ (Steps.refl _))
  have c5 : Steps p.tables e below (s₁.setTop (entryFrame m #[.ref b, .int (Int32.ofNat o), .int (Int32.ofNat len)] 6)) (T3.setTop (mkF m 9 #[.val (.ref b), .val (.int (Int32.ofNat o)), .val (.int (Int32.ofNat len)), .val (.ref s.heap.size), .unset, .unset] [.int (Int32.ofNat len), .int 0, .ref s.heap.size, .int (Int32.ofNat o), .ref b])) := c4.trans (by
    refine XS.astoreN X3.here hexec rfl (hb hbytes d3) rfl rfl rfl ?_
    refine XS.aloadN X3.here hexec rfl (hb hbytes d4) rfl rfl ?_
    refine XS.iloadN X3.here hexec rfl (hb hbytes d5) rfl ?_
    refine XS.aloadN X3.here hexec rfl (hb hbytes d6) rfl rfl ?_
    refine iconstV X3.here hexec rfl 0 (hb hbytes d7) (by decide) ?_
    refine XS.iloadN X3.here hexec rfl (hb hbytes d8) rfl ?_
    exact Steps.refl _)
  obtain ⟨v6, T6, X6, E6, g6⟩ := X3.callS hexec (Cmp5.law l b A s.heap.size B3 o 0 len) hown (wks W (staticW U16 115 Cmp5.yN)) (wk W Cmp5.tab) (W := 0) (Nat.le_of_ble_eq_true rfl) (Nat.le_of_ble_eq_true rfl) (Nat.le_refl _) (by show 0 + len + 0 ≤ len; omega) (g := (mkF m 9 #[.val (.ref b), .val (.int (Int32.ofNat o)), .val (.int (Int32.ofNat len)), .val (.ref s.heap.size), .unset, .unset] [.int (Int32.ofNat len), .int (Int32.ofNat 0), .ref s.heap.size, .int (Int32.ofNat o), .ref b])) rfl (by rw [hml]; rfl) c5 (argsL := [.ref b, .int (Int32.ofNat o), .ref s.heap.size, .int (Int32.ofNat 0), .int (Int32.ofNat len)]) (rest := []) rfl rfl (by show 2 * 0 + 0 ≤ _; decide) (hb hbytes d9) (⟨rfl, hA3, ba3, hne, l1, by rw [bs3]; simp, hp⟩)
  obtain ⟨rfl, B6, p6, f6⟩ := E6
  have c7 : Steps p.tables e below (s₁.setTop (entryFrame m #[.ref b, .int (Int32.ofNat o), .int (Int32.ofNat len)] 6)) (T6.setTop (mkF m 12 #[.val (.ref b), .val (.int (Int32.ofNat o)), .val (.int (Int32.ofNat len)), .val (.ref s.heap.size), .unset, .unset] [.int (Int32.ofNat len)])) := g6
  have c8 : Steps p.tables e below (s₁.setTop (entryFrame m #[.ref b, .int (Int32.ofNat o), .int (Int32.ofNat len)] 6)) (T6.setTop (mkF m 58 #[.val (.ref b), .val (.int (Int32.ofNat o)), .val (.int (Int32.ofNat len)), .val (.ref s.heap.size), .val (.int (Int32.ofNat len)), .unset] [.ref s.heap.size])) := c7.trans (by
    refine XS.istore X6.here hexec rfl (hb hbytes d12) rfl rfl ?_
    refine XS.iload X6.here hexec rfl (hb hbytes d14) rfl ?_
    refine XS.iloadN X6.here hexec rfl (hb hbytes d16) rfl ?_
    refine XS.icmpYes X6.here hexec rfl (pc0 := 17) rfl (hb hbytes d17) rfl (ii_eq_t rfl) (by decide) rfl ?_
    refine XS.aloadN X6.here hexec rfl (hb hbytes d57) rfl rfl ?_
    exact Steps.refl _)
  have X8 := X6.wide (L' := []) (cells' := 1) (slots' := len) (fun x hx hlt => by
    simp only [List.nil_append, copyLocs, List.mem_map, List.mem_range] at hx
    obtain ⟨i, -, rfl⟩ := hx
    exact absurd hlt (Nat.lt_irrefl _)) (Nat.le_refl _) (by omega)
  exact ⟨T6, some (.ref s.heap.size), _, _, _, X8, rfl, rfl, rfl, (fun h => by cases h), ⟨⟨rfl, B6, ba3.like (X3.warmed.alike.symm.trans X6.warmed.alike) p6.1 f6.1 f6.2.1 f6.2.2.1, f6.2.1.trans bv3, by rw [X6.warmed.alike.findClass, f6.1]; exact bf3, by rw [f6.2.2.1, bs3]; simp, fun j hj => by rw [f6.2.2.2 j, if_pos (by omega)]; rfl, kp3.put p6 (Nat.le_refl _)⟩, by rw [p6.2.2, bh3, hh0]; simp⟩, fun fs hl => c8.trans (X8.areturnOut hexec rfl hret rfl (hb hbytes d58) hl)⟩
end Cmp3
namespace CodL
def yN : MethodName := ⟨"java/lang/StringUTF16", "coderFromArrayLen", "([BI)B"⟩
abbrev yB : ByteArray := jdk_52_method_15_code
theorem d0 : decode yB 0 = .ok (.iload_n 1, 1) := by decide +kernel
theorem d1 : decode yB 1 = .ok (.aload_n 0, 1) := by decide +kernel
theorem d2 : decode yB 2 = .ok (.arraylength, 1) := by decide +kernel
theorem d3 : decode yB 3 = .ok (.isub, 1) := by decide +kernel
theorem d4 : decode yB 4 = .ok (.bipush 31, 2) := by decide +kernel
theorem d6 : decode yB 6 = .ok (.iushr, 1) := by decide +kernel
theorem d7 : decode yB 7 = .ok (.i2b, 1) := by decide +kernel
theorem d8 : decode yB 8 = .ok (.ireturn, 1) := by decide +kernel
def site : List Cond := []
def tab : Cond := tabOf yN yB 2 (some .byte) site
def P (d : Addr) (B : Cell) (args : Array Value) (s : State) : Prop := args = #[.ref d, .int (Int32.ofNat B.slots.size)] ∧ Arr .byte d B s
def E (r : Option Value) (s u : State) : Prop := XT.PureE (some (.int 0)) r s u
/-- an array as long as the number of chars: LATIN1 -/
theorem law (l : Launch) (d : Addr) (B : Cell) : Law l yN 2 2 0 0 yB 2 (some .byte) site (P d B) E [] 0 0 := by
  refine Law.of_walk (plainFor_of_name (by decide +kernel)) (by decide +kernel) (by decide +kernel) (by decide) (fun _ _ h => by rw [h.1]; rfl) (fun _ U U' hal hh h => ⟨h.1, h.2.mv hal hh⟩) (fun r U U' V V' h1 hal h2 h => XT.PureE.mv r U U' V V' h1 hal h2 h) ?_
  intro p e s m args below meth c s₁ X0 hexec hbytes hml hret hlk hnm hown hh0 W hP
  obtain ⟨rfl, hB⟩ := hP
  have hB0 := hB.mv X0.warmed.alike hh0
  have c1 : Steps p.tables e below (s₁.setTop (entryFrame m #[.ref d, .int (Int32.ofNat B.slots.size)] 2)) (s₁.setTop (mkF m 0 #[.val (.ref d), .val (.int (Int32.ofNat B.slots.size))] [])) := entry rfl
  have c2 : Steps p.tables e below (s₁.setTop (entryFrame m #[.ref d, .int (Int32.ofNat B.slots.size)] 2)) (s₁.setTop (mkF m 2 #[.val (.ref d), .val (.int (Int32.ofNat B.slots.size))] [.ref d, .int (Int32.ofNat B.slots.size)])) := c1.trans (by
    refine XS.iloadN X0.here hexec rfl (hb hbytes d0) rfl ?_
    refine XS.aloadN X0.here hexec rfl (hb hbytes d1) rfl rfl ?_
    exact Steps.refl _)
  have c3 : Steps p.tables e below (s₁.setTop (entryFrame m #[.ref d, .int (Int32.ofNat B.slots.size)] 2)) (s₁.setTop (mkF m 8 #[.val (.ref d), .val (.int (Int32.ofNat B.slots.size))] [.int (lo8 (ushr (Int32.ofNat B.slots.size - Int32.ofNat B.slots.size) 31))])) := c2.trans (by
    refine X0.alen hexec hB0 rfl rfl (hb hbytes d2) ?_
    refine XS.isub X0.here hexec rfl (hb hbytes d3) rfl ?_
    refine bipushV X0.here hexec rfl 31 (hb hbytes d4) (by decide) ?_
    refine iushr X0.here hexec rfl (hb hbytes d6) rfl ?_
    refine i2b X0.here hexec rfl (hb hbytes d7) rfl ?_
    exact Steps.refl _)
  have e0 : lo8 (ushr (Int32.ofNat B.slots.size - Int32.ofNat B.slots.size) 31) = 0 := by rw [Int32.sub_self]; decide
  rw [e0] at c3
  exact ⟨s₁, some (.int 0), _, _, _, X0, rfl, rfl, rfl, (fun h => by cases h), ⟨rfl, hh0⟩, fun fs hl => c3.trans (X0.ireturnOut hexec hret rfl (Or.inr (Or.inr (Or.inl rfl))) (hb hbytes d8) hl)⟩
end CodL
/-- the String at a is Latin-1 over a new byte[] (the heap's one new cell): the low bytes of the len chars of A from o on; every cell but a is kept -/
def Got (a : Addr) (D : Cell) (fV fC : Field) (A : Cell) (o len : Nat) (r : Option Value) (s u : State) : Prop := r = none ∧ ∃ D' V : Cell, Blank "java/lang/String" a D' u ∧ Same D D' [fV.slot, fC.slot] ∧ D'.slots[fV.slot]? = some (.ref s.heap.size) ∧ D'.slots[fC.slot]? = some (.int 0) ∧ Arr .byte s.heap.size V u ∧ V.vm = .none ∧ u.vm.findClass "[B" = some V.cls ∧ V.slots.size = len ∧ (∀ j, j < len → V.slots[j]? = some (.int (lo8 (cv A (o + j))))) ∧ (∀ (y : Addr) (c : Cell), y ≠ a → s.heap[y]? = some c → u.heap[y]? = some c) ∧ u.heap.size = s.heap.size + 1
theorem Got.mv {a : Addr} {D A : Cell} {fV fC : Field} {o len : Nat} : ∀ r (U U' V V' : State), U'.heap = U.heap → V.vm.Alike V'.vm → V'.heap = V.heap → Got a D fV fC A o len r U V → Got a D fV fC A o len r U' V' :=
  fun r U U' V V' h1 hal h2 ⟨e0, D', X, a1, a2, a3, a4, a5, a6, a7, a8, a9, a10, a11⟩ => ⟨e0, D', X, a1.mv hal h2, a2, by rw [h1]; exact a3, a4, by rw [h1]; exact a5.mv hal h2, a6, by rw [hal.findClass]; exact a7, a8, a9, by rw [h1, h2]; exact a10, by rw [h1, h2]; exact a11⟩
namespace New4
def yN : MethodName := ⟨"java/lang/String", "<init>", "([CIILjava/lang/Void;)V"⟩
abbrev yB : ByteArray := jdk_42_method_149_code
theorem d0 : decode yB 0 = .ok (.aload_n 0, 1) := by decide +kernel
theorem d1 : decode yB 1 = .ok (.invokespecial 1, 3) := by decide +kernel
theorem d4 : decode yB 4 = .ok (.iload_n 3, 1) := by decide +kernel
theorem d5 : decode yB 5 = .ok (.ifCond (.ne) 22, 3) := by decide +kernel
theorem d27 : decode yB 27 = .ok (.getstatic 38, 3) := by decide +kernel
theorem d30 : decode yB 30 = .ok (.ifCond (.eq) 28, 3) := by decide +kernel
theorem d33 : decode yB 33 = .ok (.aload_n 1, 1) := by decide +kernel
theorem d34 : decode yB 34 = .ok (.iload_n 2, 1) := by decide +kernel
theorem d35 : decode yB 35 = .ok (.iload_n 3, 1) := by decide +kernel
theorem d36 : decode yB 36 = .ok (.invokestatic 177, 3) := by decide +kernel
theorem d39 : decode yB 39 = .ok (.astore 5, 2) := by decide +kernel
theorem d41 : decode yB 41 = .ok (.aload_n 0, 1) := by decide +kernel
theorem d42 : decode yB 42 = .ok (.aload 5, 2) := by decide +kernel
theorem d44 : decode yB 44 = .ok (.iload_n 3, 1) := by decide +kernel
theorem d45 : decode yB 45 = .ok (.invokestatic 47, 3) := by decide +kernel
theorem d48 : decode yB 48 = .ok (.putfield 15, 3) := by decide +kernel
theorem d51 : decode yB 51 = .ok (.aload_n 0, 1) := by decide +kernel
theorem d52 : decode yB 52 = .ok (.aload 5, 2) := by decide +kernel
theorem d54 : decode yB 54 = .ok (.putfield 9, 3) := by decide +kernel
theorem d57 : decode yB 57 = .ok (.return_, 1) := by decide +kernel
def site : List Cond := [.fieldLink "java/lang/String" 38 "java/lang/String" "COMPACT_STRINGS" "Z", Cmp3.tab, CodL.tab, .laysFinal "java/lang/String" "java/lang/String" "value" "[B", .fieldLink "java/lang/String" 9 "java/lang/String" "value" "[B", .laysFinal "java/lang/String" "java/lang/String" "coder" "B", .fieldLink "java/lang/String" 15 "java/lang/String" "coder" "B"] ++ objW "java/lang/String" 1 ++ staticW "java/lang/String" 177 Cmp3.yN ++ staticW "java/lang/String" 47 CodL.yN
def tab : Cond := tabOf yN yB 6 none site
def P (a : Addr) (D : Cell) (fV fC : Field) (b : Addr) (A : Cell) (z : Int32) (o len : Nat) (args : Array Value) (s : State) : Prop := args = #[.ref a, .ref b, .int (Int32.ofNat o), .int (Int32.ofNat len), .null] ∧ Blank "java/lang/String" a D s ∧ Found "java/lang/String" "value" "[B" fV s ∧ Found "java/lang/String" "coder" "B" fC s ∧ Ch b A s ∧ StaticIs s "java/lang/String" "COMPACT_STRINGS" "Z" (.int z) ∧ ¬ z = 0 ∧ 0 < len ∧ o + len ≤ A.slots.size ∧ len ≤ 536870912 ∧ ∀ i, i < len → ¬ 255 < cv A (o + i)
def E (a : Addr) (D : Cell) (fV fC : Field) (A : Cell) (o len : Nat) (r : Option Value) (s u : State) : Prop := Got a D fV fC A o len r s u
/-- len > 0, no char of the range above 255: a Latin-1 String of their low bytes -/
theorem law (l : Launch) (a : Addr) (D : Cell) (fV fC : Field) (b : Addr) (A : Cell) (z : Int32) (o len : Nat) : Law l yN 5 4 2 35 yB 6 none site (P a D fV fC b A z o len) (E a D fV fC A o len) [⟨a, fC.slot⟩, ⟨a, fV.slot⟩] 1 len := by
  refine Law.of_walk (plainFor_of_name (by decide +kernel)) (by decide +kernel) (by decide +kernel) (by decide) (fun _ _ h => by rw [h.1]; rfl) (fun _ U U' hal hh h => ⟨h.1, h.2.1.mv hal hh, h.2.2.1.al hal, h.2.2.2.1.al hal, h.2.2.2.2.1.mv hal hh, h.2.2.2.2.2.1.there hal hh, h.2.2.2.2.2.2⟩) (fun r U U' V V' h1 hal h2 h => Got.mv r U U' V V' h1 hal h2 h) ?_
  intro p e s m args below meth c s₁ X0 hexec hbytes hml hret hlk hnm hown hh0 W hP
  obtain ⟨rfl, hB, f1, f2, hA, s1, hz, l0, l1, l2, hp⟩ := hP
  have a31 := hA.1.2.2.2
  have c1 : Steps p.tables e below (s₁.setTop (entryFrame m #[.ref a, .ref b, .int (Int32.ofNat o), .int (Int32.ofNat len), .null] 6)) (s₁.setTop (mkF m 0 #[.val (.ref a), .val (.ref b), .val (.int (Int32.ofNat o)), .val (.int (Int32.ofNat len)), .val .null, .unset] [])) := entry rfl
  have c2 : Steps p.tables e below (s₁.setTop (entryFrame m #[.ref a, .ref b, .int (Int32.ofNat o), .int (Int32.ofNat len), .null] 6)) (s₁.setTop (mkF m 1 #[.val (.ref a), .val (.ref b), .val (.int (Int32.ofNat o)), .val (.int (Int32.ofNat len)), .val .null, .unset] [.ref a])) := c1.trans (by
    refine XS.aloadN X0.here hexec rfl (hb hbytes d0) rfl rfl ?_
    exact Steps.refl _)
  obtain ⟨T3, X3, q3, st3⟩ := X0.oinit hexec hown (wks W (objW "java/lang/String" 1)) (g := (mkF m 1 #[.val (.ref a), .val (.ref b), .val (.int (Int32.ofNat o)), .val (.int (Int32.ofNat len)), .val .null, .unset] [.ref a])) rfl (by rw [hml]; rfl) (rest := []) rfl (hb hbytes d1) (W := 0) (by show 2 * 0 + 0 ≤ _; decide) (Nat.le_of_ble_eq_true rfl) (Nat.le_of_ble_eq_true rfl)
  have hh3 := q3.trans hh0
  have c4 : Steps p.tables e below (s₁.setTop (entryFrame m #[.ref a, .ref b, .int (Int32.ofNat o), .int (Int32.ofNat len), .null] 6)) (T3.setTop (mkF m 27 #[.val (.ref a), .val (.ref b), .val (.int (Int32.ofNat o)), .val (.int (Int32.ofNat len)), .val .null, .unset] [])) := (c2.trans (st3 _ (Steps.refl _))).trans (by
    refine XS.iloadN X3.here hexec rfl (hb hbytes d4) rfl ?_
    refine XS.ifYes X3.here hexec rfl (pc0 := 5) rfl (hb hbytes d5) rfl (i0_ne_t (nz32 (by omega) l0)) (by decide) rfl ?_
    exact Steps.refl _)
  obtain ⟨T5, X5, q5, st5⟩ := X3.sget hexec hown (wk W (.fieldLink "java/lang/String" 38 "java/lang/String" "COMPACT_STRINGS" "Z")) s1 (fun _ _ h => by rw [hh3]; exact h) (g := (mkF m 27 #[.val (.ref a), .val (.ref b), .val (.int (Int32.ofNat o)), .val (.int (Int32.ofNat len)), .val .null, .unset] [])) rfl (hb hbytes d27)
  have hh5 := q5.trans hh3
  have c6 : Steps p.tables e below (s₁.setTop (entryFrame m #[.ref a, .ref b, .int (Int32.ofNat o), .int (Int32.ofNat len), .null] 6)) (T5.setTop (mkF m 30 #[.val (.ref a), .val (.ref b), .val (.int (Int32.ofNat o)), .val (.int (Int32.ofNat len)), .val .null, .unset] [.int z])) := c4.trans (st5 _ (Steps.refl _))
  have c7 : Steps p.tables e below (s₁.setTop (entryFrame m #[.ref a, .ref b, .int (Int32.ofNat o), .int (Int32.ofNat len), .null] 6)) (T5.setTop (mkF m 36 #[.val (.ref a), .val (.ref b), .val (.int (Int32.ofNat o)), .val (.int (Int32.ofNat len)), .val .null, .unset] [.int (Int32.ofNat len), .int (Int32.ofNat o), .ref b])) := c6.trans (by
    refine XS.ifNo X5.here hexec rfl (hb hbytes d30) rfl (i0_eq_f hz) ?_
    refine XS.aloadN X5.here hexec rfl (hb hbytes d33) rfl rfl ?_
    refine XS.iloadN X5.here hexec rfl (hb hbytes d34) rfl ?_
    refine XS.iloadN X5.here hexec rfl (hb hbytes d35) rfl ?_
    exact Steps.refl _)
  obtain ⟨v8, T8, X8, E8, g8⟩ := X5.callS hexec (Cmp3.law l b A o len) hown (wks W (staticW "java/lang/String" 177 Cmp3.yN)) (wk W Cmp3.tab) (W := 0) (Nat.le_of_ble_eq_true rfl) (Nat.le_of_ble_eq_true rfl) (Nat.le_refl _) (by show 0 + len ≤ len; omega) (g := (mkF m 36 #[.val (.ref a), .val (.ref b), .val (.int (Int32.ofNat o)), .val (.int (Int32.ofNat len)), .val .null, .unset] [.int (Int32.ofNat len), .int (Int32.ofNat o), .ref b])) rfl (by rw [hml]; rfl) c7 (argsL := [.ref b, .int (Int32.ofNat o), .int (Int32.ofNat len)]) (rest := []) rfl rfl (by show 2 * 0 + 0 ≤ _; decide) (hb hbytes d36) (⟨rfl, hA.mv X5.warmed.alike hh5, l1, l2, hp⟩)
  obtain ⟨e8, z8⟩ := E8
  obtain ⟨rfl, N, n1, n2, n3, n4, n5, n6⟩ := NewArr.mv _ T5 s _ _ hh5.symm (Vm.Alike.refl _) rfl e8
  rw [hh5] at z8
  have hB1 := hB.keep X8.warmed.alike (n6 _ _ hB.1)
  have hne : s.heap.size ≠ a := (Nat.ne_of_lt (Array.getElem?_eq_some_iff.mp hB.1).1).symm
  have c9 : Steps p.tables e below (s₁.setTop (entryFrame m #[.ref a, .ref b, .int (Int32.ofNat o), .int (Int32.ofNat len), .null] 6)) (T8.setTop (mkF m 39 #[.val (.ref a), .val (.ref b), .val (.int (Int32.ofNat o)), .val (.int (Int32.ofNat len)), .val .null, .unset] [.ref s.heap.size])) := g8
  have c10 : Steps p.tables e below (s₁.setTop (entryFrame m #[.ref a, .ref b, .int (Int32.ofNat o), .int (Int32.ofNat len), .null] 6)) (T8.setTop (mkF m 45 #[.val (.ref a), .val (.ref b), .val (.int (Int32.ofNat o)), .val (.int (Int32.ofNat len)), .val .null, .val (.ref s.heap.size)] [.int (Int32.ofNat N.slots.size), .ref s.heap.size, .ref a])) := by
    have hc : Steps p.tables e below (s₁.setTop (entryFrame m #[.ref a, .ref b, .int (Int32.ofNat o), .int (Int32.ofNat len), .null] 6)) (T8.setTop (mkF m 45 #[.val (.ref a), .val (.ref b), .val (.int (Int32.ofNat o)), .val (.int (Int32.ofNat len)), .val .null, .val (.ref s.heap.size)] [.int (Int32.ofNat len), .ref s.heap.size, .ref a])) := c9.trans (by
      refine XS.astore X8.here hexec rfl (hb hbytes d39) rfl rfl rfl ?_
      refine XS.aloadN X8.here hexec rfl (hb hbytes d41) rfl rfl ?_
      refine XS.aload X8.here hexec rfl (hb hbytes d42) rfl rfl ?_
      refine XS.iloadN X8.here hexec rfl (hb hbytes d44) rfl ?_
      exact Steps.refl _)
    rw [n4]; exact hc
  obtain ⟨v11, T11, X11, E11, g11⟩ := X8.callS hexec (CodL.law l s.heap.size N) hown (wks W (staticW "java/lang/String" 47 CodL.yN)) (wk W CodL.tab) (W := 1) (Nat.le_of_ble_eq_true rfl) (Nat.le_of_ble_eq_true rfl) (Nat.le_refl _) (by show 0 + len + 0 ≤ len; omega) (g := (mkF m 45 #[.val (.ref a), .val (.ref b), .val (.int (Int32.ofNat o)), .val (.int (Int32.ofNat len)), .val .null, .val (.ref s.heap.size)] [.int (Int32.ofNat N.slots.size), .ref s.heap.size, .ref a])) rfl (by rw [hml]; rfl) c10 (argsL := [.ref s.heap.size, .int (Int32.ofNat N.slots.size)]) (rest := [.ref a]) rfl rfl (by show 2 * 0 + (1 + 0) ≤ _; decide) (hb hbytes d45) (⟨rfl, n1⟩)
  obtain ⟨rfl, q11⟩ := E11
  have hB11 := hB1.mv (X8.warmed.alike.symm.trans X11.warmed.alike) q11
  have c12 : Steps p.tables e below (s₁.setTop (entryFrame m #[.ref a, .ref b, .int (Int32.ofNat o), .int (Int32.ofNat len), .null] 6)) (T11.setTop (mkF m 48 #[.val (.ref a), .val (.ref b), .val (.int (Int32.ofNat o)), .val (.int (Int32.ofNat len)), .val .null, .val (.ref s.heap.size)] [.int 0, .ref a])) := g11
  obtain ⟨T13, X13, p13, bl13, sl13, st13⟩ := X11.finit hexec hown (wk W (.fieldLink "java/lang/String" 15 "java/lang/String" "coder" "B")) (Or.inr ⟨_, (wk W (.laysFinal "java/lang/String" "java/lang/String" "coder" "B"))⟩) (Or.inl ⟨rfl, hnm⟩) f2 (Or.inl rfl) hB11 (t := .byte) (by decide +kernel) rfl (g := (mkF m 48 #[.val (.ref a), .val (.ref b), .val (.int (Int32.ofNat o)), .val (.int (Int32.ofNat len)), .val .null, .val (.ref s.heap.size)] [.int 0, .ref a])) rfl (rest := []) rfl (hb hbytes d48)
  have c14 : Steps p.tables e below (s₁.setTop (entryFrame m #[.ref a, .ref b, .int (Int32.ofNat o), .int (Int32.ofNat len), .null] 6)) (T13.setTop (mkF m 54 #[.val (.ref a), .val (.ref b), .val (.int (Int32.ofNat o)), .val (.int (Int32.ofNat len)), .val .null, .val (.ref s.heap.size)] [.ref s.heap.size, .ref a])) := (c12.trans (st13 _ (Steps.refl _))).trans (by
    refine XS.aloadN X13.here hexec rfl (hb hbytes d51) rfl rfl ?_
    refine XS.aload X13.here hexec rfl (hb hbytes d52) rfl rfl ?_
    exact Steps.refl _)
  obtain ⟨T15, X15, p15, bl15, sl15, st15⟩ := X13.finit hexec hown (wk W (.fieldLink "java/lang/String" 9 "java/lang/String" "value" "[B")) (Or.inr ⟨_, (wk W (.laysFinal "java/lang/String" "java/lang/String" "value" "[B"))⟩) (Or.inl ⟨rfl, hnm⟩) f1 (Or.inl rfl) bl13 (t := (.array .byte)) (by decide +kernel) rfl (g := (mkF m 54 #[.val (.ref a), .val (.ref b), .val (.int (Int32.ofNat o)), .val (.int (Int32.ofNat len)), .val .null, .val (.ref s.heap.size)] [.ref s.heap.size, .ref a])) rfl (rest := []) rfl (hb hbytes d54)
  have c16 : Steps p.tables e below (s₁.setTop (entryFrame m #[.ref a, .ref b, .int (Int32.ofNat o), .int (Int32.ofNat len), .null] 6)) (T15.setTop (mkF m 57 #[.val (.ref a), .val (.ref b), .val (.int (Int32.ofNat o)), .val (.int (Int32.ofNat len)), .val .null, .val (.ref s.heap.size)] [])) := c14.trans (st15 _ (Steps.refl _))
  have ap := apart (Or.inr ⟨_, (wk W (.laysFinal "java/lang/String" "java/lang/String" "value" "[B"))⟩) (Or.inr ⟨_, (wk W (.laysFinal "java/lang/String" "java/lang/String" "coder" "B"))⟩) f1 f2 (t₁ := .array .byte) (t₂ := .byte) (by decide +kernel) (by decide +kernel) (by decide)
  have al := X8.warmed.alike.symm.trans X15.warmed.alike
  have n7 : T11.heap[s.heap.size]? = some N := by rw [q11]; exact n1.1
  exact ⟨T15, none, _, _, _, X15, by simp, rfl, by omega, (fun _ => rfl), ⟨rfl, _, N, bl15, ((Same.refl D _).set _ (by simp)).set _ (by simp), sl15, (Cell.slots_setSlot_ne _ ap).trans sl13, n1.keep al (p15.other hne (p13.other hne n7)), n2, by rw [al.findClass]; exact n3, n4, n5, fun y c h1 h2 => p15.other h1 (p13.other h1 (by rw [q11]; exact n6 y c h2)), by rw [p15.2.2, p13.2.2, q11]; exact z8⟩, fun fs hl => c16.trans (X15.returnOut hexec hret (hb hbytes d57) hl)⟩
end New4
namespace New1
def yN : MethodName := ⟨"java/lang/String", "<init>", "([C)V"⟩
abbrev yB : ByteArray := jdk_42_method_3_code
theorem d0 : decode yB 0 = .ok (.aload_n 0, 1) := by decide +kernel
theorem d1 : decode yB 1 = .ok (.aload_n 1, 1) := by decide +kernel
theorem d2 : decode yB 2 = .ok (.iconst 0, 1) := by decide +kernel
theorem d3 : decode yB 3 = .ok (.aload_n 1, 1) := by decide +kernel
theorem d4 : decode yB 4 = .ok (.arraylength, 1) := by decide +kernel
theorem d5 : decode yB 5 = .ok (.aconst_null, 1) := by decide +kernel
theorem d6 : decode yB 6 = .ok (.invokespecial 27, 3) := by decide +kernel
theorem d9 : decode yB 9 = .ok (.return_, 1) := by decide +kernel
def site : List Cond := [New4.tab] ++ initW "java/lang/String" 27 New4.yN
def tab : Cond := tabOf yN yB 2 none site
def P (a : Addr) (D : Cell) (fV fC : Field) (b : Addr) (A : Cell) (z : Int32) (args : Array Value) (s : State) : Prop := args = #[.ref a, .ref b] ∧ Blank "java/lang/String" a D s ∧ Found "java/lang/String" "value" "[B" fV s ∧ Found "java/lang/String" "coder" "B" fC s ∧ Ch b A s ∧ StaticIs s "java/lang/String" "COMPACT_STRINGS" "Z" (.int z) ∧ ¬ z = 0 ∧ 0 < A.slots.size ∧ A.slots.size ≤ 536870912 ∧ ∀ i, i < A.slots.size → ¬ 255 < cv A i
def E (a : Addr) (D : Cell) (fV fC : Field) (A : Cell) (r : Option Value) (s u : State) : Prop := Got a D fV fC A 0 A.slots.size r s u
/-- new String(chars), not empty, no char above 255: a Latin-1 String of their low bytes -/
theorem law (l : Launch) (a : Addr) (D : Cell) (fV fC : Field) (b : Addr) (A : Cell) (z : Int32) : Law l yN 2 1 3 52 yB 2 none site (P a D fV fC b A z) (E a D fV fC A) [⟨a, fC.slot⟩, ⟨a, fV.slot⟩] 1 A.slots.size := by
  refine Law.of_walk (plainFor_of_name (by decide +kernel)) (by decide +kernel) (by decide +kernel) (by decide) (fun _ _ h => by rw [h.1]; rfl) (fun _ U U' hal hh h => ⟨h.1, h.2.1.mv hal hh, h.2.2.1.al hal, h.2.2.2.1.al hal, h.2.2.2.2.1.mv hal hh, h.2.2.2.2.2.1.there hal hh, h.2.2.2.2.2.2⟩) (fun r U U' V V' h1 hal h2 h => Got.mv r U U' V V' h1 hal h2 h) ?_
  intro p e s m args below meth c s₁ X0 hexec hbytes hml hret hlk hnm hown hh0 W hP
  obtain ⟨rfl, hB, f1, f2, hA, s1, hz, l0, l2, hp⟩ := hP
  have c1 : Steps p.tables e below (s₁.setTop (entryFrame m #[.ref a, .ref b] 2)) (s₁.setTop (mkF m 0 #[.val (.ref a), .val (.ref b)] [])) := entry rfl
  have c2 : Steps p.tables e below (s₁.setTop (entryFrame m #[.ref a, .ref b] 2)) (s₁.setTop (mkF m 6 #[.val (.ref a), .val (.ref b)] [.null, .int (Int32.ofNat A.slots.size), .int 0, .ref b, .ref a])) := c1.trans (by
    refine XS.aloadN X0.here hexec rfl (hb hbytes d0) rfl rfl ?_
    refine XS.aloadN X0.here hexec rfl (hb hbytes d1) rfl rfl ?_
    refine iconstV X0.here hexec rfl 0 (hb hbytes d2) (by decide) ?_
    refine XS.aloadN X0.here hexec rfl (hb hbytes d3) rfl rfl ?_
    refine X0.alen hexec (hA.1.mv X0.warmed.alike hh0) rfl rfl (hb hbytes d4) ?_
    refine XS.aconstNull X0.here hexec rfl (hb hbytes d5) ?_
    exact Steps.refl _)
  obtain ⟨v3, T3, X3, E3, g3⟩ := X0.callN hexec (New4.law l a D fV fC b A z 0 A.slots.size) rfl hown (wks W (initW "java/lang/String" 27 New4.yN)) (W New4.tab (by simp only [site, List.mem_cons, List.mem_append, true_or, or_true])) (W := 0) (Nat.le_of_ble_eq_true rfl) (Nat.le_of_ble_eq_true rfl) (Nat.le_refl _) (by show 0 + A.slots.size ≤ A.slots.size; omega) (g := (mkF m 6 #[.val (.ref a), .val (.ref b)] [.null, .int (Int32.ofNat A.slots.size), .int (Int32.ofNat 0), .ref b, .ref a])) rfl (by rw [hml]; rfl) c2 (argsL := [.ref b, .int (Int32.ofNat 0), .int (Int32.ofNat A.slots.size), .null]) (rest := []) rfl rfl (by show 2 * 0 + 0 ≤ _; decide) (hb hbytes d6) (⟨rfl, hB.mv X0.warmed.alike hh0, f1.al X0.warmed.alike, f2.al X0.warmed.alike, hA.mv X0.warmed.alike hh0, s1.there X0.warmed.alike hh0, hz, l0, by omega, l2, fun i hi => by rw [Nat.zero_add]; exact hp i hi⟩)
  have e0 := Got.mv _ s₁ s _ _ hh0.symm (Vm.Alike.refl _) rfl E3
  obtain rfl := e0.1
  have c4 : Steps p.tables e below (s₁.setTop (entryFrame m #[.ref a, .ref b] 2)) (T3.setTop (mkF m 9 #[.val (.ref a), .val (.ref b)] [])) := g3
  exact ⟨T3, none, _, _, _, X3, by simp, rfl, by omega, (fun _ => rfl), e0, fun fs hl => c4.trans (X3.returnOut hexec hret (hb hbytes d9) hl)⟩
theorem pays {l : Launch} {R : Room} {p : Program} {e : Env} {below : List Frame} {s : State} {sargs : Array Value} {len W : Nat} (a : Addr) (D : Cell) (fV fC : Field) (b : Addr) (A : Cell) (z : Int32) (htab : tab.before sargs s = true) (hfr : 4 ≤ R.frames) (hlo : W + 65 ≤ R.locals) :
    Back l R p e below s sargs yN len W (fun A₁ a₁ => A₁.cells + 1 ≤ R.cells ∧ A₁.slots + A.slots.size ≤ R.slots ∧ P a D fV fC b A z a₁ A₁.U) (fun A₁ _ v₁ B₁ => E a D fV fC A v₁ A₁.U B₁.U ∧ B₁.locs = A₁.locs ++ [⟨a, fC.slot⟩, ⟨a, fV.slot⟩] ∧ B₁.cells = A₁.cells + 1 ∧ B₁.slots = A₁.slots + A.slots.size) :=
  (law l a D fV fC b A z).pays htab hfr (by omega)
end New1
end StrChars
namespace StrChars.Road
open Jvm Sem ClassFile Op Lib Jvm.Stand Jvm.Free Jvm.Free.XT
open Jvm.Lib.Cold (StaticIs)
abbrev ST : String := "java/lang/String"
/-- every table word that New1's law asks, flat -/
abbrev words : List Jvm.Cond := [.code New1.yN New1.yB 2 none, .initialized ST, .methodLink ST 27 New4.yN, .instanceMethod New4.yN,
  .code New4.yN New4.yB 6 none, .fieldLink ST 38 ST "COMPACT_STRINGS" "Z", .laysFinal ST ST "value" "[B", .fieldLink ST 9 ST "value" "[B", .laysFinal ST ST "coder" "B", .fieldLink ST 15 ST "coder" "B",
  .methodLink ST 1 Lib.objectInit, .instanceMethod Lib.objectInit, .code Lib.objectInit ⟨#[0xb1]⟩ 1 none, .methodLink ST 177 Cmp3.yN, .static Cmp3.yN, .methodLink ST 47 CodL.yN, .static CodL.yN,
  .code Cmp3.yN Cmp3.yB 6 (some (.array .byte)), .initialized U16, .arrayClass .byte, .methodLink U16 115 Cmp5.yN, .static Cmp5.yN, .code Cmp5.yN Cmp5.yB 7 (some .int), .code CodL.yN CodL.yB 2 (some .byte)]
theorem tab_of {a : Array Value} {s : State} (h : ∀ w ∈ words, w.before a s = true) : New1.tab.before a s = true := by
  have h5 : Cmp5.tab.before a s = true := unparts (wk h (.code Cmp5.yN Cmp5.yB 7 (some .int))) (wks h (.initialized Cmp5.yN.cls :: Cmp5.site))
  have hc : CodL.tab.before a s = true := unparts (wk h (.code CodL.yN CodL.yB 2 (some .byte))) (wks h (.initialized CodL.yN.cls :: CodL.site))
  have q5 : ∀ w ∈ Cmp5.tab :: words, w.before a s = true := fun w hw => (List.mem_cons.mp hw).elim (fun e => e ▸ h5) (h w)
  have h3 : Cmp3.tab.before a s = true := unparts (wk q5 (.code Cmp3.yN Cmp3.yB 6 (some (.array .byte)))) (wks q5 (.initialized Cmp3.yN.cls :: Cmp3.site))
  have q3 : ∀ w ∈ Cmp3.tab :: CodL.tab :: words, w.before a s = true := fun w hw => (List.mem_cons.mp hw).elim (fun e => e ▸ h3) fun hw => (List.mem_cons.mp hw).elim (fun e => e ▸ hc) (h w)
  have h4 : New4.tab.before a s = true := unparts (wk q3 (.code New4.yN New4.yB 6 none)) (wks q3 (.initialized New4.yN.cls :: New4.site))
  have q4 : ∀ w ∈ New4.tab :: words, w.before a s = true := fun w hw => (List.mem_cons.mp hw).elim (fun e => e ▸ h4) (h w)
  exact unparts (wk q4 (.code New1.yN New1.yB 2 none)) (wks q4 (.initialized New1.yN.cls :: New1.site))
/-- the words ride from the start Z to the walk's own state -/
theorem moved {Z s : State} {a0 args : Array Value} (hZ : Z.Warmed39 s.vm) (hw : ∀ d ∈ words, d.before a0 Z = true) : ∀ d ∈ words, d.before args s = true := fun d hd => by
  have q := hw d hd
  have t : ∀ d ∈ words, d = .arrayClass .byte ∨ (d.onTables && d.keepsFace) = true := by decide +kernel
  rcases t d hd with rfl | t
  · exact RoadKit.mvA hZ q
  · exact RoadKit.mv hZ q t
/-- WHAT COMES BACK, over the tables of the start Z: h the heap at the call, h' behind it -/
def Q (Z : State) (x : Addr) (A : Cell) (h : Heap) (v : Option Value) (h' : Heap) (L : List Loc) : Prop := v = none ∧ (∀ y ∈ L, y.base = x) ∧ RoadKit.Keep h h' [x] ∧ h'.size = h.size + 1 ∧ RoadKit.Exa Z h' x ST ∧ RoadKit.Fld Z h' x ST "value" "[B" (.ref h.size) ∧ RoadKit.Fld Z h' x ST "coder" "B" (.int 0) ∧
  (∃ V : Cell, RoadKit.Arr Z h' h.size V .byte ∧ V.vm = .none ∧ Z.vm.findClass "[B" = some V.cls ∧ V.slots.size = A.slots.size ∧ ∀ j, j < A.slots.size → V.slots[j]? = some (.int (lo8 (cv A j)))) ∧
  ∀ (O n d : String) (w : Value), RoadKit.Fld Z h x O n d w → RoadKit.slotOf Z O n d ≠ RoadKit.slotOf Z ST "value" "[B" → RoadKit.slotOf Z O n d ≠ RoadKit.slotOf Z ST "coder" "B" → RoadKit.Fld Z h' x O n d w
/-- **new String(chars) AT A CALL, IN THE ROAD'S FORM**: for specialBack behind newO: x the fresh String, b the char[] with the cell A -/
theorem back {p : Program} {l : Launch} {e : Env} {R : Room} {s : State} {args : Array Value} {below : List Frame} {len W : Nat} {Z : State} {a0 : Array Value} {h : Heap} (hZ : Z.Warmed39 s.vm) (hw : ∀ d ∈ words, d.before a0 Z = true) {kI : Nat} (wi : (Jvm.Cond.instantiable ST kI).before a0 Z = true)
    {x b : Addr} {A : Cell} {z : Int32} {v0 c0 : Value} (E : RoadKit.Exa Z h x ST) (V : RoadKit.Fld Z h x ST "value" "[B" v0) (C : RoadKit.Fld Z h x ST "coder" "B" c0) (K : RoadKit.Arr Z h b A .char) (hty : Typed .char A) (S : RoadKit.Sta Z h ST "COMPACT_STRINGS" "Z" (.int z)) (hz : ¬ z = 0)
    (l0 : 0 < A.slots.size) (l2 : A.slots.size ≤ 536870912) (hp : ∀ i, i < A.slots.size → ¬ 255 < cv A i) (hfr : 4 ≤ R.frames) (hlo : W + 65 ≤ R.locals) :
    Back l R p e below s args New1.yN len W (fun P a => a = #[.ref x, .ref b] ∧ P.U.heap = h ∧ P.cells + 1 ≤ R.cells ∧ P.slots + A.slots.size ≤ R.slots)
      (fun P _ v B => ∃ L, Q Z x A h v B.U.heap L ∧ B.locs = P.locs ++ L ∧ B.cells = P.cells + 1 ∧ B.slots = P.slots + A.slots.size) := by
  intro m meth c P g ig mk a X hg hsize hdg hW hn hp'
  obtain ⟨rfl, rfl, r1, r2⟩ := hp'
  have al : Z.vm.Alike P.U.vm := hZ.alike.trans X.warmed.alike
  obtain ⟨D, cfV, kV, iV, fV, hD, gV, stV, knV, obV, asV, slV⟩ := id V
  obtain ⟨D', cfC, kC, iC, fC, hD', gC, stC, -, -, asC, slC⟩ := id C
  cases hD.symm.trans hD'
  obtain ⟨D2, kD, e1, e2, e3, e4, e5⟩ := id E
  cases hD.symm.trans e1
  obtain ⟨c2, k2, i1, i2, i3, -⟩ := Cond.instantiable_spec wi
  cases e2.symm.trans i1
  cases e3.symm.trans i2
  obtain ⟨kU, u1, u2⟩ := al.2.2 _ _ e3
  have hB : Blank ST x D P.U := ⟨hD, ⟨knV, fun q hq => by rw [hq] at obV; cases obV⟩, by rw [al.findClass]; exact e2, kU, u1, by rw [u2]; exact i3, by rw [u2]; exact e5 i3⟩
  have F1 : Found ST "value" "[B" fV P.U := ⟨SBG.found_only al ⟨cfV, kV, iV, gV⟩, stV⟩
  have F2 : Found ST "coder" "B" fC P.U := ⟨SBG.found_only al ⟨cfC, kC, iC, gC⟩, stC⟩
  have hA : Ch b A P.U := ⟨⟨K.1, State.isArrayOf_alike al K.2.1, K.2.2, by omega⟩, hty⟩
  have hS : StaticIs P.U ST "COMPACT_STRINGS" "Z" (.int z) := by
    obtain ⟨cfS, iS, kS, fS, st, cS, t1, t2, t3, t4, t5, t6, t7⟩ := S
    exact StaticIs.there (s := { Z with heap := P.U.heap }) ⟨cfS, iS, kS, fS, st, cS, t1, t2, t3, t4, t5, (fun q => by rw [q] at t6; cases t6), t7⟩ al rfl
  obtain ⟨v, B, X', ⟨⟨hv, E', V', q1, q2, q3, q4, q5, q6, q7, q8, q9, q10, q11⟩, hl, hc, hs⟩, st⟩ := New1.pays x D fV fC b A z (tab_of (moved hZ hw)) hfr hlo m meth c P g ig mk _ X hg hsize hdg hW hn ⟨r1, r2, rfl, hB, F1, F2, hA, hS, hz, l0, l2, hp⟩
  have al' : Z.vm.Alike B.U.vm := hZ.alike.trans X'.warmed.alike
  have hsz : E'.slots.size = D.slots.size := by
    obtain ⟨-, -, -, kB, w1, w2, w3⟩ := q1
    obtain ⟨kB', y1, y2⟩ := al'.2.2 _ _ e3
    rw [q2.2.1] at w1
    cases w1.symm.trans y1
    rw [w3, e5 i3, y2]
  refine ⟨v, B, X', ⟨_, ⟨hv, ?_, ⟨by omega, fun y cy hy hn' => q10 y cy (by simpa using hn') hy, fun y cy hy => ?_⟩, q11, ⟨E', _, q1.1, by rw [q2.2.1]; exact e2, by rw [q2.2.1]; exact e3, by rw [q2.1]; exact obV, fun _ => by rw [hsz]; exact e5 i3⟩,
    ⟨E', cfV, kV, iV, fV, q1.1, gV, stV, by rw [q2.1]; exact knV, by rw [q2.1]; exact obV, by rw [q2.2.1]; exact asV, q3⟩, ⟨E', cfC, kC, iC, fC, q1.1, gC, stC, by rw [q2.1]; exact knV, by rw [q2.1]; exact obV, by rw [q2.2.1]; exact asC, q4⟩,
    ⟨V', ⟨q5.1, State.isArrayOf_alike al'.symm q5.2.1, q5.2.2.1⟩, q6, by rw [← al'.findClass]; exact q7, q8, fun j hj => by have := q9 j hj; rwa [Nat.zero_add] at this⟩, fun O n d w F n1 n2 => ?_⟩, hl, hc, hs⟩, st⟩
  · intro y hy
    simp only [List.mem_cons, List.not_mem_nil, or_false] at hy
    rcases hy with rfl | rfl <;> rfl
  · by_cases q : y = x
    · subst q
      cases hD.symm.trans hy
      exact ⟨E', q1.1, q2.2.1, q2.1, hsz⟩
    · exact ⟨cy, q10 y cy q hy, rfl, rfl, rfl⟩
  · obtain ⟨D3, cf, k, i, f, g1, g2, g3, g4, g5, g6, g7⟩ := F
    cases hD.symm.trans g1
    simp only [RoadKit.slotOf, g2, gV, gC, Option.map_some, Option.getD_some] at n1 n2
    exact ⟨E', cf, k, i, f, q1.1, g2, g3, by rw [q2.1]; exact g4, by rw [q2.1]; exact g5, by rw [q2.2.1]; exact g6, by rw [q2.2.2 f.slot (by simp [n1, n2])]; exact g7⟩
end StrChars.Road
namespace StrChars.Road
open Jvm Sem ClassFile Op Lib Jvm.Stand Jvm.Free Jvm.Free.XT
/-- WHAT COMES BACK, the byte[] as a list of values -/
def QA (Z : State) (x : Addr) (zn : Int32) (cs : List Int32) (h : Heap) (v : Option Value) (h' : Heap) (L : List Loc) : Prop := v = none ∧ (∀ y ∈ L, y.base = x) ∧ RoadKit.Keep h h' [x] ∧ h'.size = h.size + 1 ∧ RoadKit.Exa Z h' x ST ∧ RoadKit.Fld Z h' x ST "value" "[B" (.ref h.size) ∧ RoadKit.Fld Z h' x ST "coder" "B" (.int 0) ∧
  (∃ kb, Z.vm.findClass "[B" = some kb ∧ RoadKit.Arv Z h' h.size kb .byte zn (cs.map fun c => .int (lo8 c)) (.int 0)) ∧
  ∀ (O n d : String) (w : Value), RoadKit.Fld Z h x O n d w → RoadKit.slotOf Z O n d ≠ RoadKit.slotOf Z ST "value" "[B" → RoadKit.slotOf Z O n d ≠ RoadKit.slotOf Z ST "coder" "B" → RoadKit.Fld Z h' x O n d w
/-- **new String(chars) AT A CALL, THE ARRAYS AS LISTS**: the char[] at b holds cs, not empty, no char above 255 -/
theorem backArv {p : Program} {l : Launch} {e : Env} {R : Room} {s : State} {args : Array Value} {below : List Frame} {len W : Nat} {Z : State} {a0 : Array Value} {h : Heap} (hZ : Z.Warmed39 s.vm) (hw : ∀ d ∈ words, d.before a0 Z = true) {kI : Nat} (wi : (Jvm.Cond.instantiable ST kI).before a0 Z = true)
    {x b : Addr} {k : ClassId} {zn z : Int32} {cs : List Int32} {dv v0 c0 : Value} (E : RoadKit.Exa Z h x ST) (V : RoadKit.Fld Z h x ST "value" "[B" v0) (C : RoadKit.Fld Z h x ST "coder" "B" c0) (K : RoadKit.Arv Z h b k .char zn (cs.map Value.int) dv) (S : RoadKit.Sta Z h ST "COMPACT_STRINGS" "Z" (.int z)) (hz : ¬ z = 0)
    (hlen : zn.toNatClampNeg = cs.length) (h0 : 0 < cs.length) (hbig : cs.length ≤ 536870912) (hall : ∀ c ∈ cs, ¬ 255 < c) (hfr : 4 ≤ R.frames) (hlo : W + 65 ≤ R.locals) :
    Back l R p e below s args New1.yN len W (fun P a => a = #[.ref x, .ref b] ∧ P.U.heap = h ∧ P.cells + 1 ≤ R.cells ∧ P.slots + cs.length ≤ R.slots)
      (fun P _ v B => ∃ L, QA Z x zn cs h v B.U.heap L ∧ B.locs = P.locs ++ L ∧ B.cells = P.cells + 1 ∧ B.slots = P.slots + cs.length) := by
  obtain ⟨A, K1, K2, K3, K4, K5, K6⟩ := K
  have e : A.slots.size = cs.length := K3.trans hlen
  have hat : ∀ (i : Nat) (hi : i < cs.length), A.slots[i]? = some (.int cs[i]) := fun i hi => by rw [K5 i (by omega)]; simp [List.getD_eq_getElem?_getD, hi]
  have hcv : ∀ (i : Nat) (hi : i < cs.length), cv A i = cs[i] := fun i hi => by unfold cv; rw [hat i hi]
  have hty : Typed .char A := fun i v hv => by
    have hi : i < A.slots.size := (Array.getElem?_eq_some_iff.mp hv).1
    have q := K5 i hi
    rw [hv] at q
    rw [Option.some.inj q]
    exact K6 i hi
  refine Back.mono (back hZ hw wi E V C K1 hty S hz (by omega) (by omega) (fun i hi => by rw [hcv i (by omega)]; exact hall _ (List.getElem_mem _)) hfr hlo) (fun P a hp => ⟨hp.1, hp.2.1, hp.2.2.1, by rw [e]; exact hp.2.2.2⟩) (fun P a v B hp hq => ?_)
  obtain ⟨L, ⟨q1, q2, q3, q4, q5, q6, q7, ⟨V', v1, v2, v3, v4, v5⟩, q9⟩, hl, hc, hs⟩ := hq
  refine ⟨L, ⟨q1, q2, q3, q4, q5, q6, q7, ⟨V'.cls, v3, V', v1, rfl, by rw [v4, e, hlen], K4, fun i hi => ?_, fun i hi => ?_⟩, q9⟩, hl, hc, by rw [hs, e]⟩
  · have hi' : i < cs.length := by omega
    rw [v5 i (by omega), hcv i hi']; simp [List.getD_eq_getElem?_getD, hi']
  · have hi' : i < cs.length := by omega
    simp only [List.getD_eq_getElem?_getD, List.getElem?_map, List.getElem?_eq_getElem hi', Option.map_some, Option.getD_some]
    exact fits_lo8 _
end StrChars.Road
namespace StrChars.Road
open Jvm Sem ClassFile Op Lib Jvm.Stand Jvm.Free Jvm.Free.XT
/-- WHAT COMES BACK, in the writer's own shape -/
def QV (Z : State) (x : Addr) (N : Int32) (bs : List Int32) (h : Heap) (n0 : Nat) (v : Option Value) (h' : Heap) (L : List Loc) : Prop := v = none ∧ RoadKit.Fr n0 L ∧ RoadKit.Keep h h' [x] ∧ RoadKit.Exa Z h' x ST ∧ RoadKit.Fld Z h' x ST "coder" "B" (.int 0) ∧
  ∃ (t : Addr) (kb : ClassId), n0 ≤ t ∧ h.size ≤ t ∧ ¬ t = x ∧ RoadKit.Fld Z h' x ST "value" "[B" (.ref t) ∧ RoadKit.Arv Z h' t kb .byte N (bs.map Value.int) (.int 0)
/-- **new String(chars) AT A CALL, FOR THE WRITER**: a char[] of n known ints, each 0 to 255 -/
theorem backV {p : Program} {l : Launch} {e : Env} {R : Room} {s : State} {args : Array Value} {below : List Frame} {len W : Nat} {Z : State} {a0 : Array Value} {h : Heap} (hZ : Z.Warmed39 s.vm) (hw : ∀ d ∈ words, d.before a0 Z = true) {kI : Nat} (wi : (Jvm.Cond.instantiable ST kI).before a0 Z = true)
    {x b : Addr} {kC : ClassId} {cs bs : List Int32} {d v0 c0 : Value} {z N : Int32} {n n0 : Nat} (hx0 : n0 ≤ x) (hh0 : n0 ≤ h.size) (E : RoadKit.Exa Z h x ST) (V : RoadKit.Fld Z h x ST "value" "[B" v0) (C : RoadKit.Fld Z h x ST "coder" "B" c0) (K : RoadKit.Arv Z h b kC .char N (cs.map Value.int) d) (S : RoadKit.Sta Z h ST "COMPACT_STRINGS" "Z" (.int z)) (hz : ¬ z = 0)
    (hn : cs.length = n) (hN : N = Int32.ofNat n) (l0 : 0 < n) (l2 : n ≤ 4000) (hp : ∀ c ∈ cs, ¬ c < 0 ∧ ¬ (255 : Int32) < c) (hb : bs = cs.map (fun c => c.toInt8.toInt32)) (hfr : 4 ≤ R.frames) (hlo : W + 65 ≤ R.locals) :
    Back l R p e below s args (⟨"java/lang/String", "<init>", "([C)V"⟩ : MethodName) len W (fun P a => a = #[.ref x, .ref b] ∧ P.U.heap = h ∧ P.cells + 1 ≤ R.cells ∧ P.slots + n ≤ R.slots)
      (fun P _ v B => ∃ L, QV Z x N bs h n0 v B.U.heap L ∧ B.locs = P.locs ++ L ∧ B.cells = P.cells + 1 ∧ B.slots = P.slots + n) := by
  subst hn hN hb
  refine Back.mono (backArv hZ hw wi E V C K S hz (n32 (by omega)) l0 (by omega) (fun c hc => (hp c hc).2) hfr hlo) (fun P a hp => hp) (fun P a v B hp hq => ?_)
  obtain ⟨L, ⟨q1, q2, q3, q4, q5, q6, q7, ⟨kb, v1, v2⟩, q9⟩, hl, hc, hs⟩ := hq
  exact ⟨L, ⟨q1, fun y hy => by rw [q2 y hy]; exact hx0, q3, q5, q7, h.size, kb, hh0, Nat.le_refl _, Nat.ne_of_gt E.lt, q6, by rw [List.map_map]; exact v2⟩, hl, hc, hs⟩
end StrChars.Road
end Jvm.Pilot.@@N@@

namespace Jvm.Pilot.@@N@@
open Jvm Jvm.ClassFile Sem Op Lib Jvm.Free Jvm.Stand Jvm.LawKit Jvm.RoadKit Bundle Jvm.Pilot.@@N@@.Jvm.D
theorem own_eqint {args : Array Value} {first s : State} {o : Option Outcome} {idx : List Nat} {t : Term} {k : Int32} (h : (Jvm.Cond.eq t (.int k)).value args first o s idx = some true) : t.eval args first o idx s = some (.int k) := by
  cases ht : t.eval args first o idx s with
  | none => simp [Cond.value, ht] at h
  | some x => cases x <;> simp [Cond.value, ht, Term.eval] at h ⊢; exact h
theorem own_nar255 (x : Int32) : nar .char ((x &&& (255 : Int32)).toUInt32.toUInt16.toUInt32.toInt32) = x &&& 255 := by simp only [nar, i2c_mask]
theorem own_and255 (x : Int32) : ¬ (x &&& (255 : Int32)) < 0 ∧ ¬ (255 : Int32) < (x &&& (255 : Int32)) := by
  have h := c_and x (255 : Int32) (by decide)
  have e : (255 : Int32).toInt = 255 := by decide
  have z : (0 : Int32).toInt = 0 := by decide
  rw [e] at h
  refine ⟨fun q => ?_, fun q => ?_⟩
  · rw [Int32.lt_iff_toInt_lt, z] at q; omega
  · rw [Int32.lt_iff_toInt_lt, e] at q; omega
theorem own_nar8 (x : Int32) : nar .byte x.toInt8.toInt32 = x.toInt8.toInt32 := by
  show x.toInt8.toInt32.toInt8.toInt32 = x.toInt8.toInt32
  rw [Int8.toInt8_toInt32]
theorem own_ofNat_lt {a b : Nat} (ha : a < 2 ^ 31) (hb : b < 2 ^ 31) : (Int32.ofNat a < Int32.ofNat b) ↔ a < b := by
  rw [Int32.lt_iff_toInt_lt, show (Int32.ofNat a).toInt = a from Int32.toInt_ofNat_small ha, show (Int32.ofNat b).toInt = b from Int32.toInt_ofNat_small hb]; omega
theorem own_ofNat_clamp {a : Nat} (ha : a < 2 ^ 31) : (Int32.ofNat a).toNatClampNeg = a := by
  rw [Int32.toNatClampNeg, show (Int32.ofNat a).toInt = a from Int32.toInt_ofNat_small ha]; rfl
theorem own_ofNat_nneg {a : Nat} (ha : a < 2 ^ 31) : ¬ Int32.ofNat a < 0 := by
  rw [Int32.lt_iff_toInt_lt, show (Int32.ofNat a).toInt = a from Int32.toInt_ofNat_small ha, show (0 : Int32).toInt = 0 from by decide]; omega
theorem own_ofNat_succ (a : Nat) : Int32.ofNat a + (1 : Int32) = Int32.ofNat (a + 1) := by
  rw [Int32.ofNat_add]; rfl
theorem own_ofNat_inj {a b : Nat} (ha : a < 2 ^ 31) (hb : b < 2 ^ 31) (h : Int32.ofNat a = Int32.ofNat b) : a = b := by
  have q := congrArg Int32.toInt h
  rw [show (Int32.ofNat a).toInt = a from Int32.toInt_ofNat_small ha, show (Int32.ofNat b).toInt = b from Int32.toInt_ofNat_small hb] at q; omega
theorem own_mapD (us : List Int32) (i : Nat) : (us.map Value.int).getD i (.int 0) = .int (us.getD i 0) := by
  simp only [List.getD_eq_getElem?_getD, List.getElem?_map]; cases us[i]? <;> rfl
theorem own_all_eq {us us2 : List Int32} (hl : us.length = us2.length) (h : ∀ i, i < us.length → us.getD i 0 = us2.getD i 0) : us = us2 := by
  apply List.ext_getElem hl
  intro i h1 h2
  have q := h i h1
  simpa [List.getD_eq_getElem?_getD, h1, h2] using q
theorem own_arv_same {Z : State} {h : Heap} {t : Addr} {k1 k2 : ClassId} {us us2 : List Int32} (b1 : us.length < 2 ^ 31) (b2 : us2.length < 2 ^ 31) (A : Arv Z h t k1 .byte (Int32.ofNat us.length) (us.map Value.int) (.int 0)) (B : Arv Z h t k2 .byte (Int32.ofNat us2.length) (us2.map Value.int) (.int 0)) : us = us2 := by
  obtain ⟨c1, a1, -, a3, -, a5, -⟩ := A
  obtain ⟨c2, d1, -, d3, -, d5, -⟩ := B
  cases a1.1.symm.trans d1.1
  rw [own_ofNat_clamp b1] at a3
  rw [own_ofNat_clamp b2] at d3
  refine own_all_eq (a3.symm.trans d3) fun i hi => ?_
  have q := (a5 i (by omega)).symm.trans (d5 i (by omega))
  rw [own_mapD, own_mapD] at q
  exact Value.int.inj (Option.some.inj q)
theorem own_selP {Z : State} {a0 : Array Value} {C : String} {y : MethodName} (hs : (Cond.selects C y y).before a0 Z = true) (hi : (Cond.instanceMethod y).before a0 Z = true) (hp : (Cond.privateMethod y).before a0 Z = true) (hy : y.cls ≠ "java/lang/invoke/MethodHandle" ∧ y.cls ≠ "java/lang/invoke/VarHandle") : (Cond.selects y.cls y y).before a0 Z = true := by
  obtain ⟨c2, r2, m2, -, -, q3, -, kP, hkP, hkPi⟩ := Cond.selects_spec hs
  exact selects_self_of_private (findClass_of_methodNamed q3) hkP hkPi (Cond.privateMethod_at hp) hi hy
theorem own_nf {Z : State} {a0 : Array Value} {C : String} {y y' : MethodName} (hs : (Cond.selects C y y).before a0 Z = true) (hc : y'.cls = y.cls) : NotFace Z y' := fun r0 h0 => by
  obtain ⟨c2, r2, m2, -, -, q3, -, kP, hkP, hkPi⟩ := Cond.selects_spec hs
  have e1 := findClass_of_methodNamed q3
  have e2 := findClass_of_methodNamed h0
  rw [hc] at e2
  have e3 : m2.cls = r0.cls := Option.some.inj (e1.symm.trans e2)
  exact ⟨kP, e3 ▸ hkP, hkPi⟩
theorem own_same {Z : State} {a0 : Array Value} {C : String} {x y : MethodName} (hd : (Cond.declares y).before a0 Z = true) (hs : (Cond.selects C x x).before a0 Z = true) (hy : (y.cls = x.cls) ∧ y.cls ≠ "java/lang/invoke/MethodHandle" ∧ y.cls ≠ "java/lang/invoke/VarHandle") : (Cond.sameMethod y.cls y.cls y.name y.desc).before a0 Z = true := by
  obtain ⟨mk, meth, hn, -, -, -⟩ := Cond.declares_spec hd
  obtain ⟨kr, hk, hi⟩ := own_nf hs hy.1 mk hn
  have hf := State.methodFound?_of_named hn hy.2
  have hc := findClass_of_methodNamed hn
  have hn' : Z.methodNamed? ⟨y.cls, y.name, y.desc⟩ = some mk := hn
  simp only [Cond.before, Cond.holds, Cond.value, hc, hf, hn', hk]
  simp; exact hi
theorem own_shr0 (x : Int32) : x >>> ((0 : Int32) &&& 31) = x := by rw [show ((0 : Int32) &&& 31) = 0 from by decide]; exact Int32.shiftRight_zero
theorem own_shl0 (x : Int32) : x <<< ((0 : Int32) &&& 31) = x := by rw [show ((0 : Int32) &&& 31) = 0 from by decide]; exact Int32.shiftLeft_zero
theorem own_i2c255 (x : Int32) : ((x &&& (255 : Int32)).toUInt32.toUInt16.toUInt32.toInt32) = x &&& 255 := by simp only [i2c_mask]
theorem own_nc255 (x : Int32) : nar .char (x &&& (255 : Int32)) = x &&& 255 := own_i2c255 x
def own_fits (sI nI mI cI : Int32) (us ss vd vd' : List Value) : Prop := ¬ cI < 0 ∧ ¬ nI < 0 ∧ nI.toNatClampNeg ≤ sI.toNatClampNeg ∧ cI.toNatClampNeg + nI.toNatClampNeg ≤ mI.toNatClampNeg ∧ us = (List.range nI.toNatClampNeg).map (fun i => ss.getD ((0 : Int32).toNatClampNeg + i) (.int 0)) ∧ cI.toNatClampNeg + nI.toNatClampNeg ≤ vd.length ∧ vd' = vd.take cI.toNatClampNeg ++ us ++ vd.drop (cI.toNatClampNeg + nI.toNatClampNeg)
theorem own_EW {Z : State} {a0 : Array Value} (hw : ∀ d ∈ tables_1, d.before a0 Z = true) : EW Z a0 consts_1 := (EW.cons (hw _ (List.mem_of_getElem? (i := 111) rfl)) (by decide +kernel) (EW.cons (hw _ (List.mem_of_getElem? (i := 61) rfl)) (by decide +kernel) (EW.cons (hw _ (List.mem_of_getElem? (i := 135) rfl)) (by decide +kernel) (EW.cons (hw _ (List.mem_of_getElem? (i := 136) rfl)) (by decide +kernel) EW.nil))))
theorem d9_0 : decode jdk_68_method_2_code 0 = .ok (.aload_n 0, 1) := by decide +kernel
theorem d9_1 : decode jdk_68_method_2_code 1 = .ok (.invokespecial 3, 3) := by decide +kernel
theorem d9_4 : decode jdk_68_method_2_code 4 = .ok (.getstatic 18, 3) := by decide +kernel
theorem d9_7 : decode jdk_68_method_2_code 7 = .ok (.ifCond .eq 18, 3) := by decide +kernel
theorem d9_10 : decode jdk_68_method_2_code 10 = .ok (.aload_n 0, 1) := by decide +kernel
theorem d9_11 : decode jdk_68_method_2_code 11 = .ok (.iload_n 1, 1) := by decide +kernel
theorem d9_12 : decode jdk_68_method_2_code 12 = .ok (.newarray .byte, 2) := by decide +kernel
theorem d9_14 : decode jdk_68_method_2_code 14 = .ok (.putfield 15, 3) := by decide +kernel
theorem d9_17 : decode jdk_68_method_2_code 17 = .ok (.aload_n 0, 1) := by decide +kernel
theorem d9_18 : decode jdk_68_method_2_code 18 = .ok (.iconst 0, 1) := by decide +kernel
theorem d9_19 : decode jdk_68_method_2_code 19 = .ok (.putfield 22, 3) := by decide +kernel
theorem d9_22 : decode jdk_68_method_2_code 22 = .ok (.goto 16, 3) := by decide +kernel
theorem d9_38 : decode jdk_68_method_2_code 38 = .ok (.return_, 1) := by decide +kernel
theorem pn_rmAI : plainName "java/lang/AbstractStringBuilder" = true := by first | (simp [plainName, overriddenIn]; done) | decide +kernel
theorem ef_rmAI (m : MethodId) (a1 : Addr) : entryFrame m #[(.ref a1), (.int (16 : Int32))] 2 = mkF m 0 #[.val (.ref a1), .val (.int (16 : Int32))] [] := by first | (simp [entryFrame, mkF, argsToLocals, Value.category]; done) | rfl
def Q_rmAI (Z : State) (a1 : Addr) (cz : Int32) (h0 : Heap) (n0 : Nat) (v : Option Value) (h : Heap) (L : List Loc) : Prop := v = none ∧ Fr n0 L ∧ Keep h0 h [a1] ∧ ∃ (d : Addr) (kd : ClassId), Fld Z h a1 "java/lang/AbstractStringBuilder" "value" "[B" (.ref d) ∧ Fld Z h a1 "java/lang/AbstractStringBuilder" "coder" "B" (.int 0) ∧ Fld Z h a1 "java/lang/AbstractStringBuilder" "count" "I" (.int (0 : Int32)) ∧ Arv Z h d kd .byte 16 [(.int (0 : Int32)), (.int (0 : Int32)), (.int (0 : Int32)), (.int (0 : Int32)), (.int (0 : Int32)), (.int (0 : Int32)), (.int (0 : Int32)), (.int (0 : Int32)), (.int (0 : Int32)), (.int (0 : Int32)), (.int (0 : Int32)), (.int (0 : Int32)), (.int (0 : Int32)), (.int (0 : Int32)), (.int (0 : Int32)), (.int (0 : Int32))] (.int 0) ∧ h0.size ≤ d
set_option maxRecDepth 65536 in
set_option maxHeartbeats 40000000 in
theorem rmAI (l : Launch) (Z : State) (a0 : Array Value) (hw : ∀ d ∈ tables_1, d.before a0 Z = true) (ws : List Jvm.Cond) (a1 : Addr) (cz : Int32) (h0 : Heap) (n0 : Nat) (O0 : Old Z n0 h0) (Exa_a1 : Exa Z h0 a1 "java/lang/StringBuilder") (F_value_a1 : Fld Z h0 a1 "java/lang/AbstractStringBuilder" "value" "[B" .null) (F_coder_a1 : Fld Z h0 a1 "java/lang/AbstractStringBuilder" "coder" "B" (.int 0)) (F_count_a1 : Fld Z h0 a1 "java/lang/AbstractStringBuilder" "count" "I" (.int (0 : Int32))) (g1 : n0 ≤ a1) (S_COMPACT : Sta Z Z.heap "java/lang/String" "COMPACT_STRINGS" "Z" (.int cz)) (hcz : ¬ cz = 0) :
    MetFree l (⟨"java/lang/AbstractStringBuilder", "<init>", "(I)V"⟩ : MethodName) (head1 (Jvm.Cond.code (⟨"java/lang/AbstractStringBuilder", "<init>", "(I)V"⟩ : MethodName) jdk_68_method_2_code 2 none :: ws) ({ frames := 1, cells := 1, slots := 16, locals := 12 } : Room)) (fun a U => a = #[(.ref a1), (.int (16 : Int32))] ∧ Z.Warmed39 U.vm ∧ U.heap = h0) (fun _ _ _ _ _ => True) (fun _ U o U' => ∃ v L, o = .returned v ∧ Q_rmAI Z a1 cz h0 n0 v U'.heap L ∧ FrameEnd U o U' L ({ frames := 1, cells := 1, slots := 16, locals := 12 } : Room).cells ({ frames := 1, cells := 1, slots := 16, locals := 12 } : Room).slots) := by
  refine MetFree.of_bodySF (plainFor_of_name pn_rmAI) hisR ?_
  intro p e s m args below meth c s₁ Bd hml0 hP hK
  obtain ⟨rfl, hZ, hh⟩ := hP
  have hx := Bd.exec
  have hby := Bd.bytes
  have hml : c.maxLocals = 2 := hml0
  have hown : s.vm.findClass "java/lang/AbstractStringBuilder" = some m.cls := findClass_of_methodNamed Bd.named
  have hnm := (name_of_methodNamed Bd.named Bd.method).1
  have X0 : Stand p l e ({ frames := 1, cells := 1, slots := 16, locals := 12 } : Room) s m #[(.ref a1), (.int (16 : Int32))] below meth c s₁ [] 0 0 := Stand.of_body Bd
  have e0 : s₁.heap = h0 := by rw [← hh, Bd.state]; rfl
  have N0 := Fr.nil n0
  refine Gl.start (Q := Q_rmAI Z a1 cz h0 n0) (ef_rmAI m a1) ?_
  show Gl p e below s _ _ _ s₁ (mkF m 0 #[.val (.ref a1), .val (.int (16 : Int32))] [])
  refine Gl.st (fun _ kk => XS.aloadN X0.here hx rfl (hb hby d9_0) rfl rfl kk) ?_
  show Gl p e below s _ _ _ s₁ (mkF m 1 #[.val (.ref a1), .val (.int (16 : Int32))] [(.ref a1)])
  obtain ⟨T1, X1, e1, st1⟩ := initO X0 hx hZ hown (hw _ (List.mem_of_getElem? (i := 55) rfl)) (hw _ (List.mem_of_getElem? (i := 20) rfl)) (hw _ (List.mem_of_getElem? (i := 21) rfl)) e0 (g := (mkF m 1 #[.val (.ref a1), .val (.int (16 : Int32))] [(.ref a1)])) rfl (by rw [hml]; rfl) rfl (hb hby d9_1) (by decide) (W := 0) (by show 2 * 0 + _ ≤ _; exact Nat.le_of_eq rfl) (by decide)
  refine Gl.st st1 ?_
  show Gl p e below s _ _ _ T1 (mkF m 4 #[.val (.ref a1), .val (.int (16 : Int32))] [])
  obtain ⟨T2, X2, e2, st2⟩ := getS2 X1 hx hZ hown (host := "") (Or.inl (hw _ (List.mem_of_getElem? (i := 56) rfl))) Via.refl e1 (S_COMPACT.ext O0.2) (g := (mkF m 4 #[.val (.ref a1), .val (.int (16 : Int32))] [])) rfl (hb hby d9_4)
  refine Gl.st st2 ?_
  show Gl p e below s _ _ _ T2 (mkF m 7 #[.val (.ref a1), .val (.int (16 : Int32))] [(.int cz)])
  refine Gl.st (fun _ kk => XS.ifNo X2.here hx rfl (hb hby d9_7) rfl ((if0 _ _).trans (feq hcz).1) kk) ?_
  show Gl p e below s _ _ _ T2 (mkF m 10 #[.val (.ref a1), .val (.int (16 : Int32))] [])
  refine Gl.st (fun _ kk => XS.aloadN X2.here hx rfl (hb hby d9_10) rfl rfl kk) ?_
  show Gl p e below s _ _ _ T2 (mkF m 11 #[.val (.ref a1), .val (.int (16 : Int32))] [(.ref a1)])
  refine Gl.st (fun _ kk => XS.iloadN X2.here hx rfl (hb hby d9_11) rfl kk) ?_
  show Gl p e below s _ _ _ T2 (mkF m 12 #[.val (.ref a1), .val (.int (16 : Int32))] [(.int (16 : Int32)), (.ref a1)])
  obtain ⟨T3, h3, ka3, X3, e3, E3, A3, st3⟩ := newP X2 hx hZ (hw _ (List.mem_of_getElem? (i := 14) rfl)) e2 (g := (mkF m 12 #[.val (.ref a1), .val (.int (16 : Int32))] [(.int (16 : Int32)), (.ref a1)])) rfl (hb hby d9_12) rfl (by decide) (cap := 16) (by decide) (by decide) (by decide) (by decide)
  obtain ⟨b3, g3⟩ : ∃ z, z = h0.size := ⟨_, rfl⟩
  rw [← g3] at A3 st3
  refine Gl.st st3 ?_
  have ne_a1_b3 : a1 ≠ b3 := Nat.ne_of_lt (Nat.lt_of_lt_of_eq Exa_a1.lt g3.symm)
  have ge_b3 : n0 ≤ b3 := Nat.le_trans (Nat.le_trans (Nat.le_of_eq O0.1.symm) O0.2.1) (Nat.le_of_eq g3.symm)
  have fr_b3 : h0.size ≤ b3 := Nat.le_trans (Nat.le_refl _) (Nat.le_of_eq g3.symm)
  replace Exa_a1 := Exa_a1.ext E3
  replace F_value_a1 := F_value_a1.ext E3
  replace F_coder_a1 := F_coder_a1.ext E3
  replace F_count_a1 := F_count_a1.ext E3
  have O3 := O0.ext E3
  have K3 := (Keep.refl h0 [a1]).ext E3
  have Arv_b3 : Arv Z h3 b3 ka3 .byte (16 : Int32) [(.int (0 : Int32)), (.int (0 : Int32)), (.int (0 : Int32)), (.int (0 : Int32)), (.int (0 : Int32)), (.int (0 : Int32)), (.int (0 : Int32)), (.int (0 : Int32)), (.int (0 : Int32)), (.int (0 : Int32)), (.int (0 : Int32)), (.int (0 : Int32)), (.int (0 : Int32)), (.int (0 : Int32)), (.int (0 : Int32)), (.int (0 : Int32))] (.int (0 : Int32)) := (Arv.new A3 (by decide)).pad (pad_rep [] (.int (0 : Int32)) 16)
  show Gl p e below s _ _ _ T3 (mkF m 14 #[.val (.ref a1), .val (.int (16 : Int32))] [(.ref b3), (.ref a1)])
  obtain ⟨T4, h4, X4, e4, W4, st4⟩ := putF X3 hx hZ hown (host := "") (Or.inl (hw _ (List.mem_of_getElem? (i := 57) rfl))) Via.refl e3 F_value_a1 Exa_a1 (Or.inl (hw _ (List.mem_of_getElem? (i := 58) rfl))) (hw _ (List.mem_of_getElem? (i := 44) rfl)) (ty := (.array .byte)) (by decide) rfl rfl (g := (mkF m 14 #[.val (.ref a1), .val (.int (16 : Int32))] [(.ref b3), (.ref a1)])) rfl rfl (hb hby d9_14)
  refine Gl.st st4 ?_
  have F_value_a1 := F_value_a1.same W4
  replace Exa_a1 := Exa_a1.wr W4
  replace F_coder_a1 := F_coder_a1.other W4 (Or.inr (slot_ne (Or.inl (hw _ (List.mem_of_getElem? (i := 60) rfl))) (Or.inl (hw _ (List.mem_of_getElem? (i := 58) rfl))) (by decide) (t := .byte) (t' := (.array .byte)) (by decide) (by decide)))
  replace F_count_a1 := F_count_a1.other W4 (Or.inr (slot_ne (Or.inl (hw _ (List.mem_of_getElem? (i := 85) rfl))) (Or.inl (hw _ (List.mem_of_getElem? (i := 58) rfl))) (by decide) (t := .int) (t' := (.array .byte)) (by decide) (by decide)))
  replace Arv_b3 := Arv_b3.other W4 (Ne.symm ne_a1_b3)
  have O4 := O3.wr W4 g1
  have K4 := K3.wr W4 (Or.inl (List.mem_of_getElem? (i := 0) rfl))
  have N4 := Fr.snoc X4 N0 g1
  show Gl p e below s _ _ _ T4 (mkF m 17 #[.val (.ref a1), .val (.int (16 : Int32))] [])
  refine Gl.st (fun _ kk => XS.aloadN X4.here hx rfl (hb hby d9_17) rfl rfl kk) ?_
  show Gl p e below s _ _ _ T4 (mkF m 18 #[.val (.ref a1), .val (.int (16 : Int32))] [(.ref a1)])
  refine Gl.st (fun _ kk => XS.iconst X4.here hx rfl (hb hby d9_18) kk) ?_
  show Gl p e below s _ _ _ T4 (mkF m 19 #[.val (.ref a1), .val (.int (16 : Int32))] [(.int (0 : Int32)), (.ref a1)])
  obtain ⟨T5, h5, X5, e5, W5, st5⟩ := putFN X4 hx hZ hown (hw _ (List.mem_of_getElem? (i := 59) rfl)) Via.refl e4 F_coder_a1 Exa_a1 (Or.inl (hw _ (List.mem_of_getElem? (i := 60) rfl))) (hw _ (List.mem_of_getElem? (i := 44) rfl)) (ty := .byte) (v' := (.int (0 : Int32))) (by decide) rfl rfl (g := (mkF m 19 #[.val (.ref a1), .val (.int (16 : Int32))] [(.int (0 : Int32)), (.ref a1)])) rfl rfl (hb hby d9_19)
  refine Gl.st st5 ?_
  have F_coder_a1 := F_coder_a1.same W5
  replace Exa_a1 := Exa_a1.wr W5
  replace F_value_a1 := F_value_a1.other W5 (Or.inr (slot_ne (Or.inl (hw _ (List.mem_of_getElem? (i := 58) rfl))) (Or.inl (hw _ (List.mem_of_getElem? (i := 60) rfl))) (by decide) (t := (.array .byte)) (t' := .byte) (by decide) (by decide)))
  replace F_count_a1 := F_count_a1.other W5 (Or.inr (slot_ne (Or.inl (hw _ (List.mem_of_getElem? (i := 85) rfl))) (Or.inl (hw _ (List.mem_of_getElem? (i := 60) rfl))) (by decide) (t := .int) (t' := .byte) (by decide) (by decide)))
  replace Arv_b3 := Arv_b3.other W5 (Ne.symm ne_a1_b3)
  have O5 := O4.wr W5 g1
  have K5 := K4.wr W5 (Or.inl (List.mem_of_getElem? (i := 0) rfl))
  have N5 := Fr.snoc X5 N4 g1
  show Gl p e below s _ _ _ T5 (mkF m 22 #[.val (.ref a1), .val (.int (16 : Int32))] [])
  refine Gl.st (fun _ kk => XS.goto X5.here hx rfl (pc0 := 22) (pc' := 38) rfl (hb hby d9_22) (by decide) (by decide) kk) ?_
  show Gl p e below s _ _ _ T5 (mkF m 38 #[.val (.ref a1), .val (.int (16 : Int32))] [])
  exact Gl.ret X5 (v := none) (fun _ => rfl) (BodyLoose.notSynchronized Bd) (fun hr => X5.returnOut hx Bd.returns (hb hby d9_38) hr) e5 ⟨rfl, N5, K5, b3, ka3, F_value_a1, F_coder_a1, F_count_a1, Arv_b3, fr_b3⟩ (by decide) (by decide)
theorem d8_0 : decode jdk_67_method_1_code 0 = .ok (.aload_n 0, 1) := by decide +kernel
theorem d8_1 : decode jdk_67_method_1_code 1 = .ok (.bipush 16, 2) := by decide +kernel
theorem d8_3 : decode jdk_67_method_1_code 3 = .ok (.invokespecial 1, 3) := by decide +kernel
theorem d8_6 : decode jdk_67_method_1_code 6 = .ok (.return_, 1) := by decide +kernel
theorem pd_rmBI_0 : parseMethodDescriptor "(I)V" = some ⟨[.int], none⟩ := by decide +kernel
theorem pn_rmBI : plainName "java/lang/StringBuilder" = true := by first | (simp [plainName, overriddenIn]; done) | decide +kernel
theorem ef_rmBI (m : MethodId) (a1 : Addr) : entryFrame m #[(.ref a1)] 1 = mkF m 0 #[.val (.ref a1)] [] := by first | (simp [entryFrame, mkF, argsToLocals, Value.category]; done) | rfl
def Q_rmBI (Z : State) (a1 : Addr) (cz : Int32) (h0 : Heap) (n0 : Nat) (v : Option Value) (h : Heap) (L : List Loc) : Prop := v = none ∧ Fr n0 L ∧ Keep h0 h [a1] ∧ ∃ (d : Addr) (kd : ClassId), Fld Z h a1 "java/lang/AbstractStringBuilder" "value" "[B" (.ref d) ∧ Fld Z h a1 "java/lang/AbstractStringBuilder" "coder" "B" (.int 0) ∧ Fld Z h a1 "java/lang/AbstractStringBuilder" "count" "I" (.int (0 : Int32)) ∧ Arv Z h d kd .byte 16 [(.int (0 : Int32)), (.int (0 : Int32)), (.int (0 : Int32)), (.int (0 : Int32)), (.int (0 : Int32)), (.int (0 : Int32)), (.int (0 : Int32)), (.int (0 : Int32)), (.int (0 : Int32)), (.int (0 : Int32)), (.int (0 : Int32)), (.int (0 : Int32)), (.int (0 : Int32)), (.int (0 : Int32)), (.int (0 : Int32)), (.int (0 : Int32))] (.int 0) ∧ h0.size ≤ d
set_option maxRecDepth 65536 in
set_option maxHeartbeats 40000000 in
theorem rmBI (l : Launch) (Z : State) (a0 : Array Value) (hw : ∀ d ∈ tables_1, d.before a0 Z = true) (ws : List Jvm.Cond) (a1 : Addr) (cz : Int32) (h0 : Heap) (n0 : Nat) (O0 : Old Z n0 h0) (Exa_a1 : Exa Z h0 a1 "java/lang/StringBuilder") (F_value_a1 : Fld Z h0 a1 "java/lang/AbstractStringBuilder" "value" "[B" .null) (F_coder_a1 : Fld Z h0 a1 "java/lang/AbstractStringBuilder" "coder" "B" (.int 0)) (F_count_a1 : Fld Z h0 a1 "java/lang/AbstractStringBuilder" "count" "I" (.int (0 : Int32))) (g1 : n0 ≤ a1) (S_COMPACT : Sta Z Z.heap "java/lang/String" "COMPACT_STRINGS" "Z" (.int cz)) (hcz : ¬ cz = 0) :
    MetFree l (⟨"java/lang/StringBuilder", "<init>", "()V"⟩ : MethodName) (head1 (Jvm.Cond.code (⟨"java/lang/StringBuilder", "<init>", "()V"⟩ : MethodName) jdk_67_method_1_code 1 none :: ws) ({ frames := 2, cells := 1, slots := 16, locals := 25 } : Room)) (fun a U => a = #[(.ref a1)] ∧ Z.Warmed39 U.vm ∧ U.heap = h0) (fun _ _ _ _ _ => True) (fun _ U o U' => ∃ v L, o = .returned v ∧ Q_rmBI Z a1 cz h0 n0 v U'.heap L ∧ FrameEnd U o U' L ({ frames := 2, cells := 1, slots := 16, locals := 25 } : Room).cells ({ frames := 2, cells := 1, slots := 16, locals := 25 } : Room).slots) := by
  refine MetFree.of_bodySF (plainFor_of_name pn_rmBI) hisR ?_
  intro p e s m args below meth c s₁ Bd hml0 hP hK
  obtain ⟨rfl, hZ, hh⟩ := hP
  have hx := Bd.exec
  have hby := Bd.bytes
  have hml : c.maxLocals = 1 := hml0
  have hown : s.vm.findClass "java/lang/StringBuilder" = some m.cls := findClass_of_methodNamed Bd.named
  have hnm := (name_of_methodNamed Bd.named Bd.method).1
  have X0 : Stand p l e ({ frames := 2, cells := 1, slots := 16, locals := 25 } : Room) s m #[(.ref a1)] below meth c s₁ [] 0 0 := Stand.of_body Bd
  have e0 : s₁.heap = h0 := by rw [← hh, Bd.state]; rfl
  have N0 := Fr.nil n0
  refine Gl.start (Q := Q_rmBI Z a1 cz h0 n0) (ef_rmBI m a1) ?_
  show Gl p e below s _ _ _ s₁ (mkF m 0 #[.val (.ref a1)] [])
  refine Gl.st (fun _ kk => XS.aloadN X0.here hx rfl (hb hby d8_0) rfl rfl kk) ?_
  show Gl p e below s _ _ _ s₁ (mkF m 1 #[.val (.ref a1)] [(.ref a1)])
  refine Gl.st (fun _ kk => XS.bipush X0.here hx rfl (hb hby d8_1) kk) ?_
  show Gl p e below s _ _ _ s₁ (mkF m 3 #[.val (.ref a1)] [(.int (16 : Int32)), (.ref a1)])
  have lq1_a1 := Exa_a1.lt
  obtain ⟨v1, _, ⟨T1, L1, kQ1, nQ1⟩, -, X1, ⟨Lc1, hQ1, l1, y1, z1⟩, st1⟩ := X0.specialBack hx (y := (⟨"java/lang/AbstractStringBuilder", "<init>", "(I)V"⟩ : MethodName)) rfl hown (mvT hZ (hw _ (List.mem_of_getElem? (i := 49) rfl))) (mvT hZ (hw _ (List.mem_of_getElem? (i := 50) rfl))) (mvT hZ (hw _ (List.mem_of_getElem? (i := 54) rfl))) (by decide) (backOf (W := 0) (rmAI l Z a0 hw [] a1 cz h0 n0 O0 Exa_a1 F_value_a1 F_coder_a1 F_count_a1 g1 S_COMPACT hcz) hZ (hw _ (List.mem_of_getElem? (i := 54) rfl)) (hw _ (List.mem_of_getElem? (i := 53) rfl)) (by decide) (by decide)) (g := (mkF m 3 #[.val (.ref a1)] [(.int (16 : Int32)), (.ref a1)])) rfl (by rw [hml]; rfl) (Steps.refl _) (a := a1) (argsL := [(.int (16 : Int32))]) (rest := []) (lenOf pd_rmBI_0 rfl) rfl (by show 2 * 0 + _ ≤ _; exact Nat.le_of_eq rfl) (hb hby d8_3) (fun _ _ => ⟨rfl, e0, (by decide : 0 + 1 ≤ _), (by decide : 0 + 16 ≤ _)⟩)
  dsimp only [Pt.U, Pt.locs, Pt.cells, Pt.slots] at X1 l1 y1 z1 st1 hQ1
  subst y1 z1
  obtain ⟨h1, e1⟩ : ∃ z, T1.heap = z := ⟨_, rfl⟩
  rw [e1] at hQ1
  obtain ⟨rfl, Nq1, Kq1, d1, kd1, Fvalue1, Fcoder1, Fcount1, Arv_d1, frd1⟩ := hQ1
  have N1 : Fr n0 L1 := l1 ▸ Fr.app N0 Nq1
  refine Gl.st (fun _ kk => st1.trans kk) ?_
  replace Exa_a1 := Exa_a1.keep Kq1
  have O1 := O0.keep Kq1 (allS g1 all0)
  have K1 := (Keep.refl h0 [a1]).trans Kq1 (allS (Or.inl (List.mem_of_getElem? (i := 0) rfl)) all0)
  have ne_a1_d1 : a1 ≠ d1 := Nat.ne_of_lt (Nat.lt_of_lt_of_le lq1_a1 frd1)
  have ge_d1 : n0 ≤ d1 := Nat.le_trans (Nat.le_trans (Nat.le_of_eq O0.1.symm) O0.2.1) frd1
  have fr_d1 : h0.size ≤ d1 := frd1
  have F_value_a1 := Fvalue1
  have F_coder_a1 := Fcoder1
  have F_count_a1 := Fcount1
  clear st1
  show Gl p e below s _ _ _ T1 (mkF m 6 #[.val (.ref a1)] [])
  exact Gl.ret X1 (v := none) (fun _ => rfl) (BodyLoose.notSynchronized Bd) (fun hr => X1.returnOut hx Bd.returns (hb hby d8_6) hr) e1 ⟨rfl, N1, K1, d1, kd1, F_value_a1, F_coder_a1, F_count_a1, Arv_d1, fr_d1⟩ (by decide) (by decide)
theorem d13_0 : decode jdk_42_method_152_code 0 = .ok (.getstatic 38, 3) := by decide +kernel
theorem d13_3 : decode jdk_42_method_152_code 3 = .ok (.ifCond .eq 10, 3) := by decide +kernel
theorem d13_6 : decode jdk_42_method_152_code 6 = .ok (.aload_n 0, 1) := by decide +kernel
theorem d13_7 : decode jdk_42_method_152_code 7 = .ok (.getfield 15, 3) := by decide +kernel
theorem d13_10 : decode jdk_42_method_152_code 10 = .ok (.goto 4, 3) := by decide +kernel
theorem d13_14 : decode jdk_42_method_152_code 14 = .ok (.ireturn, 1) := by decide +kernel
theorem pn_rmCO : plainName "java/lang/String" = true := by first | (simp [plainName, overriddenIn]; done) | decide +kernel
theorem ef_rmCO (m : MethodId) (x : Addr) : entryFrame m #[(.ref x)] 1 = mkF m 0 #[.val (.ref x)] [] := by first | (simp [entryFrame, mkF, argsToLocals, Value.category]; done) | rfl
def Q_rmCO (Z : State) (x : Addr) (cz : Int32) (h0 : Heap) (n0 : Nat) (v : Option Value) (h : Heap) (L : List Loc) : Prop := v = some (.int 0) ∧ Fr n0 L ∧ h = h0
set_option maxRecDepth 65536 in
set_option maxHeartbeats 40000000 in
theorem rmCO (l : Launch) (Z : State) (a0 : Array Value) (hw : ∀ d ∈ tables_1, d.before a0 Z = true) (ws : List Jvm.Cond) (x : Addr) (cz : Int32) (h0 : Heap) (n0 : Nat) (O0 : Old Z n0 h0) (F_coder_x : Fld Z h0 x "java/lang/String" "coder" "B" (.int 0)) (S_COMPACT : Sta Z Z.heap "java/lang/String" "COMPACT_STRINGS" "Z" (.int cz)) (hcz : ¬ cz = 0) :
    MetFree l (⟨"java/lang/String", "coder", "()B"⟩ : MethodName) (head1 (Jvm.Cond.code (⟨"java/lang/String", "coder", "()B"⟩ : MethodName) jdk_42_method_152_code 1 (some .byte) :: ws) ({ frames := 0, cells := 0, slots := 0, locals := 0 } : Room)) (fun a U => a = #[(.ref x)] ∧ Z.Warmed39 U.vm ∧ U.heap = h0) (fun _ _ _ _ _ => True) (fun _ U o U' => ∃ v L, o = .returned v ∧ Q_rmCO Z x cz h0 n0 v U'.heap L ∧ FrameEnd U o U' L ({ frames := 0, cells := 0, slots := 0, locals := 0 } : Room).cells ({ frames := 0, cells := 0, slots := 0, locals := 0 } : Room).slots) := by
  refine MetFree.of_bodySF (plainFor_of_name pn_rmCO) hisR ?_
  intro p e s m args below meth c s₁ Bd hml0 hP hK
  obtain ⟨rfl, hZ, hh⟩ := hP
  have hx := Bd.exec
  have hby := Bd.bytes
  have hml : c.maxLocals = 1 := hml0
  have hown : s.vm.findClass "java/lang/String" = some m.cls := findClass_of_methodNamed Bd.named
  have hnm := (name_of_methodNamed Bd.named Bd.method).1
  have X0 : Stand p l e ({ frames := 0, cells := 0, slots := 0, locals := 0 } : Room) s m #[(.ref x)] below meth c s₁ [] 0 0 := Stand.of_body Bd
  have e0 : s₁.heap = h0 := by rw [← hh, Bd.state]; rfl
  have N0 := Fr.nil n0
  refine Gl.start (Q := Q_rmCO Z x cz h0 n0) (ef_rmCO m x) ?_
  show Gl p e below s _ _ _ s₁ (mkF m 0 #[.val (.ref x)] [])
  obtain ⟨T1, X1, e1, st1⟩ := getS2 X0 hx hZ hown (host := "") (Or.inl (hw _ (List.mem_of_getElem? (i := 4) rfl))) Via.refl e0 (S_COMPACT.ext O0.2) (g := (mkF m 0 #[.val (.ref x)] [])) rfl (hb hby d13_0)
  refine Gl.st st1 ?_
  show Gl p e below s _ _ _ T1 (mkF m 3 #[.val (.ref x)] [(.int cz)])
  refine Gl.st (fun _ kk => XS.ifNo X1.here hx rfl (hb hby d13_3) rfl ((if0 _ _).trans (feq hcz).1) kk) ?_
  show Gl p e below s _ _ _ T1 (mkF m 6 #[.val (.ref x)] [])
  refine Gl.st (fun _ kk => XS.aloadN X1.here hx rfl (hb hby d13_6) rfl rfl kk) ?_
  show Gl p e below s _ _ _ T1 (mkF m 7 #[.val (.ref x)] [(.ref x)])
  obtain ⟨T2, X2, e2, st2⟩ := getF X1 hx hZ hown (host := "") (Or.inl (hw _ (List.mem_of_getElem? (i := 24) rfl))) Via.refl e1 F_coder_x (g := (mkF m 7 #[.val (.ref x)] [(.ref x)])) rfl rfl (hb hby d13_7)
  refine Gl.st st2 ?_
  show Gl p e below s _ _ _ T2 (mkF m 10 #[.val (.ref x)] [(.int (0 : Int32))])
  refine Gl.st (fun _ kk => XS.goto X2.here hx rfl (pc0 := 10) (pc' := 14) rfl (hb hby d13_10) (by decide) (by decide) kk) ?_
  show Gl p e below s _ _ _ T2 (mkF m 14 #[.val (.ref x)] [(.int (0 : Int32))])
  exact Gl.ret X2 (v := (some (.int (0 : Int32)))) (fun h => by rw [Bd.returns] at h; cases h) (BodyLoose.notSynchronized Bd) (fun hr => retN X2 hx (t := .byte) Bd.returns (by simp) (hb hby d13_14) hr) e2 ⟨rfl, N0, rfl⟩ (by decide) (by decide)
theorem d12_0 : decode jdk_42_method_54_code 0 = .ok (.aload_n 0, 1) := by decide +kernel
theorem d12_1 : decode jdk_42_method_54_code 1 = .ok (.getfield 9, 3) := by decide +kernel
theorem d12_4 : decode jdk_42_method_54_code 4 = .ok (.arraylength, 1) := by decide +kernel
theorem d12_5 : decode jdk_42_method_54_code 5 = .ok (.aload_n 0, 1) := by decide +kernel
theorem d12_6 : decode jdk_42_method_54_code 6 = .ok (.invokevirtual 335, 3) := by decide +kernel
theorem d12_9 : decode jdk_42_method_54_code 9 = .ok (.ishr, 1) := by decide +kernel
theorem d12_10 : decode jdk_42_method_54_code 10 = .ok (.ireturn, 1) := by decide +kernel
theorem pd_rmLN_0 : parseMethodDescriptor "()B" = some ⟨[], some .byte⟩ := by decide +kernel
theorem pn_rmLN : plainName "java/lang/String" = true := by first | (simp [plainName, overriddenIn]; done) | decide +kernel
theorem ef_rmLN (m : MethodId) (x : Addr) : entryFrame m #[(.ref x)] 1 = mkF m 0 #[.val (.ref x)] [] := by first | (simp [entryFrame, mkF, argsToLocals, Value.category]; done) | rfl
def Q_rmLN (Z : State) (x : Addr) (t : Addr) (k : ClassId) (nI : Int32) (us : List Value) (cz : Int32) (h0 : Heap) (n0 : Nat) (v : Option Value) (h : Heap) (L : List Loc) : Prop := v = some (.int nI) ∧ Fr n0 L ∧ h = h0
set_option maxRecDepth 65536 in
set_option maxHeartbeats 40000000 in
theorem rmLN (l : Launch) (Z : State) (a0 : Array Value) (hw : ∀ d ∈ tables_1, d.before a0 Z = true) (ws : List Jvm.Cond) (x : Addr) (t : Addr) (k : ClassId) (nI : Int32) (us : List Value) (cz : Int32) (h0 : Heap) (n0 : Nat) (O0 : Old Z n0 h0) (Exa_x : Exa Z h0 x "java/lang/String") (F_value_x : Fld Z h0 x "java/lang/String" "value" "[B" (.ref t)) (F_coder_x : Fld Z h0 x "java/lang/String" "coder" "B" (.int 0)) (Arv_t : Arv Z h0 t k .byte nI us (.int 0)) (S_COMPACT : Sta Z Z.heap "java/lang/String" "COMPACT_STRINGS" "Z" (.int cz)) (hcz : ¬ cz = 0) :
    MetFree l (⟨"java/lang/String", "length", "()I"⟩ : MethodName) (head1 (Jvm.Cond.code (⟨"java/lang/String", "length", "()I"⟩ : MethodName) jdk_42_method_54_code 1 (some .int) :: ws) ({ frames := 1, cells := 0, slots := 0, locals := 13 } : Room)) (fun a U => a = #[(.ref x)] ∧ Z.Warmed39 U.vm ∧ U.heap = h0) (fun _ _ _ _ _ => True) (fun _ U o U' => ∃ v L, o = .returned v ∧ Q_rmLN Z x t k nI us cz h0 n0 v U'.heap L ∧ FrameEnd U o U' L ({ frames := 1, cells := 0, slots := 0, locals := 13 } : Room).cells ({ frames := 1, cells := 0, slots := 0, locals := 13 } : Room).slots) := by
  refine MetFree.of_bodySF (plainFor_of_name pn_rmLN) hisR ?_
  intro p e s m args below meth c s₁ Bd hml0 hP hK
  obtain ⟨rfl, hZ, hh⟩ := hP
  have hx := Bd.exec
  have hby := Bd.bytes
  have hml : c.maxLocals = 1 := hml0
  have hown : s.vm.findClass "java/lang/String" = some m.cls := findClass_of_methodNamed Bd.named
  have hnm := (name_of_methodNamed Bd.named Bd.method).1
  have X0 : Stand p l e ({ frames := 1, cells := 0, slots := 0, locals := 13 } : Room) s m #[(.ref x)] below meth c s₁ [] 0 0 := Stand.of_body Bd
  have e0 : s₁.heap = h0 := by rw [← hh, Bd.state]; rfl
  have N0 := Fr.nil n0
  refine Gl.start (Q := Q_rmLN Z x t k nI us cz h0 n0) (ef_rmLN m x) ?_
  show Gl p e below s _ _ _ s₁ (mkF m 0 #[.val (.ref x)] [])
  refine Gl.st (fun _ kk => XS.aloadN X0.here hx rfl (hb hby d12_0) rfl rfl kk) ?_
  show Gl p e below s _ _ _ s₁ (mkF m 1 #[.val (.ref x)] [(.ref x)])
  obtain ⟨T1, X1, e1, st1⟩ := getF X0 hx hZ hown (host := "") (Or.inl (hw _ (List.mem_of_getElem? (i := 22) rfl))) Via.refl e0 F_value_x (g := (mkF m 1 #[.val (.ref x)] [(.ref x)])) rfl rfl (hb hby d12_1)
  refine Gl.st st1 ?_
  show Gl p e below s _ _ _ T1 (mkF m 4 #[.val (.ref x)] [(.ref t)])
  obtain ⟨cl2, Ar2, q2, Sz2, Ng2, Ha2, Fi2⟩ := id Arv_t
  refine Gl.st (fun _ kk => X1.arraylength hx (by rw [e1]; exact Ar2.1) (State.isArrayOf_alike hZ.alike Ar2.2.1) (g := (mkF m 4 #[.val (.ref x)] [(.ref t)])) rfl rfl (hb hby d12_4) _ kk) ?_
  rw [len_of Sz2 Ng2]
  show Gl p e below s _ _ _ T1 (mkF m 5 #[.val (.ref x)] [(.int nI)])
  refine Gl.st (fun _ kk => XS.aloadN X1.here hx rfl (hb hby d12_5) rfl rfl kk) ?_
  show Gl p e below s _ _ _ T1 (mkF m 6 #[.val (.ref x)] [(.ref x), (.int nI)])
  obtain ⟨cq3, kq3, qa3, qb3, qc3⟩ := isOf hZ e1 Exa_x
  obtain ⟨v3, _, ⟨T3, L3, kQ3, nQ3⟩, -, X3, ⟨Lc3, hQ3, l3, y3, z3⟩, st3⟩ := X1.virtualBack hx (y := (⟨"java/lang/String", "coder", "()B"⟩ : MethodName)) (z := (⟨"java/lang/String", "coder", "()B"⟩ : MethodName)) hown (mvT hZ (hw _ (List.mem_of_getElem? (i := 79) rfl))) (mvT hZ (hw _ (List.mem_of_getElem? (i := 80) rfl))) (notFace_of_selects (args := #[]) (mvT hZ (hw _ (List.mem_of_getElem? (i := 82) rfl)))) (mvT hZ (hw _ (List.mem_of_getElem? (i := 82) rfl))) (mvT hZ (hw _ (List.mem_of_getElem? (i := 81) rfl))) (by decide) (backOf (W := 1) (rmCO l Z a0 hw [] x cz h0 n0 O0 F_coder_x S_COMPACT hcz) hZ (hw _ (List.mem_of_getElem? (i := 83) rfl)) (hw _ (List.mem_of_getElem? (i := 2) rfl)) (by decide) (by decide)) qa3 qc3 (g := (mkF m 6 #[.val (.ref x)] [(.ref x), (.int nI)])) rfl (by rw [hml]; rfl) (Steps.refl _) (argsL := []) (rest := [(.int nI)]) (lenOf pd_rmLN_0 rfl) rfl (by show 2 * 0 + _ ≤ _; exact Nat.le_of_eq rfl) (hb hby d12_6) (fun _ _ => ⟨rfl, e1, (by decide : 0 + 0 ≤ _), (by decide : 0 + 0 ≤ _)⟩)
  dsimp only [Pt.U, Pt.locs, Pt.cells, Pt.slots] at X3 l3 y3 z3 st3 hQ3
  subst y3 z3
  obtain ⟨rfl, Nq3, e3⟩ := hQ3
  have N3 : Fr n0 L3 := l3 ▸ Fr.app N0 Nq3
  refine Gl.st (fun _ kk => st3.trans kk) ?_
  clear st3 qc3 qb3 qa3 kq3 cq3
  clear X1 e1
  show Gl p e below s _ _ _ T3 (mkF m 9 #[.val (.ref x)] [(.int (0 : Int32)), (.int nI)])
  refine Gl.st (fun _ kk => XS.ishr X3.here hx rfl (hb hby d12_9) rfl kk) ?_
  show Gl p e below s _ _ _ T3 (mkF m 10 #[.val (.ref x)] [(.int (nI >>> ((0 : Int32) &&& 31)))])
  rw [own_shr0]
  show Gl p e below s _ _ _ T3 (mkF m 10 #[.val (.ref x)] [(.int nI)])
  exact Gl.ret X3 (v := (some (.int nI))) (fun h => by rw [Bd.returns] at h; cases h) (BodyLoose.notSynchronized Bd) (fun hr => retI X3 hx Bd.returns (hb hby d12_10) hr) e3 ⟨rfl, N3, rfl⟩ (by decide) (by decide)
theorem d17_0 : decode jdk_42_method_147_code 0 = .ok (.aload_n 0, 1) := by decide +kernel
theorem d17_1 : decode jdk_42_method_147_code 1 = .ok (.invokevirtual 335, 3) := by decide +kernel
theorem d17_4 : decode jdk_42_method_147_code 4 = .ok (.iload_n 3, 1) := by decide +kernel
theorem d17_5 : decode jdk_42_method_147_code 5 = .ok (.if_icmp .ne 23, 3) := by decide +kernel
theorem d17_8 : decode jdk_42_method_147_code 8 = .ok (.aload_n 0, 1) := by decide +kernel
theorem d17_9 : decode jdk_42_method_147_code 9 = .ok (.getfield 9, 3) := by decide +kernel
theorem d17_12 : decode jdk_42_method_147_code 12 = .ok (.iconst 0, 1) := by decide +kernel
theorem d17_13 : decode jdk_42_method_147_code 13 = .ok (.aload_n 1, 1) := by decide +kernel
theorem d17_14 : decode jdk_42_method_147_code 14 = .ok (.iload_n 2, 1) := by decide +kernel
theorem d17_15 : decode jdk_42_method_147_code 15 = .ok (.iload_n 3, 1) := by decide +kernel
theorem d17_16 : decode jdk_42_method_147_code 16 = .ok (.ishl, 1) := by decide +kernel
theorem d17_17 : decode jdk_42_method_147_code 17 = .ok (.aload_n 0, 1) := by decide +kernel
theorem d17_18 : decode jdk_42_method_147_code 18 = .ok (.getfield 9, 3) := by decide +kernel
theorem d17_21 : decode jdk_42_method_147_code 21 = .ok (.arraylength, 1) := by decide +kernel
theorem d17_22 : decode jdk_42_method_147_code 22 = .ok (.invokestatic 212, 3) := by decide +kernel
theorem d17_25 : decode jdk_42_method_147_code 25 = .ok (.goto 18, 3) := by decide +kernel
theorem d17_43 : decode jdk_42_method_147_code 43 = .ok (.return_, 1) := by decide +kernel
theorem pd_rmGB_0 : parseMethodDescriptor "()B" = some ⟨[], some .byte⟩ := by decide +kernel
theorem pn_rmGB : plainName "java/lang/String" = true := by first | (simp [plainName, overriddenIn]; done) | decide +kernel
theorem ef_rmGB (m : MethodId) (x : Addr) (d : Addr) (cI : Int32) : entryFrame m #[(.ref x), (.ref d), (.int cI), (.int (0 : Int32))] 4 = mkF m 0 #[.val (.ref x), .val (.ref d), .val (.int cI), .val (.int (0 : Int32))] [] := by first | (simp [entryFrame, mkF, argsToLocals, Value.category]; done) | rfl
def Q_rmGB (Z : State) (x : Addr) (d : Addr) (cI : Int32) (t : Addr) (k : ClassId) (nI : Int32) (us : List Value) (kd : ClassId) (mI : Int32) (vd vd' : List Value) (cz : Int32) (h0 : Heap) (n0 : Nat) (v : Option Value) (h : Heap) (L : List Loc) : Prop := v = none ∧ Fr n0 L ∧ Keep h0 h [d] ∧ Arv Z h d kd .byte mI vd' (.int 0)
set_option maxRecDepth 65536 in
set_option maxHeartbeats 40000000 in
theorem rmGB (l : Launch) (Z : State) (a0 : Array Value) (hw : ∀ d ∈ tables_1, d.before a0 Z = true) (ws : List Jvm.Cond) (x : Addr) (d : Addr) (cI : Int32) (t : Addr) (k : ClassId) (nI : Int32) (us : List Value) (kd : ClassId) (mI : Int32) (vd vd' : List Value) (cz : Int32) (h0 : Heap) (n0 : Nat) (O0 : Old Z n0 h0) (Exa_x : Exa Z h0 x "java/lang/String") (F_value_x : Fld Z h0 x "java/lang/String" "value" "[B" (.ref t)) (F_coder_x : Fld Z h0 x "java/lang/String" "coder" "B" (.int 0)) (Arv_t : Arv Z h0 t k .byte nI us (.int 0)) (Arv_d : Arv Z h0 d kd .byte mI vd (.int 0)) (hf : own_fits nI nI mI cI us us vd vd') (gd : n0 ≤ d) (ntd : t ≠ d) (nxd : x ≠ d) (S_COMPACT : Sta Z Z.heap "java/lang/String" "COMPACT_STRINGS" "Z" (.int cz)) (hcz : ¬ cz = 0) :
    MetFree l (⟨"java/lang/String", "getBytes", "([BIB)V"⟩ : MethodName) (head1 (Jvm.Cond.code (⟨"java/lang/String", "getBytes", "([BIB)V"⟩ : MethodName) jdk_42_method_147_code 4 none :: ws) ({ frames := 1, cells := 0, slots := 0, locals := 18 } : Room)) (fun a U => a = #[(.ref x), (.ref d), (.int cI), (.int (0 : Int32))] ∧ Z.Warmed39 U.vm ∧ U.heap = h0) (fun _ _ _ _ _ => True) (fun _ U o U' => ∃ v L, o = .returned v ∧ Q_rmGB Z x d cI t k nI us kd mI vd vd' cz h0 n0 v U'.heap L ∧ FrameEnd U o U' L ({ frames := 1, cells := 0, slots := 0, locals := 18 } : Room).cells ({ frames := 1, cells := 0, slots := 0, locals := 18 } : Room).slots) := by
  refine MetFree.of_bodySF (plainFor_of_name pn_rmGB) hisR ?_
  intro p e s m args below meth c s₁ Bd hml0 hP hK
  obtain ⟨rfl, hZ, hh⟩ := hP
  have hx := Bd.exec
  have hby := Bd.bytes
  have hml : c.maxLocals = 4 := hml0
  have hown : s.vm.findClass "java/lang/String" = some m.cls := findClass_of_methodNamed Bd.named
  have hnm := (name_of_methodNamed Bd.named Bd.method).1
  have X0 : Stand p l e ({ frames := 1, cells := 0, slots := 0, locals := 18 } : Room) s m #[(.ref x), (.ref d), (.int cI), (.int (0 : Int32))] below meth c s₁ [] 0 0 := Stand.of_body Bd
  have e0 : s₁.heap = h0 := by rw [← hh, Bd.state]; rfl
  have N0 := Fr.nil n0
  refine Gl.start (Q := Q_rmGB Z x d cI t k nI us kd mI vd vd' cz h0 n0) (ef_rmGB m x d cI) ?_
  show Gl p e below s _ _ _ s₁ (mkF m 0 #[.val (.ref x), .val (.ref d), .val (.int cI), .val (.int (0 : Int32))] [])
  refine Gl.st (fun _ kk => XS.aloadN X0.here hx rfl (hb hby d17_0) rfl rfl kk) ?_
  show Gl p e below s _ _ _ s₁ (mkF m 1 #[.val (.ref x), .val (.ref d), .val (.int cI), .val (.int (0 : Int32))] [(.ref x)])
  obtain ⟨cq1, kq1, qa1, qb1, qc1⟩ := isOf hZ e0 Exa_x
  obtain ⟨v1, _, ⟨T1, L1, kQ1, nQ1⟩, -, X1, ⟨Lc1, hQ1, l1, y1, z1⟩, st1⟩ := X0.virtualBack hx (y := (⟨"java/lang/String", "coder", "()B"⟩ : MethodName)) (z := (⟨"java/lang/String", "coder", "()B"⟩ : MethodName)) hown (mvT hZ (hw _ (List.mem_of_getElem? (i := 79) rfl))) (mvT hZ (hw _ (List.mem_of_getElem? (i := 80) rfl))) (notFace_of_selects (args := #[]) (mvT hZ (hw _ (List.mem_of_getElem? (i := 82) rfl)))) (mvT hZ (hw _ (List.mem_of_getElem? (i := 82) rfl))) (mvT hZ (hw _ (List.mem_of_getElem? (i := 81) rfl))) (by decide) (backOf (W := 0) (rmCO l Z a0 hw [] x cz h0 n0 O0 F_coder_x S_COMPACT hcz) hZ (hw _ (List.mem_of_getElem? (i := 83) rfl)) (hw _ (List.mem_of_getElem? (i := 2) rfl)) (by decide) (by decide)) qa1 qc1 (g := (mkF m 1 #[.val (.ref x), .val (.ref d), .val (.int cI), .val (.int (0 : Int32))] [(.ref x)])) rfl (by rw [hml]; rfl) (Steps.refl _) (argsL := []) (rest := []) (lenOf pd_rmGB_0 rfl) rfl (by show 2 * 0 + _ ≤ _; exact Nat.le_of_eq rfl) (hb hby d17_1) (fun _ _ => ⟨rfl, e0, (by decide : 0 + 0 ≤ _), (by decide : 0 + 0 ≤ _)⟩)
  dsimp only [Pt.U, Pt.locs, Pt.cells, Pt.slots] at X1 l1 y1 z1 st1 hQ1
  subst y1 z1
  obtain ⟨rfl, Nq1, e1⟩ := hQ1
  have N1 : Fr n0 L1 := l1 ▸ Fr.app N0 Nq1
  refine Gl.st (fun _ kk => st1.trans kk) ?_
  clear st1 qc1 qb1 qa1 kq1 cq1
  show Gl p e below s _ _ _ T1 (mkF m 4 #[.val (.ref x), .val (.ref d), .val (.int cI), .val (.int (0 : Int32))] [(.int (0 : Int32))])
  refine Gl.st (fun _ kk => XS.iloadN X1.here hx rfl (hb hby d17_4) rfl kk) ?_
  show Gl p e below s _ _ _ T1 (mkF m 5 #[.val (.ref x), .val (.ref d), .val (.int cI), .val (.int (0 : Int32))] [(.int (0 : Int32)), (.int (0 : Int32))])
  refine Gl.st (fun _ kk => XS.icmpNo X1.here hx rfl (hb hby d17_5) rfl (teq (by decide : (0 : Int32) = (0 : Int32))).2 kk) ?_
  show Gl p e below s _ _ _ T1 (mkF m 8 #[.val (.ref x), .val (.ref d), .val (.int cI), .val (.int (0 : Int32))] [])
  refine Gl.st (fun _ kk => XS.aloadN X1.here hx rfl (hb hby d17_8) rfl rfl kk) ?_
  show Gl p e below s _ _ _ T1 (mkF m 9 #[.val (.ref x), .val (.ref d), .val (.int cI), .val (.int (0 : Int32))] [(.ref x)])
  obtain ⟨T2, X2, e2, st2⟩ := getF X1 hx hZ hown (host := "") (Or.inl (hw _ (List.mem_of_getElem? (i := 22) rfl))) Via.refl e1 F_value_x (g := (mkF m 9 #[.val (.ref x), .val (.ref d), .val (.int cI), .val (.int (0 : Int32))] [(.ref x)])) rfl rfl (hb hby d17_9)
  refine Gl.st st2 ?_
  show Gl p e below s _ _ _ T2 (mkF m 12 #[.val (.ref x), .val (.ref d), .val (.int cI), .val (.int (0 : Int32))] [(.ref t)])
  refine Gl.st (fun _ kk => XS.iconst X2.here hx rfl (hb hby d17_12) kk) ?_
  show Gl p e below s _ _ _ T2 (mkF m 13 #[.val (.ref x), .val (.ref d), .val (.int cI), .val (.int (0 : Int32))] [(.int (0 : Int32)), (.ref t)])
  refine Gl.st (fun _ kk => XS.aloadN X2.here hx rfl (hb hby d17_13) rfl rfl kk) ?_
  show Gl p e below s _ _ _ T2 (mkF m 14 #[.val (.ref x), .val (.ref d), .val (.int cI), .val (.int (0 : Int32))] [(.ref d), (.int (0 : Int32)), (.ref t)])
  refine Gl.st (fun _ kk => XS.iloadN X2.here hx rfl (hb hby d17_14) rfl kk) ?_
  show Gl p e below s _ _ _ T2 (mkF m 15 #[.val (.ref x), .val (.ref d), .val (.int cI), .val (.int (0 : Int32))] [(.int cI), (.ref d), (.int (0 : Int32)), (.ref t)])
  refine Gl.st (fun _ kk => XS.iloadN X2.here hx rfl (hb hby d17_15) rfl kk) ?_
  show Gl p e below s _ _ _ T2 (mkF m 16 #[.val (.ref x), .val (.ref d), .val (.int cI), .val (.int (0 : Int32))] [(.int (0 : Int32)), (.int cI), (.ref d), (.int (0 : Int32)), (.ref t)])
  refine Gl.st (fun _ kk => XS.ishl X2.here hx rfl (hb hby d17_16) rfl kk) ?_
  show Gl p e below s _ _ _ T2 (mkF m 17 #[.val (.ref x), .val (.ref d), .val (.int cI), .val (.int (0 : Int32))] [(.int (cI <<< ((0 : Int32) &&& 31))), (.ref d), (.int (0 : Int32)), (.ref t)])
  rw [own_shl0]
  show Gl p e below s _ _ _ T2 (mkF m 17 #[.val (.ref x), .val (.ref d), .val (.int cI), .val (.int (0 : Int32))] [(.int cI), (.ref d), (.int (0 : Int32)), (.ref t)])
  refine Gl.st (fun _ kk => XS.aloadN X2.here hx rfl (hb hby d17_17) rfl rfl kk) ?_
  show Gl p e below s _ _ _ T2 (mkF m 18 #[.val (.ref x), .val (.ref d), .val (.int cI), .val (.int (0 : Int32))] [(.ref x), (.int cI), (.ref d), (.int (0 : Int32)), (.ref t)])
  obtain ⟨T3, X3, e3, st3⟩ := getF X2 hx hZ hown (host := "") (Or.inl (hw _ (List.mem_of_getElem? (i := 22) rfl))) Via.refl e2 F_value_x (g := (mkF m 18 #[.val (.ref x), .val (.ref d), .val (.int cI), .val (.int (0 : Int32))] [(.ref x), (.int cI), (.ref d), (.int (0 : Int32)), (.ref t)])) rfl rfl (hb hby d17_18)
  refine Gl.st st3 ?_
  show Gl p e below s _ _ _ T3 (mkF m 21 #[.val (.ref x), .val (.ref d), .val (.int cI), .val (.int (0 : Int32))] [(.ref t), (.int cI), (.ref d), (.int (0 : Int32)), (.ref t)])
  obtain ⟨cl4, Ar4, q4, Sz4, Ng4, Ha4, Fi4⟩ := id Arv_t
  refine Gl.st (fun _ kk => X3.arraylength hx (by rw [e3]; exact Ar4.1) (State.isArrayOf_alike hZ.alike Ar4.2.1) (g := (mkF m 21 #[.val (.ref x), .val (.ref d), .val (.int cI), .val (.int (0 : Int32))] [(.ref t), (.int cI), (.ref d), (.int (0 : Int32)), (.ref t)])) rfl rfl (hb hby d17_21) _ kk) ?_
  rw [len_of Sz4 Ng4]
  show Gl p e below s _ _ _ T3 (mkF m 22 #[.val (.ref x), .val (.ref d), .val (.int cI), .val (.int (0 : Int32))] [(.int nI), (.int cI), (.ref d), (.int (0 : Int32)), (.ref t)])
  obtain ⟨T5, h5, Lq5, X5, e5, N5, Kq5, Aq5, st5⟩ := cpA X3 hx hZ hown (hw _ (List.mem_of_getElem? (i := 107) rfl)) (hw _ (List.mem_of_getElem? (i := 110) rfl)) (hw _ (List.mem_of_getElem? (i := 108) rfl)) (hw _ (List.mem_of_getElem? (i := 109) rfl)) e3 Arv_t Arv_d (Or.inl ⟨rfl, rfl⟩) (by decide) hf.1 hf.2.1 (by rw [show (0 : Int32).toNatClampNeg = 0 from rfl, Nat.zero_add]; exact hf.2.2.1) hf.2.2.2.1 hf.2.2.2.2.1 hf.2.2.2.2.2.1 N1 gd (g := (mkF m 22 #[.val (.ref x), .val (.ref d), .val (.int cI), .val (.int (0 : Int32))] [(.int nI), (.int cI), (.ref d), (.int (0 : Int32)), (.ref t)])) rfl (by rw [hml]; rfl) (rest := []) rfl (hb hby d17_22) (by decide) (W := 0) (by show 2 * 0 + _ ≤ _; exact Nat.le_of_eq rfl) (by decide)
  refine Gl.st st5 ?_
  rw [← hf.2.2.2.2.2.2] at Aq5
  replace Exa_x := Exa_x.keep Kq5
  replace F_value_x := F_value_x.keep Kq5 (ninS nxd nin0)
  replace F_coder_x := F_coder_x.keep Kq5 (ninS nxd nin0)
  replace Arv_t := Arv_t.keep Kq5 (ninS ntd nin0)
  have O5 := O0.keep Kq5 (allS gd all0)
  have K5 := (Keep.refl h0 [d]).trans Kq5 (allS (Or.inl (List.mem_of_getElem? (i := 0) rfl)) all0)
  have Arv_d := Aq5
  show Gl p e below s _ _ _ T5 (mkF m 25 #[.val (.ref x), .val (.ref d), .val (.int cI), .val (.int (0 : Int32))] [])
  refine Gl.st (fun _ kk => XS.goto X5.here hx rfl (pc0 := 25) (pc' := 43) rfl (hb hby d17_25) (by decide) (by decide) kk) ?_
  show Gl p e below s _ _ _ T5 (mkF m 43 #[.val (.ref x), .val (.ref d), .val (.int cI), .val (.int (0 : Int32))] [])
  exact Gl.ret X5 (v := none) (fun _ => rfl) (BodyLoose.notSynchronized Bd) (fun hr => X5.returnOut hx Bd.returns (hb hby d17_43) hr) e5 ⟨rfl, N5, K5, Arv_d⟩ (by decide) (by decide)
theorem d16_0 : decode jdk_68_method_71_code 0 = .ok (.getstatic 18, 3) := by decide +kernel
theorem d16_3 : decode jdk_68_method_71_code 3 = .ok (.ifCond .eq 18, 3) := by decide +kernel
theorem d16_6 : decode jdk_68_method_71_code 6 = .ok (.aload_n 0, 1) := by decide +kernel
theorem d16_7 : decode jdk_68_method_71_code 7 = .ok (.getfield 22, 3) := by decide +kernel
theorem d16_10 : decode jdk_68_method_71_code 10 = .ok (.aload_n 1, 1) := by decide +kernel
theorem d16_11 : decode jdk_68_method_71_code 11 = .ok (.invokevirtual 40, 3) := by decide +kernel
theorem d16_14 : decode jdk_68_method_71_code 14 = .ok (.if_icmp .eq 7, 3) := by decide +kernel
theorem d16_21 : decode jdk_68_method_71_code 21 = .ok (.return_, 1) := by decide +kernel
theorem pd_rmIN_0 : parseMethodDescriptor "()B" = some ⟨[], some .byte⟩ := by decide +kernel
theorem pn_rmIN : plainName "java/lang/AbstractStringBuilder" = true := by first | (simp [plainName, overriddenIn]; done) | decide +kernel
theorem ef_rmIN (m : MethodId) (a1 : Addr) (x : Addr) : entryFrame m #[(.ref a1), (.ref x)] 2 = mkF m 0 #[.val (.ref a1), .val (.ref x)] [] := by first | (simp [entryFrame, mkF, argsToLocals, Value.category]; done) | rfl
def Q_rmIN (Z : State) (a1 : Addr) (x : Addr) (cz : Int32) (h0 : Heap) (n0 : Nat) (v : Option Value) (h : Heap) (L : List Loc) : Prop := v = none ∧ Fr n0 L ∧ h = h0
set_option maxRecDepth 65536 in
set_option maxHeartbeats 40000000 in
theorem rmIN (l : Launch) (Z : State) (a0 : Array Value) (hw : ∀ d ∈ tables_1, d.before a0 Z = true) (ws : List Jvm.Cond) (a1 : Addr) (x : Addr) (cz : Int32) (h0 : Heap) (n0 : Nat) (O0 : Old Z n0 h0) (Exa_a1 : Exa Z h0 a1 "java/lang/StringBuilder") (F_coder_a1 : Fld Z h0 a1 "java/lang/AbstractStringBuilder" "coder" "B" (.int 0)) (Exa_x : Exa Z h0 x "java/lang/String") (F_coder_x : Fld Z h0 x "java/lang/String" "coder" "B" (.int 0)) (S_COMPACT : Sta Z Z.heap "java/lang/String" "COMPACT_STRINGS" "Z" (.int cz)) (hcz : ¬ cz = 0) :
    MetFree l (⟨"java/lang/AbstractStringBuilder", "inflateIfNeededFor", "(Ljava/lang/String;)V"⟩ : MethodName) (head1 (Jvm.Cond.code (⟨"java/lang/AbstractStringBuilder", "inflateIfNeededFor", "(Ljava/lang/String;)V"⟩ : MethodName) jdk_68_method_71_code 2 none :: ws) ({ frames := 1, cells := 0, slots := 0, locals := 13 } : Room)) (fun a U => a = #[(.ref a1), (.ref x)] ∧ Z.Warmed39 U.vm ∧ U.heap = h0) (fun _ _ _ _ _ => True) (fun _ U o U' => ∃ v L, o = .returned v ∧ Q_rmIN Z a1 x cz h0 n0 v U'.heap L ∧ FrameEnd U o U' L ({ frames := 1, cells := 0, slots := 0, locals := 13 } : Room).cells ({ frames := 1, cells := 0, slots := 0, locals := 13 } : Room).slots) := by
  refine MetFree.of_bodySF (plainFor_of_name pn_rmIN) hisR ?_
  intro p e s m args below meth c s₁ Bd hml0 hP hK
  obtain ⟨rfl, hZ, hh⟩ := hP
  have hx := Bd.exec
  have hby := Bd.bytes
  have hml : c.maxLocals = 2 := hml0
  have hown : s.vm.findClass "java/lang/AbstractStringBuilder" = some m.cls := findClass_of_methodNamed Bd.named
  have hnm := (name_of_methodNamed Bd.named Bd.method).1
  have X0 : Stand p l e ({ frames := 1, cells := 0, slots := 0, locals := 13 } : Room) s m #[(.ref a1), (.ref x)] below meth c s₁ [] 0 0 := Stand.of_body Bd
  have e0 : s₁.heap = h0 := by rw [← hh, Bd.state]; rfl
  have N0 := Fr.nil n0
  refine Gl.start (Q := Q_rmIN Z a1 x cz h0 n0) (ef_rmIN m a1 x) ?_
  show Gl p e below s _ _ _ s₁ (mkF m 0 #[.val (.ref a1), .val (.ref x)] [])
  obtain ⟨T1, X1, e1, st1⟩ := getS2 X0 hx hZ hown (host := "") (Or.inl (hw _ (List.mem_of_getElem? (i := 56) rfl))) Via.refl e0 (S_COMPACT.ext O0.2) (g := (mkF m 0 #[.val (.ref a1), .val (.ref x)] [])) rfl (hb hby d16_0)
  refine Gl.st st1 ?_
  show Gl p e below s _ _ _ T1 (mkF m 3 #[.val (.ref a1), .val (.ref x)] [(.int cz)])
  refine Gl.st (fun _ kk => XS.ifNo X1.here hx rfl (hb hby d16_3) rfl ((if0 _ _).trans (feq hcz).1) kk) ?_
  show Gl p e below s _ _ _ T1 (mkF m 6 #[.val (.ref a1), .val (.ref x)] [])
  refine Gl.st (fun _ kk => XS.aloadN X1.here hx rfl (hb hby d16_6) rfl rfl kk) ?_
  show Gl p e below s _ _ _ T1 (mkF m 7 #[.val (.ref a1), .val (.ref x)] [(.ref a1)])
  obtain ⟨T2, X2, e2, st2⟩ := getF X1 hx hZ hown (host := "") (Or.inl (hw _ (List.mem_of_getElem? (i := 59) rfl))) Via.refl e1 F_coder_a1 (g := (mkF m 7 #[.val (.ref a1), .val (.ref x)] [(.ref a1)])) rfl rfl (hb hby d16_7)
  refine Gl.st st2 ?_
  show Gl p e below s _ _ _ T2 (mkF m 10 #[.val (.ref a1), .val (.ref x)] [(.int (0 : Int32))])
  refine Gl.st (fun _ kk => XS.aloadN X2.here hx rfl (hb hby d16_10) rfl rfl kk) ?_
  show Gl p e below s _ _ _ T2 (mkF m 11 #[.val (.ref a1), .val (.ref x)] [(.ref x), (.int (0 : Int32))])
  obtain ⟨cq3, kq3, qa3, qb3, qc3⟩ := isOf hZ e2 Exa_x
  obtain ⟨v3, _, ⟨T3, L3, kQ3, nQ3⟩, -, X3, ⟨Lc3, hQ3, l3, y3, z3⟩, st3⟩ := X2.virtualBack hx (y := (⟨"java/lang/String", "coder", "()B"⟩ : MethodName)) (z := (⟨"java/lang/String", "coder", "()B"⟩ : MethodName)) hown (mvT hZ (hw _ (List.mem_of_getElem? (i := 101) rfl))) (mvT hZ (hw _ (List.mem_of_getElem? (i := 80) rfl))) (notFace_of_selects (args := #[]) (mvT hZ (hw _ (List.mem_of_getElem? (i := 82) rfl)))) (mvT hZ (hw _ (List.mem_of_getElem? (i := 82) rfl))) (mvT hZ (hw _ (List.mem_of_getElem? (i := 81) rfl))) (by decide) (backOf (W := 1) (rmCO l Z a0 hw [] x cz h0 n0 O0 F_coder_x S_COMPACT hcz) hZ (hw _ (List.mem_of_getElem? (i := 83) rfl)) (hw _ (List.mem_of_getElem? (i := 2) rfl)) (by decide) (by decide)) qa3 qc3 (g := (mkF m 11 #[.val (.ref a1), .val (.ref x)] [(.ref x), (.int (0 : Int32))])) rfl (by rw [hml]; rfl) (Steps.refl _) (argsL := []) (rest := [(.int (0 : Int32))]) (lenOf pd_rmIN_0 rfl) rfl (by show 2 * 0 + _ ≤ _; exact Nat.le_of_eq rfl) (hb hby d16_11) (fun _ _ => ⟨rfl, e2, (by decide : 0 + 0 ≤ _), (by decide : 0 + 0 ≤ _)⟩)
  dsimp only [Pt.U, Pt.locs, Pt.cells, Pt.slots] at X3 l3 y3 z3 st3 hQ3
  subst y3 z3
  obtain ⟨rfl, Nq3, e3⟩ := hQ3
  have N3 : Fr n0 L3 := l3 ▸ Fr.app N0 Nq3
  refine Gl.st (fun _ kk => st3.trans kk) ?_
  clear st3 qc3 qb3 qa3 kq3 cq3
  clear X2 e2
  show Gl p e below s _ _ _ T3 (mkF m 14 #[.val (.ref a1), .val (.ref x)] [(.int (0 : Int32)), (.int (0 : Int32))])
  refine Gl.st (fun _ kk => XS.icmpYes X3.here hx rfl (pc0 := 14) (pc' := 21) rfl (hb hby d16_14) rfl (teq (by decide : (0 : Int32) = (0 : Int32))).1 (by decide) (by decide) kk) ?_
  show Gl p e below s _ _ _ T3 (mkF m 21 #[.val (.ref a1), .val (.ref x)] [])
  exact Gl.ret X3 (v := none) (fun _ => rfl) (BodyLoose.notSynchronized Bd) (fun hr => X3.returnOut hx Bd.returns (hb hby d16_21) hr) e3 ⟨rfl, N3, rfl⟩ (by decide) (by decide)
theorem d15_0 : decode jdk_68_method_73_code 0 = .ok (.aload_n 0, 1) := by decide +kernel
theorem d15_1 : decode jdk_68_method_73_code 1 = .ok (.aload_n 2, 1) := by decide +kernel
theorem d15_2 : decode jdk_68_method_73_code 2 = .ok (.invokevirtual 397, 3) := by decide +kernel
theorem d15_5 : decode jdk_68_method_73_code 5 = .ok (.aload_n 2, 1) := by decide +kernel
theorem d15_6 : decode jdk_68_method_73_code 6 = .ok (.aload_n 0, 1) := by decide +kernel
theorem d15_7 : decode jdk_68_method_73_code 7 = .ok (.getfield 15, 3) := by decide +kernel
theorem d15_10 : decode jdk_68_method_73_code 10 = .ok (.iload_n 1, 1) := by decide +kernel
theorem d15_11 : decode jdk_68_method_73_code 11 = .ok (.aload_n 0, 1) := by decide +kernel
theorem d15_12 : decode jdk_68_method_73_code 12 = .ok (.getfield 22, 3) := by decide +kernel
theorem d15_15 : decode jdk_68_method_73_code 15 = .ok (.invokevirtual 399, 3) := by decide +kernel
theorem d15_18 : decode jdk_68_method_73_code 18 = .ok (.return_, 1) := by decide +kernel
theorem pd_rmPS_0 : parseMethodDescriptor "(Ljava/lang/String;)V" = some ⟨[(.object "java/lang/String")], none⟩ := by decide +kernel
theorem pd_rmPS_1 : parseMethodDescriptor "([BIB)V" = some ⟨[(.array .byte), .int, .byte], none⟩ := by decide +kernel
theorem pn_rmPS : plainName "java/lang/AbstractStringBuilder" = true := by first | (simp [plainName, overriddenIn]; done) | decide +kernel
theorem ef_rmPS (m : MethodId) (a1 : Addr) (cI : Int32) (x : Addr) : entryFrame m #[(.ref a1), (.int cI), (.ref x)] 3 = mkF m 0 #[.val (.ref a1), .val (.int cI), .val (.ref x)] [] := by first | (simp [entryFrame, mkF, argsToLocals, Value.category]; done) | rfl
def Q_rmPS (Z : State) (a1 : Addr) (cI : Int32) (x : Addr) (d : Addr) (t : Addr) (k : ClassId) (nI : Int32) (us : List Value) (kd : ClassId) (mI : Int32) (vd vd' : List Value) (cz : Int32) (h0 : Heap) (n0 : Nat) (v : Option Value) (h : Heap) (L : List Loc) : Prop := v = none ∧ Fr n0 L ∧ Keep h0 h [d] ∧ Arv Z h d kd .byte mI vd' (.int 0)
set_option maxRecDepth 65536 in
set_option maxHeartbeats 40000000 in
theorem rmPS (l : Launch) (Z : State) (a0 : Array Value) (hw : ∀ d ∈ tables_1, d.before a0 Z = true) (ws : List Jvm.Cond) (a1 : Addr) (cI : Int32) (x : Addr) (d : Addr) (t : Addr) (k : ClassId) (nI : Int32) (us : List Value) (kd : ClassId) (mI : Int32) (vd vd' : List Value) (cz : Int32) (h0 : Heap) (n0 : Nat) (O0 : Old Z n0 h0) (Exa_a1 : Exa Z h0 a1 "java/lang/StringBuilder") (F_value_a1 : Fld Z h0 a1 "java/lang/AbstractStringBuilder" "value" "[B" (.ref d)) (F_coder_a1 : Fld Z h0 a1 "java/lang/AbstractStringBuilder" "coder" "B" (.int 0)) (F_count_a1 : Fld Z h0 a1 "java/lang/AbstractStringBuilder" "count" "I" (.int cI)) (Exa_x : Exa Z h0 x "java/lang/String") (F_value_x : Fld Z h0 x "java/lang/String" "value" "[B" (.ref t)) (F_coder_x : Fld Z h0 x "java/lang/String" "coder" "B" (.int 0)) (Arv_t : Arv Z h0 t k .byte nI us (.int 0)) (Arv_d : Arv Z h0 d kd .byte mI vd (.int 0)) (hf : own_fits nI nI mI cI us us vd vd') (gd : n0 ≤ d) (nta : t ≠ a1) (ntd : t ≠ d) (nxa : x ≠ a1) (nxd : x ≠ d) (nad : a1 ≠ d) (S_COMPACT : Sta Z Z.heap "java/lang/String" "COMPACT_STRINGS" "Z" (.int cz)) (hcz : ¬ cz = 0) :
    MetFree l (⟨"java/lang/AbstractStringBuilder", "putStringAt", "(ILjava/lang/String;)V"⟩ : MethodName) (head1 (Jvm.Cond.code (⟨"java/lang/AbstractStringBuilder", "putStringAt", "(ILjava/lang/String;)V"⟩ : MethodName) jdk_68_method_73_code 3 none :: ws) ({ frames := 2, cells := 0, slots := 0, locals := 33 } : Room)) (fun a U => a = #[(.ref a1), (.int cI), (.ref x)] ∧ Z.Warmed39 U.vm ∧ U.heap = h0) (fun _ _ _ _ _ => True) (fun _ U o U' => ∃ v L, o = .returned v ∧ Q_rmPS Z a1 cI x d t k nI us kd mI vd vd' cz h0 n0 v U'.heap L ∧ FrameEnd U o U' L ({ frames := 2, cells := 0, slots := 0, locals := 33 } : Room).cells ({ frames := 2, cells := 0, slots := 0, locals := 33 } : Room).slots) := by
  refine MetFree.of_bodySF (plainFor_of_name pn_rmPS) hisR ?_
  intro p e s m args below meth c s₁ Bd hml0 hP hK
  obtain ⟨rfl, hZ, hh⟩ := hP
  have hx := Bd.exec
  have hby := Bd.bytes
  have hml : c.maxLocals = 3 := hml0
  have hown : s.vm.findClass "java/lang/AbstractStringBuilder" = some m.cls := findClass_of_methodNamed Bd.named
  have hnm := (name_of_methodNamed Bd.named Bd.method).1
  have X0 : Stand p l e ({ frames := 2, cells := 0, slots := 0, locals := 33 } : Room) s m #[(.ref a1), (.int cI), (.ref x)] below meth c s₁ [] 0 0 := Stand.of_body Bd
  have e0 : s₁.heap = h0 := by rw [← hh, Bd.state]; rfl
  have N0 := Fr.nil n0
  refine Gl.start (Q := Q_rmPS Z a1 cI x d t k nI us kd mI vd vd' cz h0 n0) (ef_rmPS m a1 cI x) ?_
  show Gl p e below s _ _ _ s₁ (mkF m 0 #[.val (.ref a1), .val (.int cI), .val (.ref x)] [])
  refine Gl.st (fun _ kk => XS.aloadN X0.here hx rfl (hb hby d15_0) rfl rfl kk) ?_
  show Gl p e below s _ _ _ s₁ (mkF m 1 #[.val (.ref a1), .val (.int cI), .val (.ref x)] [(.ref a1)])
  refine Gl.st (fun _ kk => XS.aloadN X0.here hx rfl (hb hby d15_1) rfl rfl kk) ?_
  show Gl p e below s _ _ _ s₁ (mkF m 2 #[.val (.ref a1), .val (.int cI), .val (.ref x)] [(.ref x), (.ref a1)])
  obtain ⟨cq1, qa1, qb1⟩ := Exa_a1.cell
  obtain ⟨v1, _, ⟨T1, L1, kQ1, nQ1⟩, -, X1, ⟨Lc1, hQ1, l1, y1, z1⟩, st1⟩ := X0.privateBack hx (y := (⟨"java/lang/AbstractStringBuilder", "inflateIfNeededFor", "(Ljava/lang/String;)V"⟩ : MethodName)) hown (mvT hZ (hw _ (List.mem_of_getElem? (i := 96) rfl))) (mvT hZ (hw _ (List.mem_of_getElem? (i := 97) rfl))) (mvT hZ (own_selP (hw _ (List.mem_of_getElem? (i := 99) rfl)) (hw _ (List.mem_of_getElem? (i := 97) rfl)) (hw _ (List.mem_of_getElem? (i := 98) rfl)) (by decide))) (Cond.privateMethod_at (mvP hZ (hw _ (List.mem_of_getElem? (i := 98) rfl)) (args := #[]))) (mvT hZ (hw _ (List.mem_of_getElem? (i := 100) rfl))) (by decide) (backOf (W := 0) (rmIN l Z a0 hw [] a1 x cz h0 n0 O0 Exa_a1 F_coder_a1 Exa_x F_coder_x S_COMPACT hcz) hZ (hw _ (List.mem_of_getElem? (i := 100) rfl)) (hw _ (List.mem_of_getElem? (i := 53) rfl)) (by decide) (by decide)) (g := (mkF m 2 #[.val (.ref a1), .val (.int cI), .val (.ref x)] [(.ref x), (.ref a1)])) rfl (by rw [hml]; rfl) (Steps.refl _) (a := a1) (by rw [e0]; exact qa1) qb1 (argsL := [(.ref x)]) (rest := []) (lenOf pd_rmPS_0 rfl) rfl (by show 2 * 0 + _ ≤ _; exact Nat.le_of_eq rfl) (hb hby d15_2) (fun _ _ => ⟨rfl, e0, (by decide : 0 + 0 ≤ _), (by decide : 0 + 0 ≤ _)⟩)
  dsimp only [Pt.U, Pt.locs, Pt.cells, Pt.slots] at X1 l1 y1 z1 st1 hQ1
  subst y1 z1
  obtain ⟨rfl, Nq1, e1⟩ := hQ1
  have N1 : Fr n0 L1 := l1 ▸ Fr.app N0 Nq1
  refine Gl.st (fun _ kk => st1.trans kk) ?_
  clear st1 qb1 qa1 cq1
  show Gl p e below s _ _ _ T1 (mkF m 5 #[.val (.ref a1), .val (.int cI), .val (.ref x)] [])
  refine Gl.st (fun _ kk => XS.aloadN X1.here hx rfl (hb hby d15_5) rfl rfl kk) ?_
  show Gl p e below s _ _ _ T1 (mkF m 6 #[.val (.ref a1), .val (.int cI), .val (.ref x)] [(.ref x)])
  refine Gl.st (fun _ kk => XS.aloadN X1.here hx rfl (hb hby d15_6) rfl rfl kk) ?_
  show Gl p e below s _ _ _ T1 (mkF m 7 #[.val (.ref a1), .val (.int cI), .val (.ref x)] [(.ref a1), (.ref x)])
  obtain ⟨T2, X2, e2, st2⟩ := getF X1 hx hZ hown (host := "") (Or.inl (hw _ (List.mem_of_getElem? (i := 57) rfl))) Via.refl e1 F_value_a1 (g := (mkF m 7 #[.val (.ref a1), .val (.int cI), .val (.ref x)] [(.ref a1), (.ref x)])) rfl rfl (hb hby d15_7)
  refine Gl.st st2 ?_
  show Gl p e below s _ _ _ T2 (mkF m 10 #[.val (.ref a1), .val (.int cI), .val (.ref x)] [(.ref d), (.ref x)])
  refine Gl.st (fun _ kk => XS.iloadN X2.here hx rfl (hb hby d15_10) rfl kk) ?_
  show Gl p e below s _ _ _ T2 (mkF m 11 #[.val (.ref a1), .val (.int cI), .val (.ref x)] [(.int cI), (.ref d), (.ref x)])
  refine Gl.st (fun _ kk => XS.aloadN X2.here hx rfl (hb hby d15_11) rfl rfl kk) ?_
  show Gl p e below s _ _ _ T2 (mkF m 12 #[.val (.ref a1), .val (.int cI), .val (.ref x)] [(.ref a1), (.int cI), (.ref d), (.ref x)])
  obtain ⟨T3, X3, e3, st3⟩ := getF X2 hx hZ hown (host := "") (Or.inl (hw _ (List.mem_of_getElem? (i := 59) rfl))) Via.refl e2 F_coder_a1 (g := (mkF m 12 #[.val (.ref a1), .val (.int cI), .val (.ref x)] [(.ref a1), (.int cI), (.ref d), (.ref x)])) rfl rfl (hb hby d15_12)
  refine Gl.st st3 ?_
  show Gl p e below s _ _ _ T3 (mkF m 15 #[.val (.ref a1), .val (.int cI), .val (.ref x)] [(.int (0 : Int32)), (.int cI), (.ref d), (.ref x)])
  obtain ⟨cq4, kq4, qa4, qb4, qc4⟩ := isOf hZ e3 Exa_x
  obtain ⟨v4, _, ⟨T4, L4, kQ4, nQ4⟩, -, X4, ⟨Lc4, hQ4, l4, y4, z4⟩, st4⟩ := X3.virtualBack hx (y := (⟨"java/lang/String", "getBytes", "([BIB)V"⟩ : MethodName)) (z := (⟨"java/lang/String", "getBytes", "([BIB)V"⟩ : MethodName)) hown (mvT hZ (hw _ (List.mem_of_getElem? (i := 102) rfl))) (mvT hZ (hw _ (List.mem_of_getElem? (i := 103) rfl))) (notFace_of_selects (args := #[]) (mvT hZ (hw _ (List.mem_of_getElem? (i := 105) rfl)))) (mvT hZ (hw _ (List.mem_of_getElem? (i := 105) rfl))) (mvT hZ (hw _ (List.mem_of_getElem? (i := 104) rfl))) (by decide) (backOf (W := 0) (rmGB l Z a0 hw [] x d cI t k nI us kd mI vd vd' cz h0 n0 O0 Exa_x F_value_x F_coder_x Arv_t Arv_d hf gd ntd nxd S_COMPACT hcz) hZ (hw _ (List.mem_of_getElem? (i := 106) rfl)) (hw _ (List.mem_of_getElem? (i := 2) rfl)) (by decide) (by decide)) qa4 qc4 (g := (mkF m 15 #[.val (.ref a1), .val (.int cI), .val (.ref x)] [(.int (0 : Int32)), (.int cI), (.ref d), (.ref x)])) rfl (by rw [hml]; rfl) (Steps.refl _) (argsL := [(.ref d), (.int cI), (.int (0 : Int32))]) (rest := []) (lenOf pd_rmPS_1 rfl) rfl (by show 2 * 0 + _ ≤ _; exact Nat.le_of_eq rfl) (hb hby d15_15) (fun _ _ => ⟨rfl, e3, (by decide : 0 + 0 ≤ _), (by decide : 0 + 0 ≤ _)⟩)
  dsimp only [Pt.U, Pt.locs, Pt.cells, Pt.slots] at X4 l4 y4 z4 st4 hQ4
  subst y4 z4
  obtain ⟨h4, e4⟩ : ∃ z, T4.heap = z := ⟨_, rfl⟩
  rw [e4] at hQ4
  obtain ⟨rfl, Nq4, Kq4, Aq4⟩ := hQ4
  have N4 : Fr n0 L4 := l4 ▸ Fr.app N1 Nq4
  refine Gl.st (fun _ kk => st4.trans kk) ?_
  replace Exa_a1 := Exa_a1.keep Kq4
  replace F_value_a1 := F_value_a1.keep Kq4 (ninS nad nin0)
  replace F_coder_a1 := F_coder_a1.keep Kq4 (ninS nad nin0)
  replace F_count_a1 := F_count_a1.keep Kq4 (ninS nad nin0)
  replace Exa_x := Exa_x.keep Kq4
  replace F_value_x := F_value_x.keep Kq4 (ninS nxd nin0)
  replace F_coder_x := F_coder_x.keep Kq4 (ninS nxd nin0)
  replace Arv_t := Arv_t.keep Kq4 (ninS ntd nin0)
  have O4 := O0.keep Kq4 (allS gd all0)
  have K4 := (Keep.refl h0 [d]).trans Kq4 (allS (Or.inl (List.mem_of_getElem? (i := 0) rfl)) all0)
  have Arv_d := Aq4
  clear st4 qc4 qb4 qa4 kq4 cq4
  clear N1 X3 e3
  show Gl p e below s _ _ _ T4 (mkF m 18 #[.val (.ref a1), .val (.int cI), .val (.ref x)] [])
  exact Gl.ret X4 (v := none) (fun _ => rfl) (BodyLoose.notSynchronized Bd) (fun hr => X4.returnOut hx Bd.returns (hb hby d15_18) hr) e4 ⟨rfl, N4, K4, Arv_d⟩ (by decide) (by decide)
theorem d14_0 : decode jdk_68_method_9_code 0 = .ok (.aload_n 0, 1) := by decide +kernel
theorem d14_1 : decode jdk_68_method_9_code 1 = .ok (.getfield 15, 3) := by decide +kernel
theorem d14_4 : decode jdk_68_method_9_code 4 = .ok (.arraylength, 1) := by decide +kernel
theorem d14_5 : decode jdk_68_method_9_code 5 = .ok (.aload_n 0, 1) := by decide +kernel
theorem d14_6 : decode jdk_68_method_9_code 6 = .ok (.getfield 22, 3) := by decide +kernel
theorem d14_9 : decode jdk_68_method_9_code 9 = .ok (.ishr, 1) := by decide +kernel
theorem d14_10 : decode jdk_68_method_9_code 10 = .ok (.istore_n 2, 1) := by decide +kernel
theorem d14_11 : decode jdk_68_method_9_code 11 = .ok (.iload_n 1, 1) := by decide +kernel
theorem d14_12 : decode jdk_68_method_9_code 12 = .ok (.iload_n 2, 1) := by decide +kernel
theorem d14_13 : decode jdk_68_method_9_code 13 = .ok (.isub, 1) := by decide +kernel
theorem d14_14 : decode jdk_68_method_9_code 14 = .ok (.ifCond .le 24, 3) := by decide +kernel
theorem d14_38 : decode jdk_68_method_9_code 38 = .ok (.return_, 1) := by decide +kernel
theorem pn_rmEA : plainName "java/lang/AbstractStringBuilder" = true := by first | (simp [plainName, overriddenIn]; done) | decide +kernel
theorem ef_rmEA (m : MethodId) (a1 : Addr) (q1 : Int32) : entryFrame m #[(.ref a1), (.int q1)] 3 = mkF m 0 #[.val (.ref a1), .val (.int q1), .unset] [] := by first | (simp [entryFrame, mkF, argsToLocals, Value.category]; done) | rfl
def Q_rmEA (Z : State) (a1 : Addr) (q1 : Int32) (d : Addr) (kd : ClassId) (mI : Int32) (vd : List Value) (h0 : Heap) (n0 : Nat) (v : Option Value) (h : Heap) (L : List Loc) : Prop := v = none ∧ Fr n0 L ∧ h = h0
set_option maxRecDepth 65536 in
set_option maxHeartbeats 40000000 in
theorem rmEA (l : Launch) (Z : State) (a0 : Array Value) (hw : ∀ d ∈ tables_1, d.before a0 Z = true) (ws : List Jvm.Cond) (a1 : Addr) (q1 : Int32) (d : Addr) (kd : ClassId) (mI : Int32) (vd : List Value) (h0 : Heap) (n0 : Nat) (O0 : Old Z n0 h0) (Exa_a1 : Exa Z h0 a1 "java/lang/StringBuilder") (F_value_a1 : Fld Z h0 a1 "java/lang/AbstractStringBuilder" "value" "[B" (.ref d)) (F_coder_a1 : Fld Z h0 a1 "java/lang/AbstractStringBuilder" "coder" "B" (.int 0)) (Arv_d : Arv Z h0 d kd .byte mI vd (.int 0)) (hle : ¬ (0 : Int32) < q1 - mI) :
    MetFree l (⟨"java/lang/AbstractStringBuilder", "ensureCapacityInternal", "(I)V"⟩ : MethodName) (head1 (Jvm.Cond.code (⟨"java/lang/AbstractStringBuilder", "ensureCapacityInternal", "(I)V"⟩ : MethodName) jdk_68_method_9_code 3 none :: ws) ({ frames := 0, cells := 0, slots := 0, locals := 0 } : Room)) (fun a U => a = #[(.ref a1), (.int q1)] ∧ Z.Warmed39 U.vm ∧ U.heap = h0) (fun _ _ _ _ _ => True) (fun _ U o U' => ∃ v L, o = .returned v ∧ Q_rmEA Z a1 q1 d kd mI vd h0 n0 v U'.heap L ∧ FrameEnd U o U' L ({ frames := 0, cells := 0, slots := 0, locals := 0 } : Room).cells ({ frames := 0, cells := 0, slots := 0, locals := 0 } : Room).slots) := by
  refine MetFree.of_bodySF (plainFor_of_name pn_rmEA) hisR ?_
  intro p e s m args below meth c s₁ Bd hml0 hP hK
  obtain ⟨rfl, hZ, hh⟩ := hP
  have hx := Bd.exec
  have hby := Bd.bytes
  have hml : c.maxLocals = 3 := hml0
  have hown : s.vm.findClass "java/lang/AbstractStringBuilder" = some m.cls := findClass_of_methodNamed Bd.named
  have hnm := (name_of_methodNamed Bd.named Bd.method).1
  have X0 : Stand p l e ({ frames := 0, cells := 0, slots := 0, locals := 0 } : Room) s m #[(.ref a1), (.int q1)] below meth c s₁ [] 0 0 := Stand.of_body Bd
  have e0 : s₁.heap = h0 := by rw [← hh, Bd.state]; rfl
  have N0 := Fr.nil n0
  refine Gl.start (Q := Q_rmEA Z a1 q1 d kd mI vd h0 n0) (ef_rmEA m a1 q1) ?_
  show Gl p e below s _ _ _ s₁ (mkF m 0 #[.val (.ref a1), .val (.int q1), .unset] [])
  refine Gl.st (fun _ kk => XS.aloadN X0.here hx rfl (hb hby d14_0) rfl rfl kk) ?_
  show Gl p e below s _ _ _ s₁ (mkF m 1 #[.val (.ref a1), .val (.int q1), .unset] [(.ref a1)])
  obtain ⟨T1, X1, e1, st1⟩ := getF X0 hx hZ hown (host := "") (Or.inl (hw _ (List.mem_of_getElem? (i := 57) rfl))) Via.refl e0 F_value_a1 (g := (mkF m 1 #[.val (.ref a1), .val (.int q1), .unset] [(.ref a1)])) rfl rfl (hb hby d14_1)
  refine Gl.st st1 ?_
  show Gl p e below s _ _ _ T1 (mkF m 4 #[.val (.ref a1), .val (.int q1), .unset] [(.ref d)])
  obtain ⟨cl2, Ar2, q2, Sz2, Ng2, Ha2, Fi2⟩ := id Arv_d
  refine Gl.st (fun _ kk => X1.arraylength hx (by rw [e1]; exact Ar2.1) (State.isArrayOf_alike hZ.alike Ar2.2.1) (g := (mkF m 4 #[.val (.ref a1), .val (.int q1), .unset] [(.ref d)])) rfl rfl (hb hby d14_4) _ kk) ?_
  rw [len_of Sz2 Ng2]
  show Gl p e below s _ _ _ T1 (mkF m 5 #[.val (.ref a1), .val (.int q1), .unset] [(.int mI)])
  refine Gl.st (fun _ kk => XS.aloadN X1.here hx rfl (hb hby d14_5) rfl rfl kk) ?_
  show Gl p e below s _ _ _ T1 (mkF m 6 #[.val (.ref a1), .val (.int q1), .unset] [(.ref a1), (.int mI)])
  obtain ⟨T3, X3, e3, st3⟩ := getF X1 hx hZ hown (host := "") (Or.inl (hw _ (List.mem_of_getElem? (i := 59) rfl))) Via.refl e1 F_coder_a1 (g := (mkF m 6 #[.val (.ref a1), .val (.int q1), .unset] [(.ref a1), (.int mI)])) rfl rfl (hb hby d14_6)
  refine Gl.st st3 ?_
  show Gl p e below s _ _ _ T3 (mkF m 9 #[.val (.ref a1), .val (.int q1), .unset] [(.int (0 : Int32)), (.int mI)])
  refine Gl.st (fun _ kk => XS.ishr X3.here hx rfl (hb hby d14_9) rfl kk) ?_
  show Gl p e below s _ _ _ T3 (mkF m 10 #[.val (.ref a1), .val (.int q1), .unset] [(.int (mI >>> ((0 : Int32) &&& 31)))])
  rw [own_shr0]
  show Gl p e below s _ _ _ T3 (mkF m 10 #[.val (.ref a1), .val (.int q1), .unset] [(.int mI)])
  refine Gl.st (fun _ kk => XS.istoreN X3.here hx rfl (hb hby d14_10) rfl (l' := #[.val (.ref a1), .val (.int q1), .val (.int mI)]) rfl kk) ?_
  show Gl p e below s _ _ _ T3 (mkF m 11 #[.val (.ref a1), .val (.int q1), .val (.int mI)] [])
  refine Gl.st (fun _ kk => XS.iloadN X3.here hx rfl (hb hby d14_11) rfl kk) ?_
  show Gl p e below s _ _ _ T3 (mkF m 12 #[.val (.ref a1), .val (.int q1), .val (.int mI)] [(.int q1)])
  refine Gl.st (fun _ kk => XS.iloadN X3.here hx rfl (hb hby d14_12) rfl kk) ?_
  show Gl p e below s _ _ _ T3 (mkF m 13 #[.val (.ref a1), .val (.int q1), .val (.int mI)] [(.int mI), (.int q1)])
  refine Gl.st (fun _ kk => XS.isub X3.here hx rfl (hb hby d14_13) rfl kk) ?_
  show Gl p e below s _ _ _ T3 (mkF m 14 #[.val (.ref a1), .val (.int q1), .val (.int mI)] [(.int (q1 - mI))])
  refine Gl.st (fun _ kk => XS.ifYes X3.here hx rfl (pc0 := 14) (pc' := 38) rfl (hb hby d14_14) rfl ((if0 _ _).trans (flt hle).2.2.2) (by decide) (by decide) kk) ?_
  show Gl p e below s _ _ _ T3 (mkF m 38 #[.val (.ref a1), .val (.int q1), .val (.int mI)] [])
  exact Gl.ret X3 (v := none) (fun _ => rfl) (BodyLoose.notSynchronized Bd) (fun hr => X3.returnOut hx Bd.returns (hb hby d14_38) hr) e3 ⟨rfl, N0, rfl⟩ (by decide) (by decide)
theorem d11_0 : decode jdk_68_method_22_code 0 = .ok (.aload_n 1, 1) := by decide +kernel
theorem d11_1 : decode jdk_68_method_22_code 1 = .ok (.ifnonnull 8, 3) := by decide +kernel
theorem d11_9 : decode jdk_68_method_22_code 9 = .ok (.aload_n 1, 1) := by decide +kernel
theorem d11_10 : decode jdk_68_method_22_code 10 = .ok (.invokevirtual 32, 3) := by decide +kernel
theorem d11_13 : decode jdk_68_method_22_code 13 = .ok (.istore_n 2, 1) := by decide +kernel
theorem d11_14 : decode jdk_68_method_22_code 14 = .ok (.aload_n 0, 1) := by decide +kernel
theorem d11_15 : decode jdk_68_method_22_code 15 = .ok (.aload_n 0, 1) := by decide +kernel
theorem d11_16 : decode jdk_68_method_22_code 16 = .ok (.getfield 79, 3) := by decide +kernel
theorem d11_19 : decode jdk_68_method_22_code 19 = .ok (.iload_n 2, 1) := by decide +kernel
theorem d11_20 : decode jdk_68_method_22_code 20 = .ok (.iadd, 1) := by decide +kernel
theorem d11_21 : decode jdk_68_method_22_code 21 = .ok (.invokevirtual 100, 3) := by decide +kernel
theorem d11_24 : decode jdk_68_method_22_code 24 = .ok (.aload_n 0, 1) := by decide +kernel
theorem d11_25 : decode jdk_68_method_22_code 25 = .ok (.aload_n 0, 1) := by decide +kernel
theorem d11_26 : decode jdk_68_method_22_code 26 = .ok (.getfield 79, 3) := by decide +kernel
theorem d11_29 : decode jdk_68_method_22_code 29 = .ok (.aload_n 1, 1) := by decide +kernel
theorem d11_30 : decode jdk_68_method_22_code 30 = .ok (.invokevirtual 208, 3) := by decide +kernel
theorem d11_33 : decode jdk_68_method_22_code 33 = .ok (.aload_n 0, 1) := by decide +kernel
theorem d11_34 : decode jdk_68_method_22_code 34 = .ok (.dup, 1) := by decide +kernel
theorem d11_35 : decode jdk_68_method_22_code 35 = .ok (.getfield 79, 3) := by decide +kernel
theorem d11_38 : decode jdk_68_method_22_code 38 = .ok (.iload_n 2, 1) := by decide +kernel
theorem d11_39 : decode jdk_68_method_22_code 39 = .ok (.iadd, 1) := by decide +kernel
theorem d11_40 : decode jdk_68_method_22_code 40 = .ok (.putfield 79, 3) := by decide +kernel
theorem d11_43 : decode jdk_68_method_22_code 43 = .ok (.aload_n 0, 1) := by decide +kernel
theorem d11_44 : decode jdk_68_method_22_code 44 = .ok (.areturn, 1) := by decide +kernel
theorem pd_rmAA_0 : parseMethodDescriptor "()I" = some ⟨[], some .int⟩ := by decide +kernel
theorem pd_rmAA_1 : parseMethodDescriptor "(I)V" = some ⟨[.int], none⟩ := by decide +kernel
theorem pd_rmAA_2 : parseMethodDescriptor "(ILjava/lang/String;)V" = some ⟨[.int, (.object "java/lang/String")], none⟩ := by decide +kernel
theorem pn_rmAA : plainName "java/lang/AbstractStringBuilder" = true := by first | (simp [plainName, overriddenIn]; done) | decide +kernel
theorem ef_rmAA (m : MethodId) (a1 : Addr) (x : Addr) : entryFrame m #[(.ref a1), (.ref x)] 3 = mkF m 0 #[.val (.ref a1), .val (.ref x), .unset] [] := by first | (simp [entryFrame, mkF, argsToLocals, Value.category]; done) | rfl
def Q_rmAA (Z : State) (a1 : Addr) (x : Addr) (d : Addr) (t : Addr) (k : ClassId) (nI : Int32) (us : List Value) (kd : ClassId) (mI cI : Int32) (vd vd' : List Value) (cz : Int32) (h0 : Heap) (n0 : Nat) (v : Option Value) (h : Heap) (L : List Loc) : Prop := v = some (.ref a1) ∧ Fr n0 L ∧ Keep h0 h [a1, d] ∧ Fld Z h a1 "java/lang/AbstractStringBuilder" "value" "[B" (.ref d) ∧ Fld Z h a1 "java/lang/AbstractStringBuilder" "coder" "B" (.int 0) ∧ Fld Z h a1 "java/lang/AbstractStringBuilder" "count" "I" (.int (cI + nI)) ∧ Arv Z h d kd .byte mI vd' (.int 0)
set_option maxRecDepth 65536 in
set_option maxHeartbeats 40000000 in
theorem rmAA (l : Launch) (Z : State) (a0 : Array Value) (hw : ∀ d ∈ tables_1, d.before a0 Z = true) (ws : List Jvm.Cond) (a1 : Addr) (x : Addr) (d : Addr) (t : Addr) (k : ClassId) (nI : Int32) (us : List Value) (kd : ClassId) (mI cI : Int32) (vd vd' : List Value) (cz : Int32) (h0 : Heap) (n0 : Nat) (O0 : Old Z n0 h0) (Exa_a1 : Exa Z h0 a1 "java/lang/StringBuilder") (F_value_a1 : Fld Z h0 a1 "java/lang/AbstractStringBuilder" "value" "[B" (.ref d)) (F_coder_a1 : Fld Z h0 a1 "java/lang/AbstractStringBuilder" "coder" "B" (.int 0)) (F_count_a1 : Fld Z h0 a1 "java/lang/AbstractStringBuilder" "count" "I" (.int cI)) (Exa_x : Exa Z h0 x "java/lang/String") (F_value_x : Fld Z h0 x "java/lang/String" "value" "[B" (.ref t)) (F_coder_x : Fld Z h0 x "java/lang/String" "coder" "B" (.int 0)) (Arv_t : Arv Z h0 t k .byte nI us (.int 0)) (Arv_d : Arv Z h0 d kd .byte mI vd (.int 0)) (hf : own_fits nI nI mI cI us us vd vd') (gd : n0 ≤ d) (nta : t ≠ a1) (ntd : t ≠ d) (nxa : x ≠ a1) (nxd : x ≠ d) (nad : a1 ≠ d) (S_COMPACT : Sta Z Z.heap "java/lang/String" "COMPACT_STRINGS" "Z" (.int cz)) (hcz : ¬ cz = 0) (hle : ¬ (0 : Int32) < (cI + nI) - mI) (g1 : n0 ≤ a1) :
    MetFree l (⟨"java/lang/AbstractStringBuilder", "append", "(Ljava/lang/String;)Ljava/lang/AbstractStringBuilder;"⟩ : MethodName) (head1 (Jvm.Cond.code (⟨"java/lang/AbstractStringBuilder", "append", "(Ljava/lang/String;)Ljava/lang/AbstractStringBuilder;"⟩ : MethodName) jdk_68_method_22_code 3 (some (.object "java/lang/AbstractStringBuilder")) :: ws) ({ frames := 3, cells := 0, slots := 0, locals := 47 } : Room)) (fun a U => a = #[(.ref a1), (.ref x)] ∧ Z.Warmed39 U.vm ∧ U.heap = h0) (fun _ _ _ _ _ => True) (fun _ U o U' => ∃ v L, o = .returned v ∧ Q_rmAA Z a1 x d t k nI us kd mI cI vd vd' cz h0 n0 v U'.heap L ∧ FrameEnd U o U' L ({ frames := 3, cells := 0, slots := 0, locals := 47 } : Room).cells ({ frames := 3, cells := 0, slots := 0, locals := 47 } : Room).slots) := by
  refine MetFree.of_bodySF (plainFor_of_name pn_rmAA) hisR ?_
  intro p e s m args below meth c s₁ Bd hml0 hP hK
  obtain ⟨rfl, hZ, hh⟩ := hP
  have hx := Bd.exec
  have hby := Bd.bytes
  have hml : c.maxLocals = 3 := hml0
  have hown : s.vm.findClass "java/lang/AbstractStringBuilder" = some m.cls := findClass_of_methodNamed Bd.named
  have hnm := (name_of_methodNamed Bd.named Bd.method).1
  have X0 : Stand p l e ({ frames := 3, cells := 0, slots := 0, locals := 47 } : Room) s m #[(.ref a1), (.ref x)] below meth c s₁ [] 0 0 := Stand.of_body Bd
  have e0 : s₁.heap = h0 := by rw [← hh, Bd.state]; rfl
  have N0 := Fr.nil n0
  refine Gl.start (Q := Q_rmAA Z a1 x d t k nI us kd mI cI vd vd' cz h0 n0) (ef_rmAA m a1 x) ?_
  show Gl p e below s _ _ _ s₁ (mkF m 0 #[.val (.ref a1), .val (.ref x), .unset] [])
  refine Gl.st (fun _ kk => XS.aloadN X0.here hx rfl (hb hby d11_0) rfl rfl kk) ?_
  show Gl p e below s _ _ _ s₁ (mkF m 1 #[.val (.ref a1), .val (.ref x), .unset] [(.ref x)])
  refine Gl.st (fun _ kk => XS.ifnonnullYes X0.here hx rfl (pc0 := 1) (pc' := 9) rfl (hb hby d11_1) rfl (by decide) (by decide) kk) ?_
  show Gl p e below s _ _ _ s₁ (mkF m 9 #[.val (.ref a1), .val (.ref x), .unset] [])
  refine Gl.st (fun _ kk => XS.aloadN X0.here hx rfl (hb hby d11_9) rfl rfl kk) ?_
  show Gl p e below s _ _ _ s₁ (mkF m 10 #[.val (.ref a1), .val (.ref x), .unset] [(.ref x)])
  obtain ⟨cq1, kq1, qa1, qb1, qc1⟩ := isOf hZ e0 Exa_x
  obtain ⟨v1, _, ⟨T1, L1, kQ1, nQ1⟩, -, X1, ⟨Lc1, hQ1, l1, y1, z1⟩, st1⟩ := X0.virtualBack hx (y := (⟨"java/lang/String", "length", "()I"⟩ : MethodName)) (z := (⟨"java/lang/String", "length", "()I"⟩ : MethodName)) hown (mvT hZ (hw _ (List.mem_of_getElem? (i := 74) rfl))) (mvT hZ (hw _ (List.mem_of_getElem? (i := 75) rfl))) (notFace_of_selects (args := #[]) (mvT hZ (hw _ (List.mem_of_getElem? (i := 77) rfl)))) (mvT hZ (hw _ (List.mem_of_getElem? (i := 77) rfl))) (mvT hZ (hw _ (List.mem_of_getElem? (i := 76) rfl))) (by decide) (backOf (W := 0) (rmLN l Z a0 hw [] x t k nI us cz h0 n0 O0 Exa_x F_value_x F_coder_x Arv_t S_COMPACT hcz) hZ (hw _ (List.mem_of_getElem? (i := 78) rfl)) (hw _ (List.mem_of_getElem? (i := 2) rfl)) (by decide) (by decide)) qa1 qc1 (g := (mkF m 10 #[.val (.ref a1), .val (.ref x), .unset] [(.ref x)])) rfl (by rw [hml]; rfl) (Steps.refl _) (argsL := []) (rest := []) (lenOf pd_rmAA_0 rfl) rfl (by show 2 * 0 + _ ≤ _; exact Nat.le_of_eq rfl) (hb hby d11_10) (fun _ _ => ⟨rfl, e0, (by decide : 0 + 0 ≤ _), (by decide : 0 + 0 ≤ _)⟩)
  dsimp only [Pt.U, Pt.locs, Pt.cells, Pt.slots] at X1 l1 y1 z1 st1 hQ1
  subst y1 z1
  obtain ⟨rfl, Nq1, e1⟩ := hQ1
  have N1 : Fr n0 L1 := l1 ▸ Fr.app N0 Nq1
  refine Gl.st (fun _ kk => st1.trans kk) ?_
  clear st1 qc1 qb1 qa1 kq1 cq1
  show Gl p e below s _ _ _ T1 (mkF m 13 #[.val (.ref a1), .val (.ref x), .unset] [(.int nI)])
  refine Gl.st (fun _ kk => XS.istoreN X1.here hx rfl (hb hby d11_13) rfl (l' := #[.val (.ref a1), .val (.ref x), .val (.int nI)]) rfl kk) ?_
  show Gl p e below s _ _ _ T1 (mkF m 14 #[.val (.ref a1), .val (.ref x), .val (.int nI)] [])
  refine Gl.st (fun _ kk => XS.aloadN X1.here hx rfl (hb hby d11_14) rfl rfl kk) ?_
  show Gl p e below s _ _ _ T1 (mkF m 15 #[.val (.ref a1), .val (.ref x), .val (.int nI)] [(.ref a1)])
  refine Gl.st (fun _ kk => XS.aloadN X1.here hx rfl (hb hby d11_15) rfl rfl kk) ?_
  show Gl p e below s _ _ _ T1 (mkF m 16 #[.val (.ref a1), .val (.ref x), .val (.int nI)] [(.ref a1), (.ref a1)])
  obtain ⟨T2, X2, e2, st2⟩ := getF X1 hx hZ hown (host := "") (Or.inl (hw _ (List.mem_of_getElem? (i := 84) rfl))) Via.refl e1 F_count_a1 (g := (mkF m 16 #[.val (.ref a1), .val (.ref x), .val (.int nI)] [(.ref a1), (.ref a1)])) rfl rfl (hb hby d11_16)
  refine Gl.st st2 ?_
  show Gl p e below s _ _ _ T2 (mkF m 19 #[.val (.ref a1), .val (.ref x), .val (.int nI)] [(.int cI), (.ref a1)])
  refine Gl.st (fun _ kk => XS.iloadN X2.here hx rfl (hb hby d11_19) rfl kk) ?_
  show Gl p e below s _ _ _ T2 (mkF m 20 #[.val (.ref a1), .val (.ref x), .val (.int nI)] [(.int nI), (.int cI), (.ref a1)])
  refine Gl.st (fun _ kk => XS.iadd X2.here hx rfl (hb hby d11_20) rfl kk) ?_
  show Gl p e below s _ _ _ T2 (mkF m 21 #[.val (.ref a1), .val (.ref x), .val (.int nI)] [(.int (cI + nI)), (.ref a1)])
  obtain ⟨cq3, qa3, qb3⟩ := Exa_a1.cell
  obtain ⟨v3, _, ⟨T3, L3, kQ3, nQ3⟩, -, X3, ⟨Lc3, hQ3, l3, y3, z3⟩, st3⟩ := X2.privateBack hx (y := (⟨"java/lang/AbstractStringBuilder", "ensureCapacityInternal", "(I)V"⟩ : MethodName)) hown (mvT hZ (hw _ (List.mem_of_getElem? (i := 86) rfl))) (mvT hZ (hw _ (List.mem_of_getElem? (i := 87) rfl))) (mvT hZ (own_selP (hw _ (List.mem_of_getElem? (i := 89) rfl)) (hw _ (List.mem_of_getElem? (i := 87) rfl)) (hw _ (List.mem_of_getElem? (i := 88) rfl)) (by decide))) (Cond.privateMethod_at (mvP hZ (hw _ (List.mem_of_getElem? (i := 88) rfl)) (args := #[]))) (mvT hZ (hw _ (List.mem_of_getElem? (i := 90) rfl))) (by decide) (backOf (W := 0) (rmEA l Z a0 hw [] a1 (cI + nI) d kd mI vd h0 n0 O0 Exa_a1 F_value_a1 F_coder_a1 Arv_d hle) hZ (hw _ (List.mem_of_getElem? (i := 90) rfl)) (hw _ (List.mem_of_getElem? (i := 53) rfl)) (by decide) (by decide)) (g := (mkF m 21 #[.val (.ref a1), .val (.ref x), .val (.int nI)] [(.int (cI + nI)), (.ref a1)])) rfl (by rw [hml]; rfl) (Steps.refl _) (a := a1) (by rw [e2]; exact qa3) qb3 (argsL := [(.int (cI + nI))]) (rest := []) (lenOf pd_rmAA_1 rfl) rfl (by show 2 * 0 + _ ≤ _; exact Nat.le_of_eq rfl) (hb hby d11_21) (fun _ _ => ⟨rfl, e2, (by decide : 0 + 0 ≤ _), (by decide : 0 + 0 ≤ _)⟩)
  dsimp only [Pt.U, Pt.locs, Pt.cells, Pt.slots] at X3 l3 y3 z3 st3 hQ3
  subst y3 z3
  obtain ⟨rfl, Nq3, e3⟩ := hQ3
  have N3 : Fr n0 L3 := l3 ▸ Fr.app N1 Nq3
  refine Gl.st (fun _ kk => st3.trans kk) ?_
  clear st3 qb3 qa3 cq3
  clear N1 X2 e2
  show Gl p e below s _ _ _ T3 (mkF m 24 #[.val (.ref a1), .val (.ref x), .val (.int nI)] [])
  refine Gl.st (fun _ kk => XS.aloadN X3.here hx rfl (hb hby d11_24) rfl rfl kk) ?_
  show Gl p e below s _ _ _ T3 (mkF m 25 #[.val (.ref a1), .val (.ref x), .val (.int nI)] [(.ref a1)])
  refine Gl.st (fun _ kk => XS.aloadN X3.here hx rfl (hb hby d11_25) rfl rfl kk) ?_
  show Gl p e below s _ _ _ T3 (mkF m 26 #[.val (.ref a1), .val (.ref x), .val (.int nI)] [(.ref a1), (.ref a1)])
  obtain ⟨T4, X4, e4, st4⟩ := getF X3 hx hZ hown (host := "") (Or.inl (hw _ (List.mem_of_getElem? (i := 84) rfl))) Via.refl e3 F_count_a1 (g := (mkF m 26 #[.val (.ref a1), .val (.ref x), .val (.int nI)] [(.ref a1), (.ref a1)])) rfl rfl (hb hby d11_26)
  refine Gl.st st4 ?_
  show Gl p e below s _ _ _ T4 (mkF m 29 #[.val (.ref a1), .val (.ref x), .val (.int nI)] [(.int cI), (.ref a1)])
  refine Gl.st (fun _ kk => XS.aloadN X4.here hx rfl (hb hby d11_29) rfl rfl kk) ?_
  show Gl p e below s _ _ _ T4 (mkF m 30 #[.val (.ref a1), .val (.ref x), .val (.int nI)] [(.ref x), (.int cI), (.ref a1)])
  obtain ⟨cq5, qa5, qb5⟩ := Exa_a1.cell
  obtain ⟨v5, _, ⟨T5, L5, kQ5, nQ5⟩, -, X5, ⟨Lc5, hQ5, l5, y5, z5⟩, st5⟩ := X4.privateBack hx (y := (⟨"java/lang/AbstractStringBuilder", "putStringAt", "(ILjava/lang/String;)V"⟩ : MethodName)) hown (mvT hZ (hw _ (List.mem_of_getElem? (i := 91) rfl))) (mvT hZ (hw _ (List.mem_of_getElem? (i := 92) rfl))) (mvT hZ (own_selP (hw _ (List.mem_of_getElem? (i := 94) rfl)) (hw _ (List.mem_of_getElem? (i := 92) rfl)) (hw _ (List.mem_of_getElem? (i := 93) rfl)) (by decide))) (Cond.privateMethod_at (mvP hZ (hw _ (List.mem_of_getElem? (i := 93) rfl)) (args := #[]))) (mvT hZ (hw _ (List.mem_of_getElem? (i := 95) rfl))) (by decide) (backOf (W := 0) (rmPS l Z a0 hw [] a1 cI x d t k nI us kd mI vd vd' cz h0 n0 O0 Exa_a1 F_value_a1 F_coder_a1 F_count_a1 Exa_x F_value_x F_coder_x Arv_t Arv_d hf gd nta ntd nxa nxd nad S_COMPACT hcz) hZ (hw _ (List.mem_of_getElem? (i := 95) rfl)) (hw _ (List.mem_of_getElem? (i := 53) rfl)) (by decide) (by decide)) (g := (mkF m 30 #[.val (.ref a1), .val (.ref x), .val (.int nI)] [(.ref x), (.int cI), (.ref a1)])) rfl (by rw [hml]; rfl) (Steps.refl _) (a := a1) (by rw [e4]; exact qa5) qb5 (argsL := [(.int cI), (.ref x)]) (rest := []) (lenOf pd_rmAA_2 rfl) rfl (by show 2 * 0 + _ ≤ _; exact Nat.le_of_eq rfl) (hb hby d11_30) (fun _ _ => ⟨rfl, e4, (by decide : 0 + 0 ≤ _), (by decide : 0 + 0 ≤ _)⟩)
  dsimp only [Pt.U, Pt.locs, Pt.cells, Pt.slots] at X5 l5 y5 z5 st5 hQ5
  subst y5 z5
  obtain ⟨h5, e5⟩ : ∃ z, T5.heap = z := ⟨_, rfl⟩
  rw [e5] at hQ5
  obtain ⟨rfl, Nq5, Kq5, Aq5⟩ := hQ5
  have N5 : Fr n0 L5 := l5 ▸ Fr.app N3 Nq5
  refine Gl.st (fun _ kk => st5.trans kk) ?_
  replace Exa_a1 := Exa_a1.keep Kq5
  replace F_value_a1 := F_value_a1.keep Kq5 (ninS nad nin0)
  replace F_coder_a1 := F_coder_a1.keep Kq5 (ninS nad nin0)
  replace F_count_a1 := F_count_a1.keep Kq5 (ninS nad nin0)
  replace Exa_x := Exa_x.keep Kq5
  replace F_value_x := F_value_x.keep Kq5 (ninS nxd nin0)
  replace F_coder_x := F_coder_x.keep Kq5 (ninS nxd nin0)
  replace Arv_t := Arv_t.keep Kq5 (ninS ntd nin0)
  have O5 := O0.keep Kq5 (allS gd all0)
  have K5 := (Keep.refl h0 [a1, d]).trans Kq5 (allS (Or.inl (List.mem_of_getElem? (i := 1) rfl)) all0)
  have Arv_d := Aq5
  clear st5 qb5 qa5 cq5
  clear N3 X4 e4
  show Gl p e below s _ _ _ T5 (mkF m 33 #[.val (.ref a1), .val (.ref x), .val (.int nI)] [])
  refine Gl.st (fun _ kk => XS.aloadN X5.here hx rfl (hb hby d11_33) rfl rfl kk) ?_
  show Gl p e below s _ _ _ T5 (mkF m 34 #[.val (.ref a1), .val (.ref x), .val (.int nI)] [(.ref a1)])
  refine Gl.st (fun _ kk => XS.dup X5.here hx rfl (hb hby d11_34) rfl rfl kk) ?_
  show Gl p e below s _ _ _ T5 (mkF m 35 #[.val (.ref a1), .val (.ref x), .val (.int nI)] [(.ref a1), (.ref a1)])
  obtain ⟨T6, X6, e6, st6⟩ := getF X5 hx hZ hown (host := "") (Or.inl (hw _ (List.mem_of_getElem? (i := 84) rfl))) Via.refl e5 F_count_a1 (g := (mkF m 35 #[.val (.ref a1), .val (.ref x), .val (.int nI)] [(.ref a1), (.ref a1)])) rfl rfl (hb hby d11_35)
  refine Gl.st st6 ?_
  show Gl p e below s _ _ _ T6 (mkF m 38 #[.val (.ref a1), .val (.ref x), .val (.int nI)] [(.int cI), (.ref a1)])
  refine Gl.st (fun _ kk => XS.iloadN X6.here hx rfl (hb hby d11_38) rfl kk) ?_
  show Gl p e below s _ _ _ T6 (mkF m 39 #[.val (.ref a1), .val (.ref x), .val (.int nI)] [(.int nI), (.int cI), (.ref a1)])
  refine Gl.st (fun _ kk => XS.iadd X6.here hx rfl (hb hby d11_39) rfl kk) ?_
  show Gl p e below s _ _ _ T6 (mkF m 40 #[.val (.ref a1), .val (.ref x), .val (.int nI)] [(.int (cI + nI)), (.ref a1)])
  obtain ⟨T7, h7, X7, e7, W7, st7⟩ := putF X6 hx hZ hown (host := "") (Or.inl (hw _ (List.mem_of_getElem? (i := 84) rfl))) Via.refl e6 F_count_a1 Exa_a1 (Or.inl (hw _ (List.mem_of_getElem? (i := 85) rfl))) (hw _ (List.mem_of_getElem? (i := 44) rfl)) (ty := .int) (by decide) rfl rfl (g := (mkF m 40 #[.val (.ref a1), .val (.ref x), .val (.int nI)] [(.int (cI + nI)), (.ref a1)])) rfl rfl (hb hby d11_40)
  refine Gl.st st7 ?_
  have F_count_a1 := F_count_a1.same W7
  replace Exa_a1 := Exa_a1.wr W7
  replace F_value_a1 := F_value_a1.other W7 (Or.inr (slot_ne (Or.inl (hw _ (List.mem_of_getElem? (i := 58) rfl))) (Or.inl (hw _ (List.mem_of_getElem? (i := 85) rfl))) (by decide) (t := (.array .byte)) (t' := .int) (by decide) (by decide)))
  replace F_coder_a1 := F_coder_a1.other W7 (Or.inr (slot_ne (Or.inl (hw _ (List.mem_of_getElem? (i := 60) rfl))) (Or.inl (hw _ (List.mem_of_getElem? (i := 85) rfl))) (by decide) (t := .byte) (t' := .int) (by decide) (by decide)))
  replace Exa_x := Exa_x.wr W7
  replace F_value_x := F_value_x.other W7 (Or.inl nxa)
  replace F_coder_x := F_coder_x.other W7 (Or.inl nxa)
  replace Arv_t := Arv_t.other W7 nta
  replace Arv_d := Arv_d.other W7 (Ne.symm nad)
  have O7 := O5.wr W7 g1
  have K7 := K5.wr W7 (Or.inl (List.mem_of_getElem? (i := 0) rfl))
  have N7 := Fr.snoc X7 N5 g1
  show Gl p e below s _ _ _ T7 (mkF m 43 #[.val (.ref a1), .val (.ref x), .val (.int nI)] [])
  refine Gl.st (fun _ kk => XS.aloadN X7.here hx rfl (hb hby d11_43) rfl rfl kk) ?_
  show Gl p e below s _ _ _ T7 (mkF m 44 #[.val (.ref a1), .val (.ref x), .val (.int nI)] [(.ref a1)])
  exact Gl.ret X7 (v := (some (.ref a1))) (fun h => by rw [Bd.returns] at h; cases h) (BodyLoose.notSynchronized Bd) (fun hr => retOut X7 hx Bd.returns rfl (Or.inr (Or.inr (Or.inr (Or.inr ⟨rfl, rfl, rfl⟩)))) (hb hby d11_44) hr) e7 ⟨rfl, N7, K7, F_value_a1, F_coder_a1, F_count_a1, Arv_d⟩ (by decide) (by decide)
theorem d10_0 : decode jdk_67_method_7_code 0 = .ok (.aload_n 0, 1) := by decide +kernel
theorem d10_1 : decode jdk_67_method_7_code 1 = .ok (.aload_n 1, 1) := by decide +kernel
theorem d10_2 : decode jdk_67_method_7_code 2 = .ok (.invokespecial 29, 3) := by decide +kernel
theorem d10_5 : decode jdk_67_method_7_code 5 = .ok (.pop, 1) := by decide +kernel
theorem d10_6 : decode jdk_67_method_7_code 6 = .ok (.aload_n 0, 1) := by decide +kernel
theorem d10_7 : decode jdk_67_method_7_code 7 = .ok (.areturn, 1) := by decide +kernel
theorem pd_rmBA_0 : parseMethodDescriptor "(Ljava/lang/String;)Ljava/lang/AbstractStringBuilder;" = some ⟨[(.object "java/lang/String")], some (.object "java/lang/AbstractStringBuilder")⟩ := by decide +kernel
theorem pn_rmBA : plainName "java/lang/StringBuilder" = true := by first | (simp [plainName, overriddenIn]; done) | decide +kernel
theorem ef_rmBA (m : MethodId) (a1 : Addr) (x : Addr) : entryFrame m #[(.ref a1), (.ref x)] 2 = mkF m 0 #[.val (.ref a1), .val (.ref x)] [] := by first | (simp [entryFrame, mkF, argsToLocals, Value.category]; done) | rfl
def Q_rmBA (Z : State) (a1 : Addr) (x : Addr) (d : Addr) (t : Addr) (k : ClassId) (nI : Int32) (us : List Value) (kd : ClassId) (mI cI : Int32) (vd vd' : List Value) (cz : Int32) (h0 : Heap) (n0 : Nat) (v : Option Value) (h : Heap) (L : List Loc) : Prop := v = some (.ref a1) ∧ Fr n0 L ∧ Keep h0 h [a1, d] ∧ Fld Z h a1 "java/lang/AbstractStringBuilder" "value" "[B" (.ref d) ∧ Fld Z h a1 "java/lang/AbstractStringBuilder" "coder" "B" (.int 0) ∧ Fld Z h a1 "java/lang/AbstractStringBuilder" "count" "I" (.int (cI + nI)) ∧ Arv Z h d kd .byte mI vd' (.int 0)
set_option maxRecDepth 65536 in
set_option maxHeartbeats 40000000 in
theorem rmBA (l : Launch) (Z : State) (a0 : Array Value) (hw : ∀ d ∈ tables_1, d.before a0 Z = true) (ws : List Jvm.Cond) (a1 : Addr) (x : Addr) (d : Addr) (t : Addr) (k : ClassId) (nI : Int32) (us : List Value) (kd : ClassId) (mI cI : Int32) (vd vd' : List Value) (cz : Int32) (h0 : Heap) (n0 : Nat) (O0 : Old Z n0 h0) (Exa_a1 : Exa Z h0 a1 "java/lang/StringBuilder") (F_value_a1 : Fld Z h0 a1 "java/lang/AbstractStringBuilder" "value" "[B" (.ref d)) (F_coder_a1 : Fld Z h0 a1 "java/lang/AbstractStringBuilder" "coder" "B" (.int 0)) (F_count_a1 : Fld Z h0 a1 "java/lang/AbstractStringBuilder" "count" "I" (.int cI)) (Exa_x : Exa Z h0 x "java/lang/String") (F_value_x : Fld Z h0 x "java/lang/String" "value" "[B" (.ref t)) (F_coder_x : Fld Z h0 x "java/lang/String" "coder" "B" (.int 0)) (Arv_t : Arv Z h0 t k .byte nI us (.int 0)) (Arv_d : Arv Z h0 d kd .byte mI vd (.int 0)) (hf : own_fits nI nI mI cI us us vd vd') (gd : n0 ≤ d) (nta : t ≠ a1) (ntd : t ≠ d) (nxa : x ≠ a1) (nxd : x ≠ d) (nad : a1 ≠ d) (S_COMPACT : Sta Z Z.heap "java/lang/String" "COMPACT_STRINGS" "Z" (.int cz)) (hcz : ¬ cz = 0) (hle : ¬ (0 : Int32) < (cI + nI) - mI) (g1 : n0 ≤ a1) :
    MetFree l (⟨"java/lang/StringBuilder", "append", "(Ljava/lang/String;)Ljava/lang/StringBuilder;"⟩ : MethodName) (head1 (Jvm.Cond.code (⟨"java/lang/StringBuilder", "append", "(Ljava/lang/String;)Ljava/lang/StringBuilder;"⟩ : MethodName) jdk_67_method_7_code 2 (some (.object "java/lang/StringBuilder")) :: ws) ({ frames := 4, cells := 0, slots := 0, locals := 61 } : Room)) (fun a U => a = #[(.ref a1), (.ref x)] ∧ Z.Warmed39 U.vm ∧ U.heap = h0) (fun _ _ _ _ _ => True) (fun _ U o U' => ∃ v L, o = .returned v ∧ Q_rmBA Z a1 x d t k nI us kd mI cI vd vd' cz h0 n0 v U'.heap L ∧ FrameEnd U o U' L ({ frames := 4, cells := 0, slots := 0, locals := 61 } : Room).cells ({ frames := 4, cells := 0, slots := 0, locals := 61 } : Room).slots) := by
  refine MetFree.of_bodySF (plainFor_of_name pn_rmBA) hisR ?_
  intro p e s m args below meth c s₁ Bd hml0 hP hK
  obtain ⟨rfl, hZ, hh⟩ := hP
  have hx := Bd.exec
  have hby := Bd.bytes
  have hml : c.maxLocals = 2 := hml0
  have hown : s.vm.findClass "java/lang/StringBuilder" = some m.cls := findClass_of_methodNamed Bd.named
  have hnm := (name_of_methodNamed Bd.named Bd.method).1
  have X0 : Stand p l e ({ frames := 4, cells := 0, slots := 0, locals := 61 } : Room) s m #[(.ref a1), (.ref x)] below meth c s₁ [] 0 0 := Stand.of_body Bd
  have e0 : s₁.heap = h0 := by rw [← hh, Bd.state]; rfl
  have N0 := Fr.nil n0
  refine Gl.start (Q := Q_rmBA Z a1 x d t k nI us kd mI cI vd vd' cz h0 n0) (ef_rmBA m a1 x) ?_
  show Gl p e below s _ _ _ s₁ (mkF m 0 #[.val (.ref a1), .val (.ref x)] [])
  refine Gl.st (fun _ kk => XS.aloadN X0.here hx rfl (hb hby d10_0) rfl rfl kk) ?_
  show Gl p e below s _ _ _ s₁ (mkF m 1 #[.val (.ref a1), .val (.ref x)] [(.ref a1)])
  refine Gl.st (fun _ kk => XS.aloadN X0.here hx rfl (hb hby d10_1) rfl rfl kk) ?_
  show Gl p e below s _ _ _ s₁ (mkF m 2 #[.val (.ref a1), .val (.ref x)] [(.ref x), (.ref a1)])
  obtain ⟨v1, _, ⟨T1, L1, kQ1, nQ1⟩, -, X1, ⟨Lc1, hQ1, l1, y1, z1⟩, st1⟩ := superBack X0 hx hZ (y := (⟨"java/lang/AbstractStringBuilder", "append", "(Ljava/lang/String;)Ljava/lang/AbstractStringBuilder;"⟩ : MethodName)) hown (hw _ (List.mem_of_getElem? (i := 69) rfl)) (own_same (hw _ (List.mem_of_getElem? (i := 72) rfl)) (hw _ (List.mem_of_getElem? (i := 89) rfl)) (by decide)) (hw _ (List.mem_of_getElem? (i := 70) rfl)) (hw _ (List.mem_of_getElem? (i := 71) rfl)) (by decide) (backOf (W := 0) (rmAA l Z a0 hw [] a1 x d t k nI us kd mI cI vd vd' cz h0 n0 O0 Exa_a1 F_value_a1 F_coder_a1 F_count_a1 Exa_x F_value_x F_coder_x Arv_t Arv_d hf gd nta ntd nxa nxd nad S_COMPACT hcz hle g1) hZ (hw _ (List.mem_of_getElem? (i := 73) rfl)) (hw _ (List.mem_of_getElem? (i := 53) rfl)) (by decide) (by decide)) e0 (Ins.self Exa_a1) (g := (mkF m 2 #[.val (.ref a1), .val (.ref x)] [(.ref x), (.ref a1)])) rfl (by rw [hml]; rfl) (hw _ (List.mem_of_getElem? (i := 73) rfl)) (argsL := [(.ref x)]) (rest := []) (lenOf pd_rmBA_0 rfl) rfl (by show 2 * 0 + _ ≤ _; exact Nat.le_of_eq rfl) (hb hby d10_2) (fun _ _ => ⟨rfl, e0, (by decide : 0 + 0 ≤ _), (by decide : 0 + 0 ≤ _)⟩)
  dsimp only [Pt.U, Pt.locs, Pt.cells, Pt.slots] at X1 l1 y1 z1 st1 hQ1
  subst y1 z1
  obtain ⟨h1, e1⟩ : ∃ z, T1.heap = z := ⟨_, rfl⟩
  rw [e1] at hQ1
  obtain ⟨rfl, Nq1, Kq1, Fvalue1, Fcoder1, Fcount1, Aq1⟩ := hQ1
  have N1 : Fr n0 L1 := l1 ▸ Fr.app N0 Nq1
  refine Gl.st (fun _ kk => st1.trans kk) ?_
  replace Exa_a1 := Exa_a1.keep Kq1
  replace Exa_x := Exa_x.keep Kq1
  replace F_value_x := F_value_x.keep Kq1 (ninS nxa (ninS nxd nin0))
  replace F_coder_x := F_coder_x.keep Kq1 (ninS nxa (ninS nxd nin0))
  replace Arv_t := Arv_t.keep Kq1 (ninS nta (ninS ntd nin0))
  have O1 := O0.keep Kq1 (allS g1 (allS gd all0))
  have K1 := (Keep.refl h0 [a1, d]).trans Kq1 (allS (Or.inl (List.mem_of_getElem? (i := 0) rfl)) (allS (Or.inl (List.mem_of_getElem? (i := 1) rfl)) all0))
  have F_value_a1 := Fvalue1
  have F_coder_a1 := Fcoder1
  have F_count_a1 := Fcount1
  have Arv_d := Aq1
  clear st1
  show Gl p e below s _ _ _ T1 (mkF m 5 #[.val (.ref a1), .val (.ref x)] [(.ref a1)])
  refine Gl.st (fun _ kk => XS.pop X1.here hx rfl (hb hby d10_5) rfl rfl kk) ?_
  show Gl p e below s _ _ _ T1 (mkF m 6 #[.val (.ref a1), .val (.ref x)] [])
  refine Gl.st (fun _ kk => XS.aloadN X1.here hx rfl (hb hby d10_6) rfl rfl kk) ?_
  show Gl p e below s _ _ _ T1 (mkF m 7 #[.val (.ref a1), .val (.ref x)] [(.ref a1)])
  exact Gl.ret X1 (v := (some (.ref a1))) (fun h => by rw [Bd.returns] at h; cases h) (BodyLoose.notSynchronized Bd) (fun hr => retOut X1 hx Bd.returns rfl (Or.inr (Or.inr (Or.inr (Or.inr ⟨rfl, rfl, rfl⟩)))) (hb hby d10_7) hr) e1 ⟨rfl, N1, K1, F_value_a1, F_coder_a1, F_count_a1, Arv_d⟩ (by decide) (by decide)
theorem d20_0 : decode jdk_29_method_65_code 0 = .ok (.iload_n 0, 1) := by decide +kernel
theorem d20_1 : decode jdk_29_method_65_code 1 = .ok (.iload_n 1, 1) := by decide +kernel
theorem d20_2 : decode jdk_29_method_65_code 2 = .ok (.if_icmp .lt 7, 3) := by decide +kernel
theorem d20_9 : decode jdk_29_method_65_code 9 = .ok (.iload_n 1, 1) := by decide +kernel
theorem d20_10 : decode jdk_29_method_65_code 10 = .ok (.ireturn, 1) := by decide +kernel
theorem ef_rmMX (m : MethodId) (q1 : Int32) (q2 : Int32) : entryFrame m #[(.int q1), (.int q2)] 2 = mkF m 0 #[.val (.int q1), .val (.int q2)] [] := by first | (simp [entryFrame, mkF, argsToLocals, Value.category]; done) | rfl
def Q_rmMX (Z : State) (q1 : Int32) (q2 : Int32)  (h0 : Heap) (n0 : Nat) (v : Option Value) (h : Heap) (L : List Loc) : Prop := v = some (.int q2) ∧ Fr n0 L ∧ h = h0
set_option maxRecDepth 65536 in
set_option maxHeartbeats 40000000 in
theorem rmMX (l : Launch) (Z : State) (a0 : Array Value) (hw : ∀ d ∈ tables_1, d.before a0 Z = true) (ws : List Jvm.Cond) (q1 : Int32) (q2 : Int32)  (h0 : Heap) (n0 : Nat) (O0 : Old Z n0 h0) (hlt : q1 < q2) :
    MetFree l (⟨"java/lang/Math", "max", "(II)I"⟩ : MethodName) (head1 (Jvm.Cond.code (⟨"java/lang/Math", "max", "(II)I"⟩ : MethodName) jdk_29_method_65_code 2 (some .int) :: ws) ({ frames := 0, cells := 0, slots := 0, locals := 0 } : Room)) (fun a U => a = #[(.int q1), (.int q2)] ∧ Z.Warmed39 U.vm ∧ U.heap = h0) (fun _ _ _ _ _ => True) (fun _ U o U' => ∃ v L, o = .returned v ∧ Q_rmMX Z q1 q2  h0 n0 v U'.heap L ∧ FrameEnd U o U' L ({ frames := 0, cells := 0, slots := 0, locals := 0 } : Room).cells ({ frames := 0, cells := 0, slots := 0, locals := 0 } : Room).slots) := by
  refine MetFree.of_bodySF (Jvm.Free.JP.mathPlain rfl (by decide +kernel)) hisR ?_
  intro p e s m args below meth c s₁ Bd hml0 hP hK
  obtain ⟨rfl, hZ, hh⟩ := hP
  have hx := Bd.exec
  have hby := Bd.bytes
  have hml : c.maxLocals = 2 := hml0
  have hown : s.vm.findClass "java/lang/Math" = some m.cls := findClass_of_methodNamed Bd.named
  have hnm := (name_of_methodNamed Bd.named Bd.method).1
  have X0 : Stand p l e ({ frames := 0, cells := 0, slots := 0, locals := 0 } : Room) s m #[(.int q1), (.int q2)] below meth c s₁ [] 0 0 := Stand.of_body Bd
  have e0 : s₁.heap = h0 := by rw [← hh, Bd.state]; rfl
  have N0 := Fr.nil n0
  refine Gl.start (Q := Q_rmMX Z q1 q2  h0 n0) (ef_rmMX m q1 q2) ?_
  show Gl p e below s _ _ _ s₁ (mkF m 0 #[.val (.int q1), .val (.int q2)] [])
  refine Gl.st (fun _ kk => XS.iloadN X0.here hx rfl (hb hby d20_0) rfl kk) ?_
  show Gl p e below s _ _ _ s₁ (mkF m 1 #[.val (.int q1), .val (.int q2)] [(.int q1)])
  refine Gl.st (fun _ kk => XS.iloadN X0.here hx rfl (hb hby d20_1) rfl kk) ?_
  show Gl p e below s _ _ _ s₁ (mkF m 2 #[.val (.int q1), .val (.int q2)] [(.int q2), (.int q1)])
  refine Gl.st (fun _ kk => XS.icmpYes X0.here hx rfl (pc0 := 2) (pc' := 9) rfl (hb hby d20_2) rfl (tlt hlt).1 (by decide) (by decide) kk) ?_
  show Gl p e below s _ _ _ s₁ (mkF m 9 #[.val (.int q1), .val (.int q2)] [])
  refine Gl.st (fun _ kk => XS.iloadN X0.here hx rfl (hb hby d20_9) rfl kk) ?_
  show Gl p e below s _ _ _ s₁ (mkF m 10 #[.val (.int q1), .val (.int q2)] [(.int q2)])
  exact Gl.ret X0 (v := (some (.int q2))) (fun h => by rw [Bd.returns] at h; cases h) (BodyLoose.notSynchronized Bd) (fun hr => retI X0 hx Bd.returns (hb hby d20_10) hr) e0 ⟨rfl, N0, rfl⟩ (by decide) (by decide)
theorem d19_0 : decode jdk_48_method_27_code 0 = .ok (.iload_n 0, 1) := by decide +kernel
theorem d19_1 : decode jdk_48_method_27_code 1 = .ok (.iload_n 1, 1) := by decide +kernel
theorem d19_2 : decode jdk_48_method_27_code 2 = .ok (.iload_n 2, 1) := by decide +kernel
theorem d19_3 : decode jdk_48_method_27_code 3 = .ok (.invokestatic 194, 3) := by decide +kernel
theorem d19_6 : decode jdk_48_method_27_code 6 = .ok (.iadd, 1) := by decide +kernel
theorem d19_7 : decode jdk_48_method_27_code 7 = .ok (.istore_n 3, 1) := by decide +kernel
theorem d19_8 : decode jdk_48_method_27_code 8 = .ok (.iconst 0, 1) := by decide +kernel
theorem d19_9 : decode jdk_48_method_27_code 9 = .ok (.iload_n 3, 1) := by decide +kernel
theorem d19_10 : decode jdk_48_method_27_code 10 = .ok (.if_icmp .ge 11, 3) := by decide +kernel
theorem d19_13 : decode jdk_48_method_27_code 13 = .ok (.iload_n 3, 1) := by decide +kernel
theorem d19_14 : decode jdk_48_method_27_code 14 = .ok (.ldc 200, 2) := by decide +kernel
theorem d19_16 : decode jdk_48_method_27_code 16 = .ok (.if_icmp .gt 5, 3) := by decide +kernel
theorem d19_19 : decode jdk_48_method_27_code 19 = .ok (.iload_n 3, 1) := by decide +kernel
theorem d19_20 : decode jdk_48_method_27_code 20 = .ok (.ireturn, 1) := by decide +kernel
theorem pd_rmNL_0 : parseMethodDescriptor "(II)I" = some ⟨[.int, .int], some .int⟩ := by decide +kernel
theorem pn_rmNL : plainName "jdk/internal/util/ArraysSupport" = true := by first | (simp [plainName, overriddenIn]; done) | decide +kernel
theorem ef_rmNL (m : MethodId)  : entryFrame m #[(.int (16 : Int32)), (.int (4 : Int32)), (.int (18 : Int32))] 4 = mkF m 0 #[.val (.int (16 : Int32)), .val (.int (4 : Int32)), .val (.int (18 : Int32)), .unset] [] := by first | (simp [entryFrame, mkF, argsToLocals, Value.category]; done) | rfl
def Q_rmNL (Z : State)   (h0 : Heap) (n0 : Nat) (v : Option Value) (h : Heap) (L : List Loc) : Prop := v = some (.int 34) ∧ Fr n0 L ∧ h = h0
set_option maxRecDepth 65536 in
set_option maxHeartbeats 40000000 in
theorem rmNL (l : Launch) (Z : State) (a0 : Array Value) (hw : ∀ d ∈ tables_1, d.before a0 Z = true) (ws : List Jvm.Cond)   (h0 : Heap) (n0 : Nat) (O0 : Old Z n0 h0) :
    MetFree l (⟨"jdk/internal/util/ArraysSupport", "newLength", "(III)I"⟩ : MethodName) (head1 (Jvm.Cond.code (⟨"jdk/internal/util/ArraysSupport", "newLength", "(III)I"⟩ : MethodName) jdk_48_method_27_code 4 (some .int) :: ws) ({ frames := 1, cells := 0, slots := 0, locals := 14 } : Room)) (fun a U => a = #[(.int (16 : Int32)), (.int (4 : Int32)), (.int (18 : Int32))] ∧ Z.Warmed39 U.vm ∧ U.heap = h0) (fun _ _ _ _ _ => True) (fun _ U o U' => ∃ v L, o = .returned v ∧ Q_rmNL Z   h0 n0 v U'.heap L ∧ FrameEnd U o U' L ({ frames := 1, cells := 0, slots := 0, locals := 14 } : Room).cells ({ frames := 1, cells := 0, slots := 0, locals := 14 } : Room).slots) := by
  refine MetFree.of_bodySF (plainFor_of_name pn_rmNL) hisR ?_
  intro p e s m args below meth c s₁ Bd hml0 hP hK
  obtain ⟨rfl, hZ, hh⟩ := hP
  have hx := Bd.exec
  have hby := Bd.bytes
  have hml : c.maxLocals = 4 := hml0
  have hown : s.vm.findClass "jdk/internal/util/ArraysSupport" = some m.cls := findClass_of_methodNamed Bd.named
  have hnm := (name_of_methodNamed Bd.named Bd.method).1
  have X0 : Stand p l e ({ frames := 1, cells := 0, slots := 0, locals := 14 } : Room) s m #[(.int (16 : Int32)), (.int (4 : Int32)), (.int (18 : Int32))] below meth c s₁ [] 0 0 := Stand.of_body Bd
  have e0 : s₁.heap = h0 := by rw [← hh, Bd.state]; rfl
  have N0 := Fr.nil n0
  refine Gl.start (Q := Q_rmNL Z   h0 n0) (ef_rmNL m ) ?_
  show Gl p e below s _ _ _ s₁ (mkF m 0 #[.val (.int (16 : Int32)), .val (.int (4 : Int32)), .val (.int (18 : Int32)), .unset] [])
  refine Gl.st (fun _ kk => XS.iloadN X0.here hx rfl (hb hby d19_0) rfl kk) ?_
  show Gl p e below s _ _ _ s₁ (mkF m 1 #[.val (.int (16 : Int32)), .val (.int (4 : Int32)), .val (.int (18 : Int32)), .unset] [(.int (16 : Int32))])
  refine Gl.st (fun _ kk => XS.iloadN X0.here hx rfl (hb hby d19_1) rfl kk) ?_
  show Gl p e below s _ _ _ s₁ (mkF m 2 #[.val (.int (16 : Int32)), .val (.int (4 : Int32)), .val (.int (18 : Int32)), .unset] [(.int (4 : Int32)), (.int (16 : Int32))])
  refine Gl.st (fun _ kk => XS.iloadN X0.here hx rfl (hb hby d19_2) rfl kk) ?_
  show Gl p e below s _ _ _ s₁ (mkF m 3 #[.val (.int (16 : Int32)), .val (.int (4 : Int32)), .val (.int (18 : Int32)), .unset] [(.int (18 : Int32)), (.int (4 : Int32)), (.int (16 : Int32))])
  obtain ⟨v1, _, ⟨T1, L1, kQ1, nQ1⟩, -, X1, ⟨Lc1, hQ1, l1, y1, z1⟩, st1⟩ := Jvm.LawKit.callS X0 hx (y := (⟨"java/lang/Math", "max", "(II)I"⟩ : MethodName)) hown (mvT hZ (hw _ (List.mem_of_getElem? (i := 121) rfl))) (mvT hZ (hw _ (List.mem_of_getElem? (i := 122) rfl))) (mvT hZ (hw _ (List.mem_of_getElem? (i := 123) rfl))) (mvT hZ (hw _ (List.mem_of_getElem? (i := 124) rfl))) (by decide) (backOf (W := 1) (rmMX l Z a0 hw [] (4 : Int32) (18 : Int32) h0 n0 O0 (by decide)) hZ (hw _ (List.mem_of_getElem? (i := 124) rfl)) (hw _ (List.mem_of_getElem? (i := 123) rfl)) (by decide) (by decide)) (g := (mkF m 3 #[.val (.int (16 : Int32)), .val (.int (4 : Int32)), .val (.int (18 : Int32)), .unset] [(.int (18 : Int32)), (.int (4 : Int32)), (.int (16 : Int32))])) rfl (by rw [hml]; rfl) (argsL := [(.int (4 : Int32)), (.int (18 : Int32))]) (rest := [(.int (16 : Int32))]) (lenOf pd_rmNL_0 rfl) rfl (by show 2 * 0 + _ ≤ _; exact Nat.le_of_eq rfl) (hb hby d19_3) (fun _ _ => ⟨rfl, e0, (by decide : 0 + 0 ≤ _), (by decide : 0 + 0 ≤ _)⟩)
  dsimp only [Pt.U, Pt.locs, Pt.cells, Pt.slots] at X1 l1 y1 z1 st1 hQ1
  subst y1 z1
  obtain ⟨rfl, Nq1, e1⟩ := hQ1
  have N1 : Fr n0 L1 := l1 ▸ Fr.app N0 Nq1
  refine Gl.st st1 ?_
  clear st1
  show Gl p e below s _ _ _ T1 (mkF m 6 #[.val (.int (16 : Int32)), .val (.int (4 : Int32)), .val (.int (18 : Int32)), .unset] [(.int (18 : Int32)), (.int (16 : Int32))])
  refine Gl.st (fun _ kk => XS.iadd X1.here hx rfl (hb hby d19_6) rfl kk) ?_
  show Gl p e below s _ _ _ T1 (mkF m 7 #[.val (.int (16 : Int32)), .val (.int (4 : Int32)), .val (.int (18 : Int32)), .unset] [(.int (34 : Int32))])
  refine Gl.st (fun _ kk => XS.istoreN X1.here hx rfl (hb hby d19_7) rfl (l' := #[.val (.int (16 : Int32)), .val (.int (4 : Int32)), .val (.int (18 : Int32)), .val (.int (34 : Int32))]) rfl kk) ?_
  show Gl p e below s _ _ _ T1 (mkF m 8 #[.val (.int (16 : Int32)), .val (.int (4 : Int32)), .val (.int (18 : Int32)), .val (.int (34 : Int32))] [])
  refine Gl.st (fun _ kk => XS.iconst X1.here hx rfl (hb hby d19_8) kk) ?_
  show Gl p e below s _ _ _ T1 (mkF m 9 #[.val (.int (16 : Int32)), .val (.int (4 : Int32)), .val (.int (18 : Int32)), .val (.int (34 : Int32))] [(.int (0 : Int32))])
  refine Gl.st (fun _ kk => XS.iloadN X1.here hx rfl (hb hby d19_9) rfl kk) ?_
  show Gl p e below s _ _ _ T1 (mkF m 10 #[.val (.int (16 : Int32)), .val (.int (4 : Int32)), .val (.int (18 : Int32)), .val (.int (34 : Int32))] [(.int (34 : Int32)), (.int (0 : Int32))])
  refine Gl.st (fun _ kk => XS.icmpNo X1.here hx rfl (hb hby d19_10) rfl (tlt (by decide : (0 : Int32) < (34 : Int32))).2.1 kk) ?_
  show Gl p e below s _ _ _ T1 (mkF m 13 #[.val (.int (16 : Int32)), .val (.int (4 : Int32)), .val (.int (18 : Int32)), .val (.int (34 : Int32))] [])
  refine Gl.st (fun _ kk => XS.iloadN X1.here hx rfl (hb hby d19_13) rfl kk) ?_
  show Gl p e below s _ _ _ T1 (mkF m 14 #[.val (.int (16 : Int32)), .val (.int (4 : Int32)), .val (.int (18 : Int32)), .val (.int (34 : Int32))] [(.int (34 : Int32))])
  refine Gl.st (fun _ kk => X1.ldcInt hx hown (mvT hZ (hw _ (List.mem_of_getElem? (i := 125) rfl))) (g := (mkF m 14 #[.val (.int (16 : Int32)), .val (.int (4 : Int32)), .val (.int (18 : Int32)), .val (.int (34 : Int32))] [(.int (34 : Int32))])) rfl (hb hby d19_14) _ kk) ?_
  show Gl p e below s _ _ _ T1 (mkF m 16 #[.val (.int (16 : Int32)), .val (.int (4 : Int32)), .val (.int (18 : Int32)), .val (.int (34 : Int32))] [(.int (2147483639 : Int32)), (.int (34 : Int32))])
  refine Gl.st (fun _ kk => XS.icmpNo X1.here hx rfl (hb hby d19_16) rfl (flt (by decide : ¬ ((2147483639 : Int32) < (34 : Int32)))).2.2.1 kk) ?_
  show Gl p e below s _ _ _ T1 (mkF m 19 #[.val (.int (16 : Int32)), .val (.int (4 : Int32)), .val (.int (18 : Int32)), .val (.int (34 : Int32))] [])
  refine Gl.st (fun _ kk => XS.iloadN X1.here hx rfl (hb hby d19_19) rfl kk) ?_
  show Gl p e below s _ _ _ T1 (mkF m 20 #[.val (.int (16 : Int32)), .val (.int (4 : Int32)), .val (.int (18 : Int32)), .val (.int (34 : Int32))] [(.int (34 : Int32))])
  exact Gl.ret X1 (v := (some (.int (34 : Int32)))) (fun h => by rw [Bd.returns] at h; cases h) (BodyLoose.notSynchronized Bd) (fun hr => retI X1 hx Bd.returns (hb hby d19_20) hr) e1 ⟨rfl, N1, rfl⟩ (by decide) (by decide)
theorem d18_0 : decode jdk_68_method_10_code 0 = .ok (.aload_n 0, 1) := by decide +kernel
theorem d18_1 : decode jdk_68_method_10_code 1 = .ok (.getfield 15, 3) := by decide +kernel
theorem d18_4 : decode jdk_68_method_10_code 4 = .ok (.arraylength, 1) := by decide +kernel
theorem d18_5 : decode jdk_68_method_10_code 5 = .ok (.istore_n 2, 1) := by decide +kernel
theorem d18_6 : decode jdk_68_method_10_code 6 = .ok (.iload_n 1, 1) := by decide +kernel
theorem d18_7 : decode jdk_68_method_10_code 7 = .ok (.aload_n 0, 1) := by decide +kernel
theorem d18_8 : decode jdk_68_method_10_code 8 = .ok (.getfield 22, 3) := by decide +kernel
theorem d18_11 : decode jdk_68_method_10_code 11 = .ok (.ishl, 1) := by decide +kernel
theorem d18_12 : decode jdk_68_method_10_code 12 = .ok (.istore_n 3, 1) := by decide +kernel
theorem d18_13 : decode jdk_68_method_10_code 13 = .ok (.iload_n 3, 1) := by decide +kernel
theorem d18_14 : decode jdk_68_method_10_code 14 = .ok (.iload_n 2, 1) := by decide +kernel
theorem d18_15 : decode jdk_68_method_10_code 15 = .ok (.isub, 1) := by decide +kernel
theorem d18_16 : decode jdk_68_method_10_code 16 = .ok (.istore 4, 2) := by decide +kernel
theorem d18_18 : decode jdk_68_method_10_code 18 = .ok (.iload_n 2, 1) := by decide +kernel
theorem d18_19 : decode jdk_68_method_10_code 19 = .ok (.iload 4, 2) := by decide +kernel
theorem d18_21 : decode jdk_68_method_10_code 21 = .ok (.iload_n 2, 1) := by decide +kernel
theorem d18_22 : decode jdk_68_method_10_code 22 = .ok (.iconst 2, 1) := by decide +kernel
theorem d18_23 : decode jdk_68_method_10_code 23 = .ok (.aload_n 0, 1) := by decide +kernel
theorem d18_24 : decode jdk_68_method_10_code 24 = .ok (.getfield 22, 3) := by decide +kernel
theorem d18_27 : decode jdk_68_method_10_code 27 = .ok (.ishl, 1) := by decide +kernel
theorem d18_28 : decode jdk_68_method_10_code 28 = .ok (.iadd, 1) := by decide +kernel
theorem d18_29 : decode jdk_68_method_10_code 29 = .ok (.invokestatic 114, 3) := by decide +kernel
theorem d18_32 : decode jdk_68_method_10_code 32 = .ok (.istore 5, 2) := by decide +kernel
theorem d18_34 : decode jdk_68_method_10_code 34 = .ok (.iload 5, 2) := by decide +kernel
theorem d18_36 : decode jdk_68_method_10_code 36 = .ok (.ldc 39, 2) := by decide +kernel
theorem d18_38 : decode jdk_68_method_10_code 38 = .ok (.if_icmp .ne 13, 3) := by decide +kernel
theorem d18_51 : decode jdk_68_method_10_code 51 = .ok (.iload 5, 2) := by decide +kernel
theorem d18_53 : decode jdk_68_method_10_code 53 = .ok (.aload_n 0, 1) := by decide +kernel
theorem d18_54 : decode jdk_68_method_10_code 54 = .ok (.getfield 22, 3) := by decide +kernel
theorem d18_57 : decode jdk_68_method_10_code 57 = .ok (.ishr, 1) := by decide +kernel
theorem d18_58 : decode jdk_68_method_10_code 58 = .ok (.ireturn, 1) := by decide +kernel
theorem pd_rmNC_0 : parseMethodDescriptor "(III)I" = some ⟨[.int, .int, .int], some .int⟩ := by decide +kernel
theorem pn_rmNC : plainName "java/lang/AbstractStringBuilder" = true := by first | (simp [plainName, overriddenIn]; done) | decide +kernel
theorem ef_rmNC (m : MethodId) (a1 : Addr) : entryFrame m #[(.ref a1), (.int (20 : Int32))] 6 = mkF m 0 #[.val (.ref a1), .val (.int (20 : Int32)), .unset, .unset, .unset, .unset] [] := by first | (simp [entryFrame, mkF, argsToLocals, Value.category]; done) | rfl
def Q_rmNC (Z : State) (a1 : Addr) (d : Addr) (kd : ClassId) (vd : List Value) (h0 : Heap) (n0 : Nat) (v : Option Value) (h : Heap) (L : List Loc) : Prop := v = some (.int 34) ∧ Fr n0 L ∧ h = h0
set_option maxRecDepth 65536 in
set_option maxHeartbeats 40000000 in
theorem rmNC (l : Launch) (Z : State) (a0 : Array Value) (hw : ∀ d ∈ tables_1, d.before a0 Z = true) (ws : List Jvm.Cond) (a1 : Addr) (d : Addr) (kd : ClassId) (vd : List Value) (h0 : Heap) (n0 : Nat) (O0 : Old Z n0 h0) (Exa_a1 : Exa Z h0 a1 "java/lang/StringBuilder") (F_value_a1 : Fld Z h0 a1 "java/lang/AbstractStringBuilder" "value" "[B" (.ref d)) (F_coder_a1 : Fld Z h0 a1 "java/lang/AbstractStringBuilder" "coder" "B" (.int 0)) (Arv_d : Arv Z h0 d kd .byte (16 : Int32) vd (.int 0)) :
    MetFree l (⟨"java/lang/AbstractStringBuilder", "newCapacity", "(I)I"⟩ : MethodName) (head1 (Jvm.Cond.code (⟨"java/lang/AbstractStringBuilder", "newCapacity", "(I)I"⟩ : MethodName) jdk_68_method_10_code 6 (some .int) :: ws) ({ frames := 2, cells := 0, slots := 0, locals := 29 } : Room)) (fun a U => a = #[(.ref a1), (.int (20 : Int32))] ∧ Z.Warmed39 U.vm ∧ U.heap = h0) (fun _ _ _ _ _ => True) (fun _ U o U' => ∃ v L, o = .returned v ∧ Q_rmNC Z a1 d kd vd h0 n0 v U'.heap L ∧ FrameEnd U o U' L ({ frames := 2, cells := 0, slots := 0, locals := 29 } : Room).cells ({ frames := 2, cells := 0, slots := 0, locals := 29 } : Room).slots) := by
  refine MetFree.of_bodySF (plainFor_of_name pn_rmNC) hisR ?_
  intro p e s m args below meth c s₁ Bd hml0 hP hK
  obtain ⟨rfl, hZ, hh⟩ := hP
  have hx := Bd.exec
  have hby := Bd.bytes
  have hml : c.maxLocals = 6 := hml0
  have hown : s.vm.findClass "java/lang/AbstractStringBuilder" = some m.cls := findClass_of_methodNamed Bd.named
  have hnm := (name_of_methodNamed Bd.named Bd.method).1
  have X0 : Stand p l e ({ frames := 2, cells := 0, slots := 0, locals := 29 } : Room) s m #[(.ref a1), (.int (20 : Int32))] below meth c s₁ [] 0 0 := Stand.of_body Bd
  have e0 : s₁.heap = h0 := by rw [← hh, Bd.state]; rfl
  have N0 := Fr.nil n0
  refine Gl.start (Q := Q_rmNC Z a1 d kd vd h0 n0) (ef_rmNC m a1) ?_
  show Gl p e below s _ _ _ s₁ (mkF m 0 #[.val (.ref a1), .val (.int (20 : Int32)), .unset, .unset, .unset, .unset] [])
  refine Gl.st (fun _ kk => XS.aloadN X0.here hx rfl (hb hby d18_0) rfl rfl kk) ?_
  show Gl p e below s _ _ _ s₁ (mkF m 1 #[.val (.ref a1), .val (.int (20 : Int32)), .unset, .unset, .unset, .unset] [(.ref a1)])
  obtain ⟨T1, X1, e1, st1⟩ := getF X0 hx hZ hown (host := "") (Or.inl (hw _ (List.mem_of_getElem? (i := 57) rfl))) Via.refl e0 F_value_a1 (g := (mkF m 1 #[.val (.ref a1), .val (.int (20 : Int32)), .unset, .unset, .unset, .unset] [(.ref a1)])) rfl rfl (hb hby d18_1)
  refine Gl.st st1 ?_
  show Gl p e below s _ _ _ T1 (mkF m 4 #[.val (.ref a1), .val (.int (20 : Int32)), .unset, .unset, .unset, .unset] [(.ref d)])
  obtain ⟨cl2, Ar2, q2, Sz2, Ng2, Ha2, Fi2⟩ := id Arv_d
  refine Gl.st (fun _ kk => X1.arraylength hx (by rw [e1]; exact Ar2.1) (State.isArrayOf_alike hZ.alike Ar2.2.1) (g := (mkF m 4 #[.val (.ref a1), .val (.int (20 : Int32)), .unset, .unset, .unset, .unset] [(.ref d)])) rfl rfl (hb hby d18_4) _ kk) ?_
  rw [len_of Sz2 Ng2]
  show Gl p e below s _ _ _ T1 (mkF m 5 #[.val (.ref a1), .val (.int (20 : Int32)), .unset, .unset, .unset, .unset] [(.int (16 : Int32))])
  refine Gl.st (fun _ kk => XS.istoreN X1.here hx rfl (hb hby d18_5) rfl (l' := #[.val (.ref a1), .val (.int (20 : Int32)), .val (.int (16 : Int32)), .unset, .unset, .unset]) rfl kk) ?_
  show Gl p e below s _ _ _ T1 (mkF m 6 #[.val (.ref a1), .val (.int (20 : Int32)), .val (.int (16 : Int32)), .unset, .unset, .unset] [])
  refine Gl.st (fun _ kk => XS.iloadN X1.here hx rfl (hb hby d18_6) rfl kk) ?_
  show Gl p e below s _ _ _ T1 (mkF m 7 #[.val (.ref a1), .val (.int (20 : Int32)), .val (.int (16 : Int32)), .unset, .unset, .unset] [(.int (20 : Int32))])
  refine Gl.st (fun _ kk => XS.aloadN X1.here hx rfl (hb hby d18_7) rfl rfl kk) ?_
  show Gl p e below s _ _ _ T1 (mkF m 8 #[.val (.ref a1), .val (.int (20 : Int32)), .val (.int (16 : Int32)), .unset, .unset, .unset] [(.ref a1), (.int (20 : Int32))])
  obtain ⟨T3, X3, e3, st3⟩ := getF X1 hx hZ hown (host := "") (Or.inl (hw _ (List.mem_of_getElem? (i := 59) rfl))) Via.refl e1 F_coder_a1 (g := (mkF m 8 #[.val (.ref a1), .val (.int (20 : Int32)), .val (.int (16 : Int32)), .unset, .unset, .unset] [(.ref a1), (.int (20 : Int32))])) rfl rfl (hb hby d18_8)
  refine Gl.st st3 ?_
  show Gl p e below s _ _ _ T3 (mkF m 11 #[.val (.ref a1), .val (.int (20 : Int32)), .val (.int (16 : Int32)), .unset, .unset, .unset] [(.int (0 : Int32)), (.int (20 : Int32))])
  refine Gl.st (fun _ kk => XS.ishl X3.here hx rfl (hb hby d18_11) rfl kk) ?_
  show Gl p e below s _ _ _ T3 (mkF m 12 #[.val (.ref a1), .val (.int (20 : Int32)), .val (.int (16 : Int32)), .unset, .unset, .unset] [(.int (20 : Int32))])
  refine Gl.st (fun _ kk => XS.istoreN X3.here hx rfl (hb hby d18_12) rfl (l' := #[.val (.ref a1), .val (.int (20 : Int32)), .val (.int (16 : Int32)), .val (.int (20 : Int32)), .unset, .unset]) rfl kk) ?_
  show Gl p e below s _ _ _ T3 (mkF m 13 #[.val (.ref a1), .val (.int (20 : Int32)), .val (.int (16 : Int32)), .val (.int (20 : Int32)), .unset, .unset] [])
  refine Gl.st (fun _ kk => XS.iloadN X3.here hx rfl (hb hby d18_13) rfl kk) ?_
  show Gl p e below s _ _ _ T3 (mkF m 14 #[.val (.ref a1), .val (.int (20 : Int32)), .val (.int (16 : Int32)), .val (.int (20 : Int32)), .unset, .unset] [(.int (20 : Int32))])
  refine Gl.st (fun _ kk => XS.iloadN X3.here hx rfl (hb hby d18_14) rfl kk) ?_
  show Gl p e below s _ _ _ T3 (mkF m 15 #[.val (.ref a1), .val (.int (20 : Int32)), .val (.int (16 : Int32)), .val (.int (20 : Int32)), .unset, .unset] [(.int (16 : Int32)), (.int (20 : Int32))])
  refine Gl.st (fun _ kk => XS.isub X3.here hx rfl (hb hby d18_15) rfl kk) ?_
  show Gl p e below s _ _ _ T3 (mkF m 16 #[.val (.ref a1), .val (.int (20 : Int32)), .val (.int (16 : Int32)), .val (.int (20 : Int32)), .unset, .unset] [(.int (4 : Int32))])
  refine Gl.st (fun _ kk => XS.istore X3.here hx rfl (hb hby d18_16) rfl (l' := #[.val (.ref a1), .val (.int (20 : Int32)), .val (.int (16 : Int32)), .val (.int (20 : Int32)), .val (.int (4 : Int32)), .unset]) rfl kk) ?_
  show Gl p e below s _ _ _ T3 (mkF m 18 #[.val (.ref a1), .val (.int (20 : Int32)), .val (.int (16 : Int32)), .val (.int (20 : Int32)), .val (.int (4 : Int32)), .unset] [])
  refine Gl.st (fun _ kk => XS.iloadN X3.here hx rfl (hb hby d18_18) rfl kk) ?_
  show Gl p e below s _ _ _ T3 (mkF m 19 #[.val (.ref a1), .val (.int (20 : Int32)), .val (.int (16 : Int32)), .val (.int (20 : Int32)), .val (.int (4 : Int32)), .unset] [(.int (16 : Int32))])
  refine Gl.st (fun _ kk => XS.iload X3.here hx rfl (hb hby d18_19) rfl kk) ?_
  show Gl p e below s _ _ _ T3 (mkF m 21 #[.val (.ref a1), .val (.int (20 : Int32)), .val (.int (16 : Int32)), .val (.int (20 : Int32)), .val (.int (4 : Int32)), .unset] [(.int (4 : Int32)), (.int (16 : Int32))])
  refine Gl.st (fun _ kk => XS.iloadN X3.here hx rfl (hb hby d18_21) rfl kk) ?_
  show Gl p e below s _ _ _ T3 (mkF m 22 #[.val (.ref a1), .val (.int (20 : Int32)), .val (.int (16 : Int32)), .val (.int (20 : Int32)), .val (.int (4 : Int32)), .unset] [(.int (16 : Int32)), (.int (4 : Int32)), (.int (16 : Int32))])
  refine Gl.st (fun _ kk => XS.iconst X3.here hx rfl (hb hby d18_22) kk) ?_
  show Gl p e below s _ _ _ T3 (mkF m 23 #[.val (.ref a1), .val (.int (20 : Int32)), .val (.int (16 : Int32)), .val (.int (20 : Int32)), .val (.int (4 : Int32)), .unset] [(.int (2 : Int32)), (.int (16 : Int32)), (.int (4 : Int32)), (.int (16 : Int32))])
  refine Gl.st (fun _ kk => XS.aloadN X3.here hx rfl (hb hby d18_23) rfl rfl kk) ?_
  show Gl p e below s _ _ _ T3 (mkF m 24 #[.val (.ref a1), .val (.int (20 : Int32)), .val (.int (16 : Int32)), .val (.int (20 : Int32)), .val (.int (4 : Int32)), .unset] [(.ref a1), (.int (2 : Int32)), (.int (16 : Int32)), (.int (4 : Int32)), (.int (16 : Int32))])
  obtain ⟨T4, X4, e4, st4⟩ := getF X3 hx hZ hown (host := "") (Or.inl (hw _ (List.mem_of_getElem? (i := 59) rfl))) Via.refl e3 F_coder_a1 (g := (mkF m 24 #[.val (.ref a1), .val (.int (20 : Int32)), .val (.int (16 : Int32)), .val (.int (20 : Int32)), .val (.int (4 : Int32)), .unset] [(.ref a1), (.int (2 : Int32)), (.int (16 : Int32)), (.int (4 : Int32)), (.int (16 : Int32))])) rfl rfl (hb hby d18_24)
  refine Gl.st st4 ?_
  show Gl p e below s _ _ _ T4 (mkF m 27 #[.val (.ref a1), .val (.int (20 : Int32)), .val (.int (16 : Int32)), .val (.int (20 : Int32)), .val (.int (4 : Int32)), .unset] [(.int (0 : Int32)), (.int (2 : Int32)), (.int (16 : Int32)), (.int (4 : Int32)), (.int (16 : Int32))])
  refine Gl.st (fun _ kk => XS.ishl X4.here hx rfl (hb hby d18_27) rfl kk) ?_
  show Gl p e below s _ _ _ T4 (mkF m 28 #[.val (.ref a1), .val (.int (20 : Int32)), .val (.int (16 : Int32)), .val (.int (20 : Int32)), .val (.int (4 : Int32)), .unset] [(.int (2 : Int32)), (.int (16 : Int32)), (.int (4 : Int32)), (.int (16 : Int32))])
  refine Gl.st (fun _ kk => XS.iadd X4.here hx rfl (hb hby d18_28) rfl kk) ?_
  show Gl p e below s _ _ _ T4 (mkF m 29 #[.val (.ref a1), .val (.int (20 : Int32)), .val (.int (16 : Int32)), .val (.int (20 : Int32)), .val (.int (4 : Int32)), .unset] [(.int (18 : Int32)), (.int (4 : Int32)), (.int (16 : Int32))])
  obtain ⟨v5, _, ⟨T5, L5, kQ5, nQ5⟩, -, X5, ⟨Lc5, hQ5, l5, y5, z5⟩, st5⟩ := Jvm.LawKit.callS X4 hx (y := (⟨"jdk/internal/util/ArraysSupport", "newLength", "(III)I"⟩ : MethodName)) hown (mvT hZ (hw _ (List.mem_of_getElem? (i := 117) rfl))) (mvT hZ (hw _ (List.mem_of_getElem? (i := 118) rfl))) (mvT hZ (hw _ (List.mem_of_getElem? (i := 119) rfl))) (mvT hZ (hw _ (List.mem_of_getElem? (i := 120) rfl))) (by decide) (backOf (W := 0) (rmNL l Z a0 hw [] h0 n0 O0) hZ (hw _ (List.mem_of_getElem? (i := 120) rfl)) (hw _ (List.mem_of_getElem? (i := 119) rfl)) (by decide) (by decide)) (g := (mkF m 29 #[.val (.ref a1), .val (.int (20 : Int32)), .val (.int (16 : Int32)), .val (.int (20 : Int32)), .val (.int (4 : Int32)), .unset] [(.int (18 : Int32)), (.int (4 : Int32)), (.int (16 : Int32))])) rfl (by rw [hml]; rfl) (argsL := [(.int (16 : Int32)), (.int (4 : Int32)), (.int (18 : Int32))]) (rest := []) (lenOf pd_rmNC_0 rfl) rfl (by show 2 * 0 + _ ≤ _; exact Nat.le_of_eq rfl) (hb hby d18_29) (fun _ _ => ⟨rfl, e4, (by decide : 0 + 0 ≤ _), (by decide : 0 + 0 ≤ _)⟩)
  dsimp only [Pt.U, Pt.locs, Pt.cells, Pt.slots] at X5 l5 y5 z5 st5 hQ5
  subst y5 z5
  obtain ⟨rfl, Nq5, e5⟩ := hQ5
  have N5 : Fr n0 L5 := l5 ▸ Fr.app N0 Nq5
  refine Gl.st st5 ?_
  clear st5
  clear X4 e4
  show Gl p e below s _ _ _ T5 (mkF m 32 #[.val (.ref a1), .val (.int (20 : Int32)), .val (.int (16 : Int32)), .val (.int (20 : Int32)), .val (.int (4 : Int32)), .unset] [(.int (34 : Int32))])
  refine Gl.st (fun _ kk => XS.istore X5.here hx rfl (hb hby d18_32) rfl (l' := #[.val (.ref a1), .val (.int (20 : Int32)), .val (.int (16 : Int32)), .val (.int (20 : Int32)), .val (.int (4 : Int32)), .val (.int (34 : Int32))]) rfl kk) ?_
  show Gl p e below s _ _ _ T5 (mkF m 34 #[.val (.ref a1), .val (.int (20 : Int32)), .val (.int (16 : Int32)), .val (.int (20 : Int32)), .val (.int (4 : Int32)), .val (.int (34 : Int32))] [])
  refine Gl.st (fun _ kk => XS.iload X5.here hx rfl (hb hby d18_34) rfl kk) ?_
  show Gl p e below s _ _ _ T5 (mkF m 36 #[.val (.ref a1), .val (.int (20 : Int32)), .val (.int (16 : Int32)), .val (.int (20 : Int32)), .val (.int (4 : Int32)), .val (.int (34 : Int32))] [(.int (34 : Int32))])
  refine Gl.st (fun _ kk => X5.ldcInt hx hown (mvT hZ (hw _ (List.mem_of_getElem? (i := 126) rfl))) (g := (mkF m 36 #[.val (.ref a1), .val (.int (20 : Int32)), .val (.int (16 : Int32)), .val (.int (20 : Int32)), .val (.int (4 : Int32)), .val (.int (34 : Int32))] [(.int (34 : Int32))])) rfl (hb hby d18_36) _ kk) ?_
  show Gl p e below s _ _ _ T5 (mkF m 38 #[.val (.ref a1), .val (.int (20 : Int32)), .val (.int (16 : Int32)), .val (.int (20 : Int32)), .val (.int (4 : Int32)), .val (.int (34 : Int32))] [(.int (2147483647 : Int32)), (.int (34 : Int32))])
  refine Gl.st (fun _ kk => XS.icmpYes X5.here hx rfl (pc0 := 38) (pc' := 51) rfl (hb hby d18_38) rfl (feq (by decide : ¬ ((34 : Int32) = (2147483647 : Int32)))).2 (by decide) (by decide) kk) ?_
  show Gl p e below s _ _ _ T5 (mkF m 51 #[.val (.ref a1), .val (.int (20 : Int32)), .val (.int (16 : Int32)), .val (.int (20 : Int32)), .val (.int (4 : Int32)), .val (.int (34 : Int32))] [])
  refine Gl.st (fun _ kk => XS.iload X5.here hx rfl (hb hby d18_51) rfl kk) ?_
  show Gl p e below s _ _ _ T5 (mkF m 53 #[.val (.ref a1), .val (.int (20 : Int32)), .val (.int (16 : Int32)), .val (.int (20 : Int32)), .val (.int (4 : Int32)), .val (.int (34 : Int32))] [(.int (34 : Int32))])
  refine Gl.st (fun _ kk => XS.aloadN X5.here hx rfl (hb hby d18_53) rfl rfl kk) ?_
  show Gl p e below s _ _ _ T5 (mkF m 54 #[.val (.ref a1), .val (.int (20 : Int32)), .val (.int (16 : Int32)), .val (.int (20 : Int32)), .val (.int (4 : Int32)), .val (.int (34 : Int32))] [(.ref a1), (.int (34 : Int32))])
  obtain ⟨T6, X6, e6, st6⟩ := getF X5 hx hZ hown (host := "") (Or.inl (hw _ (List.mem_of_getElem? (i := 59) rfl))) Via.refl e5 F_coder_a1 (g := (mkF m 54 #[.val (.ref a1), .val (.int (20 : Int32)), .val (.int (16 : Int32)), .val (.int (20 : Int32)), .val (.int (4 : Int32)), .val (.int (34 : Int32))] [(.ref a1), (.int (34 : Int32))])) rfl rfl (hb hby d18_54)
  refine Gl.st st6 ?_
  show Gl p e below s _ _ _ T6 (mkF m 57 #[.val (.ref a1), .val (.int (20 : Int32)), .val (.int (16 : Int32)), .val (.int (20 : Int32)), .val (.int (4 : Int32)), .val (.int (34 : Int32))] [(.int (0 : Int32)), (.int (34 : Int32))])
  refine Gl.st (fun _ kk => XS.ishr X6.here hx rfl (hb hby d18_57) rfl kk) ?_
  show Gl p e below s _ _ _ T6 (mkF m 58 #[.val (.ref a1), .val (.int (20 : Int32)), .val (.int (16 : Int32)), .val (.int (20 : Int32)), .val (.int (4 : Int32)), .val (.int (34 : Int32))] [(.int (34 : Int32))])
  exact Gl.ret X6 (v := (some (.int (34 : Int32)))) (fun h => by rw [Bd.returns] at h; cases h) (BodyLoose.notSynchronized Bd) (fun hr => retI X6 hx Bd.returns (hb hby d18_58) hr) e6 ⟨rfl, N5, rfl⟩ (by decide) (by decide)
theorem d22_0 : decode jdk_29_method_69_code 0 = .ok (.iload_n 0, 1) := by decide +kernel
theorem d22_1 : decode jdk_29_method_69_code 1 = .ok (.iload_n 1, 1) := by decide +kernel
theorem d22_2 : decode jdk_29_method_69_code 2 = .ok (.if_icmp .gt 7, 3) := by decide +kernel
theorem d22_5 : decode jdk_29_method_69_code 5 = .ok (.iload_n 0, 1) := by decide +kernel
theorem d22_6 : decode jdk_29_method_69_code 6 = .ok (.goto 4, 3) := by decide +kernel
theorem d22_10 : decode jdk_29_method_69_code 10 = .ok (.ireturn, 1) := by decide +kernel
theorem ef_rmM1 (m : MethodId) (q1 : Int32) (q2 : Int32) : entryFrame m #[(.int q1), (.int q2)] 2 = mkF m 0 #[.val (.int q1), .val (.int q2)] [] := by first | (simp [entryFrame, mkF, argsToLocals, Value.category]; done) | rfl
def Q_rmM1 (Z : State) (q1 : Int32) (q2 : Int32)  (h0 : Heap) (n0 : Nat) (v : Option Value) (h : Heap) (L : List Loc) : Prop := v = some (.int q1) ∧ Fr n0 L ∧ h = h0
set_option maxRecDepth 65536 in
set_option maxHeartbeats 40000000 in
theorem rmM1 (l : Launch) (Z : State) (a0 : Array Value) (hw : ∀ d ∈ tables_1, d.before a0 Z = true) (ws : List Jvm.Cond) (q1 : Int32) (q2 : Int32)  (h0 : Heap) (n0 : Nat) (O0 : Old Z n0 h0) (hle : ¬ q2 < q1) :
    MetFree l (⟨"java/lang/Math", "min", "(II)I"⟩ : MethodName) (head1 (Jvm.Cond.code (⟨"java/lang/Math", "min", "(II)I"⟩ : MethodName) jdk_29_method_69_code 2 (some .int) :: ws) ({ frames := 0, cells := 0, slots := 0, locals := 0 } : Room)) (fun a U => a = #[(.int q1), (.int q2)] ∧ Z.Warmed39 U.vm ∧ U.heap = h0) (fun _ _ _ _ _ => True) (fun _ U o U' => ∃ v L, o = .returned v ∧ Q_rmM1 Z q1 q2  h0 n0 v U'.heap L ∧ FrameEnd U o U' L ({ frames := 0, cells := 0, slots := 0, locals := 0 } : Room).cells ({ frames := 0, cells := 0, slots := 0, locals := 0 } : Room).slots) := by
  refine MetFree.of_bodySF (Jvm.Free.JP.mathPlain rfl (by decide +kernel)) hisR ?_
  intro p e s m args below meth c s₁ Bd hml0 hP hK
  obtain ⟨rfl, hZ, hh⟩ := hP
  have hx := Bd.exec
  have hby := Bd.bytes
  have hml : c.maxLocals = 2 := hml0
  have hown : s.vm.findClass "java/lang/Math" = some m.cls := findClass_of_methodNamed Bd.named
  have hnm := (name_of_methodNamed Bd.named Bd.method).1
  have X0 : Stand p l e ({ frames := 0, cells := 0, slots := 0, locals := 0 } : Room) s m #[(.int q1), (.int q2)] below meth c s₁ [] 0 0 := Stand.of_body Bd
  have e0 : s₁.heap = h0 := by rw [← hh, Bd.state]; rfl
  have N0 := Fr.nil n0
  refine Gl.start (Q := Q_rmM1 Z q1 q2  h0 n0) (ef_rmM1 m q1 q2) ?_
  show Gl p e below s _ _ _ s₁ (mkF m 0 #[.val (.int q1), .val (.int q2)] [])
  refine Gl.st (fun _ kk => XS.iloadN X0.here hx rfl (hb hby d22_0) rfl kk) ?_
  show Gl p e below s _ _ _ s₁ (mkF m 1 #[.val (.int q1), .val (.int q2)] [(.int q1)])
  refine Gl.st (fun _ kk => XS.iloadN X0.here hx rfl (hb hby d22_1) rfl kk) ?_
  show Gl p e below s _ _ _ s₁ (mkF m 2 #[.val (.int q1), .val (.int q2)] [(.int q2), (.int q1)])
  refine Gl.st (fun _ kk => XS.icmpNo X0.here hx rfl (hb hby d22_2) rfl (flt hle).2.2.1 kk) ?_
  show Gl p e below s _ _ _ s₁ (mkF m 5 #[.val (.int q1), .val (.int q2)] [])
  refine Gl.st (fun _ kk => XS.iloadN X0.here hx rfl (hb hby d22_5) rfl kk) ?_
  show Gl p e below s _ _ _ s₁ (mkF m 6 #[.val (.int q1), .val (.int q2)] [(.int q1)])
  refine Gl.st (fun _ kk => XS.goto X0.here hx rfl (pc0 := 6) (pc' := 10) rfl (hb hby d22_6) (by decide) (by decide) kk) ?_
  show Gl p e below s _ _ _ s₁ (mkF m 10 #[.val (.int q1), .val (.int q2)] [(.int q1)])
  exact Gl.ret X0 (v := (some (.int q1))) (fun h => by rw [Bd.returns] at h; cases h) (BodyLoose.notSynchronized Bd) (fun hr => retI X0 hx Bd.returns (hb hby d22_10) hr) e0 ⟨rfl, N0, rfl⟩ (by decide) (by decide)
theorem d22_9 : decode jdk_29_method_69_code 9 = .ok (.iload_n 1, 1) := by decide +kernel
theorem ef_rmM2 (m : MethodId) (q1 : Int32) (q2 : Int32) : entryFrame m #[(.int q1), (.int q2)] 2 = mkF m 0 #[.val (.int q1), .val (.int q2)] [] := by first | (simp [entryFrame, mkF, argsToLocals, Value.category]; done) | rfl
def Q_rmM2 (Z : State) (q1 : Int32) (q2 : Int32)  (h0 : Heap) (n0 : Nat) (v : Option Value) (h : Heap) (L : List Loc) : Prop := v = some (.int q2) ∧ Fr n0 L ∧ h = h0
set_option maxRecDepth 65536 in
set_option maxHeartbeats 40000000 in
theorem rmM2 (l : Launch) (Z : State) (a0 : Array Value) (hw : ∀ d ∈ tables_1, d.before a0 Z = true) (ws : List Jvm.Cond) (q1 : Int32) (q2 : Int32)  (h0 : Heap) (n0 : Nat) (O0 : Old Z n0 h0) (hlt : q2 < q1) :
    MetFree l (⟨"java/lang/Math", "min", "(II)I"⟩ : MethodName) (head1 (Jvm.Cond.code (⟨"java/lang/Math", "min", "(II)I"⟩ : MethodName) jdk_29_method_69_code 2 (some .int) :: ws) ({ frames := 0, cells := 0, slots := 0, locals := 0 } : Room)) (fun a U => a = #[(.int q1), (.int q2)] ∧ Z.Warmed39 U.vm ∧ U.heap = h0) (fun _ _ _ _ _ => True) (fun _ U o U' => ∃ v L, o = .returned v ∧ Q_rmM2 Z q1 q2  h0 n0 v U'.heap L ∧ FrameEnd U o U' L ({ frames := 0, cells := 0, slots := 0, locals := 0 } : Room).cells ({ frames := 0, cells := 0, slots := 0, locals := 0 } : Room).slots) := by
  refine MetFree.of_bodySF (Jvm.Free.JP.mathPlain rfl (by decide +kernel)) hisR ?_
  intro p e s m args below meth c s₁ Bd hml0 hP hK
  obtain ⟨rfl, hZ, hh⟩ := hP
  have hx := Bd.exec
  have hby := Bd.bytes
  have hml : c.maxLocals = 2 := hml0
  have hown : s.vm.findClass "java/lang/Math" = some m.cls := findClass_of_methodNamed Bd.named
  have hnm := (name_of_methodNamed Bd.named Bd.method).1
  have X0 : Stand p l e ({ frames := 0, cells := 0, slots := 0, locals := 0 } : Room) s m #[(.int q1), (.int q2)] below meth c s₁ [] 0 0 := Stand.of_body Bd
  have e0 : s₁.heap = h0 := by rw [← hh, Bd.state]; rfl
  have N0 := Fr.nil n0
  refine Gl.start (Q := Q_rmM2 Z q1 q2  h0 n0) (ef_rmM2 m q1 q2) ?_
  show Gl p e below s _ _ _ s₁ (mkF m 0 #[.val (.int q1), .val (.int q2)] [])
  refine Gl.st (fun _ kk => XS.iloadN X0.here hx rfl (hb hby d22_0) rfl kk) ?_
  show Gl p e below s _ _ _ s₁ (mkF m 1 #[.val (.int q1), .val (.int q2)] [(.int q1)])
  refine Gl.st (fun _ kk => XS.iloadN X0.here hx rfl (hb hby d22_1) rfl kk) ?_
  show Gl p e below s _ _ _ s₁ (mkF m 2 #[.val (.int q1), .val (.int q2)] [(.int q2), (.int q1)])
  refine Gl.st (fun _ kk => XS.icmpYes X0.here hx rfl (pc0 := 2) (pc' := 9) rfl (hb hby d22_2) rfl (tlt hlt).2.2.1 (by decide) (by decide) kk) ?_
  show Gl p e below s _ _ _ s₁ (mkF m 9 #[.val (.int q1), .val (.int q2)] [])
  refine Gl.st (fun _ kk => XS.iloadN X0.here hx rfl (hb hby d22_9) rfl kk) ?_
  show Gl p e below s _ _ _ s₁ (mkF m 10 #[.val (.int q1), .val (.int q2)] [(.int q2)])
  exact Gl.ret X0 (v := (some (.int q2))) (fun h => by rw [Bd.returns] at h; cases h) (BodyLoose.notSynchronized Bd) (fun hr => retI X0 hx Bd.returns (hb hby d22_10) hr) e0 ⟨rfl, N0, rfl⟩ (by decide) (by decide)
theorem d21_0 : decode jdk_65_method_121_code 0 = .ok (.iload_n 1, 1) := by decide +kernel
theorem d21_1 : decode jdk_65_method_121_code 1 = .ok (.aload_n 0, 1) := by decide +kernel
theorem d21_2 : decode jdk_65_method_121_code 2 = .ok (.arraylength, 1) := by decide +kernel
theorem d21_3 : decode jdk_65_method_121_code 3 = .ok (.if_icmp .ne 11, 3) := by decide +kernel
theorem d21_14 : decode jdk_65_method_121_code 14 = .ok (.iload_n 1, 1) := by decide +kernel
theorem d21_15 : decode jdk_65_method_121_code 15 = .ok (.newarray .byte, 2) := by decide +kernel
theorem d21_17 : decode jdk_65_method_121_code 17 = .ok (.astore_n 2, 1) := by decide +kernel
theorem d21_18 : decode jdk_65_method_121_code 18 = .ok (.aload_n 0, 1) := by decide +kernel
theorem d21_19 : decode jdk_65_method_121_code 19 = .ok (.iconst 0, 1) := by decide +kernel
theorem d21_20 : decode jdk_65_method_121_code 20 = .ok (.aload_n 2, 1) := by decide +kernel
theorem d21_21 : decode jdk_65_method_121_code 21 = .ok (.iconst 0, 1) := by decide +kernel
theorem d21_22 : decode jdk_65_method_121_code 22 = .ok (.aload_n 0, 1) := by decide +kernel
theorem d21_23 : decode jdk_65_method_121_code 23 = .ok (.arraylength, 1) := by decide +kernel
theorem d21_24 : decode jdk_65_method_121_code 24 = .ok (.iload_n 1, 1) := by decide +kernel
theorem d21_25 : decode jdk_65_method_121_code 25 = .ok (.invokestatic 304, 3) := by decide +kernel
theorem d21_28 : decode jdk_65_method_121_code 28 = .ok (.invokestatic 150, 3) := by decide +kernel
theorem d21_31 : decode jdk_65_method_121_code 31 = .ok (.aload_n 2, 1) := by decide +kernel
theorem d21_32 : decode jdk_65_method_121_code 32 = .ok (.areturn, 1) := by decide +kernel
theorem pd_rmCP_0 : parseMethodDescriptor "(II)I" = some ⟨[.int, .int], some .int⟩ := by decide +kernel
theorem pn_rmCP : plainName "java/util/Arrays" = true := by first | (simp [plainName, overriddenIn]; done) | decide +kernel
theorem ef_rmCP (m : MethodId) (d : Addr) : entryFrame m #[(.ref d), (.int (34 : Int32))] 3 = mkF m 0 #[.val (.ref d), .val (.int (34 : Int32)), .unset] [] := by first | (simp [entryFrame, mkF, argsToLocals, Value.category]; done) | rfl
def Q_rmCP (Z : State) (d : Addr) (kd : ClassId) (us vd vg : List Value) (h0 : Heap) (n0 : Nat) (v : Option Value) (h : Heap) (L : List Loc) : Prop := ∃ (b : Addr) (k2 : ClassId), v = some (.ref b) ∧ Fr n0 L ∧ Keep h0 h [] ∧ Arv Z h b k2 .byte (34 : Int32) vg (.int 0) ∧ h0.size ≤ b
set_option maxRecDepth 65536 in
set_option maxHeartbeats 40000000 in
theorem rmCP (l : Launch) (Z : State) (a0 : Array Value) (hw : ∀ d ∈ tables_1, d.before a0 Z = true) (ws : List Jvm.Cond) (d : Addr) (kd : ClassId) (us vd vg : List Value) (h0 : Heap) (n0 : Nat) (O0 : Old Z n0 h0) (Arv_d : Arv Z h0 d kd .byte (16 : Int32) vd (.int 0)) (hg : own_fits 16 16 34 0 us vd [(.int (0 : Int32)), (.int (0 : Int32)), (.int (0 : Int32)), (.int (0 : Int32)), (.int (0 : Int32)), (.int (0 : Int32)), (.int (0 : Int32)), (.int (0 : Int32)), (.int (0 : Int32)), (.int (0 : Int32)), (.int (0 : Int32)), (.int (0 : Int32)), (.int (0 : Int32)), (.int (0 : Int32)), (.int (0 : Int32)), (.int (0 : Int32)), (.int (0 : Int32)), (.int (0 : Int32)), (.int (0 : Int32)), (.int (0 : Int32)), (.int (0 : Int32)), (.int (0 : Int32)), (.int (0 : Int32)), (.int (0 : Int32)), (.int (0 : Int32)), (.int (0 : Int32)), (.int (0 : Int32)), (.int (0 : Int32)), (.int (0 : Int32)), (.int (0 : Int32)), (.int (0 : Int32)), (.int (0 : Int32)), (.int (0 : Int32)), (.int (0 : Int32))] vg) :
    MetFree l (⟨"java/util/Arrays", "copyOf", "([BI)[B"⟩ : MethodName) (head1 (Jvm.Cond.code (⟨"java/util/Arrays", "copyOf", "([BI)[B"⟩ : MethodName) jdk_65_method_121_code 3 (some (.array .byte)) :: ws) ({ frames := 1, cells := 1, slots := 34, locals := 18 } : Room)) (fun a U => a = #[(.ref d), (.int (34 : Int32))] ∧ Z.Warmed39 U.vm ∧ U.heap = h0) (fun _ _ _ _ _ => True) (fun _ U o U' => ∃ v L, o = .returned v ∧ Q_rmCP Z d kd us vd vg h0 n0 v U'.heap L ∧ FrameEnd U o U' L ({ frames := 1, cells := 1, slots := 34, locals := 18 } : Room).cells ({ frames := 1, cells := 1, slots := 34, locals := 18 } : Room).slots) := by
  refine MetFree.of_bodySF (plainFor_of_name pn_rmCP) hisR ?_
  intro p e s m args below meth c s₁ Bd hml0 hP hK
  obtain ⟨rfl, hZ, hh⟩ := hP
  have hx := Bd.exec
  have hby := Bd.bytes
  have hml : c.maxLocals = 3 := hml0
  have hown : s.vm.findClass "java/util/Arrays" = some m.cls := findClass_of_methodNamed Bd.named
  have hnm := (name_of_methodNamed Bd.named Bd.method).1
  have X0 : Stand p l e ({ frames := 1, cells := 1, slots := 34, locals := 18 } : Room) s m #[(.ref d), (.int (34 : Int32))] below meth c s₁ [] 0 0 := Stand.of_body Bd
  have e0 : s₁.heap = h0 := by rw [← hh, Bd.state]; rfl
  have N0 := Fr.nil n0
  refine Gl.start (Q := Q_rmCP Z d kd us vd vg h0 n0) (ef_rmCP m d) ?_
  show Gl p e below s _ _ _ s₁ (mkF m 0 #[.val (.ref d), .val (.int (34 : Int32)), .unset] [])
  refine Gl.st (fun _ kk => XS.iloadN X0.here hx rfl (hb hby d21_0) rfl kk) ?_
  show Gl p e below s _ _ _ s₁ (mkF m 1 #[.val (.ref d), .val (.int (34 : Int32)), .unset] [(.int (34 : Int32))])
  refine Gl.st (fun _ kk => XS.aloadN X0.here hx rfl (hb hby d21_1) rfl rfl kk) ?_
  show Gl p e below s _ _ _ s₁ (mkF m 2 #[.val (.ref d), .val (.int (34 : Int32)), .unset] [(.ref d), (.int (34 : Int32))])
  obtain ⟨cl1, Ar1, q1, Sz1, Ng1, Ha1, Fi1⟩ := id Arv_d
  refine Gl.st (fun _ kk => X0.arraylength hx (by rw [e0]; exact Ar1.1) (State.isArrayOf_alike hZ.alike Ar1.2.1) (g := (mkF m 2 #[.val (.ref d), .val (.int (34 : Int32)), .unset] [(.ref d), (.int (34 : Int32))])) rfl rfl (hb hby d21_2) _ kk) ?_
  rw [len_of Sz1 Ng1]
  show Gl p e below s _ _ _ s₁ (mkF m 3 #[.val (.ref d), .val (.int (34 : Int32)), .unset] [(.int (16 : Int32)), (.int (34 : Int32))])
  refine Gl.st (fun _ kk => XS.icmpYes X0.here hx rfl (pc0 := 3) (pc' := 14) rfl (hb hby d21_3) rfl (feq (by decide : ¬ ((34 : Int32) = (16 : Int32)))).2 (by decide) (by decide) kk) ?_
  show Gl p e below s _ _ _ s₁ (mkF m 14 #[.val (.ref d), .val (.int (34 : Int32)), .unset] [])
  refine Gl.st (fun _ kk => XS.iloadN X0.here hx rfl (hb hby d21_14) rfl kk) ?_
  show Gl p e below s _ _ _ s₁ (mkF m 15 #[.val (.ref d), .val (.int (34 : Int32)), .unset] [(.int (34 : Int32))])
  obtain ⟨T2, h2, ka2, X2, e2, E2, A2, st2⟩ := newP X0 hx hZ (hw _ (List.mem_of_getElem? (i := 14) rfl)) e0 (g := (mkF m 15 #[.val (.ref d), .val (.int (34 : Int32)), .unset] [(.int (34 : Int32))])) rfl (hb hby d21_15) rfl (by decide) (cap := 34) (by decide) (by decide) (by decide) (by decide)
  obtain ⟨b2, g2⟩ : ∃ z, z = h0.size := ⟨_, rfl⟩
  rw [← g2] at A2 st2
  refine Gl.st st2 ?_
  have ne_d_b2 : d ≠ b2 := Nat.ne_of_lt (Nat.lt_of_lt_of_eq Arv_d.lt g2.symm)
  have ge_b2 : n0 ≤ b2 := Nat.le_trans (Nat.le_trans (Nat.le_of_eq O0.1.symm) O0.2.1) (Nat.le_of_eq g2.symm)
  have fr_b2 : h0.size ≤ b2 := Nat.le_trans (Nat.le_refl _) (Nat.le_of_eq g2.symm)
  replace Arv_d := Arv_d.ext E2
  have O2 := O0.ext E2
  have K2 := (Keep.refl h0 []).ext E2
  have Arv_b2 : Arv Z h2 b2 ka2 .byte (34 : Int32) [(.int (0 : Int32)), (.int (0 : Int32)), (.int (0 : Int32)), (.int (0 : Int32)), (.int (0 : Int32)), (.int (0 : Int32)), (.int (0 : Int32)), (.int (0 : Int32)), (.int (0 : Int32)), (.int (0 : Int32)), (.int (0 : Int32)), (.int (0 : Int32)), (.int (0 : Int32)), (.int (0 : Int32)), (.int (0 : Int32)), (.int (0 : Int32)), (.int (0 : Int32)), (.int (0 : Int32)), (.int (0 : Int32)), (.int (0 : Int32)), (.int (0 : Int32)), (.int (0 : Int32)), (.int (0 : Int32)), (.int (0 : Int32)), (.int (0 : Int32)), (.int (0 : Int32)), (.int (0 : Int32)), (.int (0 : Int32)), (.int (0 : Int32)), (.int (0 : Int32)), (.int (0 : Int32)), (.int (0 : Int32)), (.int (0 : Int32)), (.int (0 : Int32))] (.int (0 : Int32)) := (Arv.new A2 (by decide)).pad (pad_rep [] (.int (0 : Int32)) 34)
  show Gl p e below s _ _ _ T2 (mkF m 17 #[.val (.ref d), .val (.int (34 : Int32)), .unset] [(.ref b2)])
  refine Gl.st (fun _ kk => XS.astoreN X2.here hx rfl (hb hby d21_17) rfl rfl (l' := #[.val (.ref d), .val (.int (34 : Int32)), .val (.ref b2)]) rfl kk) ?_
  show Gl p e below s _ _ _ T2 (mkF m 18 #[.val (.ref d), .val (.int (34 : Int32)), .val (.ref b2)] [])
  refine Gl.st (fun _ kk => XS.aloadN X2.here hx rfl (hb hby d21_18) rfl rfl kk) ?_
  show Gl p e below s _ _ _ T2 (mkF m 19 #[.val (.ref d), .val (.int (34 : Int32)), .val (.ref b2)] [(.ref d)])
  refine Gl.st (fun _ kk => XS.iconst X2.here hx rfl (hb hby d21_19) kk) ?_
  show Gl p e below s _ _ _ T2 (mkF m 20 #[.val (.ref d), .val (.int (34 : Int32)), .val (.ref b2)] [(.int (0 : Int32)), (.ref d)])
  refine Gl.st (fun _ kk => XS.aloadN X2.here hx rfl (hb hby d21_20) rfl rfl kk) ?_
  show Gl p e below s _ _ _ T2 (mkF m 21 #[.val (.ref d), .val (.int (34 : Int32)), .val (.ref b2)] [(.ref b2), (.int (0 : Int32)), (.ref d)])
  refine Gl.st (fun _ kk => XS.iconst X2.here hx rfl (hb hby d21_21) kk) ?_
  show Gl p e below s _ _ _ T2 (mkF m 22 #[.val (.ref d), .val (.int (34 : Int32)), .val (.ref b2)] [(.int (0 : Int32)), (.ref b2), (.int (0 : Int32)), (.ref d)])
  refine Gl.st (fun _ kk => XS.aloadN X2.here hx rfl (hb hby d21_22) rfl rfl kk) ?_
  show Gl p e below s _ _ _ T2 (mkF m 23 #[.val (.ref d), .val (.int (34 : Int32)), .val (.ref b2)] [(.ref d), (.int (0 : Int32)), (.ref b2), (.int (0 : Int32)), (.ref d)])
  obtain ⟨cl3, Ar3, q3, Sz3, Ng3, Ha3, Fi3⟩ := id Arv_d
  refine Gl.st (fun _ kk => X2.arraylength hx (by rw [e2]; exact Ar3.1) (State.isArrayOf_alike hZ.alike Ar3.2.1) (g := (mkF m 23 #[.val (.ref d), .val (.int (34 : Int32)), .val (.ref b2)] [(.ref d), (.int (0 : Int32)), (.ref b2), (.int (0 : Int32)), (.ref d)])) rfl rfl (hb hby d21_23) _ kk) ?_
  rw [len_of Sz3 Ng3]
  show Gl p e below s _ _ _ T2 (mkF m 24 #[.val (.ref d), .val (.int (34 : Int32)), .val (.ref b2)] [(.int (16 : Int32)), (.int (0 : Int32)), (.ref b2), (.int (0 : Int32)), (.ref d)])
  refine Gl.st (fun _ kk => XS.iloadN X2.here hx rfl (hb hby d21_24) rfl kk) ?_
  show Gl p e below s _ _ _ T2 (mkF m 25 #[.val (.ref d), .val (.int (34 : Int32)), .val (.ref b2)] [(.int (34 : Int32)), (.int (16 : Int32)), (.int (0 : Int32)), (.ref b2), (.int (0 : Int32)), (.ref d)])
  obtain ⟨v4, _, ⟨T4, L4, kQ4, nQ4⟩, -, X4, ⟨Lc4, hQ4, l4, y4, z4⟩, st4⟩ := Jvm.LawKit.callS X2 hx (y := (⟨"java/lang/Math", "min", "(II)I"⟩ : MethodName)) hown (mvT hZ (hw _ (List.mem_of_getElem? (i := 131) rfl))) (mvT hZ (hw _ (List.mem_of_getElem? (i := 132) rfl))) (mvT hZ (hw _ (List.mem_of_getElem? (i := 123) rfl))) (mvT hZ (hw _ (List.mem_of_getElem? (i := 133) rfl))) (by decide) (backOf (W := 4) (rmM1 l Z a0 hw [] (16 : Int32) (34 : Int32) h2 n0 O2 (by decide)) hZ (hw _ (List.mem_of_getElem? (i := 133) rfl)) (hw _ (List.mem_of_getElem? (i := 123) rfl)) (by decide) (by decide)) (g := (mkF m 25 #[.val (.ref d), .val (.int (34 : Int32)), .val (.ref b2)] [(.int (34 : Int32)), (.int (16 : Int32)), (.int (0 : Int32)), (.ref b2), (.int (0 : Int32)), (.ref d)])) rfl (by rw [hml]; rfl) (argsL := [(.int (16 : Int32)), (.int (34 : Int32))]) (rest := [(.int (0 : Int32)), (.ref b2), (.int (0 : Int32)), (.ref d)]) (lenOf pd_rmCP_0 rfl) rfl (by show 2 * 0 + _ ≤ _; exact Nat.le_of_eq rfl) (hb hby d21_25) (fun _ _ => ⟨rfl, e2, (by decide : 1 + 0 ≤ _), (by decide : 34 + 0 ≤ _)⟩)
  dsimp only [Pt.U, Pt.locs, Pt.cells, Pt.slots] at X4 l4 y4 z4 st4 hQ4
  subst y4 z4
  obtain ⟨rfl, Nq4, e4⟩ := hQ4
  have N4 : Fr n0 L4 := l4 ▸ Fr.app N0 Nq4
  refine Gl.st st4 ?_
  clear st4
  clear X2 e2
  show Gl p e below s _ _ _ T4 (mkF m 28 #[.val (.ref d), .val (.int (34 : Int32)), .val (.ref b2)] [(.int (16 : Int32)), (.int (0 : Int32)), (.ref b2), (.int (0 : Int32)), (.ref d)])
  obtain ⟨T5, h5, Lq5, X5, e5, N5, Kq5, Aq5, st5⟩ := cpA X4 hx hZ hown (hw _ (List.mem_of_getElem? (i := 134) rfl)) (hw _ (List.mem_of_getElem? (i := 110) rfl)) (hw _ (List.mem_of_getElem? (i := 108) rfl)) (hw _ (List.mem_of_getElem? (i := 109) rfl)) e4 Arv_d Arv_b2 (Or.inl ⟨rfl, rfl⟩) (by decide) hg.1 hg.2.1 (by rw [show (0 : Int32).toNatClampNeg = 0 from rfl, Nat.zero_add]; exact hg.2.2.1) hg.2.2.2.1 hg.2.2.2.2.1 hg.2.2.2.2.2.1 N4 ge_b2 (g := (mkF m 28 #[.val (.ref d), .val (.int (34 : Int32)), .val (.ref b2)] [(.int (16 : Int32)), (.int (0 : Int32)), (.ref b2), (.int (0 : Int32)), (.ref d)])) rfl (by rw [hml]; rfl) (rest := []) rfl (hb hby d21_28) (by decide) (W := 0) (by show 2 * 0 + _ ≤ _; exact Nat.le_of_eq rfl) (by decide)
  refine Gl.st st5 ?_
  rw [← hg.2.2.2.2.2.2] at Aq5
  replace Arv_d := Arv_d.keep Kq5 (ninS ne_d_b2 nin0)
  have O5 := O2.keep Kq5 (allS ge_b2 all0)
  have K5 := K2.trans Kq5 (allS (Or.inr fr_b2) all0)
  have Arv_b2 := Aq5
  show Gl p e below s _ _ _ T5 (mkF m 31 #[.val (.ref d), .val (.int (34 : Int32)), .val (.ref b2)] [])
  refine Gl.st (fun _ kk => XS.aloadN X5.here hx rfl (hb hby d21_31) rfl rfl kk) ?_
  show Gl p e below s _ _ _ T5 (mkF m 32 #[.val (.ref d), .val (.int (34 : Int32)), .val (.ref b2)] [(.ref b2)])
  exact Gl.ret X5 (v := (some (.ref b2))) (fun h => by rw [Bd.returns] at h; cases h) (BodyLoose.notSynchronized Bd) (fun hr => retOut X5 hx Bd.returns rfl (Or.inr (Or.inr (Or.inr (Or.inr ⟨rfl, rfl, rfl⟩)))) (hb hby d21_32) hr) e5 ⟨b2, ka2, rfl, N5, K5, Arv_b2, fr_b2⟩ (by decide) (by decide)
theorem d14_17 : decode jdk_68_method_9_code 17 = .ok (.aload_n 0, 1) := by decide +kernel
theorem d14_18 : decode jdk_68_method_9_code 18 = .ok (.aload_n 0, 1) := by decide +kernel
theorem d14_19 : decode jdk_68_method_9_code 19 = .ok (.getfield 15, 3) := by decide +kernel
theorem d14_22 : decode jdk_68_method_9_code 22 = .ok (.aload_n 0, 1) := by decide +kernel
theorem d14_23 : decode jdk_68_method_9_code 23 = .ok (.iload_n 1, 1) := by decide +kernel
theorem d14_24 : decode jdk_68_method_9_code 24 = .ok (.invokevirtual 104, 3) := by decide +kernel
theorem d14_27 : decode jdk_68_method_9_code 27 = .ok (.aload_n 0, 1) := by decide +kernel
theorem d14_28 : decode jdk_68_method_9_code 28 = .ok (.getfield 22, 3) := by decide +kernel
theorem d14_31 : decode jdk_68_method_9_code 31 = .ok (.ishl, 1) := by decide +kernel
theorem d14_32 : decode jdk_68_method_9_code 32 = .ok (.invokestatic 108, 3) := by decide +kernel
theorem d14_35 : decode jdk_68_method_9_code 35 = .ok (.putfield 15, 3) := by decide +kernel
theorem pd_rmEB_0 : parseMethodDescriptor "(I)I" = some ⟨[.int], some .int⟩ := by decide +kernel
theorem pd_rmEB_1 : parseMethodDescriptor "([BI)[B" = some ⟨[(.array .byte), .int], some (.array .byte)⟩ := by decide +kernel
theorem pn_rmEB : plainName "java/lang/AbstractStringBuilder" = true := by first | (simp [plainName, overriddenIn]; done) | decide +kernel
theorem ef_rmEB (m : MethodId) (a1 : Addr) : entryFrame m #[(.ref a1), (.int (20 : Int32))] 3 = mkF m 0 #[.val (.ref a1), .val (.int (20 : Int32)), .unset] [] := by first | (simp [entryFrame, mkF, argsToLocals, Value.category]; done) | rfl
def Q_rmEB (Z : State) (a1 : Addr) (d : Addr) (kd : ClassId) (us vd vg : List Value) (h0 : Heap) (n0 : Nat) (v : Option Value) (h : Heap) (L : List Loc) : Prop := v = none ∧ Fr n0 L ∧ Keep h0 h [a1] ∧ ∃ (b : Addr) (kb : ClassId), Fld Z h a1 "java/lang/AbstractStringBuilder" "value" "[B" (.ref b) ∧ Fld Z h a1 "java/lang/AbstractStringBuilder" "coder" "B" (.int 0) ∧ Fld Z h a1 "java/lang/AbstractStringBuilder" "count" "I" (.int (13 : Int32)) ∧ Arv Z h b kb .byte (34 : Int32) vg (.int 0) ∧ h0.size ≤ b
set_option maxRecDepth 65536 in
set_option maxHeartbeats 40000000 in
theorem rmEB (l : Launch) (Z : State) (a0 : Array Value) (hw : ∀ d ∈ tables_1, d.before a0 Z = true) (ws : List Jvm.Cond) (a1 : Addr) (d : Addr) (kd : ClassId) (us vd vg : List Value) (h0 : Heap) (n0 : Nat) (O0 : Old Z n0 h0) (Exa_a1 : Exa Z h0 a1 "java/lang/StringBuilder") (F_value_a1 : Fld Z h0 a1 "java/lang/AbstractStringBuilder" "value" "[B" (.ref d)) (F_coder_a1 : Fld Z h0 a1 "java/lang/AbstractStringBuilder" "coder" "B" (.int 0)) (F_count_a1 : Fld Z h0 a1 "java/lang/AbstractStringBuilder" "count" "I" (.int (13 : Int32))) (Arv_d : Arv Z h0 d kd .byte (16 : Int32) vd (.int 0)) (hg : own_fits 16 16 34 0 us vd [(.int (0 : Int32)), (.int (0 : Int32)), (.int (0 : Int32)), (.int (0 : Int32)), (.int (0 : Int32)), (.int (0 : Int32)), (.int (0 : Int32)), (.int (0 : Int32)), (.int (0 : Int32)), (.int (0 : Int32)), (.int (0 : Int32)), (.int (0 : Int32)), (.int (0 : Int32)), (.int (0 : Int32)), (.int (0 : Int32)), (.int (0 : Int32)), (.int (0 : Int32)), (.int (0 : Int32)), (.int (0 : Int32)), (.int (0 : Int32)), (.int (0 : Int32)), (.int (0 : Int32)), (.int (0 : Int32)), (.int (0 : Int32)), (.int (0 : Int32)), (.int (0 : Int32)), (.int (0 : Int32)), (.int (0 : Int32)), (.int (0 : Int32)), (.int (0 : Int32)), (.int (0 : Int32)), (.int (0 : Int32)), (.int (0 : Int32)), (.int (0 : Int32))] vg) (g1 : n0 ≤ a1) (nda : d ≠ a1) :
    MetFree l (⟨"java/lang/AbstractStringBuilder", "ensureCapacityInternal", "(I)V"⟩ : MethodName) (head1 (Jvm.Cond.code (⟨"java/lang/AbstractStringBuilder", "ensureCapacityInternal", "(I)V"⟩ : MethodName) jdk_68_method_9_code 3 none :: ws) ({ frames := 3, cells := 1, slots := 34, locals := 48 } : Room)) (fun a U => a = #[(.ref a1), (.int (20 : Int32))] ∧ Z.Warmed39 U.vm ∧ U.heap = h0) (fun _ _ _ _ _ => True) (fun _ U o U' => ∃ v L, o = .returned v ∧ Q_rmEB Z a1 d kd us vd vg h0 n0 v U'.heap L ∧ FrameEnd U o U' L ({ frames := 3, cells := 1, slots := 34, locals := 48 } : Room).cells ({ frames := 3, cells := 1, slots := 34, locals := 48 } : Room).slots) := by
  refine MetFree.of_bodySF (plainFor_of_name pn_rmEB) hisR ?_
  intro p e s m args below meth c s₁ Bd hml0 hP hK
  obtain ⟨rfl, hZ, hh⟩ := hP
  have hx := Bd.exec
  have hby := Bd.bytes
  have hml : c.maxLocals = 3 := hml0
  have hown : s.vm.findClass "java/lang/AbstractStringBuilder" = some m.cls := findClass_of_methodNamed Bd.named
  have hnm := (name_of_methodNamed Bd.named Bd.method).1
  have X0 : Stand p l e ({ frames := 3, cells := 1, slots := 34, locals := 48 } : Room) s m #[(.ref a1), (.int (20 : Int32))] below meth c s₁ [] 0 0 := Stand.of_body Bd
  have e0 : s₁.heap = h0 := by rw [← hh, Bd.state]; rfl
  have N0 := Fr.nil n0
  refine Gl.start (Q := Q_rmEB Z a1 d kd us vd vg h0 n0) (ef_rmEB m a1) ?_
  show Gl p e below s _ _ _ s₁ (mkF m 0 #[.val (.ref a1), .val (.int (20 : Int32)), .unset] [])
  refine Gl.st (fun _ kk => XS.aloadN X0.here hx rfl (hb hby d14_0) rfl rfl kk) ?_
  show Gl p e below s _ _ _ s₁ (mkF m 1 #[.val (.ref a1), .val (.int (20 : Int32)), .unset] [(.ref a1)])
  obtain ⟨T1, X1, e1, st1⟩ := getF X0 hx hZ hown (host := "") (Or.inl (hw _ (List.mem_of_getElem? (i := 57) rfl))) Via.refl e0 F_value_a1 (g := (mkF m 1 #[.val (.ref a1), .val (.int (20 : Int32)), .unset] [(.ref a1)])) rfl rfl (hb hby d14_1)
  refine Gl.st st1 ?_
  show Gl p e below s _ _ _ T1 (mkF m 4 #[.val (.ref a1), .val (.int (20 : Int32)), .unset] [(.ref d)])
  obtain ⟨cl2, Ar2, q2, Sz2, Ng2, Ha2, Fi2⟩ := id Arv_d
  refine Gl.st (fun _ kk => X1.arraylength hx (by rw [e1]; exact Ar2.1) (State.isArrayOf_alike hZ.alike Ar2.2.1) (g := (mkF m 4 #[.val (.ref a1), .val (.int (20 : Int32)), .unset] [(.ref d)])) rfl rfl (hb hby d14_4) _ kk) ?_
  rw [len_of Sz2 Ng2]
  show Gl p e below s _ _ _ T1 (mkF m 5 #[.val (.ref a1), .val (.int (20 : Int32)), .unset] [(.int (16 : Int32))])
  refine Gl.st (fun _ kk => XS.aloadN X1.here hx rfl (hb hby d14_5) rfl rfl kk) ?_
  show Gl p e below s _ _ _ T1 (mkF m 6 #[.val (.ref a1), .val (.int (20 : Int32)), .unset] [(.ref a1), (.int (16 : Int32))])
  obtain ⟨T3, X3, e3, st3⟩ := getF X1 hx hZ hown (host := "") (Or.inl (hw _ (List.mem_of_getElem? (i := 59) rfl))) Via.refl e1 F_coder_a1 (g := (mkF m 6 #[.val (.ref a1), .val (.int (20 : Int32)), .unset] [(.ref a1), (.int (16 : Int32))])) rfl rfl (hb hby d14_6)
  refine Gl.st st3 ?_
  show Gl p e below s _ _ _ T3 (mkF m 9 #[.val (.ref a1), .val (.int (20 : Int32)), .unset] [(.int (0 : Int32)), (.int (16 : Int32))])
  refine Gl.st (fun _ kk => XS.ishr X3.here hx rfl (hb hby d14_9) rfl kk) ?_
  show Gl p e below s _ _ _ T3 (mkF m 10 #[.val (.ref a1), .val (.int (20 : Int32)), .unset] [(.int (16 : Int32))])
  refine Gl.st (fun _ kk => XS.istoreN X3.here hx rfl (hb hby d14_10) rfl (l' := #[.val (.ref a1), .val (.int (20 : Int32)), .val (.int (16 : Int32))]) rfl kk) ?_
  show Gl p e below s _ _ _ T3 (mkF m 11 #[.val (.ref a1), .val (.int (20 : Int32)), .val (.int (16 : Int32))] [])
  refine Gl.st (fun _ kk => XS.iloadN X3.here hx rfl (hb hby d14_11) rfl kk) ?_
  show Gl p e below s _ _ _ T3 (mkF m 12 #[.val (.ref a1), .val (.int (20 : Int32)), .val (.int (16 : Int32))] [(.int (20 : Int32))])
  refine Gl.st (fun _ kk => XS.iloadN X3.here hx rfl (hb hby d14_12) rfl kk) ?_
  show Gl p e below s _ _ _ T3 (mkF m 13 #[.val (.ref a1), .val (.int (20 : Int32)), .val (.int (16 : Int32))] [(.int (16 : Int32)), (.int (20 : Int32))])
  refine Gl.st (fun _ kk => XS.isub X3.here hx rfl (hb hby d14_13) rfl kk) ?_
  show Gl p e below s _ _ _ T3 (mkF m 14 #[.val (.ref a1), .val (.int (20 : Int32)), .val (.int (16 : Int32))] [(.int (4 : Int32))])
  refine Gl.st (fun _ kk => XS.ifNo X3.here hx rfl (hb hby d14_14) rfl ((if0 _ _).trans (tlt (by decide : (0 : Int32) < (4 : Int32))).2.2.2) kk) ?_
  show Gl p e below s _ _ _ T3 (mkF m 17 #[.val (.ref a1), .val (.int (20 : Int32)), .val (.int (16 : Int32))] [])
  refine Gl.st (fun _ kk => XS.aloadN X3.here hx rfl (hb hby d14_17) rfl rfl kk) ?_
  show Gl p e below s _ _ _ T3 (mkF m 18 #[.val (.ref a1), .val (.int (20 : Int32)), .val (.int (16 : Int32))] [(.ref a1)])
  refine Gl.st (fun _ kk => XS.aloadN X3.here hx rfl (hb hby d14_18) rfl rfl kk) ?_
  show Gl p e below s _ _ _ T3 (mkF m 19 #[.val (.ref a1), .val (.int (20 : Int32)), .val (.int (16 : Int32))] [(.ref a1), (.ref a1)])
  obtain ⟨T4, X4, e4, st4⟩ := getF X3 hx hZ hown (host := "") (Or.inl (hw _ (List.mem_of_getElem? (i := 57) rfl))) Via.refl e3 F_value_a1 (g := (mkF m 19 #[.val (.ref a1), .val (.int (20 : Int32)), .val (.int (16 : Int32))] [(.ref a1), (.ref a1)])) rfl rfl (hb hby d14_19)
  refine Gl.st st4 ?_
  show Gl p e below s _ _ _ T4 (mkF m 22 #[.val (.ref a1), .val (.int (20 : Int32)), .val (.int (16 : Int32))] [(.ref d), (.ref a1)])
  refine Gl.st (fun _ kk => XS.aloadN X4.here hx rfl (hb hby d14_22) rfl rfl kk) ?_
  show Gl p e below s _ _ _ T4 (mkF m 23 #[.val (.ref a1), .val (.int (20 : Int32)), .val (.int (16 : Int32))] [(.ref a1), (.ref d), (.ref a1)])
  refine Gl.st (fun _ kk => XS.iloadN X4.here hx rfl (hb hby d14_23) rfl kk) ?_
  show Gl p e below s _ _ _ T4 (mkF m 24 #[.val (.ref a1), .val (.int (20 : Int32)), .val (.int (16 : Int32))] [(.int (20 : Int32)), (.ref a1), (.ref d), (.ref a1)])
  obtain ⟨cq5, qa5, qb5⟩ := Exa_a1.cell
  obtain ⟨v5, _, ⟨T5, L5, kQ5, nQ5⟩, -, X5, ⟨Lc5, hQ5, l5, y5, z5⟩, st5⟩ := X4.privateBack hx (y := (⟨"java/lang/AbstractStringBuilder", "newCapacity", "(I)I"⟩ : MethodName)) hown (mvT hZ (hw _ (List.mem_of_getElem? (i := 112) rfl))) (mvT hZ (hw _ (List.mem_of_getElem? (i := 113) rfl))) (mvT hZ (own_selP (hw _ (List.mem_of_getElem? (i := 115) rfl)) (hw _ (List.mem_of_getElem? (i := 113) rfl)) (hw _ (List.mem_of_getElem? (i := 114) rfl)) (by decide))) (Cond.privateMethod_at (mvP hZ (hw _ (List.mem_of_getElem? (i := 114) rfl)) (args := #[]))) (mvT hZ (hw _ (List.mem_of_getElem? (i := 116) rfl))) (by decide) (backOf (W := 2) (rmNC l Z a0 hw [] a1 d kd vd h0 n0 O0 Exa_a1 F_value_a1 F_coder_a1 Arv_d) hZ (hw _ (List.mem_of_getElem? (i := 116) rfl)) (hw _ (List.mem_of_getElem? (i := 53) rfl)) (by decide) (by decide)) (g := (mkF m 24 #[.val (.ref a1), .val (.int (20 : Int32)), .val (.int (16 : Int32))] [(.int (20 : Int32)), (.ref a1), (.ref d), (.ref a1)])) rfl (by rw [hml]; rfl) (Steps.refl _) (a := a1) (by rw [e4]; exact qa5) qb5 (argsL := [(.int (20 : Int32))]) (rest := [(.ref d), (.ref a1)]) (lenOf pd_rmEB_0 rfl) rfl (by show 2 * 0 + _ ≤ _; exact Nat.le_of_eq rfl) (hb hby d14_24) (fun _ _ => ⟨rfl, e4, (by decide : 0 + 0 ≤ _), (by decide : 0 + 0 ≤ _)⟩)
  dsimp only [Pt.U, Pt.locs, Pt.cells, Pt.slots] at X5 l5 y5 z5 st5 hQ5
  subst y5 z5
  obtain ⟨rfl, Nq5, e5⟩ := hQ5
  have N5 : Fr n0 L5 := l5 ▸ Fr.app N0 Nq5
  refine Gl.st (fun _ kk => st5.trans kk) ?_
  clear st5 qb5 qa5 cq5
  clear X4 e4
  show Gl p e below s _ _ _ T5 (mkF m 27 #[.val (.ref a1), .val (.int (20 : Int32)), .val (.int (16 : Int32))] [(.int (34 : Int32)), (.ref d), (.ref a1)])
  refine Gl.st (fun _ kk => XS.aloadN X5.here hx rfl (hb hby d14_27) rfl rfl kk) ?_
  show Gl p e below s _ _ _ T5 (mkF m 28 #[.val (.ref a1), .val (.int (20 : Int32)), .val (.int (16 : Int32))] [(.ref a1), (.int (34 : Int32)), (.ref d), (.ref a1)])
  obtain ⟨T6, X6, e6, st6⟩ := getF X5 hx hZ hown (host := "") (Or.inl (hw _ (List.mem_of_getElem? (i := 59) rfl))) Via.refl e5 F_coder_a1 (g := (mkF m 28 #[.val (.ref a1), .val (.int (20 : Int32)), .val (.int (16 : Int32))] [(.ref a1), (.int (34 : Int32)), (.ref d), (.ref a1)])) rfl rfl (hb hby d14_28)
  refine Gl.st st6 ?_
  show Gl p e below s _ _ _ T6 (mkF m 31 #[.val (.ref a1), .val (.int (20 : Int32)), .val (.int (16 : Int32))] [(.int (0 : Int32)), (.int (34 : Int32)), (.ref d), (.ref a1)])
  refine Gl.st (fun _ kk => XS.ishl X6.here hx rfl (hb hby d14_31) rfl kk) ?_
  show Gl p e below s _ _ _ T6 (mkF m 32 #[.val (.ref a1), .val (.int (20 : Int32)), .val (.int (16 : Int32))] [(.int (34 : Int32)), (.ref d), (.ref a1)])
  have lq7_a1 := Exa_a1.lt
  have lq7_d := Arv_d.lt
  obtain ⟨v7, _, ⟨T7, L7, kQ7, nQ7⟩, -, X7, ⟨Lc7, hQ7, l7, y7, z7⟩, st7⟩ := Jvm.LawKit.callS X6 hx (y := (⟨"java/util/Arrays", "copyOf", "([BI)[B"⟩ : MethodName)) hown (mvT hZ (hw _ (List.mem_of_getElem? (i := 127) rfl))) (mvT hZ (hw _ (List.mem_of_getElem? (i := 128) rfl))) (mvT hZ (hw _ (List.mem_of_getElem? (i := 129) rfl))) (mvT hZ (hw _ (List.mem_of_getElem? (i := 130) rfl))) (by decide) (backOf (W := 1) (rmCP l Z a0 hw [] d kd us vd vg h0 n0 O0 Arv_d hg) hZ (hw _ (List.mem_of_getElem? (i := 130) rfl)) (hw _ (List.mem_of_getElem? (i := 129) rfl)) (by decide) (by decide)) (g := (mkF m 32 #[.val (.ref a1), .val (.int (20 : Int32)), .val (.int (16 : Int32))] [(.int (34 : Int32)), (.ref d), (.ref a1)])) rfl (by rw [hml]; rfl) (argsL := [(.ref d), (.int (34 : Int32))]) (rest := [(.ref a1)]) (lenOf pd_rmEB_1 rfl) rfl (by show 2 * 0 + _ ≤ _; exact Nat.le_of_eq rfl) (hb hby d14_32) (fun _ _ => ⟨rfl, e6, (by decide : 0 + 1 ≤ _), (by decide : 0 + 34 ≤ _)⟩)
  dsimp only [Pt.U, Pt.locs, Pt.cells, Pt.slots] at X7 l7 y7 z7 st7 hQ7
  subst y7 z7
  obtain ⟨h7, e7⟩ : ∃ z, T7.heap = z := ⟨_, rfl⟩
  rw [e7] at hQ7
  obtain ⟨b7, kb7, rfl, Nq7, Kq7, Arv_b7, frb7⟩ := hQ7
  have N7 : Fr n0 L7 := l7 ▸ Fr.app N5 Nq7
  refine Gl.st st7 ?_
  replace Exa_a1 := Exa_a1.keep Kq7
  replace F_value_a1 := F_value_a1.keep Kq7 nin0
  replace F_coder_a1 := F_coder_a1.keep Kq7 nin0
  replace F_count_a1 := F_count_a1.keep Kq7 nin0
  replace Arv_d := Arv_d.keep Kq7 nin0
  have O7 := O0.keep Kq7 all0
  have K7 := (Keep.refl h0 [a1]).trans Kq7 all0
  have ne_a1_b7 : a1 ≠ b7 := Nat.ne_of_lt (Nat.lt_of_lt_of_le lq7_a1 frb7)
  have ne_d_b7 : d ≠ b7 := Nat.ne_of_lt (Nat.lt_of_lt_of_le lq7_d frb7)
  have ge_b7 : n0 ≤ b7 := Nat.le_trans (Nat.le_trans (Nat.le_of_eq O0.1.symm) O0.2.1) frb7
  have fr_b7 : h0.size ≤ b7 := frb7
  clear st7
  clear N5 X6 e6
  show Gl p e below s _ _ _ T7 (mkF m 35 #[.val (.ref a1), .val (.int (20 : Int32)), .val (.int (16 : Int32))] [(.ref b7), (.ref a1)])
  obtain ⟨T8, h8, X8, e8, W8, st8⟩ := putF X7 hx hZ hown (host := "") (Or.inl (hw _ (List.mem_of_getElem? (i := 57) rfl))) Via.refl e7 F_value_a1 Exa_a1 (Or.inl (hw _ (List.mem_of_getElem? (i := 58) rfl))) (hw _ (List.mem_of_getElem? (i := 44) rfl)) (ty := (.array .byte)) (by decide) rfl rfl (g := (mkF m 35 #[.val (.ref a1), .val (.int (20 : Int32)), .val (.int (16 : Int32))] [(.ref b7), (.ref a1)])) rfl rfl (hb hby d14_35)
  refine Gl.st st8 ?_
  have F_value_a1 := F_value_a1.same W8
  replace Exa_a1 := Exa_a1.wr W8
  replace F_coder_a1 := F_coder_a1.other W8 (Or.inr (slot_ne (Or.inl (hw _ (List.mem_of_getElem? (i := 60) rfl))) (Or.inl (hw _ (List.mem_of_getElem? (i := 58) rfl))) (by decide) (t := .byte) (t' := (.array .byte)) (by decide) (by decide)))
  replace F_count_a1 := F_count_a1.other W8 (Or.inr (slot_ne (Or.inl (hw _ (List.mem_of_getElem? (i := 85) rfl))) (Or.inl (hw _ (List.mem_of_getElem? (i := 58) rfl))) (by decide) (t := .int) (t' := (.array .byte)) (by decide) (by decide)))
  replace Arv_d := Arv_d.other W8 nda
  replace Arv_b7 := Arv_b7.other W8 (Ne.symm ne_a1_b7)
  have O8 := O7.wr W8 g1
  have K8 := K7.wr W8 (Or.inl (List.mem_of_getElem? (i := 0) rfl))
  have N8 := Fr.snoc X8 N7 g1
  show Gl p e below s _ _ _ T8 (mkF m 38 #[.val (.ref a1), .val (.int (20 : Int32)), .val (.int (16 : Int32))] [])
  exact Gl.ret X8 (v := none) (fun _ => rfl) (BodyLoose.notSynchronized Bd) (fun hr => X8.returnOut hx Bd.returns (hb hby d14_38) hr) e8 ⟨rfl, N8, K8, b7, kb7, F_value_a1, F_coder_a1, F_count_a1, Arv_b7, fr_b7⟩ (by decide) (by decide)
theorem pd_rmGA_0 : parseMethodDescriptor "()I" = some ⟨[], some .int⟩ := by decide +kernel
theorem pd_rmGA_1 : parseMethodDescriptor "(I)V" = some ⟨[.int], none⟩ := by decide +kernel
theorem pd_rmGA_2 : parseMethodDescriptor "(ILjava/lang/String;)V" = some ⟨[.int, (.object "java/lang/String")], none⟩ := by decide +kernel
theorem pn_rmGA : plainName "java/lang/AbstractStringBuilder" = true := by first | (simp [plainName, overriddenIn]; done) | decide +kernel
theorem ef_rmGA (m : MethodId) (a1 : Addr) (x : Addr) : entryFrame m #[(.ref a1), (.ref x)] 3 = mkF m 0 #[.val (.ref a1), .val (.ref x), .unset] [] := by first | (simp [entryFrame, mkF, argsToLocals, Value.category]; done) | rfl
def Q_rmGA (Z : State) (a1 : Addr) (x : Addr) (d t : Addr) (k kd : ClassId) (us us2 vd vg vd' : List Value) (cz : Int32) (h0 : Heap) (n0 : Nat) (v : Option Value) (h : Heap) (L : List Loc) : Prop := v = some (.ref a1) ∧ Fr n0 L ∧ Keep h0 h [a1] ∧ ∃ (b : Addr) (kb : ClassId), Fld Z h a1 "java/lang/AbstractStringBuilder" "value" "[B" (.ref b) ∧ Fld Z h a1 "java/lang/AbstractStringBuilder" "coder" "B" (.int 0) ∧ Fld Z h a1 "java/lang/AbstractStringBuilder" "count" "I" (.int (20 : Int32)) ∧ Arv Z h b kb .byte (34 : Int32) vd' (.int 0) ∧ h0.size ≤ b
set_option maxRecDepth 65536 in
set_option maxHeartbeats 40000000 in
theorem rmGA (l : Launch) (Z : State) (a0 : Array Value) (hw : ∀ d ∈ tables_1, d.before a0 Z = true) (ws : List Jvm.Cond) (a1 : Addr) (x : Addr) (d t : Addr) (k kd : ClassId) (us us2 vd vg vd' : List Value) (cz : Int32) (h0 : Heap) (n0 : Nat) (O0 : Old Z n0 h0) (Exa_a1 : Exa Z h0 a1 "java/lang/StringBuilder") (F_value_a1 : Fld Z h0 a1 "java/lang/AbstractStringBuilder" "value" "[B" (.ref d)) (F_coder_a1 : Fld Z h0 a1 "java/lang/AbstractStringBuilder" "coder" "B" (.int 0)) (F_count_a1 : Fld Z h0 a1 "java/lang/AbstractStringBuilder" "count" "I" (.int (13 : Int32))) (Arv_d : Arv Z h0 d kd .byte (16 : Int32) vd (.int 0)) (Exa_x : Exa Z h0 x "java/lang/String") (F_value_x : Fld Z h0 x "java/lang/String" "value" "[B" (.ref t)) (F_coder_x : Fld Z h0 x "java/lang/String" "coder" "B" (.int 0)) (Arv_t : Arv Z h0 t k .byte (7 : Int32) us (.int 0)) (hg : own_fits 16 16 34 0 us2 vd [(.int (0 : Int32)), (.int (0 : Int32)), (.int (0 : Int32)), (.int (0 : Int32)), (.int (0 : Int32)), (.int (0 : Int32)), (.int (0 : Int32)), (.int (0 : Int32)), (.int (0 : Int32)), (.int (0 : Int32)), (.int (0 : Int32)), (.int (0 : Int32)), (.int (0 : Int32)), (.int (0 : Int32)), (.int (0 : Int32)), (.int (0 : Int32)), (.int (0 : Int32)), (.int (0 : Int32)), (.int (0 : Int32)), (.int (0 : Int32)), (.int (0 : Int32)), (.int (0 : Int32)), (.int (0 : Int32)), (.int (0 : Int32)), (.int (0 : Int32)), (.int (0 : Int32)), (.int (0 : Int32)), (.int (0 : Int32)), (.int (0 : Int32)), (.int (0 : Int32)), (.int (0 : Int32)), (.int (0 : Int32)), (.int (0 : Int32)), (.int (0 : Int32))] vg) (hf : own_fits 7 7 34 13 us us vg vd') (g1 : n0 ≤ a1) (nda : d ≠ a1) (nta : t ≠ a1) (nxa : x ≠ a1) (S_COMPACT : Sta Z Z.heap "java/lang/String" "COMPACT_STRINGS" "Z" (.int cz)) (hcz : ¬ cz = 0) :
    MetFree l (⟨"java/lang/AbstractStringBuilder", "append", "(Ljava/lang/String;)Ljava/lang/AbstractStringBuilder;"⟩ : MethodName) (head1 (Jvm.Cond.code (⟨"java/lang/AbstractStringBuilder", "append", "(Ljava/lang/String;)Ljava/lang/AbstractStringBuilder;"⟩ : MethodName) jdk_68_method_22_code 3 (some (.object "java/lang/AbstractStringBuilder")) :: ws) ({ frames := 4, cells := 1, slots := 34, locals := 62 } : Room)) (fun a U => a = #[(.ref a1), (.ref x)] ∧ Z.Warmed39 U.vm ∧ U.heap = h0) (fun _ _ _ _ _ => True) (fun _ U o U' => ∃ v L, o = .returned v ∧ Q_rmGA Z a1 x d t k kd us us2 vd vg vd' cz h0 n0 v U'.heap L ∧ FrameEnd U o U' L ({ frames := 4, cells := 1, slots := 34, locals := 62 } : Room).cells ({ frames := 4, cells := 1, slots := 34, locals := 62 } : Room).slots) := by
  refine MetFree.of_bodySF (plainFor_of_name pn_rmGA) hisR ?_
  intro p e s m args below meth c s₁ Bd hml0 hP hK
  obtain ⟨rfl, hZ, hh⟩ := hP
  have hx := Bd.exec
  have hby := Bd.bytes
  have hml : c.maxLocals = 3 := hml0
  have hown : s.vm.findClass "java/lang/AbstractStringBuilder" = some m.cls := findClass_of_methodNamed Bd.named
  have hnm := (name_of_methodNamed Bd.named Bd.method).1
  have X0 : Stand p l e ({ frames := 4, cells := 1, slots := 34, locals := 62 } : Room) s m #[(.ref a1), (.ref x)] below meth c s₁ [] 0 0 := Stand.of_body Bd
  have e0 : s₁.heap = h0 := by rw [← hh, Bd.state]; rfl
  have N0 := Fr.nil n0
  refine Gl.start (Q := Q_rmGA Z a1 x d t k kd us us2 vd vg vd' cz h0 n0) (ef_rmGA m a1 x) ?_
  show Gl p e below s _ _ _ s₁ (mkF m 0 #[.val (.ref a1), .val (.ref x), .unset] [])
  refine Gl.st (fun _ kk => XS.aloadN X0.here hx rfl (hb hby d11_0) rfl rfl kk) ?_
  show Gl p e below s _ _ _ s₁ (mkF m 1 #[.val (.ref a1), .val (.ref x), .unset] [(.ref x)])
  refine Gl.st (fun _ kk => XS.ifnonnullYes X0.here hx rfl (pc0 := 1) (pc' := 9) rfl (hb hby d11_1) rfl (by decide) (by decide) kk) ?_
  show Gl p e below s _ _ _ s₁ (mkF m 9 #[.val (.ref a1), .val (.ref x), .unset] [])
  refine Gl.st (fun _ kk => XS.aloadN X0.here hx rfl (hb hby d11_9) rfl rfl kk) ?_
  show Gl p e below s _ _ _ s₁ (mkF m 10 #[.val (.ref a1), .val (.ref x), .unset] [(.ref x)])
  obtain ⟨cq1, kq1, qa1, qb1, qc1⟩ := isOf hZ e0 Exa_x
  obtain ⟨v1, _, ⟨T1, L1, kQ1, nQ1⟩, -, X1, ⟨Lc1, hQ1, l1, y1, z1⟩, st1⟩ := X0.virtualBack hx (y := (⟨"java/lang/String", "length", "()I"⟩ : MethodName)) (z := (⟨"java/lang/String", "length", "()I"⟩ : MethodName)) hown (mvT hZ (hw _ (List.mem_of_getElem? (i := 74) rfl))) (mvT hZ (hw _ (List.mem_of_getElem? (i := 75) rfl))) (notFace_of_selects (args := #[]) (mvT hZ (hw _ (List.mem_of_getElem? (i := 77) rfl)))) (mvT hZ (hw _ (List.mem_of_getElem? (i := 77) rfl))) (mvT hZ (hw _ (List.mem_of_getElem? (i := 76) rfl))) (by decide) (backOf (W := 0) (rmLN l Z a0 hw [] x t k (7 : Int32) us cz h0 n0 O0 Exa_x F_value_x F_coder_x Arv_t S_COMPACT hcz) hZ (hw _ (List.mem_of_getElem? (i := 78) rfl)) (hw _ (List.mem_of_getElem? (i := 2) rfl)) (by decide) (by decide)) qa1 qc1 (g := (mkF m 10 #[.val (.ref a1), .val (.ref x), .unset] [(.ref x)])) rfl (by rw [hml]; rfl) (Steps.refl _) (argsL := []) (rest := []) (lenOf pd_rmGA_0 rfl) rfl (by show 2 * 0 + _ ≤ _; exact Nat.le_of_eq rfl) (hb hby d11_10) (fun _ _ => ⟨rfl, e0, (by decide : 0 + 0 ≤ _), (by decide : 0 + 0 ≤ _)⟩)
  dsimp only [Pt.U, Pt.locs, Pt.cells, Pt.slots] at X1 l1 y1 z1 st1 hQ1
  subst y1 z1
  obtain ⟨rfl, Nq1, e1⟩ := hQ1
  have N1 : Fr n0 L1 := l1 ▸ Fr.app N0 Nq1
  refine Gl.st (fun _ kk => st1.trans kk) ?_
  clear st1 qc1 qb1 qa1 kq1 cq1
  show Gl p e below s _ _ _ T1 (mkF m 13 #[.val (.ref a1), .val (.ref x), .unset] [(.int (7 : Int32))])
  refine Gl.st (fun _ kk => XS.istoreN X1.here hx rfl (hb hby d11_13) rfl (l' := #[.val (.ref a1), .val (.ref x), .val (.int (7 : Int32))]) rfl kk) ?_
  show Gl p e below s _ _ _ T1 (mkF m 14 #[.val (.ref a1), .val (.ref x), .val (.int (7 : Int32))] [])
  refine Gl.st (fun _ kk => XS.aloadN X1.here hx rfl (hb hby d11_14) rfl rfl kk) ?_
  show Gl p e below s _ _ _ T1 (mkF m 15 #[.val (.ref a1), .val (.ref x), .val (.int (7 : Int32))] [(.ref a1)])
  refine Gl.st (fun _ kk => XS.aloadN X1.here hx rfl (hb hby d11_15) rfl rfl kk) ?_
  show Gl p e below s _ _ _ T1 (mkF m 16 #[.val (.ref a1), .val (.ref x), .val (.int (7 : Int32))] [(.ref a1), (.ref a1)])
  obtain ⟨T2, X2, e2, st2⟩ := getF X1 hx hZ hown (host := "") (Or.inl (hw _ (List.mem_of_getElem? (i := 84) rfl))) Via.refl e1 F_count_a1 (g := (mkF m 16 #[.val (.ref a1), .val (.ref x), .val (.int (7 : Int32))] [(.ref a1), (.ref a1)])) rfl rfl (hb hby d11_16)
  refine Gl.st st2 ?_
  show Gl p e below s _ _ _ T2 (mkF m 19 #[.val (.ref a1), .val (.ref x), .val (.int (7 : Int32))] [(.int (13 : Int32)), (.ref a1)])
  refine Gl.st (fun _ kk => XS.iloadN X2.here hx rfl (hb hby d11_19) rfl kk) ?_
  show Gl p e below s _ _ _ T2 (mkF m 20 #[.val (.ref a1), .val (.ref x), .val (.int (7 : Int32))] [(.int (7 : Int32)), (.int (13 : Int32)), (.ref a1)])
  refine Gl.st (fun _ kk => XS.iadd X2.here hx rfl (hb hby d11_20) rfl kk) ?_
  show Gl p e below s _ _ _ T2 (mkF m 21 #[.val (.ref a1), .val (.ref x), .val (.int (7 : Int32))] [(.int (20 : Int32)), (.ref a1)])
  obtain ⟨cq3, qa3, qb3⟩ := Exa_a1.cell
  have lq3_a1 := Exa_a1.lt
  have lq3_d := Arv_d.lt
  have lq3_t := Arv_t.lt
  have lq3_x := Exa_x.lt
  obtain ⟨v3, _, ⟨T3, L3, kQ3, nQ3⟩, -, X3, ⟨Lc3, hQ3, l3, y3, z3⟩, st3⟩ := X2.privateBack hx (y := (⟨"java/lang/AbstractStringBuilder", "ensureCapacityInternal", "(I)V"⟩ : MethodName)) hown (mvT hZ (hw _ (List.mem_of_getElem? (i := 86) rfl))) (mvT hZ (hw _ (List.mem_of_getElem? (i := 87) rfl))) (mvT hZ (own_selP (hw _ (List.mem_of_getElem? (i := 89) rfl)) (hw _ (List.mem_of_getElem? (i := 87) rfl)) (hw _ (List.mem_of_getElem? (i := 88) rfl)) (by decide))) (Cond.privateMethod_at (mvP hZ (hw _ (List.mem_of_getElem? (i := 88) rfl)) (args := #[]))) (mvT hZ (hw _ (List.mem_of_getElem? (i := 90) rfl))) (by decide) (backOf (W := 0) (rmEB l Z a0 hw [] a1 d kd us2 vd vg h0 n0 O0 Exa_a1 F_value_a1 F_coder_a1 F_count_a1 Arv_d hg g1 nda) hZ (hw _ (List.mem_of_getElem? (i := 90) rfl)) (hw _ (List.mem_of_getElem? (i := 53) rfl)) (by decide) (by decide)) (g := (mkF m 21 #[.val (.ref a1), .val (.ref x), .val (.int (7 : Int32))] [(.int (20 : Int32)), (.ref a1)])) rfl (by rw [hml]; rfl) (Steps.refl _) (a := a1) (by rw [e2]; exact qa3) qb3 (argsL := [(.int (20 : Int32))]) (rest := []) (lenOf pd_rmGA_1 rfl) rfl (by show 2 * 0 + _ ≤ _; exact Nat.le_of_eq rfl) (hb hby d11_21) (fun _ _ => ⟨rfl, e2, (by decide : 0 + 1 ≤ _), (by decide : 0 + 34 ≤ _)⟩)
  dsimp only [Pt.U, Pt.locs, Pt.cells, Pt.slots] at X3 l3 y3 z3 st3 hQ3
  subst y3 z3
  obtain ⟨h3, e3⟩ : ∃ z, T3.heap = z := ⟨_, rfl⟩
  rw [e3] at hQ3
  obtain ⟨rfl, Nq3, Kq3, b3, kb3, Fvalue3, Fcoder3, Fcount3, Arv_b3, frb3⟩ := hQ3
  have N3 : Fr n0 L3 := l3 ▸ Fr.app N1 Nq3
  refine Gl.st (fun _ kk => st3.trans kk) ?_
  replace Exa_a1 := Exa_a1.keep Kq3
  replace Arv_d := Arv_d.keep Kq3 (ninS nda nin0)
  replace Exa_x := Exa_x.keep Kq3
  replace F_value_x := F_value_x.keep Kq3 (ninS nxa nin0)
  replace F_coder_x := F_coder_x.keep Kq3 (ninS nxa nin0)
  replace Arv_t := Arv_t.keep Kq3 (ninS nta nin0)
  have O3 := O0.keep Kq3 (allS g1 all0)
  have K3 := (Keep.refl h0 [a1]).trans Kq3 (allS (Or.inl (List.mem_of_getElem? (i := 0) rfl)) all0)
  have ne_a1_b3 : a1 ≠ b3 := Nat.ne_of_lt (Nat.lt_of_lt_of_le lq3_a1 frb3)
  have ne_d_b3 : d ≠ b3 := Nat.ne_of_lt (Nat.lt_of_lt_of_le lq3_d frb3)
  have ne_t_b3 : t ≠ b3 := Nat.ne_of_lt (Nat.lt_of_lt_of_le lq3_t frb3)
  have ne_x_b3 : x ≠ b3 := Nat.ne_of_lt (Nat.lt_of_lt_of_le lq3_x frb3)
  have ge_b3 : n0 ≤ b3 := Nat.le_trans (Nat.le_trans (Nat.le_of_eq O0.1.symm) O0.2.1) frb3
  have fr_b3 : h0.size ≤ b3 := frb3
  have F_value_a1 := Fvalue3
  have F_coder_a1 := Fcoder3
  have F_count_a1 := Fcount3
  clear st3 qb3 qa3 cq3
  clear N1 X2 e2
  show Gl p e below s _ _ _ T3 (mkF m 24 #[.val (.ref a1), .val (.ref x), .val (.int (7 : Int32))] [])
  refine Gl.st (fun _ kk => XS.aloadN X3.here hx rfl (hb hby d11_24) rfl rfl kk) ?_
  show Gl p e below s _ _ _ T3 (mkF m 25 #[.val (.ref a1), .val (.ref x), .val (.int (7 : Int32))] [(.ref a1)])
  refine Gl.st (fun _ kk => XS.aloadN X3.here hx rfl (hb hby d11_25) rfl rfl kk) ?_
  show Gl p e below s _ _ _ T3 (mkF m 26 #[.val (.ref a1), .val (.ref x), .val (.int (7 : Int32))] [(.ref a1), (.ref a1)])
  obtain ⟨T4, X4, e4, st4⟩ := getF X3 hx hZ hown (host := "") (Or.inl (hw _ (List.mem_of_getElem? (i := 84) rfl))) Via.refl e3 F_count_a1 (g := (mkF m 26 #[.val (.ref a1), .val (.ref x), .val (.int (7 : Int32))] [(.ref a1), (.ref a1)])) rfl rfl (hb hby d11_26)
  refine Gl.st st4 ?_
  show Gl p e below s _ _ _ T4 (mkF m 29 #[.val (.ref a1), .val (.ref x), .val (.int (7 : Int32))] [(.int (13 : Int32)), (.ref a1)])
  refine Gl.st (fun _ kk => XS.aloadN X4.here hx rfl (hb hby d11_29) rfl rfl kk) ?_
  show Gl p e below s _ _ _ T4 (mkF m 30 #[.val (.ref a1), .val (.ref x), .val (.int (7 : Int32))] [(.ref x), (.int (13 : Int32)), (.ref a1)])
  obtain ⟨cq5, qa5, qb5⟩ := Exa_a1.cell
  obtain ⟨v5, _, ⟨T5, L5, kQ5, nQ5⟩, -, X5, ⟨Lc5, hQ5, l5, y5, z5⟩, st5⟩ := X4.privateBack hx (y := (⟨"java/lang/AbstractStringBuilder", "putStringAt", "(ILjava/lang/String;)V"⟩ : MethodName)) hown (mvT hZ (hw _ (List.mem_of_getElem? (i := 91) rfl))) (mvT hZ (hw _ (List.mem_of_getElem? (i := 92) rfl))) (mvT hZ (own_selP (hw _ (List.mem_of_getElem? (i := 94) rfl)) (hw _ (List.mem_of_getElem? (i := 92) rfl)) (hw _ (List.mem_of_getElem? (i := 93) rfl)) (by decide))) (Cond.privateMethod_at (mvP hZ (hw _ (List.mem_of_getElem? (i := 93) rfl)) (args := #[]))) (mvT hZ (hw _ (List.mem_of_getElem? (i := 95) rfl))) (by decide) (backOf (W := 0) (rmPS l Z a0 hw [] a1 (13 : Int32) x b3 t k (7 : Int32) us kb3 (34 : Int32) vg vd' cz h3 n0 O3 Exa_a1 F_value_a1 F_coder_a1 F_count_a1 Exa_x F_value_x F_coder_x Arv_t Arv_b3 hf ge_b3 nta ne_t_b3 nxa ne_x_b3 ne_a1_b3 S_COMPACT hcz) hZ (hw _ (List.mem_of_getElem? (i := 95) rfl)) (hw _ (List.mem_of_getElem? (i := 53) rfl)) (by decide) (by decide)) (g := (mkF m 30 #[.val (.ref a1), .val (.ref x), .val (.int (7 : Int32))] [(.ref x), (.int (13 : Int32)), (.ref a1)])) rfl (by rw [hml]; rfl) (Steps.refl _) (a := a1) (by rw [e4]; exact qa5) qb5 (argsL := [(.int (13 : Int32)), (.ref x)]) (rest := []) (lenOf pd_rmGA_2 rfl) rfl (by show 2 * 0 + _ ≤ _; exact Nat.le_of_eq rfl) (hb hby d11_30) (fun _ _ => ⟨rfl, e4, (by decide : 1 + 0 ≤ _), (by decide : 34 + 0 ≤ _)⟩)
  dsimp only [Pt.U, Pt.locs, Pt.cells, Pt.slots] at X5 l5 y5 z5 st5 hQ5
  subst y5 z5
  obtain ⟨h5, e5⟩ : ∃ z, T5.heap = z := ⟨_, rfl⟩
  rw [e5] at hQ5
  obtain ⟨rfl, Nq5, Kq5, Aq5⟩ := hQ5
  have N5 : Fr n0 L5 := l5 ▸ Fr.app N3 Nq5
  refine Gl.st (fun _ kk => st5.trans kk) ?_
  replace Exa_a1 := Exa_a1.keep Kq5
  replace Arv_d := Arv_d.keep Kq5 (ninS ne_d_b3 nin0)
  replace Exa_x := Exa_x.keep Kq5
  replace F_value_x := F_value_x.keep Kq5 (ninS ne_x_b3 nin0)
  replace F_coder_x := F_coder_x.keep Kq5 (ninS ne_x_b3 nin0)
  replace Arv_t := Arv_t.keep Kq5 (ninS ne_t_b3 nin0)
  replace F_value_a1 := F_value_a1.keep Kq5 (ninS ne_a1_b3 nin0)
  replace F_coder_a1 := F_coder_a1.keep Kq5 (ninS ne_a1_b3 nin0)
  replace F_count_a1 := F_count_a1.keep Kq5 (ninS ne_a1_b3 nin0)
  have O5 := O3.keep Kq5 (allS ge_b3 all0)
  have K5 := K3.trans Kq5 (allS (Or.inr fr_b3) all0)
  have Arv_b3 := Aq5
  clear st5 qb5 qa5 cq5
  clear O3 K3 N3 X4 e4
  show Gl p e below s _ _ _ T5 (mkF m 33 #[.val (.ref a1), .val (.ref x), .val (.int (7 : Int32))] [])
  refine Gl.st (fun _ kk => XS.aloadN X5.here hx rfl (hb hby d11_33) rfl rfl kk) ?_
  show Gl p e below s _ _ _ T5 (mkF m 34 #[.val (.ref a1), .val (.ref x), .val (.int (7 : Int32))] [(.ref a1)])
  refine Gl.st (fun _ kk => XS.dup X5.here hx rfl (hb hby d11_34) rfl rfl kk) ?_
  show Gl p e below s _ _ _ T5 (mkF m 35 #[.val (.ref a1), .val (.ref x), .val (.int (7 : Int32))] [(.ref a1), (.ref a1)])
  obtain ⟨T6, X6, e6, st6⟩ := getF X5 hx hZ hown (host := "") (Or.inl (hw _ (List.mem_of_getElem? (i := 84) rfl))) Via.refl e5 F_count_a1 (g := (mkF m 35 #[.val (.ref a1), .val (.ref x), .val (.int (7 : Int32))] [(.ref a1), (.ref a1)])) rfl rfl (hb hby d11_35)
  refine Gl.st st6 ?_
  show Gl p e below s _ _ _ T6 (mkF m 38 #[.val (.ref a1), .val (.ref x), .val (.int (7 : Int32))] [(.int (13 : Int32)), (.ref a1)])
  refine Gl.st (fun _ kk => XS.iloadN X6.here hx rfl (hb hby d11_38) rfl kk) ?_
  show Gl p e below s _ _ _ T6 (mkF m 39 #[.val (.ref a1), .val (.ref x), .val (.int (7 : Int32))] [(.int (7 : Int32)), (.int (13 : Int32)), (.ref a1)])
  refine Gl.st (fun _ kk => XS.iadd X6.here hx rfl (hb hby d11_39) rfl kk) ?_
  show Gl p e below s _ _ _ T6 (mkF m 40 #[.val (.ref a1), .val (.ref x), .val (.int (7 : Int32))] [(.int (20 : Int32)), (.ref a1)])
  obtain ⟨T7, h7, X7, e7, W7, st7⟩ := putF X6 hx hZ hown (host := "") (Or.inl (hw _ (List.mem_of_getElem? (i := 84) rfl))) Via.refl e6 F_count_a1 Exa_a1 (Or.inl (hw _ (List.mem_of_getElem? (i := 85) rfl))) (hw _ (List.mem_of_getElem? (i := 44) rfl)) (ty := .int) (by decide) rfl rfl (g := (mkF m 40 #[.val (.ref a1), .val (.ref x), .val (.int (7 : Int32))] [(.int (20 : Int32)), (.ref a1)])) rfl rfl (hb hby d11_40)
  refine Gl.st st7 ?_
  have F_count_a1 := F_count_a1.same W7
  replace Exa_a1 := Exa_a1.wr W7
  replace Arv_d := Arv_d.other W7 nda
  replace Exa_x := Exa_x.wr W7
  replace F_value_x := F_value_x.other W7 (Or.inl nxa)
  replace F_coder_x := F_coder_x.other W7 (Or.inl nxa)
  replace Arv_t := Arv_t.other W7 nta
  replace F_value_a1 := F_value_a1.other W7 (Or.inr (slot_ne (Or.inl (hw _ (List.mem_of_getElem? (i := 58) rfl))) (Or.inl (hw _ (List.mem_of_getElem? (i := 85) rfl))) (by decide) (t := (.array .byte)) (t' := .int) (by decide) (by decide)))
  replace F_coder_a1 := F_coder_a1.other W7 (Or.inr (slot_ne (Or.inl (hw _ (List.mem_of_getElem? (i := 60) rfl))) (Or.inl (hw _ (List.mem_of_getElem? (i := 85) rfl))) (by decide) (t := .byte) (t' := .int) (by decide) (by decide)))
  replace Arv_b3 := Arv_b3.other W7 (Ne.symm ne_a1_b3)
  have O7 := O5.wr W7 g1
  have K7 := K5.wr W7 (Or.inl (List.mem_of_getElem? (i := 0) rfl))
  have N7 := Fr.snoc X7 N5 g1
  show Gl p e below s _ _ _ T7 (mkF m 43 #[.val (.ref a1), .val (.ref x), .val (.int (7 : Int32))] [])
  refine Gl.st (fun _ kk => XS.aloadN X7.here hx rfl (hb hby d11_43) rfl rfl kk) ?_
  show Gl p e below s _ _ _ T7 (mkF m 44 #[.val (.ref a1), .val (.ref x), .val (.int (7 : Int32))] [(.ref a1)])
  exact Gl.ret X7 (v := (some (.ref a1))) (fun h => by rw [Bd.returns] at h; cases h) (BodyLoose.notSynchronized Bd) (fun hr => retOut X7 hx Bd.returns rfl (Or.inr (Or.inr (Or.inr (Or.inr ⟨rfl, rfl, rfl⟩)))) (hb hby d11_44) hr) e7 ⟨rfl, N7, K7, b3, kb3, F_value_a1, F_coder_a1, F_count_a1, Arv_b3, fr_b3⟩ (by decide) (by decide)
theorem pd_rmGB2_0 : parseMethodDescriptor "(Ljava/lang/String;)Ljava/lang/AbstractStringBuilder;" = some ⟨[(.object "java/lang/String")], some (.object "java/lang/AbstractStringBuilder")⟩ := by decide +kernel
theorem pn_rmGB2 : plainName "java/lang/StringBuilder" = true := by first | (simp [plainName, overriddenIn]; done) | decide +kernel
theorem ef_rmGB2 (m : MethodId) (a1 : Addr) (x : Addr) : entryFrame m #[(.ref a1), (.ref x)] 2 = mkF m 0 #[.val (.ref a1), .val (.ref x)] [] := by first | (simp [entryFrame, mkF, argsToLocals, Value.category]; done) | rfl
def Q_rmGB2 (Z : State) (a1 : Addr) (x : Addr) (d t : Addr) (k kd : ClassId) (us us2 vd vg vd' : List Value) (cz : Int32) (h0 : Heap) (n0 : Nat) (v : Option Value) (h : Heap) (L : List Loc) : Prop := v = some (.ref a1) ∧ Fr n0 L ∧ Keep h0 h [a1] ∧ ∃ (b : Addr) (kb : ClassId), Fld Z h a1 "java/lang/AbstractStringBuilder" "value" "[B" (.ref b) ∧ Fld Z h a1 "java/lang/AbstractStringBuilder" "coder" "B" (.int 0) ∧ Fld Z h a1 "java/lang/AbstractStringBuilder" "count" "I" (.int (20 : Int32)) ∧ Arv Z h b kb .byte (34 : Int32) vd' (.int 0) ∧ h0.size ≤ b
set_option maxRecDepth 65536 in
set_option maxHeartbeats 40000000 in
theorem rmGB2 (l : Launch) (Z : State) (a0 : Array Value) (hw : ∀ d ∈ tables_1, d.before a0 Z = true) (ws : List Jvm.Cond) (a1 : Addr) (x : Addr) (d t : Addr) (k kd : ClassId) (us us2 vd vg vd' : List Value) (cz : Int32) (h0 : Heap) (n0 : Nat) (O0 : Old Z n0 h0) (Exa_a1 : Exa Z h0 a1 "java/lang/StringBuilder") (F_value_a1 : Fld Z h0 a1 "java/lang/AbstractStringBuilder" "value" "[B" (.ref d)) (F_coder_a1 : Fld Z h0 a1 "java/lang/AbstractStringBuilder" "coder" "B" (.int 0)) (F_count_a1 : Fld Z h0 a1 "java/lang/AbstractStringBuilder" "count" "I" (.int (13 : Int32))) (Arv_d : Arv Z h0 d kd .byte (16 : Int32) vd (.int 0)) (Exa_x : Exa Z h0 x "java/lang/String") (F_value_x : Fld Z h0 x "java/lang/String" "value" "[B" (.ref t)) (F_coder_x : Fld Z h0 x "java/lang/String" "coder" "B" (.int 0)) (Arv_t : Arv Z h0 t k .byte (7 : Int32) us (.int 0)) (hg : own_fits 16 16 34 0 us2 vd [(.int (0 : Int32)), (.int (0 : Int32)), (.int (0 : Int32)), (.int (0 : Int32)), (.int (0 : Int32)), (.int (0 : Int32)), (.int (0 : Int32)), (.int (0 : Int32)), (.int (0 : Int32)), (.int (0 : Int32)), (.int (0 : Int32)), (.int (0 : Int32)), (.int (0 : Int32)), (.int (0 : Int32)), (.int (0 : Int32)), (.int (0 : Int32)), (.int (0 : Int32)), (.int (0 : Int32)), (.int (0 : Int32)), (.int (0 : Int32)), (.int (0 : Int32)), (.int (0 : Int32)), (.int (0 : Int32)), (.int (0 : Int32)), (.int (0 : Int32)), (.int (0 : Int32)), (.int (0 : Int32)), (.int (0 : Int32)), (.int (0 : Int32)), (.int (0 : Int32)), (.int (0 : Int32)), (.int (0 : Int32)), (.int (0 : Int32)), (.int (0 : Int32))] vg) (hf : own_fits 7 7 34 13 us us vg vd') (g1 : n0 ≤ a1) (nda : d ≠ a1) (nta : t ≠ a1) (nxa : x ≠ a1) (S_COMPACT : Sta Z Z.heap "java/lang/String" "COMPACT_STRINGS" "Z" (.int cz)) (hcz : ¬ cz = 0) :
    MetFree l (⟨"java/lang/StringBuilder", "append", "(Ljava/lang/String;)Ljava/lang/StringBuilder;"⟩ : MethodName) (head1 (Jvm.Cond.code (⟨"java/lang/StringBuilder", "append", "(Ljava/lang/String;)Ljava/lang/StringBuilder;"⟩ : MethodName) jdk_67_method_7_code 2 (some (.object "java/lang/StringBuilder")) :: ws) ({ frames := 5, cells := 1, slots := 34, locals := 76 } : Room)) (fun a U => a = #[(.ref a1), (.ref x)] ∧ Z.Warmed39 U.vm ∧ U.heap = h0) (fun _ _ _ _ _ => True) (fun _ U o U' => ∃ v L, o = .returned v ∧ Q_rmGB2 Z a1 x d t k kd us us2 vd vg vd' cz h0 n0 v U'.heap L ∧ FrameEnd U o U' L ({ frames := 5, cells := 1, slots := 34, locals := 76 } : Room).cells ({ frames := 5, cells := 1, slots := 34, locals := 76 } : Room).slots) := by
  refine MetFree.of_bodySF (plainFor_of_name pn_rmGB2) hisR ?_
  intro p e s m args below meth c s₁ Bd hml0 hP hK
  obtain ⟨rfl, hZ, hh⟩ := hP
  have hx := Bd.exec
  have hby := Bd.bytes
  have hml : c.maxLocals = 2 := hml0
  have hown : s.vm.findClass "java/lang/StringBuilder" = some m.cls := findClass_of_methodNamed Bd.named
  have hnm := (name_of_methodNamed Bd.named Bd.method).1
  have X0 : Stand p l e ({ frames := 5, cells := 1, slots := 34, locals := 76 } : Room) s m #[(.ref a1), (.ref x)] below meth c s₁ [] 0 0 := Stand.of_body Bd
  have e0 : s₁.heap = h0 := by rw [← hh, Bd.state]; rfl
  have N0 := Fr.nil n0
  refine Gl.start (Q := Q_rmGB2 Z a1 x d t k kd us us2 vd vg vd' cz h0 n0) (ef_rmGB2 m a1 x) ?_
  show Gl p e below s _ _ _ s₁ (mkF m 0 #[.val (.ref a1), .val (.ref x)] [])
  refine Gl.st (fun _ kk => XS.aloadN X0.here hx rfl (hb hby d10_0) rfl rfl kk) ?_
  show Gl p e below s _ _ _ s₁ (mkF m 1 #[.val (.ref a1), .val (.ref x)] [(.ref a1)])
  refine Gl.st (fun _ kk => XS.aloadN X0.here hx rfl (hb hby d10_1) rfl rfl kk) ?_
  show Gl p e below s _ _ _ s₁ (mkF m 2 #[.val (.ref a1), .val (.ref x)] [(.ref x), (.ref a1)])
  have lq1_a1 := Exa_a1.lt
  have lq1_d := Arv_d.lt
  have lq1_t := Arv_t.lt
  have lq1_x := Exa_x.lt
  obtain ⟨v1, _, ⟨T1, L1, kQ1, nQ1⟩, -, X1, ⟨Lc1, hQ1, l1, y1, z1⟩, st1⟩ := superBack X0 hx hZ (y := (⟨"java/lang/AbstractStringBuilder", "append", "(Ljava/lang/String;)Ljava/lang/AbstractStringBuilder;"⟩ : MethodName)) hown (hw _ (List.mem_of_getElem? (i := 69) rfl)) (own_same (hw _ (List.mem_of_getElem? (i := 72) rfl)) (hw _ (List.mem_of_getElem? (i := 89) rfl)) (by decide)) (hw _ (List.mem_of_getElem? (i := 70) rfl)) (hw _ (List.mem_of_getElem? (i := 71) rfl)) (by decide) (backOf (W := 0) (rmGA l Z a0 hw [] a1 x d t k kd us us2 vd vg vd' cz h0 n0 O0 Exa_a1 F_value_a1 F_coder_a1 F_count_a1 Arv_d Exa_x F_value_x F_coder_x Arv_t hg hf g1 nda nta nxa S_COMPACT hcz) hZ (hw _ (List.mem_of_getElem? (i := 73) rfl)) (hw _ (List.mem_of_getElem? (i := 53) rfl)) (by decide) (by decide)) e0 (Ins.self Exa_a1) (g := (mkF m 2 #[.val (.ref a1), .val (.ref x)] [(.ref x), (.ref a1)])) rfl (by rw [hml]; rfl) (hw _ (List.mem_of_getElem? (i := 73) rfl)) (argsL := [(.ref x)]) (rest := []) (lenOf pd_rmGB2_0 rfl) rfl (by show 2 * 0 + _ ≤ _; exact Nat.le_of_eq rfl) (hb hby d10_2) (fun _ _ => ⟨rfl, e0, (by decide : 0 + 1 ≤ _), (by decide : 0 + 34 ≤ _)⟩)
  dsimp only [Pt.U, Pt.locs, Pt.cells, Pt.slots] at X1 l1 y1 z1 st1 hQ1
  subst y1 z1
  obtain ⟨h1, e1⟩ : ∃ z, T1.heap = z := ⟨_, rfl⟩
  rw [e1] at hQ1
  obtain ⟨rfl, Nq1, Kq1, b1, kb1, Fvalue1, Fcoder1, Fcount1, Arv_b1, frb1⟩ := hQ1
  have N1 : Fr n0 L1 := l1 ▸ Fr.app N0 Nq1
  refine Gl.st (fun _ kk => st1.trans kk) ?_
  replace Exa_a1 := Exa_a1.keep Kq1
  replace Arv_d := Arv_d.keep Kq1 (ninS nda nin0)
  replace Exa_x := Exa_x.keep Kq1
  replace F_value_x := F_value_x.keep Kq1 (ninS nxa nin0)
  replace F_coder_x := F_coder_x.keep Kq1 (ninS nxa nin0)
  replace Arv_t := Arv_t.keep Kq1 (ninS nta nin0)
  have O1 := O0.keep Kq1 (allS g1 all0)
  have K1 := (Keep.refl h0 [a1]).trans Kq1 (allS (Or.inl (List.mem_of_getElem? (i := 0) rfl)) all0)
  have ne_a1_b1 : a1 ≠ b1 := Nat.ne_of_lt (Nat.lt_of_lt_of_le lq1_a1 frb1)
  have ne_d_b1 : d ≠ b1 := Nat.ne_of_lt (Nat.lt_of_lt_of_le lq1_d frb1)
  have ne_t_b1 : t ≠ b1 := Nat.ne_of_lt (Nat.lt_of_lt_of_le lq1_t frb1)
  have ne_x_b1 : x ≠ b1 := Nat.ne_of_lt (Nat.lt_of_lt_of_le lq1_x frb1)
  have ge_b1 : n0 ≤ b1 := Nat.le_trans (Nat.le_trans (Nat.le_of_eq O0.1.symm) O0.2.1) frb1
  have fr_b1 : h0.size ≤ b1 := frb1
  have F_value_a1 := Fvalue1
  have F_coder_a1 := Fcoder1
  have F_count_a1 := Fcount1
  clear st1
  show Gl p e below s _ _ _ T1 (mkF m 5 #[.val (.ref a1), .val (.ref x)] [(.ref a1)])
  refine Gl.st (fun _ kk => XS.pop X1.here hx rfl (hb hby d10_5) rfl rfl kk) ?_
  show Gl p e below s _ _ _ T1 (mkF m 6 #[.val (.ref a1), .val (.ref x)] [])
  refine Gl.st (fun _ kk => XS.aloadN X1.here hx rfl (hb hby d10_6) rfl rfl kk) ?_
  show Gl p e below s _ _ _ T1 (mkF m 7 #[.val (.ref a1), .val (.ref x)] [(.ref a1)])
  exact Gl.ret X1 (v := (some (.ref a1))) (fun h => by rw [Bd.returns] at h; cases h) (BodyLoose.notSynchronized Bd) (fun hr => retOut X1 hx Bd.returns rfl (Or.inr (Or.inr (Or.inr (Or.inr ⟨rfl, rfl, rfl⟩)))) (hb hby d10_7) hr) e1 ⟨rfl, N1, K1, b1, kb1, F_value_a1, F_coder_a1, F_count_a1, Arv_b1, fr_b1⟩ (by decide) (by decide)
theorem d26_0 : decode jdk_68_method_64_code 0 = .ok (.aload_n 0, 1) := by decide +kernel
theorem d26_1 : decode jdk_68_method_64_code 1 = .ok (.getfield 15, 3) := by decide +kernel
theorem d26_4 : decode jdk_68_method_64_code 4 = .ok (.areturn, 1) := by decide +kernel
theorem pn_rmGV : plainName "java/lang/AbstractStringBuilder" = true := by first | (simp [plainName, overriddenIn]; done) | decide +kernel
theorem ef_rmGV (m : MethodId) (a1 : Addr) : entryFrame m #[(.ref a1)] 1 = mkF m 0 #[.val (.ref a1)] [] := by first | (simp [entryFrame, mkF, argsToLocals, Value.category]; done) | rfl
def Q_rmGV (Z : State) (a1 : Addr) (d : Addr) (h0 : Heap) (n0 : Nat) (v : Option Value) (h : Heap) (L : List Loc) : Prop := v = some (.ref d) ∧ Fr n0 L ∧ h = h0
set_option maxRecDepth 65536 in
set_option maxHeartbeats 40000000 in
theorem rmGV (l : Launch) (Z : State) (a0 : Array Value) (hw : ∀ d ∈ tables_1, d.before a0 Z = true) (ws : List Jvm.Cond) (a1 : Addr) (d : Addr) (h0 : Heap) (n0 : Nat) (O0 : Old Z n0 h0) (Exa_a1 : Exa Z h0 a1 "java/lang/StringBuilder") (F_value_a1 : Fld Z h0 a1 "java/lang/AbstractStringBuilder" "value" "[B" (.ref d)) :
    MetFree l (⟨"java/lang/AbstractStringBuilder", "getValue", "()[B"⟩ : MethodName) (head1 (Jvm.Cond.code (⟨"java/lang/AbstractStringBuilder", "getValue", "()[B"⟩ : MethodName) jdk_68_method_64_code 1 (some (.array .byte)) :: ws) ({ frames := 0, cells := 0, slots := 0, locals := 0 } : Room)) (fun a U => a = #[(.ref a1)] ∧ Z.Warmed39 U.vm ∧ U.heap = h0) (fun _ _ _ _ _ => True) (fun _ U o U' => ∃ v L, o = .returned v ∧ Q_rmGV Z a1 d h0 n0 v U'.heap L ∧ FrameEnd U o U' L ({ frames := 0, cells := 0, slots := 0, locals := 0 } : Room).cells ({ frames := 0, cells := 0, slots := 0, locals := 0 } : Room).slots) := by
  refine MetFree.of_bodySF (plainFor_of_name pn_rmGV) hisR ?_
  intro p e s m args below meth c s₁ Bd hml0 hP hK
  obtain ⟨rfl, hZ, hh⟩ := hP
  have hx := Bd.exec
  have hby := Bd.bytes
  have hml : c.maxLocals = 1 := hml0
  have hown : s.vm.findClass "java/lang/AbstractStringBuilder" = some m.cls := findClass_of_methodNamed Bd.named
  have hnm := (name_of_methodNamed Bd.named Bd.method).1
  have X0 : Stand p l e ({ frames := 0, cells := 0, slots := 0, locals := 0 } : Room) s m #[(.ref a1)] below meth c s₁ [] 0 0 := Stand.of_body Bd
  have e0 : s₁.heap = h0 := by rw [← hh, Bd.state]; rfl
  have N0 := Fr.nil n0
  refine Gl.start (Q := Q_rmGV Z a1 d h0 n0) (ef_rmGV m a1) ?_
  show Gl p e below s _ _ _ s₁ (mkF m 0 #[.val (.ref a1)] [])
  refine Gl.st (fun _ kk => XS.aloadN X0.here hx rfl (hb hby d26_0) rfl rfl kk) ?_
  show Gl p e below s _ _ _ s₁ (mkF m 1 #[.val (.ref a1)] [(.ref a1)])
  obtain ⟨T1, X1, e1, st1⟩ := getF X0 hx hZ hown (host := "") (Or.inl (hw _ (List.mem_of_getElem? (i := 57) rfl))) Via.refl e0 F_value_a1 (g := (mkF m 1 #[.val (.ref a1)] [(.ref a1)])) rfl rfl (hb hby d26_1)
  refine Gl.st st1 ?_
  show Gl p e below s _ _ _ T1 (mkF m 4 #[.val (.ref a1)] [(.ref d)])
  exact Gl.ret X1 (v := (some (.ref d))) (fun h => by rw [Bd.returns] at h; cases h) (BodyLoose.notSynchronized Bd) (fun hr => retOut X1 hx Bd.returns rfl (Or.inr (Or.inr (Or.inr (Or.inr ⟨rfl, rfl, rfl⟩)))) (hb hby d26_4) hr) e1 ⟨rfl, N0, rfl⟩ (by decide) (by decide)
theorem d28_0 : decode jdk_68_method_6_code 0 = .ok (.aload_n 0, 1) := by decide +kernel
theorem d28_1 : decode jdk_68_method_6_code 1 = .ok (.getfield 79, 3) := by decide +kernel
theorem d28_4 : decode jdk_68_method_6_code 4 = .ok (.ireturn, 1) := by decide +kernel
theorem pn_rmAL : plainName "java/lang/AbstractStringBuilder" = true := by first | (simp [plainName, overriddenIn]; done) | decide +kernel
theorem ef_rmAL (m : MethodId) (a1 : Addr) : entryFrame m #[(.ref a1)] 1 = mkF m 0 #[.val (.ref a1)] [] := by first | (simp [entryFrame, mkF, argsToLocals, Value.category]; done) | rfl
def Q_rmAL (Z : State) (a1 : Addr) (cI : Int32) (h0 : Heap) (n0 : Nat) (v : Option Value) (h : Heap) (L : List Loc) : Prop := v = some (.int cI) ∧ Fr n0 L ∧ h = h0
set_option maxRecDepth 65536 in
set_option maxHeartbeats 40000000 in
theorem rmAL (l : Launch) (Z : State) (a0 : Array Value) (hw : ∀ d ∈ tables_1, d.before a0 Z = true) (ws : List Jvm.Cond) (a1 : Addr) (cI : Int32) (h0 : Heap) (n0 : Nat) (O0 : Old Z n0 h0) (Exa_a1 : Exa Z h0 a1 "java/lang/StringBuilder") (F_count_a1 : Fld Z h0 a1 "java/lang/AbstractStringBuilder" "count" "I" (.int cI)) :
    MetFree l (⟨"java/lang/AbstractStringBuilder", "length", "()I"⟩ : MethodName) (head1 (Jvm.Cond.code (⟨"java/lang/AbstractStringBuilder", "length", "()I"⟩ : MethodName) jdk_68_method_6_code 1 (some .int) :: ws) ({ frames := 0, cells := 0, slots := 0, locals := 0 } : Room)) (fun a U => a = #[(.ref a1)] ∧ Z.Warmed39 U.vm ∧ U.heap = h0) (fun _ _ _ _ _ => True) (fun _ U o U' => ∃ v L, o = .returned v ∧ Q_rmAL Z a1 cI h0 n0 v U'.heap L ∧ FrameEnd U o U' L ({ frames := 0, cells := 0, slots := 0, locals := 0 } : Room).cells ({ frames := 0, cells := 0, slots := 0, locals := 0 } : Room).slots) := by
  refine MetFree.of_bodySF (plainFor_of_name pn_rmAL) hisR ?_
  intro p e s m args below meth c s₁ Bd hml0 hP hK
  obtain ⟨rfl, hZ, hh⟩ := hP
  have hx := Bd.exec
  have hby := Bd.bytes
  have hml : c.maxLocals = 1 := hml0
  have hown : s.vm.findClass "java/lang/AbstractStringBuilder" = some m.cls := findClass_of_methodNamed Bd.named
  have hnm := (name_of_methodNamed Bd.named Bd.method).1
  have X0 : Stand p l e ({ frames := 0, cells := 0, slots := 0, locals := 0 } : Room) s m #[(.ref a1)] below meth c s₁ [] 0 0 := Stand.of_body Bd
  have e0 : s₁.heap = h0 := by rw [← hh, Bd.state]; rfl
  have N0 := Fr.nil n0
  refine Gl.start (Q := Q_rmAL Z a1 cI h0 n0) (ef_rmAL m a1) ?_
  show Gl p e below s _ _ _ s₁ (mkF m 0 #[.val (.ref a1)] [])
  refine Gl.st (fun _ kk => XS.aloadN X0.here hx rfl (hb hby d28_0) rfl rfl kk) ?_
  show Gl p e below s _ _ _ s₁ (mkF m 1 #[.val (.ref a1)] [(.ref a1)])
  obtain ⟨T1, X1, e1, st1⟩ := getF X0 hx hZ hown (host := "") (Or.inl (hw _ (List.mem_of_getElem? (i := 84) rfl))) Via.refl e0 F_count_a1 (g := (mkF m 1 #[.val (.ref a1)] [(.ref a1)])) rfl rfl (hb hby d28_1)
  refine Gl.st st1 ?_
  show Gl p e below s _ _ _ T1 (mkF m 4 #[.val (.ref a1)] [(.int cI)])
  exact Gl.ret X1 (v := (some (.int cI))) (fun h => by rw [Bd.returns] at h; cases h) (BodyLoose.notSynchronized Bd) (fun hr => retI X1 hx Bd.returns (hb hby d28_4) hr) e1 ⟨rfl, N0, rfl⟩ (by decide) (by decide)
theorem d27_0 : decode jdk_67_method_93_code 0 = .ok (.aload_n 0, 1) := by decide +kernel
theorem d27_1 : decode jdk_67_method_93_code 1 = .ok (.invokespecial 343, 3) := by decide +kernel
theorem d27_4 : decode jdk_67_method_93_code 4 = .ok (.ireturn, 1) := by decide +kernel
theorem pd_rmSL_0 : parseMethodDescriptor "()I" = some ⟨[], some .int⟩ := by decide +kernel
theorem pn_rmSL : plainName "java/lang/StringBuilder" = true := by first | (simp [plainName, overriddenIn]; done) | decide +kernel
theorem ef_rmSL (m : MethodId) (a1 : Addr) : entryFrame m #[(.ref a1)] 1 = mkF m 0 #[.val (.ref a1)] [] := by first | (simp [entryFrame, mkF, argsToLocals, Value.category]; done) | rfl
def Q_rmSL (Z : State) (a1 : Addr) (cI : Int32) (h0 : Heap) (n0 : Nat) (v : Option Value) (h : Heap) (L : List Loc) : Prop := v = some (.int cI) ∧ Fr n0 L ∧ h = h0
set_option maxRecDepth 65536 in
set_option maxHeartbeats 40000000 in
theorem rmSL (l : Launch) (Z : State) (a0 : Array Value) (hw : ∀ d ∈ tables_1, d.before a0 Z = true) (ws : List Jvm.Cond) (a1 : Addr) (cI : Int32) (h0 : Heap) (n0 : Nat) (O0 : Old Z n0 h0) (Exa_a1 : Exa Z h0 a1 "java/lang/StringBuilder") (F_count_a1 : Fld Z h0 a1 "java/lang/AbstractStringBuilder" "count" "I" (.int cI)) :
    MetFree l (⟨"java/lang/StringBuilder", "length", "()I"⟩ : MethodName) (head1 (Jvm.Cond.code (⟨"java/lang/StringBuilder", "length", "()I"⟩ : MethodName) jdk_67_method_93_code 1 (some .int) :: ws) ({ frames := 1, cells := 0, slots := 0, locals := 12 } : Room)) (fun a U => a = #[(.ref a1)] ∧ Z.Warmed39 U.vm ∧ U.heap = h0) (fun _ _ _ _ _ => True) (fun _ U o U' => ∃ v L, o = .returned v ∧ Q_rmSL Z a1 cI h0 n0 v U'.heap L ∧ FrameEnd U o U' L ({ frames := 1, cells := 0, slots := 0, locals := 12 } : Room).cells ({ frames := 1, cells := 0, slots := 0, locals := 12 } : Room).slots) := by
  refine MetFree.of_bodySF (plainFor_of_name pn_rmSL) hisR ?_
  intro p e s m args below meth c s₁ Bd hml0 hP hK
  obtain ⟨rfl, hZ, hh⟩ := hP
  have hx := Bd.exec
  have hby := Bd.bytes
  have hml : c.maxLocals = 1 := hml0
  have hown : s.vm.findClass "java/lang/StringBuilder" = some m.cls := findClass_of_methodNamed Bd.named
  have hnm := (name_of_methodNamed Bd.named Bd.method).1
  have X0 : Stand p l e ({ frames := 1, cells := 0, slots := 0, locals := 12 } : Room) s m #[(.ref a1)] below meth c s₁ [] 0 0 := Stand.of_body Bd
  have e0 : s₁.heap = h0 := by rw [← hh, Bd.state]; rfl
  have N0 := Fr.nil n0
  refine Gl.start (Q := Q_rmSL Z a1 cI h0 n0) (ef_rmSL m a1) ?_
  show Gl p e below s _ _ _ s₁ (mkF m 0 #[.val (.ref a1)] [])
  refine Gl.st (fun _ kk => XS.aloadN X0.here hx rfl (hb hby d27_0) rfl rfl kk) ?_
  show Gl p e below s _ _ _ s₁ (mkF m 1 #[.val (.ref a1)] [(.ref a1)])
  obtain ⟨v1, _, ⟨T1, L1, kQ1, nQ1⟩, -, X1, ⟨Lc1, hQ1, l1, y1, z1⟩, st1⟩ := superBack X0 hx hZ (y := (⟨"java/lang/AbstractStringBuilder", "length", "()I"⟩ : MethodName)) hown (hw _ (List.mem_of_getElem? (i := 160) rfl)) (own_same (hw _ (List.mem_of_getElem? (i := 155) rfl)) (hw _ (List.mem_of_getElem? (i := 89) rfl)) (by decide)) (hw _ (List.mem_of_getElem? (i := 156) rfl)) (hw _ (List.mem_of_getElem? (i := 71) rfl)) (by decide) (backOf (W := 0) (rmAL l Z a0 hw [] a1 cI h0 n0 O0 Exa_a1 F_count_a1) hZ (hw _ (List.mem_of_getElem? (i := 161) rfl)) (hw _ (List.mem_of_getElem? (i := 53) rfl)) (by decide) (by decide)) e0 (Ins.self Exa_a1) (g := (mkF m 1 #[.val (.ref a1)] [(.ref a1)])) rfl (by rw [hml]; rfl) (hw _ (List.mem_of_getElem? (i := 161) rfl)) (argsL := []) (rest := []) (lenOf pd_rmSL_0 rfl) rfl (by show 2 * 0 + _ ≤ _; exact Nat.le_of_eq rfl) (hb hby d27_1) (fun _ _ => ⟨rfl, e0, (by decide : 0 + 0 ≤ _), (by decide : 0 + 0 ≤ _)⟩)
  dsimp only [Pt.U, Pt.locs, Pt.cells, Pt.slots] at X1 l1 y1 z1 st1 hQ1
  subst y1 z1
  obtain ⟨rfl, Nq1, e1⟩ := hQ1
  have N1 : Fr n0 L1 := l1 ▸ Fr.app N0 Nq1
  refine Gl.st (fun _ kk => st1.trans kk) ?_
  clear st1
  show Gl p e below s _ _ _ T1 (mkF m 4 #[.val (.ref a1)] [(.int cI)])
  exact Gl.ret X1 (v := (some (.int cI))) (fun h => by rw [Bd.returns] at h; cases h) (BodyLoose.notSynchronized Bd) (fun hr => retI X1 hx Bd.returns (hb hby d27_4) hr) e1 ⟨rfl, N1, rfl⟩ (by decide) (by decide)
theorem d29_0 : decode jdk_68_method_68_code 0 = .ok (.getstatic 18, 3) := by decide +kernel
theorem d29_3 : decode jdk_68_method_68_code 3 = .ok (.ifCond .eq 14, 3) := by decide +kernel
theorem d29_6 : decode jdk_68_method_68_code 6 = .ok (.aload_n 0, 1) := by decide +kernel
theorem d29_7 : decode jdk_68_method_68_code 7 = .ok (.getfield 22, 3) := by decide +kernel
theorem d29_10 : decode jdk_68_method_68_code 10 = .ok (.ifCond .ne 7, 3) := by decide +kernel
theorem d29_13 : decode jdk_68_method_68_code 13 = .ok (.iconst 1, 1) := by decide +kernel
theorem d29_14 : decode jdk_68_method_68_code 14 = .ok (.goto 4, 3) := by decide +kernel
theorem d29_18 : decode jdk_68_method_68_code 18 = .ok (.ireturn, 1) := by decide +kernel
theorem pn_rmLI : plainName "java/lang/AbstractStringBuilder" = true := by first | (simp [plainName, overriddenIn]; done) | decide +kernel
theorem ef_rmLI (m : MethodId) (a1 : Addr) : entryFrame m #[(.ref a1)] 1 = mkF m 0 #[.val (.ref a1)] [] := by first | (simp [entryFrame, mkF, argsToLocals, Value.category]; done) | rfl
def Q_rmLI (Z : State) (a1 : Addr) (cz : Int32) (h0 : Heap) (n0 : Nat) (v : Option Value) (h : Heap) (L : List Loc) : Prop := v = some (.int 1) ∧ Fr n0 L ∧ h = h0
set_option maxRecDepth 65536 in
set_option maxHeartbeats 40000000 in
theorem rmLI (l : Launch) (Z : State) (a0 : Array Value) (hw : ∀ d ∈ tables_1, d.before a0 Z = true) (ws : List Jvm.Cond) (a1 : Addr) (cz : Int32) (h0 : Heap) (n0 : Nat) (O0 : Old Z n0 h0) (Exa_a1 : Exa Z h0 a1 "java/lang/StringBuilder") (F_coder_a1 : Fld Z h0 a1 "java/lang/AbstractStringBuilder" "coder" "B" (.int 0)) (S_COMPACT : Sta Z Z.heap "java/lang/String" "COMPACT_STRINGS" "Z" (.int cz)) (hcz : ¬ cz = 0) :
    MetFree l (⟨"java/lang/AbstractStringBuilder", "isLatin1", "()Z"⟩ : MethodName) (head1 (Jvm.Cond.code (⟨"java/lang/AbstractStringBuilder", "isLatin1", "()Z"⟩ : MethodName) jdk_68_method_68_code 1 (some .boolean) :: ws) ({ frames := 0, cells := 0, slots := 0, locals := 0 } : Room)) (fun a U => a = #[(.ref a1)] ∧ Z.Warmed39 U.vm ∧ U.heap = h0) (fun _ _ _ _ _ => True) (fun _ U o U' => ∃ v L, o = .returned v ∧ Q_rmLI Z a1 cz h0 n0 v U'.heap L ∧ FrameEnd U o U' L ({ frames := 0, cells := 0, slots := 0, locals := 0 } : Room).cells ({ frames := 0, cells := 0, slots := 0, locals := 0 } : Room).slots) := by
  refine MetFree.of_bodySF (plainFor_of_name pn_rmLI) hisR ?_
  intro p e s m args below meth c s₁ Bd hml0 hP hK
  obtain ⟨rfl, hZ, hh⟩ := hP
  have hx := Bd.exec
  have hby := Bd.bytes
  have hml : c.maxLocals = 1 := hml0
  have hown : s.vm.findClass "java/lang/AbstractStringBuilder" = some m.cls := findClass_of_methodNamed Bd.named
  have hnm := (name_of_methodNamed Bd.named Bd.method).1
  have X0 : Stand p l e ({ frames := 0, cells := 0, slots := 0, locals := 0 } : Room) s m #[(.ref a1)] below meth c s₁ [] 0 0 := Stand.of_body Bd
  have e0 : s₁.heap = h0 := by rw [← hh, Bd.state]; rfl
  have N0 := Fr.nil n0
  refine Gl.start (Q := Q_rmLI Z a1 cz h0 n0) (ef_rmLI m a1) ?_
  show Gl p e below s _ _ _ s₁ (mkF m 0 #[.val (.ref a1)] [])
  obtain ⟨T1, X1, e1, st1⟩ := getS2 X0 hx hZ hown (host := "") (Or.inl (hw _ (List.mem_of_getElem? (i := 56) rfl))) Via.refl e0 (S_COMPACT.ext O0.2) (g := (mkF m 0 #[.val (.ref a1)] [])) rfl (hb hby d29_0)
  refine Gl.st st1 ?_
  show Gl p e below s _ _ _ T1 (mkF m 3 #[.val (.ref a1)] [(.int cz)])
  refine Gl.st (fun _ kk => XS.ifNo X1.here hx rfl (hb hby d29_3) rfl ((if0 _ _).trans (feq hcz).1) kk) ?_
  show Gl p e below s _ _ _ T1 (mkF m 6 #[.val (.ref a1)] [])
  refine Gl.st (fun _ kk => XS.aloadN X1.here hx rfl (hb hby d29_6) rfl rfl kk) ?_
  show Gl p e below s _ _ _ T1 (mkF m 7 #[.val (.ref a1)] [(.ref a1)])
  obtain ⟨T2, X2, e2, st2⟩ := getF X1 hx hZ hown (host := "") (Or.inl (hw _ (List.mem_of_getElem? (i := 59) rfl))) Via.refl e1 F_coder_a1 (g := (mkF m 7 #[.val (.ref a1)] [(.ref a1)])) rfl rfl (hb hby d29_7)
  refine Gl.st st2 ?_
  show Gl p e below s _ _ _ T2 (mkF m 10 #[.val (.ref a1)] [(.int (0 : Int32))])
  refine Gl.st (fun _ kk => XS.ifNo X2.here hx rfl (hb hby d29_10) rfl ((if0 _ _).trans (teq (by decide : (0 : Int32) = (0 : Int32))).2) kk) ?_
  show Gl p e below s _ _ _ T2 (mkF m 13 #[.val (.ref a1)] [])
  refine Gl.st (fun _ kk => XS.iconst X2.here hx rfl (hb hby d29_13) kk) ?_
  show Gl p e below s _ _ _ T2 (mkF m 14 #[.val (.ref a1)] [(.int (1 : Int32))])
  refine Gl.st (fun _ kk => XS.goto X2.here hx rfl (pc0 := 14) (pc' := 18) rfl (hb hby d29_14) (by decide) (by decide) kk) ?_
  show Gl p e below s _ _ _ T2 (mkF m 18 #[.val (.ref a1)] [(.int (1 : Int32))])
  exact Gl.ret X2 (v := (some (.int (1 : Int32)))) (fun h => by rw [Bd.returns] at h; cases h) (BodyLoose.notSynchronized Bd) (fun hr => retN X2 hx (t := .boolean) Bd.returns (by simp) (hb hby d29_18) hr) e2 ⟨rfl, N0, rfl⟩ (by decide) (by decide)
theorem d32_0 : decode jdk_65_method_131_code 0 = .ok (.iload_n 1, 1) := by decide +kernel
theorem d32_1 : decode jdk_65_method_131_code 1 = .ok (.iload_n 0, 1) := by decide +kernel
theorem d32_2 : decode jdk_65_method_131_code 2 = .ok (.if_icmp .ge 35, 3) := by decide +kernel
theorem d32_37 : decode jdk_65_method_131_code 37 = .ok (.return_, 1) := by decide +kernel
theorem pn_rmCL : plainName "java/util/Arrays" = true := by first | (simp [plainName, overriddenIn]; done) | decide +kernel
theorem ef_rmCL (m : MethodId) (q1 : Int32) (q2 : Int32) : entryFrame m #[(.int q1), (.int q2)] 2 = mkF m 0 #[.val (.int q1), .val (.int q2)] [] := by first | (simp [entryFrame, mkF, argsToLocals, Value.category]; done) | rfl
def Q_rmCL (Z : State) (q1 : Int32) (q2 : Int32)  (h0 : Heap) (n0 : Nat) (v : Option Value) (h : Heap) (L : List Loc) : Prop := v = none ∧ Fr n0 L ∧ h = h0
set_option maxRecDepth 65536 in
set_option maxHeartbeats 40000000 in
theorem rmCL (l : Launch) (Z : State) (a0 : Array Value) (hw : ∀ d ∈ tables_1, d.before a0 Z = true) (ws : List Jvm.Cond) (q1 : Int32) (q2 : Int32)  (h0 : Heap) (n0 : Nat) (O0 : Old Z n0 h0) (h2 : ¬ q2 < q1) :
    MetFree l (⟨"java/util/Arrays", "checkLength", "(II)V"⟩ : MethodName) (head1 (Jvm.Cond.code (⟨"java/util/Arrays", "checkLength", "(II)V"⟩ : MethodName) jdk_65_method_131_code 2 none :: ws) ({ frames := 0, cells := 0, slots := 0, locals := 0 } : Room)) (fun a U => a = #[(.int q1), (.int q2)] ∧ Z.Warmed39 U.vm ∧ U.heap = h0) (fun _ _ _ _ _ => True) (fun _ U o U' => ∃ v L, o = .returned v ∧ Q_rmCL Z q1 q2  h0 n0 v U'.heap L ∧ FrameEnd U o U' L ({ frames := 0, cells := 0, slots := 0, locals := 0 } : Room).cells ({ frames := 0, cells := 0, slots := 0, locals := 0 } : Room).slots) := by
  refine MetFree.of_bodySF (plainFor_of_name pn_rmCL) hisR ?_
  intro p e s m args below meth c s₁ Bd hml0 hP hK
  obtain ⟨rfl, hZ, hh⟩ := hP
  have hx := Bd.exec
  have hby := Bd.bytes
  have hml : c.maxLocals = 2 := hml0
  have hown : s.vm.findClass "java/util/Arrays" = some m.cls := findClass_of_methodNamed Bd.named
  have hnm := (name_of_methodNamed Bd.named Bd.method).1
  have X0 : Stand p l e ({ frames := 0, cells := 0, slots := 0, locals := 0 } : Room) s m #[(.int q1), (.int q2)] below meth c s₁ [] 0 0 := Stand.of_body Bd
  have e0 : s₁.heap = h0 := by rw [← hh, Bd.state]; rfl
  have N0 := Fr.nil n0
  refine Gl.start (Q := Q_rmCL Z q1 q2  h0 n0) (ef_rmCL m q1 q2) ?_
  show Gl p e below s _ _ _ s₁ (mkF m 0 #[.val (.int q1), .val (.int q2)] [])
  refine Gl.st (fun _ kk => XS.iloadN X0.here hx rfl (hb hby d32_0) rfl kk) ?_
  show Gl p e below s _ _ _ s₁ (mkF m 1 #[.val (.int q1), .val (.int q2)] [(.int q2)])
  refine Gl.st (fun _ kk => XS.iloadN X0.here hx rfl (hb hby d32_1) rfl kk) ?_
  show Gl p e below s _ _ _ s₁ (mkF m 2 #[.val (.int q1), .val (.int q2)] [(.int q1), (.int q2)])
  refine Gl.st (fun _ kk => XS.icmpYes X0.here hx rfl (pc0 := 2) (pc' := 37) rfl (hb hby d32_2) rfl (flt h2).2.1 (by decide) (by decide) kk) ?_
  show Gl p e below s _ _ _ s₁ (mkF m 37 #[.val (.int q1), .val (.int q2)] [])
  exact Gl.ret X0 (v := none) (fun _ => rfl) (BodyLoose.notSynchronized Bd) (fun hr => X0.returnOut hx Bd.returns (hb hby d32_37) hr) e0 ⟨rfl, N0, rfl⟩ (by decide) (by decide)
theorem d31_0 : decode jdk_65_method_133_code 0 = .ok (.iload_n 1, 1) := by decide +kernel
theorem d31_1 : decode jdk_65_method_133_code 1 = .ok (.iload_n 2, 1) := by decide +kernel
theorem d31_2 : decode jdk_65_method_133_code 2 = .ok (.invokestatic 343, 3) := by decide +kernel
theorem d31_5 : decode jdk_65_method_133_code 5 = .ok (.iload_n 2, 1) := by decide +kernel
theorem d31_6 : decode jdk_65_method_133_code 6 = .ok (.iload_n 1, 1) := by decide +kernel
theorem d31_7 : decode jdk_65_method_133_code 7 = .ok (.isub, 1) := by decide +kernel
theorem d31_8 : decode jdk_65_method_133_code 8 = .ok (.istore_n 3, 1) := by decide +kernel
theorem d31_9 : decode jdk_65_method_133_code 9 = .ok (.iload_n 3, 1) := by decide +kernel
theorem d31_10 : decode jdk_65_method_133_code 10 = .ok (.newarray .byte, 2) := by decide +kernel
theorem d31_12 : decode jdk_65_method_133_code 12 = .ok (.astore 4, 2) := by decide +kernel
theorem d31_14 : decode jdk_65_method_133_code 14 = .ok (.aload_n 0, 1) := by decide +kernel
theorem d31_15 : decode jdk_65_method_133_code 15 = .ok (.iload_n 1, 1) := by decide +kernel
theorem d31_16 : decode jdk_65_method_133_code 16 = .ok (.aload 4, 2) := by decide +kernel
theorem d31_18 : decode jdk_65_method_133_code 18 = .ok (.iconst 0, 1) := by decide +kernel
theorem d31_19 : decode jdk_65_method_133_code 19 = .ok (.aload_n 0, 1) := by decide +kernel
theorem d31_20 : decode jdk_65_method_133_code 20 = .ok (.arraylength, 1) := by decide +kernel
theorem d31_21 : decode jdk_65_method_133_code 21 = .ok (.iload_n 1, 1) := by decide +kernel
theorem d31_22 : decode jdk_65_method_133_code 22 = .ok (.isub, 1) := by decide +kernel
theorem d31_23 : decode jdk_65_method_133_code 23 = .ok (.iload_n 3, 1) := by decide +kernel
theorem d31_24 : decode jdk_65_method_133_code 24 = .ok (.invokestatic 304, 3) := by decide +kernel
theorem d31_27 : decode jdk_65_method_133_code 27 = .ok (.invokestatic 150, 3) := by decide +kernel
theorem d31_30 : decode jdk_65_method_133_code 30 = .ok (.aload 4, 2) := by decide +kernel
theorem d31_32 : decode jdk_65_method_133_code 32 = .ok (.areturn, 1) := by decide +kernel
theorem pd_rmRB_0 : parseMethodDescriptor "(II)V" = some ⟨[.int, .int], none⟩ := by decide +kernel
theorem pd_rmRB_1 : parseMethodDescriptor "(II)I" = some ⟨[.int, .int], some .int⟩ := by decide +kernel
theorem pn_rmRB : plainName "java/util/Arrays" = true := by first | (simp [plainName, overriddenIn]; done) | decide +kernel
theorem ef_rmRB (m : MethodId) (d : Addr) : entryFrame m #[(.ref d), (.int (0 : Int32)), (.int (28 : Int32))] 5 = mkF m 0 #[.val (.ref d), .val (.int (0 : Int32)), .val (.int (28 : Int32)), .unset, .unset] [] := by first | (simp [entryFrame, mkF, argsToLocals, Value.category]; done) | rfl
def Q_rmRB (Z : State) (d : Addr) (kd : ClassId) (us vd vr : List Value) (h0 : Heap) (n0 : Nat) (v : Option Value) (h : Heap) (L : List Loc) : Prop := ∃ (b : Addr) (k2 : ClassId), v = some (.ref b) ∧ Fr n0 L ∧ Keep h0 h [] ∧ Arv Z h b k2 .byte (28 : Int32) vr (.int 0) ∧ h0.size ≤ b
set_option maxRecDepth 65536 in
set_option maxHeartbeats 40000000 in
theorem rmRB (l : Launch) (Z : State) (a0 : Array Value) (hw : ∀ d ∈ tables_1, d.before a0 Z = true) (ws : List Jvm.Cond) (d : Addr) (kd : ClassId) (us vd vr : List Value) (h0 : Heap) (n0 : Nat) (O0 : Old Z n0 h0) (Arv_d : Arv Z h0 d kd .byte (34 : Int32) vd (.int 0)) (hr : own_fits 34 28 28 0 us vd [(.int (0 : Int32)), (.int (0 : Int32)), (.int (0 : Int32)), (.int (0 : Int32)), (.int (0 : Int32)), (.int (0 : Int32)), (.int (0 : Int32)), (.int (0 : Int32)), (.int (0 : Int32)), (.int (0 : Int32)), (.int (0 : Int32)), (.int (0 : Int32)), (.int (0 : Int32)), (.int (0 : Int32)), (.int (0 : Int32)), (.int (0 : Int32)), (.int (0 : Int32)), (.int (0 : Int32)), (.int (0 : Int32)), (.int (0 : Int32)), (.int (0 : Int32)), (.int (0 : Int32)), (.int (0 : Int32)), (.int (0 : Int32)), (.int (0 : Int32)), (.int (0 : Int32)), (.int (0 : Int32)), (.int (0 : Int32))] vr) :
    MetFree l (⟨"java/util/Arrays", "copyOfRangeByte", "([BII)[B"⟩ : MethodName) (head1 (Jvm.Cond.code (⟨"java/util/Arrays", "copyOfRangeByte", "([BII)[B"⟩ : MethodName) jdk_65_method_133_code 5 (some (.array .byte)) :: ws) ({ frames := 1, cells := 1, slots := 28, locals := 18 } : Room)) (fun a U => a = #[(.ref d), (.int (0 : Int32)), (.int (28 : Int32))] ∧ Z.Warmed39 U.vm ∧ U.heap = h0) (fun _ _ _ _ _ => True) (fun _ U o U' => ∃ v L, o = .returned v ∧ Q_rmRB Z d kd us vd vr h0 n0 v U'.heap L ∧ FrameEnd U o U' L ({ frames := 1, cells := 1, slots := 28, locals := 18 } : Room).cells ({ frames := 1, cells := 1, slots := 28, locals := 18 } : Room).slots) := by
  refine MetFree.of_bodySF (plainFor_of_name pn_rmRB) hisR ?_
  intro p e s m args below meth c s₁ Bd hml0 hP hK
  obtain ⟨rfl, hZ, hh⟩ := hP
  have hx := Bd.exec
  have hby := Bd.bytes
  have hml : c.maxLocals = 5 := hml0
  have hown : s.vm.findClass "java/util/Arrays" = some m.cls := findClass_of_methodNamed Bd.named
  have hnm := (name_of_methodNamed Bd.named Bd.method).1
  have X0 : Stand p l e ({ frames := 1, cells := 1, slots := 28, locals := 18 } : Room) s m #[(.ref d), (.int (0 : Int32)), (.int (28 : Int32))] below meth c s₁ [] 0 0 := Stand.of_body Bd
  have e0 : s₁.heap = h0 := by rw [← hh, Bd.state]; rfl
  have N0 := Fr.nil n0
  refine Gl.start (Q := Q_rmRB Z d kd us vd vr h0 n0) (ef_rmRB m d) ?_
  show Gl p e below s _ _ _ s₁ (mkF m 0 #[.val (.ref d), .val (.int (0 : Int32)), .val (.int (28 : Int32)), .unset, .unset] [])
  refine Gl.st (fun _ kk => XS.iloadN X0.here hx rfl (hb hby d31_0) rfl kk) ?_
  show Gl p e below s _ _ _ s₁ (mkF m 1 #[.val (.ref d), .val (.int (0 : Int32)), .val (.int (28 : Int32)), .unset, .unset] [(.int (0 : Int32))])
  refine Gl.st (fun _ kk => XS.iloadN X0.here hx rfl (hb hby d31_1) rfl kk) ?_
  show Gl p e below s _ _ _ s₁ (mkF m 2 #[.val (.ref d), .val (.int (0 : Int32)), .val (.int (28 : Int32)), .unset, .unset] [(.int (28 : Int32)), (.int (0 : Int32))])
  obtain ⟨v1, _, ⟨T1, L1, kQ1, nQ1⟩, -, X1, ⟨Lc1, hQ1, l1, y1, z1⟩, st1⟩ := Jvm.LawKit.callS X0 hx (y := (⟨"java/util/Arrays", "checkLength", "(II)V"⟩ : MethodName)) hown (mvT hZ (hw _ (List.mem_of_getElem? (i := 173) rfl))) (mvT hZ (hw _ (List.mem_of_getElem? (i := 174) rfl))) (mvT hZ (hw _ (List.mem_of_getElem? (i := 129) rfl))) (mvT hZ (hw _ (List.mem_of_getElem? (i := 175) rfl))) (by decide) (backOf (W := 0) (rmCL l Z a0 hw [] (0 : Int32) (28 : Int32) h0 n0 O0 (by decide)) hZ (hw _ (List.mem_of_getElem? (i := 175) rfl)) (hw _ (List.mem_of_getElem? (i := 129) rfl)) (by decide) (by decide)) (g := (mkF m 2 #[.val (.ref d), .val (.int (0 : Int32)), .val (.int (28 : Int32)), .unset, .unset] [(.int (28 : Int32)), (.int (0 : Int32))])) rfl (by rw [hml]; rfl) (argsL := [(.int (0 : Int32)), (.int (28 : Int32))]) (rest := []) (lenOf pd_rmRB_0 rfl) rfl (by show 2 * 0 + _ ≤ _; exact Nat.le_of_eq rfl) (hb hby d31_2) (fun _ _ => ⟨rfl, e0, (by decide : 0 + 0 ≤ _), (by decide : 0 + 0 ≤ _)⟩)
  dsimp only [Pt.U, Pt.locs, Pt.cells, Pt.slots] at X1 l1 y1 z1 st1 hQ1
  subst y1 z1
  obtain ⟨rfl, Nq1, e1⟩ := hQ1
  have N1 : Fr n0 L1 := l1 ▸ Fr.app N0 Nq1
  refine Gl.st st1 ?_
  clear st1
  show Gl p e below s _ _ _ T1 (mkF m 5 #[.val (.ref d), .val (.int (0 : Int32)), .val (.int (28 : Int32)), .unset, .unset] [])
  refine Gl.st (fun _ kk => XS.iloadN X1.here hx rfl (hb hby d31_5) rfl kk) ?_
  show Gl p e below s _ _ _ T1 (mkF m 6 #[.val (.ref d), .val (.int (0 : Int32)), .val (.int (28 : Int32)), .unset, .unset] [(.int (28 : Int32))])
  refine Gl.st (fun _ kk => XS.iloadN X1.here hx rfl (hb hby d31_6) rfl kk) ?_
  show Gl p e below s _ _ _ T1 (mkF m 7 #[.val (.ref d), .val (.int (0 : Int32)), .val (.int (28 : Int32)), .unset, .unset] [(.int (0 : Int32)), (.int (28 : Int32))])
  refine Gl.st (fun _ kk => XS.isub X1.here hx rfl (hb hby d31_7) rfl kk) ?_
  show Gl p e below s _ _ _ T1 (mkF m 8 #[.val (.ref d), .val (.int (0 : Int32)), .val (.int (28 : Int32)), .unset, .unset] [(.int (28 : Int32))])
  refine Gl.st (fun _ kk => XS.istoreN X1.here hx rfl (hb hby d31_8) rfl (l' := #[.val (.ref d), .val (.int (0 : Int32)), .val (.int (28 : Int32)), .val (.int (28 : Int32)), .unset]) rfl kk) ?_
  show Gl p e below s _ _ _ T1 (mkF m 9 #[.val (.ref d), .val (.int (0 : Int32)), .val (.int (28 : Int32)), .val (.int (28 : Int32)), .unset] [])
  refine Gl.st (fun _ kk => XS.iloadN X1.here hx rfl (hb hby d31_9) rfl kk) ?_
  show Gl p e below s _ _ _ T1 (mkF m 10 #[.val (.ref d), .val (.int (0 : Int32)), .val (.int (28 : Int32)), .val (.int (28 : Int32)), .unset] [(.int (28 : Int32))])
  obtain ⟨T2, h2, ka2, X2, e2, E2, A2, st2⟩ := newP X1 hx hZ (hw _ (List.mem_of_getElem? (i := 14) rfl)) e1 (g := (mkF m 10 #[.val (.ref d), .val (.int (0 : Int32)), .val (.int (28 : Int32)), .val (.int (28 : Int32)), .unset] [(.int (28 : Int32))])) rfl (hb hby d31_10) rfl (by decide) (cap := 28) (by decide) (by decide) (by decide) (by decide)
  obtain ⟨b2, g2⟩ : ∃ z, z = h0.size := ⟨_, rfl⟩
  rw [← g2] at A2 st2
  refine Gl.st st2 ?_
  have ne_d_b2 : d ≠ b2 := Nat.ne_of_lt (Nat.lt_of_lt_of_eq Arv_d.lt g2.symm)
  have ge_b2 : n0 ≤ b2 := Nat.le_trans (Nat.le_trans (Nat.le_of_eq O0.1.symm) O0.2.1) (Nat.le_of_eq g2.symm)
  have fr_b2 : h0.size ≤ b2 := Nat.le_trans (Nat.le_refl _) (Nat.le_of_eq g2.symm)
  replace Arv_d := Arv_d.ext E2
  have O2 := O0.ext E2
  have K2 := (Keep.refl h0 []).ext E2
  have Arv_b2 : Arv Z h2 b2 ka2 .byte (28 : Int32) [(.int (0 : Int32)), (.int (0 : Int32)), (.int (0 : Int32)), (.int (0 : Int32)), (.int (0 : Int32)), (.int (0 : Int32)), (.int (0 : Int32)), (.int (0 : Int32)), (.int (0 : Int32)), (.int (0 : Int32)), (.int (0 : Int32)), (.int (0 : Int32)), (.int (0 : Int32)), (.int (0 : Int32)), (.int (0 : Int32)), (.int (0 : Int32)), (.int (0 : Int32)), (.int (0 : Int32)), (.int (0 : Int32)), (.int (0 : Int32)), (.int (0 : Int32)), (.int (0 : Int32)), (.int (0 : Int32)), (.int (0 : Int32)), (.int (0 : Int32)), (.int (0 : Int32)), (.int (0 : Int32)), (.int (0 : Int32))] (.int (0 : Int32)) := (Arv.new A2 (by decide)).pad (pad_rep [] (.int (0 : Int32)) 28)
  show Gl p e below s _ _ _ T2 (mkF m 12 #[.val (.ref d), .val (.int (0 : Int32)), .val (.int (28 : Int32)), .val (.int (28 : Int32)), .unset] [(.ref b2)])
  refine Gl.st (fun _ kk => XS.astore X2.here hx rfl (hb hby d31_12) rfl rfl (l' := #[.val (.ref d), .val (.int (0 : Int32)), .val (.int (28 : Int32)), .val (.int (28 : Int32)), .val (.ref b2)]) rfl kk) ?_
  show Gl p e below s _ _ _ T2 (mkF m 14 #[.val (.ref d), .val (.int (0 : Int32)), .val (.int (28 : Int32)), .val (.int (28 : Int32)), .val (.ref b2)] [])
  refine Gl.st (fun _ kk => XS.aloadN X2.here hx rfl (hb hby d31_14) rfl rfl kk) ?_
  show Gl p e below s _ _ _ T2 (mkF m 15 #[.val (.ref d), .val (.int (0 : Int32)), .val (.int (28 : Int32)), .val (.int (28 : Int32)), .val (.ref b2)] [(.ref d)])
  refine Gl.st (fun _ kk => XS.iloadN X2.here hx rfl (hb hby d31_15) rfl kk) ?_
  show Gl p e below s _ _ _ T2 (mkF m 16 #[.val (.ref d), .val (.int (0 : Int32)), .val (.int (28 : Int32)), .val (.int (28 : Int32)), .val (.ref b2)] [(.int (0 : Int32)), (.ref d)])
  refine Gl.st (fun _ kk => XS.aload X2.here hx rfl (hb hby d31_16) rfl rfl kk) ?_
  show Gl p e below s _ _ _ T2 (mkF m 18 #[.val (.ref d), .val (.int (0 : Int32)), .val (.int (28 : Int32)), .val (.int (28 : Int32)), .val (.ref b2)] [(.ref b2), (.int (0 : Int32)), (.ref d)])
  refine Gl.st (fun _ kk => XS.iconst X2.here hx rfl (hb hby d31_18) kk) ?_
  show Gl p e below s _ _ _ T2 (mkF m 19 #[.val (.ref d), .val (.int (0 : Int32)), .val (.int (28 : Int32)), .val (.int (28 : Int32)), .val (.ref b2)] [(.int (0 : Int32)), (.ref b2), (.int (0 : Int32)), (.ref d)])
  refine Gl.st (fun _ kk => XS.aloadN X2.here hx rfl (hb hby d31_19) rfl rfl kk) ?_
  show Gl p e below s _ _ _ T2 (mkF m 20 #[.val (.ref d), .val (.int (0 : Int32)), .val (.int (28 : Int32)), .val (.int (28 : Int32)), .val (.ref b2)] [(.ref d), (.int (0 : Int32)), (.ref b2), (.int (0 : Int32)), (.ref d)])
  obtain ⟨cl3, Ar3, q3, Sz3, Ng3, Ha3, Fi3⟩ := id Arv_d
  refine Gl.st (fun _ kk => X2.arraylength hx (by rw [e2]; exact Ar3.1) (State.isArrayOf_alike hZ.alike Ar3.2.1) (g := (mkF m 20 #[.val (.ref d), .val (.int (0 : Int32)), .val (.int (28 : Int32)), .val (.int (28 : Int32)), .val (.ref b2)] [(.ref d), (.int (0 : Int32)), (.ref b2), (.int (0 : Int32)), (.ref d)])) rfl rfl (hb hby d31_20) _ kk) ?_
  rw [len_of Sz3 Ng3]
  show Gl p e below s _ _ _ T2 (mkF m 21 #[.val (.ref d), .val (.int (0 : Int32)), .val (.int (28 : Int32)), .val (.int (28 : Int32)), .val (.ref b2)] [(.int (34 : Int32)), (.int (0 : Int32)), (.ref b2), (.int (0 : Int32)), (.ref d)])
  refine Gl.st (fun _ kk => XS.iloadN X2.here hx rfl (hb hby d31_21) rfl kk) ?_
  show Gl p e below s _ _ _ T2 (mkF m 22 #[.val (.ref d), .val (.int (0 : Int32)), .val (.int (28 : Int32)), .val (.int (28 : Int32)), .val (.ref b2)] [(.int (0 : Int32)), (.int (34 : Int32)), (.int (0 : Int32)), (.ref b2), (.int (0 : Int32)), (.ref d)])
  refine Gl.st (fun _ kk => XS.isub X2.here hx rfl (hb hby d31_22) rfl kk) ?_
  show Gl p e below s _ _ _ T2 (mkF m 23 #[.val (.ref d), .val (.int (0 : Int32)), .val (.int (28 : Int32)), .val (.int (28 : Int32)), .val (.ref b2)] [(.int (34 : Int32)), (.int (0 : Int32)), (.ref b2), (.int (0 : Int32)), (.ref d)])
  refine Gl.st (fun _ kk => XS.iloadN X2.here hx rfl (hb hby d31_23) rfl kk) ?_
  show Gl p e below s _ _ _ T2 (mkF m 24 #[.val (.ref d), .val (.int (0 : Int32)), .val (.int (28 : Int32)), .val (.int (28 : Int32)), .val (.ref b2)] [(.int (28 : Int32)), (.int (34 : Int32)), (.int (0 : Int32)), (.ref b2), (.int (0 : Int32)), (.ref d)])
  obtain ⟨v4, _, ⟨T4, L4, kQ4, nQ4⟩, -, X4, ⟨Lc4, hQ4, l4, y4, z4⟩, st4⟩ := Jvm.LawKit.callS X2 hx (y := (⟨"java/lang/Math", "min", "(II)I"⟩ : MethodName)) hown (mvT hZ (hw _ (List.mem_of_getElem? (i := 131) rfl))) (mvT hZ (hw _ (List.mem_of_getElem? (i := 132) rfl))) (mvT hZ (hw _ (List.mem_of_getElem? (i := 123) rfl))) (mvT hZ (hw _ (List.mem_of_getElem? (i := 133) rfl))) (by decide) (backOf (W := 4) (rmM2 l Z a0 hw [] (34 : Int32) (28 : Int32) h2 n0 O2 (by decide)) hZ (hw _ (List.mem_of_getElem? (i := 133) rfl)) (hw _ (List.mem_of_getElem? (i := 123) rfl)) (by decide) (by decide)) (g := (mkF m 24 #[.val (.ref d), .val (.int (0 : Int32)), .val (.int (28 : Int32)), .val (.int (28 : Int32)), .val (.ref b2)] [(.int (28 : Int32)), (.int (34 : Int32)), (.int (0 : Int32)), (.ref b2), (.int (0 : Int32)), (.ref d)])) rfl (by rw [hml]; rfl) (argsL := [(.int (34 : Int32)), (.int (28 : Int32))]) (rest := [(.int (0 : Int32)), (.ref b2), (.int (0 : Int32)), (.ref d)]) (lenOf pd_rmRB_1 rfl) rfl (by show 2 * 0 + _ ≤ _; exact Nat.le_of_eq rfl) (hb hby d31_24) (fun _ _ => ⟨rfl, e2, (by decide : 1 + 0 ≤ _), (by decide : 28 + 0 ≤ _)⟩)
  dsimp only [Pt.U, Pt.locs, Pt.cells, Pt.slots] at X4 l4 y4 z4 st4 hQ4
  subst y4 z4
  obtain ⟨rfl, Nq4, e4⟩ := hQ4
  have N4 : Fr n0 L4 := l4 ▸ Fr.app N1 Nq4
  refine Gl.st st4 ?_
  clear st4
  clear N1 X2 e2
  show Gl p e below s _ _ _ T4 (mkF m 27 #[.val (.ref d), .val (.int (0 : Int32)), .val (.int (28 : Int32)), .val (.int (28 : Int32)), .val (.ref b2)] [(.int (28 : Int32)), (.int (0 : Int32)), (.ref b2), (.int (0 : Int32)), (.ref d)])
  obtain ⟨T5, h5, Lq5, X5, e5, N5, Kq5, Aq5, st5⟩ := cpA X4 hx hZ hown (hw _ (List.mem_of_getElem? (i := 134) rfl)) (hw _ (List.mem_of_getElem? (i := 110) rfl)) (hw _ (List.mem_of_getElem? (i := 108) rfl)) (hw _ (List.mem_of_getElem? (i := 109) rfl)) e4 Arv_d Arv_b2 (Or.inl ⟨rfl, rfl⟩) (by decide) hr.1 hr.2.1 (by rw [show (0 : Int32).toNatClampNeg = 0 from rfl, Nat.zero_add]; exact hr.2.2.1) hr.2.2.2.1 hr.2.2.2.2.1 hr.2.2.2.2.2.1 N4 ge_b2 (g := (mkF m 27 #[.val (.ref d), .val (.int (0 : Int32)), .val (.int (28 : Int32)), .val (.int (28 : Int32)), .val (.ref b2)] [(.int (28 : Int32)), (.int (0 : Int32)), (.ref b2), (.int (0 : Int32)), (.ref d)])) rfl (by rw [hml]; rfl) (rest := []) rfl (hb hby d31_27) (by decide) (W := 0) (by show 2 * 0 + _ ≤ _; exact Nat.le_of_eq rfl) (by decide)
  refine Gl.st st5 ?_
  rw [← hr.2.2.2.2.2.2] at Aq5
  replace Arv_d := Arv_d.keep Kq5 (ninS ne_d_b2 nin0)
  have O5 := O2.keep Kq5 (allS ge_b2 all0)
  have K5 := K2.trans Kq5 (allS (Or.inr fr_b2) all0)
  have Arv_b2 := Aq5
  show Gl p e below s _ _ _ T5 (mkF m 30 #[.val (.ref d), .val (.int (0 : Int32)), .val (.int (28 : Int32)), .val (.int (28 : Int32)), .val (.ref b2)] [])
  refine Gl.st (fun _ kk => XS.aload X5.here hx rfl (hb hby d31_30) rfl rfl kk) ?_
  show Gl p e below s _ _ _ T5 (mkF m 32 #[.val (.ref d), .val (.int (0 : Int32)), .val (.int (28 : Int32)), .val (.int (28 : Int32)), .val (.ref b2)] [(.ref b2)])
  exact Gl.ret X5 (v := (some (.ref b2))) (fun h => by rw [Bd.returns] at h; cases h) (BodyLoose.notSynchronized Bd) (fun hr => retOut X5 hx Bd.returns rfl (Or.inr (Or.inr (Or.inr (Or.inr ⟨rfl, rfl, rfl⟩)))) (hb hby d31_32) hr) e5 ⟨b2, ka2, rfl, N5, K5, Arv_b2, fr_b2⟩ (by decide) (by decide)
theorem d30_0 : decode jdk_65_method_132_code 0 = .ok (.iload_n 1, 1) := by decide +kernel
theorem d30_1 : decode jdk_65_method_132_code 1 = .ok (.ifCond .ne 9, 3) := by decide +kernel
theorem d30_4 : decode jdk_65_method_132_code 4 = .ok (.iload_n 2, 1) := by decide +kernel
theorem d30_5 : decode jdk_65_method_132_code 5 = .ok (.aload_n 0, 1) := by decide +kernel
theorem d30_6 : decode jdk_65_method_132_code 6 = .ok (.arraylength, 1) := by decide +kernel
theorem d30_7 : decode jdk_65_method_132_code 7 = .ok (.if_icmp .eq 10, 3) := by decide +kernel
theorem d30_10 : decode jdk_65_method_132_code 10 = .ok (.aload_n 0, 1) := by decide +kernel
theorem d30_11 : decode jdk_65_method_132_code 11 = .ok (.iload_n 1, 1) := by decide +kernel
theorem d30_12 : decode jdk_65_method_132_code 12 = .ok (.iload_n 2, 1) := by decide +kernel
theorem d30_13 : decode jdk_65_method_132_code 13 = .ok (.invokestatic 339, 3) := by decide +kernel
theorem d30_16 : decode jdk_65_method_132_code 16 = .ok (.areturn, 1) := by decide +kernel
theorem pd_rmRR_0 : parseMethodDescriptor "([BII)[B" = some ⟨[(.array .byte), .int, .int], some (.array .byte)⟩ := by decide +kernel
theorem pn_rmRR : plainName "java/util/Arrays" = true := by first | (simp [plainName, overriddenIn]; done) | decide +kernel
theorem ef_rmRR (m : MethodId) (d : Addr) : entryFrame m #[(.ref d), (.int (0 : Int32)), (.int (28 : Int32))] 3 = mkF m 0 #[.val (.ref d), .val (.int (0 : Int32)), .val (.int (28 : Int32))] [] := by first | (simp [entryFrame, mkF, argsToLocals, Value.category]; done) | rfl
def Q_rmRR (Z : State) (d : Addr) (kd : ClassId) (us vd vr : List Value) (h0 : Heap) (n0 : Nat) (v : Option Value) (h : Heap) (L : List Loc) : Prop := ∃ (b : Addr) (k2 : ClassId), v = some (.ref b) ∧ Fr n0 L ∧ Keep h0 h [] ∧ Arv Z h b k2 .byte (28 : Int32) vr (.int 0) ∧ h0.size ≤ b
set_option maxRecDepth 65536 in
set_option maxHeartbeats 40000000 in
theorem rmRR (l : Launch) (Z : State) (a0 : Array Value) (hw : ∀ d ∈ tables_1, d.before a0 Z = true) (ws : List Jvm.Cond) (d : Addr) (kd : ClassId) (us vd vr : List Value) (h0 : Heap) (n0 : Nat) (O0 : Old Z n0 h0) (Arv_d : Arv Z h0 d kd .byte (34 : Int32) vd (.int 0)) (hr : own_fits 34 28 28 0 us vd [(.int (0 : Int32)), (.int (0 : Int32)), (.int (0 : Int32)), (.int (0 : Int32)), (.int (0 : Int32)), (.int (0 : Int32)), (.int (0 : Int32)), (.int (0 : Int32)), (.int (0 : Int32)), (.int (0 : Int32)), (.int (0 : Int32)), (.int (0 : Int32)), (.int (0 : Int32)), (.int (0 : Int32)), (.int (0 : Int32)), (.int (0 : Int32)), (.int (0 : Int32)), (.int (0 : Int32)), (.int (0 : Int32)), (.int (0 : Int32)), (.int (0 : Int32)), (.int (0 : Int32)), (.int (0 : Int32)), (.int (0 : Int32)), (.int (0 : Int32)), (.int (0 : Int32)), (.int (0 : Int32)), (.int (0 : Int32))] vr) :
    MetFree l (⟨"java/util/Arrays", "copyOfRange", "([BII)[B"⟩ : MethodName) (head1 (Jvm.Cond.code (⟨"java/util/Arrays", "copyOfRange", "([BII)[B"⟩ : MethodName) jdk_65_method_132_code 3 (some (.array .byte)) :: ws) ({ frames := 2, cells := 1, slots := 28, locals := 34 } : Room)) (fun a U => a = #[(.ref d), (.int (0 : Int32)), (.int (28 : Int32))] ∧ Z.Warmed39 U.vm ∧ U.heap = h0) (fun _ _ _ _ _ => True) (fun _ U o U' => ∃ v L, o = .returned v ∧ Q_rmRR Z d kd us vd vr h0 n0 v U'.heap L ∧ FrameEnd U o U' L ({ frames := 2, cells := 1, slots := 28, locals := 34 } : Room).cells ({ frames := 2, cells := 1, slots := 28, locals := 34 } : Room).slots) := by
  refine MetFree.of_bodySF (plainFor_of_name pn_rmRR) hisR ?_
  intro p e s m args below meth c s₁ Bd hml0 hP hK
  obtain ⟨rfl, hZ, hh⟩ := hP
  have hx := Bd.exec
  have hby := Bd.bytes
  have hml : c.maxLocals = 3 := hml0
  have hown : s.vm.findClass "java/util/Arrays" = some m.cls := findClass_of_methodNamed Bd.named
  have hnm := (name_of_methodNamed Bd.named Bd.method).1
  have X0 : Stand p l e ({ frames := 2, cells := 1, slots := 28, locals := 34 } : Room) s m #[(.ref d), (.int (0 : Int32)), (.int (28 : Int32))] below meth c s₁ [] 0 0 := Stand.of_body Bd
  have e0 : s₁.heap = h0 := by rw [← hh, Bd.state]; rfl
  have N0 := Fr.nil n0
  refine Gl.start (Q := Q_rmRR Z d kd us vd vr h0 n0) (ef_rmRR m d) ?_
  show Gl p e below s _ _ _ s₁ (mkF m 0 #[.val (.ref d), .val (.int (0 : Int32)), .val (.int (28 : Int32))] [])
  refine Gl.st (fun _ kk => XS.iloadN X0.here hx rfl (hb hby d30_0) rfl kk) ?_
  show Gl p e below s _ _ _ s₁ (mkF m 1 #[.val (.ref d), .val (.int (0 : Int32)), .val (.int (28 : Int32))] [(.int (0 : Int32))])
  refine Gl.st (fun _ kk => XS.ifNo X0.here hx rfl (hb hby d30_1) rfl ((if0 _ _).trans (teq (by decide : (0 : Int32) = (0 : Int32))).2) kk) ?_
  show Gl p e below s _ _ _ s₁ (mkF m 4 #[.val (.ref d), .val (.int (0 : Int32)), .val (.int (28 : Int32))] [])
  refine Gl.st (fun _ kk => XS.iloadN X0.here hx rfl (hb hby d30_4) rfl kk) ?_
  show Gl p e below s _ _ _ s₁ (mkF m 5 #[.val (.ref d), .val (.int (0 : Int32)), .val (.int (28 : Int32))] [(.int (28 : Int32))])
  refine Gl.st (fun _ kk => XS.aloadN X0.here hx rfl (hb hby d30_5) rfl rfl kk) ?_
  show Gl p e below s _ _ _ s₁ (mkF m 6 #[.val (.ref d), .val (.int (0 : Int32)), .val (.int (28 : Int32))] [(.ref d), (.int (28 : Int32))])
  obtain ⟨cl1, Ar1, q1, Sz1, Ng1, Ha1, Fi1⟩ := id Arv_d
  refine Gl.st (fun _ kk => X0.arraylength hx (by rw [e0]; exact Ar1.1) (State.isArrayOf_alike hZ.alike Ar1.2.1) (g := (mkF m 6 #[.val (.ref d), .val (.int (0 : Int32)), .val (.int (28 : Int32))] [(.ref d), (.int (28 : Int32))])) rfl rfl (hb hby d30_6) _ kk) ?_
  rw [len_of Sz1 Ng1]
  show Gl p e below s _ _ _ s₁ (mkF m 7 #[.val (.ref d), .val (.int (0 : Int32)), .val (.int (28 : Int32))] [(.int (34 : Int32)), (.int (28 : Int32))])
  refine Gl.st (fun _ kk => XS.icmpNo X0.here hx rfl (hb hby d30_7) rfl (feq (by decide : ¬ ((28 : Int32) = (34 : Int32)))).1 kk) ?_
  show Gl p e below s _ _ _ s₁ (mkF m 10 #[.val (.ref d), .val (.int (0 : Int32)), .val (.int (28 : Int32))] [])
  refine Gl.st (fun _ kk => XS.aloadN X0.here hx rfl (hb hby d30_10) rfl rfl kk) ?_
  show Gl p e below s _ _ _ s₁ (mkF m 11 #[.val (.ref d), .val (.int (0 : Int32)), .val (.int (28 : Int32))] [(.ref d)])
  refine Gl.st (fun _ kk => XS.iloadN X0.here hx rfl (hb hby d30_11) rfl kk) ?_
  show Gl p e below s _ _ _ s₁ (mkF m 12 #[.val (.ref d), .val (.int (0 : Int32)), .val (.int (28 : Int32))] [(.int (0 : Int32)), (.ref d)])
  refine Gl.st (fun _ kk => XS.iloadN X0.here hx rfl (hb hby d30_12) rfl kk) ?_
  show Gl p e below s _ _ _ s₁ (mkF m 13 #[.val (.ref d), .val (.int (0 : Int32)), .val (.int (28 : Int32))] [(.int (28 : Int32)), (.int (0 : Int32)), (.ref d)])
  have lq2_d := Arv_d.lt
  obtain ⟨v2, _, ⟨T2, L2, kQ2, nQ2⟩, -, X2, ⟨Lc2, hQ2, l2, y2, z2⟩, st2⟩ := Jvm.LawKit.callS X0 hx (y := (⟨"java/util/Arrays", "copyOfRangeByte", "([BII)[B"⟩ : MethodName)) hown (mvT hZ (hw _ (List.mem_of_getElem? (i := 170) rfl))) (mvT hZ (hw _ (List.mem_of_getElem? (i := 171) rfl))) (mvT hZ (hw _ (List.mem_of_getElem? (i := 129) rfl))) (mvT hZ (hw _ (List.mem_of_getElem? (i := 172) rfl))) (by decide) (backOf (W := 0) (rmRB l Z a0 hw [] d kd us vd vr h0 n0 O0 Arv_d hr) hZ (hw _ (List.mem_of_getElem? (i := 172) rfl)) (hw _ (List.mem_of_getElem? (i := 129) rfl)) (by decide) (by decide)) (g := (mkF m 13 #[.val (.ref d), .val (.int (0 : Int32)), .val (.int (28 : Int32))] [(.int (28 : Int32)), (.int (0 : Int32)), (.ref d)])) rfl (by rw [hml]; rfl) (argsL := [(.ref d), (.int (0 : Int32)), (.int (28 : Int32))]) (rest := []) (lenOf pd_rmRR_0 rfl) rfl (by show 2 * 0 + _ ≤ _; exact Nat.le_of_eq rfl) (hb hby d30_13) (fun _ _ => ⟨rfl, e0, (by decide : 0 + 1 ≤ _), (by decide : 0 + 28 ≤ _)⟩)
  dsimp only [Pt.U, Pt.locs, Pt.cells, Pt.slots] at X2 l2 y2 z2 st2 hQ2
  subst y2 z2
  obtain ⟨h2, e2⟩ : ∃ z, T2.heap = z := ⟨_, rfl⟩
  rw [e2] at hQ2
  obtain ⟨b2, kb2, rfl, Nq2, Kq2, Arv_b2, frb2⟩ := hQ2
  have N2 : Fr n0 L2 := l2 ▸ Fr.app N0 Nq2
  refine Gl.st st2 ?_
  replace Arv_d := Arv_d.keep Kq2 nin0
  have O2 := O0.keep Kq2 all0
  have K2 := (Keep.refl h0 []).trans Kq2 all0
  have ne_d_b2 : d ≠ b2 := Nat.ne_of_lt (Nat.lt_of_lt_of_le lq2_d frb2)
  have ge_b2 : n0 ≤ b2 := Nat.le_trans (Nat.le_trans (Nat.le_of_eq O0.1.symm) O0.2.1) frb2
  have fr_b2 : h0.size ≤ b2 := frb2
  clear st2
  show Gl p e below s _ _ _ T2 (mkF m 16 #[.val (.ref d), .val (.int (0 : Int32)), .val (.int (28 : Int32))] [(.ref b2)])
  exact Gl.ret X2 (v := (some (.ref b2))) (fun h => by rw [Bd.returns] at h; cases h) (BodyLoose.notSynchronized Bd) (fun hr => retOut X2 hx Bd.returns rfl (Or.inr (Or.inr (Or.inr (Or.inr ⟨rfl, rfl, rfl⟩)))) (hb hby d30_16) hr) e2 ⟨b2, kb2, rfl, N2, K2, Arv_b2, fr_b2⟩ (by decide) (by decide)
theorem d25_0 : decode jdk_42_method_150_code 0 = .ok (.aload_n 0, 1) := by decide +kernel
theorem d25_1 : decode jdk_42_method_150_code 1 = .ok (.invokespecial 1, 3) := by decide +kernel
theorem d25_4 : decode jdk_42_method_150_code 4 = .ok (.aload_n 1, 1) := by decide +kernel
theorem d25_5 : decode jdk_42_method_150_code 5 = .ok (.invokevirtual 552, 3) := by decide +kernel
theorem d25_8 : decode jdk_42_method_150_code 8 = .ok (.astore_n 3, 1) := by decide +kernel
theorem d25_9 : decode jdk_42_method_150_code 9 = .ok (.aload_n 1, 1) := by decide +kernel
theorem d25_10 : decode jdk_42_method_150_code 10 = .ok (.invokevirtual 549, 3) := by decide +kernel
theorem d25_13 : decode jdk_42_method_150_code 13 = .ok (.istore 4, 2) := by decide +kernel
theorem d25_15 : decode jdk_42_method_150_code 15 = .ok (.aload_n 1, 1) := by decide +kernel
theorem d25_16 : decode jdk_42_method_150_code 16 = .ok (.invokevirtual 1047, 3) := by decide +kernel
theorem d25_19 : decode jdk_42_method_150_code 19 = .ok (.ifCond .eq 22, 3) := by decide +kernel
theorem d25_22 : decode jdk_42_method_150_code 22 = .ok (.aload_n 0, 1) := by decide +kernel
theorem d25_23 : decode jdk_42_method_150_code 23 = .ok (.iconst 0, 1) := by decide +kernel
theorem d25_24 : decode jdk_42_method_150_code 24 = .ok (.putfield 15, 3) := by decide +kernel
theorem d25_27 : decode jdk_42_method_150_code 27 = .ok (.aload_n 0, 1) := by decide +kernel
theorem d25_28 : decode jdk_42_method_150_code 28 = .ok (.aload_n 3, 1) := by decide +kernel
theorem d25_29 : decode jdk_42_method_150_code 29 = .ok (.iconst 0, 1) := by decide +kernel
theorem d25_30 : decode jdk_42_method_150_code 30 = .ok (.iload 4, 2) := by decide +kernel
theorem d25_32 : decode jdk_42_method_150_code 32 = .ok (.invokestatic 54, 3) := by decide +kernel
theorem d25_35 : decode jdk_42_method_150_code 35 = .ok (.putfield 9, 3) := by decide +kernel
theorem d25_38 : decode jdk_42_method_150_code 38 = .ok (.goto 59, 3) := by decide +kernel
theorem d25_97 : decode jdk_42_method_150_code 97 = .ok (.return_, 1) := by decide +kernel
theorem pd_rmX2_0 : parseMethodDescriptor "()[B" = some ⟨[], some (.array .byte)⟩ := by decide +kernel
theorem pd_rmX2_1 : parseMethodDescriptor "()I" = some ⟨[], some .int⟩ := by decide +kernel
theorem pd_rmX2_2 : parseMethodDescriptor "()Z" = some ⟨[], some .boolean⟩ := by decide +kernel
theorem pd_rmX2_3 : parseMethodDescriptor "([BII)[B" = some ⟨[(.array .byte), .int, .int], some (.array .byte)⟩ := by decide +kernel
theorem pn_rmX2 : plainName "java/lang/String" = true := by first | (simp [plainName, overriddenIn]; done) | decide +kernel
theorem ef_rmX2 (m : MethodId) (x : Addr) (a1 : Addr) : entryFrame m #[(.ref x), (.ref a1), .null] 5 = mkF m 0 #[.val (.ref x), .val (.ref a1), .val .null, .unset, .unset] [] := by first | (simp [entryFrame, mkF, argsToLocals, Value.category]; done) | rfl
def Q_rmX2 (Z : State) (x : Addr) (a1 : Addr) (d : Addr) (kd : ClassId) (us vd vr : List Value) (cz : Int32) (h0 : Heap) (n0 : Nat) (v : Option Value) (h : Heap) (L : List Loc) : Prop := v = none ∧ Fr n0 L ∧ Keep h0 h [x] ∧ Fld Z h x "java/lang/String" "coder" "B" (.int 0) ∧ ∃ (b : Addr) (kb : ClassId), Fld Z h x "java/lang/String" "value" "[B" (.ref b) ∧ Arv Z h b kb .byte (28 : Int32) vr (.int 0) ∧ h0.size ≤ b
set_option maxRecDepth 65536 in
set_option maxHeartbeats 40000000 in
theorem rmX2 (l : Launch) (Z : State) (a0 : Array Value) (hw : ∀ d ∈ tables_1, d.before a0 Z = true) (ws : List Jvm.Cond) (x : Addr) (a1 : Addr) (d : Addr) (kd : ClassId) (us vd vr : List Value) (cz : Int32) (h0 : Heap) (n0 : Nat) (O0 : Old Z n0 h0) (Exa_x : Exa Z h0 x "java/lang/String") (F_value_x : Fld Z h0 x "java/lang/String" "value" "[B" .null) (F_coder_x : Fld Z h0 x "java/lang/String" "coder" "B" (.int 0)) (g1 : n0 ≤ x) (Exa_a1 : Exa Z h0 a1 "java/lang/StringBuilder") (F_value_a1 : Fld Z h0 a1 "java/lang/AbstractStringBuilder" "value" "[B" (.ref d)) (F_coder_a1 : Fld Z h0 a1 "java/lang/AbstractStringBuilder" "coder" "B" (.int 0)) (F_count_a1 : Fld Z h0 a1 "java/lang/AbstractStringBuilder" "count" "I" (.int (28 : Int32))) (Arv_d : Arv Z h0 d kd .byte (34 : Int32) vd (.int 0)) (hr : own_fits 34 28 28 0 us vd [(.int (0 : Int32)), (.int (0 : Int32)), (.int (0 : Int32)), (.int (0 : Int32)), (.int (0 : Int32)), (.int (0 : Int32)), (.int (0 : Int32)), (.int (0 : Int32)), (.int (0 : Int32)), (.int (0 : Int32)), (.int (0 : Int32)), (.int (0 : Int32)), (.int (0 : Int32)), (.int (0 : Int32)), (.int (0 : Int32)), (.int (0 : Int32)), (.int (0 : Int32)), (.int (0 : Int32)), (.int (0 : Int32)), (.int (0 : Int32)), (.int (0 : Int32)), (.int (0 : Int32)), (.int (0 : Int32)), (.int (0 : Int32)), (.int (0 : Int32)), (.int (0 : Int32)), (.int (0 : Int32)), (.int (0 : Int32))] vr) (nax : a1 ≠ x) (ndx : d ≠ x) (S_COMPACT : Sta Z Z.heap "java/lang/String" "COMPACT_STRINGS" "Z" (.int cz)) (hcz : ¬ cz = 0) :
    MetFree l (⟨"java/lang/String", "<init>", "(Ljava/lang/AbstractStringBuilder;Ljava/lang/Void;)V"⟩ : MethodName) (head1 (Jvm.Cond.code (⟨"java/lang/String", "<init>", "(Ljava/lang/AbstractStringBuilder;Ljava/lang/Void;)V"⟩ : MethodName) jdk_42_method_150_code 5 none :: ws) ({ frames := 3, cells := 1, slots := 28, locals := 49 } : Room)) (fun a U => a = #[(.ref x), (.ref a1), .null] ∧ Z.Warmed39 U.vm ∧ U.heap = h0) (fun _ _ _ _ _ => True) (fun _ U o U' => ∃ v L, o = .returned v ∧ Q_rmX2 Z x a1 d kd us vd vr cz h0 n0 v U'.heap L ∧ FrameEnd U o U' L ({ frames := 3, cells := 1, slots := 28, locals := 49 } : Room).cells ({ frames := 3, cells := 1, slots := 28, locals := 49 } : Room).slots) := by
  refine MetFree.of_bodySF (plainFor_of_name pn_rmX2) hisR ?_
  intro p e s m args below meth c s₁ Bd hml0 hP hK
  obtain ⟨rfl, hZ, hh⟩ := hP
  have hx := Bd.exec
  have hby := Bd.bytes
  have hml : c.maxLocals = 5 := hml0
  have hown : s.vm.findClass "java/lang/String" = some m.cls := findClass_of_methodNamed Bd.named
  have hnm := (name_of_methodNamed Bd.named Bd.method).1
  have X0 : Stand p l e ({ frames := 3, cells := 1, slots := 28, locals := 49 } : Room) s m #[(.ref x), (.ref a1), .null] below meth c s₁ [] 0 0 := Stand.of_body Bd
  have e0 : s₁.heap = h0 := by rw [← hh, Bd.state]; rfl
  have N0 := Fr.nil n0
  refine Gl.start (Q := Q_rmX2 Z x a1 d kd us vd vr cz h0 n0) (ef_rmX2 m x a1) ?_
  show Gl p e below s _ _ _ s₁ (mkF m 0 #[.val (.ref x), .val (.ref a1), .val .null, .unset, .unset] [])
  refine Gl.st (fun _ kk => XS.aloadN X0.here hx rfl (hb hby d25_0) rfl rfl kk) ?_
  show Gl p e below s _ _ _ s₁ (mkF m 1 #[.val (.ref x), .val (.ref a1), .val .null, .unset, .unset] [(.ref x)])
  obtain ⟨T1, X1, e1, st1⟩ := initO X0 hx hZ hown (hw _ (List.mem_of_getElem? (i := 19) rfl)) (hw _ (List.mem_of_getElem? (i := 20) rfl)) (hw _ (List.mem_of_getElem? (i := 21) rfl)) e0 (g := (mkF m 1 #[.val (.ref x), .val (.ref a1), .val .null, .unset, .unset] [(.ref x)])) rfl (by rw [hml]; rfl) rfl (hb hby d25_1) (by decide) (W := 0) (by show 2 * 0 + _ ≤ _; exact Nat.le_of_eq rfl) (by decide)
  refine Gl.st st1 ?_
  show Gl p e below s _ _ _ T1 (mkF m 4 #[.val (.ref x), .val (.ref a1), .val .null, .unset, .unset] [])
  refine Gl.st (fun _ kk => XS.aloadN X1.here hx rfl (hb hby d25_4) rfl rfl kk) ?_
  show Gl p e below s _ _ _ T1 (mkF m 5 #[.val (.ref x), .val (.ref a1), .val .null, .unset, .unset] [(.ref a1)])
  obtain ⟨cq2, kq2, qa2, qb2, qc2⟩ := isOf hZ e1 Exa_a1
  obtain ⟨v2, _, ⟨T2, L2, kQ2, nQ2⟩, -, X2, ⟨Lc2, hQ2, l2, y2, z2⟩, st2⟩ := X1.virtualBack hx (y := (⟨"java/lang/AbstractStringBuilder", "getValue", "()[B"⟩ : MethodName)) (z := (⟨"java/lang/AbstractStringBuilder", "getValue", "()[B"⟩ : MethodName)) hown (mvT hZ (hw _ (List.mem_of_getElem? (i := 149) rfl))) (mvT hZ (hw _ (List.mem_of_getElem? (i := 150) rfl))) (notFace_of_selects (args := #[]) (mvT hZ (hw _ (List.mem_of_getElem? (i := 152) rfl)))) (mvT hZ (hw _ (List.mem_of_getElem? (i := 152) rfl))) (mvT hZ (hw _ (List.mem_of_getElem? (i := 151) rfl))) (by decide) (backOf (W := 0) (rmGV l Z a0 hw [] a1 d h0 n0 O0 Exa_a1 F_value_a1) hZ (hw _ (List.mem_of_getElem? (i := 153) rfl)) (hw _ (List.mem_of_getElem? (i := 53) rfl)) (by decide) (by decide)) qa2 qc2 (g := (mkF m 5 #[.val (.ref x), .val (.ref a1), .val .null, .unset, .unset] [(.ref a1)])) rfl (by rw [hml]; rfl) (Steps.refl _) (argsL := []) (rest := []) (lenOf pd_rmX2_0 rfl) rfl (by show 2 * 0 + _ ≤ _; exact Nat.le_of_eq rfl) (hb hby d25_5) (fun _ _ => ⟨rfl, e1, (by decide : 0 + 0 ≤ _), (by decide : 0 + 0 ≤ _)⟩)
  dsimp only [Pt.U, Pt.locs, Pt.cells, Pt.slots] at X2 l2 y2 z2 st2 hQ2
  subst y2 z2
  obtain ⟨rfl, Nq2, e2⟩ := hQ2
  have N2 : Fr n0 L2 := l2 ▸ Fr.app N0 Nq2
  refine Gl.st (fun _ kk => st2.trans kk) ?_
  clear st2 qc2 qb2 qa2 kq2 cq2
  clear X1 e1
  show Gl p e below s _ _ _ T2 (mkF m 8 #[.val (.ref x), .val (.ref a1), .val .null, .unset, .unset] [(.ref d)])
  refine Gl.st (fun _ kk => XS.astoreN X2.here hx rfl (hb hby d25_8) rfl rfl (l' := #[.val (.ref x), .val (.ref a1), .val .null, .val (.ref d), .unset]) rfl kk) ?_
  show Gl p e below s _ _ _ T2 (mkF m 9 #[.val (.ref x), .val (.ref a1), .val .null, .val (.ref d), .unset] [])
  refine Gl.st (fun _ kk => XS.aloadN X2.here hx rfl (hb hby d25_9) rfl rfl kk) ?_
  show Gl p e below s _ _ _ T2 (mkF m 10 #[.val (.ref x), .val (.ref a1), .val .null, .val (.ref d), .unset] [(.ref a1)])
  obtain ⟨cq3, kq3, qa3, qb3, qc3⟩ := isOf hZ e2 Exa_a1
  obtain ⟨v3, _, ⟨T3, L3, kQ3, nQ3⟩, -, X3, ⟨Lc3, hQ3, l3, y3, z3⟩, st3⟩ := X2.virtualBack hx (y := (⟨"java/lang/AbstractStringBuilder", "length", "()I"⟩ : MethodName)) (z := (⟨"java/lang/StringBuilder", "length", "()I"⟩ : MethodName)) hown (mvT hZ (hw _ (List.mem_of_getElem? (i := 154) rfl))) (mvT hZ (hw _ (List.mem_of_getElem? (i := 155) rfl))) (own_nf (a0 := #[]) (mvT hZ (hw _ (List.mem_of_getElem? (i := 152) rfl))) rfl) (mvT hZ (hw _ (List.mem_of_getElem? (i := 157) rfl))) (mvT hZ (hw _ (List.mem_of_getElem? (i := 158) rfl))) (by decide) (backOf (W := 0) (rmSL l Z a0 hw [] a1 (28 : Int32) h0 n0 O0 Exa_a1 F_count_a1) hZ (hw _ (List.mem_of_getElem? (i := 159) rfl)) (hw _ (List.mem_of_getElem? (i := 45) rfl)) (by decide) (by decide)) qa3 qc3 (g := (mkF m 10 #[.val (.ref x), .val (.ref a1), .val .null, .val (.ref d), .unset] [(.ref a1)])) rfl (by rw [hml]; rfl) (Steps.refl _) (argsL := []) (rest := []) (lenOf pd_rmX2_1 rfl) rfl (by show 2 * 0 + _ ≤ _; exact Nat.le_of_eq rfl) (hb hby d25_10) (fun _ _ => ⟨rfl, e2, (by decide : 0 + 0 ≤ _), (by decide : 0 + 0 ≤ _)⟩)
  dsimp only [Pt.U, Pt.locs, Pt.cells, Pt.slots] at X3 l3 y3 z3 st3 hQ3
  subst y3 z3
  obtain ⟨rfl, Nq3, e3⟩ := hQ3
  have N3 : Fr n0 L3 := l3 ▸ Fr.app N2 Nq3
  refine Gl.st (fun _ kk => st3.trans kk) ?_
  clear st3 qc3 qb3 qa3 kq3 cq3
  clear N2 X2 e2
  show Gl p e below s _ _ _ T3 (mkF m 13 #[.val (.ref x), .val (.ref a1), .val .null, .val (.ref d), .unset] [(.int (28 : Int32))])
  refine Gl.st (fun _ kk => XS.istore X3.here hx rfl (hb hby d25_13) rfl (l' := #[.val (.ref x), .val (.ref a1), .val .null, .val (.ref d), .val (.int (28 : Int32))]) rfl kk) ?_
  show Gl p e below s _ _ _ T3 (mkF m 15 #[.val (.ref x), .val (.ref a1), .val .null, .val (.ref d), .val (.int (28 : Int32))] [])
  refine Gl.st (fun _ kk => XS.aloadN X3.here hx rfl (hb hby d25_15) rfl rfl kk) ?_
  show Gl p e below s _ _ _ T3 (mkF m 16 #[.val (.ref x), .val (.ref a1), .val .null, .val (.ref d), .val (.int (28 : Int32))] [(.ref a1)])
  obtain ⟨cq4, kq4, qa4, qb4, qc4⟩ := isOf hZ e3 Exa_a1
  obtain ⟨v4, _, ⟨T4, L4, kQ4, nQ4⟩, -, X4, ⟨Lc4, hQ4, l4, y4, z4⟩, st4⟩ := X3.virtualBack hx (y := (⟨"java/lang/AbstractStringBuilder", "isLatin1", "()Z"⟩ : MethodName)) (z := (⟨"java/lang/AbstractStringBuilder", "isLatin1", "()Z"⟩ : MethodName)) hown (mvT hZ (hw _ (List.mem_of_getElem? (i := 162) rfl))) (mvT hZ (hw _ (List.mem_of_getElem? (i := 163) rfl))) (notFace_of_selects (args := #[]) (mvT hZ (hw _ (List.mem_of_getElem? (i := 165) rfl)))) (mvT hZ (hw _ (List.mem_of_getElem? (i := 165) rfl))) (mvT hZ (hw _ (List.mem_of_getElem? (i := 164) rfl))) (by decide) (backOf (W := 0) (rmLI l Z a0 hw [] a1 cz h0 n0 O0 Exa_a1 F_coder_a1 S_COMPACT hcz) hZ (hw _ (List.mem_of_getElem? (i := 166) rfl)) (hw _ (List.mem_of_getElem? (i := 53) rfl)) (by decide) (by decide)) qa4 qc4 (g := (mkF m 16 #[.val (.ref x), .val (.ref a1), .val .null, .val (.ref d), .val (.int (28 : Int32))] [(.ref a1)])) rfl (by rw [hml]; rfl) (Steps.refl _) (argsL := []) (rest := []) (lenOf pd_rmX2_2 rfl) rfl (by show 2 * 0 + _ ≤ _; exact Nat.le_of_eq rfl) (hb hby d25_16) (fun _ _ => ⟨rfl, e3, (by decide : 0 + 0 ≤ _), (by decide : 0 + 0 ≤ _)⟩)
  dsimp only [Pt.U, Pt.locs, Pt.cells, Pt.slots] at X4 l4 y4 z4 st4 hQ4
  subst y4 z4
  obtain ⟨rfl, Nq4, e4⟩ := hQ4
  have N4 : Fr n0 L4 := l4 ▸ Fr.app N3 Nq4
  refine Gl.st (fun _ kk => st4.trans kk) ?_
  clear st4 qc4 qb4 qa4 kq4 cq4
  clear N3 X3 e3
  show Gl p e below s _ _ _ T4 (mkF m 19 #[.val (.ref x), .val (.ref a1), .val .null, .val (.ref d), .val (.int (28 : Int32))] [(.int (1 : Int32))])
  refine Gl.st (fun _ kk => XS.ifNo X4.here hx rfl (hb hby d25_19) rfl ((if0 _ _).trans (feq (by decide : ¬ ((1 : Int32) = (0 : Int32)))).1) kk) ?_
  show Gl p e below s _ _ _ T4 (mkF m 22 #[.val (.ref x), .val (.ref a1), .val .null, .val (.ref d), .val (.int (28 : Int32))] [])
  refine Gl.st (fun _ kk => XS.aloadN X4.here hx rfl (hb hby d25_22) rfl rfl kk) ?_
  show Gl p e below s _ _ _ T4 (mkF m 23 #[.val (.ref x), .val (.ref a1), .val .null, .val (.ref d), .val (.int (28 : Int32))] [(.ref x)])
  refine Gl.st (fun _ kk => XS.iconst X4.here hx rfl (hb hby d25_23) kk) ?_
  show Gl p e below s _ _ _ T4 (mkF m 24 #[.val (.ref x), .val (.ref a1), .val .null, .val (.ref d), .val (.int (28 : Int32))] [(.int (0 : Int32)), (.ref x)])
  obtain ⟨T5, h5, X5, e5, W5, st5⟩ := putFN X4 hx hZ hown (hw _ (List.mem_of_getElem? (i := 24) rfl)) Via.refl e4 F_coder_x Exa_x (Or.inr ⟨(hw _ (List.mem_of_getElem? (i := 25) rfl)), rfl, hnm⟩) (hw _ (List.mem_of_getElem? (i := 10) rfl)) (ty := .byte) (v' := (.int (0 : Int32))) (by decide) rfl rfl (g := (mkF m 24 #[.val (.ref x), .val (.ref a1), .val .null, .val (.ref d), .val (.int (28 : Int32))] [(.int (0 : Int32)), (.ref x)])) rfl rfl (hb hby d25_24)
  refine Gl.st st5 ?_
  have F_coder_x := F_coder_x.same W5
  replace Exa_x := Exa_x.wr W5
  replace F_value_x := F_value_x.other W5 (Or.inr (slot_ne (Or.inr (hw _ (List.mem_of_getElem? (i := 23) rfl))) (Or.inr (hw _ (List.mem_of_getElem? (i := 25) rfl))) (by decide) (t := (.array .byte)) (t' := .byte) (by decide) (by decide)))
  replace Exa_a1 := Exa_a1.wr W5
  replace F_value_a1 := F_value_a1.other W5 (Or.inl nax)
  replace F_coder_a1 := F_coder_a1.other W5 (Or.inl nax)
  replace F_count_a1 := F_count_a1.other W5 (Or.inl nax)
  replace Arv_d := Arv_d.other W5 ndx
  have O5 := O0.wr W5 g1
  have K5 := (Keep.refl h0 [x]).wr W5 (Or.inl (List.mem_of_getElem? (i := 0) rfl))
  have N5 := Fr.snoc X5 N4 g1
  show Gl p e below s _ _ _ T5 (mkF m 27 #[.val (.ref x), .val (.ref a1), .val .null, .val (.ref d), .val (.int (28 : Int32))] [])
  refine Gl.st (fun _ kk => XS.aloadN X5.here hx rfl (hb hby d25_27) rfl rfl kk) ?_
  show Gl p e below s _ _ _ T5 (mkF m 28 #[.val (.ref x), .val (.ref a1), .val .null, .val (.ref d), .val (.int (28 : Int32))] [(.ref x)])
  refine Gl.st (fun _ kk => XS.aloadN X5.here hx rfl (hb hby d25_28) rfl rfl kk) ?_
  show Gl p e below s _ _ _ T5 (mkF m 29 #[.val (.ref x), .val (.ref a1), .val .null, .val (.ref d), .val (.int (28 : Int32))] [(.ref d), (.ref x)])
  refine Gl.st (fun _ kk => XS.iconst X5.here hx rfl (hb hby d25_29) kk) ?_
  show Gl p e below s _ _ _ T5 (mkF m 30 #[.val (.ref x), .val (.ref a1), .val .null, .val (.ref d), .val (.int (28 : Int32))] [(.int (0 : Int32)), (.ref d), (.ref x)])
  refine Gl.st (fun _ kk => XS.iload X5.here hx rfl (hb hby d25_30) rfl kk) ?_
  show Gl p e below s _ _ _ T5 (mkF m 32 #[.val (.ref x), .val (.ref a1), .val .null, .val (.ref d), .val (.int (28 : Int32))] [(.int (28 : Int32)), (.int (0 : Int32)), (.ref d), (.ref x)])
  have lq6_a1 := Exa_a1.lt
  have lq6_d := Arv_d.lt
  have lq6_x := Exa_x.lt
  obtain ⟨v6, _, ⟨T6, L6, kQ6, nQ6⟩, -, X6, ⟨Lc6, hQ6, l6, y6, z6⟩, st6⟩ := Jvm.LawKit.callS X5 hx (y := (⟨"java/util/Arrays", "copyOfRange", "([BII)[B"⟩ : MethodName)) hown (mvT hZ (hw _ (List.mem_of_getElem? (i := 167) rfl))) (mvT hZ (hw _ (List.mem_of_getElem? (i := 168) rfl))) (mvT hZ (hw _ (List.mem_of_getElem? (i := 129) rfl))) (mvT hZ (hw _ (List.mem_of_getElem? (i := 169) rfl))) (by decide) (backOf (W := 1) (rmRR l Z a0 hw [] d kd us vd vr h5 n0 O5 Arv_d hr) hZ (hw _ (List.mem_of_getElem? (i := 169) rfl)) (hw _ (List.mem_of_getElem? (i := 129) rfl)) (by decide) (by decide)) (g := (mkF m 32 #[.val (.ref x), .val (.ref a1), .val .null, .val (.ref d), .val (.int (28 : Int32))] [(.int (28 : Int32)), (.int (0 : Int32)), (.ref d), (.ref x)])) rfl (by rw [hml]; rfl) (argsL := [(.ref d), (.int (0 : Int32)), (.int (28 : Int32))]) (rest := [(.ref x)]) (lenOf pd_rmX2_3 rfl) rfl (by show 2 * 0 + _ ≤ _; exact Nat.le_of_eq rfl) (hb hby d25_32) (fun _ _ => ⟨rfl, e5, (by decide : 0 + 1 ≤ _), (by decide : 0 + 28 ≤ _)⟩)
  dsimp only [Pt.U, Pt.locs, Pt.cells, Pt.slots] at X6 l6 y6 z6 st6 hQ6
  subst y6 z6
  obtain ⟨h6, e6⟩ : ∃ z, T6.heap = z := ⟨_, rfl⟩
  rw [e6] at hQ6
  obtain ⟨b6, kb6, rfl, Nq6, Kq6, Arv_b6, frb6⟩ := hQ6
  have N6 : Fr n0 L6 := l6 ▸ Fr.app N5 Nq6
  refine Gl.st st6 ?_
  replace Exa_x := Exa_x.keep Kq6
  replace F_value_x := F_value_x.keep Kq6 nin0
  replace F_coder_x := F_coder_x.keep Kq6 nin0
  replace Exa_a1 := Exa_a1.keep Kq6
  replace F_value_a1 := F_value_a1.keep Kq6 nin0
  replace F_coder_a1 := F_coder_a1.keep Kq6 nin0
  replace F_count_a1 := F_count_a1.keep Kq6 nin0
  replace Arv_d := Arv_d.keep Kq6 nin0
  have O6 := O5.keep Kq6 all0
  have K6 := K5.trans Kq6 all0
  have ne_a1_b6 : a1 ≠ b6 := Nat.ne_of_lt (Nat.lt_of_lt_of_le lq6_a1 frb6)
  have ne_d_b6 : d ≠ b6 := Nat.ne_of_lt (Nat.lt_of_lt_of_le lq6_d frb6)
  have ne_x_b6 : x ≠ b6 := Nat.ne_of_lt (Nat.lt_of_lt_of_le lq6_x frb6)
  have ge_b6 : n0 ≤ b6 := Nat.le_trans (Nat.le_trans (Nat.le_of_eq O5.1.symm) O5.2.1) frb6
  have fr_b6 : h0.size ≤ b6 := Nat.le_trans K5.1 frb6
  clear st6
  clear O5 K5 N5 X5 e5
  show Gl p e below s _ _ _ T6 (mkF m 35 #[.val (.ref x), .val (.ref a1), .val .null, .val (.ref d), .val (.int (28 : Int32))] [(.ref b6), (.ref x)])
  obtain ⟨T7, h7, X7, e7, W7, st7⟩ := putF X6 hx hZ hown (host := "") (Or.inl (hw _ (List.mem_of_getElem? (i := 22) rfl))) Via.refl e6 F_value_x Exa_x (Or.inr ⟨(hw _ (List.mem_of_getElem? (i := 23) rfl)), rfl, hnm⟩) (hw _ (List.mem_of_getElem? (i := 10) rfl)) (ty := (.array .byte)) (by decide) rfl rfl (g := (mkF m 35 #[.val (.ref x), .val (.ref a1), .val .null, .val (.ref d), .val (.int (28 : Int32))] [(.ref b6), (.ref x)])) rfl rfl (hb hby d25_35)
  refine Gl.st st7 ?_
  have F_value_x := F_value_x.same W7
  replace Exa_x := Exa_x.wr W7
  replace F_coder_x := F_coder_x.other W7 (Or.inr (slot_ne (Or.inr (hw _ (List.mem_of_getElem? (i := 25) rfl))) (Or.inr (hw _ (List.mem_of_getElem? (i := 23) rfl))) (by decide) (t := .byte) (t' := (.array .byte)) (by decide) (by decide)))
  replace Exa_a1 := Exa_a1.wr W7
  replace F_value_a1 := F_value_a1.other W7 (Or.inl nax)
  replace F_coder_a1 := F_coder_a1.other W7 (Or.inl nax)
  replace F_count_a1 := F_count_a1.other W7 (Or.inl nax)
  replace Arv_d := Arv_d.other W7 ndx
  replace Arv_b6 := Arv_b6.other W7 (Ne.symm ne_x_b6)
  have O7 := O6.wr W7 g1
  have K7 := K6.wr W7 (Or.inl (List.mem_of_getElem? (i := 0) rfl))
  have N7 := Fr.snoc X7 N6 g1
  show Gl p e below s _ _ _ T7 (mkF m 38 #[.val (.ref x), .val (.ref a1), .val .null, .val (.ref d), .val (.int (28 : Int32))] [])
  refine Gl.st (fun _ kk => XS.goto X7.here hx rfl (pc0 := 38) (pc' := 97) rfl (hb hby d25_38) (by decide) (by decide) kk) ?_
  show Gl p e below s _ _ _ T7 (mkF m 97 #[.val (.ref x), .val (.ref a1), .val .null, .val (.ref d), .val (.int (28 : Int32))] [])
  exact Gl.ret X7 (v := none) (fun _ => rfl) (BodyLoose.notSynchronized Bd) (fun hr => X7.returnOut hx Bd.returns (hb hby d25_97) hr) e7 ⟨rfl, N7, K7, F_coder_x, b6, kb6, F_value_x, Arv_b6, fr_b6⟩ (by decide) (by decide)
theorem d24_0 : decode jdk_42_method_53_code 0 = .ok (.aload_n 0, 1) := by decide +kernel
theorem d24_1 : decode jdk_42_method_53_code 1 = .ok (.aload_n 1, 1) := by decide +kernel
theorem d24_2 : decode jdk_42_method_53_code 2 = .ok (.aconst_null, 1) := by decide +kernel
theorem d24_3 : decode jdk_42_method_53_code 3 = .ok (.invokespecial 489, 3) := by decide +kernel
theorem d24_6 : decode jdk_42_method_53_code 6 = .ok (.return_, 1) := by decide +kernel
theorem pd_rmX1_0 : parseMethodDescriptor "(Ljava/lang/AbstractStringBuilder;Ljava/lang/Void;)V" = some ⟨[(.object "java/lang/AbstractStringBuilder"), (.object "java/lang/Void")], none⟩ := by decide +kernel
theorem pn_rmX1 : plainName "java/lang/String" = true := by first | (simp [plainName, overriddenIn]; done) | decide +kernel
theorem ef_rmX1 (m : MethodId) (x : Addr) (a1 : Addr) : entryFrame m #[(.ref x), (.ref a1)] 2 = mkF m 0 #[.val (.ref x), .val (.ref a1)] [] := by first | (simp [entryFrame, mkF, argsToLocals, Value.category]; done) | rfl
def Q_rmX1 (Z : State) (x : Addr) (a1 : Addr) (d : Addr) (kd : ClassId) (us vd vr : List Value) (cz : Int32) (h0 : Heap) (n0 : Nat) (v : Option Value) (h : Heap) (L : List Loc) : Prop := v = none ∧ Fr n0 L ∧ Keep h0 h [x] ∧ Fld Z h x "java/lang/String" "coder" "B" (.int 0) ∧ ∃ (b : Addr) (kb : ClassId), Fld Z h x "java/lang/String" "value" "[B" (.ref b) ∧ Arv Z h b kb .byte (28 : Int32) vr (.int 0) ∧ h0.size ≤ b
set_option maxRecDepth 65536 in
set_option maxHeartbeats 40000000 in
theorem rmX1 (l : Launch) (Z : State) (a0 : Array Value) (hw : ∀ d ∈ tables_1, d.before a0 Z = true) (ws : List Jvm.Cond) (x : Addr) (a1 : Addr) (d : Addr) (kd : ClassId) (us vd vr : List Value) (cz : Int32) (h0 : Heap) (n0 : Nat) (O0 : Old Z n0 h0) (Exa_x : Exa Z h0 x "java/lang/String") (F_value_x : Fld Z h0 x "java/lang/String" "value" "[B" .null) (F_coder_x : Fld Z h0 x "java/lang/String" "coder" "B" (.int 0)) (g1 : n0 ≤ x) (Exa_a1 : Exa Z h0 a1 "java/lang/StringBuilder") (F_value_a1 : Fld Z h0 a1 "java/lang/AbstractStringBuilder" "value" "[B" (.ref d)) (F_coder_a1 : Fld Z h0 a1 "java/lang/AbstractStringBuilder" "coder" "B" (.int 0)) (F_count_a1 : Fld Z h0 a1 "java/lang/AbstractStringBuilder" "count" "I" (.int (28 : Int32))) (Arv_d : Arv Z h0 d kd .byte (34 : Int32) vd (.int 0)) (hr : own_fits 34 28 28 0 us vd [(.int (0 : Int32)), (.int (0 : Int32)), (.int (0 : Int32)), (.int (0 : Int32)), (.int (0 : Int32)), (.int (0 : Int32)), (.int (0 : Int32)), (.int (0 : Int32)), (.int (0 : Int32)), (.int (0 : Int32)), (.int (0 : Int32)), (.int (0 : Int32)), (.int (0 : Int32)), (.int (0 : Int32)), (.int (0 : Int32)), (.int (0 : Int32)), (.int (0 : Int32)), (.int (0 : Int32)), (.int (0 : Int32)), (.int (0 : Int32)), (.int (0 : Int32)), (.int (0 : Int32)), (.int (0 : Int32)), (.int (0 : Int32)), (.int (0 : Int32)), (.int (0 : Int32)), (.int (0 : Int32)), (.int (0 : Int32))] vr) (nax : a1 ≠ x) (ndx : d ≠ x) (S_COMPACT : Sta Z Z.heap "java/lang/String" "COMPACT_STRINGS" "Z" (.int cz)) (hcz : ¬ cz = 0) :
    MetFree l (⟨"java/lang/String", "<init>", "(Ljava/lang/StringBuilder;)V"⟩ : MethodName) (head1 (Jvm.Cond.code (⟨"java/lang/String", "<init>", "(Ljava/lang/StringBuilder;)V"⟩ : MethodName) jdk_42_method_53_code 2 none :: ws) ({ frames := 4, cells := 1, slots := 28, locals := 65 } : Room)) (fun a U => a = #[(.ref x), (.ref a1)] ∧ Z.Warmed39 U.vm ∧ U.heap = h0) (fun _ _ _ _ _ => True) (fun _ U o U' => ∃ v L, o = .returned v ∧ Q_rmX1 Z x a1 d kd us vd vr cz h0 n0 v U'.heap L ∧ FrameEnd U o U' L ({ frames := 4, cells := 1, slots := 28, locals := 65 } : Room).cells ({ frames := 4, cells := 1, slots := 28, locals := 65 } : Room).slots) := by
  refine MetFree.of_bodySF (plainFor_of_name pn_rmX1) hisR ?_
  intro p e s m args below meth c s₁ Bd hml0 hP hK
  obtain ⟨rfl, hZ, hh⟩ := hP
  have hx := Bd.exec
  have hby := Bd.bytes
  have hml : c.maxLocals = 2 := hml0
  have hown : s.vm.findClass "java/lang/String" = some m.cls := findClass_of_methodNamed Bd.named
  have hnm := (name_of_methodNamed Bd.named Bd.method).1
  have X0 : Stand p l e ({ frames := 4, cells := 1, slots := 28, locals := 65 } : Room) s m #[(.ref x), (.ref a1)] below meth c s₁ [] 0 0 := Stand.of_body Bd
  have e0 : s₁.heap = h0 := by rw [← hh, Bd.state]; rfl
  have N0 := Fr.nil n0
  refine Gl.start (Q := Q_rmX1 Z x a1 d kd us vd vr cz h0 n0) (ef_rmX1 m x a1) ?_
  show Gl p e below s _ _ _ s₁ (mkF m 0 #[.val (.ref x), .val (.ref a1)] [])
  refine Gl.st (fun _ kk => XS.aloadN X0.here hx rfl (hb hby d24_0) rfl rfl kk) ?_
  show Gl p e below s _ _ _ s₁ (mkF m 1 #[.val (.ref x), .val (.ref a1)] [(.ref x)])
  refine Gl.st (fun _ kk => XS.aloadN X0.here hx rfl (hb hby d24_1) rfl rfl kk) ?_
  show Gl p e below s _ _ _ s₁ (mkF m 2 #[.val (.ref x), .val (.ref a1)] [(.ref a1), (.ref x)])
  refine Gl.st (fun _ kk => XS.aconstNull X0.here hx rfl (hb hby d24_2) kk) ?_
  show Gl p e below s _ _ _ s₁ (mkF m 3 #[.val (.ref x), .val (.ref a1)] [.null, (.ref a1), (.ref x)])
  have lq1_a1 := Exa_a1.lt
  have lq1_d := Arv_d.lt
  have lq1_x := Exa_x.lt
  obtain ⟨v1, _, ⟨T1, L1, kQ1, nQ1⟩, -, X1, ⟨Lc1, hQ1, l1, y1, z1⟩, st1⟩ := X0.specialBack hx (y := (⟨"java/lang/String", "<init>", "(Ljava/lang/AbstractStringBuilder;Ljava/lang/Void;)V"⟩ : MethodName)) rfl hown (mvT hZ (hw _ (List.mem_of_getElem? (i := 146) rfl))) (mvT hZ (hw _ (List.mem_of_getElem? (i := 147) rfl))) (mvT hZ (hw _ (List.mem_of_getElem? (i := 148) rfl))) (by decide) (backOf (W := 0) (rmX2 l Z a0 hw [] x a1 d kd us vd vr cz h0 n0 O0 Exa_x F_value_x F_coder_x g1 Exa_a1 F_value_a1 F_coder_a1 F_count_a1 Arv_d hr nax ndx S_COMPACT hcz) hZ (hw _ (List.mem_of_getElem? (i := 148) rfl)) (hw _ (List.mem_of_getElem? (i := 2) rfl)) (by decide) (by decide)) (g := (mkF m 3 #[.val (.ref x), .val (.ref a1)] [.null, (.ref a1), (.ref x)])) rfl (by rw [hml]; rfl) (Steps.refl _) (a := x) (argsL := [(.ref a1), .null]) (rest := []) (lenOf pd_rmX1_0 rfl) rfl (by show 2 * 0 + _ ≤ _; exact Nat.le_of_eq rfl) (hb hby d24_3) (fun _ _ => ⟨rfl, e0, (by decide : 0 + 1 ≤ _), (by decide : 0 + 28 ≤ _)⟩)
  dsimp only [Pt.U, Pt.locs, Pt.cells, Pt.slots] at X1 l1 y1 z1 st1 hQ1
  subst y1 z1
  obtain ⟨h1, e1⟩ : ∃ z, T1.heap = z := ⟨_, rfl⟩
  rw [e1] at hQ1
  obtain ⟨rfl, Nq1, Kq1, Fc1, b1, kb1, Fv1, Arv_b1, frb1⟩ := hQ1
  have N1 : Fr n0 L1 := l1 ▸ Fr.app N0 Nq1
  refine Gl.st (fun _ kk => st1.trans kk) ?_
  replace Exa_x := Exa_x.keep Kq1
  replace Exa_a1 := Exa_a1.keep Kq1
  replace F_value_a1 := F_value_a1.keep Kq1 (ninS nax nin0)
  replace F_coder_a1 := F_coder_a1.keep Kq1 (ninS nax nin0)
  replace F_count_a1 := F_count_a1.keep Kq1 (ninS nax nin0)
  replace Arv_d := Arv_d.keep Kq1 (ninS ndx nin0)
  have O1 := O0.keep Kq1 (allS g1 all0)
  have K1 := (Keep.refl h0 [x]).trans Kq1 (allS (Or.inl (List.mem_of_getElem? (i := 0) rfl)) all0)
  have ne_a1_b1 : a1 ≠ b1 := Nat.ne_of_lt (Nat.lt_of_lt_of_le lq1_a1 frb1)
  have ne_d_b1 : d ≠ b1 := Nat.ne_of_lt (Nat.lt_of_lt_of_le lq1_d frb1)
  have ne_x_b1 : x ≠ b1 := Nat.ne_of_lt (Nat.lt_of_lt_of_le lq1_x frb1)
  have ge_b1 : n0 ≤ b1 := Nat.le_trans (Nat.le_trans (Nat.le_of_eq O0.1.symm) O0.2.1) frb1
  have fr_b1 : h0.size ≤ b1 := frb1
  have F_value_x := Fv1
  have F_coder_x := Fc1
  clear st1
  show Gl p e below s _ _ _ T1 (mkF m 6 #[.val (.ref x), .val (.ref a1)] [])
  exact Gl.ret X1 (v := none) (fun _ => rfl) (BodyLoose.notSynchronized Bd) (fun hr => X1.returnOut hx Bd.returns (hb hby d24_6) hr) e1 ⟨rfl, N1, K1, F_coder_x, b1, kb1, F_value_x, Arv_b1, fr_b1⟩ (by decide) (by decide)
theorem d23_0 : decode jdk_67_method_42_code 0 = .ok (.new 18, 3) := by decide +kernel
theorem d23_3 : decode jdk_67_method_42_code 3 = .ok (.dup, 1) := by decide +kernel
theorem d23_4 : decode jdk_67_method_42_code 4 = .ok (.aload_n 0, 1) := by decide +kernel
theorem d23_5 : decode jdk_67_method_42_code 5 = .ok (.invokespecial 137, 3) := by decide +kernel
theorem d23_8 : decode jdk_67_method_42_code 8 = .ok (.areturn, 1) := by decide +kernel
theorem pd_rmTS_0 : parseMethodDescriptor "(Ljava/lang/StringBuilder;)V" = some ⟨[(.object "java/lang/StringBuilder")], none⟩ := by decide +kernel
theorem pn_rmTS : plainName "java/lang/StringBuilder" = true := by first | (simp [plainName, overriddenIn]; done) | decide +kernel
theorem ef_rmTS (m : MethodId) (a1 : Addr) : entryFrame m #[(.ref a1)] 1 = mkF m 0 #[.val (.ref a1)] [] := by first | (simp [entryFrame, mkF, argsToLocals, Value.category]; done) | rfl
def Q_rmTS (Z : State) (a1 : Addr) (d : Addr) (kd : ClassId) (us vd vr : List Value) (cz : Int32) (h0 : Heap) (n0 : Nat) (v : Option Value) (h : Heap) (L : List Loc) : Prop := ∃ (r t2 : Addr) (k2 : ClassId), v = some (.ref r) ∧ Fr n0 L ∧ Keep h0 h [] ∧ Exa Z h r "java/lang/String" ∧ Fld Z h r "java/lang/String" "value" "[B" (.ref t2) ∧ Fld Z h r "java/lang/String" "coder" "B" (.int 0) ∧ Arv Z h t2 k2 .byte (28 : Int32) vr (.int 0)
set_option maxRecDepth 65536 in
set_option maxHeartbeats 40000000 in
theorem rmTS (l : Launch) (Z : State) (a0 : Array Value) (hw : ∀ d ∈ tables_1, d.before a0 Z = true) (ws : List Jvm.Cond) (a1 : Addr) (d : Addr) (kd : ClassId) (us vd vr : List Value) (cz : Int32) (h0 : Heap) (n0 : Nat) (O0 : Old Z n0 h0) (Exa_a1 : Exa Z h0 a1 "java/lang/StringBuilder") (F_value_a1 : Fld Z h0 a1 "java/lang/AbstractStringBuilder" "value" "[B" (.ref d)) (F_coder_a1 : Fld Z h0 a1 "java/lang/AbstractStringBuilder" "coder" "B" (.int 0)) (F_count_a1 : Fld Z h0 a1 "java/lang/AbstractStringBuilder" "count" "I" (.int (28 : Int32))) (Arv_d : Arv Z h0 d kd .byte (34 : Int32) vd (.int 0)) (hr : own_fits 34 28 28 0 us vd [(.int (0 : Int32)), (.int (0 : Int32)), (.int (0 : Int32)), (.int (0 : Int32)), (.int (0 : Int32)), (.int (0 : Int32)), (.int (0 : Int32)), (.int (0 : Int32)), (.int (0 : Int32)), (.int (0 : Int32)), (.int (0 : Int32)), (.int (0 : Int32)), (.int (0 : Int32)), (.int (0 : Int32)), (.int (0 : Int32)), (.int (0 : Int32)), (.int (0 : Int32)), (.int (0 : Int32)), (.int (0 : Int32)), (.int (0 : Int32)), (.int (0 : Int32)), (.int (0 : Int32)), (.int (0 : Int32)), (.int (0 : Int32)), (.int (0 : Int32)), (.int (0 : Int32)), (.int (0 : Int32)), (.int (0 : Int32))] vr) (S_COMPACT : Sta Z Z.heap "java/lang/String" "COMPACT_STRINGS" "Z" (.int cz)) (hcz : ¬ cz = 0) :
    MetFree l (⟨"java/lang/StringBuilder", "toString", "()Ljava/lang/String;"⟩ : MethodName) (head1 (Jvm.Cond.code (⟨"java/lang/StringBuilder", "toString", "()Ljava/lang/String;"⟩ : MethodName) jdk_67_method_42_code 1 (some (.object "java/lang/String")) :: ws) ({ frames := 5, cells := 2, slots := 32, locals := 79 } : Room)) (fun a U => a = #[(.ref a1)] ∧ Z.Warmed39 U.vm ∧ U.heap = h0) (fun _ _ _ _ _ => True) (fun _ U o U' => ∃ v L, o = .returned v ∧ Q_rmTS Z a1 d kd us vd vr cz h0 n0 v U'.heap L ∧ FrameEnd U o U' L ({ frames := 5, cells := 2, slots := 32, locals := 79 } : Room).cells ({ frames := 5, cells := 2, slots := 32, locals := 79 } : Room).slots) := by
  refine MetFree.of_bodySF (plainFor_of_name pn_rmTS) hisR ?_
  intro p e s m args below meth c s₁ Bd hml0 hP hK
  obtain ⟨rfl, hZ, hh⟩ := hP
  have hx := Bd.exec
  have hby := Bd.bytes
  have hml : c.maxLocals = 1 := hml0
  have hown : s.vm.findClass "java/lang/StringBuilder" = some m.cls := findClass_of_methodNamed Bd.named
  have hnm := (name_of_methodNamed Bd.named Bd.method).1
  have X0 : Stand p l e ({ frames := 5, cells := 2, slots := 32, locals := 79 } : Room) s m #[(.ref a1)] below meth c s₁ [] 0 0 := Stand.of_body Bd
  have e0 : s₁.heap = h0 := by rw [← hh, Bd.state]; rfl
  have N0 := Fr.nil n0
  refine Gl.start (Q := Q_rmTS Z a1 d kd us vd vr cz h0 n0) (ef_rmTS m a1) ?_
  show Gl p e below s _ _ _ s₁ (mkF m 0 #[.val (.ref a1)] [])
  obtain ⟨T1, h1, X1, e1, E1, A1, D1, V1, st1⟩ := newO X0 hx hZ hown (hw _ (List.mem_of_getElem? (i := 142) rfl)) (hw _ (List.mem_of_getElem? (i := 10) rfl)) (hw _ (List.mem_of_getElem? (i := 2) rfl)) e0 (g := (mkF m 0 #[.val (.ref a1)] [])) rfl (hb hby d23_0) (by decide) (by decide)
  obtain ⟨b1, g1⟩ : ∃ z, z = h0.size := ⟨_, rfl⟩
  rw [← g1] at A1 D1 V1 st1
  refine Gl.st st1 ?_
  have ne_a1_b1 : a1 ≠ b1 := Nat.ne_of_lt (Nat.lt_of_lt_of_eq Exa_a1.lt g1.symm)
  have ne_d_b1 : d ≠ b1 := Nat.ne_of_lt (Nat.lt_of_lt_of_eq Arv_d.lt g1.symm)
  have ge_b1 : n0 ≤ b1 := Nat.le_trans (Nat.le_trans (Nat.le_of_eq O0.1.symm) O0.2.1) (Nat.le_of_eq g1.symm)
  have fr_b1 : h0.size ≤ b1 := Nat.le_trans (Nat.le_refl _) (Nat.le_of_eq g1.symm)
  replace Exa_a1 := Exa_a1.ext E1
  replace F_value_a1 := F_value_a1.ext E1
  replace F_coder_a1 := F_coder_a1.ext E1
  replace F_count_a1 := F_count_a1.ext E1
  replace Arv_d := Arv_d.ext E1
  have O1 := O0.ext E1
  have K1 := (Keep.refl h0 []).ext E1
  have Exa_b1 := A1
  have F_value_b1 : Fld Z h1 b1 "java/lang/String" "value" "[B" .null := D1 (Or.inr (hw _ (List.mem_of_getElem? (i := 23) rfl))) (ty := (.array .byte)) (by decide)
  have F_coder_b1 : Fld Z h1 b1 "java/lang/String" "coder" "B" (.int (0 : Int32)) := D1 (Or.inr (hw _ (List.mem_of_getElem? (i := 25) rfl))) (ty := .byte) (by decide)
  show Gl p e below s _ _ _ T1 (mkF m 3 #[.val (.ref a1)] [(.ref b1)])
  refine Gl.st (fun _ kk => XS.dup X1.here hx rfl (hb hby d23_3) rfl rfl kk) ?_
  show Gl p e below s _ _ _ T1 (mkF m 4 #[.val (.ref a1)] [(.ref b1), (.ref b1)])
  refine Gl.st (fun _ kk => XS.aloadN X1.here hx rfl (hb hby d23_4) rfl rfl kk) ?_
  show Gl p e below s _ _ _ T1 (mkF m 5 #[.val (.ref a1)] [(.ref a1), (.ref b1), (.ref b1)])
  have lq2_a1 := Exa_a1.lt
  have lq2_b1 := Exa_b1.lt
  have lq2_d := Arv_d.lt
  obtain ⟨v2, _, ⟨T2, L2, kQ2, nQ2⟩, -, X2, ⟨Lc2, hQ2, l2, y2, z2⟩, st2⟩ := X1.specialBack hx (y := (⟨"java/lang/String", "<init>", "(Ljava/lang/StringBuilder;)V"⟩ : MethodName)) rfl hown (mvT hZ (hw _ (List.mem_of_getElem? (i := 143) rfl))) (mvT hZ (hw _ (List.mem_of_getElem? (i := 144) rfl))) (mvT hZ (hw _ (List.mem_of_getElem? (i := 145) rfl))) (by decide) (backOf (W := 1) (rmX1 l Z a0 hw [] b1 a1 d kd us vd vr cz h1 n0 O1 Exa_b1 F_value_b1 F_coder_b1 ge_b1 Exa_a1 F_value_a1 F_coder_a1 F_count_a1 Arv_d hr ne_a1_b1 ne_d_b1 S_COMPACT hcz) hZ (hw _ (List.mem_of_getElem? (i := 145) rfl)) (hw _ (List.mem_of_getElem? (i := 2) rfl)) (by decide) (by decide)) (g := (mkF m 5 #[.val (.ref a1)] [(.ref a1), (.ref b1), (.ref b1)])) rfl (by rw [hml]; rfl) (Steps.refl _) (a := b1) (argsL := [(.ref a1)]) (rest := [(.ref b1)]) (lenOf pd_rmTS_0 rfl) rfl (by show 2 * 0 + _ ≤ _; exact Nat.le_of_eq rfl) (hb hby d23_5) (fun _ _ => ⟨rfl, e1, (by decide : 1 + 1 ≤ _), (by decide : 4 + 28 ≤ _)⟩)
  dsimp only [Pt.U, Pt.locs, Pt.cells, Pt.slots] at X2 l2 y2 z2 st2 hQ2
  subst y2 z2
  obtain ⟨h2, e2⟩ : ∃ z, T2.heap = z := ⟨_, rfl⟩
  rw [e2] at hQ2
  obtain ⟨rfl, Nq2, Kq2, Fc2, b2, kb2, Fv2, Arv_b2, frb2⟩ := hQ2
  have N2 : Fr n0 L2 := l2 ▸ Fr.app N0 Nq2
  refine Gl.st (fun _ kk => st2.trans kk) ?_
  replace Exa_a1 := Exa_a1.keep Kq2
  replace F_value_a1 := F_value_a1.keep Kq2 (ninS ne_a1_b1 nin0)
  replace F_coder_a1 := F_coder_a1.keep Kq2 (ninS ne_a1_b1 nin0)
  replace F_count_a1 := F_count_a1.keep Kq2 (ninS ne_a1_b1 nin0)
  replace Arv_d := Arv_d.keep Kq2 (ninS ne_d_b1 nin0)
  replace Exa_b1 := Exa_b1.keep Kq2
  have O2 := O1.keep Kq2 (allS ge_b1 all0)
  have K2 := K1.trans Kq2 (allS (Or.inr fr_b1) all0)
  have ne_a1_b2 : a1 ≠ b2 := Nat.ne_of_lt (Nat.lt_of_lt_of_le lq2_a1 frb2)
  have ne_b1_b2 : b1 ≠ b2 := Nat.ne_of_lt (Nat.lt_of_lt_of_le lq2_b1 frb2)
  have ne_d_b2 : d ≠ b2 := Nat.ne_of_lt (Nat.lt_of_lt_of_le lq2_d frb2)
  have ge_b2 : n0 ≤ b2 := Nat.le_trans (Nat.le_trans (Nat.le_of_eq O1.1.symm) O1.2.1) frb2
  have fr_b2 : h0.size ≤ b2 := Nat.le_trans K1.1 frb2
  have F_value_b1 := Fv2
  have F_coder_b1 := Fc2
  clear st2
  clear O1 K1 X1 e1
  show Gl p e below s _ _ _ T2 (mkF m 8 #[.val (.ref a1)] [(.ref b1)])
  exact Gl.ret X2 (v := (some (.ref b1))) (fun h => by rw [Bd.returns] at h; cases h) (BodyLoose.notSynchronized Bd) (fun hr => retOut X2 hx Bd.returns rfl (Or.inr (Or.inr (Or.inr (Or.inr ⟨rfl, rfl, rfl⟩)))) (hb hby d23_8) hr) e2 ⟨b1, b2, kb2, rfl, N2, K2, Exa_b1, F_value_b1, F_coder_b1, Arv_b2⟩ (by decide) (by decide)
theorem d6_0 : decode prog_36_method_1_code 0 = .ok (.aload_n 0, 1) := by decide +kernel
theorem d6_1 : decode prog_36_method_1_code 1 = .ok (.invokespecial 1, 3) := by decide +kernel
theorem d6_4 : decode prog_36_method_1_code 4 = .ok (.aload_n 0, 1) := by decide +kernel
theorem d6_5 : decode prog_36_method_1_code 5 = .ok (.aload_n 1, 1) := by decide +kernel
theorem d6_6 : decode prog_36_method_1_code 6 = .ok (.putfield 7, 3) := by decide +kernel
theorem d6_9 : decode prog_36_method_1_code 9 = .ok (.aload_n 0, 1) := by decide +kernel
theorem d6_10 : decode prog_36_method_1_code 10 = .ok (.aload_n 2, 1) := by decide +kernel
theorem d6_11 : decode prog_36_method_1_code 11 = .ok (.putfield 13, 3) := by decide +kernel
theorem d6_14 : decode prog_36_method_1_code 14 = .ok (.return_, 1) := by decide +kernel
theorem pn_rmPT : plainName "com/example/tender/tender/store/PropertyTable" = true := by first | (simp [plainName, overriddenIn]; done) | decide +kernel
theorem ef_rmPT (m : MethodId) (a1 : Addr) (x1 : Addr) (x2 : Addr) : entryFrame m #[(.ref a1), (.ref x1), (.ref x2)] 3 = mkF m 0 #[.val (.ref a1), .val (.ref x1), .val (.ref x2)] [] := by first | (simp [entryFrame, mkF, argsToLocals, Value.category]; done) | rfl
def Q_rmPT (Z : State) (a1 : Addr) (x1 : Addr) (x2 : Addr)  (h0 : Heap) (n0 : Nat) (v : Option Value) (h : Heap) (L : List Loc) : Prop := v = none ∧ Fr n0 L ∧ Keep h0 h [a1] ∧ Fld Z h a1 "com/example/tender/tender/store/PropertyTable" "table" "Ljava/lang/String;" (.ref x1) ∧ Fld Z h a1 "com/example/tender/tender/store/PropertyTable" "ownerColumn" "Ljava/lang/String;" (.ref x2)
set_option maxRecDepth 65536 in
set_option maxHeartbeats 40000000 in
theorem rmPT (l : Launch) (Z : State) (a0 : Array Value) (hw : ∀ d ∈ tables_1, d.before a0 Z = true) (ws : List Jvm.Cond) (a1 : Addr) (x1 : Addr) (x2 : Addr)  (h0 : Heap) (n0 : Nat) (O0 : Old Z n0 h0) (Exa_a1 : Exa Z h0 a1 "com/example/tender/tender/store/PropertyTable") (F_table_a1 : Fld Z h0 a1 "com/example/tender/tender/store/PropertyTable" "table" "Ljava/lang/String;" .null) (F_ownerColumn_a1 : Fld Z h0 a1 "com/example/tender/tender/store/PropertyTable" "ownerColumn" "Ljava/lang/String;" .null) (g1 : n0 ≤ a1) :
    MetFree l (⟨"com/example/tender/tender/store/PropertyTable", "<init>", "(Ljava/lang/String;Ljava/lang/String;)V"⟩ : MethodName) (head1 (Jvm.Cond.code (⟨"com/example/tender/tender/store/PropertyTable", "<init>", "(Ljava/lang/String;Ljava/lang/String;)V"⟩ : MethodName) prog_36_method_1_code 3 none :: ws) ({ frames := 1, cells := 0, slots := 0, locals := 12 } : Room)) (fun a U => a = #[(.ref a1), (.ref x1), (.ref x2)] ∧ Z.Warmed39 U.vm ∧ U.heap = h0) (fun _ _ _ _ _ => True) (fun _ U o U' => ∃ v L, o = .returned v ∧ Q_rmPT Z a1 x1 x2  h0 n0 v U'.heap L ∧ FrameEnd U o U' L ({ frames := 1, cells := 0, slots := 0, locals := 12 } : Room).cells ({ frames := 1, cells := 0, slots := 0, locals := 12 } : Room).slots) := by
  refine MetFree.of_bodySF (plainFor_of_name pn_rmPT) hisR ?_
  intro p e s m args below meth c s₁ Bd hml0 hP hK
  obtain ⟨rfl, hZ, hh⟩ := hP
  have hx := Bd.exec
  have hby := Bd.bytes
  have hml : c.maxLocals = 3 := hml0
  have hown : s.vm.findClass "com/example/tender/tender/store/PropertyTable" = some m.cls := findClass_of_methodNamed Bd.named
  have hnm := (name_of_methodNamed Bd.named Bd.method).1
  have X0 : Stand p l e ({ frames := 1, cells := 0, slots := 0, locals := 12 } : Room) s m #[(.ref a1), (.ref x1), (.ref x2)] below meth c s₁ [] 0 0 := Stand.of_body Bd
  have e0 : s₁.heap = h0 := by rw [← hh, Bd.state]; rfl
  have N0 := Fr.nil n0
  refine Gl.start (Q := Q_rmPT Z a1 x1 x2  h0 n0) (ef_rmPT m a1 x1 x2) ?_
  show Gl p e below s _ _ _ s₁ (mkF m 0 #[.val (.ref a1), .val (.ref x1), .val (.ref x2)] [])
  refine Gl.st (fun _ kk => XS.aloadN X0.here hx rfl (hb hby d6_0) rfl rfl kk) ?_
  show Gl p e below s _ _ _ s₁ (mkF m 1 #[.val (.ref a1), .val (.ref x1), .val (.ref x2)] [(.ref a1)])
  obtain ⟨T1, X1, e1, st1⟩ := initO X0 hx hZ hown (hw _ (List.mem_of_getElem? (i := 33) rfl)) (hw _ (List.mem_of_getElem? (i := 20) rfl)) (hw _ (List.mem_of_getElem? (i := 21) rfl)) e0 (g := (mkF m 1 #[.val (.ref a1), .val (.ref x1), .val (.ref x2)] [(.ref a1)])) rfl (by rw [hml]; rfl) rfl (hb hby d6_1) (by decide) (W := 0) (by show 2 * 0 + _ ≤ _; exact Nat.le_of_eq rfl) (by decide)
  refine Gl.st st1 ?_
  show Gl p e below s _ _ _ T1 (mkF m 4 #[.val (.ref a1), .val (.ref x1), .val (.ref x2)] [])
  refine Gl.st (fun _ kk => XS.aloadN X1.here hx rfl (hb hby d6_4) rfl rfl kk) ?_
  show Gl p e below s _ _ _ T1 (mkF m 5 #[.val (.ref a1), .val (.ref x1), .val (.ref x2)] [(.ref a1)])
  refine Gl.st (fun _ kk => XS.aloadN X1.here hx rfl (hb hby d6_5) rfl rfl kk) ?_
  show Gl p e below s _ _ _ T1 (mkF m 6 #[.val (.ref a1), .val (.ref x1), .val (.ref x2)] [(.ref x1), (.ref a1)])
  obtain ⟨T2, h2, X2, e2, W2, st2⟩ := putF X1 hx hZ hown (host := "") (Or.inl (hw _ (List.mem_of_getElem? (i := 34) rfl))) Via.refl e1 F_table_a1 Exa_a1 (Or.inr ⟨(hw _ (List.mem_of_getElem? (i := 35) rfl)), rfl, hnm⟩) (hw _ (List.mem_of_getElem? (i := 28) rfl)) (ty := (.object "java/lang/String")) (by decide) rfl rfl (g := (mkF m 6 #[.val (.ref a1), .val (.ref x1), .val (.ref x2)] [(.ref x1), (.ref a1)])) rfl rfl (hb hby d6_6)
  refine Gl.st st2 ?_
  have F_table_a1 := F_table_a1.same W2
  replace Exa_a1 := Exa_a1.wr W2
  replace F_ownerColumn_a1 := F_ownerColumn_a1.other W2 (Or.inr (slot_ne (Or.inr (hw _ (List.mem_of_getElem? (i := 37) rfl))) (Or.inr (hw _ (List.mem_of_getElem? (i := 35) rfl))) (by decide) (t := (.object "java/lang/String")) (t' := (.object "java/lang/String")) (by decide) (by decide)))
  have O2 := O0.wr W2 g1
  have K2 := (Keep.refl h0 [a1]).wr W2 (Or.inl (List.mem_of_getElem? (i := 0) rfl))
  have N2 := Fr.snoc X2 N0 g1
  show Gl p e below s _ _ _ T2 (mkF m 9 #[.val (.ref a1), .val (.ref x1), .val (.ref x2)] [])
  refine Gl.st (fun _ kk => XS.aloadN X2.here hx rfl (hb hby d6_9) rfl rfl kk) ?_
  show Gl p e below s _ _ _ T2 (mkF m 10 #[.val (.ref a1), .val (.ref x1), .val (.ref x2)] [(.ref a1)])
  refine Gl.st (fun _ kk => XS.aloadN X2.here hx rfl (hb hby d6_10) rfl rfl kk) ?_
  show Gl p e below s _ _ _ T2 (mkF m 11 #[.val (.ref a1), .val (.ref x1), .val (.ref x2)] [(.ref x2), (.ref a1)])
  obtain ⟨T3, h3, X3, e3, W3, st3⟩ := putF X2 hx hZ hown (host := "") (Or.inl (hw _ (List.mem_of_getElem? (i := 36) rfl))) Via.refl e2 F_ownerColumn_a1 Exa_a1 (Or.inr ⟨(hw _ (List.mem_of_getElem? (i := 37) rfl)), rfl, hnm⟩) (hw _ (List.mem_of_getElem? (i := 28) rfl)) (ty := (.object "java/lang/String")) (by decide) rfl rfl (g := (mkF m 11 #[.val (.ref a1), .val (.ref x1), .val (.ref x2)] [(.ref x2), (.ref a1)])) rfl rfl (hb hby d6_11)
  refine Gl.st st3 ?_
  have F_ownerColumn_a1 := F_ownerColumn_a1.same W3
  replace Exa_a1 := Exa_a1.wr W3
  replace F_table_a1 := F_table_a1.other W3 (Or.inr (slot_ne (Or.inr (hw _ (List.mem_of_getElem? (i := 35) rfl))) (Or.inr (hw _ (List.mem_of_getElem? (i := 37) rfl))) (by decide) (t := (.object "java/lang/String")) (t' := (.object "java/lang/String")) (by decide) (by decide)))
  have O3 := O2.wr W3 g1
  have K3 := K2.wr W3 (Or.inl (List.mem_of_getElem? (i := 0) rfl))
  have N3 := Fr.snoc X3 N2 g1
  show Gl p e below s _ _ _ T3 (mkF m 14 #[.val (.ref a1), .val (.ref x1), .val (.ref x2)] [])
  exact Gl.ret X3 (v := none) (fun _ => rfl) (BodyLoose.notSynchronized Bd) (fun hr => X3.returnOut hx Bd.returns (hb hby d6_14) hr) e3 ⟨rfl, N3, K3, F_table_a1, F_ownerColumn_a1⟩ (by decide) (by decide)
theorem d7_0 : decode prog_36_method_4_code 0 = .ok (.new 16, 3) := by decide +kernel
theorem d7_3 : decode prog_36_method_4_code 3 = .ok (.dup, 1) := by decide +kernel
theorem d7_4 : decode prog_36_method_4_code 4 = .ok (.invokespecial 18, 3) := by decide +kernel
theorem d7_7 : decode prog_36_method_4_code 7 = .ok (.ldc 66, 2) := by decide +kernel
theorem d7_9 : decode prog_36_method_4_code 9 = .ok (.invokevirtual 21, 3) := by decide +kernel
theorem d7_12 : decode prog_36_method_4_code 12 = .ok (.aload_n 0, 1) := by decide +kernel
theorem d7_13 : decode prog_36_method_4_code 13 = .ok (.getfield 7, 3) := by decide +kernel
theorem d7_16 : decode prog_36_method_4_code 16 = .ok (.invokevirtual 21, 3) := by decide +kernel
theorem d7_19 : decode prog_36_method_4_code 19 = .ok (.ldc 25, 2) := by decide +kernel
theorem d7_21 : decode prog_36_method_4_code 21 = .ok (.invokevirtual 21, 3) := by decide +kernel
theorem d7_24 : decode prog_36_method_4_code 24 = .ok (.aload_n 0, 1) := by decide +kernel
theorem d7_25 : decode prog_36_method_4_code 25 = .ok (.getfield 13, 3) := by decide +kernel
theorem d7_28 : decode prog_36_method_4_code 28 = .ok (.invokevirtual 21, 3) := by decide +kernel
theorem d7_31 : decode prog_36_method_4_code 31 = .ok (.ldc 68, 2) := by decide +kernel
theorem d7_33 : decode prog_36_method_4_code 33 = .ok (.invokevirtual 21, 3) := by decide +kernel
theorem d7_36 : decode prog_36_method_4_code 36 = .ok (.aload_n 1, 1) := by decide +kernel
theorem d7_37 : decode prog_36_method_4_code 37 = .ok (.invokevirtual 21, 3) := by decide +kernel
theorem d7_40 : decode prog_36_method_4_code 40 = .ok (.ldc 70, 2) := by decide +kernel
theorem d7_42 : decode prog_36_method_4_code 42 = .ok (.invokevirtual 21, 3) := by decide +kernel
theorem d7_45 : decode prog_36_method_4_code 45 = .ok (.invokevirtual 31, 3) := by decide +kernel
theorem d7_48 : decode prog_36_method_4_code 48 = .ok (.areturn, 1) := by decide +kernel
theorem pd_rmDO_0 : parseMethodDescriptor "()V" = some ⟨[], none⟩ := by decide +kernel
theorem pd_rmDO_1 : parseMethodDescriptor "(Ljava/lang/String;)Ljava/lang/StringBuilder;" = some ⟨[(.object "java/lang/String")], some (.object "java/lang/StringBuilder")⟩ := by decide +kernel
theorem pd_rmDO_2 : parseMethodDescriptor "()Ljava/lang/String;" = some ⟨[], some (.object "java/lang/String")⟩ := by decide +kernel
theorem pn_rmDO : plainName "com/example/tender/tender/store/PropertyTable" = true := by first | (simp [plainName, overriddenIn]; done) | decide +kernel
theorem ef_rmDO (m : MethodId) (a1 : Addr) (x3 : Addr) : entryFrame m #[(.ref a1), (.ref x3)] 2 = mkF m 0 #[.val (.ref a1), .val (.ref x3)] [] := by first | (simp [entryFrame, mkF, argsToLocals, Value.category]; done) | rfl
def Q_rmDO (Z : State) (a1 : Addr) (x3 : Addr) (x1 x2 t1 t2 t3 : Addr) (k1 k2 k3 : ClassId) (y1 y2 y3 cz : Int32) (h0 : Heap) (n0 : Nat) (v : Option Value) (h : Heap) (L : List Loc) : Prop := ∃ (r tr : Addr) (kr : ClassId), v = some (.ref r) ∧ Fr n0 L ∧ Keep h0 h [] ∧ Exa Z h r "java/lang/String" ∧ Fld Z h r "java/lang/String" "value" "[B" (.ref tr) ∧ Fld Z h r "java/lang/String" "coder" "B" (.int 0) ∧ Arv Z h tr kr .byte (28 : Int32) [(.int (68 : Int32)), (.int (69 : Int32)), (.int (76 : Int32)), (.int (69 : Int32)), (.int (84 : Int32)), (.int (69 : Int32)), (.int (32 : Int32)), (.int (70 : Int32)), (.int (82 : Int32)), (.int (79 : Int32)), (.int (77 : Int32)), (.int (32 : Int32)), (.int y1), (.int (32 : Int32)), (.int (87 : Int32)), (.int (72 : Int32)), (.int (69 : Int32)), (.int (82 : Int32)), (.int (69 : Int32)), (.int (32 : Int32)), (.int y2), (.int (32 : Int32)), (.int (73 : Int32)), (.int (78 : Int32)), (.int (32 : Int32)), (.int (40 : Int32)), (.int y3), (.int (41 : Int32))] (.int 0)
set_option maxRecDepth 65536 in
set_option maxHeartbeats 40000000 in
theorem rmDO (l : Launch) (Z : State) (a0 : Array Value) (hw : ∀ d ∈ tables_1, d.before a0 Z = true) (ws : List Jvm.Cond) (a1 : Addr) (x3 : Addr) (x1 x2 t1 t2 t3 : Addr) (k1 k2 k3 : ClassId) (y1 y2 y3 cz : Int32) (h0 : Heap) (n0 : Nat) (O0 : Old Z n0 h0) (Exa_a1 : Exa Z h0 a1 "com/example/tender/tender/store/PropertyTable") (F_table_a1 : Fld Z h0 a1 "com/example/tender/tender/store/PropertyTable" "table" "Ljava/lang/String;" (.ref x1)) (F_ownerColumn_a1 : Fld Z h0 a1 "com/example/tender/tender/store/PropertyTable" "ownerColumn" "Ljava/lang/String;" (.ref x2)) (Exa_x1 : Exa Z h0 x1 "java/lang/String") (F_value_x1 : Fld Z h0 x1 "java/lang/String" "value" "[B" (.ref t1)) (F_coder_x1 : Fld Z h0 x1 "java/lang/String" "coder" "B" (.int 0)) (Arv_t1 : Arv Z h0 t1 k1 .byte (1 : Int32) [(.int y1)] (.int 0)) (Exa_x2 : Exa Z h0 x2 "java/lang/String") (F_value_x2 : Fld Z h0 x2 "java/lang/String" "value" "[B" (.ref t2)) (F_coder_x2 : Fld Z h0 x2 "java/lang/String" "coder" "B" (.int 0)) (Arv_t2 : Arv Z h0 t2 k2 .byte (1 : Int32) [(.int y2)] (.int 0)) (Exa_x3 : Exa Z h0 x3 "java/lang/String") (F_value_x3 : Fld Z h0 x3 "java/lang/String" "value" "[B" (.ref t3)) (F_coder_x3 : Fld Z h0 x3 "java/lang/String" "coder" "B" (.int 0)) (Arv_t3 : Arv Z h0 t3 k3 .byte (1 : Int32) [(.int y3)] (.int 0)) (S_COMPACT : Sta Z Z.heap "java/lang/String" "COMPACT_STRINGS" "Z" (.int cz)) (hcz : ¬ cz = 0) :
    MetFree l (⟨"com/example/tender/tender/store/PropertyTable", "deleteOwnedBy", "(Ljava/lang/String;)Ljava/lang/String;"⟩ : MethodName) (head1 (Jvm.Cond.code (⟨"com/example/tender/tender/store/PropertyTable", "deleteOwnedBy", "(Ljava/lang/String;)Ljava/lang/String;"⟩ : MethodName) prog_36_method_4_code 2 (some (.object "java/lang/String")) :: ws) ({ frames := 6, cells := 13, slots := 202, locals := 91 } : Room)) (fun a U => a = #[(.ref a1), (.ref x3)] ∧ Z.Warmed39 U.vm ∧ U.heap = h0 ∧ CHv Z consts_1 U.vm h0) (fun _ _ _ _ _ => True) (fun _ U o U' => ∃ v L, o = .returned v ∧ Q_rmDO Z a1 x3 x1 x2 t1 t2 t3 k1 k2 k3 y1 y2 y3 cz h0 n0 v U'.heap L ∧ CHr Z consts_1 U.vm U.heap U'.vm U'.heap ∧ ReturnedEndW U o U' L ({ frames := 6, cells := 13, slots := 202, locals := 91 } : Room).cells ({ frames := 6, cells := 13, slots := 202, locals := 91 } : Room).slots) := by
  refine MetFree.of_bodySF (plainFor_of_name pn_rmDO) hisR ?_
  intro p e s m args below meth c s₁ Bd hml0 hP hK
  obtain ⟨rfl, hZ, hh, H0⟩ := hP
  have hx := Bd.exec
  have hby := Bd.bytes
  have hml : c.maxLocals = 2 := hml0
  have hown : s.vm.findClass "com/example/tender/tender/store/PropertyTable" = some m.cls := findClass_of_methodNamed Bd.named
  have hnm := (name_of_methodNamed Bd.named Bd.method).1
  have X0 : Stand p l e ({ frames := 6, cells := 13, slots := 202, locals := 91 } : Room) (s.setVm s.vm) m #[(.ref a1), (.ref x3)] below meth c s₁ [] 0 0 := Stand.of_body Bd
  have e0 : s₁.heap = h0 := by rw [← hh, Bd.state]; rfl
  have N0 := Fr.nil n0
  have hS0 : s.Since s.vm 0 := (State.WarmedH.refl s).since 0
  have hk0 : 0 ≤ h0.size := Nat.zero_le _
  have HC0 : CHr Z consts_1 s.vm h0 s.vm h0 := CHr.refl H0
  have hh0 : s.heap = h0 := hh
  refine GlW.start (Q := Q_rmDO Z a1 x3 x1 x2 t1 t2 t3 k1 k2 k3 y1 y2 y3 cz h0 n0) (ef_rmDO m a1 x3) ?_
  have hEL := own_EW hw
  have hwS : ∀ a ∈ Bundle.stringAtoms, a.before a0 Z = true := fun d hd => hw d ((by decide +kernel : ∀ d ∈ Bundle.stringAtoms, d ∈ tables_1) d hd)
  show GlW Z consts_1 p e below s _ _ _ s₁ (mkF m 0 #[.val (.ref a1), .val (.ref x3)] [])
  obtain ⟨T1, h1, X1, e1, E1, A1, D1, V1, st1⟩ := newO X0 hx hZ hown (hw _ (List.mem_of_getElem? (i := 43) rfl)) (hw _ (List.mem_of_getElem? (i := 44) rfl)) (hw _ (List.mem_of_getElem? (i := 45) rfl)) e0 (g := (mkF m 0 #[.val (.ref a1), .val (.ref x3)] [])) rfl (hb hby d7_0) (by decide) (by decide)
  obtain ⟨b1, g1⟩ : ∃ z, z = h0.size := ⟨_, rfl⟩
  rw [← g1] at A1 D1 V1 st1
  refine GlW.st st1 ?_
  have ne_a1_b1 : a1 ≠ b1 := Nat.ne_of_lt (Nat.lt_of_lt_of_eq Exa_a1.lt g1.symm)
  have ne_t1_b1 : t1 ≠ b1 := Nat.ne_of_lt (Nat.lt_of_lt_of_eq Arv_t1.lt g1.symm)
  have ne_t2_b1 : t2 ≠ b1 := Nat.ne_of_lt (Nat.lt_of_lt_of_eq Arv_t2.lt g1.symm)
  have ne_t3_b1 : t3 ≠ b1 := Nat.ne_of_lt (Nat.lt_of_lt_of_eq Arv_t3.lt g1.symm)
  have ne_x1_b1 : x1 ≠ b1 := Nat.ne_of_lt (Nat.lt_of_lt_of_eq Exa_x1.lt g1.symm)
  have ne_x2_b1 : x2 ≠ b1 := Nat.ne_of_lt (Nat.lt_of_lt_of_eq Exa_x2.lt g1.symm)
  have ne_x3_b1 : x3 ≠ b1 := Nat.ne_of_lt (Nat.lt_of_lt_of_eq Exa_x3.lt g1.symm)
  have ge_b1 : n0 ≤ b1 := Nat.le_trans (Nat.le_trans (Nat.le_of_eq O0.1.symm) O0.2.1) (Nat.le_of_eq g1.symm)
  have fr_b1 : h0.size ≤ b1 := Nat.le_trans (Nat.le_refl _) (Nat.le_of_eq g1.symm)
  have Sf_b1 : Safe Z consts_1 s.vm h0 b1 := Safe.new (Nat.le_of_eq g1.symm)
  replace Sf_b1 := Safe.ext E1 HC0.1 Sf_b1
  have HC1 := HC0.trans (CHr.ext E1 HC0.1)
  have hk1 := Nat.le_trans hk0 E1.1
  replace Exa_a1 := Exa_a1.ext E1
  replace F_table_a1 := F_table_a1.ext E1
  replace F_ownerColumn_a1 := F_ownerColumn_a1.ext E1
  replace Exa_x1 := Exa_x1.ext E1
  replace F_value_x1 := F_value_x1.ext E1
  replace F_coder_x1 := F_coder_x1.ext E1
  replace Arv_t1 := Arv_t1.ext E1
  replace Exa_x2 := Exa_x2.ext E1
  replace F_value_x2 := F_value_x2.ext E1
  replace F_coder_x2 := F_coder_x2.ext E1
  replace Arv_t2 := Arv_t2.ext E1
  replace Exa_x3 := Exa_x3.ext E1
  replace F_value_x3 := F_value_x3.ext E1
  replace F_coder_x3 := F_coder_x3.ext E1
  replace Arv_t3 := Arv_t3.ext E1
  have O1 := O0.ext E1
  have K1 := (Keep.refl h0 []).ext E1
  have Exa_b1 := A1
  have F_value_b1 : Fld Z h1 b1 "java/lang/AbstractStringBuilder" "value" "[B" .null := D1 (Or.inl (hw _ (List.mem_of_getElem? (i := 58) rfl))) (ty := (.array .byte)) (by decide)
  have F_coder_b1 : Fld Z h1 b1 "java/lang/AbstractStringBuilder" "coder" "B" (.int (0 : Int32)) := D1 (Or.inl (hw _ (List.mem_of_getElem? (i := 60) rfl))) (ty := .byte) (by decide)
  have F_count_b1 : Fld Z h1 b1 "java/lang/AbstractStringBuilder" "count" "I" (.int (0 : Int32)) := D1 (Or.inl (hw _ (List.mem_of_getElem? (i := 85) rfl))) (ty := .int) (by decide)
  show GlW Z consts_1 p e below s _ _ _ T1 (mkF m 3 #[.val (.ref a1), .val (.ref x3)] [(.ref b1)])
  refine GlW.st (fun _ kk => XS.dup X1.here hx rfl (hb hby d7_3) rfl rfl kk) ?_
  show GlW Z consts_1 p e below s _ _ _ T1 (mkF m 4 #[.val (.ref a1), .val (.ref x3)] [(.ref b1), (.ref b1)])
  have lq2_a1 := Exa_a1.lt
  have lq2_b1 := Exa_b1.lt
  have lq2_t1 := Arv_t1.lt
  have lq2_t2 := Arv_t2.lt
  have lq2_t3 := Arv_t3.lt
  have lq2_x1 := Exa_x1.lt
  have lq2_x2 := Exa_x2.lt
  have lq2_x3 := Exa_x3.lt
  obtain ⟨v2, _, ⟨T2, L2, kQ2, nQ2⟩, -, X2, ⟨Lc2, hQ2, l2, y2, z2⟩, st2⟩ := X1.specialBack hx (y := (⟨"java/lang/StringBuilder", "<init>", "()V"⟩ : MethodName)) rfl hown (mvT hZ (hw _ (List.mem_of_getElem? (i := 46) rfl))) (mvT hZ (hw _ (List.mem_of_getElem? (i := 47) rfl))) (mvT hZ (hw _ (List.mem_of_getElem? (i := 48) rfl))) (by decide) (backOf (W := 1) (rmBI l Z a0 hw [] b1 cz h1 n0 O1 Exa_b1 F_value_b1 F_coder_b1 F_count_b1 ge_b1 S_COMPACT hcz) hZ (hw _ (List.mem_of_getElem? (i := 48) rfl)) (hw _ (List.mem_of_getElem? (i := 45) rfl)) (by decide) (by decide)) (g := (mkF m 4 #[.val (.ref a1), .val (.ref x3)] [(.ref b1), (.ref b1)])) rfl (by rw [hml]; rfl) (Steps.refl _) (a := b1) (argsL := []) (rest := [(.ref b1)]) (lenOf pd_rmDO_0 rfl) rfl (by show 2 * 0 + _ ≤ _; exact Nat.le_of_eq rfl) (hb hby d7_4) (fun _ _ => ⟨rfl, e1, (by decide : 1 + 1 ≤ _), (by decide : 4 + 16 ≤ _)⟩)
  dsimp only [Pt.U, Pt.locs, Pt.cells, Pt.slots] at X2 l2 y2 z2 st2 hQ2
  subst y2 z2
  obtain ⟨h2, e2⟩ : ∃ z, T2.heap = z := ⟨_, rfl⟩
  rw [e2] at hQ2
  obtain ⟨rfl, Nq2, Kq2, d2, kd2, Fvalue2, Fcoder2, Fcount2, Arv_d2, frd2⟩ := hQ2
  have N2 : Fr n0 L2 := l2 ▸ Fr.app N0 Nq2
  refine GlW.st (fun _ kk => st2.trans kk) ?_
  have sfk2 : ∀ x ∈ [b1], Safe Z consts_1 _ _ x := (allS Sf_b1 all0)
  replace Sf_b1 := Safe.keep Kq2 sfk2 HC1.1 Sf_b1
  have HC2 := HC1.trans (CHr.keep Kq2 sfk2 HC1.1)
  have hk2 := Nat.le_trans hk1 Kq2.1
  replace Exa_a1 := Exa_a1.keep Kq2
  replace F_table_a1 := F_table_a1.keep Kq2 (ninS ne_a1_b1 nin0)
  replace F_ownerColumn_a1 := F_ownerColumn_a1.keep Kq2 (ninS ne_a1_b1 nin0)
  replace Exa_x1 := Exa_x1.keep Kq2
  replace F_value_x1 := F_value_x1.keep Kq2 (ninS ne_x1_b1 nin0)
  replace F_coder_x1 := F_coder_x1.keep Kq2 (ninS ne_x1_b1 nin0)
  replace Arv_t1 := Arv_t1.keep Kq2 (ninS ne_t1_b1 nin0)
  replace Exa_x2 := Exa_x2.keep Kq2
  replace F_value_x2 := F_value_x2.keep Kq2 (ninS ne_x2_b1 nin0)
  replace F_coder_x2 := F_coder_x2.keep Kq2 (ninS ne_x2_b1 nin0)
  replace Arv_t2 := Arv_t2.keep Kq2 (ninS ne_t2_b1 nin0)
  replace Exa_x3 := Exa_x3.keep Kq2
  replace F_value_x3 := F_value_x3.keep Kq2 (ninS ne_x3_b1 nin0)
  replace F_coder_x3 := F_coder_x3.keep Kq2 (ninS ne_x3_b1 nin0)
  replace Arv_t3 := Arv_t3.keep Kq2 (ninS ne_t3_b1 nin0)
  replace Exa_b1 := Exa_b1.keep Kq2
  have O2 := O1.keep Kq2 (allS ge_b1 all0)
  have K2 := K1.trans Kq2 (allS (Or.inr fr_b1) all0)
  have ne_a1_d2 : a1 ≠ d2 := Nat.ne_of_lt (Nat.lt_of_lt_of_le lq2_a1 frd2)
  have ne_b1_d2 : b1 ≠ d2 := Nat.ne_of_lt (Nat.lt_of_lt_of_le lq2_b1 frd2)
  have ne_t1_d2 : t1 ≠ d2 := Nat.ne_of_lt (Nat.lt_of_lt_of_le lq2_t1 frd2)
  have ne_t2_d2 : t2 ≠ d2 := Nat.ne_of_lt (Nat.lt_of_lt_of_le lq2_t2 frd2)
  have ne_t3_d2 : t3 ≠ d2 := Nat.ne_of_lt (Nat.lt_of_lt_of_le lq2_t3 frd2)
  have ne_x1_d2 : x1 ≠ d2 := Nat.ne_of_lt (Nat.lt_of_lt_of_le lq2_x1 frd2)
  have ne_x2_d2 : x2 ≠ d2 := Nat.ne_of_lt (Nat.lt_of_lt_of_le lq2_x2 frd2)
  have ne_x3_d2 : x3 ≠ d2 := Nat.ne_of_lt (Nat.lt_of_lt_of_le lq2_x3 frd2)
  have ge_d2 : n0 ≤ d2 := Nat.le_trans (Nat.le_trans (Nat.le_of_eq O1.1.symm) O1.2.1) frd2
  have fr_d2 : h0.size ≤ d2 := Nat.le_trans K1.1 frd2
  have Sf_d2 : Safe Z consts_1 s.vm h2 d2 := Safe.keep Kq2 sfk2 HC1.1 (Safe.new frd2)
  have F_value_b1 := Fvalue2
  have F_coder_b1 := Fcoder2
  have F_count_b1 := Fcount2
  clear st2
  clear O1 K1 HC1 hk1 X1 e1
  show GlW Z consts_1 p e below s _ _ _ T2 (mkF m 7 #[.val (.ref a1), .val (.ref x3)] [(.ref b1)])
  obtain ⟨la3, T3, h3, kn3, lb3, kc3, X3, e3, E3, hS3, hk3, hZ3, hown3, Exa_la3, F_coder_la3, F_value_la3, Arv_lb3, lta3, ltb3, HR3, Li3, sf3, st3⟩ := ldcCH X2 hx hZ hown (hw _ (List.mem_of_getElem? (i := 61) rfl)) hwS e2 hS0 hk2 hEL (List.mem_of_getElem? (i := 1) rfl) HC2.1 (vs := [(.int (68 : Int32)), (.int (69 : Int32)), (.int (76 : Int32)), (.int (69 : Int32)), (.int (84 : Int32)), (.int (69 : Int32)), (.int (32 : Int32)), (.int (70 : Int32)), (.int (82 : Int32)), (.int (79 : Int32)), (.int (77 : Int32)), (.int (32 : Int32))]) (z := 12) ⟨by decide +kernel, by decide +kernel⟩ (by decide) rfl (g := (mkF m 7 #[.val (.ref a1), .val (.ref x3)] [(.ref b1)])) rfl (hb hby d7_7) (n := 48) (by decide) (by decide) (by decide) (by decide)
  refine GlW.st st3 ?_
  replace Sf_b1 := HR3.safe Exa_b1.lt Sf_b1
  replace Sf_d2 := HR3.safe Arv_d2.lt Sf_d2
  replace Exa_a1 := Exa_a1.ext E3
  replace F_table_a1 := F_table_a1.ext E3
  replace F_ownerColumn_a1 := F_ownerColumn_a1.ext E3
  replace Exa_x1 := Exa_x1.ext E3
  replace F_value_x1 := F_value_x1.ext E3
  replace F_coder_x1 := F_coder_x1.ext E3
  replace Arv_t1 := Arv_t1.ext E3
  replace Exa_x2 := Exa_x2.ext E3
  replace F_value_x2 := F_value_x2.ext E3
  replace F_coder_x2 := F_coder_x2.ext E3
  replace Arv_t2 := Arv_t2.ext E3
  replace Exa_x3 := Exa_x3.ext E3
  replace F_value_x3 := F_value_x3.ext E3
  replace F_coder_x3 := F_coder_x3.ext E3
  replace Arv_t3 := Arv_t3.ext E3
  replace Exa_b1 := Exa_b1.ext E3
  replace F_value_b1 := F_value_b1.ext E3
  replace F_coder_b1 := F_coder_b1.ext E3
  replace F_count_b1 := F_count_b1.ext E3
  replace Arv_d2 := Arv_d2.ext E3
  have O3 := O2.ext E3
  have K3 := K2.ext E3
  have HC3 := HC2.trans HR3
  have hZ := hZ3
  have hown := hown3
  have ne_b1_la3 := (sf3 _ Sf_b1).1
  have ne_b1_lb3 := (sf3 _ Sf_b1).2
  have ne_d2_la3 := (sf3 _ Sf_d2).1
  have ne_d2_lb3 := (sf3 _ Sf_d2).2
  show GlW Z consts_1 p e below s _ _ _ T3 (mkF m 9 #[.val (.ref a1), .val (.ref x3)] [(.ref la3), (.ref b1)])
  have hf4 : own_fits (12 : Int32) (12 : Int32) (16 : Int32) (0 : Int32) [(.int (68 : Int32)), (.int (69 : Int32)), (.int (76 : Int32)), (.int (69 : Int32)), (.int (84 : Int32)), (.int (69 : Int32)), (.int (32 : Int32)), (.int (70 : Int32)), (.int (82 : Int32)), (.int (79 : Int32)), (.int (77 : Int32)), (.int (32 : Int32))] [(.int (68 : Int32)), (.int (69 : Int32)), (.int (76 : Int32)), (.int (69 : Int32)), (.int (84 : Int32)), (.int (69 : Int32)), (.int (32 : Int32)), (.int (70 : Int32)), (.int (82 : Int32)), (.int (79 : Int32)), (.int (77 : Int32)), (.int (32 : Int32))] [(.int (0 : Int32)), (.int (0 : Int32)), (.int (0 : Int32)), (.int (0 : Int32)), (.int (0 : Int32)), (.int (0 : Int32)), (.int (0 : Int32)), (.int (0 : Int32)), (.int (0 : Int32)), (.int (0 : Int32)), (.int (0 : Int32)), (.int (0 : Int32)), (.int (0 : Int32)), (.int (0 : Int32)), (.int (0 : Int32)), (.int (0 : Int32))] [(.int (68 : Int32)), (.int (69 : Int32)), (.int (76 : Int32)), (.int (69 : Int32)), (.int (84 : Int32)), (.int (69 : Int32)), (.int (32 : Int32)), (.int (70 : Int32)), (.int (82 : Int32)), (.int (79 : Int32)), (.int (77 : Int32)), (.int (32 : Int32)), (.int (0 : Int32)), (.int (0 : Int32)), (.int (0 : Int32)), (.int (0 : Int32))] := ⟨by decide, by decide, Nat.le_refl _, Nat.le_of_ble_eq_true rfl, rfl, Nat.le_of_ble_eq_true rfl, rfl⟩
  obtain ⟨cq5, kq5, qa5, qb5, qc5⟩ := isOf (s := s.setVm T3.vm) hZ e3 Exa_b1
  obtain ⟨v5, _, ⟨T5, L5, kQ5, nQ5⟩, -, X5, ⟨Lc5, hQ5, l5, y5, z5⟩, st5⟩ := X3.virtualBack hx (y := (⟨"java/lang/StringBuilder", "append", "(Ljava/lang/String;)Ljava/lang/StringBuilder;"⟩ : MethodName)) (z := (⟨"java/lang/StringBuilder", "append", "(Ljava/lang/String;)Ljava/lang/StringBuilder;"⟩ : MethodName)) hown (mvT hZ (hw _ (List.mem_of_getElem? (i := 64) rfl))) (mvT hZ (hw _ (List.mem_of_getElem? (i := 65) rfl))) (notFace_of_selects (args := #[]) (mvT hZ (hw _ (List.mem_of_getElem? (i := 67) rfl)))) (mvT hZ (hw _ (List.mem_of_getElem? (i := 67) rfl))) (mvT hZ (hw _ (List.mem_of_getElem? (i := 66) rfl))) (by decide) (backOf (W := 0) (rmBA l Z a0 hw [] b1 la3 d2 lb3 kc3 (12 : Int32) [(.int (68 : Int32)), (.int (69 : Int32)), (.int (76 : Int32)), (.int (69 : Int32)), (.int (84 : Int32)), (.int (69 : Int32)), (.int (32 : Int32)), (.int (70 : Int32)), (.int (82 : Int32)), (.int (79 : Int32)), (.int (77 : Int32)), (.int (32 : Int32))] kd2 (16 : Int32) (0 : Int32) [(.int (0 : Int32)), (.int (0 : Int32)), (.int (0 : Int32)), (.int (0 : Int32)), (.int (0 : Int32)), (.int (0 : Int32)), (.int (0 : Int32)), (.int (0 : Int32)), (.int (0 : Int32)), (.int (0 : Int32)), (.int (0 : Int32)), (.int (0 : Int32)), (.int (0 : Int32)), (.int (0 : Int32)), (.int (0 : Int32)), (.int (0 : Int32))] [(.int (68 : Int32)), (.int (69 : Int32)), (.int (76 : Int32)), (.int (69 : Int32)), (.int (84 : Int32)), (.int (69 : Int32)), (.int (32 : Int32)), (.int (70 : Int32)), (.int (82 : Int32)), (.int (79 : Int32)), (.int (77 : Int32)), (.int (32 : Int32)), (.int (0 : Int32)), (.int (0 : Int32)), (.int (0 : Int32)), (.int (0 : Int32))] cz h3 n0 O3 Exa_b1 F_value_b1 F_coder_b1 F_count_b1 Exa_la3 F_value_la3 F_coder_la3 Arv_lb3 Arv_d2 hf4 ge_d2 (Ne.symm ne_b1_lb3) (Ne.symm ne_d2_lb3) (Ne.symm ne_b1_la3) (Ne.symm ne_d2_la3) ne_b1_d2 S_COMPACT hcz (by decide) ge_b1) hZ (hw _ (List.mem_of_getElem? (i := 68) rfl)) (hw _ (List.mem_of_getElem? (i := 45) rfl)) (by decide) (by decide)) qa5 qc5 (g := (mkF m 9 #[.val (.ref a1), .val (.ref x3)] [(.ref la3), (.ref b1)])) rfl (by rw [hml]; rfl) (Steps.refl _) (argsL := [(.ref la3)]) (rest := []) (lenOf pd_rmDO_1 rfl) rfl (by show 2 * 0 + _ ≤ _; exact Nat.le_of_eq rfl) (hb hby d7_9) (fun _ _ => ⟨rfl, e3, (by decide : 4 + 0 ≤ _), (by decide : 72 + 0 ≤ _)⟩)
  dsimp only [Pt.U, Pt.locs, Pt.cells, Pt.slots] at X5 l5 y5 z5 st5 hQ5
  subst y5 z5
  obtain ⟨h5, e5⟩ : ∃ z, T5.heap = z := ⟨_, rfl⟩
  rw [e5] at hQ5
  obtain ⟨rfl, Nq5, Kq5, Fvalue5, Fcoder5, Fcount5, Aq5⟩ := hQ5
  have N5 : Fr n0 L5 := l5 ▸ Fr.app N2 Nq5
  refine GlW.st (fun _ kk => st5.trans kk) ?_
  have sfk5 : ∀ x ∈ [b1, d2], Safe Z consts_1 _ _ x := (allS Sf_b1 (allS Sf_d2 all0))
  replace Sf_b1 := Safe.keep Kq5 sfk5 HC3.1 Sf_b1
  replace Sf_d2 := Safe.keep Kq5 sfk5 HC3.1 Sf_d2
  have HC5 := HC3.trans (CHr.keep Kq5 sfk5 HC3.1)
  have hk5 := Nat.le_trans hk3 Kq5.1
  replace Exa_a1 := Exa_a1.keep Kq5
  replace F_table_a1 := F_table_a1.keep Kq5 (ninS ne_a1_b1 (ninS ne_a1_d2 nin0))
  replace F_ownerColumn_a1 := F_ownerColumn_a1.keep Kq5 (ninS ne_a1_b1 (ninS ne_a1_d2 nin0))
  replace Exa_x1 := Exa_x1.keep Kq5
  replace F_value_x1 := F_value_x1.keep Kq5 (ninS ne_x1_b1 (ninS ne_x1_d2 nin0))
  replace F_coder_x1 := F_coder_x1.keep Kq5 (ninS ne_x1_b1 (ninS ne_x1_d2 nin0))
  replace Arv_t1 := Arv_t1.keep Kq5 (ninS ne_t1_b1 (ninS ne_t1_d2 nin0))
  replace Exa_x2 := Exa_x2.keep Kq5
  replace F_value_x2 := F_value_x2.keep Kq5 (ninS ne_x2_b1 (ninS ne_x2_d2 nin0))
  replace F_coder_x2 := F_coder_x2.keep Kq5 (ninS ne_x2_b1 (ninS ne_x2_d2 nin0))
  replace Arv_t2 := Arv_t2.keep Kq5 (ninS ne_t2_b1 (ninS ne_t2_d2 nin0))
  replace Exa_x3 := Exa_x3.keep Kq5
  replace F_value_x3 := F_value_x3.keep Kq5 (ninS ne_x3_b1 (ninS ne_x3_d2 nin0))
  replace F_coder_x3 := F_coder_x3.keep Kq5 (ninS ne_x3_b1 (ninS ne_x3_d2 nin0))
  replace Arv_t3 := Arv_t3.keep Kq5 (ninS ne_t3_b1 (ninS ne_t3_d2 nin0))
  replace Exa_b1 := Exa_b1.keep Kq5
  replace Exa_la3 := Exa_la3.keep Kq5
  replace F_coder_la3 := F_coder_la3.keep Kq5 (ninS (Ne.symm ne_b1_la3) (ninS (Ne.symm ne_d2_la3) nin0))
  replace F_value_la3 := F_value_la3.keep Kq5 (ninS (Ne.symm ne_b1_la3) (ninS (Ne.symm ne_d2_la3) nin0))
  replace Arv_lb3 := Arv_lb3.keep Kq5 (ninS (Ne.symm ne_b1_lb3) (ninS (Ne.symm ne_d2_lb3) nin0))
  have O5 := O3.keep Kq5 (allS ge_b1 (allS ge_d2 all0))
  have K5 := K3.trans Kq5 (allS (Or.inr fr_b1) (allS (Or.inr fr_d2) all0))
  have F_value_b1 := Fvalue5
  have F_coder_b1 := Fcoder5
  have F_count_b1 := Fcount5
  have Arv_d2 := Aq5
  have F_count_b1 : Fld Z h5 b1 "java/lang/AbstractStringBuilder" "count" "I" (.int (12 : Int32)) := Fcount5
  clear st5 qc5 qb5 qa5 kq5 cq5
  clear O3 K3 N2 HC3 hk3 X3 e3
  show GlW Z consts_1 p e below s _ _ _ T5 (mkF m 12 #[.val (.ref a1), .val (.ref x3)] [(.ref b1)])
  refine GlW.st (fun _ kk => XS.aloadN X5.here hx rfl (hb hby d7_12) rfl rfl kk) ?_
  show GlW Z consts_1 p e below s _ _ _ T5 (mkF m 13 #[.val (.ref a1), .val (.ref x3)] [(.ref a1), (.ref b1)])
  obtain ⟨T6, X6, e6, st6⟩ := getF X5 hx hZ hown (host := "") (Or.inl (hw _ (List.mem_of_getElem? (i := 34) rfl))) Via.refl e5 F_table_a1 (g := (mkF m 13 #[.val (.ref a1), .val (.ref x3)] [(.ref a1), (.ref b1)])) rfl rfl (hb hby d7_13)
  refine GlW.st st6 ?_
  show GlW Z consts_1 p e below s _ _ _ T6 (mkF m 16 #[.val (.ref a1), .val (.ref x3)] [(.ref x1), (.ref b1)])
  have hf7 : own_fits (1 : Int32) (1 : Int32) (16 : Int32) (12 : Int32) [(.int y1)] [(.int y1)] [(.int (68 : Int32)), (.int (69 : Int32)), (.int (76 : Int32)), (.int (69 : Int32)), (.int (84 : Int32)), (.int (69 : Int32)), (.int (32 : Int32)), (.int (70 : Int32)), (.int (82 : Int32)), (.int (79 : Int32)), (.int (77 : Int32)), (.int (32 : Int32)), (.int (0 : Int32)), (.int (0 : Int32)), (.int (0 : Int32)), (.int (0 : Int32))] [(.int (68 : Int32)), (.int (69 : Int32)), (.int (76 : Int32)), (.int (69 : Int32)), (.int (84 : Int32)), (.int (69 : Int32)), (.int (32 : Int32)), (.int (70 : Int32)), (.int (82 : Int32)), (.int (79 : Int32)), (.int (77 : Int32)), (.int (32 : Int32)), (.int y1), (.int (0 : Int32)), (.int (0 : Int32)), (.int (0 : Int32))] := ⟨by decide, by decide, Nat.le_refl _, Nat.le_of_ble_eq_true rfl, rfl, Nat.le_of_ble_eq_true rfl, rfl⟩
  obtain ⟨cq8, kq8, qa8, qb8, qc8⟩ := isOf (s := s.setVm T3.vm) hZ e6 Exa_b1
  obtain ⟨v8, _, ⟨T8, L8, kQ8, nQ8⟩, -, X8, ⟨Lc8, hQ8, l8, y8, z8⟩, st8⟩ := X6.virtualBack hx (y := (⟨"java/lang/StringBuilder", "append", "(Ljava/lang/String;)Ljava/lang/StringBuilder;"⟩ : MethodName)) (z := (⟨"java/lang/StringBuilder", "append", "(Ljava/lang/String;)Ljava/lang/StringBuilder;"⟩ : MethodName)) hown (mvT hZ (hw _ (List.mem_of_getElem? (i := 64) rfl))) (mvT hZ (hw _ (List.mem_of_getElem? (i := 65) rfl))) (notFace_of_selects (args := #[]) (mvT hZ (hw _ (List.mem_of_getElem? (i := 67) rfl)))) (mvT hZ (hw _ (List.mem_of_getElem? (i := 67) rfl))) (mvT hZ (hw _ (List.mem_of_getElem? (i := 66) rfl))) (by decide) (backOf (W := 0) (rmBA l Z a0 hw [] b1 x1 d2 t1 k1 (1 : Int32) [(.int y1)] kd2 (16 : Int32) (12 : Int32) [(.int (68 : Int32)), (.int (69 : Int32)), (.int (76 : Int32)), (.int (69 : Int32)), (.int (84 : Int32)), (.int (69 : Int32)), (.int (32 : Int32)), (.int (70 : Int32)), (.int (82 : Int32)), (.int (79 : Int32)), (.int (77 : Int32)), (.int (32 : Int32)), (.int (0 : Int32)), (.int (0 : Int32)), (.int (0 : Int32)), (.int (0 : Int32))] [(.int (68 : Int32)), (.int (69 : Int32)), (.int (76 : Int32)), (.int (69 : Int32)), (.int (84 : Int32)), (.int (69 : Int32)), (.int (32 : Int32)), (.int (70 : Int32)), (.int (82 : Int32)), (.int (79 : Int32)), (.int (77 : Int32)), (.int (32 : Int32)), (.int y1), (.int (0 : Int32)), (.int (0 : Int32)), (.int (0 : Int32))] cz h5 n0 O5 Exa_b1 F_value_b1 F_coder_b1 F_count_b1 Exa_x1 F_value_x1 F_coder_x1 Arv_t1 Arv_d2 hf7 ge_d2 ne_t1_b1 ne_t1_d2 ne_x1_b1 ne_x1_d2 ne_b1_d2 S_COMPACT hcz (by decide) ge_b1) hZ (hw _ (List.mem_of_getElem? (i := 68) rfl)) (hw _ (List.mem_of_getElem? (i := 45) rfl)) (by decide) (by decide)) qa8 qc8 (g := (mkF m 16 #[.val (.ref a1), .val (.ref x3)] [(.ref x1), (.ref b1)])) rfl (by rw [hml]; rfl) (Steps.refl _) (argsL := [(.ref x1)]) (rest := []) (lenOf pd_rmDO_1 rfl) rfl (by show 2 * 0 + _ ≤ _; exact Nat.le_of_eq rfl) (hb hby d7_16) (fun _ _ => ⟨rfl, e6, (by decide : 4 + 0 ≤ _), (by decide : 72 + 0 ≤ _)⟩)
  dsimp only [Pt.U, Pt.locs, Pt.cells, Pt.slots] at X8 l8 y8 z8 st8 hQ8
  subst y8 z8
  obtain ⟨h8, e8⟩ : ∃ z, T8.heap = z := ⟨_, rfl⟩
  rw [e8] at hQ8
  obtain ⟨rfl, Nq8, Kq8, Fvalue8, Fcoder8, Fcount8, Aq8⟩ := hQ8
  have N8 : Fr n0 L8 := l8 ▸ Fr.app N5 Nq8
  refine GlW.st (fun _ kk => st8.trans kk) ?_
  have sfk8 : ∀ x ∈ [b1, d2], Safe Z consts_1 _ _ x := (allS Sf_b1 (allS Sf_d2 all0))
  replace Sf_b1 := Safe.keep Kq8 sfk8 HC5.1 Sf_b1
  replace Sf_d2 := Safe.keep Kq8 sfk8 HC5.1 Sf_d2
  have HC8 := HC5.trans (CHr.keep Kq8 sfk8 HC5.1)
  have hk8 := Nat.le_trans hk5 Kq8.1
  replace Exa_a1 := Exa_a1.keep Kq8
  replace F_table_a1 := F_table_a1.keep Kq8 (ninS ne_a1_b1 (ninS ne_a1_d2 nin0))
  replace F_ownerColumn_a1 := F_ownerColumn_a1.keep Kq8 (ninS ne_a1_b1 (ninS ne_a1_d2 nin0))
  replace Exa_x1 := Exa_x1.keep Kq8
  replace F_value_x1 := F_value_x1.keep Kq8 (ninS ne_x1_b1 (ninS ne_x1_d2 nin0))
  replace F_coder_x1 := F_coder_x1.keep Kq8 (ninS ne_x1_b1 (ninS ne_x1_d2 nin0))
  replace Arv_t1 := Arv_t1.keep Kq8 (ninS ne_t1_b1 (ninS ne_t1_d2 nin0))
  replace Exa_x2 := Exa_x2.keep Kq8
  replace F_value_x2 := F_value_x2.keep Kq8 (ninS ne_x2_b1 (ninS ne_x2_d2 nin0))
  replace F_coder_x2 := F_coder_x2.keep Kq8 (ninS ne_x2_b1 (ninS ne_x2_d2 nin0))
  replace Arv_t2 := Arv_t2.keep Kq8 (ninS ne_t2_b1 (ninS ne_t2_d2 nin0))
  replace Exa_x3 := Exa_x3.keep Kq8
  replace F_value_x3 := F_value_x3.keep Kq8 (ninS ne_x3_b1 (ninS ne_x3_d2 nin0))
  replace F_coder_x3 := F_coder_x3.keep Kq8 (ninS ne_x3_b1 (ninS ne_x3_d2 nin0))
  replace Arv_t3 := Arv_t3.keep Kq8 (ninS ne_t3_b1 (ninS ne_t3_d2 nin0))
  replace Exa_b1 := Exa_b1.keep Kq8
  have O8 := O5.keep Kq8 (allS ge_b1 (allS ge_d2 all0))
  have K8 := K5.trans Kq8 (allS (Or.inr fr_b1) (allS (Or.inr fr_d2) all0))
  have F_value_b1 := Fvalue8
  have F_coder_b1 := Fcoder8
  have F_count_b1 := Fcount8
  have Arv_d2 := Aq8
  have F_count_b1 : Fld Z h8 b1 "java/lang/AbstractStringBuilder" "count" "I" (.int (13 : Int32)) := Fcount8
  clear st8 qc8 qb8 qa8 kq8 cq8
  clear O5 K5 N5 HC5 hk5 X6 e6
  show GlW Z consts_1 p e below s _ _ _ T8 (mkF m 19 #[.val (.ref a1), .val (.ref x3)] [(.ref b1)])
  obtain ⟨la9, T9, h9, kn9, lb9, kc9, X9, e9, E9, hS9, hk9, hZ9, hown9, Exa_la9, F_coder_la9, F_value_la9, Arv_lb9, lta9, ltb9, HR9, Li9, sf9, st9⟩ := ldcCH X8 hx hZ hown (hw _ (List.mem_of_getElem? (i := 111) rfl)) hwS e8 hS3 hk8 hEL (List.mem_of_getElem? (i := 0) rfl) HC8.1 (vs := [(.int (32 : Int32)), (.int (87 : Int32)), (.int (72 : Int32)), (.int (69 : Int32)), (.int (82 : Int32)), (.int (69 : Int32)), (.int (32 : Int32))]) (z := 7) ⟨by decide +kernel, by decide +kernel⟩ (by decide) rfl (g := (mkF m 19 #[.val (.ref a1), .val (.ref x3)] [(.ref b1)])) rfl (hb hby d7_19) (n := 28) (by decide) (by decide) (by decide) (by decide)
  refine GlW.st st9 ?_
  replace Sf_b1 := HR9.safe Exa_b1.lt Sf_b1
  replace Sf_d2 := HR9.safe Arv_d2.lt Sf_d2
  replace Exa_a1 := Exa_a1.ext E9
  replace F_table_a1 := F_table_a1.ext E9
  replace F_ownerColumn_a1 := F_ownerColumn_a1.ext E9
  replace Exa_x1 := Exa_x1.ext E9
  replace F_value_x1 := F_value_x1.ext E9
  replace F_coder_x1 := F_coder_x1.ext E9
  replace Arv_t1 := Arv_t1.ext E9
  replace Exa_x2 := Exa_x2.ext E9
  replace F_value_x2 := F_value_x2.ext E9
  replace F_coder_x2 := F_coder_x2.ext E9
  replace Arv_t2 := Arv_t2.ext E9
  replace Exa_x3 := Exa_x3.ext E9
  replace F_value_x3 := F_value_x3.ext E9
  replace F_coder_x3 := F_coder_x3.ext E9
  replace Arv_t3 := Arv_t3.ext E9
  replace Exa_b1 := Exa_b1.ext E9
  replace F_value_b1 := F_value_b1.ext E9
  replace F_coder_b1 := F_coder_b1.ext E9
  replace F_count_b1 := F_count_b1.ext E9
  replace Arv_d2 := Arv_d2.ext E9
  have O9 := O8.ext E9
  have K9 := K8.ext E9
  have HC9 := HC8.trans HR9
  have hZ := hZ9
  have hown := hown9
  have ne_b1_la9 := (sf9 _ Sf_b1).1
  have ne_b1_lb9 := (sf9 _ Sf_b1).2
  have ne_d2_la9 := (sf9 _ Sf_d2).1
  have ne_d2_lb9 := (sf9 _ Sf_d2).2
  show GlW Z consts_1 p e below s _ _ _ T9 (mkF m 21 #[.val (.ref a1), .val (.ref x3)] [(.ref la9), (.ref b1)])
  have hg10 : own_fits 16 16 34 0 [(.int (68 : Int32)), (.int (69 : Int32)), (.int (76 : Int32)), (.int (69 : Int32)), (.int (84 : Int32)), (.int (69 : Int32)), (.int (32 : Int32)), (.int (70 : Int32)), (.int (82 : Int32)), (.int (79 : Int32)), (.int (77 : Int32)), (.int (32 : Int32)), (.int y1), (.int (0 : Int32)), (.int (0 : Int32)), (.int (0 : Int32))] [(.int (68 : Int32)), (.int (69 : Int32)), (.int (76 : Int32)), (.int (69 : Int32)), (.int (84 : Int32)), (.int (69 : Int32)), (.int (32 : Int32)), (.int (70 : Int32)), (.int (82 : Int32)), (.int (79 : Int32)), (.int (77 : Int32)), (.int (32 : Int32)), (.int y1), (.int (0 : Int32)), (.int (0 : Int32)), (.int (0 : Int32))] [(.int (0 : Int32)), (.int (0 : Int32)), (.int (0 : Int32)), (.int (0 : Int32)), (.int (0 : Int32)), (.int (0 : Int32)), (.int (0 : Int32)), (.int (0 : Int32)), (.int (0 : Int32)), (.int (0 : Int32)), (.int (0 : Int32)), (.int (0 : Int32)), (.int (0 : Int32)), (.int (0 : Int32)), (.int (0 : Int32)), (.int (0 : Int32)), (.int (0 : Int32)), (.int (0 : Int32)), (.int (0 : Int32)), (.int (0 : Int32)), (.int (0 : Int32)), (.int (0 : Int32)), (.int (0 : Int32)), (.int (0 : Int32)), (.int (0 : Int32)), (.int (0 : Int32)), (.int (0 : Int32)), (.int (0 : Int32)), (.int (0 : Int32)), (.int (0 : Int32)), (.int (0 : Int32)), (.int (0 : Int32)), (.int (0 : Int32)), (.int (0 : Int32))] [(.int (68 : Int32)), (.int (69 : Int32)), (.int (76 : Int32)), (.int (69 : Int32)), (.int (84 : Int32)), (.int (69 : Int32)), (.int (32 : Int32)), (.int (70 : Int32)), (.int (82 : Int32)), (.int (79 : Int32)), (.int (77 : Int32)), (.int (32 : Int32)), (.int y1), (.int (0 : Int32)), (.int (0 : Int32)), (.int (0 : Int32)), (.int (0 : Int32)), (.int (0 : Int32)), (.int (0 : Int32)), (.int (0 : Int32)), (.int (0 : Int32)), (.int (0 : Int32)), (.int (0 : Int32)), (.int (0 : Int32)), (.int (0 : Int32)), (.int (0 : Int32)), (.int (0 : Int32)), (.int (0 : Int32)), (.int (0 : Int32)), (.int (0 : Int32)), (.int (0 : Int32)), (.int (0 : Int32)), (.int (0 : Int32)), (.int (0 : Int32))] := ⟨by decide, by decide, Nat.le_refl _, Nat.le_of_ble_eq_true rfl, rfl, Nat.le_of_ble_eq_true rfl, rfl⟩
  have hf10 : own_fits 7 7 34 13 [(.int (32 : Int32)), (.int (87 : Int32)), (.int (72 : Int32)), (.int (69 : Int32)), (.int (82 : Int32)), (.int (69 : Int32)), (.int (32 : Int32))] [(.int (32 : Int32)), (.int (87 : Int32)), (.int (72 : Int32)), (.int (69 : Int32)), (.int (82 : Int32)), (.int (69 : Int32)), (.int (32 : Int32))] [(.int (68 : Int32)), (.int (69 : Int32)), (.int (76 : Int32)), (.int (69 : Int32)), (.int (84 : Int32)), (.int (69 : Int32)), (.int (32 : Int32)), (.int (70 : Int32)), (.int (82 : Int32)), (.int (79 : Int32)), (.int (77 : Int32)), (.int (32 : Int32)), (.int y1), (.int (0 : Int32)), (.int (0 : Int32)), (.int (0 : Int32)), (.int (0 : Int32)), (.int (0 : Int32)), (.int (0 : Int32)), (.int (0 : Int32)), (.int (0 : Int32)), (.int (0 : Int32)), (.int (0 : Int32)), (.int (0 : Int32)), (.int (0 : Int32)), (.int (0 : Int32)), (.int (0 : Int32)), (.int (0 : Int32)), (.int (0 : Int32)), (.int (0 : Int32)), (.int (0 : Int32)), (.int (0 : Int32)), (.int (0 : Int32)), (.int (0 : Int32))] [(.int (68 : Int32)), (.int (69 : Int32)), (.int (76 : Int32)), (.int (69 : Int32)), (.int (84 : Int32)), (.int (69 : Int32)), (.int (32 : Int32)), (.int (70 : Int32)), (.int (82 : Int32)), (.int (79 : Int32)), (.int (77 : Int32)), (.int (32 : Int32)), (.int y1), (.int (32 : Int32)), (.int (87 : Int32)), (.int (72 : Int32)), (.int (69 : Int32)), (.int (82 : Int32)), (.int (69 : Int32)), (.int (32 : Int32)), (.int (0 : Int32)), (.int (0 : Int32)), (.int (0 : Int32)), (.int (0 : Int32)), (.int (0 : Int32)), (.int (0 : Int32)), (.int (0 : Int32)), (.int (0 : Int32)), (.int (0 : Int32)), (.int (0 : Int32)), (.int (0 : Int32)), (.int (0 : Int32)), (.int (0 : Int32)), (.int (0 : Int32))] := ⟨by decide, by decide, Nat.le_refl _, Nat.le_of_ble_eq_true rfl, rfl, Nat.le_of_ble_eq_true rfl, rfl⟩
  obtain ⟨cq11, kq11, qa11, qb11, qc11⟩ := isOf (s := s.setVm T9.vm) hZ e9 Exa_b1
  have lq11_a1 := Exa_a1.lt
  have lq11_b1 := Exa_b1.lt
  have lq11_d2 := Arv_d2.lt
  have lq11_la9 := Exa_la9.lt
  have lq11_lb9 := Arv_lb9.lt
  have lq11_t1 := Arv_t1.lt
  have lq11_t2 := Arv_t2.lt
  have lq11_t3 := Arv_t3.lt
  have lq11_x1 := Exa_x1.lt
  have lq11_x2 := Exa_x2.lt
  have lq11_x3 := Exa_x3.lt
  obtain ⟨v11, _, ⟨T11, L11, kQ11, nQ11⟩, -, X11, ⟨Lc11, hQ11, l11, y11, z11⟩, st11⟩ := X9.virtualBack hx (y := (⟨"java/lang/StringBuilder", "append", "(Ljava/lang/String;)Ljava/lang/StringBuilder;"⟩ : MethodName)) (z := (⟨"java/lang/StringBuilder", "append", "(Ljava/lang/String;)Ljava/lang/StringBuilder;"⟩ : MethodName)) hown (mvT hZ (hw _ (List.mem_of_getElem? (i := 64) rfl))) (mvT hZ (hw _ (List.mem_of_getElem? (i := 65) rfl))) (notFace_of_selects (args := #[]) (mvT hZ (hw _ (List.mem_of_getElem? (i := 67) rfl)))) (mvT hZ (hw _ (List.mem_of_getElem? (i := 67) rfl))) (mvT hZ (hw _ (List.mem_of_getElem? (i := 66) rfl))) (by decide) (backOf (W := 0) (rmGB2 l Z a0 hw [] b1 la9 d2 lb9 kc9 kd2 [(.int (32 : Int32)), (.int (87 : Int32)), (.int (72 : Int32)), (.int (69 : Int32)), (.int (82 : Int32)), (.int (69 : Int32)), (.int (32 : Int32))] [(.int (68 : Int32)), (.int (69 : Int32)), (.int (76 : Int32)), (.int (69 : Int32)), (.int (84 : Int32)), (.int (69 : Int32)), (.int (32 : Int32)), (.int (70 : Int32)), (.int (82 : Int32)), (.int (79 : Int32)), (.int (77 : Int32)), (.int (32 : Int32)), (.int y1), (.int (0 : Int32)), (.int (0 : Int32)), (.int (0 : Int32))] [(.int (68 : Int32)), (.int (69 : Int32)), (.int (76 : Int32)), (.int (69 : Int32)), (.int (84 : Int32)), (.int (69 : Int32)), (.int (32 : Int32)), (.int (70 : Int32)), (.int (82 : Int32)), (.int (79 : Int32)), (.int (77 : Int32)), (.int (32 : Int32)), (.int y1), (.int (0 : Int32)), (.int (0 : Int32)), (.int (0 : Int32))] [(.int (68 : Int32)), (.int (69 : Int32)), (.int (76 : Int32)), (.int (69 : Int32)), (.int (84 : Int32)), (.int (69 : Int32)), (.int (32 : Int32)), (.int (70 : Int32)), (.int (82 : Int32)), (.int (79 : Int32)), (.int (77 : Int32)), (.int (32 : Int32)), (.int y1), (.int (0 : Int32)), (.int (0 : Int32)), (.int (0 : Int32)), (.int (0 : Int32)), (.int (0 : Int32)), (.int (0 : Int32)), (.int (0 : Int32)), (.int (0 : Int32)), (.int (0 : Int32)), (.int (0 : Int32)), (.int (0 : Int32)), (.int (0 : Int32)), (.int (0 : Int32)), (.int (0 : Int32)), (.int (0 : Int32)), (.int (0 : Int32)), (.int (0 : Int32)), (.int (0 : Int32)), (.int (0 : Int32)), (.int (0 : Int32)), (.int (0 : Int32))] [(.int (68 : Int32)), (.int (69 : Int32)), (.int (76 : Int32)), (.int (69 : Int32)), (.int (84 : Int32)), (.int (69 : Int32)), (.int (32 : Int32)), (.int (70 : Int32)), (.int (82 : Int32)), (.int (79 : Int32)), (.int (77 : Int32)), (.int (32 : Int32)), (.int y1), (.int (32 : Int32)), (.int (87 : Int32)), (.int (72 : Int32)), (.int (69 : Int32)), (.int (82 : Int32)), (.int (69 : Int32)), (.int (32 : Int32)), (.int (0 : Int32)), (.int (0 : Int32)), (.int (0 : Int32)), (.int (0 : Int32)), (.int (0 : Int32)), (.int (0 : Int32)), (.int (0 : Int32)), (.int (0 : Int32)), (.int (0 : Int32)), (.int (0 : Int32)), (.int (0 : Int32)), (.int (0 : Int32)), (.int (0 : Int32)), (.int (0 : Int32))] cz h9 n0 O9 Exa_b1 F_value_b1 F_coder_b1 F_count_b1 Arv_d2 Exa_la9 F_value_la9 F_coder_la9 Arv_lb9 hg10 hf10 ge_b1 (Ne.symm ne_b1_d2) (Ne.symm ne_b1_lb9) (Ne.symm ne_b1_la9) S_COMPACT hcz) hZ (hw _ (List.mem_of_getElem? (i := 68) rfl)) (hw _ (List.mem_of_getElem? (i := 45) rfl)) (by decide) (by decide)) qa11 qc11 (g := (mkF m 21 #[.val (.ref a1), .val (.ref x3)] [(.ref la9), (.ref b1)])) rfl (by rw [hml]; rfl) (Steps.refl _) (argsL := [(.ref la9)]) (rest := []) (lenOf pd_rmDO_1 rfl) rfl (by show 2 * 0 + _ ≤ _; exact Nat.le_of_eq rfl) (hb hby d7_21) (fun _ _ => ⟨rfl, e9, (by decide : 6 + 1 ≤ _), (by decide : 104 + 34 ≤ _)⟩)
  dsimp only [Pt.U, Pt.locs, Pt.cells, Pt.slots] at X11 l11 y11 z11 st11 hQ11
  subst y11 z11
  obtain ⟨h11, e11⟩ : ∃ z, T11.heap = z := ⟨_, rfl⟩
  rw [e11] at hQ11
  obtain ⟨rfl, Nq11, Kq11, b11, kb11, Fvalue11, Fcoder11, Fcount11, Arv_b11, frb11⟩ := hQ11
  have N11 : Fr n0 L11 := l11 ▸ Fr.app N8 Nq11
  refine GlW.st (fun _ kk => st11.trans kk) ?_
  have sfk11 : ∀ x ∈ [b1], Safe Z consts_1 _ _ x := (allS Sf_b1 all0)
  replace Sf_b1 := Safe.keep Kq11 sfk11 HC9.1 Sf_b1
  replace Sf_d2 := Safe.keep Kq11 sfk11 HC9.1 Sf_d2
  have HC11 := HC9.trans (CHr.keep Kq11 sfk11 HC9.1)
  have hk11 := Nat.le_trans hk9 Kq11.1
  replace Exa_a1 := Exa_a1.keep Kq11
  replace F_table_a1 := F_table_a1.keep Kq11 (ninS ne_a1_b1 nin0)
  replace F_ownerColumn_a1 := F_ownerColumn_a1.keep Kq11 (ninS ne_a1_b1 nin0)
  replace Exa_x1 := Exa_x1.keep Kq11
  replace F_value_x1 := F_value_x1.keep Kq11 (ninS ne_x1_b1 nin0)
  replace F_coder_x1 := F_coder_x1.keep Kq11 (ninS ne_x1_b1 nin0)
  replace Arv_t1 := Arv_t1.keep Kq11 (ninS ne_t1_b1 nin0)
  replace Exa_x2 := Exa_x2.keep Kq11
  replace F_value_x2 := F_value_x2.keep Kq11 (ninS ne_x2_b1 nin0)
  replace F_coder_x2 := F_coder_x2.keep Kq11 (ninS ne_x2_b1 nin0)
  replace Arv_t2 := Arv_t2.keep Kq11 (ninS ne_t2_b1 nin0)
  replace Exa_x3 := Exa_x3.keep Kq11
  replace F_value_x3 := F_value_x3.keep Kq11 (ninS ne_x3_b1 nin0)
  replace F_coder_x3 := F_coder_x3.keep Kq11 (ninS ne_x3_b1 nin0)
  replace Arv_t3 := Arv_t3.keep Kq11 (ninS ne_t3_b1 nin0)
  replace Exa_b1 := Exa_b1.keep Kq11
  replace Arv_d2 := Arv_d2.keep Kq11 (ninS (Ne.symm ne_b1_d2) nin0)
  replace Exa_la9 := Exa_la9.keep Kq11
  replace F_coder_la9 := F_coder_la9.keep Kq11 (ninS (Ne.symm ne_b1_la9) nin0)
  replace F_value_la9 := F_value_la9.keep Kq11 (ninS (Ne.symm ne_b1_la9) nin0)
  replace Arv_lb9 := Arv_lb9.keep Kq11 (ninS (Ne.symm ne_b1_lb9) nin0)
  have O11 := O9.keep Kq11 (allS ge_b1 all0)
  have K11 := K9.trans Kq11 (allS (Or.inr fr_b1) all0)
  have ne_a1_b11 : a1 ≠ b11 := Nat.ne_of_lt (Nat.lt_of_lt_of_le lq11_a1 frb11)
  have ne_b1_b11 : b1 ≠ b11 := Nat.ne_of_lt (Nat.lt_of_lt_of_le lq11_b1 frb11)
  have ne_d2_b11 : d2 ≠ b11 := Nat.ne_of_lt (Nat.lt_of_lt_of_le lq11_d2 frb11)
  have ne_la9_b11 : la9 ≠ b11 := Nat.ne_of_lt (Nat.lt_of_lt_of_le lq11_la9 frb11)
  have ne_lb9_b11 : lb9 ≠ b11 := Nat.ne_of_lt (Nat.lt_of_lt_of_le lq11_lb9 frb11)
  have ne_t1_b11 : t1 ≠ b11 := Nat.ne_of_lt (Nat.lt_of_lt_of_le lq11_t1 frb11)
  have ne_t2_b11 : t2 ≠ b11 := Nat.ne_of_lt (Nat.lt_of_lt_of_le lq11_t2 frb11)
  have ne_t3_b11 : t3 ≠ b11 := Nat.ne_of_lt (Nat.lt_of_lt_of_le lq11_t3 frb11)
  have ne_x1_b11 : x1 ≠ b11 := Nat.ne_of_lt (Nat.lt_of_lt_of_le lq11_x1 frb11)
  have ne_x2_b11 : x2 ≠ b11 := Nat.ne_of_lt (Nat.lt_of_lt_of_le lq11_x2 frb11)
  have ne_x3_b11 : x3 ≠ b11 := Nat.ne_of_lt (Nat.lt_of_lt_of_le lq11_x3 frb11)
  have ge_b11 : n0 ≤ b11 := Nat.le_trans (Nat.le_trans (Nat.le_of_eq O9.1.symm) O9.2.1) frb11
  have fr_b11 : h0.size ≤ b11 := Nat.le_trans K9.1 frb11
  have Sf_b11 : Safe Z consts_1 T9.vm h11 b11 := Safe.keep Kq11 sfk11 HC9.1 (Safe.new frb11)
  have F_value_b1 := Fvalue11
  have F_coder_b1 := Fcoder11
  have F_count_b1 := Fcount11
  clear st11 qc11 qb11 qa11 kq11 cq11
  clear O9 K9 N8 HC9 hk9 X9 e9
  show GlW Z consts_1 p e below s _ _ _ T11 (mkF m 24 #[.val (.ref a1), .val (.ref x3)] [(.ref b1)])
  refine GlW.st (fun _ kk => XS.aloadN X11.here hx rfl (hb hby d7_24) rfl rfl kk) ?_
  show GlW Z consts_1 p e below s _ _ _ T11 (mkF m 25 #[.val (.ref a1), .val (.ref x3)] [(.ref a1), (.ref b1)])
  obtain ⟨T12, X12, e12, st12⟩ := getF X11 hx hZ hown (host := "") (Or.inl (hw _ (List.mem_of_getElem? (i := 36) rfl))) Via.refl e11 F_ownerColumn_a1 (g := (mkF m 25 #[.val (.ref a1), .val (.ref x3)] [(.ref a1), (.ref b1)])) rfl rfl (hb hby d7_25)
  refine GlW.st st12 ?_
  show GlW Z consts_1 p e below s _ _ _ T12 (mkF m 28 #[.val (.ref a1), .val (.ref x3)] [(.ref x2), (.ref b1)])
  have hf13 : own_fits (1 : Int32) (1 : Int32) (34 : Int32) (20 : Int32) [(.int y2)] [(.int y2)] [(.int (68 : Int32)), (.int (69 : Int32)), (.int (76 : Int32)), (.int (69 : Int32)), (.int (84 : Int32)), (.int (69 : Int32)), (.int (32 : Int32)), (.int (70 : Int32)), (.int (82 : Int32)), (.int (79 : Int32)), (.int (77 : Int32)), (.int (32 : Int32)), (.int y1), (.int (32 : Int32)), (.int (87 : Int32)), (.int (72 : Int32)), (.int (69 : Int32)), (.int (82 : Int32)), (.int (69 : Int32)), (.int (32 : Int32)), (.int (0 : Int32)), (.int (0 : Int32)), (.int (0 : Int32)), (.int (0 : Int32)), (.int (0 : Int32)), (.int (0 : Int32)), (.int (0 : Int32)), (.int (0 : Int32)), (.int (0 : Int32)), (.int (0 : Int32)), (.int (0 : Int32)), (.int (0 : Int32)), (.int (0 : Int32)), (.int (0 : Int32))] [(.int (68 : Int32)), (.int (69 : Int32)), (.int (76 : Int32)), (.int (69 : Int32)), (.int (84 : Int32)), (.int (69 : Int32)), (.int (32 : Int32)), (.int (70 : Int32)), (.int (82 : Int32)), (.int (79 : Int32)), (.int (77 : Int32)), (.int (32 : Int32)), (.int y1), (.int (32 : Int32)), (.int (87 : Int32)), (.int (72 : Int32)), (.int (69 : Int32)), (.int (82 : Int32)), (.int (69 : Int32)), (.int (32 : Int32)), (.int y2), (.int (0 : Int32)), (.int (0 : Int32)), (.int (0 : Int32)), (.int (0 : Int32)), (.int (0 : Int32)), (.int (0 : Int32)), (.int (0 : Int32)), (.int (0 : Int32)), (.int (0 : Int32)), (.int (0 : Int32)), (.int (0 : Int32)), (.int (0 : Int32)), (.int (0 : Int32))] := ⟨by decide, by decide, Nat.le_refl _, Nat.le_of_ble_eq_true rfl, rfl, Nat.le_of_ble_eq_true rfl, rfl⟩
  obtain ⟨cq14, kq14, qa14, qb14, qc14⟩ := isOf (s := s.setVm T9.vm) hZ e12 Exa_b1
  obtain ⟨v14, _, ⟨T14, L14, kQ14, nQ14⟩, -, X14, ⟨Lc14, hQ14, l14, y14, z14⟩, st14⟩ := X12.virtualBack hx (y := (⟨"java/lang/StringBuilder", "append", "(Ljava/lang/String;)Ljava/lang/StringBuilder;"⟩ : MethodName)) (z := (⟨"java/lang/StringBuilder", "append", "(Ljava/lang/String;)Ljava/lang/StringBuilder;"⟩ : MethodName)) hown (mvT hZ (hw _ (List.mem_of_getElem? (i := 64) rfl))) (mvT hZ (hw _ (List.mem_of_getElem? (i := 65) rfl))) (notFace_of_selects (args := #[]) (mvT hZ (hw _ (List.mem_of_getElem? (i := 67) rfl)))) (mvT hZ (hw _ (List.mem_of_getElem? (i := 67) rfl))) (mvT hZ (hw _ (List.mem_of_getElem? (i := 66) rfl))) (by decide) (backOf (W := 0) (rmBA l Z a0 hw [] b1 x2 b11 t2 k2 (1 : Int32) [(.int y2)] kb11 (34 : Int32) (20 : Int32) [(.int (68 : Int32)), (.int (69 : Int32)), (.int (76 : Int32)), (.int (69 : Int32)), (.int (84 : Int32)), (.int (69 : Int32)), (.int (32 : Int32)), (.int (70 : Int32)), (.int (82 : Int32)), (.int (79 : Int32)), (.int (77 : Int32)), (.int (32 : Int32)), (.int y1), (.int (32 : Int32)), (.int (87 : Int32)), (.int (72 : Int32)), (.int (69 : Int32)), (.int (82 : Int32)), (.int (69 : Int32)), (.int (32 : Int32)), (.int (0 : Int32)), (.int (0 : Int32)), (.int (0 : Int32)), (.int (0 : Int32)), (.int (0 : Int32)), (.int (0 : Int32)), (.int (0 : Int32)), (.int (0 : Int32)), (.int (0 : Int32)), (.int (0 : Int32)), (.int (0 : Int32)), (.int (0 : Int32)), (.int (0 : Int32)), (.int (0 : Int32))] [(.int (68 : Int32)), (.int (69 : Int32)), (.int (76 : Int32)), (.int (69 : Int32)), (.int (84 : Int32)), (.int (69 : Int32)), (.int (32 : Int32)), (.int (70 : Int32)), (.int (82 : Int32)), (.int (79 : Int32)), (.int (77 : Int32)), (.int (32 : Int32)), (.int y1), (.int (32 : Int32)), (.int (87 : Int32)), (.int (72 : Int32)), (.int (69 : Int32)), (.int (82 : Int32)), (.int (69 : Int32)), (.int (32 : Int32)), (.int y2), (.int (0 : Int32)), (.int (0 : Int32)), (.int (0 : Int32)), (.int (0 : Int32)), (.int (0 : Int32)), (.int (0 : Int32)), (.int (0 : Int32)), (.int (0 : Int32)), (.int (0 : Int32)), (.int (0 : Int32)), (.int (0 : Int32)), (.int (0 : Int32)), (.int (0 : Int32))] cz h11 n0 O11 Exa_b1 F_value_b1 F_coder_b1 F_count_b1 Exa_x2 F_value_x2 F_coder_x2 Arv_t2 Arv_b11 hf13 ge_b11 ne_t2_b1 ne_t2_b11 ne_x2_b1 ne_x2_b11 ne_b1_b11 S_COMPACT hcz (by decide) ge_b1) hZ (hw _ (List.mem_of_getElem? (i := 68) rfl)) (hw _ (List.mem_of_getElem? (i := 45) rfl)) (by decide) (by decide)) qa14 qc14 (g := (mkF m 28 #[.val (.ref a1), .val (.ref x3)] [(.ref x2), (.ref b1)])) rfl (by rw [hml]; rfl) (Steps.refl _) (argsL := [(.ref x2)]) (rest := []) (lenOf pd_rmDO_1 rfl) rfl (by show 2 * 0 + _ ≤ _; exact Nat.le_of_eq rfl) (hb hby d7_28) (fun _ _ => ⟨rfl, e12, (by decide : 7 + 0 ≤ _), (by decide : 138 + 0 ≤ _)⟩)
  dsimp only [Pt.U, Pt.locs, Pt.cells, Pt.slots] at X14 l14 y14 z14 st14 hQ14
  subst y14 z14
  obtain ⟨h14, e14⟩ : ∃ z, T14.heap = z := ⟨_, rfl⟩
  rw [e14] at hQ14
  obtain ⟨rfl, Nq14, Kq14, Fvalue14, Fcoder14, Fcount14, Aq14⟩ := hQ14
  have N14 : Fr n0 L14 := l14 ▸ Fr.app N11 Nq14
  refine GlW.st (fun _ kk => st14.trans kk) ?_
  have sfk14 : ∀ x ∈ [b1, b11], Safe Z consts_1 _ _ x := (allS Sf_b1 (allS Sf_b11 all0))
  replace Sf_b1 := Safe.keep Kq14 sfk14 HC11.1 Sf_b1
  replace Sf_d2 := Safe.keep Kq14 sfk14 HC11.1 Sf_d2
  replace Sf_b11 := Safe.keep Kq14 sfk14 HC11.1 Sf_b11
  have HC14 := HC11.trans (CHr.keep Kq14 sfk14 HC11.1)
  have hk14 := Nat.le_trans hk11 Kq14.1
  replace Exa_a1 := Exa_a1.keep Kq14
  replace F_table_a1 := F_table_a1.keep Kq14 (ninS ne_a1_b1 (ninS ne_a1_b11 nin0))
  replace F_ownerColumn_a1 := F_ownerColumn_a1.keep Kq14 (ninS ne_a1_b1 (ninS ne_a1_b11 nin0))
  replace Exa_x1 := Exa_x1.keep Kq14
  replace F_value_x1 := F_value_x1.keep Kq14 (ninS ne_x1_b1 (ninS ne_x1_b11 nin0))
  replace F_coder_x1 := F_coder_x1.keep Kq14 (ninS ne_x1_b1 (ninS ne_x1_b11 nin0))
  replace Arv_t1 := Arv_t1.keep Kq14 (ninS ne_t1_b1 (ninS ne_t1_b11 nin0))
  replace Exa_x2 := Exa_x2.keep Kq14
  replace F_value_x2 := F_value_x2.keep Kq14 (ninS ne_x2_b1 (ninS ne_x2_b11 nin0))
  replace F_coder_x2 := F_coder_x2.keep Kq14 (ninS ne_x2_b1 (ninS ne_x2_b11 nin0))
  replace Arv_t2 := Arv_t2.keep Kq14 (ninS ne_t2_b1 (ninS ne_t2_b11 nin0))
  replace Exa_x3 := Exa_x3.keep Kq14
  replace F_value_x3 := F_value_x3.keep Kq14 (ninS ne_x3_b1 (ninS ne_x3_b11 nin0))
  replace F_coder_x3 := F_coder_x3.keep Kq14 (ninS ne_x3_b1 (ninS ne_x3_b11 nin0))
  replace Arv_t3 := Arv_t3.keep Kq14 (ninS ne_t3_b1 (ninS ne_t3_b11 nin0))
  replace Exa_b1 := Exa_b1.keep Kq14
  replace Arv_d2 := Arv_d2.keep Kq14 (ninS (Ne.symm ne_b1_d2) (ninS ne_d2_b11 nin0))
  have O14 := O11.keep Kq14 (allS ge_b1 (allS ge_b11 all0))
  have K14 := K11.trans Kq14 (allS (Or.inr fr_b1) (allS (Or.inr fr_b11) all0))
  have F_value_b1 := Fvalue14
  have F_coder_b1 := Fcoder14
  have F_count_b1 := Fcount14
  have Arv_b11 := Aq14
  have F_count_b1 : Fld Z h14 b1 "java/lang/AbstractStringBuilder" "count" "I" (.int (21 : Int32)) := Fcount14
  clear st14 qc14 qb14 qa14 kq14 cq14
  clear O11 K11 N11 HC11 hk11 X12 e12
  show GlW Z consts_1 p e below s _ _ _ T14 (mkF m 31 #[.val (.ref a1), .val (.ref x3)] [(.ref b1)])
  obtain ⟨la15, T15, h15, kn15, lb15, kc15, X15, e15, E15, hS15, hk15, hZ15, hown15, Exa_la15, F_coder_la15, F_value_la15, Arv_lb15, lta15, ltb15, HR15, Li15, sf15, st15⟩ := ldcCH X14 hx hZ hown (hw _ (List.mem_of_getElem? (i := 135) rfl)) hwS e14 hS9 hk14 hEL (List.mem_of_getElem? (i := 2) rfl) HC14.1 (vs := [(.int (32 : Int32)), (.int (73 : Int32)), (.int (78 : Int32)), (.int (32 : Int32)), (.int (40 : Int32))]) (z := 5) ⟨by decide +kernel, by decide +kernel⟩ (by decide) rfl (g := (mkF m 31 #[.val (.ref a1), .val (.ref x3)] [(.ref b1)])) rfl (hb hby d7_31) (n := 20) (by decide) (by decide) (by decide) (by decide)
  refine GlW.st st15 ?_
  replace Sf_b1 := HR15.safe Exa_b1.lt Sf_b1
  replace Sf_d2 := HR15.safe Arv_d2.lt Sf_d2
  replace Sf_b11 := HR15.safe Arv_b11.lt Sf_b11
  replace Exa_a1 := Exa_a1.ext E15
  replace F_table_a1 := F_table_a1.ext E15
  replace F_ownerColumn_a1 := F_ownerColumn_a1.ext E15
  replace Exa_x1 := Exa_x1.ext E15
  replace F_value_x1 := F_value_x1.ext E15
  replace F_coder_x1 := F_coder_x1.ext E15
  replace Arv_t1 := Arv_t1.ext E15
  replace Exa_x2 := Exa_x2.ext E15
  replace F_value_x2 := F_value_x2.ext E15
  replace F_coder_x2 := F_coder_x2.ext E15
  replace Arv_t2 := Arv_t2.ext E15
  replace Exa_x3 := Exa_x3.ext E15
  replace F_value_x3 := F_value_x3.ext E15
  replace F_coder_x3 := F_coder_x3.ext E15
  replace Arv_t3 := Arv_t3.ext E15
  replace Exa_b1 := Exa_b1.ext E15
  replace Arv_d2 := Arv_d2.ext E15
  replace F_value_b1 := F_value_b1.ext E15
  replace F_coder_b1 := F_coder_b1.ext E15
  replace F_count_b1 := F_count_b1.ext E15
  replace Arv_b11 := Arv_b11.ext E15
  have O15 := O14.ext E15
  have K15 := K14.ext E15
  have HC15 := HC14.trans HR15
  have hZ := hZ15
  have hown := hown15
  have ne_b1_la15 := (sf15 _ Sf_b1).1
  have ne_b1_lb15 := (sf15 _ Sf_b1).2
  have ne_d2_la15 := (sf15 _ Sf_d2).1
  have ne_d2_lb15 := (sf15 _ Sf_d2).2
  have ne_b11_la15 := (sf15 _ Sf_b11).1
  have ne_b11_lb15 := (sf15 _ Sf_b11).2
  show GlW Z consts_1 p e below s _ _ _ T15 (mkF m 33 #[.val (.ref a1), .val (.ref x3)] [(.ref la15), (.ref b1)])
  have hf16 : own_fits (5 : Int32) (5 : Int32) (34 : Int32) (21 : Int32) [(.int (32 : Int32)), (.int (73 : Int32)), (.int (78 : Int32)), (.int (32 : Int32)), (.int (40 : Int32))] [(.int (32 : Int32)), (.int (73 : Int32)), (.int (78 : Int32)), (.int (32 : Int32)), (.int (40 : Int32))] [(.int (68 : Int32)), (.int (69 : Int32)), (.int (76 : Int32)), (.int (69 : Int32)), (.int (84 : Int32)), (.int (69 : Int32)), (.int (32 : Int32)), (.int (70 : Int32)), (.int (82 : Int32)), (.int (79 : Int32)), (.int (77 : Int32)), (.int (32 : Int32)), (.int y1), (.int (32 : Int32)), (.int (87 : Int32)), (.int (72 : Int32)), (.int (69 : Int32)), (.int (82 : Int32)), (.int (69 : Int32)), (.int (32 : Int32)), (.int y2), (.int (0 : Int32)), (.int (0 : Int32)), (.int (0 : Int32)), (.int (0 : Int32)), (.int (0 : Int32)), (.int (0 : Int32)), (.int (0 : Int32)), (.int (0 : Int32)), (.int (0 : Int32)), (.int (0 : Int32)), (.int (0 : Int32)), (.int (0 : Int32)), (.int (0 : Int32))] [(.int (68 : Int32)), (.int (69 : Int32)), (.int (76 : Int32)), (.int (69 : Int32)), (.int (84 : Int32)), (.int (69 : Int32)), (.int (32 : Int32)), (.int (70 : Int32)), (.int (82 : Int32)), (.int (79 : Int32)), (.int (77 : Int32)), (.int (32 : Int32)), (.int y1), (.int (32 : Int32)), (.int (87 : Int32)), (.int (72 : Int32)), (.int (69 : Int32)), (.int (82 : Int32)), (.int (69 : Int32)), (.int (32 : Int32)), (.int y2), (.int (32 : Int32)), (.int (73 : Int32)), (.int (78 : Int32)), (.int (32 : Int32)), (.int (40 : Int32)), (.int (0 : Int32)), (.int (0 : Int32)), (.int (0 : Int32)), (.int (0 : Int32)), (.int (0 : Int32)), (.int (0 : Int32)), (.int (0 : Int32)), (.int (0 : Int32))] := ⟨by decide, by decide, Nat.le_refl _, Nat.le_of_ble_eq_true rfl, rfl, Nat.le_of_ble_eq_true rfl, rfl⟩
  obtain ⟨cq17, kq17, qa17, qb17, qc17⟩ := isOf (s := s.setVm T15.vm) hZ e15 Exa_b1
  obtain ⟨v17, _, ⟨T17, L17, kQ17, nQ17⟩, -, X17, ⟨Lc17, hQ17, l17, y17, z17⟩, st17⟩ := X15.virtualBack hx (y := (⟨"java/lang/StringBuilder", "append", "(Ljava/lang/String;)Ljava/lang/StringBuilder;"⟩ : MethodName)) (z := (⟨"java/lang/StringBuilder", "append", "(Ljava/lang/String;)Ljava/lang/StringBuilder;"⟩ : MethodName)) hown (mvT hZ (hw _ (List.mem_of_getElem? (i := 64) rfl))) (mvT hZ (hw _ (List.mem_of_getElem? (i := 65) rfl))) (notFace_of_selects (args := #[]) (mvT hZ (hw _ (List.mem_of_getElem? (i := 67) rfl)))) (mvT hZ (hw _ (List.mem_of_getElem? (i := 67) rfl))) (mvT hZ (hw _ (List.mem_of_getElem? (i := 66) rfl))) (by decide) (backOf (W := 0) (rmBA l Z a0 hw [] b1 la15 b11 lb15 kc15 (5 : Int32) [(.int (32 : Int32)), (.int (73 : Int32)), (.int (78 : Int32)), (.int (32 : Int32)), (.int (40 : Int32))] kb11 (34 : Int32) (21 : Int32) [(.int (68 : Int32)), (.int (69 : Int32)), (.int (76 : Int32)), (.int (69 : Int32)), (.int (84 : Int32)), (.int (69 : Int32)), (.int (32 : Int32)), (.int (70 : Int32)), (.int (82 : Int32)), (.int (79 : Int32)), (.int (77 : Int32)), (.int (32 : Int32)), (.int y1), (.int (32 : Int32)), (.int (87 : Int32)), (.int (72 : Int32)), (.int (69 : Int32)), (.int (82 : Int32)), (.int (69 : Int32)), (.int (32 : Int32)), (.int y2), (.int (0 : Int32)), (.int (0 : Int32)), (.int (0 : Int32)), (.int (0 : Int32)), (.int (0 : Int32)), (.int (0 : Int32)), (.int (0 : Int32)), (.int (0 : Int32)), (.int (0 : Int32)), (.int (0 : Int32)), (.int (0 : Int32)), (.int (0 : Int32)), (.int (0 : Int32))] [(.int (68 : Int32)), (.int (69 : Int32)), (.int (76 : Int32)), (.int (69 : Int32)), (.int (84 : Int32)), (.int (69 : Int32)), (.int (32 : Int32)), (.int (70 : Int32)), (.int (82 : Int32)), (.int (79 : Int32)), (.int (77 : Int32)), (.int (32 : Int32)), (.int y1), (.int (32 : Int32)), (.int (87 : Int32)), (.int (72 : Int32)), (.int (69 : Int32)), (.int (82 : Int32)), (.int (69 : Int32)), (.int (32 : Int32)), (.int y2), (.int (32 : Int32)), (.int (73 : Int32)), (.int (78 : Int32)), (.int (32 : Int32)), (.int (40 : Int32)), (.int (0 : Int32)), (.int (0 : Int32)), (.int (0 : Int32)), (.int (0 : Int32)), (.int (0 : Int32)), (.int (0 : Int32)), (.int (0 : Int32)), (.int (0 : Int32))] cz h15 n0 O15 Exa_b1 F_value_b1 F_coder_b1 F_count_b1 Exa_la15 F_value_la15 F_coder_la15 Arv_lb15 Arv_b11 hf16 ge_b11 (Ne.symm ne_b1_lb15) (Ne.symm ne_b11_lb15) (Ne.symm ne_b1_la15) (Ne.symm ne_b11_la15) ne_b1_b11 S_COMPACT hcz (by decide) ge_b1) hZ (hw _ (List.mem_of_getElem? (i := 68) rfl)) (hw _ (List.mem_of_getElem? (i := 45) rfl)) (by decide) (by decide)) qa17 qc17 (g := (mkF m 33 #[.val (.ref a1), .val (.ref x3)] [(.ref la15), (.ref b1)])) rfl (by rw [hml]; rfl) (Steps.refl _) (argsL := [(.ref la15)]) (rest := []) (lenOf pd_rmDO_1 rfl) rfl (by show 2 * 0 + _ ≤ _; exact Nat.le_of_eq rfl) (hb hby d7_33) (fun _ _ => ⟨rfl, e15, (by decide : 9 + 0 ≤ _), (by decide : 162 + 0 ≤ _)⟩)
  dsimp only [Pt.U, Pt.locs, Pt.cells, Pt.slots] at X17 l17 y17 z17 st17 hQ17
  subst y17 z17
  obtain ⟨h17, e17⟩ : ∃ z, T17.heap = z := ⟨_, rfl⟩
  rw [e17] at hQ17
  obtain ⟨rfl, Nq17, Kq17, Fvalue17, Fcoder17, Fcount17, Aq17⟩ := hQ17
  have N17 : Fr n0 L17 := l17 ▸ Fr.app N14 Nq17
  refine GlW.st (fun _ kk => st17.trans kk) ?_
  have sfk17 : ∀ x ∈ [b1, b11], Safe Z consts_1 _ _ x := (allS Sf_b1 (allS Sf_b11 all0))
  replace Sf_b1 := Safe.keep Kq17 sfk17 HC15.1 Sf_b1
  replace Sf_d2 := Safe.keep Kq17 sfk17 HC15.1 Sf_d2
  replace Sf_b11 := Safe.keep Kq17 sfk17 HC15.1 Sf_b11
  have HC17 := HC15.trans (CHr.keep Kq17 sfk17 HC15.1)
  have hk17 := Nat.le_trans hk15 Kq17.1
  replace Exa_a1 := Exa_a1.keep Kq17
  replace F_table_a1 := F_table_a1.keep Kq17 (ninS ne_a1_b1 (ninS ne_a1_b11 nin0))
  replace F_ownerColumn_a1 := F_ownerColumn_a1.keep Kq17 (ninS ne_a1_b1 (ninS ne_a1_b11 nin0))
  replace Exa_x1 := Exa_x1.keep Kq17
  replace F_value_x1 := F_value_x1.keep Kq17 (ninS ne_x1_b1 (ninS ne_x1_b11 nin0))
  replace F_coder_x1 := F_coder_x1.keep Kq17 (ninS ne_x1_b1 (ninS ne_x1_b11 nin0))
  replace Arv_t1 := Arv_t1.keep Kq17 (ninS ne_t1_b1 (ninS ne_t1_b11 nin0))
  replace Exa_x2 := Exa_x2.keep Kq17
  replace F_value_x2 := F_value_x2.keep Kq17 (ninS ne_x2_b1 (ninS ne_x2_b11 nin0))
  replace F_coder_x2 := F_coder_x2.keep Kq17 (ninS ne_x2_b1 (ninS ne_x2_b11 nin0))
  replace Arv_t2 := Arv_t2.keep Kq17 (ninS ne_t2_b1 (ninS ne_t2_b11 nin0))
  replace Exa_x3 := Exa_x3.keep Kq17
  replace F_value_x3 := F_value_x3.keep Kq17 (ninS ne_x3_b1 (ninS ne_x3_b11 nin0))
  replace F_coder_x3 := F_coder_x3.keep Kq17 (ninS ne_x3_b1 (ninS ne_x3_b11 nin0))
  replace Arv_t3 := Arv_t3.keep Kq17 (ninS ne_t3_b1 (ninS ne_t3_b11 nin0))
  replace Exa_b1 := Exa_b1.keep Kq17
  replace Arv_d2 := Arv_d2.keep Kq17 (ninS (Ne.symm ne_b1_d2) (ninS ne_d2_b11 nin0))
  replace Exa_la15 := Exa_la15.keep Kq17
  replace F_coder_la15 := F_coder_la15.keep Kq17 (ninS (Ne.symm ne_b1_la15) (ninS (Ne.symm ne_b11_la15) nin0))
  replace F_value_la15 := F_value_la15.keep Kq17 (ninS (Ne.symm ne_b1_la15) (ninS (Ne.symm ne_b11_la15) nin0))
  replace Arv_lb15 := Arv_lb15.keep Kq17 (ninS (Ne.symm ne_b1_lb15) (ninS (Ne.symm ne_b11_lb15) nin0))
  have O17 := O15.keep Kq17 (allS ge_b1 (allS ge_b11 all0))
  have K17 := K15.trans Kq17 (allS (Or.inr fr_b1) (allS (Or.inr fr_b11) all0))
  have F_value_b1 := Fvalue17
  have F_coder_b1 := Fcoder17
  have F_count_b1 := Fcount17
  have Arv_b11 := Aq17
  have F_count_b1 : Fld Z h17 b1 "java/lang/AbstractStringBuilder" "count" "I" (.int (26 : Int32)) := Fcount17
  clear st17 qc17 qb17 qa17 kq17 cq17
  clear O15 K15 N14 HC15 hk15 X15 e15
  show GlW Z consts_1 p e below s _ _ _ T17 (mkF m 36 #[.val (.ref a1), .val (.ref x3)] [(.ref b1)])
  refine GlW.st (fun _ kk => XS.aloadN X17.here hx rfl (hb hby d7_36) rfl rfl kk) ?_
  show GlW Z consts_1 p e below s _ _ _ T17 (mkF m 37 #[.val (.ref a1), .val (.ref x3)] [(.ref x3), (.ref b1)])
  have hf18 : own_fits (1 : Int32) (1 : Int32) (34 : Int32) (26 : Int32) [(.int y3)] [(.int y3)] [(.int (68 : Int32)), (.int (69 : Int32)), (.int (76 : Int32)), (.int (69 : Int32)), (.int (84 : Int32)), (.int (69 : Int32)), (.int (32 : Int32)), (.int (70 : Int32)), (.int (82 : Int32)), (.int (79 : Int32)), (.int (77 : Int32)), (.int (32 : Int32)), (.int y1), (.int (32 : Int32)), (.int (87 : Int32)), (.int (72 : Int32)), (.int (69 : Int32)), (.int (82 : Int32)), (.int (69 : Int32)), (.int (32 : Int32)), (.int y2), (.int (32 : Int32)), (.int (73 : Int32)), (.int (78 : Int32)), (.int (32 : Int32)), (.int (40 : Int32)), (.int (0 : Int32)), (.int (0 : Int32)), (.int (0 : Int32)), (.int (0 : Int32)), (.int (0 : Int32)), (.int (0 : Int32)), (.int (0 : Int32)), (.int (0 : Int32))] [(.int (68 : Int32)), (.int (69 : Int32)), (.int (76 : Int32)), (.int (69 : Int32)), (.int (84 : Int32)), (.int (69 : Int32)), (.int (32 : Int32)), (.int (70 : Int32)), (.int (82 : Int32)), (.int (79 : Int32)), (.int (77 : Int32)), (.int (32 : Int32)), (.int y1), (.int (32 : Int32)), (.int (87 : Int32)), (.int (72 : Int32)), (.int (69 : Int32)), (.int (82 : Int32)), (.int (69 : Int32)), (.int (32 : Int32)), (.int y2), (.int (32 : Int32)), (.int (73 : Int32)), (.int (78 : Int32)), (.int (32 : Int32)), (.int (40 : Int32)), (.int y3), (.int (0 : Int32)), (.int (0 : Int32)), (.int (0 : Int32)), (.int (0 : Int32)), (.int (0 : Int32)), (.int (0 : Int32)), (.int (0 : Int32))] := ⟨by decide, by decide, Nat.le_refl _, Nat.le_of_ble_eq_true rfl, rfl, Nat.le_of_ble_eq_true rfl, rfl⟩
  obtain ⟨cq19, kq19, qa19, qb19, qc19⟩ := isOf (s := s.setVm T15.vm) hZ e17 Exa_b1
  obtain ⟨v19, _, ⟨T19, L19, kQ19, nQ19⟩, -, X19, ⟨Lc19, hQ19, l19, y19, z19⟩, st19⟩ := X17.virtualBack hx (y := (⟨"java/lang/StringBuilder", "append", "(Ljava/lang/String;)Ljava/lang/StringBuilder;"⟩ : MethodName)) (z := (⟨"java/lang/StringBuilder", "append", "(Ljava/lang/String;)Ljava/lang/StringBuilder;"⟩ : MethodName)) hown (mvT hZ (hw _ (List.mem_of_getElem? (i := 64) rfl))) (mvT hZ (hw _ (List.mem_of_getElem? (i := 65) rfl))) (notFace_of_selects (args := #[]) (mvT hZ (hw _ (List.mem_of_getElem? (i := 67) rfl)))) (mvT hZ (hw _ (List.mem_of_getElem? (i := 67) rfl))) (mvT hZ (hw _ (List.mem_of_getElem? (i := 66) rfl))) (by decide) (backOf (W := 0) (rmBA l Z a0 hw [] b1 x3 b11 t3 k3 (1 : Int32) [(.int y3)] kb11 (34 : Int32) (26 : Int32) [(.int (68 : Int32)), (.int (69 : Int32)), (.int (76 : Int32)), (.int (69 : Int32)), (.int (84 : Int32)), (.int (69 : Int32)), (.int (32 : Int32)), (.int (70 : Int32)), (.int (82 : Int32)), (.int (79 : Int32)), (.int (77 : Int32)), (.int (32 : Int32)), (.int y1), (.int (32 : Int32)), (.int (87 : Int32)), (.int (72 : Int32)), (.int (69 : Int32)), (.int (82 : Int32)), (.int (69 : Int32)), (.int (32 : Int32)), (.int y2), (.int (32 : Int32)), (.int (73 : Int32)), (.int (78 : Int32)), (.int (32 : Int32)), (.int (40 : Int32)), (.int (0 : Int32)), (.int (0 : Int32)), (.int (0 : Int32)), (.int (0 : Int32)), (.int (0 : Int32)), (.int (0 : Int32)), (.int (0 : Int32)), (.int (0 : Int32))] [(.int (68 : Int32)), (.int (69 : Int32)), (.int (76 : Int32)), (.int (69 : Int32)), (.int (84 : Int32)), (.int (69 : Int32)), (.int (32 : Int32)), (.int (70 : Int32)), (.int (82 : Int32)), (.int (79 : Int32)), (.int (77 : Int32)), (.int (32 : Int32)), (.int y1), (.int (32 : Int32)), (.int (87 : Int32)), (.int (72 : Int32)), (.int (69 : Int32)), (.int (82 : Int32)), (.int (69 : Int32)), (.int (32 : Int32)), (.int y2), (.int (32 : Int32)), (.int (73 : Int32)), (.int (78 : Int32)), (.int (32 : Int32)), (.int (40 : Int32)), (.int y3), (.int (0 : Int32)), (.int (0 : Int32)), (.int (0 : Int32)), (.int (0 : Int32)), (.int (0 : Int32)), (.int (0 : Int32)), (.int (0 : Int32))] cz h17 n0 O17 Exa_b1 F_value_b1 F_coder_b1 F_count_b1 Exa_x3 F_value_x3 F_coder_x3 Arv_t3 Arv_b11 hf18 ge_b11 ne_t3_b1 ne_t3_b11 ne_x3_b1 ne_x3_b11 ne_b1_b11 S_COMPACT hcz (by decide) ge_b1) hZ (hw _ (List.mem_of_getElem? (i := 68) rfl)) (hw _ (List.mem_of_getElem? (i := 45) rfl)) (by decide) (by decide)) qa19 qc19 (g := (mkF m 37 #[.val (.ref a1), .val (.ref x3)] [(.ref x3), (.ref b1)])) rfl (by rw [hml]; rfl) (Steps.refl _) (argsL := [(.ref x3)]) (rest := []) (lenOf pd_rmDO_1 rfl) rfl (by show 2 * 0 + _ ≤ _; exact Nat.le_of_eq rfl) (hb hby d7_37) (fun _ _ => ⟨rfl, e17, (by decide : 9 + 0 ≤ _), (by decide : 162 + 0 ≤ _)⟩)
  dsimp only [Pt.U, Pt.locs, Pt.cells, Pt.slots] at X19 l19 y19 z19 st19 hQ19
  subst y19 z19
  obtain ⟨h19, e19⟩ : ∃ z, T19.heap = z := ⟨_, rfl⟩
  rw [e19] at hQ19
  obtain ⟨rfl, Nq19, Kq19, Fvalue19, Fcoder19, Fcount19, Aq19⟩ := hQ19
  have N19 : Fr n0 L19 := l19 ▸ Fr.app N17 Nq19
  refine GlW.st (fun _ kk => st19.trans kk) ?_
  have sfk19 : ∀ x ∈ [b1, b11], Safe Z consts_1 _ _ x := (allS Sf_b1 (allS Sf_b11 all0))
  replace Sf_b1 := Safe.keep Kq19 sfk19 HC17.1 Sf_b1
  replace Sf_d2 := Safe.keep Kq19 sfk19 HC17.1 Sf_d2
  replace Sf_b11 := Safe.keep Kq19 sfk19 HC17.1 Sf_b11
  have HC19 := HC17.trans (CHr.keep Kq19 sfk19 HC17.1)
  have hk19 := Nat.le_trans hk17 Kq19.1
  replace Exa_a1 := Exa_a1.keep Kq19
  replace F_table_a1 := F_table_a1.keep Kq19 (ninS ne_a1_b1 (ninS ne_a1_b11 nin0))
  replace F_ownerColumn_a1 := F_ownerColumn_a1.keep Kq19 (ninS ne_a1_b1 (ninS ne_a1_b11 nin0))
  replace Exa_x1 := Exa_x1.keep Kq19
  replace F_value_x1 := F_value_x1.keep Kq19 (ninS ne_x1_b1 (ninS ne_x1_b11 nin0))
  replace F_coder_x1 := F_coder_x1.keep Kq19 (ninS ne_x1_b1 (ninS ne_x1_b11 nin0))
  replace Arv_t1 := Arv_t1.keep Kq19 (ninS ne_t1_b1 (ninS ne_t1_b11 nin0))
  replace Exa_x2 := Exa_x2.keep Kq19
  replace F_value_x2 := F_value_x2.keep Kq19 (ninS ne_x2_b1 (ninS ne_x2_b11 nin0))
  replace F_coder_x2 := F_coder_x2.keep Kq19 (ninS ne_x2_b1 (ninS ne_x2_b11 nin0))
  replace Arv_t2 := Arv_t2.keep Kq19 (ninS ne_t2_b1 (ninS ne_t2_b11 nin0))
  replace Exa_x3 := Exa_x3.keep Kq19
  replace F_value_x3 := F_value_x3.keep Kq19 (ninS ne_x3_b1 (ninS ne_x3_b11 nin0))
  replace F_coder_x3 := F_coder_x3.keep Kq19 (ninS ne_x3_b1 (ninS ne_x3_b11 nin0))
  replace Arv_t3 := Arv_t3.keep Kq19 (ninS ne_t3_b1 (ninS ne_t3_b11 nin0))
  replace Exa_b1 := Exa_b1.keep Kq19
  replace Arv_d2 := Arv_d2.keep Kq19 (ninS (Ne.symm ne_b1_d2) (ninS ne_d2_b11 nin0))
  have O19 := O17.keep Kq19 (allS ge_b1 (allS ge_b11 all0))
  have K19 := K17.trans Kq19 (allS (Or.inr fr_b1) (allS (Or.inr fr_b11) all0))
  have F_value_b1 := Fvalue19
  have F_coder_b1 := Fcoder19
  have F_count_b1 := Fcount19
  have Arv_b11 := Aq19
  have F_count_b1 : Fld Z h19 b1 "java/lang/AbstractStringBuilder" "count" "I" (.int (27 : Int32)) := Fcount19
  clear st19 qc19 qb19 qa19 kq19 cq19
  clear O17 K17 N17 HC17 hk17 X17 e17
  show GlW Z consts_1 p e below s _ _ _ T19 (mkF m 40 #[.val (.ref a1), .val (.ref x3)] [(.ref b1)])
  obtain ⟨la20, T20, h20, kn20, lb20, kc20, X20, e20, E20, hS20, hk20, hZ20, hown20, Exa_la20, F_coder_la20, F_value_la20, Arv_lb20, lta20, ltb20, HR20, Li20, sf20, st20⟩ := ldcCH X19 hx hZ hown (hw _ (List.mem_of_getElem? (i := 136) rfl)) hwS e19 hS15 hk19 hEL (List.mem_of_getElem? (i := 3) rfl) HC19.1 (vs := [(.int (41 : Int32))]) (z := 1) ⟨by decide +kernel, by decide +kernel⟩ (by decide) rfl (g := (mkF m 40 #[.val (.ref a1), .val (.ref x3)] [(.ref b1)])) rfl (hb hby d7_40) (n := 4) (by decide) (by decide) (by decide) (by decide)
  refine GlW.st st20 ?_
  replace Sf_b1 := HR20.safe Exa_b1.lt Sf_b1
  replace Sf_d2 := HR20.safe Arv_d2.lt Sf_d2
  replace Sf_b11 := HR20.safe Arv_b11.lt Sf_b11
  replace Exa_a1 := Exa_a1.ext E20
  replace F_table_a1 := F_table_a1.ext E20
  replace F_ownerColumn_a1 := F_ownerColumn_a1.ext E20
  replace Exa_x1 := Exa_x1.ext E20
  replace F_value_x1 := F_value_x1.ext E20
  replace F_coder_x1 := F_coder_x1.ext E20
  replace Arv_t1 := Arv_t1.ext E20
  replace Exa_x2 := Exa_x2.ext E20
  replace F_value_x2 := F_value_x2.ext E20
  replace F_coder_x2 := F_coder_x2.ext E20
  replace Arv_t2 := Arv_t2.ext E20
  replace Exa_x3 := Exa_x3.ext E20
  replace F_value_x3 := F_value_x3.ext E20
  replace F_coder_x3 := F_coder_x3.ext E20
  replace Arv_t3 := Arv_t3.ext E20
  replace Exa_b1 := Exa_b1.ext E20
  replace Arv_d2 := Arv_d2.ext E20
  replace F_value_b1 := F_value_b1.ext E20
  replace F_coder_b1 := F_coder_b1.ext E20
  replace F_count_b1 := F_count_b1.ext E20
  replace Arv_b11 := Arv_b11.ext E20
  have O20 := O19.ext E20
  have K20 := K19.ext E20
  have HC20 := HC19.trans HR20
  have hZ := hZ20
  have hown := hown20
  have ne_b1_la20 := (sf20 _ Sf_b1).1
  have ne_b1_lb20 := (sf20 _ Sf_b1).2
  have ne_d2_la20 := (sf20 _ Sf_d2).1
  have ne_d2_lb20 := (sf20 _ Sf_d2).2
  have ne_b11_la20 := (sf20 _ Sf_b11).1
  have ne_b11_lb20 := (sf20 _ Sf_b11).2
  show GlW Z consts_1 p e below s _ _ _ T20 (mkF m 42 #[.val (.ref a1), .val (.ref x3)] [(.ref la20), (.ref b1)])
  have hf21 : own_fits (1 : Int32) (1 : Int32) (34 : Int32) (27 : Int32) [(.int (41 : Int32))] [(.int (41 : Int32))] [(.int (68 : Int32)), (.int (69 : Int32)), (.int (76 : Int32)), (.int (69 : Int32)), (.int (84 : Int32)), (.int (69 : Int32)), (.int (32 : Int32)), (.int (70 : Int32)), (.int (82 : Int32)), (.int (79 : Int32)), (.int (77 : Int32)), (.int (32 : Int32)), (.int y1), (.int (32 : Int32)), (.int (87 : Int32)), (.int (72 : Int32)), (.int (69 : Int32)), (.int (82 : Int32)), (.int (69 : Int32)), (.int (32 : Int32)), (.int y2), (.int (32 : Int32)), (.int (73 : Int32)), (.int (78 : Int32)), (.int (32 : Int32)), (.int (40 : Int32)), (.int y3), (.int (0 : Int32)), (.int (0 : Int32)), (.int (0 : Int32)), (.int (0 : Int32)), (.int (0 : Int32)), (.int (0 : Int32)), (.int (0 : Int32))] [(.int (68 : Int32)), (.int (69 : Int32)), (.int (76 : Int32)), (.int (69 : Int32)), (.int (84 : Int32)), (.int (69 : Int32)), (.int (32 : Int32)), (.int (70 : Int32)), (.int (82 : Int32)), (.int (79 : Int32)), (.int (77 : Int32)), (.int (32 : Int32)), (.int y1), (.int (32 : Int32)), (.int (87 : Int32)), (.int (72 : Int32)), (.int (69 : Int32)), (.int (82 : Int32)), (.int (69 : Int32)), (.int (32 : Int32)), (.int y2), (.int (32 : Int32)), (.int (73 : Int32)), (.int (78 : Int32)), (.int (32 : Int32)), (.int (40 : Int32)), (.int y3), (.int (41 : Int32)), (.int (0 : Int32)), (.int (0 : Int32)), (.int (0 : Int32)), (.int (0 : Int32)), (.int (0 : Int32)), (.int (0 : Int32))] := ⟨by decide, by decide, Nat.le_refl _, Nat.le_of_ble_eq_true rfl, rfl, Nat.le_of_ble_eq_true rfl, rfl⟩
  obtain ⟨cq22, kq22, qa22, qb22, qc22⟩ := isOf (s := s.setVm T20.vm) hZ e20 Exa_b1
  obtain ⟨v22, _, ⟨T22, L22, kQ22, nQ22⟩, -, X22, ⟨Lc22, hQ22, l22, y22, z22⟩, st22⟩ := X20.virtualBack hx (y := (⟨"java/lang/StringBuilder", "append", "(Ljava/lang/String;)Ljava/lang/StringBuilder;"⟩ : MethodName)) (z := (⟨"java/lang/StringBuilder", "append", "(Ljava/lang/String;)Ljava/lang/StringBuilder;"⟩ : MethodName)) hown (mvT hZ (hw _ (List.mem_of_getElem? (i := 64) rfl))) (mvT hZ (hw _ (List.mem_of_getElem? (i := 65) rfl))) (notFace_of_selects (args := #[]) (mvT hZ (hw _ (List.mem_of_getElem? (i := 67) rfl)))) (mvT hZ (hw _ (List.mem_of_getElem? (i := 67) rfl))) (mvT hZ (hw _ (List.mem_of_getElem? (i := 66) rfl))) (by decide) (backOf (W := 0) (rmBA l Z a0 hw [] b1 la20 b11 lb20 kc20 (1 : Int32) [(.int (41 : Int32))] kb11 (34 : Int32) (27 : Int32) [(.int (68 : Int32)), (.int (69 : Int32)), (.int (76 : Int32)), (.int (69 : Int32)), (.int (84 : Int32)), (.int (69 : Int32)), (.int (32 : Int32)), (.int (70 : Int32)), (.int (82 : Int32)), (.int (79 : Int32)), (.int (77 : Int32)), (.int (32 : Int32)), (.int y1), (.int (32 : Int32)), (.int (87 : Int32)), (.int (72 : Int32)), (.int (69 : Int32)), (.int (82 : Int32)), (.int (69 : Int32)), (.int (32 : Int32)), (.int y2), (.int (32 : Int32)), (.int (73 : Int32)), (.int (78 : Int32)), (.int (32 : Int32)), (.int (40 : Int32)), (.int y3), (.int (0 : Int32)), (.int (0 : Int32)), (.int (0 : Int32)), (.int (0 : Int32)), (.int (0 : Int32)), (.int (0 : Int32)), (.int (0 : Int32))] [(.int (68 : Int32)), (.int (69 : Int32)), (.int (76 : Int32)), (.int (69 : Int32)), (.int (84 : Int32)), (.int (69 : Int32)), (.int (32 : Int32)), (.int (70 : Int32)), (.int (82 : Int32)), (.int (79 : Int32)), (.int (77 : Int32)), (.int (32 : Int32)), (.int y1), (.int (32 : Int32)), (.int (87 : Int32)), (.int (72 : Int32)), (.int (69 : Int32)), (.int (82 : Int32)), (.int (69 : Int32)), (.int (32 : Int32)), (.int y2), (.int (32 : Int32)), (.int (73 : Int32)), (.int (78 : Int32)), (.int (32 : Int32)), (.int (40 : Int32)), (.int y3), (.int (41 : Int32)), (.int (0 : Int32)), (.int (0 : Int32)), (.int (0 : Int32)), (.int (0 : Int32)), (.int (0 : Int32)), (.int (0 : Int32))] cz h20 n0 O20 Exa_b1 F_value_b1 F_coder_b1 F_count_b1 Exa_la20 F_value_la20 F_coder_la20 Arv_lb20 Arv_b11 hf21 ge_b11 (Ne.symm ne_b1_lb20) (Ne.symm ne_b11_lb20) (Ne.symm ne_b1_la20) (Ne.symm ne_b11_la20) ne_b1_b11 S_COMPACT hcz (by decide) ge_b1) hZ (hw _ (List.mem_of_getElem? (i := 68) rfl)) (hw _ (List.mem_of_getElem? (i := 45) rfl)) (by decide) (by decide)) qa22 qc22 (g := (mkF m 42 #[.val (.ref a1), .val (.ref x3)] [(.ref la20), (.ref b1)])) rfl (by rw [hml]; rfl) (Steps.refl _) (argsL := [(.ref la20)]) (rest := []) (lenOf pd_rmDO_1 rfl) rfl (by show 2 * 0 + _ ≤ _; exact Nat.le_of_eq rfl) (hb hby d7_42) (fun _ _ => ⟨rfl, e20, (by decide : 11 + 0 ≤ _), (by decide : 170 + 0 ≤ _)⟩)
  dsimp only [Pt.U, Pt.locs, Pt.cells, Pt.slots] at X22 l22 y22 z22 st22 hQ22
  subst y22 z22
  obtain ⟨h22, e22⟩ : ∃ z, T22.heap = z := ⟨_, rfl⟩
  rw [e22] at hQ22
  obtain ⟨rfl, Nq22, Kq22, Fvalue22, Fcoder22, Fcount22, Aq22⟩ := hQ22
  have N22 : Fr n0 L22 := l22 ▸ Fr.app N19 Nq22
  refine GlW.st (fun _ kk => st22.trans kk) ?_
  have sfk22 : ∀ x ∈ [b1, b11], Safe Z consts_1 _ _ x := (allS Sf_b1 (allS Sf_b11 all0))
  replace Sf_b1 := Safe.keep Kq22 sfk22 HC20.1 Sf_b1
  replace Sf_d2 := Safe.keep Kq22 sfk22 HC20.1 Sf_d2
  replace Sf_b11 := Safe.keep Kq22 sfk22 HC20.1 Sf_b11
  have HC22 := HC20.trans (CHr.keep Kq22 sfk22 HC20.1)
  have hk22 := Nat.le_trans hk20 Kq22.1
  replace Exa_a1 := Exa_a1.keep Kq22
  replace F_table_a1 := F_table_a1.keep Kq22 (ninS ne_a1_b1 (ninS ne_a1_b11 nin0))
  replace F_ownerColumn_a1 := F_ownerColumn_a1.keep Kq22 (ninS ne_a1_b1 (ninS ne_a1_b11 nin0))
  replace Exa_x1 := Exa_x1.keep Kq22
  replace F_value_x1 := F_value_x1.keep Kq22 (ninS ne_x1_b1 (ninS ne_x1_b11 nin0))
  replace F_coder_x1 := F_coder_x1.keep Kq22 (ninS ne_x1_b1 (ninS ne_x1_b11 nin0))
  replace Arv_t1 := Arv_t1.keep Kq22 (ninS ne_t1_b1 (ninS ne_t1_b11 nin0))
  replace Exa_x2 := Exa_x2.keep Kq22
  replace F_value_x2 := F_value_x2.keep Kq22 (ninS ne_x2_b1 (ninS ne_x2_b11 nin0))
  replace F_coder_x2 := F_coder_x2.keep Kq22 (ninS ne_x2_b1 (ninS ne_x2_b11 nin0))
  replace Arv_t2 := Arv_t2.keep Kq22 (ninS ne_t2_b1 (ninS ne_t2_b11 nin0))
  replace Exa_x3 := Exa_x3.keep Kq22
  replace F_value_x3 := F_value_x3.keep Kq22 (ninS ne_x3_b1 (ninS ne_x3_b11 nin0))
  replace F_coder_x3 := F_coder_x3.keep Kq22 (ninS ne_x3_b1 (ninS ne_x3_b11 nin0))
  replace Arv_t3 := Arv_t3.keep Kq22 (ninS ne_t3_b1 (ninS ne_t3_b11 nin0))
  replace Exa_b1 := Exa_b1.keep Kq22
  replace Arv_d2 := Arv_d2.keep Kq22 (ninS (Ne.symm ne_b1_d2) (ninS ne_d2_b11 nin0))
  replace Exa_la20 := Exa_la20.keep Kq22
  replace F_coder_la20 := F_coder_la20.keep Kq22 (ninS (Ne.symm ne_b1_la20) (ninS (Ne.symm ne_b11_la20) nin0))
  replace F_value_la20 := F_value_la20.keep Kq22 (ninS (Ne.symm ne_b1_la20) (ninS (Ne.symm ne_b11_la20) nin0))
  replace Arv_lb20 := Arv_lb20.keep Kq22 (ninS (Ne.symm ne_b1_lb20) (ninS (Ne.symm ne_b11_lb20) nin0))
  have O22 := O20.keep Kq22 (allS ge_b1 (allS ge_b11 all0))
  have K22 := K20.trans Kq22 (allS (Or.inr fr_b1) (allS (Or.inr fr_b11) all0))
  have F_value_b1 := Fvalue22
  have F_coder_b1 := Fcoder22
  have F_count_b1 := Fcount22
  have Arv_b11 := Aq22
  have F_count_b1 : Fld Z h22 b1 "java/lang/AbstractStringBuilder" "count" "I" (.int (28 : Int32)) := Fcount22
  clear st22 qc22 qb22 qa22 kq22 cq22
  clear O20 K20 N19 HC20 hk20 X20 e20
  show GlW Z consts_1 p e below s _ _ _ T22 (mkF m 45 #[.val (.ref a1), .val (.ref x3)] [(.ref b1)])
  have hr23 : own_fits 34 28 28 0 [(.int (68 : Int32)), (.int (69 : Int32)), (.int (76 : Int32)), (.int (69 : Int32)), (.int (84 : Int32)), (.int (69 : Int32)), (.int (32 : Int32)), (.int (70 : Int32)), (.int (82 : Int32)), (.int (79 : Int32)), (.int (77 : Int32)), (.int (32 : Int32)), (.int y1), (.int (32 : Int32)), (.int (87 : Int32)), (.int (72 : Int32)), (.int (69 : Int32)), (.int (82 : Int32)), (.int (69 : Int32)), (.int (32 : Int32)), (.int y2), (.int (32 : Int32)), (.int (73 : Int32)), (.int (78 : Int32)), (.int (32 : Int32)), (.int (40 : Int32)), (.int y3), (.int (41 : Int32))] [(.int (68 : Int32)), (.int (69 : Int32)), (.int (76 : Int32)), (.int (69 : Int32)), (.int (84 : Int32)), (.int (69 : Int32)), (.int (32 : Int32)), (.int (70 : Int32)), (.int (82 : Int32)), (.int (79 : Int32)), (.int (77 : Int32)), (.int (32 : Int32)), (.int y1), (.int (32 : Int32)), (.int (87 : Int32)), (.int (72 : Int32)), (.int (69 : Int32)), (.int (82 : Int32)), (.int (69 : Int32)), (.int (32 : Int32)), (.int y2), (.int (32 : Int32)), (.int (73 : Int32)), (.int (78 : Int32)), (.int (32 : Int32)), (.int (40 : Int32)), (.int y3), (.int (41 : Int32)), (.int (0 : Int32)), (.int (0 : Int32)), (.int (0 : Int32)), (.int (0 : Int32)), (.int (0 : Int32)), (.int (0 : Int32))] [(.int (0 : Int32)), (.int (0 : Int32)), (.int (0 : Int32)), (.int (0 : Int32)), (.int (0 : Int32)), (.int (0 : Int32)), (.int (0 : Int32)), (.int (0 : Int32)), (.int (0 : Int32)), (.int (0 : Int32)), (.int (0 : Int32)), (.int (0 : Int32)), (.int (0 : Int32)), (.int (0 : Int32)), (.int (0 : Int32)), (.int (0 : Int32)), (.int (0 : Int32)), (.int (0 : Int32)), (.int (0 : Int32)), (.int (0 : Int32)), (.int (0 : Int32)), (.int (0 : Int32)), (.int (0 : Int32)), (.int (0 : Int32)), (.int (0 : Int32)), (.int (0 : Int32)), (.int (0 : Int32)), (.int (0 : Int32))] [(.int (68 : Int32)), (.int (69 : Int32)), (.int (76 : Int32)), (.int (69 : Int32)), (.int (84 : Int32)), (.int (69 : Int32)), (.int (32 : Int32)), (.int (70 : Int32)), (.int (82 : Int32)), (.int (79 : Int32)), (.int (77 : Int32)), (.int (32 : Int32)), (.int y1), (.int (32 : Int32)), (.int (87 : Int32)), (.int (72 : Int32)), (.int (69 : Int32)), (.int (82 : Int32)), (.int (69 : Int32)), (.int (32 : Int32)), (.int y2), (.int (32 : Int32)), (.int (73 : Int32)), (.int (78 : Int32)), (.int (32 : Int32)), (.int (40 : Int32)), (.int y3), (.int (41 : Int32))] := ⟨by decide, by decide, by decide, Nat.le_of_ble_eq_true rfl, rfl, Nat.le_of_ble_eq_true rfl, rfl⟩
  obtain ⟨cq24, kq24, qa24, qb24, qc24⟩ := isOf (s := s.setVm T20.vm) hZ e22 Exa_b1
  obtain ⟨v24, _, ⟨T24, L24, kQ24, nQ24⟩, -, X24, ⟨Lc24, hQ24, l24, y24, z24⟩, st24⟩ := X22.virtualBack hx (y := (⟨"java/lang/StringBuilder", "toString", "()Ljava/lang/String;"⟩ : MethodName)) (z := (⟨"java/lang/StringBuilder", "toString", "()Ljava/lang/String;"⟩ : MethodName)) hown (mvT hZ (hw _ (List.mem_of_getElem? (i := 137) rfl))) (mvT hZ (hw _ (List.mem_of_getElem? (i := 138) rfl))) (notFace_of_selects (args := #[]) (mvT hZ (hw _ (List.mem_of_getElem? (i := 140) rfl)))) (mvT hZ (hw _ (List.mem_of_getElem? (i := 140) rfl))) (mvT hZ (hw _ (List.mem_of_getElem? (i := 139) rfl))) (by decide) (backOf (W := 0) (rmTS l Z a0 hw [] b1 b11 kb11 [(.int (68 : Int32)), (.int (69 : Int32)), (.int (76 : Int32)), (.int (69 : Int32)), (.int (84 : Int32)), (.int (69 : Int32)), (.int (32 : Int32)), (.int (70 : Int32)), (.int (82 : Int32)), (.int (79 : Int32)), (.int (77 : Int32)), (.int (32 : Int32)), (.int y1), (.int (32 : Int32)), (.int (87 : Int32)), (.int (72 : Int32)), (.int (69 : Int32)), (.int (82 : Int32)), (.int (69 : Int32)), (.int (32 : Int32)), (.int y2), (.int (32 : Int32)), (.int (73 : Int32)), (.int (78 : Int32)), (.int (32 : Int32)), (.int (40 : Int32)), (.int y3), (.int (41 : Int32))] [(.int (68 : Int32)), (.int (69 : Int32)), (.int (76 : Int32)), (.int (69 : Int32)), (.int (84 : Int32)), (.int (69 : Int32)), (.int (32 : Int32)), (.int (70 : Int32)), (.int (82 : Int32)), (.int (79 : Int32)), (.int (77 : Int32)), (.int (32 : Int32)), (.int y1), (.int (32 : Int32)), (.int (87 : Int32)), (.int (72 : Int32)), (.int (69 : Int32)), (.int (82 : Int32)), (.int (69 : Int32)), (.int (32 : Int32)), (.int y2), (.int (32 : Int32)), (.int (73 : Int32)), (.int (78 : Int32)), (.int (32 : Int32)), (.int (40 : Int32)), (.int y3), (.int (41 : Int32)), (.int (0 : Int32)), (.int (0 : Int32)), (.int (0 : Int32)), (.int (0 : Int32)), (.int (0 : Int32)), (.int (0 : Int32))] [(.int (68 : Int32)), (.int (69 : Int32)), (.int (76 : Int32)), (.int (69 : Int32)), (.int (84 : Int32)), (.int (69 : Int32)), (.int (32 : Int32)), (.int (70 : Int32)), (.int (82 : Int32)), (.int (79 : Int32)), (.int (77 : Int32)), (.int (32 : Int32)), (.int y1), (.int (32 : Int32)), (.int (87 : Int32)), (.int (72 : Int32)), (.int (69 : Int32)), (.int (82 : Int32)), (.int (69 : Int32)), (.int (32 : Int32)), (.int y2), (.int (32 : Int32)), (.int (73 : Int32)), (.int (78 : Int32)), (.int (32 : Int32)), (.int (40 : Int32)), (.int y3), (.int (41 : Int32))] cz h22 n0 O22 Exa_b1 F_value_b1 F_coder_b1 F_count_b1 Arv_b11 hr23 S_COMPACT hcz) hZ (hw _ (List.mem_of_getElem? (i := 141) rfl)) (hw _ (List.mem_of_getElem? (i := 45) rfl)) (by decide) (by decide)) qa24 qc24 (g := (mkF m 45 #[.val (.ref a1), .val (.ref x3)] [(.ref b1)])) rfl (by rw [hml]; rfl) (Steps.refl _) (argsL := []) (rest := []) (lenOf pd_rmDO_2 rfl) rfl (by show 2 * 0 + _ ≤ _; exact Nat.le_of_eq rfl) (hb hby d7_45) (fun _ _ => ⟨rfl, e22, (by decide : 11 + 2 ≤ _), (by decide : 170 + 32 ≤ _)⟩)
  dsimp only [Pt.U, Pt.locs, Pt.cells, Pt.slots] at X24 l24 y24 z24 st24 hQ24
  subst y24 z24
  obtain ⟨h24, e24⟩ : ∃ z, T24.heap = z := ⟨_, rfl⟩
  rw [e24] at hQ24
  obtain ⟨r24, tt24, kt24, rfl, Nq24, Kq24, Exa_r24, F_value_r24, F_coder_r24, Arv_tt24⟩ := hQ24
  have N24 : Fr n0 L24 := l24 ▸ Fr.app N22 Nq24
  refine GlW.st (fun _ kk => st24.trans kk) ?_
  have sfk24 : ∀ x ∈ ([] : List Addr), Safe Z consts_1 T20.vm h22 x := all0
  replace Sf_b1 := Safe.keep Kq24 sfk24 HC22.1 Sf_b1
  replace Sf_d2 := Safe.keep Kq24 sfk24 HC22.1 Sf_d2
  replace Sf_b11 := Safe.keep Kq24 sfk24 HC22.1 Sf_b11
  have HC24 := HC22.trans (CHr.keep Kq24 sfk24 HC22.1)
  have hk24 := Nat.le_trans hk22 Kq24.1
  replace Exa_a1 := Exa_a1.keep Kq24
  replace F_table_a1 := F_table_a1.keep Kq24 nin0
  replace F_ownerColumn_a1 := F_ownerColumn_a1.keep Kq24 nin0
  replace Exa_x1 := Exa_x1.keep Kq24
  replace F_value_x1 := F_value_x1.keep Kq24 nin0
  replace F_coder_x1 := F_coder_x1.keep Kq24 nin0
  replace Arv_t1 := Arv_t1.keep Kq24 nin0
  replace Exa_x2 := Exa_x2.keep Kq24
  replace F_value_x2 := F_value_x2.keep Kq24 nin0
  replace F_coder_x2 := F_coder_x2.keep Kq24 nin0
  replace Arv_t2 := Arv_t2.keep Kq24 nin0
  replace Exa_x3 := Exa_x3.keep Kq24
  replace F_value_x3 := F_value_x3.keep Kq24 nin0
  replace F_coder_x3 := F_coder_x3.keep Kq24 nin0
  replace Arv_t3 := Arv_t3.keep Kq24 nin0
  replace Exa_b1 := Exa_b1.keep Kq24
  replace Arv_d2 := Arv_d2.keep Kq24 nin0
  replace F_value_b1 := F_value_b1.keep Kq24 nin0
  replace F_coder_b1 := F_coder_b1.keep Kq24 nin0
  replace F_count_b1 := F_count_b1.keep Kq24 nin0
  replace Arv_b11 := Arv_b11.keep Kq24 nin0
  have O24 := O22.keep Kq24 all0
  have K24 := K22.trans Kq24 all0
  clear st24 qc24 qb24 qa24 kq24 cq24
  clear O22 K22 N22 HC22 hk22 X22 e22
  show GlW Z consts_1 p e below s _ _ _ T24 (mkF m 48 #[.val (.ref a1), .val (.ref x3)] [(.ref r24)])
  exact GlW.ret X24 hS20 hk24 hZ hEL hh0 HC24 (v := (some (.ref r24))) (fun h => by rw [Bd.returns] at h; cases h) (BodyLoose.notSynchronized Bd) (fun hr => retOut X24 hx Bd.returns rfl (Or.inr (Or.inr (Or.inr (Or.inr ⟨rfl, rfl, rfl⟩)))) (hb hby d7_48) hr) e24 ⟨r24, tt24, kt24, rfl, N24, K24, Exa_r24, F_value_r24, F_coder_r24, Arv_tt24⟩ (by decide) (by decide)
theorem d2_0 : decode jdk_43_method_3_code 0 = .ok (.iload_n 0, 1) := by decide +kernel
theorem d2_1 : decode jdk_43_method_3_code 1 = .ok (.sipush 255, 3) := by decide +kernel
theorem d2_4 : decode jdk_43_method_3_code 4 = .ok (.if_icmp .gt 7, 3) := by decide +kernel
theorem d2_7 : decode jdk_43_method_3_code 7 = .ok (.iconst 1, 1) := by decide +kernel
theorem d2_8 : decode jdk_43_method_3_code 8 = .ok (.goto 4, 3) := by decide +kernel
theorem d2_12 : decode jdk_43_method_3_code 12 = .ok (.ireturn, 1) := by decide +kernel
theorem pn_rmCE : plainName "java/lang/StringLatin1" = true := by first | (simp [plainName, overriddenIn]; done) | decide +kernel
theorem ef_rmCE (m : MethodId) (c1 : Int32) : entryFrame m #[(.int c1)] 1 = mkF m 0 #[.val (.int c1)] [] := by first | (simp [entryFrame, mkF, argsToLocals, Value.category]; done) | rfl
def Q_rmCE (Z : State) (c1 : Int32)  (h0 : Heap) (n0 : Nat) (v : Option Value) (h : Heap) (L : List Loc) : Prop := v = some (.int 1) ∧ Fr n0 L ∧ h = h0
set_option maxRecDepth 65536 in
set_option maxHeartbeats 40000000 in
theorem rmCE (l : Launch) (Z : State) (a0 : Array Value) (hw : ∀ d ∈ tables_1, d.before a0 Z = true) (ws : List Jvm.Cond) (c1 : Int32)  (h0 : Heap) (n0 : Nat) (O0 : Old Z n0 h0) (hc1 : ¬ (255 : Int32) < c1) :
    MetFree l (⟨"java/lang/StringLatin1", "canEncode", "(C)Z"⟩ : MethodName) (head1 (Jvm.Cond.code (⟨"java/lang/StringLatin1", "canEncode", "(C)Z"⟩ : MethodName) jdk_43_method_3_code 1 (some .boolean) :: ws) ({ frames := 0, cells := 0, slots := 0, locals := 0 } : Room)) (fun a U => a = #[(.int c1)] ∧ Z.Warmed39 U.vm ∧ U.heap = h0) (fun _ _ _ _ _ => True) (fun _ U o U' => ∃ v L, o = .returned v ∧ Q_rmCE Z c1  h0 n0 v U'.heap L ∧ FrameEnd U o U' L ({ frames := 0, cells := 0, slots := 0, locals := 0 } : Room).cells ({ frames := 0, cells := 0, slots := 0, locals := 0 } : Room).slots) := by
  refine MetFree.of_bodySF (plainFor_of_name pn_rmCE) hisR ?_
  intro p e s m args below meth c s₁ Bd hml0 hP hK
  obtain ⟨rfl, hZ, hh⟩ := hP
  have hx := Bd.exec
  have hby := Bd.bytes
  have hml : c.maxLocals = 1 := hml0
  have hown : s.vm.findClass "java/lang/StringLatin1" = some m.cls := findClass_of_methodNamed Bd.named
  have hnm := (name_of_methodNamed Bd.named Bd.method).1
  have X0 : Stand p l e ({ frames := 0, cells := 0, slots := 0, locals := 0 } : Room) s m #[(.int c1)] below meth c s₁ [] 0 0 := Stand.of_body Bd
  have e0 : s₁.heap = h0 := by rw [← hh, Bd.state]; rfl
  have N0 := Fr.nil n0
  refine Gl.start (Q := Q_rmCE Z c1  h0 n0) (ef_rmCE m c1) ?_
  show Gl p e below s _ _ _ s₁ (mkF m 0 #[.val (.int c1)] [])
  refine Gl.st (fun _ kk => XS.iloadN X0.here hx rfl (hb hby d2_0) rfl kk) ?_
  show Gl p e below s _ _ _ s₁ (mkF m 1 #[.val (.int c1)] [(.int c1)])
  refine Gl.st (fun _ kk => XS.sipush X0.here hx rfl (hb hby d2_1) kk) ?_
  show Gl p e below s _ _ _ s₁ (mkF m 4 #[.val (.int c1)] [(.int (255 : Int32)), (.int c1)])
  refine Gl.st (fun _ kk => XS.icmpNo X0.here hx rfl (hb hby d2_4) rfl (flt hc1).2.2.1 kk) ?_
  show Gl p e below s _ _ _ s₁ (mkF m 7 #[.val (.int c1)] [])
  refine Gl.st (fun _ kk => XS.iconst X0.here hx rfl (hb hby d2_7) kk) ?_
  show Gl p e below s _ _ _ s₁ (mkF m 8 #[.val (.int c1)] [(.int (1 : Int32))])
  refine Gl.st (fun _ kk => XS.goto X0.here hx rfl (pc0 := 8) (pc' := 12) rfl (hb hby d2_8) (by decide) (by decide) kk) ?_
  show Gl p e below s _ _ _ s₁ (mkF m 12 #[.val (.int c1)] [(.int (1 : Int32))])
  exact Gl.ret X0 (v := (some (.int (1 : Int32)))) (fun h => by rw [Bd.returns] at h; cases h) (BodyLoose.notSynchronized Bd) (fun hr => retN X0 hx (t := .boolean) Bd.returns (by simp) (hb hby d2_12) hr) e0 ⟨rfl, N0, rfl⟩ (by decide) (by decide)
theorem d3_0 : decode jdk_43_method_46_code 0 = .ok (.iconst 1, 1) := by decide +kernel
theorem d3_1 : decode jdk_43_method_46_code 1 = .ok (.newarray .byte, 2) := by decide +kernel
theorem d3_3 : decode jdk_43_method_46_code 3 = .ok (.dup, 1) := by decide +kernel
theorem d3_4 : decode jdk_43_method_46_code 4 = .ok (.iconst 0, 1) := by decide +kernel
theorem d3_5 : decode jdk_43_method_46_code 5 = .ok (.iload_n 0, 1) := by decide +kernel
theorem d3_6 : decode jdk_43_method_46_code 6 = .ok (.i2b, 1) := by decide +kernel
theorem d3_7 : decode jdk_43_method_46_code 7 = .ok (.bastore, 1) := by decide +kernel
theorem d3_8 : decode jdk_43_method_46_code 8 = .ok (.areturn, 1) := by decide +kernel
theorem pn_rmTB : plainName "java/lang/StringLatin1" = true := by first | (simp [plainName, overriddenIn]; done) | decide +kernel
theorem ef_rmTB (m : MethodId) (c1 : Int32) : entryFrame m #[(.int c1)] 1 = mkF m 0 #[.val (.int c1)] [] := by first | (simp [entryFrame, mkF, argsToLocals, Value.category]; done) | rfl
def Q_rmTB (Z : State) (c1 : Int32)  (h0 : Heap) (n0 : Nat) (v : Option Value) (h : Heap) (L : List Loc) : Prop := ∃ (b : Addr) (k : ClassId), v = some (.ref b) ∧ Fr n0 L ∧ Keep h0 h [] ∧ Arv Z h b k .byte 1 [(.int (c1.toInt8.toInt32))] (.int 0) ∧ h0.size ≤ b
set_option maxRecDepth 65536 in
set_option maxHeartbeats 40000000 in
theorem rmTB (l : Launch) (Z : State) (a0 : Array Value) (hw : ∀ d ∈ tables_1, d.before a0 Z = true) (ws : List Jvm.Cond) (c1 : Int32)  (h0 : Heap) (n0 : Nat) (O0 : Old Z n0 h0) :
    MetFree l (⟨"java/lang/StringLatin1", "toBytes", "(C)[B"⟩ : MethodName) (head1 (Jvm.Cond.code (⟨"java/lang/StringLatin1", "toBytes", "(C)[B"⟩ : MethodName) jdk_43_method_46_code 1 (some (.array .byte)) :: ws) ({ frames := 0, cells := 1, slots := 1, locals := 0 } : Room)) (fun a U => a = #[(.int c1)] ∧ Z.Warmed39 U.vm ∧ U.heap = h0) (fun _ _ _ _ _ => True) (fun _ U o U' => ∃ v L, o = .returned v ∧ Q_rmTB Z c1  h0 n0 v U'.heap L ∧ FrameEnd U o U' L ({ frames := 0, cells := 1, slots := 1, locals := 0 } : Room).cells ({ frames := 0, cells := 1, slots := 1, locals := 0 } : Room).slots) := by
  refine MetFree.of_bodySF (plainFor_of_name pn_rmTB) hisR ?_
  intro p e s m args below meth c s₁ Bd hml0 hP hK
  obtain ⟨rfl, hZ, hh⟩ := hP
  have hx := Bd.exec
  have hby := Bd.bytes
  have hml : c.maxLocals = 1 := hml0
  have hown : s.vm.findClass "java/lang/StringLatin1" = some m.cls := findClass_of_methodNamed Bd.named
  have hnm := (name_of_methodNamed Bd.named Bd.method).1
  have X0 : Stand p l e ({ frames := 0, cells := 1, slots := 1, locals := 0 } : Room) s m #[(.int c1)] below meth c s₁ [] 0 0 := Stand.of_body Bd
  have e0 : s₁.heap = h0 := by rw [← hh, Bd.state]; rfl
  have N0 := Fr.nil n0
  refine Gl.start (Q := Q_rmTB Z c1  h0 n0) (ef_rmTB m c1) ?_
  show Gl p e below s _ _ _ s₁ (mkF m 0 #[.val (.int c1)] [])
  refine Gl.st (fun _ kk => XS.iconst X0.here hx rfl (hb hby d3_0) kk) ?_
  show Gl p e below s _ _ _ s₁ (mkF m 1 #[.val (.int c1)] [(.int (1 : Int32))])
  obtain ⟨T1, h1, ka1, X1, e1, E1, A1, st1⟩ := newP X0 hx hZ (hw _ (List.mem_of_getElem? (i := 14) rfl)) e0 (g := (mkF m 1 #[.val (.int c1)] [(.int (1 : Int32))])) rfl (hb hby d3_1) rfl (by decide) (cap := 1) (by decide) (by decide) (by decide) (by decide)
  obtain ⟨b1, g1⟩ : ∃ z, z = h0.size := ⟨_, rfl⟩
  rw [← g1] at A1 st1
  refine Gl.st st1 ?_
  have ge_b1 : n0 ≤ b1 := Nat.le_trans (Nat.le_trans (Nat.le_of_eq O0.1.symm) O0.2.1) (Nat.le_of_eq g1.symm)
  have fr_b1 : h0.size ≤ b1 := Nat.le_trans (Nat.le_refl _) (Nat.le_of_eq g1.symm)
  have O1 := O0.ext E1
  have K1 := (Keep.refl h0 []).ext E1
  have Arv_b1 : Arv Z h1 b1 ka1 .byte (1 : Int32) [(.int (0 : Int32))] (.int (0 : Int32)) := (Arv.new A1 (by decide)).pad (pad_rep [] (.int (0 : Int32)) 1)
  show Gl p e below s _ _ _ T1 (mkF m 3 #[.val (.int c1)] [(.ref b1)])
  refine Gl.st (fun _ kk => XS.dup X1.here hx rfl (hb hby d3_3) rfl rfl kk) ?_
  show Gl p e below s _ _ _ T1 (mkF m 4 #[.val (.int c1)] [(.ref b1), (.ref b1)])
  refine Gl.st (fun _ kk => XS.iconst X1.here hx rfl (hb hby d3_4) kk) ?_
  show Gl p e below s _ _ _ T1 (mkF m 5 #[.val (.int c1)] [(.int (0 : Int32)), (.ref b1), (.ref b1)])
  refine Gl.st (fun _ kk => XS.iloadN X1.here hx rfl (hb hby d3_5) rfl kk) ?_
  show Gl p e below s _ _ _ T1 (mkF m 6 #[.val (.int c1)] [(.int c1), (.int (0 : Int32)), (.ref b1), (.ref b1)])
  refine Gl.st (fun _ kk => XS.i2b X1.here hx rfl (hb hby d3_6) rfl kk) ?_
  show Gl p e below s _ _ _ T1 (mkF m 7 #[.val (.int c1)] [(.int (c1.toInt8.toInt32)), (.int (0 : Int32)), (.ref b1), (.ref b1)])
  obtain ⟨cl2, Ar2, q2, Sz2, Ng2, Ha2, Fi2⟩ := id Arv_b1
  have hin2 : ¬ ((0 : Int32) < 0 ∨ cl2.slots.size ≤ ((0 : Int32)).toNatClampNeg) := inb_of Sz2 ⟨by decide, by decide⟩
  obtain ⟨T2, h2, X2, e2, W2, st2⟩ := stB X1 hx hZ e1 Ar2 (j := (0 : Int32)) hin2 (g := (mkF m 7 #[.val (.int c1)] [(.int (c1.toInt8.toInt32)), (.int (0 : Int32)), (.ref b1), (.ref b1)])) rfl rfl (hb hby d3_7)
  refine Gl.st st2 ?_
  replace Arv_b1 : Arv Z h2 b1 ka1 .byte (1 : Int32) [(.int (nar .byte (c1.toInt8.toInt32)))] (.int (0 : Int32)) := Arv.set Ar2 q2 Sz2 Ng2 Ha2 Fi2 (fits_nar_byte _) W2 0 rfl (Nat.le_of_ble_eq_true rfl)
  rw [own_nar8] at Arv_b1
  have O2 := O1.wr W2 ge_b1
  have K2 := K1.wr W2 (Or.inr fr_b1)
  have N2 := Fr.snoc X2 N0 ge_b1
  clear st2 W2 hin2 Fi2 Ha2 Ng2 Sz2 q2 Ar2 cl2
  clear O1 K1 X1 e1
  show Gl p e below s _ _ _ T2 (mkF m 8 #[.val (.int c1)] [(.ref b1)])
  exact Gl.ret X2 (v := (some (.ref b1))) (fun h => by rw [Bd.returns] at h; cases h) (BodyLoose.notSynchronized Bd) (fun hr => retOut X2 hx Bd.returns rfl (Or.inr (Or.inr (Or.inr (Or.inr ⟨rfl, rfl, rfl⟩)))) (hb hby d3_8) hr) e2 ⟨b1, ka1, rfl, N2, K2, Arv_b1, fr_b1⟩ (by decide) (by decide)
theorem d4_0 : decode jdk_42_method_151_code 0 = .ok (.aload_n 0, 1) := by decide +kernel
theorem d4_1 : decode jdk_42_method_151_code 1 = .ok (.invokespecial 1, 3) := by decide +kernel
theorem d4_4 : decode jdk_42_method_151_code 4 = .ok (.aload_n 0, 1) := by decide +kernel
theorem d4_5 : decode jdk_42_method_151_code 5 = .ok (.aload_n 1, 1) := by decide +kernel
theorem d4_6 : decode jdk_42_method_151_code 6 = .ok (.putfield 9, 3) := by decide +kernel
theorem d4_9 : decode jdk_42_method_151_code 9 = .ok (.aload_n 0, 1) := by decide +kernel
theorem d4_10 : decode jdk_42_method_151_code 10 = .ok (.iload_n 2, 1) := by decide +kernel
theorem d4_11 : decode jdk_42_method_151_code 11 = .ok (.putfield 15, 3) := by decide +kernel
theorem d4_14 : decode jdk_42_method_151_code 14 = .ok (.return_, 1) := by decide +kernel
theorem pn_rmBB : plainName "java/lang/String" = true := by first | (simp [plainName, overriddenIn]; done) | decide +kernel
theorem ef_rmBB (m : MethodId) (x : Addr) (t : Addr) : entryFrame m #[(.ref x), (.ref t), (.int (0 : Int32))] 3 = mkF m 0 #[.val (.ref x), .val (.ref t), .val (.int (0 : Int32))] [] := by first | (simp [entryFrame, mkF, argsToLocals, Value.category]; done) | rfl
def Q_rmBB (Z : State) (x : Addr) (t : Addr)  (h0 : Heap) (n0 : Nat) (v : Option Value) (h : Heap) (L : List Loc) : Prop := v = none ∧ Fr n0 L ∧ Keep h0 h [x] ∧ Fld Z h x "java/lang/String" "value" "[B" (.ref t) ∧ Fld Z h x "java/lang/String" "coder" "B" (.int 0)
set_option maxRecDepth 65536 in
set_option maxHeartbeats 40000000 in
theorem rmBB (l : Launch) (Z : State) (a0 : Array Value) (hw : ∀ d ∈ tables_1, d.before a0 Z = true) (ws : List Jvm.Cond) (x : Addr) (t : Addr)  (h0 : Heap) (n0 : Nat) (O0 : Old Z n0 h0) (Exa_x : Exa Z h0 x "java/lang/String") (F_value_x : Fld Z h0 x "java/lang/String" "value" "[B" .null) (F_coder_x : Fld Z h0 x "java/lang/String" "coder" "B" (.int 0)) (g1 : n0 ≤ x) :
    MetFree l (⟨"java/lang/String", "<init>", "([BB)V"⟩ : MethodName) (head1 (Jvm.Cond.code (⟨"java/lang/String", "<init>", "([BB)V"⟩ : MethodName) jdk_42_method_151_code 3 none :: ws) ({ frames := 1, cells := 0, slots := 0, locals := 12 } : Room)) (fun a U => a = #[(.ref x), (.ref t), (.int (0 : Int32))] ∧ Z.Warmed39 U.vm ∧ U.heap = h0) (fun _ _ _ _ _ => True) (fun _ U o U' => ∃ v L, o = .returned v ∧ Q_rmBB Z x t  h0 n0 v U'.heap L ∧ FrameEnd U o U' L ({ frames := 1, cells := 0, slots := 0, locals := 12 } : Room).cells ({ frames := 1, cells := 0, slots := 0, locals := 12 } : Room).slots) := by
  refine MetFree.of_bodySF (plainFor_of_name pn_rmBB) hisR ?_
  intro p e s m args below meth c s₁ Bd hml0 hP hK
  obtain ⟨rfl, hZ, hh⟩ := hP
  have hx := Bd.exec
  have hby := Bd.bytes
  have hml : c.maxLocals = 3 := hml0
  have hown : s.vm.findClass "java/lang/String" = some m.cls := findClass_of_methodNamed Bd.named
  have hnm := (name_of_methodNamed Bd.named Bd.method).1
  have X0 : Stand p l e ({ frames := 1, cells := 0, slots := 0, locals := 12 } : Room) s m #[(.ref x), (.ref t), (.int (0 : Int32))] below meth c s₁ [] 0 0 := Stand.of_body Bd
  have e0 : s₁.heap = h0 := by rw [← hh, Bd.state]; rfl
  have N0 := Fr.nil n0
  refine Gl.start (Q := Q_rmBB Z x t  h0 n0) (ef_rmBB m x t) ?_
  show Gl p e below s _ _ _ s₁ (mkF m 0 #[.val (.ref x), .val (.ref t), .val (.int (0 : Int32))] [])
  refine Gl.st (fun _ kk => XS.aloadN X0.here hx rfl (hb hby d4_0) rfl rfl kk) ?_
  show Gl p e below s _ _ _ s₁ (mkF m 1 #[.val (.ref x), .val (.ref t), .val (.int (0 : Int32))] [(.ref x)])
  obtain ⟨T1, X1, e1, st1⟩ := initO X0 hx hZ hown (hw _ (List.mem_of_getElem? (i := 19) rfl)) (hw _ (List.mem_of_getElem? (i := 20) rfl)) (hw _ (List.mem_of_getElem? (i := 21) rfl)) e0 (g := (mkF m 1 #[.val (.ref x), .val (.ref t), .val (.int (0 : Int32))] [(.ref x)])) rfl (by rw [hml]; rfl) rfl (hb hby d4_1) (by decide) (W := 0) (by show 2 * 0 + _ ≤ _; exact Nat.le_of_eq rfl) (by decide)
  refine Gl.st st1 ?_
  show Gl p e below s _ _ _ T1 (mkF m 4 #[.val (.ref x), .val (.ref t), .val (.int (0 : Int32))] [])
  refine Gl.st (fun _ kk => XS.aloadN X1.here hx rfl (hb hby d4_4) rfl rfl kk) ?_
  show Gl p e below s _ _ _ T1 (mkF m 5 #[.val (.ref x), .val (.ref t), .val (.int (0 : Int32))] [(.ref x)])
  refine Gl.st (fun _ kk => XS.aloadN X1.here hx rfl (hb hby d4_5) rfl rfl kk) ?_
  show Gl p e below s _ _ _ T1 (mkF m 6 #[.val (.ref x), .val (.ref t), .val (.int (0 : Int32))] [(.ref t), (.ref x)])
  obtain ⟨T2, h2, X2, e2, W2, st2⟩ := putF X1 hx hZ hown (host := "") (Or.inl (hw _ (List.mem_of_getElem? (i := 22) rfl))) Via.refl e1 F_value_x Exa_x (Or.inr ⟨(hw _ (List.mem_of_getElem? (i := 23) rfl)), rfl, hnm⟩) (hw _ (List.mem_of_getElem? (i := 10) rfl)) (ty := (.array .byte)) (by decide) rfl rfl (g := (mkF m 6 #[.val (.ref x), .val (.ref t), .val (.int (0 : Int32))] [(.ref t), (.ref x)])) rfl rfl (hb hby d4_6)
  refine Gl.st st2 ?_
  have F_value_x := F_value_x.same W2
  replace Exa_x := Exa_x.wr W2
  replace F_coder_x := F_coder_x.other W2 (Or.inr (slot_ne (Or.inr (hw _ (List.mem_of_getElem? (i := 25) rfl))) (Or.inr (hw _ (List.mem_of_getElem? (i := 23) rfl))) (by decide) (t := .byte) (t' := (.array .byte)) (by decide) (by decide)))
  have O2 := O0.wr W2 g1
  have K2 := (Keep.refl h0 [x]).wr W2 (Or.inl (List.mem_of_getElem? (i := 0) rfl))
  have N2 := Fr.snoc X2 N0 g1
  show Gl p e below s _ _ _ T2 (mkF m 9 #[.val (.ref x), .val (.ref t), .val (.int (0 : Int32))] [])
  refine Gl.st (fun _ kk => XS.aloadN X2.here hx rfl (hb hby d4_9) rfl rfl kk) ?_
  show Gl p e below s _ _ _ T2 (mkF m 10 #[.val (.ref x), .val (.ref t), .val (.int (0 : Int32))] [(.ref x)])
  refine Gl.st (fun _ kk => XS.iloadN X2.here hx rfl (hb hby d4_10) rfl kk) ?_
  show Gl p e below s _ _ _ T2 (mkF m 11 #[.val (.ref x), .val (.ref t), .val (.int (0 : Int32))] [(.int (0 : Int32)), (.ref x)])
  obtain ⟨T3, h3, X3, e3, W3, st3⟩ := putFN X2 hx hZ hown (hw _ (List.mem_of_getElem? (i := 24) rfl)) Via.refl e2 F_coder_x Exa_x (Or.inr ⟨(hw _ (List.mem_of_getElem? (i := 25) rfl)), rfl, hnm⟩) (hw _ (List.mem_of_getElem? (i := 10) rfl)) (ty := .byte) (v' := (.int (0 : Int32))) (by decide) rfl rfl (g := (mkF m 11 #[.val (.ref x), .val (.ref t), .val (.int (0 : Int32))] [(.int (0 : Int32)), (.ref x)])) rfl rfl (hb hby d4_11)
  refine Gl.st st3 ?_
  have F_coder_x := F_coder_x.same W3
  replace Exa_x := Exa_x.wr W3
  replace F_value_x := F_value_x.other W3 (Or.inr (slot_ne (Or.inr (hw _ (List.mem_of_getElem? (i := 23) rfl))) (Or.inr (hw _ (List.mem_of_getElem? (i := 25) rfl))) (by decide) (t := (.array .byte)) (t' := .byte) (by decide) (by decide)))
  have O3 := O2.wr W3 g1
  have K3 := K2.wr W3 (Or.inl (List.mem_of_getElem? (i := 0) rfl))
  have N3 := Fr.snoc X3 N2 g1
  show Gl p e below s _ _ _ T3 (mkF m 14 #[.val (.ref x), .val (.ref t), .val (.int (0 : Int32))] [])
  exact Gl.ret X3 (v := none) (fun _ => rfl) (BodyLoose.notSynchronized Bd) (fun hr => X3.returnOut hx Bd.returns (hb hby d4_14) hr) e3 ⟨rfl, N3, K3, F_value_x, F_coder_x⟩ (by decide) (by decide)
theorem d1_0 : decode jdk_42_method_139_code 0 = .ok (.getstatic 38, 3) := by decide +kernel
theorem d1_3 : decode jdk_42_method_139_code 3 = .ok (.ifCond .eq 23, 3) := by decide +kernel
theorem d1_6 : decode jdk_42_method_139_code 6 = .ok (.iload_n 0, 1) := by decide +kernel
theorem d1_7 : decode jdk_42_method_139_code 7 = .ok (.invokestatic 1015, 3) := by decide +kernel
theorem d1_10 : decode jdk_42_method_139_code 10 = .ok (.ifCond .eq 16, 3) := by decide +kernel
theorem d1_13 : decode jdk_42_method_139_code 13 = .ok (.new 10, 3) := by decide +kernel
theorem d1_16 : decode jdk_42_method_139_code 16 = .ok (.dup, 1) := by decide +kernel
theorem d1_17 : decode jdk_42_method_139_code 17 = .ok (.iload_n 0, 1) := by decide +kernel
theorem d1_18 : decode jdk_42_method_139_code 18 = .ok (.invokestatic 1018, 3) := by decide +kernel
theorem d1_21 : decode jdk_42_method_139_code 21 = .ok (.iconst 0, 1) := by decide +kernel
theorem d1_22 : decode jdk_42_method_139_code 22 = .ok (.invokespecial 209, 3) := by decide +kernel
theorem d1_25 : decode jdk_42_method_139_code 25 = .ok (.areturn, 1) := by decide +kernel
theorem pd_rmVO_0 : parseMethodDescriptor "(C)Z" = some ⟨[.char], some .boolean⟩ := by decide +kernel
theorem pd_rmVO_1 : parseMethodDescriptor "(C)[B" = some ⟨[.char], some (.array .byte)⟩ := by decide +kernel
theorem pd_rmVO_2 : parseMethodDescriptor "([BB)V" = some ⟨[(.array .byte), .byte], none⟩ := by decide +kernel
theorem pn_rmVO : plainName "java/lang/String" = true := by first | (simp [plainName, overriddenIn]; done) | decide +kernel
theorem ef_rmVO (m : MethodId) (c1 : Int32) : entryFrame m #[(.int c1)] 1 = mkF m 0 #[.val (.int c1)] [] := by first | (simp [entryFrame, mkF, argsToLocals, Value.category]; done) | rfl
def Q_rmVO (Z : State) (c1 : Int32) (cz : Int32) (h0 : Heap) (n0 : Nat) (v : Option Value) (h : Heap) (L : List Loc) : Prop := ∃ (x t : Addr) (k : ClassId), v = some (.ref x) ∧ Fr n0 L ∧ Keep h0 h [] ∧ Exa Z h x "java/lang/String" ∧ Fld Z h x "java/lang/String" "value" "[B" (.ref t) ∧ Fld Z h x "java/lang/String" "coder" "B" (.int 0) ∧ Arv Z h t k .byte 1 [(.int (c1.toInt8.toInt32))] (.int 0) ∧ h0.size ≤ x ∧ h0.size ≤ t
set_option maxRecDepth 65536 in
set_option maxHeartbeats 40000000 in
theorem rmVO (l : Launch) (Z : State) (a0 : Array Value) (hw : ∀ d ∈ tables_1, d.before a0 Z = true) (ws : List Jvm.Cond) (c1 : Int32) (cz : Int32) (h0 : Heap) (n0 : Nat) (O0 : Old Z n0 h0) (hc1 : ¬ (255 : Int32) < c1) (S_COMPACT : Sta Z Z.heap "java/lang/String" "COMPACT_STRINGS" "Z" (.int cz)) (hcz : ¬ cz = 0) :
    MetFree l (⟨"java/lang/String", "valueOf", "(C)Ljava/lang/String;"⟩ : MethodName) (head1 (Jvm.Cond.code (⟨"java/lang/String", "valueOf", "(C)Ljava/lang/String;"⟩ : MethodName) jdk_42_method_139_code 1 (some (.object "java/lang/String")) :: ws) ({ frames := 2, cells := 2, slots := 5, locals := 27 } : Room)) (fun a U => a = #[(.int c1)] ∧ Z.Warmed39 U.vm ∧ U.heap = h0) (fun _ _ _ _ _ => True) (fun _ U o U' => ∃ v L, o = .returned v ∧ Q_rmVO Z c1 cz h0 n0 v U'.heap L ∧ FrameEnd U o U' L ({ frames := 2, cells := 2, slots := 5, locals := 27 } : Room).cells ({ frames := 2, cells := 2, slots := 5, locals := 27 } : Room).slots) := by
  refine MetFree.of_bodySF (plainFor_of_name pn_rmVO) hisR ?_
  intro p e s m args below meth c s₁ Bd hml0 hP hK
  obtain ⟨rfl, hZ, hh⟩ := hP
  have hx := Bd.exec
  have hby := Bd.bytes
  have hml : c.maxLocals = 1 := hml0
  have hown : s.vm.findClass "java/lang/String" = some m.cls := findClass_of_methodNamed Bd.named
  have hnm := (name_of_methodNamed Bd.named Bd.method).1
  have X0 : Stand p l e ({ frames := 2, cells := 2, slots := 5, locals := 27 } : Room) s m #[(.int c1)] below meth c s₁ [] 0 0 := Stand.of_body Bd
  have e0 : s₁.heap = h0 := by rw [← hh, Bd.state]; rfl
  have N0 := Fr.nil n0
  refine Gl.start (Q := Q_rmVO Z c1 cz h0 n0) (ef_rmVO m c1) ?_
  show Gl p e below s _ _ _ s₁ (mkF m 0 #[.val (.int c1)] [])
  obtain ⟨T1, X1, e1, st1⟩ := getS2 X0 hx hZ hown (host := "") (Or.inl (hw _ (List.mem_of_getElem? (i := 4) rfl))) Via.refl e0 (S_COMPACT.ext O0.2) (g := (mkF m 0 #[.val (.int c1)] [])) rfl (hb hby d1_0)
  refine Gl.st st1 ?_
  show Gl p e below s _ _ _ T1 (mkF m 3 #[.val (.int c1)] [(.int cz)])
  refine Gl.st (fun _ kk => XS.ifNo X1.here hx rfl (hb hby d1_3) rfl ((if0 _ _).trans (feq hcz).1) kk) ?_
  show Gl p e below s _ _ _ T1 (mkF m 6 #[.val (.int c1)] [])
  refine Gl.st (fun _ kk => XS.iloadN X1.here hx rfl (hb hby d1_6) rfl kk) ?_
  show Gl p e below s _ _ _ T1 (mkF m 7 #[.val (.int c1)] [(.int c1)])
  obtain ⟨v2, _, ⟨T2, L2, kQ2, nQ2⟩, -, X2, ⟨Lc2, hQ2, l2, y2, z2⟩, st2⟩ := Jvm.LawKit.callS X1 hx (y := (⟨"java/lang/StringLatin1", "canEncode", "(C)Z"⟩ : MethodName)) hown (mvT hZ (hw _ (List.mem_of_getElem? (i := 5) rfl))) (mvT hZ (hw _ (List.mem_of_getElem? (i := 6) rfl))) (mvT hZ (hw _ (List.mem_of_getElem? (i := 7) rfl))) (mvT hZ (hw _ (List.mem_of_getElem? (i := 8) rfl))) (by decide) (backOf (W := 0) (rmCE l Z a0 hw [] c1 h0 n0 O0 hc1) hZ (hw _ (List.mem_of_getElem? (i := 8) rfl)) (hw _ (List.mem_of_getElem? (i := 7) rfl)) (by decide) (by decide)) (g := (mkF m 7 #[.val (.int c1)] [(.int c1)])) rfl (by rw [hml]; rfl) (argsL := [(.int c1)]) (rest := []) (lenOf pd_rmVO_0 rfl) rfl (by show 2 * 0 + _ ≤ _; exact Nat.le_of_eq rfl) (hb hby d1_7) (fun _ _ => ⟨rfl, e1, (by decide : 0 + 0 ≤ _), (by decide : 0 + 0 ≤ _)⟩)
  dsimp only [Pt.U, Pt.locs, Pt.cells, Pt.slots] at X2 l2 y2 z2 st2 hQ2
  subst y2 z2
  obtain ⟨rfl, Nq2, e2⟩ := hQ2
  have N2 : Fr n0 L2 := l2 ▸ Fr.app N0 Nq2
  refine Gl.st st2 ?_
  clear st2
  clear X1 e1
  show Gl p e below s _ _ _ T2 (mkF m 10 #[.val (.int c1)] [(.int (1 : Int32))])
  refine Gl.st (fun _ kk => XS.ifNo X2.here hx rfl (hb hby d1_10) rfl ((if0 _ _).trans (feq (by decide : ¬ ((1 : Int32) = (0 : Int32)))).1) kk) ?_
  show Gl p e below s _ _ _ T2 (mkF m 13 #[.val (.int c1)] [])
  obtain ⟨T3, h3, X3, e3, E3, A3, D3, V3, st3⟩ := newO X2 hx hZ hown (hw _ (List.mem_of_getElem? (i := 9) rfl)) (hw _ (List.mem_of_getElem? (i := 10) rfl)) (hw _ (List.mem_of_getElem? (i := 2) rfl)) e2 (g := (mkF m 13 #[.val (.int c1)] [])) rfl (hb hby d1_13) (by decide) (by decide)
  obtain ⟨b3, g3⟩ : ∃ z, z = h0.size := ⟨_, rfl⟩
  rw [← g3] at A3 D3 V3 st3
  refine Gl.st st3 ?_
  have ge_b3 : n0 ≤ b3 := Nat.le_trans (Nat.le_trans (Nat.le_of_eq O0.1.symm) O0.2.1) (Nat.le_of_eq g3.symm)
  have fr_b3 : h0.size ≤ b3 := Nat.le_trans (Nat.le_refl _) (Nat.le_of_eq g3.symm)
  have O3 := O0.ext E3
  have K3 := (Keep.refl h0 []).ext E3
  have Exa_b3 := A3
  have F_value_b3 : Fld Z h3 b3 "java/lang/String" "value" "[B" .null := D3 (Or.inr (hw _ (List.mem_of_getElem? (i := 23) rfl))) (ty := (.array .byte)) (by decide)
  have F_coder_b3 : Fld Z h3 b3 "java/lang/String" "coder" "B" (.int (0 : Int32)) := D3 (Or.inr (hw _ (List.mem_of_getElem? (i := 25) rfl))) (ty := .byte) (by decide)
  show Gl p e below s _ _ _ T3 (mkF m 16 #[.val (.int c1)] [(.ref b3)])
  refine Gl.st (fun _ kk => XS.dup X3.here hx rfl (hb hby d1_16) rfl rfl kk) ?_
  show Gl p e below s _ _ _ T3 (mkF m 17 #[.val (.int c1)] [(.ref b3), (.ref b3)])
  refine Gl.st (fun _ kk => XS.iloadN X3.here hx rfl (hb hby d1_17) rfl kk) ?_
  show Gl p e below s _ _ _ T3 (mkF m 18 #[.val (.int c1)] [(.int c1), (.ref b3), (.ref b3)])
  have lq4_b3 := Exa_b3.lt
  obtain ⟨v4, _, ⟨T4, L4, kQ4, nQ4⟩, -, X4, ⟨Lc4, hQ4, l4, y4, z4⟩, st4⟩ := Jvm.LawKit.callS X3 hx (y := (⟨"java/lang/StringLatin1", "toBytes", "(C)[B"⟩ : MethodName)) hown (mvT hZ (hw _ (List.mem_of_getElem? (i := 11) rfl))) (mvT hZ (hw _ (List.mem_of_getElem? (i := 12) rfl))) (mvT hZ (hw _ (List.mem_of_getElem? (i := 7) rfl))) (mvT hZ (hw _ (List.mem_of_getElem? (i := 13) rfl))) (by decide) (backOf (W := 2) (rmTB l Z a0 hw [] c1 h3 n0 O3) hZ (hw _ (List.mem_of_getElem? (i := 13) rfl)) (hw _ (List.mem_of_getElem? (i := 7) rfl)) (by decide) (by decide)) (g := (mkF m 18 #[.val (.int c1)] [(.int c1), (.ref b3), (.ref b3)])) rfl (by rw [hml]; rfl) (argsL := [(.int c1)]) (rest := [(.ref b3), (.ref b3)]) (lenOf pd_rmVO_1 rfl) rfl (by show 2 * 0 + _ ≤ _; exact Nat.le_of_eq rfl) (hb hby d1_18) (fun _ _ => ⟨rfl, e3, (by decide : 1 + 1 ≤ _), (by decide : 4 + 1 ≤ _)⟩)
  dsimp only [Pt.U, Pt.locs, Pt.cells, Pt.slots] at X4 l4 y4 z4 st4 hQ4
  subst y4 z4
  obtain ⟨h4, e4⟩ : ∃ z, T4.heap = z := ⟨_, rfl⟩
  rw [e4] at hQ4
  obtain ⟨b4, k4, rfl, Nq4, Kq4, Arv_b4, frq4⟩ := hQ4
  have N4 : Fr n0 L4 := l4 ▸ Fr.app N2 Nq4
  refine Gl.st st4 ?_
  replace Exa_b3 := Exa_b3.keep Kq4
  replace F_value_b3 := F_value_b3.keep Kq4 nin0
  replace F_coder_b3 := F_coder_b3.keep Kq4 nin0
  have O4 := O3.keep Kq4 all0
  have K4 := K3.trans Kq4 all0
  have ne_b3_b4 : b3 ≠ b4 := Nat.ne_of_lt (Nat.lt_of_lt_of_le lq4_b3 frq4)
  have ge_b4 : n0 ≤ b4 := Nat.le_trans (Nat.le_trans (Nat.le_of_eq O3.1.symm) O3.2.1) frq4
  have fr_b4 : h0.size ≤ b4 := Nat.le_trans K3.1 frq4
  clear st4
  clear O3 K3 N2 X3 e3
  show Gl p e below s _ _ _ T4 (mkF m 21 #[.val (.int c1)] [(.ref b4), (.ref b3), (.ref b3)])
  refine Gl.st (fun _ kk => XS.iconst X4.here hx rfl (hb hby d1_21) kk) ?_
  show Gl p e below s _ _ _ T4 (mkF m 22 #[.val (.int c1)] [(.int (0 : Int32)), (.ref b4), (.ref b3), (.ref b3)])
  obtain ⟨v5, _, ⟨T5, L5, kQ5, nQ5⟩, -, X5, ⟨Lc5, hQ5, l5, y5, z5⟩, st5⟩ := X4.specialBack hx (y := (⟨"java/lang/String", "<init>", "([BB)V"⟩ : MethodName)) rfl hown (mvT hZ (hw _ (List.mem_of_getElem? (i := 15) rfl))) (mvT hZ (hw _ (List.mem_of_getElem? (i := 16) rfl))) (mvT hZ (hw _ (List.mem_of_getElem? (i := 18) rfl))) (by decide) (backOf (W := 1) (rmBB l Z a0 hw [] b3 b4 h4 n0 O4 Exa_b3 F_value_b3 F_coder_b3 ge_b3) hZ (hw _ (List.mem_of_getElem? (i := 18) rfl)) (hw _ (List.mem_of_getElem? (i := 2) rfl)) (by decide) (by decide)) (g := (mkF m 22 #[.val (.int c1)] [(.int (0 : Int32)), (.ref b4), (.ref b3), (.ref b3)])) rfl (by rw [hml]; rfl) (Steps.refl _) (a := b3) (argsL := [(.ref b4), (.int (0 : Int32))]) (rest := [(.ref b3)]) (lenOf pd_rmVO_2 rfl) rfl (by show 2 * 0 + _ ≤ _; exact Nat.le_of_eq rfl) (hb hby d1_22) (fun _ _ => ⟨rfl, e4, (by decide : 2 + 0 ≤ _), (by decide : 5 + 0 ≤ _)⟩)
  dsimp only [Pt.U, Pt.locs, Pt.cells, Pt.slots] at X5 l5 y5 z5 st5 hQ5
  subst y5 z5
  obtain ⟨h5, e5⟩ : ∃ z, T5.heap = z := ⟨_, rfl⟩
  rw [e5] at hQ5
  obtain ⟨rfl, Nq5, Kq5, Fv5, Fc5⟩ := hQ5
  have N5 : Fr n0 L5 := l5 ▸ Fr.app N4 Nq5
  refine Gl.st (fun _ kk => st5.trans kk) ?_
  replace Exa_b3 := Exa_b3.keep Kq5
  replace Arv_b4 := Arv_b4.keep Kq5 (ninS (Ne.symm ne_b3_b4) nin0)
  have O5 := O4.keep Kq5 (allS ge_b3 all0)
  have K5 := K4.trans Kq5 (allS (Or.inr fr_b3) all0)
  have F_value_b3 := Fv5
  have F_coder_b3 := Fc5
  clear st5
  clear O4 K4 N4 X4 e4
  show Gl p e below s _ _ _ T5 (mkF m 25 #[.val (.int c1)] [(.ref b3)])
  exact Gl.ret X5 (v := (some (.ref b3))) (fun h => by rw [Bd.returns] at h; cases h) (BodyLoose.notSynchronized Bd) (fun hr => retOut X5 hx Bd.returns rfl (Or.inr (Or.inr (Or.inr (Or.inr ⟨rfl, rfl, rfl⟩)))) (hb hby d1_25) hr) e5 ⟨b3, b4, k4, rfl, N5, K5, Exa_b3, F_value_b3, F_coder_b3, Arv_b4, fr_b3, fr_b4⟩ (by decide) (by decide)
theorem d39_0 : decode jdk_43_method_13_code 0 = .ok (.aload_n 0, 1) := by decide +kernel
theorem d39_1 : decode jdk_43_method_13_code 1 = .ok (.arraylength, 1) := by decide +kernel
theorem d39_2 : decode jdk_43_method_13_code 2 = .ok (.aload_n 1, 1) := by decide +kernel
theorem d39_3 : decode jdk_43_method_13_code 3 = .ok (.arraylength, 1) := by decide +kernel
theorem d39_4 : decode jdk_43_method_13_code 4 = .ok (.if_icmp .ne 30, 3) := by decide +kernel
theorem d39_7 : decode jdk_43_method_13_code 7 = .ok (.iconst 0, 1) := by decide +kernel
theorem d39_8 : decode jdk_43_method_13_code 8 = .ok (.istore_n 2, 1) := by decide +kernel
theorem d39_9 : decode jdk_43_method_13_code 9 = .ok (.iload_n 2, 1) := by decide +kernel
theorem d39_10 : decode jdk_43_method_13_code 10 = .ok (.aload_n 0, 1) := by decide +kernel
theorem d39_11 : decode jdk_43_method_13_code 11 = .ok (.arraylength, 1) := by decide +kernel
theorem d39_12 : decode jdk_43_method_13_code 12 = .ok (.if_icmp .ge 20, 3) := by decide +kernel
theorem d39_15 : decode jdk_43_method_13_code 15 = .ok (.aload_n 0, 1) := by decide +kernel
theorem d39_16 : decode jdk_43_method_13_code 16 = .ok (.iload_n 2, 1) := by decide +kernel
theorem d39_17 : decode jdk_43_method_13_code 17 = .ok (.baload, 1) := by decide +kernel
theorem d39_18 : decode jdk_43_method_13_code 18 = .ok (.aload_n 1, 1) := by decide +kernel
theorem d39_19 : decode jdk_43_method_13_code 19 = .ok (.iload_n 2, 1) := by decide +kernel
theorem d39_20 : decode jdk_43_method_13_code 20 = .ok (.baload, 1) := by decide +kernel
theorem d39_21 : decode jdk_43_method_13_code 21 = .ok (.if_icmp .eq 5, 3) := by decide +kernel
theorem d39_24 : decode jdk_43_method_13_code 24 = .ok (.iconst 0, 1) := by decide +kernel
theorem d39_25 : decode jdk_43_method_13_code 25 = .ok (.ireturn, 1) := by decide +kernel
theorem d39_26 : decode jdk_43_method_13_code 26 = .ok (.iinc 2 1, 3) := by decide +kernel
theorem d39_29 : decode jdk_43_method_13_code 29 = .ok (.goto (-20), 3) := by decide +kernel
theorem d39_32 : decode jdk_43_method_13_code 32 = .ok (.iconst 1, 1) := by decide +kernel
theorem d39_33 : decode jdk_43_method_13_code 33 = .ok (.ireturn, 1) := by decide +kernel
theorem d39_34 : decode jdk_43_method_13_code 34 = .ok (.iconst 0, 1) := by decide +kernel
theorem d39_35 : decode jdk_43_method_13_code 35 = .ok (.ireturn, 1) := by decide +kernel
theorem pn_rmLE : plainName "java/lang/StringLatin1" = true := by first | (simp [plainName, overriddenIn]; done) | decide +kernel
theorem ef_rmLE (m : MethodId) (a1 : Addr) (a2 : Addr) : entryFrame m #[(.ref a1), (.ref a2)] 3 = mkF m 0 #[.val (.ref a1), .val (.ref a2), .unset] [] := by first | (simp [entryFrame, mkF, argsToLocals, Value.category]; done) | rfl
def Q_rmLE (Z : State) (a1 : Addr) (a2 : Addr) (k1 k2 : ClassId) (us us2 : List Int32) (z : Int32) (h0 : Heap) (n0 : Nat) (v : Option Value) (h : Heap) (L : List Loc) : Prop := v = some (.int z) ∧ Fr n0 L ∧ h = h0
set_option maxRecDepth 65536 in
set_option maxHeartbeats 40000000 in
theorem rmLE (l : Launch) (Z : State) (a0 : Array Value) (hw : ∀ d ∈ tables_1, d.before a0 Z = true) (ws : List Jvm.Cond) (a1 : Addr) (a2 : Addr) (k1 k2 : ClassId) (us us2 : List Int32) (z : Int32) (h0 : Heap) (n0 : Nat) (O0 : Old Z n0 h0) (A1 : Arv Z h0 a1 k1 .byte (Int32.ofNat us.length) (us.map Value.int) (.int 0)) (A2 : Arv Z h0 a2 k2 .byte (Int32.ofNat us2.length) (us2.map Value.int) (.int 0)) (hb_us : us.length < 2 ^ 31) (hb_us2 : us2.length < 2 ^ 31) (hz : z = if us = us2 then 1 else 0) :
    MetFree l (⟨"java/lang/StringLatin1", "equals", "([B[B)Z"⟩ : MethodName) (head1 (Jvm.Cond.code (⟨"java/lang/StringLatin1", "equals", "([B[B)Z"⟩ : MethodName) jdk_43_method_13_code 3 (some .boolean) :: ws) ({ frames := 0, cells := 0, slots := 0, locals := 0 } : Room)) (fun a U => a = #[(.ref a1), (.ref a2)] ∧ Z.Warmed39 U.vm ∧ U.heap = h0) (fun _ _ _ _ _ => True) (fun _ U o U' => ∃ v L, o = .returned v ∧ Q_rmLE Z a1 a2 k1 k2 us us2 z h0 n0 v U'.heap L ∧ FrameEnd U o U' L ({ frames := 0, cells := 0, slots := 0, locals := 0 } : Room).cells ({ frames := 0, cells := 0, slots := 0, locals := 0 } : Room).slots) := by
  refine MetFree.of_bodySF (plainFor_of_name pn_rmLE) hisR ?_
  intro p e s m args below meth c s₁ Bd hml0 hP hK
  obtain ⟨rfl, hZ, hh⟩ := hP
  have hx := Bd.exec
  have hby := Bd.bytes
  have hml : c.maxLocals = 3 := hml0
  have hown : s.vm.findClass "java/lang/StringLatin1" = some m.cls := findClass_of_methodNamed Bd.named
  have hnm := (name_of_methodNamed Bd.named Bd.method).1
  have X0 : Stand p l e ({ frames := 0, cells := 0, slots := 0, locals := 0 } : Room) s m #[(.ref a1), (.ref a2)] below meth c s₁ [] 0 0 := Stand.of_body Bd
  have e0 : s₁.heap = h0 := by rw [← hh, Bd.state]; rfl
  have N0 := Fr.nil n0
  refine Gl.start (Q := Q_rmLE Z a1 a2 k1 k2 us us2 z h0 n0) (ef_rmLE m a1 a2) ?_
  show Gl p e below s _ _ _ s₁ (mkF m 0 #[.val (.ref a1), .val (.ref a2), .unset] [])
  refine Gl.st (fun _ kk => XS.aloadN X0.here hx rfl (hb hby d39_0) rfl rfl kk) ?_
  show Gl p e below s _ _ _ s₁ (mkF m 1 #[.val (.ref a1), .val (.ref a2), .unset] [(.ref a1)])
  obtain ⟨cl1, Ar1, q1, Sz1, Ng1, Ha1, Fi1⟩ := id A1
  refine Gl.st (fun _ kk => X0.arraylength hx (by rw [e0]; exact Ar1.1) (State.isArrayOf_alike hZ.alike Ar1.2.1) (g := (mkF m 1 #[.val (.ref a1), .val (.ref a2), .unset] [(.ref a1)])) rfl rfl (hb hby d39_1) _ kk) ?_
  rw [len_of Sz1 Ng1]
  show Gl p e below s _ _ _ s₁ (mkF m 2 #[.val (.ref a1), .val (.ref a2), .unset] [(.int (Int32.ofNat us.length))])
  refine Gl.st (fun _ kk => XS.aloadN X0.here hx rfl (hb hby d39_2) rfl rfl kk) ?_
  show Gl p e below s _ _ _ s₁ (mkF m 3 #[.val (.ref a1), .val (.ref a2), .unset] [(.ref a2), (.int (Int32.ofNat us.length))])
  obtain ⟨cl2, Ar2, q2, Sz2, Ng2, Ha2, Fi2⟩ := id A2
  refine Gl.st (fun _ kk => X0.arraylength hx (by rw [e0]; exact Ar2.1) (State.isArrayOf_alike hZ.alike Ar2.2.1) (g := (mkF m 3 #[.val (.ref a1), .val (.ref a2), .unset] [(.ref a2), (.int (Int32.ofNat us.length))])) rfl rfl (hb hby d39_3) _ kk) ?_
  rw [len_of Sz2 Ng2]
  show Gl p e below s _ _ _ s₁ (mkF m 4 #[.val (.ref a1), .val (.ref a2), .unset] [(.int (Int32.ofNat us2.length)), (.int (Int32.ofNat us.length))])
  by_cases hc4 : (Int32.ofNat us.length) = (Int32.ofNat us2.length)
  · skip
    refine Gl.st (fun _ kk => XS.icmpNo X0.here hx rfl (hb hby d39_4) rfl (teq hc4).2 kk) ?_
    show Gl p e below s _ _ _ s₁ (mkF m 7 #[.val (.ref a1), .val (.ref a2), .unset] [])
    have hL : us.length = us2.length := own_ofNat_inj hb_us hb_us2 hc4
    refine Gl.st (fun _ kk => XS.iconst X0.here hx rfl (hb hby d39_7) kk) ?_
    show Gl p e below s _ _ _ s₁ (mkF m 8 #[.val (.ref a1), .val (.ref a2), .unset] [(.int (0 : Int32))])
    refine Gl.st (fun _ kk => XS.istoreN X0.here hx rfl (hb hby d39_8) rfl (l' := #[.val (.ref a1), .val (.ref a2), .val (.int (0 : Int32))]) rfl kk) ?_
    show Gl p e below s _ _ _ s₁ (mkF m 9 #[.val (.ref a1), .val (.ref a2), .val (.int (0 : Int32))] [])
    have loop9 : ∀ (kM : Nat) (j : Nat) (hj : j ≤ us.length) (hq : ∀ i, i < j → us.getD i 0 = us2.getD i 0) (hM3 : us.length - j = kM) (T3 : State) (L3 : List Loc), Stand p l e ({ frames := 0, cells := 0, slots := 0, locals := 0 } : Room) s m #[(.ref a1), (.ref a2)] below meth c T3 L3 0 0 → T3.heap = h0 → Fr n0 L3 → Gl p e below s ({ frames := 0, cells := 0, slots := 0, locals := 0 } : Room).cells ({ frames := 0, cells := 0, slots := 0, locals := 0 } : Room).slots (Q_rmLE Z a1 a2 k1 k2 us us2 z h0 n0) T3 (mkF m 9 #[.val (.ref a1), .val (.ref a2), .val (.int (Int32.ofNat j))] []) := by
      intro kM
      refine Nat.strongRecOn kM ?_
      clear kM
      intro kM ihM j hj hq hM3 T3 L3 X3 e3 N3
      show Gl p e below s _ _ _ T3 (mkF m 9 #[.val (.ref a1), .val (.ref a2), .val (.int (Int32.ofNat j))] [])
      refine Gl.st (fun _ kk => XS.iloadN X3.here hx rfl (hb hby d39_9) rfl kk) ?_
      show Gl p e below s _ _ _ T3 (mkF m 10 #[.val (.ref a1), .val (.ref a2), .val (.int (Int32.ofNat j))] [(.int (Int32.ofNat j))])
      refine Gl.st (fun _ kk => XS.aloadN X3.here hx rfl (hb hby d39_10) rfl rfl kk) ?_
      show Gl p e below s _ _ _ T3 (mkF m 11 #[.val (.ref a1), .val (.ref a2), .val (.int (Int32.ofNat j))] [(.ref a1), (.int (Int32.ofNat j))])
      obtain ⟨cl4, Ar4, q4, Sz4, Ng4, Ha4, Fi4⟩ := id A1
      refine Gl.st (fun _ kk => X3.arraylength hx (by rw [e3]; exact Ar4.1) (State.isArrayOf_alike hZ.alike Ar4.2.1) (g := (mkF m 11 #[.val (.ref a1), .val (.ref a2), .val (.int (Int32.ofNat j))] [(.ref a1), (.int (Int32.ofNat j))])) rfl rfl (hb hby d39_11) _ kk) ?_
      rw [len_of Sz4 Ng4]
      show Gl p e below s _ _ _ T3 (mkF m 12 #[.val (.ref a1), .val (.ref a2), .val (.int (Int32.ofNat j))] [(.int (Int32.ofNat us.length)), (.int (Int32.ofNat j))])
      by_cases hc12 : (Int32.ofNat j) < (Int32.ofNat us.length)
      · skip
        refine Gl.st (fun _ kk => XS.icmpNo X3.here hx rfl (hb hby d39_12) rfl (tlt hc12).2.1 kk) ?_
        show Gl p e below s _ _ _ T3 (mkF m 15 #[.val (.ref a1), .val (.ref a2), .val (.int (Int32.ofNat j))] [])
        have hlt : j + 1 ≤ us.length := (own_ofNat_lt (by omega) hb_us).mp hc12
        have hjb : j < 2 ^ 31 := by omega
        refine Gl.st (fun _ kk => XS.aloadN X3.here hx rfl (hb hby d39_15) rfl rfl kk) ?_
        show Gl p e below s _ _ _ T3 (mkF m 16 #[.val (.ref a1), .val (.ref a2), .val (.int (Int32.ofNat j))] [(.ref a1)])
        refine Gl.st (fun _ kk => XS.iloadN X3.here hx rfl (hb hby d39_16) rfl kk) ?_
        show Gl p e below s _ _ _ T3 (mkF m 17 #[.val (.ref a1), .val (.ref a2), .val (.int (Int32.ofNat j))] [(.int (Int32.ofNat j)), (.ref a1)])
        obtain ⟨cl5, Ar5, q5, Sz5, Ng5, Ha5, Fi5⟩ := id A1
        have hin5 : ¬ ((Int32.ofNat j) < 0 ∨ cl5.slots.size ≤ ((Int32.ofNat j)).toNatClampNeg) := by rw [Sz5, own_ofNat_clamp hb_us, own_ofNat_clamp hjb]; exact fun q => q.elim (own_ofNat_nneg hjb) (by omega)
        have hat5 : cl5.slots[((Int32.ofNat j)).toNatClampNeg]? = some (.int (us.getD j 0)) := Ha5.at hin5 (by rw [own_ofNat_clamp hjb, own_mapD])
        refine Gl.st (fun _ kk => X3.baloadBytes hx (j := (Int32.ofNat j)) (v := (.int (us.getD j 0))) (by rw [e3]; exact Ar5.1) (State.isArrayOf_alike hZ.alike Ar5.2.1) Ar5.2.2 hin5 hat5 (g := (mkF m 17 #[.val (.ref a1), .val (.ref a2), .val (.int (Int32.ofNat j))] [(.int (Int32.ofNat j)), (.ref a1)])) rfl rfl (hb hby d39_17) _ kk) ?_
        show Gl p e below s _ _ _ T3 (mkF m 18 #[.val (.ref a1), .val (.ref a2), .val (.int (Int32.ofNat j))] [(.int (us.getD j 0))])
        refine Gl.st (fun _ kk => XS.aloadN X3.here hx rfl (hb hby d39_18) rfl rfl kk) ?_
        show Gl p e below s _ _ _ T3 (mkF m 19 #[.val (.ref a1), .val (.ref a2), .val (.int (Int32.ofNat j))] [(.ref a2), (.int (us.getD j 0))])
        refine Gl.st (fun _ kk => XS.iloadN X3.here hx rfl (hb hby d39_19) rfl kk) ?_
        show Gl p e below s _ _ _ T3 (mkF m 20 #[.val (.ref a1), .val (.ref a2), .val (.int (Int32.ofNat j))] [(.int (Int32.ofNat j)), (.ref a2), (.int (us.getD j 0))])
        obtain ⟨cl6, Ar6, q6, Sz6, Ng6, Ha6, Fi6⟩ := id A2
        have hin6 : ¬ ((Int32.ofNat j) < 0 ∨ cl6.slots.size ≤ ((Int32.ofNat j)).toNatClampNeg) := by rw [Sz6, own_ofNat_clamp hb_us2, own_ofNat_clamp hjb]; exact fun q => q.elim (own_ofNat_nneg hjb) (by omega)
        have hat6 : cl6.slots[((Int32.ofNat j)).toNatClampNeg]? = some (.int (us2.getD j 0)) := Ha6.at hin6 (by rw [own_ofNat_clamp hjb, own_mapD])
        refine Gl.st (fun _ kk => X3.baloadBytes hx (j := (Int32.ofNat j)) (v := (.int (us2.getD j 0))) (by rw [e3]; exact Ar6.1) (State.isArrayOf_alike hZ.alike Ar6.2.1) Ar6.2.2 hin6 hat6 (g := (mkF m 20 #[.val (.ref a1), .val (.ref a2), .val (.int (Int32.ofNat j))] [(.int (Int32.ofNat j)), (.ref a2), (.int (us.getD j 0))])) rfl rfl (hb hby d39_20) _ kk) ?_
        show Gl p e below s _ _ _ T3 (mkF m 21 #[.val (.ref a1), .val (.ref a2), .val (.int (Int32.ofNat j))] [(.int (us2.getD j 0)), (.int (us.getD j 0))])
        by_cases hc21 : (us.getD j 0) = (us2.getD j 0)
        · skip
          refine Gl.st (fun _ kk => XS.icmpYes X3.here hx rfl (pc0 := 21) (pc' := 26) rfl (hb hby d39_21) rfl (teq hc21).1 (by decide) (by decide) kk) ?_
          show Gl p e below s _ _ _ T3 (mkF m 26 #[.val (.ref a1), .val (.ref a2), .val (.int (Int32.ofNat j))] [])
          have hq' : ∀ i, i < j + 1 → us.getD i 0 = us2.getD i 0 := by
            intro i hi
            by_cases hij : i = j
            · rw [hij]; exact hc21
            · exact hq i (by omega)
          have hless : us.length - (j + 1) < kM := by omega
          refine Gl.st (fun _ kk => XS.iinc X3.here hx rfl (hb hby d39_26) rfl (l' := #[.val (.ref a1), .val (.ref a2), .val (.int ((Int32.ofNat j) + (1 : Int32)))]) rfl kk) ?_
          show Gl p e below s _ _ _ T3 (mkF m 29 #[.val (.ref a1), .val (.ref a2), .val (.int ((Int32.ofNat j) + (1 : Int32)))] [])
          rw [own_ofNat_succ]
          show Gl p e below s _ _ _ T3 (mkF m 29 #[.val (.ref a1), .val (.ref a2), .val (.int (Int32.ofNat (j + 1)))] [])
          refine Gl.st (fun _ kk => XS.goto X3.here hx rfl (pc0 := 29) (pc' := 9) rfl (hb hby d39_29) (by decide) (by decide) kk) ?_
          show Gl p e below s _ _ _ T3 (mkF m 9 #[.val (.ref a1), .val (.ref a2), .val (.int (Int32.ofNat (j + 1)))] [])
          exact ihM _ hless (j + 1) hlt hq' rfl _ _ X3 e3 N3
        · skip
          refine Gl.st (fun _ kk => XS.icmpNo X3.here hx rfl (hb hby d39_21) rfl (feq hc21).1 kk) ?_
          show Gl p e below s _ _ _ T3 (mkF m 24 #[.val (.ref a1), .val (.ref a2), .val (.int (Int32.ofNat j))] [])
          refine Gl.st (fun _ kk => XS.iconst X3.here hx rfl (hb hby d39_24) kk) ?_
          show Gl p e below s _ _ _ T3 (mkF m 25 #[.val (.ref a1), .val (.ref a2), .val (.int (Int32.ofNat j))] [(.int (0 : Int32))])
          have hzz : z = 0 := by rw [hz, if_neg (fun q => hc21 (by rw [q]))]
          exact Gl.ret X3 (v := (some (.int (0 : Int32)))) (fun h => by rw [Bd.returns] at h; cases h) (BodyLoose.notSynchronized Bd) (fun hr => retN X3 hx (t := .boolean) Bd.returns (by simp) (hb hby d39_25) hr) e3 ⟨by rw [hzz], N3, rfl⟩ (by decide) (by decide)
      · skip
        refine Gl.st (fun _ kk => XS.icmpYes X3.here hx rfl (pc0 := 12) (pc' := 32) rfl (hb hby d39_12) rfl (flt hc12).2.1 (by decide) (by decide) kk) ?_
        show Gl p e below s _ _ _ T3 (mkF m 32 #[.val (.ref a1), .val (.ref a2), .val (.int (Int32.ofNat j))] [])
        refine Gl.st (fun _ kk => XS.iconst X3.here hx rfl (hb hby d39_32) kk) ?_
        show Gl p e below s _ _ _ T3 (mkF m 33 #[.val (.ref a1), .val (.ref a2), .val (.int (Int32.ofNat j))] [(.int (1 : Int32))])
        have hall : us = us2 := own_all_eq hL (fun i hi => hq i (by have := mt (own_ofNat_lt (by omega) hb_us).mpr hc12; omega))
        have hzz : z = 1 := by rw [hz, if_pos hall]
        exact Gl.ret X3 (v := (some (.int (1 : Int32)))) (fun h => by rw [Bd.returns] at h; cases h) (BodyLoose.notSynchronized Bd) (fun hr => retN X3 hx (t := .boolean) Bd.returns (by simp) (hb hby d39_33) hr) e3 ⟨by rw [hzz], N3, rfl⟩ (by decide) (by decide)
    exact loop9 _ 0 (Nat.zero_le _) (fun i hi => absurd hi (Nat.not_lt_zero i)) rfl _ _ X0 e0 N0
  · skip
    refine Gl.st (fun _ kk => XS.icmpYes X0.here hx rfl (pc0 := 4) (pc' := 34) rfl (hb hby d39_4) rfl (feq hc4).2 (by decide) (by decide) kk) ?_
    show Gl p e below s _ _ _ s₁ (mkF m 34 #[.val (.ref a1), .val (.ref a2), .unset] [])
    refine Gl.st (fun _ kk => XS.iconst X0.here hx rfl (hb hby d39_34) kk) ?_
    show Gl p e below s _ _ _ s₁ (mkF m 35 #[.val (.ref a1), .val (.ref a2), .unset] [(.int (0 : Int32))])
    have hzz : z = 0 := by rw [hz, if_neg (fun q => hc4 (by rw [q]))]
    exact Gl.ret X0 (v := (some (.int (0 : Int32)))) (fun h => by rw [Bd.returns] at h; cases h) (BodyLoose.notSynchronized Bd) (fun hr => retN X0 hx (t := .boolean) Bd.returns (by simp) (hb hby d39_35) hr) e0 ⟨by rw [hzz], N0, rfl⟩ (by decide) (by decide)
theorem d38_0 : decode jdk_42_method_66_code 0 = .ok (.aload_n 0, 1) := by decide +kernel
theorem d38_1 : decode jdk_42_method_66_code 1 = .ok (.aload_n 1, 1) := by decide +kernel
theorem d38_2 : decode jdk_42_method_66_code 2 = .ok (.if_acmp .ne 5, 3) := by decide +kernel
theorem d38_5 : decode jdk_42_method_66_code 5 = .ok (.iconst 1, 1) := by decide +kernel
theorem d38_6 : decode jdk_42_method_66_code 6 = .ok (.ireturn, 1) := by decide +kernel
theorem d38_7 : decode jdk_42_method_66_code 7 = .ok (.aload_n 1, 1) := by decide +kernel
theorem d38_8 : decode jdk_42_method_66_code 8 = .ok (.instanceof 10, 3) := by decide +kernel
theorem d38_11 : decode jdk_42_method_66_code 11 = .ok (.ifCond .eq 43, 3) := by decide +kernel
theorem d38_14 : decode jdk_42_method_66_code 14 = .ok (.aload_n 1, 1) := by decide +kernel
theorem d38_15 : decode jdk_42_method_66_code 15 = .ok (.checkcast 10, 3) := by decide +kernel
theorem d38_18 : decode jdk_42_method_66_code 18 = .ok (.astore_n 2, 1) := by decide +kernel
theorem d38_19 : decode jdk_42_method_66_code 19 = .ok (.getstatic 38, 3) := by decide +kernel
theorem d38_22 : decode jdk_42_method_66_code 22 = .ok (.ifCond .eq 14, 3) := by decide +kernel
theorem d38_25 : decode jdk_42_method_66_code 25 = .ok (.aload_n 0, 1) := by decide +kernel
theorem d38_26 : decode jdk_42_method_66_code 26 = .ok (.getfield 15, 3) := by decide +kernel
theorem d38_29 : decode jdk_42_method_66_code 29 = .ok (.aload_n 2, 1) := by decide +kernel
theorem d38_30 : decode jdk_42_method_66_code 30 = .ok (.getfield 15, 3) := by decide +kernel
theorem d38_33 : decode jdk_42_method_66_code 33 = .ok (.if_icmp .ne 21, 3) := by decide +kernel
theorem d38_36 : decode jdk_42_method_66_code 36 = .ok (.aload_n 0, 1) := by decide +kernel
theorem d38_37 : decode jdk_42_method_66_code 37 = .ok (.getfield 9, 3) := by decide +kernel
theorem d38_40 : decode jdk_42_method_66_code 40 = .ok (.aload_n 2, 1) := by decide +kernel
theorem d38_41 : decode jdk_42_method_66_code 41 = .ok (.getfield 9, 3) := by decide +kernel
theorem d38_44 : decode jdk_42_method_66_code 44 = .ok (.invokestatic 541, 3) := by decide +kernel
theorem d38_47 : decode jdk_42_method_66_code 47 = .ok (.ifCond .eq 7, 3) := by decide +kernel
theorem d38_50 : decode jdk_42_method_66_code 50 = .ok (.iconst 1, 1) := by decide +kernel
theorem d38_51 : decode jdk_42_method_66_code 51 = .ok (.goto 4, 3) := by decide +kernel
theorem d38_54 : decode jdk_42_method_66_code 54 = .ok (.iconst 0, 1) := by decide +kernel
theorem d38_55 : decode jdk_42_method_66_code 55 = .ok (.ireturn, 1) := by decide +kernel
theorem pd_rmSE_0 : parseMethodDescriptor "([B[B)Z" = some ⟨[(.array .byte), (.array .byte)], some .boolean⟩ := by decide +kernel
theorem pn_rmSE : plainName "java/lang/String" = true := by first | (simp [plainName, overriddenIn]; done) | decide +kernel
theorem ef_rmSE (m : MethodId) (x : Addr) (y : Addr) : entryFrame m #[(.ref x), (.ref y)] 3 = mkF m 0 #[.val (.ref x), .val (.ref y), .unset] [] := by first | (simp [entryFrame, mkF, argsToLocals, Value.category]; done) | rfl
def Q_rmSE (Z : State) (x : Addr) (y : Addr) (t1 t2 : Addr) (k1 k2 : ClassId) (us us2 : List Int32) (cz z : Int32) (h0 : Heap) (n0 : Nat) (v : Option Value) (h : Heap) (L : List Loc) : Prop := v = some (.int z) ∧ Fr n0 L ∧ h = h0
set_option maxRecDepth 65536 in
set_option maxHeartbeats 40000000 in
theorem rmSE (l : Launch) (Z : State) (a0 : Array Value) (hw : ∀ d ∈ tables_1, d.before a0 Z = true) (ws : List Jvm.Cond) (x : Addr) (y : Addr) (t1 t2 : Addr) (k1 k2 : ClassId) (us us2 : List Int32) (cz z : Int32) (h0 : Heap) (n0 : Nat) (O0 : Old Z n0 h0) (Exa_x : Exa Z h0 x "java/lang/String") (F_value_x : Fld Z h0 x "java/lang/String" "value" "[B" (.ref t1)) (F_coder_x : Fld Z h0 x "java/lang/String" "coder" "B" (.int 0)) (A_t1 : Arv Z h0 t1 k1 .byte (Int32.ofNat us.length) (us.map Value.int) (.int 0)) (hb_us : us.length < 2 ^ 31) (Exa_y : Exa Z h0 y "java/lang/String") (F_value_y : Fld Z h0 y "java/lang/String" "value" "[B" (.ref t2)) (F_coder_y : Fld Z h0 y "java/lang/String" "coder" "B" (.int 0)) (A_t2 : Arv Z h0 t2 k2 .byte (Int32.ofNat us2.length) (us2.map Value.int) (.int 0)) (hb_us2 : us2.length < 2 ^ 31) (S_COMPACT : Sta Z Z.heap "java/lang/String" "COMPACT_STRINGS" "Z" (.int cz)) (hcz : ¬ cz = 0) (hz : z = if us = us2 then 1 else 0) :
    MetFree l (⟨"java/lang/String", "equals", "(Ljava/lang/Object;)Z"⟩ : MethodName) (head1 (Jvm.Cond.code (⟨"java/lang/String", "equals", "(Ljava/lang/Object;)Z"⟩ : MethodName) jdk_42_method_66_code 3 (some .boolean) :: ws) ({ frames := 1, cells := 0, slots := 0, locals := 14 } : Room)) (fun a U => a = #[(.ref x), (.ref y)] ∧ Z.Warmed39 U.vm ∧ U.heap = h0) (fun _ _ _ _ _ => True) (fun _ U o U' => ∃ v L, o = .returned v ∧ Q_rmSE Z x y t1 t2 k1 k2 us us2 cz z h0 n0 v U'.heap L ∧ FrameEnd U o U' L ({ frames := 1, cells := 0, slots := 0, locals := 14 } : Room).cells ({ frames := 1, cells := 0, slots := 0, locals := 14 } : Room).slots) := by
  refine MetFree.of_bodySF (plainFor_of_name pn_rmSE) hisR ?_
  intro p e s m args below meth c s₁ Bd hml0 hP hK
  obtain ⟨rfl, hZ, hh⟩ := hP
  have hx := Bd.exec
  have hby := Bd.bytes
  have hml : c.maxLocals = 3 := hml0
  have hown : s.vm.findClass "java/lang/String" = some m.cls := findClass_of_methodNamed Bd.named
  have hnm := (name_of_methodNamed Bd.named Bd.method).1
  have X0 : Stand p l e ({ frames := 1, cells := 0, slots := 0, locals := 14 } : Room) s m #[(.ref x), (.ref y)] below meth c s₁ [] 0 0 := Stand.of_body Bd
  have e0 : s₁.heap = h0 := by rw [← hh, Bd.state]; rfl
  have N0 := Fr.nil n0
  refine Gl.start (Q := Q_rmSE Z x y t1 t2 k1 k2 us us2 cz z h0 n0) (ef_rmSE m x y) ?_
  show Gl p e below s _ _ _ s₁ (mkF m 0 #[.val (.ref x), .val (.ref y), .unset] [])
  refine Gl.st (fun _ kk => XS.aloadN X0.here hx rfl (hb hby d38_0) rfl rfl kk) ?_
  show Gl p e below s _ _ _ s₁ (mkF m 1 #[.val (.ref x), .val (.ref y), .unset] [(.ref x)])
  refine Gl.st (fun _ kk => XS.aloadN X0.here hx rfl (hb hby d38_1) rfl rfl kk) ?_
  show Gl p e below s _ _ _ s₁ (mkF m 2 #[.val (.ref x), .val (.ref y), .unset] [(.ref y), (.ref x)])
  by_cases ha2 : x = y
  · skip
    refine Gl.st (fun _ kk => Jvm.RoadKit.acmp (g := (mkF m 2 #[.val (.ref x), .val (.ref y), .unset] [(.ref y), (.ref x)])) X0 hx rfl rfl rfl (pc0 := 2) (pc' := 5) (same := true) rfl (hb hby d38_2) rfl (decide_eq_true (congrArg Value.ref ha2)) (by decide) (by decide) kk) ?_
    show Gl p e below s _ _ _ s₁ (mkF m 5 #[.val (.ref x), .val (.ref y), .unset] [])
    refine Gl.st (fun _ kk => XS.iconst X0.here hx rfl (hb hby d38_5) kk) ?_
    show Gl p e below s _ _ _ s₁ (mkF m 6 #[.val (.ref x), .val (.ref y), .unset] [(.int (1 : Int32))])
    have ht : t1 = t2 := by
      by_cases q : t1 = t2
      · exact q
      · exact absurd ha2 (F_value_x.ne F_value_y (fun r => q (Value.ref.inj r)))
    have hall : us = us2 := own_arv_same hb_us hb_us2 A_t1 (ht ▸ A_t2)
    have hzz : z = 1 := by rw [hz, if_pos hall]
    exact Gl.ret X0 (v := (some (.int (1 : Int32)))) (fun h => by rw [Bd.returns] at h; cases h) (BodyLoose.notSynchronized Bd) (fun hr => retN X0 hx (t := .boolean) Bd.returns (by simp) (hb hby d38_6) hr) e0 ⟨by rw [hzz], N0, rfl⟩ (by decide) (by decide)
  · skip
    refine Gl.st (fun _ kk => Jvm.RoadKit.acmp (g := (mkF m 2 #[.val (.ref x), .val (.ref y), .unset] [(.ref y), (.ref x)])) X0 hx rfl rfl rfl (pc0 := 2) (pc' := 7) (same := false) rfl (hb hby d38_2) rfl (decide_eq_false fun q => ha2 (Value.ref.inj q)) (by decide) (by decide) kk) ?_
    show Gl p e below s _ _ _ s₁ (mkF m 7 #[.val (.ref x), .val (.ref y), .unset] [])
    refine Gl.st (fun _ kk => XS.aloadN X0.here hx rfl (hb hby d38_7) rfl rfl kk) ?_
    show Gl p e below s _ _ _ s₁ (mkF m 8 #[.val (.ref x), .val (.ref y), .unset] [(.ref y)])
    obtain ⟨T1, X1, e1, st1⟩ := instY X0 hx hZ hown (hw _ (List.mem_of_getElem? (i := 9) rfl)) e0 (Ins.self Exa_y) (g := (mkF m 8 #[.val (.ref x), .val (.ref y), .unset] [(.ref y)])) rfl rfl (hb hby d38_8)
    refine Gl.st st1 ?_
    show Gl p e below s _ _ _ T1 (mkF m 11 #[.val (.ref x), .val (.ref y), .unset] [(.int (1 : Int32))])
    refine Gl.st (fun _ kk => XS.ifNo X1.here hx rfl (hb hby d38_11) rfl ((if0 _ _).trans (feq (by decide : ¬ ((1 : Int32) = (0 : Int32)))).1) kk) ?_
    show Gl p e below s _ _ _ T1 (mkF m 14 #[.val (.ref x), .val (.ref y), .unset] [])
    refine Gl.st (fun _ kk => XS.aloadN X1.here hx rfl (hb hby d38_14) rfl rfl kk) ?_
    show Gl p e below s _ _ _ T1 (mkF m 15 #[.val (.ref x), .val (.ref y), .unset] [(.ref y)])
    obtain ⟨T2, X2, e2, st2⟩ := castY X1 hx hZ hown (hw _ (List.mem_of_getElem? (i := 9) rfl)) e1 (Ins.self Exa_y) (g := (mkF m 15 #[.val (.ref x), .val (.ref y), .unset] [(.ref y)])) rfl rfl (hb hby d38_15)
    refine Gl.st st2 ?_
    show Gl p e below s _ _ _ T2 (mkF m 18 #[.val (.ref x), .val (.ref y), .unset] [(.ref y)])
    refine Gl.st (fun _ kk => XS.astoreN X2.here hx rfl (hb hby d38_18) rfl rfl (l' := #[.val (.ref x), .val (.ref y), .val (.ref y)]) rfl kk) ?_
    show Gl p e below s _ _ _ T2 (mkF m 19 #[.val (.ref x), .val (.ref y), .val (.ref y)] [])
    obtain ⟨T3, X3, e3, st3⟩ := getS2 X2 hx hZ hown (host := "") (Or.inl (hw _ (List.mem_of_getElem? (i := 4) rfl))) Via.refl e2 (S_COMPACT.ext O0.2) (g := (mkF m 19 #[.val (.ref x), .val (.ref y), .val (.ref y)] [])) rfl (hb hby d38_19)
    refine Gl.st st3 ?_
    show Gl p e below s _ _ _ T3 (mkF m 22 #[.val (.ref x), .val (.ref y), .val (.ref y)] [(.int cz)])
    refine Gl.st (fun _ kk => XS.ifNo X3.here hx rfl (hb hby d38_22) rfl ((if0 _ _).trans (feq hcz).1) kk) ?_
    show Gl p e below s _ _ _ T3 (mkF m 25 #[.val (.ref x), .val (.ref y), .val (.ref y)] [])
    refine Gl.st (fun _ kk => XS.aloadN X3.here hx rfl (hb hby d38_25) rfl rfl kk) ?_
    show Gl p e below s _ _ _ T3 (mkF m 26 #[.val (.ref x), .val (.ref y), .val (.ref y)] [(.ref x)])
    obtain ⟨T4, X4, e4, st4⟩ := getF X3 hx hZ hown (host := "") (Or.inl (hw _ (List.mem_of_getElem? (i := 24) rfl))) Via.refl e3 F_coder_x (g := (mkF m 26 #[.val (.ref x), .val (.ref y), .val (.ref y)] [(.ref x)])) rfl rfl (hb hby d38_26)
    refine Gl.st st4 ?_
    show Gl p e below s _ _ _ T4 (mkF m 29 #[.val (.ref x), .val (.ref y), .val (.ref y)] [(.int (0 : Int32))])
    refine Gl.st (fun _ kk => XS.aloadN X4.here hx rfl (hb hby d38_29) rfl rfl kk) ?_
    show Gl p e below s _ _ _ T4 (mkF m 30 #[.val (.ref x), .val (.ref y), .val (.ref y)] [(.ref y), (.int (0 : Int32))])
    obtain ⟨T5, X5, e5, st5⟩ := getF X4 hx hZ hown (host := "") (Or.inl (hw _ (List.mem_of_getElem? (i := 24) rfl))) Via.refl e4 F_coder_y (g := (mkF m 30 #[.val (.ref x), .val (.ref y), .val (.ref y)] [(.ref y), (.int (0 : Int32))])) rfl rfl (hb hby d38_30)
    refine Gl.st st5 ?_
    show Gl p e below s _ _ _ T5 (mkF m 33 #[.val (.ref x), .val (.ref y), .val (.ref y)] [(.int (0 : Int32)), (.int (0 : Int32))])
    refine Gl.st (fun _ kk => XS.icmpNo X5.here hx rfl (hb hby d38_33) rfl (teq (by decide : (0 : Int32) = (0 : Int32))).2 kk) ?_
    show Gl p e below s _ _ _ T5 (mkF m 36 #[.val (.ref x), .val (.ref y), .val (.ref y)] [])
    refine Gl.st (fun _ kk => XS.aloadN X5.here hx rfl (hb hby d38_36) rfl rfl kk) ?_
    show Gl p e below s _ _ _ T5 (mkF m 37 #[.val (.ref x), .val (.ref y), .val (.ref y)] [(.ref x)])
    obtain ⟨T6, X6, e6, st6⟩ := getF X5 hx hZ hown (host := "") (Or.inl (hw _ (List.mem_of_getElem? (i := 22) rfl))) Via.refl e5 F_value_x (g := (mkF m 37 #[.val (.ref x), .val (.ref y), .val (.ref y)] [(.ref x)])) rfl rfl (hb hby d38_37)
    refine Gl.st st6 ?_
    show Gl p e below s _ _ _ T6 (mkF m 40 #[.val (.ref x), .val (.ref y), .val (.ref y)] [(.ref t1)])
    refine Gl.st (fun _ kk => XS.aloadN X6.here hx rfl (hb hby d38_40) rfl rfl kk) ?_
    show Gl p e below s _ _ _ T6 (mkF m 41 #[.val (.ref x), .val (.ref y), .val (.ref y)] [(.ref y), (.ref t1)])
    obtain ⟨T7, X7, e7, st7⟩ := getF X6 hx hZ hown (host := "") (Or.inl (hw _ (List.mem_of_getElem? (i := 22) rfl))) Via.refl e6 F_value_y (g := (mkF m 41 #[.val (.ref x), .val (.ref y), .val (.ref y)] [(.ref y), (.ref t1)])) rfl rfl (hb hby d38_41)
    refine Gl.st st7 ?_
    show Gl p e below s _ _ _ T7 (mkF m 44 #[.val (.ref x), .val (.ref y), .val (.ref y)] [(.ref t2), (.ref t1)])
    obtain ⟨v8, _, ⟨T8, L8, kQ8, nQ8⟩, -, X8, ⟨Lc8, hQ8, l8, y8, z8⟩, st8⟩ := Jvm.LawKit.callS X7 hx (y := (⟨"java/lang/StringLatin1", "equals", "([B[B)Z"⟩ : MethodName)) hown (mvT hZ (hw _ (List.mem_of_getElem? (i := 199) rfl))) (mvT hZ (hw _ (List.mem_of_getElem? (i := 200) rfl))) (mvT hZ (hw _ (List.mem_of_getElem? (i := 7) rfl))) (mvT hZ (hw _ (List.mem_of_getElem? (i := 201) rfl))) (by decide) (backOf (W := 0) (rmLE l Z a0 hw [] t1 t2 k1 k2 us us2 (if us = us2 then 1 else 0) h0 n0 O0 A_t1 A_t2 hb_us hb_us2 rfl) hZ (hw _ (List.mem_of_getElem? (i := 201) rfl)) (hw _ (List.mem_of_getElem? (i := 7) rfl)) (by decide) (by decide)) (g := (mkF m 44 #[.val (.ref x), .val (.ref y), .val (.ref y)] [(.ref t2), (.ref t1)])) rfl (by rw [hml]; rfl) (argsL := [(.ref t1), (.ref t2)]) (rest := []) (lenOf pd_rmSE_0 rfl) rfl (by show 2 * 0 + _ ≤ _; exact Nat.le_of_eq rfl) (hb hby d38_44) (fun _ _ => ⟨rfl, e7, (by decide : 0 + 0 ≤ _), (by decide : 0 + 0 ≤ _)⟩)
    dsimp only [Pt.U, Pt.locs, Pt.cells, Pt.slots] at X8 l8 y8 z8 st8 hQ8
    subst y8 z8
    obtain ⟨rfl, Nq8, e8⟩ := hQ8
    have N8 : Fr n0 L8 := l8 ▸ Fr.app N0 Nq8
    refine Gl.st st8 ?_
    clear st8
    clear X7 e7
    show Gl p e below s _ _ _ T8 (mkF m 47 #[.val (.ref x), .val (.ref y), .val (.ref y)] [(.int (if us = us2 then (1 : Int32) else 0))])
    by_cases hc47 : (if us = us2 then (1 : Int32) else 0) = (0 : Int32)
    · skip
      refine Gl.st (fun _ kk => XS.ifYes X8.here hx rfl (pc0 := 47) (pc' := 54) rfl (hb hby d38_47) rfl ((if0 _ _).trans (teq hc47).1) (by decide) (by decide) kk) ?_
      show Gl p e below s _ _ _ T8 (mkF m 54 #[.val (.ref x), .val (.ref y), .val (.ref y)] [])
      refine Gl.st (fun _ kk => XS.iconst X8.here hx rfl (hb hby d38_54) kk) ?_
      show Gl p e below s _ _ _ T8 (mkF m 55 #[.val (.ref x), .val (.ref y), .val (.ref y)] [(.int (0 : Int32))])
      have hzz : z = 0 := by rw [hz]; exact hc47
      exact Gl.ret X8 (v := (some (.int (0 : Int32)))) (fun h => by rw [Bd.returns] at h; cases h) (BodyLoose.notSynchronized Bd) (fun hr => retN X8 hx (t := .boolean) Bd.returns (by simp) (hb hby d38_55) hr) e8 ⟨by rw [hzz], N8, rfl⟩ (by decide) (by decide)
    · skip
      refine Gl.st (fun _ kk => XS.ifNo X8.here hx rfl (hb hby d38_47) rfl ((if0 _ _).trans (feq hc47).1) kk) ?_
      show Gl p e below s _ _ _ T8 (mkF m 50 #[.val (.ref x), .val (.ref y), .val (.ref y)] [])
      refine Gl.st (fun _ kk => XS.iconst X8.here hx rfl (hb hby d38_50) kk) ?_
      show Gl p e below s _ _ _ T8 (mkF m 51 #[.val (.ref x), .val (.ref y), .val (.ref y)] [(.int (1 : Int32))])
      refine Gl.st (fun _ kk => XS.goto X8.here hx rfl (pc0 := 51) (pc' := 55) rfl (hb hby d38_51) (by decide) (by decide) kk) ?_
      show Gl p e below s _ _ _ T8 (mkF m 55 #[.val (.ref x), .val (.ref y), .val (.ref y)] [(.int (1 : Int32))])
      have hzz : z = 1 := by rw [hz]; exact if_pos (by by_cases q : us = us2; exact q; rw [if_neg q] at hc47; exact absurd rfl hc47)
      exact Gl.ret X8 (v := (some (.int (1 : Int32)))) (fun h => by rw [Bd.returns] at h; cases h) (BodyLoose.notSynchronized Bd) (fun hr => retN X8 hx (t := .boolean) Bd.returns (by simp) (hb hby d38_55) hr) e8 ⟨by rw [hzz], N8, rfl⟩ (by decide) (by decide)
theorem pd_rm0_0 : parseMethodDescriptor "(C)Ljava/lang/String;" = some ⟨[.char], some (.object "java/lang/String")⟩ := by decide +kernel
theorem pd_rm0_1 : parseMethodDescriptor "(Ljava/lang/String;Ljava/lang/String;)V" = some ⟨[(.object "java/lang/String"), (.object "java/lang/String")], none⟩ := by decide +kernel
theorem pd_rm0_2 : parseMethodDescriptor "(Ljava/lang/String;)Ljava/lang/String;" = some ⟨[(.object "java/lang/String")], some (.object "java/lang/String")⟩ := by decide +kernel
theorem pd_rm0_3 : parseMethodDescriptor "()I" = some ⟨[], some .int⟩ := by decide +kernel
theorem pd_rm0_4 : parseMethodDescriptor "([C)V" = some ⟨[(.array .char)], none⟩ := by decide +kernel
theorem pd_rm0_5 : parseMethodDescriptor "(Ljava/lang/Object;)Z" = some ⟨[(.object "java/lang/Object")], some .boolean⟩ := by decide +kernel
theorem pn_rm0 : plainName "com/example/tender/tender/store/PropertyTableDeleteOwnedByPinLaw" = true := by first | (simp [plainName, overriddenIn]; done) | decide +kernel
theorem ef_rm0 (m : MethodId) (p1 : Int32) (p2 : Int32) (p3 : Int32) : entryFrame m #[(.int p1), (.int p2), (.int p3)] maxLocals = mkF m 0 #[.val (.int p1), .val (.int p2), .val (.int p3), .unset, .unset, .unset, .unset, .unset, .unset, .unset, .unset, .unset] [] := by first | (simp [entryFrame, mkF, argsToLocals, Value.category, maxLocals]; done) | rfl
def Q_rm0 (Z : State) (p1 : Int32) (p2 : Int32) (p3 : Int32) (cz : Int32) (h0 : Heap) (n0 : Nat) (v : Option Value) (h : Heap) (L : List Loc) : Prop := v = some (.int 1) ∧ Fr n0 L
set_option maxRecDepth 65536 in
set_option maxHeartbeats 40000000 in
theorem rm0 (l : Launch) (Z : State) (a0 : Array Value) (hw : ∀ d ∈ tables_1, d.before a0 Z = true) (ws : List Jvm.Cond) (p1 : Int32) (p2 : Int32) (p3 : Int32) (cz : Int32) (h0 : Heap) (n0 : Nat) (O0 : Old Z n0 h0) (S_COMPACT : Sta Z Z.heap "java/lang/String" "COMPACT_STRINGS" "Z" (.int cz)) (hcz : ¬ cz = 0) :
    MetFree l x (head1 (Jvm.Cond.code x code maxLocals ret :: ws) room_1) (fun a U => a = #[(.int p1), (.int p2), (.int p3)] ∧ Z.Warmed39 U.vm ∧ U.heap = h0 ∧ CHv Z consts_1 U.vm h0) (fun _ _ _ _ _ => True) (fun _ U o U' => ∃ v L, o = .returned v ∧ Q_rm0 Z p1 p2 p3 cz h0 n0 v U'.heap L ∧ CHr Z consts_1 U.vm U.heap U'.vm U'.heap ∧ ReturnedEndW U o U' L room_1.cells room_1.slots) := by
  refine MetFree.of_bodySF (plainFor_of_name pn_rm0) hisR ?_
  intro p e s m args below meth c s₁ Bd hml0 hP hK
  obtain ⟨rfl, hZ, hh, H0⟩ := hP
  have hx := Bd.exec
  have hby := Bd.bytes
  have hml : c.maxLocals = 12 := hml0
  have hown : s.vm.findClass "com/example/tender/tender/store/PropertyTableDeleteOwnedByPinLaw" = some m.cls := findClass_of_methodNamed Bd.named
  have hnm := (name_of_methodNamed Bd.named Bd.method).1
  have X0 : Stand p l e room_1 (s.setVm s.vm) m #[(.int p1), (.int p2), (.int p3)] below meth c s₁ [] 0 0 := Stand.of_body Bd
  have e0 : s₁.heap = h0 := by rw [← hh, Bd.state]; rfl
  have N0 := Fr.nil n0
  have hS0 : s.Since s.vm 0 := (State.WarmedH.refl s).since 0
  have hk0 : 0 ≤ h0.size := Nat.zero_le _
  have HC0 : CHr Z consts_1 s.vm h0 s.vm h0 := CHr.refl H0
  have hh0 : s.heap = h0 := hh
  refine GlW.start (Q := Q_rm0 Z p1 p2 p3 cz h0 n0) (ef_rm0 m p1 p2 p3) ?_
  have hEL := own_EW hw
  have hwS : ∀ a ∈ Bundle.stringAtoms, a.before a0 Z = true := fun d hd => hw d ((by decide +kernel : ∀ d ∈ Bundle.stringAtoms, d ∈ tables_1) d hd)
  have hws : ∀ d ∈ StrChars.Road.words, d.before a0 Z = true := fun d hd => hw d ((by decide +kernel : ∀ d ∈ StrChars.Road.words, d ∈ tables_1) d hd)
  show GlW Z consts_1 p e below s _ _ _ s₁ (mkF m 0 #[.val (.int p1), .val (.int p2), .val (.int p3), .unset, .unset, .unset, .unset, .unset, .unset, .unset, .unset, .unset] [])
  refine GlW.st (fun _ kk => XS.iloadN X0.here hx rfl (hb hby at_0) rfl kk) ?_
  show GlW Z consts_1 p e below s _ _ _ s₁ (mkF m 1 #[.val (.int p1), .val (.int p2), .val (.int p3), .unset, .unset, .unset, .unset, .unset, .unset, .unset, .unset, .unset] [(.int p1)])
  refine GlW.st (fun _ kk => XS.sipush X0.here hx rfl (hb hby at_1) kk) ?_
  show GlW Z consts_1 p e below s _ _ _ s₁ (mkF m 4 #[.val (.int p1), .val (.int p2), .val (.int p3), .unset, .unset, .unset, .unset, .unset, .unset, .unset, .unset, .unset] [(.int (255 : Int32)), (.int p1)])
  refine GlW.st (fun _ kk => XS.iand X0.here hx rfl (hb hby at_4) rfl kk) ?_
  show GlW Z consts_1 p e below s _ _ _ s₁ (mkF m 5 #[.val (.int p1), .val (.int p2), .val (.int p3), .unset, .unset, .unset, .unset, .unset, .unset, .unset, .unset, .unset] [(.int (p1 &&& (255 : Int32)))])
  refine GlW.st (fun _ kk => XS.i2c X0.here hx rfl (hb hby at_5) rfl kk) ?_
  show GlW Z consts_1 p e below s _ _ _ s₁ (mkF m 6 #[.val (.int p1), .val (.int p2), .val (.int p3), .unset, .unset, .unset, .unset, .unset, .unset, .unset, .unset, .unset] [(.int ((p1 &&& (255 : Int32)).toUInt32.toUInt16.toUInt32.toInt32))])
  rw [own_i2c255]
  show GlW Z consts_1 p e below s _ _ _ s₁ (mkF m 6 #[.val (.int p1), .val (.int p2), .val (.int p3), .unset, .unset, .unset, .unset, .unset, .unset, .unset, .unset, .unset] [(.int (p1 &&& (255 : Int32)))])
  refine GlW.st (fun _ kk => XS.istoreN X0.here hx rfl (hb hby at_6) rfl (l' := #[.val (.int p1), .val (.int p2), .val (.int p3), .val (.int (p1 &&& (255 : Int32))), .unset, .unset, .unset, .unset, .unset, .unset, .unset, .unset]) rfl kk) ?_
  show GlW Z consts_1 p e below s _ _ _ s₁ (mkF m 7 #[.val (.int p1), .val (.int p2), .val (.int p3), .val (.int (p1 &&& (255 : Int32))), .unset, .unset, .unset, .unset, .unset, .unset, .unset, .unset] [])
  refine GlW.st (fun _ kk => XS.iloadN X0.here hx rfl (hb hby at_7) rfl kk) ?_
  show GlW Z consts_1 p e below s _ _ _ s₁ (mkF m 8 #[.val (.int p1), .val (.int p2), .val (.int p3), .val (.int (p1 &&& (255 : Int32))), .unset, .unset, .unset, .unset, .unset, .unset, .unset, .unset] [(.int p2)])
  refine GlW.st (fun _ kk => XS.sipush X0.here hx rfl (hb hby at_8) kk) ?_
  show GlW Z consts_1 p e below s _ _ _ s₁ (mkF m 11 #[.val (.int p1), .val (.int p2), .val (.int p3), .val (.int (p1 &&& (255 : Int32))), .unset, .unset, .unset, .unset, .unset, .unset, .unset, .unset] [(.int (255 : Int32)), (.int p2)])
  refine GlW.st (fun _ kk => XS.iand X0.here hx rfl (hb hby at_11) rfl kk) ?_
  show GlW Z consts_1 p e below s _ _ _ s₁ (mkF m 12 #[.val (.int p1), .val (.int p2), .val (.int p3), .val (.int (p1 &&& (255 : Int32))), .unset, .unset, .unset, .unset, .unset, .unset, .unset, .unset] [(.int (p2 &&& (255 : Int32)))])
  refine GlW.st (fun _ kk => XS.i2c X0.here hx rfl (hb hby at_12) rfl kk) ?_
  show GlW Z consts_1 p e below s _ _ _ s₁ (mkF m 13 #[.val (.int p1), .val (.int p2), .val (.int p3), .val (.int (p1 &&& (255 : Int32))), .unset, .unset, .unset, .unset, .unset, .unset, .unset, .unset] [(.int ((p2 &&& (255 : Int32)).toUInt32.toUInt16.toUInt32.toInt32))])
  rw [own_i2c255]
  show GlW Z consts_1 p e below s _ _ _ s₁ (mkF m 13 #[.val (.int p1), .val (.int p2), .val (.int p3), .val (.int (p1 &&& (255 : Int32))), .unset, .unset, .unset, .unset, .unset, .unset, .unset, .unset] [(.int (p2 &&& (255 : Int32)))])
  refine GlW.st (fun _ kk => XS.istore X0.here hx rfl (hb hby at_13) rfl (l' := #[.val (.int p1), .val (.int p2), .val (.int p3), .val (.int (p1 &&& (255 : Int32))), .val (.int (p2 &&& (255 : Int32))), .unset, .unset, .unset, .unset, .unset, .unset, .unset]) rfl kk) ?_
  show GlW Z consts_1 p e below s _ _ _ s₁ (mkF m 15 #[.val (.int p1), .val (.int p2), .val (.int p3), .val (.int (p1 &&& (255 : Int32))), .val (.int (p2 &&& (255 : Int32))), .unset, .unset, .unset, .unset, .unset, .unset, .unset] [])
  refine GlW.st (fun _ kk => XS.iloadN X0.here hx rfl (hb hby at_15) rfl kk) ?_
  show GlW Z consts_1 p e below s _ _ _ s₁ (mkF m 16 #[.val (.int p1), .val (.int p2), .val (.int p3), .val (.int (p1 &&& (255 : Int32))), .val (.int (p2 &&& (255 : Int32))), .unset, .unset, .unset, .unset, .unset, .unset, .unset] [(.int p3)])
  refine GlW.st (fun _ kk => XS.sipush X0.here hx rfl (hb hby at_16) kk) ?_
  show GlW Z consts_1 p e below s _ _ _ s₁ (mkF m 19 #[.val (.int p1), .val (.int p2), .val (.int p3), .val (.int (p1 &&& (255 : Int32))), .val (.int (p2 &&& (255 : Int32))), .unset, .unset, .unset, .unset, .unset, .unset, .unset] [(.int (255 : Int32)), (.int p3)])
  refine GlW.st (fun _ kk => XS.iand X0.here hx rfl (hb hby at_19) rfl kk) ?_
  show GlW Z consts_1 p e below s _ _ _ s₁ (mkF m 20 #[.val (.int p1), .val (.int p2), .val (.int p3), .val (.int (p1 &&& (255 : Int32))), .val (.int (p2 &&& (255 : Int32))), .unset, .unset, .unset, .unset, .unset, .unset, .unset] [(.int (p3 &&& (255 : Int32)))])
  refine GlW.st (fun _ kk => XS.i2c X0.here hx rfl (hb hby at_20) rfl kk) ?_
  show GlW Z consts_1 p e below s _ _ _ s₁ (mkF m 21 #[.val (.int p1), .val (.int p2), .val (.int p3), .val (.int (p1 &&& (255 : Int32))), .val (.int (p2 &&& (255 : Int32))), .unset, .unset, .unset, .unset, .unset, .unset, .unset] [(.int ((p3 &&& (255 : Int32)).toUInt32.toUInt16.toUInt32.toInt32))])
  rw [own_i2c255]
  show GlW Z consts_1 p e below s _ _ _ s₁ (mkF m 21 #[.val (.int p1), .val (.int p2), .val (.int p3), .val (.int (p1 &&& (255 : Int32))), .val (.int (p2 &&& (255 : Int32))), .unset, .unset, .unset, .unset, .unset, .unset, .unset] [(.int (p3 &&& (255 : Int32)))])
  refine GlW.st (fun _ kk => XS.istore X0.here hx rfl (hb hby at_21) rfl (l' := #[.val (.int p1), .val (.int p2), .val (.int p3), .val (.int (p1 &&& (255 : Int32))), .val (.int (p2 &&& (255 : Int32))), .val (.int (p3 &&& (255 : Int32))), .unset, .unset, .unset, .unset, .unset, .unset]) rfl kk) ?_
  show GlW Z consts_1 p e below s _ _ _ s₁ (mkF m 23 #[.val (.int p1), .val (.int p2), .val (.int p3), .val (.int (p1 &&& (255 : Int32))), .val (.int (p2 &&& (255 : Int32))), .val (.int (p3 &&& (255 : Int32))), .unset, .unset, .unset, .unset, .unset, .unset] [])
  refine GlW.st (fun _ kk => XS.iloadN X0.here hx rfl (hb hby at_23) rfl kk) ?_
  show GlW Z consts_1 p e below s _ _ _ s₁ (mkF m 24 #[.val (.int p1), .val (.int p2), .val (.int p3), .val (.int (p1 &&& (255 : Int32))), .val (.int (p2 &&& (255 : Int32))), .val (.int (p3 &&& (255 : Int32))), .unset, .unset, .unset, .unset, .unset, .unset] [(.int (p1 &&& (255 : Int32)))])
  obtain ⟨v1, _, ⟨T1, L1, kQ1, nQ1⟩, -, X1, ⟨Lc1, hQ1, l1, y1, z1⟩, st1⟩ := Jvm.LawKit.callS X0 hx (y := (⟨"java/lang/String", "valueOf", "(C)Ljava/lang/String;"⟩ : MethodName)) hown (mvT hZ (hw _ (List.mem_of_getElem? (i := 0) rfl))) (mvT hZ (hw _ (List.mem_of_getElem? (i := 1) rfl))) (mvT hZ (hw _ (List.mem_of_getElem? (i := 2) rfl))) (mvT hZ (hw _ (List.mem_of_getElem? (i := 3) rfl))) (by decide) (backOf (W := 0) (rmVO l Z a0 hw [] (p1 &&& (255 : Int32)) cz h0 n0 O0 (own_and255 _).2 S_COMPACT hcz) hZ (hw _ (List.mem_of_getElem? (i := 3) rfl)) (hw _ (List.mem_of_getElem? (i := 2) rfl)) (by decide) (by decide)) (g := (mkF m 24 #[.val (.int p1), .val (.int p2), .val (.int p3), .val (.int (p1 &&& (255 : Int32))), .val (.int (p2 &&& (255 : Int32))), .val (.int (p3 &&& (255 : Int32))), .unset, .unset, .unset, .unset, .unset, .unset] [(.int (p1 &&& (255 : Int32)))])) rfl (by rw [hml]; rfl) (argsL := [(.int (p1 &&& (255 : Int32)))]) (rest := []) (lenOf pd_rm0_0 rfl) rfl (by show 2 * 0 + _ ≤ _; exact Nat.le_of_eq rfl) (hb hby at_24) (fun _ _ => ⟨rfl, e0, (by decide : 0 + 2 ≤ _), (by decide : 0 + 5 ≤ _)⟩)
  dsimp only [Pt.U, Pt.locs, Pt.cells, Pt.slots] at X1 l1 y1 z1 st1 hQ1
  subst y1 z1
  obtain ⟨h1, e1⟩ : ∃ z, T1.heap = z := ⟨_, rfl⟩
  rw [e1] at hQ1
  obtain ⟨x1, t1, k1, rfl, Nq1, Kq1, Exa_x1, F_value_x1, F_coder_x1, Arv_t1, frx1, frt1⟩ := hQ1
  have N1 : Fr n0 L1 := l1 ▸ Fr.app N0 Nq1
  refine GlW.st st1 ?_
  have sfk1 : ∀ x ∈ ([] : List Addr), Safe Z consts_1 s.vm h0 x := all0
  have HC1 := HC0.trans (CHr.keep Kq1 sfk1 HC0.1)
  have hk1 := Nat.le_trans hk0 Kq1.1
  have O1 := O0.keep Kq1 all0
  have K1 := (Keep.refl h0 []).trans Kq1 all0
  have ge_x1 : n0 ≤ x1 := Nat.le_trans (Nat.le_trans (Nat.le_of_eq O0.1.symm) O0.2.1) frx1
  have fr_x1 : h0.size ≤ x1 := frx1
  have ge_t1 : n0 ≤ t1 := Nat.le_trans (Nat.le_trans (Nat.le_of_eq O0.1.symm) O0.2.1) frt1
  have fr_t1 : h0.size ≤ t1 := frt1
  clear st1
  show GlW Z consts_1 p e below s _ _ _ T1 (mkF m 27 #[.val (.int p1), .val (.int p2), .val (.int p3), .val (.int (p1 &&& (255 : Int32))), .val (.int (p2 &&& (255 : Int32))), .val (.int (p3 &&& (255 : Int32))), .unset, .unset, .unset, .unset, .unset, .unset] [(.ref x1)])
  refine GlW.st (fun _ kk => XS.astore X1.here hx rfl (hb hby at_27) rfl rfl (l' := #[.val (.int p1), .val (.int p2), .val (.int p3), .val (.int (p1 &&& (255 : Int32))), .val (.int (p2 &&& (255 : Int32))), .val (.int (p3 &&& (255 : Int32))), .val (.ref x1), .unset, .unset, .unset, .unset, .unset]) rfl kk) ?_
  show GlW Z consts_1 p e below s _ _ _ T1 (mkF m 29 #[.val (.int p1), .val (.int p2), .val (.int p3), .val (.int (p1 &&& (255 : Int32))), .val (.int (p2 &&& (255 : Int32))), .val (.int (p3 &&& (255 : Int32))), .val (.ref x1), .unset, .unset, .unset, .unset, .unset] [])
  refine GlW.st (fun _ kk => XS.iload X1.here hx rfl (hb hby at_29) rfl kk) ?_
  show GlW Z consts_1 p e below s _ _ _ T1 (mkF m 31 #[.val (.int p1), .val (.int p2), .val (.int p3), .val (.int (p1 &&& (255 : Int32))), .val (.int (p2 &&& (255 : Int32))), .val (.int (p3 &&& (255 : Int32))), .val (.ref x1), .unset, .unset, .unset, .unset, .unset] [(.int (p2 &&& (255 : Int32)))])
  have lq2_t1 := Arv_t1.lt
  have lq2_x1 := Exa_x1.lt
  obtain ⟨v2, _, ⟨T2, L2, kQ2, nQ2⟩, -, X2, ⟨Lc2, hQ2, l2, y2, z2⟩, st2⟩ := Jvm.LawKit.callS X1 hx (y := (⟨"java/lang/String", "valueOf", "(C)Ljava/lang/String;"⟩ : MethodName)) hown (mvT hZ (hw _ (List.mem_of_getElem? (i := 0) rfl))) (mvT hZ (hw _ (List.mem_of_getElem? (i := 1) rfl))) (mvT hZ (hw _ (List.mem_of_getElem? (i := 2) rfl))) (mvT hZ (hw _ (List.mem_of_getElem? (i := 3) rfl))) (by decide) (backOf (W := 0) (rmVO l Z a0 hw [] (p2 &&& (255 : Int32)) cz h1 n0 O1 (own_and255 _).2 S_COMPACT hcz) hZ (hw _ (List.mem_of_getElem? (i := 3) rfl)) (hw _ (List.mem_of_getElem? (i := 2) rfl)) (by decide) (by decide)) (g := (mkF m 31 #[.val (.int p1), .val (.int p2), .val (.int p3), .val (.int (p1 &&& (255 : Int32))), .val (.int (p2 &&& (255 : Int32))), .val (.int (p3 &&& (255 : Int32))), .val (.ref x1), .unset, .unset, .unset, .unset, .unset] [(.int (p2 &&& (255 : Int32)))])) rfl (by rw [hml]; rfl) (argsL := [(.int (p2 &&& (255 : Int32)))]) (rest := []) (lenOf pd_rm0_0 rfl) rfl (by show 2 * 0 + _ ≤ _; exact Nat.le_of_eq rfl) (hb hby at_31) (fun _ _ => ⟨rfl, e1, (by decide : 2 + 2 ≤ _), (by decide : 5 + 5 ≤ _)⟩)
  dsimp only [Pt.U, Pt.locs, Pt.cells, Pt.slots] at X2 l2 y2 z2 st2 hQ2
  subst y2 z2
  obtain ⟨h2, e2⟩ : ∃ z, T2.heap = z := ⟨_, rfl⟩
  rw [e2] at hQ2
  obtain ⟨x2, t2, k2, rfl, Nq2, Kq2, Exa_x2, F_value_x2, F_coder_x2, Arv_t2, frx2, frt2⟩ := hQ2
  have N2 : Fr n0 L2 := l2 ▸ Fr.app N1 Nq2
  refine GlW.st st2 ?_
  have sfk2 : ∀ x ∈ ([] : List Addr), Safe Z consts_1 s.vm h1 x := all0
  have HC2 := HC1.trans (CHr.keep Kq2 sfk2 HC1.1)
  have hk2 := Nat.le_trans hk1 Kq2.1
  replace Exa_x1 := Exa_x1.keep Kq2
  replace F_value_x1 := F_value_x1.keep Kq2 nin0
  replace F_coder_x1 := F_coder_x1.keep Kq2 nin0
  replace Arv_t1 := Arv_t1.keep Kq2 nin0
  have O2 := O1.keep Kq2 all0
  have K2 := K1.trans Kq2 all0
  have ne_t1_x2 : t1 ≠ x2 := Nat.ne_of_lt (Nat.lt_of_lt_of_le lq2_t1 frx2)
  have ne_x1_x2 : x1 ≠ x2 := Nat.ne_of_lt (Nat.lt_of_lt_of_le lq2_x1 frx2)
  have ge_x2 : n0 ≤ x2 := Nat.le_trans (Nat.le_trans (Nat.le_of_eq O1.1.symm) O1.2.1) frx2
  have fr_x2 : h0.size ≤ x2 := Nat.le_trans K1.1 frx2
  have ne_t1_t2 : t1 ≠ t2 := Nat.ne_of_lt (Nat.lt_of_lt_of_le lq2_t1 frt2)
  have ne_x1_t2 : x1 ≠ t2 := Nat.ne_of_lt (Nat.lt_of_lt_of_le lq2_x1 frt2)
  have ge_t2 : n0 ≤ t2 := Nat.le_trans (Nat.le_trans (Nat.le_of_eq O1.1.symm) O1.2.1) frt2
  have fr_t2 : h0.size ≤ t2 := Nat.le_trans K1.1 frt2
  clear st2
  clear O1 K1 N1 HC1 hk1 X1 e1
  show GlW Z consts_1 p e below s _ _ _ T2 (mkF m 34 #[.val (.int p1), .val (.int p2), .val (.int p3), .val (.int (p1 &&& (255 : Int32))), .val (.int (p2 &&& (255 : Int32))), .val (.int (p3 &&& (255 : Int32))), .val (.ref x1), .unset, .unset, .unset, .unset, .unset] [(.ref x2)])
  refine GlW.st (fun _ kk => XS.astore X2.here hx rfl (hb hby at_34) rfl rfl (l' := #[.val (.int p1), .val (.int p2), .val (.int p3), .val (.int (p1 &&& (255 : Int32))), .val (.int (p2 &&& (255 : Int32))), .val (.int (p3 &&& (255 : Int32))), .val (.ref x1), .val (.ref x2), .unset, .unset, .unset, .unset]) rfl kk) ?_
  show GlW Z consts_1 p e below s _ _ _ T2 (mkF m 36 #[.val (.int p1), .val (.int p2), .val (.int p3), .val (.int (p1 &&& (255 : Int32))), .val (.int (p2 &&& (255 : Int32))), .val (.int (p3 &&& (255 : Int32))), .val (.ref x1), .val (.ref x2), .unset, .unset, .unset, .unset] [])
  refine GlW.st (fun _ kk => XS.iload X2.here hx rfl (hb hby at_36) rfl kk) ?_
  show GlW Z consts_1 p e below s _ _ _ T2 (mkF m 38 #[.val (.int p1), .val (.int p2), .val (.int p3), .val (.int (p1 &&& (255 : Int32))), .val (.int (p2 &&& (255 : Int32))), .val (.int (p3 &&& (255 : Int32))), .val (.ref x1), .val (.ref x2), .unset, .unset, .unset, .unset] [(.int (p3 &&& (255 : Int32)))])
  have lq3_t1 := Arv_t1.lt
  have lq3_t2 := Arv_t2.lt
  have lq3_x1 := Exa_x1.lt
  have lq3_x2 := Exa_x2.lt
  obtain ⟨v3, _, ⟨T3, L3, kQ3, nQ3⟩, -, X3, ⟨Lc3, hQ3, l3, y3, z3⟩, st3⟩ := Jvm.LawKit.callS X2 hx (y := (⟨"java/lang/String", "valueOf", "(C)Ljava/lang/String;"⟩ : MethodName)) hown (mvT hZ (hw _ (List.mem_of_getElem? (i := 0) rfl))) (mvT hZ (hw _ (List.mem_of_getElem? (i := 1) rfl))) (mvT hZ (hw _ (List.mem_of_getElem? (i := 2) rfl))) (mvT hZ (hw _ (List.mem_of_getElem? (i := 3) rfl))) (by decide) (backOf (W := 0) (rmVO l Z a0 hw [] (p3 &&& (255 : Int32)) cz h2 n0 O2 (own_and255 _).2 S_COMPACT hcz) hZ (hw _ (List.mem_of_getElem? (i := 3) rfl)) (hw _ (List.mem_of_getElem? (i := 2) rfl)) (by decide) (by decide)) (g := (mkF m 38 #[.val (.int p1), .val (.int p2), .val (.int p3), .val (.int (p1 &&& (255 : Int32))), .val (.int (p2 &&& (255 : Int32))), .val (.int (p3 &&& (255 : Int32))), .val (.ref x1), .val (.ref x2), .unset, .unset, .unset, .unset] [(.int (p3 &&& (255 : Int32)))])) rfl (by rw [hml]; rfl) (argsL := [(.int (p3 &&& (255 : Int32)))]) (rest := []) (lenOf pd_rm0_0 rfl) rfl (by show 2 * 0 + _ ≤ _; exact Nat.le_of_eq rfl) (hb hby at_38) (fun _ _ => ⟨rfl, e2, (by decide : 4 + 2 ≤ _), (by decide : 10 + 5 ≤ _)⟩)
  dsimp only [Pt.U, Pt.locs, Pt.cells, Pt.slots] at X3 l3 y3 z3 st3 hQ3
  subst y3 z3
  obtain ⟨h3, e3⟩ : ∃ z, T3.heap = z := ⟨_, rfl⟩
  rw [e3] at hQ3
  obtain ⟨x3, t3, k3, rfl, Nq3, Kq3, Exa_x3, F_value_x3, F_coder_x3, Arv_t3, frx3, frt3⟩ := hQ3
  have N3 : Fr n0 L3 := l3 ▸ Fr.app N2 Nq3
  refine GlW.st st3 ?_
  have sfk3 : ∀ x ∈ ([] : List Addr), Safe Z consts_1 s.vm h2 x := all0
  have HC3 := HC2.trans (CHr.keep Kq3 sfk3 HC2.1)
  have hk3 := Nat.le_trans hk2 Kq3.1
  replace Exa_x1 := Exa_x1.keep Kq3
  replace F_value_x1 := F_value_x1.keep Kq3 nin0
  replace F_coder_x1 := F_coder_x1.keep Kq3 nin0
  replace Arv_t1 := Arv_t1.keep Kq3 nin0
  replace Exa_x2 := Exa_x2.keep Kq3
  replace F_value_x2 := F_value_x2.keep Kq3 nin0
  replace F_coder_x2 := F_coder_x2.keep Kq3 nin0
  replace Arv_t2 := Arv_t2.keep Kq3 nin0
  have O3 := O2.keep Kq3 all0
  have K3 := K2.trans Kq3 all0
  have ne_t1_x3 : t1 ≠ x3 := Nat.ne_of_lt (Nat.lt_of_lt_of_le lq3_t1 frx3)
  have ne_t2_x3 : t2 ≠ x3 := Nat.ne_of_lt (Nat.lt_of_lt_of_le lq3_t2 frx3)
  have ne_x1_x3 : x1 ≠ x3 := Nat.ne_of_lt (Nat.lt_of_lt_of_le lq3_x1 frx3)
  have ne_x2_x3 : x2 ≠ x3 := Nat.ne_of_lt (Nat.lt_of_lt_of_le lq3_x2 frx3)
  have ge_x3 : n0 ≤ x3 := Nat.le_trans (Nat.le_trans (Nat.le_of_eq O2.1.symm) O2.2.1) frx3
  have fr_x3 : h0.size ≤ x3 := Nat.le_trans K2.1 frx3
  have ne_t1_t3 : t1 ≠ t3 := Nat.ne_of_lt (Nat.lt_of_lt_of_le lq3_t1 frt3)
  have ne_t2_t3 : t2 ≠ t3 := Nat.ne_of_lt (Nat.lt_of_lt_of_le lq3_t2 frt3)
  have ne_x1_t3 : x1 ≠ t3 := Nat.ne_of_lt (Nat.lt_of_lt_of_le lq3_x1 frt3)
  have ne_x2_t3 : x2 ≠ t3 := Nat.ne_of_lt (Nat.lt_of_lt_of_le lq3_x2 frt3)
  have ge_t3 : n0 ≤ t3 := Nat.le_trans (Nat.le_trans (Nat.le_of_eq O2.1.symm) O2.2.1) frt3
  have fr_t3 : h0.size ≤ t3 := Nat.le_trans K2.1 frt3
  clear st3
  clear O2 K2 N2 HC2 hk2 X2 e2
  show GlW Z consts_1 p e below s _ _ _ T3 (mkF m 41 #[.val (.int p1), .val (.int p2), .val (.int p3), .val (.int (p1 &&& (255 : Int32))), .val (.int (p2 &&& (255 : Int32))), .val (.int (p3 &&& (255 : Int32))), .val (.ref x1), .val (.ref x2), .unset, .unset, .unset, .unset] [(.ref x3)])
  refine GlW.st (fun _ kk => XS.astore X3.here hx rfl (hb hby at_41) rfl rfl (l' := #[.val (.int p1), .val (.int p2), .val (.int p3), .val (.int (p1 &&& (255 : Int32))), .val (.int (p2 &&& (255 : Int32))), .val (.int (p3 &&& (255 : Int32))), .val (.ref x1), .val (.ref x2), .val (.ref x3), .unset, .unset, .unset]) rfl kk) ?_
  show GlW Z consts_1 p e below s _ _ _ T3 (mkF m 43 #[.val (.int p1), .val (.int p2), .val (.int p3), .val (.int (p1 &&& (255 : Int32))), .val (.int (p2 &&& (255 : Int32))), .val (.int (p3 &&& (255 : Int32))), .val (.ref x1), .val (.ref x2), .val (.ref x3), .unset, .unset, .unset] [])
  refine GlW.st (fun _ kk => XS.bipush X3.here hx rfl (hb hby at_43) kk) ?_
  show GlW Z consts_1 p e below s _ _ _ T3 (mkF m 45 #[.val (.int p1), .val (.int p2), .val (.int p3), .val (.int (p1 &&& (255 : Int32))), .val (.int (p2 &&& (255 : Int32))), .val (.int (p3 &&& (255 : Int32))), .val (.ref x1), .val (.ref x2), .val (.ref x3), .unset, .unset, .unset] [(.int (28 : Int32))])
  obtain ⟨T4, h4, ka4, X4, e4, E4, A4, st4⟩ := newP X3 hx hZ (hw _ (List.mem_of_getElem? (i := 26) rfl)) e3 (g := (mkF m 45 #[.val (.int p1), .val (.int p2), .val (.int p3), .val (.int (p1 &&& (255 : Int32))), .val (.int (p2 &&& (255 : Int32))), .val (.int (p3 &&& (255 : Int32))), .val (.ref x1), .val (.ref x2), .val (.ref x3), .unset, .unset, .unset] [(.int (28 : Int32))])) rfl (hb hby at_45) rfl (by decide) (cap := 28) (by decide) (by decide) (by decide) (by decide)
  obtain ⟨b4, g4⟩ : ∃ z, z = h3.size := ⟨_, rfl⟩
  rw [← g4] at A4 st4
  refine GlW.st st4 ?_
  have ne_t1_b4 : t1 ≠ b4 := Nat.ne_of_lt (Nat.lt_of_lt_of_eq Arv_t1.lt g4.symm)
  have ne_t2_b4 : t2 ≠ b4 := Nat.ne_of_lt (Nat.lt_of_lt_of_eq Arv_t2.lt g4.symm)
  have ne_t3_b4 : t3 ≠ b4 := Nat.ne_of_lt (Nat.lt_of_lt_of_eq Arv_t3.lt g4.symm)
  have ne_x1_b4 : x1 ≠ b4 := Nat.ne_of_lt (Nat.lt_of_lt_of_eq Exa_x1.lt g4.symm)
  have ne_x2_b4 : x2 ≠ b4 := Nat.ne_of_lt (Nat.lt_of_lt_of_eq Exa_x2.lt g4.symm)
  have ne_x3_b4 : x3 ≠ b4 := Nat.ne_of_lt (Nat.lt_of_lt_of_eq Exa_x3.lt g4.symm)
  have ge_b4 : n0 ≤ b4 := Nat.le_trans (Nat.le_trans (Nat.le_of_eq O3.1.symm) O3.2.1) (Nat.le_of_eq g4.symm)
  have fr_b4 : h0.size ≤ b4 := Nat.le_trans K3.1 (Nat.le_of_eq g4.symm)
  have HC4 := HC3.trans (CHr.ext E4 HC3.1)
  have hk4 := Nat.le_trans hk3 E4.1
  replace Exa_x1 := Exa_x1.ext E4
  replace F_value_x1 := F_value_x1.ext E4
  replace F_coder_x1 := F_coder_x1.ext E4
  replace Arv_t1 := Arv_t1.ext E4
  replace Exa_x2 := Exa_x2.ext E4
  replace F_value_x2 := F_value_x2.ext E4
  replace F_coder_x2 := F_coder_x2.ext E4
  replace Arv_t2 := Arv_t2.ext E4
  replace Exa_x3 := Exa_x3.ext E4
  replace F_value_x3 := F_value_x3.ext E4
  replace F_coder_x3 := F_coder_x3.ext E4
  replace Arv_t3 := Arv_t3.ext E4
  have O4 := O3.ext E4
  have K4 := K3.ext E4
  have Arv_b4 : Arv Z h4 b4 ka4 .char (28 : Int32) [(.int (0 : Int32)), (.int (0 : Int32)), (.int (0 : Int32)), (.int (0 : Int32)), (.int (0 : Int32)), (.int (0 : Int32)), (.int (0 : Int32)), (.int (0 : Int32)), (.int (0 : Int32)), (.int (0 : Int32)), (.int (0 : Int32)), (.int (0 : Int32)), (.int (0 : Int32)), (.int (0 : Int32)), (.int (0 : Int32)), (.int (0 : Int32)), (.int (0 : Int32)), (.int (0 : Int32)), (.int (0 : Int32)), (.int (0 : Int32)), (.int (0 : Int32)), (.int (0 : Int32)), (.int (0 : Int32)), (.int (0 : Int32)), (.int (0 : Int32)), (.int (0 : Int32)), (.int (0 : Int32)), (.int (0 : Int32))] (.int (0 : Int32)) := (Arv.new A4 (by decide)).pad (pad_rep [] (.int (0 : Int32)) 28)
  show GlW Z consts_1 p e below s _ _ _ T4 (mkF m 47 #[.val (.int p1), .val (.int p2), .val (.int p3), .val (.int (p1 &&& (255 : Int32))), .val (.int (p2 &&& (255 : Int32))), .val (.int (p3 &&& (255 : Int32))), .val (.ref x1), .val (.ref x2), .val (.ref x3), .unset, .unset, .unset] [(.ref b4)])
  refine GlW.st (fun _ kk => XS.dup X4.here hx rfl (hb hby at_47) rfl rfl kk) ?_
  show GlW Z consts_1 p e below s _ _ _ T4 (mkF m 48 #[.val (.int p1), .val (.int p2), .val (.int p3), .val (.int (p1 &&& (255 : Int32))), .val (.int (p2 &&& (255 : Int32))), .val (.int (p3 &&& (255 : Int32))), .val (.ref x1), .val (.ref x2), .val (.ref x3), .unset, .unset, .unset] [(.ref b4), (.ref b4)])
  refine GlW.st (fun _ kk => XS.iconst X4.here hx rfl (hb hby at_48) kk) ?_
  show GlW Z consts_1 p e below s _ _ _ T4 (mkF m 49 #[.val (.int p1), .val (.int p2), .val (.int p3), .val (.int (p1 &&& (255 : Int32))), .val (.int (p2 &&& (255 : Int32))), .val (.int (p3 &&& (255 : Int32))), .val (.ref x1), .val (.ref x2), .val (.ref x3), .unset, .unset, .unset] [(.int (0 : Int32)), (.ref b4), (.ref b4)])
  refine GlW.st (fun _ kk => XS.bipush X4.here hx rfl (hb hby at_49) kk) ?_
  show GlW Z consts_1 p e below s _ _ _ T4 (mkF m 51 #[.val (.int p1), .val (.int p2), .val (.int p3), .val (.int (p1 &&& (255 : Int32))), .val (.int (p2 &&& (255 : Int32))), .val (.int (p3 &&& (255 : Int32))), .val (.ref x1), .val (.ref x2), .val (.ref x3), .unset, .unset, .unset] [(.int (68 : Int32)), (.int (0 : Int32)), (.ref b4), (.ref b4)])
  obtain ⟨cl5, Ar5, q5, Sz5, Ng5, Ha5, Fi5⟩ := id Arv_b4
  have hin5 : ¬ ((0 : Int32) < 0 ∨ cl5.slots.size ≤ ((0 : Int32)).toNatClampNeg) := inb_of Sz5 ⟨by decide, by decide⟩
  obtain ⟨T5, h5, X5, e5, W5, st5⟩ := stC X4 hx hZ e4 Ar5 (j := (0 : Int32)) hin5 (g := (mkF m 51 #[.val (.int p1), .val (.int p2), .val (.int p3), .val (.int (p1 &&& (255 : Int32))), .val (.int (p2 &&& (255 : Int32))), .val (.int (p3 &&& (255 : Int32))), .val (.ref x1), .val (.ref x2), .val (.ref x3), .unset, .unset, .unset] [(.int (68 : Int32)), (.int (0 : Int32)), (.ref b4), (.ref b4)])) rfl rfl (hb hby at_51)
  refine GlW.st st5 ?_
  replace Arv_b4 : Arv Z h5 b4 ka4 .char (28 : Int32) [(.int (68 : Int32)), (.int (0 : Int32)), (.int (0 : Int32)), (.int (0 : Int32)), (.int (0 : Int32)), (.int (0 : Int32)), (.int (0 : Int32)), (.int (0 : Int32)), (.int (0 : Int32)), (.int (0 : Int32)), (.int (0 : Int32)), (.int (0 : Int32)), (.int (0 : Int32)), (.int (0 : Int32)), (.int (0 : Int32)), (.int (0 : Int32)), (.int (0 : Int32)), (.int (0 : Int32)), (.int (0 : Int32)), (.int (0 : Int32)), (.int (0 : Int32)), (.int (0 : Int32)), (.int (0 : Int32)), (.int (0 : Int32)), (.int (0 : Int32)), (.int (0 : Int32)), (.int (0 : Int32)), (.int (0 : Int32))] (.int (0 : Int32)) := Arv.set Ar5 q5 Sz5 Ng5 Ha5 Fi5 (fits_nar_char _) W5 0 rfl (Nat.le_of_ble_eq_true rfl)
  have sfw5 := (show Safe Z consts_1 s.vm h4 b4 from Safe.arr hZ.alike Ar5 (by decide))
  have HC5 := HC4.trans (CHr.wr W5 sfw5 HC4.1)
  have hk5 := Nat.le_trans hk4 (Nat.le_of_eq W5.size.symm)
  replace Exa_x1 := Exa_x1.wr W5
  replace F_value_x1 := F_value_x1.other W5 (Or.inl ne_x1_b4)
  replace F_coder_x1 := F_coder_x1.other W5 (Or.inl ne_x1_b4)
  replace Arv_t1 := Arv_t1.other W5 ne_t1_b4
  replace Exa_x2 := Exa_x2.wr W5
  replace F_value_x2 := F_value_x2.other W5 (Or.inl ne_x2_b4)
  replace F_coder_x2 := F_coder_x2.other W5 (Or.inl ne_x2_b4)
  replace Arv_t2 := Arv_t2.other W5 ne_t2_b4
  replace Exa_x3 := Exa_x3.wr W5
  replace F_value_x3 := F_value_x3.other W5 (Or.inl ne_x3_b4)
  replace F_coder_x3 := F_coder_x3.other W5 (Or.inl ne_x3_b4)
  replace Arv_t3 := Arv_t3.other W5 ne_t3_b4
  have O5 := O4.wr W5 ge_b4
  have K5 := K4.wr W5 (Or.inr fr_b4)
  have N5 := Fr.snoc X5 N3 ge_b4
  clear st5 W5 hin5 Fi5 Ha5 Ng5 Sz5 q5 Ar5 cl5 sfw5
  clear O4 K4 N3 HC4 hk4 X4 e4
  show GlW Z consts_1 p e below s _ _ _ T5 (mkF m 52 #[.val (.int p1), .val (.int p2), .val (.int p3), .val (.int (p1 &&& (255 : Int32))), .val (.int (p2 &&& (255 : Int32))), .val (.int (p3 &&& (255 : Int32))), .val (.ref x1), .val (.ref x2), .val (.ref x3), .unset, .unset, .unset] [(.ref b4)])
  refine GlW.st (fun _ kk => XS.dup X5.here hx rfl (hb hby at_52) rfl rfl kk) ?_
  show GlW Z consts_1 p e below s _ _ _ T5 (mkF m 53 #[.val (.int p1), .val (.int p2), .val (.int p3), .val (.int (p1 &&& (255 : Int32))), .val (.int (p2 &&& (255 : Int32))), .val (.int (p3 &&& (255 : Int32))), .val (.ref x1), .val (.ref x2), .val (.ref x3), .unset, .unset, .unset] [(.ref b4), (.ref b4)])
  refine GlW.st (fun _ kk => XS.iconst X5.here hx rfl (hb hby at_53) kk) ?_
  show GlW Z consts_1 p e below s _ _ _ T5 (mkF m 54 #[.val (.int p1), .val (.int p2), .val (.int p3), .val (.int (p1 &&& (255 : Int32))), .val (.int (p2 &&& (255 : Int32))), .val (.int (p3 &&& (255 : Int32))), .val (.ref x1), .val (.ref x2), .val (.ref x3), .unset, .unset, .unset] [(.int (1 : Int32)), (.ref b4), (.ref b4)])
  refine GlW.st (fun _ kk => XS.bipush X5.here hx rfl (hb hby at_54) kk) ?_
  show GlW Z consts_1 p e below s _ _ _ T5 (mkF m 56 #[.val (.int p1), .val (.int p2), .val (.int p3), .val (.int (p1 &&& (255 : Int32))), .val (.int (p2 &&& (255 : Int32))), .val (.int (p3 &&& (255 : Int32))), .val (.ref x1), .val (.ref x2), .val (.ref x3), .unset, .unset, .unset] [(.int (69 : Int32)), (.int (1 : Int32)), (.ref b4), (.ref b4)])
  obtain ⟨cl6, Ar6, q6, Sz6, Ng6, Ha6, Fi6⟩ := id Arv_b4
  have hin6 : ¬ ((1 : Int32) < 0 ∨ cl6.slots.size ≤ ((1 : Int32)).toNatClampNeg) := inb_of Sz6 ⟨by decide, by decide⟩
  obtain ⟨T6, h6, X6, e6, W6, st6⟩ := stC X5 hx hZ e5 Ar6 (j := (1 : Int32)) hin6 (g := (mkF m 56 #[.val (.int p1), .val (.int p2), .val (.int p3), .val (.int (p1 &&& (255 : Int32))), .val (.int (p2 &&& (255 : Int32))), .val (.int (p3 &&& (255 : Int32))), .val (.ref x1), .val (.ref x2), .val (.ref x3), .unset, .unset, .unset] [(.int (69 : Int32)), (.int (1 : Int32)), (.ref b4), (.ref b4)])) rfl rfl (hb hby at_56)
  refine GlW.st st6 ?_
  replace Arv_b4 : Arv Z h6 b4 ka4 .char (28 : Int32) [(.int (68 : Int32)), (.int (69 : Int32)), (.int (0 : Int32)), (.int (0 : Int32)), (.int (0 : Int32)), (.int (0 : Int32)), (.int (0 : Int32)), (.int (0 : Int32)), (.int (0 : Int32)), (.int (0 : Int32)), (.int (0 : Int32)), (.int (0 : Int32)), (.int (0 : Int32)), (.int (0 : Int32)), (.int (0 : Int32)), (.int (0 : Int32)), (.int (0 : Int32)), (.int (0 : Int32)), (.int (0 : Int32)), (.int (0 : Int32)), (.int (0 : Int32)), (.int (0 : Int32)), (.int (0 : Int32)), (.int (0 : Int32)), (.int (0 : Int32)), (.int (0 : Int32)), (.int (0 : Int32)), (.int (0 : Int32))] (.int (0 : Int32)) := Arv.set Ar6 q6 Sz6 Ng6 Ha6 Fi6 (fits_nar_char _) W6 1 rfl (Nat.le_of_ble_eq_true rfl)
  have sfw6 := (show Safe Z consts_1 s.vm h5 b4 from Safe.arr hZ.alike Ar6 (by decide))
  have HC6 := HC5.trans (CHr.wr W6 sfw6 HC5.1)
  have hk6 := Nat.le_trans hk5 (Nat.le_of_eq W6.size.symm)
  replace Exa_x1 := Exa_x1.wr W6
  replace F_value_x1 := F_value_x1.other W6 (Or.inl ne_x1_b4)
  replace F_coder_x1 := F_coder_x1.other W6 (Or.inl ne_x1_b4)
  replace Arv_t1 := Arv_t1.other W6 ne_t1_b4
  replace Exa_x2 := Exa_x2.wr W6
  replace F_value_x2 := F_value_x2.other W6 (Or.inl ne_x2_b4)
  replace F_coder_x2 := F_coder_x2.other W6 (Or.inl ne_x2_b4)
  replace Arv_t2 := Arv_t2.other W6 ne_t2_b4
  replace Exa_x3 := Exa_x3.wr W6
  replace F_value_x3 := F_value_x3.other W6 (Or.inl ne_x3_b4)
  replace F_coder_x3 := F_coder_x3.other W6 (Or.inl ne_x3_b4)
  replace Arv_t3 := Arv_t3.other W6 ne_t3_b4
  have O6 := O5.wr W6 ge_b4
  have K6 := K5.wr W6 (Or.inr fr_b4)
  have N6 := Fr.snoc X6 N5 ge_b4
  clear st6 W6 hin6 Fi6 Ha6 Ng6 Sz6 q6 Ar6 cl6 sfw6
  clear O5 K5 N5 HC5 hk5 X5 e5
  show GlW Z consts_1 p e below s _ _ _ T6 (mkF m 57 #[.val (.int p1), .val (.int p2), .val (.int p3), .val (.int (p1 &&& (255 : Int32))), .val (.int (p2 &&& (255 : Int32))), .val (.int (p3 &&& (255 : Int32))), .val (.ref x1), .val (.ref x2), .val (.ref x3), .unset, .unset, .unset] [(.ref b4)])
  refine GlW.st (fun _ kk => XS.dup X6.here hx rfl (hb hby at_57) rfl rfl kk) ?_
  show GlW Z consts_1 p e below s _ _ _ T6 (mkF m 58 #[.val (.int p1), .val (.int p2), .val (.int p3), .val (.int (p1 &&& (255 : Int32))), .val (.int (p2 &&& (255 : Int32))), .val (.int (p3 &&& (255 : Int32))), .val (.ref x1), .val (.ref x2), .val (.ref x3), .unset, .unset, .unset] [(.ref b4), (.ref b4)])
  refine GlW.st (fun _ kk => XS.iconst X6.here hx rfl (hb hby at_58) kk) ?_
  show GlW Z consts_1 p e below s _ _ _ T6 (mkF m 59 #[.val (.int p1), .val (.int p2), .val (.int p3), .val (.int (p1 &&& (255 : Int32))), .val (.int (p2 &&& (255 : Int32))), .val (.int (p3 &&& (255 : Int32))), .val (.ref x1), .val (.ref x2), .val (.ref x3), .unset, .unset, .unset] [(.int (2 : Int32)), (.ref b4), (.ref b4)])
  refine GlW.st (fun _ kk => XS.bipush X6.here hx rfl (hb hby at_59) kk) ?_
  show GlW Z consts_1 p e below s _ _ _ T6 (mkF m 61 #[.val (.int p1), .val (.int p2), .val (.int p3), .val (.int (p1 &&& (255 : Int32))), .val (.int (p2 &&& (255 : Int32))), .val (.int (p3 &&& (255 : Int32))), .val (.ref x1), .val (.ref x2), .val (.ref x3), .unset, .unset, .unset] [(.int (76 : Int32)), (.int (2 : Int32)), (.ref b4), (.ref b4)])
  obtain ⟨cl7, Ar7, q7, Sz7, Ng7, Ha7, Fi7⟩ := id Arv_b4
  have hin7 : ¬ ((2 : Int32) < 0 ∨ cl7.slots.size ≤ ((2 : Int32)).toNatClampNeg) := inb_of Sz7 ⟨by decide, by decide⟩
  obtain ⟨T7, h7, X7, e7, W7, st7⟩ := stC X6 hx hZ e6 Ar7 (j := (2 : Int32)) hin7 (g := (mkF m 61 #[.val (.int p1), .val (.int p2), .val (.int p3), .val (.int (p1 &&& (255 : Int32))), .val (.int (p2 &&& (255 : Int32))), .val (.int (p3 &&& (255 : Int32))), .val (.ref x1), .val (.ref x2), .val (.ref x3), .unset, .unset, .unset] [(.int (76 : Int32)), (.int (2 : Int32)), (.ref b4), (.ref b4)])) rfl rfl (hb hby at_61)
  refine GlW.st st7 ?_
  replace Arv_b4 : Arv Z h7 b4 ka4 .char (28 : Int32) [(.int (68 : Int32)), (.int (69 : Int32)), (.int (76 : Int32)), (.int (0 : Int32)), (.int (0 : Int32)), (.int (0 : Int32)), (.int (0 : Int32)), (.int (0 : Int32)), (.int (0 : Int32)), (.int (0 : Int32)), (.int (0 : Int32)), (.int (0 : Int32)), (.int (0 : Int32)), (.int (0 : Int32)), (.int (0 : Int32)), (.int (0 : Int32)), (.int (0 : Int32)), (.int (0 : Int32)), (.int (0 : Int32)), (.int (0 : Int32)), (.int (0 : Int32)), (.int (0 : Int32)), (.int (0 : Int32)), (.int (0 : Int32)), (.int (0 : Int32)), (.int (0 : Int32)), (.int (0 : Int32)), (.int (0 : Int32))] (.int (0 : Int32)) := Arv.set Ar7 q7 Sz7 Ng7 Ha7 Fi7 (fits_nar_char _) W7 2 rfl (Nat.le_of_ble_eq_true rfl)
  have sfw7 := (show Safe Z consts_1 s.vm h6 b4 from Safe.arr hZ.alike Ar7 (by decide))
  have HC7 := HC6.trans (CHr.wr W7 sfw7 HC6.1)
  have hk7 := Nat.le_trans hk6 (Nat.le_of_eq W7.size.symm)
  replace Exa_x1 := Exa_x1.wr W7
  replace F_value_x1 := F_value_x1.other W7 (Or.inl ne_x1_b4)
  replace F_coder_x1 := F_coder_x1.other W7 (Or.inl ne_x1_b4)
  replace Arv_t1 := Arv_t1.other W7 ne_t1_b4
  replace Exa_x2 := Exa_x2.wr W7
  replace F_value_x2 := F_value_x2.other W7 (Or.inl ne_x2_b4)
  replace F_coder_x2 := F_coder_x2.other W7 (Or.inl ne_x2_b4)
  replace Arv_t2 := Arv_t2.other W7 ne_t2_b4
  replace Exa_x3 := Exa_x3.wr W7
  replace F_value_x3 := F_value_x3.other W7 (Or.inl ne_x3_b4)
  replace F_coder_x3 := F_coder_x3.other W7 (Or.inl ne_x3_b4)
  replace Arv_t3 := Arv_t3.other W7 ne_t3_b4
  have O7 := O6.wr W7 ge_b4
  have K7 := K6.wr W7 (Or.inr fr_b4)
  have N7 := Fr.snoc X7 N6 ge_b4
  clear st7 W7 hin7 Fi7 Ha7 Ng7 Sz7 q7 Ar7 cl7 sfw7
  clear O6 K6 N6 HC6 hk6 X6 e6
  show GlW Z consts_1 p e below s _ _ _ T7 (mkF m 62 #[.val (.int p1), .val (.int p2), .val (.int p3), .val (.int (p1 &&& (255 : Int32))), .val (.int (p2 &&& (255 : Int32))), .val (.int (p3 &&& (255 : Int32))), .val (.ref x1), .val (.ref x2), .val (.ref x3), .unset, .unset, .unset] [(.ref b4)])
  refine GlW.st (fun _ kk => XS.dup X7.here hx rfl (hb hby at_62) rfl rfl kk) ?_
  show GlW Z consts_1 p e below s _ _ _ T7 (mkF m 63 #[.val (.int p1), .val (.int p2), .val (.int p3), .val (.int (p1 &&& (255 : Int32))), .val (.int (p2 &&& (255 : Int32))), .val (.int (p3 &&& (255 : Int32))), .val (.ref x1), .val (.ref x2), .val (.ref x3), .unset, .unset, .unset] [(.ref b4), (.ref b4)])
  refine GlW.st (fun _ kk => XS.iconst X7.here hx rfl (hb hby at_63) kk) ?_
  show GlW Z consts_1 p e below s _ _ _ T7 (mkF m 64 #[.val (.int p1), .val (.int p2), .val (.int p3), .val (.int (p1 &&& (255 : Int32))), .val (.int (p2 &&& (255 : Int32))), .val (.int (p3 &&& (255 : Int32))), .val (.ref x1), .val (.ref x2), .val (.ref x3), .unset, .unset, .unset] [(.int (3 : Int32)), (.ref b4), (.ref b4)])
  refine GlW.st (fun _ kk => XS.bipush X7.here hx rfl (hb hby at_64) kk) ?_
  show GlW Z consts_1 p e below s _ _ _ T7 (mkF m 66 #[.val (.int p1), .val (.int p2), .val (.int p3), .val (.int (p1 &&& (255 : Int32))), .val (.int (p2 &&& (255 : Int32))), .val (.int (p3 &&& (255 : Int32))), .val (.ref x1), .val (.ref x2), .val (.ref x3), .unset, .unset, .unset] [(.int (69 : Int32)), (.int (3 : Int32)), (.ref b4), (.ref b4)])
  obtain ⟨cl8, Ar8, q8, Sz8, Ng8, Ha8, Fi8⟩ := id Arv_b4
  have hin8 : ¬ ((3 : Int32) < 0 ∨ cl8.slots.size ≤ ((3 : Int32)).toNatClampNeg) := inb_of Sz8 ⟨by decide, by decide⟩
  obtain ⟨T8, h8, X8, e8, W8, st8⟩ := stC X7 hx hZ e7 Ar8 (j := (3 : Int32)) hin8 (g := (mkF m 66 #[.val (.int p1), .val (.int p2), .val (.int p3), .val (.int (p1 &&& (255 : Int32))), .val (.int (p2 &&& (255 : Int32))), .val (.int (p3 &&& (255 : Int32))), .val (.ref x1), .val (.ref x2), .val (.ref x3), .unset, .unset, .unset] [(.int (69 : Int32)), (.int (3 : Int32)), (.ref b4), (.ref b4)])) rfl rfl (hb hby at_66)
  refine GlW.st st8 ?_
  replace Arv_b4 : Arv Z h8 b4 ka4 .char (28 : Int32) [(.int (68 : Int32)), (.int (69 : Int32)), (.int (76 : Int32)), (.int (69 : Int32)), (.int (0 : Int32)), (.int (0 : Int32)), (.int (0 : Int32)), (.int (0 : Int32)), (.int (0 : Int32)), (.int (0 : Int32)), (.int (0 : Int32)), (.int (0 : Int32)), (.int (0 : Int32)), (.int (0 : Int32)), (.int (0 : Int32)), (.int (0 : Int32)), (.int (0 : Int32)), (.int (0 : Int32)), (.int (0 : Int32)), (.int (0 : Int32)), (.int (0 : Int32)), (.int (0 : Int32)), (.int (0 : Int32)), (.int (0 : Int32)), (.int (0 : Int32)), (.int (0 : Int32)), (.int (0 : Int32)), (.int (0 : Int32))] (.int (0 : Int32)) := Arv.set Ar8 q8 Sz8 Ng8 Ha8 Fi8 (fits_nar_char _) W8 3 rfl (Nat.le_of_ble_eq_true rfl)
  have sfw8 := (show Safe Z consts_1 s.vm h7 b4 from Safe.arr hZ.alike Ar8 (by decide))
  have HC8 := HC7.trans (CHr.wr W8 sfw8 HC7.1)
  have hk8 := Nat.le_trans hk7 (Nat.le_of_eq W8.size.symm)
  replace Exa_x1 := Exa_x1.wr W8
  replace F_value_x1 := F_value_x1.other W8 (Or.inl ne_x1_b4)
  replace F_coder_x1 := F_coder_x1.other W8 (Or.inl ne_x1_b4)
  replace Arv_t1 := Arv_t1.other W8 ne_t1_b4
  replace Exa_x2 := Exa_x2.wr W8
  replace F_value_x2 := F_value_x2.other W8 (Or.inl ne_x2_b4)
  replace F_coder_x2 := F_coder_x2.other W8 (Or.inl ne_x2_b4)
  replace Arv_t2 := Arv_t2.other W8 ne_t2_b4
  replace Exa_x3 := Exa_x3.wr W8
  replace F_value_x3 := F_value_x3.other W8 (Or.inl ne_x3_b4)
  replace F_coder_x3 := F_coder_x3.other W8 (Or.inl ne_x3_b4)
  replace Arv_t3 := Arv_t3.other W8 ne_t3_b4
  have O8 := O7.wr W8 ge_b4
  have K8 := K7.wr W8 (Or.inr fr_b4)
  have N8 := Fr.snoc X8 N7 ge_b4
  clear st8 W8 hin8 Fi8 Ha8 Ng8 Sz8 q8 Ar8 cl8 sfw8
  clear O7 K7 N7 HC7 hk7 X7 e7
  show GlW Z consts_1 p e below s _ _ _ T8 (mkF m 67 #[.val (.int p1), .val (.int p2), .val (.int p3), .val (.int (p1 &&& (255 : Int32))), .val (.int (p2 &&& (255 : Int32))), .val (.int (p3 &&& (255 : Int32))), .val (.ref x1), .val (.ref x2), .val (.ref x3), .unset, .unset, .unset] [(.ref b4)])
  refine GlW.st (fun _ kk => XS.dup X8.here hx rfl (hb hby at_67) rfl rfl kk) ?_
  show GlW Z consts_1 p e below s _ _ _ T8 (mkF m 68 #[.val (.int p1), .val (.int p2), .val (.int p3), .val (.int (p1 &&& (255 : Int32))), .val (.int (p2 &&& (255 : Int32))), .val (.int (p3 &&& (255 : Int32))), .val (.ref x1), .val (.ref x2), .val (.ref x3), .unset, .unset, .unset] [(.ref b4), (.ref b4)])
  refine GlW.st (fun _ kk => XS.iconst X8.here hx rfl (hb hby at_68) kk) ?_
  show GlW Z consts_1 p e below s _ _ _ T8 (mkF m 69 #[.val (.int p1), .val (.int p2), .val (.int p3), .val (.int (p1 &&& (255 : Int32))), .val (.int (p2 &&& (255 : Int32))), .val (.int (p3 &&& (255 : Int32))), .val (.ref x1), .val (.ref x2), .val (.ref x3), .unset, .unset, .unset] [(.int (4 : Int32)), (.ref b4), (.ref b4)])
  refine GlW.st (fun _ kk => XS.bipush X8.here hx rfl (hb hby at_69) kk) ?_
  show GlW Z consts_1 p e below s _ _ _ T8 (mkF m 71 #[.val (.int p1), .val (.int p2), .val (.int p3), .val (.int (p1 &&& (255 : Int32))), .val (.int (p2 &&& (255 : Int32))), .val (.int (p3 &&& (255 : Int32))), .val (.ref x1), .val (.ref x2), .val (.ref x3), .unset, .unset, .unset] [(.int (84 : Int32)), (.int (4 : Int32)), (.ref b4), (.ref b4)])
  obtain ⟨cl9, Ar9, q9, Sz9, Ng9, Ha9, Fi9⟩ := id Arv_b4
  have hin9 : ¬ ((4 : Int32) < 0 ∨ cl9.slots.size ≤ ((4 : Int32)).toNatClampNeg) := inb_of Sz9 ⟨by decide, by decide⟩
  obtain ⟨T9, h9, X9, e9, W9, st9⟩ := stC X8 hx hZ e8 Ar9 (j := (4 : Int32)) hin9 (g := (mkF m 71 #[.val (.int p1), .val (.int p2), .val (.int p3), .val (.int (p1 &&& (255 : Int32))), .val (.int (p2 &&& (255 : Int32))), .val (.int (p3 &&& (255 : Int32))), .val (.ref x1), .val (.ref x2), .val (.ref x3), .unset, .unset, .unset] [(.int (84 : Int32)), (.int (4 : Int32)), (.ref b4), (.ref b4)])) rfl rfl (hb hby at_71)
  refine GlW.st st9 ?_
  replace Arv_b4 : Arv Z h9 b4 ka4 .char (28 : Int32) [(.int (68 : Int32)), (.int (69 : Int32)), (.int (76 : Int32)), (.int (69 : Int32)), (.int (84 : Int32)), (.int (0 : Int32)), (.int (0 : Int32)), (.int (0 : Int32)), (.int (0 : Int32)), (.int (0 : Int32)), (.int (0 : Int32)), (.int (0 : Int32)), (.int (0 : Int32)), (.int (0 : Int32)), (.int (0 : Int32)), (.int (0 : Int32)), (.int (0 : Int32)), (.int (0 : Int32)), (.int (0 : Int32)), (.int (0 : Int32)), (.int (0 : Int32)), (.int (0 : Int32)), (.int (0 : Int32)), (.int (0 : Int32)), (.int (0 : Int32)), (.int (0 : Int32)), (.int (0 : Int32)), (.int (0 : Int32))] (.int (0 : Int32)) := Arv.set Ar9 q9 Sz9 Ng9 Ha9 Fi9 (fits_nar_char _) W9 4 rfl (Nat.le_of_ble_eq_true rfl)
  have sfw9 := (show Safe Z consts_1 s.vm h8 b4 from Safe.arr hZ.alike Ar9 (by decide))
  have HC9 := HC8.trans (CHr.wr W9 sfw9 HC8.1)
  have hk9 := Nat.le_trans hk8 (Nat.le_of_eq W9.size.symm)
  replace Exa_x1 := Exa_x1.wr W9
  replace F_value_x1 := F_value_x1.other W9 (Or.inl ne_x1_b4)
  replace F_coder_x1 := F_coder_x1.other W9 (Or.inl ne_x1_b4)
  replace Arv_t1 := Arv_t1.other W9 ne_t1_b4
  replace Exa_x2 := Exa_x2.wr W9
  replace F_value_x2 := F_value_x2.other W9 (Or.inl ne_x2_b4)
  replace F_coder_x2 := F_coder_x2.other W9 (Or.inl ne_x2_b4)
  replace Arv_t2 := Arv_t2.other W9 ne_t2_b4
  replace Exa_x3 := Exa_x3.wr W9
  replace F_value_x3 := F_value_x3.other W9 (Or.inl ne_x3_b4)
  replace F_coder_x3 := F_coder_x3.other W9 (Or.inl ne_x3_b4)
  replace Arv_t3 := Arv_t3.other W9 ne_t3_b4
  have O9 := O8.wr W9 ge_b4
  have K9 := K8.wr W9 (Or.inr fr_b4)
  have N9 := Fr.snoc X9 N8 ge_b4
  clear st9 W9 hin9 Fi9 Ha9 Ng9 Sz9 q9 Ar9 cl9 sfw9
  clear O8 K8 N8 HC8 hk8 X8 e8
  show GlW Z consts_1 p e below s _ _ _ T9 (mkF m 72 #[.val (.int p1), .val (.int p2), .val (.int p3), .val (.int (p1 &&& (255 : Int32))), .val (.int (p2 &&& (255 : Int32))), .val (.int (p3 &&& (255 : Int32))), .val (.ref x1), .val (.ref x2), .val (.ref x3), .unset, .unset, .unset] [(.ref b4)])
  refine GlW.st (fun _ kk => XS.dup X9.here hx rfl (hb hby at_72) rfl rfl kk) ?_
  show GlW Z consts_1 p e below s _ _ _ T9 (mkF m 73 #[.val (.int p1), .val (.int p2), .val (.int p3), .val (.int (p1 &&& (255 : Int32))), .val (.int (p2 &&& (255 : Int32))), .val (.int (p3 &&& (255 : Int32))), .val (.ref x1), .val (.ref x2), .val (.ref x3), .unset, .unset, .unset] [(.ref b4), (.ref b4)])
  refine GlW.st (fun _ kk => XS.iconst X9.here hx rfl (hb hby at_73) kk) ?_
  show GlW Z consts_1 p e below s _ _ _ T9 (mkF m 74 #[.val (.int p1), .val (.int p2), .val (.int p3), .val (.int (p1 &&& (255 : Int32))), .val (.int (p2 &&& (255 : Int32))), .val (.int (p3 &&& (255 : Int32))), .val (.ref x1), .val (.ref x2), .val (.ref x3), .unset, .unset, .unset] [(.int (5 : Int32)), (.ref b4), (.ref b4)])
  refine GlW.st (fun _ kk => XS.bipush X9.here hx rfl (hb hby at_74) kk) ?_
  show GlW Z consts_1 p e below s _ _ _ T9 (mkF m 76 #[.val (.int p1), .val (.int p2), .val (.int p3), .val (.int (p1 &&& (255 : Int32))), .val (.int (p2 &&& (255 : Int32))), .val (.int (p3 &&& (255 : Int32))), .val (.ref x1), .val (.ref x2), .val (.ref x3), .unset, .unset, .unset] [(.int (69 : Int32)), (.int (5 : Int32)), (.ref b4), (.ref b4)])
  obtain ⟨cl10, Ar10, q10, Sz10, Ng10, Ha10, Fi10⟩ := id Arv_b4
  have hin10 : ¬ ((5 : Int32) < 0 ∨ cl10.slots.size ≤ ((5 : Int32)).toNatClampNeg) := inb_of Sz10 ⟨by decide, by decide⟩
  obtain ⟨T10, h10, X10, e10, W10, st10⟩ := stC X9 hx hZ e9 Ar10 (j := (5 : Int32)) hin10 (g := (mkF m 76 #[.val (.int p1), .val (.int p2), .val (.int p3), .val (.int (p1 &&& (255 : Int32))), .val (.int (p2 &&& (255 : Int32))), .val (.int (p3 &&& (255 : Int32))), .val (.ref x1), .val (.ref x2), .val (.ref x3), .unset, .unset, .unset] [(.int (69 : Int32)), (.int (5 : Int32)), (.ref b4), (.ref b4)])) rfl rfl (hb hby at_76)
  refine GlW.st st10 ?_
  replace Arv_b4 : Arv Z h10 b4 ka4 .char (28 : Int32) [(.int (68 : Int32)), (.int (69 : Int32)), (.int (76 : Int32)), (.int (69 : Int32)), (.int (84 : Int32)), (.int (69 : Int32)), (.int (0 : Int32)), (.int (0 : Int32)), (.int (0 : Int32)), (.int (0 : Int32)), (.int (0 : Int32)), (.int (0 : Int32)), (.int (0 : Int32)), (.int (0 : Int32)), (.int (0 : Int32)), (.int (0 : Int32)), (.int (0 : Int32)), (.int (0 : Int32)), (.int (0 : Int32)), (.int (0 : Int32)), (.int (0 : Int32)), (.int (0 : Int32)), (.int (0 : Int32)), (.int (0 : Int32)), (.int (0 : Int32)), (.int (0 : Int32)), (.int (0 : Int32)), (.int (0 : Int32))] (.int (0 : Int32)) := Arv.set Ar10 q10 Sz10 Ng10 Ha10 Fi10 (fits_nar_char _) W10 5 rfl (Nat.le_of_ble_eq_true rfl)
  have sfw10 := (show Safe Z consts_1 s.vm h9 b4 from Safe.arr hZ.alike Ar10 (by decide))
  have HC10 := HC9.trans (CHr.wr W10 sfw10 HC9.1)
  have hk10 := Nat.le_trans hk9 (Nat.le_of_eq W10.size.symm)
  replace Exa_x1 := Exa_x1.wr W10
  replace F_value_x1 := F_value_x1.other W10 (Or.inl ne_x1_b4)
  replace F_coder_x1 := F_coder_x1.other W10 (Or.inl ne_x1_b4)
  replace Arv_t1 := Arv_t1.other W10 ne_t1_b4
  replace Exa_x2 := Exa_x2.wr W10
  replace F_value_x2 := F_value_x2.other W10 (Or.inl ne_x2_b4)
  replace F_coder_x2 := F_coder_x2.other W10 (Or.inl ne_x2_b4)
  replace Arv_t2 := Arv_t2.other W10 ne_t2_b4
  replace Exa_x3 := Exa_x3.wr W10
  replace F_value_x3 := F_value_x3.other W10 (Or.inl ne_x3_b4)
  replace F_coder_x3 := F_coder_x3.other W10 (Or.inl ne_x3_b4)
  replace Arv_t3 := Arv_t3.other W10 ne_t3_b4
  have O10 := O9.wr W10 ge_b4
  have K10 := K9.wr W10 (Or.inr fr_b4)
  have N10 := Fr.snoc X10 N9 ge_b4
  clear st10 W10 hin10 Fi10 Ha10 Ng10 Sz10 q10 Ar10 cl10 sfw10
  clear O9 K9 N9 HC9 hk9 X9 e9
  show GlW Z consts_1 p e below s _ _ _ T10 (mkF m 77 #[.val (.int p1), .val (.int p2), .val (.int p3), .val (.int (p1 &&& (255 : Int32))), .val (.int (p2 &&& (255 : Int32))), .val (.int (p3 &&& (255 : Int32))), .val (.ref x1), .val (.ref x2), .val (.ref x3), .unset, .unset, .unset] [(.ref b4)])
  refine GlW.st (fun _ kk => XS.dup X10.here hx rfl (hb hby at_77) rfl rfl kk) ?_
  show GlW Z consts_1 p e below s _ _ _ T10 (mkF m 78 #[.val (.int p1), .val (.int p2), .val (.int p3), .val (.int (p1 &&& (255 : Int32))), .val (.int (p2 &&& (255 : Int32))), .val (.int (p3 &&& (255 : Int32))), .val (.ref x1), .val (.ref x2), .val (.ref x3), .unset, .unset, .unset] [(.ref b4), (.ref b4)])
  refine GlW.st (fun _ kk => XS.bipush X10.here hx rfl (hb hby at_78) kk) ?_
  show GlW Z consts_1 p e below s _ _ _ T10 (mkF m 80 #[.val (.int p1), .val (.int p2), .val (.int p3), .val (.int (p1 &&& (255 : Int32))), .val (.int (p2 &&& (255 : Int32))), .val (.int (p3 &&& (255 : Int32))), .val (.ref x1), .val (.ref x2), .val (.ref x3), .unset, .unset, .unset] [(.int (6 : Int32)), (.ref b4), (.ref b4)])
  refine GlW.st (fun _ kk => XS.bipush X10.here hx rfl (hb hby at_80) kk) ?_
  show GlW Z consts_1 p e below s _ _ _ T10 (mkF m 82 #[.val (.int p1), .val (.int p2), .val (.int p3), .val (.int (p1 &&& (255 : Int32))), .val (.int (p2 &&& (255 : Int32))), .val (.int (p3 &&& (255 : Int32))), .val (.ref x1), .val (.ref x2), .val (.ref x3), .unset, .unset, .unset] [(.int (32 : Int32)), (.int (6 : Int32)), (.ref b4), (.ref b4)])
  obtain ⟨cl11, Ar11, q11, Sz11, Ng11, Ha11, Fi11⟩ := id Arv_b4
  have hin11 : ¬ ((6 : Int32) < 0 ∨ cl11.slots.size ≤ ((6 : Int32)).toNatClampNeg) := inb_of Sz11 ⟨by decide, by decide⟩
  obtain ⟨T11, h11, X11, e11, W11, st11⟩ := stC X10 hx hZ e10 Ar11 (j := (6 : Int32)) hin11 (g := (mkF m 82 #[.val (.int p1), .val (.int p2), .val (.int p3), .val (.int (p1 &&& (255 : Int32))), .val (.int (p2 &&& (255 : Int32))), .val (.int (p3 &&& (255 : Int32))), .val (.ref x1), .val (.ref x2), .val (.ref x3), .unset, .unset, .unset] [(.int (32 : Int32)), (.int (6 : Int32)), (.ref b4), (.ref b4)])) rfl rfl (hb hby at_82)
  refine GlW.st st11 ?_
  replace Arv_b4 : Arv Z h11 b4 ka4 .char (28 : Int32) [(.int (68 : Int32)), (.int (69 : Int32)), (.int (76 : Int32)), (.int (69 : Int32)), (.int (84 : Int32)), (.int (69 : Int32)), (.int (32 : Int32)), (.int (0 : Int32)), (.int (0 : Int32)), (.int (0 : Int32)), (.int (0 : Int32)), (.int (0 : Int32)), (.int (0 : Int32)), (.int (0 : Int32)), (.int (0 : Int32)), (.int (0 : Int32)), (.int (0 : Int32)), (.int (0 : Int32)), (.int (0 : Int32)), (.int (0 : Int32)), (.int (0 : Int32)), (.int (0 : Int32)), (.int (0 : Int32)), (.int (0 : Int32)), (.int (0 : Int32)), (.int (0 : Int32)), (.int (0 : Int32)), (.int (0 : Int32))] (.int (0 : Int32)) := Arv.set Ar11 q11 Sz11 Ng11 Ha11 Fi11 (fits_nar_char _) W11 6 rfl (Nat.le_of_ble_eq_true rfl)
  have sfw11 := (show Safe Z consts_1 s.vm h10 b4 from Safe.arr hZ.alike Ar11 (by decide))
  have HC11 := HC10.trans (CHr.wr W11 sfw11 HC10.1)
  have hk11 := Nat.le_trans hk10 (Nat.le_of_eq W11.size.symm)
  replace Exa_x1 := Exa_x1.wr W11
  replace F_value_x1 := F_value_x1.other W11 (Or.inl ne_x1_b4)
  replace F_coder_x1 := F_coder_x1.other W11 (Or.inl ne_x1_b4)
  replace Arv_t1 := Arv_t1.other W11 ne_t1_b4
  replace Exa_x2 := Exa_x2.wr W11
  replace F_value_x2 := F_value_x2.other W11 (Or.inl ne_x2_b4)
  replace F_coder_x2 := F_coder_x2.other W11 (Or.inl ne_x2_b4)
  replace Arv_t2 := Arv_t2.other W11 ne_t2_b4
  replace Exa_x3 := Exa_x3.wr W11
  replace F_value_x3 := F_value_x3.other W11 (Or.inl ne_x3_b4)
  replace F_coder_x3 := F_coder_x3.other W11 (Or.inl ne_x3_b4)
  replace Arv_t3 := Arv_t3.other W11 ne_t3_b4
  have O11 := O10.wr W11 ge_b4
  have K11 := K10.wr W11 (Or.inr fr_b4)
  have N11 := Fr.snoc X11 N10 ge_b4
  clear st11 W11 hin11 Fi11 Ha11 Ng11 Sz11 q11 Ar11 cl11 sfw11
  clear O10 K10 N10 HC10 hk10 X10 e10
  show GlW Z consts_1 p e below s _ _ _ T11 (mkF m 83 #[.val (.int p1), .val (.int p2), .val (.int p3), .val (.int (p1 &&& (255 : Int32))), .val (.int (p2 &&& (255 : Int32))), .val (.int (p3 &&& (255 : Int32))), .val (.ref x1), .val (.ref x2), .val (.ref x3), .unset, .unset, .unset] [(.ref b4)])
  refine GlW.st (fun _ kk => XS.dup X11.here hx rfl (hb hby at_83) rfl rfl kk) ?_
  show GlW Z consts_1 p e below s _ _ _ T11 (mkF m 84 #[.val (.int p1), .val (.int p2), .val (.int p3), .val (.int (p1 &&& (255 : Int32))), .val (.int (p2 &&& (255 : Int32))), .val (.int (p3 &&& (255 : Int32))), .val (.ref x1), .val (.ref x2), .val (.ref x3), .unset, .unset, .unset] [(.ref b4), (.ref b4)])
  refine GlW.st (fun _ kk => XS.bipush X11.here hx rfl (hb hby at_84) kk) ?_
  show GlW Z consts_1 p e below s _ _ _ T11 (mkF m 86 #[.val (.int p1), .val (.int p2), .val (.int p3), .val (.int (p1 &&& (255 : Int32))), .val (.int (p2 &&& (255 : Int32))), .val (.int (p3 &&& (255 : Int32))), .val (.ref x1), .val (.ref x2), .val (.ref x3), .unset, .unset, .unset] [(.int (7 : Int32)), (.ref b4), (.ref b4)])
  refine GlW.st (fun _ kk => XS.bipush X11.here hx rfl (hb hby at_86) kk) ?_
  show GlW Z consts_1 p e below s _ _ _ T11 (mkF m 88 #[.val (.int p1), .val (.int p2), .val (.int p3), .val (.int (p1 &&& (255 : Int32))), .val (.int (p2 &&& (255 : Int32))), .val (.int (p3 &&& (255 : Int32))), .val (.ref x1), .val (.ref x2), .val (.ref x3), .unset, .unset, .unset] [(.int (70 : Int32)), (.int (7 : Int32)), (.ref b4), (.ref b4)])
  obtain ⟨cl12, Ar12, q12, Sz12, Ng12, Ha12, Fi12⟩ := id Arv_b4
  have hin12 : ¬ ((7 : Int32) < 0 ∨ cl12.slots.size ≤ ((7 : Int32)).toNatClampNeg) := inb_of Sz12 ⟨by decide, by decide⟩
  obtain ⟨T12, h12, X12, e12, W12, st12⟩ := stC X11 hx hZ e11 Ar12 (j := (7 : Int32)) hin12 (g := (mkF m 88 #[.val (.int p1), .val (.int p2), .val (.int p3), .val (.int (p1 &&& (255 : Int32))), .val (.int (p2 &&& (255 : Int32))), .val (.int (p3 &&& (255 : Int32))), .val (.ref x1), .val (.ref x2), .val (.ref x3), .unset, .unset, .unset] [(.int (70 : Int32)), (.int (7 : Int32)), (.ref b4), (.ref b4)])) rfl rfl (hb hby at_88)
  refine GlW.st st12 ?_
  replace Arv_b4 : Arv Z h12 b4 ka4 .char (28 : Int32) [(.int (68 : Int32)), (.int (69 : Int32)), (.int (76 : Int32)), (.int (69 : Int32)), (.int (84 : Int32)), (.int (69 : Int32)), (.int (32 : Int32)), (.int (70 : Int32)), (.int (0 : Int32)), (.int (0 : Int32)), (.int (0 : Int32)), (.int (0 : Int32)), (.int (0 : Int32)), (.int (0 : Int32)), (.int (0 : Int32)), (.int (0 : Int32)), (.int (0 : Int32)), (.int (0 : Int32)), (.int (0 : Int32)), (.int (0 : Int32)), (.int (0 : Int32)), (.int (0 : Int32)), (.int (0 : Int32)), (.int (0 : Int32)), (.int (0 : Int32)), (.int (0 : Int32)), (.int (0 : Int32)), (.int (0 : Int32))] (.int (0 : Int32)) := Arv.set Ar12 q12 Sz12 Ng12 Ha12 Fi12 (fits_nar_char _) W12 7 rfl (Nat.le_of_ble_eq_true rfl)
  have sfw12 := (show Safe Z consts_1 s.vm h11 b4 from Safe.arr hZ.alike Ar12 (by decide))
  have HC12 := HC11.trans (CHr.wr W12 sfw12 HC11.1)
  have hk12 := Nat.le_trans hk11 (Nat.le_of_eq W12.size.symm)
  replace Exa_x1 := Exa_x1.wr W12
  replace F_value_x1 := F_value_x1.other W12 (Or.inl ne_x1_b4)
  replace F_coder_x1 := F_coder_x1.other W12 (Or.inl ne_x1_b4)
  replace Arv_t1 := Arv_t1.other W12 ne_t1_b4
  replace Exa_x2 := Exa_x2.wr W12
  replace F_value_x2 := F_value_x2.other W12 (Or.inl ne_x2_b4)
  replace F_coder_x2 := F_coder_x2.other W12 (Or.inl ne_x2_b4)
  replace Arv_t2 := Arv_t2.other W12 ne_t2_b4
  replace Exa_x3 := Exa_x3.wr W12
  replace F_value_x3 := F_value_x3.other W12 (Or.inl ne_x3_b4)
  replace F_coder_x3 := F_coder_x3.other W12 (Or.inl ne_x3_b4)
  replace Arv_t3 := Arv_t3.other W12 ne_t3_b4
  have O12 := O11.wr W12 ge_b4
  have K12 := K11.wr W12 (Or.inr fr_b4)
  have N12 := Fr.snoc X12 N11 ge_b4
  clear st12 W12 hin12 Fi12 Ha12 Ng12 Sz12 q12 Ar12 cl12 sfw12
  clear O11 K11 N11 HC11 hk11 X11 e11
  show GlW Z consts_1 p e below s _ _ _ T12 (mkF m 89 #[.val (.int p1), .val (.int p2), .val (.int p3), .val (.int (p1 &&& (255 : Int32))), .val (.int (p2 &&& (255 : Int32))), .val (.int (p3 &&& (255 : Int32))), .val (.ref x1), .val (.ref x2), .val (.ref x3), .unset, .unset, .unset] [(.ref b4)])
  refine GlW.st (fun _ kk => XS.dup X12.here hx rfl (hb hby at_89) rfl rfl kk) ?_
  show GlW Z consts_1 p e below s _ _ _ T12 (mkF m 90 #[.val (.int p1), .val (.int p2), .val (.int p3), .val (.int (p1 &&& (255 : Int32))), .val (.int (p2 &&& (255 : Int32))), .val (.int (p3 &&& (255 : Int32))), .val (.ref x1), .val (.ref x2), .val (.ref x3), .unset, .unset, .unset] [(.ref b4), (.ref b4)])
  refine GlW.st (fun _ kk => XS.bipush X12.here hx rfl (hb hby at_90) kk) ?_
  show GlW Z consts_1 p e below s _ _ _ T12 (mkF m 92 #[.val (.int p1), .val (.int p2), .val (.int p3), .val (.int (p1 &&& (255 : Int32))), .val (.int (p2 &&& (255 : Int32))), .val (.int (p3 &&& (255 : Int32))), .val (.ref x1), .val (.ref x2), .val (.ref x3), .unset, .unset, .unset] [(.int (8 : Int32)), (.ref b4), (.ref b4)])
  refine GlW.st (fun _ kk => XS.bipush X12.here hx rfl (hb hby at_92) kk) ?_
  show GlW Z consts_1 p e below s _ _ _ T12 (mkF m 94 #[.val (.int p1), .val (.int p2), .val (.int p3), .val (.int (p1 &&& (255 : Int32))), .val (.int (p2 &&& (255 : Int32))), .val (.int (p3 &&& (255 : Int32))), .val (.ref x1), .val (.ref x2), .val (.ref x3), .unset, .unset, .unset] [(.int (82 : Int32)), (.int (8 : Int32)), (.ref b4), (.ref b4)])
  obtain ⟨cl13, Ar13, q13, Sz13, Ng13, Ha13, Fi13⟩ := id Arv_b4
  have hin13 : ¬ ((8 : Int32) < 0 ∨ cl13.slots.size ≤ ((8 : Int32)).toNatClampNeg) := inb_of Sz13 ⟨by decide, by decide⟩
  obtain ⟨T13, h13, X13, e13, W13, st13⟩ := stC X12 hx hZ e12 Ar13 (j := (8 : Int32)) hin13 (g := (mkF m 94 #[.val (.int p1), .val (.int p2), .val (.int p3), .val (.int (p1 &&& (255 : Int32))), .val (.int (p2 &&& (255 : Int32))), .val (.int (p3 &&& (255 : Int32))), .val (.ref x1), .val (.ref x2), .val (.ref x3), .unset, .unset, .unset] [(.int (82 : Int32)), (.int (8 : Int32)), (.ref b4), (.ref b4)])) rfl rfl (hb hby at_94)
  refine GlW.st st13 ?_
  replace Arv_b4 : Arv Z h13 b4 ka4 .char (28 : Int32) [(.int (68 : Int32)), (.int (69 : Int32)), (.int (76 : Int32)), (.int (69 : Int32)), (.int (84 : Int32)), (.int (69 : Int32)), (.int (32 : Int32)), (.int (70 : Int32)), (.int (82 : Int32)), (.int (0 : Int32)), (.int (0 : Int32)), (.int (0 : Int32)), (.int (0 : Int32)), (.int (0 : Int32)), (.int (0 : Int32)), (.int (0 : Int32)), (.int (0 : Int32)), (.int (0 : Int32)), (.int (0 : Int32)), (.int (0 : Int32)), (.int (0 : Int32)), (.int (0 : Int32)), (.int (0 : Int32)), (.int (0 : Int32)), (.int (0 : Int32)), (.int (0 : Int32)), (.int (0 : Int32)), (.int (0 : Int32))] (.int (0 : Int32)) := Arv.set Ar13 q13 Sz13 Ng13 Ha13 Fi13 (fits_nar_char _) W13 8 rfl (Nat.le_of_ble_eq_true rfl)
  have sfw13 := (show Safe Z consts_1 s.vm h12 b4 from Safe.arr hZ.alike Ar13 (by decide))
  have HC13 := HC12.trans (CHr.wr W13 sfw13 HC12.1)
  have hk13 := Nat.le_trans hk12 (Nat.le_of_eq W13.size.symm)
  replace Exa_x1 := Exa_x1.wr W13
  replace F_value_x1 := F_value_x1.other W13 (Or.inl ne_x1_b4)
  replace F_coder_x1 := F_coder_x1.other W13 (Or.inl ne_x1_b4)
  replace Arv_t1 := Arv_t1.other W13 ne_t1_b4
  replace Exa_x2 := Exa_x2.wr W13
  replace F_value_x2 := F_value_x2.other W13 (Or.inl ne_x2_b4)
  replace F_coder_x2 := F_coder_x2.other W13 (Or.inl ne_x2_b4)
  replace Arv_t2 := Arv_t2.other W13 ne_t2_b4
  replace Exa_x3 := Exa_x3.wr W13
  replace F_value_x3 := F_value_x3.other W13 (Or.inl ne_x3_b4)
  replace F_coder_x3 := F_coder_x3.other W13 (Or.inl ne_x3_b4)
  replace Arv_t3 := Arv_t3.other W13 ne_t3_b4
  have O13 := O12.wr W13 ge_b4
  have K13 := K12.wr W13 (Or.inr fr_b4)
  have N13 := Fr.snoc X13 N12 ge_b4
  clear st13 W13 hin13 Fi13 Ha13 Ng13 Sz13 q13 Ar13 cl13 sfw13
  clear O12 K12 N12 HC12 hk12 X12 e12
  show GlW Z consts_1 p e below s _ _ _ T13 (mkF m 95 #[.val (.int p1), .val (.int p2), .val (.int p3), .val (.int (p1 &&& (255 : Int32))), .val (.int (p2 &&& (255 : Int32))), .val (.int (p3 &&& (255 : Int32))), .val (.ref x1), .val (.ref x2), .val (.ref x3), .unset, .unset, .unset] [(.ref b4)])
  refine GlW.st (fun _ kk => XS.dup X13.here hx rfl (hb hby at_95) rfl rfl kk) ?_
  show GlW Z consts_1 p e below s _ _ _ T13 (mkF m 96 #[.val (.int p1), .val (.int p2), .val (.int p3), .val (.int (p1 &&& (255 : Int32))), .val (.int (p2 &&& (255 : Int32))), .val (.int (p3 &&& (255 : Int32))), .val (.ref x1), .val (.ref x2), .val (.ref x3), .unset, .unset, .unset] [(.ref b4), (.ref b4)])
  refine GlW.st (fun _ kk => XS.bipush X13.here hx rfl (hb hby at_96) kk) ?_
  show GlW Z consts_1 p e below s _ _ _ T13 (mkF m 98 #[.val (.int p1), .val (.int p2), .val (.int p3), .val (.int (p1 &&& (255 : Int32))), .val (.int (p2 &&& (255 : Int32))), .val (.int (p3 &&& (255 : Int32))), .val (.ref x1), .val (.ref x2), .val (.ref x3), .unset, .unset, .unset] [(.int (9 : Int32)), (.ref b4), (.ref b4)])
  refine GlW.st (fun _ kk => XS.bipush X13.here hx rfl (hb hby at_98) kk) ?_
  show GlW Z consts_1 p e below s _ _ _ T13 (mkF m 100 #[.val (.int p1), .val (.int p2), .val (.int p3), .val (.int (p1 &&& (255 : Int32))), .val (.int (p2 &&& (255 : Int32))), .val (.int (p3 &&& (255 : Int32))), .val (.ref x1), .val (.ref x2), .val (.ref x3), .unset, .unset, .unset] [(.int (79 : Int32)), (.int (9 : Int32)), (.ref b4), (.ref b4)])
  obtain ⟨cl14, Ar14, q14, Sz14, Ng14, Ha14, Fi14⟩ := id Arv_b4
  have hin14 : ¬ ((9 : Int32) < 0 ∨ cl14.slots.size ≤ ((9 : Int32)).toNatClampNeg) := inb_of Sz14 ⟨by decide, by decide⟩
  obtain ⟨T14, h14, X14, e14, W14, st14⟩ := stC X13 hx hZ e13 Ar14 (j := (9 : Int32)) hin14 (g := (mkF m 100 #[.val (.int p1), .val (.int p2), .val (.int p3), .val (.int (p1 &&& (255 : Int32))), .val (.int (p2 &&& (255 : Int32))), .val (.int (p3 &&& (255 : Int32))), .val (.ref x1), .val (.ref x2), .val (.ref x3), .unset, .unset, .unset] [(.int (79 : Int32)), (.int (9 : Int32)), (.ref b4), (.ref b4)])) rfl rfl (hb hby at_100)
  refine GlW.st st14 ?_
  replace Arv_b4 : Arv Z h14 b4 ka4 .char (28 : Int32) [(.int (68 : Int32)), (.int (69 : Int32)), (.int (76 : Int32)), (.int (69 : Int32)), (.int (84 : Int32)), (.int (69 : Int32)), (.int (32 : Int32)), (.int (70 : Int32)), (.int (82 : Int32)), (.int (79 : Int32)), (.int (0 : Int32)), (.int (0 : Int32)), (.int (0 : Int32)), (.int (0 : Int32)), (.int (0 : Int32)), (.int (0 : Int32)), (.int (0 : Int32)), (.int (0 : Int32)), (.int (0 : Int32)), (.int (0 : Int32)), (.int (0 : Int32)), (.int (0 : Int32)), (.int (0 : Int32)), (.int (0 : Int32)), (.int (0 : Int32)), (.int (0 : Int32)), (.int (0 : Int32)), (.int (0 : Int32))] (.int (0 : Int32)) := Arv.set Ar14 q14 Sz14 Ng14 Ha14 Fi14 (fits_nar_char _) W14 9 rfl (Nat.le_of_ble_eq_true rfl)
  have sfw14 := (show Safe Z consts_1 s.vm h13 b4 from Safe.arr hZ.alike Ar14 (by decide))
  have HC14 := HC13.trans (CHr.wr W14 sfw14 HC13.1)
  have hk14 := Nat.le_trans hk13 (Nat.le_of_eq W14.size.symm)
  replace Exa_x1 := Exa_x1.wr W14
  replace F_value_x1 := F_value_x1.other W14 (Or.inl ne_x1_b4)
  replace F_coder_x1 := F_coder_x1.other W14 (Or.inl ne_x1_b4)
  replace Arv_t1 := Arv_t1.other W14 ne_t1_b4
  replace Exa_x2 := Exa_x2.wr W14
  replace F_value_x2 := F_value_x2.other W14 (Or.inl ne_x2_b4)
  replace F_coder_x2 := F_coder_x2.other W14 (Or.inl ne_x2_b4)
  replace Arv_t2 := Arv_t2.other W14 ne_t2_b4
  replace Exa_x3 := Exa_x3.wr W14
  replace F_value_x3 := F_value_x3.other W14 (Or.inl ne_x3_b4)
  replace F_coder_x3 := F_coder_x3.other W14 (Or.inl ne_x3_b4)
  replace Arv_t3 := Arv_t3.other W14 ne_t3_b4
  have O14 := O13.wr W14 ge_b4
  have K14 := K13.wr W14 (Or.inr fr_b4)
  have N14 := Fr.snoc X14 N13 ge_b4
  clear st14 W14 hin14 Fi14 Ha14 Ng14 Sz14 q14 Ar14 cl14 sfw14
  clear O13 K13 N13 HC13 hk13 X13 e13
  show GlW Z consts_1 p e below s _ _ _ T14 (mkF m 101 #[.val (.int p1), .val (.int p2), .val (.int p3), .val (.int (p1 &&& (255 : Int32))), .val (.int (p2 &&& (255 : Int32))), .val (.int (p3 &&& (255 : Int32))), .val (.ref x1), .val (.ref x2), .val (.ref x3), .unset, .unset, .unset] [(.ref b4)])
  refine GlW.st (fun _ kk => XS.dup X14.here hx rfl (hb hby at_101) rfl rfl kk) ?_
  show GlW Z consts_1 p e below s _ _ _ T14 (mkF m 102 #[.val (.int p1), .val (.int p2), .val (.int p3), .val (.int (p1 &&& (255 : Int32))), .val (.int (p2 &&& (255 : Int32))), .val (.int (p3 &&& (255 : Int32))), .val (.ref x1), .val (.ref x2), .val (.ref x3), .unset, .unset, .unset] [(.ref b4), (.ref b4)])
  refine GlW.st (fun _ kk => XS.bipush X14.here hx rfl (hb hby at_102) kk) ?_
  show GlW Z consts_1 p e below s _ _ _ T14 (mkF m 104 #[.val (.int p1), .val (.int p2), .val (.int p3), .val (.int (p1 &&& (255 : Int32))), .val (.int (p2 &&& (255 : Int32))), .val (.int (p3 &&& (255 : Int32))), .val (.ref x1), .val (.ref x2), .val (.ref x3), .unset, .unset, .unset] [(.int (10 : Int32)), (.ref b4), (.ref b4)])
  refine GlW.st (fun _ kk => XS.bipush X14.here hx rfl (hb hby at_104) kk) ?_
  show GlW Z consts_1 p e below s _ _ _ T14 (mkF m 106 #[.val (.int p1), .val (.int p2), .val (.int p3), .val (.int (p1 &&& (255 : Int32))), .val (.int (p2 &&& (255 : Int32))), .val (.int (p3 &&& (255 : Int32))), .val (.ref x1), .val (.ref x2), .val (.ref x3), .unset, .unset, .unset] [(.int (77 : Int32)), (.int (10 : Int32)), (.ref b4), (.ref b4)])
  obtain ⟨cl15, Ar15, q15, Sz15, Ng15, Ha15, Fi15⟩ := id Arv_b4
  have hin15 : ¬ ((10 : Int32) < 0 ∨ cl15.slots.size ≤ ((10 : Int32)).toNatClampNeg) := inb_of Sz15 ⟨by decide, by decide⟩
  obtain ⟨T15, h15, X15, e15, W15, st15⟩ := stC X14 hx hZ e14 Ar15 (j := (10 : Int32)) hin15 (g := (mkF m 106 #[.val (.int p1), .val (.int p2), .val (.int p3), .val (.int (p1 &&& (255 : Int32))), .val (.int (p2 &&& (255 : Int32))), .val (.int (p3 &&& (255 : Int32))), .val (.ref x1), .val (.ref x2), .val (.ref x3), .unset, .unset, .unset] [(.int (77 : Int32)), (.int (10 : Int32)), (.ref b4), (.ref b4)])) rfl rfl (hb hby at_106)
  refine GlW.st st15 ?_
  replace Arv_b4 : Arv Z h15 b4 ka4 .char (28 : Int32) [(.int (68 : Int32)), (.int (69 : Int32)), (.int (76 : Int32)), (.int (69 : Int32)), (.int (84 : Int32)), (.int (69 : Int32)), (.int (32 : Int32)), (.int (70 : Int32)), (.int (82 : Int32)), (.int (79 : Int32)), (.int (77 : Int32)), (.int (0 : Int32)), (.int (0 : Int32)), (.int (0 : Int32)), (.int (0 : Int32)), (.int (0 : Int32)), (.int (0 : Int32)), (.int (0 : Int32)), (.int (0 : Int32)), (.int (0 : Int32)), (.int (0 : Int32)), (.int (0 : Int32)), (.int (0 : Int32)), (.int (0 : Int32)), (.int (0 : Int32)), (.int (0 : Int32)), (.int (0 : Int32)), (.int (0 : Int32))] (.int (0 : Int32)) := Arv.set Ar15 q15 Sz15 Ng15 Ha15 Fi15 (fits_nar_char _) W15 10 rfl (Nat.le_of_ble_eq_true rfl)
  have sfw15 := (show Safe Z consts_1 s.vm h14 b4 from Safe.arr hZ.alike Ar15 (by decide))
  have HC15 := HC14.trans (CHr.wr W15 sfw15 HC14.1)
  have hk15 := Nat.le_trans hk14 (Nat.le_of_eq W15.size.symm)
  replace Exa_x1 := Exa_x1.wr W15
  replace F_value_x1 := F_value_x1.other W15 (Or.inl ne_x1_b4)
  replace F_coder_x1 := F_coder_x1.other W15 (Or.inl ne_x1_b4)
  replace Arv_t1 := Arv_t1.other W15 ne_t1_b4
  replace Exa_x2 := Exa_x2.wr W15
  replace F_value_x2 := F_value_x2.other W15 (Or.inl ne_x2_b4)
  replace F_coder_x2 := F_coder_x2.other W15 (Or.inl ne_x2_b4)
  replace Arv_t2 := Arv_t2.other W15 ne_t2_b4
  replace Exa_x3 := Exa_x3.wr W15
  replace F_value_x3 := F_value_x3.other W15 (Or.inl ne_x3_b4)
  replace F_coder_x3 := F_coder_x3.other W15 (Or.inl ne_x3_b4)
  replace Arv_t3 := Arv_t3.other W15 ne_t3_b4
  have O15 := O14.wr W15 ge_b4
  have K15 := K14.wr W15 (Or.inr fr_b4)
  have N15 := Fr.snoc X15 N14 ge_b4
  clear st15 W15 hin15 Fi15 Ha15 Ng15 Sz15 q15 Ar15 cl15 sfw15
  clear O14 K14 N14 HC14 hk14 X14 e14
  show GlW Z consts_1 p e below s _ _ _ T15 (mkF m 107 #[.val (.int p1), .val (.int p2), .val (.int p3), .val (.int (p1 &&& (255 : Int32))), .val (.int (p2 &&& (255 : Int32))), .val (.int (p3 &&& (255 : Int32))), .val (.ref x1), .val (.ref x2), .val (.ref x3), .unset, .unset, .unset] [(.ref b4)])
  refine GlW.st (fun _ kk => XS.dup X15.here hx rfl (hb hby at_107) rfl rfl kk) ?_
  show GlW Z consts_1 p e below s _ _ _ T15 (mkF m 108 #[.val (.int p1), .val (.int p2), .val (.int p3), .val (.int (p1 &&& (255 : Int32))), .val (.int (p2 &&& (255 : Int32))), .val (.int (p3 &&& (255 : Int32))), .val (.ref x1), .val (.ref x2), .val (.ref x3), .unset, .unset, .unset] [(.ref b4), (.ref b4)])
  refine GlW.st (fun _ kk => XS.bipush X15.here hx rfl (hb hby at_108) kk) ?_
  show GlW Z consts_1 p e below s _ _ _ T15 (mkF m 110 #[.val (.int p1), .val (.int p2), .val (.int p3), .val (.int (p1 &&& (255 : Int32))), .val (.int (p2 &&& (255 : Int32))), .val (.int (p3 &&& (255 : Int32))), .val (.ref x1), .val (.ref x2), .val (.ref x3), .unset, .unset, .unset] [(.int (11 : Int32)), (.ref b4), (.ref b4)])
  refine GlW.st (fun _ kk => XS.bipush X15.here hx rfl (hb hby at_110) kk) ?_
  show GlW Z consts_1 p e below s _ _ _ T15 (mkF m 112 #[.val (.int p1), .val (.int p2), .val (.int p3), .val (.int (p1 &&& (255 : Int32))), .val (.int (p2 &&& (255 : Int32))), .val (.int (p3 &&& (255 : Int32))), .val (.ref x1), .val (.ref x2), .val (.ref x3), .unset, .unset, .unset] [(.int (32 : Int32)), (.int (11 : Int32)), (.ref b4), (.ref b4)])
  obtain ⟨cl16, Ar16, q16, Sz16, Ng16, Ha16, Fi16⟩ := id Arv_b4
  have hin16 : ¬ ((11 : Int32) < 0 ∨ cl16.slots.size ≤ ((11 : Int32)).toNatClampNeg) := inb_of Sz16 ⟨by decide, by decide⟩
  obtain ⟨T16, h16, X16, e16, W16, st16⟩ := stC X15 hx hZ e15 Ar16 (j := (11 : Int32)) hin16 (g := (mkF m 112 #[.val (.int p1), .val (.int p2), .val (.int p3), .val (.int (p1 &&& (255 : Int32))), .val (.int (p2 &&& (255 : Int32))), .val (.int (p3 &&& (255 : Int32))), .val (.ref x1), .val (.ref x2), .val (.ref x3), .unset, .unset, .unset] [(.int (32 : Int32)), (.int (11 : Int32)), (.ref b4), (.ref b4)])) rfl rfl (hb hby at_112)
  refine GlW.st st16 ?_
  replace Arv_b4 : Arv Z h16 b4 ka4 .char (28 : Int32) [(.int (68 : Int32)), (.int (69 : Int32)), (.int (76 : Int32)), (.int (69 : Int32)), (.int (84 : Int32)), (.int (69 : Int32)), (.int (32 : Int32)), (.int (70 : Int32)), (.int (82 : Int32)), (.int (79 : Int32)), (.int (77 : Int32)), (.int (32 : Int32)), (.int (0 : Int32)), (.int (0 : Int32)), (.int (0 : Int32)), (.int (0 : Int32)), (.int (0 : Int32)), (.int (0 : Int32)), (.int (0 : Int32)), (.int (0 : Int32)), (.int (0 : Int32)), (.int (0 : Int32)), (.int (0 : Int32)), (.int (0 : Int32)), (.int (0 : Int32)), (.int (0 : Int32)), (.int (0 : Int32)), (.int (0 : Int32))] (.int (0 : Int32)) := Arv.set Ar16 q16 Sz16 Ng16 Ha16 Fi16 (fits_nar_char _) W16 11 rfl (Nat.le_of_ble_eq_true rfl)
  have sfw16 := (show Safe Z consts_1 s.vm h15 b4 from Safe.arr hZ.alike Ar16 (by decide))
  have HC16 := HC15.trans (CHr.wr W16 sfw16 HC15.1)
  have hk16 := Nat.le_trans hk15 (Nat.le_of_eq W16.size.symm)
  replace Exa_x1 := Exa_x1.wr W16
  replace F_value_x1 := F_value_x1.other W16 (Or.inl ne_x1_b4)
  replace F_coder_x1 := F_coder_x1.other W16 (Or.inl ne_x1_b4)
  replace Arv_t1 := Arv_t1.other W16 ne_t1_b4
  replace Exa_x2 := Exa_x2.wr W16
  replace F_value_x2 := F_value_x2.other W16 (Or.inl ne_x2_b4)
  replace F_coder_x2 := F_coder_x2.other W16 (Or.inl ne_x2_b4)
  replace Arv_t2 := Arv_t2.other W16 ne_t2_b4
  replace Exa_x3 := Exa_x3.wr W16
  replace F_value_x3 := F_value_x3.other W16 (Or.inl ne_x3_b4)
  replace F_coder_x3 := F_coder_x3.other W16 (Or.inl ne_x3_b4)
  replace Arv_t3 := Arv_t3.other W16 ne_t3_b4
  have O16 := O15.wr W16 ge_b4
  have K16 := K15.wr W16 (Or.inr fr_b4)
  have N16 := Fr.snoc X16 N15 ge_b4
  clear st16 W16 hin16 Fi16 Ha16 Ng16 Sz16 q16 Ar16 cl16 sfw16
  clear O15 K15 N15 HC15 hk15 X15 e15
  show GlW Z consts_1 p e below s _ _ _ T16 (mkF m 113 #[.val (.int p1), .val (.int p2), .val (.int p3), .val (.int (p1 &&& (255 : Int32))), .val (.int (p2 &&& (255 : Int32))), .val (.int (p3 &&& (255 : Int32))), .val (.ref x1), .val (.ref x2), .val (.ref x3), .unset, .unset, .unset] [(.ref b4)])
  refine GlW.st (fun _ kk => XS.dup X16.here hx rfl (hb hby at_113) rfl rfl kk) ?_
  show GlW Z consts_1 p e below s _ _ _ T16 (mkF m 114 #[.val (.int p1), .val (.int p2), .val (.int p3), .val (.int (p1 &&& (255 : Int32))), .val (.int (p2 &&& (255 : Int32))), .val (.int (p3 &&& (255 : Int32))), .val (.ref x1), .val (.ref x2), .val (.ref x3), .unset, .unset, .unset] [(.ref b4), (.ref b4)])
  refine GlW.st (fun _ kk => XS.bipush X16.here hx rfl (hb hby at_114) kk) ?_
  show GlW Z consts_1 p e below s _ _ _ T16 (mkF m 116 #[.val (.int p1), .val (.int p2), .val (.int p3), .val (.int (p1 &&& (255 : Int32))), .val (.int (p2 &&& (255 : Int32))), .val (.int (p3 &&& (255 : Int32))), .val (.ref x1), .val (.ref x2), .val (.ref x3), .unset, .unset, .unset] [(.int (12 : Int32)), (.ref b4), (.ref b4)])
  refine GlW.st (fun _ kk => XS.iloadN X16.here hx rfl (hb hby at_116) rfl kk) ?_
  show GlW Z consts_1 p e below s _ _ _ T16 (mkF m 117 #[.val (.int p1), .val (.int p2), .val (.int p3), .val (.int (p1 &&& (255 : Int32))), .val (.int (p2 &&& (255 : Int32))), .val (.int (p3 &&& (255 : Int32))), .val (.ref x1), .val (.ref x2), .val (.ref x3), .unset, .unset, .unset] [(.int (p1 &&& (255 : Int32))), (.int (12 : Int32)), (.ref b4), (.ref b4)])
  obtain ⟨cl17, Ar17, q17, Sz17, Ng17, Ha17, Fi17⟩ := id Arv_b4
  have hin17 : ¬ ((12 : Int32) < 0 ∨ cl17.slots.size ≤ ((12 : Int32)).toNatClampNeg) := inb_of Sz17 ⟨by decide, by decide⟩
  obtain ⟨T17, h17, X17, e17, W17, st17⟩ := stC X16 hx hZ e16 Ar17 (j := (12 : Int32)) hin17 (g := (mkF m 117 #[.val (.int p1), .val (.int p2), .val (.int p3), .val (.int (p1 &&& (255 : Int32))), .val (.int (p2 &&& (255 : Int32))), .val (.int (p3 &&& (255 : Int32))), .val (.ref x1), .val (.ref x2), .val (.ref x3), .unset, .unset, .unset] [(.int (p1 &&& (255 : Int32))), (.int (12 : Int32)), (.ref b4), (.ref b4)])) rfl rfl (hb hby at_117)
  refine GlW.st st17 ?_
  replace Arv_b4 : Arv Z h17 b4 ka4 .char (28 : Int32) [(.int (68 : Int32)), (.int (69 : Int32)), (.int (76 : Int32)), (.int (69 : Int32)), (.int (84 : Int32)), (.int (69 : Int32)), (.int (32 : Int32)), (.int (70 : Int32)), (.int (82 : Int32)), (.int (79 : Int32)), (.int (77 : Int32)), (.int (32 : Int32)), (.int (nar .char (p1 &&& (255 : Int32)))), (.int (0 : Int32)), (.int (0 : Int32)), (.int (0 : Int32)), (.int (0 : Int32)), (.int (0 : Int32)), (.int (0 : Int32)), (.int (0 : Int32)), (.int (0 : Int32)), (.int (0 : Int32)), (.int (0 : Int32)), (.int (0 : Int32)), (.int (0 : Int32)), (.int (0 : Int32)), (.int (0 : Int32)), (.int (0 : Int32))] (.int (0 : Int32)) := Arv.set Ar17 q17 Sz17 Ng17 Ha17 Fi17 (fits_nar_char _) W17 12 rfl (Nat.le_of_ble_eq_true rfl)
  rw [own_nc255] at Arv_b4
  have sfw17 := (show Safe Z consts_1 s.vm h16 b4 from Safe.arr hZ.alike Ar17 (by decide))
  have HC17 := HC16.trans (CHr.wr W17 sfw17 HC16.1)
  have hk17 := Nat.le_trans hk16 (Nat.le_of_eq W17.size.symm)
  replace Exa_x1 := Exa_x1.wr W17
  replace F_value_x1 := F_value_x1.other W17 (Or.inl ne_x1_b4)
  replace F_coder_x1 := F_coder_x1.other W17 (Or.inl ne_x1_b4)
  replace Arv_t1 := Arv_t1.other W17 ne_t1_b4
  replace Exa_x2 := Exa_x2.wr W17
  replace F_value_x2 := F_value_x2.other W17 (Or.inl ne_x2_b4)
  replace F_coder_x2 := F_coder_x2.other W17 (Or.inl ne_x2_b4)
  replace Arv_t2 := Arv_t2.other W17 ne_t2_b4
  replace Exa_x3 := Exa_x3.wr W17
  replace F_value_x3 := F_value_x3.other W17 (Or.inl ne_x3_b4)
  replace F_coder_x3 := F_coder_x3.other W17 (Or.inl ne_x3_b4)
  replace Arv_t3 := Arv_t3.other W17 ne_t3_b4
  have O17 := O16.wr W17 ge_b4
  have K17 := K16.wr W17 (Or.inr fr_b4)
  have N17 := Fr.snoc X17 N16 ge_b4
  clear st17 W17 hin17 Fi17 Ha17 Ng17 Sz17 q17 Ar17 cl17 sfw17
  clear O16 K16 N16 HC16 hk16 X16 e16
  show GlW Z consts_1 p e below s _ _ _ T17 (mkF m 118 #[.val (.int p1), .val (.int p2), .val (.int p3), .val (.int (p1 &&& (255 : Int32))), .val (.int (p2 &&& (255 : Int32))), .val (.int (p3 &&& (255 : Int32))), .val (.ref x1), .val (.ref x2), .val (.ref x3), .unset, .unset, .unset] [(.ref b4)])
  refine GlW.st (fun _ kk => XS.dup X17.here hx rfl (hb hby at_118) rfl rfl kk) ?_
  show GlW Z consts_1 p e below s _ _ _ T17 (mkF m 119 #[.val (.int p1), .val (.int p2), .val (.int p3), .val (.int (p1 &&& (255 : Int32))), .val (.int (p2 &&& (255 : Int32))), .val (.int (p3 &&& (255 : Int32))), .val (.ref x1), .val (.ref x2), .val (.ref x3), .unset, .unset, .unset] [(.ref b4), (.ref b4)])
  refine GlW.st (fun _ kk => XS.bipush X17.here hx rfl (hb hby at_119) kk) ?_
  show GlW Z consts_1 p e below s _ _ _ T17 (mkF m 121 #[.val (.int p1), .val (.int p2), .val (.int p3), .val (.int (p1 &&& (255 : Int32))), .val (.int (p2 &&& (255 : Int32))), .val (.int (p3 &&& (255 : Int32))), .val (.ref x1), .val (.ref x2), .val (.ref x3), .unset, .unset, .unset] [(.int (13 : Int32)), (.ref b4), (.ref b4)])
  refine GlW.st (fun _ kk => XS.bipush X17.here hx rfl (hb hby at_121) kk) ?_
  show GlW Z consts_1 p e below s _ _ _ T17 (mkF m 123 #[.val (.int p1), .val (.int p2), .val (.int p3), .val (.int (p1 &&& (255 : Int32))), .val (.int (p2 &&& (255 : Int32))), .val (.int (p3 &&& (255 : Int32))), .val (.ref x1), .val (.ref x2), .val (.ref x3), .unset, .unset, .unset] [(.int (32 : Int32)), (.int (13 : Int32)), (.ref b4), (.ref b4)])
  obtain ⟨cl18, Ar18, q18, Sz18, Ng18, Ha18, Fi18⟩ := id Arv_b4
  have hin18 : ¬ ((13 : Int32) < 0 ∨ cl18.slots.size ≤ ((13 : Int32)).toNatClampNeg) := inb_of Sz18 ⟨by decide, by decide⟩
  obtain ⟨T18, h18, X18, e18, W18, st18⟩ := stC X17 hx hZ e17 Ar18 (j := (13 : Int32)) hin18 (g := (mkF m 123 #[.val (.int p1), .val (.int p2), .val (.int p3), .val (.int (p1 &&& (255 : Int32))), .val (.int (p2 &&& (255 : Int32))), .val (.int (p3 &&& (255 : Int32))), .val (.ref x1), .val (.ref x2), .val (.ref x3), .unset, .unset, .unset] [(.int (32 : Int32)), (.int (13 : Int32)), (.ref b4), (.ref b4)])) rfl rfl (hb hby at_123)
  refine GlW.st st18 ?_
  replace Arv_b4 : Arv Z h18 b4 ka4 .char (28 : Int32) [(.int (68 : Int32)), (.int (69 : Int32)), (.int (76 : Int32)), (.int (69 : Int32)), (.int (84 : Int32)), (.int (69 : Int32)), (.int (32 : Int32)), (.int (70 : Int32)), (.int (82 : Int32)), (.int (79 : Int32)), (.int (77 : Int32)), (.int (32 : Int32)), (.int (p1 &&& (255 : Int32))), (.int (32 : Int32)), (.int (0 : Int32)), (.int (0 : Int32)), (.int (0 : Int32)), (.int (0 : Int32)), (.int (0 : Int32)), (.int (0 : Int32)), (.int (0 : Int32)), (.int (0 : Int32)), (.int (0 : Int32)), (.int (0 : Int32)), (.int (0 : Int32)), (.int (0 : Int32)), (.int (0 : Int32)), (.int (0 : Int32))] (.int (0 : Int32)) := Arv.set Ar18 q18 Sz18 Ng18 Ha18 Fi18 (fits_nar_char _) W18 13 rfl (Nat.le_of_ble_eq_true rfl)
  have sfw18 := (show Safe Z consts_1 s.vm h17 b4 from Safe.arr hZ.alike Ar18 (by decide))
  have HC18 := HC17.trans (CHr.wr W18 sfw18 HC17.1)
  have hk18 := Nat.le_trans hk17 (Nat.le_of_eq W18.size.symm)
  replace Exa_x1 := Exa_x1.wr W18
  replace F_value_x1 := F_value_x1.other W18 (Or.inl ne_x1_b4)
  replace F_coder_x1 := F_coder_x1.other W18 (Or.inl ne_x1_b4)
  replace Arv_t1 := Arv_t1.other W18 ne_t1_b4
  replace Exa_x2 := Exa_x2.wr W18
  replace F_value_x2 := F_value_x2.other W18 (Or.inl ne_x2_b4)
  replace F_coder_x2 := F_coder_x2.other W18 (Or.inl ne_x2_b4)
  replace Arv_t2 := Arv_t2.other W18 ne_t2_b4
  replace Exa_x3 := Exa_x3.wr W18
  replace F_value_x3 := F_value_x3.other W18 (Or.inl ne_x3_b4)
  replace F_coder_x3 := F_coder_x3.other W18 (Or.inl ne_x3_b4)
  replace Arv_t3 := Arv_t3.other W18 ne_t3_b4
  have O18 := O17.wr W18 ge_b4
  have K18 := K17.wr W18 (Or.inr fr_b4)
  have N18 := Fr.snoc X18 N17 ge_b4
  clear st18 W18 hin18 Fi18 Ha18 Ng18 Sz18 q18 Ar18 cl18 sfw18
  clear O17 K17 N17 HC17 hk17 X17 e17
  show GlW Z consts_1 p e below s _ _ _ T18 (mkF m 124 #[.val (.int p1), .val (.int p2), .val (.int p3), .val (.int (p1 &&& (255 : Int32))), .val (.int (p2 &&& (255 : Int32))), .val (.int (p3 &&& (255 : Int32))), .val (.ref x1), .val (.ref x2), .val (.ref x3), .unset, .unset, .unset] [(.ref b4)])
  refine GlW.st (fun _ kk => XS.dup X18.here hx rfl (hb hby at_124) rfl rfl kk) ?_
  show GlW Z consts_1 p e below s _ _ _ T18 (mkF m 125 #[.val (.int p1), .val (.int p2), .val (.int p3), .val (.int (p1 &&& (255 : Int32))), .val (.int (p2 &&& (255 : Int32))), .val (.int (p3 &&& (255 : Int32))), .val (.ref x1), .val (.ref x2), .val (.ref x3), .unset, .unset, .unset] [(.ref b4), (.ref b4)])
  refine GlW.st (fun _ kk => XS.bipush X18.here hx rfl (hb hby at_125) kk) ?_
  show GlW Z consts_1 p e below s _ _ _ T18 (mkF m 127 #[.val (.int p1), .val (.int p2), .val (.int p3), .val (.int (p1 &&& (255 : Int32))), .val (.int (p2 &&& (255 : Int32))), .val (.int (p3 &&& (255 : Int32))), .val (.ref x1), .val (.ref x2), .val (.ref x3), .unset, .unset, .unset] [(.int (14 : Int32)), (.ref b4), (.ref b4)])
  refine GlW.st (fun _ kk => XS.bipush X18.here hx rfl (hb hby at_127) kk) ?_
  show GlW Z consts_1 p e below s _ _ _ T18 (mkF m 129 #[.val (.int p1), .val (.int p2), .val (.int p3), .val (.int (p1 &&& (255 : Int32))), .val (.int (p2 &&& (255 : Int32))), .val (.int (p3 &&& (255 : Int32))), .val (.ref x1), .val (.ref x2), .val (.ref x3), .unset, .unset, .unset] [(.int (87 : Int32)), (.int (14 : Int32)), (.ref b4), (.ref b4)])
  obtain ⟨cl19, Ar19, q19, Sz19, Ng19, Ha19, Fi19⟩ := id Arv_b4
  have hin19 : ¬ ((14 : Int32) < 0 ∨ cl19.slots.size ≤ ((14 : Int32)).toNatClampNeg) := inb_of Sz19 ⟨by decide, by decide⟩
  obtain ⟨T19, h19, X19, e19, W19, st19⟩ := stC X18 hx hZ e18 Ar19 (j := (14 : Int32)) hin19 (g := (mkF m 129 #[.val (.int p1), .val (.int p2), .val (.int p3), .val (.int (p1 &&& (255 : Int32))), .val (.int (p2 &&& (255 : Int32))), .val (.int (p3 &&& (255 : Int32))), .val (.ref x1), .val (.ref x2), .val (.ref x3), .unset, .unset, .unset] [(.int (87 : Int32)), (.int (14 : Int32)), (.ref b4), (.ref b4)])) rfl rfl (hb hby at_129)
  refine GlW.st st19 ?_
  replace Arv_b4 : Arv Z h19 b4 ka4 .char (28 : Int32) [(.int (68 : Int32)), (.int (69 : Int32)), (.int (76 : Int32)), (.int (69 : Int32)), (.int (84 : Int32)), (.int (69 : Int32)), (.int (32 : Int32)), (.int (70 : Int32)), (.int (82 : Int32)), (.int (79 : Int32)), (.int (77 : Int32)), (.int (32 : Int32)), (.int (p1 &&& (255 : Int32))), (.int (32 : Int32)), (.int (87 : Int32)), (.int (0 : Int32)), (.int (0 : Int32)), (.int (0 : Int32)), (.int (0 : Int32)), (.int (0 : Int32)), (.int (0 : Int32)), (.int (0 : Int32)), (.int (0 : Int32)), (.int (0 : Int32)), (.int (0 : Int32)), (.int (0 : Int32)), (.int (0 : Int32)), (.int (0 : Int32))] (.int (0 : Int32)) := Arv.set Ar19 q19 Sz19 Ng19 Ha19 Fi19 (fits_nar_char _) W19 14 rfl (Nat.le_of_ble_eq_true rfl)
  have sfw19 := (show Safe Z consts_1 s.vm h18 b4 from Safe.arr hZ.alike Ar19 (by decide))
  have HC19 := HC18.trans (CHr.wr W19 sfw19 HC18.1)
  have hk19 := Nat.le_trans hk18 (Nat.le_of_eq W19.size.symm)
  replace Exa_x1 := Exa_x1.wr W19
  replace F_value_x1 := F_value_x1.other W19 (Or.inl ne_x1_b4)
  replace F_coder_x1 := F_coder_x1.other W19 (Or.inl ne_x1_b4)
  replace Arv_t1 := Arv_t1.other W19 ne_t1_b4
  replace Exa_x2 := Exa_x2.wr W19
  replace F_value_x2 := F_value_x2.other W19 (Or.inl ne_x2_b4)
  replace F_coder_x2 := F_coder_x2.other W19 (Or.inl ne_x2_b4)
  replace Arv_t2 := Arv_t2.other W19 ne_t2_b4
  replace Exa_x3 := Exa_x3.wr W19
  replace F_value_x3 := F_value_x3.other W19 (Or.inl ne_x3_b4)
  replace F_coder_x3 := F_coder_x3.other W19 (Or.inl ne_x3_b4)
  replace Arv_t3 := Arv_t3.other W19 ne_t3_b4
  have O19 := O18.wr W19 ge_b4
  have K19 := K18.wr W19 (Or.inr fr_b4)
  have N19 := Fr.snoc X19 N18 ge_b4
  clear st19 W19 hin19 Fi19 Ha19 Ng19 Sz19 q19 Ar19 cl19 sfw19
  clear O18 K18 N18 HC18 hk18 X18 e18
  show GlW Z consts_1 p e below s _ _ _ T19 (mkF m 130 #[.val (.int p1), .val (.int p2), .val (.int p3), .val (.int (p1 &&& (255 : Int32))), .val (.int (p2 &&& (255 : Int32))), .val (.int (p3 &&& (255 : Int32))), .val (.ref x1), .val (.ref x2), .val (.ref x3), .unset, .unset, .unset] [(.ref b4)])
  refine GlW.st (fun _ kk => XS.dup X19.here hx rfl (hb hby at_130) rfl rfl kk) ?_
  show GlW Z consts_1 p e below s _ _ _ T19 (mkF m 131 #[.val (.int p1), .val (.int p2), .val (.int p3), .val (.int (p1 &&& (255 : Int32))), .val (.int (p2 &&& (255 : Int32))), .val (.int (p3 &&& (255 : Int32))), .val (.ref x1), .val (.ref x2), .val (.ref x3), .unset, .unset, .unset] [(.ref b4), (.ref b4)])
  refine GlW.st (fun _ kk => XS.bipush X19.here hx rfl (hb hby at_131) kk) ?_
  show GlW Z consts_1 p e below s _ _ _ T19 (mkF m 133 #[.val (.int p1), .val (.int p2), .val (.int p3), .val (.int (p1 &&& (255 : Int32))), .val (.int (p2 &&& (255 : Int32))), .val (.int (p3 &&& (255 : Int32))), .val (.ref x1), .val (.ref x2), .val (.ref x3), .unset, .unset, .unset] [(.int (15 : Int32)), (.ref b4), (.ref b4)])
  refine GlW.st (fun _ kk => XS.bipush X19.here hx rfl (hb hby at_133) kk) ?_
  show GlW Z consts_1 p e below s _ _ _ T19 (mkF m 135 #[.val (.int p1), .val (.int p2), .val (.int p3), .val (.int (p1 &&& (255 : Int32))), .val (.int (p2 &&& (255 : Int32))), .val (.int (p3 &&& (255 : Int32))), .val (.ref x1), .val (.ref x2), .val (.ref x3), .unset, .unset, .unset] [(.int (72 : Int32)), (.int (15 : Int32)), (.ref b4), (.ref b4)])
  obtain ⟨cl20, Ar20, q20, Sz20, Ng20, Ha20, Fi20⟩ := id Arv_b4
  have hin20 : ¬ ((15 : Int32) < 0 ∨ cl20.slots.size ≤ ((15 : Int32)).toNatClampNeg) := inb_of Sz20 ⟨by decide, by decide⟩
  obtain ⟨T20, h20, X20, e20, W20, st20⟩ := stC X19 hx hZ e19 Ar20 (j := (15 : Int32)) hin20 (g := (mkF m 135 #[.val (.int p1), .val (.int p2), .val (.int p3), .val (.int (p1 &&& (255 : Int32))), .val (.int (p2 &&& (255 : Int32))), .val (.int (p3 &&& (255 : Int32))), .val (.ref x1), .val (.ref x2), .val (.ref x3), .unset, .unset, .unset] [(.int (72 : Int32)), (.int (15 : Int32)), (.ref b4), (.ref b4)])) rfl rfl (hb hby at_135)
  refine GlW.st st20 ?_
  replace Arv_b4 : Arv Z h20 b4 ka4 .char (28 : Int32) [(.int (68 : Int32)), (.int (69 : Int32)), (.int (76 : Int32)), (.int (69 : Int32)), (.int (84 : Int32)), (.int (69 : Int32)), (.int (32 : Int32)), (.int (70 : Int32)), (.int (82 : Int32)), (.int (79 : Int32)), (.int (77 : Int32)), (.int (32 : Int32)), (.int (p1 &&& (255 : Int32))), (.int (32 : Int32)), (.int (87 : Int32)), (.int (72 : Int32)), (.int (0 : Int32)), (.int (0 : Int32)), (.int (0 : Int32)), (.int (0 : Int32)), (.int (0 : Int32)), (.int (0 : Int32)), (.int (0 : Int32)), (.int (0 : Int32)), (.int (0 : Int32)), (.int (0 : Int32)), (.int (0 : Int32)), (.int (0 : Int32))] (.int (0 : Int32)) := Arv.set Ar20 q20 Sz20 Ng20 Ha20 Fi20 (fits_nar_char _) W20 15 rfl (Nat.le_of_ble_eq_true rfl)
  have sfw20 := (show Safe Z consts_1 s.vm h19 b4 from Safe.arr hZ.alike Ar20 (by decide))
  have HC20 := HC19.trans (CHr.wr W20 sfw20 HC19.1)
  have hk20 := Nat.le_trans hk19 (Nat.le_of_eq W20.size.symm)
  replace Exa_x1 := Exa_x1.wr W20
  replace F_value_x1 := F_value_x1.other W20 (Or.inl ne_x1_b4)
  replace F_coder_x1 := F_coder_x1.other W20 (Or.inl ne_x1_b4)
  replace Arv_t1 := Arv_t1.other W20 ne_t1_b4
  replace Exa_x2 := Exa_x2.wr W20
  replace F_value_x2 := F_value_x2.other W20 (Or.inl ne_x2_b4)
  replace F_coder_x2 := F_coder_x2.other W20 (Or.inl ne_x2_b4)
  replace Arv_t2 := Arv_t2.other W20 ne_t2_b4
  replace Exa_x3 := Exa_x3.wr W20
  replace F_value_x3 := F_value_x3.other W20 (Or.inl ne_x3_b4)
  replace F_coder_x3 := F_coder_x3.other W20 (Or.inl ne_x3_b4)
  replace Arv_t3 := Arv_t3.other W20 ne_t3_b4
  have O20 := O19.wr W20 ge_b4
  have K20 := K19.wr W20 (Or.inr fr_b4)
  have N20 := Fr.snoc X20 N19 ge_b4
  clear st20 W20 hin20 Fi20 Ha20 Ng20 Sz20 q20 Ar20 cl20 sfw20
  clear O19 K19 N19 HC19 hk19 X19 e19
  show GlW Z consts_1 p e below s _ _ _ T20 (mkF m 136 #[.val (.int p1), .val (.int p2), .val (.int p3), .val (.int (p1 &&& (255 : Int32))), .val (.int (p2 &&& (255 : Int32))), .val (.int (p3 &&& (255 : Int32))), .val (.ref x1), .val (.ref x2), .val (.ref x3), .unset, .unset, .unset] [(.ref b4)])
  refine GlW.st (fun _ kk => XS.dup X20.here hx rfl (hb hby at_136) rfl rfl kk) ?_
  show GlW Z consts_1 p e below s _ _ _ T20 (mkF m 137 #[.val (.int p1), .val (.int p2), .val (.int p3), .val (.int (p1 &&& (255 : Int32))), .val (.int (p2 &&& (255 : Int32))), .val (.int (p3 &&& (255 : Int32))), .val (.ref x1), .val (.ref x2), .val (.ref x3), .unset, .unset, .unset] [(.ref b4), (.ref b4)])
  refine GlW.st (fun _ kk => XS.bipush X20.here hx rfl (hb hby at_137) kk) ?_
  show GlW Z consts_1 p e below s _ _ _ T20 (mkF m 139 #[.val (.int p1), .val (.int p2), .val (.int p3), .val (.int (p1 &&& (255 : Int32))), .val (.int (p2 &&& (255 : Int32))), .val (.int (p3 &&& (255 : Int32))), .val (.ref x1), .val (.ref x2), .val (.ref x3), .unset, .unset, .unset] [(.int (16 : Int32)), (.ref b4), (.ref b4)])
  refine GlW.st (fun _ kk => XS.bipush X20.here hx rfl (hb hby at_139) kk) ?_
  show GlW Z consts_1 p e below s _ _ _ T20 (mkF m 141 #[.val (.int p1), .val (.int p2), .val (.int p3), .val (.int (p1 &&& (255 : Int32))), .val (.int (p2 &&& (255 : Int32))), .val (.int (p3 &&& (255 : Int32))), .val (.ref x1), .val (.ref x2), .val (.ref x3), .unset, .unset, .unset] [(.int (69 : Int32)), (.int (16 : Int32)), (.ref b4), (.ref b4)])
  obtain ⟨cl21, Ar21, q21, Sz21, Ng21, Ha21, Fi21⟩ := id Arv_b4
  have hin21 : ¬ ((16 : Int32) < 0 ∨ cl21.slots.size ≤ ((16 : Int32)).toNatClampNeg) := inb_of Sz21 ⟨by decide, by decide⟩
  obtain ⟨T21, h21, X21, e21, W21, st21⟩ := stC X20 hx hZ e20 Ar21 (j := (16 : Int32)) hin21 (g := (mkF m 141 #[.val (.int p1), .val (.int p2), .val (.int p3), .val (.int (p1 &&& (255 : Int32))), .val (.int (p2 &&& (255 : Int32))), .val (.int (p3 &&& (255 : Int32))), .val (.ref x1), .val (.ref x2), .val (.ref x3), .unset, .unset, .unset] [(.int (69 : Int32)), (.int (16 : Int32)), (.ref b4), (.ref b4)])) rfl rfl (hb hby at_141)
  refine GlW.st st21 ?_
  replace Arv_b4 : Arv Z h21 b4 ka4 .char (28 : Int32) [(.int (68 : Int32)), (.int (69 : Int32)), (.int (76 : Int32)), (.int (69 : Int32)), (.int (84 : Int32)), (.int (69 : Int32)), (.int (32 : Int32)), (.int (70 : Int32)), (.int (82 : Int32)), (.int (79 : Int32)), (.int (77 : Int32)), (.int (32 : Int32)), (.int (p1 &&& (255 : Int32))), (.int (32 : Int32)), (.int (87 : Int32)), (.int (72 : Int32)), (.int (69 : Int32)), (.int (0 : Int32)), (.int (0 : Int32)), (.int (0 : Int32)), (.int (0 : Int32)), (.int (0 : Int32)), (.int (0 : Int32)), (.int (0 : Int32)), (.int (0 : Int32)), (.int (0 : Int32)), (.int (0 : Int32)), (.int (0 : Int32))] (.int (0 : Int32)) := Arv.set Ar21 q21 Sz21 Ng21 Ha21 Fi21 (fits_nar_char _) W21 16 rfl (Nat.le_of_ble_eq_true rfl)
  have sfw21 := (show Safe Z consts_1 s.vm h20 b4 from Safe.arr hZ.alike Ar21 (by decide))
  have HC21 := HC20.trans (CHr.wr W21 sfw21 HC20.1)
  have hk21 := Nat.le_trans hk20 (Nat.le_of_eq W21.size.symm)
  replace Exa_x1 := Exa_x1.wr W21
  replace F_value_x1 := F_value_x1.other W21 (Or.inl ne_x1_b4)
  replace F_coder_x1 := F_coder_x1.other W21 (Or.inl ne_x1_b4)
  replace Arv_t1 := Arv_t1.other W21 ne_t1_b4
  replace Exa_x2 := Exa_x2.wr W21
  replace F_value_x2 := F_value_x2.other W21 (Or.inl ne_x2_b4)
  replace F_coder_x2 := F_coder_x2.other W21 (Or.inl ne_x2_b4)
  replace Arv_t2 := Arv_t2.other W21 ne_t2_b4
  replace Exa_x3 := Exa_x3.wr W21
  replace F_value_x3 := F_value_x3.other W21 (Or.inl ne_x3_b4)
  replace F_coder_x3 := F_coder_x3.other W21 (Or.inl ne_x3_b4)
  replace Arv_t3 := Arv_t3.other W21 ne_t3_b4
  have O21 := O20.wr W21 ge_b4
  have K21 := K20.wr W21 (Or.inr fr_b4)
  have N21 := Fr.snoc X21 N20 ge_b4
  clear st21 W21 hin21 Fi21 Ha21 Ng21 Sz21 q21 Ar21 cl21 sfw21
  clear O20 K20 N20 HC20 hk20 X20 e20
  show GlW Z consts_1 p e below s _ _ _ T21 (mkF m 142 #[.val (.int p1), .val (.int p2), .val (.int p3), .val (.int (p1 &&& (255 : Int32))), .val (.int (p2 &&& (255 : Int32))), .val (.int (p3 &&& (255 : Int32))), .val (.ref x1), .val (.ref x2), .val (.ref x3), .unset, .unset, .unset] [(.ref b4)])
  refine GlW.st (fun _ kk => XS.dup X21.here hx rfl (hb hby at_142) rfl rfl kk) ?_
  show GlW Z consts_1 p e below s _ _ _ T21 (mkF m 143 #[.val (.int p1), .val (.int p2), .val (.int p3), .val (.int (p1 &&& (255 : Int32))), .val (.int (p2 &&& (255 : Int32))), .val (.int (p3 &&& (255 : Int32))), .val (.ref x1), .val (.ref x2), .val (.ref x3), .unset, .unset, .unset] [(.ref b4), (.ref b4)])
  refine GlW.st (fun _ kk => XS.bipush X21.here hx rfl (hb hby at_143) kk) ?_
  show GlW Z consts_1 p e below s _ _ _ T21 (mkF m 145 #[.val (.int p1), .val (.int p2), .val (.int p3), .val (.int (p1 &&& (255 : Int32))), .val (.int (p2 &&& (255 : Int32))), .val (.int (p3 &&& (255 : Int32))), .val (.ref x1), .val (.ref x2), .val (.ref x3), .unset, .unset, .unset] [(.int (17 : Int32)), (.ref b4), (.ref b4)])
  refine GlW.st (fun _ kk => XS.bipush X21.here hx rfl (hb hby at_145) kk) ?_
  show GlW Z consts_1 p e below s _ _ _ T21 (mkF m 147 #[.val (.int p1), .val (.int p2), .val (.int p3), .val (.int (p1 &&& (255 : Int32))), .val (.int (p2 &&& (255 : Int32))), .val (.int (p3 &&& (255 : Int32))), .val (.ref x1), .val (.ref x2), .val (.ref x3), .unset, .unset, .unset] [(.int (82 : Int32)), (.int (17 : Int32)), (.ref b4), (.ref b4)])
  obtain ⟨cl22, Ar22, q22, Sz22, Ng22, Ha22, Fi22⟩ := id Arv_b4
  have hin22 : ¬ ((17 : Int32) < 0 ∨ cl22.slots.size ≤ ((17 : Int32)).toNatClampNeg) := inb_of Sz22 ⟨by decide, by decide⟩
  obtain ⟨T22, h22, X22, e22, W22, st22⟩ := stC X21 hx hZ e21 Ar22 (j := (17 : Int32)) hin22 (g := (mkF m 147 #[.val (.int p1), .val (.int p2), .val (.int p3), .val (.int (p1 &&& (255 : Int32))), .val (.int (p2 &&& (255 : Int32))), .val (.int (p3 &&& (255 : Int32))), .val (.ref x1), .val (.ref x2), .val (.ref x3), .unset, .unset, .unset] [(.int (82 : Int32)), (.int (17 : Int32)), (.ref b4), (.ref b4)])) rfl rfl (hb hby at_147)
  refine GlW.st st22 ?_
  replace Arv_b4 : Arv Z h22 b4 ka4 .char (28 : Int32) [(.int (68 : Int32)), (.int (69 : Int32)), (.int (76 : Int32)), (.int (69 : Int32)), (.int (84 : Int32)), (.int (69 : Int32)), (.int (32 : Int32)), (.int (70 : Int32)), (.int (82 : Int32)), (.int (79 : Int32)), (.int (77 : Int32)), (.int (32 : Int32)), (.int (p1 &&& (255 : Int32))), (.int (32 : Int32)), (.int (87 : Int32)), (.int (72 : Int32)), (.int (69 : Int32)), (.int (82 : Int32)), (.int (0 : Int32)), (.int (0 : Int32)), (.int (0 : Int32)), (.int (0 : Int32)), (.int (0 : Int32)), (.int (0 : Int32)), (.int (0 : Int32)), (.int (0 : Int32)), (.int (0 : Int32)), (.int (0 : Int32))] (.int (0 : Int32)) := Arv.set Ar22 q22 Sz22 Ng22 Ha22 Fi22 (fits_nar_char _) W22 17 rfl (Nat.le_of_ble_eq_true rfl)
  have sfw22 := (show Safe Z consts_1 s.vm h21 b4 from Safe.arr hZ.alike Ar22 (by decide))
  have HC22 := HC21.trans (CHr.wr W22 sfw22 HC21.1)
  have hk22 := Nat.le_trans hk21 (Nat.le_of_eq W22.size.symm)
  replace Exa_x1 := Exa_x1.wr W22
  replace F_value_x1 := F_value_x1.other W22 (Or.inl ne_x1_b4)
  replace F_coder_x1 := F_coder_x1.other W22 (Or.inl ne_x1_b4)
  replace Arv_t1 := Arv_t1.other W22 ne_t1_b4
  replace Exa_x2 := Exa_x2.wr W22
  replace F_value_x2 := F_value_x2.other W22 (Or.inl ne_x2_b4)
  replace F_coder_x2 := F_coder_x2.other W22 (Or.inl ne_x2_b4)
  replace Arv_t2 := Arv_t2.other W22 ne_t2_b4
  replace Exa_x3 := Exa_x3.wr W22
  replace F_value_x3 := F_value_x3.other W22 (Or.inl ne_x3_b4)
  replace F_coder_x3 := F_coder_x3.other W22 (Or.inl ne_x3_b4)
  replace Arv_t3 := Arv_t3.other W22 ne_t3_b4
  have O22 := O21.wr W22 ge_b4
  have K22 := K21.wr W22 (Or.inr fr_b4)
  have N22 := Fr.snoc X22 N21 ge_b4
  clear st22 W22 hin22 Fi22 Ha22 Ng22 Sz22 q22 Ar22 cl22 sfw22
  clear O21 K21 N21 HC21 hk21 X21 e21
  show GlW Z consts_1 p e below s _ _ _ T22 (mkF m 148 #[.val (.int p1), .val (.int p2), .val (.int p3), .val (.int (p1 &&& (255 : Int32))), .val (.int (p2 &&& (255 : Int32))), .val (.int (p3 &&& (255 : Int32))), .val (.ref x1), .val (.ref x2), .val (.ref x3), .unset, .unset, .unset] [(.ref b4)])
  refine GlW.st (fun _ kk => XS.dup X22.here hx rfl (hb hby at_148) rfl rfl kk) ?_
  show GlW Z consts_1 p e below s _ _ _ T22 (mkF m 149 #[.val (.int p1), .val (.int p2), .val (.int p3), .val (.int (p1 &&& (255 : Int32))), .val (.int (p2 &&& (255 : Int32))), .val (.int (p3 &&& (255 : Int32))), .val (.ref x1), .val (.ref x2), .val (.ref x3), .unset, .unset, .unset] [(.ref b4), (.ref b4)])
  refine GlW.st (fun _ kk => XS.bipush X22.here hx rfl (hb hby at_149) kk) ?_
  show GlW Z consts_1 p e below s _ _ _ T22 (mkF m 151 #[.val (.int p1), .val (.int p2), .val (.int p3), .val (.int (p1 &&& (255 : Int32))), .val (.int (p2 &&& (255 : Int32))), .val (.int (p3 &&& (255 : Int32))), .val (.ref x1), .val (.ref x2), .val (.ref x3), .unset, .unset, .unset] [(.int (18 : Int32)), (.ref b4), (.ref b4)])
  refine GlW.st (fun _ kk => XS.bipush X22.here hx rfl (hb hby at_151) kk) ?_
  show GlW Z consts_1 p e below s _ _ _ T22 (mkF m 153 #[.val (.int p1), .val (.int p2), .val (.int p3), .val (.int (p1 &&& (255 : Int32))), .val (.int (p2 &&& (255 : Int32))), .val (.int (p3 &&& (255 : Int32))), .val (.ref x1), .val (.ref x2), .val (.ref x3), .unset, .unset, .unset] [(.int (69 : Int32)), (.int (18 : Int32)), (.ref b4), (.ref b4)])
  obtain ⟨cl23, Ar23, q23, Sz23, Ng23, Ha23, Fi23⟩ := id Arv_b4
  have hin23 : ¬ ((18 : Int32) < 0 ∨ cl23.slots.size ≤ ((18 : Int32)).toNatClampNeg) := inb_of Sz23 ⟨by decide, by decide⟩
  obtain ⟨T23, h23, X23, e23, W23, st23⟩ := stC X22 hx hZ e22 Ar23 (j := (18 : Int32)) hin23 (g := (mkF m 153 #[.val (.int p1), .val (.int p2), .val (.int p3), .val (.int (p1 &&& (255 : Int32))), .val (.int (p2 &&& (255 : Int32))), .val (.int (p3 &&& (255 : Int32))), .val (.ref x1), .val (.ref x2), .val (.ref x3), .unset, .unset, .unset] [(.int (69 : Int32)), (.int (18 : Int32)), (.ref b4), (.ref b4)])) rfl rfl (hb hby at_153)
  refine GlW.st st23 ?_
  replace Arv_b4 : Arv Z h23 b4 ka4 .char (28 : Int32) [(.int (68 : Int32)), (.int (69 : Int32)), (.int (76 : Int32)), (.int (69 : Int32)), (.int (84 : Int32)), (.int (69 : Int32)), (.int (32 : Int32)), (.int (70 : Int32)), (.int (82 : Int32)), (.int (79 : Int32)), (.int (77 : Int32)), (.int (32 : Int32)), (.int (p1 &&& (255 : Int32))), (.int (32 : Int32)), (.int (87 : Int32)), (.int (72 : Int32)), (.int (69 : Int32)), (.int (82 : Int32)), (.int (69 : Int32)), (.int (0 : Int32)), (.int (0 : Int32)), (.int (0 : Int32)), (.int (0 : Int32)), (.int (0 : Int32)), (.int (0 : Int32)), (.int (0 : Int32)), (.int (0 : Int32)), (.int (0 : Int32))] (.int (0 : Int32)) := Arv.set Ar23 q23 Sz23 Ng23 Ha23 Fi23 (fits_nar_char _) W23 18 rfl (Nat.le_of_ble_eq_true rfl)
  have sfw23 := (show Safe Z consts_1 s.vm h22 b4 from Safe.arr hZ.alike Ar23 (by decide))
  have HC23 := HC22.trans (CHr.wr W23 sfw23 HC22.1)
  have hk23 := Nat.le_trans hk22 (Nat.le_of_eq W23.size.symm)
  replace Exa_x1 := Exa_x1.wr W23
  replace F_value_x1 := F_value_x1.other W23 (Or.inl ne_x1_b4)
  replace F_coder_x1 := F_coder_x1.other W23 (Or.inl ne_x1_b4)
  replace Arv_t1 := Arv_t1.other W23 ne_t1_b4
  replace Exa_x2 := Exa_x2.wr W23
  replace F_value_x2 := F_value_x2.other W23 (Or.inl ne_x2_b4)
  replace F_coder_x2 := F_coder_x2.other W23 (Or.inl ne_x2_b4)
  replace Arv_t2 := Arv_t2.other W23 ne_t2_b4
  replace Exa_x3 := Exa_x3.wr W23
  replace F_value_x3 := F_value_x3.other W23 (Or.inl ne_x3_b4)
  replace F_coder_x3 := F_coder_x3.other W23 (Or.inl ne_x3_b4)
  replace Arv_t3 := Arv_t3.other W23 ne_t3_b4
  have O23 := O22.wr W23 ge_b4
  have K23 := K22.wr W23 (Or.inr fr_b4)
  have N23 := Fr.snoc X23 N22 ge_b4
  clear st23 W23 hin23 Fi23 Ha23 Ng23 Sz23 q23 Ar23 cl23 sfw23
  clear O22 K22 N22 HC22 hk22 X22 e22
  show GlW Z consts_1 p e below s _ _ _ T23 (mkF m 154 #[.val (.int p1), .val (.int p2), .val (.int p3), .val (.int (p1 &&& (255 : Int32))), .val (.int (p2 &&& (255 : Int32))), .val (.int (p3 &&& (255 : Int32))), .val (.ref x1), .val (.ref x2), .val (.ref x3), .unset, .unset, .unset] [(.ref b4)])
  refine GlW.st (fun _ kk => XS.dup X23.here hx rfl (hb hby at_154) rfl rfl kk) ?_
  show GlW Z consts_1 p e below s _ _ _ T23 (mkF m 155 #[.val (.int p1), .val (.int p2), .val (.int p3), .val (.int (p1 &&& (255 : Int32))), .val (.int (p2 &&& (255 : Int32))), .val (.int (p3 &&& (255 : Int32))), .val (.ref x1), .val (.ref x2), .val (.ref x3), .unset, .unset, .unset] [(.ref b4), (.ref b4)])
  refine GlW.st (fun _ kk => XS.bipush X23.here hx rfl (hb hby at_155) kk) ?_
  show GlW Z consts_1 p e below s _ _ _ T23 (mkF m 157 #[.val (.int p1), .val (.int p2), .val (.int p3), .val (.int (p1 &&& (255 : Int32))), .val (.int (p2 &&& (255 : Int32))), .val (.int (p3 &&& (255 : Int32))), .val (.ref x1), .val (.ref x2), .val (.ref x3), .unset, .unset, .unset] [(.int (19 : Int32)), (.ref b4), (.ref b4)])
  refine GlW.st (fun _ kk => XS.bipush X23.here hx rfl (hb hby at_157) kk) ?_
  show GlW Z consts_1 p e below s _ _ _ T23 (mkF m 159 #[.val (.int p1), .val (.int p2), .val (.int p3), .val (.int (p1 &&& (255 : Int32))), .val (.int (p2 &&& (255 : Int32))), .val (.int (p3 &&& (255 : Int32))), .val (.ref x1), .val (.ref x2), .val (.ref x3), .unset, .unset, .unset] [(.int (32 : Int32)), (.int (19 : Int32)), (.ref b4), (.ref b4)])
  obtain ⟨cl24, Ar24, q24, Sz24, Ng24, Ha24, Fi24⟩ := id Arv_b4
  have hin24 : ¬ ((19 : Int32) < 0 ∨ cl24.slots.size ≤ ((19 : Int32)).toNatClampNeg) := inb_of Sz24 ⟨by decide, by decide⟩
  obtain ⟨T24, h24, X24, e24, W24, st24⟩ := stC X23 hx hZ e23 Ar24 (j := (19 : Int32)) hin24 (g := (mkF m 159 #[.val (.int p1), .val (.int p2), .val (.int p3), .val (.int (p1 &&& (255 : Int32))), .val (.int (p2 &&& (255 : Int32))), .val (.int (p3 &&& (255 : Int32))), .val (.ref x1), .val (.ref x2), .val (.ref x3), .unset, .unset, .unset] [(.int (32 : Int32)), (.int (19 : Int32)), (.ref b4), (.ref b4)])) rfl rfl (hb hby at_159)
  refine GlW.st st24 ?_
  replace Arv_b4 : Arv Z h24 b4 ka4 .char (28 : Int32) [(.int (68 : Int32)), (.int (69 : Int32)), (.int (76 : Int32)), (.int (69 : Int32)), (.int (84 : Int32)), (.int (69 : Int32)), (.int (32 : Int32)), (.int (70 : Int32)), (.int (82 : Int32)), (.int (79 : Int32)), (.int (77 : Int32)), (.int (32 : Int32)), (.int (p1 &&& (255 : Int32))), (.int (32 : Int32)), (.int (87 : Int32)), (.int (72 : Int32)), (.int (69 : Int32)), (.int (82 : Int32)), (.int (69 : Int32)), (.int (32 : Int32)), (.int (0 : Int32)), (.int (0 : Int32)), (.int (0 : Int32)), (.int (0 : Int32)), (.int (0 : Int32)), (.int (0 : Int32)), (.int (0 : Int32)), (.int (0 : Int32))] (.int (0 : Int32)) := Arv.set Ar24 q24 Sz24 Ng24 Ha24 Fi24 (fits_nar_char _) W24 19 rfl (Nat.le_of_ble_eq_true rfl)
  have sfw24 := (show Safe Z consts_1 s.vm h23 b4 from Safe.arr hZ.alike Ar24 (by decide))
  have HC24 := HC23.trans (CHr.wr W24 sfw24 HC23.1)
  have hk24 := Nat.le_trans hk23 (Nat.le_of_eq W24.size.symm)
  replace Exa_x1 := Exa_x1.wr W24
  replace F_value_x1 := F_value_x1.other W24 (Or.inl ne_x1_b4)
  replace F_coder_x1 := F_coder_x1.other W24 (Or.inl ne_x1_b4)
  replace Arv_t1 := Arv_t1.other W24 ne_t1_b4
  replace Exa_x2 := Exa_x2.wr W24
  replace F_value_x2 := F_value_x2.other W24 (Or.inl ne_x2_b4)
  replace F_coder_x2 := F_coder_x2.other W24 (Or.inl ne_x2_b4)
  replace Arv_t2 := Arv_t2.other W24 ne_t2_b4
  replace Exa_x3 := Exa_x3.wr W24
  replace F_value_x3 := F_value_x3.other W24 (Or.inl ne_x3_b4)
  replace F_coder_x3 := F_coder_x3.other W24 (Or.inl ne_x3_b4)
  replace Arv_t3 := Arv_t3.other W24 ne_t3_b4
  have O24 := O23.wr W24 ge_b4
  have K24 := K23.wr W24 (Or.inr fr_b4)
  have N24 := Fr.snoc X24 N23 ge_b4
  clear st24 W24 hin24 Fi24 Ha24 Ng24 Sz24 q24 Ar24 cl24 sfw24
  clear O23 K23 N23 HC23 hk23 X23 e23
  show GlW Z consts_1 p e below s _ _ _ T24 (mkF m 160 #[.val (.int p1), .val (.int p2), .val (.int p3), .val (.int (p1 &&& (255 : Int32))), .val (.int (p2 &&& (255 : Int32))), .val (.int (p3 &&& (255 : Int32))), .val (.ref x1), .val (.ref x2), .val (.ref x3), .unset, .unset, .unset] [(.ref b4)])
  refine GlW.st (fun _ kk => XS.dup X24.here hx rfl (hb hby at_160) rfl rfl kk) ?_
  show GlW Z consts_1 p e below s _ _ _ T24 (mkF m 161 #[.val (.int p1), .val (.int p2), .val (.int p3), .val (.int (p1 &&& (255 : Int32))), .val (.int (p2 &&& (255 : Int32))), .val (.int (p3 &&& (255 : Int32))), .val (.ref x1), .val (.ref x2), .val (.ref x3), .unset, .unset, .unset] [(.ref b4), (.ref b4)])
  refine GlW.st (fun _ kk => XS.bipush X24.here hx rfl (hb hby at_161) kk) ?_
  show GlW Z consts_1 p e below s _ _ _ T24 (mkF m 163 #[.val (.int p1), .val (.int p2), .val (.int p3), .val (.int (p1 &&& (255 : Int32))), .val (.int (p2 &&& (255 : Int32))), .val (.int (p3 &&& (255 : Int32))), .val (.ref x1), .val (.ref x2), .val (.ref x3), .unset, .unset, .unset] [(.int (20 : Int32)), (.ref b4), (.ref b4)])
  refine GlW.st (fun _ kk => XS.iload X24.here hx rfl (hb hby at_163) rfl kk) ?_
  show GlW Z consts_1 p e below s _ _ _ T24 (mkF m 165 #[.val (.int p1), .val (.int p2), .val (.int p3), .val (.int (p1 &&& (255 : Int32))), .val (.int (p2 &&& (255 : Int32))), .val (.int (p3 &&& (255 : Int32))), .val (.ref x1), .val (.ref x2), .val (.ref x3), .unset, .unset, .unset] [(.int (p2 &&& (255 : Int32))), (.int (20 : Int32)), (.ref b4), (.ref b4)])
  obtain ⟨cl25, Ar25, q25, Sz25, Ng25, Ha25, Fi25⟩ := id Arv_b4
  have hin25 : ¬ ((20 : Int32) < 0 ∨ cl25.slots.size ≤ ((20 : Int32)).toNatClampNeg) := inb_of Sz25 ⟨by decide, by decide⟩
  obtain ⟨T25, h25, X25, e25, W25, st25⟩ := stC X24 hx hZ e24 Ar25 (j := (20 : Int32)) hin25 (g := (mkF m 165 #[.val (.int p1), .val (.int p2), .val (.int p3), .val (.int (p1 &&& (255 : Int32))), .val (.int (p2 &&& (255 : Int32))), .val (.int (p3 &&& (255 : Int32))), .val (.ref x1), .val (.ref x2), .val (.ref x3), .unset, .unset, .unset] [(.int (p2 &&& (255 : Int32))), (.int (20 : Int32)), (.ref b4), (.ref b4)])) rfl rfl (hb hby at_165)
  refine GlW.st st25 ?_
  replace Arv_b4 : Arv Z h25 b4 ka4 .char (28 : Int32) [(.int (68 : Int32)), (.int (69 : Int32)), (.int (76 : Int32)), (.int (69 : Int32)), (.int (84 : Int32)), (.int (69 : Int32)), (.int (32 : Int32)), (.int (70 : Int32)), (.int (82 : Int32)), (.int (79 : Int32)), (.int (77 : Int32)), (.int (32 : Int32)), (.int (p1 &&& (255 : Int32))), (.int (32 : Int32)), (.int (87 : Int32)), (.int (72 : Int32)), (.int (69 : Int32)), (.int (82 : Int32)), (.int (69 : Int32)), (.int (32 : Int32)), (.int (nar .char (p2 &&& (255 : Int32)))), (.int (0 : Int32)), (.int (0 : Int32)), (.int (0 : Int32)), (.int (0 : Int32)), (.int (0 : Int32)), (.int (0 : Int32)), (.int (0 : Int32))] (.int (0 : Int32)) := Arv.set Ar25 q25 Sz25 Ng25 Ha25 Fi25 (fits_nar_char _) W25 20 rfl (Nat.le_of_ble_eq_true rfl)
  rw [own_nc255] at Arv_b4
  have sfw25 := (show Safe Z consts_1 s.vm h24 b4 from Safe.arr hZ.alike Ar25 (by decide))
  have HC25 := HC24.trans (CHr.wr W25 sfw25 HC24.1)
  have hk25 := Nat.le_trans hk24 (Nat.le_of_eq W25.size.symm)
  replace Exa_x1 := Exa_x1.wr W25
  replace F_value_x1 := F_value_x1.other W25 (Or.inl ne_x1_b4)
  replace F_coder_x1 := F_coder_x1.other W25 (Or.inl ne_x1_b4)
  replace Arv_t1 := Arv_t1.other W25 ne_t1_b4
  replace Exa_x2 := Exa_x2.wr W25
  replace F_value_x2 := F_value_x2.other W25 (Or.inl ne_x2_b4)
  replace F_coder_x2 := F_coder_x2.other W25 (Or.inl ne_x2_b4)
  replace Arv_t2 := Arv_t2.other W25 ne_t2_b4
  replace Exa_x3 := Exa_x3.wr W25
  replace F_value_x3 := F_value_x3.other W25 (Or.inl ne_x3_b4)
  replace F_coder_x3 := F_coder_x3.other W25 (Or.inl ne_x3_b4)
  replace Arv_t3 := Arv_t3.other W25 ne_t3_b4
  have O25 := O24.wr W25 ge_b4
  have K25 := K24.wr W25 (Or.inr fr_b4)
  have N25 := Fr.snoc X25 N24 ge_b4
  clear st25 W25 hin25 Fi25 Ha25 Ng25 Sz25 q25 Ar25 cl25 sfw25
  clear O24 K24 N24 HC24 hk24 X24 e24
  show GlW Z consts_1 p e below s _ _ _ T25 (mkF m 166 #[.val (.int p1), .val (.int p2), .val (.int p3), .val (.int (p1 &&& (255 : Int32))), .val (.int (p2 &&& (255 : Int32))), .val (.int (p3 &&& (255 : Int32))), .val (.ref x1), .val (.ref x2), .val (.ref x3), .unset, .unset, .unset] [(.ref b4)])
  refine GlW.st (fun _ kk => XS.dup X25.here hx rfl (hb hby at_166) rfl rfl kk) ?_
  show GlW Z consts_1 p e below s _ _ _ T25 (mkF m 167 #[.val (.int p1), .val (.int p2), .val (.int p3), .val (.int (p1 &&& (255 : Int32))), .val (.int (p2 &&& (255 : Int32))), .val (.int (p3 &&& (255 : Int32))), .val (.ref x1), .val (.ref x2), .val (.ref x3), .unset, .unset, .unset] [(.ref b4), (.ref b4)])
  refine GlW.st (fun _ kk => XS.bipush X25.here hx rfl (hb hby at_167) kk) ?_
  show GlW Z consts_1 p e below s _ _ _ T25 (mkF m 169 #[.val (.int p1), .val (.int p2), .val (.int p3), .val (.int (p1 &&& (255 : Int32))), .val (.int (p2 &&& (255 : Int32))), .val (.int (p3 &&& (255 : Int32))), .val (.ref x1), .val (.ref x2), .val (.ref x3), .unset, .unset, .unset] [(.int (21 : Int32)), (.ref b4), (.ref b4)])
  refine GlW.st (fun _ kk => XS.bipush X25.here hx rfl (hb hby at_169) kk) ?_
  show GlW Z consts_1 p e below s _ _ _ T25 (mkF m 171 #[.val (.int p1), .val (.int p2), .val (.int p3), .val (.int (p1 &&& (255 : Int32))), .val (.int (p2 &&& (255 : Int32))), .val (.int (p3 &&& (255 : Int32))), .val (.ref x1), .val (.ref x2), .val (.ref x3), .unset, .unset, .unset] [(.int (32 : Int32)), (.int (21 : Int32)), (.ref b4), (.ref b4)])
  obtain ⟨cl26, Ar26, q26, Sz26, Ng26, Ha26, Fi26⟩ := id Arv_b4
  have hin26 : ¬ ((21 : Int32) < 0 ∨ cl26.slots.size ≤ ((21 : Int32)).toNatClampNeg) := inb_of Sz26 ⟨by decide, by decide⟩
  obtain ⟨T26, h26, X26, e26, W26, st26⟩ := stC X25 hx hZ e25 Ar26 (j := (21 : Int32)) hin26 (g := (mkF m 171 #[.val (.int p1), .val (.int p2), .val (.int p3), .val (.int (p1 &&& (255 : Int32))), .val (.int (p2 &&& (255 : Int32))), .val (.int (p3 &&& (255 : Int32))), .val (.ref x1), .val (.ref x2), .val (.ref x3), .unset, .unset, .unset] [(.int (32 : Int32)), (.int (21 : Int32)), (.ref b4), (.ref b4)])) rfl rfl (hb hby at_171)
  refine GlW.st st26 ?_
  replace Arv_b4 : Arv Z h26 b4 ka4 .char (28 : Int32) [(.int (68 : Int32)), (.int (69 : Int32)), (.int (76 : Int32)), (.int (69 : Int32)), (.int (84 : Int32)), (.int (69 : Int32)), (.int (32 : Int32)), (.int (70 : Int32)), (.int (82 : Int32)), (.int (79 : Int32)), (.int (77 : Int32)), (.int (32 : Int32)), (.int (p1 &&& (255 : Int32))), (.int (32 : Int32)), (.int (87 : Int32)), (.int (72 : Int32)), (.int (69 : Int32)), (.int (82 : Int32)), (.int (69 : Int32)), (.int (32 : Int32)), (.int (p2 &&& (255 : Int32))), (.int (32 : Int32)), (.int (0 : Int32)), (.int (0 : Int32)), (.int (0 : Int32)), (.int (0 : Int32)), (.int (0 : Int32)), (.int (0 : Int32))] (.int (0 : Int32)) := Arv.set Ar26 q26 Sz26 Ng26 Ha26 Fi26 (fits_nar_char _) W26 21 rfl (Nat.le_of_ble_eq_true rfl)
  have sfw26 := (show Safe Z consts_1 s.vm h25 b4 from Safe.arr hZ.alike Ar26 (by decide))
  have HC26 := HC25.trans (CHr.wr W26 sfw26 HC25.1)
  have hk26 := Nat.le_trans hk25 (Nat.le_of_eq W26.size.symm)
  replace Exa_x1 := Exa_x1.wr W26
  replace F_value_x1 := F_value_x1.other W26 (Or.inl ne_x1_b4)
  replace F_coder_x1 := F_coder_x1.other W26 (Or.inl ne_x1_b4)
  replace Arv_t1 := Arv_t1.other W26 ne_t1_b4
  replace Exa_x2 := Exa_x2.wr W26
  replace F_value_x2 := F_value_x2.other W26 (Or.inl ne_x2_b4)
  replace F_coder_x2 := F_coder_x2.other W26 (Or.inl ne_x2_b4)
  replace Arv_t2 := Arv_t2.other W26 ne_t2_b4
  replace Exa_x3 := Exa_x3.wr W26
  replace F_value_x3 := F_value_x3.other W26 (Or.inl ne_x3_b4)
  replace F_coder_x3 := F_coder_x3.other W26 (Or.inl ne_x3_b4)
  replace Arv_t3 := Arv_t3.other W26 ne_t3_b4
  have O26 := O25.wr W26 ge_b4
  have K26 := K25.wr W26 (Or.inr fr_b4)
  have N26 := Fr.snoc X26 N25 ge_b4
  clear st26 W26 hin26 Fi26 Ha26 Ng26 Sz26 q26 Ar26 cl26 sfw26
  clear O25 K25 N25 HC25 hk25 X25 e25
  show GlW Z consts_1 p e below s _ _ _ T26 (mkF m 172 #[.val (.int p1), .val (.int p2), .val (.int p3), .val (.int (p1 &&& (255 : Int32))), .val (.int (p2 &&& (255 : Int32))), .val (.int (p3 &&& (255 : Int32))), .val (.ref x1), .val (.ref x2), .val (.ref x3), .unset, .unset, .unset] [(.ref b4)])
  refine GlW.st (fun _ kk => XS.dup X26.here hx rfl (hb hby at_172) rfl rfl kk) ?_
  show GlW Z consts_1 p e below s _ _ _ T26 (mkF m 173 #[.val (.int p1), .val (.int p2), .val (.int p3), .val (.int (p1 &&& (255 : Int32))), .val (.int (p2 &&& (255 : Int32))), .val (.int (p3 &&& (255 : Int32))), .val (.ref x1), .val (.ref x2), .val (.ref x3), .unset, .unset, .unset] [(.ref b4), (.ref b4)])
  refine GlW.st (fun _ kk => XS.bipush X26.here hx rfl (hb hby at_173) kk) ?_
  show GlW Z consts_1 p e below s _ _ _ T26 (mkF m 175 #[.val (.int p1), .val (.int p2), .val (.int p3), .val (.int (p1 &&& (255 : Int32))), .val (.int (p2 &&& (255 : Int32))), .val (.int (p3 &&& (255 : Int32))), .val (.ref x1), .val (.ref x2), .val (.ref x3), .unset, .unset, .unset] [(.int (22 : Int32)), (.ref b4), (.ref b4)])
  refine GlW.st (fun _ kk => XS.bipush X26.here hx rfl (hb hby at_175) kk) ?_
  show GlW Z consts_1 p e below s _ _ _ T26 (mkF m 177 #[.val (.int p1), .val (.int p2), .val (.int p3), .val (.int (p1 &&& (255 : Int32))), .val (.int (p2 &&& (255 : Int32))), .val (.int (p3 &&& (255 : Int32))), .val (.ref x1), .val (.ref x2), .val (.ref x3), .unset, .unset, .unset] [(.int (73 : Int32)), (.int (22 : Int32)), (.ref b4), (.ref b4)])
  obtain ⟨cl27, Ar27, q27, Sz27, Ng27, Ha27, Fi27⟩ := id Arv_b4
  have hin27 : ¬ ((22 : Int32) < 0 ∨ cl27.slots.size ≤ ((22 : Int32)).toNatClampNeg) := inb_of Sz27 ⟨by decide, by decide⟩
  obtain ⟨T27, h27, X27, e27, W27, st27⟩ := stC X26 hx hZ e26 Ar27 (j := (22 : Int32)) hin27 (g := (mkF m 177 #[.val (.int p1), .val (.int p2), .val (.int p3), .val (.int (p1 &&& (255 : Int32))), .val (.int (p2 &&& (255 : Int32))), .val (.int (p3 &&& (255 : Int32))), .val (.ref x1), .val (.ref x2), .val (.ref x3), .unset, .unset, .unset] [(.int (73 : Int32)), (.int (22 : Int32)), (.ref b4), (.ref b4)])) rfl rfl (hb hby at_177)
  refine GlW.st st27 ?_
  replace Arv_b4 : Arv Z h27 b4 ka4 .char (28 : Int32) [(.int (68 : Int32)), (.int (69 : Int32)), (.int (76 : Int32)), (.int (69 : Int32)), (.int (84 : Int32)), (.int (69 : Int32)), (.int (32 : Int32)), (.int (70 : Int32)), (.int (82 : Int32)), (.int (79 : Int32)), (.int (77 : Int32)), (.int (32 : Int32)), (.int (p1 &&& (255 : Int32))), (.int (32 : Int32)), (.int (87 : Int32)), (.int (72 : Int32)), (.int (69 : Int32)), (.int (82 : Int32)), (.int (69 : Int32)), (.int (32 : Int32)), (.int (p2 &&& (255 : Int32))), (.int (32 : Int32)), (.int (73 : Int32)), (.int (0 : Int32)), (.int (0 : Int32)), (.int (0 : Int32)), (.int (0 : Int32)), (.int (0 : Int32))] (.int (0 : Int32)) := Arv.set Ar27 q27 Sz27 Ng27 Ha27 Fi27 (fits_nar_char _) W27 22 rfl (Nat.le_of_ble_eq_true rfl)
  have sfw27 := (show Safe Z consts_1 s.vm h26 b4 from Safe.arr hZ.alike Ar27 (by decide))
  have HC27 := HC26.trans (CHr.wr W27 sfw27 HC26.1)
  have hk27 := Nat.le_trans hk26 (Nat.le_of_eq W27.size.symm)
  replace Exa_x1 := Exa_x1.wr W27
  replace F_value_x1 := F_value_x1.other W27 (Or.inl ne_x1_b4)
  replace F_coder_x1 := F_coder_x1.other W27 (Or.inl ne_x1_b4)
  replace Arv_t1 := Arv_t1.other W27 ne_t1_b4
  replace Exa_x2 := Exa_x2.wr W27
  replace F_value_x2 := F_value_x2.other W27 (Or.inl ne_x2_b4)
  replace F_coder_x2 := F_coder_x2.other W27 (Or.inl ne_x2_b4)
  replace Arv_t2 := Arv_t2.other W27 ne_t2_b4
  replace Exa_x3 := Exa_x3.wr W27
  replace F_value_x3 := F_value_x3.other W27 (Or.inl ne_x3_b4)
  replace F_coder_x3 := F_coder_x3.other W27 (Or.inl ne_x3_b4)
  replace Arv_t3 := Arv_t3.other W27 ne_t3_b4
  have O27 := O26.wr W27 ge_b4
  have K27 := K26.wr W27 (Or.inr fr_b4)
  have N27 := Fr.snoc X27 N26 ge_b4
  clear st27 W27 hin27 Fi27 Ha27 Ng27 Sz27 q27 Ar27 cl27 sfw27
  clear O26 K26 N26 HC26 hk26 X26 e26
  show GlW Z consts_1 p e below s _ _ _ T27 (mkF m 178 #[.val (.int p1), .val (.int p2), .val (.int p3), .val (.int (p1 &&& (255 : Int32))), .val (.int (p2 &&& (255 : Int32))), .val (.int (p3 &&& (255 : Int32))), .val (.ref x1), .val (.ref x2), .val (.ref x3), .unset, .unset, .unset] [(.ref b4)])
  refine GlW.st (fun _ kk => XS.dup X27.here hx rfl (hb hby at_178) rfl rfl kk) ?_
  show GlW Z consts_1 p e below s _ _ _ T27 (mkF m 179 #[.val (.int p1), .val (.int p2), .val (.int p3), .val (.int (p1 &&& (255 : Int32))), .val (.int (p2 &&& (255 : Int32))), .val (.int (p3 &&& (255 : Int32))), .val (.ref x1), .val (.ref x2), .val (.ref x3), .unset, .unset, .unset] [(.ref b4), (.ref b4)])
  refine GlW.st (fun _ kk => XS.bipush X27.here hx rfl (hb hby at_179) kk) ?_
  show GlW Z consts_1 p e below s _ _ _ T27 (mkF m 181 #[.val (.int p1), .val (.int p2), .val (.int p3), .val (.int (p1 &&& (255 : Int32))), .val (.int (p2 &&& (255 : Int32))), .val (.int (p3 &&& (255 : Int32))), .val (.ref x1), .val (.ref x2), .val (.ref x3), .unset, .unset, .unset] [(.int (23 : Int32)), (.ref b4), (.ref b4)])
  refine GlW.st (fun _ kk => XS.bipush X27.here hx rfl (hb hby at_181) kk) ?_
  show GlW Z consts_1 p e below s _ _ _ T27 (mkF m 183 #[.val (.int p1), .val (.int p2), .val (.int p3), .val (.int (p1 &&& (255 : Int32))), .val (.int (p2 &&& (255 : Int32))), .val (.int (p3 &&& (255 : Int32))), .val (.ref x1), .val (.ref x2), .val (.ref x3), .unset, .unset, .unset] [(.int (78 : Int32)), (.int (23 : Int32)), (.ref b4), (.ref b4)])
  obtain ⟨cl28, Ar28, q28, Sz28, Ng28, Ha28, Fi28⟩ := id Arv_b4
  have hin28 : ¬ ((23 : Int32) < 0 ∨ cl28.slots.size ≤ ((23 : Int32)).toNatClampNeg) := inb_of Sz28 ⟨by decide, by decide⟩
  obtain ⟨T28, h28, X28, e28, W28, st28⟩ := stC X27 hx hZ e27 Ar28 (j := (23 : Int32)) hin28 (g := (mkF m 183 #[.val (.int p1), .val (.int p2), .val (.int p3), .val (.int (p1 &&& (255 : Int32))), .val (.int (p2 &&& (255 : Int32))), .val (.int (p3 &&& (255 : Int32))), .val (.ref x1), .val (.ref x2), .val (.ref x3), .unset, .unset, .unset] [(.int (78 : Int32)), (.int (23 : Int32)), (.ref b4), (.ref b4)])) rfl rfl (hb hby at_183)
  refine GlW.st st28 ?_
  replace Arv_b4 : Arv Z h28 b4 ka4 .char (28 : Int32) [(.int (68 : Int32)), (.int (69 : Int32)), (.int (76 : Int32)), (.int (69 : Int32)), (.int (84 : Int32)), (.int (69 : Int32)), (.int (32 : Int32)), (.int (70 : Int32)), (.int (82 : Int32)), (.int (79 : Int32)), (.int (77 : Int32)), (.int (32 : Int32)), (.int (p1 &&& (255 : Int32))), (.int (32 : Int32)), (.int (87 : Int32)), (.int (72 : Int32)), (.int (69 : Int32)), (.int (82 : Int32)), (.int (69 : Int32)), (.int (32 : Int32)), (.int (p2 &&& (255 : Int32))), (.int (32 : Int32)), (.int (73 : Int32)), (.int (78 : Int32)), (.int (0 : Int32)), (.int (0 : Int32)), (.int (0 : Int32)), (.int (0 : Int32))] (.int (0 : Int32)) := Arv.set Ar28 q28 Sz28 Ng28 Ha28 Fi28 (fits_nar_char _) W28 23 rfl (Nat.le_of_ble_eq_true rfl)
  have sfw28 := (show Safe Z consts_1 s.vm h27 b4 from Safe.arr hZ.alike Ar28 (by decide))
  have HC28 := HC27.trans (CHr.wr W28 sfw28 HC27.1)
  have hk28 := Nat.le_trans hk27 (Nat.le_of_eq W28.size.symm)
  replace Exa_x1 := Exa_x1.wr W28
  replace F_value_x1 := F_value_x1.other W28 (Or.inl ne_x1_b4)
  replace F_coder_x1 := F_coder_x1.other W28 (Or.inl ne_x1_b4)
  replace Arv_t1 := Arv_t1.other W28 ne_t1_b4
  replace Exa_x2 := Exa_x2.wr W28
  replace F_value_x2 := F_value_x2.other W28 (Or.inl ne_x2_b4)
  replace F_coder_x2 := F_coder_x2.other W28 (Or.inl ne_x2_b4)
  replace Arv_t2 := Arv_t2.other W28 ne_t2_b4
  replace Exa_x3 := Exa_x3.wr W28
  replace F_value_x3 := F_value_x3.other W28 (Or.inl ne_x3_b4)
  replace F_coder_x3 := F_coder_x3.other W28 (Or.inl ne_x3_b4)
  replace Arv_t3 := Arv_t3.other W28 ne_t3_b4
  have O28 := O27.wr W28 ge_b4
  have K28 := K27.wr W28 (Or.inr fr_b4)
  have N28 := Fr.snoc X28 N27 ge_b4
  clear st28 W28 hin28 Fi28 Ha28 Ng28 Sz28 q28 Ar28 cl28 sfw28
  clear O27 K27 N27 HC27 hk27 X27 e27
  show GlW Z consts_1 p e below s _ _ _ T28 (mkF m 184 #[.val (.int p1), .val (.int p2), .val (.int p3), .val (.int (p1 &&& (255 : Int32))), .val (.int (p2 &&& (255 : Int32))), .val (.int (p3 &&& (255 : Int32))), .val (.ref x1), .val (.ref x2), .val (.ref x3), .unset, .unset, .unset] [(.ref b4)])
  refine GlW.st (fun _ kk => XS.dup X28.here hx rfl (hb hby at_184) rfl rfl kk) ?_
  show GlW Z consts_1 p e below s _ _ _ T28 (mkF m 185 #[.val (.int p1), .val (.int p2), .val (.int p3), .val (.int (p1 &&& (255 : Int32))), .val (.int (p2 &&& (255 : Int32))), .val (.int (p3 &&& (255 : Int32))), .val (.ref x1), .val (.ref x2), .val (.ref x3), .unset, .unset, .unset] [(.ref b4), (.ref b4)])
  refine GlW.st (fun _ kk => XS.bipush X28.here hx rfl (hb hby at_185) kk) ?_
  show GlW Z consts_1 p e below s _ _ _ T28 (mkF m 187 #[.val (.int p1), .val (.int p2), .val (.int p3), .val (.int (p1 &&& (255 : Int32))), .val (.int (p2 &&& (255 : Int32))), .val (.int (p3 &&& (255 : Int32))), .val (.ref x1), .val (.ref x2), .val (.ref x3), .unset, .unset, .unset] [(.int (24 : Int32)), (.ref b4), (.ref b4)])
  refine GlW.st (fun _ kk => XS.bipush X28.here hx rfl (hb hby at_187) kk) ?_
  show GlW Z consts_1 p e below s _ _ _ T28 (mkF m 189 #[.val (.int p1), .val (.int p2), .val (.int p3), .val (.int (p1 &&& (255 : Int32))), .val (.int (p2 &&& (255 : Int32))), .val (.int (p3 &&& (255 : Int32))), .val (.ref x1), .val (.ref x2), .val (.ref x3), .unset, .unset, .unset] [(.int (32 : Int32)), (.int (24 : Int32)), (.ref b4), (.ref b4)])
  obtain ⟨cl29, Ar29, q29, Sz29, Ng29, Ha29, Fi29⟩ := id Arv_b4
  have hin29 : ¬ ((24 : Int32) < 0 ∨ cl29.slots.size ≤ ((24 : Int32)).toNatClampNeg) := inb_of Sz29 ⟨by decide, by decide⟩
  obtain ⟨T29, h29, X29, e29, W29, st29⟩ := stC X28 hx hZ e28 Ar29 (j := (24 : Int32)) hin29 (g := (mkF m 189 #[.val (.int p1), .val (.int p2), .val (.int p3), .val (.int (p1 &&& (255 : Int32))), .val (.int (p2 &&& (255 : Int32))), .val (.int (p3 &&& (255 : Int32))), .val (.ref x1), .val (.ref x2), .val (.ref x3), .unset, .unset, .unset] [(.int (32 : Int32)), (.int (24 : Int32)), (.ref b4), (.ref b4)])) rfl rfl (hb hby at_189)
  refine GlW.st st29 ?_
  replace Arv_b4 : Arv Z h29 b4 ka4 .char (28 : Int32) [(.int (68 : Int32)), (.int (69 : Int32)), (.int (76 : Int32)), (.int (69 : Int32)), (.int (84 : Int32)), (.int (69 : Int32)), (.int (32 : Int32)), (.int (70 : Int32)), (.int (82 : Int32)), (.int (79 : Int32)), (.int (77 : Int32)), (.int (32 : Int32)), (.int (p1 &&& (255 : Int32))), (.int (32 : Int32)), (.int (87 : Int32)), (.int (72 : Int32)), (.int (69 : Int32)), (.int (82 : Int32)), (.int (69 : Int32)), (.int (32 : Int32)), (.int (p2 &&& (255 : Int32))), (.int (32 : Int32)), (.int (73 : Int32)), (.int (78 : Int32)), (.int (32 : Int32)), (.int (0 : Int32)), (.int (0 : Int32)), (.int (0 : Int32))] (.int (0 : Int32)) := Arv.set Ar29 q29 Sz29 Ng29 Ha29 Fi29 (fits_nar_char _) W29 24 rfl (Nat.le_of_ble_eq_true rfl)
  have sfw29 := (show Safe Z consts_1 s.vm h28 b4 from Safe.arr hZ.alike Ar29 (by decide))
  have HC29 := HC28.trans (CHr.wr W29 sfw29 HC28.1)
  have hk29 := Nat.le_trans hk28 (Nat.le_of_eq W29.size.symm)
  replace Exa_x1 := Exa_x1.wr W29
  replace F_value_x1 := F_value_x1.other W29 (Or.inl ne_x1_b4)
  replace F_coder_x1 := F_coder_x1.other W29 (Or.inl ne_x1_b4)
  replace Arv_t1 := Arv_t1.other W29 ne_t1_b4
  replace Exa_x2 := Exa_x2.wr W29
  replace F_value_x2 := F_value_x2.other W29 (Or.inl ne_x2_b4)
  replace F_coder_x2 := F_coder_x2.other W29 (Or.inl ne_x2_b4)
  replace Arv_t2 := Arv_t2.other W29 ne_t2_b4
  replace Exa_x3 := Exa_x3.wr W29
  replace F_value_x3 := F_value_x3.other W29 (Or.inl ne_x3_b4)
  replace F_coder_x3 := F_coder_x3.other W29 (Or.inl ne_x3_b4)
  replace Arv_t3 := Arv_t3.other W29 ne_t3_b4
  have O29 := O28.wr W29 ge_b4
  have K29 := K28.wr W29 (Or.inr fr_b4)
  have N29 := Fr.snoc X29 N28 ge_b4
  clear st29 W29 hin29 Fi29 Ha29 Ng29 Sz29 q29 Ar29 cl29 sfw29
  clear O28 K28 N28 HC28 hk28 X28 e28
  show GlW Z consts_1 p e below s _ _ _ T29 (mkF m 190 #[.val (.int p1), .val (.int p2), .val (.int p3), .val (.int (p1 &&& (255 : Int32))), .val (.int (p2 &&& (255 : Int32))), .val (.int (p3 &&& (255 : Int32))), .val (.ref x1), .val (.ref x2), .val (.ref x3), .unset, .unset, .unset] [(.ref b4)])
  refine GlW.st (fun _ kk => XS.dup X29.here hx rfl (hb hby at_190) rfl rfl kk) ?_
  show GlW Z consts_1 p e below s _ _ _ T29 (mkF m 191 #[.val (.int p1), .val (.int p2), .val (.int p3), .val (.int (p1 &&& (255 : Int32))), .val (.int (p2 &&& (255 : Int32))), .val (.int (p3 &&& (255 : Int32))), .val (.ref x1), .val (.ref x2), .val (.ref x3), .unset, .unset, .unset] [(.ref b4), (.ref b4)])
  refine GlW.st (fun _ kk => XS.bipush X29.here hx rfl (hb hby at_191) kk) ?_
  show GlW Z consts_1 p e below s _ _ _ T29 (mkF m 193 #[.val (.int p1), .val (.int p2), .val (.int p3), .val (.int (p1 &&& (255 : Int32))), .val (.int (p2 &&& (255 : Int32))), .val (.int (p3 &&& (255 : Int32))), .val (.ref x1), .val (.ref x2), .val (.ref x3), .unset, .unset, .unset] [(.int (25 : Int32)), (.ref b4), (.ref b4)])
  refine GlW.st (fun _ kk => XS.bipush X29.here hx rfl (hb hby at_193) kk) ?_
  show GlW Z consts_1 p e below s _ _ _ T29 (mkF m 195 #[.val (.int p1), .val (.int p2), .val (.int p3), .val (.int (p1 &&& (255 : Int32))), .val (.int (p2 &&& (255 : Int32))), .val (.int (p3 &&& (255 : Int32))), .val (.ref x1), .val (.ref x2), .val (.ref x3), .unset, .unset, .unset] [(.int (40 : Int32)), (.int (25 : Int32)), (.ref b4), (.ref b4)])
  obtain ⟨cl30, Ar30, q30, Sz30, Ng30, Ha30, Fi30⟩ := id Arv_b4
  have hin30 : ¬ ((25 : Int32) < 0 ∨ cl30.slots.size ≤ ((25 : Int32)).toNatClampNeg) := inb_of Sz30 ⟨by decide, by decide⟩
  obtain ⟨T30, h30, X30, e30, W30, st30⟩ := stC X29 hx hZ e29 Ar30 (j := (25 : Int32)) hin30 (g := (mkF m 195 #[.val (.int p1), .val (.int p2), .val (.int p3), .val (.int (p1 &&& (255 : Int32))), .val (.int (p2 &&& (255 : Int32))), .val (.int (p3 &&& (255 : Int32))), .val (.ref x1), .val (.ref x2), .val (.ref x3), .unset, .unset, .unset] [(.int (40 : Int32)), (.int (25 : Int32)), (.ref b4), (.ref b4)])) rfl rfl (hb hby at_195)
  refine GlW.st st30 ?_
  replace Arv_b4 : Arv Z h30 b4 ka4 .char (28 : Int32) [(.int (68 : Int32)), (.int (69 : Int32)), (.int (76 : Int32)), (.int (69 : Int32)), (.int (84 : Int32)), (.int (69 : Int32)), (.int (32 : Int32)), (.int (70 : Int32)), (.int (82 : Int32)), (.int (79 : Int32)), (.int (77 : Int32)), (.int (32 : Int32)), (.int (p1 &&& (255 : Int32))), (.int (32 : Int32)), (.int (87 : Int32)), (.int (72 : Int32)), (.int (69 : Int32)), (.int (82 : Int32)), (.int (69 : Int32)), (.int (32 : Int32)), (.int (p2 &&& (255 : Int32))), (.int (32 : Int32)), (.int (73 : Int32)), (.int (78 : Int32)), (.int (32 : Int32)), (.int (40 : Int32)), (.int (0 : Int32)), (.int (0 : Int32))] (.int (0 : Int32)) := Arv.set Ar30 q30 Sz30 Ng30 Ha30 Fi30 (fits_nar_char _) W30 25 rfl (Nat.le_of_ble_eq_true rfl)
  have sfw30 := (show Safe Z consts_1 s.vm h29 b4 from Safe.arr hZ.alike Ar30 (by decide))
  have HC30 := HC29.trans (CHr.wr W30 sfw30 HC29.1)
  have hk30 := Nat.le_trans hk29 (Nat.le_of_eq W30.size.symm)
  replace Exa_x1 := Exa_x1.wr W30
  replace F_value_x1 := F_value_x1.other W30 (Or.inl ne_x1_b4)
  replace F_coder_x1 := F_coder_x1.other W30 (Or.inl ne_x1_b4)
  replace Arv_t1 := Arv_t1.other W30 ne_t1_b4
  replace Exa_x2 := Exa_x2.wr W30
  replace F_value_x2 := F_value_x2.other W30 (Or.inl ne_x2_b4)
  replace F_coder_x2 := F_coder_x2.other W30 (Or.inl ne_x2_b4)
  replace Arv_t2 := Arv_t2.other W30 ne_t2_b4
  replace Exa_x3 := Exa_x3.wr W30
  replace F_value_x3 := F_value_x3.other W30 (Or.inl ne_x3_b4)
  replace F_coder_x3 := F_coder_x3.other W30 (Or.inl ne_x3_b4)
  replace Arv_t3 := Arv_t3.other W30 ne_t3_b4
  have O30 := O29.wr W30 ge_b4
  have K30 := K29.wr W30 (Or.inr fr_b4)
  have N30 := Fr.snoc X30 N29 ge_b4
  clear st30 W30 hin30 Fi30 Ha30 Ng30 Sz30 q30 Ar30 cl30 sfw30
  clear O29 K29 N29 HC29 hk29 X29 e29
  show GlW Z consts_1 p e below s _ _ _ T30 (mkF m 196 #[.val (.int p1), .val (.int p2), .val (.int p3), .val (.int (p1 &&& (255 : Int32))), .val (.int (p2 &&& (255 : Int32))), .val (.int (p3 &&& (255 : Int32))), .val (.ref x1), .val (.ref x2), .val (.ref x3), .unset, .unset, .unset] [(.ref b4)])
  refine GlW.st (fun _ kk => XS.dup X30.here hx rfl (hb hby at_196) rfl rfl kk) ?_
  show GlW Z consts_1 p e below s _ _ _ T30 (mkF m 197 #[.val (.int p1), .val (.int p2), .val (.int p3), .val (.int (p1 &&& (255 : Int32))), .val (.int (p2 &&& (255 : Int32))), .val (.int (p3 &&& (255 : Int32))), .val (.ref x1), .val (.ref x2), .val (.ref x3), .unset, .unset, .unset] [(.ref b4), (.ref b4)])
  refine GlW.st (fun _ kk => XS.bipush X30.here hx rfl (hb hby at_197) kk) ?_
  show GlW Z consts_1 p e below s _ _ _ T30 (mkF m 199 #[.val (.int p1), .val (.int p2), .val (.int p3), .val (.int (p1 &&& (255 : Int32))), .val (.int (p2 &&& (255 : Int32))), .val (.int (p3 &&& (255 : Int32))), .val (.ref x1), .val (.ref x2), .val (.ref x3), .unset, .unset, .unset] [(.int (26 : Int32)), (.ref b4), (.ref b4)])
  refine GlW.st (fun _ kk => XS.iload X30.here hx rfl (hb hby at_199) rfl kk) ?_
  show GlW Z consts_1 p e below s _ _ _ T30 (mkF m 201 #[.val (.int p1), .val (.int p2), .val (.int p3), .val (.int (p1 &&& (255 : Int32))), .val (.int (p2 &&& (255 : Int32))), .val (.int (p3 &&& (255 : Int32))), .val (.ref x1), .val (.ref x2), .val (.ref x3), .unset, .unset, .unset] [(.int (p3 &&& (255 : Int32))), (.int (26 : Int32)), (.ref b4), (.ref b4)])
  obtain ⟨cl31, Ar31, q31, Sz31, Ng31, Ha31, Fi31⟩ := id Arv_b4
  have hin31 : ¬ ((26 : Int32) < 0 ∨ cl31.slots.size ≤ ((26 : Int32)).toNatClampNeg) := inb_of Sz31 ⟨by decide, by decide⟩
  obtain ⟨T31, h31, X31, e31, W31, st31⟩ := stC X30 hx hZ e30 Ar31 (j := (26 : Int32)) hin31 (g := (mkF m 201 #[.val (.int p1), .val (.int p2), .val (.int p3), .val (.int (p1 &&& (255 : Int32))), .val (.int (p2 &&& (255 : Int32))), .val (.int (p3 &&& (255 : Int32))), .val (.ref x1), .val (.ref x2), .val (.ref x3), .unset, .unset, .unset] [(.int (p3 &&& (255 : Int32))), (.int (26 : Int32)), (.ref b4), (.ref b4)])) rfl rfl (hb hby at_201)
  refine GlW.st st31 ?_
  replace Arv_b4 : Arv Z h31 b4 ka4 .char (28 : Int32) [(.int (68 : Int32)), (.int (69 : Int32)), (.int (76 : Int32)), (.int (69 : Int32)), (.int (84 : Int32)), (.int (69 : Int32)), (.int (32 : Int32)), (.int (70 : Int32)), (.int (82 : Int32)), (.int (79 : Int32)), (.int (77 : Int32)), (.int (32 : Int32)), (.int (p1 &&& (255 : Int32))), (.int (32 : Int32)), (.int (87 : Int32)), (.int (72 : Int32)), (.int (69 : Int32)), (.int (82 : Int32)), (.int (69 : Int32)), (.int (32 : Int32)), (.int (p2 &&& (255 : Int32))), (.int (32 : Int32)), (.int (73 : Int32)), (.int (78 : Int32)), (.int (32 : Int32)), (.int (40 : Int32)), (.int (nar .char (p3 &&& (255 : Int32)))), (.int (0 : Int32))] (.int (0 : Int32)) := Arv.set Ar31 q31 Sz31 Ng31 Ha31 Fi31 (fits_nar_char _) W31 26 rfl (Nat.le_of_ble_eq_true rfl)
  rw [own_nc255] at Arv_b4
  have sfw31 := (show Safe Z consts_1 s.vm h30 b4 from Safe.arr hZ.alike Ar31 (by decide))
  have HC31 := HC30.trans (CHr.wr W31 sfw31 HC30.1)
  have hk31 := Nat.le_trans hk30 (Nat.le_of_eq W31.size.symm)
  replace Exa_x1 := Exa_x1.wr W31
  replace F_value_x1 := F_value_x1.other W31 (Or.inl ne_x1_b4)
  replace F_coder_x1 := F_coder_x1.other W31 (Or.inl ne_x1_b4)
  replace Arv_t1 := Arv_t1.other W31 ne_t1_b4
  replace Exa_x2 := Exa_x2.wr W31
  replace F_value_x2 := F_value_x2.other W31 (Or.inl ne_x2_b4)
  replace F_coder_x2 := F_coder_x2.other W31 (Or.inl ne_x2_b4)
  replace Arv_t2 := Arv_t2.other W31 ne_t2_b4
  replace Exa_x3 := Exa_x3.wr W31
  replace F_value_x3 := F_value_x3.other W31 (Or.inl ne_x3_b4)
  replace F_coder_x3 := F_coder_x3.other W31 (Or.inl ne_x3_b4)
  replace Arv_t3 := Arv_t3.other W31 ne_t3_b4
  have O31 := O30.wr W31 ge_b4
  have K31 := K30.wr W31 (Or.inr fr_b4)
  have N31 := Fr.snoc X31 N30 ge_b4
  clear st31 W31 hin31 Fi31 Ha31 Ng31 Sz31 q31 Ar31 cl31 sfw31
  clear O30 K30 N30 HC30 hk30 X30 e30
  show GlW Z consts_1 p e below s _ _ _ T31 (mkF m 202 #[.val (.int p1), .val (.int p2), .val (.int p3), .val (.int (p1 &&& (255 : Int32))), .val (.int (p2 &&& (255 : Int32))), .val (.int (p3 &&& (255 : Int32))), .val (.ref x1), .val (.ref x2), .val (.ref x3), .unset, .unset, .unset] [(.ref b4)])
  refine GlW.st (fun _ kk => XS.dup X31.here hx rfl (hb hby at_202) rfl rfl kk) ?_
  show GlW Z consts_1 p e below s _ _ _ T31 (mkF m 203 #[.val (.int p1), .val (.int p2), .val (.int p3), .val (.int (p1 &&& (255 : Int32))), .val (.int (p2 &&& (255 : Int32))), .val (.int (p3 &&& (255 : Int32))), .val (.ref x1), .val (.ref x2), .val (.ref x3), .unset, .unset, .unset] [(.ref b4), (.ref b4)])
  refine GlW.st (fun _ kk => XS.bipush X31.here hx rfl (hb hby at_203) kk) ?_
  show GlW Z consts_1 p e below s _ _ _ T31 (mkF m 205 #[.val (.int p1), .val (.int p2), .val (.int p3), .val (.int (p1 &&& (255 : Int32))), .val (.int (p2 &&& (255 : Int32))), .val (.int (p3 &&& (255 : Int32))), .val (.ref x1), .val (.ref x2), .val (.ref x3), .unset, .unset, .unset] [(.int (27 : Int32)), (.ref b4), (.ref b4)])
  refine GlW.st (fun _ kk => XS.bipush X31.here hx rfl (hb hby at_205) kk) ?_
  show GlW Z consts_1 p e below s _ _ _ T31 (mkF m 207 #[.val (.int p1), .val (.int p2), .val (.int p3), .val (.int (p1 &&& (255 : Int32))), .val (.int (p2 &&& (255 : Int32))), .val (.int (p3 &&& (255 : Int32))), .val (.ref x1), .val (.ref x2), .val (.ref x3), .unset, .unset, .unset] [(.int (41 : Int32)), (.int (27 : Int32)), (.ref b4), (.ref b4)])
  obtain ⟨cl32, Ar32, q32, Sz32, Ng32, Ha32, Fi32⟩ := id Arv_b4
  have hin32 : ¬ ((27 : Int32) < 0 ∨ cl32.slots.size ≤ ((27 : Int32)).toNatClampNeg) := inb_of Sz32 ⟨by decide, by decide⟩
  obtain ⟨T32, h32, X32, e32, W32, st32⟩ := stC X31 hx hZ e31 Ar32 (j := (27 : Int32)) hin32 (g := (mkF m 207 #[.val (.int p1), .val (.int p2), .val (.int p3), .val (.int (p1 &&& (255 : Int32))), .val (.int (p2 &&& (255 : Int32))), .val (.int (p3 &&& (255 : Int32))), .val (.ref x1), .val (.ref x2), .val (.ref x3), .unset, .unset, .unset] [(.int (41 : Int32)), (.int (27 : Int32)), (.ref b4), (.ref b4)])) rfl rfl (hb hby at_207)
  refine GlW.st st32 ?_
  replace Arv_b4 : Arv Z h32 b4 ka4 .char (28 : Int32) [(.int (68 : Int32)), (.int (69 : Int32)), (.int (76 : Int32)), (.int (69 : Int32)), (.int (84 : Int32)), (.int (69 : Int32)), (.int (32 : Int32)), (.int (70 : Int32)), (.int (82 : Int32)), (.int (79 : Int32)), (.int (77 : Int32)), (.int (32 : Int32)), (.int (p1 &&& (255 : Int32))), (.int (32 : Int32)), (.int (87 : Int32)), (.int (72 : Int32)), (.int (69 : Int32)), (.int (82 : Int32)), (.int (69 : Int32)), (.int (32 : Int32)), (.int (p2 &&& (255 : Int32))), (.int (32 : Int32)), (.int (73 : Int32)), (.int (78 : Int32)), (.int (32 : Int32)), (.int (40 : Int32)), (.int (p3 &&& (255 : Int32))), (.int (41 : Int32))] (.int (0 : Int32)) := Arv.set Ar32 q32 Sz32 Ng32 Ha32 Fi32 (fits_nar_char _) W32 27 rfl (Nat.le_of_ble_eq_true rfl)
  have sfw32 := (show Safe Z consts_1 s.vm h31 b4 from Safe.arr hZ.alike Ar32 (by decide))
  have HC32 := HC31.trans (CHr.wr W32 sfw32 HC31.1)
  have hk32 := Nat.le_trans hk31 (Nat.le_of_eq W32.size.symm)
  replace Exa_x1 := Exa_x1.wr W32
  replace F_value_x1 := F_value_x1.other W32 (Or.inl ne_x1_b4)
  replace F_coder_x1 := F_coder_x1.other W32 (Or.inl ne_x1_b4)
  replace Arv_t1 := Arv_t1.other W32 ne_t1_b4
  replace Exa_x2 := Exa_x2.wr W32
  replace F_value_x2 := F_value_x2.other W32 (Or.inl ne_x2_b4)
  replace F_coder_x2 := F_coder_x2.other W32 (Or.inl ne_x2_b4)
  replace Arv_t2 := Arv_t2.other W32 ne_t2_b4
  replace Exa_x3 := Exa_x3.wr W32
  replace F_value_x3 := F_value_x3.other W32 (Or.inl ne_x3_b4)
  replace F_coder_x3 := F_coder_x3.other W32 (Or.inl ne_x3_b4)
  replace Arv_t3 := Arv_t3.other W32 ne_t3_b4
  have O32 := O31.wr W32 ge_b4
  have K32 := K31.wr W32 (Or.inr fr_b4)
  have N32 := Fr.snoc X32 N31 ge_b4
  clear st32 W32 hin32 Fi32 Ha32 Ng32 Sz32 q32 Ar32 cl32 sfw32
  clear O31 K31 N31 HC31 hk31 X31 e31
  show GlW Z consts_1 p e below s _ _ _ T32 (mkF m 208 #[.val (.int p1), .val (.int p2), .val (.int p3), .val (.int (p1 &&& (255 : Int32))), .val (.int (p2 &&& (255 : Int32))), .val (.int (p3 &&& (255 : Int32))), .val (.ref x1), .val (.ref x2), .val (.ref x3), .unset, .unset, .unset] [(.ref b4)])
  refine GlW.st (fun _ kk => XS.astore X32.here hx rfl (hb hby at_208) rfl rfl (l' := #[.val (.int p1), .val (.int p2), .val (.int p3), .val (.int (p1 &&& (255 : Int32))), .val (.int (p2 &&& (255 : Int32))), .val (.int (p3 &&& (255 : Int32))), .val (.ref x1), .val (.ref x2), .val (.ref x3), .val (.ref b4), .unset, .unset]) rfl kk) ?_
  show GlW Z consts_1 p e below s _ _ _ T32 (mkF m 210 #[.val (.int p1), .val (.int p2), .val (.int p3), .val (.int (p1 &&& (255 : Int32))), .val (.int (p2 &&& (255 : Int32))), .val (.int (p3 &&& (255 : Int32))), .val (.ref x1), .val (.ref x2), .val (.ref x3), .val (.ref b4), .unset, .unset] [])
  obtain ⟨T33, h33, X33, e33, E33, A33, D33, V33, st33⟩ := newO X32 hx hZ hown (hw _ (List.mem_of_getElem? (i := 27) rfl)) (hw _ (List.mem_of_getElem? (i := 28) rfl)) (hw _ (List.mem_of_getElem? (i := 29) rfl)) e32 (g := (mkF m 210 #[.val (.int p1), .val (.int p2), .val (.int p3), .val (.int (p1 &&& (255 : Int32))), .val (.int (p2 &&& (255 : Int32))), .val (.int (p3 &&& (255 : Int32))), .val (.ref x1), .val (.ref x2), .val (.ref x3), .val (.ref b4), .unset, .unset] [])) rfl (hb hby at_210) (by decide) (by decide)
  obtain ⟨b33, g33⟩ : ∃ z, z = h32.size := ⟨_, rfl⟩
  rw [← g33] at A33 D33 V33 st33
  refine GlW.st st33 ?_
  have ne_b4_b33 : b4 ≠ b33 := Nat.ne_of_lt (Nat.lt_of_lt_of_eq Arv_b4.lt g33.symm)
  have ne_t1_b33 : t1 ≠ b33 := Nat.ne_of_lt (Nat.lt_of_lt_of_eq Arv_t1.lt g33.symm)
  have ne_t2_b33 : t2 ≠ b33 := Nat.ne_of_lt (Nat.lt_of_lt_of_eq Arv_t2.lt g33.symm)
  have ne_t3_b33 : t3 ≠ b33 := Nat.ne_of_lt (Nat.lt_of_lt_of_eq Arv_t3.lt g33.symm)
  have ne_x1_b33 : x1 ≠ b33 := Nat.ne_of_lt (Nat.lt_of_lt_of_eq Exa_x1.lt g33.symm)
  have ne_x2_b33 : x2 ≠ b33 := Nat.ne_of_lt (Nat.lt_of_lt_of_eq Exa_x2.lt g33.symm)
  have ne_x3_b33 : x3 ≠ b33 := Nat.ne_of_lt (Nat.lt_of_lt_of_eq Exa_x3.lt g33.symm)
  have ge_b33 : n0 ≤ b33 := Nat.le_trans (Nat.le_trans (Nat.le_of_eq O32.1.symm) O32.2.1) (Nat.le_of_eq g33.symm)
  have fr_b33 : h0.size ≤ b33 := Nat.le_trans K32.1 (Nat.le_of_eq g33.symm)
  have HC33 := HC32.trans (CHr.ext E33 HC32.1)
  have hk33 := Nat.le_trans hk32 E33.1
  replace Exa_x1 := Exa_x1.ext E33
  replace F_value_x1 := F_value_x1.ext E33
  replace F_coder_x1 := F_coder_x1.ext E33
  replace Arv_t1 := Arv_t1.ext E33
  replace Exa_x2 := Exa_x2.ext E33
  replace F_value_x2 := F_value_x2.ext E33
  replace F_coder_x2 := F_coder_x2.ext E33
  replace Arv_t2 := Arv_t2.ext E33
  replace Exa_x3 := Exa_x3.ext E33
  replace F_value_x3 := F_value_x3.ext E33
  replace F_coder_x3 := F_coder_x3.ext E33
  replace Arv_t3 := Arv_t3.ext E33
  replace Arv_b4 := Arv_b4.ext E33
  have O33 := O32.ext E33
  have K33 := K32.ext E33
  have Exa_b33 := A33
  have F_table_b33 : Fld Z h33 b33 "com/example/tender/tender/store/PropertyTable" "table" "Ljava/lang/String;" .null := D33 (Or.inr (hw _ (List.mem_of_getElem? (i := 35) rfl))) (ty := (.object "java/lang/String")) (by decide)
  have F_ownerColumn_b33 : Fld Z h33 b33 "com/example/tender/tender/store/PropertyTable" "ownerColumn" "Ljava/lang/String;" .null := D33 (Or.inr (hw _ (List.mem_of_getElem? (i := 37) rfl))) (ty := (.object "java/lang/String")) (by decide)
  show GlW Z consts_1 p e below s _ _ _ T33 (mkF m 213 #[.val (.int p1), .val (.int p2), .val (.int p3), .val (.int (p1 &&& (255 : Int32))), .val (.int (p2 &&& (255 : Int32))), .val (.int (p3 &&& (255 : Int32))), .val (.ref x1), .val (.ref x2), .val (.ref x3), .val (.ref b4), .unset, .unset] [(.ref b33)])
  refine GlW.st (fun _ kk => XS.dup X33.here hx rfl (hb hby at_213) rfl rfl kk) ?_
  show GlW Z consts_1 p e below s _ _ _ T33 (mkF m 214 #[.val (.int p1), .val (.int p2), .val (.int p3), .val (.int (p1 &&& (255 : Int32))), .val (.int (p2 &&& (255 : Int32))), .val (.int (p3 &&& (255 : Int32))), .val (.ref x1), .val (.ref x2), .val (.ref x3), .val (.ref b4), .unset, .unset] [(.ref b33), (.ref b33)])
  refine GlW.st (fun _ kk => XS.aload X33.here hx rfl (hb hby at_214) rfl rfl kk) ?_
  show GlW Z consts_1 p e below s _ _ _ T33 (mkF m 216 #[.val (.int p1), .val (.int p2), .val (.int p3), .val (.int (p1 &&& (255 : Int32))), .val (.int (p2 &&& (255 : Int32))), .val (.int (p3 &&& (255 : Int32))), .val (.ref x1), .val (.ref x2), .val (.ref x3), .val (.ref b4), .unset, .unset] [(.ref x1), (.ref b33), (.ref b33)])
  refine GlW.st (fun _ kk => XS.aload X33.here hx rfl (hb hby at_216) rfl rfl kk) ?_
  show GlW Z consts_1 p e below s _ _ _ T33 (mkF m 218 #[.val (.int p1), .val (.int p2), .val (.int p3), .val (.int (p1 &&& (255 : Int32))), .val (.int (p2 &&& (255 : Int32))), .val (.int (p3 &&& (255 : Int32))), .val (.ref x1), .val (.ref x2), .val (.ref x3), .val (.ref b4), .unset, .unset] [(.ref x2), (.ref x1), (.ref b33), (.ref b33)])
  obtain ⟨v34, _, ⟨T34, L34, kQ34, nQ34⟩, -, X34, ⟨Lc34, hQ34, l34, y34, z34⟩, st34⟩ := X33.specialBack hx (y := (⟨"com/example/tender/tender/store/PropertyTable", "<init>", "(Ljava/lang/String;Ljava/lang/String;)V"⟩ : MethodName)) rfl hown (mvT hZ (hw _ (List.mem_of_getElem? (i := 30) rfl))) (mvT hZ (hw _ (List.mem_of_getElem? (i := 31) rfl))) (mvT hZ (hw _ (List.mem_of_getElem? (i := 32) rfl))) (by decide) (backOf (W := 1) (rmPT l Z a0 hw [] b33 x1 x2 h33 n0 O33 Exa_b33 F_table_b33 F_ownerColumn_b33 ge_b33) hZ (hw _ (List.mem_of_getElem? (i := 32) rfl)) (hw _ (List.mem_of_getElem? (i := 29) rfl)) (by decide) (by decide)) (g := (mkF m 218 #[.val (.int p1), .val (.int p2), .val (.int p3), .val (.int (p1 &&& (255 : Int32))), .val (.int (p2 &&& (255 : Int32))), .val (.int (p3 &&& (255 : Int32))), .val (.ref x1), .val (.ref x2), .val (.ref x3), .val (.ref b4), .unset, .unset] [(.ref x2), (.ref x1), (.ref b33), (.ref b33)])) rfl (by rw [hml]; rfl) (Steps.refl _) (a := b33) (argsL := [(.ref x1), (.ref x2)]) (rest := [(.ref b33)]) (lenOf pd_rm0_1 rfl) rfl (by show 2 * 0 + _ ≤ _; exact Nat.le_of_eq rfl) (hb hby at_218) (fun _ _ => ⟨rfl, e33, (by decide : 8 + 0 ≤ _), (by decide : 45 + 0 ≤ _)⟩)
  dsimp only [Pt.U, Pt.locs, Pt.cells, Pt.slots] at X34 l34 y34 z34 st34 hQ34
  subst y34 z34
  obtain ⟨h34, e34⟩ : ∃ z, T34.heap = z := ⟨_, rfl⟩
  rw [e34] at hQ34
  obtain ⟨rfl, Nq34, Kq34, Ft34, Fo34⟩ := hQ34
  have N34 : Fr n0 L34 := l34 ▸ Fr.app N32 Nq34
  refine GlW.st (fun _ kk => st34.trans kk) ?_
  have sfk34 : ∀ x ∈ [b33], Safe Z consts_1 _ _ x := (allS (Safe.exa hZ.alike Exa_b33 (by decide) (by decide)) all0)
  have HC34 := HC33.trans (CHr.keep Kq34 sfk34 HC33.1)
  have hk34 := Nat.le_trans hk33 Kq34.1
  replace Exa_x1 := Exa_x1.keep Kq34
  replace F_value_x1 := F_value_x1.keep Kq34 (ninS ne_x1_b33 nin0)
  replace F_coder_x1 := F_coder_x1.keep Kq34 (ninS ne_x1_b33 nin0)
  replace Arv_t1 := Arv_t1.keep Kq34 (ninS ne_t1_b33 nin0)
  replace Exa_x2 := Exa_x2.keep Kq34
  replace F_value_x2 := F_value_x2.keep Kq34 (ninS ne_x2_b33 nin0)
  replace F_coder_x2 := F_coder_x2.keep Kq34 (ninS ne_x2_b33 nin0)
  replace Arv_t2 := Arv_t2.keep Kq34 (ninS ne_t2_b33 nin0)
  replace Exa_x3 := Exa_x3.keep Kq34
  replace F_value_x3 := F_value_x3.keep Kq34 (ninS ne_x3_b33 nin0)
  replace F_coder_x3 := F_coder_x3.keep Kq34 (ninS ne_x3_b33 nin0)
  replace Arv_t3 := Arv_t3.keep Kq34 (ninS ne_t3_b33 nin0)
  replace Arv_b4 := Arv_b4.keep Kq34 (ninS ne_b4_b33 nin0)
  replace Exa_b33 := Exa_b33.keep Kq34
  have O34 := O33.keep Kq34 (allS ge_b33 all0)
  have K34 := K33.trans Kq34 (allS (Or.inr fr_b33) all0)
  have F_table_b33 := Ft34
  have F_ownerColumn_b33 := Fo34
  clear st34
  clear O33 K33 N32 HC33 hk33 X33 e33
  show GlW Z consts_1 p e below s _ _ _ T34 (mkF m 221 #[.val (.int p1), .val (.int p2), .val (.int p3), .val (.int (p1 &&& (255 : Int32))), .val (.int (p2 &&& (255 : Int32))), .val (.int (p3 &&& (255 : Int32))), .val (.ref x1), .val (.ref x2), .val (.ref x3), .val (.ref b4), .unset, .unset] [(.ref b33)])
  refine GlW.st (fun _ kk => XS.astore X34.here hx rfl (hb hby at_221) rfl rfl (l' := #[.val (.int p1), .val (.int p2), .val (.int p3), .val (.int (p1 &&& (255 : Int32))), .val (.int (p2 &&& (255 : Int32))), .val (.int (p3 &&& (255 : Int32))), .val (.ref x1), .val (.ref x2), .val (.ref x3), .val (.ref b4), .val (.ref b33), .unset]) rfl kk) ?_
  show GlW Z consts_1 p e below s _ _ _ T34 (mkF m 223 #[.val (.int p1), .val (.int p2), .val (.int p3), .val (.int (p1 &&& (255 : Int32))), .val (.int (p2 &&& (255 : Int32))), .val (.int (p3 &&& (255 : Int32))), .val (.ref x1), .val (.ref x2), .val (.ref x3), .val (.ref b4), .val (.ref b33), .unset] [])
  refine GlW.st (fun _ kk => XS.aload X34.here hx rfl (hb hby at_223) rfl rfl kk) ?_
  show GlW Z consts_1 p e below s _ _ _ T34 (mkF m 225 #[.val (.int p1), .val (.int p2), .val (.int p3), .val (.int (p1 &&& (255 : Int32))), .val (.int (p2 &&& (255 : Int32))), .val (.int (p3 &&& (255 : Int32))), .val (.ref x1), .val (.ref x2), .val (.ref x3), .val (.ref b4), .val (.ref b33), .unset] [(.ref b33)])
  refine GlW.st (fun _ kk => XS.aload X34.here hx rfl (hb hby at_225) rfl rfl kk) ?_
  show GlW Z consts_1 p e below s _ _ _ T34 (mkF m 227 #[.val (.int p1), .val (.int p2), .val (.int p3), .val (.int (p1 &&& (255 : Int32))), .val (.int (p2 &&& (255 : Int32))), .val (.int (p3 &&& (255 : Int32))), .val (.ref x1), .val (.ref x2), .val (.ref x3), .val (.ref b4), .val (.ref b33), .unset] [(.ref x3), (.ref b33)])
  obtain ⟨cq35, kq35, qa35, qb35, qc35⟩ := isOf (s := s.setVm s.vm) hZ e34 Exa_b33
  obtain ⟨v35, _, ⟨T35, L35, kQ35, nQ35⟩, -, X35, hSq35, hgq35, ⟨Lc35, hQ35, l35, y35, z35, HR35⟩, st35⟩ := X34.virtualBackS hx (y := (⟨"com/example/tender/tender/store/PropertyTable", "deleteOwnedBy", "(Ljava/lang/String;)Ljava/lang/String;"⟩ : MethodName)) (z := (⟨"com/example/tender/tender/store/PropertyTable", "deleteOwnedBy", "(Ljava/lang/String;)Ljava/lang/String;"⟩ : MethodName)) hown (mvT hZ (hw _ (List.mem_of_getElem? (i := 38) rfl))) (mvT hZ (hw _ (List.mem_of_getElem? (i := 39) rfl))) (notFace_of_selects (args := #[]) (mvT hZ (hw _ (List.mem_of_getElem? (i := 41) rfl)))) (mvT hZ (hw _ (List.mem_of_getElem? (i := 41) rfl))) (mvT hZ (hw _ (List.mem_of_getElem? (i := 40) rfl))) (by decide) (backOfSH (W := 0) (rmDO l Z a0 hw [] b33 x3 x1 x2 t1 t2 t3 k1 k2 k3 ((p1 &&& (255 : Int32)).toInt8.toInt32) ((p2 &&& (255 : Int32)).toInt8.toInt32) ((p3 &&& (255 : Int32)).toInt8.toInt32) cz h34 n0 O34 Exa_b33 F_table_b33 F_ownerColumn_b33 Exa_x1 F_value_x1 F_coder_x1 Arv_t1 Exa_x2 F_value_x2 F_coder_x2 Arv_t2 Exa_x3 F_value_x3 F_coder_x3 Arv_t3 S_COMPACT hcz) hZ (hw _ (List.mem_of_getElem? (i := 42) rfl)) (hw _ (List.mem_of_getElem? (i := 29) rfl)) (by decide) (by decide) hEL HC34.1) qa35 qc35 (g := (mkF m 227 #[.val (.int p1), .val (.int p2), .val (.int p3), .val (.int (p1 &&& (255 : Int32))), .val (.int (p2 &&& (255 : Int32))), .val (.int (p3 &&& (255 : Int32))), .val (.ref x1), .val (.ref x2), .val (.ref x3), .val (.ref b4), .val (.ref b33), .unset] [(.ref x3), (.ref b33)])) rfl (by rw [hml]; rfl) (Steps.refl _) (argsL := [(.ref x3)]) (rest := []) (lenOf pd_rm0_2 rfl) rfl (by show 2 * 0 + _ ≤ _; exact Nat.le_of_eq rfl) (hb hby at_227) (fun _ _ => ⟨rfl, e34, (by decide : 8 + 13 ≤ _), (by decide : 45 + 202 ≤ _)⟩)
  dsimp only [Pt.U, Pt.locs, Pt.cells, Pt.slots] at X35 l35 y35 z35 st35 hQ35 hSq35 hgq35 HR35
  subst y35 z35
  obtain ⟨h35, e35⟩ : ∃ z, T35.heap = z := ⟨_, rfl⟩
  rw [e35] at hQ35 HR35 hSq35 hgq35
  obtain ⟨r35, tt35, kt35, rfl, Nq35, Kq35, Exa_r35, F_value_r35, F_coder_r35, Arv_tt35⟩ := hQ35
  rw [e34] at hgq35
  have hS35 := (hS0).trans hSq35 (Nat.le_trans hk34 hgq35)
  have hk35 := Nat.le_refl h35.size
  have hZ35 : Z.Warmed39 T35.vm := State.Warmed39.trans (t := s.setVm s.vm) hZ hSq35.1
  have hown35 : T35.vm.findClass "com/example/tender/tender/store/PropertyTableDeleteOwnedByPinLaw" = some m.cls := by rw [hSq35.1.alike.findClass]; exact hown
  have HC35 := HC34.trans HR35
  have hZ := hZ35
  have hown := hown35
  have N35 : Fr n0 L35 := l35 ▸ Fr.app N34 Nq35
  refine GlW.st (fun _ kk => st35.trans kk) ?_
  replace Exa_x1 := Exa_x1.keep Kq35
  replace F_value_x1 := F_value_x1.keep Kq35 nin0
  replace F_coder_x1 := F_coder_x1.keep Kq35 nin0
  replace Arv_t1 := Arv_t1.keep Kq35 nin0
  replace Exa_x2 := Exa_x2.keep Kq35
  replace F_value_x2 := F_value_x2.keep Kq35 nin0
  replace F_coder_x2 := F_coder_x2.keep Kq35 nin0
  replace Arv_t2 := Arv_t2.keep Kq35 nin0
  replace Exa_x3 := Exa_x3.keep Kq35
  replace F_value_x3 := F_value_x3.keep Kq35 nin0
  replace F_coder_x3 := F_coder_x3.keep Kq35 nin0
  replace Arv_t3 := Arv_t3.keep Kq35 nin0
  replace Arv_b4 := Arv_b4.keep Kq35 nin0
  replace Exa_b33 := Exa_b33.keep Kq35
  replace F_table_b33 := F_table_b33.keep Kq35 nin0
  replace F_ownerColumn_b33 := F_ownerColumn_b33.keep Kq35 nin0
  have O35 := O34.keep Kq35 all0
  have K35 := K34.trans Kq35 all0
  clear st35 qc35 qb35 qa35 kq35 cq35 HR35
  clear O34 K34 N34 HC34 hk34 X34 e34
  show GlW Z consts_1 p e below s _ _ _ T35 (mkF m 230 #[.val (.int p1), .val (.int p2), .val (.int p3), .val (.int (p1 &&& (255 : Int32))), .val (.int (p2 &&& (255 : Int32))), .val (.int (p3 &&& (255 : Int32))), .val (.ref x1), .val (.ref x2), .val (.ref x3), .val (.ref b4), .val (.ref b33), .unset] [(.ref r35)])
  refine GlW.st (fun _ kk => XS.astore X35.here hx rfl (hb hby at_230) rfl rfl (l' := #[.val (.int p1), .val (.int p2), .val (.int p3), .val (.int (p1 &&& (255 : Int32))), .val (.int (p2 &&& (255 : Int32))), .val (.int (p3 &&& (255 : Int32))), .val (.ref x1), .val (.ref x2), .val (.ref x3), .val (.ref b4), .val (.ref b33), .val (.ref r35)]) rfl kk) ?_
  show GlW Z consts_1 p e below s _ _ _ T35 (mkF m 232 #[.val (.int p1), .val (.int p2), .val (.int p3), .val (.int (p1 &&& (255 : Int32))), .val (.int (p2 &&& (255 : Int32))), .val (.int (p3 &&& (255 : Int32))), .val (.ref x1), .val (.ref x2), .val (.ref x3), .val (.ref b4), .val (.ref b33), .val (.ref r35)] [])
  refine GlW.st (fun _ kk => XS.aload X35.here hx rfl (hb hby at_232) rfl rfl kk) ?_
  show GlW Z consts_1 p e below s _ _ _ T35 (mkF m 234 #[.val (.int p1), .val (.int p2), .val (.int p3), .val (.int (p1 &&& (255 : Int32))), .val (.int (p2 &&& (255 : Int32))), .val (.int (p3 &&& (255 : Int32))), .val (.ref x1), .val (.ref x2), .val (.ref x3), .val (.ref b4), .val (.ref b33), .val (.ref r35)] [(.ref r35)])
  refine GlW.st (fun _ kk => XS.ifnullNo X35.here hx rfl (hb hby at_234) rfl kk) ?_
  show GlW Z consts_1 p e below s _ _ _ T35 (mkF m 237 #[.val (.int p1), .val (.int p2), .val (.int p3), .val (.int (p1 &&& (255 : Int32))), .val (.int (p2 &&& (255 : Int32))), .val (.int (p3 &&& (255 : Int32))), .val (.ref x1), .val (.ref x2), .val (.ref x3), .val (.ref b4), .val (.ref b33), .val (.ref r35)] [])
  refine GlW.st (fun _ kk => XS.aload X35.here hx rfl (hb hby at_237) rfl rfl kk) ?_
  show GlW Z consts_1 p e below s _ _ _ T35 (mkF m 239 #[.val (.int p1), .val (.int p2), .val (.int p3), .val (.int (p1 &&& (255 : Int32))), .val (.int (p2 &&& (255 : Int32))), .val (.int (p3 &&& (255 : Int32))), .val (.ref x1), .val (.ref x2), .val (.ref x3), .val (.ref b4), .val (.ref b33), .val (.ref r35)] [(.ref r35)])
  obtain ⟨cq36, kq36, qa36, qb36, qc36⟩ := isOf (s := s.setVm T35.vm) hZ e35 Exa_r35
  obtain ⟨v36, _, ⟨T36, L36, kQ36, nQ36⟩, -, X36, ⟨Lc36, hQ36, l36, y36, z36⟩, st36⟩ := X35.virtualBack hx (y := (⟨"java/lang/String", "length", "()I"⟩ : MethodName)) (z := (⟨"java/lang/String", "length", "()I"⟩ : MethodName)) hown (mvT hZ (hw _ (List.mem_of_getElem? (i := 176) rfl))) (mvT hZ (hw _ (List.mem_of_getElem? (i := 75) rfl))) (notFace_of_selects (args := #[]) (mvT hZ (hw _ (List.mem_of_getElem? (i := 77) rfl)))) (mvT hZ (hw _ (List.mem_of_getElem? (i := 77) rfl))) (mvT hZ (hw _ (List.mem_of_getElem? (i := 76) rfl))) (by decide) (backOf (W := 0) (rmLN l Z a0 hw [] r35 tt35 kt35 (28 : Int32) [(.int (68 : Int32)), (.int (69 : Int32)), (.int (76 : Int32)), (.int (69 : Int32)), (.int (84 : Int32)), (.int (69 : Int32)), (.int (32 : Int32)), (.int (70 : Int32)), (.int (82 : Int32)), (.int (79 : Int32)), (.int (77 : Int32)), (.int (32 : Int32)), (.int ((p1 &&& (255 : Int32)).toInt8.toInt32)), (.int (32 : Int32)), (.int (87 : Int32)), (.int (72 : Int32)), (.int (69 : Int32)), (.int (82 : Int32)), (.int (69 : Int32)), (.int (32 : Int32)), (.int ((p2 &&& (255 : Int32)).toInt8.toInt32)), (.int (32 : Int32)), (.int (73 : Int32)), (.int (78 : Int32)), (.int (32 : Int32)), (.int (40 : Int32)), (.int ((p3 &&& (255 : Int32)).toInt8.toInt32)), (.int (41 : Int32))] cz h35 n0 O35 Exa_r35 F_value_r35 F_coder_r35 Arv_tt35 S_COMPACT hcz) hZ (hw _ (List.mem_of_getElem? (i := 78) rfl)) (hw _ (List.mem_of_getElem? (i := 2) rfl)) (by decide) (by decide)) qa36 qc36 (g := (mkF m 239 #[.val (.int p1), .val (.int p2), .val (.int p3), .val (.int (p1 &&& (255 : Int32))), .val (.int (p2 &&& (255 : Int32))), .val (.int (p3 &&& (255 : Int32))), .val (.ref x1), .val (.ref x2), .val (.ref x3), .val (.ref b4), .val (.ref b33), .val (.ref r35)] [(.ref r35)])) rfl (by rw [hml]; rfl) (Steps.refl _) (argsL := []) (rest := []) (lenOf pd_rm0_3 rfl) rfl (by show 2 * 0 + _ ≤ _; exact Nat.le_of_eq rfl) (hb hby at_239) (fun _ _ => ⟨rfl, e35, (by decide : 21 + 0 ≤ _), (by decide : 247 + 0 ≤ _)⟩)
  dsimp only [Pt.U, Pt.locs, Pt.cells, Pt.slots] at X36 l36 y36 z36 st36 hQ36
  subst y36 z36
  obtain ⟨rfl, Nq36, e36⟩ := hQ36
  have N36 : Fr n0 L36 := l36 ▸ Fr.app N35 Nq36
  refine GlW.st (fun _ kk => st36.trans kk) ?_
  clear st36 qc36 qb36 qa36 kq36 cq36
  clear N35 X35 e35
  show GlW Z consts_1 p e below s _ _ _ T36 (mkF m 242 #[.val (.int p1), .val (.int p2), .val (.int p3), .val (.int (p1 &&& (255 : Int32))), .val (.int (p2 &&& (255 : Int32))), .val (.int (p3 &&& (255 : Int32))), .val (.ref x1), .val (.ref x2), .val (.ref x3), .val (.ref b4), .val (.ref b33), .val (.ref r35)] [(.int (28 : Int32))])
  refine GlW.st (fun _ kk => XS.bipush X36.here hx rfl (hb hby at_242) kk) ?_
  show GlW Z consts_1 p e below s _ _ _ T36 (mkF m 244 #[.val (.int p1), .val (.int p2), .val (.int p3), .val (.int (p1 &&& (255 : Int32))), .val (.int (p2 &&& (255 : Int32))), .val (.int (p3 &&& (255 : Int32))), .val (.ref x1), .val (.ref x2), .val (.ref x3), .val (.ref b4), .val (.ref b33), .val (.ref r35)] [(.int (28 : Int32)), (.int (28 : Int32))])
  refine GlW.st (fun _ kk => XS.icmpNo X36.here hx rfl (hb hby at_244) rfl (teq (by decide : (28 : Int32) = (28 : Int32))).2 kk) ?_
  show GlW Z consts_1 p e below s _ _ _ T36 (mkF m 247 #[.val (.int p1), .val (.int p2), .val (.int p3), .val (.int (p1 &&& (255 : Int32))), .val (.int (p2 &&& (255 : Int32))), .val (.int (p3 &&& (255 : Int32))), .val (.ref x1), .val (.ref x2), .val (.ref x3), .val (.ref b4), .val (.ref b33), .val (.ref r35)] [])
  obtain ⟨T37, h37, X37, e37, E37, A37, D37, V37, st37⟩ := newO X36 hx hZ hown (hw _ (List.mem_of_getElem? (i := 177) rfl)) (hw _ (List.mem_of_getElem? (i := 10) rfl)) (hw _ (List.mem_of_getElem? (i := 2) rfl)) e36 (g := (mkF m 247 #[.val (.int p1), .val (.int p2), .val (.int p3), .val (.int (p1 &&& (255 : Int32))), .val (.int (p2 &&& (255 : Int32))), .val (.int (p3 &&& (255 : Int32))), .val (.ref x1), .val (.ref x2), .val (.ref x3), .val (.ref b4), .val (.ref b33), .val (.ref r35)] [])) rfl (hb hby at_247) (by decide) (by decide)
  obtain ⟨b37, g37⟩ : ∃ z, z = h35.size := ⟨_, rfl⟩
  rw [← g37] at A37 D37 V37 st37
  refine GlW.st st37 ?_
  have ne_b33_b37 : b33 ≠ b37 := Nat.ne_of_lt (Nat.lt_of_lt_of_eq Exa_b33.lt g37.symm)
  have ne_b4_b37 : b4 ≠ b37 := Nat.ne_of_lt (Nat.lt_of_lt_of_eq Arv_b4.lt g37.symm)
  have ne_r35_b37 : r35 ≠ b37 := Nat.ne_of_lt (Nat.lt_of_lt_of_eq Exa_r35.lt g37.symm)
  have ne_t1_b37 : t1 ≠ b37 := Nat.ne_of_lt (Nat.lt_of_lt_of_eq Arv_t1.lt g37.symm)
  have ne_t2_b37 : t2 ≠ b37 := Nat.ne_of_lt (Nat.lt_of_lt_of_eq Arv_t2.lt g37.symm)
  have ne_t3_b37 : t3 ≠ b37 := Nat.ne_of_lt (Nat.lt_of_lt_of_eq Arv_t3.lt g37.symm)
  have ne_tt35_b37 : tt35 ≠ b37 := Nat.ne_of_lt (Nat.lt_of_lt_of_eq Arv_tt35.lt g37.symm)
  have ne_x1_b37 : x1 ≠ b37 := Nat.ne_of_lt (Nat.lt_of_lt_of_eq Exa_x1.lt g37.symm)
  have ne_x2_b37 : x2 ≠ b37 := Nat.ne_of_lt (Nat.lt_of_lt_of_eq Exa_x2.lt g37.symm)
  have ne_x3_b37 : x3 ≠ b37 := Nat.ne_of_lt (Nat.lt_of_lt_of_eq Exa_x3.lt g37.symm)
  have ge_b37 : n0 ≤ b37 := Nat.le_trans (Nat.le_trans (Nat.le_of_eq O35.1.symm) O35.2.1) (Nat.le_of_eq g37.symm)
  have fr_b37 : h0.size ≤ b37 := Nat.le_trans K35.1 (Nat.le_of_eq g37.symm)
  have Sf_b37 : Safe Z consts_1 T35.vm h35 b37 := Safe.new (Nat.le_of_eq g37.symm)
  replace Sf_b37 := Safe.ext E37 HC35.1 Sf_b37
  have HC37 := HC35.trans (CHr.ext E37 HC35.1)
  have hk37 := Nat.le_trans hk35 E37.1
  replace Exa_x1 := Exa_x1.ext E37
  replace F_value_x1 := F_value_x1.ext E37
  replace F_coder_x1 := F_coder_x1.ext E37
  replace Arv_t1 := Arv_t1.ext E37
  replace Exa_x2 := Exa_x2.ext E37
  replace F_value_x2 := F_value_x2.ext E37
  replace F_coder_x2 := F_coder_x2.ext E37
  replace Arv_t2 := Arv_t2.ext E37
  replace Exa_x3 := Exa_x3.ext E37
  replace F_value_x3 := F_value_x3.ext E37
  replace F_coder_x3 := F_coder_x3.ext E37
  replace Arv_t3 := Arv_t3.ext E37
  replace Arv_b4 := Arv_b4.ext E37
  replace Exa_b33 := Exa_b33.ext E37
  replace F_table_b33 := F_table_b33.ext E37
  replace F_ownerColumn_b33 := F_ownerColumn_b33.ext E37
  replace Exa_r35 := Exa_r35.ext E37
  replace F_value_r35 := F_value_r35.ext E37
  replace F_coder_r35 := F_coder_r35.ext E37
  replace Arv_tt35 := Arv_tt35.ext E37
  have O37 := O35.ext E37
  have K37 := K35.ext E37
  have Exa_b37 := A37
  have F_value_b37 : Fld Z h37 b37 "java/lang/String" "value" "[B" .null := D37 (Or.inr (hw _ (List.mem_of_getElem? (i := 23) rfl))) (ty := (.array .byte)) (by decide)
  have F_coder_b37 : Fld Z h37 b37 "java/lang/String" "coder" "B" (.int (0 : Int32)) := D37 (Or.inr (hw _ (List.mem_of_getElem? (i := 25) rfl))) (ty := .byte) (by decide)
  show GlW Z consts_1 p e below s _ _ _ T37 (mkF m 250 #[.val (.int p1), .val (.int p2), .val (.int p3), .val (.int (p1 &&& (255 : Int32))), .val (.int (p2 &&& (255 : Int32))), .val (.int (p3 &&& (255 : Int32))), .val (.ref x1), .val (.ref x2), .val (.ref x3), .val (.ref b4), .val (.ref b33), .val (.ref r35)] [(.ref b37)])
  refine GlW.st (fun _ kk => XS.dup X37.here hx rfl (hb hby at_250) rfl rfl kk) ?_
  show GlW Z consts_1 p e below s _ _ _ T37 (mkF m 251 #[.val (.int p1), .val (.int p2), .val (.int p3), .val (.int (p1 &&& (255 : Int32))), .val (.int (p2 &&& (255 : Int32))), .val (.int (p3 &&& (255 : Int32))), .val (.ref x1), .val (.ref x2), .val (.ref x3), .val (.ref b4), .val (.ref b33), .val (.ref r35)] [(.ref b37), (.ref b37)])
  refine GlW.st (fun _ kk => XS.aload X37.here hx rfl (hb hby at_251) rfl rfl kk) ?_
  show GlW Z consts_1 p e below s _ _ _ T37 (mkF m 253 #[.val (.int p1), .val (.int p2), .val (.int p3), .val (.int (p1 &&& (255 : Int32))), .val (.int (p2 &&& (255 : Int32))), .val (.int (p3 &&& (255 : Int32))), .val (.ref x1), .val (.ref x2), .val (.ref x3), .val (.ref b4), .val (.ref b33), .val (.ref r35)] [(.ref b4), (.ref b37), (.ref b37)])
  have hlat38 : ∀ c ∈ ([(68 : Int32), (69 : Int32), (76 : Int32), (69 : Int32), (84 : Int32), (69 : Int32), (32 : Int32), (70 : Int32), (82 : Int32), (79 : Int32), (77 : Int32), (32 : Int32), (p1 &&& (255 : Int32)), (32 : Int32), (87 : Int32), (72 : Int32), (69 : Int32), (82 : Int32), (69 : Int32), (32 : Int32), (p2 &&& (255 : Int32)), (32 : Int32), (73 : Int32), (78 : Int32), (32 : Int32), (40 : Int32), (p3 &&& (255 : Int32)), (41 : Int32)] : List Int32), ¬ c < 0 ∧ ¬ (255 : Int32) < c := by
    intro c hc
    simp only [List.mem_cons, List.not_mem_nil, or_false] at hc
    rcases hc with rfl | rfl | rfl | rfl | rfl | rfl | rfl | rfl | rfl | rfl | rfl | rfl | rfl | rfl | rfl | rfl | rfl | rfl | rfl | rfl | rfl | rfl | rfl | rfl | rfl | rfl | rfl | rfl
    · decide
    · decide
    · decide
    · decide
    · decide
    · decide
    · decide
    · decide
    · decide
    · decide
    · decide
    · decide
    · exact own_and255 _
    · decide
    · decide
    · decide
    · decide
    · decide
    · decide
    · decide
    · exact own_and255 _
    · decide
    · decide
    · decide
    · decide
    · decide
    · exact own_and255 _
    · decide
  obtain ⟨v39, _, ⟨T39, L39, kQ39, nQ39⟩, -, X39, ⟨Lc39, hQ39, l39, y39, z39⟩, st39⟩ := X37.specialBack hx (y := (⟨"java/lang/String", "<init>", "([C)V"⟩ : MethodName)) rfl hown (mvT hZ (hw _ (List.mem_of_getElem? (i := 178) rfl))) (mvT hZ (hw _ (List.mem_of_getElem? (i := 179) rfl))) (mvT hZ (hw _ (List.mem_of_getElem? (i := 180) rfl))) (by decide) (StrChars.Road.backV (W := 1) (s := (s.setVm T35.vm)) hZ hws (kI := 4) (hw _ (List.mem_of_getElem? (i := 10) rfl)) (cs := [(68 : Int32), (69 : Int32), (76 : Int32), (69 : Int32), (84 : Int32), (69 : Int32), (32 : Int32), (70 : Int32), (82 : Int32), (79 : Int32), (77 : Int32), (32 : Int32), (p1 &&& (255 : Int32)), (32 : Int32), (87 : Int32), (72 : Int32), (69 : Int32), (82 : Int32), (69 : Int32), (32 : Int32), (p2 &&& (255 : Int32)), (32 : Int32), (73 : Int32), (78 : Int32), (32 : Int32), (40 : Int32), (p3 &&& (255 : Int32)), (41 : Int32)]) (bs := [((68 : Int32)).toInt8.toInt32, ((69 : Int32)).toInt8.toInt32, ((76 : Int32)).toInt8.toInt32, ((69 : Int32)).toInt8.toInt32, ((84 : Int32)).toInt8.toInt32, ((69 : Int32)).toInt8.toInt32, ((32 : Int32)).toInt8.toInt32, ((70 : Int32)).toInt8.toInt32, ((82 : Int32)).toInt8.toInt32, ((79 : Int32)).toInt8.toInt32, ((77 : Int32)).toInt8.toInt32, ((32 : Int32)).toInt8.toInt32, ((p1 &&& (255 : Int32))).toInt8.toInt32, ((32 : Int32)).toInt8.toInt32, ((87 : Int32)).toInt8.toInt32, ((72 : Int32)).toInt8.toInt32, ((69 : Int32)).toInt8.toInt32, ((82 : Int32)).toInt8.toInt32, ((69 : Int32)).toInt8.toInt32, ((32 : Int32)).toInt8.toInt32, ((p2 &&& (255 : Int32))).toInt8.toInt32, ((32 : Int32)).toInt8.toInt32, ((73 : Int32)).toInt8.toInt32, ((78 : Int32)).toInt8.toInt32, ((32 : Int32)).toInt8.toInt32, ((40 : Int32)).toInt8.toInt32, ((p3 &&& (255 : Int32))).toInt8.toInt32, ((41 : Int32)).toInt8.toInt32]) (n := 28) ge_b37 (Nat.le_trans (Nat.le_of_eq O37.1.symm) O37.2.1) Exa_b37 F_value_b37 F_coder_b37 Arv_b4 (S_COMPACT.ext O37.2) hcz rfl rfl (by decide) (by decide) hlat38 rfl (by decide) (by decide)) (g := (mkF m 253 #[.val (.int p1), .val (.int p2), .val (.int p3), .val (.int (p1 &&& (255 : Int32))), .val (.int (p2 &&& (255 : Int32))), .val (.int (p3 &&& (255 : Int32))), .val (.ref x1), .val (.ref x2), .val (.ref x3), .val (.ref b4), .val (.ref b33), .val (.ref r35)] [(.ref b4), (.ref b37), (.ref b37)])) rfl (by rw [hml]; rfl) (Steps.refl _) (a := b37) (argsL := [(.ref b4)]) (rest := [(.ref b37)]) (lenOf pd_rm0_4 rfl) rfl (by show 2 * 0 + _ ≤ _; exact Nat.le_of_eq rfl) (hb hby at_253) (fun _ _ => ⟨rfl, e37, (by decide : 22 + 1 ≤ _), (by decide : 251 + 28 ≤ _)⟩)
  dsimp only [Pt.U, Pt.locs, Pt.cells, Pt.slots] at X39 l39 y39 z39 st39 hQ39
  subst y39 z39
  obtain ⟨h39, e39⟩ : ∃ z, T39.heap = z := ⟨_, rfl⟩
  rw [e39] at hQ39
  obtain ⟨rfl, Nq39, Kq39, Eq39, Cq39, t39, kb39, gt39, fr_t39, ne_t39, Fq39, Aq39⟩ := hQ39
  have N39 : Fr n0 L39 := l39 ▸ Fr.app N36 Nq39
  refine GlW.st (fun _ kk => st39.trans kk) ?_
  have sfk39 : ∀ x ∈ [b37], Safe Z consts_1 _ _ x := (allS Sf_b37 all0)
  replace Sf_b37 := Safe.keep Kq39 sfk39 HC37.1 Sf_b37
  have HC39 := HC37.trans (CHr.keep Kq39 sfk39 HC37.1)
  have hk39 := Nat.le_trans hk37 Kq39.1
  replace Exa_x1 := Exa_x1.keep Kq39
  replace F_value_x1 := F_value_x1.keep Kq39 (ninS ne_x1_b37 nin0)
  replace F_coder_x1 := F_coder_x1.keep Kq39 (ninS ne_x1_b37 nin0)
  replace Arv_t1 := Arv_t1.keep Kq39 (ninS ne_t1_b37 nin0)
  replace Exa_x2 := Exa_x2.keep Kq39
  replace F_value_x2 := F_value_x2.keep Kq39 (ninS ne_x2_b37 nin0)
  replace F_coder_x2 := F_coder_x2.keep Kq39 (ninS ne_x2_b37 nin0)
  replace Arv_t2 := Arv_t2.keep Kq39 (ninS ne_t2_b37 nin0)
  replace Exa_x3 := Exa_x3.keep Kq39
  replace F_value_x3 := F_value_x3.keep Kq39 (ninS ne_x3_b37 nin0)
  replace F_coder_x3 := F_coder_x3.keep Kq39 (ninS ne_x3_b37 nin0)
  replace Arv_t3 := Arv_t3.keep Kq39 (ninS ne_t3_b37 nin0)
  replace Arv_b4 := Arv_b4.keep Kq39 (ninS ne_b4_b37 nin0)
  replace Exa_b33 := Exa_b33.keep Kq39
  replace F_table_b33 := F_table_b33.keep Kq39 (ninS ne_b33_b37 nin0)
  replace F_ownerColumn_b33 := F_ownerColumn_b33.keep Kq39 (ninS ne_b33_b37 nin0)
  replace Exa_r35 := Exa_r35.keep Kq39
  replace F_value_r35 := F_value_r35.keep Kq39 (ninS ne_r35_b37 nin0)
  replace F_coder_r35 := F_coder_r35.keep Kq39 (ninS ne_r35_b37 nin0)
  replace Arv_tt35 := Arv_tt35.keep Kq39 (ninS ne_tt35_b37 nin0)
  replace Exa_b37 := Exa_b37.keep Kq39
  have O39 := O37.keep Kq39 (allS ge_b37 all0)
  have K39 := K37.trans Kq39 (allS (Or.inr fr_b37) all0)
  have F_coder_b37 := Cq39
  have F_value_b37 := Fq39
  have Arv_t39 := Aq39
  clear st39
  clear O37 K37 N36 HC37 hk37 X37 e37
  show GlW Z consts_1 p e below s _ _ _ T39 (mkF m 256 #[.val (.int p1), .val (.int p2), .val (.int p3), .val (.int (p1 &&& (255 : Int32))), .val (.int (p2 &&& (255 : Int32))), .val (.int (p3 &&& (255 : Int32))), .val (.ref x1), .val (.ref x2), .val (.ref x3), .val (.ref b4), .val (.ref b33), .val (.ref r35)] [(.ref b37)])
  refine GlW.st (fun _ kk => XS.aload X39.here hx rfl (hb hby at_256) rfl rfl kk) ?_
  show GlW Z consts_1 p e below s _ _ _ T39 (mkF m 258 #[.val (.int p1), .val (.int p2), .val (.int p3), .val (.int (p1 &&& (255 : Int32))), .val (.int (p2 &&& (255 : Int32))), .val (.int (p3 &&& (255 : Int32))), .val (.ref x1), .val (.ref x2), .val (.ref x3), .val (.ref b4), .val (.ref b33), .val (.ref r35)] [(.ref r35), (.ref b37)])
  obtain ⟨cq40, kq40, qa40, qb40, qc40⟩ := isOf (s := s.setVm T35.vm) hZ e39 Exa_b37
  obtain ⟨v40, _, ⟨T40, L40, kQ40, nQ40⟩, -, X40, ⟨Lc40, hQ40, l40, y40, z40⟩, st40⟩ := X39.virtualBack hx (y := (⟨"java/lang/String", "equals", "(Ljava/lang/Object;)Z"⟩ : MethodName)) (z := (⟨"java/lang/String", "equals", "(Ljava/lang/Object;)Z"⟩ : MethodName)) hown (mvT hZ (hw _ (List.mem_of_getElem? (i := 194) rfl))) (mvT hZ (hw _ (List.mem_of_getElem? (i := 195) rfl))) (notFace_of_selects (args := #[]) (mvT hZ (hw _ (List.mem_of_getElem? (i := 197) rfl)))) (mvT hZ (hw _ (List.mem_of_getElem? (i := 197) rfl))) (mvT hZ (hw _ (List.mem_of_getElem? (i := 196) rfl))) (by decide) (backOf (W := 0) (rmSE l Z a0 hw [] b37 r35 t39 tt35 kb39 kt35 [((68 : Int32)).toInt8.toInt32, ((69 : Int32)).toInt8.toInt32, ((76 : Int32)).toInt8.toInt32, ((69 : Int32)).toInt8.toInt32, ((84 : Int32)).toInt8.toInt32, ((69 : Int32)).toInt8.toInt32, ((32 : Int32)).toInt8.toInt32, ((70 : Int32)).toInt8.toInt32, ((82 : Int32)).toInt8.toInt32, ((79 : Int32)).toInt8.toInt32, ((77 : Int32)).toInt8.toInt32, ((32 : Int32)).toInt8.toInt32, ((p1 &&& (255 : Int32))).toInt8.toInt32, ((32 : Int32)).toInt8.toInt32, ((87 : Int32)).toInt8.toInt32, ((72 : Int32)).toInt8.toInt32, ((69 : Int32)).toInt8.toInt32, ((82 : Int32)).toInt8.toInt32, ((69 : Int32)).toInt8.toInt32, ((32 : Int32)).toInt8.toInt32, ((p2 &&& (255 : Int32))).toInt8.toInt32, ((32 : Int32)).toInt8.toInt32, ((73 : Int32)).toInt8.toInt32, ((78 : Int32)).toInt8.toInt32, ((32 : Int32)).toInt8.toInt32, ((40 : Int32)).toInt8.toInt32, ((p3 &&& (255 : Int32))).toInt8.toInt32, ((41 : Int32)).toInt8.toInt32] [(68 : Int32), (69 : Int32), (76 : Int32), (69 : Int32), (84 : Int32), (69 : Int32), (32 : Int32), (70 : Int32), (82 : Int32), (79 : Int32), (77 : Int32), (32 : Int32), ((p1 &&& (255 : Int32)).toInt8.toInt32), (32 : Int32), (87 : Int32), (72 : Int32), (69 : Int32), (82 : Int32), (69 : Int32), (32 : Int32), ((p2 &&& (255 : Int32)).toInt8.toInt32), (32 : Int32), (73 : Int32), (78 : Int32), (32 : Int32), (40 : Int32), ((p3 &&& (255 : Int32)).toInt8.toInt32), (41 : Int32)] cz 1 h39 n0 O39 Exa_b37 F_value_b37 F_coder_b37 Arv_t39 (by show 28 < 2 ^ 31; decide) Exa_r35 F_value_r35 F_coder_r35 Arv_tt35 (by show 28 < 2 ^ 31; decide) S_COMPACT hcz (if_pos rfl).symm) hZ (hw _ (List.mem_of_getElem? (i := 198) rfl)) (hw _ (List.mem_of_getElem? (i := 2) rfl)) (by decide) (by decide)) qa40 qc40 (g := (mkF m 258 #[.val (.int p1), .val (.int p2), .val (.int p3), .val (.int (p1 &&& (255 : Int32))), .val (.int (p2 &&& (255 : Int32))), .val (.int (p3 &&& (255 : Int32))), .val (.ref x1), .val (.ref x2), .val (.ref x3), .val (.ref b4), .val (.ref b33), .val (.ref r35)] [(.ref r35), (.ref b37)])) rfl (by rw [hml]; rfl) (Steps.refl _) (argsL := [(.ref r35)]) (rest := []) (lenOf pd_rm0_5 rfl) rfl (by show 2 * 0 + _ ≤ _; exact Nat.le_of_eq rfl) (hb hby at_258) (fun _ _ => ⟨rfl, e39, (by decide : 23 + 0 ≤ _), (by decide : 279 + 0 ≤ _)⟩)
  dsimp only [Pt.U, Pt.locs, Pt.cells, Pt.slots] at X40 l40 y40 z40 st40 hQ40
  subst y40 z40
  obtain ⟨rfl, Nq40, e40⟩ := hQ40
  have N40 : Fr n0 L40 := l40 ▸ Fr.app N39 Nq40
  refine GlW.st (fun _ kk => st40.trans kk) ?_
  clear st40 qc40 qb40 qa40 kq40 cq40
  clear N39 X39 e39
  show GlW Z consts_1 p e below s _ _ _ T40 (mkF m 261 #[.val (.int p1), .val (.int p2), .val (.int p3), .val (.int (p1 &&& (255 : Int32))), .val (.int (p2 &&& (255 : Int32))), .val (.int (p3 &&& (255 : Int32))), .val (.ref x1), .val (.ref x2), .val (.ref x3), .val (.ref b4), .val (.ref b33), .val (.ref r35)] [(.int (1 : Int32))])
  refine GlW.st (fun _ kk => XS.ifNo X40.here hx rfl (hb hby at_261) rfl ((if0 _ _).trans (feq (by decide : ¬ ((1 : Int32) = (0 : Int32)))).1) kk) ?_
  show GlW Z consts_1 p e below s _ _ _ T40 (mkF m 264 #[.val (.int p1), .val (.int p2), .val (.int p3), .val (.int (p1 &&& (255 : Int32))), .val (.int (p2 &&& (255 : Int32))), .val (.int (p3 &&& (255 : Int32))), .val (.ref x1), .val (.ref x2), .val (.ref x3), .val (.ref b4), .val (.ref b33), .val (.ref r35)] [])
  refine GlW.st (fun _ kk => XS.iconst X40.here hx rfl (hb hby at_264) kk) ?_
  show GlW Z consts_1 p e below s _ _ _ T40 (mkF m 265 #[.val (.int p1), .val (.int p2), .val (.int p3), .val (.int (p1 &&& (255 : Int32))), .val (.int (p2 &&& (255 : Int32))), .val (.int (p3 &&& (255 : Int32))), .val (.ref x1), .val (.ref x2), .val (.ref x3), .val (.ref b4), .val (.ref b33), .val (.ref r35)] [(.int (1 : Int32))])
  refine GlW.st (fun _ kk => XS.goto X40.here hx rfl (pc0 := 265) (pc' := 269) rfl (hb hby at_265) (by decide) (by decide) kk) ?_
  show GlW Z consts_1 p e below s _ _ _ T40 (mkF m 269 #[.val (.int p1), .val (.int p2), .val (.int p3), .val (.int (p1 &&& (255 : Int32))), .val (.int (p2 &&& (255 : Int32))), .val (.int (p3 &&& (255 : Int32))), .val (.ref x1), .val (.ref x2), .val (.ref x3), .val (.ref b4), .val (.ref b33), .val (.ref r35)] [(.int (1 : Int32))])
  exact GlW.ret X40 hS35 hk39 hZ hEL hh0 HC39 (v := (some (.int (1 : Int32)))) (fun h => by rw [Bd.returns] at h; cases h) (BodyLoose.notSynchronized Bd) (fun hr => retN X40 hx (t := .boolean) Bd.returns (by simp) (hb hby at_269) hr) e40 ⟨rfl, N40⟩ (by decide) (by decide)
set_option maxRecDepth 65536 in
set_option maxHeartbeats 40000000 in
theorem comes_1 {Post : Tables → Env → Array Value → State → Outcome → State → Prop} (hpost : ∀ tb e args s v u, (limb_1_1.after args s (.returned v) u = true ∧ limb_1_2.after args s (.returned v) u = true ∧ True) → ReturnedEndW s (.returned v) u (Jvm.fieldLocs frame_1_writes args s ++ Jvm.arrayLocs frame_1_arrays args s ++ Jvm.staticLocs frame_1_statics s) 48 4544 → Post tb e args s (.returned v) u) :
    ArmFor flags0 classFile x code maxLocals ret World_1 tables_1 room_1 Calls_1 rest_1 Pre_1 Post := by
  intro l hfl _ _ p e ha hc hk s m args below hf hA hF happ hP
  obtain ⟨hcalls, hrest, hpre⟩ := hP
  obtain ⟨-, -, -, hnamed, -, -, -, hat⟩ := (Spec.applies_iff hf).mp happ
  obtain ⟨hg, hn⟩ := and_e (Cond.before_iff.mp (show (Jvm.Cond.and given_1 narrow_1).before args s = true from hpre))
  obtain ⟨g1a, g1b⟩ := and_e hg
  obtain ⟨g2a, g2b⟩ := and_e g1b
  obtain ⟨g3a, g3b⟩ := and_e g2b
  obtain ⟨w0, w1, w2, rfl⟩ : ∃ w0 w1 w2 : Value, args = #[w0, w1, w2] := by
    have hs : args.size = 3 := by simpa [Cond.value, given_1] using g1a
    obtain ⟨L⟩ := args
    match L, hs with
    | [w0, w1, w2], _ => exact ⟨w0, w1, w2, rfl⟩
  have hw := fun d (hd : d ∈ tables_1) => atoms_spec (ws := Jvm.Cond.code x code maxLocals ret :: tables_1) hat d (List.mem_cons_of_mem _ hd)
  have hfit : Fit s := fun {y c} hc i hi => by
    obtain ⟨ha, rfl⟩ := Array.getElem?_eq_some_iff.mp hc
    have q := List.all_eq_true.mp ((Array.all_eq_true_iff_forall_mem.mp hF) _ (Array.getElem_mem ha)) i (List.mem_range.mpr hi)
    simpa [Array.getElem?_eq_getElem hi] using q
  obtain ⟨hsets, hown0⟩ := atoms_of _ (rest_1_c_eq ▸ (show rest_1_c.before _ s = true from hrest))
  have hr0 := Cond.before_iff.mp hown0
  obtain ⟨i0, ei0⟩ := is_v g2a
  obtain rfl : w0 = (.int i0) := Option.some.inj ei0
  obtain ⟨i1, ei1⟩ := is_v g3a
  obtain rfl : w1 = (.int i1) := Option.some.inj ei1
  obtain ⟨i2, ei2⟩ := is_v g3b
  obtain rfl : w2 = (.int i2) := Option.some.inj ei2
  have ncz := not_v (Cond.before_iff.mp (hsets _ (List.mem_of_getElem? (i := 2) rfl)))
  obtain ⟨cz, ecz⟩ := is_v (Cond.before_iff.mp (hsets _ (List.mem_of_getElem? (i := 1) rfl)))
  have S_COMPACT : Sta s s.heap "java/lang/String" "COMPACT_STRINGS" "Z" (.int cz) := Sta.start ecz (Or.inl (hsets _ (List.mem_of_getElem? (i := 0) rfl)))
  have hcz : ¬ (cz = (0 : Int32)) := gotF (Cond.eq_ints ecz (Term.int_eval (0))) ncz
  obtain ⟨n, o, h1, h2, h3, _, L, rfl, ⟨rfl, N⟩, -, hq⟩ := rm0 l s _ hw tables_1 i0 i1 i2 cz s.heap s.heap.size (Old.start s) S_COMPACT hcz p e ha hc hk s m _ below hf ((Spec.applies_iff_loose hf).mp happ).1 ⟨rfl, State.Warmed39.refl s, rfl, CHv.start (own_EW hw) hcalls.1 (hsets _ (List.mem_of_getElem? (i := 2) rfl)) (hw _ (List.mem_of_getElem? (i := 14) rfl)) (hw _ (List.mem_of_getElem? (i := 10) rfl))⟩ trivial
  refine ⟨n, _, h1, h2, h3, hpost _ _ _ _ _ _ ⟨Cond.after_iff.mpr rfl, Cond.after_iff.mpr (eq_i res_at (Term.int_eval (1)) rfl), trivial⟩ ⟨hq.1, hq.2.1, hq.2.2.1, (hq.2.2.2.sift fun y hy => Or.inr (N y hy)).mono (by decide) (by decide)⟩⟩
theorem main_1_1 : Claimed_1_1 := comes_1 fun _ _ _ _ _ _ h hF => ⟨h.1, hF⟩
theorem main_1_2 : Claimed_1_2 := comes_1 fun _ _ _ _ _ _ h hF => ⟨h.2.1, hF⟩
end Jvm.Pilot.@@N@@
namespace Jvm.Pilot.@@N@@
open Jvm Jvm.ClassFile Sem Op Lib Jvm.Free Jvm.Stand Jvm.Pilot.@@N@@.Jvm.D
/-! MADE BY PROGRAM (witnessworld.py) out of the Statement's table words and the real class files: 26 classes; the members and pool entries that the words name. The judged class is class 1, her method 1. -/
namespace start1
open Jvm.ClassFile
def u (s : String) : CpInfo := .utf8 (stringToUtf16 s)
/-- a pool by its gaps: so many unusable entries, then the entry; so many at the end -/
def gap : Nat → List CpInfo → List CpInfo
  | 0, r => r
  | n + 1, r => .unusable :: gap n r
def poolList (es : List (Nat × CpInfo)) (last : Nat) : List CpInfo := es.foldr (fun e r => gap e.1 (e.2 :: r)) (gap last [])
def pool (es : List (Nat × CpInfo)) (last : Nat) : Array CpInfo := ⟨poolList es last⟩
def fileOf (pool : Array CpInfo) (this : Nat) (attrs : Array Attribute := #[]) (ms : Array MethodInfo := #[]) (fl : Nat := 33) (sup : Nat := 0) (ifs : Array Nat := #[]) (fds : Array FieldInfo := #[]) : ClassFile where
  minorVersion := 0
  majorVersion := 65
  constantPool := pool
  accessFlags := fl
  thisClass := this
  superClass := sup
  interfaces := ifs
  fields := fds
  methods := ms
  attributes := attrs
def plain (name : String) (sup : Option ClassId) : Class where
  name := name
  kind := .ordinary
  loader := none
  accessFlags := 33
  super := sup
  interfaces := #[]
  cf := none
  fields := #[]
  methods := #[]
  instanceTypes := #[]
  staticTypes := #[]
  resolved := #[]
  callSites := []
  init := .initialized
  statics := none
  mirror := none

def pool0 : Array CpInfo := pool [(5, u "<init>"), (0, u "()V"), (1, .class_ 10), (1, u "java/lang/Object")] 113

def k0c0 : Code := { maxStack := 0, maxLocals := 1, code := object_method_1_code, exceptionTable := #[], attributes := #[] }
def k0m0 : Method := { name := "<init>", desc := "()V", sig := { parameters := [], returnType := none }, accessFlags := 1, code := some k0c0 }
/-- java/lang/Object -/
def k0 : Class := { plain "java/lang/Object" none with
  accessFlags := 33
  interfaces := #[]
  cf := some (fileOf pool0 8 #[] #[{ accessFlags := 1, nameIndex := 5, descriptorIndex := 6, attributes := #[] }] 33 0 #[] #[])
  fields := #[]
  methods := #[k0m0]
  instanceTypes := #[]
  staticTypes := #[]
  resolved := Array.replicate 124 none
  statics := none }

def pool1 : Array CpInfo := pool [(2, .class_ 4), (1, u "java/lang/Object"), (0, u "<init>"), (0, u "()V"), (0, .methodref 8 9), (0, .class_ 10), (0, .nameAndType 11 12), (0, u "java/lang/String"), (0, u "valueOf"), (0, u "(C)Ljava/lang/String;"), (0, .class_ 14), (0, u "com/example/tender/tender/store/PropertyTable"), (0, .methodref 13 16), (0, .nameAndType 5 17), (0, u "(Ljava/lang/String;Ljava/lang/String;)V"), (0, .methodref 13 19), (0, .nameAndType 20 21), (0, u "deleteOwnedBy"), (0, u "(Ljava/lang/String;)Ljava/lang/String;"), (0, .methodref 8 23), (0, .nameAndType 24 25), (0, u "length"), (0, u "()I"), (0, .methodref 8 27), (0, .nameAndType 5 28), (0, u "([C)V"), (0, .methodref 8 30), (0, .nameAndType 31 32), (0, u "equals"), (0, u "(Ljava/lang/Object;)Z"), (0, .class_ 34), (0, u "com/example/tender/tender/store/PropertyTableDeleteOwnedByPinLaw"), (2, u "law"), (0, u "(III)Z")] 5

def k1m0 : Method := { name := "<init>", desc := "()V", sig := { parameters := [], returnType := none }, accessFlags := 1, code := none }
def k1c1 : Code := { maxStack := 4, maxLocals := 12, code := code, exceptionTable := #[], attributes := #[] }
def k1m1 : Method := { name := "law", desc := "(III)Z", sig := { parameters := [.int, .int, .int], returnType := some .boolean }, accessFlags := 9, code := some k1c1 }
/-- com/example/tender/tender/store/PropertyTableDeleteOwnedByPinLaw -/
def k1 : Class := { plain "com/example/tender/tender/store/PropertyTableDeleteOwnedByPinLaw" (some 0) with
  accessFlags := 49
  interfaces := #[]
  cf := some (fileOf pool1 33 #[] #[{ accessFlags := 1, nameIndex := 5, descriptorIndex := 6, attributes := #[] }, { accessFlags := 9, nameIndex := 37, descriptorIndex := 38, attributes := #[] }] 49 2 #[] #[])
  fields := #[]
  methods := #[k1m0, k1m1]
  instanceTypes := #[]
  staticTypes := #[]
  resolved := Array.replicate 44 none
  statics := none }

def pool2 : Array CpInfo := pool [(1, .class_ 2), (0, u "java/io/Serializable"), (0, .class_ 4), (0, u "java/lang/Object")] 2

/-- java/io/Serializable -/
def k2 : Class := { plain "java/io/Serializable" (some 0) with
  accessFlags := 1537
  interfaces := #[]
  cf := some (fileOf pool2 1 #[] #[] 1537 3 #[] #[])
  fields := #[]
  methods := #[]
  instanceTypes := #[]
  staticTypes := #[]
  resolved := Array.replicate 7 none
  statics := none }

def pool3 : Array CpInfo := pool [(1, .class_ 2), (0, u "java/lang/Comparable"), (0, .class_ 4), (0, u "java/lang/Object")] 7

/-- java/lang/Comparable -/
def k3 : Class := { plain "java/lang/Comparable" (some 0) with
  accessFlags := 1537
  interfaces := #[]
  cf := some (fileOf pool3 1 #[] #[] 1537 3 #[] #[])
  fields := #[]
  methods := #[]
  instanceTypes := #[]
  staticTypes := #[]
  resolved := Array.replicate 12 none
  statics := none }

def pool4 : Array CpInfo := pool [(2, .class_ 4), (1, u "java/lang/CharSequence"), (42, .class_ 48), (0, u "java/lang/CharSequence$1CodePointIterator"), (10, .class_ 60), (0, u "java/lang/CharSequence$1CharIterator"), (5, .class_ 67), (0, u "java/lang/Object")] 63

/-- java/lang/CharSequence -/
def k4 : Class := { plain "java/lang/CharSequence" (some 0) with
  accessFlags := 1537
  interfaces := #[]
  cf := some (fileOf pool4 2 #[.nestMembers #[47, 59]] #[] 1537 66 #[] #[])
  fields := #[]
  methods := #[]
  instanceTypes := #[]
  staticTypes := #[]
  resolved := Array.replicate 131 none
  statics := none }

def pool5 : Array CpInfo := pool [(1, .class_ 2), (0, u "java/lang/constant/Constable"), (0, .class_ 4), (0, u "java/lang/Object")] 6

/-- java/lang/constant/Constable -/
def k5 : Class := { plain "java/lang/constant/Constable" (some 0) with
  accessFlags := 1537
  interfaces := #[]
  cf := some (fileOf pool5 1 #[] #[] 1537 3 #[] #[])
  fields := #[]
  methods := #[]
  instanceTypes := #[]
  staticTypes := #[]
  resolved := Array.replicate 11 none
  statics := none }

def pool6 : Array CpInfo := pool [(1, .class_ 2), (0, u "java/lang/constant/ConstantDesc"), (0, .class_ 4), (0, u "java/lang/Object")] 32

/-- java/lang/constant/ConstantDesc -/
def k6 : Class := { plain "java/lang/constant/ConstantDesc" (some 0) with
  accessFlags := 1537
  interfaces := #[]
  cf := some (fileOf pool6 1 #[] #[] 1537 3 #[] #[])
  fields := #[]
  methods := #[]
  instanceTypes := #[]
  staticTypes := #[]
  resolved := Array.replicate 37 none
  statics := none }

def pool7 : Array CpInfo := pool [(1, .methodref 2 3), (0, .class_ 4), (0, .nameAndType 5 6), (0, u "java/lang/Object"), (0, u "<init>"), (0, u "()V"), (2, .fieldref 10 11), (0, .class_ 12), (0, .nameAndType 13 14), (0, u "java/lang/String"), (0, u "value"), (0, u "[B"), (0, .fieldref 10 16), (0, .nameAndType 17 18), (0, u "coder"), (0, u "B"), (2, u "hash"), (0, u "I"), (2, u "hashIsZero"), (0, u "Z"), (0, .methodref 10 28), (0, .nameAndType 5 29), (0, u "([CIILjava/lang/Void;)V"), (8, .fieldref 10 39), (0, .nameAndType 40 26), (0, u "COMPACT_STRINGS"), (1, .class_ 44), (1, u "java/lang/StringUTF16"), (0, u "compress"), (1, .methodref 42 48), (0, .nameAndType 49 50), (0, u "coderFromArrayLen"), (0, u "([BI)B"), (2, u "toBytes"), (0, .methodref 55 56), (0, .class_ 57), (0, .nameAndType 58 59), (0, u "java/util/Arrays"), (0, u "copyOfRange"), (0, u "([BII)[B"), (47, .class_ 109), (1, u "java/lang/StringLatin1"), (32, u "()Z"), (34, .methodref 42 178), (0, .nameAndType 45 179), (0, u "([CII)[B"), (13, .class_ 195), (1, u "java/lang/System"), (13, .methodref 10 210), (0, .nameAndType 5 211), (0, u "([BB)V"), (0, .methodref 193 213), (0, .nameAndType 214 215), (0, u "arraycopy"), (0, u "(Ljava/lang/Object;ILjava/lang/Object;II)V"), (118, u "()I"), (0, .methodref 10 336), (0, .nameAndType 17 337), (0, u "()B"), (2, u "()[B"), (28, u "(C)Z"), (119, .methodref 10 490), (0, .nameAndType 5 491), (0, u "(Ljava/lang/AbstractStringBuilder;Ljava/lang/Void;)V"), (1, .nameAndType 494 142), (0, u "isLatin1"), (11, .nameAndType 507 334), (0, u "length"), (24, u "getBytes"), (8, .methodref 107 542), (0, .nameAndType 543 544), (0, u "equals"), (0, u "([B[B)Z"), (4, .methodref 550 506), (0, .class_ 551), (0, u "java/lang/AbstractStringBuilder"), (0, .methodref 550 553), (0, .nameAndType 554 340), (0, u "getValue"), (18, u "(Ljava/lang/Object;)Z"), (1, .class_ 576), (0, u "java/lang/CharSequence"), (22, u "CASE_INSENSITIVE_ORDER"), (0, u "Ljava/util/Comparator;"), (181, u "valueOf"), (0, u "(C)Ljava/lang/String;"), (37, u "([BIB)V"), (188, u "([C)V"), (4, .methodref 107 1016), (0, .nameAndType 1017 369), (0, u "canEncode"), (0, .methodref 107 1019), (0, .nameAndType 53 1020), (0, u "(C)[B"), (26, .methodref 550 493), (53, u "serialPersistentFields"), (0, u "[Ljava/io/ObjectStreamField;"), (0, .class_ 1104), (0, u "java/lang/String$CaseInsensitiveComparator"), (1, .class_ 1107), (0, u "java/io/Serializable"), (0, .class_ 1109), (0, u "java/lang/Comparable"), (0, .class_ 1111), (0, u "java/lang/constant/Constable"), (0, .class_ 1113), (0, u "java/lang/constant/ConstantDesc"), (2, u "serialVersionUID"), (0, u "J"), (3, u "REPL"), (0, u "C"), (2, u "LATIN1"), (1, u "UTF16"), (105, u "(Ljava/lang/StringBuilder;)V")] 217

def k7m0 : Method := { name := "<init>", desc := "()V", sig := { parameters := [], returnType := none }, accessFlags := 1, code := none }
def k7c1 : Code := { maxStack := 5, maxLocals := 2, code := jdk_42_method_3_code, exceptionTable := #[], attributes := #[] }
def k7m1 : Method := { name := "<init>", desc := "([C)V", sig := { parameters := [(.array .char)], returnType := none }, accessFlags := 1, code := some k7c1 }
def k7c2 : Code := { maxStack := 3, maxLocals := 2, code := jdk_42_method_53_code, exceptionTable := #[], attributes := #[] }
def k7m2 : Method := { name := "<init>", desc := "(Ljava/lang/StringBuilder;)V", sig := { parameters := [(.object "java/lang/StringBuilder")], returnType := none }, accessFlags := 1, code := some k7c2 }
def k7c3 : Code := { maxStack := 2, maxLocals := 1, code := jdk_42_method_54_code, exceptionTable := #[], attributes := #[] }
def k7m3 : Method := { name := "length", desc := "()I", sig := { parameters := [], returnType := some .int }, accessFlags := 1, code := some k7c3 }
def k7c4 : Code := { maxStack := 2, maxLocals := 3, code := jdk_42_method_66_code, exceptionTable := #[], attributes := #[] }
def k7m4 : Method := { name := "equals", desc := "(Ljava/lang/Object;)Z", sig := { parameters := [(.object "java/lang/Object")], returnType := some .boolean }, accessFlags := 1, code := some k7c4 }
def k7c5 : Code := { maxStack := 4, maxLocals := 1, code := jdk_42_method_139_code, exceptionTable := #[], attributes := #[] }
def k7m5 : Method := { name := "valueOf", desc := "(C)Ljava/lang/String;", sig := { parameters := [.char], returnType := some (.object "java/lang/String") }, accessFlags := 9, code := some k7c5 }
def k7c6 : Code := { maxStack := 5, maxLocals := 4, code := jdk_42_method_147_code, exceptionTable := #[], attributes := #[] }
def k7m6 : Method := { name := "getBytes", desc := "([BIB)V", sig := { parameters := [(.array .byte), .int, .byte], returnType := none }, accessFlags := 0, code := some k7c6 }
def k7c7 : Code := { maxStack := 4, maxLocals := 6, code := jdk_42_method_149_code, exceptionTable := #[], attributes := #[] }
def k7m7 : Method := { name := "<init>", desc := "([CIILjava/lang/Void;)V", sig := { parameters := [(.array .char), .int, .int, (.object "java/lang/Void")], returnType := none }, accessFlags := 2, code := some k7c7 }
def k7c8 : Code := { maxStack := 5, maxLocals := 5, code := jdk_42_method_150_code, exceptionTable := #[], attributes := #[] }
def k7m8 : Method := { name := "<init>", desc := "(Ljava/lang/AbstractStringBuilder;Ljava/lang/Void;)V", sig := { parameters := [(.object "java/lang/AbstractStringBuilder"), (.object "java/lang/Void")], returnType := none }, accessFlags := 0, code := some k7c8 }
def k7c9 : Code := { maxStack := 2, maxLocals := 3, code := jdk_42_method_151_code, exceptionTable := #[], attributes := #[] }
def k7m9 : Method := { name := "<init>", desc := "([BB)V", sig := { parameters := [(.array .byte), .byte], returnType := none }, accessFlags := 0, code := some k7c9 }
def k7c10 : Code := { maxStack := 1, maxLocals := 1, code := jdk_42_method_152_code, exceptionTable := #[], attributes := #[] }
def k7m10 : Method := { name := "coder", desc := "()B", sig := { parameters := [], returnType := some .byte }, accessFlags := 0, code := some k7c10 }
/-- java/lang/String -/
def k7 : Class := { plain "java/lang/String" (some 0) with
  accessFlags := 49
  interfaces := #[2, 3, 4, 5, 6]
  cf := some (fileOf pool7 10 #[.nestMembers #[1103]] #[{ accessFlags := 1, nameIndex := 5, descriptorIndex := 6, attributes := #[] }, { accessFlags := 1, nameIndex := 5, descriptorIndex := 1010, attributes := #[] }, { accessFlags := 1, nameIndex := 5, descriptorIndex := 1233, attributes := #[] }, { accessFlags := 1, nameIndex := 507, descriptorIndex := 334, attributes := #[] }, { accessFlags := 1, nameIndex := 543, descriptorIndex := 573, attributes := #[] }, { accessFlags := 9, nameIndex := 782, descriptorIndex := 783, attributes := #[] }, { accessFlags := 0, nameIndex := 532, descriptorIndex := 821, attributes := #[] }, { accessFlags := 2, nameIndex := 5, descriptorIndex := 29, attributes := #[] }, { accessFlags := 0, nameIndex := 5, descriptorIndex := 491, attributes := #[] }, { accessFlags := 0, nameIndex := 5, descriptorIndex := 211, attributes := #[] }, { accessFlags := 0, nameIndex := 17, descriptorIndex := 337, attributes := #[] }] 49 2 #[1106, 1108, 575, 1110, 1112] #[{ accessFlags := 18, nameIndex := 13, descriptorIndex := 14, attributes := #[] }, { accessFlags := 18, nameIndex := 17, descriptorIndex := 18, attributes := #[] }, { accessFlags := 2, nameIndex := 21, descriptorIndex := 22, attributes := #[] }, { accessFlags := 2, nameIndex := 25, descriptorIndex := 26, attributes := #[] }, { accessFlags := 26, nameIndex := 1116, descriptorIndex := 1117, attributes := #[] }, { accessFlags := 24, nameIndex := 40, descriptorIndex := 26, attributes := #[] }, { accessFlags := 26, nameIndex := 1101, descriptorIndex := 1102, attributes := #[] }, { accessFlags := 26, nameIndex := 1121, descriptorIndex := 1122, attributes := #[] }, { accessFlags := 25, nameIndex := 599, descriptorIndex := 600, attributes := #[] }, { accessFlags := 24, nameIndex := 1125, descriptorIndex := 18, attributes := #[] }, { accessFlags := 24, nameIndex := 1127, descriptorIndex := 18, attributes := #[] }])
  fields := #[{ name := "value", type := (.array .byte), accessFlags := 18, slot := 0, constantValue := 0 }, { name := "coder", type := .byte, accessFlags := 18, slot := 1, constantValue := 0 }, { name := "hash", type := .int, accessFlags := 2, slot := 2, constantValue := 0 }, { name := "hashIsZero", type := .boolean, accessFlags := 2, slot := 3, constantValue := 0 }, { name := "serialVersionUID", type := .long, accessFlags := 26, slot := 0, constantValue := 0 }, { name := "COMPACT_STRINGS", type := .boolean, accessFlags := 24, slot := 1, constantValue := 0 }, { name := "serialPersistentFields", type := (.array (.object "java/io/ObjectStreamField")), accessFlags := 26, slot := 2, constantValue := 0 }, { name := "REPL", type := .char, accessFlags := 26, slot := 3, constantValue := 0 }, { name := "CASE_INSENSITIVE_ORDER", type := (.object "java/util/Comparator"), accessFlags := 25, slot := 4, constantValue := 0 }, { name := "LATIN1", type := .byte, accessFlags := 24, slot := 5, constantValue := 0 }, { name := "UTF16", type := .byte, accessFlags := 24, slot := 6, constantValue := 0 }]
  methods := #[k7m0, k7m1, k7m2, k7m3, k7m4, k7m5, k7m6, k7m7, k7m8, k7m9, k7m10]
  instanceTypes := #[(.array .byte), .byte, .int, .boolean]
  staticTypes := #[.long, .boolean, (.array (.object "java/io/ObjectStreamField")), .char, (.object "java/util/Comparator"), .byte, .byte]
  resolved := Array.replicate 1451 none
  statics := some 0 }

def pool8 : Array CpInfo := pool [(4, .class_ 6), (1, u "java/lang/Object"), (0, u "<init>"), (0, u "()V"), (5, .class_ 16), (1, u "java/lang/StringLatin1"), (73, u "canEncode"), (14, u "(C)Z"), (15, u "$assertionsDisabled"), (0, u "Z"), (98, .class_ 223), (1, u "java/lang/StringLatin1$LinesSpliterator"), (57, u "equals"), (0, u "([B[B)Z"), (97, u "toBytes"), (1, u "(C)[B"), (7, .class_ 391), (0, u "java/lang/StringLatin1$CharsSpliterator")] 3

def k8m0 : Method := { name := "<init>", desc := "()V", sig := { parameters := [], returnType := none }, accessFlags := 0, code := none }
def k8c1 : Code := { maxStack := 2, maxLocals := 1, code := jdk_43_method_3_code, exceptionTable := #[], attributes := #[] }
def k8m1 : Method := { name := "canEncode", desc := "(C)Z", sig := { parameters := [.char], returnType := some .boolean }, accessFlags := 9, code := some k8c1 }
def k8c2 : Code := { maxStack := 3, maxLocals := 3, code := jdk_43_method_13_code, exceptionTable := #[], attributes := #[] }
def k8m2 : Method := { name := "equals", desc := "([B[B)Z", sig := { parameters := [(.array .byte), (.array .byte)], returnType := some .boolean }, accessFlags := 9, code := some k8c2 }
def k8c3 : Code := { maxStack := 4, maxLocals := 1, code := jdk_43_method_46_code, exceptionTable := #[], attributes := #[] }
def k8m3 : Method := { name := "toBytes", desc := "(C)[B", sig := { parameters := [.char], returnType := some (.array .byte) }, accessFlags := 9, code := some k8c3 }
/-- java/lang/StringLatin1 -/
def k8 : Class := { plain "java/lang/StringLatin1" (some 0) with
  accessFlags := 48
  interfaces := #[]
  cf := some (fileOf pool8 14 #[.nestMembers #[390, 221]] #[{ accessFlags := 0, nameIndex := 7, descriptorIndex := 8, attributes := #[] }, { accessFlags := 9, nameIndex := 90, descriptorIndex := 105, attributes := #[] }, { accessFlags := 9, nameIndex := 281, descriptorIndex := 282, attributes := #[] }, { accessFlags := 9, nameIndex := 380, descriptorIndex := 382, attributes := #[] }] 48 4 #[] #[{ accessFlags := 4120, nameIndex := 121, descriptorIndex := 122, attributes := #[] }])
  fields := #[{ name := "$assertionsDisabled", type := .boolean, accessFlags := 4120, slot := 0, constantValue := 0 }]
  methods := #[k8m0, k8m1, k8m2, k8m3]
  instanceTypes := #[]
  staticTypes := #[.boolean]
  resolved := Array.replicate 395 none
  statics := none }

def pool9 : Array CpInfo := pool [(1, .methodref 2 3), (0, .class_ 4), (0, .nameAndType 5 6), (0, u "java/lang/Object"), (0, u "<init>"), (0, u "()V"), (0, .fieldref 8 9), (0, .class_ 10), (0, .nameAndType 11 12), (0, u "com/example/tender/tender/store/PropertyTable"), (0, u "table"), (0, u "Ljava/lang/String;"), (0, .fieldref 8 14), (0, .nameAndType 15 12), (0, u "ownerColumn"), (0, .class_ 17), (0, u "java/lang/StringBuilder"), (0, .methodref 16 3), (2, .methodref 16 22), (0, .nameAndType 23 24), (0, u "append"), (0, u "(Ljava/lang/String;)Ljava/lang/StringBuilder;"), (0, .string 26), (0, u " WHERE "), (4, .methodref 16 32), (0, .nameAndType 33 34), (0, u "toString"), (0, u "()Ljava/lang/String;"), (24, u "(Ljava/lang/String;Ljava/lang/String;)V"), (6, .string 67), (0, u "DELETE FROM "), (0, .string 69), (0, u " IN ("), (0, .string 71), (0, u ")"), (52, u "COLUMNS"), (6, u "(Ljava/lang/String;)Ljava/lang/String;"), (8, u "deleteOwnedBy")] 7

def k9c0 : Code := { maxStack := 2, maxLocals := 3, code := prog_36_method_1_code, exceptionTable := #[], attributes := #[] }
def k9m0 : Method := { name := "<init>", desc := "(Ljava/lang/String;Ljava/lang/String;)V", sig := { parameters := [(.object "java/lang/String"), (.object "java/lang/String")], returnType := none }, accessFlags := 1, code := some k9c0 }
def k9c1 : Code := { maxStack := 2, maxLocals := 2, code := prog_36_method_4_code, exceptionTable := #[], attributes := #[] }
def k9m1 : Method := { name := "deleteOwnedBy", desc := "(Ljava/lang/String;)Ljava/lang/String;", sig := { parameters := [(.object "java/lang/String")], returnType := some (.object "java/lang/String") }, accessFlags := 1, code := some k9c1 }
/-- com/example/tender/tender/store/PropertyTable -/
def k9 : Class := { plain "com/example/tender/tender/store/PropertyTable" (some 0) with
  accessFlags := 33
  interfaces := #[]
  cf := some (fileOf pool9 8 #[] #[{ accessFlags := 1, nameIndex := 5, descriptorIndex := 59, attributes := #[] }, { accessFlags := 1, nameIndex := 140, descriptorIndex := 131, attributes := #[] }] 33 2 #[] #[{ accessFlags := 25, nameIndex := 124, descriptorIndex := 12, attributes := #[] }, { accessFlags := 18, nameIndex := 11, descriptorIndex := 12, attributes := #[] }, { accessFlags := 18, nameIndex := 15, descriptorIndex := 12, attributes := #[] }])
  fields := #[{ name := "COLUMNS", type := (.object "java/lang/String"), accessFlags := 25, slot := 0, constantValue := 0 }, { name := "table", type := (.object "java/lang/String"), accessFlags := 18, slot := 0, constantValue := 0 }, { name := "ownerColumn", type := (.object "java/lang/String"), accessFlags := 18, slot := 1, constantValue := 0 }]
  methods := #[k9m0, k9m1]
  instanceTypes := #[(.object "java/lang/String"), (.object "java/lang/String")]
  staticTypes := #[(.object "java/lang/String")]
  resolved := Array.replicate 148 none
  statics := none }

def pool10 : Array CpInfo := pool [(1, .class_ 2), (0, u "java/lang/Appendable"), (0, .class_ 4), (0, u "java/lang/Object")] 9

/-- java/lang/Appendable -/
def k10 : Class := { plain "java/lang/Appendable" (some 0) with
  accessFlags := 1537
  interfaces := #[]
  cf := some (fileOf pool10 1 #[] #[] 1537 3 #[] #[])
  fields := #[]
  methods := #[]
  instanceTypes := #[]
  staticTypes := #[]
  resolved := Array.replicate 14 none
  statics := none }

def pool11 : Array CpInfo := pool [(1, .class_ 2), (0, u "java/lang/String"), (0, .methodref 4 5), (0, .class_ 6), (0, .nameAndType 7 8), (0, u "java/lang/Object"), (0, u "<init>"), (0, u "()V"), (1, .class_ 12), (1, u "java/lang/AbstractStringBuilder"), (0, u "EMPTYVALUE"), (0, u "[B"), (0, .fieldref 10 16), (0, .nameAndType 17 14), (0, u "value"), (0, .fieldref 1 19), (0, .nameAndType 20 21), (0, u "COMPACT_STRINGS"), (0, u "Z"), (0, .fieldref 10 23), (0, .nameAndType 24 25), (0, u "coder"), (0, u "B"), (6, .methodref 1 33), (0, .nameAndType 34 35), (0, u "length"), (0, u "()I"), (3, .integer 2147483647), (0, .methodref 1 41), (0, .nameAndType 24 42), (0, u "()B"), (2, u "append"), (0, u "(Ljava/lang/String;)Ljava/lang/AbstractStringBuilder;"), (1, .class_ 49), (0, u "java/lang/CharSequence"), (19, u "(Ljava/lang/String;)V"), (5, u "maybeLatin1"), (3, .fieldref 10 80), (0, .nameAndType 81 82), (0, u "count"), (0, u "I"), (2, u "isLatin1"), (0, u "()Z"), (13, .methodref 10 101), (0, .nameAndType 102 103), (0, u "ensureCapacityInternal"), (0, u "(I)V"), (0, .methodref 10 105), (0, .nameAndType 106 107), (0, u "newCapacity"), (0, u "(I)I"), (0, .methodref 109 110), (0, .class_ 111), (0, .nameAndType 112 113), (0, u "java/util/Arrays"), (0, u "copyOf"), (0, u "([BI)[B"), (0, .methodref 115 116), (0, .class_ 117), (0, .nameAndType 118 119), (0, u "jdk/internal/util/ArraysSupport"), (0, u "newLength"), (0, u "(III)I"), (88, .methodref 10 209), (0, .nameAndType 210 211), (0, u "putStringAt"), (0, u "(ILjava/lang/String;)V"), (5, u "inflateIfNeededFor"), (2, .nameAndType 221 222), (0, u "getBytes"), (0, u "([BIB)V"), (174, .methodref 10 398), (0, .nameAndType 217 69), (0, .methodref 1 220), (3, u "()[B"), (40, .class_ 445), (0, u "java/lang/Appendable"), (106, u "getValue")] 56

def k11m0 : Method := { name := "<init>", desc := "()V", sig := { parameters := [], returnType := none }, accessFlags := 0, code := none }
def k11c1 : Code := { maxStack := 2, maxLocals := 2, code := jdk_68_method_2_code, exceptionTable := #[], attributes := #[] }
def k11m1 : Method := { name := "<init>", desc := "(I)V", sig := { parameters := [.int], returnType := none }, accessFlags := 0, code := some k11c1 }
def k11c2 : Code := { maxStack := 1, maxLocals := 1, code := jdk_68_method_6_code, exceptionTable := #[], attributes := #[] }
def k11m2 : Method := { name := "length", desc := "()I", sig := { parameters := [], returnType := some .int }, accessFlags := 1, code := some k11c2 }
def k11c3 : Code := { maxStack := 4, maxLocals := 3, code := jdk_68_method_9_code, exceptionTable := #[], attributes := #[] }
def k11m3 : Method := { name := "ensureCapacityInternal", desc := "(I)V", sig := { parameters := [.int], returnType := none }, accessFlags := 2, code := some k11c3 }
def k11c4 : Code := { maxStack := 5, maxLocals := 6, code := jdk_68_method_10_code, exceptionTable := #[], attributes := #[] }
def k11m4 : Method := { name := "newCapacity", desc := "(I)I", sig := { parameters := [.int], returnType := some .int }, accessFlags := 2, code := some k11c4 }
def k11c5 : Code := { maxStack := 3, maxLocals := 3, code := jdk_68_method_22_code, exceptionTable := #[], attributes := #[] }
def k11m5 : Method := { name := "append", desc := "(Ljava/lang/String;)Ljava/lang/AbstractStringBuilder;", sig := { parameters := [(.object "java/lang/String")], returnType := some (.object "java/lang/AbstractStringBuilder") }, accessFlags := 1, code := some k11c5 }
def k11c6 : Code := { maxStack := 1, maxLocals := 1, code := jdk_68_method_64_code, exceptionTable := #[], attributes := #[] }
def k11m6 : Method := { name := "getValue", desc := "()[B", sig := { parameters := [], returnType := some (.array .byte) }, accessFlags := 16, code := some k11c6 }
def k11c7 : Code := { maxStack := 1, maxLocals := 1, code := jdk_68_method_68_code, exceptionTable := #[], attributes := #[] }
def k11m7 : Method := { name := "isLatin1", desc := "()Z", sig := { parameters := [], returnType := some .boolean }, accessFlags := 16, code := some k11c7 }
def k11c8 : Code := { maxStack := 2, maxLocals := 2, code := jdk_68_method_71_code, exceptionTable := #[], attributes := #[] }
def k11m8 : Method := { name := "inflateIfNeededFor", desc := "(Ljava/lang/String;)V", sig := { parameters := [(.object "java/lang/String")], returnType := none }, accessFlags := 2, code := some k11c8 }
def k11c9 : Code := { maxStack := 4, maxLocals := 3, code := jdk_68_method_73_code, exceptionTable := #[], attributes := #[] }
def k11m9 : Method := { name := "putStringAt", desc := "(ILjava/lang/String;)V", sig := { parameters := [.int, (.object "java/lang/String")], returnType := none }, accessFlags := 2, code := some k11c9 }
/-- java/lang/AbstractStringBuilder -/
def k11 : Class := { plain "java/lang/AbstractStringBuilder" (some 0) with
  accessFlags := 1056
  interfaces := #[10, 4]
  cf := some (fileOf pool11 10 #[] #[{ accessFlags := 0, nameIndex := 7, descriptorIndex := 8, attributes := #[] }, { accessFlags := 0, nameIndex := 7, descriptorIndex := 103, attributes := #[] }, { accessFlags := 1, nameIndex := 34, descriptorIndex := 35, attributes := #[] }, { accessFlags := 2, nameIndex := 102, descriptorIndex := 103, attributes := #[] }, { accessFlags := 2, nameIndex := 106, descriptorIndex := 107, attributes := #[] }, { accessFlags := 1, nameIndex := 45, descriptorIndex := 46, attributes := #[] }, { accessFlags := 16, nameIndex := 552, descriptorIndex := 403, attributes := #[] }, { accessFlags := 16, nameIndex := 85, descriptorIndex := 86, attributes := #[] }, { accessFlags := 2, nameIndex := 217, descriptorIndex := 69, attributes := #[] }, { accessFlags := 2, nameIndex := 210, descriptorIndex := 211, attributes := #[] }] 1056 4 #[444, 48] #[{ accessFlags := 0, nameIndex := 17, descriptorIndex := 14, attributes := #[] }, { accessFlags := 0, nameIndex := 24, descriptorIndex := 25, attributes := #[] }, { accessFlags := 0, nameIndex := 75, descriptorIndex := 21, attributes := #[] }, { accessFlags := 0, nameIndex := 81, descriptorIndex := 82, attributes := #[] }, { accessFlags := 26, nameIndex := 13, descriptorIndex := 14, attributes := #[] }])
  fields := #[{ name := "value", type := (.array .byte), accessFlags := 0, slot := 0, constantValue := 0 }, { name := "coder", type := .byte, accessFlags := 0, slot := 1, constantValue := 0 }, { name := "maybeLatin1", type := .boolean, accessFlags := 0, slot := 2, constantValue := 0 }, { name := "count", type := .int, accessFlags := 0, slot := 3, constantValue := 0 }, { name := "EMPTYVALUE", type := (.array .byte), accessFlags := 26, slot := 0, constantValue := 0 }]
  methods := #[k11m0, k11m1, k11m2, k11m3, k11m4, k11m5, k11m6, k11m7, k11m8, k11m9]
  instanceTypes := #[(.array .byte), .byte, .boolean, .int]
  staticTypes := #[(.array .byte)]
  resolved := Array.replicate 609 none
  statics := none }

def pool12 : Array CpInfo := pool [(1, .methodref 2 3), (0, .class_ 4), (0, .nameAndType 5 6), (0, u "java/lang/AbstractStringBuilder"), (0, u "<init>"), (0, u "(I)V"), (11, .class_ 20), (1, u "java/lang/String"), (3, .class_ 26), (1, u "java/lang/StringBuilder"), (0, u "append"), (0, u "(Ljava/lang/String;)Ljava/lang/StringBuilder;"), (0, .methodref 2 30), (0, .nameAndType 27 31), (0, u "(Ljava/lang/String;)Ljava/lang/AbstractStringBuilder;"), (105, .methodref 18 138), (0, .nameAndType 5 139), (0, u "(Ljava/lang/StringBuilder;)V"), (5, u "()V"), (10, u "()I"), (186, .methodref 2 344), (0, .nameAndType 345 156), (0, u "length"), (3, .class_ 350), (0, u "java/lang/Appendable"), (0, .class_ 352), (0, u "java/io/Serializable"), (0, .class_ 354), (0, u "java/lang/Comparable"), (0, .class_ 356), (0, u "java/lang/CharSequence"), (0, u "serialVersionUID"), (0, u "J"), (40, u "toString"), (0, u "()Ljava/lang/String;")] 21

def k12c0 : Code := { maxStack := 2, maxLocals := 1, code := jdk_67_method_1_code, exceptionTable := #[], attributes := #[] }
def k12m0 : Method := { name := "<init>", desc := "()V", sig := { parameters := [], returnType := none }, accessFlags := 1, code := some k12c0 }
def k12c1 : Code := { maxStack := 2, maxLocals := 2, code := jdk_67_method_7_code, exceptionTable := #[], attributes := #[] }
def k12m1 : Method := { name := "append", desc := "(Ljava/lang/String;)Ljava/lang/StringBuilder;", sig := { parameters := [(.object "java/lang/String")], returnType := some (.object "java/lang/StringBuilder") }, accessFlags := 1, code := some k12c1 }
def k12c2 : Code := { maxStack := 3, maxLocals := 1, code := jdk_67_method_42_code, exceptionTable := #[], attributes := #[] }
def k12m2 : Method := { name := "toString", desc := "()Ljava/lang/String;", sig := { parameters := [], returnType := some (.object "java/lang/String") }, accessFlags := 1, code := some k12c2 }
def k12c3 : Code := { maxStack := 1, maxLocals := 1, code := jdk_67_method_93_code, exceptionTable := #[], attributes := #[] }
def k12m3 : Method := { name := "length", desc := "()I", sig := { parameters := [], returnType := some .int }, accessFlags := 4161, code := some k12c3 }
/-- java/lang/StringBuilder -/
def k12 : Class := { plain "java/lang/StringBuilder" (some 11) with
  accessFlags := 49
  interfaces := #[10, 2, 3, 4]
  cf := some (fileOf pool12 24 #[] #[{ accessFlags := 1, nameIndex := 5, descriptorIndex := 145, attributes := #[] }, { accessFlags := 1, nameIndex := 27, descriptorIndex := 28, attributes := #[] }, { accessFlags := 1, nameIndex := 399, descriptorIndex := 400, attributes := #[] }, { accessFlags := 4161, nameIndex := 345, descriptorIndex := 156, attributes := #[] }] 49 2 #[349, 351, 353, 355] #[{ accessFlags := 24, nameIndex := 357, descriptorIndex := 358, attributes := #[] }])
  fields := #[{ name := "serialVersionUID", type := .long, accessFlags := 24, slot := 0, constantValue := 0 }]
  methods := #[k12m0, k12m1, k12m2, k12m3]
  instanceTypes := #[(.array .byte), .byte, .boolean, .int]
  staticTypes := #[.long]
  resolved := Array.replicate 422 none
  statics := none }

def pool13 : Array CpInfo := pool [(2, .class_ 4), (1, u "java/lang/Object"), (0, u "<init>"), (0, u "()V"), (1, .class_ 10), (1, u "java/lang/System"), (0, u "allowSecurityManager"), (0, u "I"), (16, u "cons"), (0, u "Ljava/io/Console;"), (77, .class_ 110), (1, u "java/lang/System$CallersHolder"), (43, u "initialErrStream"), (0, u "Ljava/io/PrintStream;"), (19, u "security"), (0, u "Ljava/lang/SecurityManager;"), (31, .class_ 209), (0, u "java/lang/System$1"), (7, u "props"), (0, u "Ljava/util/Properties;"), (2, u "lineSeparator"), (0, u "Ljava/lang/String;"), (96, .class_ 321), (1, u "java/lang/System$LoggerFinder"), (5, .class_ 328), (0, u "java/lang/System$Logger"), (67, u "err"), (2, u "out"), (91, u "notSupportedJnuEncoding"), (15, u "in"), (17, u "initialIn"), (0, u "Ljava/io/InputStream;"), (35, u "bootLayer"), (0, u "Ljava/lang/ModuleLayer;"), (99, .class_ 664), (0, u "java/lang/System$2"), (9, u "NEVER"), (2, u "MAYBE"), (49, u "arraycopy"), (0, u "(Ljava/lang/Object;ILjava/lang/Object;II)V"), (72, .class_ 802), (0, u "java/lang/System$Logger$Level")] 31

def k13m0 : Method := { name := "<init>", desc := "()V", sig := { parameters := [], returnType := none }, accessFlags := 2, code := none }
def k13m1 : Method := { name := "arraycopy", desc := "(Ljava/lang/Object;ILjava/lang/Object;II)V", sig := { parameters := [(.object "java/lang/Object"), .int, (.object "java/lang/Object"), .int, .int], returnType := none }, accessFlags := 265, code := none }
/-- java/lang/System -/
def k13 : Class := { plain "java/lang/System" (some 0) with
  accessFlags := 49
  interfaces := #[]
  cf := some (fileOf pool13 8 #[.nestMembers #[319, 327, 801, 108, 663, 208]] #[{ accessFlags := 2, nameIndex := 5, descriptorIndex := 6, attributes := #[] }, { accessFlags := 265, nameIndex := 727, descriptorIndex := 728, attributes := #[] }] 49 2 #[] #[{ accessFlags := 25, nameIndex := 507, descriptorIndex := 526, attributes := #[] }, { accessFlags := 25, nameIndex := 399, descriptorIndex := 155, attributes := #[] }, { accessFlags := 25, nameIndex := 396, descriptorIndex := 155, attributes := #[] }, { accessFlags := 10, nameIndex := 525, descriptorIndex := 526, attributes := #[] }, { accessFlags := 26, nameIndex := 674, descriptorIndex := 12, attributes := #[] }, { accessFlags := 26, nameIndex := 677, descriptorIndex := 12, attributes := #[] }, { accessFlags := 10, nameIndex := 11, descriptorIndex := 12, attributes := #[] }, { accessFlags := 74, nameIndex := 175, descriptorIndex := 176, attributes := #[] }, { accessFlags := 10, nameIndex := 491, descriptorIndex := 222, attributes := #[] }, { accessFlags := 74, nameIndex := 29, descriptorIndex := 30, attributes := #[] }, { accessFlags := 74, nameIndex := 154, descriptorIndex := 155, attributes := #[] }, { accessFlags := 10, nameIndex := 217, descriptorIndex := 218, attributes := #[] }, { accessFlags := 10, nameIndex := 221, descriptorIndex := 222, attributes := #[] }, { accessFlags := 8, nameIndex := 562, descriptorIndex := 563, attributes := #[] }])
  fields := #[{ name := "in", type := (.object "java/io/InputStream"), accessFlags := 25, slot := 0, constantValue := 0 }, { name := "out", type := (.object "java/io/PrintStream"), accessFlags := 25, slot := 1, constantValue := 0 }, { name := "err", type := (.object "java/io/PrintStream"), accessFlags := 25, slot := 2, constantValue := 0 }, { name := "initialIn", type := (.object "java/io/InputStream"), accessFlags := 10, slot := 3, constantValue := 0 }, { name := "NEVER", type := .int, accessFlags := 26, slot := 4, constantValue := 0 }, { name := "MAYBE", type := .int, accessFlags := 26, slot := 5, constantValue := 0 }, { name := "allowSecurityManager", type := .int, accessFlags := 10, slot := 6, constantValue := 0 }, { name := "security", type := (.object "java/lang/SecurityManager"), accessFlags := 74, slot := 7, constantValue := 0 }, { name := "notSupportedJnuEncoding", type := (.object "java/lang/String"), accessFlags := 10, slot := 8, constantValue := 0 }, { name := "cons", type := (.object "java/io/Console"), accessFlags := 74, slot := 9, constantValue := 0 }, { name := "initialErrStream", type := (.object "java/io/PrintStream"), accessFlags := 74, slot := 10, constantValue := 0 }, { name := "props", type := (.object "java/util/Properties"), accessFlags := 10, slot := 11, constantValue := 0 }, { name := "lineSeparator", type := (.object "java/lang/String"), accessFlags := 10, slot := 12, constantValue := 0 }, { name := "bootLayer", type := (.object "java/lang/ModuleLayer"), accessFlags := 8, slot := 13, constantValue := 0 }]
  methods := #[k13m0, k13m1]
  instanceTypes := #[]
  staticTypes := #[(.object "java/io/InputStream"), (.object "java/io/PrintStream"), (.object "java/io/PrintStream"), (.object "java/io/InputStream"), .int, .int, .int, (.object "java/lang/SecurityManager"), (.object "java/lang/String"), (.object "java/io/Console"), (.object "java/io/PrintStream"), (.object "java/util/Properties"), (.object "java/lang/String"), (.object "java/lang/ModuleLayer")]
  resolved := Array.replicate 834 none
  statics := none }

def pool14 : Array CpInfo := pool [(9, u "<init>"), (6, .class_ 18), (1, u "java/lang/Object"), (0, u "()V"), (1, .class_ 23), (1, u "jdk/internal/util/ArraysSupport"), (0, u "LOG2_ARRAY_LONG_INDEX_SCALE"), (0, u "I"), (2, u "U"), (0, u "Ljdk/internal/misc/Unsafe;"), (8, u "BIG_ENDIAN"), (0, u "Z"), (8, u "LOG2_BYTE_BIT_SIZE"), (4, u "LOG2_ARRAY_INT_INDEX_SCALE"), (54, u "JLA"), (0, u "Ljdk/internal/access/JavaLangAccess;"), (11, u "LOG2_ARRAY_BOOLEAN_INDEX_SCALE"), (9, u "LOG2_ARRAY_BYTE_INDEX_SCALE"), (5, u "LOG2_ARRAY_CHAR_INDEX_SCALE"), (5, u "LOG2_ARRAY_SHORT_INDEX_SCALE"), (18, u "LOG2_ARRAY_FLOAT_INDEX_SCALE"), (24, u "LOG2_ARRAY_DOUBLE_INDEX_SCALE"), (6, .methodref 195 196), (0, .class_ 197), (0, .nameAndType 198 199), (0, u "java/lang/Math"), (0, u "max"), (0, u "(II)I"), (0, .integer 2147483639), (76, u "T_BOOLEAN"), (2, u "T_CHAR"), (1, u "T_FLOAT"), (1, u "T_DOUBLE"), (1, u "T_BYTE"), (1, u "T_SHORT"), (1, u "T_INT"), (1, u "T_LONG"), (1, u "SOFT_MAX_ARRAY_LENGTH"), (56, u "newLength"), (0, u "(III)I")] 25

def k14m0 : Method := { name := "<init>", desc := "()V", sig := { parameters := [], returnType := none }, accessFlags := 2, code := none }
def k14c1 : Code := { maxStack := 3, maxLocals := 4, code := jdk_48_method_27_code, exceptionTable := #[], attributes := #[] }
def k14m1 : Method := { name := "newLength", desc := "(III)I", sig := { parameters := [.int, .int, .int], returnType := some .int }, accessFlags := 9, code := some k14c1 }
/-- jdk/internal/util/ArraysSupport -/
def k14 : Class := { plain "jdk/internal/util/ArraysSupport" (some 0) with
  accessFlags := 33
  interfaces := #[]
  cf := some (fileOf pool14 21 #[] #[{ accessFlags := 2, nameIndex := 9, descriptorIndex := 19, attributes := #[] }, { accessFlags := 9, nameIndex := 351, descriptorIndex := 352, attributes := #[] }] 33 16 #[] #[{ accessFlags := 24, nameIndex := 28, descriptorIndex := 29, attributes := #[] }, { accessFlags := 26, nameIndex := 38, descriptorIndex := 39, attributes := #[] }, { accessFlags := 25, nameIndex := 121, descriptorIndex := 25, attributes := #[] }, { accessFlags := 25, nameIndex := 131, descriptorIndex := 25, attributes := #[] }, { accessFlags := 25, nameIndex := 137, descriptorIndex := 25, attributes := #[] }, { accessFlags := 25, nameIndex := 143, descriptorIndex := 25, attributes := #[] }, { accessFlags := 25, nameIndex := 53, descriptorIndex := 25, attributes := #[] }, { accessFlags := 25, nameIndex := 24, descriptorIndex := 25, attributes := #[] }, { accessFlags := 25, nameIndex := 162, descriptorIndex := 25, attributes := #[] }, { accessFlags := 25, nameIndex := 187, descriptorIndex := 25, attributes := #[] }, { accessFlags := 26, nameIndex := 48, descriptorIndex := 25, attributes := #[] }, { accessFlags := 25, nameIndex := 277, descriptorIndex := 25, attributes := #[] }, { accessFlags := 25, nameIndex := 280, descriptorIndex := 25, attributes := #[] }, { accessFlags := 25, nameIndex := 282, descriptorIndex := 25, attributes := #[] }, { accessFlags := 25, nameIndex := 284, descriptorIndex := 25, attributes := #[] }, { accessFlags := 25, nameIndex := 286, descriptorIndex := 25, attributes := #[] }, { accessFlags := 25, nameIndex := 288, descriptorIndex := 25, attributes := #[] }, { accessFlags := 25, nameIndex := 290, descriptorIndex := 25, attributes := #[] }, { accessFlags := 25, nameIndex := 292, descriptorIndex := 25, attributes := #[] }, { accessFlags := 26, nameIndex := 108, descriptorIndex := 109, attributes := #[] }, { accessFlags := 25, nameIndex := 294, descriptorIndex := 25, attributes := #[] }])
  fields := #[{ name := "U", type := (.object "jdk/internal/misc/Unsafe"), accessFlags := 24, slot := 0, constantValue := 0 }, { name := "BIG_ENDIAN", type := .boolean, accessFlags := 26, slot := 1, constantValue := 0 }, { name := "LOG2_ARRAY_BOOLEAN_INDEX_SCALE", type := .int, accessFlags := 25, slot := 2, constantValue := 0 }, { name := "LOG2_ARRAY_BYTE_INDEX_SCALE", type := .int, accessFlags := 25, slot := 3, constantValue := 0 }, { name := "LOG2_ARRAY_CHAR_INDEX_SCALE", type := .int, accessFlags := 25, slot := 4, constantValue := 0 }, { name := "LOG2_ARRAY_SHORT_INDEX_SCALE", type := .int, accessFlags := 25, slot := 5, constantValue := 0 }, { name := "LOG2_ARRAY_INT_INDEX_SCALE", type := .int, accessFlags := 25, slot := 6, constantValue := 0 }, { name := "LOG2_ARRAY_LONG_INDEX_SCALE", type := .int, accessFlags := 25, slot := 7, constantValue := 0 }, { name := "LOG2_ARRAY_FLOAT_INDEX_SCALE", type := .int, accessFlags := 25, slot := 8, constantValue := 0 }, { name := "LOG2_ARRAY_DOUBLE_INDEX_SCALE", type := .int, accessFlags := 25, slot := 9, constantValue := 0 }, { name := "LOG2_BYTE_BIT_SIZE", type := .int, accessFlags := 26, slot := 10, constantValue := 0 }, { name := "T_BOOLEAN", type := .int, accessFlags := 25, slot := 11, constantValue := 0 }, { name := "T_CHAR", type := .int, accessFlags := 25, slot := 12, constantValue := 0 }, { name := "T_FLOAT", type := .int, accessFlags := 25, slot := 13, constantValue := 0 }, { name := "T_DOUBLE", type := .int, accessFlags := 25, slot := 14, constantValue := 0 }, { name := "T_BYTE", type := .int, accessFlags := 25, slot := 15, constantValue := 0 }, { name := "T_SHORT", type := .int, accessFlags := 25, slot := 16, constantValue := 0 }, { name := "T_INT", type := .int, accessFlags := 25, slot := 17, constantValue := 0 }, { name := "T_LONG", type := .int, accessFlags := 25, slot := 18, constantValue := 0 }, { name := "JLA", type := (.object "jdk/internal/access/JavaLangAccess"), accessFlags := 26, slot := 19, constantValue := 0 }, { name := "SOFT_MAX_ARRAY_LENGTH", type := .int, accessFlags := 25, slot := 20, constantValue := 0 }]
  methods := #[k14m0, k14m1]
  instanceTypes := #[]
  staticTypes := #[(.object "jdk/internal/misc/Unsafe"), .boolean, .int, .int, .int, .int, .int, .int, .int, .int, .int, .int, .int, .int, .int, .int, .int, .int, .int, (.object "jdk/internal/access/JavaLangAccess"), .int]
  resolved := Array.replicate 378 none
  statics := none }

def pool15 : Array CpInfo := pool [(1, .class_ 2), (0, u "java/lang/Math"), (1, .class_ 6), (1, u "java/lang/Object"), (0, u "<init>"), (0, u "()V"), (89, .class_ 100), (1, u "java/lang/Math$RandomNumberGeneratorHolder"), (71, u "negativeZeroFloatBits"), (0, u "J"), (2, u "negativeZeroDoubleBits"), (21, u "max"), (2, u "min"), (43, u "$assertionsDisabled"), (0, u "Z"), (88, u "(II)I"), (2, u "twoToTheDoubleScaleDown"), (0, u "D"), (4, u "twoToTheDoubleScaleUp"), (9, u "E"), (3, u "PI"), (2, u "TAU"), (2, u "DEGREES_TO_RADIANS"), (0, u "RADIANS_TO_DEGREES")] 94

def k15m0 : Method := { name := "<init>", desc := "()V", sig := { parameters := [], returnType := none }, accessFlags := 2, code := none }
def k15c1 : Code := { maxStack := 2, maxLocals := 2, code := jdk_29_method_65_code, exceptionTable := #[], attributes := #[] }
def k15m1 : Method := { name := "max", desc := "(II)I", sig := { parameters := [.int, .int], returnType := some .int }, accessFlags := 9, code := some k15c1 }
def k15c2 : Code := { maxStack := 2, maxLocals := 2, code := jdk_29_method_69_code, exceptionTable := #[], attributes := #[] }
def k15m2 : Method := { name := "min", desc := "(II)I", sig := { parameters := [.int, .int], returnType := some .int }, accessFlags := 9, code := some k15c2 }
/-- java/lang/Math -/
def k15 : Class := { plain "java/lang/Math" (some 0) with
  accessFlags := 49
  interfaces := #[]
  cf := some (fileOf pool15 1 #[.nestMembers #[98]] #[{ accessFlags := 2, nameIndex := 7, descriptorIndex := 8, attributes := #[] }, { accessFlags := 9, nameIndex := 198, descriptorIndex := 335, attributes := #[] }, { accessFlags := 9, nameIndex := 201, descriptorIndex := 335, attributes := #[] }] 49 4 #[] #[{ accessFlags := 25, nameIndex := 354, descriptorIndex := 339, attributes := #[] }, { accessFlags := 25, nameIndex := 358, descriptorIndex := 339, attributes := #[] }, { accessFlags := 25, nameIndex := 361, descriptorIndex := 339, attributes := #[] }, { accessFlags := 26, nameIndex := 364, descriptorIndex := 339, attributes := #[] }, { accessFlags := 26, nameIndex := 365, descriptorIndex := 339, attributes := #[] }, { accessFlags := 26, nameIndex := 172, descriptorIndex := 173, attributes := #[] }, { accessFlags := 26, nameIndex := 176, descriptorIndex := 173, attributes := #[] }, { accessFlags := 8, nameIndex := 344, descriptorIndex := 339, attributes := #[] }, { accessFlags := 8, nameIndex := 338, descriptorIndex := 339, attributes := #[] }, { accessFlags := 4120, nameIndex := 245, descriptorIndex := 246, attributes := #[] }])
  fields := #[{ name := "E", type := .double, accessFlags := 25, slot := 0, constantValue := 0 }, { name := "PI", type := .double, accessFlags := 25, slot := 1, constantValue := 0 }, { name := "TAU", type := .double, accessFlags := 25, slot := 2, constantValue := 0 }, { name := "DEGREES_TO_RADIANS", type := .double, accessFlags := 26, slot := 3, constantValue := 0 }, { name := "RADIANS_TO_DEGREES", type := .double, accessFlags := 26, slot := 4, constantValue := 0 }, { name := "negativeZeroFloatBits", type := .long, accessFlags := 26, slot := 5, constantValue := 0 }, { name := "negativeZeroDoubleBits", type := .long, accessFlags := 26, slot := 6, constantValue := 0 }, { name := "twoToTheDoubleScaleUp", type := .double, accessFlags := 8, slot := 7, constantValue := 0 }, { name := "twoToTheDoubleScaleDown", type := .double, accessFlags := 8, slot := 8, constantValue := 0 }, { name := "$assertionsDisabled", type := .boolean, accessFlags := 4120, slot := 9, constantValue := 0 }]
  methods := #[k15m0, k15m1, k15m2]
  instanceTypes := #[]
  staticTypes := #[.double, .double, .double, .double, .double, .long, .long, .double, .double, .boolean]
  resolved := Array.replicate 460 none
  statics := none }

def pool16 : Array CpInfo := pool [(2, .class_ 4), (1, u "java/lang/Object"), (0, u "<init>"), (0, u "()V"), (7, .class_ 16), (1, u "java/util/Arrays"), (57, .class_ 76), (1, u "java/util/Arrays$NaturalOrder"), (36, .class_ 115), (1, u "java/util/Arrays$LegacyMergeSort"), (1, u "Z"), (21, u "copyOfRange"), (10, .methodref 151 152), (0, .class_ 153), (0, .nameAndType 154 155), (0, u "java/lang/System"), (0, u "arraycopy"), (0, u "(Ljava/lang/Object;ILjava/lang/Object;II)V"), (146, u "copyOf"), (1, .methodref 305 306), (0, .class_ 307), (0, .nameAndType 308 309), (0, u "java/lang/Math"), (0, u "min"), (0, u "(II)I"), (29, .methodref 14 340), (0, .nameAndType 341 342), (0, u "copyOfRangeByte"), (0, u "([BII)[B"), (0, .methodref 14 344), (0, .nameAndType 345 346), (0, u "checkLength"), (0, u "(II)V"), (28, .class_ 376), (0, u "java/util/Arrays$ArrayList"), (68, u "$assertionsDisabled"), (269, u "MIN_ARRAY_SORT_GRAN"), (0, u "I"), (2, u "INSERTIONSORT_THRESHOLD"), (149, u "([BI)[B"), (105, .class_ 976), (0, u "java/util/Arrays$ArrayItr")] 52

def k16m0 : Method := { name := "<init>", desc := "()V", sig := { parameters := [], returnType := none }, accessFlags := 2, code := none }
def k16c1 : Code := { maxStack := 6, maxLocals := 3, code := jdk_65_method_121_code, exceptionTable := #[], attributes := #[] }
def k16m1 : Method := { name := "copyOf", desc := "([BI)[B", sig := { parameters := [(.array .byte), .int], returnType := some (.array .byte) }, accessFlags := 9, code := some k16c1 }
def k16c2 : Code := { maxStack := 4, maxLocals := 2, code := jdk_65_method_131_code, exceptionTable := #[], attributes := #[] }
def k16m2 : Method := { name := "checkLength", desc := "(II)V", sig := { parameters := [.int, .int], returnType := none }, accessFlags := 10, code := some k16c2 }
def k16c3 : Code := { maxStack := 3, maxLocals := 3, code := jdk_65_method_132_code, exceptionTable := #[], attributes := #[] }
def k16m3 : Method := { name := "copyOfRange", desc := "([BII)[B", sig := { parameters := [(.array .byte), .int, .int], returnType := some (.array .byte) }, accessFlags := 9, code := some k16c3 }
def k16c4 : Code := { maxStack := 6, maxLocals := 5, code := jdk_65_method_133_code, exceptionTable := #[], attributes := #[] }
def k16m4 : Method := { name := "copyOfRangeByte", desc := "([BII)[B", sig := { parameters := [(.array .byte), .int, .int], returnType := some (.array .byte) }, accessFlags := 10, code := some k16c4 }
/-- java/util/Arrays -/
def k16 : Class := { plain "java/util/Arrays" (some 0) with
  accessFlags := 49
  interfaces := #[]
  cf := some (fileOf pool16 14 #[.nestMembers #[975, 375, 113, 74]] #[{ accessFlags := 2, nameIndex := 5, descriptorIndex := 6, attributes := #[] }, { accessFlags := 9, nameIndex := 302, descriptorIndex := 869, attributes := #[] }, { accessFlags := 10, nameIndex := 345, descriptorIndex := 346, attributes := #[] }, { accessFlags := 9, nameIndex := 139, descriptorIndex := 342, attributes := #[] }, { accessFlags := 10, nameIndex := 341, descriptorIndex := 342, attributes := #[] }] 49 2 #[] #[{ accessFlags := 26, nameIndex := 715, descriptorIndex := 716, attributes := #[] }, { accessFlags := 26, nameIndex := 719, descriptorIndex := 716, attributes := #[] }, { accessFlags := 4120, nameIndex := 445, descriptorIndex := 117, attributes := #[] }])
  fields := #[{ name := "MIN_ARRAY_SORT_GRAN", type := .int, accessFlags := 26, slot := 0, constantValue := 0 }, { name := "INSERTIONSORT_THRESHOLD", type := .int, accessFlags := 26, slot := 1, constantValue := 0 }, { name := "$assertionsDisabled", type := .boolean, accessFlags := 4120, slot := 2, constantValue := 0 }]
  methods := #[k16m0, k16m1, k16m2, k16m3, k16m4]
  instanceTypes := #[]
  staticTypes := #[.int, .int, .boolean]
  resolved := Array.replicate 1029 none
  statics := none }

def pool17 : Array CpInfo := pool [(6, .class_ 8), (1, u "java/lang/Object"), (0, u "<init>"), (0, u "()V"), (1, .class_ 14), (1, u "java/lang/StringUTF16"), (31, u "$assertionsDisabled"), (0, u "Z"), (13, u "HI_BYTE_SHIFT"), (0, u "I"), (2, u "LO_BYTE_SHIFT"), (49, .methodref 12 116), (0, .nameAndType 117 118), (0, u "compress"), (0, u "([CI[BII)I"), (3, u "([CII)[B"), (138, u "coderFromArrayLen"), (0, u "([BI)B"), (106, .class_ 371), (1, u "java/lang/StringUTF16$LinesSpliterator"), (58, u "MAX_LENGTH"), (196, .class_ 628), (0, u "java/lang/StringUTF16$CodePointsSpliterator"), (0, .class_ 630), (0, u "java/lang/StringUTF16$CharsSpliterator")] 4

def k17m0 : Method := { name := "<init>", desc := "()V", sig := { parameters := [], returnType := none }, accessFlags := 0, code := none }
def k17c1 : Code := { maxStack := 2, maxLocals := 2, code := jdk_52_method_15_code, exceptionTable := #[], attributes := #[] }
def k17m1 : Method := { name := "coderFromArrayLen", desc := "([BI)B", sig := { parameters := [(.array .byte), .int], returnType := some .byte }, accessFlags := 8, code := some k17c1 }
def k17c2 : Code := { maxStack := 5, maxLocals := 6, code := jdk_52_method_16_code, exceptionTable := #[], attributes := #[] }
def k17m2 : Method := { name := "compress", desc := "([CII)[B", sig := { parameters := [(.array .char), .int, .int], returnType := some (.array .byte) }, accessFlags := 9, code := some k17c2 }
def k17c3 : Code := { maxStack := 3, maxLocals := 7, code := jdk_52_method_21_code, exceptionTable := #[], attributes := #[] }
def k17m3 : Method := { name := "compress", desc := "([CI[BII)I", sig := { parameters := [(.array .char), .int, (.array .byte), .int, .int], returnType := some .int }, accessFlags := 9, code := some k17c3 }
/-- java/lang/StringUTF16 -/
def k17 : Class := { plain "java/lang/StringUTF16" (some 0) with
  accessFlags := 48
  interfaces := #[]
  cf := some (fileOf pool17 12 #[.nestMembers #[627, 629, 369]] #[{ accessFlags := 0, nameIndex := 9, descriptorIndex := 10, attributes := #[] }, { accessFlags := 8, nameIndex := 261, descriptorIndex := 262, attributes := #[] }, { accessFlags := 9, nameIndex := 117, descriptorIndex := 122, attributes := #[] }, { accessFlags := 9, nameIndex := 117, descriptorIndex := 118, attributes := #[] }] 48 6 #[] #[{ accessFlags := 26, nameIndex := 61, descriptorIndex := 62, attributes := #[] }, { accessFlags := 26, nameIndex := 65, descriptorIndex := 62, attributes := #[] }, { accessFlags := 24, nameIndex := 430, descriptorIndex := 62, attributes := #[] }, { accessFlags := 4120, nameIndex := 46, descriptorIndex := 47, attributes := #[] }])
  fields := #[{ name := "HI_BYTE_SHIFT", type := .int, accessFlags := 26, slot := 0, constantValue := 0 }, { name := "LO_BYTE_SHIFT", type := .int, accessFlags := 26, slot := 1, constantValue := 0 }, { name := "MAX_LENGTH", type := .int, accessFlags := 24, slot := 2, constantValue := 0 }, { name := "$assertionsDisabled", type := .boolean, accessFlags := 4120, slot := 3, constantValue := 0 }]
  methods := #[k17m0, k17m1, k17m2, k17m3]
  instanceTypes := #[]
  staticTypes := #[.int, .int, .int, .boolean]
  resolved := Array.replicate 635 none
  statics := none }

def pool18 : Array CpInfo := pool [(2, .class_ 4), (1, u "java/lang/Object"), (0, u "<init>"), (0, u "()V"), (17, .class_ 26), (1, u "jdk/internal/util/Preconditions"), (28, .class_ 56), (0, u "jdk/internal/util/Preconditions$4"), (57, .class_ 115), (0, u "jdk/internal/util/Preconditions$1"), (7, u "SIOOBE_FORMATTER"), (0, u "Ljava/util/function/BiFunction;"), (0, .class_ 126), (0, u "jdk/internal/util/Preconditions$2"), (3, u "AIOOBE_FORMATTER"), (0, .class_ 132), (0, u "jdk/internal/util/Preconditions$3"), (3, u "IOOBE_FORMATTER")] 57

def k18m0 : Method := { name := "<init>", desc := "()V", sig := { parameters := [], returnType := none }, accessFlags := 1, code := none }
/-- jdk/internal/util/Preconditions -/
def k18 : Class := { plain "jdk/internal/util/Preconditions" (some 0) with
  accessFlags := 33
  interfaces := #[]
  cf := some (fileOf pool18 24 #[.nestMembers #[55, 131, 125, 114]] #[{ accessFlags := 1, nameIndex := 5, descriptorIndex := 6, attributes := #[] }] 33 2 #[] #[{ accessFlags := 25, nameIndex := 123, descriptorIndex := 124, attributes := #[] }, { accessFlags := 25, nameIndex := 130, descriptorIndex := 124, attributes := #[] }, { accessFlags := 25, nameIndex := 136, descriptorIndex := 124, attributes := #[] }])
  fields := #[{ name := "SIOOBE_FORMATTER", type := (.object "java/util/function/BiFunction"), accessFlags := 25, slot := 0, constantValue := 0 }, { name := "AIOOBE_FORMATTER", type := (.object "java/util/function/BiFunction"), accessFlags := 25, slot := 1, constantValue := 0 }, { name := "IOOBE_FORMATTER", type := (.object "java/util/function/BiFunction"), accessFlags := 25, slot := 2, constantValue := 0 }]
  methods := #[k18m0]
  instanceTypes := #[]
  staticTypes := #[(.object "java/util/function/BiFunction"), (.object "java/util/function/BiFunction"), (.object "java/util/function/BiFunction")]
  resolved := Array.replicate 194 none
  statics := some 1 }

def pool19 : Array CpInfo := pool [(1, u "java/lang/Cloneable"), (0, .class_ 1), (0, u "java/lang/Object"), (0, .class_ 3)] 3

/-- java/lang/Cloneable -/
def k19 : Class := { plain "java/lang/Cloneable" (some 0) with
  accessFlags := 1537
  interfaces := #[]
  cf := some (fileOf pool19 2 #[] #[] 1537 4 #[] #[])
  fields := #[]
  methods := #[]
  instanceTypes := #[]
  staticTypes := #[]
  resolved := Array.replicate 8 none
  statics := none }

/-- the primitive byte -/
def k20 : Class := { plain "byte" none with kind := .primitive 'B', accessFlags := 0x411 }
/-- [B -/
def k21 : Class := { plain "[B" (some 0) with kind := .array 20 .byte, interfaces := #[19, 2], accessFlags := 1041 }

/-- the primitive char -/
def k22 : Class := { plain "char" none with kind := .primitive 'C', accessFlags := 0x411 }
/-- [C -/
def k23 : Class := { plain "[C" (some 0) with kind := .array 22 .char, interfaces := #[19, 2], accessFlags := 1041 }

/-- the primitive int -/
def k24 : Class := { plain "int" none with kind := .primitive 'I', accessFlags := 0x411 }
/-- [I -/
def k25 : Class := { plain "[I" (some 0) with kind := .array 24 .int, interfaces := #[19, 2], accessFlags := 1041 }

def heap : Heap := #[{ cls := 7, slots := #[.long 0, .int 1, .null, .int 0, .null, .int 0, .int 0], vm := .statics 7 },
  { cls := 18, slots := #[.null, .null, .null], vm := .statics 18 }]
def classes : Array Class := #[k0, k1, k2, k3, k4, k5, k6, k7, k8, k9, k10, k11, k12, k13, k14, k15, k16, k17, k18, k19, k20, k21, k22, k23, k24, k25]
def interned : List (Array UInt16 × Addr) := []
def slotsUsed : Nat := 10
def theMethod : MethodId := ⟨1, 1⟩
def args0 : Array Value := #[.int 70, .int 71, .int 72]
def aboutOver (below : List Frame) : State where
  vm := { classes := classes, interned := interned.toArray }
  heap := heap
  slotsUsed := slotsUsed
  threads := #[{ frames := .invoking theMethod args0 :: below }]
def below0 : List Frame := [.native { method := ⟨0, 0⟩, args := #[] }]
def about1 : State := aboutOver below0
def p0 : Program := .bare "" "" ""
def e0 : Env := launch0.env 0 0 0
theorem w_frames : about1.frames = Frame.invoking theMethod args0 :: below0 := rfl
set_option maxRecDepth 65536 in
theorem w_args : argsFit about1.vm theMethod args0 = true := by decide +kernel
set_option maxRecDepth 65536 in
theorem w_heap : heapFits about1 = true := by decide +kernel
set_option maxRecDepth 65536 in
theorem w_runnable : about1.curStatus? = some .runnable := by decide +kernel
set_option maxRecDepth 65536 in
theorem w_alone : about1.alone = true := by decide +kernel
set_option maxRecDepth 65536 in
theorem w_named : about1.methodNamed? x = some theMethod := by decide +kernel
set_option maxRecDepth 65536 in
theorem w_hears : about1.hears theMethod below0 = true := by decide +kernel
set_option maxRecDepth 65536 in
theorem w_ripe : about1.ripe theMethod args0 below0 = true := by decide +kernel
theorem w_running : about1.status = .running := rfl
set_option maxRecDepth 65536 in
theorem w_room : about1.hasRoom e0.platform room_1 = true :=
  launch0.hasRoom_least _ room_1 (by decide +kernel) (by decide +kernel) (by decide +kernel) (by decide +kernel) (by decide +kernel) (by decide +kernel)
theorem allAtoms_all (ts : List Jvm.Cond) (a : Array Jvm.Value) (st : Jvm.State) : (allAtoms ts).before a st = ts.all (fun c => c.before a st) := by
  induction ts with
  | nil => rfl
  | cons c t ih =>
    show (Jvm.Cond.and c (allAtoms t)).before a st = _
    rw [Jvm.Cond.before_and, ih, List.all_cons]
def words1 : List Jvm.Cond := Jvm.Cond.code x code maxLocals ret :: tables_1
/-- a 'code' word, met by the world's own term for the bytes: nothing is compared byte by byte -/
theorem code_word {y : MethodName} {bytes : ByteArray} {mx : Nat} {rt : Option FieldType} {a : Array Value} {s : State} {m : MethodId} {meth : Method} {c : Code} (h1 : s.methodNamed? y = some m) (h2 : s.vm.method? m = some meth) (h3 : meth.code = some c) (h4 : c.code = bytes)
    (h5 : (c.maxLocals == mx && c.exceptionTable.isEmpty && decide (c.maxStack ≤ mostOperands) && decide (meth.sig.returnType = rt) && !meth.locks && decide (parseMethodDescriptor y.desc = some meth.sig)) = true) : (Jvm.Cond.code y bytes mx rt).before a s = true := by
  simp only [Bool.and_eq_true, beq_iff_eq, Bool.not_eq_true', decide_eq_true_eq] at h5
  obtain ⟨⟨⟨⟨⟨g1, g2⟩, g3⟩, g4⟩, g5⟩, g6⟩ := h5
  simp [Cond.before, Cond.holds, Cond.value, h1, h2, h3, h4, g1, g2, g3, g4, g5, g6]
def isCode : Jvm.Cond → Bool
  | .code _ _ _ _ => true
  | _ => false
theorem all_split {L : List Jvm.Cond} {P : Jvm.Cond → Bool} (h1 : L.all (fun c => isCode c || P c) = true) (h2 : ∀ c ∈ L.filter isCode, P c = true) : L.all P = true := by
  refine List.all_eq_true.mpr fun c hc => ?_
  have h := List.all_eq_true.mp h1 c hc
  rcases Bool.eq_false_or_eq_true (isCode c) with hi | hi
  · exact h2 c (List.mem_filter.mpr ⟨hc, hi⟩)
  · simpa [hi] using h
set_option maxRecDepth 65536 in
theorem w_c0 : (Jvm.Cond.code x code maxLocals ret).before args0 about1 = true := code_word (m := ⟨1, 1⟩) (meth := k1m1) (c := k1c1) (by decide +kernel) rfl rfl rfl (by decide +kernel)
set_option maxRecDepth 65536 in
theorem w_c1 : (Jvm.Cond.code ({ cls := "java/lang/String", name := "valueOf", desc := "(C)Ljava/lang/String;" } : Jvm.MethodName) jdk_42_method_139_code (1 : Nat) (Option.some (Jvm.ClassFile.FieldType.object "java/lang/String"))).before args0 about1 = true := code_word (m := ⟨7, 5⟩) (meth := k7m5) (c := k7c5) (by decide +kernel) rfl rfl rfl (by decide +kernel)
set_option maxRecDepth 65536 in
theorem w_c2 : (Jvm.Cond.code ({ cls := "java/lang/StringLatin1", name := "canEncode", desc := "(C)Z" } : Jvm.MethodName) jdk_43_method_3_code (1 : Nat) (Option.some Jvm.ClassFile.FieldType.boolean)).before args0 about1 = true := code_word (m := ⟨8, 1⟩) (meth := k8m1) (c := k8c1) (by decide +kernel) rfl rfl rfl (by decide +kernel)
set_option maxRecDepth 65536 in
theorem w_c3 : (Jvm.Cond.code ({ cls := "java/lang/StringLatin1", name := "toBytes", desc := "(C)[B" } : Jvm.MethodName) jdk_43_method_46_code (1 : Nat) (Option.some (Jvm.ClassFile.FieldType.array Jvm.ClassFile.FieldType.byte))).before args0 about1 = true := code_word (m := ⟨8, 3⟩) (meth := k8m3) (c := k8c3) (by decide +kernel) rfl rfl rfl (by decide +kernel)
set_option maxRecDepth 65536 in
theorem w_c4 : (Jvm.Cond.code ({ cls := "java/lang/String", name := "<init>", desc := "([BB)V" } : Jvm.MethodName) jdk_42_method_151_code (3 : Nat) (Option.none : Option Jvm.ClassFile.FieldType)).before args0 about1 = true := code_word (m := ⟨7, 9⟩) (meth := k7m9) (c := k7c9) (by decide +kernel) rfl rfl rfl (by decide +kernel)
set_option maxRecDepth 65536 in
theorem w_c5 : (Jvm.Cond.code ({ cls := "java/lang/Object", name := "<init>", desc := "()V" } : Jvm.MethodName) object_method_1_code (1 : Nat) (Option.none : Option Jvm.ClassFile.FieldType)).before args0 about1 = true := code_word (m := ⟨0, 0⟩) (meth := k0m0) (c := k0c0) (by decide +kernel) rfl rfl rfl (by decide +kernel)
set_option maxRecDepth 65536 in
theorem w_c6 : (Jvm.Cond.code ({ cls := "com/example/tender/tender/store/PropertyTable", name := "<init>", desc := "(Ljava/lang/String;Ljava/lang/String;)V" } : Jvm.MethodName) prog_36_method_1_code (3 : Nat) (Option.none : Option Jvm.ClassFile.FieldType)).before args0 about1 = true := code_word (m := ⟨9, 0⟩) (meth := k9m0) (c := k9c0) (by decide +kernel) rfl rfl rfl (by decide +kernel)
set_option maxRecDepth 65536 in
theorem w_c7 : (Jvm.Cond.code ({ cls := "com/example/tender/tender/store/PropertyTable", name := "deleteOwnedBy", desc := "(Ljava/lang/String;)Ljava/lang/String;" } : Jvm.MethodName) prog_36_method_4_code (2 : Nat) (Option.some (Jvm.ClassFile.FieldType.object "java/lang/String"))).before args0 about1 = true := code_word (m := ⟨9, 1⟩) (meth := k9m1) (c := k9c1) (by decide +kernel) rfl rfl rfl (by decide +kernel)
set_option maxRecDepth 65536 in
theorem w_c8 : (Jvm.Cond.code ({ cls := "java/lang/StringBuilder", name := "<init>", desc := "()V" } : Jvm.MethodName) jdk_67_method_1_code (1 : Nat) (Option.none : Option Jvm.ClassFile.FieldType)).before args0 about1 = true := code_word (m := ⟨12, 0⟩) (meth := k12m0) (c := k12c0) (by decide +kernel) rfl rfl rfl (by decide +kernel)
set_option maxRecDepth 65536 in
theorem w_c9 : (Jvm.Cond.code ({ cls := "java/lang/AbstractStringBuilder", name := "<init>", desc := "(I)V" } : Jvm.MethodName) jdk_68_method_2_code (2 : Nat) (Option.none : Option Jvm.ClassFile.FieldType)).before args0 about1 = true := code_word (m := ⟨11, 1⟩) (meth := k11m1) (c := k11c1) (by decide +kernel) rfl rfl rfl (by decide +kernel)
set_option maxRecDepth 65536 in
theorem w_c10 : (Jvm.Cond.code ({ cls := "java/lang/StringBuilder", name := "append", desc := "(Ljava/lang/String;)Ljava/lang/StringBuilder;" } : Jvm.MethodName) jdk_67_method_7_code (2 : Nat) (Option.some (Jvm.ClassFile.FieldType.object "java/lang/StringBuilder"))).before args0 about1 = true := code_word (m := ⟨12, 1⟩) (meth := k12m1) (c := k12c1) (by decide +kernel) rfl rfl rfl (by decide +kernel)
set_option maxRecDepth 65536 in
theorem w_c11 : (Jvm.Cond.code ({ cls := "java/lang/AbstractStringBuilder", name := "append", desc := "(Ljava/lang/String;)Ljava/lang/AbstractStringBuilder;" } : Jvm.MethodName) jdk_68_method_22_code (3 : Nat) (Option.some (Jvm.ClassFile.FieldType.object "java/lang/AbstractStringBuilder"))).before args0 about1 = true := code_word (m := ⟨11, 5⟩) (meth := k11m5) (c := k11c5) (by decide +kernel) rfl rfl rfl (by decide +kernel)
set_option maxRecDepth 65536 in
theorem w_c12 : (Jvm.Cond.code ({ cls := "java/lang/String", name := "length", desc := "()I" } : Jvm.MethodName) jdk_42_method_54_code (1 : Nat) (Option.some Jvm.ClassFile.FieldType.int)).before args0 about1 = true := code_word (m := ⟨7, 3⟩) (meth := k7m3) (c := k7c3) (by decide +kernel) rfl rfl rfl (by decide +kernel)
set_option maxRecDepth 65536 in
theorem w_c13 : (Jvm.Cond.code ({ cls := "java/lang/String", name := "coder", desc := "()B" } : Jvm.MethodName) jdk_42_method_152_code (1 : Nat) (Option.some Jvm.ClassFile.FieldType.byte)).before args0 about1 = true := code_word (m := ⟨7, 10⟩) (meth := k7m10) (c := k7c10) (by decide +kernel) rfl rfl rfl (by decide +kernel)
set_option maxRecDepth 65536 in
theorem w_c14 : (Jvm.Cond.code ({ cls := "java/lang/AbstractStringBuilder", name := "ensureCapacityInternal", desc := "(I)V" } : Jvm.MethodName) jdk_68_method_9_code (3 : Nat) (Option.none : Option Jvm.ClassFile.FieldType)).before args0 about1 = true := code_word (m := ⟨11, 3⟩) (meth := k11m3) (c := k11c3) (by decide +kernel) rfl rfl rfl (by decide +kernel)
set_option maxRecDepth 65536 in
theorem w_c15 : (Jvm.Cond.code ({ cls := "java/lang/AbstractStringBuilder", name := "putStringAt", desc := "(ILjava/lang/String;)V" } : Jvm.MethodName) jdk_68_method_73_code (3 : Nat) (Option.none : Option Jvm.ClassFile.FieldType)).before args0 about1 = true := code_word (m := ⟨11, 9⟩) (meth := k11m9) (c := k11c9) (by decide +kernel) rfl rfl rfl (by decide +kernel)
set_option maxRecDepth 65536 in
theorem w_c16 : (Jvm.Cond.code ({ cls := "java/lang/AbstractStringBuilder", name := "inflateIfNeededFor", desc := "(Ljava/lang/String;)V" } : Jvm.MethodName) jdk_68_method_71_code (2 : Nat) (Option.none : Option Jvm.ClassFile.FieldType)).before args0 about1 = true := code_word (m := ⟨11, 8⟩) (meth := k11m8) (c := k11c8) (by decide +kernel) rfl rfl rfl (by decide +kernel)
set_option maxRecDepth 65536 in
theorem w_c17 : (Jvm.Cond.code ({ cls := "java/lang/String", name := "getBytes", desc := "([BIB)V" } : Jvm.MethodName) jdk_42_method_147_code (4 : Nat) (Option.none : Option Jvm.ClassFile.FieldType)).before args0 about1 = true := code_word (m := ⟨7, 6⟩) (meth := k7m6) (c := k7c6) (by decide +kernel) rfl rfl rfl (by decide +kernel)
set_option maxRecDepth 65536 in
theorem w_c18 : (Jvm.Cond.code ({ cls := "java/lang/AbstractStringBuilder", name := "newCapacity", desc := "(I)I" } : Jvm.MethodName) jdk_68_method_10_code (6 : Nat) (Option.some Jvm.ClassFile.FieldType.int)).before args0 about1 = true := code_word (m := ⟨11, 4⟩) (meth := k11m4) (c := k11c4) (by decide +kernel) rfl rfl rfl (by decide +kernel)
set_option maxRecDepth 65536 in
theorem w_c19 : (Jvm.Cond.code ({ cls := "jdk/internal/util/ArraysSupport", name := "newLength", desc := "(III)I" } : Jvm.MethodName) jdk_48_method_27_code (4 : Nat) (Option.some Jvm.ClassFile.FieldType.int)).before args0 about1 = true := code_word (m := ⟨14, 1⟩) (meth := k14m1) (c := k14c1) (by decide +kernel) rfl rfl rfl (by decide +kernel)
set_option maxRecDepth 65536 in
theorem w_c20 : (Jvm.Cond.code ({ cls := "java/lang/Math", name := "max", desc := "(II)I" } : Jvm.MethodName) jdk_29_method_65_code (2 : Nat) (Option.some Jvm.ClassFile.FieldType.int)).before args0 about1 = true := code_word (m := ⟨15, 1⟩) (meth := k15m1) (c := k15c1) (by decide +kernel) rfl rfl rfl (by decide +kernel)
set_option maxRecDepth 65536 in
theorem w_c21 : (Jvm.Cond.code ({ cls := "java/util/Arrays", name := "copyOf", desc := "([BI)[B" } : Jvm.MethodName) jdk_65_method_121_code (3 : Nat) (Option.some (Jvm.ClassFile.FieldType.array Jvm.ClassFile.FieldType.byte))).before args0 about1 = true := code_word (m := ⟨16, 1⟩) (meth := k16m1) (c := k16c1) (by decide +kernel) rfl rfl rfl (by decide +kernel)
set_option maxRecDepth 65536 in
theorem w_c22 : (Jvm.Cond.code ({ cls := "java/lang/Math", name := "min", desc := "(II)I" } : Jvm.MethodName) jdk_29_method_69_code (2 : Nat) (Option.some Jvm.ClassFile.FieldType.int)).before args0 about1 = true := code_word (m := ⟨15, 2⟩) (meth := k15m2) (c := k15c2) (by decide +kernel) rfl rfl rfl (by decide +kernel)
set_option maxRecDepth 65536 in
theorem w_c23 : (Jvm.Cond.code ({ cls := "java/lang/StringBuilder", name := "toString", desc := "()Ljava/lang/String;" } : Jvm.MethodName) jdk_67_method_42_code (1 : Nat) (Option.some (Jvm.ClassFile.FieldType.object "java/lang/String"))).before args0 about1 = true := code_word (m := ⟨12, 2⟩) (meth := k12m2) (c := k12c2) (by decide +kernel) rfl rfl rfl (by decide +kernel)
set_option maxRecDepth 65536 in
theorem w_c24 : (Jvm.Cond.code ({ cls := "java/lang/String", name := "<init>", desc := "(Ljava/lang/StringBuilder;)V" } : Jvm.MethodName) jdk_42_method_53_code (2 : Nat) (Option.none : Option Jvm.ClassFile.FieldType)).before args0 about1 = true := code_word (m := ⟨7, 2⟩) (meth := k7m2) (c := k7c2) (by decide +kernel) rfl rfl rfl (by decide +kernel)
set_option maxRecDepth 65536 in
theorem w_c25 : (Jvm.Cond.code ({ cls := "java/lang/String", name := "<init>", desc := "(Ljava/lang/AbstractStringBuilder;Ljava/lang/Void;)V" } : Jvm.MethodName) jdk_42_method_150_code (5 : Nat) (Option.none : Option Jvm.ClassFile.FieldType)).before args0 about1 = true := code_word (m := ⟨7, 8⟩) (meth := k7m8) (c := k7c8) (by decide +kernel) rfl rfl rfl (by decide +kernel)
set_option maxRecDepth 65536 in
theorem w_c26 : (Jvm.Cond.code ({ cls := "java/lang/AbstractStringBuilder", name := "getValue", desc := "()[B" } : Jvm.MethodName) jdk_68_method_64_code (1 : Nat) (Option.some (Jvm.ClassFile.FieldType.array Jvm.ClassFile.FieldType.byte))).before args0 about1 = true := code_word (m := ⟨11, 6⟩) (meth := k11m6) (c := k11c6) (by decide +kernel) rfl rfl rfl (by decide +kernel)
set_option maxRecDepth 65536 in
theorem w_c27 : (Jvm.Cond.code ({ cls := "java/lang/StringBuilder", name := "length", desc := "()I" } : Jvm.MethodName) jdk_67_method_93_code (1 : Nat) (Option.some Jvm.ClassFile.FieldType.int)).before args0 about1 = true := code_word (m := ⟨12, 3⟩) (meth := k12m3) (c := k12c3) (by decide +kernel) rfl rfl rfl (by decide +kernel)
set_option maxRecDepth 65536 in
theorem w_c28 : (Jvm.Cond.code ({ cls := "java/lang/AbstractStringBuilder", name := "length", desc := "()I" } : Jvm.MethodName) jdk_68_method_6_code (1 : Nat) (Option.some Jvm.ClassFile.FieldType.int)).before args0 about1 = true := code_word (m := ⟨11, 2⟩) (meth := k11m2) (c := k11c2) (by decide +kernel) rfl rfl rfl (by decide +kernel)
set_option maxRecDepth 65536 in
theorem w_c29 : (Jvm.Cond.code ({ cls := "java/lang/AbstractStringBuilder", name := "isLatin1", desc := "()Z" } : Jvm.MethodName) jdk_68_method_68_code (1 : Nat) (Option.some Jvm.ClassFile.FieldType.boolean)).before args0 about1 = true := code_word (m := ⟨11, 7⟩) (meth := k11m7) (c := k11c7) (by decide +kernel) rfl rfl rfl (by decide +kernel)
set_option maxRecDepth 65536 in
theorem w_c30 : (Jvm.Cond.code ({ cls := "java/util/Arrays", name := "copyOfRange", desc := "([BII)[B" } : Jvm.MethodName) jdk_65_method_132_code (3 : Nat) (Option.some (Jvm.ClassFile.FieldType.array Jvm.ClassFile.FieldType.byte))).before args0 about1 = true := code_word (m := ⟨16, 3⟩) (meth := k16m3) (c := k16c3) (by decide +kernel) rfl rfl rfl (by decide +kernel)
set_option maxRecDepth 65536 in
theorem w_c31 : (Jvm.Cond.code ({ cls := "java/util/Arrays", name := "copyOfRangeByte", desc := "([BII)[B" } : Jvm.MethodName) jdk_65_method_133_code (5 : Nat) (Option.some (Jvm.ClassFile.FieldType.array Jvm.ClassFile.FieldType.byte))).before args0 about1 = true := code_word (m := ⟨16, 4⟩) (meth := k16m4) (c := k16c4) (by decide +kernel) rfl rfl rfl (by decide +kernel)
set_option maxRecDepth 65536 in
theorem w_c32 : (Jvm.Cond.code ({ cls := "java/util/Arrays", name := "checkLength", desc := "(II)V" } : Jvm.MethodName) jdk_65_method_131_code (2 : Nat) (Option.none : Option Jvm.ClassFile.FieldType)).before args0 about1 = true := code_word (m := ⟨16, 2⟩) (meth := k16m2) (c := k16c2) (by decide +kernel) rfl rfl rfl (by decide +kernel)
set_option maxRecDepth 65536 in
theorem w_c33 : (Jvm.Cond.code ({ cls := "java/lang/String", name := "<init>", desc := "([C)V" } : Jvm.MethodName) jdk_42_method_3_code (2 : Nat) (Option.none : Option Jvm.ClassFile.FieldType)).before args0 about1 = true := code_word (m := ⟨7, 1⟩) (meth := k7m1) (c := k7c1) (by decide +kernel) rfl rfl rfl (by decide +kernel)
set_option maxRecDepth 65536 in
theorem w_c34 : (Jvm.Cond.code ({ cls := "java/lang/String", name := "<init>", desc := "([CIILjava/lang/Void;)V" } : Jvm.MethodName) jdk_42_method_149_code (6 : Nat) (Option.none : Option Jvm.ClassFile.FieldType)).before args0 about1 = true := code_word (m := ⟨7, 7⟩) (meth := k7m7) (c := k7c7) (by decide +kernel) rfl rfl rfl (by decide +kernel)
set_option maxRecDepth 65536 in
theorem w_c35 : (Jvm.Cond.code ({ cls := "java/lang/StringUTF16", name := "compress", desc := "([CII)[B" } : Jvm.MethodName) jdk_52_method_16_code (6 : Nat) (Option.some (Jvm.ClassFile.FieldType.array Jvm.ClassFile.FieldType.byte))).before args0 about1 = true := code_word (m := ⟨17, 2⟩) (meth := k17m2) (c := k17c2) (by decide +kernel) rfl rfl rfl (by decide +kernel)
set_option maxRecDepth 65536 in
theorem w_c36 : (Jvm.Cond.code ({ cls := "java/lang/StringUTF16", name := "compress", desc := "([CI[BII)I" } : Jvm.MethodName) jdk_52_method_21_code (7 : Nat) (Option.some Jvm.ClassFile.FieldType.int)).before args0 about1 = true := code_word (m := ⟨17, 3⟩) (meth := k17m3) (c := k17c3) (by decide +kernel) rfl rfl rfl (by decide +kernel)
set_option maxRecDepth 65536 in
theorem w_c37 : (Jvm.Cond.code ({ cls := "java/lang/StringUTF16", name := "coderFromArrayLen", desc := "([BI)B" } : Jvm.MethodName) jdk_52_method_15_code (2 : Nat) (Option.some Jvm.ClassFile.FieldType.byte)).before args0 about1 = true := code_word (m := ⟨17, 1⟩) (meth := k17m1) (c := k17c1) (by decide +kernel) rfl rfl rfl (by decide +kernel)
set_option maxRecDepth 65536 in
theorem w_c38 : (Jvm.Cond.code ({ cls := "java/lang/String", name := "equals", desc := "(Ljava/lang/Object;)Z" } : Jvm.MethodName) jdk_42_method_66_code (3 : Nat) (Option.some Jvm.ClassFile.FieldType.boolean)).before args0 about1 = true := code_word (m := ⟨7, 4⟩) (meth := k7m4) (c := k7c4) (by decide +kernel) rfl rfl rfl (by decide +kernel)
set_option maxRecDepth 65536 in
theorem w_c39 : (Jvm.Cond.code ({ cls := "java/lang/StringLatin1", name := "equals", desc := "([B[B)Z" } : Jvm.MethodName) jdk_43_method_13_code (3 : Nat) (Option.some Jvm.ClassFile.FieldType.boolean)).before args0 about1 = true := code_word (m := ⟨8, 2⟩) (meth := k8m2) (c := k8c2) (by decide +kernel) rfl rfl rfl (by decide +kernel)
def codes1 : List Jvm.Cond := [Jvm.Cond.code x code maxLocals ret, Jvm.Cond.code ({ cls := "java/lang/String", name := "valueOf", desc := "(C)Ljava/lang/String;" } : Jvm.MethodName) jdk_42_method_139_code (1 : Nat) (Option.some (Jvm.ClassFile.FieldType.object "java/lang/String")), Jvm.Cond.code ({ cls := "java/lang/StringLatin1", name := "canEncode", desc := "(C)Z" } : Jvm.MethodName) jdk_43_method_3_code (1 : Nat) (Option.some Jvm.ClassFile.FieldType.boolean), Jvm.Cond.code ({ cls := "java/lang/StringLatin1", name := "toBytes", desc := "(C)[B" } : Jvm.MethodName) jdk_43_method_46_code (1 : Nat) (Option.some (Jvm.ClassFile.FieldType.array Jvm.ClassFile.FieldType.byte)), Jvm.Cond.code ({ cls := "java/lang/String", name := "<init>", desc := "([BB)V" } : Jvm.MethodName) jdk_42_method_151_code (3 : Nat) (Option.none : Option Jvm.ClassFile.FieldType), Jvm.Cond.code ({ cls := "java/lang/Object", name := "<init>", desc := "()V" } : Jvm.MethodName) object_method_1_code (1 : Nat) (Option.none : Option Jvm.ClassFile.FieldType), Jvm.Cond.code ({ cls := "com/example/tender/tender/store/PropertyTable", name := "<init>", desc := "(Ljava/lang/String;Ljava/lang/String;)V" } : Jvm.MethodName) prog_36_method_1_code (3 : Nat) (Option.none : Option Jvm.ClassFile.FieldType), Jvm.Cond.code ({ cls := "com/example/tender/tender/store/PropertyTable", name := "deleteOwnedBy", desc := "(Ljava/lang/String;)Ljava/lang/String;" } : Jvm.MethodName) prog_36_method_4_code (2 : Nat) (Option.some (Jvm.ClassFile.FieldType.object "java/lang/String")), Jvm.Cond.code ({ cls := "java/lang/StringBuilder", name := "<init>", desc := "()V" } : Jvm.MethodName) jdk_67_method_1_code (1 : Nat) (Option.none : Option Jvm.ClassFile.FieldType), Jvm.Cond.code ({ cls := "java/lang/AbstractStringBuilder", name := "<init>", desc := "(I)V" } : Jvm.MethodName) jdk_68_method_2_code (2 : Nat) (Option.none : Option Jvm.ClassFile.FieldType), Jvm.Cond.code ({ cls := "java/lang/StringBuilder", name := "append", desc := "(Ljava/lang/String;)Ljava/lang/StringBuilder;" } : Jvm.MethodName) jdk_67_method_7_code (2 : Nat) (Option.some (Jvm.ClassFile.FieldType.object "java/lang/StringBuilder")), Jvm.Cond.code ({ cls := "java/lang/AbstractStringBuilder", name := "append", desc := "(Ljava/lang/String;)Ljava/lang/AbstractStringBuilder;" } : Jvm.MethodName) jdk_68_method_22_code (3 : Nat) (Option.some (Jvm.ClassFile.FieldType.object "java/lang/AbstractStringBuilder")), Jvm.Cond.code ({ cls := "java/lang/String", name := "length", desc := "()I" } : Jvm.MethodName) jdk_42_method_54_code (1 : Nat) (Option.some Jvm.ClassFile.FieldType.int), Jvm.Cond.code ({ cls := "java/lang/String", name := "coder", desc := "()B" } : Jvm.MethodName) jdk_42_method_152_code (1 : Nat) (Option.some Jvm.ClassFile.FieldType.byte), Jvm.Cond.code ({ cls := "java/lang/AbstractStringBuilder", name := "ensureCapacityInternal", desc := "(I)V" } : Jvm.MethodName) jdk_68_method_9_code (3 : Nat) (Option.none : Option Jvm.ClassFile.FieldType), Jvm.Cond.code ({ cls := "java/lang/AbstractStringBuilder", name := "putStringAt", desc := "(ILjava/lang/String;)V" } : Jvm.MethodName) jdk_68_method_73_code (3 : Nat) (Option.none : Option Jvm.ClassFile.FieldType), Jvm.Cond.code ({ cls := "java/lang/AbstractStringBuilder", name := "inflateIfNeededFor", desc := "(Ljava/lang/String;)V" } : Jvm.MethodName) jdk_68_method_71_code (2 : Nat) (Option.none : Option Jvm.ClassFile.FieldType), Jvm.Cond.code ({ cls := "java/lang/String", name := "getBytes", desc := "([BIB)V" } : Jvm.MethodName) jdk_42_method_147_code (4 : Nat) (Option.none : Option Jvm.ClassFile.FieldType), Jvm.Cond.code ({ cls := "java/lang/AbstractStringBuilder", name := "newCapacity", desc := "(I)I" } : Jvm.MethodName) jdk_68_method_10_code (6 : Nat) (Option.some Jvm.ClassFile.FieldType.int), Jvm.Cond.code ({ cls := "jdk/internal/util/ArraysSupport", name := "newLength", desc := "(III)I" } : Jvm.MethodName) jdk_48_method_27_code (4 : Nat) (Option.some Jvm.ClassFile.FieldType.int), Jvm.Cond.code ({ cls := "java/lang/Math", name := "max", desc := "(II)I" } : Jvm.MethodName) jdk_29_method_65_code (2 : Nat) (Option.some Jvm.ClassFile.FieldType.int), Jvm.Cond.code ({ cls := "java/util/Arrays", name := "copyOf", desc := "([BI)[B" } : Jvm.MethodName) jdk_65_method_121_code (3 : Nat) (Option.some (Jvm.ClassFile.FieldType.array Jvm.ClassFile.FieldType.byte)), Jvm.Cond.code ({ cls := "java/lang/Math", name := "min", desc := "(II)I" } : Jvm.MethodName) jdk_29_method_69_code (2 : Nat) (Option.some Jvm.ClassFile.FieldType.int), Jvm.Cond.code ({ cls := "java/lang/StringBuilder", name := "toString", desc := "()Ljava/lang/String;" } : Jvm.MethodName) jdk_67_method_42_code (1 : Nat) (Option.some (Jvm.ClassFile.FieldType.object "java/lang/String")), Jvm.Cond.code ({ cls := "java/lang/String", name := "<init>", desc := "(Ljava/lang/StringBuilder;)V" } : Jvm.MethodName) jdk_42_method_53_code (2 : Nat) (Option.none : Option Jvm.ClassFile.FieldType), Jvm.Cond.code ({ cls := "java/lang/String", name := "<init>", desc := "(Ljava/lang/AbstractStringBuilder;Ljava/lang/Void;)V" } : Jvm.MethodName) jdk_42_method_150_code (5 : Nat) (Option.none : Option Jvm.ClassFile.FieldType), Jvm.Cond.code ({ cls := "java/lang/AbstractStringBuilder", name := "getValue", desc := "()[B" } : Jvm.MethodName) jdk_68_method_64_code (1 : Nat) (Option.some (Jvm.ClassFile.FieldType.array Jvm.ClassFile.FieldType.byte)), Jvm.Cond.code ({ cls := "java/lang/StringBuilder", name := "length", desc := "()I" } : Jvm.MethodName) jdk_67_method_93_code (1 : Nat) (Option.some Jvm.ClassFile.FieldType.int), Jvm.Cond.code ({ cls := "java/lang/AbstractStringBuilder", name := "length", desc := "()I" } : Jvm.MethodName) jdk_68_method_6_code (1 : Nat) (Option.some Jvm.ClassFile.FieldType.int), Jvm.Cond.code ({ cls := "java/lang/AbstractStringBuilder", name := "isLatin1", desc := "()Z" } : Jvm.MethodName) jdk_68_method_68_code (1 : Nat) (Option.some Jvm.ClassFile.FieldType.boolean), Jvm.Cond.code ({ cls := "java/util/Arrays", name := "copyOfRange", desc := "([BII)[B" } : Jvm.MethodName) jdk_65_method_132_code (3 : Nat) (Option.some (Jvm.ClassFile.FieldType.array Jvm.ClassFile.FieldType.byte)), Jvm.Cond.code ({ cls := "java/util/Arrays", name := "copyOfRangeByte", desc := "([BII)[B" } : Jvm.MethodName) jdk_65_method_133_code (5 : Nat) (Option.some (Jvm.ClassFile.FieldType.array Jvm.ClassFile.FieldType.byte)), Jvm.Cond.code ({ cls := "java/util/Arrays", name := "checkLength", desc := "(II)V" } : Jvm.MethodName) jdk_65_method_131_code (2 : Nat) (Option.none : Option Jvm.ClassFile.FieldType), Jvm.Cond.code ({ cls := "java/lang/String", name := "<init>", desc := "([C)V" } : Jvm.MethodName) jdk_42_method_3_code (2 : Nat) (Option.none : Option Jvm.ClassFile.FieldType), Jvm.Cond.code ({ cls := "java/lang/String", name := "<init>", desc := "([CIILjava/lang/Void;)V" } : Jvm.MethodName) jdk_42_method_149_code (6 : Nat) (Option.none : Option Jvm.ClassFile.FieldType), Jvm.Cond.code ({ cls := "java/lang/StringUTF16", name := "compress", desc := "([CII)[B" } : Jvm.MethodName) jdk_52_method_16_code (6 : Nat) (Option.some (Jvm.ClassFile.FieldType.array Jvm.ClassFile.FieldType.byte)), Jvm.Cond.code ({ cls := "java/lang/StringUTF16", name := "compress", desc := "([CI[BII)I" } : Jvm.MethodName) jdk_52_method_21_code (7 : Nat) (Option.some Jvm.ClassFile.FieldType.int), Jvm.Cond.code ({ cls := "java/lang/StringUTF16", name := "coderFromArrayLen", desc := "([BI)B" } : Jvm.MethodName) jdk_52_method_15_code (2 : Nat) (Option.some Jvm.ClassFile.FieldType.byte), Jvm.Cond.code ({ cls := "java/lang/String", name := "equals", desc := "(Ljava/lang/Object;)Z" } : Jvm.MethodName) jdk_42_method_66_code (3 : Nat) (Option.some Jvm.ClassFile.FieldType.boolean), Jvm.Cond.code ({ cls := "java/lang/StringLatin1", name := "equals", desc := "([B[B)Z" } : Jvm.MethodName) jdk_43_method_13_code (3 : Nat) (Option.some Jvm.ClassFile.FieldType.boolean)]
set_option maxRecDepth 65536 in
theorem codes_eq : words1.filter isCode = codes1 := rfl
theorem w_codes : ∀ c ∈ words1.filter isCode, c.before args0 about1 = true := by
  rw [codes_eq]
  intro c hc
  simp only [codes1, List.mem_cons, List.not_mem_nil, or_false] at hc
  rcases hc with rfl | rfl | rfl | rfl | rfl | rfl | rfl | rfl | rfl | rfl | rfl | rfl | rfl | rfl | rfl | rfl | rfl | rfl | rfl | rfl | rfl | rfl | rfl | rfl | rfl | rfl | rfl | rfl | rfl | rfl | rfl | rfl | rfl | rfl | rfl | rfl | rfl | rfl | rfl | rfl
  · exact w_c0
  · exact w_c1
  · exact w_c2
  · exact w_c3
  · exact w_c4
  · exact w_c5
  · exact w_c6
  · exact w_c7
  · exact w_c8
  · exact w_c9
  · exact w_c10
  · exact w_c11
  · exact w_c12
  · exact w_c13
  · exact w_c14
  · exact w_c15
  · exact w_c16
  · exact w_c17
  · exact w_c18
  · exact w_c19
  · exact w_c20
  · exact w_c21
  · exact w_c22
  · exact w_c23
  · exact w_c24
  · exact w_c25
  · exact w_c26
  · exact w_c27
  · exact w_c28
  · exact w_c29
  · exact w_c30
  · exact w_c31
  · exact w_c32
  · exact w_c33
  · exact w_c34
  · exact w_c35
  · exact w_c36
  · exact w_c37
  · exact w_c38
  · exact w_c39
set_option maxRecDepth 65536 in
theorem w_t1 : (words1.take 24).all (fun c => isCode c || c.before args0 about1) = true := by decide +kernel
set_option maxRecDepth 65536 in
theorem w_t2 : ((words1.drop 24).take 24).all (fun c => isCode c || c.before args0 about1) = true := by decide +kernel
set_option maxRecDepth 65536 in
theorem w_t3 : (((words1.drop 24).drop 24).take 24).all (fun c => isCode c || c.before args0 about1) = true := by decide +kernel
set_option maxRecDepth 65536 in
theorem w_t4 : ((((words1.drop 24).drop 24).drop 24).take 24).all (fun c => isCode c || c.before args0 about1) = true := by decide +kernel
set_option maxRecDepth 65536 in
theorem w_t5 : (((((words1.drop 24).drop 24).drop 24).drop 24).take 24).all (fun c => isCode c || c.before args0 about1) = true := by decide +kernel
set_option maxRecDepth 65536 in
theorem w_t6 : ((((((words1.drop 24).drop 24).drop 24).drop 24).drop 24).take 24).all (fun c => isCode c || c.before args0 about1) = true := by decide +kernel
set_option maxRecDepth 65536 in
theorem w_t7 : (((((((words1.drop 24).drop 24).drop 24).drop 24).drop 24).drop 24).take 24).all (fun c => isCode c || c.before args0 about1) = true := by decide +kernel
set_option maxRecDepth 65536 in
theorem w_t8 : ((((((((words1.drop 24).drop 24).drop 24).drop 24).drop 24).drop 24).drop 24).take 24).all (fun c => isCode c || c.before args0 about1) = true := by decide +kernel
set_option maxRecDepth 65536 in
theorem w_t9 : ((((((((words1.drop 24).drop 24).drop 24).drop 24).drop 24).drop 24).drop 24).drop 24).all (fun c => isCode c || c.before args0 about1) = true := by decide +kernel
theorem w_tables : (allAtoms (Jvm.Cond.code x code maxLocals ret :: tables_1)).before args0 about1 = true := by
  rw [allAtoms_all]
  show words1.all (fun c => c.before args0 about1) = true
  refine all_split ?_ w_codes
  rw [← List.take_append_drop 24 words1, List.all_append, w_t1, ← List.take_append_drop 24 (words1.drop 24), List.all_append, w_t2, ← List.take_append_drop 24 ((words1.drop 24).drop 24), List.all_append, w_t3, ← List.take_append_drop 24 (((words1.drop 24).drop 24).drop 24), List.all_append, w_t4, ← List.take_append_drop 24 ((((words1.drop 24).drop 24).drop 24).drop 24), List.all_append, w_t5, ← List.take_append_drop 24 (((((words1.drop 24).drop 24).drop 24).drop 24).drop 24), List.all_append, w_t6, ← List.take_append_drop 24 ((((((words1.drop 24).drop 24).drop 24).drop 24).drop 24).drop 24), List.all_append, w_t7, ← List.take_append_drop 24 (((((((words1.drop 24).drop 24).drop 24).drop 24).drop 24).drop 24).drop 24), List.all_append, w_t8, w_t9]
  rfl
set_option maxRecDepth 65536 in
theorem w_rest : rest_1_c.before args0 about1 = true := by decide +kernel
set_option maxRecDepth 65536 in
theorem w_case : (Jvm.Cond.and given_1 narrow_1).before args0 about1 = true := by decide +kernel
set_option maxRecDepth 65536 in
theorem w_consts : constsHeld consts_1 about1 := Jvm.Lit.constsHeldB_iff.mp (by decide +kernel)
theorem w_applies : (headSpec (Jvm.Cond.code x code maxLocals ret :: tables_1) room_1).applies x e0.platform about1 = true :=
  (Spec.applies_iff w_frames).mpr ⟨w_running, w_runnable, w_alone, w_named, w_hears, w_ripe, w_room, w_tables⟩
theorem atStart : AtStart classFile x code maxLocals ret World_1 tables_1 room_1 Calls_1 rest_1 Pre_1 launch0 p0 e0 about1 theMethod args0 below0 :=
  ⟨lists_1, trivial, launch0.admits_env _ _ _, launch0.least_env, fairChoices_fair.cas, fairChoices_fair.clock, w_frames, w_args, w_heap, w_applies, ⟨w_consts, trivial⟩, w_rest, w_case⟩
end start1
theorem witness_1 : WitnessClaimed_1 := ⟨start1.p0, start1.e0, start1.about1, start1.theMethod, start1.args0, start1.below0, start1.atStart⟩
end Jvm.Pilot.@@N@@
