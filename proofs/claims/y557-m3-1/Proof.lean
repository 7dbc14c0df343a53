import JvmDerived
import JvmDerived.Pilot.@@N@@Statement
import JvmDerived.Pilot.@@N@@Code
set_option linter.unusedVariables false
set_option linter.unusedSimpArgs false
namespace Jvm.RoadKit
open Sem ClassFile Op Lib Jvm.Stand Jvm.Free Jvm.LawKit
section New
variable {p : Program} {l : Launch} {e : Env} {R : Room} {s : State} {m : MethodId} {args : Array Value} {below : List Frame} {meth : Method} {c : Code} {T : State} {locs : List Loc} {cells slots : Nat}
theorem retI (X : Stand p l e R s m args below meth c T locs cells slots) (hx : p.tables.exec = Jvm.exec) {pc : Nat} {Ls : Array Slot} {z : Int32} {rest : List Value} (hret : meth.sig.returnType = some .int) (hd : decode c.code pc = .ok (.ireturn, 1)) {fs : List Frame}
    (hl : ∀ (f : JFrame) (acts : List Action), f.method = m → f.locked = none → f.entered = [] → (doReturn e (T.setTop f) acts (some (.int z))).1 = T.setFrames fs) : Steps p.tables e below (T.setTop (mkF m pc Ls (.int z :: rest))) (T.setFrames fs) := by
  have hm' : T.vm.method? m = some meth := X.method'
  have hn : narrow .int (.int z) = .int z := rfl
  show Steps p.tables e below (T.setTop { method := m, pc := pc, locals := Ls, stack := _ :: rest, locked := none }) _
  jvm_step X.here [X.here.top, hx, hd, hm', hret, hn]
  first | (intro acts; rw [hl _ acts rfl rfl rfl]) | rw [hl _ _ rfl rfl rfl]
  exact Steps.refl _
def Gl (p : Program) (e : Env) (below : List Frame) (s : State) (kc ks : Nat) (Q : Option Value → Heap → List Loc → Prop) (T : State) (g : JFrame) : Prop :=
  ∃ U o, Steps p.tables e below (T.setTop g) U ∧ U.status = .running ∧ Ended U below o ∧ ∃ v L, o = .returned v ∧ Q v U.heap L ∧ FrameEnd s o U L kc ks
theorem Gl.st {kc ks : Nat} {Q : Option Value → Heap → List Loc → Prop} {T' : State} {g g' : JFrame} (h : ∀ t, Steps p.tables e below (T'.setTop g') t → Steps p.tables e below (T.setTop g) t) (k : Gl p e below s kc ks Q T' g') : Gl p e below s kc ks Q T g := by
  obtain ⟨U, o, h1, r⟩ := k
  exact ⟨U, o, h _ h1, r⟩
theorem Gl.wider {cells' slots' : Nat} (X : Stand p l e R s m args below meth c T locs cells slots) (h1 : cells ≤ cells') (h2 : slots ≤ slots') : Stand p l e R s m args below meth c T locs cells' slots' :=
  ⟨X.admits, X.cas, X.clock, X.frames, X.room, X.hears, X.method, X.code, X.here, X.tail, X.warmed, X.limits, X.bytes, X.same.mono h1 h2⟩
theorem Gl.start {kc ks : Nat} {Q : Option Value → Heap → List Loc → Prop} {g g' : JFrame} (q : g = g') (k : Gl p e below s kc ks Q T g') :
    ∃ U o, Steps p.tables e below (T.setTop g) U ∧ U.status = .running ∧ Ended U below o ∧ ∃ v L, o = .returned v ∧ Q v U.heap L ∧ FrameEnd s o U L kc ks := q ▸ k
theorem Gl.ret {kc ks : Nat} {Q : Option Value → Heap → List Loc → Prop} {g : JFrame} {h : Heap} (X : Stand p l e R s m args below meth c T locs cells slots) {v : Option Value} (hv : meth.sig.returnType = none → v = none) (hlk : meth.locks = false)
    (st : ∀ {fs : List Frame}, (∀ (f : JFrame) (acts : List Action), f.method = m → f.locked = none → f.entered = [] → (doReturn e (T.setTop f) acts v).1 = T.setFrames fs) → Steps p.tables e below (T.setTop g) (T.setFrames fs))
    (eT : T.heap = h) (hQ : Q v h locs) (hc : cells ≤ kc) (hs : slots ≤ ks) : Gl p e below s kc ks Q T g := by
  obtain ⟨fs, hr, hrun, hended, hW, hsame⟩ := X.leave hv hlk
  refine ⟨_, _, st hr, hrun, hended, _, _, rfl, ?_, ⟨_, rfl⟩, hW, hsame.mono hc hs⟩
  show Q v T.heap locs
  rw [eT]; exact hQ
def GlW (Z : State) (EL : List (String × Nat)) (p : Program) (e : Env) (below : List Frame) (s : State) (kc ks : Nat) (Q : Option Value → Heap → List Loc → Prop) (T : State) (g : JFrame) : Prop :=
  ∃ U o, Steps p.tables e below (T.setTop g) U ∧ U.status = .running ∧ Ended U below o ∧ ∃ v L, o = .returned v ∧ Q v U.heap L ∧ CHr Z EL s.vm s.heap U.vm U.heap ∧ ReturnedEndW s o U L kc ks
section Wide
variable {Z : State} {EL : List (String × Nat)} {a0 : Array Value}
theorem GlW.st {kc ks : Nat} {Q : Option Value → Heap → List Loc → Prop} {T' : State} {g g' : JFrame} (h : ∀ t, Steps p.tables e below (T'.setTop g') t → Steps p.tables e below (T.setTop g) t) (k : GlW Z EL p e below s kc ks Q T' g') : GlW Z EL p e below s kc ks Q T g := by
  obtain ⟨U, o, h1, r⟩ := k
  exact ⟨U, o, h _ h1, r⟩
theorem GlW.start {kc ks : Nat} {Q : Option Value → Heap → List Loc → Prop} {g g' : JFrame} (q : g = g') (k : GlW Z EL p e below s kc ks Q T g') :
    ∃ U o, Steps p.tables e below (T.setTop g) U ∧ U.status = .running ∧ Ended U below o ∧ ∃ v L, o = .returned v ∧ Q v U.heap L ∧ CHr Z EL s.vm s.heap U.vm U.heap ∧ ReturnedEndW s o U L kc ks := q ▸ k
theorem GlW.ret {kc ks n : Nat} {Q : Option Value → Heap → List Loc → Prop} {g : JFrame} {h hs : Heap} {vm0 : Vm} (X : Stand p l e R (s.setVm vm0) m args below meth c T locs cells slots) (hS : s.Since vm0 n) (hn : n ≤ h.size) (hZ : Z.Warmed39 vm0) (w : EW Z a0 EL) (hh : s.heap = hs) (HC : CHr Z EL s.vm hs vm0 h) {v : Option Value} (hv : meth.sig.returnType = none → v = none) (hlk : meth.locks = false)
    (st : ∀ {fs : List Frame}, (∀ (f : JFrame) (acts : List Action), f.method = m → f.locked = none → f.entered = [] → (doReturn e (T.setTop f) acts v).1 = T.setFrames fs) → Steps p.tables e below (T.setTop g) (T.setFrames fs))
    (eT : T.heap = h) (hQ : Q v h locs) (hc : cells ≤ kc) (hs' : slots ≤ ks) : GlW Z EL p e below s kc ks Q T g := by
  subst eT hh
  obtain ⟨fs, hr, hrun, hended, hW⟩ := X.leaveW hS hn hv hlk
  have hcc := HC.trans (CHv.at X hZ w HC.1)
  exact ⟨_, _, st hr, hrun, hended, _, _, rfl, hQ, hcc, hW.1, hW.2.1, hW.2.2.1, hW.2.2.2.mono hc hs'⟩
end Wide
end New
end Jvm.RoadKit
namespace Jvm.RoadKit
open Sem ClassFile Op Lib Bundle Jvm.Stand Jvm.Free Jvm.LawKit Jvm.Free.SB Jvm.Free.SBG
theorem own_safe_blank {Z : State} {EL : List (String × Nat)} {vm : Vm} {h : Heap} {x : Addr} (hal : Z.vm.Alike vm) (E : Exa Z h x "java/lang/String") (V : Fld Z h x "java/lang/String" "value" "[B" .null) : Safe Z EL vm h x := fun B => by
  obtain ⟨p, -, u, a, -, q, -, F, rfl | rfl⟩ := B
  · obtain ⟨cell, cf, k, i, f, h1, h2, -, -, -, -, h7⟩ := V
    cases (show h[q.sa]? = some q.sC from F.ha).symm.trans h1
    obtain ⟨cS, ⟨⟨-, -, -, ⟨c1, k1, i1, f1, -⟩, -, -, -, v1, -⟩, -⟩, -⟩ := F
    obtain ⟨k3, e3, -⟩ := State.fieldFound?_setVm (s := Z) hal h2
    have e4 := (show (Wst Z vm h).fieldFound? _ _ _ = _ from e3).symm.trans f1
    simp only [Option.some.injEq, Prod.mk.injEq] at e4
    rw [← e4.2.2.2, h7] at v1
    cases v1
  · obtain ⟨cell, k, e1, e2, -⟩ := E
    cases (show h[q.sd]? = some q.SA from F.hd).symm.trans e1
    obtain ⟨cS, -, -, f, -⟩ := F
    rw [show (Wst Z vm h).vm.findClass "[B" = Z.vm.findClass "[B" from hal.findClass _ _] at f
    obtain ⟨k1, q1, q2⟩ := Vm.findClass_spec f
    obtain ⟨k2, q3, q4⟩ := Vm.findClass_spec e2
    cases q1.symm.trans q3
    exact absurd (q2.symm.trans q4) (by decide)
end Jvm.RoadKit
/- laws to paste: Road.backV, Road.lenW, Road.chN, Road.codOf (cut by pick.py; bodies as the Statement names them) -/
namespace Jvm.Pilot.@@N@@
namespace StrChars
open Jvm Sem ClassFile Op Lib Jvm.Stand Jvm.Free.XT Jvm.Free.ALB Jvm.Free.JM Jvm.Free
open Jvm.Lib.Cold (StaticIs)
/-- a char array whose places are chars -/
def Ch (a : Addr) (A : Cell) (U : State) : Prop := Arr .char a A U ∧ Typed .char A
theorem Ch.mv {a : Addr} {A : Cell} {U U' : State} (h : Ch a A U) (hal : U.vm.Alike U'.vm) (hh : U'.heap = U.heap) : Ch a A U' := ⟨h.1.mv hal hh, h.2⟩
theorem Ch.keep {a : Addr} {A : Cell} {U U' : State} (h : Ch a A U) (hal : U.vm.Alike U'.vm) (hk : U'.heap[a]? = some A) : Ch a A U' := ⟨h.1.keep hal hk, h.2⟩
/-- what place i of a char[]'s cell holds -/
def cv (A : Cell) (i : Nat) : Int32 := match A.slots[i]? with | some (.int x) => x | _ => 0
theorem Ch.get {a : Addr} {A : Cell} {U : State} (h : Ch a A U) {i : Nat} (hi : i < A.slots.size) : A.slots[i]? = some (.int (cv A i)) := by
  have e := Array.getElem?_eq_getElem hi
  have f := h.2 i _ e
  unfold cv; rw [e]
  generalize A.slots[i] = v at f
  cases v <;> simp [fits] at f ⊢
/-- the byte that i2b leaves of a char -/
def lo8 (x : Int32) : Int32 := x.toInt8.toInt32
theorem fits_lo8 (y : Int32) : fits .byte (.int (lo8 y)) = true := by
  have h1 := y.toInt8.le_toInt
  have h2 := y.toInt8.toInt_lt
  simp only [lo8, fits, Bool.and_eq_true, decide_eq_true_eq, Int32.le_iff_toInt_le, Int8.toInt_toInt32, show (-128 : Int32).toInt = -128 from by decide, show (127 : Int32).toInt = 127 from by decide]
  omega
/-- A' is A but that each place j of lo .. hi - 1 holds f j -/
def Laid (A A' : Cell) (lo hi : Nat) (f : Nat → Value) : Prop := A'.cls = A.cls ∧ A'.vm = A.vm ∧ A'.slots.size = A.slots.size ∧ ∀ i, A'.slots[i]? = if lo ≤ i ∧ i < hi then some (f i) else A.slots[i]?
theorem Laid.zero (A : Cell) (lo : Nat) (f : Nat → Value) : Laid A A lo (lo + 0) f := ⟨rfl, rfl, rfl, fun i => by rw [if_neg (by omega)]⟩
theorem Laid.step {A Ak : Cell} {lo k : Nat} {f : Nat → Value} {v : Value} (h : Laid A Ak lo k f) (hlo : lo ≤ k) (hk : k < Ak.slots.size) (hv : v = f k) : Laid A (Ak.setSlot k v) lo (k + 1) f := by
  refine ⟨h.1, h.2.1, by simpa [Cell.setSlot] using h.2.2.1, fun i => ?_⟩
  by_cases e : k = i
  · subst e; rw [Cell.slots_setSlot_self v hk, if_pos (by omega), hv]
  · rw [Cell.slots_setSlot_ne v e, h.2.2.2 i]
    by_cases q : lo ≤ i ∧ i < k
    · rw [if_pos q, if_pos (by omega)]
    · rw [if_neg q, if_neg (by omega)]
def U16 : String := "java/lang/StringUTF16"
namespace Cmp5
def yN : MethodName := ⟨"java/lang/StringUTF16", "compress", "([CI[BII)I"⟩
abbrev yB : ByteArray := jdk_52_method_21_code
theorem d0 : decode yB 0 = .ok (.iconst 0, 1) := by decide +kernel
theorem d1 : decode yB 1 = .ok (.istore 5, 2) := by decide +kernel
theorem d3 : decode yB 3 = .ok (.iload 5, 2) := by decide +kernel
theorem d5 : decode yB 5 = .ok (.iload 4, 2) := by decide +kernel
theorem d7 : decode yB 7 = .ok (.if_icmp (.ge) 37, 3) := by decide +kernel
theorem d10 : decode yB 10 = .ok (.aload_n 0, 1) := by decide +kernel
theorem d11 : decode yB 11 = .ok (.iload_n 1, 1) := by decide +kernel
theorem d12 : decode yB 12 = .ok (.caload, 1) := by decide +kernel
theorem d13 : decode yB 13 = .ok (.istore 6, 2) := by decide +kernel
theorem d15 : decode yB 15 = .ok (.iload 6, 2) := by decide +kernel
theorem d17 : decode yB 17 = .ok (.sipush 255, 3) := by decide +kernel
theorem d20 : decode yB 20 = .ok (.if_icmp (.le) 6, 3) := by decide +kernel
theorem d26 : decode yB 26 = .ok (.aload_n 2, 1) := by decide +kernel
theorem d27 : decode yB 27 = .ok (.iload_n 3, 1) := by decide +kernel
theorem d28 : decode yB 28 = .ok (.iload 6, 2) := by decide +kernel
theorem d30 : decode yB 30 = .ok (.i2b, 1) := by decide +kernel
theorem d31 : decode yB 31 = .ok (.bastore, 1) := by decide +kernel
theorem d32 : decode yB 32 = .ok (.iinc 1 1, 3) := by decide +kernel
theorem d35 : decode yB 35 = .ok (.iinc 3 1, 3) := by decide +kernel
theorem d38 : decode yB 38 = .ok (.iinc 5 1, 3) := by decide +kernel
theorem d41 : decode yB 41 = .ok (.goto (-38), 3) := by decide +kernel
theorem d44 : decode yB 44 = .ok (.iload 4, 2) := by decide +kernel
theorem d46 : decode yB 46 = .ok (.ireturn, 1) := by decide +kernel
def site : List Cond := []
def tab : Cond := tabOf yN yB 7 (some .int) site
def P (b : Addr) (A : Cell) (d : Addr) (B : Cell) (o q len : Nat) (args : Array Value) (s : State) : Prop := args = #[.ref b, .int (Int32.ofNat o), .ref d, .int (Int32.ofNat q), .int (Int32.ofNat len)] ∧ Ch b A s ∧ Arr .byte d B s ∧ b ≠ d ∧ o + len ≤ A.slots.size ∧ q + len ≤ B.slots.size ∧ ∀ i, i < len → ¬ 255 < cv A (o + i)
def E (b : Addr) (A : Cell) (d : Addr) (B : Cell) (o q len : Nat) (r : Option Value) (s u : State) : Prop := r = some (.int (Int32.ofNat len)) ∧ ∃ B', Put d B' s u ∧ Laid B B' q (q + len) (fun j => Value.int (lo8 (cv A (o + (j - q)))))
/-- no char of the range above 255: len; the places written hold each char's low byte -/
theorem law (l : Launch) (b : Addr) (A : Cell) (d : Addr) (B : Cell) (o q len : Nat) : Law l yN 5 5 0 0 yB 7 (some .int) site (P b A d B o q len) (E b A d B o q len) (copyLocs d q len) 0 0 := by
  refine Law.of_walk (plainFor_of_name (by decide +kernel)) (by decide +kernel) (by decide +kernel) (by decide) (fun _ _ h => by rw [h.1]; rfl) (fun _ U U' hal hh h => ⟨h.1, h.2.1.mv hal hh, h.2.2.1.mv hal hh, h.2.2.2⟩) (fun r U U' V V' h1 hal h2 h => ⟨h.1, h.2.elim fun B' q => ⟨B', q.1.mv h1 h2, q.2⟩⟩) ?_
  intro p e s m args below meth c s₁ X0 hexec hbytes hml hret hlk hnm hown hh0 W hP
  obtain ⟨rfl, hA, hB, hne, l1, l2, hp⟩ := hP
  have c1 : Steps p.tables e below (s₁.setTop (entryFrame m #[.ref b, .int (Int32.ofNat o), .ref d, .int (Int32.ofNat q), .int (Int32.ofNat len)] 7)) (s₁.setTop (mkF m 0 #[.val (.ref b), .val (.int (Int32.ofNat o)), .val (.ref d), .val (.int (Int32.ofNat q)), .val (.int (Int32.ofNat len)), .unset, .unset] [])) := entry rfl
  have hA0 := hA.1.mv X0.warmed.alike hh0
  have hB0 := hB.mv X0.warmed.alike hh0
  have a31 := hA.1.2.2.2
  have c2 : Steps p.tables e below (s₁.setTop (entryFrame m #[.ref b, .int (Int32.ofNat o), .ref d, .int (Int32.ofNat q), .int (Int32.ofNat len)] 7)) (s₁.setTop (mkF m 3 #[.val (.ref b), .val (.int (Int32.ofNat o)), .val (.ref d), .val (.int (Int32.ofNat q)), .val (.int (Int32.ofNat len)), .val (.int 0), .unset] [])) := c1.trans (by
    refine iconstV X0.here hexec rfl 0 (hb hbytes d0) (by decide) ?_
    refine XS.istore X0.here hexec rfl (hb hbytes d1) rfl rfl ?_
    exact Steps.refl _)
  have loop : ∀ (r i : Nat), i + r = len → ∀ (z : Slot), (z = .unset ∨ ∃ w, z = .val w ∧ w.category = 1) → ∀ (Tl : State) (Bk : Cell), Stand p l e { frames := 0, locals := 0, cells := 0, slots := 0 } s m #[.ref b, .int (Int32.ofNat o), .ref d, .int (Int32.ofNat q), .int (Int32.ofNat len)] below meth c Tl ([] ++ copyLocs d q i) 0 0 → Put d Bk s₁ Tl → Laid B Bk q (q + i) (fun j => Value.int (lo8 (cv A (o + (j - q))))) →
      Steps p.tables e below (s₁.setTop (entryFrame m #[.ref b, .int (Int32.ofNat o), .ref d, .int (Int32.ofNat q), .int (Int32.ofNat len)] 7)) (Tl.setTop (mkF m 3 #[.val (.ref b), .val (.int (Int32.ofNat (o + i))), .val (.ref d), .val (.int (Int32.ofNat (q + i))), .val (.int (Int32.ofNat len)), .val (.int (Int32.ofNat i)), z] [])) → ∃ (T' : State) (B' : Cell) (z' : Slot), Stand p l e { frames := 0, locals := 0, cells := 0, slots := 0 } s m #[.ref b, .int (Int32.ofNat o), .ref d, .int (Int32.ofNat q), .int (Int32.ofNat len)] below meth c T' ([] ++ copyLocs d q len) 0 0 ∧ Put d B' s₁ T' ∧ Laid B B' q (q + len) (fun j => Value.int (lo8 (cv A (o + (j - q))))) ∧
      Steps p.tables e below (s₁.setTop (entryFrame m #[.ref b, .int (Int32.ofNat o), .ref d, .int (Int32.ofNat q), .int (Int32.ofNat len)] 7)) (T'.setTop (mkF m 3 #[.val (.ref b), .val (.int (Int32.ofNat (o + len))), .val (.ref d), .val (.int (Int32.ofNat (q + len))), .val (.int (Int32.ofNat len)), .val (.int (Int32.ofNat len)), z'] [])) := by
    intro r
    induction r with
    | zero =>
      intro i hi z hz Tl Bk Xl pl fl cl
      have hil : i = len := by omega
      rw [hil] at Xl fl cl
      exact ⟨Tl, Bk, z, Xl, pl, fl, cl⟩
    | succ r ih =>
      intro i hi z hz Tl Bk Xl pl fl cl
      have all := X0.warmed.alike.symm.trans Xl.warmed.alike
      have hAl := hA0.keep all (pl.other hne hA0.1)
      have hBk := hB0.like all pl.1 fl.1 fl.2.1 fl.2.2.1
      have hlt : q + i < Bk.slots.size := by rw [fl.2.2.1]; omega
      have c3 : Steps p.tables e below (s₁.setTop (entryFrame m #[.ref b, .int (Int32.ofNat o), .ref d, .int (Int32.ofNat q), .int (Int32.ofNat len)] 7)) (Tl.setTop (mkF m 12 #[.val (.ref b), .val (.int (Int32.ofNat (o + i))), .val (.ref d), .val (.int (Int32.ofNat (q + i))), .val (.int (Int32.ofNat len)), .val (.int (Int32.ofNat i)), z] [.int (Int32.ofNat (o + i)), .ref b])) := cl.trans (by
        refine XS.iload Xl.here hexec rfl (hb hbytes d3) rfl ?_
        refine XS.iload Xl.here hexec rfl (hb hbytes d5) rfl ?_
        refine XS.icmpNo Xl.here hexec rfl (hb hbytes d7) rfl (ii_ge_f (lt32 (by omega) (by omega))) ?_
        refine XS.aloadN Xl.here hexec rfl (hb hbytes d10) rfl rfl ?_
        refine XS.iloadN Xl.here hexec rfl (hb hbytes d11) rfl ?_
        exact Steps.refl _)
      have c4 : Steps p.tables e below (s₁.setTop (entryFrame m #[.ref b, .int (Int32.ofNat o), .ref d, .int (Int32.ofNat q), .int (Int32.ofNat len)] 7)) (Tl.setTop (mkF m 13 #[.val (.ref b), .val (.int (Int32.ofNat (o + i))), .val (.ref d), .val (.int (Int32.ofNat (q + i))), .val (.int (Int32.ofNat len)), .val (.int (Int32.ofNat i)), z] [.int (cv A (o + i))])) := c3.trans (by
        refine Xl.aget hexec hAl rfl (hA.get (i := o + i) (by omega)) rfl rfl (hb hbytes d12) ?_
        exact Steps.refl _)
      have c5 : Steps p.tables e below (s₁.setTop (entryFrame m #[.ref b, .int (Int32.ofNat o), .ref d, .int (Int32.ofNat q), .int (Int32.ofNat len)] 7)) (Tl.setTop (mkF m 15 #[.val (.ref b), .val (.int (Int32.ofNat (o + i))), .val (.ref d), .val (.int (Int32.ofNat (q + i))), .val (.int (Int32.ofNat len)), .val (.int (Int32.ofNat i)), .val (.int (cv A (o + i)))] [])) := c4.trans (by
        refine XS.istoreS Xl.here hexec rfl (hb hbytes d13) rfl rfl hz ?_
        exact Steps.refl _)
      have c6 : Steps p.tables e below (s₁.setTop (entryFrame m #[.ref b, .int (Int32.ofNat o), .ref d, .int (Int32.ofNat q), .int (Int32.ofNat len)] 7)) (Tl.setTop (mkF m 31 #[.val (.ref b), .val (.int (Int32.ofNat (o + i))), .val (.ref d), .val (.int (Int32.ofNat (q + i))), .val (.int (Int32.ofNat len)), .val (.int (Int32.ofNat i)), .val (.int (cv A (o + i)))] [.int (lo8 (cv A (o + i))), .int (Int32.ofNat (q + i)), .ref d])) := c5.trans (by
        refine XS.iload Xl.here hexec rfl (hb hbytes d15) rfl ?_
        refine sipushV Xl.here hexec rfl 255 (hb hbytes d17) (by decide) ?_
        refine XS.icmpYes Xl.here hexec rfl (pc0 := 20) rfl (hb hbytes d20) rfl (ii_le_t (hp i (by omega))) (by decide) rfl ?_
        refine XS.aloadN Xl.here hexec rfl (hb hbytes d26) rfl rfl ?_
        refine XS.iloadN Xl.here hexec rfl (hb hbytes d27) rfl ?_
        refine XS.iload Xl.here hexec rfl (hb hbytes d28) rfl ?_
        refine i2b Xl.here hexec rfl (hb hbytes d30) rfl ?_
        exact Steps.refl _)
      obtain ⟨T7, X7, p7, st7⟩ := Xl.aput hexec hBk rfl hlt rfl (fits_lo8 (cv A (o + i))) (g := (mkF m 31 #[.val (.ref b), .val (.int (Int32.ofNat (o + i))), .val (.ref d), .val (.int (Int32.ofNat (q + i))), .val (.int (Int32.ofNat len)), .val (.int (Int32.ofNat i)), .val (.int (cv A (o + i)))] [.int (lo8 (cv A (o + i))), .int (Int32.ofNat (q + i)), .ref d])) rfl (rest := []) rfl (hb hbytes d31)
      have c8 : Steps p.tables e below (s₁.setTop (entryFrame m #[.ref b, .int (Int32.ofNat o), .ref d, .int (Int32.ofNat q), .int (Int32.ofNat len)] 7)) (T7.setTop (mkF m 32 #[.val (.ref b), .val (.int (Int32.ofNat (o + i))), .val (.ref d), .val (.int (Int32.ofNat (q + i))), .val (.int (Int32.ofNat len)), .val (.int (Int32.ofNat i)), .val (.int (cv A (o + i)))] [])) := c6.trans (st7 _ (Steps.refl _))
      have c9 : Steps p.tables e below (s₁.setTop (entryFrame m #[.ref b, .int (Int32.ofNat o), .ref d, .int (Int32.ofNat q), .int (Int32.ofNat len)] 7)) (T7.setTop (mkF m 3 #[.val (.ref b), .val (.int (Int32.ofNat (o + i) + 1)), .val (.ref d), .val (.int (Int32.ofNat (q + i) + 1)), .val (.int (Int32.ofNat len)), .val (.int (Int32.ofNat i + 1)), .val (.int (cv A (o + i)))] [])) := c8.trans (by
        refine iincV X7.here hexec rfl 1 (hb hbytes d32) (by decide) rfl rfl ?_
        refine iincV X7.here hexec rfl 1 (hb hbytes d35) (by decide) rfl rfl ?_
        refine iincV X7.here hexec rfl 1 (hb hbytes d38) (by decide) rfl rfl ?_
        refine XS.goto X7.here hexec rfl (pc0 := 41) rfl (hb hbytes d41) (by decide) rfl ?_
        exact Steps.refl _)
      have c10 : Steps p.tables e below (s₁.setTop (entryFrame m #[.ref b, .int (Int32.ofNat o), .ref d, .int (Int32.ofNat q), .int (Int32.ofNat len)] 7)) (T7.setTop (mkF m 3 #[.val (.ref b), .val (.int (Int32.ofNat (o + (i + 1)))), .val (.ref d), .val (.int (Int32.ofNat (q + (i + 1)))), .val (.int (Int32.ofNat len)), .val (.int (Int32.ofNat (i + 1))), .val (.int (cv A (o + i)))] [])) := by
        have := c9
        rw [succ32, succ32, succ32] at this
        exact this
      exact ih (i + 1) (by omega) _ (Or.inr ⟨_, rfl, rfl⟩) T7 _ (by rw [copyLocs_step, ← List.append_assoc]; exact X7) (pl.trans p7) (fl.step (by omega) hlt (by simp)) c10
  obtain ⟨T9, B9, z9, X9, p9, f9, g9⟩ := loop len 0 (by omega) .unset (Or.inl rfl) s₁ B (by simpa [copyLocs] using X0) ⟨hB0.1, fun _ _ => rfl, rfl⟩ (Laid.zero _ _ _) c2
  have c11 : Steps p.tables e below (s₁.setTop (entryFrame m #[.ref b, .int (Int32.ofNat o), .ref d, .int (Int32.ofNat q), .int (Int32.ofNat len)] 7)) (T9.setTop (mkF m 46 #[.val (.ref b), .val (.int (Int32.ofNat (o + len))), .val (.ref d), .val (.int (Int32.ofNat (q + len))), .val (.int (Int32.ofNat len)), .val (.int (Int32.ofNat len)), z9] [.int (Int32.ofNat len)])) := g9.trans (by
    refine XS.iload X9.here hexec rfl (hb hbytes d3) rfl ?_
    refine XS.iload X9.here hexec rfl (hb hbytes d5) rfl ?_
    refine XS.icmpYes X9.here hexec rfl (pc0 := 7) rfl (hb hbytes d7) rfl (ii_ge_t (nlt32 (by omega) (Nat.le_refl _))) (by decide) rfl ?_
    refine XS.iload X9.here hexec rfl (hb hbytes d44) rfl ?_
    exact Steps.refl _)
  exact ⟨T9, some (.int (Int32.ofNat len)), _, _, _, X9, by simp, rfl, rfl, (fun h => by cases h), ⟨rfl, B9, p9.from hh0, f9⟩, fun fs hl => c11.trans (X9.ireturnOut hexec hret rfl (Or.inl rfl) (hb hbytes d46) hl)⟩
end Cmp5
namespace Cmp3
def yN : MethodName := ⟨"java/lang/StringUTF16", "compress", "([CII)[B"⟩
abbrev yB : ByteArray := jdk_52_method_16_code
theorem d0 : decode yB 0 = .ok (.iload_n 2, 1) := by decide +kernel
theorem d1 : decode yB 1 = .ok (.newarray .byte, 2) := by decide +kernel
theorem d3 : decode yB 3 = .ok (.astore_n 3, 1) := by decide +kernel
theorem d4 : decode yB 4 = .ok (.aload_n 0, 1) := by decide +kernel
theorem d5 : decode yB 5 = .ok (.iload_n 1, 1) := by decide +kernel
theorem d6 : decode yB 6 = .ok (.aload_n 3, 1) := by decide +kernel
theorem d7 : decode yB 7 = .ok (.iconst 0, 1) := by decide +kernel
theorem d8 : decode yB 8 = .ok (.iload_n 2, 1) := by decide +kernel
theorem d9 : decode yB 9 = .ok (.invokestatic 115, 3) := by decide +kernel
theorem d12 : decode yB 12 = .ok (.istore 4, 2) := by decide +kernel
theorem d14 : decode yB 14 = .ok (.iload 4, 2) := by decide +kernel
theorem d16 : decode yB 16 = .ok (.iload_n 2, 1) := by decide +kernel
theorem d17 : decode yB 17 = .ok (.if_icmp (.eq) 40, 3) := by decide +kernel
theorem d57 : decode yB 57 = .ok (.aload_n 3, 1) := by decide +kernel
theorem d58 : decode yB 58 = .ok (.areturn, 1) := by decide +kernel
def site : List Cond := [.arrayClass .byte, Cmp5.tab] ++ staticW U16 115 Cmp5.yN
def tab : Cond := tabOf yN yB 6 (some (.array .byte)) site
def P (b : Addr) (A : Cell) (o len : Nat) (args : Array Value) (s : State) : Prop := args = #[.ref b, .int (Int32.ofNat o), .int (Int32.ofNat len)] ∧ Ch b A s ∧ o + len ≤ A.slots.size ∧ len ≤ 536870912 ∧ ∀ i, i < len → ¬ 255 < cv A (o + i)
def E (b : Addr) (A : Cell) (o len : Nat) (r : Option Value) (s u : State) : Prop := NewArr .byte "[B" len (fun j => .int (lo8 (cv A (o + j)))) r s u ∧ u.heap.size = s.heap.size + 1
/-- no char of the range above 255: a new byte[] of their low bytes -/
theorem law (l : Launch) (b : Addr) (A : Cell) (o len : Nat) : Law l yN 3 3 1 18 yB 6 (some (.array .byte)) site (P b A o len) (E b A o len) [] 1 len := by
  refine Law.of_walk (plainFor_of_name (by decide +kernel)) (by decide +kernel) (by decide +kernel) (by decide) (fun _ _ h => by rw [h.1]; rfl) (fun _ U U' hal hh h => ⟨h.1, h.2.1.mv hal hh, h.2.2⟩) (fun r U U' V V' h1 hal h2 h => ⟨NewArr.mv r U U' V V' h1 hal h2 h.1, by rw [h1, h2]; exact h.2⟩) ?_
  intro p e s m args below meth c s₁ X0 hexec hbytes hml hret hlk hnm hown hh0 W hP
  obtain ⟨rfl, hA, l1, l2, hp⟩ := hP
  have a31 := hA.1.2.2.2
  have c1 : Steps p.tables e below (s₁.setTop (entryFrame m #[.ref b, .int (Int32.ofNat o), .int (Int32.ofNat len)] 6)) (s₁.setTop (mkF m 0 #[.val (.ref b), .val (.int (Int32.ofNat o)), .val (.int (Int32.ofNat len)), .unset, .unset, .unset] [])) := entry rfl
  have c2 : Steps p.tables e below (s₁.setTop (entryFrame m #[.ref b, .int (Int32.ofNat o), .int (Int32.ofNat len)] 6)) (s₁.setTop (mkF m 1 #[.val (.ref b), .val (.int (Int32.ofNat o)), .val (.int (Int32.ofNat len)), .unset, .unset, .unset] [.int (Int32.ofNat len)])) := c1.trans (by
    refine XS.iloadN X0.here hexec rfl (hb hbytes d0) rfl ?_
    exact Steps.refl _)
  obtain ⟨T3, B3, X3, ba3, bs3, bv3, bh3, bf3, st3⟩ := X0.anew hexec (atype := .byte) (wk W (.arrayClass .byte)) rfl (by show len * 1 ≤ _; omega) (by omega) (g := (mkF m 1 #[.val (.ref b), .val (.int (Int32.ofNat o)), .val (.int (Int32.ofNat len)), .unset, .unset, .unset] [.int (Int32.ofNat len)])) rfl (hb hbytes d1) (rest := []) rfl (Nat.le_refl _) (by show 0 + len ≤ len; omega)
  rw [hh0] at ba3 st3
  have kp3 : XT.Kept s T3 := (XT.Kept.of_eq hh0).push bh3
  have hA3 := hA.keep X3.warmed.alike (kp3 _ _ hA.1.1)
  have hne : b ≠ s.heap.size := hA.1.ne
  have c4 : Steps p.tables e below (s₁.setTop (entryFrame m #[.ref b, .int (Int32.ofNat o), .int (Int32.ofNat len)] 6)) (T3.setTop (mkF m 3 #[.val (.ref b), .val (.int (Int32.ofNat o)), .val (.int (Int32.ofNat len)), .unset, .unset, .unset] [.ref s.heap.size])) := c2.trans (st3 _ (Steps.refl _))
  have c5 : Steps p.tables e below (s₁.setTop (entryFrame m #[.ref b, .int (Int32.ofNat o), .int (Int32.ofNat len)] 6)) (T3.setTop (mkF m 9 #[.val (.ref b), .val (.int (Int32.ofNat o)), .val (.int (Int32.ofNat len)), .val (.ref s.heap.size), .unset, .unset] [.int (Int32.ofNat len), .int 0, .ref s.heap.size, .int (Int32.ofNat o), .ref b])) := c4.trans (by
    refine XS.astoreN X3.here hexec rfl (hb hbytes d3) rfl rfl rfl ?_
    refine XS.aloadN X3.here hexec rfl (hb hbytes d4) rfl rfl ?_
    refine XS.iloadN X3.here hexec rfl (hb hbytes d5) rfl ?_
    refine XS.aloadN X3.here hexec rfl (hb hbytes d6) rfl rfl ?_
    refine iconstV X3.here hexec rfl 0 (hb hbytes d7) (by decide) ?_
    refine XS.iloadN X3.here hexec rfl (hb hbytes d8) rfl ?_
    exact Steps.refl _)
  obtain ⟨v6, T6, X6, E6, g6⟩ := X3.callS hexec (Cmp5.law l b A s.heap.size B3 o 0 len) hown (wks W (staticW U16 115 Cmp5.yN)) (wk W Cmp5.tab) (W := 0) (Nat.le_of_ble_eq_true rfl) (Nat.le_of_ble_eq_true rfl) (Nat.le_refl _) (by show 0 + len + 0 ≤ len; omega) (g := (mkF m 9 #[.val (.ref b), .val (.int (Int32.ofNat o)), .val (.int (Int32.ofNat len)), .val (.ref s.heap.size), .unset, .unset] [.int (Int32.ofNat len), .int (Int32.ofNat 0), .ref s.heap.size, .int (Int32.ofNat o), .ref b])) rfl (by rw [hml]; rfl) c5 (argsL := [.ref b, .int (Int32.ofNat o), .ref s.heap.size, .int (Int32.ofNat 0), .int (Int32.ofNat len)]) (rest := []) rfl rfl (by show 2 * 0 + 0 ≤ _; decide) (hb hbytes d9) (⟨rfl, hA3, ba3, hne, l1, by rw [bs3]; simp, hp⟩)
  obtain ⟨rfl, B6, p6, f6⟩ := E6
  have c7 : Steps p.tables e below (s₁.setTop (entryFrame m #[.ref b, .int (Int32.ofNat o), .int (Int32.ofNat len)] 6)) (T6.setTop (mkF m 12 #[.val (.ref b), .val (.int (Int32.ofNat o)), .val (.int (Int32.ofNat len)), .val (.ref s.heap.size), .unset, .unset] [.int (Int32.ofNat len)])) := g6
  have c8 : Steps p.tables e below (s₁.setTop (entryFrame m #[.ref b, .int (Int32.ofNat o), .int (Int32.ofNat len)] 6)) (T6.setTop (mkF m 58 #[.val (.ref b), .val (.int (Int32.ofNat o)), .val (.int (Int32.ofNat len)), .val (.ref s.heap.size), .val (.int (Int32.ofNat len)), .unset] [.ref s.heap.size])) := c7.trans (by
    refine XS.istore X6.here hexec rfl (hb hbytes d12) rfl rfl ?_
    refine XS.iload X6.here hexec rfl (hb hbytes d14) rfl ?_
    refine XS.iloadN X6.here hexec rfl (hb hbytes d16) rfl ?_
    refine XS.icmpYes X6.here hexec rfl (pc0 := 17) rfl (hb hbytes d17) rfl (ii_eq_t rfl) (by decide) rfl ?_
    refine XS.aloadN X6.here hexec rfl (hb hbytes d57) rfl rfl ?_
    exact Steps.refl _)
  have X8 := X6.wide (L' := []) (cells' := 1) (slots' := len) (fun x hx hlt => by
    simp only [List.nil_append, copyLocs, List.mem_map, List.mem_range] at hx
    obtain ⟨i, -, rfl⟩ := hx
    exact absurd hlt (Nat.lt_irrefl _)) (Nat.le_refl _) (by omega)
  exact ⟨T6, some (.ref s.heap.size), _, _, _, X8, rfl, rfl, rfl, (fun h => by cases h), ⟨⟨rfl, B6, ba3.like (X3.warmed.alike.symm.trans X6.warmed.alike) p6.1 f6.1 f6.2.1 f6.2.2.1, f6.2.1.trans bv3, by rw [X6.warmed.alike.findClass, f6.1]; exact bf3, by rw [f6.2.2.1, bs3]; simp, fun j hj => by rw [f6.2.2.2 j, if_pos (by omega)]; rfl, kp3.put p6 (Nat.le_refl _)⟩, by rw [p6.2.2, bh3, hh0]; simp⟩, fun fs hl => c8.trans (X8.areturnOut hexec rfl hret rfl (hb hbytes d58) hl)⟩
end Cmp3
namespace CodL
def yN : MethodName := ⟨"java/lang/StringUTF16", "coderFromArrayLen", "([BI)B"⟩
abbrev yB : ByteArray := jdk_52_method_15_code
theorem d0 : decode yB 0 = .ok (.iload_n 1, 1) := by decide +kernel
theorem d1 : decode yB 1 = .ok (.aload_n 0, 1) := by decide +kernel
theorem d2 : decode yB 2 = .ok (.arraylength, 1) := by decide +kernel
theorem d3 : decode yB 3 = .ok (.isub, 1) := by decide +kernel
theorem d4 : decode yB 4 = .ok (.bipush 31, 2) := by decide +kernel
theorem d6 : decode yB 6 = .ok (.iushr, 1) := by decide +kernel
theorem d7 : decode yB 7 = .ok (.i2b, 1) := by decide +kernel
theorem d8 : decode yB 8 = .ok (.ireturn, 1) := by decide +kernel
def site : List Cond := []
def tab : Cond := tabOf yN yB 2 (some .byte) site
def P (d : Addr) (B : Cell) (args : Array Value) (s : State) : Prop := args = #[.ref d, .int (Int32.ofNat B.slots.size)] ∧ Arr .byte d B s
def E (r : Option Value) (s u : State) : Prop := XT.PureE (some (.int 0)) r s u
/-- an array as long as the number of chars: LATIN1 -/
theorem law (l : Launch) (d : Addr) (B : Cell) : Law l yN 2 2 0 0 yB 2 (some .byte) site (P d B) E [] 0 0 := by
  refine Law.of_walk (plainFor_of_name (by decide +kernel)) (by decide +kernel) (by decide +kernel) (by decide) (fun _ _ h => by rw [h.1]; rfl) (fun _ U U' hal hh h => ⟨h.1, h.2.mv hal hh⟩) (fun r U U' V V' h1 hal h2 h => XT.PureE.mv r U U' V V' h1 hal h2 h) ?_
  intro p e s m args below meth c s₁ X0 hexec hbytes hml hret hlk hnm hown hh0 W hP
  obtain ⟨rfl, hB⟩ := hP
  have hB0 := hB.mv X0.warmed.alike hh0
  have c1 : Steps p.tables e below (s₁.setTop (entryFrame m #[.ref d, .int (Int32.ofNat B.slots.size)] 2)) (s₁.setTop (mkF m 0 #[.val (.ref d), .val (.int (Int32.ofNat B.slots.size))] [])) := entry rfl
  have c2 : Steps p.tables e below (s₁.setTop (entryFrame m #[.ref d, .int (Int32.ofNat B.slots.size)] 2)) (s₁.setTop (mkF m 2 #[.val (.ref d), .val (.int (Int32.ofNat B.slots.size))] [.ref d, .int (Int32.ofNat B.slots.size)])) := c1.trans (by
    refine XS.iloadN X0.here hexec rfl (hb hbytes d0) rfl ?_
    refine XS.aloadN X0.here hexec rfl (hb hbytes d1) rfl rfl ?_
    exact Steps.refl _)
  have c3 : Steps p.tables e below (s₁.setTop (entryFrame m #[.ref d, .int (Int32.ofNat B.slots.size)] 2)) (s₁.setTop (mkF m 8 #[.val (.ref d), .val (.int (Int32.ofNat B.slots.size))] [.int (lo8 (ushr (Int32.ofNat B.slots.size - Int32.ofNat B.slots.size) 31))])) := c2.trans (by
    refine X0.alen hexec hB0 rfl rfl (hb hbytes d2) ?_
    refine XS.isub X0.here hexec rfl (hb hbytes d3) rfl ?_
    refine bipushV X0.here hexec rfl 31 (hb hbytes d4) (by decide) ?_
    refine iushr X0.here hexec rfl (hb hbytes d6) rfl ?_
    refine i2b X0.here hexec rfl (hb hbytes d7) rfl ?_
    exact Steps.refl _)
  have e0 : lo8 (ushr (Int32.ofNat B.slots.size - Int32.ofNat B.slots.size) 31) = 0 := by rw [Int32.sub_self]; decide
  rw [e0] at c3
  exact ⟨s₁, some (.int 0), _, _, _, X0, rfl, rfl, rfl, (fun h => by cases h), ⟨rfl, hh0⟩, fun fs hl => c3.trans (X0.ireturnOut hexec hret rfl (Or.inr (Or.inr (Or.inl rfl))) (hb hbytes d8) hl)⟩
end CodL
/-- the String at a is Latin-1 over a new byte[] (the heap's one new cell): the low bytes of the len chars of A from o on; every cell but a is kept -/
def Got (a : Addr) (D : Cell) (fV fC : Field) (A : Cell) (o len : Nat) (r : Option Value) (s u : State) : Prop := r = none ∧ ∃ D' V : Cell, Blank "java/lang/String" a D' u ∧ Same D D' [fV.slot, fC.slot] ∧ D'.slots[fV.slot]? = some (.ref s.heap.size) ∧ D'.slots[fC.slot]? = some (.int 0) ∧ Arr .byte s.heap.size V u ∧ V.vm = .none ∧ u.vm.findClass "[B" = some V.cls ∧ V.slots.size = len ∧ (∀ j, j < len → V.slots[j]? = some (.int (lo8 (cv A (o + j))))) ∧ (∀ (y : Addr) (c : Cell), y ≠ a → s.heap[y]? = some c → u.heap[y]? = some c) ∧ u.heap.size = s.heap.size + 1
theorem Got.mv {a : Addr} {D A : Cell} {fV fC : Field} {o len : Nat} : ∀ r (U U' V V' : State), U'.heap = U.heap → V.vm.Alike V'.vm → V'.heap = V.heap → Got a D fV fC A o len r U V → Got a D fV fC A o len r U' V' :=
  fun r U U' V V' h1 hal h2 ⟨e0, D', X, a1, a2, a3, a4, a5, a6, a7, a8, a9, a10, a11⟩ => ⟨e0, D', X, a1.mv hal h2, a2, by rw [h1]; exact a3, a4, by rw [h1]; exact a5.mv hal h2, a6, by rw [hal.findClass]; exact a7, a8, a9, by rw [h1, h2]; exact a10, by rw [h1, h2]; exact a11⟩
namespace New4
def yN : MethodName := ⟨"java/lang/String", "<init>", "([CIILjava/lang/Void;)V"⟩
abbrev yB : ByteArray := jdk_42_method_149_code
theorem d0 : decode yB 0 = .ok (.aload_n 0, 1) := by decide +kernel
theorem d1 : decode yB 1 = .ok (.invokespecial 1, 3) := by decide +kernel
theorem d4 : decode yB 4 = .ok (.iload_n 3, 1) := by decide +kernel
theorem d5 : decode yB 5 = .ok (.ifCond (.ne) 22, 3) := by decide +kernel
theorem d27 : decode yB 27 = .ok (.getstatic 38, 3) := by decide +kernel
theorem d30 : decode yB 30 = .ok (.ifCond (.eq) 28, 3) := by decide +kernel
theorem d33 : decode yB 33 = .ok (.aload_n 1, 1) := by decide +kernel
theorem d34 : decode yB 34 = .ok (.iload_n 2, 1) := by decide +kernel
theorem d35 : decode yB 35 = .ok (.iload_n 3, 1) := by decide +kernel
theorem d36 : decode yB 36 = .ok (.invokestatic 177, 3) := by decide +kernel
theorem d39 : decode yB 39 = .ok (.astore 5, 2) := by decide +kernel
theorem d41 : decode yB 41 = .ok (.aload_n 0, 1) := by decide +kernel
theorem d42 : decode yB 42 = .ok (.aload 5, 2) := by decide +kernel
theorem d44 : decode yB 44 = .ok (.iload_n 3, 1) := by decide +kernel
theorem d45 : decode yB 45 = .ok (.invokestatic 47, 3) := by decide +kernel
theorem d48 : decode yB 48 = .ok (.putfield 15, 3) := by decide +kernel
theorem d51 : decode yB 51 = .ok (.aload_n 0, 1) := by decide +kernel
theorem d52 : decode yB 52 = .ok (.aload 5, 2) := by decide +kernel
theorem d54 : decode yB 54 = .ok (.putfield 9, 3) := by decide +kernel
theorem d57 : decode yB 57 = .ok (.return_, 1) := by decide +kernel
def site : List Cond := [.fieldLink "java/lang/String" 38 "java/lang/String" "COMPACT_STRINGS" "Z", Cmp3.tab, CodL.tab, .laysFinal "java/lang/String" "java/lang/String" "value" "[B", .fieldLink "java/lang/String" 9 "java/lang/String" "value" "[B", .laysFinal "java/lang/String" "java/lang/String" "coder" "B", .fieldLink "java/lang/String" 15 "java/lang/String" "coder" "B"] ++ objW "java/lang/String" 1 ++ staticW "java/lang/String" 177 Cmp3.yN ++ staticW "java/lang/String" 47 CodL.yN
def tab : Cond := tabOf yN yB 6 none site
def P (a : Addr) (D : Cell) (fV fC : Field) (b : Addr) (A : Cell) (z : Int32) (o len : Nat) (args : Array Value) (s : State) : Prop := args = #[.ref a, .ref b, .int (Int32.ofNat o), .int (Int32.ofNat len), .null] ∧ Blank "java/lang/String" a D s ∧ Found "java/lang/String" "value" "[B" fV s ∧ Found "java/lang/String" "coder" "B" fC s ∧ Ch b A s ∧ StaticIs s "java/lang/String" "COMPACT_STRINGS" "Z" (.int z) ∧ ¬ z = 0 ∧ 0 < len ∧ o + len ≤ A.slots.size ∧ len ≤ 536870912 ∧ ∀ i, i < len → ¬ 255 < cv A (o + i)
def E (a : Addr) (D : Cell) (fV fC : Field) (A : Cell) (o len : Nat) (r : Option Value) (s u : State) : Prop := Got a D fV fC A o len r s u
/-- len > 0, no char of the range above 255: a Latin-1 String of their low bytes -/
theorem law (l : Launch) (a : Addr) (D : Cell) (fV fC : Field) (b : Addr) (A : Cell) (z : Int32) (o len : Nat) : Law l yN 5 4 2 35 yB 6 none site (P a D fV fC b A z o len) (E a D fV fC A o len) [⟨a, fC.slot⟩, ⟨a, fV.slot⟩] 1 len := by
  refine Law.of_walk (plainFor_of_name (by decide +kernel)) (by decide +kernel) (by decide +kernel) (by decide) (fun _ _ h => by rw [h.1]; rfl) (fun _ U U' hal hh h => ⟨h.1, h.2.1.mv hal hh, h.2.2.1.al hal, h.2.2.2.1.al hal, h.2.2.2.2.1.mv hal hh, h.2.2.2.2.2.1.there hal hh, h.2.2.2.2.2.2⟩) (fun r U U' V V' h1 hal h2 h => Got.mv r U U' V V' h1 hal h2 h) ?_
  intro p e s m args below meth c s₁ X0 hexec hbytes hml hret hlk hnm hown hh0 W hP
  obtain ⟨rfl, hB, f1, f2, hA, s1, hz, l0, l1, l2, hp⟩ := hP
  have a31 := hA.1.2.2.2
  have c1 : Steps p.tables e below (s₁.setTop (entryFrame m #[.ref a, .ref b, .int (Int32.ofNat o), .int (Int32.ofNat len), .null] 6)) (s₁.setTop (mkF m 0 #[.val (.ref a), .val (.ref b), .val (.int (Int32.ofNat o)), .val (.int (Int32.ofNat len)), .val .null, .unset] [])) := entry rfl
  have c2 : Steps p.tables e below (s₁.setTop (entryFrame m #[.ref a, .ref b, .int (Int32.ofNat o), .int (Int32.ofNat len), .null] 6)) (s₁.setTop (mkF m 1 #[.val (.ref a), .val (.ref b), .val (.int (Int32.ofNat o)), .val (.int (Int32.ofNat len)), .val .null, .unset] [.ref a])) := c1.trans (by
    refine XS.aloadN X0.here hexec rfl (hb hbytes d0) rfl rfl ?_
    exact Steps.refl _)
  obtain ⟨T3, X3, q3, st3⟩ := X0.oinit hexec hown (wks W (objW "java/lang/String" 1)) (g := (mkF m 1 #[.val (.ref a), .val (.ref b), .val (.int (Int32.ofNat o)), .val (.int (Int32.ofNat len)), .val .null, .unset] [.ref a])) rfl (by rw [hml]; rfl) (rest := []) rfl (hb hbytes d1) (W := 0) (by show 2 * 0 + 0 ≤ _; decide) (Nat.le_of_ble_eq_true rfl) (Nat.le_of_ble_eq_true rfl)
  have hh3 := q3.trans hh0
  have c4 : Steps p.tables e below (s₁.setTop (entryFrame m #[.ref a, .ref b, .int (Int32.ofNat o), .int (Int32.ofNat len), .null] 6)) (T3.setTop (mkF m 27 #[.val (.ref a), .val (.ref b), .val (.int (Int32.ofNat o)), .val (.int (Int32.ofNat len)), .val .null, .unset] [])) := (c2.trans (st3 _ (Steps.refl _))).trans (by
    refine XS.iloadN X3.here hexec rfl (hb hbytes d4) rfl ?_
    refine XS.ifYes X3.here hexec rfl (pc0 := 5) rfl (hb hbytes d5) rfl (i0_ne_t (nz32 (by omega) l0)) (by decide) rfl ?_
    exact Steps.refl _)
  obtain ⟨T5, X5, q5, st5⟩ := X3.sget hexec hown (wk W (.fieldLink "java/lang/String" 38 "java/lang/String" "COMPACT_STRINGS" "Z")) s1 (fun _ _ h => by rw [hh3]; exact h) (g := (mkF m 27 #[.val (.ref a), .val (.ref b), .val (.int (Int32.ofNat o)), .val (.int (Int32.ofNat len)), .val .null, .unset] [])) rfl (hb hbytes d27)
  have hh5 := q5.trans hh3
  have c6 : Steps p.tables e below (s₁.setTop (entryFrame m #[.ref a, .ref b, .int (Int32.ofNat o), .int (Int32.ofNat len), .null] 6)) (T5.setTop (mkF m 30 #[.val (.ref a), .val (.ref b), .val (.int (Int32.ofNat o)), .val (.int (Int32.ofNat len)), .val .null, .unset] [.int z])) := c4.trans (st5 _ (Steps.refl _))
  have c7 : Steps p.tables e below (s₁.setTop (entryFrame m #[.ref a, .ref b, .int (Int32.ofNat o), .int (Int32.ofNat len), .null] 6)) (T5.setTop (mkF m 36 #[.val (.ref a), .val (.ref b), .val (.int (Int32.ofNat o)), .val (.int (Int32.ofNat len)), .val .null, .unset] [.int (Int32.ofNat len), .int (Int32.ofNat o), .ref b])) := c6.trans (by
    refine XS.ifNo X5.here hexec rfl (hb hbytes d30) rfl (i0_eq_f hz) ?_
    refine XS.aloadN X5.here hexec rfl (hb hbytes d33) rfl rfl ?_
    refine XS.iloadN X5.here hexec rfl (hb hbytes d34) rfl ?_
    refine XS.iloadN X5.here hexec rfl (hb hbytes d35) rfl ?_
    exact Steps.refl _)
  obtain ⟨v8, T8, X8, E8, g8⟩ := X5.callS hexec (Cmp3.law l b A o len) hown (wks W (staticW "java/lang/String" 177 Cmp3.yN)) (wk W Cmp3.tab) (W := 0) (Nat.le_of_ble_eq_true rfl) (Nat.le_of_ble_eq_true rfl) (Nat.le_refl _) (by show 0 + len ≤ len; omega) (g := (mkF m 36 #[.val (.ref a), .val (.ref b), .val (.int (Int32.ofNat o)), .val (.int (Int32.ofNat len)), .val .null, .unset] [.int (Int32.ofNat len), .int (Int32.ofNat o), .ref b])) rfl (by rw [hml]; rfl) c7 (argsL := [.ref b, .int (Int32.ofNat o), .int (Int32.ofNat len)]) (rest := []) rfl rfl (by show 2 * 0 + 0 ≤ _; decide) (hb hbytes d36) (⟨rfl, hA.mv X5.warmed.alike hh5, l1, l2, hp⟩)
  obtain ⟨e8, z8⟩ := E8
  obtain ⟨rfl, N, n1, n2, n3, n4, n5, n6⟩ := NewArr.mv _ T5 s _ _ hh5.symm (Vm.Alike.refl _) rfl e8
  rw [hh5] at z8
  have hB1 := hB.keep X8.warmed.alike (n6 _ _ hB.1)
  have hne : s.heap.size ≠ a := (Nat.ne_of_lt (Array.getElem?_eq_some_iff.mp hB.1).1).symm
  have c9 : Steps p.tables e below (s₁.setTop (entryFrame m #[.ref a, .ref b, .int (Int32.ofNat o), .int (Int32.ofNat len), .null] 6)) (T8.setTop (mkF m 39 #[.val (.ref a), .val (.ref b), .val (.int (Int32.ofNat o)), .val (.int (Int32.ofNat len)), .val .null, .unset] [.ref s.heap.size])) := g8
  have c10 : Steps p.tables e below (s₁.setTop (entryFrame m #[.ref a, .ref b, .int (Int32.ofNat o), .int (Int32.ofNat len), .null] 6)) (T8.setTop (mkF m 45 #[.val (.ref a), .val (.ref b), .val (.int (Int32.ofNat o)), .val (.int (Int32.ofNat len)), .val .null, .val (.ref s.heap.size)] [.int (Int32.ofNat N.slots.size), .ref s.heap.size, .ref a])) := by
    have hc : Steps p.tables e below (s₁.setTop (entryFrame m #[.ref a, .ref b, .int (Int32.ofNat o), .int (Int32.ofNat len), .null] 6)) (T8.setTop (mkF m 45 #[.val (.ref a), .val (.ref b), .val (.int (Int32.ofNat o)), .val (.int (Int32.ofNat len)), .val .null, .val (.ref s.heap.size)] [.int (Int32.ofNat len), .ref s.heap.size, .ref a])) := c9.trans (by
      refine XS.astore X8.here hexec rfl (hb hbytes d39) rfl rfl rfl ?_
      refine XS.aloadN X8.here hexec rfl (hb hbytes d41) rfl rfl ?_
      refine XS.aload X8.here hexec rfl (hb hbytes d42) rfl rfl ?_
      refine XS.iloadN X8.here hexec rfl (hb hbytes d44) rfl ?_
      exact Steps.refl _)
    rw [n4]; exact hc
  obtain ⟨v11, T11, X11, E11, g11⟩ := X8.callS hexec (CodL.law l s.heap.size N) hown (wks W (staticW "java/lang/String" 47 CodL.yN)) (wk W CodL.tab) (W := 1) (Nat.le_of_ble_eq_true rfl) (Nat.le_of_ble_eq_true rfl) (Nat.le_refl _) (by show 0 + len + 0 ≤ len; omega) (g := (mkF m 45 #[.val (.ref a), .val (.ref b), .val (.int (Int32.ofNat o)), .val (.int (Int32.ofNat len)), .val .null, .val (.ref s.heap.size)] [.int (Int32.ofNat N.slots.size), .ref s.heap.size, .ref a])) rfl (by rw [hml]; rfl) c10 (argsL := [.ref s.heap.size, .int (Int32.ofNat N.slots.size)]) (rest := [.ref a]) rfl rfl (by show 2 * 0 + (1 + 0) ≤ _; decide) (hb hbytes d45) (⟨rfl, n1⟩)
  obtain ⟨rfl, q11⟩ := E11
  have hB11 := hB1.mv (X8.warmed.alike.symm.trans X11.warmed.alike) q11
  have c12 : Steps p.tables e below (s₁.setTop (entryFrame m #[.ref a, .ref b, .int (Int32.ofNat o), .int (Int32.ofNat len), .null] 6)) (T11.setTop (mkF m 48 #[.val (.ref a), .val (.ref b), .val (.int (Int32.ofNat o)), .val (.int (Int32.ofNat len)), .val .null, .val (.ref s.heap.size)] [.int 0, .ref a])) := g11
  obtain ⟨T13, X13, p13, bl13, sl13, st13⟩ := X11.finit hexec hown (wk W (.fieldLink "java/lang/String" 15 "java/lang/String" "coder" "B")) (Or.inr ⟨_, (wk W (.laysFinal "java/lang/String" "java/lang/String" "coder" "B"))⟩) (Or.inl ⟨rfl, hnm⟩) f2 (Or.inl rfl) hB11 (t := .byte) (by decide +kernel) rfl (g := (mkF m 48 #[.val (.ref a), .val (.ref b), .val (.int (Int32.ofNat o)), .val (.int (Int32.ofNat len)), .val .null, .val (.ref s.heap.size)] [.int 0, .ref a])) rfl (rest := []) rfl (hb hbytes d48)
  have c14 : Steps p.tables e below (s₁.setTop (entryFrame m #[.ref a, .ref b, .int (Int32.ofNat o), .int (Int32.ofNat len), .null] 6)) (T13.setTop (mkF m 54 #[.val (.ref a), .val (.ref b), .val (.int (Int32.ofNat o)), .val (.int (Int32.ofNat len)), .val .null, .val (.ref s.heap.size)] [.ref s.heap.size, .ref a])) := (c12.trans (st13 _ (Steps.refl _))).trans (by
    refine XS.aloadN X13.here hexec rfl (hb hbytes d51) rfl rfl ?_
    refine XS.aload X13.here hexec rfl (hb hbytes d52) rfl rfl ?_
    exact Steps.refl _)
  obtain ⟨T15, X15, p15, bl15, sl15, st15⟩ := X13.finit hexec hown (wk W (.fieldLink "java/lang/String" 9 "java/lang/String" "value" "[B")) (Or.inr ⟨_, (wk W (.laysFinal "java/lang/String" "java/lang/String" "value" "[B"))⟩) (Or.inl ⟨rfl, hnm⟩) f1 (Or.inl rfl) bl13 (t := (.array .byte)) (by decide +kernel) rfl (g := (mkF m 54 #[.val (.ref a), .val (.ref b), .val (.int (Int32.ofNat o)), .val (.int (Int32.ofNat len)), .val .null, .val (.ref s.heap.size)] [.ref s.heap.size, .ref a])) rfl (rest := []) rfl (hb hbytes d54)
  have c16 : Steps p.tables e below (s₁.setTop (entryFrame m #[.ref a, .ref b, .int (Int32.ofNat o), .int (Int32.ofNat len), .null] 6)) (T15.setTop (mkF m 57 #[.val (.ref a), .val (.ref b), .val (.int (Int32.ofNat o)), .val (.int (Int32.ofNat len)), .val .null, .val (.ref s.heap.size)] [])) := c14.trans (st15 _ (Steps.refl _))
  have ap := apart (Or.inr ⟨_, (wk W (.laysFinal "java/lang/String" "java/lang/String" "value" "[B"))⟩) (Or.inr ⟨_, (wk W (.laysFinal "java/lang/String" "java/lang/String" "coder" "B"))⟩) f1 f2 (t₁ := .array .byte) (t₂ := .byte) (by decide +kernel) (by decide +kernel) (by decide)
  have al := X8.warmed.alike.symm.trans X15.warmed.alike
  have n7 : T11.heap[s.heap.size]? = some N := by rw [q11]; exact n1.1
  exact ⟨T15, none, _, _, _, X15, by simp, rfl, by omega, (fun _ => rfl), ⟨rfl, _, N, bl15, ((Same.refl D _).set _ (by simp)).set _ (by simp), sl15, (Cell.slots_setSlot_ne _ ap).trans sl13, n1.keep al (p15.other hne (p13.other hne n7)), n2, by rw [al.findClass]; exact n3, n4, n5, fun y c h1 h2 => p15.other h1 (p13.other h1 (by rw [q11]; exact n6 y c h2)), by rw [p15.2.2, p13.2.2, q11]; exact z8⟩, fun fs hl => c16.trans (X15.returnOut hexec hret (hb hbytes d57) hl)⟩
end New4
namespace New1
def yN : MethodName := ⟨"java/lang/String", "<init>", "([C)V"⟩
abbrev yB : ByteArray := jdk_42_method_3_code
theorem d0 : decode yB 0 = .ok (.aload_n 0, 1) := by decide +kernel
theorem d1 : decode yB 1 = .ok (.aload_n 1, 1) := by decide +kernel
theorem d2 : decode yB 2 = .ok (.iconst 0, 1) := by decide +kernel
theorem d3 : decode yB 3 = .ok (.aload_n 1, 1) := by decide +kernel
theorem d4 : decode yB 4 = .ok (.arraylength, 1) := by decide +kernel
theorem d5 : decode yB 5 = .ok (.aconst_null, 1) := by decide +kernel
theorem d6 : decode yB 6 = .ok (.invokespecial 27, 3) := by decide +kernel
theorem d9 : decode yB 9 = .ok (.return_, 1) := by decide +kernel
def site : List Cond := [New4.tab] ++ initW "java/lang/String" 27 New4.yN
def tab : Cond := tabOf yN yB 2 none site
def P (a : Addr) (D : Cell) (fV fC : Field) (b : Addr) (A : Cell) (z : Int32) (args : Array Value) (s : State) : Prop := args = #[.ref a, .ref b] ∧ Blank "java/lang/String" a D s ∧ Found "java/lang/String" "value" "[B" fV s ∧ Found "java/lang/String" "coder" "B" fC s ∧ Ch b A s ∧ StaticIs s "java/lang/String" "COMPACT_STRINGS" "Z" (.int z) ∧ ¬ z = 0 ∧ 0 < A.slots.size ∧ A.slots.size ≤ 536870912 ∧ ∀ i, i < A.slots.size → ¬ 255 < cv A i
def E (a : Addr) (D : Cell) (fV fC : Field) (A : Cell) (r : Option Value) (s u : State) : Prop := Got a D fV fC A 0 A.slots.size r s u
/-- new String(chars), not empty, no char above 255: a Latin-1 String of their low bytes -/
theorem law (l : Launch) (a : Addr) (D : Cell) (fV fC : Field) (b : Addr) (A : Cell) (z : Int32) : Law l yN 2 1 3 52 yB 2 none site (P a D fV fC b A z) (E a D fV fC A) [⟨a, fC.slot⟩, ⟨a, fV.slot⟩] 1 A.slots.size := by
  refine Law.of_walk (plainFor_of_name (by decide +kernel)) (by decide +kernel) (by decide +kernel) (by decide) (fun _ _ h => by rw [h.1]; rfl) (fun _ U U' hal hh h => ⟨h.1, h.2.1.mv hal hh, h.2.2.1.al hal, h.2.2.2.1.al hal, h.2.2.2.2.1.mv hal hh, h.2.2.2.2.2.1.there hal hh, h.2.2.2.2.2.2⟩) (fun r U U' V V' h1 hal h2 h => Got.mv r U U' V V' h1 hal h2 h) ?_
  intro p e s m args below meth c s₁ X0 hexec hbytes hml hret hlk hnm hown hh0 W hP
  obtain ⟨rfl, hB, f1, f2, hA, s1, hz, l0, l2, hp⟩ := hP
  have c1 : Steps p.tables e below (s₁.setTop (entryFrame m #[.ref a, .ref b] 2)) (s₁.setTop (mkF m 0 #[.val (.ref a), .val (.ref b)] [])) := entry rfl
  have c2 : Steps p.tables e below (s₁.setTop (entryFrame m #[.ref a, .ref b] 2)) (s₁.setTop (mkF m 6 #[.val (.ref a), .val (.ref b)] [.null, .int (Int32.ofNat A.slots.size), .int 0, .ref b, .ref a])) := c1.trans (by
    refine XS.aloadN X0.here hexec rfl (hb hbytes d0) rfl rfl ?_
    refine XS.aloadN X0.here hexec rfl (hb hbytes d1) rfl rfl ?_
    refine iconstV X0.here hexec rfl 0 (hb hbytes d2) (by decide) ?_
    refine XS.aloadN X0.here hexec rfl (hb hbytes d3) rfl rfl ?_
    refine X0.alen hexec (hA.1.mv X0.warmed.alike hh0) rfl rfl (hb hbytes d4) ?_
    refine XS.aconstNull X0.here hexec rfl (hb hbytes d5) ?_
    exact Steps.refl _)
  obtain ⟨v3, T3, X3, E3, g3⟩ := X0.callN hexec (New4.law l a D fV fC b A z 0 A.slots.size) rfl hown (wks W (initW "java/lang/String" 27 New4.yN)) (W New4.tab (by simp only [site, List.mem_cons, List.mem_append, true_or, or_true])) (W := 0) (Nat.le_of_ble_eq_true rfl) (Nat.le_of_ble_eq_true rfl) (Nat.le_refl _) (by show 0 + A.slots.size ≤ A.slots.size; omega) (g := (mkF m 6 #[.val (.ref a), .val (.ref b)] [.null, .int (Int32.ofNat A.slots.size), .int (Int32.ofNat 0), .ref b, .ref a])) rfl (by rw [hml]; rfl) c2 (argsL := [.ref b, .int (Int32.ofNat 0), .int (Int32.ofNat A.slots.size), .null]) (rest := []) rfl rfl (by show 2 * 0 + 0 ≤ _; decide) (hb hbytes d6) (⟨rfl, hB.mv X0.warmed.alike hh0, f1.al X0.warmed.alike, f2.al X0.warmed.alike, hA.mv X0.warmed.alike hh0, s1.there X0.warmed.alike hh0, hz, l0, by omega, l2, fun i hi => by rw [Nat.zero_add]; exact hp i hi⟩)
  have e0 := Got.mv _ s₁ s _ _ hh0.symm (Vm.Alike.refl _) rfl E3
  obtain rfl := e0.1
  have c4 : Steps p.tables e below (s₁.setTop (entryFrame m #[.ref a, .ref b] 2)) (T3.setTop (mkF m 9 #[.val (.ref a), .val (.ref b)] [])) := g3
  exact ⟨T3, none, _, _, _, X3, by simp, rfl, by omega, (fun _ => rfl), e0, fun fs hl => c4.trans (X3.returnOut hexec hret (hb hbytes d9) hl)⟩
theorem pays {l : Launch} {R : Room} {p : Program} {e : Env} {below : List Frame} {s : State} {sargs : Array Value} {len W : Nat} (a : Addr) (D : Cell) (fV fC : Field) (b : Addr) (A : Cell) (z : Int32) (htab : tab.before sargs s = true) (hfr : 4 ≤ R.frames) (hlo : W + 65 ≤ R.locals) :
    Back l R p e below s sargs yN len W (fun A₁ a₁ => A₁.cells + 1 ≤ R.cells ∧ A₁.slots + A.slots.size ≤ R.slots ∧ P a D fV fC b A z a₁ A₁.U) (fun A₁ _ v₁ B₁ => E a D fV fC A v₁ A₁.U B₁.U ∧ B₁.locs = A₁.locs ++ [⟨a, fC.slot⟩, ⟨a, fV.slot⟩] ∧ B₁.cells = A₁.cells + 1 ∧ B₁.slots = A₁.slots + A.slots.size) :=
  (law l a D fV fC b A z).pays htab hfr (by omega)
end New1
/-- the byte, read back as charAt reads it, is the char -/
theorem lo8_mask {x : Int32} (h0 : ¬ x < 0) (h1 : ¬ 255 < x) : lo8 x &&& 255 = x := by
  have t : ∀ k : Fin 256, lo8 (Int32.ofNat k.val) &&& 255 = Int32.ofNat k.val := by decide +kernel
  rw [Int32.lt_iff_toInt_lt] at h0 h1
  have e0 : (0 : Int32).toInt = 0 := rfl
  have e1 : (255 : Int32).toInt = 255 := rfl
  obtain ⟨k, hk⟩ : ∃ k : Nat, x.toInt = k := ⟨x.toInt.toNat, by omega⟩
  have hx : x = Int32.ofNat k := Int32.toInt_inj.mp (by rw [hk, Int32.toInt_ofNat_small (by omega)])
  rw [hx]
  exact t ⟨k, by omega⟩
end StrChars
namespace StrChars.Road
open Jvm Sem ClassFile Op Lib Jvm.Stand Jvm.Free Jvm.Free.XT
open Jvm.Lib.Cold (StaticIs)
abbrev ST : String := "java/lang/String"
/-- every table word that New1's law asks, flat -/
abbrev words : List Jvm.Cond := [.code New1.yN New1.yB 2 none, .initialized ST, .methodLink ST 27 New4.yN, .instanceMethod New4.yN,
  .code New4.yN New4.yB 6 none, .fieldLink ST 38 ST "COMPACT_STRINGS" "Z", .laysFinal ST ST "value" "[B", .fieldLink ST 9 ST "value" "[B", .laysFinal ST ST "coder" "B", .fieldLink ST 15 ST "coder" "B",
  .methodLink ST 1 Lib.objectInit, .instanceMethod Lib.objectInit, .code Lib.objectInit ⟨#[0xb1]⟩ 1 none, .methodLink ST 177 Cmp3.yN, .static Cmp3.yN, .methodLink ST 47 CodL.yN, .static CodL.yN,
  .code Cmp3.yN Cmp3.yB 6 (some (.array .byte)), .initialized U16, .arrayClass .byte, .methodLink U16 115 Cmp5.yN, .static Cmp5.yN, .code Cmp5.yN Cmp5.yB 7 (some .int), .code CodL.yN CodL.yB 2 (some .byte)]
theorem tab_of {a : Array Value} {s : State} (h : ∀ w ∈ words, w.before a s = true) : New1.tab.before a s = true := by
  have h5 : Cmp5.tab.before a s = true := unparts (wk h (.code Cmp5.yN Cmp5.yB 7 (some .int))) (wks h (.initialized Cmp5.yN.cls :: Cmp5.site))
  have hc : CodL.tab.before a s = true := unparts (wk h (.code CodL.yN CodL.yB 2 (some .byte))) (wks h (.initialized CodL.yN.cls :: CodL.site))
  have q5 : ∀ w ∈ Cmp5.tab :: words, w.before a s = true := fun w hw => (List.mem_cons.mp hw).elim (fun e => e ▸ h5) (h w)
  have h3 : Cmp3.tab.before a s = true := unparts (wk q5 (.code Cmp3.yN Cmp3.yB 6 (some (.array .byte)))) (wks q5 (.initialized Cmp3.yN.cls :: Cmp3.site))
  have q3 : ∀ w ∈ Cmp3.tab :: CodL.tab :: words, w.before a s = true := fun w hw => (List.mem_cons.mp hw).elim (fun e => e ▸ h3) fun hw => (List.mem_cons.mp hw).elim (fun e => e ▸ hc) (h w)
  have h4 : New4.tab.before a s = true := unparts (wk q3 (.code New4.yN New4.yB 6 none)) (wks q3 (.initialized New4.yN.cls :: New4.site))
  have q4 : ∀ w ∈ New4.tab :: words, w.before a s = true := fun w hw => (List.mem_cons.mp hw).elim (fun e => e ▸ h4) (h w)
  exact unparts (wk q4 (.code New1.yN New1.yB 2 none)) (wks q4 (.initialized New1.yN.cls :: New1.site))
/-- the words ride from the start Z to the walk's own state -/
theorem moved {Z s : State} {a0 args : Array Value} (hZ : Z.Warmed39 s.vm) (hw : ∀ d ∈ words, d.before a0 Z = true) : ∀ d ∈ words, d.before args s = true := fun d hd => by
  have q := hw d hd
  have t : ∀ d ∈ words, d = .arrayClass .byte ∨ (d.onTables && d.keepsFace) = true := by decide +kernel
  rcases t d hd with rfl | t
  · exact RoadKit.mvA hZ q
  · exact RoadKit.mv hZ q t
/-- WHAT COMES BACK, over the tables of the start Z: h the heap at the call, h' behind it -/
def Q (Z : State) (x : Addr) (A : Cell) (h : Heap) (v : Option Value) (h' : Heap) (L : List Loc) : Prop := v = none ∧ (∀ y ∈ L, y.base = x) ∧ RoadKit.Keep h h' [x] ∧ h'.size = h.size + 1 ∧ RoadKit.Exa Z h' x ST ∧ RoadKit.Fld Z h' x ST "value" "[B" (.ref h.size) ∧ RoadKit.Fld Z h' x ST "coder" "B" (.int 0) ∧
  (∃ V : Cell, RoadKit.Arr Z h' h.size V .byte ∧ V.vm = .none ∧ Z.vm.findClass "[B" = some V.cls ∧ V.slots.size = A.slots.size ∧ ∀ j, j < A.slots.size → V.slots[j]? = some (.int (lo8 (cv A j)))) ∧
  ∀ (O n d : String) (w : Value), RoadKit.Fld Z h x O n d w → RoadKit.slotOf Z O n d ≠ RoadKit.slotOf Z ST "value" "[B" → RoadKit.slotOf Z O n d ≠ RoadKit.slotOf Z ST "coder" "B" → RoadKit.Fld Z h' x O n d w
/-- **new String(chars) AT A CALL, IN THE ROAD'S FORM**: for specialBack behind newO: x the fresh String, b the char[] with the cell A -/
theorem back {p : Program} {l : Launch} {e : Env} {R : Room} {s : State} {args : Array Value} {below : List Frame} {len W : Nat} {Z : State} {a0 : Array Value} {h : Heap} (hZ : Z.Warmed39 s.vm) (hw : ∀ d ∈ words, d.before a0 Z = true) {kI : Nat} (wi : (Jvm.Cond.instantiable ST kI).before a0 Z = true)
    {x b : Addr} {A : Cell} {z : Int32} {v0 c0 : Value} (E : RoadKit.Exa Z h x ST) (V : RoadKit.Fld Z h x ST "value" "[B" v0) (C : RoadKit.Fld Z h x ST "coder" "B" c0) (K : RoadKit.Arr Z h b A .char) (hty : Typed .char A) (S : RoadKit.Sta Z h ST "COMPACT_STRINGS" "Z" (.int z)) (hz : ¬ z = 0)
    (l0 : 0 < A.slots.size) (l2 : A.slots.size ≤ 536870912) (hp : ∀ i, i < A.slots.size → ¬ 255 < cv A i) (hfr : 4 ≤ R.frames) (hlo : W + 65 ≤ R.locals) :
    Back l R p e below s args New1.yN len W (fun P a => a = #[.ref x, .ref b] ∧ P.U.heap = h ∧ P.cells + 1 ≤ R.cells ∧ P.slots + A.slots.size ≤ R.slots)
      (fun P _ v B => ∃ L, Q Z x A h v B.U.heap L ∧ B.locs = P.locs ++ L ∧ B.cells = P.cells + 1 ∧ B.slots = P.slots + A.slots.size) := by
  intro m meth c P g ig mk a X hg hsize hdg hW hn hp'
  obtain ⟨rfl, rfl, r1, r2⟩ := hp'
  have al : Z.vm.Alike P.U.vm := hZ.alike.trans X.warmed.alike
  obtain ⟨D, cfV, kV, iV, fV, hD, gV, stV, knV, obV, asV, slV⟩ := id V
  obtain ⟨D', cfC, kC, iC, fC, hD', gC, stC, -, -, asC, slC⟩ := id C
  cases hD.symm.trans hD'
  obtain ⟨D2, kD, e1, e2, e3, e4, e5⟩ := id E
  cases hD.symm.trans e1
  obtain ⟨c2, k2, i1, i2, i3, -⟩ := Cond.instantiable_spec wi
  cases e2.symm.trans i1
  cases e3.symm.trans i2
  obtain ⟨kU, u1, u2⟩ := al.2.2 _ _ e3
  have hB : Blank ST x D P.U := ⟨hD, ⟨knV, fun q hq => by rw [hq] at obV; cases obV⟩, by rw [al.findClass]; exact e2, kU, u1, by rw [u2]; exact i3, by rw [u2]; exact e5 i3⟩
  have F1 : Found ST "value" "[B" fV P.U := ⟨SBG.found_only al ⟨cfV, kV, iV, gV⟩, stV⟩
  have F2 : Found ST "coder" "B" fC P.U := ⟨SBG.found_only al ⟨cfC, kC, iC, gC⟩, stC⟩
  have hA : Ch b A P.U := ⟨⟨K.1, State.isArrayOf_alike al K.2.1, K.2.2, by omega⟩, hty⟩
  have hS : StaticIs P.U ST "COMPACT_STRINGS" "Z" (.int z) := by
    obtain ⟨cfS, iS, kS, fS, st, cS, t1, t2, t3, t4, t5, t6, t7⟩ := S
    exact StaticIs.there (s := { Z with heap := P.U.heap }) ⟨cfS, iS, kS, fS, st, cS, t1, t2, t3, t4, t5, (fun q => by rw [q] at t6; cases t6), t7⟩ al rfl
  obtain ⟨v, B, X', ⟨⟨hv, E', V', q1, q2, q3, q4, q5, q6, q7, q8, q9, q10, q11⟩, hl, hc, hs⟩, st⟩ := New1.pays x D fV fC b A z (tab_of (moved hZ hw)) hfr hlo m meth c P g ig mk _ X hg hsize hdg hW hn ⟨r1, r2, rfl, hB, F1, F2, hA, hS, hz, l0, l2, hp⟩
  have al' : Z.vm.Alike B.U.vm := hZ.alike.trans X'.warmed.alike
  have hsz : E'.slots.size = D.slots.size := by
    obtain ⟨-, -, -, kB, w1, w2, w3⟩ := q1
    obtain ⟨kB', y1, y2⟩ := al'.2.2 _ _ e3
    rw [q2.2.1] at w1
    cases w1.symm.trans y1
    rw [w3, e5 i3, y2]
  refine ⟨v, B, X', ⟨_, ⟨hv, ?_, ⟨by omega, fun y cy hy hn' => q10 y cy (by simpa using hn') hy, fun y cy hy => ?_⟩, q11, ⟨E', _, q1.1, by rw [q2.2.1]; exact e2, by rw [q2.2.1]; exact e3, by rw [q2.1]; exact obV, fun _ => by rw [hsz]; exact e5 i3⟩,
    ⟨E', cfV, kV, iV, fV, q1.1, gV, stV, by rw [q2.1]; exact knV, by rw [q2.1]; exact obV, by rw [q2.2.1]; exact asV, q3⟩, ⟨E', cfC, kC, iC, fC, q1.1, gC, stC, by rw [q2.1]; exact knV, by rw [q2.1]; exact obV, by rw [q2.2.1]; exact asC, q4⟩,
    ⟨V', ⟨q5.1, State.isArrayOf_alike al'.symm q5.2.1, q5.2.2.1⟩, q6, by rw [← al'.findClass]; exact q7, q8, fun j hj => by have := q9 j hj; rwa [Nat.zero_add] at this⟩, fun O n d w F n1 n2 => ?_⟩, hl, hc, hs⟩, st⟩
  · intro y hy
    simp only [List.mem_cons, List.not_mem_nil, or_false] at hy
    rcases hy with rfl | rfl <;> rfl
  · by_cases q : y = x
    · subst q
      cases hD.symm.trans hy
      exact ⟨E', q1.1, q2.2.1, q2.1, hsz⟩
    · exact ⟨cy, q10 y cy q hy, rfl, rfl, rfl⟩
  · obtain ⟨D3, cf, k, i, f, g1, g2, g3, g4, g5, g6, g7⟩ := F
    cases hD.symm.trans g1
    simp only [RoadKit.slotOf, g2, gV, gC, Option.map_some, Option.getD_some] at n1 n2
    exact ⟨E', cf, k, i, f, q1.1, g2, g3, by rw [q2.1]; exact g4, by rw [q2.1]; exact g5, by rw [q2.2.1]; exact g6, by rw [q2.2.2 f.slot (by simp [n1, n2])]; exact g7⟩
end StrChars.Road
namespace StrChars.Road
open Jvm Sem ClassFile Op Lib Jvm.Stand Jvm.Free Jvm.Free.XT
/-- WHAT COMES BACK, the byte[] as a list of values -/
def QA (Z : State) (x : Addr) (zn : Int32) (cs : List Int32) (h : Heap) (v : Option Value) (h' : Heap) (L : List Loc) : Prop := v = none ∧ (∀ y ∈ L, y.base = x) ∧ RoadKit.Keep h h' [x] ∧ h'.size = h.size + 1 ∧ RoadKit.Exa Z h' x ST ∧ RoadKit.Fld Z h' x ST "value" "[B" (.ref h.size) ∧ RoadKit.Fld Z h' x ST "coder" "B" (.int 0) ∧
  (∃ kb, Z.vm.findClass "[B" = some kb ∧ RoadKit.Arv Z h' h.size kb .byte zn (cs.map fun c => .int (lo8 c)) (.int 0)) ∧
  ∀ (O n d : String) (w : Value), RoadKit.Fld Z h x O n d w → RoadKit.slotOf Z O n d ≠ RoadKit.slotOf Z ST "value" "[B" → RoadKit.slotOf Z O n d ≠ RoadKit.slotOf Z ST "coder" "B" → RoadKit.Fld Z h' x O n d w
/-- **new String(chars) AT A CALL, THE ARRAYS AS LISTS**: the char[] at b holds cs, not empty, no char above 255 -/
theorem backArv {p : Program} {l : Launch} {e : Env} {R : Room} {s : State} {args : Array Value} {below : List Frame} {len W : Nat} {Z : State} {a0 : Array Value} {h : Heap} (hZ : Z.Warmed39 s.vm) (hw : ∀ d ∈ words, d.before a0 Z = true) {kI : Nat} (wi : (Jvm.Cond.instantiable ST kI).before a0 Z = true)
    {x b : Addr} {k : ClassId} {zn z : Int32} {cs : List Int32} {dv v0 c0 : Value} (E : RoadKit.Exa Z h x ST) (V : RoadKit.Fld Z h x ST "value" "[B" v0) (C : RoadKit.Fld Z h x ST "coder" "B" c0) (K : RoadKit.Arv Z h b k .char zn (cs.map Value.int) dv) (S : RoadKit.Sta Z h ST "COMPACT_STRINGS" "Z" (.int z)) (hz : ¬ z = 0)
    (hlen : zn.toNatClampNeg = cs.length) (h0 : 0 < cs.length) (hbig : cs.length ≤ 536870912) (hall : ∀ c ∈ cs, ¬ 255 < c) (hfr : 4 ≤ R.frames) (hlo : W + 65 ≤ R.locals) :
    Back l R p e below s args New1.yN len W (fun P a => a = #[.ref x, .ref b] ∧ P.U.heap = h ∧ P.cells + 1 ≤ R.cells ∧ P.slots + cs.length ≤ R.slots)
      (fun P _ v B => ∃ L, QA Z x zn cs h v B.U.heap L ∧ B.locs = P.locs ++ L ∧ B.cells = P.cells + 1 ∧ B.slots = P.slots + cs.length) := by
  obtain ⟨A, K1, K2, K3, K4, K5, K6⟩ := K
  have e : A.slots.size = cs.length := K3.trans hlen
  have hat : ∀ (i : Nat) (hi : i < cs.length), A.slots[i]? = some (.int cs[i]) := fun i hi => by rw [K5 i (by omega)]; simp [List.getD_eq_getElem?_getD, hi]
  have hcv : ∀ (i : Nat) (hi : i < cs.length), cv A i = cs[i] := fun i hi => by unfold cv; rw [hat i hi]
  have hty : Typed .char A := fun i v hv => by
    have hi : i < A.slots.size := (Array.getElem?_eq_some_iff.mp hv).1
    have q := K5 i hi
    rw [hv] at q
    rw [Option.some.inj q]
    exact K6 i hi
  refine Back.mono (back hZ hw wi E V C K1 hty S hz (by omega) (by omega) (fun i hi => by rw [hcv i (by omega)]; exact hall _ (List.getElem_mem _)) hfr hlo) (fun P a hp => ⟨hp.1, hp.2.1, hp.2.2.1, by rw [e]; exact hp.2.2.2⟩) (fun P a v B hp hq => ?_)
  obtain ⟨L, ⟨q1, q2, q3, q4, q5, q6, q7, ⟨V', v1, v2, v3, v4, v5⟩, q9⟩, hl, hc, hs⟩ := hq
  refine ⟨L, ⟨q1, q2, q3, q4, q5, q6, q7, ⟨V'.cls, v3, V', v1, rfl, by rw [v4, e, hlen], K4, fun i hi => ?_, fun i hi => ?_⟩, q9⟩, hl, hc, by rw [hs, e]⟩
  · have hi' : i < cs.length := by omega
    rw [v5 i (by omega), hcv i hi']; simp [List.getD_eq_getElem?_getD, hi']
  · have hi' : i < cs.length := by omega
    simp only [List.getD_eq_getElem?_getD, List.getElem?_map, List.getElem?_eq_getElem hi', Option.map_some, Option.getD_some]
    exact fits_lo8 _
end StrChars.Road
namespace StrChars.Road
open Jvm Sem ClassFile Op Lib Jvm.Stand Jvm.Free Jvm.Free.XT
/-- WHAT COMES BACK, in the writer's own shape -/
def QV (Z : State) (x : Addr) (N : Int32) (bs : List Int32) (h : Heap) (n0 : Nat) (v : Option Value) (h' : Heap) (L : List Loc) : Prop := v = none ∧ RoadKit.Fr n0 L ∧ RoadKit.Keep h h' [x] ∧ RoadKit.Exa Z h' x ST ∧ RoadKit.Fld Z h' x ST "coder" "B" (.int 0) ∧
  ∃ (t : Addr) (kb : ClassId), n0 ≤ t ∧ h.size ≤ t ∧ ¬ t = x ∧ RoadKit.Fld Z h' x ST "value" "[B" (.ref t) ∧ RoadKit.Arv Z h' t kb .byte N (bs.map Value.int) (.int 0)
/-- **new String(chars) AT A CALL, FOR THE WRITER**: a char[] of n known ints, each 0 to 255 -/
theorem backV {p : Program} {l : Launch} {e : Env} {R : Room} {s : State} {args : Array Value} {below : List Frame} {len W : Nat} {Z : State} {a0 : Array Value} {h : Heap} (hZ : Z.Warmed39 s.vm) (hw : ∀ d ∈ words, d.before a0 Z = true) {kI : Nat} (wi : (Jvm.Cond.instantiable ST kI).before a0 Z = true)
    {x b : Addr} {kC : ClassId} {cs bs : List Int32} {d v0 c0 : Value} {z N : Int32} {n n0 : Nat} (hx0 : n0 ≤ x) (hh0 : n0 ≤ h.size) (E : RoadKit.Exa Z h x ST) (V : RoadKit.Fld Z h x ST "value" "[B" v0) (C : RoadKit.Fld Z h x ST "coder" "B" c0) (K : RoadKit.Arv Z h b kC .char N (cs.map Value.int) d) (S : RoadKit.Sta Z h ST "COMPACT_STRINGS" "Z" (.int z)) (hz : ¬ z = 0)
    (hn : cs.length = n) (hN : N = Int32.ofNat n) (l0 : 0 < n) (l2 : n ≤ 4000) (hp : ∀ c ∈ cs, ¬ c < 0 ∧ ¬ (255 : Int32) < c) (hb : bs = cs.map (fun c => c.toInt8.toInt32)) (hfr : 4 ≤ R.frames) (hlo : W + 65 ≤ R.locals) :
    Back l R p e below s args (⟨"java/lang/String", "<init>", "([C)V"⟩ : MethodName) len W (fun P a => a = #[.ref x, .ref b] ∧ P.U.heap = h ∧ P.cells + 1 ≤ R.cells ∧ P.slots + n ≤ R.slots)
      (fun P _ v B => ∃ L, QV Z x N bs h n0 v B.U.heap L ∧ B.locs = P.locs ++ L ∧ B.cells = P.cells + 1 ∧ B.slots = P.slots + n) := by
  subst hn hN hb
  refine Back.mono (backArv hZ hw wi E V C K S hz (n32 (by omega)) l0 (by omega) (fun c hc => (hp c hc).2) hfr hlo) (fun P a hp => hp) (fun P a v B hp hq => ?_)
  obtain ⟨L, ⟨q1, q2, q3, q4, q5, q6, q7, ⟨kb, v1, v2⟩, q9⟩, hl, hc, hs⟩ := hq
  exact ⟨L, ⟨q1, fun y hy => by rw [q2 y hy]; exact hx0, q3, q5, q7, h.size, kb, hh0, Nat.le_refl _, Nat.ne_of_gt E.lt, q6, by rw [List.map_map]; exact v2⟩, hl, hc, hs⟩
end StrChars.Road
namespace StrChars
open Jvm Sem ClassFile Op Lib Jvm.Stand Jvm.Free.XT Jvm.Free.ALB Jvm.Free.JM Jvm.Free
open Jvm.Lib.Cold (StaticIs)
def hi8 (x : Int32) : Int32 := lo8 (x >>> ((8 : Int32) &&& 31))
/-- what StringUTF16.getChar makes of two bytes -/
def pairCh (u v : Int32) : Int32 := (((u &&& 255) <<< ((0 : Int32) &&& 31)) ||| ((v &&& 255) <<< ((8 : Int32) &&& 31))).toUInt32.toUInt16.toUInt32.toInt32
theorem shr0 (c : Int32) : c >>> ((0 : Int32) &&& 31) = c := by
  have e : ((0 : Int32) &&& 31) = 0 := by decide
  rw [e]
  apply Int32.toBitVec_inj.mp
  rw [Int32.toBitVec_shiftRight]
  have e1 : ((0 : Int32).toBitVec.smod 32) = 0#32 := by decide
  rw [e1, BitVec.sshiftRight_eq']
  exact BitVec.sshiftRight_zero
theorem lo8_and (x : Int32) : (lo8 x &&& 255).toBitVec.toNat = x.toBitVec.toNat % 256 := by
  have h : (lo8 x).toBitVec = (x.toBitVec.signExtend 8).signExtend 32 := by rw [lo8, Int8.toBitVec_toInt32, Int32.toBitVec_toInt8]
  rw [Int32.toBitVec_and, BitVec.toNat_and, h]
  have e : ((x.toBitVec.signExtend 8).signExtend 32).toNat % 256 = x.toBitVec.toNat % 256 := by
    rw [BitVec.toNat_signExtend]
    have hlt := x.toBitVec.isLt
    simp only [BitVec.toNat_setWidth, BitVec.toNat_signExtend]
    split <;> split <;> omega
  rw [← e]
  exact Nat.and_two_pow_sub_one_eq_mod _ 8
theorem pair_says {c : Int32} (h0 : ¬ c < 0) (h1 : ¬ 65535 < c) : pairCh (lo8 c) (hi8 c) = c := by
  rw [Int32.lt_iff_toInt_lt] at h0 h1
  have e0 : (0 : Int32).toInt = 0 := rfl
  have e1 : (65535 : Int32).toInt = 65535 := rfl
  have hc : c.toInt = c.toBitVec.toNat := by
    have := c.toBitVec.isLt
    have e : c.toInt = c.toBitVec.toInt := rfl
    rw [e] at h0 h1
    rw [e]
    rw [BitVec.toInt_eq_toNat_cond] at h0 h1 ⊢
    split at h0 <;> split <;> omega
  have hn : c.toBitVec.toNat < 65536 := by omega
  have a1 := lo8_and c
  have a2 : (hi8 c &&& 255).toBitVec.toNat = c.toBitVec.toNat / 256 := by
    rw [hi8, lo8_and]
    have e : ((8 : Int32) &&& 31) = 8 := by decide
    rw [e, Int32.toBitVec_shiftRight]
    have e2 : ((8 : Int32).toBitVec.smod 32) = 8#32 := by decide
    rw [e2, BitVec.sshiftRight_eq', BitVec.toNat_sshiftRight_of_msb_false (by rw [BitVec.msb_eq_false_iff_two_mul_lt]; omega)]
    show c.toBitVec.toNat >>> 8 % 256 = _
    rw [Nat.shiftRight_eq_div_pow]
    omega
  unfold pairCh
  apply Int32.toBitVec_inj.mp
  apply BitVec.eq_of_toNat_eq
  have f0 : ((0 : Int32) &&& 31) = 0 := by decide
  have f8 : ((8 : Int32) &&& 31) = 8 := by decide
  rw [f0, f8]
  have g : (((lo8 c &&& 255) <<< (0 : Int32)) ||| ((hi8 c &&& 255) <<< (8 : Int32))).toBitVec.toNat = c.toBitVec.toNat := by
    rw [Int32.toBitVec_or, Int32.toBitVec_shiftLeft, Int32.toBitVec_shiftLeft]
    have s0 : ((0 : Int32).toBitVec.smod 32) = 0#32 := by decide
    have s8 : ((8 : Int32).toBitVec.smod 32) = 8#32 := by decide
    rw [s0, s8, BitVec.toNat_or]
    simp only [BitVec.shiftLeft_eq', BitVec.toNat_shiftLeft, a1, a2]
    show (c.toBitVec.toNat % 256) <<< 0 % 2 ^ 32 ||| (c.toBitVec.toNat / 256) <<< 8 % 2 ^ 32 = _
    rw [Nat.shiftLeft_zero, Nat.mod_eq_of_lt (show c.toBitVec.toNat % 256 < 2 ^ 32 by omega), Nat.mod_eq_of_lt (show (c.toBitVec.toNat / 256) <<< 8 < 2 ^ 32 by rw [Nat.shiftLeft_eq]; omega), Nat.or_comm, ← Nat.shiftLeft_add_eq_or_of_lt (by omega), Nat.shiftLeft_eq]
    omega
  show BitVec.toNat (((((lo8 c &&& 255) <<< (0 : Int32)) ||| ((hi8 c &&& 255) <<< (8 : Int32))).toBitVec.setWidth 16).setWidth 32) = _
  rw [BitVec.toNat_setWidth, BitVec.toNat_setWidth, g]
  omega
end StrChars
namespace StrChars
open Jvm Sem ClassFile Op Lib Jvm.Stand Jvm.Free.XT Jvm.Free.ALB Jvm.Free.JM Jvm.Free
open Jvm.Lib.Cold (StaticIs)
theorem shr1 {n : Nat} (h : 2 * n < 2 ^ 31) : Int32.ofNat (2 * n) >>> ((1 : Int32) &&& 31) = Int32.ofNat n := by
  have e : ((1 : Int32) &&& 31) = 1 := by decide
  rw [e]
  apply Int32.toBitVec_inj.mp
  rw [Int32.toBitVec_shiftRight]
  have e1 : ((1 : Int32).toBitVec.smod 32) = 1#32 := by decide
  have hm : (BitVec.ofNat 32 (2 * n)).toNat = 2 * n := by rw [BitVec.toNat_ofNat, Nat.mod_eq_of_lt (by omega)]
  rw [e1, BitVec.sshiftRight_eq']
  apply BitVec.eq_of_toNat_eq
  show ((BitVec.ofNat 32 (2 * n)).sshiftRight 1).toNat = (BitVec.ofNat 32 n).toNat
  rw [BitVec.toNat_sshiftRight_of_msb_false (by rw [BitVec.msb_eq_false_iff_two_mul_lt, hm]; omega), hm, BitVec.toNat_ofNat, Nat.shiftRight_eq_div_pow]
  omega
/-- charAt's cast of a byte read back -/
def chr8 (u : Int32) : Int32 := (u &&& 255).toUInt32.toUInt16.toUInt32.toInt32
theorem chr8_lo8 {c : Int32} (h0 : ¬ c < 0) (h1 : ¬ 255 < c) : chr8 (lo8 c) = c := by
  have t : ∀ k : Fin 256, (Int32.ofNat k.val).toUInt32.toUInt16.toUInt32.toInt32 = Int32.ofNat k.val := by decide +kernel
  unfold chr8
  rw [lo8_mask h0 h1]
  rw [Int32.lt_iff_toInt_lt] at h0 h1
  have e0 : (0 : Int32).toInt = 0 := rfl
  have e1 : (255 : Int32).toInt = 255 := rfl
  obtain ⟨k, hk⟩ : ∃ k : Nat, c.toInt = k := ⟨c.toInt.toNat, by omega⟩
  have hx : c = Int32.ofNat k := Int32.toInt_inj.mp (by rw [hk, Int32.toInt_ofNat_small (by omega)])
  rw [hx]
  exact t ⟨k, by omega⟩
theorem narrow_ch {c : Int32} (h0 : ¬ c < 0) (h1 : ¬ 65535 < c) : narrow .char (.int c) = .int c := by
  have q : narrow .char (.int (pairCh (lo8 c) (hi8 c))) = .int (pairCh (lo8 c) (hi8 c)) := narrow_c _
  rwa [pair_says h0 h1] at q
/-- the array's cell V codes the n chars f 0 .. f (n - 1) by the coder cd, as the JDK does: coder 1 just where some char is above 255 -/
def Cod (cd : Int32) (n : Nat) (f : Nat → Int32) (V : Cell) : Prop := (cd = 0 ∧ V.slots.size = n ∧ ∀ j, j < n → V.slots[j]? = some (.int (lo8 (f j))) ∧ ¬ 255 < f j) ∨ (cd = 1 ∧ V.slots.size = 2 * n ∧ (∀ j, j < n → V.slots[2 * j]? = some (.int (lo8 (f j))) ∧ V.slots[2 * j + 1]? = some (.int (hi8 (f j)))) ∧ ∃ j, j < n ∧ 255 < f j)
theorem Cod.cd {cd : Int32} {n : Nat} {f : Nat → Int32} {V : Cell} (h : Cod cd n f V) : cd = 0 ∨ cd = 1 := h.imp (fun q => q.1) fun q => q.1
theorem Cod.len {cd : Int32} {n : Nat} {f : Nat → Int32} {V : Cell} (h : Cod cd n f V) (hs : V.slots.size < 2 ^ 31) : Int32.ofNat V.slots.size >>> (cd &&& 31) = Int32.ofNat n := by
  rcases h with ⟨rfl, h, -⟩ | ⟨rfl, h, -⟩
  · rw [shr0, h]
  · rw [h, shr1 (by omega)]
/-- **x is a String of the n chars f 0 .. f (n - 1)**, Latin-1 or UTF-16; its array at t has the cell V -/
def Txt (x t : Addr) (V : Cell) (cd : Int32) (n : Nat) (f : Nat → Int32) (U : State) : Prop := Exact "java/lang/String" x U ∧ Has x "java/lang/String" "value" "[B" (.ref t) U ∧ Has x "java/lang/String" "coder" "B" (.int cd) U ∧ XT.Arr .byte t V U ∧ Cod cd n f V ∧ ∀ j, j < n → ¬ f j < 0 ∧ ¬ 65535 < f j
theorem Txt.mv {x t : Addr} {V : Cell} {cd : Int32} {n : Nat} {f : Nat → Int32} {U U' : State} (h : Txt x t V cd n f U) (hal : U.vm.Alike U'.vm) (hh : U'.heap = U.heap) : Txt x t V cd n f U' := ⟨h.1.mv hal hh, h.2.1.mv hal hh, h.2.2.1.mv hal hh, h.2.2.2.1.mv hal hh, h.2.2.2.2⟩
namespace Cdr
def yN : MethodName := ⟨"java/lang/String", "coder", "()B"⟩
abbrev yB : ByteArray := jdk_42_method_152_code
theorem d0 : decode yB 0 = .ok (.getstatic 38, 3) := by decide +kernel
theorem d3 : decode yB 3 = .ok (.ifCond (.eq) 10, 3) := by decide +kernel
theorem d6 : decode yB 6 = .ok (.aload_n 0, 1) := by decide +kernel
theorem d7 : decode yB 7 = .ok (.getfield 15, 3) := by decide +kernel
theorem d10 : decode yB 10 = .ok (.goto 4, 3) := by decide +kernel
theorem d14 : decode yB 14 = .ok (.ireturn, 1) := by decide +kernel
def site : List Cond := [.fieldLink "java/lang/String" 38 "java/lang/String" "COMPACT_STRINGS" "Z", .fieldLink "java/lang/String" 15 "java/lang/String" "coder" "B"]
def tab : Cond := tabOf yN yB 1 (some .byte) site
def P (x : Addr) (cd z : Int32) (args : Array Value) (s : State) : Prop := args = #[.ref x] ∧ Has x "java/lang/String" "coder" "B" (.int cd) s ∧ (cd = 0 ∨ cd = 1) ∧ StaticIs s "java/lang/String" "COMPACT_STRINGS" "Z" (.int z) ∧ ¬ z = 0
def E (cd : Int32) (r : Option Value) (s u : State) : Prop := XT.PureE (some (.int cd)) r s u
theorem law (l : Launch) (x : Addr) (cd z : Int32) : Law l yN 1 0 0 0 yB 1 (some .byte) site (P x cd z) (E cd) [] 0 0 := by
  refine Law.of_walk (plainFor_of_name (by decide +kernel)) (by decide +kernel) (by decide +kernel) (by decide) (fun _ _ h => by rw [h.1]; rfl) (fun _ U U' hal hh h => ⟨h.1, h.2.1.mv hal hh, h.2.2.1, h.2.2.2.1.there hal hh, h.2.2.2.2⟩) (fun r U U' V V' h1 hal h2 h => XT.PureE.mv r U U' V V' h1 hal h2 h) ?_
  intro p e s m args below meth c s₁ X0 hexec hbytes hml hret hlk hnm hown hh0 W hP
  obtain ⟨rfl, hx, hc, s1, hz⟩ := hP
  have c1 : Steps p.tables e below (s₁.setTop (entryFrame m #[.ref x] 1)) (s₁.setTop (mkF m 0 #[.val (.ref x)] [])) := entry rfl
  obtain ⟨T2, X2, q2, st2⟩ := X0.sget hexec hown (wk W (.fieldLink "java/lang/String" 38 "java/lang/String" "COMPACT_STRINGS" "Z")) s1 (fun _ _ h => by rw [hh0]; exact h) (g := (mkF m 0 #[.val (.ref x)] [])) rfl (hb hbytes d0)
  have hh2 := q2.trans hh0
  have c3 : Steps p.tables e below (s₁.setTop (entryFrame m #[.ref x] 1)) (T2.setTop (mkF m 7 #[.val (.ref x)] [.ref x])) := (c1.trans (st2 _ (Steps.refl _))).trans (by
    refine XS.ifNo X2.here hexec rfl (hb hbytes d3) rfl (i0_eq_f hz) ?_
    refine XS.aloadN X2.here hexec rfl (hb hbytes d6) rfl rfl ?_
    exact Steps.refl _)
  obtain ⟨T4, X4, q4, st4⟩ := X2.hget hexec hown (wk W (.fieldLink "java/lang/String" 15 "java/lang/String" "coder" "B")) (hx.mv X2.warmed.alike hh2) (g := (mkF m 7 #[.val (.ref x)] [.ref x])) rfl (rest := []) rfl (hb hbytes d7)
  have c5 : Steps p.tables e below (s₁.setTop (entryFrame m #[.ref x] 1)) (T4.setTop (mkF m 14 #[.val (.ref x)] [.int cd])) := (c3.trans (st4 _ (Steps.refl _))).trans (by
    refine XS.goto X4.here hexec rfl (pc0 := 10) rfl (hb hbytes d10) (by decide) rfl ?_
    exact Steps.refl _)
  exact ⟨T4, some (.int cd), _, _, _, X4, rfl, rfl, rfl, (fun h => by cases h), ⟨rfl, q4.trans hh2⟩, fun fs hl => c5.trans (X4.ireturnOut hexec hret (by rcases hc with rfl | rfl <;> rfl) (Or.inr (Or.inr (Or.inl rfl))) (hb hbytes d14) hl)⟩
end Cdr
namespace Len
def yN : MethodName := ⟨"java/lang/String", "length", "()I"⟩
abbrev yB : ByteArray := jdk_42_method_54_code
theorem d0 : decode yB 0 = .ok (.aload_n 0, 1) := by decide +kernel
theorem d1 : decode yB 1 = .ok (.getfield 9, 3) := by decide +kernel
theorem d4 : decode yB 4 = .ok (.arraylength, 1) := by decide +kernel
theorem d5 : decode yB 5 = .ok (.aload_n 0, 1) := by decide +kernel
theorem d6 : decode yB 6 = .ok (.invokevirtual 335, 3) := by decide +kernel
theorem d9 : decode yB 9 = .ok (.ishr, 1) := by decide +kernel
theorem d10 : decode yB 10 = .ok (.ireturn, 1) := by decide +kernel
def site : List Cond := [.fieldLink "java/lang/String" 9 "java/lang/String" "value" "[B", Cdr.tab] ++ virtW "java/lang/String" 335 "java/lang/String" Cdr.yN Cdr.yN
def tab : Cond := tabOf yN yB 1 (some .int) site
def P (x t : Addr) (V : Cell) (cd : Int32) (n : Nat) (f : Nat → Int32) (z : Int32) (args : Array Value) (s : State) : Prop := args = #[.ref x] ∧ Txt x t V cd n f s ∧ StaticIs s "java/lang/String" "COMPACT_STRINGS" "Z" (.int z) ∧ ¬ z = 0
def E (n : Nat) (r : Option Value) (s u : State) : Prop := XT.PureE (some (.int (Int32.ofNat n))) r s u
/-- length() of a String of n chars, in either coding -/
theorem law (l : Launch) (x t : Addr) (V : Cell) (cd : Int32) (n : Nat) (f : Nat → Int32) (z : Int32) : Law l yN 1 0 1 13 yB 1 (some .int) site (P x t V cd n f z) (E n) [] 0 0 := by
  refine Law.of_walk (plainFor_of_name (by decide +kernel)) (by decide +kernel) (by decide +kernel) (by decide) (fun _ _ h => by rw [h.1]; rfl) (fun _ U U' hal hh h => ⟨h.1, h.2.1.mv hal hh, h.2.2.1.there hal hh, h.2.2.2⟩) (fun r U U' V V' h1 hal h2 h => XT.PureE.mv r U U' V V' h1 hal h2 h) ?_
  intro p e s m args below meth c s₁ X0 hexec hbytes hml hret hlk hnm hown hh0 W hP
  obtain ⟨rfl, hx, s1, hz⟩ := hP
  have v31 := hx.2.2.2.1.2.2.2
  have c1 : Steps p.tables e below (s₁.setTop (entryFrame m #[.ref x] 1)) (s₁.setTop (mkF m 1 #[.val (.ref x)] [.ref x])) := Steps.trans (entry rfl) (by
    show Steps p.tables e below (s₁.setTop (mkF m 0 #[.val (.ref x)] [])) _
    refine XS.aloadN X0.here hexec rfl (hb hbytes d0) rfl rfl ?_
    exact Steps.refl _)
  obtain ⟨T2, X2, q2, st2⟩ := X0.hget hexec hown (wk W (.fieldLink "java/lang/String" 9 "java/lang/String" "value" "[B")) (hx.mv X0.warmed.alike hh0).2.1 (g := (mkF m 1 #[.val (.ref x)] [.ref x])) rfl (rest := []) rfl (hb hbytes d1)
  have hh2 := q2.trans hh0
  have hx2 := hx.mv X2.warmed.alike hh2
  have c3 : Steps p.tables e below (s₁.setTop (entryFrame m #[.ref x] 1)) (T2.setTop (mkF m 6 #[.val (.ref x)] [.ref x, .int (Int32.ofNat V.slots.size)])) := (c1.trans (st2 _ (Steps.refl _))).trans (by
    refine X2.alen hexec hx2.2.2.2.1 rfl rfl (hb hbytes d4) ?_
    refine XS.aloadN X2.here hexec rfl (hb hbytes d5) rfl rfl ?_
    exact Steps.refl _)
  obtain ⟨v4, T4, X4, E4, g4⟩ := X2.callV hexec (Cdr.law l x cd z) hown (wks W (virtW "java/lang/String" 335 "java/lang/String" Cdr.yN Cdr.yN)) rfl (by decide) (wk W Cdr.tab) (W := 1) (Nat.le_of_ble_eq_true rfl) (Nat.le_of_ble_eq_true rfl) (Nat.le_refl _) (Nat.le_refl _) (hx2.1.fc X2.warmed.alike) hx2.1.is (g := (mkF m 6 #[.val (.ref x)] [.ref x, .int (Int32.ofNat V.slots.size)])) rfl (by rw [hml]; rfl) c3 (argsL := []) (rest := [.int (Int32.ofNat V.slots.size)]) rfl rfl (by show 2 * 0 + (1 + 0) ≤ _; decide) (hb hbytes d6) (⟨rfl, hx2.2.2.1, hx.2.2.2.2.1.cd, s1.there X2.warmed.alike hh2, hz⟩)
  obtain ⟨rfl, q4⟩ := E4
  have c5 : Steps p.tables e below (s₁.setTop (entryFrame m #[.ref x] 1)) (T4.setTop (mkF m 10 #[.val (.ref x)] [.int (Int32.ofNat V.slots.size >>> (cd &&& 31))])) := Steps.trans g4 (by
    refine ishr X4.here hexec rfl (hb hbytes d9) rfl ?_
    exact Steps.refl _)
  rw [hx.2.2.2.2.1.len v31] at c5
  exact ⟨T4, some (.int (Int32.ofNat n)), _, _, _, X4, rfl, rfl, rfl, (fun h => by cases h), ⟨rfl, q4.trans hh2⟩, fun fs hl => c5.trans (X4.ireturnOut hexec hret rfl (Or.inl rfl) (hb hbytes d10) hl)⟩
theorem pays {l : Launch} {R : Room} {p : Program} {e : Env} {below : List Frame} {s : State} {sargs : Array Value} {len W : Nat} (x t : Addr) (V : Cell) (cd : Int32) (n : Nat) (f : Nat → Int32) (z : Int32) (htab : tab.before sargs s = true) (hfr : 2 ≤ R.frames) (hlo : W + 25 ≤ R.locals) :
    Back l R p e below s sargs yN len W (fun A₁ a₁ => A₁.cells + 0 ≤ R.cells ∧ A₁.slots + 0 ≤ R.slots ∧ P x t V cd n f z a₁ A₁.U) (fun A₁ _ v₁ B₁ => E n v₁ A₁.U B₁.U ∧ B₁.locs = A₁.locs ++ [] ∧ B₁.cells = A₁.cells + 0 ∧ B₁.slots = A₁.slots + 0) :=
  (law l x t V cd n f z).pays htab hfr (by omega)
end Len
namespace IsL
def yN : MethodName := ⟨"java/lang/String", "isLatin1", "()Z"⟩
abbrev yB : ByteArray := jdk_42_method_154_code
theorem d0 : decode yB 0 = .ok (.getstatic 38, 3) := by decide +kernel
theorem d3 : decode yB 3 = .ok (.ifCond (.eq) 14, 3) := by decide +kernel
theorem d6 : decode yB 6 = .ok (.aload_n 0, 1) := by decide +kernel
theorem d7 : decode yB 7 = .ok (.getfield 15, 3) := by decide +kernel
theorem d10 : decode yB 10 = .ok (.ifCond (.ne) 7, 3) := by decide +kernel
theorem d13 : decode yB 13 = .ok (.iconst 1, 1) := by decide +kernel
theorem d14 : decode yB 14 = .ok (.goto 4, 3) := by decide +kernel
theorem d17 : decode yB 17 = .ok (.iconst 0, 1) := by decide +kernel
theorem d18 : decode yB 18 = .ok (.ireturn, 1) := by decide +kernel
def site : List Cond := [.fieldLink "java/lang/String" 38 "java/lang/String" "COMPACT_STRINGS" "Z", .fieldLink "java/lang/String" 15 "java/lang/String" "coder" "B"]
def tab : Cond := tabOf yN yB 1 (some .boolean) site
def P (x : Addr) (cd z : Int32) (args : Array Value) (s : State) : Prop := args = #[.ref x] ∧ Has x "java/lang/String" "coder" "B" (.int cd) s ∧ (cd = 0 ∨ cd = 1) ∧ StaticIs s "java/lang/String" "COMPACT_STRINGS" "Z" (.int z) ∧ ¬ z = 0
def E (cd : Int32) (r : Option Value) (s u : State) : Prop := XT.PureE (some (.int (1 - cd))) r s u
theorem law (l : Launch) (x : Addr) (cd z : Int32) : Law l yN 1 0 0 0 yB 1 (some .boolean) site (P x cd z) (E cd) [] 0 0 := by
  refine Law.of_walk (plainFor_of_name (by decide +kernel)) (by decide +kernel) (by decide +kernel) (by decide) (fun _ _ h => by rw [h.1]; rfl) (fun _ U U' hal hh h => ⟨h.1, h.2.1.mv hal hh, h.2.2.1, h.2.2.2.1.there hal hh, h.2.2.2.2⟩) (fun r U U' V V' h1 hal h2 h => XT.PureE.mv r U U' V V' h1 hal h2 h) ?_
  intro p e s m args below meth c s₁ X0 hexec hbytes hml hret hlk hnm hown hh0 W hP
  obtain ⟨rfl, hx, hc, s1, hz⟩ := hP
  have c1 : Steps p.tables e below (s₁.setTop (entryFrame m #[.ref x] 1)) (s₁.setTop (mkF m 0 #[.val (.ref x)] [])) := entry rfl
  obtain ⟨T2, X2, q2, st2⟩ := X0.sget hexec hown (wk W (.fieldLink "java/lang/String" 38 "java/lang/String" "COMPACT_STRINGS" "Z")) s1 (fun _ _ h => by rw [hh0]; exact h) (g := (mkF m 0 #[.val (.ref x)] [])) rfl (hb hbytes d0)
  have hh2 := q2.trans hh0
  have c3 : Steps p.tables e below (s₁.setTop (entryFrame m #[.ref x] 1)) (T2.setTop (mkF m 7 #[.val (.ref x)] [.ref x])) := (c1.trans (st2 _ (Steps.refl _))).trans (by
    refine XS.ifNo X2.here hexec rfl (hb hbytes d3) rfl (i0_eq_f hz) ?_
    refine XS.aloadN X2.here hexec rfl (hb hbytes d6) rfl rfl ?_
    exact Steps.refl _)
  obtain ⟨T4, X4, q4, st4⟩ := X2.hget hexec hown (wk W (.fieldLink "java/lang/String" 15 "java/lang/String" "coder" "B")) (hx.mv X2.warmed.alike hh2) (g := (mkF m 7 #[.val (.ref x)] [.ref x])) rfl (rest := []) rfl (hb hbytes d7)
  have c5 : Steps p.tables e below (s₁.setTop (entryFrame m #[.ref x] 1)) (T4.setTop (mkF m 10 #[.val (.ref x)] [.int cd])) := c3.trans (st4 _ (Steps.refl _))
  have c6 : Steps p.tables e below (s₁.setTop (entryFrame m #[.ref x] 1)) (T4.setTop (mkF m 18 #[.val (.ref x)] [.int (1 - cd)])) := by
    rcases hc with rfl | rfl
    · exact c5.trans (by
        refine XS.ifNo X4.here hexec rfl (hb hbytes d10) rfl (i0_ne_f rfl) ?_
        refine iconstV X4.here hexec rfl 1 (hb hbytes d13) (by decide) ?_
        refine XS.goto X4.here hexec rfl (pc0 := 14) rfl (hb hbytes d14) (by decide) rfl ?_
        exact Steps.refl _)
    · exact c5.trans (by
        refine XS.ifYes X4.here hexec rfl (pc0 := 10) rfl (hb hbytes d10) rfl (i0_ne_t (by decide)) (by decide) rfl ?_
        refine iconstV X4.here hexec rfl 0 (hb hbytes d17) (by decide) ?_
        exact Steps.refl _)
  exact ⟨T4, some (.int (1 - cd)), _, _, _, X4, rfl, rfl, rfl, (fun h => by cases h), ⟨rfl, q4.trans hh2⟩, fun fs hl => c6.trans (X4.ireturnOut hexec hret (by rcases hc with rfl | rfl <;> rfl) (Or.inr (Or.inl rfl)) (hb hbytes d18) hl)⟩
end IsL
namespace LChA
def yN : MethodName := ⟨"java/lang/StringLatin1", "charAt", "([BI)C"⟩
abbrev yB : ByteArray := jdk_43_method_2_code
theorem d0 : decode yB 0 = .ok (.iload_n 1, 1) := by decide +kernel
theorem d1 : decode yB 1 = .ok (.aload_n 0, 1) := by decide +kernel
theorem d2 : decode yB 2 = .ok (.arraylength, 1) := by decide +kernel
theorem d3 : decode yB 3 = .ok (.invokestatic 9, 3) := by decide +kernel
theorem d6 : decode yB 6 = .ok (.aload_n 0, 1) := by decide +kernel
theorem d7 : decode yB 7 = .ok (.iload_n 1, 1) := by decide +kernel
theorem d8 : decode yB 8 = .ok (.baload, 1) := by decide +kernel
theorem d9 : decode yB 9 = .ok (.sipush 255, 3) := by decide +kernel
theorem d12 : decode yB 12 = .ok (.iand, 1) := by decide +kernel
theorem d13 : decode yB 13 = .ok (.i2c, 1) := by decide +kernel
theorem d14 : decode yB 14 = .ok (.ireturn, 1) := by decide +kernel
def site : List Cond := [JO.Str_checkIndex.tab] ++ staticW "java/lang/StringLatin1" 9 JO.Str_checkIndex.yN
def tab : Cond := tabOf yN yB 2 (some .char) site
def P (t : Addr) (V : Cell) (i : Nat) (u : Int32) (fm : Value) (args : Array Value) (s : State) : Prop := args = #[.ref t, .int (Int32.ofNat i)] ∧ XT.Arr .byte t V s ∧ V.slots[i]? = some (.int u) ∧ (StaticIs s "jdk/internal/util/Preconditions" "SIOOBE_FORMATTER" "Ljava/util/function/BiFunction;" fm ∧ fm.isRef = true)
def E (u : Int32) (r : Option Value) (s w : State) : Prop := XT.PureE (some (.int (chr8 u))) r s w
theorem law (l : Launch) (t : Addr) (V : Cell) (i : Nat) (u : Int32) (fm : Value) : Law l yN 2 2 2 27 yB 2 (some .char) site (P t V i u fm) (E u) [] 0 0 := by
  refine Law.of_walk (plainFor_of_name (by decide +kernel)) (by decide +kernel) (by decide +kernel) (by decide) (fun _ _ h => by rw [h.1]; rfl) (fun _ U U' hal hh h => ⟨h.1, h.2.1.mv hal hh, h.2.2.1, h.2.2.2.1.there hal hh, h.2.2.2.2⟩) (fun r U U' V V' h1 hal h2 h => XT.PureE.mv r U U' V V' h1 hal h2 h) ?_
  intro p e s m args below meth c s₁ X0 hexec hbytes hml hret hlk hnm hown hh0 W hP
  obtain ⟨rfl, hV, hu, s1, rf⟩ := hP
  have v31 := hV.2.2.2
  have hi : i < V.slots.size := (Array.getElem?_eq_some_iff.mp hu).1
  have c1 : Steps p.tables e below (s₁.setTop (entryFrame m #[.ref t, .int (Int32.ofNat i)] 2)) (s₁.setTop (mkF m 0 #[.val (.ref t), .val (.int (Int32.ofNat i))] [])) := entry rfl
  have c2 : Steps p.tables e below (s₁.setTop (entryFrame m #[.ref t, .int (Int32.ofNat i)] 2)) (s₁.setTop (mkF m 3 #[.val (.ref t), .val (.int (Int32.ofNat i))] [.int (Int32.ofNat V.slots.size), .int (Int32.ofNat i)])) := c1.trans (by
    refine XS.iloadN X0.here hexec rfl (hb hbytes d0) rfl ?_
    refine XS.aloadN X0.here hexec rfl (hb hbytes d1) rfl rfl ?_
    refine X0.alen hexec (hV.mv X0.warmed.alike hh0) rfl rfl (hb hbytes d2) ?_
    exact Steps.refl _)
  obtain ⟨v3, T3, X3, E3, g3⟩ := X0.callS hexec (JO.Str_checkIndex.law l (Int32.ofNat i) (Int32.ofNat V.slots.size) fm) hown (wks W (staticW "java/lang/StringLatin1" 9 JO.Str_checkIndex.yN)) (wk W JO.Str_checkIndex.tab) (W := 0) (Nat.le_of_ble_eq_true rfl) (Nat.le_of_ble_eq_true rfl) (Nat.le_refl _) (Nat.le_refl _) (g := (mkF m 3 #[.val (.ref t), .val (.int (Int32.ofNat i))] [.int (Int32.ofNat V.slots.size), .int (Int32.ofNat i)])) rfl (by rw [hml]; rfl) c2 (argsL := [.int (Int32.ofNat i), .int (Int32.ofNat V.slots.size)]) (rest := []) rfl rfl (by show 2 * 0 + 0 ≤ _; decide) (hb hbytes d3) (⟨rfl, rf, s1.there X0.warmed.alike hh0, Int32.ofNat_not_neg (by omega), lt32 v31 hi⟩)
  obtain ⟨rfl, q3⟩ := E3
  have hh3 := q3.trans hh0
  have c4 : Steps p.tables e below (s₁.setTop (entryFrame m #[.ref t, .int (Int32.ofNat i)] 2)) (T3.setTop (mkF m 14 #[.val (.ref t), .val (.int (Int32.ofNat i))] [.int (chr8 u)])) := Steps.trans g3 (by
    refine XS.aloadN X3.here hexec rfl (hb hbytes d6) rfl rfl ?_
    refine XS.iloadN X3.here hexec rfl (hb hbytes d7) rfl ?_
    refine X3.aget hexec (hV.mv X3.warmed.alike hh3) rfl hu rfl rfl (hb hbytes d8) ?_
    refine sipushV X3.here hexec rfl 255 (hb hbytes d9) (by decide) ?_
    refine XS.iand X3.here hexec rfl (hb hbytes d12) rfl ?_
    refine i2c X3.here hexec rfl (hb hbytes d13) rfl ?_
    exact Steps.refl _)
  exact ⟨T3, some (.int (chr8 u)), _, _, _, X3, rfl, rfl, rfl, (fun h => by cases h), ⟨rfl, hh3⟩, fun fs hl => c4.trans (X3.ireturnOut hexec hret (narrow_c _) (Or.inr (Or.inr (Or.inr (Or.inl rfl)))) (hb hbytes d14) hl)⟩
end LChA
end StrChars
namespace StrChars.Road
open Jvm Sem ClassFile Op Lib Jvm.Stand Jvm.Free Jvm.Free.XT
open Jvm.Lib.Cold (StaticIs)
theorem consq {a : Array Value} {s : State} {c : Jvm.Cond} {L : List Jvm.Cond} (h0 : c.before a s = true) (h : ∀ w ∈ L, w.before a s = true) : ∀ w ∈ c :: L, w.before a s = true := fun w hw => (List.mem_cons.mp hw).elim (fun e => e ▸ h0) (h w)
/-- the words of String.length(), either coding -/
abbrev wordsLen : List Jvm.Cond := [.code Len.yN Len.yB 1 (some .int), .initialized ST, .fieldLink ST 9 ST "value" "[B", .fieldLink ST 38 ST "COMPACT_STRINGS" "Z", .fieldLink ST 15 ST "coder" "B", .code Cdr.yN Cdr.yB 1 (some .byte), .methodLink ST 335 Cdr.yN, .declares Cdr.yN, .selects ST Cdr.yN Cdr.yN, .instanceMethod Cdr.yN]
theorem tabLen_of {a : Array Value} {s : State} (h : ∀ w ∈ wordsLen, w.before a s = true) : Len.tab.before a s = true := by
  have hc : Cdr.tab.before a s = true := unparts (wk h (.code Cdr.yN Cdr.yB 1 (some .byte))) (wks h (.initialized Cdr.yN.cls :: Cdr.site))
  have q := consq hc h
  exact unparts (wk q (.code Len.yN Len.yB 1 (some .int))) (wks q (.initialized Len.yN.cls :: Len.site))
theorem movedLen {Z s : State} {a0 args : Array Value} (hZ : Z.Warmed39 s.vm) (hw : ∀ d ∈ wordsLen, d.before a0 Z = true) : ∀ d ∈ wordsLen, d.before args s = true := fun d hd => by
  have q := hw d hd
  have t : ∀ d ∈ wordsLen, d = .arrayClass .byte ∨ (d.onTables && d.keepsFace) = true := by decide +kernel
  rcases t d hd with rfl | t
  · exact RoadKit.mvA hZ q
  · exact RoadKit.mv hZ q t
/-- the bytes of the chars cs, low before high -/
def wideBytes : List Int32 → List Value
  | [] => []
  | c :: cs => .int (lo8 c) :: .int (hi8 c) :: wideBytes cs
theorem wide_lo (d : Value) : ∀ (cs : List Int32) (j : Nat), j < cs.length → (wideBytes cs).getD (2 * j) d = .int (lo8 (cs.getD j 0))
  | [], j, h => absurd h (Nat.not_lt_zero j)
  | c :: cs, 0, _ => rfl
  | c :: cs, j + 1, h => by
    have q := wide_lo d cs j (by simpa using h)
    rw [show 2 * (j + 1) = 2 * j + 1 + 1 from by omega]
    simpa [wideBytes] using q
theorem wide_hi (d : Value) : ∀ (cs : List Int32) (j : Nat), j < cs.length → (wideBytes cs).getD (2 * j + 1) d = .int (hi8 (cs.getD j 0))
  | [], j, h => absurd h (Nat.not_lt_zero j)
  | c :: cs, 0, _ => rfl
  | c :: cs, j + 1, h => by
    have q := wide_hi d cs j (by simpa using h)
    rw [show 2 * (j + 1) + 1 = 2 * j + 1 + 1 + 1 from by omega]
    simpa [wideBytes] using q
theorem low_at (d : Value) (cs : List Int32) (j : Nat) (h : j < cs.length) : (cs.map fun c => Value.int (lo8 c)).getD j d = .int (lo8 (cs.getD j 0)) := by
  simp [List.getD_eq_getElem?_getD, h]
/-- an array of N2 bytes vs codes the chars cs by the coder cd -/
def CodA (cs : List Int32) (cd N2 : Int32) (vs : List Value) : Prop := (cd = 0 ∧ N2 = Int32.ofNat cs.length ∧ vs = (cs.map fun c => Value.int (lo8 c)) ∧ ∀ c ∈ cs, ¬ 255 < c) ∨ (cd = 1 ∧ N2 = Int32.ofNat (2 * cs.length) ∧ vs = wideBytes cs ∧ ∃ c ∈ cs, 255 < c)
theorem CodA.cod {cs : List Int32} {cd N2 : Int32} {vs : List Value} {V : Cell} (h : CodA cs cd N2 vs) (hn : 2 * cs.length < 2 ^ 31) (hs : V.slots.size = N2.toNatClampNeg) (hv : RoadKit.Has V vs (.int 0)) : Cod cd cs.length (fun j => cs.getD j 0) V := by
  rcases h with ⟨rfl, rfl, rfl, h⟩ | ⟨rfl, rfl, rfl, c, hc, hw⟩
  · rw [n32 (by omega)] at hs
    exact Or.inl ⟨rfl, hs, fun j hj => ⟨by rw [hv j (by omega), low_at _ _ _ hj], by
      have e : cs.getD j 0 = cs[j] := by simp [List.getD_eq_getElem?_getD, hj]
      show ¬ 255 < cs.getD j 0
      rw [e]; exact h _ (List.getElem_mem _)⟩⟩
  · rw [n32 (by omega)] at hs
    obtain ⟨j, hj, rfl⟩ := List.getElem_of_mem hc
    exact Or.inr ⟨rfl, hs, fun j hj => ⟨by rw [hv _ (by omega), wide_lo _ _ _ hj], by rw [hv _ (by omega), wide_hi _ _ _ hj]⟩, j, hj, by
      have e : cs.getD j 0 = cs[j] := by simp [List.getD_eq_getElem?_getD, hj]
      show 255 < cs.getD j 0
      rw [e]; exact hw⟩
/-- an object of exactly java/lang/String, its two fields found: as the laws ask it -/
theorem strObj {Z U : State} {a0 : Array Value} {kI : Nat} (wi : (Jvm.Cond.instantiable ST kI).before a0 Z = true) (al : Z.vm.Alike U.vm) {x : Addr} {v0 c0 : Value} (E : RoadKit.Exa Z U.heap x ST) (V : RoadKit.Fld Z U.heap x ST "value" "[B" v0) (C : RoadKit.Fld Z U.heap x ST "coder" "B" c0) :
    ∃ (D : Cell) (fV fC : Field), Blank ST x D U ∧ Found ST "value" "[B" fV U ∧ Found ST "coder" "B" fC U ∧ D.slots[fV.slot]? = some v0 ∧ D.slots[fC.slot]? = some c0 ∧ RoadKit.slotOf Z ST "value" "[B" = fV.slot ∧ RoadKit.slotOf Z ST "coder" "B" = fC.slot := by
  obtain ⟨D, cfV, kV, iV, fV, hD, gV, stV, knV, obV, asV, slV⟩ := V
  obtain ⟨D', cfC, kC, iC, fC, hD', gC, stC, -, -, asC, slC⟩ := C
  cases hD.symm.trans hD'
  obtain ⟨D2, kD, e1, e2, e3, e4, e5⟩ := E
  cases hD.symm.trans e1
  obtain ⟨c2, k2, i1, i2, i3, -⟩ := Cond.instantiable_spec wi
  cases e2.symm.trans i1
  cases e3.symm.trans i2
  obtain ⟨kU, u1, u2⟩ := al.2.2 _ _ e3
  exact ⟨D, fV, fC, ⟨hD, ⟨knV, fun q hq => by rw [hq] at obV; cases obV⟩, by rw [al.findClass]; exact e2, kU, u1, by rw [u2]; exact i3, by rw [u2]; exact e5 i3⟩, ⟨SBG.found_only al ⟨cfV, kV, iV, gV⟩, stV⟩, ⟨SBG.found_only al ⟨cfC, kC, iC, gC⟩, stC⟩, slV, slC, by simp [RoadKit.slotOf, gV], by simp [RoadKit.slotOf, gC]⟩
theorem sta_is {Z U : State} (al : Z.vm.Alike U.vm) {C n d : String} {v : Value} (S : RoadKit.Sta Z U.heap C n d v) : StaticIs U C n d v := by
  obtain ⟨cfS, iS, kS, fS, st, cS, t1, t2, t3, t4, t5, t6, t7⟩ := S
  exact StaticIs.there (s := { Z with heap := U.heap }) ⟨cfS, iS, kS, fS, st, cS, t1, t2, t3, t4, t5, (fun q => by rw [q] at t6; cases t6), t7⟩ al rfl
/-- **length() OF SUCH A STRING** -/
theorem lenW {p : Program} {l : Launch} {e : Env} {R : Room} {s : State} {args : Array Value} {below : List Frame} {len W : Nat} {Z : State} {a0 : Array Value} {h : Heap} (hZ : Z.Warmed39 s.vm) (hw : ∀ d ∈ wordsLen, d.before a0 Z = true) {kI : Nat} (wi : (Jvm.Cond.instantiable ST kI).before a0 Z = true)
    {x t : Addr} {kb : ClassId} {cs : List Int32} {cd N2 z : Int32} {vs : List Value} (E : RoadKit.Exa Z h x ST) (V : RoadKit.Fld Z h x ST "value" "[B" (.ref t)) (C : RoadKit.Fld Z h x ST "coder" "B" (.int cd)) (K : RoadKit.Arv Z h t kb .byte N2 vs (.int 0)) (hc : CodA cs cd N2 vs) (hb : ∀ c ∈ cs, ¬ c < 0 ∧ ¬ (65535 : Int32) < c)
    (S : RoadKit.Sta Z h ST "COMPACT_STRINGS" "Z" (.int z)) (hz : ¬ z = 0) (l2 : cs.length ≤ 4000) (hfr : 2 ≤ R.frames) (hlo : W + 25 ≤ R.locals) :
    Back l R p e below s args (⟨"java/lang/String", "length", "()I"⟩ : MethodName) len W (fun P a => a = #[.ref x] ∧ P.U.heap = h ∧ P.cells + 0 ≤ R.cells ∧ P.slots + 0 ≤ R.slots)
      (fun P _ v B => ∃ L, (v = some (.int (Int32.ofNat cs.length)) ∧ L = [] ∧ B.U.heap = h) ∧ B.locs = P.locs ++ L ∧ B.cells = P.cells + 0 ∧ B.slots = P.slots + 0) := by
  obtain ⟨A, K1, K2, K3, K4, K5, K6⟩ := K
  have hcod := hc.cod (by omega) K3 K5
  intro m meth c P g ig mk a X hg hsize hdg hW hn hp'
  obtain ⟨rfl, rfl, r1, r2⟩ := hp'
  have al : Z.vm.Alike P.U.vm := hZ.alike.trans X.warmed.alike
  obtain ⟨D, fV, fC, hB, F1, F2, g1, g2, -, -⟩ := strObj wi al E V C
  have hx : Txt x t A cd cs.length (fun j => cs.getD j 0) P.U := ⟨⟨_, hB.2.2.1, D, hB.1, rfl, by cases q : D.vm <;> first | rfl | exact absurd q (hB.2.1.2 _)⟩, Has.of hB F1 g1, Has.of hB F2 g2, ⟨K1.1, State.isArrayOf_alike al K1.2.1, K1.2.2, by rcases hcod with ⟨-, q, -⟩ | ⟨-, q, -⟩ <;> omega⟩, hcod, fun j hj => by
    have e : cs.getD j 0 = cs[j] := by simp [List.getD_eq_getElem?_getD, hj]
    show ¬ cs.getD j 0 < 0 ∧ ¬ 65535 < cs.getD j 0
    rw [e]; exact hb _ (List.getElem_mem _)⟩
  obtain ⟨v, B, X', ⟨⟨hv, hh⟩, hl, hk, hs⟩, st⟩ := Len.pays x t A cd cs.length (fun j => cs.getD j 0) z (tabLen_of (movedLen hZ hw)) hfr hlo m meth c P g ig mk _ X hg hsize hdg hW hn ⟨r1, r2, rfl, hx, sta_is al S, hz⟩
  exact ⟨v, B, X', ⟨[], ⟨hv, rfl, hh⟩, hl, hk, hs⟩, st⟩
end StrChars.Road
namespace StrChars.Road
open Jvm Sem ClassFile Op Lib Jvm.Stand Jvm.Free Jvm.Free.XT
open Jvm.Lib.Cold (StaticIs)
/-- the road's facts of a String, as the laws ask it -/
theorem txt_of {Z U : State} {a0 : Array Value} {kI : Nat} (wi : (Jvm.Cond.instantiable ST kI).before a0 Z = true) (al : Z.vm.Alike U.vm) {x t : Addr} {kb : ClassId} {cs : List Int32} {cd N2 : Int32} {vs : List Value} (E : RoadKit.Exa Z U.heap x ST) (V : RoadKit.Fld Z U.heap x ST "value" "[B" (.ref t)) (C : RoadKit.Fld Z U.heap x ST "coder" "B" (.int cd)) (K : RoadKit.Arv Z U.heap t kb .byte N2 vs (.int 0)) (hc : CodA cs cd N2 vs) (hb : ∀ c ∈ cs, ¬ c < 0 ∧ ¬ (65535 : Int32) < c) (l2 : cs.length ≤ 4000) :
    ∃ A, Txt x t A cd cs.length (fun j => cs.getD j 0) U := by
  obtain ⟨A, K1, K2, K3, K4, K5, K6⟩ := K
  have hcod := hc.cod (by omega) K3 K5
  obtain ⟨D, fV, fC, hB, F1, F2, g1, g2, -, -⟩ := strObj wi al E V C
  exact ⟨A, ⟨_, hB.2.2.1, D, hB.1, rfl, by cases q : D.vm <;> first | rfl | exact absurd q (hB.2.1.2 _)⟩, Has.of hB F1 g1, Has.of hB F2 g2, ⟨K1.1, State.isArrayOf_alike al K1.2.1, K1.2.2, by rcases hcod with ⟨-, q, -⟩ | ⟨-, q, -⟩ <;> omega⟩, hcod, fun j hj => by
    have e : cs.getD j 0 = cs[j] := by simp [List.getD_eq_getElem?_getD, hj]
    show ¬ cs.getD j 0 < 0 ∧ ¬ 65535 < cs.getD j 0
    rw [e]; exact hb _ (List.getElem_mem _)⟩
end StrChars.Road
namespace StrChars
open Jvm Sem ClassFile Op Lib Jvm.Stand Jvm.Free.XT Jvm.Free.ALB Jvm.Free.JM Jvm.Free
open Jvm.Lib.Cold (StaticIs)
namespace ChN
def yN : MethodName := ⟨"java/lang/String", "charAt", "(I)C"⟩
abbrev yB : ByteArray := jdk_42_method_56_code
theorem d0 : decode yB 0 = .ok (.aload_n 0, 1) := by decide +kernel
theorem d1 : decode yB 1 = .ok (.invokevirtual 492, 3) := by decide +kernel
theorem d4 : decode yB 4 = .ok (.ifCond (.eq) 12, 3) := by decide +kernel
theorem d7 : decode yB 7 = .ok (.aload_n 0, 1) := by decide +kernel
theorem d8 : decode yB 8 = .ok (.getfield 9, 3) := by decide +kernel
theorem d11 : decode yB 11 = .ok (.iload_n 1, 1) := by decide +kernel
theorem d12 : decode yB 12 = .ok (.invokestatic 495, 3) := by decide +kernel
theorem d15 : decode yB 15 = .ok (.ireturn, 1) := by decide +kernel
def site : List Cond := [.fieldLink "java/lang/String" 9 "java/lang/String" "value" "[B", IsL.tab, LChA.tab] ++ virtW "java/lang/String" 492 "java/lang/String" IsL.yN IsL.yN ++ staticW "java/lang/String" 495 LChA.yN
def tab : Cond := tabOf yN yB 2 (some .char) site
def P (x t : Addr) (V : Cell) (n : Nat) (f : Nat → Int32) (z : Int32) (fm : Value) (i : Nat) (args : Array Value) (s : State) : Prop := args = #[.ref x, .int (Int32.ofNat i)] ∧ Txt x t V 0 n f s ∧ i < n ∧ StaticIs s "java/lang/String" "COMPACT_STRINGS" "Z" (.int z) ∧ ¬ z = 0 ∧ StaticIs s "jdk/internal/util/Preconditions" "SIOOBE_FORMATTER" "Ljava/util/function/BiFunction;" fm ∧ fm.isRef = true
def E (f : Nat → Int32) (i : Nat) (r : Option Value) (s u : State) : Prop := XT.PureE (some (.int (f i))) r s u
/-- charAt(i) of a Latin-1 String of n chars, i < n: f i -/
theorem law (l : Launch) (x t : Addr) (V : Cell) (n : Nat) (f : Nat → Int32) (z : Int32) (fm : Value) (i : Nat) : Law l yN 2 1 3 40 yB 2 (some .char) site (P x t V n f z fm i) (E f i) [] 0 0 := by
  refine Law.of_walk (plainFor_of_name (by decide +kernel)) (by decide +kernel) (by decide +kernel) (by decide) (fun _ _ h => by rw [h.1]; rfl) (fun _ U U' hal hh h => ⟨h.1, h.2.1.mv hal hh, h.2.2.1, h.2.2.2.1.there hal hh, h.2.2.2.2.1, h.2.2.2.2.2.1.there hal hh, h.2.2.2.2.2.2⟩) (fun r U U' V V' h1 hal h2 h => XT.PureE.mv r U U' V V' h1 hal h2 h) ?_
  intro p e s m args below meth c s₁ X0 hexec hbytes hml hret hlk hnm hown hh0 W hP
  obtain ⟨rfl, hx, hi, s1, hz, s3, rf⟩ := hP
  have v31 := hx.2.2.2.1.2.2.2
  have hr := hx.2.2.2.2.2 i hi
  have hx0 := hx.mv X0.warmed.alike hh0
  have c1 : Steps p.tables e below (s₁.setTop (entryFrame m #[.ref x, .int (Int32.ofNat i)] 2)) (s₁.setTop (mkF m 1 #[.val (.ref x), .val (.int (Int32.ofNat i))] [.ref x])) := Steps.trans (entry rfl) (by
    show Steps p.tables e below (s₁.setTop (mkF m 0 #[.val (.ref x), .val (.int (Int32.ofNat i))] [])) _
    refine XS.aloadN X0.here hexec rfl (hb hbytes d0) rfl rfl ?_
    exact Steps.refl _)
  obtain ⟨v2, T2, X2, E2, g2⟩ := X0.callV hexec (IsL.law l x 0 z) hown (wks W (virtW "java/lang/String" 492 "java/lang/String" IsL.yN IsL.yN)) rfl (by decide) (wk W IsL.tab) (W := 0) (Nat.le_of_ble_eq_true rfl) (Nat.le_of_ble_eq_true rfl) (Nat.le_refl _) (Nat.le_refl _) (hx0.1.fc X0.warmed.alike) hx0.1.is (g := (mkF m 1 #[.val (.ref x), .val (.int (Int32.ofNat i))] [.ref x])) rfl (by rw [hml]; rfl) c1 (argsL := []) (rest := []) rfl rfl (by show 2 * 0 + 0 ≤ _; decide) (hb hbytes d1) (⟨rfl, hx0.2.2.1, hx.2.2.2.2.1.cd, s1.there X0.warmed.alike hh0, hz⟩)
  obtain ⟨rfl, q2⟩ := E2
  have hh2 := q2.trans hh0
  have hx2 := hx.mv X2.warmed.alike hh2
  obtain ⟨-, k1, k2⟩ | ⟨k0, -⟩ := hx.2.2.2.2.1
  · have c3 : Steps p.tables e below (s₁.setTop (entryFrame m #[.ref x, .int (Int32.ofNat i)] 2)) (T2.setTop (mkF m 8 #[.val (.ref x), .val (.int (Int32.ofNat i))] [.ref x])) := Steps.trans g2 (by
      refine XS.ifNo X2.here hexec rfl (hb hbytes d4) rfl (i0_eq_f (by decide)) ?_
      refine XS.aloadN X2.here hexec rfl (hb hbytes d7) rfl rfl ?_
      exact Steps.refl _)
    obtain ⟨T4, X4, q4, st4⟩ := X2.hget hexec hown (wk W (.fieldLink "java/lang/String" 9 "java/lang/String" "value" "[B")) hx2.2.1 (g := (mkF m 8 #[.val (.ref x), .val (.int (Int32.ofNat i))] [.ref x])) rfl (rest := []) rfl (hb hbytes d8)
    have hh4 := q4.trans hh2
    have c5 : Steps p.tables e below (s₁.setTop (entryFrame m #[.ref x, .int (Int32.ofNat i)] 2)) (T4.setTop (mkF m 12 #[.val (.ref x), .val (.int (Int32.ofNat i))] [.int (Int32.ofNat i), .ref t])) := (c3.trans (st4 _ (Steps.refl _))).trans (by
      refine XS.iloadN X4.here hexec rfl (hb hbytes d11) rfl ?_
      exact Steps.refl _)
    obtain ⟨v6, T6, X6, E6, g6⟩ := X4.callS hexec (LChA.law l t V i (lo8 (f i)) fm) hown (wks W (staticW "java/lang/String" 495 LChA.yN)) (wk W LChA.tab) (W := 0) (Nat.le_of_ble_eq_true rfl) (Nat.le_of_ble_eq_true rfl) (Nat.le_refl _) (Nat.le_refl _) (g := (mkF m 12 #[.val (.ref x), .val (.int (Int32.ofNat i))] [.int (Int32.ofNat i), .ref t])) rfl (by rw [hml]; rfl) c5 (argsL := [.ref t, .int (Int32.ofNat i)]) (rest := []) rfl rfl (by show 2 * 0 + 0 ≤ _; decide) (hb hbytes d12) (⟨rfl, hx.2.2.2.1.mv X4.warmed.alike hh4, (k2 i hi).1, s3.there X4.warmed.alike hh4, rf⟩)
    obtain ⟨rfl, q6⟩ := E6
    rw [chr8_lo8 hr.1 (k2 i hi).2] at g6
    exact ⟨T6, some (.int (f i)), _, _, _, X6, rfl, rfl, rfl, (fun h => by cases h), ⟨rfl, q6.trans hh4⟩, fun fs hl => Steps.trans g6 (X6.ireturnOut hexec hret (narrow_ch hr.1 hr.2) (Or.inr (Or.inr (Or.inr (Or.inl rfl)))) (hb hbytes d15) hl)⟩
  · exact absurd k0 (by decide)
theorem pays {l : Launch} {R : Room} {p : Program} {e : Env} {below : List Frame} {s : State} {sargs : Array Value} {len W : Nat} (x t : Addr) (V : Cell) (n : Nat) (f : Nat → Int32) (z : Int32) (fm : Value) (i : Nat) (htab : tab.before sargs s = true) (hfr : 4 ≤ R.frames) (hlo : W + 53 ≤ R.locals) :
    Back l R p e below s sargs yN len W (fun A₁ a₁ => A₁.cells + 0 ≤ R.cells ∧ A₁.slots + 0 ≤ R.slots ∧ P x t V n f z fm i a₁ A₁.U) (fun A₁ _ v₁ B₁ => E f i v₁ A₁.U B₁.U ∧ B₁.locs = A₁.locs ++ [] ∧ B₁.cells = A₁.cells + 0 ∧ B₁.slots = A₁.slots + 0) :=
  (law l x t V n f z fm i).pays htab hfr (by omega)
end ChN
end StrChars
namespace StrChars.Road
open Jvm Sem ClassFile Op Lib Jvm.Stand Jvm.Free Jvm.Free.XT
open Jvm.Lib.Cold (StaticIs)
/-- the words of String.charAt(int), the Latin-1 road alone -/
abbrev wordsChN : List Jvm.Cond := [.code ChN.yN ChN.yB 2 (some .char), .initialized ST, .fieldLink ST 9 ST "value" "[B", .fieldLink ST 38 ST "COMPACT_STRINGS" "Z", .fieldLink ST 15 ST "coder" "B", .code IsL.yN IsL.yB 1 (some .boolean), .methodLink ST 492 IsL.yN, .declares IsL.yN, .selects ST IsL.yN IsL.yN, .instanceMethod IsL.yN,
  .methodLink ST 495 LChA.yN, .static LChA.yN, .code LChA.yN LChA.yB 2 (some .char), .initialized "java/lang/StringLatin1", .methodLink "java/lang/StringLatin1" 9 JO.Str_checkIndex.yN, .static JO.Str_checkIndex.yN, .code JO.Str_checkIndex.yN JO.Str_checkIndex.yB 2 none,
  .fieldLink ST 1053 "jdk/internal/util/Preconditions" "SIOOBE_FORMATTER" "Ljava/util/function/BiFunction;", .methodLink ST 1059 JC.PreCheck.yN, .static JC.PreCheck.yN, .code JC.PreCheck.yN JC.PreCheck.yB 3 (some .int), .initialized "jdk/internal/util/Preconditions"]
theorem tabChN_of {a : Array Value} {s : State} (h : ∀ w ∈ wordsChN, w.before a s = true) : ChN.tab.before a s = true := by
  have hp : JC.PreCheck.tab.before a s = true := unparts (wk h (.code JC.PreCheck.yN JC.PreCheck.yB 3 (some .int))) (wks h (.initialized JC.PreCheck.yN.cls :: JC.PreCheck.site))
  have qk := consq hp h
  have hk : JO.Str_checkIndex.tab.before a s = true := unparts (wk qk (.code JO.Str_checkIndex.yN JO.Str_checkIndex.yB 2 none)) (wks qk (.initialized JO.Str_checkIndex.yN.cls :: JO.Str_checkIndex.site))
  have ql := consq hk h
  have hl : LChA.tab.before a s = true := unparts (wk ql (.code LChA.yN LChA.yB 2 (some .char))) (wks ql (.initialized LChA.yN.cls :: LChA.site))
  have hi : IsL.tab.before a s = true := unparts (wk h (.code IsL.yN IsL.yB 1 (some .boolean))) (wks h (.initialized IsL.yN.cls :: IsL.site))
  have q := consq hi (consq hl h)
  exact unparts (wk q (.code ChN.yN ChN.yB 2 (some .char))) (wks q (.initialized ChN.yN.cls :: ChN.site))
theorem movedChN {Z s : State} {a0 args : Array Value} (hZ : Z.Warmed39 s.vm) (hw : ∀ d ∈ wordsChN, d.before a0 Z = true) : ∀ d ∈ wordsChN, d.before args s = true := fun d hd => by
  have t : ∀ d ∈ wordsChN, (d.onTables && d.keepsFace) = true := by decide +kernel
  exact RoadKit.mv hZ (hw d hd) (t d hd)
/-- **charAt(i) OF A LATIN-1 STRING**, i < n: the char -/
theorem chN {p : Program} {l : Launch} {e : Env} {R : Room} {s : State} {args : Array Value} {below : List Frame} {len W : Nat} {Z : State} {a0 : Array Value} {h : Heap} (hZ : Z.Warmed39 s.vm) (hw : ∀ d ∈ wordsChN, d.before a0 Z = true) {kI : Nat} (wi : (Jvm.Cond.instantiable ST kI).before a0 Z = true)
    {x t : Addr} {kb : ClassId} {cs : List Int32} {N2 z : Int32} {vs : List Value} {fm : Value} {i : Nat} {j : Int32} (E : RoadKit.Exa Z h x ST) (V : RoadKit.Fld Z h x ST "value" "[B" (.ref t)) (C : RoadKit.Fld Z h x ST "coder" "B" (.int 0)) (K : RoadKit.Arv Z h t kb .byte N2 vs (.int 0)) (hc : CodA cs 0 N2 vs) (hb : ∀ c ∈ cs, ¬ c < 0 ∧ ¬ (65535 : Int32) < c)
    (S : RoadKit.Sta Z h ST "COMPACT_STRINGS" "Z" (.int z)) (hz : ¬ z = 0) (F : RoadKit.Sta Z h "jdk/internal/util/Preconditions" "SIOOBE_FORMATTER" "Ljava/util/function/BiFunction;" fm) (rf : fm.isRef = true) (l2 : cs.length ≤ 4000) (hi : i < cs.length) (hj : j = Int32.ofNat i) (hfr : 4 ≤ R.frames) (hlo : W + 53 ≤ R.locals) :
    Back l R p e below s args (⟨"java/lang/String", "charAt", "(I)C"⟩ : MethodName) len W (fun P a => a = #[.ref x, .int j] ∧ P.U.heap = h ∧ P.cells + 0 ≤ R.cells ∧ P.slots + 0 ≤ R.slots)
      (fun P _ v B => ∃ L, (v = some (.int (cs.getD i 0)) ∧ L = [] ∧ B.U.heap = h) ∧ B.locs = P.locs ++ L ∧ B.cells = P.cells + 0 ∧ B.slots = P.slots + 0) := by
  subst hj
  intro m meth c P g ig mk a X hg hsize hdg hW hn hp'
  obtain ⟨rfl, rfl, r1, r2⟩ := hp'
  have al : Z.vm.Alike P.U.vm := hZ.alike.trans X.warmed.alike
  obtain ⟨A, hx⟩ := txt_of wi al E V C K hc hb l2
  obtain ⟨v, B, X', ⟨⟨hv, hh⟩, hl, hk, hs⟩, st⟩ := ChN.pays x t A cs.length (fun j => cs.getD j 0) z fm i (tabChN_of (movedChN hZ hw)) hfr hlo m meth c P g ig mk _ X hg hsize hdg hW hn ⟨r1, r2, rfl, hx, hi, sta_is al S, hz, sta_is al F, rf⟩
  exact ⟨v, B, X', ⟨[], ⟨hv, rfl, hh⟩, hl, hk, hs⟩, st⟩
/-- what backV says of its String, as the contracts of this text ask it: cs's low bytes, coder 0 -/
theorem codOf {cs : List Int32} {n : Nat} (hn : cs.length = n) (hb : ∀ c ∈ cs, ¬ 255 < c) : CodA cs 0 (Int32.ofNat n) ((cs.map lo8).map Value.int) := Or.inl ⟨rfl, by rw [hn], by simp [List.map_map, Function.comp_def], hb⟩
end StrChars.Road
end Jvm.Pilot.@@N@@

namespace Jvm.Pilot.@@N@@
open Jvm Jvm.ClassFile Sem Op Lib Jvm.Free Jvm.Stand Jvm.LawKit Jvm.RoadKit Bundle Jvm.Pilot.@@N@@.Jvm.D
theorem own_eqint {args : Array Value} {first s : State} {o : Option Outcome} {idx : List Nat} {t : Term} {k : Int32} (h : (Jvm.Cond.eq t (.int k)).value args first o s idx = some true) : t.eval args first o idx s = some (.int k) := by
  cases ht : t.eval args first o idx s with
  | none => simp [Cond.value, ht] at h
  | some x => cases x <;> simp [Cond.value, ht, Term.eval] at h ⊢; exact h
theorem own_nar255 (x : Int32) : nar .char ((x &&& (255 : Int32)).toUInt32.toUInt16.toUInt32.toInt32) = x &&& 255 := by simp only [nar, i2c_mask]
theorem own_and255 (x : Int32) : ¬ (x &&& (255 : Int32)) < 0 ∧ ¬ (255 : Int32) < (x &&& (255 : Int32)) := by
  have h := c_and x (255 : Int32) (by decide)
  have e : (255 : Int32).toInt = 255 := by decide
  have z : (0 : Int32).toInt = 0 := by decide
  rw [e] at h
  refine ⟨fun q => ?_, fun q => ?_⟩
  · rw [Int32.lt_iff_toInt_lt, z] at q; omega
  · rw [Int32.lt_iff_toInt_lt, e] at q; omega
theorem own_nar8 (x : Int32) : nar .byte x.toInt8.toInt32 = x.toInt8.toInt32 := by
  show x.toInt8.toInt32.toInt8.toInt32 = x.toInt8.toInt32
  rw [Int8.toInt8_toInt32]
theorem own_ofNat_lt {a b : Nat} (ha : a < 2 ^ 31) (hb : b < 2 ^ 31) : (Int32.ofNat a < Int32.ofNat b) ↔ a < b := by
  rw [Int32.lt_iff_toInt_lt, show (Int32.ofNat a).toInt = a from Int32.toInt_ofNat_small ha, show (Int32.ofNat b).toInt = b from Int32.toInt_ofNat_small hb]; omega
theorem own_ofNat_clamp {a : Nat} (ha : a < 2 ^ 31) : (Int32.ofNat a).toNatClampNeg = a := by
  rw [Int32.toNatClampNeg, show (Int32.ofNat a).toInt = a from Int32.toInt_ofNat_small ha]; rfl
theorem own_ofNat_nneg {a : Nat} (ha : a < 2 ^ 31) : ¬ Int32.ofNat a < 0 := by
  rw [Int32.lt_iff_toInt_lt, show (Int32.ofNat a).toInt = a from Int32.toInt_ofNat_small ha, show (0 : Int32).toInt = 0 from by decide]; omega
theorem own_ofNat_succ (a : Nat) : Int32.ofNat a + (1 : Int32) = Int32.ofNat (a + 1) := by
  rw [Int32.ofNat_add]; rfl
theorem own_ofNat_inj {a b : Nat} (ha : a < 2 ^ 31) (hb : b < 2 ^ 31) (h : Int32.ofNat a = Int32.ofNat b) : a = b := by
  have q := congrArg Int32.toInt h
  rw [show (Int32.ofNat a).toInt = a from Int32.toInt_ofNat_small ha, show (Int32.ofNat b).toInt = b from Int32.toInt_ofNat_small hb] at q; omega
theorem own_mapD (us : List Int32) (i : Nat) : (us.map Value.int).getD i (.int 0) = .int (us.getD i 0) := by
  simp only [List.getD_eq_getElem?_getD, List.getElem?_map]; cases us[i]? <;> rfl
theorem own_all_eq {us us2 : List Int32} (hl : us.length = us2.length) (h : ∀ i, i < us.length → us.getD i 0 = us2.getD i 0) : us = us2 := by
  apply List.ext_getElem hl
  intro i h1 h2
  have q := h i h1
  simpa [List.getD_eq_getElem?_getD, h1, h2] using q
theorem own_arv_same {Z : State} {h : Heap} {t : Addr} {k1 k2 : ClassId} {us us2 : List Int32} (b1 : us.length < 2 ^ 31) (b2 : us2.length < 2 ^ 31) (A : Arv Z h t k1 .byte (Int32.ofNat us.length) (us.map Value.int) (.int 0)) (B : Arv Z h t k2 .byte (Int32.ofNat us2.length) (us2.map Value.int) (.int 0)) : us = us2 := by
  obtain ⟨c1, a1, -, a3, -, a5, -⟩ := A
  obtain ⟨c2, d1, -, d3, -, d5, -⟩ := B
  cases a1.1.symm.trans d1.1
  rw [own_ofNat_clamp b1] at a3
  rw [own_ofNat_clamp b2] at d3
  refine own_all_eq (a3.symm.trans d3) fun i hi => ?_
  have q := (a5 i (by omega)).symm.trans (d5 i (by omega))
  rw [own_mapD, own_mapD] at q
  exact Value.int.inj (Option.some.inj q)
theorem own_ofNat_sub {a b : Nat} (h : b ≤ a) : Int32.ofNat a - Int32.ofNat b = Int32.ofNat (a - b) := by
  have q : Int32.ofNat a = Int32.ofNat (a - b) + Int32.ofNat b := by rw [← Int32.ofNat_add, Nat.sub_add_cancel h]
  rw [q, Int32.add_sub_cancel]
theorem own_ofNat_pred {a : Nat} (h : 1 ≤ a) : Int32.ofNat a - (1 : Int32) = Int32.ofNat (a - 1) := own_ofNat_sub (b := 1) h
theorem own_ofNat_pred' {a : Nat} (h : 1 ≤ a) : Int32.ofNat a + (-1 : Int32) = Int32.ofNat (a - 1) := by rw [← own_ofNat_pred h, Int32.sub_eq_add_neg]
theorem own_ofNat_addsub (j n : Nat) : Int32.ofNat (j + n) - Int32.ofNat j = Int32.ofNat n := by rw [own_ofNat_sub (Nat.le_add_right j n), Nat.add_sub_cancel_left]
theorem own_ofNat_zero {a : Nat} (ha : a < 2 ^ 31) (h : Int32.ofNat a = (0 : Int32)) : a = 0 := own_ofNat_inj ha (by decide) h
theorem own_anti {a b : Int32} (h1 : ¬ a < b) (h2 : ¬ b < a) : a = b := by
  rw [Int32.lt_iff_toInt_lt] at h1 h2
  exact Int32.toInt_inj.mp (by omega)
def own_ws (c : Int32) : Prop := c = 32 ∨ c = 9
def own_pk (c : Int32) : Prop := (¬ c < 0 ∧ ¬ (255 : Int32) < c) ∧ nar .char c = c
theorem own_i2c255 (x : Int32) : ((x &&& (255 : Int32)).toUInt32.toUInt16.toUInt32.toInt32) = x &&& 255 := by simp only [i2c_mask]
theorem own_pk255 (x : Int32) : own_pk (x &&& (255 : Int32)) := ⟨own_and255 x, own_i2c255 x⟩
theorem own_up {cs : List Int32} (hp : ∀ c ∈ cs, ¬ c < 0 ∧ ¬ (255 : Int32) < c) : ∀ c ∈ cs, ¬ c < 0 ∧ ¬ (65535 : Int32) < c := fun c hc => by
  obtain ⟨h1, h2⟩ := hp c hc
  refine ⟨h1, fun q => h2 ?_⟩
  rw [Int32.lt_iff_toInt_lt] at q ⊢
  have e1 : (65535 : Int32).toInt = 65535 := by decide
  have e2 : (255 : Int32).toInt = 255 := by decide
  omega
def own_sl (cs : List Int32) (j n : Nat) : List Value := (((cs.drop j).take n).map StrChars.lo8).map Value.int
theorem own_sl_all (cs : List Int32) : own_sl cs 0 cs.length = (cs.map StrChars.lo8).map Value.int := by simp [own_sl]
theorem own_slice {cs : List Int32} {j n : Nat} (hj : j < 2 ^ 31) (hn : n < 2 ^ 31) (h : j + n ≤ cs.length) : own_sl cs j n = (List.range (Int32.ofNat n).toNatClampNeg).map fun i => ((cs.map StrChars.lo8).map Value.int).getD ((Int32.ofNat j).toNatClampNeg + i) (.int 0) := by
  rw [own_ofNat_clamp hj, own_ofNat_clamp hn]
  apply List.ext_getElem
  · simp [own_sl]; omega
  · intro i h1 h2
    have hi : i < n := by simpa using h2
    simp [own_sl, List.getD_eq_getElem?_getD, List.getElem?_eq_getElem (show j + i < cs.length by omega)]
theorem own_fin {n : Nat} (hn : n < 2 ^ 31) (L : List Value) : (([] ++ List.replicate n (Value.int 0)).take (0 : Int32).toNatClampNeg ++ L ++ ([] ++ List.replicate n (Value.int 0)).drop ((0 : Int32).toNatClampNeg + (Int32.ofNat n).toNatClampNeg)) = L := by
  rw [own_ofNat_clamp hn, show (0 : Int32).toNatClampNeg = 0 from rfl]; simp
def own_trim (cs : List Int32) (j e : Nat) : Prop := j ≤ e ∧ e ≤ cs.length ∧ (∀ i, i < j → own_ws (cs.getD i 0)) ∧ (∀ i, e ≤ i → i < cs.length → own_ws (cs.getD i 0)) ∧ (j < e → ¬ own_ws (cs.getD j 0) ∧ ¬ own_ws (cs.getD (e - 1) 0)) ∧ (j = e → j = cs.length)
theorem own_tail {C cs : List Int32} {NN j ee : Nat} (h4 : C.length = 4) (hN : NN ≤ 4) (hcs : cs = C.take NN) (hT : own_trim cs j ee) :
    j ≤ ee ∧ ee ≤ NN ∧ (∀ i, i < j → own_ws (C.getD i 0)) ∧ (∀ i, ee ≤ i → i < NN → own_ws (C.getD i 0)) ∧ (j < ee → ¬ own_ws (C.getD j 0) ∧ ¬ own_ws (C.getD (ee - 1) 0)) ∧ (j = ee → j = NN) := by
  obtain ⟨t1, t2, t3, t4, t5, t6⟩ := hT
  have hl : cs.length = NN := by rw [hcs, List.length_take]; omega
  have hg : ∀ i, i < NN → cs.getD i 0 = C.getD i 0 := fun i hi => by rw [hcs]; simp [List.getD_eq_getElem?_getD, List.getElem?_take, hi]
  rw [hl] at t2 t6
  refine ⟨t1, t2, fun i hi => by rw [← hg i (by omega)]; exact t3 i hi, fun i h1 h2 => by rw [← hg i h2]; exact t4 i h1 (by rw [hl]; exact h2), fun q => ⟨by rw [← hg j (by omega)]; exact (t5 q).1, by rw [← hg (ee - 1) (by omega)]; exact (t5 q).2⟩, t6⟩
theorem own_D {C cs D : List Int32} {NN j ee : Nat} (h4 : C.length = 4) (hN : NN ≤ 4) (hcs : cs = C.take NN) (h1 : j ≤ ee) (h2 : ee ≤ NN) (hD : D = (cs.drop j).take (ee - j)) :
    D.length = ee - j ∧ (∀ i, i < D.length → D.getD i 0 = C.getD (j + i) 0) ∧ ∀ c ∈ D, c ∈ C := by
  have hl : D.length = ee - j := by rw [hD, hcs]; simp only [List.length_take, List.length_drop]; omega
  refine ⟨hl, fun i hi => ?_, fun c hc => ?_⟩
  · have hi1 : i < ee - j := by omega
    have hi2 : j + i < NN := by omega
    rw [hD, hcs]; simp [List.getD_eq_getElem?_getD, List.getElem?_take, List.getElem?_drop, hi1, hi2]
  · rw [hD, hcs] at hc
    exact List.mem_of_mem_take (List.mem_of_mem_drop (List.mem_of_mem_take hc))
theorem own_mod5 (x : Int32) : (x &&& (2147483647 : Int32)) % (5 : Int32) = (0 : Int32) ∨ (x &&& (2147483647 : Int32)) % (5 : Int32) = (1 : Int32) ∨ (x &&& (2147483647 : Int32)) % (5 : Int32) = (2 : Int32) ∨ (x &&& (2147483647 : Int32)) % (5 : Int32) = (3 : Int32) ∨ (x &&& (2147483647 : Int32)) % (5 : Int32) = (4 : Int32) := by
  have h1 := (c_and x (2147483647 : Int32) (by decide)).1
  have h2 := (c_irem (x &&& (2147483647 : Int32)) (5 : Int32) 5 (by decide)).1 h1
  have h3 : ((x &&& (2147483647 : Int32)) % (5 : Int32)).toInt = 0 ∨ ((x &&& (2147483647 : Int32)) % (5 : Int32)).toInt = 1 ∨ ((x &&& (2147483647 : Int32)) % (5 : Int32)).toInt = 2 ∨ ((x &&& (2147483647 : Int32)) % (5 : Int32)).toInt = 3 ∨ ((x &&& (2147483647 : Int32)) % (5 : Int32)).toInt = 4 := by omega
  rcases h3 with h | h | h | h | h
  · exact Or.inl (Int32.toInt_inj.mp (h.trans (by decide)))
  · exact Or.inr (Or.inl (Int32.toInt_inj.mp (h.trans (by decide))))
  · exact Or.inr (Or.inr (Or.inl (Int32.toInt_inj.mp (h.trans (by decide)))))
  · exact Or.inr (Or.inr (Or.inr (Or.inl (Int32.toInt_inj.mp (h.trans (by decide))))))
  · exact Or.inr (Or.inr (Or.inr (Or.inr ((Int32.toInt_inj.mp (h.trans (by decide)))))))
theorem own_EW {Z : State} {a0 : Array Value} (hw : ∀ d ∈ tables_1, d.before a0 Z = true) : EW Z a0 consts_1 := (EW.cons (hw _ (List.mem_of_getElem? (i := 22) rfl)) (by decide +kernel) (EW.cons (hw _ (List.mem_of_getElem? (i := 125) rfl)) (by decide +kernel) EW.nil))
theorem d1_0 : decode method_2_code 0 = .ok (.iload_n 0, 1) := by decide +kernel
theorem d1_1 : decode method_2_code 1 = .ok (.iconst 3, 1) := by decide +kernel
theorem d1_2 : decode method_2_code 2 = .ok (.iand, 1) := by decide +kernel
theorem d1_3 : decode method_2_code 3 = .ok (.istore_n 1, 1) := by decide +kernel
theorem d1_4 : decode method_2_code 4 = .ok (.iload_n 1, 1) := by decide +kernel
theorem d1_5 : decode method_2_code 5 = .ok (.ifCond .ne 6, 3) := by decide +kernel
theorem d1_8 : decode method_2_code 8 = .ok (.bipush 32, 2) := by decide +kernel
theorem d1_10 : decode method_2_code 10 = .ok (.ireturn, 1) := by decide +kernel
theorem d1_11 : decode method_2_code 11 = .ok (.iload_n 1, 1) := by decide +kernel
theorem d1_12 : decode method_2_code 12 = .ok (.iconst 1, 1) := by decide +kernel
theorem d1_13 : decode method_2_code 13 = .ok (.if_icmp .ne 6, 3) := by decide +kernel
theorem d1_16 : decode method_2_code 16 = .ok (.bipush 9, 2) := by decide +kernel
theorem d1_18 : decode method_2_code 18 = .ok (.ireturn, 1) := by decide +kernel
theorem d1_19 : decode method_2_code 19 = .ok (.iload_n 0, 1) := by decide +kernel
theorem d1_20 : decode method_2_code 20 = .ok (.iconst 2, 1) := by decide +kernel
theorem d1_21 : decode method_2_code 21 = .ok (.iushr, 1) := by decide +kernel
theorem d1_22 : decode method_2_code 22 = .ok (.sipush 255, 3) := by decide +kernel
theorem d1_25 : decode method_2_code 25 = .ok (.iand, 1) := by decide +kernel
theorem d1_26 : decode method_2_code 26 = .ok (.i2c, 1) := by decide +kernel
theorem d1_27 : decode method_2_code 27 = .ok (.ireturn, 1) := by decide +kernel
theorem pn_rmPK : plainName "com/example/concurrency_quota/concurrencyquota/ServiceRequestTrimWhitespacePinLaw" = true := by first | (simp [plainName, overriddenIn]; done) | decide +kernel
theorem ef_rmPK (m : MethodId) (q1 : Int32) : entryFrame m #[(.int q1)] 2 = mkF m 0 #[.val (.int q1), .unset] [] := by first | (simp [entryFrame, mkF, argsToLocals, Value.category]; done) | rfl
def Q_rmPK (Z : State) (q1 : Int32)  (h0 : Heap) (n0 : Nat) (v : Option Value) (h : Heap) (L : List Loc) : Prop := (∃ c, v = some (.int c) ∧ own_pk c) ∧ Fr n0 L ∧ h = h0
set_option maxRecDepth 65536 in
set_option maxHeartbeats 40000000 in
theorem rmPK (l : Launch) (Z : State) (a0 : Array Value) (hw : ∀ d ∈ tables_1, d.before a0 Z = true) (ws : List Jvm.Cond) (q1 : Int32)  (h0 : Heap) (n0 : Nat) (O0 : Old Z n0 h0) :
    MetFree l (⟨"com/example/concurrency_quota/concurrencyquota/ServiceRequestTrimWhitespacePinLaw", "pick", "(I)C"⟩ : MethodName) (head1 (Jvm.Cond.code (⟨"com/example/concurrency_quota/concurrencyquota/ServiceRequestTrimWhitespacePinLaw", "pick", "(I)C"⟩ : MethodName) method_2_code 2 (some .char) :: ws) ({ frames := 0, cells := 0, slots := 0, locals := 0 } : Room)) (fun a U => a = #[(.int q1)] ∧ Z.Warmed39 U.vm ∧ U.heap = h0) (fun _ _ _ _ _ => True) (fun _ U o U' => ∃ v L, o = .returned v ∧ Q_rmPK Z q1  h0 n0 v U'.heap L ∧ FrameEnd U o U' L ({ frames := 0, cells := 0, slots := 0, locals := 0 } : Room).cells ({ frames := 0, cells := 0, slots := 0, locals := 0 } : Room).slots) := by
  refine MetFree.of_bodySF (plainFor_of_name pn_rmPK) hisR ?_
  intro p e s m args below meth c s₁ Bd hml0 hP hK
  obtain ⟨rfl, hZ, hh⟩ := hP
  have hx := Bd.exec
  have hby := Bd.bytes
  have hml : c.maxLocals = 2 := hml0
  have hown : s.vm.findClass "com/example/concurrency_quota/concurrencyquota/ServiceRequestTrimWhitespacePinLaw" = some m.cls := findClass_of_methodNamed Bd.named
  have hnm := (name_of_methodNamed Bd.named Bd.method).1
  have X0 : Stand p l e ({ frames := 0, cells := 0, slots := 0, locals := 0 } : Room) s m #[(.int q1)] below meth c s₁ [] 0 0 := Stand.of_body Bd
  have e0 : s₁.heap = h0 := by rw [← hh, Bd.state]; rfl
  have N0 := Fr.nil n0
  refine Gl.start (Q := Q_rmPK Z q1  h0 n0) (ef_rmPK m q1) ?_
  show Gl p e below s _ _ _ s₁ (mkF m 0 #[.val (.int q1), .unset] [])
  refine Gl.st (fun _ kk => XS.iloadN X0.here hx rfl (hb hby d1_0) rfl kk) ?_
  show Gl p e below s _ _ _ s₁ (mkF m 1 #[.val (.int q1), .unset] [(.int q1)])
  refine Gl.st (fun _ kk => XS.iconst X0.here hx rfl (hb hby d1_1) kk) ?_
  show Gl p e below s _ _ _ s₁ (mkF m 2 #[.val (.int q1), .unset] [(.int (3 : Int32)), (.int q1)])
  refine Gl.st (fun _ kk => XS.iand X0.here hx rfl (hb hby d1_2) rfl kk) ?_
  show Gl p e below s _ _ _ s₁ (mkF m 3 #[.val (.int q1), .unset] [(.int (q1 &&& (3 : Int32)))])
  refine Gl.st (fun _ kk => XS.istoreN X0.here hx rfl (hb hby d1_3) rfl (l' := #[.val (.int q1), .val (.int (q1 &&& (3 : Int32)))]) rfl kk) ?_
  show Gl p e below s _ _ _ s₁ (mkF m 4 #[.val (.int q1), .val (.int (q1 &&& (3 : Int32)))] [])
  refine Gl.st (fun _ kk => XS.iloadN X0.here hx rfl (hb hby d1_4) rfl kk) ?_
  show Gl p e below s _ _ _ s₁ (mkF m 5 #[.val (.int q1), .val (.int (q1 &&& (3 : Int32)))] [(.int (q1 &&& (3 : Int32)))])
  by_cases hc5 : (q1 &&& (3 : Int32)) = (0 : Int32)
  · skip
    refine Gl.st (fun _ kk => XS.ifNo X0.here hx rfl (hb hby d1_5) rfl ((if0 _ _).trans (teq hc5).2) kk) ?_
    show Gl p e below s _ _ _ s₁ (mkF m 8 #[.val (.int q1), .val (.int (q1 &&& (3 : Int32)))] [])
    refine Gl.st (fun _ kk => XS.bipush X0.here hx rfl (hb hby d1_8) kk) ?_
    show Gl p e below s _ _ _ s₁ (mkF m 10 #[.val (.int q1), .val (.int (q1 &&& (3 : Int32)))] [(.int (32 : Int32))])
    exact Gl.ret X0 (v := (some (.int (32 : Int32)))) (fun h => by rw [Bd.returns] at h; cases h) (BodyLoose.notSynchronized Bd) (fun hr => retN X0 hx (t := .char) Bd.returns (by simp) (hb hby d1_10) hr) e0 ⟨⟨_, rfl, ⟨by decide, by decide⟩⟩, N0, rfl⟩ (by decide) (by decide)
  · skip
    refine Gl.st (fun _ kk => XS.ifYes X0.here hx rfl (pc0 := 5) (pc' := 11) rfl (hb hby d1_5) rfl ((if0 _ _).trans (feq hc5).2) (by decide) (by decide) kk) ?_
    show Gl p e below s _ _ _ s₁ (mkF m 11 #[.val (.int q1), .val (.int (q1 &&& (3 : Int32)))] [])
    refine Gl.st (fun _ kk => XS.iloadN X0.here hx rfl (hb hby d1_11) rfl kk) ?_
    show Gl p e below s _ _ _ s₁ (mkF m 12 #[.val (.int q1), .val (.int (q1 &&& (3 : Int32)))] [(.int (q1 &&& (3 : Int32)))])
    refine Gl.st (fun _ kk => XS.iconst X0.here hx rfl (hb hby d1_12) kk) ?_
    show Gl p e below s _ _ _ s₁ (mkF m 13 #[.val (.int q1), .val (.int (q1 &&& (3 : Int32)))] [(.int (1 : Int32)), (.int (q1 &&& (3 : Int32)))])
    by_cases hc13 : (q1 &&& (3 : Int32)) = (1 : Int32)
    · skip
      refine Gl.st (fun _ kk => XS.icmpNo X0.here hx rfl (hb hby d1_13) rfl (teq hc13).2 kk) ?_
      show Gl p e below s _ _ _ s₁ (mkF m 16 #[.val (.int q1), .val (.int (q1 &&& (3 : Int32)))] [])
      refine Gl.st (fun _ kk => XS.bipush X0.here hx rfl (hb hby d1_16) kk) ?_
      show Gl p e below s _ _ _ s₁ (mkF m 18 #[.val (.int q1), .val (.int (q1 &&& (3 : Int32)))] [(.int (9 : Int32))])
      exact Gl.ret X0 (v := (some (.int (9 : Int32)))) (fun h => by rw [Bd.returns] at h; cases h) (BodyLoose.notSynchronized Bd) (fun hr => retN X0 hx (t := .char) Bd.returns (by simp) (hb hby d1_18) hr) e0 ⟨⟨_, rfl, ⟨by decide, by decide⟩⟩, N0, rfl⟩ (by decide) (by decide)
    · skip
      refine Gl.st (fun _ kk => XS.icmpYes X0.here hx rfl (pc0 := 13) (pc' := 19) rfl (hb hby d1_13) rfl (feq hc13).2 (by decide) (by decide) kk) ?_
      show Gl p e below s _ _ _ s₁ (mkF m 19 #[.val (.int q1), .val (.int (q1 &&& (3 : Int32)))] [])
      refine Gl.st (fun _ kk => XS.iloadN X0.here hx rfl (hb hby d1_19) rfl kk) ?_
      show Gl p e below s _ _ _ s₁ (mkF m 20 #[.val (.int q1), .val (.int (q1 &&& (3 : Int32)))] [(.int q1)])
      refine Gl.st (fun _ kk => XS.iconst X0.here hx rfl (hb hby d1_20) kk) ?_
      show Gl p e below s _ _ _ s₁ (mkF m 21 #[.val (.int q1), .val (.int (q1 &&& (3 : Int32)))] [(.int (2 : Int32)), (.int q1)])
      refine Gl.st (fun _ kk => XS.iushr X0.here hx rfl (hb hby d1_21) rfl kk) ?_
      show Gl p e below s _ _ _ s₁ (mkF m 22 #[.val (.int q1), .val (.int (q1 &&& (3 : Int32)))] [(.int ((q1.toUInt32 >>> ((2 : Int32) &&& 31).toUInt32).toInt32))])
      refine Gl.st (fun _ kk => XS.sipush X0.here hx rfl (hb hby d1_22) kk) ?_
      show Gl p e below s _ _ _ s₁ (mkF m 25 #[.val (.int q1), .val (.int (q1 &&& (3 : Int32)))] [(.int (255 : Int32)), (.int ((q1.toUInt32 >>> ((2 : Int32) &&& 31).toUInt32).toInt32))])
      refine Gl.st (fun _ kk => XS.iand X0.here hx rfl (hb hby d1_25) rfl kk) ?_
      show Gl p e below s _ _ _ s₁ (mkF m 26 #[.val (.int q1), .val (.int (q1 &&& (3 : Int32)))] [(.int (((q1.toUInt32 >>> ((2 : Int32) &&& 31).toUInt32).toInt32) &&& (255 : Int32)))])
      refine Gl.st (fun _ kk => XS.i2c X0.here hx rfl (hb hby d1_26) rfl kk) ?_
      show Gl p e below s _ _ _ s₁ (mkF m 27 #[.val (.int q1), .val (.int (q1 &&& (3 : Int32)))] [(.int ((((q1.toUInt32 >>> ((2 : Int32) &&& 31).toUInt32).toInt32) &&& (255 : Int32)).toUInt32.toUInt16.toUInt32.toInt32))])
      exact Gl.ret X0 (v := (some (.int (nar .char ((((q1.toUInt32 >>> ((2 : Int32) &&& 31).toUInt32).toInt32) &&& (255 : Int32)).toUInt32.toUInt16.toUInt32.toInt32))))) (fun h => by rw [Bd.returns] at h; cases h) (BodyLoose.notSynchronized Bd) (fun hr => retN X0 hx (t := .char) Bd.returns (by simp) (hb hby d1_27) hr) e0 ⟨⟨_, rfl, by rw [own_nar255]; exact own_pk255 _⟩, N0, rfl⟩ (by decide) (by decide)
theorem d28_0 : decode method_3_code 0 = .ok (.iload_n 0, 1) := by decide +kernel
theorem d28_1 : decode method_3_code 1 = .ok (.bipush 32, 2) := by decide +kernel
theorem d28_3 : decode method_3_code 3 = .ok (.if_icmp .eq 9, 3) := by decide +kernel
theorem d28_6 : decode method_3_code 6 = .ok (.iload_n 0, 1) := by decide +kernel
theorem d28_7 : decode method_3_code 7 = .ok (.bipush 9, 2) := by decide +kernel
theorem d28_9 : decode method_3_code 9 = .ok (.if_icmp .ne 7, 3) := by decide +kernel
theorem d28_16 : decode method_3_code 16 = .ok (.iconst 0, 1) := by decide +kernel
theorem d28_17 : decode method_3_code 17 = .ok (.ireturn, 1) := by decide +kernel
theorem pn_rmW0 : plainName "com/example/concurrency_quota/concurrencyquota/ServiceRequestTrimWhitespacePinLaw" = true := by first | (simp [plainName, overriddenIn]; done) | decide +kernel
theorem ef_rmW0 (m : MethodId) (q1 : Int32) : entryFrame m #[(.int q1)] 1 = mkF m 0 #[.val (.int q1)] [] := by first | (simp [entryFrame, mkF, argsToLocals, Value.category]; done) | rfl
def Q_rmW0 (Z : State) (q1 : Int32)  (h0 : Heap) (n0 : Nat) (v : Option Value) (h : Heap) (L : List Loc) : Prop := v = some (.int 0) ∧ Fr n0 L ∧ h = h0
set_option maxRecDepth 65536 in
set_option maxHeartbeats 40000000 in
theorem rmW0 (l : Launch) (Z : State) (a0 : Array Value) (hw : ∀ d ∈ tables_1, d.before a0 Z = true) (ws : List Jvm.Cond) (q1 : Int32)  (h0 : Heap) (n0 : Nat) (O0 : Old Z n0 h0) (hq : ¬ own_ws q1) :
    MetFree l (⟨"com/example/concurrency_quota/concurrencyquota/ServiceRequestTrimWhitespacePinLaw", "ws", "(C)Z"⟩ : MethodName) (head1 (Jvm.Cond.code (⟨"com/example/concurrency_quota/concurrencyquota/ServiceRequestTrimWhitespacePinLaw", "ws", "(C)Z"⟩ : MethodName) method_3_code 1 (some .boolean) :: ws) ({ frames := 0, cells := 0, slots := 0, locals := 0 } : Room)) (fun a U => a = #[(.int q1)] ∧ Z.Warmed39 U.vm ∧ U.heap = h0) (fun _ _ _ _ _ => True) (fun _ U o U' => ∃ v L, o = .returned v ∧ Q_rmW0 Z q1  h0 n0 v U'.heap L ∧ FrameEnd U o U' L ({ frames := 0, cells := 0, slots := 0, locals := 0 } : Room).cells ({ frames := 0, cells := 0, slots := 0, locals := 0 } : Room).slots) := by
  refine MetFree.of_bodySF (plainFor_of_name pn_rmW0) hisR ?_
  intro p e s m args below meth c s₁ Bd hml0 hP hK
  obtain ⟨rfl, hZ, hh⟩ := hP
  have hx := Bd.exec
  have hby := Bd.bytes
  have hml : c.maxLocals = 1 := hml0
  have hown : s.vm.findClass "com/example/concurrency_quota/concurrencyquota/ServiceRequestTrimWhitespacePinLaw" = some m.cls := findClass_of_methodNamed Bd.named
  have hnm := (name_of_methodNamed Bd.named Bd.method).1
  have X0 : Stand p l e ({ frames := 0, cells := 0, slots := 0, locals := 0 } : Room) s m #[(.int q1)] below meth c s₁ [] 0 0 := Stand.of_body Bd
  have e0 : s₁.heap = h0 := by rw [← hh, Bd.state]; rfl
  have N0 := Fr.nil n0
  refine Gl.start (Q := Q_rmW0 Z q1  h0 n0) (ef_rmW0 m q1) ?_
  show Gl p e below s _ _ _ s₁ (mkF m 0 #[.val (.int q1)] [])
  refine Gl.st (fun _ kk => XS.iloadN X0.here hx rfl (hb hby d28_0) rfl kk) ?_
  show Gl p e below s _ _ _ s₁ (mkF m 1 #[.val (.int q1)] [(.int q1)])
  refine Gl.st (fun _ kk => XS.bipush X0.here hx rfl (hb hby d28_1) kk) ?_
  show Gl p e below s _ _ _ s₁ (mkF m 3 #[.val (.int q1)] [(.int (32 : Int32)), (.int q1)])
  refine Gl.st (fun _ kk => XS.icmpNo X0.here hx rfl (hb hby d28_3) rfl (feq (fun q => hq (Or.inl q))).1 kk) ?_
  show Gl p e below s _ _ _ s₁ (mkF m 6 #[.val (.int q1)] [])
  refine Gl.st (fun _ kk => XS.iloadN X0.here hx rfl (hb hby d28_6) rfl kk) ?_
  show Gl p e below s _ _ _ s₁ (mkF m 7 #[.val (.int q1)] [(.int q1)])
  refine Gl.st (fun _ kk => XS.bipush X0.here hx rfl (hb hby d28_7) kk) ?_
  show Gl p e below s _ _ _ s₁ (mkF m 9 #[.val (.int q1)] [(.int (9 : Int32)), (.int q1)])
  refine Gl.st (fun _ kk => XS.icmpYes X0.here hx rfl (pc0 := 9) (pc' := 16) rfl (hb hby d28_9) rfl (feq (fun q => hq (Or.inr q))).2 (by decide) (by decide) kk) ?_
  show Gl p e below s _ _ _ s₁ (mkF m 16 #[.val (.int q1)] [])
  refine Gl.st (fun _ kk => XS.iconst X0.here hx rfl (hb hby d28_16) kk) ?_
  show Gl p e below s _ _ _ s₁ (mkF m 17 #[.val (.int q1)] [(.int (0 : Int32))])
  exact Gl.ret X0 (v := (some (.int (0 : Int32)))) (fun h => by rw [Bd.returns] at h; cases h) (BodyLoose.notSynchronized Bd) (fun hr => retN X0 hx (t := .boolean) Bd.returns (by simp) (hb hby d28_17) hr) e0 ⟨rfl, N0, rfl⟩ (by decide) (by decide)
theorem d28_12 : decode method_3_code 12 = .ok (.iconst 1, 1) := by decide +kernel
theorem d28_13 : decode method_3_code 13 = .ok (.goto 4, 3) := by decide +kernel
theorem pn_rmW1 : plainName "com/example/concurrency_quota/concurrencyquota/ServiceRequestTrimWhitespacePinLaw" = true := by first | (simp [plainName, overriddenIn]; done) | decide +kernel
theorem ef_rmW1 (m : MethodId) (q1 : Int32) : entryFrame m #[(.int q1)] 1 = mkF m 0 #[.val (.int q1)] [] := by first | (simp [entryFrame, mkF, argsToLocals, Value.category]; done) | rfl
def Q_rmW1 (Z : State) (q1 : Int32)  (h0 : Heap) (n0 : Nat) (v : Option Value) (h : Heap) (L : List Loc) : Prop := v = some (.int 1) ∧ Fr n0 L ∧ h = h0
set_option maxRecDepth 65536 in
set_option maxHeartbeats 40000000 in
theorem rmW1 (l : Launch) (Z : State) (a0 : Array Value) (hw : ∀ d ∈ tables_1, d.before a0 Z = true) (ws : List Jvm.Cond) (q1 : Int32)  (h0 : Heap) (n0 : Nat) (O0 : Old Z n0 h0) (hq : own_ws q1) :
    MetFree l (⟨"com/example/concurrency_quota/concurrencyquota/ServiceRequestTrimWhitespacePinLaw", "ws", "(C)Z"⟩ : MethodName) (head1 (Jvm.Cond.code (⟨"com/example/concurrency_quota/concurrencyquota/ServiceRequestTrimWhitespacePinLaw", "ws", "(C)Z"⟩ : MethodName) method_3_code 1 (some .boolean) :: ws) ({ frames := 0, cells := 0, slots := 0, locals := 0 } : Room)) (fun a U => a = #[(.int q1)] ∧ Z.Warmed39 U.vm ∧ U.heap = h0) (fun _ _ _ _ _ => True) (fun _ U o U' => ∃ v L, o = .returned v ∧ Q_rmW1 Z q1  h0 n0 v U'.heap L ∧ FrameEnd U o U' L ({ frames := 0, cells := 0, slots := 0, locals := 0 } : Room).cells ({ frames := 0, cells := 0, slots := 0, locals := 0 } : Room).slots) := by
  refine MetFree.of_bodySF (plainFor_of_name pn_rmW1) hisR ?_
  intro p e s m args below meth c s₁ Bd hml0 hP hK
  obtain ⟨rfl, hZ, hh⟩ := hP
  have hx := Bd.exec
  have hby := Bd.bytes
  have hml : c.maxLocals = 1 := hml0
  have hown : s.vm.findClass "com/example/concurrency_quota/concurrencyquota/ServiceRequestTrimWhitespacePinLaw" = some m.cls := findClass_of_methodNamed Bd.named
  have hnm := (name_of_methodNamed Bd.named Bd.method).1
  have X0 : Stand p l e ({ frames := 0, cells := 0, slots := 0, locals := 0 } : Room) s m #[(.int q1)] below meth c s₁ [] 0 0 := Stand.of_body Bd
  have e0 : s₁.heap = h0 := by rw [← hh, Bd.state]; rfl
  have N0 := Fr.nil n0
  refine Gl.start (Q := Q_rmW1 Z q1  h0 n0) (ef_rmW1 m q1) ?_
  show Gl p e below s _ _ _ s₁ (mkF m 0 #[.val (.int q1)] [])
  refine Gl.st (fun _ kk => XS.iloadN X0.here hx rfl (hb hby d28_0) rfl kk) ?_
  show Gl p e below s _ _ _ s₁ (mkF m 1 #[.val (.int q1)] [(.int q1)])
  refine Gl.st (fun _ kk => XS.bipush X0.here hx rfl (hb hby d28_1) kk) ?_
  show Gl p e below s _ _ _ s₁ (mkF m 3 #[.val (.int q1)] [(.int (32 : Int32)), (.int q1)])
  by_cases hc3 : q1 = (32 : Int32)
  · skip
    refine Gl.st (fun _ kk => XS.icmpYes X0.here hx rfl (pc0 := 3) (pc' := 12) rfl (hb hby d28_3) rfl (teq hc3).1 (by decide) (by decide) kk) ?_
    show Gl p e below s _ _ _ s₁ (mkF m 12 #[.val (.int q1)] [])
    refine Gl.st (fun _ kk => XS.iconst X0.here hx rfl (hb hby d28_12) kk) ?_
    show Gl p e below s _ _ _ s₁ (mkF m 13 #[.val (.int q1)] [(.int (1 : Int32))])
    refine Gl.st (fun _ kk => XS.goto X0.here hx rfl (pc0 := 13) (pc' := 17) rfl (hb hby d28_13) (by decide) (by decide) kk) ?_
    show Gl p e below s _ _ _ s₁ (mkF m 17 #[.val (.int q1)] [(.int (1 : Int32))])
    exact Gl.ret X0 (v := (some (.int (1 : Int32)))) (fun h => by rw [Bd.returns] at h; cases h) (BodyLoose.notSynchronized Bd) (fun hr => retN X0 hx (t := .boolean) Bd.returns (by simp) (hb hby d28_17) hr) e0 ⟨rfl, N0, rfl⟩ (by decide) (by decide)
  · skip
    refine Gl.st (fun _ kk => XS.icmpNo X0.here hx rfl (hb hby d28_3) rfl (feq hc3).1 kk) ?_
    show Gl p e below s _ _ _ s₁ (mkF m 6 #[.val (.int q1)] [])
    have h9 : q1 = 9 := hq.resolve_left hc3
    refine Gl.st (fun _ kk => XS.iloadN X0.here hx rfl (hb hby d28_6) rfl kk) ?_
    show Gl p e below s _ _ _ s₁ (mkF m 7 #[.val (.int q1)] [(.int q1)])
    refine Gl.st (fun _ kk => XS.bipush X0.here hx rfl (hb hby d28_7) kk) ?_
    show Gl p e below s _ _ _ s₁ (mkF m 9 #[.val (.int q1)] [(.int (9 : Int32)), (.int q1)])
    refine Gl.st (fun _ kk => XS.icmpNo X0.here hx rfl (hb hby d28_9) rfl (teq h9).2 kk) ?_
    show Gl p e below s _ _ _ s₁ (mkF m 12 #[.val (.int q1)] [])
    refine Gl.st (fun _ kk => XS.iconst X0.here hx rfl (hb hby d28_12) kk) ?_
    show Gl p e below s _ _ _ s₁ (mkF m 13 #[.val (.int q1)] [(.int (1 : Int32))])
    refine Gl.st (fun _ kk => XS.goto X0.here hx rfl (pc0 := 13) (pc' := 17) rfl (hb hby d28_13) (by decide) (by decide) kk) ?_
    show Gl p e below s _ _ _ s₁ (mkF m 17 #[.val (.int q1)] [(.int (1 : Int32))])
    exact Gl.ret X0 (v := (some (.int (1 : Int32)))) (fun h => by rw [Bd.returns] at h; cases h) (BodyLoose.notSynchronized Bd) (fun hr => retN X0 hx (t := .boolean) Bd.returns (by simp) (hb hby d28_17) hr) e0 ⟨rfl, N0, rfl⟩ (by decide) (by decide)
theorem d12_0 : decode method_4_code 0 = .ok (.iload_n 2, 1) := by decide +kernel
theorem d12_1 : decode method_4_code 1 = .ok (.iload_n 1, 1) := by decide +kernel
theorem d12_2 : decode method_4_code 2 = .ok (.if_icmp .ge 16, 3) := by decide +kernel
theorem d12_5 : decode method_4_code 5 = .ok (.aload_n 0, 1) := by decide +kernel
theorem d12_6 : decode method_4_code 6 = .ok (.iload_n 2, 1) := by decide +kernel
theorem d12_7 : decode method_4_code 7 = .ok (.caload, 1) := by decide +kernel
theorem d12_8 : decode method_4_code 8 = .ok (.invokestatic 7, 3) := by decide +kernel
theorem d12_11 : decode method_4_code 11 = .ok (.ifCond .ne 7, 3) := by decide +kernel
theorem d12_14 : decode method_4_code 14 = .ok (.iconst 1, 1) := by decide +kernel
theorem d12_15 : decode method_4_code 15 = .ok (.goto 4, 3) := by decide +kernel
theorem d12_19 : decode method_4_code 19 = .ok (.ireturn, 1) := by decide +kernel
theorem pd_rmY0_0 : parseMethodDescriptor "(C)Z" = some ⟨[.char], some .boolean⟩ := by decide +kernel
theorem pn_rmY0 : plainName "com/example/concurrency_quota/concurrencyquota/ServiceRequestTrimWhitespacePinLaw" = true := by first | (simp [plainName, overriddenIn]; done) | decide +kernel
theorem ef_rmY0 (m : MethodId) (a1 : Addr) (n1 : Int32) : entryFrame m #[(.ref a1), (.int n1), (.int (0 : Int32))] 3 = mkF m 0 #[.val (.ref a1), .val (.int n1), .val (.int (0 : Int32))] [] := by first | (simp [entryFrame, mkF, argsToLocals, Value.category]; done) | rfl
def Q_rmY0 (Z : State) (a1 : Addr) (n1 : Int32) (k1 : ClassId) (u0 u1 u2 u3 : Int32) (h0 : Heap) (n0 : Nat) (v : Option Value) (h : Heap) (L : List Loc) : Prop := v = some (.int 1) ∧ Fr n0 L ∧ h = h0
set_option maxRecDepth 65536 in
set_option maxHeartbeats 40000000 in
theorem rmY0 (l : Launch) (Z : State) (a0 : Array Value) (hw : ∀ d ∈ tables_1, d.before a0 Z = true) (ws : List Jvm.Cond) (a1 : Addr) (n1 : Int32) (k1 : ClassId) (u0 u1 u2 u3 : Int32) (h0 : Heap) (n0 : Nat) (O0 : Old Z n0 h0) (Arv_a1 : Arv Z h0 a1 k1 .char 4 [(.int u0), (.int u1), (.int u2), (.int u3)] (.int 0)) (hlt : (0 : Int32) < n1) (hq : ¬ own_ws u0) :
    MetFree l (⟨"com/example/concurrency_quota/concurrencyquota/ServiceRequestTrimWhitespacePinLaw", "solid", "([CII)Z"⟩ : MethodName) (head1 (Jvm.Cond.code (⟨"com/example/concurrency_quota/concurrencyquota/ServiceRequestTrimWhitespacePinLaw", "solid", "([CII)Z"⟩ : MethodName) method_4_code 3 (some .boolean) :: ws) ({ frames := 1, cells := 0, slots := 0, locals := 12 } : Room)) (fun a U => a = #[(.ref a1), (.int n1), (.int (0 : Int32))] ∧ Z.Warmed39 U.vm ∧ U.heap = h0) (fun _ _ _ _ _ => True) (fun _ U o U' => ∃ v L, o = .returned v ∧ Q_rmY0 Z a1 n1 k1 u0 u1 u2 u3 h0 n0 v U'.heap L ∧ FrameEnd U o U' L ({ frames := 1, cells := 0, slots := 0, locals := 12 } : Room).cells ({ frames := 1, cells := 0, slots := 0, locals := 12 } : Room).slots) := by
  refine MetFree.of_bodySF (plainFor_of_name pn_rmY0) hisR ?_
  intro p e s m args below meth c s₁ Bd hml0 hP hK
  obtain ⟨rfl, hZ, hh⟩ := hP
  have hx := Bd.exec
  have hby := Bd.bytes
  have hml : c.maxLocals = 3 := hml0
  have hown : s.vm.findClass "com/example/concurrency_quota/concurrencyquota/ServiceRequestTrimWhitespacePinLaw" = some m.cls := findClass_of_methodNamed Bd.named
  have hnm := (name_of_methodNamed Bd.named Bd.method).1
  have X0 : Stand p l e ({ frames := 1, cells := 0, slots := 0, locals := 12 } : Room) s m #[(.ref a1), (.int n1), (.int (0 : Int32))] below meth c s₁ [] 0 0 := Stand.of_body Bd
  have e0 : s₁.heap = h0 := by rw [← hh, Bd.state]; rfl
  have N0 := Fr.nil n0
  refine Gl.start (Q := Q_rmY0 Z a1 n1 k1 u0 u1 u2 u3 h0 n0) (ef_rmY0 m a1 n1) ?_
  show Gl p e below s _ _ _ s₁ (mkF m 0 #[.val (.ref a1), .val (.int n1), .val (.int (0 : Int32))] [])
  refine Gl.st (fun _ kk => XS.iloadN X0.here hx rfl (hb hby d12_0) rfl kk) ?_
  show Gl p e below s _ _ _ s₁ (mkF m 1 #[.val (.ref a1), .val (.int n1), .val (.int (0 : Int32))] [(.int (0 : Int32))])
  refine Gl.st (fun _ kk => XS.iloadN X0.here hx rfl (hb hby d12_1) rfl kk) ?_
  show Gl p e below s _ _ _ s₁ (mkF m 2 #[.val (.ref a1), .val (.int n1), .val (.int (0 : Int32))] [(.int n1), (.int (0 : Int32))])
  refine Gl.st (fun _ kk => XS.icmpNo X0.here hx rfl (hb hby d12_2) rfl (tlt hlt).2.1 kk) ?_
  show Gl p e below s _ _ _ s₁ (mkF m 5 #[.val (.ref a1), .val (.int n1), .val (.int (0 : Int32))] [])
  refine Gl.st (fun _ kk => XS.aloadN X0.here hx rfl (hb hby d12_5) rfl rfl kk) ?_
  show Gl p e below s _ _ _ s₁ (mkF m 6 #[.val (.ref a1), .val (.int n1), .val (.int (0 : Int32))] [(.ref a1)])
  refine Gl.st (fun _ kk => XS.iloadN X0.here hx rfl (hb hby d12_6) rfl kk) ?_
  show Gl p e below s _ _ _ s₁ (mkF m 7 #[.val (.ref a1), .val (.int n1), .val (.int (0 : Int32))] [(.int (0 : Int32)), (.ref a1)])
  obtain ⟨cl1, Ar1, q1, Sz1, Ng1, Ha1, Fi1⟩ := id Arv_a1
  have hin1 : ¬ ((0 : Int32) < 0 ∨ cl1.slots.size ≤ ((0 : Int32)).toNatClampNeg) := inb_of Sz1 ⟨by decide, by decide⟩
  have hat1 : cl1.slots[((0 : Int32)).toNatClampNeg]? = some (.int u0) := Ha1.at hin1 rfl
  refine Gl.st (fun _ kk => X0.caload hx (j := (0 : Int32)) (v := (.int u0)) (by rw [e0]; exact Ar1.1) (State.isArrayOf_alike hZ.alike Ar1.2.1) Ar1.2.2 hin1 hat1 (g := (mkF m 7 #[.val (.ref a1), .val (.int n1), .val (.int (0 : Int32))] [(.int (0 : Int32)), (.ref a1)])) rfl rfl (hb hby d12_7) _ kk) ?_
  show Gl p e below s _ _ _ s₁ (mkF m 8 #[.val (.ref a1), .val (.int n1), .val (.int (0 : Int32))] [(.int u0)])
  obtain ⟨v2, _, ⟨T2, L2, kQ2, nQ2⟩, -, X2, ⟨Lc2, hQ2, l2, y2, z2⟩, st2⟩ := Jvm.LawKit.callS X0 hx (y := (⟨"com/example/concurrency_quota/concurrencyquota/ServiceRequestTrimWhitespacePinLaw", "ws", "(C)Z"⟩ : MethodName)) hown (mvT hZ (hw _ (List.mem_of_getElem? (i := 121) rfl))) (mvT hZ (hw _ (List.mem_of_getElem? (i := 122) rfl))) (mvT hZ (hw _ (List.mem_of_getElem? (i := 4) rfl))) (mvT hZ (hw _ (List.mem_of_getElem? (i := 123) rfl))) (by decide) (backOf (W := 0) (rmW0 l Z a0 hw [] u0 h0 n0 O0 hq) hZ (hw _ (List.mem_of_getElem? (i := 123) rfl)) (hw _ (List.mem_of_getElem? (i := 4) rfl)) (by decide) (by decide)) (g := (mkF m 8 #[.val (.ref a1), .val (.int n1), .val (.int (0 : Int32))] [(.int u0)])) rfl (by rw [hml]; rfl) (argsL := [(.int u0)]) (rest := []) (lenOf pd_rmY0_0 rfl) rfl (by show 2 * 0 + _ ≤ _; exact Nat.le_of_eq rfl) (hb hby d12_8) (fun _ _ => ⟨rfl, e0, (by decide : 0 + 0 ≤ _), (by decide : 0 + 0 ≤ _)⟩)
  dsimp only [Pt.U, Pt.locs, Pt.cells, Pt.slots] at X2 l2 y2 z2 st2 hQ2
  subst y2 z2
  obtain ⟨rfl, Nq2, e2⟩ := hQ2
  have N2 : Fr n0 L2 := l2 ▸ Fr.app N0 Nq2
  refine Gl.st st2 ?_
  clear st2
  show Gl p e below s _ _ _ T2 (mkF m 11 #[.val (.ref a1), .val (.int n1), .val (.int (0 : Int32))] [(.int (0 : Int32))])
  refine Gl.st (fun _ kk => XS.ifNo X2.here hx rfl (hb hby d12_11) rfl ((if0 _ _).trans (teq (by decide : (0 : Int32) = (0 : Int32))).2) kk) ?_
  show Gl p e below s _ _ _ T2 (mkF m 14 #[.val (.ref a1), .val (.int n1), .val (.int (0 : Int32))] [])
  refine Gl.st (fun _ kk => XS.iconst X2.here hx rfl (hb hby d12_14) kk) ?_
  show Gl p e below s _ _ _ T2 (mkF m 15 #[.val (.ref a1), .val (.int n1), .val (.int (0 : Int32))] [(.int (1 : Int32))])
  refine Gl.st (fun _ kk => XS.goto X2.here hx rfl (pc0 := 15) (pc' := 19) rfl (hb hby d12_15) (by decide) (by decide) kk) ?_
  show Gl p e below s _ _ _ T2 (mkF m 19 #[.val (.ref a1), .val (.int n1), .val (.int (0 : Int32))] [(.int (1 : Int32))])
  exact Gl.ret X2 (v := (some (.int (1 : Int32)))) (fun h => by rw [Bd.returns] at h; cases h) (BodyLoose.notSynchronized Bd) (fun hr => retN X2 hx (t := .boolean) Bd.returns (by simp) (hb hby d12_19) hr) e2 ⟨rfl, N2, rfl⟩ (by decide) (by decide)
theorem d12_18 : decode method_4_code 18 = .ok (.iconst 0, 1) := by decide +kernel
theorem pd_rmZ0_0 : parseMethodDescriptor "(C)Z" = some ⟨[.char], some .boolean⟩ := by decide +kernel
theorem pn_rmZ0 : plainName "com/example/concurrency_quota/concurrencyquota/ServiceRequestTrimWhitespacePinLaw" = true := by first | (simp [plainName, overriddenIn]; done) | decide +kernel
theorem ef_rmZ0 (m : MethodId) (a1 : Addr) (n1 : Int32) : entryFrame m #[(.ref a1), (.int n1), (.int (0 : Int32))] 3 = mkF m 0 #[.val (.ref a1), .val (.int n1), .val (.int (0 : Int32))] [] := by first | (simp [entryFrame, mkF, argsToLocals, Value.category]; done) | rfl
def Q_rmZ0 (Z : State) (a1 : Addr) (n1 : Int32) (k1 : ClassId) (u0 u1 u2 u3 : Int32) (h0 : Heap) (n0 : Nat) (v : Option Value) (h : Heap) (L : List Loc) : Prop := v = some (.int 0) ∧ Fr n0 L ∧ h = h0
set_option maxRecDepth 65536 in
set_option maxHeartbeats 40000000 in
theorem rmZ0 (l : Launch) (Z : State) (a0 : Array Value) (hw : ∀ d ∈ tables_1, d.before a0 Z = true) (ws : List Jvm.Cond) (a1 : Addr) (n1 : Int32) (k1 : ClassId) (u0 u1 u2 u3 : Int32) (h0 : Heap) (n0 : Nat) (O0 : Old Z n0 h0) (Arv_a1 : Arv Z h0 a1 k1 .char 4 [(.int u0), (.int u1), (.int u2), (.int u3)] (.int 0)) (hz : (0 : Int32) < n1 → own_ws u0) :
    MetFree l (⟨"com/example/concurrency_quota/concurrencyquota/ServiceRequestTrimWhitespacePinLaw", "solid", "([CII)Z"⟩ : MethodName) (head1 (Jvm.Cond.code (⟨"com/example/concurrency_quota/concurrencyquota/ServiceRequestTrimWhitespacePinLaw", "solid", "([CII)Z"⟩ : MethodName) method_4_code 3 (some .boolean) :: ws) ({ frames := 1, cells := 0, slots := 0, locals := 12 } : Room)) (fun a U => a = #[(.ref a1), (.int n1), (.int (0 : Int32))] ∧ Z.Warmed39 U.vm ∧ U.heap = h0) (fun _ _ _ _ _ => True) (fun _ U o U' => ∃ v L, o = .returned v ∧ Q_rmZ0 Z a1 n1 k1 u0 u1 u2 u3 h0 n0 v U'.heap L ∧ FrameEnd U o U' L ({ frames := 1, cells := 0, slots := 0, locals := 12 } : Room).cells ({ frames := 1, cells := 0, slots := 0, locals := 12 } : Room).slots) := by
  refine MetFree.of_bodySF (plainFor_of_name pn_rmZ0) hisR ?_
  intro p e s m args below meth c s₁ Bd hml0 hP hK
  obtain ⟨rfl, hZ, hh⟩ := hP
  have hx := Bd.exec
  have hby := Bd.bytes
  have hml : c.maxLocals = 3 := hml0
  have hown : s.vm.findClass "com/example/concurrency_quota/concurrencyquota/ServiceRequestTrimWhitespacePinLaw" = some m.cls := findClass_of_methodNamed Bd.named
  have hnm := (name_of_methodNamed Bd.named Bd.method).1
  have X0 : Stand p l e ({ frames := 1, cells := 0, slots := 0, locals := 12 } : Room) s m #[(.ref a1), (.int n1), (.int (0 : Int32))] below meth c s₁ [] 0 0 := Stand.of_body Bd
  have e0 : s₁.heap = h0 := by rw [← hh, Bd.state]; rfl
  have N0 := Fr.nil n0
  refine Gl.start (Q := Q_rmZ0 Z a1 n1 k1 u0 u1 u2 u3 h0 n0) (ef_rmZ0 m a1 n1) ?_
  show Gl p e below s _ _ _ s₁ (mkF m 0 #[.val (.ref a1), .val (.int n1), .val (.int (0 : Int32))] [])
  refine Gl.st (fun _ kk => XS.iloadN X0.here hx rfl (hb hby d12_0) rfl kk) ?_
  show Gl p e below s _ _ _ s₁ (mkF m 1 #[.val (.ref a1), .val (.int n1), .val (.int (0 : Int32))] [(.int (0 : Int32))])
  refine Gl.st (fun _ kk => XS.iloadN X0.here hx rfl (hb hby d12_1) rfl kk) ?_
  show Gl p e below s _ _ _ s₁ (mkF m 2 #[.val (.ref a1), .val (.int n1), .val (.int (0 : Int32))] [(.int n1), (.int (0 : Int32))])
  by_cases hc2 : (0 : Int32) < n1
  · skip
    refine Gl.st (fun _ kk => XS.icmpNo X0.here hx rfl (hb hby d12_2) rfl (tlt hc2).2.1 kk) ?_
    show Gl p e below s _ _ _ s₁ (mkF m 5 #[.val (.ref a1), .val (.int n1), .val (.int (0 : Int32))] [])
    refine Gl.st (fun _ kk => XS.aloadN X0.here hx rfl (hb hby d12_5) rfl rfl kk) ?_
    show Gl p e below s _ _ _ s₁ (mkF m 6 #[.val (.ref a1), .val (.int n1), .val (.int (0 : Int32))] [(.ref a1)])
    refine Gl.st (fun _ kk => XS.iloadN X0.here hx rfl (hb hby d12_6) rfl kk) ?_
    show Gl p e below s _ _ _ s₁ (mkF m 7 #[.val (.ref a1), .val (.int n1), .val (.int (0 : Int32))] [(.int (0 : Int32)), (.ref a1)])
    obtain ⟨cl1, Ar1, q1, Sz1, Ng1, Ha1, Fi1⟩ := id Arv_a1
    have hin1 : ¬ ((0 : Int32) < 0 ∨ cl1.slots.size ≤ ((0 : Int32)).toNatClampNeg) := inb_of Sz1 ⟨by decide, by decide⟩
    have hat1 : cl1.slots[((0 : Int32)).toNatClampNeg]? = some (.int u0) := Ha1.at hin1 rfl
    refine Gl.st (fun _ kk => X0.caload hx (j := (0 : Int32)) (v := (.int u0)) (by rw [e0]; exact Ar1.1) (State.isArrayOf_alike hZ.alike Ar1.2.1) Ar1.2.2 hin1 hat1 (g := (mkF m 7 #[.val (.ref a1), .val (.int n1), .val (.int (0 : Int32))] [(.int (0 : Int32)), (.ref a1)])) rfl rfl (hb hby d12_7) _ kk) ?_
    show Gl p e below s _ _ _ s₁ (mkF m 8 #[.val (.ref a1), .val (.int n1), .val (.int (0 : Int32))] [(.int u0)])
    obtain ⟨v2, _, ⟨T2, L2, kQ2, nQ2⟩, -, X2, ⟨Lc2, hQ2, l2, y2, z2⟩, st2⟩ := Jvm.LawKit.callS X0 hx (y := (⟨"com/example/concurrency_quota/concurrencyquota/ServiceRequestTrimWhitespacePinLaw", "ws", "(C)Z"⟩ : MethodName)) hown (mvT hZ (hw _ (List.mem_of_getElem? (i := 121) rfl))) (mvT hZ (hw _ (List.mem_of_getElem? (i := 122) rfl))) (mvT hZ (hw _ (List.mem_of_getElem? (i := 4) rfl))) (mvT hZ (hw _ (List.mem_of_getElem? (i := 123) rfl))) (by decide) (backOf (W := 0) (rmW1 l Z a0 hw [] u0 h0 n0 O0 (hz hc2)) hZ (hw _ (List.mem_of_getElem? (i := 123) rfl)) (hw _ (List.mem_of_getElem? (i := 4) rfl)) (by decide) (by decide)) (g := (mkF m 8 #[.val (.ref a1), .val (.int n1), .val (.int (0 : Int32))] [(.int u0)])) rfl (by rw [hml]; rfl) (argsL := [(.int u0)]) (rest := []) (lenOf pd_rmZ0_0 rfl) rfl (by show 2 * 0 + _ ≤ _; exact Nat.le_of_eq rfl) (hb hby d12_8) (fun _ _ => ⟨rfl, e0, (by decide : 0 + 0 ≤ _), (by decide : 0 + 0 ≤ _)⟩)
    dsimp only [Pt.U, Pt.locs, Pt.cells, Pt.slots] at X2 l2 y2 z2 st2 hQ2
    subst y2 z2
    obtain ⟨rfl, Nq2, e2⟩ := hQ2
    have N2 : Fr n0 L2 := l2 ▸ Fr.app N0 Nq2
    refine Gl.st st2 ?_
    clear st2
    show Gl p e below s _ _ _ T2 (mkF m 11 #[.val (.ref a1), .val (.int n1), .val (.int (0 : Int32))] [(.int (1 : Int32))])
    refine Gl.st (fun _ kk => XS.ifYes X2.here hx rfl (pc0 := 11) (pc' := 18) rfl (hb hby d12_11) rfl ((if0 _ _).trans (feq (by decide : ¬ ((1 : Int32) = (0 : Int32)))).2) (by decide) (by decide) kk) ?_
    show Gl p e below s _ _ _ T2 (mkF m 18 #[.val (.ref a1), .val (.int n1), .val (.int (0 : Int32))] [])
    refine Gl.st (fun _ kk => XS.iconst X2.here hx rfl (hb hby d12_18) kk) ?_
    show Gl p e below s _ _ _ T2 (mkF m 19 #[.val (.ref a1), .val (.int n1), .val (.int (0 : Int32))] [(.int (0 : Int32))])
    exact Gl.ret X2 (v := (some (.int (0 : Int32)))) (fun h => by rw [Bd.returns] at h; cases h) (BodyLoose.notSynchronized Bd) (fun hr => retN X2 hx (t := .boolean) Bd.returns (by simp) (hb hby d12_19) hr) e2 ⟨rfl, N2, rfl⟩ (by decide) (by decide)
  · skip
    refine Gl.st (fun _ kk => XS.icmpYes X0.here hx rfl (pc0 := 2) (pc' := 18) rfl (hb hby d12_2) rfl (flt hc2).2.1 (by decide) (by decide) kk) ?_
    show Gl p e below s _ _ _ s₁ (mkF m 18 #[.val (.ref a1), .val (.int n1), .val (.int (0 : Int32))] [])
    refine Gl.st (fun _ kk => XS.iconst X0.here hx rfl (hb hby d12_18) kk) ?_
    show Gl p e below s _ _ _ s₁ (mkF m 19 #[.val (.ref a1), .val (.int n1), .val (.int (0 : Int32))] [(.int (0 : Int32))])
    exact Gl.ret X0 (v := (some (.int (0 : Int32)))) (fun h => by rw [Bd.returns] at h; cases h) (BodyLoose.notSynchronized Bd) (fun hr => retN X0 hx (t := .boolean) Bd.returns (by simp) (hb hby d12_19) hr) e0 ⟨rfl, N0, rfl⟩ (by decide) (by decide)
theorem pd_rmY1_0 : parseMethodDescriptor "(C)Z" = some ⟨[.char], some .boolean⟩ := by decide +kernel
theorem pn_rmY1 : plainName "com/example/concurrency_quota/concurrencyquota/ServiceRequestTrimWhitespacePinLaw" = true := by first | (simp [plainName, overriddenIn]; done) | decide +kernel
theorem ef_rmY1 (m : MethodId) (a1 : Addr) (n1 : Int32) : entryFrame m #[(.ref a1), (.int n1), (.int (1 : Int32))] 3 = mkF m 0 #[.val (.ref a1), .val (.int n1), .val (.int (1 : Int32))] [] := by first | (simp [entryFrame, mkF, argsToLocals, Value.category]; done) | rfl
def Q_rmY1 (Z : State) (a1 : Addr) (n1 : Int32) (k1 : ClassId) (u0 u1 u2 u3 : Int32) (h0 : Heap) (n0 : Nat) (v : Option Value) (h : Heap) (L : List Loc) : Prop := v = some (.int 1) ∧ Fr n0 L ∧ h = h0
set_option maxRecDepth 65536 in
set_option maxHeartbeats 40000000 in
theorem rmY1 (l : Launch) (Z : State) (a0 : Array Value) (hw : ∀ d ∈ tables_1, d.before a0 Z = true) (ws : List Jvm.Cond) (a1 : Addr) (n1 : Int32) (k1 : ClassId) (u0 u1 u2 u3 : Int32) (h0 : Heap) (n0 : Nat) (O0 : Old Z n0 h0) (Arv_a1 : Arv Z h0 a1 k1 .char 4 [(.int u0), (.int u1), (.int u2), (.int u3)] (.int 0)) (hlt : (1 : Int32) < n1) (hq : ¬ own_ws u1) :
    MetFree l (⟨"com/example/concurrency_quota/concurrencyquota/ServiceRequestTrimWhitespacePinLaw", "solid", "([CII)Z"⟩ : MethodName) (head1 (Jvm.Cond.code (⟨"com/example/concurrency_quota/concurrencyquota/ServiceRequestTrimWhitespacePinLaw", "solid", "([CII)Z"⟩ : MethodName) method_4_code 3 (some .boolean) :: ws) ({ frames := 1, cells := 0, slots := 0, locals := 12 } : Room)) (fun a U => a = #[(.ref a1), (.int n1), (.int (1 : Int32))] ∧ Z.Warmed39 U.vm ∧ U.heap = h0) (fun _ _ _ _ _ => True) (fun _ U o U' => ∃ v L, o = .returned v ∧ Q_rmY1 Z a1 n1 k1 u0 u1 u2 u3 h0 n0 v U'.heap L ∧ FrameEnd U o U' L ({ frames := 1, cells := 0, slots := 0, locals := 12 } : Room).cells ({ frames := 1, cells := 0, slots := 0, locals := 12 } : Room).slots) := by
  refine MetFree.of_bodySF (plainFor_of_name pn_rmY1) hisR ?_
  intro p e s m args below meth c s₁ Bd hml0 hP hK
  obtain ⟨rfl, hZ, hh⟩ := hP
  have hx := Bd.exec
  have hby := Bd.bytes
  have hml : c.maxLocals = 3 := hml0
  have hown : s.vm.findClass "com/example/concurrency_quota/concurrencyquota/ServiceRequestTrimWhitespacePinLaw" = some m.cls := findClass_of_methodNamed Bd.named
  have hnm := (name_of_methodNamed Bd.named Bd.method).1
  have X0 : Stand p l e ({ frames := 1, cells := 0, slots := 0, locals := 12 } : Room) s m #[(.ref a1), (.int n1), (.int (1 : Int32))] below meth c s₁ [] 0 0 := Stand.of_body Bd
  have e0 : s₁.heap = h0 := by rw [← hh, Bd.state]; rfl
  have N0 := Fr.nil n0
  refine Gl.start (Q := Q_rmY1 Z a1 n1 k1 u0 u1 u2 u3 h0 n0) (ef_rmY1 m a1 n1) ?_
  show Gl p e below s _ _ _ s₁ (mkF m 0 #[.val (.ref a1), .val (.int n1), .val (.int (1 : Int32))] [])
  refine Gl.st (fun _ kk => XS.iloadN X0.here hx rfl (hb hby d12_0) rfl kk) ?_
  show Gl p e below s _ _ _ s₁ (mkF m 1 #[.val (.ref a1), .val (.int n1), .val (.int (1 : Int32))] [(.int (1 : Int32))])
  refine Gl.st (fun _ kk => XS.iloadN X0.here hx rfl (hb hby d12_1) rfl kk) ?_
  show Gl p e below s _ _ _ s₁ (mkF m 2 #[.val (.ref a1), .val (.int n1), .val (.int (1 : Int32))] [(.int n1), (.int (1 : Int32))])
  refine Gl.st (fun _ kk => XS.icmpNo X0.here hx rfl (hb hby d12_2) rfl (tlt hlt).2.1 kk) ?_
  show Gl p e below s _ _ _ s₁ (mkF m 5 #[.val (.ref a1), .val (.int n1), .val (.int (1 : Int32))] [])
  refine Gl.st (fun _ kk => XS.aloadN X0.here hx rfl (hb hby d12_5) rfl rfl kk) ?_
  show Gl p e below s _ _ _ s₁ (mkF m 6 #[.val (.ref a1), .val (.int n1), .val (.int (1 : Int32))] [(.ref a1)])
  refine Gl.st (fun _ kk => XS.iloadN X0.here hx rfl (hb hby d12_6) rfl kk) ?_
  show Gl p e below s _ _ _ s₁ (mkF m 7 #[.val (.ref a1), .val (.int n1), .val (.int (1 : Int32))] [(.int (1 : Int32)), (.ref a1)])
  obtain ⟨cl1, Ar1, q1, Sz1, Ng1, Ha1, Fi1⟩ := id Arv_a1
  have hin1 : ¬ ((1 : Int32) < 0 ∨ cl1.slots.size ≤ ((1 : Int32)).toNatClampNeg) := inb_of Sz1 ⟨by decide, by decide⟩
  have hat1 : cl1.slots[((1 : Int32)).toNatClampNeg]? = some (.int u1) := Ha1.at hin1 rfl
  refine Gl.st (fun _ kk => X0.caload hx (j := (1 : Int32)) (v := (.int u1)) (by rw [e0]; exact Ar1.1) (State.isArrayOf_alike hZ.alike Ar1.2.1) Ar1.2.2 hin1 hat1 (g := (mkF m 7 #[.val (.ref a1), .val (.int n1), .val (.int (1 : Int32))] [(.int (1 : Int32)), (.ref a1)])) rfl rfl (hb hby d12_7) _ kk) ?_
  show Gl p e below s _ _ _ s₁ (mkF m 8 #[.val (.ref a1), .val (.int n1), .val (.int (1 : Int32))] [(.int u1)])
  obtain ⟨v2, _, ⟨T2, L2, kQ2, nQ2⟩, -, X2, ⟨Lc2, hQ2, l2, y2, z2⟩, st2⟩ := Jvm.LawKit.callS X0 hx (y := (⟨"com/example/concurrency_quota/concurrencyquota/ServiceRequestTrimWhitespacePinLaw", "ws", "(C)Z"⟩ : MethodName)) hown (mvT hZ (hw _ (List.mem_of_getElem? (i := 121) rfl))) (mvT hZ (hw _ (List.mem_of_getElem? (i := 122) rfl))) (mvT hZ (hw _ (List.mem_of_getElem? (i := 4) rfl))) (mvT hZ (hw _ (List.mem_of_getElem? (i := 123) rfl))) (by decide) (backOf (W := 0) (rmW0 l Z a0 hw [] u1 h0 n0 O0 hq) hZ (hw _ (List.mem_of_getElem? (i := 123) rfl)) (hw _ (List.mem_of_getElem? (i := 4) rfl)) (by decide) (by decide)) (g := (mkF m 8 #[.val (.ref a1), .val (.int n1), .val (.int (1 : Int32))] [(.int u1)])) rfl (by rw [hml]; rfl) (argsL := [(.int u1)]) (rest := []) (lenOf pd_rmY1_0 rfl) rfl (by show 2 * 0 + _ ≤ _; exact Nat.le_of_eq rfl) (hb hby d12_8) (fun _ _ => ⟨rfl, e0, (by decide : 0 + 0 ≤ _), (by decide : 0 + 0 ≤ _)⟩)
  dsimp only [Pt.U, Pt.locs, Pt.cells, Pt.slots] at X2 l2 y2 z2 st2 hQ2
  subst y2 z2
  obtain ⟨rfl, Nq2, e2⟩ := hQ2
  have N2 : Fr n0 L2 := l2 ▸ Fr.app N0 Nq2
  refine Gl.st st2 ?_
  clear st2
  show Gl p e below s _ _ _ T2 (mkF m 11 #[.val (.ref a1), .val (.int n1), .val (.int (1 : Int32))] [(.int (0 : Int32))])
  refine Gl.st (fun _ kk => XS.ifNo X2.here hx rfl (hb hby d12_11) rfl ((if0 _ _).trans (teq (by decide : (0 : Int32) = (0 : Int32))).2) kk) ?_
  show Gl p e below s _ _ _ T2 (mkF m 14 #[.val (.ref a1), .val (.int n1), .val (.int (1 : Int32))] [])
  refine Gl.st (fun _ kk => XS.iconst X2.here hx rfl (hb hby d12_14) kk) ?_
  show Gl p e below s _ _ _ T2 (mkF m 15 #[.val (.ref a1), .val (.int n1), .val (.int (1 : Int32))] [(.int (1 : Int32))])
  refine Gl.st (fun _ kk => XS.goto X2.here hx rfl (pc0 := 15) (pc' := 19) rfl (hb hby d12_15) (by decide) (by decide) kk) ?_
  show Gl p e below s _ _ _ T2 (mkF m 19 #[.val (.ref a1), .val (.int n1), .val (.int (1 : Int32))] [(.int (1 : Int32))])
  exact Gl.ret X2 (v := (some (.int (1 : Int32)))) (fun h => by rw [Bd.returns] at h; cases h) (BodyLoose.notSynchronized Bd) (fun hr => retN X2 hx (t := .boolean) Bd.returns (by simp) (hb hby d12_19) hr) e2 ⟨rfl, N2, rfl⟩ (by decide) (by decide)
theorem pd_rmZ1_0 : parseMethodDescriptor "(C)Z" = some ⟨[.char], some .boolean⟩ := by decide +kernel
theorem pn_rmZ1 : plainName "com/example/concurrency_quota/concurrencyquota/ServiceRequestTrimWhitespacePinLaw" = true := by first | (simp [plainName, overriddenIn]; done) | decide +kernel
theorem ef_rmZ1 (m : MethodId) (a1 : Addr) (n1 : Int32) : entryFrame m #[(.ref a1), (.int n1), (.int (1 : Int32))] 3 = mkF m 0 #[.val (.ref a1), .val (.int n1), .val (.int (1 : Int32))] [] := by first | (simp [entryFrame, mkF, argsToLocals, Value.category]; done) | rfl
def Q_rmZ1 (Z : State) (a1 : Addr) (n1 : Int32) (k1 : ClassId) (u0 u1 u2 u3 : Int32) (h0 : Heap) (n0 : Nat) (v : Option Value) (h : Heap) (L : List Loc) : Prop := v = some (.int 0) ∧ Fr n0 L ∧ h = h0
set_option maxRecDepth 65536 in
set_option maxHeartbeats 40000000 in
theorem rmZ1 (l : Launch) (Z : State) (a0 : Array Value) (hw : ∀ d ∈ tables_1, d.before a0 Z = true) (ws : List Jvm.Cond) (a1 : Addr) (n1 : Int32) (k1 : ClassId) (u0 u1 u2 u3 : Int32) (h0 : Heap) (n0 : Nat) (O0 : Old Z n0 h0) (Arv_a1 : Arv Z h0 a1 k1 .char 4 [(.int u0), (.int u1), (.int u2), (.int u3)] (.int 0)) (hz : (1 : Int32) < n1 → own_ws u1) :
    MetFree l (⟨"com/example/concurrency_quota/concurrencyquota/ServiceRequestTrimWhitespacePinLaw", "solid", "([CII)Z"⟩ : MethodName) (head1 (Jvm.Cond.code (⟨"com/example/concurrency_quota/concurrencyquota/ServiceRequestTrimWhitespacePinLaw", "solid", "([CII)Z"⟩ : MethodName) method_4_code 3 (some .boolean) :: ws) ({ frames := 1, cells := 0, slots := 0, locals := 12 } : Room)) (fun a U => a = #[(.ref a1), (.int n1), (.int (1 : Int32))] ∧ Z.Warmed39 U.vm ∧ U.heap = h0) (fun _ _ _ _ _ => True) (fun _ U o U' => ∃ v L, o = .returned v ∧ Q_rmZ1 Z a1 n1 k1 u0 u1 u2 u3 h0 n0 v U'.heap L ∧ FrameEnd U o U' L ({ frames := 1, cells := 0, slots := 0, locals := 12 } : Room).cells ({ frames := 1, cells := 0, slots := 0, locals := 12 } : Room).slots) := by
  refine MetFree.of_bodySF (plainFor_of_name pn_rmZ1) hisR ?_
  intro p e s m args below meth c s₁ Bd hml0 hP hK
  obtain ⟨rfl, hZ, hh⟩ := hP
  have hx := Bd.exec
  have hby := Bd.bytes
  have hml : c.maxLocals = 3 := hml0
  have hown : s.vm.findClass "com/example/concurrency_quota/concurrencyquota/ServiceRequestTrimWhitespacePinLaw" = some m.cls := findClass_of_methodNamed Bd.named
  have hnm := (name_of_methodNamed Bd.named Bd.method).1
  have X0 : Stand p l e ({ frames := 1, cells := 0, slots := 0, locals := 12 } : Room) s m #[(.ref a1), (.int n1), (.int (1 : Int32))] below meth c s₁ [] 0 0 := Stand.of_body Bd
  have e0 : s₁.heap = h0 := by rw [← hh, Bd.state]; rfl
  have N0 := Fr.nil n0
  refine Gl.start (Q := Q_rmZ1 Z a1 n1 k1 u0 u1 u2 u3 h0 n0) (ef_rmZ1 m a1 n1) ?_
  show Gl p e below s _ _ _ s₁ (mkF m 0 #[.val (.ref a1), .val (.int n1), .val (.int (1 : Int32))] [])
  refine Gl.st (fun _ kk => XS.iloadN X0.here hx rfl (hb hby d12_0) rfl kk) ?_
  show Gl p e below s _ _ _ s₁ (mkF m 1 #[.val (.ref a1), .val (.int n1), .val (.int (1 : Int32))] [(.int (1 : Int32))])
  refine Gl.st (fun _ kk => XS.iloadN X0.here hx rfl (hb hby d12_1) rfl kk) ?_
  show Gl p e below s _ _ _ s₁ (mkF m 2 #[.val (.ref a1), .val (.int n1), .val (.int (1 : Int32))] [(.int n1), (.int (1 : Int32))])
  by_cases hc2 : (1 : Int32) < n1
  · skip
    refine Gl.st (fun _ kk => XS.icmpNo X0.here hx rfl (hb hby d12_2) rfl (tlt hc2).2.1 kk) ?_
    show Gl p e below s _ _ _ s₁ (mkF m 5 #[.val (.ref a1), .val (.int n1), .val (.int (1 : Int32))] [])
    refine Gl.st (fun _ kk => XS.aloadN X0.here hx rfl (hb hby d12_5) rfl rfl kk) ?_
    show Gl p e below s _ _ _ s₁ (mkF m 6 #[.val (.ref a1), .val (.int n1), .val (.int (1 : Int32))] [(.ref a1)])
    refine Gl.st (fun _ kk => XS.iloadN X0.here hx rfl (hb hby d12_6) rfl kk) ?_
    show Gl p e below s _ _ _ s₁ (mkF m 7 #[.val (.ref a1), .val (.int n1), .val (.int (1 : Int32))] [(.int (1 : Int32)), (.ref a1)])
    obtain ⟨cl1, Ar1, q1, Sz1, Ng1, Ha1, Fi1⟩ := id Arv_a1
    have hin1 : ¬ ((1 : Int32) < 0 ∨ cl1.slots.size ≤ ((1 : Int32)).toNatClampNeg) := inb_of Sz1 ⟨by decide, by decide⟩
    have hat1 : cl1.slots[((1 : Int32)).toNatClampNeg]? = some (.int u1) := Ha1.at hin1 rfl
    refine Gl.st (fun _ kk => X0.caload hx (j := (1 : Int32)) (v := (.int u1)) (by rw [e0]; exact Ar1.1) (State.isArrayOf_alike hZ.alike Ar1.2.1) Ar1.2.2 hin1 hat1 (g := (mkF m 7 #[.val (.ref a1), .val (.int n1), .val (.int (1 : Int32))] [(.int (1 : Int32)), (.ref a1)])) rfl rfl (hb hby d12_7) _ kk) ?_
    show Gl p e below s _ _ _ s₁ (mkF m 8 #[.val (.ref a1), .val (.int n1), .val (.int (1 : Int32))] [(.int u1)])
    obtain ⟨v2, _, ⟨T2, L2, kQ2, nQ2⟩, -, X2, ⟨Lc2, hQ2, l2, y2, z2⟩, st2⟩ := Jvm.LawKit.callS X0 hx (y := (⟨"com/example/concurrency_quota/concurrencyquota/ServiceRequestTrimWhitespacePinLaw", "ws", "(C)Z"⟩ : MethodName)) hown (mvT hZ (hw _ (List.mem_of_getElem? (i := 121) rfl))) (mvT hZ (hw _ (List.mem_of_getElem? (i := 122) rfl))) (mvT hZ (hw _ (List.mem_of_getElem? (i := 4) rfl))) (mvT hZ (hw _ (List.mem_of_getElem? (i := 123) rfl))) (by decide) (backOf (W := 0) (rmW1 l Z a0 hw [] u1 h0 n0 O0 (hz hc2)) hZ (hw _ (List.mem_of_getElem? (i := 123) rfl)) (hw _ (List.mem_of_getElem? (i := 4) rfl)) (by decide) (by decide)) (g := (mkF m 8 #[.val (.ref a1), .val (.int n1), .val (.int (1 : Int32))] [(.int u1)])) rfl (by rw [hml]; rfl) (argsL := [(.int u1)]) (rest := []) (lenOf pd_rmZ1_0 rfl) rfl (by show 2 * 0 + _ ≤ _; exact Nat.le_of_eq rfl) (hb hby d12_8) (fun _ _ => ⟨rfl, e0, (by decide : 0 + 0 ≤ _), (by decide : 0 + 0 ≤ _)⟩)
    dsimp only [Pt.U, Pt.locs, Pt.cells, Pt.slots] at X2 l2 y2 z2 st2 hQ2
    subst y2 z2
    obtain ⟨rfl, Nq2, e2⟩ := hQ2
    have N2 : Fr n0 L2 := l2 ▸ Fr.app N0 Nq2
    refine Gl.st st2 ?_
    clear st2
    show Gl p e below s _ _ _ T2 (mkF m 11 #[.val (.ref a1), .val (.int n1), .val (.int (1 : Int32))] [(.int (1 : Int32))])
    refine Gl.st (fun _ kk => XS.ifYes X2.here hx rfl (pc0 := 11) (pc' := 18) rfl (hb hby d12_11) rfl ((if0 _ _).trans (feq (by decide : ¬ ((1 : Int32) = (0 : Int32)))).2) (by decide) (by decide) kk) ?_
    show Gl p e below s _ _ _ T2 (mkF m 18 #[.val (.ref a1), .val (.int n1), .val (.int (1 : Int32))] [])
    refine Gl.st (fun _ kk => XS.iconst X2.here hx rfl (hb hby d12_18) kk) ?_
    show Gl p e below s _ _ _ T2 (mkF m 19 #[.val (.ref a1), .val (.int n1), .val (.int (1 : Int32))] [(.int (0 : Int32))])
    exact Gl.ret X2 (v := (some (.int (0 : Int32)))) (fun h => by rw [Bd.returns] at h; cases h) (BodyLoose.notSynchronized Bd) (fun hr => retN X2 hx (t := .boolean) Bd.returns (by simp) (hb hby d12_19) hr) e2 ⟨rfl, N2, rfl⟩ (by decide) (by decide)
  · skip
    refine Gl.st (fun _ kk => XS.icmpYes X0.here hx rfl (pc0 := 2) (pc' := 18) rfl (hb hby d12_2) rfl (flt hc2).2.1 (by decide) (by decide) kk) ?_
    show Gl p e below s _ _ _ s₁ (mkF m 18 #[.val (.ref a1), .val (.int n1), .val (.int (1 : Int32))] [])
    refine Gl.st (fun _ kk => XS.iconst X0.here hx rfl (hb hby d12_18) kk) ?_
    show Gl p e below s _ _ _ s₁ (mkF m 19 #[.val (.ref a1), .val (.int n1), .val (.int (1 : Int32))] [(.int (0 : Int32))])
    exact Gl.ret X0 (v := (some (.int (0 : Int32)))) (fun h => by rw [Bd.returns] at h; cases h) (BodyLoose.notSynchronized Bd) (fun hr => retN X0 hx (t := .boolean) Bd.returns (by simp) (hb hby d12_19) hr) e0 ⟨rfl, N0, rfl⟩ (by decide) (by decide)
theorem pd_rmY2_0 : parseMethodDescriptor "(C)Z" = some ⟨[.char], some .boolean⟩ := by decide +kernel
theorem pn_rmY2 : plainName "com/example/concurrency_quota/concurrencyquota/ServiceRequestTrimWhitespacePinLaw" = true := by first | (simp [plainName, overriddenIn]; done) | decide +kernel
theorem ef_rmY2 (m : MethodId) (a1 : Addr) (n1 : Int32) : entryFrame m #[(.ref a1), (.int n1), (.int (2 : Int32))] 3 = mkF m 0 #[.val (.ref a1), .val (.int n1), .val (.int (2 : Int32))] [] := by first | (simp [entryFrame, mkF, argsToLocals, Value.category]; done) | rfl
def Q_rmY2 (Z : State) (a1 : Addr) (n1 : Int32) (k1 : ClassId) (u0 u1 u2 u3 : Int32) (h0 : Heap) (n0 : Nat) (v : Option Value) (h : Heap) (L : List Loc) : Prop := v = some (.int 1) ∧ Fr n0 L ∧ h = h0
set_option maxRecDepth 65536 in
set_option maxHeartbeats 40000000 in
theorem rmY2 (l : Launch) (Z : State) (a0 : Array Value) (hw : ∀ d ∈ tables_1, d.before a0 Z = true) (ws : List Jvm.Cond) (a1 : Addr) (n1 : Int32) (k1 : ClassId) (u0 u1 u2 u3 : Int32) (h0 : Heap) (n0 : Nat) (O0 : Old Z n0 h0) (Arv_a1 : Arv Z h0 a1 k1 .char 4 [(.int u0), (.int u1), (.int u2), (.int u3)] (.int 0)) (hlt : (2 : Int32) < n1) (hq : ¬ own_ws u2) :
    MetFree l (⟨"com/example/concurrency_quota/concurrencyquota/ServiceRequestTrimWhitespacePinLaw", "solid", "([CII)Z"⟩ : MethodName) (head1 (Jvm.Cond.code (⟨"com/example/concurrency_quota/concurrencyquota/ServiceRequestTrimWhitespacePinLaw", "solid", "([CII)Z"⟩ : MethodName) method_4_code 3 (some .boolean) :: ws) ({ frames := 1, cells := 0, slots := 0, locals := 12 } : Room)) (fun a U => a = #[(.ref a1), (.int n1), (.int (2 : Int32))] ∧ Z.Warmed39 U.vm ∧ U.heap = h0) (fun _ _ _ _ _ => True) (fun _ U o U' => ∃ v L, o = .returned v ∧ Q_rmY2 Z a1 n1 k1 u0 u1 u2 u3 h0 n0 v U'.heap L ∧ FrameEnd U o U' L ({ frames := 1, cells := 0, slots := 0, locals := 12 } : Room).cells ({ frames := 1, cells := 0, slots := 0, locals := 12 } : Room).slots) := by
  refine MetFree.of_bodySF (plainFor_of_name pn_rmY2) hisR ?_
  intro p e s m args below meth c s₁ Bd hml0 hP hK
  obtain ⟨rfl, hZ, hh⟩ := hP
  have hx := Bd.exec
  have hby := Bd.bytes
  have hml : c.maxLocals = 3 := hml0
  have hown : s.vm.findClass "com/example/concurrency_quota/concurrencyquota/ServiceRequestTrimWhitespacePinLaw" = some m.cls := findClass_of_methodNamed Bd.named
  have hnm := (name_of_methodNamed Bd.named Bd.method).1
  have X0 : Stand p l e ({ frames := 1, cells := 0, slots := 0, locals := 12 } : Room) s m #[(.ref a1), (.int n1), (.int (2 : Int32))] below meth c s₁ [] 0 0 := Stand.of_body Bd
  have e0 : s₁.heap = h0 := by rw [← hh, Bd.state]; rfl
  have N0 := Fr.nil n0
  refine Gl.start (Q := Q_rmY2 Z a1 n1 k1 u0 u1 u2 u3 h0 n0) (ef_rmY2 m a1 n1) ?_
  show Gl p e below s _ _ _ s₁ (mkF m 0 #[.val (.ref a1), .val (.int n1), .val (.int (2 : Int32))] [])
  refine Gl.st (fun _ kk => XS.iloadN X0.here hx rfl (hb hby d12_0) rfl kk) ?_
  show Gl p e below s _ _ _ s₁ (mkF m 1 #[.val (.ref a1), .val (.int n1), .val (.int (2 : Int32))] [(.int (2 : Int32))])
  refine Gl.st (fun _ kk => XS.iloadN X0.here hx rfl (hb hby d12_1) rfl kk) ?_
  show Gl p e below s _ _ _ s₁ (mkF m 2 #[.val (.ref a1), .val (.int n1), .val (.int (2 : Int32))] [(.int n1), (.int (2 : Int32))])
  refine Gl.st (fun _ kk => XS.icmpNo X0.here hx rfl (hb hby d12_2) rfl (tlt hlt).2.1 kk) ?_
  show Gl p e below s _ _ _ s₁ (mkF m 5 #[.val (.ref a1), .val (.int n1), .val (.int (2 : Int32))] [])
  refine Gl.st (fun _ kk => XS.aloadN X0.here hx rfl (hb hby d12_5) rfl rfl kk) ?_
  show Gl p e below s _ _ _ s₁ (mkF m 6 #[.val (.ref a1), .val (.int n1), .val (.int (2 : Int32))] [(.ref a1)])
  refine Gl.st (fun _ kk => XS.iloadN X0.here hx rfl (hb hby d12_6) rfl kk) ?_
  show Gl p e below s _ _ _ s₁ (mkF m 7 #[.val (.ref a1), .val (.int n1), .val (.int (2 : Int32))] [(.int (2 : Int32)), (.ref a1)])
  obtain ⟨cl1, Ar1, q1, Sz1, Ng1, Ha1, Fi1⟩ := id Arv_a1
  have hin1 : ¬ ((2 : Int32) < 0 ∨ cl1.slots.size ≤ ((2 : Int32)).toNatClampNeg) := inb_of Sz1 ⟨by decide, by decide⟩
  have hat1 : cl1.slots[((2 : Int32)).toNatClampNeg]? = some (.int u2) := Ha1.at hin1 rfl
  refine Gl.st (fun _ kk => X0.caload hx (j := (2 : Int32)) (v := (.int u2)) (by rw [e0]; exact Ar1.1) (State.isArrayOf_alike hZ.alike Ar1.2.1) Ar1.2.2 hin1 hat1 (g := (mkF m 7 #[.val (.ref a1), .val (.int n1), .val (.int (2 : Int32))] [(.int (2 : Int32)), (.ref a1)])) rfl rfl (hb hby d12_7) _ kk) ?_
  show Gl p e below s _ _ _ s₁ (mkF m 8 #[.val (.ref a1), .val (.int n1), .val (.int (2 : Int32))] [(.int u2)])
  obtain ⟨v2, _, ⟨T2, L2, kQ2, nQ2⟩, -, X2, ⟨Lc2, hQ2, l2, y2, z2⟩, st2⟩ := Jvm.LawKit.callS X0 hx (y := (⟨"com/example/concurrency_quota/concurrencyquota/ServiceRequestTrimWhitespacePinLaw", "ws", "(C)Z"⟩ : MethodName)) hown (mvT hZ (hw _ (List.mem_of_getElem? (i := 121) rfl))) (mvT hZ (hw _ (List.mem_of_getElem? (i := 122) rfl))) (mvT hZ (hw _ (List.mem_of_getElem? (i := 4) rfl))) (mvT hZ (hw _ (List.mem_of_getElem? (i := 123) rfl))) (by decide) (backOf (W := 0) (rmW0 l Z a0 hw [] u2 h0 n0 O0 hq) hZ (hw _ (List.mem_of_getElem? (i := 123) rfl)) (hw _ (List.mem_of_getElem? (i := 4) rfl)) (by decide) (by decide)) (g := (mkF m 8 #[.val (.ref a1), .val (.int n1), .val (.int (2 : Int32))] [(.int u2)])) rfl (by rw [hml]; rfl) (argsL := [(.int u2)]) (rest := []) (lenOf pd_rmY2_0 rfl) rfl (by show 2 * 0 + _ ≤ _; exact Nat.le_of_eq rfl) (hb hby d12_8) (fun _ _ => ⟨rfl, e0, (by decide : 0 + 0 ≤ _), (by decide : 0 + 0 ≤ _)⟩)
  dsimp only [Pt.U, Pt.locs, Pt.cells, Pt.slots] at X2 l2 y2 z2 st2 hQ2
  subst y2 z2
  obtain ⟨rfl, Nq2, e2⟩ := hQ2
  have N2 : Fr n0 L2 := l2 ▸ Fr.app N0 Nq2
  refine Gl.st st2 ?_
  clear st2
  show Gl p e below s _ _ _ T2 (mkF m 11 #[.val (.ref a1), .val (.int n1), .val (.int (2 : Int32))] [(.int (0 : Int32))])
  refine Gl.st (fun _ kk => XS.ifNo X2.here hx rfl (hb hby d12_11) rfl ((if0 _ _).trans (teq (by decide : (0 : Int32) = (0 : Int32))).2) kk) ?_
  show Gl p e below s _ _ _ T2 (mkF m 14 #[.val (.ref a1), .val (.int n1), .val (.int (2 : Int32))] [])
  refine Gl.st (fun _ kk => XS.iconst X2.here hx rfl (hb hby d12_14) kk) ?_
  show Gl p e below s _ _ _ T2 (mkF m 15 #[.val (.ref a1), .val (.int n1), .val (.int (2 : Int32))] [(.int (1 : Int32))])
  refine Gl.st (fun _ kk => XS.goto X2.here hx rfl (pc0 := 15) (pc' := 19) rfl (hb hby d12_15) (by decide) (by decide) kk) ?_
  show Gl p e below s _ _ _ T2 (mkF m 19 #[.val (.ref a1), .val (.int n1), .val (.int (2 : Int32))] [(.int (1 : Int32))])
  exact Gl.ret X2 (v := (some (.int (1 : Int32)))) (fun h => by rw [Bd.returns] at h; cases h) (BodyLoose.notSynchronized Bd) (fun hr => retN X2 hx (t := .boolean) Bd.returns (by simp) (hb hby d12_19) hr) e2 ⟨rfl, N2, rfl⟩ (by decide) (by decide)
theorem pd_rmZ2_0 : parseMethodDescriptor "(C)Z" = some ⟨[.char], some .boolean⟩ := by decide +kernel
theorem pn_rmZ2 : plainName "com/example/concurrency_quota/concurrencyquota/ServiceRequestTrimWhitespacePinLaw" = true := by first | (simp [plainName, overriddenIn]; done) | decide +kernel
theorem ef_rmZ2 (m : MethodId) (a1 : Addr) (n1 : Int32) : entryFrame m #[(.ref a1), (.int n1), (.int (2 : Int32))] 3 = mkF m 0 #[.val (.ref a1), .val (.int n1), .val (.int (2 : Int32))] [] := by first | (simp [entryFrame, mkF, argsToLocals, Value.category]; done) | rfl
def Q_rmZ2 (Z : State) (a1 : Addr) (n1 : Int32) (k1 : ClassId) (u0 u1 u2 u3 : Int32) (h0 : Heap) (n0 : Nat) (v : Option Value) (h : Heap) (L : List Loc) : Prop := v = some (.int 0) ∧ Fr n0 L ∧ h = h0
set_option maxRecDepth 65536 in
set_option maxHeartbeats 40000000 in
theorem rmZ2 (l : Launch) (Z : State) (a0 : Array Value) (hw : ∀ d ∈ tables_1, d.before a0 Z = true) (ws : List Jvm.Cond) (a1 : Addr) (n1 : Int32) (k1 : ClassId) (u0 u1 u2 u3 : Int32) (h0 : Heap) (n0 : Nat) (O0 : Old Z n0 h0) (Arv_a1 : Arv Z h0 a1 k1 .char 4 [(.int u0), (.int u1), (.int u2), (.int u3)] (.int 0)) (hz : (2 : Int32) < n1 → own_ws u2) :
    MetFree l (⟨"com/example/concurrency_quota/concurrencyquota/ServiceRequestTrimWhitespacePinLaw", "solid", "([CII)Z"⟩ : MethodName) (head1 (Jvm.Cond.code (⟨"com/example/concurrency_quota/concurrencyquota/ServiceRequestTrimWhitespacePinLaw", "solid", "([CII)Z"⟩ : MethodName) method_4_code 3 (some .boolean) :: ws) ({ frames := 1, cells := 0, slots := 0, locals := 12 } : Room)) (fun a U => a = #[(.ref a1), (.int n1), (.int (2 : Int32))] ∧ Z.Warmed39 U.vm ∧ U.heap = h0) (fun _ _ _ _ _ => True) (fun _ U o U' => ∃ v L, o = .returned v ∧ Q_rmZ2 Z a1 n1 k1 u0 u1 u2 u3 h0 n0 v U'.heap L ∧ FrameEnd U o U' L ({ frames := 1, cells := 0, slots := 0, locals := 12 } : Room).cells ({ frames := 1, cells := 0, slots := 0, locals := 12 } : Room).slots) := by
  refine MetFree.of_bodySF (plainFor_of_name pn_rmZ2) hisR ?_
  intro p e s m args below meth c s₁ Bd hml0 hP hK
  obtain ⟨rfl, hZ, hh⟩ := hP
  have hx := Bd.exec
  have hby := Bd.bytes
  have hml : c.maxLocals = 3 := hml0
  have hown : s.vm.findClass "com/example/concurrency_quota/concurrencyquota/ServiceRequestTrimWhitespacePinLaw" = some m.cls := findClass_of_methodNamed Bd.named
  have hnm := (name_of_methodNamed Bd.named Bd.method).1
  have X0 : Stand p l e ({ frames := 1, cells := 0, slots := 0, locals := 12 } : Room) s m #[(.ref a1), (.int n1), (.int (2 : Int32))] below meth c s₁ [] 0 0 := Stand.of_body Bd
  have e0 : s₁.heap = h0 := by rw [← hh, Bd.state]; rfl
  have N0 := Fr.nil n0
  refine Gl.start (Q := Q_rmZ2 Z a1 n1 k1 u0 u1 u2 u3 h0 n0) (ef_rmZ2 m a1 n1) ?_
  show Gl p e below s _ _ _ s₁ (mkF m 0 #[.val (.ref a1), .val (.int n1), .val (.int (2 : Int32))] [])
  refine Gl.st (fun _ kk => XS.iloadN X0.here hx rfl (hb hby d12_0) rfl kk) ?_
  show Gl p e below s _ _ _ s₁ (mkF m 1 #[.val (.ref a1), .val (.int n1), .val (.int (2 : Int32))] [(.int (2 : Int32))])
  refine Gl.st (fun _ kk => XS.iloadN X0.here hx rfl (hb hby d12_1) rfl kk) ?_
  show Gl p e below s _ _ _ s₁ (mkF m 2 #[.val (.ref a1), .val (.int n1), .val (.int (2 : Int32))] [(.int n1), (.int (2 : Int32))])
  by_cases hc2 : (2 : Int32) < n1
  · skip
    refine Gl.st (fun _ kk => XS.icmpNo X0.here hx rfl (hb hby d12_2) rfl (tlt hc2).2.1 kk) ?_
    show Gl p e below s _ _ _ s₁ (mkF m 5 #[.val (.ref a1), .val (.int n1), .val (.int (2 : Int32))] [])
    refine Gl.st (fun _ kk => XS.aloadN X0.here hx rfl (hb hby d12_5) rfl rfl kk) ?_
    show Gl p e below s _ _ _ s₁ (mkF m 6 #[.val (.ref a1), .val (.int n1), .val (.int (2 : Int32))] [(.ref a1)])
    refine Gl.st (fun _ kk => XS.iloadN X0.here hx rfl (hb hby d12_6) rfl kk) ?_
    show Gl p e below s _ _ _ s₁ (mkF m 7 #[.val (.ref a1), .val (.int n1), .val (.int (2 : Int32))] [(.int (2 : Int32)), (.ref a1)])
    obtain ⟨cl1, Ar1, q1, Sz1, Ng1, Ha1, Fi1⟩ := id Arv_a1
    have hin1 : ¬ ((2 : Int32) < 0 ∨ cl1.slots.size ≤ ((2 : Int32)).toNatClampNeg) := inb_of Sz1 ⟨by decide, by decide⟩
    have hat1 : cl1.slots[((2 : Int32)).toNatClampNeg]? = some (.int u2) := Ha1.at hin1 rfl
    refine Gl.st (fun _ kk => X0.caload hx (j := (2 : Int32)) (v := (.int u2)) (by rw [e0]; exact Ar1.1) (State.isArrayOf_alike hZ.alike Ar1.2.1) Ar1.2.2 hin1 hat1 (g := (mkF m 7 #[.val (.ref a1), .val (.int n1), .val (.int (2 : Int32))] [(.int (2 : Int32)), (.ref a1)])) rfl rfl (hb hby d12_7) _ kk) ?_
    show Gl p e below s _ _ _ s₁ (mkF m 8 #[.val (.ref a1), .val (.int n1), .val (.int (2 : Int32))] [(.int u2)])
    obtain ⟨v2, _, ⟨T2, L2, kQ2, nQ2⟩, -, X2, ⟨Lc2, hQ2, l2, y2, z2⟩, st2⟩ := Jvm.LawKit.callS X0 hx (y := (⟨"com/example/concurrency_quota/concurrencyquota/ServiceRequestTrimWhitespacePinLaw", "ws", "(C)Z"⟩ : MethodName)) hown (mvT hZ (hw _ (List.mem_of_getElem? (i := 121) rfl))) (mvT hZ (hw _ (List.mem_of_getElem? (i := 122) rfl))) (mvT hZ (hw _ (List.mem_of_getElem? (i := 4) rfl))) (mvT hZ (hw _ (List.mem_of_getElem? (i := 123) rfl))) (by decide) (backOf (W := 0) (rmW1 l Z a0 hw [] u2 h0 n0 O0 (hz hc2)) hZ (hw _ (List.mem_of_getElem? (i := 123) rfl)) (hw _ (List.mem_of_getElem? (i := 4) rfl)) (by decide) (by decide)) (g := (mkF m 8 #[.val (.ref a1), .val (.int n1), .val (.int (2 : Int32))] [(.int u2)])) rfl (by rw [hml]; rfl) (argsL := [(.int u2)]) (rest := []) (lenOf pd_rmZ2_0 rfl) rfl (by show 2 * 0 + _ ≤ _; exact Nat.le_of_eq rfl) (hb hby d12_8) (fun _ _ => ⟨rfl, e0, (by decide : 0 + 0 ≤ _), (by decide : 0 + 0 ≤ _)⟩)
    dsimp only [Pt.U, Pt.locs, Pt.cells, Pt.slots] at X2 l2 y2 z2 st2 hQ2
    subst y2 z2
    obtain ⟨rfl, Nq2, e2⟩ := hQ2
    have N2 : Fr n0 L2 := l2 ▸ Fr.app N0 Nq2
    refine Gl.st st2 ?_
    clear st2
    show Gl p e below s _ _ _ T2 (mkF m 11 #[.val (.ref a1), .val (.int n1), .val (.int (2 : Int32))] [(.int (1 : Int32))])
    refine Gl.st (fun _ kk => XS.ifYes X2.here hx rfl (pc0 := 11) (pc' := 18) rfl (hb hby d12_11) rfl ((if0 _ _).trans (feq (by decide : ¬ ((1 : Int32) = (0 : Int32)))).2) (by decide) (by decide) kk) ?_
    show Gl p e below s _ _ _ T2 (mkF m 18 #[.val (.ref a1), .val (.int n1), .val (.int (2 : Int32))] [])
    refine Gl.st (fun _ kk => XS.iconst X2.here hx rfl (hb hby d12_18) kk) ?_
    show Gl p e below s _ _ _ T2 (mkF m 19 #[.val (.ref a1), .val (.int n1), .val (.int (2 : Int32))] [(.int (0 : Int32))])
    exact Gl.ret X2 (v := (some (.int (0 : Int32)))) (fun h => by rw [Bd.returns] at h; cases h) (BodyLoose.notSynchronized Bd) (fun hr => retN X2 hx (t := .boolean) Bd.returns (by simp) (hb hby d12_19) hr) e2 ⟨rfl, N2, rfl⟩ (by decide) (by decide)
  · skip
    refine Gl.st (fun _ kk => XS.icmpYes X0.here hx rfl (pc0 := 2) (pc' := 18) rfl (hb hby d12_2) rfl (flt hc2).2.1 (by decide) (by decide) kk) ?_
    show Gl p e below s _ _ _ s₁ (mkF m 18 #[.val (.ref a1), .val (.int n1), .val (.int (2 : Int32))] [])
    refine Gl.st (fun _ kk => XS.iconst X0.here hx rfl (hb hby d12_18) kk) ?_
    show Gl p e below s _ _ _ s₁ (mkF m 19 #[.val (.ref a1), .val (.int n1), .val (.int (2 : Int32))] [(.int (0 : Int32))])
    exact Gl.ret X0 (v := (some (.int (0 : Int32)))) (fun h => by rw [Bd.returns] at h; cases h) (BodyLoose.notSynchronized Bd) (fun hr => retN X0 hx (t := .boolean) Bd.returns (by simp) (hb hby d12_19) hr) e0 ⟨rfl, N0, rfl⟩ (by decide) (by decide)
theorem pd_rmY3_0 : parseMethodDescriptor "(C)Z" = some ⟨[.char], some .boolean⟩ := by decide +kernel
theorem pn_rmY3 : plainName "com/example/concurrency_quota/concurrencyquota/ServiceRequestTrimWhitespacePinLaw" = true := by first | (simp [plainName, overriddenIn]; done) | decide +kernel
theorem ef_rmY3 (m : MethodId) (a1 : Addr) (n1 : Int32) : entryFrame m #[(.ref a1), (.int n1), (.int (3 : Int32))] 3 = mkF m 0 #[.val (.ref a1), .val (.int n1), .val (.int (3 : Int32))] [] := by first | (simp [entryFrame, mkF, argsToLocals, Value.category]; done) | rfl
def Q_rmY3 (Z : State) (a1 : Addr) (n1 : Int32) (k1 : ClassId) (u0 u1 u2 u3 : Int32) (h0 : Heap) (n0 : Nat) (v : Option Value) (h : Heap) (L : List Loc) : Prop := v = some (.int 1) ∧ Fr n0 L ∧ h = h0
set_option maxRecDepth 65536 in
set_option maxHeartbeats 40000000 in
theorem rmY3 (l : Launch) (Z : State) (a0 : Array Value) (hw : ∀ d ∈ tables_1, d.before a0 Z = true) (ws : List Jvm.Cond) (a1 : Addr) (n1 : Int32) (k1 : ClassId) (u0 u1 u2 u3 : Int32) (h0 : Heap) (n0 : Nat) (O0 : Old Z n0 h0) (Arv_a1 : Arv Z h0 a1 k1 .char 4 [(.int u0), (.int u1), (.int u2), (.int u3)] (.int 0)) (hlt : (3 : Int32) < n1) (hq : ¬ own_ws u3) :
    MetFree l (⟨"com/example/concurrency_quota/concurrencyquota/ServiceRequestTrimWhitespacePinLaw", "solid", "([CII)Z"⟩ : MethodName) (head1 (Jvm.Cond.code (⟨"com/example/concurrency_quota/concurrencyquota/ServiceRequestTrimWhitespacePinLaw", "solid", "([CII)Z"⟩ : MethodName) method_4_code 3 (some .boolean) :: ws) ({ frames := 1, cells := 0, slots := 0, locals := 12 } : Room)) (fun a U => a = #[(.ref a1), (.int n1), (.int (3 : Int32))] ∧ Z.Warmed39 U.vm ∧ U.heap = h0) (fun _ _ _ _ _ => True) (fun _ U o U' => ∃ v L, o = .returned v ∧ Q_rmY3 Z a1 n1 k1 u0 u1 u2 u3 h0 n0 v U'.heap L ∧ FrameEnd U o U' L ({ frames := 1, cells := 0, slots := 0, locals := 12 } : Room).cells ({ frames := 1, cells := 0, slots := 0, locals := 12 } : Room).slots) := by
  refine MetFree.of_bodySF (plainFor_of_name pn_rmY3) hisR ?_
  intro p e s m args below meth c s₁ Bd hml0 hP hK
  obtain ⟨rfl, hZ, hh⟩ := hP
  have hx := Bd.exec
  have hby := Bd.bytes
  have hml : c.maxLocals = 3 := hml0
  have hown : s.vm.findClass "com/example/concurrency_quota/concurrencyquota/ServiceRequestTrimWhitespacePinLaw" = some m.cls := findClass_of_methodNamed Bd.named
  have hnm := (name_of_methodNamed Bd.named Bd.method).1
  have X0 : Stand p l e ({ frames := 1, cells := 0, slots := 0, locals := 12 } : Room) s m #[(.ref a1), (.int n1), (.int (3 : Int32))] below meth c s₁ [] 0 0 := Stand.of_body Bd
  have e0 : s₁.heap = h0 := by rw [← hh, Bd.state]; rfl
  have N0 := Fr.nil n0
  refine Gl.start (Q := Q_rmY3 Z a1 n1 k1 u0 u1 u2 u3 h0 n0) (ef_rmY3 m a1 n1) ?_
  show Gl p e below s _ _ _ s₁ (mkF m 0 #[.val (.ref a1), .val (.int n1), .val (.int (3 : Int32))] [])
  refine Gl.st (fun _ kk => XS.iloadN X0.here hx rfl (hb hby d12_0) rfl kk) ?_
  show Gl p e below s _ _ _ s₁ (mkF m 1 #[.val (.ref a1), .val (.int n1), .val (.int (3 : Int32))] [(.int (3 : Int32))])
  refine Gl.st (fun _ kk => XS.iloadN X0.here hx rfl (hb hby d12_1) rfl kk) ?_
  show Gl p e below s _ _ _ s₁ (mkF m 2 #[.val (.ref a1), .val (.int n1), .val (.int (3 : Int32))] [(.int n1), (.int (3 : Int32))])
  refine Gl.st (fun _ kk => XS.icmpNo X0.here hx rfl (hb hby d12_2) rfl (tlt hlt).2.1 kk) ?_
  show Gl p e below s _ _ _ s₁ (mkF m 5 #[.val (.ref a1), .val (.int n1), .val (.int (3 : Int32))] [])
  refine Gl.st (fun _ kk => XS.aloadN X0.here hx rfl (hb hby d12_5) rfl rfl kk) ?_
  show Gl p e below s _ _ _ s₁ (mkF m 6 #[.val (.ref a1), .val (.int n1), .val (.int (3 : Int32))] [(.ref a1)])
  refine Gl.st (fun _ kk => XS.iloadN X0.here hx rfl (hb hby d12_6) rfl kk) ?_
  show Gl p e below s _ _ _ s₁ (mkF m 7 #[.val (.ref a1), .val (.int n1), .val (.int (3 : Int32))] [(.int (3 : Int32)), (.ref a1)])
  obtain ⟨cl1, Ar1, q1, Sz1, Ng1, Ha1, Fi1⟩ := id Arv_a1
  have hin1 : ¬ ((3 : Int32) < 0 ∨ cl1.slots.size ≤ ((3 : Int32)).toNatClampNeg) := inb_of Sz1 ⟨by decide, by decide⟩
  have hat1 : cl1.slots[((3 : Int32)).toNatClampNeg]? = some (.int u3) := Ha1.at hin1 rfl
  refine Gl.st (fun _ kk => X0.caload hx (j := (3 : Int32)) (v := (.int u3)) (by rw [e0]; exact Ar1.1) (State.isArrayOf_alike hZ.alike Ar1.2.1) Ar1.2.2 hin1 hat1 (g := (mkF m 7 #[.val (.ref a1), .val (.int n1), .val (.int (3 : Int32))] [(.int (3 : Int32)), (.ref a1)])) rfl rfl (hb hby d12_7) _ kk) ?_
  show Gl p e below s _ _ _ s₁ (mkF m 8 #[.val (.ref a1), .val (.int n1), .val (.int (3 : Int32))] [(.int u3)])
  obtain ⟨v2, _, ⟨T2, L2, kQ2, nQ2⟩, -, X2, ⟨Lc2, hQ2, l2, y2, z2⟩, st2⟩ := Jvm.LawKit.callS X0 hx (y := (⟨"com/example/concurrency_quota/concurrencyquota/ServiceRequestTrimWhitespacePinLaw", "ws", "(C)Z"⟩ : MethodName)) hown (mvT hZ (hw _ (List.mem_of_getElem? (i := 121) rfl))) (mvT hZ (hw _ (List.mem_of_getElem? (i := 122) rfl))) (mvT hZ (hw _ (List.mem_of_getElem? (i := 4) rfl))) (mvT hZ (hw _ (List.mem_of_getElem? (i := 123) rfl))) (by decide) (backOf (W := 0) (rmW0 l Z a0 hw [] u3 h0 n0 O0 hq) hZ (hw _ (List.mem_of_getElem? (i := 123) rfl)) (hw _ (List.mem_of_getElem? (i := 4) rfl)) (by decide) (by decide)) (g := (mkF m 8 #[.val (.ref a1), .val (.int n1), .val (.int (3 : Int32))] [(.int u3)])) rfl (by rw [hml]; rfl) (argsL := [(.int u3)]) (rest := []) (lenOf pd_rmY3_0 rfl) rfl (by show 2 * 0 + _ ≤ _; exact Nat.le_of_eq rfl) (hb hby d12_8) (fun _ _ => ⟨rfl, e0, (by decide : 0 + 0 ≤ _), (by decide : 0 + 0 ≤ _)⟩)
  dsimp only [Pt.U, Pt.locs, Pt.cells, Pt.slots] at X2 l2 y2 z2 st2 hQ2
  subst y2 z2
  obtain ⟨rfl, Nq2, e2⟩ := hQ2
  have N2 : Fr n0 L2 := l2 ▸ Fr.app N0 Nq2
  refine Gl.st st2 ?_
  clear st2
  show Gl p e below s _ _ _ T2 (mkF m 11 #[.val (.ref a1), .val (.int n1), .val (.int (3 : Int32))] [(.int (0 : Int32))])
  refine Gl.st (fun _ kk => XS.ifNo X2.here hx rfl (hb hby d12_11) rfl ((if0 _ _).trans (teq (by decide : (0 : Int32) = (0 : Int32))).2) kk) ?_
  show Gl p e below s _ _ _ T2 (mkF m 14 #[.val (.ref a1), .val (.int n1), .val (.int (3 : Int32))] [])
  refine Gl.st (fun _ kk => XS.iconst X2.here hx rfl (hb hby d12_14) kk) ?_
  show Gl p e below s _ _ _ T2 (mkF m 15 #[.val (.ref a1), .val (.int n1), .val (.int (3 : Int32))] [(.int (1 : Int32))])
  refine Gl.st (fun _ kk => XS.goto X2.here hx rfl (pc0 := 15) (pc' := 19) rfl (hb hby d12_15) (by decide) (by decide) kk) ?_
  show Gl p e below s _ _ _ T2 (mkF m 19 #[.val (.ref a1), .val (.int n1), .val (.int (3 : Int32))] [(.int (1 : Int32))])
  exact Gl.ret X2 (v := (some (.int (1 : Int32)))) (fun h => by rw [Bd.returns] at h; cases h) (BodyLoose.notSynchronized Bd) (fun hr => retN X2 hx (t := .boolean) Bd.returns (by simp) (hb hby d12_19) hr) e2 ⟨rfl, N2, rfl⟩ (by decide) (by decide)
theorem pd_rmZ3_0 : parseMethodDescriptor "(C)Z" = some ⟨[.char], some .boolean⟩ := by decide +kernel
theorem pn_rmZ3 : plainName "com/example/concurrency_quota/concurrencyquota/ServiceRequestTrimWhitespacePinLaw" = true := by first | (simp [plainName, overriddenIn]; done) | decide +kernel
theorem ef_rmZ3 (m : MethodId) (a1 : Addr) (n1 : Int32) : entryFrame m #[(.ref a1), (.int n1), (.int (3 : Int32))] 3 = mkF m 0 #[.val (.ref a1), .val (.int n1), .val (.int (3 : Int32))] [] := by first | (simp [entryFrame, mkF, argsToLocals, Value.category]; done) | rfl
def Q_rmZ3 (Z : State) (a1 : Addr) (n1 : Int32) (k1 : ClassId) (u0 u1 u2 u3 : Int32) (h0 : Heap) (n0 : Nat) (v : Option Value) (h : Heap) (L : List Loc) : Prop := v = some (.int 0) ∧ Fr n0 L ∧ h = h0
set_option maxRecDepth 65536 in
set_option maxHeartbeats 40000000 in
theorem rmZ3 (l : Launch) (Z : State) (a0 : Array Value) (hw : ∀ d ∈ tables_1, d.before a0 Z = true) (ws : List Jvm.Cond) (a1 : Addr) (n1 : Int32) (k1 : ClassId) (u0 u1 u2 u3 : Int32) (h0 : Heap) (n0 : Nat) (O0 : Old Z n0 h0) (Arv_a1 : Arv Z h0 a1 k1 .char 4 [(.int u0), (.int u1), (.int u2), (.int u3)] (.int 0)) (hz : (3 : Int32) < n1 → own_ws u3) :
    MetFree l (⟨"com/example/concurrency_quota/concurrencyquota/ServiceRequestTrimWhitespacePinLaw", "solid", "([CII)Z"⟩ : MethodName) (head1 (Jvm.Cond.code (⟨"com/example/concurrency_quota/concurrencyquota/ServiceRequestTrimWhitespacePinLaw", "solid", "([CII)Z"⟩ : MethodName) method_4_code 3 (some .boolean) :: ws) ({ frames := 1, cells := 0, slots := 0, locals := 12 } : Room)) (fun a U => a = #[(.ref a1), (.int n1), (.int (3 : Int32))] ∧ Z.Warmed39 U.vm ∧ U.heap = h0) (fun _ _ _ _ _ => True) (fun _ U o U' => ∃ v L, o = .returned v ∧ Q_rmZ3 Z a1 n1 k1 u0 u1 u2 u3 h0 n0 v U'.heap L ∧ FrameEnd U o U' L ({ frames := 1, cells := 0, slots := 0, locals := 12 } : Room).cells ({ frames := 1, cells := 0, slots := 0, locals := 12 } : Room).slots) := by
  refine MetFree.of_bodySF (plainFor_of_name pn_rmZ3) hisR ?_
  intro p e s m args below meth c s₁ Bd hml0 hP hK
  obtain ⟨rfl, hZ, hh⟩ := hP
  have hx := Bd.exec
  have hby := Bd.bytes
  have hml : c.maxLocals = 3 := hml0
  have hown : s.vm.findClass "com/example/concurrency_quota/concurrencyquota/ServiceRequestTrimWhitespacePinLaw" = some m.cls := findClass_of_methodNamed Bd.named
  have hnm := (name_of_methodNamed Bd.named Bd.method).1
  have X0 : Stand p l e ({ frames := 1, cells := 0, slots := 0, locals := 12 } : Room) s m #[(.ref a1), (.int n1), (.int (3 : Int32))] below meth c s₁ [] 0 0 := Stand.of_body Bd
  have e0 : s₁.heap = h0 := by rw [← hh, Bd.state]; rfl
  have N0 := Fr.nil n0
  refine Gl.start (Q := Q_rmZ3 Z a1 n1 k1 u0 u1 u2 u3 h0 n0) (ef_rmZ3 m a1 n1) ?_
  show Gl p e below s _ _ _ s₁ (mkF m 0 #[.val (.ref a1), .val (.int n1), .val (.int (3 : Int32))] [])
  refine Gl.st (fun _ kk => XS.iloadN X0.here hx rfl (hb hby d12_0) rfl kk) ?_
  show Gl p e below s _ _ _ s₁ (mkF m 1 #[.val (.ref a1), .val (.int n1), .val (.int (3 : Int32))] [(.int (3 : Int32))])
  refine Gl.st (fun _ kk => XS.iloadN X0.here hx rfl (hb hby d12_1) rfl kk) ?_
  show Gl p e below s _ _ _ s₁ (mkF m 2 #[.val (.ref a1), .val (.int n1), .val (.int (3 : Int32))] [(.int n1), (.int (3 : Int32))])
  by_cases hc2 : (3 : Int32) < n1
  · skip
    refine Gl.st (fun _ kk => XS.icmpNo X0.here hx rfl (hb hby d12_2) rfl (tlt hc2).2.1 kk) ?_
    show Gl p e below s _ _ _ s₁ (mkF m 5 #[.val (.ref a1), .val (.int n1), .val (.int (3 : Int32))] [])
    refine Gl.st (fun _ kk => XS.aloadN X0.here hx rfl (hb hby d12_5) rfl rfl kk) ?_
    show Gl p e below s _ _ _ s₁ (mkF m 6 #[.val (.ref a1), .val (.int n1), .val (.int (3 : Int32))] [(.ref a1)])
    refine Gl.st (fun _ kk => XS.iloadN X0.here hx rfl (hb hby d12_6) rfl kk) ?_
    show Gl p e below s _ _ _ s₁ (mkF m 7 #[.val (.ref a1), .val (.int n1), .val (.int (3 : Int32))] [(.int (3 : Int32)), (.ref a1)])
    obtain ⟨cl1, Ar1, q1, Sz1, Ng1, Ha1, Fi1⟩ := id Arv_a1
    have hin1 : ¬ ((3 : Int32) < 0 ∨ cl1.slots.size ≤ ((3 : Int32)).toNatClampNeg) := inb_of Sz1 ⟨by decide, by decide⟩
    have hat1 : cl1.slots[((3 : Int32)).toNatClampNeg]? = some (.int u3) := Ha1.at hin1 rfl
    refine Gl.st (fun _ kk => X0.caload hx (j := (3 : Int32)) (v := (.int u3)) (by rw [e0]; exact Ar1.1) (State.isArrayOf_alike hZ.alike Ar1.2.1) Ar1.2.2 hin1 hat1 (g := (mkF m 7 #[.val (.ref a1), .val (.int n1), .val (.int (3 : Int32))] [(.int (3 : Int32)), (.ref a1)])) rfl rfl (hb hby d12_7) _ kk) ?_
    show Gl p e below s _ _ _ s₁ (mkF m 8 #[.val (.ref a1), .val (.int n1), .val (.int (3 : Int32))] [(.int u3)])
    obtain ⟨v2, _, ⟨T2, L2, kQ2, nQ2⟩, -, X2, ⟨Lc2, hQ2, l2, y2, z2⟩, st2⟩ := Jvm.LawKit.callS X0 hx (y := (⟨"com/example/concurrency_quota/concurrencyquota/ServiceRequestTrimWhitespacePinLaw", "ws", "(C)Z"⟩ : MethodName)) hown (mvT hZ (hw _ (List.mem_of_getElem? (i := 121) rfl))) (mvT hZ (hw _ (List.mem_of_getElem? (i := 122) rfl))) (mvT hZ (hw _ (List.mem_of_getElem? (i := 4) rfl))) (mvT hZ (hw _ (List.mem_of_getElem? (i := 123) rfl))) (by decide) (backOf (W := 0) (rmW1 l Z a0 hw [] u3 h0 n0 O0 (hz hc2)) hZ (hw _ (List.mem_of_getElem? (i := 123) rfl)) (hw _ (List.mem_of_getElem? (i := 4) rfl)) (by decide) (by decide)) (g := (mkF m 8 #[.val (.ref a1), .val (.int n1), .val (.int (3 : Int32))] [(.int u3)])) rfl (by rw [hml]; rfl) (argsL := [(.int u3)]) (rest := []) (lenOf pd_rmZ3_0 rfl) rfl (by show 2 * 0 + _ ≤ _; exact Nat.le_of_eq rfl) (hb hby d12_8) (fun _ _ => ⟨rfl, e0, (by decide : 0 + 0 ≤ _), (by decide : 0 + 0 ≤ _)⟩)
    dsimp only [Pt.U, Pt.locs, Pt.cells, Pt.slots] at X2 l2 y2 z2 st2 hQ2
    subst y2 z2
    obtain ⟨rfl, Nq2, e2⟩ := hQ2
    have N2 : Fr n0 L2 := l2 ▸ Fr.app N0 Nq2
    refine Gl.st st2 ?_
    clear st2
    show Gl p e below s _ _ _ T2 (mkF m 11 #[.val (.ref a1), .val (.int n1), .val (.int (3 : Int32))] [(.int (1 : Int32))])
    refine Gl.st (fun _ kk => XS.ifYes X2.here hx rfl (pc0 := 11) (pc' := 18) rfl (hb hby d12_11) rfl ((if0 _ _).trans (feq (by decide : ¬ ((1 : Int32) = (0 : Int32)))).2) (by decide) (by decide) kk) ?_
    show Gl p e below s _ _ _ T2 (mkF m 18 #[.val (.ref a1), .val (.int n1), .val (.int (3 : Int32))] [])
    refine Gl.st (fun _ kk => XS.iconst X2.here hx rfl (hb hby d12_18) kk) ?_
    show Gl p e below s _ _ _ T2 (mkF m 19 #[.val (.ref a1), .val (.int n1), .val (.int (3 : Int32))] [(.int (0 : Int32))])
    exact Gl.ret X2 (v := (some (.int (0 : Int32)))) (fun h => by rw [Bd.returns] at h; cases h) (BodyLoose.notSynchronized Bd) (fun hr => retN X2 hx (t := .boolean) Bd.returns (by simp) (hb hby d12_19) hr) e2 ⟨rfl, N2, rfl⟩ (by decide) (by decide)
  · skip
    refine Gl.st (fun _ kk => XS.icmpYes X0.here hx rfl (pc0 := 2) (pc' := 18) rfl (hb hby d12_2) rfl (flt hc2).2.1 (by decide) (by decide) kk) ?_
    show Gl p e below s _ _ _ s₁ (mkF m 18 #[.val (.ref a1), .val (.int n1), .val (.int (3 : Int32))] [])
    refine Gl.st (fun _ kk => XS.iconst X0.here hx rfl (hb hby d12_18) kk) ?_
    show Gl p e below s _ _ _ s₁ (mkF m 19 #[.val (.ref a1), .val (.int n1), .val (.int (3 : Int32))] [(.int (0 : Int32))])
    exact Gl.ret X0 (v := (some (.int (0 : Int32)))) (fun h => by rw [Bd.returns] at h; cases h) (BodyLoose.notSynchronized Bd) (fun hr => retN X0 hx (t := .boolean) Bd.returns (by simp) (hb hby d12_19) hr) e0 ⟨rfl, N0, rfl⟩ (by decide) (by decide)
theorem d2_0 : decode method_5_code 0 = .ok (.iload_n 0, 1) := by decide +kernel
theorem d2_1 : decode method_5_code 1 = .ok (.ifCond .ne 7, 3) := by decide +kernel
theorem d2_4 : decode method_5_code 4 = .ok (.iconst 0, 1) := by decide +kernel
theorem d2_5 : decode method_5_code 5 = .ok (.newarray .char, 2) := by decide +kernel
theorem d2_7 : decode method_5_code 7 = .ok (.areturn, 1) := by decide +kernel
theorem pn_rmMK0 : plainName "com/example/concurrency_quota/concurrencyquota/ServiceRequestTrimWhitespacePinLaw" = true := by first | (simp [plainName, overriddenIn]; done) | decide +kernel
theorem ef_rmMK0 (m : MethodId) (a1 : Addr) : entryFrame m #[(.int (0 : Int32)), (.ref a1)] 2 = mkF m 0 #[.val (.int (0 : Int32)), .val (.ref a1)] [] := by first | (simp [entryFrame, mkF, argsToLocals, Value.category]; done) | rfl
def Q_rmMK0 (Z : State) (a1 : Addr) (k1 : ClassId) (u0 u1 u2 u3 : Int32) (h0 : Heap) (n0 : Nat) (v : Option Value) (h : Heap) (L : List Loc) : Prop := ∃ (b : Addr) (k : ClassId), v = some (.ref b) ∧ Fr n0 L ∧ Keep h0 h [] ∧ Arv Z h b k .char (0 : Int32) [] (.int 0) ∧ h0.size ≤ b
set_option maxRecDepth 65536 in
set_option maxHeartbeats 40000000 in
theorem rmMK0 (l : Launch) (Z : State) (a0 : Array Value) (hw : ∀ d ∈ tables_1, d.before a0 Z = true) (ws : List Jvm.Cond) (a1 : Addr) (k1 : ClassId) (u0 u1 u2 u3 : Int32) (h0 : Heap) (n0 : Nat) (O0 : Old Z n0 h0) (Arv_a1 : Arv Z h0 a1 k1 .char 4 [(.int u0), (.int u1), (.int u2), (.int u3)] (.int 0)) (pk0 : nar .char u0 = u0) (pk1 : nar .char u1 = u1) (pk2 : nar .char u2 = u2) (pk3 : nar .char u3 = u3) :
    MetFree l (⟨"com/example/concurrency_quota/concurrencyquota/ServiceRequestTrimWhitespacePinLaw", "make", "(I[C)[C"⟩ : MethodName) (head1 (Jvm.Cond.code (⟨"com/example/concurrency_quota/concurrencyquota/ServiceRequestTrimWhitespacePinLaw", "make", "(I[C)[C"⟩ : MethodName) method_5_code 2 (some (.array .char)) :: ws) ({ frames := 0, cells := 1, slots := 0, locals := 0 } : Room)) (fun a U => a = #[(.int (0 : Int32)), (.ref a1)] ∧ Z.Warmed39 U.vm ∧ U.heap = h0) (fun _ _ _ _ _ => True) (fun _ U o U' => ∃ v L, o = .returned v ∧ Q_rmMK0 Z a1 k1 u0 u1 u2 u3 h0 n0 v U'.heap L ∧ FrameEnd U o U' L ({ frames := 0, cells := 1, slots := 0, locals := 0 } : Room).cells ({ frames := 0, cells := 1, slots := 0, locals := 0 } : Room).slots) := by
  refine MetFree.of_bodySF (plainFor_of_name pn_rmMK0) hisR ?_
  intro p e s m args below meth c s₁ Bd hml0 hP hK
  obtain ⟨rfl, hZ, hh⟩ := hP
  have hx := Bd.exec
  have hby := Bd.bytes
  have hml : c.maxLocals = 2 := hml0
  have hown : s.vm.findClass "com/example/concurrency_quota/concurrencyquota/ServiceRequestTrimWhitespacePinLaw" = some m.cls := findClass_of_methodNamed Bd.named
  have hnm := (name_of_methodNamed Bd.named Bd.method).1
  have X0 : Stand p l e ({ frames := 0, cells := 1, slots := 0, locals := 0 } : Room) s m #[(.int (0 : Int32)), (.ref a1)] below meth c s₁ [] 0 0 := Stand.of_body Bd
  have e0 : s₁.heap = h0 := by rw [← hh, Bd.state]; rfl
  have N0 := Fr.nil n0
  refine Gl.start (Q := Q_rmMK0 Z a1 k1 u0 u1 u2 u3 h0 n0) (ef_rmMK0 m a1) ?_
  show Gl p e below s _ _ _ s₁ (mkF m 0 #[.val (.int (0 : Int32)), .val (.ref a1)] [])
  refine Gl.st (fun _ kk => XS.iloadN X0.here hx rfl (hb hby d2_0) rfl kk) ?_
  show Gl p e below s _ _ _ s₁ (mkF m 1 #[.val (.int (0 : Int32)), .val (.ref a1)] [(.int (0 : Int32))])
  refine Gl.st (fun _ kk => XS.ifNo X0.here hx rfl (hb hby d2_1) rfl ((if0 _ _).trans (teq (by decide : (0 : Int32) = (0 : Int32))).2) kk) ?_
  show Gl p e below s _ _ _ s₁ (mkF m 4 #[.val (.int (0 : Int32)), .val (.ref a1)] [])
  refine Gl.st (fun _ kk => XS.iconst X0.here hx rfl (hb hby d2_4) kk) ?_
  show Gl p e below s _ _ _ s₁ (mkF m 5 #[.val (.int (0 : Int32)), .val (.ref a1)] [(.int (0 : Int32))])
  obtain ⟨T1, h1, ka1, X1, e1, E1, A1, st1⟩ := newP X0 hx hZ (hw _ (List.mem_of_getElem? (i := 1) rfl)) e0 (g := (mkF m 5 #[.val (.int (0 : Int32)), .val (.ref a1)] [(.int (0 : Int32))])) rfl (hb hby d2_5) rfl (by decide) (cap := 0) (by decide) (by decide) (by decide) (by decide)
  obtain ⟨b1, g1⟩ : ∃ z, z = h0.size := ⟨_, rfl⟩
  rw [← g1] at A1 st1
  refine Gl.st st1 ?_
  have ne_a1_b1 : a1 ≠ b1 := Nat.ne_of_lt (Nat.lt_of_lt_of_eq Arv_a1.lt g1.symm)
  have ge_b1 : n0 ≤ b1 := Nat.le_trans (Nat.le_trans (Nat.le_of_eq O0.1.symm) O0.2.1) (Nat.le_of_eq g1.symm)
  have fr_b1 : h0.size ≤ b1 := Nat.le_trans (Nat.le_refl _) (Nat.le_of_eq g1.symm)
  replace Arv_a1 := Arv_a1.ext E1
  have O1 := O0.ext E1
  have K1 := (Keep.refl h0 []).ext E1
  have Arv_b1 : Arv Z h1 b1 ka1 .char (0 : Int32) [] (.int (0 : Int32)) := (Arv.new A1 (by decide)).pad (pad_rep [] (.int (0 : Int32)) 0)
  show Gl p e below s _ _ _ T1 (mkF m 7 #[.val (.int (0 : Int32)), .val (.ref a1)] [(.ref b1)])
  exact Gl.ret X1 (v := (some (.ref b1))) (fun h => by rw [Bd.returns] at h; cases h) (BodyLoose.notSynchronized Bd) (fun hr => retOut X1 hx Bd.returns rfl (Or.inr (Or.inr (Or.inr (Or.inr ⟨rfl, rfl, rfl⟩)))) (hb hby d2_7) hr) e1 ⟨b1, ka1, rfl, N0, K1, Arv_b1, fr_b1⟩ (by decide) (by decide)
theorem d2_8 : decode method_5_code 8 = .ok (.iload_n 0, 1) := by decide +kernel
theorem d2_9 : decode method_5_code 9 = .ok (.iconst 1, 1) := by decide +kernel
theorem d2_10 : decode method_5_code 10 = .ok (.if_icmp .ne 13, 3) := by decide +kernel
theorem d2_13 : decode method_5_code 13 = .ok (.iconst 1, 1) := by decide +kernel
theorem d2_14 : decode method_5_code 14 = .ok (.newarray .char, 2) := by decide +kernel
theorem d2_16 : decode method_5_code 16 = .ok (.dup, 1) := by decide +kernel
theorem d2_17 : decode method_5_code 17 = .ok (.iconst 0, 1) := by decide +kernel
theorem d2_18 : decode method_5_code 18 = .ok (.aload_n 1, 1) := by decide +kernel
theorem d2_19 : decode method_5_code 19 = .ok (.iconst 0, 1) := by decide +kernel
theorem d2_20 : decode method_5_code 20 = .ok (.caload, 1) := by decide +kernel
theorem d2_21 : decode method_5_code 21 = .ok (.castore, 1) := by decide +kernel
theorem d2_22 : decode method_5_code 22 = .ok (.areturn, 1) := by decide +kernel
theorem pn_rmMK1 : plainName "com/example/concurrency_quota/concurrencyquota/ServiceRequestTrimWhitespacePinLaw" = true := by first | (simp [plainName, overriddenIn]; done) | decide +kernel
theorem ef_rmMK1 (m : MethodId) (a1 : Addr) : entryFrame m #[(.int (1 : Int32)), (.ref a1)] 2 = mkF m 0 #[.val (.int (1 : Int32)), .val (.ref a1)] [] := by first | (simp [entryFrame, mkF, argsToLocals, Value.category]; done) | rfl
def Q_rmMK1 (Z : State) (a1 : Addr) (k1 : ClassId) (u0 u1 u2 u3 : Int32) (h0 : Heap) (n0 : Nat) (v : Option Value) (h : Heap) (L : List Loc) : Prop := ∃ (b : Addr) (k : ClassId), v = some (.ref b) ∧ Fr n0 L ∧ Keep h0 h [] ∧ Arv Z h b k .char (1 : Int32) [(.int u0)] (.int 0) ∧ h0.size ≤ b
set_option maxRecDepth 65536 in
set_option maxHeartbeats 40000000 in
theorem rmMK1 (l : Launch) (Z : State) (a0 : Array Value) (hw : ∀ d ∈ tables_1, d.before a0 Z = true) (ws : List Jvm.Cond) (a1 : Addr) (k1 : ClassId) (u0 u1 u2 u3 : Int32) (h0 : Heap) (n0 : Nat) (O0 : Old Z n0 h0) (Arv_a1 : Arv Z h0 a1 k1 .char 4 [(.int u0), (.int u1), (.int u2), (.int u3)] (.int 0)) (pk0 : nar .char u0 = u0) (pk1 : nar .char u1 = u1) (pk2 : nar .char u2 = u2) (pk3 : nar .char u3 = u3) :
    MetFree l (⟨"com/example/concurrency_quota/concurrencyquota/ServiceRequestTrimWhitespacePinLaw", "make", "(I[C)[C"⟩ : MethodName) (head1 (Jvm.Cond.code (⟨"com/example/concurrency_quota/concurrencyquota/ServiceRequestTrimWhitespacePinLaw", "make", "(I[C)[C"⟩ : MethodName) method_5_code 2 (some (.array .char)) :: ws) ({ frames := 0, cells := 1, slots := 1, locals := 0 } : Room)) (fun a U => a = #[(.int (1 : Int32)), (.ref a1)] ∧ Z.Warmed39 U.vm ∧ U.heap = h0) (fun _ _ _ _ _ => True) (fun _ U o U' => ∃ v L, o = .returned v ∧ Q_rmMK1 Z a1 k1 u0 u1 u2 u3 h0 n0 v U'.heap L ∧ FrameEnd U o U' L ({ frames := 0, cells := 1, slots := 1, locals := 0 } : Room).cells ({ frames := 0, cells := 1, slots := 1, locals := 0 } : Room).slots) := by
  refine MetFree.of_bodySF (plainFor_of_name pn_rmMK1) hisR ?_
  intro p e s m args below meth c s₁ Bd hml0 hP hK
  obtain ⟨rfl, hZ, hh⟩ := hP
  have hx := Bd.exec
  have hby := Bd.bytes
  have hml : c.maxLocals = 2 := hml0
  have hown : s.vm.findClass "com/example/concurrency_quota/concurrencyquota/ServiceRequestTrimWhitespacePinLaw" = some m.cls := findClass_of_methodNamed Bd.named
  have hnm := (name_of_methodNamed Bd.named Bd.method).1
  have X0 : Stand p l e ({ frames := 0, cells := 1, slots := 1, locals := 0 } : Room) s m #[(.int (1 : Int32)), (.ref a1)] below meth c s₁ [] 0 0 := Stand.of_body Bd
  have e0 : s₁.heap = h0 := by rw [← hh, Bd.state]; rfl
  have N0 := Fr.nil n0
  refine Gl.start (Q := Q_rmMK1 Z a1 k1 u0 u1 u2 u3 h0 n0) (ef_rmMK1 m a1) ?_
  show Gl p e below s _ _ _ s₁ (mkF m 0 #[.val (.int (1 : Int32)), .val (.ref a1)] [])
  refine Gl.st (fun _ kk => XS.iloadN X0.here hx rfl (hb hby d2_0) rfl kk) ?_
  show Gl p e below s _ _ _ s₁ (mkF m 1 #[.val (.int (1 : Int32)), .val (.ref a1)] [(.int (1 : Int32))])
  refine Gl.st (fun _ kk => XS.ifYes X0.here hx rfl (pc0 := 1) (pc' := 8) rfl (hb hby d2_1) rfl ((if0 _ _).trans (feq (by decide : ¬ ((1 : Int32) = (0 : Int32)))).2) (by decide) (by decide) kk) ?_
  show Gl p e below s _ _ _ s₁ (mkF m 8 #[.val (.int (1 : Int32)), .val (.ref a1)] [])
  refine Gl.st (fun _ kk => XS.iloadN X0.here hx rfl (hb hby d2_8) rfl kk) ?_
  show Gl p e below s _ _ _ s₁ (mkF m 9 #[.val (.int (1 : Int32)), .val (.ref a1)] [(.int (1 : Int32))])
  refine Gl.st (fun _ kk => XS.iconst X0.here hx rfl (hb hby d2_9) kk) ?_
  show Gl p e below s _ _ _ s₁ (mkF m 10 #[.val (.int (1 : Int32)), .val (.ref a1)] [(.int (1 : Int32)), (.int (1 : Int32))])
  refine Gl.st (fun _ kk => XS.icmpNo X0.here hx rfl (hb hby d2_10) rfl (teq (by decide : (1 : Int32) = (1 : Int32))).2 kk) ?_
  show Gl p e below s _ _ _ s₁ (mkF m 13 #[.val (.int (1 : Int32)), .val (.ref a1)] [])
  refine Gl.st (fun _ kk => XS.iconst X0.here hx rfl (hb hby d2_13) kk) ?_
  show Gl p e below s _ _ _ s₁ (mkF m 14 #[.val (.int (1 : Int32)), .val (.ref a1)] [(.int (1 : Int32))])
  obtain ⟨T1, h1, ka1, X1, e1, E1, A1, st1⟩ := newP X0 hx hZ (hw _ (List.mem_of_getElem? (i := 1) rfl)) e0 (g := (mkF m 14 #[.val (.int (1 : Int32)), .val (.ref a1)] [(.int (1 : Int32))])) rfl (hb hby d2_14) rfl (by decide) (cap := 1) (by decide) (by decide) (by decide) (by decide)
  obtain ⟨b1, g1⟩ : ∃ z, z = h0.size := ⟨_, rfl⟩
  rw [← g1] at A1 st1
  refine Gl.st st1 ?_
  have ne_a1_b1 : a1 ≠ b1 := Nat.ne_of_lt (Nat.lt_of_lt_of_eq Arv_a1.lt g1.symm)
  have ge_b1 : n0 ≤ b1 := Nat.le_trans (Nat.le_trans (Nat.le_of_eq O0.1.symm) O0.2.1) (Nat.le_of_eq g1.symm)
  have fr_b1 : h0.size ≤ b1 := Nat.le_trans (Nat.le_refl _) (Nat.le_of_eq g1.symm)
  replace Arv_a1 := Arv_a1.ext E1
  have O1 := O0.ext E1
  have K1 := (Keep.refl h0 []).ext E1
  have Arv_b1 : Arv Z h1 b1 ka1 .char (1 : Int32) [(.int (0 : Int32))] (.int (0 : Int32)) := (Arv.new A1 (by decide)).pad (pad_rep [] (.int (0 : Int32)) 1)
  show Gl p e below s _ _ _ T1 (mkF m 16 #[.val (.int (1 : Int32)), .val (.ref a1)] [(.ref b1)])
  refine Gl.st (fun _ kk => XS.dup X1.here hx rfl (hb hby d2_16) rfl rfl kk) ?_
  show Gl p e below s _ _ _ T1 (mkF m 17 #[.val (.int (1 : Int32)), .val (.ref a1)] [(.ref b1), (.ref b1)])
  refine Gl.st (fun _ kk => XS.iconst X1.here hx rfl (hb hby d2_17) kk) ?_
  show Gl p e below s _ _ _ T1 (mkF m 18 #[.val (.int (1 : Int32)), .val (.ref a1)] [(.int (0 : Int32)), (.ref b1), (.ref b1)])
  refine Gl.st (fun _ kk => XS.aloadN X1.here hx rfl (hb hby d2_18) rfl rfl kk) ?_
  show Gl p e below s _ _ _ T1 (mkF m 19 #[.val (.int (1 : Int32)), .val (.ref a1)] [(.ref a1), (.int (0 : Int32)), (.ref b1), (.ref b1)])
  refine Gl.st (fun _ kk => XS.iconst X1.here hx rfl (hb hby d2_19) kk) ?_
  show Gl p e below s _ _ _ T1 (mkF m 20 #[.val (.int (1 : Int32)), .val (.ref a1)] [(.int (0 : Int32)), (.ref a1), (.int (0 : Int32)), (.ref b1), (.ref b1)])
  obtain ⟨cl2, Ar2, q2, Sz2, Ng2, Ha2, Fi2⟩ := id Arv_a1
  have hin2 : ¬ ((0 : Int32) < 0 ∨ cl2.slots.size ≤ ((0 : Int32)).toNatClampNeg) := inb_of Sz2 ⟨by decide, by decide⟩
  have hat2 : cl2.slots[((0 : Int32)).toNatClampNeg]? = some (.int u0) := Ha2.at hin2 rfl
  refine Gl.st (fun _ kk => X1.caload hx (j := (0 : Int32)) (v := (.int u0)) (by rw [e1]; exact Ar2.1) (State.isArrayOf_alike hZ.alike Ar2.2.1) Ar2.2.2 hin2 hat2 (g := (mkF m 20 #[.val (.int (1 : Int32)), .val (.ref a1)] [(.int (0 : Int32)), (.ref a1), (.int (0 : Int32)), (.ref b1), (.ref b1)])) rfl rfl (hb hby d2_20) _ kk) ?_
  show Gl p e below s _ _ _ T1 (mkF m 21 #[.val (.int (1 : Int32)), .val (.ref a1)] [(.int u0), (.int (0 : Int32)), (.ref b1), (.ref b1)])
  obtain ⟨cl3, Ar3, q3, Sz3, Ng3, Ha3, Fi3⟩ := id Arv_b1
  have hin3 : ¬ ((0 : Int32) < 0 ∨ cl3.slots.size ≤ ((0 : Int32)).toNatClampNeg) := inb_of Sz3 ⟨by decide, by decide⟩
  obtain ⟨T3, h3, X3, e3, W3, st3⟩ := stC X1 hx hZ e1 Ar3 (j := (0 : Int32)) hin3 (g := (mkF m 21 #[.val (.int (1 : Int32)), .val (.ref a1)] [(.int u0), (.int (0 : Int32)), (.ref b1), (.ref b1)])) rfl rfl (hb hby d2_21)
  refine Gl.st st3 ?_
  replace Arv_b1 : Arv Z h3 b1 ka1 .char (1 : Int32) [(.int (nar .char u0))] (.int (0 : Int32)) := Arv.set Ar3 q3 Sz3 Ng3 Ha3 Fi3 (fits_nar_char _) W3 0 rfl (Nat.le_of_ble_eq_true rfl)
  rw [pk0] at Arv_b1
  replace Arv_a1 := Arv_a1.other W3 ne_a1_b1
  have O3 := O1.wr W3 ge_b1
  have K3 := K1.wr W3 (Or.inr fr_b1)
  have N3 := Fr.snoc X3 N0 ge_b1
  clear st3 W3 hin3 Fi3 Ha3 Ng3 Sz3 q3 Ar3 cl3
  clear O1 K1 X1 e1
  show Gl p e below s _ _ _ T3 (mkF m 22 #[.val (.int (1 : Int32)), .val (.ref a1)] [(.ref b1)])
  exact Gl.ret X3 (v := (some (.ref b1))) (fun h => by rw [Bd.returns] at h; cases h) (BodyLoose.notSynchronized Bd) (fun hr => retOut X3 hx Bd.returns rfl (Or.inr (Or.inr (Or.inr (Or.inr ⟨rfl, rfl, rfl⟩)))) (hb hby d2_22) hr) e3 ⟨b1, ka1, rfl, N3, K3, Arv_b1, fr_b1⟩ (by decide) (by decide)
theorem d2_23 : decode method_5_code 23 = .ok (.iload_n 0, 1) := by decide +kernel
theorem d2_24 : decode method_5_code 24 = .ok (.iconst 2, 1) := by decide +kernel
theorem d2_25 : decode method_5_code 25 = .ok (.if_icmp .ne 19, 3) := by decide +kernel
theorem d2_28 : decode method_5_code 28 = .ok (.iconst 2, 1) := by decide +kernel
theorem d2_29 : decode method_5_code 29 = .ok (.newarray .char, 2) := by decide +kernel
theorem d2_31 : decode method_5_code 31 = .ok (.dup, 1) := by decide +kernel
theorem d2_32 : decode method_5_code 32 = .ok (.iconst 0, 1) := by decide +kernel
theorem d2_33 : decode method_5_code 33 = .ok (.aload_n 1, 1) := by decide +kernel
theorem d2_34 : decode method_5_code 34 = .ok (.iconst 0, 1) := by decide +kernel
theorem d2_35 : decode method_5_code 35 = .ok (.caload, 1) := by decide +kernel
theorem d2_36 : decode method_5_code 36 = .ok (.castore, 1) := by decide +kernel
theorem d2_37 : decode method_5_code 37 = .ok (.dup, 1) := by decide +kernel
theorem d2_38 : decode method_5_code 38 = .ok (.iconst 1, 1) := by decide +kernel
theorem d2_39 : decode method_5_code 39 = .ok (.aload_n 1, 1) := by decide +kernel
theorem d2_40 : decode method_5_code 40 = .ok (.iconst 1, 1) := by decide +kernel
theorem d2_41 : decode method_5_code 41 = .ok (.caload, 1) := by decide +kernel
theorem d2_42 : decode method_5_code 42 = .ok (.castore, 1) := by decide +kernel
theorem d2_43 : decode method_5_code 43 = .ok (.areturn, 1) := by decide +kernel
theorem pn_rmMK2 : plainName "com/example/concurrency_quota/concurrencyquota/ServiceRequestTrimWhitespacePinLaw" = true := by first | (simp [plainName, overriddenIn]; done) | decide +kernel
theorem ef_rmMK2 (m : MethodId) (a1 : Addr) : entryFrame m #[(.int (2 : Int32)), (.ref a1)] 2 = mkF m 0 #[.val (.int (2 : Int32)), .val (.ref a1)] [] := by first | (simp [entryFrame, mkF, argsToLocals, Value.category]; done) | rfl
def Q_rmMK2 (Z : State) (a1 : Addr) (k1 : ClassId) (u0 u1 u2 u3 : Int32) (h0 : Heap) (n0 : Nat) (v : Option Value) (h : Heap) (L : List Loc) : Prop := ∃ (b : Addr) (k : ClassId), v = some (.ref b) ∧ Fr n0 L ∧ Keep h0 h [] ∧ Arv Z h b k .char (2 : Int32) [(.int u0), (.int u1)] (.int 0) ∧ h0.size ≤ b
set_option maxRecDepth 65536 in
set_option maxHeartbeats 40000000 in
theorem rmMK2 (l : Launch) (Z : State) (a0 : Array Value) (hw : ∀ d ∈ tables_1, d.before a0 Z = true) (ws : List Jvm.Cond) (a1 : Addr) (k1 : ClassId) (u0 u1 u2 u3 : Int32) (h0 : Heap) (n0 : Nat) (O0 : Old Z n0 h0) (Arv_a1 : Arv Z h0 a1 k1 .char 4 [(.int u0), (.int u1), (.int u2), (.int u3)] (.int 0)) (pk0 : nar .char u0 = u0) (pk1 : nar .char u1 = u1) (pk2 : nar .char u2 = u2) (pk3 : nar .char u3 = u3) :
    MetFree l (⟨"com/example/concurrency_quota/concurrencyquota/ServiceRequestTrimWhitespacePinLaw", "make", "(I[C)[C"⟩ : MethodName) (head1 (Jvm.Cond.code (⟨"com/example/concurrency_quota/concurrencyquota/ServiceRequestTrimWhitespacePinLaw", "make", "(I[C)[C"⟩ : MethodName) method_5_code 2 (some (.array .char)) :: ws) ({ frames := 0, cells := 1, slots := 2, locals := 0 } : Room)) (fun a U => a = #[(.int (2 : Int32)), (.ref a1)] ∧ Z.Warmed39 U.vm ∧ U.heap = h0) (fun _ _ _ _ _ => True) (fun _ U o U' => ∃ v L, o = .returned v ∧ Q_rmMK2 Z a1 k1 u0 u1 u2 u3 h0 n0 v U'.heap L ∧ FrameEnd U o U' L ({ frames := 0, cells := 1, slots := 2, locals := 0 } : Room).cells ({ frames := 0, cells := 1, slots := 2, locals := 0 } : Room).slots) := by
  refine MetFree.of_bodySF (plainFor_of_name pn_rmMK2) hisR ?_
  intro p e s m args below meth c s₁ Bd hml0 hP hK
  obtain ⟨rfl, hZ, hh⟩ := hP
  have hx := Bd.exec
  have hby := Bd.bytes
  have hml : c.maxLocals = 2 := hml0
  have hown : s.vm.findClass "com/example/concurrency_quota/concurrencyquota/ServiceRequestTrimWhitespacePinLaw" = some m.cls := findClass_of_methodNamed Bd.named
  have hnm := (name_of_methodNamed Bd.named Bd.method).1
  have X0 : Stand p l e ({ frames := 0, cells := 1, slots := 2, locals := 0 } : Room) s m #[(.int (2 : Int32)), (.ref a1)] below meth c s₁ [] 0 0 := Stand.of_body Bd
  have e0 : s₁.heap = h0 := by rw [← hh, Bd.state]; rfl
  have N0 := Fr.nil n0
  refine Gl.start (Q := Q_rmMK2 Z a1 k1 u0 u1 u2 u3 h0 n0) (ef_rmMK2 m a1) ?_
  show Gl p e below s _ _ _ s₁ (mkF m 0 #[.val (.int (2 : Int32)), .val (.ref a1)] [])
  refine Gl.st (fun _ kk => XS.iloadN X0.here hx rfl (hb hby d2_0) rfl kk) ?_
  show Gl p e below s _ _ _ s₁ (mkF m 1 #[.val (.int (2 : Int32)), .val (.ref a1)] [(.int (2 : Int32))])
  refine Gl.st (fun _ kk => XS.ifYes X0.here hx rfl (pc0 := 1) (pc' := 8) rfl (hb hby d2_1) rfl ((if0 _ _).trans (feq (by decide : ¬ ((2 : Int32) = (0 : Int32)))).2) (by decide) (by decide) kk) ?_
  show Gl p e below s _ _ _ s₁ (mkF m 8 #[.val (.int (2 : Int32)), .val (.ref a1)] [])
  refine Gl.st (fun _ kk => XS.iloadN X0.here hx rfl (hb hby d2_8) rfl kk) ?_
  show Gl p e below s _ _ _ s₁ (mkF m 9 #[.val (.int (2 : Int32)), .val (.ref a1)] [(.int (2 : Int32))])
  refine Gl.st (fun _ kk => XS.iconst X0.here hx rfl (hb hby d2_9) kk) ?_
  show Gl p e below s _ _ _ s₁ (mkF m 10 #[.val (.int (2 : Int32)), .val (.ref a1)] [(.int (1 : Int32)), (.int (2 : Int32))])
  refine Gl.st (fun _ kk => XS.icmpYes X0.here hx rfl (pc0 := 10) (pc' := 23) rfl (hb hby d2_10) rfl (feq (by decide : ¬ ((2 : Int32) = (1 : Int32)))).2 (by decide) (by decide) kk) ?_
  show Gl p e below s _ _ _ s₁ (mkF m 23 #[.val (.int (2 : Int32)), .val (.ref a1)] [])
  refine Gl.st (fun _ kk => XS.iloadN X0.here hx rfl (hb hby d2_23) rfl kk) ?_
  show Gl p e below s _ _ _ s₁ (mkF m 24 #[.val (.int (2 : Int32)), .val (.ref a1)] [(.int (2 : Int32))])
  refine Gl.st (fun _ kk => XS.iconst X0.here hx rfl (hb hby d2_24) kk) ?_
  show Gl p e below s _ _ _ s₁ (mkF m 25 #[.val (.int (2 : Int32)), .val (.ref a1)] [(.int (2 : Int32)), (.int (2 : Int32))])
  refine Gl.st (fun _ kk => XS.icmpNo X0.here hx rfl (hb hby d2_25) rfl (teq (by decide : (2 : Int32) = (2 : Int32))).2 kk) ?_
  show Gl p e below s _ _ _ s₁ (mkF m 28 #[.val (.int (2 : Int32)), .val (.ref a1)] [])
  refine Gl.st (fun _ kk => XS.iconst X0.here hx rfl (hb hby d2_28) kk) ?_
  show Gl p e below s _ _ _ s₁ (mkF m 29 #[.val (.int (2 : Int32)), .val (.ref a1)] [(.int (2 : Int32))])
  obtain ⟨T1, h1, ka1, X1, e1, E1, A1, st1⟩ := newP X0 hx hZ (hw _ (List.mem_of_getElem? (i := 1) rfl)) e0 (g := (mkF m 29 #[.val (.int (2 : Int32)), .val (.ref a1)] [(.int (2 : Int32))])) rfl (hb hby d2_29) rfl (by decide) (cap := 2) (by decide) (by decide) (by decide) (by decide)
  obtain ⟨b1, g1⟩ : ∃ z, z = h0.size := ⟨_, rfl⟩
  rw [← g1] at A1 st1
  refine Gl.st st1 ?_
  have ne_a1_b1 : a1 ≠ b1 := Nat.ne_of_lt (Nat.lt_of_lt_of_eq Arv_a1.lt g1.symm)
  have ge_b1 : n0 ≤ b1 := Nat.le_trans (Nat.le_trans (Nat.le_of_eq O0.1.symm) O0.2.1) (Nat.le_of_eq g1.symm)
  have fr_b1 : h0.size ≤ b1 := Nat.le_trans (Nat.le_refl _) (Nat.le_of_eq g1.symm)
  replace Arv_a1 := Arv_a1.ext E1
  have O1 := O0.ext E1
  have K1 := (Keep.refl h0 []).ext E1
  have Arv_b1 : Arv Z h1 b1 ka1 .char (2 : Int32) [(.int (0 : Int32)), (.int (0 : Int32))] (.int (0 : Int32)) := (Arv.new A1 (by decide)).pad (pad_rep [] (.int (0 : Int32)) 2)
  show Gl p e below s _ _ _ T1 (mkF m 31 #[.val (.int (2 : Int32)), .val (.ref a1)] [(.ref b1)])
  refine Gl.st (fun _ kk => XS.dup X1.here hx rfl (hb hby d2_31) rfl rfl kk) ?_
  show Gl p e below s _ _ _ T1 (mkF m 32 #[.val (.int (2 : Int32)), .val (.ref a1)] [(.ref b1), (.ref b1)])
  refine Gl.st (fun _ kk => XS.iconst X1.here hx rfl (hb hby d2_32) kk) ?_
  show Gl p e below s _ _ _ T1 (mkF m 33 #[.val (.int (2 : Int32)), .val (.ref a1)] [(.int (0 : Int32)), (.ref b1), (.ref b1)])
  refine Gl.st (fun _ kk => XS.aloadN X1.here hx rfl (hb hby d2_33) rfl rfl kk) ?_
  show Gl p e below s _ _ _ T1 (mkF m 34 #[.val (.int (2 : Int32)), .val (.ref a1)] [(.ref a1), (.int (0 : Int32)), (.ref b1), (.ref b1)])
  refine Gl.st (fun _ kk => XS.iconst X1.here hx rfl (hb hby d2_34) kk) ?_
  show Gl p e below s _ _ _ T1 (mkF m 35 #[.val (.int (2 : Int32)), .val (.ref a1)] [(.int (0 : Int32)), (.ref a1), (.int (0 : Int32)), (.ref b1), (.ref b1)])
  obtain ⟨cl2, Ar2, q2, Sz2, Ng2, Ha2, Fi2⟩ := id Arv_a1
  have hin2 : ¬ ((0 : Int32) < 0 ∨ cl2.slots.size ≤ ((0 : Int32)).toNatClampNeg) := inb_of Sz2 ⟨by decide, by decide⟩
  have hat2 : cl2.slots[((0 : Int32)).toNatClampNeg]? = some (.int u0) := Ha2.at hin2 rfl
  refine Gl.st (fun _ kk => X1.caload hx (j := (0 : Int32)) (v := (.int u0)) (by rw [e1]; exact Ar2.1) (State.isArrayOf_alike hZ.alike Ar2.2.1) Ar2.2.2 hin2 hat2 (g := (mkF m 35 #[.val (.int (2 : Int32)), .val (.ref a1)] [(.int (0 : Int32)), (.ref a1), (.int (0 : Int32)), (.ref b1), (.ref b1)])) rfl rfl (hb hby d2_35) _ kk) ?_
  show Gl p e below s _ _ _ T1 (mkF m 36 #[.val (.int (2 : Int32)), .val (.ref a1)] [(.int u0), (.int (0 : Int32)), (.ref b1), (.ref b1)])
  obtain ⟨cl3, Ar3, q3, Sz3, Ng3, Ha3, Fi3⟩ := id Arv_b1
  have hin3 : ¬ ((0 : Int32) < 0 ∨ cl3.slots.size ≤ ((0 : Int32)).toNatClampNeg) := inb_of Sz3 ⟨by decide, by decide⟩
  obtain ⟨T3, h3, X3, e3, W3, st3⟩ := stC X1 hx hZ e1 Ar3 (j := (0 : Int32)) hin3 (g := (mkF m 36 #[.val (.int (2 : Int32)), .val (.ref a1)] [(.int u0), (.int (0 : Int32)), (.ref b1), (.ref b1)])) rfl rfl (hb hby d2_36)
  refine Gl.st st3 ?_
  replace Arv_b1 : Arv Z h3 b1 ka1 .char (2 : Int32) [(.int (nar .char u0)), (.int (0 : Int32))] (.int (0 : Int32)) := Arv.set Ar3 q3 Sz3 Ng3 Ha3 Fi3 (fits_nar_char _) W3 0 rfl (Nat.le_of_ble_eq_true rfl)
  rw [pk0] at Arv_b1
  replace Arv_a1 := Arv_a1.other W3 ne_a1_b1
  have O3 := O1.wr W3 ge_b1
  have K3 := K1.wr W3 (Or.inr fr_b1)
  have N3 := Fr.snoc X3 N0 ge_b1
  clear st3 W3 hin3 Fi3 Ha3 Ng3 Sz3 q3 Ar3 cl3
  clear O1 K1 X1 e1
  show Gl p e below s _ _ _ T3 (mkF m 37 #[.val (.int (2 : Int32)), .val (.ref a1)] [(.ref b1)])
  refine Gl.st (fun _ kk => XS.dup X3.here hx rfl (hb hby d2_37) rfl rfl kk) ?_
  show Gl p e below s _ _ _ T3 (mkF m 38 #[.val (.int (2 : Int32)), .val (.ref a1)] [(.ref b1), (.ref b1)])
  refine Gl.st (fun _ kk => XS.iconst X3.here hx rfl (hb hby d2_38) kk) ?_
  show Gl p e below s _ _ _ T3 (mkF m 39 #[.val (.int (2 : Int32)), .val (.ref a1)] [(.int (1 : Int32)), (.ref b1), (.ref b1)])
  refine Gl.st (fun _ kk => XS.aloadN X3.here hx rfl (hb hby d2_39) rfl rfl kk) ?_
  show Gl p e below s _ _ _ T3 (mkF m 40 #[.val (.int (2 : Int32)), .val (.ref a1)] [(.ref a1), (.int (1 : Int32)), (.ref b1), (.ref b1)])
  refine Gl.st (fun _ kk => XS.iconst X3.here hx rfl (hb hby d2_40) kk) ?_
  show Gl p e below s _ _ _ T3 (mkF m 41 #[.val (.int (2 : Int32)), .val (.ref a1)] [(.int (1 : Int32)), (.ref a1), (.int (1 : Int32)), (.ref b1), (.ref b1)])
  obtain ⟨cl4, Ar4, q4, Sz4, Ng4, Ha4, Fi4⟩ := id Arv_a1
  have hin4 : ¬ ((1 : Int32) < 0 ∨ cl4.slots.size ≤ ((1 : Int32)).toNatClampNeg) := inb_of Sz4 ⟨by decide, by decide⟩
  have hat4 : cl4.slots[((1 : Int32)).toNatClampNeg]? = some (.int u1) := Ha4.at hin4 rfl
  refine Gl.st (fun _ kk => X3.caload hx (j := (1 : Int32)) (v := (.int u1)) (by rw [e3]; exact Ar4.1) (State.isArrayOf_alike hZ.alike Ar4.2.1) Ar4.2.2 hin4 hat4 (g := (mkF m 41 #[.val (.int (2 : Int32)), .val (.ref a1)] [(.int (1 : Int32)), (.ref a1), (.int (1 : Int32)), (.ref b1), (.ref b1)])) rfl rfl (hb hby d2_41) _ kk) ?_
  show Gl p e below s _ _ _ T3 (mkF m 42 #[.val (.int (2 : Int32)), .val (.ref a1)] [(.int u1), (.int (1 : Int32)), (.ref b1), (.ref b1)])
  obtain ⟨cl5, Ar5, q5, Sz5, Ng5, Ha5, Fi5⟩ := id Arv_b1
  have hin5 : ¬ ((1 : Int32) < 0 ∨ cl5.slots.size ≤ ((1 : Int32)).toNatClampNeg) := inb_of Sz5 ⟨by decide, by decide⟩
  obtain ⟨T5, h5, X5, e5, W5, st5⟩ := stC X3 hx hZ e3 Ar5 (j := (1 : Int32)) hin5 (g := (mkF m 42 #[.val (.int (2 : Int32)), .val (.ref a1)] [(.int u1), (.int (1 : Int32)), (.ref b1), (.ref b1)])) rfl rfl (hb hby d2_42)
  refine Gl.st st5 ?_
  replace Arv_b1 : Arv Z h5 b1 ka1 .char (2 : Int32) [(.int u0), (.int (nar .char u1))] (.int (0 : Int32)) := Arv.set Ar5 q5 Sz5 Ng5 Ha5 Fi5 (fits_nar_char _) W5 1 rfl (Nat.le_of_ble_eq_true rfl)
  rw [pk1] at Arv_b1
  replace Arv_a1 := Arv_a1.other W5 ne_a1_b1
  have O5 := O3.wr W5 ge_b1
  have K5 := K3.wr W5 (Or.inr fr_b1)
  have N5 := Fr.snoc X5 N3 ge_b1
  clear st5 W5 hin5 Fi5 Ha5 Ng5 Sz5 q5 Ar5 cl5
  clear O3 K3 N3 X3 e3
  show Gl p e below s _ _ _ T5 (mkF m 43 #[.val (.int (2 : Int32)), .val (.ref a1)] [(.ref b1)])
  exact Gl.ret X5 (v := (some (.ref b1))) (fun h => by rw [Bd.returns] at h; cases h) (BodyLoose.notSynchronized Bd) (fun hr => retOut X5 hx Bd.returns rfl (Or.inr (Or.inr (Or.inr (Or.inr ⟨rfl, rfl, rfl⟩)))) (hb hby d2_43) hr) e5 ⟨b1, ka1, rfl, N5, K5, Arv_b1, fr_b1⟩ (by decide) (by decide)
theorem d2_44 : decode method_5_code 44 = .ok (.iload_n 0, 1) := by decide +kernel
theorem d2_45 : decode method_5_code 45 = .ok (.iconst 3, 1) := by decide +kernel
theorem d2_46 : decode method_5_code 46 = .ok (.if_icmp .ne 25, 3) := by decide +kernel
theorem d2_49 : decode method_5_code 49 = .ok (.iconst 3, 1) := by decide +kernel
theorem d2_50 : decode method_5_code 50 = .ok (.newarray .char, 2) := by decide +kernel
theorem d2_52 : decode method_5_code 52 = .ok (.dup, 1) := by decide +kernel
theorem d2_53 : decode method_5_code 53 = .ok (.iconst 0, 1) := by decide +kernel
theorem d2_54 : decode method_5_code 54 = .ok (.aload_n 1, 1) := by decide +kernel
theorem d2_55 : decode method_5_code 55 = .ok (.iconst 0, 1) := by decide +kernel
theorem d2_56 : decode method_5_code 56 = .ok (.caload, 1) := by decide +kernel
theorem d2_57 : decode method_5_code 57 = .ok (.castore, 1) := by decide +kernel
theorem d2_58 : decode method_5_code 58 = .ok (.dup, 1) := by decide +kernel
theorem d2_59 : decode method_5_code 59 = .ok (.iconst 1, 1) := by decide +kernel
theorem d2_60 : decode method_5_code 60 = .ok (.aload_n 1, 1) := by decide +kernel
theorem d2_61 : decode method_5_code 61 = .ok (.iconst 1, 1) := by decide +kernel
theorem d2_62 : decode method_5_code 62 = .ok (.caload, 1) := by decide +kernel
theorem d2_63 : decode method_5_code 63 = .ok (.castore, 1) := by decide +kernel
theorem d2_64 : decode method_5_code 64 = .ok (.dup, 1) := by decide +kernel
theorem d2_65 : decode method_5_code 65 = .ok (.iconst 2, 1) := by decide +kernel
theorem d2_66 : decode method_5_code 66 = .ok (.aload_n 1, 1) := by decide +kernel
theorem d2_67 : decode method_5_code 67 = .ok (.iconst 2, 1) := by decide +kernel
theorem d2_68 : decode method_5_code 68 = .ok (.caload, 1) := by decide +kernel
theorem d2_69 : decode method_5_code 69 = .ok (.castore, 1) := by decide +kernel
theorem d2_70 : decode method_5_code 70 = .ok (.areturn, 1) := by decide +kernel
theorem pn_rmMK3 : plainName "com/example/concurrency_quota/concurrencyquota/ServiceRequestTrimWhitespacePinLaw" = true := by first | (simp [plainName, overriddenIn]; done) | decide +kernel
theorem ef_rmMK3 (m : MethodId) (a1 : Addr) : entryFrame m #[(.int (3 : Int32)), (.ref a1)] 2 = mkF m 0 #[.val (.int (3 : Int32)), .val (.ref a1)] [] := by first | (simp [entryFrame, mkF, argsToLocals, Value.category]; done) | rfl
def Q_rmMK3 (Z : State) (a1 : Addr) (k1 : ClassId) (u0 u1 u2 u3 : Int32) (h0 : Heap) (n0 : Nat) (v : Option Value) (h : Heap) (L : List Loc) : Prop := ∃ (b : Addr) (k : ClassId), v = some (.ref b) ∧ Fr n0 L ∧ Keep h0 h [] ∧ Arv Z h b k .char (3 : Int32) [(.int u0), (.int u1), (.int u2)] (.int 0) ∧ h0.size ≤ b
set_option maxRecDepth 65536 in
set_option maxHeartbeats 40000000 in
theorem rmMK3 (l : Launch) (Z : State) (a0 : Array Value) (hw : ∀ d ∈ tables_1, d.before a0 Z = true) (ws : List Jvm.Cond) (a1 : Addr) (k1 : ClassId) (u0 u1 u2 u3 : Int32) (h0 : Heap) (n0 : Nat) (O0 : Old Z n0 h0) (Arv_a1 : Arv Z h0 a1 k1 .char 4 [(.int u0), (.int u1), (.int u2), (.int u3)] (.int 0)) (pk0 : nar .char u0 = u0) (pk1 : nar .char u1 = u1) (pk2 : nar .char u2 = u2) (pk3 : nar .char u3 = u3) :
    MetFree l (⟨"com/example/concurrency_quota/concurrencyquota/ServiceRequestTrimWhitespacePinLaw", "make", "(I[C)[C"⟩ : MethodName) (head1 (Jvm.Cond.code (⟨"com/example/concurrency_quota/concurrencyquota/ServiceRequestTrimWhitespacePinLaw", "make", "(I[C)[C"⟩ : MethodName) method_5_code 2 (some (.array .char)) :: ws) ({ frames := 0, cells := 1, slots := 3, locals := 0 } : Room)) (fun a U => a = #[(.int (3 : Int32)), (.ref a1)] ∧ Z.Warmed39 U.vm ∧ U.heap = h0) (fun _ _ _ _ _ => True) (fun _ U o U' => ∃ v L, o = .returned v ∧ Q_rmMK3 Z a1 k1 u0 u1 u2 u3 h0 n0 v U'.heap L ∧ FrameEnd U o U' L ({ frames := 0, cells := 1, slots := 3, locals := 0 } : Room).cells ({ frames := 0, cells := 1, slots := 3, locals := 0 } : Room).slots) := by
  refine MetFree.of_bodySF (plainFor_of_name pn_rmMK3) hisR ?_
  intro p e s m args below meth c s₁ Bd hml0 hP hK
  obtain ⟨rfl, hZ, hh⟩ := hP
  have hx := Bd.exec
  have hby := Bd.bytes
  have hml : c.maxLocals = 2 := hml0
  have hown : s.vm.findClass "com/example/concurrency_quota/concurrencyquota/ServiceRequestTrimWhitespacePinLaw" = some m.cls := findClass_of_methodNamed Bd.named
  have hnm := (name_of_methodNamed Bd.named Bd.method).1
  have X0 : Stand p l e ({ frames := 0, cells := 1, slots := 3, locals := 0 } : Room) s m #[(.int (3 : Int32)), (.ref a1)] below meth c s₁ [] 0 0 := Stand.of_body Bd
  have e0 : s₁.heap = h0 := by rw [← hh, Bd.state]; rfl
  have N0 := Fr.nil n0
  refine Gl.start (Q := Q_rmMK3 Z a1 k1 u0 u1 u2 u3 h0 n0) (ef_rmMK3 m a1) ?_
  show Gl p e below s _ _ _ s₁ (mkF m 0 #[.val (.int (3 : Int32)), .val (.ref a1)] [])
  refine Gl.st (fun _ kk => XS.iloadN X0.here hx rfl (hb hby d2_0) rfl kk) ?_
  show Gl p e below s _ _ _ s₁ (mkF m 1 #[.val (.int (3 : Int32)), .val (.ref a1)] [(.int (3 : Int32))])
  refine Gl.st (fun _ kk => XS.ifYes X0.here hx rfl (pc0 := 1) (pc' := 8) rfl (hb hby d2_1) rfl ((if0 _ _).trans (feq (by decide : ¬ ((3 : Int32) = (0 : Int32)))).2) (by decide) (by decide) kk) ?_
  show Gl p e below s _ _ _ s₁ (mkF m 8 #[.val (.int (3 : Int32)), .val (.ref a1)] [])
  refine Gl.st (fun _ kk => XS.iloadN X0.here hx rfl (hb hby d2_8) rfl kk) ?_
  show Gl p e below s _ _ _ s₁ (mkF m 9 #[.val (.int (3 : Int32)), .val (.ref a1)] [(.int (3 : Int32))])
  refine Gl.st (fun _ kk => XS.iconst X0.here hx rfl (hb hby d2_9) kk) ?_
  show Gl p e below s _ _ _ s₁ (mkF m 10 #[.val (.int (3 : Int32)), .val (.ref a1)] [(.int (1 : Int32)), (.int (3 : Int32))])
  refine Gl.st (fun _ kk => XS.icmpYes X0.here hx rfl (pc0 := 10) (pc' := 23) rfl (hb hby d2_10) rfl (feq (by decide : ¬ ((3 : Int32) = (1 : Int32)))).2 (by decide) (by decide) kk) ?_
  show Gl p e below s _ _ _ s₁ (mkF m 23 #[.val (.int (3 : Int32)), .val (.ref a1)] [])
  refine Gl.st (fun _ kk => XS.iloadN X0.here hx rfl (hb hby d2_23) rfl kk) ?_
  show Gl p e below s _ _ _ s₁ (mkF m 24 #[.val (.int (3 : Int32)), .val (.ref a1)] [(.int (3 : Int32))])
  refine Gl.st (fun _ kk => XS.iconst X0.here hx rfl (hb hby d2_24) kk) ?_
  show Gl p e below s _ _ _ s₁ (mkF m 25 #[.val (.int (3 : Int32)), .val (.ref a1)] [(.int (2 : Int32)), (.int (3 : Int32))])
  refine Gl.st (fun _ kk => XS.icmpYes X0.here hx rfl (pc0 := 25) (pc' := 44) rfl (hb hby d2_25) rfl (feq (by decide : ¬ ((3 : Int32) = (2 : Int32)))).2 (by decide) (by decide) kk) ?_
  show Gl p e below s _ _ _ s₁ (mkF m 44 #[.val (.int (3 : Int32)), .val (.ref a1)] [])
  refine Gl.st (fun _ kk => XS.iloadN X0.here hx rfl (hb hby d2_44) rfl kk) ?_
  show Gl p e below s _ _ _ s₁ (mkF m 45 #[.val (.int (3 : Int32)), .val (.ref a1)] [(.int (3 : Int32))])
  refine Gl.st (fun _ kk => XS.iconst X0.here hx rfl (hb hby d2_45) kk) ?_
  show Gl p e below s _ _ _ s₁ (mkF m 46 #[.val (.int (3 : Int32)), .val (.ref a1)] [(.int (3 : Int32)), (.int (3 : Int32))])
  refine Gl.st (fun _ kk => XS.icmpNo X0.here hx rfl (hb hby d2_46) rfl (teq (by decide : (3 : Int32) = (3 : Int32))).2 kk) ?_
  show Gl p e below s _ _ _ s₁ (mkF m 49 #[.val (.int (3 : Int32)), .val (.ref a1)] [])
  refine Gl.st (fun _ kk => XS.iconst X0.here hx rfl (hb hby d2_49) kk) ?_
  show Gl p e below s _ _ _ s₁ (mkF m 50 #[.val (.int (3 : Int32)), .val (.ref a1)] [(.int (3 : Int32))])
  obtain ⟨T1, h1, ka1, X1, e1, E1, A1, st1⟩ := newP X0 hx hZ (hw _ (List.mem_of_getElem? (i := 1) rfl)) e0 (g := (mkF m 50 #[.val (.int (3 : Int32)), .val (.ref a1)] [(.int (3 : Int32))])) rfl (hb hby d2_50) rfl (by decide) (cap := 3) (by decide) (by decide) (by decide) (by decide)
  obtain ⟨b1, g1⟩ : ∃ z, z = h0.size := ⟨_, rfl⟩
  rw [← g1] at A1 st1
  refine Gl.st st1 ?_
  have ne_a1_b1 : a1 ≠ b1 := Nat.ne_of_lt (Nat.lt_of_lt_of_eq Arv_a1.lt g1.symm)
  have ge_b1 : n0 ≤ b1 := Nat.le_trans (Nat.le_trans (Nat.le_of_eq O0.1.symm) O0.2.1) (Nat.le_of_eq g1.symm)
  have fr_b1 : h0.size ≤ b1 := Nat.le_trans (Nat.le_refl _) (Nat.le_of_eq g1.symm)
  replace Arv_a1 := Arv_a1.ext E1
  have O1 := O0.ext E1
  have K1 := (Keep.refl h0 []).ext E1
  have Arv_b1 : Arv Z h1 b1 ka1 .char (3 : Int32) [(.int (0 : Int32)), (.int (0 : Int32)), (.int (0 : Int32))] (.int (0 : Int32)) := (Arv.new A1 (by decide)).pad (pad_rep [] (.int (0 : Int32)) 3)
  show Gl p e below s _ _ _ T1 (mkF m 52 #[.val (.int (3 : Int32)), .val (.ref a1)] [(.ref b1)])
  refine Gl.st (fun _ kk => XS.dup X1.here hx rfl (hb hby d2_52) rfl rfl kk) ?_
  show Gl p e below s _ _ _ T1 (mkF m 53 #[.val (.int (3 : Int32)), .val (.ref a1)] [(.ref b1), (.ref b1)])
  refine Gl.st (fun _ kk => XS.iconst X1.here hx rfl (hb hby d2_53) kk) ?_
  show Gl p e below s _ _ _ T1 (mkF m 54 #[.val (.int (3 : Int32)), .val (.ref a1)] [(.int (0 : Int32)), (.ref b1), (.ref b1)])
  refine Gl.st (fun _ kk => XS.aloadN X1.here hx rfl (hb hby d2_54) rfl rfl kk) ?_
  show Gl p e below s _ _ _ T1 (mkF m 55 #[.val (.int (3 : Int32)), .val (.ref a1)] [(.ref a1), (.int (0 : Int32)), (.ref b1), (.ref b1)])
  refine Gl.st (fun _ kk => XS.iconst X1.here hx rfl (hb hby d2_55) kk) ?_
  show Gl p e below s _ _ _ T1 (mkF m 56 #[.val (.int (3 : Int32)), .val (.ref a1)] [(.int (0 : Int32)), (.ref a1), (.int (0 : Int32)), (.ref b1), (.ref b1)])
  obtain ⟨cl2, Ar2, q2, Sz2, Ng2, Ha2, Fi2⟩ := id Arv_a1
  have hin2 : ¬ ((0 : Int32) < 0 ∨ cl2.slots.size ≤ ((0 : Int32)).toNatClampNeg) := inb_of Sz2 ⟨by decide, by decide⟩
  have hat2 : cl2.slots[((0 : Int32)).toNatClampNeg]? = some (.int u0) := Ha2.at hin2 rfl
  refine Gl.st (fun _ kk => X1.caload hx (j := (0 : Int32)) (v := (.int u0)) (by rw [e1]; exact Ar2.1) (State.isArrayOf_alike hZ.alike Ar2.2.1) Ar2.2.2 hin2 hat2 (g := (mkF m 56 #[.val (.int (3 : Int32)), .val (.ref a1)] [(.int (0 : Int32)), (.ref a1), (.int (0 : Int32)), (.ref b1), (.ref b1)])) rfl rfl (hb hby d2_56) _ kk) ?_
  show Gl p e below s _ _ _ T1 (mkF m 57 #[.val (.int (3 : Int32)), .val (.ref a1)] [(.int u0), (.int (0 : Int32)), (.ref b1), (.ref b1)])
  obtain ⟨cl3, Ar3, q3, Sz3, Ng3, Ha3, Fi3⟩ := id Arv_b1
  have hin3 : ¬ ((0 : Int32) < 0 ∨ cl3.slots.size ≤ ((0 : Int32)).toNatClampNeg) := inb_of Sz3 ⟨by decide, by decide⟩
  obtain ⟨T3, h3, X3, e3, W3, st3⟩ := stC X1 hx hZ e1 Ar3 (j := (0 : Int32)) hin3 (g := (mkF m 57 #[.val (.int (3 : Int32)), .val (.ref a1)] [(.int u0), (.int (0 : Int32)), (.ref b1), (.ref b1)])) rfl rfl (hb hby d2_57)
  refine Gl.st st3 ?_
  replace Arv_b1 : Arv Z h3 b1 ka1 .char (3 : Int32) [(.int (nar .char u0)), (.int (0 : Int32)), (.int (0 : Int32))] (.int (0 : Int32)) := Arv.set Ar3 q3 Sz3 Ng3 Ha3 Fi3 (fits_nar_char _) W3 0 rfl (Nat.le_of_ble_eq_true rfl)
  rw [pk0] at Arv_b1
  replace Arv_a1 := Arv_a1.other W3 ne_a1_b1
  have O3 := O1.wr W3 ge_b1
  have K3 := K1.wr W3 (Or.inr fr_b1)
  have N3 := Fr.snoc X3 N0 ge_b1
  clear st3 W3 hin3 Fi3 Ha3 Ng3 Sz3 q3 Ar3 cl3
  clear O1 K1 X1 e1
  show Gl p e below s _ _ _ T3 (mkF m 58 #[.val (.int (3 : Int32)), .val (.ref a1)] [(.ref b1)])
  refine Gl.st (fun _ kk => XS.dup X3.here hx rfl (hb hby d2_58) rfl rfl kk) ?_
  show Gl p e below s _ _ _ T3 (mkF m 59 #[.val (.int (3 : Int32)), .val (.ref a1)] [(.ref b1), (.ref b1)])
  refine Gl.st (fun _ kk => XS.iconst X3.here hx rfl (hb hby d2_59) kk) ?_
  show Gl p e below s _ _ _ T3 (mkF m 60 #[.val (.int (3 : Int32)), .val (.ref a1)] [(.int (1 : Int32)), (.ref b1), (.ref b1)])
  refine Gl.st (fun _ kk => XS.aloadN X3.here hx rfl (hb hby d2_60) rfl rfl kk) ?_
  show Gl p e below s _ _ _ T3 (mkF m 61 #[.val (.int (3 : Int32)), .val (.ref a1)] [(.ref a1), (.int (1 : Int32)), (.ref b1), (.ref b1)])
  refine Gl.st (fun _ kk => XS.iconst X3.here hx rfl (hb hby d2_61) kk) ?_
  show Gl p e below s _ _ _ T3 (mkF m 62 #[.val (.int (3 : Int32)), .val (.ref a1)] [(.int (1 : Int32)), (.ref a1), (.int (1 : Int32)), (.ref b1), (.ref b1)])
  obtain ⟨cl4, Ar4, q4, Sz4, Ng4, Ha4, Fi4⟩ := id Arv_a1
  have hin4 : ¬ ((1 : Int32) < 0 ∨ cl4.slots.size ≤ ((1 : Int32)).toNatClampNeg) := inb_of Sz4 ⟨by decide, by decide⟩
  have hat4 : cl4.slots[((1 : Int32)).toNatClampNeg]? = some (.int u1) := Ha4.at hin4 rfl
  refine Gl.st (fun _ kk => X3.caload hx (j := (1 : Int32)) (v := (.int u1)) (by rw [e3]; exact Ar4.1) (State.isArrayOf_alike hZ.alike Ar4.2.1) Ar4.2.2 hin4 hat4 (g := (mkF m 62 #[.val (.int (3 : Int32)), .val (.ref a1)] [(.int (1 : Int32)), (.ref a1), (.int (1 : Int32)), (.ref b1), (.ref b1)])) rfl rfl (hb hby d2_62) _ kk) ?_
  show Gl p e below s _ _ _ T3 (mkF m 63 #[.val (.int (3 : Int32)), .val (.ref a1)] [(.int u1), (.int (1 : Int32)), (.ref b1), (.ref b1)])
  obtain ⟨cl5, Ar5, q5, Sz5, Ng5, Ha5, Fi5⟩ := id Arv_b1
  have hin5 : ¬ ((1 : Int32) < 0 ∨ cl5.slots.size ≤ ((1 : Int32)).toNatClampNeg) := inb_of Sz5 ⟨by decide, by decide⟩
  obtain ⟨T5, h5, X5, e5, W5, st5⟩ := stC X3 hx hZ e3 Ar5 (j := (1 : Int32)) hin5 (g := (mkF m 63 #[.val (.int (3 : Int32)), .val (.ref a1)] [(.int u1), (.int (1 : Int32)), (.ref b1), (.ref b1)])) rfl rfl (hb hby d2_63)
  refine Gl.st st5 ?_
  replace Arv_b1 : Arv Z h5 b1 ka1 .char (3 : Int32) [(.int u0), (.int (nar .char u1)), (.int (0 : Int32))] (.int (0 : Int32)) := Arv.set Ar5 q5 Sz5 Ng5 Ha5 Fi5 (fits_nar_char _) W5 1 rfl (Nat.le_of_ble_eq_true rfl)
  rw [pk1] at Arv_b1
  replace Arv_a1 := Arv_a1.other W5 ne_a1_b1
  have O5 := O3.wr W5 ge_b1
  have K5 := K3.wr W5 (Or.inr fr_b1)
  have N5 := Fr.snoc X5 N3 ge_b1
  clear st5 W5 hin5 Fi5 Ha5 Ng5 Sz5 q5 Ar5 cl5
  clear O3 K3 N3 X3 e3
  show Gl p e below s _ _ _ T5 (mkF m 64 #[.val (.int (3 : Int32)), .val (.ref a1)] [(.ref b1)])
  refine Gl.st (fun _ kk => XS.dup X5.here hx rfl (hb hby d2_64) rfl rfl kk) ?_
  show Gl p e below s _ _ _ T5 (mkF m 65 #[.val (.int (3 : Int32)), .val (.ref a1)] [(.ref b1), (.ref b1)])
  refine Gl.st (fun _ kk => XS.iconst X5.here hx rfl (hb hby d2_65) kk) ?_
  show Gl p e below s _ _ _ T5 (mkF m 66 #[.val (.int (3 : Int32)), .val (.ref a1)] [(.int (2 : Int32)), (.ref b1), (.ref b1)])
  refine Gl.st (fun _ kk => XS.aloadN X5.here hx rfl (hb hby d2_66) rfl rfl kk) ?_
  show Gl p e below s _ _ _ T5 (mkF m 67 #[.val (.int (3 : Int32)), .val (.ref a1)] [(.ref a1), (.int (2 : Int32)), (.ref b1), (.ref b1)])
  refine Gl.st (fun _ kk => XS.iconst X5.here hx rfl (hb hby d2_67) kk) ?_
  show Gl p e below s _ _ _ T5 (mkF m 68 #[.val (.int (3 : Int32)), .val (.ref a1)] [(.int (2 : Int32)), (.ref a1), (.int (2 : Int32)), (.ref b1), (.ref b1)])
  obtain ⟨cl6, Ar6, q6, Sz6, Ng6, Ha6, Fi6⟩ := id Arv_a1
  have hin6 : ¬ ((2 : Int32) < 0 ∨ cl6.slots.size ≤ ((2 : Int32)).toNatClampNeg) := inb_of Sz6 ⟨by decide, by decide⟩
  have hat6 : cl6.slots[((2 : Int32)).toNatClampNeg]? = some (.int u2) := Ha6.at hin6 rfl
  refine Gl.st (fun _ kk => X5.caload hx (j := (2 : Int32)) (v := (.int u2)) (by rw [e5]; exact Ar6.1) (State.isArrayOf_alike hZ.alike Ar6.2.1) Ar6.2.2 hin6 hat6 (g := (mkF m 68 #[.val (.int (3 : Int32)), .val (.ref a1)] [(.int (2 : Int32)), (.ref a1), (.int (2 : Int32)), (.ref b1), (.ref b1)])) rfl rfl (hb hby d2_68) _ kk) ?_
  show Gl p e below s _ _ _ T5 (mkF m 69 #[.val (.int (3 : Int32)), .val (.ref a1)] [(.int u2), (.int (2 : Int32)), (.ref b1), (.ref b1)])
  obtain ⟨cl7, Ar7, q7, Sz7, Ng7, Ha7, Fi7⟩ := id Arv_b1
  have hin7 : ¬ ((2 : Int32) < 0 ∨ cl7.slots.size ≤ ((2 : Int32)).toNatClampNeg) := inb_of Sz7 ⟨by decide, by decide⟩
  obtain ⟨T7, h7, X7, e7, W7, st7⟩ := stC X5 hx hZ e5 Ar7 (j := (2 : Int32)) hin7 (g := (mkF m 69 #[.val (.int (3 : Int32)), .val (.ref a1)] [(.int u2), (.int (2 : Int32)), (.ref b1), (.ref b1)])) rfl rfl (hb hby d2_69)
  refine Gl.st st7 ?_
  replace Arv_b1 : Arv Z h7 b1 ka1 .char (3 : Int32) [(.int u0), (.int u1), (.int (nar .char u2))] (.int (0 : Int32)) := Arv.set Ar7 q7 Sz7 Ng7 Ha7 Fi7 (fits_nar_char _) W7 2 rfl (Nat.le_of_ble_eq_true rfl)
  rw [pk2] at Arv_b1
  replace Arv_a1 := Arv_a1.other W7 ne_a1_b1
  have O7 := O5.wr W7 ge_b1
  have K7 := K5.wr W7 (Or.inr fr_b1)
  have N7 := Fr.snoc X7 N5 ge_b1
  clear st7 W7 hin7 Fi7 Ha7 Ng7 Sz7 q7 Ar7 cl7
  clear O5 K5 N5 X5 e5
  show Gl p e below s _ _ _ T7 (mkF m 70 #[.val (.int (3 : Int32)), .val (.ref a1)] [(.ref b1)])
  exact Gl.ret X7 (v := (some (.ref b1))) (fun h => by rw [Bd.returns] at h; cases h) (BodyLoose.notSynchronized Bd) (fun hr => retOut X7 hx Bd.returns rfl (Or.inr (Or.inr (Or.inr (Or.inr ⟨rfl, rfl, rfl⟩)))) (hb hby d2_70) hr) e7 ⟨b1, ka1, rfl, N7, K7, Arv_b1, fr_b1⟩ (by decide) (by decide)
theorem d2_71 : decode method_5_code 71 = .ok (.iconst 4, 1) := by decide +kernel
theorem d2_72 : decode method_5_code 72 = .ok (.newarray .char, 2) := by decide +kernel
theorem d2_74 : decode method_5_code 74 = .ok (.dup, 1) := by decide +kernel
theorem d2_75 : decode method_5_code 75 = .ok (.iconst 0, 1) := by decide +kernel
theorem d2_76 : decode method_5_code 76 = .ok (.aload_n 1, 1) := by decide +kernel
theorem d2_77 : decode method_5_code 77 = .ok (.iconst 0, 1) := by decide +kernel
theorem d2_78 : decode method_5_code 78 = .ok (.caload, 1) := by decide +kernel
theorem d2_79 : decode method_5_code 79 = .ok (.castore, 1) := by decide +kernel
theorem d2_80 : decode method_5_code 80 = .ok (.dup, 1) := by decide +kernel
theorem d2_81 : decode method_5_code 81 = .ok (.iconst 1, 1) := by decide +kernel
theorem d2_82 : decode method_5_code 82 = .ok (.aload_n 1, 1) := by decide +kernel
theorem d2_83 : decode method_5_code 83 = .ok (.iconst 1, 1) := by decide +kernel
theorem d2_84 : decode method_5_code 84 = .ok (.caload, 1) := by decide +kernel
theorem d2_85 : decode method_5_code 85 = .ok (.castore, 1) := by decide +kernel
theorem d2_86 : decode method_5_code 86 = .ok (.dup, 1) := by decide +kernel
theorem d2_87 : decode method_5_code 87 = .ok (.iconst 2, 1) := by decide +kernel
theorem d2_88 : decode method_5_code 88 = .ok (.aload_n 1, 1) := by decide +kernel
theorem d2_89 : decode method_5_code 89 = .ok (.iconst 2, 1) := by decide +kernel
theorem d2_90 : decode method_5_code 90 = .ok (.caload, 1) := by decide +kernel
theorem d2_91 : decode method_5_code 91 = .ok (.castore, 1) := by decide +kernel
theorem d2_92 : decode method_5_code 92 = .ok (.dup, 1) := by decide +kernel
theorem d2_93 : decode method_5_code 93 = .ok (.iconst 3, 1) := by decide +kernel
theorem d2_94 : decode method_5_code 94 = .ok (.aload_n 1, 1) := by decide +kernel
theorem d2_95 : decode method_5_code 95 = .ok (.iconst 3, 1) := by decide +kernel
theorem d2_96 : decode method_5_code 96 = .ok (.caload, 1) := by decide +kernel
theorem d2_97 : decode method_5_code 97 = .ok (.castore, 1) := by decide +kernel
theorem d2_98 : decode method_5_code 98 = .ok (.areturn, 1) := by decide +kernel
theorem pn_rmMK4 : plainName "com/example/concurrency_quota/concurrencyquota/ServiceRequestTrimWhitespacePinLaw" = true := by first | (simp [plainName, overriddenIn]; done) | decide +kernel
theorem ef_rmMK4 (m : MethodId) (a1 : Addr) : entryFrame m #[(.int (4 : Int32)), (.ref a1)] 2 = mkF m 0 #[.val (.int (4 : Int32)), .val (.ref a1)] [] := by first | (simp [entryFrame, mkF, argsToLocals, Value.category]; done) | rfl
def Q_rmMK4 (Z : State) (a1 : Addr) (k1 : ClassId) (u0 u1 u2 u3 : Int32) (h0 : Heap) (n0 : Nat) (v : Option Value) (h : Heap) (L : List Loc) : Prop := ∃ (b : Addr) (k : ClassId), v = some (.ref b) ∧ Fr n0 L ∧ Keep h0 h [] ∧ Arv Z h b k .char (4 : Int32) [(.int u0), (.int u1), (.int u2), (.int u3)] (.int 0) ∧ h0.size ≤ b
set_option maxRecDepth 65536 in
set_option maxHeartbeats 40000000 in
theorem rmMK4 (l : Launch) (Z : State) (a0 : Array Value) (hw : ∀ d ∈ tables_1, d.before a0 Z = true) (ws : List Jvm.Cond) (a1 : Addr) (k1 : ClassId) (u0 u1 u2 u3 : Int32) (h0 : Heap) (n0 : Nat) (O0 : Old Z n0 h0) (Arv_a1 : Arv Z h0 a1 k1 .char 4 [(.int u0), (.int u1), (.int u2), (.int u3)] (.int 0)) (pk0 : nar .char u0 = u0) (pk1 : nar .char u1 = u1) (pk2 : nar .char u2 = u2) (pk3 : nar .char u3 = u3) :
    MetFree l (⟨"com/example/concurrency_quota/concurrencyquota/ServiceRequestTrimWhitespacePinLaw", "make", "(I[C)[C"⟩ : MethodName) (head1 (Jvm.Cond.code (⟨"com/example/concurrency_quota/concurrencyquota/ServiceRequestTrimWhitespacePinLaw", "make", "(I[C)[C"⟩ : MethodName) method_5_code 2 (some (.array .char)) :: ws) ({ frames := 0, cells := 1, slots := 4, locals := 0 } : Room)) (fun a U => a = #[(.int (4 : Int32)), (.ref a1)] ∧ Z.Warmed39 U.vm ∧ U.heap = h0) (fun _ _ _ _ _ => True) (fun _ U o U' => ∃ v L, o = .returned v ∧ Q_rmMK4 Z a1 k1 u0 u1 u2 u3 h0 n0 v U'.heap L ∧ FrameEnd U o U' L ({ frames := 0, cells := 1, slots := 4, locals := 0 } : Room).cells ({ frames := 0, cells := 1, slots := 4, locals := 0 } : Room).slots) := by
  refine MetFree.of_bodySF (plainFor_of_name pn_rmMK4) hisR ?_
  intro p e s m args below meth c s₁ Bd hml0 hP hK
  obtain ⟨rfl, hZ, hh⟩ := hP
  have hx := Bd.exec
  have hby := Bd.bytes
  have hml : c.maxLocals = 2 := hml0
  have hown : s.vm.findClass "com/example/concurrency_quota/concurrencyquota/ServiceRequestTrimWhitespacePinLaw" = some m.cls := findClass_of_methodNamed Bd.named
  have hnm := (name_of_methodNamed Bd.named Bd.method).1
  have X0 : Stand p l e ({ frames := 0, cells := 1, slots := 4, locals := 0 } : Room) s m #[(.int (4 : Int32)), (.ref a1)] below meth c s₁ [] 0 0 := Stand.of_body Bd
  have e0 : s₁.heap = h0 := by rw [← hh, Bd.state]; rfl
  have N0 := Fr.nil n0
  refine Gl.start (Q := Q_rmMK4 Z a1 k1 u0 u1 u2 u3 h0 n0) (ef_rmMK4 m a1) ?_
  show Gl p e below s _ _ _ s₁ (mkF m 0 #[.val (.int (4 : Int32)), .val (.ref a1)] [])
  refine Gl.st (fun _ kk => XS.iloadN X0.here hx rfl (hb hby d2_0) rfl kk) ?_
  show Gl p e below s _ _ _ s₁ (mkF m 1 #[.val (.int (4 : Int32)), .val (.ref a1)] [(.int (4 : Int32))])
  refine Gl.st (fun _ kk => XS.ifYes X0.here hx rfl (pc0 := 1) (pc' := 8) rfl (hb hby d2_1) rfl ((if0 _ _).trans (feq (by decide : ¬ ((4 : Int32) = (0 : Int32)))).2) (by decide) (by decide) kk) ?_
  show Gl p e below s _ _ _ s₁ (mkF m 8 #[.val (.int (4 : Int32)), .val (.ref a1)] [])
  refine Gl.st (fun _ kk => XS.iloadN X0.here hx rfl (hb hby d2_8) rfl kk) ?_
  show Gl p e below s _ _ _ s₁ (mkF m 9 #[.val (.int (4 : Int32)), .val (.ref a1)] [(.int (4 : Int32))])
  refine Gl.st (fun _ kk => XS.iconst X0.here hx rfl (hb hby d2_9) kk) ?_
  show Gl p e below s _ _ _ s₁ (mkF m 10 #[.val (.int (4 : Int32)), .val (.ref a1)] [(.int (1 : Int32)), (.int (4 : Int32))])
  refine Gl.st (fun _ kk => XS.icmpYes X0.here hx rfl (pc0 := 10) (pc' := 23) rfl (hb hby d2_10) rfl (feq (by decide : ¬ ((4 : Int32) = (1 : Int32)))).2 (by decide) (by decide) kk) ?_
  show Gl p e below s _ _ _ s₁ (mkF m 23 #[.val (.int (4 : Int32)), .val (.ref a1)] [])
  refine Gl.st (fun _ kk => XS.iloadN X0.here hx rfl (hb hby d2_23) rfl kk) ?_
  show Gl p e below s _ _ _ s₁ (mkF m 24 #[.val (.int (4 : Int32)), .val (.ref a1)] [(.int (4 : Int32))])
  refine Gl.st (fun _ kk => XS.iconst X0.here hx rfl (hb hby d2_24) kk) ?_
  show Gl p e below s _ _ _ s₁ (mkF m 25 #[.val (.int (4 : Int32)), .val (.ref a1)] [(.int (2 : Int32)), (.int (4 : Int32))])
  refine Gl.st (fun _ kk => XS.icmpYes X0.here hx rfl (pc0 := 25) (pc' := 44) rfl (hb hby d2_25) rfl (feq (by decide : ¬ ((4 : Int32) = (2 : Int32)))).2 (by decide) (by decide) kk) ?_
  show Gl p e below s _ _ _ s₁ (mkF m 44 #[.val (.int (4 : Int32)), .val (.ref a1)] [])
  refine Gl.st (fun _ kk => XS.iloadN X0.here hx rfl (hb hby d2_44) rfl kk) ?_
  show Gl p e below s _ _ _ s₁ (mkF m 45 #[.val (.int (4 : Int32)), .val (.ref a1)] [(.int (4 : Int32))])
  refine Gl.st (fun _ kk => XS.iconst X0.here hx rfl (hb hby d2_45) kk) ?_
  show Gl p e below s _ _ _ s₁ (mkF m 46 #[.val (.int (4 : Int32)), .val (.ref a1)] [(.int (3 : Int32)), (.int (4 : Int32))])
  refine Gl.st (fun _ kk => XS.icmpYes X0.here hx rfl (pc0 := 46) (pc' := 71) rfl (hb hby d2_46) rfl (feq (by decide : ¬ ((4 : Int32) = (3 : Int32)))).2 (by decide) (by decide) kk) ?_
  show Gl p e below s _ _ _ s₁ (mkF m 71 #[.val (.int (4 : Int32)), .val (.ref a1)] [])
  refine Gl.st (fun _ kk => XS.iconst X0.here hx rfl (hb hby d2_71) kk) ?_
  show Gl p e below s _ _ _ s₁ (mkF m 72 #[.val (.int (4 : Int32)), .val (.ref a1)] [(.int (4 : Int32))])
  obtain ⟨T1, h1, ka1, X1, e1, E1, A1, st1⟩ := newP X0 hx hZ (hw _ (List.mem_of_getElem? (i := 1) rfl)) e0 (g := (mkF m 72 #[.val (.int (4 : Int32)), .val (.ref a1)] [(.int (4 : Int32))])) rfl (hb hby d2_72) rfl (by decide) (cap := 4) (by decide) (by decide) (by decide) (by decide)
  obtain ⟨b1, g1⟩ : ∃ z, z = h0.size := ⟨_, rfl⟩
  rw [← g1] at A1 st1
  refine Gl.st st1 ?_
  have ne_a1_b1 : a1 ≠ b1 := Nat.ne_of_lt (Nat.lt_of_lt_of_eq Arv_a1.lt g1.symm)
  have ge_b1 : n0 ≤ b1 := Nat.le_trans (Nat.le_trans (Nat.le_of_eq O0.1.symm) O0.2.1) (Nat.le_of_eq g1.symm)
  have fr_b1 : h0.size ≤ b1 := Nat.le_trans (Nat.le_refl _) (Nat.le_of_eq g1.symm)
  replace Arv_a1 := Arv_a1.ext E1
  have O1 := O0.ext E1
  have K1 := (Keep.refl h0 []).ext E1
  have Arv_b1 : Arv Z h1 b1 ka1 .char (4 : Int32) [(.int (0 : Int32)), (.int (0 : Int32)), (.int (0 : Int32)), (.int (0 : Int32))] (.int (0 : Int32)) := (Arv.new A1 (by decide)).pad (pad_rep [] (.int (0 : Int32)) 4)
  show Gl p e below s _ _ _ T1 (mkF m 74 #[.val (.int (4 : Int32)), .val (.ref a1)] [(.ref b1)])
  refine Gl.st (fun _ kk => XS.dup X1.here hx rfl (hb hby d2_74) rfl rfl kk) ?_
  show Gl p e below s _ _ _ T1 (mkF m 75 #[.val (.int (4 : Int32)), .val (.ref a1)] [(.ref b1), (.ref b1)])
  refine Gl.st (fun _ kk => XS.iconst X1.here hx rfl (hb hby d2_75) kk) ?_
  show Gl p e below s _ _ _ T1 (mkF m 76 #[.val (.int (4 : Int32)), .val (.ref a1)] [(.int (0 : Int32)), (.ref b1), (.ref b1)])
  refine Gl.st (fun _ kk => XS.aloadN X1.here hx rfl (hb hby d2_76) rfl rfl kk) ?_
  show Gl p e below s _ _ _ T1 (mkF m 77 #[.val (.int (4 : Int32)), .val (.ref a1)] [(.ref a1), (.int (0 : Int32)), (.ref b1), (.ref b1)])
  refine Gl.st (fun _ kk => XS.iconst X1.here hx rfl (hb hby d2_77) kk) ?_
  show Gl p e below s _ _ _ T1 (mkF m 78 #[.val (.int (4 : Int32)), .val (.ref a1)] [(.int (0 : Int32)), (.ref a1), (.int (0 : Int32)), (.ref b1), (.ref b1)])
  obtain ⟨cl2, Ar2, q2, Sz2, Ng2, Ha2, Fi2⟩ := id Arv_a1
  have hin2 : ¬ ((0 : Int32) < 0 ∨ cl2.slots.size ≤ ((0 : Int32)).toNatClampNeg) := inb_of Sz2 ⟨by decide, by decide⟩
  have hat2 : cl2.slots[((0 : Int32)).toNatClampNeg]? = some (.int u0) := Ha2.at hin2 rfl
  refine Gl.st (fun _ kk => X1.caload hx (j := (0 : Int32)) (v := (.int u0)) (by rw [e1]; exact Ar2.1) (State.isArrayOf_alike hZ.alike Ar2.2.1) Ar2.2.2 hin2 hat2 (g := (mkF m 78 #[.val (.int (4 : Int32)), .val (.ref a1)] [(.int (0 : Int32)), (.ref a1), (.int (0 : Int32)), (.ref b1), (.ref b1)])) rfl rfl (hb hby d2_78) _ kk) ?_
  show Gl p e below s _ _ _ T1 (mkF m 79 #[.val (.int (4 : Int32)), .val (.ref a1)] [(.int u0), (.int (0 : Int32)), (.ref b1), (.ref b1)])
  obtain ⟨cl3, Ar3, q3, Sz3, Ng3, Ha3, Fi3⟩ := id Arv_b1
  have hin3 : ¬ ((0 : Int32) < 0 ∨ cl3.slots.size ≤ ((0 : Int32)).toNatClampNeg) := inb_of Sz3 ⟨by decide, by decide⟩
  obtain ⟨T3, h3, X3, e3, W3, st3⟩ := stC X1 hx hZ e1 Ar3 (j := (0 : Int32)) hin3 (g := (mkF m 79 #[.val (.int (4 : Int32)), .val (.ref a1)] [(.int u0), (.int (0 : Int32)), (.ref b1), (.ref b1)])) rfl rfl (hb hby d2_79)
  refine Gl.st st3 ?_
  replace Arv_b1 : Arv Z h3 b1 ka1 .char (4 : Int32) [(.int (nar .char u0)), (.int (0 : Int32)), (.int (0 : Int32)), (.int (0 : Int32))] (.int (0 : Int32)) := Arv.set Ar3 q3 Sz3 Ng3 Ha3 Fi3 (fits_nar_char _) W3 0 rfl (Nat.le_of_ble_eq_true rfl)
  rw [pk0] at Arv_b1
  replace Arv_a1 := Arv_a1.other W3 ne_a1_b1
  have O3 := O1.wr W3 ge_b1
  have K3 := K1.wr W3 (Or.inr fr_b1)
  have N3 := Fr.snoc X3 N0 ge_b1
  clear st3 W3 hin3 Fi3 Ha3 Ng3 Sz3 q3 Ar3 cl3
  clear O1 K1 X1 e1
  show Gl p e below s _ _ _ T3 (mkF m 80 #[.val (.int (4 : Int32)), .val (.ref a1)] [(.ref b1)])
  refine Gl.st (fun _ kk => XS.dup X3.here hx rfl (hb hby d2_80) rfl rfl kk) ?_
  show Gl p e below s _ _ _ T3 (mkF m 81 #[.val (.int (4 : Int32)), .val (.ref a1)] [(.ref b1), (.ref b1)])
  refine Gl.st (fun _ kk => XS.iconst X3.here hx rfl (hb hby d2_81) kk) ?_
  show Gl p e below s _ _ _ T3 (mkF m 82 #[.val (.int (4 : Int32)), .val (.ref a1)] [(.int (1 : Int32)), (.ref b1), (.ref b1)])
  refine Gl.st (fun _ kk => XS.aloadN X3.here hx rfl (hb hby d2_82) rfl rfl kk) ?_
  show Gl p e below s _ _ _ T3 (mkF m 83 #[.val (.int (4 : Int32)), .val (.ref a1)] [(.ref a1), (.int (1 : Int32)), (.ref b1), (.ref b1)])
  refine Gl.st (fun _ kk => XS.iconst X3.here hx rfl (hb hby d2_83) kk) ?_
  show Gl p e below s _ _ _ T3 (mkF m 84 #[.val (.int (4 : Int32)), .val (.ref a1)] [(.int (1 : Int32)), (.ref a1), (.int (1 : Int32)), (.ref b1), (.ref b1)])
  obtain ⟨cl4, Ar4, q4, Sz4, Ng4, Ha4, Fi4⟩ := id Arv_a1
  have hin4 : ¬ ((1 : Int32) < 0 ∨ cl4.slots.size ≤ ((1 : Int32)).toNatClampNeg) := inb_of Sz4 ⟨by decide, by decide⟩
  have hat4 : cl4.slots[((1 : Int32)).toNatClampNeg]? = some (.int u1) := Ha4.at hin4 rfl
  refine Gl.st (fun _ kk => X3.caload hx (j := (1 : Int32)) (v := (.int u1)) (by rw [e3]; exact Ar4.1) (State.isArrayOf_alike hZ.alike Ar4.2.1) Ar4.2.2 hin4 hat4 (g := (mkF m 84 #[.val (.int (4 : Int32)), .val (.ref a1)] [(.int (1 : Int32)), (.ref a1), (.int (1 : Int32)), (.ref b1), (.ref b1)])) rfl rfl (hb hby d2_84) _ kk) ?_
  show Gl p e below s _ _ _ T3 (mkF m 85 #[.val (.int (4 : Int32)), .val (.ref a1)] [(.int u1), (.int (1 : Int32)), (.ref b1), (.ref b1)])
  obtain ⟨cl5, Ar5, q5, Sz5, Ng5, Ha5, Fi5⟩ := id Arv_b1
  have hin5 : ¬ ((1 : Int32) < 0 ∨ cl5.slots.size ≤ ((1 : Int32)).toNatClampNeg) := inb_of Sz5 ⟨by decide, by decide⟩
  obtain ⟨T5, h5, X5, e5, W5, st5⟩ := stC X3 hx hZ e3 Ar5 (j := (1 : Int32)) hin5 (g := (mkF m 85 #[.val (.int (4 : Int32)), .val (.ref a1)] [(.int u1), (.int (1 : Int32)), (.ref b1), (.ref b1)])) rfl rfl (hb hby d2_85)
  refine Gl.st st5 ?_
  replace Arv_b1 : Arv Z h5 b1 ka1 .char (4 : Int32) [(.int u0), (.int (nar .char u1)), (.int (0 : Int32)), (.int (0 : Int32))] (.int (0 : Int32)) := Arv.set Ar5 q5 Sz5 Ng5 Ha5 Fi5 (fits_nar_char _) W5 1 rfl (Nat.le_of_ble_eq_true rfl)
  rw [pk1] at Arv_b1
  replace Arv_a1 := Arv_a1.other W5 ne_a1_b1
  have O5 := O3.wr W5 ge_b1
  have K5 := K3.wr W5 (Or.inr fr_b1)
  have N5 := Fr.snoc X5 N3 ge_b1
  clear st5 W5 hin5 Fi5 Ha5 Ng5 Sz5 q5 Ar5 cl5
  clear O3 K3 N3 X3 e3
  show Gl p e below s _ _ _ T5 (mkF m 86 #[.val (.int (4 : Int32)), .val (.ref a1)] [(.ref b1)])
  refine Gl.st (fun _ kk => XS.dup X5.here hx rfl (hb hby d2_86) rfl rfl kk) ?_
  show Gl p e below s _ _ _ T5 (mkF m 87 #[.val (.int (4 : Int32)), .val (.ref a1)] [(.ref b1), (.ref b1)])
  refine Gl.st (fun _ kk => XS.iconst X5.here hx rfl (hb hby d2_87) kk) ?_
  show Gl p e below s _ _ _ T5 (mkF m 88 #[.val (.int (4 : Int32)), .val (.ref a1)] [(.int (2 : Int32)), (.ref b1), (.ref b1)])
  refine Gl.st (fun _ kk => XS.aloadN X5.here hx rfl (hb hby d2_88) rfl rfl kk) ?_
  show Gl p e below s _ _ _ T5 (mkF m 89 #[.val (.int (4 : Int32)), .val (.ref a1)] [(.ref a1), (.int (2 : Int32)), (.ref b1), (.ref b1)])
  refine Gl.st (fun _ kk => XS.iconst X5.here hx rfl (hb hby d2_89) kk) ?_
  show Gl p e below s _ _ _ T5 (mkF m 90 #[.val (.int (4 : Int32)), .val (.ref a1)] [(.int (2 : Int32)), (.ref a1), (.int (2 : Int32)), (.ref b1), (.ref b1)])
  obtain ⟨cl6, Ar6, q6, Sz6, Ng6, Ha6, Fi6⟩ := id Arv_a1
  have hin6 : ¬ ((2 : Int32) < 0 ∨ cl6.slots.size ≤ ((2 : Int32)).toNatClampNeg) := inb_of Sz6 ⟨by decide, by decide⟩
  have hat6 : cl6.slots[((2 : Int32)).toNatClampNeg]? = some (.int u2) := Ha6.at hin6 rfl
  refine Gl.st (fun _ kk => X5.caload hx (j := (2 : Int32)) (v := (.int u2)) (by rw [e5]; exact Ar6.1) (State.isArrayOf_alike hZ.alike Ar6.2.1) Ar6.2.2 hin6 hat6 (g := (mkF m 90 #[.val (.int (4 : Int32)), .val (.ref a1)] [(.int (2 : Int32)), (.ref a1), (.int (2 : Int32)), (.ref b1), (.ref b1)])) rfl rfl (hb hby d2_90) _ kk) ?_
  show Gl p e below s _ _ _ T5 (mkF m 91 #[.val (.int (4 : Int32)), .val (.ref a1)] [(.int u2), (.int (2 : Int32)), (.ref b1), (.ref b1)])
  obtain ⟨cl7, Ar7, q7, Sz7, Ng7, Ha7, Fi7⟩ := id Arv_b1
  have hin7 : ¬ ((2 : Int32) < 0 ∨ cl7.slots.size ≤ ((2 : Int32)).toNatClampNeg) := inb_of Sz7 ⟨by decide, by decide⟩
  obtain ⟨T7, h7, X7, e7, W7, st7⟩ := stC X5 hx hZ e5 Ar7 (j := (2 : Int32)) hin7 (g := (mkF m 91 #[.val (.int (4 : Int32)), .val (.ref a1)] [(.int u2), (.int (2 : Int32)), (.ref b1), (.ref b1)])) rfl rfl (hb hby d2_91)
  refine Gl.st st7 ?_
  replace Arv_b1 : Arv Z h7 b1 ka1 .char (4 : Int32) [(.int u0), (.int u1), (.int (nar .char u2)), (.int (0 : Int32))] (.int (0 : Int32)) := Arv.set Ar7 q7 Sz7 Ng7 Ha7 Fi7 (fits_nar_char _) W7 2 rfl (Nat.le_of_ble_eq_true rfl)
  rw [pk2] at Arv_b1
  replace Arv_a1 := Arv_a1.other W7 ne_a1_b1
  have O7 := O5.wr W7 ge_b1
  have K7 := K5.wr W7 (Or.inr fr_b1)
  have N7 := Fr.snoc X7 N5 ge_b1
  clear st7 W7 hin7 Fi7 Ha7 Ng7 Sz7 q7 Ar7 cl7
  clear O5 K5 N5 X5 e5
  show Gl p e below s _ _ _ T7 (mkF m 92 #[.val (.int (4 : Int32)), .val (.ref a1)] [(.ref b1)])
  refine Gl.st (fun _ kk => XS.dup X7.here hx rfl (hb hby d2_92) rfl rfl kk) ?_
  show Gl p e below s _ _ _ T7 (mkF m 93 #[.val (.int (4 : Int32)), .val (.ref a1)] [(.ref b1), (.ref b1)])
  refine Gl.st (fun _ kk => XS.iconst X7.here hx rfl (hb hby d2_93) kk) ?_
  show Gl p e below s _ _ _ T7 (mkF m 94 #[.val (.int (4 : Int32)), .val (.ref a1)] [(.int (3 : Int32)), (.ref b1), (.ref b1)])
  refine Gl.st (fun _ kk => XS.aloadN X7.here hx rfl (hb hby d2_94) rfl rfl kk) ?_
  show Gl p e below s _ _ _ T7 (mkF m 95 #[.val (.int (4 : Int32)), .val (.ref a1)] [(.ref a1), (.int (3 : Int32)), (.ref b1), (.ref b1)])
  refine Gl.st (fun _ kk => XS.iconst X7.here hx rfl (hb hby d2_95) kk) ?_
  show Gl p e below s _ _ _ T7 (mkF m 96 #[.val (.int (4 : Int32)), .val (.ref a1)] [(.int (3 : Int32)), (.ref a1), (.int (3 : Int32)), (.ref b1), (.ref b1)])
  obtain ⟨cl8, Ar8, q8, Sz8, Ng8, Ha8, Fi8⟩ := id Arv_a1
  have hin8 : ¬ ((3 : Int32) < 0 ∨ cl8.slots.size ≤ ((3 : Int32)).toNatClampNeg) := inb_of Sz8 ⟨by decide, by decide⟩
  have hat8 : cl8.slots[((3 : Int32)).toNatClampNeg]? = some (.int u3) := Ha8.at hin8 rfl
  refine Gl.st (fun _ kk => X7.caload hx (j := (3 : Int32)) (v := (.int u3)) (by rw [e7]; exact Ar8.1) (State.isArrayOf_alike hZ.alike Ar8.2.1) Ar8.2.2 hin8 hat8 (g := (mkF m 96 #[.val (.int (4 : Int32)), .val (.ref a1)] [(.int (3 : Int32)), (.ref a1), (.int (3 : Int32)), (.ref b1), (.ref b1)])) rfl rfl (hb hby d2_96) _ kk) ?_
  show Gl p e below s _ _ _ T7 (mkF m 97 #[.val (.int (4 : Int32)), .val (.ref a1)] [(.int u3), (.int (3 : Int32)), (.ref b1), (.ref b1)])
  obtain ⟨cl9, Ar9, q9, Sz9, Ng9, Ha9, Fi9⟩ := id Arv_b1
  have hin9 : ¬ ((3 : Int32) < 0 ∨ cl9.slots.size ≤ ((3 : Int32)).toNatClampNeg) := inb_of Sz9 ⟨by decide, by decide⟩
  obtain ⟨T9, h9, X9, e9, W9, st9⟩ := stC X7 hx hZ e7 Ar9 (j := (3 : Int32)) hin9 (g := (mkF m 97 #[.val (.int (4 : Int32)), .val (.ref a1)] [(.int u3), (.int (3 : Int32)), (.ref b1), (.ref b1)])) rfl rfl (hb hby d2_97)
  refine Gl.st st9 ?_
  replace Arv_b1 : Arv Z h9 b1 ka1 .char (4 : Int32) [(.int u0), (.int u1), (.int u2), (.int (nar .char u3))] (.int (0 : Int32)) := Arv.set Ar9 q9 Sz9 Ng9 Ha9 Fi9 (fits_nar_char _) W9 3 rfl (Nat.le_of_ble_eq_true rfl)
  rw [pk3] at Arv_b1
  replace Arv_a1 := Arv_a1.other W9 ne_a1_b1
  have O9 := O7.wr W9 ge_b1
  have K9 := K7.wr W9 (Or.inr fr_b1)
  have N9 := Fr.snoc X9 N7 ge_b1
  clear st9 W9 hin9 Fi9 Ha9 Ng9 Sz9 q9 Ar9 cl9
  clear O7 K7 N7 X7 e7
  show Gl p e below s _ _ _ T9 (mkF m 98 #[.val (.int (4 : Int32)), .val (.ref a1)] [(.ref b1)])
  exact Gl.ret X9 (v := (some (.ref b1))) (fun h => by rw [Bd.returns] at h; cases h) (BodyLoose.notSynchronized Bd) (fun hr => retOut X9 hx Bd.returns rfl (Or.inr (Or.inr (Or.inr (Or.inr ⟨rfl, rfl, rfl⟩)))) (hb hby d2_98) hr) e9 ⟨b1, ka1, rfl, N9, K9, Arv_b1, fr_b1⟩ (by decide) (by decide)
theorem d13_0 : decode method_6_code 0 = .ok (.iload 4, 2) := by decide +kernel
theorem d13_2 : decode method_6_code 2 = .ok (.iload_n 1, 1) := by decide +kernel
theorem d13_3 : decode method_6_code 3 = .ok (.if_icmp .ge 18, 3) := by decide +kernel
theorem d13_6 : decode method_6_code 6 = .ok (.aload_n 0, 1) := by decide +kernel
theorem d13_7 : decode method_6_code 7 = .ok (.iload 4, 2) := by decide +kernel
theorem d13_9 : decode method_6_code 9 = .ok (.invokevirtual 13, 3) := by decide +kernel
theorem d13_12 : decode method_6_code 12 = .ok (.aload_n 2, 1) := by decide +kernel
theorem d13_13 : decode method_6_code 13 = .ok (.iload_n 3, 1) := by decide +kernel
theorem d13_14 : decode method_6_code 14 = .ok (.iload 4, 2) := by decide +kernel
theorem d13_16 : decode method_6_code 16 = .ok (.iadd, 1) := by decide +kernel
theorem d13_17 : decode method_6_code 17 = .ok (.caload, 1) := by decide +kernel
theorem d13_18 : decode method_6_code 18 = .ok (.if_icmp .ne 7, 3) := by decide +kernel
theorem d13_21 : decode method_6_code 21 = .ok (.iconst 1, 1) := by decide +kernel
theorem d13_22 : decode method_6_code 22 = .ok (.goto 4, 3) := by decide +kernel
theorem d13_26 : decode method_6_code 26 = .ok (.ireturn, 1) := by decide +kernel
theorem pd_rmA0_0 : parseMethodDescriptor "(I)C" = some ⟨[.int], some .char⟩ := by decide +kernel
theorem pn_rmA0 : plainName "com/example/concurrency_quota/concurrencyquota/ServiceRequestTrimWhitespacePinLaw" = true := by first | (simp [plainName, overriddenIn]; done) | decide +kernel
theorem ef_rmA0 (m : MethodId) (x : Addr) (q1 : Int32) (a1 : Addr) (f1 : Int32) : entryFrame m #[(.ref x), (.int q1), (.ref a1), (.int f1), (.int (0 : Int32))] 5 = mkF m 0 #[.val (.ref x), .val (.int q1), .val (.ref a1), .val (.int f1), .val (.int (0 : Int32))] [] := by first | (simp [entryFrame, mkF, argsToLocals, Value.category]; done) | rfl
def Q_rmA0 (Z : State) (x : Addr) (q1 : Int32) (a1 : Addr) (f1 : Int32) (t : Addr) (k : ClassId) (cs : List Int32) (fm : Value) (cz : Int32) (k1 : ClassId) (u0 u1 u2 u3 : Int32) (j : Nat) (h0 : Heap) (n0 : Nat) (v : Option Value) (h : Heap) (L : List Loc) : Prop := v = some (.int 1) ∧ Fr n0 L ∧ h = h0
set_option maxRecDepth 65536 in
set_option maxHeartbeats 40000000 in
theorem rmA0 (l : Launch) (Z : State) (a0 : Array Value) (hw : ∀ d ∈ tables_1, d.before a0 Z = true) (ws : List Jvm.Cond) (x : Addr) (q1 : Int32) (a1 : Addr) (f1 : Int32) (t : Addr) (k : ClassId) (cs : List Int32) (fm : Value) (cz : Int32) (k1 : ClassId) (u0 u1 u2 u3 : Int32) (j : Nat) (h0 : Heap) (n0 : Nat) (O0 : Old Z n0 h0) (hq1 : q1 = Int32.ofNat cs.length) (hf1 : f1 = Int32.ofNat j) (Exa_x : Exa Z h0 x "java/lang/String") (F_value_x : Fld Z h0 x "java/lang/String" "value" "[B" (.ref t)) (F_coder_x : Fld Z h0 x "java/lang/String" "coder" "B" (.int 0)) (Arv_t : Arv Z h0 t k .byte (Int32.ofNat cs.length) ((cs.map StrChars.lo8).map Value.int) (.int 0)) (hp : ∀ c ∈ cs, ¬ c < 0 ∧ ¬ (255 : Int32) < c) (hl4 : cs.length ≤ 4) (Arv_a1 : Arv Z h0 a1 k1 .char 4 [(.int u0), (.int u1), (.int u2), (.int u3)] (.int 0)) (hjl : j + cs.length ≤ 4) (heq : ∀ i, i < cs.length → cs.getD i 0 = ([u0, u1, u2, u3] : List Int32).getD (j + i) 0) (S_COMPACT : Sta Z Z.heap "java/lang/String" "COMPACT_STRINGS" "Z" (.int cz)) (hcz : ¬ cz = 0) (S_SI : Sta Z Z.heap "jdk/internal/util/Preconditions" "SIOOBE_FORMATTER" "Ljava/util/function/BiFunction;" fm) (rG : fm.isRef = true) :
    MetFree l (⟨"com/example/concurrency_quota/concurrencyquota/ServiceRequestTrimWhitespacePinLaw", "at", "(Ljava/lang/String;I[CII)Z"⟩ : MethodName) (head1 (Jvm.Cond.code (⟨"com/example/concurrency_quota/concurrencyquota/ServiceRequestTrimWhitespacePinLaw", "at", "(Ljava/lang/String;I[CII)Z"⟩ : MethodName) method_6_code 5 (some .boolean) :: ws) ({ frames := 4, cells := 0, slots := 0, locals := 53 } : Room)) (fun a U => a = #[(.ref x), (.int q1), (.ref a1), (.int f1), (.int (0 : Int32))] ∧ Z.Warmed39 U.vm ∧ U.heap = h0) (fun _ _ _ _ _ => True) (fun _ U o U' => ∃ v L, o = .returned v ∧ Q_rmA0 Z x q1 a1 f1 t k cs fm cz k1 u0 u1 u2 u3 j h0 n0 v U'.heap L ∧ FrameEnd U o U' L ({ frames := 4, cells := 0, slots := 0, locals := 53 } : Room).cells ({ frames := 4, cells := 0, slots := 0, locals := 53 } : Room).slots) := by
  refine MetFree.of_bodySF (plainFor_of_name pn_rmA0) hisR ?_
  intro p e s m args below meth c s₁ Bd hml0 hP hK
  obtain ⟨rfl, hZ, hh⟩ := hP
  have hx := Bd.exec
  have hby := Bd.bytes
  have hml : c.maxLocals = 5 := hml0
  have hown : s.vm.findClass "com/example/concurrency_quota/concurrencyquota/ServiceRequestTrimWhitespacePinLaw" = some m.cls := findClass_of_methodNamed Bd.named
  have hnm := (name_of_methodNamed Bd.named Bd.method).1
  have X0 : Stand p l e ({ frames := 4, cells := 0, slots := 0, locals := 53 } : Room) s m #[(.ref x), (.int q1), (.ref a1), (.int f1), (.int (0 : Int32))] below meth c s₁ [] 0 0 := Stand.of_body Bd
  have e0 : s₁.heap = h0 := by rw [← hh, Bd.state]; rfl
  have N0 := Fr.nil n0
  refine Gl.start (Q := Q_rmA0 Z x q1 a1 f1 t k cs fm cz k1 u0 u1 u2 u3 j h0 n0) (ef_rmA0 m x q1 a1 f1) ?_
  have hcd := StrChars.Road.codOf (cs := cs) rfl (fun c hc => (hp c hc).2)
  have hbd := own_up hp
  have hwln : ∀ d ∈ StrChars.Road.wordsLen, d.before a0 Z = true := fun d hd => hw d ((by decide +kernel : ∀ d ∈ StrChars.Road.wordsLen, d ∈ tables_1) d hd)
  have hwch : ∀ d ∈ StrChars.Road.wordsChN, d.before a0 Z = true := fun d hd => hw d ((by decide +kernel : ∀ d ∈ StrChars.Road.wordsChN, d ∈ tables_1) d hd)
  have hl4k : cs.length ≤ 4000 := by omega
  subst hq1 hf1
  have hlb : cs.length < 2 ^ 31 := by omega
  show Gl p e below s _ _ _ s₁ (mkF m 0 #[.val (.ref x), .val (.int (Int32.ofNat cs.length)), .val (.ref a1), .val (.int (Int32.ofNat j)), .val (.int (0 : Int32))] [])
  refine Gl.st (fun _ kk => XS.iload X0.here hx rfl (hb hby d13_0) rfl kk) ?_
  show Gl p e below s _ _ _ s₁ (mkF m 2 #[.val (.ref x), .val (.int (Int32.ofNat cs.length)), .val (.ref a1), .val (.int (Int32.ofNat j)), .val (.int (0 : Int32))] [(.int (0 : Int32))])
  refine Gl.st (fun _ kk => XS.iloadN X0.here hx rfl (hb hby d13_2) rfl kk) ?_
  show Gl p e below s _ _ _ s₁ (mkF m 3 #[.val (.ref x), .val (.int (Int32.ofNat cs.length)), .val (.ref a1), .val (.int (Int32.ofNat j)), .val (.int (0 : Int32))] [(.int (Int32.ofNat cs.length)), (.int (0 : Int32))])
  by_cases hc3 : (0 : Int32) < (Int32.ofNat cs.length)
  · skip
    refine Gl.st (fun _ kk => XS.icmpNo X0.here hx rfl (hb hby d13_3) rfl (tlt hc3).2.1 kk) ?_
    show Gl p e below s _ _ _ s₁ (mkF m 6 #[.val (.ref x), .val (.int (Int32.ofNat cs.length)), .val (.ref a1), .val (.int (Int32.ofNat j)), .val (.int (0 : Int32))] [])
    have hi : 0 < cs.length := (own_ofNat_lt (a := 0) (by decide) hlb).mp hc3
    refine Gl.st (fun _ kk => XS.aloadN X0.here hx rfl (hb hby d13_6) rfl rfl kk) ?_
    show Gl p e below s _ _ _ s₁ (mkF m 7 #[.val (.ref x), .val (.int (Int32.ofNat cs.length)), .val (.ref a1), .val (.int (Int32.ofNat j)), .val (.int (0 : Int32))] [(.ref x)])
    refine Gl.st (fun _ kk => XS.iload X0.here hx rfl (hb hby d13_7) rfl kk) ?_
    show Gl p e below s _ _ _ s₁ (mkF m 9 #[.val (.ref x), .val (.int (Int32.ofNat cs.length)), .val (.ref a1), .val (.int (Int32.ofNat j)), .val (.int (0 : Int32))] [(.int (0 : Int32)), (.ref x)])
    obtain ⟨cq1, kq1, qa1, qb1, qc1⟩ := isOf hZ e0 Exa_x
    obtain ⟨v1, _, ⟨T1, L1, kQ1, nQ1⟩, -, X1, ⟨Lc1, hQ1, l1, y1, z1⟩, st1⟩ := X0.virtualBack hx (y := (⟨"java/lang/String", "charAt", "(I)C"⟩ : MethodName)) (z := (⟨"java/lang/String", "charAt", "(I)C"⟩ : MethodName)) hown (mvT hZ (hw _ (List.mem_of_getElem? (i := 124) rfl))) (mvT hZ (hw _ (List.mem_of_getElem? (i := 77) rfl))) (notFace_of_selects (args := #[]) (mvT hZ (hw _ (List.mem_of_getElem? (i := 79) rfl)))) (mvT hZ (hw _ (List.mem_of_getElem? (i := 79) rfl))) (mvT hZ (hw _ (List.mem_of_getElem? (i := 78) rfl))) (by decide) (StrChars.Road.chN (W := 0) hZ hwch (kI := 4) (hw _ (List.mem_of_getElem? (i := 7) rfl)) (cs := cs) Exa_x F_value_x F_coder_x Arv_t hcd hbd (S_COMPACT.ext O0.2) hcz (S_SI.ext O0.2) rG hl4k (i := 0) hi (j := (0 : Int32)) rfl (by decide) (by decide)) qa1 qc1 (g := (mkF m 9 #[.val (.ref x), .val (.int (Int32.ofNat cs.length)), .val (.ref a1), .val (.int (Int32.ofNat j)), .val (.int (0 : Int32))] [(.int (0 : Int32)), (.ref x)])) rfl (by rw [hml]; rfl) (Steps.refl _) (argsL := [(.int (0 : Int32))]) (rest := []) (lenOf pd_rmA0_0 rfl) rfl (by show 2 * 0 + _ ≤ _; exact Nat.le_of_eq rfl) (hb hby d13_9) (fun _ _ => ⟨rfl, e0, (by decide : 0 + 0 ≤ _), (by decide : 0 + 0 ≤ _)⟩)
    dsimp only [Pt.U, Pt.locs, Pt.cells, Pt.slots] at X1 l1 y1 z1 st1 hQ1
    subst y1 z1
    obtain ⟨hv1, hl1, e1⟩ := hQ1
    subst hv1 hl1
    have Nq1 := Fr.nil n0
    have N1 : Fr n0 L1 := l1 ▸ Fr.app N0 Nq1
    refine Gl.st (fun _ kk => st1.trans kk) ?_
    clear st1 qc1 qb1 qa1 kq1 cq1
    show Gl p e below s _ _ _ T1 (mkF m 12 #[.val (.ref x), .val (.int (Int32.ofNat cs.length)), .val (.ref a1), .val (.int (Int32.ofNat j)), .val (.int (0 : Int32))] [(.int (cs.getD 0 0))])
    have hj4 : j = 0 ∨ j = 1 ∨ j = 2 ∨ j = 3 := by omega
    rcases hj4 with rfl | rfl | rfl | rfl
    · skip
      show Gl p e below s _ _ _ T1 (mkF m 12 #[.val (.ref x), .val (.int (Int32.ofNat cs.length)), .val (.ref a1), .val (.int (0 : Int32)), .val (.int (0 : Int32))] [(.int (cs.getD 0 0))])
      refine Gl.st (fun _ kk => XS.aloadN X1.here hx rfl (hb hby d13_12) rfl rfl kk) ?_
      show Gl p e below s _ _ _ T1 (mkF m 13 #[.val (.ref x), .val (.int (Int32.ofNat cs.length)), .val (.ref a1), .val (.int (0 : Int32)), .val (.int (0 : Int32))] [(.ref a1), (.int (cs.getD 0 0))])
      refine Gl.st (fun _ kk => XS.iloadN X1.here hx rfl (hb hby d13_13) rfl kk) ?_
      show Gl p e below s _ _ _ T1 (mkF m 14 #[.val (.ref x), .val (.int (Int32.ofNat cs.length)), .val (.ref a1), .val (.int (0 : Int32)), .val (.int (0 : Int32))] [(.int (0 : Int32)), (.ref a1), (.int (cs.getD 0 0))])
      refine Gl.st (fun _ kk => XS.iload X1.here hx rfl (hb hby d13_14) rfl kk) ?_
      show Gl p e below s _ _ _ T1 (mkF m 16 #[.val (.ref x), .val (.int (Int32.ofNat cs.length)), .val (.ref a1), .val (.int (0 : Int32)), .val (.int (0 : Int32))] [(.int (0 : Int32)), (.int (0 : Int32)), (.ref a1), (.int (cs.getD 0 0))])
      refine Gl.st (fun _ kk => XS.iadd X1.here hx rfl (hb hby d13_16) rfl kk) ?_
      show Gl p e below s _ _ _ T1 (mkF m 17 #[.val (.ref x), .val (.int (Int32.ofNat cs.length)), .val (.ref a1), .val (.int (0 : Int32)), .val (.int (0 : Int32))] [(.int (0 : Int32)), (.ref a1), (.int (cs.getD 0 0))])
      obtain ⟨cl2, Ar2, q2, Sz2, Ng2, Ha2, Fi2⟩ := id Arv_a1
      have hin2 : ¬ ((0 : Int32) < 0 ∨ cl2.slots.size ≤ ((0 : Int32)).toNatClampNeg) := inb_of Sz2 ⟨by decide, by decide⟩
      have hat2 : cl2.slots[((0 : Int32)).toNatClampNeg]? = some (.int u0) := Ha2.at hin2 rfl
      refine Gl.st (fun _ kk => X1.caload hx (j := (0 : Int32)) (v := (.int u0)) (by rw [e1]; exact Ar2.1) (State.isArrayOf_alike hZ.alike Ar2.2.1) Ar2.2.2 hin2 hat2 (g := (mkF m 17 #[.val (.ref x), .val (.int (Int32.ofNat cs.length)), .val (.ref a1), .val (.int (0 : Int32)), .val (.int (0 : Int32))] [(.int (0 : Int32)), (.ref a1), (.int (cs.getD 0 0))])) rfl rfl (hb hby d13_17) _ kk) ?_
      show Gl p e below s _ _ _ T1 (mkF m 18 #[.val (.ref x), .val (.int (Int32.ofNat cs.length)), .val (.ref a1), .val (.int (0 : Int32)), .val (.int (0 : Int32))] [(.int u0), (.int (cs.getD 0 0))])
      refine Gl.st (fun _ kk => XS.icmpNo X1.here hx rfl (hb hby d13_18) rfl (teq (heq 0 hi)).2 kk) ?_
      show Gl p e below s _ _ _ T1 (mkF m 21 #[.val (.ref x), .val (.int (Int32.ofNat cs.length)), .val (.ref a1), .val (.int (0 : Int32)), .val (.int (0 : Int32))] [])
      refine Gl.st (fun _ kk => XS.iconst X1.here hx rfl (hb hby d13_21) kk) ?_
      show Gl p e below s _ _ _ T1 (mkF m 22 #[.val (.ref x), .val (.int (Int32.ofNat cs.length)), .val (.ref a1), .val (.int (0 : Int32)), .val (.int (0 : Int32))] [(.int (1 : Int32))])
      refine Gl.st (fun _ kk => XS.goto X1.here hx rfl (pc0 := 22) (pc' := 26) rfl (hb hby d13_22) (by decide) (by decide) kk) ?_
      show Gl p e below s _ _ _ T1 (mkF m 26 #[.val (.ref x), .val (.int (Int32.ofNat cs.length)), .val (.ref a1), .val (.int (0 : Int32)), .val (.int (0 : Int32))] [(.int (1 : Int32))])
      exact Gl.ret X1 (v := (some (.int (1 : Int32)))) (fun h => by rw [Bd.returns] at h; cases h) (BodyLoose.notSynchronized Bd) (fun hr => retN X1 hx (t := .boolean) Bd.returns (by simp) (hb hby d13_26) hr) e1 ⟨rfl, N1, rfl⟩ (by decide) (by decide)
    · skip
      show Gl p e below s _ _ _ T1 (mkF m 12 #[.val (.ref x), .val (.int (Int32.ofNat cs.length)), .val (.ref a1), .val (.int (1 : Int32)), .val (.int (0 : Int32))] [(.int (cs.getD 0 0))])
      refine Gl.st (fun _ kk => XS.aloadN X1.here hx rfl (hb hby d13_12) rfl rfl kk) ?_
      show Gl p e below s _ _ _ T1 (mkF m 13 #[.val (.ref x), .val (.int (Int32.ofNat cs.length)), .val (.ref a1), .val (.int (1 : Int32)), .val (.int (0 : Int32))] [(.ref a1), (.int (cs.getD 0 0))])
      refine Gl.st (fun _ kk => XS.iloadN X1.here hx rfl (hb hby d13_13) rfl kk) ?_
      show Gl p e below s _ _ _ T1 (mkF m 14 #[.val (.ref x), .val (.int (Int32.ofNat cs.length)), .val (.ref a1), .val (.int (1 : Int32)), .val (.int (0 : Int32))] [(.int (1 : Int32)), (.ref a1), (.int (cs.getD 0 0))])
      refine Gl.st (fun _ kk => XS.iload X1.here hx rfl (hb hby d13_14) rfl kk) ?_
      show Gl p e below s _ _ _ T1 (mkF m 16 #[.val (.ref x), .val (.int (Int32.ofNat cs.length)), .val (.ref a1), .val (.int (1 : Int32)), .val (.int (0 : Int32))] [(.int (0 : Int32)), (.int (1 : Int32)), (.ref a1), (.int (cs.getD 0 0))])
      refine Gl.st (fun _ kk => XS.iadd X1.here hx rfl (hb hby d13_16) rfl kk) ?_
      show Gl p e below s _ _ _ T1 (mkF m 17 #[.val (.ref x), .val (.int (Int32.ofNat cs.length)), .val (.ref a1), .val (.int (1 : Int32)), .val (.int (0 : Int32))] [(.int (1 : Int32)), (.ref a1), (.int (cs.getD 0 0))])
      obtain ⟨cl3, Ar3, q3, Sz3, Ng3, Ha3, Fi3⟩ := id Arv_a1
      have hin3 : ¬ ((1 : Int32) < 0 ∨ cl3.slots.size ≤ ((1 : Int32)).toNatClampNeg) := inb_of Sz3 ⟨by decide, by decide⟩
      have hat3 : cl3.slots[((1 : Int32)).toNatClampNeg]? = some (.int u1) := Ha3.at hin3 rfl
      refine Gl.st (fun _ kk => X1.caload hx (j := (1 : Int32)) (v := (.int u1)) (by rw [e1]; exact Ar3.1) (State.isArrayOf_alike hZ.alike Ar3.2.1) Ar3.2.2 hin3 hat3 (g := (mkF m 17 #[.val (.ref x), .val (.int (Int32.ofNat cs.length)), .val (.ref a1), .val (.int (1 : Int32)), .val (.int (0 : Int32))] [(.int (1 : Int32)), (.ref a1), (.int (cs.getD 0 0))])) rfl rfl (hb hby d13_17) _ kk) ?_
      show Gl p e below s _ _ _ T1 (mkF m 18 #[.val (.ref x), .val (.int (Int32.ofNat cs.length)), .val (.ref a1), .val (.int (1 : Int32)), .val (.int (0 : Int32))] [(.int u1), (.int (cs.getD 0 0))])
      refine Gl.st (fun _ kk => XS.icmpNo X1.here hx rfl (hb hby d13_18) rfl (teq (heq 0 hi)).2 kk) ?_
      show Gl p e below s _ _ _ T1 (mkF m 21 #[.val (.ref x), .val (.int (Int32.ofNat cs.length)), .val (.ref a1), .val (.int (1 : Int32)), .val (.int (0 : Int32))] [])
      refine Gl.st (fun _ kk => XS.iconst X1.here hx rfl (hb hby d13_21) kk) ?_
      show Gl p e below s _ _ _ T1 (mkF m 22 #[.val (.ref x), .val (.int (Int32.ofNat cs.length)), .val (.ref a1), .val (.int (1 : Int32)), .val (.int (0 : Int32))] [(.int (1 : Int32))])
      refine Gl.st (fun _ kk => XS.goto X1.here hx rfl (pc0 := 22) (pc' := 26) rfl (hb hby d13_22) (by decide) (by decide) kk) ?_
      show Gl p e below s _ _ _ T1 (mkF m 26 #[.val (.ref x), .val (.int (Int32.ofNat cs.length)), .val (.ref a1), .val (.int (1 : Int32)), .val (.int (0 : Int32))] [(.int (1 : Int32))])
      exact Gl.ret X1 (v := (some (.int (1 : Int32)))) (fun h => by rw [Bd.returns] at h; cases h) (BodyLoose.notSynchronized Bd) (fun hr => retN X1 hx (t := .boolean) Bd.returns (by simp) (hb hby d13_26) hr) e1 ⟨rfl, N1, rfl⟩ (by decide) (by decide)
    · skip
      show Gl p e below s _ _ _ T1 (mkF m 12 #[.val (.ref x), .val (.int (Int32.ofNat cs.length)), .val (.ref a1), .val (.int (2 : Int32)), .val (.int (0 : Int32))] [(.int (cs.getD 0 0))])
      refine Gl.st (fun _ kk => XS.aloadN X1.here hx rfl (hb hby d13_12) rfl rfl kk) ?_
      show Gl p e below s _ _ _ T1 (mkF m 13 #[.val (.ref x), .val (.int (Int32.ofNat cs.length)), .val (.ref a1), .val (.int (2 : Int32)), .val (.int (0 : Int32))] [(.ref a1), (.int (cs.getD 0 0))])
      refine Gl.st (fun _ kk => XS.iloadN X1.here hx rfl (hb hby d13_13) rfl kk) ?_
      show Gl p e below s _ _ _ T1 (mkF m 14 #[.val (.ref x), .val (.int (Int32.ofNat cs.length)), .val (.ref a1), .val (.int (2 : Int32)), .val (.int (0 : Int32))] [(.int (2 : Int32)), (.ref a1), (.int (cs.getD 0 0))])
      refine Gl.st (fun _ kk => XS.iload X1.here hx rfl (hb hby d13_14) rfl kk) ?_
      show Gl p e below s _ _ _ T1 (mkF m 16 #[.val (.ref x), .val (.int (Int32.ofNat cs.length)), .val (.ref a1), .val (.int (2 : Int32)), .val (.int (0 : Int32))] [(.int (0 : Int32)), (.int (2 : Int32)), (.ref a1), (.int (cs.getD 0 0))])
      refine Gl.st (fun _ kk => XS.iadd X1.here hx rfl (hb hby d13_16) rfl kk) ?_
      show Gl p e below s _ _ _ T1 (mkF m 17 #[.val (.ref x), .val (.int (Int32.ofNat cs.length)), .val (.ref a1), .val (.int (2 : Int32)), .val (.int (0 : Int32))] [(.int (2 : Int32)), (.ref a1), (.int (cs.getD 0 0))])
      obtain ⟨cl4, Ar4, q4, Sz4, Ng4, Ha4, Fi4⟩ := id Arv_a1
      have hin4 : ¬ ((2 : Int32) < 0 ∨ cl4.slots.size ≤ ((2 : Int32)).toNatClampNeg) := inb_of Sz4 ⟨by decide, by decide⟩
      have hat4 : cl4.slots[((2 : Int32)).toNatClampNeg]? = some (.int u2) := Ha4.at hin4 rfl
      refine Gl.st (fun _ kk => X1.caload hx (j := (2 : Int32)) (v := (.int u2)) (by rw [e1]; exact Ar4.1) (State.isArrayOf_alike hZ.alike Ar4.2.1) Ar4.2.2 hin4 hat4 (g := (mkF m 17 #[.val (.ref x), .val (.int (Int32.ofNat cs.length)), .val (.ref a1), .val (.int (2 : Int32)), .val (.int (0 : Int32))] [(.int (2 : Int32)), (.ref a1), (.int (cs.getD 0 0))])) rfl rfl (hb hby d13_17) _ kk) ?_
      show Gl p e below s _ _ _ T1 (mkF m 18 #[.val (.ref x), .val (.int (Int32.ofNat cs.length)), .val (.ref a1), .val (.int (2 : Int32)), .val (.int (0 : Int32))] [(.int u2), (.int (cs.getD 0 0))])
      refine Gl.st (fun _ kk => XS.icmpNo X1.here hx rfl (hb hby d13_18) rfl (teq (heq 0 hi)).2 kk) ?_
      show Gl p e below s _ _ _ T1 (mkF m 21 #[.val (.ref x), .val (.int (Int32.ofNat cs.length)), .val (.ref a1), .val (.int (2 : Int32)), .val (.int (0 : Int32))] [])
      refine Gl.st (fun _ kk => XS.iconst X1.here hx rfl (hb hby d13_21) kk) ?_
      show Gl p e below s _ _ _ T1 (mkF m 22 #[.val (.ref x), .val (.int (Int32.ofNat cs.length)), .val (.ref a1), .val (.int (2 : Int32)), .val (.int (0 : Int32))] [(.int (1 : Int32))])
      refine Gl.st (fun _ kk => XS.goto X1.here hx rfl (pc0 := 22) (pc' := 26) rfl (hb hby d13_22) (by decide) (by decide) kk) ?_
      show Gl p e below s _ _ _ T1 (mkF m 26 #[.val (.ref x), .val (.int (Int32.ofNat cs.length)), .val (.ref a1), .val (.int (2 : Int32)), .val (.int (0 : Int32))] [(.int (1 : Int32))])
      exact Gl.ret X1 (v := (some (.int (1 : Int32)))) (fun h => by rw [Bd.returns] at h; cases h) (BodyLoose.notSynchronized Bd) (fun hr => retN X1 hx (t := .boolean) Bd.returns (by simp) (hb hby d13_26) hr) e1 ⟨rfl, N1, rfl⟩ (by decide) (by decide)
    · skip
      show Gl p e below s _ _ _ T1 (mkF m 12 #[.val (.ref x), .val (.int (Int32.ofNat cs.length)), .val (.ref a1), .val (.int (3 : Int32)), .val (.int (0 : Int32))] [(.int (cs.getD 0 0))])
      refine Gl.st (fun _ kk => XS.aloadN X1.here hx rfl (hb hby d13_12) rfl rfl kk) ?_
      show Gl p e below s _ _ _ T1 (mkF m 13 #[.val (.ref x), .val (.int (Int32.ofNat cs.length)), .val (.ref a1), .val (.int (3 : Int32)), .val (.int (0 : Int32))] [(.ref a1), (.int (cs.getD 0 0))])
      refine Gl.st (fun _ kk => XS.iloadN X1.here hx rfl (hb hby d13_13) rfl kk) ?_
      show Gl p e below s _ _ _ T1 (mkF m 14 #[.val (.ref x), .val (.int (Int32.ofNat cs.length)), .val (.ref a1), .val (.int (3 : Int32)), .val (.int (0 : Int32))] [(.int (3 : Int32)), (.ref a1), (.int (cs.getD 0 0))])
      refine Gl.st (fun _ kk => XS.iload X1.here hx rfl (hb hby d13_14) rfl kk) ?_
      show Gl p e below s _ _ _ T1 (mkF m 16 #[.val (.ref x), .val (.int (Int32.ofNat cs.length)), .val (.ref a1), .val (.int (3 : Int32)), .val (.int (0 : Int32))] [(.int (0 : Int32)), (.int (3 : Int32)), (.ref a1), (.int (cs.getD 0 0))])
      refine Gl.st (fun _ kk => XS.iadd X1.here hx rfl (hb hby d13_16) rfl kk) ?_
      show Gl p e below s _ _ _ T1 (mkF m 17 #[.val (.ref x), .val (.int (Int32.ofNat cs.length)), .val (.ref a1), .val (.int (3 : Int32)), .val (.int (0 : Int32))] [(.int (3 : Int32)), (.ref a1), (.int (cs.getD 0 0))])
      obtain ⟨cl5, Ar5, q5, Sz5, Ng5, Ha5, Fi5⟩ := id Arv_a1
      have hin5 : ¬ ((3 : Int32) < 0 ∨ cl5.slots.size ≤ ((3 : Int32)).toNatClampNeg) := inb_of Sz5 ⟨by decide, by decide⟩
      have hat5 : cl5.slots[((3 : Int32)).toNatClampNeg]? = some (.int u3) := Ha5.at hin5 rfl
      refine Gl.st (fun _ kk => X1.caload hx (j := (3 : Int32)) (v := (.int u3)) (by rw [e1]; exact Ar5.1) (State.isArrayOf_alike hZ.alike Ar5.2.1) Ar5.2.2 hin5 hat5 (g := (mkF m 17 #[.val (.ref x), .val (.int (Int32.ofNat cs.length)), .val (.ref a1), .val (.int (3 : Int32)), .val (.int (0 : Int32))] [(.int (3 : Int32)), (.ref a1), (.int (cs.getD 0 0))])) rfl rfl (hb hby d13_17) _ kk) ?_
      show Gl p e below s _ _ _ T1 (mkF m 18 #[.val (.ref x), .val (.int (Int32.ofNat cs.length)), .val (.ref a1), .val (.int (3 : Int32)), .val (.int (0 : Int32))] [(.int u3), (.int (cs.getD 0 0))])
      refine Gl.st (fun _ kk => XS.icmpNo X1.here hx rfl (hb hby d13_18) rfl (teq (heq 0 hi)).2 kk) ?_
      show Gl p e below s _ _ _ T1 (mkF m 21 #[.val (.ref x), .val (.int (Int32.ofNat cs.length)), .val (.ref a1), .val (.int (3 : Int32)), .val (.int (0 : Int32))] [])
      refine Gl.st (fun _ kk => XS.iconst X1.here hx rfl (hb hby d13_21) kk) ?_
      show Gl p e below s _ _ _ T1 (mkF m 22 #[.val (.ref x), .val (.int (Int32.ofNat cs.length)), .val (.ref a1), .val (.int (3 : Int32)), .val (.int (0 : Int32))] [(.int (1 : Int32))])
      refine Gl.st (fun _ kk => XS.goto X1.here hx rfl (pc0 := 22) (pc' := 26) rfl (hb hby d13_22) (by decide) (by decide) kk) ?_
      show Gl p e below s _ _ _ T1 (mkF m 26 #[.val (.ref x), .val (.int (Int32.ofNat cs.length)), .val (.ref a1), .val (.int (3 : Int32)), .val (.int (0 : Int32))] [(.int (1 : Int32))])
      exact Gl.ret X1 (v := (some (.int (1 : Int32)))) (fun h => by rw [Bd.returns] at h; cases h) (BodyLoose.notSynchronized Bd) (fun hr => retN X1 hx (t := .boolean) Bd.returns (by simp) (hb hby d13_26) hr) e1 ⟨rfl, N1, rfl⟩ (by decide) (by decide)
  · skip
    refine Gl.st (fun _ kk => XS.icmpYes X0.here hx rfl (pc0 := 3) (pc' := 21) rfl (hb hby d13_3) rfl (flt hc3).2.1 (by decide) (by decide) kk) ?_
    show Gl p e below s _ _ _ s₁ (mkF m 21 #[.val (.ref x), .val (.int (Int32.ofNat cs.length)), .val (.ref a1), .val (.int (Int32.ofNat j)), .val (.int (0 : Int32))] [])
    refine Gl.st (fun _ kk => XS.iconst X0.here hx rfl (hb hby d13_21) kk) ?_
    show Gl p e below s _ _ _ s₁ (mkF m 22 #[.val (.ref x), .val (.int (Int32.ofNat cs.length)), .val (.ref a1), .val (.int (Int32.ofNat j)), .val (.int (0 : Int32))] [(.int (1 : Int32))])
    refine Gl.st (fun _ kk => XS.goto X0.here hx rfl (pc0 := 22) (pc' := 26) rfl (hb hby d13_22) (by decide) (by decide) kk) ?_
    show Gl p e below s _ _ _ s₁ (mkF m 26 #[.val (.ref x), .val (.int (Int32.ofNat cs.length)), .val (.ref a1), .val (.int (Int32.ofNat j)), .val (.int (0 : Int32))] [(.int (1 : Int32))])
    exact Gl.ret X0 (v := (some (.int (1 : Int32)))) (fun h => by rw [Bd.returns] at h; cases h) (BodyLoose.notSynchronized Bd) (fun hr => retN X0 hx (t := .boolean) Bd.returns (by simp) (hb hby d13_26) hr) e0 ⟨rfl, N0, rfl⟩ (by decide) (by decide)
theorem pd_rmA1_0 : parseMethodDescriptor "(I)C" = some ⟨[.int], some .char⟩ := by decide +kernel
theorem pn_rmA1 : plainName "com/example/concurrency_quota/concurrencyquota/ServiceRequestTrimWhitespacePinLaw" = true := by first | (simp [plainName, overriddenIn]; done) | decide +kernel
theorem ef_rmA1 (m : MethodId) (x : Addr) (q1 : Int32) (a1 : Addr) (f1 : Int32) : entryFrame m #[(.ref x), (.int q1), (.ref a1), (.int f1), (.int (1 : Int32))] 5 = mkF m 0 #[.val (.ref x), .val (.int q1), .val (.ref a1), .val (.int f1), .val (.int (1 : Int32))] [] := by first | (simp [entryFrame, mkF, argsToLocals, Value.category]; done) | rfl
def Q_rmA1 (Z : State) (x : Addr) (q1 : Int32) (a1 : Addr) (f1 : Int32) (t : Addr) (k : ClassId) (cs : List Int32) (fm : Value) (cz : Int32) (k1 : ClassId) (u0 u1 u2 u3 : Int32) (j : Nat) (h0 : Heap) (n0 : Nat) (v : Option Value) (h : Heap) (L : List Loc) : Prop := v = some (.int 1) ∧ Fr n0 L ∧ h = h0
set_option maxRecDepth 65536 in
set_option maxHeartbeats 40000000 in
theorem rmA1 (l : Launch) (Z : State) (a0 : Array Value) (hw : ∀ d ∈ tables_1, d.before a0 Z = true) (ws : List Jvm.Cond) (x : Addr) (q1 : Int32) (a1 : Addr) (f1 : Int32) (t : Addr) (k : ClassId) (cs : List Int32) (fm : Value) (cz : Int32) (k1 : ClassId) (u0 u1 u2 u3 : Int32) (j : Nat) (h0 : Heap) (n0 : Nat) (O0 : Old Z n0 h0) (hq1 : q1 = Int32.ofNat cs.length) (hf1 : f1 = Int32.ofNat j) (Exa_x : Exa Z h0 x "java/lang/String") (F_value_x : Fld Z h0 x "java/lang/String" "value" "[B" (.ref t)) (F_coder_x : Fld Z h0 x "java/lang/String" "coder" "B" (.int 0)) (Arv_t : Arv Z h0 t k .byte (Int32.ofNat cs.length) ((cs.map StrChars.lo8).map Value.int) (.int 0)) (hp : ∀ c ∈ cs, ¬ c < 0 ∧ ¬ (255 : Int32) < c) (hl4 : cs.length ≤ 4) (Arv_a1 : Arv Z h0 a1 k1 .char 4 [(.int u0), (.int u1), (.int u2), (.int u3)] (.int 0)) (hjl : j + cs.length ≤ 4) (heq : ∀ i, i < cs.length → cs.getD i 0 = ([u0, u1, u2, u3] : List Int32).getD (j + i) 0) (S_COMPACT : Sta Z Z.heap "java/lang/String" "COMPACT_STRINGS" "Z" (.int cz)) (hcz : ¬ cz = 0) (S_SI : Sta Z Z.heap "jdk/internal/util/Preconditions" "SIOOBE_FORMATTER" "Ljava/util/function/BiFunction;" fm) (rG : fm.isRef = true) :
    MetFree l (⟨"com/example/concurrency_quota/concurrencyquota/ServiceRequestTrimWhitespacePinLaw", "at", "(Ljava/lang/String;I[CII)Z"⟩ : MethodName) (head1 (Jvm.Cond.code (⟨"com/example/concurrency_quota/concurrencyquota/ServiceRequestTrimWhitespacePinLaw", "at", "(Ljava/lang/String;I[CII)Z"⟩ : MethodName) method_6_code 5 (some .boolean) :: ws) ({ frames := 4, cells := 0, slots := 0, locals := 53 } : Room)) (fun a U => a = #[(.ref x), (.int q1), (.ref a1), (.int f1), (.int (1 : Int32))] ∧ Z.Warmed39 U.vm ∧ U.heap = h0) (fun _ _ _ _ _ => True) (fun _ U o U' => ∃ v L, o = .returned v ∧ Q_rmA1 Z x q1 a1 f1 t k cs fm cz k1 u0 u1 u2 u3 j h0 n0 v U'.heap L ∧ FrameEnd U o U' L ({ frames := 4, cells := 0, slots := 0, locals := 53 } : Room).cells ({ frames := 4, cells := 0, slots := 0, locals := 53 } : Room).slots) := by
  refine MetFree.of_bodySF (plainFor_of_name pn_rmA1) hisR ?_
  intro p e s m args below meth c s₁ Bd hml0 hP hK
  obtain ⟨rfl, hZ, hh⟩ := hP
  have hx := Bd.exec
  have hby := Bd.bytes
  have hml : c.maxLocals = 5 := hml0
  have hown : s.vm.findClass "com/example/concurrency_quota/concurrencyquota/ServiceRequestTrimWhitespacePinLaw" = some m.cls := findClass_of_methodNamed Bd.named
  have hnm := (name_of_methodNamed Bd.named Bd.method).1
  have X0 : Stand p l e ({ frames := 4, cells := 0, slots := 0, locals := 53 } : Room) s m #[(.ref x), (.int q1), (.ref a1), (.int f1), (.int (1 : Int32))] below meth c s₁ [] 0 0 := Stand.of_body Bd
  have e0 : s₁.heap = h0 := by rw [← hh, Bd.state]; rfl
  have N0 := Fr.nil n0
  refine Gl.start (Q := Q_rmA1 Z x q1 a1 f1 t k cs fm cz k1 u0 u1 u2 u3 j h0 n0) (ef_rmA1 m x q1 a1 f1) ?_
  have hcd := StrChars.Road.codOf (cs := cs) rfl (fun c hc => (hp c hc).2)
  have hbd := own_up hp
  have hwln : ∀ d ∈ StrChars.Road.wordsLen, d.before a0 Z = true := fun d hd => hw d ((by decide +kernel : ∀ d ∈ StrChars.Road.wordsLen, d ∈ tables_1) d hd)
  have hwch : ∀ d ∈ StrChars.Road.wordsChN, d.before a0 Z = true := fun d hd => hw d ((by decide +kernel : ∀ d ∈ StrChars.Road.wordsChN, d ∈ tables_1) d hd)
  have hl4k : cs.length ≤ 4000 := by omega
  subst hq1 hf1
  have hlb : cs.length < 2 ^ 31 := by omega
  show Gl p e below s _ _ _ s₁ (mkF m 0 #[.val (.ref x), .val (.int (Int32.ofNat cs.length)), .val (.ref a1), .val (.int (Int32.ofNat j)), .val (.int (1 : Int32))] [])
  refine Gl.st (fun _ kk => XS.iload X0.here hx rfl (hb hby d13_0) rfl kk) ?_
  show Gl p e below s _ _ _ s₁ (mkF m 2 #[.val (.ref x), .val (.int (Int32.ofNat cs.length)), .val (.ref a1), .val (.int (Int32.ofNat j)), .val (.int (1 : Int32))] [(.int (1 : Int32))])
  refine Gl.st (fun _ kk => XS.iloadN X0.here hx rfl (hb hby d13_2) rfl kk) ?_
  show Gl p e below s _ _ _ s₁ (mkF m 3 #[.val (.ref x), .val (.int (Int32.ofNat cs.length)), .val (.ref a1), .val (.int (Int32.ofNat j)), .val (.int (1 : Int32))] [(.int (Int32.ofNat cs.length)), (.int (1 : Int32))])
  by_cases hc3 : (1 : Int32) < (Int32.ofNat cs.length)
  · skip
    refine Gl.st (fun _ kk => XS.icmpNo X0.here hx rfl (hb hby d13_3) rfl (tlt hc3).2.1 kk) ?_
    show Gl p e below s _ _ _ s₁ (mkF m 6 #[.val (.ref x), .val (.int (Int32.ofNat cs.length)), .val (.ref a1), .val (.int (Int32.ofNat j)), .val (.int (1 : Int32))] [])
    have hi : 1 < cs.length := (own_ofNat_lt (a := 1) (by decide) hlb).mp hc3
    refine Gl.st (fun _ kk => XS.aloadN X0.here hx rfl (hb hby d13_6) rfl rfl kk) ?_
    show Gl p e below s _ _ _ s₁ (mkF m 7 #[.val (.ref x), .val (.int (Int32.ofNat cs.length)), .val (.ref a1), .val (.int (Int32.ofNat j)), .val (.int (1 : Int32))] [(.ref x)])
    refine Gl.st (fun _ kk => XS.iload X0.here hx rfl (hb hby d13_7) rfl kk) ?_
    show Gl p e below s _ _ _ s₁ (mkF m 9 #[.val (.ref x), .val (.int (Int32.ofNat cs.length)), .val (.ref a1), .val (.int (Int32.ofNat j)), .val (.int (1 : Int32))] [(.int (1 : Int32)), (.ref x)])
    obtain ⟨cq1, kq1, qa1, qb1, qc1⟩ := isOf hZ e0 Exa_x
    obtain ⟨v1, _, ⟨T1, L1, kQ1, nQ1⟩, -, X1, ⟨Lc1, hQ1, l1, y1, z1⟩, st1⟩ := X0.virtualBack hx (y := (⟨"java/lang/String", "charAt", "(I)C"⟩ : MethodName)) (z := (⟨"java/lang/String", "charAt", "(I)C"⟩ : MethodName)) hown (mvT hZ (hw _ (List.mem_of_getElem? (i := 124) rfl))) (mvT hZ (hw _ (List.mem_of_getElem? (i := 77) rfl))) (notFace_of_selects (args := #[]) (mvT hZ (hw _ (List.mem_of_getElem? (i := 79) rfl)))) (mvT hZ (hw _ (List.mem_of_getElem? (i := 79) rfl))) (mvT hZ (hw _ (List.mem_of_getElem? (i := 78) rfl))) (by decide) (StrChars.Road.chN (W := 0) hZ hwch (kI := 4) (hw _ (List.mem_of_getElem? (i := 7) rfl)) (cs := cs) Exa_x F_value_x F_coder_x Arv_t hcd hbd (S_COMPACT.ext O0.2) hcz (S_SI.ext O0.2) rG hl4k (i := 1) hi (j := (1 : Int32)) rfl (by decide) (by decide)) qa1 qc1 (g := (mkF m 9 #[.val (.ref x), .val (.int (Int32.ofNat cs.length)), .val (.ref a1), .val (.int (Int32.ofNat j)), .val (.int (1 : Int32))] [(.int (1 : Int32)), (.ref x)])) rfl (by rw [hml]; rfl) (Steps.refl _) (argsL := [(.int (1 : Int32))]) (rest := []) (lenOf pd_rmA1_0 rfl) rfl (by show 2 * 0 + _ ≤ _; exact Nat.le_of_eq rfl) (hb hby d13_9) (fun _ _ => ⟨rfl, e0, (by decide : 0 + 0 ≤ _), (by decide : 0 + 0 ≤ _)⟩)
    dsimp only [Pt.U, Pt.locs, Pt.cells, Pt.slots] at X1 l1 y1 z1 st1 hQ1
    subst y1 z1
    obtain ⟨hv1, hl1, e1⟩ := hQ1
    subst hv1 hl1
    have Nq1 := Fr.nil n0
    have N1 : Fr n0 L1 := l1 ▸ Fr.app N0 Nq1
    refine Gl.st (fun _ kk => st1.trans kk) ?_
    clear st1 qc1 qb1 qa1 kq1 cq1
    show Gl p e below s _ _ _ T1 (mkF m 12 #[.val (.ref x), .val (.int (Int32.ofNat cs.length)), .val (.ref a1), .val (.int (Int32.ofNat j)), .val (.int (1 : Int32))] [(.int (cs.getD 1 0))])
    have hj4 : j = 0 ∨ j = 1 ∨ j = 2 := by omega
    rcases hj4 with rfl | rfl | rfl
    · skip
      show Gl p e below s _ _ _ T1 (mkF m 12 #[.val (.ref x), .val (.int (Int32.ofNat cs.length)), .val (.ref a1), .val (.int (0 : Int32)), .val (.int (1 : Int32))] [(.int (cs.getD 1 0))])
      refine Gl.st (fun _ kk => XS.aloadN X1.here hx rfl (hb hby d13_12) rfl rfl kk) ?_
      show Gl p e below s _ _ _ T1 (mkF m 13 #[.val (.ref x), .val (.int (Int32.ofNat cs.length)), .val (.ref a1), .val (.int (0 : Int32)), .val (.int (1 : Int32))] [(.ref a1), (.int (cs.getD 1 0))])
      refine Gl.st (fun _ kk => XS.iloadN X1.here hx rfl (hb hby d13_13) rfl kk) ?_
      show Gl p e below s _ _ _ T1 (mkF m 14 #[.val (.ref x), .val (.int (Int32.ofNat cs.length)), .val (.ref a1), .val (.int (0 : Int32)), .val (.int (1 : Int32))] [(.int (0 : Int32)), (.ref a1), (.int (cs.getD 1 0))])
      refine Gl.st (fun _ kk => XS.iload X1.here hx rfl (hb hby d13_14) rfl kk) ?_
      show Gl p e below s _ _ _ T1 (mkF m 16 #[.val (.ref x), .val (.int (Int32.ofNat cs.length)), .val (.ref a1), .val (.int (0 : Int32)), .val (.int (1 : Int32))] [(.int (1 : Int32)), (.int (0 : Int32)), (.ref a1), (.int (cs.getD 1 0))])
      refine Gl.st (fun _ kk => XS.iadd X1.here hx rfl (hb hby d13_16) rfl kk) ?_
      show Gl p e below s _ _ _ T1 (mkF m 17 #[.val (.ref x), .val (.int (Int32.ofNat cs.length)), .val (.ref a1), .val (.int (0 : Int32)), .val (.int (1 : Int32))] [(.int (1 : Int32)), (.ref a1), (.int (cs.getD 1 0))])
      obtain ⟨cl2, Ar2, q2, Sz2, Ng2, Ha2, Fi2⟩ := id Arv_a1
      have hin2 : ¬ ((1 : Int32) < 0 ∨ cl2.slots.size ≤ ((1 : Int32)).toNatClampNeg) := inb_of Sz2 ⟨by decide, by decide⟩
      have hat2 : cl2.slots[((1 : Int32)).toNatClampNeg]? = some (.int u1) := Ha2.at hin2 rfl
      refine Gl.st (fun _ kk => X1.caload hx (j := (1 : Int32)) (v := (.int u1)) (by rw [e1]; exact Ar2.1) (State.isArrayOf_alike hZ.alike Ar2.2.1) Ar2.2.2 hin2 hat2 (g := (mkF m 17 #[.val (.ref x), .val (.int (Int32.ofNat cs.length)), .val (.ref a1), .val (.int (0 : Int32)), .val (.int (1 : Int32))] [(.int (1 : Int32)), (.ref a1), (.int (cs.getD 1 0))])) rfl rfl (hb hby d13_17) _ kk) ?_
      show Gl p e below s _ _ _ T1 (mkF m 18 #[.val (.ref x), .val (.int (Int32.ofNat cs.length)), .val (.ref a1), .val (.int (0 : Int32)), .val (.int (1 : Int32))] [(.int u1), (.int (cs.getD 1 0))])
      refine Gl.st (fun _ kk => XS.icmpNo X1.here hx rfl (hb hby d13_18) rfl (teq (heq 1 hi)).2 kk) ?_
      show Gl p e below s _ _ _ T1 (mkF m 21 #[.val (.ref x), .val (.int (Int32.ofNat cs.length)), .val (.ref a1), .val (.int (0 : Int32)), .val (.int (1 : Int32))] [])
      refine Gl.st (fun _ kk => XS.iconst X1.here hx rfl (hb hby d13_21) kk) ?_
      show Gl p e below s _ _ _ T1 (mkF m 22 #[.val (.ref x), .val (.int (Int32.ofNat cs.length)), .val (.ref a1), .val (.int (0 : Int32)), .val (.int (1 : Int32))] [(.int (1 : Int32))])
      refine Gl.st (fun _ kk => XS.goto X1.here hx rfl (pc0 := 22) (pc' := 26) rfl (hb hby d13_22) (by decide) (by decide) kk) ?_
      show Gl p e below s _ _ _ T1 (mkF m 26 #[.val (.ref x), .val (.int (Int32.ofNat cs.length)), .val (.ref a1), .val (.int (0 : Int32)), .val (.int (1 : Int32))] [(.int (1 : Int32))])
      exact Gl.ret X1 (v := (some (.int (1 : Int32)))) (fun h => by rw [Bd.returns] at h; cases h) (BodyLoose.notSynchronized Bd) (fun hr => retN X1 hx (t := .boolean) Bd.returns (by simp) (hb hby d13_26) hr) e1 ⟨rfl, N1, rfl⟩ (by decide) (by decide)
    · skip
      show Gl p e below s _ _ _ T1 (mkF m 12 #[.val (.ref x), .val (.int (Int32.ofNat cs.length)), .val (.ref a1), .val (.int (1 : Int32)), .val (.int (1 : Int32))] [(.int (cs.getD 1 0))])
      refine Gl.st (fun _ kk => XS.aloadN X1.here hx rfl (hb hby d13_12) rfl rfl kk) ?_
      show Gl p e below s _ _ _ T1 (mkF m 13 #[.val (.ref x), .val (.int (Int32.ofNat cs.length)), .val (.ref a1), .val (.int (1 : Int32)), .val (.int (1 : Int32))] [(.ref a1), (.int (cs.getD 1 0))])
      refine Gl.st (fun _ kk => XS.iloadN X1.here hx rfl (hb hby d13_13) rfl kk) ?_
      show Gl p e below s _ _ _ T1 (mkF m 14 #[.val (.ref x), .val (.int (Int32.ofNat cs.length)), .val (.ref a1), .val (.int (1 : Int32)), .val (.int (1 : Int32))] [(.int (1 : Int32)), (.ref a1), (.int (cs.getD 1 0))])
      refine Gl.st (fun _ kk => XS.iload X1.here hx rfl (hb hby d13_14) rfl kk) ?_
      show Gl p e below s _ _ _ T1 (mkF m 16 #[.val (.ref x), .val (.int (Int32.ofNat cs.length)), .val (.ref a1), .val (.int (1 : Int32)), .val (.int (1 : Int32))] [(.int (1 : Int32)), (.int (1 : Int32)), (.ref a1), (.int (cs.getD 1 0))])
      refine Gl.st (fun _ kk => XS.iadd X1.here hx rfl (hb hby d13_16) rfl kk) ?_
      show Gl p e below s _ _ _ T1 (mkF m 17 #[.val (.ref x), .val (.int (Int32.ofNat cs.length)), .val (.ref a1), .val (.int (1 : Int32)), .val (.int (1 : Int32))] [(.int (2 : Int32)), (.ref a1), (.int (cs.getD 1 0))])
      obtain ⟨cl3, Ar3, q3, Sz3, Ng3, Ha3, Fi3⟩ := id Arv_a1
      have hin3 : ¬ ((2 : Int32) < 0 ∨ cl3.slots.size ≤ ((2 : Int32)).toNatClampNeg) := inb_of Sz3 ⟨by decide, by decide⟩
      have hat3 : cl3.slots[((2 : Int32)).toNatClampNeg]? = some (.int u2) := Ha3.at hin3 rfl
      refine Gl.st (fun _ kk => X1.caload hx (j := (2 : Int32)) (v := (.int u2)) (by rw [e1]; exact Ar3.1) (State.isArrayOf_alike hZ.alike Ar3.2.1) Ar3.2.2 hin3 hat3 (g := (mkF m 17 #[.val (.ref x), .val (.int (Int32.ofNat cs.length)), .val (.ref a1), .val (.int (1 : Int32)), .val (.int (1 : Int32))] [(.int (2 : Int32)), (.ref a1), (.int (cs.getD 1 0))])) rfl rfl (hb hby d13_17) _ kk) ?_
      show Gl p e below s _ _ _ T1 (mkF m 18 #[.val (.ref x), .val (.int (Int32.ofNat cs.length)), .val (.ref a1), .val (.int (1 : Int32)), .val (.int (1 : Int32))] [(.int u2), (.int (cs.getD 1 0))])
      refine Gl.st (fun _ kk => XS.icmpNo X1.here hx rfl (hb hby d13_18) rfl (teq (heq 1 hi)).2 kk) ?_
      show Gl p e below s _ _ _ T1 (mkF m 21 #[.val (.ref x), .val (.int (Int32.ofNat cs.length)), .val (.ref a1), .val (.int (1 : Int32)), .val (.int (1 : Int32))] [])
      refine Gl.st (fun _ kk => XS.iconst X1.here hx rfl (hb hby d13_21) kk) ?_
      show Gl p e below s _ _ _ T1 (mkF m 22 #[.val (.ref x), .val (.int (Int32.ofNat cs.length)), .val (.ref a1), .val (.int (1 : Int32)), .val (.int (1 : Int32))] [(.int (1 : Int32))])
      refine Gl.st (fun _ kk => XS.goto X1.here hx rfl (pc0 := 22) (pc' := 26) rfl (hb hby d13_22) (by decide) (by decide) kk) ?_
      show Gl p e below s _ _ _ T1 (mkF m 26 #[.val (.ref x), .val (.int (Int32.ofNat cs.length)), .val (.ref a1), .val (.int (1 : Int32)), .val (.int (1 : Int32))] [(.int (1 : Int32))])
      exact Gl.ret X1 (v := (some (.int (1 : Int32)))) (fun h => by rw [Bd.returns] at h; cases h) (BodyLoose.notSynchronized Bd) (fun hr => retN X1 hx (t := .boolean) Bd.returns (by simp) (hb hby d13_26) hr) e1 ⟨rfl, N1, rfl⟩ (by decide) (by decide)
    · skip
      show Gl p e below s _ _ _ T1 (mkF m 12 #[.val (.ref x), .val (.int (Int32.ofNat cs.length)), .val (.ref a1), .val (.int (2 : Int32)), .val (.int (1 : Int32))] [(.int (cs.getD 1 0))])
      refine Gl.st (fun _ kk => XS.aloadN X1.here hx rfl (hb hby d13_12) rfl rfl kk) ?_
      show Gl p e below s _ _ _ T1 (mkF m 13 #[.val (.ref x), .val (.int (Int32.ofNat cs.length)), .val (.ref a1), .val (.int (2 : Int32)), .val (.int (1 : Int32))] [(.ref a1), (.int (cs.getD 1 0))])
      refine Gl.st (fun _ kk => XS.iloadN X1.here hx rfl (hb hby d13_13) rfl kk) ?_
      show Gl p e below s _ _ _ T1 (mkF m 14 #[.val (.ref x), .val (.int (Int32.ofNat cs.length)), .val (.ref a1), .val (.int (2 : Int32)), .val (.int (1 : Int32))] [(.int (2 : Int32)), (.ref a1), (.int (cs.getD 1 0))])
      refine Gl.st (fun _ kk => XS.iload X1.here hx rfl (hb hby d13_14) rfl kk) ?_
      show Gl p e below s _ _ _ T1 (mkF m 16 #[.val (.ref x), .val (.int (Int32.ofNat cs.length)), .val (.ref a1), .val (.int (2 : Int32)), .val (.int (1 : Int32))] [(.int (1 : Int32)), (.int (2 : Int32)), (.ref a1), (.int (cs.getD 1 0))])
      refine Gl.st (fun _ kk => XS.iadd X1.here hx rfl (hb hby d13_16) rfl kk) ?_
      show Gl p e below s _ _ _ T1 (mkF m 17 #[.val (.ref x), .val (.int (Int32.ofNat cs.length)), .val (.ref a1), .val (.int (2 : Int32)), .val (.int (1 : Int32))] [(.int (3 : Int32)), (.ref a1), (.int (cs.getD 1 0))])
      obtain ⟨cl4, Ar4, q4, Sz4, Ng4, Ha4, Fi4⟩ := id Arv_a1
      have hin4 : ¬ ((3 : Int32) < 0 ∨ cl4.slots.size ≤ ((3 : Int32)).toNatClampNeg) := inb_of Sz4 ⟨by decide, by decide⟩
      have hat4 : cl4.slots[((3 : Int32)).toNatClampNeg]? = some (.int u3) := Ha4.at hin4 rfl
      refine Gl.st (fun _ kk => X1.caload hx (j := (3 : Int32)) (v := (.int u3)) (by rw [e1]; exact Ar4.1) (State.isArrayOf_alike hZ.alike Ar4.2.1) Ar4.2.2 hin4 hat4 (g := (mkF m 17 #[.val (.ref x), .val (.int (Int32.ofNat cs.length)), .val (.ref a1), .val (.int (2 : Int32)), .val (.int (1 : Int32))] [(.int (3 : Int32)), (.ref a1), (.int (cs.getD 1 0))])) rfl rfl (hb hby d13_17) _ kk) ?_
      show Gl p e below s _ _ _ T1 (mkF m 18 #[.val (.ref x), .val (.int (Int32.ofNat cs.length)), .val (.ref a1), .val (.int (2 : Int32)), .val (.int (1 : Int32))] [(.int u3), (.int (cs.getD 1 0))])
      refine Gl.st (fun _ kk => XS.icmpNo X1.here hx rfl (hb hby d13_18) rfl (teq (heq 1 hi)).2 kk) ?_
      show Gl p e below s _ _ _ T1 (mkF m 21 #[.val (.ref x), .val (.int (Int32.ofNat cs.length)), .val (.ref a1), .val (.int (2 : Int32)), .val (.int (1 : Int32))] [])
      refine Gl.st (fun _ kk => XS.iconst X1.here hx rfl (hb hby d13_21) kk) ?_
      show Gl p e below s _ _ _ T1 (mkF m 22 #[.val (.ref x), .val (.int (Int32.ofNat cs.length)), .val (.ref a1), .val (.int (2 : Int32)), .val (.int (1 : Int32))] [(.int (1 : Int32))])
      refine Gl.st (fun _ kk => XS.goto X1.here hx rfl (pc0 := 22) (pc' := 26) rfl (hb hby d13_22) (by decide) (by decide) kk) ?_
      show Gl p e below s _ _ _ T1 (mkF m 26 #[.val (.ref x), .val (.int (Int32.ofNat cs.length)), .val (.ref a1), .val (.int (2 : Int32)), .val (.int (1 : Int32))] [(.int (1 : Int32))])
      exact Gl.ret X1 (v := (some (.int (1 : Int32)))) (fun h => by rw [Bd.returns] at h; cases h) (BodyLoose.notSynchronized Bd) (fun hr => retN X1 hx (t := .boolean) Bd.returns (by simp) (hb hby d13_26) hr) e1 ⟨rfl, N1, rfl⟩ (by decide) (by decide)
  · skip
    refine Gl.st (fun _ kk => XS.icmpYes X0.here hx rfl (pc0 := 3) (pc' := 21) rfl (hb hby d13_3) rfl (flt hc3).2.1 (by decide) (by decide) kk) ?_
    show Gl p e below s _ _ _ s₁ (mkF m 21 #[.val (.ref x), .val (.int (Int32.ofNat cs.length)), .val (.ref a1), .val (.int (Int32.ofNat j)), .val (.int (1 : Int32))] [])
    refine Gl.st (fun _ kk => XS.iconst X0.here hx rfl (hb hby d13_21) kk) ?_
    show Gl p e below s _ _ _ s₁ (mkF m 22 #[.val (.ref x), .val (.int (Int32.ofNat cs.length)), .val (.ref a1), .val (.int (Int32.ofNat j)), .val (.int (1 : Int32))] [(.int (1 : Int32))])
    refine Gl.st (fun _ kk => XS.goto X0.here hx rfl (pc0 := 22) (pc' := 26) rfl (hb hby d13_22) (by decide) (by decide) kk) ?_
    show Gl p e below s _ _ _ s₁ (mkF m 26 #[.val (.ref x), .val (.int (Int32.ofNat cs.length)), .val (.ref a1), .val (.int (Int32.ofNat j)), .val (.int (1 : Int32))] [(.int (1 : Int32))])
    exact Gl.ret X0 (v := (some (.int (1 : Int32)))) (fun h => by rw [Bd.returns] at h; cases h) (BodyLoose.notSynchronized Bd) (fun hr => retN X0 hx (t := .boolean) Bd.returns (by simp) (hb hby d13_26) hr) e0 ⟨rfl, N0, rfl⟩ (by decide) (by decide)
theorem pd_rmA2_0 : parseMethodDescriptor "(I)C" = some ⟨[.int], some .char⟩ := by decide +kernel
theorem pn_rmA2 : plainName "com/example/concurrency_quota/concurrencyquota/ServiceRequestTrimWhitespacePinLaw" = true := by first | (simp [plainName, overriddenIn]; done) | decide +kernel
theorem ef_rmA2 (m : MethodId) (x : Addr) (q1 : Int32) (a1 : Addr) (f1 : Int32) : entryFrame m #[(.ref x), (.int q1), (.ref a1), (.int f1), (.int (2 : Int32))] 5 = mkF m 0 #[.val (.ref x), .val (.int q1), .val (.ref a1), .val (.int f1), .val (.int (2 : Int32))] [] := by first | (simp [entryFrame, mkF, argsToLocals, Value.category]; done) | rfl
def Q_rmA2 (Z : State) (x : Addr) (q1 : Int32) (a1 : Addr) (f1 : Int32) (t : Addr) (k : ClassId) (cs : List Int32) (fm : Value) (cz : Int32) (k1 : ClassId) (u0 u1 u2 u3 : Int32) (j : Nat) (h0 : Heap) (n0 : Nat) (v : Option Value) (h : Heap) (L : List Loc) : Prop := v = some (.int 1) ∧ Fr n0 L ∧ h = h0
set_option maxRecDepth 65536 in
set_option maxHeartbeats 40000000 in
theorem rmA2 (l : Launch) (Z : State) (a0 : Array Value) (hw : ∀ d ∈ tables_1, d.before a0 Z = true) (ws : List Jvm.Cond) (x : Addr) (q1 : Int32) (a1 : Addr) (f1 : Int32) (t : Addr) (k : ClassId) (cs : List Int32) (fm : Value) (cz : Int32) (k1 : ClassId) (u0 u1 u2 u3 : Int32) (j : Nat) (h0 : Heap) (n0 : Nat) (O0 : Old Z n0 h0) (hq1 : q1 = Int32.ofNat cs.length) (hf1 : f1 = Int32.ofNat j) (Exa_x : Exa Z h0 x "java/lang/String") (F_value_x : Fld Z h0 x "java/lang/String" "value" "[B" (.ref t)) (F_coder_x : Fld Z h0 x "java/lang/String" "coder" "B" (.int 0)) (Arv_t : Arv Z h0 t k .byte (Int32.ofNat cs.length) ((cs.map StrChars.lo8).map Value.int) (.int 0)) (hp : ∀ c ∈ cs, ¬ c < 0 ∧ ¬ (255 : Int32) < c) (hl4 : cs.length ≤ 4) (Arv_a1 : Arv Z h0 a1 k1 .char 4 [(.int u0), (.int u1), (.int u2), (.int u3)] (.int 0)) (hjl : j + cs.length ≤ 4) (heq : ∀ i, i < cs.length → cs.getD i 0 = ([u0, u1, u2, u3] : List Int32).getD (j + i) 0) (S_COMPACT : Sta Z Z.heap "java/lang/String" "COMPACT_STRINGS" "Z" (.int cz)) (hcz : ¬ cz = 0) (S_SI : Sta Z Z.heap "jdk/internal/util/Preconditions" "SIOOBE_FORMATTER" "Ljava/util/function/BiFunction;" fm) (rG : fm.isRef = true) :
    MetFree l (⟨"com/example/concurrency_quota/concurrencyquota/ServiceRequestTrimWhitespacePinLaw", "at", "(Ljava/lang/String;I[CII)Z"⟩ : MethodName) (head1 (Jvm.Cond.code (⟨"com/example/concurrency_quota/concurrencyquota/ServiceRequestTrimWhitespacePinLaw", "at", "(Ljava/lang/String;I[CII)Z"⟩ : MethodName) method_6_code 5 (some .boolean) :: ws) ({ frames := 4, cells := 0, slots := 0, locals := 53 } : Room)) (fun a U => a = #[(.ref x), (.int q1), (.ref a1), (.int f1), (.int (2 : Int32))] ∧ Z.Warmed39 U.vm ∧ U.heap = h0) (fun _ _ _ _ _ => True) (fun _ U o U' => ∃ v L, o = .returned v ∧ Q_rmA2 Z x q1 a1 f1 t k cs fm cz k1 u0 u1 u2 u3 j h0 n0 v U'.heap L ∧ FrameEnd U o U' L ({ frames := 4, cells := 0, slots := 0, locals := 53 } : Room).cells ({ frames := 4, cells := 0, slots := 0, locals := 53 } : Room).slots) := by
  refine MetFree.of_bodySF (plainFor_of_name pn_rmA2) hisR ?_
  intro p e s m args below meth c s₁ Bd hml0 hP hK
  obtain ⟨rfl, hZ, hh⟩ := hP
  have hx := Bd.exec
  have hby := Bd.bytes
  have hml : c.maxLocals = 5 := hml0
  have hown : s.vm.findClass "com/example/concurrency_quota/concurrencyquota/ServiceRequestTrimWhitespacePinLaw" = some m.cls := findClass_of_methodNamed Bd.named
  have hnm := (name_of_methodNamed Bd.named Bd.method).1
  have X0 : Stand p l e ({ frames := 4, cells := 0, slots := 0, locals := 53 } : Room) s m #[(.ref x), (.int q1), (.ref a1), (.int f1), (.int (2 : Int32))] below meth c s₁ [] 0 0 := Stand.of_body Bd
  have e0 : s₁.heap = h0 := by rw [← hh, Bd.state]; rfl
  have N0 := Fr.nil n0
  refine Gl.start (Q := Q_rmA2 Z x q1 a1 f1 t k cs fm cz k1 u0 u1 u2 u3 j h0 n0) (ef_rmA2 m x q1 a1 f1) ?_
  have hcd := StrChars.Road.codOf (cs := cs) rfl (fun c hc => (hp c hc).2)
  have hbd := own_up hp
  have hwln : ∀ d ∈ StrChars.Road.wordsLen, d.before a0 Z = true := fun d hd => hw d ((by decide +kernel : ∀ d ∈ StrChars.Road.wordsLen, d ∈ tables_1) d hd)
  have hwch : ∀ d ∈ StrChars.Road.wordsChN, d.before a0 Z = true := fun d hd => hw d ((by decide +kernel : ∀ d ∈ StrChars.Road.wordsChN, d ∈ tables_1) d hd)
  have hl4k : cs.length ≤ 4000 := by omega
  subst hq1 hf1
  have hlb : cs.length < 2 ^ 31 := by omega
  show Gl p e below s _ _ _ s₁ (mkF m 0 #[.val (.ref x), .val (.int (Int32.ofNat cs.length)), .val (.ref a1), .val (.int (Int32.ofNat j)), .val (.int (2 : Int32))] [])
  refine Gl.st (fun _ kk => XS.iload X0.here hx rfl (hb hby d13_0) rfl kk) ?_
  show Gl p e below s _ _ _ s₁ (mkF m 2 #[.val (.ref x), .val (.int (Int32.ofNat cs.length)), .val (.ref a1), .val (.int (Int32.ofNat j)), .val (.int (2 : Int32))] [(.int (2 : Int32))])
  refine Gl.st (fun _ kk => XS.iloadN X0.here hx rfl (hb hby d13_2) rfl kk) ?_
  show Gl p e below s _ _ _ s₁ (mkF m 3 #[.val (.ref x), .val (.int (Int32.ofNat cs.length)), .val (.ref a1), .val (.int (Int32.ofNat j)), .val (.int (2 : Int32))] [(.int (Int32.ofNat cs.length)), (.int (2 : Int32))])
  by_cases hc3 : (2 : Int32) < (Int32.ofNat cs.length)
  · skip
    refine Gl.st (fun _ kk => XS.icmpNo X0.here hx rfl (hb hby d13_3) rfl (tlt hc3).2.1 kk) ?_
    show Gl p e below s _ _ _ s₁ (mkF m 6 #[.val (.ref x), .val (.int (Int32.ofNat cs.length)), .val (.ref a1), .val (.int (Int32.ofNat j)), .val (.int (2 : Int32))] [])
    have hi : 2 < cs.length := (own_ofNat_lt (a := 2) (by decide) hlb).mp hc3
    refine Gl.st (fun _ kk => XS.aloadN X0.here hx rfl (hb hby d13_6) rfl rfl kk) ?_
    show Gl p e below s _ _ _ s₁ (mkF m 7 #[.val (.ref x), .val (.int (Int32.ofNat cs.length)), .val (.ref a1), .val (.int (Int32.ofNat j)), .val (.int (2 : Int32))] [(.ref x)])
    refine Gl.st (fun _ kk => XS.iload X0.here hx rfl (hb hby d13_7) rfl kk) ?_
    show Gl p e below s _ _ _ s₁ (mkF m 9 #[.val (.ref x), .val (.int (Int32.ofNat cs.length)), .val (.ref a1), .val (.int (Int32.ofNat j)), .val (.int (2 : Int32))] [(.int (2 : Int32)), (.ref x)])
    obtain ⟨cq1, kq1, qa1, qb1, qc1⟩ := isOf hZ e0 Exa_x
    obtain ⟨v1, _, ⟨T1, L1, kQ1, nQ1⟩, -, X1, ⟨Lc1, hQ1, l1, y1, z1⟩, st1⟩ := X0.virtualBack hx (y := (⟨"java/lang/String", "charAt", "(I)C"⟩ : MethodName)) (z := (⟨"java/lang/String", "charAt", "(I)C"⟩ : MethodName)) hown (mvT hZ (hw _ (List.mem_of_getElem? (i := 124) rfl))) (mvT hZ (hw _ (List.mem_of_getElem? (i := 77) rfl))) (notFace_of_selects (args := #[]) (mvT hZ (hw _ (List.mem_of_getElem? (i := 79) rfl)))) (mvT hZ (hw _ (List.mem_of_getElem? (i := 79) rfl))) (mvT hZ (hw _ (List.mem_of_getElem? (i := 78) rfl))) (by decide) (StrChars.Road.chN (W := 0) hZ hwch (kI := 4) (hw _ (List.mem_of_getElem? (i := 7) rfl)) (cs := cs) Exa_x F_value_x F_coder_x Arv_t hcd hbd (S_COMPACT.ext O0.2) hcz (S_SI.ext O0.2) rG hl4k (i := 2) hi (j := (2 : Int32)) rfl (by decide) (by decide)) qa1 qc1 (g := (mkF m 9 #[.val (.ref x), .val (.int (Int32.ofNat cs.length)), .val (.ref a1), .val (.int (Int32.ofNat j)), .val (.int (2 : Int32))] [(.int (2 : Int32)), (.ref x)])) rfl (by rw [hml]; rfl) (Steps.refl _) (argsL := [(.int (2 : Int32))]) (rest := []) (lenOf pd_rmA2_0 rfl) rfl (by show 2 * 0 + _ ≤ _; exact Nat.le_of_eq rfl) (hb hby d13_9) (fun _ _ => ⟨rfl, e0, (by decide : 0 + 0 ≤ _), (by decide : 0 + 0 ≤ _)⟩)
    dsimp only [Pt.U, Pt.locs, Pt.cells, Pt.slots] at X1 l1 y1 z1 st1 hQ1
    subst y1 z1
    obtain ⟨hv1, hl1, e1⟩ := hQ1
    subst hv1 hl1
    have Nq1 := Fr.nil n0
    have N1 : Fr n0 L1 := l1 ▸ Fr.app N0 Nq1
    refine Gl.st (fun _ kk => st1.trans kk) ?_
    clear st1 qc1 qb1 qa1 kq1 cq1
    show Gl p e below s _ _ _ T1 (mkF m 12 #[.val (.ref x), .val (.int (Int32.ofNat cs.length)), .val (.ref a1), .val (.int (Int32.ofNat j)), .val (.int (2 : Int32))] [(.int (cs.getD 2 0))])
    have hj4 : j = 0 ∨ j = 1 := by omega
    rcases hj4 with rfl | rfl
    · skip
      show Gl p e below s _ _ _ T1 (mkF m 12 #[.val (.ref x), .val (.int (Int32.ofNat cs.length)), .val (.ref a1), .val (.int (0 : Int32)), .val (.int (2 : Int32))] [(.int (cs.getD 2 0))])
      refine Gl.st (fun _ kk => XS.aloadN X1.here hx rfl (hb hby d13_12) rfl rfl kk) ?_
      show Gl p e below s _ _ _ T1 (mkF m 13 #[.val (.ref x), .val (.int (Int32.ofNat cs.length)), .val (.ref a1), .val (.int (0 : Int32)), .val (.int (2 : Int32))] [(.ref a1), (.int (cs.getD 2 0))])
      refine Gl.st (fun _ kk => XS.iloadN X1.here hx rfl (hb hby d13_13) rfl kk) ?_
      show Gl p e below s _ _ _ T1 (mkF m 14 #[.val (.ref x), .val (.int (Int32.ofNat cs.length)), .val (.ref a1), .val (.int (0 : Int32)), .val (.int (2 : Int32))] [(.int (0 : Int32)), (.ref a1), (.int (cs.getD 2 0))])
      refine Gl.st (fun _ kk => XS.iload X1.here hx rfl (hb hby d13_14) rfl kk) ?_
      show Gl p e below s _ _ _ T1 (mkF m 16 #[.val (.ref x), .val (.int (Int32.ofNat cs.length)), .val (.ref a1), .val (.int (0 : Int32)), .val (.int (2 : Int32))] [(.int (2 : Int32)), (.int (0 : Int32)), (.ref a1), (.int (cs.getD 2 0))])
      refine Gl.st (fun _ kk => XS.iadd X1.here hx rfl (hb hby d13_16) rfl kk) ?_
      show Gl p e below s _ _ _ T1 (mkF m 17 #[.val (.ref x), .val (.int (Int32.ofNat cs.length)), .val (.ref a1), .val (.int (0 : Int32)), .val (.int (2 : Int32))] [(.int (2 : Int32)), (.ref a1), (.int (cs.getD 2 0))])
      obtain ⟨cl2, Ar2, q2, Sz2, Ng2, Ha2, Fi2⟩ := id Arv_a1
      have hin2 : ¬ ((2 : Int32) < 0 ∨ cl2.slots.size ≤ ((2 : Int32)).toNatClampNeg) := inb_of Sz2 ⟨by decide, by decide⟩
      have hat2 : cl2.slots[((2 : Int32)).toNatClampNeg]? = some (.int u2) := Ha2.at hin2 rfl
      refine Gl.st (fun _ kk => X1.caload hx (j := (2 : Int32)) (v := (.int u2)) (by rw [e1]; exact Ar2.1) (State.isArrayOf_alike hZ.alike Ar2.2.1) Ar2.2.2 hin2 hat2 (g := (mkF m 17 #[.val (.ref x), .val (.int (Int32.ofNat cs.length)), .val (.ref a1), .val (.int (0 : Int32)), .val (.int (2 : Int32))] [(.int (2 : Int32)), (.ref a1), (.int (cs.getD 2 0))])) rfl rfl (hb hby d13_17) _ kk) ?_
      show Gl p e below s _ _ _ T1 (mkF m 18 #[.val (.ref x), .val (.int (Int32.ofNat cs.length)), .val (.ref a1), .val (.int (0 : Int32)), .val (.int (2 : Int32))] [(.int u2), (.int (cs.getD 2 0))])
      refine Gl.st (fun _ kk => XS.icmpNo X1.here hx rfl (hb hby d13_18) rfl (teq (heq 2 hi)).2 kk) ?_
      show Gl p e below s _ _ _ T1 (mkF m 21 #[.val (.ref x), .val (.int (Int32.ofNat cs.length)), .val (.ref a1), .val (.int (0 : Int32)), .val (.int (2 : Int32))] [])
      refine Gl.st (fun _ kk => XS.iconst X1.here hx rfl (hb hby d13_21) kk) ?_
      show Gl p e below s _ _ _ T1 (mkF m 22 #[.val (.ref x), .val (.int (Int32.ofNat cs.length)), .val (.ref a1), .val (.int (0 : Int32)), .val (.int (2 : Int32))] [(.int (1 : Int32))])
      refine Gl.st (fun _ kk => XS.goto X1.here hx rfl (pc0 := 22) (pc' := 26) rfl (hb hby d13_22) (by decide) (by decide) kk) ?_
      show Gl p e below s _ _ _ T1 (mkF m 26 #[.val (.ref x), .val (.int (Int32.ofNat cs.length)), .val (.ref a1), .val (.int (0 : Int32)), .val (.int (2 : Int32))] [(.int (1 : Int32))])
      exact Gl.ret X1 (v := (some (.int (1 : Int32)))) (fun h => by rw [Bd.returns] at h; cases h) (BodyLoose.notSynchronized Bd) (fun hr => retN X1 hx (t := .boolean) Bd.returns (by simp) (hb hby d13_26) hr) e1 ⟨rfl, N1, rfl⟩ (by decide) (by decide)
    · skip
      show Gl p e below s _ _ _ T1 (mkF m 12 #[.val (.ref x), .val (.int (Int32.ofNat cs.length)), .val (.ref a1), .val (.int (1 : Int32)), .val (.int (2 : Int32))] [(.int (cs.getD 2 0))])
      refine Gl.st (fun _ kk => XS.aloadN X1.here hx rfl (hb hby d13_12) rfl rfl kk) ?_
      show Gl p e below s _ _ _ T1 (mkF m 13 #[.val (.ref x), .val (.int (Int32.ofNat cs.length)), .val (.ref a1), .val (.int (1 : Int32)), .val (.int (2 : Int32))] [(.ref a1), (.int (cs.getD 2 0))])
      refine Gl.st (fun _ kk => XS.iloadN X1.here hx rfl (hb hby d13_13) rfl kk) ?_
      show Gl p e below s _ _ _ T1 (mkF m 14 #[.val (.ref x), .val (.int (Int32.ofNat cs.length)), .val (.ref a1), .val (.int (1 : Int32)), .val (.int (2 : Int32))] [(.int (1 : Int32)), (.ref a1), (.int (cs.getD 2 0))])
      refine Gl.st (fun _ kk => XS.iload X1.here hx rfl (hb hby d13_14) rfl kk) ?_
      show Gl p e below s _ _ _ T1 (mkF m 16 #[.val (.ref x), .val (.int (Int32.ofNat cs.length)), .val (.ref a1), .val (.int (1 : Int32)), .val (.int (2 : Int32))] [(.int (2 : Int32)), (.int (1 : Int32)), (.ref a1), (.int (cs.getD 2 0))])
      refine Gl.st (fun _ kk => XS.iadd X1.here hx rfl (hb hby d13_16) rfl kk) ?_
      show Gl p e below s _ _ _ T1 (mkF m 17 #[.val (.ref x), .val (.int (Int32.ofNat cs.length)), .val (.ref a1), .val (.int (1 : Int32)), .val (.int (2 : Int32))] [(.int (3 : Int32)), (.ref a1), (.int (cs.getD 2 0))])
      obtain ⟨cl3, Ar3, q3, Sz3, Ng3, Ha3, Fi3⟩ := id Arv_a1
      have hin3 : ¬ ((3 : Int32) < 0 ∨ cl3.slots.size ≤ ((3 : Int32)).toNatClampNeg) := inb_of Sz3 ⟨by decide, by decide⟩
      have hat3 : cl3.slots[((3 : Int32)).toNatClampNeg]? = some (.int u3) := Ha3.at hin3 rfl
      refine Gl.st (fun _ kk => X1.caload hx (j := (3 : Int32)) (v := (.int u3)) (by rw [e1]; exact Ar3.1) (State.isArrayOf_alike hZ.alike Ar3.2.1) Ar3.2.2 hin3 hat3 (g := (mkF m 17 #[.val (.ref x), .val (.int (Int32.ofNat cs.length)), .val (.ref a1), .val (.int (1 : Int32)), .val (.int (2 : Int32))] [(.int (3 : Int32)), (.ref a1), (.int (cs.getD 2 0))])) rfl rfl (hb hby d13_17) _ kk) ?_
      show Gl p e below s _ _ _ T1 (mkF m 18 #[.val (.ref x), .val (.int (Int32.ofNat cs.length)), .val (.ref a1), .val (.int (1 : Int32)), .val (.int (2 : Int32))] [(.int u3), (.int (cs.getD 2 0))])
      refine Gl.st (fun _ kk => XS.icmpNo X1.here hx rfl (hb hby d13_18) rfl (teq (heq 2 hi)).2 kk) ?_
      show Gl p e below s _ _ _ T1 (mkF m 21 #[.val (.ref x), .val (.int (Int32.ofNat cs.length)), .val (.ref a1), .val (.int (1 : Int32)), .val (.int (2 : Int32))] [])
      refine Gl.st (fun _ kk => XS.iconst X1.here hx rfl (hb hby d13_21) kk) ?_
      show Gl p e below s _ _ _ T1 (mkF m 22 #[.val (.ref x), .val (.int (Int32.ofNat cs.length)), .val (.ref a1), .val (.int (1 : Int32)), .val (.int (2 : Int32))] [(.int (1 : Int32))])
      refine Gl.st (fun _ kk => XS.goto X1.here hx rfl (pc0 := 22) (pc' := 26) rfl (hb hby d13_22) (by decide) (by decide) kk) ?_
      show Gl p e below s _ _ _ T1 (mkF m 26 #[.val (.ref x), .val (.int (Int32.ofNat cs.length)), .val (.ref a1), .val (.int (1 : Int32)), .val (.int (2 : Int32))] [(.int (1 : Int32))])
      exact Gl.ret X1 (v := (some (.int (1 : Int32)))) (fun h => by rw [Bd.returns] at h; cases h) (BodyLoose.notSynchronized Bd) (fun hr => retN X1 hx (t := .boolean) Bd.returns (by simp) (hb hby d13_26) hr) e1 ⟨rfl, N1, rfl⟩ (by decide) (by decide)
  · skip
    refine Gl.st (fun _ kk => XS.icmpYes X0.here hx rfl (pc0 := 3) (pc' := 21) rfl (hb hby d13_3) rfl (flt hc3).2.1 (by decide) (by decide) kk) ?_
    show Gl p e below s _ _ _ s₁ (mkF m 21 #[.val (.ref x), .val (.int (Int32.ofNat cs.length)), .val (.ref a1), .val (.int (Int32.ofNat j)), .val (.int (2 : Int32))] [])
    refine Gl.st (fun _ kk => XS.iconst X0.here hx rfl (hb hby d13_21) kk) ?_
    show Gl p e below s _ _ _ s₁ (mkF m 22 #[.val (.ref x), .val (.int (Int32.ofNat cs.length)), .val (.ref a1), .val (.int (Int32.ofNat j)), .val (.int (2 : Int32))] [(.int (1 : Int32))])
    refine Gl.st (fun _ kk => XS.goto X0.here hx rfl (pc0 := 22) (pc' := 26) rfl (hb hby d13_22) (by decide) (by decide) kk) ?_
    show Gl p e below s _ _ _ s₁ (mkF m 26 #[.val (.ref x), .val (.int (Int32.ofNat cs.length)), .val (.ref a1), .val (.int (Int32.ofNat j)), .val (.int (2 : Int32))] [(.int (1 : Int32))])
    exact Gl.ret X0 (v := (some (.int (1 : Int32)))) (fun h => by rw [Bd.returns] at h; cases h) (BodyLoose.notSynchronized Bd) (fun hr => retN X0 hx (t := .boolean) Bd.returns (by simp) (hb hby d13_26) hr) e0 ⟨rfl, N0, rfl⟩ (by decide) (by decide)
theorem pd_rmA3_0 : parseMethodDescriptor "(I)C" = some ⟨[.int], some .char⟩ := by decide +kernel
theorem pn_rmA3 : plainName "com/example/concurrency_quota/concurrencyquota/ServiceRequestTrimWhitespacePinLaw" = true := by first | (simp [plainName, overriddenIn]; done) | decide +kernel
theorem ef_rmA3 (m : MethodId) (x : Addr) (q1 : Int32) (a1 : Addr) (f1 : Int32) : entryFrame m #[(.ref x), (.int q1), (.ref a1), (.int f1), (.int (3 : Int32))] 5 = mkF m 0 #[.val (.ref x), .val (.int q1), .val (.ref a1), .val (.int f1), .val (.int (3 : Int32))] [] := by first | (simp [entryFrame, mkF, argsToLocals, Value.category]; done) | rfl
def Q_rmA3 (Z : State) (x : Addr) (q1 : Int32) (a1 : Addr) (f1 : Int32) (t : Addr) (k : ClassId) (cs : List Int32) (fm : Value) (cz : Int32) (k1 : ClassId) (u0 u1 u2 u3 : Int32) (j : Nat) (h0 : Heap) (n0 : Nat) (v : Option Value) (h : Heap) (L : List Loc) : Prop := v = some (.int 1) ∧ Fr n0 L ∧ h = h0
set_option maxRecDepth 65536 in
set_option maxHeartbeats 40000000 in
theorem rmA3 (l : Launch) (Z : State) (a0 : Array Value) (hw : ∀ d ∈ tables_1, d.before a0 Z = true) (ws : List Jvm.Cond) (x : Addr) (q1 : Int32) (a1 : Addr) (f1 : Int32) (t : Addr) (k : ClassId) (cs : List Int32) (fm : Value) (cz : Int32) (k1 : ClassId) (u0 u1 u2 u3 : Int32) (j : Nat) (h0 : Heap) (n0 : Nat) (O0 : Old Z n0 h0) (hq1 : q1 = Int32.ofNat cs.length) (hf1 : f1 = Int32.ofNat j) (Exa_x : Exa Z h0 x "java/lang/String") (F_value_x : Fld Z h0 x "java/lang/String" "value" "[B" (.ref t)) (F_coder_x : Fld Z h0 x "java/lang/String" "coder" "B" (.int 0)) (Arv_t : Arv Z h0 t k .byte (Int32.ofNat cs.length) ((cs.map StrChars.lo8).map Value.int) (.int 0)) (hp : ∀ c ∈ cs, ¬ c < 0 ∧ ¬ (255 : Int32) < c) (hl4 : cs.length ≤ 4) (Arv_a1 : Arv Z h0 a1 k1 .char 4 [(.int u0), (.int u1), (.int u2), (.int u3)] (.int 0)) (hjl : j + cs.length ≤ 4) (heq : ∀ i, i < cs.length → cs.getD i 0 = ([u0, u1, u2, u3] : List Int32).getD (j + i) 0) (S_COMPACT : Sta Z Z.heap "java/lang/String" "COMPACT_STRINGS" "Z" (.int cz)) (hcz : ¬ cz = 0) (S_SI : Sta Z Z.heap "jdk/internal/util/Preconditions" "SIOOBE_FORMATTER" "Ljava/util/function/BiFunction;" fm) (rG : fm.isRef = true) :
    MetFree l (⟨"com/example/concurrency_quota/concurrencyquota/ServiceRequestTrimWhitespacePinLaw", "at", "(Ljava/lang/String;I[CII)Z"⟩ : MethodName) (head1 (Jvm.Cond.code (⟨"com/example/concurrency_quota/concurrencyquota/ServiceRequestTrimWhitespacePinLaw", "at", "(Ljava/lang/String;I[CII)Z"⟩ : MethodName) method_6_code 5 (some .boolean) :: ws) ({ frames := 4, cells := 0, slots := 0, locals := 53 } : Room)) (fun a U => a = #[(.ref x), (.int q1), (.ref a1), (.int f1), (.int (3 : Int32))] ∧ Z.Warmed39 U.vm ∧ U.heap = h0) (fun _ _ _ _ _ => True) (fun _ U o U' => ∃ v L, o = .returned v ∧ Q_rmA3 Z x q1 a1 f1 t k cs fm cz k1 u0 u1 u2 u3 j h0 n0 v U'.heap L ∧ FrameEnd U o U' L ({ frames := 4, cells := 0, slots := 0, locals := 53 } : Room).cells ({ frames := 4, cells := 0, slots := 0, locals := 53 } : Room).slots) := by
  refine MetFree.of_bodySF (plainFor_of_name pn_rmA3) hisR ?_
  intro p e s m args below meth c s₁ Bd hml0 hP hK
  obtain ⟨rfl, hZ, hh⟩ := hP
  have hx := Bd.exec
  have hby := Bd.bytes
  have hml : c.maxLocals = 5 := hml0
  have hown : s.vm.findClass "com/example/concurrency_quota/concurrencyquota/ServiceRequestTrimWhitespacePinLaw" = some m.cls := findClass_of_methodNamed Bd.named
  have hnm := (name_of_methodNamed Bd.named Bd.method).1
  have X0 : Stand p l e ({ frames := 4, cells := 0, slots := 0, locals := 53 } : Room) s m #[(.ref x), (.int q1), (.ref a1), (.int f1), (.int (3 : Int32))] below meth c s₁ [] 0 0 := Stand.of_body Bd
  have e0 : s₁.heap = h0 := by rw [← hh, Bd.state]; rfl
  have N0 := Fr.nil n0
  refine Gl.start (Q := Q_rmA3 Z x q1 a1 f1 t k cs fm cz k1 u0 u1 u2 u3 j h0 n0) (ef_rmA3 m x q1 a1 f1) ?_
  have hcd := StrChars.Road.codOf (cs := cs) rfl (fun c hc => (hp c hc).2)
  have hbd := own_up hp
  have hwln : ∀ d ∈ StrChars.Road.wordsLen, d.before a0 Z = true := fun d hd => hw d ((by decide +kernel : ∀ d ∈ StrChars.Road.wordsLen, d ∈ tables_1) d hd)
  have hwch : ∀ d ∈ StrChars.Road.wordsChN, d.before a0 Z = true := fun d hd => hw d ((by decide +kernel : ∀ d ∈ StrChars.Road.wordsChN, d ∈ tables_1) d hd)
  have hl4k : cs.length ≤ 4000 := by omega
  subst hq1 hf1
  have hlb : cs.length < 2 ^ 31 := by omega
  show Gl p e below s _ _ _ s₁ (mkF m 0 #[.val (.ref x), .val (.int (Int32.ofNat cs.length)), .val (.ref a1), .val (.int (Int32.ofNat j)), .val (.int (3 : Int32))] [])
  refine Gl.st (fun _ kk => XS.iload X0.here hx rfl (hb hby d13_0) rfl kk) ?_
  show Gl p e below s _ _ _ s₁ (mkF m 2 #[.val (.ref x), .val (.int (Int32.ofNat cs.length)), .val (.ref a1), .val (.int (Int32.ofNat j)), .val (.int (3 : Int32))] [(.int (3 : Int32))])
  refine Gl.st (fun _ kk => XS.iloadN X0.here hx rfl (hb hby d13_2) rfl kk) ?_
  show Gl p e below s _ _ _ s₁ (mkF m 3 #[.val (.ref x), .val (.int (Int32.ofNat cs.length)), .val (.ref a1), .val (.int (Int32.ofNat j)), .val (.int (3 : Int32))] [(.int (Int32.ofNat cs.length)), (.int (3 : Int32))])
  by_cases hc3 : (3 : Int32) < (Int32.ofNat cs.length)
  · skip
    refine Gl.st (fun _ kk => XS.icmpNo X0.here hx rfl (hb hby d13_3) rfl (tlt hc3).2.1 kk) ?_
    show Gl p e below s _ _ _ s₁ (mkF m 6 #[.val (.ref x), .val (.int (Int32.ofNat cs.length)), .val (.ref a1), .val (.int (Int32.ofNat j)), .val (.int (3 : Int32))] [])
    have hi : 3 < cs.length := (own_ofNat_lt (a := 3) (by decide) hlb).mp hc3
    refine Gl.st (fun _ kk => XS.aloadN X0.here hx rfl (hb hby d13_6) rfl rfl kk) ?_
    show Gl p e below s _ _ _ s₁ (mkF m 7 #[.val (.ref x), .val (.int (Int32.ofNat cs.length)), .val (.ref a1), .val (.int (Int32.ofNat j)), .val (.int (3 : Int32))] [(.ref x)])
    refine Gl.st (fun _ kk => XS.iload X0.here hx rfl (hb hby d13_7) rfl kk) ?_
    show Gl p e below s _ _ _ s₁ (mkF m 9 #[.val (.ref x), .val (.int (Int32.ofNat cs.length)), .val (.ref a1), .val (.int (Int32.ofNat j)), .val (.int (3 : Int32))] [(.int (3 : Int32)), (.ref x)])
    obtain ⟨cq1, kq1, qa1, qb1, qc1⟩ := isOf hZ e0 Exa_x
    obtain ⟨v1, _, ⟨T1, L1, kQ1, nQ1⟩, -, X1, ⟨Lc1, hQ1, l1, y1, z1⟩, st1⟩ := X0.virtualBack hx (y := (⟨"java/lang/String", "charAt", "(I)C"⟩ : MethodName)) (z := (⟨"java/lang/String", "charAt", "(I)C"⟩ : MethodName)) hown (mvT hZ (hw _ (List.mem_of_getElem? (i := 124) rfl))) (mvT hZ (hw _ (List.mem_of_getElem? (i := 77) rfl))) (notFace_of_selects (args := #[]) (mvT hZ (hw _ (List.mem_of_getElem? (i := 79) rfl)))) (mvT hZ (hw _ (List.mem_of_getElem? (i := 79) rfl))) (mvT hZ (hw _ (List.mem_of_getElem? (i := 78) rfl))) (by decide) (StrChars.Road.chN (W := 0) hZ hwch (kI := 4) (hw _ (List.mem_of_getElem? (i := 7) rfl)) (cs := cs) Exa_x F_value_x F_coder_x Arv_t hcd hbd (S_COMPACT.ext O0.2) hcz (S_SI.ext O0.2) rG hl4k (i := 3) hi (j := (3 : Int32)) rfl (by decide) (by decide)) qa1 qc1 (g := (mkF m 9 #[.val (.ref x), .val (.int (Int32.ofNat cs.length)), .val (.ref a1), .val (.int (Int32.ofNat j)), .val (.int (3 : Int32))] [(.int (3 : Int32)), (.ref x)])) rfl (by rw [hml]; rfl) (Steps.refl _) (argsL := [(.int (3 : Int32))]) (rest := []) (lenOf pd_rmA3_0 rfl) rfl (by show 2 * 0 + _ ≤ _; exact Nat.le_of_eq rfl) (hb hby d13_9) (fun _ _ => ⟨rfl, e0, (by decide : 0 + 0 ≤ _), (by decide : 0 + 0 ≤ _)⟩)
    dsimp only [Pt.U, Pt.locs, Pt.cells, Pt.slots] at X1 l1 y1 z1 st1 hQ1
    subst y1 z1
    obtain ⟨hv1, hl1, e1⟩ := hQ1
    subst hv1 hl1
    have Nq1 := Fr.nil n0
    have N1 : Fr n0 L1 := l1 ▸ Fr.app N0 Nq1
    refine Gl.st (fun _ kk => st1.trans kk) ?_
    clear st1 qc1 qb1 qa1 kq1 cq1
    show Gl p e below s _ _ _ T1 (mkF m 12 #[.val (.ref x), .val (.int (Int32.ofNat cs.length)), .val (.ref a1), .val (.int (Int32.ofNat j)), .val (.int (3 : Int32))] [(.int (cs.getD 3 0))])
    have hj4 : j = 0 := by omega
    rcases hj4 with rfl
    · skip
      show Gl p e below s _ _ _ T1 (mkF m 12 #[.val (.ref x), .val (.int (Int32.ofNat cs.length)), .val (.ref a1), .val (.int (0 : Int32)), .val (.int (3 : Int32))] [(.int (cs.getD 3 0))])
      refine Gl.st (fun _ kk => XS.aloadN X1.here hx rfl (hb hby d13_12) rfl rfl kk) ?_
      show Gl p e below s _ _ _ T1 (mkF m 13 #[.val (.ref x), .val (.int (Int32.ofNat cs.length)), .val (.ref a1), .val (.int (0 : Int32)), .val (.int (3 : Int32))] [(.ref a1), (.int (cs.getD 3 0))])
      refine Gl.st (fun _ kk => XS.iloadN X1.here hx rfl (hb hby d13_13) rfl kk) ?_
      show Gl p e below s _ _ _ T1 (mkF m 14 #[.val (.ref x), .val (.int (Int32.ofNat cs.length)), .val (.ref a1), .val (.int (0 : Int32)), .val (.int (3 : Int32))] [(.int (0 : Int32)), (.ref a1), (.int (cs.getD 3 0))])
      refine Gl.st (fun _ kk => XS.iload X1.here hx rfl (hb hby d13_14) rfl kk) ?_
      show Gl p e below s _ _ _ T1 (mkF m 16 #[.val (.ref x), .val (.int (Int32.ofNat cs.length)), .val (.ref a1), .val (.int (0 : Int32)), .val (.int (3 : Int32))] [(.int (3 : Int32)), (.int (0 : Int32)), (.ref a1), (.int (cs.getD 3 0))])
      refine Gl.st (fun _ kk => XS.iadd X1.here hx rfl (hb hby d13_16) rfl kk) ?_
      show Gl p e below s _ _ _ T1 (mkF m 17 #[.val (.ref x), .val (.int (Int32.ofNat cs.length)), .val (.ref a1), .val (.int (0 : Int32)), .val (.int (3 : Int32))] [(.int (3 : Int32)), (.ref a1), (.int (cs.getD 3 0))])
      obtain ⟨cl2, Ar2, q2, Sz2, Ng2, Ha2, Fi2⟩ := id Arv_a1
      have hin2 : ¬ ((3 : Int32) < 0 ∨ cl2.slots.size ≤ ((3 : Int32)).toNatClampNeg) := inb_of Sz2 ⟨by decide, by decide⟩
      have hat2 : cl2.slots[((3 : Int32)).toNatClampNeg]? = some (.int u3) := Ha2.at hin2 rfl
      refine Gl.st (fun _ kk => X1.caload hx (j := (3 : Int32)) (v := (.int u3)) (by rw [e1]; exact Ar2.1) (State.isArrayOf_alike hZ.alike Ar2.2.1) Ar2.2.2 hin2 hat2 (g := (mkF m 17 #[.val (.ref x), .val (.int (Int32.ofNat cs.length)), .val (.ref a1), .val (.int (0 : Int32)), .val (.int (3 : Int32))] [(.int (3 : Int32)), (.ref a1), (.int (cs.getD 3 0))])) rfl rfl (hb hby d13_17) _ kk) ?_
      show Gl p e below s _ _ _ T1 (mkF m 18 #[.val (.ref x), .val (.int (Int32.ofNat cs.length)), .val (.ref a1), .val (.int (0 : Int32)), .val (.int (3 : Int32))] [(.int u3), (.int (cs.getD 3 0))])
      refine Gl.st (fun _ kk => XS.icmpNo X1.here hx rfl (hb hby d13_18) rfl (teq (heq 3 hi)).2 kk) ?_
      show Gl p e below s _ _ _ T1 (mkF m 21 #[.val (.ref x), .val (.int (Int32.ofNat cs.length)), .val (.ref a1), .val (.int (0 : Int32)), .val (.int (3 : Int32))] [])
      refine Gl.st (fun _ kk => XS.iconst X1.here hx rfl (hb hby d13_21) kk) ?_
      show Gl p e below s _ _ _ T1 (mkF m 22 #[.val (.ref x), .val (.int (Int32.ofNat cs.length)), .val (.ref a1), .val (.int (0 : Int32)), .val (.int (3 : Int32))] [(.int (1 : Int32))])
      refine Gl.st (fun _ kk => XS.goto X1.here hx rfl (pc0 := 22) (pc' := 26) rfl (hb hby d13_22) (by decide) (by decide) kk) ?_
      show Gl p e below s _ _ _ T1 (mkF m 26 #[.val (.ref x), .val (.int (Int32.ofNat cs.length)), .val (.ref a1), .val (.int (0 : Int32)), .val (.int (3 : Int32))] [(.int (1 : Int32))])
      exact Gl.ret X1 (v := (some (.int (1 : Int32)))) (fun h => by rw [Bd.returns] at h; cases h) (BodyLoose.notSynchronized Bd) (fun hr => retN X1 hx (t := .boolean) Bd.returns (by simp) (hb hby d13_26) hr) e1 ⟨rfl, N1, rfl⟩ (by decide) (by decide)
  · skip
    refine Gl.st (fun _ kk => XS.icmpYes X0.here hx rfl (pc0 := 3) (pc' := 21) rfl (hb hby d13_3) rfl (flt hc3).2.1 (by decide) (by decide) kk) ?_
    show Gl p e below s _ _ _ s₁ (mkF m 21 #[.val (.ref x), .val (.int (Int32.ofNat cs.length)), .val (.ref a1), .val (.int (Int32.ofNat j)), .val (.int (3 : Int32))] [])
    refine Gl.st (fun _ kk => XS.iconst X0.here hx rfl (hb hby d13_21) kk) ?_
    show Gl p e below s _ _ _ s₁ (mkF m 22 #[.val (.ref x), .val (.int (Int32.ofNat cs.length)), .val (.ref a1), .val (.int (Int32.ofNat j)), .val (.int (3 : Int32))] [(.int (1 : Int32))])
    refine Gl.st (fun _ kk => XS.goto X0.here hx rfl (pc0 := 22) (pc' := 26) rfl (hb hby d13_22) (by decide) (by decide) kk) ?_
    show Gl p e below s _ _ _ s₁ (mkF m 26 #[.val (.ref x), .val (.int (Int32.ofNat cs.length)), .val (.ref a1), .val (.int (Int32.ofNat j)), .val (.int (3 : Int32))] [(.int (1 : Int32))])
    exact Gl.ret X0 (v := (some (.int (1 : Int32)))) (fun h => by rw [Bd.returns] at h; cases h) (BodyLoose.notSynchronized Bd) (fun hr => retN X0 hx (t := .boolean) Bd.returns (by simp) (hb hby d13_26) hr) e0 ⟨rfl, N0, rfl⟩ (by decide) (by decide)
theorem d11_0 : decode jdk_41_method_12_code 0 = .ok (.iload_n 0, 1) := by decide +kernel
theorem d11_1 : decode jdk_41_method_12_code 1 = .ok (.ifCond .lt 13, 3) := by decide +kernel
theorem d11_4 : decode jdk_41_method_12_code 4 = .ok (.iload_n 0, 1) := by decide +kernel
theorem d11_5 : decode jdk_41_method_12_code 5 = .ok (.iload_n 1, 1) := by decide +kernel
theorem d11_6 : decode jdk_41_method_12_code 6 = .ok (.if_icmp .gt 8, 3) := by decide +kernel
theorem d11_9 : decode jdk_41_method_12_code 9 = .ok (.iload_n 1, 1) := by decide +kernel
theorem d11_10 : decode jdk_41_method_12_code 10 = .ok (.iload_n 2, 1) := by decide +kernel
theorem d11_11 : decode jdk_41_method_12_code 11 = .ok (.if_icmp .le 11, 3) := by decide +kernel
theorem d11_22 : decode jdk_41_method_12_code 22 = .ok (.iload_n 0, 1) := by decide +kernel
theorem d11_23 : decode jdk_41_method_12_code 23 = .ok (.ireturn, 1) := by decide +kernel
theorem pn_rmCF : plainName "jdk/internal/util/Preconditions" = true := by first | (simp [plainName, overriddenIn]; done) | decide +kernel
theorem ef_rmCF (m : MethodId) (q1 : Int32) (q2 : Int32) (q3 : Int32) (fm : Value) (rG : fm.isRef = true) : entryFrame m #[(.int q1), (.int q2), (.int q3), fm] 4 = mkF m 0 #[.val (.int q1), .val (.int q2), .val (.int q3), .val fm] [] := by
  all_goals cases fm
  all_goals first | (simp [entryFrame, mkF, argsToLocals, Value.category]; done) | rfl | contradiction | (simp [Value.isRef] at *; done)
def Q_rmCF (Z : State) (q1 : Int32) (q2 : Int32) (q3 : Int32) (fm : Value)  (h0 : Heap) (n0 : Nat) (v : Option Value) (h : Heap) (L : List Loc) : Prop := v = some (.int q1) ∧ Fr n0 L ∧ h = h0
set_option maxRecDepth 65536 in
set_option maxHeartbeats 40000000 in
theorem rmCF (l : Launch) (Z : State) (a0 : Array Value) (hw : ∀ d ∈ tables_1, d.before a0 Z = true) (ws : List Jvm.Cond) (q1 : Int32) (q2 : Int32) (q3 : Int32) (fm : Value)  (h0 : Heap) (n0 : Nat) (O0 : Old Z n0 h0) (rG : fm.isRef = true) (h1 : ¬ q1 < 0) (h2 : ¬ q2 < q1) (h3 : ¬ q3 < q2) :
    MetFree l (⟨"jdk/internal/util/Preconditions", "checkFromToIndex", "(IIILjava/util/function/BiFunction;)I"⟩ : MethodName) (head1 (Jvm.Cond.code (⟨"jdk/internal/util/Preconditions", "checkFromToIndex", "(IIILjava/util/function/BiFunction;)I"⟩ : MethodName) jdk_41_method_12_code 4 (some .int) :: ws) ({ frames := 0, cells := 0, slots := 0, locals := 0 } : Room)) (fun a U => a = #[(.int q1), (.int q2), (.int q3), fm] ∧ Z.Warmed39 U.vm ∧ U.heap = h0) (fun _ _ _ _ _ => True) (fun _ U o U' => ∃ v L, o = .returned v ∧ Q_rmCF Z q1 q2 q3 fm  h0 n0 v U'.heap L ∧ FrameEnd U o U' L ({ frames := 0, cells := 0, slots := 0, locals := 0 } : Room).cells ({ frames := 0, cells := 0, slots := 0, locals := 0 } : Room).slots) := by
  refine MetFree.of_bodySF (plainFor_of_name pn_rmCF) hisR ?_
  intro p e s m args below meth c s₁ Bd hml0 hP hK
  obtain ⟨rfl, hZ, hh⟩ := hP
  have hx := Bd.exec
  have hby := Bd.bytes
  have hml : c.maxLocals = 4 := hml0
  have hown : s.vm.findClass "jdk/internal/util/Preconditions" = some m.cls := findClass_of_methodNamed Bd.named
  have hnm := (name_of_methodNamed Bd.named Bd.method).1
  have X0 : Stand p l e ({ frames := 0, cells := 0, slots := 0, locals := 0 } : Room) s m #[(.int q1), (.int q2), (.int q3), fm] below meth c s₁ [] 0 0 := Stand.of_body Bd
  have e0 : s₁.heap = h0 := by rw [← hh, Bd.state]; rfl
  have N0 := Fr.nil n0
  refine Gl.start (Q := Q_rmCF Z q1 q2 q3 fm  h0 n0) (ef_rmCF m q1 q2 q3 fm rG) ?_
  show Gl p e below s _ _ _ s₁ (mkF m 0 #[.val (.int q1), .val (.int q2), .val (.int q3), .val fm] [])
  refine Gl.st (fun _ kk => XS.iloadN X0.here hx rfl (hb hby d11_0) rfl kk) ?_
  show Gl p e below s _ _ _ s₁ (mkF m 1 #[.val (.int q1), .val (.int q2), .val (.int q3), .val fm] [(.int q1)])
  refine Gl.st (fun _ kk => XS.ifNo X0.here hx rfl (hb hby d11_1) rfl ((if0 _ _).trans (flt h1).1) kk) ?_
  show Gl p e below s _ _ _ s₁ (mkF m 4 #[.val (.int q1), .val (.int q2), .val (.int q3), .val fm] [])
  refine Gl.st (fun _ kk => XS.iloadN X0.here hx rfl (hb hby d11_4) rfl kk) ?_
  show Gl p e below s _ _ _ s₁ (mkF m 5 #[.val (.int q1), .val (.int q2), .val (.int q3), .val fm] [(.int q1)])
  refine Gl.st (fun _ kk => XS.iloadN X0.here hx rfl (hb hby d11_5) rfl kk) ?_
  show Gl p e below s _ _ _ s₁ (mkF m 6 #[.val (.int q1), .val (.int q2), .val (.int q3), .val fm] [(.int q2), (.int q1)])
  refine Gl.st (fun _ kk => XS.icmpNo X0.here hx rfl (hb hby d11_6) rfl (flt h2).2.2.1 kk) ?_
  show Gl p e below s _ _ _ s₁ (mkF m 9 #[.val (.int q1), .val (.int q2), .val (.int q3), .val fm] [])
  refine Gl.st (fun _ kk => XS.iloadN X0.here hx rfl (hb hby d11_9) rfl kk) ?_
  show Gl p e below s _ _ _ s₁ (mkF m 10 #[.val (.int q1), .val (.int q2), .val (.int q3), .val fm] [(.int q2)])
  refine Gl.st (fun _ kk => XS.iloadN X0.here hx rfl (hb hby d11_10) rfl kk) ?_
  show Gl p e below s _ _ _ s₁ (mkF m 11 #[.val (.int q1), .val (.int q2), .val (.int q3), .val fm] [(.int q3), (.int q2)])
  refine Gl.st (fun _ kk => XS.icmpYes X0.here hx rfl (pc0 := 11) (pc' := 22) rfl (hb hby d11_11) rfl (flt h3).2.2.2 (by decide) (by decide) kk) ?_
  show Gl p e below s _ _ _ s₁ (mkF m 22 #[.val (.int q1), .val (.int q2), .val (.int q3), .val fm] [])
  refine Gl.st (fun _ kk => XS.iloadN X0.here hx rfl (hb hby d11_22) rfl kk) ?_
  show Gl p e below s _ _ _ s₁ (mkF m 23 #[.val (.int q1), .val (.int q2), .val (.int q3), .val fm] [(.int q1)])
  exact Gl.ret X0 (v := (some (.int q1))) (fun h => by rw [Bd.returns] at h; cases h) (BodyLoose.notSynchronized Bd) (fun hr => retI X0 hx Bd.returns (hb hby d11_23) hr) e0 ⟨rfl, N0, rfl⟩ (by decide) (by decide)
theorem d10_0 : decode jdk_42_method_158_code 0 = .ok (.iload_n 0, 1) := by decide +kernel
theorem d10_1 : decode jdk_42_method_158_code 1 = .ok (.iload_n 1, 1) := by decide +kernel
theorem d10_2 : decode jdk_42_method_158_code 2 = .ok (.iload_n 2, 1) := by decide +kernel
theorem d10_3 : decode jdk_42_method_158_code 3 = .ok (.getstatic 1053, 3) := by decide +kernel
theorem d10_6 : decode jdk_42_method_158_code 6 = .ok (.invokestatic 1062, 3) := by decide +kernel
theorem d10_9 : decode jdk_42_method_158_code 9 = .ok (.pop, 1) := by decide +kernel
theorem d10_10 : decode jdk_42_method_158_code 10 = .ok (.return_, 1) := by decide +kernel
theorem pd_rmCB_0 : parseMethodDescriptor "(IIILjava/util/function/BiFunction;)I" = some ⟨[.int, .int, .int, (.object "java/util/function/BiFunction")], some .int⟩ := by decide +kernel
theorem pn_rmCB : plainName "java/lang/String" = true := by first | (simp [plainName, overriddenIn]; done) | decide +kernel
theorem ef_rmCB (m : MethodId) (q1 : Int32) (q2 : Int32) (q3 : Int32) : entryFrame m #[(.int q1), (.int q2), (.int q3)] 3 = mkF m 0 #[.val (.int q1), .val (.int q2), .val (.int q3)] [] := by first | (simp [entryFrame, mkF, argsToLocals, Value.category]; done) | rfl
def Q_rmCB (Z : State) (q1 : Int32) (q2 : Int32) (q3 : Int32) (fm : Value) (h0 : Heap) (n0 : Nat) (v : Option Value) (h : Heap) (L : List Loc) : Prop := v = none ∧ Fr n0 L ∧ h = h0
set_option maxRecDepth 65536 in
set_option maxHeartbeats 40000000 in
theorem rmCB (l : Launch) (Z : State) (a0 : Array Value) (hw : ∀ d ∈ tables_1, d.before a0 Z = true) (ws : List Jvm.Cond) (q1 : Int32) (q2 : Int32) (q3 : Int32) (fm : Value) (h0 : Heap) (n0 : Nat) (O0 : Old Z n0 h0) (S_SI : Sta Z Z.heap "jdk/internal/util/Preconditions" "SIOOBE_FORMATTER" "Ljava/util/function/BiFunction;" fm) (rG : fm.isRef = true) (h1 : ¬ q1 < 0) (h2 : ¬ q2 < q1) (h3 : ¬ q3 < q2) :
    MetFree l (⟨"java/lang/String", "checkBoundsBeginEnd", "(III)V"⟩ : MethodName) (head1 (Jvm.Cond.code (⟨"java/lang/String", "checkBoundsBeginEnd", "(III)V"⟩ : MethodName) jdk_42_method_158_code 3 none :: ws) ({ frames := 1, cells := 0, slots := 0, locals := 15 } : Room)) (fun a U => a = #[(.int q1), (.int q2), (.int q3)] ∧ Z.Warmed39 U.vm ∧ U.heap = h0) (fun _ _ _ _ _ => True) (fun _ U o U' => ∃ v L, o = .returned v ∧ Q_rmCB Z q1 q2 q3 fm h0 n0 v U'.heap L ∧ FrameEnd U o U' L ({ frames := 1, cells := 0, slots := 0, locals := 15 } : Room).cells ({ frames := 1, cells := 0, slots := 0, locals := 15 } : Room).slots) := by
  refine MetFree.of_bodySF (plainFor_of_name pn_rmCB) hisR ?_
  intro p e s m args below meth c s₁ Bd hml0 hP hK
  obtain ⟨rfl, hZ, hh⟩ := hP
  have hx := Bd.exec
  have hby := Bd.bytes
  have hml : c.maxLocals = 3 := hml0
  have hown : s.vm.findClass "java/lang/String" = some m.cls := findClass_of_methodNamed Bd.named
  have hnm := (name_of_methodNamed Bd.named Bd.method).1
  have X0 : Stand p l e ({ frames := 1, cells := 0, slots := 0, locals := 15 } : Room) s m #[(.int q1), (.int q2), (.int q3)] below meth c s₁ [] 0 0 := Stand.of_body Bd
  have e0 : s₁.heap = h0 := by rw [← hh, Bd.state]; rfl
  have N0 := Fr.nil n0
  refine Gl.start (Q := Q_rmCB Z q1 q2 q3 fm h0 n0) (ef_rmCB m q1 q2 q3) ?_
  show Gl p e below s _ _ _ s₁ (mkF m 0 #[.val (.int q1), .val (.int q2), .val (.int q3)] [])
  refine Gl.st (fun _ kk => XS.iloadN X0.here hx rfl (hb hby d10_0) rfl kk) ?_
  show Gl p e below s _ _ _ s₁ (mkF m 1 #[.val (.int q1), .val (.int q2), .val (.int q3)] [(.int q1)])
  refine Gl.st (fun _ kk => XS.iloadN X0.here hx rfl (hb hby d10_1) rfl kk) ?_
  show Gl p e below s _ _ _ s₁ (mkF m 2 #[.val (.int q1), .val (.int q2), .val (.int q3)] [(.int q2), (.int q1)])
  refine Gl.st (fun _ kk => XS.iloadN X0.here hx rfl (hb hby d10_2) rfl kk) ?_
  show Gl p e below s _ _ _ s₁ (mkF m 3 #[.val (.int q1), .val (.int q2), .val (.int q3)] [(.int q3), (.int q2), (.int q1)])
  obtain ⟨T1, X1, e1, st1⟩ := getS2 X0 hx hZ hown (host := "") (Or.inl (hw _ (List.mem_of_getElem? (i := 54) rfl))) Via.refl e0 (S_SI.ext O0.2) (g := (mkF m 3 #[.val (.int q1), .val (.int q2), .val (.int q3)] [(.int q3), (.int q2), (.int q1)])) rfl (hb hby d10_3)
  refine Gl.st st1 ?_
  show Gl p e below s _ _ _ T1 (mkF m 6 #[.val (.int q1), .val (.int q2), .val (.int q3)] [fm, (.int q3), (.int q2), (.int q1)])
  obtain ⟨v2, _, ⟨T2, L2, kQ2, nQ2⟩, -, X2, ⟨Lc2, hQ2, l2, y2, z2⟩, st2⟩ := Jvm.LawKit.callS X1 hx (y := (⟨"jdk/internal/util/Preconditions", "checkFromToIndex", "(IIILjava/util/function/BiFunction;)I"⟩ : MethodName)) hown (mvT hZ (hw _ (List.mem_of_getElem? (i := 56) rfl))) (mvT hZ (hw _ (List.mem_of_getElem? (i := 57) rfl))) (mvT hZ (hw _ (List.mem_of_getElem? (i := 55) rfl))) (mvT hZ (hw _ (List.mem_of_getElem? (i := 58) rfl))) (by decide) (backOf (W := 0) (rmCF l Z a0 hw [] q1 q2 q3 fm h0 n0 O0 rG h1 h2 h3) hZ (hw _ (List.mem_of_getElem? (i := 58) rfl)) (hw _ (List.mem_of_getElem? (i := 55) rfl)) (by decide) (by decide)) (g := (mkF m 6 #[.val (.int q1), .val (.int q2), .val (.int q3)] [fm, (.int q3), (.int q2), (.int q1)])) rfl (by rw [hml]; rfl) (argsL := [(.int q1), (.int q2), (.int q3), fm]) (rest := []) (lenOf pd_rmCB_0 rfl) rfl (by show 2 * 0 + _ ≤ _; exact Nat.le_of_eq rfl) (hb hby d10_6) (fun _ _ => ⟨rfl, e1, (by decide : 0 + 0 ≤ _), (by decide : 0 + 0 ≤ _)⟩)
  dsimp only [Pt.U, Pt.locs, Pt.cells, Pt.slots] at X2 l2 y2 z2 st2 hQ2
  subst y2 z2
  obtain ⟨rfl, Nq2, e2⟩ := hQ2
  have N2 : Fr n0 L2 := l2 ▸ Fr.app N0 Nq2
  refine Gl.st st2 ?_
  clear st2
  clear X1 e1
  show Gl p e below s _ _ _ T2 (mkF m 9 #[.val (.int q1), .val (.int q2), .val (.int q3)] [(.int q1)])
  refine Gl.st (fun _ kk => XS.pop X2.here hx rfl (hb hby d10_9) rfl rfl kk) ?_
  show Gl p e below s _ _ _ T2 (mkF m 10 #[.val (.int q1), .val (.int q2), .val (.int q3)] [])
  exact Gl.ret X2 (v := none) (fun _ => rfl) (BodyLoose.notSynchronized Bd) (fun hr => X2.returnOut hx Bd.returns (hb hby d10_10) hr) e2 ⟨rfl, N2, rfl⟩ (by decide) (by decide)
theorem d25_0 : decode jdk_65_method_131_code 0 = .ok (.iload_n 1, 1) := by decide +kernel
theorem d25_1 : decode jdk_65_method_131_code 1 = .ok (.iload_n 0, 1) := by decide +kernel
theorem d25_2 : decode jdk_65_method_131_code 2 = .ok (.if_icmp .ge 35, 3) := by decide +kernel
theorem d25_37 : decode jdk_65_method_131_code 37 = .ok (.return_, 1) := by decide +kernel
theorem pn_rmCL : plainName "java/util/Arrays" = true := by first | (simp [plainName, overriddenIn]; done) | decide +kernel
theorem ef_rmCL (m : MethodId) (q1 : Int32) (q2 : Int32) : entryFrame m #[(.int q1), (.int q2)] 2 = mkF m 0 #[.val (.int q1), .val (.int q2)] [] := by first | (simp [entryFrame, mkF, argsToLocals, Value.category]; done) | rfl
def Q_rmCL (Z : State) (q1 : Int32) (q2 : Int32)  (h0 : Heap) (n0 : Nat) (v : Option Value) (h : Heap) (L : List Loc) : Prop := v = none ∧ Fr n0 L ∧ h = h0
set_option maxRecDepth 65536 in
set_option maxHeartbeats 40000000 in
theorem rmCL (l : Launch) (Z : State) (a0 : Array Value) (hw : ∀ d ∈ tables_1, d.before a0 Z = true) (ws : List Jvm.Cond) (q1 : Int32) (q2 : Int32)  (h0 : Heap) (n0 : Nat) (O0 : Old Z n0 h0) (h2 : ¬ q2 < q1) :
    MetFree l (⟨"java/util/Arrays", "checkLength", "(II)V"⟩ : MethodName) (head1 (Jvm.Cond.code (⟨"java/util/Arrays", "checkLength", "(II)V"⟩ : MethodName) jdk_65_method_131_code 2 none :: ws) ({ frames := 0, cells := 0, slots := 0, locals := 0 } : Room)) (fun a U => a = #[(.int q1), (.int q2)] ∧ Z.Warmed39 U.vm ∧ U.heap = h0) (fun _ _ _ _ _ => True) (fun _ U o U' => ∃ v L, o = .returned v ∧ Q_rmCL Z q1 q2  h0 n0 v U'.heap L ∧ FrameEnd U o U' L ({ frames := 0, cells := 0, slots := 0, locals := 0 } : Room).cells ({ frames := 0, cells := 0, slots := 0, locals := 0 } : Room).slots) := by
  refine MetFree.of_bodySF (plainFor_of_name pn_rmCL) hisR ?_
  intro p e s m args below meth c s₁ Bd hml0 hP hK
  obtain ⟨rfl, hZ, hh⟩ := hP
  have hx := Bd.exec
  have hby := Bd.bytes
  have hml : c.maxLocals = 2 := hml0
  have hown : s.vm.findClass "java/util/Arrays" = some m.cls := findClass_of_methodNamed Bd.named
  have hnm := (name_of_methodNamed Bd.named Bd.method).1
  have X0 : Stand p l e ({ frames := 0, cells := 0, slots := 0, locals := 0 } : Room) s m #[(.int q1), (.int q2)] below meth c s₁ [] 0 0 := Stand.of_body Bd
  have e0 : s₁.heap = h0 := by rw [← hh, Bd.state]; rfl
  have N0 := Fr.nil n0
  refine Gl.start (Q := Q_rmCL Z q1 q2  h0 n0) (ef_rmCL m q1 q2) ?_
  show Gl p e below s _ _ _ s₁ (mkF m 0 #[.val (.int q1), .val (.int q2)] [])
  refine Gl.st (fun _ kk => XS.iloadN X0.here hx rfl (hb hby d25_0) rfl kk) ?_
  show Gl p e below s _ _ _ s₁ (mkF m 1 #[.val (.int q1), .val (.int q2)] [(.int q2)])
  refine Gl.st (fun _ kk => XS.iloadN X0.here hx rfl (hb hby d25_1) rfl kk) ?_
  show Gl p e below s _ _ _ s₁ (mkF m 2 #[.val (.int q1), .val (.int q2)] [(.int q1), (.int q2)])
  refine Gl.st (fun _ kk => XS.icmpYes X0.here hx rfl (pc0 := 2) (pc' := 37) rfl (hb hby d25_2) rfl (flt h2).2.1 (by decide) (by decide) kk) ?_
  show Gl p e below s _ _ _ s₁ (mkF m 37 #[.val (.int q1), .val (.int q2)] [])
  exact Gl.ret X0 (v := none) (fun _ => rfl) (BodyLoose.notSynchronized Bd) (fun hr => X0.returnOut hx Bd.returns (hb hby d25_37) hr) e0 ⟨rfl, N0, rfl⟩ (by decide) (by decide)
theorem d26_0 : decode jdk_29_method_69_code 0 = .ok (.iload_n 0, 1) := by decide +kernel
theorem d26_1 : decode jdk_29_method_69_code 1 = .ok (.iload_n 1, 1) := by decide +kernel
theorem d26_2 : decode jdk_29_method_69_code 2 = .ok (.if_icmp .gt 7, 3) := by decide +kernel
theorem d26_5 : decode jdk_29_method_69_code 5 = .ok (.iload_n 0, 1) := by decide +kernel
theorem d26_6 : decode jdk_29_method_69_code 6 = .ok (.goto 4, 3) := by decide +kernel
theorem d26_9 : decode jdk_29_method_69_code 9 = .ok (.iload_n 1, 1) := by decide +kernel
theorem d26_10 : decode jdk_29_method_69_code 10 = .ok (.ireturn, 1) := by decide +kernel
theorem ef_rmMN (m : MethodId) (q1 : Int32) (q2 : Int32) : entryFrame m #[(.int q1), (.int q2)] 2 = mkF m 0 #[.val (.int q1), .val (.int q2)] [] := by first | (simp [entryFrame, mkF, argsToLocals, Value.category]; done) | rfl
def Q_rmMN (Z : State) (q1 : Int32) (q2 : Int32)  (h0 : Heap) (n0 : Nat) (v : Option Value) (h : Heap) (L : List Loc) : Prop := v = some (.int q2) ∧ Fr n0 L ∧ h = h0
set_option maxRecDepth 65536 in
set_option maxHeartbeats 40000000 in
theorem rmMN (l : Launch) (Z : State) (a0 : Array Value) (hw : ∀ d ∈ tables_1, d.before a0 Z = true) (ws : List Jvm.Cond) (q1 : Int32) (q2 : Int32)  (h0 : Heap) (n0 : Nat) (O0 : Old Z n0 h0) (hba : ¬ q1 < q2) :
    MetFree l (⟨"java/lang/Math", "min", "(II)I"⟩ : MethodName) (head1 (Jvm.Cond.code (⟨"java/lang/Math", "min", "(II)I"⟩ : MethodName) jdk_29_method_69_code 2 (some .int) :: ws) ({ frames := 0, cells := 0, slots := 0, locals := 0 } : Room)) (fun a U => a = #[(.int q1), (.int q2)] ∧ Z.Warmed39 U.vm ∧ U.heap = h0) (fun _ _ _ _ _ => True) (fun _ U o U' => ∃ v L, o = .returned v ∧ Q_rmMN Z q1 q2  h0 n0 v U'.heap L ∧ FrameEnd U o U' L ({ frames := 0, cells := 0, slots := 0, locals := 0 } : Room).cells ({ frames := 0, cells := 0, slots := 0, locals := 0 } : Room).slots) := by
  refine MetFree.of_bodySF (Jvm.Free.JP.mathPlain rfl (by decide +kernel)) hisR ?_
  intro p e s m args below meth c s₁ Bd hml0 hP hK
  obtain ⟨rfl, hZ, hh⟩ := hP
  have hx := Bd.exec
  have hby := Bd.bytes
  have hml : c.maxLocals = 2 := hml0
  have hown : s.vm.findClass "java/lang/Math" = some m.cls := findClass_of_methodNamed Bd.named
  have hnm := (name_of_methodNamed Bd.named Bd.method).1
  have X0 : Stand p l e ({ frames := 0, cells := 0, slots := 0, locals := 0 } : Room) s m #[(.int q1), (.int q2)] below meth c s₁ [] 0 0 := Stand.of_body Bd
  have e0 : s₁.heap = h0 := by rw [← hh, Bd.state]; rfl
  have N0 := Fr.nil n0
  refine Gl.start (Q := Q_rmMN Z q1 q2  h0 n0) (ef_rmMN m q1 q2) ?_
  show Gl p e below s _ _ _ s₁ (mkF m 0 #[.val (.int q1), .val (.int q2)] [])
  refine Gl.st (fun _ kk => XS.iloadN X0.here hx rfl (hb hby d26_0) rfl kk) ?_
  show Gl p e below s _ _ _ s₁ (mkF m 1 #[.val (.int q1), .val (.int q2)] [(.int q1)])
  refine Gl.st (fun _ kk => XS.iloadN X0.here hx rfl (hb hby d26_1) rfl kk) ?_
  show Gl p e below s _ _ _ s₁ (mkF m 2 #[.val (.int q1), .val (.int q2)] [(.int q2), (.int q1)])
  by_cases hc2 : q2 < q1
  · skip
    refine Gl.st (fun _ kk => XS.icmpYes X0.here hx rfl (pc0 := 2) (pc' := 9) rfl (hb hby d26_2) rfl (tlt hc2).2.2.1 (by decide) (by decide) kk) ?_
    show Gl p e below s _ _ _ s₁ (mkF m 9 #[.val (.int q1), .val (.int q2)] [])
    refine Gl.st (fun _ kk => XS.iloadN X0.here hx rfl (hb hby d26_9) rfl kk) ?_
    show Gl p e below s _ _ _ s₁ (mkF m 10 #[.val (.int q1), .val (.int q2)] [(.int q2)])
    exact Gl.ret X0 (v := (some (.int q2))) (fun h => by rw [Bd.returns] at h; cases h) (BodyLoose.notSynchronized Bd) (fun hr => retI X0 hx Bd.returns (hb hby d26_10) hr) e0 ⟨rfl, N0, rfl⟩ (by decide) (by decide)
  · skip
    refine Gl.st (fun _ kk => XS.icmpNo X0.here hx rfl (hb hby d26_2) rfl (flt hc2).2.2.1 kk) ?_
    show Gl p e below s _ _ _ s₁ (mkF m 5 #[.val (.int q1), .val (.int q2)] [])
    refine Gl.st (fun _ kk => XS.iloadN X0.here hx rfl (hb hby d26_5) rfl kk) ?_
    show Gl p e below s _ _ _ s₁ (mkF m 6 #[.val (.int q1), .val (.int q2)] [(.int q1)])
    refine Gl.st (fun _ kk => XS.goto X0.here hx rfl (pc0 := 6) (pc' := 10) rfl (hb hby d26_6) (by decide) (by decide) kk) ?_
    show Gl p e below s _ _ _ s₁ (mkF m 10 #[.val (.int q1), .val (.int q2)] [(.int q1)])
    exact Gl.ret X0 (v := (some (.int q1))) (fun h => by rw [Bd.returns] at h; cases h) (BodyLoose.notSynchronized Bd) (fun hr => retI X0 hx Bd.returns (hb hby d26_10) hr) e0 ⟨congrArg (fun z => some (Value.int z)) (own_anti hba hc2), N0, rfl⟩ (by decide) (by decide)
theorem d24_0 : decode jdk_65_method_133_code 0 = .ok (.iload_n 1, 1) := by decide +kernel
theorem d24_1 : decode jdk_65_method_133_code 1 = .ok (.iload_n 2, 1) := by decide +kernel
theorem d24_2 : decode jdk_65_method_133_code 2 = .ok (.invokestatic 343, 3) := by decide +kernel
theorem d24_5 : decode jdk_65_method_133_code 5 = .ok (.iload_n 2, 1) := by decide +kernel
theorem d24_6 : decode jdk_65_method_133_code 6 = .ok (.iload_n 1, 1) := by decide +kernel
theorem d24_7 : decode jdk_65_method_133_code 7 = .ok (.isub, 1) := by decide +kernel
theorem d24_8 : decode jdk_65_method_133_code 8 = .ok (.istore_n 3, 1) := by decide +kernel
theorem d24_9 : decode jdk_65_method_133_code 9 = .ok (.iload_n 3, 1) := by decide +kernel
theorem d24_10 : decode jdk_65_method_133_code 10 = .ok (.newarray .byte, 2) := by decide +kernel
theorem d24_12 : decode jdk_65_method_133_code 12 = .ok (.astore 4, 2) := by decide +kernel
theorem d24_14 : decode jdk_65_method_133_code 14 = .ok (.aload_n 0, 1) := by decide +kernel
theorem d24_15 : decode jdk_65_method_133_code 15 = .ok (.iload_n 1, 1) := by decide +kernel
theorem d24_16 : decode jdk_65_method_133_code 16 = .ok (.aload 4, 2) := by decide +kernel
theorem d24_18 : decode jdk_65_method_133_code 18 = .ok (.iconst 0, 1) := by decide +kernel
theorem d24_19 : decode jdk_65_method_133_code 19 = .ok (.aload_n 0, 1) := by decide +kernel
theorem d24_20 : decode jdk_65_method_133_code 20 = .ok (.arraylength, 1) := by decide +kernel
theorem d24_21 : decode jdk_65_method_133_code 21 = .ok (.iload_n 1, 1) := by decide +kernel
theorem d24_22 : decode jdk_65_method_133_code 22 = .ok (.isub, 1) := by decide +kernel
theorem d24_23 : decode jdk_65_method_133_code 23 = .ok (.iload_n 3, 1) := by decide +kernel
theorem d24_24 : decode jdk_65_method_133_code 24 = .ok (.invokestatic 304, 3) := by decide +kernel
theorem d24_27 : decode jdk_65_method_133_code 27 = .ok (.invokestatic 150, 3) := by decide +kernel
theorem d24_30 : decode jdk_65_method_133_code 30 = .ok (.aload 4, 2) := by decide +kernel
theorem d24_32 : decode jdk_65_method_133_code 32 = .ok (.areturn, 1) := by decide +kernel
theorem pd_rmCRB_0 : parseMethodDescriptor "(II)V" = some ⟨[.int, .int], none⟩ := by decide +kernel
theorem pd_rmCRB_1 : parseMethodDescriptor "(II)I" = some ⟨[.int, .int], some .int⟩ := by decide +kernel
theorem pn_rmCRB : plainName "java/util/Arrays" = true := by first | (simp [plainName, overriddenIn]; done) | decide +kernel
theorem ef_rmCRB (m : MethodId) (t : Addr) (q1 : Int32) (q2 : Int32) : entryFrame m #[(.ref t), (.int q1), (.int q2)] 5 = mkF m 0 #[.val (.ref t), .val (.int q1), .val (.int q2), .unset, .unset] [] := by first | (simp [entryFrame, mkF, argsToLocals, Value.category]; done) | rfl
def Q_rmCRB (Z : State) (t : Addr) (q1 : Int32) (q2 : Int32) (k : ClassId) (cs : List Int32) (j n : Nat) (h0 : Heap) (n0 : Nat) (v : Option Value) (h : Heap) (L : List Loc) : Prop := ∃ (b : Addr) (k2 : ClassId), v = some (.ref b) ∧ Fr n0 L ∧ Keep h0 h [] ∧ Arv Z h b k2 .byte (Int32.ofNat n) (own_sl cs j n) (.int 0) ∧ h0.size ≤ b
set_option maxRecDepth 65536 in
set_option maxHeartbeats 40000000 in
theorem rmCRB (l : Launch) (Z : State) (a0 : Array Value) (hw : ∀ d ∈ tables_1, d.before a0 Z = true) (ws : List Jvm.Cond) (t : Addr) (q1 : Int32) (q2 : Int32) (k : ClassId) (cs : List Int32) (j n : Nat) (h0 : Heap) (n0 : Nat) (O0 : Old Z n0 h0) (hq1 : q1 = Int32.ofNat j) (hq2 : q2 = Int32.ofNat (j + n)) (Arv_t : Arv Z h0 t k .byte (Int32.ofNat cs.length) ((cs.map StrChars.lo8).map Value.int) (.int 0)) (hjn : j + n ≤ cs.length) (hl4 : cs.length ≤ 4) :
    MetFree l (⟨"java/util/Arrays", "copyOfRangeByte", "([BII)[B"⟩ : MethodName) (head1 (Jvm.Cond.code (⟨"java/util/Arrays", "copyOfRangeByte", "([BII)[B"⟩ : MethodName) jdk_65_method_133_code 5 (some (.array .byte)) :: ws) ({ frames := 1, cells := 1, slots := 4, locals := 18 } : Room)) (fun a U => a = #[(.ref t), (.int q1), (.int q2)] ∧ Z.Warmed39 U.vm ∧ U.heap = h0) (fun _ _ _ _ _ => True) (fun _ U o U' => ∃ v L, o = .returned v ∧ Q_rmCRB Z t q1 q2 k cs j n h0 n0 v U'.heap L ∧ FrameEnd U o U' L ({ frames := 1, cells := 1, slots := 4, locals := 18 } : Room).cells ({ frames := 1, cells := 1, slots := 4, locals := 18 } : Room).slots) := by
  refine MetFree.of_bodySF (plainFor_of_name pn_rmCRB) hisR ?_
  intro p e s m args below meth c s₁ Bd hml0 hP hK
  obtain ⟨rfl, hZ, hh⟩ := hP
  have hx := Bd.exec
  have hby := Bd.bytes
  have hml : c.maxLocals = 5 := hml0
  have hown : s.vm.findClass "java/util/Arrays" = some m.cls := findClass_of_methodNamed Bd.named
  have hnm := (name_of_methodNamed Bd.named Bd.method).1
  have X0 : Stand p l e ({ frames := 1, cells := 1, slots := 4, locals := 18 } : Room) s m #[(.ref t), (.int q1), (.int q2)] below meth c s₁ [] 0 0 := Stand.of_body Bd
  have e0 : s₁.heap = h0 := by rw [← hh, Bd.state]; rfl
  have N0 := Fr.nil n0
  refine Gl.start (Q := Q_rmCRB Z t q1 q2 k cs j n h0 n0) (ef_rmCRB m t q1 q2) ?_
  subst hq1 hq2
  have hjb : j < 2 ^ 31 := by omega
  have hnb : n < 2 ^ 31 := by omega
  have hlb : cs.length < 2 ^ 31 := by omega
  have hjnb : j + n < 2 ^ 31 := by omega
  show Gl p e below s _ _ _ s₁ (mkF m 0 #[.val (.ref t), .val (.int (Int32.ofNat j)), .val (.int (Int32.ofNat (j + n))), .unset, .unset] [])
  refine Gl.st (fun _ kk => XS.iloadN X0.here hx rfl (hb hby d24_0) rfl kk) ?_
  show Gl p e below s _ _ _ s₁ (mkF m 1 #[.val (.ref t), .val (.int (Int32.ofNat j)), .val (.int (Int32.ofNat (j + n))), .unset, .unset] [(.int (Int32.ofNat j))])
  refine Gl.st (fun _ kk => XS.iloadN X0.here hx rfl (hb hby d24_1) rfl kk) ?_
  show Gl p e below s _ _ _ s₁ (mkF m 2 #[.val (.ref t), .val (.int (Int32.ofNat j)), .val (.int (Int32.ofNat (j + n))), .unset, .unset] [(.int (Int32.ofNat (j + n))), (.int (Int32.ofNat j))])
  obtain ⟨v1, _, ⟨T1, L1, kQ1, nQ1⟩, -, X1, ⟨Lc1, hQ1, l1, y1, z1⟩, st1⟩ := Jvm.LawKit.callS X0 hx (y := (⟨"java/util/Arrays", "checkLength", "(II)V"⟩ : MethodName)) hown (mvT hZ (hw _ (List.mem_of_getElem? (i := 107) rfl))) (mvT hZ (hw _ (List.mem_of_getElem? (i := 108) rfl))) (mvT hZ (hw _ (List.mem_of_getElem? (i := 102) rfl))) (mvT hZ (hw _ (List.mem_of_getElem? (i := 109) rfl))) (by decide) (backOf (W := 0) (rmCL l Z a0 hw [] (Int32.ofNat j) (Int32.ofNat (j + n)) h0 n0 O0 (by rw [own_ofNat_lt hjnb hjb]; omega)) hZ (hw _ (List.mem_of_getElem? (i := 109) rfl)) (hw _ (List.mem_of_getElem? (i := 102) rfl)) (by decide) (by decide)) (g := (mkF m 2 #[.val (.ref t), .val (.int (Int32.ofNat j)), .val (.int (Int32.ofNat (j + n))), .unset, .unset] [(.int (Int32.ofNat (j + n))), (.int (Int32.ofNat j))])) rfl (by rw [hml]; rfl) (argsL := [(.int (Int32.ofNat j)), (.int (Int32.ofNat (j + n)))]) (rest := []) (lenOf pd_rmCRB_0 rfl) rfl (by show 2 * 0 + _ ≤ _; exact Nat.le_of_eq rfl) (hb hby d24_2) (fun _ _ => ⟨rfl, e0, (by decide : 0 + 0 ≤ _), (by decide : 0 + 0 ≤ _)⟩)
  dsimp only [Pt.U, Pt.locs, Pt.cells, Pt.slots] at X1 l1 y1 z1 st1 hQ1
  subst y1 z1
  obtain ⟨rfl, Nq1, e1⟩ := hQ1
  have N1 : Fr n0 L1 := l1 ▸ Fr.app N0 Nq1
  refine Gl.st st1 ?_
  clear st1
  show Gl p e below s _ _ _ T1 (mkF m 5 #[.val (.ref t), .val (.int (Int32.ofNat j)), .val (.int (Int32.ofNat (j + n))), .unset, .unset] [])
  refine Gl.st (fun _ kk => XS.iloadN X1.here hx rfl (hb hby d24_5) rfl kk) ?_
  show Gl p e below s _ _ _ T1 (mkF m 6 #[.val (.ref t), .val (.int (Int32.ofNat j)), .val (.int (Int32.ofNat (j + n))), .unset, .unset] [(.int (Int32.ofNat (j + n)))])
  refine Gl.st (fun _ kk => XS.iloadN X1.here hx rfl (hb hby d24_6) rfl kk) ?_
  show Gl p e below s _ _ _ T1 (mkF m 7 #[.val (.ref t), .val (.int (Int32.ofNat j)), .val (.int (Int32.ofNat (j + n))), .unset, .unset] [(.int (Int32.ofNat j)), (.int (Int32.ofNat (j + n)))])
  refine Gl.st (fun _ kk => XS.isub X1.here hx rfl (hb hby d24_7) rfl kk) ?_
  show Gl p e below s _ _ _ T1 (mkF m 8 #[.val (.ref t), .val (.int (Int32.ofNat j)), .val (.int (Int32.ofNat (j + n))), .unset, .unset] [(.int ((Int32.ofNat (j + n)) - (Int32.ofNat j)))])
  rw [own_ofNat_addsub]
  show Gl p e below s _ _ _ T1 (mkF m 8 #[.val (.ref t), .val (.int (Int32.ofNat j)), .val (.int (Int32.ofNat (j + n))), .unset, .unset] [(.int (Int32.ofNat n))])
  refine Gl.st (fun _ kk => XS.istoreN X1.here hx rfl (hb hby d24_8) rfl (l' := #[.val (.ref t), .val (.int (Int32.ofNat j)), .val (.int (Int32.ofNat (j + n))), .val (.int (Int32.ofNat n)), .unset]) rfl kk) ?_
  show Gl p e below s _ _ _ T1 (mkF m 9 #[.val (.ref t), .val (.int (Int32.ofNat j)), .val (.int (Int32.ofNat (j + n))), .val (.int (Int32.ofNat n)), .unset] [])
  refine Gl.st (fun _ kk => XS.iloadN X1.here hx rfl (hb hby d24_9) rfl kk) ?_
  show Gl p e below s _ _ _ T1 (mkF m 10 #[.val (.ref t), .val (.int (Int32.ofNat j)), .val (.int (Int32.ofNat (j + n))), .val (.int (Int32.ofNat n)), .unset] [(.int (Int32.ofNat n))])
  obtain ⟨T2, h2, ka2, X2, e2, E2, A2, st2⟩ := newP X1 hx hZ (hw _ (List.mem_of_getElem? (i := 23) rfl)) e1 (g := (mkF m 10 #[.val (.ref t), .val (.int (Int32.ofNat j)), .val (.int (Int32.ofNat (j + n))), .val (.int (Int32.ofNat n)), .unset] [(.int (Int32.ofNat n))])) rfl (hb hby d24_10) rfl (own_ofNat_nneg hnb) (cap := 4) (by rw [own_ofNat_clamp hnb]; omega) (by decide) (by decide) (by decide)
  obtain ⟨b2, g2⟩ : ∃ z, z = h0.size := ⟨_, rfl⟩
  rw [← g2] at A2 st2
  refine Gl.st st2 ?_
  have ne_t_b2 : t ≠ b2 := Nat.ne_of_lt (Nat.lt_of_lt_of_eq Arv_t.lt g2.symm)
  have ge_b2 : n0 ≤ b2 := Nat.le_trans (Nat.le_trans (Nat.le_of_eq O0.1.symm) O0.2.1) (Nat.le_of_eq g2.symm)
  have fr_b2 : h0.size ≤ b2 := Nat.le_trans (Nat.le_refl _) (Nat.le_of_eq g2.symm)
  replace Arv_t := Arv_t.ext E2
  have O2 := O0.ext E2
  have K2 := (Keep.refl h0 []).ext E2
  have Arv_b2 : Arv Z h2 b2 ka2 .byte (Int32.ofNat n) [] (.int (0 : Int32)) := Arv.new A2 (own_ofNat_nneg hnb)
  show Gl p e below s _ _ _ T2 (mkF m 12 #[.val (.ref t), .val (.int (Int32.ofNat j)), .val (.int (Int32.ofNat (j + n))), .val (.int (Int32.ofNat n)), .unset] [(.ref b2)])
  refine Gl.st (fun _ kk => XS.astore X2.here hx rfl (hb hby d24_12) rfl rfl (l' := #[.val (.ref t), .val (.int (Int32.ofNat j)), .val (.int (Int32.ofNat (j + n))), .val (.int (Int32.ofNat n)), .val (.ref b2)]) rfl kk) ?_
  show Gl p e below s _ _ _ T2 (mkF m 14 #[.val (.ref t), .val (.int (Int32.ofNat j)), .val (.int (Int32.ofNat (j + n))), .val (.int (Int32.ofNat n)), .val (.ref b2)] [])
  refine Gl.st (fun _ kk => XS.aloadN X2.here hx rfl (hb hby d24_14) rfl rfl kk) ?_
  show Gl p e below s _ _ _ T2 (mkF m 15 #[.val (.ref t), .val (.int (Int32.ofNat j)), .val (.int (Int32.ofNat (j + n))), .val (.int (Int32.ofNat n)), .val (.ref b2)] [(.ref t)])
  refine Gl.st (fun _ kk => XS.iloadN X2.here hx rfl (hb hby d24_15) rfl kk) ?_
  show Gl p e below s _ _ _ T2 (mkF m 16 #[.val (.ref t), .val (.int (Int32.ofNat j)), .val (.int (Int32.ofNat (j + n))), .val (.int (Int32.ofNat n)), .val (.ref b2)] [(.int (Int32.ofNat j)), (.ref t)])
  refine Gl.st (fun _ kk => XS.aload X2.here hx rfl (hb hby d24_16) rfl rfl kk) ?_
  show Gl p e below s _ _ _ T2 (mkF m 18 #[.val (.ref t), .val (.int (Int32.ofNat j)), .val (.int (Int32.ofNat (j + n))), .val (.int (Int32.ofNat n)), .val (.ref b2)] [(.ref b2), (.int (Int32.ofNat j)), (.ref t)])
  refine Gl.st (fun _ kk => XS.iconst X2.here hx rfl (hb hby d24_18) kk) ?_
  show Gl p e below s _ _ _ T2 (mkF m 19 #[.val (.ref t), .val (.int (Int32.ofNat j)), .val (.int (Int32.ofNat (j + n))), .val (.int (Int32.ofNat n)), .val (.ref b2)] [(.int (0 : Int32)), (.ref b2), (.int (Int32.ofNat j)), (.ref t)])
  refine Gl.st (fun _ kk => XS.aloadN X2.here hx rfl (hb hby d24_19) rfl rfl kk) ?_
  show Gl p e below s _ _ _ T2 (mkF m 20 #[.val (.ref t), .val (.int (Int32.ofNat j)), .val (.int (Int32.ofNat (j + n))), .val (.int (Int32.ofNat n)), .val (.ref b2)] [(.ref t), (.int (0 : Int32)), (.ref b2), (.int (Int32.ofNat j)), (.ref t)])
  obtain ⟨cl3, Ar3, q3, Sz3, Ng3, Ha3, Fi3⟩ := id Arv_t
  refine Gl.st (fun _ kk => X2.arraylength hx (by rw [e2]; exact Ar3.1) (State.isArrayOf_alike hZ.alike Ar3.2.1) (g := (mkF m 20 #[.val (.ref t), .val (.int (Int32.ofNat j)), .val (.int (Int32.ofNat (j + n))), .val (.int (Int32.ofNat n)), .val (.ref b2)] [(.ref t), (.int (0 : Int32)), (.ref b2), (.int (Int32.ofNat j)), (.ref t)])) rfl rfl (hb hby d24_20) _ kk) ?_
  rw [len_of Sz3 Ng3]
  show Gl p e below s _ _ _ T2 (mkF m 21 #[.val (.ref t), .val (.int (Int32.ofNat j)), .val (.int (Int32.ofNat (j + n))), .val (.int (Int32.ofNat n)), .val (.ref b2)] [(.int (Int32.ofNat cs.length)), (.int (0 : Int32)), (.ref b2), (.int (Int32.ofNat j)), (.ref t)])
  refine Gl.st (fun _ kk => XS.iloadN X2.here hx rfl (hb hby d24_21) rfl kk) ?_
  show Gl p e below s _ _ _ T2 (mkF m 22 #[.val (.ref t), .val (.int (Int32.ofNat j)), .val (.int (Int32.ofNat (j + n))), .val (.int (Int32.ofNat n)), .val (.ref b2)] [(.int (Int32.ofNat j)), (.int (Int32.ofNat cs.length)), (.int (0 : Int32)), (.ref b2), (.int (Int32.ofNat j)), (.ref t)])
  refine Gl.st (fun _ kk => XS.isub X2.here hx rfl (hb hby d24_22) rfl kk) ?_
  show Gl p e below s _ _ _ T2 (mkF m 23 #[.val (.ref t), .val (.int (Int32.ofNat j)), .val (.int (Int32.ofNat (j + n))), .val (.int (Int32.ofNat n)), .val (.ref b2)] [(.int ((Int32.ofNat cs.length) - (Int32.ofNat j))), (.int (0 : Int32)), (.ref b2), (.int (Int32.ofNat j)), (.ref t)])
  refine Gl.st (fun _ kk => XS.iloadN X2.here hx rfl (hb hby d24_23) rfl kk) ?_
  show Gl p e below s _ _ _ T2 (mkF m 24 #[.val (.ref t), .val (.int (Int32.ofNat j)), .val (.int (Int32.ofNat (j + n))), .val (.int (Int32.ofNat n)), .val (.ref b2)] [(.int (Int32.ofNat n)), (.int ((Int32.ofNat cs.length) - (Int32.ofNat j))), (.int (0 : Int32)), (.ref b2), (.int (Int32.ofNat j)), (.ref t)])
  obtain ⟨v4, _, ⟨T4, L4, kQ4, nQ4⟩, -, X4, ⟨Lc4, hQ4, l4, y4, z4⟩, st4⟩ := Jvm.LawKit.callS X2 hx (y := (⟨"java/lang/Math", "min", "(II)I"⟩ : MethodName)) hown (mvT hZ (hw _ (List.mem_of_getElem? (i := 110) rfl))) (mvT hZ (hw _ (List.mem_of_getElem? (i := 111) rfl))) (mvT hZ (hw _ (List.mem_of_getElem? (i := 112) rfl))) (mvT hZ (hw _ (List.mem_of_getElem? (i := 113) rfl))) (by decide) (backOf (W := 4) (rmMN l Z a0 hw [] ((Int32.ofNat cs.length) - (Int32.ofNat j)) (Int32.ofNat n) h2 n0 O2 (by rw [own_ofNat_sub (by omega), own_ofNat_lt (by omega) hnb]; omega)) hZ (hw _ (List.mem_of_getElem? (i := 113) rfl)) (hw _ (List.mem_of_getElem? (i := 112) rfl)) (by decide) (by decide)) (g := (mkF m 24 #[.val (.ref t), .val (.int (Int32.ofNat j)), .val (.int (Int32.ofNat (j + n))), .val (.int (Int32.ofNat n)), .val (.ref b2)] [(.int (Int32.ofNat n)), (.int ((Int32.ofNat cs.length) - (Int32.ofNat j))), (.int (0 : Int32)), (.ref b2), (.int (Int32.ofNat j)), (.ref t)])) rfl (by rw [hml]; rfl) (argsL := [(.int ((Int32.ofNat cs.length) - (Int32.ofNat j))), (.int (Int32.ofNat n))]) (rest := [(.int (0 : Int32)), (.ref b2), (.int (Int32.ofNat j)), (.ref t)]) (lenOf pd_rmCRB_1 rfl) rfl (by show 2 * 0 + _ ≤ _; exact Nat.le_of_eq rfl) (hb hby d24_24) (fun _ _ => ⟨rfl, e2, (by decide : 1 + 0 ≤ _), (by decide : 4 + 0 ≤ _)⟩)
  dsimp only [Pt.U, Pt.locs, Pt.cells, Pt.slots] at X4 l4 y4 z4 st4 hQ4
  subst y4 z4
  obtain ⟨rfl, Nq4, e4⟩ := hQ4
  have N4 : Fr n0 L4 := l4 ▸ Fr.app N1 Nq4
  refine Gl.st st4 ?_
  clear st4
  clear N1 X2 e2
  show Gl p e below s _ _ _ T4 (mkF m 27 #[.val (.ref t), .val (.int (Int32.ofNat j)), .val (.int (Int32.ofNat (j + n))), .val (.int (Int32.ofNat n)), .val (.ref b2)] [(.int (Int32.ofNat n)), (.int (0 : Int32)), (.ref b2), (.int (Int32.ofNat j)), (.ref t)])
  obtain ⟨T5, h5, Lq5, X5, e5, N5, Kq5, Aq5, st5⟩ := cpA X4 hx hZ hown (hw _ (List.mem_of_getElem? (i := 114) rfl)) (hw _ (List.mem_of_getElem? (i := 117) rfl)) (hw _ (List.mem_of_getElem? (i := 115) rfl)) (hw _ (List.mem_of_getElem? (i := 116) rfl)) e4 Arv_t (Arv_b2.pad (pad_rep [] (.int 0) n)) (us := own_sl cs j n) (Or.inl ⟨rfl, rfl⟩) (own_ofNat_nneg hjb) (by decide) (own_ofNat_nneg hnb) (by rw [own_ofNat_clamp hjb, own_ofNat_clamp hnb, own_ofNat_clamp hlb]; exact hjn) (by rw [own_ofNat_clamp hnb, show (0 : Int32).toNatClampNeg = 0 from rfl]; omega) (own_slice hjb hnb hjn) (by rw [own_ofNat_clamp hnb, show (0 : Int32).toNatClampNeg = 0 from rfl]; simp) N4 ge_b2 (g := (mkF m 27 #[.val (.ref t), .val (.int (Int32.ofNat j)), .val (.int (Int32.ofNat (j + n))), .val (.int (Int32.ofNat n)), .val (.ref b2)] [(.int (Int32.ofNat n)), (.int (0 : Int32)), (.ref b2), (.int (Int32.ofNat j)), (.ref t)])) rfl (by rw [hml]; rfl) (rest := []) rfl (hb hby d24_27) (by decide) (W := 0) (by show 2 * 0 + _ ≤ _; exact Nat.le_of_eq rfl) (by decide)
  refine Gl.st st5 ?_
  rw [own_fin hnb] at Aq5
  replace Arv_t := Arv_t.keep Kq5 (ninS ne_t_b2 nin0)
  have O5 := O2.keep Kq5 (allS ge_b2 all0)
  have K5 := K2.trans Kq5 (allS (Or.inr fr_b2) all0)
  have Arv_b2 := Aq5
  show Gl p e below s _ _ _ T5 (mkF m 30 #[.val (.ref t), .val (.int (Int32.ofNat j)), .val (.int (Int32.ofNat (j + n))), .val (.int (Int32.ofNat n)), .val (.ref b2)] [])
  refine Gl.st (fun _ kk => XS.aload X5.here hx rfl (hb hby d24_30) rfl rfl kk) ?_
  show Gl p e below s _ _ _ T5 (mkF m 32 #[.val (.ref t), .val (.int (Int32.ofNat j)), .val (.int (Int32.ofNat (j + n))), .val (.int (Int32.ofNat n)), .val (.ref b2)] [(.ref b2)])
  exact Gl.ret X5 (v := (some (.ref b2))) (fun h => by rw [Bd.returns] at h; cases h) (BodyLoose.notSynchronized Bd) (fun hr => retOut X5 hx Bd.returns rfl (Or.inr (Or.inr (Or.inr (Or.inr ⟨rfl, rfl, rfl⟩)))) (hb hby d24_32) hr) e5 ⟨b2, ka2, rfl, N5, K5, Arv_b2, fr_b2⟩ (by decide) (by decide)
theorem d23_0 : decode jdk_65_method_132_code 0 = .ok (.iload_n 1, 1) := by decide +kernel
theorem d23_1 : decode jdk_65_method_132_code 1 = .ok (.ifCond .ne 9, 3) := by decide +kernel
theorem d23_4 : decode jdk_65_method_132_code 4 = .ok (.iload_n 2, 1) := by decide +kernel
theorem d23_5 : decode jdk_65_method_132_code 5 = .ok (.aload_n 0, 1) := by decide +kernel
theorem d23_6 : decode jdk_65_method_132_code 6 = .ok (.arraylength, 1) := by decide +kernel
theorem d23_7 : decode jdk_65_method_132_code 7 = .ok (.if_icmp .eq 10, 3) := by decide +kernel
theorem d23_10 : decode jdk_65_method_132_code 10 = .ok (.aload_n 0, 1) := by decide +kernel
theorem d23_11 : decode jdk_65_method_132_code 11 = .ok (.iload_n 1, 1) := by decide +kernel
theorem d23_12 : decode jdk_65_method_132_code 12 = .ok (.iload_n 2, 1) := by decide +kernel
theorem d23_13 : decode jdk_65_method_132_code 13 = .ok (.invokestatic 339, 3) := by decide +kernel
theorem d23_16 : decode jdk_65_method_132_code 16 = .ok (.areturn, 1) := by decide +kernel
theorem pd_rmCR_0 : parseMethodDescriptor "([BII)[B" = some ⟨[(.array .byte), .int, .int], some (.array .byte)⟩ := by decide +kernel
theorem pn_rmCR : plainName "java/util/Arrays" = true := by first | (simp [plainName, overriddenIn]; done) | decide +kernel
theorem ef_rmCR (m : MethodId) (t : Addr) (q1 : Int32) (q2 : Int32) : entryFrame m #[(.ref t), (.int q1), (.int q2)] 3 = mkF m 0 #[.val (.ref t), .val (.int q1), .val (.int q2)] [] := by first | (simp [entryFrame, mkF, argsToLocals, Value.category]; done) | rfl
def Q_rmCR (Z : State) (t : Addr) (q1 : Int32) (q2 : Int32) (k : ClassId) (cs : List Int32) (j n : Nat) (h0 : Heap) (n0 : Nat) (v : Option Value) (h : Heap) (L : List Loc) : Prop := ∃ (b : Addr) (k2 : ClassId), v = some (.ref b) ∧ Fr n0 L ∧ Keep h0 h [] ∧ Arv Z h b k2 .byte (Int32.ofNat n) (own_sl cs j n) (.int 0) ∧ h0.size ≤ b
set_option maxRecDepth 65536 in
set_option maxHeartbeats 40000000 in
theorem rmCR (l : Launch) (Z : State) (a0 : Array Value) (hw : ∀ d ∈ tables_1, d.before a0 Z = true) (ws : List Jvm.Cond) (t : Addr) (q1 : Int32) (q2 : Int32) (k : ClassId) (cs : List Int32) (j n : Nat) (h0 : Heap) (n0 : Nat) (O0 : Old Z n0 h0) (hq1 : q1 = Int32.ofNat j) (hq2 : q2 = Int32.ofNat (j + n)) (Arv_t : Arv Z h0 t k .byte (Int32.ofNat cs.length) ((cs.map StrChars.lo8).map Value.int) (.int 0)) (hjn : j + n ≤ cs.length) (hl4 : cs.length ≤ 4) (hne : ¬ (j = 0 ∧ n = cs.length)) :
    MetFree l (⟨"java/util/Arrays", "copyOfRange", "([BII)[B"⟩ : MethodName) (head1 (Jvm.Cond.code (⟨"java/util/Arrays", "copyOfRange", "([BII)[B"⟩ : MethodName) jdk_65_method_132_code 3 (some (.array .byte)) :: ws) ({ frames := 2, cells := 1, slots := 4, locals := 34 } : Room)) (fun a U => a = #[(.ref t), (.int q1), (.int q2)] ∧ Z.Warmed39 U.vm ∧ U.heap = h0) (fun _ _ _ _ _ => True) (fun _ U o U' => ∃ v L, o = .returned v ∧ Q_rmCR Z t q1 q2 k cs j n h0 n0 v U'.heap L ∧ FrameEnd U o U' L ({ frames := 2, cells := 1, slots := 4, locals := 34 } : Room).cells ({ frames := 2, cells := 1, slots := 4, locals := 34 } : Room).slots) := by
  refine MetFree.of_bodySF (plainFor_of_name pn_rmCR) hisR ?_
  intro p e s m args below meth c s₁ Bd hml0 hP hK
  obtain ⟨rfl, hZ, hh⟩ := hP
  have hx := Bd.exec
  have hby := Bd.bytes
  have hml : c.maxLocals = 3 := hml0
  have hown : s.vm.findClass "java/util/Arrays" = some m.cls := findClass_of_methodNamed Bd.named
  have hnm := (name_of_methodNamed Bd.named Bd.method).1
  have X0 : Stand p l e ({ frames := 2, cells := 1, slots := 4, locals := 34 } : Room) s m #[(.ref t), (.int q1), (.int q2)] below meth c s₁ [] 0 0 := Stand.of_body Bd
  have e0 : s₁.heap = h0 := by rw [← hh, Bd.state]; rfl
  have N0 := Fr.nil n0
  refine Gl.start (Q := Q_rmCR Z t q1 q2 k cs j n h0 n0) (ef_rmCR m t q1 q2) ?_
  subst hq1 hq2
  have hjb : j < 2 ^ 31 := by omega
  have hnb : n < 2 ^ 31 := by omega
  have hlb : cs.length < 2 ^ 31 := by omega
  have hjnb : j + n < 2 ^ 31 := by omega
  show Gl p e below s _ _ _ s₁ (mkF m 0 #[.val (.ref t), .val (.int (Int32.ofNat j)), .val (.int (Int32.ofNat (j + n)))] [])
  refine Gl.st (fun _ kk => XS.iloadN X0.here hx rfl (hb hby d23_0) rfl kk) ?_
  show Gl p e below s _ _ _ s₁ (mkF m 1 #[.val (.ref t), .val (.int (Int32.ofNat j)), .val (.int (Int32.ofNat (j + n)))] [(.int (Int32.ofNat j))])
  by_cases hc1 : (Int32.ofNat j) = (0 : Int32)
  · skip
    refine Gl.st (fun _ kk => XS.ifNo X0.here hx rfl (hb hby d23_1) rfl ((if0 _ _).trans (teq hc1).2) kk) ?_
    show Gl p e below s _ _ _ s₁ (mkF m 4 #[.val (.ref t), .val (.int (Int32.ofNat j)), .val (.int (Int32.ofNat (j + n)))] [])
    refine Gl.st (fun _ kk => XS.iloadN X0.here hx rfl (hb hby d23_4) rfl kk) ?_
    show Gl p e below s _ _ _ s₁ (mkF m 5 #[.val (.ref t), .val (.int (Int32.ofNat j)), .val (.int (Int32.ofNat (j + n)))] [(.int (Int32.ofNat (j + n)))])
    refine Gl.st (fun _ kk => XS.aloadN X0.here hx rfl (hb hby d23_5) rfl rfl kk) ?_
    show Gl p e below s _ _ _ s₁ (mkF m 6 #[.val (.ref t), .val (.int (Int32.ofNat j)), .val (.int (Int32.ofNat (j + n)))] [(.ref t), (.int (Int32.ofNat (j + n)))])
    obtain ⟨cl1, Ar1, q1, Sz1, Ng1, Ha1, Fi1⟩ := id Arv_t
    refine Gl.st (fun _ kk => X0.arraylength hx (by rw [e0]; exact Ar1.1) (State.isArrayOf_alike hZ.alike Ar1.2.1) (g := (mkF m 6 #[.val (.ref t), .val (.int (Int32.ofNat j)), .val (.int (Int32.ofNat (j + n)))] [(.ref t), (.int (Int32.ofNat (j + n)))])) rfl rfl (hb hby d23_6) _ kk) ?_
    rw [len_of Sz1 Ng1]
    show Gl p e below s _ _ _ s₁ (mkF m 7 #[.val (.ref t), .val (.int (Int32.ofNat j)), .val (.int (Int32.ofNat (j + n)))] [(.int (Int32.ofNat cs.length)), (.int (Int32.ofNat (j + n)))])
    refine Gl.st (fun _ kk => XS.icmpNo X0.here hx rfl (hb hby d23_7) rfl (feq (fun q => hne ⟨own_ofNat_zero hjb hc1, by have := own_ofNat_inj hjnb hlb q; have := own_ofNat_zero hjb hc1; omega⟩)).1 kk) ?_
    show Gl p e below s _ _ _ s₁ (mkF m 10 #[.val (.ref t), .val (.int (Int32.ofNat j)), .val (.int (Int32.ofNat (j + n)))] [])
    refine Gl.st (fun _ kk => XS.aloadN X0.here hx rfl (hb hby d23_10) rfl rfl kk) ?_
    show Gl p e below s _ _ _ s₁ (mkF m 11 #[.val (.ref t), .val (.int (Int32.ofNat j)), .val (.int (Int32.ofNat (j + n)))] [(.ref t)])
    refine Gl.st (fun _ kk => XS.iloadN X0.here hx rfl (hb hby d23_11) rfl kk) ?_
    show Gl p e below s _ _ _ s₁ (mkF m 12 #[.val (.ref t), .val (.int (Int32.ofNat j)), .val (.int (Int32.ofNat (j + n)))] [(.int (Int32.ofNat j)), (.ref t)])
    refine Gl.st (fun _ kk => XS.iloadN X0.here hx rfl (hb hby d23_12) rfl kk) ?_
    show Gl p e below s _ _ _ s₁ (mkF m 13 #[.val (.ref t), .val (.int (Int32.ofNat j)), .val (.int (Int32.ofNat (j + n)))] [(.int (Int32.ofNat (j + n))), (.int (Int32.ofNat j)), (.ref t)])
    have lq2_t := Arv_t.lt
    obtain ⟨v2, _, ⟨T2, L2, kQ2, nQ2⟩, -, X2, ⟨Lc2, hQ2, l2, y2, z2⟩, st2⟩ := Jvm.LawKit.callS X0 hx (y := (⟨"java/util/Arrays", "copyOfRangeByte", "([BII)[B"⟩ : MethodName)) hown (mvT hZ (hw _ (List.mem_of_getElem? (i := 104) rfl))) (mvT hZ (hw _ (List.mem_of_getElem? (i := 105) rfl))) (mvT hZ (hw _ (List.mem_of_getElem? (i := 102) rfl))) (mvT hZ (hw _ (List.mem_of_getElem? (i := 106) rfl))) (by decide) (backOf (W := 0) (rmCRB l Z a0 hw [] t (Int32.ofNat j) (Int32.ofNat (j + n)) k cs j n h0 n0 O0 rfl rfl Arv_t hjn hl4) hZ (hw _ (List.mem_of_getElem? (i := 106) rfl)) (hw _ (List.mem_of_getElem? (i := 102) rfl)) (by decide) (by decide)) (g := (mkF m 13 #[.val (.ref t), .val (.int (Int32.ofNat j)), .val (.int (Int32.ofNat (j + n)))] [(.int (Int32.ofNat (j + n))), (.int (Int32.ofNat j)), (.ref t)])) rfl (by rw [hml]; rfl) (argsL := [(.ref t), (.int (Int32.ofNat j)), (.int (Int32.ofNat (j + n)))]) (rest := []) (lenOf pd_rmCR_0 rfl) rfl (by show 2 * 0 + _ ≤ _; exact Nat.le_of_eq rfl) (hb hby d23_13) (fun _ _ => ⟨rfl, e0, (by decide : 0 + 1 ≤ _), (by decide : 0 + 4 ≤ _)⟩)
    dsimp only [Pt.U, Pt.locs, Pt.cells, Pt.slots] at X2 l2 y2 z2 st2 hQ2
    subst y2 z2
    obtain ⟨h2, e2⟩ : ∃ z, T2.heap = z := ⟨_, rfl⟩
    rw [e2] at hQ2
    obtain ⟨b2, kb2, rfl, Nq2, Kq2, Arv_b2, frb2⟩ := hQ2
    have N2 : Fr n0 L2 := l2 ▸ Fr.app N0 Nq2
    refine Gl.st st2 ?_
    replace Arv_t := Arv_t.keep Kq2 nin0
    have O2 := O0.keep Kq2 all0
    have K2 := (Keep.refl h0 []).trans Kq2 all0
    have ne_t_b2 : t ≠ b2 := Nat.ne_of_lt (Nat.lt_of_lt_of_le lq2_t frb2)
    have ge_b2 : n0 ≤ b2 := Nat.le_trans (Nat.le_trans (Nat.le_of_eq O0.1.symm) O0.2.1) frb2
    have fr_b2 : h0.size ≤ b2 := frb2
    clear st2
    show Gl p e below s _ _ _ T2 (mkF m 16 #[.val (.ref t), .val (.int (Int32.ofNat j)), .val (.int (Int32.ofNat (j + n)))] [(.ref b2)])
    exact Gl.ret X2 (v := (some (.ref b2))) (fun h => by rw [Bd.returns] at h; cases h) (BodyLoose.notSynchronized Bd) (fun hr => retOut X2 hx Bd.returns rfl (Or.inr (Or.inr (Or.inr (Or.inr ⟨rfl, rfl, rfl⟩)))) (hb hby d23_16) hr) e2 ⟨b2, kb2, rfl, N2, K2, Arv_b2, fr_b2⟩ (by decide) (by decide)
  · skip
    refine Gl.st (fun _ kk => XS.ifYes X0.here hx rfl (pc0 := 1) (pc' := 10) rfl (hb hby d23_1) rfl ((if0 _ _).trans (feq hc1).2) (by decide) (by decide) kk) ?_
    show Gl p e below s _ _ _ s₁ (mkF m 10 #[.val (.ref t), .val (.int (Int32.ofNat j)), .val (.int (Int32.ofNat (j + n)))] [])
    refine Gl.st (fun _ kk => XS.aloadN X0.here hx rfl (hb hby d23_10) rfl rfl kk) ?_
    show Gl p e below s _ _ _ s₁ (mkF m 11 #[.val (.ref t), .val (.int (Int32.ofNat j)), .val (.int (Int32.ofNat (j + n)))] [(.ref t)])
    refine Gl.st (fun _ kk => XS.iloadN X0.here hx rfl (hb hby d23_11) rfl kk) ?_
    show Gl p e below s _ _ _ s₁ (mkF m 12 #[.val (.ref t), .val (.int (Int32.ofNat j)), .val (.int (Int32.ofNat (j + n)))] [(.int (Int32.ofNat j)), (.ref t)])
    refine Gl.st (fun _ kk => XS.iloadN X0.here hx rfl (hb hby d23_12) rfl kk) ?_
    show Gl p e below s _ _ _ s₁ (mkF m 13 #[.val (.ref t), .val (.int (Int32.ofNat j)), .val (.int (Int32.ofNat (j + n)))] [(.int (Int32.ofNat (j + n))), (.int (Int32.ofNat j)), (.ref t)])
    have lq3_t := Arv_t.lt
    obtain ⟨v3, _, ⟨T3, L3, kQ3, nQ3⟩, -, X3, ⟨Lc3, hQ3, l3, y3, z3⟩, st3⟩ := Jvm.LawKit.callS X0 hx (y := (⟨"java/util/Arrays", "copyOfRangeByte", "([BII)[B"⟩ : MethodName)) hown (mvT hZ (hw _ (List.mem_of_getElem? (i := 104) rfl))) (mvT hZ (hw _ (List.mem_of_getElem? (i := 105) rfl))) (mvT hZ (hw _ (List.mem_of_getElem? (i := 102) rfl))) (mvT hZ (hw _ (List.mem_of_getElem? (i := 106) rfl))) (by decide) (backOf (W := 0) (rmCRB l Z a0 hw [] t (Int32.ofNat j) (Int32.ofNat (j + n)) k cs j n h0 n0 O0 rfl rfl Arv_t hjn hl4) hZ (hw _ (List.mem_of_getElem? (i := 106) rfl)) (hw _ (List.mem_of_getElem? (i := 102) rfl)) (by decide) (by decide)) (g := (mkF m 13 #[.val (.ref t), .val (.int (Int32.ofNat j)), .val (.int (Int32.ofNat (j + n)))] [(.int (Int32.ofNat (j + n))), (.int (Int32.ofNat j)), (.ref t)])) rfl (by rw [hml]; rfl) (argsL := [(.ref t), (.int (Int32.ofNat j)), (.int (Int32.ofNat (j + n)))]) (rest := []) (lenOf pd_rmCR_0 rfl) rfl (by show 2 * 0 + _ ≤ _; exact Nat.le_of_eq rfl) (hb hby d23_13) (fun _ _ => ⟨rfl, e0, (by decide : 0 + 1 ≤ _), (by decide : 0 + 4 ≤ _)⟩)
    dsimp only [Pt.U, Pt.locs, Pt.cells, Pt.slots] at X3 l3 y3 z3 st3 hQ3
    subst y3 z3
    obtain ⟨h3, e3⟩ : ∃ z, T3.heap = z := ⟨_, rfl⟩
    rw [e3] at hQ3
    obtain ⟨b3, kb3, rfl, Nq3, Kq3, Arv_b3, frb3⟩ := hQ3
    have N3 : Fr n0 L3 := l3 ▸ Fr.app N0 Nq3
    refine Gl.st st3 ?_
    replace Arv_t := Arv_t.keep Kq3 nin0
    have O3 := O0.keep Kq3 all0
    have K3 := (Keep.refl h0 []).trans Kq3 all0
    have ne_t_b3 : t ≠ b3 := Nat.ne_of_lt (Nat.lt_of_lt_of_le lq3_t frb3)
    have ge_b3 : n0 ≤ b3 := Nat.le_trans (Nat.le_trans (Nat.le_of_eq O0.1.symm) O0.2.1) frb3
    have fr_b3 : h0.size ≤ b3 := frb3
    clear st3
    show Gl p e below s _ _ _ T3 (mkF m 16 #[.val (.ref t), .val (.int (Int32.ofNat j)), .val (.int (Int32.ofNat (j + n)))] [(.ref b3)])
    exact Gl.ret X3 (v := (some (.ref b3))) (fun h => by rw [Bd.returns] at h; cases h) (BodyLoose.notSynchronized Bd) (fun hr => retOut X3 hx Bd.returns rfl (Or.inr (Or.inr (Or.inr (Or.inr ⟨rfl, rfl, rfl⟩)))) (hb hby d23_16) hr) e3 ⟨b3, kb3, rfl, N3, K3, Arv_b3, fr_b3⟩ (by decide) (by decide)
theorem d27_0 : decode jdk_42_method_151_code 0 = .ok (.aload_n 0, 1) := by decide +kernel
theorem d27_1 : decode jdk_42_method_151_code 1 = .ok (.invokespecial 1, 3) := by decide +kernel
theorem d27_4 : decode jdk_42_method_151_code 4 = .ok (.aload_n 0, 1) := by decide +kernel
theorem d27_5 : decode jdk_42_method_151_code 5 = .ok (.aload_n 1, 1) := by decide +kernel
theorem d27_6 : decode jdk_42_method_151_code 6 = .ok (.putfield 9, 3) := by decide +kernel
theorem d27_9 : decode jdk_42_method_151_code 9 = .ok (.aload_n 0, 1) := by decide +kernel
theorem d27_10 : decode jdk_42_method_151_code 10 = .ok (.iload_n 2, 1) := by decide +kernel
theorem d27_11 : decode jdk_42_method_151_code 11 = .ok (.putfield 15, 3) := by decide +kernel
theorem d27_14 : decode jdk_42_method_151_code 14 = .ok (.return_, 1) := by decide +kernel
theorem pn_rmBB : plainName "java/lang/String" = true := by first | (simp [plainName, overriddenIn]; done) | decide +kernel
theorem ef_rmBB (m : MethodId) (x : Addr) (t : Addr) : entryFrame m #[(.ref x), (.ref t), (.int (0 : Int32))] 3 = mkF m 0 #[.val (.ref x), .val (.ref t), .val (.int (0 : Int32))] [] := by first | (simp [entryFrame, mkF, argsToLocals, Value.category]; done) | rfl
def Q_rmBB (Z : State) (x : Addr) (t : Addr)  (h0 : Heap) (n0 : Nat) (v : Option Value) (h : Heap) (L : List Loc) : Prop := v = none ∧ Fr n0 L ∧ Keep h0 h [x] ∧ Fld Z h x "java/lang/String" "value" "[B" (.ref t) ∧ Fld Z h x "java/lang/String" "coder" "B" (.int 0)
set_option maxRecDepth 65536 in
set_option maxHeartbeats 40000000 in
theorem rmBB (l : Launch) (Z : State) (a0 : Array Value) (hw : ∀ d ∈ tables_1, d.before a0 Z = true) (ws : List Jvm.Cond) (x : Addr) (t : Addr)  (h0 : Heap) (n0 : Nat) (O0 : Old Z n0 h0) (Exa_x : Exa Z h0 x "java/lang/String") (F_value_x : Fld Z h0 x "java/lang/String" "value" "[B" .null) (F_coder_x : Fld Z h0 x "java/lang/String" "coder" "B" (.int 0)) (g1 : n0 ≤ x) :
    MetFree l (⟨"java/lang/String", "<init>", "([BB)V"⟩ : MethodName) (head1 (Jvm.Cond.code (⟨"java/lang/String", "<init>", "([BB)V"⟩ : MethodName) jdk_42_method_151_code 3 none :: ws) ({ frames := 1, cells := 0, slots := 0, locals := 12 } : Room)) (fun a U => a = #[(.ref x), (.ref t), (.int (0 : Int32))] ∧ Z.Warmed39 U.vm ∧ U.heap = h0) (fun _ _ _ _ _ => True) (fun _ U o U' => ∃ v L, o = .returned v ∧ Q_rmBB Z x t  h0 n0 v U'.heap L ∧ FrameEnd U o U' L ({ frames := 1, cells := 0, slots := 0, locals := 12 } : Room).cells ({ frames := 1, cells := 0, slots := 0, locals := 12 } : Room).slots) := by
  refine MetFree.of_bodySF (plainFor_of_name pn_rmBB) hisR ?_
  intro p e s m args below meth c s₁ Bd hml0 hP hK
  obtain ⟨rfl, hZ, hh⟩ := hP
  have hx := Bd.exec
  have hby := Bd.bytes
  have hml : c.maxLocals = 3 := hml0
  have hown : s.vm.findClass "java/lang/String" = some m.cls := findClass_of_methodNamed Bd.named
  have hnm := (name_of_methodNamed Bd.named Bd.method).1
  have X0 : Stand p l e ({ frames := 1, cells := 0, slots := 0, locals := 12 } : Room) s m #[(.ref x), (.ref t), (.int (0 : Int32))] below meth c s₁ [] 0 0 := Stand.of_body Bd
  have e0 : s₁.heap = h0 := by rw [← hh, Bd.state]; rfl
  have N0 := Fr.nil n0
  refine Gl.start (Q := Q_rmBB Z x t  h0 n0) (ef_rmBB m x t) ?_
  show Gl p e below s _ _ _ s₁ (mkF m 0 #[.val (.ref x), .val (.ref t), .val (.int (0 : Int32))] [])
  refine Gl.st (fun _ kk => XS.aloadN X0.here hx rfl (hb hby d27_0) rfl rfl kk) ?_
  show Gl p e below s _ _ _ s₁ (mkF m 1 #[.val (.ref x), .val (.ref t), .val (.int (0 : Int32))] [(.ref x)])
  obtain ⟨T1, X1, e1, st1⟩ := initO X0 hx hZ hown (hw _ (List.mem_of_getElem? (i := 19) rfl)) (hw _ (List.mem_of_getElem? (i := 20) rfl)) (hw _ (List.mem_of_getElem? (i := 21) rfl)) e0 (g := (mkF m 1 #[.val (.ref x), .val (.ref t), .val (.int (0 : Int32))] [(.ref x)])) rfl (by rw [hml]; rfl) rfl (hb hby d27_1) (by decide) (W := 0) (by show 2 * 0 + _ ≤ _; exact Nat.le_of_eq rfl) (by decide)
  refine Gl.st st1 ?_
  show Gl p e below s _ _ _ T1 (mkF m 4 #[.val (.ref x), .val (.ref t), .val (.int (0 : Int32))] [])
  refine Gl.st (fun _ kk => XS.aloadN X1.here hx rfl (hb hby d27_4) rfl rfl kk) ?_
  show Gl p e below s _ _ _ T1 (mkF m 5 #[.val (.ref x), .val (.ref t), .val (.int (0 : Int32))] [(.ref x)])
  refine Gl.st (fun _ kk => XS.aloadN X1.here hx rfl (hb hby d27_5) rfl rfl kk) ?_
  show Gl p e below s _ _ _ T1 (mkF m 6 #[.val (.ref x), .val (.ref t), .val (.int (0 : Int32))] [(.ref t), (.ref x)])
  obtain ⟨T2, h2, X2, e2, W2, st2⟩ := putF X1 hx hZ hown (host := "") (Or.inl (hw _ (List.mem_of_getElem? (i := 28) rfl))) Via.refl e1 F_value_x Exa_x (Or.inr ⟨(hw _ (List.mem_of_getElem? (i := 24) rfl)), rfl, hnm⟩) (hw _ (List.mem_of_getElem? (i := 7) rfl)) (ty := (.array .byte)) (by decide) rfl rfl (g := (mkF m 6 #[.val (.ref x), .val (.ref t), .val (.int (0 : Int32))] [(.ref t), (.ref x)])) rfl rfl (hb hby d27_6)
  refine Gl.st st2 ?_
  have F_value_x := F_value_x.same W2
  replace Exa_x := Exa_x.wr W2
  replace F_coder_x := F_coder_x.other W2 (Or.inr (slot_ne (Or.inr (hw _ (List.mem_of_getElem? (i := 25) rfl))) (Or.inr (hw _ (List.mem_of_getElem? (i := 24) rfl))) (by decide) (t := .byte) (t' := (.array .byte)) (by decide) (by decide)))
  have O2 := O0.wr W2 g1
  have K2 := (Keep.refl h0 [x]).wr W2 (Or.inl (List.mem_of_getElem? (i := 0) rfl))
  have N2 := Fr.snoc X2 N0 g1
  show Gl p e below s _ _ _ T2 (mkF m 9 #[.val (.ref x), .val (.ref t), .val (.int (0 : Int32))] [])
  refine Gl.st (fun _ kk => XS.aloadN X2.here hx rfl (hb hby d27_9) rfl rfl kk) ?_
  show Gl p e below s _ _ _ T2 (mkF m 10 #[.val (.ref x), .val (.ref t), .val (.int (0 : Int32))] [(.ref x)])
  refine Gl.st (fun _ kk => XS.iloadN X2.here hx rfl (hb hby d27_10) rfl kk) ?_
  show Gl p e below s _ _ _ T2 (mkF m 11 #[.val (.ref x), .val (.ref t), .val (.int (0 : Int32))] [(.int (0 : Int32)), (.ref x)])
  obtain ⟨T3, h3, X3, e3, W3, st3⟩ := putFN X2 hx hZ hown (hw _ (List.mem_of_getElem? (i := 29) rfl)) Via.refl e2 F_coder_x Exa_x (Or.inr ⟨(hw _ (List.mem_of_getElem? (i := 25) rfl)), rfl, hnm⟩) (hw _ (List.mem_of_getElem? (i := 7) rfl)) (ty := .byte) (v' := (.int (0 : Int32))) (by decide) rfl rfl (g := (mkF m 11 #[.val (.ref x), .val (.ref t), .val (.int (0 : Int32))] [(.int (0 : Int32)), (.ref x)])) rfl rfl (hb hby d27_11)
  refine Gl.st st3 ?_
  have F_coder_x := F_coder_x.same W3
  replace Exa_x := Exa_x.wr W3
  replace F_value_x := F_value_x.other W3 (Or.inr (slot_ne (Or.inr (hw _ (List.mem_of_getElem? (i := 24) rfl))) (Or.inr (hw _ (List.mem_of_getElem? (i := 25) rfl))) (by decide) (t := (.array .byte)) (t' := .byte) (by decide) (by decide)))
  have O3 := O2.wr W3 g1
  have K3 := K2.wr W3 (Or.inl (List.mem_of_getElem? (i := 0) rfl))
  have N3 := Fr.snoc X3 N2 g1
  show Gl p e below s _ _ _ T3 (mkF m 14 #[.val (.ref x), .val (.ref t), .val (.int (0 : Int32))] [])
  exact Gl.ret X3 (v := none) (fun _ => rfl) (BodyLoose.notSynchronized Bd) (fun hr => X3.returnOut hx Bd.returns (hb hby d27_14) hr) e3 ⟨rfl, N3, K3, F_value_x, F_coder_x⟩ (by decide) (by decide)
theorem d22_0 : decode jdk_43_method_47_code 0 = .ok (.iload_n 2, 1) := by decide +kernel
theorem d22_1 : decode jdk_43_method_47_code 1 = .ok (.ifCond .ne 6, 3) := by decide +kernel
theorem d22_7 : decode jdk_43_method_47_code 7 = .ok (.new 1, 3) := by decide +kernel
theorem d22_10 : decode jdk_43_method_47_code 10 = .ok (.dup, 1) := by decide +kernel
theorem d22_11 : decode jdk_43_method_47_code 11 = .ok (.aload_n 0, 1) := by decide +kernel
theorem d22_12 : decode jdk_43_method_47_code 12 = .ok (.iload_n 1, 1) := by decide +kernel
theorem d22_13 : decode jdk_43_method_47_code 13 = .ok (.iload_n 1, 1) := by decide +kernel
theorem d22_14 : decode jdk_43_method_47_code 14 = .ok (.iload_n 2, 1) := by decide +kernel
theorem d22_15 : decode jdk_43_method_47_code 15 = .ok (.iadd, 1) := by decide +kernel
theorem d22_16 : decode jdk_43_method_47_code 16 = .ok (.invokestatic 232, 3) := by decide +kernel
theorem d22_19 : decode jdk_43_method_47_code 19 = .ok (.iconst 0, 1) := by decide +kernel
theorem d22_20 : decode jdk_43_method_47_code 20 = .ok (.invokespecial 112, 3) := by decide +kernel
theorem d22_23 : decode jdk_43_method_47_code 23 = .ok (.areturn, 1) := by decide +kernel
theorem pd_rmNS_0 : parseMethodDescriptor "([BII)[B" = some ⟨[(.array .byte), .int, .int], some (.array .byte)⟩ := by decide +kernel
theorem pd_rmNS_1 : parseMethodDescriptor "([BB)V" = some ⟨[(.array .byte), .byte], none⟩ := by decide +kernel
theorem pn_rmNS : plainName "java/lang/StringLatin1" = true := by first | (simp [plainName, overriddenIn]; done) | decide +kernel
theorem ef_rmNS (m : MethodId) (t : Addr) (q1 : Int32) (q2 : Int32) : entryFrame m #[(.ref t), (.int q1), (.int q2)] 3 = mkF m 0 #[.val (.ref t), .val (.int q1), .val (.int q2)] [] := by first | (simp [entryFrame, mkF, argsToLocals, Value.category]; done) | rfl
def Q_rmNS (Z : State) (t : Addr) (q1 : Int32) (q2 : Int32) (k : ClassId) (cs : List Int32) (j n : Nat) (h0 : Heap) (n0 : Nat) (v : Option Value) (h : Heap) (L : List Loc) : Prop := ∃ (r t2 : Addr) (k2 : ClassId), v = some (.ref r) ∧ Fr n0 L ∧ Keep h0 h [] ∧ Exa Z h r "java/lang/String" ∧ Fld Z h r "java/lang/String" "value" "[B" (.ref t2) ∧ Fld Z h r "java/lang/String" "coder" "B" (.int 0) ∧ Arv Z h t2 k2 .byte (Int32.ofNat n) (own_sl cs j n) (.int 0)
set_option maxRecDepth 65536 in
set_option maxHeartbeats 40000000 in
theorem rmNS (l : Launch) (Z : State) (a0 : Array Value) (hw : ∀ d ∈ tables_1, d.before a0 Z = true) (ws : List Jvm.Cond) (t : Addr) (q1 : Int32) (q2 : Int32) (k : ClassId) (cs : List Int32) (j n : Nat) (h0 : Heap) (n0 : Nat) (O0 : Old Z n0 h0) (hq1 : q1 = Int32.ofNat j) (hq2 : q2 = Int32.ofNat n) (Arv_t : Arv Z h0 t k .byte (Int32.ofNat cs.length) ((cs.map StrChars.lo8).map Value.int) (.int 0)) (hn0 : 0 < n) (hjn : j + n ≤ cs.length) (hl4 : cs.length ≤ 4) (hne : ¬ (j = 0 ∧ n = cs.length)) :
    MetFree l (⟨"java/lang/StringLatin1", "newString", "([BII)Ljava/lang/String;"⟩ : MethodName) (head1 (Jvm.Cond.code (⟨"java/lang/StringLatin1", "newString", "([BII)Ljava/lang/String;"⟩ : MethodName) jdk_43_method_47_code 3 (some (.object "java/lang/String")) :: ws) ({ frames := 3, cells := 2, slots := 8, locals := 50 } : Room)) (fun a U => a = #[(.ref t), (.int q1), (.int q2)] ∧ Z.Warmed39 U.vm ∧ U.heap = h0) (fun _ _ _ _ _ => True) (fun _ U o U' => ∃ v L, o = .returned v ∧ Q_rmNS Z t q1 q2 k cs j n h0 n0 v U'.heap L ∧ FrameEnd U o U' L ({ frames := 3, cells := 2, slots := 8, locals := 50 } : Room).cells ({ frames := 3, cells := 2, slots := 8, locals := 50 } : Room).slots) := by
  refine MetFree.of_bodySF (plainFor_of_name pn_rmNS) hisR ?_
  intro p e s m args below meth c s₁ Bd hml0 hP hK
  obtain ⟨rfl, hZ, hh⟩ := hP
  have hx := Bd.exec
  have hby := Bd.bytes
  have hml : c.maxLocals = 3 := hml0
  have hown : s.vm.findClass "java/lang/StringLatin1" = some m.cls := findClass_of_methodNamed Bd.named
  have hnm := (name_of_methodNamed Bd.named Bd.method).1
  have X0 : Stand p l e ({ frames := 3, cells := 2, slots := 8, locals := 50 } : Room) s m #[(.ref t), (.int q1), (.int q2)] below meth c s₁ [] 0 0 := Stand.of_body Bd
  have e0 : s₁.heap = h0 := by rw [← hh, Bd.state]; rfl
  have N0 := Fr.nil n0
  refine Gl.start (Q := Q_rmNS Z t q1 q2 k cs j n h0 n0) (ef_rmNS m t q1 q2) ?_
  subst hq1 hq2
  have hnb : n < 2 ^ 31 := by omega
  show Gl p e below s _ _ _ s₁ (mkF m 0 #[.val (.ref t), .val (.int (Int32.ofNat j)), .val (.int (Int32.ofNat n))] [])
  refine Gl.st (fun _ kk => XS.iloadN X0.here hx rfl (hb hby d22_0) rfl kk) ?_
  show Gl p e below s _ _ _ s₁ (mkF m 1 #[.val (.ref t), .val (.int (Int32.ofNat j)), .val (.int (Int32.ofNat n))] [(.int (Int32.ofNat n))])
  refine Gl.st (fun _ kk => XS.ifYes X0.here hx rfl (pc0 := 1) (pc' := 7) rfl (hb hby d22_1) rfl ((if0 _ _).trans (feq (fun q => absurd (own_ofNat_zero hnb q) (by omega))).2) (by decide) (by decide) kk) ?_
  show Gl p e below s _ _ _ s₁ (mkF m 7 #[.val (.ref t), .val (.int (Int32.ofNat j)), .val (.int (Int32.ofNat n))] [])
  obtain ⟨T1, h1, X1, e1, E1, A1, D1, V1, st1⟩ := newO X0 hx hZ hown (hw _ (List.mem_of_getElem? (i := 99) rfl)) (hw _ (List.mem_of_getElem? (i := 7) rfl)) (hw _ (List.mem_of_getElem? (i := 8) rfl)) e0 (g := (mkF m 7 #[.val (.ref t), .val (.int (Int32.ofNat j)), .val (.int (Int32.ofNat n))] [])) rfl (hb hby d22_7) (by decide) (by decide)
  obtain ⟨b1, g1⟩ : ∃ z, z = h0.size := ⟨_, rfl⟩
  rw [← g1] at A1 D1 V1 st1
  refine Gl.st st1 ?_
  have ne_t_b1 : t ≠ b1 := Nat.ne_of_lt (Nat.lt_of_lt_of_eq Arv_t.lt g1.symm)
  have ge_b1 : n0 ≤ b1 := Nat.le_trans (Nat.le_trans (Nat.le_of_eq O0.1.symm) O0.2.1) (Nat.le_of_eq g1.symm)
  have fr_b1 : h0.size ≤ b1 := Nat.le_trans (Nat.le_refl _) (Nat.le_of_eq g1.symm)
  replace Arv_t := Arv_t.ext E1
  have O1 := O0.ext E1
  have K1 := (Keep.refl h0 []).ext E1
  have Exa_b1 := A1
  have F_value_b1 : Fld Z h1 b1 "java/lang/String" "value" "[B" .null := D1 (Or.inr (hw _ (List.mem_of_getElem? (i := 24) rfl))) (ty := (.array .byte)) (by decide)
  have F_coder_b1 : Fld Z h1 b1 "java/lang/String" "coder" "B" (.int (0 : Int32)) := D1 (Or.inr (hw _ (List.mem_of_getElem? (i := 25) rfl))) (ty := .byte) (by decide)
  show Gl p e below s _ _ _ T1 (mkF m 10 #[.val (.ref t), .val (.int (Int32.ofNat j)), .val (.int (Int32.ofNat n))] [(.ref b1)])
  refine Gl.st (fun _ kk => XS.dup X1.here hx rfl (hb hby d22_10) rfl rfl kk) ?_
  show Gl p e below s _ _ _ T1 (mkF m 11 #[.val (.ref t), .val (.int (Int32.ofNat j)), .val (.int (Int32.ofNat n))] [(.ref b1), (.ref b1)])
  refine Gl.st (fun _ kk => XS.aloadN X1.here hx rfl (hb hby d22_11) rfl rfl kk) ?_
  show Gl p e below s _ _ _ T1 (mkF m 12 #[.val (.ref t), .val (.int (Int32.ofNat j)), .val (.int (Int32.ofNat n))] [(.ref t), (.ref b1), (.ref b1)])
  refine Gl.st (fun _ kk => XS.iloadN X1.here hx rfl (hb hby d22_12) rfl kk) ?_
  show Gl p e below s _ _ _ T1 (mkF m 13 #[.val (.ref t), .val (.int (Int32.ofNat j)), .val (.int (Int32.ofNat n))] [(.int (Int32.ofNat j)), (.ref t), (.ref b1), (.ref b1)])
  refine Gl.st (fun _ kk => XS.iloadN X1.here hx rfl (hb hby d22_13) rfl kk) ?_
  show Gl p e below s _ _ _ T1 (mkF m 14 #[.val (.ref t), .val (.int (Int32.ofNat j)), .val (.int (Int32.ofNat n))] [(.int (Int32.ofNat j)), (.int (Int32.ofNat j)), (.ref t), (.ref b1), (.ref b1)])
  refine Gl.st (fun _ kk => XS.iloadN X1.here hx rfl (hb hby d22_14) rfl kk) ?_
  show Gl p e below s _ _ _ T1 (mkF m 15 #[.val (.ref t), .val (.int (Int32.ofNat j)), .val (.int (Int32.ofNat n))] [(.int (Int32.ofNat n)), (.int (Int32.ofNat j)), (.int (Int32.ofNat j)), (.ref t), (.ref b1), (.ref b1)])
  refine Gl.st (fun _ kk => XS.iadd X1.here hx rfl (hb hby d22_15) rfl kk) ?_
  show Gl p e below s _ _ _ T1 (mkF m 16 #[.val (.ref t), .val (.int (Int32.ofNat j)), .val (.int (Int32.ofNat n))] [(.int ((Int32.ofNat j) + (Int32.ofNat n))), (.int (Int32.ofNat j)), (.ref t), (.ref b1), (.ref b1)])
  rw [← Int32.ofNat_add]
  show Gl p e below s _ _ _ T1 (mkF m 16 #[.val (.ref t), .val (.int (Int32.ofNat j)), .val (.int (Int32.ofNat n))] [(.int (Int32.ofNat (j + n))), (.int (Int32.ofNat j)), (.ref t), (.ref b1), (.ref b1)])
  have lq2_b1 := Exa_b1.lt
  have lq2_t := Arv_t.lt
  obtain ⟨v2, _, ⟨T2, L2, kQ2, nQ2⟩, -, X2, ⟨Lc2, hQ2, l2, y2, z2⟩, st2⟩ := Jvm.LawKit.callS X1 hx (y := (⟨"java/util/Arrays", "copyOfRange", "([BII)[B"⟩ : MethodName)) hown (mvT hZ (hw _ (List.mem_of_getElem? (i := 100) rfl))) (mvT hZ (hw _ (List.mem_of_getElem? (i := 101) rfl))) (mvT hZ (hw _ (List.mem_of_getElem? (i := 102) rfl))) (mvT hZ (hw _ (List.mem_of_getElem? (i := 103) rfl))) (by decide) (backOf (W := 2) (rmCR l Z a0 hw [] t (Int32.ofNat j) (Int32.ofNat (j + n)) k cs j n h1 n0 O1 rfl rfl Arv_t hjn hl4 hne) hZ (hw _ (List.mem_of_getElem? (i := 103) rfl)) (hw _ (List.mem_of_getElem? (i := 102) rfl)) (by decide) (by decide)) (g := (mkF m 16 #[.val (.ref t), .val (.int (Int32.ofNat j)), .val (.int (Int32.ofNat n))] [(.int (Int32.ofNat (j + n))), (.int (Int32.ofNat j)), (.ref t), (.ref b1), (.ref b1)])) rfl (by rw [hml]; rfl) (argsL := [(.ref t), (.int (Int32.ofNat j)), (.int (Int32.ofNat (j + n)))]) (rest := [(.ref b1), (.ref b1)]) (lenOf pd_rmNS_0 rfl) rfl (by show 2 * 0 + _ ≤ _; exact Nat.le_of_eq rfl) (hb hby d22_16) (fun _ _ => ⟨rfl, e1, (by decide : 1 + 1 ≤ _), (by decide : 4 + 4 ≤ _)⟩)
  dsimp only [Pt.U, Pt.locs, Pt.cells, Pt.slots] at X2 l2 y2 z2 st2 hQ2
  subst y2 z2
  obtain ⟨h2, e2⟩ : ∃ z, T2.heap = z := ⟨_, rfl⟩
  rw [e2] at hQ2
  obtain ⟨b2, kb2, rfl, Nq2, Kq2, Arv_b2, frb2⟩ := hQ2
  have N2 : Fr n0 L2 := l2 ▸ Fr.app N0 Nq2
  refine Gl.st st2 ?_
  replace Arv_t := Arv_t.keep Kq2 nin0
  replace Exa_b1 := Exa_b1.keep Kq2
  replace F_value_b1 := F_value_b1.keep Kq2 nin0
  replace F_coder_b1 := F_coder_b1.keep Kq2 nin0
  have O2 := O1.keep Kq2 all0
  have K2 := K1.trans Kq2 all0
  have ne_b1_b2 : b1 ≠ b2 := Nat.ne_of_lt (Nat.lt_of_lt_of_le lq2_b1 frb2)
  have ne_t_b2 : t ≠ b2 := Nat.ne_of_lt (Nat.lt_of_lt_of_le lq2_t frb2)
  have ge_b2 : n0 ≤ b2 := Nat.le_trans (Nat.le_trans (Nat.le_of_eq O1.1.symm) O1.2.1) frb2
  have fr_b2 : h0.size ≤ b2 := Nat.le_trans K1.1 frb2
  clear st2
  clear O1 K1 X1 e1
  show Gl p e below s _ _ _ T2 (mkF m 19 #[.val (.ref t), .val (.int (Int32.ofNat j)), .val (.int (Int32.ofNat n))] [(.ref b2), (.ref b1), (.ref b1)])
  refine Gl.st (fun _ kk => XS.iconst X2.here hx rfl (hb hby d22_19) kk) ?_
  show Gl p e below s _ _ _ T2 (mkF m 20 #[.val (.ref t), .val (.int (Int32.ofNat j)), .val (.int (Int32.ofNat n))] [(.int (0 : Int32)), (.ref b2), (.ref b1), (.ref b1)])
  obtain ⟨v3, _, ⟨T3, L3, kQ3, nQ3⟩, -, X3, ⟨Lc3, hQ3, l3, y3, z3⟩, st3⟩ := X2.specialBack hx (y := (⟨"java/lang/String", "<init>", "([BB)V"⟩ : MethodName)) rfl hown (mvT hZ (hw _ (List.mem_of_getElem? (i := 118) rfl))) (mvT hZ (hw _ (List.mem_of_getElem? (i := 119) rfl))) (mvT hZ (hw _ (List.mem_of_getElem? (i := 120) rfl))) (by decide) (backOf (W := 1) (rmBB l Z a0 hw [] b1 b2 h2 n0 O2 Exa_b1 F_value_b1 F_coder_b1 ge_b1) hZ (hw _ (List.mem_of_getElem? (i := 120) rfl)) (hw _ (List.mem_of_getElem? (i := 8) rfl)) (by decide) (by decide)) (g := (mkF m 20 #[.val (.ref t), .val (.int (Int32.ofNat j)), .val (.int (Int32.ofNat n))] [(.int (0 : Int32)), (.ref b2), (.ref b1), (.ref b1)])) rfl (by rw [hml]; rfl) (Steps.refl _) (a := b1) (argsL := [(.ref b2), (.int (0 : Int32))]) (rest := [(.ref b1)]) (lenOf pd_rmNS_1 rfl) rfl (by show 2 * 0 + _ ≤ _; exact Nat.le_of_eq rfl) (hb hby d22_20) (fun _ _ => ⟨rfl, e2, (by decide : 2 + 0 ≤ _), (by decide : 8 + 0 ≤ _)⟩)
  dsimp only [Pt.U, Pt.locs, Pt.cells, Pt.slots] at X3 l3 y3 z3 st3 hQ3
  subst y3 z3
  obtain ⟨h3, e3⟩ : ∃ z, T3.heap = z := ⟨_, rfl⟩
  rw [e3] at hQ3
  obtain ⟨rfl, Nq3, Kq3, Fv3, Fc3⟩ := hQ3
  have N3 : Fr n0 L3 := l3 ▸ Fr.app N2 Nq3
  refine Gl.st (fun _ kk => st3.trans kk) ?_
  replace Arv_t := Arv_t.keep Kq3 (ninS ne_t_b1 nin0)
  replace Exa_b1 := Exa_b1.keep Kq3
  replace Arv_b2 := Arv_b2.keep Kq3 (ninS (Ne.symm ne_b1_b2) nin0)
  have O3 := O2.keep Kq3 (allS ge_b1 all0)
  have K3 := K2.trans Kq3 (allS (Or.inr fr_b1) all0)
  have F_value_b1 := Fv3
  have F_coder_b1 := Fc3
  clear st3
  clear O2 K2 N2 X2 e2
  show Gl p e below s _ _ _ T3 (mkF m 23 #[.val (.ref t), .val (.int (Int32.ofNat j)), .val (.int (Int32.ofNat n))] [(.ref b1)])
  exact Gl.ret X3 (v := (some (.ref b1))) (fun h => by rw [Bd.returns] at h; cases h) (BodyLoose.notSynchronized Bd) (fun hr => retOut X3 hx Bd.returns rfl (Or.inr (Or.inr (Or.inr (Or.inr ⟨rfl, rfl, rfl⟩)))) (hb hby d22_23) hr) e3 ⟨b1, b2, kb2, rfl, N3, K3, Exa_b1, F_value_b1, F_coder_b1, Arv_b2⟩ (by decide) (by decide)
theorem d22_4 : decode jdk_43_method_47_code 4 = .ok (.ldc 151, 2) := by decide +kernel
theorem d22_6 : decode jdk_43_method_47_code 6 = .ok (.areturn, 1) := by decide +kernel
theorem pn_rmNE : plainName "java/lang/StringLatin1" = true := by first | (simp [plainName, overriddenIn]; done) | decide +kernel
theorem ef_rmNE (m : MethodId) (t : Addr) (q1 : Int32) : entryFrame m #[(.ref t), (.int q1), (.int (0 : Int32))] 3 = mkF m 0 #[.val (.ref t), .val (.int q1), .val (.int (0 : Int32))] [] := by first | (simp [entryFrame, mkF, argsToLocals, Value.category]; done) | rfl
def Q_rmNE (Z : State) (t : Addr) (q1 : Int32)  (h0 : Heap) (n0 : Nat) (v : Option Value) (h : Heap) (L : List Loc) : Prop := ∃ (r t2 : Addr) (k2 : ClassId), v = some (.ref r) ∧ Fr n0 L ∧ Keep h0 h [] ∧ Exa Z h r "java/lang/String" ∧ Fld Z h r "java/lang/String" "value" "[B" (.ref t2) ∧ Fld Z h r "java/lang/String" "coder" "B" (.int 0) ∧ Arv Z h t2 k2 .byte 0 [] (.int 0)
set_option maxRecDepth 65536 in
set_option maxHeartbeats 40000000 in
theorem rmNE (l : Launch) (Z : State) (a0 : Array Value) (hw : ∀ d ∈ tables_1, d.before a0 Z = true) (ws : List Jvm.Cond) (t : Addr) (q1 : Int32)  (h0 : Heap) (n0 : Nat) (O0 : Old Z n0 h0) :
    MetFree l (⟨"java/lang/StringLatin1", "newString", "([BII)Ljava/lang/String;"⟩ : MethodName) (head1 (Jvm.Cond.code (⟨"java/lang/StringLatin1", "newString", "([BII)Ljava/lang/String;"⟩ : MethodName) jdk_43_method_47_code 3 (some (.object "java/lang/String")) :: ws) ({ frames := 0, cells := 2, slots := 4, locals := 0 } : Room)) (fun a U => a = #[(.ref t), (.int q1), (.int (0 : Int32))] ∧ Z.Warmed39 U.vm ∧ U.heap = h0 ∧ CHv Z consts_1 U.vm h0) (fun _ _ _ _ _ => True) (fun _ U o U' => ∃ v L, o = .returned v ∧ Q_rmNE Z t q1  h0 n0 v U'.heap L ∧ CHr Z consts_1 U.vm U.heap U'.vm U'.heap ∧ ReturnedEndW U o U' L ({ frames := 0, cells := 2, slots := 4, locals := 0 } : Room).cells ({ frames := 0, cells := 2, slots := 4, locals := 0 } : Room).slots) := by
  refine MetFree.of_bodySF (plainFor_of_name pn_rmNE) hisR ?_
  intro p e s m args below meth c s₁ Bd hml0 hP hK
  obtain ⟨rfl, hZ, hh, H0⟩ := hP
  have hx := Bd.exec
  have hby := Bd.bytes
  have hml : c.maxLocals = 3 := hml0
  have hown : s.vm.findClass "java/lang/StringLatin1" = some m.cls := findClass_of_methodNamed Bd.named
  have hnm := (name_of_methodNamed Bd.named Bd.method).1
  have X0 : Stand p l e ({ frames := 0, cells := 2, slots := 4, locals := 0 } : Room) (s.setVm s.vm) m #[(.ref t), (.int q1), (.int (0 : Int32))] below meth c s₁ [] 0 0 := Stand.of_body Bd
  have e0 : s₁.heap = h0 := by rw [← hh, Bd.state]; rfl
  have N0 := Fr.nil n0
  have hS0 : s.Since s.vm 0 := (State.WarmedH.refl s).since 0
  have hk0 : 0 ≤ h0.size := Nat.zero_le _
  have HC0 : CHr Z consts_1 s.vm h0 s.vm h0 := CHr.refl H0
  have hh0 : s.heap = h0 := hh
  refine GlW.start (Q := Q_rmNE Z t q1  h0 n0) (ef_rmNE m t q1) ?_
  have hEL := own_EW hw
  have hwS : ∀ a ∈ Bundle.stringAtoms, a.before a0 Z = true := fun d hd => hw d ((by decide +kernel : ∀ d ∈ Bundle.stringAtoms, d ∈ tables_1) d hd)
  show GlW Z consts_1 p e below s _ _ _ s₁ (mkF m 0 #[.val (.ref t), .val (.int q1), .val (.int (0 : Int32))] [])
  refine GlW.st (fun _ kk => XS.iloadN X0.here hx rfl (hb hby d22_0) rfl kk) ?_
  show GlW Z consts_1 p e below s _ _ _ s₁ (mkF m 1 #[.val (.ref t), .val (.int q1), .val (.int (0 : Int32))] [(.int (0 : Int32))])
  refine GlW.st (fun _ kk => XS.ifNo X0.here hx rfl (hb hby d22_1) rfl ((if0 _ _).trans (teq (by decide : (0 : Int32) = (0 : Int32))).2) kk) ?_
  show GlW Z consts_1 p e below s _ _ _ s₁ (mkF m 4 #[.val (.ref t), .val (.int q1), .val (.int (0 : Int32))] [])
  obtain ⟨la1, T1, h1, kn1, lb1, kc1, X1, e1, E1, hS1, hk1, hZ1, hown1, Exa_la1, F_coder_la1, F_value_la1, Arv_lb1, lta1, ltb1, HR1, Li1, sf1, st1⟩ := ldcCH X0 hx hZ hown (hw _ (List.mem_of_getElem? (i := 125) rfl)) hwS e0 hS0 hk0 hEL (List.mem_of_getElem? (i := 1) rfl) HC0.1 (vs := []) (z := 0) ⟨by decide +kernel, by decide +kernel⟩ (by decide) rfl (g := (mkF m 4 #[.val (.ref t), .val (.int q1), .val (.int (0 : Int32))] [])) rfl (hb hby d22_4) (n := 0) (by decide) (by decide) (by decide) (by decide)
  refine GlW.st st1 ?_
  have O1 := O0.ext E1
  have K1 := (Keep.refl h0 []).ext E1
  have HC1 := HC0.trans HR1
  have hZ := hZ1
  have hown := hown1
  show GlW Z consts_1 p e below s _ _ _ T1 (mkF m 6 #[.val (.ref t), .val (.int q1), .val (.int (0 : Int32))] [(.ref la1)])
  exact GlW.ret X1 hS1 hk1 hZ hEL hh0 HC1 (v := (some (.ref la1))) (fun h => by rw [Bd.returns] at h; cases h) (BodyLoose.notSynchronized Bd) (fun hr => retOut X1 hx Bd.returns rfl (Or.inr (Or.inr (Or.inr (Or.inr ⟨rfl, rfl, rfl⟩)))) (hb hby d22_6) hr) e1 ⟨la1, lb1, kc1, rfl, N0, K1, Exa_la1, F_value_la1, F_coder_la1, Arv_lb1⟩ (by decide) (by decide)
theorem d18_0 : decode jdk_42_method_154_code 0 = .ok (.getstatic 38, 3) := by decide +kernel
theorem d18_3 : decode jdk_42_method_154_code 3 = .ok (.ifCond .eq 14, 3) := by decide +kernel
theorem d18_6 : decode jdk_42_method_154_code 6 = .ok (.aload_n 0, 1) := by decide +kernel
theorem d18_7 : decode jdk_42_method_154_code 7 = .ok (.getfield 15, 3) := by decide +kernel
theorem d18_10 : decode jdk_42_method_154_code 10 = .ok (.ifCond .ne 7, 3) := by decide +kernel
theorem d18_13 : decode jdk_42_method_154_code 13 = .ok (.iconst 1, 1) := by decide +kernel
theorem d18_14 : decode jdk_42_method_154_code 14 = .ok (.goto 4, 3) := by decide +kernel
theorem d18_18 : decode jdk_42_method_154_code 18 = .ok (.ireturn, 1) := by decide +kernel
theorem pn_rmIL : plainName "java/lang/String" = true := by first | (simp [plainName, overriddenIn]; done) | decide +kernel
theorem ef_rmIL (m : MethodId) (x : Addr) : entryFrame m #[(.ref x)] 1 = mkF m 0 #[.val (.ref x)] [] := by first | (simp [entryFrame, mkF, argsToLocals, Value.category]; done) | rfl
def Q_rmIL (Z : State) (x : Addr) (cz : Int32) (h0 : Heap) (n0 : Nat) (v : Option Value) (h : Heap) (L : List Loc) : Prop := v = some (.int 1) ∧ Fr n0 L ∧ h = h0
set_option maxRecDepth 65536 in
set_option maxHeartbeats 40000000 in
theorem rmIL (l : Launch) (Z : State) (a0 : Array Value) (hw : ∀ d ∈ tables_1, d.before a0 Z = true) (ws : List Jvm.Cond) (x : Addr) (cz : Int32) (h0 : Heap) (n0 : Nat) (O0 : Old Z n0 h0) (F_coder_x : Fld Z h0 x "java/lang/String" "coder" "B" (.int 0)) (S_COMPACT : Sta Z Z.heap "java/lang/String" "COMPACT_STRINGS" "Z" (.int cz)) (hcz : ¬ cz = 0) :
    MetFree l (⟨"java/lang/String", "isLatin1", "()Z"⟩ : MethodName) (head1 (Jvm.Cond.code (⟨"java/lang/String", "isLatin1", "()Z"⟩ : MethodName) jdk_42_method_154_code 1 (some .boolean) :: ws) ({ frames := 0, cells := 0, slots := 0, locals := 0 } : Room)) (fun a U => a = #[(.ref x)] ∧ Z.Warmed39 U.vm ∧ U.heap = h0) (fun _ _ _ _ _ => True) (fun _ U o U' => ∃ v L, o = .returned v ∧ Q_rmIL Z x cz h0 n0 v U'.heap L ∧ FrameEnd U o U' L ({ frames := 0, cells := 0, slots := 0, locals := 0 } : Room).cells ({ frames := 0, cells := 0, slots := 0, locals := 0 } : Room).slots) := by
  refine MetFree.of_bodySF (plainFor_of_name pn_rmIL) hisR ?_
  intro p e s m args below meth c s₁ Bd hml0 hP hK
  obtain ⟨rfl, hZ, hh⟩ := hP
  have hx := Bd.exec
  have hby := Bd.bytes
  have hml : c.maxLocals = 1 := hml0
  have hown : s.vm.findClass "java/lang/String" = some m.cls := findClass_of_methodNamed Bd.named
  have hnm := (name_of_methodNamed Bd.named Bd.method).1
  have X0 : Stand p l e ({ frames := 0, cells := 0, slots := 0, locals := 0 } : Room) s m #[(.ref x)] below meth c s₁ [] 0 0 := Stand.of_body Bd
  have e0 : s₁.heap = h0 := by rw [← hh, Bd.state]; rfl
  have N0 := Fr.nil n0
  refine Gl.start (Q := Q_rmIL Z x cz h0 n0) (ef_rmIL m x) ?_
  show Gl p e below s _ _ _ s₁ (mkF m 0 #[.val (.ref x)] [])
  obtain ⟨T1, X1, e1, st1⟩ := getS2 X0 hx hZ hown (host := "") (Or.inl (hw _ (List.mem_of_getElem? (i := 44) rfl))) Via.refl e0 (S_COMPACT.ext O0.2) (g := (mkF m 0 #[.val (.ref x)] [])) rfl (hb hby d18_0)
  refine Gl.st st1 ?_
  show Gl p e below s _ _ _ T1 (mkF m 3 #[.val (.ref x)] [(.int cz)])
  refine Gl.st (fun _ kk => XS.ifNo X1.here hx rfl (hb hby d18_3) rfl ((if0 _ _).trans (feq hcz).1) kk) ?_
  show Gl p e below s _ _ _ T1 (mkF m 6 #[.val (.ref x)] [])
  refine Gl.st (fun _ kk => XS.aloadN X1.here hx rfl (hb hby d18_6) rfl rfl kk) ?_
  show Gl p e below s _ _ _ T1 (mkF m 7 #[.val (.ref x)] [(.ref x)])
  obtain ⟨T2, X2, e2, st2⟩ := getF X1 hx hZ hown (host := "") (Or.inl (hw _ (List.mem_of_getElem? (i := 29) rfl))) Via.refl e1 F_coder_x (g := (mkF m 7 #[.val (.ref x)] [(.ref x)])) rfl rfl (hb hby d18_7)
  refine Gl.st st2 ?_
  show Gl p e below s _ _ _ T2 (mkF m 10 #[.val (.ref x)] [(.int (0 : Int32))])
  refine Gl.st (fun _ kk => XS.ifNo X2.here hx rfl (hb hby d18_10) rfl ((if0 _ _).trans (teq (by decide : (0 : Int32) = (0 : Int32))).2) kk) ?_
  show Gl p e below s _ _ _ T2 (mkF m 13 #[.val (.ref x)] [])
  refine Gl.st (fun _ kk => XS.iconst X2.here hx rfl (hb hby d18_13) kk) ?_
  show Gl p e below s _ _ _ T2 (mkF m 14 #[.val (.ref x)] [(.int (1 : Int32))])
  refine Gl.st (fun _ kk => XS.goto X2.here hx rfl (pc0 := 14) (pc' := 18) rfl (hb hby d18_14) (by decide) (by decide) kk) ?_
  show Gl p e below s _ _ _ T2 (mkF m 18 #[.val (.ref x)] [(.int (1 : Int32))])
  exact Gl.ret X2 (v := (some (.int (1 : Int32)))) (fun h => by rw [Bd.returns] at h; cases h) (BodyLoose.notSynchronized Bd) (fun hr => retN X2 hx (t := .boolean) Bd.returns (by simp) (hb hby d18_18) hr) e2 ⟨rfl, N0, rfl⟩ (by decide) (by decide)
theorem d9_0 : decode jdk_42_method_92_code 0 = .ok (.aload_n 0, 1) := by decide +kernel
theorem d9_1 : decode jdk_42_method_92_code 1 = .ok (.invokevirtual 505, 3) := by decide +kernel
theorem d9_4 : decode jdk_42_method_92_code 4 = .ok (.istore_n 3, 1) := by decide +kernel
theorem d9_5 : decode jdk_42_method_92_code 5 = .ok (.iload_n 1, 1) := by decide +kernel
theorem d9_6 : decode jdk_42_method_92_code 6 = .ok (.iload_n 2, 1) := by decide +kernel
theorem d9_7 : decode jdk_42_method_92_code 7 = .ok (.iload_n 3, 1) := by decide +kernel
theorem d9_8 : decode jdk_42_method_92_code 8 = .ok (.invokestatic 521, 3) := by decide +kernel
theorem d9_11 : decode jdk_42_method_92_code 11 = .ok (.iload_n 1, 1) := by decide +kernel
theorem d9_12 : decode jdk_42_method_92_code 12 = .ok (.ifCond .ne 10, 3) := by decide +kernel
theorem d9_15 : decode jdk_42_method_92_code 15 = .ok (.iload_n 2, 1) := by decide +kernel
theorem d9_16 : decode jdk_42_method_92_code 16 = .ok (.iload_n 3, 1) := by decide +kernel
theorem d9_17 : decode jdk_42_method_92_code 17 = .ok (.if_icmp .ne 5, 3) := by decide +kernel
theorem d9_20 : decode jdk_42_method_92_code 20 = .ok (.aload_n 0, 1) := by decide +kernel
theorem d9_21 : decode jdk_42_method_92_code 21 = .ok (.areturn, 1) := by decide +kernel
theorem d9_22 : decode jdk_42_method_92_code 22 = .ok (.iload_n 2, 1) := by decide +kernel
theorem d9_23 : decode jdk_42_method_92_code 23 = .ok (.iload_n 1, 1) := by decide +kernel
theorem d9_24 : decode jdk_42_method_92_code 24 = .ok (.isub, 1) := by decide +kernel
theorem d9_25 : decode jdk_42_method_92_code 25 = .ok (.istore 4, 2) := by decide +kernel
theorem d9_27 : decode jdk_42_method_92_code 27 = .ok (.aload_n 0, 1) := by decide +kernel
theorem d9_28 : decode jdk_42_method_92_code 28 = .ok (.invokevirtual 492, 3) := by decide +kernel
theorem d9_31 : decode jdk_42_method_92_code 31 = .ok (.ifCond .eq 16, 3) := by decide +kernel
theorem d9_34 : decode jdk_42_method_92_code 34 = .ok (.aload_n 0, 1) := by decide +kernel
theorem d9_35 : decode jdk_42_method_92_code 35 = .ok (.getfield 9, 3) := by decide +kernel
theorem d9_38 : decode jdk_42_method_92_code 38 = .ok (.iload_n 1, 1) := by decide +kernel
theorem d9_39 : decode jdk_42_method_92_code 39 = .ok (.iload 4, 2) := by decide +kernel
theorem d9_41 : decode jdk_42_method_92_code 41 = .ok (.invokestatic 685, 3) := by decide +kernel
theorem d9_44 : decode jdk_42_method_92_code 44 = .ok (.goto 13, 3) := by decide +kernel
theorem d9_57 : decode jdk_42_method_92_code 57 = .ok (.areturn, 1) := by decide +kernel
theorem pd_rmSB_0 : parseMethodDescriptor "()I" = some ⟨[], some .int⟩ := by decide +kernel
theorem pd_rmSB_1 : parseMethodDescriptor "(III)V" = some ⟨[.int, .int, .int], none⟩ := by decide +kernel
theorem pd_rmSB_2 : parseMethodDescriptor "()Z" = some ⟨[], some .boolean⟩ := by decide +kernel
theorem pd_rmSB_3 : parseMethodDescriptor "([BII)Ljava/lang/String;" = some ⟨[(.array .byte), .int, .int], some (.object "java/lang/String")⟩ := by decide +kernel
theorem pn_rmSB : plainName "java/lang/String" = true := by first | (simp [plainName, overriddenIn]; done) | decide +kernel
theorem ef_rmSB (m : MethodId) (x : Addr) (q1 : Int32) (q2 : Int32) : entryFrame m #[(.ref x), (.int q1), (.int q2)] 5 = mkF m 0 #[.val (.ref x), .val (.int q1), .val (.int q2), .unset, .unset] [] := by first | (simp [entryFrame, mkF, argsToLocals, Value.category]; done) | rfl
def Q_rmSB (Z : State) (x : Addr) (q1 : Int32) (q2 : Int32) (t : Addr) (k : ClassId) (cs : List Int32) (fm : Value) (cz : Int32) (j ee : Nat) (h0 : Heap) (n0 : Nat) (v : Option Value) (h : Heap) (L : List Loc) : Prop := ∃ (r t2 : Addr) (k2 : ClassId), v = some (.ref r) ∧ Fr n0 L ∧ Keep h0 h [] ∧ Exa Z h r "java/lang/String" ∧ Fld Z h r "java/lang/String" "value" "[B" (.ref t2) ∧ Fld Z h r "java/lang/String" "coder" "B" (.int 0) ∧ Arv Z h t2 k2 .byte (Int32.ofNat (ee - j)) (own_sl cs j (ee - j)) (.int 0)
set_option maxRecDepth 65536 in
set_option maxHeartbeats 40000000 in
theorem rmSB (l : Launch) (Z : State) (a0 : Array Value) (hw : ∀ d ∈ tables_1, d.before a0 Z = true) (ws : List Jvm.Cond) (x : Addr) (q1 : Int32) (q2 : Int32) (t : Addr) (k : ClassId) (cs : List Int32) (fm : Value) (cz : Int32) (j ee : Nat) (h0 : Heap) (n0 : Nat) (O0 : Old Z n0 h0) (hq1 : q1 = Int32.ofNat j) (hq2 : q2 = Int32.ofNat ee) (Exa_x : Exa Z h0 x "java/lang/String") (F_value_x : Fld Z h0 x "java/lang/String" "value" "[B" (.ref t)) (F_coder_x : Fld Z h0 x "java/lang/String" "coder" "B" (.int 0)) (Arv_t : Arv Z h0 t k .byte (Int32.ofNat cs.length) ((cs.map StrChars.lo8).map Value.int) (.int 0)) (hp : ∀ c ∈ cs, ¬ c < 0 ∧ ¬ (255 : Int32) < c) (hl4 : cs.length ≤ 4) (hje : j < ee) (hel : ee ≤ cs.length) (S_COMPACT : Sta Z Z.heap "java/lang/String" "COMPACT_STRINGS" "Z" (.int cz)) (hcz : ¬ cz = 0) (S_SI : Sta Z Z.heap "jdk/internal/util/Preconditions" "SIOOBE_FORMATTER" "Ljava/util/function/BiFunction;" fm) (rG : fm.isRef = true) :
    MetFree l (⟨"java/lang/String", "substring", "(II)Ljava/lang/String;"⟩ : MethodName) (head1 (Jvm.Cond.code (⟨"java/lang/String", "substring", "(II)Ljava/lang/String;"⟩ : MethodName) jdk_42_method_92_code 5 (some (.object "java/lang/String")) :: ws) ({ frames := 4, cells := 2, slots := 8, locals := 64 } : Room)) (fun a U => a = #[(.ref x), (.int q1), (.int q2)] ∧ Z.Warmed39 U.vm ∧ U.heap = h0) (fun _ _ _ _ _ => True) (fun _ U o U' => ∃ v L, o = .returned v ∧ Q_rmSB Z x q1 q2 t k cs fm cz j ee h0 n0 v U'.heap L ∧ FrameEnd U o U' L ({ frames := 4, cells := 2, slots := 8, locals := 64 } : Room).cells ({ frames := 4, cells := 2, slots := 8, locals := 64 } : Room).slots) := by
  refine MetFree.of_bodySF (plainFor_of_name pn_rmSB) hisR ?_
  intro p e s m args below meth c s₁ Bd hml0 hP hK
  obtain ⟨rfl, hZ, hh⟩ := hP
  have hx := Bd.exec
  have hby := Bd.bytes
  have hml : c.maxLocals = 5 := hml0
  have hown : s.vm.findClass "java/lang/String" = some m.cls := findClass_of_methodNamed Bd.named
  have hnm := (name_of_methodNamed Bd.named Bd.method).1
  have X0 : Stand p l e ({ frames := 4, cells := 2, slots := 8, locals := 64 } : Room) s m #[(.ref x), (.int q1), (.int q2)] below meth c s₁ [] 0 0 := Stand.of_body Bd
  have e0 : s₁.heap = h0 := by rw [← hh, Bd.state]; rfl
  have N0 := Fr.nil n0
  refine Gl.start (Q := Q_rmSB Z x q1 q2 t k cs fm cz j ee h0 n0) (ef_rmSB m x q1 q2) ?_
  subst hq1 hq2
  have hcd := StrChars.Road.codOf (cs := cs) rfl (fun c hc => (hp c hc).2)
  have hbd := own_up hp
  have hwln : ∀ d ∈ StrChars.Road.wordsLen, d.before a0 Z = true := fun d hd => hw d ((by decide +kernel : ∀ d ∈ StrChars.Road.wordsLen, d ∈ tables_1) d hd)
  have hwch : ∀ d ∈ StrChars.Road.wordsChN, d.before a0 Z = true := fun d hd => hw d ((by decide +kernel : ∀ d ∈ StrChars.Road.wordsChN, d ∈ tables_1) d hd)
  have hl4k : cs.length ≤ 4000 := by omega
  have hjb : j < 2 ^ 31 := by omega
  have heb : ee < 2 ^ 31 := by omega
  have hlb : cs.length < 2 ^ 31 := by omega
  show Gl p e below s _ _ _ s₁ (mkF m 0 #[.val (.ref x), .val (.int (Int32.ofNat j)), .val (.int (Int32.ofNat ee)), .unset, .unset] [])
  refine Gl.st (fun _ kk => XS.aloadN X0.here hx rfl (hb hby d9_0) rfl rfl kk) ?_
  show Gl p e below s _ _ _ s₁ (mkF m 1 #[.val (.ref x), .val (.int (Int32.ofNat j)), .val (.int (Int32.ofNat ee)), .unset, .unset] [(.ref x)])
  obtain ⟨cq1, kq1, qa1, qb1, qc1⟩ := isOf hZ e0 Exa_x
  obtain ⟨v1, _, ⟨T1, L1, kQ1, nQ1⟩, -, X1, ⟨Lc1, hQ1, l1, y1, z1⟩, st1⟩ := X0.virtualBack hx (y := (⟨"java/lang/String", "length", "()I"⟩ : MethodName)) (z := (⟨"java/lang/String", "length", "()I"⟩ : MethodName)) hown (mvT hZ (hw _ (List.mem_of_getElem? (i := 50) rfl))) (mvT hZ (hw _ (List.mem_of_getElem? (i := 35) rfl))) (notFace_of_selects (args := #[]) (mvT hZ (hw _ (List.mem_of_getElem? (i := 37) rfl)))) (mvT hZ (hw _ (List.mem_of_getElem? (i := 37) rfl))) (mvT hZ (hw _ (List.mem_of_getElem? (i := 36) rfl))) (by decide) (StrChars.Road.lenW (W := 0) hZ hwln (kI := 4) (hw _ (List.mem_of_getElem? (i := 7) rfl)) (cs := cs) Exa_x F_value_x F_coder_x Arv_t hcd hbd (S_COMPACT.ext O0.2) hcz hl4k (by decide) (by decide)) qa1 qc1 (g := (mkF m 1 #[.val (.ref x), .val (.int (Int32.ofNat j)), .val (.int (Int32.ofNat ee)), .unset, .unset] [(.ref x)])) rfl (by rw [hml]; rfl) (Steps.refl _) (argsL := []) (rest := []) (lenOf pd_rmSB_0 rfl) rfl (by show 2 * 0 + _ ≤ _; exact Nat.le_of_eq rfl) (hb hby d9_1) (fun _ _ => ⟨rfl, e0, (by decide : 0 + 0 ≤ _), (by decide : 0 + 0 ≤ _)⟩)
  dsimp only [Pt.U, Pt.locs, Pt.cells, Pt.slots] at X1 l1 y1 z1 st1 hQ1
  subst y1 z1
  obtain ⟨hv1, hl1, e1⟩ := hQ1
  obtain rfl : v1 = some (.int (Int32.ofNat cs.length)) := hv1
  subst hl1
  have Nq1 := Fr.nil n0
  have N1 : Fr n0 L1 := l1 ▸ Fr.app N0 Nq1
  refine Gl.st (fun _ kk => st1.trans kk) ?_
  clear st1 qc1 qb1 qa1 kq1 cq1
  show Gl p e below s _ _ _ T1 (mkF m 4 #[.val (.ref x), .val (.int (Int32.ofNat j)), .val (.int (Int32.ofNat ee)), .unset, .unset] [(.int (Int32.ofNat cs.length))])
  refine Gl.st (fun _ kk => XS.istoreN X1.here hx rfl (hb hby d9_4) rfl (l' := #[.val (.ref x), .val (.int (Int32.ofNat j)), .val (.int (Int32.ofNat ee)), .val (.int (Int32.ofNat cs.length)), .unset]) rfl kk) ?_
  show Gl p e below s _ _ _ T1 (mkF m 5 #[.val (.ref x), .val (.int (Int32.ofNat j)), .val (.int (Int32.ofNat ee)), .val (.int (Int32.ofNat cs.length)), .unset] [])
  refine Gl.st (fun _ kk => XS.iloadN X1.here hx rfl (hb hby d9_5) rfl kk) ?_
  show Gl p e below s _ _ _ T1 (mkF m 6 #[.val (.ref x), .val (.int (Int32.ofNat j)), .val (.int (Int32.ofNat ee)), .val (.int (Int32.ofNat cs.length)), .unset] [(.int (Int32.ofNat j))])
  refine Gl.st (fun _ kk => XS.iloadN X1.here hx rfl (hb hby d9_6) rfl kk) ?_
  show Gl p e below s _ _ _ T1 (mkF m 7 #[.val (.ref x), .val (.int (Int32.ofNat j)), .val (.int (Int32.ofNat ee)), .val (.int (Int32.ofNat cs.length)), .unset] [(.int (Int32.ofNat ee)), (.int (Int32.ofNat j))])
  refine Gl.st (fun _ kk => XS.iloadN X1.here hx rfl (hb hby d9_7) rfl kk) ?_
  show Gl p e below s _ _ _ T1 (mkF m 8 #[.val (.ref x), .val (.int (Int32.ofNat j)), .val (.int (Int32.ofNat ee)), .val (.int (Int32.ofNat cs.length)), .unset] [(.int (Int32.ofNat cs.length)), (.int (Int32.ofNat ee)), (.int (Int32.ofNat j))])
  obtain ⟨v2, _, ⟨T2, L2, kQ2, nQ2⟩, -, X2, ⟨Lc2, hQ2, l2, y2, z2⟩, st2⟩ := Jvm.LawKit.callS X1 hx (y := (⟨"java/lang/String", "checkBoundsBeginEnd", "(III)V"⟩ : MethodName)) hown (mvT hZ (hw _ (List.mem_of_getElem? (i := 51) rfl))) (mvT hZ (hw _ (List.mem_of_getElem? (i := 52) rfl))) (mvT hZ (hw _ (List.mem_of_getElem? (i := 8) rfl))) (mvT hZ (hw _ (List.mem_of_getElem? (i := 53) rfl))) (by decide) (backOf (W := 0) (rmCB l Z a0 hw [] (Int32.ofNat j) (Int32.ofNat ee) (Int32.ofNat cs.length) fm h0 n0 O0 S_SI rG (own_ofNat_nneg hjb) (by rw [own_ofNat_lt heb hjb]; omega) (by rw [own_ofNat_lt hlb heb]; omega)) hZ (hw _ (List.mem_of_getElem? (i := 53) rfl)) (hw _ (List.mem_of_getElem? (i := 8) rfl)) (by decide) (by decide)) (g := (mkF m 8 #[.val (.ref x), .val (.int (Int32.ofNat j)), .val (.int (Int32.ofNat ee)), .val (.int (Int32.ofNat cs.length)), .unset] [(.int (Int32.ofNat cs.length)), (.int (Int32.ofNat ee)), (.int (Int32.ofNat j))])) rfl (by rw [hml]; rfl) (argsL := [(.int (Int32.ofNat j)), (.int (Int32.ofNat ee)), (.int (Int32.ofNat cs.length))]) (rest := []) (lenOf pd_rmSB_1 rfl) rfl (by show 2 * 0 + _ ≤ _; exact Nat.le_of_eq rfl) (hb hby d9_8) (fun _ _ => ⟨rfl, e1, (by decide : 0 + 0 ≤ _), (by decide : 0 + 0 ≤ _)⟩)
  dsimp only [Pt.U, Pt.locs, Pt.cells, Pt.slots] at X2 l2 y2 z2 st2 hQ2
  subst y2 z2
  obtain ⟨rfl, Nq2, e2⟩ := hQ2
  have N2 : Fr n0 L2 := l2 ▸ Fr.app N1 Nq2
  refine Gl.st st2 ?_
  clear st2
  clear N1 X1 e1
  show Gl p e below s _ _ _ T2 (mkF m 11 #[.val (.ref x), .val (.int (Int32.ofNat j)), .val (.int (Int32.ofNat ee)), .val (.int (Int32.ofNat cs.length)), .unset] [])
  refine Gl.st (fun _ kk => XS.iloadN X2.here hx rfl (hb hby d9_11) rfl kk) ?_
  show Gl p e below s _ _ _ T2 (mkF m 12 #[.val (.ref x), .val (.int (Int32.ofNat j)), .val (.int (Int32.ofNat ee)), .val (.int (Int32.ofNat cs.length)), .unset] [(.int (Int32.ofNat j))])
  by_cases hc12 : (Int32.ofNat j) = (0 : Int32)
  · skip
    refine Gl.st (fun _ kk => XS.ifNo X2.here hx rfl (hb hby d9_12) rfl ((if0 _ _).trans (teq hc12).2) kk) ?_
    show Gl p e below s _ _ _ T2 (mkF m 15 #[.val (.ref x), .val (.int (Int32.ofNat j)), .val (.int (Int32.ofNat ee)), .val (.int (Int32.ofNat cs.length)), .unset] [])
    refine Gl.st (fun _ kk => XS.iloadN X2.here hx rfl (hb hby d9_15) rfl kk) ?_
    show Gl p e below s _ _ _ T2 (mkF m 16 #[.val (.ref x), .val (.int (Int32.ofNat j)), .val (.int (Int32.ofNat ee)), .val (.int (Int32.ofNat cs.length)), .unset] [(.int (Int32.ofNat ee))])
    refine Gl.st (fun _ kk => XS.iloadN X2.here hx rfl (hb hby d9_16) rfl kk) ?_
    show Gl p e below s _ _ _ T2 (mkF m 17 #[.val (.ref x), .val (.int (Int32.ofNat j)), .val (.int (Int32.ofNat ee)), .val (.int (Int32.ofNat cs.length)), .unset] [(.int (Int32.ofNat cs.length)), (.int (Int32.ofNat ee))])
    by_cases hc17 : (Int32.ofNat ee) = (Int32.ofNat cs.length)
    · skip
      refine Gl.st (fun _ kk => XS.icmpNo X2.here hx rfl (hb hby d9_17) rfl (teq hc17).2 kk) ?_
      show Gl p e below s _ _ _ T2 (mkF m 20 #[.val (.ref x), .val (.int (Int32.ofNat j)), .val (.int (Int32.ofNat ee)), .val (.int (Int32.ofNat cs.length)), .unset] [])
      refine Gl.st (fun _ kk => XS.aloadN X2.here hx rfl (hb hby d9_20) rfl rfl kk) ?_
      show Gl p e below s _ _ _ T2 (mkF m 21 #[.val (.ref x), .val (.int (Int32.ofNat j)), .val (.int (Int32.ofNat ee)), .val (.int (Int32.ofNat cs.length)), .unset] [(.ref x)])
      have hj0 : j = 0 := own_ofNat_zero hjb hc12
      have hel : ee = cs.length := own_ofNat_inj heb hlb hc17
      have Arv_s : Arv Z h0 t k .byte (Int32.ofNat (ee - j)) (own_sl cs j (ee - j)) (.int 0) := by
        rw [hj0, hel, Nat.sub_zero, own_sl_all]; exact Arv_t
      exact Gl.ret X2 (v := (some (.ref x))) (fun h => by rw [Bd.returns] at h; cases h) (BodyLoose.notSynchronized Bd) (fun hr => retOut X2 hx Bd.returns rfl (Or.inr (Or.inr (Or.inr (Or.inr ⟨rfl, rfl, rfl⟩)))) (hb hby d9_21) hr) e2 ⟨x, t, k, rfl, N2, (Keep.refl h0 []), Exa_x, F_value_x, F_coder_x, Arv_s⟩ (by decide) (by decide)
    · skip
      refine Gl.st (fun _ kk => XS.icmpYes X2.here hx rfl (pc0 := 17) (pc' := 22) rfl (hb hby d9_17) rfl (feq hc17).2 (by decide) (by decide) kk) ?_
      show Gl p e below s _ _ _ T2 (mkF m 22 #[.val (.ref x), .val (.int (Int32.ofNat j)), .val (.int (Int32.ofNat ee)), .val (.int (Int32.ofNat cs.length)), .unset] [])
      refine Gl.st (fun _ kk => XS.iloadN X2.here hx rfl (hb hby d9_22) rfl kk) ?_
      show Gl p e below s _ _ _ T2 (mkF m 23 #[.val (.ref x), .val (.int (Int32.ofNat j)), .val (.int (Int32.ofNat ee)), .val (.int (Int32.ofNat cs.length)), .unset] [(.int (Int32.ofNat ee))])
      refine Gl.st (fun _ kk => XS.iloadN X2.here hx rfl (hb hby d9_23) rfl kk) ?_
      show Gl p e below s _ _ _ T2 (mkF m 24 #[.val (.ref x), .val (.int (Int32.ofNat j)), .val (.int (Int32.ofNat ee)), .val (.int (Int32.ofNat cs.length)), .unset] [(.int (Int32.ofNat j)), (.int (Int32.ofNat ee))])
      refine Gl.st (fun _ kk => XS.isub X2.here hx rfl (hb hby d9_24) rfl kk) ?_
      show Gl p e below s _ _ _ T2 (mkF m 25 #[.val (.ref x), .val (.int (Int32.ofNat j)), .val (.int (Int32.ofNat ee)), .val (.int (Int32.ofNat cs.length)), .unset] [(.int ((Int32.ofNat ee) - (Int32.ofNat j)))])
      rw [own_ofNat_sub (by omega)]
      show Gl p e below s _ _ _ T2 (mkF m 25 #[.val (.ref x), .val (.int (Int32.ofNat j)), .val (.int (Int32.ofNat ee)), .val (.int (Int32.ofNat cs.length)), .unset] [(.int (Int32.ofNat (ee - j)))])
      refine Gl.st (fun _ kk => XS.istore X2.here hx rfl (hb hby d9_25) rfl (l' := #[.val (.ref x), .val (.int (Int32.ofNat j)), .val (.int (Int32.ofNat ee)), .val (.int (Int32.ofNat cs.length)), .val (.int (Int32.ofNat (ee - j)))]) rfl kk) ?_
      show Gl p e below s _ _ _ T2 (mkF m 27 #[.val (.ref x), .val (.int (Int32.ofNat j)), .val (.int (Int32.ofNat ee)), .val (.int (Int32.ofNat cs.length)), .val (.int (Int32.ofNat (ee - j)))] [])
      refine Gl.st (fun _ kk => XS.aloadN X2.here hx rfl (hb hby d9_27) rfl rfl kk) ?_
      show Gl p e below s _ _ _ T2 (mkF m 28 #[.val (.ref x), .val (.int (Int32.ofNat j)), .val (.int (Int32.ofNat ee)), .val (.int (Int32.ofNat cs.length)), .val (.int (Int32.ofNat (ee - j)))] [(.ref x)])
      obtain ⟨cq3, kq3, qa3, qb3, qc3⟩ := isOf hZ e2 Exa_x
      obtain ⟨v3, _, ⟨T3, L3, kQ3, nQ3⟩, -, X3, ⟨Lc3, hQ3, l3, y3, z3⟩, st3⟩ := X2.virtualBack hx (y := (⟨"java/lang/String", "isLatin1", "()Z"⟩ : MethodName)) (z := (⟨"java/lang/String", "isLatin1", "()Z"⟩ : MethodName)) hown (mvT hZ (hw _ (List.mem_of_getElem? (i := 81) rfl))) (mvT hZ (hw _ (List.mem_of_getElem? (i := 82) rfl))) (notFace_of_selects (args := #[]) (mvT hZ (hw _ (List.mem_of_getElem? (i := 84) rfl)))) (mvT hZ (hw _ (List.mem_of_getElem? (i := 84) rfl))) (mvT hZ (hw _ (List.mem_of_getElem? (i := 83) rfl))) (by decide) (backOf (W := 0) (rmIL l Z a0 hw [] x cz h0 n0 O0 F_coder_x S_COMPACT hcz) hZ (hw _ (List.mem_of_getElem? (i := 85) rfl)) (hw _ (List.mem_of_getElem? (i := 8) rfl)) (by decide) (by decide)) qa3 qc3 (g := (mkF m 28 #[.val (.ref x), .val (.int (Int32.ofNat j)), .val (.int (Int32.ofNat ee)), .val (.int (Int32.ofNat cs.length)), .val (.int (Int32.ofNat (ee - j)))] [(.ref x)])) rfl (by rw [hml]; rfl) (Steps.refl _) (argsL := []) (rest := []) (lenOf pd_rmSB_2 rfl) rfl (by show 2 * 0 + _ ≤ _; exact Nat.le_of_eq rfl) (hb hby d9_28) (fun _ _ => ⟨rfl, e2, (by decide : 0 + 0 ≤ _), (by decide : 0 + 0 ≤ _)⟩)
      dsimp only [Pt.U, Pt.locs, Pt.cells, Pt.slots] at X3 l3 y3 z3 st3 hQ3
      subst y3 z3
      obtain ⟨rfl, Nq3, e3⟩ := hQ3
      have N3 : Fr n0 L3 := l3 ▸ Fr.app N2 Nq3
      refine Gl.st (fun _ kk => st3.trans kk) ?_
      clear st3 qc3 qb3 qa3 kq3 cq3
      clear N2 X2 e2
      show Gl p e below s _ _ _ T3 (mkF m 31 #[.val (.ref x), .val (.int (Int32.ofNat j)), .val (.int (Int32.ofNat ee)), .val (.int (Int32.ofNat cs.length)), .val (.int (Int32.ofNat (ee - j)))] [(.int (1 : Int32))])
      refine Gl.st (fun _ kk => XS.ifNo X3.here hx rfl (hb hby d9_31) rfl ((if0 _ _).trans (feq (by decide : ¬ ((1 : Int32) = (0 : Int32)))).1) kk) ?_
      show Gl p e below s _ _ _ T3 (mkF m 34 #[.val (.ref x), .val (.int (Int32.ofNat j)), .val (.int (Int32.ofNat ee)), .val (.int (Int32.ofNat cs.length)), .val (.int (Int32.ofNat (ee - j)))] [])
      refine Gl.st (fun _ kk => XS.aloadN X3.here hx rfl (hb hby d9_34) rfl rfl kk) ?_
      show Gl p e below s _ _ _ T3 (mkF m 35 #[.val (.ref x), .val (.int (Int32.ofNat j)), .val (.int (Int32.ofNat ee)), .val (.int (Int32.ofNat cs.length)), .val (.int (Int32.ofNat (ee - j)))] [(.ref x)])
      obtain ⟨T4, X4, e4, st4⟩ := getF X3 hx hZ hown (host := "") (Or.inl (hw _ (List.mem_of_getElem? (i := 28) rfl))) Via.refl e3 F_value_x (g := (mkF m 35 #[.val (.ref x), .val (.int (Int32.ofNat j)), .val (.int (Int32.ofNat ee)), .val (.int (Int32.ofNat cs.length)), .val (.int (Int32.ofNat (ee - j)))] [(.ref x)])) rfl rfl (hb hby d9_35)
      refine Gl.st st4 ?_
      show Gl p e below s _ _ _ T4 (mkF m 38 #[.val (.ref x), .val (.int (Int32.ofNat j)), .val (.int (Int32.ofNat ee)), .val (.int (Int32.ofNat cs.length)), .val (.int (Int32.ofNat (ee - j)))] [(.ref t)])
      refine Gl.st (fun _ kk => XS.iloadN X4.here hx rfl (hb hby d9_38) rfl kk) ?_
      show Gl p e below s _ _ _ T4 (mkF m 39 #[.val (.ref x), .val (.int (Int32.ofNat j)), .val (.int (Int32.ofNat ee)), .val (.int (Int32.ofNat cs.length)), .val (.int (Int32.ofNat (ee - j)))] [(.int (Int32.ofNat j)), (.ref t)])
      refine Gl.st (fun _ kk => XS.iload X4.here hx rfl (hb hby d9_39) rfl kk) ?_
      show Gl p e below s _ _ _ T4 (mkF m 41 #[.val (.ref x), .val (.int (Int32.ofNat j)), .val (.int (Int32.ofNat ee)), .val (.int (Int32.ofNat cs.length)), .val (.int (Int32.ofNat (ee - j)))] [(.int (Int32.ofNat (ee - j))), (.int (Int32.ofNat j)), (.ref t)])
      have hne : ¬ (j = 0 ∧ ee - j = cs.length) := fun q => hc17 (by rw [show ee = cs.length by omega])
      obtain ⟨v5, _, ⟨T5, L5, kQ5, nQ5⟩, -, X5, ⟨Lc5, hQ5, l5, y5, z5⟩, st5⟩ := Jvm.LawKit.callS X4 hx (y := (⟨"java/lang/StringLatin1", "newString", "([BII)Ljava/lang/String;"⟩ : MethodName)) hown (mvT hZ (hw _ (List.mem_of_getElem? (i := 96) rfl))) (mvT hZ (hw _ (List.mem_of_getElem? (i := 97) rfl))) (mvT hZ (hw _ (List.mem_of_getElem? (i := 88) rfl))) (mvT hZ (hw _ (List.mem_of_getElem? (i := 98) rfl))) (by decide) (backOf (W := 0) (rmNS l Z a0 hw [] t (Int32.ofNat j) (Int32.ofNat (ee - j)) k cs j (ee - j) h0 n0 O0 rfl rfl Arv_t (by omega) (by omega) hl4 hne) hZ (hw _ (List.mem_of_getElem? (i := 98) rfl)) (hw _ (List.mem_of_getElem? (i := 88) rfl)) (by decide) (by decide)) (g := (mkF m 41 #[.val (.ref x), .val (.int (Int32.ofNat j)), .val (.int (Int32.ofNat ee)), .val (.int (Int32.ofNat cs.length)), .val (.int (Int32.ofNat (ee - j)))] [(.int (Int32.ofNat (ee - j))), (.int (Int32.ofNat j)), (.ref t)])) rfl (by rw [hml]; rfl) (argsL := [(.ref t), (.int (Int32.ofNat j)), (.int (Int32.ofNat (ee - j)))]) (rest := []) (lenOf pd_rmSB_3 rfl) rfl (by show 2 * 0 + _ ≤ _; exact Nat.le_of_eq rfl) (hb hby d9_41) (fun _ _ => ⟨rfl, e4, (by decide : 0 + 2 ≤ _), (by decide : 0 + 8 ≤ _)⟩)
      dsimp only [Pt.U, Pt.locs, Pt.cells, Pt.slots] at X5 l5 y5 z5 st5 hQ5
      subst y5 z5
      obtain ⟨h5, e5⟩ : ∃ z, T5.heap = z := ⟨_, rfl⟩
      rw [e5] at hQ5
      obtain ⟨r5, tt5, kt5, rfl, Nq5, Kq5, Exa_r5, F_value_r5, F_coder_r5, Arv_tt5⟩ := hQ5
      have N5 : Fr n0 L5 := l5 ▸ Fr.app N3 Nq5
      refine Gl.st st5 ?_
      replace Exa_x := Exa_x.keep Kq5
      replace F_value_x := F_value_x.keep Kq5 nin0
      replace F_coder_x := F_coder_x.keep Kq5 nin0
      replace Arv_t := Arv_t.keep Kq5 nin0
      have O5 := O0.keep Kq5 all0
      have K5 := (Keep.refl h0 []).trans Kq5 all0
      clear st5
      clear N3 X4 e4
      show Gl p e below s _ _ _ T5 (mkF m 44 #[.val (.ref x), .val (.int (Int32.ofNat j)), .val (.int (Int32.ofNat ee)), .val (.int (Int32.ofNat cs.length)), .val (.int (Int32.ofNat (ee - j)))] [(.ref r5)])
      refine Gl.st (fun _ kk => XS.goto X5.here hx rfl (pc0 := 44) (pc' := 57) rfl (hb hby d9_44) (by decide) (by decide) kk) ?_
      show Gl p e below s _ _ _ T5 (mkF m 57 #[.val (.ref x), .val (.int (Int32.ofNat j)), .val (.int (Int32.ofNat ee)), .val (.int (Int32.ofNat cs.length)), .val (.int (Int32.ofNat (ee - j)))] [(.ref r5)])
      exact Gl.ret X5 (v := (some (.ref r5))) (fun h => by rw [Bd.returns] at h; cases h) (BodyLoose.notSynchronized Bd) (fun hr => retOut X5 hx Bd.returns rfl (Or.inr (Or.inr (Or.inr (Or.inr ⟨rfl, rfl, rfl⟩)))) (hb hby d9_57) hr) e5 ⟨r5, tt5, kt5, rfl, N5, K5, Exa_r5, F_value_r5, F_coder_r5, Arv_tt5⟩ (by decide) (by decide)
  · skip
    refine Gl.st (fun _ kk => XS.ifYes X2.here hx rfl (pc0 := 12) (pc' := 22) rfl (hb hby d9_12) rfl ((if0 _ _).trans (feq hc12).2) (by decide) (by decide) kk) ?_
    show Gl p e below s _ _ _ T2 (mkF m 22 #[.val (.ref x), .val (.int (Int32.ofNat j)), .val (.int (Int32.ofNat ee)), .val (.int (Int32.ofNat cs.length)), .unset] [])
    refine Gl.st (fun _ kk => XS.iloadN X2.here hx rfl (hb hby d9_22) rfl kk) ?_
    show Gl p e below s _ _ _ T2 (mkF m 23 #[.val (.ref x), .val (.int (Int32.ofNat j)), .val (.int (Int32.ofNat ee)), .val (.int (Int32.ofNat cs.length)), .unset] [(.int (Int32.ofNat ee))])
    refine Gl.st (fun _ kk => XS.iloadN X2.here hx rfl (hb hby d9_23) rfl kk) ?_
    show Gl p e below s _ _ _ T2 (mkF m 24 #[.val (.ref x), .val (.int (Int32.ofNat j)), .val (.int (Int32.ofNat ee)), .val (.int (Int32.ofNat cs.length)), .unset] [(.int (Int32.ofNat j)), (.int (Int32.ofNat ee))])
    refine Gl.st (fun _ kk => XS.isub X2.here hx rfl (hb hby d9_24) rfl kk) ?_
    show Gl p e below s _ _ _ T2 (mkF m 25 #[.val (.ref x), .val (.int (Int32.ofNat j)), .val (.int (Int32.ofNat ee)), .val (.int (Int32.ofNat cs.length)), .unset] [(.int ((Int32.ofNat ee) - (Int32.ofNat j)))])
    rw [own_ofNat_sub (by omega)]
    show Gl p e below s _ _ _ T2 (mkF m 25 #[.val (.ref x), .val (.int (Int32.ofNat j)), .val (.int (Int32.ofNat ee)), .val (.int (Int32.ofNat cs.length)), .unset] [(.int (Int32.ofNat (ee - j)))])
    refine Gl.st (fun _ kk => XS.istore X2.here hx rfl (hb hby d9_25) rfl (l' := #[.val (.ref x), .val (.int (Int32.ofNat j)), .val (.int (Int32.ofNat ee)), .val (.int (Int32.ofNat cs.length)), .val (.int (Int32.ofNat (ee - j)))]) rfl kk) ?_
    show Gl p e below s _ _ _ T2 (mkF m 27 #[.val (.ref x), .val (.int (Int32.ofNat j)), .val (.int (Int32.ofNat ee)), .val (.int (Int32.ofNat cs.length)), .val (.int (Int32.ofNat (ee - j)))] [])
    refine Gl.st (fun _ kk => XS.aloadN X2.here hx rfl (hb hby d9_27) rfl rfl kk) ?_
    show Gl p e below s _ _ _ T2 (mkF m 28 #[.val (.ref x), .val (.int (Int32.ofNat j)), .val (.int (Int32.ofNat ee)), .val (.int (Int32.ofNat cs.length)), .val (.int (Int32.ofNat (ee - j)))] [(.ref x)])
    obtain ⟨cq6, kq6, qa6, qb6, qc6⟩ := isOf hZ e2 Exa_x
    obtain ⟨v6, _, ⟨T6, L6, kQ6, nQ6⟩, -, X6, ⟨Lc6, hQ6, l6, y6, z6⟩, st6⟩ := X2.virtualBack hx (y := (⟨"java/lang/String", "isLatin1", "()Z"⟩ : MethodName)) (z := (⟨"java/lang/String", "isLatin1", "()Z"⟩ : MethodName)) hown (mvT hZ (hw _ (List.mem_of_getElem? (i := 81) rfl))) (mvT hZ (hw _ (List.mem_of_getElem? (i := 82) rfl))) (notFace_of_selects (args := #[]) (mvT hZ (hw _ (List.mem_of_getElem? (i := 84) rfl)))) (mvT hZ (hw _ (List.mem_of_getElem? (i := 84) rfl))) (mvT hZ (hw _ (List.mem_of_getElem? (i := 83) rfl))) (by decide) (backOf (W := 0) (rmIL l Z a0 hw [] x cz h0 n0 O0 F_coder_x S_COMPACT hcz) hZ (hw _ (List.mem_of_getElem? (i := 85) rfl)) (hw _ (List.mem_of_getElem? (i := 8) rfl)) (by decide) (by decide)) qa6 qc6 (g := (mkF m 28 #[.val (.ref x), .val (.int (Int32.ofNat j)), .val (.int (Int32.ofNat ee)), .val (.int (Int32.ofNat cs.length)), .val (.int (Int32.ofNat (ee - j)))] [(.ref x)])) rfl (by rw [hml]; rfl) (Steps.refl _) (argsL := []) (rest := []) (lenOf pd_rmSB_2 rfl) rfl (by show 2 * 0 + _ ≤ _; exact Nat.le_of_eq rfl) (hb hby d9_28) (fun _ _ => ⟨rfl, e2, (by decide : 0 + 0 ≤ _), (by decide : 0 + 0 ≤ _)⟩)
    dsimp only [Pt.U, Pt.locs, Pt.cells, Pt.slots] at X6 l6 y6 z6 st6 hQ6
    subst y6 z6
    obtain ⟨rfl, Nq6, e6⟩ := hQ6
    have N6 : Fr n0 L6 := l6 ▸ Fr.app N2 Nq6
    refine Gl.st (fun _ kk => st6.trans kk) ?_
    clear st6 qc6 qb6 qa6 kq6 cq6
    clear N2 X2 e2
    show Gl p e below s _ _ _ T6 (mkF m 31 #[.val (.ref x), .val (.int (Int32.ofNat j)), .val (.int (Int32.ofNat ee)), .val (.int (Int32.ofNat cs.length)), .val (.int (Int32.ofNat (ee - j)))] [(.int (1 : Int32))])
    refine Gl.st (fun _ kk => XS.ifNo X6.here hx rfl (hb hby d9_31) rfl ((if0 _ _).trans (feq (by decide : ¬ ((1 : Int32) = (0 : Int32)))).1) kk) ?_
    show Gl p e below s _ _ _ T6 (mkF m 34 #[.val (.ref x), .val (.int (Int32.ofNat j)), .val (.int (Int32.ofNat ee)), .val (.int (Int32.ofNat cs.length)), .val (.int (Int32.ofNat (ee - j)))] [])
    refine Gl.st (fun _ kk => XS.aloadN X6.here hx rfl (hb hby d9_34) rfl rfl kk) ?_
    show Gl p e below s _ _ _ T6 (mkF m 35 #[.val (.ref x), .val (.int (Int32.ofNat j)), .val (.int (Int32.ofNat ee)), .val (.int (Int32.ofNat cs.length)), .val (.int (Int32.ofNat (ee - j)))] [(.ref x)])
    obtain ⟨T7, X7, e7, st7⟩ := getF X6 hx hZ hown (host := "") (Or.inl (hw _ (List.mem_of_getElem? (i := 28) rfl))) Via.refl e6 F_value_x (g := (mkF m 35 #[.val (.ref x), .val (.int (Int32.ofNat j)), .val (.int (Int32.ofNat ee)), .val (.int (Int32.ofNat cs.length)), .val (.int (Int32.ofNat (ee - j)))] [(.ref x)])) rfl rfl (hb hby d9_35)
    refine Gl.st st7 ?_
    show Gl p e below s _ _ _ T7 (mkF m 38 #[.val (.ref x), .val (.int (Int32.ofNat j)), .val (.int (Int32.ofNat ee)), .val (.int (Int32.ofNat cs.length)), .val (.int (Int32.ofNat (ee - j)))] [(.ref t)])
    refine Gl.st (fun _ kk => XS.iloadN X7.here hx rfl (hb hby d9_38) rfl kk) ?_
    show Gl p e below s _ _ _ T7 (mkF m 39 #[.val (.ref x), .val (.int (Int32.ofNat j)), .val (.int (Int32.ofNat ee)), .val (.int (Int32.ofNat cs.length)), .val (.int (Int32.ofNat (ee - j)))] [(.int (Int32.ofNat j)), (.ref t)])
    refine Gl.st (fun _ kk => XS.iload X7.here hx rfl (hb hby d9_39) rfl kk) ?_
    show Gl p e below s _ _ _ T7 (mkF m 41 #[.val (.ref x), .val (.int (Int32.ofNat j)), .val (.int (Int32.ofNat ee)), .val (.int (Int32.ofNat cs.length)), .val (.int (Int32.ofNat (ee - j)))] [(.int (Int32.ofNat (ee - j))), (.int (Int32.ofNat j)), (.ref t)])
    have hne : ¬ (j = 0 ∧ ee - j = cs.length) := fun q => hc12 (by rw [q.1]; rfl)
    obtain ⟨v8, _, ⟨T8, L8, kQ8, nQ8⟩, -, X8, ⟨Lc8, hQ8, l8, y8, z8⟩, st8⟩ := Jvm.LawKit.callS X7 hx (y := (⟨"java/lang/StringLatin1", "newString", "([BII)Ljava/lang/String;"⟩ : MethodName)) hown (mvT hZ (hw _ (List.mem_of_getElem? (i := 96) rfl))) (mvT hZ (hw _ (List.mem_of_getElem? (i := 97) rfl))) (mvT hZ (hw _ (List.mem_of_getElem? (i := 88) rfl))) (mvT hZ (hw _ (List.mem_of_getElem? (i := 98) rfl))) (by decide) (backOf (W := 0) (rmNS l Z a0 hw [] t (Int32.ofNat j) (Int32.ofNat (ee - j)) k cs j (ee - j) h0 n0 O0 rfl rfl Arv_t (by omega) (by omega) hl4 hne) hZ (hw _ (List.mem_of_getElem? (i := 98) rfl)) (hw _ (List.mem_of_getElem? (i := 88) rfl)) (by decide) (by decide)) (g := (mkF m 41 #[.val (.ref x), .val (.int (Int32.ofNat j)), .val (.int (Int32.ofNat ee)), .val (.int (Int32.ofNat cs.length)), .val (.int (Int32.ofNat (ee - j)))] [(.int (Int32.ofNat (ee - j))), (.int (Int32.ofNat j)), (.ref t)])) rfl (by rw [hml]; rfl) (argsL := [(.ref t), (.int (Int32.ofNat j)), (.int (Int32.ofNat (ee - j)))]) (rest := []) (lenOf pd_rmSB_3 rfl) rfl (by show 2 * 0 + _ ≤ _; exact Nat.le_of_eq rfl) (hb hby d9_41) (fun _ _ => ⟨rfl, e7, (by decide : 0 + 2 ≤ _), (by decide : 0 + 8 ≤ _)⟩)
    dsimp only [Pt.U, Pt.locs, Pt.cells, Pt.slots] at X8 l8 y8 z8 st8 hQ8
    subst y8 z8
    obtain ⟨h8, e8⟩ : ∃ z, T8.heap = z := ⟨_, rfl⟩
    rw [e8] at hQ8
    obtain ⟨r8, tt8, kt8, rfl, Nq8, Kq8, Exa_r8, F_value_r8, F_coder_r8, Arv_tt8⟩ := hQ8
    have N8 : Fr n0 L8 := l8 ▸ Fr.app N6 Nq8
    refine Gl.st st8 ?_
    replace Exa_x := Exa_x.keep Kq8
    replace F_value_x := F_value_x.keep Kq8 nin0
    replace F_coder_x := F_coder_x.keep Kq8 nin0
    replace Arv_t := Arv_t.keep Kq8 nin0
    have O8 := O0.keep Kq8 all0
    have K8 := (Keep.refl h0 []).trans Kq8 all0
    clear st8
    clear N6 X7 e7
    show Gl p e below s _ _ _ T8 (mkF m 44 #[.val (.ref x), .val (.int (Int32.ofNat j)), .val (.int (Int32.ofNat ee)), .val (.int (Int32.ofNat cs.length)), .val (.int (Int32.ofNat (ee - j)))] [(.ref r8)])
    refine Gl.st (fun _ kk => XS.goto X8.here hx rfl (pc0 := 44) (pc' := 57) rfl (hb hby d9_44) (by decide) (by decide) kk) ?_
    show Gl p e below s _ _ _ T8 (mkF m 57 #[.val (.ref x), .val (.int (Int32.ofNat j)), .val (.int (Int32.ofNat ee)), .val (.int (Int32.ofNat cs.length)), .val (.int (Int32.ofNat (ee - j)))] [(.ref r8)])
    exact Gl.ret X8 (v := (some (.ref r8))) (fun h => by rw [Bd.returns] at h; cases h) (BodyLoose.notSynchronized Bd) (fun hr => retOut X8 hx Bd.returns rfl (Or.inr (Or.inr (Or.inr (Or.inr ⟨rfl, rfl, rfl⟩)))) (hb hby d9_57) hr) e8 ⟨r8, tt8, kt8, rfl, N8, K8, Exa_r8, F_value_r8, F_coder_r8, Arv_tt8⟩ (by decide) (by decide)
theorem pd_rmSE_0 : parseMethodDescriptor "()I" = some ⟨[], some .int⟩ := by decide +kernel
theorem pd_rmSE_1 : parseMethodDescriptor "(III)V" = some ⟨[.int, .int, .int], none⟩ := by decide +kernel
theorem pd_rmSE_2 : parseMethodDescriptor "()Z" = some ⟨[], some .boolean⟩ := by decide +kernel
theorem pd_rmSE_3 : parseMethodDescriptor "([BII)Ljava/lang/String;" = some ⟨[(.array .byte), .int, .int], some (.object "java/lang/String")⟩ := by decide +kernel
theorem pn_rmSE : plainName "java/lang/String" = true := by first | (simp [plainName, overriddenIn]; done) | decide +kernel
theorem ef_rmSE (m : MethodId) (x : Addr) (q1 : Int32) (q2 : Int32) : entryFrame m #[(.ref x), (.int q1), (.int q2)] 5 = mkF m 0 #[.val (.ref x), .val (.int q1), .val (.int q2), .unset, .unset] [] := by first | (simp [entryFrame, mkF, argsToLocals, Value.category]; done) | rfl
def Q_rmSE (Z : State) (x : Addr) (q1 : Int32) (q2 : Int32) (t : Addr) (k : ClassId) (cs : List Int32) (fm : Value) (cz : Int32) (j ee : Nat) (h0 : Heap) (n0 : Nat) (v : Option Value) (h : Heap) (L : List Loc) : Prop := ∃ (r t2 : Addr) (k2 : ClassId), v = some (.ref r) ∧ Fr n0 L ∧ Keep h0 h [] ∧ Exa Z h r "java/lang/String" ∧ Fld Z h r "java/lang/String" "value" "[B" (.ref t2) ∧ Fld Z h r "java/lang/String" "coder" "B" (.int 0) ∧ Arv Z h t2 k2 .byte 0 [] (.int 0)
set_option maxRecDepth 65536 in
set_option maxHeartbeats 40000000 in
theorem rmSE (l : Launch) (Z : State) (a0 : Array Value) (hw : ∀ d ∈ tables_1, d.before a0 Z = true) (ws : List Jvm.Cond) (x : Addr) (q1 : Int32) (q2 : Int32) (t : Addr) (k : ClassId) (cs : List Int32) (fm : Value) (cz : Int32) (j ee : Nat) (h0 : Heap) (n0 : Nat) (O0 : Old Z n0 h0) (hq1 : q1 = Int32.ofNat j) (hq2 : q2 = Int32.ofNat ee) (Exa_x : Exa Z h0 x "java/lang/String") (F_value_x : Fld Z h0 x "java/lang/String" "value" "[B" (.ref t)) (F_coder_x : Fld Z h0 x "java/lang/String" "coder" "B" (.int 0)) (Arv_t : Arv Z h0 t k .byte (Int32.ofNat cs.length) ((cs.map StrChars.lo8).map Value.int) (.int 0)) (hp : ∀ c ∈ cs, ¬ c < 0 ∧ ¬ (255 : Int32) < c) (hl4 : cs.length ≤ 4) (hje : j = cs.length) (hel : ee = cs.length) (S_COMPACT : Sta Z Z.heap "java/lang/String" "COMPACT_STRINGS" "Z" (.int cz)) (hcz : ¬ cz = 0) (S_SI : Sta Z Z.heap "jdk/internal/util/Preconditions" "SIOOBE_FORMATTER" "Ljava/util/function/BiFunction;" fm) (rG : fm.isRef = true) :
    MetFree l (⟨"java/lang/String", "substring", "(II)Ljava/lang/String;"⟩ : MethodName) (head1 (Jvm.Cond.code (⟨"java/lang/String", "substring", "(II)Ljava/lang/String;"⟩ : MethodName) jdk_42_method_92_code 5 (some (.object "java/lang/String")) :: ws) ({ frames := 2, cells := 2, slots := 4, locals := 29 } : Room)) (fun a U => a = #[(.ref x), (.int q1), (.int q2)] ∧ Z.Warmed39 U.vm ∧ U.heap = h0 ∧ CHv Z consts_1 U.vm h0) (fun _ _ _ _ _ => True) (fun _ U o U' => ∃ v L, o = .returned v ∧ Q_rmSE Z x q1 q2 t k cs fm cz j ee h0 n0 v U'.heap L ∧ CHr Z consts_1 U.vm U.heap U'.vm U'.heap ∧ ReturnedEndW U o U' L ({ frames := 2, cells := 2, slots := 4, locals := 29 } : Room).cells ({ frames := 2, cells := 2, slots := 4, locals := 29 } : Room).slots) := by
  refine MetFree.of_bodySF (plainFor_of_name pn_rmSE) hisR ?_
  intro p e s m args below meth c s₁ Bd hml0 hP hK
  obtain ⟨rfl, hZ, hh, H0⟩ := hP
  have hx := Bd.exec
  have hby := Bd.bytes
  have hml : c.maxLocals = 5 := hml0
  have hown : s.vm.findClass "java/lang/String" = some m.cls := findClass_of_methodNamed Bd.named
  have hnm := (name_of_methodNamed Bd.named Bd.method).1
  have X0 : Stand p l e ({ frames := 2, cells := 2, slots := 4, locals := 29 } : Room) (s.setVm s.vm) m #[(.ref x), (.int q1), (.int q2)] below meth c s₁ [] 0 0 := Stand.of_body Bd
  have e0 : s₁.heap = h0 := by rw [← hh, Bd.state]; rfl
  have N0 := Fr.nil n0
  have hS0 : s.Since s.vm 0 := (State.WarmedH.refl s).since 0
  have hk0 : 0 ≤ h0.size := Nat.zero_le _
  have HC0 : CHr Z consts_1 s.vm h0 s.vm h0 := CHr.refl H0
  have hh0 : s.heap = h0 := hh
  refine GlW.start (Q := Q_rmSE Z x q1 q2 t k cs fm cz j ee h0 n0) (ef_rmSE m x q1 q2) ?_
  have hEL := own_EW hw
  have hwS : ∀ a ∈ Bundle.stringAtoms, a.before a0 Z = true := fun d hd => hw d ((by decide +kernel : ∀ d ∈ Bundle.stringAtoms, d ∈ tables_1) d hd)
  subst hq1 hq2
  have hcd := StrChars.Road.codOf (cs := cs) rfl (fun c hc => (hp c hc).2)
  have hbd := own_up hp
  have hwln : ∀ d ∈ StrChars.Road.wordsLen, d.before a0 Z = true := fun d hd => hw d ((by decide +kernel : ∀ d ∈ StrChars.Road.wordsLen, d ∈ tables_1) d hd)
  have hwch : ∀ d ∈ StrChars.Road.wordsChN, d.before a0 Z = true := fun d hd => hw d ((by decide +kernel : ∀ d ∈ StrChars.Road.wordsChN, d ∈ tables_1) d hd)
  have hl4k : cs.length ≤ 4000 := by omega
  have hjb : j < 2 ^ 31 := by omega
  have heb : ee < 2 ^ 31 := by omega
  have hlb : cs.length < 2 ^ 31 := by omega
  show GlW Z consts_1 p e below s _ _ _ s₁ (mkF m 0 #[.val (.ref x), .val (.int (Int32.ofNat j)), .val (.int (Int32.ofNat ee)), .unset, .unset] [])
  refine GlW.st (fun _ kk => XS.aloadN X0.here hx rfl (hb hby d9_0) rfl rfl kk) ?_
  show GlW Z consts_1 p e below s _ _ _ s₁ (mkF m 1 #[.val (.ref x), .val (.int (Int32.ofNat j)), .val (.int (Int32.ofNat ee)), .unset, .unset] [(.ref x)])
  obtain ⟨cq1, kq1, qa1, qb1, qc1⟩ := isOf (s := s.setVm s.vm) hZ e0 Exa_x
  obtain ⟨v1, _, ⟨T1, L1, kQ1, nQ1⟩, -, X1, ⟨Lc1, hQ1, l1, y1, z1⟩, st1⟩ := X0.virtualBack hx (y := (⟨"java/lang/String", "length", "()I"⟩ : MethodName)) (z := (⟨"java/lang/String", "length", "()I"⟩ : MethodName)) hown (mvT hZ (hw _ (List.mem_of_getElem? (i := 50) rfl))) (mvT hZ (hw _ (List.mem_of_getElem? (i := 35) rfl))) (notFace_of_selects (args := #[]) (mvT hZ (hw _ (List.mem_of_getElem? (i := 37) rfl)))) (mvT hZ (hw _ (List.mem_of_getElem? (i := 37) rfl))) (mvT hZ (hw _ (List.mem_of_getElem? (i := 36) rfl))) (by decide) (StrChars.Road.lenW (W := 0) (s := (s.setVm s.vm)) hZ hwln (kI := 4) (hw _ (List.mem_of_getElem? (i := 7) rfl)) (cs := cs) Exa_x F_value_x F_coder_x Arv_t hcd hbd (S_COMPACT.ext O0.2) hcz hl4k (by decide) (by decide)) qa1 qc1 (g := (mkF m 1 #[.val (.ref x), .val (.int (Int32.ofNat j)), .val (.int (Int32.ofNat ee)), .unset, .unset] [(.ref x)])) rfl (by rw [hml]; rfl) (Steps.refl _) (argsL := []) (rest := []) (lenOf pd_rmSE_0 rfl) rfl (by show 2 * 0 + _ ≤ _; exact Nat.le_of_eq rfl) (hb hby d9_1) (fun _ _ => ⟨rfl, e0, (by decide : 0 + 0 ≤ _), (by decide : 0 + 0 ≤ _)⟩)
  dsimp only [Pt.U, Pt.locs, Pt.cells, Pt.slots] at X1 l1 y1 z1 st1 hQ1
  subst y1 z1
  obtain ⟨hv1, hl1, e1⟩ := hQ1
  obtain rfl : v1 = some (.int (Int32.ofNat cs.length)) := hv1
  subst hl1
  have Nq1 := Fr.nil n0
  have N1 : Fr n0 L1 := l1 ▸ Fr.app N0 Nq1
  refine GlW.st (fun _ kk => st1.trans kk) ?_
  clear st1 qc1 qb1 qa1 kq1 cq1
  show GlW Z consts_1 p e below s _ _ _ T1 (mkF m 4 #[.val (.ref x), .val (.int (Int32.ofNat j)), .val (.int (Int32.ofNat ee)), .unset, .unset] [(.int (Int32.ofNat cs.length))])
  refine GlW.st (fun _ kk => XS.istoreN X1.here hx rfl (hb hby d9_4) rfl (l' := #[.val (.ref x), .val (.int (Int32.ofNat j)), .val (.int (Int32.ofNat ee)), .val (.int (Int32.ofNat cs.length)), .unset]) rfl kk) ?_
  show GlW Z consts_1 p e below s _ _ _ T1 (mkF m 5 #[.val (.ref x), .val (.int (Int32.ofNat j)), .val (.int (Int32.ofNat ee)), .val (.int (Int32.ofNat cs.length)), .unset] [])
  refine GlW.st (fun _ kk => XS.iloadN X1.here hx rfl (hb hby d9_5) rfl kk) ?_
  show GlW Z consts_1 p e below s _ _ _ T1 (mkF m 6 #[.val (.ref x), .val (.int (Int32.ofNat j)), .val (.int (Int32.ofNat ee)), .val (.int (Int32.ofNat cs.length)), .unset] [(.int (Int32.ofNat j))])
  refine GlW.st (fun _ kk => XS.iloadN X1.here hx rfl (hb hby d9_6) rfl kk) ?_
  show GlW Z consts_1 p e below s _ _ _ T1 (mkF m 7 #[.val (.ref x), .val (.int (Int32.ofNat j)), .val (.int (Int32.ofNat ee)), .val (.int (Int32.ofNat cs.length)), .unset] [(.int (Int32.ofNat ee)), (.int (Int32.ofNat j))])
  refine GlW.st (fun _ kk => XS.iloadN X1.here hx rfl (hb hby d9_7) rfl kk) ?_
  show GlW Z consts_1 p e below s _ _ _ T1 (mkF m 8 #[.val (.ref x), .val (.int (Int32.ofNat j)), .val (.int (Int32.ofNat ee)), .val (.int (Int32.ofNat cs.length)), .unset] [(.int (Int32.ofNat cs.length)), (.int (Int32.ofNat ee)), (.int (Int32.ofNat j))])
  obtain ⟨v2, _, ⟨T2, L2, kQ2, nQ2⟩, -, X2, ⟨Lc2, hQ2, l2, y2, z2⟩, st2⟩ := Jvm.LawKit.callS X1 hx (y := (⟨"java/lang/String", "checkBoundsBeginEnd", "(III)V"⟩ : MethodName)) hown (mvT hZ (hw _ (List.mem_of_getElem? (i := 51) rfl))) (mvT hZ (hw _ (List.mem_of_getElem? (i := 52) rfl))) (mvT hZ (hw _ (List.mem_of_getElem? (i := 8) rfl))) (mvT hZ (hw _ (List.mem_of_getElem? (i := 53) rfl))) (by decide) (backOf (W := 0) (rmCB l Z a0 hw [] (Int32.ofNat j) (Int32.ofNat ee) (Int32.ofNat cs.length) fm h0 n0 O0 S_SI rG (own_ofNat_nneg hjb) (by rw [own_ofNat_lt heb hjb]; omega) (by rw [own_ofNat_lt hlb heb]; omega)) hZ (hw _ (List.mem_of_getElem? (i := 53) rfl)) (hw _ (List.mem_of_getElem? (i := 8) rfl)) (by decide) (by decide)) (g := (mkF m 8 #[.val (.ref x), .val (.int (Int32.ofNat j)), .val (.int (Int32.ofNat ee)), .val (.int (Int32.ofNat cs.length)), .unset] [(.int (Int32.ofNat cs.length)), (.int (Int32.ofNat ee)), (.int (Int32.ofNat j))])) rfl (by rw [hml]; rfl) (argsL := [(.int (Int32.ofNat j)), (.int (Int32.ofNat ee)), (.int (Int32.ofNat cs.length))]) (rest := []) (lenOf pd_rmSE_1 rfl) rfl (by show 2 * 0 + _ ≤ _; exact Nat.le_of_eq rfl) (hb hby d9_8) (fun _ _ => ⟨rfl, e1, (by decide : 0 + 0 ≤ _), (by decide : 0 + 0 ≤ _)⟩)
  dsimp only [Pt.U, Pt.locs, Pt.cells, Pt.slots] at X2 l2 y2 z2 st2 hQ2
  subst y2 z2
  obtain ⟨rfl, Nq2, e2⟩ := hQ2
  have N2 : Fr n0 L2 := l2 ▸ Fr.app N1 Nq2
  refine GlW.st st2 ?_
  clear st2
  clear N1 X1 e1
  show GlW Z consts_1 p e below s _ _ _ T2 (mkF m 11 #[.val (.ref x), .val (.int (Int32.ofNat j)), .val (.int (Int32.ofNat ee)), .val (.int (Int32.ofNat cs.length)), .unset] [])
  refine GlW.st (fun _ kk => XS.iloadN X2.here hx rfl (hb hby d9_11) rfl kk) ?_
  show GlW Z consts_1 p e below s _ _ _ T2 (mkF m 12 #[.val (.ref x), .val (.int (Int32.ofNat j)), .val (.int (Int32.ofNat ee)), .val (.int (Int32.ofNat cs.length)), .unset] [(.int (Int32.ofNat j))])
  by_cases hc12 : (Int32.ofNat j) = (0 : Int32)
  · skip
    refine GlW.st (fun _ kk => XS.ifNo X2.here hx rfl (hb hby d9_12) rfl ((if0 _ _).trans (teq hc12).2) kk) ?_
    show GlW Z consts_1 p e below s _ _ _ T2 (mkF m 15 #[.val (.ref x), .val (.int (Int32.ofNat j)), .val (.int (Int32.ofNat ee)), .val (.int (Int32.ofNat cs.length)), .unset] [])
    refine GlW.st (fun _ kk => XS.iloadN X2.here hx rfl (hb hby d9_15) rfl kk) ?_
    show GlW Z consts_1 p e below s _ _ _ T2 (mkF m 16 #[.val (.ref x), .val (.int (Int32.ofNat j)), .val (.int (Int32.ofNat ee)), .val (.int (Int32.ofNat cs.length)), .unset] [(.int (Int32.ofNat ee))])
    refine GlW.st (fun _ kk => XS.iloadN X2.here hx rfl (hb hby d9_16) rfl kk) ?_
    show GlW Z consts_1 p e below s _ _ _ T2 (mkF m 17 #[.val (.ref x), .val (.int (Int32.ofNat j)), .val (.int (Int32.ofNat ee)), .val (.int (Int32.ofNat cs.length)), .unset] [(.int (Int32.ofNat cs.length)), (.int (Int32.ofNat ee))])
    refine GlW.st (fun _ kk => XS.icmpNo X2.here hx rfl (hb hby d9_17) rfl (teq (by rw [hel])).2 kk) ?_
    show GlW Z consts_1 p e below s _ _ _ T2 (mkF m 20 #[.val (.ref x), .val (.int (Int32.ofNat j)), .val (.int (Int32.ofNat ee)), .val (.int (Int32.ofNat cs.length)), .unset] [])
    refine GlW.st (fun _ kk => XS.aloadN X2.here hx rfl (hb hby d9_20) rfl rfl kk) ?_
    show GlW Z consts_1 p e below s _ _ _ T2 (mkF m 21 #[.val (.ref x), .val (.int (Int32.ofNat j)), .val (.int (Int32.ofNat ee)), .val (.int (Int32.ofNat cs.length)), .unset] [(.ref x)])
    have hcn : cs = [] := List.eq_nil_of_length_eq_zero (by have := own_ofNat_zero hjb hc12; omega)
    have Arv_s : Arv Z h0 t k .byte 0 [] (.int 0) := by
      have q := Arv_t; rw [hcn] at q; exact q
    exact GlW.ret X2 hS0 hk0 hZ hEL hh0 HC0 (v := (some (.ref x))) (fun h => by rw [Bd.returns] at h; cases h) (BodyLoose.notSynchronized Bd) (fun hr => retOut X2 hx Bd.returns rfl (Or.inr (Or.inr (Or.inr (Or.inr ⟨rfl, rfl, rfl⟩)))) (hb hby d9_21) hr) e2 ⟨x, t, k, rfl, N2, (Keep.refl h0 []), Exa_x, F_value_x, F_coder_x, Arv_s⟩ (by decide) (by decide)
  · skip
    refine GlW.st (fun _ kk => XS.ifYes X2.here hx rfl (pc0 := 12) (pc' := 22) rfl (hb hby d9_12) rfl ((if0 _ _).trans (feq hc12).2) (by decide) (by decide) kk) ?_
    show GlW Z consts_1 p e below s _ _ _ T2 (mkF m 22 #[.val (.ref x), .val (.int (Int32.ofNat j)), .val (.int (Int32.ofNat ee)), .val (.int (Int32.ofNat cs.length)), .unset] [])
    refine GlW.st (fun _ kk => XS.iloadN X2.here hx rfl (hb hby d9_22) rfl kk) ?_
    show GlW Z consts_1 p e below s _ _ _ T2 (mkF m 23 #[.val (.ref x), .val (.int (Int32.ofNat j)), .val (.int (Int32.ofNat ee)), .val (.int (Int32.ofNat cs.length)), .unset] [(.int (Int32.ofNat ee))])
    refine GlW.st (fun _ kk => XS.iloadN X2.here hx rfl (hb hby d9_23) rfl kk) ?_
    show GlW Z consts_1 p e below s _ _ _ T2 (mkF m 24 #[.val (.ref x), .val (.int (Int32.ofNat j)), .val (.int (Int32.ofNat ee)), .val (.int (Int32.ofNat cs.length)), .unset] [(.int (Int32.ofNat j)), (.int (Int32.ofNat ee))])
    refine GlW.st (fun _ kk => XS.isub X2.here hx rfl (hb hby d9_24) rfl kk) ?_
    show GlW Z consts_1 p e below s _ _ _ T2 (mkF m 25 #[.val (.ref x), .val (.int (Int32.ofNat j)), .val (.int (Int32.ofNat ee)), .val (.int (Int32.ofNat cs.length)), .unset] [(.int ((Int32.ofNat ee) - (Int32.ofNat j)))])
    rw [show (Int32.ofNat ee - Int32.ofNat j : Int32) = (0 : Int32) from by rw [own_ofNat_sub (by omega), show ee - j = 0 by omega]; rfl]
    show GlW Z consts_1 p e below s _ _ _ T2 (mkF m 25 #[.val (.ref x), .val (.int (Int32.ofNat j)), .val (.int (Int32.ofNat ee)), .val (.int (Int32.ofNat cs.length)), .unset] [(.int (0 : Int32))])
    refine GlW.st (fun _ kk => XS.istore X2.here hx rfl (hb hby d9_25) rfl (l' := #[.val (.ref x), .val (.int (Int32.ofNat j)), .val (.int (Int32.ofNat ee)), .val (.int (Int32.ofNat cs.length)), .val (.int (0 : Int32))]) rfl kk) ?_
    show GlW Z consts_1 p e below s _ _ _ T2 (mkF m 27 #[.val (.ref x), .val (.int (Int32.ofNat j)), .val (.int (Int32.ofNat ee)), .val (.int (Int32.ofNat cs.length)), .val (.int (0 : Int32))] [])
    refine GlW.st (fun _ kk => XS.aloadN X2.here hx rfl (hb hby d9_27) rfl rfl kk) ?_
    show GlW Z consts_1 p e below s _ _ _ T2 (mkF m 28 #[.val (.ref x), .val (.int (Int32.ofNat j)), .val (.int (Int32.ofNat ee)), .val (.int (Int32.ofNat cs.length)), .val (.int (0 : Int32))] [(.ref x)])
    obtain ⟨cq3, kq3, qa3, qb3, qc3⟩ := isOf (s := s.setVm s.vm) hZ e2 Exa_x
    obtain ⟨v3, _, ⟨T3, L3, kQ3, nQ3⟩, -, X3, ⟨Lc3, hQ3, l3, y3, z3⟩, st3⟩ := X2.virtualBack hx (y := (⟨"java/lang/String", "isLatin1", "()Z"⟩ : MethodName)) (z := (⟨"java/lang/String", "isLatin1", "()Z"⟩ : MethodName)) hown (mvT hZ (hw _ (List.mem_of_getElem? (i := 81) rfl))) (mvT hZ (hw _ (List.mem_of_getElem? (i := 82) rfl))) (notFace_of_selects (args := #[]) (mvT hZ (hw _ (List.mem_of_getElem? (i := 84) rfl)))) (mvT hZ (hw _ (List.mem_of_getElem? (i := 84) rfl))) (mvT hZ (hw _ (List.mem_of_getElem? (i := 83) rfl))) (by decide) (backOf (W := 0) (rmIL l Z a0 hw [] x cz h0 n0 O0 F_coder_x S_COMPACT hcz) hZ (hw _ (List.mem_of_getElem? (i := 85) rfl)) (hw _ (List.mem_of_getElem? (i := 8) rfl)) (by decide) (by decide)) qa3 qc3 (g := (mkF m 28 #[.val (.ref x), .val (.int (Int32.ofNat j)), .val (.int (Int32.ofNat ee)), .val (.int (Int32.ofNat cs.length)), .val (.int (0 : Int32))] [(.ref x)])) rfl (by rw [hml]; rfl) (Steps.refl _) (argsL := []) (rest := []) (lenOf pd_rmSE_2 rfl) rfl (by show 2 * 0 + _ ≤ _; exact Nat.le_of_eq rfl) (hb hby d9_28) (fun _ _ => ⟨rfl, e2, (by decide : 0 + 0 ≤ _), (by decide : 0 + 0 ≤ _)⟩)
    dsimp only [Pt.U, Pt.locs, Pt.cells, Pt.slots] at X3 l3 y3 z3 st3 hQ3
    subst y3 z3
    obtain ⟨rfl, Nq3, e3⟩ := hQ3
    have N3 : Fr n0 L3 := l3 ▸ Fr.app N2 Nq3
    refine GlW.st (fun _ kk => st3.trans kk) ?_
    clear st3 qc3 qb3 qa3 kq3 cq3
    clear N2 X2 e2
    show GlW Z consts_1 p e below s _ _ _ T3 (mkF m 31 #[.val (.ref x), .val (.int (Int32.ofNat j)), .val (.int (Int32.ofNat ee)), .val (.int (Int32.ofNat cs.length)), .val (.int (0 : Int32))] [(.int (1 : Int32))])
    refine GlW.st (fun _ kk => XS.ifNo X3.here hx rfl (hb hby d9_31) rfl ((if0 _ _).trans (feq (by decide : ¬ ((1 : Int32) = (0 : Int32)))).1) kk) ?_
    show GlW Z consts_1 p e below s _ _ _ T3 (mkF m 34 #[.val (.ref x), .val (.int (Int32.ofNat j)), .val (.int (Int32.ofNat ee)), .val (.int (Int32.ofNat cs.length)), .val (.int (0 : Int32))] [])
    refine GlW.st (fun _ kk => XS.aloadN X3.here hx rfl (hb hby d9_34) rfl rfl kk) ?_
    show GlW Z consts_1 p e below s _ _ _ T3 (mkF m 35 #[.val (.ref x), .val (.int (Int32.ofNat j)), .val (.int (Int32.ofNat ee)), .val (.int (Int32.ofNat cs.length)), .val (.int (0 : Int32))] [(.ref x)])
    obtain ⟨T4, X4, e4, st4⟩ := getF X3 hx hZ hown (host := "") (Or.inl (hw _ (List.mem_of_getElem? (i := 28) rfl))) Via.refl e3 F_value_x (g := (mkF m 35 #[.val (.ref x), .val (.int (Int32.ofNat j)), .val (.int (Int32.ofNat ee)), .val (.int (Int32.ofNat cs.length)), .val (.int (0 : Int32))] [(.ref x)])) rfl rfl (hb hby d9_35)
    refine GlW.st st4 ?_
    show GlW Z consts_1 p e below s _ _ _ T4 (mkF m 38 #[.val (.ref x), .val (.int (Int32.ofNat j)), .val (.int (Int32.ofNat ee)), .val (.int (Int32.ofNat cs.length)), .val (.int (0 : Int32))] [(.ref t)])
    refine GlW.st (fun _ kk => XS.iloadN X4.here hx rfl (hb hby d9_38) rfl kk) ?_
    show GlW Z consts_1 p e below s _ _ _ T4 (mkF m 39 #[.val (.ref x), .val (.int (Int32.ofNat j)), .val (.int (Int32.ofNat ee)), .val (.int (Int32.ofNat cs.length)), .val (.int (0 : Int32))] [(.int (Int32.ofNat j)), (.ref t)])
    refine GlW.st (fun _ kk => XS.iload X4.here hx rfl (hb hby d9_39) rfl kk) ?_
    show GlW Z consts_1 p e below s _ _ _ T4 (mkF m 41 #[.val (.ref x), .val (.int (Int32.ofNat j)), .val (.int (Int32.ofNat ee)), .val (.int (Int32.ofNat cs.length)), .val (.int (0 : Int32))] [(.int (0 : Int32)), (.int (Int32.ofNat j)), (.ref t)])
    obtain ⟨v5, _, ⟨T5, L5, kQ5, nQ5⟩, -, X5, hSq5, hgq5, ⟨Lc5, hQ5, l5, y5, z5, HR5⟩, st5⟩ := callSS X4 hx (y := (⟨"java/lang/StringLatin1", "newString", "([BII)Ljava/lang/String;"⟩ : MethodName)) hown (mvT hZ (hw _ (List.mem_of_getElem? (i := 96) rfl))) (mvT hZ (hw _ (List.mem_of_getElem? (i := 97) rfl))) (mvT hZ (hw _ (List.mem_of_getElem? (i := 88) rfl))) (mvT hZ (hw _ (List.mem_of_getElem? (i := 98) rfl))) (by decide) (backOfSH (W := 0) (rmNE l Z a0 hw [] t (Int32.ofNat j) h0 n0 O0) hZ (hw _ (List.mem_of_getElem? (i := 98) rfl)) (hw _ (List.mem_of_getElem? (i := 88) rfl)) (by decide) (by decide) hEL HC0.1) (g := (mkF m 41 #[.val (.ref x), .val (.int (Int32.ofNat j)), .val (.int (Int32.ofNat ee)), .val (.int (Int32.ofNat cs.length)), .val (.int (0 : Int32))] [(.int (0 : Int32)), (.int (Int32.ofNat j)), (.ref t)])) rfl (by rw [hml]; rfl) (argsL := [(.ref t), (.int (Int32.ofNat j)), (.int (0 : Int32))]) (rest := []) (lenOf pd_rmSE_3 rfl) rfl (by show 2 * 0 + _ ≤ _; exact Nat.le_of_eq rfl) (hb hby d9_41) (fun _ _ => ⟨rfl, e4, (by decide : 0 + 2 ≤ _), (by decide : 0 + 4 ≤ _)⟩)
    dsimp only [Pt.U, Pt.locs, Pt.cells, Pt.slots] at X5 l5 y5 z5 st5 hQ5 hSq5 hgq5 HR5
    subst y5 z5
    obtain ⟨h5, e5⟩ : ∃ z, T5.heap = z := ⟨_, rfl⟩
    rw [e5] at hQ5 HR5 hSq5 hgq5
    obtain ⟨r5, tt5, kt5, rfl, Nq5, Kq5, Exa_r5, F_value_r5, F_coder_r5, Arv_tt5⟩ := hQ5
    rw [e4] at hgq5
    have hS5 := (hS0).trans hSq5 (Nat.le_trans hk0 hgq5)
    have hk5 := Nat.le_refl h5.size
    have hZ5 : Z.Warmed39 T5.vm := State.Warmed39.trans (t := s.setVm s.vm) hZ hSq5.1
    have hown5 : T5.vm.findClass "java/lang/String" = some m.cls := by rw [hSq5.1.alike.findClass]; exact hown
    have HC5 := HC0.trans HR5
    have hZ := hZ5
    have hown := hown5
    have N5 : Fr n0 L5 := l5 ▸ Fr.app N3 Nq5
    refine GlW.st (fun _ kk => st5.trans kk) ?_
    replace Exa_x := Exa_x.keep Kq5
    replace F_value_x := F_value_x.keep Kq5 nin0
    replace F_coder_x := F_coder_x.keep Kq5 nin0
    replace Arv_t := Arv_t.keep Kq5 nin0
    have O5 := O0.keep Kq5 all0
    have K5 := (Keep.refl h0 []).trans Kq5 all0
    clear st5 HR5
    clear N3 X4 e4
    show GlW Z consts_1 p e below s _ _ _ T5 (mkF m 44 #[.val (.ref x), .val (.int (Int32.ofNat j)), .val (.int (Int32.ofNat ee)), .val (.int (Int32.ofNat cs.length)), .val (.int (0 : Int32))] [(.ref r5)])
    refine GlW.st (fun _ kk => XS.goto X5.here hx rfl (pc0 := 44) (pc' := 57) rfl (hb hby d9_44) (by decide) (by decide) kk) ?_
    show GlW Z consts_1 p e below s _ _ _ T5 (mkF m 57 #[.val (.ref x), .val (.int (Int32.ofNat j)), .val (.int (Int32.ofNat ee)), .val (.int (Int32.ofNat cs.length)), .val (.int (0 : Int32))] [(.ref r5)])
    exact GlW.ret X5 hS5 hk5 hZ hEL hh0 HC5 (v := (some (.ref r5))) (fun h => by rw [Bd.returns] at h; cases h) (BodyLoose.notSynchronized Bd) (fun hr => retOut X5 hx Bd.returns rfl (Or.inr (Or.inr (Or.inr (Or.inr ⟨rfl, rfl, rfl⟩)))) (hb hby d9_57) hr) e5 ⟨r5, tt5, kt5, rfl, N5, K5, Exa_r5, F_value_r5, F_coder_r5, Arv_tt5⟩ (by decide) (by decide)
theorem d6_0 : decode prog_14_method_5_code 0 = .ok (.iconst 0, 1) := by decide +kernel
theorem d6_1 : decode prog_14_method_5_code 1 = .ok (.istore_n 1, 1) := by decide +kernel
theorem d6_2 : decode prog_14_method_5_code 2 = .ok (.aload_n 0, 1) := by decide +kernel
theorem d6_3 : decode prog_14_method_5_code 3 = .ok (.invokevirtual 90, 3) := by decide +kernel
theorem d6_6 : decode prog_14_method_5_code 6 = .ok (.istore_n 2, 1) := by decide +kernel
theorem d6_7 : decode prog_14_method_5_code 7 = .ok (.iload_n 1, 1) := by decide +kernel
theorem d6_8 : decode prog_14_method_5_code 8 = .ok (.iload_n 2, 1) := by decide +kernel
theorem d6_9 : decode prog_14_method_5_code 9 = .ok (.if_icmp .ge 29, 3) := by decide +kernel
theorem d6_12 : decode prog_14_method_5_code 12 = .ok (.aload_n 0, 1) := by decide +kernel
theorem d6_13 : decode prog_14_method_5_code 13 = .ok (.iload_n 1, 1) := by decide +kernel
theorem d6_14 : decode prog_14_method_5_code 14 = .ok (.invokevirtual 94, 3) := by decide +kernel
theorem d6_17 : decode prog_14_method_5_code 17 = .ok (.bipush 32, 2) := by decide +kernel
theorem d6_19 : decode prog_14_method_5_code 19 = .ok (.if_icmp .eq 13, 3) := by decide +kernel
theorem d6_22 : decode prog_14_method_5_code 22 = .ok (.aload_n 0, 1) := by decide +kernel
theorem d6_23 : decode prog_14_method_5_code 23 = .ok (.iload_n 1, 1) := by decide +kernel
theorem d6_24 : decode prog_14_method_5_code 24 = .ok (.invokevirtual 94, 3) := by decide +kernel
theorem d6_27 : decode prog_14_method_5_code 27 = .ok (.bipush 9, 2) := by decide +kernel
theorem d6_29 : decode prog_14_method_5_code 29 = .ok (.if_icmp .ne 9, 3) := by decide +kernel
theorem d6_32 : decode prog_14_method_5_code 32 = .ok (.iinc 1 1, 3) := by decide +kernel
theorem d6_35 : decode prog_14_method_5_code 35 = .ok (.goto (-28), 3) := by decide +kernel
theorem d6_38 : decode prog_14_method_5_code 38 = .ok (.iload_n 2, 1) := by decide +kernel
theorem d6_39 : decode prog_14_method_5_code 39 = .ok (.iload_n 1, 1) := by decide +kernel
theorem d6_40 : decode prog_14_method_5_code 40 = .ok (.if_icmp .le 33, 3) := by decide +kernel
theorem d6_43 : decode prog_14_method_5_code 43 = .ok (.aload_n 0, 1) := by decide +kernel
theorem d6_44 : decode prog_14_method_5_code 44 = .ok (.iload_n 2, 1) := by decide +kernel
theorem d6_45 : decode prog_14_method_5_code 45 = .ok (.iconst 1, 1) := by decide +kernel
theorem d6_46 : decode prog_14_method_5_code 46 = .ok (.isub, 1) := by decide +kernel
theorem d6_47 : decode prog_14_method_5_code 47 = .ok (.invokevirtual 94, 3) := by decide +kernel
theorem d6_50 : decode prog_14_method_5_code 50 = .ok (.bipush 32, 2) := by decide +kernel
theorem d6_52 : decode prog_14_method_5_code 52 = .ok (.if_icmp .eq 15, 3) := by decide +kernel
theorem d6_55 : decode prog_14_method_5_code 55 = .ok (.aload_n 0, 1) := by decide +kernel
theorem d6_56 : decode prog_14_method_5_code 56 = .ok (.iload_n 2, 1) := by decide +kernel
theorem d6_57 : decode prog_14_method_5_code 57 = .ok (.iconst 1, 1) := by decide +kernel
theorem d6_58 : decode prog_14_method_5_code 58 = .ok (.isub, 1) := by decide +kernel
theorem d6_59 : decode prog_14_method_5_code 59 = .ok (.invokevirtual 94, 3) := by decide +kernel
theorem d6_62 : decode prog_14_method_5_code 62 = .ok (.bipush 9, 2) := by decide +kernel
theorem d6_64 : decode prog_14_method_5_code 64 = .ok (.if_icmp .ne 9, 3) := by decide +kernel
theorem d6_67 : decode prog_14_method_5_code 67 = .ok (.iinc 2 (-1), 3) := by decide +kernel
theorem d6_70 : decode prog_14_method_5_code 70 = .ok (.goto (-32), 3) := by decide +kernel
theorem d6_73 : decode prog_14_method_5_code 73 = .ok (.aload_n 0, 1) := by decide +kernel
theorem d6_74 : decode prog_14_method_5_code 74 = .ok (.iload_n 1, 1) := by decide +kernel
theorem d6_75 : decode prog_14_method_5_code 75 = .ok (.iload_n 2, 1) := by decide +kernel
theorem d6_76 : decode prog_14_method_5_code 76 = .ok (.invokevirtual 98, 3) := by decide +kernel
theorem d6_79 : decode prog_14_method_5_code 79 = .ok (.areturn, 1) := by decide +kernel
theorem pd_rmTW_0 : parseMethodDescriptor "()I" = some ⟨[], some .int⟩ := by decide +kernel
theorem pd_rmTW_1 : parseMethodDescriptor "(I)C" = some ⟨[.int], some .char⟩ := by decide +kernel
theorem pd_rmTW_2 : parseMethodDescriptor "(II)Ljava/lang/String;" = some ⟨[.int, .int], some (.object "java/lang/String")⟩ := by decide +kernel
theorem pn_rmTW : plainName "com/example/concurrency_quota/concurrencyquota/ServiceRequest" = true := by first | (simp [plainName, overriddenIn]; done) | decide +kernel
theorem ef_rmTW (m : MethodId) (x : Addr) : entryFrame m #[(.ref x)] 3 = mkF m 0 #[.val (.ref x), .unset, .unset] [] := by first | (simp [entryFrame, mkF, argsToLocals, Value.category]; done) | rfl
def Q_rmTW (Z : State) (x : Addr) (t : Addr) (k : ClassId) (cs : List Int32) (fm : Value) (cz : Int32) (h0 : Heap) (n0 : Nat) (v : Option Value) (h : Heap) (L : List Loc) : Prop := ∃ (r t2 : Addr) (k2 : ClassId) (j ee : Nat), v = some (.ref r) ∧ Fr n0 L ∧ Keep h0 h [] ∧ Exa Z h r "java/lang/String" ∧ Fld Z h r "java/lang/String" "value" "[B" (.ref t2) ∧ Fld Z h r "java/lang/String" "coder" "B" (.int 0) ∧ Arv Z h t2 k2 .byte (Int32.ofNat (ee - j)) (own_sl cs j (ee - j)) (.int 0) ∧ own_trim cs j ee
set_option maxRecDepth 65536 in
set_option maxHeartbeats 40000000 in
theorem rmTW (l : Launch) (Z : State) (a0 : Array Value) (hw : ∀ d ∈ tables_1, d.before a0 Z = true) (ws : List Jvm.Cond) (x : Addr) (t : Addr) (k : ClassId) (cs : List Int32) (fm : Value) (cz : Int32) (h0 : Heap) (n0 : Nat) (O0 : Old Z n0 h0) (Exa_x : Exa Z h0 x "java/lang/String") (F_value_x : Fld Z h0 x "java/lang/String" "value" "[B" (.ref t)) (F_coder_x : Fld Z h0 x "java/lang/String" "coder" "B" (.int 0)) (Arv_t : Arv Z h0 t k .byte (Int32.ofNat cs.length) ((cs.map StrChars.lo8).map Value.int) (.int 0)) (hp : ∀ c ∈ cs, ¬ c < 0 ∧ ¬ (255 : Int32) < c) (hl4 : cs.length ≤ 4) (S_COMPACT : Sta Z Z.heap "java/lang/String" "COMPACT_STRINGS" "Z" (.int cz)) (hcz : ¬ cz = 0) (S_SI : Sta Z Z.heap "jdk/internal/util/Preconditions" "SIOOBE_FORMATTER" "Ljava/util/function/BiFunction;" fm) (rG : fm.isRef = true) :
    MetFree l (⟨"com/example/concurrency_quota/concurrencyquota/ServiceRequest", "trimWhitespace", "(Ljava/lang/String;)Ljava/lang/String;"⟩ : MethodName) (head1 (Jvm.Cond.code (⟨"com/example/concurrency_quota/concurrencyquota/ServiceRequest", "trimWhitespace", "(Ljava/lang/String;)Ljava/lang/String;"⟩ : MethodName) prog_14_method_5_code 3 (some (.object "java/lang/String")) :: ws) ({ frames := 5, cells := 2, slots := 8, locals := 80 } : Room)) (fun a U => a = #[(.ref x)] ∧ Z.Warmed39 U.vm ∧ U.heap = h0 ∧ CHv Z consts_1 U.vm h0) (fun _ _ _ _ _ => True) (fun _ U o U' => ∃ v L, o = .returned v ∧ Q_rmTW Z x t k cs fm cz h0 n0 v U'.heap L ∧ CHr Z consts_1 U.vm U.heap U'.vm U'.heap ∧ ReturnedEndW U o U' L ({ frames := 5, cells := 2, slots := 8, locals := 80 } : Room).cells ({ frames := 5, cells := 2, slots := 8, locals := 80 } : Room).slots) := by
  refine MetFree.of_bodySF (plainFor_of_name pn_rmTW) hisR ?_
  intro p e s m args below meth c s₁ Bd hml0 hP hK
  obtain ⟨rfl, hZ, hh, H0⟩ := hP
  have hx := Bd.exec
  have hby := Bd.bytes
  have hml : c.maxLocals = 3 := hml0
  have hown : s.vm.findClass "com/example/concurrency_quota/concurrencyquota/ServiceRequest" = some m.cls := findClass_of_methodNamed Bd.named
  have hnm := (name_of_methodNamed Bd.named Bd.method).1
  have X0 : Stand p l e ({ frames := 5, cells := 2, slots := 8, locals := 80 } : Room) (s.setVm s.vm) m #[(.ref x)] below meth c s₁ [] 0 0 := Stand.of_body Bd
  have e0 : s₁.heap = h0 := by rw [← hh, Bd.state]; rfl
  have N0 := Fr.nil n0
  have hS0 : s.Since s.vm 0 := (State.WarmedH.refl s).since 0
  have hk0 : 0 ≤ h0.size := Nat.zero_le _
  have HC0 : CHr Z consts_1 s.vm h0 s.vm h0 := CHr.refl H0
  have hh0 : s.heap = h0 := hh
  refine GlW.start (Q := Q_rmTW Z x t k cs fm cz h0 n0) (ef_rmTW m x) ?_
  have hEL := own_EW hw
  have hwS : ∀ a ∈ Bundle.stringAtoms, a.before a0 Z = true := fun d hd => hw d ((by decide +kernel : ∀ d ∈ Bundle.stringAtoms, d ∈ tables_1) d hd)
  have hcd := StrChars.Road.codOf (cs := cs) rfl (fun c hc => (hp c hc).2)
  have hbd := own_up hp
  have hwln : ∀ d ∈ StrChars.Road.wordsLen, d.before a0 Z = true := fun d hd => hw d ((by decide +kernel : ∀ d ∈ StrChars.Road.wordsLen, d ∈ tables_1) d hd)
  have hwch : ∀ d ∈ StrChars.Road.wordsChN, d.before a0 Z = true := fun d hd => hw d ((by decide +kernel : ∀ d ∈ StrChars.Road.wordsChN, d ∈ tables_1) d hd)
  have hl4k : cs.length ≤ 4000 := by omega
  have hlb : cs.length < 2 ^ 31 := by omega
  show GlW Z consts_1 p e below s _ _ _ s₁ (mkF m 0 #[.val (.ref x), .unset, .unset] [])
  refine GlW.st (fun _ kk => XS.iconst X0.here hx rfl (hb hby d6_0) kk) ?_
  show GlW Z consts_1 p e below s _ _ _ s₁ (mkF m 1 #[.val (.ref x), .unset, .unset] [(.int (0 : Int32))])
  refine GlW.st (fun _ kk => XS.istoreN X0.here hx rfl (hb hby d6_1) rfl (l' := #[.val (.ref x), .val (.int (0 : Int32)), .unset]) rfl kk) ?_
  show GlW Z consts_1 p e below s _ _ _ s₁ (mkF m 2 #[.val (.ref x), .val (.int (0 : Int32)), .unset] [])
  refine GlW.st (fun _ kk => XS.aloadN X0.here hx rfl (hb hby d6_2) rfl rfl kk) ?_
  show GlW Z consts_1 p e below s _ _ _ s₁ (mkF m 3 #[.val (.ref x), .val (.int (0 : Int32)), .unset] [(.ref x)])
  obtain ⟨cq1, kq1, qa1, qb1, qc1⟩ := isOf (s := s.setVm s.vm) hZ e0 Exa_x
  obtain ⟨v1, _, ⟨T1, L1, kQ1, nQ1⟩, -, X1, ⟨Lc1, hQ1, l1, y1, z1⟩, st1⟩ := X0.virtualBack hx (y := (⟨"java/lang/String", "length", "()I"⟩ : MethodName)) (z := (⟨"java/lang/String", "length", "()I"⟩ : MethodName)) hown (mvT hZ (hw _ (List.mem_of_getElem? (i := 34) rfl))) (mvT hZ (hw _ (List.mem_of_getElem? (i := 35) rfl))) (notFace_of_selects (args := #[]) (mvT hZ (hw _ (List.mem_of_getElem? (i := 37) rfl)))) (mvT hZ (hw _ (List.mem_of_getElem? (i := 37) rfl))) (mvT hZ (hw _ (List.mem_of_getElem? (i := 36) rfl))) (by decide) (StrChars.Road.lenW (W := 0) (s := (s.setVm s.vm)) hZ hwln (kI := 4) (hw _ (List.mem_of_getElem? (i := 7) rfl)) (cs := cs) Exa_x F_value_x F_coder_x Arv_t hcd hbd (S_COMPACT.ext O0.2) hcz hl4k (by decide) (by decide)) qa1 qc1 (g := (mkF m 3 #[.val (.ref x), .val (.int (0 : Int32)), .unset] [(.ref x)])) rfl (by rw [hml]; rfl) (Steps.refl _) (argsL := []) (rest := []) (lenOf pd_rmTW_0 rfl) rfl (by show 2 * 0 + _ ≤ _; exact Nat.le_of_eq rfl) (hb hby d6_3) (fun _ _ => ⟨rfl, e0, (by decide : 0 + 0 ≤ _), (by decide : 0 + 0 ≤ _)⟩)
  dsimp only [Pt.U, Pt.locs, Pt.cells, Pt.slots] at X1 l1 y1 z1 st1 hQ1
  subst y1 z1
  obtain ⟨hv1, hl1, e1⟩ := hQ1
  obtain rfl : v1 = some (.int (Int32.ofNat cs.length)) := hv1
  subst hl1
  have Nq1 := Fr.nil n0
  have N1 : Fr n0 L1 := l1 ▸ Fr.app N0 Nq1
  refine GlW.st (fun _ kk => st1.trans kk) ?_
  clear st1 qc1 qb1 qa1 kq1 cq1
  show GlW Z consts_1 p e below s _ _ _ T1 (mkF m 6 #[.val (.ref x), .val (.int (0 : Int32)), .unset] [(.int (Int32.ofNat cs.length))])
  refine GlW.st (fun _ kk => XS.istoreN X1.here hx rfl (hb hby d6_6) rfl (l' := #[.val (.ref x), .val (.int (0 : Int32)), .val (.int (Int32.ofNat cs.length))]) rfl kk) ?_
  show GlW Z consts_1 p e below s _ _ _ T1 (mkF m 7 #[.val (.ref x), .val (.int (0 : Int32)), .val (.int (Int32.ofNat cs.length))] [])
  have loop7 : ∀ (kM : Nat) (j : Nat) (hj : j ≤ cs.length) (hq : ∀ i, i < j → own_ws (cs.getD i 0)) (hM2 : cs.length - j = kM) (T2 : State) (L2 : List Loc), Stand p l e ({ frames := 5, cells := 2, slots := 8, locals := 80 } : Room) (s.setVm s.vm) m #[(.ref x)] below meth c T2 L2 0 0 → T2.heap = h0 → Fr n0 L2 → GlW Z consts_1 p e below s ({ frames := 5, cells := 2, slots := 8, locals := 80 } : Room).cells ({ frames := 5, cells := 2, slots := 8, locals := 80 } : Room).slots (Q_rmTW Z x t k cs fm cz h0 n0) T2 (mkF m 7 #[.val (.ref x), .val (.int (Int32.ofNat j)), .val (.int (Int32.ofNat cs.length))] []) := by
    intro kM
    refine Nat.strongRecOn kM ?_
    clear kM
    intro kM ihM j hj hq hM2 T2 L2 X2 e2 N2
    show GlW Z consts_1 p e below s _ _ _ T2 (mkF m 7 #[.val (.ref x), .val (.int (Int32.ofNat j)), .val (.int (Int32.ofNat cs.length))] [])
    refine GlW.st (fun _ kk => XS.iloadN X2.here hx rfl (hb hby d6_7) rfl kk) ?_
    show GlW Z consts_1 p e below s _ _ _ T2 (mkF m 8 #[.val (.ref x), .val (.int (Int32.ofNat j)), .val (.int (Int32.ofNat cs.length))] [(.int (Int32.ofNat j))])
    refine GlW.st (fun _ kk => XS.iloadN X2.here hx rfl (hb hby d6_8) rfl kk) ?_
    show GlW Z consts_1 p e below s _ _ _ T2 (mkF m 9 #[.val (.ref x), .val (.int (Int32.ofNat j)), .val (.int (Int32.ofNat cs.length))] [(.int (Int32.ofNat cs.length)), (.int (Int32.ofNat j))])
    by_cases hc9 : (Int32.ofNat j) < (Int32.ofNat cs.length)
    · skip
      refine GlW.st (fun _ kk => XS.icmpNo X2.here hx rfl (hb hby d6_9) rfl (tlt hc9).2.1 kk) ?_
      show GlW Z consts_1 p e below s _ _ _ T2 (mkF m 12 #[.val (.ref x), .val (.int (Int32.ofNat j)), .val (.int (Int32.ofNat cs.length))] [])
      have hjb : j < 2 ^ 31 := by omega
      have hlt : j < cs.length := (own_ofNat_lt hjb hlb).mp hc9
      refine GlW.st (fun _ kk => XS.aloadN X2.here hx rfl (hb hby d6_12) rfl rfl kk) ?_
      show GlW Z consts_1 p e below s _ _ _ T2 (mkF m 13 #[.val (.ref x), .val (.int (Int32.ofNat j)), .val (.int (Int32.ofNat cs.length))] [(.ref x)])
      refine GlW.st (fun _ kk => XS.iloadN X2.here hx rfl (hb hby d6_13) rfl kk) ?_
      show GlW Z consts_1 p e below s _ _ _ T2 (mkF m 14 #[.val (.ref x), .val (.int (Int32.ofNat j)), .val (.int (Int32.ofNat cs.length))] [(.int (Int32.ofNat j)), (.ref x)])
      obtain ⟨cq3, kq3, qa3, qb3, qc3⟩ := isOf (s := s.setVm s.vm) hZ e2 Exa_x
      obtain ⟨v3, _, ⟨T3, L3, kQ3, nQ3⟩, -, X3, ⟨Lc3, hQ3, l3, y3, z3⟩, st3⟩ := X2.virtualBack hx (y := (⟨"java/lang/String", "charAt", "(I)C"⟩ : MethodName)) (z := (⟨"java/lang/String", "charAt", "(I)C"⟩ : MethodName)) hown (mvT hZ (hw _ (List.mem_of_getElem? (i := 76) rfl))) (mvT hZ (hw _ (List.mem_of_getElem? (i := 77) rfl))) (notFace_of_selects (args := #[]) (mvT hZ (hw _ (List.mem_of_getElem? (i := 79) rfl)))) (mvT hZ (hw _ (List.mem_of_getElem? (i := 79) rfl))) (mvT hZ (hw _ (List.mem_of_getElem? (i := 78) rfl))) (by decide) (StrChars.Road.chN (W := 0) (s := (s.setVm s.vm)) hZ hwch (kI := 4) (hw _ (List.mem_of_getElem? (i := 7) rfl)) (cs := cs) Exa_x F_value_x F_coder_x Arv_t hcd hbd (S_COMPACT.ext O0.2) hcz (S_SI.ext O0.2) rG hl4k (i := j) hlt (j := (Int32.ofNat j)) rfl (by decide) (by decide)) qa3 qc3 (g := (mkF m 14 #[.val (.ref x), .val (.int (Int32.ofNat j)), .val (.int (Int32.ofNat cs.length))] [(.int (Int32.ofNat j)), (.ref x)])) rfl (by rw [hml]; rfl) (Steps.refl _) (argsL := [(.int (Int32.ofNat j))]) (rest := []) (lenOf pd_rmTW_1 rfl) rfl (by show 2 * 0 + _ ≤ _; exact Nat.le_of_eq rfl) (hb hby d6_14) (fun _ _ => ⟨rfl, e2, (by decide : 0 + 0 ≤ _), (by decide : 0 + 0 ≤ _)⟩)
      dsimp only [Pt.U, Pt.locs, Pt.cells, Pt.slots] at X3 l3 y3 z3 st3 hQ3
      subst y3 z3
      obtain ⟨hv3, hl3, e3⟩ := hQ3
      subst hv3 hl3
      have Nq3 := Fr.nil n0
      have N3 : Fr n0 L3 := l3 ▸ Fr.app N2 Nq3
      refine GlW.st (fun _ kk => st3.trans kk) ?_
      clear st3 qc3 qb3 qa3 kq3 cq3
      clear N2 X2 e2
      show GlW Z consts_1 p e below s _ _ _ T3 (mkF m 17 #[.val (.ref x), .val (.int (Int32.ofNat j)), .val (.int (Int32.ofNat cs.length))] [(.int (cs.getD j 0))])
      refine GlW.st (fun _ kk => XS.bipush X3.here hx rfl (hb hby d6_17) kk) ?_
      show GlW Z consts_1 p e below s _ _ _ T3 (mkF m 19 #[.val (.ref x), .val (.int (Int32.ofNat j)), .val (.int (Int32.ofNat cs.length))] [(.int (32 : Int32)), (.int (cs.getD j 0))])
      by_cases hc19 : (cs.getD j 0) = (32 : Int32)
      · skip
        refine GlW.st (fun _ kk => XS.icmpYes X3.here hx rfl (pc0 := 19) (pc' := 32) rfl (hb hby d6_19) rfl (teq hc19).1 (by decide) (by decide) kk) ?_
        show GlW Z consts_1 p e below s _ _ _ T3 (mkF m 32 #[.val (.ref x), .val (.int (Int32.ofNat j)), .val (.int (Int32.ofNat cs.length))] [])
        have hw0 : own_ws (cs.getD j 0) := Or.inl hc19
        have hj' : j + 1 ≤ cs.length := hlt
        have hq' : ∀ i, i < j + 1 → own_ws (cs.getD i 0) := by
          intro i hi
          by_cases hij : i = j
          · rw [hij]; exact hw0
          · exact hq i (by omega)
        have hless : cs.length - (j + 1) < kM := by omega
        refine GlW.st (fun _ kk => XS.iinc X3.here hx rfl (hb hby d6_32) rfl (l' := #[.val (.ref x), .val (.int ((Int32.ofNat j) + (1 : Int32))), .val (.int (Int32.ofNat cs.length))]) rfl kk) ?_
        show GlW Z consts_1 p e below s _ _ _ T3 (mkF m 35 #[.val (.ref x), .val (.int ((Int32.ofNat j) + (1 : Int32))), .val (.int (Int32.ofNat cs.length))] [])
        rw [own_ofNat_succ]
        show GlW Z consts_1 p e below s _ _ _ T3 (mkF m 35 #[.val (.ref x), .val (.int (Int32.ofNat (j + 1))), .val (.int (Int32.ofNat cs.length))] [])
        refine GlW.st (fun _ kk => XS.goto X3.here hx rfl (pc0 := 35) (pc' := 7) rfl (hb hby d6_35) (by decide) (by decide) kk) ?_
        show GlW Z consts_1 p e below s _ _ _ T3 (mkF m 7 #[.val (.ref x), .val (.int (Int32.ofNat (j + 1))), .val (.int (Int32.ofNat cs.length))] [])
        exact ihM _ hless (j + 1) hj' hq' rfl _ _ X3 e3 N3
      · skip
        refine GlW.st (fun _ kk => XS.icmpNo X3.here hx rfl (hb hby d6_19) rfl (feq hc19).1 kk) ?_
        show GlW Z consts_1 p e below s _ _ _ T3 (mkF m 22 #[.val (.ref x), .val (.int (Int32.ofNat j)), .val (.int (Int32.ofNat cs.length))] [])
        refine GlW.st (fun _ kk => XS.aloadN X3.here hx rfl (hb hby d6_22) rfl rfl kk) ?_
        show GlW Z consts_1 p e below s _ _ _ T3 (mkF m 23 #[.val (.ref x), .val (.int (Int32.ofNat j)), .val (.int (Int32.ofNat cs.length))] [(.ref x)])
        refine GlW.st (fun _ kk => XS.iloadN X3.here hx rfl (hb hby d6_23) rfl kk) ?_
        show GlW Z consts_1 p e below s _ _ _ T3 (mkF m 24 #[.val (.ref x), .val (.int (Int32.ofNat j)), .val (.int (Int32.ofNat cs.length))] [(.int (Int32.ofNat j)), (.ref x)])
        obtain ⟨cq4, kq4, qa4, qb4, qc4⟩ := isOf (s := s.setVm s.vm) hZ e3 Exa_x
        obtain ⟨v4, _, ⟨T4, L4, kQ4, nQ4⟩, -, X4, ⟨Lc4, hQ4, l4, y4, z4⟩, st4⟩ := X3.virtualBack hx (y := (⟨"java/lang/String", "charAt", "(I)C"⟩ : MethodName)) (z := (⟨"java/lang/String", "charAt", "(I)C"⟩ : MethodName)) hown (mvT hZ (hw _ (List.mem_of_getElem? (i := 76) rfl))) (mvT hZ (hw _ (List.mem_of_getElem? (i := 77) rfl))) (notFace_of_selects (args := #[]) (mvT hZ (hw _ (List.mem_of_getElem? (i := 79) rfl)))) (mvT hZ (hw _ (List.mem_of_getElem? (i := 79) rfl))) (mvT hZ (hw _ (List.mem_of_getElem? (i := 78) rfl))) (by decide) (StrChars.Road.chN (W := 0) (s := (s.setVm s.vm)) hZ hwch (kI := 4) (hw _ (List.mem_of_getElem? (i := 7) rfl)) (cs := cs) Exa_x F_value_x F_coder_x Arv_t hcd hbd (S_COMPACT.ext O0.2) hcz (S_SI.ext O0.2) rG hl4k (i := j) hlt (j := (Int32.ofNat j)) rfl (by decide) (by decide)) qa4 qc4 (g := (mkF m 24 #[.val (.ref x), .val (.int (Int32.ofNat j)), .val (.int (Int32.ofNat cs.length))] [(.int (Int32.ofNat j)), (.ref x)])) rfl (by rw [hml]; rfl) (Steps.refl _) (argsL := [(.int (Int32.ofNat j))]) (rest := []) (lenOf pd_rmTW_1 rfl) rfl (by show 2 * 0 + _ ≤ _; exact Nat.le_of_eq rfl) (hb hby d6_24) (fun _ _ => ⟨rfl, e3, (by decide : 0 + 0 ≤ _), (by decide : 0 + 0 ≤ _)⟩)
        dsimp only [Pt.U, Pt.locs, Pt.cells, Pt.slots] at X4 l4 y4 z4 st4 hQ4
        subst y4 z4
        obtain ⟨hv4, hl4, e4⟩ := hQ4
        subst hv4 hl4
        have Nq4 := Fr.nil n0
        have N4 : Fr n0 L4 := l4 ▸ Fr.app N3 Nq4
        refine GlW.st (fun _ kk => st4.trans kk) ?_
        clear st4 qc4 qb4 qa4 kq4 cq4
        clear N3 X3 e3
        show GlW Z consts_1 p e below s _ _ _ T4 (mkF m 27 #[.val (.ref x), .val (.int (Int32.ofNat j)), .val (.int (Int32.ofNat cs.length))] [(.int (cs.getD j 0))])
        refine GlW.st (fun _ kk => XS.bipush X4.here hx rfl (hb hby d6_27) kk) ?_
        show GlW Z consts_1 p e below s _ _ _ T4 (mkF m 29 #[.val (.ref x), .val (.int (Int32.ofNat j)), .val (.int (Int32.ofNat cs.length))] [(.int (9 : Int32)), (.int (cs.getD j 0))])
        by_cases hc29 : (cs.getD j 0) = (9 : Int32)
        · skip
          refine GlW.st (fun _ kk => XS.icmpNo X4.here hx rfl (hb hby d6_29) rfl (teq hc29).2 kk) ?_
          show GlW Z consts_1 p e below s _ _ _ T4 (mkF m 32 #[.val (.ref x), .val (.int (Int32.ofNat j)), .val (.int (Int32.ofNat cs.length))] [])
          have hw0 : own_ws (cs.getD j 0) := Or.inr hc29
          have hj' : j + 1 ≤ cs.length := hlt
          have hq' : ∀ i, i < j + 1 → own_ws (cs.getD i 0) := by
            intro i hi
            by_cases hij : i = j
            · rw [hij]; exact hw0
            · exact hq i (by omega)
          have hless : cs.length - (j + 1) < kM := by omega
          refine GlW.st (fun _ kk => XS.iinc X4.here hx rfl (hb hby d6_32) rfl (l' := #[.val (.ref x), .val (.int ((Int32.ofNat j) + (1 : Int32))), .val (.int (Int32.ofNat cs.length))]) rfl kk) ?_
          show GlW Z consts_1 p e below s _ _ _ T4 (mkF m 35 #[.val (.ref x), .val (.int ((Int32.ofNat j) + (1 : Int32))), .val (.int (Int32.ofNat cs.length))] [])
          rw [own_ofNat_succ]
          show GlW Z consts_1 p e below s _ _ _ T4 (mkF m 35 #[.val (.ref x), .val (.int (Int32.ofNat (j + 1))), .val (.int (Int32.ofNat cs.length))] [])
          refine GlW.st (fun _ kk => XS.goto X4.here hx rfl (pc0 := 35) (pc' := 7) rfl (hb hby d6_35) (by decide) (by decide) kk) ?_
          show GlW Z consts_1 p e below s _ _ _ T4 (mkF m 7 #[.val (.ref x), .val (.int (Int32.ofNat (j + 1))), .val (.int (Int32.ofNat cs.length))] [])
          exact ihM _ hless (j + 1) hj' hq' rfl _ _ X4 e4 N4
        · skip
          refine GlW.st (fun _ kk => XS.icmpYes X4.here hx rfl (pc0 := 29) (pc' := 38) rfl (hb hby d6_29) rfl (feq hc29).2 (by decide) (by decide) kk) ?_
          show GlW Z consts_1 p e below s _ _ _ T4 (mkF m 38 #[.val (.ref x), .val (.int (Int32.ofNat j)), .val (.int (Int32.ofNat cs.length))] [])
          have hsol : ¬ own_ws (cs.getD j 0) := fun q => q.elim hc19 hc29
          have loop38 : ∀ (kM : Nat) (ee : Nat) (heJ : j < ee) (heL : ee ≤ cs.length) (hr : ∀ i, ee ≤ i → i < cs.length → own_ws (cs.getD i 0)) (hM5 : ee = kM) (T5 : State) (L5 : List Loc), Stand p l e ({ frames := 5, cells := 2, slots := 8, locals := 80 } : Room) (s.setVm s.vm) m #[(.ref x)] below meth c T5 L5 0 0 → T5.heap = h0 → Fr n0 L5 → GlW Z consts_1 p e below s ({ frames := 5, cells := 2, slots := 8, locals := 80 } : Room).cells ({ frames := 5, cells := 2, slots := 8, locals := 80 } : Room).slots (Q_rmTW Z x t k cs fm cz h0 n0) T5 (mkF m 38 #[.val (.ref x), .val (.int (Int32.ofNat j)), .val (.int (Int32.ofNat ee))] []) := by
            intro kM
            refine Nat.strongRecOn kM ?_
            clear kM
            intro kM ihM ee heJ heL hr hM5 T5 L5 X5 e5 N5
            show GlW Z consts_1 p e below s _ _ _ T5 (mkF m 38 #[.val (.ref x), .val (.int (Int32.ofNat j)), .val (.int (Int32.ofNat ee))] [])
            refine GlW.st (fun _ kk => XS.iloadN X5.here hx rfl (hb hby d6_38) rfl kk) ?_
            show GlW Z consts_1 p e below s _ _ _ T5 (mkF m 39 #[.val (.ref x), .val (.int (Int32.ofNat j)), .val (.int (Int32.ofNat ee))] [(.int (Int32.ofNat ee))])
            refine GlW.st (fun _ kk => XS.iloadN X5.here hx rfl (hb hby d6_39) rfl kk) ?_
            show GlW Z consts_1 p e below s _ _ _ T5 (mkF m 40 #[.val (.ref x), .val (.int (Int32.ofNat j)), .val (.int (Int32.ofNat ee))] [(.int (Int32.ofNat j)), (.int (Int32.ofNat ee))])
            refine GlW.st (fun _ kk => XS.icmpNo X5.here hx rfl (hb hby d6_40) rfl (tlt ((own_ofNat_lt hjb (by omega)).mpr heJ)).2.2.2 kk) ?_
            show GlW Z consts_1 p e below s _ _ _ T5 (mkF m 43 #[.val (.ref x), .val (.int (Int32.ofNat j)), .val (.int (Int32.ofNat ee))] [])
            refine GlW.st (fun _ kk => XS.aloadN X5.here hx rfl (hb hby d6_43) rfl rfl kk) ?_
            show GlW Z consts_1 p e below s _ _ _ T5 (mkF m 44 #[.val (.ref x), .val (.int (Int32.ofNat j)), .val (.int (Int32.ofNat ee))] [(.ref x)])
            refine GlW.st (fun _ kk => XS.iloadN X5.here hx rfl (hb hby d6_44) rfl kk) ?_
            show GlW Z consts_1 p e below s _ _ _ T5 (mkF m 45 #[.val (.ref x), .val (.int (Int32.ofNat j)), .val (.int (Int32.ofNat ee))] [(.int (Int32.ofNat ee)), (.ref x)])
            refine GlW.st (fun _ kk => XS.iconst X5.here hx rfl (hb hby d6_45) kk) ?_
            show GlW Z consts_1 p e below s _ _ _ T5 (mkF m 46 #[.val (.ref x), .val (.int (Int32.ofNat j)), .val (.int (Int32.ofNat ee))] [(.int (1 : Int32)), (.int (Int32.ofNat ee)), (.ref x)])
            refine GlW.st (fun _ kk => XS.isub X5.here hx rfl (hb hby d6_46) rfl kk) ?_
            show GlW Z consts_1 p e below s _ _ _ T5 (mkF m 47 #[.val (.ref x), .val (.int (Int32.ofNat j)), .val (.int (Int32.ofNat ee))] [(.int ((Int32.ofNat ee) - (1 : Int32))), (.ref x)])
            rw [own_ofNat_pred (by omega)]
            show GlW Z consts_1 p e below s _ _ _ T5 (mkF m 47 #[.val (.ref x), .val (.int (Int32.ofNat j)), .val (.int (Int32.ofNat ee))] [(.int (Int32.ofNat (ee - 1))), (.ref x)])
            obtain ⟨cq6, kq6, qa6, qb6, qc6⟩ := isOf (s := s.setVm s.vm) hZ e5 Exa_x
            obtain ⟨v6, _, ⟨T6, L6, kQ6, nQ6⟩, -, X6, ⟨Lc6, hQ6, l6, y6, z6⟩, st6⟩ := X5.virtualBack hx (y := (⟨"java/lang/String", "charAt", "(I)C"⟩ : MethodName)) (z := (⟨"java/lang/String", "charAt", "(I)C"⟩ : MethodName)) hown (mvT hZ (hw _ (List.mem_of_getElem? (i := 76) rfl))) (mvT hZ (hw _ (List.mem_of_getElem? (i := 77) rfl))) (notFace_of_selects (args := #[]) (mvT hZ (hw _ (List.mem_of_getElem? (i := 79) rfl)))) (mvT hZ (hw _ (List.mem_of_getElem? (i := 79) rfl))) (mvT hZ (hw _ (List.mem_of_getElem? (i := 78) rfl))) (by decide) (StrChars.Road.chN (W := 0) (s := (s.setVm s.vm)) hZ hwch (kI := 4) (hw _ (List.mem_of_getElem? (i := 7) rfl)) (cs := cs) Exa_x F_value_x F_coder_x Arv_t hcd hbd (S_COMPACT.ext O0.2) hcz (S_SI.ext O0.2) rG hl4k (i := (ee - 1)) (by omega) (j := (Int32.ofNat (ee - 1))) rfl (by decide) (by decide)) qa6 qc6 (g := (mkF m 47 #[.val (.ref x), .val (.int (Int32.ofNat j)), .val (.int (Int32.ofNat ee))] [(.int (Int32.ofNat (ee - 1))), (.ref x)])) rfl (by rw [hml]; rfl) (Steps.refl _) (argsL := [(.int (Int32.ofNat (ee - 1)))]) (rest := []) (lenOf pd_rmTW_1 rfl) rfl (by show 2 * 0 + _ ≤ _; exact Nat.le_of_eq rfl) (hb hby d6_47) (fun _ _ => ⟨rfl, e5, (by decide : 0 + 0 ≤ _), (by decide : 0 + 0 ≤ _)⟩)
            dsimp only [Pt.U, Pt.locs, Pt.cells, Pt.slots] at X6 l6 y6 z6 st6 hQ6
            subst y6 z6
            obtain ⟨hv6, hl6, e6⟩ := hQ6
            subst hv6 hl6
            have Nq6 := Fr.nil n0
            have N6 : Fr n0 L6 := l6 ▸ Fr.app N5 Nq6
            refine GlW.st (fun _ kk => st6.trans kk) ?_
            clear st6 qc6 qb6 qa6 kq6 cq6
            clear N5 X5 e5
            show GlW Z consts_1 p e below s _ _ _ T6 (mkF m 50 #[.val (.ref x), .val (.int (Int32.ofNat j)), .val (.int (Int32.ofNat ee))] [(.int (cs.getD (ee - 1) 0))])
            refine GlW.st (fun _ kk => XS.bipush X6.here hx rfl (hb hby d6_50) kk) ?_
            show GlW Z consts_1 p e below s _ _ _ T6 (mkF m 52 #[.val (.ref x), .val (.int (Int32.ofNat j)), .val (.int (Int32.ofNat ee))] [(.int (32 : Int32)), (.int (cs.getD (ee - 1) 0))])
            by_cases hc52 : (cs.getD (ee - 1) 0) = (32 : Int32)
            · skip
              refine GlW.st (fun _ kk => XS.icmpYes X6.here hx rfl (pc0 := 52) (pc' := 67) rfl (hb hby d6_52) rfl (teq hc52).1 (by decide) (by decide) kk) ?_
              show GlW Z consts_1 p e below s _ _ _ T6 (mkF m 67 #[.val (.ref x), .val (.int (Int32.ofNat j)), .val (.int (Int32.ofNat ee))] [])
              have hw1 : own_ws (cs.getD (ee - 1) 0) := Or.inl hc52
              have hjn : j ≠ ee - 1 := fun q => hsol (q ▸ hw1)
              have heJ' : j < ee - 1 := by omega
              have heL' : ee - 1 ≤ cs.length := by omega
              have hr' : ∀ i, ee - 1 ≤ i → i < cs.length → own_ws (cs.getD i 0) := by
                intro i h1 h2
                by_cases hij : i = ee - 1
                · rw [hij]; exact hw1
                · exact hr i (by omega) h2
              have hless : ee - 1 < kM := by omega
              refine GlW.st (fun _ kk => XS.iinc X6.here hx rfl (hb hby d6_67) rfl (l' := #[.val (.ref x), .val (.int (Int32.ofNat j)), .val (.int ((Int32.ofNat ee) + (-1 : Int32)))]) rfl kk) ?_
              show GlW Z consts_1 p e below s _ _ _ T6 (mkF m 70 #[.val (.ref x), .val (.int (Int32.ofNat j)), .val (.int ((Int32.ofNat ee) + (-1 : Int32)))] [])
              rw [own_ofNat_pred' (by omega)]
              show GlW Z consts_1 p e below s _ _ _ T6 (mkF m 70 #[.val (.ref x), .val (.int (Int32.ofNat j)), .val (.int (Int32.ofNat (ee - 1)))] [])
              refine GlW.st (fun _ kk => XS.goto X6.here hx rfl (pc0 := 70) (pc' := 38) rfl (hb hby d6_70) (by decide) (by decide) kk) ?_
              show GlW Z consts_1 p e below s _ _ _ T6 (mkF m 38 #[.val (.ref x), .val (.int (Int32.ofNat j)), .val (.int (Int32.ofNat (ee - 1)))] [])
              exact ihM _ hless (ee - 1) heJ' heL' hr' rfl _ _ X6 e6 N6
            · skip
              refine GlW.st (fun _ kk => XS.icmpNo X6.here hx rfl (hb hby d6_52) rfl (feq hc52).1 kk) ?_
              show GlW Z consts_1 p e below s _ _ _ T6 (mkF m 55 #[.val (.ref x), .val (.int (Int32.ofNat j)), .val (.int (Int32.ofNat ee))] [])
              refine GlW.st (fun _ kk => XS.aloadN X6.here hx rfl (hb hby d6_55) rfl rfl kk) ?_
              show GlW Z consts_1 p e below s _ _ _ T6 (mkF m 56 #[.val (.ref x), .val (.int (Int32.ofNat j)), .val (.int (Int32.ofNat ee))] [(.ref x)])
              refine GlW.st (fun _ kk => XS.iloadN X6.here hx rfl (hb hby d6_56) rfl kk) ?_
              show GlW Z consts_1 p e below s _ _ _ T6 (mkF m 57 #[.val (.ref x), .val (.int (Int32.ofNat j)), .val (.int (Int32.ofNat ee))] [(.int (Int32.ofNat ee)), (.ref x)])
              refine GlW.st (fun _ kk => XS.iconst X6.here hx rfl (hb hby d6_57) kk) ?_
              show GlW Z consts_1 p e below s _ _ _ T6 (mkF m 58 #[.val (.ref x), .val (.int (Int32.ofNat j)), .val (.int (Int32.ofNat ee))] [(.int (1 : Int32)), (.int (Int32.ofNat ee)), (.ref x)])
              refine GlW.st (fun _ kk => XS.isub X6.here hx rfl (hb hby d6_58) rfl kk) ?_
              show GlW Z consts_1 p e below s _ _ _ T6 (mkF m 59 #[.val (.ref x), .val (.int (Int32.ofNat j)), .val (.int (Int32.ofNat ee))] [(.int ((Int32.ofNat ee) - (1 : Int32))), (.ref x)])
              rw [own_ofNat_pred (by omega)]
              show GlW Z consts_1 p e below s _ _ _ T6 (mkF m 59 #[.val (.ref x), .val (.int (Int32.ofNat j)), .val (.int (Int32.ofNat ee))] [(.int (Int32.ofNat (ee - 1))), (.ref x)])
              obtain ⟨cq7, kq7, qa7, qb7, qc7⟩ := isOf (s := s.setVm s.vm) hZ e6 Exa_x
              obtain ⟨v7, _, ⟨T7, L7, kQ7, nQ7⟩, -, X7, ⟨Lc7, hQ7, l7, y7, z7⟩, st7⟩ := X6.virtualBack hx (y := (⟨"java/lang/String", "charAt", "(I)C"⟩ : MethodName)) (z := (⟨"java/lang/String", "charAt", "(I)C"⟩ : MethodName)) hown (mvT hZ (hw _ (List.mem_of_getElem? (i := 76) rfl))) (mvT hZ (hw _ (List.mem_of_getElem? (i := 77) rfl))) (notFace_of_selects (args := #[]) (mvT hZ (hw _ (List.mem_of_getElem? (i := 79) rfl)))) (mvT hZ (hw _ (List.mem_of_getElem? (i := 79) rfl))) (mvT hZ (hw _ (List.mem_of_getElem? (i := 78) rfl))) (by decide) (StrChars.Road.chN (W := 0) (s := (s.setVm s.vm)) hZ hwch (kI := 4) (hw _ (List.mem_of_getElem? (i := 7) rfl)) (cs := cs) Exa_x F_value_x F_coder_x Arv_t hcd hbd (S_COMPACT.ext O0.2) hcz (S_SI.ext O0.2) rG hl4k (i := (ee - 1)) (by omega) (j := (Int32.ofNat (ee - 1))) rfl (by decide) (by decide)) qa7 qc7 (g := (mkF m 59 #[.val (.ref x), .val (.int (Int32.ofNat j)), .val (.int (Int32.ofNat ee))] [(.int (Int32.ofNat (ee - 1))), (.ref x)])) rfl (by rw [hml]; rfl) (Steps.refl _) (argsL := [(.int (Int32.ofNat (ee - 1)))]) (rest := []) (lenOf pd_rmTW_1 rfl) rfl (by show 2 * 0 + _ ≤ _; exact Nat.le_of_eq rfl) (hb hby d6_59) (fun _ _ => ⟨rfl, e6, (by decide : 0 + 0 ≤ _), (by decide : 0 + 0 ≤ _)⟩)
              dsimp only [Pt.U, Pt.locs, Pt.cells, Pt.slots] at X7 l7 y7 z7 st7 hQ7
              subst y7 z7
              obtain ⟨hv7, hl7, e7⟩ := hQ7
              subst hv7 hl7
              have Nq7 := Fr.nil n0
              have N7 : Fr n0 L7 := l7 ▸ Fr.app N6 Nq7
              refine GlW.st (fun _ kk => st7.trans kk) ?_
              clear st7 qc7 qb7 qa7 kq7 cq7
              clear N6 X6 e6
              show GlW Z consts_1 p e below s _ _ _ T7 (mkF m 62 #[.val (.ref x), .val (.int (Int32.ofNat j)), .val (.int (Int32.ofNat ee))] [(.int (cs.getD (ee - 1) 0))])
              refine GlW.st (fun _ kk => XS.bipush X7.here hx rfl (hb hby d6_62) kk) ?_
              show GlW Z consts_1 p e below s _ _ _ T7 (mkF m 64 #[.val (.ref x), .val (.int (Int32.ofNat j)), .val (.int (Int32.ofNat ee))] [(.int (9 : Int32)), (.int (cs.getD (ee - 1) 0))])
              by_cases hc64 : (cs.getD (ee - 1) 0) = (9 : Int32)
              · skip
                refine GlW.st (fun _ kk => XS.icmpNo X7.here hx rfl (hb hby d6_64) rfl (teq hc64).2 kk) ?_
                show GlW Z consts_1 p e below s _ _ _ T7 (mkF m 67 #[.val (.ref x), .val (.int (Int32.ofNat j)), .val (.int (Int32.ofNat ee))] [])
                have hw1 : own_ws (cs.getD (ee - 1) 0) := Or.inr hc64
                have hjn : j ≠ ee - 1 := fun q => hsol (q ▸ hw1)
                have heJ' : j < ee - 1 := by omega
                have heL' : ee - 1 ≤ cs.length := by omega
                have hr' : ∀ i, ee - 1 ≤ i → i < cs.length → own_ws (cs.getD i 0) := by
                  intro i h1 h2
                  by_cases hij : i = ee - 1
                  · rw [hij]; exact hw1
                  · exact hr i (by omega) h2
                have hless : ee - 1 < kM := by omega
                refine GlW.st (fun _ kk => XS.iinc X7.here hx rfl (hb hby d6_67) rfl (l' := #[.val (.ref x), .val (.int (Int32.ofNat j)), .val (.int ((Int32.ofNat ee) + (-1 : Int32)))]) rfl kk) ?_
                show GlW Z consts_1 p e below s _ _ _ T7 (mkF m 70 #[.val (.ref x), .val (.int (Int32.ofNat j)), .val (.int ((Int32.ofNat ee) + (-1 : Int32)))] [])
                rw [own_ofNat_pred' (by omega)]
                show GlW Z consts_1 p e below s _ _ _ T7 (mkF m 70 #[.val (.ref x), .val (.int (Int32.ofNat j)), .val (.int (Int32.ofNat (ee - 1)))] [])
                refine GlW.st (fun _ kk => XS.goto X7.here hx rfl (pc0 := 70) (pc' := 38) rfl (hb hby d6_70) (by decide) (by decide) kk) ?_
                show GlW Z consts_1 p e below s _ _ _ T7 (mkF m 38 #[.val (.ref x), .val (.int (Int32.ofNat j)), .val (.int (Int32.ofNat (ee - 1)))] [])
                exact ihM _ hless (ee - 1) heJ' heL' hr' rfl _ _ X7 e7 N7
              · skip
                refine GlW.st (fun _ kk => XS.icmpYes X7.here hx rfl (pc0 := 64) (pc' := 73) rfl (hb hby d6_64) rfl (feq hc64).2 (by decide) (by decide) kk) ?_
                show GlW Z consts_1 p e below s _ _ _ T7 (mkF m 73 #[.val (.ref x), .val (.int (Int32.ofNat j)), .val (.int (Int32.ofNat ee))] [])
                refine GlW.st (fun _ kk => XS.aloadN X7.here hx rfl (hb hby d6_73) rfl rfl kk) ?_
                show GlW Z consts_1 p e below s _ _ _ T7 (mkF m 74 #[.val (.ref x), .val (.int (Int32.ofNat j)), .val (.int (Int32.ofNat ee))] [(.ref x)])
                refine GlW.st (fun _ kk => XS.iloadN X7.here hx rfl (hb hby d6_74) rfl kk) ?_
                show GlW Z consts_1 p e below s _ _ _ T7 (mkF m 75 #[.val (.ref x), .val (.int (Int32.ofNat j)), .val (.int (Int32.ofNat ee))] [(.int (Int32.ofNat j)), (.ref x)])
                refine GlW.st (fun _ kk => XS.iloadN X7.here hx rfl (hb hby d6_75) rfl kk) ?_
                show GlW Z consts_1 p e below s _ _ _ T7 (mkF m 76 #[.val (.ref x), .val (.int (Int32.ofNat j)), .val (.int (Int32.ofNat ee))] [(.int (Int32.ofNat ee)), (.int (Int32.ofNat j)), (.ref x)])
                obtain ⟨cq8, kq8, qa8, qb8, qc8⟩ := isOf (s := s.setVm s.vm) hZ e7 Exa_x
                obtain ⟨v8, _, ⟨T8, L8, kQ8, nQ8⟩, -, X8, ⟨Lc8, hQ8, l8, y8, z8⟩, st8⟩ := X7.virtualBack hx (y := (⟨"java/lang/String", "substring", "(II)Ljava/lang/String;"⟩ : MethodName)) (z := (⟨"java/lang/String", "substring", "(II)Ljava/lang/String;"⟩ : MethodName)) hown (mvT hZ (hw _ (List.mem_of_getElem? (i := 45) rfl))) (mvT hZ (hw _ (List.mem_of_getElem? (i := 46) rfl))) (notFace_of_selects (args := #[]) (mvT hZ (hw _ (List.mem_of_getElem? (i := 48) rfl)))) (mvT hZ (hw _ (List.mem_of_getElem? (i := 48) rfl))) (mvT hZ (hw _ (List.mem_of_getElem? (i := 47) rfl))) (by decide) (backOf (W := 0) (rmSB l Z a0 hw [] x (Int32.ofNat j) (Int32.ofNat ee) t k cs fm cz j ee h0 n0 O0 rfl rfl Exa_x F_value_x F_coder_x Arv_t hp hl4 heJ heL S_COMPACT hcz S_SI rG) hZ (hw _ (List.mem_of_getElem? (i := 49) rfl)) (hw _ (List.mem_of_getElem? (i := 8) rfl)) (by decide) (by decide)) qa8 qc8 (g := (mkF m 76 #[.val (.ref x), .val (.int (Int32.ofNat j)), .val (.int (Int32.ofNat ee))] [(.int (Int32.ofNat ee)), (.int (Int32.ofNat j)), (.ref x)])) rfl (by rw [hml]; rfl) (Steps.refl _) (argsL := [(.int (Int32.ofNat j)), (.int (Int32.ofNat ee))]) (rest := []) (lenOf pd_rmTW_2 rfl) rfl (by show 2 * 0 + _ ≤ _; exact Nat.le_of_eq rfl) (hb hby d6_76) (fun _ _ => ⟨rfl, e7, (by decide : 0 + 2 ≤ _), (by decide : 0 + 8 ≤ _)⟩)
                dsimp only [Pt.U, Pt.locs, Pt.cells, Pt.slots] at X8 l8 y8 z8 st8 hQ8
                subst y8 z8
                obtain ⟨h8, e8⟩ : ∃ z, T8.heap = z := ⟨_, rfl⟩
                rw [e8] at hQ8
                obtain ⟨r8, tt8, kt8, rfl, Nq8, Kq8, Exa_r8, F_value_r8, F_coder_r8, Arv_tt8⟩ := hQ8
                have N8 : Fr n0 L8 := l8 ▸ Fr.app N7 Nq8
                refine GlW.st (fun _ kk => st8.trans kk) ?_
                have sfk8 : ∀ x ∈ ([] : List Addr), Safe Z consts_1 s.vm h0 x := all0
                have HC8 := HC0.trans (CHr.keep Kq8 sfk8 HC0.1)
                have hk8 := Nat.le_trans hk0 Kq8.1
                replace Exa_x := Exa_x.keep Kq8
                replace F_value_x := F_value_x.keep Kq8 nin0
                replace F_coder_x := F_coder_x.keep Kq8 nin0
                replace Arv_t := Arv_t.keep Kq8 nin0
                have O8 := O0.keep Kq8 all0
                have K8 := (Keep.refl h0 []).trans Kq8 all0
                clear st8 qc8 qb8 qa8 kq8 cq8
                clear N7 X7 e7
                show GlW Z consts_1 p e below s _ _ _ T8 (mkF m 79 #[.val (.ref x), .val (.int (Int32.ofNat j)), .val (.int (Int32.ofNat ee))] [(.ref r8)])
                have hend : ¬ own_ws (cs.getD (ee - 1) 0) := fun q => q.elim hc52 hc64
                have hsp : own_trim cs j ee := ⟨by omega, heL, hq, hr, fun _ => ⟨hsol, hend⟩, fun q => absurd q (by omega)⟩
                exact GlW.ret X8 hS0 hk8 hZ hEL hh0 HC8 (v := (some (.ref r8))) (fun h => by rw [Bd.returns] at h; cases h) (BodyLoose.notSynchronized Bd) (fun hr => retOut X8 hx Bd.returns rfl (Or.inr (Or.inr (Or.inr (Or.inr ⟨rfl, rfl, rfl⟩)))) (hb hby d6_79) hr) e8 ⟨r8, tt8, kt8, j, ee, rfl, N8, K8, Exa_r8, F_value_r8, F_coder_r8, Arv_tt8, hsp⟩ (by decide) (by decide)
          exact loop38 _ cs.length hlt (Nat.le_refl _) (fun i h1 h2 => absurd h2 (Nat.not_lt.mpr h1)) rfl _ _ X4 e4 N4
    · skip
      refine GlW.st (fun _ kk => XS.icmpYes X2.here hx rfl (pc0 := 9) (pc' := 38) rfl (hb hby d6_9) rfl (flt hc9).2.1 (by decide) (by decide) kk) ?_
      show GlW Z consts_1 p e below s _ _ _ T2 (mkF m 38 #[.val (.ref x), .val (.int (Int32.ofNat j)), .val (.int (Int32.ofNat cs.length))] [])
      have hjb : j < 2 ^ 31 := by omega
      have hjl : j = cs.length := by have := mt (own_ofNat_lt hjb hlb).mpr hc9; omega
      refine GlW.st (fun _ kk => XS.iloadN X2.here hx rfl (hb hby d6_38) rfl kk) ?_
      show GlW Z consts_1 p e below s _ _ _ T2 (mkF m 39 #[.val (.ref x), .val (.int (Int32.ofNat j)), .val (.int (Int32.ofNat cs.length))] [(.int (Int32.ofNat cs.length))])
      refine GlW.st (fun _ kk => XS.iloadN X2.here hx rfl (hb hby d6_39) rfl kk) ?_
      show GlW Z consts_1 p e below s _ _ _ T2 (mkF m 40 #[.val (.ref x), .val (.int (Int32.ofNat j)), .val (.int (Int32.ofNat cs.length))] [(.int (Int32.ofNat j)), (.int (Int32.ofNat cs.length))])
      refine GlW.st (fun _ kk => XS.icmpYes X2.here hx rfl (pc0 := 40) (pc' := 73) rfl (hb hby d6_40) rfl (flt hc9).2.2.2 (by decide) (by decide) kk) ?_
      show GlW Z consts_1 p e below s _ _ _ T2 (mkF m 73 #[.val (.ref x), .val (.int (Int32.ofNat j)), .val (.int (Int32.ofNat cs.length))] [])
      refine GlW.st (fun _ kk => XS.aloadN X2.here hx rfl (hb hby d6_73) rfl rfl kk) ?_
      show GlW Z consts_1 p e below s _ _ _ T2 (mkF m 74 #[.val (.ref x), .val (.int (Int32.ofNat j)), .val (.int (Int32.ofNat cs.length))] [(.ref x)])
      refine GlW.st (fun _ kk => XS.iloadN X2.here hx rfl (hb hby d6_74) rfl kk) ?_
      show GlW Z consts_1 p e below s _ _ _ T2 (mkF m 75 #[.val (.ref x), .val (.int (Int32.ofNat j)), .val (.int (Int32.ofNat cs.length))] [(.int (Int32.ofNat j)), (.ref x)])
      refine GlW.st (fun _ kk => XS.iloadN X2.here hx rfl (hb hby d6_75) rfl kk) ?_
      show GlW Z consts_1 p e below s _ _ _ T2 (mkF m 76 #[.val (.ref x), .val (.int (Int32.ofNat j)), .val (.int (Int32.ofNat cs.length))] [(.int (Int32.ofNat cs.length)), (.int (Int32.ofNat j)), (.ref x)])
      obtain ⟨cq9, kq9, qa9, qb9, qc9⟩ := isOf (s := s.setVm s.vm) hZ e2 Exa_x
      obtain ⟨v9, _, ⟨T9, L9, kQ9, nQ9⟩, -, X9, hSq9, hgq9, ⟨Lc9, hQ9, l9, y9, z9, HR9⟩, st9⟩ := X2.virtualBackS hx (y := (⟨"java/lang/String", "substring", "(II)Ljava/lang/String;"⟩ : MethodName)) (z := (⟨"java/lang/String", "substring", "(II)Ljava/lang/String;"⟩ : MethodName)) hown (mvT hZ (hw _ (List.mem_of_getElem? (i := 45) rfl))) (mvT hZ (hw _ (List.mem_of_getElem? (i := 46) rfl))) (notFace_of_selects (args := #[]) (mvT hZ (hw _ (List.mem_of_getElem? (i := 48) rfl)))) (mvT hZ (hw _ (List.mem_of_getElem? (i := 48) rfl))) (mvT hZ (hw _ (List.mem_of_getElem? (i := 47) rfl))) (by decide) (backOfSH (W := 0) (rmSE l Z a0 hw [] x (Int32.ofNat j) (Int32.ofNat cs.length) t k cs fm cz j cs.length h0 n0 O0 rfl rfl Exa_x F_value_x F_coder_x Arv_t hp hl4 hjl rfl S_COMPACT hcz S_SI rG) hZ (hw _ (List.mem_of_getElem? (i := 49) rfl)) (hw _ (List.mem_of_getElem? (i := 8) rfl)) (by decide) (by decide) hEL HC0.1) qa9 qc9 (g := (mkF m 76 #[.val (.ref x), .val (.int (Int32.ofNat j)), .val (.int (Int32.ofNat cs.length))] [(.int (Int32.ofNat cs.length)), (.int (Int32.ofNat j)), (.ref x)])) rfl (by rw [hml]; rfl) (Steps.refl _) (argsL := [(.int (Int32.ofNat j)), (.int (Int32.ofNat cs.length))]) (rest := []) (lenOf pd_rmTW_2 rfl) rfl (by show 2 * 0 + _ ≤ _; exact Nat.le_of_eq rfl) (hb hby d6_76) (fun _ _ => ⟨rfl, e2, (by decide : 0 + 2 ≤ _), (by decide : 0 + 4 ≤ _)⟩)
      dsimp only [Pt.U, Pt.locs, Pt.cells, Pt.slots] at X9 l9 y9 z9 st9 hQ9 hSq9 hgq9 HR9
      subst y9 z9
      obtain ⟨h9, e9⟩ : ∃ z, T9.heap = z := ⟨_, rfl⟩
      rw [e9] at hQ9 HR9 hSq9 hgq9
      obtain ⟨r9, tt9, kt9, rfl, Nq9, Kq9, Exa_r9, F_value_r9, F_coder_r9, Arv_tt9⟩ := hQ9
      rw [e2] at hgq9
      have hS9 := (hS0).trans hSq9 (Nat.le_trans hk0 hgq9)
      have hk9 := Nat.le_refl h9.size
      have hZ9 : Z.Warmed39 T9.vm := State.Warmed39.trans (t := s.setVm s.vm) hZ hSq9.1
      have hown9 : T9.vm.findClass "com/example/concurrency_quota/concurrencyquota/ServiceRequest" = some m.cls := by rw [hSq9.1.alike.findClass]; exact hown
      have HC9 := HC0.trans HR9
      have hZ := hZ9
      have hown := hown9
      have N9 : Fr n0 L9 := l9 ▸ Fr.app N2 Nq9
      refine GlW.st (fun _ kk => st9.trans kk) ?_
      replace Exa_x := Exa_x.keep Kq9
      replace F_value_x := F_value_x.keep Kq9 nin0
      replace F_coder_x := F_coder_x.keep Kq9 nin0
      replace Arv_t := Arv_t.keep Kq9 nin0
      have O9 := O0.keep Kq9 all0
      have K9 := (Keep.refl h0 []).trans Kq9 all0
      clear st9 qc9 qb9 qa9 kq9 cq9 HR9
      clear N2 X2 e2
      show GlW Z consts_1 p e below s _ _ _ T9 (mkF m 79 #[.val (.ref x), .val (.int (Int32.ofNat j)), .val (.int (Int32.ofNat cs.length))] [(.ref r9)])
      have Arv_s : Arv Z h9 tt9 kt9 .byte (Int32.ofNat (j - j)) (own_sl cs j (j - j)) (.int 0) := by
        rw [Nat.sub_self, show own_sl cs j 0 = [] from by simp [own_sl]]; exact Arv_tt9
      have hsp : own_trim cs j j := ⟨Nat.le_refl _, hj, hq, fun i h1 h2 => absurd h2 (by omega), fun q => absurd q (Nat.lt_irrefl _), fun _ => hjl⟩
      exact GlW.ret X9 hS9 hk9 hZ hEL hh0 HC9 (v := (some (.ref r9))) (fun h => by rw [Bd.returns] at h; cases h) (BodyLoose.notSynchronized Bd) (fun hr => retOut X9 hx Bd.returns rfl (Or.inr (Or.inr (Or.inr (Or.inr ⟨rfl, rfl, rfl⟩)))) (hb hby d6_79) hr) e9 ⟨r9, tt9, kt9, j, j, rfl, N9, K9, Exa_r9, F_value_r9, F_coder_r9, Arv_s, hsp⟩ (by decide) (by decide)
  exact loop7 _ 0 (Nat.zero_le _) (fun i hi => absurd hi (Nat.not_lt_zero i)) rfl _ _ X1 e1 N1
theorem d4_0 : decode jdk_42_method_149_code 0 = .ok (.aload_n 0, 1) := by decide +kernel
theorem d4_1 : decode jdk_42_method_149_code 1 = .ok (.invokespecial 1, 3) := by decide +kernel
theorem d4_4 : decode jdk_42_method_149_code 4 = .ok (.iload_n 3, 1) := by decide +kernel
theorem d4_5 : decode jdk_42_method_149_code 5 = .ok (.ifCond .ne 22, 3) := by decide +kernel
theorem d4_8 : decode jdk_42_method_149_code 8 = .ok (.aload_n 0, 1) := by decide +kernel
theorem d4_9 : decode jdk_42_method_149_code 9 = .ok (.ldc 7, 2) := by decide +kernel
theorem d4_11 : decode jdk_42_method_149_code 11 = .ok (.getfield 9, 3) := by decide +kernel
theorem d4_14 : decode jdk_42_method_149_code 14 = .ok (.putfield 9, 3) := by decide +kernel
theorem d4_17 : decode jdk_42_method_149_code 17 = .ok (.aload_n 0, 1) := by decide +kernel
theorem d4_18 : decode jdk_42_method_149_code 18 = .ok (.ldc 7, 2) := by decide +kernel
theorem d4_20 : decode jdk_42_method_149_code 20 = .ok (.getfield 15, 3) := by decide +kernel
theorem d4_23 : decode jdk_42_method_149_code 23 = .ok (.putfield 15, 3) := by decide +kernel
theorem d4_26 : decode jdk_42_method_149_code 26 = .ok (.return_, 1) := by decide +kernel
theorem pn_rmSV0 : plainName "java/lang/String" = true := by first | (simp [plainName, overriddenIn]; done) | decide +kernel
theorem ef_rmSV0 (m : MethodId) (x : Addr) (b : Addr) : entryFrame m #[(.ref x), (.ref b), (.int (0 : Int32)), (.int (0 : Int32)), .null] 6 = mkF m 0 #[.val (.ref x), .val (.ref b), .val (.int (0 : Int32)), .val (.int (0 : Int32)), .val .null, .unset] [] := by first | (simp [entryFrame, mkF, argsToLocals, Value.category]; done) | rfl
def Q_rmSV0 (Z : State) (x : Addr) (b : Addr)  (h0 : Heap) (n0 : Nat) (v : Option Value) (h : Heap) (L : List Loc) : Prop := v = none ∧ Fr n0 L ∧ Keep h0 h [x] ∧ Exa Z h x "java/lang/String" ∧ Fld Z h x "java/lang/String" "coder" "B" (.int 0) ∧ ∃ (t : Addr) (kt : ClassId), Fld Z h x "java/lang/String" "value" "[B" (.ref t) ∧ Arv Z h t kt .byte 0 [] (.int 0)
set_option maxRecDepth 65536 in
set_option maxHeartbeats 40000000 in
theorem rmSV0 (l : Launch) (Z : State) (a0 : Array Value) (hw : ∀ d ∈ tables_1, d.before a0 Z = true) (ws : List Jvm.Cond) (x : Addr) (b : Addr)  (h0 : Heap) (n0 : Nat) (O0 : Old Z n0 h0) (Exa_x : Exa Z h0 x "java/lang/String") (F_value_x : Fld Z h0 x "java/lang/String" "value" "[B" .null) (F_coder_x : Fld Z h0 x "java/lang/String" "coder" "B" (.int 0)) (g1 : n0 ≤ x) :
    MetFree l (⟨"java/lang/String", "<init>", "([CIILjava/lang/Void;)V"⟩ : MethodName) (head1 (Jvm.Cond.code (⟨"java/lang/String", "<init>", "([CIILjava/lang/Void;)V"⟩ : MethodName) jdk_42_method_149_code 6 none :: ws) ({ frames := 1, cells := 4, slots := 8, locals := 12 } : Room)) (fun a U => a = #[(.ref x), (.ref b), (.int (0 : Int32)), (.int (0 : Int32)), .null] ∧ Z.Warmed39 U.vm ∧ U.heap = h0 ∧ CHv Z consts_1 U.vm h0) (fun _ _ _ _ _ => True) (fun _ U o U' => ∃ v L, o = .returned v ∧ Q_rmSV0 Z x b  h0 n0 v U'.heap L ∧ CHr Z consts_1 U.vm U.heap U'.vm U'.heap ∧ ReturnedEndW U o U' L ({ frames := 1, cells := 4, slots := 8, locals := 12 } : Room).cells ({ frames := 1, cells := 4, slots := 8, locals := 12 } : Room).slots) := by
  refine MetFree.of_bodySF (plainFor_of_name pn_rmSV0) hisR ?_
  intro p e s m args below meth c s₁ Bd hml0 hP hK
  obtain ⟨rfl, hZ, hh, H0⟩ := hP
  have hx := Bd.exec
  have hby := Bd.bytes
  have hml : c.maxLocals = 6 := hml0
  have hown : s.vm.findClass "java/lang/String" = some m.cls := findClass_of_methodNamed Bd.named
  have hnm := (name_of_methodNamed Bd.named Bd.method).1
  have X0 : Stand p l e ({ frames := 1, cells := 4, slots := 8, locals := 12 } : Room) (s.setVm s.vm) m #[(.ref x), (.ref b), (.int (0 : Int32)), (.int (0 : Int32)), .null] below meth c s₁ [] 0 0 := Stand.of_body Bd
  have e0 : s₁.heap = h0 := by rw [← hh, Bd.state]; rfl
  have N0 := Fr.nil n0
  have hS0 : s.Since s.vm 0 := (State.WarmedH.refl s).since 0
  have hk0 : 0 ≤ h0.size := Nat.zero_le _
  have HC0 : CHr Z consts_1 s.vm h0 s.vm h0 := CHr.refl H0
  have hh0 : s.heap = h0 := hh
  refine GlW.start (Q := Q_rmSV0 Z x b  h0 n0) (ef_rmSV0 m x b) ?_
  have hEL := own_EW hw
  have hwS : ∀ a ∈ Bundle.stringAtoms, a.before a0 Z = true := fun d hd => hw d ((by decide +kernel : ∀ d ∈ Bundle.stringAtoms, d ∈ tables_1) d hd)
  have Sf_x : Safe Z consts_1 s.vm h0 x := own_safe_blank hZ.alike Exa_x F_value_x
  show GlW Z consts_1 p e below s _ _ _ s₁ (mkF m 0 #[.val (.ref x), .val (.ref b), .val (.int (0 : Int32)), .val (.int (0 : Int32)), .val .null, .unset] [])
  refine GlW.st (fun _ kk => XS.aloadN X0.here hx rfl (hb hby d4_0) rfl rfl kk) ?_
  show GlW Z consts_1 p e below s _ _ _ s₁ (mkF m 1 #[.val (.ref x), .val (.ref b), .val (.int (0 : Int32)), .val (.int (0 : Int32)), .val .null, .unset] [(.ref x)])
  obtain ⟨T1, X1, e1, st1⟩ := initO X0 hx hZ hown (hw _ (List.mem_of_getElem? (i := 19) rfl)) (hw _ (List.mem_of_getElem? (i := 20) rfl)) (hw _ (List.mem_of_getElem? (i := 21) rfl)) e0 (g := (mkF m 1 #[.val (.ref x), .val (.ref b), .val (.int (0 : Int32)), .val (.int (0 : Int32)), .val .null, .unset] [(.ref x)])) rfl (by rw [hml]; rfl) rfl (hb hby d4_1) (by decide) (W := 0) (by show 2 * 0 + _ ≤ _; exact Nat.le_of_eq rfl) (by decide)
  refine GlW.st st1 ?_
  show GlW Z consts_1 p e below s _ _ _ T1 (mkF m 4 #[.val (.ref x), .val (.ref b), .val (.int (0 : Int32)), .val (.int (0 : Int32)), .val .null, .unset] [])
  refine GlW.st (fun _ kk => XS.iloadN X1.here hx rfl (hb hby d4_4) rfl kk) ?_
  show GlW Z consts_1 p e below s _ _ _ T1 (mkF m 5 #[.val (.ref x), .val (.ref b), .val (.int (0 : Int32)), .val (.int (0 : Int32)), .val .null, .unset] [(.int (0 : Int32))])
  refine GlW.st (fun _ kk => XS.ifNo X1.here hx rfl (hb hby d4_5) rfl ((if0 _ _).trans (teq (by decide : (0 : Int32) = (0 : Int32))).2) kk) ?_
  show GlW Z consts_1 p e below s _ _ _ T1 (mkF m 8 #[.val (.ref x), .val (.ref b), .val (.int (0 : Int32)), .val (.int (0 : Int32)), .val .null, .unset] [])
  refine GlW.st (fun _ kk => XS.aloadN X1.here hx rfl (hb hby d4_8) rfl rfl kk) ?_
  show GlW Z consts_1 p e below s _ _ _ T1 (mkF m 9 #[.val (.ref x), .val (.ref b), .val (.int (0 : Int32)), .val (.int (0 : Int32)), .val .null, .unset] [(.ref x)])
  obtain ⟨la2, T2, h2, kn2, lb2, kc2, X2, e2, E2, hS2, hk2, hZ2, hown2, Exa_la2, F_coder_la2, F_value_la2, Arv_lb2, lta2, ltb2, HR2, Li2, sf2, st2⟩ := ldcCH X1 hx hZ hown (hw _ (List.mem_of_getElem? (i := 22) rfl)) hwS e1 hS0 hk0 hEL (List.mem_of_getElem? (i := 0) rfl) HC0.1 (vs := []) (z := 0) ⟨by decide +kernel, by decide +kernel⟩ (by decide) rfl (g := (mkF m 9 #[.val (.ref x), .val (.ref b), .val (.int (0 : Int32)), .val (.int (0 : Int32)), .val .null, .unset] [(.ref x)])) rfl (hb hby d4_9) (n := 0) (by decide) (by decide) (by decide) (by decide)
  refine GlW.st st2 ?_
  replace Sf_x := HR2.safe Exa_x.lt Sf_x
  replace Exa_x := Exa_x.ext E2
  replace F_value_x := F_value_x.ext E2
  replace F_coder_x := F_coder_x.ext E2
  have O2 := O0.ext E2
  have K2 := (Keep.refl h0 [x]).ext E2
  have HC2 := HC0.trans HR2
  have hZ := hZ2
  have hown := hown2
  have ne_x_la2 := (sf2 _ Sf_x).1
  have ne_x_lb2 := (sf2 _ Sf_x).2
  show GlW Z consts_1 p e below s _ _ _ T2 (mkF m 11 #[.val (.ref x), .val (.ref b), .val (.int (0 : Int32)), .val (.int (0 : Int32)), .val .null, .unset] [(.ref la2), (.ref x)])
  obtain ⟨T3, X3, e3, st3⟩ := getF X2 hx hZ hown (host := "") (Or.inl (hw _ (List.mem_of_getElem? (i := 28) rfl))) Via.refl e2 F_value_la2 (g := (mkF m 11 #[.val (.ref x), .val (.ref b), .val (.int (0 : Int32)), .val (.int (0 : Int32)), .val .null, .unset] [(.ref la2), (.ref x)])) rfl rfl (hb hby d4_11)
  refine GlW.st st3 ?_
  show GlW Z consts_1 p e below s _ _ _ T3 (mkF m 14 #[.val (.ref x), .val (.ref b), .val (.int (0 : Int32)), .val (.int (0 : Int32)), .val .null, .unset] [(.ref lb2), (.ref x)])
  obtain ⟨T4, h4, X4, e4, W4, st4⟩ := putF X3 hx hZ hown (host := "") (Or.inl (hw _ (List.mem_of_getElem? (i := 28) rfl))) Via.refl e3 F_value_x Exa_x (Or.inr ⟨(hw _ (List.mem_of_getElem? (i := 24) rfl)), rfl, hnm⟩) (hw _ (List.mem_of_getElem? (i := 7) rfl)) (ty := (.array .byte)) (by decide) rfl rfl (g := (mkF m 14 #[.val (.ref x), .val (.ref b), .val (.int (0 : Int32)), .val (.int (0 : Int32)), .val .null, .unset] [(.ref lb2), (.ref x)])) rfl rfl (hb hby d4_14)
  refine GlW.st st4 ?_
  have F_value_x := F_value_x.same W4
  have sfw4 := Sf_x
  replace Sf_x := Safe.wr W4 sfw4 HC2.1 Sf_x
  have HC4 := HC2.trans (CHr.wr W4 sfw4 HC2.1)
  have hk4 := Nat.le_trans hk2 (Nat.le_of_eq W4.size.symm)
  replace Exa_x := Exa_x.wr W4
  replace F_coder_x := F_coder_x.other W4 (Or.inr (slot_ne (Or.inr (hw _ (List.mem_of_getElem? (i := 25) rfl))) (Or.inr (hw _ (List.mem_of_getElem? (i := 24) rfl))) (by decide) (t := .byte) (t' := (.array .byte)) (by decide) (by decide)))
  replace Exa_la2 := Exa_la2.wr W4
  replace F_coder_la2 := F_coder_la2.other W4 (Or.inl (Ne.symm ne_x_la2))
  replace F_value_la2 := F_value_la2.other W4 (Or.inl (Ne.symm ne_x_la2))
  replace Arv_lb2 := Arv_lb2.other W4 (Ne.symm ne_x_lb2)
  have O4 := O2.wr W4 g1
  have K4 := K2.wr W4 (Or.inl (List.mem_of_getElem? (i := 0) rfl))
  have N4 := Fr.snoc X4 N0 g1
  show GlW Z consts_1 p e below s _ _ _ T4 (mkF m 17 #[.val (.ref x), .val (.ref b), .val (.int (0 : Int32)), .val (.int (0 : Int32)), .val .null, .unset] [])
  refine GlW.st (fun _ kk => XS.aloadN X4.here hx rfl (hb hby d4_17) rfl rfl kk) ?_
  show GlW Z consts_1 p e below s _ _ _ T4 (mkF m 18 #[.val (.ref x), .val (.ref b), .val (.int (0 : Int32)), .val (.int (0 : Int32)), .val .null, .unset] [(.ref x)])
  obtain ⟨la5, T5, h5, kn5, lb5, kc5, X5, e5, E5, hS5, hk5, hZ5, hown5, Exa_la5, F_coder_la5, F_value_la5, Arv_lb5, lta5, ltb5, HR5, Li5, sf5, st5⟩ := ldcCH X4 hx hZ hown (hw _ (List.mem_of_getElem? (i := 22) rfl)) hwS e4 hS2 hk4 hEL (List.mem_of_getElem? (i := 0) rfl) HC4.1 (vs := []) (z := 0) ⟨by decide +kernel, by decide +kernel⟩ (by decide) rfl (g := (mkF m 18 #[.val (.ref x), .val (.ref b), .val (.int (0 : Int32)), .val (.int (0 : Int32)), .val .null, .unset] [(.ref x)])) rfl (hb hby d4_18) (n := 0) (by decide) (by decide) (by decide) (by decide)
  refine GlW.st st5 ?_
  replace Sf_x := HR5.safe Exa_x.lt Sf_x
  replace Exa_x := Exa_x.ext E5
  replace F_value_x := F_value_x.ext E5
  replace F_coder_x := F_coder_x.ext E5
  replace Exa_la2 := Exa_la2.ext E5
  replace F_coder_la2 := F_coder_la2.ext E5
  replace F_value_la2 := F_value_la2.ext E5
  replace Arv_lb2 := Arv_lb2.ext E5
  have O5 := O4.ext E5
  have K5 := K4.ext E5
  have HC5 := HC4.trans HR5
  have hZ := hZ5
  have hown := hown5
  have ne_x_la5 := (sf5 _ Sf_x).1
  have ne_x_lb5 := (sf5 _ Sf_x).2
  show GlW Z consts_1 p e below s _ _ _ T5 (mkF m 20 #[.val (.ref x), .val (.ref b), .val (.int (0 : Int32)), .val (.int (0 : Int32)), .val .null, .unset] [(.ref la5), (.ref x)])
  obtain ⟨T6, X6, e6, st6⟩ := getF X5 hx hZ hown (host := "") (Or.inl (hw _ (List.mem_of_getElem? (i := 29) rfl))) Via.refl e5 F_coder_la5 (g := (mkF m 20 #[.val (.ref x), .val (.ref b), .val (.int (0 : Int32)), .val (.int (0 : Int32)), .val .null, .unset] [(.ref la5), (.ref x)])) rfl rfl (hb hby d4_20)
  refine GlW.st st6 ?_
  show GlW Z consts_1 p e below s _ _ _ T6 (mkF m 23 #[.val (.ref x), .val (.ref b), .val (.int (0 : Int32)), .val (.int (0 : Int32)), .val .null, .unset] [(.int (0 : Int32)), (.ref x)])
  obtain ⟨T7, h7, X7, e7, W7, st7⟩ := putFN X6 hx hZ hown (hw _ (List.mem_of_getElem? (i := 29) rfl)) Via.refl e6 F_coder_x Exa_x (Or.inr ⟨(hw _ (List.mem_of_getElem? (i := 25) rfl)), rfl, hnm⟩) (hw _ (List.mem_of_getElem? (i := 7) rfl)) (ty := .byte) (v' := (.int (0 : Int32))) (by decide) rfl rfl (g := (mkF m 23 #[.val (.ref x), .val (.ref b), .val (.int (0 : Int32)), .val (.int (0 : Int32)), .val .null, .unset] [(.int (0 : Int32)), (.ref x)])) rfl rfl (hb hby d4_23)
  refine GlW.st st7 ?_
  have F_coder_x := F_coder_x.same W7
  have sfw7 := Sf_x
  replace Sf_x := Safe.wr W7 sfw7 HC5.1 Sf_x
  have HC7 := HC5.trans (CHr.wr W7 sfw7 HC5.1)
  have hk7 := Nat.le_trans hk5 (Nat.le_of_eq W7.size.symm)
  replace Exa_x := Exa_x.wr W7
  replace F_value_x := F_value_x.other W7 (Or.inr (slot_ne (Or.inr (hw _ (List.mem_of_getElem? (i := 24) rfl))) (Or.inr (hw _ (List.mem_of_getElem? (i := 25) rfl))) (by decide) (t := (.array .byte)) (t' := .byte) (by decide) (by decide)))
  replace Exa_la2 := Exa_la2.wr W7
  replace F_coder_la2 := F_coder_la2.other W7 (Or.inl (Ne.symm ne_x_la2))
  replace F_value_la2 := F_value_la2.other W7 (Or.inl (Ne.symm ne_x_la2))
  replace Arv_lb2 := Arv_lb2.other W7 (Ne.symm ne_x_lb2)
  replace Exa_la5 := Exa_la5.wr W7
  replace F_coder_la5 := F_coder_la5.other W7 (Or.inl (Ne.symm ne_x_la5))
  replace F_value_la5 := F_value_la5.other W7 (Or.inl (Ne.symm ne_x_la5))
  replace Arv_lb5 := Arv_lb5.other W7 (Ne.symm ne_x_lb5)
  have O7 := O5.wr W7 g1
  have K7 := K5.wr W7 (Or.inl (List.mem_of_getElem? (i := 0) rfl))
  have N7 := Fr.snoc X7 N4 g1
  show GlW Z consts_1 p e below s _ _ _ T7 (mkF m 26 #[.val (.ref x), .val (.ref b), .val (.int (0 : Int32)), .val (.int (0 : Int32)), .val .null, .unset] [])
  exact GlW.ret X7 hS5 hk7 hZ hEL hh0 HC7 (v := none) (fun _ => rfl) (BodyLoose.notSynchronized Bd) (fun hr => X7.returnOut hx Bd.returns (hb hby d4_26) hr) e7 ⟨rfl, N7, K7, Exa_x, F_coder_x, lb2, kc2, F_value_x, Arv_lb2⟩ (by decide) (by decide)
theorem d3_0 : decode jdk_42_method_3_code 0 = .ok (.aload_n 0, 1) := by decide +kernel
theorem d3_1 : decode jdk_42_method_3_code 1 = .ok (.aload_n 1, 1) := by decide +kernel
theorem d3_2 : decode jdk_42_method_3_code 2 = .ok (.iconst 0, 1) := by decide +kernel
theorem d3_3 : decode jdk_42_method_3_code 3 = .ok (.aload_n 1, 1) := by decide +kernel
theorem d3_4 : decode jdk_42_method_3_code 4 = .ok (.arraylength, 1) := by decide +kernel
theorem d3_5 : decode jdk_42_method_3_code 5 = .ok (.aconst_null, 1) := by decide +kernel
theorem d3_6 : decode jdk_42_method_3_code 6 = .ok (.invokespecial 27, 3) := by decide +kernel
theorem d3_9 : decode jdk_42_method_3_code 9 = .ok (.return_, 1) := by decide +kernel
theorem pd_rmS0_0 : parseMethodDescriptor "([CIILjava/lang/Void;)V" = some ⟨[(.array .char), .int, .int, (.object "java/lang/Void")], none⟩ := by decide +kernel
theorem pn_rmS0 : plainName "java/lang/String" = true := by first | (simp [plainName, overriddenIn]; done) | decide +kernel
theorem ef_rmS0 (m : MethodId) (x : Addr) (b : Addr) : entryFrame m #[(.ref x), (.ref b)] 2 = mkF m 0 #[.val (.ref x), .val (.ref b)] [] := by first | (simp [entryFrame, mkF, argsToLocals, Value.category]; done) | rfl
def Q_rmS0 (Z : State) (x : Addr) (b : Addr) (kb : ClassId) (h0 : Heap) (n0 : Nat) (v : Option Value) (h : Heap) (L : List Loc) : Prop := v = none ∧ Fr n0 L ∧ Keep h0 h [x] ∧ Exa Z h x "java/lang/String" ∧ Fld Z h x "java/lang/String" "coder" "B" (.int 0) ∧ ∃ (t : Addr) (kt : ClassId), Fld Z h x "java/lang/String" "value" "[B" (.ref t) ∧ Arv Z h t kt .byte 0 [] (.int 0)
set_option maxRecDepth 65536 in
set_option maxHeartbeats 40000000 in
theorem rmS0 (l : Launch) (Z : State) (a0 : Array Value) (hw : ∀ d ∈ tables_1, d.before a0 Z = true) (ws : List Jvm.Cond) (x : Addr) (b : Addr) (kb : ClassId) (h0 : Heap) (n0 : Nat) (O0 : Old Z n0 h0) (Exa_x : Exa Z h0 x "java/lang/String") (F_value_x : Fld Z h0 x "java/lang/String" "value" "[B" .null) (F_coder_x : Fld Z h0 x "java/lang/String" "coder" "B" (.int 0)) (g1 : n0 ≤ x) (Arv_b : Arv Z h0 b kb .char 0 [] (.int 0)) (nbx : b ≠ x) :
    MetFree l (⟨"java/lang/String", "<init>", "([C)V"⟩ : MethodName) (head1 (Jvm.Cond.code (⟨"java/lang/String", "<init>", "([C)V"⟩ : MethodName) jdk_42_method_3_code 2 none :: ws) ({ frames := 2, cells := 4, slots := 8, locals := 29 } : Room)) (fun a U => a = #[(.ref x), (.ref b)] ∧ Z.Warmed39 U.vm ∧ U.heap = h0 ∧ CHv Z consts_1 U.vm h0) (fun _ _ _ _ _ => True) (fun _ U o U' => ∃ v L, o = .returned v ∧ Q_rmS0 Z x b kb h0 n0 v U'.heap L ∧ CHr Z consts_1 U.vm U.heap U'.vm U'.heap ∧ ReturnedEndW U o U' L ({ frames := 2, cells := 4, slots := 8, locals := 29 } : Room).cells ({ frames := 2, cells := 4, slots := 8, locals := 29 } : Room).slots) := by
  refine MetFree.of_bodySF (plainFor_of_name pn_rmS0) hisR ?_
  intro p e s m args below meth c s₁ Bd hml0 hP hK
  obtain ⟨rfl, hZ, hh, H0⟩ := hP
  have hx := Bd.exec
  have hby := Bd.bytes
  have hml : c.maxLocals = 2 := hml0
  have hown : s.vm.findClass "java/lang/String" = some m.cls := findClass_of_methodNamed Bd.named
  have hnm := (name_of_methodNamed Bd.named Bd.method).1
  have X0 : Stand p l e ({ frames := 2, cells := 4, slots := 8, locals := 29 } : Room) (s.setVm s.vm) m #[(.ref x), (.ref b)] below meth c s₁ [] 0 0 := Stand.of_body Bd
  have e0 : s₁.heap = h0 := by rw [← hh, Bd.state]; rfl
  have N0 := Fr.nil n0
  have hS0 : s.Since s.vm 0 := (State.WarmedH.refl s).since 0
  have hk0 : 0 ≤ h0.size := Nat.zero_le _
  have HC0 : CHr Z consts_1 s.vm h0 s.vm h0 := CHr.refl H0
  have hh0 : s.heap = h0 := hh
  refine GlW.start (Q := Q_rmS0 Z x b kb h0 n0) (ef_rmS0 m x b) ?_
  have hEL := own_EW hw
  have hwS : ∀ a ∈ Bundle.stringAtoms, a.before a0 Z = true := fun d hd => hw d ((by decide +kernel : ∀ d ∈ Bundle.stringAtoms, d ∈ tables_1) d hd)
  have Sf_x : Safe Z consts_1 s.vm h0 x := own_safe_blank hZ.alike Exa_x F_value_x
  show GlW Z consts_1 p e below s _ _ _ s₁ (mkF m 0 #[.val (.ref x), .val (.ref b)] [])
  refine GlW.st (fun _ kk => XS.aloadN X0.here hx rfl (hb hby d3_0) rfl rfl kk) ?_
  show GlW Z consts_1 p e below s _ _ _ s₁ (mkF m 1 #[.val (.ref x), .val (.ref b)] [(.ref x)])
  refine GlW.st (fun _ kk => XS.aloadN X0.here hx rfl (hb hby d3_1) rfl rfl kk) ?_
  show GlW Z consts_1 p e below s _ _ _ s₁ (mkF m 2 #[.val (.ref x), .val (.ref b)] [(.ref b), (.ref x)])
  refine GlW.st (fun _ kk => XS.iconst X0.here hx rfl (hb hby d3_2) kk) ?_
  show GlW Z consts_1 p e below s _ _ _ s₁ (mkF m 3 #[.val (.ref x), .val (.ref b)] [(.int (0 : Int32)), (.ref b), (.ref x)])
  refine GlW.st (fun _ kk => XS.aloadN X0.here hx rfl (hb hby d3_3) rfl rfl kk) ?_
  show GlW Z consts_1 p e below s _ _ _ s₁ (mkF m 4 #[.val (.ref x), .val (.ref b)] [(.ref b), (.int (0 : Int32)), (.ref b), (.ref x)])
  obtain ⟨cl1, Ar1, q1, Sz1, Ng1, Ha1, Fi1⟩ := id Arv_b
  refine GlW.st (fun _ kk => X0.arraylength hx (by rw [e0]; exact Ar1.1) (State.isArrayOf_alike hZ.alike Ar1.2.1) (g := (mkF m 4 #[.val (.ref x), .val (.ref b)] [(.ref b), (.int (0 : Int32)), (.ref b), (.ref x)])) rfl rfl (hb hby d3_4) _ kk) ?_
  rw [len_of Sz1 Ng1]
  show GlW Z consts_1 p e below s _ _ _ s₁ (mkF m 5 #[.val (.ref x), .val (.ref b)] [(.int (0 : Int32)), (.int (0 : Int32)), (.ref b), (.ref x)])
  refine GlW.st (fun _ kk => XS.aconstNull X0.here hx rfl (hb hby d3_5) kk) ?_
  show GlW Z consts_1 p e below s _ _ _ s₁ (mkF m 6 #[.val (.ref x), .val (.ref b)] [.null, (.int (0 : Int32)), (.int (0 : Int32)), (.ref b), (.ref x)])
  obtain ⟨v2, _, ⟨T2, L2, kQ2, nQ2⟩, -, X2, hSq2, hgq2, ⟨Lc2, hQ2, l2, y2, z2, HR2⟩, st2⟩ := X0.specialBackS hx (y := (⟨"java/lang/String", "<init>", "([CIILjava/lang/Void;)V"⟩ : MethodName)) rfl hown (mvT hZ (hw _ (List.mem_of_getElem? (i := 15) rfl))) (mvT hZ (hw _ (List.mem_of_getElem? (i := 16) rfl))) (mvT hZ (hw _ (List.mem_of_getElem? (i := 18) rfl))) (by decide) (backOfSH (W := 0) (rmSV0 l Z a0 hw [] x b h0 n0 O0 Exa_x F_value_x F_coder_x g1) hZ (hw _ (List.mem_of_getElem? (i := 18) rfl)) (hw _ (List.mem_of_getElem? (i := 8) rfl)) (by decide) (by decide) hEL HC0.1) (g := (mkF m 6 #[.val (.ref x), .val (.ref b)] [.null, (.int (0 : Int32)), (.int (0 : Int32)), (.ref b), (.ref x)])) rfl (by rw [hml]; rfl) (Steps.refl _) (a := x) (argsL := [(.ref b), (.int (0 : Int32)), (.int (0 : Int32)), .null]) (rest := []) (lenOf pd_rmS0_0 rfl) rfl (by show 2 * 0 + _ ≤ _; exact Nat.le_of_eq rfl) (hb hby d3_6) (fun _ _ => ⟨rfl, e0, (by decide : 0 + 4 ≤ _), (by decide : 0 + 8 ≤ _)⟩)
  dsimp only [Pt.U, Pt.locs, Pt.cells, Pt.slots] at X2 l2 y2 z2 st2 hQ2 hSq2 hgq2 HR2
  subst y2 z2
  obtain ⟨h2, e2⟩ : ∃ z, T2.heap = z := ⟨_, rfl⟩
  rw [e2] at hQ2 HR2 hSq2 hgq2
  obtain ⟨rfl, Nq2, Kq2, Eq2, Cq2, t2, kt2, Fq2, Aq2⟩ := hQ2
  rw [e0] at hgq2
  have hS2 := (hS0).trans hSq2 (Nat.le_trans hk0 hgq2)
  have hk2 := Nat.le_refl h2.size
  have hZ2 : Z.Warmed39 T2.vm := State.Warmed39.trans (t := s.setVm s.vm) hZ hSq2.1
  have hown2 : T2.vm.findClass "java/lang/String" = some m.cls := by rw [hSq2.1.alike.findClass]; exact hown
  have Sf_x := HR2.safe Exa_x.lt Sf_x
  have HC2 := HC0.trans HR2
  have hZ := hZ2
  have hown := hown2
  have N2 : Fr n0 L2 := l2 ▸ Fr.app N0 Nq2
  refine GlW.st (fun _ kk => st2.trans kk) ?_
  replace Exa_x := Exa_x.keep Kq2
  replace Arv_b := Arv_b.keep Kq2 (ninS nbx nin0)
  have O2 := O0.keep Kq2 (allS g1 all0)
  have K2 := (Keep.refl h0 [x]).trans Kq2 (allS (Or.inl (List.mem_of_getElem? (i := 0) rfl)) all0)
  have F_coder_x := Cq2
  have F_value_x := Fq2
  have Arv_t2 := Aq2
  clear st2 HR2
  show GlW Z consts_1 p e below s _ _ _ T2 (mkF m 9 #[.val (.ref x), .val (.ref b)] [])
  exact GlW.ret X2 hS2 hk2 hZ hEL hh0 HC2 (v := none) (fun _ => rfl) (BodyLoose.notSynchronized Bd) (fun hr => X2.returnOut hx Bd.returns (hb hby d3_9) hr) e2 ⟨rfl, N2, K2, Exa_x, F_coder_x, t2, kt2, F_value_x, Arv_t2⟩ (by decide) (by decide)
theorem pd_rm0_0 : parseMethodDescriptor "(I)C" = some ⟨[.int], some .char⟩ := by decide +kernel
theorem pd_rm0_1 : parseMethodDescriptor "(Ljava/lang/String;)Ljava/lang/String;" = some ⟨[(.object "java/lang/String")], some (.object "java/lang/String")⟩ := by decide +kernel
theorem pd_rm0_2 : parseMethodDescriptor "()I" = some ⟨[], some .int⟩ := by decide +kernel
theorem pd_rm0_3 : parseMethodDescriptor "(Ljava/lang/String;I[CII)Z" = some ⟨[(.object "java/lang/String"), .int, (.array .char), .int, .int], some .boolean⟩ := by decide +kernel
theorem pd_rm0_4 : parseMethodDescriptor "([CII)Z" = some ⟨[(.array .char), .int, .int], some .boolean⟩ := by decide +kernel
theorem pd_rm0_5 : parseMethodDescriptor "(I[C)[C" = some ⟨[.int, (.array .char)], some (.array .char)⟩ := by decide +kernel
theorem pd_rm0_6 : parseMethodDescriptor "([C)V" = some ⟨[(.array .char)], none⟩ := by decide +kernel
theorem pn_rm0 : plainName "com/example/concurrency_quota/concurrencyquota/ServiceRequestTrimWhitespacePinLaw" = true := by first | (simp [plainName, overriddenIn]; done) | decide +kernel
theorem ef_rm0 (m : MethodId) (p1 : Int32) (p2 : Int32) (p3 : Int32) (p4 : Int32) (p5 : Int32) : entryFrame m #[(.int p1), (.int p2), (.int p3), (.int p4), (.int p5)] maxLocals = mkF m 0 #[.val (.int p1), .val (.int p2), .val (.int p3), .val (.int p4), .val (.int p5), .unset, .unset, .unset, .unset, .unset, .unset, .unset] [] := by first | (simp [entryFrame, mkF, argsToLocals, Value.category, maxLocals]; done) | rfl
def Q_rm0 (Z : State) (p1 : Int32) (p2 : Int32) (p3 : Int32) (p4 : Int32) (p5 : Int32) (cz : Int32) (fm : Value) (h0 : Heap) (n0 : Nat) (v : Option Value) (h : Heap) (L : List Loc) : Prop := v = some (.int 1) ∧ Fr n0 L
set_option maxRecDepth 65536 in
set_option maxHeartbeats 40000000 in
theorem rm0 (l : Launch) (Z : State) (a0 : Array Value) (hw : ∀ d ∈ tables_1, d.before a0 Z = true) (ws : List Jvm.Cond) (p1 : Int32) (p2 : Int32) (p3 : Int32) (p4 : Int32) (p5 : Int32) (cz : Int32) (fm : Value) (h0 : Heap) (n0 : Nat) (O0 : Old Z n0 h0) (S_COMPACT : Sta Z Z.heap "java/lang/String" "COMPACT_STRINGS" "Z" (.int cz)) (hcz : ¬ cz = 0) (S_SI : Sta Z Z.heap "jdk/internal/util/Preconditions" "SIOOBE_FORMATTER" "Ljava/util/function/BiFunction;" fm) (rG : fm.isRef = true) :
    MetFree l x (head1 (Jvm.Cond.code x code maxLocals ret :: ws) room_1) (fun a U => a = #[(.int p1), (.int p2), (.int p3), (.int p4), (.int p5)] ∧ Z.Warmed39 U.vm ∧ U.heap = h0 ∧ CHv Z consts_1 U.vm h0) (fun _ _ _ _ _ => True) (fun _ U o U' => ∃ v L, o = .returned v ∧ Q_rm0 Z p1 p2 p3 p4 p5 cz fm h0 n0 v U'.heap L ∧ CHr Z consts_1 U.vm U.heap U'.vm U'.heap ∧ ReturnedEndW U o U' L room_1.cells room_1.slots) := by
  refine MetFree.of_bodySF (plainFor_of_name pn_rm0) hisR ?_
  intro p e s m args below meth c s₁ Bd hml0 hP hK
  obtain ⟨rfl, hZ, hh, H0⟩ := hP
  have hx := Bd.exec
  have hby := Bd.bytes
  have hml : c.maxLocals = 12 := hml0
  have hown : s.vm.findClass "com/example/concurrency_quota/concurrencyquota/ServiceRequestTrimWhitespacePinLaw" = some m.cls := findClass_of_methodNamed Bd.named
  have hnm := (name_of_methodNamed Bd.named Bd.method).1
  have X0 : Stand p l e room_1 (s.setVm s.vm) m #[(.int p1), (.int p2), (.int p3), (.int p4), (.int p5)] below meth c s₁ [] 0 0 := Stand.of_body Bd
  have e0 : s₁.heap = h0 := by rw [← hh, Bd.state]; rfl
  have N0 := Fr.nil n0
  have hS0 : s.Since s.vm 0 := (State.WarmedH.refl s).since 0
  have hk0 : 0 ≤ h0.size := Nat.zero_le _
  have HC0 : CHr Z consts_1 s.vm h0 s.vm h0 := CHr.refl H0
  have hh0 : s.heap = h0 := hh
  refine GlW.start (Q := Q_rm0 Z p1 p2 p3 p4 p5 cz fm h0 n0) (ef_rm0 m p1 p2 p3 p4 p5) ?_
  have hEL := own_EW hw
  have hwS : ∀ a ∈ Bundle.stringAtoms, a.before a0 Z = true := fun d hd => hw d ((by decide +kernel : ∀ d ∈ Bundle.stringAtoms, d ∈ tables_1) d hd)
  have hws : ∀ d ∈ StrChars.Road.words, d.before a0 Z = true := fun d hd => hw d ((by decide +kernel : ∀ d ∈ StrChars.Road.words, d ∈ tables_1) d hd)
  have hwln : ∀ d ∈ StrChars.Road.wordsLen, d.before a0 Z = true := fun d hd => hw d ((by decide +kernel : ∀ d ∈ StrChars.Road.wordsLen, d ∈ tables_1) d hd)
  have hwch : ∀ d ∈ StrChars.Road.wordsChN, d.before a0 Z = true := fun d hd => hw d ((by decide +kernel : ∀ d ∈ StrChars.Road.wordsChN, d ∈ tables_1) d hd)
  show GlW Z consts_1 p e below s _ _ _ s₁ (mkF m 0 #[.val (.int p1), .val (.int p2), .val (.int p3), .val (.int p4), .val (.int p5), .unset, .unset, .unset, .unset, .unset, .unset, .unset] [])
  refine GlW.st (fun _ kk => XS.iloadN X0.here hx rfl (hb hby at_0) rfl kk) ?_
  show GlW Z consts_1 p e below s _ _ _ s₁ (mkF m 1 #[.val (.int p1), .val (.int p2), .val (.int p3), .val (.int p4), .val (.int p5), .unset, .unset, .unset, .unset, .unset, .unset, .unset] [(.int p1)])
  refine GlW.st (fun _ kk => X0.ldcInt hx hown (mvT hZ (hw _ (List.mem_of_getElem? (i := 0) rfl))) (g := (mkF m 1 #[.val (.int p1), .val (.int p2), .val (.int p3), .val (.int p4), .val (.int p5), .unset, .unset, .unset, .unset, .unset, .unset, .unset] [(.int p1)])) rfl (hb hby at_1) _ kk) ?_
  show GlW Z consts_1 p e below s _ _ _ s₁ (mkF m 3 #[.val (.int p1), .val (.int p2), .val (.int p3), .val (.int p4), .val (.int p5), .unset, .unset, .unset, .unset, .unset, .unset, .unset] [(.int (2147483647 : Int32)), (.int p1)])
  refine GlW.st (fun _ kk => XS.iand X0.here hx rfl (hb hby at_3) rfl kk) ?_
  show GlW Z consts_1 p e below s _ _ _ s₁ (mkF m 4 #[.val (.int p1), .val (.int p2), .val (.int p3), .val (.int p4), .val (.int p5), .unset, .unset, .unset, .unset, .unset, .unset, .unset] [(.int (p1 &&& (2147483647 : Int32)))])
  refine GlW.st (fun _ kk => XS.iconst X0.here hx rfl (hb hby at_4) kk) ?_
  show GlW Z consts_1 p e below s _ _ _ s₁ (mkF m 5 #[.val (.int p1), .val (.int p2), .val (.int p3), .val (.int p4), .val (.int p5), .unset, .unset, .unset, .unset, .unset, .unset, .unset] [(.int (5 : Int32)), (.int (p1 &&& (2147483647 : Int32)))])
  refine GlW.st (fun _ kk => iremM (g := (mkF m 5 #[.val (.int p1), .val (.int p2), .val (.int p3), .val (.int p4), .val (.int p5), .unset, .unset, .unset, .unset, .unset, .unset, .unset] [(.int (5 : Int32)), (.int (p1 &&& (2147483647 : Int32)))])) X0 hx rfl (hb hby at_5) rfl (by decide) kk) ?_
  show GlW Z consts_1 p e below s _ _ _ s₁ (mkF m 6 #[.val (.int p1), .val (.int p2), .val (.int p3), .val (.int p4), .val (.int p5), .unset, .unset, .unset, .unset, .unset, .unset, .unset] [(.int ((p1 &&& (2147483647 : Int32)) % (5 : Int32)))])
  refine GlW.st (fun _ kk => XS.istore X0.here hx rfl (hb hby at_6) rfl (l' := #[.val (.int p1), .val (.int p2), .val (.int p3), .val (.int p4), .val (.int p5), .val (.int ((p1 &&& (2147483647 : Int32)) % (5 : Int32))), .unset, .unset, .unset, .unset, .unset, .unset]) rfl kk) ?_
  show GlW Z consts_1 p e below s _ _ _ s₁ (mkF m 8 #[.val (.int p1), .val (.int p2), .val (.int p3), .val (.int p4), .val (.int p5), .val (.int ((p1 &&& (2147483647 : Int32)) % (5 : Int32))), .unset, .unset, .unset, .unset, .unset, .unset] [])
  refine GlW.st (fun _ kk => XS.iconst X0.here hx rfl (hb hby at_8) kk) ?_
  show GlW Z consts_1 p e below s _ _ _ s₁ (mkF m 9 #[.val (.int p1), .val (.int p2), .val (.int p3), .val (.int p4), .val (.int p5), .val (.int ((p1 &&& (2147483647 : Int32)) % (5 : Int32))), .unset, .unset, .unset, .unset, .unset, .unset] [(.int (4 : Int32))])
  obtain ⟨T1, h1, ka1, X1, e1, E1, A1, st1⟩ := newP X0 hx hZ (hw _ (List.mem_of_getElem? (i := 1) rfl)) e0 (g := (mkF m 9 #[.val (.int p1), .val (.int p2), .val (.int p3), .val (.int p4), .val (.int p5), .val (.int ((p1 &&& (2147483647 : Int32)) % (5 : Int32))), .unset, .unset, .unset, .unset, .unset, .unset] [(.int (4 : Int32))])) rfl (hb hby at_9) rfl (by decide) (cap := 4) (by decide) (by decide) (by decide) (by decide)
  obtain ⟨b1, g1⟩ : ∃ z, z = h0.size := ⟨_, rfl⟩
  rw [← g1] at A1 st1
  refine GlW.st st1 ?_
  have ge_b1 : n0 ≤ b1 := Nat.le_trans (Nat.le_trans (Nat.le_of_eq O0.1.symm) O0.2.1) (Nat.le_of_eq g1.symm)
  have fr_b1 : h0.size ≤ b1 := Nat.le_trans (Nat.le_refl _) (Nat.le_of_eq g1.symm)
  have HC1 := HC0.trans (CHr.ext E1 HC0.1)
  have hk1 := Nat.le_trans hk0 E1.1
  have O1 := O0.ext E1
  have K1 := (Keep.refl h0 []).ext E1
  have Arv_b1 : Arv Z h1 b1 ka1 .char (4 : Int32) [(.int (0 : Int32)), (.int (0 : Int32)), (.int (0 : Int32)), (.int (0 : Int32))] (.int (0 : Int32)) := (Arv.new A1 (by decide)).pad (pad_rep [] (.int (0 : Int32)) 4)
  show GlW Z consts_1 p e below s _ _ _ T1 (mkF m 11 #[.val (.int p1), .val (.int p2), .val (.int p3), .val (.int p4), .val (.int p5), .val (.int ((p1 &&& (2147483647 : Int32)) % (5 : Int32))), .unset, .unset, .unset, .unset, .unset, .unset] [(.ref b1)])
  refine GlW.st (fun _ kk => XS.dup X1.here hx rfl (hb hby at_11) rfl rfl kk) ?_
  show GlW Z consts_1 p e below s _ _ _ T1 (mkF m 12 #[.val (.int p1), .val (.int p2), .val (.int p3), .val (.int p4), .val (.int p5), .val (.int ((p1 &&& (2147483647 : Int32)) % (5 : Int32))), .unset, .unset, .unset, .unset, .unset, .unset] [(.ref b1), (.ref b1)])
  refine GlW.st (fun _ kk => XS.iconst X1.here hx rfl (hb hby at_12) kk) ?_
  show GlW Z consts_1 p e below s _ _ _ T1 (mkF m 13 #[.val (.int p1), .val (.int p2), .val (.int p3), .val (.int p4), .val (.int p5), .val (.int ((p1 &&& (2147483647 : Int32)) % (5 : Int32))), .unset, .unset, .unset, .unset, .unset, .unset] [(.int (0 : Int32)), (.ref b1), (.ref b1)])
  refine GlW.st (fun _ kk => XS.iloadN X1.here hx rfl (hb hby at_13) rfl kk) ?_
  show GlW Z consts_1 p e below s _ _ _ T1 (mkF m 14 #[.val (.int p1), .val (.int p2), .val (.int p3), .val (.int p4), .val (.int p5), .val (.int ((p1 &&& (2147483647 : Int32)) % (5 : Int32))), .unset, .unset, .unset, .unset, .unset, .unset] [(.int p2), (.int (0 : Int32)), (.ref b1), (.ref b1)])
  obtain ⟨v2, _, ⟨T2, L2, kQ2, nQ2⟩, -, X2, ⟨Lc2, hQ2, l2, y2, z2⟩, st2⟩ := Jvm.LawKit.callS X1 hx (y := (⟨"com/example/concurrency_quota/concurrencyquota/ServiceRequestTrimWhitespacePinLaw", "pick", "(I)C"⟩ : MethodName)) hown (mvT hZ (hw _ (List.mem_of_getElem? (i := 2) rfl))) (mvT hZ (hw _ (List.mem_of_getElem? (i := 3) rfl))) (mvT hZ (hw _ (List.mem_of_getElem? (i := 4) rfl))) (mvT hZ (hw _ (List.mem_of_getElem? (i := 5) rfl))) (by decide) (backOf (W := 3) (rmPK l Z a0 hw [] p2 h1 n0 O1) hZ (hw _ (List.mem_of_getElem? (i := 5) rfl)) (hw _ (List.mem_of_getElem? (i := 4) rfl)) (by decide) (by decide)) (g := (mkF m 14 #[.val (.int p1), .val (.int p2), .val (.int p3), .val (.int p4), .val (.int p5), .val (.int ((p1 &&& (2147483647 : Int32)) % (5 : Int32))), .unset, .unset, .unset, .unset, .unset, .unset] [(.int p2), (.int (0 : Int32)), (.ref b1), (.ref b1)])) rfl (by rw [hml]; rfl) (argsL := [(.int p2)]) (rest := [(.int (0 : Int32)), (.ref b1), (.ref b1)]) (lenOf pd_rm0_0 rfl) rfl (by show 2 * 0 + _ ≤ _; exact Nat.le_of_eq rfl) (hb hby at_14) (fun _ _ => ⟨rfl, e1, (by decide : 1 + 0 ≤ _), (by decide : 4 + 0 ≤ _)⟩)
  dsimp only [Pt.U, Pt.locs, Pt.cells, Pt.slots] at X2 l2 y2 z2 st2 hQ2
  subst y2 z2
  obtain ⟨⟨c2, rfl, pk2⟩, Nq2, e2⟩ := hQ2
  have N2 : Fr n0 L2 := l2 ▸ Fr.app N0 Nq2
  refine GlW.st st2 ?_
  clear st2
  clear X1 e1
  show GlW Z consts_1 p e below s _ _ _ T2 (mkF m 17 #[.val (.int p1), .val (.int p2), .val (.int p3), .val (.int p4), .val (.int p5), .val (.int ((p1 &&& (2147483647 : Int32)) % (5 : Int32))), .unset, .unset, .unset, .unset, .unset, .unset] [(.int c2), (.int (0 : Int32)), (.ref b1), (.ref b1)])
  obtain ⟨cl3, Ar3, q3, Sz3, Ng3, Ha3, Fi3⟩ := id Arv_b1
  have hin3 : ¬ ((0 : Int32) < 0 ∨ cl3.slots.size ≤ ((0 : Int32)).toNatClampNeg) := inb_of Sz3 ⟨by decide, by decide⟩
  obtain ⟨T3, h3, X3, e3, W3, st3⟩ := stC X2 hx hZ e2 Ar3 (j := (0 : Int32)) hin3 (g := (mkF m 17 #[.val (.int p1), .val (.int p2), .val (.int p3), .val (.int p4), .val (.int p5), .val (.int ((p1 &&& (2147483647 : Int32)) % (5 : Int32))), .unset, .unset, .unset, .unset, .unset, .unset] [(.int c2), (.int (0 : Int32)), (.ref b1), (.ref b1)])) rfl rfl (hb hby at_17)
  refine GlW.st st3 ?_
  replace Arv_b1 : Arv Z h3 b1 ka1 .char (4 : Int32) [(.int (nar .char c2)), (.int (0 : Int32)), (.int (0 : Int32)), (.int (0 : Int32))] (.int (0 : Int32)) := Arv.set Ar3 q3 Sz3 Ng3 Ha3 Fi3 (fits_nar_char _) W3 0 rfl (Nat.le_of_ble_eq_true rfl)
  rw [pk2.2] at Arv_b1
  have sfw3 := (show Safe Z consts_1 s.vm h1 b1 from Safe.arr hZ.alike Ar3 (by decide))
  have HC3 := HC1.trans (CHr.wr W3 sfw3 HC1.1)
  have hk3 := Nat.le_trans hk1 (Nat.le_of_eq W3.size.symm)
  have O3 := O1.wr W3 ge_b1
  have K3 := K1.wr W3 (Or.inr fr_b1)
  have N3 := Fr.snoc X3 N2 ge_b1
  clear st3 W3 hin3 Fi3 Ha3 Ng3 Sz3 q3 Ar3 cl3 sfw3
  clear O1 K1 N2 HC1 hk1 X2 e2
  show GlW Z consts_1 p e below s _ _ _ T3 (mkF m 18 #[.val (.int p1), .val (.int p2), .val (.int p3), .val (.int p4), .val (.int p5), .val (.int ((p1 &&& (2147483647 : Int32)) % (5 : Int32))), .unset, .unset, .unset, .unset, .unset, .unset] [(.ref b1)])
  refine GlW.st (fun _ kk => XS.dup X3.here hx rfl (hb hby at_18) rfl rfl kk) ?_
  show GlW Z consts_1 p e below s _ _ _ T3 (mkF m 19 #[.val (.int p1), .val (.int p2), .val (.int p3), .val (.int p4), .val (.int p5), .val (.int ((p1 &&& (2147483647 : Int32)) % (5 : Int32))), .unset, .unset, .unset, .unset, .unset, .unset] [(.ref b1), (.ref b1)])
  refine GlW.st (fun _ kk => XS.iconst X3.here hx rfl (hb hby at_19) kk) ?_
  show GlW Z consts_1 p e below s _ _ _ T3 (mkF m 20 #[.val (.int p1), .val (.int p2), .val (.int p3), .val (.int p4), .val (.int p5), .val (.int ((p1 &&& (2147483647 : Int32)) % (5 : Int32))), .unset, .unset, .unset, .unset, .unset, .unset] [(.int (1 : Int32)), (.ref b1), (.ref b1)])
  refine GlW.st (fun _ kk => XS.iloadN X3.here hx rfl (hb hby at_20) rfl kk) ?_
  show GlW Z consts_1 p e below s _ _ _ T3 (mkF m 21 #[.val (.int p1), .val (.int p2), .val (.int p3), .val (.int p4), .val (.int p5), .val (.int ((p1 &&& (2147483647 : Int32)) % (5 : Int32))), .unset, .unset, .unset, .unset, .unset, .unset] [(.int p3), (.int (1 : Int32)), (.ref b1), (.ref b1)])
  obtain ⟨v4, _, ⟨T4, L4, kQ4, nQ4⟩, -, X4, ⟨Lc4, hQ4, l4, y4, z4⟩, st4⟩ := Jvm.LawKit.callS X3 hx (y := (⟨"com/example/concurrency_quota/concurrencyquota/ServiceRequestTrimWhitespacePinLaw", "pick", "(I)C"⟩ : MethodName)) hown (mvT hZ (hw _ (List.mem_of_getElem? (i := 2) rfl))) (mvT hZ (hw _ (List.mem_of_getElem? (i := 3) rfl))) (mvT hZ (hw _ (List.mem_of_getElem? (i := 4) rfl))) (mvT hZ (hw _ (List.mem_of_getElem? (i := 5) rfl))) (by decide) (backOf (W := 3) (rmPK l Z a0 hw [] p3 h3 n0 O3) hZ (hw _ (List.mem_of_getElem? (i := 5) rfl)) (hw _ (List.mem_of_getElem? (i := 4) rfl)) (by decide) (by decide)) (g := (mkF m 21 #[.val (.int p1), .val (.int p2), .val (.int p3), .val (.int p4), .val (.int p5), .val (.int ((p1 &&& (2147483647 : Int32)) % (5 : Int32))), .unset, .unset, .unset, .unset, .unset, .unset] [(.int p3), (.int (1 : Int32)), (.ref b1), (.ref b1)])) rfl (by rw [hml]; rfl) (argsL := [(.int p3)]) (rest := [(.int (1 : Int32)), (.ref b1), (.ref b1)]) (lenOf pd_rm0_0 rfl) rfl (by show 2 * 0 + _ ≤ _; exact Nat.le_of_eq rfl) (hb hby at_21) (fun _ _ => ⟨rfl, e3, (by decide : 1 + 0 ≤ _), (by decide : 4 + 0 ≤ _)⟩)
  dsimp only [Pt.U, Pt.locs, Pt.cells, Pt.slots] at X4 l4 y4 z4 st4 hQ4
  subst y4 z4
  obtain ⟨⟨c4, rfl, pk4⟩, Nq4, e4⟩ := hQ4
  have N4 : Fr n0 L4 := l4 ▸ Fr.app N3 Nq4
  refine GlW.st st4 ?_
  clear st4
  clear N3 X3 e3
  show GlW Z consts_1 p e below s _ _ _ T4 (mkF m 24 #[.val (.int p1), .val (.int p2), .val (.int p3), .val (.int p4), .val (.int p5), .val (.int ((p1 &&& (2147483647 : Int32)) % (5 : Int32))), .unset, .unset, .unset, .unset, .unset, .unset] [(.int c4), (.int (1 : Int32)), (.ref b1), (.ref b1)])
  obtain ⟨cl5, Ar5, q5, Sz5, Ng5, Ha5, Fi5⟩ := id Arv_b1
  have hin5 : ¬ ((1 : Int32) < 0 ∨ cl5.slots.size ≤ ((1 : Int32)).toNatClampNeg) := inb_of Sz5 ⟨by decide, by decide⟩
  obtain ⟨T5, h5, X5, e5, W5, st5⟩ := stC X4 hx hZ e4 Ar5 (j := (1 : Int32)) hin5 (g := (mkF m 24 #[.val (.int p1), .val (.int p2), .val (.int p3), .val (.int p4), .val (.int p5), .val (.int ((p1 &&& (2147483647 : Int32)) % (5 : Int32))), .unset, .unset, .unset, .unset, .unset, .unset] [(.int c4), (.int (1 : Int32)), (.ref b1), (.ref b1)])) rfl rfl (hb hby at_24)
  refine GlW.st st5 ?_
  replace Arv_b1 : Arv Z h5 b1 ka1 .char (4 : Int32) [(.int c2), (.int (nar .char c4)), (.int (0 : Int32)), (.int (0 : Int32))] (.int (0 : Int32)) := Arv.set Ar5 q5 Sz5 Ng5 Ha5 Fi5 (fits_nar_char _) W5 1 rfl (Nat.le_of_ble_eq_true rfl)
  rw [pk4.2] at Arv_b1
  have sfw5 := (show Safe Z consts_1 s.vm h3 b1 from Safe.arr hZ.alike Ar5 (by decide))
  have HC5 := HC3.trans (CHr.wr W5 sfw5 HC3.1)
  have hk5 := Nat.le_trans hk3 (Nat.le_of_eq W5.size.symm)
  have O5 := O3.wr W5 ge_b1
  have K5 := K3.wr W5 (Or.inr fr_b1)
  have N5 := Fr.snoc X5 N4 ge_b1
  clear st5 W5 hin5 Fi5 Ha5 Ng5 Sz5 q5 Ar5 cl5 sfw5
  clear O3 K3 N4 HC3 hk3 X4 e4
  show GlW Z consts_1 p e below s _ _ _ T5 (mkF m 25 #[.val (.int p1), .val (.int p2), .val (.int p3), .val (.int p4), .val (.int p5), .val (.int ((p1 &&& (2147483647 : Int32)) % (5 : Int32))), .unset, .unset, .unset, .unset, .unset, .unset] [(.ref b1)])
  refine GlW.st (fun _ kk => XS.dup X5.here hx rfl (hb hby at_25) rfl rfl kk) ?_
  show GlW Z consts_1 p e below s _ _ _ T5 (mkF m 26 #[.val (.int p1), .val (.int p2), .val (.int p3), .val (.int p4), .val (.int p5), .val (.int ((p1 &&& (2147483647 : Int32)) % (5 : Int32))), .unset, .unset, .unset, .unset, .unset, .unset] [(.ref b1), (.ref b1)])
  refine GlW.st (fun _ kk => XS.iconst X5.here hx rfl (hb hby at_26) kk) ?_
  show GlW Z consts_1 p e below s _ _ _ T5 (mkF m 27 #[.val (.int p1), .val (.int p2), .val (.int p3), .val (.int p4), .val (.int p5), .val (.int ((p1 &&& (2147483647 : Int32)) % (5 : Int32))), .unset, .unset, .unset, .unset, .unset, .unset] [(.int (2 : Int32)), (.ref b1), (.ref b1)])
  refine GlW.st (fun _ kk => XS.iloadN X5.here hx rfl (hb hby at_27) rfl kk) ?_
  show GlW Z consts_1 p e below s _ _ _ T5 (mkF m 28 #[.val (.int p1), .val (.int p2), .val (.int p3), .val (.int p4), .val (.int p5), .val (.int ((p1 &&& (2147483647 : Int32)) % (5 : Int32))), .unset, .unset, .unset, .unset, .unset, .unset] [(.int p4), (.int (2 : Int32)), (.ref b1), (.ref b1)])
  obtain ⟨v6, _, ⟨T6, L6, kQ6, nQ6⟩, -, X6, ⟨Lc6, hQ6, l6, y6, z6⟩, st6⟩ := Jvm.LawKit.callS X5 hx (y := (⟨"com/example/concurrency_quota/concurrencyquota/ServiceRequestTrimWhitespacePinLaw", "pick", "(I)C"⟩ : MethodName)) hown (mvT hZ (hw _ (List.mem_of_getElem? (i := 2) rfl))) (mvT hZ (hw _ (List.mem_of_getElem? (i := 3) rfl))) (mvT hZ (hw _ (List.mem_of_getElem? (i := 4) rfl))) (mvT hZ (hw _ (List.mem_of_getElem? (i := 5) rfl))) (by decide) (backOf (W := 3) (rmPK l Z a0 hw [] p4 h5 n0 O5) hZ (hw _ (List.mem_of_getElem? (i := 5) rfl)) (hw _ (List.mem_of_getElem? (i := 4) rfl)) (by decide) (by decide)) (g := (mkF m 28 #[.val (.int p1), .val (.int p2), .val (.int p3), .val (.int p4), .val (.int p5), .val (.int ((p1 &&& (2147483647 : Int32)) % (5 : Int32))), .unset, .unset, .unset, .unset, .unset, .unset] [(.int p4), (.int (2 : Int32)), (.ref b1), (.ref b1)])) rfl (by rw [hml]; rfl) (argsL := [(.int p4)]) (rest := [(.int (2 : Int32)), (.ref b1), (.ref b1)]) (lenOf pd_rm0_0 rfl) rfl (by show 2 * 0 + _ ≤ _; exact Nat.le_of_eq rfl) (hb hby at_28) (fun _ _ => ⟨rfl, e5, (by decide : 1 + 0 ≤ _), (by decide : 4 + 0 ≤ _)⟩)
  dsimp only [Pt.U, Pt.locs, Pt.cells, Pt.slots] at X6 l6 y6 z6 st6 hQ6
  subst y6 z6
  obtain ⟨⟨c6, rfl, pk6⟩, Nq6, e6⟩ := hQ6
  have N6 : Fr n0 L6 := l6 ▸ Fr.app N5 Nq6
  refine GlW.st st6 ?_
  clear st6
  clear N5 X5 e5
  show GlW Z consts_1 p e below s _ _ _ T6 (mkF m 31 #[.val (.int p1), .val (.int p2), .val (.int p3), .val (.int p4), .val (.int p5), .val (.int ((p1 &&& (2147483647 : Int32)) % (5 : Int32))), .unset, .unset, .unset, .unset, .unset, .unset] [(.int c6), (.int (2 : Int32)), (.ref b1), (.ref b1)])
  obtain ⟨cl7, Ar7, q7, Sz7, Ng7, Ha7, Fi7⟩ := id Arv_b1
  have hin7 : ¬ ((2 : Int32) < 0 ∨ cl7.slots.size ≤ ((2 : Int32)).toNatClampNeg) := inb_of Sz7 ⟨by decide, by decide⟩
  obtain ⟨T7, h7, X7, e7, W7, st7⟩ := stC X6 hx hZ e6 Ar7 (j := (2 : Int32)) hin7 (g := (mkF m 31 #[.val (.int p1), .val (.int p2), .val (.int p3), .val (.int p4), .val (.int p5), .val (.int ((p1 &&& (2147483647 : Int32)) % (5 : Int32))), .unset, .unset, .unset, .unset, .unset, .unset] [(.int c6), (.int (2 : Int32)), (.ref b1), (.ref b1)])) rfl rfl (hb hby at_31)
  refine GlW.st st7 ?_
  replace Arv_b1 : Arv Z h7 b1 ka1 .char (4 : Int32) [(.int c2), (.int c4), (.int (nar .char c6)), (.int (0 : Int32))] (.int (0 : Int32)) := Arv.set Ar7 q7 Sz7 Ng7 Ha7 Fi7 (fits_nar_char _) W7 2 rfl (Nat.le_of_ble_eq_true rfl)
  rw [pk6.2] at Arv_b1
  have sfw7 := (show Safe Z consts_1 s.vm h5 b1 from Safe.arr hZ.alike Ar7 (by decide))
  have HC7 := HC5.trans (CHr.wr W7 sfw7 HC5.1)
  have hk7 := Nat.le_trans hk5 (Nat.le_of_eq W7.size.symm)
  have O7 := O5.wr W7 ge_b1
  have K7 := K5.wr W7 (Or.inr fr_b1)
  have N7 := Fr.snoc X7 N6 ge_b1
  clear st7 W7 hin7 Fi7 Ha7 Ng7 Sz7 q7 Ar7 cl7 sfw7
  clear O5 K5 N6 HC5 hk5 X6 e6
  show GlW Z consts_1 p e below s _ _ _ T7 (mkF m 32 #[.val (.int p1), .val (.int p2), .val (.int p3), .val (.int p4), .val (.int p5), .val (.int ((p1 &&& (2147483647 : Int32)) % (5 : Int32))), .unset, .unset, .unset, .unset, .unset, .unset] [(.ref b1)])
  refine GlW.st (fun _ kk => XS.dup X7.here hx rfl (hb hby at_32) rfl rfl kk) ?_
  show GlW Z consts_1 p e below s _ _ _ T7 (mkF m 33 #[.val (.int p1), .val (.int p2), .val (.int p3), .val (.int p4), .val (.int p5), .val (.int ((p1 &&& (2147483647 : Int32)) % (5 : Int32))), .unset, .unset, .unset, .unset, .unset, .unset] [(.ref b1), (.ref b1)])
  refine GlW.st (fun _ kk => XS.iconst X7.here hx rfl (hb hby at_33) kk) ?_
  show GlW Z consts_1 p e below s _ _ _ T7 (mkF m 34 #[.val (.int p1), .val (.int p2), .val (.int p3), .val (.int p4), .val (.int p5), .val (.int ((p1 &&& (2147483647 : Int32)) % (5 : Int32))), .unset, .unset, .unset, .unset, .unset, .unset] [(.int (3 : Int32)), (.ref b1), (.ref b1)])
  refine GlW.st (fun _ kk => XS.iload X7.here hx rfl (hb hby at_34) rfl kk) ?_
  show GlW Z consts_1 p e below s _ _ _ T7 (mkF m 36 #[.val (.int p1), .val (.int p2), .val (.int p3), .val (.int p4), .val (.int p5), .val (.int ((p1 &&& (2147483647 : Int32)) % (5 : Int32))), .unset, .unset, .unset, .unset, .unset, .unset] [(.int p5), (.int (3 : Int32)), (.ref b1), (.ref b1)])
  obtain ⟨v8, _, ⟨T8, L8, kQ8, nQ8⟩, -, X8, ⟨Lc8, hQ8, l8, y8, z8⟩, st8⟩ := Jvm.LawKit.callS X7 hx (y := (⟨"com/example/concurrency_quota/concurrencyquota/ServiceRequestTrimWhitespacePinLaw", "pick", "(I)C"⟩ : MethodName)) hown (mvT hZ (hw _ (List.mem_of_getElem? (i := 2) rfl))) (mvT hZ (hw _ (List.mem_of_getElem? (i := 3) rfl))) (mvT hZ (hw _ (List.mem_of_getElem? (i := 4) rfl))) (mvT hZ (hw _ (List.mem_of_getElem? (i := 5) rfl))) (by decide) (backOf (W := 3) (rmPK l Z a0 hw [] p5 h7 n0 O7) hZ (hw _ (List.mem_of_getElem? (i := 5) rfl)) (hw _ (List.mem_of_getElem? (i := 4) rfl)) (by decide) (by decide)) (g := (mkF m 36 #[.val (.int p1), .val (.int p2), .val (.int p3), .val (.int p4), .val (.int p5), .val (.int ((p1 &&& (2147483647 : Int32)) % (5 : Int32))), .unset, .unset, .unset, .unset, .unset, .unset] [(.int p5), (.int (3 : Int32)), (.ref b1), (.ref b1)])) rfl (by rw [hml]; rfl) (argsL := [(.int p5)]) (rest := [(.int (3 : Int32)), (.ref b1), (.ref b1)]) (lenOf pd_rm0_0 rfl) rfl (by show 2 * 0 + _ ≤ _; exact Nat.le_of_eq rfl) (hb hby at_36) (fun _ _ => ⟨rfl, e7, (by decide : 1 + 0 ≤ _), (by decide : 4 + 0 ≤ _)⟩)
  dsimp only [Pt.U, Pt.locs, Pt.cells, Pt.slots] at X8 l8 y8 z8 st8 hQ8
  subst y8 z8
  obtain ⟨⟨c8, rfl, pk8⟩, Nq8, e8⟩ := hQ8
  have N8 : Fr n0 L8 := l8 ▸ Fr.app N7 Nq8
  refine GlW.st st8 ?_
  clear st8
  clear N7 X7 e7
  show GlW Z consts_1 p e below s _ _ _ T8 (mkF m 39 #[.val (.int p1), .val (.int p2), .val (.int p3), .val (.int p4), .val (.int p5), .val (.int ((p1 &&& (2147483647 : Int32)) % (5 : Int32))), .unset, .unset, .unset, .unset, .unset, .unset] [(.int c8), (.int (3 : Int32)), (.ref b1), (.ref b1)])
  obtain ⟨cl9, Ar9, q9, Sz9, Ng9, Ha9, Fi9⟩ := id Arv_b1
  have hin9 : ¬ ((3 : Int32) < 0 ∨ cl9.slots.size ≤ ((3 : Int32)).toNatClampNeg) := inb_of Sz9 ⟨by decide, by decide⟩
  obtain ⟨T9, h9, X9, e9, W9, st9⟩ := stC X8 hx hZ e8 Ar9 (j := (3 : Int32)) hin9 (g := (mkF m 39 #[.val (.int p1), .val (.int p2), .val (.int p3), .val (.int p4), .val (.int p5), .val (.int ((p1 &&& (2147483647 : Int32)) % (5 : Int32))), .unset, .unset, .unset, .unset, .unset, .unset] [(.int c8), (.int (3 : Int32)), (.ref b1), (.ref b1)])) rfl rfl (hb hby at_39)
  refine GlW.st st9 ?_
  replace Arv_b1 : Arv Z h9 b1 ka1 .char (4 : Int32) [(.int c2), (.int c4), (.int c6), (.int (nar .char c8))] (.int (0 : Int32)) := Arv.set Ar9 q9 Sz9 Ng9 Ha9 Fi9 (fits_nar_char _) W9 3 rfl (Nat.le_of_ble_eq_true rfl)
  rw [pk8.2] at Arv_b1
  have sfw9 := (show Safe Z consts_1 s.vm h7 b1 from Safe.arr hZ.alike Ar9 (by decide))
  have HC9 := HC7.trans (CHr.wr W9 sfw9 HC7.1)
  have hk9 := Nat.le_trans hk7 (Nat.le_of_eq W9.size.symm)
  have O9 := O7.wr W9 ge_b1
  have K9 := K7.wr W9 (Or.inr fr_b1)
  have N9 := Fr.snoc X9 N8 ge_b1
  clear st9 W9 hin9 Fi9 Ha9 Ng9 Sz9 q9 Ar9 cl9 sfw9
  clear O7 K7 N8 HC7 hk7 X8 e8
  show GlW Z consts_1 p e below s _ _ _ T9 (mkF m 40 #[.val (.int p1), .val (.int p2), .val (.int p3), .val (.int p4), .val (.int p5), .val (.int ((p1 &&& (2147483647 : Int32)) % (5 : Int32))), .unset, .unset, .unset, .unset, .unset, .unset] [(.ref b1)])
  refine GlW.st (fun _ kk => XS.astore X9.here hx rfl (hb hby at_40) rfl rfl (l' := #[.val (.int p1), .val (.int p2), .val (.int p3), .val (.int p4), .val (.int p5), .val (.int ((p1 &&& (2147483647 : Int32)) % (5 : Int32))), .val (.ref b1), .unset, .unset, .unset, .unset, .unset]) rfl kk) ?_
  show GlW Z consts_1 p e below s _ _ _ T9 (mkF m 42 #[.val (.int p1), .val (.int p2), .val (.int p3), .val (.int p4), .val (.int p5), .val (.int ((p1 &&& (2147483647 : Int32)) % (5 : Int32))), .val (.ref b1), .unset, .unset, .unset, .unset, .unset] [])
  obtain ⟨T10, h10, X10, e10, E10, A10, D10, V10, st10⟩ := newO X9 hx hZ hown (hw _ (List.mem_of_getElem? (i := 6) rfl)) (hw _ (List.mem_of_getElem? (i := 7) rfl)) (hw _ (List.mem_of_getElem? (i := 8) rfl)) e9 (g := (mkF m 42 #[.val (.int p1), .val (.int p2), .val (.int p3), .val (.int p4), .val (.int p5), .val (.int ((p1 &&& (2147483647 : Int32)) % (5 : Int32))), .val (.ref b1), .unset, .unset, .unset, .unset, .unset] [])) rfl (hb hby at_42) (by decide) (by decide)
  obtain ⟨b10, g10⟩ : ∃ z, z = h9.size := ⟨_, rfl⟩
  rw [← g10] at A10 D10 V10 st10
  refine GlW.st st10 ?_
  have ne_b1_b10 : b1 ≠ b10 := Nat.ne_of_lt (Nat.lt_of_lt_of_eq Arv_b1.lt g10.symm)
  have ge_b10 : n0 ≤ b10 := Nat.le_trans (Nat.le_trans (Nat.le_of_eq O9.1.symm) O9.2.1) (Nat.le_of_eq g10.symm)
  have fr_b10 : h0.size ≤ b10 := Nat.le_trans K9.1 (Nat.le_of_eq g10.symm)
  have Sf_b10 : Safe Z consts_1 s.vm h9 b10 := Safe.new (Nat.le_of_eq g10.symm)
  replace Sf_b10 := Safe.ext E10 HC9.1 Sf_b10
  have HC10 := HC9.trans (CHr.ext E10 HC9.1)
  have hk10 := Nat.le_trans hk9 E10.1
  replace Arv_b1 := Arv_b1.ext E10
  have O10 := O9.ext E10
  have K10 := K9.ext E10
  have Exa_b10 := A10
  have F_value_b10 : Fld Z h10 b10 "java/lang/String" "value" "[B" .null := D10 (Or.inr (hw _ (List.mem_of_getElem? (i := 24) rfl))) (ty := (.array .byte)) (by decide)
  have F_coder_b10 : Fld Z h10 b10 "java/lang/String" "coder" "B" (.int (0 : Int32)) := D10 (Or.inr (hw _ (List.mem_of_getElem? (i := 25) rfl))) (ty := .byte) (by decide)
  show GlW Z consts_1 p e below s _ _ _ T10 (mkF m 45 #[.val (.int p1), .val (.int p2), .val (.int p3), .val (.int p4), .val (.int p5), .val (.int ((p1 &&& (2147483647 : Int32)) % (5 : Int32))), .val (.ref b1), .unset, .unset, .unset, .unset, .unset] [(.ref b10)])
  refine GlW.st (fun _ kk => XS.dup X10.here hx rfl (hb hby at_45) rfl rfl kk) ?_
  show GlW Z consts_1 p e below s _ _ _ T10 (mkF m 46 #[.val (.int p1), .val (.int p2), .val (.int p3), .val (.int p4), .val (.int p5), .val (.int ((p1 &&& (2147483647 : Int32)) % (5 : Int32))), .val (.ref b1), .unset, .unset, .unset, .unset, .unset] [(.ref b10), (.ref b10)])
  have join58 : ∀ (n5 : Int32) (NN : Nat) (cs : List Int32) (t7 : Addr) (k7 : ClassId) (hNN : NN ≤ 4) (hn5 : n5 = Int32.ofNat NN) (hcs : cs = ([c2, c4, c6, c8] : List Int32).take NN) (T11 : State) (h11 : Heap) (L11 : List Loc) (vJ11 : Vm) (kJ11 : Nat), Stand p l e room_1 (s.setVm vJ11) m #[(.int p1), (.int p2), (.int p3), (.int p4), (.int p5)] below meth c T11 L11 8 48 → T11.heap = h11 → Fr n0 L11 → Old Z n0 h11 → Keep h0 h11 [] → s.Since vJ11 kJ11 → kJ11 ≤ h11.size → Z.Warmed39 vJ11 → vJ11.findClass "com/example/concurrency_quota/concurrencyquota/ServiceRequestTrimWhitespacePinLaw" = some m.cls → CHr Z consts_1 s.vm h0 vJ11 h11 → Safe Z consts_1 vJ11 h11 b10 → Exa Z h11 b10 "java/lang/String" → Arv Z h11 b1 ka1 .char (4 : Int32) [(.int c2), (.int c4), (.int c6), (.int c8)] (.int (0 : Int32)) → Fld Z h11 b10 "java/lang/String" "value" "[B" (.ref t7) → Fld Z h11 b10 "java/lang/String" "coder" "B" (.int 0) → Arv Z h11 t7 k7 .byte (Int32.ofNat cs.length) ((cs.map StrChars.lo8).map Value.int) (.int 0) → GlW Z consts_1 p e below s room_1.cells room_1.slots (Q_rm0 Z p1 p2 p3 p4 p5 cz fm h0 n0) T11 (mkF m 58 #[.val (.int p1), .val (.int p2), .val (.int p3), .val (.int p4), .val (.int p5), .val (.int n5), .val (.ref b1), .val (.ref b10), .unset, .unset, .unset, .unset] []) := by
    intro n5 NN cs t7 k7 hNN hn5 hcs T11 h11 L11 vJ11 kJ11 X11 e11 N11 O11 K11 hS11 hk11 hZ hown HC11 Sf_b10 Exa_b10 Arv_b1 F_value_b10 F_coder_b10 Arv_t7
    subst hn5
    have hlen : cs.length = NN := by rw [hcs, List.length_take]; simp only [List.length_cons, List.length_nil]; omega
    have hp4 : ∀ c ∈ ([c2, c4, c6, c8] : List Int32), ¬ c < 0 ∧ ¬ (255 : Int32) < c := by
      intro c hc
      simp only [List.mem_cons, List.not_mem_nil, or_false] at hc
      rcases hc with rfl | rfl | rfl | rfl
      · exact pk2.1
      · exact pk4.1
      · exact pk6.1
      · exact pk8.1
    have hp : ∀ c ∈ cs, ¬ c < 0 ∧ ¬ (255 : Int32) < c := fun c hc => hp4 c (by rw [hcs] at hc; exact List.mem_of_mem_take hc)
    have hl4 : cs.length ≤ 4 := by omega
    have hNb : NN < 2 ^ 31 := by omega
    show GlW Z consts_1 p e below s _ _ _ T11 (mkF m 58 #[.val (.int p1), .val (.int p2), .val (.int p3), .val (.int p4), .val (.int p5), .val (.int (Int32.ofNat NN)), .val (.ref b1), .val (.ref b10), .unset, .unset, .unset, .unset] [])
    refine GlW.st (fun _ kk => XS.aload X11.here hx rfl (hb hby at_58) rfl rfl kk) ?_
    show GlW Z consts_1 p e below s _ _ _ T11 (mkF m 60 #[.val (.int p1), .val (.int p2), .val (.int p3), .val (.int p4), .val (.int p5), .val (.int (Int32.ofNat NN)), .val (.ref b1), .val (.ref b10), .unset, .unset, .unset, .unset] [(.ref b10)])
    obtain ⟨v12, _, ⟨T12, L12, kQ12, nQ12⟩, -, X12, hSq12, hgq12, ⟨Lc12, hQ12, l12, y12, z12, HR12⟩, st12⟩ := callSS X11 hx (y := (⟨"com/example/concurrency_quota/concurrencyquota/ServiceRequest", "trimWhitespace", "(Ljava/lang/String;)Ljava/lang/String;"⟩ : MethodName)) hown (mvT hZ (hw _ (List.mem_of_getElem? (i := 30) rfl))) (mvT hZ (hw _ (List.mem_of_getElem? (i := 31) rfl))) (mvT hZ (hw _ (List.mem_of_getElem? (i := 32) rfl))) (mvT hZ (hw _ (List.mem_of_getElem? (i := 33) rfl))) (by decide) (backOfSH (W := 0) (rmTW l Z a0 hw [] b10 t7 k7 cs fm cz h11 n0 O11 Exa_b10 F_value_b10 F_coder_b10 Arv_t7 hp hl4 S_COMPACT hcz S_SI rG) hZ (hw _ (List.mem_of_getElem? (i := 33) rfl)) (hw _ (List.mem_of_getElem? (i := 32) rfl)) (by decide) (by decide) hEL HC11.1) (g := (mkF m 60 #[.val (.int p1), .val (.int p2), .val (.int p3), .val (.int p4), .val (.int p5), .val (.int (Int32.ofNat NN)), .val (.ref b1), .val (.ref b10), .unset, .unset, .unset, .unset] [(.ref b10)])) rfl (by rw [hml]; rfl) (argsL := [(.ref b10)]) (rest := []) (lenOf pd_rm0_1 rfl) rfl (by show 2 * 0 + _ ≤ _; exact Nat.le_of_eq rfl) (hb hby at_60) (fun _ _ => ⟨rfl, e11, (by decide : 8 + 2 ≤ _), (by decide : 48 + 8 ≤ _)⟩)
    dsimp only [Pt.U, Pt.locs, Pt.cells, Pt.slots] at X12 l12 y12 z12 st12 hQ12 hSq12 hgq12 HR12
    subst y12 z12
    obtain ⟨h12, e12⟩ : ∃ z, T12.heap = z := ⟨_, rfl⟩
    rw [e12] at hQ12 HR12 hSq12 hgq12
    obtain ⟨r12, tt12, kt12, j12, ee12, rfl, Nq12, Kq12, Exa_r12, F_value_r12, F_coder_r12, Ar12, Ts12⟩ := hQ12
    rw [e11] at hgq12
    have hS12 := (hS11).trans hSq12 (Nat.le_trans hk11 hgq12)
    have hk12 := Nat.le_refl h12.size
    have hZ12 : Z.Warmed39 T12.vm := State.Warmed39.trans (t := s.setVm vJ11) hZ hSq12.1
    have hown12 : T12.vm.findClass "com/example/concurrency_quota/concurrencyquota/ServiceRequestTrimWhitespacePinLaw" = some m.cls := by rw [hSq12.1.alike.findClass]; exact hown
    have Sf_b10 := HR12.safe Exa_b10.lt Sf_b10
    have HC12 := HC11.trans HR12
    have hZ := hZ12
    have hown := hown12
    have N12 : Fr n0 L12 := l12 ▸ Fr.app N11 Nq12
    refine GlW.st (fun _ kk => st12.trans kk) ?_
    replace Arv_b1 := Arv_b1.keep Kq12 nin0
    replace Exa_b10 := Exa_b10.keep Kq12
    replace F_value_b10 := F_value_b10.keep Kq12 nin0
    replace F_coder_b10 := F_coder_b10.keep Kq12 nin0
    replace Arv_t7 := Arv_t7.keep Kq12 nin0
    have O12 := O11.keep Kq12 all0
    have K12 := K11.trans Kq12 all0
    clear st12 HR12
    clear O11 K11 N11 HC11 hk11 X11 e11
    show GlW Z consts_1 p e below s _ _ _ T12 (mkF m 63 #[.val (.int p1), .val (.int p2), .val (.int p3), .val (.int p4), .val (.int p5), .val (.int (Int32.ofNat NN)), .val (.ref b1), .val (.ref b10), .unset, .unset, .unset, .unset] [(.ref r12)])
    obtain ⟨hs1, hs2, hs3, hs4, hs5, hs6⟩ := own_tail (C := ([c2, c4, c6, c8] : List Int32)) rfl hNN hcs Ts12
    obtain ⟨D, hD⟩ : ∃ D, D = (cs.drop j12).take (ee12 - j12) := ⟨_, rfl⟩
    obtain ⟨hDl, hDg, hDm⟩ := own_D (C := ([c2, c4, c6, c8] : List Int32)) rfl hNN hcs hs1 hs2 hD
    have Arv_tt12 : Arv Z h12 tt12 kt12 .byte (Int32.ofNat D.length) ((D.map StrChars.lo8).map Value.int) (.int 0) := by
      rw [hDl, hD]; exact Ar12
    have hpD : ∀ c ∈ D, ¬ c < 0 ∧ ¬ (255 : Int32) < c := fun c hc => hp4 c (hDm c hc)
    have hD4 : D.length ≤ 4 := by omega
    have hD4k : D.length ≤ 4000 := by omega
    have hcdD := StrChars.Road.codOf (cs := D) rfl (fun c hc => (hpD c hc).2)
    have hbdD := own_up hpD
    have hjb : j12 < 2 ^ 31 := by omega
    have heb : ee12 < 2 ^ 31 := by omega
    clear hD Ts12 Ar12 hp4
    refine GlW.st (fun _ kk => XS.astore X12.here hx rfl (hb hby at_63) rfl rfl (l' := #[.val (.int p1), .val (.int p2), .val (.int p3), .val (.int p4), .val (.int p5), .val (.int (Int32.ofNat NN)), .val (.ref b1), .val (.ref b10), .val (.ref r12), .unset, .unset, .unset]) rfl kk) ?_
    show GlW Z consts_1 p e below s _ _ _ T12 (mkF m 65 #[.val (.int p1), .val (.int p2), .val (.int p3), .val (.int p4), .val (.int p5), .val (.int (Int32.ofNat NN)), .val (.ref b1), .val (.ref b10), .val (.ref r12), .unset, .unset, .unset] [])
    have join127 : ∀ (fz : Int32) (hfz : fz = Int32.ofNat j12) (T13 : State) (L13 : List Loc), Stand p l e room_1 (s.setVm T12.vm) m #[(.int p1), (.int p2), (.int p3), (.int p4), (.int p5)] below meth c T13 L13 10 56 → T13.heap = h12 → Fr n0 L13 → GlW Z consts_1 p e below s room_1.cells room_1.slots (Q_rm0 Z p1 p2 p3 p4 p5 cz fm h0 n0) T13 (mkF m 127 #[.val (.int p1), .val (.int p2), .val (.int p3), .val (.int p4), .val (.int p5), .val (.int (Int32.ofNat NN)), .val (.ref b1), .val (.ref b10), .val (.ref r12), .unset, .unset, .unset] [(.int fz)]) := by
      intro fz hfz T13 L13 X13 e13 N13
      subst hfz
      show GlW Z consts_1 p e below s _ _ _ T13 (mkF m 127 #[.val (.int p1), .val (.int p2), .val (.int p3), .val (.int p4), .val (.int p5), .val (.int (Int32.ofNat NN)), .val (.ref b1), .val (.ref b10), .val (.ref r12), .unset, .unset, .unset] [(.int (Int32.ofNat j12))])
      refine GlW.st (fun _ kk => XS.istore X13.here hx rfl (hb hby at_127) rfl (l' := #[.val (.int p1), .val (.int p2), .val (.int p3), .val (.int p4), .val (.int p5), .val (.int (Int32.ofNat NN)), .val (.ref b1), .val (.ref b10), .val (.ref r12), .val (.int (Int32.ofNat j12)), .unset, .unset]) rfl kk) ?_
      show GlW Z consts_1 p e below s _ _ _ T13 (mkF m 129 #[.val (.int p1), .val (.int p2), .val (.int p3), .val (.int p4), .val (.int p5), .val (.int (Int32.ofNat NN)), .val (.ref b1), .val (.ref b10), .val (.ref r12), .val (.int (Int32.ofNat j12)), .unset, .unset] [])
      have join191 : ∀ (ez : Int32) (hez : ez = Int32.ofNat ee12) (T14 : State) (L14 : List Loc), Stand p l e room_1 (s.setVm T12.vm) m #[(.int p1), (.int p2), (.int p3), (.int p4), (.int p5)] below meth c T14 L14 10 56 → T14.heap = h12 → Fr n0 L14 → GlW Z consts_1 p e below s room_1.cells room_1.slots (Q_rm0 Z p1 p2 p3 p4 p5 cz fm h0 n0) T14 (mkF m 191 #[.val (.int p1), .val (.int p2), .val (.int p3), .val (.int p4), .val (.int p5), .val (.int (Int32.ofNat NN)), .val (.ref b1), .val (.ref b10), .val (.ref r12), .val (.int (Int32.ofNat j12)), .unset, .unset] [(.int ez)]) := by
        intro ez hez T14 L14 X14 e14 N14
        subst hez
        show GlW Z consts_1 p e below s _ _ _ T14 (mkF m 191 #[.val (.int p1), .val (.int p2), .val (.int p3), .val (.int p4), .val (.int p5), .val (.int (Int32.ofNat NN)), .val (.ref b1), .val (.ref b10), .val (.ref r12), .val (.int (Int32.ofNat j12)), .unset, .unset] [(.int (Int32.ofNat ee12))])
        refine GlW.st (fun _ kk => XS.istore X14.here hx rfl (hb hby at_191) rfl (l' := #[.val (.int p1), .val (.int p2), .val (.int p3), .val (.int p4), .val (.int p5), .val (.int (Int32.ofNat NN)), .val (.ref b1), .val (.ref b10), .val (.ref r12), .val (.int (Int32.ofNat j12)), .val (.int (Int32.ofNat ee12)), .unset]) rfl kk) ?_
        show GlW Z consts_1 p e below s _ _ _ T14 (mkF m 193 #[.val (.int p1), .val (.int p2), .val (.int p3), .val (.int p4), .val (.int p5), .val (.int (Int32.ofNat NN)), .val (.ref b1), .val (.ref b10), .val (.ref r12), .val (.int (Int32.ofNat j12)), .val (.int (Int32.ofNat ee12)), .unset] [])
        have join209 : ∀ (xz : Int32) (hxz : xz = Int32.ofNat D.length) (T15 : State) (L15 : List Loc), Stand p l e room_1 (s.setVm T12.vm) m #[(.int p1), (.int p2), (.int p3), (.int p4), (.int p5)] below meth c T15 L15 10 56 → T15.heap = h12 → Fr n0 L15 → GlW Z consts_1 p e below s room_1.cells room_1.slots (Q_rm0 Z p1 p2 p3 p4 p5 cz fm h0 n0) T15 (mkF m 209 #[.val (.int p1), .val (.int p2), .val (.int p3), .val (.int p4), .val (.int p5), .val (.int (Int32.ofNat NN)), .val (.ref b1), .val (.ref b10), .val (.ref r12), .val (.int (Int32.ofNat j12)), .val (.int (Int32.ofNat ee12)), .unset] [(.int xz)]) := by
          intro xz hxz T15 L15 X15 e15 N15
          subst hxz
          show GlW Z consts_1 p e below s _ _ _ T15 (mkF m 209 #[.val (.int p1), .val (.int p2), .val (.int p3), .val (.int p4), .val (.int p5), .val (.int (Int32.ofNat NN)), .val (.ref b1), .val (.ref b10), .val (.ref r12), .val (.int (Int32.ofNat j12)), .val (.int (Int32.ofNat ee12)), .unset] [(.int (Int32.ofNat D.length))])
          refine GlW.st (fun _ kk => XS.istore X15.here hx rfl (hb hby at_209) rfl (l' := #[.val (.int p1), .val (.int p2), .val (.int p3), .val (.int p4), .val (.int p5), .val (.int (Int32.ofNat NN)), .val (.ref b1), .val (.ref b10), .val (.ref r12), .val (.int (Int32.ofNat j12)), .val (.int (Int32.ofNat ee12)), .val (.int (Int32.ofNat D.length))]) rfl kk) ?_
          show GlW Z consts_1 p e below s _ _ _ T15 (mkF m 211 #[.val (.int p1), .val (.int p2), .val (.int p3), .val (.int p4), .val (.int p5), .val (.int (Int32.ofNat NN)), .val (.ref b1), .val (.ref b10), .val (.ref r12), .val (.int (Int32.ofNat j12)), .val (.int (Int32.ofNat ee12)), .val (.int (Int32.ofNat D.length))] [])
          refine GlW.st (fun _ kk => XS.aload X15.here hx rfl (hb hby at_211) rfl rfl kk) ?_
          show GlW Z consts_1 p e below s _ _ _ T15 (mkF m 213 #[.val (.int p1), .val (.int p2), .val (.int p3), .val (.int p4), .val (.int p5), .val (.int (Int32.ofNat NN)), .val (.ref b1), .val (.ref b10), .val (.ref r12), .val (.int (Int32.ofNat j12)), .val (.int (Int32.ofNat ee12)), .val (.int (Int32.ofNat D.length))] [(.ref r12)])
          refine GlW.st (fun _ kk => XS.ifnullNo X15.here hx rfl (hb hby at_213) rfl kk) ?_
          show GlW Z consts_1 p e below s _ _ _ T15 (mkF m 216 #[.val (.int p1), .val (.int p2), .val (.int p3), .val (.int p4), .val (.int p5), .val (.int (Int32.ofNat NN)), .val (.ref b1), .val (.ref b10), .val (.ref r12), .val (.int (Int32.ofNat j12)), .val (.int (Int32.ofNat ee12)), .val (.int (Int32.ofNat D.length))] [])
          refine GlW.st (fun _ kk => XS.aload X15.here hx rfl (hb hby at_216) rfl rfl kk) ?_
          show GlW Z consts_1 p e below s _ _ _ T15 (mkF m 218 #[.val (.int p1), .val (.int p2), .val (.int p3), .val (.int p4), .val (.int p5), .val (.int (Int32.ofNat NN)), .val (.ref b1), .val (.ref b10), .val (.ref r12), .val (.int (Int32.ofNat j12)), .val (.int (Int32.ofNat ee12)), .val (.int (Int32.ofNat D.length))] [(.ref r12)])
          obtain ⟨cq16, kq16, qa16, qb16, qc16⟩ := isOf (s := s.setVm T12.vm) hZ e15 Exa_r12
          obtain ⟨v16, _, ⟨T16, L16, kQ16, nQ16⟩, -, X16, ⟨Lc16, hQ16, l16, y16, z16⟩, st16⟩ := X15.virtualBack hx (y := (⟨"java/lang/String", "length", "()I"⟩ : MethodName)) (z := (⟨"java/lang/String", "length", "()I"⟩ : MethodName)) hown (mvT hZ (hw _ (List.mem_of_getElem? (i := 62) rfl))) (mvT hZ (hw _ (List.mem_of_getElem? (i := 35) rfl))) (notFace_of_selects (args := #[]) (mvT hZ (hw _ (List.mem_of_getElem? (i := 37) rfl)))) (mvT hZ (hw _ (List.mem_of_getElem? (i := 37) rfl))) (mvT hZ (hw _ (List.mem_of_getElem? (i := 36) rfl))) (by decide) (StrChars.Road.lenW (W := 0) (s := (s.setVm T12.vm)) hZ hwln (kI := 4) (hw _ (List.mem_of_getElem? (i := 7) rfl)) (cs := D) Exa_r12 F_value_r12 F_coder_r12 Arv_tt12 hcdD hbdD (S_COMPACT.ext O12.2) hcz hD4k (by decide) (by decide)) qa16 qc16 (g := (mkF m 218 #[.val (.int p1), .val (.int p2), .val (.int p3), .val (.int p4), .val (.int p5), .val (.int (Int32.ofNat NN)), .val (.ref b1), .val (.ref b10), .val (.ref r12), .val (.int (Int32.ofNat j12)), .val (.int (Int32.ofNat ee12)), .val (.int (Int32.ofNat D.length))] [(.ref r12)])) rfl (by rw [hml]; rfl) (Steps.refl _) (argsL := []) (rest := []) (lenOf pd_rm0_2 rfl) rfl (by show 2 * 0 + _ ≤ _; exact Nat.le_of_eq rfl) (hb hby at_218) (fun _ _ => ⟨rfl, e15, (by decide : 10 + 0 ≤ _), (by decide : 56 + 0 ≤ _)⟩)
          dsimp only [Pt.U, Pt.locs, Pt.cells, Pt.slots] at X16 l16 y16 z16 st16 hQ16
          subst y16 z16
          obtain ⟨hv16, hl16, e16⟩ := hQ16
          obtain rfl : v16 = some (.int (Int32.ofNat D.length)) := hv16
          subst hl16
          have Nq16 := Fr.nil n0
          have N16 : Fr n0 L16 := l16 ▸ Fr.app N15 Nq16
          refine GlW.st (fun _ kk => st16.trans kk) ?_
          clear st16 qc16 qb16 qa16 kq16 cq16
          clear N15 X15 e15
          show GlW Z consts_1 p e below s _ _ _ T16 (mkF m 221 #[.val (.int p1), .val (.int p2), .val (.int p3), .val (.int p4), .val (.int p5), .val (.int (Int32.ofNat NN)), .val (.ref b1), .val (.ref b10), .val (.ref r12), .val (.int (Int32.ofNat j12)), .val (.int (Int32.ofNat ee12)), .val (.int (Int32.ofNat D.length))] [(.int (Int32.ofNat D.length))])
          refine GlW.st (fun _ kk => XS.iload X16.here hx rfl (hb hby at_221) rfl kk) ?_
          show GlW Z consts_1 p e below s _ _ _ T16 (mkF m 223 #[.val (.int p1), .val (.int p2), .val (.int p3), .val (.int p4), .val (.int p5), .val (.int (Int32.ofNat NN)), .val (.ref b1), .val (.ref b10), .val (.ref r12), .val (.int (Int32.ofNat j12)), .val (.int (Int32.ofNat ee12)), .val (.int (Int32.ofNat D.length))] [(.int (Int32.ofNat D.length)), (.int (Int32.ofNat D.length))])
          refine GlW.st (fun _ kk => XS.icmpYes X16.here hx rfl (pc0 := 223) (pc' := 228) rfl (hb hby at_223) rfl (teq (rfl : (Int32.ofNat D.length) = (Int32.ofNat D.length))).1 (by decide) (by decide) kk) ?_
          show GlW Z consts_1 p e below s _ _ _ T16 (mkF m 228 #[.val (.int p1), .val (.int p2), .val (.int p3), .val (.int p4), .val (.int p5), .val (.int (Int32.ofNat NN)), .val (.ref b1), .val (.ref b10), .val (.ref r12), .val (.int (Int32.ofNat j12)), .val (.int (Int32.ofNat ee12)), .val (.int (Int32.ofNat D.length))] [])
          refine GlW.st (fun _ kk => XS.aload X16.here hx rfl (hb hby at_228) rfl rfl kk) ?_
          show GlW Z consts_1 p e below s _ _ _ T16 (mkF m 230 #[.val (.int p1), .val (.int p2), .val (.int p3), .val (.int p4), .val (.int p5), .val (.int (Int32.ofNat NN)), .val (.ref b1), .val (.ref b10), .val (.ref r12), .val (.int (Int32.ofNat j12)), .val (.int (Int32.ofNat ee12)), .val (.int (Int32.ofNat D.length))] [(.ref r12)])
          refine GlW.st (fun _ kk => XS.iload X16.here hx rfl (hb hby at_230) rfl kk) ?_
          show GlW Z consts_1 p e below s _ _ _ T16 (mkF m 232 #[.val (.int p1), .val (.int p2), .val (.int p3), .val (.int p4), .val (.int p5), .val (.int (Int32.ofNat NN)), .val (.ref b1), .val (.ref b10), .val (.ref r12), .val (.int (Int32.ofNat j12)), .val (.int (Int32.ofNat ee12)), .val (.int (Int32.ofNat D.length))] [(.int (Int32.ofNat D.length)), (.ref r12)])
          refine GlW.st (fun _ kk => XS.aload X16.here hx rfl (hb hby at_232) rfl rfl kk) ?_
          show GlW Z consts_1 p e below s _ _ _ T16 (mkF m 234 #[.val (.int p1), .val (.int p2), .val (.int p3), .val (.int p4), .val (.int p5), .val (.int (Int32.ofNat NN)), .val (.ref b1), .val (.ref b10), .val (.ref r12), .val (.int (Int32.ofNat j12)), .val (.int (Int32.ofNat ee12)), .val (.int (Int32.ofNat D.length))] [(.ref b1), (.int (Int32.ofNat D.length)), (.ref r12)])
          refine GlW.st (fun _ kk => XS.iload X16.here hx rfl (hb hby at_234) rfl kk) ?_
          show GlW Z consts_1 p e below s _ _ _ T16 (mkF m 236 #[.val (.int p1), .val (.int p2), .val (.int p3), .val (.int p4), .val (.int p5), .val (.int (Int32.ofNat NN)), .val (.ref b1), .val (.ref b10), .val (.ref r12), .val (.int (Int32.ofNat j12)), .val (.int (Int32.ofNat ee12)), .val (.int (Int32.ofNat D.length))] [(.int (Int32.ofNat j12)), (.ref b1), (.int (Int32.ofNat D.length)), (.ref r12)])
          refine GlW.st (fun _ kk => XS.iconst X16.here hx rfl (hb hby at_236) kk) ?_
          show GlW Z consts_1 p e below s _ _ _ T16 (mkF m 237 #[.val (.int p1), .val (.int p2), .val (.int p3), .val (.int p4), .val (.int p5), .val (.int (Int32.ofNat NN)), .val (.ref b1), .val (.ref b10), .val (.ref r12), .val (.int (Int32.ofNat j12)), .val (.int (Int32.ofNat ee12)), .val (.int (Int32.ofNat D.length))] [(.int (0 : Int32)), (.int (Int32.ofNat j12)), (.ref b1), (.int (Int32.ofNat D.length)), (.ref r12)])
          obtain ⟨v17, _, ⟨T17, L17, kQ17, nQ17⟩, -, X17, ⟨Lc17, hQ17, l17, y17, z17⟩, st17⟩ := Jvm.LawKit.callS X16 hx (y := (⟨"com/example/concurrency_quota/concurrencyquota/ServiceRequestTrimWhitespacePinLaw", "at", "(Ljava/lang/String;I[CII)Z"⟩ : MethodName)) hown (mvT hZ (hw _ (List.mem_of_getElem? (i := 63) rfl))) (mvT hZ (hw _ (List.mem_of_getElem? (i := 64) rfl))) (mvT hZ (hw _ (List.mem_of_getElem? (i := 4) rfl))) (mvT hZ (hw _ (List.mem_of_getElem? (i := 65) rfl))) (by decide) (backOf (W := 0) (rmA0 l Z a0 hw [] r12 (Int32.ofNat D.length) b1 (Int32.ofNat j12) tt12 kt12 D fm cz ka1 c2 c4 c6 c8 j12 h12 n0 O12 rfl rfl Exa_r12 F_value_r12 F_coder_r12 Arv_tt12 hpD hD4 Arv_b1 (by omega) hDg S_COMPACT hcz S_SI rG) hZ (hw _ (List.mem_of_getElem? (i := 65) rfl)) (hw _ (List.mem_of_getElem? (i := 4) rfl)) (by decide) (by decide)) (g := (mkF m 237 #[.val (.int p1), .val (.int p2), .val (.int p3), .val (.int p4), .val (.int p5), .val (.int (Int32.ofNat NN)), .val (.ref b1), .val (.ref b10), .val (.ref r12), .val (.int (Int32.ofNat j12)), .val (.int (Int32.ofNat ee12)), .val (.int (Int32.ofNat D.length))] [(.int (0 : Int32)), (.int (Int32.ofNat j12)), (.ref b1), (.int (Int32.ofNat D.length)), (.ref r12)])) rfl (by rw [hml]; rfl) (argsL := [(.ref r12), (.int (Int32.ofNat D.length)), (.ref b1), (.int (Int32.ofNat j12)), (.int (0 : Int32))]) (rest := []) (lenOf pd_rm0_3 rfl) rfl (by show 2 * 0 + _ ≤ _; exact Nat.le_of_eq rfl) (hb hby at_237) (fun _ _ => ⟨rfl, e16, (by decide : 10 + 0 ≤ _), (by decide : 56 + 0 ≤ _)⟩)
          dsimp only [Pt.U, Pt.locs, Pt.cells, Pt.slots] at X17 l17 y17 z17 st17 hQ17
          subst y17 z17
          obtain ⟨rfl, Nq17, e17⟩ := hQ17
          have N17 : Fr n0 L17 := l17 ▸ Fr.app N16 Nq17
          refine GlW.st st17 ?_
          clear st17
          clear N16 X16 e16
          show GlW Z consts_1 p e below s _ _ _ T17 (mkF m 240 #[.val (.int p1), .val (.int p2), .val (.int p3), .val (.int p4), .val (.int p5), .val (.int (Int32.ofNat NN)), .val (.ref b1), .val (.ref b10), .val (.ref r12), .val (.int (Int32.ofNat j12)), .val (.int (Int32.ofNat ee12)), .val (.int (Int32.ofNat D.length))] [(.int (1 : Int32))])
          refine GlW.st (fun _ kk => XS.ifNo X17.here hx rfl (hb hby at_240) rfl ((if0 _ _).trans (feq (by decide : ¬ ((1 : Int32) = (0 : Int32)))).1) kk) ?_
          show GlW Z consts_1 p e below s _ _ _ T17 (mkF m 243 #[.val (.int p1), .val (.int p2), .val (.int p3), .val (.int p4), .val (.int p5), .val (.int (Int32.ofNat NN)), .val (.ref b1), .val (.ref b10), .val (.ref r12), .val (.int (Int32.ofNat j12)), .val (.int (Int32.ofNat ee12)), .val (.int (Int32.ofNat D.length))] [])
          refine GlW.st (fun _ kk => XS.aload X17.here hx rfl (hb hby at_243) rfl rfl kk) ?_
          show GlW Z consts_1 p e below s _ _ _ T17 (mkF m 245 #[.val (.int p1), .val (.int p2), .val (.int p3), .val (.int p4), .val (.int p5), .val (.int (Int32.ofNat NN)), .val (.ref b1), .val (.ref b10), .val (.ref r12), .val (.int (Int32.ofNat j12)), .val (.int (Int32.ofNat ee12)), .val (.int (Int32.ofNat D.length))] [(.ref r12)])
          refine GlW.st (fun _ kk => XS.iload X17.here hx rfl (hb hby at_245) rfl kk) ?_
          show GlW Z consts_1 p e below s _ _ _ T17 (mkF m 247 #[.val (.int p1), .val (.int p2), .val (.int p3), .val (.int p4), .val (.int p5), .val (.int (Int32.ofNat NN)), .val (.ref b1), .val (.ref b10), .val (.ref r12), .val (.int (Int32.ofNat j12)), .val (.int (Int32.ofNat ee12)), .val (.int (Int32.ofNat D.length))] [(.int (Int32.ofNat D.length)), (.ref r12)])
          refine GlW.st (fun _ kk => XS.aload X17.here hx rfl (hb hby at_247) rfl rfl kk) ?_
          show GlW Z consts_1 p e below s _ _ _ T17 (mkF m 249 #[.val (.int p1), .val (.int p2), .val (.int p3), .val (.int p4), .val (.int p5), .val (.int (Int32.ofNat NN)), .val (.ref b1), .val (.ref b10), .val (.ref r12), .val (.int (Int32.ofNat j12)), .val (.int (Int32.ofNat ee12)), .val (.int (Int32.ofNat D.length))] [(.ref b1), (.int (Int32.ofNat D.length)), (.ref r12)])
          refine GlW.st (fun _ kk => XS.iload X17.here hx rfl (hb hby at_249) rfl kk) ?_
          show GlW Z consts_1 p e below s _ _ _ T17 (mkF m 251 #[.val (.int p1), .val (.int p2), .val (.int p3), .val (.int p4), .val (.int p5), .val (.int (Int32.ofNat NN)), .val (.ref b1), .val (.ref b10), .val (.ref r12), .val (.int (Int32.ofNat j12)), .val (.int (Int32.ofNat ee12)), .val (.int (Int32.ofNat D.length))] [(.int (Int32.ofNat j12)), (.ref b1), (.int (Int32.ofNat D.length)), (.ref r12)])
          refine GlW.st (fun _ kk => XS.iconst X17.here hx rfl (hb hby at_251) kk) ?_
          show GlW Z consts_1 p e below s _ _ _ T17 (mkF m 252 #[.val (.int p1), .val (.int p2), .val (.int p3), .val (.int p4), .val (.int p5), .val (.int (Int32.ofNat NN)), .val (.ref b1), .val (.ref b10), .val (.ref r12), .val (.int (Int32.ofNat j12)), .val (.int (Int32.ofNat ee12)), .val (.int (Int32.ofNat D.length))] [(.int (1 : Int32)), (.int (Int32.ofNat j12)), (.ref b1), (.int (Int32.ofNat D.length)), (.ref r12)])
          obtain ⟨v18, _, ⟨T18, L18, kQ18, nQ18⟩, -, X18, ⟨Lc18, hQ18, l18, y18, z18⟩, st18⟩ := Jvm.LawKit.callS X17 hx (y := (⟨"com/example/concurrency_quota/concurrencyquota/ServiceRequestTrimWhitespacePinLaw", "at", "(Ljava/lang/String;I[CII)Z"⟩ : MethodName)) hown (mvT hZ (hw _ (List.mem_of_getElem? (i := 63) rfl))) (mvT hZ (hw _ (List.mem_of_getElem? (i := 64) rfl))) (mvT hZ (hw _ (List.mem_of_getElem? (i := 4) rfl))) (mvT hZ (hw _ (List.mem_of_getElem? (i := 65) rfl))) (by decide) (backOf (W := 0) (rmA1 l Z a0 hw [] r12 (Int32.ofNat D.length) b1 (Int32.ofNat j12) tt12 kt12 D fm cz ka1 c2 c4 c6 c8 j12 h12 n0 O12 rfl rfl Exa_r12 F_value_r12 F_coder_r12 Arv_tt12 hpD hD4 Arv_b1 (by omega) hDg S_COMPACT hcz S_SI rG) hZ (hw _ (List.mem_of_getElem? (i := 65) rfl)) (hw _ (List.mem_of_getElem? (i := 4) rfl)) (by decide) (by decide)) (g := (mkF m 252 #[.val (.int p1), .val (.int p2), .val (.int p3), .val (.int p4), .val (.int p5), .val (.int (Int32.ofNat NN)), .val (.ref b1), .val (.ref b10), .val (.ref r12), .val (.int (Int32.ofNat j12)), .val (.int (Int32.ofNat ee12)), .val (.int (Int32.ofNat D.length))] [(.int (1 : Int32)), (.int (Int32.ofNat j12)), (.ref b1), (.int (Int32.ofNat D.length)), (.ref r12)])) rfl (by rw [hml]; rfl) (argsL := [(.ref r12), (.int (Int32.ofNat D.length)), (.ref b1), (.int (Int32.ofNat j12)), (.int (1 : Int32))]) (rest := []) (lenOf pd_rm0_3 rfl) rfl (by show 2 * 0 + _ ≤ _; exact Nat.le_of_eq rfl) (hb hby at_252) (fun _ _ => ⟨rfl, e17, (by decide : 10 + 0 ≤ _), (by decide : 56 + 0 ≤ _)⟩)
          dsimp only [Pt.U, Pt.locs, Pt.cells, Pt.slots] at X18 l18 y18 z18 st18 hQ18
          subst y18 z18
          obtain ⟨rfl, Nq18, e18⟩ := hQ18
          have N18 : Fr n0 L18 := l18 ▸ Fr.app N17 Nq18
          refine GlW.st st18 ?_
          clear st18
          clear N17 X17 e17
          show GlW Z consts_1 p e below s _ _ _ T18 (mkF m 255 #[.val (.int p1), .val (.int p2), .val (.int p3), .val (.int p4), .val (.int p5), .val (.int (Int32.ofNat NN)), .val (.ref b1), .val (.ref b10), .val (.ref r12), .val (.int (Int32.ofNat j12)), .val (.int (Int32.ofNat ee12)), .val (.int (Int32.ofNat D.length))] [(.int (1 : Int32))])
          refine GlW.st (fun _ kk => XS.ifNo X18.here hx rfl (hb hby at_255) rfl ((if0 _ _).trans (feq (by decide : ¬ ((1 : Int32) = (0 : Int32)))).1) kk) ?_
          show GlW Z consts_1 p e below s _ _ _ T18 (mkF m 258 #[.val (.int p1), .val (.int p2), .val (.int p3), .val (.int p4), .val (.int p5), .val (.int (Int32.ofNat NN)), .val (.ref b1), .val (.ref b10), .val (.ref r12), .val (.int (Int32.ofNat j12)), .val (.int (Int32.ofNat ee12)), .val (.int (Int32.ofNat D.length))] [])
          refine GlW.st (fun _ kk => XS.aload X18.here hx rfl (hb hby at_258) rfl rfl kk) ?_
          show GlW Z consts_1 p e below s _ _ _ T18 (mkF m 260 #[.val (.int p1), .val (.int p2), .val (.int p3), .val (.int p4), .val (.int p5), .val (.int (Int32.ofNat NN)), .val (.ref b1), .val (.ref b10), .val (.ref r12), .val (.int (Int32.ofNat j12)), .val (.int (Int32.ofNat ee12)), .val (.int (Int32.ofNat D.length))] [(.ref r12)])
          refine GlW.st (fun _ kk => XS.iload X18.here hx rfl (hb hby at_260) rfl kk) ?_
          show GlW Z consts_1 p e below s _ _ _ T18 (mkF m 262 #[.val (.int p1), .val (.int p2), .val (.int p3), .val (.int p4), .val (.int p5), .val (.int (Int32.ofNat NN)), .val (.ref b1), .val (.ref b10), .val (.ref r12), .val (.int (Int32.ofNat j12)), .val (.int (Int32.ofNat ee12)), .val (.int (Int32.ofNat D.length))] [(.int (Int32.ofNat D.length)), (.ref r12)])
          refine GlW.st (fun _ kk => XS.aload X18.here hx rfl (hb hby at_262) rfl rfl kk) ?_
          show GlW Z consts_1 p e below s _ _ _ T18 (mkF m 264 #[.val (.int p1), .val (.int p2), .val (.int p3), .val (.int p4), .val (.int p5), .val (.int (Int32.ofNat NN)), .val (.ref b1), .val (.ref b10), .val (.ref r12), .val (.int (Int32.ofNat j12)), .val (.int (Int32.ofNat ee12)), .val (.int (Int32.ofNat D.length))] [(.ref b1), (.int (Int32.ofNat D.length)), (.ref r12)])
          refine GlW.st (fun _ kk => XS.iload X18.here hx rfl (hb hby at_264) rfl kk) ?_
          show GlW Z consts_1 p e below s _ _ _ T18 (mkF m 266 #[.val (.int p1), .val (.int p2), .val (.int p3), .val (.int p4), .val (.int p5), .val (.int (Int32.ofNat NN)), .val (.ref b1), .val (.ref b10), .val (.ref r12), .val (.int (Int32.ofNat j12)), .val (.int (Int32.ofNat ee12)), .val (.int (Int32.ofNat D.length))] [(.int (Int32.ofNat j12)), (.ref b1), (.int (Int32.ofNat D.length)), (.ref r12)])
          refine GlW.st (fun _ kk => XS.iconst X18.here hx rfl (hb hby at_266) kk) ?_
          show GlW Z consts_1 p e below s _ _ _ T18 (mkF m 267 #[.val (.int p1), .val (.int p2), .val (.int p3), .val (.int p4), .val (.int p5), .val (.int (Int32.ofNat NN)), .val (.ref b1), .val (.ref b10), .val (.ref r12), .val (.int (Int32.ofNat j12)), .val (.int (Int32.ofNat ee12)), .val (.int (Int32.ofNat D.length))] [(.int (2 : Int32)), (.int (Int32.ofNat j12)), (.ref b1), (.int (Int32.ofNat D.length)), (.ref r12)])
          obtain ⟨v19, _, ⟨T19, L19, kQ19, nQ19⟩, -, X19, ⟨Lc19, hQ19, l19, y19, z19⟩, st19⟩ := Jvm.LawKit.callS X18 hx (y := (⟨"com/example/concurrency_quota/concurrencyquota/ServiceRequestTrimWhitespacePinLaw", "at", "(Ljava/lang/String;I[CII)Z"⟩ : MethodName)) hown (mvT hZ (hw _ (List.mem_of_getElem? (i := 63) rfl))) (mvT hZ (hw _ (List.mem_of_getElem? (i := 64) rfl))) (mvT hZ (hw _ (List.mem_of_getElem? (i := 4) rfl))) (mvT hZ (hw _ (List.mem_of_getElem? (i := 65) rfl))) (by decide) (backOf (W := 0) (rmA2 l Z a0 hw [] r12 (Int32.ofNat D.length) b1 (Int32.ofNat j12) tt12 kt12 D fm cz ka1 c2 c4 c6 c8 j12 h12 n0 O12 rfl rfl Exa_r12 F_value_r12 F_coder_r12 Arv_tt12 hpD hD4 Arv_b1 (by omega) hDg S_COMPACT hcz S_SI rG) hZ (hw _ (List.mem_of_getElem? (i := 65) rfl)) (hw _ (List.mem_of_getElem? (i := 4) rfl)) (by decide) (by decide)) (g := (mkF m 267 #[.val (.int p1), .val (.int p2), .val (.int p3), .val (.int p4), .val (.int p5), .val (.int (Int32.ofNat NN)), .val (.ref b1), .val (.ref b10), .val (.ref r12), .val (.int (Int32.ofNat j12)), .val (.int (Int32.ofNat ee12)), .val (.int (Int32.ofNat D.length))] [(.int (2 : Int32)), (.int (Int32.ofNat j12)), (.ref b1), (.int (Int32.ofNat D.length)), (.ref r12)])) rfl (by rw [hml]; rfl) (argsL := [(.ref r12), (.int (Int32.ofNat D.length)), (.ref b1), (.int (Int32.ofNat j12)), (.int (2 : Int32))]) (rest := []) (lenOf pd_rm0_3 rfl) rfl (by show 2 * 0 + _ ≤ _; exact Nat.le_of_eq rfl) (hb hby at_267) (fun _ _ => ⟨rfl, e18, (by decide : 10 + 0 ≤ _), (by decide : 56 + 0 ≤ _)⟩)
          dsimp only [Pt.U, Pt.locs, Pt.cells, Pt.slots] at X19 l19 y19 z19 st19 hQ19
          subst y19 z19
          obtain ⟨rfl, Nq19, e19⟩ := hQ19
          have N19 : Fr n0 L19 := l19 ▸ Fr.app N18 Nq19
          refine GlW.st st19 ?_
          clear st19
          clear N18 X18 e18
          show GlW Z consts_1 p e below s _ _ _ T19 (mkF m 270 #[.val (.int p1), .val (.int p2), .val (.int p3), .val (.int p4), .val (.int p5), .val (.int (Int32.ofNat NN)), .val (.ref b1), .val (.ref b10), .val (.ref r12), .val (.int (Int32.ofNat j12)), .val (.int (Int32.ofNat ee12)), .val (.int (Int32.ofNat D.length))] [(.int (1 : Int32))])
          refine GlW.st (fun _ kk => XS.ifNo X19.here hx rfl (hb hby at_270) rfl ((if0 _ _).trans (feq (by decide : ¬ ((1 : Int32) = (0 : Int32)))).1) kk) ?_
          show GlW Z consts_1 p e below s _ _ _ T19 (mkF m 273 #[.val (.int p1), .val (.int p2), .val (.int p3), .val (.int p4), .val (.int p5), .val (.int (Int32.ofNat NN)), .val (.ref b1), .val (.ref b10), .val (.ref r12), .val (.int (Int32.ofNat j12)), .val (.int (Int32.ofNat ee12)), .val (.int (Int32.ofNat D.length))] [])
          refine GlW.st (fun _ kk => XS.aload X19.here hx rfl (hb hby at_273) rfl rfl kk) ?_
          show GlW Z consts_1 p e below s _ _ _ T19 (mkF m 275 #[.val (.int p1), .val (.int p2), .val (.int p3), .val (.int p4), .val (.int p5), .val (.int (Int32.ofNat NN)), .val (.ref b1), .val (.ref b10), .val (.ref r12), .val (.int (Int32.ofNat j12)), .val (.int (Int32.ofNat ee12)), .val (.int (Int32.ofNat D.length))] [(.ref r12)])
          refine GlW.st (fun _ kk => XS.iload X19.here hx rfl (hb hby at_275) rfl kk) ?_
          show GlW Z consts_1 p e below s _ _ _ T19 (mkF m 277 #[.val (.int p1), .val (.int p2), .val (.int p3), .val (.int p4), .val (.int p5), .val (.int (Int32.ofNat NN)), .val (.ref b1), .val (.ref b10), .val (.ref r12), .val (.int (Int32.ofNat j12)), .val (.int (Int32.ofNat ee12)), .val (.int (Int32.ofNat D.length))] [(.int (Int32.ofNat D.length)), (.ref r12)])
          refine GlW.st (fun _ kk => XS.aload X19.here hx rfl (hb hby at_277) rfl rfl kk) ?_
          show GlW Z consts_1 p e below s _ _ _ T19 (mkF m 279 #[.val (.int p1), .val (.int p2), .val (.int p3), .val (.int p4), .val (.int p5), .val (.int (Int32.ofNat NN)), .val (.ref b1), .val (.ref b10), .val (.ref r12), .val (.int (Int32.ofNat j12)), .val (.int (Int32.ofNat ee12)), .val (.int (Int32.ofNat D.length))] [(.ref b1), (.int (Int32.ofNat D.length)), (.ref r12)])
          refine GlW.st (fun _ kk => XS.iload X19.here hx rfl (hb hby at_279) rfl kk) ?_
          show GlW Z consts_1 p e below s _ _ _ T19 (mkF m 281 #[.val (.int p1), .val (.int p2), .val (.int p3), .val (.int p4), .val (.int p5), .val (.int (Int32.ofNat NN)), .val (.ref b1), .val (.ref b10), .val (.ref r12), .val (.int (Int32.ofNat j12)), .val (.int (Int32.ofNat ee12)), .val (.int (Int32.ofNat D.length))] [(.int (Int32.ofNat j12)), (.ref b1), (.int (Int32.ofNat D.length)), (.ref r12)])
          refine GlW.st (fun _ kk => XS.iconst X19.here hx rfl (hb hby at_281) kk) ?_
          show GlW Z consts_1 p e below s _ _ _ T19 (mkF m 282 #[.val (.int p1), .val (.int p2), .val (.int p3), .val (.int p4), .val (.int p5), .val (.int (Int32.ofNat NN)), .val (.ref b1), .val (.ref b10), .val (.ref r12), .val (.int (Int32.ofNat j12)), .val (.int (Int32.ofNat ee12)), .val (.int (Int32.ofNat D.length))] [(.int (3 : Int32)), (.int (Int32.ofNat j12)), (.ref b1), (.int (Int32.ofNat D.length)), (.ref r12)])
          obtain ⟨v20, _, ⟨T20, L20, kQ20, nQ20⟩, -, X20, ⟨Lc20, hQ20, l20, y20, z20⟩, st20⟩ := Jvm.LawKit.callS X19 hx (y := (⟨"com/example/concurrency_quota/concurrencyquota/ServiceRequestTrimWhitespacePinLaw", "at", "(Ljava/lang/String;I[CII)Z"⟩ : MethodName)) hown (mvT hZ (hw _ (List.mem_of_getElem? (i := 63) rfl))) (mvT hZ (hw _ (List.mem_of_getElem? (i := 64) rfl))) (mvT hZ (hw _ (List.mem_of_getElem? (i := 4) rfl))) (mvT hZ (hw _ (List.mem_of_getElem? (i := 65) rfl))) (by decide) (backOf (W := 0) (rmA3 l Z a0 hw [] r12 (Int32.ofNat D.length) b1 (Int32.ofNat j12) tt12 kt12 D fm cz ka1 c2 c4 c6 c8 j12 h12 n0 O12 rfl rfl Exa_r12 F_value_r12 F_coder_r12 Arv_tt12 hpD hD4 Arv_b1 (by omega) hDg S_COMPACT hcz S_SI rG) hZ (hw _ (List.mem_of_getElem? (i := 65) rfl)) (hw _ (List.mem_of_getElem? (i := 4) rfl)) (by decide) (by decide)) (g := (mkF m 282 #[.val (.int p1), .val (.int p2), .val (.int p3), .val (.int p4), .val (.int p5), .val (.int (Int32.ofNat NN)), .val (.ref b1), .val (.ref b10), .val (.ref r12), .val (.int (Int32.ofNat j12)), .val (.int (Int32.ofNat ee12)), .val (.int (Int32.ofNat D.length))] [(.int (3 : Int32)), (.int (Int32.ofNat j12)), (.ref b1), (.int (Int32.ofNat D.length)), (.ref r12)])) rfl (by rw [hml]; rfl) (argsL := [(.ref r12), (.int (Int32.ofNat D.length)), (.ref b1), (.int (Int32.ofNat j12)), (.int (3 : Int32))]) (rest := []) (lenOf pd_rm0_3 rfl) rfl (by show 2 * 0 + _ ≤ _; exact Nat.le_of_eq rfl) (hb hby at_282) (fun _ _ => ⟨rfl, e19, (by decide : 10 + 0 ≤ _), (by decide : 56 + 0 ≤ _)⟩)
          dsimp only [Pt.U, Pt.locs, Pt.cells, Pt.slots] at X20 l20 y20 z20 st20 hQ20
          subst y20 z20
          obtain ⟨rfl, Nq20, e20⟩ := hQ20
          have N20 : Fr n0 L20 := l20 ▸ Fr.app N19 Nq20
          refine GlW.st st20 ?_
          clear st20
          clear N19 X19 e19
          show GlW Z consts_1 p e below s _ _ _ T20 (mkF m 285 #[.val (.int p1), .val (.int p2), .val (.int p3), .val (.int p4), .val (.int p5), .val (.int (Int32.ofNat NN)), .val (.ref b1), .val (.ref b10), .val (.ref r12), .val (.int (Int32.ofNat j12)), .val (.int (Int32.ofNat ee12)), .val (.int (Int32.ofNat D.length))] [(.int (1 : Int32))])
          refine GlW.st (fun _ kk => XS.ifNo X20.here hx rfl (hb hby at_285) rfl ((if0 _ _).trans (feq (by decide : ¬ ((1 : Int32) = (0 : Int32)))).1) kk) ?_
          show GlW Z consts_1 p e below s _ _ _ T20 (mkF m 288 #[.val (.int p1), .val (.int p2), .val (.int p3), .val (.int p4), .val (.int p5), .val (.int (Int32.ofNat NN)), .val (.ref b1), .val (.ref b10), .val (.ref r12), .val (.int (Int32.ofNat j12)), .val (.int (Int32.ofNat ee12)), .val (.int (Int32.ofNat D.length))] [])
          refine GlW.st (fun _ kk => XS.iconst X20.here hx rfl (hb hby at_288) kk) ?_
          show GlW Z consts_1 p e below s _ _ _ T20 (mkF m 289 #[.val (.int p1), .val (.int p2), .val (.int p3), .val (.int p4), .val (.int p5), .val (.int (Int32.ofNat NN)), .val (.ref b1), .val (.ref b10), .val (.ref r12), .val (.int (Int32.ofNat j12)), .val (.int (Int32.ofNat ee12)), .val (.int (Int32.ofNat D.length))] [(.int (1 : Int32))])
          refine GlW.st (fun _ kk => XS.goto X20.here hx rfl (pc0 := 289) (pc' := 293) rfl (hb hby at_289) (by decide) (by decide) kk) ?_
          show GlW Z consts_1 p e below s _ _ _ T20 (mkF m 293 #[.val (.int p1), .val (.int p2), .val (.int p3), .val (.int p4), .val (.int p5), .val (.int (Int32.ofNat NN)), .val (.ref b1), .val (.ref b10), .val (.ref r12), .val (.int (Int32.ofNat j12)), .val (.int (Int32.ofNat ee12)), .val (.int (Int32.ofNat D.length))] [(.int (1 : Int32))])
          exact GlW.ret X20 hS12 hk12 hZ hEL hh0 HC12 (v := (some (.int (1 : Int32)))) (fun h => by rw [Bd.returns] at h; cases h) (BodyLoose.notSynchronized Bd) (fun hr => retN X20 hx (t := .boolean) Bd.returns (by simp) (hb hby at_293) hr) e20 ⟨rfl, N20⟩ (by decide) (by decide)
        refine GlW.st (fun _ kk => XS.iload X14.here hx rfl (hb hby at_193) rfl kk) ?_
        show GlW Z consts_1 p e below s _ _ _ T14 (mkF m 195 #[.val (.int p1), .val (.int p2), .val (.int p3), .val (.int p4), .val (.int p5), .val (.int (Int32.ofNat NN)), .val (.ref b1), .val (.ref b10), .val (.ref r12), .val (.int (Int32.ofNat j12)), .val (.int (Int32.ofNat ee12)), .unset] [(.int (Int32.ofNat ee12))])
        refine GlW.st (fun _ kk => XS.iload X14.here hx rfl (hb hby at_195) rfl kk) ?_
        show GlW Z consts_1 p e below s _ _ _ T14 (mkF m 197 #[.val (.int p1), .val (.int p2), .val (.int p3), .val (.int p4), .val (.int p5), .val (.int (Int32.ofNat NN)), .val (.ref b1), .val (.ref b10), .val (.ref r12), .val (.int (Int32.ofNat j12)), .val (.int (Int32.ofNat ee12)), .unset] [(.int (Int32.ofNat j12)), (.int (Int32.ofNat ee12))])
        by_cases hc197 : (Int32.ofNat j12) < (Int32.ofNat ee12)
        · skip
          refine GlW.st (fun _ kk => XS.icmpNo X14.here hx rfl (hb hby at_197) rfl (tlt hc197).2.2.2 kk) ?_
          show GlW Z consts_1 p e below s _ _ _ T14 (mkF m 200 #[.val (.int p1), .val (.int p2), .val (.int p3), .val (.int p4), .val (.int p5), .val (.int (Int32.ofNat NN)), .val (.ref b1), .val (.ref b10), .val (.ref r12), .val (.int (Int32.ofNat j12)), .val (.int (Int32.ofNat ee12)), .unset] [])
          refine GlW.st (fun _ kk => XS.iload X14.here hx rfl (hb hby at_200) rfl kk) ?_
          show GlW Z consts_1 p e below s _ _ _ T14 (mkF m 202 #[.val (.int p1), .val (.int p2), .val (.int p3), .val (.int p4), .val (.int p5), .val (.int (Int32.ofNat NN)), .val (.ref b1), .val (.ref b10), .val (.ref r12), .val (.int (Int32.ofNat j12)), .val (.int (Int32.ofNat ee12)), .unset] [(.int (Int32.ofNat ee12))])
          refine GlW.st (fun _ kk => XS.iload X14.here hx rfl (hb hby at_202) rfl kk) ?_
          show GlW Z consts_1 p e below s _ _ _ T14 (mkF m 204 #[.val (.int p1), .val (.int p2), .val (.int p3), .val (.int p4), .val (.int p5), .val (.int (Int32.ofNat NN)), .val (.ref b1), .val (.ref b10), .val (.ref r12), .val (.int (Int32.ofNat j12)), .val (.int (Int32.ofNat ee12)), .unset] [(.int (Int32.ofNat j12)), (.int (Int32.ofNat ee12))])
          refine GlW.st (fun _ kk => XS.isub X14.here hx rfl (hb hby at_204) rfl kk) ?_
          show GlW Z consts_1 p e below s _ _ _ T14 (mkF m 205 #[.val (.int p1), .val (.int p2), .val (.int p3), .val (.int p4), .val (.int p5), .val (.int (Int32.ofNat NN)), .val (.ref b1), .val (.ref b10), .val (.ref r12), .val (.int (Int32.ofNat j12)), .val (.int (Int32.ofNat ee12)), .unset] [(.int ((Int32.ofNat ee12) - (Int32.ofNat j12)))])
          refine GlW.st (fun _ kk => XS.goto X14.here hx rfl (pc0 := 205) (pc' := 209) rfl (hb hby at_205) (by decide) (by decide) kk) ?_
          show GlW Z consts_1 p e below s _ _ _ T14 (mkF m 209 #[.val (.int p1), .val (.int p2), .val (.int p3), .val (.int p4), .val (.int p5), .val (.int (Int32.ofNat NN)), .val (.ref b1), .val (.ref b10), .val (.ref r12), .val (.int (Int32.ofNat j12)), .val (.int (Int32.ofNat ee12)), .unset] [(.int ((Int32.ofNat ee12) - (Int32.ofNat j12)))])
          exact join209 ((Int32.ofNat ee12) - (Int32.ofNat j12)) (by rw [own_ofNat_sub hs1, ← hDl]) _ _ (Gl.wider X14 (by decide) (by decide)) e14 N14
        · skip
          refine GlW.st (fun _ kk => XS.icmpYes X14.here hx rfl (pc0 := 197) (pc' := 208) rfl (hb hby at_197) rfl (flt hc197).2.2.2 (by decide) (by decide) kk) ?_
          show GlW Z consts_1 p e below s _ _ _ T14 (mkF m 208 #[.val (.int p1), .val (.int p2), .val (.int p3), .val (.int p4), .val (.int p5), .val (.int (Int32.ofNat NN)), .val (.ref b1), .val (.ref b10), .val (.ref r12), .val (.int (Int32.ofNat j12)), .val (.int (Int32.ofNat ee12)), .unset] [])
          refine GlW.st (fun _ kk => XS.iconst X14.here hx rfl (hb hby at_208) kk) ?_
          show GlW Z consts_1 p e below s _ _ _ T14 (mkF m 209 #[.val (.int p1), .val (.int p2), .val (.int p3), .val (.int p4), .val (.int p5), .val (.int (Int32.ofNat NN)), .val (.ref b1), .val (.ref b10), .val (.ref r12), .val (.int (Int32.ofNat j12)), .val (.int (Int32.ofNat ee12)), .unset] [(.int (0 : Int32))])
          exact join209 (0 : Int32) (by rw [hDl, show ee12 - j12 = 0 from by have := mt (own_ofNat_lt hjb heb).mpr hc197; omega] <;> rfl) _ _ (Gl.wider X14 (by decide) (by decide)) e14 N14
      refine GlW.st (fun _ kk => XS.aload X13.here hx rfl (hb hby at_129) rfl rfl kk) ?_
      show GlW Z consts_1 p e below s _ _ _ T13 (mkF m 131 #[.val (.int p1), .val (.int p2), .val (.int p3), .val (.int p4), .val (.int p5), .val (.int (Int32.ofNat NN)), .val (.ref b1), .val (.ref b10), .val (.ref r12), .val (.int (Int32.ofNat j12)), .unset, .unset] [(.ref b1)])
      refine GlW.st (fun _ kk => XS.iload X13.here hx rfl (hb hby at_131) rfl kk) ?_
      show GlW Z consts_1 p e below s _ _ _ T13 (mkF m 133 #[.val (.int p1), .val (.int p2), .val (.int p3), .val (.int p4), .val (.int p5), .val (.int (Int32.ofNat NN)), .val (.ref b1), .val (.ref b10), .val (.ref r12), .val (.int (Int32.ofNat j12)), .unset, .unset] [(.int (Int32.ofNat NN)), (.ref b1)])
      refine GlW.st (fun _ kk => XS.iconst X13.here hx rfl (hb hby at_133) kk) ?_
      show GlW Z consts_1 p e below s _ _ _ T13 (mkF m 134 #[.val (.int p1), .val (.int p2), .val (.int p3), .val (.int p4), .val (.int p5), .val (.int (Int32.ofNat NN)), .val (.ref b1), .val (.ref b10), .val (.ref r12), .val (.int (Int32.ofNat j12)), .unset, .unset] [(.int (3 : Int32)), (.int (Int32.ofNat NN)), (.ref b1)])
      by_cases be3 : j12 < ee12 ∧ ee12 = 4
      · skip
        have hlt : (3 : Int32) < Int32.ofNat NN := (own_ofNat_lt (a := 3) (by decide) hNb).mpr (by omega)
        have hq : ¬ own_ws c8 := by
          have q := (hs5 be3.1).2; rw [be3.2] at q; exact q
        obtain ⟨v21, _, ⟨T21, L21, kQ21, nQ21⟩, -, X21, ⟨Lc21, hQ21, l21, y21, z21⟩, st21⟩ := Jvm.LawKit.callS X13 hx (y := (⟨"com/example/concurrency_quota/concurrencyquota/ServiceRequestTrimWhitespacePinLaw", "solid", "([CII)Z"⟩ : MethodName)) hown (mvT hZ (hw _ (List.mem_of_getElem? (i := 59) rfl))) (mvT hZ (hw _ (List.mem_of_getElem? (i := 60) rfl))) (mvT hZ (hw _ (List.mem_of_getElem? (i := 4) rfl))) (mvT hZ (hw _ (List.mem_of_getElem? (i := 61) rfl))) (by decide) (backOf (W := 0) (rmY3 l Z a0 hw [] b1 (Int32.ofNat NN) ka1 c2 c4 c6 c8 h12 n0 O12 Arv_b1 hlt hq) hZ (hw _ (List.mem_of_getElem? (i := 61) rfl)) (hw _ (List.mem_of_getElem? (i := 4) rfl)) (by decide) (by decide)) (g := (mkF m 134 #[.val (.int p1), .val (.int p2), .val (.int p3), .val (.int p4), .val (.int p5), .val (.int (Int32.ofNat NN)), .val (.ref b1), .val (.ref b10), .val (.ref r12), .val (.int (Int32.ofNat j12)), .unset, .unset] [(.int (3 : Int32)), (.int (Int32.ofNat NN)), (.ref b1)])) rfl (by rw [hml]; rfl) (argsL := [(.ref b1), (.int (Int32.ofNat NN)), (.int (3 : Int32))]) (rest := []) (lenOf pd_rm0_4 rfl) rfl (by show 2 * 0 + _ ≤ _; exact Nat.le_of_eq rfl) (hb hby at_134) (fun _ _ => ⟨rfl, e13, (by decide : 10 + 0 ≤ _), (by decide : 56 + 0 ≤ _)⟩)
        dsimp only [Pt.U, Pt.locs, Pt.cells, Pt.slots] at X21 l21 y21 z21 st21 hQ21
        subst y21 z21
        obtain ⟨rfl, Nq21, e21⟩ := hQ21
        have N21 : Fr n0 L21 := l21 ▸ Fr.app N13 Nq21
        refine GlW.st st21 ?_
        clear st21
        clear N13 X13 e13
        show GlW Z consts_1 p e below s _ _ _ T21 (mkF m 137 #[.val (.int p1), .val (.int p2), .val (.int p3), .val (.int p4), .val (.int p5), .val (.int (Int32.ofNat NN)), .val (.ref b1), .val (.ref b10), .val (.ref r12), .val (.int (Int32.ofNat j12)), .unset, .unset] [(.int (1 : Int32))])
        refine GlW.st (fun _ kk => XS.ifNo X21.here hx rfl (hb hby at_137) rfl ((if0 _ _).trans (feq (by decide : ¬ ((1 : Int32) = (0 : Int32)))).1) kk) ?_
        show GlW Z consts_1 p e below s _ _ _ T21 (mkF m 140 #[.val (.int p1), .val (.int p2), .val (.int p3), .val (.int p4), .val (.int p5), .val (.int (Int32.ofNat NN)), .val (.ref b1), .val (.ref b10), .val (.ref r12), .val (.int (Int32.ofNat j12)), .unset, .unset] [])
        refine GlW.st (fun _ kk => XS.iconst X21.here hx rfl (hb hby at_140) kk) ?_
        show GlW Z consts_1 p e below s _ _ _ T21 (mkF m 141 #[.val (.int p1), .val (.int p2), .val (.int p3), .val (.int p4), .val (.int p5), .val (.int (Int32.ofNat NN)), .val (.ref b1), .val (.ref b10), .val (.ref r12), .val (.int (Int32.ofNat j12)), .unset, .unset] [(.int (4 : Int32))])
        refine GlW.st (fun _ kk => XS.goto X21.here hx rfl (pc0 := 141) (pc' := 191) rfl (hb hby at_141) (by decide) (by decide) kk) ?_
        show GlW Z consts_1 p e below s _ _ _ T21 (mkF m 191 #[.val (.int p1), .val (.int p2), .val (.int p3), .val (.int p4), .val (.int p5), .val (.int (Int32.ofNat NN)), .val (.ref b1), .val (.ref b10), .val (.ref r12), .val (.int (Int32.ofNat j12)), .unset, .unset] [(.int (4 : Int32))])
        exact join191 (4 : Int32) (by rw [be3.2] <;> rfl) _ _ (Gl.wider X21 (by decide) (by decide)) e21 N21
      · skip
        have hz : (3 : Int32) < Int32.ofNat NN → own_ws c8 := fun q => by
          have hi : 3 < NN := (own_ofNat_lt (a := 3) (by decide) hNb).mp q
          by_cases hij : 3 < j12
          · exact hs3 3 hij
          · by_cases hie : ee12 ≤ 3
            · exact hs4 3 hie hi
            · exfalso; omega
        obtain ⟨v22, _, ⟨T22, L22, kQ22, nQ22⟩, -, X22, ⟨Lc22, hQ22, l22, y22, z22⟩, st22⟩ := Jvm.LawKit.callS X13 hx (y := (⟨"com/example/concurrency_quota/concurrencyquota/ServiceRequestTrimWhitespacePinLaw", "solid", "([CII)Z"⟩ : MethodName)) hown (mvT hZ (hw _ (List.mem_of_getElem? (i := 59) rfl))) (mvT hZ (hw _ (List.mem_of_getElem? (i := 60) rfl))) (mvT hZ (hw _ (List.mem_of_getElem? (i := 4) rfl))) (mvT hZ (hw _ (List.mem_of_getElem? (i := 61) rfl))) (by decide) (backOf (W := 0) (rmZ3 l Z a0 hw [] b1 (Int32.ofNat NN) ka1 c2 c4 c6 c8 h12 n0 O12 Arv_b1 hz) hZ (hw _ (List.mem_of_getElem? (i := 61) rfl)) (hw _ (List.mem_of_getElem? (i := 4) rfl)) (by decide) (by decide)) (g := (mkF m 134 #[.val (.int p1), .val (.int p2), .val (.int p3), .val (.int p4), .val (.int p5), .val (.int (Int32.ofNat NN)), .val (.ref b1), .val (.ref b10), .val (.ref r12), .val (.int (Int32.ofNat j12)), .unset, .unset] [(.int (3 : Int32)), (.int (Int32.ofNat NN)), (.ref b1)])) rfl (by rw [hml]; rfl) (argsL := [(.ref b1), (.int (Int32.ofNat NN)), (.int (3 : Int32))]) (rest := []) (lenOf pd_rm0_4 rfl) rfl (by show 2 * 0 + _ ≤ _; exact Nat.le_of_eq rfl) (hb hby at_134) (fun _ _ => ⟨rfl, e13, (by decide : 10 + 0 ≤ _), (by decide : 56 + 0 ≤ _)⟩)
        dsimp only [Pt.U, Pt.locs, Pt.cells, Pt.slots] at X22 l22 y22 z22 st22 hQ22
        subst y22 z22
        obtain ⟨rfl, Nq22, e22⟩ := hQ22
        have N22 : Fr n0 L22 := l22 ▸ Fr.app N13 Nq22
        refine GlW.st st22 ?_
        clear st22
        clear N13 X13 e13
        show GlW Z consts_1 p e below s _ _ _ T22 (mkF m 137 #[.val (.int p1), .val (.int p2), .val (.int p3), .val (.int p4), .val (.int p5), .val (.int (Int32.ofNat NN)), .val (.ref b1), .val (.ref b10), .val (.ref r12), .val (.int (Int32.ofNat j12)), .unset, .unset] [(.int (0 : Int32))])
        refine GlW.st (fun _ kk => XS.ifYes X22.here hx rfl (pc0 := 137) (pc' := 144) rfl (hb hby at_137) rfl ((if0 _ _).trans (teq (by decide : (0 : Int32) = (0 : Int32))).1) (by decide) (by decide) kk) ?_
        show GlW Z consts_1 p e below s _ _ _ T22 (mkF m 144 #[.val (.int p1), .val (.int p2), .val (.int p3), .val (.int p4), .val (.int p5), .val (.int (Int32.ofNat NN)), .val (.ref b1), .val (.ref b10), .val (.ref r12), .val (.int (Int32.ofNat j12)), .unset, .unset] [])
        refine GlW.st (fun _ kk => XS.aload X22.here hx rfl (hb hby at_144) rfl rfl kk) ?_
        show GlW Z consts_1 p e below s _ _ _ T22 (mkF m 146 #[.val (.int p1), .val (.int p2), .val (.int p3), .val (.int p4), .val (.int p5), .val (.int (Int32.ofNat NN)), .val (.ref b1), .val (.ref b10), .val (.ref r12), .val (.int (Int32.ofNat j12)), .unset, .unset] [(.ref b1)])
        refine GlW.st (fun _ kk => XS.iload X22.here hx rfl (hb hby at_146) rfl kk) ?_
        show GlW Z consts_1 p e below s _ _ _ T22 (mkF m 148 #[.val (.int p1), .val (.int p2), .val (.int p3), .val (.int p4), .val (.int p5), .val (.int (Int32.ofNat NN)), .val (.ref b1), .val (.ref b10), .val (.ref r12), .val (.int (Int32.ofNat j12)), .unset, .unset] [(.int (Int32.ofNat NN)), (.ref b1)])
        refine GlW.st (fun _ kk => XS.iconst X22.here hx rfl (hb hby at_148) kk) ?_
        show GlW Z consts_1 p e below s _ _ _ T22 (mkF m 149 #[.val (.int p1), .val (.int p2), .val (.int p3), .val (.int p4), .val (.int p5), .val (.int (Int32.ofNat NN)), .val (.ref b1), .val (.ref b10), .val (.ref r12), .val (.int (Int32.ofNat j12)), .unset, .unset] [(.int (2 : Int32)), (.int (Int32.ofNat NN)), (.ref b1)])
        by_cases be2 : j12 < ee12 ∧ ee12 = 3
        · skip
          have hlt : (2 : Int32) < Int32.ofNat NN := (own_ofNat_lt (a := 2) (by decide) hNb).mpr (by omega)
          have hq : ¬ own_ws c6 := by
            have q := (hs5 be2.1).2; rw [be2.2] at q; exact q
          obtain ⟨v23, _, ⟨T23, L23, kQ23, nQ23⟩, -, X23, ⟨Lc23, hQ23, l23, y23, z23⟩, st23⟩ := Jvm.LawKit.callS X22 hx (y := (⟨"com/example/concurrency_quota/concurrencyquota/ServiceRequestTrimWhitespacePinLaw", "solid", "([CII)Z"⟩ : MethodName)) hown (mvT hZ (hw _ (List.mem_of_getElem? (i := 59) rfl))) (mvT hZ (hw _ (List.mem_of_getElem? (i := 60) rfl))) (mvT hZ (hw _ (List.mem_of_getElem? (i := 4) rfl))) (mvT hZ (hw _ (List.mem_of_getElem? (i := 61) rfl))) (by decide) (backOf (W := 0) (rmY2 l Z a0 hw [] b1 (Int32.ofNat NN) ka1 c2 c4 c6 c8 h12 n0 O12 Arv_b1 hlt hq) hZ (hw _ (List.mem_of_getElem? (i := 61) rfl)) (hw _ (List.mem_of_getElem? (i := 4) rfl)) (by decide) (by decide)) (g := (mkF m 149 #[.val (.int p1), .val (.int p2), .val (.int p3), .val (.int p4), .val (.int p5), .val (.int (Int32.ofNat NN)), .val (.ref b1), .val (.ref b10), .val (.ref r12), .val (.int (Int32.ofNat j12)), .unset, .unset] [(.int (2 : Int32)), (.int (Int32.ofNat NN)), (.ref b1)])) rfl (by rw [hml]; rfl) (argsL := [(.ref b1), (.int (Int32.ofNat NN)), (.int (2 : Int32))]) (rest := []) (lenOf pd_rm0_4 rfl) rfl (by show 2 * 0 + _ ≤ _; exact Nat.le_of_eq rfl) (hb hby at_149) (fun _ _ => ⟨rfl, e22, (by decide : 10 + 0 ≤ _), (by decide : 56 + 0 ≤ _)⟩)
          dsimp only [Pt.U, Pt.locs, Pt.cells, Pt.slots] at X23 l23 y23 z23 st23 hQ23
          subst y23 z23
          obtain ⟨rfl, Nq23, e23⟩ := hQ23
          have N23 : Fr n0 L23 := l23 ▸ Fr.app N22 Nq23
          refine GlW.st st23 ?_
          clear st23
          clear N22 X22 e22
          show GlW Z consts_1 p e below s _ _ _ T23 (mkF m 152 #[.val (.int p1), .val (.int p2), .val (.int p3), .val (.int p4), .val (.int p5), .val (.int (Int32.ofNat NN)), .val (.ref b1), .val (.ref b10), .val (.ref r12), .val (.int (Int32.ofNat j12)), .unset, .unset] [(.int (1 : Int32))])
          refine GlW.st (fun _ kk => XS.ifNo X23.here hx rfl (hb hby at_152) rfl ((if0 _ _).trans (feq (by decide : ¬ ((1 : Int32) = (0 : Int32)))).1) kk) ?_
          show GlW Z consts_1 p e below s _ _ _ T23 (mkF m 155 #[.val (.int p1), .val (.int p2), .val (.int p3), .val (.int p4), .val (.int p5), .val (.int (Int32.ofNat NN)), .val (.ref b1), .val (.ref b10), .val (.ref r12), .val (.int (Int32.ofNat j12)), .unset, .unset] [])
          refine GlW.st (fun _ kk => XS.iconst X23.here hx rfl (hb hby at_155) kk) ?_
          show GlW Z consts_1 p e below s _ _ _ T23 (mkF m 156 #[.val (.int p1), .val (.int p2), .val (.int p3), .val (.int p4), .val (.int p5), .val (.int (Int32.ofNat NN)), .val (.ref b1), .val (.ref b10), .val (.ref r12), .val (.int (Int32.ofNat j12)), .unset, .unset] [(.int (3 : Int32))])
          refine GlW.st (fun _ kk => XS.goto X23.here hx rfl (pc0 := 156) (pc' := 191) rfl (hb hby at_156) (by decide) (by decide) kk) ?_
          show GlW Z consts_1 p e below s _ _ _ T23 (mkF m 191 #[.val (.int p1), .val (.int p2), .val (.int p3), .val (.int p4), .val (.int p5), .val (.int (Int32.ofNat NN)), .val (.ref b1), .val (.ref b10), .val (.ref r12), .val (.int (Int32.ofNat j12)), .unset, .unset] [(.int (3 : Int32))])
          exact join191 (3 : Int32) (by rw [be2.2] <;> rfl) _ _ (Gl.wider X23 (by decide) (by decide)) e23 N23
        · skip
          have hz : (2 : Int32) < Int32.ofNat NN → own_ws c6 := fun q => by
            have hi : 2 < NN := (own_ofNat_lt (a := 2) (by decide) hNb).mp q
            by_cases hij : 2 < j12
            · exact hs3 2 hij
            · by_cases hie : ee12 ≤ 2
              · exact hs4 2 hie hi
              · exfalso; omega
          obtain ⟨v24, _, ⟨T24, L24, kQ24, nQ24⟩, -, X24, ⟨Lc24, hQ24, l24, y24, z24⟩, st24⟩ := Jvm.LawKit.callS X22 hx (y := (⟨"com/example/concurrency_quota/concurrencyquota/ServiceRequestTrimWhitespacePinLaw", "solid", "([CII)Z"⟩ : MethodName)) hown (mvT hZ (hw _ (List.mem_of_getElem? (i := 59) rfl))) (mvT hZ (hw _ (List.mem_of_getElem? (i := 60) rfl))) (mvT hZ (hw _ (List.mem_of_getElem? (i := 4) rfl))) (mvT hZ (hw _ (List.mem_of_getElem? (i := 61) rfl))) (by decide) (backOf (W := 0) (rmZ2 l Z a0 hw [] b1 (Int32.ofNat NN) ka1 c2 c4 c6 c8 h12 n0 O12 Arv_b1 hz) hZ (hw _ (List.mem_of_getElem? (i := 61) rfl)) (hw _ (List.mem_of_getElem? (i := 4) rfl)) (by decide) (by decide)) (g := (mkF m 149 #[.val (.int p1), .val (.int p2), .val (.int p3), .val (.int p4), .val (.int p5), .val (.int (Int32.ofNat NN)), .val (.ref b1), .val (.ref b10), .val (.ref r12), .val (.int (Int32.ofNat j12)), .unset, .unset] [(.int (2 : Int32)), (.int (Int32.ofNat NN)), (.ref b1)])) rfl (by rw [hml]; rfl) (argsL := [(.ref b1), (.int (Int32.ofNat NN)), (.int (2 : Int32))]) (rest := []) (lenOf pd_rm0_4 rfl) rfl (by show 2 * 0 + _ ≤ _; exact Nat.le_of_eq rfl) (hb hby at_149) (fun _ _ => ⟨rfl, e22, (by decide : 10 + 0 ≤ _), (by decide : 56 + 0 ≤ _)⟩)
          dsimp only [Pt.U, Pt.locs, Pt.cells, Pt.slots] at X24 l24 y24 z24 st24 hQ24
          subst y24 z24
          obtain ⟨rfl, Nq24, e24⟩ := hQ24
          have N24 : Fr n0 L24 := l24 ▸ Fr.app N22 Nq24
          refine GlW.st st24 ?_
          clear st24
          clear N22 X22 e22
          show GlW Z consts_1 p e below s _ _ _ T24 (mkF m 152 #[.val (.int p1), .val (.int p2), .val (.int p3), .val (.int p4), .val (.int p5), .val (.int (Int32.ofNat NN)), .val (.ref b1), .val (.ref b10), .val (.ref r12), .val (.int (Int32.ofNat j12)), .unset, .unset] [(.int (0 : Int32))])
          refine GlW.st (fun _ kk => XS.ifYes X24.here hx rfl (pc0 := 152) (pc' := 159) rfl (hb hby at_152) rfl ((if0 _ _).trans (teq (by decide : (0 : Int32) = (0 : Int32))).1) (by decide) (by decide) kk) ?_
          show GlW Z consts_1 p e below s _ _ _ T24 (mkF m 159 #[.val (.int p1), .val (.int p2), .val (.int p3), .val (.int p4), .val (.int p5), .val (.int (Int32.ofNat NN)), .val (.ref b1), .val (.ref b10), .val (.ref r12), .val (.int (Int32.ofNat j12)), .unset, .unset] [])
          refine GlW.st (fun _ kk => XS.aload X24.here hx rfl (hb hby at_159) rfl rfl kk) ?_
          show GlW Z consts_1 p e below s _ _ _ T24 (mkF m 161 #[.val (.int p1), .val (.int p2), .val (.int p3), .val (.int p4), .val (.int p5), .val (.int (Int32.ofNat NN)), .val (.ref b1), .val (.ref b10), .val (.ref r12), .val (.int (Int32.ofNat j12)), .unset, .unset] [(.ref b1)])
          refine GlW.st (fun _ kk => XS.iload X24.here hx rfl (hb hby at_161) rfl kk) ?_
          show GlW Z consts_1 p e below s _ _ _ T24 (mkF m 163 #[.val (.int p1), .val (.int p2), .val (.int p3), .val (.int p4), .val (.int p5), .val (.int (Int32.ofNat NN)), .val (.ref b1), .val (.ref b10), .val (.ref r12), .val (.int (Int32.ofNat j12)), .unset, .unset] [(.int (Int32.ofNat NN)), (.ref b1)])
          refine GlW.st (fun _ kk => XS.iconst X24.here hx rfl (hb hby at_163) kk) ?_
          show GlW Z consts_1 p e below s _ _ _ T24 (mkF m 164 #[.val (.int p1), .val (.int p2), .val (.int p3), .val (.int p4), .val (.int p5), .val (.int (Int32.ofNat NN)), .val (.ref b1), .val (.ref b10), .val (.ref r12), .val (.int (Int32.ofNat j12)), .unset, .unset] [(.int (1 : Int32)), (.int (Int32.ofNat NN)), (.ref b1)])
          by_cases be1 : j12 < ee12 ∧ ee12 = 2
          · skip
            have hlt : (1 : Int32) < Int32.ofNat NN := (own_ofNat_lt (a := 1) (by decide) hNb).mpr (by omega)
            have hq : ¬ own_ws c4 := by
              have q := (hs5 be1.1).2; rw [be1.2] at q; exact q
            obtain ⟨v25, _, ⟨T25, L25, kQ25, nQ25⟩, -, X25, ⟨Lc25, hQ25, l25, y25, z25⟩, st25⟩ := Jvm.LawKit.callS X24 hx (y := (⟨"com/example/concurrency_quota/concurrencyquota/ServiceRequestTrimWhitespacePinLaw", "solid", "([CII)Z"⟩ : MethodName)) hown (mvT hZ (hw _ (List.mem_of_getElem? (i := 59) rfl))) (mvT hZ (hw _ (List.mem_of_getElem? (i := 60) rfl))) (mvT hZ (hw _ (List.mem_of_getElem? (i := 4) rfl))) (mvT hZ (hw _ (List.mem_of_getElem? (i := 61) rfl))) (by decide) (backOf (W := 0) (rmY1 l Z a0 hw [] b1 (Int32.ofNat NN) ka1 c2 c4 c6 c8 h12 n0 O12 Arv_b1 hlt hq) hZ (hw _ (List.mem_of_getElem? (i := 61) rfl)) (hw _ (List.mem_of_getElem? (i := 4) rfl)) (by decide) (by decide)) (g := (mkF m 164 #[.val (.int p1), .val (.int p2), .val (.int p3), .val (.int p4), .val (.int p5), .val (.int (Int32.ofNat NN)), .val (.ref b1), .val (.ref b10), .val (.ref r12), .val (.int (Int32.ofNat j12)), .unset, .unset] [(.int (1 : Int32)), (.int (Int32.ofNat NN)), (.ref b1)])) rfl (by rw [hml]; rfl) (argsL := [(.ref b1), (.int (Int32.ofNat NN)), (.int (1 : Int32))]) (rest := []) (lenOf pd_rm0_4 rfl) rfl (by show 2 * 0 + _ ≤ _; exact Nat.le_of_eq rfl) (hb hby at_164) (fun _ _ => ⟨rfl, e24, (by decide : 10 + 0 ≤ _), (by decide : 56 + 0 ≤ _)⟩)
            dsimp only [Pt.U, Pt.locs, Pt.cells, Pt.slots] at X25 l25 y25 z25 st25 hQ25
            subst y25 z25
            obtain ⟨rfl, Nq25, e25⟩ := hQ25
            have N25 : Fr n0 L25 := l25 ▸ Fr.app N24 Nq25
            refine GlW.st st25 ?_
            clear st25
            clear N24 X24 e24
            show GlW Z consts_1 p e below s _ _ _ T25 (mkF m 167 #[.val (.int p1), .val (.int p2), .val (.int p3), .val (.int p4), .val (.int p5), .val (.int (Int32.ofNat NN)), .val (.ref b1), .val (.ref b10), .val (.ref r12), .val (.int (Int32.ofNat j12)), .unset, .unset] [(.int (1 : Int32))])
            refine GlW.st (fun _ kk => XS.ifNo X25.here hx rfl (hb hby at_167) rfl ((if0 _ _).trans (feq (by decide : ¬ ((1 : Int32) = (0 : Int32)))).1) kk) ?_
            show GlW Z consts_1 p e below s _ _ _ T25 (mkF m 170 #[.val (.int p1), .val (.int p2), .val (.int p3), .val (.int p4), .val (.int p5), .val (.int (Int32.ofNat NN)), .val (.ref b1), .val (.ref b10), .val (.ref r12), .val (.int (Int32.ofNat j12)), .unset, .unset] [])
            refine GlW.st (fun _ kk => XS.iconst X25.here hx rfl (hb hby at_170) kk) ?_
            show GlW Z consts_1 p e below s _ _ _ T25 (mkF m 171 #[.val (.int p1), .val (.int p2), .val (.int p3), .val (.int p4), .val (.int p5), .val (.int (Int32.ofNat NN)), .val (.ref b1), .val (.ref b10), .val (.ref r12), .val (.int (Int32.ofNat j12)), .unset, .unset] [(.int (2 : Int32))])
            refine GlW.st (fun _ kk => XS.goto X25.here hx rfl (pc0 := 171) (pc' := 191) rfl (hb hby at_171) (by decide) (by decide) kk) ?_
            show GlW Z consts_1 p e below s _ _ _ T25 (mkF m 191 #[.val (.int p1), .val (.int p2), .val (.int p3), .val (.int p4), .val (.int p5), .val (.int (Int32.ofNat NN)), .val (.ref b1), .val (.ref b10), .val (.ref r12), .val (.int (Int32.ofNat j12)), .unset, .unset] [(.int (2 : Int32))])
            exact join191 (2 : Int32) (by rw [be1.2] <;> rfl) _ _ (Gl.wider X25 (by decide) (by decide)) e25 N25
          · skip
            have hz : (1 : Int32) < Int32.ofNat NN → own_ws c4 := fun q => by
              have hi : 1 < NN := (own_ofNat_lt (a := 1) (by decide) hNb).mp q
              by_cases hij : 1 < j12
              · exact hs3 1 hij
              · by_cases hie : ee12 ≤ 1
                · exact hs4 1 hie hi
                · exfalso; omega
            obtain ⟨v26, _, ⟨T26, L26, kQ26, nQ26⟩, -, X26, ⟨Lc26, hQ26, l26, y26, z26⟩, st26⟩ := Jvm.LawKit.callS X24 hx (y := (⟨"com/example/concurrency_quota/concurrencyquota/ServiceRequestTrimWhitespacePinLaw", "solid", "([CII)Z"⟩ : MethodName)) hown (mvT hZ (hw _ (List.mem_of_getElem? (i := 59) rfl))) (mvT hZ (hw _ (List.mem_of_getElem? (i := 60) rfl))) (mvT hZ (hw _ (List.mem_of_getElem? (i := 4) rfl))) (mvT hZ (hw _ (List.mem_of_getElem? (i := 61) rfl))) (by decide) (backOf (W := 0) (rmZ1 l Z a0 hw [] b1 (Int32.ofNat NN) ka1 c2 c4 c6 c8 h12 n0 O12 Arv_b1 hz) hZ (hw _ (List.mem_of_getElem? (i := 61) rfl)) (hw _ (List.mem_of_getElem? (i := 4) rfl)) (by decide) (by decide)) (g := (mkF m 164 #[.val (.int p1), .val (.int p2), .val (.int p3), .val (.int p4), .val (.int p5), .val (.int (Int32.ofNat NN)), .val (.ref b1), .val (.ref b10), .val (.ref r12), .val (.int (Int32.ofNat j12)), .unset, .unset] [(.int (1 : Int32)), (.int (Int32.ofNat NN)), (.ref b1)])) rfl (by rw [hml]; rfl) (argsL := [(.ref b1), (.int (Int32.ofNat NN)), (.int (1 : Int32))]) (rest := []) (lenOf pd_rm0_4 rfl) rfl (by show 2 * 0 + _ ≤ _; exact Nat.le_of_eq rfl) (hb hby at_164) (fun _ _ => ⟨rfl, e24, (by decide : 10 + 0 ≤ _), (by decide : 56 + 0 ≤ _)⟩)
            dsimp only [Pt.U, Pt.locs, Pt.cells, Pt.slots] at X26 l26 y26 z26 st26 hQ26
            subst y26 z26
            obtain ⟨rfl, Nq26, e26⟩ := hQ26
            have N26 : Fr n0 L26 := l26 ▸ Fr.app N24 Nq26
            refine GlW.st st26 ?_
            clear st26
            clear N24 X24 e24
            show GlW Z consts_1 p e below s _ _ _ T26 (mkF m 167 #[.val (.int p1), .val (.int p2), .val (.int p3), .val (.int p4), .val (.int p5), .val (.int (Int32.ofNat NN)), .val (.ref b1), .val (.ref b10), .val (.ref r12), .val (.int (Int32.ofNat j12)), .unset, .unset] [(.int (0 : Int32))])
            refine GlW.st (fun _ kk => XS.ifYes X26.here hx rfl (pc0 := 167) (pc' := 174) rfl (hb hby at_167) rfl ((if0 _ _).trans (teq (by decide : (0 : Int32) = (0 : Int32))).1) (by decide) (by decide) kk) ?_
            show GlW Z consts_1 p e below s _ _ _ T26 (mkF m 174 #[.val (.int p1), .val (.int p2), .val (.int p3), .val (.int p4), .val (.int p5), .val (.int (Int32.ofNat NN)), .val (.ref b1), .val (.ref b10), .val (.ref r12), .val (.int (Int32.ofNat j12)), .unset, .unset] [])
            refine GlW.st (fun _ kk => XS.aload X26.here hx rfl (hb hby at_174) rfl rfl kk) ?_
            show GlW Z consts_1 p e below s _ _ _ T26 (mkF m 176 #[.val (.int p1), .val (.int p2), .val (.int p3), .val (.int p4), .val (.int p5), .val (.int (Int32.ofNat NN)), .val (.ref b1), .val (.ref b10), .val (.ref r12), .val (.int (Int32.ofNat j12)), .unset, .unset] [(.ref b1)])
            refine GlW.st (fun _ kk => XS.iload X26.here hx rfl (hb hby at_176) rfl kk) ?_
            show GlW Z consts_1 p e below s _ _ _ T26 (mkF m 178 #[.val (.int p1), .val (.int p2), .val (.int p3), .val (.int p4), .val (.int p5), .val (.int (Int32.ofNat NN)), .val (.ref b1), .val (.ref b10), .val (.ref r12), .val (.int (Int32.ofNat j12)), .unset, .unset] [(.int (Int32.ofNat NN)), (.ref b1)])
            refine GlW.st (fun _ kk => XS.iconst X26.here hx rfl (hb hby at_178) kk) ?_
            show GlW Z consts_1 p e below s _ _ _ T26 (mkF m 179 #[.val (.int p1), .val (.int p2), .val (.int p3), .val (.int p4), .val (.int p5), .val (.int (Int32.ofNat NN)), .val (.ref b1), .val (.ref b10), .val (.ref r12), .val (.int (Int32.ofNat j12)), .unset, .unset] [(.int (0 : Int32)), (.int (Int32.ofNat NN)), (.ref b1)])
            by_cases be0 : j12 < ee12 ∧ ee12 = 1
            · skip
              have hlt : (0 : Int32) < Int32.ofNat NN := (own_ofNat_lt (a := 0) (by decide) hNb).mpr (by omega)
              have hq : ¬ own_ws c2 := by
                have q := (hs5 be0.1).2; rw [be0.2] at q; exact q
              obtain ⟨v27, _, ⟨T27, L27, kQ27, nQ27⟩, -, X27, ⟨Lc27, hQ27, l27, y27, z27⟩, st27⟩ := Jvm.LawKit.callS X26 hx (y := (⟨"com/example/concurrency_quota/concurrencyquota/ServiceRequestTrimWhitespacePinLaw", "solid", "([CII)Z"⟩ : MethodName)) hown (mvT hZ (hw _ (List.mem_of_getElem? (i := 59) rfl))) (mvT hZ (hw _ (List.mem_of_getElem? (i := 60) rfl))) (mvT hZ (hw _ (List.mem_of_getElem? (i := 4) rfl))) (mvT hZ (hw _ (List.mem_of_getElem? (i := 61) rfl))) (by decide) (backOf (W := 0) (rmY0 l Z a0 hw [] b1 (Int32.ofNat NN) ka1 c2 c4 c6 c8 h12 n0 O12 Arv_b1 hlt hq) hZ (hw _ (List.mem_of_getElem? (i := 61) rfl)) (hw _ (List.mem_of_getElem? (i := 4) rfl)) (by decide) (by decide)) (g := (mkF m 179 #[.val (.int p1), .val (.int p2), .val (.int p3), .val (.int p4), .val (.int p5), .val (.int (Int32.ofNat NN)), .val (.ref b1), .val (.ref b10), .val (.ref r12), .val (.int (Int32.ofNat j12)), .unset, .unset] [(.int (0 : Int32)), (.int (Int32.ofNat NN)), (.ref b1)])) rfl (by rw [hml]; rfl) (argsL := [(.ref b1), (.int (Int32.ofNat NN)), (.int (0 : Int32))]) (rest := []) (lenOf pd_rm0_4 rfl) rfl (by show 2 * 0 + _ ≤ _; exact Nat.le_of_eq rfl) (hb hby at_179) (fun _ _ => ⟨rfl, e26, (by decide : 10 + 0 ≤ _), (by decide : 56 + 0 ≤ _)⟩)
              dsimp only [Pt.U, Pt.locs, Pt.cells, Pt.slots] at X27 l27 y27 z27 st27 hQ27
              subst y27 z27
              obtain ⟨rfl, Nq27, e27⟩ := hQ27
              have N27 : Fr n0 L27 := l27 ▸ Fr.app N26 Nq27
              refine GlW.st st27 ?_
              clear st27
              clear N26 X26 e26
              show GlW Z consts_1 p e below s _ _ _ T27 (mkF m 182 #[.val (.int p1), .val (.int p2), .val (.int p3), .val (.int p4), .val (.int p5), .val (.int (Int32.ofNat NN)), .val (.ref b1), .val (.ref b10), .val (.ref r12), .val (.int (Int32.ofNat j12)), .unset, .unset] [(.int (1 : Int32))])
              refine GlW.st (fun _ kk => XS.ifNo X27.here hx rfl (hb hby at_182) rfl ((if0 _ _).trans (feq (by decide : ¬ ((1 : Int32) = (0 : Int32)))).1) kk) ?_
              show GlW Z consts_1 p e below s _ _ _ T27 (mkF m 185 #[.val (.int p1), .val (.int p2), .val (.int p3), .val (.int p4), .val (.int p5), .val (.int (Int32.ofNat NN)), .val (.ref b1), .val (.ref b10), .val (.ref r12), .val (.int (Int32.ofNat j12)), .unset, .unset] [])
              refine GlW.st (fun _ kk => XS.iconst X27.here hx rfl (hb hby at_185) kk) ?_
              show GlW Z consts_1 p e below s _ _ _ T27 (mkF m 186 #[.val (.int p1), .val (.int p2), .val (.int p3), .val (.int p4), .val (.int p5), .val (.int (Int32.ofNat NN)), .val (.ref b1), .val (.ref b10), .val (.ref r12), .val (.int (Int32.ofNat j12)), .unset, .unset] [(.int (1 : Int32))])
              refine GlW.st (fun _ kk => XS.goto X27.here hx rfl (pc0 := 186) (pc' := 191) rfl (hb hby at_186) (by decide) (by decide) kk) ?_
              show GlW Z consts_1 p e below s _ _ _ T27 (mkF m 191 #[.val (.int p1), .val (.int p2), .val (.int p3), .val (.int p4), .val (.int p5), .val (.int (Int32.ofNat NN)), .val (.ref b1), .val (.ref b10), .val (.ref r12), .val (.int (Int32.ofNat j12)), .unset, .unset] [(.int (1 : Int32))])
              exact join191 (1 : Int32) (by rw [be0.2] <;> rfl) _ _ (Gl.wider X27 (by decide) (by decide)) e27 N27
            · skip
              have hz : (0 : Int32) < Int32.ofNat NN → own_ws c2 := fun q => by
                have hi : 0 < NN := (own_ofNat_lt (a := 0) (by decide) hNb).mp q
                by_cases hij : 0 < j12
                · exact hs3 0 hij
                · by_cases hie : ee12 ≤ 0
                  · exact hs4 0 hie hi
                  · exfalso; omega
              obtain ⟨v28, _, ⟨T28, L28, kQ28, nQ28⟩, -, X28, ⟨Lc28, hQ28, l28, y28, z28⟩, st28⟩ := Jvm.LawKit.callS X26 hx (y := (⟨"com/example/concurrency_quota/concurrencyquota/ServiceRequestTrimWhitespacePinLaw", "solid", "([CII)Z"⟩ : MethodName)) hown (mvT hZ (hw _ (List.mem_of_getElem? (i := 59) rfl))) (mvT hZ (hw _ (List.mem_of_getElem? (i := 60) rfl))) (mvT hZ (hw _ (List.mem_of_getElem? (i := 4) rfl))) (mvT hZ (hw _ (List.mem_of_getElem? (i := 61) rfl))) (by decide) (backOf (W := 0) (rmZ0 l Z a0 hw [] b1 (Int32.ofNat NN) ka1 c2 c4 c6 c8 h12 n0 O12 Arv_b1 hz) hZ (hw _ (List.mem_of_getElem? (i := 61) rfl)) (hw _ (List.mem_of_getElem? (i := 4) rfl)) (by decide) (by decide)) (g := (mkF m 179 #[.val (.int p1), .val (.int p2), .val (.int p3), .val (.int p4), .val (.int p5), .val (.int (Int32.ofNat NN)), .val (.ref b1), .val (.ref b10), .val (.ref r12), .val (.int (Int32.ofNat j12)), .unset, .unset] [(.int (0 : Int32)), (.int (Int32.ofNat NN)), (.ref b1)])) rfl (by rw [hml]; rfl) (argsL := [(.ref b1), (.int (Int32.ofNat NN)), (.int (0 : Int32))]) (rest := []) (lenOf pd_rm0_4 rfl) rfl (by show 2 * 0 + _ ≤ _; exact Nat.le_of_eq rfl) (hb hby at_179) (fun _ _ => ⟨rfl, e26, (by decide : 10 + 0 ≤ _), (by decide : 56 + 0 ≤ _)⟩)
              dsimp only [Pt.U, Pt.locs, Pt.cells, Pt.slots] at X28 l28 y28 z28 st28 hQ28
              subst y28 z28
              obtain ⟨rfl, Nq28, e28⟩ := hQ28
              have N28 : Fr n0 L28 := l28 ▸ Fr.app N26 Nq28
              refine GlW.st st28 ?_
              clear st28
              clear N26 X26 e26
              show GlW Z consts_1 p e below s _ _ _ T28 (mkF m 182 #[.val (.int p1), .val (.int p2), .val (.int p3), .val (.int p4), .val (.int p5), .val (.int (Int32.ofNat NN)), .val (.ref b1), .val (.ref b10), .val (.ref r12), .val (.int (Int32.ofNat j12)), .unset, .unset] [(.int (0 : Int32))])
              refine GlW.st (fun _ kk => XS.ifYes X28.here hx rfl (pc0 := 182) (pc' := 189) rfl (hb hby at_182) rfl ((if0 _ _).trans (teq (by decide : (0 : Int32) = (0 : Int32))).1) (by decide) (by decide) kk) ?_
              show GlW Z consts_1 p e below s _ _ _ T28 (mkF m 189 #[.val (.int p1), .val (.int p2), .val (.int p3), .val (.int p4), .val (.int p5), .val (.int (Int32.ofNat NN)), .val (.ref b1), .val (.ref b10), .val (.ref r12), .val (.int (Int32.ofNat j12)), .unset, .unset] [])
              refine GlW.st (fun _ kk => XS.iload X28.here hx rfl (hb hby at_189) rfl kk) ?_
              show GlW Z consts_1 p e below s _ _ _ T28 (mkF m 191 #[.val (.int p1), .val (.int p2), .val (.int p3), .val (.int p4), .val (.int p5), .val (.int (Int32.ofNat NN)), .val (.ref b1), .val (.ref b10), .val (.ref r12), .val (.int (Int32.ofNat j12)), .unset, .unset] [(.int (Int32.ofNat j12))])
              exact join191 (Int32.ofNat j12) (by rw [show j12 = ee12 by omega]) _ _ (Gl.wider X28 (by decide) (by decide)) e28 N28
    refine GlW.st (fun _ kk => XS.aload X12.here hx rfl (hb hby at_65) rfl rfl kk) ?_
    show GlW Z consts_1 p e below s _ _ _ T12 (mkF m 67 #[.val (.int p1), .val (.int p2), .val (.int p3), .val (.int p4), .val (.int p5), .val (.int (Int32.ofNat NN)), .val (.ref b1), .val (.ref b10), .val (.ref r12), .unset, .unset, .unset] [(.ref b1)])
    refine GlW.st (fun _ kk => XS.iload X12.here hx rfl (hb hby at_67) rfl kk) ?_
    show GlW Z consts_1 p e below s _ _ _ T12 (mkF m 69 #[.val (.int p1), .val (.int p2), .val (.int p3), .val (.int p4), .val (.int p5), .val (.int (Int32.ofNat NN)), .val (.ref b1), .val (.ref b10), .val (.ref r12), .unset, .unset, .unset] [(.int (Int32.ofNat NN)), (.ref b1)])
    refine GlW.st (fun _ kk => XS.iconst X12.here hx rfl (hb hby at_69) kk) ?_
    show GlW Z consts_1 p e below s _ _ _ T12 (mkF m 70 #[.val (.int p1), .val (.int p2), .val (.int p3), .val (.int p4), .val (.int p5), .val (.int (Int32.ofNat NN)), .val (.ref b1), .val (.ref b10), .val (.ref r12), .unset, .unset, .unset] [(.int (0 : Int32)), (.int (Int32.ofNat NN)), (.ref b1)])
    by_cases bf0 : j12 = 0 ∧ j12 < ee12
    · skip
      have hlt : (0 : Int32) < Int32.ofNat NN := (own_ofNat_lt (a := 0) (by decide) hNb).mpr (by omega)
      have hq : ¬ own_ws c2 := by
        have q := (hs5 bf0.2).1; rw [bf0.1] at q; exact q
      obtain ⟨v29, _, ⟨T29, L29, kQ29, nQ29⟩, -, X29, ⟨Lc29, hQ29, l29, y29, z29⟩, st29⟩ := Jvm.LawKit.callS X12 hx (y := (⟨"com/example/concurrency_quota/concurrencyquota/ServiceRequestTrimWhitespacePinLaw", "solid", "([CII)Z"⟩ : MethodName)) hown (mvT hZ (hw _ (List.mem_of_getElem? (i := 59) rfl))) (mvT hZ (hw _ (List.mem_of_getElem? (i := 60) rfl))) (mvT hZ (hw _ (List.mem_of_getElem? (i := 4) rfl))) (mvT hZ (hw _ (List.mem_of_getElem? (i := 61) rfl))) (by decide) (backOf (W := 0) (rmY0 l Z a0 hw [] b1 (Int32.ofNat NN) ka1 c2 c4 c6 c8 h12 n0 O12 Arv_b1 hlt hq) hZ (hw _ (List.mem_of_getElem? (i := 61) rfl)) (hw _ (List.mem_of_getElem? (i := 4) rfl)) (by decide) (by decide)) (g := (mkF m 70 #[.val (.int p1), .val (.int p2), .val (.int p3), .val (.int p4), .val (.int p5), .val (.int (Int32.ofNat NN)), .val (.ref b1), .val (.ref b10), .val (.ref r12), .unset, .unset, .unset] [(.int (0 : Int32)), (.int (Int32.ofNat NN)), (.ref b1)])) rfl (by rw [hml]; rfl) (argsL := [(.ref b1), (.int (Int32.ofNat NN)), (.int (0 : Int32))]) (rest := []) (lenOf pd_rm0_4 rfl) rfl (by show 2 * 0 + _ ≤ _; exact Nat.le_of_eq rfl) (hb hby at_70) (fun _ _ => ⟨rfl, e12, (by decide : 10 + 0 ≤ _), (by decide : 56 + 0 ≤ _)⟩)
      dsimp only [Pt.U, Pt.locs, Pt.cells, Pt.slots] at X29 l29 y29 z29 st29 hQ29
      subst y29 z29
      obtain ⟨rfl, Nq29, e29⟩ := hQ29
      have N29 : Fr n0 L29 := l29 ▸ Fr.app N12 Nq29
      refine GlW.st st29 ?_
      clear st29
      clear N12 X12 e12
      show GlW Z consts_1 p e below s _ _ _ T29 (mkF m 73 #[.val (.int p1), .val (.int p2), .val (.int p3), .val (.int p4), .val (.int p5), .val (.int (Int32.ofNat NN)), .val (.ref b1), .val (.ref b10), .val (.ref r12), .unset, .unset, .unset] [(.int (1 : Int32))])
      refine GlW.st (fun _ kk => XS.ifNo X29.here hx rfl (hb hby at_73) rfl ((if0 _ _).trans (feq (by decide : ¬ ((1 : Int32) = (0 : Int32)))).1) kk) ?_
      show GlW Z consts_1 p e below s _ _ _ T29 (mkF m 76 #[.val (.int p1), .val (.int p2), .val (.int p3), .val (.int p4), .val (.int p5), .val (.int (Int32.ofNat NN)), .val (.ref b1), .val (.ref b10), .val (.ref r12), .unset, .unset, .unset] [])
      refine GlW.st (fun _ kk => XS.iconst X29.here hx rfl (hb hby at_76) kk) ?_
      show GlW Z consts_1 p e below s _ _ _ T29 (mkF m 77 #[.val (.int p1), .val (.int p2), .val (.int p3), .val (.int p4), .val (.int p5), .val (.int (Int32.ofNat NN)), .val (.ref b1), .val (.ref b10), .val (.ref r12), .unset, .unset, .unset] [(.int (0 : Int32))])
      refine GlW.st (fun _ kk => XS.goto X29.here hx rfl (pc0 := 77) (pc' := 127) rfl (hb hby at_77) (by decide) (by decide) kk) ?_
      show GlW Z consts_1 p e below s _ _ _ T29 (mkF m 127 #[.val (.int p1), .val (.int p2), .val (.int p3), .val (.int p4), .val (.int p5), .val (.int (Int32.ofNat NN)), .val (.ref b1), .val (.ref b10), .val (.ref r12), .unset, .unset, .unset] [(.int (0 : Int32))])
      exact join127 (0 : Int32) (by rw [bf0.1] <;> rfl) _ _ (Gl.wider X29 (by decide) (by decide)) e29 N29
    · skip
      have hz : (0 : Int32) < Int32.ofNat NN → own_ws c2 := fun q => by
        have hi : 0 < NN := (own_ofNat_lt (a := 0) (by decide) hNb).mp q
        by_cases hij : 0 < j12
        · exact hs3 0 hij
        · exfalso; omega
      obtain ⟨v30, _, ⟨T30, L30, kQ30, nQ30⟩, -, X30, ⟨Lc30, hQ30, l30, y30, z30⟩, st30⟩ := Jvm.LawKit.callS X12 hx (y := (⟨"com/example/concurrency_quota/concurrencyquota/ServiceRequestTrimWhitespacePinLaw", "solid", "([CII)Z"⟩ : MethodName)) hown (mvT hZ (hw _ (List.mem_of_getElem? (i := 59) rfl))) (mvT hZ (hw _ (List.mem_of_getElem? (i := 60) rfl))) (mvT hZ (hw _ (List.mem_of_getElem? (i := 4) rfl))) (mvT hZ (hw _ (List.mem_of_getElem? (i := 61) rfl))) (by decide) (backOf (W := 0) (rmZ0 l Z a0 hw [] b1 (Int32.ofNat NN) ka1 c2 c4 c6 c8 h12 n0 O12 Arv_b1 hz) hZ (hw _ (List.mem_of_getElem? (i := 61) rfl)) (hw _ (List.mem_of_getElem? (i := 4) rfl)) (by decide) (by decide)) (g := (mkF m 70 #[.val (.int p1), .val (.int p2), .val (.int p3), .val (.int p4), .val (.int p5), .val (.int (Int32.ofNat NN)), .val (.ref b1), .val (.ref b10), .val (.ref r12), .unset, .unset, .unset] [(.int (0 : Int32)), (.int (Int32.ofNat NN)), (.ref b1)])) rfl (by rw [hml]; rfl) (argsL := [(.ref b1), (.int (Int32.ofNat NN)), (.int (0 : Int32))]) (rest := []) (lenOf pd_rm0_4 rfl) rfl (by show 2 * 0 + _ ≤ _; exact Nat.le_of_eq rfl) (hb hby at_70) (fun _ _ => ⟨rfl, e12, (by decide : 10 + 0 ≤ _), (by decide : 56 + 0 ≤ _)⟩)
      dsimp only [Pt.U, Pt.locs, Pt.cells, Pt.slots] at X30 l30 y30 z30 st30 hQ30
      subst y30 z30
      obtain ⟨rfl, Nq30, e30⟩ := hQ30
      have N30 : Fr n0 L30 := l30 ▸ Fr.app N12 Nq30
      refine GlW.st st30 ?_
      clear st30
      clear N12 X12 e12
      show GlW Z consts_1 p e below s _ _ _ T30 (mkF m 73 #[.val (.int p1), .val (.int p2), .val (.int p3), .val (.int p4), .val (.int p5), .val (.int (Int32.ofNat NN)), .val (.ref b1), .val (.ref b10), .val (.ref r12), .unset, .unset, .unset] [(.int (0 : Int32))])
      refine GlW.st (fun _ kk => XS.ifYes X30.here hx rfl (pc0 := 73) (pc' := 80) rfl (hb hby at_73) rfl ((if0 _ _).trans (teq (by decide : (0 : Int32) = (0 : Int32))).1) (by decide) (by decide) kk) ?_
      show GlW Z consts_1 p e below s _ _ _ T30 (mkF m 80 #[.val (.int p1), .val (.int p2), .val (.int p3), .val (.int p4), .val (.int p5), .val (.int (Int32.ofNat NN)), .val (.ref b1), .val (.ref b10), .val (.ref r12), .unset, .unset, .unset] [])
      refine GlW.st (fun _ kk => XS.aload X30.here hx rfl (hb hby at_80) rfl rfl kk) ?_
      show GlW Z consts_1 p e below s _ _ _ T30 (mkF m 82 #[.val (.int p1), .val (.int p2), .val (.int p3), .val (.int p4), .val (.int p5), .val (.int (Int32.ofNat NN)), .val (.ref b1), .val (.ref b10), .val (.ref r12), .unset, .unset, .unset] [(.ref b1)])
      refine GlW.st (fun _ kk => XS.iload X30.here hx rfl (hb hby at_82) rfl kk) ?_
      show GlW Z consts_1 p e below s _ _ _ T30 (mkF m 84 #[.val (.int p1), .val (.int p2), .val (.int p3), .val (.int p4), .val (.int p5), .val (.int (Int32.ofNat NN)), .val (.ref b1), .val (.ref b10), .val (.ref r12), .unset, .unset, .unset] [(.int (Int32.ofNat NN)), (.ref b1)])
      refine GlW.st (fun _ kk => XS.iconst X30.here hx rfl (hb hby at_84) kk) ?_
      show GlW Z consts_1 p e below s _ _ _ T30 (mkF m 85 #[.val (.int p1), .val (.int p2), .val (.int p3), .val (.int p4), .val (.int p5), .val (.int (Int32.ofNat NN)), .val (.ref b1), .val (.ref b10), .val (.ref r12), .unset, .unset, .unset] [(.int (1 : Int32)), (.int (Int32.ofNat NN)), (.ref b1)])
      by_cases bf1 : j12 = 1 ∧ j12 < ee12
      · skip
        have hlt : (1 : Int32) < Int32.ofNat NN := (own_ofNat_lt (a := 1) (by decide) hNb).mpr (by omega)
        have hq : ¬ own_ws c4 := by
          have q := (hs5 bf1.2).1; rw [bf1.1] at q; exact q
        obtain ⟨v31, _, ⟨T31, L31, kQ31, nQ31⟩, -, X31, ⟨Lc31, hQ31, l31, y31, z31⟩, st31⟩ := Jvm.LawKit.callS X30 hx (y := (⟨"com/example/concurrency_quota/concurrencyquota/ServiceRequestTrimWhitespacePinLaw", "solid", "([CII)Z"⟩ : MethodName)) hown (mvT hZ (hw _ (List.mem_of_getElem? (i := 59) rfl))) (mvT hZ (hw _ (List.mem_of_getElem? (i := 60) rfl))) (mvT hZ (hw _ (List.mem_of_getElem? (i := 4) rfl))) (mvT hZ (hw _ (List.mem_of_getElem? (i := 61) rfl))) (by decide) (backOf (W := 0) (rmY1 l Z a0 hw [] b1 (Int32.ofNat NN) ka1 c2 c4 c6 c8 h12 n0 O12 Arv_b1 hlt hq) hZ (hw _ (List.mem_of_getElem? (i := 61) rfl)) (hw _ (List.mem_of_getElem? (i := 4) rfl)) (by decide) (by decide)) (g := (mkF m 85 #[.val (.int p1), .val (.int p2), .val (.int p3), .val (.int p4), .val (.int p5), .val (.int (Int32.ofNat NN)), .val (.ref b1), .val (.ref b10), .val (.ref r12), .unset, .unset, .unset] [(.int (1 : Int32)), (.int (Int32.ofNat NN)), (.ref b1)])) rfl (by rw [hml]; rfl) (argsL := [(.ref b1), (.int (Int32.ofNat NN)), (.int (1 : Int32))]) (rest := []) (lenOf pd_rm0_4 rfl) rfl (by show 2 * 0 + _ ≤ _; exact Nat.le_of_eq rfl) (hb hby at_85) (fun _ _ => ⟨rfl, e30, (by decide : 10 + 0 ≤ _), (by decide : 56 + 0 ≤ _)⟩)
        dsimp only [Pt.U, Pt.locs, Pt.cells, Pt.slots] at X31 l31 y31 z31 st31 hQ31
        subst y31 z31
        obtain ⟨rfl, Nq31, e31⟩ := hQ31
        have N31 : Fr n0 L31 := l31 ▸ Fr.app N30 Nq31
        refine GlW.st st31 ?_
        clear st31
        clear N30 X30 e30
        show GlW Z consts_1 p e below s _ _ _ T31 (mkF m 88 #[.val (.int p1), .val (.int p2), .val (.int p3), .val (.int p4), .val (.int p5), .val (.int (Int32.ofNat NN)), .val (.ref b1), .val (.ref b10), .val (.ref r12), .unset, .unset, .unset] [(.int (1 : Int32))])
        refine GlW.st (fun _ kk => XS.ifNo X31.here hx rfl (hb hby at_88) rfl ((if0 _ _).trans (feq (by decide : ¬ ((1 : Int32) = (0 : Int32)))).1) kk) ?_
        show GlW Z consts_1 p e below s _ _ _ T31 (mkF m 91 #[.val (.int p1), .val (.int p2), .val (.int p3), .val (.int p4), .val (.int p5), .val (.int (Int32.ofNat NN)), .val (.ref b1), .val (.ref b10), .val (.ref r12), .unset, .unset, .unset] [])
        refine GlW.st (fun _ kk => XS.iconst X31.here hx rfl (hb hby at_91) kk) ?_
        show GlW Z consts_1 p e below s _ _ _ T31 (mkF m 92 #[.val (.int p1), .val (.int p2), .val (.int p3), .val (.int p4), .val (.int p5), .val (.int (Int32.ofNat NN)), .val (.ref b1), .val (.ref b10), .val (.ref r12), .unset, .unset, .unset] [(.int (1 : Int32))])
        refine GlW.st (fun _ kk => XS.goto X31.here hx rfl (pc0 := 92) (pc' := 127) rfl (hb hby at_92) (by decide) (by decide) kk) ?_
        show GlW Z consts_1 p e below s _ _ _ T31 (mkF m 127 #[.val (.int p1), .val (.int p2), .val (.int p3), .val (.int p4), .val (.int p5), .val (.int (Int32.ofNat NN)), .val (.ref b1), .val (.ref b10), .val (.ref r12), .unset, .unset, .unset] [(.int (1 : Int32))])
        exact join127 (1 : Int32) (by rw [bf1.1] <;> rfl) _ _ (Gl.wider X31 (by decide) (by decide)) e31 N31
      · skip
        have hz : (1 : Int32) < Int32.ofNat NN → own_ws c4 := fun q => by
          have hi : 1 < NN := (own_ofNat_lt (a := 1) (by decide) hNb).mp q
          by_cases hij : 1 < j12
          · exact hs3 1 hij
          · exfalso; omega
        obtain ⟨v32, _, ⟨T32, L32, kQ32, nQ32⟩, -, X32, ⟨Lc32, hQ32, l32, y32, z32⟩, st32⟩ := Jvm.LawKit.callS X30 hx (y := (⟨"com/example/concurrency_quota/concurrencyquota/ServiceRequestTrimWhitespacePinLaw", "solid", "([CII)Z"⟩ : MethodName)) hown (mvT hZ (hw _ (List.mem_of_getElem? (i := 59) rfl))) (mvT hZ (hw _ (List.mem_of_getElem? (i := 60) rfl))) (mvT hZ (hw _ (List.mem_of_getElem? (i := 4) rfl))) (mvT hZ (hw _ (List.mem_of_getElem? (i := 61) rfl))) (by decide) (backOf (W := 0) (rmZ1 l Z a0 hw [] b1 (Int32.ofNat NN) ka1 c2 c4 c6 c8 h12 n0 O12 Arv_b1 hz) hZ (hw _ (List.mem_of_getElem? (i := 61) rfl)) (hw _ (List.mem_of_getElem? (i := 4) rfl)) (by decide) (by decide)) (g := (mkF m 85 #[.val (.int p1), .val (.int p2), .val (.int p3), .val (.int p4), .val (.int p5), .val (.int (Int32.ofNat NN)), .val (.ref b1), .val (.ref b10), .val (.ref r12), .unset, .unset, .unset] [(.int (1 : Int32)), (.int (Int32.ofNat NN)), (.ref b1)])) rfl (by rw [hml]; rfl) (argsL := [(.ref b1), (.int (Int32.ofNat NN)), (.int (1 : Int32))]) (rest := []) (lenOf pd_rm0_4 rfl) rfl (by show 2 * 0 + _ ≤ _; exact Nat.le_of_eq rfl) (hb hby at_85) (fun _ _ => ⟨rfl, e30, (by decide : 10 + 0 ≤ _), (by decide : 56 + 0 ≤ _)⟩)
        dsimp only [Pt.U, Pt.locs, Pt.cells, Pt.slots] at X32 l32 y32 z32 st32 hQ32
        subst y32 z32
        obtain ⟨rfl, Nq32, e32⟩ := hQ32
        have N32 : Fr n0 L32 := l32 ▸ Fr.app N30 Nq32
        refine GlW.st st32 ?_
        clear st32
        clear N30 X30 e30
        show GlW Z consts_1 p e below s _ _ _ T32 (mkF m 88 #[.val (.int p1), .val (.int p2), .val (.int p3), .val (.int p4), .val (.int p5), .val (.int (Int32.ofNat NN)), .val (.ref b1), .val (.ref b10), .val (.ref r12), .unset, .unset, .unset] [(.int (0 : Int32))])
        refine GlW.st (fun _ kk => XS.ifYes X32.here hx rfl (pc0 := 88) (pc' := 95) rfl (hb hby at_88) rfl ((if0 _ _).trans (teq (by decide : (0 : Int32) = (0 : Int32))).1) (by decide) (by decide) kk) ?_
        show GlW Z consts_1 p e below s _ _ _ T32 (mkF m 95 #[.val (.int p1), .val (.int p2), .val (.int p3), .val (.int p4), .val (.int p5), .val (.int (Int32.ofNat NN)), .val (.ref b1), .val (.ref b10), .val (.ref r12), .unset, .unset, .unset] [])
        refine GlW.st (fun _ kk => XS.aload X32.here hx rfl (hb hby at_95) rfl rfl kk) ?_
        show GlW Z consts_1 p e below s _ _ _ T32 (mkF m 97 #[.val (.int p1), .val (.int p2), .val (.int p3), .val (.int p4), .val (.int p5), .val (.int (Int32.ofNat NN)), .val (.ref b1), .val (.ref b10), .val (.ref r12), .unset, .unset, .unset] [(.ref b1)])
        refine GlW.st (fun _ kk => XS.iload X32.here hx rfl (hb hby at_97) rfl kk) ?_
        show GlW Z consts_1 p e below s _ _ _ T32 (mkF m 99 #[.val (.int p1), .val (.int p2), .val (.int p3), .val (.int p4), .val (.int p5), .val (.int (Int32.ofNat NN)), .val (.ref b1), .val (.ref b10), .val (.ref r12), .unset, .unset, .unset] [(.int (Int32.ofNat NN)), (.ref b1)])
        refine GlW.st (fun _ kk => XS.iconst X32.here hx rfl (hb hby at_99) kk) ?_
        show GlW Z consts_1 p e below s _ _ _ T32 (mkF m 100 #[.val (.int p1), .val (.int p2), .val (.int p3), .val (.int p4), .val (.int p5), .val (.int (Int32.ofNat NN)), .val (.ref b1), .val (.ref b10), .val (.ref r12), .unset, .unset, .unset] [(.int (2 : Int32)), (.int (Int32.ofNat NN)), (.ref b1)])
        by_cases bf2 : j12 = 2 ∧ j12 < ee12
        · skip
          have hlt : (2 : Int32) < Int32.ofNat NN := (own_ofNat_lt (a := 2) (by decide) hNb).mpr (by omega)
          have hq : ¬ own_ws c6 := by
            have q := (hs5 bf2.2).1; rw [bf2.1] at q; exact q
          obtain ⟨v33, _, ⟨T33, L33, kQ33, nQ33⟩, -, X33, ⟨Lc33, hQ33, l33, y33, z33⟩, st33⟩ := Jvm.LawKit.callS X32 hx (y := (⟨"com/example/concurrency_quota/concurrencyquota/ServiceRequestTrimWhitespacePinLaw", "solid", "([CII)Z"⟩ : MethodName)) hown (mvT hZ (hw _ (List.mem_of_getElem? (i := 59) rfl))) (mvT hZ (hw _ (List.mem_of_getElem? (i := 60) rfl))) (mvT hZ (hw _ (List.mem_of_getElem? (i := 4) rfl))) (mvT hZ (hw _ (List.mem_of_getElem? (i := 61) rfl))) (by decide) (backOf (W := 0) (rmY2 l Z a0 hw [] b1 (Int32.ofNat NN) ka1 c2 c4 c6 c8 h12 n0 O12 Arv_b1 hlt hq) hZ (hw _ (List.mem_of_getElem? (i := 61) rfl)) (hw _ (List.mem_of_getElem? (i := 4) rfl)) (by decide) (by decide)) (g := (mkF m 100 #[.val (.int p1), .val (.int p2), .val (.int p3), .val (.int p4), .val (.int p5), .val (.int (Int32.ofNat NN)), .val (.ref b1), .val (.ref b10), .val (.ref r12), .unset, .unset, .unset] [(.int (2 : Int32)), (.int (Int32.ofNat NN)), (.ref b1)])) rfl (by rw [hml]; rfl) (argsL := [(.ref b1), (.int (Int32.ofNat NN)), (.int (2 : Int32))]) (rest := []) (lenOf pd_rm0_4 rfl) rfl (by show 2 * 0 + _ ≤ _; exact Nat.le_of_eq rfl) (hb hby at_100) (fun _ _ => ⟨rfl, e32, (by decide : 10 + 0 ≤ _), (by decide : 56 + 0 ≤ _)⟩)
          dsimp only [Pt.U, Pt.locs, Pt.cells, Pt.slots] at X33 l33 y33 z33 st33 hQ33
          subst y33 z33
          obtain ⟨rfl, Nq33, e33⟩ := hQ33
          have N33 : Fr n0 L33 := l33 ▸ Fr.app N32 Nq33
          refine GlW.st st33 ?_
          clear st33
          clear N32 X32 e32
          show GlW Z consts_1 p e below s _ _ _ T33 (mkF m 103 #[.val (.int p1), .val (.int p2), .val (.int p3), .val (.int p4), .val (.int p5), .val (.int (Int32.ofNat NN)), .val (.ref b1), .val (.ref b10), .val (.ref r12), .unset, .unset, .unset] [(.int (1 : Int32))])
          refine GlW.st (fun _ kk => XS.ifNo X33.here hx rfl (hb hby at_103) rfl ((if0 _ _).trans (feq (by decide : ¬ ((1 : Int32) = (0 : Int32)))).1) kk) ?_
          show GlW Z consts_1 p e below s _ _ _ T33 (mkF m 106 #[.val (.int p1), .val (.int p2), .val (.int p3), .val (.int p4), .val (.int p5), .val (.int (Int32.ofNat NN)), .val (.ref b1), .val (.ref b10), .val (.ref r12), .unset, .unset, .unset] [])
          refine GlW.st (fun _ kk => XS.iconst X33.here hx rfl (hb hby at_106) kk) ?_
          show GlW Z consts_1 p e below s _ _ _ T33 (mkF m 107 #[.val (.int p1), .val (.int p2), .val (.int p3), .val (.int p4), .val (.int p5), .val (.int (Int32.ofNat NN)), .val (.ref b1), .val (.ref b10), .val (.ref r12), .unset, .unset, .unset] [(.int (2 : Int32))])
          refine GlW.st (fun _ kk => XS.goto X33.here hx rfl (pc0 := 107) (pc' := 127) rfl (hb hby at_107) (by decide) (by decide) kk) ?_
          show GlW Z consts_1 p e below s _ _ _ T33 (mkF m 127 #[.val (.int p1), .val (.int p2), .val (.int p3), .val (.int p4), .val (.int p5), .val (.int (Int32.ofNat NN)), .val (.ref b1), .val (.ref b10), .val (.ref r12), .unset, .unset, .unset] [(.int (2 : Int32))])
          exact join127 (2 : Int32) (by rw [bf2.1] <;> rfl) _ _ (Gl.wider X33 (by decide) (by decide)) e33 N33
        · skip
          have hz : (2 : Int32) < Int32.ofNat NN → own_ws c6 := fun q => by
            have hi : 2 < NN := (own_ofNat_lt (a := 2) (by decide) hNb).mp q
            by_cases hij : 2 < j12
            · exact hs3 2 hij
            · exfalso; omega
          obtain ⟨v34, _, ⟨T34, L34, kQ34, nQ34⟩, -, X34, ⟨Lc34, hQ34, l34, y34, z34⟩, st34⟩ := Jvm.LawKit.callS X32 hx (y := (⟨"com/example/concurrency_quota/concurrencyquota/ServiceRequestTrimWhitespacePinLaw", "solid", "([CII)Z"⟩ : MethodName)) hown (mvT hZ (hw _ (List.mem_of_getElem? (i := 59) rfl))) (mvT hZ (hw _ (List.mem_of_getElem? (i := 60) rfl))) (mvT hZ (hw _ (List.mem_of_getElem? (i := 4) rfl))) (mvT hZ (hw _ (List.mem_of_getElem? (i := 61) rfl))) (by decide) (backOf (W := 0) (rmZ2 l Z a0 hw [] b1 (Int32.ofNat NN) ka1 c2 c4 c6 c8 h12 n0 O12 Arv_b1 hz) hZ (hw _ (List.mem_of_getElem? (i := 61) rfl)) (hw _ (List.mem_of_getElem? (i := 4) rfl)) (by decide) (by decide)) (g := (mkF m 100 #[.val (.int p1), .val (.int p2), .val (.int p3), .val (.int p4), .val (.int p5), .val (.int (Int32.ofNat NN)), .val (.ref b1), .val (.ref b10), .val (.ref r12), .unset, .unset, .unset] [(.int (2 : Int32)), (.int (Int32.ofNat NN)), (.ref b1)])) rfl (by rw [hml]; rfl) (argsL := [(.ref b1), (.int (Int32.ofNat NN)), (.int (2 : Int32))]) (rest := []) (lenOf pd_rm0_4 rfl) rfl (by show 2 * 0 + _ ≤ _; exact Nat.le_of_eq rfl) (hb hby at_100) (fun _ _ => ⟨rfl, e32, (by decide : 10 + 0 ≤ _), (by decide : 56 + 0 ≤ _)⟩)
          dsimp only [Pt.U, Pt.locs, Pt.cells, Pt.slots] at X34 l34 y34 z34 st34 hQ34
          subst y34 z34
          obtain ⟨rfl, Nq34, e34⟩ := hQ34
          have N34 : Fr n0 L34 := l34 ▸ Fr.app N32 Nq34
          refine GlW.st st34 ?_
          clear st34
          clear N32 X32 e32
          show GlW Z consts_1 p e below s _ _ _ T34 (mkF m 103 #[.val (.int p1), .val (.int p2), .val (.int p3), .val (.int p4), .val (.int p5), .val (.int (Int32.ofNat NN)), .val (.ref b1), .val (.ref b10), .val (.ref r12), .unset, .unset, .unset] [(.int (0 : Int32))])
          refine GlW.st (fun _ kk => XS.ifYes X34.here hx rfl (pc0 := 103) (pc' := 110) rfl (hb hby at_103) rfl ((if0 _ _).trans (teq (by decide : (0 : Int32) = (0 : Int32))).1) (by decide) (by decide) kk) ?_
          show GlW Z consts_1 p e below s _ _ _ T34 (mkF m 110 #[.val (.int p1), .val (.int p2), .val (.int p3), .val (.int p4), .val (.int p5), .val (.int (Int32.ofNat NN)), .val (.ref b1), .val (.ref b10), .val (.ref r12), .unset, .unset, .unset] [])
          refine GlW.st (fun _ kk => XS.aload X34.here hx rfl (hb hby at_110) rfl rfl kk) ?_
          show GlW Z consts_1 p e below s _ _ _ T34 (mkF m 112 #[.val (.int p1), .val (.int p2), .val (.int p3), .val (.int p4), .val (.int p5), .val (.int (Int32.ofNat NN)), .val (.ref b1), .val (.ref b10), .val (.ref r12), .unset, .unset, .unset] [(.ref b1)])
          refine GlW.st (fun _ kk => XS.iload X34.here hx rfl (hb hby at_112) rfl kk) ?_
          show GlW Z consts_1 p e below s _ _ _ T34 (mkF m 114 #[.val (.int p1), .val (.int p2), .val (.int p3), .val (.int p4), .val (.int p5), .val (.int (Int32.ofNat NN)), .val (.ref b1), .val (.ref b10), .val (.ref r12), .unset, .unset, .unset] [(.int (Int32.ofNat NN)), (.ref b1)])
          refine GlW.st (fun _ kk => XS.iconst X34.here hx rfl (hb hby at_114) kk) ?_
          show GlW Z consts_1 p e below s _ _ _ T34 (mkF m 115 #[.val (.int p1), .val (.int p2), .val (.int p3), .val (.int p4), .val (.int p5), .val (.int (Int32.ofNat NN)), .val (.ref b1), .val (.ref b10), .val (.ref r12), .unset, .unset, .unset] [(.int (3 : Int32)), (.int (Int32.ofNat NN)), (.ref b1)])
          by_cases bf3 : j12 = 3 ∧ j12 < ee12
          · skip
            have hlt : (3 : Int32) < Int32.ofNat NN := (own_ofNat_lt (a := 3) (by decide) hNb).mpr (by omega)
            have hq : ¬ own_ws c8 := by
              have q := (hs5 bf3.2).1; rw [bf3.1] at q; exact q
            obtain ⟨v35, _, ⟨T35, L35, kQ35, nQ35⟩, -, X35, ⟨Lc35, hQ35, l35, y35, z35⟩, st35⟩ := Jvm.LawKit.callS X34 hx (y := (⟨"com/example/concurrency_quota/concurrencyquota/ServiceRequestTrimWhitespacePinLaw", "solid", "([CII)Z"⟩ : MethodName)) hown (mvT hZ (hw _ (List.mem_of_getElem? (i := 59) rfl))) (mvT hZ (hw _ (List.mem_of_getElem? (i := 60) rfl))) (mvT hZ (hw _ (List.mem_of_getElem? (i := 4) rfl))) (mvT hZ (hw _ (List.mem_of_getElem? (i := 61) rfl))) (by decide) (backOf (W := 0) (rmY3 l Z a0 hw [] b1 (Int32.ofNat NN) ka1 c2 c4 c6 c8 h12 n0 O12 Arv_b1 hlt hq) hZ (hw _ (List.mem_of_getElem? (i := 61) rfl)) (hw _ (List.mem_of_getElem? (i := 4) rfl)) (by decide) (by decide)) (g := (mkF m 115 #[.val (.int p1), .val (.int p2), .val (.int p3), .val (.int p4), .val (.int p5), .val (.int (Int32.ofNat NN)), .val (.ref b1), .val (.ref b10), .val (.ref r12), .unset, .unset, .unset] [(.int (3 : Int32)), (.int (Int32.ofNat NN)), (.ref b1)])) rfl (by rw [hml]; rfl) (argsL := [(.ref b1), (.int (Int32.ofNat NN)), (.int (3 : Int32))]) (rest := []) (lenOf pd_rm0_4 rfl) rfl (by show 2 * 0 + _ ≤ _; exact Nat.le_of_eq rfl) (hb hby at_115) (fun _ _ => ⟨rfl, e34, (by decide : 10 + 0 ≤ _), (by decide : 56 + 0 ≤ _)⟩)
            dsimp only [Pt.U, Pt.locs, Pt.cells, Pt.slots] at X35 l35 y35 z35 st35 hQ35
            subst y35 z35
            obtain ⟨rfl, Nq35, e35⟩ := hQ35
            have N35 : Fr n0 L35 := l35 ▸ Fr.app N34 Nq35
            refine GlW.st st35 ?_
            clear st35
            clear N34 X34 e34
            show GlW Z consts_1 p e below s _ _ _ T35 (mkF m 118 #[.val (.int p1), .val (.int p2), .val (.int p3), .val (.int p4), .val (.int p5), .val (.int (Int32.ofNat NN)), .val (.ref b1), .val (.ref b10), .val (.ref r12), .unset, .unset, .unset] [(.int (1 : Int32))])
            refine GlW.st (fun _ kk => XS.ifNo X35.here hx rfl (hb hby at_118) rfl ((if0 _ _).trans (feq (by decide : ¬ ((1 : Int32) = (0 : Int32)))).1) kk) ?_
            show GlW Z consts_1 p e below s _ _ _ T35 (mkF m 121 #[.val (.int p1), .val (.int p2), .val (.int p3), .val (.int p4), .val (.int p5), .val (.int (Int32.ofNat NN)), .val (.ref b1), .val (.ref b10), .val (.ref r12), .unset, .unset, .unset] [])
            refine GlW.st (fun _ kk => XS.iconst X35.here hx rfl (hb hby at_121) kk) ?_
            show GlW Z consts_1 p e below s _ _ _ T35 (mkF m 122 #[.val (.int p1), .val (.int p2), .val (.int p3), .val (.int p4), .val (.int p5), .val (.int (Int32.ofNat NN)), .val (.ref b1), .val (.ref b10), .val (.ref r12), .unset, .unset, .unset] [(.int (3 : Int32))])
            refine GlW.st (fun _ kk => XS.goto X35.here hx rfl (pc0 := 122) (pc' := 127) rfl (hb hby at_122) (by decide) (by decide) kk) ?_
            show GlW Z consts_1 p e below s _ _ _ T35 (mkF m 127 #[.val (.int p1), .val (.int p2), .val (.int p3), .val (.int p4), .val (.int p5), .val (.int (Int32.ofNat NN)), .val (.ref b1), .val (.ref b10), .val (.ref r12), .unset, .unset, .unset] [(.int (3 : Int32))])
            exact join127 (3 : Int32) (by rw [bf3.1] <;> rfl) _ _ (Gl.wider X35 (by decide) (by decide)) e35 N35
          · skip
            have hz : (3 : Int32) < Int32.ofNat NN → own_ws c8 := fun q => by
              have hi : 3 < NN := (own_ofNat_lt (a := 3) (by decide) hNb).mp q
              by_cases hij : 3 < j12
              · exact hs3 3 hij
              · exfalso; omega
            obtain ⟨v36, _, ⟨T36, L36, kQ36, nQ36⟩, -, X36, ⟨Lc36, hQ36, l36, y36, z36⟩, st36⟩ := Jvm.LawKit.callS X34 hx (y := (⟨"com/example/concurrency_quota/concurrencyquota/ServiceRequestTrimWhitespacePinLaw", "solid", "([CII)Z"⟩ : MethodName)) hown (mvT hZ (hw _ (List.mem_of_getElem? (i := 59) rfl))) (mvT hZ (hw _ (List.mem_of_getElem? (i := 60) rfl))) (mvT hZ (hw _ (List.mem_of_getElem? (i := 4) rfl))) (mvT hZ (hw _ (List.mem_of_getElem? (i := 61) rfl))) (by decide) (backOf (W := 0) (rmZ3 l Z a0 hw [] b1 (Int32.ofNat NN) ka1 c2 c4 c6 c8 h12 n0 O12 Arv_b1 hz) hZ (hw _ (List.mem_of_getElem? (i := 61) rfl)) (hw _ (List.mem_of_getElem? (i := 4) rfl)) (by decide) (by decide)) (g := (mkF m 115 #[.val (.int p1), .val (.int p2), .val (.int p3), .val (.int p4), .val (.int p5), .val (.int (Int32.ofNat NN)), .val (.ref b1), .val (.ref b10), .val (.ref r12), .unset, .unset, .unset] [(.int (3 : Int32)), (.int (Int32.ofNat NN)), (.ref b1)])) rfl (by rw [hml]; rfl) (argsL := [(.ref b1), (.int (Int32.ofNat NN)), (.int (3 : Int32))]) (rest := []) (lenOf pd_rm0_4 rfl) rfl (by show 2 * 0 + _ ≤ _; exact Nat.le_of_eq rfl) (hb hby at_115) (fun _ _ => ⟨rfl, e34, (by decide : 10 + 0 ≤ _), (by decide : 56 + 0 ≤ _)⟩)
            dsimp only [Pt.U, Pt.locs, Pt.cells, Pt.slots] at X36 l36 y36 z36 st36 hQ36
            subst y36 z36
            obtain ⟨rfl, Nq36, e36⟩ := hQ36
            have N36 : Fr n0 L36 := l36 ▸ Fr.app N34 Nq36
            refine GlW.st st36 ?_
            clear st36
            clear N34 X34 e34
            show GlW Z consts_1 p e below s _ _ _ T36 (mkF m 118 #[.val (.int p1), .val (.int p2), .val (.int p3), .val (.int p4), .val (.int p5), .val (.int (Int32.ofNat NN)), .val (.ref b1), .val (.ref b10), .val (.ref r12), .unset, .unset, .unset] [(.int (0 : Int32))])
            refine GlW.st (fun _ kk => XS.ifYes X36.here hx rfl (pc0 := 118) (pc' := 125) rfl (hb hby at_118) rfl ((if0 _ _).trans (teq (by decide : (0 : Int32) = (0 : Int32))).1) (by decide) (by decide) kk) ?_
            show GlW Z consts_1 p e below s _ _ _ T36 (mkF m 125 #[.val (.int p1), .val (.int p2), .val (.int p3), .val (.int p4), .val (.int p5), .val (.int (Int32.ofNat NN)), .val (.ref b1), .val (.ref b10), .val (.ref r12), .unset, .unset, .unset] [])
            refine GlW.st (fun _ kk => XS.iload X36.here hx rfl (hb hby at_125) rfl kk) ?_
            show GlW Z consts_1 p e below s _ _ _ T36 (mkF m 127 #[.val (.int p1), .val (.int p2), .val (.int p3), .val (.int p4), .val (.int p5), .val (.int (Int32.ofNat NN)), .val (.ref b1), .val (.ref b10), .val (.ref r12), .unset, .unset, .unset] [(.int (Int32.ofNat NN))])
            exact join127 (Int32.ofNat NN) (by rw [show NN = j12 by omega]) _ _ (Gl.wider X36 (by decide) (by decide)) e36 N36
  rcases own_mod5 p1 with hk | hk | hk | hk | hk
  · rw [hk]
    show GlW Z consts_1 p e below s _ _ _ T10 (mkF m 46 #[.val (.int p1), .val (.int p2), .val (.int p3), .val (.int p4), .val (.int p5), .val (.int (0 : Int32)), .val (.ref b1), .unset, .unset, .unset, .unset, .unset] [(.ref b10), (.ref b10)])
    refine GlW.st (fun _ kk => XS.iload X10.here hx rfl (hb hby at_46) rfl kk) ?_
    show GlW Z consts_1 p e below s _ _ _ T10 (mkF m 48 #[.val (.int p1), .val (.int p2), .val (.int p3), .val (.int p4), .val (.int p5), .val (.int (0 : Int32)), .val (.ref b1), .unset, .unset, .unset, .unset, .unset] [(.int (0 : Int32)), (.ref b10), (.ref b10)])
    refine GlW.st (fun _ kk => XS.aload X10.here hx rfl (hb hby at_48) rfl rfl kk) ?_
    show GlW Z consts_1 p e below s _ _ _ T10 (mkF m 50 #[.val (.int p1), .val (.int p2), .val (.int p3), .val (.int p4), .val (.int p5), .val (.int (0 : Int32)), .val (.ref b1), .unset, .unset, .unset, .unset, .unset] [(.ref b1), (.int (0 : Int32)), (.ref b10), (.ref b10)])
    have lq37_b1 := Arv_b1.lt
    have lq37_b10 := Exa_b10.lt
    obtain ⟨v37, _, ⟨T37, L37, kQ37, nQ37⟩, -, X37, ⟨Lc37, hQ37, l37, y37, z37⟩, st37⟩ := Jvm.LawKit.callS X10 hx (y := (⟨"com/example/concurrency_quota/concurrencyquota/ServiceRequestTrimWhitespacePinLaw", "make", "(I[C)[C"⟩ : MethodName)) hown (mvT hZ (hw _ (List.mem_of_getElem? (i := 9) rfl))) (mvT hZ (hw _ (List.mem_of_getElem? (i := 10) rfl))) (mvT hZ (hw _ (List.mem_of_getElem? (i := 4) rfl))) (mvT hZ (hw _ (List.mem_of_getElem? (i := 11) rfl))) (by decide) (backOf (W := 2) (rmMK0 l Z a0 hw [] b1 ka1 c2 c4 c6 c8 h10 n0 O10 Arv_b1 pk2.2 pk4.2 pk6.2 pk8.2) hZ (hw _ (List.mem_of_getElem? (i := 11) rfl)) (hw _ (List.mem_of_getElem? (i := 4) rfl)) (by decide) (by decide)) (g := (mkF m 50 #[.val (.int p1), .val (.int p2), .val (.int p3), .val (.int p4), .val (.int p5), .val (.int (0 : Int32)), .val (.ref b1), .unset, .unset, .unset, .unset, .unset] [(.ref b1), (.int (0 : Int32)), (.ref b10), (.ref b10)])) rfl (by rw [hml]; rfl) (argsL := [(.int (0 : Int32)), (.ref b1)]) (rest := [(.ref b10), (.ref b10)]) (lenOf pd_rm0_5 rfl) rfl (by show 2 * 0 + _ ≤ _; exact Nat.le_of_eq rfl) (hb hby at_50) (fun _ _ => ⟨rfl, e10, (by decide : 2 + 1 ≤ _), (by decide : 8 + 0 ≤ _)⟩)
    dsimp only [Pt.U, Pt.locs, Pt.cells, Pt.slots] at X37 l37 y37 z37 st37 hQ37
    subst y37 z37
    obtain ⟨h37, e37⟩ : ∃ z, T37.heap = z := ⟨_, rfl⟩
    rw [e37] at hQ37
    obtain ⟨b37, kb37, rfl, Nq37, Kq37, Arv_b37, frq37⟩ := hQ37
    have N37 : Fr n0 L37 := l37 ▸ Fr.app N9 Nq37
    refine GlW.st st37 ?_
    have sfk37 : ∀ x ∈ ([] : List Addr), Safe Z consts_1 s.vm h10 x := all0
    replace Sf_b10 := Safe.keep Kq37 sfk37 HC10.1 Sf_b10
    have HC37 := HC10.trans (CHr.keep Kq37 sfk37 HC10.1)
    have hk37 := Nat.le_trans hk10 Kq37.1
    replace Arv_b1 := Arv_b1.keep Kq37 nin0
    replace Exa_b10 := Exa_b10.keep Kq37
    replace F_value_b10 := F_value_b10.keep Kq37 nin0
    replace F_coder_b10 := F_coder_b10.keep Kq37 nin0
    have O37 := O10.keep Kq37 all0
    have K37 := K10.trans Kq37 all0
    have ne_b1_b37 : b1 ≠ b37 := Nat.ne_of_lt (Nat.lt_of_lt_of_le lq37_b1 frq37)
    have ne_b10_b37 : b10 ≠ b37 := Nat.ne_of_lt (Nat.lt_of_lt_of_le lq37_b10 frq37)
    have ge_b37 : n0 ≤ b37 := Nat.le_trans (Nat.le_trans (Nat.le_of_eq O10.1.symm) O10.2.1) frq37
    have fr_b37 : h0.size ≤ b37 := Nat.le_trans K10.1 frq37
    clear st37
    clear O10 K10 N9 HC10 hk10 X10 e10
    show GlW Z consts_1 p e below s _ _ _ T37 (mkF m 53 #[.val (.int p1), .val (.int p2), .val (.int p3), .val (.int p4), .val (.int p5), .val (.int (0 : Int32)), .val (.ref b1), .unset, .unset, .unset, .unset, .unset] [(.ref b37), (.ref b10), (.ref b10)])
    obtain ⟨v38, _, ⟨T38, L38, kQ38, nQ38⟩, -, X38, hSq38, hgq38, ⟨Lc38, hQ38, l38, y38, z38, HR38⟩, st38⟩ := X37.specialBackS hx (y := (⟨"java/lang/String", "<init>", "([C)V"⟩ : MethodName)) rfl hown (mvT hZ (hw _ (List.mem_of_getElem? (i := 12) rfl))) (mvT hZ (hw _ (List.mem_of_getElem? (i := 13) rfl))) (mvT hZ (hw _ (List.mem_of_getElem? (i := 14) rfl))) (by decide) (backOfSH (W := 1) (rmS0 l Z a0 hw [] b10 b37 kb37 h37 n0 O37 Exa_b10 F_value_b10 F_coder_b10 ge_b10 Arv_b37 (Ne.symm ne_b10_b37)) hZ (hw _ (List.mem_of_getElem? (i := 14) rfl)) (hw _ (List.mem_of_getElem? (i := 8) rfl)) (by decide) (by decide) hEL HC37.1) (g := (mkF m 53 #[.val (.int p1), .val (.int p2), .val (.int p3), .val (.int p4), .val (.int p5), .val (.int (0 : Int32)), .val (.ref b1), .unset, .unset, .unset, .unset, .unset] [(.ref b37), (.ref b10), (.ref b10)])) rfl (by rw [hml]; rfl) (Steps.refl _) (a := b10) (argsL := [(.ref b37)]) (rest := [(.ref b10)]) (lenOf pd_rm0_6 rfl) rfl (by show 2 * 0 + _ ≤ _; exact Nat.le_of_eq rfl) (hb hby at_53) (fun _ _ => ⟨rfl, e37, (by decide : 3 + 4 ≤ _), (by decide : 8 + 8 ≤ _)⟩)
    dsimp only [Pt.U, Pt.locs, Pt.cells, Pt.slots] at X38 l38 y38 z38 st38 hQ38 hSq38 hgq38 HR38
    subst y38 z38
    obtain ⟨h38, e38⟩ : ∃ z, T38.heap = z := ⟨_, rfl⟩
    rw [e38] at hQ38 HR38 hSq38 hgq38
    obtain ⟨rfl, Nq38, Kq38, Eq38, Cq38, t38, kt38, Fq38, Aq38⟩ := hQ38
    rw [e37] at hgq38
    have hS38 := (hS0).trans hSq38 (Nat.le_trans hk37 hgq38)
    have hk38 := Nat.le_refl h38.size
    have hZ38 : Z.Warmed39 T38.vm := State.Warmed39.trans (t := s.setVm s.vm) hZ hSq38.1
    have hown38 : T38.vm.findClass "com/example/concurrency_quota/concurrencyquota/ServiceRequestTrimWhitespacePinLaw" = some m.cls := by rw [hSq38.1.alike.findClass]; exact hown
    have Sf_b10 := HR38.safe Exa_b10.lt Sf_b10
    have HC38 := HC37.trans HR38
    have hZ := hZ38
    have hown := hown38
    have N38 : Fr n0 L38 := l38 ▸ Fr.app N37 Nq38
    refine GlW.st (fun _ kk => st38.trans kk) ?_
    replace Arv_b1 := Arv_b1.keep Kq38 (ninS ne_b1_b10 nin0)
    replace Exa_b10 := Exa_b10.keep Kq38
    replace Arv_b37 := Arv_b37.keep Kq38 (ninS (Ne.symm ne_b10_b37) nin0)
    have O38 := O37.keep Kq38 (allS ge_b10 all0)
    have K38 := K37.trans Kq38 (allS (Or.inr fr_b10) all0)
    have F_coder_b10 := Cq38
    have F_value_b10 := Fq38
    have Arv_t38 := Aq38
    clear st38 HR38
    clear O37 K37 N37 HC37 hk37 X37 e37
    show GlW Z consts_1 p e below s _ _ _ T38 (mkF m 56 #[.val (.int p1), .val (.int p2), .val (.int p3), .val (.int p4), .val (.int p5), .val (.int (0 : Int32)), .val (.ref b1), .unset, .unset, .unset, .unset, .unset] [(.ref b10)])
    refine GlW.st (fun _ kk => XS.astore X38.here hx rfl (hb hby at_56) rfl rfl (l' := #[.val (.int p1), .val (.int p2), .val (.int p3), .val (.int p4), .val (.int p5), .val (.int (0 : Int32)), .val (.ref b1), .val (.ref b10), .unset, .unset, .unset, .unset]) rfl kk) ?_
    show GlW Z consts_1 p e below s _ _ _ T38 (mkF m 58 #[.val (.int p1), .val (.int p2), .val (.int p3), .val (.int p4), .val (.int p5), .val (.int (0 : Int32)), .val (.ref b1), .val (.ref b10), .unset, .unset, .unset, .unset] [])
    exact join58 (0 : Int32) 0 [] t38 kt38 (by decide) rfl rfl _ _ _ _ _ (Gl.wider X38 (by decide) (by decide)) e38 N38 O38 K38 hS38 hk38 hZ hown HC38 Sf_b10 Exa_b10 Arv_b1 F_value_b10 F_coder_b10 Arv_t38
  · rw [hk]
    show GlW Z consts_1 p e below s _ _ _ T10 (mkF m 46 #[.val (.int p1), .val (.int p2), .val (.int p3), .val (.int p4), .val (.int p5), .val (.int (1 : Int32)), .val (.ref b1), .unset, .unset, .unset, .unset, .unset] [(.ref b10), (.ref b10)])
    refine GlW.st (fun _ kk => XS.iload X10.here hx rfl (hb hby at_46) rfl kk) ?_
    show GlW Z consts_1 p e below s _ _ _ T10 (mkF m 48 #[.val (.int p1), .val (.int p2), .val (.int p3), .val (.int p4), .val (.int p5), .val (.int (1 : Int32)), .val (.ref b1), .unset, .unset, .unset, .unset, .unset] [(.int (1 : Int32)), (.ref b10), (.ref b10)])
    refine GlW.st (fun _ kk => XS.aload X10.here hx rfl (hb hby at_48) rfl rfl kk) ?_
    show GlW Z consts_1 p e below s _ _ _ T10 (mkF m 50 #[.val (.int p1), .val (.int p2), .val (.int p3), .val (.int p4), .val (.int p5), .val (.int (1 : Int32)), .val (.ref b1), .unset, .unset, .unset, .unset, .unset] [(.ref b1), (.int (1 : Int32)), (.ref b10), (.ref b10)])
    have lq39_b1 := Arv_b1.lt
    have lq39_b10 := Exa_b10.lt
    obtain ⟨v39, _, ⟨T39, L39, kQ39, nQ39⟩, -, X39, ⟨Lc39, hQ39, l39, y39, z39⟩, st39⟩ := Jvm.LawKit.callS X10 hx (y := (⟨"com/example/concurrency_quota/concurrencyquota/ServiceRequestTrimWhitespacePinLaw", "make", "(I[C)[C"⟩ : MethodName)) hown (mvT hZ (hw _ (List.mem_of_getElem? (i := 9) rfl))) (mvT hZ (hw _ (List.mem_of_getElem? (i := 10) rfl))) (mvT hZ (hw _ (List.mem_of_getElem? (i := 4) rfl))) (mvT hZ (hw _ (List.mem_of_getElem? (i := 11) rfl))) (by decide) (backOf (W := 2) (rmMK1 l Z a0 hw [] b1 ka1 c2 c4 c6 c8 h10 n0 O10 Arv_b1 pk2.2 pk4.2 pk6.2 pk8.2) hZ (hw _ (List.mem_of_getElem? (i := 11) rfl)) (hw _ (List.mem_of_getElem? (i := 4) rfl)) (by decide) (by decide)) (g := (mkF m 50 #[.val (.int p1), .val (.int p2), .val (.int p3), .val (.int p4), .val (.int p5), .val (.int (1 : Int32)), .val (.ref b1), .unset, .unset, .unset, .unset, .unset] [(.ref b1), (.int (1 : Int32)), (.ref b10), (.ref b10)])) rfl (by rw [hml]; rfl) (argsL := [(.int (1 : Int32)), (.ref b1)]) (rest := [(.ref b10), (.ref b10)]) (lenOf pd_rm0_5 rfl) rfl (by show 2 * 0 + _ ≤ _; exact Nat.le_of_eq rfl) (hb hby at_50) (fun _ _ => ⟨rfl, e10, (by decide : 2 + 1 ≤ _), (by decide : 8 + 1 ≤ _)⟩)
    dsimp only [Pt.U, Pt.locs, Pt.cells, Pt.slots] at X39 l39 y39 z39 st39 hQ39
    subst y39 z39
    obtain ⟨h39, e39⟩ : ∃ z, T39.heap = z := ⟨_, rfl⟩
    rw [e39] at hQ39
    obtain ⟨b39, kb39, rfl, Nq39, Kq39, Arv_b39, frq39⟩ := hQ39
    have N39 : Fr n0 L39 := l39 ▸ Fr.app N9 Nq39
    refine GlW.st st39 ?_
    have sfk39 : ∀ x ∈ ([] : List Addr), Safe Z consts_1 s.vm h10 x := all0
    replace Sf_b10 := Safe.keep Kq39 sfk39 HC10.1 Sf_b10
    have HC39 := HC10.trans (CHr.keep Kq39 sfk39 HC10.1)
    have hk39 := Nat.le_trans hk10 Kq39.1
    replace Arv_b1 := Arv_b1.keep Kq39 nin0
    replace Exa_b10 := Exa_b10.keep Kq39
    replace F_value_b10 := F_value_b10.keep Kq39 nin0
    replace F_coder_b10 := F_coder_b10.keep Kq39 nin0
    have O39 := O10.keep Kq39 all0
    have K39 := K10.trans Kq39 all0
    have ne_b1_b39 : b1 ≠ b39 := Nat.ne_of_lt (Nat.lt_of_lt_of_le lq39_b1 frq39)
    have ne_b10_b39 : b10 ≠ b39 := Nat.ne_of_lt (Nat.lt_of_lt_of_le lq39_b10 frq39)
    have ge_b39 : n0 ≤ b39 := Nat.le_trans (Nat.le_trans (Nat.le_of_eq O10.1.symm) O10.2.1) frq39
    have fr_b39 : h0.size ≤ b39 := Nat.le_trans K10.1 frq39
    clear st39
    clear O10 K10 N9 HC10 hk10 X10 e10
    show GlW Z consts_1 p e below s _ _ _ T39 (mkF m 53 #[.val (.int p1), .val (.int p2), .val (.int p3), .val (.int p4), .val (.int p5), .val (.int (1 : Int32)), .val (.ref b1), .unset, .unset, .unset, .unset, .unset] [(.ref b39), (.ref b10), (.ref b10)])
    have hlat40 : ∀ c ∈ ([c2] : List Int32), ¬ c < 0 ∧ ¬ (255 : Int32) < c := by
      intro c hc
      simp only [List.mem_cons, List.not_mem_nil, or_false] at hc
      rcases hc with rfl
      · exact pk2.1
    obtain ⟨v41, _, ⟨T41, L41, kQ41, nQ41⟩, -, X41, ⟨Lc41, hQ41, l41, y41, z41⟩, st41⟩ := X39.specialBack hx (y := (⟨"java/lang/String", "<init>", "([C)V"⟩ : MethodName)) rfl hown (mvT hZ (hw _ (List.mem_of_getElem? (i := 12) rfl))) (mvT hZ (hw _ (List.mem_of_getElem? (i := 13) rfl))) (mvT hZ (hw _ (List.mem_of_getElem? (i := 14) rfl))) (by decide) (StrChars.Road.backV (W := 1) (s := (s.setVm s.vm)) hZ hws (kI := 4) (hw _ (List.mem_of_getElem? (i := 7) rfl)) (cs := [c2]) (bs := [(c2).toInt8.toInt32]) (n := 1) ge_b10 (Nat.le_trans (Nat.le_of_eq O39.1.symm) O39.2.1) Exa_b10 F_value_b10 F_coder_b10 Arv_b39 (S_COMPACT.ext O39.2) hcz rfl rfl (by decide) (by decide) hlat40 rfl (by decide) (by decide)) (g := (mkF m 53 #[.val (.int p1), .val (.int p2), .val (.int p3), .val (.int p4), .val (.int p5), .val (.int (1 : Int32)), .val (.ref b1), .unset, .unset, .unset, .unset, .unset] [(.ref b39), (.ref b10), (.ref b10)])) rfl (by rw [hml]; rfl) (Steps.refl _) (a := b10) (argsL := [(.ref b39)]) (rest := [(.ref b10)]) (lenOf pd_rm0_6 rfl) rfl (by show 2 * 0 + _ ≤ _; exact Nat.le_of_eq rfl) (hb hby at_53) (fun _ _ => ⟨rfl, e39, (by decide : 3 + 1 ≤ _), (by decide : 9 + 1 ≤ _)⟩)
    dsimp only [Pt.U, Pt.locs, Pt.cells, Pt.slots] at X41 l41 y41 z41 st41 hQ41
    subst y41 z41
    obtain ⟨h41, e41⟩ : ∃ z, T41.heap = z := ⟨_, rfl⟩
    rw [e41] at hQ41
    obtain ⟨rfl, Nq41, Kq41, Eq41, Cq41, t41, kb41, gt41, fr_t41, ne_t41, Fq41, Aq41⟩ := hQ41
    have N41 : Fr n0 L41 := l41 ▸ Fr.app N39 Nq41
    refine GlW.st (fun _ kk => st41.trans kk) ?_
    have sfk41 : ∀ x ∈ [b10], Safe Z consts_1 _ _ x := (allS Sf_b10 all0)
    replace Sf_b10 := Safe.keep Kq41 sfk41 HC39.1 Sf_b10
    have HC41 := HC39.trans (CHr.keep Kq41 sfk41 HC39.1)
    have hk41 := Nat.le_trans hk39 Kq41.1
    replace Arv_b1 := Arv_b1.keep Kq41 (ninS ne_b1_b10 nin0)
    replace Exa_b10 := Exa_b10.keep Kq41
    replace Arv_b39 := Arv_b39.keep Kq41 (ninS (Ne.symm ne_b10_b39) nin0)
    have O41 := O39.keep Kq41 (allS ge_b10 all0)
    have K41 := K39.trans Kq41 (allS (Or.inr fr_b10) all0)
    have F_coder_b10 := Cq41
    have F_value_b10 := Fq41
    have Arv_t41 := Aq41
    clear st41
    clear O39 K39 N39 HC39 hk39 X39 e39
    show GlW Z consts_1 p e below s _ _ _ T41 (mkF m 56 #[.val (.int p1), .val (.int p2), .val (.int p3), .val (.int p4), .val (.int p5), .val (.int (1 : Int32)), .val (.ref b1), .unset, .unset, .unset, .unset, .unset] [(.ref b10)])
    refine GlW.st (fun _ kk => XS.astore X41.here hx rfl (hb hby at_56) rfl rfl (l' := #[.val (.int p1), .val (.int p2), .val (.int p3), .val (.int p4), .val (.int p5), .val (.int (1 : Int32)), .val (.ref b1), .val (.ref b10), .unset, .unset, .unset, .unset]) rfl kk) ?_
    show GlW Z consts_1 p e below s _ _ _ T41 (mkF m 58 #[.val (.int p1), .val (.int p2), .val (.int p3), .val (.int p4), .val (.int p5), .val (.int (1 : Int32)), .val (.ref b1), .val (.ref b10), .unset, .unset, .unset, .unset] [])
    exact join58 (1 : Int32) 1 [c2] t41 kb41 (by decide) rfl rfl _ _ _ _ _ (Gl.wider X41 (by decide) (by decide)) e41 N41 O41 K41 hS0 hk41 hZ hown HC41 Sf_b10 Exa_b10 Arv_b1 F_value_b10 F_coder_b10 Arv_t41
  · rw [hk]
    show GlW Z consts_1 p e below s _ _ _ T10 (mkF m 46 #[.val (.int p1), .val (.int p2), .val (.int p3), .val (.int p4), .val (.int p5), .val (.int (2 : Int32)), .val (.ref b1), .unset, .unset, .unset, .unset, .unset] [(.ref b10), (.ref b10)])
    refine GlW.st (fun _ kk => XS.iload X10.here hx rfl (hb hby at_46) rfl kk) ?_
    show GlW Z consts_1 p e below s _ _ _ T10 (mkF m 48 #[.val (.int p1), .val (.int p2), .val (.int p3), .val (.int p4), .val (.int p5), .val (.int (2 : Int32)), .val (.ref b1), .unset, .unset, .unset, .unset, .unset] [(.int (2 : Int32)), (.ref b10), (.ref b10)])
    refine GlW.st (fun _ kk => XS.aload X10.here hx rfl (hb hby at_48) rfl rfl kk) ?_
    show GlW Z consts_1 p e below s _ _ _ T10 (mkF m 50 #[.val (.int p1), .val (.int p2), .val (.int p3), .val (.int p4), .val (.int p5), .val (.int (2 : Int32)), .val (.ref b1), .unset, .unset, .unset, .unset, .unset] [(.ref b1), (.int (2 : Int32)), (.ref b10), (.ref b10)])
    have lq42_b1 := Arv_b1.lt
    have lq42_b10 := Exa_b10.lt
    obtain ⟨v42, _, ⟨T42, L42, kQ42, nQ42⟩, -, X42, ⟨Lc42, hQ42, l42, y42, z42⟩, st42⟩ := Jvm.LawKit.callS X10 hx (y := (⟨"com/example/concurrency_quota/concurrencyquota/ServiceRequestTrimWhitespacePinLaw", "make", "(I[C)[C"⟩ : MethodName)) hown (mvT hZ (hw _ (List.mem_of_getElem? (i := 9) rfl))) (mvT hZ (hw _ (List.mem_of_getElem? (i := 10) rfl))) (mvT hZ (hw _ (List.mem_of_getElem? (i := 4) rfl))) (mvT hZ (hw _ (List.mem_of_getElem? (i := 11) rfl))) (by decide) (backOf (W := 2) (rmMK2 l Z a0 hw [] b1 ka1 c2 c4 c6 c8 h10 n0 O10 Arv_b1 pk2.2 pk4.2 pk6.2 pk8.2) hZ (hw _ (List.mem_of_getElem? (i := 11) rfl)) (hw _ (List.mem_of_getElem? (i := 4) rfl)) (by decide) (by decide)) (g := (mkF m 50 #[.val (.int p1), .val (.int p2), .val (.int p3), .val (.int p4), .val (.int p5), .val (.int (2 : Int32)), .val (.ref b1), .unset, .unset, .unset, .unset, .unset] [(.ref b1), (.int (2 : Int32)), (.ref b10), (.ref b10)])) rfl (by rw [hml]; rfl) (argsL := [(.int (2 : Int32)), (.ref b1)]) (rest := [(.ref b10), (.ref b10)]) (lenOf pd_rm0_5 rfl) rfl (by show 2 * 0 + _ ≤ _; exact Nat.le_of_eq rfl) (hb hby at_50) (fun _ _ => ⟨rfl, e10, (by decide : 2 + 1 ≤ _), (by decide : 8 + 2 ≤ _)⟩)
    dsimp only [Pt.U, Pt.locs, Pt.cells, Pt.slots] at X42 l42 y42 z42 st42 hQ42
    subst y42 z42
    obtain ⟨h42, e42⟩ : ∃ z, T42.heap = z := ⟨_, rfl⟩
    rw [e42] at hQ42
    obtain ⟨b42, kb42, rfl, Nq42, Kq42, Arv_b42, frq42⟩ := hQ42
    have N42 : Fr n0 L42 := l42 ▸ Fr.app N9 Nq42
    refine GlW.st st42 ?_
    have sfk42 : ∀ x ∈ ([] : List Addr), Safe Z consts_1 s.vm h10 x := all0
    replace Sf_b10 := Safe.keep Kq42 sfk42 HC10.1 Sf_b10
    have HC42 := HC10.trans (CHr.keep Kq42 sfk42 HC10.1)
    have hk42 := Nat.le_trans hk10 Kq42.1
    replace Arv_b1 := Arv_b1.keep Kq42 nin0
    replace Exa_b10 := Exa_b10.keep Kq42
    replace F_value_b10 := F_value_b10.keep Kq42 nin0
    replace F_coder_b10 := F_coder_b10.keep Kq42 nin0
    have O42 := O10.keep Kq42 all0
    have K42 := K10.trans Kq42 all0
    have ne_b1_b42 : b1 ≠ b42 := Nat.ne_of_lt (Nat.lt_of_lt_of_le lq42_b1 frq42)
    have ne_b10_b42 : b10 ≠ b42 := Nat.ne_of_lt (Nat.lt_of_lt_of_le lq42_b10 frq42)
    have ge_b42 : n0 ≤ b42 := Nat.le_trans (Nat.le_trans (Nat.le_of_eq O10.1.symm) O10.2.1) frq42
    have fr_b42 : h0.size ≤ b42 := Nat.le_trans K10.1 frq42
    clear st42
    clear O10 K10 N9 HC10 hk10 X10 e10
    show GlW Z consts_1 p e below s _ _ _ T42 (mkF m 53 #[.val (.int p1), .val (.int p2), .val (.int p3), .val (.int p4), .val (.int p5), .val (.int (2 : Int32)), .val (.ref b1), .unset, .unset, .unset, .unset, .unset] [(.ref b42), (.ref b10), (.ref b10)])
    have hlat43 : ∀ c ∈ ([c2, c4] : List Int32), ¬ c < 0 ∧ ¬ (255 : Int32) < c := by
      intro c hc
      simp only [List.mem_cons, List.not_mem_nil, or_false] at hc
      rcases hc with rfl | rfl
      · exact pk2.1
      · exact pk4.1
    obtain ⟨v44, _, ⟨T44, L44, kQ44, nQ44⟩, -, X44, ⟨Lc44, hQ44, l44, y44, z44⟩, st44⟩ := X42.specialBack hx (y := (⟨"java/lang/String", "<init>", "([C)V"⟩ : MethodName)) rfl hown (mvT hZ (hw _ (List.mem_of_getElem? (i := 12) rfl))) (mvT hZ (hw _ (List.mem_of_getElem? (i := 13) rfl))) (mvT hZ (hw _ (List.mem_of_getElem? (i := 14) rfl))) (by decide) (StrChars.Road.backV (W := 1) (s := (s.setVm s.vm)) hZ hws (kI := 4) (hw _ (List.mem_of_getElem? (i := 7) rfl)) (cs := [c2, c4]) (bs := [(c2).toInt8.toInt32, (c4).toInt8.toInt32]) (n := 2) ge_b10 (Nat.le_trans (Nat.le_of_eq O42.1.symm) O42.2.1) Exa_b10 F_value_b10 F_coder_b10 Arv_b42 (S_COMPACT.ext O42.2) hcz rfl rfl (by decide) (by decide) hlat43 rfl (by decide) (by decide)) (g := (mkF m 53 #[.val (.int p1), .val (.int p2), .val (.int p3), .val (.int p4), .val (.int p5), .val (.int (2 : Int32)), .val (.ref b1), .unset, .unset, .unset, .unset, .unset] [(.ref b42), (.ref b10), (.ref b10)])) rfl (by rw [hml]; rfl) (Steps.refl _) (a := b10) (argsL := [(.ref b42)]) (rest := [(.ref b10)]) (lenOf pd_rm0_6 rfl) rfl (by show 2 * 0 + _ ≤ _; exact Nat.le_of_eq rfl) (hb hby at_53) (fun _ _ => ⟨rfl, e42, (by decide : 3 + 1 ≤ _), (by decide : 10 + 2 ≤ _)⟩)
    dsimp only [Pt.U, Pt.locs, Pt.cells, Pt.slots] at X44 l44 y44 z44 st44 hQ44
    subst y44 z44
    obtain ⟨h44, e44⟩ : ∃ z, T44.heap = z := ⟨_, rfl⟩
    rw [e44] at hQ44
    obtain ⟨rfl, Nq44, Kq44, Eq44, Cq44, t44, kb44, gt44, fr_t44, ne_t44, Fq44, Aq44⟩ := hQ44
    have N44 : Fr n0 L44 := l44 ▸ Fr.app N42 Nq44
    refine GlW.st (fun _ kk => st44.trans kk) ?_
    have sfk44 : ∀ x ∈ [b10], Safe Z consts_1 _ _ x := (allS Sf_b10 all0)
    replace Sf_b10 := Safe.keep Kq44 sfk44 HC42.1 Sf_b10
    have HC44 := HC42.trans (CHr.keep Kq44 sfk44 HC42.1)
    have hk44 := Nat.le_trans hk42 Kq44.1
    replace Arv_b1 := Arv_b1.keep Kq44 (ninS ne_b1_b10 nin0)
    replace Exa_b10 := Exa_b10.keep Kq44
    replace Arv_b42 := Arv_b42.keep Kq44 (ninS (Ne.symm ne_b10_b42) nin0)
    have O44 := O42.keep Kq44 (allS ge_b10 all0)
    have K44 := K42.trans Kq44 (allS (Or.inr fr_b10) all0)
    have F_coder_b10 := Cq44
    have F_value_b10 := Fq44
    have Arv_t44 := Aq44
    clear st44
    clear O42 K42 N42 HC42 hk42 X42 e42
    show GlW Z consts_1 p e below s _ _ _ T44 (mkF m 56 #[.val (.int p1), .val (.int p2), .val (.int p3), .val (.int p4), .val (.int p5), .val (.int (2 : Int32)), .val (.ref b1), .unset, .unset, .unset, .unset, .unset] [(.ref b10)])
    refine GlW.st (fun _ kk => XS.astore X44.here hx rfl (hb hby at_56) rfl rfl (l' := #[.val (.int p1), .val (.int p2), .val (.int p3), .val (.int p4), .val (.int p5), .val (.int (2 : Int32)), .val (.ref b1), .val (.ref b10), .unset, .unset, .unset, .unset]) rfl kk) ?_
    show GlW Z consts_1 p e below s _ _ _ T44 (mkF m 58 #[.val (.int p1), .val (.int p2), .val (.int p3), .val (.int p4), .val (.int p5), .val (.int (2 : Int32)), .val (.ref b1), .val (.ref b10), .unset, .unset, .unset, .unset] [])
    exact join58 (2 : Int32) 2 [c2, c4] t44 kb44 (by decide) rfl rfl _ _ _ _ _ (Gl.wider X44 (by decide) (by decide)) e44 N44 O44 K44 hS0 hk44 hZ hown HC44 Sf_b10 Exa_b10 Arv_b1 F_value_b10 F_coder_b10 Arv_t44
  · rw [hk]
    show GlW Z consts_1 p e below s _ _ _ T10 (mkF m 46 #[.val (.int p1), .val (.int p2), .val (.int p3), .val (.int p4), .val (.int p5), .val (.int (3 : Int32)), .val (.ref b1), .unset, .unset, .unset, .unset, .unset] [(.ref b10), (.ref b10)])
    refine GlW.st (fun _ kk => XS.iload X10.here hx rfl (hb hby at_46) rfl kk) ?_
    show GlW Z consts_1 p e below s _ _ _ T10 (mkF m 48 #[.val (.int p1), .val (.int p2), .val (.int p3), .val (.int p4), .val (.int p5), .val (.int (3 : Int32)), .val (.ref b1), .unset, .unset, .unset, .unset, .unset] [(.int (3 : Int32)), (.ref b10), (.ref b10)])
    refine GlW.st (fun _ kk => XS.aload X10.here hx rfl (hb hby at_48) rfl rfl kk) ?_
    show GlW Z consts_1 p e below s _ _ _ T10 (mkF m 50 #[.val (.int p1), .val (.int p2), .val (.int p3), .val (.int p4), .val (.int p5), .val (.int (3 : Int32)), .val (.ref b1), .unset, .unset, .unset, .unset, .unset] [(.ref b1), (.int (3 : Int32)), (.ref b10), (.ref b10)])
    have lq45_b1 := Arv_b1.lt
    have lq45_b10 := Exa_b10.lt
    obtain ⟨v45, _, ⟨T45, L45, kQ45, nQ45⟩, -, X45, ⟨Lc45, hQ45, l45, y45, z45⟩, st45⟩ := Jvm.LawKit.callS X10 hx (y := (⟨"com/example/concurrency_quota/concurrencyquota/ServiceRequestTrimWhitespacePinLaw", "make", "(I[C)[C"⟩ : MethodName)) hown (mvT hZ (hw _ (List.mem_of_getElem? (i := 9) rfl))) (mvT hZ (hw _ (List.mem_of_getElem? (i := 10) rfl))) (mvT hZ (hw _ (List.mem_of_getElem? (i := 4) rfl))) (mvT hZ (hw _ (List.mem_of_getElem? (i := 11) rfl))) (by decide) (backOf (W := 2) (rmMK3 l Z a0 hw [] b1 ka1 c2 c4 c6 c8 h10 n0 O10 Arv_b1 pk2.2 pk4.2 pk6.2 pk8.2) hZ (hw _ (List.mem_of_getElem? (i := 11) rfl)) (hw _ (List.mem_of_getElem? (i := 4) rfl)) (by decide) (by decide)) (g := (mkF m 50 #[.val (.int p1), .val (.int p2), .val (.int p3), .val (.int p4), .val (.int p5), .val (.int (3 : Int32)), .val (.ref b1), .unset, .unset, .unset, .unset, .unset] [(.ref b1), (.int (3 : Int32)), (.ref b10), (.ref b10)])) rfl (by rw [hml]; rfl) (argsL := [(.int (3 : Int32)), (.ref b1)]) (rest := [(.ref b10), (.ref b10)]) (lenOf pd_rm0_5 rfl) rfl (by show 2 * 0 + _ ≤ _; exact Nat.le_of_eq rfl) (hb hby at_50) (fun _ _ => ⟨rfl, e10, (by decide : 2 + 1 ≤ _), (by decide : 8 + 3 ≤ _)⟩)
    dsimp only [Pt.U, Pt.locs, Pt.cells, Pt.slots] at X45 l45 y45 z45 st45 hQ45
    subst y45 z45
    obtain ⟨h45, e45⟩ : ∃ z, T45.heap = z := ⟨_, rfl⟩
    rw [e45] at hQ45
    obtain ⟨b45, kb45, rfl, Nq45, Kq45, Arv_b45, frq45⟩ := hQ45
    have N45 : Fr n0 L45 := l45 ▸ Fr.app N9 Nq45
    refine GlW.st st45 ?_
    have sfk45 : ∀ x ∈ ([] : List Addr), Safe Z consts_1 s.vm h10 x := all0
    replace Sf_b10 := Safe.keep Kq45 sfk45 HC10.1 Sf_b10
    have HC45 := HC10.trans (CHr.keep Kq45 sfk45 HC10.1)
    have hk45 := Nat.le_trans hk10 Kq45.1
    replace Arv_b1 := Arv_b1.keep Kq45 nin0
    replace Exa_b10 := Exa_b10.keep Kq45
    replace F_value_b10 := F_value_b10.keep Kq45 nin0
    replace F_coder_b10 := F_coder_b10.keep Kq45 nin0
    have O45 := O10.keep Kq45 all0
    have K45 := K10.trans Kq45 all0
    have ne_b1_b45 : b1 ≠ b45 := Nat.ne_of_lt (Nat.lt_of_lt_of_le lq45_b1 frq45)
    have ne_b10_b45 : b10 ≠ b45 := Nat.ne_of_lt (Nat.lt_of_lt_of_le lq45_b10 frq45)
    have ge_b45 : n0 ≤ b45 := Nat.le_trans (Nat.le_trans (Nat.le_of_eq O10.1.symm) O10.2.1) frq45
    have fr_b45 : h0.size ≤ b45 := Nat.le_trans K10.1 frq45
    clear st45
    clear O10 K10 N9 HC10 hk10 X10 e10
    show GlW Z consts_1 p e below s _ _ _ T45 (mkF m 53 #[.val (.int p1), .val (.int p2), .val (.int p3), .val (.int p4), .val (.int p5), .val (.int (3 : Int32)), .val (.ref b1), .unset, .unset, .unset, .unset, .unset] [(.ref b45), (.ref b10), (.ref b10)])
    have hlat46 : ∀ c ∈ ([c2, c4, c6] : List Int32), ¬ c < 0 ∧ ¬ (255 : Int32) < c := by
      intro c hc
      simp only [List.mem_cons, List.not_mem_nil, or_false] at hc
      rcases hc with rfl | rfl | rfl
      · exact pk2.1
      · exact pk4.1
      · exact pk6.1
    obtain ⟨v47, _, ⟨T47, L47, kQ47, nQ47⟩, -, X47, ⟨Lc47, hQ47, l47, y47, z47⟩, st47⟩ := X45.specialBack hx (y := (⟨"java/lang/String", "<init>", "([C)V"⟩ : MethodName)) rfl hown (mvT hZ (hw _ (List.mem_of_getElem? (i := 12) rfl))) (mvT hZ (hw _ (List.mem_of_getElem? (i := 13) rfl))) (mvT hZ (hw _ (List.mem_of_getElem? (i := 14) rfl))) (by decide) (StrChars.Road.backV (W := 1) (s := (s.setVm s.vm)) hZ hws (kI := 4) (hw _ (List.mem_of_getElem? (i := 7) rfl)) (cs := [c2, c4, c6]) (bs := [(c2).toInt8.toInt32, (c4).toInt8.toInt32, (c6).toInt8.toInt32]) (n := 3) ge_b10 (Nat.le_trans (Nat.le_of_eq O45.1.symm) O45.2.1) Exa_b10 F_value_b10 F_coder_b10 Arv_b45 (S_COMPACT.ext O45.2) hcz rfl rfl (by decide) (by decide) hlat46 rfl (by decide) (by decide)) (g := (mkF m 53 #[.val (.int p1), .val (.int p2), .val (.int p3), .val (.int p4), .val (.int p5), .val (.int (3 : Int32)), .val (.ref b1), .unset, .unset, .unset, .unset, .unset] [(.ref b45), (.ref b10), (.ref b10)])) rfl (by rw [hml]; rfl) (Steps.refl _) (a := b10) (argsL := [(.ref b45)]) (rest := [(.ref b10)]) (lenOf pd_rm0_6 rfl) rfl (by show 2 * 0 + _ ≤ _; exact Nat.le_of_eq rfl) (hb hby at_53) (fun _ _ => ⟨rfl, e45, (by decide : 3 + 1 ≤ _), (by decide : 11 + 3 ≤ _)⟩)
    dsimp only [Pt.U, Pt.locs, Pt.cells, Pt.slots] at X47 l47 y47 z47 st47 hQ47
    subst y47 z47
    obtain ⟨h47, e47⟩ : ∃ z, T47.heap = z := ⟨_, rfl⟩
    rw [e47] at hQ47
    obtain ⟨rfl, Nq47, Kq47, Eq47, Cq47, t47, kb47, gt47, fr_t47, ne_t47, Fq47, Aq47⟩ := hQ47
    have N47 : Fr n0 L47 := l47 ▸ Fr.app N45 Nq47
    refine GlW.st (fun _ kk => st47.trans kk) ?_
    have sfk47 : ∀ x ∈ [b10], Safe Z consts_1 _ _ x := (allS Sf_b10 all0)
    replace Sf_b10 := Safe.keep Kq47 sfk47 HC45.1 Sf_b10
    have HC47 := HC45.trans (CHr.keep Kq47 sfk47 HC45.1)
    have hk47 := Nat.le_trans hk45 Kq47.1
    replace Arv_b1 := Arv_b1.keep Kq47 (ninS ne_b1_b10 nin0)
    replace Exa_b10 := Exa_b10.keep Kq47
    replace Arv_b45 := Arv_b45.keep Kq47 (ninS (Ne.symm ne_b10_b45) nin0)
    have O47 := O45.keep Kq47 (allS ge_b10 all0)
    have K47 := K45.trans Kq47 (allS (Or.inr fr_b10) all0)
    have F_coder_b10 := Cq47
    have F_value_b10 := Fq47
    have Arv_t47 := Aq47
    clear st47
    clear O45 K45 N45 HC45 hk45 X45 e45
    show GlW Z consts_1 p e below s _ _ _ T47 (mkF m 56 #[.val (.int p1), .val (.int p2), .val (.int p3), .val (.int p4), .val (.int p5), .val (.int (3 : Int32)), .val (.ref b1), .unset, .unset, .unset, .unset, .unset] [(.ref b10)])
    refine GlW.st (fun _ kk => XS.astore X47.here hx rfl (hb hby at_56) rfl rfl (l' := #[.val (.int p1), .val (.int p2), .val (.int p3), .val (.int p4), .val (.int p5), .val (.int (3 : Int32)), .val (.ref b1), .val (.ref b10), .unset, .unset, .unset, .unset]) rfl kk) ?_
    show GlW Z consts_1 p e below s _ _ _ T47 (mkF m 58 #[.val (.int p1), .val (.int p2), .val (.int p3), .val (.int p4), .val (.int p5), .val (.int (3 : Int32)), .val (.ref b1), .val (.ref b10), .unset, .unset, .unset, .unset] [])
    exact join58 (3 : Int32) 3 [c2, c4, c6] t47 kb47 (by decide) rfl rfl _ _ _ _ _ (Gl.wider X47 (by decide) (by decide)) e47 N47 O47 K47 hS0 hk47 hZ hown HC47 Sf_b10 Exa_b10 Arv_b1 F_value_b10 F_coder_b10 Arv_t47
  · rw [hk]
    show GlW Z consts_1 p e below s _ _ _ T10 (mkF m 46 #[.val (.int p1), .val (.int p2), .val (.int p3), .val (.int p4), .val (.int p5), .val (.int (4 : Int32)), .val (.ref b1), .unset, .unset, .unset, .unset, .unset] [(.ref b10), (.ref b10)])
    refine GlW.st (fun _ kk => XS.iload X10.here hx rfl (hb hby at_46) rfl kk) ?_
    show GlW Z consts_1 p e below s _ _ _ T10 (mkF m 48 #[.val (.int p1), .val (.int p2), .val (.int p3), .val (.int p4), .val (.int p5), .val (.int (4 : Int32)), .val (.ref b1), .unset, .unset, .unset, .unset, .unset] [(.int (4 : Int32)), (.ref b10), (.ref b10)])
    refine GlW.st (fun _ kk => XS.aload X10.here hx rfl (hb hby at_48) rfl rfl kk) ?_
    show GlW Z consts_1 p e below s _ _ _ T10 (mkF m 50 #[.val (.int p1), .val (.int p2), .val (.int p3), .val (.int p4), .val (.int p5), .val (.int (4 : Int32)), .val (.ref b1), .unset, .unset, .unset, .unset, .unset] [(.ref b1), (.int (4 : Int32)), (.ref b10), (.ref b10)])
    have lq48_b1 := Arv_b1.lt
    have lq48_b10 := Exa_b10.lt
    obtain ⟨v48, _, ⟨T48, L48, kQ48, nQ48⟩, -, X48, ⟨Lc48, hQ48, l48, y48, z48⟩, st48⟩ := Jvm.LawKit.callS X10 hx (y := (⟨"com/example/concurrency_quota/concurrencyquota/ServiceRequestTrimWhitespacePinLaw", "make", "(I[C)[C"⟩ : MethodName)) hown (mvT hZ (hw _ (List.mem_of_getElem? (i := 9) rfl))) (mvT hZ (hw _ (List.mem_of_getElem? (i := 10) rfl))) (mvT hZ (hw _ (List.mem_of_getElem? (i := 4) rfl))) (mvT hZ (hw _ (List.mem_of_getElem? (i := 11) rfl))) (by decide) (backOf (W := 2) (rmMK4 l Z a0 hw [] b1 ka1 c2 c4 c6 c8 h10 n0 O10 Arv_b1 pk2.2 pk4.2 pk6.2 pk8.2) hZ (hw _ (List.mem_of_getElem? (i := 11) rfl)) (hw _ (List.mem_of_getElem? (i := 4) rfl)) (by decide) (by decide)) (g := (mkF m 50 #[.val (.int p1), .val (.int p2), .val (.int p3), .val (.int p4), .val (.int p5), .val (.int (4 : Int32)), .val (.ref b1), .unset, .unset, .unset, .unset, .unset] [(.ref b1), (.int (4 : Int32)), (.ref b10), (.ref b10)])) rfl (by rw [hml]; rfl) (argsL := [(.int (4 : Int32)), (.ref b1)]) (rest := [(.ref b10), (.ref b10)]) (lenOf pd_rm0_5 rfl) rfl (by show 2 * 0 + _ ≤ _; exact Nat.le_of_eq rfl) (hb hby at_50) (fun _ _ => ⟨rfl, e10, (by decide : 2 + 1 ≤ _), (by decide : 8 + 4 ≤ _)⟩)
    dsimp only [Pt.U, Pt.locs, Pt.cells, Pt.slots] at X48 l48 y48 z48 st48 hQ48
    subst y48 z48
    obtain ⟨h48, e48⟩ : ∃ z, T48.heap = z := ⟨_, rfl⟩
    rw [e48] at hQ48
    obtain ⟨b48, kb48, rfl, Nq48, Kq48, Arv_b48, frq48⟩ := hQ48
    have N48 : Fr n0 L48 := l48 ▸ Fr.app N9 Nq48
    refine GlW.st st48 ?_
    have sfk48 : ∀ x ∈ ([] : List Addr), Safe Z consts_1 s.vm h10 x := all0
    replace Sf_b10 := Safe.keep Kq48 sfk48 HC10.1 Sf_b10
    have HC48 := HC10.trans (CHr.keep Kq48 sfk48 HC10.1)
    have hk48 := Nat.le_trans hk10 Kq48.1
    replace Arv_b1 := Arv_b1.keep Kq48 nin0
    replace Exa_b10 := Exa_b10.keep Kq48
    replace F_value_b10 := F_value_b10.keep Kq48 nin0
    replace F_coder_b10 := F_coder_b10.keep Kq48 nin0
    have O48 := O10.keep Kq48 all0
    have K48 := K10.trans Kq48 all0
    have ne_b1_b48 : b1 ≠ b48 := Nat.ne_of_lt (Nat.lt_of_lt_of_le lq48_b1 frq48)
    have ne_b10_b48 : b10 ≠ b48 := Nat.ne_of_lt (Nat.lt_of_lt_of_le lq48_b10 frq48)
    have ge_b48 : n0 ≤ b48 := Nat.le_trans (Nat.le_trans (Nat.le_of_eq O10.1.symm) O10.2.1) frq48
    have fr_b48 : h0.size ≤ b48 := Nat.le_trans K10.1 frq48
    clear st48
    clear O10 K10 N9 HC10 hk10 X10 e10
    show GlW Z consts_1 p e below s _ _ _ T48 (mkF m 53 #[.val (.int p1), .val (.int p2), .val (.int p3), .val (.int p4), .val (.int p5), .val (.int (4 : Int32)), .val (.ref b1), .unset, .unset, .unset, .unset, .unset] [(.ref b48), (.ref b10), (.ref b10)])
    have hlat49 : ∀ c ∈ ([c2, c4, c6, c8] : List Int32), ¬ c < 0 ∧ ¬ (255 : Int32) < c := by
      intro c hc
      simp only [List.mem_cons, List.not_mem_nil, or_false] at hc
      rcases hc with rfl | rfl | rfl | rfl
      · exact pk2.1
      · exact pk4.1
      · exact pk6.1
      · exact pk8.1
    obtain ⟨v50, _, ⟨T50, L50, kQ50, nQ50⟩, -, X50, ⟨Lc50, hQ50, l50, y50, z50⟩, st50⟩ := X48.specialBack hx (y := (⟨"java/lang/String", "<init>", "([C)V"⟩ : MethodName)) rfl hown (mvT hZ (hw _ (List.mem_of_getElem? (i := 12) rfl))) (mvT hZ (hw _ (List.mem_of_getElem? (i := 13) rfl))) (mvT hZ (hw _ (List.mem_of_getElem? (i := 14) rfl))) (by decide) (StrChars.Road.backV (W := 1) (s := (s.setVm s.vm)) hZ hws (kI := 4) (hw _ (List.mem_of_getElem? (i := 7) rfl)) (cs := [c2, c4, c6, c8]) (bs := [(c2).toInt8.toInt32, (c4).toInt8.toInt32, (c6).toInt8.toInt32, (c8).toInt8.toInt32]) (n := 4) ge_b10 (Nat.le_trans (Nat.le_of_eq O48.1.symm) O48.2.1) Exa_b10 F_value_b10 F_coder_b10 Arv_b48 (S_COMPACT.ext O48.2) hcz rfl rfl (by decide) (by decide) hlat49 rfl (by decide) (by decide)) (g := (mkF m 53 #[.val (.int p1), .val (.int p2), .val (.int p3), .val (.int p4), .val (.int p5), .val (.int (4 : Int32)), .val (.ref b1), .unset, .unset, .unset, .unset, .unset] [(.ref b48), (.ref b10), (.ref b10)])) rfl (by rw [hml]; rfl) (Steps.refl _) (a := b10) (argsL := [(.ref b48)]) (rest := [(.ref b10)]) (lenOf pd_rm0_6 rfl) rfl (by show 2 * 0 + _ ≤ _; exact Nat.le_of_eq rfl) (hb hby at_53) (fun _ _ => ⟨rfl, e48, (by decide : 3 + 1 ≤ _), (by decide : 12 + 4 ≤ _)⟩)
    dsimp only [Pt.U, Pt.locs, Pt.cells, Pt.slots] at X50 l50 y50 z50 st50 hQ50
    subst y50 z50
    obtain ⟨h50, e50⟩ : ∃ z, T50.heap = z := ⟨_, rfl⟩
    rw [e50] at hQ50
    obtain ⟨rfl, Nq50, Kq50, Eq50, Cq50, t50, kb50, gt50, fr_t50, ne_t50, Fq50, Aq50⟩ := hQ50
    have N50 : Fr n0 L50 := l50 ▸ Fr.app N48 Nq50
    refine GlW.st (fun _ kk => st50.trans kk) ?_
    have sfk50 : ∀ x ∈ [b10], Safe Z consts_1 _ _ x := (allS Sf_b10 all0)
    replace Sf_b10 := Safe.keep Kq50 sfk50 HC48.1 Sf_b10
    have HC50 := HC48.trans (CHr.keep Kq50 sfk50 HC48.1)
    have hk50 := Nat.le_trans hk48 Kq50.1
    replace Arv_b1 := Arv_b1.keep Kq50 (ninS ne_b1_b10 nin0)
    replace Exa_b10 := Exa_b10.keep Kq50
    replace Arv_b48 := Arv_b48.keep Kq50 (ninS (Ne.symm ne_b10_b48) nin0)
    have O50 := O48.keep Kq50 (allS ge_b10 all0)
    have K50 := K48.trans Kq50 (allS (Or.inr fr_b10) all0)
    have F_coder_b10 := Cq50
    have F_value_b10 := Fq50
    have Arv_t50 := Aq50
    clear st50
    clear O48 K48 N48 HC48 hk48 X48 e48
    show GlW Z consts_1 p e below s _ _ _ T50 (mkF m 56 #[.val (.int p1), .val (.int p2), .val (.int p3), .val (.int p4), .val (.int p5), .val (.int (4 : Int32)), .val (.ref b1), .unset, .unset, .unset, .unset, .unset] [(.ref b10)])
    refine GlW.st (fun _ kk => XS.astore X50.here hx rfl (hb hby at_56) rfl rfl (l' := #[.val (.int p1), .val (.int p2), .val (.int p3), .val (.int p4), .val (.int p5), .val (.int (4 : Int32)), .val (.ref b1), .val (.ref b10), .unset, .unset, .unset, .unset]) rfl kk) ?_
    show GlW Z consts_1 p e below s _ _ _ T50 (mkF m 58 #[.val (.int p1), .val (.int p2), .val (.int p3), .val (.int p4), .val (.int p5), .val (.int (4 : Int32)), .val (.ref b1), .val (.ref b10), .unset, .unset, .unset, .unset] [])
    exact join58 (4 : Int32) 4 [c2, c4, c6, c8] t50 kb50 (by decide) rfl rfl _ _ _ _ _ (Gl.wider X50 (by decide) (by decide)) e50 N50 O50 K50 hS0 hk50 hZ hown HC50 Sf_b10 Exa_b10 Arv_b1 F_value_b10 F_coder_b10 Arv_t50
set_option maxRecDepth 65536 in
set_option maxHeartbeats 40000000 in
theorem comes_1 {Post : Tables → Env → Array Value → State → Outcome → State → Prop} (hpost : ∀ tb e args s v u, (limb_1_1.after args s (.returned v) u = true ∧ limb_1_2.after args s (.returned v) u = true ∧ True) → ReturnedEndW s (.returned v) u (Jvm.fieldLocs frame_1_writes args s ++ Jvm.arrayLocs frame_1_arrays args s ++ Jvm.staticLocs frame_1_statics s) 24 2176 → Post tb e args s (.returned v) u) :
    ArmFor flags0 classFile x code maxLocals ret World_1 tables_1 room_1 Calls_1 rest_1 Pre_1 Post := by
  intro l hfl _ _ p e ha hc hk s m args below hf hA hF happ hP
  obtain ⟨hcalls, hrest, hpre⟩ := hP
  obtain ⟨-, -, -, hnamed, -, -, -, hat⟩ := (Spec.applies_iff hf).mp happ
  obtain ⟨hg, hn⟩ := and_e (Cond.before_iff.mp (show (Jvm.Cond.and given_1 narrow_1).before args s = true from hpre))
  obtain ⟨g1a, g1b⟩ := and_e hg
  obtain ⟨g2a, g2b⟩ := and_e g1b
  obtain ⟨g3a, g3b⟩ := and_e g2b
  obtain ⟨g4a, g4b⟩ := and_e g3b
  obtain ⟨g5a, g5b⟩ := and_e g4b
  obtain ⟨w0, w1, w2, w3, w4, rfl⟩ : ∃ w0 w1 w2 w3 w4 : Value, args = #[w0, w1, w2, w3, w4] := by
    have hs : args.size = 5 := by simpa [Cond.value, given_1] using g1a
    obtain ⟨L⟩ := args
    match L, hs with
    | [w0, w1, w2, w3, w4], _ => exact ⟨w0, w1, w2, w3, w4, rfl⟩
  have hw := fun d (hd : d ∈ tables_1) => atoms_spec (ws := Jvm.Cond.code x code maxLocals ret :: tables_1) hat d (List.mem_cons_of_mem _ hd)
  have hfit : Fit s := fun {y c} hc i hi => by
    obtain ⟨ha, rfl⟩ := Array.getElem?_eq_some_iff.mp hc
    have q := List.all_eq_true.mp ((Array.all_eq_true_iff_forall_mem.mp hF) _ (Array.getElem_mem ha)) i (List.mem_range.mpr hi)
    simpa [Array.getElem?_eq_getElem hi] using q
  obtain ⟨hsets, hown0⟩ := atoms_of _ (rest_1_c_eq ▸ (show rest_1_c.before _ s = true from hrest))
  have hr0 := Cond.before_iff.mp hown0
  obtain ⟨i0, ei0⟩ := is_v g2a
  obtain rfl : w0 = (.int i0) := Option.some.inj ei0
  obtain ⟨i1, ei1⟩ := is_v g3a
  obtain rfl : w1 = (.int i1) := Option.some.inj ei1
  obtain ⟨i2, ei2⟩ := is_v g4a
  obtain rfl : w2 = (.int i2) := Option.some.inj ei2
  obtain ⟨i3, ei3⟩ := is_v g5a
  obtain rfl : w3 = (.int i3) := Option.some.inj ei3
  obtain ⟨i4, ei4⟩ := is_v g5b
  obtain rfl : w4 = (.int i4) := Option.some.inj ei4
  have ncz := not_v (Cond.before_iff.mp (hsets _ (List.mem_of_getElem? (i := 2) rfl)))
  obtain ⟨cz, ecz⟩ := is_v (Cond.before_iff.mp (hsets _ (List.mem_of_getElem? (i := 1) rfl)))
  have S_COMPACT : Sta s s.heap "java/lang/String" "COMPACT_STRINGS" "Z" (.int cz) := Sta.start ecz (Or.inl (hsets _ (List.mem_of_getElem? (i := 0) rfl)))
  have hcz : ¬ (cz = (0 : Int32)) := gotF (Cond.eq_ints ecz (Term.int_eval (0))) ncz
  obtain ⟨fm, efm, rG⟩ := isR_v (Cond.before_iff.mp (hsets _ (List.mem_of_getElem? (i := 8) rfl)))
  have S_SI : Sta s s.heap "jdk/internal/util/Preconditions" "SIOOBE_FORMATTER" "Ljava/util/function/BiFunction;" fm := Sta.start efm (Or.inl (hsets _ (List.mem_of_getElem? (i := 7) rfl)))
  obtain ⟨n, o, h1, h2, h3, _, L, rfl, ⟨rfl, N⟩, -, hq⟩ := rm0 l s _ hw tables_1 i0 i1 i2 i3 i4 cz fm s.heap s.heap.size (Old.start s) S_COMPACT hcz S_SI rG p e ha hc hk s m _ below hf ((Spec.applies_iff_loose hf).mp happ).1 ⟨rfl, State.Warmed39.refl s, rfl, CHv.start (own_EW hw) hcalls.1 (hsets _ (List.mem_of_getElem? (i := 2) rfl)) (hw _ (List.mem_of_getElem? (i := 23) rfl)) (hw _ (List.mem_of_getElem? (i := 7) rfl))⟩ trivial
  refine ⟨n, _, h1, h2, h3, hpost _ _ _ _ _ _ ⟨Cond.after_iff.mpr rfl, Cond.after_iff.mpr (eq_i res_at (Term.int_eval (1)) rfl), trivial⟩ ⟨hq.1, hq.2.1, hq.2.2.1, (hq.2.2.2.sift fun y hy => Or.inr (N y hy)).mono (by decide) (by decide)⟩⟩
theorem main_1_1 : Claimed_1_1 := comes_1 fun _ _ _ _ _ _ h hF => ⟨h.1, hF⟩
theorem main_1_2 : Claimed_1_2 := comes_1 fun _ _ _ _ _ _ h hF => ⟨h.2.1, hF⟩
end Jvm.Pilot.@@N@@
namespace Jvm.Pilot.@@N@@
open Jvm Jvm.ClassFile Sem Op Lib Jvm.Free Jvm.Stand Jvm.Pilot.@@N@@.Jvm.D
/-! MADE BY PROGRAM (witnessworld.py) out of the Statement's table words and the real class files: 24 classes; the members and pool entries that the words name. The judged class is class 1, her method 6. -/
namespace start1
open Jvm.ClassFile
def u (s : String) : CpInfo := .utf8 (stringToUtf16 s)
/-- a pool by its gaps: so many unusable entries, then the entry; so many at the end -/
def gap : Nat → List CpInfo → List CpInfo
  | 0, r => r
  | n + 1, r => .unusable :: gap n r
def poolList (es : List (Nat × CpInfo)) (last : Nat) : List CpInfo := es.foldr (fun e r => gap e.1 (e.2 :: r)) (gap last [])
def pool (es : List (Nat × CpInfo)) (last : Nat) : Array CpInfo := ⟨poolList es last⟩
def fileOf (pool : Array CpInfo) (this : Nat) (attrs : Array Attribute := #[]) (ms : Array MethodInfo := #[]) (fl : Nat := 33) (sup : Nat := 0) (ifs : Array Nat := #[]) (fds : Array FieldInfo := #[]) : ClassFile where
  minorVersion := 0
  majorVersion := 65
  constantPool := pool
  accessFlags := fl
  thisClass := this
  superClass := sup
  interfaces := ifs
  fields := fds
  methods := ms
  attributes := attrs
def plain (name : String) (sup : Option ClassId) : Class where
  name := name
  kind := .ordinary
  loader := none
  accessFlags := 33
  super := sup
  interfaces := #[]
  cf := none
  fields := #[]
  methods := #[]
  instanceTypes := #[]
  staticTypes := #[]
  resolved := #[]
  callSites := []
  init := .initialized
  statics := none
  mirror := none

def pool0 : Array CpInfo := pool [(5, u "<init>"), (0, u "()V"), (1, .class_ 10), (1, u "java/lang/Object")] 113

def k0c0 : Code := { maxStack := 0, maxLocals := 1, code := object_method_1_code, exceptionTable := #[], attributes := #[] }
def k0m0 : Method := { name := "<init>", desc := "()V", sig := { parameters := [], returnType := none }, accessFlags := 1, code := some k0c0 }
/-- java/lang/Object -/
def k0 : Class := { plain "java/lang/Object" none with
  accessFlags := 33
  interfaces := #[]
  cf := some (fileOf pool0 8 #[] #[{ accessFlags := 1, nameIndex := 5, descriptorIndex := 6, attributes := #[] }] 33 0 #[] #[])
  fields := #[]
  methods := #[k0m0]
  instanceTypes := #[]
  staticTypes := #[]
  resolved := Array.replicate 124 none
  statics := none }

def pool1 : Array CpInfo := pool [(2, .class_ 4), (1, u "java/lang/Object"), (0, u "<init>"), (0, u "()V"), (0, .methodref 8 9), (0, .class_ 10), (0, .nameAndType 11 12), (0, u "com/example/concurrency_quota/concurrencyquota/ServiceRequestTrimWhitespacePinLaw"), (0, u "ws"), (0, u "(C)Z"), (0, .methodref 14 15), (0, .class_ 16), (0, .nameAndType 17 18), (0, u "java/lang/String"), (0, u "charAt"), (0, u "(I)C"), (0, .integer 2147483647), (0, .methodref 8 21), (0, .nameAndType 22 18), (0, u "pick"), (0, .methodref 8 24), (0, .nameAndType 25 26), (0, u "make"), (0, u "(I[C)[C"), (0, .methodref 14 28), (0, .nameAndType 5 29), (0, u "([C)V"), (0, .methodref 31 32), (0, .class_ 33), (0, .nameAndType 34 35), (0, u "com/example/concurrency_quota/concurrencyquota/ServiceRequest"), (0, u "trimWhitespace"), (0, u "(Ljava/lang/String;)Ljava/lang/String;"), (0, .methodref 8 37), (0, .nameAndType 38 39), (0, u "solid"), (0, u "([CII)Z"), (0, .methodref 14 41), (0, .nameAndType 42 43), (0, u "length"), (0, u "()I"), (0, .methodref 8 45), (0, .nameAndType 46 47), (0, u "at"), (0, u "(Ljava/lang/String;I[CII)Z"), (3, u "law"), (0, u "(IIIII)Z")] 4

def k1m0 : Method := { name := "<init>", desc := "()V", sig := { parameters := [], returnType := none }, accessFlags := 1, code := none }
def k1c1 : Code := { maxStack := 2, maxLocals := 2, code := method_2_code, exceptionTable := #[], attributes := #[] }
def k1m1 : Method := { name := "pick", desc := "(I)C", sig := { parameters := [.int], returnType := some .char }, accessFlags := 10, code := some k1c1 }
def k1c2 : Code := { maxStack := 2, maxLocals := 1, code := method_3_code, exceptionTable := #[], attributes := #[] }
def k1m2 : Method := { name := "ws", desc := "(C)Z", sig := { parameters := [.char], returnType := some .boolean }, accessFlags := 10, code := some k1c2 }
def k1c3 : Code := { maxStack := 2, maxLocals := 3, code := method_4_code, exceptionTable := #[], attributes := #[] }
def k1m3 : Method := { name := "solid", desc := "([CII)Z", sig := { parameters := [(.array .char), .int, .int], returnType := some .boolean }, accessFlags := 10, code := some k1c3 }
def k1c4 : Code := { maxStack := 5, maxLocals := 2, code := method_5_code, exceptionTable := #[], attributes := #[] }
def k1m4 : Method := { name := "make", desc := "(I[C)[C", sig := { parameters := [.int, (.array .char)], returnType := some (.array .char) }, accessFlags := 10, code := some k1c4 }
def k1c5 : Code := { maxStack := 4, maxLocals := 5, code := method_6_code, exceptionTable := #[], attributes := #[] }
def k1m5 : Method := { name := "at", desc := "(Ljava/lang/String;I[CII)Z", sig := { parameters := [(.object "java/lang/String"), .int, (.array .char), .int, .int], returnType := some .boolean }, accessFlags := 10, code := some k1c5 }
def k1c6 : Code := { maxStack := 5, maxLocals := 12, code := code, exceptionTable := #[], attributes := #[] }
def k1m6 : Method := { name := "law", desc := "(IIIII)Z", sig := { parameters := [.int, .int, .int, .int, .int], returnType := some .boolean }, accessFlags := 9, code := some k1c6 }
/-- com/example/concurrency_quota/concurrencyquota/ServiceRequestTrimWhitespacePinLaw -/
def k1 : Class := { plain "com/example/concurrency_quota/concurrencyquota/ServiceRequestTrimWhitespacePinLaw" (some 0) with
  accessFlags := 49
  interfaces := #[]
  cf := some (fileOf pool1 8 #[] #[{ accessFlags := 1, nameIndex := 5, descriptorIndex := 6, attributes := #[] }, { accessFlags := 10, nameIndex := 22, descriptorIndex := 18, attributes := #[] }, { accessFlags := 10, nameIndex := 11, descriptorIndex := 12, attributes := #[] }, { accessFlags := 10, nameIndex := 38, descriptorIndex := 39, attributes := #[] }, { accessFlags := 10, nameIndex := 25, descriptorIndex := 26, attributes := #[] }, { accessFlags := 10, nameIndex := 46, descriptorIndex := 47, attributes := #[] }, { accessFlags := 9, nameIndex := 51, descriptorIndex := 52, attributes := #[] }] 49 2 #[] #[])
  fields := #[]
  methods := #[k1m0, k1m1, k1m2, k1m3, k1m4, k1m5, k1m6]
  instanceTypes := #[]
  staticTypes := #[]
  resolved := Array.replicate 57 none
  statics := none }

def pool2 : Array CpInfo := pool [(1, .class_ 2), (0, u "java/io/Serializable"), (0, .class_ 4), (0, u "java/lang/Object")] 2

/-- java/io/Serializable -/
def k2 : Class := { plain "java/io/Serializable" (some 0) with
  accessFlags := 1537
  interfaces := #[]
  cf := some (fileOf pool2 1 #[] #[] 1537 3 #[] #[])
  fields := #[]
  methods := #[]
  instanceTypes := #[]
  staticTypes := #[]
  resolved := Array.replicate 7 none
  statics := none }

def pool3 : Array CpInfo := pool [(1, .class_ 2), (0, u "java/lang/Comparable"), (0, .class_ 4), (0, u "java/lang/Object")] 7

/-- java/lang/Comparable -/
def k3 : Class := { plain "java/lang/Comparable" (some 0) with
  accessFlags := 1537
  interfaces := #[]
  cf := some (fileOf pool3 1 #[] #[] 1537 3 #[] #[])
  fields := #[]
  methods := #[]
  instanceTypes := #[]
  staticTypes := #[]
  resolved := Array.replicate 12 none
  statics := none }

def pool4 : Array CpInfo := pool [(2, .class_ 4), (1, u "java/lang/CharSequence"), (42, .class_ 48), (0, u "java/lang/CharSequence$1CodePointIterator"), (10, .class_ 60), (0, u "java/lang/CharSequence$1CharIterator"), (5, .class_ 67), (0, u "java/lang/Object")] 63

/-- java/lang/CharSequence -/
def k4 : Class := { plain "java/lang/CharSequence" (some 0) with
  accessFlags := 1537
  interfaces := #[]
  cf := some (fileOf pool4 2 #[.nestMembers #[47, 59]] #[] 1537 66 #[] #[])
  fields := #[]
  methods := #[]
  instanceTypes := #[]
  staticTypes := #[]
  resolved := Array.replicate 131 none
  statics := none }

def pool5 : Array CpInfo := pool [(1, .class_ 2), (0, u "java/lang/constant/Constable"), (0, .class_ 4), (0, u "java/lang/Object")] 6

/-- java/lang/constant/Constable -/
def k5 : Class := { plain "java/lang/constant/Constable" (some 0) with
  accessFlags := 1537
  interfaces := #[]
  cf := some (fileOf pool5 1 #[] #[] 1537 3 #[] #[])
  fields := #[]
  methods := #[]
  instanceTypes := #[]
  staticTypes := #[]
  resolved := Array.replicate 11 none
  statics := none }

def pool6 : Array CpInfo := pool [(1, .class_ 2), (0, u "java/lang/constant/ConstantDesc"), (0, .class_ 4), (0, u "java/lang/Object")] 32

/-- java/lang/constant/ConstantDesc -/
def k6 : Class := { plain "java/lang/constant/ConstantDesc" (some 0) with
  accessFlags := 1537
  interfaces := #[]
  cf := some (fileOf pool6 1 #[] #[] 1537 3 #[] #[])
  fields := #[]
  methods := #[]
  instanceTypes := #[]
  staticTypes := #[]
  resolved := Array.replicate 37 none
  statics := none }

def pool7 : Array CpInfo := pool [(1, .methodref 2 3), (0, .class_ 4), (0, .nameAndType 5 6), (0, u "java/lang/Object"), (0, u "<init>"), (0, u "()V"), (0, .string 8), (0, u ""), (0, .fieldref 10 11), (0, .class_ 12), (0, .nameAndType 13 14), (0, u "java/lang/String"), (0, u "value"), (0, u "[B"), (0, .fieldref 10 16), (0, .nameAndType 17 18), (0, u "coder"), (0, u "B"), (2, u "hash"), (0, u "I"), (2, u "hashIsZero"), (0, u "Z"), (0, .methodref 10 28), (0, .nameAndType 5 29), (0, u "([CIILjava/lang/Void;)V"), (8, .fieldref 10 39), (0, .nameAndType 40 26), (0, u "COMPACT_STRINGS"), (1, .class_ 44), (1, u "java/lang/StringUTF16"), (0, u "compress"), (1, .methodref 42 48), (0, .nameAndType 49 50), (0, u "coderFromArrayLen"), (0, u "([BI)B"), (56, .class_ 109), (1, u "java/lang/StringLatin1"), (32, u "()Z"), (34, .methodref 42 178), (0, .nameAndType 45 179), (0, u "([CII)[B"), (31, u "([BB)V"), (122, u "()I"), (0, .methodref 10 336), (0, .nameAndType 17 337), (0, u "()B"), (25, u "([BI)C"), (27, u "(II)V"), (35, u "(I)C"), (64, .methodref 10 493), (0, .nameAndType 494 142), (0, u "isLatin1"), (0, .methodref 107 496), (0, .nameAndType 497 363), (0, u "charAt"), (3, u "checkIndex"), (3, .methodref 10 506), (0, .nameAndType 507 334), (0, u "length"), (5, u "checkFromToIndex"), (7, .methodref 10 522), (0, .nameAndType 523 524), (0, u "checkBoundsBeginEnd"), (0, u "(III)V"), (50, .class_ 576), (0, u "java/lang/CharSequence"), (22, u "CASE_INSENSITIVE_ORDER"), (0, u "Ljava/util/Comparator;"), (82, u "substring"), (0, u "(II)Ljava/lang/String;"), (0, .methodref 107 686), (0, .nameAndType 687 688), (0, u "newString"), (0, u "([BII)Ljava/lang/String;"), (321, u "([C)V"), (42, .fieldref 1054 1055), (0, .class_ 1056), (0, .nameAndType 1057 1058), (0, u "jdk/internal/util/Preconditions"), (0, u "SIOOBE_FORMATTER"), (0, u "Ljava/util/function/BiFunction;"), (0, .methodref 1054 1060), (0, .nameAndType 501 1061), (0, u "(IILjava/util/function/BiFunction;)I"), (0, .methodref 1054 1063), (0, .nameAndType 513 1064), (0, u "(IIILjava/util/function/BiFunction;)I"), (36, u "serialPersistentFields"), (0, u "[Ljava/io/ObjectStreamField;"), (0, .class_ 1104), (0, u "java/lang/String$CaseInsensitiveComparator"), (1, .class_ 1107), (0, u "java/io/Serializable"), (0, .class_ 1109), (0, u "java/lang/Comparable"), (0, .class_ 1111), (0, u "java/lang/constant/Constable"), (0, .class_ 1113), (0, u "java/lang/constant/ConstantDesc"), (2, u "serialVersionUID"), (0, u "J"), (3, u "REPL"), (0, u "C"), (2, u "LATIN1"), (1, u "UTF16")] 323

def k7m0 : Method := { name := "<init>", desc := "()V", sig := { parameters := [], returnType := none }, accessFlags := 1, code := none }
def k7c1 : Code := { maxStack := 5, maxLocals := 2, code := jdk_42_method_3_code, exceptionTable := #[], attributes := #[] }
def k7m1 : Method := { name := "<init>", desc := "([C)V", sig := { parameters := [(.array .char)], returnType := none }, accessFlags := 1, code := some k7c1 }
def k7c2 : Code := { maxStack := 2, maxLocals := 1, code := jdk_42_method_54_code, exceptionTable := #[], attributes := #[] }
def k7m2 : Method := { name := "length", desc := "()I", sig := { parameters := [], returnType := some .int }, accessFlags := 1, code := some k7c2 }
def k7c3 : Code := { maxStack := 2, maxLocals := 2, code := jdk_42_method_56_code, exceptionTable := #[], attributes := #[] }
def k7m3 : Method := { name := "charAt", desc := "(I)C", sig := { parameters := [.int], returnType := some .char }, accessFlags := 1, code := some k7c3 }
def k7c4 : Code := { maxStack := 3, maxLocals := 5, code := jdk_42_method_92_code, exceptionTable := #[], attributes := #[] }
def k7m4 : Method := { name := "substring", desc := "(II)Ljava/lang/String;", sig := { parameters := [.int, .int], returnType := some (.object "java/lang/String") }, accessFlags := 1, code := some k7c4 }
def k7c5 : Code := { maxStack := 4, maxLocals := 6, code := jdk_42_method_149_code, exceptionTable := #[], attributes := #[] }
def k7m5 : Method := { name := "<init>", desc := "([CIILjava/lang/Void;)V", sig := { parameters := [(.array .char), .int, .int, (.object "java/lang/Void")], returnType := none }, accessFlags := 2, code := some k7c5 }
def k7c6 : Code := { maxStack := 2, maxLocals := 3, code := jdk_42_method_151_code, exceptionTable := #[], attributes := #[] }
def k7m6 : Method := { name := "<init>", desc := "([BB)V", sig := { parameters := [(.array .byte), .byte], returnType := none }, accessFlags := 0, code := some k7c6 }
def k7c7 : Code := { maxStack := 1, maxLocals := 1, code := jdk_42_method_152_code, exceptionTable := #[], attributes := #[] }
def k7m7 : Method := { name := "coder", desc := "()B", sig := { parameters := [], returnType := some .byte }, accessFlags := 0, code := some k7c7 }
def k7c8 : Code := { maxStack := 1, maxLocals := 1, code := jdk_42_method_154_code, exceptionTable := #[], attributes := #[] }
def k7m8 : Method := { name := "isLatin1", desc := "()Z", sig := { parameters := [], returnType := some .boolean }, accessFlags := 0, code := some k7c8 }
def k7c9 : Code := { maxStack := 3, maxLocals := 2, code := jdk_42_method_155_code, exceptionTable := #[], attributes := #[] }
def k7m9 : Method := { name := "checkIndex", desc := "(II)V", sig := { parameters := [.int, .int], returnType := none }, accessFlags := 8, code := some k7c9 }
def k7c10 : Code := { maxStack := 4, maxLocals := 3, code := jdk_42_method_158_code, exceptionTable := #[], attributes := #[] }
def k7m10 : Method := { name := "checkBoundsBeginEnd", desc := "(III)V", sig := { parameters := [.int, .int, .int], returnType := none }, accessFlags := 8, code := some k7c10 }
/-- java/lang/String -/
def k7 : Class := { plain "java/lang/String" (some 0) with
  accessFlags := 49
  interfaces := #[2, 3, 4, 5, 6]
  cf := some (fileOf pool7 10 #[.nestMembers #[1103]] #[{ accessFlags := 1, nameIndex := 5, descriptorIndex := 6, attributes := #[] }, { accessFlags := 1, nameIndex := 5, descriptorIndex := 1010, attributes := #[] }, { accessFlags := 1, nameIndex := 507, descriptorIndex := 334, attributes := #[] }, { accessFlags := 1, nameIndex := 497, descriptorIndex := 427, attributes := #[] }, { accessFlags := 1, nameIndex := 683, descriptorIndex := 684, attributes := #[] }, { accessFlags := 2, nameIndex := 5, descriptorIndex := 29, attributes := #[] }, { accessFlags := 0, nameIndex := 5, descriptorIndex := 211, attributes := #[] }, { accessFlags := 0, nameIndex := 17, descriptorIndex := 337, attributes := #[] }, { accessFlags := 0, nameIndex := 494, descriptorIndex := 142, attributes := #[] }, { accessFlags := 8, nameIndex := 501, descriptorIndex := 391, attributes := #[] }, { accessFlags := 8, nameIndex := 523, descriptorIndex := 524, attributes := #[] }] 49 2 #[1106, 1108, 575, 1110, 1112] #[{ accessFlags := 18, nameIndex := 13, descriptorIndex := 14, attributes := #[] }, { accessFlags := 18, nameIndex := 17, descriptorIndex := 18, attributes := #[] }, { accessFlags := 2, nameIndex := 21, descriptorIndex := 22, attributes := #[] }, { accessFlags := 2, nameIndex := 25, descriptorIndex := 26, attributes := #[] }, { accessFlags := 26, nameIndex := 1116, descriptorIndex := 1117, attributes := #[] }, { accessFlags := 24, nameIndex := 40, descriptorIndex := 26, attributes := #[] }, { accessFlags := 26, nameIndex := 1101, descriptorIndex := 1102, attributes := #[] }, { accessFlags := 26, nameIndex := 1121, descriptorIndex := 1122, attributes := #[] }, { accessFlags := 25, nameIndex := 599, descriptorIndex := 600, attributes := #[] }, { accessFlags := 24, nameIndex := 1125, descriptorIndex := 18, attributes := #[] }, { accessFlags := 24, nameIndex := 1127, descriptorIndex := 18, attributes := #[] }])
  fields := #[{ name := "value", type := (.array .byte), accessFlags := 18, slot := 0, constantValue := 0 }, { name := "coder", type := .byte, accessFlags := 18, slot := 1, constantValue := 0 }, { name := "hash", type := .int, accessFlags := 2, slot := 2, constantValue := 0 }, { name := "hashIsZero", type := .boolean, accessFlags := 2, slot := 3, constantValue := 0 }, { name := "serialVersionUID", type := .long, accessFlags := 26, slot := 0, constantValue := 0 }, { name := "COMPACT_STRINGS", type := .boolean, accessFlags := 24, slot := 1, constantValue := 0 }, { name := "serialPersistentFields", type := (.array (.object "java/io/ObjectStreamField")), accessFlags := 26, slot := 2, constantValue := 0 }, { name := "REPL", type := .char, accessFlags := 26, slot := 3, constantValue := 0 }, { name := "CASE_INSENSITIVE_ORDER", type := (.object "java/util/Comparator"), accessFlags := 25, slot := 4, constantValue := 0 }, { name := "LATIN1", type := .byte, accessFlags := 24, slot := 5, constantValue := 0 }, { name := "UTF16", type := .byte, accessFlags := 24, slot := 6, constantValue := 0 }]
  methods := #[k7m0, k7m1, k7m2, k7m3, k7m4, k7m5, k7m6, k7m7, k7m8, k7m9, k7m10]
  instanceTypes := #[(.array .byte), .byte, .int, .boolean]
  staticTypes := #[.long, .boolean, (.array (.object "java/io/ObjectStreamField")), .char, (.object "java/util/Comparator"), .byte, .byte]
  resolved := Array.replicate 1451 none
  statics := some 0 }

def pool8 : Array CpInfo := pool [(2, .class_ 4), (1, u "java/lang/Object"), (0, u "<init>"), (0, u "()V"), (0, .class_ 8), (0, u "java/lang/Record")] 13

def k8m0 : Method := { name := "<init>", desc := "()V", sig := { parameters := [], returnType := none }, accessFlags := 4, code := none }
/-- java/lang/Record -/
def k8 : Class := { plain "java/lang/Record" (some 0) with
  accessFlags := 1057
  interfaces := #[]
  cf := some (fileOf pool8 7 #[] #[{ accessFlags := 4, nameIndex := 5, descriptorIndex := 6, attributes := #[] }] 1057 2 #[] #[])
  fields := #[]
  methods := #[k8m0]
  instanceTypes := #[]
  staticTypes := #[]
  resolved := Array.replicate 22 none
  statics := none }

def pool9 : Array CpInfo := pool [(2, .class_ 4), (1, u "java/lang/Record"), (3, .class_ 10), (1, u "com/example/concurrency_quota/concurrencyquota/ServiceRequest"), (0, u "method"), (0, u "Ljava/lang/String;"), (2, u "path"), (2, u "query"), (2, u "headers"), (0, u "Ljava/util/Map;"), (2, u "body"), (0, u "[B"), (37, .class_ 65), (0, u "java/lang/String"), (8, u "trimWhitespace"), (0, u "(Ljava/lang/String;)Ljava/lang/String;"), (14, .methodref 64 91), (0, .nameAndType 92 93), (0, u "length"), (0, u "()I"), (0, .methodref 64 95), (0, .nameAndType 96 97), (0, u "charAt"), (0, u "(I)C"), (0, .methodref 64 99), (0, .nameAndType 100 101), (0, u "substring"), (0, u "(II)Ljava/lang/String;")] 53

def k9c0 : Code := { maxStack := 3, maxLocals := 3, code := prog_14_method_5_code, exceptionTable := #[], attributes := #[] }
def k9m0 : Method := { name := "trimWhitespace", desc := "(Ljava/lang/String;)Ljava/lang/String;", sig := { parameters := [(.object "java/lang/String")], returnType := some (.object "java/lang/String") }, accessFlags := 8, code := some k9c0 }
/-- com/example/concurrency_quota/concurrencyquota/ServiceRequest -/
def k9 : Class := { plain "com/example/concurrency_quota/concurrencyquota/ServiceRequest" (some 8) with
  accessFlags := 48
  interfaces := #[]
  cf := some (fileOf pool9 8 #[] #[{ accessFlags := 8, nameIndex := 74, descriptorIndex := 75, attributes := #[] }] 48 2 #[] #[{ accessFlags := 18, nameIndex := 11, descriptorIndex := 12, attributes := #[] }, { accessFlags := 18, nameIndex := 15, descriptorIndex := 12, attributes := #[] }, { accessFlags := 18, nameIndex := 18, descriptorIndex := 12, attributes := #[] }, { accessFlags := 18, nameIndex := 21, descriptorIndex := 22, attributes := #[] }, { accessFlags := 18, nameIndex := 25, descriptorIndex := 26, attributes := #[] }])
  fields := #[{ name := "method", type := (.object "java/lang/String"), accessFlags := 18, slot := 0, constantValue := 0 }, { name := "path", type := (.object "java/lang/String"), accessFlags := 18, slot := 1, constantValue := 0 }, { name := "query", type := (.object "java/lang/String"), accessFlags := 18, slot := 2, constantValue := 0 }, { name := "headers", type := (.object "java/util/Map"), accessFlags := 18, slot := 3, constantValue := 0 }, { name := "body", type := (.array .byte), accessFlags := 18, slot := 4, constantValue := 0 }]
  methods := #[k9m0]
  instanceTypes := #[(.object "java/lang/String"), (.object "java/lang/String"), (.object "java/lang/String"), (.object "java/util/Map"), (.array .byte)]
  staticTypes := #[]
  resolved := Array.replicate 155 none
  statics := none }

def pool10 : Array CpInfo := pool [(2, .class_ 4), (1, u "java/lang/Object"), (0, u "<init>"), (0, u "()V"), (17, .class_ 26), (1, u "jdk/internal/util/Preconditions"), (6, u "checkIndex"), (13, u "checkFromToIndex"), (7, .class_ 56), (0, u "jdk/internal/util/Preconditions$4"), (57, .class_ 115), (0, u "jdk/internal/util/Preconditions$1"), (7, u "SIOOBE_FORMATTER"), (0, u "Ljava/util/function/BiFunction;"), (0, .class_ 126), (0, u "jdk/internal/util/Preconditions$2"), (3, u "AIOOBE_FORMATTER"), (0, .class_ 132), (0, u "jdk/internal/util/Preconditions$3"), (3, u "IOOBE_FORMATTER"), (41, u "(IILjava/util/function/BiFunction;)I"), (4, u "(IIILjava/util/function/BiFunction;)I")] 10

def k10m0 : Method := { name := "<init>", desc := "()V", sig := { parameters := [], returnType := none }, accessFlags := 1, code := none }
def k10c1 : Code := { maxStack := 3, maxLocals := 3, code := jdk_41_method_11_code, exceptionTable := #[], attributes := #[] }
def k10m1 : Method := { name := "checkIndex", desc := "(IILjava/util/function/BiFunction;)I", sig := { parameters := [.int, .int, (.object "java/util/function/BiFunction")], returnType := some .int }, accessFlags := 9, code := some k10c1 }
def k10c2 : Code := { maxStack := 4, maxLocals := 4, code := jdk_41_method_12_code, exceptionTable := #[], attributes := #[] }
def k10m2 : Method := { name := "checkFromToIndex", desc := "(IIILjava/util/function/BiFunction;)I", sig := { parameters := [.int, .int, .int, (.object "java/util/function/BiFunction")], returnType := some .int }, accessFlags := 9, code := some k10c2 }
/-- jdk/internal/util/Preconditions -/
def k10 : Class := { plain "jdk/internal/util/Preconditions" (some 0) with
  accessFlags := 33
  interfaces := #[]
  cf := some (fileOf pool10 24 #[.nestMembers #[55, 131, 125, 114]] #[{ accessFlags := 1, nameIndex := 5, descriptorIndex := 6, attributes := #[] }, { accessFlags := 9, nameIndex := 33, descriptorIndex := 178, attributes := #[] }, { accessFlags := 9, nameIndex := 47, descriptorIndex := 183, attributes := #[] }] 33 2 #[] #[{ accessFlags := 25, nameIndex := 123, descriptorIndex := 124, attributes := #[] }, { accessFlags := 25, nameIndex := 130, descriptorIndex := 124, attributes := #[] }, { accessFlags := 25, nameIndex := 136, descriptorIndex := 124, attributes := #[] }])
  fields := #[{ name := "SIOOBE_FORMATTER", type := (.object "java/util/function/BiFunction"), accessFlags := 25, slot := 0, constantValue := 0 }, { name := "AIOOBE_FORMATTER", type := (.object "java/util/function/BiFunction"), accessFlags := 25, slot := 1, constantValue := 0 }, { name := "IOOBE_FORMATTER", type := (.object "java/util/function/BiFunction"), accessFlags := 25, slot := 2, constantValue := 0 }]
  methods := #[k10m0, k10m1, k10m2]
  instanceTypes := #[]
  staticTypes := #[(.object "java/util/function/BiFunction"), (.object "java/util/function/BiFunction"), (.object "java/util/function/BiFunction")]
  resolved := Array.replicate 194 none
  statics := some 1 }

def pool11 : Array CpInfo := pool [(6, .class_ 8), (1, u "java/lang/Object"), (0, u "<init>"), (0, u "()V"), (1, .class_ 14), (1, u "java/lang/StringUTF16"), (31, u "$assertionsDisabled"), (0, u "Z"), (13, u "HI_BYTE_SHIFT"), (0, u "I"), (2, u "LO_BYTE_SHIFT"), (49, .methodref 12 116), (0, .nameAndType 117 118), (0, u "compress"), (0, u "([CI[BII)I"), (3, u "([CII)[B"), (138, u "coderFromArrayLen"), (0, u "([BI)B"), (106, .class_ 371), (1, u "java/lang/StringUTF16$LinesSpliterator"), (58, u "MAX_LENGTH"), (196, .class_ 628), (0, u "java/lang/StringUTF16$CodePointsSpliterator"), (0, .class_ 630), (0, u "java/lang/StringUTF16$CharsSpliterator")] 4

def k11m0 : Method := { name := "<init>", desc := "()V", sig := { parameters := [], returnType := none }, accessFlags := 0, code := none }
def k11c1 : Code := { maxStack := 2, maxLocals := 2, code := jdk_52_method_15_code, exceptionTable := #[], attributes := #[] }
def k11m1 : Method := { name := "coderFromArrayLen", desc := "([BI)B", sig := { parameters := [(.array .byte), .int], returnType := some .byte }, accessFlags := 8, code := some k11c1 }
def k11c2 : Code := { maxStack := 5, maxLocals := 6, code := jdk_52_method_16_code, exceptionTable := #[], attributes := #[] }
def k11m2 : Method := { name := "compress", desc := "([CII)[B", sig := { parameters := [(.array .char), .int, .int], returnType := some (.array .byte) }, accessFlags := 9, code := some k11c2 }
def k11c3 : Code := { maxStack := 3, maxLocals := 7, code := jdk_52_method_21_code, exceptionTable := #[], attributes := #[] }
def k11m3 : Method := { name := "compress", desc := "([CI[BII)I", sig := { parameters := [(.array .char), .int, (.array .byte), .int, .int], returnType := some .int }, accessFlags := 9, code := some k11c3 }
/-- java/lang/StringUTF16 -/
def k11 : Class := { plain "java/lang/StringUTF16" (some 0) with
  accessFlags := 48
  interfaces := #[]
  cf := some (fileOf pool11 12 #[.nestMembers #[627, 629, 369]] #[{ accessFlags := 0, nameIndex := 9, descriptorIndex := 10, attributes := #[] }, { accessFlags := 8, nameIndex := 261, descriptorIndex := 262, attributes := #[] }, { accessFlags := 9, nameIndex := 117, descriptorIndex := 122, attributes := #[] }, { accessFlags := 9, nameIndex := 117, descriptorIndex := 118, attributes := #[] }] 48 6 #[] #[{ accessFlags := 26, nameIndex := 61, descriptorIndex := 62, attributes := #[] }, { accessFlags := 26, nameIndex := 65, descriptorIndex := 62, attributes := #[] }, { accessFlags := 24, nameIndex := 430, descriptorIndex := 62, attributes := #[] }, { accessFlags := 4120, nameIndex := 46, descriptorIndex := 47, attributes := #[] }])
  fields := #[{ name := "HI_BYTE_SHIFT", type := .int, accessFlags := 26, slot := 0, constantValue := 0 }, { name := "LO_BYTE_SHIFT", type := .int, accessFlags := 26, slot := 1, constantValue := 0 }, { name := "MAX_LENGTH", type := .int, accessFlags := 24, slot := 2, constantValue := 0 }, { name := "$assertionsDisabled", type := .boolean, accessFlags := 4120, slot := 3, constantValue := 0 }]
  methods := #[k11m0, k11m1, k11m2, k11m3]
  instanceTypes := #[]
  staticTypes := #[.int, .int, .int, .boolean]
  resolved := Array.replicate 635 none
  statics := none }

def pool12 : Array CpInfo := pool [(1, .class_ 2), (0, u "java/lang/String"), (1, .class_ 6), (1, u "java/lang/Object"), (0, u "<init>"), (0, u "()V"), (0, .methodref 1 10), (0, .nameAndType 11 12), (0, u "checkIndex"), (0, u "(II)V"), (1, .class_ 16), (1, u "java/lang/StringLatin1"), (36, u "([BI)C"), (58, .methodref 1 113), (0, .nameAndType 7 114), (0, u "([BB)V"), (6, u "$assertionsDisabled"), (0, u "Z"), (8, .class_ 133), (1, u "java/util/Arrays"), (17, .string 152), (0, u ""), (43, u "newString"), (0, u "([BII)Ljava/lang/String;"), (23, .class_ 223), (1, u "java/lang/StringLatin1$LinesSpliterator"), (8, .methodref 131 233), (0, .nameAndType 234 235), (0, u "copyOfRange"), (0, u "([BII)[B"), (16, u "charAt"), (137, .class_ 391), (0, u "java/lang/StringLatin1$CharsSpliterator")] 3

def k12m0 : Method := { name := "<init>", desc := "()V", sig := { parameters := [], returnType := none }, accessFlags := 0, code := none }
def k12c1 : Code := { maxStack := 2, maxLocals := 2, code := jdk_43_method_2_code, exceptionTable := #[], attributes := #[] }
def k12m1 : Method := { name := "charAt", desc := "([BI)C", sig := { parameters := [(.array .byte), .int], returnType := some .char }, accessFlags := 9, code := some k12c1 }
def k12c2 : Code := { maxStack := 6, maxLocals := 3, code := jdk_43_method_47_code, exceptionTable := #[], attributes := #[] }
def k12m2 : Method := { name := "newString", desc := "([BII)Ljava/lang/String;", sig := { parameters := [(.array .byte), .int, .int], returnType := some (.object "java/lang/String") }, accessFlags := 9, code := some k12c2 }
/-- java/lang/StringLatin1 -/
def k12 : Class := { plain "java/lang/StringLatin1" (some 0) with
  accessFlags := 48
  interfaces := #[]
  cf := some (fileOf pool12 14 #[.nestMembers #[390, 221]] #[{ accessFlags := 0, nameIndex := 7, descriptorIndex := 8, attributes := #[] }, { accessFlags := 9, nameIndex := 252, descriptorIndex := 53, attributes := #[] }, { accessFlags := 9, nameIndex := 196, descriptorIndex := 197, attributes := #[] }] 48 4 #[] #[{ accessFlags := 4120, nameIndex := 121, descriptorIndex := 122, attributes := #[] }])
  fields := #[{ name := "$assertionsDisabled", type := .boolean, accessFlags := 4120, slot := 0, constantValue := 0 }]
  methods := #[k12m0, k12m1, k12m2]
  instanceTypes := #[]
  staticTypes := #[.boolean]
  resolved := Array.replicate 395 none
  statics := none }

def pool13 : Array CpInfo := pool [(2, .class_ 4), (1, u "java/lang/Object"), (0, u "<init>"), (0, u "()V"), (7, .class_ 16), (1, u "java/util/Arrays"), (57, .class_ 76), (1, u "java/util/Arrays$NaturalOrder"), (36, .class_ 115), (1, u "java/util/Arrays$LegacyMergeSort"), (1, u "Z"), (21, u "copyOfRange"), (10, .methodref 151 152), (0, .class_ 153), (0, .nameAndType 154 155), (0, u "java/lang/System"), (0, u "arraycopy"), (0, u "(Ljava/lang/Object;ILjava/lang/Object;II)V"), (148, .methodref 305 306), (0, .class_ 307), (0, .nameAndType 308 309), (0, u "java/lang/Math"), (0, u "min"), (0, u "(II)I"), (29, .methodref 14 340), (0, .nameAndType 341 342), (0, u "copyOfRangeByte"), (0, u "([BII)[B"), (0, .methodref 14 344), (0, .nameAndType 345 346), (0, u "checkLength"), (0, u "(II)V"), (28, .class_ 376), (0, u "java/util/Arrays$ArrayList"), (68, u "$assertionsDisabled"), (269, u "MIN_ARRAY_SORT_GRAN"), (0, u "I"), (2, u "INSERTIONSORT_THRESHOLD"), (255, .class_ 976), (0, u "java/util/Arrays$ArrayItr")] 52

def k13m0 : Method := { name := "<init>", desc := "()V", sig := { parameters := [], returnType := none }, accessFlags := 2, code := none }
def k13c1 : Code := { maxStack := 4, maxLocals := 2, code := jdk_65_method_131_code, exceptionTable := #[], attributes := #[] }
def k13m1 : Method := { name := "checkLength", desc := "(II)V", sig := { parameters := [.int, .int], returnType := none }, accessFlags := 10, code := some k13c1 }
def k13c2 : Code := { maxStack := 3, maxLocals := 3, code := jdk_65_method_132_code, exceptionTable := #[], attributes := #[] }
def k13m2 : Method := { name := "copyOfRange", desc := "([BII)[B", sig := { parameters := [(.array .byte), .int, .int], returnType := some (.array .byte) }, accessFlags := 9, code := some k13c2 }
def k13c3 : Code := { maxStack := 6, maxLocals := 5, code := jdk_65_method_133_code, exceptionTable := #[], attributes := #[] }
def k13m3 : Method := { name := "copyOfRangeByte", desc := "([BII)[B", sig := { parameters := [(.array .byte), .int, .int], returnType := some (.array .byte) }, accessFlags := 10, code := some k13c3 }
/-- java/util/Arrays -/
def k13 : Class := { plain "java/util/Arrays" (some 0) with
  accessFlags := 49
  interfaces := #[]
  cf := some (fileOf pool13 14 #[.nestMembers #[975, 375, 113, 74]] #[{ accessFlags := 2, nameIndex := 5, descriptorIndex := 6, attributes := #[] }, { accessFlags := 10, nameIndex := 345, descriptorIndex := 346, attributes := #[] }, { accessFlags := 9, nameIndex := 139, descriptorIndex := 342, attributes := #[] }, { accessFlags := 10, nameIndex := 341, descriptorIndex := 342, attributes := #[] }] 49 2 #[] #[{ accessFlags := 26, nameIndex := 715, descriptorIndex := 716, attributes := #[] }, { accessFlags := 26, nameIndex := 719, descriptorIndex := 716, attributes := #[] }, { accessFlags := 4120, nameIndex := 445, descriptorIndex := 117, attributes := #[] }])
  fields := #[{ name := "MIN_ARRAY_SORT_GRAN", type := .int, accessFlags := 26, slot := 0, constantValue := 0 }, { name := "INSERTIONSORT_THRESHOLD", type := .int, accessFlags := 26, slot := 1, constantValue := 0 }, { name := "$assertionsDisabled", type := .boolean, accessFlags := 4120, slot := 2, constantValue := 0 }]
  methods := #[k13m0, k13m1, k13m2, k13m3]
  instanceTypes := #[]
  staticTypes := #[.int, .int, .boolean]
  resolved := Array.replicate 1029 none
  statics := none }

def pool14 : Array CpInfo := pool [(1, .class_ 2), (0, u "java/lang/Math"), (1, .class_ 6), (1, u "java/lang/Object"), (0, u "<init>"), (0, u "()V"), (89, .class_ 100), (1, u "java/lang/Math$RandomNumberGeneratorHolder"), (71, u "negativeZeroFloatBits"), (0, u "J"), (2, u "negativeZeroDoubleBits"), (24, u "min"), (43, u "$assertionsDisabled"), (0, u "Z"), (88, u "(II)I"), (2, u "twoToTheDoubleScaleDown"), (0, u "D"), (4, u "twoToTheDoubleScaleUp"), (9, u "E"), (3, u "PI"), (2, u "TAU"), (2, u "DEGREES_TO_RADIANS"), (0, u "RADIANS_TO_DEGREES")] 94

def k14m0 : Method := { name := "<init>", desc := "()V", sig := { parameters := [], returnType := none }, accessFlags := 2, code := none }
def k14c1 : Code := { maxStack := 2, maxLocals := 2, code := jdk_29_method_69_code, exceptionTable := #[], attributes := #[] }
def k14m1 : Method := { name := "min", desc := "(II)I", sig := { parameters := [.int, .int], returnType := some .int }, accessFlags := 9, code := some k14c1 }
/-- java/lang/Math -/
def k14 : Class := { plain "java/lang/Math" (some 0) with
  accessFlags := 49
  interfaces := #[]
  cf := some (fileOf pool14 1 #[.nestMembers #[98]] #[{ accessFlags := 2, nameIndex := 7, descriptorIndex := 8, attributes := #[] }, { accessFlags := 9, nameIndex := 201, descriptorIndex := 335, attributes := #[] }] 49 4 #[] #[{ accessFlags := 25, nameIndex := 354, descriptorIndex := 339, attributes := #[] }, { accessFlags := 25, nameIndex := 358, descriptorIndex := 339, attributes := #[] }, { accessFlags := 25, nameIndex := 361, descriptorIndex := 339, attributes := #[] }, { accessFlags := 26, nameIndex := 364, descriptorIndex := 339, attributes := #[] }, { accessFlags := 26, nameIndex := 365, descriptorIndex := 339, attributes := #[] }, { accessFlags := 26, nameIndex := 172, descriptorIndex := 173, attributes := #[] }, { accessFlags := 26, nameIndex := 176, descriptorIndex := 173, attributes := #[] }, { accessFlags := 8, nameIndex := 344, descriptorIndex := 339, attributes := #[] }, { accessFlags := 8, nameIndex := 338, descriptorIndex := 339, attributes := #[] }, { accessFlags := 4120, nameIndex := 245, descriptorIndex := 246, attributes := #[] }])
  fields := #[{ name := "E", type := .double, accessFlags := 25, slot := 0, constantValue := 0 }, { name := "PI", type := .double, accessFlags := 25, slot := 1, constantValue := 0 }, { name := "TAU", type := .double, accessFlags := 25, slot := 2, constantValue := 0 }, { name := "DEGREES_TO_RADIANS", type := .double, accessFlags := 26, slot := 3, constantValue := 0 }, { name := "RADIANS_TO_DEGREES", type := .double, accessFlags := 26, slot := 4, constantValue := 0 }, { name := "negativeZeroFloatBits", type := .long, accessFlags := 26, slot := 5, constantValue := 0 }, { name := "negativeZeroDoubleBits", type := .long, accessFlags := 26, slot := 6, constantValue := 0 }, { name := "twoToTheDoubleScaleUp", type := .double, accessFlags := 8, slot := 7, constantValue := 0 }, { name := "twoToTheDoubleScaleDown", type := .double, accessFlags := 8, slot := 8, constantValue := 0 }, { name := "$assertionsDisabled", type := .boolean, accessFlags := 4120, slot := 9, constantValue := 0 }]
  methods := #[k14m0, k14m1]
  instanceTypes := #[]
  staticTypes := #[.double, .double, .double, .double, .double, .long, .long, .double, .double, .boolean]
  resolved := Array.replicate 460 none
  statics := none }

def pool15 : Array CpInfo := pool [(2, .class_ 4), (1, u "java/lang/Object"), (0, u "<init>"), (0, u "()V"), (1, .class_ 10), (1, u "java/lang/System"), (0, u "allowSecurityManager"), (0, u "I"), (16, u "cons"), (0, u "Ljava/io/Console;"), (77, .class_ 110), (1, u "java/lang/System$CallersHolder"), (43, u "initialErrStream"), (0, u "Ljava/io/PrintStream;"), (19, u "security"), (0, u "Ljava/lang/SecurityManager;"), (31, .class_ 209), (0, u "java/lang/System$1"), (7, u "props"), (0, u "Ljava/util/Properties;"), (2, u "lineSeparator"), (0, u "Ljava/lang/String;"), (96, .class_ 321), (1, u "java/lang/System$LoggerFinder"), (5, .class_ 328), (0, u "java/lang/System$Logger"), (67, u "err"), (2, u "out"), (91, u "notSupportedJnuEncoding"), (15, u "in"), (17, u "initialIn"), (0, u "Ljava/io/InputStream;"), (35, u "bootLayer"), (0, u "Ljava/lang/ModuleLayer;"), (99, .class_ 664), (0, u "java/lang/System$2"), (9, u "NEVER"), (2, u "MAYBE"), (49, u "arraycopy"), (0, u "(Ljava/lang/Object;ILjava/lang/Object;II)V"), (72, .class_ 802), (0, u "java/lang/System$Logger$Level")] 31

def k15m0 : Method := { name := "<init>", desc := "()V", sig := { parameters := [], returnType := none }, accessFlags := 2, code := none }
def k15m1 : Method := { name := "arraycopy", desc := "(Ljava/lang/Object;ILjava/lang/Object;II)V", sig := { parameters := [(.object "java/lang/Object"), .int, (.object "java/lang/Object"), .int, .int], returnType := none }, accessFlags := 265, code := none }
/-- java/lang/System -/
def k15 : Class := { plain "java/lang/System" (some 0) with
  accessFlags := 49
  interfaces := #[]
  cf := some (fileOf pool15 8 #[.nestMembers #[319, 327, 801, 108, 663, 208]] #[{ accessFlags := 2, nameIndex := 5, descriptorIndex := 6, attributes := #[] }, { accessFlags := 265, nameIndex := 727, descriptorIndex := 728, attributes := #[] }] 49 2 #[] #[{ accessFlags := 25, nameIndex := 507, descriptorIndex := 526, attributes := #[] }, { accessFlags := 25, nameIndex := 399, descriptorIndex := 155, attributes := #[] }, { accessFlags := 25, nameIndex := 396, descriptorIndex := 155, attributes := #[] }, { accessFlags := 10, nameIndex := 525, descriptorIndex := 526, attributes := #[] }, { accessFlags := 26, nameIndex := 674, descriptorIndex := 12, attributes := #[] }, { accessFlags := 26, nameIndex := 677, descriptorIndex := 12, attributes := #[] }, { accessFlags := 10, nameIndex := 11, descriptorIndex := 12, attributes := #[] }, { accessFlags := 74, nameIndex := 175, descriptorIndex := 176, attributes := #[] }, { accessFlags := 10, nameIndex := 491, descriptorIndex := 222, attributes := #[] }, { accessFlags := 74, nameIndex := 29, descriptorIndex := 30, attributes := #[] }, { accessFlags := 74, nameIndex := 154, descriptorIndex := 155, attributes := #[] }, { accessFlags := 10, nameIndex := 217, descriptorIndex := 218, attributes := #[] }, { accessFlags := 10, nameIndex := 221, descriptorIndex := 222, attributes := #[] }, { accessFlags := 8, nameIndex := 562, descriptorIndex := 563, attributes := #[] }])
  fields := #[{ name := "in", type := (.object "java/io/InputStream"), accessFlags := 25, slot := 0, constantValue := 0 }, { name := "out", type := (.object "java/io/PrintStream"), accessFlags := 25, slot := 1, constantValue := 0 }, { name := "err", type := (.object "java/io/PrintStream"), accessFlags := 25, slot := 2, constantValue := 0 }, { name := "initialIn", type := (.object "java/io/InputStream"), accessFlags := 10, slot := 3, constantValue := 0 }, { name := "NEVER", type := .int, accessFlags := 26, slot := 4, constantValue := 0 }, { name := "MAYBE", type := .int, accessFlags := 26, slot := 5, constantValue := 0 }, { name := "allowSecurityManager", type := .int, accessFlags := 10, slot := 6, constantValue := 0 }, { name := "security", type := (.object "java/lang/SecurityManager"), accessFlags := 74, slot := 7, constantValue := 0 }, { name := "notSupportedJnuEncoding", type := (.object "java/lang/String"), accessFlags := 10, slot := 8, constantValue := 0 }, { name := "cons", type := (.object "java/io/Console"), accessFlags := 74, slot := 9, constantValue := 0 }, { name := "initialErrStream", type := (.object "java/io/PrintStream"), accessFlags := 74, slot := 10, constantValue := 0 }, { name := "props", type := (.object "java/util/Properties"), accessFlags := 10, slot := 11, constantValue := 0 }, { name := "lineSeparator", type := (.object "java/lang/String"), accessFlags := 10, slot := 12, constantValue := 0 }, { name := "bootLayer", type := (.object "java/lang/ModuleLayer"), accessFlags := 8, slot := 13, constantValue := 0 }]
  methods := #[k15m0, k15m1]
  instanceTypes := #[]
  staticTypes := #[(.object "java/io/InputStream"), (.object "java/io/PrintStream"), (.object "java/io/PrintStream"), (.object "java/io/InputStream"), .int, .int, .int, (.object "java/lang/SecurityManager"), (.object "java/lang/String"), (.object "java/io/Console"), (.object "java/io/PrintStream"), (.object "java/util/Properties"), (.object "java/lang/String"), (.object "java/lang/ModuleLayer")]
  resolved := Array.replicate 834 none
  statics := none }

def pool16 : Array CpInfo := pool [(9, u "<init>"), (6, .class_ 18), (1, u "java/lang/Object"), (0, u "()V"), (1, .class_ 23), (1, u "jdk/internal/util/ArraysSupport"), (0, u "LOG2_ARRAY_LONG_INDEX_SCALE"), (0, u "I"), (2, u "U"), (0, u "Ljdk/internal/misc/Unsafe;"), (8, u "BIG_ENDIAN"), (0, u "Z"), (8, u "LOG2_BYTE_BIT_SIZE"), (4, u "LOG2_ARRAY_INT_INDEX_SCALE"), (54, u "JLA"), (0, u "Ljdk/internal/access/JavaLangAccess;"), (11, u "LOG2_ARRAY_BOOLEAN_INDEX_SCALE"), (9, u "LOG2_ARRAY_BYTE_INDEX_SCALE"), (5, u "LOG2_ARRAY_CHAR_INDEX_SCALE"), (5, u "LOG2_ARRAY_SHORT_INDEX_SCALE"), (18, u "LOG2_ARRAY_FLOAT_INDEX_SCALE"), (24, u "LOG2_ARRAY_DOUBLE_INDEX_SCALE"), (89, u "T_BOOLEAN"), (2, u "T_CHAR"), (1, u "T_FLOAT"), (1, u "T_DOUBLE"), (1, u "T_BYTE"), (1, u "T_SHORT"), (1, u "T_INT"), (1, u "T_LONG"), (1, u "SOFT_MAX_ARRAY_LENGTH")] 83

def k16m0 : Method := { name := "<init>", desc := "()V", sig := { parameters := [], returnType := none }, accessFlags := 2, code := none }
/-- jdk/internal/util/ArraysSupport -/
def k16 : Class := { plain "jdk/internal/util/ArraysSupport" (some 0) with
  accessFlags := 33
  interfaces := #[]
  cf := some (fileOf pool16 21 #[] #[{ accessFlags := 2, nameIndex := 9, descriptorIndex := 19, attributes := #[] }] 33 16 #[] #[{ accessFlags := 24, nameIndex := 28, descriptorIndex := 29, attributes := #[] }, { accessFlags := 26, nameIndex := 38, descriptorIndex := 39, attributes := #[] }, { accessFlags := 25, nameIndex := 121, descriptorIndex := 25, attributes := #[] }, { accessFlags := 25, nameIndex := 131, descriptorIndex := 25, attributes := #[] }, { accessFlags := 25, nameIndex := 137, descriptorIndex := 25, attributes := #[] }, { accessFlags := 25, nameIndex := 143, descriptorIndex := 25, attributes := #[] }, { accessFlags := 25, nameIndex := 53, descriptorIndex := 25, attributes := #[] }, { accessFlags := 25, nameIndex := 24, descriptorIndex := 25, attributes := #[] }, { accessFlags := 25, nameIndex := 162, descriptorIndex := 25, attributes := #[] }, { accessFlags := 25, nameIndex := 187, descriptorIndex := 25, attributes := #[] }, { accessFlags := 26, nameIndex := 48, descriptorIndex := 25, attributes := #[] }, { accessFlags := 25, nameIndex := 277, descriptorIndex := 25, attributes := #[] }, { accessFlags := 25, nameIndex := 280, descriptorIndex := 25, attributes := #[] }, { accessFlags := 25, nameIndex := 282, descriptorIndex := 25, attributes := #[] }, { accessFlags := 25, nameIndex := 284, descriptorIndex := 25, attributes := #[] }, { accessFlags := 25, nameIndex := 286, descriptorIndex := 25, attributes := #[] }, { accessFlags := 25, nameIndex := 288, descriptorIndex := 25, attributes := #[] }, { accessFlags := 25, nameIndex := 290, descriptorIndex := 25, attributes := #[] }, { accessFlags := 25, nameIndex := 292, descriptorIndex := 25, attributes := #[] }, { accessFlags := 26, nameIndex := 108, descriptorIndex := 109, attributes := #[] }, { accessFlags := 25, nameIndex := 294, descriptorIndex := 25, attributes := #[] }])
  fields := #[{ name := "U", type := (.object "jdk/internal/misc/Unsafe"), accessFlags := 24, slot := 0, constantValue := 0 }, { name := "BIG_ENDIAN", type := .boolean, accessFlags := 26, slot := 1, constantValue := 0 }, { name := "LOG2_ARRAY_BOOLEAN_INDEX_SCALE", type := .int, accessFlags := 25, slot := 2, constantValue := 0 }, { name := "LOG2_ARRAY_BYTE_INDEX_SCALE", type := .int, accessFlags := 25, slot := 3, constantValue := 0 }, { name := "LOG2_ARRAY_CHAR_INDEX_SCALE", type := .int, accessFlags := 25, slot := 4, constantValue := 0 }, { name := "LOG2_ARRAY_SHORT_INDEX_SCALE", type := .int, accessFlags := 25, slot := 5, constantValue := 0 }, { name := "LOG2_ARRAY_INT_INDEX_SCALE", type := .int, accessFlags := 25, slot := 6, constantValue := 0 }, { name := "LOG2_ARRAY_LONG_INDEX_SCALE", type := .int, accessFlags := 25, slot := 7, constantValue := 0 }, { name := "LOG2_ARRAY_FLOAT_INDEX_SCALE", type := .int, accessFlags := 25, slot := 8, constantValue := 0 }, { name := "LOG2_ARRAY_DOUBLE_INDEX_SCALE", type := .int, accessFlags := 25, slot := 9, constantValue := 0 }, { name := "LOG2_BYTE_BIT_SIZE", type := .int, accessFlags := 26, slot := 10, constantValue := 0 }, { name := "T_BOOLEAN", type := .int, accessFlags := 25, slot := 11, constantValue := 0 }, { name := "T_CHAR", type := .int, accessFlags := 25, slot := 12, constantValue := 0 }, { name := "T_FLOAT", type := .int, accessFlags := 25, slot := 13, constantValue := 0 }, { name := "T_DOUBLE", type := .int, accessFlags := 25, slot := 14, constantValue := 0 }, { name := "T_BYTE", type := .int, accessFlags := 25, slot := 15, constantValue := 0 }, { name := "T_SHORT", type := .int, accessFlags := 25, slot := 16, constantValue := 0 }, { name := "T_INT", type := .int, accessFlags := 25, slot := 17, constantValue := 0 }, { name := "T_LONG", type := .int, accessFlags := 25, slot := 18, constantValue := 0 }, { name := "JLA", type := (.object "jdk/internal/access/JavaLangAccess"), accessFlags := 26, slot := 19, constantValue := 0 }, { name := "SOFT_MAX_ARRAY_LENGTH", type := .int, accessFlags := 25, slot := 20, constantValue := 0 }]
  methods := #[k16m0]
  instanceTypes := #[]
  staticTypes := #[(.object "jdk/internal/misc/Unsafe"), .boolean, .int, .int, .int, .int, .int, .int, .int, .int, .int, .int, .int, .int, .int, .int, .int, .int, .int, (.object "jdk/internal/access/JavaLangAccess"), .int]
  resolved := Array.replicate 378 none
  statics := none }

def pool17 : Array CpInfo := pool [(1, u "java/lang/Cloneable"), (0, .class_ 1), (0, u "java/lang/Object"), (0, .class_ 3)] 3

/-- java/lang/Cloneable -/
def k17 : Class := { plain "java/lang/Cloneable" (some 0) with
  accessFlags := 1537
  interfaces := #[]
  cf := some (fileOf pool17 2 #[] #[] 1537 4 #[] #[])
  fields := #[]
  methods := #[]
  instanceTypes := #[]
  staticTypes := #[]
  resolved := Array.replicate 8 none
  statics := none }

/-- the primitive byte -/
def k18 : Class := { plain "byte" none with kind := .primitive 'B', accessFlags := 0x411 }
/-- [B -/
def k19 : Class := { plain "[B" (some 0) with kind := .array 18 .byte, interfaces := #[17, 2], accessFlags := 1041 }

/-- the primitive char -/
def k20 : Class := { plain "char" none with kind := .primitive 'C', accessFlags := 0x411 }
/-- [C -/
def k21 : Class := { plain "[C" (some 0) with kind := .array 20 .char, interfaces := #[17, 2], accessFlags := 1041 }

/-- the primitive int -/
def k22 : Class := { plain "int" none with kind := .primitive 'I', accessFlags := 0x411 }
/-- [I -/
def k23 : Class := { plain "[I" (some 0) with kind := .array 22 .int, interfaces := #[17, 2], accessFlags := 1041 }

def heap : Heap := #[{ cls := 7, slots := #[.long 0, .int 1, .null, .int 0, .null, .int 0, .int 0], vm := .statics 7 },
  { cls := 10, slots := #[.null, .null, .null], vm := .statics 10 }]
def classes : Array Class := #[k0, k1, k2, k3, k4, k5, k6, k7, k8, k9, k10, k11, k12, k13, k14, k15, k16, k17, k18, k19, k20, k21, k22, k23]
def interned : List (Array UInt16 × Addr) := []
def slotsUsed : Nat := 10
def theMethod : MethodId := ⟨1, 6⟩
def args0 : Array Value := #[.int 7, .int 6, .int 7, .int 8, .int 9]
def aboutOver (below : List Frame) : State where
  vm := { classes := classes, interned := interned.toArray }
  heap := heap
  slotsUsed := slotsUsed
  threads := #[{ frames := .invoking theMethod args0 :: below }]
def below0 : List Frame := [.native { method := ⟨0, 0⟩, args := #[] }]
def about1 : State := aboutOver below0
def p0 : Program := .bare "" "" ""
def e0 : Env := launch0.env 0 0 0
theorem w_frames : about1.frames = Frame.invoking theMethod args0 :: below0 := rfl
set_option maxRecDepth 65536 in
theorem w_args : argsFit about1.vm theMethod args0 = true := by decide +kernel
set_option maxRecDepth 65536 in
theorem w_heap : heapFits about1 = true := by decide +kernel
set_option maxRecDepth 65536 in
theorem w_runnable : about1.curStatus? = some .runnable := by decide +kernel
set_option maxRecDepth 65536 in
theorem w_alone : about1.alone = true := by decide +kernel
set_option maxRecDepth 65536 in
theorem w_named : about1.methodNamed? x = some theMethod := by decide +kernel
set_option maxRecDepth 65536 in
theorem w_hears : about1.hears theMethod below0 = true := by decide +kernel
set_option maxRecDepth 65536 in
theorem w_ripe : about1.ripe theMethod args0 below0 = true := by decide +kernel
theorem w_running : about1.status = .running := rfl
set_option maxRecDepth 65536 in
theorem w_room : about1.hasRoom e0.platform room_1 = true :=
  launch0.hasRoom_least _ room_1 (by decide +kernel) (by decide +kernel) (by decide +kernel) (by decide +kernel) (by decide +kernel) (by decide +kernel)
theorem allAtoms_all (ts : List Jvm.Cond) (a : Array Jvm.Value) (st : Jvm.State) : (allAtoms ts).before a st = ts.all (fun c => c.before a st) := by
  induction ts with
  | nil => rfl
  | cons c t ih =>
    show (Jvm.Cond.and c (allAtoms t)).before a st = _
    rw [Jvm.Cond.before_and, ih, List.all_cons]
def words1 : List Jvm.Cond := Jvm.Cond.code x code maxLocals ret :: tables_1
/-- a 'code' word, met by the world's own term for the bytes: nothing is compared byte by byte -/
theorem code_word {y : MethodName} {bytes : ByteArray} {mx : Nat} {rt : Option FieldType} {a : Array Value} {s : State} {m : MethodId} {meth : Method} {c : Code} (h1 : s.methodNamed? y = some m) (h2 : s.vm.method? m = some meth) (h3 : meth.code = some c) (h4 : c.code = bytes)
    (h5 : (c.maxLocals == mx && c.exceptionTable.isEmpty && decide (c.maxStack ≤ mostOperands) && decide (meth.sig.returnType = rt) && !meth.locks && decide (parseMethodDescriptor y.desc = some meth.sig)) = true) : (Jvm.Cond.code y bytes mx rt).before a s = true := by
  simp only [Bool.and_eq_true, beq_iff_eq, Bool.not_eq_true', decide_eq_true_eq] at h5
  obtain ⟨⟨⟨⟨⟨g1, g2⟩, g3⟩, g4⟩, g5⟩, g6⟩ := h5
  simp [Cond.before, Cond.holds, Cond.value, h1, h2, h3, h4, g1, g2, g3, g4, g5, g6]
def isCode : Jvm.Cond → Bool
  | .code _ _ _ _ => true
  | _ => false
theorem all_split {L : List Jvm.Cond} {P : Jvm.Cond → Bool} (h1 : L.all (fun c => isCode c || P c) = true) (h2 : ∀ c ∈ L.filter isCode, P c = true) : L.all P = true := by
  refine List.all_eq_true.mpr fun c hc => ?_
  have h := List.all_eq_true.mp h1 c hc
  rcases Bool.eq_false_or_eq_true (isCode c) with hi | hi
  · exact h2 c (List.mem_filter.mpr ⟨hc, hi⟩)
  · simpa [hi] using h
set_option maxRecDepth 65536 in
theorem w_c0 : (Jvm.Cond.code x code maxLocals ret).before args0 about1 = true := code_word (m := ⟨1, 6⟩) (meth := k1m6) (c := k1c6) (by decide +kernel) rfl rfl rfl (by decide +kernel)
set_option maxRecDepth 65536 in
theorem w_c1 : (Jvm.Cond.code ({ cls := "com/example/concurrency_quota/concurrencyquota/ServiceRequestTrimWhitespacePinLaw", name := "pick", desc := "(I)C" } : Jvm.MethodName) method_2_code (2 : Nat) (Option.some Jvm.ClassFile.FieldType.char)).before args0 about1 = true := code_word (m := ⟨1, 1⟩) (meth := k1m1) (c := k1c1) (by decide +kernel) rfl rfl rfl (by decide +kernel)
set_option maxRecDepth 65536 in
theorem w_c2 : (Jvm.Cond.code ({ cls := "com/example/concurrency_quota/concurrencyquota/ServiceRequestTrimWhitespacePinLaw", name := "make", desc := "(I[C)[C" } : Jvm.MethodName) method_5_code (2 : Nat) (Option.some (Jvm.ClassFile.FieldType.array Jvm.ClassFile.FieldType.char))).before args0 about1 = true := code_word (m := ⟨1, 4⟩) (meth := k1m4) (c := k1c4) (by decide +kernel) rfl rfl rfl (by decide +kernel)
set_option maxRecDepth 65536 in
theorem w_c3 : (Jvm.Cond.code ({ cls := "java/lang/String", name := "<init>", desc := "([C)V" } : Jvm.MethodName) jdk_42_method_3_code (2 : Nat) (Option.none : Option Jvm.ClassFile.FieldType)).before args0 about1 = true := code_word (m := ⟨7, 1⟩) (meth := k7m1) (c := k7c1) (by decide +kernel) rfl rfl rfl (by decide +kernel)
set_option maxRecDepth 65536 in
theorem w_c4 : (Jvm.Cond.code ({ cls := "java/lang/String", name := "<init>", desc := "([CIILjava/lang/Void;)V" } : Jvm.MethodName) jdk_42_method_149_code (6 : Nat) (Option.none : Option Jvm.ClassFile.FieldType)).before args0 about1 = true := code_word (m := ⟨7, 5⟩) (meth := k7m5) (c := k7c5) (by decide +kernel) rfl rfl rfl (by decide +kernel)
set_option maxRecDepth 65536 in
theorem w_c5 : (Jvm.Cond.code ({ cls := "java/lang/Object", name := "<init>", desc := "()V" } : Jvm.MethodName) object_method_1_code (1 : Nat) (Option.none : Option Jvm.ClassFile.FieldType)).before args0 about1 = true := code_word (m := ⟨0, 0⟩) (meth := k0m0) (c := k0c0) (by decide +kernel) rfl rfl rfl (by decide +kernel)
set_option maxRecDepth 65536 in
theorem w_c6 : (Jvm.Cond.code ({ cls := "com/example/concurrency_quota/concurrencyquota/ServiceRequest", name := "trimWhitespace", desc := "(Ljava/lang/String;)Ljava/lang/String;" } : Jvm.MethodName) prog_14_method_5_code (3 : Nat) (Option.some (Jvm.ClassFile.FieldType.object "java/lang/String"))).before args0 about1 = true := code_word (m := ⟨9, 0⟩) (meth := k9m0) (c := k9c0) (by decide +kernel) rfl rfl rfl (by decide +kernel)
set_option maxRecDepth 65536 in
theorem w_c7 : (Jvm.Cond.code ({ cls := "java/lang/String", name := "length", desc := "()I" } : Jvm.MethodName) jdk_42_method_54_code (1 : Nat) (Option.some Jvm.ClassFile.FieldType.int)).before args0 about1 = true := code_word (m := ⟨7, 2⟩) (meth := k7m2) (c := k7c2) (by decide +kernel) rfl rfl rfl (by decide +kernel)
set_option maxRecDepth 65536 in
theorem w_c8 : (Jvm.Cond.code ({ cls := "java/lang/String", name := "coder", desc := "()B" } : Jvm.MethodName) jdk_42_method_152_code (1 : Nat) (Option.some Jvm.ClassFile.FieldType.byte)).before args0 about1 = true := code_word (m := ⟨7, 7⟩) (meth := k7m7) (c := k7c7) (by decide +kernel) rfl rfl rfl (by decide +kernel)
set_option maxRecDepth 65536 in
theorem w_c9 : (Jvm.Cond.code ({ cls := "java/lang/String", name := "substring", desc := "(II)Ljava/lang/String;" } : Jvm.MethodName) jdk_42_method_92_code (5 : Nat) (Option.some (Jvm.ClassFile.FieldType.object "java/lang/String"))).before args0 about1 = true := code_word (m := ⟨7, 4⟩) (meth := k7m4) (c := k7c4) (by decide +kernel) rfl rfl rfl (by decide +kernel)
set_option maxRecDepth 65536 in
theorem w_c10 : (Jvm.Cond.code ({ cls := "java/lang/String", name := "checkBoundsBeginEnd", desc := "(III)V" } : Jvm.MethodName) jdk_42_method_158_code (3 : Nat) (Option.none : Option Jvm.ClassFile.FieldType)).before args0 about1 = true := code_word (m := ⟨7, 10⟩) (meth := k7m10) (c := k7c10) (by decide +kernel) rfl rfl rfl (by decide +kernel)
set_option maxRecDepth 65536 in
theorem w_c11 : (Jvm.Cond.code ({ cls := "jdk/internal/util/Preconditions", name := "checkFromToIndex", desc := "(IIILjava/util/function/BiFunction;)I" } : Jvm.MethodName) jdk_41_method_12_code (4 : Nat) (Option.some Jvm.ClassFile.FieldType.int)).before args0 about1 = true := code_word (m := ⟨10, 2⟩) (meth := k10m2) (c := k10c2) (by decide +kernel) rfl rfl rfl (by decide +kernel)
set_option maxRecDepth 65536 in
theorem w_c12 : (Jvm.Cond.code ({ cls := "com/example/concurrency_quota/concurrencyquota/ServiceRequestTrimWhitespacePinLaw", name := "solid", desc := "([CII)Z" } : Jvm.MethodName) method_4_code (3 : Nat) (Option.some Jvm.ClassFile.FieldType.boolean)).before args0 about1 = true := code_word (m := ⟨1, 3⟩) (meth := k1m3) (c := k1c3) (by decide +kernel) rfl rfl rfl (by decide +kernel)
set_option maxRecDepth 65536 in
theorem w_c13 : (Jvm.Cond.code ({ cls := "com/example/concurrency_quota/concurrencyquota/ServiceRequestTrimWhitespacePinLaw", name := "at", desc := "(Ljava/lang/String;I[CII)Z" } : Jvm.MethodName) method_6_code (5 : Nat) (Option.some Jvm.ClassFile.FieldType.boolean)).before args0 about1 = true := code_word (m := ⟨1, 5⟩) (meth := k1m5) (c := k1c5) (by decide +kernel) rfl rfl rfl (by decide +kernel)
set_option maxRecDepth 65536 in
theorem w_c14 : (Jvm.Cond.code ({ cls := "java/lang/StringUTF16", name := "compress", desc := "([CII)[B" } : Jvm.MethodName) jdk_52_method_16_code (6 : Nat) (Option.some (Jvm.ClassFile.FieldType.array Jvm.ClassFile.FieldType.byte))).before args0 about1 = true := code_word (m := ⟨11, 2⟩) (meth := k11m2) (c := k11c2) (by decide +kernel) rfl rfl rfl (by decide +kernel)
set_option maxRecDepth 65536 in
theorem w_c15 : (Jvm.Cond.code ({ cls := "java/lang/StringUTF16", name := "compress", desc := "([CI[BII)I" } : Jvm.MethodName) jdk_52_method_21_code (7 : Nat) (Option.some Jvm.ClassFile.FieldType.int)).before args0 about1 = true := code_word (m := ⟨11, 3⟩) (meth := k11m3) (c := k11c3) (by decide +kernel) rfl rfl rfl (by decide +kernel)
set_option maxRecDepth 65536 in
theorem w_c16 : (Jvm.Cond.code ({ cls := "java/lang/StringUTF16", name := "coderFromArrayLen", desc := "([BI)B" } : Jvm.MethodName) jdk_52_method_15_code (2 : Nat) (Option.some Jvm.ClassFile.FieldType.byte)).before args0 about1 = true := code_word (m := ⟨11, 1⟩) (meth := k11m1) (c := k11c1) (by decide +kernel) rfl rfl rfl (by decide +kernel)
set_option maxRecDepth 65536 in
theorem w_c17 : (Jvm.Cond.code ({ cls := "java/lang/String", name := "charAt", desc := "(I)C" } : Jvm.MethodName) jdk_42_method_56_code (2 : Nat) (Option.some Jvm.ClassFile.FieldType.char)).before args0 about1 = true := code_word (m := ⟨7, 3⟩) (meth := k7m3) (c := k7c3) (by decide +kernel) rfl rfl rfl (by decide +kernel)
set_option maxRecDepth 65536 in
theorem w_c18 : (Jvm.Cond.code ({ cls := "java/lang/String", name := "isLatin1", desc := "()Z" } : Jvm.MethodName) jdk_42_method_154_code (1 : Nat) (Option.some Jvm.ClassFile.FieldType.boolean)).before args0 about1 = true := code_word (m := ⟨7, 8⟩) (meth := k7m8) (c := k7c8) (by decide +kernel) rfl rfl rfl (by decide +kernel)
set_option maxRecDepth 65536 in
theorem w_c19 : (Jvm.Cond.code ({ cls := "java/lang/StringLatin1", name := "charAt", desc := "([BI)C" } : Jvm.MethodName) jdk_43_method_2_code (2 : Nat) (Option.some Jvm.ClassFile.FieldType.char)).before args0 about1 = true := code_word (m := ⟨12, 1⟩) (meth := k12m1) (c := k12c1) (by decide +kernel) rfl rfl rfl (by decide +kernel)
set_option maxRecDepth 65536 in
theorem w_c20 : (Jvm.Cond.code ({ cls := "java/lang/String", name := "checkIndex", desc := "(II)V" } : Jvm.MethodName) jdk_42_method_155_code (2 : Nat) (Option.none : Option Jvm.ClassFile.FieldType)).before args0 about1 = true := code_word (m := ⟨7, 9⟩) (meth := k7m9) (c := k7c9) (by decide +kernel) rfl rfl rfl (by decide +kernel)
set_option maxRecDepth 65536 in
theorem w_c21 : (Jvm.Cond.code ({ cls := "jdk/internal/util/Preconditions", name := "checkIndex", desc := "(IILjava/util/function/BiFunction;)I" } : Jvm.MethodName) jdk_41_method_11_code (3 : Nat) (Option.some Jvm.ClassFile.FieldType.int)).before args0 about1 = true := code_word (m := ⟨10, 1⟩) (meth := k10m1) (c := k10c1) (by decide +kernel) rfl rfl rfl (by decide +kernel)
set_option maxRecDepth 65536 in
theorem w_c22 : (Jvm.Cond.code ({ cls := "java/lang/StringLatin1", name := "newString", desc := "([BII)Ljava/lang/String;" } : Jvm.MethodName) jdk_43_method_47_code (3 : Nat) (Option.some (Jvm.ClassFile.FieldType.object "java/lang/String"))).before args0 about1 = true := code_word (m := ⟨12, 2⟩) (meth := k12m2) (c := k12c2) (by decide +kernel) rfl rfl rfl (by decide +kernel)
set_option maxRecDepth 65536 in
theorem w_c23 : (Jvm.Cond.code ({ cls := "java/util/Arrays", name := "copyOfRange", desc := "([BII)[B" } : Jvm.MethodName) jdk_65_method_132_code (3 : Nat) (Option.some (Jvm.ClassFile.FieldType.array Jvm.ClassFile.FieldType.byte))).before args0 about1 = true := code_word (m := ⟨13, 2⟩) (meth := k13m2) (c := k13c2) (by decide +kernel) rfl rfl rfl (by decide +kernel)
set_option maxRecDepth 65536 in
theorem w_c24 : (Jvm.Cond.code ({ cls := "java/util/Arrays", name := "copyOfRangeByte", desc := "([BII)[B" } : Jvm.MethodName) jdk_65_method_133_code (5 : Nat) (Option.some (Jvm.ClassFile.FieldType.array Jvm.ClassFile.FieldType.byte))).before args0 about1 = true := code_word (m := ⟨13, 3⟩) (meth := k13m3) (c := k13c3) (by decide +kernel) rfl rfl rfl (by decide +kernel)
set_option maxRecDepth 65536 in
theorem w_c25 : (Jvm.Cond.code ({ cls := "java/util/Arrays", name := "checkLength", desc := "(II)V" } : Jvm.MethodName) jdk_65_method_131_code (2 : Nat) (Option.none : Option Jvm.ClassFile.FieldType)).before args0 about1 = true := code_word (m := ⟨13, 1⟩) (meth := k13m1) (c := k13c1) (by decide +kernel) rfl rfl rfl (by decide +kernel)
set_option maxRecDepth 65536 in
theorem w_c26 : (Jvm.Cond.code ({ cls := "java/lang/Math", name := "min", desc := "(II)I" } : Jvm.MethodName) jdk_29_method_69_code (2 : Nat) (Option.some Jvm.ClassFile.FieldType.int)).before args0 about1 = true := code_word (m := ⟨14, 1⟩) (meth := k14m1) (c := k14c1) (by decide +kernel) rfl rfl rfl (by decide +kernel)
set_option maxRecDepth 65536 in
theorem w_c27 : (Jvm.Cond.code ({ cls := "java/lang/String", name := "<init>", desc := "([BB)V" } : Jvm.MethodName) jdk_42_method_151_code (3 : Nat) (Option.none : Option Jvm.ClassFile.FieldType)).before args0 about1 = true := code_word (m := ⟨7, 6⟩) (meth := k7m6) (c := k7c6) (by decide +kernel) rfl rfl rfl (by decide +kernel)
set_option maxRecDepth 65536 in
theorem w_c28 : (Jvm.Cond.code ({ cls := "com/example/concurrency_quota/concurrencyquota/ServiceRequestTrimWhitespacePinLaw", name := "ws", desc := "(C)Z" } : Jvm.MethodName) method_3_code (1 : Nat) (Option.some Jvm.ClassFile.FieldType.boolean)).before args0 about1 = true := code_word (m := ⟨1, 2⟩) (meth := k1m2) (c := k1c2) (by decide +kernel) rfl rfl rfl (by decide +kernel)
def codes1 : List Jvm.Cond := [Jvm.Cond.code x code maxLocals ret, Jvm.Cond.code ({ cls := "com/example/concurrency_quota/concurrencyquota/ServiceRequestTrimWhitespacePinLaw", name := "pick", desc := "(I)C" } : Jvm.MethodName) method_2_code (2 : Nat) (Option.some Jvm.ClassFile.FieldType.char), Jvm.Cond.code ({ cls := "com/example/concurrency_quota/concurrencyquota/ServiceRequestTrimWhitespacePinLaw", name := "make", desc := "(I[C)[C" } : Jvm.MethodName) method_5_code (2 : Nat) (Option.some (Jvm.ClassFile.FieldType.array Jvm.ClassFile.FieldType.char)), Jvm.Cond.code ({ cls := "java/lang/String", name := "<init>", desc := "([C)V" } : Jvm.MethodName) jdk_42_method_3_code (2 : Nat) (Option.none : Option Jvm.ClassFile.FieldType), Jvm.Cond.code ({ cls := "java/lang/String", name := "<init>", desc := "([CIILjava/lang/Void;)V" } : Jvm.MethodName) jdk_42_method_149_code (6 : Nat) (Option.none : Option Jvm.ClassFile.FieldType), Jvm.Cond.code ({ cls := "java/lang/Object", name := "<init>", desc := "()V" } : Jvm.MethodName) object_method_1_code (1 : Nat) (Option.none : Option Jvm.ClassFile.FieldType), Jvm.Cond.code ({ cls := "com/example/concurrency_quota/concurrencyquota/ServiceRequest", name := "trimWhitespace", desc := "(Ljava/lang/String;)Ljava/lang/String;" } : Jvm.MethodName) prog_14_method_5_code (3 : Nat) (Option.some (Jvm.ClassFile.FieldType.object "java/lang/String")), Jvm.Cond.code ({ cls := "java/lang/String", name := "length", desc := "()I" } : Jvm.MethodName) jdk_42_method_54_code (1 : Nat) (Option.some Jvm.ClassFile.FieldType.int), Jvm.Cond.code ({ cls := "java/lang/String", name := "coder", desc := "()B" } : Jvm.MethodName) jdk_42_method_152_code (1 : Nat) (Option.some Jvm.ClassFile.FieldType.byte), Jvm.Cond.code ({ cls := "java/lang/String", name := "substring", desc := "(II)Ljava/lang/String;" } : Jvm.MethodName) jdk_42_method_92_code (5 : Nat) (Option.some (Jvm.ClassFile.FieldType.object "java/lang/String")), Jvm.Cond.code ({ cls := "java/lang/String", name := "checkBoundsBeginEnd", desc := "(III)V" } : Jvm.MethodName) jdk_42_method_158_code (3 : Nat) (Option.none : Option Jvm.ClassFile.FieldType), Jvm.Cond.code ({ cls := "jdk/internal/util/Preconditions", name := "checkFromToIndex", desc := "(IIILjava/util/function/BiFunction;)I" } : Jvm.MethodName) jdk_41_method_12_code (4 : Nat) (Option.some Jvm.ClassFile.FieldType.int), Jvm.Cond.code ({ cls := "com/example/concurrency_quota/concurrencyquota/ServiceRequestTrimWhitespacePinLaw", name := "solid", desc := "([CII)Z" } : Jvm.MethodName) method_4_code (3 : Nat) (Option.some Jvm.ClassFile.FieldType.boolean), Jvm.Cond.code ({ cls := "com/example/concurrency_quota/concurrencyquota/ServiceRequestTrimWhitespacePinLaw", name := "at", desc := "(Ljava/lang/String;I[CII)Z" } : Jvm.MethodName) method_6_code (5 : Nat) (Option.some Jvm.ClassFile.FieldType.boolean), Jvm.Cond.code ({ cls := "java/lang/StringUTF16", name := "compress", desc := "([CII)[B" } : Jvm.MethodName) jdk_52_method_16_code (6 : Nat) (Option.some (Jvm.ClassFile.FieldType.array Jvm.ClassFile.FieldType.byte)), Jvm.Cond.code ({ cls := "java/lang/StringUTF16", name := "compress", desc := "([CI[BII)I" } : Jvm.MethodName) jdk_52_method_21_code (7 : Nat) (Option.some Jvm.ClassFile.FieldType.int), Jvm.Cond.code ({ cls := "java/lang/StringUTF16", name := "coderFromArrayLen", desc := "([BI)B" } : Jvm.MethodName) jdk_52_method_15_code (2 : Nat) (Option.some Jvm.ClassFile.FieldType.byte), Jvm.Cond.code ({ cls := "java/lang/String", name := "charAt", desc := "(I)C" } : Jvm.MethodName) jdk_42_method_56_code (2 : Nat) (Option.some Jvm.ClassFile.FieldType.char), Jvm.Cond.code ({ cls := "java/lang/String", name := "isLatin1", desc := "()Z" } : Jvm.MethodName) jdk_42_method_154_code (1 : Nat) (Option.some Jvm.ClassFile.FieldType.boolean), Jvm.Cond.code ({ cls := "java/lang/StringLatin1", name := "charAt", desc := "([BI)C" } : Jvm.MethodName) jdk_43_method_2_code (2 : Nat) (Option.some Jvm.ClassFile.FieldType.char), Jvm.Cond.code ({ cls := "java/lang/String", name := "checkIndex", desc := "(II)V" } : Jvm.MethodName) jdk_42_method_155_code (2 : Nat) (Option.none : Option Jvm.ClassFile.FieldType), Jvm.Cond.code ({ cls := "jdk/internal/util/Preconditions", name := "checkIndex", desc := "(IILjava/util/function/BiFunction;)I" } : Jvm.MethodName) jdk_41_method_11_code (3 : Nat) (Option.some Jvm.ClassFile.FieldType.int), Jvm.Cond.code ({ cls := "java/lang/StringLatin1", name := "newString", desc := "([BII)Ljava/lang/String;" } : Jvm.MethodName) jdk_43_method_47_code (3 : Nat) (Option.some (Jvm.ClassFile.FieldType.object "java/lang/String")), Jvm.Cond.code ({ cls := "java/util/Arrays", name := "copyOfRange", desc := "([BII)[B" } : Jvm.MethodName) jdk_65_method_132_code (3 : Nat) (Option.some (Jvm.ClassFile.FieldType.array Jvm.ClassFile.FieldType.byte)), Jvm.Cond.code ({ cls := "java/util/Arrays", name := "copyOfRangeByte", desc := "([BII)[B" } : Jvm.MethodName) jdk_65_method_133_code (5 : Nat) (Option.some (Jvm.ClassFile.FieldType.array Jvm.ClassFile.FieldType.byte)), Jvm.Cond.code ({ cls := "java/util/Arrays", name := "checkLength", desc := "(II)V" } : Jvm.MethodName) jdk_65_method_131_code (2 : Nat) (Option.none : Option Jvm.ClassFile.FieldType), Jvm.Cond.code ({ cls := "java/lang/Math", name := "min", desc := "(II)I" } : Jvm.MethodName) jdk_29_method_69_code (2 : Nat) (Option.some Jvm.ClassFile.FieldType.int), Jvm.Cond.code ({ cls := "java/lang/String", name := "<init>", desc := "([BB)V" } : Jvm.MethodName) jdk_42_method_151_code (3 : Nat) (Option.none : Option Jvm.ClassFile.FieldType), Jvm.Cond.code ({ cls := "com/example/concurrency_quota/concurrencyquota/ServiceRequestTrimWhitespacePinLaw", name := "ws", desc := "(C)Z" } : Jvm.MethodName) method_3_code (1 : Nat) (Option.some Jvm.ClassFile.FieldType.boolean)]
set_option maxRecDepth 65536 in
theorem codes_eq : words1.filter isCode = codes1 := rfl
theorem w_codes : ∀ c ∈ words1.filter isCode, c.before args0 about1 = true := by
  rw [codes_eq]
  intro c hc
  simp only [codes1, List.mem_cons, List.not_mem_nil, or_false] at hc
  rcases hc with rfl | rfl | rfl | rfl | rfl | rfl | rfl | rfl | rfl | rfl | rfl | rfl | rfl | rfl | rfl | rfl | rfl | rfl | rfl | rfl | rfl | rfl | rfl | rfl | rfl | rfl | rfl | rfl | rfl
  · exact w_c0
  · exact w_c1
  · exact w_c2
  · exact w_c3
  · exact w_c4
  · exact w_c5
  · exact w_c6
  · exact w_c7
  · exact w_c8
  · exact w_c9
  · exact w_c10
  · exact w_c11
  · exact w_c12
  · exact w_c13
  · exact w_c14
  · exact w_c15
  · exact w_c16
  · exact w_c17
  · exact w_c18
  · exact w_c19
  · exact w_c20
  · exact w_c21
  · exact w_c22
  · exact w_c23
  · exact w_c24
  · exact w_c25
  · exact w_c26
  · exact w_c27
  · exact w_c28
set_option maxRecDepth 65536 in
theorem w_t1 : (words1.take 24).all (fun c => isCode c || c.before args0 about1) = true := by decide +kernel
set_option maxRecDepth 65536 in
theorem w_t2 : ((words1.drop 24).take 24).all (fun c => isCode c || c.before args0 about1) = true := by decide +kernel
set_option maxRecDepth 65536 in
theorem w_t3 : (((words1.drop 24).drop 24).take 24).all (fun c => isCode c || c.before args0 about1) = true := by decide +kernel
set_option maxRecDepth 65536 in
theorem w_t4 : ((((words1.drop 24).drop 24).drop 24).take 24).all (fun c => isCode c || c.before args0 about1) = true := by decide +kernel
set_option maxRecDepth 65536 in
theorem w_t5 : (((((words1.drop 24).drop 24).drop 24).drop 24).take 24).all (fun c => isCode c || c.before args0 about1) = true := by decide +kernel
set_option maxRecDepth 65536 in
theorem w_t6 : (((((words1.drop 24).drop 24).drop 24).drop 24).drop 24).all (fun c => isCode c || c.before args0 about1) = true := by decide +kernel
theorem w_tables : (allAtoms (Jvm.Cond.code x code maxLocals ret :: tables_1)).before args0 about1 = true := by
  rw [allAtoms_all]
  show words1.all (fun c => c.before args0 about1) = true
  refine all_split ?_ w_codes
  rw [← List.take_append_drop 24 words1, List.all_append, w_t1, ← List.take_append_drop 24 (words1.drop 24), List.all_append, w_t2, ← List.take_append_drop 24 ((words1.drop 24).drop 24), List.all_append, w_t3, ← List.take_append_drop 24 (((words1.drop 24).drop 24).drop 24), List.all_append, w_t4, ← List.take_append_drop 24 ((((words1.drop 24).drop 24).drop 24).drop 24), List.all_append, w_t5, w_t6]
  rfl
set_option maxRecDepth 65536 in
theorem w_rest : rest_1_c.before args0 about1 = true := by decide +kernel
set_option maxRecDepth 65536 in
theorem w_case : (Jvm.Cond.and given_1 narrow_1).before args0 about1 = true := by decide +kernel
set_option maxRecDepth 65536 in
theorem w_consts : constsHeld consts_1 about1 := Jvm.Lit.constsHeldB_iff.mp (by decide +kernel)
theorem w_applies : (headSpec (Jvm.Cond.code x code maxLocals ret :: tables_1) room_1).applies x e0.platform about1 = true :=
  (Spec.applies_iff w_frames).mpr ⟨w_running, w_runnable, w_alone, w_named, w_hears, w_ripe, w_room, w_tables⟩
theorem atStart : AtStart classFile x code maxLocals ret World_1 tables_1 room_1 Calls_1 rest_1 Pre_1 launch0 p0 e0 about1 theMethod args0 below0 :=
  ⟨lists_1, trivial, launch0.admits_env _ _ _, launch0.least_env, fairChoices_fair.cas, fairChoices_fair.clock, w_frames, w_args, w_heap, w_applies, ⟨w_consts, trivial⟩, w_rest, w_case⟩
end start1
theorem witness_1 : WitnessClaimed_1 := ⟨start1.p0, start1.e0, start1.about1, start1.theMethod, start1.args0, start1.below0, start1.atStart⟩
end Jvm.Pilot.@@N@@
