import JvmDerived
import JvmDerived.Pilot.@@N@@Statement
import JvmDerived.Pilot.@@N@@Code
set_option linter.unusedVariables false
set_option linter.unusedSimpArgs false
namespace Jvm.RoadKit
open Sem ClassFile Op Lib Jvm.Stand Jvm.Free Jvm.LawKit
section New
variable {p : Program} {l : Launch} {e : Env} {R : Room} {s : State} {m : MethodId} {args : Array Value} {below : List Frame} {meth : Method} {c : Code} {T : State} {locs : List Loc} {cells slots : Nat}
theorem retI (X : Stand p l e R s m args below meth c T locs cells slots) (hx : p.tables.exec = Jvm.exec) {pc : Nat} {Ls : Array Slot} {z : Int32} {rest : List Value} (hret : meth.sig.returnType = some .int) (hd : decode c.code pc = .ok (.ireturn, 1)) {fs : List Frame}
    (hl : ∀ (f : JFrame) (acts : List Action), f.method = m → f.locked = none → f.entered = [] → (doReturn e (T.setTop f) acts (some (.int z))).1 = T.setFrames fs) : Steps p.tables e below (T.setTop (mkF m pc Ls (.int z :: rest))) (T.setFrames fs) := by
  have hm' : T.vm.method? m = some meth := X.method'
  have hn : narrow .int (.int z) = .int z := rfl
  show Steps p.tables e below (T.setTop { method := m, pc := pc, locals := Ls, stack := _ :: rest, locked := none }) _
  jvm_step X.here [X.here.top, hx, hd, hm', hret, hn]
  first | (intro acts; rw [hl _ acts rfl rfl rfl]) | rw [hl _ _ rfl rfl rfl]
  exact Steps.refl _
def Gl (p : Program) (e : Env) (below : List Frame) (s : State) (kc ks : Nat) (Q : Option Value → Heap → List Loc → Prop) (T : State) (g : JFrame) : Prop :=
  ∃ U o, Steps p.tables e below (T.setTop g) U ∧ U.status = .running ∧ Ended U below o ∧ ∃ v L, o = .returned v ∧ Q v U.heap L ∧ FrameEnd s o U L kc ks
theorem Gl.st {kc ks : Nat} {Q : Option Value → Heap → List Loc → Prop} {T' : State} {g g' : JFrame} (h : ∀ t, Steps p.tables e below (T'.setTop g') t → Steps p.tables e below (T.setTop g) t) (k : Gl p e below s kc ks Q T' g') : Gl p e below s kc ks Q T g := by
  obtain ⟨U, o, h1, r⟩ := k
  exact ⟨U, o, h _ h1, r⟩
theorem Gl.wider {cells' slots' : Nat} (X : Stand p l e R s m args below meth c T locs cells slots) (h1 : cells ≤ cells') (h2 : slots ≤ slots') : Stand p l e R s m args below meth c T locs cells' slots' :=
  ⟨X.admits, X.cas, X.clock, X.frames, X.room, X.hears, X.method, X.code, X.here, X.tail, X.warmed, X.limits, X.bytes, X.same.mono h1 h2⟩
theorem Gl.start {kc ks : Nat} {Q : Option Value → Heap → List Loc → Prop} {g g' : JFrame} (q : g = g') (k : Gl p e below s kc ks Q T g') :
    ∃ U o, Steps p.tables e below (T.setTop g) U ∧ U.status = .running ∧ Ended U below o ∧ ∃ v L, o = .returned v ∧ Q v U.heap L ∧ FrameEnd s o U L kc ks := q ▸ k
theorem Gl.ret {kc ks : Nat} {Q : Option Value → Heap → List Loc → Prop} {g : JFrame} {h : Heap} (X : Stand p l e R s m args below meth c T locs cells slots) {v : Option Value} (hv : meth.sig.returnType = none → v = none) (hlk : meth.locks = false)
    (st : ∀ {fs : List Frame}, (∀ (f : JFrame) (acts : List Action), f.method = m → f.locked = none → f.entered = [] → (doReturn e (T.setTop f) acts v).1 = T.setFrames fs) → Steps p.tables e below (T.setTop g) (T.setFrames fs))
    (eT : T.heap = h) (hQ : Q v h locs) (hc : cells ≤ kc) (hs : slots ≤ ks) : Gl p e below s kc ks Q T g := by
  obtain ⟨fs, hr, hrun, hended, hW, hsame⟩ := X.leave hv hlk
  refine ⟨_, _, st hr, hrun, hended, _, _, rfl, ?_, ⟨_, rfl⟩, hW, hsame.mono hc hs⟩
  show Q v T.heap locs
  rw [eT]; exact hQ
end New
end Jvm.RoadKit
namespace Jvm.Pilot.@@N@@
open Jvm Jvm.ClassFile Sem Op Lib Jvm.Free Jvm.Stand Jvm.LawKit Jvm.RoadKit Bundle Jvm.Pilot.@@N@@.Jvm.D
theorem own_eqint {args : Array Value} {first s : State} {o : Option Outcome} {idx : List Nat} {t : Term} {k : Int32} (h : (Jvm.Cond.eq t (.int k)).value args first o s idx = some true) : t.eval args first o idx s = some (.int k) := by
  cases ht : t.eval args first o idx s with
  | none => simp [Cond.value, ht] at h
  | some x => cases x <;> simp [Cond.value, ht, Term.eval] at h ⊢; exact h
theorem own_mod5 (x : Int32) : (x &&& (2147483647 : Int32)) % (5 : Int32) = (0 : Int32) ∨ (x &&& (2147483647 : Int32)) % (5 : Int32) = (1 : Int32) ∨ (x &&& (2147483647 : Int32)) % (5 : Int32) = (2 : Int32) ∨ (x &&& (2147483647 : Int32)) % (5 : Int32) = (3 : Int32) ∨ (x &&& (2147483647 : Int32)) % (5 : Int32) = (4 : Int32) := by
  have h1 := (c_and x (2147483647 : Int32) (by decide)).1
  have h2 := (c_irem (x &&& (2147483647 : Int32)) (5 : Int32) 5 (by decide)).1 h1
  have h3 : ((x &&& (2147483647 : Int32)) % (5 : Int32)).toInt = 0 ∨ ((x &&& (2147483647 : Int32)) % (5 : Int32)).toInt = 1 ∨ ((x &&& (2147483647 : Int32)) % (5 : Int32)).toInt = 2 ∨ ((x &&& (2147483647 : Int32)) % (5 : Int32)).toInt = 3 ∨ ((x &&& (2147483647 : Int32)) % (5 : Int32)).toInt = 4 := by omega
  rcases h3 with h | h | h | h | h
  · exact Or.inl (Int32.toInt_inj.mp (h.trans (by decide)))
  · exact Or.inr (Or.inl (Int32.toInt_inj.mp (h.trans (by decide))))
  · exact Or.inr (Or.inr (Or.inl (Int32.toInt_inj.mp (h.trans (by decide)))))
  · exact Or.inr (Or.inr (Or.inr (Or.inl (Int32.toInt_inj.mp (h.trans (by decide))))))
  · exact Or.inr (Or.inr (Or.inr (Or.inr ((Int32.toInt_inj.mp (h.trans (by decide)))))))
theorem d1_0 : decode prog_12_method_4_code 0 = .ok (.aload_n 0, 1) := by decide +kernel
theorem d1_1 : decode prog_12_method_4_code 1 = .ok (.getstatic 13, 3) := by decide +kernel
theorem d1_4 : decode prog_12_method_4_code 4 = .ok (.if_acmp .eq 10, 3) := by decide +kernel
theorem d1_7 : decode prog_12_method_4_code 7 = .ok (.aload_n 0, 1) := by decide +kernel
theorem d1_8 : decode prog_12_method_4_code 8 = .ok (.getstatic 16, 3) := by decide +kernel
theorem d1_11 : decode prog_12_method_4_code 11 = .ok (.if_acmp .ne 7, 3) := by decide +kernel
theorem d1_14 : decode prog_12_method_4_code 14 = .ok (.iconst 1, 1) := by decide +kernel
theorem d1_15 : decode prog_12_method_4_code 15 = .ok (.goto 4, 3) := by decide +kernel
theorem d1_18 : decode prog_12_method_4_code 18 = .ok (.iconst 0, 1) := by decide +kernel
theorem d1_19 : decode prog_12_method_4_code 19 = .ok (.ireturn, 1) := by decide +kernel
theorem pn_rm1 : plainName "com/example/always_once/alwaysonce/ledger/JobStatus" = true := by first | (simp [plainName, overriddenIn]; done) | decide +kernel
theorem ef_rm1 (m : MethodId) (a1 : Addr) : entryFrame m #[(.ref a1)] 1 = mkF m 0 #[.val (.ref a1)] [] := by first | (simp [entryFrame, mkF, argsToLocals, Value.category]; done) | rfl
def Q_rm1 (Z : State) (a1 : Addr) (w_COMPLETED w_FAILED : Addr) (z : Int32) (h0 : Heap) (n0 : Nat) (v : Option Value) (h : Heap) (L : List Loc) : Prop := v = some (.int z) ∧ Fr n0 L ∧ h = h0
set_option maxRecDepth 65536 in
set_option maxHeartbeats 40000000 in
theorem rm1 (l : Launch) (Z : State) (a0 : Array Value) (hw : ∀ d ∈ tables_1, d.before a0 Z = true) (ws : List Jvm.Cond) (a1 : Addr) (w_COMPLETED w_FAILED : Addr) (z : Int32) (h0 : Heap) (n0 : Nat) (O0 : Old Z n0 h0) (S_COMPLETED : Sta Z Z.heap "com/example/always_once/alwaysonce/ledger/JobStatus" "COMPLETED" "Lcom/example/always_once/alwaysonce/ledger/JobStatus;" (.ref w_COMPLETED)) (S_FAILED : Sta Z Z.heap "com/example/always_once/alwaysonce/ledger/JobStatus" "FAILED" "Lcom/example/always_once/alwaysonce/ledger/JobStatus;" (.ref w_FAILED)) (hz : z = if a1 = w_COMPLETED ∨ a1 = w_FAILED then 1 else 0) :
    MetFree l (⟨"com/example/always_once/alwaysonce/ledger/JobStatus", "hasEnded", "()Z"⟩ : MethodName) (head1 (Jvm.Cond.code (⟨"com/example/always_once/alwaysonce/ledger/JobStatus", "hasEnded", "()Z"⟩ : MethodName) prog_12_method_4_code 1 (some .boolean) :: ws) ({ frames := 0, cells := 0, slots := 0, locals := 0 } : Room)) (fun a U => a = #[(.ref a1)] ∧ Z.Warmed39 U.vm ∧ U.heap = h0) (fun _ _ _ _ _ => True) (fun _ U o U' => ∃ v L, o = .returned v ∧ Q_rm1 Z a1 w_COMPLETED w_FAILED z h0 n0 v U'.heap L ∧ FrameEnd U o U' L ({ frames := 0, cells := 0, slots := 0, locals := 0 } : Room).cells ({ frames := 0, cells := 0, slots := 0, locals := 0 } : Room).slots) := by
  refine MetFree.of_bodySF (plainFor_of_name pn_rm1) hisR ?_
  intro p e s m args below meth c s₁ Bd hml0 hP hK
  obtain ⟨rfl, hZ, hh⟩ := hP
  have hx := Bd.exec
  have hby := Bd.bytes
  have hml : c.maxLocals = 1 := hml0
  have hown : s.vm.findClass "com/example/always_once/alwaysonce/ledger/JobStatus" = some m.cls := findClass_of_methodNamed Bd.named
  have hnm := (name_of_methodNamed Bd.named Bd.method).1
  have X0 : Stand p l e ({ frames := 0, cells := 0, slots := 0, locals := 0 } : Room) s m #[(.ref a1)] below meth c s₁ [] 0 0 := Stand.of_body Bd
  have e0 : s₁.heap = h0 := by rw [← hh, Bd.state]; rfl
  have N0 := Fr.nil n0
  refine Gl.start (Q := Q_rm1 Z a1 w_COMPLETED w_FAILED z h0 n0) (ef_rm1 m a1) ?_
  show Gl p e below s _ _ _ s₁ (mkF m 0 #[.val (.ref a1)] [])
  refine Gl.st (fun _ kk => XS.aloadN X0.here hx rfl (hb hby d1_0) rfl rfl kk) ?_
  show Gl p e below s _ _ _ s₁ (mkF m 1 #[.val (.ref a1)] [(.ref a1)])
  obtain ⟨T1, X1, e1, st1⟩ := getS2 X0 hx hZ hown (host := "") (Or.inl (hw _ (List.mem_of_getElem? (i := 9) rfl))) Via.refl e0 (S_COMPLETED.ext O0.2) (g := (mkF m 1 #[.val (.ref a1)] [(.ref a1)])) rfl (hb hby d1_1)
  refine Gl.st st1 ?_
  show Gl p e below s _ _ _ T1 (mkF m 4 #[.val (.ref a1)] [(.ref w_COMPLETED), (.ref a1)])
  by_cases ha4 : a1 = w_COMPLETED
  · skip
    refine Gl.st (fun _ kk => Jvm.RoadKit.acmp (g := (mkF m 4 #[.val (.ref a1)] [(.ref w_COMPLETED), (.ref a1)])) X1 hx rfl rfl rfl (pc0 := 4) (pc' := 14) (same := true) rfl (hb hby d1_4) rfl (decide_eq_true (congrArg Value.ref ha4)) (by decide) (by decide) kk) ?_
    show Gl p e below s _ _ _ T1 (mkF m 14 #[.val (.ref a1)] [])
    refine Gl.st (fun _ kk => XS.iconst X1.here hx rfl (hb hby d1_14) kk) ?_
    show Gl p e below s _ _ _ T1 (mkF m 15 #[.val (.ref a1)] [(.int (1 : Int32))])
    refine Gl.st (fun _ kk => XS.goto X1.here hx rfl (pc0 := 15) (pc' := 19) rfl (hb hby d1_15) (by decide) (by decide) kk) ?_
    show Gl p e below s _ _ _ T1 (mkF m 19 #[.val (.ref a1)] [(.int (1 : Int32))])
    have hzz : z = (1 : Int32) := by rw [hz]; simp [ha4]
    exact Gl.ret X1 (v := (some (.int (1 : Int32)))) (fun h => by rw [Bd.returns] at h; cases h) (BodyLoose.notSynchronized Bd) (fun hr => retN X1 hx (t := .boolean) Bd.returns (by simp) (hb hby d1_19) hr) e1 ⟨by rw [hzz], N0, rfl⟩ (by decide) (by decide)
  · skip
    refine Gl.st (fun _ kk => Jvm.RoadKit.acmp (g := (mkF m 4 #[.val (.ref a1)] [(.ref w_COMPLETED), (.ref a1)])) X1 hx rfl rfl rfl (pc0 := 4) (pc' := 7) (same := false) rfl (hb hby d1_4) rfl (decide_eq_false fun q => ha4 (Value.ref.inj q)) (by decide) (by decide) kk) ?_
    show Gl p e below s _ _ _ T1 (mkF m 7 #[.val (.ref a1)] [])
    refine Gl.st (fun _ kk => XS.aloadN X1.here hx rfl (hb hby d1_7) rfl rfl kk) ?_
    show Gl p e below s _ _ _ T1 (mkF m 8 #[.val (.ref a1)] [(.ref a1)])
    obtain ⟨T2, X2, e2, st2⟩ := getS2 X1 hx hZ hown (host := "") (Or.inl (hw _ (List.mem_of_getElem? (i := 11) rfl))) Via.refl e1 (S_FAILED.ext O0.2) (g := (mkF m 8 #[.val (.ref a1)] [(.ref a1)])) rfl (hb hby d1_8)
    refine Gl.st st2 ?_
    show Gl p e below s _ _ _ T2 (mkF m 11 #[.val (.ref a1)] [(.ref w_FAILED), (.ref a1)])
    by_cases ha11 : a1 = w_FAILED
    · skip
      refine Gl.st (fun _ kk => Jvm.RoadKit.acmp (g := (mkF m 11 #[.val (.ref a1)] [(.ref w_FAILED), (.ref a1)])) X2 hx rfl rfl rfl (pc0 := 11) (pc' := 14) (same := true) rfl (hb hby d1_11) rfl (decide_eq_true (congrArg Value.ref ha11)) (by decide) (by decide) kk) ?_
      show Gl p e below s _ _ _ T2 (mkF m 14 #[.val (.ref a1)] [])
      refine Gl.st (fun _ kk => XS.iconst X2.here hx rfl (hb hby d1_14) kk) ?_
      show Gl p e below s _ _ _ T2 (mkF m 15 #[.val (.ref a1)] [(.int (1 : Int32))])
      refine Gl.st (fun _ kk => XS.goto X2.here hx rfl (pc0 := 15) (pc' := 19) rfl (hb hby d1_15) (by decide) (by decide) kk) ?_
      show Gl p e below s _ _ _ T2 (mkF m 19 #[.val (.ref a1)] [(.int (1 : Int32))])
      have hzz : z = (1 : Int32) := by rw [hz]; simp [ha4, ha11]
      exact Gl.ret X2 (v := (some (.int (1 : Int32)))) (fun h => by rw [Bd.returns] at h; cases h) (BodyLoose.notSynchronized Bd) (fun hr => retN X2 hx (t := .boolean) Bd.returns (by simp) (hb hby d1_19) hr) e2 ⟨by rw [hzz], N0, rfl⟩ (by decide) (by decide)
    · skip
      refine Gl.st (fun _ kk => Jvm.RoadKit.acmp (g := (mkF m 11 #[.val (.ref a1)] [(.ref w_FAILED), (.ref a1)])) X2 hx rfl rfl rfl (pc0 := 11) (pc' := 18) (same := false) rfl (hb hby d1_11) rfl (decide_eq_false fun q => ha11 (Value.ref.inj q)) (by decide) (by decide) kk) ?_
      show Gl p e below s _ _ _ T2 (mkF m 18 #[.val (.ref a1)] [])
      refine Gl.st (fun _ kk => XS.iconst X2.here hx rfl (hb hby d1_18) kk) ?_
      show Gl p e below s _ _ _ T2 (mkF m 19 #[.val (.ref a1)] [(.int (0 : Int32))])
      have hzz : z = (0 : Int32) := by rw [hz]; simp [ha4, ha11]
      exact Gl.ret X2 (v := (some (.int (0 : Int32)))) (fun h => by rw [Bd.returns] at h; cases h) (BodyLoose.notSynchronized Bd) (fun hr => retN X2 hx (t := .boolean) Bd.returns (by simp) (hb hby d1_19) hr) e2 ⟨by rw [hzz], N0, rfl⟩ (by decide) (by decide)
theorem pd_rm0_0 : parseMethodDescriptor "()Z" = some ⟨[], some .boolean⟩ := by decide +kernel
theorem pn_rm0 : plainName "com/example/always_once/alwaysonce/ledger/JobStatusHasEndedPinLaw" = true := by first | (simp [plainName, overriddenIn]; done) | decide +kernel
theorem ef_rm0 (m : MethodId) (p1 : Int32) : entryFrame m #[(.int p1)] maxLocals = mkF m 0 #[.val (.int p1), .unset, .unset, .unset] [] := by first | (simp [entryFrame, mkF, argsToLocals, Value.category, maxLocals]; done) | rfl
def Q_rm0 (Z : State) (p1 : Int32) (w_UPLOADED w_PROCESSING w_COLUMN_MAPPING w_COMPLETED w_FAILED : Addr) (h0 : Heap) (n0 : Nat) (v : Option Value) (h : Heap) (L : List Loc) : Prop := v = some (.int 1) ∧ Fr n0 L
set_option maxRecDepth 65536 in
set_option maxHeartbeats 40000000 in
theorem rm0 (l : Launch) (Z : State) (a0 : Array Value) (hw : ∀ d ∈ tables_1, d.before a0 Z = true) (ws : List Jvm.Cond) (p1 : Int32) (w_UPLOADED w_PROCESSING w_COLUMN_MAPPING w_COMPLETED w_FAILED : Addr) (h0 : Heap) (n0 : Nat) (O0 : Old Z n0 h0) (S_UPLOADED : Sta Z Z.heap "com/example/always_once/alwaysonce/ledger/JobStatus" "UPLOADED" "Lcom/example/always_once/alwaysonce/ledger/JobStatus;" (.ref w_UPLOADED)) (S_PROCESSING : Sta Z Z.heap "com/example/always_once/alwaysonce/ledger/JobStatus" "PROCESSING" "Lcom/example/always_once/alwaysonce/ledger/JobStatus;" (.ref w_PROCESSING)) (S_COLUMN_MAPPING : Sta Z Z.heap "com/example/always_once/alwaysonce/ledger/JobStatus" "COLUMN_MAPPING" "Lcom/example/always_once/alwaysonce/ledger/JobStatus;" (.ref w_COLUMN_MAPPING)) (S_COMPLETED : Sta Z Z.heap "com/example/always_once/alwaysonce/ledger/JobStatus" "COMPLETED" "Lcom/example/always_once/alwaysonce/ledger/JobStatus;" (.ref w_COMPLETED)) (S_FAILED : Sta Z Z.heap "com/example/always_once/alwaysonce/ledger/JobStatus" "FAILED" "Lcom/example/always_once/alwaysonce/ledger/JobStatus;" (.ref w_FAILED)) (E_UPLOADED : Exa Z Z.heap w_UPLOADED "com/example/always_once/alwaysonce/ledger/JobStatus") (E_PROCESSING : Exa Z Z.heap w_PROCESSING "com/example/always_once/alwaysonce/ledger/JobStatus") (E_COLUMN_MAPPING : Exa Z Z.heap w_COLUMN_MAPPING "com/example/always_once/alwaysonce/ledger/JobStatus") (E_COMPLETED : Exa Z Z.heap w_COMPLETED "com/example/always_once/alwaysonce/ledger/JobStatus") (E_FAILED : Exa Z Z.heap w_FAILED "com/example/always_once/alwaysonce/ledger/JobStatus") (F_UPLOADED : Fld Z Z.heap w_UPLOADED "java/lang/Enum" "ordinal" "I" (.int 0)) (F_PROCESSING : Fld Z Z.heap w_PROCESSING "java/lang/Enum" "ordinal" "I" (.int 1)) (F_COLUMN_MAPPING : Fld Z Z.heap w_COLUMN_MAPPING "java/lang/Enum" "ordinal" "I" (.int 2)) (F_COMPLETED : Fld Z Z.heap w_COMPLETED "java/lang/Enum" "ordinal" "I" (.int 3)) (F_FAILED : Fld Z Z.heap w_FAILED "java/lang/Enum" "ordinal" "I" (.int 4)) :
    MetFree l x (head1 (Jvm.Cond.code x code maxLocals ret :: ws) room_1) (fun a U => a = #[(.int p1)] ∧ Z.Warmed39 U.vm ∧ U.heap = h0) (fun _ _ _ _ _ => True) (fun _ U o U' => ∃ v L, o = .returned v ∧ Q_rm0 Z p1 w_UPLOADED w_PROCESSING w_COLUMN_MAPPING w_COMPLETED w_FAILED h0 n0 v U'.heap L ∧ FrameEnd U o U' L room_1.cells room_1.slots) := by
  refine MetFree.of_bodySF (plainFor_of_name pn_rm0) hisR ?_
  intro p e s m args below meth c s₁ Bd hml0 hP hK
  obtain ⟨rfl, hZ, hh⟩ := hP
  have hx := Bd.exec
  have hby := Bd.bytes
  have hml : c.maxLocals = 4 := hml0
  have hown : s.vm.findClass "com/example/always_once/alwaysonce/ledger/JobStatusHasEndedPinLaw" = some m.cls := findClass_of_methodNamed Bd.named
  have hnm := (name_of_methodNamed Bd.named Bd.method).1
  have X0 : Stand p l e room_1 s m #[(.int p1)] below meth c s₁ [] 0 0 := Stand.of_body Bd
  have e0 : s₁.heap = h0 := by rw [← hh, Bd.state]; rfl
  have N0 := Fr.nil n0
  refine Gl.start (Q := Q_rm0 Z p1 w_UPLOADED w_PROCESSING w_COLUMN_MAPPING w_COMPLETED w_FAILED h0 n0) (ef_rm0 m p1) ?_
  show Gl p e below s _ _ _ s₁ (mkF m 0 #[.val (.int p1), .unset, .unset, .unset] [])
  refine Gl.st (fun _ kk => XS.iloadN X0.here hx rfl (hb hby at_0) rfl kk) ?_
  show Gl p e below s _ _ _ s₁ (mkF m 1 #[.val (.int p1), .unset, .unset, .unset] [(.int p1)])
  refine Gl.st (fun _ kk => X0.ldcInt hx hown (mvT hZ (hw _ (List.mem_of_getElem? (i := 0) rfl))) (g := (mkF m 1 #[.val (.int p1), .unset, .unset, .unset] [(.int p1)])) rfl (hb hby at_1) _ kk) ?_
  show Gl p e below s _ _ _ s₁ (mkF m 3 #[.val (.int p1), .unset, .unset, .unset] [(.int (2147483647 : Int32)), (.int p1)])
  refine Gl.st (fun _ kk => XS.iand X0.here hx rfl (hb hby at_3) rfl kk) ?_
  show Gl p e below s _ _ _ s₁ (mkF m 4 #[.val (.int p1), .unset, .unset, .unset] [(.int (p1 &&& (2147483647 : Int32)))])
  refine Gl.st (fun _ kk => XS.iconst X0.here hx rfl (hb hby at_4) kk) ?_
  show Gl p e below s _ _ _ s₁ (mkF m 5 #[.val (.int p1), .unset, .unset, .unset] [(.int (5 : Int32)), (.int (p1 &&& (2147483647 : Int32)))])
  refine Gl.st (fun _ kk => iremM (g := (mkF m 5 #[.val (.int p1), .unset, .unset, .unset] [(.int (5 : Int32)), (.int (p1 &&& (2147483647 : Int32)))])) X0 hx rfl (hb hby at_5) rfl (by decide) kk) ?_
  show Gl p e below s _ _ _ s₁ (mkF m 6 #[.val (.int p1), .unset, .unset, .unset] [(.int ((p1 &&& (2147483647 : Int32)) % (5 : Int32)))])
  refine Gl.st (fun _ kk => XS.istoreN X0.here hx rfl (hb hby at_6) rfl (l' := #[.val (.int p1), .val (.int ((p1 &&& (2147483647 : Int32)) % (5 : Int32))), .unset, .unset]) rfl kk) ?_
  show Gl p e below s _ _ _ s₁ (mkF m 7 #[.val (.int p1), .val (.int ((p1 &&& (2147483647 : Int32)) % (5 : Int32))), .unset, .unset] [])
  rcases own_mod5 p1 with hk | hk | hk | hk | hk
  · rw [hk]
    show Gl p e below s _ _ _ s₁ (mkF m 7 #[.val (.int p1), .val (.int (0 : Int32)), .unset, .unset] [])
    refine Gl.st (fun _ kk => XS.iloadN X0.here hx rfl (hb hby at_7) rfl kk) ?_
    show Gl p e below s _ _ _ s₁ (mkF m 8 #[.val (.int p1), .val (.int (0 : Int32)), .unset, .unset] [(.int (0 : Int32))])
    refine Gl.st (fun _ kk => XS.ifNo X0.here hx rfl (hb hby at_8) rfl ((if0 _ _).trans (teq (by decide : (0 : Int32) = (0 : Int32))).2) kk) ?_
    show Gl p e below s _ _ _ s₁ (mkF m 11 #[.val (.int p1), .val (.int (0 : Int32)), .unset, .unset] [])
    obtain ⟨T1, X1, e1, st1⟩ := getS2 X0 hx hZ hown (host := "") (Or.inl (hw _ (List.mem_of_getElem? (i := 1) rfl))) Via.refl e0 (S_UPLOADED.ext O0.2) (g := (mkF m 11 #[.val (.int p1), .val (.int (0 : Int32)), .unset, .unset] [])) rfl (hb hby at_11)
    refine Gl.st st1 ?_
    show Gl p e below s _ _ _ T1 (mkF m 14 #[.val (.int p1), .val (.int (0 : Int32)), .unset, .unset] [(.ref w_UPLOADED)])
    refine Gl.st (fun _ kk => XS.astoreN X1.here hx rfl (hb hby at_14) rfl rfl (l' := #[.val (.int p1), .val (.int (0 : Int32)), .val (.ref w_UPLOADED), .unset]) rfl kk) ?_
    show Gl p e below s _ _ _ T1 (mkF m 15 #[.val (.int p1), .val (.int (0 : Int32)), .val (.ref w_UPLOADED), .unset] [])
    refine Gl.st (fun _ kk => XS.iconst X1.here hx rfl (hb hby at_15) kk) ?_
    show Gl p e below s _ _ _ T1 (mkF m 16 #[.val (.int p1), .val (.int (0 : Int32)), .val (.ref w_UPLOADED), .unset] [(.int (0 : Int32))])
    refine Gl.st (fun _ kk => XS.istoreN X1.here hx rfl (hb hby at_16) rfl (l' := #[.val (.int p1), .val (.int (0 : Int32)), .val (.ref w_UPLOADED), .val (.int (0 : Int32))]) rfl kk) ?_
    show Gl p e below s _ _ _ T1 (mkF m 17 #[.val (.int p1), .val (.int (0 : Int32)), .val (.ref w_UPLOADED), .val (.int (0 : Int32))] [])
    refine Gl.st (fun _ kk => XS.goto X1.here hx rfl (pc0 := 17) (pc' := 68) rfl (hb hby at_17) (by decide) (by decide) kk) ?_
    show Gl p e below s _ _ _ T1 (mkF m 68 #[.val (.int p1), .val (.int (0 : Int32)), .val (.ref w_UPLOADED), .val (.int (0 : Int32))] [])
    refine Gl.st (fun _ kk => XS.aloadN X1.here hx rfl (hb hby at_68) rfl rfl kk) ?_
    show Gl p e below s _ _ _ T1 (mkF m 69 #[.val (.int p1), .val (.int (0 : Int32)), .val (.ref w_UPLOADED), .val (.int (0 : Int32))] [(.ref w_UPLOADED)])
    obtain ⟨cq2, kq2, qa2, qb2, qc2⟩ := isOf hZ e1 (E_UPLOADED.ext O0.2)
    obtain ⟨_, _, ⟨T2, L2, k2, n2⟩, -, X2, ⟨Lc2, hQ2, l2, y2, z2⟩, st2⟩ := X1.virtualBack hx (y := (⟨"com/example/always_once/alwaysonce/ledger/JobStatus", "hasEnded", "()Z"⟩ : MethodName)) (z := (⟨"com/example/always_once/alwaysonce/ledger/JobStatus", "hasEnded", "()Z"⟩ : MethodName)) hown (mvT hZ (hw _ (List.mem_of_getElem? (i := 4) rfl))) (mvT hZ (hw _ (List.mem_of_getElem? (i := 5) rfl))) (notFace_of_selects (args := #[]) (mvT hZ (hw _ (List.mem_of_getElem? (i := 7) rfl)))) (mvT hZ (hw _ (List.mem_of_getElem? (i := 7) rfl))) (mvT hZ (hw _ (List.mem_of_getElem? (i := 6) rfl))) (by decide) (backOf (W := 0) (rm1 l Z a0 hw [] w_UPLOADED w_COMPLETED w_FAILED 0 h0 n0 O0 S_COMPLETED S_FAILED (by simp [(F_UPLOADED.ne F_COMPLETED (by decide) : w_UPLOADED ≠ w_COMPLETED), (F_UPLOADED.ne F_FAILED (by decide) : w_UPLOADED ≠ w_FAILED)])) hZ (hw _ (List.mem_of_getElem? (i := 8) rfl)) (hw _ (List.mem_of_getElem? (i := 2) rfl)) (by decide) (by decide)) qa2 qc2 (g := (mkF m 69 #[.val (.int p1), .val (.int (0 : Int32)), .val (.ref w_UPLOADED), .val (.int (0 : Int32))] [(.ref w_UPLOADED)])) rfl (by rw [hml]; rfl) (Steps.refl _) (argsL := []) (rest := []) (lenOf pd_rm0_0 rfl) rfl (by show 2 * 0 + _ ≤ _; exact Nat.le_of_eq rfl) (hb hby at_69) (fun _ _ => ⟨rfl, e1, (by decide : 0 + 0 ≤ _), (by decide : 0 + 0 ≤ _)⟩)
    dsimp only [Pt.U, Pt.locs, Pt.cells, Pt.slots] at X2 l2 y2 z2 st2 hQ2
    subst l2 y2 z2
    obtain ⟨rfl, Nq2, e2⟩ := hQ2
    have N2 := Fr.app N0 Nq2
    refine Gl.st (fun _ kk => st2.trans kk) ?_
    show Gl p e below s _ _ _ T2 (mkF m 72 #[.val (.int p1), .val (.int (0 : Int32)), .val (.ref w_UPLOADED), .val (.int (0 : Int32))] [(.int (0 : Int32))])
    refine Gl.st (fun _ kk => XS.iloadN X2.here hx rfl (hb hby at_72) rfl kk) ?_
    show Gl p e below s _ _ _ T2 (mkF m 73 #[.val (.int p1), .val (.int (0 : Int32)), .val (.ref w_UPLOADED), .val (.int (0 : Int32))] [(.int (0 : Int32)), (.int (0 : Int32))])
    refine Gl.st (fun _ kk => XS.icmpNo X2.here hx rfl (hb hby at_73) rfl (teq (by decide : (0 : Int32) = (0 : Int32))).2 kk) ?_
    show Gl p e below s _ _ _ T2 (mkF m 76 #[.val (.int p1), .val (.int (0 : Int32)), .val (.ref w_UPLOADED), .val (.int (0 : Int32))] [])
    refine Gl.st (fun _ kk => XS.iconst X2.here hx rfl (hb hby at_76) kk) ?_
    show Gl p e below s _ _ _ T2 (mkF m 77 #[.val (.int p1), .val (.int (0 : Int32)), .val (.ref w_UPLOADED), .val (.int (0 : Int32))] [(.int (1 : Int32))])
    refine Gl.st (fun _ kk => XS.goto X2.here hx rfl (pc0 := 77) (pc' := 81) rfl (hb hby at_77) (by decide) (by decide) kk) ?_
    show Gl p e below s _ _ _ T2 (mkF m 81 #[.val (.int p1), .val (.int (0 : Int32)), .val (.ref w_UPLOADED), .val (.int (0 : Int32))] [(.int (1 : Int32))])
    exact Gl.ret X2 (v := (some (.int (1 : Int32)))) (fun h => by rw [Bd.returns] at h; cases h) (BodyLoose.notSynchronized Bd) (fun hr => retN X2 hx (t := .boolean) Bd.returns (by simp) (hb hby at_81) hr) e2 ⟨rfl, N2⟩ (by decide) (by decide)
  · rw [hk]
    show Gl p e below s _ _ _ s₁ (mkF m 7 #[.val (.int p1), .val (.int (1 : Int32)), .unset, .unset] [])
    refine Gl.st (fun _ kk => XS.iloadN X0.here hx rfl (hb hby at_7) rfl kk) ?_
    show Gl p e below s _ _ _ s₁ (mkF m 8 #[.val (.int p1), .val (.int (1 : Int32)), .unset, .unset] [(.int (1 : Int32))])
    refine Gl.st (fun _ kk => XS.ifYes X0.here hx rfl (pc0 := 8) (pc' := 20) rfl (hb hby at_8) rfl ((if0 _ _).trans (feq (by decide : ¬ ((1 : Int32) = (0 : Int32)))).2) (by decide) (by decide) kk) ?_
    show Gl p e below s _ _ _ s₁ (mkF m 20 #[.val (.int p1), .val (.int (1 : Int32)), .unset, .unset] [])
    refine Gl.st (fun _ kk => XS.iloadN X0.here hx rfl (hb hby at_20) rfl kk) ?_
    show Gl p e below s _ _ _ s₁ (mkF m 21 #[.val (.int p1), .val (.int (1 : Int32)), .unset, .unset] [(.int (1 : Int32))])
    refine Gl.st (fun _ kk => XS.iconst X0.here hx rfl (hb hby at_21) kk) ?_
    show Gl p e below s _ _ _ s₁ (mkF m 22 #[.val (.int p1), .val (.int (1 : Int32)), .unset, .unset] [(.int (1 : Int32)), (.int (1 : Int32))])
    refine Gl.st (fun _ kk => XS.icmpNo X0.here hx rfl (hb hby at_22) rfl (teq (by decide : (1 : Int32) = (1 : Int32))).2 kk) ?_
    show Gl p e below s _ _ _ s₁ (mkF m 25 #[.val (.int p1), .val (.int (1 : Int32)), .unset, .unset] [])
    obtain ⟨T3, X3, e3, st3⟩ := getS2 X0 hx hZ hown (host := "") (Or.inl (hw _ (List.mem_of_getElem? (i := 14) rfl))) Via.refl e0 (S_PROCESSING.ext O0.2) (g := (mkF m 25 #[.val (.int p1), .val (.int (1 : Int32)), .unset, .unset] [])) rfl (hb hby at_25)
    refine Gl.st st3 ?_
    show Gl p e below s _ _ _ T3 (mkF m 28 #[.val (.int p1), .val (.int (1 : Int32)), .unset, .unset] [(.ref w_PROCESSING)])
    refine Gl.st (fun _ kk => XS.astoreN X3.here hx rfl (hb hby at_28) rfl rfl (l' := #[.val (.int p1), .val (.int (1 : Int32)), .val (.ref w_PROCESSING), .unset]) rfl kk) ?_
    show Gl p e below s _ _ _ T3 (mkF m 29 #[.val (.int p1), .val (.int (1 : Int32)), .val (.ref w_PROCESSING), .unset] [])
    refine Gl.st (fun _ kk => XS.iconst X3.here hx rfl (hb hby at_29) kk) ?_
    show Gl p e below s _ _ _ T3 (mkF m 30 #[.val (.int p1), .val (.int (1 : Int32)), .val (.ref w_PROCESSING), .unset] [(.int (0 : Int32))])
    refine Gl.st (fun _ kk => XS.istoreN X3.here hx rfl (hb hby at_30) rfl (l' := #[.val (.int p1), .val (.int (1 : Int32)), .val (.ref w_PROCESSING), .val (.int (0 : Int32))]) rfl kk) ?_
    show Gl p e below s _ _ _ T3 (mkF m 31 #[.val (.int p1), .val (.int (1 : Int32)), .val (.ref w_PROCESSING), .val (.int (0 : Int32))] [])
    refine Gl.st (fun _ kk => XS.goto X3.here hx rfl (pc0 := 31) (pc' := 68) rfl (hb hby at_31) (by decide) (by decide) kk) ?_
    show Gl p e below s _ _ _ T3 (mkF m 68 #[.val (.int p1), .val (.int (1 : Int32)), .val (.ref w_PROCESSING), .val (.int (0 : Int32))] [])
    refine Gl.st (fun _ kk => XS.aloadN X3.here hx rfl (hb hby at_68) rfl rfl kk) ?_
    show Gl p e below s _ _ _ T3 (mkF m 69 #[.val (.int p1), .val (.int (1 : Int32)), .val (.ref w_PROCESSING), .val (.int (0 : Int32))] [(.ref w_PROCESSING)])
    obtain ⟨cq4, kq4, qa4, qb4, qc4⟩ := isOf hZ e3 (E_PROCESSING.ext O0.2)
    obtain ⟨_, _, ⟨T4, L4, k4, n4⟩, -, X4, ⟨Lc4, hQ4, l4, y4, z4⟩, st4⟩ := X3.virtualBack hx (y := (⟨"com/example/always_once/alwaysonce/ledger/JobStatus", "hasEnded", "()Z"⟩ : MethodName)) (z := (⟨"com/example/always_once/alwaysonce/ledger/JobStatus", "hasEnded", "()Z"⟩ : MethodName)) hown (mvT hZ (hw _ (List.mem_of_getElem? (i := 4) rfl))) (mvT hZ (hw _ (List.mem_of_getElem? (i := 5) rfl))) (notFace_of_selects (args := #[]) (mvT hZ (hw _ (List.mem_of_getElem? (i := 7) rfl)))) (mvT hZ (hw _ (List.mem_of_getElem? (i := 7) rfl))) (mvT hZ (hw _ (List.mem_of_getElem? (i := 6) rfl))) (by decide) (backOf (W := 0) (rm1 l Z a0 hw [] w_PROCESSING w_COMPLETED w_FAILED 0 h0 n0 O0 S_COMPLETED S_FAILED (by simp [(F_PROCESSING.ne F_COMPLETED (by decide) : w_PROCESSING ≠ w_COMPLETED), (F_PROCESSING.ne F_FAILED (by decide) : w_PROCESSING ≠ w_FAILED)])) hZ (hw _ (List.mem_of_getElem? (i := 8) rfl)) (hw _ (List.mem_of_getElem? (i := 2) rfl)) (by decide) (by decide)) qa4 qc4 (g := (mkF m 69 #[.val (.int p1), .val (.int (1 : Int32)), .val (.ref w_PROCESSING), .val (.int (0 : Int32))] [(.ref w_PROCESSING)])) rfl (by rw [hml]; rfl) (Steps.refl _) (argsL := []) (rest := []) (lenOf pd_rm0_0 rfl) rfl (by show 2 * 0 + _ ≤ _; exact Nat.le_of_eq rfl) (hb hby at_69) (fun _ _ => ⟨rfl, e3, (by decide : 0 + 0 ≤ _), (by decide : 0 + 0 ≤ _)⟩)
    dsimp only [Pt.U, Pt.locs, Pt.cells, Pt.slots] at X4 l4 y4 z4 st4 hQ4
    subst l4 y4 z4
    obtain ⟨rfl, Nq4, e4⟩ := hQ4
    have N4 := Fr.app N0 Nq4
    refine Gl.st (fun _ kk => st4.trans kk) ?_
    show Gl p e below s _ _ _ T4 (mkF m 72 #[.val (.int p1), .val (.int (1 : Int32)), .val (.ref w_PROCESSING), .val (.int (0 : Int32))] [(.int (0 : Int32))])
    refine Gl.st (fun _ kk => XS.iloadN X4.here hx rfl (hb hby at_72) rfl kk) ?_
    show Gl p e below s _ _ _ T4 (mkF m 73 #[.val (.int p1), .val (.int (1 : Int32)), .val (.ref w_PROCESSING), .val (.int (0 : Int32))] [(.int (0 : Int32)), (.int (0 : Int32))])
    refine Gl.st (fun _ kk => XS.icmpNo X4.here hx rfl (hb hby at_73) rfl (teq (by decide : (0 : Int32) = (0 : Int32))).2 kk) ?_
    show Gl p e below s _ _ _ T4 (mkF m 76 #[.val (.int p1), .val (.int (1 : Int32)), .val (.ref w_PROCESSING), .val (.int (0 : Int32))] [])
    refine Gl.st (fun _ kk => XS.iconst X4.here hx rfl (hb hby at_76) kk) ?_
    show Gl p e below s _ _ _ T4 (mkF m 77 #[.val (.int p1), .val (.int (1 : Int32)), .val (.ref w_PROCESSING), .val (.int (0 : Int32))] [(.int (1 : Int32))])
    refine Gl.st (fun _ kk => XS.goto X4.here hx rfl (pc0 := 77) (pc' := 81) rfl (hb hby at_77) (by decide) (by decide) kk) ?_
    show Gl p e below s _ _ _ T4 (mkF m 81 #[.val (.int p1), .val (.int (1 : Int32)), .val (.ref w_PROCESSING), .val (.int (0 : Int32))] [(.int (1 : Int32))])
    exact Gl.ret X4 (v := (some (.int (1 : Int32)))) (fun h => by rw [Bd.returns] at h; cases h) (BodyLoose.notSynchronized Bd) (fun hr => retN X4 hx (t := .boolean) Bd.returns (by simp) (hb hby at_81) hr) e4 ⟨rfl, N4⟩ (by decide) (by decide)
  · rw [hk]
    show Gl p e below s _ _ _ s₁ (mkF m 7 #[.val (.int p1), .val (.int (2 : Int32)), .unset, .unset] [])
    refine Gl.st (fun _ kk => XS.iloadN X0.here hx rfl (hb hby at_7) rfl kk) ?_
    show Gl p e below s _ _ _ s₁ (mkF m 8 #[.val (.int p1), .val (.int (2 : Int32)), .unset, .unset] [(.int (2 : Int32))])
    refine Gl.st (fun _ kk => XS.ifYes X0.here hx rfl (pc0 := 8) (pc' := 20) rfl (hb hby at_8) rfl ((if0 _ _).trans (feq (by decide : ¬ ((2 : Int32) = (0 : Int32)))).2) (by decide) (by decide) kk) ?_
    show Gl p e below s _ _ _ s₁ (mkF m 20 #[.val (.int p1), .val (.int (2 : Int32)), .unset, .unset] [])
    refine Gl.st (fun _ kk => XS.iloadN X0.here hx rfl (hb hby at_20) rfl kk) ?_
    show Gl p e below s _ _ _ s₁ (mkF m 21 #[.val (.int p1), .val (.int (2 : Int32)), .unset, .unset] [(.int (2 : Int32))])
    refine Gl.st (fun _ kk => XS.iconst X0.here hx rfl (hb hby at_21) kk) ?_
    show Gl p e below s _ _ _ s₁ (mkF m 22 #[.val (.int p1), .val (.int (2 : Int32)), .unset, .unset] [(.int (1 : Int32)), (.int (2 : Int32))])
    refine Gl.st (fun _ kk => XS.icmpYes X0.here hx rfl (pc0 := 22) (pc' := 34) rfl (hb hby at_22) rfl (feq (by decide : ¬ ((2 : Int32) = (1 : Int32)))).2 (by decide) (by decide) kk) ?_
    show Gl p e below s _ _ _ s₁ (mkF m 34 #[.val (.int p1), .val (.int (2 : Int32)), .unset, .unset] [])
    refine Gl.st (fun _ kk => XS.iloadN X0.here hx rfl (hb hby at_34) rfl kk) ?_
    show Gl p e below s _ _ _ s₁ (mkF m 35 #[.val (.int p1), .val (.int (2 : Int32)), .unset, .unset] [(.int (2 : Int32))])
    refine Gl.st (fun _ kk => XS.iconst X0.here hx rfl (hb hby at_35) kk) ?_
    show Gl p e below s _ _ _ s₁ (mkF m 36 #[.val (.int p1), .val (.int (2 : Int32)), .unset, .unset] [(.int (2 : Int32)), (.int (2 : Int32))])
    refine Gl.st (fun _ kk => XS.icmpNo X0.here hx rfl (hb hby at_36) rfl (teq (by decide : (2 : Int32) = (2 : Int32))).2 kk) ?_
    show Gl p e below s _ _ _ s₁ (mkF m 39 #[.val (.int p1), .val (.int (2 : Int32)), .unset, .unset] [])
    obtain ⟨T5, X5, e5, st5⟩ := getS2 X0 hx hZ hown (host := "") (Or.inl (hw _ (List.mem_of_getElem? (i := 17) rfl))) Via.refl e0 (S_COLUMN_MAPPING.ext O0.2) (g := (mkF m 39 #[.val (.int p1), .val (.int (2 : Int32)), .unset, .unset] [])) rfl (hb hby at_39)
    refine Gl.st st5 ?_
    show Gl p e below s _ _ _ T5 (mkF m 42 #[.val (.int p1), .val (.int (2 : Int32)), .unset, .unset] [(.ref w_COLUMN_MAPPING)])
    refine Gl.st (fun _ kk => XS.astoreN X5.here hx rfl (hb hby at_42) rfl rfl (l' := #[.val (.int p1), .val (.int (2 : Int32)), .val (.ref w_COLUMN_MAPPING), .unset]) rfl kk) ?_
    show Gl p e below s _ _ _ T5 (mkF m 43 #[.val (.int p1), .val (.int (2 : Int32)), .val (.ref w_COLUMN_MAPPING), .unset] [])
    refine Gl.st (fun _ kk => XS.iconst X5.here hx rfl (hb hby at_43) kk) ?_
    show Gl p e below s _ _ _ T5 (mkF m 44 #[.val (.int p1), .val (.int (2 : Int32)), .val (.ref w_COLUMN_MAPPING), .unset] [(.int (0 : Int32))])
    refine Gl.st (fun _ kk => XS.istoreN X5.here hx rfl (hb hby at_44) rfl (l' := #[.val (.int p1), .val (.int (2 : Int32)), .val (.ref w_COLUMN_MAPPING), .val (.int (0 : Int32))]) rfl kk) ?_
    show Gl p e below s _ _ _ T5 (mkF m 45 #[.val (.int p1), .val (.int (2 : Int32)), .val (.ref w_COLUMN_MAPPING), .val (.int (0 : Int32))] [])
    refine Gl.st (fun _ kk => XS.goto X5.here hx rfl (pc0 := 45) (pc' := 68) rfl (hb hby at_45) (by decide) (by decide) kk) ?_
    show Gl p e below s _ _ _ T5 (mkF m 68 #[.val (.int p1), .val (.int (2 : Int32)), .val (.ref w_COLUMN_MAPPING), .val (.int (0 : Int32))] [])
    refine Gl.st (fun _ kk => XS.aloadN X5.here hx rfl (hb hby at_68) rfl rfl kk) ?_
    show Gl p e below s _ _ _ T5 (mkF m 69 #[.val (.int p1), .val (.int (2 : Int32)), .val (.ref w_COLUMN_MAPPING), .val (.int (0 : Int32))] [(.ref w_COLUMN_MAPPING)])
    obtain ⟨cq6, kq6, qa6, qb6, qc6⟩ := isOf hZ e5 (E_COLUMN_MAPPING.ext O0.2)
    obtain ⟨_, _, ⟨T6, L6, k6, n6⟩, -, X6, ⟨Lc6, hQ6, l6, y6, z6⟩, st6⟩ := X5.virtualBack hx (y := (⟨"com/example/always_once/alwaysonce/ledger/JobStatus", "hasEnded", "()Z"⟩ : MethodName)) (z := (⟨"com/example/always_once/alwaysonce/ledger/JobStatus", "hasEnded", "()Z"⟩ : MethodName)) hown (mvT hZ (hw _ (List.mem_of_getElem? (i := 4) rfl))) (mvT hZ (hw _ (List.mem_of_getElem? (i := 5) rfl))) (notFace_of_selects (args := #[]) (mvT hZ (hw _ (List.mem_of_getElem? (i := 7) rfl)))) (mvT hZ (hw _ (List.mem_of_getElem? (i := 7) rfl))) (mvT hZ (hw _ (List.mem_of_getElem? (i := 6) rfl))) (by decide) (backOf (W := 0) (rm1 l Z a0 hw [] w_COLUMN_MAPPING w_COMPLETED w_FAILED 0 h0 n0 O0 S_COMPLETED S_FAILED (by simp [(F_COLUMN_MAPPING.ne F_COMPLETED (by decide) : w_COLUMN_MAPPING ≠ w_COMPLETED), (F_COLUMN_MAPPING.ne F_FAILED (by decide) : w_COLUMN_MAPPING ≠ w_FAILED)])) hZ (hw _ (List.mem_of_getElem? (i := 8) rfl)) (hw _ (List.mem_of_getElem? (i := 2) rfl)) (by decide) (by decide)) qa6 qc6 (g := (mkF m 69 #[.val (.int p1), .val (.int (2 : Int32)), .val (.ref w_COLUMN_MAPPING), .val (.int (0 : Int32))] [(.ref w_COLUMN_MAPPING)])) rfl (by rw [hml]; rfl) (Steps.refl _) (argsL := []) (rest := []) (lenOf pd_rm0_0 rfl) rfl (by show 2 * 0 + _ ≤ _; exact Nat.le_of_eq rfl) (hb hby at_69) (fun _ _ => ⟨rfl, e5, (by decide : 0 + 0 ≤ _), (by decide : 0 + 0 ≤ _)⟩)
    dsimp only [Pt.U, Pt.locs, Pt.cells, Pt.slots] at X6 l6 y6 z6 st6 hQ6
    subst l6 y6 z6
    obtain ⟨rfl, Nq6, e6⟩ := hQ6
    have N6 := Fr.app N0 Nq6
    refine Gl.st (fun _ kk => st6.trans kk) ?_
    show Gl p e below s _ _ _ T6 (mkF m 72 #[.val (.int p1), .val (.int (2 : Int32)), .val (.ref w_COLUMN_MAPPING), .val (.int (0 : Int32))] [(.int (0 : Int32))])
    refine Gl.st (fun _ kk => XS.iloadN X6.here hx rfl (hb hby at_72) rfl kk) ?_
    show Gl p e below s _ _ _ T6 (mkF m 73 #[.val (.int p1), .val (.int (2 : Int32)), .val (.ref w_COLUMN_MAPPING), .val (.int (0 : Int32))] [(.int (0 : Int32)), (.int (0 : Int32))])
    refine Gl.st (fun _ kk => XS.icmpNo X6.here hx rfl (hb hby at_73) rfl (teq (by decide : (0 : Int32) = (0 : Int32))).2 kk) ?_
    show Gl p e below s _ _ _ T6 (mkF m 76 #[.val (.int p1), .val (.int (2 : Int32)), .val (.ref w_COLUMN_MAPPING), .val (.int (0 : Int32))] [])
    refine Gl.st (fun _ kk => XS.iconst X6.here hx rfl (hb hby at_76) kk) ?_
    show Gl p e below s _ _ _ T6 (mkF m 77 #[.val (.int p1), .val (.int (2 : Int32)), .val (.ref w_COLUMN_MAPPING), .val (.int (0 : Int32))] [(.int (1 : Int32))])
    refine Gl.st (fun _ kk => XS.goto X6.here hx rfl (pc0 := 77) (pc' := 81) rfl (hb hby at_77) (by decide) (by decide) kk) ?_
    show Gl p e below s _ _ _ T6 (mkF m 81 #[.val (.int p1), .val (.int (2 : Int32)), .val (.ref w_COLUMN_MAPPING), .val (.int (0 : Int32))] [(.int (1 : Int32))])
    exact Gl.ret X6 (v := (some (.int (1 : Int32)))) (fun h => by rw [Bd.returns] at h; cases h) (BodyLoose.notSynchronized Bd) (fun hr => retN X6 hx (t := .boolean) Bd.returns (by simp) (hb hby at_81) hr) e6 ⟨rfl, N6⟩ (by decide) (by decide)
  · rw [hk]
    show Gl p e below s _ _ _ s₁ (mkF m 7 #[.val (.int p1), .val (.int (3 : Int32)), .unset, .unset] [])
    refine Gl.st (fun _ kk => XS.iloadN X0.here hx rfl (hb hby at_7) rfl kk) ?_
    show Gl p e below s _ _ _ s₁ (mkF m 8 #[.val (.int p1), .val (.int (3 : Int32)), .unset, .unset] [(.int (3 : Int32))])
    refine Gl.st (fun _ kk => XS.ifYes X0.here hx rfl (pc0 := 8) (pc' := 20) rfl (hb hby at_8) rfl ((if0 _ _).trans (feq (by decide : ¬ ((3 : Int32) = (0 : Int32)))).2) (by decide) (by decide) kk) ?_
    show Gl p e below s _ _ _ s₁ (mkF m 20 #[.val (.int p1), .val (.int (3 : Int32)), .unset, .unset] [])
    refine Gl.st (fun _ kk => XS.iloadN X0.here hx rfl (hb hby at_20) rfl kk) ?_
    show Gl p e below s _ _ _ s₁ (mkF m 21 #[.val (.int p1), .val (.int (3 : Int32)), .unset, .unset] [(.int (3 : Int32))])
    refine Gl.st (fun _ kk => XS.iconst X0.here hx rfl (hb hby at_21) kk) ?_
    show Gl p e below s _ _ _ s₁ (mkF m 22 #[.val (.int p1), .val (.int (3 : Int32)), .unset, .unset] [(.int (1 : Int32)), (.int (3 : Int32))])
    refine Gl.st (fun _ kk => XS.icmpYes X0.here hx rfl (pc0 := 22) (pc' := 34) rfl (hb hby at_22) rfl (feq (by decide : ¬ ((3 : Int32) = (1 : Int32)))).2 (by decide) (by decide) kk) ?_
    show Gl p e below s _ _ _ s₁ (mkF m 34 #[.val (.int p1), .val (.int (3 : Int32)), .unset, .unset] [])
    refine Gl.st (fun _ kk => XS.iloadN X0.here hx rfl (hb hby at_34) rfl kk) ?_
    show Gl p e below s _ _ _ s₁ (mkF m 35 #[.val (.int p1), .val (.int (3 : Int32)), .unset, .unset] [(.int (3 : Int32))])
    refine Gl.st (fun _ kk => XS.iconst X0.here hx rfl (hb hby at_35) kk) ?_
    show Gl p e below s _ _ _ s₁ (mkF m 36 #[.val (.int p1), .val (.int (3 : Int32)), .unset, .unset] [(.int (2 : Int32)), (.int (3 : Int32))])
    refine Gl.st (fun _ kk => XS.icmpYes X0.here hx rfl (pc0 := 36) (pc' := 48) rfl (hb hby at_36) rfl (feq (by decide : ¬ ((3 : Int32) = (2 : Int32)))).2 (by decide) (by decide) kk) ?_
    show Gl p e below s _ _ _ s₁ (mkF m 48 #[.val (.int p1), .val (.int (3 : Int32)), .unset, .unset] [])
    refine Gl.st (fun _ kk => XS.iloadN X0.here hx rfl (hb hby at_48) rfl kk) ?_
    show Gl p e below s _ _ _ s₁ (mkF m 49 #[.val (.int p1), .val (.int (3 : Int32)), .unset, .unset] [(.int (3 : Int32))])
    refine Gl.st (fun _ kk => XS.iconst X0.here hx rfl (hb hby at_49) kk) ?_
    show Gl p e below s _ _ _ s₁ (mkF m 50 #[.val (.int p1), .val (.int (3 : Int32)), .unset, .unset] [(.int (3 : Int32)), (.int (3 : Int32))])
    refine Gl.st (fun _ kk => XS.icmpNo X0.here hx rfl (hb hby at_50) rfl (teq (by decide : (3 : Int32) = (3 : Int32))).2 kk) ?_
    show Gl p e below s _ _ _ s₁ (mkF m 53 #[.val (.int p1), .val (.int (3 : Int32)), .unset, .unset] [])
    obtain ⟨T7, X7, e7, st7⟩ := getS2 X0 hx hZ hown (host := "") (Or.inl (hw _ (List.mem_of_getElem? (i := 13) rfl))) Via.refl e0 (S_COMPLETED.ext O0.2) (g := (mkF m 53 #[.val (.int p1), .val (.int (3 : Int32)), .unset, .unset] [])) rfl (hb hby at_53)
    refine Gl.st st7 ?_
    show Gl p e below s _ _ _ T7 (mkF m 56 #[.val (.int p1), .val (.int (3 : Int32)), .unset, .unset] [(.ref w_COMPLETED)])
    refine Gl.st (fun _ kk => XS.astoreN X7.here hx rfl (hb hby at_56) rfl rfl (l' := #[.val (.int p1), .val (.int (3 : Int32)), .val (.ref w_COMPLETED), .unset]) rfl kk) ?_
    show Gl p e below s _ _ _ T7 (mkF m 57 #[.val (.int p1), .val (.int (3 : Int32)), .val (.ref w_COMPLETED), .unset] [])
    refine Gl.st (fun _ kk => XS.iconst X7.here hx rfl (hb hby at_57) kk) ?_
    show Gl p e below s _ _ _ T7 (mkF m 58 #[.val (.int p1), .val (.int (3 : Int32)), .val (.ref w_COMPLETED), .unset] [(.int (1 : Int32))])
    refine Gl.st (fun _ kk => XS.istoreN X7.here hx rfl (hb hby at_58) rfl (l' := #[.val (.int p1), .val (.int (3 : Int32)), .val (.ref w_COMPLETED), .val (.int (1 : Int32))]) rfl kk) ?_
    show Gl p e below s _ _ _ T7 (mkF m 59 #[.val (.int p1), .val (.int (3 : Int32)), .val (.ref w_COMPLETED), .val (.int (1 : Int32))] [])
    refine Gl.st (fun _ kk => XS.goto X7.here hx rfl (pc0 := 59) (pc' := 68) rfl (hb hby at_59) (by decide) (by decide) kk) ?_
    show Gl p e below s _ _ _ T7 (mkF m 68 #[.val (.int p1), .val (.int (3 : Int32)), .val (.ref w_COMPLETED), .val (.int (1 : Int32))] [])
    refine Gl.st (fun _ kk => XS.aloadN X7.here hx rfl (hb hby at_68) rfl rfl kk) ?_
    show Gl p e below s _ _ _ T7 (mkF m 69 #[.val (.int p1), .val (.int (3 : Int32)), .val (.ref w_COMPLETED), .val (.int (1 : Int32))] [(.ref w_COMPLETED)])
    obtain ⟨cq8, kq8, qa8, qb8, qc8⟩ := isOf hZ e7 (E_COMPLETED.ext O0.2)
    obtain ⟨_, _, ⟨T8, L8, k8, n8⟩, -, X8, ⟨Lc8, hQ8, l8, y8, z8⟩, st8⟩ := X7.virtualBack hx (y := (⟨"com/example/always_once/alwaysonce/ledger/JobStatus", "hasEnded", "()Z"⟩ : MethodName)) (z := (⟨"com/example/always_once/alwaysonce/ledger/JobStatus", "hasEnded", "()Z"⟩ : MethodName)) hown (mvT hZ (hw _ (List.mem_of_getElem? (i := 4) rfl))) (mvT hZ (hw _ (List.mem_of_getElem? (i := 5) rfl))) (notFace_of_selects (args := #[]) (mvT hZ (hw _ (List.mem_of_getElem? (i := 7) rfl)))) (mvT hZ (hw _ (List.mem_of_getElem? (i := 7) rfl))) (mvT hZ (hw _ (List.mem_of_getElem? (i := 6) rfl))) (by decide) (backOf (W := 0) (rm1 l Z a0 hw [] w_COMPLETED w_COMPLETED w_FAILED 1 h0 n0 O0 S_COMPLETED S_FAILED (by simp [(F_COMPLETED.ne F_FAILED (by decide) : w_COMPLETED ≠ w_FAILED)])) hZ (hw _ (List.mem_of_getElem? (i := 8) rfl)) (hw _ (List.mem_of_getElem? (i := 2) rfl)) (by decide) (by decide)) qa8 qc8 (g := (mkF m 69 #[.val (.int p1), .val (.int (3 : Int32)), .val (.ref w_COMPLETED), .val (.int (1 : Int32))] [(.ref w_COMPLETED)])) rfl (by rw [hml]; rfl) (Steps.refl _) (argsL := []) (rest := []) (lenOf pd_rm0_0 rfl) rfl (by show 2 * 0 + _ ≤ _; exact Nat.le_of_eq rfl) (hb hby at_69) (fun _ _ => ⟨rfl, e7, (by decide : 0 + 0 ≤ _), (by decide : 0 + 0 ≤ _)⟩)
    dsimp only [Pt.U, Pt.locs, Pt.cells, Pt.slots] at X8 l8 y8 z8 st8 hQ8
    subst l8 y8 z8
    obtain ⟨rfl, Nq8, e8⟩ := hQ8
    have N8 := Fr.app N0 Nq8
    refine Gl.st (fun _ kk => st8.trans kk) ?_
    show Gl p e below s _ _ _ T8 (mkF m 72 #[.val (.int p1), .val (.int (3 : Int32)), .val (.ref w_COMPLETED), .val (.int (1 : Int32))] [(.int (1 : Int32))])
    refine Gl.st (fun _ kk => XS.iloadN X8.here hx rfl (hb hby at_72) rfl kk) ?_
    show Gl p e below s _ _ _ T8 (mkF m 73 #[.val (.int p1), .val (.int (3 : Int32)), .val (.ref w_COMPLETED), .val (.int (1 : Int32))] [(.int (1 : Int32)), (.int (1 : Int32))])
    refine Gl.st (fun _ kk => XS.icmpNo X8.here hx rfl (hb hby at_73) rfl (teq (by decide : (1 : Int32) = (1 : Int32))).2 kk) ?_
    show Gl p e below s _ _ _ T8 (mkF m 76 #[.val (.int p1), .val (.int (3 : Int32)), .val (.ref w_COMPLETED), .val (.int (1 : Int32))] [])
    refine Gl.st (fun _ kk => XS.iconst X8.here hx rfl (hb hby at_76) kk) ?_
    show Gl p e below s _ _ _ T8 (mkF m 77 #[.val (.int p1), .val (.int (3 : Int32)), .val (.ref w_COMPLETED), .val (.int (1 : Int32))] [(.int (1 : Int32))])
    refine Gl.st (fun _ kk => XS.goto X8.here hx rfl (pc0 := 77) (pc' := 81) rfl (hb hby at_77) (by decide) (by decide) kk) ?_
    show Gl p e below s _ _ _ T8 (mkF m 81 #[.val (.int p1), .val (.int (3 : Int32)), .val (.ref w_COMPLETED), .val (.int (1 : Int32))] [(.int (1 : Int32))])
    exact Gl.ret X8 (v := (some (.int (1 : Int32)))) (fun h => by rw [Bd.returns] at h; cases h) (BodyLoose.notSynchronized Bd) (fun hr => retN X8 hx (t := .boolean) Bd.returns (by simp) (hb hby at_81) hr) e8 ⟨rfl, N8⟩ (by decide) (by decide)
  · rw [hk]
    show Gl p e below s _ _ _ s₁ (mkF m 7 #[.val (.int p1), .val (.int (4 : Int32)), .unset, .unset] [])
    refine Gl.st (fun _ kk => XS.iloadN X0.here hx rfl (hb hby at_7) rfl kk) ?_
    show Gl p e below s _ _ _ s₁ (mkF m 8 #[.val (.int p1), .val (.int (4 : Int32)), .unset, .unset] [(.int (4 : Int32))])
    refine Gl.st (fun _ kk => XS.ifYes X0.here hx rfl (pc0 := 8) (pc' := 20) rfl (hb hby at_8) rfl ((if0 _ _).trans (feq (by decide : ¬ ((4 : Int32) = (0 : Int32)))).2) (by decide) (by decide) kk) ?_
    show Gl p e below s _ _ _ s₁ (mkF m 20 #[.val (.int p1), .val (.int (4 : Int32)), .unset, .unset] [])
    refine Gl.st (fun _ kk => XS.iloadN X0.here hx rfl (hb hby at_20) rfl kk) ?_
    show Gl p e below s _ _ _ s₁ (mkF m 21 #[.val (.int p1), .val (.int (4 : Int32)), .unset, .unset] [(.int (4 : Int32))])
    refine Gl.st (fun _ kk => XS.iconst X0.here hx rfl (hb hby at_21) kk) ?_
    show Gl p e below s _ _ _ s₁ (mkF m 22 #[.val (.int p1), .val (.int (4 : Int32)), .unset, .unset] [(.int (1 : Int32)), (.int (4 : Int32))])
    refine Gl.st (fun _ kk => XS.icmpYes X0.here hx rfl (pc0 := 22) (pc' := 34) rfl (hb hby at_22) rfl (feq (by decide : ¬ ((4 : Int32) = (1 : Int32)))).2 (by decide) (by decide) kk) ?_
    show Gl p e below s _ _ _ s₁ (mkF m 34 #[.val (.int p1), .val (.int (4 : Int32)), .unset, .unset] [])
    refine Gl.st (fun _ kk => XS.iloadN X0.here hx rfl (hb hby at_34) rfl kk) ?_
    show Gl p e below s _ _ _ s₁ (mkF m 35 #[.val (.int p1), .val (.int (4 : Int32)), .unset, .unset] [(.int (4 : Int32))])
    refine Gl.st (fun _ kk => XS.iconst X0.here hx rfl (hb hby at_35) kk) ?_
    show Gl p e below s _ _ _ s₁ (mkF m 36 #[.val (.int p1), .val (.int (4 : Int32)), .unset, .unset] [(.int (2 : Int32)), (.int (4 : Int32))])
    refine Gl.st (fun _ kk => XS.icmpYes X0.here hx rfl (pc0 := 36) (pc' := 48) rfl (hb hby at_36) rfl (feq (by decide : ¬ ((4 : Int32) = (2 : Int32)))).2 (by decide) (by decide) kk) ?_
    show Gl p e below s _ _ _ s₁ (mkF m 48 #[.val (.int p1), .val (.int (4 : Int32)), .unset, .unset] [])
    refine Gl.st (fun _ kk => XS.iloadN X0.here hx rfl (hb hby at_48) rfl kk) ?_
    show Gl p e below s _ _ _ s₁ (mkF m 49 #[.val (.int p1), .val (.int (4 : Int32)), .unset, .unset] [(.int (4 : Int32))])
    refine Gl.st (fun _ kk => XS.iconst X0.here hx rfl (hb hby at_49) kk) ?_
    show Gl p e below s _ _ _ s₁ (mkF m 50 #[.val (.int p1), .val (.int (4 : Int32)), .unset, .unset] [(.int (3 : Int32)), (.int (4 : Int32))])
    refine Gl.st (fun _ kk => XS.icmpYes X0.here hx rfl (pc0 := 50) (pc' := 62) rfl (hb hby at_50) rfl (feq (by decide : ¬ ((4 : Int32) = (3 : Int32)))).2 (by decide) (by decide) kk) ?_
    show Gl p e below s _ _ _ s₁ (mkF m 62 #[.val (.int p1), .val (.int (4 : Int32)), .unset, .unset] [])
    obtain ⟨T9, X9, e9, st9⟩ := getS2 X0 hx hZ hown (host := "") (Or.inl (hw _ (List.mem_of_getElem? (i := 16) rfl))) Via.refl e0 (S_FAILED.ext O0.2) (g := (mkF m 62 #[.val (.int p1), .val (.int (4 : Int32)), .unset, .unset] [])) rfl (hb hby at_62)
    refine Gl.st st9 ?_
    show Gl p e below s _ _ _ T9 (mkF m 65 #[.val (.int p1), .val (.int (4 : Int32)), .unset, .unset] [(.ref w_FAILED)])
    refine Gl.st (fun _ kk => XS.astoreN X9.here hx rfl (hb hby at_65) rfl rfl (l' := #[.val (.int p1), .val (.int (4 : Int32)), .val (.ref w_FAILED), .unset]) rfl kk) ?_
    show Gl p e below s _ _ _ T9 (mkF m 66 #[.val (.int p1), .val (.int (4 : Int32)), .val (.ref w_FAILED), .unset] [])
    refine Gl.st (fun _ kk => XS.iconst X9.here hx rfl (hb hby at_66) kk) ?_
    show Gl p e below s _ _ _ T9 (mkF m 67 #[.val (.int p1), .val (.int (4 : Int32)), .val (.ref w_FAILED), .unset] [(.int (1 : Int32))])
    refine Gl.st (fun _ kk => XS.istoreN X9.here hx rfl (hb hby at_67) rfl (l' := #[.val (.int p1), .val (.int (4 : Int32)), .val (.ref w_FAILED), .val (.int (1 : Int32))]) rfl kk) ?_
    show Gl p e below s _ _ _ T9 (mkF m 68 #[.val (.int p1), .val (.int (4 : Int32)), .val (.ref w_FAILED), .val (.int (1 : Int32))] [])
    refine Gl.st (fun _ kk => XS.aloadN X9.here hx rfl (hb hby at_68) rfl rfl kk) ?_
    show Gl p e below s _ _ _ T9 (mkF m 69 #[.val (.int p1), .val (.int (4 : Int32)), .val (.ref w_FAILED), .val (.int (1 : Int32))] [(.ref w_FAILED)])
    obtain ⟨cq10, kq10, qa10, qb10, qc10⟩ := isOf hZ e9 (E_FAILED.ext O0.2)
    obtain ⟨_, _, ⟨T10, L10, k10, n10⟩, -, X10, ⟨Lc10, hQ10, l10, y10, z10⟩, st10⟩ := X9.virtualBack hx (y := (⟨"com/example/always_once/alwaysonce/ledger/JobStatus", "hasEnded", "()Z"⟩ : MethodName)) (z := (⟨"com/example/always_once/alwaysonce/ledger/JobStatus", "hasEnded", "()Z"⟩ : MethodName)) hown (mvT hZ (hw _ (List.mem_of_getElem? (i := 4) rfl))) (mvT hZ (hw _ (List.mem_of_getElem? (i := 5) rfl))) (notFace_of_selects (args := #[]) (mvT hZ (hw _ (List.mem_of_getElem? (i := 7) rfl)))) (mvT hZ (hw _ (List.mem_of_getElem? (i := 7) rfl))) (mvT hZ (hw _ (List.mem_of_getElem? (i := 6) rfl))) (by decide) (backOf (W := 0) (rm1 l Z a0 hw [] w_FAILED w_COMPLETED w_FAILED 1 h0 n0 O0 S_COMPLETED S_FAILED (by simp [(F_FAILED.ne F_COMPLETED (by decide) : w_FAILED ≠ w_COMPLETED)])) hZ (hw _ (List.mem_of_getElem? (i := 8) rfl)) (hw _ (List.mem_of_getElem? (i := 2) rfl)) (by decide) (by decide)) qa10 qc10 (g := (mkF m 69 #[.val (.int p1), .val (.int (4 : Int32)), .val (.ref w_FAILED), .val (.int (1 : Int32))] [(.ref w_FAILED)])) rfl (by rw [hml]; rfl) (Steps.refl _) (argsL := []) (rest := []) (lenOf pd_rm0_0 rfl) rfl (by show 2 * 0 + _ ≤ _; exact Nat.le_of_eq rfl) (hb hby at_69) (fun _ _ => ⟨rfl, e9, (by decide : 0 + 0 ≤ _), (by decide : 0 + 0 ≤ _)⟩)
    dsimp only [Pt.U, Pt.locs, Pt.cells, Pt.slots] at X10 l10 y10 z10 st10 hQ10
    subst l10 y10 z10
    obtain ⟨rfl, Nq10, e10⟩ := hQ10
    have N10 := Fr.app N0 Nq10
    refine Gl.st (fun _ kk => st10.trans kk) ?_
    show Gl p e below s _ _ _ T10 (mkF m 72 #[.val (.int p1), .val (.int (4 : Int32)), .val (.ref w_FAILED), .val (.int (1 : Int32))] [(.int (1 : Int32))])
    refine Gl.st (fun _ kk => XS.iloadN X10.here hx rfl (hb hby at_72) rfl kk) ?_
    show Gl p e below s _ _ _ T10 (mkF m 73 #[.val (.int p1), .val (.int (4 : Int32)), .val (.ref w_FAILED), .val (.int (1 : Int32))] [(.int (1 : Int32)), (.int (1 : Int32))])
    refine Gl.st (fun _ kk => XS.icmpNo X10.here hx rfl (hb hby at_73) rfl (teq (by decide : (1 : Int32) = (1 : Int32))).2 kk) ?_
    show Gl p e below s _ _ _ T10 (mkF m 76 #[.val (.int p1), .val (.int (4 : Int32)), .val (.ref w_FAILED), .val (.int (1 : Int32))] [])
    refine Gl.st (fun _ kk => XS.iconst X10.here hx rfl (hb hby at_76) kk) ?_
    show Gl p e below s _ _ _ T10 (mkF m 77 #[.val (.int p1), .val (.int (4 : Int32)), .val (.ref w_FAILED), .val (.int (1 : Int32))] [(.int (1 : Int32))])
    refine Gl.st (fun _ kk => XS.goto X10.here hx rfl (pc0 := 77) (pc' := 81) rfl (hb hby at_77) (by decide) (by decide) kk) ?_
    show Gl p e below s _ _ _ T10 (mkF m 81 #[.val (.int p1), .val (.int (4 : Int32)), .val (.ref w_FAILED), .val (.int (1 : Int32))] [(.int (1 : Int32))])
    exact Gl.ret X10 (v := (some (.int (1 : Int32)))) (fun h => by rw [Bd.returns] at h; cases h) (BodyLoose.notSynchronized Bd) (fun hr => retN X10 hx (t := .boolean) Bd.returns (by simp) (hb hby at_81) hr) e10 ⟨rfl, N10⟩ (by decide) (by decide)
set_option maxRecDepth 65536 in
set_option maxHeartbeats 40000000 in
theorem comes_1 {Post : Tables → Env → Array Value → State → Outcome → State → Prop} (hpost : ∀ tb e args s v u, (limb_1_1.after args s (.returned v) u = true ∧ limb_1_2.after args s (.returned v) u = true ∧ True) → FrameEnd s (.returned v) u (Jvm.fieldLocs frame_1_writes args s ++ Jvm.arrayLocs frame_1_arrays args s ++ Jvm.staticLocs frame_1_statics s) 0 0 → Post tb e args s (.returned v) u) :
    ArmFor flags0 classFile x code maxLocals ret World_1 tables_1 room_1 Calls_1 rest_1 Pre_1 Post := by
  intro l hfl _ _ p e ha hc hk s m args below hf hA hF happ hP
  obtain ⟨hcalls, hrest, hpre⟩ := hP
  obtain ⟨-, -, -, hnamed, -, -, -, hat⟩ := (Spec.applies_iff hf).mp happ
  obtain ⟨hg, hn⟩ := and_e (Cond.before_iff.mp (show (Jvm.Cond.and given_1 narrow_1).before args s = true from hpre))
  obtain ⟨g1a, g1b⟩ := and_e hg
  obtain ⟨w0, rfl⟩ : ∃ w0 : Value, args = #[w0] := by
    have hs : args.size = 1 := by simpa [Cond.value, given_1] using g1a
    obtain ⟨L⟩ := args
    match L, hs with
    | [w0], _ => exact ⟨w0, rfl⟩
  have hw := fun d (hd : d ∈ tables_1) => atoms_spec (ws := Jvm.Cond.code x code maxLocals ret :: tables_1) hat d (List.mem_cons_of_mem _ hd)
  have hfit : Fit s := fun {y c} hc i hi => by
    obtain ⟨ha, rfl⟩ := Array.getElem?_eq_some_iff.mp hc
    have q := List.all_eq_true.mp ((Array.all_eq_true_iff_forall_mem.mp hF) _ (Array.getElem_mem ha)) i (List.mem_range.mpr hi)
    simpa [Array.getElem?_eq_getElem hi] using q
  obtain ⟨i0, ei0⟩ := is_v g1b
  obtain rfl : w0 = (.int i0) := Option.some.inj ei0
  obtain ⟨g2a, g2b⟩ := and_e hn
  obtain ⟨g3a, g3b⟩ := and_e g2b
  obtain ⟨g4a, g4b⟩ := and_e g3b
  obtain ⟨g5a, g5b⟩ := and_e g4b
  obtain ⟨g6a, g6b⟩ := and_e g5b
  obtain ⟨g7a, g7b⟩ := and_e g6b
  obtain ⟨g8a, g8b⟩ := and_e g7b
  obtain ⟨g9a, g9b⟩ := and_e g8b
  obtain ⟨g10a, g10b⟩ := and_e g9b
  obtain ⟨w_UPLOADED, ev_UPLOADED⟩ := exa_v g2a
  have E_UPLOADED := Exa.start ev_UPLOADED g2a
  have S_UPLOADED := Sta.start ev_UPLOADED (Or.inr ⟨(hw _ (List.mem_of_getElem? (i := 2) rfl)), (hw _ (List.mem_of_getElem? (i := 3) rfl))⟩)
  obtain ⟨w_COMPLETED, ev_COMPLETED⟩ := exa_v g3a
  have E_COMPLETED := Exa.start ev_COMPLETED g3a
  have S_COMPLETED := Sta.start ev_COMPLETED (Or.inr ⟨(hw _ (List.mem_of_getElem? (i := 2) rfl)), (hw _ (List.mem_of_getElem? (i := 10) rfl))⟩)
  obtain ⟨w_FAILED, ev_FAILED⟩ := exa_v g6a
  have E_FAILED := Exa.start ev_FAILED g6a
  have S_FAILED := Sta.start ev_FAILED (Or.inr ⟨(hw _ (List.mem_of_getElem? (i := 2) rfl)), (hw _ (List.mem_of_getElem? (i := 12) rfl))⟩)
  obtain ⟨w_PROCESSING, ev_PROCESSING⟩ := exa_v g8a
  have E_PROCESSING := Exa.start ev_PROCESSING g8a
  have S_PROCESSING := Sta.start ev_PROCESSING (Or.inr ⟨(hw _ (List.mem_of_getElem? (i := 2) rfl)), (hw _ (List.mem_of_getElem? (i := 15) rfl))⟩)
  obtain ⟨w_COLUMN_MAPPING, ev_COLUMN_MAPPING⟩ := exa_v g10a
  have E_COLUMN_MAPPING := Exa.start ev_COLUMN_MAPPING g10a
  have S_COLUMN_MAPPING := Sta.start ev_COLUMN_MAPPING (Or.inr ⟨(hw _ (List.mem_of_getElem? (i := 2) rfl)), (hw _ (List.mem_of_getElem? (i := 18) rfl))⟩)
  have F_UPLOADED := Fld.start ((fld_at ev_UPLOADED).symm.trans (own_eqint g4a))
  have F_COMPLETED := Fld.start ((fld_at ev_COMPLETED).symm.trans (own_eqint g5a))
  have F_FAILED := Fld.start ((fld_at ev_FAILED).symm.trans (own_eqint g7a))
  have F_PROCESSING := Fld.start ((fld_at ev_PROCESSING).symm.trans (own_eqint g9a))
  have F_COLUMN_MAPPING := Fld.start ((fld_at ev_COLUMN_MAPPING).symm.trans (own_eqint g10b))
  obtain ⟨n, o, h1, h2, h3, _, L, rfl, ⟨rfl, N⟩, hq⟩ := rm0 l s _ hw tables_1 i0 w_UPLOADED w_PROCESSING w_COLUMN_MAPPING w_COMPLETED w_FAILED s.heap s.heap.size (Old.start s) S_UPLOADED S_PROCESSING S_COLUMN_MAPPING S_COMPLETED S_FAILED E_UPLOADED E_PROCESSING E_COLUMN_MAPPING E_COMPLETED E_FAILED F_UPLOADED F_PROCESSING F_COLUMN_MAPPING F_COMPLETED F_FAILED p e ha hc hk s m _ below hf ((Spec.applies_iff_loose hf).mp happ).1 ⟨rfl, State.Warmed39.refl s, rfl⟩ trivial
  refine ⟨n, _, h1, h2, h3, hpost _ _ _ _ _ _ ⟨Cond.after_iff.mpr rfl, Cond.after_iff.mpr (eq_i res_at (Term.int_eval (1)) rfl), trivial⟩ ⟨hq.1, hq.2.1, (hq.2.2.sift fun y hy => Or.inr (N y hy)).mono (by decide) (by decide)⟩⟩
theorem main_1_1 : Claimed_1_1 := comes_1 fun _ _ _ _ _ _ h hF => ⟨h.1, hF⟩
theorem main_1_2 : Claimed_1_2 := comes_1 fun _ _ _ _ _ _ h hF => ⟨h.2.1, hF⟩
end Jvm.Pilot.@@N@@
namespace Jvm.Pilot.@@N@@
open Jvm Jvm.ClassFile Sem Op Lib Jvm.Free Jvm.Stand Jvm.Pilot.@@N@@.Jvm.D
/-! MADE BY PROGRAM (witnessworld.py) out of the Statement's table words and the real class files: 12 classes; the members and pool entries that the words name. The judged class is class 1, her method 1. -/
namespace start1
open Jvm.ClassFile
def u (s : String) : CpInfo := .utf8 (stringToUtf16 s)
/-- a pool by its gaps: so many unusable entries, then the entry; so many at the end -/
def gap : Nat → List CpInfo → List CpInfo
  | 0, r => r
  | n + 1, r => .unusable :: gap n r
def poolList (es : List (Nat × CpInfo)) (last : Nat) : List CpInfo := es.foldr (fun e r => gap e.1 (e.2 :: r)) (gap last [])
def pool (es : List (Nat × CpInfo)) (last : Nat) : Array CpInfo := ⟨poolList es last⟩
def fileOf (pool : Array CpInfo) (this : Nat) (attrs : Array Attribute := #[]) (ms : Array MethodInfo := #[]) (fl : Nat := 33) (sup : Nat := 0) (ifs : Array Nat := #[]) (fds : Array FieldInfo := #[]) : ClassFile where
  minorVersion := 0
  majorVersion := 65
  constantPool := pool
  accessFlags := fl
  thisClass := this
  superClass := sup
  interfaces := ifs
  fields := fds
  methods := ms
  attributes := attrs
def plain (name : String) (sup : Option ClassId) : Class where
  name := name
  kind := .ordinary
  loader := none
  accessFlags := 33
  super := sup
  interfaces := #[]
  cf := none
  fields := #[]
  methods := #[]
  instanceTypes := #[]
  staticTypes := #[]
  resolved := #[]
  callSites := []
  init := .initialized
  statics := none
  mirror := none

def pool0 : Array CpInfo := pool [(5, u "<init>"), (0, u "()V"), (1, .class_ 10), (1, u "java/lang/Object")] 113

def k0m0 : Method := { name := "<init>", desc := "()V", sig := { parameters := [], returnType := none }, accessFlags := 1, code := none }
/-- java/lang/Object -/
def k0 : Class := { plain "java/lang/Object" none with
  accessFlags := 33
  interfaces := #[]
  cf := some (fileOf pool0 8 #[] #[{ accessFlags := 1, nameIndex := 5, descriptorIndex := 6, attributes := #[] }] 33 0 #[] #[])
  fields := #[]
  methods := #[k0m0]
  instanceTypes := #[]
  staticTypes := #[]
  resolved := Array.replicate 124 none
  statics := none }

def pool1 : Array CpInfo := pool [(2, .class_ 4), (1, u "java/lang/Object"), (0, u "<init>"), (0, u "()V"), (0, .integer 2147483647), (0, .fieldref 9 10), (0, .class_ 11), (0, .nameAndType 12 13), (0, u "com/example/always_once/alwaysonce/ledger/JobStatus"), (0, u "UPLOADED"), (0, u "Lcom/example/always_once/alwaysonce/ledger/JobStatus;"), (0, .fieldref 9 15), (0, .nameAndType 16 13), (0, u "PROCESSING"), (0, .fieldref 9 18), (0, .nameAndType 19 13), (0, u "COLUMN_MAPPING"), (0, .fieldref 9 21), (0, .nameAndType 22 13), (0, u "COMPLETED"), (0, .fieldref 9 24), (0, .nameAndType 25 13), (0, u "FAILED"), (0, .methodref 9 27), (0, .nameAndType 28 29), (0, u "hasEnded"), (0, u "()Z"), (0, .class_ 31), (0, u "com/example/always_once/alwaysonce/ledger/JobStatusHasEndedPinLaw"), (2, u "law"), (0, u "(I)Z")] 3

def k1m0 : Method := { name := "<init>", desc := "()V", sig := { parameters := [], returnType := none }, accessFlags := 1, code := none }
def k1c1 : Code := { maxStack := 2, maxLocals := 4, code := code, exceptionTable := #[], attributes := #[] }
def k1m1 : Method := { name := "law", desc := "(I)Z", sig := { parameters := [.int], returnType := some .boolean }, accessFlags := 9, code := some k1c1 }
/-- com/example/always_once/alwaysonce/ledger/JobStatusHasEndedPinLaw -/
def k1 : Class := { plain "com/example/always_once/alwaysonce/ledger/JobStatusHasEndedPinLaw" (some 0) with
  accessFlags := 49
  interfaces := #[]
  cf := some (fileOf pool1 30 #[] #[{ accessFlags := 1, nameIndex := 5, descriptorIndex := 6, attributes := #[] }, { accessFlags := 9, nameIndex := 34, descriptorIndex := 35, attributes := #[] }] 49 2 #[] #[])
  fields := #[]
  methods := #[k1m0, k1m1]
  instanceTypes := #[]
  staticTypes := #[]
  resolved := Array.replicate 39 none
  statics := none }

def pool2 : Array CpInfo := pool [(1, .class_ 2), (0, u "java/lang/constant/Constable"), (0, .class_ 4), (0, u "java/lang/Object")] 6

/-- java/lang/constant/Constable -/
def k2 : Class := { plain "java/lang/constant/Constable" (some 0) with
  accessFlags := 1537
  interfaces := #[]
  cf := some (fileOf pool2 1 #[] #[] 1537 3 #[] #[])
  fields := #[]
  methods := #[]
  instanceTypes := #[]
  staticTypes := #[]
  resolved := Array.replicate 11 none
  statics := none }

def pool3 : Array CpInfo := pool [(1, .class_ 2), (0, u "java/lang/Comparable"), (0, .class_ 4), (0, u "java/lang/Object")] 7

/-- java/lang/Comparable -/
def k3 : Class := { plain "java/lang/Comparable" (some 0) with
  accessFlags := 1537
  interfaces := #[]
  cf := some (fileOf pool3 1 #[] #[] 1537 3 #[] #[])
  fields := #[]
  methods := #[]
  instanceTypes := #[]
  staticTypes := #[]
  resolved := Array.replicate 12 none
  statics := none }

def pool4 : Array CpInfo := pool [(1, .class_ 2), (0, u "java/io/Serializable"), (0, .class_ 4), (0, u "java/lang/Object")] 2

/-- java/io/Serializable -/
def k4 : Class := { plain "java/io/Serializable" (some 0) with
  accessFlags := 1537
  interfaces := #[]
  cf := some (fileOf pool4 1 #[] #[] 1537 3 #[] #[])
  fields := #[]
  methods := #[]
  instanceTypes := #[]
  staticTypes := #[]
  resolved := Array.replicate 7 none
  statics := none }

def pool5 : Array CpInfo := pool [(2, .class_ 4), (1, u "java/lang/Enum"), (0, u "name"), (0, u "Ljava/lang/String;"), (2, u "ordinal"), (0, u "I"), (1, .class_ 14), (1, u "java/lang/Object"), (4, u "hash"), (86, .class_ 108), (1, u "java/lang/Enum$EnumDesc"), (2, .class_ 112), (0, u "java/lang/constant/Constable"), (0, .class_ 114), (0, u "java/lang/Comparable"), (0, .class_ 116), (0, u "java/io/Serializable")] 87

/-- java/lang/Enum -/
def k5 : Class := { plain "java/lang/Enum" (some 0) with
  accessFlags := 1057
  interfaces := #[2, 3, 4]
  cf := some (fileOf pool5 2 #[.nestMembers #[106]] #[] 1057 12 #[111, 113, 115] #[{ accessFlags := 18, nameIndex := 5, descriptorIndex := 6, attributes := #[] }, { accessFlags := 18, nameIndex := 9, descriptorIndex := 10, attributes := #[] }, { accessFlags := 2, nameIndex := 19, descriptorIndex := 10, attributes := #[] }])
  fields := #[{ name := "name", type := (.object "java/lang/String"), accessFlags := 18, slot := 0, constantValue := 0 }, { name := "ordinal", type := .int, accessFlags := 18, slot := 1, constantValue := 0 }, { name := "hash", type := .int, accessFlags := 2, slot := 2, constantValue := 0 }]
  methods := #[]
  instanceTypes := #[(.object "java/lang/String"), .int, .int]
  staticTypes := #[]
  resolved := Array.replicate 204 none
  statics := none }

def pool6 : Array CpInfo := pool [(1, .class_ 2), (0, u "com/example/always_once/alwaysonce/ledger/JobStatus"), (2, u "UPLOADED"), (0, u "Lcom/example/always_once/alwaysonce/ledger/JobStatus;"), (2, u "PROCESSING"), (2, u "COLUMN_MAPPING"), (0, .fieldref 1 14), (0, .nameAndType 15 6), (0, u "COMPLETED"), (0, .fieldref 1 17), (0, .nameAndType 18 6), (0, u "FAILED"), (2, u "$VALUES"), (0, u "[Lcom/example/always_once/alwaysonce/ledger/JobStatus;"), (6, .class_ 31), (1, u "java/lang/Enum"), (23, u "hasEnded"), (0, u "()Z")] 5

def k6c0 : Code := { maxStack := 2, maxLocals := 1, code := prog_12_method_4_code, exceptionTable := #[], attributes := #[] }
def k6m0 : Method := { name := "hasEnded", desc := "()Z", sig := { parameters := [], returnType := some .boolean }, accessFlags := 1, code := some k6c0 }
/-- com/example/always_once/alwaysonce/ledger/JobStatus -/
def k6 : Class := { plain "com/example/always_once/alwaysonce/ledger/JobStatus" (some 5) with
  accessFlags := 16433
  interfaces := #[]
  cf := some (fileOf pool6 1 #[] #[{ accessFlags := 1, nameIndex := 55, descriptorIndex := 56, attributes := #[] }] 16433 29 #[] #[{ accessFlags := 16409, nameIndex := 5, descriptorIndex := 6, attributes := #[] }, { accessFlags := 16409, nameIndex := 9, descriptorIndex := 6, attributes := #[] }, { accessFlags := 16409, nameIndex := 12, descriptorIndex := 6, attributes := #[] }, { accessFlags := 16409, nameIndex := 15, descriptorIndex := 6, attributes := #[] }, { accessFlags := 16409, nameIndex := 18, descriptorIndex := 6, attributes := #[] }, { accessFlags := 4122, nameIndex := 21, descriptorIndex := 22, attributes := #[] }])
  fields := #[{ name := "UPLOADED", type := (.object "com/example/always_once/alwaysonce/ledger/JobStatus"), accessFlags := 16409, slot := 0, constantValue := 0 }, { name := "PROCESSING", type := (.object "com/example/always_once/alwaysonce/ledger/JobStatus"), accessFlags := 16409, slot := 1, constantValue := 0 }, { name := "COLUMN_MAPPING", type := (.object "com/example/always_once/alwaysonce/ledger/JobStatus"), accessFlags := 16409, slot := 2, constantValue := 0 }, { name := "COMPLETED", type := (.object "com/example/always_once/alwaysonce/ledger/JobStatus"), accessFlags := 16409, slot := 3, constantValue := 0 }, { name := "FAILED", type := (.object "com/example/always_once/alwaysonce/ledger/JobStatus"), accessFlags := 16409, slot := 4, constantValue := 0 }, { name := "$VALUES", type := (.array (.object "com/example/always_once/alwaysonce/ledger/JobStatus")), accessFlags := 4122, slot := 5, constantValue := 0 }]
  methods := #[k6m0]
  instanceTypes := #[(.object "java/lang/String"), .int, .int]
  staticTypes := #[(.object "com/example/always_once/alwaysonce/ledger/JobStatus"), (.object "com/example/always_once/alwaysonce/ledger/JobStatus"), (.object "com/example/always_once/alwaysonce/ledger/JobStatus"), (.object "com/example/always_once/alwaysonce/ledger/JobStatus"), (.object "com/example/always_once/alwaysonce/ledger/JobStatus"), (.array (.object "com/example/always_once/alwaysonce/ledger/JobStatus"))]
  resolved := Array.replicate 62 none
  statics := some 0 }

def pool7 : Array CpInfo := pool [(1, u "java/lang/Cloneable"), (0, .class_ 1), (0, u "java/lang/Object"), (0, .class_ 3)] 3

/-- java/lang/Cloneable -/
def k7 : Class := { plain "java/lang/Cloneable" (some 0) with
  accessFlags := 1537
  interfaces := #[]
  cf := some (fileOf pool7 2 #[] #[] 1537 4 #[] #[])
  fields := #[]
  methods := #[]
  instanceTypes := #[]
  staticTypes := #[]
  resolved := Array.replicate 8 none
  statics := none }

/-- the primitive byte -/
def k8 : Class := { plain "byte" none with kind := .primitive 'B', accessFlags := 0x411 }
/-- [B -/
def k9 : Class := { plain "[B" (some 0) with kind := .array 8 .byte, interfaces := #[7, 4], accessFlags := 1041 }

/-- the primitive int -/
def k10 : Class := { plain "int" none with kind := .primitive 'I', accessFlags := 0x411 }
/-- [I -/
def k11 : Class := { plain "[I" (some 0) with kind := .array 10 .int, interfaces := #[7, 4], accessFlags := 1041 }

def heap : Heap := #[{ cls := 6, slots := #[.ref 1, .ref 2, .ref 3, .ref 4, .ref 5, .null], vm := .statics 6 },
  { cls := 6, slots := #[.null, .int 0, .int 0], vm := .none },
  { cls := 6, slots := #[.null, .int 1, .int 0], vm := .none },
  { cls := 6, slots := #[.null, .int 2, .int 0], vm := .none },
  { cls := 6, slots := #[.null, .int 3, .int 0], vm := .none },
  { cls := 6, slots := #[.null, .int 4, .int 0], vm := .none }]
def classes : Array Class := #[k0, k1, k2, k3, k4, k5, k6, k7, k8, k9, k10, k11]
def interned : List (Array UInt16 × Addr) := []
def slotsUsed : Nat := 21
def theMethod : MethodId := ⟨1, 1⟩
def args0 : Array Value := #[.int 5]
def aboutOver (below : List Frame) : State where
  vm := { classes := classes, interned := interned.toArray }
  heap := heap
  slotsUsed := slotsUsed
  threads := #[{ frames := .invoking theMethod args0 :: below }]
def below0 : List Frame := [.native { method := ⟨0, 0⟩, args := #[] }]
def about1 : State := aboutOver below0
def p0 : Program := .bare "" "" ""
def e0 : Env := launch0.env 0 0 0
theorem w_frames : about1.frames = Frame.invoking theMethod args0 :: below0 := rfl
set_option maxRecDepth 65536 in
theorem w_args : argsFit about1.vm theMethod args0 = true := by decide +kernel
set_option maxRecDepth 65536 in
theorem w_heap : heapFits about1 = true := by decide +kernel
set_option maxRecDepth 65536 in
theorem w_runnable : about1.curStatus? = some .runnable := by decide +kernel
set_option maxRecDepth 65536 in
theorem w_alone : about1.alone = true := by decide +kernel
set_option maxRecDepth 65536 in
theorem w_named : about1.methodNamed? x = some theMethod := by decide +kernel
set_option maxRecDepth 65536 in
theorem w_hears : about1.hears theMethod below0 = true := by decide +kernel
set_option maxRecDepth 65536 in
theorem w_ripe : about1.ripe theMethod args0 below0 = true := by decide +kernel
theorem w_running : about1.status = .running := rfl
set_option maxRecDepth 65536 in
theorem w_room : about1.hasRoom e0.platform room_1 = true :=
  launch0.hasRoom_least _ room_1 (by decide +kernel) (by decide +kernel) (by decide +kernel) (by decide +kernel) (by decide +kernel) (by decide +kernel)
theorem allAtoms_all (ts : List Jvm.Cond) (a : Array Jvm.Value) (st : Jvm.State) : (allAtoms ts).before a st = ts.all (fun c => c.before a st) := by
  induction ts with
  | nil => rfl
  | cons c t ih =>
    show (Jvm.Cond.and c (allAtoms t)).before a st = _
    rw [Jvm.Cond.before_and, ih, List.all_cons]
def words1 : List Jvm.Cond := Jvm.Cond.code x code maxLocals ret :: tables_1
/-- a 'code' word, met by the world's own term for the bytes: nothing is compared byte by byte -/
theorem code_word {y : MethodName} {bytes : ByteArray} {mx : Nat} {rt : Option FieldType} {a : Array Value} {s : State} {m : MethodId} {meth : Method} {c : Code} (h1 : s.methodNamed? y = some m) (h2 : s.vm.method? m = some meth) (h3 : meth.code = some c) (h4 : c.code = bytes)
    (h5 : (c.maxLocals == mx && c.exceptionTable.isEmpty && decide (c.maxStack ≤ mostOperands) && decide (meth.sig.returnType = rt) && !meth.locks && decide (parseMethodDescriptor y.desc = some meth.sig)) = true) : (Jvm.Cond.code y bytes mx rt).before a s = true := by
  simp only [Bool.and_eq_true, beq_iff_eq, Bool.not_eq_true', decide_eq_true_eq] at h5
  obtain ⟨⟨⟨⟨⟨g1, g2⟩, g3⟩, g4⟩, g5⟩, g6⟩ := h5
  simp [Cond.before, Cond.holds, Cond.value, h1, h2, h3, h4, g1, g2, g3, g4, g5, g6]
def isCode : Jvm.Cond → Bool
  | .code _ _ _ _ => true
  | _ => false
theorem all_split {L : List Jvm.Cond} {P : Jvm.Cond → Bool} (h1 : L.all (fun c => isCode c || P c) = true) (h2 : ∀ c ∈ L.filter isCode, P c = true) : L.all P = true := by
  refine List.all_eq_true.mpr fun c hc => ?_
  have h := List.all_eq_true.mp h1 c hc
  rcases Bool.eq_false_or_eq_true (isCode c) with hi | hi
  · exact h2 c (List.mem_filter.mpr ⟨hc, hi⟩)
  · simpa [hi] using h
set_option maxRecDepth 65536 in
theorem w_c0 : (Jvm.Cond.code x code maxLocals ret).before args0 about1 = true := code_word (m := ⟨1, 1⟩) (meth := k1m1) (c := k1c1) (by decide +kernel) rfl rfl rfl (by decide +kernel)
set_option maxRecDepth 65536 in
theorem w_c1 : (Jvm.Cond.code ({ cls := "com/example/always_once/alwaysonce/ledger/JobStatus", name := "hasEnded", desc := "()Z" } : Jvm.MethodName) prog_12_method_4_code (1 : Nat) (Option.some Jvm.ClassFile.FieldType.boolean)).before args0 about1 = true := code_word (m := ⟨6, 0⟩) (meth := k6m0) (c := k6c0) (by decide +kernel) rfl rfl rfl (by decide +kernel)
def codes1 : List Jvm.Cond := [Jvm.Cond.code x code maxLocals ret, Jvm.Cond.code ({ cls := "com/example/always_once/alwaysonce/ledger/JobStatus", name := "hasEnded", desc := "()Z" } : Jvm.MethodName) prog_12_method_4_code (1 : Nat) (Option.some Jvm.ClassFile.FieldType.boolean)]
set_option maxRecDepth 65536 in
theorem codes_eq : words1.filter isCode = codes1 := rfl
theorem w_codes : ∀ c ∈ words1.filter isCode, c.before args0 about1 = true := by
  rw [codes_eq]
  intro c hc
  simp only [codes1, List.mem_cons, List.not_mem_nil, or_false] at hc
  rcases hc with rfl | rfl
  · exact w_c0
  · exact w_c1
set_option maxRecDepth 65536 in
theorem w_t1 : words1.all (fun c => isCode c || c.before args0 about1) = true := by decide +kernel
theorem w_tables : (allAtoms (Jvm.Cond.code x code maxLocals ret :: tables_1)).before args0 about1 = true := by
  rw [allAtoms_all]
  show words1.all (fun c => c.before args0 about1) = true
  refine all_split ?_ w_codes
  rw [w_t1]
set_option maxRecDepth 65536 in
theorem w_case : (Jvm.Cond.and given_1 narrow_1).before args0 about1 = true := by decide +kernel
theorem w_applies : (headSpec (Jvm.Cond.code x code maxLocals ret :: tables_1) room_1).applies x e0.platform about1 = true :=
  (Spec.applies_iff w_frames).mpr ⟨w_running, w_runnable, w_alone, w_named, w_hears, w_ripe, w_room, w_tables⟩
theorem atStart : AtStart classFile x code maxLocals ret World_1 tables_1 room_1 Calls_1 rest_1 Pre_1 launch0 p0 e0 about1 theMethod args0 below0 :=
  ⟨lists_1, trivial, launch0.admits_env _ _ _, launch0.least_env, fairChoices_fair.cas, fairChoices_fair.clock, w_frames, w_args, w_heap, w_applies, trivial, trivial, w_case⟩
end start1
theorem witness_1 : WitnessClaimed_1 := ⟨start1.p0, start1.e0, start1.about1, start1.theMethod, start1.args0, start1.below0, start1.atStart⟩
end Jvm.Pilot.@@N@@
