import JvmDerived
import JvmDerived.Pilot.@@N@@Statement
import JvmDerived.Pilot.@@N@@Code
set_option linter.unusedVariables false
set_option linter.unusedSimpArgs false
namespace Jvm.RoadKit
open Sem ClassFile Op Lib Jvm.Stand Jvm.Free Jvm.LawKit
section New
variable {p : Program} {l : Launch} {e : Env} {R : Room} {s : State} {m : MethodId} {args : Array Value} {below : List Frame} {meth : Method} {c : Code} {T : State} {locs : List Loc} {cells slots : Nat}
theorem retI (X : Stand p l e R s m args below meth c T locs cells slots) (hx : p.tables.exec = Jvm.exec) {pc : Nat} {Ls : Array Slot} {z : Int32} {rest : List Value} (hret : meth.sig.returnType = some .int) (hd : decode c.code pc = .ok (.ireturn, 1)) {fs : List Frame}
    (hl : ∀ (f : JFrame) (acts : List Action), f.method = m → f.locked = none → f.entered = [] → (doReturn e (T.setTop f) acts (some (.int z))).1 = T.setFrames fs) : Steps p.tables e below (T.setTop (mkF m pc Ls (.int z :: rest))) (T.setFrames fs) := by
  have hm' : T.vm.method? m = some meth := X.method'
  have hn : narrow .int (.int z) = .int z := rfl
  show Steps p.tables e below (T.setTop { method := m, pc := pc, locals := Ls, stack := _ :: rest, locked := none }) _
  jvm_step X.here [X.here.top, hx, hd, hm', hret, hn]
  first | (intro acts; rw [hl _ acts rfl rfl rfl]) | rw [hl _ _ rfl rfl rfl]
  exact Steps.refl _
def Gl (p : Program) (e : Env) (below : List Frame) (s : State) (kc ks : Nat) (Q : Option Value → Heap → List Loc → Prop) (T : State) (g : JFrame) : Prop :=
  ∃ U o, Steps p.tables e below (T.setTop g) U ∧ U.status = .running ∧ Ended U below o ∧ ∃ v L, o = .returned v ∧ Q v U.heap L ∧ FrameEnd s o U L kc ks
theorem Gl.st {kc ks : Nat} {Q : Option Value → Heap → List Loc → Prop} {T' : State} {g g' : JFrame} (h : ∀ t, Steps p.tables e below (T'.setTop g') t → Steps p.tables e below (T.setTop g) t) (k : Gl p e below s kc ks Q T' g') : Gl p e below s kc ks Q T g := by
  obtain ⟨U, o, h1, r⟩ := k
  exact ⟨U, o, h _ h1, r⟩
theorem Gl.wider {cells' slots' : Nat} (X : Stand p l e R s m args below meth c T locs cells slots) (h1 : cells ≤ cells') (h2 : slots ≤ slots') : Stand p l e R s m args below meth c T locs cells' slots' :=
  ⟨X.admits, X.cas, X.clock, X.frames, X.room, X.hears, X.method, X.code, X.here, X.tail, X.warmed, X.limits, X.bytes, X.same.mono h1 h2⟩
theorem Gl.start {kc ks : Nat} {Q : Option Value → Heap → List Loc → Prop} {g g' : JFrame} (q : g = g') (k : Gl p e below s kc ks Q T g') :
    ∃ U o, Steps p.tables e below (T.setTop g) U ∧ U.status = .running ∧ Ended U below o ∧ ∃ v L, o = .returned v ∧ Q v U.heap L ∧ FrameEnd s o U L kc ks := q ▸ k
theorem Gl.ret {kc ks : Nat} {Q : Option Value → Heap → List Loc → Prop} {g : JFrame} {h : Heap} (X : Stand p l e R s m args below meth c T locs cells slots) {v : Option Value} (hv : meth.sig.returnType = none → v = none) (hlk : meth.locks = false)
    (st : ∀ {fs : List Frame}, (∀ (f : JFrame) (acts : List Action), f.method = m → f.locked = none → f.entered = [] → (doReturn e (T.setTop f) acts v).1 = T.setFrames fs) → Steps p.tables e below (T.setTop g) (T.setFrames fs))
    (eT : T.heap = h) (hQ : Q v h locs) (hc : cells ≤ kc) (hs : slots ≤ ks) : Gl p e below s kc ks Q T g := by
  obtain ⟨fs, hr, hrun, hended, hW, hsame⟩ := X.leave hv hlk
  refine ⟨_, _, st hr, hrun, hended, _, _, rfl, ?_, ⟨_, rfl⟩, hW, hsame.mono hc hs⟩
  show Q v T.heap locs
  rw [eT]; exact hQ
end New
end Jvm.RoadKit
namespace Jvm.Pilot.@@N@@
open Jvm Jvm.ClassFile Sem Op Lib Jvm.Free Jvm.Stand Jvm.LawKit Jvm.RoadKit Bundle Jvm.Pilot.@@N@@.Jvm.D
theorem own_eqint {args : Array Value} {first s : State} {o : Option Outcome} {idx : List Nat} {t : Term} {k : Int32} (h : (Jvm.Cond.eq t (.int k)).value args first o s idx = some true) : t.eval args first o idx s = some (.int k) := by
  cases ht : t.eval args first o idx s with
  | none => simp [Cond.value, ht] at h
  | some x => cases x <;> simp [Cond.value, ht, Term.eval] at h ⊢; exact h
theorem own_mod6 (x : Int32) : (x &&& (2147483647 : Int32)) % (6 : Int32) = (0 : Int32) ∨ (x &&& (2147483647 : Int32)) % (6 : Int32) = (1 : Int32) ∨ (x &&& (2147483647 : Int32)) % (6 : Int32) = (2 : Int32) ∨ (x &&& (2147483647 : Int32)) % (6 : Int32) = (3 : Int32) ∨ (x &&& (2147483647 : Int32)) % (6 : Int32) = (4 : Int32) ∨ (x &&& (2147483647 : Int32)) % (6 : Int32) = (5 : Int32) := by
  have h1 := (c_and x (2147483647 : Int32) (by decide)).1
  have h2 := (c_irem (x &&& (2147483647 : Int32)) (6 : Int32) 6 (by decide)).1 h1
  have h3 : ((x &&& (2147483647 : Int32)) % (6 : Int32)).toInt = 0 ∨ ((x &&& (2147483647 : Int32)) % (6 : Int32)).toInt = 1 ∨ ((x &&& (2147483647 : Int32)) % (6 : Int32)).toInt = 2 ∨ ((x &&& (2147483647 : Int32)) % (6 : Int32)).toInt = 3 ∨ ((x &&& (2147483647 : Int32)) % (6 : Int32)).toInt = 4 ∨ ((x &&& (2147483647 : Int32)) % (6 : Int32)).toInt = 5 := by omega
  rcases h3 with h | h | h | h | h | h
  · exact Or.inl (Int32.toInt_inj.mp (h.trans (by decide)))
  · exact Or.inr (Or.inl (Int32.toInt_inj.mp (h.trans (by decide))))
  · exact Or.inr (Or.inr (Or.inl (Int32.toInt_inj.mp (h.trans (by decide)))))
  · exact Or.inr (Or.inr (Or.inr (Or.inl (Int32.toInt_inj.mp (h.trans (by decide))))))
  · exact Or.inr (Or.inr (Or.inr (Or.inr (Or.inl (Int32.toInt_inj.mp (h.trans (by decide)))))))
  · exact Or.inr (Or.inr (Or.inr (Or.inr (Or.inr ((Int32.toInt_inj.mp (h.trans (by decide))))))))
theorem d1_0 : decode prog_6_method_5_code 0 = .ok (.aload_n 0, 1) := by decide +kernel
theorem d1_1 : decode prog_6_method_5_code 1 = .ok (.getstatic 3, 3) := by decide +kernel
theorem d1_4 : decode prog_6_method_5_code 4 = .ok (.if_acmp .eq 10, 3) := by decide +kernel
theorem d1_7 : decode prog_6_method_5_code 7 = .ok (.aload_n 0, 1) := by decide +kernel
theorem d1_8 : decode prog_6_method_5_code 8 = .ok (.getstatic 7, 3) := by decide +kernel
theorem d1_11 : decode prog_6_method_5_code 11 = .ok (.if_acmp .ne 7, 3) := by decide +kernel
theorem d1_14 : decode prog_6_method_5_code 14 = .ok (.iconst 1, 1) := by decide +kernel
theorem d1_15 : decode prog_6_method_5_code 15 = .ok (.goto 4, 3) := by decide +kernel
theorem d1_18 : decode prog_6_method_5_code 18 = .ok (.iconst 0, 1) := by decide +kernel
theorem d1_19 : decode prog_6_method_5_code 19 = .ok (.ireturn, 1) := by decide +kernel
theorem pn_rm1 : plainName "com/example/concurrency_quota/concurrencyquota/Decision" = true := by first | (simp [plainName, overriddenIn]; done) | decide +kernel
theorem ef_rm1 (m : MethodId) (a1 : Addr) : entryFrame m #[(.ref a1)] 1 = mkF m 0 #[.val (.ref a1)] [] := by first | (simp [entryFrame, mkF, argsToLocals, Value.category]; done) | rfl
def Q_rm1 (Z : State) (a1 : Addr) (w_WARM_START w_COLD_START : Addr) (z : Int32) (h0 : Heap) (n0 : Nat) (v : Option Value) (h : Heap) (L : List Loc) : Prop := v = some (.int z) ∧ Fr n0 L ∧ h = h0
set_option maxRecDepth 65536 in
set_option maxHeartbeats 40000000 in
theorem rm1 (l : Launch) (Z : State) (a0 : Array Value) (hw : ∀ d ∈ tables_1, d.before a0 Z = true) (ws : List Jvm.Cond) (a1 : Addr) (w_WARM_START w_COLD_START : Addr) (z : Int32) (h0 : Heap) (n0 : Nat) (O0 : Old Z n0 h0) (S_WARM_START : Sta Z Z.heap "com/example/concurrency_quota/concurrencyquota/Decision" "WARM_START" "Lcom/example/concurrency_quota/concurrencyquota/Decision;" (.ref w_WARM_START)) (S_COLD_START : Sta Z Z.heap "com/example/concurrency_quota/concurrencyquota/Decision" "COLD_START" "Lcom/example/concurrency_quota/concurrencyquota/Decision;" (.ref w_COLD_START)) (hz : z = if a1 = w_WARM_START ∨ a1 = w_COLD_START then 1 else 0) :
    MetFree l (⟨"com/example/concurrency_quota/concurrencyquota/Decision", "admitted", "()Z"⟩ : MethodName) (head1 (Jvm.Cond.code (⟨"com/example/concurrency_quota/concurrencyquota/Decision", "admitted", "()Z"⟩ : MethodName) prog_6_method_5_code 1 (some .boolean) :: ws) ({ frames := 0, cells := 0, slots := 0, locals := 0 } : Room)) (fun a U => a = #[(.ref a1)] ∧ Z.Warmed39 U.vm ∧ U.heap = h0) (fun _ _ _ _ _ => True) (fun _ U o U' => ∃ v L, o = .returned v ∧ Q_rm1 Z a1 w_WARM_START w_COLD_START z h0 n0 v U'.heap L ∧ FrameEnd U o U' L ({ frames := 0, cells := 0, slots := 0, locals := 0 } : Room).cells ({ frames := 0, cells := 0, slots := 0, locals := 0 } : Room).slots) := by
  refine MetFree.of_bodySF (plainFor_of_name pn_rm1) hisR ?_
  intro p e s m args below meth c s₁ Bd hml0 hP hK
  obtain ⟨rfl, hZ, hh⟩ := hP
  have hx := Bd.exec
  have hby := Bd.bytes
  have hml : c.maxLocals = 1 := hml0
  have hown : s.vm.findClass "com/example/concurrency_quota/concurrencyquota/Decision" = some m.cls := findClass_of_methodNamed Bd.named
  have hnm := (name_of_methodNamed Bd.named Bd.method).1
  have X0 : Stand p l e ({ frames := 0, cells := 0, slots := 0, locals := 0 } : Room) s m #[(.ref a1)] below meth c s₁ [] 0 0 := Stand.of_body Bd
  have e0 : s₁.heap = h0 := by rw [← hh, Bd.state]; rfl
  have N0 := Fr.nil n0
  refine Gl.start (Q := Q_rm1 Z a1 w_WARM_START w_COLD_START z h0 n0) (ef_rm1 m a1) ?_
  show Gl p e below s _ _ _ s₁ (mkF m 0 #[.val (.ref a1)] [])
  refine Gl.st (fun _ kk => XS.aloadN X0.here hx rfl (hb hby d1_0) rfl rfl kk) ?_
  show Gl p e below s _ _ _ s₁ (mkF m 1 #[.val (.ref a1)] [(.ref a1)])
  obtain ⟨T1, X1, e1, st1⟩ := getS2 X0 hx hZ hown (host := "") (Or.inl (hw _ (List.mem_of_getElem? (i := 9) rfl))) Via.refl e0 (S_WARM_START.ext O0.2) (g := (mkF m 1 #[.val (.ref a1)] [(.ref a1)])) rfl (hb hby d1_1)
  refine Gl.st st1 ?_
  show Gl p e below s _ _ _ T1 (mkF m 4 #[.val (.ref a1)] [(.ref w_WARM_START), (.ref a1)])
  by_cases ha4 : a1 = w_WARM_START
  · skip
    refine Gl.st (fun _ kk => Jvm.RoadKit.acmp (g := (mkF m 4 #[.val (.ref a1)] [(.ref w_WARM_START), (.ref a1)])) X1 hx rfl rfl rfl (pc0 := 4) (pc' := 14) (same := true) rfl (hb hby d1_4) rfl (decide_eq_true (congrArg Value.ref ha4)) (by decide) (by decide) kk) ?_
    show Gl p e below s _ _ _ T1 (mkF m 14 #[.val (.ref a1)] [])
    refine Gl.st (fun _ kk => XS.iconst X1.here hx rfl (hb hby d1_14) kk) ?_
    show Gl p e below s _ _ _ T1 (mkF m 15 #[.val (.ref a1)] [(.int (1 : Int32))])
    refine Gl.st (fun _ kk => XS.goto X1.here hx rfl (pc0 := 15) (pc' := 19) rfl (hb hby d1_15) (by decide) (by decide) kk) ?_
    show Gl p e below s _ _ _ T1 (mkF m 19 #[.val (.ref a1)] [(.int (1 : Int32))])
    have hzz : z = (1 : Int32) := by rw [hz]; simp [ha4]
    exact Gl.ret X1 (v := (some (.int (1 : Int32)))) (fun h => by rw [Bd.returns] at h; cases h) (BodyLoose.notSynchronized Bd) (fun hr => retN X1 hx (t := .boolean) Bd.returns (by simp) (hb hby d1_19) hr) e1 ⟨by rw [hzz], N0, rfl⟩ (by decide) (by decide)
  · skip
    refine Gl.st (fun _ kk => Jvm.RoadKit.acmp (g := (mkF m 4 #[.val (.ref a1)] [(.ref w_WARM_START), (.ref a1)])) X1 hx rfl rfl rfl (pc0 := 4) (pc' := 7) (same := false) rfl (hb hby d1_4) rfl (decide_eq_false fun q => ha4 (Value.ref.inj q)) (by decide) (by decide) kk) ?_
    show Gl p e below s _ _ _ T1 (mkF m 7 #[.val (.ref a1)] [])
    refine Gl.st (fun _ kk => XS.aloadN X1.here hx rfl (hb hby d1_7) rfl rfl kk) ?_
    show Gl p e below s _ _ _ T1 (mkF m 8 #[.val (.ref a1)] [(.ref a1)])
    obtain ⟨T2, X2, e2, st2⟩ := getS2 X1 hx hZ hown (host := "") (Or.inl (hw _ (List.mem_of_getElem? (i := 12) rfl))) Via.refl e1 (S_COLD_START.ext O0.2) (g := (mkF m 8 #[.val (.ref a1)] [(.ref a1)])) rfl (hb hby d1_8)
    refine Gl.st st2 ?_
    show Gl p e below s _ _ _ T2 (mkF m 11 #[.val (.ref a1)] [(.ref w_COLD_START), (.ref a1)])
    by_cases ha11 : a1 = w_COLD_START
    · skip
      refine Gl.st (fun _ kk => Jvm.RoadKit.acmp (g := (mkF m 11 #[.val (.ref a1)] [(.ref w_COLD_START), (.ref a1)])) X2 hx rfl rfl rfl (pc0 := 11) (pc' := 14) (same := true) rfl (hb hby d1_11) rfl (decide_eq_true (congrArg Value.ref ha11)) (by decide) (by decide) kk) ?_
      show Gl p e below s _ _ _ T2 (mkF m 14 #[.val (.ref a1)] [])
      refine Gl.st (fun _ kk => XS.iconst X2.here hx rfl (hb hby d1_14) kk) ?_
      show Gl p e below s _ _ _ T2 (mkF m 15 #[.val (.ref a1)] [(.int (1 : Int32))])
      refine Gl.st (fun _ kk => XS.goto X2.here hx rfl (pc0 := 15) (pc' := 19) rfl (hb hby d1_15) (by decide) (by decide) kk) ?_
      show Gl p e below s _ _ _ T2 (mkF m 19 #[.val (.ref a1)] [(.int (1 : Int32))])
      have hzz : z = (1 : Int32) := by rw [hz]; simp [ha4, ha11]
      exact Gl.ret X2 (v := (some (.int (1 : Int32)))) (fun h => by rw [Bd.returns] at h; cases h) (BodyLoose.notSynchronized Bd) (fun hr => retN X2 hx (t := .boolean) Bd.returns (by simp) (hb hby d1_19) hr) e2 ⟨by rw [hzz], N0, rfl⟩ (by decide) (by decide)
    · skip
      refine Gl.st (fun _ kk => Jvm.RoadKit.acmp (g := (mkF m 11 #[.val (.ref a1)] [(.ref w_COLD_START), (.ref a1)])) X2 hx rfl rfl rfl (pc0 := 11) (pc' := 18) (same := false) rfl (hb hby d1_11) rfl (decide_eq_false fun q => ha11 (Value.ref.inj q)) (by decide) (by decide) kk) ?_
      show Gl p e below s _ _ _ T2 (mkF m 18 #[.val (.ref a1)] [])
      refine Gl.st (fun _ kk => XS.iconst X2.here hx rfl (hb hby d1_18) kk) ?_
      show Gl p e below s _ _ _ T2 (mkF m 19 #[.val (.ref a1)] [(.int (0 : Int32))])
      have hzz : z = (0 : Int32) := by rw [hz]; simp [ha4, ha11]
      exact Gl.ret X2 (v := (some (.int (0 : Int32)))) (fun h => by rw [Bd.returns] at h; cases h) (BodyLoose.notSynchronized Bd) (fun hr => retN X2 hx (t := .boolean) Bd.returns (by simp) (hb hby d1_19) hr) e2 ⟨by rw [hzz], N0, rfl⟩ (by decide) (by decide)
theorem pd_rm0_0 : parseMethodDescriptor "()Z" = some ⟨[], some .boolean⟩ := by decide +kernel
theorem pn_rm0 : plainName "com/example/concurrency_quota/concurrencyquota/DecisionAdmittedPinLaw" = true := by first | (simp [plainName, overriddenIn]; done) | decide +kernel
theorem ef_rm0 (m : MethodId) (p1 : Int32) : entryFrame m #[(.int p1)] maxLocals = mkF m 0 #[.val (.int p1), .unset, .unset, .unset] [] := by first | (simp [entryFrame, mkF, argsToLocals, Value.category, maxLocals]; done) | rfl
def Q_rm0 (Z : State) (p1 : Int32) (w_WARM_START w_COLD_START w_REJECTED_OVER_QUOTA w_REJECTED_SCALE_OUT w_REJECTED_QUEUE_FULL w_EXPIRED : Addr) (h0 : Heap) (n0 : Nat) (v : Option Value) (h : Heap) (L : List Loc) : Prop := v = some (.int 1) ∧ Fr n0 L
set_option maxRecDepth 65536 in
set_option maxHeartbeats 40000000 in
theorem rm0 (l : Launch) (Z : State) (a0 : Array Value) (hw : ∀ d ∈ tables_1, d.before a0 Z = true) (ws : List Jvm.Cond) (p1 : Int32) (w_WARM_START w_COLD_START w_REJECTED_OVER_QUOTA w_REJECTED_SCALE_OUT w_REJECTED_QUEUE_FULL w_EXPIRED : Addr) (h0 : Heap) (n0 : Nat) (O0 : Old Z n0 h0) (S_WARM_START : Sta Z Z.heap "com/example/concurrency_quota/concurrencyquota/Decision" "WARM_START" "Lcom/example/concurrency_quota/concurrencyquota/Decision;" (.ref w_WARM_START)) (S_COLD_START : Sta Z Z.heap "com/example/concurrency_quota/concurrencyquota/Decision" "COLD_START" "Lcom/example/concurrency_quota/concurrencyquota/Decision;" (.ref w_COLD_START)) (S_REJECTED_OVER_QUOTA : Sta Z Z.heap "com/example/concurrency_quota/concurrencyquota/Decision" "REJECTED_OVER_QUOTA" "Lcom/example/concurrency_quota/concurrencyquota/Decision;" (.ref w_REJECTED_OVER_QUOTA)) (S_REJECTED_SCALE_OUT : Sta Z Z.heap "com/example/concurrency_quota/concurrencyquota/Decision" "REJECTED_SCALE_OUT" "Lcom/example/concurrency_quota/concurrencyquota/Decision;" (.ref w_REJECTED_SCALE_OUT)) (S_REJECTED_QUEUE_FULL : Sta Z Z.heap "com/example/concurrency_quota/concurrencyquota/Decision" "REJECTED_QUEUE_FULL" "Lcom/example/concurrency_quota/concurrencyquota/Decision;" (.ref w_REJECTED_QUEUE_FULL)) (S_EXPIRED : Sta Z Z.heap "com/example/concurrency_quota/concurrencyquota/Decision" "EXPIRED" "Lcom/example/concurrency_quota/concurrencyquota/Decision;" (.ref w_EXPIRED)) (E_WARM_START : Exa Z Z.heap w_WARM_START "com/example/concurrency_quota/concurrencyquota/Decision") (E_COLD_START : Exa Z Z.heap w_COLD_START "com/example/concurrency_quota/concurrencyquota/Decision") (E_REJECTED_OVER_QUOTA : Exa Z Z.heap w_REJECTED_OVER_QUOTA "com/example/concurrency_quota/concurrencyquota/Decision") (E_REJECTED_SCALE_OUT : Exa Z Z.heap w_REJECTED_SCALE_OUT "com/example/concurrency_quota/concurrencyquota/Decision") (E_REJECTED_QUEUE_FULL : Exa Z Z.heap w_REJECTED_QUEUE_FULL "com/example/concurrency_quota/concurrencyquota/Decision") (E_EXPIRED : Exa Z Z.heap w_EXPIRED "com/example/concurrency_quota/concurrencyquota/Decision") (F_WARM_START : Fld Z Z.heap w_WARM_START "java/lang/Enum" "ordinal" "I" (.int 0)) (F_COLD_START : Fld Z Z.heap w_COLD_START "java/lang/Enum" "ordinal" "I" (.int 1)) (F_REJECTED_OVER_QUOTA : Fld Z Z.heap w_REJECTED_OVER_QUOTA "java/lang/Enum" "ordinal" "I" (.int 2)) (F_REJECTED_SCALE_OUT : Fld Z Z.heap w_REJECTED_SCALE_OUT "java/lang/Enum" "ordinal" "I" (.int 3)) (F_REJECTED_QUEUE_FULL : Fld Z Z.heap w_REJECTED_QUEUE_FULL "java/lang/Enum" "ordinal" "I" (.int 4)) (F_EXPIRED : Fld Z Z.heap w_EXPIRED "java/lang/Enum" "ordinal" "I" (.int 5)) :
    MetFree l x (head1 (Jvm.Cond.code x code maxLocals ret :: ws) room_1) (fun a U => a = #[(.int p1)] ∧ Z.Warmed39 U.vm ∧ U.heap = h0) (fun _ _ _ _ _ => True) (fun _ U o U' => ∃ v L, o = .returned v ∧ Q_rm0 Z p1 w_WARM_START w_COLD_START w_REJECTED_OVER_QUOTA w_REJECTED_SCALE_OUT w_REJECTED_QUEUE_FULL w_EXPIRED h0 n0 v U'.heap L ∧ FrameEnd U o U' L room_1.cells room_1.slots) := by
  refine MetFree.of_bodySF (plainFor_of_name pn_rm0) hisR ?_
  intro p e s m args below meth c s₁ Bd hml0 hP hK
  obtain ⟨rfl, hZ, hh⟩ := hP
  have hx := Bd.exec
  have hby := Bd.bytes
  have hml : c.maxLocals = 4 := hml0
  have hown : s.vm.findClass "com/example/concurrency_quota/concurrencyquota/DecisionAdmittedPinLaw" = some m.cls := findClass_of_methodNamed Bd.named
  have hnm := (name_of_methodNamed Bd.named Bd.method).1
  have X0 : Stand p l e room_1 s m #[(.int p1)] below meth c s₁ [] 0 0 := Stand.of_body Bd
  have e0 : s₁.heap = h0 := by rw [← hh, Bd.state]; rfl
  have N0 := Fr.nil n0
  refine Gl.start (Q := Q_rm0 Z p1 w_WARM_START w_COLD_START w_REJECTED_OVER_QUOTA w_REJECTED_SCALE_OUT w_REJECTED_QUEUE_FULL w_EXPIRED h0 n0) (ef_rm0 m p1) ?_
  show Gl p e below s _ _ _ s₁ (mkF m 0 #[.val (.int p1), .unset, .unset, .unset] [])
  refine Gl.st (fun _ kk => XS.iloadN X0.here hx rfl (hb hby at_0) rfl kk) ?_
  show Gl p e below s _ _ _ s₁ (mkF m 1 #[.val (.int p1), .unset, .unset, .unset] [(.int p1)])
  refine Gl.st (fun _ kk => X0.ldcInt hx hown (mvT hZ (hw _ (List.mem_of_getElem? (i := 0) rfl))) (g := (mkF m 1 #[.val (.int p1), .unset, .unset, .unset] [(.int p1)])) rfl (hb hby at_1) _ kk) ?_
  show Gl p e below s _ _ _ s₁ (mkF m 3 #[.val (.int p1), .unset, .unset, .unset] [(.int (2147483647 : Int32)), (.int p1)])
  refine Gl.st (fun _ kk => XS.iand X0.here hx rfl (hb hby at_3) rfl kk) ?_
  show Gl p e below s _ _ _ s₁ (mkF m 4 #[.val (.int p1), .unset, .unset, .unset] [(.int (p1 &&& (2147483647 : Int32)))])
  refine Gl.st (fun _ kk => XS.bipush X0.here hx rfl (hb hby at_4) kk) ?_
  show Gl p e below s _ _ _ s₁ (mkF m 6 #[.val (.int p1), .unset, .unset, .unset] [(.int (6 : Int32)), (.int (p1 &&& (2147483647 : Int32)))])
  refine Gl.st (fun _ kk => iremM (g := (mkF m 6 #[.val (.int p1), .unset, .unset, .unset] [(.int (6 : Int32)), (.int (p1 &&& (2147483647 : Int32)))])) X0 hx rfl (hb hby at_6) rfl (by decide) kk) ?_
  show Gl p e below s _ _ _ s₁ (mkF m 7 #[.val (.int p1), .unset, .unset, .unset] [(.int ((p1 &&& (2147483647 : Int32)) % (6 : Int32)))])
  refine Gl.st (fun _ kk => XS.istoreN X0.here hx rfl (hb hby at_7) rfl (l' := #[.val (.int p1), .val (.int ((p1 &&& (2147483647 : Int32)) % (6 : Int32))), .unset, .unset]) rfl kk) ?_
  show Gl p e below s _ _ _ s₁ (mkF m 8 #[.val (.int p1), .val (.int ((p1 &&& (2147483647 : Int32)) % (6 : Int32))), .unset, .unset] [])
  rcases own_mod6 p1 with hk | hk | hk | hk | hk | hk
  · rw [hk]
    show Gl p e below s _ _ _ s₁ (mkF m 8 #[.val (.int p1), .val (.int (0 : Int32)), .unset, .unset] [])
    refine Gl.st (fun _ kk => XS.iloadN X0.here hx rfl (hb hby at_8) rfl kk) ?_
    show Gl p e below s _ _ _ s₁ (mkF m 9 #[.val (.int p1), .val (.int (0 : Int32)), .unset, .unset] [(.int (0 : Int32))])
    refine Gl.st (fun _ kk => XS.ifNo X0.here hx rfl (hb hby at_9) rfl ((if0 _ _).trans (teq (by decide : (0 : Int32) = (0 : Int32))).2) kk) ?_
    show Gl p e below s _ _ _ s₁ (mkF m 12 #[.val (.int p1), .val (.int (0 : Int32)), .unset, .unset] [])
    obtain ⟨T1, X1, e1, st1⟩ := getS2 X0 hx hZ hown (host := "") (Or.inl (hw _ (List.mem_of_getElem? (i := 1) rfl))) Via.refl e0 (S_WARM_START.ext O0.2) (g := (mkF m 12 #[.val (.int p1), .val (.int (0 : Int32)), .unset, .unset] [])) rfl (hb hby at_12)
    refine Gl.st st1 ?_
    show Gl p e below s _ _ _ T1 (mkF m 15 #[.val (.int p1), .val (.int (0 : Int32)), .unset, .unset] [(.ref w_WARM_START)])
    refine Gl.st (fun _ kk => XS.astoreN X1.here hx rfl (hb hby at_15) rfl rfl (l' := #[.val (.int p1), .val (.int (0 : Int32)), .val (.ref w_WARM_START), .unset]) rfl kk) ?_
    show Gl p e below s _ _ _ T1 (mkF m 16 #[.val (.int p1), .val (.int (0 : Int32)), .val (.ref w_WARM_START), .unset] [])
    refine Gl.st (fun _ kk => XS.iconst X1.here hx rfl (hb hby at_16) kk) ?_
    show Gl p e below s _ _ _ T1 (mkF m 17 #[.val (.int p1), .val (.int (0 : Int32)), .val (.ref w_WARM_START), .unset] [(.int (1 : Int32))])
    refine Gl.st (fun _ kk => XS.istoreN X1.here hx rfl (hb hby at_17) rfl (l' := #[.val (.int p1), .val (.int (0 : Int32)), .val (.ref w_WARM_START), .val (.int (1 : Int32))]) rfl kk) ?_
    show Gl p e below s _ _ _ T1 (mkF m 18 #[.val (.int p1), .val (.int (0 : Int32)), .val (.ref w_WARM_START), .val (.int (1 : Int32))] [])
    refine Gl.st (fun _ kk => XS.goto X1.here hx rfl (pc0 := 18) (pc' := 83) rfl (hb hby at_18) (by decide) (by decide) kk) ?_
    show Gl p e below s _ _ _ T1 (mkF m 83 #[.val (.int p1), .val (.int (0 : Int32)), .val (.ref w_WARM_START), .val (.int (1 : Int32))] [])
    refine Gl.st (fun _ kk => XS.aloadN X1.here hx rfl (hb hby at_83) rfl rfl kk) ?_
    show Gl p e below s _ _ _ T1 (mkF m 84 #[.val (.int p1), .val (.int (0 : Int32)), .val (.ref w_WARM_START), .val (.int (1 : Int32))] [(.ref w_WARM_START)])
    obtain ⟨cq2, kq2, qa2, qb2, qc2⟩ := isOf hZ e1 (E_WARM_START.ext O0.2)
    obtain ⟨_, _, ⟨T2, L2, k2, n2⟩, -, X2, ⟨Lc2, hQ2, l2, y2, z2⟩, st2⟩ := X1.virtualBack hx (y := (⟨"com/example/concurrency_quota/concurrencyquota/Decision", "admitted", "()Z"⟩ : MethodName)) (z := (⟨"com/example/concurrency_quota/concurrencyquota/Decision", "admitted", "()Z"⟩ : MethodName)) hown (mvT hZ (hw _ (List.mem_of_getElem? (i := 4) rfl))) (mvT hZ (hw _ (List.mem_of_getElem? (i := 5) rfl))) (notFace_of_selects (args := #[]) (mvT hZ (hw _ (List.mem_of_getElem? (i := 7) rfl)))) (mvT hZ (hw _ (List.mem_of_getElem? (i := 7) rfl))) (mvT hZ (hw _ (List.mem_of_getElem? (i := 6) rfl))) (by decide) (backOf (W := 0) (rm1 l Z a0 hw [] w_WARM_START w_WARM_START w_COLD_START 1 h0 n0 O0 S_WARM_START S_COLD_START (by simp [(F_WARM_START.ne F_COLD_START (by decide) : w_WARM_START ≠ w_COLD_START)])) hZ (hw _ (List.mem_of_getElem? (i := 8) rfl)) (hw _ (List.mem_of_getElem? (i := 2) rfl)) (by decide) (by decide)) qa2 qc2 (g := (mkF m 84 #[.val (.int p1), .val (.int (0 : Int32)), .val (.ref w_WARM_START), .val (.int (1 : Int32))] [(.ref w_WARM_START)])) rfl (by rw [hml]; rfl) (Steps.refl _) (argsL := []) (rest := []) (lenOf pd_rm0_0 rfl) rfl (by show 2 * 0 + _ ≤ _; exact Nat.le_of_eq rfl) (hb hby at_84) (fun _ _ => ⟨rfl, e1, (by decide : 0 + 0 ≤ _), (by decide : 0 + 0 ≤ _)⟩)
    dsimp only [Pt.U, Pt.locs, Pt.cells, Pt.slots] at X2 l2 y2 z2 st2 hQ2
    subst l2 y2 z2
    obtain ⟨rfl, Nq2, e2⟩ := hQ2
    have N2 := Fr.app N0 Nq2
    refine Gl.st (fun _ kk => st2.trans kk) ?_
    show Gl p e below s _ _ _ T2 (mkF m 87 #[.val (.int p1), .val (.int (0 : Int32)), .val (.ref w_WARM_START), .val (.int (1 : Int32))] [(.int (1 : Int32))])
    refine Gl.st (fun _ kk => XS.iloadN X2.here hx rfl (hb hby at_87) rfl kk) ?_
    show Gl p e below s _ _ _ T2 (mkF m 88 #[.val (.int p1), .val (.int (0 : Int32)), .val (.ref w_WARM_START), .val (.int (1 : Int32))] [(.int (1 : Int32)), (.int (1 : Int32))])
    refine Gl.st (fun _ kk => XS.icmpNo X2.here hx rfl (hb hby at_88) rfl (teq (by decide : (1 : Int32) = (1 : Int32))).2 kk) ?_
    show Gl p e below s _ _ _ T2 (mkF m 91 #[.val (.int p1), .val (.int (0 : Int32)), .val (.ref w_WARM_START), .val (.int (1 : Int32))] [])
    refine Gl.st (fun _ kk => XS.iconst X2.here hx rfl (hb hby at_91) kk) ?_
    show Gl p e below s _ _ _ T2 (mkF m 92 #[.val (.int p1), .val (.int (0 : Int32)), .val (.ref w_WARM_START), .val (.int (1 : Int32))] [(.int (1 : Int32))])
    refine Gl.st (fun _ kk => XS.goto X2.here hx rfl (pc0 := 92) (pc' := 96) rfl (hb hby at_92) (by decide) (by decide) kk) ?_
    show Gl p e below s _ _ _ T2 (mkF m 96 #[.val (.int p1), .val (.int (0 : Int32)), .val (.ref w_WARM_START), .val (.int (1 : Int32))] [(.int (1 : Int32))])
    exact Gl.ret X2 (v := (some (.int (1 : Int32)))) (fun h => by rw [Bd.returns] at h; cases h) (BodyLoose.notSynchronized Bd) (fun hr => retN X2 hx (t := .boolean) Bd.returns (by simp) (hb hby at_96) hr) e2 ⟨rfl, N2⟩ (by decide) (by decide)
  · rw [hk]
    show Gl p e below s _ _ _ s₁ (mkF m 8 #[.val (.int p1), .val (.int (1 : Int32)), .unset, .unset] [])
    refine Gl.st (fun _ kk => XS.iloadN X0.here hx rfl (hb hby at_8) rfl kk) ?_
    show Gl p e below s _ _ _ s₁ (mkF m 9 #[.val (.int p1), .val (.int (1 : Int32)), .unset, .unset] [(.int (1 : Int32))])
    refine Gl.st (fun _ kk => XS.ifYes X0.here hx rfl (pc0 := 9) (pc' := 21) rfl (hb hby at_9) rfl ((if0 _ _).trans (feq (by decide : ¬ ((1 : Int32) = (0 : Int32)))).2) (by decide) (by decide) kk) ?_
    show Gl p e below s _ _ _ s₁ (mkF m 21 #[.val (.int p1), .val (.int (1 : Int32)), .unset, .unset] [])
    refine Gl.st (fun _ kk => XS.iloadN X0.here hx rfl (hb hby at_21) rfl kk) ?_
    show Gl p e below s _ _ _ s₁ (mkF m 22 #[.val (.int p1), .val (.int (1 : Int32)), .unset, .unset] [(.int (1 : Int32))])
    refine Gl.st (fun _ kk => XS.iconst X0.here hx rfl (hb hby at_22) kk) ?_
    show Gl p e below s _ _ _ s₁ (mkF m 23 #[.val (.int p1), .val (.int (1 : Int32)), .unset, .unset] [(.int (1 : Int32)), (.int (1 : Int32))])
    refine Gl.st (fun _ kk => XS.icmpNo X0.here hx rfl (hb hby at_23) rfl (teq (by decide : (1 : Int32) = (1 : Int32))).2 kk) ?_
    show Gl p e below s _ _ _ s₁ (mkF m 26 #[.val (.int p1), .val (.int (1 : Int32)), .unset, .unset] [])
    obtain ⟨T3, X3, e3, st3⟩ := getS2 X0 hx hZ hown (host := "") (Or.inl (hw _ (List.mem_of_getElem? (i := 16) rfl))) Via.refl e0 (S_COLD_START.ext O0.2) (g := (mkF m 26 #[.val (.int p1), .val (.int (1 : Int32)), .unset, .unset] [])) rfl (hb hby at_26)
    refine Gl.st st3 ?_
    show Gl p e below s _ _ _ T3 (mkF m 29 #[.val (.int p1), .val (.int (1 : Int32)), .unset, .unset] [(.ref w_COLD_START)])
    refine Gl.st (fun _ kk => XS.astoreN X3.here hx rfl (hb hby at_29) rfl rfl (l' := #[.val (.int p1), .val (.int (1 : Int32)), .val (.ref w_COLD_START), .unset]) rfl kk) ?_
    show Gl p e below s _ _ _ T3 (mkF m 30 #[.val (.int p1), .val (.int (1 : Int32)), .val (.ref w_COLD_START), .unset] [])
    refine Gl.st (fun _ kk => XS.iconst X3.here hx rfl (hb hby at_30) kk) ?_
    show Gl p e below s _ _ _ T3 (mkF m 31 #[.val (.int p1), .val (.int (1 : Int32)), .val (.ref w_COLD_START), .unset] [(.int (1 : Int32))])
    refine Gl.st (fun _ kk => XS.istoreN X3.here hx rfl (hb hby at_31) rfl (l' := #[.val (.int p1), .val (.int (1 : Int32)), .val (.ref w_COLD_START), .val (.int (1 : Int32))]) rfl kk) ?_
    show Gl p e below s _ _ _ T3 (mkF m 32 #[.val (.int p1), .val (.int (1 : Int32)), .val (.ref w_COLD_START), .val (.int (1 : Int32))] [])
    refine Gl.st (fun _ kk => XS.goto X3.here hx rfl (pc0 := 32) (pc' := 83) rfl (hb hby at_32) (by decide) (by decide) kk) ?_
    show Gl p e below s _ _ _ T3 (mkF m 83 #[.val (.int p1), .val (.int (1 : Int32)), .val (.ref w_COLD_START), .val (.int (1 : Int32))] [])
    refine Gl.st (fun _ kk => XS.aloadN X3.here hx rfl (hb hby at_83) rfl rfl kk) ?_
    show Gl p e below s _ _ _ T3 (mkF m 84 #[.val (.int p1), .val (.int (1 : Int32)), .val (.ref w_COLD_START), .val (.int (1 : Int32))] [(.ref w_COLD_START)])
    obtain ⟨cq4, kq4, qa4, qb4, qc4⟩ := isOf hZ e3 (E_COLD_START.ext O0.2)
    obtain ⟨_, _, ⟨T4, L4, k4, n4⟩, -, X4, ⟨Lc4, hQ4, l4, y4, z4⟩, st4⟩ := X3.virtualBack hx (y := (⟨"com/example/concurrency_quota/concurrencyquota/Decision", "admitted", "()Z"⟩ : MethodName)) (z := (⟨"com/example/concurrency_quota/concurrencyquota/Decision", "admitted", "()Z"⟩ : MethodName)) hown (mvT hZ (hw _ (List.mem_of_getElem? (i := 4) rfl))) (mvT hZ (hw _ (List.mem_of_getElem? (i := 5) rfl))) (notFace_of_selects (args := #[]) (mvT hZ (hw _ (List.mem_of_getElem? (i := 7) rfl)))) (mvT hZ (hw _ (List.mem_of_getElem? (i := 7) rfl))) (mvT hZ (hw _ (List.mem_of_getElem? (i := 6) rfl))) (by decide) (backOf (W := 0) (rm1 l Z a0 hw [] w_COLD_START w_WARM_START w_COLD_START 1 h0 n0 O0 S_WARM_START S_COLD_START (by simp [(F_COLD_START.ne F_WARM_START (by decide) : w_COLD_START ≠ w_WARM_START)])) hZ (hw _ (List.mem_of_getElem? (i := 8) rfl)) (hw _ (List.mem_of_getElem? (i := 2) rfl)) (by decide) (by decide)) qa4 qc4 (g := (mkF m 84 #[.val (.int p1), .val (.int (1 : Int32)), .val (.ref w_COLD_START), .val (.int (1 : Int32))] [(.ref w_COLD_START)])) rfl (by rw [hml]; rfl) (Steps.refl _) (argsL := []) (rest := []) (lenOf pd_rm0_0 rfl) rfl (by show 2 * 0 + _ ≤ _; exact Nat.le_of_eq rfl) (hb hby at_84) (fun _ _ => ⟨rfl, e3, (by decide : 0 + 0 ≤ _), (by decide : 0 + 0 ≤ _)⟩)
    dsimp only [Pt.U, Pt.locs, Pt.cells, Pt.slots] at X4 l4 y4 z4 st4 hQ4
    subst l4 y4 z4
    obtain ⟨rfl, Nq4, e4⟩ := hQ4
    have N4 := Fr.app N0 Nq4
    refine Gl.st (fun _ kk => st4.trans kk) ?_
    show Gl p e below s _ _ _ T4 (mkF m 87 #[.val (.int p1), .val (.int (1 : Int32)), .val (.ref w_COLD_START), .val (.int (1 : Int32))] [(.int (1 : Int32))])
    refine Gl.st (fun _ kk => XS.iloadN X4.here hx rfl (hb hby at_87) rfl kk) ?_
    show Gl p e below s _ _ _ T4 (mkF m 88 #[.val (.int p1), .val (.int (1 : Int32)), .val (.ref w_COLD_START), .val (.int (1 : Int32))] [(.int (1 : Int32)), (.int (1 : Int32))])
    refine Gl.st (fun _ kk => XS.icmpNo X4.here hx rfl (hb hby at_88) rfl (teq (by decide : (1 : Int32) = (1 : Int32))).2 kk) ?_
    show Gl p e below s _ _ _ T4 (mkF m 91 #[.val (.int p1), .val (.int (1 : Int32)), .val (.ref w_COLD_START), .val (.int (1 : Int32))] [])
    refine Gl.st (fun _ kk => XS.iconst X4.here hx rfl (hb hby at_91) kk) ?_
    show Gl p e below s _ _ _ T4 (mkF m 92 #[.val (.int p1), .val (.int (1 : Int32)), .val (.ref w_COLD_START), .val (.int (1 : Int32))] [(.int (1 : Int32))])
    refine Gl.st (fun _ kk => XS.goto X4.here hx rfl (pc0 := 92) (pc' := 96) rfl (hb hby at_92) (by decide) (by decide) kk) ?_
    show Gl p e below s _ _ _ T4 (mkF m 96 #[.val (.int p1), .val (.int (1 : Int32)), .val (.ref w_COLD_START), .val (.int (1 : Int32))] [(.int (1 : Int32))])
    exact Gl.ret X4 (v := (some (.int (1 : Int32)))) (fun h => by rw [Bd.returns] at h; cases h) (BodyLoose.notSynchronized Bd) (fun hr => retN X4 hx (t := .boolean) Bd.returns (by simp) (hb hby at_96) hr) e4 ⟨rfl, N4⟩ (by decide) (by decide)
  · rw [hk]
    show Gl p e below s _ _ _ s₁ (mkF m 8 #[.val (.int p1), .val (.int (2 : Int32)), .unset, .unset] [])
    refine Gl.st (fun _ kk => XS.iloadN X0.here hx rfl (hb hby at_8) rfl kk) ?_
    show Gl p e below s _ _ _ s₁ (mkF m 9 #[.val (.int p1), .val (.int (2 : Int32)), .unset, .unset] [(.int (2 : Int32))])
    refine Gl.st (fun _ kk => XS.ifYes X0.here hx rfl (pc0 := 9) (pc' := 21) rfl (hb hby at_9) rfl ((if0 _ _).trans (feq (by decide : ¬ ((2 : Int32) = (0 : Int32)))).2) (by decide) (by decide) kk) ?_
    show Gl p e below s _ _ _ s₁ (mkF m 21 #[.val (.int p1), .val (.int (2 : Int32)), .unset, .unset] [])
    refine Gl.st (fun _ kk => XS.iloadN X0.here hx rfl (hb hby at_21) rfl kk) ?_
    show Gl p e below s _ _ _ s₁ (mkF m 22 #[.val (.int p1), .val (.int (2 : Int32)), .unset, .unset] [(.int (2 : Int32))])
    refine Gl.st (fun _ kk => XS.iconst X0.here hx rfl (hb hby at_22) kk) ?_
    show Gl p e below s _ _ _ s₁ (mkF m 23 #[.val (.int p1), .val (.int (2 : Int32)), .unset, .unset] [(.int (1 : Int32)), (.int (2 : Int32))])
    refine Gl.st (fun _ kk => XS.icmpYes X0.here hx rfl (pc0 := 23) (pc' := 35) rfl (hb hby at_23) rfl (feq (by decide : ¬ ((2 : Int32) = (1 : Int32)))).2 (by decide) (by decide) kk) ?_
    show Gl p e below s _ _ _ s₁ (mkF m 35 #[.val (.int p1), .val (.int (2 : Int32)), .unset, .unset] [])
    refine Gl.st (fun _ kk => XS.iloadN X0.here hx rfl (hb hby at_35) rfl kk) ?_
    show Gl p e below s _ _ _ s₁ (mkF m 36 #[.val (.int p1), .val (.int (2 : Int32)), .unset, .unset] [(.int (2 : Int32))])
    refine Gl.st (fun _ kk => XS.iconst X0.here hx rfl (hb hby at_36) kk) ?_
    show Gl p e below s _ _ _ s₁ (mkF m 37 #[.val (.int p1), .val (.int (2 : Int32)), .unset, .unset] [(.int (2 : Int32)), (.int (2 : Int32))])
    refine Gl.st (fun _ kk => XS.icmpNo X0.here hx rfl (hb hby at_37) rfl (teq (by decide : (2 : Int32) = (2 : Int32))).2 kk) ?_
    show Gl p e below s _ _ _ s₁ (mkF m 40 #[.val (.int p1), .val (.int (2 : Int32)), .unset, .unset] [])
    obtain ⟨T5, X5, e5, st5⟩ := getS2 X0 hx hZ hown (host := "") (Or.inl (hw _ (List.mem_of_getElem? (i := 14) rfl))) Via.refl e0 (S_REJECTED_OVER_QUOTA.ext O0.2) (g := (mkF m 40 #[.val (.int p1), .val (.int (2 : Int32)), .unset, .unset] [])) rfl (hb hby at_40)
    refine Gl.st st5 ?_
    show Gl p e below s _ _ _ T5 (mkF m 43 #[.val (.int p1), .val (.int (2 : Int32)), .unset, .unset] [(.ref w_REJECTED_OVER_QUOTA)])
    refine Gl.st (fun _ kk => XS.astoreN X5.here hx rfl (hb hby at_43) rfl rfl (l' := #[.val (.int p1), .val (.int (2 : Int32)), .val (.ref w_REJECTED_OVER_QUOTA), .unset]) rfl kk) ?_
    show Gl p e below s _ _ _ T5 (mkF m 44 #[.val (.int p1), .val (.int (2 : Int32)), .val (.ref w_REJECTED_OVER_QUOTA), .unset] [])
    refine Gl.st (fun _ kk => XS.iconst X5.here hx rfl (hb hby at_44) kk) ?_
    show Gl p e below s _ _ _ T5 (mkF m 45 #[.val (.int p1), .val (.int (2 : Int32)), .val (.ref w_REJECTED_OVER_QUOTA), .unset] [(.int (0 : Int32))])
    refine Gl.st (fun _ kk => XS.istoreN X5.here hx rfl (hb hby at_45) rfl (l' := #[.val (.int p1), .val (.int (2 : Int32)), .val (.ref w_REJECTED_OVER_QUOTA), .val (.int (0 : Int32))]) rfl kk) ?_
    show Gl p e below s _ _ _ T5 (mkF m 46 #[.val (.int p1), .val (.int (2 : Int32)), .val (.ref w_REJECTED_OVER_QUOTA), .val (.int (0 : Int32))] [])
    refine Gl.st (fun _ kk => XS.goto X5.here hx rfl (pc0 := 46) (pc' := 83) rfl (hb hby at_46) (by decide) (by decide) kk) ?_
    show Gl p e below s _ _ _ T5 (mkF m 83 #[.val (.int p1), .val (.int (2 : Int32)), .val (.ref w_REJECTED_OVER_QUOTA), .val (.int (0 : Int32))] [])
    refine Gl.st (fun _ kk => XS.aloadN X5.here hx rfl (hb hby at_83) rfl rfl kk) ?_
    show Gl p e below s _ _ _ T5 (mkF m 84 #[.val (.int p1), .val (.int (2 : Int32)), .val (.ref w_REJECTED_OVER_QUOTA), .val (.int (0 : Int32))] [(.ref w_REJECTED_OVER_QUOTA)])
    obtain ⟨cq6, kq6, qa6, qb6, qc6⟩ := isOf hZ e5 (E_REJECTED_OVER_QUOTA.ext O0.2)
    obtain ⟨_, _, ⟨T6, L6, k6, n6⟩, -, X6, ⟨Lc6, hQ6, l6, y6, z6⟩, st6⟩ := X5.virtualBack hx (y := (⟨"com/example/concurrency_quota/concurrencyquota/Decision", "admitted", "()Z"⟩ : MethodName)) (z := (⟨"com/example/concurrency_quota/concurrencyquota/Decision", "admitted", "()Z"⟩ : MethodName)) hown (mvT hZ (hw _ (List.mem_of_getElem? (i := 4) rfl))) (mvT hZ (hw _ (List.mem_of_getElem? (i := 5) rfl))) (notFace_of_selects (args := #[]) (mvT hZ (hw _ (List.mem_of_getElem? (i := 7) rfl)))) (mvT hZ (hw _ (List.mem_of_getElem? (i := 7) rfl))) (mvT hZ (hw _ (List.mem_of_getElem? (i := 6) rfl))) (by decide) (backOf (W := 0) (rm1 l Z a0 hw [] w_REJECTED_OVER_QUOTA w_WARM_START w_COLD_START 0 h0 n0 O0 S_WARM_START S_COLD_START (by simp [(F_REJECTED_OVER_QUOTA.ne F_WARM_START (by decide) : w_REJECTED_OVER_QUOTA ≠ w_WARM_START), (F_REJECTED_OVER_QUOTA.ne F_COLD_START (by decide) : w_REJECTED_OVER_QUOTA ≠ w_COLD_START)])) hZ (hw _ (List.mem_of_getElem? (i := 8) rfl)) (hw _ (List.mem_of_getElem? (i := 2) rfl)) (by decide) (by decide)) qa6 qc6 (g := (mkF m 84 #[.val (.int p1), .val (.int (2 : Int32)), .val (.ref w_REJECTED_OVER_QUOTA), .val (.int (0 : Int32))] [(.ref w_REJECTED_OVER_QUOTA)])) rfl (by rw [hml]; rfl) (Steps.refl _) (argsL := []) (rest := []) (lenOf pd_rm0_0 rfl) rfl (by show 2 * 0 + _ ≤ _; exact Nat.le_of_eq rfl) (hb hby at_84) (fun _ _ => ⟨rfl, e5, (by decide : 0 + 0 ≤ _), (by decide : 0 + 0 ≤ _)⟩)
    dsimp only [Pt.U, Pt.locs, Pt.cells, Pt.slots] at X6 l6 y6 z6 st6 hQ6
    subst l6 y6 z6
    obtain ⟨rfl, Nq6, e6⟩ := hQ6
    have N6 := Fr.app N0 Nq6
    refine Gl.st (fun _ kk => st6.trans kk) ?_
    show Gl p e below s _ _ _ T6 (mkF m 87 #[.val (.int p1), .val (.int (2 : Int32)), .val (.ref w_REJECTED_OVER_QUOTA), .val (.int (0 : Int32))] [(.int (0 : Int32))])
    refine Gl.st (fun _ kk => XS.iloadN X6.here hx rfl (hb hby at_87) rfl kk) ?_
    show Gl p e below s _ _ _ T6 (mkF m 88 #[.val (.int p1), .val (.int (2 : Int32)), .val (.ref w_REJECTED_OVER_QUOTA), .val (.int (0 : Int32))] [(.int (0 : Int32)), (.int (0 : Int32))])
    refine Gl.st (fun _ kk => XS.icmpNo X6.here hx rfl (hb hby at_88) rfl (teq (by decide : (0 : Int32) = (0 : Int32))).2 kk) ?_
    show Gl p e below s _ _ _ T6 (mkF m 91 #[.val (.int p1), .val (.int (2 : Int32)), .val (.ref w_REJECTED_OVER_QUOTA), .val (.int (0 : Int32))] [])
    refine Gl.st (fun _ kk => XS.iconst X6.here hx rfl (hb hby at_91) kk) ?_
    show Gl p e below s _ _ _ T6 (mkF m 92 #[.val (.int p1), .val (.int (2 : Int32)), .val (.ref w_REJECTED_OVER_QUOTA), .val (.int (0 : Int32))] [(.int (1 : Int32))])
    refine Gl.st (fun _ kk => XS.goto X6.here hx rfl (pc0 := 92) (pc' := 96) rfl (hb hby at_92) (by decide) (by decide) kk) ?_
    show Gl p e below s _ _ _ T6 (mkF m 96 #[.val (.int p1), .val (.int (2 : Int32)), .val (.ref w_REJECTED_OVER_QUOTA), .val (.int (0 : Int32))] [(.int (1 : Int32))])
    exact Gl.ret X6 (v := (some (.int (1 : Int32)))) (fun h => by rw [Bd.returns] at h; cases h) (BodyLoose.notSynchronized Bd) (fun hr => retN X6 hx (t := .boolean) Bd.returns (by simp) (hb hby at_96) hr) e6 ⟨rfl, N6⟩ (by decide) (by decide)
  · rw [hk]
    show Gl p e below s _ _ _ s₁ (mkF m 8 #[.val (.int p1), .val (.int (3 : Int32)), .unset, .unset] [])
    refine Gl.st (fun _ kk => XS.iloadN X0.here hx rfl (hb hby at_8) rfl kk) ?_
    show Gl p e below s _ _ _ s₁ (mkF m 9 #[.val (.int p1), .val (.int (3 : Int32)), .unset, .unset] [(.int (3 : Int32))])
    refine Gl.st (fun _ kk => XS.ifYes X0.here hx rfl (pc0 := 9) (pc' := 21) rfl (hb hby at_9) rfl ((if0 _ _).trans (feq (by decide : ¬ ((3 : Int32) = (0 : Int32)))).2) (by decide) (by decide) kk) ?_
    show Gl p e below s _ _ _ s₁ (mkF m 21 #[.val (.int p1), .val (.int (3 : Int32)), .unset, .unset] [])
    refine Gl.st (fun _ kk => XS.iloadN X0.here hx rfl (hb hby at_21) rfl kk) ?_
    show Gl p e below s _ _ _ s₁ (mkF m 22 #[.val (.int p1), .val (.int (3 : Int32)), .unset, .unset] [(.int (3 : Int32))])
    refine Gl.st (fun _ kk => XS.iconst X0.here hx rfl (hb hby at_22) kk) ?_
    show Gl p e below s _ _ _ s₁ (mkF m 23 #[.val (.int p1), .val (.int (3 : Int32)), .unset, .unset] [(.int (1 : Int32)), (.int (3 : Int32))])
    refine Gl.st (fun _ kk => XS.icmpYes X0.here hx rfl (pc0 := 23) (pc' := 35) rfl (hb hby at_23) rfl (feq (by decide : ¬ ((3 : Int32) = (1 : Int32)))).2 (by decide) (by decide) kk) ?_
    show Gl p e below s _ _ _ s₁ (mkF m 35 #[.val (.int p1), .val (.int (3 : Int32)), .unset, .unset] [])
    refine Gl.st (fun _ kk => XS.iloadN X0.here hx rfl (hb hby at_35) rfl kk) ?_
    show Gl p e below s _ _ _ s₁ (mkF m 36 #[.val (.int p1), .val (.int (3 : Int32)), .unset, .unset] [(.int (3 : Int32))])
    refine Gl.st (fun _ kk => XS.iconst X0.here hx rfl (hb hby at_36) kk) ?_
    show Gl p e below s _ _ _ s₁ (mkF m 37 #[.val (.int p1), .val (.int (3 : Int32)), .unset, .unset] [(.int (2 : Int32)), (.int (3 : Int32))])
    refine Gl.st (fun _ kk => XS.icmpYes X0.here hx rfl (pc0 := 37) (pc' := 49) rfl (hb hby at_37) rfl (feq (by decide : ¬ ((3 : Int32) = (2 : Int32)))).2 (by decide) (by decide) kk) ?_
    show Gl p e below s _ _ _ s₁ (mkF m 49 #[.val (.int p1), .val (.int (3 : Int32)), .unset, .unset] [])
    refine Gl.st (fun _ kk => XS.iloadN X0.here hx rfl (hb hby at_49) rfl kk) ?_
    show Gl p e below s _ _ _ s₁ (mkF m 50 #[.val (.int p1), .val (.int (3 : Int32)), .unset, .unset] [(.int (3 : Int32))])
    refine Gl.st (fun _ kk => XS.iconst X0.here hx rfl (hb hby at_50) kk) ?_
    show Gl p e below s _ _ _ s₁ (mkF m 51 #[.val (.int p1), .val (.int (3 : Int32)), .unset, .unset] [(.int (3 : Int32)), (.int (3 : Int32))])
    refine Gl.st (fun _ kk => XS.icmpNo X0.here hx rfl (hb hby at_51) rfl (teq (by decide : (3 : Int32) = (3 : Int32))).2 kk) ?_
    show Gl p e below s _ _ _ s₁ (mkF m 54 #[.val (.int p1), .val (.int (3 : Int32)), .unset, .unset] [])
    obtain ⟨T7, X7, e7, st7⟩ := getS2 X0 hx hZ hown (host := "") (Or.inl (hw _ (List.mem_of_getElem? (i := 10) rfl))) Via.refl e0 (S_REJECTED_SCALE_OUT.ext O0.2) (g := (mkF m 54 #[.val (.int p1), .val (.int (3 : Int32)), .unset, .unset] [])) rfl (hb hby at_54)
    refine Gl.st st7 ?_
    show Gl p e below s _ _ _ T7 (mkF m 57 #[.val (.int p1), .val (.int (3 : Int32)), .unset, .unset] [(.ref w_REJECTED_SCALE_OUT)])
    refine Gl.st (fun _ kk => XS.astoreN X7.here hx rfl (hb hby at_57) rfl rfl (l' := #[.val (.int p1), .val (.int (3 : Int32)), .val (.ref w_REJECTED_SCALE_OUT), .unset]) rfl kk) ?_
    show Gl p e below s _ _ _ T7 (mkF m 58 #[.val (.int p1), .val (.int (3 : Int32)), .val (.ref w_REJECTED_SCALE_OUT), .unset] [])
    refine Gl.st (fun _ kk => XS.iconst X7.here hx rfl (hb hby at_58) kk) ?_
    show Gl p e below s _ _ _ T7 (mkF m 59 #[.val (.int p1), .val (.int (3 : Int32)), .val (.ref w_REJECTED_SCALE_OUT), .unset] [(.int (0 : Int32))])
    refine Gl.st (fun _ kk => XS.istoreN X7.here hx rfl (hb hby at_59) rfl (l' := #[.val (.int p1), .val (.int (3 : Int32)), .val (.ref w_REJECTED_SCALE_OUT), .val (.int (0 : Int32))]) rfl kk) ?_
    show Gl p e below s _ _ _ T7 (mkF m 60 #[.val (.int p1), .val (.int (3 : Int32)), .val (.ref w_REJECTED_SCALE_OUT), .val (.int (0 : Int32))] [])
    refine Gl.st (fun _ kk => XS.goto X7.here hx rfl (pc0 := 60) (pc' := 83) rfl (hb hby at_60) (by decide) (by decide) kk) ?_
    show Gl p e below s _ _ _ T7 (mkF m 83 #[.val (.int p1), .val (.int (3 : Int32)), .val (.ref w_REJECTED_SCALE_OUT), .val (.int (0 : Int32))] [])
    refine Gl.st (fun _ kk => XS.aloadN X7.here hx rfl (hb hby at_83) rfl rfl kk) ?_
    show Gl p e below s _ _ _ T7 (mkF m 84 #[.val (.int p1), .val (.int (3 : Int32)), .val (.ref w_REJECTED_SCALE_OUT), .val (.int (0 : Int32))] [(.ref w_REJECTED_SCALE_OUT)])
    obtain ⟨cq8, kq8, qa8, qb8, qc8⟩ := isOf hZ e7 (E_REJECTED_SCALE_OUT.ext O0.2)
    obtain ⟨_, _, ⟨T8, L8, k8, n8⟩, -, X8, ⟨Lc8, hQ8, l8, y8, z8⟩, st8⟩ := X7.virtualBack hx (y := (⟨"com/example/concurrency_quota/concurrencyquota/Decision", "admitted", "()Z"⟩ : MethodName)) (z := (⟨"com/example/concurrency_quota/concurrencyquota/Decision", "admitted", "()Z"⟩ : MethodName)) hown (mvT hZ (hw _ (List.mem_of_getElem? (i := 4) rfl))) (mvT hZ (hw _ (List.mem_of_getElem? (i := 5) rfl))) (notFace_of_selects (args := #[]) (mvT hZ (hw _ (List.mem_of_getElem? (i := 7) rfl)))) (mvT hZ (hw _ (List.mem_of_getElem? (i := 7) rfl))) (mvT hZ (hw _ (List.mem_of_getElem? (i := 6) rfl))) (by decide) (backOf (W := 0) (rm1 l Z a0 hw [] w_REJECTED_SCALE_OUT w_WARM_START w_COLD_START 0 h0 n0 O0 S_WARM_START S_COLD_START (by simp [(F_REJECTED_SCALE_OUT.ne F_WARM_START (by decide) : w_REJECTED_SCALE_OUT ≠ w_WARM_START), (F_REJECTED_SCALE_OUT.ne F_COLD_START (by decide) : w_REJECTED_SCALE_OUT ≠ w_COLD_START)])) hZ (hw _ (List.mem_of_getElem? (i := 8) rfl)) (hw _ (List.mem_of_getElem? (i := 2) rfl)) (by decide) (by decide)) qa8 qc8 (g := (mkF m 84 #[.val (.int p1), .val (.int (3 : Int32)), .val (.ref w_REJECTED_SCALE_OUT), .val (.int (0 : Int32))] [(.ref w_REJECTED_SCALE_OUT)])) rfl (by rw [hml]; rfl) (Steps.refl _) (argsL := []) (rest := []) (lenOf pd_rm0_0 rfl) rfl (by show 2 * 0 + _ ≤ _; exact Nat.le_of_eq rfl) (hb hby at_84) (fun _ _ => ⟨rfl, e7, (by decide : 0 + 0 ≤ _), (by decide : 0 + 0 ≤ _)⟩)
    dsimp only [Pt.U, Pt.locs, Pt.cells, Pt.slots] at X8 l8 y8 z8 st8 hQ8
    subst l8 y8 z8
    obtain ⟨rfl, Nq8, e8⟩ := hQ8
    have N8 := Fr.app N0 Nq8
    refine Gl.st (fun _ kk => st8.trans kk) ?_
    show Gl p e below s _ _ _ T8 (mkF m 87 #[.val (.int p1), .val (.int (3 : Int32)), .val (.ref w_REJECTED_SCALE_OUT), .val (.int (0 : Int32))] [(.int (0 : Int32))])
    refine Gl.st (fun _ kk => XS.iloadN X8.here hx rfl (hb hby at_87) rfl kk) ?_
    show Gl p e below s _ _ _ T8 (mkF m 88 #[.val (.int p1), .val (.int (3 : Int32)), .val (.ref w_REJECTED_SCALE_OUT), .val (.int (0 : Int32))] [(.int (0 : Int32)), (.int (0 : Int32))])
    refine Gl.st (fun _ kk => XS.icmpNo X8.here hx rfl (hb hby at_88) rfl (teq (by decide : (0 : Int32) = (0 : Int32))).2 kk) ?_
    show Gl p e below s _ _ _ T8 (mkF m 91 #[.val (.int p1), .val (.int (3 : Int32)), .val (.ref w_REJECTED_SCALE_OUT), .val (.int (0 : Int32))] [])
    refine Gl.st (fun _ kk => XS.iconst X8.here hx rfl (hb hby at_91) kk) ?_
    show Gl p e below s _ _ _ T8 (mkF m 92 #[.val (.int p1), .val (.int (3 : Int32)), .val (.ref w_REJECTED_SCALE_OUT), .val (.int (0 : Int32))] [(.int (1 : Int32))])
    refine Gl.st (fun _ kk => XS.goto X8.here hx rfl (pc0 := 92) (pc' := 96) rfl (hb hby at_92) (by decide) (by decide) kk) ?_
    show Gl p e below s _ _ _ T8 (mkF m 96 #[.val (.int p1), .val (.int (3 : Int32)), .val (.ref w_REJECTED_SCALE_OUT), .val (.int (0 : Int32))] [(.int (1 : Int32))])
    exact Gl.ret X8 (v := (some (.int (1 : Int32)))) (fun h => by rw [Bd.returns] at h; cases h) (BodyLoose.notSynchronized Bd) (fun hr => retN X8 hx (t := .boolean) Bd.returns (by simp) (hb hby at_96) hr) e8 ⟨rfl, N8⟩ (by decide) (by decide)
  · rw [hk]
    show Gl p e below s _ _ _ s₁ (mkF m 8 #[.val (.int p1), .val (.int (4 : Int32)), .unset, .unset] [])
    refine Gl.st (fun _ kk => XS.iloadN X0.here hx rfl (hb hby at_8) rfl kk) ?_
    show Gl p e below s _ _ _ s₁ (mkF m 9 #[.val (.int p1), .val (.int (4 : Int32)), .unset, .unset] [(.int (4 : Int32))])
    refine Gl.st (fun _ kk => XS.ifYes X0.here hx rfl (pc0 := 9) (pc' := 21) rfl (hb hby at_9) rfl ((if0 _ _).trans (feq (by decide : ¬ ((4 : Int32) = (0 : Int32)))).2) (by decide) (by decide) kk) ?_
    show Gl p e below s _ _ _ s₁ (mkF m 21 #[.val (.int p1), .val (.int (4 : Int32)), .unset, .unset] [])
    refine Gl.st (fun _ kk => XS.iloadN X0.here hx rfl (hb hby at_21) rfl kk) ?_
    show Gl p e below s _ _ _ s₁ (mkF m 22 #[.val (.int p1), .val (.int (4 : Int32)), .unset, .unset] [(.int (4 : Int32))])
    refine Gl.st (fun _ kk => XS.iconst X0.here hx rfl (hb hby at_22) kk) ?_
    show Gl p e below s _ _ _ s₁ (mkF m 23 #[.val (.int p1), .val (.int (4 : Int32)), .unset, .unset] [(.int (1 : Int32)), (.int (4 : Int32))])
    refine Gl.st (fun _ kk => XS.icmpYes X0.here hx rfl (pc0 := 23) (pc' := 35) rfl (hb hby at_23) rfl (feq (by decide : ¬ ((4 : Int32) = (1 : Int32)))).2 (by decide) (by decide) kk) ?_
    show Gl p e below s _ _ _ s₁ (mkF m 35 #[.val (.int p1), .val (.int (4 : Int32)), .unset, .unset] [])
    refine Gl.st (fun _ kk => XS.iloadN X0.here hx rfl (hb hby at_35) rfl kk) ?_
    show Gl p e below s _ _ _ s₁ (mkF m 36 #[.val (.int p1), .val (.int (4 : Int32)), .unset, .unset] [(.int (4 : Int32))])
    refine Gl.st (fun _ kk => XS.iconst X0.here hx rfl (hb hby at_36) kk) ?_
    show Gl p e below s _ _ _ s₁ (mkF m 37 #[.val (.int p1), .val (.int (4 : Int32)), .unset, .unset] [(.int (2 : Int32)), (.int (4 : Int32))])
    refine Gl.st (fun _ kk => XS.icmpYes X0.here hx rfl (pc0 := 37) (pc' := 49) rfl (hb hby at_37) rfl (feq (by decide : ¬ ((4 : Int32) = (2 : Int32)))).2 (by decide) (by decide) kk) ?_
    show Gl p e below s _ _ _ s₁ (mkF m 49 #[.val (.int p1), .val (.int (4 : Int32)), .unset, .unset] [])
    refine Gl.st (fun _ kk => XS.iloadN X0.here hx rfl (hb hby at_49) rfl kk) ?_
    show Gl p e below s _ _ _ s₁ (mkF m 50 #[.val (.int p1), .val (.int (4 : Int32)), .unset, .unset] [(.int (4 : Int32))])
    refine Gl.st (fun _ kk => XS.iconst X0.here hx rfl (hb hby at_50) kk) ?_
    show Gl p e below s _ _ _ s₁ (mkF m 51 #[.val (.int p1), .val (.int (4 : Int32)), .unset, .unset] [(.int (3 : Int32)), (.int (4 : Int32))])
    refine Gl.st (fun _ kk => XS.icmpYes X0.here hx rfl (pc0 := 51) (pc' := 63) rfl (hb hby at_51) rfl (feq (by decide : ¬ ((4 : Int32) = (3 : Int32)))).2 (by decide) (by decide) kk) ?_
    show Gl p e below s _ _ _ s₁ (mkF m 63 #[.val (.int p1), .val (.int (4 : Int32)), .unset, .unset] [])
    refine Gl.st (fun _ kk => XS.iloadN X0.here hx rfl (hb hby at_63) rfl kk) ?_
    show Gl p e below s _ _ _ s₁ (mkF m 64 #[.val (.int p1), .val (.int (4 : Int32)), .unset, .unset] [(.int (4 : Int32))])
    refine Gl.st (fun _ kk => XS.iconst X0.here hx rfl (hb hby at_64) kk) ?_
    show Gl p e below s _ _ _ s₁ (mkF m 65 #[.val (.int p1), .val (.int (4 : Int32)), .unset, .unset] [(.int (4 : Int32)), (.int (4 : Int32))])
    refine Gl.st (fun _ kk => XS.icmpNo X0.here hx rfl (hb hby at_65) rfl (teq (by decide : (4 : Int32) = (4 : Int32))).2 kk) ?_
    show Gl p e below s _ _ _ s₁ (mkF m 68 #[.val (.int p1), .val (.int (4 : Int32)), .unset, .unset] [])
    obtain ⟨T9, X9, e9, st9⟩ := getS2 X0 hx hZ hown (host := "") (Or.inl (hw _ (List.mem_of_getElem? (i := 19) rfl))) Via.refl e0 (S_REJECTED_QUEUE_FULL.ext O0.2) (g := (mkF m 68 #[.val (.int p1), .val (.int (4 : Int32)), .unset, .unset] [])) rfl (hb hby at_68)
    refine Gl.st st9 ?_
    show Gl p e below s _ _ _ T9 (mkF m 71 #[.val (.int p1), .val (.int (4 : Int32)), .unset, .unset] [(.ref w_REJECTED_QUEUE_FULL)])
    refine Gl.st (fun _ kk => XS.astoreN X9.here hx rfl (hb hby at_71) rfl rfl (l' := #[.val (.int p1), .val (.int (4 : Int32)), .val (.ref w_REJECTED_QUEUE_FULL), .unset]) rfl kk) ?_
    show Gl p e below s _ _ _ T9 (mkF m 72 #[.val (.int p1), .val (.int (4 : Int32)), .val (.ref w_REJECTED_QUEUE_FULL), .unset] [])
    refine Gl.st (fun _ kk => XS.iconst X9.here hx rfl (hb hby at_72) kk) ?_
    show Gl p e below s _ _ _ T9 (mkF m 73 #[.val (.int p1), .val (.int (4 : Int32)), .val (.ref w_REJECTED_QUEUE_FULL), .unset] [(.int (0 : Int32))])
    refine Gl.st (fun _ kk => XS.istoreN X9.here hx rfl (hb hby at_73) rfl (l' := #[.val (.int p1), .val (.int (4 : Int32)), .val (.ref w_REJECTED_QUEUE_FULL), .val (.int (0 : Int32))]) rfl kk) ?_
    show Gl p e below s _ _ _ T9 (mkF m 74 #[.val (.int p1), .val (.int (4 : Int32)), .val (.ref w_REJECTED_QUEUE_FULL), .val (.int (0 : Int32))] [])
    refine Gl.st (fun _ kk => XS.goto X9.here hx rfl (pc0 := 74) (pc' := 83) rfl (hb hby at_74) (by decide) (by decide) kk) ?_
    show Gl p e below s _ _ _ T9 (mkF m 83 #[.val (.int p1), .val (.int (4 : Int32)), .val (.ref w_REJECTED_QUEUE_FULL), .val (.int (0 : Int32))] [])
    refine Gl.st (fun _ kk => XS.aloadN X9.here hx rfl (hb hby at_83) rfl rfl kk) ?_
    show Gl p e below s _ _ _ T9 (mkF m 84 #[.val (.int p1), .val (.int (4 : Int32)), .val (.ref w_REJECTED_QUEUE_FULL), .val (.int (0 : Int32))] [(.ref w_REJECTED_QUEUE_FULL)])
    obtain ⟨cq10, kq10, qa10, qb10, qc10⟩ := isOf hZ e9 (E_REJECTED_QUEUE_FULL.ext O0.2)
    obtain ⟨_, _, ⟨T10, L10, k10, n10⟩, -, X10, ⟨Lc10, hQ10, l10, y10, z10⟩, st10⟩ := X9.virtualBack hx (y := (⟨"com/example/concurrency_quota/concurrencyquota/Decision", "admitted", "()Z"⟩ : MethodName)) (z := (⟨"com/example/concurrency_quota/concurrencyquota/Decision", "admitted", "()Z"⟩ : MethodName)) hown (mvT hZ (hw _ (List.mem_of_getElem? (i := 4) rfl))) (mvT hZ (hw _ (List.mem_of_getElem? (i := 5) rfl))) (notFace_of_selects (args := #[]) (mvT hZ (hw _ (List.mem_of_getElem? (i := 7) rfl)))) (mvT hZ (hw _ (List.mem_of_getElem? (i := 7) rfl))) (mvT hZ (hw _ (List.mem_of_getElem? (i := 6) rfl))) (by decide) (backOf (W := 0) (rm1 l Z a0 hw [] w_REJECTED_QUEUE_FULL w_WARM_START w_COLD_START 0 h0 n0 O0 S_WARM_START S_COLD_START (by simp [(F_REJECTED_QUEUE_FULL.ne F_WARM_START (by decide) : w_REJECTED_QUEUE_FULL ≠ w_WARM_START), (F_REJECTED_QUEUE_FULL.ne F_COLD_START (by decide) : w_REJECTED_QUEUE_FULL ≠ w_COLD_START)])) hZ (hw _ (List.mem_of_getElem? (i := 8) rfl)) (hw _ (List.mem_of_getElem? (i := 2) rfl)) (by decide) (by decide)) qa10 qc10 (g := (mkF m 84 #[.val (.int p1), .val (.int (4 : Int32)), .val (.ref w_REJECTED_QUEUE_FULL), .val (.int (0 : Int32))] [(.ref w_REJECTED_QUEUE_FULL)])) rfl (by rw [hml]; rfl) (Steps.refl _) (argsL := []) (rest := []) (lenOf pd_rm0_0 rfl) rfl (by show 2 * 0 + _ ≤ _; exact Nat.le_of_eq rfl) (hb hby at_84) (fun _ _ => ⟨rfl, e9, (by decide : 0 + 0 ≤ _), (by decide : 0 + 0 ≤ _)⟩)
    dsimp only [Pt.U, Pt.locs, Pt.cells, Pt.slots] at X10 l10 y10 z10 st10 hQ10
    subst l10 y10 z10
    obtain ⟨rfl, Nq10, e10⟩ := hQ10
    have N10 := Fr.app N0 Nq10
    refine Gl.st (fun _ kk => st10.trans kk) ?_
    show Gl p e below s _ _ _ T10 (mkF m 87 #[.val (.int p1), .val (.int (4 : Int32)), .val (.ref w_REJECTED_QUEUE_FULL), .val (.int (0 : Int32))] [(.int (0 : Int32))])
    refine Gl.st (fun _ kk => XS.iloadN X10.here hx rfl (hb hby at_87) rfl kk) ?_
    show Gl p e below s _ _ _ T10 (mkF m 88 #[.val (.int p1), .val (.int (4 : Int32)), .val (.ref w_REJECTED_QUEUE_FULL), .val (.int (0 : Int32))] [(.int (0 : Int32)), (.int (0 : Int32))])
    refine Gl.st (fun _ kk => XS.icmpNo X10.here hx rfl (hb hby at_88) rfl (teq (by decide : (0 : Int32) = (0 : Int32))).2 kk) ?_
    show Gl p e below s _ _ _ T10 (mkF m 91 #[.val (.int p1), .val (.int (4 : Int32)), .val (.ref w_REJECTED_QUEUE_FULL), .val (.int (0 : Int32))] [])
    refine Gl.st (fun _ kk => XS.iconst X10.here hx rfl (hb hby at_91) kk) ?_
    show Gl p e below s _ _ _ T10 (mkF m 92 #[.val (.int p1), .val (.int (4 : Int32)), .val (.ref w_REJECTED_QUEUE_FULL), .val (.int (0 : Int32))] [(.int (1 : Int32))])
    refine Gl.st (fun _ kk => XS.goto X10.here hx rfl (pc0 := 92) (pc' := 96) rfl (hb hby at_92) (by decide) (by decide) kk) ?_
    show Gl p e below s _ _ _ T10 (mkF m 96 #[.val (.int p1), .val (.int (4 : Int32)), .val (.ref w_REJECTED_QUEUE_FULL), .val (.int (0 : Int32))] [(.int (1 : Int32))])
    exact Gl.ret X10 (v := (some (.int (1 : Int32)))) (fun h => by rw [Bd.returns] at h; cases h) (BodyLoose.notSynchronized Bd) (fun hr => retN X10 hx (t := .boolean) Bd.returns (by simp) (hb hby at_96) hr) e10 ⟨rfl, N10⟩ (by decide) (by decide)
  · rw [hk]
    show Gl p e below s _ _ _ s₁ (mkF m 8 #[.val (.int p1), .val (.int (5 : Int32)), .unset, .unset] [])
    refine Gl.st (fun _ kk => XS.iloadN X0.here hx rfl (hb hby at_8) rfl kk) ?_
    show Gl p e below s _ _ _ s₁ (mkF m 9 #[.val (.int p1), .val (.int (5 : Int32)), .unset, .unset] [(.int (5 : Int32))])
    refine Gl.st (fun _ kk => XS.ifYes X0.here hx rfl (pc0 := 9) (pc' := 21) rfl (hb hby at_9) rfl ((if0 _ _).trans (feq (by decide : ¬ ((5 : Int32) = (0 : Int32)))).2) (by decide) (by decide) kk) ?_
    show Gl p e below s _ _ _ s₁ (mkF m 21 #[.val (.int p1), .val (.int (5 : Int32)), .unset, .unset] [])
    refine Gl.st (fun _ kk => XS.iloadN X0.here hx rfl (hb hby at_21) rfl kk) ?_
    show Gl p e below s _ _ _ s₁ (mkF m 22 #[.val (.int p1), .val (.int (5 : Int32)), .unset, .unset] [(.int (5 : Int32))])
    refine Gl.st (fun _ kk => XS.iconst X0.here hx rfl (hb hby at_22) kk) ?_
    show Gl p e below s _ _ _ s₁ (mkF m 23 #[.val (.int p1), .val (.int (5 : Int32)), .unset, .unset] [(.int (1 : Int32)), (.int (5 : Int32))])
    refine Gl.st (fun _ kk => XS.icmpYes X0.here hx rfl (pc0 := 23) (pc' := 35) rfl (hb hby at_23) rfl (feq (by decide : ¬ ((5 : Int32) = (1 : Int32)))).2 (by decide) (by decide) kk) ?_
    show Gl p e below s _ _ _ s₁ (mkF m 35 #[.val (.int p1), .val (.int (5 : Int32)), .unset, .unset] [])
    refine Gl.st (fun _ kk => XS.iloadN X0.here hx rfl (hb hby at_35) rfl kk) ?_
    show Gl p e below s _ _ _ s₁ (mkF m 36 #[.val (.int p1), .val (.int (5 : Int32)), .unset, .unset] [(.int (5 : Int32))])
    refine Gl.st (fun _ kk => XS.iconst X0.here hx rfl (hb hby at_36) kk) ?_
    show Gl p e below s _ _ _ s₁ (mkF m 37 #[.val (.int p1), .val (.int (5 : Int32)), .unset, .unset] [(.int (2 : Int32)), (.int (5 : Int32))])
    refine Gl.st (fun _ kk => XS.icmpYes X0.here hx rfl (pc0 := 37) (pc' := 49) rfl (hb hby at_37) rfl (feq (by decide : ¬ ((5 : Int32) = (2 : Int32)))).2 (by decide) (by decide) kk) ?_
    show Gl p e below s _ _ _ s₁ (mkF m 49 #[.val (.int p1), .val (.int (5 : Int32)), .unset, .unset] [])
    refine Gl.st (fun _ kk => XS.iloadN X0.here hx rfl (hb hby at_49) rfl kk) ?_
    show Gl p e below s _ _ _ s₁ (mkF m 50 #[.val (.int p1), .val (.int (5 : Int32)), .unset, .unset] [(.int (5 : Int32))])
    refine Gl.st (fun _ kk => XS.iconst X0.here hx rfl (hb hby at_50) kk) ?_
    show Gl p e below s _ _ _ s₁ (mkF m 51 #[.val (.int p1), .val (.int (5 : Int32)), .unset, .unset] [(.int (3 : Int32)), (.int (5 : Int32))])
    refine Gl.st (fun _ kk => XS.icmpYes X0.here hx rfl (pc0 := 51) (pc' := 63) rfl (hb hby at_51) rfl (feq (by decide : ¬ ((5 : Int32) = (3 : Int32)))).2 (by decide) (by decide) kk) ?_
    show Gl p e below s _ _ _ s₁ (mkF m 63 #[.val (.int p1), .val (.int (5 : Int32)), .unset, .unset] [])
    refine Gl.st (fun _ kk => XS.iloadN X0.here hx rfl (hb hby at_63) rfl kk) ?_
    show Gl p e below s _ _ _ s₁ (mkF m 64 #[.val (.int p1), .val (.int (5 : Int32)), .unset, .unset] [(.int (5 : Int32))])
    refine Gl.st (fun _ kk => XS.iconst X0.here hx rfl (hb hby at_64) kk) ?_
    show Gl p e below s _ _ _ s₁ (mkF m 65 #[.val (.int p1), .val (.int (5 : Int32)), .unset, .unset] [(.int (4 : Int32)), (.int (5 : Int32))])
    refine Gl.st (fun _ kk => XS.icmpYes X0.here hx rfl (pc0 := 65) (pc' := 77) rfl (hb hby at_65) rfl (feq (by decide : ¬ ((5 : Int32) = (4 : Int32)))).2 (by decide) (by decide) kk) ?_
    show Gl p e below s _ _ _ s₁ (mkF m 77 #[.val (.int p1), .val (.int (5 : Int32)), .unset, .unset] [])
    obtain ⟨T11, X11, e11, st11⟩ := getS2 X0 hx hZ hown (host := "") (Or.inl (hw _ (List.mem_of_getElem? (i := 17) rfl))) Via.refl e0 (S_EXPIRED.ext O0.2) (g := (mkF m 77 #[.val (.int p1), .val (.int (5 : Int32)), .unset, .unset] [])) rfl (hb hby at_77)
    refine Gl.st st11 ?_
    show Gl p e below s _ _ _ T11 (mkF m 80 #[.val (.int p1), .val (.int (5 : Int32)), .unset, .unset] [(.ref w_EXPIRED)])
    refine Gl.st (fun _ kk => XS.astoreN X11.here hx rfl (hb hby at_80) rfl rfl (l' := #[.val (.int p1), .val (.int (5 : Int32)), .val (.ref w_EXPIRED), .unset]) rfl kk) ?_
    show Gl p e below s _ _ _ T11 (mkF m 81 #[.val (.int p1), .val (.int (5 : Int32)), .val (.ref w_EXPIRED), .unset] [])
    refine Gl.st (fun _ kk => XS.iconst X11.here hx rfl (hb hby at_81) kk) ?_
    show Gl p e below s _ _ _ T11 (mkF m 82 #[.val (.int p1), .val (.int (5 : Int32)), .val (.ref w_EXPIRED), .unset] [(.int (0 : Int32))])
    refine Gl.st (fun _ kk => XS.istoreN X11.here hx rfl (hb hby at_82) rfl (l' := #[.val (.int p1), .val (.int (5 : Int32)), .val (.ref w_EXPIRED), .val (.int (0 : Int32))]) rfl kk) ?_
    show Gl p e below s _ _ _ T11 (mkF m 83 #[.val (.int p1), .val (.int (5 : Int32)), .val (.ref w_EXPIRED), .val (.int (0 : Int32))] [])
    refine Gl.st (fun _ kk => XS.aloadN X11.here hx rfl (hb hby at_83) rfl rfl kk) ?_
    show Gl p e below s _ _ _ T11 (mkF m 84 #[.val (.int p1), .val (.int (5 : Int32)), .val (.ref w_EXPIRED), .val (.int (0 : Int32))] [(.ref w_EXPIRED)])
    obtain ⟨cq12, kq12, qa12, qb12, qc12⟩ := isOf hZ e11 (E_EXPIRED.ext O0.2)
    obtain ⟨_, _, ⟨T12, L12, k12, n12⟩, -, X12, ⟨Lc12, hQ12, l12, y12, z12⟩, st12⟩ := X11.virtualBack hx (y := (⟨"com/example/concurrency_quota/concurrencyquota/Decision", "admitted", "()Z"⟩ : MethodName)) (z := (⟨"com/example/concurrency_quota/concurrencyquota/Decision", "admitted", "()Z"⟩ : MethodName)) hown (mvT hZ (hw _ (List.mem_of_getElem? (i := 4) rfl))) (mvT hZ (hw _ (List.mem_of_getElem? (i := 5) rfl))) (notFace_of_selects (args := #[]) (mvT hZ (hw _ (List.mem_of_getElem? (i := 7) rfl)))) (mvT hZ (hw _ (List.mem_of_getElem? (i := 7) rfl))) (mvT hZ (hw _ (List.mem_of_getElem? (i := 6) rfl))) (by decide) (backOf (W := 0) (rm1 l Z a0 hw [] w_EXPIRED w_WARM_START w_COLD_START 0 h0 n0 O0 S_WARM_START S_COLD_START (by simp [(F_EXPIRED.ne F_WARM_START (by decide) : w_EXPIRED ≠ w_WARM_START), (F_EXPIRED.ne F_COLD_START (by decide) : w_EXPIRED ≠ w_COLD_START)])) hZ (hw _ (List.mem_of_getElem? (i := 8) rfl)) (hw _ (List.mem_of_getElem? (i := 2) rfl)) (by decide) (by decide)) qa12 qc12 (g := (mkF m 84 #[.val (.int p1), .val (.int (5 : Int32)), .val (.ref w_EXPIRED), .val (.int (0 : Int32))] [(.ref w_EXPIRED)])) rfl (by rw [hml]; rfl) (Steps.refl _) (argsL := []) (rest := []) (lenOf pd_rm0_0 rfl) rfl (by show 2 * 0 + _ ≤ _; exact Nat.le_of_eq rfl) (hb hby at_84) (fun _ _ => ⟨rfl, e11, (by decide : 0 + 0 ≤ _), (by decide : 0 + 0 ≤ _)⟩)
    dsimp only [Pt.U, Pt.locs, Pt.cells, Pt.slots] at X12 l12 y12 z12 st12 hQ12
    subst l12 y12 z12
    obtain ⟨rfl, Nq12, e12⟩ := hQ12
    have N12 := Fr.app N0 Nq12
    refine Gl.st (fun _ kk => st12.trans kk) ?_
    show Gl p e below s _ _ _ T12 (mkF m 87 #[.val (.int p1), .val (.int (5 : Int32)), .val (.ref w_EXPIRED), .val (.int (0 : Int32))] [(.int (0 : Int32))])
    refine Gl.st (fun _ kk => XS.iloadN X12.here hx rfl (hb hby at_87) rfl kk) ?_
    show Gl p e below s _ _ _ T12 (mkF m 88 #[.val (.int p1), .val (.int (5 : Int32)), .val (.ref w_EXPIRED), .val (.int (0 : Int32))] [(.int (0 : Int32)), (.int (0 : Int32))])
    refine Gl.st (fun _ kk => XS.icmpNo X12.here hx rfl (hb hby at_88) rfl (teq (by decide : (0 : Int32) = (0 : Int32))).2 kk) ?_
    show Gl p e below s _ _ _ T12 (mkF m 91 #[.val (.int p1), .val (.int (5 : Int32)), .val (.ref w_EXPIRED), .val (.int (0 : Int32))] [])
    refine Gl.st (fun _ kk => XS.iconst X12.here hx rfl (hb hby at_91) kk) ?_
    show Gl p e below s _ _ _ T12 (mkF m 92 #[.val (.int p1), .val (.int (5 : Int32)), .val (.ref w_EXPIRED), .val (.int (0 : Int32))] [(.int (1 : Int32))])
    refine Gl.st (fun _ kk => XS.goto X12.here hx rfl (pc0 := 92) (pc' := 96) rfl (hb hby at_92) (by decide) (by decide) kk) ?_
    show Gl p e below s _ _ _ T12 (mkF m 96 #[.val (.int p1), .val (.int (5 : Int32)), .val (.ref w_EXPIRED), .val (.int (0 : Int32))] [(.int (1 : Int32))])
    exact Gl.ret X12 (v := (some (.int (1 : Int32)))) (fun h => by rw [Bd.returns] at h; cases h) (BodyLoose.notSynchronized Bd) (fun hr => retN X12 hx (t := .boolean) Bd.returns (by simp) (hb hby at_96) hr) e12 ⟨rfl, N12⟩ (by decide) (by decide)
set_option maxRecDepth 65536 in
set_option maxHeartbeats 40000000 in
theorem comes_1 {Post : Tables → Env → Array Value → State → Outcome → State → Prop} (hpost : ∀ tb e args s v u, (limb_1_1.after args s (.returned v) u = true ∧ limb_1_2.after args s (.returned v) u = true ∧ True) → FrameEnd s (.returned v) u (Jvm.fieldLocs frame_1_writes args s ++ Jvm.arrayLocs frame_1_arrays args s ++ Jvm.staticLocs frame_1_statics s) 0 0 → Post tb e args s (.returned v) u) :
    ArmFor flags0 classFile x code maxLocals ret World_1 tables_1 room_1 Calls_1 rest_1 Pre_1 Post := by
  intro l hfl _ _ p e ha hc hk s m args below hf hA hF happ hP
  obtain ⟨hcalls, hrest, hpre⟩ := hP
  obtain ⟨-, -, -, hnamed, -, -, -, hat⟩ := (Spec.applies_iff hf).mp happ
  obtain ⟨hg, hn⟩ := and_e (Cond.before_iff.mp (show (Jvm.Cond.and given_1 narrow_1).before args s = true from hpre))
  obtain ⟨g1a, g1b⟩ := and_e hg
  obtain ⟨w0, rfl⟩ : ∃ w0 : Value, args = #[w0] := by
    have hs : args.size = 1 := by simpa [Cond.value, given_1] using g1a
    obtain ⟨L⟩ := args
    match L, hs with
    | [w0], _ => exact ⟨w0, rfl⟩
  have hw := fun d (hd : d ∈ tables_1) => atoms_spec (ws := Jvm.Cond.code x code maxLocals ret :: tables_1) hat d (List.mem_cons_of_mem _ hd)
  have hfit : Fit s := fun {y c} hc i hi => by
    obtain ⟨ha, rfl⟩ := Array.getElem?_eq_some_iff.mp hc
    have q := List.all_eq_true.mp ((Array.all_eq_true_iff_forall_mem.mp hF) _ (Array.getElem_mem ha)) i (List.mem_range.mpr hi)
    simpa [Array.getElem?_eq_getElem hi] using q
  obtain ⟨i0, ei0⟩ := is_v g1b
  obtain rfl : w0 = (.int i0) := Option.some.inj ei0
  obtain ⟨g2a, g2b⟩ := and_e hn
  obtain ⟨g3a, g3b⟩ := and_e g2b
  obtain ⟨g4a, g4b⟩ := and_e g3b
  obtain ⟨g5a, g5b⟩ := and_e g4b
  obtain ⟨g6a, g6b⟩ := and_e g5b
  obtain ⟨g7a, g7b⟩ := and_e g6b
  obtain ⟨g8a, g8b⟩ := and_e g7b
  obtain ⟨g9a, g9b⟩ := and_e g8b
  obtain ⟨g10a, g10b⟩ := and_e g9b
  obtain ⟨g11a, g11b⟩ := and_e g10b
  obtain ⟨g12a, g12b⟩ := and_e g11b
  obtain ⟨w_WARM_START, ev_WARM_START⟩ := exa_v g2a
  have E_WARM_START := Exa.start ev_WARM_START g2a
  have S_WARM_START := Sta.start ev_WARM_START (Or.inr ⟨(hw _ (List.mem_of_getElem? (i := 2) rfl)), (hw _ (List.mem_of_getElem? (i := 3) rfl))⟩)
  obtain ⟨w_REJECTED_SCALE_OUT, ev_REJECTED_SCALE_OUT⟩ := exa_v g3a
  have E_REJECTED_SCALE_OUT := Exa.start ev_REJECTED_SCALE_OUT g3a
  have S_REJECTED_SCALE_OUT := Sta.start ev_REJECTED_SCALE_OUT (Or.inr ⟨(hw _ (List.mem_of_getElem? (i := 2) rfl)), (hw _ (List.mem_of_getElem? (i := 11) rfl))⟩)
  obtain ⟨w_COLD_START, ev_COLD_START⟩ := exa_v g6a
  have E_COLD_START := Exa.start ev_COLD_START g6a
  have S_COLD_START := Sta.start ev_COLD_START (Or.inr ⟨(hw _ (List.mem_of_getElem? (i := 2) rfl)), (hw _ (List.mem_of_getElem? (i := 13) rfl))⟩)
  obtain ⟨w_REJECTED_OVER_QUOTA, ev_REJECTED_OVER_QUOTA⟩ := exa_v g8a
  have E_REJECTED_OVER_QUOTA := Exa.start ev_REJECTED_OVER_QUOTA g8a
  have S_REJECTED_OVER_QUOTA := Sta.start ev_REJECTED_OVER_QUOTA (Or.inr ⟨(hw _ (List.mem_of_getElem? (i := 2) rfl)), (hw _ (List.mem_of_getElem? (i := 15) rfl))⟩)
  obtain ⟨w_EXPIRED, ev_EXPIRED⟩ := exa_v g10a
  have E_EXPIRED := Exa.start ev_EXPIRED g10a
  have S_EXPIRED := Sta.start ev_EXPIRED (Or.inr ⟨(hw _ (List.mem_of_getElem? (i := 2) rfl)), (hw _ (List.mem_of_getElem? (i := 18) rfl))⟩)
  obtain ⟨w_REJECTED_QUEUE_FULL, ev_REJECTED_QUEUE_FULL⟩ := exa_v g12a
  have E_REJECTED_QUEUE_FULL := Exa.start ev_REJECTED_QUEUE_FULL g12a
  have S_REJECTED_QUEUE_FULL := Sta.start ev_REJECTED_QUEUE_FULL (Or.inr ⟨(hw _ (List.mem_of_getElem? (i := 2) rfl)), (hw _ (List.mem_of_getElem? (i := 20) rfl))⟩)
  have F_REJECTED_SCALE_OUT := Fld.start ((fld_at ev_REJECTED_SCALE_OUT).symm.trans (own_eqint g4a))
  have F_WARM_START := Fld.start ((fld_at ev_WARM_START).symm.trans (own_eqint g5a))
  have F_COLD_START := Fld.start ((fld_at ev_COLD_START).symm.trans (own_eqint g7a))
  have F_REJECTED_OVER_QUOTA := Fld.start ((fld_at ev_REJECTED_OVER_QUOTA).symm.trans (own_eqint g9a))
  have F_EXPIRED := Fld.start ((fld_at ev_EXPIRED).symm.trans (own_eqint g11a))
  have F_REJECTED_QUEUE_FULL := Fld.start ((fld_at ev_REJECTED_QUEUE_FULL).symm.trans (own_eqint g12b))
  obtain ⟨n, o, h1, h2, h3, _, L, rfl, ⟨rfl, N⟩, hq⟩ := rm0 l s _ hw tables_1 i0 w_WARM_START w_COLD_START w_REJECTED_OVER_QUOTA w_REJECTED_SCALE_OUT w_REJECTED_QUEUE_FULL w_EXPIRED s.heap s.heap.size (Old.start s) S_WARM_START S_COLD_START S_REJECTED_OVER_QUOTA S_REJECTED_SCALE_OUT S_REJECTED_QUEUE_FULL S_EXPIRED E_WARM_START E_COLD_START E_REJECTED_OVER_QUOTA E_REJECTED_SCALE_OUT E_REJECTED_QUEUE_FULL E_EXPIRED F_WARM_START F_COLD_START F_REJECTED_OVER_QUOTA F_REJECTED_SCALE_OUT F_REJECTED_QUEUE_FULL F_EXPIRED p e ha hc hk s m _ below hf ((Spec.applies_iff_loose hf).mp happ).1 ⟨rfl, State.Warmed39.refl s, rfl⟩ trivial
  refine ⟨n, _, h1, h2, h3, hpost _ _ _ _ _ _ ⟨Cond.after_iff.mpr rfl, Cond.after_iff.mpr (eq_i res_at (Term.int_eval (1)) rfl), trivial⟩ ⟨hq.1, hq.2.1, (hq.2.2.sift fun y hy => Or.inr (N y hy)).mono (by decide) (by decide)⟩⟩
theorem main_1_1 : Claimed_1_1 := comes_1 fun _ _ _ _ _ _ h hF => ⟨h.1, hF⟩
theorem main_1_2 : Claimed_1_2 := comes_1 fun _ _ _ _ _ _ h hF => ⟨h.2.1, hF⟩
end Jvm.Pilot.@@N@@
namespace Jvm.Pilot.@@N@@
open Jvm Jvm.ClassFile Sem Op Lib Jvm.Free Jvm.Stand Jvm.Pilot.@@N@@.Jvm.D
/-! MADE BY PROGRAM (witnessworld.py) out of the Statement's table words and the real class files: 12 classes; the members and pool entries that the words name. The judged class is class 1, her method 1. -/
namespace start1
open Jvm.ClassFile
def u (s : String) : CpInfo := .utf8 (stringToUtf16 s)
/-- a pool by its gaps: so many unusable entries, then the entry; so many at the end -/
def gap : Nat → List CpInfo → List CpInfo
  | 0, r => r
  | n + 1, r => .unusable :: gap n r
def poolList (es : List (Nat × CpInfo)) (last : Nat) : List CpInfo := es.foldr (fun e r => gap e.1 (e.2 :: r)) (gap last [])
def pool (es : List (Nat × CpInfo)) (last : Nat) : Array CpInfo := ⟨poolList es last⟩
def fileOf (pool : Array CpInfo) (this : Nat) (attrs : Array Attribute := #[]) (ms : Array MethodInfo := #[]) (fl : Nat := 33) (sup : Nat := 0) (ifs : Array Nat := #[]) (fds : Array FieldInfo := #[]) : ClassFile where
  minorVersion := 0
  majorVersion := 65
  constantPool := pool
  accessFlags := fl
  thisClass := this
  superClass := sup
  interfaces := ifs
  fields := fds
  methods := ms
  attributes := attrs
def plain (name : String) (sup : Option ClassId) : Class where
  name := name
  kind := .ordinary
  loader := none
  accessFlags := 33
  super := sup
  interfaces := #[]
  cf := none
  fields := #[]
  methods := #[]
  instanceTypes := #[]
  staticTypes := #[]
  resolved := #[]
  callSites := []
  init := .initialized
  statics := none
  mirror := none

def pool0 : Array CpInfo := pool [(5, u "<init>"), (0, u "()V"), (1, .class_ 10), (1, u "java/lang/Object")] 113

def k0m0 : Method := { name := "<init>", desc := "()V", sig := { parameters := [], returnType := none }, accessFlags := 1, code := none }
/-- java/lang/Object -/
def k0 : Class := { plain "java/lang/Object" none with
  accessFlags := 33
  interfaces := #[]
  cf := some (fileOf pool0 8 #[] #[{ accessFlags := 1, nameIndex := 5, descriptorIndex := 6, attributes := #[] }] 33 0 #[] #[])
  fields := #[]
  methods := #[k0m0]
  instanceTypes := #[]
  staticTypes := #[]
  resolved := Array.replicate 124 none
  statics := none }

def pool1 : Array CpInfo := pool [(2, .class_ 4), (1, u "java/lang/Object"), (0, u "<init>"), (0, u "()V"), (0, .integer 2147483647), (0, .fieldref 9 10), (0, .class_ 11), (0, .nameAndType 12 13), (0, u "com/example/concurrency_quota/concurrencyquota/Decision"), (0, u "WARM_START"), (0, u "Lcom/example/concurrency_quota/concurrencyquota/Decision;"), (0, .fieldref 9 15), (0, .nameAndType 16 13), (0, u "COLD_START"), (0, .fieldref 9 18), (0, .nameAndType 19 13), (0, u "REJECTED_OVER_QUOTA"), (0, .fieldref 9 21), (0, .nameAndType 22 13), (0, u "REJECTED_SCALE_OUT"), (0, .fieldref 9 24), (0, .nameAndType 25 13), (0, u "REJECTED_QUEUE_FULL"), (0, .fieldref 9 27), (0, .nameAndType 28 13), (0, u "EXPIRED"), (0, .methodref 9 30), (0, .nameAndType 31 32), (0, u "admitted"), (0, u "()Z"), (0, .class_ 34), (0, u "com/example/concurrency_quota/concurrencyquota/DecisionAdmittedPinLaw"), (2, u "law"), (0, u "(I)Z")] 3

def k1m0 : Method := { name := "<init>", desc := "()V", sig := { parameters := [], returnType := none }, accessFlags := 1, code := none }
def k1c1 : Code := { maxStack := 2, maxLocals := 4, code := code, exceptionTable := #[], attributes := #[] }
def k1m1 : Method := { name := "law", desc := "(I)Z", sig := { parameters := [.int], returnType := some .boolean }, accessFlags := 9, code := some k1c1 }
/-- com/example/concurrency_quota/concurrencyquota/DecisionAdmittedPinLaw -/
def k1 : Class := { plain "com/example/concurrency_quota/concurrencyquota/DecisionAdmittedPinLaw" (some 0) with
  accessFlags := 49
  interfaces := #[]
  cf := some (fileOf pool1 33 #[] #[{ accessFlags := 1, nameIndex := 5, descriptorIndex := 6, attributes := #[] }, { accessFlags := 9, nameIndex := 37, descriptorIndex := 38, attributes := #[] }] 49 2 #[] #[])
  fields := #[]
  methods := #[k1m0, k1m1]
  instanceTypes := #[]
  staticTypes := #[]
  resolved := Array.replicate 42 none
  statics := none }

def pool2 : Array CpInfo := pool [(1, .class_ 2), (0, u "java/lang/constant/Constable"), (0, .class_ 4), (0, u "java/lang/Object")] 6

/-- java/lang/constant/Constable -/
def k2 : Class := { plain "java/lang/constant/Constable" (some 0) with
  accessFlags := 1537
  interfaces := #[]
  cf := some (fileOf pool2 1 #[] #[] 1537 3 #[] #[])
  fields := #[]
  methods := #[]
  instanceTypes := #[]
  staticTypes := #[]
  resolved := Array.replicate 11 none
  statics := none }

def pool3 : Array CpInfo := pool [(1, .class_ 2), (0, u "java/lang/Comparable"), (0, .class_ 4), (0, u "java/lang/Object")] 7

/-- java/lang/Comparable -/
def k3 : Class := { plain "java/lang/Comparable" (some 0) with
  accessFlags := 1537
  interfaces := #[]
  cf := some (fileOf pool3 1 #[] #[] 1537 3 #[] #[])
  fields := #[]
  methods := #[]
  instanceTypes := #[]
  staticTypes := #[]
  resolved := Array.replicate 12 none
  statics := none }

def pool4 : Array CpInfo := pool [(1, .class_ 2), (0, u "java/io/Serializable"), (0, .class_ 4), (0, u "java/lang/Object")] 2

/-- java/io/Serializable -/
def k4 : Class := { plain "java/io/Serializable" (some 0) with
  accessFlags := 1537
  interfaces := #[]
  cf := some (fileOf pool4 1 #[] #[] 1537 3 #[] #[])
  fields := #[]
  methods := #[]
  instanceTypes := #[]
  staticTypes := #[]
  resolved := Array.replicate 7 none
  statics := none }

def pool5 : Array CpInfo := pool [(2, .class_ 4), (1, u "java/lang/Enum"), (0, u "name"), (0, u "Ljava/lang/String;"), (2, u "ordinal"), (0, u "I"), (1, .class_ 14), (1, u "java/lang/Object"), (4, u "hash"), (86, .class_ 108), (1, u "java/lang/Enum$EnumDesc"), (2, .class_ 112), (0, u "java/lang/constant/Constable"), (0, .class_ 114), (0, u "java/lang/Comparable"), (0, .class_ 116), (0, u "java/io/Serializable")] 87

/-- java/lang/Enum -/
def k5 : Class := { plain "java/lang/Enum" (some 0) with
  accessFlags := 1057
  interfaces := #[2, 3, 4]
  cf := some (fileOf pool5 2 #[.nestMembers #[106]] #[] 1057 12 #[111, 113, 115] #[{ accessFlags := 18, nameIndex := 5, descriptorIndex := 6, attributes := #[] }, { accessFlags := 18, nameIndex := 9, descriptorIndex := 10, attributes := #[] }, { accessFlags := 2, nameIndex := 19, descriptorIndex := 10, attributes := #[] }])
  fields := #[{ name := "name", type := (.object "java/lang/String"), accessFlags := 18, slot := 0, constantValue := 0 }, { name := "ordinal", type := .int, accessFlags := 18, slot := 1, constantValue := 0 }, { name := "hash", type := .int, accessFlags := 2, slot := 2, constantValue := 0 }]
  methods := #[]
  instanceTypes := #[(.object "java/lang/String"), .int, .int]
  staticTypes := #[]
  resolved := Array.replicate 204 none
  statics := none }

def pool6 : Array CpInfo := pool [(1, .class_ 2), (0, u "com/example/concurrency_quota/concurrencyquota/Decision"), (0, .fieldref 1 4), (0, .nameAndType 5 6), (0, u "WARM_START"), (0, u "Lcom/example/concurrency_quota/concurrencyquota/Decision;"), (0, .fieldref 1 8), (0, .nameAndType 9 6), (0, u "COLD_START"), (2, u "REJECTED_OVER_QUOTA"), (2, u "REJECTED_SCALE_OUT"), (2, u "REJECTED_QUEUE_FULL"), (2, u "EXPIRED"), (2, u "$VALUES"), (0, u "[Lcom/example/concurrency_quota/concurrencyquota/Decision;"), (6, .class_ 34), (1, u "java/lang/Enum"), (11, u "errorCode"), (0, u "I"), (2, u "errorName"), (0, u "Ljava/lang/String;"), (2, u "admitted"), (0, u "()Z")] 51

def k6c0 : Code := { maxStack := 2, maxLocals := 1, code := prog_6_method_5_code, exceptionTable := #[], attributes := #[] }
def k6m0 : Method := { name := "admitted", desc := "()Z", sig := { parameters := [], returnType := some .boolean }, accessFlags := 1, code := some k6c0 }
/-- com/example/concurrency_quota/concurrencyquota/Decision -/
def k6 : Class := { plain "com/example/concurrency_quota/concurrencyquota/Decision" (some 5) with
  accessFlags := 16433
  interfaces := #[]
  cf := some (fileOf pool6 1 #[] #[{ accessFlags := 1, nameIndex := 54, descriptorIndex := 55, attributes := #[] }] 16433 32 #[] #[{ accessFlags := 16409, nameIndex := 5, descriptorIndex := 6, attributes := #[] }, { accessFlags := 16409, nameIndex := 9, descriptorIndex := 6, attributes := #[] }, { accessFlags := 16409, nameIndex := 12, descriptorIndex := 6, attributes := #[] }, { accessFlags := 16409, nameIndex := 15, descriptorIndex := 6, attributes := #[] }, { accessFlags := 16409, nameIndex := 18, descriptorIndex := 6, attributes := #[] }, { accessFlags := 16409, nameIndex := 21, descriptorIndex := 6, attributes := #[] }, { accessFlags := 18, nameIndex := 46, descriptorIndex := 47, attributes := #[] }, { accessFlags := 18, nameIndex := 50, descriptorIndex := 51, attributes := #[] }, { accessFlags := 4122, nameIndex := 24, descriptorIndex := 25, attributes := #[] }])
  fields := #[{ name := "WARM_START", type := (.object "com/example/concurrency_quota/concurrencyquota/Decision"), accessFlags := 16409, slot := 0, constantValue := 0 }, { name := "COLD_START", type := (.object "com/example/concurrency_quota/concurrencyquota/Decision"), accessFlags := 16409, slot := 1, constantValue := 0 }, { name := "REJECTED_OVER_QUOTA", type := (.object "com/example/concurrency_quota/concurrencyquota/Decision"), accessFlags := 16409, slot := 2, constantValue := 0 }, { name := "REJECTED_SCALE_OUT", type := (.object "com/example/concurrency_quota/concurrencyquota/Decision"), accessFlags := 16409, slot := 3, constantValue := 0 }, { name := "REJECTED_QUEUE_FULL", type := (.object "com/example/concurrency_quota/concurrencyquota/Decision"), accessFlags := 16409, slot := 4, constantValue := 0 }, { name := "EXPIRED", type := (.object "com/example/concurrency_quota/concurrencyquota/Decision"), accessFlags := 16409, slot := 5, constantValue := 0 }, { name := "errorCode", type := .int, accessFlags := 18, slot := 3, constantValue := 0 }, { name := "errorName", type := (.object "java/lang/String"), accessFlags := 18, slot := 4, constantValue := 0 }, { name := "$VALUES", type := (.array (.object "com/example/concurrency_quota/concurrencyquota/Decision")), accessFlags := 4122, slot := 6, constantValue := 0 }]
  methods := #[k6m0]
  instanceTypes := #[(.object "java/lang/String"), .int, .int, .int, (.object "java/lang/String")]
  staticTypes := #[(.object "com/example/concurrency_quota/concurrencyquota/Decision"), (.object "com/example/concurrency_quota/concurrencyquota/Decision"), (.object "com/example/concurrency_quota/concurrencyquota/Decision"), (.object "com/example/concurrency_quota/concurrencyquota/Decision"), (.object "com/example/concurrency_quota/concurrencyquota/Decision"), (.object "com/example/concurrency_quota/concurrencyquota/Decision"), (.array (.object "com/example/concurrency_quota/concurrencyquota/Decision"))]
  resolved := Array.replicate 107 none
  statics := some 0 }

def pool7 : Array CpInfo := pool [(1, u "java/lang/Cloneable"), (0, .class_ 1), (0, u "java/lang/Object"), (0, .class_ 3)] 3

/-- java/lang/Cloneable -/
def k7 : Class := { plain "java/lang/Cloneable" (some 0) with
  accessFlags := 1537
  interfaces := #[]
  cf := some (fileOf pool7 2 #[] #[] 1537 4 #[] #[])
  fields := #[]
  methods := #[]
  instanceTypes := #[]
  staticTypes := #[]
  resolved := Array.replicate 8 none
  statics := none }

/-- the primitive byte -/
def k8 : Class := { plain "byte" none with kind := .primitive 'B', accessFlags := 0x411 }
/-- [B -/
def k9 : Class := { plain "[B" (some 0) with kind := .array 8 .byte, interfaces := #[7, 4], accessFlags := 1041 }

/-- the primitive int -/
def k10 : Class := { plain "int" none with kind := .primitive 'I', accessFlags := 0x411 }
/-- [I -/
def k11 : Class := { plain "[I" (some 0) with kind := .array 10 .int, interfaces := #[7, 4], accessFlags := 1041 }

def heap : Heap := #[{ cls := 6, slots := #[.ref 1, .ref 2, .ref 3, .ref 4, .ref 5, .ref 6, .null], vm := .statics 6 },
  { cls := 6, slots := #[.null, .int 0, .int 0, .int 0, .null], vm := .none },
  { cls := 6, slots := #[.null, .int 1, .int 0, .int 0, .null], vm := .none },
  { cls := 6, slots := #[.null, .int 2, .int 0, .int 0, .null], vm := .none },
  { cls := 6, slots := #[.null, .int 3, .int 0, .int 0, .null], vm := .none },
  { cls := 6, slots := #[.null, .int 4, .int 0, .int 0, .null], vm := .none },
  { cls := 6, slots := #[.null, .int 5, .int 0, .int 0, .null], vm := .none }]
def classes : Array Class := #[k0, k1, k2, k3, k4, k5, k6, k7, k8, k9, k10, k11]
def interned : List (Array UInt16 × Addr) := []
def slotsUsed : Nat := 37
def theMethod : MethodId := ⟨1, 1⟩
def args0 : Array Value := #[.int 5]
def aboutOver (below : List Frame) : State where
  vm := { classes := classes, interned := interned.toArray }
  heap := heap
  slotsUsed := slotsUsed
  threads := #[{ frames := .invoking theMethod args0 :: below }]
def below0 : List Frame := [.native { method := ⟨0, 0⟩, args := #[] }]
def about1 : State := aboutOver below0
def p0 : Program := .bare "" "" ""
def e0 : Env := launch0.env 0 0 0
theorem w_frames : about1.frames = Frame.invoking theMethod args0 :: below0 := rfl
set_option maxRecDepth 65536 in
theorem w_args : argsFit about1.vm theMethod args0 = true := by decide +kernel
set_option maxRecDepth 65536 in
theorem w_heap : heapFits about1 = true := by decide +kernel
set_option maxRecDepth 65536 in
theorem w_runnable : about1.curStatus? = some .runnable := by decide +kernel
set_option maxRecDepth 65536 in
theorem w_alone : about1.alone = true := by decide +kernel
set_option maxRecDepth 65536 in
theorem w_named : about1.methodNamed? x = some theMethod := by decide +kernel
set_option maxRecDepth 65536 in
theorem w_hears : about1.hears theMethod below0 = true := by decide +kernel
set_option maxRecDepth 65536 in
theorem w_ripe : about1.ripe theMethod args0 below0 = true := by decide +kernel
theorem w_running : about1.status = .running := rfl
set_option maxRecDepth 65536 in
theorem w_room : about1.hasRoom e0.platform room_1 = true :=
  launch0.hasRoom_least _ room_1 (by decide +kernel) (by decide +kernel) (by decide +kernel) (by decide +kernel) (by decide +kernel) (by decide +kernel)
theorem allAtoms_all (ts : List Jvm.Cond) (a : Array Jvm.Value) (st : Jvm.State) : (allAtoms ts).before a st = ts.all (fun c => c.before a st) := by
  induction ts with
  | nil => rfl
  | cons c t ih =>
    show (Jvm.Cond.and c (allAtoms t)).before a st = _
    rw [Jvm.Cond.before_and, ih, List.all_cons]
def words1 : List Jvm.Cond := Jvm.Cond.code x code maxLocals ret :: tables_1
/-- a 'code' word, met by the world's own term for the bytes: nothing is compared byte by byte -/
theorem code_word {y : MethodName} {bytes : ByteArray} {mx : Nat} {rt : Option FieldType} {a : Array Value} {s : State} {m : MethodId} {meth : Method} {c : Code} (h1 : s.methodNamed? y = some m) (h2 : s.vm.method? m = some meth) (h3 : meth.code = some c) (h4 : c.code = bytes)
    (h5 : (c.maxLocals == mx && c.exceptionTable.isEmpty && decide (c.maxStack ≤ mostOperands) && decide (meth.sig.returnType = rt) && !meth.locks && decide (parseMethodDescriptor y.desc = some meth.sig)) = true) : (Jvm.Cond.code y bytes mx rt).before a s = true := by
  simp only [Bool.and_eq_true, beq_iff_eq, Bool.not_eq_true', decide_eq_true_eq] at h5
  obtain ⟨⟨⟨⟨⟨g1, g2⟩, g3⟩, g4⟩, g5⟩, g6⟩ := h5
  simp [Cond.before, Cond.holds, Cond.value, h1, h2, h3, h4, g1, g2, g3, g4, g5, g6]
def isCode : Jvm.Cond → Bool
  | .code _ _ _ _ => true
  | _ => false
theorem all_split {L : List Jvm.Cond} {P : Jvm.Cond → Bool} (h1 : L.all (fun c => isCode c || P c) = true) (h2 : ∀ c ∈ L.filter isCode, P c = true) : L.all P = true := by
  refine List.all_eq_true.mpr fun c hc => ?_
  have h := List.all_eq_true.mp h1 c hc
  rcases Bool.eq_false_or_eq_true (isCode c) with hi | hi
  · exact h2 c (List.mem_filter.mpr ⟨hc, hi⟩)
  · simpa [hi] using h
set_option maxRecDepth 65536 in
theorem w_c0 : (Jvm.Cond.code x code maxLocals ret).before args0 about1 = true := code_word (m := ⟨1, 1⟩) (meth := k1m1) (c := k1c1) (by decide +kernel) rfl rfl rfl (by decide +kernel)
set_option maxRecDepth 65536 in
theorem w_c1 : (Jvm.Cond.code ({ cls := "com/example/concurrency_quota/concurrencyquota/Decision", name := "admitted", desc := "()Z" } : Jvm.MethodName) prog_6_method_5_code (1 : Nat) (Option.some Jvm.ClassFile.FieldType.boolean)).before args0 about1 = true := code_word (m := ⟨6, 0⟩) (meth := k6m0) (c := k6c0) (by decide +kernel) rfl rfl rfl (by decide +kernel)
def codes1 : List Jvm.Cond := [Jvm.Cond.code x code maxLocals ret, Jvm.Cond.code ({ cls := "com/example/concurrency_quota/concurrencyquota/Decision", name := "admitted", desc := "()Z" } : Jvm.MethodName) prog_6_method_5_code (1 : Nat) (Option.some Jvm.ClassFile.FieldType.boolean)]
set_option maxRecDepth 65536 in
theorem codes_eq : words1.filter isCode = codes1 := rfl
theorem w_codes : ∀ c ∈ words1.filter isCode, c.before args0 about1 = true := by
  rw [codes_eq]
  intro c hc
  simp only [codes1, List.mem_cons, List.not_mem_nil, or_false] at hc
  rcases hc with rfl | rfl
  · exact w_c0
  · exact w_c1
set_option maxRecDepth 65536 in
theorem w_t1 : words1.all (fun c => isCode c || c.before args0 about1) = true := by decide +kernel
theorem w_tables : (allAtoms (Jvm.Cond.code x code maxLocals ret :: tables_1)).before args0 about1 = true := by
  rw [allAtoms_all]
  show words1.all (fun c => c.before args0 about1) = true
  refine all_split ?_ w_codes
  rw [w_t1]
set_option maxRecDepth 65536 in
theorem w_case : (Jvm.Cond.and given_1 narrow_1).before args0 about1 = true := by decide +kernel
theorem w_applies : (headSpec (Jvm.Cond.code x code maxLocals ret :: tables_1) room_1).applies x e0.platform about1 = true :=
  (Spec.applies_iff w_frames).mpr ⟨w_running, w_runnable, w_alone, w_named, w_hears, w_ripe, w_room, w_tables⟩
theorem atStart : AtStart classFile x code maxLocals ret World_1 tables_1 room_1 Calls_1 rest_1 Pre_1 launch0 p0 e0 about1 theMethod args0 below0 :=
  ⟨lists_1, trivial, launch0.admits_env _ _ _, launch0.least_env, fairChoices_fair.cas, fairChoices_fair.clock, w_frames, w_args, w_heap, w_applies, trivial, trivial, w_case⟩
end start1
theorem witness_1 : WitnessClaimed_1 := ⟨start1.p0, start1.e0, start1.about1, start1.theMethod, start1.args0, start1.below0, start1.atStart⟩
end Jvm.Pilot.@@N@@
