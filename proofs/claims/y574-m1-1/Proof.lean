import JvmDerived
import JvmDerived.Pilot.@@N@@Statement
import JvmDerived.Pilot.@@N@@Code
set_option linter.unusedVariables false
set_option linter.unusedSimpArgs false
namespace Jvm.RoadKit
open Sem ClassFile Op Lib Jvm.Stand Jvm.Free Jvm.LawKit
section New
variable {p : Program} {l : Launch} {e : Env} {R : Room} {s : State} {m : MethodId} {args : Array Value} {below : List Frame} {meth : Method} {c : Code} {T : State} {locs : List Loc} {cells slots : Nat}
theorem retI (X : Stand p l e R s m args below meth c T locs cells slots) (hx : p.tables.exec = Jvm.exec) {pc : Nat} {Ls : Array Slot} {z : Int32} {rest : List Value} (hret : meth.sig.returnType = some .int) (hd : decode c.code pc = .ok (.ireturn, 1)) {fs : List Frame}
    (hl : ∀ (f : JFrame) (acts : List Action), f.method = m → f.locked = none → f.entered = [] → (doReturn e (T.setTop f) acts (some (.int z))).1 = T.setFrames fs) : Steps p.tables e below (T.setTop (mkF m pc Ls (.int z :: rest))) (T.setFrames fs) := by
  have hm' : T.vm.method? m = some meth := X.method'
  have hn : narrow .int (.int z) = .int z := rfl
  show Steps p.tables e below (T.setTop { method := m, pc := pc, locals := Ls, stack := _ :: rest, locked := none }) _
  jvm_step X.here [X.here.top, hx, hd, hm', hret, hn]
  first | (intro acts; rw [hl _ acts rfl rfl rfl]) | rw [hl _ _ rfl rfl rfl]
  exact Steps.refl _
def Gl (p : Program) (e : Env) (below : List Frame) (s : State) (kc ks : Nat) (Q : Option Value → Heap → List Loc → Prop) (T : State) (g : JFrame) : Prop :=
  ∃ U o, Steps p.tables e below (T.setTop g) U ∧ U.status = .running ∧ Ended U below o ∧ ∃ v L, o = .returned v ∧ Q v U.heap L ∧ FrameEnd s o U L kc ks
theorem Gl.st {kc ks : Nat} {Q : Option Value → Heap → List Loc → Prop} {T' : State} {g g' : JFrame} (h : ∀ t, Steps p.tables e below (T'.setTop g') t → Steps p.tables e below (T.setTop g) t) (k : Gl p e below s kc ks Q T' g') : Gl p e below s kc ks Q T g := by
  obtain ⟨U, o, h1, r⟩ := k
  exact ⟨U, o, h _ h1, r⟩
theorem Gl.wider {cells' slots' : Nat} (X : Stand p l e R s m args below meth c T locs cells slots) (h1 : cells ≤ cells') (h2 : slots ≤ slots') : Stand p l e R s m args below meth c T locs cells' slots' :=
  ⟨X.admits, X.cas, X.clock, X.frames, X.room, X.hears, X.method, X.code, X.here, X.tail, X.warmed, X.limits, X.bytes, X.same.mono h1 h2⟩
theorem Gl.start {kc ks : Nat} {Q : Option Value → Heap → List Loc → Prop} {g g' : JFrame} (q : g = g') (k : Gl p e below s kc ks Q T g') :
    ∃ U o, Steps p.tables e below (T.setTop g) U ∧ U.status = .running ∧ Ended U below o ∧ ∃ v L, o = .returned v ∧ Q v U.heap L ∧ FrameEnd s o U L kc ks := q ▸ k
theorem Gl.ret {kc ks : Nat} {Q : Option Value → Heap → List Loc → Prop} {g : JFrame} {h : Heap} (X : Stand p l e R s m args below meth c T locs cells slots) {v : Option Value} (hv : meth.sig.returnType = none → v = none) (hlk : meth.locks = false)
    (st : ∀ {fs : List Frame}, (∀ (f : JFrame) (acts : List Action), f.method = m → f.locked = none → f.entered = [] → (doReturn e (T.setTop f) acts v).1 = T.setFrames fs) → Steps p.tables e below (T.setTop g) (T.setFrames fs))
    (eT : T.heap = h) (hQ : Q v h locs) (hc : cells ≤ kc) (hs : slots ≤ ks) : Gl p e below s kc ks Q T g := by
  obtain ⟨fs, hr, hrun, hended, hW, hsame⟩ := X.leave hv hlk
  refine ⟨_, _, st hr, hrun, hended, _, _, rfl, ?_, ⟨_, rfl⟩, hW, hsame.mono hc hs⟩
  show Q v T.heap locs
  rw [eT]; exact hQ
def GlW (Z : State) (EL : List (String × Nat)) (p : Program) (e : Env) (below : List Frame) (s : State) (kc ks : Nat) (Q : Option Value → Heap → List Loc → Prop) (T : State) (g : JFrame) : Prop :=
  ∃ U o, Steps p.tables e below (T.setTop g) U ∧ U.status = .running ∧ Ended U below o ∧ ∃ v L, o = .returned v ∧ Q v U.heap L ∧ CHr Z EL s.vm s.heap U.vm U.heap ∧ ReturnedEndW s o U L kc ks
section Wide
variable {Z : State} {EL : List (String × Nat)} {a0 : Array Value}
theorem GlW.st {kc ks : Nat} {Q : Option Value → Heap → List Loc → Prop} {T' : State} {g g' : JFrame} (h : ∀ t, Steps p.tables e below (T'.setTop g') t → Steps p.tables e below (T.setTop g) t) (k : GlW Z EL p e below s kc ks Q T' g') : GlW Z EL p e below s kc ks Q T g := by
  obtain ⟨U, o, h1, r⟩ := k
  exact ⟨U, o, h _ h1, r⟩
theorem GlW.start {kc ks : Nat} {Q : Option Value → Heap → List Loc → Prop} {g g' : JFrame} (q : g = g') (k : GlW Z EL p e below s kc ks Q T g') :
    ∃ U o, Steps p.tables e below (T.setTop g) U ∧ U.status = .running ∧ Ended U below o ∧ ∃ v L, o = .returned v ∧ Q v U.heap L ∧ CHr Z EL s.vm s.heap U.vm U.heap ∧ ReturnedEndW s o U L kc ks := q ▸ k
theorem GlW.ret {kc ks n : Nat} {Q : Option Value → Heap → List Loc → Prop} {g : JFrame} {h hs : Heap} {vm0 : Vm} (X : Stand p l e R (s.setVm vm0) m args below meth c T locs cells slots) (hS : s.Since vm0 n) (hn : n ≤ h.size) (hZ : Z.Warmed39 vm0) (w : EW Z a0 EL) (hh : s.heap = hs) (HC : CHr Z EL s.vm hs vm0 h) {v : Option Value} (hv : meth.sig.returnType = none → v = none) (hlk : meth.locks = false)
    (st : ∀ {fs : List Frame}, (∀ (f : JFrame) (acts : List Action), f.method = m → f.locked = none → f.entered = [] → (doReturn e (T.setTop f) acts v).1 = T.setFrames fs) → Steps p.tables e below (T.setTop g) (T.setFrames fs))
    (eT : T.heap = h) (hQ : Q v h locs) (hc : cells ≤ kc) (hs' : slots ≤ ks) : GlW Z EL p e below s kc ks Q T g := by
  subst eT hh
  obtain ⟨fs, hr, hrun, hended, hW⟩ := X.leaveW hS hn hv hlk
  have hcc := HC.trans (CHv.at X hZ w HC.1)
  exact ⟨_, _, st hr, hrun, hended, _, _, rfl, hQ, hcc, hW.1, hW.2.1, hW.2.2.1, hW.2.2.2.mono hc hs'⟩
end Wide
end New
end Jvm.RoadKit
namespace Jvm.Pilot.@@N@@
open Jvm Jvm.ClassFile Sem Op Lib Jvm.Free Jvm.Stand Jvm.LawKit Jvm.RoadKit Bundle Jvm.Pilot.@@N@@.Jvm.D
theorem own_eqint {args : Array Value} {first s : State} {o : Option Outcome} {idx : List Nat} {t : Term} {k : Int32} (h : (Jvm.Cond.eq t (.int k)).value args first o s idx = some true) : t.eval args first o idx s = some (.int k) := by
  cases ht : t.eval args first o idx s with
  | none => simp [Cond.value, ht] at h
  | some x => cases x <;> simp [Cond.value, ht, Term.eval] at h ⊢; exact h
theorem own_mask3 (x : Int32) : x &&& (3 : Int32) = (0 : Int32) ∨ x &&& (3 : Int32) = (1 : Int32) ∨ x &&& (3 : Int32) = (2 : Int32) ∨ x &&& (3 : Int32) = (3 : Int32) := by
  have h2 := c_mask x (3 : Int32) 2 (by decide) (by decide)
  have h3 : (x &&& (3 : Int32)).toInt = 0 ∨ (x &&& (3 : Int32)).toInt = 1 ∨ (x &&& (3 : Int32)).toInt = 2 ∨ (x &&& (3 : Int32)).toInt = 3 := by omega
  rcases h3 with h | h | h | h
  · exact Or.inl (Int32.toInt_inj.mp (h.trans (by decide)))
  · exact Or.inr (Or.inl (Int32.toInt_inj.mp (h.trans (by decide))))
  · exact Or.inr (Or.inr (Or.inl (Int32.toInt_inj.mp (h.trans (by decide)))))
  · exact Or.inr (Or.inr (Or.inr ((Int32.toInt_inj.mp (h.trans (by decide))))))
theorem own_nar8 (x : Int32) : nar .byte x.toInt8.toInt32 = x.toInt8.toInt32 := by
  show x.toInt8.toInt32.toInt8.toInt32 = x.toInt8.toInt32
  rw [Int8.toInt8_toInt32]
theorem d2_0 : decode jdk_31_method_11_code 0 = .ok (.aload_n 0, 1) := by decide +kernel
theorem d2_1 : decode jdk_31_method_11_code 1 = .ok (.ifnonnull 12, 3) := by decide +kernel
theorem d2_13 : decode jdk_31_method_11_code 13 = .ok (.aload_n 0, 1) := by decide +kernel
theorem d2_14 : decode jdk_31_method_11_code 14 = .ok (.areturn, 1) := by decide +kernel
theorem pn_rmRN : plainName "java/util/Objects" = true := by first | (simp [plainName, overriddenIn]; done) | decide +kernel
theorem ef_rmRN (m : MethodId) (a1 : Addr) (a2 : Addr) : entryFrame m #[(.ref a1), (.ref a2)] 2 = mkF m 0 #[.val (.ref a1), .val (.ref a2)] [] := by first | (simp [entryFrame, mkF, argsToLocals, Value.category]; done) | rfl
def Q_rmRN (Z : State) (a1 : Addr) (a2 : Addr)  (h0 : Heap) (n0 : Nat) (v : Option Value) (h : Heap) (L : List Loc) : Prop := v = some (.ref a1) ∧ Fr n0 L ∧ h = h0
set_option maxRecDepth 65536 in
set_option maxHeartbeats 40000000 in
theorem rmRN (l : Launch) (Z : State) (a0 : Array Value) (hw : ∀ d ∈ tables_1, d.before a0 Z = true) (ws : List Jvm.Cond) (a1 : Addr) (a2 : Addr)  (h0 : Heap) (n0 : Nat) (O0 : Old Z n0 h0) :
    MetFree l (⟨"java/util/Objects", "requireNonNull", "(Ljava/lang/Object;Ljava/lang/String;)Ljava/lang/Object;"⟩ : MethodName) (head1 (Jvm.Cond.code (⟨"java/util/Objects", "requireNonNull", "(Ljava/lang/Object;Ljava/lang/String;)Ljava/lang/Object;"⟩ : MethodName) jdk_31_method_11_code 2 (some (.object "java/lang/Object")) :: ws) ({ frames := 0, cells := 0, slots := 0, locals := 0 } : Room)) (fun a U => a = #[(.ref a1), (.ref a2)] ∧ Z.Warmed39 U.vm ∧ U.heap = h0) (fun _ _ _ _ _ => True) (fun _ U o U' => ∃ v L, o = .returned v ∧ Q_rmRN Z a1 a2  h0 n0 v U'.heap L ∧ FrameEnd U o U' L ({ frames := 0, cells := 0, slots := 0, locals := 0 } : Room).cells ({ frames := 0, cells := 0, slots := 0, locals := 0 } : Room).slots) := by
  refine MetFree.of_bodySF (plainFor_of_name pn_rmRN) hisR ?_
  intro p e s m args below meth c s₁ Bd hml0 hP hK
  obtain ⟨rfl, hZ, hh⟩ := hP
  have hx := Bd.exec
  have hby := Bd.bytes
  have hml : c.maxLocals = 2 := hml0
  have hown : s.vm.findClass "java/util/Objects" = some m.cls := findClass_of_methodNamed Bd.named
  have hnm := (name_of_methodNamed Bd.named Bd.method).1
  have X0 : Stand p l e ({ frames := 0, cells := 0, slots := 0, locals := 0 } : Room) s m #[(.ref a1), (.ref a2)] below meth c s₁ [] 0 0 := Stand.of_body Bd
  have e0 : s₁.heap = h0 := by rw [← hh, Bd.state]; rfl
  have N0 := Fr.nil n0
  refine Gl.start (Q := Q_rmRN Z a1 a2  h0 n0) (ef_rmRN m a1 a2) ?_
  show Gl p e below s _ _ _ s₁ (mkF m 0 #[.val (.ref a1), .val (.ref a2)] [])
  refine Gl.st (fun _ kk => XS.aloadN X0.here hx rfl (hb hby d2_0) rfl rfl kk) ?_
  show Gl p e below s _ _ _ s₁ (mkF m 1 #[.val (.ref a1), .val (.ref a2)] [(.ref a1)])
  refine Gl.st (fun _ kk => XS.ifnonnullYes X0.here hx rfl (pc0 := 1) (pc' := 13) rfl (hb hby d2_1) rfl (by decide) (by decide) kk) ?_
  show Gl p e below s _ _ _ s₁ (mkF m 13 #[.val (.ref a1), .val (.ref a2)] [])
  refine Gl.st (fun _ kk => XS.aloadN X0.here hx rfl (hb hby d2_13) rfl rfl kk) ?_
  show Gl p e below s _ _ _ s₁ (mkF m 14 #[.val (.ref a1), .val (.ref a2)] [(.ref a1)])
  exact Gl.ret X0 (v := (some (.ref a1))) (fun h => by rw [Bd.returns] at h; cases h) (BodyLoose.notSynchronized Bd) (fun hr => retOut X0 hx Bd.returns rfl (Or.inr (Or.inr (Or.inr (Or.inr ⟨rfl, rfl, rfl⟩)))) (hb hby d2_14) hr) e0 ⟨rfl, N0, rfl⟩ (by decide) (by decide)
theorem d3_0 : decode jdk_72_method_26_code 0 = .ok (.getstatic 81, 3) := by decide +kernel
theorem d3_3 : decode jdk_72_method_26_code 3 = .ok (.areturn, 1) := by decide +kernel
theorem pn_rmMO : plainName "java/util/Map" = true := by first | (simp [plainName, overriddenIn]; done) | decide +kernel
theorem ef_rmMO (m : MethodId)  : entryFrame m #[] 0 = mkF m 0 #[] [] := by first | (simp [entryFrame, mkF, argsToLocals, Value.category]; done) | rfl
def Q_rmMO (Z : State)  (em : Addr) (h0 : Heap) (n0 : Nat) (v : Option Value) (h : Heap) (L : List Loc) : Prop := v = some (.ref em) ∧ Fr n0 L ∧ h = h0
set_option maxRecDepth 65536 in
set_option maxHeartbeats 40000000 in
theorem rmMO (l : Launch) (Z : State) (a0 : Array Value) (hw : ∀ d ∈ tables_1, d.before a0 Z = true) (ws : List Jvm.Cond)  (em : Addr) (h0 : Heap) (n0 : Nat) (O0 : Old Z n0 h0) (S_EM : Sta Z Z.heap "java/util/ImmutableCollections" "EMPTY_MAP" "Ljava/util/ImmutableCollections$MapN;" (.ref em)) :
    MetFree l (⟨"java/util/Map", "of", "()Ljava/util/Map;"⟩ : MethodName) (head1 (Jvm.Cond.code (⟨"java/util/Map", "of", "()Ljava/util/Map;"⟩ : MethodName) jdk_72_method_26_code 0 (some (.object "java/util/Map")) :: ws) ({ frames := 0, cells := 0, slots := 0, locals := 0 } : Room)) (fun a U => a = #[] ∧ Z.Warmed39 U.vm ∧ U.heap = h0) (fun _ _ _ _ _ => True) (fun _ U o U' => ∃ v L, o = .returned v ∧ Q_rmMO Z  em h0 n0 v U'.heap L ∧ FrameEnd U o U' L ({ frames := 0, cells := 0, slots := 0, locals := 0 } : Room).cells ({ frames := 0, cells := 0, slots := 0, locals := 0 } : Room).slots) := by
  refine MetFree.of_bodySF (plainFor_of_name pn_rmMO) hisR ?_
  intro p e s m args below meth c s₁ Bd hml0 hP hK
  obtain ⟨rfl, hZ, hh⟩ := hP
  have hx := Bd.exec
  have hby := Bd.bytes
  have hml : c.maxLocals = 0 := hml0
  have hown : s.vm.findClass "java/util/Map" = some m.cls := findClass_of_methodNamed Bd.named
  have hnm := (name_of_methodNamed Bd.named Bd.method).1
  have X0 : Stand p l e ({ frames := 0, cells := 0, slots := 0, locals := 0 } : Room) s m #[] below meth c s₁ [] 0 0 := Stand.of_body Bd
  have e0 : s₁.heap = h0 := by rw [← hh, Bd.state]; rfl
  have N0 := Fr.nil n0
  refine Gl.start (Q := Q_rmMO Z  em h0 n0) (ef_rmMO m ) ?_
  show Gl p e below s _ _ _ s₁ (mkF m 0 #[] [])
  obtain ⟨T1, X1, e1, st1⟩ := getS2 X0 hx hZ hown (host := "") (Or.inl (hw _ (List.mem_of_getElem? (i := 31) rfl))) Via.refl e0 (S_EM.ext O0.2) (g := (mkF m 0 #[] [])) rfl (hb hby d3_0)
  refine Gl.st st1 ?_
  show Gl p e below s _ _ _ T1 (mkF m 3 #[] [(.ref em)])
  exact Gl.ret X1 (v := (some (.ref em))) (fun h => by rw [Bd.returns] at h; cases h) (BodyLoose.notSynchronized Bd) (fun hr => retOut X1 hx Bd.returns rfl (Or.inr (Or.inr (Or.inr (Or.inr ⟨rfl, rfl, rfl⟩)))) (hb hby d3_3) hr) e1 ⟨rfl, N0, rfl⟩ (by decide) (by decide)
theorem d4_0 : decode prog_13_method_1_code 0 = .ok (.aload_n 0, 1) := by decide +kernel
theorem d4_1 : decode prog_13_method_1_code 1 = .ok (.invokespecial 1, 3) := by decide +kernel
theorem d4_4 : decode prog_13_method_1_code 4 = .ok (.aload_n 0, 1) := by decide +kernel
theorem d4_5 : decode prog_13_method_1_code 5 = .ok (.aload_n 1, 1) := by decide +kernel
theorem d4_6 : decode prog_13_method_1_code 6 = .ok (.putfield 7, 3) := by decide +kernel
theorem d4_9 : decode prog_13_method_1_code 9 = .ok (.aload_n 0, 1) := by decide +kernel
theorem d4_10 : decode prog_13_method_1_code 10 = .ok (.aload_n 2, 1) := by decide +kernel
theorem d4_11 : decode prog_13_method_1_code 11 = .ok (.putfield 13, 3) := by decide +kernel
theorem d4_14 : decode prog_13_method_1_code 14 = .ok (.aload_n 0, 1) := by decide +kernel
theorem d4_15 : decode prog_13_method_1_code 15 = .ok (.aload_n 3, 1) := by decide +kernel
theorem d4_16 : decode prog_13_method_1_code 16 = .ok (.putfield 17, 3) := by decide +kernel
theorem d4_19 : decode prog_13_method_1_code 19 = .ok (.aload_n 0, 1) := by decide +kernel
theorem d4_20 : decode prog_13_method_1_code 20 = .ok (.aload 4, 2) := by decide +kernel
theorem d4_22 : decode prog_13_method_1_code 22 = .ok (.putfield 21, 3) := by decide +kernel
theorem d4_25 : decode prog_13_method_1_code 25 = .ok (.aload_n 0, 1) := by decide +kernel
theorem d4_26 : decode prog_13_method_1_code 26 = .ok (.aload 5, 2) := by decide +kernel
theorem d4_28 : decode prog_13_method_1_code 28 = .ok (.putfield 24, 3) := by decide +kernel
theorem d4_31 : decode prog_13_method_1_code 31 = .ok (.aload_n 0, 1) := by decide +kernel
theorem d4_32 : decode prog_13_method_1_code 32 = .ok (.aload 6, 2) := by decide +kernel
theorem d4_34 : decode prog_13_method_1_code 34 = .ok (.putfield 27, 3) := by decide +kernel
theorem d4_37 : decode prog_13_method_1_code 37 = .ok (.return_, 1) := by decide +kernel
theorem pn_rmI : plainName "com/example/tarry/tarry/Message" = true := by first | (simp [plainName, overriddenIn]; done) | decide +kernel
theorem ef_rmI (m : MethodId) (a1 : Addr) (tb : Addr) (em : Addr) : entryFrame m #[(.ref a1), .null, (.ref tb), (.ref em), .null, .null, .null] 7 = mkF m 0 #[.val (.ref a1), .val .null, .val (.ref tb), .val (.ref em), .val .null, .val .null, .val .null] [] := by first | (simp [entryFrame, mkF, argsToLocals, Value.category]; done) | rfl
def Q_rmI (Z : State) (a1 : Addr) (tb : Addr) (em : Addr)  (h0 : Heap) (n0 : Nat) (v : Option Value) (h : Heap) (L : List Loc) : Prop := v = none ∧ Fr n0 L ∧ Keep h0 h [a1] ∧ Fld Z h a1 "com/example/tarry/tarry/Message" "text" "Ljava/lang/String;" .null ∧ Fld Z h a1 "com/example/tarry/tarry/Message" "bytes" "[B" (.ref tb) ∧ Fld Z h a1 "com/example/tarry/tarry/Message" "headers" "Ljava/util/Map;" (.ref em) ∧ Fld Z h a1 "com/example/tarry/tarry/Message" "messageId" "Ljava/lang/String;" .null ∧ Fld Z h a1 "com/example/tarry/tarry/Message" "correlationId" "Ljava/lang/String;" .null ∧ Fld Z h a1 "com/example/tarry/tarry/Message" "replyTo" "Ljava/lang/String;" .null
set_option maxRecDepth 65536 in
set_option maxHeartbeats 40000000 in
theorem rmI (l : Launch) (Z : State) (a0 : Array Value) (hw : ∀ d ∈ tables_1, d.before a0 Z = true) (ws : List Jvm.Cond) (a1 : Addr) (tb : Addr) (em : Addr)  (h0 : Heap) (n0 : Nat) (O0 : Old Z n0 h0) (Exa_a1 : Exa Z h0 a1 "com/example/tarry/tarry/Message") (F_text_a1 : Fld Z h0 a1 "com/example/tarry/tarry/Message" "text" "Ljava/lang/String;" .null) (F_bytes_a1 : Fld Z h0 a1 "com/example/tarry/tarry/Message" "bytes" "[B" .null) (F_headers_a1 : Fld Z h0 a1 "com/example/tarry/tarry/Message" "headers" "Ljava/util/Map;" .null) (F_messageId_a1 : Fld Z h0 a1 "com/example/tarry/tarry/Message" "messageId" "Ljava/lang/String;" .null) (F_correlationId_a1 : Fld Z h0 a1 "com/example/tarry/tarry/Message" "correlationId" "Ljava/lang/String;" .null) (F_replyTo_a1 : Fld Z h0 a1 "com/example/tarry/tarry/Message" "replyTo" "Ljava/lang/String;" .null) (g1 : n0 ≤ a1) :
    MetFree l (⟨"com/example/tarry/tarry/Message", "<init>", "(Ljava/lang/String;[BLjava/util/Map;Ljava/lang/String;Ljava/lang/String;Ljava/lang/String;)V"⟩ : MethodName) (head1 (Jvm.Cond.code (⟨"com/example/tarry/tarry/Message", "<init>", "(Ljava/lang/String;[BLjava/util/Map;Ljava/lang/String;Ljava/lang/String;Ljava/lang/String;)V"⟩ : MethodName) prog_13_method_1_code 7 none :: ws) ({ frames := 1, cells := 0, slots := 0, locals := 12 } : Room)) (fun a U => a = #[(.ref a1), .null, (.ref tb), (.ref em), .null, .null, .null] ∧ Z.Warmed39 U.vm ∧ U.heap = h0) (fun _ _ _ _ _ => True) (fun _ U o U' => ∃ v L, o = .returned v ∧ Q_rmI Z a1 tb em  h0 n0 v U'.heap L ∧ FrameEnd U o U' L ({ frames := 1, cells := 0, slots := 0, locals := 12 } : Room).cells ({ frames := 1, cells := 0, slots := 0, locals := 12 } : Room).slots) := by
  refine MetFree.of_bodySF (plainFor_of_name pn_rmI) hisR ?_
  intro p e s m args below meth c s₁ Bd hml0 hP hK
  obtain ⟨rfl, hZ, hh⟩ := hP
  have hx := Bd.exec
  have hby := Bd.bytes
  have hml : c.maxLocals = 7 := hml0
  have hown : s.vm.findClass "com/example/tarry/tarry/Message" = some m.cls := findClass_of_methodNamed Bd.named
  have hnm := (name_of_methodNamed Bd.named Bd.method).1
  have X0 : Stand p l e ({ frames := 1, cells := 0, slots := 0, locals := 12 } : Room) s m #[(.ref a1), .null, (.ref tb), (.ref em), .null, .null, .null] below meth c s₁ [] 0 0 := Stand.of_body Bd
  have e0 : s₁.heap = h0 := by rw [← hh, Bd.state]; rfl
  have N0 := Fr.nil n0
  refine Gl.start (Q := Q_rmI Z a1 tb em  h0 n0) (ef_rmI m a1 tb em) ?_
  show Gl p e below s _ _ _ s₁ (mkF m 0 #[.val (.ref a1), .val .null, .val (.ref tb), .val (.ref em), .val .null, .val .null, .val .null] [])
  refine Gl.st (fun _ kk => XS.aloadN X0.here hx rfl (hb hby d4_0) rfl rfl kk) ?_
  show Gl p e below s _ _ _ s₁ (mkF m 1 #[.val (.ref a1), .val .null, .val (.ref tb), .val (.ref em), .val .null, .val .null, .val .null] [(.ref a1)])
  obtain ⟨T1, X1, e1, st1⟩ := initO X0 hx hZ hown (hw _ (List.mem_of_getElem? (i := 36) rfl)) (hw _ (List.mem_of_getElem? (i := 37) rfl)) (hw _ (List.mem_of_getElem? (i := 38) rfl)) e0 (g := (mkF m 1 #[.val (.ref a1), .val .null, .val (.ref tb), .val (.ref em), .val .null, .val .null, .val .null] [(.ref a1)])) rfl (by rw [hml]; rfl) rfl (hb hby d4_1) (by decide) (W := 0) (by show 2 * 0 + _ ≤ _; exact Nat.le_of_eq rfl) (by decide)
  refine Gl.st st1 ?_
  show Gl p e below s _ _ _ T1 (mkF m 4 #[.val (.ref a1), .val .null, .val (.ref tb), .val (.ref em), .val .null, .val .null, .val .null] [])
  refine Gl.st (fun _ kk => XS.aloadN X1.here hx rfl (hb hby d4_4) rfl rfl kk) ?_
  show Gl p e below s _ _ _ T1 (mkF m 5 #[.val (.ref a1), .val .null, .val (.ref tb), .val (.ref em), .val .null, .val .null, .val .null] [(.ref a1)])
  refine Gl.st (fun _ kk => XS.aloadN X1.here hx rfl (hb hby d4_5) rfl rfl kk) ?_
  show Gl p e below s _ _ _ T1 (mkF m 6 #[.val (.ref a1), .val .null, .val (.ref tb), .val (.ref em), .val .null, .val .null, .val .null] [.null, (.ref a1)])
  obtain ⟨T2, h2, X2, e2, W2, st2⟩ := putF X1 hx hZ hown (host := "") (Or.inl (hw _ (List.mem_of_getElem? (i := 39) rfl))) Via.refl e1 F_text_a1 Exa_a1 (Or.inr ⟨(hw _ (List.mem_of_getElem? (i := 40) rfl)), rfl, hnm⟩) (hw _ (List.mem_of_getElem? (i := 17) rfl)) (ty := (.object "java/lang/String")) (by decide) rfl rfl (g := (mkF m 6 #[.val (.ref a1), .val .null, .val (.ref tb), .val (.ref em), .val .null, .val .null, .val .null] [.null, (.ref a1)])) rfl rfl (hb hby d4_6)
  refine Gl.st st2 ?_
  have F_text_a1 := F_text_a1.same W2
  have Exa_a1 := Exa_a1.wr W2
  have F_bytes_a1 := F_bytes_a1.other W2 (Or.inr (slot_ne (Or.inr (hw _ (List.mem_of_getElem? (i := 42) rfl))) (Or.inr (hw _ (List.mem_of_getElem? (i := 40) rfl))) (by decide) (t := (.array .byte)) (t' := (.object "java/lang/String")) (by decide) (by decide)))
  have F_headers_a1 := F_headers_a1.other W2 (Or.inr (slot_ne (Or.inr (hw _ (List.mem_of_getElem? (i := 44) rfl))) (Or.inr (hw _ (List.mem_of_getElem? (i := 40) rfl))) (by decide) (t := (.object "java/util/Map")) (t' := (.object "java/lang/String")) (by decide) (by decide)))
  have F_messageId_a1 := F_messageId_a1.other W2 (Or.inr (slot_ne (Or.inr (hw _ (List.mem_of_getElem? (i := 46) rfl))) (Or.inr (hw _ (List.mem_of_getElem? (i := 40) rfl))) (by decide) (t := (.object "java/lang/String")) (t' := (.object "java/lang/String")) (by decide) (by decide)))
  have F_correlationId_a1 := F_correlationId_a1.other W2 (Or.inr (slot_ne (Or.inr (hw _ (List.mem_of_getElem? (i := 48) rfl))) (Or.inr (hw _ (List.mem_of_getElem? (i := 40) rfl))) (by decide) (t := (.object "java/lang/String")) (t' := (.object "java/lang/String")) (by decide) (by decide)))
  have F_replyTo_a1 := F_replyTo_a1.other W2 (Or.inr (slot_ne (Or.inr (hw _ (List.mem_of_getElem? (i := 50) rfl))) (Or.inr (hw _ (List.mem_of_getElem? (i := 40) rfl))) (by decide) (t := (.object "java/lang/String")) (t' := (.object "java/lang/String")) (by decide) (by decide)))
  have O2 := O0.wr W2 g1
  have K2 := (Keep.refl h0 [a1]).wr W2 (Or.inl (List.mem_of_getElem? (i := 0) rfl))
  have N2 := Fr.snoc X2 N0 g1
  show Gl p e below s _ _ _ T2 (mkF m 9 #[.val (.ref a1), .val .null, .val (.ref tb), .val (.ref em), .val .null, .val .null, .val .null] [])
  refine Gl.st (fun _ kk => XS.aloadN X2.here hx rfl (hb hby d4_9) rfl rfl kk) ?_
  show Gl p e below s _ _ _ T2 (mkF m 10 #[.val (.ref a1), .val .null, .val (.ref tb), .val (.ref em), .val .null, .val .null, .val .null] [(.ref a1)])
  refine Gl.st (fun _ kk => XS.aloadN X2.here hx rfl (hb hby d4_10) rfl rfl kk) ?_
  show Gl p e below s _ _ _ T2 (mkF m 11 #[.val (.ref a1), .val .null, .val (.ref tb), .val (.ref em), .val .null, .val .null, .val .null] [(.ref tb), (.ref a1)])
  obtain ⟨T3, h3, X3, e3, W3, st3⟩ := putF X2 hx hZ hown (host := "") (Or.inl (hw _ (List.mem_of_getElem? (i := 41) rfl))) Via.refl e2 F_bytes_a1 Exa_a1 (Or.inr ⟨(hw _ (List.mem_of_getElem? (i := 42) rfl)), rfl, hnm⟩) (hw _ (List.mem_of_getElem? (i := 17) rfl)) (ty := (.array .byte)) (by decide) rfl rfl (g := (mkF m 11 #[.val (.ref a1), .val .null, .val (.ref tb), .val (.ref em), .val .null, .val .null, .val .null] [(.ref tb), (.ref a1)])) rfl rfl (hb hby d4_11)
  refine Gl.st st3 ?_
  have F_bytes_a1 := F_bytes_a1.same W3
  have Exa_a1 := Exa_a1.wr W3
  have F_text_a1 := F_text_a1.other W3 (Or.inr (slot_ne (Or.inr (hw _ (List.mem_of_getElem? (i := 40) rfl))) (Or.inr (hw _ (List.mem_of_getElem? (i := 42) rfl))) (by decide) (t := (.object "java/lang/String")) (t' := (.array .byte)) (by decide) (by decide)))
  have F_headers_a1 := F_headers_a1.other W3 (Or.inr (slot_ne (Or.inr (hw _ (List.mem_of_getElem? (i := 44) rfl))) (Or.inr (hw _ (List.mem_of_getElem? (i := 42) rfl))) (by decide) (t := (.object "java/util/Map")) (t' := (.array .byte)) (by decide) (by decide)))
  have F_messageId_a1 := F_messageId_a1.other W3 (Or.inr (slot_ne (Or.inr (hw _ (List.mem_of_getElem? (i := 46) rfl))) (Or.inr (hw _ (List.mem_of_getElem? (i := 42) rfl))) (by decide) (t := (.object "java/lang/String")) (t' := (.array .byte)) (by decide) (by decide)))
  have F_correlationId_a1 := F_correlationId_a1.other W3 (Or.inr (slot_ne (Or.inr (hw _ (List.mem_of_getElem? (i := 48) rfl))) (Or.inr (hw _ (List.mem_of_getElem? (i := 42) rfl))) (by decide) (t := (.object "java/lang/String")) (t' := (.array .byte)) (by decide) (by decide)))
  have F_replyTo_a1 := F_replyTo_a1.other W3 (Or.inr (slot_ne (Or.inr (hw _ (List.mem_of_getElem? (i := 50) rfl))) (Or.inr (hw _ (List.mem_of_getElem? (i := 42) rfl))) (by decide) (t := (.object "java/lang/String")) (t' := (.array .byte)) (by decide) (by decide)))
  have O3 := O2.wr W3 g1
  have K3 := K2.wr W3 (Or.inl (List.mem_of_getElem? (i := 0) rfl))
  have N3 := Fr.snoc X3 N2 g1
  show Gl p e below s _ _ _ T3 (mkF m 14 #[.val (.ref a1), .val .null, .val (.ref tb), .val (.ref em), .val .null, .val .null, .val .null] [])
  refine Gl.st (fun _ kk => XS.aloadN X3.here hx rfl (hb hby d4_14) rfl rfl kk) ?_
  show Gl p e below s _ _ _ T3 (mkF m 15 #[.val (.ref a1), .val .null, .val (.ref tb), .val (.ref em), .val .null, .val .null, .val .null] [(.ref a1)])
  refine Gl.st (fun _ kk => XS.aloadN X3.here hx rfl (hb hby d4_15) rfl rfl kk) ?_
  show Gl p e below s _ _ _ T3 (mkF m 16 #[.val (.ref a1), .val .null, .val (.ref tb), .val (.ref em), .val .null, .val .null, .val .null] [(.ref em), (.ref a1)])
  obtain ⟨T4, h4, X4, e4, W4, st4⟩ := putF X3 hx hZ hown (host := "") (Or.inl (hw _ (List.mem_of_getElem? (i := 43) rfl))) Via.refl e3 F_headers_a1 Exa_a1 (Or.inr ⟨(hw _ (List.mem_of_getElem? (i := 44) rfl)), rfl, hnm⟩) (hw _ (List.mem_of_getElem? (i := 17) rfl)) (ty := (.object "java/util/Map")) (by decide) rfl rfl (g := (mkF m 16 #[.val (.ref a1), .val .null, .val (.ref tb), .val (.ref em), .val .null, .val .null, .val .null] [(.ref em), (.ref a1)])) rfl rfl (hb hby d4_16)
  refine Gl.st st4 ?_
  have F_headers_a1 := F_headers_a1.same W4
  have Exa_a1 := Exa_a1.wr W4
  have F_text_a1 := F_text_a1.other W4 (Or.inr (slot_ne (Or.inr (hw _ (List.mem_of_getElem? (i := 40) rfl))) (Or.inr (hw _ (List.mem_of_getElem? (i := 44) rfl))) (by decide) (t := (.object "java/lang/String")) (t' := (.object "java/util/Map")) (by decide) (by decide)))
  have F_bytes_a1 := F_bytes_a1.other W4 (Or.inr (slot_ne (Or.inr (hw _ (List.mem_of_getElem? (i := 42) rfl))) (Or.inr (hw _ (List.mem_of_getElem? (i := 44) rfl))) (by decide) (t := (.array .byte)) (t' := (.object "java/util/Map")) (by decide) (by decide)))
  have F_messageId_a1 := F_messageId_a1.other W4 (Or.inr (slot_ne (Or.inr (hw _ (List.mem_of_getElem? (i := 46) rfl))) (Or.inr (hw _ (List.mem_of_getElem? (i := 44) rfl))) (by decide) (t := (.object "java/lang/String")) (t' := (.object "java/util/Map")) (by decide) (by decide)))
  have F_correlationId_a1 := F_correlationId_a1.other W4 (Or.inr (slot_ne (Or.inr (hw _ (List.mem_of_getElem? (i := 48) rfl))) (Or.inr (hw _ (List.mem_of_getElem? (i := 44) rfl))) (by decide) (t := (.object "java/lang/String")) (t' := (.object "java/util/Map")) (by decide) (by decide)))
  have F_replyTo_a1 := F_replyTo_a1.other W4 (Or.inr (slot_ne (Or.inr (hw _ (List.mem_of_getElem? (i := 50) rfl))) (Or.inr (hw _ (List.mem_of_getElem? (i := 44) rfl))) (by decide) (t := (.object "java/lang/String")) (t' := (.object "java/util/Map")) (by decide) (by decide)))
  have O4 := O3.wr W4 g1
  have K4 := K3.wr W4 (Or.inl (List.mem_of_getElem? (i := 0) rfl))
  have N4 := Fr.snoc X4 N3 g1
  show Gl p e below s _ _ _ T4 (mkF m 19 #[.val (.ref a1), .val .null, .val (.ref tb), .val (.ref em), .val .null, .val .null, .val .null] [])
  refine Gl.st (fun _ kk => XS.aloadN X4.here hx rfl (hb hby d4_19) rfl rfl kk) ?_
  show Gl p e below s _ _ _ T4 (mkF m 20 #[.val (.ref a1), .val .null, .val (.ref tb), .val (.ref em), .val .null, .val .null, .val .null] [(.ref a1)])
  refine Gl.st (fun _ kk => XS.aload X4.here hx rfl (hb hby d4_20) rfl rfl kk) ?_
  show Gl p e below s _ _ _ T4 (mkF m 22 #[.val (.ref a1), .val .null, .val (.ref tb), .val (.ref em), .val .null, .val .null, .val .null] [.null, (.ref a1)])
  obtain ⟨T5, h5, X5, e5, W5, st5⟩ := putF X4 hx hZ hown (host := "") (Or.inl (hw _ (List.mem_of_getElem? (i := 45) rfl))) Via.refl e4 F_messageId_a1 Exa_a1 (Or.inr ⟨(hw _ (List.mem_of_getElem? (i := 46) rfl)), rfl, hnm⟩) (hw _ (List.mem_of_getElem? (i := 17) rfl)) (ty := (.object "java/lang/String")) (by decide) rfl rfl (g := (mkF m 22 #[.val (.ref a1), .val .null, .val (.ref tb), .val (.ref em), .val .null, .val .null, .val .null] [.null, (.ref a1)])) rfl rfl (hb hby d4_22)
  refine Gl.st st5 ?_
  have F_messageId_a1 := F_messageId_a1.same W5
  have Exa_a1 := Exa_a1.wr W5
  have F_text_a1 := F_text_a1.other W5 (Or.inr (slot_ne (Or.inr (hw _ (List.mem_of_getElem? (i := 40) rfl))) (Or.inr (hw _ (List.mem_of_getElem? (i := 46) rfl))) (by decide) (t := (.object "java/lang/String")) (t' := (.object "java/lang/String")) (by decide) (by decide)))
  have F_bytes_a1 := F_bytes_a1.other W5 (Or.inr (slot_ne (Or.inr (hw _ (List.mem_of_getElem? (i := 42) rfl))) (Or.inr (hw _ (List.mem_of_getElem? (i := 46) rfl))) (by decide) (t := (.array .byte)) (t' := (.object "java/lang/String")) (by decide) (by decide)))
  have F_headers_a1 := F_headers_a1.other W5 (Or.inr (slot_ne (Or.inr (hw _ (List.mem_of_getElem? (i := 44) rfl))) (Or.inr (hw _ (List.mem_of_getElem? (i := 46) rfl))) (by decide) (t := (.object "java/util/Map")) (t' := (.object "java/lang/String")) (by decide) (by decide)))
  have F_correlationId_a1 := F_correlationId_a1.other W5 (Or.inr (slot_ne (Or.inr (hw _ (List.mem_of_getElem? (i := 48) rfl))) (Or.inr (hw _ (List.mem_of_getElem? (i := 46) rfl))) (by decide) (t := (.object "java/lang/String")) (t' := (.object "java/lang/String")) (by decide) (by decide)))
  have F_replyTo_a1 := F_replyTo_a1.other W5 (Or.inr (slot_ne (Or.inr (hw _ (List.mem_of_getElem? (i := 50) rfl))) (Or.inr (hw _ (List.mem_of_getElem? (i := 46) rfl))) (by decide) (t := (.object "java/lang/String")) (t' := (.object "java/lang/String")) (by decide) (by decide)))
  have O5 := O4.wr W5 g1
  have K5 := K4.wr W5 (Or.inl (List.mem_of_getElem? (i := 0) rfl))
  have N5 := Fr.snoc X5 N4 g1
  show Gl p e below s _ _ _ T5 (mkF m 25 #[.val (.ref a1), .val .null, .val (.ref tb), .val (.ref em), .val .null, .val .null, .val .null] [])
  refine Gl.st (fun _ kk => XS.aloadN X5.here hx rfl (hb hby d4_25) rfl rfl kk) ?_
  show Gl p e below s _ _ _ T5 (mkF m 26 #[.val (.ref a1), .val .null, .val (.ref tb), .val (.ref em), .val .null, .val .null, .val .null] [(.ref a1)])
  refine Gl.st (fun _ kk => XS.aload X5.here hx rfl (hb hby d4_26) rfl rfl kk) ?_
  show Gl p e below s _ _ _ T5 (mkF m 28 #[.val (.ref a1), .val .null, .val (.ref tb), .val (.ref em), .val .null, .val .null, .val .null] [.null, (.ref a1)])
  obtain ⟨T6, h6, X6, e6, W6, st6⟩ := putF X5 hx hZ hown (host := "") (Or.inl (hw _ (List.mem_of_getElem? (i := 47) rfl))) Via.refl e5 F_correlationId_a1 Exa_a1 (Or.inr ⟨(hw _ (List.mem_of_getElem? (i := 48) rfl)), rfl, hnm⟩) (hw _ (List.mem_of_getElem? (i := 17) rfl)) (ty := (.object "java/lang/String")) (by decide) rfl rfl (g := (mkF m 28 #[.val (.ref a1), .val .null, .val (.ref tb), .val (.ref em), .val .null, .val .null, .val .null] [.null, (.ref a1)])) rfl rfl (hb hby d4_28)
  refine Gl.st st6 ?_
  have F_correlationId_a1 := F_correlationId_a1.same W6
  have Exa_a1 := Exa_a1.wr W6
  have F_text_a1 := F_text_a1.other W6 (Or.inr (slot_ne (Or.inr (hw _ (List.mem_of_getElem? (i := 40) rfl))) (Or.inr (hw _ (List.mem_of_getElem? (i := 48) rfl))) (by decide) (t := (.object "java/lang/String")) (t' := (.object "java/lang/String")) (by decide) (by decide)))
  have F_bytes_a1 := F_bytes_a1.other W6 (Or.inr (slot_ne (Or.inr (hw _ (List.mem_of_getElem? (i := 42) rfl))) (Or.inr (hw _ (List.mem_of_getElem? (i := 48) rfl))) (by decide) (t := (.array .byte)) (t' := (.object "java/lang/String")) (by decide) (by decide)))
  have F_headers_a1 := F_headers_a1.other W6 (Or.inr (slot_ne (Or.inr (hw _ (List.mem_of_getElem? (i := 44) rfl))) (Or.inr (hw _ (List.mem_of_getElem? (i := 48) rfl))) (by decide) (t := (.object "java/util/Map")) (t' := (.object "java/lang/String")) (by decide) (by decide)))
  have F_messageId_a1 := F_messageId_a1.other W6 (Or.inr (slot_ne (Or.inr (hw _ (List.mem_of_getElem? (i := 46) rfl))) (Or.inr (hw _ (List.mem_of_getElem? (i := 48) rfl))) (by decide) (t := (.object "java/lang/String")) (t' := (.object "java/lang/String")) (by decide) (by decide)))
  have F_replyTo_a1 := F_replyTo_a1.other W6 (Or.inr (slot_ne (Or.inr (hw _ (List.mem_of_getElem? (i := 50) rfl))) (Or.inr (hw _ (List.mem_of_getElem? (i := 48) rfl))) (by decide) (t := (.object "java/lang/String")) (t' := (.object "java/lang/String")) (by decide) (by decide)))
  have O6 := O5.wr W6 g1
  have K6 := K5.wr W6 (Or.inl (List.mem_of_getElem? (i := 0) rfl))
  have N6 := Fr.snoc X6 N5 g1
  show Gl p e below s _ _ _ T6 (mkF m 31 #[.val (.ref a1), .val .null, .val (.ref tb), .val (.ref em), .val .null, .val .null, .val .null] [])
  refine Gl.st (fun _ kk => XS.aloadN X6.here hx rfl (hb hby d4_31) rfl rfl kk) ?_
  show Gl p e below s _ _ _ T6 (mkF m 32 #[.val (.ref a1), .val .null, .val (.ref tb), .val (.ref em), .val .null, .val .null, .val .null] [(.ref a1)])
  refine Gl.st (fun _ kk => XS.aload X6.here hx rfl (hb hby d4_32) rfl rfl kk) ?_
  show Gl p e below s _ _ _ T6 (mkF m 34 #[.val (.ref a1), .val .null, .val (.ref tb), .val (.ref em), .val .null, .val .null, .val .null] [.null, (.ref a1)])
  obtain ⟨T7, h7, X7, e7, W7, st7⟩ := putF X6 hx hZ hown (host := "") (Or.inl (hw _ (List.mem_of_getElem? (i := 49) rfl))) Via.refl e6 F_replyTo_a1 Exa_a1 (Or.inr ⟨(hw _ (List.mem_of_getElem? (i := 50) rfl)), rfl, hnm⟩) (hw _ (List.mem_of_getElem? (i := 17) rfl)) (ty := (.object "java/lang/String")) (by decide) rfl rfl (g := (mkF m 34 #[.val (.ref a1), .val .null, .val (.ref tb), .val (.ref em), .val .null, .val .null, .val .null] [.null, (.ref a1)])) rfl rfl (hb hby d4_34)
  refine Gl.st st7 ?_
  have F_replyTo_a1 := F_replyTo_a1.same W7
  have Exa_a1 := Exa_a1.wr W7
  have F_text_a1 := F_text_a1.other W7 (Or.inr (slot_ne (Or.inr (hw _ (List.mem_of_getElem? (i := 40) rfl))) (Or.inr (hw _ (List.mem_of_getElem? (i := 50) rfl))) (by decide) (t := (.object "java/lang/String")) (t' := (.object "java/lang/String")) (by decide) (by decide)))
  have F_bytes_a1 := F_bytes_a1.other W7 (Or.inr (slot_ne (Or.inr (hw _ (List.mem_of_getElem? (i := 42) rfl))) (Or.inr (hw _ (List.mem_of_getElem? (i := 50) rfl))) (by decide) (t := (.array .byte)) (t' := (.object "java/lang/String")) (by decide) (by decide)))
  have F_headers_a1 := F_headers_a1.other W7 (Or.inr (slot_ne (Or.inr (hw _ (List.mem_of_getElem? (i := 44) rfl))) (Or.inr (hw _ (List.mem_of_getElem? (i := 50) rfl))) (by decide) (t := (.object "java/util/Map")) (t' := (.object "java/lang/String")) (by decide) (by decide)))
  have F_messageId_a1 := F_messageId_a1.other W7 (Or.inr (slot_ne (Or.inr (hw _ (List.mem_of_getElem? (i := 46) rfl))) (Or.inr (hw _ (List.mem_of_getElem? (i := 50) rfl))) (by decide) (t := (.object "java/lang/String")) (t' := (.object "java/lang/String")) (by decide) (by decide)))
  have F_correlationId_a1 := F_correlationId_a1.other W7 (Or.inr (slot_ne (Or.inr (hw _ (List.mem_of_getElem? (i := 48) rfl))) (Or.inr (hw _ (List.mem_of_getElem? (i := 50) rfl))) (by decide) (t := (.object "java/lang/String")) (t' := (.object "java/lang/String")) (by decide) (by decide)))
  have O7 := O6.wr W7 g1
  have K7 := K6.wr W7 (Or.inl (List.mem_of_getElem? (i := 0) rfl))
  have N7 := Fr.snoc X7 N6 g1
  show Gl p e below s _ _ _ T7 (mkF m 37 #[.val (.ref a1), .val .null, .val (.ref tb), .val (.ref em), .val .null, .val .null, .val .null] [])
  exact Gl.ret X7 (v := none) (fun _ => rfl) (BodyLoose.notSynchronized Bd) (fun hr => X7.returnOut hx Bd.returns (hb hby d4_37) hr) e7 ⟨rfl, N7, K7, F_text_a1, F_bytes_a1, F_headers_a1, F_messageId_a1, F_correlationId_a1, F_replyTo_a1⟩ (by decide) (by decide)
theorem d1_0 : decode prog_13_method_3_code 0 = .ok (.aload_n 0, 1) := by decide +kernel
theorem d1_1 : decode prog_13_method_3_code 1 = .ok (.ldc 46, 2) := by decide +kernel
theorem d1_3 : decode prog_13_method_3_code 3 = .ok (.invokestatic 31, 3) := by decide +kernel
theorem d1_6 : decode prog_13_method_3_code 6 = .ok (.pop, 1) := by decide +kernel
theorem d1_7 : decode prog_13_method_3_code 7 = .ok (.new 8, 3) := by decide +kernel
theorem d1_10 : decode prog_13_method_3_code 10 = .ok (.dup, 1) := by decide +kernel
theorem d1_11 : decode prog_13_method_3_code 11 = .ok (.aconst_null, 1) := by decide +kernel
theorem d1_12 : decode prog_13_method_3_code 12 = .ok (.aload_n 0, 1) := by decide +kernel
theorem d1_13 : decode prog_13_method_3_code 13 = .ok (.invokevirtual 48, 3) := by decide +kernel
theorem d1_16 : decode prog_13_method_3_code 16 = .ok (.checkcast 49, 3) := by decide +kernel
theorem d1_19 : decode prog_13_method_3_code 19 = .ok (.invokestatic 37, 3) := by decide +kernel
theorem d1_22 : decode prog_13_method_3_code 22 = .ok (.aconst_null, 1) := by decide +kernel
theorem d1_23 : decode prog_13_method_3_code 23 = .ok (.aconst_null, 1) := by decide +kernel
theorem d1_24 : decode prog_13_method_3_code 24 = .ok (.aconst_null, 1) := by decide +kernel
theorem d1_25 : decode prog_13_method_3_code 25 = .ok (.invokespecial 43, 3) := by decide +kernel
theorem d1_28 : decode prog_13_method_3_code 28 = .ok (.areturn, 1) := by decide +kernel
theorem pd_rmB0_0 : parseMethodDescriptor "(Ljava/lang/Object;Ljava/lang/String;)Ljava/lang/Object;" = some ⟨[(.object "java/lang/Object"), (.object "java/lang/String")], some (.object "java/lang/Object")⟩ := by decide +kernel
theorem pd_rmB0_1 : parseMethodDescriptor "()Ljava/util/Map;" = some ⟨[], some (.object "java/util/Map")⟩ := by decide +kernel
theorem pd_rmB0_2 : parseMethodDescriptor "(Ljava/lang/String;[BLjava/util/Map;Ljava/lang/String;Ljava/lang/String;Ljava/lang/String;)V" = some ⟨[(.object "java/lang/String"), (.array .byte), (.object "java/util/Map"), (.object "java/lang/String"), (.object "java/lang/String"), (.object "java/lang/String")], none⟩ := by decide +kernel
theorem pn_rmB0 : plainName "com/example/tarry/tarry/Message" = true := by first | (simp [plainName, overriddenIn]; done) | decide +kernel
theorem ef_rmB0 (m : MethodId) (a1 : Addr) : entryFrame m #[(.ref a1)] 1 = mkF m 0 #[.val (.ref a1)] [] := by first | (simp [entryFrame, mkF, argsToLocals, Value.category]; done) | rfl
def Q_rmB0 (Z : State) (a1 : Addr) (k1 : ClassId)  (em : Addr) (h0 : Heap) (n0 : Nat) (v : Option Value) (h : Heap) (L : List Loc) : Prop := ∃ b t, v = some (.ref b) ∧ Fr n0 L ∧ Keep h0 h [] ∧ Exa Z h b "com/example/tarry/tarry/Message" ∧ Fld Z h b "com/example/tarry/tarry/Message" "text" "Ljava/lang/String;" .null ∧ Fld Z h b "com/example/tarry/tarry/Message" "bytes" "[B" (.ref t) ∧ Fld Z h b "com/example/tarry/tarry/Message" "headers" "Ljava/util/Map;" (.ref em) ∧ Fld Z h b "com/example/tarry/tarry/Message" "messageId" "Ljava/lang/String;" .null ∧ Fld Z h b "com/example/tarry/tarry/Message" "correlationId" "Ljava/lang/String;" .null ∧ Fld Z h b "com/example/tarry/tarry/Message" "replyTo" "Ljava/lang/String;" .null ∧ Arv Z h t k1 .byte (0 : Int32) [] (.int 0) ∧ Exa Z h t "[B" ∧ h0.size ≤ b ∧ h0.size ≤ t ∧ b ≠ t
set_option maxRecDepth 65536 in
set_option maxHeartbeats 40000000 in
theorem rmB0 (l : Launch) (Z : State) (a0 : Array Value) (hw : ∀ d ∈ tables_1, d.before a0 Z = true) (ws : List Jvm.Cond) (a1 : Addr) (k1 : ClassId)  (em : Addr) (h0 : Heap) (n0 : Nat) (O0 : Old Z n0 h0) (Arv_a1 : Arv Z h0 a1 k1 .byte (0 : Int32) [] (.int 0)) (Exa_a1 : Exa Z h0 a1 "[B") (S_EM : Sta Z Z.heap "java/util/ImmutableCollections" "EMPTY_MAP" "Ljava/util/ImmutableCollections$MapN;" (.ref em)) :
    MetFree l (⟨"com/example/tarry/tarry/Message", "bytes", "([B)Lcom/example/tarry/tarry/Message;"⟩ : MethodName) (head1 (Jvm.Cond.code (⟨"com/example/tarry/tarry/Message", "bytes", "([B)Lcom/example/tarry/tarry/Message;"⟩ : MethodName) prog_13_method_3_code 1 (some (.object "com/example/tarry/tarry/Message")) :: ws) ({ frames := 2, cells := 4, slots := 26, locals := 31 } : Room)) (fun a U => a = #[(.ref a1)] ∧ Z.Warmed39 U.vm ∧ U.heap = h0 ∧ CHv Z ([] : List (String × Nat)) U.vm h0) (fun _ _ _ _ _ => True) (fun _ U o U' => ∃ v L, o = .returned v ∧ Q_rmB0 Z a1 k1  em h0 n0 v U'.heap L ∧ CHr Z ([] : List (String × Nat)) U.vm U.heap U'.vm U'.heap ∧ ReturnedEndW U o U' L ({ frames := 2, cells := 4, slots := 26, locals := 31 } : Room).cells ({ frames := 2, cells := 4, slots := 26, locals := 31 } : Room).slots) := by
  refine MetFree.of_bodySF (plainFor_of_name pn_rmB0) hisR ?_
  intro p e s m args below meth c s₁ Bd hml0 hP hK
  obtain ⟨rfl, hZ, hh, H0⟩ := hP
  have hx := Bd.exec
  have hby := Bd.bytes
  have hml : c.maxLocals = 1 := hml0
  have hown : s.vm.findClass "com/example/tarry/tarry/Message" = some m.cls := findClass_of_methodNamed Bd.named
  have hnm := (name_of_methodNamed Bd.named Bd.method).1
  have X0 : Stand p l e ({ frames := 2, cells := 4, slots := 26, locals := 31 } : Room) (s.setVm s.vm) m #[(.ref a1)] below meth c s₁ [] 0 0 := Stand.of_body Bd
  have e0 : s₁.heap = h0 := by rw [← hh, Bd.state]; rfl
  have N0 := Fr.nil n0
  have hS0 : s.Since s.vm 0 := (State.WarmedH.refl s).since 0
  have hk0 : 0 ≤ h0.size := Nat.zero_le _
  have HC0 : CHr Z ([] : List (String × Nat)) s.vm h0 s.vm h0 := CHr.refl H0
  have hh0 : s.heap = h0 := hh
  refine GlW.start (Q := Q_rmB0 Z a1 k1  em h0 n0) (ef_rmB0 m a1) ?_
  have hEL : EW Z a0 ([] : List (String × Nat)) := EW.nil
  have hwS : ∀ a ∈ Bundle.stringAtoms, a.before a0 Z = true := fun d hd => hw d ((by decide +kernel : ∀ d ∈ Bundle.stringAtoms, d ∈ tables_1) d hd)
  show GlW Z ([] : List (String × Nat)) p e below s _ _ _ s₁ (mkF m 0 #[.val (.ref a1)] [])
  refine GlW.st (fun _ kk => XS.aloadN X0.here hx rfl (hb hby d1_0) rfl rfl kk) ?_
  show GlW Z ([] : List (String × Nat)) p e below s _ _ _ s₁ (mkF m 1 #[.val (.ref a1)] [(.ref a1)])
  obtain ⟨la1, T1, h1, kn1, X1, e1, E1, hS1, hk1, hZ1, hown1, HR1, Li1, st1⟩ := ldcOH X0 hx hZ hown (hw _ (List.mem_of_getElem? (i := 5) rfl)) hwS e0 hS0 hk0 hEL HC0.1 (g := (mkF m 1 #[.val (.ref a1)] [(.ref a1)])) rfl (hb hby d1_1) (n := 16) (by decide) (by decide) (by decide) (by decide)
  refine GlW.st st1 ?_
  have Arv_a1 := Arv_a1.ext E1
  have Exa_a1 := Exa_a1.ext E1
  have O1 := O0.ext E1
  have K1 := (Keep.refl h0 []).ext E1
  have HC1 := HC0.trans HR1
  have hZ := hZ1
  have hown := hown1
  show GlW Z ([] : List (String × Nat)) p e below s _ _ _ T1 (mkF m 3 #[.val (.ref a1)] [(.ref la1), (.ref a1)])
  obtain ⟨v2, _, ⟨T2, L2, kQ2, nQ2⟩, -, X2, ⟨Lc2, hQ2, l2, y2, z2⟩, st2⟩ := Jvm.LawKit.callS X1 hx (y := (⟨"java/util/Objects", "requireNonNull", "(Ljava/lang/Object;Ljava/lang/String;)Ljava/lang/Object;"⟩ : MethodName)) hown (mvT hZ (hw _ (List.mem_of_getElem? (i := 12) rfl))) (mvT hZ (hw _ (List.mem_of_getElem? (i := 13) rfl))) (mvT hZ (hw _ (List.mem_of_getElem? (i := 14) rfl))) (mvT hZ (hw _ (List.mem_of_getElem? (i := 15) rfl))) (by decide) (backOf (W := 0) (rmRN l Z a0 hw [] a1 la1 h1 n0 O1) hZ (hw _ (List.mem_of_getElem? (i := 15) rfl)) (hw _ (List.mem_of_getElem? (i := 14) rfl)) (by decide) (by decide)) (g := (mkF m 3 #[.val (.ref a1)] [(.ref la1), (.ref a1)])) rfl (by rw [hml]; rfl) (argsL := [(.ref a1), (.ref la1)]) (rest := []) (lenOf pd_rmB0_0 rfl) rfl (by show 2 * 0 + _ ≤ _; exact Nat.le_of_eq rfl) (hb hby d1_3) (fun _ _ => ⟨rfl, e1, (by decide : 2 + 0 ≤ _), (by decide : 20 + 0 ≤ _)⟩)
  dsimp only [Pt.U, Pt.locs, Pt.cells, Pt.slots] at X2 l2 y2 z2 st2 hQ2
  subst l2 y2 z2
  obtain ⟨rfl, Nq2, e2⟩ := hQ2
  have N2 := Fr.app N0 Nq2
  refine GlW.st st2 ?_
  show GlW Z ([] : List (String × Nat)) p e below s _ _ _ T2 (mkF m 6 #[.val (.ref a1)] [(.ref a1)])
  refine GlW.st (fun _ kk => XS.pop X2.here hx rfl (hb hby d1_6) rfl rfl kk) ?_
  show GlW Z ([] : List (String × Nat)) p e below s _ _ _ T2 (mkF m 7 #[.val (.ref a1)] [])
  obtain ⟨T3, h3, X3, e3, E3, A3, D3, V3, st3⟩ := newO X2 hx hZ hown (hw _ (List.mem_of_getElem? (i := 16) rfl)) (hw _ (List.mem_of_getElem? (i := 17) rfl)) (hw _ (List.mem_of_getElem? (i := 3) rfl)) e2 (g := (mkF m 7 #[.val (.ref a1)] [])) rfl (hb hby d1_7) (by decide) (by decide)
  obtain ⟨b3, g3⟩ : ∃ z, z = h1.size := ⟨_, rfl⟩
  rw [← g3] at A3 D3 V3 st3
  refine GlW.st st3 ?_
  have ne_a1_b3 : a1 ≠ b3 := Nat.ne_of_lt (Nat.lt_of_lt_of_eq Arv_a1.lt g3.symm)
  have ge_b3 : n0 ≤ b3 := Nat.le_trans (Nat.le_trans (Nat.le_of_eq O1.1.symm) O1.2.1) (Nat.le_of_eq g3.symm)
  have fr_b3 : h0.size ≤ b3 := Nat.le_trans K1.1 (Nat.le_of_eq g3.symm)
  have HC3 := HC1.trans (CHr.ext E3 HC1.1)
  have hk3 := Nat.le_trans hk1 E3.1
  have Arv_a1 := Arv_a1.ext E3
  have Exa_a1 := Exa_a1.ext E3
  have O3 := O1.ext E3
  have K3 := K1.ext E3
  have Exa_b3 := A3
  have F_text_b3 : Fld Z h3 b3 "com/example/tarry/tarry/Message" "text" "Ljava/lang/String;" .null := D3 (Or.inr (hw _ (List.mem_of_getElem? (i := 40) rfl))) (ty := (.object "java/lang/String")) (by decide)
  have F_bytes_b3 : Fld Z h3 b3 "com/example/tarry/tarry/Message" "bytes" "[B" .null := D3 (Or.inr (hw _ (List.mem_of_getElem? (i := 42) rfl))) (ty := (.array .byte)) (by decide)
  have F_headers_b3 : Fld Z h3 b3 "com/example/tarry/tarry/Message" "headers" "Ljava/util/Map;" .null := D3 (Or.inr (hw _ (List.mem_of_getElem? (i := 44) rfl))) (ty := (.object "java/util/Map")) (by decide)
  have F_messageId_b3 : Fld Z h3 b3 "com/example/tarry/tarry/Message" "messageId" "Ljava/lang/String;" .null := D3 (Or.inr (hw _ (List.mem_of_getElem? (i := 46) rfl))) (ty := (.object "java/lang/String")) (by decide)
  have F_correlationId_b3 : Fld Z h3 b3 "com/example/tarry/tarry/Message" "correlationId" "Ljava/lang/String;" .null := D3 (Or.inr (hw _ (List.mem_of_getElem? (i := 48) rfl))) (ty := (.object "java/lang/String")) (by decide)
  have F_replyTo_b3 : Fld Z h3 b3 "com/example/tarry/tarry/Message" "replyTo" "Ljava/lang/String;" .null := D3 (Or.inr (hw _ (List.mem_of_getElem? (i := 50) rfl))) (ty := (.object "java/lang/String")) (by decide)
  show GlW Z ([] : List (String × Nat)) p e below s _ _ _ T3 (mkF m 10 #[.val (.ref a1)] [(.ref b3)])
  refine GlW.st (fun _ kk => XS.dup X3.here hx rfl (hb hby d1_10) rfl rfl kk) ?_
  show GlW Z ([] : List (String × Nat)) p e below s _ _ _ T3 (mkF m 11 #[.val (.ref a1)] [(.ref b3), (.ref b3)])
  refine GlW.st (fun _ kk => XS.aconstNull X3.here hx rfl (hb hby d1_11) kk) ?_
  show GlW Z ([] : List (String × Nat)) p e below s _ _ _ T3 (mkF m 12 #[.val (.ref a1)] [.null, (.ref b3), (.ref b3)])
  refine GlW.st (fun _ kk => XS.aloadN X3.here hx rfl (hb hby d1_12) rfl rfl kk) ?_
  show GlW Z ([] : List (String × Nat)) p e below s _ _ _ T3 (mkF m 13 #[.val (.ref a1)] [(.ref a1), .null, (.ref b3), (.ref b3)])
  obtain ⟨T4, h4, X4, e4, E4, A4, Ax4, st4⟩ := cloneH X3 hx hZ hown (hw _ (List.mem_of_getElem? (i := 18) rfl)) (hw _ (List.mem_of_getElem? (i := 19) rfl)) (hw _ (List.mem_of_getElem? (i := 23) rfl)) (hw _ (List.mem_of_getElem? (i := 21) rfl)) (hw _ (List.mem_of_getElem? (i := 22) rfl)) (hw _ (List.mem_of_getElem? (i := 24) rfl)) e3 (Arv.arh Arv_a1) Exa_a1 (g := (mkF m 13 #[.val (.ref a1)] [(.ref a1), .null, (.ref b3), (.ref b3)])) rfl (by rw [hml]; rfl) rfl (hb hby d1_13) (by decide) (W := 3) (cap := 0) (by show 2 * 0 + _ ≤ _; exact Nat.le_of_eq rfl) (by decide) (by decide) (by decide) (by decide)
  obtain ⟨b4, g4⟩ : ∃ z, z = h3.size := ⟨_, rfl⟩
  rw [← g4] at A4 Ax4 st4
  refine GlW.st st4 ?_
  have ne_a1_b4 : a1 ≠ b4 := Nat.ne_of_lt (Nat.lt_of_lt_of_eq Arv_a1.lt g4.symm)
  have ne_b3_b4 : b3 ≠ b4 := Nat.ne_of_lt (Nat.lt_of_lt_of_eq Exa_b3.lt g4.symm)
  have ge_b4 : n0 ≤ b4 := Nat.le_trans (Nat.le_trans (Nat.le_of_eq O3.1.symm) O3.2.1) (Nat.le_of_eq g4.symm)
  have fr_b4 : h0.size ≤ b4 := Nat.le_trans K3.1 (Nat.le_of_eq g4.symm)
  have Sf_b4 : Safe Z ([] : List (String × Nat)) T1.vm h3 b4 := Safe.new (Nat.le_of_eq g4.symm)
  have Sf_b4 := Safe.ext E4 HC3.1 Sf_b4
  have HC4 := HC3.trans (CHr.ext E4 HC3.1)
  have hk4 := Nat.le_trans hk3 E4.1
  have Arv_a1 := Arv_a1.ext E4
  have Exa_a1 := Exa_a1.ext E4
  have Exa_b3 := Exa_b3.ext E4
  have F_text_b3 := F_text_b3.ext E4
  have F_bytes_b3 := F_bytes_b3.ext E4
  have F_headers_b3 := F_headers_b3.ext E4
  have F_messageId_b3 := F_messageId_b3.ext E4
  have F_correlationId_b3 := F_correlationId_b3.ext E4
  have F_replyTo_b3 := F_replyTo_b3.ext E4
  have O4 := O3.ext E4
  have K4 := K3.ext E4
  have Arv_b4 : Arv Z h4 b4 k1 .byte (0 : Int32) [] (.int (0 : Int32)) := A4
  have Exa_b4 := Ax4
  show GlW Z ([] : List (String × Nat)) p e below s _ _ _ T4 (mkF m 16 #[.val (.ref a1)] [(.ref b4), .null, (.ref b3), (.ref b3)])
  obtain ⟨T5, X5, e5, st5⟩ := castY X4 hx hZ hown (hw _ (List.mem_of_getElem? (i := 25) rfl)) e4 (Ins.self Exa_b4) (g := (mkF m 16 #[.val (.ref a1)] [(.ref b4), .null, (.ref b3), (.ref b3)])) rfl rfl (hb hby d1_16)
  refine GlW.st st5 ?_
  show GlW Z ([] : List (String × Nat)) p e below s _ _ _ T5 (mkF m 19 #[.val (.ref a1)] [(.ref b4), .null, (.ref b3), (.ref b3)])
  obtain ⟨v6, _, ⟨T6, L6, kQ6, nQ6⟩, -, X6, ⟨Lc6, hQ6, l6, y6, z6⟩, st6⟩ := Jvm.LawKit.callS X5 hx (y := (⟨"java/util/Map", "of", "()Ljava/util/Map;"⟩ : MethodName)) hown (mvT hZ (hw _ (List.mem_of_getElem? (i := 27) rfl))) (mvT hZ (hw _ (List.mem_of_getElem? (i := 28) rfl))) (mvT hZ (hw _ (List.mem_of_getElem? (i := 29) rfl))) (mvT hZ (hw _ (List.mem_of_getElem? (i := 30) rfl))) (by decide) (backOf (W := 4) (rmMO l Z a0 hw [] em h4 n0 O4 S_EM) hZ (hw _ (List.mem_of_getElem? (i := 30) rfl)) (hw _ (List.mem_of_getElem? (i := 29) rfl)) (by decide) (by decide)) (g := (mkF m 19 #[.val (.ref a1)] [(.ref b4), .null, (.ref b3), (.ref b3)])) rfl (by rw [hml]; rfl) (argsL := []) (rest := [(.ref b4), .null, (.ref b3), (.ref b3)]) (lenOf pd_rmB0_1 rfl) rfl (by show 2 * 0 + _ ≤ _; exact Nat.le_of_eq rfl) (hb hby d1_19) (fun _ _ => ⟨rfl, e5, (by decide : 4 + 0 ≤ _), (by decide : 26 + 0 ≤ _)⟩)
  dsimp only [Pt.U, Pt.locs, Pt.cells, Pt.slots] at X6 l6 y6 z6 st6 hQ6
  subst l6 y6 z6
  obtain ⟨rfl, Nq6, e6⟩ := hQ6
  have N6 := Fr.app N2 Nq6
  refine GlW.st st6 ?_
  show GlW Z ([] : List (String × Nat)) p e below s _ _ _ T6 (mkF m 22 #[.val (.ref a1)] [(.ref em), (.ref b4), .null, (.ref b3), (.ref b3)])
  refine GlW.st (fun _ kk => XS.aconstNull X6.here hx rfl (hb hby d1_22) kk) ?_
  show GlW Z ([] : List (String × Nat)) p e below s _ _ _ T6 (mkF m 23 #[.val (.ref a1)] [.null, (.ref em), (.ref b4), .null, (.ref b3), (.ref b3)])
  refine GlW.st (fun _ kk => XS.aconstNull X6.here hx rfl (hb hby d1_23) kk) ?_
  show GlW Z ([] : List (String × Nat)) p e below s _ _ _ T6 (mkF m 24 #[.val (.ref a1)] [.null, .null, (.ref em), (.ref b4), .null, (.ref b3), (.ref b3)])
  refine GlW.st (fun _ kk => XS.aconstNull X6.here hx rfl (hb hby d1_24) kk) ?_
  show GlW Z ([] : List (String × Nat)) p e below s _ _ _ T6 (mkF m 25 #[.val (.ref a1)] [.null, .null, .null, (.ref em), (.ref b4), .null, (.ref b3), (.ref b3)])
  obtain ⟨v7, _, ⟨T7, L7, kQ7, nQ7⟩, -, X7, ⟨Lc7, hQ7, l7, y7, z7⟩, st7⟩ := X6.specialBack hx (y := (⟨"com/example/tarry/tarry/Message", "<init>", "(Ljava/lang/String;[BLjava/util/Map;Ljava/lang/String;Ljava/lang/String;Ljava/lang/String;)V"⟩ : MethodName)) rfl hown (mvT hZ (hw _ (List.mem_of_getElem? (i := 33) rfl))) (mvT hZ (hw _ (List.mem_of_getElem? (i := 34) rfl))) (mvT hZ (hw _ (List.mem_of_getElem? (i := 35) rfl))) (by decide) (backOf (W := 1) (rmI l Z a0 hw [] b3 b4 em h4 n0 O4 Exa_b3 F_text_b3 F_bytes_b3 F_headers_b3 F_messageId_b3 F_correlationId_b3 F_replyTo_b3 ge_b3) hZ (hw _ (List.mem_of_getElem? (i := 35) rfl)) (hw _ (List.mem_of_getElem? (i := 3) rfl)) (by decide) (by decide)) (g := (mkF m 25 #[.val (.ref a1)] [.null, .null, .null, (.ref em), (.ref b4), .null, (.ref b3), (.ref b3)])) rfl (by rw [hml]; rfl) (Steps.refl _) (a := b3) (argsL := [.null, (.ref b4), (.ref em), .null, .null, .null]) (rest := [(.ref b3)]) (lenOf pd_rmB0_2 rfl) rfl (by show 2 * 0 + _ ≤ _; exact Nat.le_of_eq rfl) (hb hby d1_25) (fun _ _ => ⟨rfl, e6, (by decide : 4 + 0 ≤ _), (by decide : 26 + 0 ≤ _)⟩)
  dsimp only [Pt.U, Pt.locs, Pt.cells, Pt.slots] at X7 l7 y7 z7 st7 hQ7
  subst l7 y7 z7
  obtain ⟨h7, e7⟩ : ∃ z, T7.heap = z := ⟨_, rfl⟩
  rw [e7] at hQ7
  obtain ⟨rfl, Nq7, Kq7, F_text_q7, F_bytes_q7, F_headers_q7, F_messageId_q7, F_correlationId_q7, F_replyTo_q7⟩ := hQ7
  have N7 := Fr.app N6 Nq7
  refine GlW.st (fun _ kk => st7.trans kk) ?_
  have sfk7 : ∀ x ∈ [b3], Safe Z ([] : List (String × Nat)) _ _ x := (allS (Safe.exa hZ.alike Exa_b3 (by decide) (by decide)) all0)
  have Sf_b4 := Safe.keep Kq7 sfk7 HC4.1 Sf_b4
  have HC7 := HC4.trans (CHr.keep Kq7 sfk7 HC4.1)
  have hk7 := Nat.le_trans hk4 Kq7.1
  have Arv_a1 := Arv_a1.keep Kq7 (ninS ne_a1_b3 nin0)
  have Exa_a1 := Exa_a1.keep Kq7
  have Exa_b3 := Exa_b3.keep Kq7
  have Arv_b4 := Arv_b4.keep Kq7 (ninS (Ne.symm ne_b3_b4) nin0)
  have Exa_b4 := Exa_b4.keep Kq7
  have O7 := O4.keep Kq7 (allS ge_b3 all0)
  have K7 := K4.trans Kq7 (allS (Or.inr fr_b3) all0)
  have F_text_b3 := F_text_q7
  have F_bytes_b3 := F_bytes_q7
  have F_headers_b3 := F_headers_q7
  have F_messageId_b3 := F_messageId_q7
  have F_correlationId_b3 := F_correlationId_q7
  have F_replyTo_b3 := F_replyTo_q7
  show GlW Z ([] : List (String × Nat)) p e below s _ _ _ T7 (mkF m 28 #[.val (.ref a1)] [(.ref b3)])
  exact GlW.ret X7 hS1 hk7 hZ hEL hh0 HC7 (v := (some (.ref b3))) (fun h => by rw [Bd.returns] at h; cases h) (BodyLoose.notSynchronized Bd) (fun hr => retOut X7 hx Bd.returns rfl (Or.inr (Or.inr (Or.inr (Or.inr ⟨rfl, rfl, rfl⟩)))) (hb hby d1_28) hr) e7 ⟨b3, b4, rfl, N7, K7, Exa_b3, F_text_b3, F_bytes_b3, F_headers_b3, F_messageId_b3, F_correlationId_b3, F_replyTo_b3, Arv_b4, Exa_b4, fr_b3, fr_b4, Ne.symm (Ne.symm ne_b3_b4)⟩ (by decide) (by decide)
theorem d6_0 : decode method_3_code 0 = .ok (.aload_n 0, 1) := by decide +kernel
theorem d6_1 : decode method_3_code 1 = .ok (.arraylength, 1) := by decide +kernel
theorem d6_2 : decode method_3_code 2 = .ok (.ifCond .le 12, 3) := by decide +kernel
theorem d6_14 : decode method_3_code 14 = .ok (.aload_n 0, 1) := by decide +kernel
theorem d6_15 : decode method_3_code 15 = .ok (.arraylength, 1) := by decide +kernel
theorem d6_16 : decode method_3_code 16 = .ok (.iconst 1, 1) := by decide +kernel
theorem d6_17 : decode method_3_code 17 = .ok (.if_icmp .le 12, 3) := by decide +kernel
theorem d6_29 : decode method_3_code 29 = .ok (.aload_n 0, 1) := by decide +kernel
theorem d6_30 : decode method_3_code 30 = .ok (.arraylength, 1) := by decide +kernel
theorem d6_31 : decode method_3_code 31 = .ok (.iconst 2, 1) := by decide +kernel
theorem d6_32 : decode method_3_code 32 = .ok (.if_icmp .le 12, 3) := by decide +kernel
theorem d6_44 : decode method_3_code 44 = .ok (.return_, 1) := by decide +kernel
theorem pn_rmF0 : plainName "com/example/tarry/tarry/MessageBytesPinLaw" = true := by first | (simp [plainName, overriddenIn]; done) | decide +kernel
theorem ef_rmF0 (m : MethodId) (a1 : Addr) : entryFrame m #[(.ref a1)] 1 = mkF m 0 #[.val (.ref a1)] [] := by first | (simp [entryFrame, mkF, argsToLocals, Value.category]; done) | rfl
def Q_rmF0 (Z : State) (a1 : Addr) (k1 : ClassId)  (h0 : Heap) (n0 : Nat) (v : Option Value) (h : Heap) (L : List Loc) : Prop := v = none ∧ Fr n0 L ∧ Keep h0 h [a1]
set_option maxRecDepth 65536 in
set_option maxHeartbeats 40000000 in
theorem rmF0 (l : Launch) (Z : State) (a0 : Array Value) (hw : ∀ d ∈ tables_1, d.before a0 Z = true) (ws : List Jvm.Cond) (a1 : Addr) (k1 : ClassId)  (h0 : Heap) (n0 : Nat) (O0 : Old Z n0 h0) (Arv_a1 : Arv Z h0 a1 k1 .byte (0 : Int32) [] (.int 0)) (g1 : n0 ≤ a1) :
    MetFree l (⟨"com/example/tarry/tarry/MessageBytesPinLaw", "flip", "([B)V"⟩ : MethodName) (head1 (Jvm.Cond.code (⟨"com/example/tarry/tarry/MessageBytesPinLaw", "flip", "([B)V"⟩ : MethodName) method_3_code 1 none :: ws) ({ frames := 0, cells := 0, slots := 0, locals := 0 } : Room)) (fun a U => a = #[(.ref a1)] ∧ Z.Warmed39 U.vm ∧ U.heap = h0) (fun _ _ _ _ _ => True) (fun _ U o U' => ∃ v L, o = .returned v ∧ Q_rmF0 Z a1 k1  h0 n0 v U'.heap L ∧ FrameEnd U o U' L ({ frames := 0, cells := 0, slots := 0, locals := 0 } : Room).cells ({ frames := 0, cells := 0, slots := 0, locals := 0 } : Room).slots) := by
  refine MetFree.of_bodySF (plainFor_of_name pn_rmF0) hisR ?_
  intro p e s m args below meth c s₁ Bd hml0 hP hK
  obtain ⟨rfl, hZ, hh⟩ := hP
  have hx := Bd.exec
  have hby := Bd.bytes
  have hml : c.maxLocals = 1 := hml0
  have hown : s.vm.findClass "com/example/tarry/tarry/MessageBytesPinLaw" = some m.cls := findClass_of_methodNamed Bd.named
  have hnm := (name_of_methodNamed Bd.named Bd.method).1
  have X0 : Stand p l e ({ frames := 0, cells := 0, slots := 0, locals := 0 } : Room) s m #[(.ref a1)] below meth c s₁ [] 0 0 := Stand.of_body Bd
  have e0 : s₁.heap = h0 := by rw [← hh, Bd.state]; rfl
  have N0 := Fr.nil n0
  refine Gl.start (Q := Q_rmF0 Z a1 k1  h0 n0) (ef_rmF0 m a1) ?_
  show Gl p e below s _ _ _ s₁ (mkF m 0 #[.val (.ref a1)] [])
  refine Gl.st (fun _ kk => XS.aloadN X0.here hx rfl (hb hby d6_0) rfl rfl kk) ?_
  show Gl p e below s _ _ _ s₁ (mkF m 1 #[.val (.ref a1)] [(.ref a1)])
  obtain ⟨cl1, Ar1, q1, Sz1, Ng1, Ha1, Fi1⟩ := id Arv_a1
  refine Gl.st (fun _ kk => X0.arraylength hx (by rw [e0]; exact Ar1.1) (State.isArrayOf_alike hZ.alike Ar1.2.1) (g := (mkF m 1 #[.val (.ref a1)] [(.ref a1)])) rfl rfl (hb hby d6_1) _ kk) ?_
  rw [len_of Sz1 Ng1]
  show Gl p e below s _ _ _ s₁ (mkF m 2 #[.val (.ref a1)] [(.int (0 : Int32))])
  refine Gl.st (fun _ kk => XS.ifYes X0.here hx rfl (pc0 := 2) (pc' := 14) rfl (hb hby d6_2) rfl ((if0 _ _).trans (flt (by decide : ¬ ((0 : Int32) < (0 : Int32)))).2.2.2) (by decide) (by decide) kk) ?_
  show Gl p e below s _ _ _ s₁ (mkF m 14 #[.val (.ref a1)] [])
  refine Gl.st (fun _ kk => XS.aloadN X0.here hx rfl (hb hby d6_14) rfl rfl kk) ?_
  show Gl p e below s _ _ _ s₁ (mkF m 15 #[.val (.ref a1)] [(.ref a1)])
  obtain ⟨cl2, Ar2, q2, Sz2, Ng2, Ha2, Fi2⟩ := id Arv_a1
  refine Gl.st (fun _ kk => X0.arraylength hx (by rw [e0]; exact Ar2.1) (State.isArrayOf_alike hZ.alike Ar2.2.1) (g := (mkF m 15 #[.val (.ref a1)] [(.ref a1)])) rfl rfl (hb hby d6_15) _ kk) ?_
  rw [len_of Sz2 Ng2]
  show Gl p e below s _ _ _ s₁ (mkF m 16 #[.val (.ref a1)] [(.int (0 : Int32))])
  refine Gl.st (fun _ kk => XS.iconst X0.here hx rfl (hb hby d6_16) kk) ?_
  show Gl p e below s _ _ _ s₁ (mkF m 17 #[.val (.ref a1)] [(.int (1 : Int32)), (.int (0 : Int32))])
  refine Gl.st (fun _ kk => XS.icmpYes X0.here hx rfl (pc0 := 17) (pc' := 29) rfl (hb hby d6_17) rfl (flt (by decide : ¬ ((1 : Int32) < (0 : Int32)))).2.2.2 (by decide) (by decide) kk) ?_
  show Gl p e below s _ _ _ s₁ (mkF m 29 #[.val (.ref a1)] [])
  refine Gl.st (fun _ kk => XS.aloadN X0.here hx rfl (hb hby d6_29) rfl rfl kk) ?_
  show Gl p e below s _ _ _ s₁ (mkF m 30 #[.val (.ref a1)] [(.ref a1)])
  obtain ⟨cl3, Ar3, q3, Sz3, Ng3, Ha3, Fi3⟩ := id Arv_a1
  refine Gl.st (fun _ kk => X0.arraylength hx (by rw [e0]; exact Ar3.1) (State.isArrayOf_alike hZ.alike Ar3.2.1) (g := (mkF m 30 #[.val (.ref a1)] [(.ref a1)])) rfl rfl (hb hby d6_30) _ kk) ?_
  rw [len_of Sz3 Ng3]
  show Gl p e below s _ _ _ s₁ (mkF m 31 #[.val (.ref a1)] [(.int (0 : Int32))])
  refine Gl.st (fun _ kk => XS.iconst X0.here hx rfl (hb hby d6_31) kk) ?_
  show Gl p e below s _ _ _ s₁ (mkF m 32 #[.val (.ref a1)] [(.int (2 : Int32)), (.int (0 : Int32))])
  refine Gl.st (fun _ kk => XS.icmpYes X0.here hx rfl (pc0 := 32) (pc' := 44) rfl (hb hby d6_32) rfl (flt (by decide : ¬ ((2 : Int32) < (0 : Int32)))).2.2.2 (by decide) (by decide) kk) ?_
  show Gl p e below s _ _ _ s₁ (mkF m 44 #[.val (.ref a1)] [])
  exact Gl.ret X0 (v := none) (fun _ => rfl) (BodyLoose.notSynchronized Bd) (fun hr => X0.returnOut hx Bd.returns (hb hby d6_44) hr) e0 ⟨rfl, N0, (Keep.refl h0 [a1])⟩ (by decide) (by decide)
theorem d7_0 : decode prog_13_method_6_code 0 = .ok (.aload_n 0, 1) := by decide +kernel
theorem d7_1 : decode prog_13_method_6_code 1 = .ok (.getfield 13, 3) := by decide +kernel
theorem d7_4 : decode prog_13_method_6_code 4 = .ok (.ifnonnull 13, 3) := by decide +kernel
theorem d7_17 : decode prog_13_method_6_code 17 = .ok (.aload_n 0, 1) := by decide +kernel
theorem d7_18 : decode prog_13_method_6_code 18 = .ok (.getfield 13, 3) := by decide +kernel
theorem d7_21 : decode prog_13_method_6_code 21 = .ok (.invokevirtual 48, 3) := by decide +kernel
theorem d7_24 : decode prog_13_method_6_code 24 = .ok (.checkcast 49, 3) := by decide +kernel
theorem d7_27 : decode prog_13_method_6_code 27 = .ok (.areturn, 1) := by decide +kernel
theorem pn_rmG0 : plainName "com/example/tarry/tarry/Message" = true := by first | (simp [plainName, overriddenIn]; done) | decide +kernel
theorem ef_rmG0 (m : MethodId) (a1 : Addr) : entryFrame m #[(.ref a1)] 1 = mkF m 0 #[.val (.ref a1)] [] := by first | (simp [entryFrame, mkF, argsToLocals, Value.category]; done) | rfl
def Q_rmG0 (Z : State) (a1 : Addr) (t : Addr) (k1 : ClassId)  (h0 : Heap) (n0 : Nat) (v : Option Value) (h : Heap) (L : List Loc) : Prop := ∃ b, v = some (.ref b) ∧ Fr n0 L ∧ Keep h0 h [] ∧ Arv Z h b k1 .byte (0 : Int32) [] (.int 0) ∧ h0.size ≤ b
set_option maxRecDepth 65536 in
set_option maxHeartbeats 40000000 in
theorem rmG0 (l : Launch) (Z : State) (a0 : Array Value) (hw : ∀ d ∈ tables_1, d.before a0 Z = true) (ws : List Jvm.Cond) (a1 : Addr) (t : Addr) (k1 : ClassId)  (h0 : Heap) (n0 : Nat) (O0 : Old Z n0 h0) (F_bytes_a1 : Fld Z h0 a1 "com/example/tarry/tarry/Message" "bytes" "[B" (.ref t)) (Arv_t : Arv Z h0 t k1 .byte (0 : Int32) [] (.int 0)) (Exa_t : Exa Z h0 t "[B") :
    MetFree l (⟨"com/example/tarry/tarry/Message", "bytes", "()[B"⟩ : MethodName) (head1 (Jvm.Cond.code (⟨"com/example/tarry/tarry/Message", "bytes", "()[B"⟩ : MethodName) prog_13_method_6_code 1 (some (.array .byte)) :: ws) ({ frames := 1, cells := 1, slots := 0, locals := 14 } : Room)) (fun a U => a = #[(.ref a1)] ∧ Z.Warmed39 U.vm ∧ U.heap = h0) (fun _ _ _ _ _ => True) (fun _ U o U' => ∃ v L, o = .returned v ∧ Q_rmG0 Z a1 t k1  h0 n0 v U'.heap L ∧ FrameEnd U o U' L ({ frames := 1, cells := 1, slots := 0, locals := 14 } : Room).cells ({ frames := 1, cells := 1, slots := 0, locals := 14 } : Room).slots) := by
  refine MetFree.of_bodySF (plainFor_of_name pn_rmG0) hisR ?_
  intro p e s m args below meth c s₁ Bd hml0 hP hK
  obtain ⟨rfl, hZ, hh⟩ := hP
  have hx := Bd.exec
  have hby := Bd.bytes
  have hml : c.maxLocals = 1 := hml0
  have hown : s.vm.findClass "com/example/tarry/tarry/Message" = some m.cls := findClass_of_methodNamed Bd.named
  have hnm := (name_of_methodNamed Bd.named Bd.method).1
  have X0 : Stand p l e ({ frames := 1, cells := 1, slots := 0, locals := 14 } : Room) s m #[(.ref a1)] below meth c s₁ [] 0 0 := Stand.of_body Bd
  have e0 : s₁.heap = h0 := by rw [← hh, Bd.state]; rfl
  have N0 := Fr.nil n0
  refine Gl.start (Q := Q_rmG0 Z a1 t k1  h0 n0) (ef_rmG0 m a1) ?_
  show Gl p e below s _ _ _ s₁ (mkF m 0 #[.val (.ref a1)] [])
  refine Gl.st (fun _ kk => XS.aloadN X0.here hx rfl (hb hby d7_0) rfl rfl kk) ?_
  show Gl p e below s _ _ _ s₁ (mkF m 1 #[.val (.ref a1)] [(.ref a1)])
  obtain ⟨T1, X1, e1, st1⟩ := getF X0 hx hZ hown (host := "") (Or.inl (hw _ (List.mem_of_getElem? (i := 41) rfl))) Via.refl e0 F_bytes_a1 (g := (mkF m 1 #[.val (.ref a1)] [(.ref a1)])) rfl rfl (hb hby d7_1)
  refine Gl.st st1 ?_
  show Gl p e below s _ _ _ T1 (mkF m 4 #[.val (.ref a1)] [(.ref t)])
  refine Gl.st (fun _ kk => XS.ifnonnullYes X1.here hx rfl (pc0 := 4) (pc' := 17) rfl (hb hby d7_4) rfl (by decide) (by decide) kk) ?_
  show Gl p e below s _ _ _ T1 (mkF m 17 #[.val (.ref a1)] [])
  refine Gl.st (fun _ kk => XS.aloadN X1.here hx rfl (hb hby d7_17) rfl rfl kk) ?_
  show Gl p e below s _ _ _ T1 (mkF m 18 #[.val (.ref a1)] [(.ref a1)])
  obtain ⟨T2, X2, e2, st2⟩ := getF X1 hx hZ hown (host := "") (Or.inl (hw _ (List.mem_of_getElem? (i := 41) rfl))) Via.refl e1 F_bytes_a1 (g := (mkF m 18 #[.val (.ref a1)] [(.ref a1)])) rfl rfl (hb hby d7_18)
  refine Gl.st st2 ?_
  show Gl p e below s _ _ _ T2 (mkF m 21 #[.val (.ref a1)] [(.ref t)])
  obtain ⟨T3, h3, X3, e3, E3, A3, Ax3, st3⟩ := cloneH X2 hx hZ hown (hw _ (List.mem_of_getElem? (i := 18) rfl)) (hw _ (List.mem_of_getElem? (i := 19) rfl)) (hw _ (List.mem_of_getElem? (i := 23) rfl)) (hw _ (List.mem_of_getElem? (i := 21) rfl)) (hw _ (List.mem_of_getElem? (i := 22) rfl)) (hw _ (List.mem_of_getElem? (i := 24) rfl)) e2 (Arv.arh Arv_t) Exa_t (g := (mkF m 21 #[.val (.ref a1)] [(.ref t)])) rfl (by rw [hml]; rfl) rfl (hb hby d7_21) (by decide) (W := 0) (cap := 0) (by show 2 * 0 + _ ≤ _; exact Nat.le_of_eq rfl) (by decide) (by decide) (by decide) (by decide)
  obtain ⟨b3, g3⟩ : ∃ z, z = h0.size := ⟨_, rfl⟩
  rw [← g3] at A3 Ax3 st3
  refine Gl.st st3 ?_
  have ne_a1_b3 : a1 ≠ b3 := Nat.ne_of_lt (Nat.lt_of_lt_of_eq F_bytes_a1.lt g3.symm)
  have ne_t_b3 : t ≠ b3 := Nat.ne_of_lt (Nat.lt_of_lt_of_eq Arv_t.lt g3.symm)
  have ge_b3 : n0 ≤ b3 := Nat.le_trans (Nat.le_trans (Nat.le_of_eq O0.1.symm) O0.2.1) (Nat.le_of_eq g3.symm)
  have fr_b3 : h0.size ≤ b3 := Nat.le_trans (Nat.le_refl _) (Nat.le_of_eq g3.symm)
  have F_bytes_a1 := F_bytes_a1.ext E3
  have Arv_t := Arv_t.ext E3
  have Exa_t := Exa_t.ext E3
  have O3 := O0.ext E3
  have K3 := (Keep.refl h0 []).ext E3
  have Arv_b3 : Arv Z h3 b3 k1 .byte (0 : Int32) [] (.int (0 : Int32)) := A3
  have Exa_b3 := Ax3
  show Gl p e below s _ _ _ T3 (mkF m 24 #[.val (.ref a1)] [(.ref b3)])
  obtain ⟨T4, X4, e4, st4⟩ := castY X3 hx hZ hown (hw _ (List.mem_of_getElem? (i := 25) rfl)) e3 (Ins.self Exa_b3) (g := (mkF m 24 #[.val (.ref a1)] [(.ref b3)])) rfl rfl (hb hby d7_24)
  refine Gl.st st4 ?_
  show Gl p e below s _ _ _ T4 (mkF m 27 #[.val (.ref a1)] [(.ref b3)])
  exact Gl.ret X4 (v := (some (.ref b3))) (fun h => by rw [Bd.returns] at h; cases h) (BodyLoose.notSynchronized Bd) (fun hr => retOut X4 hx Bd.returns rfl (Or.inr (Or.inr (Or.inr (Or.inr ⟨rfl, rfl, rfl⟩)))) (hb hby d7_27) hr) e4 ⟨b3, rfl, N0, K3, Arv_b3, fr_b3⟩ (by decide) (by decide)
theorem d12_0 : decode method_4_code 0 = .ok (.aload_n 0, 1) := by decide +kernel
theorem d12_1 : decode method_4_code 1 = .ok (.arraylength, 1) := by decide +kernel
theorem d12_2 : decode method_4_code 2 = .ok (.iload_n 1, 1) := by decide +kernel
theorem d12_3 : decode method_4_code 3 = .ok (.if_icmp .eq 5, 3) := by decide +kernel
theorem d12_8 : decode method_4_code 8 = .ok (.iload_n 1, 1) := by decide +kernel
theorem d12_9 : decode method_4_code 9 = .ok (.ifCond .le 13, 3) := by decide +kernel
theorem d12_22 : decode method_4_code 22 = .ok (.iload_n 1, 1) := by decide +kernel
theorem d12_23 : decode method_4_code 23 = .ok (.iconst 1, 1) := by decide +kernel
theorem d12_24 : decode method_4_code 24 = .ok (.if_icmp .le 13, 3) := by decide +kernel
theorem d12_37 : decode method_4_code 37 = .ok (.iload_n 1, 1) := by decide +kernel
theorem d12_38 : decode method_4_code 38 = .ok (.iconst 2, 1) := by decide +kernel
theorem d12_39 : decode method_4_code 39 = .ok (.if_icmp .le 14, 3) := by decide +kernel
theorem d12_53 : decode method_4_code 53 = .ok (.iconst 1, 1) := by decide +kernel
theorem d12_54 : decode method_4_code 54 = .ok (.ireturn, 1) := by decide +kernel
theorem pn_rmS0 : plainName "com/example/tarry/tarry/MessageBytesPinLaw" = true := by first | (simp [plainName, overriddenIn]; done) | decide +kernel
theorem ef_rmS0 (m : MethodId) (a1 : Addr) (x0 : Int32) (x1 : Int32) (x2 : Int32) : entryFrame m #[(.ref a1), (.int (0 : Int32)), (.int x0), (.int x1), (.int x2)] 5 = mkF m 0 #[.val (.ref a1), .val (.int (0 : Int32)), .val (.int x0), .val (.int x1), .val (.int x2)] [] := by first | (simp [entryFrame, mkF, argsToLocals, Value.category]; done) | rfl
def Q_rmS0 (Z : State) (a1 : Addr) (x0 : Int32) (x1 : Int32) (x2 : Int32) (k1 : ClassId) (h0 : Heap) (n0 : Nat) (v : Option Value) (h : Heap) (L : List Loc) : Prop := v = some (.int 1) ∧ Fr n0 L ∧ h = h0
set_option maxRecDepth 65536 in
set_option maxHeartbeats 40000000 in
theorem rmS0 (l : Launch) (Z : State) (a0 : Array Value) (hw : ∀ d ∈ tables_1, d.before a0 Z = true) (ws : List Jvm.Cond) (a1 : Addr) (x0 : Int32) (x1 : Int32) (x2 : Int32) (k1 : ClassId) (h0 : Heap) (n0 : Nat) (O0 : Old Z n0 h0) (Arv_a1 : Arv Z h0 a1 k1 .byte (0 : Int32) [] (.int 0)) :
    MetFree l (⟨"com/example/tarry/tarry/MessageBytesPinLaw", "same", "([BIIII)Z"⟩ : MethodName) (head1 (Jvm.Cond.code (⟨"com/example/tarry/tarry/MessageBytesPinLaw", "same", "([BIIII)Z"⟩ : MethodName) method_4_code 5 (some .boolean) :: ws) ({ frames := 0, cells := 0, slots := 0, locals := 0 } : Room)) (fun a U => a = #[(.ref a1), (.int (0 : Int32)), (.int x0), (.int x1), (.int x2)] ∧ Z.Warmed39 U.vm ∧ U.heap = h0) (fun _ _ _ _ _ => True) (fun _ U o U' => ∃ v L, o = .returned v ∧ Q_rmS0 Z a1 x0 x1 x2 k1 h0 n0 v U'.heap L ∧ FrameEnd U o U' L ({ frames := 0, cells := 0, slots := 0, locals := 0 } : Room).cells ({ frames := 0, cells := 0, slots := 0, locals := 0 } : Room).slots) := by
  refine MetFree.of_bodySF (plainFor_of_name pn_rmS0) hisR ?_
  intro p e s m args below meth c s₁ Bd hml0 hP hK
  obtain ⟨rfl, hZ, hh⟩ := hP
  have hx := Bd.exec
  have hby := Bd.bytes
  have hml : c.maxLocals = 5 := hml0
  have hown : s.vm.findClass "com/example/tarry/tarry/MessageBytesPinLaw" = some m.cls := findClass_of_methodNamed Bd.named
  have hnm := (name_of_methodNamed Bd.named Bd.method).1
  have X0 : Stand p l e ({ frames := 0, cells := 0, slots := 0, locals := 0 } : Room) s m #[(.ref a1), (.int (0 : Int32)), (.int x0), (.int x1), (.int x2)] below meth c s₁ [] 0 0 := Stand.of_body Bd
  have e0 : s₁.heap = h0 := by rw [← hh, Bd.state]; rfl
  have N0 := Fr.nil n0
  refine Gl.start (Q := Q_rmS0 Z a1 x0 x1 x2 k1 h0 n0) (ef_rmS0 m a1 x0 x1 x2) ?_
  show Gl p e below s _ _ _ s₁ (mkF m 0 #[.val (.ref a1), .val (.int (0 : Int32)), .val (.int x0), .val (.int x1), .val (.int x2)] [])
  refine Gl.st (fun _ kk => XS.aloadN X0.here hx rfl (hb hby d12_0) rfl rfl kk) ?_
  show Gl p e below s _ _ _ s₁ (mkF m 1 #[.val (.ref a1), .val (.int (0 : Int32)), .val (.int x0), .val (.int x1), .val (.int x2)] [(.ref a1)])
  obtain ⟨cl1, Ar1, q1, Sz1, Ng1, Ha1, Fi1⟩ := id Arv_a1
  refine Gl.st (fun _ kk => X0.arraylength hx (by rw [e0]; exact Ar1.1) (State.isArrayOf_alike hZ.alike Ar1.2.1) (g := (mkF m 1 #[.val (.ref a1), .val (.int (0 : Int32)), .val (.int x0), .val (.int x1), .val (.int x2)] [(.ref a1)])) rfl rfl (hb hby d12_1) _ kk) ?_
  rw [len_of Sz1 Ng1]
  show Gl p e below s _ _ _ s₁ (mkF m 2 #[.val (.ref a1), .val (.int (0 : Int32)), .val (.int x0), .val (.int x1), .val (.int x2)] [(.int (0 : Int32))])
  refine Gl.st (fun _ kk => XS.iloadN X0.here hx rfl (hb hby d12_2) rfl kk) ?_
  show Gl p e below s _ _ _ s₁ (mkF m 3 #[.val (.ref a1), .val (.int (0 : Int32)), .val (.int x0), .val (.int x1), .val (.int x2)] [(.int (0 : Int32)), (.int (0 : Int32))])
  refine Gl.st (fun _ kk => XS.icmpYes X0.here hx rfl (pc0 := 3) (pc' := 8) rfl (hb hby d12_3) rfl (teq (by decide : (0 : Int32) = (0 : Int32))).1 (by decide) (by decide) kk) ?_
  show Gl p e below s _ _ _ s₁ (mkF m 8 #[.val (.ref a1), .val (.int (0 : Int32)), .val (.int x0), .val (.int x1), .val (.int x2)] [])
  refine Gl.st (fun _ kk => XS.iloadN X0.here hx rfl (hb hby d12_8) rfl kk) ?_
  show Gl p e below s _ _ _ s₁ (mkF m 9 #[.val (.ref a1), .val (.int (0 : Int32)), .val (.int x0), .val (.int x1), .val (.int x2)] [(.int (0 : Int32))])
  refine Gl.st (fun _ kk => XS.ifYes X0.here hx rfl (pc0 := 9) (pc' := 22) rfl (hb hby d12_9) rfl ((if0 _ _).trans (flt (by decide : ¬ ((0 : Int32) < (0 : Int32)))).2.2.2) (by decide) (by decide) kk) ?_
  show Gl p e below s _ _ _ s₁ (mkF m 22 #[.val (.ref a1), .val (.int (0 : Int32)), .val (.int x0), .val (.int x1), .val (.int x2)] [])
  refine Gl.st (fun _ kk => XS.iloadN X0.here hx rfl (hb hby d12_22) rfl kk) ?_
  show Gl p e below s _ _ _ s₁ (mkF m 23 #[.val (.ref a1), .val (.int (0 : Int32)), .val (.int x0), .val (.int x1), .val (.int x2)] [(.int (0 : Int32))])
  refine Gl.st (fun _ kk => XS.iconst X0.here hx rfl (hb hby d12_23) kk) ?_
  show Gl p e below s _ _ _ s₁ (mkF m 24 #[.val (.ref a1), .val (.int (0 : Int32)), .val (.int x0), .val (.int x1), .val (.int x2)] [(.int (1 : Int32)), (.int (0 : Int32))])
  refine Gl.st (fun _ kk => XS.icmpYes X0.here hx rfl (pc0 := 24) (pc' := 37) rfl (hb hby d12_24) rfl (flt (by decide : ¬ ((1 : Int32) < (0 : Int32)))).2.2.2 (by decide) (by decide) kk) ?_
  show Gl p e below s _ _ _ s₁ (mkF m 37 #[.val (.ref a1), .val (.int (0 : Int32)), .val (.int x0), .val (.int x1), .val (.int x2)] [])
  refine Gl.st (fun _ kk => XS.iloadN X0.here hx rfl (hb hby d12_37) rfl kk) ?_
  show Gl p e below s _ _ _ s₁ (mkF m 38 #[.val (.ref a1), .val (.int (0 : Int32)), .val (.int x0), .val (.int x1), .val (.int x2)] [(.int (0 : Int32))])
  refine Gl.st (fun _ kk => XS.iconst X0.here hx rfl (hb hby d12_38) kk) ?_
  show Gl p e below s _ _ _ s₁ (mkF m 39 #[.val (.ref a1), .val (.int (0 : Int32)), .val (.int x0), .val (.int x1), .val (.int x2)] [(.int (2 : Int32)), (.int (0 : Int32))])
  refine Gl.st (fun _ kk => XS.icmpYes X0.here hx rfl (pc0 := 39) (pc' := 53) rfl (hb hby d12_39) rfl (flt (by decide : ¬ ((2 : Int32) < (0 : Int32)))).2.2.2 (by decide) (by decide) kk) ?_
  show Gl p e below s _ _ _ s₁ (mkF m 53 #[.val (.ref a1), .val (.int (0 : Int32)), .val (.int x0), .val (.int x1), .val (.int x2)] [])
  refine Gl.st (fun _ kk => XS.iconst X0.here hx rfl (hb hby d12_53) kk) ?_
  show Gl p e below s _ _ _ s₁ (mkF m 54 #[.val (.ref a1), .val (.int (0 : Int32)), .val (.int x0), .val (.int x1), .val (.int x2)] [(.int (1 : Int32))])
  exact Gl.ret X0 (v := (some (.int (1 : Int32)))) (fun h => by rw [Bd.returns] at h; cases h) (BodyLoose.notSynchronized Bd) (fun hr => retN X0 hx (t := .boolean) Bd.returns (by simp) (hb hby d12_54) hr) e0 ⟨rfl, N0, rfl⟩ (by decide) (by decide)
theorem pd_rmB1_0 : parseMethodDescriptor "(Ljava/lang/Object;Ljava/lang/String;)Ljava/lang/Object;" = some ⟨[(.object "java/lang/Object"), (.object "java/lang/String")], some (.object "java/lang/Object")⟩ := by decide +kernel
theorem pd_rmB1_1 : parseMethodDescriptor "()Ljava/util/Map;" = some ⟨[], some (.object "java/util/Map")⟩ := by decide +kernel
theorem pd_rmB1_2 : parseMethodDescriptor "(Ljava/lang/String;[BLjava/util/Map;Ljava/lang/String;Ljava/lang/String;Ljava/lang/String;)V" = some ⟨[(.object "java/lang/String"), (.array .byte), (.object "java/util/Map"), (.object "java/lang/String"), (.object "java/lang/String"), (.object "java/lang/String")], none⟩ := by decide +kernel
theorem pn_rmB1 : plainName "com/example/tarry/tarry/Message" = true := by first | (simp [plainName, overriddenIn]; done) | decide +kernel
theorem ef_rmB1 (m : MethodId) (a1 : Addr) : entryFrame m #[(.ref a1)] 1 = mkF m 0 #[.val (.ref a1)] [] := by first | (simp [entryFrame, mkF, argsToLocals, Value.category]; done) | rfl
def Q_rmB1 (Z : State) (a1 : Addr) (k1 : ClassId) (x0 : Int32) (em : Addr) (h0 : Heap) (n0 : Nat) (v : Option Value) (h : Heap) (L : List Loc) : Prop := ∃ b t, v = some (.ref b) ∧ Fr n0 L ∧ Keep h0 h [] ∧ Exa Z h b "com/example/tarry/tarry/Message" ∧ Fld Z h b "com/example/tarry/tarry/Message" "text" "Ljava/lang/String;" .null ∧ Fld Z h b "com/example/tarry/tarry/Message" "bytes" "[B" (.ref t) ∧ Fld Z h b "com/example/tarry/tarry/Message" "headers" "Ljava/util/Map;" (.ref em) ∧ Fld Z h b "com/example/tarry/tarry/Message" "messageId" "Ljava/lang/String;" .null ∧ Fld Z h b "com/example/tarry/tarry/Message" "correlationId" "Ljava/lang/String;" .null ∧ Fld Z h b "com/example/tarry/tarry/Message" "replyTo" "Ljava/lang/String;" .null ∧ Arv Z h t k1 .byte (1 : Int32) [(.int (x0.toInt8.toInt32))] (.int 0) ∧ Exa Z h t "[B" ∧ h0.size ≤ b ∧ h0.size ≤ t ∧ b ≠ t
set_option maxRecDepth 65536 in
set_option maxHeartbeats 40000000 in
theorem rmB1 (l : Launch) (Z : State) (a0 : Array Value) (hw : ∀ d ∈ tables_1, d.before a0 Z = true) (ws : List Jvm.Cond) (a1 : Addr) (k1 : ClassId) (x0 : Int32) (em : Addr) (h0 : Heap) (n0 : Nat) (O0 : Old Z n0 h0) (Arv_a1 : Arv Z h0 a1 k1 .byte (1 : Int32) [(.int (x0.toInt8.toInt32))] (.int 0)) (Exa_a1 : Exa Z h0 a1 "[B") (S_EM : Sta Z Z.heap "java/util/ImmutableCollections" "EMPTY_MAP" "Ljava/util/ImmutableCollections$MapN;" (.ref em)) :
    MetFree l (⟨"com/example/tarry/tarry/Message", "bytes", "([B)Lcom/example/tarry/tarry/Message;"⟩ : MethodName) (head1 (Jvm.Cond.code (⟨"com/example/tarry/tarry/Message", "bytes", "([B)Lcom/example/tarry/tarry/Message;"⟩ : MethodName) prog_13_method_3_code 1 (some (.object "com/example/tarry/tarry/Message")) :: ws) ({ frames := 2, cells := 4, slots := 27, locals := 31 } : Room)) (fun a U => a = #[(.ref a1)] ∧ Z.Warmed39 U.vm ∧ U.heap = h0 ∧ CHv Z ([] : List (String × Nat)) U.vm h0) (fun _ _ _ _ _ => True) (fun _ U o U' => ∃ v L, o = .returned v ∧ Q_rmB1 Z a1 k1 x0 em h0 n0 v U'.heap L ∧ CHr Z ([] : List (String × Nat)) U.vm U.heap U'.vm U'.heap ∧ ReturnedEndW U o U' L ({ frames := 2, cells := 4, slots := 27, locals := 31 } : Room).cells ({ frames := 2, cells := 4, slots := 27, locals := 31 } : Room).slots) := by
  refine MetFree.of_bodySF (plainFor_of_name pn_rmB1) hisR ?_
  intro p e s m args below meth c s₁ Bd hml0 hP hK
  obtain ⟨rfl, hZ, hh, H0⟩ := hP
  have hx := Bd.exec
  have hby := Bd.bytes
  have hml : c.maxLocals = 1 := hml0
  have hown : s.vm.findClass "com/example/tarry/tarry/Message" = some m.cls := findClass_of_methodNamed Bd.named
  have hnm := (name_of_methodNamed Bd.named Bd.method).1
  have X0 : Stand p l e ({ frames := 2, cells := 4, slots := 27, locals := 31 } : Room) (s.setVm s.vm) m #[(.ref a1)] below meth c s₁ [] 0 0 := Stand.of_body Bd
  have e0 : s₁.heap = h0 := by rw [← hh, Bd.state]; rfl
  have N0 := Fr.nil n0
  have hS0 : s.Since s.vm 0 := (State.WarmedH.refl s).since 0
  have hk0 : 0 ≤ h0.size := Nat.zero_le _
  have HC0 : CHr Z ([] : List (String × Nat)) s.vm h0 s.vm h0 := CHr.refl H0
  have hh0 : s.heap = h0 := hh
  refine GlW.start (Q := Q_rmB1 Z a1 k1 x0 em h0 n0) (ef_rmB1 m a1) ?_
  have hEL : EW Z a0 ([] : List (String × Nat)) := EW.nil
  have hwS : ∀ a ∈ Bundle.stringAtoms, a.before a0 Z = true := fun d hd => hw d ((by decide +kernel : ∀ d ∈ Bundle.stringAtoms, d ∈ tables_1) d hd)
  show GlW Z ([] : List (String × Nat)) p e below s _ _ _ s₁ (mkF m 0 #[.val (.ref a1)] [])
  refine GlW.st (fun _ kk => XS.aloadN X0.here hx rfl (hb hby d1_0) rfl rfl kk) ?_
  show GlW Z ([] : List (String × Nat)) p e below s _ _ _ s₁ (mkF m 1 #[.val (.ref a1)] [(.ref a1)])
  obtain ⟨la1, T1, h1, kn1, X1, e1, E1, hS1, hk1, hZ1, hown1, HR1, Li1, st1⟩ := ldcOH X0 hx hZ hown (hw _ (List.mem_of_getElem? (i := 5) rfl)) hwS e0 hS0 hk0 hEL HC0.1 (g := (mkF m 1 #[.val (.ref a1)] [(.ref a1)])) rfl (hb hby d1_1) (n := 16) (by decide) (by decide) (by decide) (by decide)
  refine GlW.st st1 ?_
  have Arv_a1 := Arv_a1.ext E1
  have Exa_a1 := Exa_a1.ext E1
  have O1 := O0.ext E1
  have K1 := (Keep.refl h0 []).ext E1
  have HC1 := HC0.trans HR1
  have hZ := hZ1
  have hown := hown1
  show GlW Z ([] : List (String × Nat)) p e below s _ _ _ T1 (mkF m 3 #[.val (.ref a1)] [(.ref la1), (.ref a1)])
  obtain ⟨v2, _, ⟨T2, L2, kQ2, nQ2⟩, -, X2, ⟨Lc2, hQ2, l2, y2, z2⟩, st2⟩ := Jvm.LawKit.callS X1 hx (y := (⟨"java/util/Objects", "requireNonNull", "(Ljava/lang/Object;Ljava/lang/String;)Ljava/lang/Object;"⟩ : MethodName)) hown (mvT hZ (hw _ (List.mem_of_getElem? (i := 12) rfl))) (mvT hZ (hw _ (List.mem_of_getElem? (i := 13) rfl))) (mvT hZ (hw _ (List.mem_of_getElem? (i := 14) rfl))) (mvT hZ (hw _ (List.mem_of_getElem? (i := 15) rfl))) (by decide) (backOf (W := 0) (rmRN l Z a0 hw [] a1 la1 h1 n0 O1) hZ (hw _ (List.mem_of_getElem? (i := 15) rfl)) (hw _ (List.mem_of_getElem? (i := 14) rfl)) (by decide) (by decide)) (g := (mkF m 3 #[.val (.ref a1)] [(.ref la1), (.ref a1)])) rfl (by rw [hml]; rfl) (argsL := [(.ref a1), (.ref la1)]) (rest := []) (lenOf pd_rmB1_0 rfl) rfl (by show 2 * 0 + _ ≤ _; exact Nat.le_of_eq rfl) (hb hby d1_3) (fun _ _ => ⟨rfl, e1, (by decide : 2 + 0 ≤ _), (by decide : 20 + 0 ≤ _)⟩)
  dsimp only [Pt.U, Pt.locs, Pt.cells, Pt.slots] at X2 l2 y2 z2 st2 hQ2
  subst l2 y2 z2
  obtain ⟨rfl, Nq2, e2⟩ := hQ2
  have N2 := Fr.app N0 Nq2
  refine GlW.st st2 ?_
  show GlW Z ([] : List (String × Nat)) p e below s _ _ _ T2 (mkF m 6 #[.val (.ref a1)] [(.ref a1)])
  refine GlW.st (fun _ kk => XS.pop X2.here hx rfl (hb hby d1_6) rfl rfl kk) ?_
  show GlW Z ([] : List (String × Nat)) p e below s _ _ _ T2 (mkF m 7 #[.val (.ref a1)] [])
  obtain ⟨T3, h3, X3, e3, E3, A3, D3, V3, st3⟩ := newO X2 hx hZ hown (hw _ (List.mem_of_getElem? (i := 16) rfl)) (hw _ (List.mem_of_getElem? (i := 17) rfl)) (hw _ (List.mem_of_getElem? (i := 3) rfl)) e2 (g := (mkF m 7 #[.val (.ref a1)] [])) rfl (hb hby d1_7) (by decide) (by decide)
  obtain ⟨b3, g3⟩ : ∃ z, z = h1.size := ⟨_, rfl⟩
  rw [← g3] at A3 D3 V3 st3
  refine GlW.st st3 ?_
  have ne_a1_b3 : a1 ≠ b3 := Nat.ne_of_lt (Nat.lt_of_lt_of_eq Arv_a1.lt g3.symm)
  have ge_b3 : n0 ≤ b3 := Nat.le_trans (Nat.le_trans (Nat.le_of_eq O1.1.symm) O1.2.1) (Nat.le_of_eq g3.symm)
  have fr_b3 : h0.size ≤ b3 := Nat.le_trans K1.1 (Nat.le_of_eq g3.symm)
  have HC3 := HC1.trans (CHr.ext E3 HC1.1)
  have hk3 := Nat.le_trans hk1 E3.1
  have Arv_a1 := Arv_a1.ext E3
  have Exa_a1 := Exa_a1.ext E3
  have O3 := O1.ext E3
  have K3 := K1.ext E3
  have Exa_b3 := A3
  have F_text_b3 : Fld Z h3 b3 "com/example/tarry/tarry/Message" "text" "Ljava/lang/String;" .null := D3 (Or.inr (hw _ (List.mem_of_getElem? (i := 40) rfl))) (ty := (.object "java/lang/String")) (by decide)
  have F_bytes_b3 : Fld Z h3 b3 "com/example/tarry/tarry/Message" "bytes" "[B" .null := D3 (Or.inr (hw _ (List.mem_of_getElem? (i := 42) rfl))) (ty := (.array .byte)) (by decide)
  have F_headers_b3 : Fld Z h3 b3 "com/example/tarry/tarry/Message" "headers" "Ljava/util/Map;" .null := D3 (Or.inr (hw _ (List.mem_of_getElem? (i := 44) rfl))) (ty := (.object "java/util/Map")) (by decide)
  have F_messageId_b3 : Fld Z h3 b3 "com/example/tarry/tarry/Message" "messageId" "Ljava/lang/String;" .null := D3 (Or.inr (hw _ (List.mem_of_getElem? (i := 46) rfl))) (ty := (.object "java/lang/String")) (by decide)
  have F_correlationId_b3 : Fld Z h3 b3 "com/example/tarry/tarry/Message" "correlationId" "Ljava/lang/String;" .null := D3 (Or.inr (hw _ (List.mem_of_getElem? (i := 48) rfl))) (ty := (.object "java/lang/String")) (by decide)
  have F_replyTo_b3 : Fld Z h3 b3 "com/example/tarry/tarry/Message" "replyTo" "Ljava/lang/String;" .null := D3 (Or.inr (hw _ (List.mem_of_getElem? (i := 50) rfl))) (ty := (.object "java/lang/String")) (by decide)
  show GlW Z ([] : List (String × Nat)) p e below s _ _ _ T3 (mkF m 10 #[.val (.ref a1)] [(.ref b3)])
  refine GlW.st (fun _ kk => XS.dup X3.here hx rfl (hb hby d1_10) rfl rfl kk) ?_
  show GlW Z ([] : List (String × Nat)) p e below s _ _ _ T3 (mkF m 11 #[.val (.ref a1)] [(.ref b3), (.ref b3)])
  refine GlW.st (fun _ kk => XS.aconstNull X3.here hx rfl (hb hby d1_11) kk) ?_
  show GlW Z ([] : List (String × Nat)) p e below s _ _ _ T3 (mkF m 12 #[.val (.ref a1)] [.null, (.ref b3), (.ref b3)])
  refine GlW.st (fun _ kk => XS.aloadN X3.here hx rfl (hb hby d1_12) rfl rfl kk) ?_
  show GlW Z ([] : List (String × Nat)) p e below s _ _ _ T3 (mkF m 13 #[.val (.ref a1)] [(.ref a1), .null, (.ref b3), (.ref b3)])
  obtain ⟨T4, h4, X4, e4, E4, A4, Ax4, st4⟩ := cloneH X3 hx hZ hown (hw _ (List.mem_of_getElem? (i := 18) rfl)) (hw _ (List.mem_of_getElem? (i := 19) rfl)) (hw _ (List.mem_of_getElem? (i := 23) rfl)) (hw _ (List.mem_of_getElem? (i := 21) rfl)) (hw _ (List.mem_of_getElem? (i := 22) rfl)) (hw _ (List.mem_of_getElem? (i := 24) rfl)) e3 (Arv.arh Arv_a1) Exa_a1 (g := (mkF m 13 #[.val (.ref a1)] [(.ref a1), .null, (.ref b3), (.ref b3)])) rfl (by rw [hml]; rfl) rfl (hb hby d1_13) (by decide) (W := 3) (cap := 1) (by show 2 * 0 + _ ≤ _; exact Nat.le_of_eq rfl) (by decide) (by decide) (by decide) (by decide)
  obtain ⟨b4, g4⟩ : ∃ z, z = h3.size := ⟨_, rfl⟩
  rw [← g4] at A4 Ax4 st4
  refine GlW.st st4 ?_
  have ne_a1_b4 : a1 ≠ b4 := Nat.ne_of_lt (Nat.lt_of_lt_of_eq Arv_a1.lt g4.symm)
  have ne_b3_b4 : b3 ≠ b4 := Nat.ne_of_lt (Nat.lt_of_lt_of_eq Exa_b3.lt g4.symm)
  have ge_b4 : n0 ≤ b4 := Nat.le_trans (Nat.le_trans (Nat.le_of_eq O3.1.symm) O3.2.1) (Nat.le_of_eq g4.symm)
  have fr_b4 : h0.size ≤ b4 := Nat.le_trans K3.1 (Nat.le_of_eq g4.symm)
  have Sf_b4 : Safe Z ([] : List (String × Nat)) T1.vm h3 b4 := Safe.new (Nat.le_of_eq g4.symm)
  have Sf_b4 := Safe.ext E4 HC3.1 Sf_b4
  have HC4 := HC3.trans (CHr.ext E4 HC3.1)
  have hk4 := Nat.le_trans hk3 E4.1
  have Arv_a1 := Arv_a1.ext E4
  have Exa_a1 := Exa_a1.ext E4
  have Exa_b3 := Exa_b3.ext E4
  have F_text_b3 := F_text_b3.ext E4
  have F_bytes_b3 := F_bytes_b3.ext E4
  have F_headers_b3 := F_headers_b3.ext E4
  have F_messageId_b3 := F_messageId_b3.ext E4
  have F_correlationId_b3 := F_correlationId_b3.ext E4
  have F_replyTo_b3 := F_replyTo_b3.ext E4
  have O4 := O3.ext E4
  have K4 := K3.ext E4
  have Arv_b4 : Arv Z h4 b4 k1 .byte (1 : Int32) [(.int (x0.toInt8.toInt32))] (.int (0 : Int32)) := A4
  have Exa_b4 := Ax4
  show GlW Z ([] : List (String × Nat)) p e below s _ _ _ T4 (mkF m 16 #[.val (.ref a1)] [(.ref b4), .null, (.ref b3), (.ref b3)])
  obtain ⟨T5, X5, e5, st5⟩ := castY X4 hx hZ hown (hw _ (List.mem_of_getElem? (i := 25) rfl)) e4 (Ins.self Exa_b4) (g := (mkF m 16 #[.val (.ref a1)] [(.ref b4), .null, (.ref b3), (.ref b3)])) rfl rfl (hb hby d1_16)
  refine GlW.st st5 ?_
  show GlW Z ([] : List (String × Nat)) p e below s _ _ _ T5 (mkF m 19 #[.val (.ref a1)] [(.ref b4), .null, (.ref b3), (.ref b3)])
  obtain ⟨v6, _, ⟨T6, L6, kQ6, nQ6⟩, -, X6, ⟨Lc6, hQ6, l6, y6, z6⟩, st6⟩ := Jvm.LawKit.callS X5 hx (y := (⟨"java/util/Map", "of", "()Ljava/util/Map;"⟩ : MethodName)) hown (mvT hZ (hw _ (List.mem_of_getElem? (i := 27) rfl))) (mvT hZ (hw _ (List.mem_of_getElem? (i := 28) rfl))) (mvT hZ (hw _ (List.mem_of_getElem? (i := 29) rfl))) (mvT hZ (hw _ (List.mem_of_getElem? (i := 30) rfl))) (by decide) (backOf (W := 4) (rmMO l Z a0 hw [] em h4 n0 O4 S_EM) hZ (hw _ (List.mem_of_getElem? (i := 30) rfl)) (hw _ (List.mem_of_getElem? (i := 29) rfl)) (by decide) (by decide)) (g := (mkF m 19 #[.val (.ref a1)] [(.ref b4), .null, (.ref b3), (.ref b3)])) rfl (by rw [hml]; rfl) (argsL := []) (rest := [(.ref b4), .null, (.ref b3), (.ref b3)]) (lenOf pd_rmB1_1 rfl) rfl (by show 2 * 0 + _ ≤ _; exact Nat.le_of_eq rfl) (hb hby d1_19) (fun _ _ => ⟨rfl, e5, (by decide : 4 + 0 ≤ _), (by decide : 27 + 0 ≤ _)⟩)
  dsimp only [Pt.U, Pt.locs, Pt.cells, Pt.slots] at X6 l6 y6 z6 st6 hQ6
  subst l6 y6 z6
  obtain ⟨rfl, Nq6, e6⟩ := hQ6
  have N6 := Fr.app N2 Nq6
  refine GlW.st st6 ?_
  show GlW Z ([] : List (String × Nat)) p e below s _ _ _ T6 (mkF m 22 #[.val (.ref a1)] [(.ref em), (.ref b4), .null, (.ref b3), (.ref b3)])
  refine GlW.st (fun _ kk => XS.aconstNull X6.here hx rfl (hb hby d1_22) kk) ?_
  show GlW Z ([] : List (String × Nat)) p e below s _ _ _ T6 (mkF m 23 #[.val (.ref a1)] [.null, (.ref em), (.ref b4), .null, (.ref b3), (.ref b3)])
  refine GlW.st (fun _ kk => XS.aconstNull X6.here hx rfl (hb hby d1_23) kk) ?_
  show GlW Z ([] : List (String × Nat)) p e below s _ _ _ T6 (mkF m 24 #[.val (.ref a1)] [.null, .null, (.ref em), (.ref b4), .null, (.ref b3), (.ref b3)])
  refine GlW.st (fun _ kk => XS.aconstNull X6.here hx rfl (hb hby d1_24) kk) ?_
  show GlW Z ([] : List (String × Nat)) p e below s _ _ _ T6 (mkF m 25 #[.val (.ref a1)] [.null, .null, .null, (.ref em), (.ref b4), .null, (.ref b3), (.ref b3)])
  obtain ⟨v7, _, ⟨T7, L7, kQ7, nQ7⟩, -, X7, ⟨Lc7, hQ7, l7, y7, z7⟩, st7⟩ := X6.specialBack hx (y := (⟨"com/example/tarry/tarry/Message", "<init>", "(Ljava/lang/String;[BLjava/util/Map;Ljava/lang/String;Ljava/lang/String;Ljava/lang/String;)V"⟩ : MethodName)) rfl hown (mvT hZ (hw _ (List.mem_of_getElem? (i := 33) rfl))) (mvT hZ (hw _ (List.mem_of_getElem? (i := 34) rfl))) (mvT hZ (hw _ (List.mem_of_getElem? (i := 35) rfl))) (by decide) (backOf (W := 1) (rmI l Z a0 hw [] b3 b4 em h4 n0 O4 Exa_b3 F_text_b3 F_bytes_b3 F_headers_b3 F_messageId_b3 F_correlationId_b3 F_replyTo_b3 ge_b3) hZ (hw _ (List.mem_of_getElem? (i := 35) rfl)) (hw _ (List.mem_of_getElem? (i := 3) rfl)) (by decide) (by decide)) (g := (mkF m 25 #[.val (.ref a1)] [.null, .null, .null, (.ref em), (.ref b4), .null, (.ref b3), (.ref b3)])) rfl (by rw [hml]; rfl) (Steps.refl _) (a := b3) (argsL := [.null, (.ref b4), (.ref em), .null, .null, .null]) (rest := [(.ref b3)]) (lenOf pd_rmB1_2 rfl) rfl (by show 2 * 0 + _ ≤ _; exact Nat.le_of_eq rfl) (hb hby d1_25) (fun _ _ => ⟨rfl, e6, (by decide : 4 + 0 ≤ _), (by decide : 27 + 0 ≤ _)⟩)
  dsimp only [Pt.U, Pt.locs, Pt.cells, Pt.slots] at X7 l7 y7 z7 st7 hQ7
  subst l7 y7 z7
  obtain ⟨h7, e7⟩ : ∃ z, T7.heap = z := ⟨_, rfl⟩
  rw [e7] at hQ7
  obtain ⟨rfl, Nq7, Kq7, F_text_q7, F_bytes_q7, F_headers_q7, F_messageId_q7, F_correlationId_q7, F_replyTo_q7⟩ := hQ7
  have N7 := Fr.app N6 Nq7
  refine GlW.st (fun _ kk => st7.trans kk) ?_
  have sfk7 : ∀ x ∈ [b3], Safe Z ([] : List (String × Nat)) _ _ x := (allS (Safe.exa hZ.alike Exa_b3 (by decide) (by decide)) all0)
  have Sf_b4 := Safe.keep Kq7 sfk7 HC4.1 Sf_b4
  have HC7 := HC4.trans (CHr.keep Kq7 sfk7 HC4.1)
  have hk7 := Nat.le_trans hk4 Kq7.1
  have Arv_a1 := Arv_a1.keep Kq7 (ninS ne_a1_b3 nin0)
  have Exa_a1 := Exa_a1.keep Kq7
  have Exa_b3 := Exa_b3.keep Kq7
  have Arv_b4 := Arv_b4.keep Kq7 (ninS (Ne.symm ne_b3_b4) nin0)
  have Exa_b4 := Exa_b4.keep Kq7
  have O7 := O4.keep Kq7 (allS ge_b3 all0)
  have K7 := K4.trans Kq7 (allS (Or.inr fr_b3) all0)
  have F_text_b3 := F_text_q7
  have F_bytes_b3 := F_bytes_q7
  have F_headers_b3 := F_headers_q7
  have F_messageId_b3 := F_messageId_q7
  have F_correlationId_b3 := F_correlationId_q7
  have F_replyTo_b3 := F_replyTo_q7
  show GlW Z ([] : List (String × Nat)) p e below s _ _ _ T7 (mkF m 28 #[.val (.ref a1)] [(.ref b3)])
  exact GlW.ret X7 hS1 hk7 hZ hEL hh0 HC7 (v := (some (.ref b3))) (fun h => by rw [Bd.returns] at h; cases h) (BodyLoose.notSynchronized Bd) (fun hr => retOut X7 hx Bd.returns rfl (Or.inr (Or.inr (Or.inr (Or.inr ⟨rfl, rfl, rfl⟩)))) (hb hby d1_28) hr) e7 ⟨b3, b4, rfl, N7, K7, Exa_b3, F_text_b3, F_bytes_b3, F_headers_b3, F_messageId_b3, F_correlationId_b3, F_replyTo_b3, Arv_b4, Exa_b4, fr_b3, fr_b4, Ne.symm (Ne.symm ne_b3_b4)⟩ (by decide) (by decide)
theorem d6_5 : decode method_3_code 5 = .ok (.aload_n 0, 1) := by decide +kernel
theorem d6_6 : decode method_3_code 6 = .ok (.iconst 0, 1) := by decide +kernel
theorem d6_7 : decode method_3_code 7 = .ok (.aload_n 0, 1) := by decide +kernel
theorem d6_8 : decode method_3_code 8 = .ok (.iconst 0, 1) := by decide +kernel
theorem d6_9 : decode method_3_code 9 = .ok (.baload, 1) := by decide +kernel
theorem d6_10 : decode method_3_code 10 = .ok (.iconst (-1), 1) := by decide +kernel
theorem d6_11 : decode method_3_code 11 = .ok (.ixor, 1) := by decide +kernel
theorem d6_12 : decode method_3_code 12 = .ok (.i2b, 1) := by decide +kernel
theorem d6_13 : decode method_3_code 13 = .ok (.bastore, 1) := by decide +kernel
theorem pn_rmF1 : plainName "com/example/tarry/tarry/MessageBytesPinLaw" = true := by first | (simp [plainName, overriddenIn]; done) | decide +kernel
theorem ef_rmF1 (m : MethodId) (a1 : Addr) : entryFrame m #[(.ref a1)] 1 = mkF m 0 #[.val (.ref a1)] [] := by first | (simp [entryFrame, mkF, argsToLocals, Value.category]; done) | rfl
def Q_rmF1 (Z : State) (a1 : Addr) (k1 : ClassId) (x0 : Int32) (h0 : Heap) (n0 : Nat) (v : Option Value) (h : Heap) (L : List Loc) : Prop := v = none ∧ Fr n0 L ∧ Keep h0 h [a1]
set_option maxRecDepth 65536 in
set_option maxHeartbeats 40000000 in
theorem rmF1 (l : Launch) (Z : State) (a0 : Array Value) (hw : ∀ d ∈ tables_1, d.before a0 Z = true) (ws : List Jvm.Cond) (a1 : Addr) (k1 : ClassId) (x0 : Int32) (h0 : Heap) (n0 : Nat) (O0 : Old Z n0 h0) (Arv_a1 : Arv Z h0 a1 k1 .byte (1 : Int32) [(.int (x0.toInt8.toInt32))] (.int 0)) (g1 : n0 ≤ a1) :
    MetFree l (⟨"com/example/tarry/tarry/MessageBytesPinLaw", "flip", "([B)V"⟩ : MethodName) (head1 (Jvm.Cond.code (⟨"com/example/tarry/tarry/MessageBytesPinLaw", "flip", "([B)V"⟩ : MethodName) method_3_code 1 none :: ws) ({ frames := 0, cells := 0, slots := 0, locals := 0 } : Room)) (fun a U => a = #[(.ref a1)] ∧ Z.Warmed39 U.vm ∧ U.heap = h0) (fun _ _ _ _ _ => True) (fun _ U o U' => ∃ v L, o = .returned v ∧ Q_rmF1 Z a1 k1 x0 h0 n0 v U'.heap L ∧ FrameEnd U o U' L ({ frames := 0, cells := 0, slots := 0, locals := 0 } : Room).cells ({ frames := 0, cells := 0, slots := 0, locals := 0 } : Room).slots) := by
  refine MetFree.of_bodySF (plainFor_of_name pn_rmF1) hisR ?_
  intro p e s m args below meth c s₁ Bd hml0 hP hK
  obtain ⟨rfl, hZ, hh⟩ := hP
  have hx := Bd.exec
  have hby := Bd.bytes
  have hml : c.maxLocals = 1 := hml0
  have hown : s.vm.findClass "com/example/tarry/tarry/MessageBytesPinLaw" = some m.cls := findClass_of_methodNamed Bd.named
  have hnm := (name_of_methodNamed Bd.named Bd.method).1
  have X0 : Stand p l e ({ frames := 0, cells := 0, slots := 0, locals := 0 } : Room) s m #[(.ref a1)] below meth c s₁ [] 0 0 := Stand.of_body Bd
  have e0 : s₁.heap = h0 := by rw [← hh, Bd.state]; rfl
  have N0 := Fr.nil n0
  refine Gl.start (Q := Q_rmF1 Z a1 k1 x0 h0 n0) (ef_rmF1 m a1) ?_
  show Gl p e below s _ _ _ s₁ (mkF m 0 #[.val (.ref a1)] [])
  refine Gl.st (fun _ kk => XS.aloadN X0.here hx rfl (hb hby d6_0) rfl rfl kk) ?_
  show Gl p e below s _ _ _ s₁ (mkF m 1 #[.val (.ref a1)] [(.ref a1)])
  obtain ⟨cl1, Ar1, q1, Sz1, Ng1, Ha1, Fi1⟩ := id Arv_a1
  refine Gl.st (fun _ kk => X0.arraylength hx (by rw [e0]; exact Ar1.1) (State.isArrayOf_alike hZ.alike Ar1.2.1) (g := (mkF m 1 #[.val (.ref a1)] [(.ref a1)])) rfl rfl (hb hby d6_1) _ kk) ?_
  rw [len_of Sz1 Ng1]
  show Gl p e below s _ _ _ s₁ (mkF m 2 #[.val (.ref a1)] [(.int (1 : Int32))])
  refine Gl.st (fun _ kk => XS.ifNo X0.here hx rfl (hb hby d6_2) rfl ((if0 _ _).trans (tlt (by decide : (0 : Int32) < (1 : Int32))).2.2.2) kk) ?_
  show Gl p e below s _ _ _ s₁ (mkF m 5 #[.val (.ref a1)] [])
  refine Gl.st (fun _ kk => XS.aloadN X0.here hx rfl (hb hby d6_5) rfl rfl kk) ?_
  show Gl p e below s _ _ _ s₁ (mkF m 6 #[.val (.ref a1)] [(.ref a1)])
  refine Gl.st (fun _ kk => XS.iconst X0.here hx rfl (hb hby d6_6) kk) ?_
  show Gl p e below s _ _ _ s₁ (mkF m 7 #[.val (.ref a1)] [(.int (0 : Int32)), (.ref a1)])
  refine Gl.st (fun _ kk => XS.aloadN X0.here hx rfl (hb hby d6_7) rfl rfl kk) ?_
  show Gl p e below s _ _ _ s₁ (mkF m 8 #[.val (.ref a1)] [(.ref a1), (.int (0 : Int32)), (.ref a1)])
  refine Gl.st (fun _ kk => XS.iconst X0.here hx rfl (hb hby d6_8) kk) ?_
  show Gl p e below s _ _ _ s₁ (mkF m 9 #[.val (.ref a1)] [(.int (0 : Int32)), (.ref a1), (.int (0 : Int32)), (.ref a1)])
  obtain ⟨cl2, Ar2, q2, Sz2, Ng2, Ha2, Fi2⟩ := id Arv_a1
  have hin2 : ¬ ((0 : Int32) < 0 ∨ cl2.slots.size ≤ ((0 : Int32)).toNatClampNeg) := inb_of Sz2 ⟨by decide, by decide⟩
  have hat2 : cl2.slots[((0 : Int32)).toNatClampNeg]? = some (.int (x0.toInt8.toInt32)) := Ha2.at hin2 rfl
  refine Gl.st (fun _ kk => X0.baloadBytes hx (j := (0 : Int32)) (v := (.int (x0.toInt8.toInt32))) (by rw [e0]; exact Ar2.1) (State.isArrayOf_alike hZ.alike Ar2.2.1) Ar2.2.2 hin2 hat2 (g := (mkF m 9 #[.val (.ref a1)] [(.int (0 : Int32)), (.ref a1), (.int (0 : Int32)), (.ref a1)])) rfl rfl (hb hby d6_9) _ kk) ?_
  show Gl p e below s _ _ _ s₁ (mkF m 10 #[.val (.ref a1)] [(.int (x0.toInt8.toInt32)), (.int (0 : Int32)), (.ref a1)])
  refine Gl.st (fun _ kk => XS.iconst X0.here hx rfl (hb hby d6_10) kk) ?_
  show Gl p e below s _ _ _ s₁ (mkF m 11 #[.val (.ref a1)] [(.int (-1 : Int32)), (.int (x0.toInt8.toInt32)), (.int (0 : Int32)), (.ref a1)])
  refine Gl.st (fun _ kk => XS.ixor X0.here hx rfl (hb hby d6_11) rfl kk) ?_
  show Gl p e below s _ _ _ s₁ (mkF m 12 #[.val (.ref a1)] [(.int ((x0.toInt8.toInt32) ^^^ (-1 : Int32))), (.int (0 : Int32)), (.ref a1)])
  refine Gl.st (fun _ kk => XS.i2b X0.here hx rfl (hb hby d6_12) rfl kk) ?_
  show Gl p e below s _ _ _ s₁ (mkF m 13 #[.val (.ref a1)] [(.int (((x0.toInt8.toInt32) ^^^ (-1 : Int32)).toInt8.toInt32)), (.int (0 : Int32)), (.ref a1)])
  obtain ⟨cl3, Ar3, q3, Sz3, Ng3, Ha3, Fi3⟩ := id Arv_a1
  have hin3 : ¬ ((0 : Int32) < 0 ∨ cl3.slots.size ≤ ((0 : Int32)).toNatClampNeg) := inb_of Sz3 ⟨by decide, by decide⟩
  obtain ⟨T3, h3, X3, e3, W3, st3⟩ := stB X0 hx hZ e0 Ar3 (j := (0 : Int32)) hin3 (g := (mkF m 13 #[.val (.ref a1)] [(.int (((x0.toInt8.toInt32) ^^^ (-1 : Int32)).toInt8.toInt32)), (.int (0 : Int32)), (.ref a1)])) rfl rfl (hb hby d6_13)
  refine Gl.st st3 ?_
  have Arv_a1 : Arv Z h3 a1 k1 .byte (1 : Int32) [(.int (nar .byte (((x0.toInt8.toInt32) ^^^ (-1 : Int32)).toInt8.toInt32)))] (.int (0 : Int32)) := Arv.set Ar3 q3 Sz3 Ng3 Ha3 Fi3 (fits_nar_byte _) W3 0 rfl (Nat.le_of_ble_eq_true rfl)
  rw [own_nar8] at Arv_a1
  have O3 := O0.wr W3 g1
  have K3 := (Keep.refl h0 [a1]).wr W3 (Or.inl (List.mem_of_getElem? (i := 0) rfl))
  have N3 := Fr.snoc X3 N0 g1
  show Gl p e below s _ _ _ T3 (mkF m 14 #[.val (.ref a1)] [])
  refine Gl.st (fun _ kk => XS.aloadN X3.here hx rfl (hb hby d6_14) rfl rfl kk) ?_
  show Gl p e below s _ _ _ T3 (mkF m 15 #[.val (.ref a1)] [(.ref a1)])
  obtain ⟨cl4, Ar4, q4, Sz4, Ng4, Ha4, Fi4⟩ := id Arv_a1
  refine Gl.st (fun _ kk => X3.arraylength hx (by rw [e3]; exact Ar4.1) (State.isArrayOf_alike hZ.alike Ar4.2.1) (g := (mkF m 15 #[.val (.ref a1)] [(.ref a1)])) rfl rfl (hb hby d6_15) _ kk) ?_
  rw [len_of Sz4 Ng4]
  show Gl p e below s _ _ _ T3 (mkF m 16 #[.val (.ref a1)] [(.int (1 : Int32))])
  refine Gl.st (fun _ kk => XS.iconst X3.here hx rfl (hb hby d6_16) kk) ?_
  show Gl p e below s _ _ _ T3 (mkF m 17 #[.val (.ref a1)] [(.int (1 : Int32)), (.int (1 : Int32))])
  refine Gl.st (fun _ kk => XS.icmpYes X3.here hx rfl (pc0 := 17) (pc' := 29) rfl (hb hby d6_17) rfl (flt (by decide : ¬ ((1 : Int32) < (1 : Int32)))).2.2.2 (by decide) (by decide) kk) ?_
  show Gl p e below s _ _ _ T3 (mkF m 29 #[.val (.ref a1)] [])
  refine Gl.st (fun _ kk => XS.aloadN X3.here hx rfl (hb hby d6_29) rfl rfl kk) ?_
  show Gl p e below s _ _ _ T3 (mkF m 30 #[.val (.ref a1)] [(.ref a1)])
  obtain ⟨cl5, Ar5, q5, Sz5, Ng5, Ha5, Fi5⟩ := id Arv_a1
  refine Gl.st (fun _ kk => X3.arraylength hx (by rw [e3]; exact Ar5.1) (State.isArrayOf_alike hZ.alike Ar5.2.1) (g := (mkF m 30 #[.val (.ref a1)] [(.ref a1)])) rfl rfl (hb hby d6_30) _ kk) ?_
  rw [len_of Sz5 Ng5]
  show Gl p e below s _ _ _ T3 (mkF m 31 #[.val (.ref a1)] [(.int (1 : Int32))])
  refine Gl.st (fun _ kk => XS.iconst X3.here hx rfl (hb hby d6_31) kk) ?_
  show Gl p e below s _ _ _ T3 (mkF m 32 #[.val (.ref a1)] [(.int (2 : Int32)), (.int (1 : Int32))])
  refine Gl.st (fun _ kk => XS.icmpYes X3.here hx rfl (pc0 := 32) (pc' := 44) rfl (hb hby d6_32) rfl (flt (by decide : ¬ ((2 : Int32) < (1 : Int32)))).2.2.2 (by decide) (by decide) kk) ?_
  show Gl p e below s _ _ _ T3 (mkF m 44 #[.val (.ref a1)] [])
  exact Gl.ret X3 (v := none) (fun _ => rfl) (BodyLoose.notSynchronized Bd) (fun hr => X3.returnOut hx Bd.returns (hb hby d6_44) hr) e3 ⟨rfl, N3, K3⟩ (by decide) (by decide)
theorem pn_rmG1 : plainName "com/example/tarry/tarry/Message" = true := by first | (simp [plainName, overriddenIn]; done) | decide +kernel
theorem ef_rmG1 (m : MethodId) (a1 : Addr) : entryFrame m #[(.ref a1)] 1 = mkF m 0 #[.val (.ref a1)] [] := by first | (simp [entryFrame, mkF, argsToLocals, Value.category]; done) | rfl
def Q_rmG1 (Z : State) (a1 : Addr) (t : Addr) (k1 : ClassId) (x0 : Int32) (h0 : Heap) (n0 : Nat) (v : Option Value) (h : Heap) (L : List Loc) : Prop := ∃ b, v = some (.ref b) ∧ Fr n0 L ∧ Keep h0 h [] ∧ Arv Z h b k1 .byte (1 : Int32) [(.int (x0.toInt8.toInt32))] (.int 0) ∧ h0.size ≤ b
set_option maxRecDepth 65536 in
set_option maxHeartbeats 40000000 in
theorem rmG1 (l : Launch) (Z : State) (a0 : Array Value) (hw : ∀ d ∈ tables_1, d.before a0 Z = true) (ws : List Jvm.Cond) (a1 : Addr) (t : Addr) (k1 : ClassId) (x0 : Int32) (h0 : Heap) (n0 : Nat) (O0 : Old Z n0 h0) (F_bytes_a1 : Fld Z h0 a1 "com/example/tarry/tarry/Message" "bytes" "[B" (.ref t)) (Arv_t : Arv Z h0 t k1 .byte (1 : Int32) [(.int (x0.toInt8.toInt32))] (.int 0)) (Exa_t : Exa Z h0 t "[B") :
    MetFree l (⟨"com/example/tarry/tarry/Message", "bytes", "()[B"⟩ : MethodName) (head1 (Jvm.Cond.code (⟨"com/example/tarry/tarry/Message", "bytes", "()[B"⟩ : MethodName) prog_13_method_6_code 1 (some (.array .byte)) :: ws) ({ frames := 1, cells := 1, slots := 1, locals := 14 } : Room)) (fun a U => a = #[(.ref a1)] ∧ Z.Warmed39 U.vm ∧ U.heap = h0) (fun _ _ _ _ _ => True) (fun _ U o U' => ∃ v L, o = .returned v ∧ Q_rmG1 Z a1 t k1 x0 h0 n0 v U'.heap L ∧ FrameEnd U o U' L ({ frames := 1, cells := 1, slots := 1, locals := 14 } : Room).cells ({ frames := 1, cells := 1, slots := 1, locals := 14 } : Room).slots) := by
  refine MetFree.of_bodySF (plainFor_of_name pn_rmG1) hisR ?_
  intro p e s m args below meth c s₁ Bd hml0 hP hK
  obtain ⟨rfl, hZ, hh⟩ := hP
  have hx := Bd.exec
  have hby := Bd.bytes
  have hml : c.maxLocals = 1 := hml0
  have hown : s.vm.findClass "com/example/tarry/tarry/Message" = some m.cls := findClass_of_methodNamed Bd.named
  have hnm := (name_of_methodNamed Bd.named Bd.method).1
  have X0 : Stand p l e ({ frames := 1, cells := 1, slots := 1, locals := 14 } : Room) s m #[(.ref a1)] below meth c s₁ [] 0 0 := Stand.of_body Bd
  have e0 : s₁.heap = h0 := by rw [← hh, Bd.state]; rfl
  have N0 := Fr.nil n0
  refine Gl.start (Q := Q_rmG1 Z a1 t k1 x0 h0 n0) (ef_rmG1 m a1) ?_
  show Gl p e below s _ _ _ s₁ (mkF m 0 #[.val (.ref a1)] [])
  refine Gl.st (fun _ kk => XS.aloadN X0.here hx rfl (hb hby d7_0) rfl rfl kk) ?_
  show Gl p e below s _ _ _ s₁ (mkF m 1 #[.val (.ref a1)] [(.ref a1)])
  obtain ⟨T1, X1, e1, st1⟩ := getF X0 hx hZ hown (host := "") (Or.inl (hw _ (List.mem_of_getElem? (i := 41) rfl))) Via.refl e0 F_bytes_a1 (g := (mkF m 1 #[.val (.ref a1)] [(.ref a1)])) rfl rfl (hb hby d7_1)
  refine Gl.st st1 ?_
  show Gl p e below s _ _ _ T1 (mkF m 4 #[.val (.ref a1)] [(.ref t)])
  refine Gl.st (fun _ kk => XS.ifnonnullYes X1.here hx rfl (pc0 := 4) (pc' := 17) rfl (hb hby d7_4) rfl (by decide) (by decide) kk) ?_
  show Gl p e below s _ _ _ T1 (mkF m 17 #[.val (.ref a1)] [])
  refine Gl.st (fun _ kk => XS.aloadN X1.here hx rfl (hb hby d7_17) rfl rfl kk) ?_
  show Gl p e below s _ _ _ T1 (mkF m 18 #[.val (.ref a1)] [(.ref a1)])
  obtain ⟨T2, X2, e2, st2⟩ := getF X1 hx hZ hown (host := "") (Or.inl (hw _ (List.mem_of_getElem? (i := 41) rfl))) Via.refl e1 F_bytes_a1 (g := (mkF m 18 #[.val (.ref a1)] [(.ref a1)])) rfl rfl (hb hby d7_18)
  refine Gl.st st2 ?_
  show Gl p e below s _ _ _ T2 (mkF m 21 #[.val (.ref a1)] [(.ref t)])
  obtain ⟨T3, h3, X3, e3, E3, A3, Ax3, st3⟩ := cloneH X2 hx hZ hown (hw _ (List.mem_of_getElem? (i := 18) rfl)) (hw _ (List.mem_of_getElem? (i := 19) rfl)) (hw _ (List.mem_of_getElem? (i := 23) rfl)) (hw _ (List.mem_of_getElem? (i := 21) rfl)) (hw _ (List.mem_of_getElem? (i := 22) rfl)) (hw _ (List.mem_of_getElem? (i := 24) rfl)) e2 (Arv.arh Arv_t) Exa_t (g := (mkF m 21 #[.val (.ref a1)] [(.ref t)])) rfl (by rw [hml]; rfl) rfl (hb hby d7_21) (by decide) (W := 0) (cap := 1) (by show 2 * 0 + _ ≤ _; exact Nat.le_of_eq rfl) (by decide) (by decide) (by decide) (by decide)
  obtain ⟨b3, g3⟩ : ∃ z, z = h0.size := ⟨_, rfl⟩
  rw [← g3] at A3 Ax3 st3
  refine Gl.st st3 ?_
  have ne_a1_b3 : a1 ≠ b3 := Nat.ne_of_lt (Nat.lt_of_lt_of_eq F_bytes_a1.lt g3.symm)
  have ne_t_b3 : t ≠ b3 := Nat.ne_of_lt (Nat.lt_of_lt_of_eq Arv_t.lt g3.symm)
  have ge_b3 : n0 ≤ b3 := Nat.le_trans (Nat.le_trans (Nat.le_of_eq O0.1.symm) O0.2.1) (Nat.le_of_eq g3.symm)
  have fr_b3 : h0.size ≤ b3 := Nat.le_trans (Nat.le_refl _) (Nat.le_of_eq g3.symm)
  have F_bytes_a1 := F_bytes_a1.ext E3
  have Arv_t := Arv_t.ext E3
  have Exa_t := Exa_t.ext E3
  have O3 := O0.ext E3
  have K3 := (Keep.refl h0 []).ext E3
  have Arv_b3 : Arv Z h3 b3 k1 .byte (1 : Int32) [(.int (x0.toInt8.toInt32))] (.int (0 : Int32)) := A3
  have Exa_b3 := Ax3
  show Gl p e below s _ _ _ T3 (mkF m 24 #[.val (.ref a1)] [(.ref b3)])
  obtain ⟨T4, X4, e4, st4⟩ := castY X3 hx hZ hown (hw _ (List.mem_of_getElem? (i := 25) rfl)) e3 (Ins.self Exa_b3) (g := (mkF m 24 #[.val (.ref a1)] [(.ref b3)])) rfl rfl (hb hby d7_24)
  refine Gl.st st4 ?_
  show Gl p e below s _ _ _ T4 (mkF m 27 #[.val (.ref a1)] [(.ref b3)])
  exact Gl.ret X4 (v := (some (.ref b3))) (fun h => by rw [Bd.returns] at h; cases h) (BodyLoose.notSynchronized Bd) (fun hr => retOut X4 hx Bd.returns rfl (Or.inr (Or.inr (Or.inr (Or.inr ⟨rfl, rfl, rfl⟩)))) (hb hby d7_27) hr) e4 ⟨b3, rfl, N0, K3, Arv_b3, fr_b3⟩ (by decide) (by decide)
theorem d12_12 : decode method_4_code 12 = .ok (.aload_n 0, 1) := by decide +kernel
theorem d12_13 : decode method_4_code 13 = .ok (.iconst 0, 1) := by decide +kernel
theorem d12_14 : decode method_4_code 14 = .ok (.baload, 1) := by decide +kernel
theorem d12_15 : decode method_4_code 15 = .ok (.iload_n 2, 1) := by decide +kernel
theorem d12_16 : decode method_4_code 16 = .ok (.i2b, 1) := by decide +kernel
theorem d12_17 : decode method_4_code 17 = .ok (.if_icmp .eq 5, 3) := by decide +kernel
theorem pn_rmS1 : plainName "com/example/tarry/tarry/MessageBytesPinLaw" = true := by first | (simp [plainName, overriddenIn]; done) | decide +kernel
theorem ef_rmS1 (m : MethodId) (a1 : Addr) (x0 : Int32) (x1 : Int32) (x2 : Int32) : entryFrame m #[(.ref a1), (.int (1 : Int32)), (.int x0), (.int x1), (.int x2)] 5 = mkF m 0 #[.val (.ref a1), .val (.int (1 : Int32)), .val (.int x0), .val (.int x1), .val (.int x2)] [] := by first | (simp [entryFrame, mkF, argsToLocals, Value.category]; done) | rfl
def Q_rmS1 (Z : State) (a1 : Addr) (x0 : Int32) (x1 : Int32) (x2 : Int32) (k1 : ClassId) (h0 : Heap) (n0 : Nat) (v : Option Value) (h : Heap) (L : List Loc) : Prop := v = some (.int 1) ∧ Fr n0 L ∧ h = h0
set_option maxRecDepth 65536 in
set_option maxHeartbeats 40000000 in
theorem rmS1 (l : Launch) (Z : State) (a0 : Array Value) (hw : ∀ d ∈ tables_1, d.before a0 Z = true) (ws : List Jvm.Cond) (a1 : Addr) (x0 : Int32) (x1 : Int32) (x2 : Int32) (k1 : ClassId) (h0 : Heap) (n0 : Nat) (O0 : Old Z n0 h0) (Arv_a1 : Arv Z h0 a1 k1 .byte (1 : Int32) [(.int (x0.toInt8.toInt32))] (.int 0)) :
    MetFree l (⟨"com/example/tarry/tarry/MessageBytesPinLaw", "same", "([BIIII)Z"⟩ : MethodName) (head1 (Jvm.Cond.code (⟨"com/example/tarry/tarry/MessageBytesPinLaw", "same", "([BIIII)Z"⟩ : MethodName) method_4_code 5 (some .boolean) :: ws) ({ frames := 0, cells := 0, slots := 0, locals := 0 } : Room)) (fun a U => a = #[(.ref a1), (.int (1 : Int32)), (.int x0), (.int x1), (.int x2)] ∧ Z.Warmed39 U.vm ∧ U.heap = h0) (fun _ _ _ _ _ => True) (fun _ U o U' => ∃ v L, o = .returned v ∧ Q_rmS1 Z a1 x0 x1 x2 k1 h0 n0 v U'.heap L ∧ FrameEnd U o U' L ({ frames := 0, cells := 0, slots := 0, locals := 0 } : Room).cells ({ frames := 0, cells := 0, slots := 0, locals := 0 } : Room).slots) := by
  refine MetFree.of_bodySF (plainFor_of_name pn_rmS1) hisR ?_
  intro p e s m args below meth c s₁ Bd hml0 hP hK
  obtain ⟨rfl, hZ, hh⟩ := hP
  have hx := Bd.exec
  have hby := Bd.bytes
  have hml : c.maxLocals = 5 := hml0
  have hown : s.vm.findClass "com/example/tarry/tarry/MessageBytesPinLaw" = some m.cls := findClass_of_methodNamed Bd.named
  have hnm := (name_of_methodNamed Bd.named Bd.method).1
  have X0 : Stand p l e ({ frames := 0, cells := 0, slots := 0, locals := 0 } : Room) s m #[(.ref a1), (.int (1 : Int32)), (.int x0), (.int x1), (.int x2)] below meth c s₁ [] 0 0 := Stand.of_body Bd
  have e0 : s₁.heap = h0 := by rw [← hh, Bd.state]; rfl
  have N0 := Fr.nil n0
  refine Gl.start (Q := Q_rmS1 Z a1 x0 x1 x2 k1 h0 n0) (ef_rmS1 m a1 x0 x1 x2) ?_
  show Gl p e below s _ _ _ s₁ (mkF m 0 #[.val (.ref a1), .val (.int (1 : Int32)), .val (.int x0), .val (.int x1), .val (.int x2)] [])
  refine Gl.st (fun _ kk => XS.aloadN X0.here hx rfl (hb hby d12_0) rfl rfl kk) ?_
  show Gl p e below s _ _ _ s₁ (mkF m 1 #[.val (.ref a1), .val (.int (1 : Int32)), .val (.int x0), .val (.int x1), .val (.int x2)] [(.ref a1)])
  obtain ⟨cl1, Ar1, q1, Sz1, Ng1, Ha1, Fi1⟩ := id Arv_a1
  refine Gl.st (fun _ kk => X0.arraylength hx (by rw [e0]; exact Ar1.1) (State.isArrayOf_alike hZ.alike Ar1.2.1) (g := (mkF m 1 #[.val (.ref a1), .val (.int (1 : Int32)), .val (.int x0), .val (.int x1), .val (.int x2)] [(.ref a1)])) rfl rfl (hb hby d12_1) _ kk) ?_
  rw [len_of Sz1 Ng1]
  show Gl p e below s _ _ _ s₁ (mkF m 2 #[.val (.ref a1), .val (.int (1 : Int32)), .val (.int x0), .val (.int x1), .val (.int x2)] [(.int (1 : Int32))])
  refine Gl.st (fun _ kk => XS.iloadN X0.here hx rfl (hb hby d12_2) rfl kk) ?_
  show Gl p e below s _ _ _ s₁ (mkF m 3 #[.val (.ref a1), .val (.int (1 : Int32)), .val (.int x0), .val (.int x1), .val (.int x2)] [(.int (1 : Int32)), (.int (1 : Int32))])
  refine Gl.st (fun _ kk => XS.icmpYes X0.here hx rfl (pc0 := 3) (pc' := 8) rfl (hb hby d12_3) rfl (teq (by decide : (1 : Int32) = (1 : Int32))).1 (by decide) (by decide) kk) ?_
  show Gl p e below s _ _ _ s₁ (mkF m 8 #[.val (.ref a1), .val (.int (1 : Int32)), .val (.int x0), .val (.int x1), .val (.int x2)] [])
  refine Gl.st (fun _ kk => XS.iloadN X0.here hx rfl (hb hby d12_8) rfl kk) ?_
  show Gl p e below s _ _ _ s₁ (mkF m 9 #[.val (.ref a1), .val (.int (1 : Int32)), .val (.int x0), .val (.int x1), .val (.int x2)] [(.int (1 : Int32))])
  refine Gl.st (fun _ kk => XS.ifNo X0.here hx rfl (hb hby d12_9) rfl ((if0 _ _).trans (tlt (by decide : (0 : Int32) < (1 : Int32))).2.2.2) kk) ?_
  show Gl p e below s _ _ _ s₁ (mkF m 12 #[.val (.ref a1), .val (.int (1 : Int32)), .val (.int x0), .val (.int x1), .val (.int x2)] [])
  refine Gl.st (fun _ kk => XS.aloadN X0.here hx rfl (hb hby d12_12) rfl rfl kk) ?_
  show Gl p e below s _ _ _ s₁ (mkF m 13 #[.val (.ref a1), .val (.int (1 : Int32)), .val (.int x0), .val (.int x1), .val (.int x2)] [(.ref a1)])
  refine Gl.st (fun _ kk => XS.iconst X0.here hx rfl (hb hby d12_13) kk) ?_
  show Gl p e below s _ _ _ s₁ (mkF m 14 #[.val (.ref a1), .val (.int (1 : Int32)), .val (.int x0), .val (.int x1), .val (.int x2)] [(.int (0 : Int32)), (.ref a1)])
  obtain ⟨cl2, Ar2, q2, Sz2, Ng2, Ha2, Fi2⟩ := id Arv_a1
  have hin2 : ¬ ((0 : Int32) < 0 ∨ cl2.slots.size ≤ ((0 : Int32)).toNatClampNeg) := inb_of Sz2 ⟨by decide, by decide⟩
  have hat2 : cl2.slots[((0 : Int32)).toNatClampNeg]? = some (.int (x0.toInt8.toInt32)) := Ha2.at hin2 rfl
  refine Gl.st (fun _ kk => X0.baloadBytes hx (j := (0 : Int32)) (v := (.int (x0.toInt8.toInt32))) (by rw [e0]; exact Ar2.1) (State.isArrayOf_alike hZ.alike Ar2.2.1) Ar2.2.2 hin2 hat2 (g := (mkF m 14 #[.val (.ref a1), .val (.int (1 : Int32)), .val (.int x0), .val (.int x1), .val (.int x2)] [(.int (0 : Int32)), (.ref a1)])) rfl rfl (hb hby d12_14) _ kk) ?_
  show Gl p e below s _ _ _ s₁ (mkF m 15 #[.val (.ref a1), .val (.int (1 : Int32)), .val (.int x0), .val (.int x1), .val (.int x2)] [(.int (x0.toInt8.toInt32))])
  refine Gl.st (fun _ kk => XS.iloadN X0.here hx rfl (hb hby d12_15) rfl kk) ?_
  show Gl p e below s _ _ _ s₁ (mkF m 16 #[.val (.ref a1), .val (.int (1 : Int32)), .val (.int x0), .val (.int x1), .val (.int x2)] [(.int x0), (.int (x0.toInt8.toInt32))])
  refine Gl.st (fun _ kk => XS.i2b X0.here hx rfl (hb hby d12_16) rfl kk) ?_
  show Gl p e below s _ _ _ s₁ (mkF m 17 #[.val (.ref a1), .val (.int (1 : Int32)), .val (.int x0), .val (.int x1), .val (.int x2)] [(.int (x0.toInt8.toInt32)), (.int (x0.toInt8.toInt32))])
  refine Gl.st (fun _ kk => XS.icmpYes X0.here hx rfl (pc0 := 17) (pc' := 22) rfl (hb hby d12_17) rfl (teq (rfl : (x0.toInt8.toInt32) = (x0.toInt8.toInt32))).1 (by decide) (by decide) kk) ?_
  show Gl p e below s _ _ _ s₁ (mkF m 22 #[.val (.ref a1), .val (.int (1 : Int32)), .val (.int x0), .val (.int x1), .val (.int x2)] [])
  refine Gl.st (fun _ kk => XS.iloadN X0.here hx rfl (hb hby d12_22) rfl kk) ?_
  show Gl p e below s _ _ _ s₁ (mkF m 23 #[.val (.ref a1), .val (.int (1 : Int32)), .val (.int x0), .val (.int x1), .val (.int x2)] [(.int (1 : Int32))])
  refine Gl.st (fun _ kk => XS.iconst X0.here hx rfl (hb hby d12_23) kk) ?_
  show Gl p e below s _ _ _ s₁ (mkF m 24 #[.val (.ref a1), .val (.int (1 : Int32)), .val (.int x0), .val (.int x1), .val (.int x2)] [(.int (1 : Int32)), (.int (1 : Int32))])
  refine Gl.st (fun _ kk => XS.icmpYes X0.here hx rfl (pc0 := 24) (pc' := 37) rfl (hb hby d12_24) rfl (flt (by decide : ¬ ((1 : Int32) < (1 : Int32)))).2.2.2 (by decide) (by decide) kk) ?_
  show Gl p e below s _ _ _ s₁ (mkF m 37 #[.val (.ref a1), .val (.int (1 : Int32)), .val (.int x0), .val (.int x1), .val (.int x2)] [])
  refine Gl.st (fun _ kk => XS.iloadN X0.here hx rfl (hb hby d12_37) rfl kk) ?_
  show Gl p e below s _ _ _ s₁ (mkF m 38 #[.val (.ref a1), .val (.int (1 : Int32)), .val (.int x0), .val (.int x1), .val (.int x2)] [(.int (1 : Int32))])
  refine Gl.st (fun _ kk => XS.iconst X0.here hx rfl (hb hby d12_38) kk) ?_
  show Gl p e below s _ _ _ s₁ (mkF m 39 #[.val (.ref a1), .val (.int (1 : Int32)), .val (.int x0), .val (.int x1), .val (.int x2)] [(.int (2 : Int32)), (.int (1 : Int32))])
  refine Gl.st (fun _ kk => XS.icmpYes X0.here hx rfl (pc0 := 39) (pc' := 53) rfl (hb hby d12_39) rfl (flt (by decide : ¬ ((2 : Int32) < (1 : Int32)))).2.2.2 (by decide) (by decide) kk) ?_
  show Gl p e below s _ _ _ s₁ (mkF m 53 #[.val (.ref a1), .val (.int (1 : Int32)), .val (.int x0), .val (.int x1), .val (.int x2)] [])
  refine Gl.st (fun _ kk => XS.iconst X0.here hx rfl (hb hby d12_53) kk) ?_
  show Gl p e below s _ _ _ s₁ (mkF m 54 #[.val (.ref a1), .val (.int (1 : Int32)), .val (.int x0), .val (.int x1), .val (.int x2)] [(.int (1 : Int32))])
  exact Gl.ret X0 (v := (some (.int (1 : Int32)))) (fun h => by rw [Bd.returns] at h; cases h) (BodyLoose.notSynchronized Bd) (fun hr => retN X0 hx (t := .boolean) Bd.returns (by simp) (hb hby d12_54) hr) e0 ⟨rfl, N0, rfl⟩ (by decide) (by decide)
theorem pd_rmB2_0 : parseMethodDescriptor "(Ljava/lang/Object;Ljava/lang/String;)Ljava/lang/Object;" = some ⟨[(.object "java/lang/Object"), (.object "java/lang/String")], some (.object "java/lang/Object")⟩ := by decide +kernel
theorem pd_rmB2_1 : parseMethodDescriptor "()Ljava/util/Map;" = some ⟨[], some (.object "java/util/Map")⟩ := by decide +kernel
theorem pd_rmB2_2 : parseMethodDescriptor "(Ljava/lang/String;[BLjava/util/Map;Ljava/lang/String;Ljava/lang/String;Ljava/lang/String;)V" = some ⟨[(.object "java/lang/String"), (.array .byte), (.object "java/util/Map"), (.object "java/lang/String"), (.object "java/lang/String"), (.object "java/lang/String")], none⟩ := by decide +kernel
theorem pn_rmB2 : plainName "com/example/tarry/tarry/Message" = true := by first | (simp [plainName, overriddenIn]; done) | decide +kernel
theorem ef_rmB2 (m : MethodId) (a1 : Addr) : entryFrame m #[(.ref a1)] 1 = mkF m 0 #[.val (.ref a1)] [] := by first | (simp [entryFrame, mkF, argsToLocals, Value.category]; done) | rfl
def Q_rmB2 (Z : State) (a1 : Addr) (k1 : ClassId) (x0 x1 : Int32) (em : Addr) (h0 : Heap) (n0 : Nat) (v : Option Value) (h : Heap) (L : List Loc) : Prop := ∃ b t, v = some (.ref b) ∧ Fr n0 L ∧ Keep h0 h [] ∧ Exa Z h b "com/example/tarry/tarry/Message" ∧ Fld Z h b "com/example/tarry/tarry/Message" "text" "Ljava/lang/String;" .null ∧ Fld Z h b "com/example/tarry/tarry/Message" "bytes" "[B" (.ref t) ∧ Fld Z h b "com/example/tarry/tarry/Message" "headers" "Ljava/util/Map;" (.ref em) ∧ Fld Z h b "com/example/tarry/tarry/Message" "messageId" "Ljava/lang/String;" .null ∧ Fld Z h b "com/example/tarry/tarry/Message" "correlationId" "Ljava/lang/String;" .null ∧ Fld Z h b "com/example/tarry/tarry/Message" "replyTo" "Ljava/lang/String;" .null ∧ Arv Z h t k1 .byte (2 : Int32) [(.int (x0.toInt8.toInt32)), (.int (x1.toInt8.toInt32))] (.int 0) ∧ Exa Z h t "[B" ∧ h0.size ≤ b ∧ h0.size ≤ t ∧ b ≠ t
set_option maxRecDepth 65536 in
set_option maxHeartbeats 40000000 in
theorem rmB2 (l : Launch) (Z : State) (a0 : Array Value) (hw : ∀ d ∈ tables_1, d.before a0 Z = true) (ws : List Jvm.Cond) (a1 : Addr) (k1 : ClassId) (x0 x1 : Int32) (em : Addr) (h0 : Heap) (n0 : Nat) (O0 : Old Z n0 h0) (Arv_a1 : Arv Z h0 a1 k1 .byte (2 : Int32) [(.int (x0.toInt8.toInt32)), (.int (x1.toInt8.toInt32))] (.int 0)) (Exa_a1 : Exa Z h0 a1 "[B") (S_EM : Sta Z Z.heap "java/util/ImmutableCollections" "EMPTY_MAP" "Ljava/util/ImmutableCollections$MapN;" (.ref em)) :
    MetFree l (⟨"com/example/tarry/tarry/Message", "bytes", "([B)Lcom/example/tarry/tarry/Message;"⟩ : MethodName) (head1 (Jvm.Cond.code (⟨"com/example/tarry/tarry/Message", "bytes", "([B)Lcom/example/tarry/tarry/Message;"⟩ : MethodName) prog_13_method_3_code 1 (some (.object "com/example/tarry/tarry/Message")) :: ws) ({ frames := 2, cells := 4, slots := 28, locals := 31 } : Room)) (fun a U => a = #[(.ref a1)] ∧ Z.Warmed39 U.vm ∧ U.heap = h0 ∧ CHv Z ([] : List (String × Nat)) U.vm h0) (fun _ _ _ _ _ => True) (fun _ U o U' => ∃ v L, o = .returned v ∧ Q_rmB2 Z a1 k1 x0 x1 em h0 n0 v U'.heap L ∧ CHr Z ([] : List (String × Nat)) U.vm U.heap U'.vm U'.heap ∧ ReturnedEndW U o U' L ({ frames := 2, cells := 4, slots := 28, locals := 31 } : Room).cells ({ frames := 2, cells := 4, slots := 28, locals := 31 } : Room).slots) := by
  refine MetFree.of_bodySF (plainFor_of_name pn_rmB2) hisR ?_
  intro p e s m args below meth c s₁ Bd hml0 hP hK
  obtain ⟨rfl, hZ, hh, H0⟩ := hP
  have hx := Bd.exec
  have hby := Bd.bytes
  have hml : c.maxLocals = 1 := hml0
  have hown : s.vm.findClass "com/example/tarry/tarry/Message" = some m.cls := findClass_of_methodNamed Bd.named
  have hnm := (name_of_methodNamed Bd.named Bd.method).1
  have X0 : Stand p l e ({ frames := 2, cells := 4, slots := 28, locals := 31 } : Room) (s.setVm s.vm) m #[(.ref a1)] below meth c s₁ [] 0 0 := Stand.of_body Bd
  have e0 : s₁.heap = h0 := by rw [← hh, Bd.state]; rfl
  have N0 := Fr.nil n0
  have hS0 : s.Since s.vm 0 := (State.WarmedH.refl s).since 0
  have hk0 : 0 ≤ h0.size := Nat.zero_le _
  have HC0 : CHr Z ([] : List (String × Nat)) s.vm h0 s.vm h0 := CHr.refl H0
  have hh0 : s.heap = h0 := hh
  refine GlW.start (Q := Q_rmB2 Z a1 k1 x0 x1 em h0 n0) (ef_rmB2 m a1) ?_
  have hEL : EW Z a0 ([] : List (String × Nat)) := EW.nil
  have hwS : ∀ a ∈ Bundle.stringAtoms, a.before a0 Z = true := fun d hd => hw d ((by decide +kernel : ∀ d ∈ Bundle.stringAtoms, d ∈ tables_1) d hd)
  show GlW Z ([] : List (String × Nat)) p e below s _ _ _ s₁ (mkF m 0 #[.val (.ref a1)] [])
  refine GlW.st (fun _ kk => XS.aloadN X0.here hx rfl (hb hby d1_0) rfl rfl kk) ?_
  show GlW Z ([] : List (String × Nat)) p e below s _ _ _ s₁ (mkF m 1 #[.val (.ref a1)] [(.ref a1)])
  obtain ⟨la1, T1, h1, kn1, X1, e1, E1, hS1, hk1, hZ1, hown1, HR1, Li1, st1⟩ := ldcOH X0 hx hZ hown (hw _ (List.mem_of_getElem? (i := 5) rfl)) hwS e0 hS0 hk0 hEL HC0.1 (g := (mkF m 1 #[.val (.ref a1)] [(.ref a1)])) rfl (hb hby d1_1) (n := 16) (by decide) (by decide) (by decide) (by decide)
  refine GlW.st st1 ?_
  have Arv_a1 := Arv_a1.ext E1
  have Exa_a1 := Exa_a1.ext E1
  have O1 := O0.ext E1
  have K1 := (Keep.refl h0 []).ext E1
  have HC1 := HC0.trans HR1
  have hZ := hZ1
  have hown := hown1
  show GlW Z ([] : List (String × Nat)) p e below s _ _ _ T1 (mkF m 3 #[.val (.ref a1)] [(.ref la1), (.ref a1)])
  obtain ⟨v2, _, ⟨T2, L2, kQ2, nQ2⟩, -, X2, ⟨Lc2, hQ2, l2, y2, z2⟩, st2⟩ := Jvm.LawKit.callS X1 hx (y := (⟨"java/util/Objects", "requireNonNull", "(Ljava/lang/Object;Ljava/lang/String;)Ljava/lang/Object;"⟩ : MethodName)) hown (mvT hZ (hw _ (List.mem_of_getElem? (i := 12) rfl))) (mvT hZ (hw _ (List.mem_of_getElem? (i := 13) rfl))) (mvT hZ (hw _ (List.mem_of_getElem? (i := 14) rfl))) (mvT hZ (hw _ (List.mem_of_getElem? (i := 15) rfl))) (by decide) (backOf (W := 0) (rmRN l Z a0 hw [] a1 la1 h1 n0 O1) hZ (hw _ (List.mem_of_getElem? (i := 15) rfl)) (hw _ (List.mem_of_getElem? (i := 14) rfl)) (by decide) (by decide)) (g := (mkF m 3 #[.val (.ref a1)] [(.ref la1), (.ref a1)])) rfl (by rw [hml]; rfl) (argsL := [(.ref a1), (.ref la1)]) (rest := []) (lenOf pd_rmB2_0 rfl) rfl (by show 2 * 0 + _ ≤ _; exact Nat.le_of_eq rfl) (hb hby d1_3) (fun _ _ => ⟨rfl, e1, (by decide : 2 + 0 ≤ _), (by decide : 20 + 0 ≤ _)⟩)
  dsimp only [Pt.U, Pt.locs, Pt.cells, Pt.slots] at X2 l2 y2 z2 st2 hQ2
  subst l2 y2 z2
  obtain ⟨rfl, Nq2, e2⟩ := hQ2
  have N2 := Fr.app N0 Nq2
  refine GlW.st st2 ?_
  show GlW Z ([] : List (String × Nat)) p e below s _ _ _ T2 (mkF m 6 #[.val (.ref a1)] [(.ref a1)])
  refine GlW.st (fun _ kk => XS.pop X2.here hx rfl (hb hby d1_6) rfl rfl kk) ?_
  show GlW Z ([] : List (String × Nat)) p e below s _ _ _ T2 (mkF m 7 #[.val (.ref a1)] [])
  obtain ⟨T3, h3, X3, e3, E3, A3, D3, V3, st3⟩ := newO X2 hx hZ hown (hw _ (List.mem_of_getElem? (i := 16) rfl)) (hw _ (List.mem_of_getElem? (i := 17) rfl)) (hw _ (List.mem_of_getElem? (i := 3) rfl)) e2 (g := (mkF m 7 #[.val (.ref a1)] [])) rfl (hb hby d1_7) (by decide) (by decide)
  obtain ⟨b3, g3⟩ : ∃ z, z = h1.size := ⟨_, rfl⟩
  rw [← g3] at A3 D3 V3 st3
  refine GlW.st st3 ?_
  have ne_a1_b3 : a1 ≠ b3 := Nat.ne_of_lt (Nat.lt_of_lt_of_eq Arv_a1.lt g3.symm)
  have ge_b3 : n0 ≤ b3 := Nat.le_trans (Nat.le_trans (Nat.le_of_eq O1.1.symm) O1.2.1) (Nat.le_of_eq g3.symm)
  have fr_b3 : h0.size ≤ b3 := Nat.le_trans K1.1 (Nat.le_of_eq g3.symm)
  have HC3 := HC1.trans (CHr.ext E3 HC1.1)
  have hk3 := Nat.le_trans hk1 E3.1
  have Arv_a1 := Arv_a1.ext E3
  have Exa_a1 := Exa_a1.ext E3
  have O3 := O1.ext E3
  have K3 := K1.ext E3
  have Exa_b3 := A3
  have F_text_b3 : Fld Z h3 b3 "com/example/tarry/tarry/Message" "text" "Ljava/lang/String;" .null := D3 (Or.inr (hw _ (List.mem_of_getElem? (i := 40) rfl))) (ty := (.object "java/lang/String")) (by decide)
  have F_bytes_b3 : Fld Z h3 b3 "com/example/tarry/tarry/Message" "bytes" "[B" .null := D3 (Or.inr (hw _ (List.mem_of_getElem? (i := 42) rfl))) (ty := (.array .byte)) (by decide)
  have F_headers_b3 : Fld Z h3 b3 "com/example/tarry/tarry/Message" "headers" "Ljava/util/Map;" .null := D3 (Or.inr (hw _ (List.mem_of_getElem? (i := 44) rfl))) (ty := (.object "java/util/Map")) (by decide)
  have F_messageId_b3 : Fld Z h3 b3 "com/example/tarry/tarry/Message" "messageId" "Ljava/lang/String;" .null := D3 (Or.inr (hw _ (List.mem_of_getElem? (i := 46) rfl))) (ty := (.object "java/lang/String")) (by decide)
  have F_correlationId_b3 : Fld Z h3 b3 "com/example/tarry/tarry/Message" "correlationId" "Ljava/lang/String;" .null := D3 (Or.inr (hw _ (List.mem_of_getElem? (i := 48) rfl))) (ty := (.object "java/lang/String")) (by decide)
  have F_replyTo_b3 : Fld Z h3 b3 "com/example/tarry/tarry/Message" "replyTo" "Ljava/lang/String;" .null := D3 (Or.inr (hw _ (List.mem_of_getElem? (i := 50) rfl))) (ty := (.object "java/lang/String")) (by decide)
  show GlW Z ([] : List (String × Nat)) p e below s _ _ _ T3 (mkF m 10 #[.val (.ref a1)] [(.ref b3)])
  refine GlW.st (fun _ kk => XS.dup X3.here hx rfl (hb hby d1_10) rfl rfl kk) ?_
  show GlW Z ([] : List (String × Nat)) p e below s _ _ _ T3 (mkF m 11 #[.val (.ref a1)] [(.ref b3), (.ref b3)])
  refine GlW.st (fun _ kk => XS.aconstNull X3.here hx rfl (hb hby d1_11) kk) ?_
  show GlW Z ([] : List (String × Nat)) p e below s _ _ _ T3 (mkF m 12 #[.val (.ref a1)] [.null, (.ref b3), (.ref b3)])
  refine GlW.st (fun _ kk => XS.aloadN X3.here hx rfl (hb hby d1_12) rfl rfl kk) ?_
  show GlW Z ([] : List (String × Nat)) p e below s _ _ _ T3 (mkF m 13 #[.val (.ref a1)] [(.ref a1), .null, (.ref b3), (.ref b3)])
  obtain ⟨T4, h4, X4, e4, E4, A4, Ax4, st4⟩ := cloneH X3 hx hZ hown (hw _ (List.mem_of_getElem? (i := 18) rfl)) (hw _ (List.mem_of_getElem? (i := 19) rfl)) (hw _ (List.mem_of_getElem? (i := 23) rfl)) (hw _ (List.mem_of_getElem? (i := 21) rfl)) (hw _ (List.mem_of_getElem? (i := 22) rfl)) (hw _ (List.mem_of_getElem? (i := 24) rfl)) e3 (Arv.arh Arv_a1) Exa_a1 (g := (mkF m 13 #[.val (.ref a1)] [(.ref a1), .null, (.ref b3), (.ref b3)])) rfl (by rw [hml]; rfl) rfl (hb hby d1_13) (by decide) (W := 3) (cap := 2) (by show 2 * 0 + _ ≤ _; exact Nat.le_of_eq rfl) (by decide) (by decide) (by decide) (by decide)
  obtain ⟨b4, g4⟩ : ∃ z, z = h3.size := ⟨_, rfl⟩
  rw [← g4] at A4 Ax4 st4
  refine GlW.st st4 ?_
  have ne_a1_b4 : a1 ≠ b4 := Nat.ne_of_lt (Nat.lt_of_lt_of_eq Arv_a1.lt g4.symm)
  have ne_b3_b4 : b3 ≠ b4 := Nat.ne_of_lt (Nat.lt_of_lt_of_eq Exa_b3.lt g4.symm)
  have ge_b4 : n0 ≤ b4 := Nat.le_trans (Nat.le_trans (Nat.le_of_eq O3.1.symm) O3.2.1) (Nat.le_of_eq g4.symm)
  have fr_b4 : h0.size ≤ b4 := Nat.le_trans K3.1 (Nat.le_of_eq g4.symm)
  have Sf_b4 : Safe Z ([] : List (String × Nat)) T1.vm h3 b4 := Safe.new (Nat.le_of_eq g4.symm)
  have Sf_b4 := Safe.ext E4 HC3.1 Sf_b4
  have HC4 := HC3.trans (CHr.ext E4 HC3.1)
  have hk4 := Nat.le_trans hk3 E4.1
  have Arv_a1 := Arv_a1.ext E4
  have Exa_a1 := Exa_a1.ext E4
  have Exa_b3 := Exa_b3.ext E4
  have F_text_b3 := F_text_b3.ext E4
  have F_bytes_b3 := F_bytes_b3.ext E4
  have F_headers_b3 := F_headers_b3.ext E4
  have F_messageId_b3 := F_messageId_b3.ext E4
  have F_correlationId_b3 := F_correlationId_b3.ext E4
  have F_replyTo_b3 := F_replyTo_b3.ext E4
  have O4 := O3.ext E4
  have K4 := K3.ext E4
  have Arv_b4 : Arv Z h4 b4 k1 .byte (2 : Int32) [(.int (x0.toInt8.toInt32)), (.int (x1.toInt8.toInt32))] (.int (0 : Int32)) := A4
  have Exa_b4 := Ax4
  show GlW Z ([] : List (String × Nat)) p e below s _ _ _ T4 (mkF m 16 #[.val (.ref a1)] [(.ref b4), .null, (.ref b3), (.ref b3)])
  obtain ⟨T5, X5, e5, st5⟩ := castY X4 hx hZ hown (hw _ (List.mem_of_getElem? (i := 25) rfl)) e4 (Ins.self Exa_b4) (g := (mkF m 16 #[.val (.ref a1)] [(.ref b4), .null, (.ref b3), (.ref b3)])) rfl rfl (hb hby d1_16)
  refine GlW.st st5 ?_
  show GlW Z ([] : List (String × Nat)) p e below s _ _ _ T5 (mkF m 19 #[.val (.ref a1)] [(.ref b4), .null, (.ref b3), (.ref b3)])
  obtain ⟨v6, _, ⟨T6, L6, kQ6, nQ6⟩, -, X6, ⟨Lc6, hQ6, l6, y6, z6⟩, st6⟩ := Jvm.LawKit.callS X5 hx (y := (⟨"java/util/Map", "of", "()Ljava/util/Map;"⟩ : MethodName)) hown (mvT hZ (hw _ (List.mem_of_getElem? (i := 27) rfl))) (mvT hZ (hw _ (List.mem_of_getElem? (i := 28) rfl))) (mvT hZ (hw _ (List.mem_of_getElem? (i := 29) rfl))) (mvT hZ (hw _ (List.mem_of_getElem? (i := 30) rfl))) (by decide) (backOf (W := 4) (rmMO l Z a0 hw [] em h4 n0 O4 S_EM) hZ (hw _ (List.mem_of_getElem? (i := 30) rfl)) (hw _ (List.mem_of_getElem? (i := 29) rfl)) (by decide) (by decide)) (g := (mkF m 19 #[.val (.ref a1)] [(.ref b4), .null, (.ref b3), (.ref b3)])) rfl (by rw [hml]; rfl) (argsL := []) (rest := [(.ref b4), .null, (.ref b3), (.ref b3)]) (lenOf pd_rmB2_1 rfl) rfl (by show 2 * 0 + _ ≤ _; exact Nat.le_of_eq rfl) (hb hby d1_19) (fun _ _ => ⟨rfl, e5, (by decide : 4 + 0 ≤ _), (by decide : 28 + 0 ≤ _)⟩)
  dsimp only [Pt.U, Pt.locs, Pt.cells, Pt.slots] at X6 l6 y6 z6 st6 hQ6
  subst l6 y6 z6
  obtain ⟨rfl, Nq6, e6⟩ := hQ6
  have N6 := Fr.app N2 Nq6
  refine GlW.st st6 ?_
  show GlW Z ([] : List (String × Nat)) p e below s _ _ _ T6 (mkF m 22 #[.val (.ref a1)] [(.ref em), (.ref b4), .null, (.ref b3), (.ref b3)])
  refine GlW.st (fun _ kk => XS.aconstNull X6.here hx rfl (hb hby d1_22) kk) ?_
  show GlW Z ([] : List (String × Nat)) p e below s _ _ _ T6 (mkF m 23 #[.val (.ref a1)] [.null, (.ref em), (.ref b4), .null, (.ref b3), (.ref b3)])
  refine GlW.st (fun _ kk => XS.aconstNull X6.here hx rfl (hb hby d1_23) kk) ?_
  show GlW Z ([] : List (String × Nat)) p e below s _ _ _ T6 (mkF m 24 #[.val (.ref a1)] [.null, .null, (.ref em), (.ref b4), .null, (.ref b3), (.ref b3)])
  refine GlW.st (fun _ kk => XS.aconstNull X6.here hx rfl (hb hby d1_24) kk) ?_
  show GlW Z ([] : List (String × Nat)) p e below s _ _ _ T6 (mkF m 25 #[.val (.ref a1)] [.null, .null, .null, (.ref em), (.ref b4), .null, (.ref b3), (.ref b3)])
  obtain ⟨v7, _, ⟨T7, L7, kQ7, nQ7⟩, -, X7, ⟨Lc7, hQ7, l7, y7, z7⟩, st7⟩ := X6.specialBack hx (y := (⟨"com/example/tarry/tarry/Message", "<init>", "(Ljava/lang/String;[BLjava/util/Map;Ljava/lang/String;Ljava/lang/String;Ljava/lang/String;)V"⟩ : MethodName)) rfl hown (mvT hZ (hw _ (List.mem_of_getElem? (i := 33) rfl))) (mvT hZ (hw _ (List.mem_of_getElem? (i := 34) rfl))) (mvT hZ (hw _ (List.mem_of_getElem? (i := 35) rfl))) (by decide) (backOf (W := 1) (rmI l Z a0 hw [] b3 b4 em h4 n0 O4 Exa_b3 F_text_b3 F_bytes_b3 F_headers_b3 F_messageId_b3 F_correlationId_b3 F_replyTo_b3 ge_b3) hZ (hw _ (List.mem_of_getElem? (i := 35) rfl)) (hw _ (List.mem_of_getElem? (i := 3) rfl)) (by decide) (by decide)) (g := (mkF m 25 #[.val (.ref a1)] [.null, .null, .null, (.ref em), (.ref b4), .null, (.ref b3), (.ref b3)])) rfl (by rw [hml]; rfl) (Steps.refl _) (a := b3) (argsL := [.null, (.ref b4), (.ref em), .null, .null, .null]) (rest := [(.ref b3)]) (lenOf pd_rmB2_2 rfl) rfl (by show 2 * 0 + _ ≤ _; exact Nat.le_of_eq rfl) (hb hby d1_25) (fun _ _ => ⟨rfl, e6, (by decide : 4 + 0 ≤ _), (by decide : 28 + 0 ≤ _)⟩)
  dsimp only [Pt.U, Pt.locs, Pt.cells, Pt.slots] at X7 l7 y7 z7 st7 hQ7
  subst l7 y7 z7
  obtain ⟨h7, e7⟩ : ∃ z, T7.heap = z := ⟨_, rfl⟩
  rw [e7] at hQ7
  obtain ⟨rfl, Nq7, Kq7, F_text_q7, F_bytes_q7, F_headers_q7, F_messageId_q7, F_correlationId_q7, F_replyTo_q7⟩ := hQ7
  have N7 := Fr.app N6 Nq7
  refine GlW.st (fun _ kk => st7.trans kk) ?_
  have sfk7 : ∀ x ∈ [b3], Safe Z ([] : List (String × Nat)) _ _ x := (allS (Safe.exa hZ.alike Exa_b3 (by decide) (by decide)) all0)
  have Sf_b4 := Safe.keep Kq7 sfk7 HC4.1 Sf_b4
  have HC7 := HC4.trans (CHr.keep Kq7 sfk7 HC4.1)
  have hk7 := Nat.le_trans hk4 Kq7.1
  have Arv_a1 := Arv_a1.keep Kq7 (ninS ne_a1_b3 nin0)
  have Exa_a1 := Exa_a1.keep Kq7
  have Exa_b3 := Exa_b3.keep Kq7
  have Arv_b4 := Arv_b4.keep Kq7 (ninS (Ne.symm ne_b3_b4) nin0)
  have Exa_b4 := Exa_b4.keep Kq7
  have O7 := O4.keep Kq7 (allS ge_b3 all0)
  have K7 := K4.trans Kq7 (allS (Or.inr fr_b3) all0)
  have F_text_b3 := F_text_q7
  have F_bytes_b3 := F_bytes_q7
  have F_headers_b3 := F_headers_q7
  have F_messageId_b3 := F_messageId_q7
  have F_correlationId_b3 := F_correlationId_q7
  have F_replyTo_b3 := F_replyTo_q7
  show GlW Z ([] : List (String × Nat)) p e below s _ _ _ T7 (mkF m 28 #[.val (.ref a1)] [(.ref b3)])
  exact GlW.ret X7 hS1 hk7 hZ hEL hh0 HC7 (v := (some (.ref b3))) (fun h => by rw [Bd.returns] at h; cases h) (BodyLoose.notSynchronized Bd) (fun hr => retOut X7 hx Bd.returns rfl (Or.inr (Or.inr (Or.inr (Or.inr ⟨rfl, rfl, rfl⟩)))) (hb hby d1_28) hr) e7 ⟨b3, b4, rfl, N7, K7, Exa_b3, F_text_b3, F_bytes_b3, F_headers_b3, F_messageId_b3, F_correlationId_b3, F_replyTo_b3, Arv_b4, Exa_b4, fr_b3, fr_b4, Ne.symm (Ne.symm ne_b3_b4)⟩ (by decide) (by decide)
theorem d6_20 : decode method_3_code 20 = .ok (.aload_n 0, 1) := by decide +kernel
theorem d6_21 : decode method_3_code 21 = .ok (.iconst 1, 1) := by decide +kernel
theorem d6_22 : decode method_3_code 22 = .ok (.aload_n 0, 1) := by decide +kernel
theorem d6_23 : decode method_3_code 23 = .ok (.iconst 1, 1) := by decide +kernel
theorem d6_24 : decode method_3_code 24 = .ok (.baload, 1) := by decide +kernel
theorem d6_25 : decode method_3_code 25 = .ok (.iconst (-1), 1) := by decide +kernel
theorem d6_26 : decode method_3_code 26 = .ok (.ixor, 1) := by decide +kernel
theorem d6_27 : decode method_3_code 27 = .ok (.i2b, 1) := by decide +kernel
theorem d6_28 : decode method_3_code 28 = .ok (.bastore, 1) := by decide +kernel
theorem pn_rmF2 : plainName "com/example/tarry/tarry/MessageBytesPinLaw" = true := by first | (simp [plainName, overriddenIn]; done) | decide +kernel
theorem ef_rmF2 (m : MethodId) (a1 : Addr) : entryFrame m #[(.ref a1)] 1 = mkF m 0 #[.val (.ref a1)] [] := by first | (simp [entryFrame, mkF, argsToLocals, Value.category]; done) | rfl
def Q_rmF2 (Z : State) (a1 : Addr) (k1 : ClassId) (x0 x1 : Int32) (h0 : Heap) (n0 : Nat) (v : Option Value) (h : Heap) (L : List Loc) : Prop := v = none ∧ Fr n0 L ∧ Keep h0 h [a1]
set_option maxRecDepth 65536 in
set_option maxHeartbeats 40000000 in
theorem rmF2 (l : Launch) (Z : State) (a0 : Array Value) (hw : ∀ d ∈ tables_1, d.before a0 Z = true) (ws : List Jvm.Cond) (a1 : Addr) (k1 : ClassId) (x0 x1 : Int32) (h0 : Heap) (n0 : Nat) (O0 : Old Z n0 h0) (Arv_a1 : Arv Z h0 a1 k1 .byte (2 : Int32) [(.int (x0.toInt8.toInt32)), (.int (x1.toInt8.toInt32))] (.int 0)) (g1 : n0 ≤ a1) :
    MetFree l (⟨"com/example/tarry/tarry/MessageBytesPinLaw", "flip", "([B)V"⟩ : MethodName) (head1 (Jvm.Cond.code (⟨"com/example/tarry/tarry/MessageBytesPinLaw", "flip", "([B)V"⟩ : MethodName) method_3_code 1 none :: ws) ({ frames := 0, cells := 0, slots := 0, locals := 0 } : Room)) (fun a U => a = #[(.ref a1)] ∧ Z.Warmed39 U.vm ∧ U.heap = h0) (fun _ _ _ _ _ => True) (fun _ U o U' => ∃ v L, o = .returned v ∧ Q_rmF2 Z a1 k1 x0 x1 h0 n0 v U'.heap L ∧ FrameEnd U o U' L ({ frames := 0, cells := 0, slots := 0, locals := 0 } : Room).cells ({ frames := 0, cells := 0, slots := 0, locals := 0 } : Room).slots) := by
  refine MetFree.of_bodySF (plainFor_of_name pn_rmF2) hisR ?_
  intro p e s m args below meth c s₁ Bd hml0 hP hK
  obtain ⟨rfl, hZ, hh⟩ := hP
  have hx := Bd.exec
  have hby := Bd.bytes
  have hml : c.maxLocals = 1 := hml0
  have hown : s.vm.findClass "com/example/tarry/tarry/MessageBytesPinLaw" = some m.cls := findClass_of_methodNamed Bd.named
  have hnm := (name_of_methodNamed Bd.named Bd.method).1
  have X0 : Stand p l e ({ frames := 0, cells := 0, slots := 0, locals := 0 } : Room) s m #[(.ref a1)] below meth c s₁ [] 0 0 := Stand.of_body Bd
  have e0 : s₁.heap = h0 := by rw [← hh, Bd.state]; rfl
  have N0 := Fr.nil n0
  refine Gl.start (Q := Q_rmF2 Z a1 k1 x0 x1 h0 n0) (ef_rmF2 m a1) ?_
  show Gl p e below s _ _ _ s₁ (mkF m 0 #[.val (.ref a1)] [])
  refine Gl.st (fun _ kk => XS.aloadN X0.here hx rfl (hb hby d6_0) rfl rfl kk) ?_
  show Gl p e below s _ _ _ s₁ (mkF m 1 #[.val (.ref a1)] [(.ref a1)])
  obtain ⟨cl1, Ar1, q1, Sz1, Ng1, Ha1, Fi1⟩ := id Arv_a1
  refine Gl.st (fun _ kk => X0.arraylength hx (by rw [e0]; exact Ar1.1) (State.isArrayOf_alike hZ.alike Ar1.2.1) (g := (mkF m 1 #[.val (.ref a1)] [(.ref a1)])) rfl rfl (hb hby d6_1) _ kk) ?_
  rw [len_of Sz1 Ng1]
  show Gl p e below s _ _ _ s₁ (mkF m 2 #[.val (.ref a1)] [(.int (2 : Int32))])
  refine Gl.st (fun _ kk => XS.ifNo X0.here hx rfl (hb hby d6_2) rfl ((if0 _ _).trans (tlt (by decide : (0 : Int32) < (2 : Int32))).2.2.2) kk) ?_
  show Gl p e below s _ _ _ s₁ (mkF m 5 #[.val (.ref a1)] [])
  refine Gl.st (fun _ kk => XS.aloadN X0.here hx rfl (hb hby d6_5) rfl rfl kk) ?_
  show Gl p e below s _ _ _ s₁ (mkF m 6 #[.val (.ref a1)] [(.ref a1)])
  refine Gl.st (fun _ kk => XS.iconst X0.here hx rfl (hb hby d6_6) kk) ?_
  show Gl p e below s _ _ _ s₁ (mkF m 7 #[.val (.ref a1)] [(.int (0 : Int32)), (.ref a1)])
  refine Gl.st (fun _ kk => XS.aloadN X0.here hx rfl (hb hby d6_7) rfl rfl kk) ?_
  show Gl p e below s _ _ _ s₁ (mkF m 8 #[.val (.ref a1)] [(.ref a1), (.int (0 : Int32)), (.ref a1)])
  refine Gl.st (fun _ kk => XS.iconst X0.here hx rfl (hb hby d6_8) kk) ?_
  show Gl p e below s _ _ _ s₁ (mkF m 9 #[.val (.ref a1)] [(.int (0 : Int32)), (.ref a1), (.int (0 : Int32)), (.ref a1)])
  obtain ⟨cl2, Ar2, q2, Sz2, Ng2, Ha2, Fi2⟩ := id Arv_a1
  have hin2 : ¬ ((0 : Int32) < 0 ∨ cl2.slots.size ≤ ((0 : Int32)).toNatClampNeg) := inb_of Sz2 ⟨by decide, by decide⟩
  have hat2 : cl2.slots[((0 : Int32)).toNatClampNeg]? = some (.int (x0.toInt8.toInt32)) := Ha2.at hin2 rfl
  refine Gl.st (fun _ kk => X0.baloadBytes hx (j := (0 : Int32)) (v := (.int (x0.toInt8.toInt32))) (by rw [e0]; exact Ar2.1) (State.isArrayOf_alike hZ.alike Ar2.2.1) Ar2.2.2 hin2 hat2 (g := (mkF m 9 #[.val (.ref a1)] [(.int (0 : Int32)), (.ref a1), (.int (0 : Int32)), (.ref a1)])) rfl rfl (hb hby d6_9) _ kk) ?_
  show Gl p e below s _ _ _ s₁ (mkF m 10 #[.val (.ref a1)] [(.int (x0.toInt8.toInt32)), (.int (0 : Int32)), (.ref a1)])
  refine Gl.st (fun _ kk => XS.iconst X0.here hx rfl (hb hby d6_10) kk) ?_
  show Gl p e below s _ _ _ s₁ (mkF m 11 #[.val (.ref a1)] [(.int (-1 : Int32)), (.int (x0.toInt8.toInt32)), (.int (0 : Int32)), (.ref a1)])
  refine Gl.st (fun _ kk => XS.ixor X0.here hx rfl (hb hby d6_11) rfl kk) ?_
  show Gl p e below s _ _ _ s₁ (mkF m 12 #[.val (.ref a1)] [(.int ((x0.toInt8.toInt32) ^^^ (-1 : Int32))), (.int (0 : Int32)), (.ref a1)])
  refine Gl.st (fun _ kk => XS.i2b X0.here hx rfl (hb hby d6_12) rfl kk) ?_
  show Gl p e below s _ _ _ s₁ (mkF m 13 #[.val (.ref a1)] [(.int (((x0.toInt8.toInt32) ^^^ (-1 : Int32)).toInt8.toInt32)), (.int (0 : Int32)), (.ref a1)])
  obtain ⟨cl3, Ar3, q3, Sz3, Ng3, Ha3, Fi3⟩ := id Arv_a1
  have hin3 : ¬ ((0 : Int32) < 0 ∨ cl3.slots.size ≤ ((0 : Int32)).toNatClampNeg) := inb_of Sz3 ⟨by decide, by decide⟩
  obtain ⟨T3, h3, X3, e3, W3, st3⟩ := stB X0 hx hZ e0 Ar3 (j := (0 : Int32)) hin3 (g := (mkF m 13 #[.val (.ref a1)] [(.int (((x0.toInt8.toInt32) ^^^ (-1 : Int32)).toInt8.toInt32)), (.int (0 : Int32)), (.ref a1)])) rfl rfl (hb hby d6_13)
  refine Gl.st st3 ?_
  have Arv_a1 : Arv Z h3 a1 k1 .byte (2 : Int32) [(.int (nar .byte (((x0.toInt8.toInt32) ^^^ (-1 : Int32)).toInt8.toInt32))), (.int (x1.toInt8.toInt32))] (.int (0 : Int32)) := Arv.set Ar3 q3 Sz3 Ng3 Ha3 Fi3 (fits_nar_byte _) W3 0 rfl (Nat.le_of_ble_eq_true rfl)
  rw [own_nar8] at Arv_a1
  have O3 := O0.wr W3 g1
  have K3 := (Keep.refl h0 [a1]).wr W3 (Or.inl (List.mem_of_getElem? (i := 0) rfl))
  have N3 := Fr.snoc X3 N0 g1
  show Gl p e below s _ _ _ T3 (mkF m 14 #[.val (.ref a1)] [])
  refine Gl.st (fun _ kk => XS.aloadN X3.here hx rfl (hb hby d6_14) rfl rfl kk) ?_
  show Gl p e below s _ _ _ T3 (mkF m 15 #[.val (.ref a1)] [(.ref a1)])
  obtain ⟨cl4, Ar4, q4, Sz4, Ng4, Ha4, Fi4⟩ := id Arv_a1
  refine Gl.st (fun _ kk => X3.arraylength hx (by rw [e3]; exact Ar4.1) (State.isArrayOf_alike hZ.alike Ar4.2.1) (g := (mkF m 15 #[.val (.ref a1)] [(.ref a1)])) rfl rfl (hb hby d6_15) _ kk) ?_
  rw [len_of Sz4 Ng4]
  show Gl p e below s _ _ _ T3 (mkF m 16 #[.val (.ref a1)] [(.int (2 : Int32))])
  refine Gl.st (fun _ kk => XS.iconst X3.here hx rfl (hb hby d6_16) kk) ?_
  show Gl p e below s _ _ _ T3 (mkF m 17 #[.val (.ref a1)] [(.int (1 : Int32)), (.int (2 : Int32))])
  refine Gl.st (fun _ kk => XS.icmpNo X3.here hx rfl (hb hby d6_17) rfl (tlt (by decide : (1 : Int32) < (2 : Int32))).2.2.2 kk) ?_
  show Gl p e below s _ _ _ T3 (mkF m 20 #[.val (.ref a1)] [])
  refine Gl.st (fun _ kk => XS.aloadN X3.here hx rfl (hb hby d6_20) rfl rfl kk) ?_
  show Gl p e below s _ _ _ T3 (mkF m 21 #[.val (.ref a1)] [(.ref a1)])
  refine Gl.st (fun _ kk => XS.iconst X3.here hx rfl (hb hby d6_21) kk) ?_
  show Gl p e below s _ _ _ T3 (mkF m 22 #[.val (.ref a1)] [(.int (1 : Int32)), (.ref a1)])
  refine Gl.st (fun _ kk => XS.aloadN X3.here hx rfl (hb hby d6_22) rfl rfl kk) ?_
  show Gl p e below s _ _ _ T3 (mkF m 23 #[.val (.ref a1)] [(.ref a1), (.int (1 : Int32)), (.ref a1)])
  refine Gl.st (fun _ kk => XS.iconst X3.here hx rfl (hb hby d6_23) kk) ?_
  show Gl p e below s _ _ _ T3 (mkF m 24 #[.val (.ref a1)] [(.int (1 : Int32)), (.ref a1), (.int (1 : Int32)), (.ref a1)])
  obtain ⟨cl5, Ar5, q5, Sz5, Ng5, Ha5, Fi5⟩ := id Arv_a1
  have hin5 : ¬ ((1 : Int32) < 0 ∨ cl5.slots.size ≤ ((1 : Int32)).toNatClampNeg) := inb_of Sz5 ⟨by decide, by decide⟩
  have hat5 : cl5.slots[((1 : Int32)).toNatClampNeg]? = some (.int (x1.toInt8.toInt32)) := Ha5.at hin5 rfl
  refine Gl.st (fun _ kk => X3.baloadBytes hx (j := (1 : Int32)) (v := (.int (x1.toInt8.toInt32))) (by rw [e3]; exact Ar5.1) (State.isArrayOf_alike hZ.alike Ar5.2.1) Ar5.2.2 hin5 hat5 (g := (mkF m 24 #[.val (.ref a1)] [(.int (1 : Int32)), (.ref a1), (.int (1 : Int32)), (.ref a1)])) rfl rfl (hb hby d6_24) _ kk) ?_
  show Gl p e below s _ _ _ T3 (mkF m 25 #[.val (.ref a1)] [(.int (x1.toInt8.toInt32)), (.int (1 : Int32)), (.ref a1)])
  refine Gl.st (fun _ kk => XS.iconst X3.here hx rfl (hb hby d6_25) kk) ?_
  show Gl p e below s _ _ _ T3 (mkF m 26 #[.val (.ref a1)] [(.int (-1 : Int32)), (.int (x1.toInt8.toInt32)), (.int (1 : Int32)), (.ref a1)])
  refine Gl.st (fun _ kk => XS.ixor X3.here hx rfl (hb hby d6_26) rfl kk) ?_
  show Gl p e below s _ _ _ T3 (mkF m 27 #[.val (.ref a1)] [(.int ((x1.toInt8.toInt32) ^^^ (-1 : Int32))), (.int (1 : Int32)), (.ref a1)])
  refine Gl.st (fun _ kk => XS.i2b X3.here hx rfl (hb hby d6_27) rfl kk) ?_
  show Gl p e below s _ _ _ T3 (mkF m 28 #[.val (.ref a1)] [(.int (((x1.toInt8.toInt32) ^^^ (-1 : Int32)).toInt8.toInt32)), (.int (1 : Int32)), (.ref a1)])
  obtain ⟨cl6, Ar6, q6, Sz6, Ng6, Ha6, Fi6⟩ := id Arv_a1
  have hin6 : ¬ ((1 : Int32) < 0 ∨ cl6.slots.size ≤ ((1 : Int32)).toNatClampNeg) := inb_of Sz6 ⟨by decide, by decide⟩
  obtain ⟨T6, h6, X6, e6, W6, st6⟩ := stB X3 hx hZ e3 Ar6 (j := (1 : Int32)) hin6 (g := (mkF m 28 #[.val (.ref a1)] [(.int (((x1.toInt8.toInt32) ^^^ (-1 : Int32)).toInt8.toInt32)), (.int (1 : Int32)), (.ref a1)])) rfl rfl (hb hby d6_28)
  refine Gl.st st6 ?_
  have Arv_a1 : Arv Z h6 a1 k1 .byte (2 : Int32) [(.int (((x0.toInt8.toInt32) ^^^ (-1 : Int32)).toInt8.toInt32)), (.int (nar .byte (((x1.toInt8.toInt32) ^^^ (-1 : Int32)).toInt8.toInt32)))] (.int (0 : Int32)) := Arv.set Ar6 q6 Sz6 Ng6 Ha6 Fi6 (fits_nar_byte _) W6 1 rfl (Nat.le_of_ble_eq_true rfl)
  rw [own_nar8] at Arv_a1
  have O6 := O3.wr W6 g1
  have K6 := K3.wr W6 (Or.inl (List.mem_of_getElem? (i := 0) rfl))
  have N6 := Fr.snoc X6 N3 g1
  show Gl p e below s _ _ _ T6 (mkF m 29 #[.val (.ref a1)] [])
  refine Gl.st (fun _ kk => XS.aloadN X6.here hx rfl (hb hby d6_29) rfl rfl kk) ?_
  show Gl p e below s _ _ _ T6 (mkF m 30 #[.val (.ref a1)] [(.ref a1)])
  obtain ⟨cl7, Ar7, q7, Sz7, Ng7, Ha7, Fi7⟩ := id Arv_a1
  refine Gl.st (fun _ kk => X6.arraylength hx (by rw [e6]; exact Ar7.1) (State.isArrayOf_alike hZ.alike Ar7.2.1) (g := (mkF m 30 #[.val (.ref a1)] [(.ref a1)])) rfl rfl (hb hby d6_30) _ kk) ?_
  rw [len_of Sz7 Ng7]
  show Gl p e below s _ _ _ T6 (mkF m 31 #[.val (.ref a1)] [(.int (2 : Int32))])
  refine Gl.st (fun _ kk => XS.iconst X6.here hx rfl (hb hby d6_31) kk) ?_
  show Gl p e below s _ _ _ T6 (mkF m 32 #[.val (.ref a1)] [(.int (2 : Int32)), (.int (2 : Int32))])
  refine Gl.st (fun _ kk => XS.icmpYes X6.here hx rfl (pc0 := 32) (pc' := 44) rfl (hb hby d6_32) rfl (flt (by decide : ¬ ((2 : Int32) < (2 : Int32)))).2.2.2 (by decide) (by decide) kk) ?_
  show Gl p e below s _ _ _ T6 (mkF m 44 #[.val (.ref a1)] [])
  exact Gl.ret X6 (v := none) (fun _ => rfl) (BodyLoose.notSynchronized Bd) (fun hr => X6.returnOut hx Bd.returns (hb hby d6_44) hr) e6 ⟨rfl, N6, K6⟩ (by decide) (by decide)
theorem pn_rmG2 : plainName "com/example/tarry/tarry/Message" = true := by first | (simp [plainName, overriddenIn]; done) | decide +kernel
theorem ef_rmG2 (m : MethodId) (a1 : Addr) : entryFrame m #[(.ref a1)] 1 = mkF m 0 #[.val (.ref a1)] [] := by first | (simp [entryFrame, mkF, argsToLocals, Value.category]; done) | rfl
def Q_rmG2 (Z : State) (a1 : Addr) (t : Addr) (k1 : ClassId) (x0 x1 : Int32) (h0 : Heap) (n0 : Nat) (v : Option Value) (h : Heap) (L : List Loc) : Prop := ∃ b, v = some (.ref b) ∧ Fr n0 L ∧ Keep h0 h [] ∧ Arv Z h b k1 .byte (2 : Int32) [(.int (x0.toInt8.toInt32)), (.int (x1.toInt8.toInt32))] (.int 0) ∧ h0.size ≤ b
set_option maxRecDepth 65536 in
set_option maxHeartbeats 40000000 in
theorem rmG2 (l : Launch) (Z : State) (a0 : Array Value) (hw : ∀ d ∈ tables_1, d.before a0 Z = true) (ws : List Jvm.Cond) (a1 : Addr) (t : Addr) (k1 : ClassId) (x0 x1 : Int32) (h0 : Heap) (n0 : Nat) (O0 : Old Z n0 h0) (F_bytes_a1 : Fld Z h0 a1 "com/example/tarry/tarry/Message" "bytes" "[B" (.ref t)) (Arv_t : Arv Z h0 t k1 .byte (2 : Int32) [(.int (x0.toInt8.toInt32)), (.int (x1.toInt8.toInt32))] (.int 0)) (Exa_t : Exa Z h0 t "[B") :
    MetFree l (⟨"com/example/tarry/tarry/Message", "bytes", "()[B"⟩ : MethodName) (head1 (Jvm.Cond.code (⟨"com/example/tarry/tarry/Message", "bytes", "()[B"⟩ : MethodName) prog_13_method_6_code 1 (some (.array .byte)) :: ws) ({ frames := 1, cells := 1, slots := 2, locals := 14 } : Room)) (fun a U => a = #[(.ref a1)] ∧ Z.Warmed39 U.vm ∧ U.heap = h0) (fun _ _ _ _ _ => True) (fun _ U o U' => ∃ v L, o = .returned v ∧ Q_rmG2 Z a1 t k1 x0 x1 h0 n0 v U'.heap L ∧ FrameEnd U o U' L ({ frames := 1, cells := 1, slots := 2, locals := 14 } : Room).cells ({ frames := 1, cells := 1, slots := 2, locals := 14 } : Room).slots) := by
  refine MetFree.of_bodySF (plainFor_of_name pn_rmG2) hisR ?_
  intro p e s m args below meth c s₁ Bd hml0 hP hK
  obtain ⟨rfl, hZ, hh⟩ := hP
  have hx := Bd.exec
  have hby := Bd.bytes
  have hml : c.maxLocals = 1 := hml0
  have hown : s.vm.findClass "com/example/tarry/tarry/Message" = some m.cls := findClass_of_methodNamed Bd.named
  have hnm := (name_of_methodNamed Bd.named Bd.method).1
  have X0 : Stand p l e ({ frames := 1, cells := 1, slots := 2, locals := 14 } : Room) s m #[(.ref a1)] below meth c s₁ [] 0 0 := Stand.of_body Bd
  have e0 : s₁.heap = h0 := by rw [← hh, Bd.state]; rfl
  have N0 := Fr.nil n0
  refine Gl.start (Q := Q_rmG2 Z a1 t k1 x0 x1 h0 n0) (ef_rmG2 m a1) ?_
  show Gl p e below s _ _ _ s₁ (mkF m 0 #[.val (.ref a1)] [])
  refine Gl.st (fun _ kk => XS.aloadN X0.here hx rfl (hb hby d7_0) rfl rfl kk) ?_
  show Gl p e below s _ _ _ s₁ (mkF m 1 #[.val (.ref a1)] [(.ref a1)])
  obtain ⟨T1, X1, e1, st1⟩ := getF X0 hx hZ hown (host := "") (Or.inl (hw _ (List.mem_of_getElem? (i := 41) rfl))) Via.refl e0 F_bytes_a1 (g := (mkF m 1 #[.val (.ref a1)] [(.ref a1)])) rfl rfl (hb hby d7_1)
  refine Gl.st st1 ?_
  show Gl p e below s _ _ _ T1 (mkF m 4 #[.val (.ref a1)] [(.ref t)])
  refine Gl.st (fun _ kk => XS.ifnonnullYes X1.here hx rfl (pc0 := 4) (pc' := 17) rfl (hb hby d7_4) rfl (by decide) (by decide) kk) ?_
  show Gl p e below s _ _ _ T1 (mkF m 17 #[.val (.ref a1)] [])
  refine Gl.st (fun _ kk => XS.aloadN X1.here hx rfl (hb hby d7_17) rfl rfl kk) ?_
  show Gl p e below s _ _ _ T1 (mkF m 18 #[.val (.ref a1)] [(.ref a1)])
  obtain ⟨T2, X2, e2, st2⟩ := getF X1 hx hZ hown (host := "") (Or.inl (hw _ (List.mem_of_getElem? (i := 41) rfl))) Via.refl e1 F_bytes_a1 (g := (mkF m 18 #[.val (.ref a1)] [(.ref a1)])) rfl rfl (hb hby d7_18)
  refine Gl.st st2 ?_
  show Gl p e below s _ _ _ T2 (mkF m 21 #[.val (.ref a1)] [(.ref t)])
  obtain ⟨T3, h3, X3, e3, E3, A3, Ax3, st3⟩ := cloneH X2 hx hZ hown (hw _ (List.mem_of_getElem? (i := 18) rfl)) (hw _ (List.mem_of_getElem? (i := 19) rfl)) (hw _ (List.mem_of_getElem? (i := 23) rfl)) (hw _ (List.mem_of_getElem? (i := 21) rfl)) (hw _ (List.mem_of_getElem? (i := 22) rfl)) (hw _ (List.mem_of_getElem? (i := 24) rfl)) e2 (Arv.arh Arv_t) Exa_t (g := (mkF m 21 #[.val (.ref a1)] [(.ref t)])) rfl (by rw [hml]; rfl) rfl (hb hby d7_21) (by decide) (W := 0) (cap := 2) (by show 2 * 0 + _ ≤ _; exact Nat.le_of_eq rfl) (by decide) (by decide) (by decide) (by decide)
  obtain ⟨b3, g3⟩ : ∃ z, z = h0.size := ⟨_, rfl⟩
  rw [← g3] at A3 Ax3 st3
  refine Gl.st st3 ?_
  have ne_a1_b3 : a1 ≠ b3 := Nat.ne_of_lt (Nat.lt_of_lt_of_eq F_bytes_a1.lt g3.symm)
  have ne_t_b3 : t ≠ b3 := Nat.ne_of_lt (Nat.lt_of_lt_of_eq Arv_t.lt g3.symm)
  have ge_b3 : n0 ≤ b3 := Nat.le_trans (Nat.le_trans (Nat.le_of_eq O0.1.symm) O0.2.1) (Nat.le_of_eq g3.symm)
  have fr_b3 : h0.size ≤ b3 := Nat.le_trans (Nat.le_refl _) (Nat.le_of_eq g3.symm)
  have F_bytes_a1 := F_bytes_a1.ext E3
  have Arv_t := Arv_t.ext E3
  have Exa_t := Exa_t.ext E3
  have O3 := O0.ext E3
  have K3 := (Keep.refl h0 []).ext E3
  have Arv_b3 : Arv Z h3 b3 k1 .byte (2 : Int32) [(.int (x0.toInt8.toInt32)), (.int (x1.toInt8.toInt32))] (.int (0 : Int32)) := A3
  have Exa_b3 := Ax3
  show Gl p e below s _ _ _ T3 (mkF m 24 #[.val (.ref a1)] [(.ref b3)])
  obtain ⟨T4, X4, e4, st4⟩ := castY X3 hx hZ hown (hw _ (List.mem_of_getElem? (i := 25) rfl)) e3 (Ins.self Exa_b3) (g := (mkF m 24 #[.val (.ref a1)] [(.ref b3)])) rfl rfl (hb hby d7_24)
  refine Gl.st st4 ?_
  show Gl p e below s _ _ _ T4 (mkF m 27 #[.val (.ref a1)] [(.ref b3)])
  exact Gl.ret X4 (v := (some (.ref b3))) (fun h => by rw [Bd.returns] at h; cases h) (BodyLoose.notSynchronized Bd) (fun hr => retOut X4 hx Bd.returns rfl (Or.inr (Or.inr (Or.inr (Or.inr ⟨rfl, rfl, rfl⟩)))) (hb hby d7_27) hr) e4 ⟨b3, rfl, N0, K3, Arv_b3, fr_b3⟩ (by decide) (by decide)
theorem d12_27 : decode method_4_code 27 = .ok (.aload_n 0, 1) := by decide +kernel
theorem d12_28 : decode method_4_code 28 = .ok (.iconst 1, 1) := by decide +kernel
theorem d12_29 : decode method_4_code 29 = .ok (.baload, 1) := by decide +kernel
theorem d12_30 : decode method_4_code 30 = .ok (.iload_n 3, 1) := by decide +kernel
theorem d12_31 : decode method_4_code 31 = .ok (.i2b, 1) := by decide +kernel
theorem d12_32 : decode method_4_code 32 = .ok (.if_icmp .eq 5, 3) := by decide +kernel
theorem pn_rmS2 : plainName "com/example/tarry/tarry/MessageBytesPinLaw" = true := by first | (simp [plainName, overriddenIn]; done) | decide +kernel
theorem ef_rmS2 (m : MethodId) (a1 : Addr) (x0 : Int32) (x1 : Int32) (x2 : Int32) : entryFrame m #[(.ref a1), (.int (2 : Int32)), (.int x0), (.int x1), (.int x2)] 5 = mkF m 0 #[.val (.ref a1), .val (.int (2 : Int32)), .val (.int x0), .val (.int x1), .val (.int x2)] [] := by first | (simp [entryFrame, mkF, argsToLocals, Value.category]; done) | rfl
def Q_rmS2 (Z : State) (a1 : Addr) (x0 : Int32) (x1 : Int32) (x2 : Int32) (k1 : ClassId) (h0 : Heap) (n0 : Nat) (v : Option Value) (h : Heap) (L : List Loc) : Prop := v = some (.int 1) ∧ Fr n0 L ∧ h = h0
set_option maxRecDepth 65536 in
set_option maxHeartbeats 40000000 in
theorem rmS2 (l : Launch) (Z : State) (a0 : Array Value) (hw : ∀ d ∈ tables_1, d.before a0 Z = true) (ws : List Jvm.Cond) (a1 : Addr) (x0 : Int32) (x1 : Int32) (x2 : Int32) (k1 : ClassId) (h0 : Heap) (n0 : Nat) (O0 : Old Z n0 h0) (Arv_a1 : Arv Z h0 a1 k1 .byte (2 : Int32) [(.int (x0.toInt8.toInt32)), (.int (x1.toInt8.toInt32))] (.int 0)) :
    MetFree l (⟨"com/example/tarry/tarry/MessageBytesPinLaw", "same", "([BIIII)Z"⟩ : MethodName) (head1 (Jvm.Cond.code (⟨"com/example/tarry/tarry/MessageBytesPinLaw", "same", "([BIIII)Z"⟩ : MethodName) method_4_code 5 (some .boolean) :: ws) ({ frames := 0, cells := 0, slots := 0, locals := 0 } : Room)) (fun a U => a = #[(.ref a1), (.int (2 : Int32)), (.int x0), (.int x1), (.int x2)] ∧ Z.Warmed39 U.vm ∧ U.heap = h0) (fun _ _ _ _ _ => True) (fun _ U o U' => ∃ v L, o = .returned v ∧ Q_rmS2 Z a1 x0 x1 x2 k1 h0 n0 v U'.heap L ∧ FrameEnd U o U' L ({ frames := 0, cells := 0, slots := 0, locals := 0 } : Room).cells ({ frames := 0, cells := 0, slots := 0, locals := 0 } : Room).slots) := by
  refine MetFree.of_bodySF (plainFor_of_name pn_rmS2) hisR ?_
  intro p e s m args below meth c s₁ Bd hml0 hP hK
  obtain ⟨rfl, hZ, hh⟩ := hP
  have hx := Bd.exec
  have hby := Bd.bytes
  have hml : c.maxLocals = 5 := hml0
  have hown : s.vm.findClass "com/example/tarry/tarry/MessageBytesPinLaw" = some m.cls := findClass_of_methodNamed Bd.named
  have hnm := (name_of_methodNamed Bd.named Bd.method).1
  have X0 : Stand p l e ({ frames := 0, cells := 0, slots := 0, locals := 0 } : Room) s m #[(.ref a1), (.int (2 : Int32)), (.int x0), (.int x1), (.int x2)] below meth c s₁ [] 0 0 := Stand.of_body Bd
  have e0 : s₁.heap = h0 := by rw [← hh, Bd.state]; rfl
  have N0 := Fr.nil n0
  refine Gl.start (Q := Q_rmS2 Z a1 x0 x1 x2 k1 h0 n0) (ef_rmS2 m a1 x0 x1 x2) ?_
  show Gl p e below s _ _ _ s₁ (mkF m 0 #[.val (.ref a1), .val (.int (2 : Int32)), .val (.int x0), .val (.int x1), .val (.int x2)] [])
  refine Gl.st (fun _ kk => XS.aloadN X0.here hx rfl (hb hby d12_0) rfl rfl kk) ?_
  show Gl p e below s _ _ _ s₁ (mkF m 1 #[.val (.ref a1), .val (.int (2 : Int32)), .val (.int x0), .val (.int x1), .val (.int x2)] [(.ref a1)])
  obtain ⟨cl1, Ar1, q1, Sz1, Ng1, Ha1, Fi1⟩ := id Arv_a1
  refine Gl.st (fun _ kk => X0.arraylength hx (by rw [e0]; exact Ar1.1) (State.isArrayOf_alike hZ.alike Ar1.2.1) (g := (mkF m 1 #[.val (.ref a1), .val (.int (2 : Int32)), .val (.int x0), .val (.int x1), .val (.int x2)] [(.ref a1)])) rfl rfl (hb hby d12_1) _ kk) ?_
  rw [len_of Sz1 Ng1]
  show Gl p e below s _ _ _ s₁ (mkF m 2 #[.val (.ref a1), .val (.int (2 : Int32)), .val (.int x0), .val (.int x1), .val (.int x2)] [(.int (2 : Int32))])
  refine Gl.st (fun _ kk => XS.iloadN X0.here hx rfl (hb hby d12_2) rfl kk) ?_
  show Gl p e below s _ _ _ s₁ (mkF m 3 #[.val (.ref a1), .val (.int (2 : Int32)), .val (.int x0), .val (.int x1), .val (.int x2)] [(.int (2 : Int32)), (.int (2 : Int32))])
  refine Gl.st (fun _ kk => XS.icmpYes X0.here hx rfl (pc0 := 3) (pc' := 8) rfl (hb hby d12_3) rfl (teq (by decide : (2 : Int32) = (2 : Int32))).1 (by decide) (by decide) kk) ?_
  show Gl p e below s _ _ _ s₁ (mkF m 8 #[.val (.ref a1), .val (.int (2 : Int32)), .val (.int x0), .val (.int x1), .val (.int x2)] [])
  refine Gl.st (fun _ kk => XS.iloadN X0.here hx rfl (hb hby d12_8) rfl kk) ?_
  show Gl p e below s _ _ _ s₁ (mkF m 9 #[.val (.ref a1), .val (.int (2 : Int32)), .val (.int x0), .val (.int x1), .val (.int x2)] [(.int (2 : Int32))])
  refine Gl.st (fun _ kk => XS.ifNo X0.here hx rfl (hb hby d12_9) rfl ((if0 _ _).trans (tlt (by decide : (0 : Int32) < (2 : Int32))).2.2.2) kk) ?_
  show Gl p e below s _ _ _ s₁ (mkF m 12 #[.val (.ref a1), .val (.int (2 : Int32)), .val (.int x0), .val (.int x1), .val (.int x2)] [])
  refine Gl.st (fun _ kk => XS.aloadN X0.here hx rfl (hb hby d12_12) rfl rfl kk) ?_
  show Gl p e below s _ _ _ s₁ (mkF m 13 #[.val (.ref a1), .val (.int (2 : Int32)), .val (.int x0), .val (.int x1), .val (.int x2)] [(.ref a1)])
  refine Gl.st (fun _ kk => XS.iconst X0.here hx rfl (hb hby d12_13) kk) ?_
  show Gl p e below s _ _ _ s₁ (mkF m 14 #[.val (.ref a1), .val (.int (2 : Int32)), .val (.int x0), .val (.int x1), .val (.int x2)] [(.int (0 : Int32)), (.ref a1)])
  obtain ⟨cl2, Ar2, q2, Sz2, Ng2, Ha2, Fi2⟩ := id Arv_a1
  have hin2 : ¬ ((0 : Int32) < 0 ∨ cl2.slots.size ≤ ((0 : Int32)).toNatClampNeg) := inb_of Sz2 ⟨by decide, by decide⟩
  have hat2 : cl2.slots[((0 : Int32)).toNatClampNeg]? = some (.int (x0.toInt8.toInt32)) := Ha2.at hin2 rfl
  refine Gl.st (fun _ kk => X0.baloadBytes hx (j := (0 : Int32)) (v := (.int (x0.toInt8.toInt32))) (by rw [e0]; exact Ar2.1) (State.isArrayOf_alike hZ.alike Ar2.2.1) Ar2.2.2 hin2 hat2 (g := (mkF m 14 #[.val (.ref a1), .val (.int (2 : Int32)), .val (.int x0), .val (.int x1), .val (.int x2)] [(.int (0 : Int32)), (.ref a1)])) rfl rfl (hb hby d12_14) _ kk) ?_
  show Gl p e below s _ _ _ s₁ (mkF m 15 #[.val (.ref a1), .val (.int (2 : Int32)), .val (.int x0), .val (.int x1), .val (.int x2)] [(.int (x0.toInt8.toInt32))])
  refine Gl.st (fun _ kk => XS.iloadN X0.here hx rfl (hb hby d12_15) rfl kk) ?_
  show Gl p e below s _ _ _ s₁ (mkF m 16 #[.val (.ref a1), .val (.int (2 : Int32)), .val (.int x0), .val (.int x1), .val (.int x2)] [(.int x0), (.int (x0.toInt8.toInt32))])
  refine Gl.st (fun _ kk => XS.i2b X0.here hx rfl (hb hby d12_16) rfl kk) ?_
  show Gl p e below s _ _ _ s₁ (mkF m 17 #[.val (.ref a1), .val (.int (2 : Int32)), .val (.int x0), .val (.int x1), .val (.int x2)] [(.int (x0.toInt8.toInt32)), (.int (x0.toInt8.toInt32))])
  refine Gl.st (fun _ kk => XS.icmpYes X0.here hx rfl (pc0 := 17) (pc' := 22) rfl (hb hby d12_17) rfl (teq (rfl : (x0.toInt8.toInt32) = (x0.toInt8.toInt32))).1 (by decide) (by decide) kk) ?_
  show Gl p e below s _ _ _ s₁ (mkF m 22 #[.val (.ref a1), .val (.int (2 : Int32)), .val (.int x0), .val (.int x1), .val (.int x2)] [])
  refine Gl.st (fun _ kk => XS.iloadN X0.here hx rfl (hb hby d12_22) rfl kk) ?_
  show Gl p e below s _ _ _ s₁ (mkF m 23 #[.val (.ref a1), .val (.int (2 : Int32)), .val (.int x0), .val (.int x1), .val (.int x2)] [(.int (2 : Int32))])
  refine Gl.st (fun _ kk => XS.iconst X0.here hx rfl (hb hby d12_23) kk) ?_
  show Gl p e below s _ _ _ s₁ (mkF m 24 #[.val (.ref a1), .val (.int (2 : Int32)), .val (.int x0), .val (.int x1), .val (.int x2)] [(.int (1 : Int32)), (.int (2 : Int32))])
  refine Gl.st (fun _ kk => XS.icmpNo X0.here hx rfl (hb hby d12_24) rfl (tlt (by decide : (1 : Int32) < (2 : Int32))).2.2.2 kk) ?_
  show Gl p e below s _ _ _ s₁ (mkF m 27 #[.val (.ref a1), .val (.int (2 : Int32)), .val (.int x0), .val (.int x1), .val (.int x2)] [])
  refine Gl.st (fun _ kk => XS.aloadN X0.here hx rfl (hb hby d12_27) rfl rfl kk) ?_
  show Gl p e below s _ _ _ s₁ (mkF m 28 #[.val (.ref a1), .val (.int (2 : Int32)), .val (.int x0), .val (.int x1), .val (.int x2)] [(.ref a1)])
  refine Gl.st (fun _ kk => XS.iconst X0.here hx rfl (hb hby d12_28) kk) ?_
  show Gl p e below s _ _ _ s₁ (mkF m 29 #[.val (.ref a1), .val (.int (2 : Int32)), .val (.int x0), .val (.int x1), .val (.int x2)] [(.int (1 : Int32)), (.ref a1)])
  obtain ⟨cl3, Ar3, q3, Sz3, Ng3, Ha3, Fi3⟩ := id Arv_a1
  have hin3 : ¬ ((1 : Int32) < 0 ∨ cl3.slots.size ≤ ((1 : Int32)).toNatClampNeg) := inb_of Sz3 ⟨by decide, by decide⟩
  have hat3 : cl3.slots[((1 : Int32)).toNatClampNeg]? = some (.int (x1.toInt8.toInt32)) := Ha3.at hin3 rfl
  refine Gl.st (fun _ kk => X0.baloadBytes hx (j := (1 : Int32)) (v := (.int (x1.toInt8.toInt32))) (by rw [e0]; exact Ar3.1) (State.isArrayOf_alike hZ.alike Ar3.2.1) Ar3.2.2 hin3 hat3 (g := (mkF m 29 #[.val (.ref a1), .val (.int (2 : Int32)), .val (.int x0), .val (.int x1), .val (.int x2)] [(.int (1 : Int32)), (.ref a1)])) rfl rfl (hb hby d12_29) _ kk) ?_
  show Gl p e below s _ _ _ s₁ (mkF m 30 #[.val (.ref a1), .val (.int (2 : Int32)), .val (.int x0), .val (.int x1), .val (.int x2)] [(.int (x1.toInt8.toInt32))])
  refine Gl.st (fun _ kk => XS.iloadN X0.here hx rfl (hb hby d12_30) rfl kk) ?_
  show Gl p e below s _ _ _ s₁ (mkF m 31 #[.val (.ref a1), .val (.int (2 : Int32)), .val (.int x0), .val (.int x1), .val (.int x2)] [(.int x1), (.int (x1.toInt8.toInt32))])
  refine Gl.st (fun _ kk => XS.i2b X0.here hx rfl (hb hby d12_31) rfl kk) ?_
  show Gl p e below s _ _ _ s₁ (mkF m 32 #[.val (.ref a1), .val (.int (2 : Int32)), .val (.int x0), .val (.int x1), .val (.int x2)] [(.int (x1.toInt8.toInt32)), (.int (x1.toInt8.toInt32))])
  refine Gl.st (fun _ kk => XS.icmpYes X0.here hx rfl (pc0 := 32) (pc' := 37) rfl (hb hby d12_32) rfl (teq (rfl : (x1.toInt8.toInt32) = (x1.toInt8.toInt32))).1 (by decide) (by decide) kk) ?_
  show Gl p e below s _ _ _ s₁ (mkF m 37 #[.val (.ref a1), .val (.int (2 : Int32)), .val (.int x0), .val (.int x1), .val (.int x2)] [])
  refine Gl.st (fun _ kk => XS.iloadN X0.here hx rfl (hb hby d12_37) rfl kk) ?_
  show Gl p e below s _ _ _ s₁ (mkF m 38 #[.val (.ref a1), .val (.int (2 : Int32)), .val (.int x0), .val (.int x1), .val (.int x2)] [(.int (2 : Int32))])
  refine Gl.st (fun _ kk => XS.iconst X0.here hx rfl (hb hby d12_38) kk) ?_
  show Gl p e below s _ _ _ s₁ (mkF m 39 #[.val (.ref a1), .val (.int (2 : Int32)), .val (.int x0), .val (.int x1), .val (.int x2)] [(.int (2 : Int32)), (.int (2 : Int32))])
  refine Gl.st (fun _ kk => XS.icmpYes X0.here hx rfl (pc0 := 39) (pc' := 53) rfl (hb hby d12_39) rfl (flt (by decide : ¬ ((2 : Int32) < (2 : Int32)))).2.2.2 (by decide) (by decide) kk) ?_
  show Gl p e below s _ _ _ s₁ (mkF m 53 #[.val (.ref a1), .val (.int (2 : Int32)), .val (.int x0), .val (.int x1), .val (.int x2)] [])
  refine Gl.st (fun _ kk => XS.iconst X0.here hx rfl (hb hby d12_53) kk) ?_
  show Gl p e below s _ _ _ s₁ (mkF m 54 #[.val (.ref a1), .val (.int (2 : Int32)), .val (.int x0), .val (.int x1), .val (.int x2)] [(.int (1 : Int32))])
  exact Gl.ret X0 (v := (some (.int (1 : Int32)))) (fun h => by rw [Bd.returns] at h; cases h) (BodyLoose.notSynchronized Bd) (fun hr => retN X0 hx (t := .boolean) Bd.returns (by simp) (hb hby d12_54) hr) e0 ⟨rfl, N0, rfl⟩ (by decide) (by decide)
theorem pd_rmB3_0 : parseMethodDescriptor "(Ljava/lang/Object;Ljava/lang/String;)Ljava/lang/Object;" = some ⟨[(.object "java/lang/Object"), (.object "java/lang/String")], some (.object "java/lang/Object")⟩ := by decide +kernel
theorem pd_rmB3_1 : parseMethodDescriptor "()Ljava/util/Map;" = some ⟨[], some (.object "java/util/Map")⟩ := by decide +kernel
theorem pd_rmB3_2 : parseMethodDescriptor "(Ljava/lang/String;[BLjava/util/Map;Ljava/lang/String;Ljava/lang/String;Ljava/lang/String;)V" = some ⟨[(.object "java/lang/String"), (.array .byte), (.object "java/util/Map"), (.object "java/lang/String"), (.object "java/lang/String"), (.object "java/lang/String")], none⟩ := by decide +kernel
theorem pn_rmB3 : plainName "com/example/tarry/tarry/Message" = true := by first | (simp [plainName, overriddenIn]; done) | decide +kernel
theorem ef_rmB3 (m : MethodId) (a1 : Addr) : entryFrame m #[(.ref a1)] 1 = mkF m 0 #[.val (.ref a1)] [] := by first | (simp [entryFrame, mkF, argsToLocals, Value.category]; done) | rfl
def Q_rmB3 (Z : State) (a1 : Addr) (k1 : ClassId) (x0 x1 x2 : Int32) (em : Addr) (h0 : Heap) (n0 : Nat) (v : Option Value) (h : Heap) (L : List Loc) : Prop := ∃ b t, v = some (.ref b) ∧ Fr n0 L ∧ Keep h0 h [] ∧ Exa Z h b "com/example/tarry/tarry/Message" ∧ Fld Z h b "com/example/tarry/tarry/Message" "text" "Ljava/lang/String;" .null ∧ Fld Z h b "com/example/tarry/tarry/Message" "bytes" "[B" (.ref t) ∧ Fld Z h b "com/example/tarry/tarry/Message" "headers" "Ljava/util/Map;" (.ref em) ∧ Fld Z h b "com/example/tarry/tarry/Message" "messageId" "Ljava/lang/String;" .null ∧ Fld Z h b "com/example/tarry/tarry/Message" "correlationId" "Ljava/lang/String;" .null ∧ Fld Z h b "com/example/tarry/tarry/Message" "replyTo" "Ljava/lang/String;" .null ∧ Arv Z h t k1 .byte (3 : Int32) [(.int (x0.toInt8.toInt32)), (.int (x1.toInt8.toInt32)), (.int (x2.toInt8.toInt32))] (.int 0) ∧ Exa Z h t "[B" ∧ h0.size ≤ b ∧ h0.size ≤ t ∧ b ≠ t
set_option maxRecDepth 65536 in
set_option maxHeartbeats 40000000 in
theorem rmB3 (l : Launch) (Z : State) (a0 : Array Value) (hw : ∀ d ∈ tables_1, d.before a0 Z = true) (ws : List Jvm.Cond) (a1 : Addr) (k1 : ClassId) (x0 x1 x2 : Int32) (em : Addr) (h0 : Heap) (n0 : Nat) (O0 : Old Z n0 h0) (Arv_a1 : Arv Z h0 a1 k1 .byte (3 : Int32) [(.int (x0.toInt8.toInt32)), (.int (x1.toInt8.toInt32)), (.int (x2.toInt8.toInt32))] (.int 0)) (Exa_a1 : Exa Z h0 a1 "[B") (S_EM : Sta Z Z.heap "java/util/ImmutableCollections" "EMPTY_MAP" "Ljava/util/ImmutableCollections$MapN;" (.ref em)) :
    MetFree l (⟨"com/example/tarry/tarry/Message", "bytes", "([B)Lcom/example/tarry/tarry/Message;"⟩ : MethodName) (head1 (Jvm.Cond.code (⟨"com/example/tarry/tarry/Message", "bytes", "([B)Lcom/example/tarry/tarry/Message;"⟩ : MethodName) prog_13_method_3_code 1 (some (.object "com/example/tarry/tarry/Message")) :: ws) ({ frames := 2, cells := 4, slots := 29, locals := 31 } : Room)) (fun a U => a = #[(.ref a1)] ∧ Z.Warmed39 U.vm ∧ U.heap = h0 ∧ CHv Z ([] : List (String × Nat)) U.vm h0) (fun _ _ _ _ _ => True) (fun _ U o U' => ∃ v L, o = .returned v ∧ Q_rmB3 Z a1 k1 x0 x1 x2 em h0 n0 v U'.heap L ∧ CHr Z ([] : List (String × Nat)) U.vm U.heap U'.vm U'.heap ∧ ReturnedEndW U o U' L ({ frames := 2, cells := 4, slots := 29, locals := 31 } : Room).cells ({ frames := 2, cells := 4, slots := 29, locals := 31 } : Room).slots) := by
  refine MetFree.of_bodySF (plainFor_of_name pn_rmB3) hisR ?_
  intro p e s m args below meth c s₁ Bd hml0 hP hK
  obtain ⟨rfl, hZ, hh, H0⟩ := hP
  have hx := Bd.exec
  have hby := Bd.bytes
  have hml : c.maxLocals = 1 := hml0
  have hown : s.vm.findClass "com/example/tarry/tarry/Message" = some m.cls := findClass_of_methodNamed Bd.named
  have hnm := (name_of_methodNamed Bd.named Bd.method).1
  have X0 : Stand p l e ({ frames := 2, cells := 4, slots := 29, locals := 31 } : Room) (s.setVm s.vm) m #[(.ref a1)] below meth c s₁ [] 0 0 := Stand.of_body Bd
  have e0 : s₁.heap = h0 := by rw [← hh, Bd.state]; rfl
  have N0 := Fr.nil n0
  have hS0 : s.Since s.vm 0 := (State.WarmedH.refl s).since 0
  have hk0 : 0 ≤ h0.size := Nat.zero_le _
  have HC0 : CHr Z ([] : List (String × Nat)) s.vm h0 s.vm h0 := CHr.refl H0
  have hh0 : s.heap = h0 := hh
  refine GlW.start (Q := Q_rmB3 Z a1 k1 x0 x1 x2 em h0 n0) (ef_rmB3 m a1) ?_
  have hEL : EW Z a0 ([] : List (String × Nat)) := EW.nil
  have hwS : ∀ a ∈ Bundle.stringAtoms, a.before a0 Z = true := fun d hd => hw d ((by decide +kernel : ∀ d ∈ Bundle.stringAtoms, d ∈ tables_1) d hd)
  show GlW Z ([] : List (String × Nat)) p e below s _ _ _ s₁ (mkF m 0 #[.val (.ref a1)] [])
  refine GlW.st (fun _ kk => XS.aloadN X0.here hx rfl (hb hby d1_0) rfl rfl kk) ?_
  show GlW Z ([] : List (String × Nat)) p e below s _ _ _ s₁ (mkF m 1 #[.val (.ref a1)] [(.ref a1)])
  obtain ⟨la1, T1, h1, kn1, X1, e1, E1, hS1, hk1, hZ1, hown1, HR1, Li1, st1⟩ := ldcOH X0 hx hZ hown (hw _ (List.mem_of_getElem? (i := 5) rfl)) hwS e0 hS0 hk0 hEL HC0.1 (g := (mkF m 1 #[.val (.ref a1)] [(.ref a1)])) rfl (hb hby d1_1) (n := 16) (by decide) (by decide) (by decide) (by decide)
  refine GlW.st st1 ?_
  have Arv_a1 := Arv_a1.ext E1
  have Exa_a1 := Exa_a1.ext E1
  have O1 := O0.ext E1
  have K1 := (Keep.refl h0 []).ext E1
  have HC1 := HC0.trans HR1
  have hZ := hZ1
  have hown := hown1
  show GlW Z ([] : List (String × Nat)) p e below s _ _ _ T1 (mkF m 3 #[.val (.ref a1)] [(.ref la1), (.ref a1)])
  obtain ⟨v2, _, ⟨T2, L2, kQ2, nQ2⟩, -, X2, ⟨Lc2, hQ2, l2, y2, z2⟩, st2⟩ := Jvm.LawKit.callS X1 hx (y := (⟨"java/util/Objects", "requireNonNull", "(Ljava/lang/Object;Ljava/lang/String;)Ljava/lang/Object;"⟩ : MethodName)) hown (mvT hZ (hw _ (List.mem_of_getElem? (i := 12) rfl))) (mvT hZ (hw _ (List.mem_of_getElem? (i := 13) rfl))) (mvT hZ (hw _ (List.mem_of_getElem? (i := 14) rfl))) (mvT hZ (hw _ (List.mem_of_getElem? (i := 15) rfl))) (by decide) (backOf (W := 0) (rmRN l Z a0 hw [] a1 la1 h1 n0 O1) hZ (hw _ (List.mem_of_getElem? (i := 15) rfl)) (hw _ (List.mem_of_getElem? (i := 14) rfl)) (by decide) (by decide)) (g := (mkF m 3 #[.val (.ref a1)] [(.ref la1), (.ref a1)])) rfl (by rw [hml]; rfl) (argsL := [(.ref a1), (.ref la1)]) (rest := []) (lenOf pd_rmB3_0 rfl) rfl (by show 2 * 0 + _ ≤ _; exact Nat.le_of_eq rfl) (hb hby d1_3) (fun _ _ => ⟨rfl, e1, (by decide : 2 + 0 ≤ _), (by decide : 20 + 0 ≤ _)⟩)
  dsimp only [Pt.U, Pt.locs, Pt.cells, Pt.slots] at X2 l2 y2 z2 st2 hQ2
  subst l2 y2 z2
  obtain ⟨rfl, Nq2, e2⟩ := hQ2
  have N2 := Fr.app N0 Nq2
  refine GlW.st st2 ?_
  show GlW Z ([] : List (String × Nat)) p e below s _ _ _ T2 (mkF m 6 #[.val (.ref a1)] [(.ref a1)])
  refine GlW.st (fun _ kk => XS.pop X2.here hx rfl (hb hby d1_6) rfl rfl kk) ?_
  show GlW Z ([] : List (String × Nat)) p e below s _ _ _ T2 (mkF m 7 #[.val (.ref a1)] [])
  obtain ⟨T3, h3, X3, e3, E3, A3, D3, V3, st3⟩ := newO X2 hx hZ hown (hw _ (List.mem_of_getElem? (i := 16) rfl)) (hw _ (List.mem_of_getElem? (i := 17) rfl)) (hw _ (List.mem_of_getElem? (i := 3) rfl)) e2 (g := (mkF m 7 #[.val (.ref a1)] [])) rfl (hb hby d1_7) (by decide) (by decide)
  obtain ⟨b3, g3⟩ : ∃ z, z = h1.size := ⟨_, rfl⟩
  rw [← g3] at A3 D3 V3 st3
  refine GlW.st st3 ?_
  have ne_a1_b3 : a1 ≠ b3 := Nat.ne_of_lt (Nat.lt_of_lt_of_eq Arv_a1.lt g3.symm)
  have ge_b3 : n0 ≤ b3 := Nat.le_trans (Nat.le_trans (Nat.le_of_eq O1.1.symm) O1.2.1) (Nat.le_of_eq g3.symm)
  have fr_b3 : h0.size ≤ b3 := Nat.le_trans K1.1 (Nat.le_of_eq g3.symm)
  have HC3 := HC1.trans (CHr.ext E3 HC1.1)
  have hk3 := Nat.le_trans hk1 E3.1
  have Arv_a1 := Arv_a1.ext E3
  have Exa_a1 := Exa_a1.ext E3
  have O3 := O1.ext E3
  have K3 := K1.ext E3
  have Exa_b3 := A3
  have F_text_b3 : Fld Z h3 b3 "com/example/tarry/tarry/Message" "text" "Ljava/lang/String;" .null := D3 (Or.inr (hw _ (List.mem_of_getElem? (i := 40) rfl))) (ty := (.object "java/lang/String")) (by decide)
  have F_bytes_b3 : Fld Z h3 b3 "com/example/tarry/tarry/Message" "bytes" "[B" .null := D3 (Or.inr (hw _ (List.mem_of_getElem? (i := 42) rfl))) (ty := (.array .byte)) (by decide)
  have F_headers_b3 : Fld Z h3 b3 "com/example/tarry/tarry/Message" "headers" "Ljava/util/Map;" .null := D3 (Or.inr (hw _ (List.mem_of_getElem? (i := 44) rfl))) (ty := (.object "java/util/Map")) (by decide)
  have F_messageId_b3 : Fld Z h3 b3 "com/example/tarry/tarry/Message" "messageId" "Ljava/lang/String;" .null := D3 (Or.inr (hw _ (List.mem_of_getElem? (i := 46) rfl))) (ty := (.object "java/lang/String")) (by decide)
  have F_correlationId_b3 : Fld Z h3 b3 "com/example/tarry/tarry/Message" "correlationId" "Ljava/lang/String;" .null := D3 (Or.inr (hw _ (List.mem_of_getElem? (i := 48) rfl))) (ty := (.object "java/lang/String")) (by decide)
  have F_replyTo_b3 : Fld Z h3 b3 "com/example/tarry/tarry/Message" "replyTo" "Ljava/lang/String;" .null := D3 (Or.inr (hw _ (List.mem_of_getElem? (i := 50) rfl))) (ty := (.object "java/lang/String")) (by decide)
  show GlW Z ([] : List (String × Nat)) p e below s _ _ _ T3 (mkF m 10 #[.val (.ref a1)] [(.ref b3)])
  refine GlW.st (fun _ kk => XS.dup X3.here hx rfl (hb hby d1_10) rfl rfl kk) ?_
  show GlW Z ([] : List (String × Nat)) p e below s _ _ _ T3 (mkF m 11 #[.val (.ref a1)] [(.ref b3), (.ref b3)])
  refine GlW.st (fun _ kk => XS.aconstNull X3.here hx rfl (hb hby d1_11) kk) ?_
  show GlW Z ([] : List (String × Nat)) p e below s _ _ _ T3 (mkF m 12 #[.val (.ref a1)] [.null, (.ref b3), (.ref b3)])
  refine GlW.st (fun _ kk => XS.aloadN X3.here hx rfl (hb hby d1_12) rfl rfl kk) ?_
  show GlW Z ([] : List (String × Nat)) p e below s _ _ _ T3 (mkF m 13 #[.val (.ref a1)] [(.ref a1), .null, (.ref b3), (.ref b3)])
  obtain ⟨T4, h4, X4, e4, E4, A4, Ax4, st4⟩ := cloneH X3 hx hZ hown (hw _ (List.mem_of_getElem? (i := 18) rfl)) (hw _ (List.mem_of_getElem? (i := 19) rfl)) (hw _ (List.mem_of_getElem? (i := 23) rfl)) (hw _ (List.mem_of_getElem? (i := 21) rfl)) (hw _ (List.mem_of_getElem? (i := 22) rfl)) (hw _ (List.mem_of_getElem? (i := 24) rfl)) e3 (Arv.arh Arv_a1) Exa_a1 (g := (mkF m 13 #[.val (.ref a1)] [(.ref a1), .null, (.ref b3), (.ref b3)])) rfl (by rw [hml]; rfl) rfl (hb hby d1_13) (by decide) (W := 3) (cap := 3) (by show 2 * 0 + _ ≤ _; exact Nat.le_of_eq rfl) (by decide) (by decide) (by decide) (by decide)
  obtain ⟨b4, g4⟩ : ∃ z, z = h3.size := ⟨_, rfl⟩
  rw [← g4] at A4 Ax4 st4
  refine GlW.st st4 ?_
  have ne_a1_b4 : a1 ≠ b4 := Nat.ne_of_lt (Nat.lt_of_lt_of_eq Arv_a1.lt g4.symm)
  have ne_b3_b4 : b3 ≠ b4 := Nat.ne_of_lt (Nat.lt_of_lt_of_eq Exa_b3.lt g4.symm)
  have ge_b4 : n0 ≤ b4 := Nat.le_trans (Nat.le_trans (Nat.le_of_eq O3.1.symm) O3.2.1) (Nat.le_of_eq g4.symm)
  have fr_b4 : h0.size ≤ b4 := Nat.le_trans K3.1 (Nat.le_of_eq g4.symm)
  have Sf_b4 : Safe Z ([] : List (String × Nat)) T1.vm h3 b4 := Safe.new (Nat.le_of_eq g4.symm)
  have Sf_b4 := Safe.ext E4 HC3.1 Sf_b4
  have HC4 := HC3.trans (CHr.ext E4 HC3.1)
  have hk4 := Nat.le_trans hk3 E4.1
  have Arv_a1 := Arv_a1.ext E4
  have Exa_a1 := Exa_a1.ext E4
  have Exa_b3 := Exa_b3.ext E4
  have F_text_b3 := F_text_b3.ext E4
  have F_bytes_b3 := F_bytes_b3.ext E4
  have F_headers_b3 := F_headers_b3.ext E4
  have F_messageId_b3 := F_messageId_b3.ext E4
  have F_correlationId_b3 := F_correlationId_b3.ext E4
  have F_replyTo_b3 := F_replyTo_b3.ext E4
  have O4 := O3.ext E4
  have K4 := K3.ext E4
  have Arv_b4 : Arv Z h4 b4 k1 .byte (3 : Int32) [(.int (x0.toInt8.toInt32)), (.int (x1.toInt8.toInt32)), (.int (x2.toInt8.toInt32))] (.int (0 : Int32)) := A4
  have Exa_b4 := Ax4
  show GlW Z ([] : List (String × Nat)) p e below s _ _ _ T4 (mkF m 16 #[.val (.ref a1)] [(.ref b4), .null, (.ref b3), (.ref b3)])
  obtain ⟨T5, X5, e5, st5⟩ := castY X4 hx hZ hown (hw _ (List.mem_of_getElem? (i := 25) rfl)) e4 (Ins.self Exa_b4) (g := (mkF m 16 #[.val (.ref a1)] [(.ref b4), .null, (.ref b3), (.ref b3)])) rfl rfl (hb hby d1_16)
  refine GlW.st st5 ?_
  show GlW Z ([] : List (String × Nat)) p e below s _ _ _ T5 (mkF m 19 #[.val (.ref a1)] [(.ref b4), .null, (.ref b3), (.ref b3)])
  obtain ⟨v6, _, ⟨T6, L6, kQ6, nQ6⟩, -, X6, ⟨Lc6, hQ6, l6, y6, z6⟩, st6⟩ := Jvm.LawKit.callS X5 hx (y := (⟨"java/util/Map", "of", "()Ljava/util/Map;"⟩ : MethodName)) hown (mvT hZ (hw _ (List.mem_of_getElem? (i := 27) rfl))) (mvT hZ (hw _ (List.mem_of_getElem? (i := 28) rfl))) (mvT hZ (hw _ (List.mem_of_getElem? (i := 29) rfl))) (mvT hZ (hw _ (List.mem_of_getElem? (i := 30) rfl))) (by decide) (backOf (W := 4) (rmMO l Z a0 hw [] em h4 n0 O4 S_EM) hZ (hw _ (List.mem_of_getElem? (i := 30) rfl)) (hw _ (List.mem_of_getElem? (i := 29) rfl)) (by decide) (by decide)) (g := (mkF m 19 #[.val (.ref a1)] [(.ref b4), .null, (.ref b3), (.ref b3)])) rfl (by rw [hml]; rfl) (argsL := []) (rest := [(.ref b4), .null, (.ref b3), (.ref b3)]) (lenOf pd_rmB3_1 rfl) rfl (by show 2 * 0 + _ ≤ _; exact Nat.le_of_eq rfl) (hb hby d1_19) (fun _ _ => ⟨rfl, e5, (by decide : 4 + 0 ≤ _), (by decide : 29 + 0 ≤ _)⟩)
  dsimp only [Pt.U, Pt.locs, Pt.cells, Pt.slots] at X6 l6 y6 z6 st6 hQ6
  subst l6 y6 z6
  obtain ⟨rfl, Nq6, e6⟩ := hQ6
  have N6 := Fr.app N2 Nq6
  refine GlW.st st6 ?_
  show GlW Z ([] : List (String × Nat)) p e below s _ _ _ T6 (mkF m 22 #[.val (.ref a1)] [(.ref em), (.ref b4), .null, (.ref b3), (.ref b3)])
  refine GlW.st (fun _ kk => XS.aconstNull X6.here hx rfl (hb hby d1_22) kk) ?_
  show GlW Z ([] : List (String × Nat)) p e below s _ _ _ T6 (mkF m 23 #[.val (.ref a1)] [.null, (.ref em), (.ref b4), .null, (.ref b3), (.ref b3)])
  refine GlW.st (fun _ kk => XS.aconstNull X6.here hx rfl (hb hby d1_23) kk) ?_
  show GlW Z ([] : List (String × Nat)) p e below s _ _ _ T6 (mkF m 24 #[.val (.ref a1)] [.null, .null, (.ref em), (.ref b4), .null, (.ref b3), (.ref b3)])
  refine GlW.st (fun _ kk => XS.aconstNull X6.here hx rfl (hb hby d1_24) kk) ?_
  show GlW Z ([] : List (String × Nat)) p e below s _ _ _ T6 (mkF m 25 #[.val (.ref a1)] [.null, .null, .null, (.ref em), (.ref b4), .null, (.ref b3), (.ref b3)])
  obtain ⟨v7, _, ⟨T7, L7, kQ7, nQ7⟩, -, X7, ⟨Lc7, hQ7, l7, y7, z7⟩, st7⟩ := X6.specialBack hx (y := (⟨"com/example/tarry/tarry/Message", "<init>", "(Ljava/lang/String;[BLjava/util/Map;Ljava/lang/String;Ljava/lang/String;Ljava/lang/String;)V"⟩ : MethodName)) rfl hown (mvT hZ (hw _ (List.mem_of_getElem? (i := 33) rfl))) (mvT hZ (hw _ (List.mem_of_getElem? (i := 34) rfl))) (mvT hZ (hw _ (List.mem_of_getElem? (i := 35) rfl))) (by decide) (backOf (W := 1) (rmI l Z a0 hw [] b3 b4 em h4 n0 O4 Exa_b3 F_text_b3 F_bytes_b3 F_headers_b3 F_messageId_b3 F_correlationId_b3 F_replyTo_b3 ge_b3) hZ (hw _ (List.mem_of_getElem? (i := 35) rfl)) (hw _ (List.mem_of_getElem? (i := 3) rfl)) (by decide) (by decide)) (g := (mkF m 25 #[.val (.ref a1)] [.null, .null, .null, (.ref em), (.ref b4), .null, (.ref b3), (.ref b3)])) rfl (by rw [hml]; rfl) (Steps.refl _) (a := b3) (argsL := [.null, (.ref b4), (.ref em), .null, .null, .null]) (rest := [(.ref b3)]) (lenOf pd_rmB3_2 rfl) rfl (by show 2 * 0 + _ ≤ _; exact Nat.le_of_eq rfl) (hb hby d1_25) (fun _ _ => ⟨rfl, e6, (by decide : 4 + 0 ≤ _), (by decide : 29 + 0 ≤ _)⟩)
  dsimp only [Pt.U, Pt.locs, Pt.cells, Pt.slots] at X7 l7 y7 z7 st7 hQ7
  subst l7 y7 z7
  obtain ⟨h7, e7⟩ : ∃ z, T7.heap = z := ⟨_, rfl⟩
  rw [e7] at hQ7
  obtain ⟨rfl, Nq7, Kq7, F_text_q7, F_bytes_q7, F_headers_q7, F_messageId_q7, F_correlationId_q7, F_replyTo_q7⟩ := hQ7
  have N7 := Fr.app N6 Nq7
  refine GlW.st (fun _ kk => st7.trans kk) ?_
  have sfk7 : ∀ x ∈ [b3], Safe Z ([] : List (String × Nat)) _ _ x := (allS (Safe.exa hZ.alike Exa_b3 (by decide) (by decide)) all0)
  have Sf_b4 := Safe.keep Kq7 sfk7 HC4.1 Sf_b4
  have HC7 := HC4.trans (CHr.keep Kq7 sfk7 HC4.1)
  have hk7 := Nat.le_trans hk4 Kq7.1
  have Arv_a1 := Arv_a1.keep Kq7 (ninS ne_a1_b3 nin0)
  have Exa_a1 := Exa_a1.keep Kq7
  have Exa_b3 := Exa_b3.keep Kq7
  have Arv_b4 := Arv_b4.keep Kq7 (ninS (Ne.symm ne_b3_b4) nin0)
  have Exa_b4 := Exa_b4.keep Kq7
  have O7 := O4.keep Kq7 (allS ge_b3 all0)
  have K7 := K4.trans Kq7 (allS (Or.inr fr_b3) all0)
  have F_text_b3 := F_text_q7
  have F_bytes_b3 := F_bytes_q7
  have F_headers_b3 := F_headers_q7
  have F_messageId_b3 := F_messageId_q7
  have F_correlationId_b3 := F_correlationId_q7
  have F_replyTo_b3 := F_replyTo_q7
  show GlW Z ([] : List (String × Nat)) p e below s _ _ _ T7 (mkF m 28 #[.val (.ref a1)] [(.ref b3)])
  exact GlW.ret X7 hS1 hk7 hZ hEL hh0 HC7 (v := (some (.ref b3))) (fun h => by rw [Bd.returns] at h; cases h) (BodyLoose.notSynchronized Bd) (fun hr => retOut X7 hx Bd.returns rfl (Or.inr (Or.inr (Or.inr (Or.inr ⟨rfl, rfl, rfl⟩)))) (hb hby d1_28) hr) e7 ⟨b3, b4, rfl, N7, K7, Exa_b3, F_text_b3, F_bytes_b3, F_headers_b3, F_messageId_b3, F_correlationId_b3, F_replyTo_b3, Arv_b4, Exa_b4, fr_b3, fr_b4, Ne.symm (Ne.symm ne_b3_b4)⟩ (by decide) (by decide)
theorem d6_35 : decode method_3_code 35 = .ok (.aload_n 0, 1) := by decide +kernel
theorem d6_36 : decode method_3_code 36 = .ok (.iconst 2, 1) := by decide +kernel
theorem d6_37 : decode method_3_code 37 = .ok (.aload_n 0, 1) := by decide +kernel
theorem d6_38 : decode method_3_code 38 = .ok (.iconst 2, 1) := by decide +kernel
theorem d6_39 : decode method_3_code 39 = .ok (.baload, 1) := by decide +kernel
theorem d6_40 : decode method_3_code 40 = .ok (.iconst (-1), 1) := by decide +kernel
theorem d6_41 : decode method_3_code 41 = .ok (.ixor, 1) := by decide +kernel
theorem d6_42 : decode method_3_code 42 = .ok (.i2b, 1) := by decide +kernel
theorem d6_43 : decode method_3_code 43 = .ok (.bastore, 1) := by decide +kernel
theorem pn_rmF3 : plainName "com/example/tarry/tarry/MessageBytesPinLaw" = true := by first | (simp [plainName, overriddenIn]; done) | decide +kernel
theorem ef_rmF3 (m : MethodId) (a1 : Addr) : entryFrame m #[(.ref a1)] 1 = mkF m 0 #[.val (.ref a1)] [] := by first | (simp [entryFrame, mkF, argsToLocals, Value.category]; done) | rfl
def Q_rmF3 (Z : State) (a1 : Addr) (k1 : ClassId) (x0 x1 x2 : Int32) (h0 : Heap) (n0 : Nat) (v : Option Value) (h : Heap) (L : List Loc) : Prop := v = none ∧ Fr n0 L ∧ Keep h0 h [a1]
set_option maxRecDepth 65536 in
set_option maxHeartbeats 40000000 in
theorem rmF3 (l : Launch) (Z : State) (a0 : Array Value) (hw : ∀ d ∈ tables_1, d.before a0 Z = true) (ws : List Jvm.Cond) (a1 : Addr) (k1 : ClassId) (x0 x1 x2 : Int32) (h0 : Heap) (n0 : Nat) (O0 : Old Z n0 h0) (Arv_a1 : Arv Z h0 a1 k1 .byte (3 : Int32) [(.int (x0.toInt8.toInt32)), (.int (x1.toInt8.toInt32)), (.int (x2.toInt8.toInt32))] (.int 0)) (g1 : n0 ≤ a1) :
    MetFree l (⟨"com/example/tarry/tarry/MessageBytesPinLaw", "flip", "([B)V"⟩ : MethodName) (head1 (Jvm.Cond.code (⟨"com/example/tarry/tarry/MessageBytesPinLaw", "flip", "([B)V"⟩ : MethodName) method_3_code 1 none :: ws) ({ frames := 0, cells := 0, slots := 0, locals := 0 } : Room)) (fun a U => a = #[(.ref a1)] ∧ Z.Warmed39 U.vm ∧ U.heap = h0) (fun _ _ _ _ _ => True) (fun _ U o U' => ∃ v L, o = .returned v ∧ Q_rmF3 Z a1 k1 x0 x1 x2 h0 n0 v U'.heap L ∧ FrameEnd U o U' L ({ frames := 0, cells := 0, slots := 0, locals := 0 } : Room).cells ({ frames := 0, cells := 0, slots := 0, locals := 0 } : Room).slots) := by
  refine MetFree.of_bodySF (plainFor_of_name pn_rmF3) hisR ?_
  intro p e s m args below meth c s₁ Bd hml0 hP hK
  obtain ⟨rfl, hZ, hh⟩ := hP
  have hx := Bd.exec
  have hby := Bd.bytes
  have hml : c.maxLocals = 1 := hml0
  have hown : s.vm.findClass "com/example/tarry/tarry/MessageBytesPinLaw" = some m.cls := findClass_of_methodNamed Bd.named
  have hnm := (name_of_methodNamed Bd.named Bd.method).1
  have X0 : Stand p l e ({ frames := 0, cells := 0, slots := 0, locals := 0 } : Room) s m #[(.ref a1)] below meth c s₁ [] 0 0 := Stand.of_body Bd
  have e0 : s₁.heap = h0 := by rw [← hh, Bd.state]; rfl
  have N0 := Fr.nil n0
  refine Gl.start (Q := Q_rmF3 Z a1 k1 x0 x1 x2 h0 n0) (ef_rmF3 m a1) ?_
  show Gl p e below s _ _ _ s₁ (mkF m 0 #[.val (.ref a1)] [])
  refine Gl.st (fun _ kk => XS.aloadN X0.here hx rfl (hb hby d6_0) rfl rfl kk) ?_
  show Gl p e below s _ _ _ s₁ (mkF m 1 #[.val (.ref a1)] [(.ref a1)])
  obtain ⟨cl1, Ar1, q1, Sz1, Ng1, Ha1, Fi1⟩ := id Arv_a1
  refine Gl.st (fun _ kk => X0.arraylength hx (by rw [e0]; exact Ar1.1) (State.isArrayOf_alike hZ.alike Ar1.2.1) (g := (mkF m 1 #[.val (.ref a1)] [(.ref a1)])) rfl rfl (hb hby d6_1) _ kk) ?_
  rw [len_of Sz1 Ng1]
  show Gl p e below s _ _ _ s₁ (mkF m 2 #[.val (.ref a1)] [(.int (3 : Int32))])
  refine Gl.st (fun _ kk => XS.ifNo X0.here hx rfl (hb hby d6_2) rfl ((if0 _ _).trans (tlt (by decide : (0 : Int32) < (3 : Int32))).2.2.2) kk) ?_
  show Gl p e below s _ _ _ s₁ (mkF m 5 #[.val (.ref a1)] [])
  refine Gl.st (fun _ kk => XS.aloadN X0.here hx rfl (hb hby d6_5) rfl rfl kk) ?_
  show Gl p e below s _ _ _ s₁ (mkF m 6 #[.val (.ref a1)] [(.ref a1)])
  refine Gl.st (fun _ kk => XS.iconst X0.here hx rfl (hb hby d6_6) kk) ?_
  show Gl p e below s _ _ _ s₁ (mkF m 7 #[.val (.ref a1)] [(.int (0 : Int32)), (.ref a1)])
  refine Gl.st (fun _ kk => XS.aloadN X0.here hx rfl (hb hby d6_7) rfl rfl kk) ?_
  show Gl p e below s _ _ _ s₁ (mkF m 8 #[.val (.ref a1)] [(.ref a1), (.int (0 : Int32)), (.ref a1)])
  refine Gl.st (fun _ kk => XS.iconst X0.here hx rfl (hb hby d6_8) kk) ?_
  show Gl p e below s _ _ _ s₁ (mkF m 9 #[.val (.ref a1)] [(.int (0 : Int32)), (.ref a1), (.int (0 : Int32)), (.ref a1)])
  obtain ⟨cl2, Ar2, q2, Sz2, Ng2, Ha2, Fi2⟩ := id Arv_a1
  have hin2 : ¬ ((0 : Int32) < 0 ∨ cl2.slots.size ≤ ((0 : Int32)).toNatClampNeg) := inb_of Sz2 ⟨by decide, by decide⟩
  have hat2 : cl2.slots[((0 : Int32)).toNatClampNeg]? = some (.int (x0.toInt8.toInt32)) := Ha2.at hin2 rfl
  refine Gl.st (fun _ kk => X0.baloadBytes hx (j := (0 : Int32)) (v := (.int (x0.toInt8.toInt32))) (by rw [e0]; exact Ar2.1) (State.isArrayOf_alike hZ.alike Ar2.2.1) Ar2.2.2 hin2 hat2 (g := (mkF m 9 #[.val (.ref a1)] [(.int (0 : Int32)), (.ref a1), (.int (0 : Int32)), (.ref a1)])) rfl rfl (hb hby d6_9) _ kk) ?_
  show Gl p e below s _ _ _ s₁ (mkF m 10 #[.val (.ref a1)] [(.int (x0.toInt8.toInt32)), (.int (0 : Int32)), (.ref a1)])
  refine Gl.st (fun _ kk => XS.iconst X0.here hx rfl (hb hby d6_10) kk) ?_
  show Gl p e below s _ _ _ s₁ (mkF m 11 #[.val (.ref a1)] [(.int (-1 : Int32)), (.int (x0.toInt8.toInt32)), (.int (0 : Int32)), (.ref a1)])
  refine Gl.st (fun _ kk => XS.ixor X0.here hx rfl (hb hby d6_11) rfl kk) ?_
  show Gl p e below s _ _ _ s₁ (mkF m 12 #[.val (.ref a1)] [(.int ((x0.toInt8.toInt32) ^^^ (-1 : Int32))), (.int (0 : Int32)), (.ref a1)])
  refine Gl.st (fun _ kk => XS.i2b X0.here hx rfl (hb hby d6_12) rfl kk) ?_
  show Gl p e below s _ _ _ s₁ (mkF m 13 #[.val (.ref a1)] [(.int (((x0.toInt8.toInt32) ^^^ (-1 : Int32)).toInt8.toInt32)), (.int (0 : Int32)), (.ref a1)])
  obtain ⟨cl3, Ar3, q3, Sz3, Ng3, Ha3, Fi3⟩ := id Arv_a1
  have hin3 : ¬ ((0 : Int32) < 0 ∨ cl3.slots.size ≤ ((0 : Int32)).toNatClampNeg) := inb_of Sz3 ⟨by decide, by decide⟩
  obtain ⟨T3, h3, X3, e3, W3, st3⟩ := stB X0 hx hZ e0 Ar3 (j := (0 : Int32)) hin3 (g := (mkF m 13 #[.val (.ref a1)] [(.int (((x0.toInt8.toInt32) ^^^ (-1 : Int32)).toInt8.toInt32)), (.int (0 : Int32)), (.ref a1)])) rfl rfl (hb hby d6_13)
  refine Gl.st st3 ?_
  have Arv_a1 : Arv Z h3 a1 k1 .byte (3 : Int32) [(.int (nar .byte (((x0.toInt8.toInt32) ^^^ (-1 : Int32)).toInt8.toInt32))), (.int (x1.toInt8.toInt32)), (.int (x2.toInt8.toInt32))] (.int (0 : Int32)) := Arv.set Ar3 q3 Sz3 Ng3 Ha3 Fi3 (fits_nar_byte _) W3 0 rfl (Nat.le_of_ble_eq_true rfl)
  rw [own_nar8] at Arv_a1
  have O3 := O0.wr W3 g1
  have K3 := (Keep.refl h0 [a1]).wr W3 (Or.inl (List.mem_of_getElem? (i := 0) rfl))
  have N3 := Fr.snoc X3 N0 g1
  show Gl p e below s _ _ _ T3 (mkF m 14 #[.val (.ref a1)] [])
  refine Gl.st (fun _ kk => XS.aloadN X3.here hx rfl (hb hby d6_14) rfl rfl kk) ?_
  show Gl p e below s _ _ _ T3 (mkF m 15 #[.val (.ref a1)] [(.ref a1)])
  obtain ⟨cl4, Ar4, q4, Sz4, Ng4, Ha4, Fi4⟩ := id Arv_a1
  refine Gl.st (fun _ kk => X3.arraylength hx (by rw [e3]; exact Ar4.1) (State.isArrayOf_alike hZ.alike Ar4.2.1) (g := (mkF m 15 #[.val (.ref a1)] [(.ref a1)])) rfl rfl (hb hby d6_15) _ kk) ?_
  rw [len_of Sz4 Ng4]
  show Gl p e below s _ _ _ T3 (mkF m 16 #[.val (.ref a1)] [(.int (3 : Int32))])
  refine Gl.st (fun _ kk => XS.iconst X3.here hx rfl (hb hby d6_16) kk) ?_
  show Gl p e below s _ _ _ T3 (mkF m 17 #[.val (.ref a1)] [(.int (1 : Int32)), (.int (3 : Int32))])
  refine Gl.st (fun _ kk => XS.icmpNo X3.here hx rfl (hb hby d6_17) rfl (tlt (by decide : (1 : Int32) < (3 : Int32))).2.2.2 kk) ?_
  show Gl p e below s _ _ _ T3 (mkF m 20 #[.val (.ref a1)] [])
  refine Gl.st (fun _ kk => XS.aloadN X3.here hx rfl (hb hby d6_20) rfl rfl kk) ?_
  show Gl p e below s _ _ _ T3 (mkF m 21 #[.val (.ref a1)] [(.ref a1)])
  refine Gl.st (fun _ kk => XS.iconst X3.here hx rfl (hb hby d6_21) kk) ?_
  show Gl p e below s _ _ _ T3 (mkF m 22 #[.val (.ref a1)] [(.int (1 : Int32)), (.ref a1)])
  refine Gl.st (fun _ kk => XS.aloadN X3.here hx rfl (hb hby d6_22) rfl rfl kk) ?_
  show Gl p e below s _ _ _ T3 (mkF m 23 #[.val (.ref a1)] [(.ref a1), (.int (1 : Int32)), (.ref a1)])
  refine Gl.st (fun _ kk => XS.iconst X3.here hx rfl (hb hby d6_23) kk) ?_
  show Gl p e below s _ _ _ T3 (mkF m 24 #[.val (.ref a1)] [(.int (1 : Int32)), (.ref a1), (.int (1 : Int32)), (.ref a1)])
  obtain ⟨cl5, Ar5, q5, Sz5, Ng5, Ha5, Fi5⟩ := id Arv_a1
  have hin5 : ¬ ((1 : Int32) < 0 ∨ cl5.slots.size ≤ ((1 : Int32)).toNatClampNeg) := inb_of Sz5 ⟨by decide, by decide⟩
  have hat5 : cl5.slots[((1 : Int32)).toNatClampNeg]? = some (.int (x1.toInt8.toInt32)) := Ha5.at hin5 rfl
  refine Gl.st (fun _ kk => X3.baloadBytes hx (j := (1 : Int32)) (v := (.int (x1.toInt8.toInt32))) (by rw [e3]; exact Ar5.1) (State.isArrayOf_alike hZ.alike Ar5.2.1) Ar5.2.2 hin5 hat5 (g := (mkF m 24 #[.val (.ref a1)] [(.int (1 : Int32)), (.ref a1), (.int (1 : Int32)), (.ref a1)])) rfl rfl (hb hby d6_24) _ kk) ?_
  show Gl p e below s _ _ _ T3 (mkF m 25 #[.val (.ref a1)] [(.int (x1.toInt8.toInt32)), (.int (1 : Int32)), (.ref a1)])
  refine Gl.st (fun _ kk => XS.iconst X3.here hx rfl (hb hby d6_25) kk) ?_
  show Gl p e below s _ _ _ T3 (mkF m 26 #[.val (.ref a1)] [(.int (-1 : Int32)), (.int (x1.toInt8.toInt32)), (.int (1 : Int32)), (.ref a1)])
  refine Gl.st (fun _ kk => XS.ixor X3.here hx rfl (hb hby d6_26) rfl kk) ?_
  show Gl p e below s _ _ _ T3 (mkF m 27 #[.val (.ref a1)] [(.int ((x1.toInt8.toInt32) ^^^ (-1 : Int32))), (.int (1 : Int32)), (.ref a1)])
  refine Gl.st (fun _ kk => XS.i2b X3.here hx rfl (hb hby d6_27) rfl kk) ?_
  show Gl p e below s _ _ _ T3 (mkF m 28 #[.val (.ref a1)] [(.int (((x1.toInt8.toInt32) ^^^ (-1 : Int32)).toInt8.toInt32)), (.int (1 : Int32)), (.ref a1)])
  obtain ⟨cl6, Ar6, q6, Sz6, Ng6, Ha6, Fi6⟩ := id Arv_a1
  have hin6 : ¬ ((1 : Int32) < 0 ∨ cl6.slots.size ≤ ((1 : Int32)).toNatClampNeg) := inb_of Sz6 ⟨by decide, by decide⟩
  obtain ⟨T6, h6, X6, e6, W6, st6⟩ := stB X3 hx hZ e3 Ar6 (j := (1 : Int32)) hin6 (g := (mkF m 28 #[.val (.ref a1)] [(.int (((x1.toInt8.toInt32) ^^^ (-1 : Int32)).toInt8.toInt32)), (.int (1 : Int32)), (.ref a1)])) rfl rfl (hb hby d6_28)
  refine Gl.st st6 ?_
  have Arv_a1 : Arv Z h6 a1 k1 .byte (3 : Int32) [(.int (((x0.toInt8.toInt32) ^^^ (-1 : Int32)).toInt8.toInt32)), (.int (nar .byte (((x1.toInt8.toInt32) ^^^ (-1 : Int32)).toInt8.toInt32))), (.int (x2.toInt8.toInt32))] (.int (0 : Int32)) := Arv.set Ar6 q6 Sz6 Ng6 Ha6 Fi6 (fits_nar_byte _) W6 1 rfl (Nat.le_of_ble_eq_true rfl)
  rw [own_nar8] at Arv_a1
  have O6 := O3.wr W6 g1
  have K6 := K3.wr W6 (Or.inl (List.mem_of_getElem? (i := 0) rfl))
  have N6 := Fr.snoc X6 N3 g1
  show Gl p e below s _ _ _ T6 (mkF m 29 #[.val (.ref a1)] [])
  refine Gl.st (fun _ kk => XS.aloadN X6.here hx rfl (hb hby d6_29) rfl rfl kk) ?_
  show Gl p e below s _ _ _ T6 (mkF m 30 #[.val (.ref a1)] [(.ref a1)])
  obtain ⟨cl7, Ar7, q7, Sz7, Ng7, Ha7, Fi7⟩ := id Arv_a1
  refine Gl.st (fun _ kk => X6.arraylength hx (by rw [e6]; exact Ar7.1) (State.isArrayOf_alike hZ.alike Ar7.2.1) (g := (mkF m 30 #[.val (.ref a1)] [(.ref a1)])) rfl rfl (hb hby d6_30) _ kk) ?_
  rw [len_of Sz7 Ng7]
  show Gl p e below s _ _ _ T6 (mkF m 31 #[.val (.ref a1)] [(.int (3 : Int32))])
  refine Gl.st (fun _ kk => XS.iconst X6.here hx rfl (hb hby d6_31) kk) ?_
  show Gl p e below s _ _ _ T6 (mkF m 32 #[.val (.ref a1)] [(.int (2 : Int32)), (.int (3 : Int32))])
  refine Gl.st (fun _ kk => XS.icmpNo X6.here hx rfl (hb hby d6_32) rfl (tlt (by decide : (2 : Int32) < (3 : Int32))).2.2.2 kk) ?_
  show Gl p e below s _ _ _ T6 (mkF m 35 #[.val (.ref a1)] [])
  refine Gl.st (fun _ kk => XS.aloadN X6.here hx rfl (hb hby d6_35) rfl rfl kk) ?_
  show Gl p e below s _ _ _ T6 (mkF m 36 #[.val (.ref a1)] [(.ref a1)])
  refine Gl.st (fun _ kk => XS.iconst X6.here hx rfl (hb hby d6_36) kk) ?_
  show Gl p e below s _ _ _ T6 (mkF m 37 #[.val (.ref a1)] [(.int (2 : Int32)), (.ref a1)])
  refine Gl.st (fun _ kk => XS.aloadN X6.here hx rfl (hb hby d6_37) rfl rfl kk) ?_
  show Gl p e below s _ _ _ T6 (mkF m 38 #[.val (.ref a1)] [(.ref a1), (.int (2 : Int32)), (.ref a1)])
  refine Gl.st (fun _ kk => XS.iconst X6.here hx rfl (hb hby d6_38) kk) ?_
  show Gl p e below s _ _ _ T6 (mkF m 39 #[.val (.ref a1)] [(.int (2 : Int32)), (.ref a1), (.int (2 : Int32)), (.ref a1)])
  obtain ⟨cl8, Ar8, q8, Sz8, Ng8, Ha8, Fi8⟩ := id Arv_a1
  have hin8 : ¬ ((2 : Int32) < 0 ∨ cl8.slots.size ≤ ((2 : Int32)).toNatClampNeg) := inb_of Sz8 ⟨by decide, by decide⟩
  have hat8 : cl8.slots[((2 : Int32)).toNatClampNeg]? = some (.int (x2.toInt8.toInt32)) := Ha8.at hin8 rfl
  refine Gl.st (fun _ kk => X6.baloadBytes hx (j := (2 : Int32)) (v := (.int (x2.toInt8.toInt32))) (by rw [e6]; exact Ar8.1) (State.isArrayOf_alike hZ.alike Ar8.2.1) Ar8.2.2 hin8 hat8 (g := (mkF m 39 #[.val (.ref a1)] [(.int (2 : Int32)), (.ref a1), (.int (2 : Int32)), (.ref a1)])) rfl rfl (hb hby d6_39) _ kk) ?_
  show Gl p e below s _ _ _ T6 (mkF m 40 #[.val (.ref a1)] [(.int (x2.toInt8.toInt32)), (.int (2 : Int32)), (.ref a1)])
  refine Gl.st (fun _ kk => XS.iconst X6.here hx rfl (hb hby d6_40) kk) ?_
  show Gl p e below s _ _ _ T6 (mkF m 41 #[.val (.ref a1)] [(.int (-1 : Int32)), (.int (x2.toInt8.toInt32)), (.int (2 : Int32)), (.ref a1)])
  refine Gl.st (fun _ kk => XS.ixor X6.here hx rfl (hb hby d6_41) rfl kk) ?_
  show Gl p e below s _ _ _ T6 (mkF m 42 #[.val (.ref a1)] [(.int ((x2.toInt8.toInt32) ^^^ (-1 : Int32))), (.int (2 : Int32)), (.ref a1)])
  refine Gl.st (fun _ kk => XS.i2b X6.here hx rfl (hb hby d6_42) rfl kk) ?_
  show Gl p e below s _ _ _ T6 (mkF m 43 #[.val (.ref a1)] [(.int (((x2.toInt8.toInt32) ^^^ (-1 : Int32)).toInt8.toInt32)), (.int (2 : Int32)), (.ref a1)])
  obtain ⟨cl9, Ar9, q9, Sz9, Ng9, Ha9, Fi9⟩ := id Arv_a1
  have hin9 : ¬ ((2 : Int32) < 0 ∨ cl9.slots.size ≤ ((2 : Int32)).toNatClampNeg) := inb_of Sz9 ⟨by decide, by decide⟩
  obtain ⟨T9, h9, X9, e9, W9, st9⟩ := stB X6 hx hZ e6 Ar9 (j := (2 : Int32)) hin9 (g := (mkF m 43 #[.val (.ref a1)] [(.int (((x2.toInt8.toInt32) ^^^ (-1 : Int32)).toInt8.toInt32)), (.int (2 : Int32)), (.ref a1)])) rfl rfl (hb hby d6_43)
  refine Gl.st st9 ?_
  have Arv_a1 : Arv Z h9 a1 k1 .byte (3 : Int32) [(.int (((x0.toInt8.toInt32) ^^^ (-1 : Int32)).toInt8.toInt32)), (.int (((x1.toInt8.toInt32) ^^^ (-1 : Int32)).toInt8.toInt32)), (.int (nar .byte (((x2.toInt8.toInt32) ^^^ (-1 : Int32)).toInt8.toInt32)))] (.int (0 : Int32)) := Arv.set Ar9 q9 Sz9 Ng9 Ha9 Fi9 (fits_nar_byte _) W9 2 rfl (Nat.le_of_ble_eq_true rfl)
  rw [own_nar8] at Arv_a1
  have O9 := O6.wr W9 g1
  have K9 := K6.wr W9 (Or.inl (List.mem_of_getElem? (i := 0) rfl))
  have N9 := Fr.snoc X9 N6 g1
  show Gl p e below s _ _ _ T9 (mkF m 44 #[.val (.ref a1)] [])
  exact Gl.ret X9 (v := none) (fun _ => rfl) (BodyLoose.notSynchronized Bd) (fun hr => X9.returnOut hx Bd.returns (hb hby d6_44) hr) e9 ⟨rfl, N9, K9⟩ (by decide) (by decide)
theorem pn_rmG3 : plainName "com/example/tarry/tarry/Message" = true := by first | (simp [plainName, overriddenIn]; done) | decide +kernel
theorem ef_rmG3 (m : MethodId) (a1 : Addr) : entryFrame m #[(.ref a1)] 1 = mkF m 0 #[.val (.ref a1)] [] := by first | (simp [entryFrame, mkF, argsToLocals, Value.category]; done) | rfl
def Q_rmG3 (Z : State) (a1 : Addr) (t : Addr) (k1 : ClassId) (x0 x1 x2 : Int32) (h0 : Heap) (n0 : Nat) (v : Option Value) (h : Heap) (L : List Loc) : Prop := ∃ b, v = some (.ref b) ∧ Fr n0 L ∧ Keep h0 h [] ∧ Arv Z h b k1 .byte (3 : Int32) [(.int (x0.toInt8.toInt32)), (.int (x1.toInt8.toInt32)), (.int (x2.toInt8.toInt32))] (.int 0) ∧ h0.size ≤ b
set_option maxRecDepth 65536 in
set_option maxHeartbeats 40000000 in
theorem rmG3 (l : Launch) (Z : State) (a0 : Array Value) (hw : ∀ d ∈ tables_1, d.before a0 Z = true) (ws : List Jvm.Cond) (a1 : Addr) (t : Addr) (k1 : ClassId) (x0 x1 x2 : Int32) (h0 : Heap) (n0 : Nat) (O0 : Old Z n0 h0) (F_bytes_a1 : Fld Z h0 a1 "com/example/tarry/tarry/Message" "bytes" "[B" (.ref t)) (Arv_t : Arv Z h0 t k1 .byte (3 : Int32) [(.int (x0.toInt8.toInt32)), (.int (x1.toInt8.toInt32)), (.int (x2.toInt8.toInt32))] (.int 0)) (Exa_t : Exa Z h0 t "[B") :
    MetFree l (⟨"com/example/tarry/tarry/Message", "bytes", "()[B"⟩ : MethodName) (head1 (Jvm.Cond.code (⟨"com/example/tarry/tarry/Message", "bytes", "()[B"⟩ : MethodName) prog_13_method_6_code 1 (some (.array .byte)) :: ws) ({ frames := 1, cells := 1, slots := 3, locals := 14 } : Room)) (fun a U => a = #[(.ref a1)] ∧ Z.Warmed39 U.vm ∧ U.heap = h0) (fun _ _ _ _ _ => True) (fun _ U o U' => ∃ v L, o = .returned v ∧ Q_rmG3 Z a1 t k1 x0 x1 x2 h0 n0 v U'.heap L ∧ FrameEnd U o U' L ({ frames := 1, cells := 1, slots := 3, locals := 14 } : Room).cells ({ frames := 1, cells := 1, slots := 3, locals := 14 } : Room).slots) := by
  refine MetFree.of_bodySF (plainFor_of_name pn_rmG3) hisR ?_
  intro p e s m args below meth c s₁ Bd hml0 hP hK
  obtain ⟨rfl, hZ, hh⟩ := hP
  have hx := Bd.exec
  have hby := Bd.bytes
  have hml : c.maxLocals = 1 := hml0
  have hown : s.vm.findClass "com/example/tarry/tarry/Message" = some m.cls := findClass_of_methodNamed Bd.named
  have hnm := (name_of_methodNamed Bd.named Bd.method).1
  have X0 : Stand p l e ({ frames := 1, cells := 1, slots := 3, locals := 14 } : Room) s m #[(.ref a1)] below meth c s₁ [] 0 0 := Stand.of_body Bd
  have e0 : s₁.heap = h0 := by rw [← hh, Bd.state]; rfl
  have N0 := Fr.nil n0
  refine Gl.start (Q := Q_rmG3 Z a1 t k1 x0 x1 x2 h0 n0) (ef_rmG3 m a1) ?_
  show Gl p e below s _ _ _ s₁ (mkF m 0 #[.val (.ref a1)] [])
  refine Gl.st (fun _ kk => XS.aloadN X0.here hx rfl (hb hby d7_0) rfl rfl kk) ?_
  show Gl p e below s _ _ _ s₁ (mkF m 1 #[.val (.ref a1)] [(.ref a1)])
  obtain ⟨T1, X1, e1, st1⟩ := getF X0 hx hZ hown (host := "") (Or.inl (hw _ (List.mem_of_getElem? (i := 41) rfl))) Via.refl e0 F_bytes_a1 (g := (mkF m 1 #[.val (.ref a1)] [(.ref a1)])) rfl rfl (hb hby d7_1)
  refine Gl.st st1 ?_
  show Gl p e below s _ _ _ T1 (mkF m 4 #[.val (.ref a1)] [(.ref t)])
  refine Gl.st (fun _ kk => XS.ifnonnullYes X1.here hx rfl (pc0 := 4) (pc' := 17) rfl (hb hby d7_4) rfl (by decide) (by decide) kk) ?_
  show Gl p e below s _ _ _ T1 (mkF m 17 #[.val (.ref a1)] [])
  refine Gl.st (fun _ kk => XS.aloadN X1.here hx rfl (hb hby d7_17) rfl rfl kk) ?_
  show Gl p e below s _ _ _ T1 (mkF m 18 #[.val (.ref a1)] [(.ref a1)])
  obtain ⟨T2, X2, e2, st2⟩ := getF X1 hx hZ hown (host := "") (Or.inl (hw _ (List.mem_of_getElem? (i := 41) rfl))) Via.refl e1 F_bytes_a1 (g := (mkF m 18 #[.val (.ref a1)] [(.ref a1)])) rfl rfl (hb hby d7_18)
  refine Gl.st st2 ?_
  show Gl p e below s _ _ _ T2 (mkF m 21 #[.val (.ref a1)] [(.ref t)])
  obtain ⟨T3, h3, X3, e3, E3, A3, Ax3, st3⟩ := cloneH X2 hx hZ hown (hw _ (List.mem_of_getElem? (i := 18) rfl)) (hw _ (List.mem_of_getElem? (i := 19) rfl)) (hw _ (List.mem_of_getElem? (i := 23) rfl)) (hw _ (List.mem_of_getElem? (i := 21) rfl)) (hw _ (List.mem_of_getElem? (i := 22) rfl)) (hw _ (List.mem_of_getElem? (i := 24) rfl)) e2 (Arv.arh Arv_t) Exa_t (g := (mkF m 21 #[.val (.ref a1)] [(.ref t)])) rfl (by rw [hml]; rfl) rfl (hb hby d7_21) (by decide) (W := 0) (cap := 3) (by show 2 * 0 + _ ≤ _; exact Nat.le_of_eq rfl) (by decide) (by decide) (by decide) (by decide)
  obtain ⟨b3, g3⟩ : ∃ z, z = h0.size := ⟨_, rfl⟩
  rw [← g3] at A3 Ax3 st3
  refine Gl.st st3 ?_
  have ne_a1_b3 : a1 ≠ b3 := Nat.ne_of_lt (Nat.lt_of_lt_of_eq F_bytes_a1.lt g3.symm)
  have ne_t_b3 : t ≠ b3 := Nat.ne_of_lt (Nat.lt_of_lt_of_eq Arv_t.lt g3.symm)
  have ge_b3 : n0 ≤ b3 := Nat.le_trans (Nat.le_trans (Nat.le_of_eq O0.1.symm) O0.2.1) (Nat.le_of_eq g3.symm)
  have fr_b3 : h0.size ≤ b3 := Nat.le_trans (Nat.le_refl _) (Nat.le_of_eq g3.symm)
  have F_bytes_a1 := F_bytes_a1.ext E3
  have Arv_t := Arv_t.ext E3
  have Exa_t := Exa_t.ext E3
  have O3 := O0.ext E3
  have K3 := (Keep.refl h0 []).ext E3
  have Arv_b3 : Arv Z h3 b3 k1 .byte (3 : Int32) [(.int (x0.toInt8.toInt32)), (.int (x1.toInt8.toInt32)), (.int (x2.toInt8.toInt32))] (.int (0 : Int32)) := A3
  have Exa_b3 := Ax3
  show Gl p e below s _ _ _ T3 (mkF m 24 #[.val (.ref a1)] [(.ref b3)])
  obtain ⟨T4, X4, e4, st4⟩ := castY X3 hx hZ hown (hw _ (List.mem_of_getElem? (i := 25) rfl)) e3 (Ins.self Exa_b3) (g := (mkF m 24 #[.val (.ref a1)] [(.ref b3)])) rfl rfl (hb hby d7_24)
  refine Gl.st st4 ?_
  show Gl p e below s _ _ _ T4 (mkF m 27 #[.val (.ref a1)] [(.ref b3)])
  exact Gl.ret X4 (v := (some (.ref b3))) (fun h => by rw [Bd.returns] at h; cases h) (BodyLoose.notSynchronized Bd) (fun hr => retOut X4 hx Bd.returns rfl (Or.inr (Or.inr (Or.inr (Or.inr ⟨rfl, rfl, rfl⟩)))) (hb hby d7_27) hr) e4 ⟨b3, rfl, N0, K3, Arv_b3, fr_b3⟩ (by decide) (by decide)
theorem d12_42 : decode method_4_code 42 = .ok (.aload_n 0, 1) := by decide +kernel
theorem d12_43 : decode method_4_code 43 = .ok (.iconst 2, 1) := by decide +kernel
theorem d12_44 : decode method_4_code 44 = .ok (.baload, 1) := by decide +kernel
theorem d12_45 : decode method_4_code 45 = .ok (.iload 4, 2) := by decide +kernel
theorem d12_47 : decode method_4_code 47 = .ok (.i2b, 1) := by decide +kernel
theorem d12_48 : decode method_4_code 48 = .ok (.if_icmp .eq 5, 3) := by decide +kernel
theorem pn_rmS3 : plainName "com/example/tarry/tarry/MessageBytesPinLaw" = true := by first | (simp [plainName, overriddenIn]; done) | decide +kernel
theorem ef_rmS3 (m : MethodId) (a1 : Addr) (x0 : Int32) (x1 : Int32) (x2 : Int32) : entryFrame m #[(.ref a1), (.int (3 : Int32)), (.int x0), (.int x1), (.int x2)] 5 = mkF m 0 #[.val (.ref a1), .val (.int (3 : Int32)), .val (.int x0), .val (.int x1), .val (.int x2)] [] := by first | (simp [entryFrame, mkF, argsToLocals, Value.category]; done) | rfl
def Q_rmS3 (Z : State) (a1 : Addr) (x0 : Int32) (x1 : Int32) (x2 : Int32) (k1 : ClassId) (h0 : Heap) (n0 : Nat) (v : Option Value) (h : Heap) (L : List Loc) : Prop := v = some (.int 1) ∧ Fr n0 L ∧ h = h0
set_option maxRecDepth 65536 in
set_option maxHeartbeats 40000000 in
theorem rmS3 (l : Launch) (Z : State) (a0 : Array Value) (hw : ∀ d ∈ tables_1, d.before a0 Z = true) (ws : List Jvm.Cond) (a1 : Addr) (x0 : Int32) (x1 : Int32) (x2 : Int32) (k1 : ClassId) (h0 : Heap) (n0 : Nat) (O0 : Old Z n0 h0) (Arv_a1 : Arv Z h0 a1 k1 .byte (3 : Int32) [(.int (x0.toInt8.toInt32)), (.int (x1.toInt8.toInt32)), (.int (x2.toInt8.toInt32))] (.int 0)) :
    MetFree l (⟨"com/example/tarry/tarry/MessageBytesPinLaw", "same", "([BIIII)Z"⟩ : MethodName) (head1 (Jvm.Cond.code (⟨"com/example/tarry/tarry/MessageBytesPinLaw", "same", "([BIIII)Z"⟩ : MethodName) method_4_code 5 (some .boolean) :: ws) ({ frames := 0, cells := 0, slots := 0, locals := 0 } : Room)) (fun a U => a = #[(.ref a1), (.int (3 : Int32)), (.int x0), (.int x1), (.int x2)] ∧ Z.Warmed39 U.vm ∧ U.heap = h0) (fun _ _ _ _ _ => True) (fun _ U o U' => ∃ v L, o = .returned v ∧ Q_rmS3 Z a1 x0 x1 x2 k1 h0 n0 v U'.heap L ∧ FrameEnd U o U' L ({ frames := 0, cells := 0, slots := 0, locals := 0 } : Room).cells ({ frames := 0, cells := 0, slots := 0, locals := 0 } : Room).slots) := by
  refine MetFree.of_bodySF (plainFor_of_name pn_rmS3) hisR ?_
  intro p e s m args below meth c s₁ Bd hml0 hP hK
  obtain ⟨rfl, hZ, hh⟩ := hP
  have hx := Bd.exec
  have hby := Bd.bytes
  have hml : c.maxLocals = 5 := hml0
  have hown : s.vm.findClass "com/example/tarry/tarry/MessageBytesPinLaw" = some m.cls := findClass_of_methodNamed Bd.named
  have hnm := (name_of_methodNamed Bd.named Bd.method).1
  have X0 : Stand p l e ({ frames := 0, cells := 0, slots := 0, locals := 0 } : Room) s m #[(.ref a1), (.int (3 : Int32)), (.int x0), (.int x1), (.int x2)] below meth c s₁ [] 0 0 := Stand.of_body Bd
  have e0 : s₁.heap = h0 := by rw [← hh, Bd.state]; rfl
  have N0 := Fr.nil n0
  refine Gl.start (Q := Q_rmS3 Z a1 x0 x1 x2 k1 h0 n0) (ef_rmS3 m a1 x0 x1 x2) ?_
  show Gl p e below s _ _ _ s₁ (mkF m 0 #[.val (.ref a1), .val (.int (3 : Int32)), .val (.int x0), .val (.int x1), .val (.int x2)] [])
  refine Gl.st (fun _ kk => XS.aloadN X0.here hx rfl (hb hby d12_0) rfl rfl kk) ?_
  show Gl p e below s _ _ _ s₁ (mkF m 1 #[.val (.ref a1), .val (.int (3 : Int32)), .val (.int x0), .val (.int x1), .val (.int x2)] [(.ref a1)])
  obtain ⟨cl1, Ar1, q1, Sz1, Ng1, Ha1, Fi1⟩ := id Arv_a1
  refine Gl.st (fun _ kk => X0.arraylength hx (by rw [e0]; exact Ar1.1) (State.isArrayOf_alike hZ.alike Ar1.2.1) (g := (mkF m 1 #[.val (.ref a1), .val (.int (3 : Int32)), .val (.int x0), .val (.int x1), .val (.int x2)] [(.ref a1)])) rfl rfl (hb hby d12_1) _ kk) ?_
  rw [len_of Sz1 Ng1]
  show Gl p e below s _ _ _ s₁ (mkF m 2 #[.val (.ref a1), .val (.int (3 : Int32)), .val (.int x0), .val (.int x1), .val (.int x2)] [(.int (3 : Int32))])
  refine Gl.st (fun _ kk => XS.iloadN X0.here hx rfl (hb hby d12_2) rfl kk) ?_
  show Gl p e below s _ _ _ s₁ (mkF m 3 #[.val (.ref a1), .val (.int (3 : Int32)), .val (.int x0), .val (.int x1), .val (.int x2)] [(.int (3 : Int32)), (.int (3 : Int32))])
  refine Gl.st (fun _ kk => XS.icmpYes X0.here hx rfl (pc0 := 3) (pc' := 8) rfl (hb hby d12_3) rfl (teq (by decide : (3 : Int32) = (3 : Int32))).1 (by decide) (by decide) kk) ?_
  show Gl p e below s _ _ _ s₁ (mkF m 8 #[.val (.ref a1), .val (.int (3 : Int32)), .val (.int x0), .val (.int x1), .val (.int x2)] [])
  refine Gl.st (fun _ kk => XS.iloadN X0.here hx rfl (hb hby d12_8) rfl kk) ?_
  show Gl p e below s _ _ _ s₁ (mkF m 9 #[.val (.ref a1), .val (.int (3 : Int32)), .val (.int x0), .val (.int x1), .val (.int x2)] [(.int (3 : Int32))])
  refine Gl.st (fun _ kk => XS.ifNo X0.here hx rfl (hb hby d12_9) rfl ((if0 _ _).trans (tlt (by decide : (0 : Int32) < (3 : Int32))).2.2.2) kk) ?_
  show Gl p e below s _ _ _ s₁ (mkF m 12 #[.val (.ref a1), .val (.int (3 : Int32)), .val (.int x0), .val (.int x1), .val (.int x2)] [])
  refine Gl.st (fun _ kk => XS.aloadN X0.here hx rfl (hb hby d12_12) rfl rfl kk) ?_
  show Gl p e below s _ _ _ s₁ (mkF m 13 #[.val (.ref a1), .val (.int (3 : Int32)), .val (.int x0), .val (.int x1), .val (.int x2)] [(.ref a1)])
  refine Gl.st (fun _ kk => XS.iconst X0.here hx rfl (hb hby d12_13) kk) ?_
  show Gl p e below s _ _ _ s₁ (mkF m 14 #[.val (.ref a1), .val (.int (3 : Int32)), .val (.int x0), .val (.int x1), .val (.int x2)] [(.int (0 : Int32)), (.ref a1)])
  obtain ⟨cl2, Ar2, q2, Sz2, Ng2, Ha2, Fi2⟩ := id Arv_a1
  have hin2 : ¬ ((0 : Int32) < 0 ∨ cl2.slots.size ≤ ((0 : Int32)).toNatClampNeg) := inb_of Sz2 ⟨by decide, by decide⟩
  have hat2 : cl2.slots[((0 : Int32)).toNatClampNeg]? = some (.int (x0.toInt8.toInt32)) := Ha2.at hin2 rfl
  refine Gl.st (fun _ kk => X0.baloadBytes hx (j := (0 : Int32)) (v := (.int (x0.toInt8.toInt32))) (by rw [e0]; exact Ar2.1) (State.isArrayOf_alike hZ.alike Ar2.2.1) Ar2.2.2 hin2 hat2 (g := (mkF m 14 #[.val (.ref a1), .val (.int (3 : Int32)), .val (.int x0), .val (.int x1), .val (.int x2)] [(.int (0 : Int32)), (.ref a1)])) rfl rfl (hb hby d12_14) _ kk) ?_
  show Gl p e below s _ _ _ s₁ (mkF m 15 #[.val (.ref a1), .val (.int (3 : Int32)), .val (.int x0), .val (.int x1), .val (.int x2)] [(.int (x0.toInt8.toInt32))])
  refine Gl.st (fun _ kk => XS.iloadN X0.here hx rfl (hb hby d12_15) rfl kk) ?_
  show Gl p e below s _ _ _ s₁ (mkF m 16 #[.val (.ref a1), .val (.int (3 : Int32)), .val (.int x0), .val (.int x1), .val (.int x2)] [(.int x0), (.int (x0.toInt8.toInt32))])
  refine Gl.st (fun _ kk => XS.i2b X0.here hx rfl (hb hby d12_16) rfl kk) ?_
  show Gl p e below s _ _ _ s₁ (mkF m 17 #[.val (.ref a1), .val (.int (3 : Int32)), .val (.int x0), .val (.int x1), .val (.int x2)] [(.int (x0.toInt8.toInt32)), (.int (x0.toInt8.toInt32))])
  refine Gl.st (fun _ kk => XS.icmpYes X0.here hx rfl (pc0 := 17) (pc' := 22) rfl (hb hby d12_17) rfl (teq (rfl : (x0.toInt8.toInt32) = (x0.toInt8.toInt32))).1 (by decide) (by decide) kk) ?_
  show Gl p e below s _ _ _ s₁ (mkF m 22 #[.val (.ref a1), .val (.int (3 : Int32)), .val (.int x0), .val (.int x1), .val (.int x2)] [])
  refine Gl.st (fun _ kk => XS.iloadN X0.here hx rfl (hb hby d12_22) rfl kk) ?_
  show Gl p e below s _ _ _ s₁ (mkF m 23 #[.val (.ref a1), .val (.int (3 : Int32)), .val (.int x0), .val (.int x1), .val (.int x2)] [(.int (3 : Int32))])
  refine Gl.st (fun _ kk => XS.iconst X0.here hx rfl (hb hby d12_23) kk) ?_
  show Gl p e below s _ _ _ s₁ (mkF m 24 #[.val (.ref a1), .val (.int (3 : Int32)), .val (.int x0), .val (.int x1), .val (.int x2)] [(.int (1 : Int32)), (.int (3 : Int32))])
  refine Gl.st (fun _ kk => XS.icmpNo X0.here hx rfl (hb hby d12_24) rfl (tlt (by decide : (1 : Int32) < (3 : Int32))).2.2.2 kk) ?_
  show Gl p e below s _ _ _ s₁ (mkF m 27 #[.val (.ref a1), .val (.int (3 : Int32)), .val (.int x0), .val (.int x1), .val (.int x2)] [])
  refine Gl.st (fun _ kk => XS.aloadN X0.here hx rfl (hb hby d12_27) rfl rfl kk) ?_
  show Gl p e below s _ _ _ s₁ (mkF m 28 #[.val (.ref a1), .val (.int (3 : Int32)), .val (.int x0), .val (.int x1), .val (.int x2)] [(.ref a1)])
  refine Gl.st (fun _ kk => XS.iconst X0.here hx rfl (hb hby d12_28) kk) ?_
  show Gl p e below s _ _ _ s₁ (mkF m 29 #[.val (.ref a1), .val (.int (3 : Int32)), .val (.int x0), .val (.int x1), .val (.int x2)] [(.int (1 : Int32)), (.ref a1)])
  obtain ⟨cl3, Ar3, q3, Sz3, Ng3, Ha3, Fi3⟩ := id Arv_a1
  have hin3 : ¬ ((1 : Int32) < 0 ∨ cl3.slots.size ≤ ((1 : Int32)).toNatClampNeg) := inb_of Sz3 ⟨by decide, by decide⟩
  have hat3 : cl3.slots[((1 : Int32)).toNatClampNeg]? = some (.int (x1.toInt8.toInt32)) := Ha3.at hin3 rfl
  refine Gl.st (fun _ kk => X0.baloadBytes hx (j := (1 : Int32)) (v := (.int (x1.toInt8.toInt32))) (by rw [e0]; exact Ar3.1) (State.isArrayOf_alike hZ.alike Ar3.2.1) Ar3.2.2 hin3 hat3 (g := (mkF m 29 #[.val (.ref a1), .val (.int (3 : Int32)), .val (.int x0), .val (.int x1), .val (.int x2)] [(.int (1 : Int32)), (.ref a1)])) rfl rfl (hb hby d12_29) _ kk) ?_
  show Gl p e below s _ _ _ s₁ (mkF m 30 #[.val (.ref a1), .val (.int (3 : Int32)), .val (.int x0), .val (.int x1), .val (.int x2)] [(.int (x1.toInt8.toInt32))])
  refine Gl.st (fun _ kk => XS.iloadN X0.here hx rfl (hb hby d12_30) rfl kk) ?_
  show Gl p e below s _ _ _ s₁ (mkF m 31 #[.val (.ref a1), .val (.int (3 : Int32)), .val (.int x0), .val (.int x1), .val (.int x2)] [(.int x1), (.int (x1.toInt8.toInt32))])
  refine Gl.st (fun _ kk => XS.i2b X0.here hx rfl (hb hby d12_31) rfl kk) ?_
  show Gl p e below s _ _ _ s₁ (mkF m 32 #[.val (.ref a1), .val (.int (3 : Int32)), .val (.int x0), .val (.int x1), .val (.int x2)] [(.int (x1.toInt8.toInt32)), (.int (x1.toInt8.toInt32))])
  refine Gl.st (fun _ kk => XS.icmpYes X0.here hx rfl (pc0 := 32) (pc' := 37) rfl (hb hby d12_32) rfl (teq (rfl : (x1.toInt8.toInt32) = (x1.toInt8.toInt32))).1 (by decide) (by decide) kk) ?_
  show Gl p e below s _ _ _ s₁ (mkF m 37 #[.val (.ref a1), .val (.int (3 : Int32)), .val (.int x0), .val (.int x1), .val (.int x2)] [])
  refine Gl.st (fun _ kk => XS.iloadN X0.here hx rfl (hb hby d12_37) rfl kk) ?_
  show Gl p e below s _ _ _ s₁ (mkF m 38 #[.val (.ref a1), .val (.int (3 : Int32)), .val (.int x0), .val (.int x1), .val (.int x2)] [(.int (3 : Int32))])
  refine Gl.st (fun _ kk => XS.iconst X0.here hx rfl (hb hby d12_38) kk) ?_
  show Gl p e below s _ _ _ s₁ (mkF m 39 #[.val (.ref a1), .val (.int (3 : Int32)), .val (.int x0), .val (.int x1), .val (.int x2)] [(.int (2 : Int32)), (.int (3 : Int32))])
  refine Gl.st (fun _ kk => XS.icmpNo X0.here hx rfl (hb hby d12_39) rfl (tlt (by decide : (2 : Int32) < (3 : Int32))).2.2.2 kk) ?_
  show Gl p e below s _ _ _ s₁ (mkF m 42 #[.val (.ref a1), .val (.int (3 : Int32)), .val (.int x0), .val (.int x1), .val (.int x2)] [])
  refine Gl.st (fun _ kk => XS.aloadN X0.here hx rfl (hb hby d12_42) rfl rfl kk) ?_
  show Gl p e below s _ _ _ s₁ (mkF m 43 #[.val (.ref a1), .val (.int (3 : Int32)), .val (.int x0), .val (.int x1), .val (.int x2)] [(.ref a1)])
  refine Gl.st (fun _ kk => XS.iconst X0.here hx rfl (hb hby d12_43) kk) ?_
  show Gl p e below s _ _ _ s₁ (mkF m 44 #[.val (.ref a1), .val (.int (3 : Int32)), .val (.int x0), .val (.int x1), .val (.int x2)] [(.int (2 : Int32)), (.ref a1)])
  obtain ⟨cl4, Ar4, q4, Sz4, Ng4, Ha4, Fi4⟩ := id Arv_a1
  have hin4 : ¬ ((2 : Int32) < 0 ∨ cl4.slots.size ≤ ((2 : Int32)).toNatClampNeg) := inb_of Sz4 ⟨by decide, by decide⟩
  have hat4 : cl4.slots[((2 : Int32)).toNatClampNeg]? = some (.int (x2.toInt8.toInt32)) := Ha4.at hin4 rfl
  refine Gl.st (fun _ kk => X0.baloadBytes hx (j := (2 : Int32)) (v := (.int (x2.toInt8.toInt32))) (by rw [e0]; exact Ar4.1) (State.isArrayOf_alike hZ.alike Ar4.2.1) Ar4.2.2 hin4 hat4 (g := (mkF m 44 #[.val (.ref a1), .val (.int (3 : Int32)), .val (.int x0), .val (.int x1), .val (.int x2)] [(.int (2 : Int32)), (.ref a1)])) rfl rfl (hb hby d12_44) _ kk) ?_
  show Gl p e below s _ _ _ s₁ (mkF m 45 #[.val (.ref a1), .val (.int (3 : Int32)), .val (.int x0), .val (.int x1), .val (.int x2)] [(.int (x2.toInt8.toInt32))])
  refine Gl.st (fun _ kk => XS.iload X0.here hx rfl (hb hby d12_45) rfl kk) ?_
  show Gl p e below s _ _ _ s₁ (mkF m 47 #[.val (.ref a1), .val (.int (3 : Int32)), .val (.int x0), .val (.int x1), .val (.int x2)] [(.int x2), (.int (x2.toInt8.toInt32))])
  refine Gl.st (fun _ kk => XS.i2b X0.here hx rfl (hb hby d12_47) rfl kk) ?_
  show Gl p e below s _ _ _ s₁ (mkF m 48 #[.val (.ref a1), .val (.int (3 : Int32)), .val (.int x0), .val (.int x1), .val (.int x2)] [(.int (x2.toInt8.toInt32)), (.int (x2.toInt8.toInt32))])
  refine Gl.st (fun _ kk => XS.icmpYes X0.here hx rfl (pc0 := 48) (pc' := 53) rfl (hb hby d12_48) rfl (teq (rfl : (x2.toInt8.toInt32) = (x2.toInt8.toInt32))).1 (by decide) (by decide) kk) ?_
  show Gl p e below s _ _ _ s₁ (mkF m 53 #[.val (.ref a1), .val (.int (3 : Int32)), .val (.int x0), .val (.int x1), .val (.int x2)] [])
  refine Gl.st (fun _ kk => XS.iconst X0.here hx rfl (hb hby d12_53) kk) ?_
  show Gl p e below s _ _ _ s₁ (mkF m 54 #[.val (.ref a1), .val (.int (3 : Int32)), .val (.int x0), .val (.int x1), .val (.int x2)] [(.int (1 : Int32))])
  exact Gl.ret X0 (v := (some (.int (1 : Int32)))) (fun h => by rw [Bd.returns] at h; cases h) (BodyLoose.notSynchronized Bd) (fun hr => retN X0 hx (t := .boolean) Bd.returns (by simp) (hb hby d12_54) hr) e0 ⟨rfl, N0, rfl⟩ (by decide) (by decide)
theorem d9_0 : decode prog_13_method_9_code 0 = .ok (.aload_n 0, 1) := by decide +kernel
theorem d9_1 : decode prog_13_method_9_code 1 = .ok (.getfield 21, 3) := by decide +kernel
theorem d9_4 : decode prog_13_method_9_code 4 = .ok (.areturn, 1) := by decide +kernel
theorem pn_rmA_messageId : plainName "com/example/tarry/tarry/Message" = true := by first | (simp [plainName, overriddenIn]; done) | decide +kernel
theorem ef_rmA_messageId (m : MethodId) (a1 : Addr) : entryFrame m #[(.ref a1)] 1 = mkF m 0 #[.val (.ref a1)] [] := by first | (simp [entryFrame, mkF, argsToLocals, Value.category]; done) | rfl
def Q_rmA_messageId (Z : State) (a1 : Addr)  (h0 : Heap) (n0 : Nat) (v : Option Value) (h : Heap) (L : List Loc) : Prop := v = some .null ∧ Fr n0 L ∧ h = h0
set_option maxRecDepth 65536 in
set_option maxHeartbeats 40000000 in
theorem rmA_messageId (l : Launch) (Z : State) (a0 : Array Value) (hw : ∀ d ∈ tables_1, d.before a0 Z = true) (ws : List Jvm.Cond) (a1 : Addr)  (h0 : Heap) (n0 : Nat) (O0 : Old Z n0 h0) (F_messageId_a1 : Fld Z h0 a1 "com/example/tarry/tarry/Message" "messageId" "Ljava/lang/String;" .null) :
    MetFree l (⟨"com/example/tarry/tarry/Message", "messageId", "()Ljava/lang/String;"⟩ : MethodName) (head1 (Jvm.Cond.code (⟨"com/example/tarry/tarry/Message", "messageId", "()Ljava/lang/String;"⟩ : MethodName) prog_13_method_9_code 1 (some (.object "java/lang/String")) :: ws) ({ frames := 0, cells := 0, slots := 0, locals := 0 } : Room)) (fun a U => a = #[(.ref a1)] ∧ Z.Warmed39 U.vm ∧ U.heap = h0) (fun _ _ _ _ _ => True) (fun _ U o U' => ∃ v L, o = .returned v ∧ Q_rmA_messageId Z a1  h0 n0 v U'.heap L ∧ FrameEnd U o U' L ({ frames := 0, cells := 0, slots := 0, locals := 0 } : Room).cells ({ frames := 0, cells := 0, slots := 0, locals := 0 } : Room).slots) := by
  refine MetFree.of_bodySF (plainFor_of_name pn_rmA_messageId) hisR ?_
  intro p e s m args below meth c s₁ Bd hml0 hP hK
  obtain ⟨rfl, hZ, hh⟩ := hP
  have hx := Bd.exec
  have hby := Bd.bytes
  have hml : c.maxLocals = 1 := hml0
  have hown : s.vm.findClass "com/example/tarry/tarry/Message" = some m.cls := findClass_of_methodNamed Bd.named
  have hnm := (name_of_methodNamed Bd.named Bd.method).1
  have X0 : Stand p l e ({ frames := 0, cells := 0, slots := 0, locals := 0 } : Room) s m #[(.ref a1)] below meth c s₁ [] 0 0 := Stand.of_body Bd
  have e0 : s₁.heap = h0 := by rw [← hh, Bd.state]; rfl
  have N0 := Fr.nil n0
  refine Gl.start (Q := Q_rmA_messageId Z a1  h0 n0) (ef_rmA_messageId m a1) ?_
  show Gl p e below s _ _ _ s₁ (mkF m 0 #[.val (.ref a1)] [])
  refine Gl.st (fun _ kk => XS.aloadN X0.here hx rfl (hb hby d9_0) rfl rfl kk) ?_
  show Gl p e below s _ _ _ s₁ (mkF m 1 #[.val (.ref a1)] [(.ref a1)])
  obtain ⟨T1, X1, e1, st1⟩ := getF X0 hx hZ hown (host := "") (Or.inl (hw _ (List.mem_of_getElem? (i := 45) rfl))) Via.refl e0 F_messageId_a1 (g := (mkF m 1 #[.val (.ref a1)] [(.ref a1)])) rfl rfl (hb hby d9_1)
  refine Gl.st st1 ?_
  show Gl p e below s _ _ _ T1 (mkF m 4 #[.val (.ref a1)] [.null])
  exact Gl.ret X1 (v := (some .null)) (fun h => by rw [Bd.returns] at h; cases h) (BodyLoose.notSynchronized Bd) (fun hr => retOut X1 hx Bd.returns rfl (Or.inr (Or.inr (Or.inr (Or.inr ⟨rfl, rfl, rfl⟩)))) (hb hby d9_4) hr) e1 ⟨rfl, N0, rfl⟩ (by decide) (by decide)
theorem d10_0 : decode prog_13_method_10_code 0 = .ok (.aload_n 0, 1) := by decide +kernel
theorem d10_1 : decode prog_13_method_10_code 1 = .ok (.getfield 24, 3) := by decide +kernel
theorem d10_4 : decode prog_13_method_10_code 4 = .ok (.areturn, 1) := by decide +kernel
theorem pn_rmA_correlationId : plainName "com/example/tarry/tarry/Message" = true := by first | (simp [plainName, overriddenIn]; done) | decide +kernel
theorem ef_rmA_correlationId (m : MethodId) (a1 : Addr) : entryFrame m #[(.ref a1)] 1 = mkF m 0 #[.val (.ref a1)] [] := by first | (simp [entryFrame, mkF, argsToLocals, Value.category]; done) | rfl
def Q_rmA_correlationId (Z : State) (a1 : Addr)  (h0 : Heap) (n0 : Nat) (v : Option Value) (h : Heap) (L : List Loc) : Prop := v = some .null ∧ Fr n0 L ∧ h = h0
set_option maxRecDepth 65536 in
set_option maxHeartbeats 40000000 in
theorem rmA_correlationId (l : Launch) (Z : State) (a0 : Array Value) (hw : ∀ d ∈ tables_1, d.before a0 Z = true) (ws : List Jvm.Cond) (a1 : Addr)  (h0 : Heap) (n0 : Nat) (O0 : Old Z n0 h0) (F_correlationId_a1 : Fld Z h0 a1 "com/example/tarry/tarry/Message" "correlationId" "Ljava/lang/String;" .null) :
    MetFree l (⟨"com/example/tarry/tarry/Message", "correlationId", "()Ljava/lang/String;"⟩ : MethodName) (head1 (Jvm.Cond.code (⟨"com/example/tarry/tarry/Message", "correlationId", "()Ljava/lang/String;"⟩ : MethodName) prog_13_method_10_code 1 (some (.object "java/lang/String")) :: ws) ({ frames := 0, cells := 0, slots := 0, locals := 0 } : Room)) (fun a U => a = #[(.ref a1)] ∧ Z.Warmed39 U.vm ∧ U.heap = h0) (fun _ _ _ _ _ => True) (fun _ U o U' => ∃ v L, o = .returned v ∧ Q_rmA_correlationId Z a1  h0 n0 v U'.heap L ∧ FrameEnd U o U' L ({ frames := 0, cells := 0, slots := 0, locals := 0 } : Room).cells ({ frames := 0, cells := 0, slots := 0, locals := 0 } : Room).slots) := by
  refine MetFree.of_bodySF (plainFor_of_name pn_rmA_correlationId) hisR ?_
  intro p e s m args below meth c s₁ Bd hml0 hP hK
  obtain ⟨rfl, hZ, hh⟩ := hP
  have hx := Bd.exec
  have hby := Bd.bytes
  have hml : c.maxLocals = 1 := hml0
  have hown : s.vm.findClass "com/example/tarry/tarry/Message" = some m.cls := findClass_of_methodNamed Bd.named
  have hnm := (name_of_methodNamed Bd.named Bd.method).1
  have X0 : Stand p l e ({ frames := 0, cells := 0, slots := 0, locals := 0 } : Room) s m #[(.ref a1)] below meth c s₁ [] 0 0 := Stand.of_body Bd
  have e0 : s₁.heap = h0 := by rw [← hh, Bd.state]; rfl
  have N0 := Fr.nil n0
  refine Gl.start (Q := Q_rmA_correlationId Z a1  h0 n0) (ef_rmA_correlationId m a1) ?_
  show Gl p e below s _ _ _ s₁ (mkF m 0 #[.val (.ref a1)] [])
  refine Gl.st (fun _ kk => XS.aloadN X0.here hx rfl (hb hby d10_0) rfl rfl kk) ?_
  show Gl p e below s _ _ _ s₁ (mkF m 1 #[.val (.ref a1)] [(.ref a1)])
  obtain ⟨T1, X1, e1, st1⟩ := getF X0 hx hZ hown (host := "") (Or.inl (hw _ (List.mem_of_getElem? (i := 47) rfl))) Via.refl e0 F_correlationId_a1 (g := (mkF m 1 #[.val (.ref a1)] [(.ref a1)])) rfl rfl (hb hby d10_1)
  refine Gl.st st1 ?_
  show Gl p e below s _ _ _ T1 (mkF m 4 #[.val (.ref a1)] [.null])
  exact Gl.ret X1 (v := (some .null)) (fun h => by rw [Bd.returns] at h; cases h) (BodyLoose.notSynchronized Bd) (fun hr => retOut X1 hx Bd.returns rfl (Or.inr (Or.inr (Or.inr (Or.inr ⟨rfl, rfl, rfl⟩)))) (hb hby d10_4) hr) e1 ⟨rfl, N0, rfl⟩ (by decide) (by decide)
theorem d11_0 : decode prog_13_method_11_code 0 = .ok (.aload_n 0, 1) := by decide +kernel
theorem d11_1 : decode prog_13_method_11_code 1 = .ok (.getfield 27, 3) := by decide +kernel
theorem d11_4 : decode prog_13_method_11_code 4 = .ok (.areturn, 1) := by decide +kernel
theorem pn_rmA_replyTo : plainName "com/example/tarry/tarry/Message" = true := by first | (simp [plainName, overriddenIn]; done) | decide +kernel
theorem ef_rmA_replyTo (m : MethodId) (a1 : Addr) : entryFrame m #[(.ref a1)] 1 = mkF m 0 #[.val (.ref a1)] [] := by first | (simp [entryFrame, mkF, argsToLocals, Value.category]; done) | rfl
def Q_rmA_replyTo (Z : State) (a1 : Addr)  (h0 : Heap) (n0 : Nat) (v : Option Value) (h : Heap) (L : List Loc) : Prop := v = some .null ∧ Fr n0 L ∧ h = h0
set_option maxRecDepth 65536 in
set_option maxHeartbeats 40000000 in
theorem rmA_replyTo (l : Launch) (Z : State) (a0 : Array Value) (hw : ∀ d ∈ tables_1, d.before a0 Z = true) (ws : List Jvm.Cond) (a1 : Addr)  (h0 : Heap) (n0 : Nat) (O0 : Old Z n0 h0) (F_replyTo_a1 : Fld Z h0 a1 "com/example/tarry/tarry/Message" "replyTo" "Ljava/lang/String;" .null) :
    MetFree l (⟨"com/example/tarry/tarry/Message", "replyTo", "()Ljava/lang/String;"⟩ : MethodName) (head1 (Jvm.Cond.code (⟨"com/example/tarry/tarry/Message", "replyTo", "()Ljava/lang/String;"⟩ : MethodName) prog_13_method_11_code 1 (some (.object "java/lang/String")) :: ws) ({ frames := 0, cells := 0, slots := 0, locals := 0 } : Room)) (fun a U => a = #[(.ref a1)] ∧ Z.Warmed39 U.vm ∧ U.heap = h0) (fun _ _ _ _ _ => True) (fun _ U o U' => ∃ v L, o = .returned v ∧ Q_rmA_replyTo Z a1  h0 n0 v U'.heap L ∧ FrameEnd U o U' L ({ frames := 0, cells := 0, slots := 0, locals := 0 } : Room).cells ({ frames := 0, cells := 0, slots := 0, locals := 0 } : Room).slots) := by
  refine MetFree.of_bodySF (plainFor_of_name pn_rmA_replyTo) hisR ?_
  intro p e s m args below meth c s₁ Bd hml0 hP hK
  obtain ⟨rfl, hZ, hh⟩ := hP
  have hx := Bd.exec
  have hby := Bd.bytes
  have hml : c.maxLocals = 1 := hml0
  have hown : s.vm.findClass "com/example/tarry/tarry/Message" = some m.cls := findClass_of_methodNamed Bd.named
  have hnm := (name_of_methodNamed Bd.named Bd.method).1
  have X0 : Stand p l e ({ frames := 0, cells := 0, slots := 0, locals := 0 } : Room) s m #[(.ref a1)] below meth c s₁ [] 0 0 := Stand.of_body Bd
  have e0 : s₁.heap = h0 := by rw [← hh, Bd.state]; rfl
  have N0 := Fr.nil n0
  refine Gl.start (Q := Q_rmA_replyTo Z a1  h0 n0) (ef_rmA_replyTo m a1) ?_
  show Gl p e below s _ _ _ s₁ (mkF m 0 #[.val (.ref a1)] [])
  refine Gl.st (fun _ kk => XS.aloadN X0.here hx rfl (hb hby d11_0) rfl rfl kk) ?_
  show Gl p e below s _ _ _ s₁ (mkF m 1 #[.val (.ref a1)] [(.ref a1)])
  obtain ⟨T1, X1, e1, st1⟩ := getF X0 hx hZ hown (host := "") (Or.inl (hw _ (List.mem_of_getElem? (i := 49) rfl))) Via.refl e0 F_replyTo_a1 (g := (mkF m 1 #[.val (.ref a1)] [(.ref a1)])) rfl rfl (hb hby d11_1)
  refine Gl.st st1 ?_
  show Gl p e below s _ _ _ T1 (mkF m 4 #[.val (.ref a1)] [.null])
  exact Gl.ret X1 (v := (some .null)) (fun h => by rw [Bd.returns] at h; cases h) (BodyLoose.notSynchronized Bd) (fun hr => retOut X1 hx Bd.returns rfl (Or.inr (Or.inr (Or.inr (Or.inr ⟨rfl, rfl, rfl⟩)))) (hb hby d11_4) hr) e1 ⟨rfl, N0, rfl⟩ (by decide) (by decide)
theorem d8_0 : decode prog_13_method_4_code 0 = .ok (.aload_n 0, 1) := by decide +kernel
theorem d8_1 : decode prog_13_method_4_code 1 = .ok (.getfield 7, 3) := by decide +kernel
theorem d8_4 : decode prog_13_method_4_code 4 = .ok (.ifnull 7, 3) := by decide +kernel
theorem d8_11 : decode prog_13_method_4_code 11 = .ok (.iconst 0, 1) := by decide +kernel
theorem d8_12 : decode prog_13_method_4_code 12 = .ok (.ireturn, 1) := by decide +kernel
theorem pn_rmT : plainName "com/example/tarry/tarry/Message" = true := by first | (simp [plainName, overriddenIn]; done) | decide +kernel
theorem ef_rmT (m : MethodId) (a1 : Addr) : entryFrame m #[(.ref a1)] 1 = mkF m 0 #[.val (.ref a1)] [] := by first | (simp [entryFrame, mkF, argsToLocals, Value.category]; done) | rfl
def Q_rmT (Z : State) (a1 : Addr)  (h0 : Heap) (n0 : Nat) (v : Option Value) (h : Heap) (L : List Loc) : Prop := v = some (.int 0) ∧ Fr n0 L ∧ h = h0
set_option maxRecDepth 65536 in
set_option maxHeartbeats 40000000 in
theorem rmT (l : Launch) (Z : State) (a0 : Array Value) (hw : ∀ d ∈ tables_1, d.before a0 Z = true) (ws : List Jvm.Cond) (a1 : Addr)  (h0 : Heap) (n0 : Nat) (O0 : Old Z n0 h0) (F_text_a1 : Fld Z h0 a1 "com/example/tarry/tarry/Message" "text" "Ljava/lang/String;" .null) :
    MetFree l (⟨"com/example/tarry/tarry/Message", "isText", "()Z"⟩ : MethodName) (head1 (Jvm.Cond.code (⟨"com/example/tarry/tarry/Message", "isText", "()Z"⟩ : MethodName) prog_13_method_4_code 1 (some .boolean) :: ws) ({ frames := 0, cells := 0, slots := 0, locals := 0 } : Room)) (fun a U => a = #[(.ref a1)] ∧ Z.Warmed39 U.vm ∧ U.heap = h0) (fun _ _ _ _ _ => True) (fun _ U o U' => ∃ v L, o = .returned v ∧ Q_rmT Z a1  h0 n0 v U'.heap L ∧ FrameEnd U o U' L ({ frames := 0, cells := 0, slots := 0, locals := 0 } : Room).cells ({ frames := 0, cells := 0, slots := 0, locals := 0 } : Room).slots) := by
  refine MetFree.of_bodySF (plainFor_of_name pn_rmT) hisR ?_
  intro p e s m args below meth c s₁ Bd hml0 hP hK
  obtain ⟨rfl, hZ, hh⟩ := hP
  have hx := Bd.exec
  have hby := Bd.bytes
  have hml : c.maxLocals = 1 := hml0
  have hown : s.vm.findClass "com/example/tarry/tarry/Message" = some m.cls := findClass_of_methodNamed Bd.named
  have hnm := (name_of_methodNamed Bd.named Bd.method).1
  have X0 : Stand p l e ({ frames := 0, cells := 0, slots := 0, locals := 0 } : Room) s m #[(.ref a1)] below meth c s₁ [] 0 0 := Stand.of_body Bd
  have e0 : s₁.heap = h0 := by rw [← hh, Bd.state]; rfl
  have N0 := Fr.nil n0
  refine Gl.start (Q := Q_rmT Z a1  h0 n0) (ef_rmT m a1) ?_
  show Gl p e below s _ _ _ s₁ (mkF m 0 #[.val (.ref a1)] [])
  refine Gl.st (fun _ kk => XS.aloadN X0.here hx rfl (hb hby d8_0) rfl rfl kk) ?_
  show Gl p e below s _ _ _ s₁ (mkF m 1 #[.val (.ref a1)] [(.ref a1)])
  obtain ⟨T1, X1, e1, st1⟩ := getF X0 hx hZ hown (host := "") (Or.inl (hw _ (List.mem_of_getElem? (i := 39) rfl))) Via.refl e0 F_text_a1 (g := (mkF m 1 #[.val (.ref a1)] [(.ref a1)])) rfl rfl (hb hby d8_1)
  refine Gl.st st1 ?_
  show Gl p e below s _ _ _ T1 (mkF m 4 #[.val (.ref a1)] [.null])
  refine Gl.st (fun _ kk => XS.ifnullYes X1.here hx rfl (pc0 := 4) (pc' := 11) rfl (hb hby d8_4) rfl (by decide) (by decide) kk) ?_
  show Gl p e below s _ _ _ T1 (mkF m 11 #[.val (.ref a1)] [])
  refine Gl.st (fun _ kk => XS.iconst X1.here hx rfl (hb hby d8_11) kk) ?_
  show Gl p e below s _ _ _ T1 (mkF m 12 #[.val (.ref a1)] [(.int (0 : Int32))])
  exact Gl.ret X1 (v := (some (.int (0 : Int32)))) (fun h => by rw [Bd.returns] at h; cases h) (BodyLoose.notSynchronized Bd) (fun hr => retN X1 hx (t := .boolean) Bd.returns (by simp) (hb hby d8_12) hr) e1 ⟨rfl, N0, rfl⟩ (by decide) (by decide)
theorem pd_rm0_0 : parseMethodDescriptor "([B)Lcom/example/tarry/tarry/Message;" = some ⟨[(.array .byte)], some (.object "com/example/tarry/tarry/Message")⟩ := by decide +kernel
theorem pd_rm0_1 : parseMethodDescriptor "([B)V" = some ⟨[(.array .byte)], none⟩ := by decide +kernel
theorem pd_rm0_2 : parseMethodDescriptor "()[B" = some ⟨[], some (.array .byte)⟩ := by decide +kernel
theorem pd_rm0_3 : parseMethodDescriptor "()Z" = some ⟨[], some .boolean⟩ := by decide +kernel
theorem pd_rm0_4 : parseMethodDescriptor "()Ljava/lang/String;" = some ⟨[], some (.object "java/lang/String")⟩ := by decide +kernel
theorem pd_rm0_5 : parseMethodDescriptor "([BIIII)Z" = some ⟨[(.array .byte), .int, .int, .int, .int], some .boolean⟩ := by decide +kernel
theorem pn_rm0 : plainName "com/example/tarry/tarry/MessageBytesPinLaw" = true := by first | (simp [plainName, overriddenIn]; done) | decide +kernel
theorem ef_rm0 (m : MethodId) (p1 : Int32) (p2 : Int32) (p3 : Int32) (p4 : Int32) : entryFrame m #[(.int p1), (.int p2), (.int p3), (.int p4)] maxLocals = mkF m 0 #[.val (.int p1), .val (.int p2), .val (.int p3), .val (.int p4), .unset, .unset, .unset, .unset, .unset, .unset] [] := by first | (simp [entryFrame, mkF, argsToLocals, Value.category, maxLocals]; done) | rfl
def Q_rm0 (Z : State) (p1 : Int32) (p2 : Int32) (p3 : Int32) (p4 : Int32) (em : Addr) (h0 : Heap) (n0 : Nat) (v : Option Value) (h : Heap) (L : List Loc) : Prop := v = some (.int 1) ∧ Fr n0 L
set_option maxRecDepth 65536 in
set_option maxHeartbeats 40000000 in
theorem rm0 (l : Launch) (Z : State) (a0 : Array Value) (hw : ∀ d ∈ tables_1, d.before a0 Z = true) (ws : List Jvm.Cond) (p1 : Int32) (p2 : Int32) (p3 : Int32) (p4 : Int32) (em : Addr) (h0 : Heap) (n0 : Nat) (O0 : Old Z n0 h0) (S_EM : Sta Z Z.heap "java/util/ImmutableCollections" "EMPTY_MAP" "Ljava/util/ImmutableCollections$MapN;" (.ref em)) :
    MetFree l x (head1 (Jvm.Cond.code x code maxLocals ret :: ws) room_1) (fun a U => a = #[(.int p1), (.int p2), (.int p3), (.int p4)] ∧ Z.Warmed39 U.vm ∧ U.heap = h0 ∧ CHv Z ([] : List (String × Nat)) U.vm h0) (fun _ _ _ _ _ => True) (fun _ U o U' => ∃ v L, o = .returned v ∧ Q_rm0 Z p1 p2 p3 p4 em h0 n0 v U'.heap L ∧ CHr Z ([] : List (String × Nat)) U.vm U.heap U'.vm U'.heap ∧ ReturnedEndW U o U' L room_1.cells room_1.slots) := by
  refine MetFree.of_bodySF (plainFor_of_name pn_rm0) hisR ?_
  intro p e s m args below meth c s₁ Bd hml0 hP hK
  obtain ⟨rfl, hZ, hh, H0⟩ := hP
  have hx := Bd.exec
  have hby := Bd.bytes
  have hml : c.maxLocals = 10 := hml0
  have hown : s.vm.findClass "com/example/tarry/tarry/MessageBytesPinLaw" = some m.cls := findClass_of_methodNamed Bd.named
  have hnm := (name_of_methodNamed Bd.named Bd.method).1
  have X0 : Stand p l e room_1 (s.setVm s.vm) m #[(.int p1), (.int p2), (.int p3), (.int p4)] below meth c s₁ [] 0 0 := Stand.of_body Bd
  have e0 : s₁.heap = h0 := by rw [← hh, Bd.state]; rfl
  have N0 := Fr.nil n0
  have hS0 : s.Since s.vm 0 := (State.WarmedH.refl s).since 0
  have hk0 : 0 ≤ h0.size := Nat.zero_le _
  have HC0 : CHr Z ([] : List (String × Nat)) s.vm h0 s.vm h0 := CHr.refl H0
  have hh0 : s.heap = h0 := hh
  refine GlW.start (Q := Q_rm0 Z p1 p2 p3 p4 em h0 n0) (ef_rm0 m p1 p2 p3 p4) ?_
  have hEL : EW Z a0 ([] : List (String × Nat)) := EW.nil
  have hwS : ∀ a ∈ Bundle.stringAtoms, a.before a0 Z = true := fun d hd => hw d ((by decide +kernel : ∀ d ∈ Bundle.stringAtoms, d ∈ tables_1) d hd)
  show GlW Z ([] : List (String × Nat)) p e below s _ _ _ s₁ (mkF m 0 #[.val (.int p1), .val (.int p2), .val (.int p3), .val (.int p4), .unset, .unset, .unset, .unset, .unset, .unset] [])
  refine GlW.st (fun _ kk => XS.iloadN X0.here hx rfl (hb hby at_0) rfl kk) ?_
  show GlW Z ([] : List (String × Nat)) p e below s _ _ _ s₁ (mkF m 1 #[.val (.int p1), .val (.int p2), .val (.int p3), .val (.int p4), .unset, .unset, .unset, .unset, .unset, .unset] [(.int p1)])
  refine GlW.st (fun _ kk => XS.iconst X0.here hx rfl (hb hby at_1) kk) ?_
  show GlW Z ([] : List (String × Nat)) p e below s _ _ _ s₁ (mkF m 2 #[.val (.int p1), .val (.int p2), .val (.int p3), .val (.int p4), .unset, .unset, .unset, .unset, .unset, .unset] [(.int (3 : Int32)), (.int p1)])
  refine GlW.st (fun _ kk => XS.iand X0.here hx rfl (hb hby at_2) rfl kk) ?_
  show GlW Z ([] : List (String × Nat)) p e below s _ _ _ s₁ (mkF m 3 #[.val (.int p1), .val (.int p2), .val (.int p3), .val (.int p4), .unset, .unset, .unset, .unset, .unset, .unset] [(.int (p1 &&& (3 : Int32)))])
  refine GlW.st (fun _ kk => XS.istore X0.here hx rfl (hb hby at_3) rfl (l' := #[.val (.int p1), .val (.int p2), .val (.int p3), .val (.int p4), .val (.int (p1 &&& (3 : Int32))), .unset, .unset, .unset, .unset, .unset]) rfl kk) ?_
  show GlW Z ([] : List (String × Nat)) p e below s _ _ _ s₁ (mkF m 5 #[.val (.int p1), .val (.int p2), .val (.int p3), .val (.int p4), .val (.int (p1 &&& (3 : Int32))), .unset, .unset, .unset, .unset, .unset] [])
  rcases own_mask3 p1 with hk | hk | hk | hk
  · rw [hk]
    show GlW Z ([] : List (String × Nat)) p e below s _ _ _ s₁ (mkF m 5 #[.val (.int p1), .val (.int p2), .val (.int p3), .val (.int p4), .val (.int (0 : Int32)), .unset, .unset, .unset, .unset, .unset] [])
    refine GlW.st (fun _ kk => XS.iload X0.here hx rfl (hb hby at_5) rfl kk) ?_
    show GlW Z ([] : List (String × Nat)) p e below s _ _ _ s₁ (mkF m 7 #[.val (.int p1), .val (.int p2), .val (.int p3), .val (.int p4), .val (.int (0 : Int32)), .unset, .unset, .unset, .unset, .unset] [(.int (0 : Int32))])
    obtain ⟨T1, h1, ka1, X1, e1, E1, A1, Ax1, st1⟩ := newPE X0 hx hZ (hw _ (List.mem_of_getElem? (i := 0) rfl)) e0 (g := (mkF m 7 #[.val (.int p1), .val (.int p2), .val (.int p3), .val (.int p4), .val (.int (0 : Int32)), .unset, .unset, .unset, .unset, .unset] [(.int (0 : Int32))])) rfl (hb hby at_7) rfl (by decide) (cap := 0) (by decide) (by decide) (by decide) (by decide) (ad := "[B") (by decide)
    obtain ⟨b1, g1⟩ : ∃ z, z = h0.size := ⟨_, rfl⟩
    rw [← g1] at A1 Ax1 st1
    refine GlW.st st1 ?_
    have ge_b1 : n0 ≤ b1 := Nat.le_trans (Nat.le_trans (Nat.le_of_eq O0.1.symm) O0.2.1) (Nat.le_of_eq g1.symm)
    have fr_b1 : h0.size ≤ b1 := Nat.le_trans (Nat.le_refl _) (Nat.le_of_eq g1.symm)
    have Sf_b1 : Safe Z ([] : List (String × Nat)) s.vm h0 b1 := Safe.new (Nat.le_of_eq g1.symm)
    have Sf_b1 := Safe.ext E1 HC0.1 Sf_b1
    have HC1 := HC0.trans (CHr.ext E1 HC0.1)
    have hk1 := Nat.le_trans hk0 E1.1
    have O1 := O0.ext E1
    have K1 := (Keep.refl h0 []).ext E1
    have Arv_b1 : Arv Z h1 b1 ka1 .byte (0 : Int32) [] (.int (0 : Int32)) := (Arv.new A1 (by decide)).pad (pad_rep [] (.int (0 : Int32)) 0)
    have Exa_b1 := Ax1
    show GlW Z ([] : List (String × Nat)) p e below s _ _ _ T1 (mkF m 9 #[.val (.int p1), .val (.int p2), .val (.int p3), .val (.int p4), .val (.int (0 : Int32)), .unset, .unset, .unset, .unset, .unset] [(.ref b1)])
    refine GlW.st (fun _ kk => XS.astore X1.here hx rfl (hb hby at_9) rfl rfl (l' := #[.val (.int p1), .val (.int p2), .val (.int p3), .val (.int p4), .val (.int (0 : Int32)), .val (.ref b1), .unset, .unset, .unset, .unset]) rfl kk) ?_
    show GlW Z ([] : List (String × Nat)) p e below s _ _ _ T1 (mkF m 11 #[.val (.int p1), .val (.int p2), .val (.int p3), .val (.int p4), .val (.int (0 : Int32)), .val (.ref b1), .unset, .unset, .unset, .unset] [])
    refine GlW.st (fun _ kk => XS.iload X1.here hx rfl (hb hby at_11) rfl kk) ?_
    show GlW Z ([] : List (String × Nat)) p e below s _ _ _ T1 (mkF m 13 #[.val (.int p1), .val (.int p2), .val (.int p3), .val (.int p4), .val (.int (0 : Int32)), .val (.ref b1), .unset, .unset, .unset, .unset] [(.int (0 : Int32))])
    refine GlW.st (fun _ kk => XS.ifYes X1.here hx rfl (pc0 := 13) (pc' := 22) rfl (hb hby at_13) rfl ((if0 _ _).trans (flt (by decide : ¬ ((0 : Int32) < (0 : Int32)))).2.2.2) (by decide) (by decide) kk) ?_
    show GlW Z ([] : List (String × Nat)) p e below s _ _ _ T1 (mkF m 22 #[.val (.int p1), .val (.int p2), .val (.int p3), .val (.int p4), .val (.int (0 : Int32)), .val (.ref b1), .unset, .unset, .unset, .unset] [])
    refine GlW.st (fun _ kk => XS.iload X1.here hx rfl (hb hby at_22) rfl kk) ?_
    show GlW Z ([] : List (String × Nat)) p e below s _ _ _ T1 (mkF m 24 #[.val (.int p1), .val (.int p2), .val (.int p3), .val (.int p4), .val (.int (0 : Int32)), .val (.ref b1), .unset, .unset, .unset, .unset] [(.int (0 : Int32))])
    refine GlW.st (fun _ kk => XS.iconst X1.here hx rfl (hb hby at_24) kk) ?_
    show GlW Z ([] : List (String × Nat)) p e below s _ _ _ T1 (mkF m 25 #[.val (.int p1), .val (.int p2), .val (.int p3), .val (.int p4), .val (.int (0 : Int32)), .val (.ref b1), .unset, .unset, .unset, .unset] [(.int (1 : Int32)), (.int (0 : Int32))])
    refine GlW.st (fun _ kk => XS.icmpYes X1.here hx rfl (pc0 := 25) (pc' := 34) rfl (hb hby at_25) rfl (flt (by decide : ¬ ((1 : Int32) < (0 : Int32)))).2.2.2 (by decide) (by decide) kk) ?_
    show GlW Z ([] : List (String × Nat)) p e below s _ _ _ T1 (mkF m 34 #[.val (.int p1), .val (.int p2), .val (.int p3), .val (.int p4), .val (.int (0 : Int32)), .val (.ref b1), .unset, .unset, .unset, .unset] [])
    refine GlW.st (fun _ kk => XS.iload X1.here hx rfl (hb hby at_34) rfl kk) ?_
    show GlW Z ([] : List (String × Nat)) p e below s _ _ _ T1 (mkF m 36 #[.val (.int p1), .val (.int p2), .val (.int p3), .val (.int p4), .val (.int (0 : Int32)), .val (.ref b1), .unset, .unset, .unset, .unset] [(.int (0 : Int32))])
    refine GlW.st (fun _ kk => XS.iconst X1.here hx rfl (hb hby at_36) kk) ?_
    show GlW Z ([] : List (String × Nat)) p e below s _ _ _ T1 (mkF m 37 #[.val (.int p1), .val (.int p2), .val (.int p3), .val (.int p4), .val (.int (0 : Int32)), .val (.ref b1), .unset, .unset, .unset, .unset] [(.int (2 : Int32)), (.int (0 : Int32))])
    refine GlW.st (fun _ kk => XS.icmpYes X1.here hx rfl (pc0 := 37) (pc' := 46) rfl (hb hby at_37) rfl (flt (by decide : ¬ ((2 : Int32) < (0 : Int32)))).2.2.2 (by decide) (by decide) kk) ?_
    show GlW Z ([] : List (String × Nat)) p e below s _ _ _ T1 (mkF m 46 #[.val (.int p1), .val (.int p2), .val (.int p3), .val (.int p4), .val (.int (0 : Int32)), .val (.ref b1), .unset, .unset, .unset, .unset] [])
    refine GlW.st (fun _ kk => XS.aload X1.here hx rfl (hb hby at_46) rfl rfl kk) ?_
    show GlW Z ([] : List (String × Nat)) p e below s _ _ _ T1 (mkF m 48 #[.val (.int p1), .val (.int p2), .val (.int p3), .val (.int p4), .val (.int (0 : Int32)), .val (.ref b1), .unset, .unset, .unset, .unset] [(.ref b1)])
    have lq2_b1 := Arv_b1.lt
    obtain ⟨v2, _, ⟨T2, L2, kQ2, nQ2⟩, -, X2, hSq2, hgq2, ⟨Lc2, hQ2, l2, y2, z2, HR2⟩, st2⟩ := callSS X1 hx (y := (⟨"com/example/tarry/tarry/Message", "bytes", "([B)Lcom/example/tarry/tarry/Message;"⟩ : MethodName)) hown (mvT hZ (hw _ (List.mem_of_getElem? (i := 1) rfl))) (mvT hZ (hw _ (List.mem_of_getElem? (i := 2) rfl))) (mvT hZ (hw _ (List.mem_of_getElem? (i := 3) rfl))) (mvT hZ (hw _ (List.mem_of_getElem? (i := 4) rfl))) (by decide) (backOfSH (W := 0) (rmB0 l Z a0 hw [] b1 ka1  em h1 n0 O1 Arv_b1 Exa_b1 S_EM) hZ (hw _ (List.mem_of_getElem? (i := 4) rfl)) (hw _ (List.mem_of_getElem? (i := 3) rfl)) (by decide) (by decide) hEL HC1.1) (g := (mkF m 48 #[.val (.int p1), .val (.int p2), .val (.int p3), .val (.int p4), .val (.int (0 : Int32)), .val (.ref b1), .unset, .unset, .unset, .unset] [(.ref b1)])) rfl (by rw [hml]; rfl) (argsL := [(.ref b1)]) (rest := []) (lenOf pd_rm0_0 rfl) rfl (by show 2 * 0 + _ ≤ _; exact Nat.le_of_eq rfl) (hb hby at_48) (fun _ _ => ⟨rfl, e1, (by decide : 1 + 4 ≤ _), (by decide : 0 + 26 ≤ _)⟩)
    dsimp only [Pt.U, Pt.locs, Pt.cells, Pt.slots] at X2 l2 y2 z2 st2 hQ2 hSq2 hgq2 HR2
    subst l2 y2 z2
    obtain ⟨h2, e2⟩ : ∃ z, T2.heap = z := ⟨_, rfl⟩
    rw [e2] at hQ2 HR2 hSq2 hgq2
    obtain ⟨b2, t2, rfl, Nq2, Kq2, Exa_b2, F_text_b2, F_bytes_b2, F_headers_b2, F_messageId_b2, F_correlationId_b2, F_replyTo_b2, Arv_t2, Exa_t2, frb2, frt2, nbt2⟩ := hQ2
    rw [e1] at hgq2
    have hS2 := (hS0).trans hSq2 (Nat.le_trans hk1 hgq2)
    have hk2 := Nat.le_refl h2.size
    have hZ2 : Z.Warmed39 T2.vm := State.Warmed39.trans (t := s.setVm s.vm) hZ hSq2.1
    have hown2 : T2.vm.findClass "com/example/tarry/tarry/MessageBytesPinLaw" = some m.cls := by rw [hSq2.1.alike.findClass]; exact hown
    have Sf_b1 := HR2.safe Arv_b1.lt Sf_b1
    have HC2 := HC1.trans HR2
    have hZ := hZ2
    have hown := hown2
    have N2 := Fr.app N0 Nq2
    refine GlW.st (fun _ kk => st2.trans kk) ?_
    have Arv_b1 := Arv_b1.keep Kq2 nin0
    have Exa_b1 := Exa_b1.keep Kq2
    have O2 := O1.keep Kq2 all0
    have K2 := K1.trans Kq2 all0
    have ne_b1_b2 : b1 ≠ b2 := Nat.ne_of_lt (Nat.lt_of_lt_of_le lq2_b1 frb2)
    have ge_b2 : n0 ≤ b2 := Nat.le_trans (Nat.le_trans (Nat.le_of_eq O1.1.symm) O1.2.1) frb2
    have fr_b2 : h0.size ≤ b2 := Nat.le_trans K1.1 frb2
    have ne_b1_t2 : b1 ≠ t2 := Nat.ne_of_lt (Nat.lt_of_lt_of_le lq2_b1 frt2)
    have ge_t2 : n0 ≤ t2 := Nat.le_trans (Nat.le_trans (Nat.le_of_eq O1.1.symm) O1.2.1) frt2
    have fr_t2 : h0.size ≤ t2 := Nat.le_trans K1.1 frt2
    have Sf_t2 : Safe Z ([] : List (String × Nat)) T2.vm h2 t2 := fun B => by obtain ⟨_, hm, _⟩ := B; cases hm
    show GlW Z ([] : List (String × Nat)) p e below s _ _ _ T2 (mkF m 51 #[.val (.int p1), .val (.int p2), .val (.int p3), .val (.int p4), .val (.int (0 : Int32)), .val (.ref b1), .unset, .unset, .unset, .unset] [(.ref b2)])
    refine GlW.st (fun _ kk => XS.astore X2.here hx rfl (hb hby at_51) rfl rfl (l' := #[.val (.int p1), .val (.int p2), .val (.int p3), .val (.int p4), .val (.int (0 : Int32)), .val (.ref b1), .val (.ref b2), .unset, .unset, .unset]) rfl kk) ?_
    show GlW Z ([] : List (String × Nat)) p e below s _ _ _ T2 (mkF m 53 #[.val (.int p1), .val (.int p2), .val (.int p3), .val (.int p4), .val (.int (0 : Int32)), .val (.ref b1), .val (.ref b2), .unset, .unset, .unset] [])
    refine GlW.st (fun _ kk => XS.aload X2.here hx rfl (hb hby at_53) rfl rfl kk) ?_
    show GlW Z ([] : List (String × Nat)) p e below s _ _ _ T2 (mkF m 55 #[.val (.int p1), .val (.int p2), .val (.int p3), .val (.int p4), .val (.int (0 : Int32)), .val (.ref b1), .val (.ref b2), .unset, .unset, .unset] [(.ref b1)])
    obtain ⟨v3, _, ⟨T3, L3, kQ3, nQ3⟩, -, X3, ⟨Lc3, hQ3, l3, y3, z3⟩, st3⟩ := Jvm.LawKit.callS X2 hx (y := (⟨"com/example/tarry/tarry/MessageBytesPinLaw", "flip", "([B)V"⟩ : MethodName)) hown (mvT hZ (hw _ (List.mem_of_getElem? (i := 51) rfl))) (mvT hZ (hw _ (List.mem_of_getElem? (i := 52) rfl))) (mvT hZ (hw _ (List.mem_of_getElem? (i := 53) rfl))) (mvT hZ (hw _ (List.mem_of_getElem? (i := 54) rfl))) (by decide) (backOf (W := 0) (rmF0 l Z a0 hw [] b1 ka1  h2 n0 O2 Arv_b1 ge_b1) hZ (hw _ (List.mem_of_getElem? (i := 54) rfl)) (hw _ (List.mem_of_getElem? (i := 53) rfl)) (by decide) (by decide)) (g := (mkF m 55 #[.val (.int p1), .val (.int p2), .val (.int p3), .val (.int p4), .val (.int (0 : Int32)), .val (.ref b1), .val (.ref b2), .unset, .unset, .unset] [(.ref b1)])) rfl (by rw [hml]; rfl) (argsL := [(.ref b1)]) (rest := []) (lenOf pd_rm0_1 rfl) rfl (by show 2 * 0 + _ ≤ _; exact Nat.le_of_eq rfl) (hb hby at_55) (fun _ _ => ⟨rfl, e2, (by decide : 5 + 0 ≤ _), (by decide : 26 + 0 ≤ _)⟩)
    dsimp only [Pt.U, Pt.locs, Pt.cells, Pt.slots] at X3 l3 y3 z3 st3 hQ3
    subst l3 y3 z3
    obtain ⟨h3, e3⟩ : ∃ z, T3.heap = z := ⟨_, rfl⟩
    rw [e3] at hQ3
    obtain ⟨rfl, Nq3, Kq3⟩ := hQ3
    have N3 := Fr.app N2 Nq3
    refine GlW.st st3 ?_
    have sfk3 : ∀ x ∈ [b1], Safe Z ([] : List (String × Nat)) _ _ x := (allS Sf_b1 all0)
    have Sf_b1 := Safe.keep Kq3 sfk3 HC2.1 Sf_b1
    have Sf_t2 := Safe.keep Kq3 sfk3 HC2.1 Sf_t2
    have HC3 := HC2.trans (CHr.keep Kq3 sfk3 HC2.1)
    have hk3 := Nat.le_trans hk2 Kq3.1
    have Exa_b1 := Exa_b1.keep Kq3
    have Exa_b2 := Exa_b2.keep Kq3
    have Arv_t2 := Arv_t2.keep Kq3 (ninS (Ne.symm ne_b1_t2) nin0)
    have Exa_t2 := Exa_t2.keep Kq3
    have F_text_b2 := F_text_b2.keep Kq3 (ninS (Ne.symm ne_b1_b2) nin0)
    have F_bytes_b2 := F_bytes_b2.keep Kq3 (ninS (Ne.symm ne_b1_b2) nin0)
    have F_headers_b2 := F_headers_b2.keep Kq3 (ninS (Ne.symm ne_b1_b2) nin0)
    have F_messageId_b2 := F_messageId_b2.keep Kq3 (ninS (Ne.symm ne_b1_b2) nin0)
    have F_correlationId_b2 := F_correlationId_b2.keep Kq3 (ninS (Ne.symm ne_b1_b2) nin0)
    have F_replyTo_b2 := F_replyTo_b2.keep Kq3 (ninS (Ne.symm ne_b1_b2) nin0)
    have O3 := O2.keep Kq3 (allS ge_b1 all0)
    have K3 := K2.trans Kq3 (allS (Or.inr fr_b1) all0)
    show GlW Z ([] : List (String × Nat)) p e below s _ _ _ T3 (mkF m 58 #[.val (.int p1), .val (.int p2), .val (.int p3), .val (.int p4), .val (.int (0 : Int32)), .val (.ref b1), .val (.ref b2), .unset, .unset, .unset] [])
    refine GlW.st (fun _ kk => XS.aload X3.here hx rfl (hb hby at_58) rfl rfl kk) ?_
    show GlW Z ([] : List (String × Nat)) p e below s _ _ _ T3 (mkF m 60 #[.val (.int p1), .val (.int p2), .val (.int p3), .val (.int p4), .val (.int (0 : Int32)), .val (.ref b1), .val (.ref b2), .unset, .unset, .unset] [(.ref b2)])
    obtain ⟨cq4, kq4, qa4, qb4, qc4⟩ := isOf hZ e3 Exa_b2
    have lq4_b1 := Exa_b1.lt
    have lq4_b2 := Exa_b2.lt
    have lq4_t2 := Arv_t2.lt
    obtain ⟨v4, _, ⟨T4, L4, kQ4, nQ4⟩, -, X4, ⟨Lc4, hQ4, l4, y4, z4⟩, st4⟩ := X3.virtualBack hx (y := (⟨"com/example/tarry/tarry/Message", "bytes", "()[B"⟩ : MethodName)) (z := (⟨"com/example/tarry/tarry/Message", "bytes", "()[B"⟩ : MethodName)) hown (mvT hZ (hw _ (List.mem_of_getElem? (i := 55) rfl))) (mvT hZ (hw _ (List.mem_of_getElem? (i := 56) rfl))) (notFace_of_selects (args := #[]) (mvT hZ (hw _ (List.mem_of_getElem? (i := 58) rfl)))) (mvT hZ (hw _ (List.mem_of_getElem? (i := 58) rfl))) (mvT hZ (hw _ (List.mem_of_getElem? (i := 57) rfl))) (by decide) (backOf (W := 0) (rmG0 l Z a0 hw [] b2 t2 ka1  h3 n0 O3 F_bytes_b2 Arv_t2 Exa_t2) hZ (hw _ (List.mem_of_getElem? (i := 59) rfl)) (hw _ (List.mem_of_getElem? (i := 3) rfl)) (by decide) (by decide)) qa4 qc4 (g := (mkF m 60 #[.val (.int p1), .val (.int p2), .val (.int p3), .val (.int p4), .val (.int (0 : Int32)), .val (.ref b1), .val (.ref b2), .unset, .unset, .unset] [(.ref b2)])) rfl (by rw [hml]; rfl) (Steps.refl _) (argsL := []) (rest := []) (lenOf pd_rm0_2 rfl) rfl (by show 2 * 0 + _ ≤ _; exact Nat.le_of_eq rfl) (hb hby at_60) (fun _ _ => ⟨rfl, e3, (by decide : 5 + 1 ≤ _), (by decide : 26 + 0 ≤ _)⟩)
    dsimp only [Pt.U, Pt.locs, Pt.cells, Pt.slots] at X4 l4 y4 z4 st4 hQ4
    subst l4 y4 z4
    obtain ⟨h4, e4⟩ : ∃ z, T4.heap = z := ⟨_, rfl⟩
    rw [e4] at hQ4
    obtain ⟨b4, rfl, Nq4, Kq4, Arv_b4, frb4⟩ := hQ4
    have N4 := Fr.app N3 Nq4
    refine GlW.st (fun _ kk => st4.trans kk) ?_
    have sfk4 : ∀ x ∈ ([] : List Addr), Safe Z ([] : List (String × Nat)) T2.vm h3 x := all0
    have Sf_b1 := Safe.keep Kq4 sfk4 HC3.1 Sf_b1
    have Sf_t2 := Safe.keep Kq4 sfk4 HC3.1 Sf_t2
    have HC4 := HC3.trans (CHr.keep Kq4 sfk4 HC3.1)
    have hk4 := Nat.le_trans hk3 Kq4.1
    have Exa_b1 := Exa_b1.keep Kq4
    have Exa_b2 := Exa_b2.keep Kq4
    have Arv_t2 := Arv_t2.keep Kq4 nin0
    have Exa_t2 := Exa_t2.keep Kq4
    have F_text_b2 := F_text_b2.keep Kq4 nin0
    have F_bytes_b2 := F_bytes_b2.keep Kq4 nin0
    have F_headers_b2 := F_headers_b2.keep Kq4 nin0
    have F_messageId_b2 := F_messageId_b2.keep Kq4 nin0
    have F_correlationId_b2 := F_correlationId_b2.keep Kq4 nin0
    have F_replyTo_b2 := F_replyTo_b2.keep Kq4 nin0
    have O4 := O3.keep Kq4 all0
    have K4 := K3.trans Kq4 all0
    have ne_b1_b4 : b1 ≠ b4 := Nat.ne_of_lt (Nat.lt_of_lt_of_le lq4_b1 frb4)
    have ne_b2_b4 : b2 ≠ b4 := Nat.ne_of_lt (Nat.lt_of_lt_of_le lq4_b2 frb4)
    have ne_t2_b4 : t2 ≠ b4 := Nat.ne_of_lt (Nat.lt_of_lt_of_le lq4_t2 frb4)
    have ge_b4 : n0 ≤ b4 := Nat.le_trans (Nat.le_trans (Nat.le_of_eq O3.1.symm) O3.2.1) frb4
    have fr_b4 : h0.size ≤ b4 := Nat.le_trans K3.1 frb4
    have Sf_b4 : Safe Z ([] : List (String × Nat)) T2.vm h4 b4 := fun B => by obtain ⟨_, hm, _⟩ := B; cases hm
    show GlW Z ([] : List (String × Nat)) p e below s _ _ _ T4 (mkF m 63 #[.val (.int p1), .val (.int p2), .val (.int p3), .val (.int p4), .val (.int (0 : Int32)), .val (.ref b1), .val (.ref b2), .unset, .unset, .unset] [(.ref b4)])
    refine GlW.st (fun _ kk => XS.astore X4.here hx rfl (hb hby at_63) rfl rfl (l' := #[.val (.int p1), .val (.int p2), .val (.int p3), .val (.int p4), .val (.int (0 : Int32)), .val (.ref b1), .val (.ref b2), .val (.ref b4), .unset, .unset]) rfl kk) ?_
    show GlW Z ([] : List (String × Nat)) p e below s _ _ _ T4 (mkF m 65 #[.val (.int p1), .val (.int p2), .val (.int p3), .val (.int p4), .val (.int (0 : Int32)), .val (.ref b1), .val (.ref b2), .val (.ref b4), .unset, .unset] [])
    refine GlW.st (fun _ kk => XS.aload X4.here hx rfl (hb hby at_65) rfl rfl kk) ?_
    show GlW Z ([] : List (String × Nat)) p e below s _ _ _ T4 (mkF m 67 #[.val (.int p1), .val (.int p2), .val (.int p3), .val (.int p4), .val (.int (0 : Int32)), .val (.ref b1), .val (.ref b2), .val (.ref b4), .unset, .unset] [(.ref b2)])
    obtain ⟨cq5, kq5, qa5, qb5, qc5⟩ := isOf hZ e4 Exa_b2
    obtain ⟨v5, _, ⟨T5, L5, kQ5, nQ5⟩, -, X5, ⟨Lc5, hQ5, l5, y5, z5⟩, st5⟩ := X4.virtualBack hx (y := (⟨"com/example/tarry/tarry/Message", "isText", "()Z"⟩ : MethodName)) (z := (⟨"com/example/tarry/tarry/Message", "isText", "()Z"⟩ : MethodName)) hown (mvT hZ (hw _ (List.mem_of_getElem? (i := 60) rfl))) (mvT hZ (hw _ (List.mem_of_getElem? (i := 61) rfl))) (notFace_of_selects (args := #[]) (mvT hZ (hw _ (List.mem_of_getElem? (i := 63) rfl)))) (mvT hZ (hw _ (List.mem_of_getElem? (i := 63) rfl))) (mvT hZ (hw _ (List.mem_of_getElem? (i := 62) rfl))) (by decide) (backOf (W := 0) (rmT l Z a0 hw [] b2 h4 n0 O4 F_text_b2) hZ (hw _ (List.mem_of_getElem? (i := 64) rfl)) (hw _ (List.mem_of_getElem? (i := 3) rfl)) (by decide) (by decide)) qa5 qc5 (g := (mkF m 67 #[.val (.int p1), .val (.int p2), .val (.int p3), .val (.int p4), .val (.int (0 : Int32)), .val (.ref b1), .val (.ref b2), .val (.ref b4), .unset, .unset] [(.ref b2)])) rfl (by rw [hml]; rfl) (Steps.refl _) (argsL := []) (rest := []) (lenOf pd_rm0_3 rfl) rfl (by show 2 * 0 + _ ≤ _; exact Nat.le_of_eq rfl) (hb hby at_67) (fun _ _ => ⟨rfl, e4, (by decide : 6 + 0 ≤ _), (by decide : 26 + 0 ≤ _)⟩)
    dsimp only [Pt.U, Pt.locs, Pt.cells, Pt.slots] at X5 l5 y5 z5 st5 hQ5
    subst l5 y5 z5
    obtain ⟨rfl, Nq5, e5⟩ := hQ5
    have N5 := Fr.app N4 Nq5
    refine GlW.st (fun _ kk => st5.trans kk) ?_
    show GlW Z ([] : List (String × Nat)) p e below s _ _ _ T5 (mkF m 70 #[.val (.int p1), .val (.int p2), .val (.int p3), .val (.int p4), .val (.int (0 : Int32)), .val (.ref b1), .val (.ref b2), .val (.ref b4), .unset, .unset] [(.int (0 : Int32))])
    refine GlW.st (fun _ kk => XS.ifNo X5.here hx rfl (hb hby at_70) rfl ((if0 _ _).trans (teq (by decide : (0 : Int32) = (0 : Int32))).2) kk) ?_
    show GlW Z ([] : List (String × Nat)) p e below s _ _ _ T5 (mkF m 73 #[.val (.int p1), .val (.int p2), .val (.int p3), .val (.int p4), .val (.int (0 : Int32)), .val (.ref b1), .val (.ref b2), .val (.ref b4), .unset, .unset] [])
    refine GlW.st (fun _ kk => XS.aload X5.here hx rfl (hb hby at_73) rfl rfl kk) ?_
    show GlW Z ([] : List (String × Nat)) p e below s _ _ _ T5 (mkF m 75 #[.val (.int p1), .val (.int p2), .val (.int p3), .val (.int p4), .val (.int (0 : Int32)), .val (.ref b1), .val (.ref b2), .val (.ref b4), .unset, .unset] [(.ref b2)])
    obtain ⟨cq6, kq6, qa6, qb6, qc6⟩ := isOf hZ e5 Exa_b2
    obtain ⟨v6, _, ⟨T6, L6, kQ6, nQ6⟩, -, X6, ⟨Lc6, hQ6, l6, y6, z6⟩, st6⟩ := X5.virtualBack hx (y := (⟨"com/example/tarry/tarry/Message", "messageId", "()Ljava/lang/String;"⟩ : MethodName)) (z := (⟨"com/example/tarry/tarry/Message", "messageId", "()Ljava/lang/String;"⟩ : MethodName)) hown (mvT hZ (hw _ (List.mem_of_getElem? (i := 65) rfl))) (mvT hZ (hw _ (List.mem_of_getElem? (i := 66) rfl))) (notFace_of_selects (args := #[]) (mvT hZ (hw _ (List.mem_of_getElem? (i := 68) rfl)))) (mvT hZ (hw _ (List.mem_of_getElem? (i := 68) rfl))) (mvT hZ (hw _ (List.mem_of_getElem? (i := 67) rfl))) (by decide) (backOf (W := 0) (rmA_messageId l Z a0 hw [] b2 h4 n0 O4 F_messageId_b2) hZ (hw _ (List.mem_of_getElem? (i := 69) rfl)) (hw _ (List.mem_of_getElem? (i := 3) rfl)) (by decide) (by decide)) qa6 qc6 (g := (mkF m 75 #[.val (.int p1), .val (.int p2), .val (.int p3), .val (.int p4), .val (.int (0 : Int32)), .val (.ref b1), .val (.ref b2), .val (.ref b4), .unset, .unset] [(.ref b2)])) rfl (by rw [hml]; rfl) (Steps.refl _) (argsL := []) (rest := []) (lenOf pd_rm0_4 rfl) rfl (by show 2 * 0 + _ ≤ _; exact Nat.le_of_eq rfl) (hb hby at_75) (fun _ _ => ⟨rfl, e5, (by decide : 6 + 0 ≤ _), (by decide : 26 + 0 ≤ _)⟩)
    dsimp only [Pt.U, Pt.locs, Pt.cells, Pt.slots] at X6 l6 y6 z6 st6 hQ6
    subst l6 y6 z6
    obtain ⟨rfl, Nq6, e6⟩ := hQ6
    have N6 := Fr.app N5 Nq6
    refine GlW.st (fun _ kk => st6.trans kk) ?_
    show GlW Z ([] : List (String × Nat)) p e below s _ _ _ T6 (mkF m 78 #[.val (.int p1), .val (.int p2), .val (.int p3), .val (.int p4), .val (.int (0 : Int32)), .val (.ref b1), .val (.ref b2), .val (.ref b4), .unset, .unset] [.null])
    refine GlW.st (fun _ kk => XS.ifnonnullNo X6.here hx rfl (hb hby at_78) rfl kk) ?_
    show GlW Z ([] : List (String × Nat)) p e below s _ _ _ T6 (mkF m 81 #[.val (.int p1), .val (.int p2), .val (.int p3), .val (.int p4), .val (.int (0 : Int32)), .val (.ref b1), .val (.ref b2), .val (.ref b4), .unset, .unset] [])
    refine GlW.st (fun _ kk => XS.aload X6.here hx rfl (hb hby at_81) rfl rfl kk) ?_
    show GlW Z ([] : List (String × Nat)) p e below s _ _ _ T6 (mkF m 83 #[.val (.int p1), .val (.int p2), .val (.int p3), .val (.int p4), .val (.int (0 : Int32)), .val (.ref b1), .val (.ref b2), .val (.ref b4), .unset, .unset] [(.ref b2)])
    obtain ⟨cq7, kq7, qa7, qb7, qc7⟩ := isOf hZ e6 Exa_b2
    obtain ⟨v7, _, ⟨T7, L7, kQ7, nQ7⟩, -, X7, ⟨Lc7, hQ7, l7, y7, z7⟩, st7⟩ := X6.virtualBack hx (y := (⟨"com/example/tarry/tarry/Message", "correlationId", "()Ljava/lang/String;"⟩ : MethodName)) (z := (⟨"com/example/tarry/tarry/Message", "correlationId", "()Ljava/lang/String;"⟩ : MethodName)) hown (mvT hZ (hw _ (List.mem_of_getElem? (i := 70) rfl))) (mvT hZ (hw _ (List.mem_of_getElem? (i := 71) rfl))) (notFace_of_selects (args := #[]) (mvT hZ (hw _ (List.mem_of_getElem? (i := 73) rfl)))) (mvT hZ (hw _ (List.mem_of_getElem? (i := 73) rfl))) (mvT hZ (hw _ (List.mem_of_getElem? (i := 72) rfl))) (by decide) (backOf (W := 0) (rmA_correlationId l Z a0 hw [] b2 h4 n0 O4 F_correlationId_b2) hZ (hw _ (List.mem_of_getElem? (i := 74) rfl)) (hw _ (List.mem_of_getElem? (i := 3) rfl)) (by decide) (by decide)) qa7 qc7 (g := (mkF m 83 #[.val (.int p1), .val (.int p2), .val (.int p3), .val (.int p4), .val (.int (0 : Int32)), .val (.ref b1), .val (.ref b2), .val (.ref b4), .unset, .unset] [(.ref b2)])) rfl (by rw [hml]; rfl) (Steps.refl _) (argsL := []) (rest := []) (lenOf pd_rm0_4 rfl) rfl (by show 2 * 0 + _ ≤ _; exact Nat.le_of_eq rfl) (hb hby at_83) (fun _ _ => ⟨rfl, e6, (by decide : 6 + 0 ≤ _), (by decide : 26 + 0 ≤ _)⟩)
    dsimp only [Pt.U, Pt.locs, Pt.cells, Pt.slots] at X7 l7 y7 z7 st7 hQ7
    subst l7 y7 z7
    obtain ⟨rfl, Nq7, e7⟩ := hQ7
    have N7 := Fr.app N6 Nq7
    refine GlW.st (fun _ kk => st7.trans kk) ?_
    show GlW Z ([] : List (String × Nat)) p e below s _ _ _ T7 (mkF m 86 #[.val (.int p1), .val (.int p2), .val (.int p3), .val (.int p4), .val (.int (0 : Int32)), .val (.ref b1), .val (.ref b2), .val (.ref b4), .unset, .unset] [.null])
    refine GlW.st (fun _ kk => XS.ifnonnullNo X7.here hx rfl (hb hby at_86) rfl kk) ?_
    show GlW Z ([] : List (String × Nat)) p e below s _ _ _ T7 (mkF m 89 #[.val (.int p1), .val (.int p2), .val (.int p3), .val (.int p4), .val (.int (0 : Int32)), .val (.ref b1), .val (.ref b2), .val (.ref b4), .unset, .unset] [])
    refine GlW.st (fun _ kk => XS.aload X7.here hx rfl (hb hby at_89) rfl rfl kk) ?_
    show GlW Z ([] : List (String × Nat)) p e below s _ _ _ T7 (mkF m 91 #[.val (.int p1), .val (.int p2), .val (.int p3), .val (.int p4), .val (.int (0 : Int32)), .val (.ref b1), .val (.ref b2), .val (.ref b4), .unset, .unset] [(.ref b2)])
    obtain ⟨cq8, kq8, qa8, qb8, qc8⟩ := isOf hZ e7 Exa_b2
    obtain ⟨v8, _, ⟨T8, L8, kQ8, nQ8⟩, -, X8, ⟨Lc8, hQ8, l8, y8, z8⟩, st8⟩ := X7.virtualBack hx (y := (⟨"com/example/tarry/tarry/Message", "replyTo", "()Ljava/lang/String;"⟩ : MethodName)) (z := (⟨"com/example/tarry/tarry/Message", "replyTo", "()Ljava/lang/String;"⟩ : MethodName)) hown (mvT hZ (hw _ (List.mem_of_getElem? (i := 75) rfl))) (mvT hZ (hw _ (List.mem_of_getElem? (i := 76) rfl))) (notFace_of_selects (args := #[]) (mvT hZ (hw _ (List.mem_of_getElem? (i := 78) rfl)))) (mvT hZ (hw _ (List.mem_of_getElem? (i := 78) rfl))) (mvT hZ (hw _ (List.mem_of_getElem? (i := 77) rfl))) (by decide) (backOf (W := 0) (rmA_replyTo l Z a0 hw [] b2 h4 n0 O4 F_replyTo_b2) hZ (hw _ (List.mem_of_getElem? (i := 79) rfl)) (hw _ (List.mem_of_getElem? (i := 3) rfl)) (by decide) (by decide)) qa8 qc8 (g := (mkF m 91 #[.val (.int p1), .val (.int p2), .val (.int p3), .val (.int p4), .val (.int (0 : Int32)), .val (.ref b1), .val (.ref b2), .val (.ref b4), .unset, .unset] [(.ref b2)])) rfl (by rw [hml]; rfl) (Steps.refl _) (argsL := []) (rest := []) (lenOf pd_rm0_4 rfl) rfl (by show 2 * 0 + _ ≤ _; exact Nat.le_of_eq rfl) (hb hby at_91) (fun _ _ => ⟨rfl, e7, (by decide : 6 + 0 ≤ _), (by decide : 26 + 0 ≤ _)⟩)
    dsimp only [Pt.U, Pt.locs, Pt.cells, Pt.slots] at X8 l8 y8 z8 st8 hQ8
    subst l8 y8 z8
    obtain ⟨rfl, Nq8, e8⟩ := hQ8
    have N8 := Fr.app N7 Nq8
    refine GlW.st (fun _ kk => st8.trans kk) ?_
    show GlW Z ([] : List (String × Nat)) p e below s _ _ _ T8 (mkF m 94 #[.val (.int p1), .val (.int p2), .val (.int p3), .val (.int p4), .val (.int (0 : Int32)), .val (.ref b1), .val (.ref b2), .val (.ref b4), .unset, .unset] [.null])
    refine GlW.st (fun _ kk => XS.ifnonnullNo X8.here hx rfl (hb hby at_94) rfl kk) ?_
    show GlW Z ([] : List (String × Nat)) p e below s _ _ _ T8 (mkF m 97 #[.val (.int p1), .val (.int p2), .val (.int p3), .val (.int p4), .val (.int (0 : Int32)), .val (.ref b1), .val (.ref b2), .val (.ref b4), .unset, .unset] [])
    refine GlW.st (fun _ kk => XS.aload X8.here hx rfl (hb hby at_97) rfl rfl kk) ?_
    show GlW Z ([] : List (String × Nat)) p e below s _ _ _ T8 (mkF m 99 #[.val (.int p1), .val (.int p2), .val (.int p3), .val (.int p4), .val (.int (0 : Int32)), .val (.ref b1), .val (.ref b2), .val (.ref b4), .unset, .unset] [(.ref b4)])
    refine GlW.st (fun _ kk => XS.iload X8.here hx rfl (hb hby at_99) rfl kk) ?_
    show GlW Z ([] : List (String × Nat)) p e below s _ _ _ T8 (mkF m 101 #[.val (.int p1), .val (.int p2), .val (.int p3), .val (.int p4), .val (.int (0 : Int32)), .val (.ref b1), .val (.ref b2), .val (.ref b4), .unset, .unset] [(.int (0 : Int32)), (.ref b4)])
    refine GlW.st (fun _ kk => XS.iloadN X8.here hx rfl (hb hby at_101) rfl kk) ?_
    show GlW Z ([] : List (String × Nat)) p e below s _ _ _ T8 (mkF m 102 #[.val (.int p1), .val (.int p2), .val (.int p3), .val (.int p4), .val (.int (0 : Int32)), .val (.ref b1), .val (.ref b2), .val (.ref b4), .unset, .unset] [(.int p2), (.int (0 : Int32)), (.ref b4)])
    refine GlW.st (fun _ kk => XS.iloadN X8.here hx rfl (hb hby at_102) rfl kk) ?_
    show GlW Z ([] : List (String × Nat)) p e below s _ _ _ T8 (mkF m 103 #[.val (.int p1), .val (.int p2), .val (.int p3), .val (.int p4), .val (.int (0 : Int32)), .val (.ref b1), .val (.ref b2), .val (.ref b4), .unset, .unset] [(.int p3), (.int p2), (.int (0 : Int32)), (.ref b4)])
    refine GlW.st (fun _ kk => XS.iloadN X8.here hx rfl (hb hby at_103) rfl kk) ?_
    show GlW Z ([] : List (String × Nat)) p e below s _ _ _ T8 (mkF m 104 #[.val (.int p1), .val (.int p2), .val (.int p3), .val (.int p4), .val (.int (0 : Int32)), .val (.ref b1), .val (.ref b2), .val (.ref b4), .unset, .unset] [(.int p4), (.int p3), (.int p2), (.int (0 : Int32)), (.ref b4)])
    obtain ⟨v9, _, ⟨T9, L9, kQ9, nQ9⟩, -, X9, ⟨Lc9, hQ9, l9, y9, z9⟩, st9⟩ := Jvm.LawKit.callS X8 hx (y := (⟨"com/example/tarry/tarry/MessageBytesPinLaw", "same", "([BIIII)Z"⟩ : MethodName)) hown (mvT hZ (hw _ (List.mem_of_getElem? (i := 80) rfl))) (mvT hZ (hw _ (List.mem_of_getElem? (i := 81) rfl))) (mvT hZ (hw _ (List.mem_of_getElem? (i := 53) rfl))) (mvT hZ (hw _ (List.mem_of_getElem? (i := 82) rfl))) (by decide) (backOf (W := 0) (rmS0 l Z a0 hw [] b4 p2 p3 p4 ka1 h4 n0 O4 Arv_b4) hZ (hw _ (List.mem_of_getElem? (i := 82) rfl)) (hw _ (List.mem_of_getElem? (i := 53) rfl)) (by decide) (by decide)) (g := (mkF m 104 #[.val (.int p1), .val (.int p2), .val (.int p3), .val (.int p4), .val (.int (0 : Int32)), .val (.ref b1), .val (.ref b2), .val (.ref b4), .unset, .unset] [(.int p4), (.int p3), (.int p2), (.int (0 : Int32)), (.ref b4)])) rfl (by rw [hml]; rfl) (argsL := [(.ref b4), (.int (0 : Int32)), (.int p2), (.int p3), (.int p4)]) (rest := []) (lenOf pd_rm0_5 rfl) rfl (by show 2 * 0 + _ ≤ _; exact Nat.le_of_eq rfl) (hb hby at_104) (fun _ _ => ⟨rfl, e8, (by decide : 6 + 0 ≤ _), (by decide : 26 + 0 ≤ _)⟩)
    dsimp only [Pt.U, Pt.locs, Pt.cells, Pt.slots] at X9 l9 y9 z9 st9 hQ9
    subst l9 y9 z9
    obtain ⟨rfl, Nq9, e9⟩ := hQ9
    have N9 := Fr.app N8 Nq9
    refine GlW.st st9 ?_
    show GlW Z ([] : List (String × Nat)) p e below s _ _ _ T9 (mkF m 107 #[.val (.int p1), .val (.int p2), .val (.int p3), .val (.int p4), .val (.int (0 : Int32)), .val (.ref b1), .val (.ref b2), .val (.ref b4), .unset, .unset] [(.int (1 : Int32))])
    refine GlW.st (fun _ kk => XS.ifNo X9.here hx rfl (hb hby at_107) rfl ((if0 _ _).trans (feq (by decide : ¬ ((1 : Int32) = (0 : Int32)))).1) kk) ?_
    show GlW Z ([] : List (String × Nat)) p e below s _ _ _ T9 (mkF m 110 #[.val (.int p1), .val (.int p2), .val (.int p3), .val (.int p4), .val (.int (0 : Int32)), .val (.ref b1), .val (.ref b2), .val (.ref b4), .unset, .unset] [])
    refine GlW.st (fun _ kk => XS.iconst X9.here hx rfl (hb hby at_110) kk) ?_
    show GlW Z ([] : List (String × Nat)) p e below s _ _ _ T9 (mkF m 111 #[.val (.int p1), .val (.int p2), .val (.int p3), .val (.int p4), .val (.int (0 : Int32)), .val (.ref b1), .val (.ref b2), .val (.ref b4), .unset, .unset] [(.int (1 : Int32))])
    refine GlW.st (fun _ kk => XS.goto X9.here hx rfl (pc0 := 111) (pc' := 115) rfl (hb hby at_111) (by decide) (by decide) kk) ?_
    show GlW Z ([] : List (String × Nat)) p e below s _ _ _ T9 (mkF m 115 #[.val (.int p1), .val (.int p2), .val (.int p3), .val (.int p4), .val (.int (0 : Int32)), .val (.ref b1), .val (.ref b2), .val (.ref b4), .unset, .unset] [(.int (1 : Int32))])
    refine GlW.st (fun _ kk => XS.istore X9.here hx rfl (hb hby at_115) rfl (l' := #[.val (.int p1), .val (.int p2), .val (.int p3), .val (.int p4), .val (.int (0 : Int32)), .val (.ref b1), .val (.ref b2), .val (.ref b4), .val (.int (1 : Int32)), .unset]) rfl kk) ?_
    show GlW Z ([] : List (String × Nat)) p e below s _ _ _ T9 (mkF m 117 #[.val (.int p1), .val (.int p2), .val (.int p3), .val (.int p4), .val (.int (0 : Int32)), .val (.ref b1), .val (.ref b2), .val (.ref b4), .val (.int (1 : Int32)), .unset] [])
    refine GlW.st (fun _ kk => XS.aload X9.here hx rfl (hb hby at_117) rfl rfl kk) ?_
    show GlW Z ([] : List (String × Nat)) p e below s _ _ _ T9 (mkF m 119 #[.val (.int p1), .val (.int p2), .val (.int p3), .val (.int p4), .val (.int (0 : Int32)), .val (.ref b1), .val (.ref b2), .val (.ref b4), .val (.int (1 : Int32)), .unset] [(.ref b4)])
    obtain ⟨v10, _, ⟨T10, L10, kQ10, nQ10⟩, -, X10, ⟨Lc10, hQ10, l10, y10, z10⟩, st10⟩ := Jvm.LawKit.callS X9 hx (y := (⟨"com/example/tarry/tarry/MessageBytesPinLaw", "flip", "([B)V"⟩ : MethodName)) hown (mvT hZ (hw _ (List.mem_of_getElem? (i := 51) rfl))) (mvT hZ (hw _ (List.mem_of_getElem? (i := 52) rfl))) (mvT hZ (hw _ (List.mem_of_getElem? (i := 53) rfl))) (mvT hZ (hw _ (List.mem_of_getElem? (i := 54) rfl))) (by decide) (backOf (W := 0) (rmF0 l Z a0 hw [] b4 ka1  h4 n0 O4 Arv_b4 ge_b4) hZ (hw _ (List.mem_of_getElem? (i := 54) rfl)) (hw _ (List.mem_of_getElem? (i := 53) rfl)) (by decide) (by decide)) (g := (mkF m 119 #[.val (.int p1), .val (.int p2), .val (.int p3), .val (.int p4), .val (.int (0 : Int32)), .val (.ref b1), .val (.ref b2), .val (.ref b4), .val (.int (1 : Int32)), .unset] [(.ref b4)])) rfl (by rw [hml]; rfl) (argsL := [(.ref b4)]) (rest := []) (lenOf pd_rm0_1 rfl) rfl (by show 2 * 0 + _ ≤ _; exact Nat.le_of_eq rfl) (hb hby at_119) (fun _ _ => ⟨rfl, e9, (by decide : 6 + 0 ≤ _), (by decide : 26 + 0 ≤ _)⟩)
    dsimp only [Pt.U, Pt.locs, Pt.cells, Pt.slots] at X10 l10 y10 z10 st10 hQ10
    subst l10 y10 z10
    obtain ⟨h10, e10⟩ : ∃ z, T10.heap = z := ⟨_, rfl⟩
    rw [e10] at hQ10
    obtain ⟨rfl, Nq10, Kq10⟩ := hQ10
    have N10 := Fr.app N9 Nq10
    refine GlW.st st10 ?_
    have sfk10 : ∀ x ∈ [b4], Safe Z ([] : List (String × Nat)) _ _ x := (allS Sf_b4 all0)
    have Sf_b1 := Safe.keep Kq10 sfk10 HC4.1 Sf_b1
    have Sf_t2 := Safe.keep Kq10 sfk10 HC4.1 Sf_t2
    have Sf_b4 := Safe.keep Kq10 sfk10 HC4.1 Sf_b4
    have HC10 := HC4.trans (CHr.keep Kq10 sfk10 HC4.1)
    have hk10 := Nat.le_trans hk4 Kq10.1
    have Exa_b1 := Exa_b1.keep Kq10
    have Exa_b2 := Exa_b2.keep Kq10
    have Arv_t2 := Arv_t2.keep Kq10 (ninS ne_t2_b4 nin0)
    have Exa_t2 := Exa_t2.keep Kq10
    have F_text_b2 := F_text_b2.keep Kq10 (ninS ne_b2_b4 nin0)
    have F_bytes_b2 := F_bytes_b2.keep Kq10 (ninS ne_b2_b4 nin0)
    have F_headers_b2 := F_headers_b2.keep Kq10 (ninS ne_b2_b4 nin0)
    have F_messageId_b2 := F_messageId_b2.keep Kq10 (ninS ne_b2_b4 nin0)
    have F_correlationId_b2 := F_correlationId_b2.keep Kq10 (ninS ne_b2_b4 nin0)
    have F_replyTo_b2 := F_replyTo_b2.keep Kq10 (ninS ne_b2_b4 nin0)
    have O10 := O4.keep Kq10 (allS ge_b4 all0)
    have K10 := K4.trans Kq10 (allS (Or.inr fr_b4) all0)
    show GlW Z ([] : List (String × Nat)) p e below s _ _ _ T10 (mkF m 122 #[.val (.int p1), .val (.int p2), .val (.int p3), .val (.int p4), .val (.int (0 : Int32)), .val (.ref b1), .val (.ref b2), .val (.ref b4), .val (.int (1 : Int32)), .unset] [])
    refine GlW.st (fun _ kk => XS.aload X10.here hx rfl (hb hby at_122) rfl rfl kk) ?_
    show GlW Z ([] : List (String × Nat)) p e below s _ _ _ T10 (mkF m 124 #[.val (.int p1), .val (.int p2), .val (.int p3), .val (.int p4), .val (.int (0 : Int32)), .val (.ref b1), .val (.ref b2), .val (.ref b4), .val (.int (1 : Int32)), .unset] [(.ref b2)])
    obtain ⟨cq11, kq11, qa11, qb11, qc11⟩ := isOf hZ e10 Exa_b2
    have lq11_b1 := Exa_b1.lt
    have lq11_b2 := Exa_b2.lt
    have lq11_t2 := Arv_t2.lt
    obtain ⟨v11, _, ⟨T11, L11, kQ11, nQ11⟩, -, X11, ⟨Lc11, hQ11, l11, y11, z11⟩, st11⟩ := X10.virtualBack hx (y := (⟨"com/example/tarry/tarry/Message", "bytes", "()[B"⟩ : MethodName)) (z := (⟨"com/example/tarry/tarry/Message", "bytes", "()[B"⟩ : MethodName)) hown (mvT hZ (hw _ (List.mem_of_getElem? (i := 55) rfl))) (mvT hZ (hw _ (List.mem_of_getElem? (i := 56) rfl))) (notFace_of_selects (args := #[]) (mvT hZ (hw _ (List.mem_of_getElem? (i := 58) rfl)))) (mvT hZ (hw _ (List.mem_of_getElem? (i := 58) rfl))) (mvT hZ (hw _ (List.mem_of_getElem? (i := 57) rfl))) (by decide) (backOf (W := 0) (rmG0 l Z a0 hw [] b2 t2 ka1  h10 n0 O10 F_bytes_b2 Arv_t2 Exa_t2) hZ (hw _ (List.mem_of_getElem? (i := 59) rfl)) (hw _ (List.mem_of_getElem? (i := 3) rfl)) (by decide) (by decide)) qa11 qc11 (g := (mkF m 124 #[.val (.int p1), .val (.int p2), .val (.int p3), .val (.int p4), .val (.int (0 : Int32)), .val (.ref b1), .val (.ref b2), .val (.ref b4), .val (.int (1 : Int32)), .unset] [(.ref b2)])) rfl (by rw [hml]; rfl) (Steps.refl _) (argsL := []) (rest := []) (lenOf pd_rm0_2 rfl) rfl (by show 2 * 0 + _ ≤ _; exact Nat.le_of_eq rfl) (hb hby at_124) (fun _ _ => ⟨rfl, e10, (by decide : 6 + 1 ≤ _), (by decide : 26 + 0 ≤ _)⟩)
    dsimp only [Pt.U, Pt.locs, Pt.cells, Pt.slots] at X11 l11 y11 z11 st11 hQ11
    subst l11 y11 z11
    obtain ⟨h11, e11⟩ : ∃ z, T11.heap = z := ⟨_, rfl⟩
    rw [e11] at hQ11
    obtain ⟨b11, rfl, Nq11, Kq11, Arv_b11, frb11⟩ := hQ11
    have N11 := Fr.app N10 Nq11
    refine GlW.st (fun _ kk => st11.trans kk) ?_
    have sfk11 : ∀ x ∈ ([] : List Addr), Safe Z ([] : List (String × Nat)) T2.vm h10 x := all0
    have Sf_b1 := Safe.keep Kq11 sfk11 HC10.1 Sf_b1
    have Sf_t2 := Safe.keep Kq11 sfk11 HC10.1 Sf_t2
    have Sf_b4 := Safe.keep Kq11 sfk11 HC10.1 Sf_b4
    have HC11 := HC10.trans (CHr.keep Kq11 sfk11 HC10.1)
    have hk11 := Nat.le_trans hk10 Kq11.1
    have Exa_b1 := Exa_b1.keep Kq11
    have Exa_b2 := Exa_b2.keep Kq11
    have Arv_t2 := Arv_t2.keep Kq11 nin0
    have Exa_t2 := Exa_t2.keep Kq11
    have F_text_b2 := F_text_b2.keep Kq11 nin0
    have F_bytes_b2 := F_bytes_b2.keep Kq11 nin0
    have F_headers_b2 := F_headers_b2.keep Kq11 nin0
    have F_messageId_b2 := F_messageId_b2.keep Kq11 nin0
    have F_correlationId_b2 := F_correlationId_b2.keep Kq11 nin0
    have F_replyTo_b2 := F_replyTo_b2.keep Kq11 nin0
    have O11 := O10.keep Kq11 all0
    have K11 := K10.trans Kq11 all0
    have ne_b1_b11 : b1 ≠ b11 := Nat.ne_of_lt (Nat.lt_of_lt_of_le lq11_b1 frb11)
    have ne_b2_b11 : b2 ≠ b11 := Nat.ne_of_lt (Nat.lt_of_lt_of_le lq11_b2 frb11)
    have ne_t2_b11 : t2 ≠ b11 := Nat.ne_of_lt (Nat.lt_of_lt_of_le lq11_t2 frb11)
    have ge_b11 : n0 ≤ b11 := Nat.le_trans (Nat.le_trans (Nat.le_of_eq O10.1.symm) O10.2.1) frb11
    have fr_b11 : h0.size ≤ b11 := Nat.le_trans K10.1 frb11
    have Sf_b11 : Safe Z ([] : List (String × Nat)) T2.vm h11 b11 := fun B => by obtain ⟨_, hm, _⟩ := B; cases hm
    show GlW Z ([] : List (String × Nat)) p e below s _ _ _ T11 (mkF m 127 #[.val (.int p1), .val (.int p2), .val (.int p3), .val (.int p4), .val (.int (0 : Int32)), .val (.ref b1), .val (.ref b2), .val (.ref b4), .val (.int (1 : Int32)), .unset] [(.ref b11)])
    refine GlW.st (fun _ kk => XS.astore X11.here hx rfl (hb hby at_127) rfl rfl (l' := #[.val (.int p1), .val (.int p2), .val (.int p3), .val (.int p4), .val (.int (0 : Int32)), .val (.ref b1), .val (.ref b2), .val (.ref b4), .val (.int (1 : Int32)), .val (.ref b11)]) rfl kk) ?_
    show GlW Z ([] : List (String × Nat)) p e below s _ _ _ T11 (mkF m 129 #[.val (.int p1), .val (.int p2), .val (.int p3), .val (.int p4), .val (.int (0 : Int32)), .val (.ref b1), .val (.ref b2), .val (.ref b4), .val (.int (1 : Int32)), .val (.ref b11)] [])
    refine GlW.st (fun _ kk => XS.iload X11.here hx rfl (hb hby at_129) rfl kk) ?_
    show GlW Z ([] : List (String × Nat)) p e below s _ _ _ T11 (mkF m 131 #[.val (.int p1), .val (.int p2), .val (.int p3), .val (.int p4), .val (.int (0 : Int32)), .val (.ref b1), .val (.ref b2), .val (.ref b4), .val (.int (1 : Int32)), .val (.ref b11)] [(.int (1 : Int32))])
    refine GlW.st (fun _ kk => XS.ifNo X11.here hx rfl (hb hby at_131) rfl ((if0 _ _).trans (feq (by decide : ¬ ((1 : Int32) = (0 : Int32)))).1) kk) ?_
    show GlW Z ([] : List (String × Nat)) p e below s _ _ _ T11 (mkF m 134 #[.val (.int p1), .val (.int p2), .val (.int p3), .val (.int p4), .val (.int (0 : Int32)), .val (.ref b1), .val (.ref b2), .val (.ref b4), .val (.int (1 : Int32)), .val (.ref b11)] [])
    refine GlW.st (fun _ kk => XS.aload X11.here hx rfl (hb hby at_134) rfl rfl kk) ?_
    show GlW Z ([] : List (String × Nat)) p e below s _ _ _ T11 (mkF m 136 #[.val (.int p1), .val (.int p2), .val (.int p3), .val (.int p4), .val (.int (0 : Int32)), .val (.ref b1), .val (.ref b2), .val (.ref b4), .val (.int (1 : Int32)), .val (.ref b11)] [(.ref b11)])
    refine GlW.st (fun _ kk => XS.iload X11.here hx rfl (hb hby at_136) rfl kk) ?_
    show GlW Z ([] : List (String × Nat)) p e below s _ _ _ T11 (mkF m 138 #[.val (.int p1), .val (.int p2), .val (.int p3), .val (.int p4), .val (.int (0 : Int32)), .val (.ref b1), .val (.ref b2), .val (.ref b4), .val (.int (1 : Int32)), .val (.ref b11)] [(.int (0 : Int32)), (.ref b11)])
    refine GlW.st (fun _ kk => XS.iloadN X11.here hx rfl (hb hby at_138) rfl kk) ?_
    show GlW Z ([] : List (String × Nat)) p e below s _ _ _ T11 (mkF m 139 #[.val (.int p1), .val (.int p2), .val (.int p3), .val (.int p4), .val (.int (0 : Int32)), .val (.ref b1), .val (.ref b2), .val (.ref b4), .val (.int (1 : Int32)), .val (.ref b11)] [(.int p2), (.int (0 : Int32)), (.ref b11)])
    refine GlW.st (fun _ kk => XS.iloadN X11.here hx rfl (hb hby at_139) rfl kk) ?_
    show GlW Z ([] : List (String × Nat)) p e below s _ _ _ T11 (mkF m 140 #[.val (.int p1), .val (.int p2), .val (.int p3), .val (.int p4), .val (.int (0 : Int32)), .val (.ref b1), .val (.ref b2), .val (.ref b4), .val (.int (1 : Int32)), .val (.ref b11)] [(.int p3), (.int p2), (.int (0 : Int32)), (.ref b11)])
    refine GlW.st (fun _ kk => XS.iloadN X11.here hx rfl (hb hby at_140) rfl kk) ?_
    show GlW Z ([] : List (String × Nat)) p e below s _ _ _ T11 (mkF m 141 #[.val (.int p1), .val (.int p2), .val (.int p3), .val (.int p4), .val (.int (0 : Int32)), .val (.ref b1), .val (.ref b2), .val (.ref b4), .val (.int (1 : Int32)), .val (.ref b11)] [(.int p4), (.int p3), (.int p2), (.int (0 : Int32)), (.ref b11)])
    obtain ⟨v12, _, ⟨T12, L12, kQ12, nQ12⟩, -, X12, ⟨Lc12, hQ12, l12, y12, z12⟩, st12⟩ := Jvm.LawKit.callS X11 hx (y := (⟨"com/example/tarry/tarry/MessageBytesPinLaw", "same", "([BIIII)Z"⟩ : MethodName)) hown (mvT hZ (hw _ (List.mem_of_getElem? (i := 80) rfl))) (mvT hZ (hw _ (List.mem_of_getElem? (i := 81) rfl))) (mvT hZ (hw _ (List.mem_of_getElem? (i := 53) rfl))) (mvT hZ (hw _ (List.mem_of_getElem? (i := 82) rfl))) (by decide) (backOf (W := 0) (rmS0 l Z a0 hw [] b11 p2 p3 p4 ka1 h11 n0 O11 Arv_b11) hZ (hw _ (List.mem_of_getElem? (i := 82) rfl)) (hw _ (List.mem_of_getElem? (i := 53) rfl)) (by decide) (by decide)) (g := (mkF m 141 #[.val (.int p1), .val (.int p2), .val (.int p3), .val (.int p4), .val (.int (0 : Int32)), .val (.ref b1), .val (.ref b2), .val (.ref b4), .val (.int (1 : Int32)), .val (.ref b11)] [(.int p4), (.int p3), (.int p2), (.int (0 : Int32)), (.ref b11)])) rfl (by rw [hml]; rfl) (argsL := [(.ref b11), (.int (0 : Int32)), (.int p2), (.int p3), (.int p4)]) (rest := []) (lenOf pd_rm0_5 rfl) rfl (by show 2 * 0 + _ ≤ _; exact Nat.le_of_eq rfl) (hb hby at_141) (fun _ _ => ⟨rfl, e11, (by decide : 7 + 0 ≤ _), (by decide : 26 + 0 ≤ _)⟩)
    dsimp only [Pt.U, Pt.locs, Pt.cells, Pt.slots] at X12 l12 y12 z12 st12 hQ12
    subst l12 y12 z12
    obtain ⟨rfl, Nq12, e12⟩ := hQ12
    have N12 := Fr.app N11 Nq12
    refine GlW.st st12 ?_
    show GlW Z ([] : List (String × Nat)) p e below s _ _ _ T12 (mkF m 144 #[.val (.int p1), .val (.int p2), .val (.int p3), .val (.int p4), .val (.int (0 : Int32)), .val (.ref b1), .val (.ref b2), .val (.ref b4), .val (.int (1 : Int32)), .val (.ref b11)] [(.int (1 : Int32))])
    refine GlW.st (fun _ kk => XS.ifNo X12.here hx rfl (hb hby at_144) rfl ((if0 _ _).trans (feq (by decide : ¬ ((1 : Int32) = (0 : Int32)))).1) kk) ?_
    show GlW Z ([] : List (String × Nat)) p e below s _ _ _ T12 (mkF m 147 #[.val (.int p1), .val (.int p2), .val (.int p3), .val (.int p4), .val (.int (0 : Int32)), .val (.ref b1), .val (.ref b2), .val (.ref b4), .val (.int (1 : Int32)), .val (.ref b11)] [])
    refine GlW.st (fun _ kk => XS.iconst X12.here hx rfl (hb hby at_147) kk) ?_
    show GlW Z ([] : List (String × Nat)) p e below s _ _ _ T12 (mkF m 148 #[.val (.int p1), .val (.int p2), .val (.int p3), .val (.int p4), .val (.int (0 : Int32)), .val (.ref b1), .val (.ref b2), .val (.ref b4), .val (.int (1 : Int32)), .val (.ref b11)] [(.int (1 : Int32))])
    refine GlW.st (fun _ kk => XS.goto X12.here hx rfl (pc0 := 148) (pc' := 152) rfl (hb hby at_148) (by decide) (by decide) kk) ?_
    show GlW Z ([] : List (String × Nat)) p e below s _ _ _ T12 (mkF m 152 #[.val (.int p1), .val (.int p2), .val (.int p3), .val (.int p4), .val (.int (0 : Int32)), .val (.ref b1), .val (.ref b2), .val (.ref b4), .val (.int (1 : Int32)), .val (.ref b11)] [(.int (1 : Int32))])
    exact GlW.ret X12 hS2 hk11 hZ hEL hh0 HC11 (v := (some (.int (1 : Int32)))) (fun h => by rw [Bd.returns] at h; cases h) (BodyLoose.notSynchronized Bd) (fun hr => retN X12 hx (t := .boolean) Bd.returns (by simp) (hb hby at_152) hr) e12 ⟨rfl, N12⟩ (by decide) (by decide)
  · rw [hk]
    show GlW Z ([] : List (String × Nat)) p e below s _ _ _ s₁ (mkF m 5 #[.val (.int p1), .val (.int p2), .val (.int p3), .val (.int p4), .val (.int (1 : Int32)), .unset, .unset, .unset, .unset, .unset] [])
    refine GlW.st (fun _ kk => XS.iload X0.here hx rfl (hb hby at_5) rfl kk) ?_
    show GlW Z ([] : List (String × Nat)) p e below s _ _ _ s₁ (mkF m 7 #[.val (.int p1), .val (.int p2), .val (.int p3), .val (.int p4), .val (.int (1 : Int32)), .unset, .unset, .unset, .unset, .unset] [(.int (1 : Int32))])
    obtain ⟨T13, h13, ka13, X13, e13, E13, A13, Ax13, st13⟩ := newPE X0 hx hZ (hw _ (List.mem_of_getElem? (i := 0) rfl)) e0 (g := (mkF m 7 #[.val (.int p1), .val (.int p2), .val (.int p3), .val (.int p4), .val (.int (1 : Int32)), .unset, .unset, .unset, .unset, .unset] [(.int (1 : Int32))])) rfl (hb hby at_7) rfl (by decide) (cap := 1) (by decide) (by decide) (by decide) (by decide) (ad := "[B") (by decide)
    obtain ⟨b13, g13⟩ : ∃ z, z = h0.size := ⟨_, rfl⟩
    rw [← g13] at A13 Ax13 st13
    refine GlW.st st13 ?_
    have ge_b13 : n0 ≤ b13 := Nat.le_trans (Nat.le_trans (Nat.le_of_eq O0.1.symm) O0.2.1) (Nat.le_of_eq g13.symm)
    have fr_b13 : h0.size ≤ b13 := Nat.le_trans (Nat.le_refl _) (Nat.le_of_eq g13.symm)
    have Sf_b13 : Safe Z ([] : List (String × Nat)) s.vm h0 b13 := Safe.new (Nat.le_of_eq g13.symm)
    have Sf_b13 := Safe.ext E13 HC0.1 Sf_b13
    have HC13 := HC0.trans (CHr.ext E13 HC0.1)
    have hk13 := Nat.le_trans hk0 E13.1
    have O13 := O0.ext E13
    have K13 := (Keep.refl h0 []).ext E13
    have Arv_b13 : Arv Z h13 b13 ka13 .byte (1 : Int32) [(.int (0 : Int32))] (.int (0 : Int32)) := (Arv.new A13 (by decide)).pad (pad_rep [] (.int (0 : Int32)) 1)
    have Exa_b13 := Ax13
    show GlW Z ([] : List (String × Nat)) p e below s _ _ _ T13 (mkF m 9 #[.val (.int p1), .val (.int p2), .val (.int p3), .val (.int p4), .val (.int (1 : Int32)), .unset, .unset, .unset, .unset, .unset] [(.ref b13)])
    refine GlW.st (fun _ kk => XS.astore X13.here hx rfl (hb hby at_9) rfl rfl (l' := #[.val (.int p1), .val (.int p2), .val (.int p3), .val (.int p4), .val (.int (1 : Int32)), .val (.ref b13), .unset, .unset, .unset, .unset]) rfl kk) ?_
    show GlW Z ([] : List (String × Nat)) p e below s _ _ _ T13 (mkF m 11 #[.val (.int p1), .val (.int p2), .val (.int p3), .val (.int p4), .val (.int (1 : Int32)), .val (.ref b13), .unset, .unset, .unset, .unset] [])
    refine GlW.st (fun _ kk => XS.iload X13.here hx rfl (hb hby at_11) rfl kk) ?_
    show GlW Z ([] : List (String × Nat)) p e below s _ _ _ T13 (mkF m 13 #[.val (.int p1), .val (.int p2), .val (.int p3), .val (.int p4), .val (.int (1 : Int32)), .val (.ref b13), .unset, .unset, .unset, .unset] [(.int (1 : Int32))])
    refine GlW.st (fun _ kk => XS.ifNo X13.here hx rfl (hb hby at_13) rfl ((if0 _ _).trans (tlt (by decide : (0 : Int32) < (1 : Int32))).2.2.2) kk) ?_
    show GlW Z ([] : List (String × Nat)) p e below s _ _ _ T13 (mkF m 16 #[.val (.int p1), .val (.int p2), .val (.int p3), .val (.int p4), .val (.int (1 : Int32)), .val (.ref b13), .unset, .unset, .unset, .unset] [])
    refine GlW.st (fun _ kk => XS.aload X13.here hx rfl (hb hby at_16) rfl rfl kk) ?_
    show GlW Z ([] : List (String × Nat)) p e below s _ _ _ T13 (mkF m 18 #[.val (.int p1), .val (.int p2), .val (.int p3), .val (.int p4), .val (.int (1 : Int32)), .val (.ref b13), .unset, .unset, .unset, .unset] [(.ref b13)])
    refine GlW.st (fun _ kk => XS.iconst X13.here hx rfl (hb hby at_18) kk) ?_
    show GlW Z ([] : List (String × Nat)) p e below s _ _ _ T13 (mkF m 19 #[.val (.int p1), .val (.int p2), .val (.int p3), .val (.int p4), .val (.int (1 : Int32)), .val (.ref b13), .unset, .unset, .unset, .unset] [(.int (0 : Int32)), (.ref b13)])
    refine GlW.st (fun _ kk => XS.iloadN X13.here hx rfl (hb hby at_19) rfl kk) ?_
    show GlW Z ([] : List (String × Nat)) p e below s _ _ _ T13 (mkF m 20 #[.val (.int p1), .val (.int p2), .val (.int p3), .val (.int p4), .val (.int (1 : Int32)), .val (.ref b13), .unset, .unset, .unset, .unset] [(.int p2), (.int (0 : Int32)), (.ref b13)])
    refine GlW.st (fun _ kk => XS.i2b X13.here hx rfl (hb hby at_20) rfl kk) ?_
    show GlW Z ([] : List (String × Nat)) p e below s _ _ _ T13 (mkF m 21 #[.val (.int p1), .val (.int p2), .val (.int p3), .val (.int p4), .val (.int (1 : Int32)), .val (.ref b13), .unset, .unset, .unset, .unset] [(.int (p2.toInt8.toInt32)), (.int (0 : Int32)), (.ref b13)])
    obtain ⟨cl14, Ar14, q14, Sz14, Ng14, Ha14, Fi14⟩ := id Arv_b13
    have hin14 : ¬ ((0 : Int32) < 0 ∨ cl14.slots.size ≤ ((0 : Int32)).toNatClampNeg) := inb_of Sz14 ⟨by decide, by decide⟩
    obtain ⟨T14, h14, X14, e14, W14, st14⟩ := stB X13 hx hZ e13 Ar14 (j := (0 : Int32)) hin14 (g := (mkF m 21 #[.val (.int p1), .val (.int p2), .val (.int p3), .val (.int p4), .val (.int (1 : Int32)), .val (.ref b13), .unset, .unset, .unset, .unset] [(.int (p2.toInt8.toInt32)), (.int (0 : Int32)), (.ref b13)])) rfl rfl (hb hby at_21)
    refine GlW.st st14 ?_
    have Arv_b13 : Arv Z h14 b13 ka13 .byte (1 : Int32) [(.int (nar .byte (p2.toInt8.toInt32)))] (.int (0 : Int32)) := Arv.set Ar14 q14 Sz14 Ng14 Ha14 Fi14 (fits_nar_byte _) W14 0 rfl (Nat.le_of_ble_eq_true rfl)
    rw [own_nar8] at Arv_b13
    have sfw14 := Sf_b13
    have Sf_b13 := Safe.wr W14 sfw14 HC13.1 Sf_b13
    have HC14 := HC13.trans (CHr.wr W14 sfw14 HC13.1)
    have hk14 := Nat.le_trans hk13 (Nat.le_of_eq W14.size.symm)
    have Exa_b13 := Exa_b13.wr W14
    have O14 := O13.wr W14 ge_b13
    have K14 := K13.wr W14 (Or.inr fr_b13)
    have N14 := Fr.snoc X14 N0 ge_b13
    show GlW Z ([] : List (String × Nat)) p e below s _ _ _ T14 (mkF m 22 #[.val (.int p1), .val (.int p2), .val (.int p3), .val (.int p4), .val (.int (1 : Int32)), .val (.ref b13), .unset, .unset, .unset, .unset] [])
    refine GlW.st (fun _ kk => XS.iload X14.here hx rfl (hb hby at_22) rfl kk) ?_
    show GlW Z ([] : List (String × Nat)) p e below s _ _ _ T14 (mkF m 24 #[.val (.int p1), .val (.int p2), .val (.int p3), .val (.int p4), .val (.int (1 : Int32)), .val (.ref b13), .unset, .unset, .unset, .unset] [(.int (1 : Int32))])
    refine GlW.st (fun _ kk => XS.iconst X14.here hx rfl (hb hby at_24) kk) ?_
    show GlW Z ([] : List (String × Nat)) p e below s _ _ _ T14 (mkF m 25 #[.val (.int p1), .val (.int p2), .val (.int p3), .val (.int p4), .val (.int (1 : Int32)), .val (.ref b13), .unset, .unset, .unset, .unset] [(.int (1 : Int32)), (.int (1 : Int32))])
    refine GlW.st (fun _ kk => XS.icmpYes X14.here hx rfl (pc0 := 25) (pc' := 34) rfl (hb hby at_25) rfl (flt (by decide : ¬ ((1 : Int32) < (1 : Int32)))).2.2.2 (by decide) (by decide) kk) ?_
    show GlW Z ([] : List (String × Nat)) p e below s _ _ _ T14 (mkF m 34 #[.val (.int p1), .val (.int p2), .val (.int p3), .val (.int p4), .val (.int (1 : Int32)), .val (.ref b13), .unset, .unset, .unset, .unset] [])
    refine GlW.st (fun _ kk => XS.iload X14.here hx rfl (hb hby at_34) rfl kk) ?_
    show GlW Z ([] : List (String × Nat)) p e below s _ _ _ T14 (mkF m 36 #[.val (.int p1), .val (.int p2), .val (.int p3), .val (.int p4), .val (.int (1 : Int32)), .val (.ref b13), .unset, .unset, .unset, .unset] [(.int (1 : Int32))])
    refine GlW.st (fun _ kk => XS.iconst X14.here hx rfl (hb hby at_36) kk) ?_
    show GlW Z ([] : List (String × Nat)) p e below s _ _ _ T14 (mkF m 37 #[.val (.int p1), .val (.int p2), .val (.int p3), .val (.int p4), .val (.int (1 : Int32)), .val (.ref b13), .unset, .unset, .unset, .unset] [(.int (2 : Int32)), (.int (1 : Int32))])
    refine GlW.st (fun _ kk => XS.icmpYes X14.here hx rfl (pc0 := 37) (pc' := 46) rfl (hb hby at_37) rfl (flt (by decide : ¬ ((2 : Int32) < (1 : Int32)))).2.2.2 (by decide) (by decide) kk) ?_
    show GlW Z ([] : List (String × Nat)) p e below s _ _ _ T14 (mkF m 46 #[.val (.int p1), .val (.int p2), .val (.int p3), .val (.int p4), .val (.int (1 : Int32)), .val (.ref b13), .unset, .unset, .unset, .unset] [])
    refine GlW.st (fun _ kk => XS.aload X14.here hx rfl (hb hby at_46) rfl rfl kk) ?_
    show GlW Z ([] : List (String × Nat)) p e below s _ _ _ T14 (mkF m 48 #[.val (.int p1), .val (.int p2), .val (.int p3), .val (.int p4), .val (.int (1 : Int32)), .val (.ref b13), .unset, .unset, .unset, .unset] [(.ref b13)])
    have lq15_b13 := Arv_b13.lt
    obtain ⟨v15, _, ⟨T15, L15, kQ15, nQ15⟩, -, X15, hSq15, hgq15, ⟨Lc15, hQ15, l15, y15, z15, HR15⟩, st15⟩ := callSS X14 hx (y := (⟨"com/example/tarry/tarry/Message", "bytes", "([B)Lcom/example/tarry/tarry/Message;"⟩ : MethodName)) hown (mvT hZ (hw _ (List.mem_of_getElem? (i := 1) rfl))) (mvT hZ (hw _ (List.mem_of_getElem? (i := 2) rfl))) (mvT hZ (hw _ (List.mem_of_getElem? (i := 3) rfl))) (mvT hZ (hw _ (List.mem_of_getElem? (i := 4) rfl))) (by decide) (backOfSH (W := 0) (rmB1 l Z a0 hw [] b13 ka13 p2 em h14 n0 O14 Arv_b13 Exa_b13 S_EM) hZ (hw _ (List.mem_of_getElem? (i := 4) rfl)) (hw _ (List.mem_of_getElem? (i := 3) rfl)) (by decide) (by decide) hEL HC14.1) (g := (mkF m 48 #[.val (.int p1), .val (.int p2), .val (.int p3), .val (.int p4), .val (.int (1 : Int32)), .val (.ref b13), .unset, .unset, .unset, .unset] [(.ref b13)])) rfl (by rw [hml]; rfl) (argsL := [(.ref b13)]) (rest := []) (lenOf pd_rm0_0 rfl) rfl (by show 2 * 0 + _ ≤ _; exact Nat.le_of_eq rfl) (hb hby at_48) (fun _ _ => ⟨rfl, e14, (by decide : 1 + 4 ≤ _), (by decide : 1 + 27 ≤ _)⟩)
    dsimp only [Pt.U, Pt.locs, Pt.cells, Pt.slots] at X15 l15 y15 z15 st15 hQ15 hSq15 hgq15 HR15
    subst l15 y15 z15
    obtain ⟨h15, e15⟩ : ∃ z, T15.heap = z := ⟨_, rfl⟩
    rw [e15] at hQ15 HR15 hSq15 hgq15
    obtain ⟨b15, t15, rfl, Nq15, Kq15, Exa_b15, F_text_b15, F_bytes_b15, F_headers_b15, F_messageId_b15, F_correlationId_b15, F_replyTo_b15, Arv_t15, Exa_t15, frb15, frt15, nbt15⟩ := hQ15
    rw [e14] at hgq15
    have hS15 := (hS0).trans hSq15 (Nat.le_trans hk14 hgq15)
    have hk15 := Nat.le_refl h15.size
    have hZ15 : Z.Warmed39 T15.vm := State.Warmed39.trans (t := s.setVm s.vm) hZ hSq15.1
    have hown15 : T15.vm.findClass "com/example/tarry/tarry/MessageBytesPinLaw" = some m.cls := by rw [hSq15.1.alike.findClass]; exact hown
    have Sf_b13 := HR15.safe Arv_b13.lt Sf_b13
    have HC15 := HC14.trans HR15
    have hZ := hZ15
    have hown := hown15
    have N15 := Fr.app N14 Nq15
    refine GlW.st (fun _ kk => st15.trans kk) ?_
    have Arv_b13 := Arv_b13.keep Kq15 nin0
    have Exa_b13 := Exa_b13.keep Kq15
    have O15 := O14.keep Kq15 all0
    have K15 := K14.trans Kq15 all0
    have ne_b13_b15 : b13 ≠ b15 := Nat.ne_of_lt (Nat.lt_of_lt_of_le lq15_b13 frb15)
    have ge_b15 : n0 ≤ b15 := Nat.le_trans (Nat.le_trans (Nat.le_of_eq O14.1.symm) O14.2.1) frb15
    have fr_b15 : h0.size ≤ b15 := Nat.le_trans K14.1 frb15
    have ne_b13_t15 : b13 ≠ t15 := Nat.ne_of_lt (Nat.lt_of_lt_of_le lq15_b13 frt15)
    have ge_t15 : n0 ≤ t15 := Nat.le_trans (Nat.le_trans (Nat.le_of_eq O14.1.symm) O14.2.1) frt15
    have fr_t15 : h0.size ≤ t15 := Nat.le_trans K14.1 frt15
    have Sf_t15 : Safe Z ([] : List (String × Nat)) T15.vm h15 t15 := fun B => by obtain ⟨_, hm, _⟩ := B; cases hm
    show GlW Z ([] : List (String × Nat)) p e below s _ _ _ T15 (mkF m 51 #[.val (.int p1), .val (.int p2), .val (.int p3), .val (.int p4), .val (.int (1 : Int32)), .val (.ref b13), .unset, .unset, .unset, .unset] [(.ref b15)])
    refine GlW.st (fun _ kk => XS.astore X15.here hx rfl (hb hby at_51) rfl rfl (l' := #[.val (.int p1), .val (.int p2), .val (.int p3), .val (.int p4), .val (.int (1 : Int32)), .val (.ref b13), .val (.ref b15), .unset, .unset, .unset]) rfl kk) ?_
    show GlW Z ([] : List (String × Nat)) p e below s _ _ _ T15 (mkF m 53 #[.val (.int p1), .val (.int p2), .val (.int p3), .val (.int p4), .val (.int (1 : Int32)), .val (.ref b13), .val (.ref b15), .unset, .unset, .unset] [])
    refine GlW.st (fun _ kk => XS.aload X15.here hx rfl (hb hby at_53) rfl rfl kk) ?_
    show GlW Z ([] : List (String × Nat)) p e below s _ _ _ T15 (mkF m 55 #[.val (.int p1), .val (.int p2), .val (.int p3), .val (.int p4), .val (.int (1 : Int32)), .val (.ref b13), .val (.ref b15), .unset, .unset, .unset] [(.ref b13)])
    obtain ⟨v16, _, ⟨T16, L16, kQ16, nQ16⟩, -, X16, ⟨Lc16, hQ16, l16, y16, z16⟩, st16⟩ := Jvm.LawKit.callS X15 hx (y := (⟨"com/example/tarry/tarry/MessageBytesPinLaw", "flip", "([B)V"⟩ : MethodName)) hown (mvT hZ (hw _ (List.mem_of_getElem? (i := 51) rfl))) (mvT hZ (hw _ (List.mem_of_getElem? (i := 52) rfl))) (mvT hZ (hw _ (List.mem_of_getElem? (i := 53) rfl))) (mvT hZ (hw _ (List.mem_of_getElem? (i := 54) rfl))) (by decide) (backOf (W := 0) (rmF1 l Z a0 hw [] b13 ka13 p2 h15 n0 O15 Arv_b13 ge_b13) hZ (hw _ (List.mem_of_getElem? (i := 54) rfl)) (hw _ (List.mem_of_getElem? (i := 53) rfl)) (by decide) (by decide)) (g := (mkF m 55 #[.val (.int p1), .val (.int p2), .val (.int p3), .val (.int p4), .val (.int (1 : Int32)), .val (.ref b13), .val (.ref b15), .unset, .unset, .unset] [(.ref b13)])) rfl (by rw [hml]; rfl) (argsL := [(.ref b13)]) (rest := []) (lenOf pd_rm0_1 rfl) rfl (by show 2 * 0 + _ ≤ _; exact Nat.le_of_eq rfl) (hb hby at_55) (fun _ _ => ⟨rfl, e15, (by decide : 5 + 0 ≤ _), (by decide : 28 + 0 ≤ _)⟩)
    dsimp only [Pt.U, Pt.locs, Pt.cells, Pt.slots] at X16 l16 y16 z16 st16 hQ16
    subst l16 y16 z16
    obtain ⟨h16, e16⟩ : ∃ z, T16.heap = z := ⟨_, rfl⟩
    rw [e16] at hQ16
    obtain ⟨rfl, Nq16, Kq16⟩ := hQ16
    have N16 := Fr.app N15 Nq16
    refine GlW.st st16 ?_
    have sfk16 : ∀ x ∈ [b13], Safe Z ([] : List (String × Nat)) _ _ x := (allS Sf_b13 all0)
    have Sf_b13 := Safe.keep Kq16 sfk16 HC15.1 Sf_b13
    have Sf_t15 := Safe.keep Kq16 sfk16 HC15.1 Sf_t15
    have HC16 := HC15.trans (CHr.keep Kq16 sfk16 HC15.1)
    have hk16 := Nat.le_trans hk15 Kq16.1
    have Exa_b13 := Exa_b13.keep Kq16
    have Exa_b15 := Exa_b15.keep Kq16
    have Arv_t15 := Arv_t15.keep Kq16 (ninS (Ne.symm ne_b13_t15) nin0)
    have Exa_t15 := Exa_t15.keep Kq16
    have F_text_b15 := F_text_b15.keep Kq16 (ninS (Ne.symm ne_b13_b15) nin0)
    have F_bytes_b15 := F_bytes_b15.keep Kq16 (ninS (Ne.symm ne_b13_b15) nin0)
    have F_headers_b15 := F_headers_b15.keep Kq16 (ninS (Ne.symm ne_b13_b15) nin0)
    have F_messageId_b15 := F_messageId_b15.keep Kq16 (ninS (Ne.symm ne_b13_b15) nin0)
    have F_correlationId_b15 := F_correlationId_b15.keep Kq16 (ninS (Ne.symm ne_b13_b15) nin0)
    have F_replyTo_b15 := F_replyTo_b15.keep Kq16 (ninS (Ne.symm ne_b13_b15) nin0)
    have O16 := O15.keep Kq16 (allS ge_b13 all0)
    have K16 := K15.trans Kq16 (allS (Or.inr fr_b13) all0)
    show GlW Z ([] : List (String × Nat)) p e below s _ _ _ T16 (mkF m 58 #[.val (.int p1), .val (.int p2), .val (.int p3), .val (.int p4), .val (.int (1 : Int32)), .val (.ref b13), .val (.ref b15), .unset, .unset, .unset] [])
    refine GlW.st (fun _ kk => XS.aload X16.here hx rfl (hb hby at_58) rfl rfl kk) ?_
    show GlW Z ([] : List (String × Nat)) p e below s _ _ _ T16 (mkF m 60 #[.val (.int p1), .val (.int p2), .val (.int p3), .val (.int p4), .val (.int (1 : Int32)), .val (.ref b13), .val (.ref b15), .unset, .unset, .unset] [(.ref b15)])
    obtain ⟨cq17, kq17, qa17, qb17, qc17⟩ := isOf hZ e16 Exa_b15
    have lq17_b13 := Exa_b13.lt
    have lq17_b15 := Exa_b15.lt
    have lq17_t15 := Arv_t15.lt
    obtain ⟨v17, _, ⟨T17, L17, kQ17, nQ17⟩, -, X17, ⟨Lc17, hQ17, l17, y17, z17⟩, st17⟩ := X16.virtualBack hx (y := (⟨"com/example/tarry/tarry/Message", "bytes", "()[B"⟩ : MethodName)) (z := (⟨"com/example/tarry/tarry/Message", "bytes", "()[B"⟩ : MethodName)) hown (mvT hZ (hw _ (List.mem_of_getElem? (i := 55) rfl))) (mvT hZ (hw _ (List.mem_of_getElem? (i := 56) rfl))) (notFace_of_selects (args := #[]) (mvT hZ (hw _ (List.mem_of_getElem? (i := 58) rfl)))) (mvT hZ (hw _ (List.mem_of_getElem? (i := 58) rfl))) (mvT hZ (hw _ (List.mem_of_getElem? (i := 57) rfl))) (by decide) (backOf (W := 0) (rmG1 l Z a0 hw [] b15 t15 ka13 p2 h16 n0 O16 F_bytes_b15 Arv_t15 Exa_t15) hZ (hw _ (List.mem_of_getElem? (i := 59) rfl)) (hw _ (List.mem_of_getElem? (i := 3) rfl)) (by decide) (by decide)) qa17 qc17 (g := (mkF m 60 #[.val (.int p1), .val (.int p2), .val (.int p3), .val (.int p4), .val (.int (1 : Int32)), .val (.ref b13), .val (.ref b15), .unset, .unset, .unset] [(.ref b15)])) rfl (by rw [hml]; rfl) (Steps.refl _) (argsL := []) (rest := []) (lenOf pd_rm0_2 rfl) rfl (by show 2 * 0 + _ ≤ _; exact Nat.le_of_eq rfl) (hb hby at_60) (fun _ _ => ⟨rfl, e16, (by decide : 5 + 1 ≤ _), (by decide : 28 + 1 ≤ _)⟩)
    dsimp only [Pt.U, Pt.locs, Pt.cells, Pt.slots] at X17 l17 y17 z17 st17 hQ17
    subst l17 y17 z17
    obtain ⟨h17, e17⟩ : ∃ z, T17.heap = z := ⟨_, rfl⟩
    rw [e17] at hQ17
    obtain ⟨b17, rfl, Nq17, Kq17, Arv_b17, frb17⟩ := hQ17
    have N17 := Fr.app N16 Nq17
    refine GlW.st (fun _ kk => st17.trans kk) ?_
    have sfk17 : ∀ x ∈ ([] : List Addr), Safe Z ([] : List (String × Nat)) T15.vm h16 x := all0
    have Sf_b13 := Safe.keep Kq17 sfk17 HC16.1 Sf_b13
    have Sf_t15 := Safe.keep Kq17 sfk17 HC16.1 Sf_t15
    have HC17 := HC16.trans (CHr.keep Kq17 sfk17 HC16.1)
    have hk17 := Nat.le_trans hk16 Kq17.1
    have Exa_b13 := Exa_b13.keep Kq17
    have Exa_b15 := Exa_b15.keep Kq17
    have Arv_t15 := Arv_t15.keep Kq17 nin0
    have Exa_t15 := Exa_t15.keep Kq17
    have F_text_b15 := F_text_b15.keep Kq17 nin0
    have F_bytes_b15 := F_bytes_b15.keep Kq17 nin0
    have F_headers_b15 := F_headers_b15.keep Kq17 nin0
    have F_messageId_b15 := F_messageId_b15.keep Kq17 nin0
    have F_correlationId_b15 := F_correlationId_b15.keep Kq17 nin0
    have F_replyTo_b15 := F_replyTo_b15.keep Kq17 nin0
    have O17 := O16.keep Kq17 all0
    have K17 := K16.trans Kq17 all0
    have ne_b13_b17 : b13 ≠ b17 := Nat.ne_of_lt (Nat.lt_of_lt_of_le lq17_b13 frb17)
    have ne_b15_b17 : b15 ≠ b17 := Nat.ne_of_lt (Nat.lt_of_lt_of_le lq17_b15 frb17)
    have ne_t15_b17 : t15 ≠ b17 := Nat.ne_of_lt (Nat.lt_of_lt_of_le lq17_t15 frb17)
    have ge_b17 : n0 ≤ b17 := Nat.le_trans (Nat.le_trans (Nat.le_of_eq O16.1.symm) O16.2.1) frb17
    have fr_b17 : h0.size ≤ b17 := Nat.le_trans K16.1 frb17
    have Sf_b17 : Safe Z ([] : List (String × Nat)) T15.vm h17 b17 := fun B => by obtain ⟨_, hm, _⟩ := B; cases hm
    show GlW Z ([] : List (String × Nat)) p e below s _ _ _ T17 (mkF m 63 #[.val (.int p1), .val (.int p2), .val (.int p3), .val (.int p4), .val (.int (1 : Int32)), .val (.ref b13), .val (.ref b15), .unset, .unset, .unset] [(.ref b17)])
    refine GlW.st (fun _ kk => XS.astore X17.here hx rfl (hb hby at_63) rfl rfl (l' := #[.val (.int p1), .val (.int p2), .val (.int p3), .val (.int p4), .val (.int (1 : Int32)), .val (.ref b13), .val (.ref b15), .val (.ref b17), .unset, .unset]) rfl kk) ?_
    show GlW Z ([] : List (String × Nat)) p e below s _ _ _ T17 (mkF m 65 #[.val (.int p1), .val (.int p2), .val (.int p3), .val (.int p4), .val (.int (1 : Int32)), .val (.ref b13), .val (.ref b15), .val (.ref b17), .unset, .unset] [])
    refine GlW.st (fun _ kk => XS.aload X17.here hx rfl (hb hby at_65) rfl rfl kk) ?_
    show GlW Z ([] : List (String × Nat)) p e below s _ _ _ T17 (mkF m 67 #[.val (.int p1), .val (.int p2), .val (.int p3), .val (.int p4), .val (.int (1 : Int32)), .val (.ref b13), .val (.ref b15), .val (.ref b17), .unset, .unset] [(.ref b15)])
    obtain ⟨cq18, kq18, qa18, qb18, qc18⟩ := isOf hZ e17 Exa_b15
    obtain ⟨v18, _, ⟨T18, L18, kQ18, nQ18⟩, -, X18, ⟨Lc18, hQ18, l18, y18, z18⟩, st18⟩ := X17.virtualBack hx (y := (⟨"com/example/tarry/tarry/Message", "isText", "()Z"⟩ : MethodName)) (z := (⟨"com/example/tarry/tarry/Message", "isText", "()Z"⟩ : MethodName)) hown (mvT hZ (hw _ (List.mem_of_getElem? (i := 60) rfl))) (mvT hZ (hw _ (List.mem_of_getElem? (i := 61) rfl))) (notFace_of_selects (args := #[]) (mvT hZ (hw _ (List.mem_of_getElem? (i := 63) rfl)))) (mvT hZ (hw _ (List.mem_of_getElem? (i := 63) rfl))) (mvT hZ (hw _ (List.mem_of_getElem? (i := 62) rfl))) (by decide) (backOf (W := 0) (rmT l Z a0 hw [] b15 h17 n0 O17 F_text_b15) hZ (hw _ (List.mem_of_getElem? (i := 64) rfl)) (hw _ (List.mem_of_getElem? (i := 3) rfl)) (by decide) (by decide)) qa18 qc18 (g := (mkF m 67 #[.val (.int p1), .val (.int p2), .val (.int p3), .val (.int p4), .val (.int (1 : Int32)), .val (.ref b13), .val (.ref b15), .val (.ref b17), .unset, .unset] [(.ref b15)])) rfl (by rw [hml]; rfl) (Steps.refl _) (argsL := []) (rest := []) (lenOf pd_rm0_3 rfl) rfl (by show 2 * 0 + _ ≤ _; exact Nat.le_of_eq rfl) (hb hby at_67) (fun _ _ => ⟨rfl, e17, (by decide : 6 + 0 ≤ _), (by decide : 29 + 0 ≤ _)⟩)
    dsimp only [Pt.U, Pt.locs, Pt.cells, Pt.slots] at X18 l18 y18 z18 st18 hQ18
    subst l18 y18 z18
    obtain ⟨rfl, Nq18, e18⟩ := hQ18
    have N18 := Fr.app N17 Nq18
    refine GlW.st (fun _ kk => st18.trans kk) ?_
    show GlW Z ([] : List (String × Nat)) p e below s _ _ _ T18 (mkF m 70 #[.val (.int p1), .val (.int p2), .val (.int p3), .val (.int p4), .val (.int (1 : Int32)), .val (.ref b13), .val (.ref b15), .val (.ref b17), .unset, .unset] [(.int (0 : Int32))])
    refine GlW.st (fun _ kk => XS.ifNo X18.here hx rfl (hb hby at_70) rfl ((if0 _ _).trans (teq (by decide : (0 : Int32) = (0 : Int32))).2) kk) ?_
    show GlW Z ([] : List (String × Nat)) p e below s _ _ _ T18 (mkF m 73 #[.val (.int p1), .val (.int p2), .val (.int p3), .val (.int p4), .val (.int (1 : Int32)), .val (.ref b13), .val (.ref b15), .val (.ref b17), .unset, .unset] [])
    refine GlW.st (fun _ kk => XS.aload X18.here hx rfl (hb hby at_73) rfl rfl kk) ?_
    show GlW Z ([] : List (String × Nat)) p e below s _ _ _ T18 (mkF m 75 #[.val (.int p1), .val (.int p2), .val (.int p3), .val (.int p4), .val (.int (1 : Int32)), .val (.ref b13), .val (.ref b15), .val (.ref b17), .unset, .unset] [(.ref b15)])
    obtain ⟨cq19, kq19, qa19, qb19, qc19⟩ := isOf hZ e18 Exa_b15
    obtain ⟨v19, _, ⟨T19, L19, kQ19, nQ19⟩, -, X19, ⟨Lc19, hQ19, l19, y19, z19⟩, st19⟩ := X18.virtualBack hx (y := (⟨"com/example/tarry/tarry/Message", "messageId", "()Ljava/lang/String;"⟩ : MethodName)) (z := (⟨"com/example/tarry/tarry/Message", "messageId", "()Ljava/lang/String;"⟩ : MethodName)) hown (mvT hZ (hw _ (List.mem_of_getElem? (i := 65) rfl))) (mvT hZ (hw _ (List.mem_of_getElem? (i := 66) rfl))) (notFace_of_selects (args := #[]) (mvT hZ (hw _ (List.mem_of_getElem? (i := 68) rfl)))) (mvT hZ (hw _ (List.mem_of_getElem? (i := 68) rfl))) (mvT hZ (hw _ (List.mem_of_getElem? (i := 67) rfl))) (by decide) (backOf (W := 0) (rmA_messageId l Z a0 hw [] b15 h17 n0 O17 F_messageId_b15) hZ (hw _ (List.mem_of_getElem? (i := 69) rfl)) (hw _ (List.mem_of_getElem? (i := 3) rfl)) (by decide) (by decide)) qa19 qc19 (g := (mkF m 75 #[.val (.int p1), .val (.int p2), .val (.int p3), .val (.int p4), .val (.int (1 : Int32)), .val (.ref b13), .val (.ref b15), .val (.ref b17), .unset, .unset] [(.ref b15)])) rfl (by rw [hml]; rfl) (Steps.refl _) (argsL := []) (rest := []) (lenOf pd_rm0_4 rfl) rfl (by show 2 * 0 + _ ≤ _; exact Nat.le_of_eq rfl) (hb hby at_75) (fun _ _ => ⟨rfl, e18, (by decide : 6 + 0 ≤ _), (by decide : 29 + 0 ≤ _)⟩)
    dsimp only [Pt.U, Pt.locs, Pt.cells, Pt.slots] at X19 l19 y19 z19 st19 hQ19
    subst l19 y19 z19
    obtain ⟨rfl, Nq19, e19⟩ := hQ19
    have N19 := Fr.app N18 Nq19
    refine GlW.st (fun _ kk => st19.trans kk) ?_
    show GlW Z ([] : List (String × Nat)) p e below s _ _ _ T19 (mkF m 78 #[.val (.int p1), .val (.int p2), .val (.int p3), .val (.int p4), .val (.int (1 : Int32)), .val (.ref b13), .val (.ref b15), .val (.ref b17), .unset, .unset] [.null])
    refine GlW.st (fun _ kk => XS.ifnonnullNo X19.here hx rfl (hb hby at_78) rfl kk) ?_
    show GlW Z ([] : List (String × Nat)) p e below s _ _ _ T19 (mkF m 81 #[.val (.int p1), .val (.int p2), .val (.int p3), .val (.int p4), .val (.int (1 : Int32)), .val (.ref b13), .val (.ref b15), .val (.ref b17), .unset, .unset] [])
    refine GlW.st (fun _ kk => XS.aload X19.here hx rfl (hb hby at_81) rfl rfl kk) ?_
    show GlW Z ([] : List (String × Nat)) p e below s _ _ _ T19 (mkF m 83 #[.val (.int p1), .val (.int p2), .val (.int p3), .val (.int p4), .val (.int (1 : Int32)), .val (.ref b13), .val (.ref b15), .val (.ref b17), .unset, .unset] [(.ref b15)])
    obtain ⟨cq20, kq20, qa20, qb20, qc20⟩ := isOf hZ e19 Exa_b15
    obtain ⟨v20, _, ⟨T20, L20, kQ20, nQ20⟩, -, X20, ⟨Lc20, hQ20, l20, y20, z20⟩, st20⟩ := X19.virtualBack hx (y := (⟨"com/example/tarry/tarry/Message", "correlationId", "()Ljava/lang/String;"⟩ : MethodName)) (z := (⟨"com/example/tarry/tarry/Message", "correlationId", "()Ljava/lang/String;"⟩ : MethodName)) hown (mvT hZ (hw _ (List.mem_of_getElem? (i := 70) rfl))) (mvT hZ (hw _ (List.mem_of_getElem? (i := 71) rfl))) (notFace_of_selects (args := #[]) (mvT hZ (hw _ (List.mem_of_getElem? (i := 73) rfl)))) (mvT hZ (hw _ (List.mem_of_getElem? (i := 73) rfl))) (mvT hZ (hw _ (List.mem_of_getElem? (i := 72) rfl))) (by decide) (backOf (W := 0) (rmA_correlationId l Z a0 hw [] b15 h17 n0 O17 F_correlationId_b15) hZ (hw _ (List.mem_of_getElem? (i := 74) rfl)) (hw _ (List.mem_of_getElem? (i := 3) rfl)) (by decide) (by decide)) qa20 qc20 (g := (mkF m 83 #[.val (.int p1), .val (.int p2), .val (.int p3), .val (.int p4), .val (.int (1 : Int32)), .val (.ref b13), .val (.ref b15), .val (.ref b17), .unset, .unset] [(.ref b15)])) rfl (by rw [hml]; rfl) (Steps.refl _) (argsL := []) (rest := []) (lenOf pd_rm0_4 rfl) rfl (by show 2 * 0 + _ ≤ _; exact Nat.le_of_eq rfl) (hb hby at_83) (fun _ _ => ⟨rfl, e19, (by decide : 6 + 0 ≤ _), (by decide : 29 + 0 ≤ _)⟩)
    dsimp only [Pt.U, Pt.locs, Pt.cells, Pt.slots] at X20 l20 y20 z20 st20 hQ20
    subst l20 y20 z20
    obtain ⟨rfl, Nq20, e20⟩ := hQ20
    have N20 := Fr.app N19 Nq20
    refine GlW.st (fun _ kk => st20.trans kk) ?_
    show GlW Z ([] : List (String × Nat)) p e below s _ _ _ T20 (mkF m 86 #[.val (.int p1), .val (.int p2), .val (.int p3), .val (.int p4), .val (.int (1 : Int32)), .val (.ref b13), .val (.ref b15), .val (.ref b17), .unset, .unset] [.null])
    refine GlW.st (fun _ kk => XS.ifnonnullNo X20.here hx rfl (hb hby at_86) rfl kk) ?_
    show GlW Z ([] : List (String × Nat)) p e below s _ _ _ T20 (mkF m 89 #[.val (.int p1), .val (.int p2), .val (.int p3), .val (.int p4), .val (.int (1 : Int32)), .val (.ref b13), .val (.ref b15), .val (.ref b17), .unset, .unset] [])
    refine GlW.st (fun _ kk => XS.aload X20.here hx rfl (hb hby at_89) rfl rfl kk) ?_
    show GlW Z ([] : List (String × Nat)) p e below s _ _ _ T20 (mkF m 91 #[.val (.int p1), .val (.int p2), .val (.int p3), .val (.int p4), .val (.int (1 : Int32)), .val (.ref b13), .val (.ref b15), .val (.ref b17), .unset, .unset] [(.ref b15)])
    obtain ⟨cq21, kq21, qa21, qb21, qc21⟩ := isOf hZ e20 Exa_b15
    obtain ⟨v21, _, ⟨T21, L21, kQ21, nQ21⟩, -, X21, ⟨Lc21, hQ21, l21, y21, z21⟩, st21⟩ := X20.virtualBack hx (y := (⟨"com/example/tarry/tarry/Message", "replyTo", "()Ljava/lang/String;"⟩ : MethodName)) (z := (⟨"com/example/tarry/tarry/Message", "replyTo", "()Ljava/lang/String;"⟩ : MethodName)) hown (mvT hZ (hw _ (List.mem_of_getElem? (i := 75) rfl))) (mvT hZ (hw _ (List.mem_of_getElem? (i := 76) rfl))) (notFace_of_selects (args := #[]) (mvT hZ (hw _ (List.mem_of_getElem? (i := 78) rfl)))) (mvT hZ (hw _ (List.mem_of_getElem? (i := 78) rfl))) (mvT hZ (hw _ (List.mem_of_getElem? (i := 77) rfl))) (by decide) (backOf (W := 0) (rmA_replyTo l Z a0 hw [] b15 h17 n0 O17 F_replyTo_b15) hZ (hw _ (List.mem_of_getElem? (i := 79) rfl)) (hw _ (List.mem_of_getElem? (i := 3) rfl)) (by decide) (by decide)) qa21 qc21 (g := (mkF m 91 #[.val (.int p1), .val (.int p2), .val (.int p3), .val (.int p4), .val (.int (1 : Int32)), .val (.ref b13), .val (.ref b15), .val (.ref b17), .unset, .unset] [(.ref b15)])) rfl (by rw [hml]; rfl) (Steps.refl _) (argsL := []) (rest := []) (lenOf pd_rm0_4 rfl) rfl (by show 2 * 0 + _ ≤ _; exact Nat.le_of_eq rfl) (hb hby at_91) (fun _ _ => ⟨rfl, e20, (by decide : 6 + 0 ≤ _), (by decide : 29 + 0 ≤ _)⟩)
    dsimp only [Pt.U, Pt.locs, Pt.cells, Pt.slots] at X21 l21 y21 z21 st21 hQ21
    subst l21 y21 z21
    obtain ⟨rfl, Nq21, e21⟩ := hQ21
    have N21 := Fr.app N20 Nq21
    refine GlW.st (fun _ kk => st21.trans kk) ?_
    show GlW Z ([] : List (String × Nat)) p e below s _ _ _ T21 (mkF m 94 #[.val (.int p1), .val (.int p2), .val (.int p3), .val (.int p4), .val (.int (1 : Int32)), .val (.ref b13), .val (.ref b15), .val (.ref b17), .unset, .unset] [.null])
    refine GlW.st (fun _ kk => XS.ifnonnullNo X21.here hx rfl (hb hby at_94) rfl kk) ?_
    show GlW Z ([] : List (String × Nat)) p e below s _ _ _ T21 (mkF m 97 #[.val (.int p1), .val (.int p2), .val (.int p3), .val (.int p4), .val (.int (1 : Int32)), .val (.ref b13), .val (.ref b15), .val (.ref b17), .unset, .unset] [])
    refine GlW.st (fun _ kk => XS.aload X21.here hx rfl (hb hby at_97) rfl rfl kk) ?_
    show GlW Z ([] : List (String × Nat)) p e below s _ _ _ T21 (mkF m 99 #[.val (.int p1), .val (.int p2), .val (.int p3), .val (.int p4), .val (.int (1 : Int32)), .val (.ref b13), .val (.ref b15), .val (.ref b17), .unset, .unset] [(.ref b17)])
    refine GlW.st (fun _ kk => XS.iload X21.here hx rfl (hb hby at_99) rfl kk) ?_
    show GlW Z ([] : List (String × Nat)) p e below s _ _ _ T21 (mkF m 101 #[.val (.int p1), .val (.int p2), .val (.int p3), .val (.int p4), .val (.int (1 : Int32)), .val (.ref b13), .val (.ref b15), .val (.ref b17), .unset, .unset] [(.int (1 : Int32)), (.ref b17)])
    refine GlW.st (fun _ kk => XS.iloadN X21.here hx rfl (hb hby at_101) rfl kk) ?_
    show GlW Z ([] : List (String × Nat)) p e below s _ _ _ T21 (mkF m 102 #[.val (.int p1), .val (.int p2), .val (.int p3), .val (.int p4), .val (.int (1 : Int32)), .val (.ref b13), .val (.ref b15), .val (.ref b17), .unset, .unset] [(.int p2), (.int (1 : Int32)), (.ref b17)])
    refine GlW.st (fun _ kk => XS.iloadN X21.here hx rfl (hb hby at_102) rfl kk) ?_
    show GlW Z ([] : List (String × Nat)) p e below s _ _ _ T21 (mkF m 103 #[.val (.int p1), .val (.int p2), .val (.int p3), .val (.int p4), .val (.int (1 : Int32)), .val (.ref b13), .val (.ref b15), .val (.ref b17), .unset, .unset] [(.int p3), (.int p2), (.int (1 : Int32)), (.ref b17)])
    refine GlW.st (fun _ kk => XS.iloadN X21.here hx rfl (hb hby at_103) rfl kk) ?_
    show GlW Z ([] : List (String × Nat)) p e below s _ _ _ T21 (mkF m 104 #[.val (.int p1), .val (.int p2), .val (.int p3), .val (.int p4), .val (.int (1 : Int32)), .val (.ref b13), .val (.ref b15), .val (.ref b17), .unset, .unset] [(.int p4), (.int p3), (.int p2), (.int (1 : Int32)), (.ref b17)])
    obtain ⟨v22, _, ⟨T22, L22, kQ22, nQ22⟩, -, X22, ⟨Lc22, hQ22, l22, y22, z22⟩, st22⟩ := Jvm.LawKit.callS X21 hx (y := (⟨"com/example/tarry/tarry/MessageBytesPinLaw", "same", "([BIIII)Z"⟩ : MethodName)) hown (mvT hZ (hw _ (List.mem_of_getElem? (i := 80) rfl))) (mvT hZ (hw _ (List.mem_of_getElem? (i := 81) rfl))) (mvT hZ (hw _ (List.mem_of_getElem? (i := 53) rfl))) (mvT hZ (hw _ (List.mem_of_getElem? (i := 82) rfl))) (by decide) (backOf (W := 0) (rmS1 l Z a0 hw [] b17 p2 p3 p4 ka13 h17 n0 O17 Arv_b17) hZ (hw _ (List.mem_of_getElem? (i := 82) rfl)) (hw _ (List.mem_of_getElem? (i := 53) rfl)) (by decide) (by decide)) (g := (mkF m 104 #[.val (.int p1), .val (.int p2), .val (.int p3), .val (.int p4), .val (.int (1 : Int32)), .val (.ref b13), .val (.ref b15), .val (.ref b17), .unset, .unset] [(.int p4), (.int p3), (.int p2), (.int (1 : Int32)), (.ref b17)])) rfl (by rw [hml]; rfl) (argsL := [(.ref b17), (.int (1 : Int32)), (.int p2), (.int p3), (.int p4)]) (rest := []) (lenOf pd_rm0_5 rfl) rfl (by show 2 * 0 + _ ≤ _; exact Nat.le_of_eq rfl) (hb hby at_104) (fun _ _ => ⟨rfl, e21, (by decide : 6 + 0 ≤ _), (by decide : 29 + 0 ≤ _)⟩)
    dsimp only [Pt.U, Pt.locs, Pt.cells, Pt.slots] at X22 l22 y22 z22 st22 hQ22
    subst l22 y22 z22
    obtain ⟨rfl, Nq22, e22⟩ := hQ22
    have N22 := Fr.app N21 Nq22
    refine GlW.st st22 ?_
    show GlW Z ([] : List (String × Nat)) p e below s _ _ _ T22 (mkF m 107 #[.val (.int p1), .val (.int p2), .val (.int p3), .val (.int p4), .val (.int (1 : Int32)), .val (.ref b13), .val (.ref b15), .val (.ref b17), .unset, .unset] [(.int (1 : Int32))])
    refine GlW.st (fun _ kk => XS.ifNo X22.here hx rfl (hb hby at_107) rfl ((if0 _ _).trans (feq (by decide : ¬ ((1 : Int32) = (0 : Int32)))).1) kk) ?_
    show GlW Z ([] : List (String × Nat)) p e below s _ _ _ T22 (mkF m 110 #[.val (.int p1), .val (.int p2), .val (.int p3), .val (.int p4), .val (.int (1 : Int32)), .val (.ref b13), .val (.ref b15), .val (.ref b17), .unset, .unset] [])
    refine GlW.st (fun _ kk => XS.iconst X22.here hx rfl (hb hby at_110) kk) ?_
    show GlW Z ([] : List (String × Nat)) p e below s _ _ _ T22 (mkF m 111 #[.val (.int p1), .val (.int p2), .val (.int p3), .val (.int p4), .val (.int (1 : Int32)), .val (.ref b13), .val (.ref b15), .val (.ref b17), .unset, .unset] [(.int (1 : Int32))])
    refine GlW.st (fun _ kk => XS.goto X22.here hx rfl (pc0 := 111) (pc' := 115) rfl (hb hby at_111) (by decide) (by decide) kk) ?_
    show GlW Z ([] : List (String × Nat)) p e below s _ _ _ T22 (mkF m 115 #[.val (.int p1), .val (.int p2), .val (.int p3), .val (.int p4), .val (.int (1 : Int32)), .val (.ref b13), .val (.ref b15), .val (.ref b17), .unset, .unset] [(.int (1 : Int32))])
    refine GlW.st (fun _ kk => XS.istore X22.here hx rfl (hb hby at_115) rfl (l' := #[.val (.int p1), .val (.int p2), .val (.int p3), .val (.int p4), .val (.int (1 : Int32)), .val (.ref b13), .val (.ref b15), .val (.ref b17), .val (.int (1 : Int32)), .unset]) rfl kk) ?_
    show GlW Z ([] : List (String × Nat)) p e below s _ _ _ T22 (mkF m 117 #[.val (.int p1), .val (.int p2), .val (.int p3), .val (.int p4), .val (.int (1 : Int32)), .val (.ref b13), .val (.ref b15), .val (.ref b17), .val (.int (1 : Int32)), .unset] [])
    refine GlW.st (fun _ kk => XS.aload X22.here hx rfl (hb hby at_117) rfl rfl kk) ?_
    show GlW Z ([] : List (String × Nat)) p e below s _ _ _ T22 (mkF m 119 #[.val (.int p1), .val (.int p2), .val (.int p3), .val (.int p4), .val (.int (1 : Int32)), .val (.ref b13), .val (.ref b15), .val (.ref b17), .val (.int (1 : Int32)), .unset] [(.ref b17)])
    obtain ⟨v23, _, ⟨T23, L23, kQ23, nQ23⟩, -, X23, ⟨Lc23, hQ23, l23, y23, z23⟩, st23⟩ := Jvm.LawKit.callS X22 hx (y := (⟨"com/example/tarry/tarry/MessageBytesPinLaw", "flip", "([B)V"⟩ : MethodName)) hown (mvT hZ (hw _ (List.mem_of_getElem? (i := 51) rfl))) (mvT hZ (hw _ (List.mem_of_getElem? (i := 52) rfl))) (mvT hZ (hw _ (List.mem_of_getElem? (i := 53) rfl))) (mvT hZ (hw _ (List.mem_of_getElem? (i := 54) rfl))) (by decide) (backOf (W := 0) (rmF1 l Z a0 hw [] b17 ka13 p2 h17 n0 O17 Arv_b17 ge_b17) hZ (hw _ (List.mem_of_getElem? (i := 54) rfl)) (hw _ (List.mem_of_getElem? (i := 53) rfl)) (by decide) (by decide)) (g := (mkF m 119 #[.val (.int p1), .val (.int p2), .val (.int p3), .val (.int p4), .val (.int (1 : Int32)), .val (.ref b13), .val (.ref b15), .val (.ref b17), .val (.int (1 : Int32)), .unset] [(.ref b17)])) rfl (by rw [hml]; rfl) (argsL := [(.ref b17)]) (rest := []) (lenOf pd_rm0_1 rfl) rfl (by show 2 * 0 + _ ≤ _; exact Nat.le_of_eq rfl) (hb hby at_119) (fun _ _ => ⟨rfl, e22, (by decide : 6 + 0 ≤ _), (by decide : 29 + 0 ≤ _)⟩)
    dsimp only [Pt.U, Pt.locs, Pt.cells, Pt.slots] at X23 l23 y23 z23 st23 hQ23
    subst l23 y23 z23
    obtain ⟨h23, e23⟩ : ∃ z, T23.heap = z := ⟨_, rfl⟩
    rw [e23] at hQ23
    obtain ⟨rfl, Nq23, Kq23⟩ := hQ23
    have N23 := Fr.app N22 Nq23
    refine GlW.st st23 ?_
    have sfk23 : ∀ x ∈ [b17], Safe Z ([] : List (String × Nat)) _ _ x := (allS Sf_b17 all0)
    have Sf_b13 := Safe.keep Kq23 sfk23 HC17.1 Sf_b13
    have Sf_t15 := Safe.keep Kq23 sfk23 HC17.1 Sf_t15
    have Sf_b17 := Safe.keep Kq23 sfk23 HC17.1 Sf_b17
    have HC23 := HC17.trans (CHr.keep Kq23 sfk23 HC17.1)
    have hk23 := Nat.le_trans hk17 Kq23.1
    have Exa_b13 := Exa_b13.keep Kq23
    have Exa_b15 := Exa_b15.keep Kq23
    have Arv_t15 := Arv_t15.keep Kq23 (ninS ne_t15_b17 nin0)
    have Exa_t15 := Exa_t15.keep Kq23
    have F_text_b15 := F_text_b15.keep Kq23 (ninS ne_b15_b17 nin0)
    have F_bytes_b15 := F_bytes_b15.keep Kq23 (ninS ne_b15_b17 nin0)
    have F_headers_b15 := F_headers_b15.keep Kq23 (ninS ne_b15_b17 nin0)
    have F_messageId_b15 := F_messageId_b15.keep Kq23 (ninS ne_b15_b17 nin0)
    have F_correlationId_b15 := F_correlationId_b15.keep Kq23 (ninS ne_b15_b17 nin0)
    have F_replyTo_b15 := F_replyTo_b15.keep Kq23 (ninS ne_b15_b17 nin0)
    have O23 := O17.keep Kq23 (allS ge_b17 all0)
    have K23 := K17.trans Kq23 (allS (Or.inr fr_b17) all0)
    show GlW Z ([] : List (String × Nat)) p e below s _ _ _ T23 (mkF m 122 #[.val (.int p1), .val (.int p2), .val (.int p3), .val (.int p4), .val (.int (1 : Int32)), .val (.ref b13), .val (.ref b15), .val (.ref b17), .val (.int (1 : Int32)), .unset] [])
    refine GlW.st (fun _ kk => XS.aload X23.here hx rfl (hb hby at_122) rfl rfl kk) ?_
    show GlW Z ([] : List (String × Nat)) p e below s _ _ _ T23 (mkF m 124 #[.val (.int p1), .val (.int p2), .val (.int p3), .val (.int p4), .val (.int (1 : Int32)), .val (.ref b13), .val (.ref b15), .val (.ref b17), .val (.int (1 : Int32)), .unset] [(.ref b15)])
    obtain ⟨cq24, kq24, qa24, qb24, qc24⟩ := isOf hZ e23 Exa_b15
    have lq24_b13 := Exa_b13.lt
    have lq24_b15 := Exa_b15.lt
    have lq24_t15 := Arv_t15.lt
    obtain ⟨v24, _, ⟨T24, L24, kQ24, nQ24⟩, -, X24, ⟨Lc24, hQ24, l24, y24, z24⟩, st24⟩ := X23.virtualBack hx (y := (⟨"com/example/tarry/tarry/Message", "bytes", "()[B"⟩ : MethodName)) (z := (⟨"com/example/tarry/tarry/Message", "bytes", "()[B"⟩ : MethodName)) hown (mvT hZ (hw _ (List.mem_of_getElem? (i := 55) rfl))) (mvT hZ (hw _ (List.mem_of_getElem? (i := 56) rfl))) (notFace_of_selects (args := #[]) (mvT hZ (hw _ (List.mem_of_getElem? (i := 58) rfl)))) (mvT hZ (hw _ (List.mem_of_getElem? (i := 58) rfl))) (mvT hZ (hw _ (List.mem_of_getElem? (i := 57) rfl))) (by decide) (backOf (W := 0) (rmG1 l Z a0 hw [] b15 t15 ka13 p2 h23 n0 O23 F_bytes_b15 Arv_t15 Exa_t15) hZ (hw _ (List.mem_of_getElem? (i := 59) rfl)) (hw _ (List.mem_of_getElem? (i := 3) rfl)) (by decide) (by decide)) qa24 qc24 (g := (mkF m 124 #[.val (.int p1), .val (.int p2), .val (.int p3), .val (.int p4), .val (.int (1 : Int32)), .val (.ref b13), .val (.ref b15), .val (.ref b17), .val (.int (1 : Int32)), .unset] [(.ref b15)])) rfl (by rw [hml]; rfl) (Steps.refl _) (argsL := []) (rest := []) (lenOf pd_rm0_2 rfl) rfl (by show 2 * 0 + _ ≤ _; exact Nat.le_of_eq rfl) (hb hby at_124) (fun _ _ => ⟨rfl, e23, (by decide : 6 + 1 ≤ _), (by decide : 29 + 1 ≤ _)⟩)
    dsimp only [Pt.U, Pt.locs, Pt.cells, Pt.slots] at X24 l24 y24 z24 st24 hQ24
    subst l24 y24 z24
    obtain ⟨h24, e24⟩ : ∃ z, T24.heap = z := ⟨_, rfl⟩
    rw [e24] at hQ24
    obtain ⟨b24, rfl, Nq24, Kq24, Arv_b24, frb24⟩ := hQ24
    have N24 := Fr.app N23 Nq24
    refine GlW.st (fun _ kk => st24.trans kk) ?_
    have sfk24 : ∀ x ∈ ([] : List Addr), Safe Z ([] : List (String × Nat)) T15.vm h23 x := all0
    have Sf_b13 := Safe.keep Kq24 sfk24 HC23.1 Sf_b13
    have Sf_t15 := Safe.keep Kq24 sfk24 HC23.1 Sf_t15
    have Sf_b17 := Safe.keep Kq24 sfk24 HC23.1 Sf_b17
    have HC24 := HC23.trans (CHr.keep Kq24 sfk24 HC23.1)
    have hk24 := Nat.le_trans hk23 Kq24.1
    have Exa_b13 := Exa_b13.keep Kq24
    have Exa_b15 := Exa_b15.keep Kq24
    have Arv_t15 := Arv_t15.keep Kq24 nin0
    have Exa_t15 := Exa_t15.keep Kq24
    have F_text_b15 := F_text_b15.keep Kq24 nin0
    have F_bytes_b15 := F_bytes_b15.keep Kq24 nin0
    have F_headers_b15 := F_headers_b15.keep Kq24 nin0
    have F_messageId_b15 := F_messageId_b15.keep Kq24 nin0
    have F_correlationId_b15 := F_correlationId_b15.keep Kq24 nin0
    have F_replyTo_b15 := F_replyTo_b15.keep Kq24 nin0
    have O24 := O23.keep Kq24 all0
    have K24 := K23.trans Kq24 all0
    have ne_b13_b24 : b13 ≠ b24 := Nat.ne_of_lt (Nat.lt_of_lt_of_le lq24_b13 frb24)
    have ne_b15_b24 : b15 ≠ b24 := Nat.ne_of_lt (Nat.lt_of_lt_of_le lq24_b15 frb24)
    have ne_t15_b24 : t15 ≠ b24 := Nat.ne_of_lt (Nat.lt_of_lt_of_le lq24_t15 frb24)
    have ge_b24 : n0 ≤ b24 := Nat.le_trans (Nat.le_trans (Nat.le_of_eq O23.1.symm) O23.2.1) frb24
    have fr_b24 : h0.size ≤ b24 := Nat.le_trans K23.1 frb24
    have Sf_b24 : Safe Z ([] : List (String × Nat)) T15.vm h24 b24 := fun B => by obtain ⟨_, hm, _⟩ := B; cases hm
    show GlW Z ([] : List (String × Nat)) p e below s _ _ _ T24 (mkF m 127 #[.val (.int p1), .val (.int p2), .val (.int p3), .val (.int p4), .val (.int (1 : Int32)), .val (.ref b13), .val (.ref b15), .val (.ref b17), .val (.int (1 : Int32)), .unset] [(.ref b24)])
    refine GlW.st (fun _ kk => XS.astore X24.here hx rfl (hb hby at_127) rfl rfl (l' := #[.val (.int p1), .val (.int p2), .val (.int p3), .val (.int p4), .val (.int (1 : Int32)), .val (.ref b13), .val (.ref b15), .val (.ref b17), .val (.int (1 : Int32)), .val (.ref b24)]) rfl kk) ?_
    show GlW Z ([] : List (String × Nat)) p e below s _ _ _ T24 (mkF m 129 #[.val (.int p1), .val (.int p2), .val (.int p3), .val (.int p4), .val (.int (1 : Int32)), .val (.ref b13), .val (.ref b15), .val (.ref b17), .val (.int (1 : Int32)), .val (.ref b24)] [])
    refine GlW.st (fun _ kk => XS.iload X24.here hx rfl (hb hby at_129) rfl kk) ?_
    show GlW Z ([] : List (String × Nat)) p e below s _ _ _ T24 (mkF m 131 #[.val (.int p1), .val (.int p2), .val (.int p3), .val (.int p4), .val (.int (1 : Int32)), .val (.ref b13), .val (.ref b15), .val (.ref b17), .val (.int (1 : Int32)), .val (.ref b24)] [(.int (1 : Int32))])
    refine GlW.st (fun _ kk => XS.ifNo X24.here hx rfl (hb hby at_131) rfl ((if0 _ _).trans (feq (by decide : ¬ ((1 : Int32) = (0 : Int32)))).1) kk) ?_
    show GlW Z ([] : List (String × Nat)) p e below s _ _ _ T24 (mkF m 134 #[.val (.int p1), .val (.int p2), .val (.int p3), .val (.int p4), .val (.int (1 : Int32)), .val (.ref b13), .val (.ref b15), .val (.ref b17), .val (.int (1 : Int32)), .val (.ref b24)] [])
    refine GlW.st (fun _ kk => XS.aload X24.here hx rfl (hb hby at_134) rfl rfl kk) ?_
    show GlW Z ([] : List (String × Nat)) p e below s _ _ _ T24 (mkF m 136 #[.val (.int p1), .val (.int p2), .val (.int p3), .val (.int p4), .val (.int (1 : Int32)), .val (.ref b13), .val (.ref b15), .val (.ref b17), .val (.int (1 : Int32)), .val (.ref b24)] [(.ref b24)])
    refine GlW.st (fun _ kk => XS.iload X24.here hx rfl (hb hby at_136) rfl kk) ?_
    show GlW Z ([] : List (String × Nat)) p e below s _ _ _ T24 (mkF m 138 #[.val (.int p1), .val (.int p2), .val (.int p3), .val (.int p4), .val (.int (1 : Int32)), .val (.ref b13), .val (.ref b15), .val (.ref b17), .val (.int (1 : Int32)), .val (.ref b24)] [(.int (1 : Int32)), (.ref b24)])
    refine GlW.st (fun _ kk => XS.iloadN X24.here hx rfl (hb hby at_138) rfl kk) ?_
    show GlW Z ([] : List (String × Nat)) p e below s _ _ _ T24 (mkF m 139 #[.val (.int p1), .val (.int p2), .val (.int p3), .val (.int p4), .val (.int (1 : Int32)), .val (.ref b13), .val (.ref b15), .val (.ref b17), .val (.int (1 : Int32)), .val (.ref b24)] [(.int p2), (.int (1 : Int32)), (.ref b24)])
    refine GlW.st (fun _ kk => XS.iloadN X24.here hx rfl (hb hby at_139) rfl kk) ?_
    show GlW Z ([] : List (String × Nat)) p e below s _ _ _ T24 (mkF m 140 #[.val (.int p1), .val (.int p2), .val (.int p3), .val (.int p4), .val (.int (1 : Int32)), .val (.ref b13), .val (.ref b15), .val (.ref b17), .val (.int (1 : Int32)), .val (.ref b24)] [(.int p3), (.int p2), (.int (1 : Int32)), (.ref b24)])
    refine GlW.st (fun _ kk => XS.iloadN X24.here hx rfl (hb hby at_140) rfl kk) ?_
    show GlW Z ([] : List (String × Nat)) p e below s _ _ _ T24 (mkF m 141 #[.val (.int p1), .val (.int p2), .val (.int p3), .val (.int p4), .val (.int (1 : Int32)), .val (.ref b13), .val (.ref b15), .val (.ref b17), .val (.int (1 : Int32)), .val (.ref b24)] [(.int p4), (.int p3), (.int p2), (.int (1 : Int32)), (.ref b24)])
    obtain ⟨v25, _, ⟨T25, L25, kQ25, nQ25⟩, -, X25, ⟨Lc25, hQ25, l25, y25, z25⟩, st25⟩ := Jvm.LawKit.callS X24 hx (y := (⟨"com/example/tarry/tarry/MessageBytesPinLaw", "same", "([BIIII)Z"⟩ : MethodName)) hown (mvT hZ (hw _ (List.mem_of_getElem? (i := 80) rfl))) (mvT hZ (hw _ (List.mem_of_getElem? (i := 81) rfl))) (mvT hZ (hw _ (List.mem_of_getElem? (i := 53) rfl))) (mvT hZ (hw _ (List.mem_of_getElem? (i := 82) rfl))) (by decide) (backOf (W := 0) (rmS1 l Z a0 hw [] b24 p2 p3 p4 ka13 h24 n0 O24 Arv_b24) hZ (hw _ (List.mem_of_getElem? (i := 82) rfl)) (hw _ (List.mem_of_getElem? (i := 53) rfl)) (by decide) (by decide)) (g := (mkF m 141 #[.val (.int p1), .val (.int p2), .val (.int p3), .val (.int p4), .val (.int (1 : Int32)), .val (.ref b13), .val (.ref b15), .val (.ref b17), .val (.int (1 : Int32)), .val (.ref b24)] [(.int p4), (.int p3), (.int p2), (.int (1 : Int32)), (.ref b24)])) rfl (by rw [hml]; rfl) (argsL := [(.ref b24), (.int (1 : Int32)), (.int p2), (.int p3), (.int p4)]) (rest := []) (lenOf pd_rm0_5 rfl) rfl (by show 2 * 0 + _ ≤ _; exact Nat.le_of_eq rfl) (hb hby at_141) (fun _ _ => ⟨rfl, e24, (by decide : 7 + 0 ≤ _), (by decide : 30 + 0 ≤ _)⟩)
    dsimp only [Pt.U, Pt.locs, Pt.cells, Pt.slots] at X25 l25 y25 z25 st25 hQ25
    subst l25 y25 z25
    obtain ⟨rfl, Nq25, e25⟩ := hQ25
    have N25 := Fr.app N24 Nq25
    refine GlW.st st25 ?_
    show GlW Z ([] : List (String × Nat)) p e below s _ _ _ T25 (mkF m 144 #[.val (.int p1), .val (.int p2), .val (.int p3), .val (.int p4), .val (.int (1 : Int32)), .val (.ref b13), .val (.ref b15), .val (.ref b17), .val (.int (1 : Int32)), .val (.ref b24)] [(.int (1 : Int32))])
    refine GlW.st (fun _ kk => XS.ifNo X25.here hx rfl (hb hby at_144) rfl ((if0 _ _).trans (feq (by decide : ¬ ((1 : Int32) = (0 : Int32)))).1) kk) ?_
    show GlW Z ([] : List (String × Nat)) p e below s _ _ _ T25 (mkF m 147 #[.val (.int p1), .val (.int p2), .val (.int p3), .val (.int p4), .val (.int (1 : Int32)), .val (.ref b13), .val (.ref b15), .val (.ref b17), .val (.int (1 : Int32)), .val (.ref b24)] [])
    refine GlW.st (fun _ kk => XS.iconst X25.here hx rfl (hb hby at_147) kk) ?_
    show GlW Z ([] : List (String × Nat)) p e below s _ _ _ T25 (mkF m 148 #[.val (.int p1), .val (.int p2), .val (.int p3), .val (.int p4), .val (.int (1 : Int32)), .val (.ref b13), .val (.ref b15), .val (.ref b17), .val (.int (1 : Int32)), .val (.ref b24)] [(.int (1 : Int32))])
    refine GlW.st (fun _ kk => XS.goto X25.here hx rfl (pc0 := 148) (pc' := 152) rfl (hb hby at_148) (by decide) (by decide) kk) ?_
    show GlW Z ([] : List (String × Nat)) p e below s _ _ _ T25 (mkF m 152 #[.val (.int p1), .val (.int p2), .val (.int p3), .val (.int p4), .val (.int (1 : Int32)), .val (.ref b13), .val (.ref b15), .val (.ref b17), .val (.int (1 : Int32)), .val (.ref b24)] [(.int (1 : Int32))])
    exact GlW.ret X25 hS15 hk24 hZ hEL hh0 HC24 (v := (some (.int (1 : Int32)))) (fun h => by rw [Bd.returns] at h; cases h) (BodyLoose.notSynchronized Bd) (fun hr => retN X25 hx (t := .boolean) Bd.returns (by simp) (hb hby at_152) hr) e25 ⟨rfl, N25⟩ (by decide) (by decide)
  · rw [hk]
    show GlW Z ([] : List (String × Nat)) p e below s _ _ _ s₁ (mkF m 5 #[.val (.int p1), .val (.int p2), .val (.int p3), .val (.int p4), .val (.int (2 : Int32)), .unset, .unset, .unset, .unset, .unset] [])
    refine GlW.st (fun _ kk => XS.iload X0.here hx rfl (hb hby at_5) rfl kk) ?_
    show GlW Z ([] : List (String × Nat)) p e below s _ _ _ s₁ (mkF m 7 #[.val (.int p1), .val (.int p2), .val (.int p3), .val (.int p4), .val (.int (2 : Int32)), .unset, .unset, .unset, .unset, .unset] [(.int (2 : Int32))])
    obtain ⟨T26, h26, ka26, X26, e26, E26, A26, Ax26, st26⟩ := newPE X0 hx hZ (hw _ (List.mem_of_getElem? (i := 0) rfl)) e0 (g := (mkF m 7 #[.val (.int p1), .val (.int p2), .val (.int p3), .val (.int p4), .val (.int (2 : Int32)), .unset, .unset, .unset, .unset, .unset] [(.int (2 : Int32))])) rfl (hb hby at_7) rfl (by decide) (cap := 2) (by decide) (by decide) (by decide) (by decide) (ad := "[B") (by decide)
    obtain ⟨b26, g26⟩ : ∃ z, z = h0.size := ⟨_, rfl⟩
    rw [← g26] at A26 Ax26 st26
    refine GlW.st st26 ?_
    have ge_b26 : n0 ≤ b26 := Nat.le_trans (Nat.le_trans (Nat.le_of_eq O0.1.symm) O0.2.1) (Nat.le_of_eq g26.symm)
    have fr_b26 : h0.size ≤ b26 := Nat.le_trans (Nat.le_refl _) (Nat.le_of_eq g26.symm)
    have Sf_b26 : Safe Z ([] : List (String × Nat)) s.vm h0 b26 := Safe.new (Nat.le_of_eq g26.symm)
    have Sf_b26 := Safe.ext E26 HC0.1 Sf_b26
    have HC26 := HC0.trans (CHr.ext E26 HC0.1)
    have hk26 := Nat.le_trans hk0 E26.1
    have O26 := O0.ext E26
    have K26 := (Keep.refl h0 []).ext E26
    have Arv_b26 : Arv Z h26 b26 ka26 .byte (2 : Int32) [(.int (0 : Int32)), (.int (0 : Int32))] (.int (0 : Int32)) := (Arv.new A26 (by decide)).pad (pad_rep [] (.int (0 : Int32)) 2)
    have Exa_b26 := Ax26
    show GlW Z ([] : List (String × Nat)) p e below s _ _ _ T26 (mkF m 9 #[.val (.int p1), .val (.int p2), .val (.int p3), .val (.int p4), .val (.int (2 : Int32)), .unset, .unset, .unset, .unset, .unset] [(.ref b26)])
    refine GlW.st (fun _ kk => XS.astore X26.here hx rfl (hb hby at_9) rfl rfl (l' := #[.val (.int p1), .val (.int p2), .val (.int p3), .val (.int p4), .val (.int (2 : Int32)), .val (.ref b26), .unset, .unset, .unset, .unset]) rfl kk) ?_
    show GlW Z ([] : List (String × Nat)) p e below s _ _ _ T26 (mkF m 11 #[.val (.int p1), .val (.int p2), .val (.int p3), .val (.int p4), .val (.int (2 : Int32)), .val (.ref b26), .unset, .unset, .unset, .unset] [])
    refine GlW.st (fun _ kk => XS.iload X26.here hx rfl (hb hby at_11) rfl kk) ?_
    show GlW Z ([] : List (String × Nat)) p e below s _ _ _ T26 (mkF m 13 #[.val (.int p1), .val (.int p2), .val (.int p3), .val (.int p4), .val (.int (2 : Int32)), .val (.ref b26), .unset, .unset, .unset, .unset] [(.int (2 : Int32))])
    refine GlW.st (fun _ kk => XS.ifNo X26.here hx rfl (hb hby at_13) rfl ((if0 _ _).trans (tlt (by decide : (0 : Int32) < (2 : Int32))).2.2.2) kk) ?_
    show GlW Z ([] : List (String × Nat)) p e below s _ _ _ T26 (mkF m 16 #[.val (.int p1), .val (.int p2), .val (.int p3), .val (.int p4), .val (.int (2 : Int32)), .val (.ref b26), .unset, .unset, .unset, .unset] [])
    refine GlW.st (fun _ kk => XS.aload X26.here hx rfl (hb hby at_16) rfl rfl kk) ?_
    show GlW Z ([] : List (String × Nat)) p e below s _ _ _ T26 (mkF m 18 #[.val (.int p1), .val (.int p2), .val (.int p3), .val (.int p4), .val (.int (2 : Int32)), .val (.ref b26), .unset, .unset, .unset, .unset] [(.ref b26)])
    refine GlW.st (fun _ kk => XS.iconst X26.here hx rfl (hb hby at_18) kk) ?_
    show GlW Z ([] : List (String × Nat)) p e below s _ _ _ T26 (mkF m 19 #[.val (.int p1), .val (.int p2), .val (.int p3), .val (.int p4), .val (.int (2 : Int32)), .val (.ref b26), .unset, .unset, .unset, .unset] [(.int (0 : Int32)), (.ref b26)])
    refine GlW.st (fun _ kk => XS.iloadN X26.here hx rfl (hb hby at_19) rfl kk) ?_
    show GlW Z ([] : List (String × Nat)) p e below s _ _ _ T26 (mkF m 20 #[.val (.int p1), .val (.int p2), .val (.int p3), .val (.int p4), .val (.int (2 : Int32)), .val (.ref b26), .unset, .unset, .unset, .unset] [(.int p2), (.int (0 : Int32)), (.ref b26)])
    refine GlW.st (fun _ kk => XS.i2b X26.here hx rfl (hb hby at_20) rfl kk) ?_
    show GlW Z ([] : List (String × Nat)) p e below s _ _ _ T26 (mkF m 21 #[.val (.int p1), .val (.int p2), .val (.int p3), .val (.int p4), .val (.int (2 : Int32)), .val (.ref b26), .unset, .unset, .unset, .unset] [(.int (p2.toInt8.toInt32)), (.int (0 : Int32)), (.ref b26)])
    obtain ⟨cl27, Ar27, q27, Sz27, Ng27, Ha27, Fi27⟩ := id Arv_b26
    have hin27 : ¬ ((0 : Int32) < 0 ∨ cl27.slots.size ≤ ((0 : Int32)).toNatClampNeg) := inb_of Sz27 ⟨by decide, by decide⟩
    obtain ⟨T27, h27, X27, e27, W27, st27⟩ := stB X26 hx hZ e26 Ar27 (j := (0 : Int32)) hin27 (g := (mkF m 21 #[.val (.int p1), .val (.int p2), .val (.int p3), .val (.int p4), .val (.int (2 : Int32)), .val (.ref b26), .unset, .unset, .unset, .unset] [(.int (p2.toInt8.toInt32)), (.int (0 : Int32)), (.ref b26)])) rfl rfl (hb hby at_21)
    refine GlW.st st27 ?_
    have Arv_b26 : Arv Z h27 b26 ka26 .byte (2 : Int32) [(.int (nar .byte (p2.toInt8.toInt32))), (.int (0 : Int32))] (.int (0 : Int32)) := Arv.set Ar27 q27 Sz27 Ng27 Ha27 Fi27 (fits_nar_byte _) W27 0 rfl (Nat.le_of_ble_eq_true rfl)
    rw [own_nar8] at Arv_b26
    have sfw27 := Sf_b26
    have Sf_b26 := Safe.wr W27 sfw27 HC26.1 Sf_b26
    have HC27 := HC26.trans (CHr.wr W27 sfw27 HC26.1)
    have hk27 := Nat.le_trans hk26 (Nat.le_of_eq W27.size.symm)
    have Exa_b26 := Exa_b26.wr W27
    have O27 := O26.wr W27 ge_b26
    have K27 := K26.wr W27 (Or.inr fr_b26)
    have N27 := Fr.snoc X27 N0 ge_b26
    show GlW Z ([] : List (String × Nat)) p e below s _ _ _ T27 (mkF m 22 #[.val (.int p1), .val (.int p2), .val (.int p3), .val (.int p4), .val (.int (2 : Int32)), .val (.ref b26), .unset, .unset, .unset, .unset] [])
    refine GlW.st (fun _ kk => XS.iload X27.here hx rfl (hb hby at_22) rfl kk) ?_
    show GlW Z ([] : List (String × Nat)) p e below s _ _ _ T27 (mkF m 24 #[.val (.int p1), .val (.int p2), .val (.int p3), .val (.int p4), .val (.int (2 : Int32)), .val (.ref b26), .unset, .unset, .unset, .unset] [(.int (2 : Int32))])
    refine GlW.st (fun _ kk => XS.iconst X27.here hx rfl (hb hby at_24) kk) ?_
    show GlW Z ([] : List (String × Nat)) p e below s _ _ _ T27 (mkF m 25 #[.val (.int p1), .val (.int p2), .val (.int p3), .val (.int p4), .val (.int (2 : Int32)), .val (.ref b26), .unset, .unset, .unset, .unset] [(.int (1 : Int32)), (.int (2 : Int32))])
    refine GlW.st (fun _ kk => XS.icmpNo X27.here hx rfl (hb hby at_25) rfl (tlt (by decide : (1 : Int32) < (2 : Int32))).2.2.2 kk) ?_
    show GlW Z ([] : List (String × Nat)) p e below s _ _ _ T27 (mkF m 28 #[.val (.int p1), .val (.int p2), .val (.int p3), .val (.int p4), .val (.int (2 : Int32)), .val (.ref b26), .unset, .unset, .unset, .unset] [])
    refine GlW.st (fun _ kk => XS.aload X27.here hx rfl (hb hby at_28) rfl rfl kk) ?_
    show GlW Z ([] : List (String × Nat)) p e below s _ _ _ T27 (mkF m 30 #[.val (.int p1), .val (.int p2), .val (.int p3), .val (.int p4), .val (.int (2 : Int32)), .val (.ref b26), .unset, .unset, .unset, .unset] [(.ref b26)])
    refine GlW.st (fun _ kk => XS.iconst X27.here hx rfl (hb hby at_30) kk) ?_
    show GlW Z ([] : List (String × Nat)) p e below s _ _ _ T27 (mkF m 31 #[.val (.int p1), .val (.int p2), .val (.int p3), .val (.int p4), .val (.int (2 : Int32)), .val (.ref b26), .unset, .unset, .unset, .unset] [(.int (1 : Int32)), (.ref b26)])
    refine GlW.st (fun _ kk => XS.iloadN X27.here hx rfl (hb hby at_31) rfl kk) ?_
    show GlW Z ([] : List (String × Nat)) p e below s _ _ _ T27 (mkF m 32 #[.val (.int p1), .val (.int p2), .val (.int p3), .val (.int p4), .val (.int (2 : Int32)), .val (.ref b26), .unset, .unset, .unset, .unset] [(.int p3), (.int (1 : Int32)), (.ref b26)])
    refine GlW.st (fun _ kk => XS.i2b X27.here hx rfl (hb hby at_32) rfl kk) ?_
    show GlW Z ([] : List (String × Nat)) p e below s _ _ _ T27 (mkF m 33 #[.val (.int p1), .val (.int p2), .val (.int p3), .val (.int p4), .val (.int (2 : Int32)), .val (.ref b26), .unset, .unset, .unset, .unset] [(.int (p3.toInt8.toInt32)), (.int (1 : Int32)), (.ref b26)])
    obtain ⟨cl28, Ar28, q28, Sz28, Ng28, Ha28, Fi28⟩ := id Arv_b26
    have hin28 : ¬ ((1 : Int32) < 0 ∨ cl28.slots.size ≤ ((1 : Int32)).toNatClampNeg) := inb_of Sz28 ⟨by decide, by decide⟩
    obtain ⟨T28, h28, X28, e28, W28, st28⟩ := stB X27 hx hZ e27 Ar28 (j := (1 : Int32)) hin28 (g := (mkF m 33 #[.val (.int p1), .val (.int p2), .val (.int p3), .val (.int p4), .val (.int (2 : Int32)), .val (.ref b26), .unset, .unset, .unset, .unset] [(.int (p3.toInt8.toInt32)), (.int (1 : Int32)), (.ref b26)])) rfl rfl (hb hby at_33)
    refine GlW.st st28 ?_
    have Arv_b26 : Arv Z h28 b26 ka26 .byte (2 : Int32) [(.int (p2.toInt8.toInt32)), (.int (nar .byte (p3.toInt8.toInt32)))] (.int (0 : Int32)) := Arv.set Ar28 q28 Sz28 Ng28 Ha28 Fi28 (fits_nar_byte _) W28 1 rfl (Nat.le_of_ble_eq_true rfl)
    rw [own_nar8] at Arv_b26
    have sfw28 := Sf_b26
    have Sf_b26 := Safe.wr W28 sfw28 HC27.1 Sf_b26
    have HC28 := HC27.trans (CHr.wr W28 sfw28 HC27.1)
    have hk28 := Nat.le_trans hk27 (Nat.le_of_eq W28.size.symm)
    have Exa_b26 := Exa_b26.wr W28
    have O28 := O27.wr W28 ge_b26
    have K28 := K27.wr W28 (Or.inr fr_b26)
    have N28 := Fr.snoc X28 N27 ge_b26
    show GlW Z ([] : List (String × Nat)) p e below s _ _ _ T28 (mkF m 34 #[.val (.int p1), .val (.int p2), .val (.int p3), .val (.int p4), .val (.int (2 : Int32)), .val (.ref b26), .unset, .unset, .unset, .unset] [])
    refine GlW.st (fun _ kk => XS.iload X28.here hx rfl (hb hby at_34) rfl kk) ?_
    show GlW Z ([] : List (String × Nat)) p e below s _ _ _ T28 (mkF m 36 #[.val (.int p1), .val (.int p2), .val (.int p3), .val (.int p4), .val (.int (2 : Int32)), .val (.ref b26), .unset, .unset, .unset, .unset] [(.int (2 : Int32))])
    refine GlW.st (fun _ kk => XS.iconst X28.here hx rfl (hb hby at_36) kk) ?_
    show GlW Z ([] : List (String × Nat)) p e below s _ _ _ T28 (mkF m 37 #[.val (.int p1), .val (.int p2), .val (.int p3), .val (.int p4), .val (.int (2 : Int32)), .val (.ref b26), .unset, .unset, .unset, .unset] [(.int (2 : Int32)), (.int (2 : Int32))])
    refine GlW.st (fun _ kk => XS.icmpYes X28.here hx rfl (pc0 := 37) (pc' := 46) rfl (hb hby at_37) rfl (flt (by decide : ¬ ((2 : Int32) < (2 : Int32)))).2.2.2 (by decide) (by decide) kk) ?_
    show GlW Z ([] : List (String × Nat)) p e below s _ _ _ T28 (mkF m 46 #[.val (.int p1), .val (.int p2), .val (.int p3), .val (.int p4), .val (.int (2 : Int32)), .val (.ref b26), .unset, .unset, .unset, .unset] [])
    refine GlW.st (fun _ kk => XS.aload X28.here hx rfl (hb hby at_46) rfl rfl kk) ?_
    show GlW Z ([] : List (String × Nat)) p e below s _ _ _ T28 (mkF m 48 #[.val (.int p1), .val (.int p2), .val (.int p3), .val (.int p4), .val (.int (2 : Int32)), .val (.ref b26), .unset, .unset, .unset, .unset] [(.ref b26)])
    have lq29_b26 := Arv_b26.lt
    obtain ⟨v29, _, ⟨T29, L29, kQ29, nQ29⟩, -, X29, hSq29, hgq29, ⟨Lc29, hQ29, l29, y29, z29, HR29⟩, st29⟩ := callSS X28 hx (y := (⟨"com/example/tarry/tarry/Message", "bytes", "([B)Lcom/example/tarry/tarry/Message;"⟩ : MethodName)) hown (mvT hZ (hw _ (List.mem_of_getElem? (i := 1) rfl))) (mvT hZ (hw _ (List.mem_of_getElem? (i := 2) rfl))) (mvT hZ (hw _ (List.mem_of_getElem? (i := 3) rfl))) (mvT hZ (hw _ (List.mem_of_getElem? (i := 4) rfl))) (by decide) (backOfSH (W := 0) (rmB2 l Z a0 hw [] b26 ka26 p2 p3 em h28 n0 O28 Arv_b26 Exa_b26 S_EM) hZ (hw _ (List.mem_of_getElem? (i := 4) rfl)) (hw _ (List.mem_of_getElem? (i := 3) rfl)) (by decide) (by decide) hEL HC28.1) (g := (mkF m 48 #[.val (.int p1), .val (.int p2), .val (.int p3), .val (.int p4), .val (.int (2 : Int32)), .val (.ref b26), .unset, .unset, .unset, .unset] [(.ref b26)])) rfl (by rw [hml]; rfl) (argsL := [(.ref b26)]) (rest := []) (lenOf pd_rm0_0 rfl) rfl (by show 2 * 0 + _ ≤ _; exact Nat.le_of_eq rfl) (hb hby at_48) (fun _ _ => ⟨rfl, e28, (by decide : 1 + 4 ≤ _), (by decide : 2 + 28 ≤ _)⟩)
    dsimp only [Pt.U, Pt.locs, Pt.cells, Pt.slots] at X29 l29 y29 z29 st29 hQ29 hSq29 hgq29 HR29
    subst l29 y29 z29
    obtain ⟨h29, e29⟩ : ∃ z, T29.heap = z := ⟨_, rfl⟩
    rw [e29] at hQ29 HR29 hSq29 hgq29
    obtain ⟨b29, t29, rfl, Nq29, Kq29, Exa_b29, F_text_b29, F_bytes_b29, F_headers_b29, F_messageId_b29, F_correlationId_b29, F_replyTo_b29, Arv_t29, Exa_t29, frb29, frt29, nbt29⟩ := hQ29
    rw [e28] at hgq29
    have hS29 := (hS0).trans hSq29 (Nat.le_trans hk28 hgq29)
    have hk29 := Nat.le_refl h29.size
    have hZ29 : Z.Warmed39 T29.vm := State.Warmed39.trans (t := s.setVm s.vm) hZ hSq29.1
    have hown29 : T29.vm.findClass "com/example/tarry/tarry/MessageBytesPinLaw" = some m.cls := by rw [hSq29.1.alike.findClass]; exact hown
    have Sf_b26 := HR29.safe Arv_b26.lt Sf_b26
    have HC29 := HC28.trans HR29
    have hZ := hZ29
    have hown := hown29
    have N29 := Fr.app N28 Nq29
    refine GlW.st (fun _ kk => st29.trans kk) ?_
    have Arv_b26 := Arv_b26.keep Kq29 nin0
    have Exa_b26 := Exa_b26.keep Kq29
    have O29 := O28.keep Kq29 all0
    have K29 := K28.trans Kq29 all0
    have ne_b26_b29 : b26 ≠ b29 := Nat.ne_of_lt (Nat.lt_of_lt_of_le lq29_b26 frb29)
    have ge_b29 : n0 ≤ b29 := Nat.le_trans (Nat.le_trans (Nat.le_of_eq O28.1.symm) O28.2.1) frb29
    have fr_b29 : h0.size ≤ b29 := Nat.le_trans K28.1 frb29
    have ne_b26_t29 : b26 ≠ t29 := Nat.ne_of_lt (Nat.lt_of_lt_of_le lq29_b26 frt29)
    have ge_t29 : n0 ≤ t29 := Nat.le_trans (Nat.le_trans (Nat.le_of_eq O28.1.symm) O28.2.1) frt29
    have fr_t29 : h0.size ≤ t29 := Nat.le_trans K28.1 frt29
    have Sf_t29 : Safe Z ([] : List (String × Nat)) T29.vm h29 t29 := fun B => by obtain ⟨_, hm, _⟩ := B; cases hm
    show GlW Z ([] : List (String × Nat)) p e below s _ _ _ T29 (mkF m 51 #[.val (.int p1), .val (.int p2), .val (.int p3), .val (.int p4), .val (.int (2 : Int32)), .val (.ref b26), .unset, .unset, .unset, .unset] [(.ref b29)])
    refine GlW.st (fun _ kk => XS.astore X29.here hx rfl (hb hby at_51) rfl rfl (l' := #[.val (.int p1), .val (.int p2), .val (.int p3), .val (.int p4), .val (.int (2 : Int32)), .val (.ref b26), .val (.ref b29), .unset, .unset, .unset]) rfl kk) ?_
    show GlW Z ([] : List (String × Nat)) p e below s _ _ _ T29 (mkF m 53 #[.val (.int p1), .val (.int p2), .val (.int p3), .val (.int p4), .val (.int (2 : Int32)), .val (.ref b26), .val (.ref b29), .unset, .unset, .unset] [])
    refine GlW.st (fun _ kk => XS.aload X29.here hx rfl (hb hby at_53) rfl rfl kk) ?_
    show GlW Z ([] : List (String × Nat)) p e below s _ _ _ T29 (mkF m 55 #[.val (.int p1), .val (.int p2), .val (.int p3), .val (.int p4), .val (.int (2 : Int32)), .val (.ref b26), .val (.ref b29), .unset, .unset, .unset] [(.ref b26)])
    obtain ⟨v30, _, ⟨T30, L30, kQ30, nQ30⟩, -, X30, ⟨Lc30, hQ30, l30, y30, z30⟩, st30⟩ := Jvm.LawKit.callS X29 hx (y := (⟨"com/example/tarry/tarry/MessageBytesPinLaw", "flip", "([B)V"⟩ : MethodName)) hown (mvT hZ (hw _ (List.mem_of_getElem? (i := 51) rfl))) (mvT hZ (hw _ (List.mem_of_getElem? (i := 52) rfl))) (mvT hZ (hw _ (List.mem_of_getElem? (i := 53) rfl))) (mvT hZ (hw _ (List.mem_of_getElem? (i := 54) rfl))) (by decide) (backOf (W := 0) (rmF2 l Z a0 hw [] b26 ka26 p2 p3 h29 n0 O29 Arv_b26 ge_b26) hZ (hw _ (List.mem_of_getElem? (i := 54) rfl)) (hw _ (List.mem_of_getElem? (i := 53) rfl)) (by decide) (by decide)) (g := (mkF m 55 #[.val (.int p1), .val (.int p2), .val (.int p3), .val (.int p4), .val (.int (2 : Int32)), .val (.ref b26), .val (.ref b29), .unset, .unset, .unset] [(.ref b26)])) rfl (by rw [hml]; rfl) (argsL := [(.ref b26)]) (rest := []) (lenOf pd_rm0_1 rfl) rfl (by show 2 * 0 + _ ≤ _; exact Nat.le_of_eq rfl) (hb hby at_55) (fun _ _ => ⟨rfl, e29, (by decide : 5 + 0 ≤ _), (by decide : 30 + 0 ≤ _)⟩)
    dsimp only [Pt.U, Pt.locs, Pt.cells, Pt.slots] at X30 l30 y30 z30 st30 hQ30
    subst l30 y30 z30
    obtain ⟨h30, e30⟩ : ∃ z, T30.heap = z := ⟨_, rfl⟩
    rw [e30] at hQ30
    obtain ⟨rfl, Nq30, Kq30⟩ := hQ30
    have N30 := Fr.app N29 Nq30
    refine GlW.st st30 ?_
    have sfk30 : ∀ x ∈ [b26], Safe Z ([] : List (String × Nat)) _ _ x := (allS Sf_b26 all0)
    have Sf_b26 := Safe.keep Kq30 sfk30 HC29.1 Sf_b26
    have Sf_t29 := Safe.keep Kq30 sfk30 HC29.1 Sf_t29
    have HC30 := HC29.trans (CHr.keep Kq30 sfk30 HC29.1)
    have hk30 := Nat.le_trans hk29 Kq30.1
    have Exa_b26 := Exa_b26.keep Kq30
    have Exa_b29 := Exa_b29.keep Kq30
    have Arv_t29 := Arv_t29.keep Kq30 (ninS (Ne.symm ne_b26_t29) nin0)
    have Exa_t29 := Exa_t29.keep Kq30
    have F_text_b29 := F_text_b29.keep Kq30 (ninS (Ne.symm ne_b26_b29) nin0)
    have F_bytes_b29 := F_bytes_b29.keep Kq30 (ninS (Ne.symm ne_b26_b29) nin0)
    have F_headers_b29 := F_headers_b29.keep Kq30 (ninS (Ne.symm ne_b26_b29) nin0)
    have F_messageId_b29 := F_messageId_b29.keep Kq30 (ninS (Ne.symm ne_b26_b29) nin0)
    have F_correlationId_b29 := F_correlationId_b29.keep Kq30 (ninS (Ne.symm ne_b26_b29) nin0)
    have F_replyTo_b29 := F_replyTo_b29.keep Kq30 (ninS (Ne.symm ne_b26_b29) nin0)
    have O30 := O29.keep Kq30 (allS ge_b26 all0)
    have K30 := K29.trans Kq30 (allS (Or.inr fr_b26) all0)
    show GlW Z ([] : List (String × Nat)) p e below s _ _ _ T30 (mkF m 58 #[.val (.int p1), .val (.int p2), .val (.int p3), .val (.int p4), .val (.int (2 : Int32)), .val (.ref b26), .val (.ref b29), .unset, .unset, .unset] [])
    refine GlW.st (fun _ kk => XS.aload X30.here hx rfl (hb hby at_58) rfl rfl kk) ?_
    show GlW Z ([] : List (String × Nat)) p e below s _ _ _ T30 (mkF m 60 #[.val (.int p1), .val (.int p2), .val (.int p3), .val (.int p4), .val (.int (2 : Int32)), .val (.ref b26), .val (.ref b29), .unset, .unset, .unset] [(.ref b29)])
    obtain ⟨cq31, kq31, qa31, qb31, qc31⟩ := isOf hZ e30 Exa_b29
    have lq31_b26 := Exa_b26.lt
    have lq31_b29 := Exa_b29.lt
    have lq31_t29 := Arv_t29.lt
    obtain ⟨v31, _, ⟨T31, L31, kQ31, nQ31⟩, -, X31, ⟨Lc31, hQ31, l31, y31, z31⟩, st31⟩ := X30.virtualBack hx (y := (⟨"com/example/tarry/tarry/Message", "bytes", "()[B"⟩ : MethodName)) (z := (⟨"com/example/tarry/tarry/Message", "bytes", "()[B"⟩ : MethodName)) hown (mvT hZ (hw _ (List.mem_of_getElem? (i := 55) rfl))) (mvT hZ (hw _ (List.mem_of_getElem? (i := 56) rfl))) (notFace_of_selects (args := #[]) (mvT hZ (hw _ (List.mem_of_getElem? (i := 58) rfl)))) (mvT hZ (hw _ (List.mem_of_getElem? (i := 58) rfl))) (mvT hZ (hw _ (List.mem_of_getElem? (i := 57) rfl))) (by decide) (backOf (W := 0) (rmG2 l Z a0 hw [] b29 t29 ka26 p2 p3 h30 n0 O30 F_bytes_b29 Arv_t29 Exa_t29) hZ (hw _ (List.mem_of_getElem? (i := 59) rfl)) (hw _ (List.mem_of_getElem? (i := 3) rfl)) (by decide) (by decide)) qa31 qc31 (g := (mkF m 60 #[.val (.int p1), .val (.int p2), .val (.int p3), .val (.int p4), .val (.int (2 : Int32)), .val (.ref b26), .val (.ref b29), .unset, .unset, .unset] [(.ref b29)])) rfl (by rw [hml]; rfl) (Steps.refl _) (argsL := []) (rest := []) (lenOf pd_rm0_2 rfl) rfl (by show 2 * 0 + _ ≤ _; exact Nat.le_of_eq rfl) (hb hby at_60) (fun _ _ => ⟨rfl, e30, (by decide : 5 + 1 ≤ _), (by decide : 30 + 2 ≤ _)⟩)
    dsimp only [Pt.U, Pt.locs, Pt.cells, Pt.slots] at X31 l31 y31 z31 st31 hQ31
    subst l31 y31 z31
    obtain ⟨h31, e31⟩ : ∃ z, T31.heap = z := ⟨_, rfl⟩
    rw [e31] at hQ31
    obtain ⟨b31, rfl, Nq31, Kq31, Arv_b31, frb31⟩ := hQ31
    have N31 := Fr.app N30 Nq31
    refine GlW.st (fun _ kk => st31.trans kk) ?_
    have sfk31 : ∀ x ∈ ([] : List Addr), Safe Z ([] : List (String × Nat)) T29.vm h30 x := all0
    have Sf_b26 := Safe.keep Kq31 sfk31 HC30.1 Sf_b26
    have Sf_t29 := Safe.keep Kq31 sfk31 HC30.1 Sf_t29
    have HC31 := HC30.trans (CHr.keep Kq31 sfk31 HC30.1)
    have hk31 := Nat.le_trans hk30 Kq31.1
    have Exa_b26 := Exa_b26.keep Kq31
    have Exa_b29 := Exa_b29.keep Kq31
    have Arv_t29 := Arv_t29.keep Kq31 nin0
    have Exa_t29 := Exa_t29.keep Kq31
    have F_text_b29 := F_text_b29.keep Kq31 nin0
    have F_bytes_b29 := F_bytes_b29.keep Kq31 nin0
    have F_headers_b29 := F_headers_b29.keep Kq31 nin0
    have F_messageId_b29 := F_messageId_b29.keep Kq31 nin0
    have F_correlationId_b29 := F_correlationId_b29.keep Kq31 nin0
    have F_replyTo_b29 := F_replyTo_b29.keep Kq31 nin0
    have O31 := O30.keep Kq31 all0
    have K31 := K30.trans Kq31 all0
    have ne_b26_b31 : b26 ≠ b31 := Nat.ne_of_lt (Nat.lt_of_lt_of_le lq31_b26 frb31)
    have ne_b29_b31 : b29 ≠ b31 := Nat.ne_of_lt (Nat.lt_of_lt_of_le lq31_b29 frb31)
    have ne_t29_b31 : t29 ≠ b31 := Nat.ne_of_lt (Nat.lt_of_lt_of_le lq31_t29 frb31)
    have ge_b31 : n0 ≤ b31 := Nat.le_trans (Nat.le_trans (Nat.le_of_eq O30.1.symm) O30.2.1) frb31
    have fr_b31 : h0.size ≤ b31 := Nat.le_trans K30.1 frb31
    have Sf_b31 : Safe Z ([] : List (String × Nat)) T29.vm h31 b31 := fun B => by obtain ⟨_, hm, _⟩ := B; cases hm
    show GlW Z ([] : List (String × Nat)) p e below s _ _ _ T31 (mkF m 63 #[.val (.int p1), .val (.int p2), .val (.int p3), .val (.int p4), .val (.int (2 : Int32)), .val (.ref b26), .val (.ref b29), .unset, .unset, .unset] [(.ref b31)])
    refine GlW.st (fun _ kk => XS.astore X31.here hx rfl (hb hby at_63) rfl rfl (l' := #[.val (.int p1), .val (.int p2), .val (.int p3), .val (.int p4), .val (.int (2 : Int32)), .val (.ref b26), .val (.ref b29), .val (.ref b31), .unset, .unset]) rfl kk) ?_
    show GlW Z ([] : List (String × Nat)) p e below s _ _ _ T31 (mkF m 65 #[.val (.int p1), .val (.int p2), .val (.int p3), .val (.int p4), .val (.int (2 : Int32)), .val (.ref b26), .val (.ref b29), .val (.ref b31), .unset, .unset] [])
    refine GlW.st (fun _ kk => XS.aload X31.here hx rfl (hb hby at_65) rfl rfl kk) ?_
    show GlW Z ([] : List (String × Nat)) p e below s _ _ _ T31 (mkF m 67 #[.val (.int p1), .val (.int p2), .val (.int p3), .val (.int p4), .val (.int (2 : Int32)), .val (.ref b26), .val (.ref b29), .val (.ref b31), .unset, .unset] [(.ref b29)])
    obtain ⟨cq32, kq32, qa32, qb32, qc32⟩ := isOf hZ e31 Exa_b29
    obtain ⟨v32, _, ⟨T32, L32, kQ32, nQ32⟩, -, X32, ⟨Lc32, hQ32, l32, y32, z32⟩, st32⟩ := X31.virtualBack hx (y := (⟨"com/example/tarry/tarry/Message", "isText", "()Z"⟩ : MethodName)) (z := (⟨"com/example/tarry/tarry/Message", "isText", "()Z"⟩ : MethodName)) hown (mvT hZ (hw _ (List.mem_of_getElem? (i := 60) rfl))) (mvT hZ (hw _ (List.mem_of_getElem? (i := 61) rfl))) (notFace_of_selects (args := #[]) (mvT hZ (hw _ (List.mem_of_getElem? (i := 63) rfl)))) (mvT hZ (hw _ (List.mem_of_getElem? (i := 63) rfl))) (mvT hZ (hw _ (List.mem_of_getElem? (i := 62) rfl))) (by decide) (backOf (W := 0) (rmT l Z a0 hw [] b29 h31 n0 O31 F_text_b29) hZ (hw _ (List.mem_of_getElem? (i := 64) rfl)) (hw _ (List.mem_of_getElem? (i := 3) rfl)) (by decide) (by decide)) qa32 qc32 (g := (mkF m 67 #[.val (.int p1), .val (.int p2), .val (.int p3), .val (.int p4), .val (.int (2 : Int32)), .val (.ref b26), .val (.ref b29), .val (.ref b31), .unset, .unset] [(.ref b29)])) rfl (by rw [hml]; rfl) (Steps.refl _) (argsL := []) (rest := []) (lenOf pd_rm0_3 rfl) rfl (by show 2 * 0 + _ ≤ _; exact Nat.le_of_eq rfl) (hb hby at_67) (fun _ _ => ⟨rfl, e31, (by decide : 6 + 0 ≤ _), (by decide : 32 + 0 ≤ _)⟩)
    dsimp only [Pt.U, Pt.locs, Pt.cells, Pt.slots] at X32 l32 y32 z32 st32 hQ32
    subst l32 y32 z32
    obtain ⟨rfl, Nq32, e32⟩ := hQ32
    have N32 := Fr.app N31 Nq32
    refine GlW.st (fun _ kk => st32.trans kk) ?_
    show GlW Z ([] : List (String × Nat)) p e below s _ _ _ T32 (mkF m 70 #[.val (.int p1), .val (.int p2), .val (.int p3), .val (.int p4), .val (.int (2 : Int32)), .val (.ref b26), .val (.ref b29), .val (.ref b31), .unset, .unset] [(.int (0 : Int32))])
    refine GlW.st (fun _ kk => XS.ifNo X32.here hx rfl (hb hby at_70) rfl ((if0 _ _).trans (teq (by decide : (0 : Int32) = (0 : Int32))).2) kk) ?_
    show GlW Z ([] : List (String × Nat)) p e below s _ _ _ T32 (mkF m 73 #[.val (.int p1), .val (.int p2), .val (.int p3), .val (.int p4), .val (.int (2 : Int32)), .val (.ref b26), .val (.ref b29), .val (.ref b31), .unset, .unset] [])
    refine GlW.st (fun _ kk => XS.aload X32.here hx rfl (hb hby at_73) rfl rfl kk) ?_
    show GlW Z ([] : List (String × Nat)) p e below s _ _ _ T32 (mkF m 75 #[.val (.int p1), .val (.int p2), .val (.int p3), .val (.int p4), .val (.int (2 : Int32)), .val (.ref b26), .val (.ref b29), .val (.ref b31), .unset, .unset] [(.ref b29)])
    obtain ⟨cq33, kq33, qa33, qb33, qc33⟩ := isOf hZ e32 Exa_b29
    obtain ⟨v33, _, ⟨T33, L33, kQ33, nQ33⟩, -, X33, ⟨Lc33, hQ33, l33, y33, z33⟩, st33⟩ := X32.virtualBack hx (y := (⟨"com/example/tarry/tarry/Message", "messageId", "()Ljava/lang/String;"⟩ : MethodName)) (z := (⟨"com/example/tarry/tarry/Message", "messageId", "()Ljava/lang/String;"⟩ : MethodName)) hown (mvT hZ (hw _ (List.mem_of_getElem? (i := 65) rfl))) (mvT hZ (hw _ (List.mem_of_getElem? (i := 66) rfl))) (notFace_of_selects (args := #[]) (mvT hZ (hw _ (List.mem_of_getElem? (i := 68) rfl)))) (mvT hZ (hw _ (List.mem_of_getElem? (i := 68) rfl))) (mvT hZ (hw _ (List.mem_of_getElem? (i := 67) rfl))) (by decide) (backOf (W := 0) (rmA_messageId l Z a0 hw [] b29 h31 n0 O31 F_messageId_b29) hZ (hw _ (List.mem_of_getElem? (i := 69) rfl)) (hw _ (List.mem_of_getElem? (i := 3) rfl)) (by decide) (by decide)) qa33 qc33 (g := (mkF m 75 #[.val (.int p1), .val (.int p2), .val (.int p3), .val (.int p4), .val (.int (2 : Int32)), .val (.ref b26), .val (.ref b29), .val (.ref b31), .unset, .unset] [(.ref b29)])) rfl (by rw [hml]; rfl) (Steps.refl _) (argsL := []) (rest := []) (lenOf pd_rm0_4 rfl) rfl (by show 2 * 0 + _ ≤ _; exact Nat.le_of_eq rfl) (hb hby at_75) (fun _ _ => ⟨rfl, e32, (by decide : 6 + 0 ≤ _), (by decide : 32 + 0 ≤ _)⟩)
    dsimp only [Pt.U, Pt.locs, Pt.cells, Pt.slots] at X33 l33 y33 z33 st33 hQ33
    subst l33 y33 z33
    obtain ⟨rfl, Nq33, e33⟩ := hQ33
    have N33 := Fr.app N32 Nq33
    refine GlW.st (fun _ kk => st33.trans kk) ?_
    show GlW Z ([] : List (String × Nat)) p e below s _ _ _ T33 (mkF m 78 #[.val (.int p1), .val (.int p2), .val (.int p3), .val (.int p4), .val (.int (2 : Int32)), .val (.ref b26), .val (.ref b29), .val (.ref b31), .unset, .unset] [.null])
    refine GlW.st (fun _ kk => XS.ifnonnullNo X33.here hx rfl (hb hby at_78) rfl kk) ?_
    show GlW Z ([] : List (String × Nat)) p e below s _ _ _ T33 (mkF m 81 #[.val (.int p1), .val (.int p2), .val (.int p3), .val (.int p4), .val (.int (2 : Int32)), .val (.ref b26), .val (.ref b29), .val (.ref b31), .unset, .unset] [])
    refine GlW.st (fun _ kk => XS.aload X33.here hx rfl (hb hby at_81) rfl rfl kk) ?_
    show GlW Z ([] : List (String × Nat)) p e below s _ _ _ T33 (mkF m 83 #[.val (.int p1), .val (.int p2), .val (.int p3), .val (.int p4), .val (.int (2 : Int32)), .val (.ref b26), .val (.ref b29), .val (.ref b31), .unset, .unset] [(.ref b29)])
    obtain ⟨cq34, kq34, qa34, qb34, qc34⟩ := isOf hZ e33 Exa_b29
    obtain ⟨v34, _, ⟨T34, L34, kQ34, nQ34⟩, -, X34, ⟨Lc34, hQ34, l34, y34, z34⟩, st34⟩ := X33.virtualBack hx (y := (⟨"com/example/tarry/tarry/Message", "correlationId", "()Ljava/lang/String;"⟩ : MethodName)) (z := (⟨"com/example/tarry/tarry/Message", "correlationId", "()Ljava/lang/String;"⟩ : MethodName)) hown (mvT hZ (hw _ (List.mem_of_getElem? (i := 70) rfl))) (mvT hZ (hw _ (List.mem_of_getElem? (i := 71) rfl))) (notFace_of_selects (args := #[]) (mvT hZ (hw _ (List.mem_of_getElem? (i := 73) rfl)))) (mvT hZ (hw _ (List.mem_of_getElem? (i := 73) rfl))) (mvT hZ (hw _ (List.mem_of_getElem? (i := 72) rfl))) (by decide) (backOf (W := 0) (rmA_correlationId l Z a0 hw [] b29 h31 n0 O31 F_correlationId_b29) hZ (hw _ (List.mem_of_getElem? (i := 74) rfl)) (hw _ (List.mem_of_getElem? (i := 3) rfl)) (by decide) (by decide)) qa34 qc34 (g := (mkF m 83 #[.val (.int p1), .val (.int p2), .val (.int p3), .val (.int p4), .val (.int (2 : Int32)), .val (.ref b26), .val (.ref b29), .val (.ref b31), .unset, .unset] [(.ref b29)])) rfl (by rw [hml]; rfl) (Steps.refl _) (argsL := []) (rest := []) (lenOf pd_rm0_4 rfl) rfl (by show 2 * 0 + _ ≤ _; exact Nat.le_of_eq rfl) (hb hby at_83) (fun _ _ => ⟨rfl, e33, (by decide : 6 + 0 ≤ _), (by decide : 32 + 0 ≤ _)⟩)
    dsimp only [Pt.U, Pt.locs, Pt.cells, Pt.slots] at X34 l34 y34 z34 st34 hQ34
    subst l34 y34 z34
    obtain ⟨rfl, Nq34, e34⟩ := hQ34
    have N34 := Fr.app N33 Nq34
    refine GlW.st (fun _ kk => st34.trans kk) ?_
    show GlW Z ([] : List (String × Nat)) p e below s _ _ _ T34 (mkF m 86 #[.val (.int p1), .val (.int p2), .val (.int p3), .val (.int p4), .val (.int (2 : Int32)), .val (.ref b26), .val (.ref b29), .val (.ref b31), .unset, .unset] [.null])
    refine GlW.st (fun _ kk => XS.ifnonnullNo X34.here hx rfl (hb hby at_86) rfl kk) ?_
    show GlW Z ([] : List (String × Nat)) p e below s _ _ _ T34 (mkF m 89 #[.val (.int p1), .val (.int p2), .val (.int p3), .val (.int p4), .val (.int (2 : Int32)), .val (.ref b26), .val (.ref b29), .val (.ref b31), .unset, .unset] [])
    refine GlW.st (fun _ kk => XS.aload X34.here hx rfl (hb hby at_89) rfl rfl kk) ?_
    show GlW Z ([] : List (String × Nat)) p e below s _ _ _ T34 (mkF m 91 #[.val (.int p1), .val (.int p2), .val (.int p3), .val (.int p4), .val (.int (2 : Int32)), .val (.ref b26), .val (.ref b29), .val (.ref b31), .unset, .unset] [(.ref b29)])
    obtain ⟨cq35, kq35, qa35, qb35, qc35⟩ := isOf hZ e34 Exa_b29
    obtain ⟨v35, _, ⟨T35, L35, kQ35, nQ35⟩, -, X35, ⟨Lc35, hQ35, l35, y35, z35⟩, st35⟩ := X34.virtualBack hx (y := (⟨"com/example/tarry/tarry/Message", "replyTo", "()Ljava/lang/String;"⟩ : MethodName)) (z := (⟨"com/example/tarry/tarry/Message", "replyTo", "()Ljava/lang/String;"⟩ : MethodName)) hown (mvT hZ (hw _ (List.mem_of_getElem? (i := 75) rfl))) (mvT hZ (hw _ (List.mem_of_getElem? (i := 76) rfl))) (notFace_of_selects (args := #[]) (mvT hZ (hw _ (List.mem_of_getElem? (i := 78) rfl)))) (mvT hZ (hw _ (List.mem_of_getElem? (i := 78) rfl))) (mvT hZ (hw _ (List.mem_of_getElem? (i := 77) rfl))) (by decide) (backOf (W := 0) (rmA_replyTo l Z a0 hw [] b29 h31 n0 O31 F_replyTo_b29) hZ (hw _ (List.mem_of_getElem? (i := 79) rfl)) (hw _ (List.mem_of_getElem? (i := 3) rfl)) (by decide) (by decide)) qa35 qc35 (g := (mkF m 91 #[.val (.int p1), .val (.int p2), .val (.int p3), .val (.int p4), .val (.int (2 : Int32)), .val (.ref b26), .val (.ref b29), .val (.ref b31), .unset, .unset] [(.ref b29)])) rfl (by rw [hml]; rfl) (Steps.refl _) (argsL := []) (rest := []) (lenOf pd_rm0_4 rfl) rfl (by show 2 * 0 + _ ≤ _; exact Nat.le_of_eq rfl) (hb hby at_91) (fun _ _ => ⟨rfl, e34, (by decide : 6 + 0 ≤ _), (by decide : 32 + 0 ≤ _)⟩)
    dsimp only [Pt.U, Pt.locs, Pt.cells, Pt.slots] at X35 l35 y35 z35 st35 hQ35
    subst l35 y35 z35
    obtain ⟨rfl, Nq35, e35⟩ := hQ35
    have N35 := Fr.app N34 Nq35
    refine GlW.st (fun _ kk => st35.trans kk) ?_
    show GlW Z ([] : List (String × Nat)) p e below s _ _ _ T35 (mkF m 94 #[.val (.int p1), .val (.int p2), .val (.int p3), .val (.int p4), .val (.int (2 : Int32)), .val (.ref b26), .val (.ref b29), .val (.ref b31), .unset, .unset] [.null])
    refine GlW.st (fun _ kk => XS.ifnonnullNo X35.here hx rfl (hb hby at_94) rfl kk) ?_
    show GlW Z ([] : List (String × Nat)) p e below s _ _ _ T35 (mkF m 97 #[.val (.int p1), .val (.int p2), .val (.int p3), .val (.int p4), .val (.int (2 : Int32)), .val (.ref b26), .val (.ref b29), .val (.ref b31), .unset, .unset] [])
    refine GlW.st (fun _ kk => XS.aload X35.here hx rfl (hb hby at_97) rfl rfl kk) ?_
    show GlW Z ([] : List (String × Nat)) p e below s _ _ _ T35 (mkF m 99 #[.val (.int p1), .val (.int p2), .val (.int p3), .val (.int p4), .val (.int (2 : Int32)), .val (.ref b26), .val (.ref b29), .val (.ref b31), .unset, .unset] [(.ref b31)])
    refine GlW.st (fun _ kk => XS.iload X35.here hx rfl (hb hby at_99) rfl kk) ?_
    show GlW Z ([] : List (String × Nat)) p e below s _ _ _ T35 (mkF m 101 #[.val (.int p1), .val (.int p2), .val (.int p3), .val (.int p4), .val (.int (2 : Int32)), .val (.ref b26), .val (.ref b29), .val (.ref b31), .unset, .unset] [(.int (2 : Int32)), (.ref b31)])
    refine GlW.st (fun _ kk => XS.iloadN X35.here hx rfl (hb hby at_101) rfl kk) ?_
    show GlW Z ([] : List (String × Nat)) p e below s _ _ _ T35 (mkF m 102 #[.val (.int p1), .val (.int p2), .val (.int p3), .val (.int p4), .val (.int (2 : Int32)), .val (.ref b26), .val (.ref b29), .val (.ref b31), .unset, .unset] [(.int p2), (.int (2 : Int32)), (.ref b31)])
    refine GlW.st (fun _ kk => XS.iloadN X35.here hx rfl (hb hby at_102) rfl kk) ?_
    show GlW Z ([] : List (String × Nat)) p e below s _ _ _ T35 (mkF m 103 #[.val (.int p1), .val (.int p2), .val (.int p3), .val (.int p4), .val (.int (2 : Int32)), .val (.ref b26), .val (.ref b29), .val (.ref b31), .unset, .unset] [(.int p3), (.int p2), (.int (2 : Int32)), (.ref b31)])
    refine GlW.st (fun _ kk => XS.iloadN X35.here hx rfl (hb hby at_103) rfl kk) ?_
    show GlW Z ([] : List (String × Nat)) p e below s _ _ _ T35 (mkF m 104 #[.val (.int p1), .val (.int p2), .val (.int p3), .val (.int p4), .val (.int (2 : Int32)), .val (.ref b26), .val (.ref b29), .val (.ref b31), .unset, .unset] [(.int p4), (.int p3), (.int p2), (.int (2 : Int32)), (.ref b31)])
    obtain ⟨v36, _, ⟨T36, L36, kQ36, nQ36⟩, -, X36, ⟨Lc36, hQ36, l36, y36, z36⟩, st36⟩ := Jvm.LawKit.callS X35 hx (y := (⟨"com/example/tarry/tarry/MessageBytesPinLaw", "same", "([BIIII)Z"⟩ : MethodName)) hown (mvT hZ (hw _ (List.mem_of_getElem? (i := 80) rfl))) (mvT hZ (hw _ (List.mem_of_getElem? (i := 81) rfl))) (mvT hZ (hw _ (List.mem_of_getElem? (i := 53) rfl))) (mvT hZ (hw _ (List.mem_of_getElem? (i := 82) rfl))) (by decide) (backOf (W := 0) (rmS2 l Z a0 hw [] b31 p2 p3 p4 ka26 h31 n0 O31 Arv_b31) hZ (hw _ (List.mem_of_getElem? (i := 82) rfl)) (hw _ (List.mem_of_getElem? (i := 53) rfl)) (by decide) (by decide)) (g := (mkF m 104 #[.val (.int p1), .val (.int p2), .val (.int p3), .val (.int p4), .val (.int (2 : Int32)), .val (.ref b26), .val (.ref b29), .val (.ref b31), .unset, .unset] [(.int p4), (.int p3), (.int p2), (.int (2 : Int32)), (.ref b31)])) rfl (by rw [hml]; rfl) (argsL := [(.ref b31), (.int (2 : Int32)), (.int p2), (.int p3), (.int p4)]) (rest := []) (lenOf pd_rm0_5 rfl) rfl (by show 2 * 0 + _ ≤ _; exact Nat.le_of_eq rfl) (hb hby at_104) (fun _ _ => ⟨rfl, e35, (by decide : 6 + 0 ≤ _), (by decide : 32 + 0 ≤ _)⟩)
    dsimp only [Pt.U, Pt.locs, Pt.cells, Pt.slots] at X36 l36 y36 z36 st36 hQ36
    subst l36 y36 z36
    obtain ⟨rfl, Nq36, e36⟩ := hQ36
    have N36 := Fr.app N35 Nq36
    refine GlW.st st36 ?_
    show GlW Z ([] : List (String × Nat)) p e below s _ _ _ T36 (mkF m 107 #[.val (.int p1), .val (.int p2), .val (.int p3), .val (.int p4), .val (.int (2 : Int32)), .val (.ref b26), .val (.ref b29), .val (.ref b31), .unset, .unset] [(.int (1 : Int32))])
    refine GlW.st (fun _ kk => XS.ifNo X36.here hx rfl (hb hby at_107) rfl ((if0 _ _).trans (feq (by decide : ¬ ((1 : Int32) = (0 : Int32)))).1) kk) ?_
    show GlW Z ([] : List (String × Nat)) p e below s _ _ _ T36 (mkF m 110 #[.val (.int p1), .val (.int p2), .val (.int p3), .val (.int p4), .val (.int (2 : Int32)), .val (.ref b26), .val (.ref b29), .val (.ref b31), .unset, .unset] [])
    refine GlW.st (fun _ kk => XS.iconst X36.here hx rfl (hb hby at_110) kk) ?_
    show GlW Z ([] : List (String × Nat)) p e below s _ _ _ T36 (mkF m 111 #[.val (.int p1), .val (.int p2), .val (.int p3), .val (.int p4), .val (.int (2 : Int32)), .val (.ref b26), .val (.ref b29), .val (.ref b31), .unset, .unset] [(.int (1 : Int32))])
    refine GlW.st (fun _ kk => XS.goto X36.here hx rfl (pc0 := 111) (pc' := 115) rfl (hb hby at_111) (by decide) (by decide) kk) ?_
    show GlW Z ([] : List (String × Nat)) p e below s _ _ _ T36 (mkF m 115 #[.val (.int p1), .val (.int p2), .val (.int p3), .val (.int p4), .val (.int (2 : Int32)), .val (.ref b26), .val (.ref b29), .val (.ref b31), .unset, .unset] [(.int (1 : Int32))])
    refine GlW.st (fun _ kk => XS.istore X36.here hx rfl (hb hby at_115) rfl (l' := #[.val (.int p1), .val (.int p2), .val (.int p3), .val (.int p4), .val (.int (2 : Int32)), .val (.ref b26), .val (.ref b29), .val (.ref b31), .val (.int (1 : Int32)), .unset]) rfl kk) ?_
    show GlW Z ([] : List (String × Nat)) p e below s _ _ _ T36 (mkF m 117 #[.val (.int p1), .val (.int p2), .val (.int p3), .val (.int p4), .val (.int (2 : Int32)), .val (.ref b26), .val (.ref b29), .val (.ref b31), .val (.int (1 : Int32)), .unset] [])
    refine GlW.st (fun _ kk => XS.aload X36.here hx rfl (hb hby at_117) rfl rfl kk) ?_
    show GlW Z ([] : List (String × Nat)) p e below s _ _ _ T36 (mkF m 119 #[.val (.int p1), .val (.int p2), .val (.int p3), .val (.int p4), .val (.int (2 : Int32)), .val (.ref b26), .val (.ref b29), .val (.ref b31), .val (.int (1 : Int32)), .unset] [(.ref b31)])
    obtain ⟨v37, _, ⟨T37, L37, kQ37, nQ37⟩, -, X37, ⟨Lc37, hQ37, l37, y37, z37⟩, st37⟩ := Jvm.LawKit.callS X36 hx (y := (⟨"com/example/tarry/tarry/MessageBytesPinLaw", "flip", "([B)V"⟩ : MethodName)) hown (mvT hZ (hw _ (List.mem_of_getElem? (i := 51) rfl))) (mvT hZ (hw _ (List.mem_of_getElem? (i := 52) rfl))) (mvT hZ (hw _ (List.mem_of_getElem? (i := 53) rfl))) (mvT hZ (hw _ (List.mem_of_getElem? (i := 54) rfl))) (by decide) (backOf (W := 0) (rmF2 l Z a0 hw [] b31 ka26 p2 p3 h31 n0 O31 Arv_b31 ge_b31) hZ (hw _ (List.mem_of_getElem? (i := 54) rfl)) (hw _ (List.mem_of_getElem? (i := 53) rfl)) (by decide) (by decide)) (g := (mkF m 119 #[.val (.int p1), .val (.int p2), .val (.int p3), .val (.int p4), .val (.int (2 : Int32)), .val (.ref b26), .val (.ref b29), .val (.ref b31), .val (.int (1 : Int32)), .unset] [(.ref b31)])) rfl (by rw [hml]; rfl) (argsL := [(.ref b31)]) (rest := []) (lenOf pd_rm0_1 rfl) rfl (by show 2 * 0 + _ ≤ _; exact Nat.le_of_eq rfl) (hb hby at_119) (fun _ _ => ⟨rfl, e36, (by decide : 6 + 0 ≤ _), (by decide : 32 + 0 ≤ _)⟩)
    dsimp only [Pt.U, Pt.locs, Pt.cells, Pt.slots] at X37 l37 y37 z37 st37 hQ37
    subst l37 y37 z37
    obtain ⟨h37, e37⟩ : ∃ z, T37.heap = z := ⟨_, rfl⟩
    rw [e37] at hQ37
    obtain ⟨rfl, Nq37, Kq37⟩ := hQ37
    have N37 := Fr.app N36 Nq37
    refine GlW.st st37 ?_
    have sfk37 : ∀ x ∈ [b31], Safe Z ([] : List (String × Nat)) _ _ x := (allS Sf_b31 all0)
    have Sf_b26 := Safe.keep Kq37 sfk37 HC31.1 Sf_b26
    have Sf_t29 := Safe.keep Kq37 sfk37 HC31.1 Sf_t29
    have Sf_b31 := Safe.keep Kq37 sfk37 HC31.1 Sf_b31
    have HC37 := HC31.trans (CHr.keep Kq37 sfk37 HC31.1)
    have hk37 := Nat.le_trans hk31 Kq37.1
    have Exa_b26 := Exa_b26.keep Kq37
    have Exa_b29 := Exa_b29.keep Kq37
    have Arv_t29 := Arv_t29.keep Kq37 (ninS ne_t29_b31 nin0)
    have Exa_t29 := Exa_t29.keep Kq37
    have F_text_b29 := F_text_b29.keep Kq37 (ninS ne_b29_b31 nin0)
    have F_bytes_b29 := F_bytes_b29.keep Kq37 (ninS ne_b29_b31 nin0)
    have F_headers_b29 := F_headers_b29.keep Kq37 (ninS ne_b29_b31 nin0)
    have F_messageId_b29 := F_messageId_b29.keep Kq37 (ninS ne_b29_b31 nin0)
    have F_correlationId_b29 := F_correlationId_b29.keep Kq37 (ninS ne_b29_b31 nin0)
    have F_replyTo_b29 := F_replyTo_b29.keep Kq37 (ninS ne_b29_b31 nin0)
    have O37 := O31.keep Kq37 (allS ge_b31 all0)
    have K37 := K31.trans Kq37 (allS (Or.inr fr_b31) all0)
    show GlW Z ([] : List (String × Nat)) p e below s _ _ _ T37 (mkF m 122 #[.val (.int p1), .val (.int p2), .val (.int p3), .val (.int p4), .val (.int (2 : Int32)), .val (.ref b26), .val (.ref b29), .val (.ref b31), .val (.int (1 : Int32)), .unset] [])
    refine GlW.st (fun _ kk => XS.aload X37.here hx rfl (hb hby at_122) rfl rfl kk) ?_
    show GlW Z ([] : List (String × Nat)) p e below s _ _ _ T37 (mkF m 124 #[.val (.int p1), .val (.int p2), .val (.int p3), .val (.int p4), .val (.int (2 : Int32)), .val (.ref b26), .val (.ref b29), .val (.ref b31), .val (.int (1 : Int32)), .unset] [(.ref b29)])
    obtain ⟨cq38, kq38, qa38, qb38, qc38⟩ := isOf hZ e37 Exa_b29
    have lq38_b26 := Exa_b26.lt
    have lq38_b29 := Exa_b29.lt
    have lq38_t29 := Arv_t29.lt
    obtain ⟨v38, _, ⟨T38, L38, kQ38, nQ38⟩, -, X38, ⟨Lc38, hQ38, l38, y38, z38⟩, st38⟩ := X37.virtualBack hx (y := (⟨"com/example/tarry/tarry/Message", "bytes", "()[B"⟩ : MethodName)) (z := (⟨"com/example/tarry/tarry/Message", "bytes", "()[B"⟩ : MethodName)) hown (mvT hZ (hw _ (List.mem_of_getElem? (i := 55) rfl))) (mvT hZ (hw _ (List.mem_of_getElem? (i := 56) rfl))) (notFace_of_selects (args := #[]) (mvT hZ (hw _ (List.mem_of_getElem? (i := 58) rfl)))) (mvT hZ (hw _ (List.mem_of_getElem? (i := 58) rfl))) (mvT hZ (hw _ (List.mem_of_getElem? (i := 57) rfl))) (by decide) (backOf (W := 0) (rmG2 l Z a0 hw [] b29 t29 ka26 p2 p3 h37 n0 O37 F_bytes_b29 Arv_t29 Exa_t29) hZ (hw _ (List.mem_of_getElem? (i := 59) rfl)) (hw _ (List.mem_of_getElem? (i := 3) rfl)) (by decide) (by decide)) qa38 qc38 (g := (mkF m 124 #[.val (.int p1), .val (.int p2), .val (.int p3), .val (.int p4), .val (.int (2 : Int32)), .val (.ref b26), .val (.ref b29), .val (.ref b31), .val (.int (1 : Int32)), .unset] [(.ref b29)])) rfl (by rw [hml]; rfl) (Steps.refl _) (argsL := []) (rest := []) (lenOf pd_rm0_2 rfl) rfl (by show 2 * 0 + _ ≤ _; exact Nat.le_of_eq rfl) (hb hby at_124) (fun _ _ => ⟨rfl, e37, (by decide : 6 + 1 ≤ _), (by decide : 32 + 2 ≤ _)⟩)
    dsimp only [Pt.U, Pt.locs, Pt.cells, Pt.slots] at X38 l38 y38 z38 st38 hQ38
    subst l38 y38 z38
    obtain ⟨h38, e38⟩ : ∃ z, T38.heap = z := ⟨_, rfl⟩
    rw [e38] at hQ38
    obtain ⟨b38, rfl, Nq38, Kq38, Arv_b38, frb38⟩ := hQ38
    have N38 := Fr.app N37 Nq38
    refine GlW.st (fun _ kk => st38.trans kk) ?_
    have sfk38 : ∀ x ∈ ([] : List Addr), Safe Z ([] : List (String × Nat)) T29.vm h37 x := all0
    have Sf_b26 := Safe.keep Kq38 sfk38 HC37.1 Sf_b26
    have Sf_t29 := Safe.keep Kq38 sfk38 HC37.1 Sf_t29
    have Sf_b31 := Safe.keep Kq38 sfk38 HC37.1 Sf_b31
    have HC38 := HC37.trans (CHr.keep Kq38 sfk38 HC37.1)
    have hk38 := Nat.le_trans hk37 Kq38.1
    have Exa_b26 := Exa_b26.keep Kq38
    have Exa_b29 := Exa_b29.keep Kq38
    have Arv_t29 := Arv_t29.keep Kq38 nin0
    have Exa_t29 := Exa_t29.keep Kq38
    have F_text_b29 := F_text_b29.keep Kq38 nin0
    have F_bytes_b29 := F_bytes_b29.keep Kq38 nin0
    have F_headers_b29 := F_headers_b29.keep Kq38 nin0
    have F_messageId_b29 := F_messageId_b29.keep Kq38 nin0
    have F_correlationId_b29 := F_correlationId_b29.keep Kq38 nin0
    have F_replyTo_b29 := F_replyTo_b29.keep Kq38 nin0
    have O38 := O37.keep Kq38 all0
    have K38 := K37.trans Kq38 all0
    have ne_b26_b38 : b26 ≠ b38 := Nat.ne_of_lt (Nat.lt_of_lt_of_le lq38_b26 frb38)
    have ne_b29_b38 : b29 ≠ b38 := Nat.ne_of_lt (Nat.lt_of_lt_of_le lq38_b29 frb38)
    have ne_t29_b38 : t29 ≠ b38 := Nat.ne_of_lt (Nat.lt_of_lt_of_le lq38_t29 frb38)
    have ge_b38 : n0 ≤ b38 := Nat.le_trans (Nat.le_trans (Nat.le_of_eq O37.1.symm) O37.2.1) frb38
    have fr_b38 : h0.size ≤ b38 := Nat.le_trans K37.1 frb38
    have Sf_b38 : Safe Z ([] : List (String × Nat)) T29.vm h38 b38 := fun B => by obtain ⟨_, hm, _⟩ := B; cases hm
    show GlW Z ([] : List (String × Nat)) p e below s _ _ _ T38 (mkF m 127 #[.val (.int p1), .val (.int p2), .val (.int p3), .val (.int p4), .val (.int (2 : Int32)), .val (.ref b26), .val (.ref b29), .val (.ref b31), .val (.int (1 : Int32)), .unset] [(.ref b38)])
    refine GlW.st (fun _ kk => XS.astore X38.here hx rfl (hb hby at_127) rfl rfl (l' := #[.val (.int p1), .val (.int p2), .val (.int p3), .val (.int p4), .val (.int (2 : Int32)), .val (.ref b26), .val (.ref b29), .val (.ref b31), .val (.int (1 : Int32)), .val (.ref b38)]) rfl kk) ?_
    show GlW Z ([] : List (String × Nat)) p e below s _ _ _ T38 (mkF m 129 #[.val (.int p1), .val (.int p2), .val (.int p3), .val (.int p4), .val (.int (2 : Int32)), .val (.ref b26), .val (.ref b29), .val (.ref b31), .val (.int (1 : Int32)), .val (.ref b38)] [])
    refine GlW.st (fun _ kk => XS.iload X38.here hx rfl (hb hby at_129) rfl kk) ?_
    show GlW Z ([] : List (String × Nat)) p e below s _ _ _ T38 (mkF m 131 #[.val (.int p1), .val (.int p2), .val (.int p3), .val (.int p4), .val (.int (2 : Int32)), .val (.ref b26), .val (.ref b29), .val (.ref b31), .val (.int (1 : Int32)), .val (.ref b38)] [(.int (1 : Int32))])
    refine GlW.st (fun _ kk => XS.ifNo X38.here hx rfl (hb hby at_131) rfl ((if0 _ _).trans (feq (by decide : ¬ ((1 : Int32) = (0 : Int32)))).1) kk) ?_
    show GlW Z ([] : List (String × Nat)) p e below s _ _ _ T38 (mkF m 134 #[.val (.int p1), .val (.int p2), .val (.int p3), .val (.int p4), .val (.int (2 : Int32)), .val (.ref b26), .val (.ref b29), .val (.ref b31), .val (.int (1 : Int32)), .val (.ref b38)] [])
    refine GlW.st (fun _ kk => XS.aload X38.here hx rfl (hb hby at_134) rfl rfl kk) ?_
    show GlW Z ([] : List (String × Nat)) p e below s _ _ _ T38 (mkF m 136 #[.val (.int p1), .val (.int p2), .val (.int p3), .val (.int p4), .val (.int (2 : Int32)), .val (.ref b26), .val (.ref b29), .val (.ref b31), .val (.int (1 : Int32)), .val (.ref b38)] [(.ref b38)])
    refine GlW.st (fun _ kk => XS.iload X38.here hx rfl (hb hby at_136) rfl kk) ?_
    show GlW Z ([] : List (String × Nat)) p e below s _ _ _ T38 (mkF m 138 #[.val (.int p1), .val (.int p2), .val (.int p3), .val (.int p4), .val (.int (2 : Int32)), .val (.ref b26), .val (.ref b29), .val (.ref b31), .val (.int (1 : Int32)), .val (.ref b38)] [(.int (2 : Int32)), (.ref b38)])
    refine GlW.st (fun _ kk => XS.iloadN X38.here hx rfl (hb hby at_138) rfl kk) ?_
    show GlW Z ([] : List (String × Nat)) p e below s _ _ _ T38 (mkF m 139 #[.val (.int p1), .val (.int p2), .val (.int p3), .val (.int p4), .val (.int (2 : Int32)), .val (.ref b26), .val (.ref b29), .val (.ref b31), .val (.int (1 : Int32)), .val (.ref b38)] [(.int p2), (.int (2 : Int32)), (.ref b38)])
    refine GlW.st (fun _ kk => XS.iloadN X38.here hx rfl (hb hby at_139) rfl kk) ?_
    show GlW Z ([] : List (String × Nat)) p e below s _ _ _ T38 (mkF m 140 #[.val (.int p1), .val (.int p2), .val (.int p3), .val (.int p4), .val (.int (2 : Int32)), .val (.ref b26), .val (.ref b29), .val (.ref b31), .val (.int (1 : Int32)), .val (.ref b38)] [(.int p3), (.int p2), (.int (2 : Int32)), (.ref b38)])
    refine GlW.st (fun _ kk => XS.iloadN X38.here hx rfl (hb hby at_140) rfl kk) ?_
    show GlW Z ([] : List (String × Nat)) p e below s _ _ _ T38 (mkF m 141 #[.val (.int p1), .val (.int p2), .val (.int p3), .val (.int p4), .val (.int (2 : Int32)), .val (.ref b26), .val (.ref b29), .val (.ref b31), .val (.int (1 : Int32)), .val (.ref b38)] [(.int p4), (.int p3), (.int p2), (.int (2 : Int32)), (.ref b38)])
    obtain ⟨v39, _, ⟨T39, L39, kQ39, nQ39⟩, -, X39, ⟨Lc39, hQ39, l39, y39, z39⟩, st39⟩ := Jvm.LawKit.callS X38 hx (y := (⟨"com/example/tarry/tarry/MessageBytesPinLaw", "same", "([BIIII)Z"⟩ : MethodName)) hown (mvT hZ (hw _ (List.mem_of_getElem? (i := 80) rfl))) (mvT hZ (hw _ (List.mem_of_getElem? (i := 81) rfl))) (mvT hZ (hw _ (List.mem_of_getElem? (i := 53) rfl))) (mvT hZ (hw _ (List.mem_of_getElem? (i := 82) rfl))) (by decide) (backOf (W := 0) (rmS2 l Z a0 hw [] b38 p2 p3 p4 ka26 h38 n0 O38 Arv_b38) hZ (hw _ (List.mem_of_getElem? (i := 82) rfl)) (hw _ (List.mem_of_getElem? (i := 53) rfl)) (by decide) (by decide)) (g := (mkF m 141 #[.val (.int p1), .val (.int p2), .val (.int p3), .val (.int p4), .val (.int (2 : Int32)), .val (.ref b26), .val (.ref b29), .val (.ref b31), .val (.int (1 : Int32)), .val (.ref b38)] [(.int p4), (.int p3), (.int p2), (.int (2 : Int32)), (.ref b38)])) rfl (by rw [hml]; rfl) (argsL := [(.ref b38), (.int (2 : Int32)), (.int p2), (.int p3), (.int p4)]) (rest := []) (lenOf pd_rm0_5 rfl) rfl (by show 2 * 0 + _ ≤ _; exact Nat.le_of_eq rfl) (hb hby at_141) (fun _ _ => ⟨rfl, e38, (by decide : 7 + 0 ≤ _), (by decide : 34 + 0 ≤ _)⟩)
    dsimp only [Pt.U, Pt.locs, Pt.cells, Pt.slots] at X39 l39 y39 z39 st39 hQ39
    subst l39 y39 z39
    obtain ⟨rfl, Nq39, e39⟩ := hQ39
    have N39 := Fr.app N38 Nq39
    refine GlW.st st39 ?_
    show GlW Z ([] : List (String × Nat)) p e below s _ _ _ T39 (mkF m 144 #[.val (.int p1), .val (.int p2), .val (.int p3), .val (.int p4), .val (.int (2 : Int32)), .val (.ref b26), .val (.ref b29), .val (.ref b31), .val (.int (1 : Int32)), .val (.ref b38)] [(.int (1 : Int32))])
    refine GlW.st (fun _ kk => XS.ifNo X39.here hx rfl (hb hby at_144) rfl ((if0 _ _).trans (feq (by decide : ¬ ((1 : Int32) = (0 : Int32)))).1) kk) ?_
    show GlW Z ([] : List (String × Nat)) p e below s _ _ _ T39 (mkF m 147 #[.val (.int p1), .val (.int p2), .val (.int p3), .val (.int p4), .val (.int (2 : Int32)), .val (.ref b26), .val (.ref b29), .val (.ref b31), .val (.int (1 : Int32)), .val (.ref b38)] [])
    refine GlW.st (fun _ kk => XS.iconst X39.here hx rfl (hb hby at_147) kk) ?_
    show GlW Z ([] : List (String × Nat)) p e below s _ _ _ T39 (mkF m 148 #[.val (.int p1), .val (.int p2), .val (.int p3), .val (.int p4), .val (.int (2 : Int32)), .val (.ref b26), .val (.ref b29), .val (.ref b31), .val (.int (1 : Int32)), .val (.ref b38)] [(.int (1 : Int32))])
    refine GlW.st (fun _ kk => XS.goto X39.here hx rfl (pc0 := 148) (pc' := 152) rfl (hb hby at_148) (by decide) (by decide) kk) ?_
    show GlW Z ([] : List (String × Nat)) p e below s _ _ _ T39 (mkF m 152 #[.val (.int p1), .val (.int p2), .val (.int p3), .val (.int p4), .val (.int (2 : Int32)), .val (.ref b26), .val (.ref b29), .val (.ref b31), .val (.int (1 : Int32)), .val (.ref b38)] [(.int (1 : Int32))])
    exact GlW.ret X39 hS29 hk38 hZ hEL hh0 HC38 (v := (some (.int (1 : Int32)))) (fun h => by rw [Bd.returns] at h; cases h) (BodyLoose.notSynchronized Bd) (fun hr => retN X39 hx (t := .boolean) Bd.returns (by simp) (hb hby at_152) hr) e39 ⟨rfl, N39⟩ (by decide) (by decide)
  · rw [hk]
    show GlW Z ([] : List (String × Nat)) p e below s _ _ _ s₁ (mkF m 5 #[.val (.int p1), .val (.int p2), .val (.int p3), .val (.int p4), .val (.int (3 : Int32)), .unset, .unset, .unset, .unset, .unset] [])
    refine GlW.st (fun _ kk => XS.iload X0.here hx rfl (hb hby at_5) rfl kk) ?_
    show GlW Z ([] : List (String × Nat)) p e below s _ _ _ s₁ (mkF m 7 #[.val (.int p1), .val (.int p2), .val (.int p3), .val (.int p4), .val (.int (3 : Int32)), .unset, .unset, .unset, .unset, .unset] [(.int (3 : Int32))])
    obtain ⟨T40, h40, ka40, X40, e40, E40, A40, Ax40, st40⟩ := newPE X0 hx hZ (hw _ (List.mem_of_getElem? (i := 0) rfl)) e0 (g := (mkF m 7 #[.val (.int p1), .val (.int p2), .val (.int p3), .val (.int p4), .val (.int (3 : Int32)), .unset, .unset, .unset, .unset, .unset] [(.int (3 : Int32))])) rfl (hb hby at_7) rfl (by decide) (cap := 3) (by decide) (by decide) (by decide) (by decide) (ad := "[B") (by decide)
    obtain ⟨b40, g40⟩ : ∃ z, z = h0.size := ⟨_, rfl⟩
    rw [← g40] at A40 Ax40 st40
    refine GlW.st st40 ?_
    have ge_b40 : n0 ≤ b40 := Nat.le_trans (Nat.le_trans (Nat.le_of_eq O0.1.symm) O0.2.1) (Nat.le_of_eq g40.symm)
    have fr_b40 : h0.size ≤ b40 := Nat.le_trans (Nat.le_refl _) (Nat.le_of_eq g40.symm)
    have Sf_b40 : Safe Z ([] : List (String × Nat)) s.vm h0 b40 := Safe.new (Nat.le_of_eq g40.symm)
    have Sf_b40 := Safe.ext E40 HC0.1 Sf_b40
    have HC40 := HC0.trans (CHr.ext E40 HC0.1)
    have hk40 := Nat.le_trans hk0 E40.1
    have O40 := O0.ext E40
    have K40 := (Keep.refl h0 []).ext E40
    have Arv_b40 : Arv Z h40 b40 ka40 .byte (3 : Int32) [(.int (0 : Int32)), (.int (0 : Int32)), (.int (0 : Int32))] (.int (0 : Int32)) := (Arv.new A40 (by decide)).pad (pad_rep [] (.int (0 : Int32)) 3)
    have Exa_b40 := Ax40
    show GlW Z ([] : List (String × Nat)) p e below s _ _ _ T40 (mkF m 9 #[.val (.int p1), .val (.int p2), .val (.int p3), .val (.int p4), .val (.int (3 : Int32)), .unset, .unset, .unset, .unset, .unset] [(.ref b40)])
    refine GlW.st (fun _ kk => XS.astore X40.here hx rfl (hb hby at_9) rfl rfl (l' := #[.val (.int p1), .val (.int p2), .val (.int p3), .val (.int p4), .val (.int (3 : Int32)), .val (.ref b40), .unset, .unset, .unset, .unset]) rfl kk) ?_
    show GlW Z ([] : List (String × Nat)) p e below s _ _ _ T40 (mkF m 11 #[.val (.int p1), .val (.int p2), .val (.int p3), .val (.int p4), .val (.int (3 : Int32)), .val (.ref b40), .unset, .unset, .unset, .unset] [])
    refine GlW.st (fun _ kk => XS.iload X40.here hx rfl (hb hby at_11) rfl kk) ?_
    show GlW Z ([] : List (String × Nat)) p e below s _ _ _ T40 (mkF m 13 #[.val (.int p1), .val (.int p2), .val (.int p3), .val (.int p4), .val (.int (3 : Int32)), .val (.ref b40), .unset, .unset, .unset, .unset] [(.int (3 : Int32))])
    refine GlW.st (fun _ kk => XS.ifNo X40.here hx rfl (hb hby at_13) rfl ((if0 _ _).trans (tlt (by decide : (0 : Int32) < (3 : Int32))).2.2.2) kk) ?_
    show GlW Z ([] : List (String × Nat)) p e below s _ _ _ T40 (mkF m 16 #[.val (.int p1), .val (.int p2), .val (.int p3), .val (.int p4), .val (.int (3 : Int32)), .val (.ref b40), .unset, .unset, .unset, .unset] [])
    refine GlW.st (fun _ kk => XS.aload X40.here hx rfl (hb hby at_16) rfl rfl kk) ?_
    show GlW Z ([] : List (String × Nat)) p e below s _ _ _ T40 (mkF m 18 #[.val (.int p1), .val (.int p2), .val (.int p3), .val (.int p4), .val (.int (3 : Int32)), .val (.ref b40), .unset, .unset, .unset, .unset] [(.ref b40)])
    refine GlW.st (fun _ kk => XS.iconst X40.here hx rfl (hb hby at_18) kk) ?_
    show GlW Z ([] : List (String × Nat)) p e below s _ _ _ T40 (mkF m 19 #[.val (.int p1), .val (.int p2), .val (.int p3), .val (.int p4), .val (.int (3 : Int32)), .val (.ref b40), .unset, .unset, .unset, .unset] [(.int (0 : Int32)), (.ref b40)])
    refine GlW.st (fun _ kk => XS.iloadN X40.here hx rfl (hb hby at_19) rfl kk) ?_
    show GlW Z ([] : List (String × Nat)) p e below s _ _ _ T40 (mkF m 20 #[.val (.int p1), .val (.int p2), .val (.int p3), .val (.int p4), .val (.int (3 : Int32)), .val (.ref b40), .unset, .unset, .unset, .unset] [(.int p2), (.int (0 : Int32)), (.ref b40)])
    refine GlW.st (fun _ kk => XS.i2b X40.here hx rfl (hb hby at_20) rfl kk) ?_
    show GlW Z ([] : List (String × Nat)) p e below s _ _ _ T40 (mkF m 21 #[.val (.int p1), .val (.int p2), .val (.int p3), .val (.int p4), .val (.int (3 : Int32)), .val (.ref b40), .unset, .unset, .unset, .unset] [(.int (p2.toInt8.toInt32)), (.int (0 : Int32)), (.ref b40)])
    obtain ⟨cl41, Ar41, q41, Sz41, Ng41, Ha41, Fi41⟩ := id Arv_b40
    have hin41 : ¬ ((0 : Int32) < 0 ∨ cl41.slots.size ≤ ((0 : Int32)).toNatClampNeg) := inb_of Sz41 ⟨by decide, by decide⟩
    obtain ⟨T41, h41, X41, e41, W41, st41⟩ := stB X40 hx hZ e40 Ar41 (j := (0 : Int32)) hin41 (g := (mkF m 21 #[.val (.int p1), .val (.int p2), .val (.int p3), .val (.int p4), .val (.int (3 : Int32)), .val (.ref b40), .unset, .unset, .unset, .unset] [(.int (p2.toInt8.toInt32)), (.int (0 : Int32)), (.ref b40)])) rfl rfl (hb hby at_21)
    refine GlW.st st41 ?_
    have Arv_b40 : Arv Z h41 b40 ka40 .byte (3 : Int32) [(.int (nar .byte (p2.toInt8.toInt32))), (.int (0 : Int32)), (.int (0 : Int32))] (.int (0 : Int32)) := Arv.set Ar41 q41 Sz41 Ng41 Ha41 Fi41 (fits_nar_byte _) W41 0 rfl (Nat.le_of_ble_eq_true rfl)
    rw [own_nar8] at Arv_b40
    have sfw41 := Sf_b40
    have Sf_b40 := Safe.wr W41 sfw41 HC40.1 Sf_b40
    have HC41 := HC40.trans (CHr.wr W41 sfw41 HC40.1)
    have hk41 := Nat.le_trans hk40 (Nat.le_of_eq W41.size.symm)
    have Exa_b40 := Exa_b40.wr W41
    have O41 := O40.wr W41 ge_b40
    have K41 := K40.wr W41 (Or.inr fr_b40)
    have N41 := Fr.snoc X41 N0 ge_b40
    show GlW Z ([] : List (String × Nat)) p e below s _ _ _ T41 (mkF m 22 #[.val (.int p1), .val (.int p2), .val (.int p3), .val (.int p4), .val (.int (3 : Int32)), .val (.ref b40), .unset, .unset, .unset, .unset] [])
    refine GlW.st (fun _ kk => XS.iload X41.here hx rfl (hb hby at_22) rfl kk) ?_
    show GlW Z ([] : List (String × Nat)) p e below s _ _ _ T41 (mkF m 24 #[.val (.int p1), .val (.int p2), .val (.int p3), .val (.int p4), .val (.int (3 : Int32)), .val (.ref b40), .unset, .unset, .unset, .unset] [(.int (3 : Int32))])
    refine GlW.st (fun _ kk => XS.iconst X41.here hx rfl (hb hby at_24) kk) ?_
    show GlW Z ([] : List (String × Nat)) p e below s _ _ _ T41 (mkF m 25 #[.val (.int p1), .val (.int p2), .val (.int p3), .val (.int p4), .val (.int (3 : Int32)), .val (.ref b40), .unset, .unset, .unset, .unset] [(.int (1 : Int32)), (.int (3 : Int32))])
    refine GlW.st (fun _ kk => XS.icmpNo X41.here hx rfl (hb hby at_25) rfl (tlt (by decide : (1 : Int32) < (3 : Int32))).2.2.2 kk) ?_
    show GlW Z ([] : List (String × Nat)) p e below s _ _ _ T41 (mkF m 28 #[.val (.int p1), .val (.int p2), .val (.int p3), .val (.int p4), .val (.int (3 : Int32)), .val (.ref b40), .unset, .unset, .unset, .unset] [])
    refine GlW.st (fun _ kk => XS.aload X41.here hx rfl (hb hby at_28) rfl rfl kk) ?_
    show GlW Z ([] : List (String × Nat)) p e below s _ _ _ T41 (mkF m 30 #[.val (.int p1), .val (.int p2), .val (.int p3), .val (.int p4), .val (.int (3 : Int32)), .val (.ref b40), .unset, .unset, .unset, .unset] [(.ref b40)])
    refine GlW.st (fun _ kk => XS.iconst X41.here hx rfl (hb hby at_30) kk) ?_
    show GlW Z ([] : List (String × Nat)) p e below s _ _ _ T41 (mkF m 31 #[.val (.int p1), .val (.int p2), .val (.int p3), .val (.int p4), .val (.int (3 : Int32)), .val (.ref b40), .unset, .unset, .unset, .unset] [(.int (1 : Int32)), (.ref b40)])
    refine GlW.st (fun _ kk => XS.iloadN X41.here hx rfl (hb hby at_31) rfl kk) ?_
    show GlW Z ([] : List (String × Nat)) p e below s _ _ _ T41 (mkF m 32 #[.val (.int p1), .val (.int p2), .val (.int p3), .val (.int p4), .val (.int (3 : Int32)), .val (.ref b40), .unset, .unset, .unset, .unset] [(.int p3), (.int (1 : Int32)), (.ref b40)])
    refine GlW.st (fun _ kk => XS.i2b X41.here hx rfl (hb hby at_32) rfl kk) ?_
    show GlW Z ([] : List (String × Nat)) p e below s _ _ _ T41 (mkF m 33 #[.val (.int p1), .val (.int p2), .val (.int p3), .val (.int p4), .val (.int (3 : Int32)), .val (.ref b40), .unset, .unset, .unset, .unset] [(.int (p3.toInt8.toInt32)), (.int (1 : Int32)), (.ref b40)])
    obtain ⟨cl42, Ar42, q42, Sz42, Ng42, Ha42, Fi42⟩ := id Arv_b40
    have hin42 : ¬ ((1 : Int32) < 0 ∨ cl42.slots.size ≤ ((1 : Int32)).toNatClampNeg) := inb_of Sz42 ⟨by decide, by decide⟩
    obtain ⟨T42, h42, X42, e42, W42, st42⟩ := stB X41 hx hZ e41 Ar42 (j := (1 : Int32)) hin42 (g := (mkF m 33 #[.val (.int p1), .val (.int p2), .val (.int p3), .val (.int p4), .val (.int (3 : Int32)), .val (.ref b40), .unset, .unset, .unset, .unset] [(.int (p3.toInt8.toInt32)), (.int (1 : Int32)), (.ref b40)])) rfl rfl (hb hby at_33)
    refine GlW.st st42 ?_
    have Arv_b40 : Arv Z h42 b40 ka40 .byte (3 : Int32) [(.int (p2.toInt8.toInt32)), (.int (nar .byte (p3.toInt8.toInt32))), (.int (0 : Int32))] (.int (0 : Int32)) := Arv.set Ar42 q42 Sz42 Ng42 Ha42 Fi42 (fits_nar_byte _) W42 1 rfl (Nat.le_of_ble_eq_true rfl)
    rw [own_nar8] at Arv_b40
    have sfw42 := Sf_b40
    have Sf_b40 := Safe.wr W42 sfw42 HC41.1 Sf_b40
    have HC42 := HC41.trans (CHr.wr W42 sfw42 HC41.1)
    have hk42 := Nat.le_trans hk41 (Nat.le_of_eq W42.size.symm)
    have Exa_b40 := Exa_b40.wr W42
    have O42 := O41.wr W42 ge_b40
    have K42 := K41.wr W42 (Or.inr fr_b40)
    have N42 := Fr.snoc X42 N41 ge_b40
    show GlW Z ([] : List (String × Nat)) p e below s _ _ _ T42 (mkF m 34 #[.val (.int p1), .val (.int p2), .val (.int p3), .val (.int p4), .val (.int (3 : Int32)), .val (.ref b40), .unset, .unset, .unset, .unset] [])
    refine GlW.st (fun _ kk => XS.iload X42.here hx rfl (hb hby at_34) rfl kk) ?_
    show GlW Z ([] : List (String × Nat)) p e below s _ _ _ T42 (mkF m 36 #[.val (.int p1), .val (.int p2), .val (.int p3), .val (.int p4), .val (.int (3 : Int32)), .val (.ref b40), .unset, .unset, .unset, .unset] [(.int (3 : Int32))])
    refine GlW.st (fun _ kk => XS.iconst X42.here hx rfl (hb hby at_36) kk) ?_
    show GlW Z ([] : List (String × Nat)) p e below s _ _ _ T42 (mkF m 37 #[.val (.int p1), .val (.int p2), .val (.int p3), .val (.int p4), .val (.int (3 : Int32)), .val (.ref b40), .unset, .unset, .unset, .unset] [(.int (2 : Int32)), (.int (3 : Int32))])
    refine GlW.st (fun _ kk => XS.icmpNo X42.here hx rfl (hb hby at_37) rfl (tlt (by decide : (2 : Int32) < (3 : Int32))).2.2.2 kk) ?_
    show GlW Z ([] : List (String × Nat)) p e below s _ _ _ T42 (mkF m 40 #[.val (.int p1), .val (.int p2), .val (.int p3), .val (.int p4), .val (.int (3 : Int32)), .val (.ref b40), .unset, .unset, .unset, .unset] [])
    refine GlW.st (fun _ kk => XS.aload X42.here hx rfl (hb hby at_40) rfl rfl kk) ?_
    show GlW Z ([] : List (String × Nat)) p e below s _ _ _ T42 (mkF m 42 #[.val (.int p1), .val (.int p2), .val (.int p3), .val (.int p4), .val (.int (3 : Int32)), .val (.ref b40), .unset, .unset, .unset, .unset] [(.ref b40)])
    refine GlW.st (fun _ kk => XS.iconst X42.here hx rfl (hb hby at_42) kk) ?_
    show GlW Z ([] : List (String × Nat)) p e below s _ _ _ T42 (mkF m 43 #[.val (.int p1), .val (.int p2), .val (.int p3), .val (.int p4), .val (.int (3 : Int32)), .val (.ref b40), .unset, .unset, .unset, .unset] [(.int (2 : Int32)), (.ref b40)])
    refine GlW.st (fun _ kk => XS.iloadN X42.here hx rfl (hb hby at_43) rfl kk) ?_
    show GlW Z ([] : List (String × Nat)) p e below s _ _ _ T42 (mkF m 44 #[.val (.int p1), .val (.int p2), .val (.int p3), .val (.int p4), .val (.int (3 : Int32)), .val (.ref b40), .unset, .unset, .unset, .unset] [(.int p4), (.int (2 : Int32)), (.ref b40)])
    refine GlW.st (fun _ kk => XS.i2b X42.here hx rfl (hb hby at_44) rfl kk) ?_
    show GlW Z ([] : List (String × Nat)) p e below s _ _ _ T42 (mkF m 45 #[.val (.int p1), .val (.int p2), .val (.int p3), .val (.int p4), .val (.int (3 : Int32)), .val (.ref b40), .unset, .unset, .unset, .unset] [(.int (p4.toInt8.toInt32)), (.int (2 : Int32)), (.ref b40)])
    obtain ⟨cl43, Ar43, q43, Sz43, Ng43, Ha43, Fi43⟩ := id Arv_b40
    have hin43 : ¬ ((2 : Int32) < 0 ∨ cl43.slots.size ≤ ((2 : Int32)).toNatClampNeg) := inb_of Sz43 ⟨by decide, by decide⟩
    obtain ⟨T43, h43, X43, e43, W43, st43⟩ := stB X42 hx hZ e42 Ar43 (j := (2 : Int32)) hin43 (g := (mkF m 45 #[.val (.int p1), .val (.int p2), .val (.int p3), .val (.int p4), .val (.int (3 : Int32)), .val (.ref b40), .unset, .unset, .unset, .unset] [(.int (p4.toInt8.toInt32)), (.int (2 : Int32)), (.ref b40)])) rfl rfl (hb hby at_45)
    refine GlW.st st43 ?_
    have Arv_b40 : Arv Z h43 b40 ka40 .byte (3 : Int32) [(.int (p2.toInt8.toInt32)), (.int (p3.toInt8.toInt32)), (.int (nar .byte (p4.toInt8.toInt32)))] (.int (0 : Int32)) := Arv.set Ar43 q43 Sz43 Ng43 Ha43 Fi43 (fits_nar_byte _) W43 2 rfl (Nat.le_of_ble_eq_true rfl)
    rw [own_nar8] at Arv_b40
    have sfw43 := Sf_b40
    have Sf_b40 := Safe.wr W43 sfw43 HC42.1 Sf_b40
    have HC43 := HC42.trans (CHr.wr W43 sfw43 HC42.1)
    have hk43 := Nat.le_trans hk42 (Nat.le_of_eq W43.size.symm)
    have Exa_b40 := Exa_b40.wr W43
    have O43 := O42.wr W43 ge_b40
    have K43 := K42.wr W43 (Or.inr fr_b40)
    have N43 := Fr.snoc X43 N42 ge_b40
    show GlW Z ([] : List (String × Nat)) p e below s _ _ _ T43 (mkF m 46 #[.val (.int p1), .val (.int p2), .val (.int p3), .val (.int p4), .val (.int (3 : Int32)), .val (.ref b40), .unset, .unset, .unset, .unset] [])
    refine GlW.st (fun _ kk => XS.aload X43.here hx rfl (hb hby at_46) rfl rfl kk) ?_
    show GlW Z ([] : List (String × Nat)) p e below s _ _ _ T43 (mkF m 48 #[.val (.int p1), .val (.int p2), .val (.int p3), .val (.int p4), .val (.int (3 : Int32)), .val (.ref b40), .unset, .unset, .unset, .unset] [(.ref b40)])
    have lq44_b40 := Arv_b40.lt
    obtain ⟨v44, _, ⟨T44, L44, kQ44, nQ44⟩, -, X44, hSq44, hgq44, ⟨Lc44, hQ44, l44, y44, z44, HR44⟩, st44⟩ := callSS X43 hx (y := (⟨"com/example/tarry/tarry/Message", "bytes", "([B)Lcom/example/tarry/tarry/Message;"⟩ : MethodName)) hown (mvT hZ (hw _ (List.mem_of_getElem? (i := 1) rfl))) (mvT hZ (hw _ (List.mem_of_getElem? (i := 2) rfl))) (mvT hZ (hw _ (List.mem_of_getElem? (i := 3) rfl))) (mvT hZ (hw _ (List.mem_of_getElem? (i := 4) rfl))) (by decide) (backOfSH (W := 0) (rmB3 l Z a0 hw [] b40 ka40 p2 p3 p4 em h43 n0 O43 Arv_b40 Exa_b40 S_EM) hZ (hw _ (List.mem_of_getElem? (i := 4) rfl)) (hw _ (List.mem_of_getElem? (i := 3) rfl)) (by decide) (by decide) hEL HC43.1) (g := (mkF m 48 #[.val (.int p1), .val (.int p2), .val (.int p3), .val (.int p4), .val (.int (3 : Int32)), .val (.ref b40), .unset, .unset, .unset, .unset] [(.ref b40)])) rfl (by rw [hml]; rfl) (argsL := [(.ref b40)]) (rest := []) (lenOf pd_rm0_0 rfl) rfl (by show 2 * 0 + _ ≤ _; exact Nat.le_of_eq rfl) (hb hby at_48) (fun _ _ => ⟨rfl, e43, (by decide : 1 + 4 ≤ _), (by decide : 3 + 29 ≤ _)⟩)
    dsimp only [Pt.U, Pt.locs, Pt.cells, Pt.slots] at X44 l44 y44 z44 st44 hQ44 hSq44 hgq44 HR44
    subst l44 y44 z44
    obtain ⟨h44, e44⟩ : ∃ z, T44.heap = z := ⟨_, rfl⟩
    rw [e44] at hQ44 HR44 hSq44 hgq44
    obtain ⟨b44, t44, rfl, Nq44, Kq44, Exa_b44, F_text_b44, F_bytes_b44, F_headers_b44, F_messageId_b44, F_correlationId_b44, F_replyTo_b44, Arv_t44, Exa_t44, frb44, frt44, nbt44⟩ := hQ44
    rw [e43] at hgq44
    have hS44 := (hS0).trans hSq44 (Nat.le_trans hk43 hgq44)
    have hk44 := Nat.le_refl h44.size
    have hZ44 : Z.Warmed39 T44.vm := State.Warmed39.trans (t := s.setVm s.vm) hZ hSq44.1
    have hown44 : T44.vm.findClass "com/example/tarry/tarry/MessageBytesPinLaw" = some m.cls := by rw [hSq44.1.alike.findClass]; exact hown
    have Sf_b40 := HR44.safe Arv_b40.lt Sf_b40
    have HC44 := HC43.trans HR44
    have hZ := hZ44
    have hown := hown44
    have N44 := Fr.app N43 Nq44
    refine GlW.st (fun _ kk => st44.trans kk) ?_
    have Arv_b40 := Arv_b40.keep Kq44 nin0
    have Exa_b40 := Exa_b40.keep Kq44
    have O44 := O43.keep Kq44 all0
    have K44 := K43.trans Kq44 all0
    have ne_b40_b44 : b40 ≠ b44 := Nat.ne_of_lt (Nat.lt_of_lt_of_le lq44_b40 frb44)
    have ge_b44 : n0 ≤ b44 := Nat.le_trans (Nat.le_trans (Nat.le_of_eq O43.1.symm) O43.2.1) frb44
    have fr_b44 : h0.size ≤ b44 := Nat.le_trans K43.1 frb44
    have ne_b40_t44 : b40 ≠ t44 := Nat.ne_of_lt (Nat.lt_of_lt_of_le lq44_b40 frt44)
    have ge_t44 : n0 ≤ t44 := Nat.le_trans (Nat.le_trans (Nat.le_of_eq O43.1.symm) O43.2.1) frt44
    have fr_t44 : h0.size ≤ t44 := Nat.le_trans K43.1 frt44
    have Sf_t44 : Safe Z ([] : List (String × Nat)) T44.vm h44 t44 := fun B => by obtain ⟨_, hm, _⟩ := B; cases hm
    show GlW Z ([] : List (String × Nat)) p e below s _ _ _ T44 (mkF m 51 #[.val (.int p1), .val (.int p2), .val (.int p3), .val (.int p4), .val (.int (3 : Int32)), .val (.ref b40), .unset, .unset, .unset, .unset] [(.ref b44)])
    refine GlW.st (fun _ kk => XS.astore X44.here hx rfl (hb hby at_51) rfl rfl (l' := #[.val (.int p1), .val (.int p2), .val (.int p3), .val (.int p4), .val (.int (3 : Int32)), .val (.ref b40), .val (.ref b44), .unset, .unset, .unset]) rfl kk) ?_
    show GlW Z ([] : List (String × Nat)) p e below s _ _ _ T44 (mkF m 53 #[.val (.int p1), .val (.int p2), .val (.int p3), .val (.int p4), .val (.int (3 : Int32)), .val (.ref b40), .val (.ref b44), .unset, .unset, .unset] [])
    refine GlW.st (fun _ kk => XS.aload X44.here hx rfl (hb hby at_53) rfl rfl kk) ?_
    show GlW Z ([] : List (String × Nat)) p e below s _ _ _ T44 (mkF m 55 #[.val (.int p1), .val (.int p2), .val (.int p3), .val (.int p4), .val (.int (3 : Int32)), .val (.ref b40), .val (.ref b44), .unset, .unset, .unset] [(.ref b40)])
    obtain ⟨v45, _, ⟨T45, L45, kQ45, nQ45⟩, -, X45, ⟨Lc45, hQ45, l45, y45, z45⟩, st45⟩ := Jvm.LawKit.callS X44 hx (y := (⟨"com/example/tarry/tarry/MessageBytesPinLaw", "flip", "([B)V"⟩ : MethodName)) hown (mvT hZ (hw _ (List.mem_of_getElem? (i := 51) rfl))) (mvT hZ (hw _ (List.mem_of_getElem? (i := 52) rfl))) (mvT hZ (hw _ (List.mem_of_getElem? (i := 53) rfl))) (mvT hZ (hw _ (List.mem_of_getElem? (i := 54) rfl))) (by decide) (backOf (W := 0) (rmF3 l Z a0 hw [] b40 ka40 p2 p3 p4 h44 n0 O44 Arv_b40 ge_b40) hZ (hw _ (List.mem_of_getElem? (i := 54) rfl)) (hw _ (List.mem_of_getElem? (i := 53) rfl)) (by decide) (by decide)) (g := (mkF m 55 #[.val (.int p1), .val (.int p2), .val (.int p3), .val (.int p4), .val (.int (3 : Int32)), .val (.ref b40), .val (.ref b44), .unset, .unset, .unset] [(.ref b40)])) rfl (by rw [hml]; rfl) (argsL := [(.ref b40)]) (rest := []) (lenOf pd_rm0_1 rfl) rfl (by show 2 * 0 + _ ≤ _; exact Nat.le_of_eq rfl) (hb hby at_55) (fun _ _ => ⟨rfl, e44, (by decide : 5 + 0 ≤ _), (by decide : 32 + 0 ≤ _)⟩)
    dsimp only [Pt.U, Pt.locs, Pt.cells, Pt.slots] at X45 l45 y45 z45 st45 hQ45
    subst l45 y45 z45
    obtain ⟨h45, e45⟩ : ∃ z, T45.heap = z := ⟨_, rfl⟩
    rw [e45] at hQ45
    obtain ⟨rfl, Nq45, Kq45⟩ := hQ45
    have N45 := Fr.app N44 Nq45
    refine GlW.st st45 ?_
    have sfk45 : ∀ x ∈ [b40], Safe Z ([] : List (String × Nat)) _ _ x := (allS Sf_b40 all0)
    have Sf_b40 := Safe.keep Kq45 sfk45 HC44.1 Sf_b40
    have Sf_t44 := Safe.keep Kq45 sfk45 HC44.1 Sf_t44
    have HC45 := HC44.trans (CHr.keep Kq45 sfk45 HC44.1)
    have hk45 := Nat.le_trans hk44 Kq45.1
    have Exa_b40 := Exa_b40.keep Kq45
    have Exa_b44 := Exa_b44.keep Kq45
    have Arv_t44 := Arv_t44.keep Kq45 (ninS (Ne.symm ne_b40_t44) nin0)
    have Exa_t44 := Exa_t44.keep Kq45
    have F_text_b44 := F_text_b44.keep Kq45 (ninS (Ne.symm ne_b40_b44) nin0)
    have F_bytes_b44 := F_bytes_b44.keep Kq45 (ninS (Ne.symm ne_b40_b44) nin0)
    have F_headers_b44 := F_headers_b44.keep Kq45 (ninS (Ne.symm ne_b40_b44) nin0)
    have F_messageId_b44 := F_messageId_b44.keep Kq45 (ninS (Ne.symm ne_b40_b44) nin0)
    have F_correlationId_b44 := F_correlationId_b44.keep Kq45 (ninS (Ne.symm ne_b40_b44) nin0)
    have F_replyTo_b44 := F_replyTo_b44.keep Kq45 (ninS (Ne.symm ne_b40_b44) nin0)
    have O45 := O44.keep Kq45 (allS ge_b40 all0)
    have K45 := K44.trans Kq45 (allS (Or.inr fr_b40) all0)
    show GlW Z ([] : List (String × Nat)) p e below s _ _ _ T45 (mkF m 58 #[.val (.int p1), .val (.int p2), .val (.int p3), .val (.int p4), .val (.int (3 : Int32)), .val (.ref b40), .val (.ref b44), .unset, .unset, .unset] [])
    refine GlW.st (fun _ kk => XS.aload X45.here hx rfl (hb hby at_58) rfl rfl kk) ?_
    show GlW Z ([] : List (String × Nat)) p e below s _ _ _ T45 (mkF m 60 #[.val (.int p1), .val (.int p2), .val (.int p3), .val (.int p4), .val (.int (3 : Int32)), .val (.ref b40), .val (.ref b44), .unset, .unset, .unset] [(.ref b44)])
    obtain ⟨cq46, kq46, qa46, qb46, qc46⟩ := isOf hZ e45 Exa_b44
    have lq46_b40 := Exa_b40.lt
    have lq46_b44 := Exa_b44.lt
    have lq46_t44 := Arv_t44.lt
    obtain ⟨v46, _, ⟨T46, L46, kQ46, nQ46⟩, -, X46, ⟨Lc46, hQ46, l46, y46, z46⟩, st46⟩ := X45.virtualBack hx (y := (⟨"com/example/tarry/tarry/Message", "bytes", "()[B"⟩ : MethodName)) (z := (⟨"com/example/tarry/tarry/Message", "bytes", "()[B"⟩ : MethodName)) hown (mvT hZ (hw _ (List.mem_of_getElem? (i := 55) rfl))) (mvT hZ (hw _ (List.mem_of_getElem? (i := 56) rfl))) (notFace_of_selects (args := #[]) (mvT hZ (hw _ (List.mem_of_getElem? (i := 58) rfl)))) (mvT hZ (hw _ (List.mem_of_getElem? (i := 58) rfl))) (mvT hZ (hw _ (List.mem_of_getElem? (i := 57) rfl))) (by decide) (backOf (W := 0) (rmG3 l Z a0 hw [] b44 t44 ka40 p2 p3 p4 h45 n0 O45 F_bytes_b44 Arv_t44 Exa_t44) hZ (hw _ (List.mem_of_getElem? (i := 59) rfl)) (hw _ (List.mem_of_getElem? (i := 3) rfl)) (by decide) (by decide)) qa46 qc46 (g := (mkF m 60 #[.val (.int p1), .val (.int p2), .val (.int p3), .val (.int p4), .val (.int (3 : Int32)), .val (.ref b40), .val (.ref b44), .unset, .unset, .unset] [(.ref b44)])) rfl (by rw [hml]; rfl) (Steps.refl _) (argsL := []) (rest := []) (lenOf pd_rm0_2 rfl) rfl (by show 2 * 0 + _ ≤ _; exact Nat.le_of_eq rfl) (hb hby at_60) (fun _ _ => ⟨rfl, e45, (by decide : 5 + 1 ≤ _), (by decide : 32 + 3 ≤ _)⟩)
    dsimp only [Pt.U, Pt.locs, Pt.cells, Pt.slots] at X46 l46 y46 z46 st46 hQ46
    subst l46 y46 z46
    obtain ⟨h46, e46⟩ : ∃ z, T46.heap = z := ⟨_, rfl⟩
    rw [e46] at hQ46
    obtain ⟨b46, rfl, Nq46, Kq46, Arv_b46, frb46⟩ := hQ46
    have N46 := Fr.app N45 Nq46
    refine GlW.st (fun _ kk => st46.trans kk) ?_
    have sfk46 : ∀ x ∈ ([] : List Addr), Safe Z ([] : List (String × Nat)) T44.vm h45 x := all0
    have Sf_b40 := Safe.keep Kq46 sfk46 HC45.1 Sf_b40
    have Sf_t44 := Safe.keep Kq46 sfk46 HC45.1 Sf_t44
    have HC46 := HC45.trans (CHr.keep Kq46 sfk46 HC45.1)
    have hk46 := Nat.le_trans hk45 Kq46.1
    have Exa_b40 := Exa_b40.keep Kq46
    have Exa_b44 := Exa_b44.keep Kq46
    have Arv_t44 := Arv_t44.keep Kq46 nin0
    have Exa_t44 := Exa_t44.keep Kq46
    have F_text_b44 := F_text_b44.keep Kq46 nin0
    have F_bytes_b44 := F_bytes_b44.keep Kq46 nin0
    have F_headers_b44 := F_headers_b44.keep Kq46 nin0
    have F_messageId_b44 := F_messageId_b44.keep Kq46 nin0
    have F_correlationId_b44 := F_correlationId_b44.keep Kq46 nin0
    have F_replyTo_b44 := F_replyTo_b44.keep Kq46 nin0
    have O46 := O45.keep Kq46 all0
    have K46 := K45.trans Kq46 all0
    have ne_b40_b46 : b40 ≠ b46 := Nat.ne_of_lt (Nat.lt_of_lt_of_le lq46_b40 frb46)
    have ne_b44_b46 : b44 ≠ b46 := Nat.ne_of_lt (Nat.lt_of_lt_of_le lq46_b44 frb46)
    have ne_t44_b46 : t44 ≠ b46 := Nat.ne_of_lt (Nat.lt_of_lt_of_le lq46_t44 frb46)
    have ge_b46 : n0 ≤ b46 := Nat.le_trans (Nat.le_trans (Nat.le_of_eq O45.1.symm) O45.2.1) frb46
    have fr_b46 : h0.size ≤ b46 := Nat.le_trans K45.1 frb46
    have Sf_b46 : Safe Z ([] : List (String × Nat)) T44.vm h46 b46 := fun B => by obtain ⟨_, hm, _⟩ := B; cases hm
    show GlW Z ([] : List (String × Nat)) p e below s _ _ _ T46 (mkF m 63 #[.val (.int p1), .val (.int p2), .val (.int p3), .val (.int p4), .val (.int (3 : Int32)), .val (.ref b40), .val (.ref b44), .unset, .unset, .unset] [(.ref b46)])
    refine GlW.st (fun _ kk => XS.astore X46.here hx rfl (hb hby at_63) rfl rfl (l' := #[.val (.int p1), .val (.int p2), .val (.int p3), .val (.int p4), .val (.int (3 : Int32)), .val (.ref b40), .val (.ref b44), .val (.ref b46), .unset, .unset]) rfl kk) ?_
    show GlW Z ([] : List (String × Nat)) p e below s _ _ _ T46 (mkF m 65 #[.val (.int p1), .val (.int p2), .val (.int p3), .val (.int p4), .val (.int (3 : Int32)), .val (.ref b40), .val (.ref b44), .val (.ref b46), .unset, .unset] [])
    refine GlW.st (fun _ kk => XS.aload X46.here hx rfl (hb hby at_65) rfl rfl kk) ?_
    show GlW Z ([] : List (String × Nat)) p e below s _ _ _ T46 (mkF m 67 #[.val (.int p1), .val (.int p2), .val (.int p3), .val (.int p4), .val (.int (3 : Int32)), .val (.ref b40), .val (.ref b44), .val (.ref b46), .unset, .unset] [(.ref b44)])
    obtain ⟨cq47, kq47, qa47, qb47, qc47⟩ := isOf hZ e46 Exa_b44
    obtain ⟨v47, _, ⟨T47, L47, kQ47, nQ47⟩, -, X47, ⟨Lc47, hQ47, l47, y47, z47⟩, st47⟩ := X46.virtualBack hx (y := (⟨"com/example/tarry/tarry/Message", "isText", "()Z"⟩ : MethodName)) (z := (⟨"com/example/tarry/tarry/Message", "isText", "()Z"⟩ : MethodName)) hown (mvT hZ (hw _ (List.mem_of_getElem? (i := 60) rfl))) (mvT hZ (hw _ (List.mem_of_getElem? (i := 61) rfl))) (notFace_of_selects (args := #[]) (mvT hZ (hw _ (List.mem_of_getElem? (i := 63) rfl)))) (mvT hZ (hw _ (List.mem_of_getElem? (i := 63) rfl))) (mvT hZ (hw _ (List.mem_of_getElem? (i := 62) rfl))) (by decide) (backOf (W := 0) (rmT l Z a0 hw [] b44 h46 n0 O46 F_text_b44) hZ (hw _ (List.mem_of_getElem? (i := 64) rfl)) (hw _ (List.mem_of_getElem? (i := 3) rfl)) (by decide) (by decide)) qa47 qc47 (g := (mkF m 67 #[.val (.int p1), .val (.int p2), .val (.int p3), .val (.int p4), .val (.int (3 : Int32)), .val (.ref b40), .val (.ref b44), .val (.ref b46), .unset, .unset] [(.ref b44)])) rfl (by rw [hml]; rfl) (Steps.refl _) (argsL := []) (rest := []) (lenOf pd_rm0_3 rfl) rfl (by show 2 * 0 + _ ≤ _; exact Nat.le_of_eq rfl) (hb hby at_67) (fun _ _ => ⟨rfl, e46, (by decide : 6 + 0 ≤ _), (by decide : 35 + 0 ≤ _)⟩)
    dsimp only [Pt.U, Pt.locs, Pt.cells, Pt.slots] at X47 l47 y47 z47 st47 hQ47
    subst l47 y47 z47
    obtain ⟨rfl, Nq47, e47⟩ := hQ47
    have N47 := Fr.app N46 Nq47
    refine GlW.st (fun _ kk => st47.trans kk) ?_
    show GlW Z ([] : List (String × Nat)) p e below s _ _ _ T47 (mkF m 70 #[.val (.int p1), .val (.int p2), .val (.int p3), .val (.int p4), .val (.int (3 : Int32)), .val (.ref b40), .val (.ref b44), .val (.ref b46), .unset, .unset] [(.int (0 : Int32))])
    refine GlW.st (fun _ kk => XS.ifNo X47.here hx rfl (hb hby at_70) rfl ((if0 _ _).trans (teq (by decide : (0 : Int32) = (0 : Int32))).2) kk) ?_
    show GlW Z ([] : List (String × Nat)) p e below s _ _ _ T47 (mkF m 73 #[.val (.int p1), .val (.int p2), .val (.int p3), .val (.int p4), .val (.int (3 : Int32)), .val (.ref b40), .val (.ref b44), .val (.ref b46), .unset, .unset] [])
    refine GlW.st (fun _ kk => XS.aload X47.here hx rfl (hb hby at_73) rfl rfl kk) ?_
    show GlW Z ([] : List (String × Nat)) p e below s _ _ _ T47 (mkF m 75 #[.val (.int p1), .val (.int p2), .val (.int p3), .val (.int p4), .val (.int (3 : Int32)), .val (.ref b40), .val (.ref b44), .val (.ref b46), .unset, .unset] [(.ref b44)])
    obtain ⟨cq48, kq48, qa48, qb48, qc48⟩ := isOf hZ e47 Exa_b44
    obtain ⟨v48, _, ⟨T48, L48, kQ48, nQ48⟩, -, X48, ⟨Lc48, hQ48, l48, y48, z48⟩, st48⟩ := X47.virtualBack hx (y := (⟨"com/example/tarry/tarry/Message", "messageId", "()Ljava/lang/String;"⟩ : MethodName)) (z := (⟨"com/example/tarry/tarry/Message", "messageId", "()Ljava/lang/String;"⟩ : MethodName)) hown (mvT hZ (hw _ (List.mem_of_getElem? (i := 65) rfl))) (mvT hZ (hw _ (List.mem_of_getElem? (i := 66) rfl))) (notFace_of_selects (args := #[]) (mvT hZ (hw _ (List.mem_of_getElem? (i := 68) rfl)))) (mvT hZ (hw _ (List.mem_of_getElem? (i := 68) rfl))) (mvT hZ (hw _ (List.mem_of_getElem? (i := 67) rfl))) (by decide) (backOf (W := 0) (rmA_messageId l Z a0 hw [] b44 h46 n0 O46 F_messageId_b44) hZ (hw _ (List.mem_of_getElem? (i := 69) rfl)) (hw _ (List.mem_of_getElem? (i := 3) rfl)) (by decide) (by decide)) qa48 qc48 (g := (mkF m 75 #[.val (.int p1), .val (.int p2), .val (.int p3), .val (.int p4), .val (.int (3 : Int32)), .val (.ref b40), .val (.ref b44), .val (.ref b46), .unset, .unset] [(.ref b44)])) rfl (by rw [hml]; rfl) (Steps.refl _) (argsL := []) (rest := []) (lenOf pd_rm0_4 rfl) rfl (by show 2 * 0 + _ ≤ _; exact Nat.le_of_eq rfl) (hb hby at_75) (fun _ _ => ⟨rfl, e47, (by decide : 6 + 0 ≤ _), (by decide : 35 + 0 ≤ _)⟩)
    dsimp only [Pt.U, Pt.locs, Pt.cells, Pt.slots] at X48 l48 y48 z48 st48 hQ48
    subst l48 y48 z48
    obtain ⟨rfl, Nq48, e48⟩ := hQ48
    have N48 := Fr.app N47 Nq48
    refine GlW.st (fun _ kk => st48.trans kk) ?_
    show GlW Z ([] : List (String × Nat)) p e below s _ _ _ T48 (mkF m 78 #[.val (.int p1), .val (.int p2), .val (.int p3), .val (.int p4), .val (.int (3 : Int32)), .val (.ref b40), .val (.ref b44), .val (.ref b46), .unset, .unset] [.null])
    refine GlW.st (fun _ kk => XS.ifnonnullNo X48.here hx rfl (hb hby at_78) rfl kk) ?_
    show GlW Z ([] : List (String × Nat)) p e below s _ _ _ T48 (mkF m 81 #[.val (.int p1), .val (.int p2), .val (.int p3), .val (.int p4), .val (.int (3 : Int32)), .val (.ref b40), .val (.ref b44), .val (.ref b46), .unset, .unset] [])
    refine GlW.st (fun _ kk => XS.aload X48.here hx rfl (hb hby at_81) rfl rfl kk) ?_
    show GlW Z ([] : List (String × Nat)) p e below s _ _ _ T48 (mkF m 83 #[.val (.int p1), .val (.int p2), .val (.int p3), .val (.int p4), .val (.int (3 : Int32)), .val (.ref b40), .val (.ref b44), .val (.ref b46), .unset, .unset] [(.ref b44)])
    obtain ⟨cq49, kq49, qa49, qb49, qc49⟩ := isOf hZ e48 Exa_b44
    obtain ⟨v49, _, ⟨T49, L49, kQ49, nQ49⟩, -, X49, ⟨Lc49, hQ49, l49, y49, z49⟩, st49⟩ := X48.virtualBack hx (y := (⟨"com/example/tarry/tarry/Message", "correlationId", "()Ljava/lang/String;"⟩ : MethodName)) (z := (⟨"com/example/tarry/tarry/Message", "correlationId", "()Ljava/lang/String;"⟩ : MethodName)) hown (mvT hZ (hw _ (List.mem_of_getElem? (i := 70) rfl))) (mvT hZ (hw _ (List.mem_of_getElem? (i := 71) rfl))) (notFace_of_selects (args := #[]) (mvT hZ (hw _ (List.mem_of_getElem? (i := 73) rfl)))) (mvT hZ (hw _ (List.mem_of_getElem? (i := 73) rfl))) (mvT hZ (hw _ (List.mem_of_getElem? (i := 72) rfl))) (by decide) (backOf (W := 0) (rmA_correlationId l Z a0 hw [] b44 h46 n0 O46 F_correlationId_b44) hZ (hw _ (List.mem_of_getElem? (i := 74) rfl)) (hw _ (List.mem_of_getElem? (i := 3) rfl)) (by decide) (by decide)) qa49 qc49 (g := (mkF m 83 #[.val (.int p1), .val (.int p2), .val (.int p3), .val (.int p4), .val (.int (3 : Int32)), .val (.ref b40), .val (.ref b44), .val (.ref b46), .unset, .unset] [(.ref b44)])) rfl (by rw [hml]; rfl) (Steps.refl _) (argsL := []) (rest := []) (lenOf pd_rm0_4 rfl) rfl (by show 2 * 0 + _ ≤ _; exact Nat.le_of_eq rfl) (hb hby at_83) (fun _ _ => ⟨rfl, e48, (by decide : 6 + 0 ≤ _), (by decide : 35 + 0 ≤ _)⟩)
    dsimp only [Pt.U, Pt.locs, Pt.cells, Pt.slots] at X49 l49 y49 z49 st49 hQ49
    subst l49 y49 z49
    obtain ⟨rfl, Nq49, e49⟩ := hQ49
    have N49 := Fr.app N48 Nq49
    refine GlW.st (fun _ kk => st49.trans kk) ?_
    show GlW Z ([] : List (String × Nat)) p e below s _ _ _ T49 (mkF m 86 #[.val (.int p1), .val (.int p2), .val (.int p3), .val (.int p4), .val (.int (3 : Int32)), .val (.ref b40), .val (.ref b44), .val (.ref b46), .unset, .unset] [.null])
    refine GlW.st (fun _ kk => XS.ifnonnullNo X49.here hx rfl (hb hby at_86) rfl kk) ?_
    show GlW Z ([] : List (String × Nat)) p e below s _ _ _ T49 (mkF m 89 #[.val (.int p1), .val (.int p2), .val (.int p3), .val (.int p4), .val (.int (3 : Int32)), .val (.ref b40), .val (.ref b44), .val (.ref b46), .unset, .unset] [])
    refine GlW.st (fun _ kk => XS.aload X49.here hx rfl (hb hby at_89) rfl rfl kk) ?_
    show GlW Z ([] : List (String × Nat)) p e below s _ _ _ T49 (mkF m 91 #[.val (.int p1), .val (.int p2), .val (.int p3), .val (.int p4), .val (.int (3 : Int32)), .val (.ref b40), .val (.ref b44), .val (.ref b46), .unset, .unset] [(.ref b44)])
    obtain ⟨cq50, kq50, qa50, qb50, qc50⟩ := isOf hZ e49 Exa_b44
    obtain ⟨v50, _, ⟨T50, L50, kQ50, nQ50⟩, -, X50, ⟨Lc50, hQ50, l50, y50, z50⟩, st50⟩ := X49.virtualBack hx (y := (⟨"com/example/tarry/tarry/Message", "replyTo", "()Ljava/lang/String;"⟩ : MethodName)) (z := (⟨"com/example/tarry/tarry/Message", "replyTo", "()Ljava/lang/String;"⟩ : MethodName)) hown (mvT hZ (hw _ (List.mem_of_getElem? (i := 75) rfl))) (mvT hZ (hw _ (List.mem_of_getElem? (i := 76) rfl))) (notFace_of_selects (args := #[]) (mvT hZ (hw _ (List.mem_of_getElem? (i := 78) rfl)))) (mvT hZ (hw _ (List.mem_of_getElem? (i := 78) rfl))) (mvT hZ (hw _ (List.mem_of_getElem? (i := 77) rfl))) (by decide) (backOf (W := 0) (rmA_replyTo l Z a0 hw [] b44 h46 n0 O46 F_replyTo_b44) hZ (hw _ (List.mem_of_getElem? (i := 79) rfl)) (hw _ (List.mem_of_getElem? (i := 3) rfl)) (by decide) (by decide)) qa50 qc50 (g := (mkF m 91 #[.val (.int p1), .val (.int p2), .val (.int p3), .val (.int p4), .val (.int (3 : Int32)), .val (.ref b40), .val (.ref b44), .val (.ref b46), .unset, .unset] [(.ref b44)])) rfl (by rw [hml]; rfl) (Steps.refl _) (argsL := []) (rest := []) (lenOf pd_rm0_4 rfl) rfl (by show 2 * 0 + _ ≤ _; exact Nat.le_of_eq rfl) (hb hby at_91) (fun _ _ => ⟨rfl, e49, (by decide : 6 + 0 ≤ _), (by decide : 35 + 0 ≤ _)⟩)
    dsimp only [Pt.U, Pt.locs, Pt.cells, Pt.slots] at X50 l50 y50 z50 st50 hQ50
    subst l50 y50 z50
    obtain ⟨rfl, Nq50, e50⟩ := hQ50
    have N50 := Fr.app N49 Nq50
    refine GlW.st (fun _ kk => st50.trans kk) ?_
    show GlW Z ([] : List (String × Nat)) p e below s _ _ _ T50 (mkF m 94 #[.val (.int p1), .val (.int p2), .val (.int p3), .val (.int p4), .val (.int (3 : Int32)), .val (.ref b40), .val (.ref b44), .val (.ref b46), .unset, .unset] [.null])
    refine GlW.st (fun _ kk => XS.ifnonnullNo X50.here hx rfl (hb hby at_94) rfl kk) ?_
    show GlW Z ([] : List (String × Nat)) p e below s _ _ _ T50 (mkF m 97 #[.val (.int p1), .val (.int p2), .val (.int p3), .val (.int p4), .val (.int (3 : Int32)), .val (.ref b40), .val (.ref b44), .val (.ref b46), .unset, .unset] [])
    refine GlW.st (fun _ kk => XS.aload X50.here hx rfl (hb hby at_97) rfl rfl kk) ?_
    show GlW Z ([] : List (String × Nat)) p e below s _ _ _ T50 (mkF m 99 #[.val (.int p1), .val (.int p2), .val (.int p3), .val (.int p4), .val (.int (3 : Int32)), .val (.ref b40), .val (.ref b44), .val (.ref b46), .unset, .unset] [(.ref b46)])
    refine GlW.st (fun _ kk => XS.iload X50.here hx rfl (hb hby at_99) rfl kk) ?_
    show GlW Z ([] : List (String × Nat)) p e below s _ _ _ T50 (mkF m 101 #[.val (.int p1), .val (.int p2), .val (.int p3), .val (.int p4), .val (.int (3 : Int32)), .val (.ref b40), .val (.ref b44), .val (.ref b46), .unset, .unset] [(.int (3 : Int32)), (.ref b46)])
    refine GlW.st (fun _ kk => XS.iloadN X50.here hx rfl (hb hby at_101) rfl kk) ?_
    show GlW Z ([] : List (String × Nat)) p e below s _ _ _ T50 (mkF m 102 #[.val (.int p1), .val (.int p2), .val (.int p3), .val (.int p4), .val (.int (3 : Int32)), .val (.ref b40), .val (.ref b44), .val (.ref b46), .unset, .unset] [(.int p2), (.int (3 : Int32)), (.ref b46)])
    refine GlW.st (fun _ kk => XS.iloadN X50.here hx rfl (hb hby at_102) rfl kk) ?_
    show GlW Z ([] : List (String × Nat)) p e below s _ _ _ T50 (mkF m 103 #[.val (.int p1), .val (.int p2), .val (.int p3), .val (.int p4), .val (.int (3 : Int32)), .val (.ref b40), .val (.ref b44), .val (.ref b46), .unset, .unset] [(.int p3), (.int p2), (.int (3 : Int32)), (.ref b46)])
    refine GlW.st (fun _ kk => XS.iloadN X50.here hx rfl (hb hby at_103) rfl kk) ?_
    show GlW Z ([] : List (String × Nat)) p e below s _ _ _ T50 (mkF m 104 #[.val (.int p1), .val (.int p2), .val (.int p3), .val (.int p4), .val (.int (3 : Int32)), .val (.ref b40), .val (.ref b44), .val (.ref b46), .unset, .unset] [(.int p4), (.int p3), (.int p2), (.int (3 : Int32)), (.ref b46)])
    obtain ⟨v51, _, ⟨T51, L51, kQ51, nQ51⟩, -, X51, ⟨Lc51, hQ51, l51, y51, z51⟩, st51⟩ := Jvm.LawKit.callS X50 hx (y := (⟨"com/example/tarry/tarry/MessageBytesPinLaw", "same", "([BIIII)Z"⟩ : MethodName)) hown (mvT hZ (hw _ (List.mem_of_getElem? (i := 80) rfl))) (mvT hZ (hw _ (List.mem_of_getElem? (i := 81) rfl))) (mvT hZ (hw _ (List.mem_of_getElem? (i := 53) rfl))) (mvT hZ (hw _ (List.mem_of_getElem? (i := 82) rfl))) (by decide) (backOf (W := 0) (rmS3 l Z a0 hw [] b46 p2 p3 p4 ka40 h46 n0 O46 Arv_b46) hZ (hw _ (List.mem_of_getElem? (i := 82) rfl)) (hw _ (List.mem_of_getElem? (i := 53) rfl)) (by decide) (by decide)) (g := (mkF m 104 #[.val (.int p1), .val (.int p2), .val (.int p3), .val (.int p4), .val (.int (3 : Int32)), .val (.ref b40), .val (.ref b44), .val (.ref b46), .unset, .unset] [(.int p4), (.int p3), (.int p2), (.int (3 : Int32)), (.ref b46)])) rfl (by rw [hml]; rfl) (argsL := [(.ref b46), (.int (3 : Int32)), (.int p2), (.int p3), (.int p4)]) (rest := []) (lenOf pd_rm0_5 rfl) rfl (by show 2 * 0 + _ ≤ _; exact Nat.le_of_eq rfl) (hb hby at_104) (fun _ _ => ⟨rfl, e50, (by decide : 6 + 0 ≤ _), (by decide : 35 + 0 ≤ _)⟩)
    dsimp only [Pt.U, Pt.locs, Pt.cells, Pt.slots] at X51 l51 y51 z51 st51 hQ51
    subst l51 y51 z51
    obtain ⟨rfl, Nq51, e51⟩ := hQ51
    have N51 := Fr.app N50 Nq51
    refine GlW.st st51 ?_
    show GlW Z ([] : List (String × Nat)) p e below s _ _ _ T51 (mkF m 107 #[.val (.int p1), .val (.int p2), .val (.int p3), .val (.int p4), .val (.int (3 : Int32)), .val (.ref b40), .val (.ref b44), .val (.ref b46), .unset, .unset] [(.int (1 : Int32))])
    refine GlW.st (fun _ kk => XS.ifNo X51.here hx rfl (hb hby at_107) rfl ((if0 _ _).trans (feq (by decide : ¬ ((1 : Int32) = (0 : Int32)))).1) kk) ?_
    show GlW Z ([] : List (String × Nat)) p e below s _ _ _ T51 (mkF m 110 #[.val (.int p1), .val (.int p2), .val (.int p3), .val (.int p4), .val (.int (3 : Int32)), .val (.ref b40), .val (.ref b44), .val (.ref b46), .unset, .unset] [])
    refine GlW.st (fun _ kk => XS.iconst X51.here hx rfl (hb hby at_110) kk) ?_
    show GlW Z ([] : List (String × Nat)) p e below s _ _ _ T51 (mkF m 111 #[.val (.int p1), .val (.int p2), .val (.int p3), .val (.int p4), .val (.int (3 : Int32)), .val (.ref b40), .val (.ref b44), .val (.ref b46), .unset, .unset] [(.int (1 : Int32))])
    refine GlW.st (fun _ kk => XS.goto X51.here hx rfl (pc0 := 111) (pc' := 115) rfl (hb hby at_111) (by decide) (by decide) kk) ?_
    show GlW Z ([] : List (String × Nat)) p e below s _ _ _ T51 (mkF m 115 #[.val (.int p1), .val (.int p2), .val (.int p3), .val (.int p4), .val (.int (3 : Int32)), .val (.ref b40), .val (.ref b44), .val (.ref b46), .unset, .unset] [(.int (1 : Int32))])
    refine GlW.st (fun _ kk => XS.istore X51.here hx rfl (hb hby at_115) rfl (l' := #[.val (.int p1), .val (.int p2), .val (.int p3), .val (.int p4), .val (.int (3 : Int32)), .val (.ref b40), .val (.ref b44), .val (.ref b46), .val (.int (1 : Int32)), .unset]) rfl kk) ?_
    show GlW Z ([] : List (String × Nat)) p e below s _ _ _ T51 (mkF m 117 #[.val (.int p1), .val (.int p2), .val (.int p3), .val (.int p4), .val (.int (3 : Int32)), .val (.ref b40), .val (.ref b44), .val (.ref b46), .val (.int (1 : Int32)), .unset] [])
    refine GlW.st (fun _ kk => XS.aload X51.here hx rfl (hb hby at_117) rfl rfl kk) ?_
    show GlW Z ([] : List (String × Nat)) p e below s _ _ _ T51 (mkF m 119 #[.val (.int p1), .val (.int p2), .val (.int p3), .val (.int p4), .val (.int (3 : Int32)), .val (.ref b40), .val (.ref b44), .val (.ref b46), .val (.int (1 : Int32)), .unset] [(.ref b46)])
    obtain ⟨v52, _, ⟨T52, L52, kQ52, nQ52⟩, -, X52, ⟨Lc52, hQ52, l52, y52, z52⟩, st52⟩ := Jvm.LawKit.callS X51 hx (y := (⟨"com/example/tarry/tarry/MessageBytesPinLaw", "flip", "([B)V"⟩ : MethodName)) hown (mvT hZ (hw _ (List.mem_of_getElem? (i := 51) rfl))) (mvT hZ (hw _ (List.mem_of_getElem? (i := 52) rfl))) (mvT hZ (hw _ (List.mem_of_getElem? (i := 53) rfl))) (mvT hZ (hw _ (List.mem_of_getElem? (i := 54) rfl))) (by decide) (backOf (W := 0) (rmF3 l Z a0 hw [] b46 ka40 p2 p3 p4 h46 n0 O46 Arv_b46 ge_b46) hZ (hw _ (List.mem_of_getElem? (i := 54) rfl)) (hw _ (List.mem_of_getElem? (i := 53) rfl)) (by decide) (by decide)) (g := (mkF m 119 #[.val (.int p1), .val (.int p2), .val (.int p3), .val (.int p4), .val (.int (3 : Int32)), .val (.ref b40), .val (.ref b44), .val (.ref b46), .val (.int (1 : Int32)), .unset] [(.ref b46)])) rfl (by rw [hml]; rfl) (argsL := [(.ref b46)]) (rest := []) (lenOf pd_rm0_1 rfl) rfl (by show 2 * 0 + _ ≤ _; exact Nat.le_of_eq rfl) (hb hby at_119) (fun _ _ => ⟨rfl, e51, (by decide : 6 + 0 ≤ _), (by decide : 35 + 0 ≤ _)⟩)
    dsimp only [Pt.U, Pt.locs, Pt.cells, Pt.slots] at X52 l52 y52 z52 st52 hQ52
    subst l52 y52 z52
    obtain ⟨h52, e52⟩ : ∃ z, T52.heap = z := ⟨_, rfl⟩
    rw [e52] at hQ52
    obtain ⟨rfl, Nq52, Kq52⟩ := hQ52
    have N52 := Fr.app N51 Nq52
    refine GlW.st st52 ?_
    have sfk52 : ∀ x ∈ [b46], Safe Z ([] : List (String × Nat)) _ _ x := (allS Sf_b46 all0)
    have Sf_b40 := Safe.keep Kq52 sfk52 HC46.1 Sf_b40
    have Sf_t44 := Safe.keep Kq52 sfk52 HC46.1 Sf_t44
    have Sf_b46 := Safe.keep Kq52 sfk52 HC46.1 Sf_b46
    have HC52 := HC46.trans (CHr.keep Kq52 sfk52 HC46.1)
    have hk52 := Nat.le_trans hk46 Kq52.1
    have Exa_b40 := Exa_b40.keep Kq52
    have Exa_b44 := Exa_b44.keep Kq52
    have Arv_t44 := Arv_t44.keep Kq52 (ninS ne_t44_b46 nin0)
    have Exa_t44 := Exa_t44.keep Kq52
    have F_text_b44 := F_text_b44.keep Kq52 (ninS ne_b44_b46 nin0)
    have F_bytes_b44 := F_bytes_b44.keep Kq52 (ninS ne_b44_b46 nin0)
    have F_headers_b44 := F_headers_b44.keep Kq52 (ninS ne_b44_b46 nin0)
    have F_messageId_b44 := F_messageId_b44.keep Kq52 (ninS ne_b44_b46 nin0)
    have F_correlationId_b44 := F_correlationId_b44.keep Kq52 (ninS ne_b44_b46 nin0)
    have F_replyTo_b44 := F_replyTo_b44.keep Kq52 (ninS ne_b44_b46 nin0)
    have O52 := O46.keep Kq52 (allS ge_b46 all0)
    have K52 := K46.trans Kq52 (allS (Or.inr fr_b46) all0)
    show GlW Z ([] : List (String × Nat)) p e below s _ _ _ T52 (mkF m 122 #[.val (.int p1), .val (.int p2), .val (.int p3), .val (.int p4), .val (.int (3 : Int32)), .val (.ref b40), .val (.ref b44), .val (.ref b46), .val (.int (1 : Int32)), .unset] [])
    refine GlW.st (fun _ kk => XS.aload X52.here hx rfl (hb hby at_122) rfl rfl kk) ?_
    show GlW Z ([] : List (String × Nat)) p e below s _ _ _ T52 (mkF m 124 #[.val (.int p1), .val (.int p2), .val (.int p3), .val (.int p4), .val (.int (3 : Int32)), .val (.ref b40), .val (.ref b44), .val (.ref b46), .val (.int (1 : Int32)), .unset] [(.ref b44)])
    obtain ⟨cq53, kq53, qa53, qb53, qc53⟩ := isOf hZ e52 Exa_b44
    have lq53_b40 := Exa_b40.lt
    have lq53_b44 := Exa_b44.lt
    have lq53_t44 := Arv_t44.lt
    obtain ⟨v53, _, ⟨T53, L53, kQ53, nQ53⟩, -, X53, ⟨Lc53, hQ53, l53, y53, z53⟩, st53⟩ := X52.virtualBack hx (y := (⟨"com/example/tarry/tarry/Message", "bytes", "()[B"⟩ : MethodName)) (z := (⟨"com/example/tarry/tarry/Message", "bytes", "()[B"⟩ : MethodName)) hown (mvT hZ (hw _ (List.mem_of_getElem? (i := 55) rfl))) (mvT hZ (hw _ (List.mem_of_getElem? (i := 56) rfl))) (notFace_of_selects (args := #[]) (mvT hZ (hw _ (List.mem_of_getElem? (i := 58) rfl)))) (mvT hZ (hw _ (List.mem_of_getElem? (i := 58) rfl))) (mvT hZ (hw _ (List.mem_of_getElem? (i := 57) rfl))) (by decide) (backOf (W := 0) (rmG3 l Z a0 hw [] b44 t44 ka40 p2 p3 p4 h52 n0 O52 F_bytes_b44 Arv_t44 Exa_t44) hZ (hw _ (List.mem_of_getElem? (i := 59) rfl)) (hw _ (List.mem_of_getElem? (i := 3) rfl)) (by decide) (by decide)) qa53 qc53 (g := (mkF m 124 #[.val (.int p1), .val (.int p2), .val (.int p3), .val (.int p4), .val (.int (3 : Int32)), .val (.ref b40), .val (.ref b44), .val (.ref b46), .val (.int (1 : Int32)), .unset] [(.ref b44)])) rfl (by rw [hml]; rfl) (Steps.refl _) (argsL := []) (rest := []) (lenOf pd_rm0_2 rfl) rfl (by show 2 * 0 + _ ≤ _; exact Nat.le_of_eq rfl) (hb hby at_124) (fun _ _ => ⟨rfl, e52, (by decide : 6 + 1 ≤ _), (by decide : 35 + 3 ≤ _)⟩)
    dsimp only [Pt.U, Pt.locs, Pt.cells, Pt.slots] at X53 l53 y53 z53 st53 hQ53
    subst l53 y53 z53
    obtain ⟨h53, e53⟩ : ∃ z, T53.heap = z := ⟨_, rfl⟩
    rw [e53] at hQ53
    obtain ⟨b53, rfl, Nq53, Kq53, Arv_b53, frb53⟩ := hQ53
    have N53 := Fr.app N52 Nq53
    refine GlW.st (fun _ kk => st53.trans kk) ?_
    have sfk53 : ∀ x ∈ ([] : List Addr), Safe Z ([] : List (String × Nat)) T44.vm h52 x := all0
    have Sf_b40 := Safe.keep Kq53 sfk53 HC52.1 Sf_b40
    have Sf_t44 := Safe.keep Kq53 sfk53 HC52.1 Sf_t44
    have Sf_b46 := Safe.keep Kq53 sfk53 HC52.1 Sf_b46
    have HC53 := HC52.trans (CHr.keep Kq53 sfk53 HC52.1)
    have hk53 := Nat.le_trans hk52 Kq53.1
    have Exa_b40 := Exa_b40.keep Kq53
    have Exa_b44 := Exa_b44.keep Kq53
    have Arv_t44 := Arv_t44.keep Kq53 nin0
    have Exa_t44 := Exa_t44.keep Kq53
    have F_text_b44 := F_text_b44.keep Kq53 nin0
    have F_bytes_b44 := F_bytes_b44.keep Kq53 nin0
    have F_headers_b44 := F_headers_b44.keep Kq53 nin0
    have F_messageId_b44 := F_messageId_b44.keep Kq53 nin0
    have F_correlationId_b44 := F_correlationId_b44.keep Kq53 nin0
    have F_replyTo_b44 := F_replyTo_b44.keep Kq53 nin0
    have O53 := O52.keep Kq53 all0
    have K53 := K52.trans Kq53 all0
    have ne_b40_b53 : b40 ≠ b53 := Nat.ne_of_lt (Nat.lt_of_lt_of_le lq53_b40 frb53)
    have ne_b44_b53 : b44 ≠ b53 := Nat.ne_of_lt (Nat.lt_of_lt_of_le lq53_b44 frb53)
    have ne_t44_b53 : t44 ≠ b53 := Nat.ne_of_lt (Nat.lt_of_lt_of_le lq53_t44 frb53)
    have ge_b53 : n0 ≤ b53 := Nat.le_trans (Nat.le_trans (Nat.le_of_eq O52.1.symm) O52.2.1) frb53
    have fr_b53 : h0.size ≤ b53 := Nat.le_trans K52.1 frb53
    have Sf_b53 : Safe Z ([] : List (String × Nat)) T44.vm h53 b53 := fun B => by obtain ⟨_, hm, _⟩ := B; cases hm
    show GlW Z ([] : List (String × Nat)) p e below s _ _ _ T53 (mkF m 127 #[.val (.int p1), .val (.int p2), .val (.int p3), .val (.int p4), .val (.int (3 : Int32)), .val (.ref b40), .val (.ref b44), .val (.ref b46), .val (.int (1 : Int32)), .unset] [(.ref b53)])
    refine GlW.st (fun _ kk => XS.astore X53.here hx rfl (hb hby at_127) rfl rfl (l' := #[.val (.int p1), .val (.int p2), .val (.int p3), .val (.int p4), .val (.int (3 : Int32)), .val (.ref b40), .val (.ref b44), .val (.ref b46), .val (.int (1 : Int32)), .val (.ref b53)]) rfl kk) ?_
    show GlW Z ([] : List (String × Nat)) p e below s _ _ _ T53 (mkF m 129 #[.val (.int p1), .val (.int p2), .val (.int p3), .val (.int p4), .val (.int (3 : Int32)), .val (.ref b40), .val (.ref b44), .val (.ref b46), .val (.int (1 : Int32)), .val (.ref b53)] [])
    refine GlW.st (fun _ kk => XS.iload X53.here hx rfl (hb hby at_129) rfl kk) ?_
    show GlW Z ([] : List (String × Nat)) p e below s _ _ _ T53 (mkF m 131 #[.val (.int p1), .val (.int p2), .val (.int p3), .val (.int p4), .val (.int (3 : Int32)), .val (.ref b40), .val (.ref b44), .val (.ref b46), .val (.int (1 : Int32)), .val (.ref b53)] [(.int (1 : Int32))])
    refine GlW.st (fun _ kk => XS.ifNo X53.here hx rfl (hb hby at_131) rfl ((if0 _ _).trans (feq (by decide : ¬ ((1 : Int32) = (0 : Int32)))).1) kk) ?_
    show GlW Z ([] : List (String × Nat)) p e below s _ _ _ T53 (mkF m 134 #[.val (.int p1), .val (.int p2), .val (.int p3), .val (.int p4), .val (.int (3 : Int32)), .val (.ref b40), .val (.ref b44), .val (.ref b46), .val (.int (1 : Int32)), .val (.ref b53)] [])
    refine GlW.st (fun _ kk => XS.aload X53.here hx rfl (hb hby at_134) rfl rfl kk) ?_
    show GlW Z ([] : List (String × Nat)) p e below s _ _ _ T53 (mkF m 136 #[.val (.int p1), .val (.int p2), .val (.int p3), .val (.int p4), .val (.int (3 : Int32)), .val (.ref b40), .val (.ref b44), .val (.ref b46), .val (.int (1 : Int32)), .val (.ref b53)] [(.ref b53)])
    refine GlW.st (fun _ kk => XS.iload X53.here hx rfl (hb hby at_136) rfl kk) ?_
    show GlW Z ([] : List (String × Nat)) p e below s _ _ _ T53 (mkF m 138 #[.val (.int p1), .val (.int p2), .val (.int p3), .val (.int p4), .val (.int (3 : Int32)), .val (.ref b40), .val (.ref b44), .val (.ref b46), .val (.int (1 : Int32)), .val (.ref b53)] [(.int (3 : Int32)), (.ref b53)])
    refine GlW.st (fun _ kk => XS.iloadN X53.here hx rfl (hb hby at_138) rfl kk) ?_
    show GlW Z ([] : List (String × Nat)) p e below s _ _ _ T53 (mkF m 139 #[.val (.int p1), .val (.int p2), .val (.int p3), .val (.int p4), .val (.int (3 : Int32)), .val (.ref b40), .val (.ref b44), .val (.ref b46), .val (.int (1 : Int32)), .val (.ref b53)] [(.int p2), (.int (3 : Int32)), (.ref b53)])
    refine GlW.st (fun _ kk => XS.iloadN X53.here hx rfl (hb hby at_139) rfl kk) ?_
    show GlW Z ([] : List (String × Nat)) p e below s _ _ _ T53 (mkF m 140 #[.val (.int p1), .val (.int p2), .val (.int p3), .val (.int p4), .val (.int (3 : Int32)), .val (.ref b40), .val (.ref b44), .val (.ref b46), .val (.int (1 : Int32)), .val (.ref b53)] [(.int p3), (.int p2), (.int (3 : Int32)), (.ref b53)])
    refine GlW.st (fun _ kk => XS.iloadN X53.here hx rfl (hb hby at_140) rfl kk) ?_
    show GlW Z ([] : List (String × Nat)) p e below s _ _ _ T53 (mkF m 141 #[.val (.int p1), .val (.int p2), .val (.int p3), .val (.int p4), .val (.int (3 : Int32)), .val (.ref b40), .val (.ref b44), .val (.ref b46), .val (.int (1 : Int32)), .val (.ref b53)] [(.int p4), (.int p3), (.int p2), (.int (3 : Int32)), (.ref b53)])
    obtain ⟨v54, _, ⟨T54, L54, kQ54, nQ54⟩, -, X54, ⟨Lc54, hQ54, l54, y54, z54⟩, st54⟩ := Jvm.LawKit.callS X53 hx (y := (⟨"com/example/tarry/tarry/MessageBytesPinLaw", "same", "([BIIII)Z"⟩ : MethodName)) hown (mvT hZ (hw _ (List.mem_of_getElem? (i := 80) rfl))) (mvT hZ (hw _ (List.mem_of_getElem? (i := 81) rfl))) (mvT hZ (hw _ (List.mem_of_getElem? (i := 53) rfl))) (mvT hZ (hw _ (List.mem_of_getElem? (i := 82) rfl))) (by decide) (backOf (W := 0) (rmS3 l Z a0 hw [] b53 p2 p3 p4 ka40 h53 n0 O53 Arv_b53) hZ (hw _ (List.mem_of_getElem? (i := 82) rfl)) (hw _ (List.mem_of_getElem? (i := 53) rfl)) (by decide) (by decide)) (g := (mkF m 141 #[.val (.int p1), .val (.int p2), .val (.int p3), .val (.int p4), .val (.int (3 : Int32)), .val (.ref b40), .val (.ref b44), .val (.ref b46), .val (.int (1 : Int32)), .val (.ref b53)] [(.int p4), (.int p3), (.int p2), (.int (3 : Int32)), (.ref b53)])) rfl (by rw [hml]; rfl) (argsL := [(.ref b53), (.int (3 : Int32)), (.int p2), (.int p3), (.int p4)]) (rest := []) (lenOf pd_rm0_5 rfl) rfl (by show 2 * 0 + _ ≤ _; exact Nat.le_of_eq rfl) (hb hby at_141) (fun _ _ => ⟨rfl, e53, (by decide : 7 + 0 ≤ _), (by decide : 38 + 0 ≤ _)⟩)
    dsimp only [Pt.U, Pt.locs, Pt.cells, Pt.slots] at X54 l54 y54 z54 st54 hQ54
    subst l54 y54 z54
    obtain ⟨rfl, Nq54, e54⟩ := hQ54
    have N54 := Fr.app N53 Nq54
    refine GlW.st st54 ?_
    show GlW Z ([] : List (String × Nat)) p e below s _ _ _ T54 (mkF m 144 #[.val (.int p1), .val (.int p2), .val (.int p3), .val (.int p4), .val (.int (3 : Int32)), .val (.ref b40), .val (.ref b44), .val (.ref b46), .val (.int (1 : Int32)), .val (.ref b53)] [(.int (1 : Int32))])
    refine GlW.st (fun _ kk => XS.ifNo X54.here hx rfl (hb hby at_144) rfl ((if0 _ _).trans (feq (by decide : ¬ ((1 : Int32) = (0 : Int32)))).1) kk) ?_
    show GlW Z ([] : List (String × Nat)) p e below s _ _ _ T54 (mkF m 147 #[.val (.int p1), .val (.int p2), .val (.int p3), .val (.int p4), .val (.int (3 : Int32)), .val (.ref b40), .val (.ref b44), .val (.ref b46), .val (.int (1 : Int32)), .val (.ref b53)] [])
    refine GlW.st (fun _ kk => XS.iconst X54.here hx rfl (hb hby at_147) kk) ?_
    show GlW Z ([] : List (String × Nat)) p e below s _ _ _ T54 (mkF m 148 #[.val (.int p1), .val (.int p2), .val (.int p3), .val (.int p4), .val (.int (3 : Int32)), .val (.ref b40), .val (.ref b44), .val (.ref b46), .val (.int (1 : Int32)), .val (.ref b53)] [(.int (1 : Int32))])
    refine GlW.st (fun _ kk => XS.goto X54.here hx rfl (pc0 := 148) (pc' := 152) rfl (hb hby at_148) (by decide) (by decide) kk) ?_
    show GlW Z ([] : List (String × Nat)) p e below s _ _ _ T54 (mkF m 152 #[.val (.int p1), .val (.int p2), .val (.int p3), .val (.int p4), .val (.int (3 : Int32)), .val (.ref b40), .val (.ref b44), .val (.ref b46), .val (.int (1 : Int32)), .val (.ref b53)] [(.int (1 : Int32))])
    exact GlW.ret X54 hS44 hk53 hZ hEL hh0 HC53 (v := (some (.int (1 : Int32)))) (fun h => by rw [Bd.returns] at h; cases h) (BodyLoose.notSynchronized Bd) (fun hr => retN X54 hx (t := .boolean) Bd.returns (by simp) (hb hby at_152) hr) e54 ⟨rfl, N54⟩ (by decide) (by decide)
set_option maxRecDepth 65536 in
set_option maxHeartbeats 40000000 in
theorem comes_1 {Post : Tables → Env → Array Value → State → Outcome → State → Prop} (hpost : ∀ tb e args s v u, (limb_1_1.after args s (.returned v) u = true ∧ limb_1_2.after args s (.returned v) u = true ∧ True) → ReturnedEndW s (.returned v) u (Jvm.fieldLocs frame_1_writes args s ++ Jvm.arrayLocs frame_1_arrays args s ++ Jvm.staticLocs frame_1_statics s) 24 1152 → Post tb e args s (.returned v) u) :
    ArmFor flags0 classFile x code maxLocals ret World_1 tables_1 room_1 Calls_1 rest_1 Pre_1 Post := by
  intro l hfl _ _ p e ha hc hk s m args below hf hA hF happ hP
  obtain ⟨hcalls, hrest, hpre⟩ := hP
  obtain ⟨-, -, -, hnamed, -, -, -, hat⟩ := (Spec.applies_iff hf).mp happ
  obtain ⟨hg, hn⟩ := and_e (Cond.before_iff.mp (show (Jvm.Cond.and given_1 narrow_1).before args s = true from hpre))
  obtain ⟨g1a, g1b⟩ := and_e hg
  obtain ⟨g2a, g2b⟩ := and_e g1b
  obtain ⟨g3a, g3b⟩ := and_e g2b
  obtain ⟨g4a, g4b⟩ := and_e g3b
  obtain ⟨w0, w1, w2, w3, rfl⟩ : ∃ w0 w1 w2 w3 : Value, args = #[w0, w1, w2, w3] := by
    have hs : args.size = 4 := by simpa [Cond.value, given_1] using g1a
    obtain ⟨L⟩ := args
    match L, hs with
    | [w0, w1, w2, w3], _ => exact ⟨w0, w1, w2, w3, rfl⟩
  have hw := fun d (hd : d ∈ tables_1) => atoms_spec (ws := Jvm.Cond.code x code maxLocals ret :: tables_1) hat d (List.mem_cons_of_mem _ hd)
  have hfit : Fit s := fun {y c} hc i hi => by
    obtain ⟨ha, rfl⟩ := Array.getElem?_eq_some_iff.mp hc
    have q := List.all_eq_true.mp ((Array.all_eq_true_iff_forall_mem.mp hF) _ (Array.getElem_mem ha)) i (List.mem_range.mpr hi)
    simpa [Array.getElem?_eq_getElem hi] using q
  obtain ⟨hsets, hown0⟩ := atoms_of _ (rest_1_c_eq ▸ (show rest_1_c.before _ s = true from hrest))
  have hr0 := Cond.before_iff.mp hown0
  obtain ⟨i0, ei0⟩ := is_v g2a
  obtain rfl : w0 = (.int i0) := Option.some.inj ei0
  obtain ⟨i1, ei1⟩ := is_v g3a
  obtain rfl : w1 = (.int i1) := Option.some.inj ei1
  obtain ⟨i2, ei2⟩ := is_v g4a
  obtain rfl : w2 = (.int i2) := Option.some.inj ei2
  obtain ⟨i3, ei3⟩ := is_v g4b
  obtain rfl : w3 = (.int i3) := Option.some.inj ei3
  obtain ⟨em, evem⟩ := exa_v (Cond.before_iff.mp (hsets _ (List.mem_of_getElem? (i := 2) rfl)))
  have S_EM := Sta.start evem (Or.inl (hsets _ (List.mem_of_getElem? (i := 1) rfl)))
  obtain ⟨n, o, h1, h2, h3, _, L, rfl, ⟨rfl, N⟩, -, hq⟩ := rm0 l s _ hw tables_1 i0 i1 i2 i3 em s.heap s.heap.size (Old.start s) S_EM p e ha hc hk s m _ below hf ((Spec.applies_iff_loose hf).mp happ).1 ⟨rfl, State.Warmed39.refl s, rfl, fun _ hp => nomatch hp⟩ trivial
  refine ⟨n, _, h1, h2, h3, hpost _ _ _ _ _ _ ⟨Cond.after_iff.mpr rfl, Cond.after_iff.mpr (eq_i res_at (Term.int_eval (1)) rfl), trivial⟩ ⟨hq.1, hq.2.1, hq.2.2.1, (hq.2.2.2.sift fun y hy => Or.inr (N y hy)).mono (by decide) (by decide)⟩⟩
theorem main_1_1 : Claimed_1_1 := comes_1 fun _ _ _ _ _ _ h hF => ⟨h.1, hF⟩
theorem main_1_2 : Claimed_1_2 := comes_1 fun _ _ _ _ _ _ h hF => ⟨h.2.1, hF⟩
end Jvm.Pilot.@@N@@
namespace Jvm.Pilot.@@N@@
open Jvm Jvm.ClassFile Sem Op Lib Jvm.Free Jvm.Stand Jvm.Pilot.@@N@@.Jvm.D
/-! MADE BY PROGRAM (witnessworld.py) out of the Statement's table words and the real class files: 21 classes; the members and pool entries that the words name. The judged class is class 1, her method 1. -/
namespace start1
open Jvm.ClassFile
def u (s : String) : CpInfo := .utf8 (stringToUtf16 s)
/-- a pool by its gaps: so many unusable entries, then the entry; so many at the end -/
def gap : Nat → List CpInfo → List CpInfo
  | 0, r => r
  | n + 1, r => .unusable :: gap n r
def poolList (es : List (Nat × CpInfo)) (last : Nat) : List CpInfo := es.foldr (fun e r => gap e.1 (e.2 :: r)) (gap last [])
def pool (es : List (Nat × CpInfo)) (last : Nat) : Array CpInfo := ⟨poolList es last⟩
def fileOf (pool : Array CpInfo) (this : Nat) (attrs : Array Attribute := #[]) (ms : Array MethodInfo := #[]) (fl : Nat := 33) (sup : Nat := 0) (ifs : Array Nat := #[]) (fds : Array FieldInfo := #[]) : ClassFile where
  minorVersion := 0
  majorVersion := 65
  constantPool := pool
  accessFlags := fl
  thisClass := this
  superClass := sup
  interfaces := ifs
  fields := fds
  methods := ms
  attributes := attrs
def plain (name : String) (sup : Option ClassId) : Class where
  name := name
  kind := .ordinary
  loader := none
  accessFlags := 33
  super := sup
  interfaces := #[]
  cf := none
  fields := #[]
  methods := #[]
  instanceTypes := #[]
  staticTypes := #[]
  resolved := #[]
  callSites := []
  init := .initialized
  statics := none
  mirror := none

def pool0 : Array CpInfo := pool [(5, u "<init>"), (0, u "()V"), (1, .class_ 10), (1, u "java/lang/Object"), (85, u "clone"), (0, u "()Ljava/lang/Object;")] 26

def k0c0 : Code := { maxStack := 0, maxLocals := 1, code := object_method_1_code, exceptionTable := #[], attributes := #[] }
def k0m0 : Method := { name := "<init>", desc := "()V", sig := { parameters := [], returnType := none }, accessFlags := 1, code := some k0c0 }
def k0m1 : Method := { name := "clone", desc := "()Ljava/lang/Object;", sig := { parameters := [], returnType := some (.object "java/lang/Object") }, accessFlags := 260, code := none }
/-- java/lang/Object -/
def k0 : Class := { plain "java/lang/Object" none with
  accessFlags := 33
  interfaces := #[]
  cf := some (fileOf pool0 8 #[] #[{ accessFlags := 1, nameIndex := 5, descriptorIndex := 6, attributes := #[] }, { accessFlags := 260, nameIndex := 96, descriptorIndex := 97, attributes := #[] }] 33 0 #[] #[])
  fields := #[]
  methods := #[k0m0, k0m1]
  instanceTypes := #[]
  staticTypes := #[]
  resolved := Array.replicate 124 none
  statics := none }

def pool1 : Array CpInfo := pool [(2, .class_ 4), (1, u "java/lang/Object"), (0, u "<init>"), (0, u "()V"), (0, .methodref 8 9), (0, .class_ 10), (0, .nameAndType 11 12), (0, u "com/example/tarry/tarry/Message"), (0, u "bytes"), (0, u "([B)Lcom/example/tarry/tarry/Message;"), (0, .methodref 14 15), (0, .class_ 16), (0, .nameAndType 17 18), (0, u "com/example/tarry/tarry/MessageBytesPinLaw"), (0, u "flip"), (0, u "([B)V"), (0, .methodref 8 20), (0, .nameAndType 11 21), (0, u "()[B"), (0, .methodref 8 23), (0, .nameAndType 24 25), (0, u "isText"), (0, u "()Z"), (0, .methodref 8 27), (0, .nameAndType 28 29), (0, u "messageId"), (0, u "()Ljava/lang/String;"), (0, .methodref 8 31), (0, .nameAndType 32 29), (0, u "correlationId"), (0, .methodref 8 34), (0, .nameAndType 35 29), (0, u "replyTo"), (0, .methodref 14 37), (0, .nameAndType 38 39), (0, u "same"), (0, u "([BIIII)Z"), (2, u "law"), (0, u "(IIII)Z")] 5

def k1m0 : Method := { name := "<init>", desc := "()V", sig := { parameters := [], returnType := none }, accessFlags := 1, code := none }
def k1c1 : Code := { maxStack := 5, maxLocals := 10, code := code, exceptionTable := #[], attributes := #[] }
def k1m1 : Method := { name := "law", desc := "(IIII)Z", sig := { parameters := [.int, .int, .int, .int], returnType := some .boolean }, accessFlags := 9, code := some k1c1 }
def k1c2 : Code := { maxStack := 4, maxLocals := 1, code := method_3_code, exceptionTable := #[], attributes := #[] }
def k1m2 : Method := { name := "flip", desc := "([B)V", sig := { parameters := [(.array .byte)], returnType := none }, accessFlags := 10, code := some k1c2 }
def k1c3 : Code := { maxStack := 2, maxLocals := 5, code := method_4_code, exceptionTable := #[], attributes := #[] }
def k1m3 : Method := { name := "same", desc := "([BIIII)Z", sig := { parameters := [(.array .byte), .int, .int, .int, .int], returnType := some .boolean }, accessFlags := 10, code := some k1c3 }
/-- com/example/tarry/tarry/MessageBytesPinLaw -/
def k1 : Class := { plain "com/example/tarry/tarry/MessageBytesPinLaw" (some 0) with
  accessFlags := 49
  interfaces := #[]
  cf := some (fileOf pool1 14 #[] #[{ accessFlags := 1, nameIndex := 5, descriptorIndex := 6, attributes := #[] }, { accessFlags := 9, nameIndex := 42, descriptorIndex := 43, attributes := #[] }, { accessFlags := 10, nameIndex := 17, descriptorIndex := 18, attributes := #[] }, { accessFlags := 10, nameIndex := 38, descriptorIndex := 39, attributes := #[] }] 49 2 #[] #[])
  fields := #[]
  methods := #[k1m0, k1m1, k1m2, k1m3]
  instanceTypes := #[]
  staticTypes := #[]
  resolved := Array.replicate 49 none
  statics := none }

def pool2 : Array CpInfo := pool [(1, .methodref 2 3), (0, .class_ 4), (0, .nameAndType 5 6), (0, u "java/lang/Object"), (0, u "<init>"), (0, u "()V"), (0, .fieldref 8 9), (0, .class_ 10), (0, .nameAndType 11 12), (0, u "com/example/tarry/tarry/Message"), (0, u "text"), (0, u "Ljava/lang/String;"), (0, .fieldref 8 14), (0, .nameAndType 15 16), (0, u "bytes"), (0, u "[B"), (0, .fieldref 8 18), (0, .nameAndType 19 20), (0, u "headers"), (0, u "Ljava/util/Map;"), (0, .fieldref 8 22), (0, .nameAndType 23 12), (0, u "messageId"), (0, .fieldref 8 25), (0, .nameAndType 26 12), (0, u "correlationId"), (0, .fieldref 8 28), (0, .nameAndType 29 12), (0, u "replyTo"), (1, .methodref 32 33), (0, .class_ 34), (0, .nameAndType 35 36), (0, u "java/util/Objects"), (0, u "requireNonNull"), (0, u "(Ljava/lang/Object;Ljava/lang/String;)Ljava/lang/Object;"), (0, .interfaceMethodref 38 39), (0, .class_ 40), (0, .nameAndType 41 42), (0, u "java/util/Map"), (0, u "of"), (0, u "()Ljava/util/Map;"), (0, .methodref 8 44), (0, .nameAndType 5 45), (0, u "(Ljava/lang/String;[BLjava/util/Map;Ljava/lang/String;Ljava/lang/String;Ljava/lang/String;)V"), (0, .string 47), (0, u "body"), (0, .methodref 49 50), (0, .class_ 16), (0, .nameAndType 51 52), (0, u "clone"), (0, u "()Ljava/lang/Object;"), (60, u "isText"), (0, u "()Z"), (25, u "([B)Lcom/example/tarry/tarry/Message;"), (1, u "()Ljava/lang/String;"), (0, u "()[B")] 30

def k2c0 : Code := { maxStack := 2, maxLocals := 7, code := prog_13_method_1_code, exceptionTable := #[], attributes := #[] }
def k2m0 : Method := { name := "<init>", desc := "(Ljava/lang/String;[BLjava/util/Map;Ljava/lang/String;Ljava/lang/String;Ljava/lang/String;)V", sig := { parameters := [(.object "java/lang/String"), (.array .byte), (.object "java/util/Map"), (.object "java/lang/String"), (.object "java/lang/String"), (.object "java/lang/String")], returnType := none }, accessFlags := 2, code := some k2c0 }
def k2c1 : Code := { maxStack := 8, maxLocals := 1, code := prog_13_method_3_code, exceptionTable := #[], attributes := #[] }
def k2m1 : Method := { name := "bytes", desc := "([B)Lcom/example/tarry/tarry/Message;", sig := { parameters := [(.array .byte)], returnType := some (.object "com/example/tarry/tarry/Message") }, accessFlags := 9, code := some k2c1 }
def k2c2 : Code := { maxStack := 1, maxLocals := 1, code := prog_13_method_4_code, exceptionTable := #[], attributes := #[] }
def k2m2 : Method := { name := "isText", desc := "()Z", sig := { parameters := [], returnType := some .boolean }, accessFlags := 1, code := some k2c2 }
def k2c3 : Code := { maxStack := 3, maxLocals := 1, code := prog_13_method_6_code, exceptionTable := #[], attributes := #[] }
def k2m3 : Method := { name := "bytes", desc := "()[B", sig := { parameters := [], returnType := some (.array .byte) }, accessFlags := 1, code := some k2c3 }
def k2c4 : Code := { maxStack := 1, maxLocals := 1, code := prog_13_method_9_code, exceptionTable := #[], attributes := #[] }
def k2m4 : Method := { name := "messageId", desc := "()Ljava/lang/String;", sig := { parameters := [], returnType := some (.object "java/lang/String") }, accessFlags := 1, code := some k2c4 }
def k2c5 : Code := { maxStack := 1, maxLocals := 1, code := prog_13_method_10_code, exceptionTable := #[], attributes := #[] }
def k2m5 : Method := { name := "correlationId", desc := "()Ljava/lang/String;", sig := { parameters := [], returnType := some (.object "java/lang/String") }, accessFlags := 1, code := some k2c5 }
def k2c6 : Code := { maxStack := 1, maxLocals := 1, code := prog_13_method_11_code, exceptionTable := #[], attributes := #[] }
def k2m6 : Method := { name := "replyTo", desc := "()Ljava/lang/String;", sig := { parameters := [], returnType := some (.object "java/lang/String") }, accessFlags := 1, code := some k2c6 }
/-- com/example/tarry/tarry/Message -/
def k2 : Class := { plain "com/example/tarry/tarry/Message" (some 0) with
  accessFlags := 49
  interfaces := #[]
  cf := some (fileOf pool2 8 #[] #[{ accessFlags := 2, nameIndex := 5, descriptorIndex := 45, attributes := #[] }, { accessFlags := 9, nameIndex := 15, descriptorIndex := 140, attributes := #[] }, { accessFlags := 1, nameIndex := 113, descriptorIndex := 114, attributes := #[] }, { accessFlags := 1, nameIndex := 15, descriptorIndex := 143, attributes := #[] }, { accessFlags := 1, nameIndex := 23, descriptorIndex := 142, attributes := #[] }, { accessFlags := 1, nameIndex := 26, descriptorIndex := 142, attributes := #[] }, { accessFlags := 1, nameIndex := 29, descriptorIndex := 142, attributes := #[] }] 49 2 #[] #[{ accessFlags := 18, nameIndex := 11, descriptorIndex := 12, attributes := #[] }, { accessFlags := 18, nameIndex := 15, descriptorIndex := 16, attributes := #[] }, { accessFlags := 18, nameIndex := 19, descriptorIndex := 20, attributes := #[] }, { accessFlags := 18, nameIndex := 23, descriptorIndex := 12, attributes := #[] }, { accessFlags := 18, nameIndex := 26, descriptorIndex := 12, attributes := #[] }, { accessFlags := 18, nameIndex := 29, descriptorIndex := 12, attributes := #[] }])
  fields := #[{ name := "text", type := (.object "java/lang/String"), accessFlags := 18, slot := 0, constantValue := 0 }, { name := "bytes", type := (.array .byte), accessFlags := 18, slot := 1, constantValue := 0 }, { name := "headers", type := (.object "java/util/Map"), accessFlags := 18, slot := 2, constantValue := 0 }, { name := "messageId", type := (.object "java/lang/String"), accessFlags := 18, slot := 3, constantValue := 0 }, { name := "correlationId", type := (.object "java/lang/String"), accessFlags := 18, slot := 4, constantValue := 0 }, { name := "replyTo", type := (.object "java/lang/String"), accessFlags := 18, slot := 5, constantValue := 0 }]
  methods := #[k2m0, k2m1, k2m2, k2m3, k2m4, k2m5, k2m6]
  instanceTypes := #[(.object "java/lang/String"), (.array .byte), (.object "java/util/Map"), (.object "java/lang/String"), (.object "java/lang/String"), (.object "java/lang/String")]
  staticTypes := #[]
  resolved := Array.replicate 174 none
  statics := none }

def pool3 : Array CpInfo := pool [(1, .class_ 2), (0, u "java/io/Serializable"), (0, .class_ 4), (0, u "java/lang/Object")] 2

/-- java/io/Serializable -/
def k3 : Class := { plain "java/io/Serializable" (some 0) with
  accessFlags := 1537
  interfaces := #[]
  cf := some (fileOf pool3 1 #[] #[] 1537 3 #[] #[])
  fields := #[]
  methods := #[]
  instanceTypes := #[]
  staticTypes := #[]
  resolved := Array.replicate 7 none
  statics := none }

def pool4 : Array CpInfo := pool [(1, .class_ 2), (0, u "java/lang/Comparable"), (0, .class_ 4), (0, u "java/lang/Object")] 7

/-- java/lang/Comparable -/
def k4 : Class := { plain "java/lang/Comparable" (some 0) with
  accessFlags := 1537
  interfaces := #[]
  cf := some (fileOf pool4 1 #[] #[] 1537 3 #[] #[])
  fields := #[]
  methods := #[]
  instanceTypes := #[]
  staticTypes := #[]
  resolved := Array.replicate 12 none
  statics := none }

def pool5 : Array CpInfo := pool [(2, .class_ 4), (1, u "java/lang/CharSequence"), (42, .class_ 48), (0, u "java/lang/CharSequence$1CodePointIterator"), (10, .class_ 60), (0, u "java/lang/CharSequence$1CharIterator"), (5, .class_ 67), (0, u "java/lang/Object")] 63

/-- java/lang/CharSequence -/
def k5 : Class := { plain "java/lang/CharSequence" (some 0) with
  accessFlags := 1537
  interfaces := #[]
  cf := some (fileOf pool5 2 #[.nestMembers #[47, 59]] #[] 1537 66 #[] #[])
  fields := #[]
  methods := #[]
  instanceTypes := #[]
  staticTypes := #[]
  resolved := Array.replicate 131 none
  statics := none }

def pool6 : Array CpInfo := pool [(1, .class_ 2), (0, u "java/lang/constant/Constable"), (0, .class_ 4), (0, u "java/lang/Object")] 6

/-- java/lang/constant/Constable -/
def k6 : Class := { plain "java/lang/constant/Constable" (some 0) with
  accessFlags := 1537
  interfaces := #[]
  cf := some (fileOf pool6 1 #[] #[] 1537 3 #[] #[])
  fields := #[]
  methods := #[]
  instanceTypes := #[]
  staticTypes := #[]
  resolved := Array.replicate 11 none
  statics := none }

def pool7 : Array CpInfo := pool [(1, .class_ 2), (0, u "java/lang/constant/ConstantDesc"), (0, .class_ 4), (0, u "java/lang/Object")] 32

/-- java/lang/constant/ConstantDesc -/
def k7 : Class := { plain "java/lang/constant/ConstantDesc" (some 0) with
  accessFlags := 1537
  interfaces := #[]
  cf := some (fileOf pool7 1 #[] #[] 1537 3 #[] #[])
  fields := #[]
  methods := #[]
  instanceTypes := #[]
  staticTypes := #[]
  resolved := Array.replicate 37 none
  statics := none }

def pool8 : Array CpInfo := pool [(2, .class_ 4), (1, u "java/lang/Object"), (0, u "<init>"), (0, u "()V"), (3, .class_ 12), (1, u "java/lang/String"), (0, u "value"), (0, u "[B"), (2, u "coder"), (0, u "B"), (2, u "hash"), (0, u "I"), (2, u "hashIsZero"), (0, u "Z"), (13, u "COMPACT_STRINGS"), (534, .class_ 576), (0, u "java/lang/CharSequence"), (22, u "CASE_INSENSITIVE_ORDER"), (0, u "Ljava/util/Comparator;"), (500, u "serialPersistentFields"), (0, u "[Ljava/io/ObjectStreamField;"), (0, .class_ 1104), (0, u "java/lang/String$CaseInsensitiveComparator"), (1, .class_ 1107), (0, u "java/io/Serializable"), (0, .class_ 1109), (0, u "java/lang/Comparable"), (0, .class_ 1111), (0, u "java/lang/constant/Constable"), (0, .class_ 1113), (0, u "java/lang/constant/ConstantDesc"), (2, u "serialVersionUID"), (0, u "J"), (3, u "REPL"), (0, u "C"), (2, u "LATIN1"), (1, u "UTF16")] 323

def k8m0 : Method := { name := "<init>", desc := "()V", sig := { parameters := [], returnType := none }, accessFlags := 1, code := none }
/-- java/lang/String -/
def k8 : Class := { plain "java/lang/String" (some 0) with
  accessFlags := 49
  interfaces := #[3, 4, 5, 6, 7]
  cf := some (fileOf pool8 10 #[.nestMembers #[1103]] #[{ accessFlags := 1, nameIndex := 5, descriptorIndex := 6, attributes := #[] }] 49 2 #[1106, 1108, 575, 1110, 1112] #[{ accessFlags := 18, nameIndex := 13, descriptorIndex := 14, attributes := #[] }, { accessFlags := 18, nameIndex := 17, descriptorIndex := 18, attributes := #[] }, { accessFlags := 2, nameIndex := 21, descriptorIndex := 22, attributes := #[] }, { accessFlags := 2, nameIndex := 25, descriptorIndex := 26, attributes := #[] }, { accessFlags := 26, nameIndex := 1116, descriptorIndex := 1117, attributes := #[] }, { accessFlags := 24, nameIndex := 40, descriptorIndex := 26, attributes := #[] }, { accessFlags := 26, nameIndex := 1101, descriptorIndex := 1102, attributes := #[] }, { accessFlags := 26, nameIndex := 1121, descriptorIndex := 1122, attributes := #[] }, { accessFlags := 25, nameIndex := 599, descriptorIndex := 600, attributes := #[] }, { accessFlags := 24, nameIndex := 1125, descriptorIndex := 18, attributes := #[] }, { accessFlags := 24, nameIndex := 1127, descriptorIndex := 18, attributes := #[] }])
  fields := #[{ name := "value", type := (.array .byte), accessFlags := 18, slot := 0, constantValue := 0 }, { name := "coder", type := .byte, accessFlags := 18, slot := 1, constantValue := 0 }, { name := "hash", type := .int, accessFlags := 2, slot := 2, constantValue := 0 }, { name := "hashIsZero", type := .boolean, accessFlags := 2, slot := 3, constantValue := 0 }, { name := "serialVersionUID", type := .long, accessFlags := 26, slot := 0, constantValue := 0 }, { name := "COMPACT_STRINGS", type := .boolean, accessFlags := 24, slot := 1, constantValue := 0 }, { name := "serialPersistentFields", type := (.array (.object "java/io/ObjectStreamField")), accessFlags := 26, slot := 2, constantValue := 0 }, { name := "REPL", type := .char, accessFlags := 26, slot := 3, constantValue := 0 }, { name := "CASE_INSENSITIVE_ORDER", type := (.object "java/util/Comparator"), accessFlags := 25, slot := 4, constantValue := 0 }, { name := "LATIN1", type := .byte, accessFlags := 24, slot := 5, constantValue := 0 }, { name := "UTF16", type := .byte, accessFlags := 24, slot := 6, constantValue := 0 }]
  methods := #[k8m0]
  instanceTypes := #[(.array .byte), .byte, .int, .boolean]
  staticTypes := #[.long, .boolean, (.array (.object "java/io/ObjectStreamField")), .char, (.object "java/util/Comparator"), .byte, .byte]
  resolved := Array.replicate 1451 none
  statics := none }

def pool9 : Array CpInfo := pool [(2, .class_ 4), (1, u "java/lang/Object"), (0, u "<init>"), (0, u "()V"), (35, .class_ 44), (1, u "java/util/Objects"), (0, u "requireNonNull"), (48, u "(Ljava/lang/Object;Ljava/lang/String;)Ljava/lang/Object;")] 89

def k9m0 : Method := { name := "<init>", desc := "()V", sig := { parameters := [], returnType := none }, accessFlags := 2, code := none }
def k9c1 : Code := { maxStack := 3, maxLocals := 2, code := jdk_31_method_11_code, exceptionTable := #[], attributes := #[] }
def k9m1 : Method := { name := "requireNonNull", desc := "(Ljava/lang/Object;Ljava/lang/String;)Ljava/lang/Object;", sig := { parameters := [(.object "java/lang/Object"), (.object "java/lang/String")], returnType := some (.object "java/lang/Object") }, accessFlags := 9, code := some k9c1 }
/-- java/util/Objects -/
def k9 : Class := { plain "java/util/Objects" (some 0) with
  accessFlags := 49
  interfaces := #[]
  cf := some (fileOf pool9 42 #[] #[{ accessFlags := 2, nameIndex := 5, descriptorIndex := 6, attributes := #[] }, { accessFlags := 9, nameIndex := 45, descriptorIndex := 94, attributes := #[] }] 49 2 #[] #[])
  fields := #[]
  methods := #[k9m0, k9m1]
  instanceTypes := #[]
  staticTypes := #[]
  resolved := Array.replicate 184 none
  statics := none }

def pool10 : Array CpInfo := pool [(1, .class_ 2), (0, u "java/lang/Cloneable"), (0, .class_ 4), (0, u "java/lang/Object")] 2

/-- java/lang/Cloneable -/
def k10 : Class := { plain "java/lang/Cloneable" (some 0) with
  accessFlags := 1537
  interfaces := #[]
  cf := some (fileOf pool10 1 #[] #[] 1537 3 #[] #[])
  fields := #[]
  methods := #[]
  instanceTypes := #[]
  staticTypes := #[]
  resolved := Array.replicate 7 none
  statics := none }

def pool11 : Array CpInfo := pool [(2, .class_ 4), (1, u "java/util/Map"), (31, .class_ 37), (0, u "java/util/Map$Entry"), (43, .fieldref 82 83), (0, .class_ 84), (0, .nameAndType 85 86), (0, u "java/util/ImmutableCollections"), (0, u "EMPTY_MAP"), (0, u "Ljava/util/ImmutableCollections$MapN;"), (6, .class_ 94), (0, u "java/lang/Object"), (13, u "of"), (0, u "()Ljava/util/Map;")] 153

def k11c0 : Code := { maxStack := 1, maxLocals := 0, code := jdk_72_method_26_code, exceptionTable := #[], attributes := #[] }
def k11m0 : Method := { name := "of", desc := "()Ljava/util/Map;", sig := { parameters := [], returnType := some (.object "java/util/Map") }, accessFlags := 9, code := some k11c0 }
/-- java/util/Map -/
def k11 : Class := { plain "java/util/Map" (some 0) with
  accessFlags := 1537
  interfaces := #[]
  cf := some (fileOf pool11 2 #[.nestMembers #[36]] #[{ accessFlags := 9, nameIndex := 108, descriptorIndex := 109, attributes := #[] }] 1537 93 #[] #[])
  fields := #[]
  methods := #[k11m0]
  instanceTypes := #[]
  staticTypes := #[]
  resolved := Array.replicate 263 none
  statics := none }

def pool12 : Array CpInfo := pool [(2, .class_ 4), (1, u "java/lang/Object"), (0, u "<init>"), (0, u "()V"), (3, .class_ 11), (0, u "java/util/ImmutableCollections$List12"), (0, .class_ 13), (0, u "java/util/ImmutableCollections$ListN"), (3, u "Z"), (29, .class_ 49), (1, u "java/util/ImmutableCollections"), (0, u "$assertionsDisabled"), (5, u "[Ljava/lang/Object;"), (5, u "EMPTY_LIST"), (0, u "Ljava/util/ImmutableCollections$ListN;"), (8, u "EMPTY_LIST_NULLS"), (22, u "SALT32L"), (0, u "J"), (2, u "REVERSE"), (6, u "archivedObjects"), (2, u "EMPTY"), (0, u "Ljava/lang/Object;"), (0, .class_ 112), (0, u "java/util/ImmutableCollections$SetN"), (5, u "EMPTY_SET"), (0, u "Ljava/util/ImmutableCollections$SetN;"), (0, .class_ 121), (0, u "java/util/ImmutableCollections$MapN"), (3, u "EMPTY_MAP"), (0, u "Ljava/util/ImmutableCollections$MapN;"), (4, u "EXPAND_FACTOR"), (0, u "I"), (36, .class_ 170), (0, u "java/util/ImmutableCollections$MapN$MapNIterator"), (0, .class_ 172), (0, u "java/util/ImmutableCollections$MapN$1"), (0, .class_ 174), (0, u "java/util/ImmutableCollections$Map1"), (0, .class_ 176), (0, u "java/util/ImmutableCollections$AbstractImmutableMap"), (0, .class_ 178), (0, u "java/util/ImmutableCollections$SetN$SetNIterator"), (0, .class_ 180), (0, u "java/util/ImmutableCollections$Set12"), (0, .class_ 182), (0, u "java/util/ImmutableCollections$Set12$1"), (0, .class_ 184), (0, u "java/util/ImmutableCollections$AbstractImmutableSet"), (0, .class_ 186), (0, u "java/util/ImmutableCollections$SubList"), (0, .class_ 188), (0, u "java/util/ImmutableCollections$ListItr"), (0, .class_ 190), (0, u "java/util/ImmutableCollections$AbstractImmutableList"), (0, .class_ 192), (0, u "java/util/ImmutableCollections$AbstractImmutableCollection"), (0, .class_ 194), (0, u "java/util/ImmutableCollections$Access"), (0, .class_ 196), (0, u "java/util/ImmutableCollections$Access$1")] 16

def k12m0 : Method := { name := "<init>", desc := "()V", sig := { parameters := [], returnType := none }, accessFlags := 2, code := none }
/-- java/util/ImmutableCollections -/
def k12 : Class := { plain "java/util/ImmutableCollections" (some 0) with
  accessFlags := 32
  interfaces := #[]
  cf := some (fileOf pool12 47 #[.nestMembers #[120, 169, 171, 173, 175, 111, 177, 179, 181, 183, 12, 10, 185, 187, 189, 191, 193, 195]] #[{ accessFlags := 2, nameIndex := 5, descriptorIndex := 6, attributes := #[] }] 32 2 #[] #[{ accessFlags := 26, nameIndex := 95, descriptorIndex := 96, attributes := #[] }, { accessFlags := 26, nameIndex := 99, descriptorIndex := 17, attributes := #[] }, { accessFlags := 10, nameIndex := 106, descriptorIndex := 56, attributes := #[] }, { accessFlags := 26, nameIndex := 109, descriptorIndex := 110, attributes := #[] }, { accessFlags := 24, nameIndex := 62, descriptorIndex := 63, attributes := #[] }, { accessFlags := 24, nameIndex := 72, descriptorIndex := 63, attributes := #[] }, { accessFlags := 24, nameIndex := 118, descriptorIndex := 119, attributes := #[] }, { accessFlags := 24, nameIndex := 125, descriptorIndex := 126, attributes := #[] }, { accessFlags := 24, nameIndex := 131, descriptorIndex := 132, attributes := #[] }, { accessFlags := 4120, nameIndex := 50, descriptorIndex := 17, attributes := #[] }])
  fields := #[{ name := "SALT32L", type := .long, accessFlags := 26, slot := 0, constantValue := 0 }, { name := "REVERSE", type := .boolean, accessFlags := 26, slot := 1, constantValue := 0 }, { name := "archivedObjects", type := (.array (.object "java/lang/Object")), accessFlags := 10, slot := 2, constantValue := 0 }, { name := "EMPTY", type := (.object "java/lang/Object"), accessFlags := 26, slot := 3, constantValue := 0 }, { name := "EMPTY_LIST", type := (.object "java/util/ImmutableCollections$ListN"), accessFlags := 24, slot := 4, constantValue := 0 }, { name := "EMPTY_LIST_NULLS", type := (.object "java/util/ImmutableCollections$ListN"), accessFlags := 24, slot := 5, constantValue := 0 }, { name := "EMPTY_SET", type := (.object "java/util/ImmutableCollections$SetN"), accessFlags := 24, slot := 6, constantValue := 0 }, { name := "EMPTY_MAP", type := (.object "java/util/ImmutableCollections$MapN"), accessFlags := 24, slot := 7, constantValue := 0 }, { name := "EXPAND_FACTOR", type := .int, accessFlags := 24, slot := 8, constantValue := 0 }, { name := "$assertionsDisabled", type := .boolean, accessFlags := 4120, slot := 9, constantValue := 0 }]
  methods := #[k12m0]
  instanceTypes := #[]
  staticTypes := #[.long, .boolean, (.array (.object "java/lang/Object")), (.object "java/lang/Object"), (.object "java/util/ImmutableCollections$ListN"), (.object "java/util/ImmutableCollections$ListN"), (.object "java/util/ImmutableCollections$SetN"), (.object "java/util/ImmutableCollections$MapN"), .int, .boolean]
  resolved := Array.replicate 213 none
  statics := some 0 }

def pool13 : Array CpInfo := pool [(2, .class_ 4), (1, u "java/lang/Object"), (0, u "<init>"), (0, u "()V"), (1, .class_ 10), (1, u "java/util/AbstractMap"), (42, .class_ 54), (0, u "java/util/Map"), (9, u "keySet"), (0, u "Ljava/util/Set;"), (0, .class_ 67), (0, u "java/util/AbstractMap$1"), (5, u "values"), (0, u "Ljava/util/Collection;"), (0, .class_ 76), (0, u "java/util/AbstractMap$2"), (104, .class_ 182), (0, u "java/util/AbstractMap$ViewCollection"), (0, .class_ 184), (0, u "java/util/AbstractMap$SimpleImmutableEntry"), (0, .class_ 186), (0, u "java/util/AbstractMap$SimpleEntry"), (0, .class_ 188), (0, u "java/util/AbstractMap$2$1"), (0, .class_ 190), (0, u "java/util/AbstractMap$1$1")] 5

def k13m0 : Method := { name := "<init>", desc := "()V", sig := { parameters := [], returnType := none }, accessFlags := 4, code := none }
/-- java/util/AbstractMap -/
def k13 : Class := { plain "java/util/AbstractMap" (some 0) with
  accessFlags := 1057
  interfaces := #[11]
  cf := some (fileOf pool13 8 #[.nestMembers #[181, 183, 185, 75, 187, 66, 189]] #[{ accessFlags := 4, nameIndex := 5, descriptorIndex := 6, attributes := #[] }] 1057 2 #[53] #[{ accessFlags := 128, nameIndex := 64, descriptorIndex := 65, attributes := #[] }, { accessFlags := 128, nameIndex := 73, descriptorIndex := 74, attributes := #[] }])
  fields := #[{ name := "keySet", type := (.object "java/util/Set"), accessFlags := 128, slot := 0, constantValue := 0 }, { name := "values", type := (.object "java/util/Collection"), accessFlags := 128, slot := 1, constantValue := 0 }]
  methods := #[k13m0]
  instanceTypes := #[(.object "java/util/Set"), (.object "java/util/Collection")]
  staticTypes := #[]
  resolved := Array.replicate 196 none
  statics := none }

def pool14 : Array CpInfo := pool [(2, .class_ 4), (1, u "java/util/AbstractMap"), (0, u "<init>"), (0, u "()V"), (1, .class_ 10), (1, u "java/util/ImmutableCollections"), (3, .class_ 16), (1, u "java/util/ImmutableCollections$AbstractImmutableMap"), (2, .class_ 20), (0, u "java/io/Serializable")] 66

def k14m0 : Method := { name := "<init>", desc := "()V", sig := { parameters := [], returnType := none }, accessFlags := 0, code := none }
/-- java/util/ImmutableCollections$AbstractImmutableMap -/
def k14 : Class := { plain "java/util/ImmutableCollections$AbstractImmutableMap" (some 13) with
  accessFlags := 1056
  interfaces := #[3]
  cf := some (fileOf pool14 14 #[.nestHost 8] #[{ accessFlags := 0, nameIndex := 5, descriptorIndex := 6, attributes := #[] }] 1056 2 #[19] #[])
  fields := #[]
  methods := #[k14m0]
  instanceTypes := #[(.object "java/util/Set"), (.object "java/util/Collection")]
  staticTypes := #[]
  resolved := Array.replicate 87 none
  statics := none }

def pool15 : Array CpInfo := pool [(1, .class_ 2), (0, u "java/util/ImmutableCollections"), (1, .class_ 6), (1, u "java/util/ImmutableCollections$AbstractImmutableMap"), (10, .class_ 19), (1, u "java/util/ImmutableCollections$MapN"), (0, u "size"), (0, u "I"), (4, u "table"), (0, u "[Ljava/lang/Object;")] 121

/-- java/util/ImmutableCollections$MapN -/
def k15 : Class := { plain "java/util/ImmutableCollections$MapN" (some 14) with
  accessFlags := 48
  interfaces := #[]
  cf := some (fileOf pool15 17 #[.nestHost 1] #[] 48 4 #[] #[{ accessFlags := 16, nameIndex := 26, descriptorIndex := 27, attributes := #[] }, { accessFlags := 16, nameIndex := 20, descriptorIndex := 21, attributes := #[] }])
  fields := #[{ name := "table", type := (.array (.object "java/lang/Object")), accessFlags := 16, slot := 2, constantValue := 0 }, { name := "size", type := .int, accessFlags := 16, slot := 3, constantValue := 0 }]
  methods := #[]
  instanceTypes := #[(.object "java/util/Set"), (.object "java/util/Collection"), (.array (.object "java/lang/Object")), .int]
  staticTypes := #[]
  resolved := Array.replicate 149 none
  statics := none }

/-- the primitive byte -/
def k16 : Class := { plain "byte" none with kind := .primitive 'B', accessFlags := 0x411 }
/-- [B -/
def k17 : Class := { plain "[B" (some 0) with kind := .array 16 .byte, interfaces := #[10, 3], accessFlags := 1041 }

/-- the primitive int -/
def k18 : Class := { plain "int" none with kind := .primitive 'I', accessFlags := 0x411 }
/-- [I -/
def k19 : Class := { plain "[I" (some 0) with kind := .array 18 .int, interfaces := #[10, 3], accessFlags := 1041 }

/-- [Ljava/lang/Object; -/
def k20 : Class := { plain "[Ljava/lang/Object;" (some 0) with kind := .array 0 (.object "java/lang/Object"), interfaces := #[10, 3], accessFlags := 1041 }

def heap : Heap := #[{ cls := 12, slots := #[.long 0, .int 0, .null, .null, .null, .null, .null, .ref 2, .int 0, .int 0], vm := .statics 12 },
  { cls := 20, slots := #[], vm := .none },
  { cls := 15, slots := #[.null, .null, .ref 1, .int 0], vm := .none }]
def classes : Array Class := #[k0, k1, k2, k3, k4, k5, k6, k7, k8, k9, k10, k11, k12, k13, k14, k15, k16, k17, k18, k19, k20]
def interned : List (Array UInt16 × Addr) := []
def slotsUsed : Nat := 14
def theMethod : MethodId := ⟨1, 1⟩
def args0 : Array Value := #[.int 5, .int 1, .int 2, .int 3]
def aboutOver (below : List Frame) : State where
  vm := { classes := classes, interned := interned.toArray }
  heap := heap
  slotsUsed := slotsUsed
  threads := #[{ frames := .invoking theMethod args0 :: below }]
def below0 : List Frame := [.native { method := ⟨0, 0⟩, args := #[] }]
def about1 : State := aboutOver below0
def p0 : Program := .bare "" "" ""
def e0 : Env := launch0.env 0 0 0
theorem w_frames : about1.frames = Frame.invoking theMethod args0 :: below0 := rfl
set_option maxRecDepth 65536 in
theorem w_args : argsFit about1.vm theMethod args0 = true := by decide +kernel
set_option maxRecDepth 65536 in
theorem w_heap : heapFits about1 = true := by decide +kernel
set_option maxRecDepth 65536 in
theorem w_runnable : about1.curStatus? = some .runnable := by decide +kernel
set_option maxRecDepth 65536 in
theorem w_alone : about1.alone = true := by decide +kernel
set_option maxRecDepth 65536 in
theorem w_named : about1.methodNamed? x = some theMethod := by decide +kernel
set_option maxRecDepth 65536 in
theorem w_hears : about1.hears theMethod below0 = true := by decide +kernel
set_option maxRecDepth 65536 in
theorem w_ripe : about1.ripe theMethod args0 below0 = true := by decide +kernel
theorem w_running : about1.status = .running := rfl
set_option maxRecDepth 65536 in
theorem w_room : about1.hasRoom e0.platform room_1 = true :=
  launch0.hasRoom_least _ room_1 (by decide +kernel) (by decide +kernel) (by decide +kernel) (by decide +kernel) (by decide +kernel) (by decide +kernel)
theorem allAtoms_all (ts : List Jvm.Cond) (a : Array Jvm.Value) (st : Jvm.State) : (allAtoms ts).before a st = ts.all (fun c => c.before a st) := by
  induction ts with
  | nil => rfl
  | cons c t ih =>
    show (Jvm.Cond.and c (allAtoms t)).before a st = _
    rw [Jvm.Cond.before_and, ih, List.all_cons]
def words1 : List Jvm.Cond := Jvm.Cond.code x code maxLocals ret :: tables_1
/-- a 'code' word, met by the world's own term for the bytes: nothing is compared byte by byte -/
theorem code_word {y : MethodName} {bytes : ByteArray} {mx : Nat} {rt : Option FieldType} {a : Array Value} {s : State} {m : MethodId} {meth : Method} {c : Code} (h1 : s.methodNamed? y = some m) (h2 : s.vm.method? m = some meth) (h3 : meth.code = some c) (h4 : c.code = bytes)
    (h5 : (c.maxLocals == mx && c.exceptionTable.isEmpty && decide (c.maxStack ≤ mostOperands) && decide (meth.sig.returnType = rt) && !meth.locks && decide (parseMethodDescriptor y.desc = some meth.sig)) = true) : (Jvm.Cond.code y bytes mx rt).before a s = true := by
  simp only [Bool.and_eq_true, beq_iff_eq, Bool.not_eq_true', decide_eq_true_eq] at h5
  obtain ⟨⟨⟨⟨⟨g1, g2⟩, g3⟩, g4⟩, g5⟩, g6⟩ := h5
  simp [Cond.before, Cond.holds, Cond.value, h1, h2, h3, h4, g1, g2, g3, g4, g5, g6]
def isCode : Jvm.Cond → Bool
  | .code _ _ _ _ => true
  | _ => false
theorem all_split {L : List Jvm.Cond} {P : Jvm.Cond → Bool} (h1 : L.all (fun c => isCode c || P c) = true) (h2 : ∀ c ∈ L.filter isCode, P c = true) : L.all P = true := by
  refine List.all_eq_true.mpr fun c hc => ?_
  have h := List.all_eq_true.mp h1 c hc
  rcases Bool.eq_false_or_eq_true (isCode c) with hi | hi
  · exact h2 c (List.mem_filter.mpr ⟨hc, hi⟩)
  · simpa [hi] using h
set_option maxRecDepth 65536 in
theorem w_c0 : (Jvm.Cond.code x code maxLocals ret).before args0 about1 = true := code_word (m := ⟨1, 1⟩) (meth := k1m1) (c := k1c1) (by decide +kernel) rfl rfl rfl (by decide +kernel)
set_option maxRecDepth 65536 in
theorem w_c1 : (Jvm.Cond.code ({ cls := "com/example/tarry/tarry/Message", name := "bytes", desc := "([B)Lcom/example/tarry/tarry/Message;" } : Jvm.MethodName) prog_13_method_3_code (1 : Nat) (Option.some (Jvm.ClassFile.FieldType.object "com/example/tarry/tarry/Message"))).before args0 about1 = true := code_word (m := ⟨2, 1⟩) (meth := k2m1) (c := k2c1) (by decide +kernel) rfl rfl rfl (by decide +kernel)
set_option maxRecDepth 65536 in
theorem w_c2 : (Jvm.Cond.code ({ cls := "java/util/Objects", name := "requireNonNull", desc := "(Ljava/lang/Object;Ljava/lang/String;)Ljava/lang/Object;" } : Jvm.MethodName) jdk_31_method_11_code (2 : Nat) (Option.some (Jvm.ClassFile.FieldType.object "java/lang/Object"))).before args0 about1 = true := code_word (m := ⟨9, 1⟩) (meth := k9m1) (c := k9c1) (by decide +kernel) rfl rfl rfl (by decide +kernel)
set_option maxRecDepth 65536 in
theorem w_c3 : (Jvm.Cond.code ({ cls := "java/util/Map", name := "of", desc := "()Ljava/util/Map;" } : Jvm.MethodName) jdk_72_method_26_code (0 : Nat) (Option.some (Jvm.ClassFile.FieldType.object "java/util/Map"))).before args0 about1 = true := code_word (m := ⟨11, 0⟩) (meth := k11m0) (c := k11c0) (by decide +kernel) rfl rfl rfl (by decide +kernel)
set_option maxRecDepth 65536 in
theorem w_c4 : (Jvm.Cond.code ({ cls := "com/example/tarry/tarry/Message", name := "<init>", desc := "(Ljava/lang/String;[BLjava/util/Map;Ljava/lang/String;Ljava/lang/String;Ljava/lang/String;)V" } : Jvm.MethodName) prog_13_method_1_code (7 : Nat) (Option.none : Option Jvm.ClassFile.FieldType)).before args0 about1 = true := code_word (m := ⟨2, 0⟩) (meth := k2m0) (c := k2c0) (by decide +kernel) rfl rfl rfl (by decide +kernel)
set_option maxRecDepth 65536 in
theorem w_c5 : (Jvm.Cond.code ({ cls := "java/lang/Object", name := "<init>", desc := "()V" } : Jvm.MethodName) object_method_1_code (1 : Nat) (Option.none : Option Jvm.ClassFile.FieldType)).before args0 about1 = true := code_word (m := ⟨0, 0⟩) (meth := k0m0) (c := k0c0) (by decide +kernel) rfl rfl rfl (by decide +kernel)
set_option maxRecDepth 65536 in
theorem w_c6 : (Jvm.Cond.code ({ cls := "com/example/tarry/tarry/MessageBytesPinLaw", name := "flip", desc := "([B)V" } : Jvm.MethodName) method_3_code (1 : Nat) (Option.none : Option Jvm.ClassFile.FieldType)).before args0 about1 = true := code_word (m := ⟨1, 2⟩) (meth := k1m2) (c := k1c2) (by decide +kernel) rfl rfl rfl (by decide +kernel)
set_option maxRecDepth 65536 in
theorem w_c7 : (Jvm.Cond.code ({ cls := "com/example/tarry/tarry/Message", name := "bytes", desc := "()[B" } : Jvm.MethodName) prog_13_method_6_code (1 : Nat) (Option.some (Jvm.ClassFile.FieldType.array Jvm.ClassFile.FieldType.byte))).before args0 about1 = true := code_word (m := ⟨2, 3⟩) (meth := k2m3) (c := k2c3) (by decide +kernel) rfl rfl rfl (by decide +kernel)
set_option maxRecDepth 65536 in
theorem w_c8 : (Jvm.Cond.code ({ cls := "com/example/tarry/tarry/Message", name := "isText", desc := "()Z" } : Jvm.MethodName) prog_13_method_4_code (1 : Nat) (Option.some Jvm.ClassFile.FieldType.boolean)).before args0 about1 = true := code_word (m := ⟨2, 2⟩) (meth := k2m2) (c := k2c2) (by decide +kernel) rfl rfl rfl (by decide +kernel)
set_option maxRecDepth 65536 in
theorem w_c9 : (Jvm.Cond.code ({ cls := "com/example/tarry/tarry/Message", name := "messageId", desc := "()Ljava/lang/String;" } : Jvm.MethodName) prog_13_method_9_code (1 : Nat) (Option.some (Jvm.ClassFile.FieldType.object "java/lang/String"))).before args0 about1 = true := code_word (m := ⟨2, 4⟩) (meth := k2m4) (c := k2c4) (by decide +kernel) rfl rfl rfl (by decide +kernel)
set_option maxRecDepth 65536 in
theorem w_c10 : (Jvm.Cond.code ({ cls := "com/example/tarry/tarry/Message", name := "correlationId", desc := "()Ljava/lang/String;" } : Jvm.MethodName) prog_13_method_10_code (1 : Nat) (Option.some (Jvm.ClassFile.FieldType.object "java/lang/String"))).before args0 about1 = true := code_word (m := ⟨2, 5⟩) (meth := k2m5) (c := k2c5) (by decide +kernel) rfl rfl rfl (by decide +kernel)
set_option maxRecDepth 65536 in
theorem w_c11 : (Jvm.Cond.code ({ cls := "com/example/tarry/tarry/Message", name := "replyTo", desc := "()Ljava/lang/String;" } : Jvm.MethodName) prog_13_method_11_code (1 : Nat) (Option.some (Jvm.ClassFile.FieldType.object "java/lang/String"))).before args0 about1 = true := code_word (m := ⟨2, 6⟩) (meth := k2m6) (c := k2c6) (by decide +kernel) rfl rfl rfl (by decide +kernel)
set_option maxRecDepth 65536 in
theorem w_c12 : (Jvm.Cond.code ({ cls := "com/example/tarry/tarry/MessageBytesPinLaw", name := "same", desc := "([BIIII)Z" } : Jvm.MethodName) method_4_code (5 : Nat) (Option.some Jvm.ClassFile.FieldType.boolean)).before args0 about1 = true := code_word (m := ⟨1, 3⟩) (meth := k1m3) (c := k1c3) (by decide +kernel) rfl rfl rfl (by decide +kernel)
def codes1 : List Jvm.Cond := [Jvm.Cond.code x code maxLocals ret, Jvm.Cond.code ({ cls := "com/example/tarry/tarry/Message", name := "bytes", desc := "([B)Lcom/example/tarry/tarry/Message;" } : Jvm.MethodName) prog_13_method_3_code (1 : Nat) (Option.some (Jvm.ClassFile.FieldType.object "com/example/tarry/tarry/Message")), Jvm.Cond.code ({ cls := "java/util/Objects", name := "requireNonNull", desc := "(Ljava/lang/Object;Ljava/lang/String;)Ljava/lang/Object;" } : Jvm.MethodName) jdk_31_method_11_code (2 : Nat) (Option.some (Jvm.ClassFile.FieldType.object "java/lang/Object")), Jvm.Cond.code ({ cls := "java/util/Map", name := "of", desc := "()Ljava/util/Map;" } : Jvm.MethodName) jdk_72_method_26_code (0 : Nat) (Option.some (Jvm.ClassFile.FieldType.object "java/util/Map")), Jvm.Cond.code ({ cls := "com/example/tarry/tarry/Message", name := "<init>", desc := "(Ljava/lang/String;[BLjava/util/Map;Ljava/lang/String;Ljava/lang/String;Ljava/lang/String;)V" } : Jvm.MethodName) prog_13_method_1_code (7 : Nat) (Option.none : Option Jvm.ClassFile.FieldType), Jvm.Cond.code ({ cls := "java/lang/Object", name := "<init>", desc := "()V" } : Jvm.MethodName) object_method_1_code (1 : Nat) (Option.none : Option Jvm.ClassFile.FieldType), Jvm.Cond.code ({ cls := "com/example/tarry/tarry/MessageBytesPinLaw", name := "flip", desc := "([B)V" } : Jvm.MethodName) method_3_code (1 : Nat) (Option.none : Option Jvm.ClassFile.FieldType), Jvm.Cond.code ({ cls := "com/example/tarry/tarry/Message", name := "bytes", desc := "()[B" } : Jvm.MethodName) prog_13_method_6_code (1 : Nat) (Option.some (Jvm.ClassFile.FieldType.array Jvm.ClassFile.FieldType.byte)), Jvm.Cond.code ({ cls := "com/example/tarry/tarry/Message", name := "isText", desc := "()Z" } : Jvm.MethodName) prog_13_method_4_code (1 : Nat) (Option.some Jvm.ClassFile.FieldType.boolean), Jvm.Cond.code ({ cls := "com/example/tarry/tarry/Message", name := "messageId", desc := "()Ljava/lang/String;" } : Jvm.MethodName) prog_13_method_9_code (1 : Nat) (Option.some (Jvm.ClassFile.FieldType.object "java/lang/String")), Jvm.Cond.code ({ cls := "com/example/tarry/tarry/Message", name := "correlationId", desc := "()Ljava/lang/String;" } : Jvm.MethodName) prog_13_method_10_code (1 : Nat) (Option.some (Jvm.ClassFile.FieldType.object "java/lang/String")), Jvm.Cond.code ({ cls := "com/example/tarry/tarry/Message", name := "replyTo", desc := "()Ljava/lang/String;" } : Jvm.MethodName) prog_13_method_11_code (1 : Nat) (Option.some (Jvm.ClassFile.FieldType.object "java/lang/String")), Jvm.Cond.code ({ cls := "com/example/tarry/tarry/MessageBytesPinLaw", name := "same", desc := "([BIIII)Z" } : Jvm.MethodName) method_4_code (5 : Nat) (Option.some Jvm.ClassFile.FieldType.boolean)]
set_option maxRecDepth 65536 in
theorem codes_eq : words1.filter isCode = codes1 := rfl
theorem w_codes : ∀ c ∈ words1.filter isCode, c.before args0 about1 = true := by
  rw [codes_eq]
  intro c hc
  simp only [codes1, List.mem_cons, List.not_mem_nil, or_false] at hc
  rcases hc with rfl | rfl | rfl | rfl | rfl | rfl | rfl | rfl | rfl | rfl | rfl | rfl | rfl
  · exact w_c0
  · exact w_c1
  · exact w_c2
  · exact w_c3
  · exact w_c4
  · exact w_c5
  · exact w_c6
  · exact w_c7
  · exact w_c8
  · exact w_c9
  · exact w_c10
  · exact w_c11
  · exact w_c12
set_option maxRecDepth 65536 in
theorem w_t1 : (words1.take 24).all (fun c => isCode c || c.before args0 about1) = true := by decide +kernel
set_option maxRecDepth 65536 in
theorem w_t2 : ((words1.drop 24).take 24).all (fun c => isCode c || c.before args0 about1) = true := by decide +kernel
set_option maxRecDepth 65536 in
theorem w_t3 : (((words1.drop 24).drop 24).take 24).all (fun c => isCode c || c.before args0 about1) = true := by decide +kernel
set_option maxRecDepth 65536 in
theorem w_t4 : (((words1.drop 24).drop 24).drop 24).all (fun c => isCode c || c.before args0 about1) = true := by decide +kernel
theorem w_tables : (allAtoms (Jvm.Cond.code x code maxLocals ret :: tables_1)).before args0 about1 = true := by
  rw [allAtoms_all]
  show words1.all (fun c => c.before args0 about1) = true
  refine all_split ?_ w_codes
  rw [← List.take_append_drop 24 words1, List.all_append, w_t1, ← List.take_append_drop 24 (words1.drop 24), List.all_append, w_t2, ← List.take_append_drop 24 ((words1.drop 24).drop 24), List.all_append, w_t3, w_t4]
  rfl
set_option maxRecDepth 65536 in
theorem w_rest : rest_1_c.before args0 about1 = true := by decide +kernel
set_option maxRecDepth 65536 in
theorem w_case : (Jvm.Cond.and given_1 narrow_1).before args0 about1 = true := by decide +kernel
theorem w_applies : (headSpec (Jvm.Cond.code x code maxLocals ret :: tables_1) room_1).applies x e0.platform about1 = true :=
  (Spec.applies_iff w_frames).mpr ⟨w_running, w_runnable, w_alone, w_named, w_hears, w_ripe, w_room, w_tables⟩
theorem atStart : AtStart classFile x code maxLocals ret World_1 tables_1 room_1 Calls_1 rest_1 Pre_1 launch0 p0 e0 about1 theMethod args0 below0 :=
  ⟨lists_1, trivial, launch0.admits_env _ _ _, launch0.least_env, fairChoices_fair.cas, fairChoices_fair.clock, w_frames, w_args, w_heap, w_applies, trivial, w_rest, w_case⟩
end start1
theorem witness_1 : WitnessClaimed_1 := ⟨start1.p0, start1.e0, start1.about1, start1.theMethod, start1.args0, start1.below0, start1.atStart⟩
end Jvm.Pilot.@@N@@
