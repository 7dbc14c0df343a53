import JvmDerived
import JvmDerived.Pilot.@@N@@Statement
import JvmDerived.Pilot.@@N@@Code
set_option linter.unusedVariables false
set_option linter.unusedSimpArgs false
namespace Jvm.RoadKit
open Sem ClassFile Op Lib Jvm.Stand Jvm.Free Jvm.LawKit
section New
variable {p : Program} {l : Launch} {e : Env} {R : Room} {s : State} {m : MethodId} {args : Array Value} {below : List Frame} {meth : Method} {c : Code} {T : State} {locs : List Loc} {cells slots : Nat}
theorem retI (X : Stand p l e R s m args below meth c T locs cells slots) (hx : p.tables.exec = Jvm.exec) {pc : Nat} {Ls : Array Slot} {z : Int32} {rest : List Value} (hret : meth.sig.returnType = some .int) (hd : decode c.code pc = .ok (.ireturn, 1)) {fs : List Frame}
    (hl : ∀ (f : JFrame) (acts : List Action), f.method = m → f.locked = none → f.entered = [] → (doReturn e (T.setTop f) acts (some (.int z))).1 = T.setFrames fs) : Steps p.tables e below (T.setTop (mkF m pc Ls (.int z :: rest))) (T.setFrames fs) := by
  have hm' : T.vm.method? m = some meth := X.method'
  have hn : narrow .int (.int z) = .int z := rfl
  show Steps p.tables e below (T.setTop { method := m, pc := pc, locals := Ls, stack := _ :: rest, locked := none }) _
  jvm_step X.here [X.here.top, hx, hd, hm', hret, hn]
  first | (intro acts; rw [hl _ acts rfl rfl rfl]) | rw [hl _ _ rfl rfl rfl]
  exact Steps.refl _
def Gl (p : Program) (e : Env) (below : List Frame) (s : State) (kc ks : Nat) (Q : Option Value → Heap → List Loc → Prop) (T : State) (g : JFrame) : Prop :=
  ∃ U o, Steps p.tables e below (T.setTop g) U ∧ U.status = .running ∧ Ended U below o ∧ ∃ v L, o = .returned v ∧ Q v U.heap L ∧ FrameEnd s o U L kc ks
theorem Gl.st {kc ks : Nat} {Q : Option Value → Heap → List Loc → Prop} {T' : State} {g g' : JFrame} (h : ∀ t, Steps p.tables e below (T'.setTop g') t → Steps p.tables e below (T.setTop g) t) (k : Gl p e below s kc ks Q T' g') : Gl p e below s kc ks Q T g := by
  obtain ⟨U, o, h1, r⟩ := k
  exact ⟨U, o, h _ h1, r⟩
theorem Gl.wider {cells' slots' : Nat} (X : Stand p l e R s m args below meth c T locs cells slots) (h1 : cells ≤ cells') (h2 : slots ≤ slots') : Stand p l e R s m args below meth c T locs cells' slots' :=
  ⟨X.admits, X.cas, X.clock, X.frames, X.room, X.hears, X.method, X.code, X.here, X.tail, X.warmed, X.limits, X.bytes, X.same.mono h1 h2⟩
theorem Gl.start {kc ks : Nat} {Q : Option Value → Heap → List Loc → Prop} {g g' : JFrame} (q : g = g') (k : Gl p e below s kc ks Q T g') :
    ∃ U o, Steps p.tables e below (T.setTop g) U ∧ U.status = .running ∧ Ended U below o ∧ ∃ v L, o = .returned v ∧ Q v U.heap L ∧ FrameEnd s o U L kc ks := q ▸ k
theorem Gl.ret {kc ks : Nat} {Q : Option Value → Heap → List Loc → Prop} {g : JFrame} {h : Heap} (X : Stand p l e R s m args below meth c T locs cells slots) {v : Option Value} (hv : meth.sig.returnType = none → v = none) (hlk : meth.locks = false)
    (st : ∀ {fs : List Frame}, (∀ (f : JFrame) (acts : List Action), f.method = m → f.locked = none → f.entered = [] → (doReturn e (T.setTop f) acts v).1 = T.setFrames fs) → Steps p.tables e below (T.setTop g) (T.setFrames fs))
    (eT : T.heap = h) (hQ : Q v h locs) (hc : cells ≤ kc) (hs : slots ≤ ks) : Gl p e below s kc ks Q T g := by
  obtain ⟨fs, hr, hrun, hended, hW, hsame⟩ := X.leave hv hlk
  refine ⟨_, _, st hr, hrun, hended, _, _, rfl, ?_, ⟨_, rfl⟩, hW, hsame.mono hc hs⟩
  show Q v T.heap locs
  rw [eT]; exact hQ
end New
end Jvm.RoadKit
namespace Jvm.Pilot.@@N@@
open Jvm Jvm.ClassFile Sem Op Lib Jvm.Free Jvm.Stand Jvm.LawKit Jvm.RoadKit Bundle Jvm.Pilot.@@N@@.Jvm.D
theorem own_eqint {args : Array Value} {first s : State} {o : Option Outcome} {idx : List Nat} {t : Term} {k : Int32} (h : (Jvm.Cond.eq t (.int k)).value args first o s idx = some true) : t.eval args first o idx s = some (.int k) := by
  cases ht : t.eval args first o idx s with
  | none => simp [Cond.value, ht] at h
  | some x => cases x <;> simp [Cond.value, ht, Term.eval] at h ⊢; exact h
theorem own_mod10 (x : Int32) : (x &&& (2147483647 : Int32)) % (10 : Int32) = (0 : Int32) ∨ (x &&& (2147483647 : Int32)) % (10 : Int32) = (1 : Int32) ∨ (x &&& (2147483647 : Int32)) % (10 : Int32) = (2 : Int32) ∨ (x &&& (2147483647 : Int32)) % (10 : Int32) = (3 : Int32) ∨ (x &&& (2147483647 : Int32)) % (10 : Int32) = (4 : Int32) ∨ (x &&& (2147483647 : Int32)) % (10 : Int32) = (5 : Int32) ∨ (x &&& (2147483647 : Int32)) % (10 : Int32) = (6 : Int32) ∨ (x &&& (2147483647 : Int32)) % (10 : Int32) = (7 : Int32) ∨ (x &&& (2147483647 : Int32)) % (10 : Int32) = (8 : Int32) ∨ (x &&& (2147483647 : Int32)) % (10 : Int32) = (9 : Int32) := by
  have h1 := (c_and x (2147483647 : Int32) (by decide)).1
  have h2 := (c_irem (x &&& (2147483647 : Int32)) (10 : Int32) 10 (by decide)).1 h1
  have h3 : ((x &&& (2147483647 : Int32)) % (10 : Int32)).toInt = 0 ∨ ((x &&& (2147483647 : Int32)) % (10 : Int32)).toInt = 1 ∨ ((x &&& (2147483647 : Int32)) % (10 : Int32)).toInt = 2 ∨ ((x &&& (2147483647 : Int32)) % (10 : Int32)).toInt = 3 ∨ ((x &&& (2147483647 : Int32)) % (10 : Int32)).toInt = 4 ∨ ((x &&& (2147483647 : Int32)) % (10 : Int32)).toInt = 5 ∨ ((x &&& (2147483647 : Int32)) % (10 : Int32)).toInt = 6 ∨ ((x &&& (2147483647 : Int32)) % (10 : Int32)).toInt = 7 ∨ ((x &&& (2147483647 : Int32)) % (10 : Int32)).toInt = 8 ∨ ((x &&& (2147483647 : Int32)) % (10 : Int32)).toInt = 9 := by omega
  rcases h3 with h | h | h | h | h | h | h | h | h | h
  · exact Or.inl (Int32.toInt_inj.mp (h.trans (by decide)))
  · exact Or.inr (Or.inl (Int32.toInt_inj.mp (h.trans (by decide))))
  · exact Or.inr (Or.inr (Or.inl (Int32.toInt_inj.mp (h.trans (by decide)))))
  · exact Or.inr (Or.inr (Or.inr (Or.inl (Int32.toInt_inj.mp (h.trans (by decide))))))
  · exact Or.inr (Or.inr (Or.inr (Or.inr (Or.inl (Int32.toInt_inj.mp (h.trans (by decide)))))))
  · exact Or.inr (Or.inr (Or.inr (Or.inr (Or.inr (Or.inl (Int32.toInt_inj.mp (h.trans (by decide))))))))
  · exact Or.inr (Or.inr (Or.inr (Or.inr (Or.inr (Or.inr (Or.inl (Int32.toInt_inj.mp (h.trans (by decide)))))))))
  · exact Or.inr (Or.inr (Or.inr (Or.inr (Or.inr (Or.inr (Or.inr (Or.inl (Int32.toInt_inj.mp (h.trans (by decide))))))))))
  · exact Or.inr (Or.inr (Or.inr (Or.inr (Or.inr (Or.inr (Or.inr (Or.inr (Or.inl (Int32.toInt_inj.mp (h.trans (by decide)))))))))))
  · exact Or.inr (Or.inr (Or.inr (Or.inr (Or.inr (Or.inr (Or.inr (Or.inr (Or.inr ((Int32.toInt_inj.mp (h.trans (by decide))))))))))))
theorem d3_0 : decode jdk_37_method_2_code 0 = .ok (.aload_n 0, 1) := by decide +kernel
theorem d3_1 : decode jdk_37_method_2_code 1 = .ok (.getfield 7, 3) := by decide +kernel
theorem d3_4 : decode jdk_37_method_2_code 4 = .ok (.ireturn, 1) := by decide +kernel
theorem pn_rm3 : plainName "java/lang/Enum" = true := by first | (simp [plainName, overriddenIn]; done) | decide +kernel
theorem ef_rm3 (m : MethodId) (a1 : Addr) : entryFrame m #[(.ref a1)] 1 = mkF m 0 #[.val (.ref a1)] [] := by first | (simp [entryFrame, mkF, argsToLocals, Value.category]; done) | rfl
def Q_rm3 (Z : State) (a1 : Addr) (k : Int32) (h0 : Heap) (n0 : Nat) (v : Option Value) (h : Heap) (L : List Loc) : Prop := v = some (.int k) ∧ Fr n0 L ∧ h = h0
set_option maxRecDepth 65536 in
set_option maxHeartbeats 40000000 in
theorem rm3 (l : Launch) (Z : State) (a0 : Array Value) (hw : ∀ d ∈ tables_1, d.before a0 Z = true) (ws : List Jvm.Cond) (a1 : Addr) (k : Int32) (h0 : Heap) (n0 : Nat) (O0 : Old Z n0 h0) (F1 : Fld Z Z.heap a1 "java/lang/Enum" "ordinal" "I" (.int k)) :
    MetFree l (⟨"java/lang/Enum", "ordinal", "()I"⟩ : MethodName) (head1 (Jvm.Cond.code (⟨"java/lang/Enum", "ordinal", "()I"⟩ : MethodName) jdk_37_method_2_code 1 (some .int) :: ws) ({ frames := 0, cells := 0, slots := 0, locals := 0 } : Room)) (fun a U => a = #[(.ref a1)] ∧ Z.Warmed39 U.vm ∧ U.heap = h0) (fun _ _ _ _ _ => True) (fun _ U o U' => ∃ v L, o = .returned v ∧ Q_rm3 Z a1 k h0 n0 v U'.heap L ∧ FrameEnd U o U' L ({ frames := 0, cells := 0, slots := 0, locals := 0 } : Room).cells ({ frames := 0, cells := 0, slots := 0, locals := 0 } : Room).slots) := by
  refine MetFree.of_bodySF (plainFor_of_name pn_rm3) hisR ?_
  intro p e s m args below meth c s₁ Bd hml0 hP hK
  obtain ⟨rfl, hZ, hh⟩ := hP
  have hx := Bd.exec
  have hby := Bd.bytes
  have hml : c.maxLocals = 1 := hml0
  have hown : s.vm.findClass "java/lang/Enum" = some m.cls := findClass_of_methodNamed Bd.named
  have hnm := (name_of_methodNamed Bd.named Bd.method).1
  have X0 : Stand p l e ({ frames := 0, cells := 0, slots := 0, locals := 0 } : Room) s m #[(.ref a1)] below meth c s₁ [] 0 0 := Stand.of_body Bd
  have e0 : s₁.heap = h0 := by rw [← hh, Bd.state]; rfl
  have N0 := Fr.nil n0
  refine Gl.start (Q := Q_rm3 Z a1 k h0 n0) (ef_rm3 m a1) ?_
  show Gl p e below s _ _ _ s₁ (mkF m 0 #[.val (.ref a1)] [])
  refine Gl.st (fun _ kk => XS.aloadN X0.here hx rfl (hb hby d3_0) rfl rfl kk) ?_
  show Gl p e below s _ _ _ s₁ (mkF m 1 #[.val (.ref a1)] [(.ref a1)])
  obtain ⟨T1, X1, e1, st1⟩ := getF X0 hx hZ hown (host := "") (Or.inl (hw _ (List.mem_of_getElem? (i := 26) rfl))) Via.refl e0 (F1.ext O0.2) (g := (mkF m 1 #[.val (.ref a1)] [(.ref a1)])) rfl rfl (hb hby d3_1)
  refine Gl.st st1 ?_
  show Gl p e below s _ _ _ T1 (mkF m 4 #[.val (.ref a1)] [(.int k)])
  exact Gl.ret X1 (v := (some (.int k))) (fun h => by rw [Bd.returns] at h; cases h) (BodyLoose.notSynchronized Bd) (fun hr => retI X1 hx Bd.returns (hb hby d3_4) hr) e1 ⟨rfl, N0, rfl⟩ (by decide) (by decide)
theorem d2_0 : decode prog_10_method_4_code 0 = .ok (.aload_n 0, 1) := by decide +kernel
theorem d2_1 : decode prog_10_method_4_code 1 = .ok (.invokevirtual 53, 3) := by decide +kernel
theorem d2_4 : decode prog_10_method_4_code 4 = .ok (.tableswitch 56 0 9 #[70, 70, 66, 70, 70, 66, 66, 70, 70, 70], 56) := by decide +kernel
theorem d2_70 : decode prog_10_method_4_code 70 = .ok (.iconst 1, 1) := by decide +kernel
theorem d2_71 : decode prog_10_method_4_code 71 = .ok (.goto 4, 3) := by decide +kernel
theorem d2_74 : decode prog_10_method_4_code 74 = .ok (.iconst 0, 1) := by decide +kernel
theorem d2_75 : decode prog_10_method_4_code 75 = .ok (.ireturn, 1) := by decide +kernel
theorem pd_rm2_0 : parseMethodDescriptor "()I" = some ⟨[], some .int⟩ := by decide +kernel
theorem pn_rm2 : plainName "com/example/vuoro/vuoro/centre/Route" = true := by first | (simp [plainName, overriddenIn]; done) | decide +kernel
theorem ef_rm2 (m : MethodId) (a1 : Addr) : entryFrame m #[(.ref a1)] 1 = mkF m 0 #[.val (.ref a1)] [] := by first | (simp [entryFrame, mkF, argsToLocals, Value.category]; done) | rfl
def Q_rm2 (Z : State) (a1 : Addr) (k z : Int32) (h0 : Heap) (n0 : Nat) (v : Option Value) (h : Heap) (L : List Loc) : Prop := v = some (.int z) ∧ Fr n0 L ∧ h = h0
set_option maxRecDepth 65536 in
set_option maxHeartbeats 40000000 in
theorem rm2 (l : Launch) (Z : State) (a0 : Array Value) (hw : ∀ d ∈ tables_1, d.before a0 Z = true) (ws : List Jvm.Cond) (a1 : Addr) (k z : Int32) (h0 : Heap) (n0 : Nat) (O0 : Old Z n0 h0) (E1 : Exa Z Z.heap a1 "com/example/vuoro/vuoro/centre/Route") (F1 : Fld Z Z.heap a1 "java/lang/Enum" "ordinal" "I" (.int k)) (hk : (k = 0 ∧ z = 0) ∨ (k = 1 ∧ z = 0) ∨ (k = 2 ∧ z = 1) ∨ (k = 3 ∧ z = 0) ∨ (k = 4 ∧ z = 0) ∨ (k = 5 ∧ z = 1) ∨ (k = 6 ∧ z = 1) ∨ (k = 7 ∧ z = 0) ∨ (k = 8 ∧ z = 0) ∨ (k = 9 ∧ z = 0)) :
    MetFree l (⟨"com/example/vuoro/vuoro/centre/Route", "countsUses", "()Z"⟩ : MethodName) (head1 (Jvm.Cond.code (⟨"com/example/vuoro/vuoro/centre/Route", "countsUses", "()Z"⟩ : MethodName) prog_10_method_4_code 1 (some .boolean) :: ws) ({ frames := 1, cells := 0, slots := 0, locals := 12 } : Room)) (fun a U => a = #[(.ref a1)] ∧ Z.Warmed39 U.vm ∧ U.heap = h0) (fun _ _ _ _ _ => True) (fun _ U o U' => ∃ v L, o = .returned v ∧ Q_rm2 Z a1 k z h0 n0 v U'.heap L ∧ FrameEnd U o U' L ({ frames := 1, cells := 0, slots := 0, locals := 12 } : Room).cells ({ frames := 1, cells := 0, slots := 0, locals := 12 } : Room).slots) := by
  refine MetFree.of_bodySF (plainFor_of_name pn_rm2) hisR ?_
  intro p e s m args below meth c s₁ Bd hml0 hP hK
  obtain ⟨rfl, hZ, hh⟩ := hP
  have hx := Bd.exec
  have hby := Bd.bytes
  have hml : c.maxLocals = 1 := hml0
  have hown : s.vm.findClass "com/example/vuoro/vuoro/centre/Route" = some m.cls := findClass_of_methodNamed Bd.named
  have hnm := (name_of_methodNamed Bd.named Bd.method).1
  have X0 : Stand p l e ({ frames := 1, cells := 0, slots := 0, locals := 12 } : Room) s m #[(.ref a1)] below meth c s₁ [] 0 0 := Stand.of_body Bd
  have e0 : s₁.heap = h0 := by rw [← hh, Bd.state]; rfl
  have N0 := Fr.nil n0
  refine Gl.start (Q := Q_rm2 Z a1 k z h0 n0) (ef_rm2 m a1) ?_
  show Gl p e below s _ _ _ s₁ (mkF m 0 #[.val (.ref a1)] [])
  refine Gl.st (fun _ kk => XS.aloadN X0.here hx rfl (hb hby d2_0) rfl rfl kk) ?_
  show Gl p e below s _ _ _ s₁ (mkF m 1 #[.val (.ref a1)] [(.ref a1)])
  obtain ⟨cq1, kq1, qa1, qb1, qc1⟩ := isOf hZ e0 (E1.ext O0.2)
  obtain ⟨_, _, ⟨T1, L1, k1, n1⟩, -, X1, ⟨Lc1, hQ1, l1, y1, z1⟩, st1⟩ := X0.virtualBackUp hx (x := (⟨"com/example/vuoro/vuoro/centre/Route", "ordinal", "()I"⟩ : MethodName)) (y := (⟨"java/lang/Enum", "ordinal", "()I"⟩ : MethodName)) hown (mvT hZ (hw _ (List.mem_of_getElem? (i := 19) rfl))) (mvT hZ (hw _ (List.mem_of_getElem? (i := 20) rfl))) (mvT hZ (hw _ (List.mem_of_getElem? (i := 21) rfl))) (by decide) (mvT hZ (hw _ (List.mem_of_getElem? (i := 23) rfl))) (mvT hZ (hw _ (List.mem_of_getElem? (i := 22) rfl))) (backOf (W := 0) (rm3 l Z a0 hw [] a1 k h0 n0 O0 F1) hZ (hw _ (List.mem_of_getElem? (i := 25) rfl)) (hw _ (List.mem_of_getElem? (i := 24) rfl)) (by decide) (by decide)) qa1 qc1 (g := (mkF m 1 #[.val (.ref a1)] [(.ref a1)])) rfl (by rw [hml]; rfl) (Steps.refl _) (argsL := []) (rest := []) (lenOf pd_rm2_0 rfl) rfl (by show 2 * 0 + _ ≤ _; exact Nat.le_of_eq rfl) (hb hby d2_1) (fun _ _ => ⟨rfl, e0, (by decide : 0 + 0 ≤ _), (by decide : 0 + 0 ≤ _)⟩)
  dsimp only [Pt.U, Pt.locs, Pt.cells, Pt.slots] at X1 l1 y1 z1 st1 hQ1
  subst l1 y1 z1
  obtain ⟨rfl, Nq1, e1⟩ := hQ1
  have N1 := Fr.app N0 Nq1
  refine Gl.st (fun _ kk => st1.trans kk) ?_
  show Gl p e below s _ _ _ T1 (mkF m 4 #[.val (.ref a1)] [(.int k)])
  rcases hk with ⟨rfl, hz⟩ | ⟨rfl, hz⟩ | ⟨rfl, hz⟩ | ⟨rfl, hz⟩ | ⟨rfl, hz⟩ | ⟨rfl, hz⟩ | ⟨rfl, hz⟩ | ⟨rfl, hz⟩ | ⟨rfl, hz⟩ | ⟨rfl, hz⟩
  · skip
    show Gl p e below s _ _ _ T1 (mkF m 4 #[.val (.ref a1)] [(.int (0 : Int32))])
    refine Gl.st (fun _ kk => XS.tswIn X1.here hx rfl (pc0 := 4) (pc' := 74) (o := 70) rfl (hb hby d2_4) rfl (by decide) (by decide) (by decide) (by decide) kk) ?_
    show Gl p e below s _ _ _ T1 (mkF m 74 #[.val (.ref a1)] [])
    refine Gl.st (fun _ kk => XS.iconst X1.here hx rfl (hb hby d2_74) kk) ?_
    show Gl p e below s _ _ _ T1 (mkF m 75 #[.val (.ref a1)] [(.int (0 : Int32))])
    exact Gl.ret X1 (v := (some (.int (0 : Int32)))) (fun h => by rw [Bd.returns] at h; cases h) (BodyLoose.notSynchronized Bd) (fun hr => retN X1 hx (t := .boolean) Bd.returns (by simp) (hb hby d2_75) hr) e1 ⟨by rw [hz], N1, rfl⟩ (by decide) (by decide)
  · skip
    show Gl p e below s _ _ _ T1 (mkF m 4 #[.val (.ref a1)] [(.int (1 : Int32))])
    refine Gl.st (fun _ kk => XS.tswIn X1.here hx rfl (pc0 := 4) (pc' := 74) (o := 70) rfl (hb hby d2_4) rfl (by decide) (by decide) (by decide) (by decide) kk) ?_
    show Gl p e below s _ _ _ T1 (mkF m 74 #[.val (.ref a1)] [])
    refine Gl.st (fun _ kk => XS.iconst X1.here hx rfl (hb hby d2_74) kk) ?_
    show Gl p e below s _ _ _ T1 (mkF m 75 #[.val (.ref a1)] [(.int (0 : Int32))])
    exact Gl.ret X1 (v := (some (.int (0 : Int32)))) (fun h => by rw [Bd.returns] at h; cases h) (BodyLoose.notSynchronized Bd) (fun hr => retN X1 hx (t := .boolean) Bd.returns (by simp) (hb hby d2_75) hr) e1 ⟨by rw [hz], N1, rfl⟩ (by decide) (by decide)
  · skip
    show Gl p e below s _ _ _ T1 (mkF m 4 #[.val (.ref a1)] [(.int (2 : Int32))])
    refine Gl.st (fun _ kk => XS.tswIn X1.here hx rfl (pc0 := 4) (pc' := 70) (o := 66) rfl (hb hby d2_4) rfl (by decide) (by decide) (by decide) (by decide) kk) ?_
    show Gl p e below s _ _ _ T1 (mkF m 70 #[.val (.ref a1)] [])
    refine Gl.st (fun _ kk => XS.iconst X1.here hx rfl (hb hby d2_70) kk) ?_
    show Gl p e below s _ _ _ T1 (mkF m 71 #[.val (.ref a1)] [(.int (1 : Int32))])
    refine Gl.st (fun _ kk => XS.goto X1.here hx rfl (pc0 := 71) (pc' := 75) rfl (hb hby d2_71) (by decide) (by decide) kk) ?_
    show Gl p e below s _ _ _ T1 (mkF m 75 #[.val (.ref a1)] [(.int (1 : Int32))])
    exact Gl.ret X1 (v := (some (.int (1 : Int32)))) (fun h => by rw [Bd.returns] at h; cases h) (BodyLoose.notSynchronized Bd) (fun hr => retN X1 hx (t := .boolean) Bd.returns (by simp) (hb hby d2_75) hr) e1 ⟨by rw [hz], N1, rfl⟩ (by decide) (by decide)
  · skip
    show Gl p e below s _ _ _ T1 (mkF m 4 #[.val (.ref a1)] [(.int (3 : Int32))])
    refine Gl.st (fun _ kk => XS.tswIn X1.here hx rfl (pc0 := 4) (pc' := 74) (o := 70) rfl (hb hby d2_4) rfl (by decide) (by decide) (by decide) (by decide) kk) ?_
    show Gl p e below s _ _ _ T1 (mkF m 74 #[.val (.ref a1)] [])
    refine Gl.st (fun _ kk => XS.iconst X1.here hx rfl (hb hby d2_74) kk) ?_
    show Gl p e below s _ _ _ T1 (mkF m 75 #[.val (.ref a1)] [(.int (0 : Int32))])
    exact Gl.ret X1 (v := (some (.int (0 : Int32)))) (fun h => by rw [Bd.returns] at h; cases h) (BodyLoose.notSynchronized Bd) (fun hr => retN X1 hx (t := .boolean) Bd.returns (by simp) (hb hby d2_75) hr) e1 ⟨by rw [hz], N1, rfl⟩ (by decide) (by decide)
  · skip
    show Gl p e below s _ _ _ T1 (mkF m 4 #[.val (.ref a1)] [(.int (4 : Int32))])
    refine Gl.st (fun _ kk => XS.tswIn X1.here hx rfl (pc0 := 4) (pc' := 74) (o := 70) rfl (hb hby d2_4) rfl (by decide) (by decide) (by decide) (by decide) kk) ?_
    show Gl p e below s _ _ _ T1 (mkF m 74 #[.val (.ref a1)] [])
    refine Gl.st (fun _ kk => XS.iconst X1.here hx rfl (hb hby d2_74) kk) ?_
    show Gl p e below s _ _ _ T1 (mkF m 75 #[.val (.ref a1)] [(.int (0 : Int32))])
    exact Gl.ret X1 (v := (some (.int (0 : Int32)))) (fun h => by rw [Bd.returns] at h; cases h) (BodyLoose.notSynchronized Bd) (fun hr => retN X1 hx (t := .boolean) Bd.returns (by simp) (hb hby d2_75) hr) e1 ⟨by rw [hz], N1, rfl⟩ (by decide) (by decide)
  · skip
    show Gl p e below s _ _ _ T1 (mkF m 4 #[.val (.ref a1)] [(.int (5 : Int32))])
    refine Gl.st (fun _ kk => XS.tswIn X1.here hx rfl (pc0 := 4) (pc' := 70) (o := 66) rfl (hb hby d2_4) rfl (by decide) (by decide) (by decide) (by decide) kk) ?_
    show Gl p e below s _ _ _ T1 (mkF m 70 #[.val (.ref a1)] [])
    refine Gl.st (fun _ kk => XS.iconst X1.here hx rfl (hb hby d2_70) kk) ?_
    show Gl p e below s _ _ _ T1 (mkF m 71 #[.val (.ref a1)] [(.int (1 : Int32))])
    refine Gl.st (fun _ kk => XS.goto X1.here hx rfl (pc0 := 71) (pc' := 75) rfl (hb hby d2_71) (by decide) (by decide) kk) ?_
    show Gl p e below s _ _ _ T1 (mkF m 75 #[.val (.ref a1)] [(.int (1 : Int32))])
    exact Gl.ret X1 (v := (some (.int (1 : Int32)))) (fun h => by rw [Bd.returns] at h; cases h) (BodyLoose.notSynchronized Bd) (fun hr => retN X1 hx (t := .boolean) Bd.returns (by simp) (hb hby d2_75) hr) e1 ⟨by rw [hz], N1, rfl⟩ (by decide) (by decide)
  · skip
    show Gl p e below s _ _ _ T1 (mkF m 4 #[.val (.ref a1)] [(.int (6 : Int32))])
    refine Gl.st (fun _ kk => XS.tswIn X1.here hx rfl (pc0 := 4) (pc' := 70) (o := 66) rfl (hb hby d2_4) rfl (by decide) (by decide) (by decide) (by decide) kk) ?_
    show Gl p e below s _ _ _ T1 (mkF m 70 #[.val (.ref a1)] [])
    refine Gl.st (fun _ kk => XS.iconst X1.here hx rfl (hb hby d2_70) kk) ?_
    show Gl p e below s _ _ _ T1 (mkF m 71 #[.val (.ref a1)] [(.int (1 : Int32))])
    refine Gl.st (fun _ kk => XS.goto X1.here hx rfl (pc0 := 71) (pc' := 75) rfl (hb hby d2_71) (by decide) (by decide) kk) ?_
    show Gl p e below s _ _ _ T1 (mkF m 75 #[.val (.ref a1)] [(.int (1 : Int32))])
    exact Gl.ret X1 (v := (some (.int (1 : Int32)))) (fun h => by rw [Bd.returns] at h; cases h) (BodyLoose.notSynchronized Bd) (fun hr => retN X1 hx (t := .boolean) Bd.returns (by simp) (hb hby d2_75) hr) e1 ⟨by rw [hz], N1, rfl⟩ (by decide) (by decide)
  · skip
    show Gl p e below s _ _ _ T1 (mkF m 4 #[.val (.ref a1)] [(.int (7 : Int32))])
    refine Gl.st (fun _ kk => XS.tswIn X1.here hx rfl (pc0 := 4) (pc' := 74) (o := 70) rfl (hb hby d2_4) rfl (by decide) (by decide) (by decide) (by decide) kk) ?_
    show Gl p e below s _ _ _ T1 (mkF m 74 #[.val (.ref a1)] [])
    refine Gl.st (fun _ kk => XS.iconst X1.here hx rfl (hb hby d2_74) kk) ?_
    show Gl p e below s _ _ _ T1 (mkF m 75 #[.val (.ref a1)] [(.int (0 : Int32))])
    exact Gl.ret X1 (v := (some (.int (0 : Int32)))) (fun h => by rw [Bd.returns] at h; cases h) (BodyLoose.notSynchronized Bd) (fun hr => retN X1 hx (t := .boolean) Bd.returns (by simp) (hb hby d2_75) hr) e1 ⟨by rw [hz], N1, rfl⟩ (by decide) (by decide)
  · skip
    show Gl p e below s _ _ _ T1 (mkF m 4 #[.val (.ref a1)] [(.int (8 : Int32))])
    refine Gl.st (fun _ kk => XS.tswIn X1.here hx rfl (pc0 := 4) (pc' := 74) (o := 70) rfl (hb hby d2_4) rfl (by decide) (by decide) (by decide) (by decide) kk) ?_
    show Gl p e below s _ _ _ T1 (mkF m 74 #[.val (.ref a1)] [])
    refine Gl.st (fun _ kk => XS.iconst X1.here hx rfl (hb hby d2_74) kk) ?_
    show Gl p e below s _ _ _ T1 (mkF m 75 #[.val (.ref a1)] [(.int (0 : Int32))])
    exact Gl.ret X1 (v := (some (.int (0 : Int32)))) (fun h => by rw [Bd.returns] at h; cases h) (BodyLoose.notSynchronized Bd) (fun hr => retN X1 hx (t := .boolean) Bd.returns (by simp) (hb hby d2_75) hr) e1 ⟨by rw [hz], N1, rfl⟩ (by decide) (by decide)
  · skip
    show Gl p e below s _ _ _ T1 (mkF m 4 #[.val (.ref a1)] [(.int (9 : Int32))])
    refine Gl.st (fun _ kk => XS.tswIn X1.here hx rfl (pc0 := 4) (pc' := 74) (o := 70) rfl (hb hby d2_4) rfl (by decide) (by decide) (by decide) (by decide) kk) ?_
    show Gl p e below s _ _ _ T1 (mkF m 74 #[.val (.ref a1)] [])
    refine Gl.st (fun _ kk => XS.iconst X1.here hx rfl (hb hby d2_74) kk) ?_
    show Gl p e below s _ _ _ T1 (mkF m 75 #[.val (.ref a1)] [(.int (0 : Int32))])
    exact Gl.ret X1 (v := (some (.int (0 : Int32)))) (fun h => by rw [Bd.returns] at h; cases h) (BodyLoose.notSynchronized Bd) (fun hr => retN X1 hx (t := .boolean) Bd.returns (by simp) (hb hby d2_75) hr) e1 ⟨by rw [hz], N1, rfl⟩ (by decide) (by decide)
theorem d1_0 : decode method_2_code 0 = .ok (.iload_n 0, 1) := by decide +kernel
theorem d1_1 : decode method_2_code 1 = .ok (.ifCond .ne 7, 3) := by decide +kernel
theorem d1_4 : decode method_2_code 4 = .ok (.getstatic 7, 3) := by decide +kernel
theorem d1_7 : decode method_2_code 7 = .ok (.areturn, 1) := by decide +kernel
theorem d1_8 : decode method_2_code 8 = .ok (.iload_n 0, 1) := by decide +kernel
theorem d1_9 : decode method_2_code 9 = .ok (.iconst 1, 1) := by decide +kernel
theorem d1_10 : decode method_2_code 10 = .ok (.if_icmp .ne 7, 3) := by decide +kernel
theorem d1_13 : decode method_2_code 13 = .ok (.getstatic 13, 3) := by decide +kernel
theorem d1_16 : decode method_2_code 16 = .ok (.areturn, 1) := by decide +kernel
theorem d1_17 : decode method_2_code 17 = .ok (.iload_n 0, 1) := by decide +kernel
theorem d1_18 : decode method_2_code 18 = .ok (.iconst 2, 1) := by decide +kernel
theorem d1_19 : decode method_2_code 19 = .ok (.if_icmp .ne 7, 3) := by decide +kernel
theorem d1_22 : decode method_2_code 22 = .ok (.getstatic 16, 3) := by decide +kernel
theorem d1_25 : decode method_2_code 25 = .ok (.areturn, 1) := by decide +kernel
theorem d1_26 : decode method_2_code 26 = .ok (.iload_n 0, 1) := by decide +kernel
theorem d1_27 : decode method_2_code 27 = .ok (.iconst 3, 1) := by decide +kernel
theorem d1_28 : decode method_2_code 28 = .ok (.if_icmp .ne 7, 3) := by decide +kernel
theorem d1_31 : decode method_2_code 31 = .ok (.getstatic 19, 3) := by decide +kernel
theorem d1_34 : decode method_2_code 34 = .ok (.areturn, 1) := by decide +kernel
theorem d1_35 : decode method_2_code 35 = .ok (.iload_n 0, 1) := by decide +kernel
theorem d1_36 : decode method_2_code 36 = .ok (.iconst 4, 1) := by decide +kernel
theorem d1_37 : decode method_2_code 37 = .ok (.if_icmp .ne 7, 3) := by decide +kernel
theorem d1_40 : decode method_2_code 40 = .ok (.getstatic 22, 3) := by decide +kernel
theorem d1_43 : decode method_2_code 43 = .ok (.areturn, 1) := by decide +kernel
theorem d1_44 : decode method_2_code 44 = .ok (.iload_n 0, 1) := by decide +kernel
theorem d1_45 : decode method_2_code 45 = .ok (.iconst 5, 1) := by decide +kernel
theorem d1_46 : decode method_2_code 46 = .ok (.if_icmp .ne 7, 3) := by decide +kernel
theorem d1_49 : decode method_2_code 49 = .ok (.getstatic 25, 3) := by decide +kernel
theorem d1_52 : decode method_2_code 52 = .ok (.areturn, 1) := by decide +kernel
theorem d1_53 : decode method_2_code 53 = .ok (.iload_n 0, 1) := by decide +kernel
theorem d1_54 : decode method_2_code 54 = .ok (.bipush 6, 2) := by decide +kernel
theorem d1_56 : decode method_2_code 56 = .ok (.if_icmp .ne 7, 3) := by decide +kernel
theorem d1_59 : decode method_2_code 59 = .ok (.getstatic 28, 3) := by decide +kernel
theorem d1_62 : decode method_2_code 62 = .ok (.areturn, 1) := by decide +kernel
theorem d1_63 : decode method_2_code 63 = .ok (.iload_n 0, 1) := by decide +kernel
theorem d1_64 : decode method_2_code 64 = .ok (.bipush 7, 2) := by decide +kernel
theorem d1_66 : decode method_2_code 66 = .ok (.if_icmp .ne 7, 3) := by decide +kernel
theorem d1_69 : decode method_2_code 69 = .ok (.getstatic 31, 3) := by decide +kernel
theorem d1_72 : decode method_2_code 72 = .ok (.areturn, 1) := by decide +kernel
theorem d1_73 : decode method_2_code 73 = .ok (.iload_n 0, 1) := by decide +kernel
theorem d1_74 : decode method_2_code 74 = .ok (.bipush 8, 2) := by decide +kernel
theorem d1_76 : decode method_2_code 76 = .ok (.if_icmp .ne 7, 3) := by decide +kernel
theorem d1_79 : decode method_2_code 79 = .ok (.getstatic 34, 3) := by decide +kernel
theorem d1_82 : decode method_2_code 82 = .ok (.areturn, 1) := by decide +kernel
theorem d1_83 : decode method_2_code 83 = .ok (.getstatic 37, 3) := by decide +kernel
theorem d1_86 : decode method_2_code 86 = .ok (.areturn, 1) := by decide +kernel
theorem pn_rm1 : plainName "com/example/vuoro/vuoro/centre/RouteCountsUsesPinLaw" = true := by first | (simp [plainName, overriddenIn]; done) | decide +kernel
theorem ef_rm1 (m : MethodId) (q1 : Int32) : entryFrame m #[(.int q1)] 1 = mkF m 0 #[.val (.int q1)] [] := by first | (simp [entryFrame, mkF, argsToLocals, Value.category]; done) | rfl
def Q_rm1 (Z : State) (q1 : Int32) (w_FIRST w_LAST w_ROUND w_RANDOM w_CONSISTENT_HASH w_LEAST_FREQUENTLY_USED w_LEAST_RECENTLY_USED w_FAILOVER w_BUSYOVER w_SHARDING_BROADCAST : Addr) (w : Addr) (h0 : Heap) (n0 : Nat) (v : Option Value) (h : Heap) (L : List Loc) : Prop := v = some (.ref w) ∧ Fr n0 L ∧ h = h0
set_option maxRecDepth 65536 in
set_option maxHeartbeats 40000000 in
theorem rm1 (l : Launch) (Z : State) (a0 : Array Value) (hw : ∀ d ∈ tables_1, d.before a0 Z = true) (ws : List Jvm.Cond) (q1 : Int32) (w_FIRST w_LAST w_ROUND w_RANDOM w_CONSISTENT_HASH w_LEAST_FREQUENTLY_USED w_LEAST_RECENTLY_USED w_FAILOVER w_BUSYOVER w_SHARDING_BROADCAST : Addr) (w : Addr) (h0 : Heap) (n0 : Nat) (O0 : Old Z n0 h0) (S_FIRST : Sta Z Z.heap "com/example/vuoro/vuoro/centre/Route" "FIRST" "Lcom/example/vuoro/vuoro/centre/Route;" (.ref w_FIRST)) (S_LAST : Sta Z Z.heap "com/example/vuoro/vuoro/centre/Route" "LAST" "Lcom/example/vuoro/vuoro/centre/Route;" (.ref w_LAST)) (S_ROUND : Sta Z Z.heap "com/example/vuoro/vuoro/centre/Route" "ROUND" "Lcom/example/vuoro/vuoro/centre/Route;" (.ref w_ROUND)) (S_RANDOM : Sta Z Z.heap "com/example/vuoro/vuoro/centre/Route" "RANDOM" "Lcom/example/vuoro/vuoro/centre/Route;" (.ref w_RANDOM)) (S_CONSISTENT_HASH : Sta Z Z.heap "com/example/vuoro/vuoro/centre/Route" "CONSISTENT_HASH" "Lcom/example/vuoro/vuoro/centre/Route;" (.ref w_CONSISTENT_HASH)) (S_LEAST_FREQUENTLY_USED : Sta Z Z.heap "com/example/vuoro/vuoro/centre/Route" "LEAST_FREQUENTLY_USED" "Lcom/example/vuoro/vuoro/centre/Route;" (.ref w_LEAST_FREQUENTLY_USED)) (S_LEAST_RECENTLY_USED : Sta Z Z.heap "com/example/vuoro/vuoro/centre/Route" "LEAST_RECENTLY_USED" "Lcom/example/vuoro/vuoro/centre/Route;" (.ref w_LEAST_RECENTLY_USED)) (S_FAILOVER : Sta Z Z.heap "com/example/vuoro/vuoro/centre/Route" "FAILOVER" "Lcom/example/vuoro/vuoro/centre/Route;" (.ref w_FAILOVER)) (S_BUSYOVER : Sta Z Z.heap "com/example/vuoro/vuoro/centre/Route" "BUSYOVER" "Lcom/example/vuoro/vuoro/centre/Route;" (.ref w_BUSYOVER)) (S_SHARDING_BROADCAST : Sta Z Z.heap "com/example/vuoro/vuoro/centre/Route" "SHARDING_BROADCAST" "Lcom/example/vuoro/vuoro/centre/Route;" (.ref w_SHARDING_BROADCAST)) (hp : (q1 = 0 ∧ w = w_FIRST) ∨ (q1 = 1 ∧ w = w_LAST) ∨ (q1 = 2 ∧ w = w_ROUND) ∨ (q1 = 3 ∧ w = w_RANDOM) ∨ (q1 = 4 ∧ w = w_CONSISTENT_HASH) ∨ (q1 = 5 ∧ w = w_LEAST_FREQUENTLY_USED) ∨ (q1 = 6 ∧ w = w_LEAST_RECENTLY_USED) ∨ (q1 = 7 ∧ w = w_FAILOVER) ∨ (q1 = 8 ∧ w = w_BUSYOVER) ∨ (q1 = 9 ∧ w = w_SHARDING_BROADCAST)) :
    MetFree l (⟨"com/example/vuoro/vuoro/centre/RouteCountsUsesPinLaw", "pick", "(I)Lcom/example/vuoro/vuoro/centre/Route;"⟩ : MethodName) (head1 (Jvm.Cond.code (⟨"com/example/vuoro/vuoro/centre/RouteCountsUsesPinLaw", "pick", "(I)Lcom/example/vuoro/vuoro/centre/Route;"⟩ : MethodName) method_2_code 1 (some (.object "com/example/vuoro/vuoro/centre/Route")) :: ws) ({ frames := 0, cells := 0, slots := 0, locals := 0 } : Room)) (fun a U => a = #[(.int q1)] ∧ Z.Warmed39 U.vm ∧ U.heap = h0) (fun _ _ _ _ _ => True) (fun _ U o U' => ∃ v L, o = .returned v ∧ Q_rm1 Z q1 w_FIRST w_LAST w_ROUND w_RANDOM w_CONSISTENT_HASH w_LEAST_FREQUENTLY_USED w_LEAST_RECENTLY_USED w_FAILOVER w_BUSYOVER w_SHARDING_BROADCAST w h0 n0 v U'.heap L ∧ FrameEnd U o U' L ({ frames := 0, cells := 0, slots := 0, locals := 0 } : Room).cells ({ frames := 0, cells := 0, slots := 0, locals := 0 } : Room).slots) := by
  refine MetFree.of_bodySF (plainFor_of_name pn_rm1) hisR ?_
  intro p e s m args below meth c s₁ Bd hml0 hP hK
  obtain ⟨rfl, hZ, hh⟩ := hP
  have hx := Bd.exec
  have hby := Bd.bytes
  have hml : c.maxLocals = 1 := hml0
  have hown : s.vm.findClass "com/example/vuoro/vuoro/centre/RouteCountsUsesPinLaw" = some m.cls := findClass_of_methodNamed Bd.named
  have hnm := (name_of_methodNamed Bd.named Bd.method).1
  have X0 : Stand p l e ({ frames := 0, cells := 0, slots := 0, locals := 0 } : Room) s m #[(.int q1)] below meth c s₁ [] 0 0 := Stand.of_body Bd
  have e0 : s₁.heap = h0 := by rw [← hh, Bd.state]; rfl
  have N0 := Fr.nil n0
  refine Gl.start (Q := Q_rm1 Z q1 w_FIRST w_LAST w_ROUND w_RANDOM w_CONSISTENT_HASH w_LEAST_FREQUENTLY_USED w_LEAST_RECENTLY_USED w_FAILOVER w_BUSYOVER w_SHARDING_BROADCAST w h0 n0) (ef_rm1 m q1) ?_
  show Gl p e below s _ _ _ s₁ (mkF m 0 #[.val (.int q1)] [])
  rcases hp with ⟨rfl, hr⟩ | ⟨rfl, hr⟩ | ⟨rfl, hr⟩ | ⟨rfl, hr⟩ | ⟨rfl, hr⟩ | ⟨rfl, hr⟩ | ⟨rfl, hr⟩ | ⟨rfl, hr⟩ | ⟨rfl, hr⟩ | ⟨rfl, hr⟩
  · skip
    show Gl p e below s _ _ _ s₁ (mkF m 0 #[.val (.int (0 : Int32))] [])
    refine Gl.st (fun _ kk => XS.iloadN X0.here hx rfl (hb hby d1_0) rfl kk) ?_
    show Gl p e below s _ _ _ s₁ (mkF m 1 #[.val (.int (0 : Int32))] [(.int (0 : Int32))])
    refine Gl.st (fun _ kk => XS.ifNo X0.here hx rfl (hb hby d1_1) rfl ((if0 _ _).trans (teq (by decide : (0 : Int32) = (0 : Int32))).2) kk) ?_
    show Gl p e below s _ _ _ s₁ (mkF m 4 #[.val (.int (0 : Int32))] [])
    obtain ⟨T1, X1, e1, st1⟩ := getS2 X0 hx hZ hown (host := "") (Or.inl (hw _ (List.mem_of_getElem? (i := 5) rfl))) Via.refl e0 (S_FIRST.ext O0.2) (g := (mkF m 4 #[.val (.int (0 : Int32))] [])) rfl (hb hby d1_4)
    refine Gl.st st1 ?_
    show Gl p e below s _ _ _ T1 (mkF m 7 #[.val (.int (0 : Int32))] [(.ref w_FIRST)])
    exact Gl.ret X1 (v := (some (.ref w_FIRST))) (fun h => by rw [Bd.returns] at h; cases h) (BodyLoose.notSynchronized Bd) (fun hr => retOut X1 hx Bd.returns rfl (Or.inr (Or.inr (Or.inr (Or.inr ⟨rfl, rfl, rfl⟩)))) (hb hby d1_7) hr) e1 ⟨by rw [hr], N0, rfl⟩ (by decide) (by decide)
  · skip
    show Gl p e below s _ _ _ s₁ (mkF m 0 #[.val (.int (1 : Int32))] [])
    refine Gl.st (fun _ kk => XS.iloadN X0.here hx rfl (hb hby d1_0) rfl kk) ?_
    show Gl p e below s _ _ _ s₁ (mkF m 1 #[.val (.int (1 : Int32))] [(.int (1 : Int32))])
    refine Gl.st (fun _ kk => XS.ifYes X0.here hx rfl (pc0 := 1) (pc' := 8) rfl (hb hby d1_1) rfl ((if0 _ _).trans (feq (by decide : ¬ ((1 : Int32) = (0 : Int32)))).2) (by decide) (by decide) kk) ?_
    show Gl p e below s _ _ _ s₁ (mkF m 8 #[.val (.int (1 : Int32))] [])
    refine Gl.st (fun _ kk => XS.iloadN X0.here hx rfl (hb hby d1_8) rfl kk) ?_
    show Gl p e below s _ _ _ s₁ (mkF m 9 #[.val (.int (1 : Int32))] [(.int (1 : Int32))])
    refine Gl.st (fun _ kk => XS.iconst X0.here hx rfl (hb hby d1_9) kk) ?_
    show Gl p e below s _ _ _ s₁ (mkF m 10 #[.val (.int (1 : Int32))] [(.int (1 : Int32)), (.int (1 : Int32))])
    refine Gl.st (fun _ kk => XS.icmpNo X0.here hx rfl (hb hby d1_10) rfl (teq (by decide : (1 : Int32) = (1 : Int32))).2 kk) ?_
    show Gl p e below s _ _ _ s₁ (mkF m 13 #[.val (.int (1 : Int32))] [])
    obtain ⟨T2, X2, e2, st2⟩ := getS2 X0 hx hZ hown (host := "") (Or.inl (hw _ (List.mem_of_getElem? (i := 30) rfl))) Via.refl e0 (S_LAST.ext O0.2) (g := (mkF m 13 #[.val (.int (1 : Int32))] [])) rfl (hb hby d1_13)
    refine Gl.st st2 ?_
    show Gl p e below s _ _ _ T2 (mkF m 16 #[.val (.int (1 : Int32))] [(.ref w_LAST)])
    exact Gl.ret X2 (v := (some (.ref w_LAST))) (fun h => by rw [Bd.returns] at h; cases h) (BodyLoose.notSynchronized Bd) (fun hr => retOut X2 hx Bd.returns rfl (Or.inr (Or.inr (Or.inr (Or.inr ⟨rfl, rfl, rfl⟩)))) (hb hby d1_16) hr) e2 ⟨by rw [hr], N0, rfl⟩ (by decide) (by decide)
  · skip
    show Gl p e below s _ _ _ s₁ (mkF m 0 #[.val (.int (2 : Int32))] [])
    refine Gl.st (fun _ kk => XS.iloadN X0.here hx rfl (hb hby d1_0) rfl kk) ?_
    show Gl p e below s _ _ _ s₁ (mkF m 1 #[.val (.int (2 : Int32))] [(.int (2 : Int32))])
    refine Gl.st (fun _ kk => XS.ifYes X0.here hx rfl (pc0 := 1) (pc' := 8) rfl (hb hby d1_1) rfl ((if0 _ _).trans (feq (by decide : ¬ ((2 : Int32) = (0 : Int32)))).2) (by decide) (by decide) kk) ?_
    show Gl p e below s _ _ _ s₁ (mkF m 8 #[.val (.int (2 : Int32))] [])
    refine Gl.st (fun _ kk => XS.iloadN X0.here hx rfl (hb hby d1_8) rfl kk) ?_
    show Gl p e below s _ _ _ s₁ (mkF m 9 #[.val (.int (2 : Int32))] [(.int (2 : Int32))])
    refine Gl.st (fun _ kk => XS.iconst X0.here hx rfl (hb hby d1_9) kk) ?_
    show Gl p e below s _ _ _ s₁ (mkF m 10 #[.val (.int (2 : Int32))] [(.int (1 : Int32)), (.int (2 : Int32))])
    refine Gl.st (fun _ kk => XS.icmpYes X0.here hx rfl (pc0 := 10) (pc' := 17) rfl (hb hby d1_10) rfl (feq (by decide : ¬ ((2 : Int32) = (1 : Int32)))).2 (by decide) (by decide) kk) ?_
    show Gl p e below s _ _ _ s₁ (mkF m 17 #[.val (.int (2 : Int32))] [])
    refine Gl.st (fun _ kk => XS.iloadN X0.here hx rfl (hb hby d1_17) rfl kk) ?_
    show Gl p e below s _ _ _ s₁ (mkF m 18 #[.val (.int (2 : Int32))] [(.int (2 : Int32))])
    refine Gl.st (fun _ kk => XS.iconst X0.here hx rfl (hb hby d1_18) kk) ?_
    show Gl p e below s _ _ _ s₁ (mkF m 19 #[.val (.int (2 : Int32))] [(.int (2 : Int32)), (.int (2 : Int32))])
    refine Gl.st (fun _ kk => XS.icmpNo X0.here hx rfl (hb hby d1_19) rfl (teq (by decide : (2 : Int32) = (2 : Int32))).2 kk) ?_
    show Gl p e below s _ _ _ s₁ (mkF m 22 #[.val (.int (2 : Int32))] [])
    obtain ⟨T3, X3, e3, st3⟩ := getS2 X0 hx hZ hown (host := "") (Or.inl (hw _ (List.mem_of_getElem? (i := 8) rfl))) Via.refl e0 (S_ROUND.ext O0.2) (g := (mkF m 22 #[.val (.int (2 : Int32))] [])) rfl (hb hby d1_22)
    refine Gl.st st3 ?_
    show Gl p e below s _ _ _ T3 (mkF m 25 #[.val (.int (2 : Int32))] [(.ref w_ROUND)])
    exact Gl.ret X3 (v := (some (.ref w_ROUND))) (fun h => by rw [Bd.returns] at h; cases h) (BodyLoose.notSynchronized Bd) (fun hr => retOut X3 hx Bd.returns rfl (Or.inr (Or.inr (Or.inr (Or.inr ⟨rfl, rfl, rfl⟩)))) (hb hby d1_25) hr) e3 ⟨by rw [hr], N0, rfl⟩ (by decide) (by decide)
  · skip
    show Gl p e below s _ _ _ s₁ (mkF m 0 #[.val (.int (3 : Int32))] [])
    refine Gl.st (fun _ kk => XS.iloadN X0.here hx rfl (hb hby d1_0) rfl kk) ?_
    show Gl p e below s _ _ _ s₁ (mkF m 1 #[.val (.int (3 : Int32))] [(.int (3 : Int32))])
    refine Gl.st (fun _ kk => XS.ifYes X0.here hx rfl (pc0 := 1) (pc' := 8) rfl (hb hby d1_1) rfl ((if0 _ _).trans (feq (by decide : ¬ ((3 : Int32) = (0 : Int32)))).2) (by decide) (by decide) kk) ?_
    show Gl p e below s _ _ _ s₁ (mkF m 8 #[.val (.int (3 : Int32))] [])
    refine Gl.st (fun _ kk => XS.iloadN X0.here hx rfl (hb hby d1_8) rfl kk) ?_
    show Gl p e below s _ _ _ s₁ (mkF m 9 #[.val (.int (3 : Int32))] [(.int (3 : Int32))])
    refine Gl.st (fun _ kk => XS.iconst X0.here hx rfl (hb hby d1_9) kk) ?_
    show Gl p e below s _ _ _ s₁ (mkF m 10 #[.val (.int (3 : Int32))] [(.int (1 : Int32)), (.int (3 : Int32))])
    refine Gl.st (fun _ kk => XS.icmpYes X0.here hx rfl (pc0 := 10) (pc' := 17) rfl (hb hby d1_10) rfl (feq (by decide : ¬ ((3 : Int32) = (1 : Int32)))).2 (by decide) (by decide) kk) ?_
    show Gl p e below s _ _ _ s₁ (mkF m 17 #[.val (.int (3 : Int32))] [])
    refine Gl.st (fun _ kk => XS.iloadN X0.here hx rfl (hb hby d1_17) rfl kk) ?_
    show Gl p e below s _ _ _ s₁ (mkF m 18 #[.val (.int (3 : Int32))] [(.int (3 : Int32))])
    refine Gl.st (fun _ kk => XS.iconst X0.here hx rfl (hb hby d1_18) kk) ?_
    show Gl p e below s _ _ _ s₁ (mkF m 19 #[.val (.int (3 : Int32))] [(.int (2 : Int32)), (.int (3 : Int32))])
    refine Gl.st (fun _ kk => XS.icmpYes X0.here hx rfl (pc0 := 19) (pc' := 26) rfl (hb hby d1_19) rfl (feq (by decide : ¬ ((3 : Int32) = (2 : Int32)))).2 (by decide) (by decide) kk) ?_
    show Gl p e below s _ _ _ s₁ (mkF m 26 #[.val (.int (3 : Int32))] [])
    refine Gl.st (fun _ kk => XS.iloadN X0.here hx rfl (hb hby d1_26) rfl kk) ?_
    show Gl p e below s _ _ _ s₁ (mkF m 27 #[.val (.int (3 : Int32))] [(.int (3 : Int32))])
    refine Gl.st (fun _ kk => XS.iconst X0.here hx rfl (hb hby d1_27) kk) ?_
    show Gl p e below s _ _ _ s₁ (mkF m 28 #[.val (.int (3 : Int32))] [(.int (3 : Int32)), (.int (3 : Int32))])
    refine Gl.st (fun _ kk => XS.icmpNo X0.here hx rfl (hb hby d1_28) rfl (teq (by decide : (3 : Int32) = (3 : Int32))).2 kk) ?_
    show Gl p e below s _ _ _ s₁ (mkF m 31 #[.val (.int (3 : Int32))] [])
    obtain ⟨T4, X4, e4, st4⟩ := getS2 X0 hx hZ hown (host := "") (Or.inl (hw _ (List.mem_of_getElem? (i := 28) rfl))) Via.refl e0 (S_RANDOM.ext O0.2) (g := (mkF m 31 #[.val (.int (3 : Int32))] [])) rfl (hb hby d1_31)
    refine Gl.st st4 ?_
    show Gl p e below s _ _ _ T4 (mkF m 34 #[.val (.int (3 : Int32))] [(.ref w_RANDOM)])
    exact Gl.ret X4 (v := (some (.ref w_RANDOM))) (fun h => by rw [Bd.returns] at h; cases h) (BodyLoose.notSynchronized Bd) (fun hr => retOut X4 hx Bd.returns rfl (Or.inr (Or.inr (Or.inr (Or.inr ⟨rfl, rfl, rfl⟩)))) (hb hby d1_34) hr) e4 ⟨by rw [hr], N0, rfl⟩ (by decide) (by decide)
  · skip
    show Gl p e below s _ _ _ s₁ (mkF m 0 #[.val (.int (4 : Int32))] [])
    refine Gl.st (fun _ kk => XS.iloadN X0.here hx rfl (hb hby d1_0) rfl kk) ?_
    show Gl p e below s _ _ _ s₁ (mkF m 1 #[.val (.int (4 : Int32))] [(.int (4 : Int32))])
    refine Gl.st (fun _ kk => XS.ifYes X0.here hx rfl (pc0 := 1) (pc' := 8) rfl (hb hby d1_1) rfl ((if0 _ _).trans (feq (by decide : ¬ ((4 : Int32) = (0 : Int32)))).2) (by decide) (by decide) kk) ?_
    show Gl p e below s _ _ _ s₁ (mkF m 8 #[.val (.int (4 : Int32))] [])
    refine Gl.st (fun _ kk => XS.iloadN X0.here hx rfl (hb hby d1_8) rfl kk) ?_
    show Gl p e below s _ _ _ s₁ (mkF m 9 #[.val (.int (4 : Int32))] [(.int (4 : Int32))])
    refine Gl.st (fun _ kk => XS.iconst X0.here hx rfl (hb hby d1_9) kk) ?_
    show Gl p e below s _ _ _ s₁ (mkF m 10 #[.val (.int (4 : Int32))] [(.int (1 : Int32)), (.int (4 : Int32))])
    refine Gl.st (fun _ kk => XS.icmpYes X0.here hx rfl (pc0 := 10) (pc' := 17) rfl (hb hby d1_10) rfl (feq (by decide : ¬ ((4 : Int32) = (1 : Int32)))).2 (by decide) (by decide) kk) ?_
    show Gl p e below s _ _ _ s₁ (mkF m 17 #[.val (.int (4 : Int32))] [])
    refine Gl.st (fun _ kk => XS.iloadN X0.here hx rfl (hb hby d1_17) rfl kk) ?_
    show Gl p e below s _ _ _ s₁ (mkF m 18 #[.val (.int (4 : Int32))] [(.int (4 : Int32))])
    refine Gl.st (fun _ kk => XS.iconst X0.here hx rfl (hb hby d1_18) kk) ?_
    show Gl p e below s _ _ _ s₁ (mkF m 19 #[.val (.int (4 : Int32))] [(.int (2 : Int32)), (.int (4 : Int32))])
    refine Gl.st (fun _ kk => XS.icmpYes X0.here hx rfl (pc0 := 19) (pc' := 26) rfl (hb hby d1_19) rfl (feq (by decide : ¬ ((4 : Int32) = (2 : Int32)))).2 (by decide) (by decide) kk) ?_
    show Gl p e below s _ _ _ s₁ (mkF m 26 #[.val (.int (4 : Int32))] [])
    refine Gl.st (fun _ kk => XS.iloadN X0.here hx rfl (hb hby d1_26) rfl kk) ?_
    show Gl p e below s _ _ _ s₁ (mkF m 27 #[.val (.int (4 : Int32))] [(.int (4 : Int32))])
    refine Gl.st (fun _ kk => XS.iconst X0.here hx rfl (hb hby d1_27) kk) ?_
    show Gl p e below s _ _ _ s₁ (mkF m 28 #[.val (.int (4 : Int32))] [(.int (3 : Int32)), (.int (4 : Int32))])
    refine Gl.st (fun _ kk => XS.icmpYes X0.here hx rfl (pc0 := 28) (pc' := 35) rfl (hb hby d1_28) rfl (feq (by decide : ¬ ((4 : Int32) = (3 : Int32)))).2 (by decide) (by decide) kk) ?_
    show Gl p e below s _ _ _ s₁ (mkF m 35 #[.val (.int (4 : Int32))] [])
    refine Gl.st (fun _ kk => XS.iloadN X0.here hx rfl (hb hby d1_35) rfl kk) ?_
    show Gl p e below s _ _ _ s₁ (mkF m 36 #[.val (.int (4 : Int32))] [(.int (4 : Int32))])
    refine Gl.st (fun _ kk => XS.iconst X0.here hx rfl (hb hby d1_36) kk) ?_
    show Gl p e below s _ _ _ s₁ (mkF m 37 #[.val (.int (4 : Int32))] [(.int (4 : Int32)), (.int (4 : Int32))])
    refine Gl.st (fun _ kk => XS.icmpNo X0.here hx rfl (hb hby d1_37) rfl (teq (by decide : (4 : Int32) = (4 : Int32))).2 kk) ?_
    show Gl p e below s _ _ _ s₁ (mkF m 40 #[.val (.int (4 : Int32))] [])
    obtain ⟨T5, X5, e5, st5⟩ := getS2 X0 hx hZ hown (host := "") (Or.inl (hw _ (List.mem_of_getElem? (i := 32) rfl))) Via.refl e0 (S_CONSISTENT_HASH.ext O0.2) (g := (mkF m 40 #[.val (.int (4 : Int32))] [])) rfl (hb hby d1_40)
    refine Gl.st st5 ?_
    show Gl p e below s _ _ _ T5 (mkF m 43 #[.val (.int (4 : Int32))] [(.ref w_CONSISTENT_HASH)])
    exact Gl.ret X5 (v := (some (.ref w_CONSISTENT_HASH))) (fun h => by rw [Bd.returns] at h; cases h) (BodyLoose.notSynchronized Bd) (fun hr => retOut X5 hx Bd.returns rfl (Or.inr (Or.inr (Or.inr (Or.inr ⟨rfl, rfl, rfl⟩)))) (hb hby d1_43) hr) e5 ⟨by rw [hr], N0, rfl⟩ (by decide) (by decide)
  · skip
    show Gl p e below s _ _ _ s₁ (mkF m 0 #[.val (.int (5 : Int32))] [])
    refine Gl.st (fun _ kk => XS.iloadN X0.here hx rfl (hb hby d1_0) rfl kk) ?_
    show Gl p e below s _ _ _ s₁ (mkF m 1 #[.val (.int (5 : Int32))] [(.int (5 : Int32))])
    refine Gl.st (fun _ kk => XS.ifYes X0.here hx rfl (pc0 := 1) (pc' := 8) rfl (hb hby d1_1) rfl ((if0 _ _).trans (feq (by decide : ¬ ((5 : Int32) = (0 : Int32)))).2) (by decide) (by decide) kk) ?_
    show Gl p e below s _ _ _ s₁ (mkF m 8 #[.val (.int (5 : Int32))] [])
    refine Gl.st (fun _ kk => XS.iloadN X0.here hx rfl (hb hby d1_8) rfl kk) ?_
    show Gl p e below s _ _ _ s₁ (mkF m 9 #[.val (.int (5 : Int32))] [(.int (5 : Int32))])
    refine Gl.st (fun _ kk => XS.iconst X0.here hx rfl (hb hby d1_9) kk) ?_
    show Gl p e below s _ _ _ s₁ (mkF m 10 #[.val (.int (5 : Int32))] [(.int (1 : Int32)), (.int (5 : Int32))])
    refine Gl.st (fun _ kk => XS.icmpYes X0.here hx rfl (pc0 := 10) (pc' := 17) rfl (hb hby d1_10) rfl (feq (by decide : ¬ ((5 : Int32) = (1 : Int32)))).2 (by decide) (by decide) kk) ?_
    show Gl p e below s _ _ _ s₁ (mkF m 17 #[.val (.int (5 : Int32))] [])
    refine Gl.st (fun _ kk => XS.iloadN X0.here hx rfl (hb hby d1_17) rfl kk) ?_
    show Gl p e below s _ _ _ s₁ (mkF m 18 #[.val (.int (5 : Int32))] [(.int (5 : Int32))])
    refine Gl.st (fun _ kk => XS.iconst X0.here hx rfl (hb hby d1_18) kk) ?_
    show Gl p e below s _ _ _ s₁ (mkF m 19 #[.val (.int (5 : Int32))] [(.int (2 : Int32)), (.int (5 : Int32))])
    refine Gl.st (fun _ kk => XS.icmpYes X0.here hx rfl (pc0 := 19) (pc' := 26) rfl (hb hby d1_19) rfl (feq (by decide : ¬ ((5 : Int32) = (2 : Int32)))).2 (by decide) (by decide) kk) ?_
    show Gl p e below s _ _ _ s₁ (mkF m 26 #[.val (.int (5 : Int32))] [])
    refine Gl.st (fun _ kk => XS.iloadN X0.here hx rfl (hb hby d1_26) rfl kk) ?_
    show Gl p e below s _ _ _ s₁ (mkF m 27 #[.val (.int (5 : Int32))] [(.int (5 : Int32))])
    refine Gl.st (fun _ kk => XS.iconst X0.here hx rfl (hb hby d1_27) kk) ?_
    show Gl p e below s _ _ _ s₁ (mkF m 28 #[.val (.int (5 : Int32))] [(.int (3 : Int32)), (.int (5 : Int32))])
    refine Gl.st (fun _ kk => XS.icmpYes X0.here hx rfl (pc0 := 28) (pc' := 35) rfl (hb hby d1_28) rfl (feq (by decide : ¬ ((5 : Int32) = (3 : Int32)))).2 (by decide) (by decide) kk) ?_
    show Gl p e below s _ _ _ s₁ (mkF m 35 #[.val (.int (5 : Int32))] [])
    refine Gl.st (fun _ kk => XS.iloadN X0.here hx rfl (hb hby d1_35) rfl kk) ?_
    show Gl p e below s _ _ _ s₁ (mkF m 36 #[.val (.int (5 : Int32))] [(.int (5 : Int32))])
    refine Gl.st (fun _ kk => XS.iconst X0.here hx rfl (hb hby d1_36) kk) ?_
    show Gl p e below s _ _ _ s₁ (mkF m 37 #[.val (.int (5 : Int32))] [(.int (4 : Int32)), (.int (5 : Int32))])
    refine Gl.st (fun _ kk => XS.icmpYes X0.here hx rfl (pc0 := 37) (pc' := 44) rfl (hb hby d1_37) rfl (feq (by decide : ¬ ((5 : Int32) = (4 : Int32)))).2 (by decide) (by decide) kk) ?_
    show Gl p e below s _ _ _ s₁ (mkF m 44 #[.val (.int (5 : Int32))] [])
    refine Gl.st (fun _ kk => XS.iloadN X0.here hx rfl (hb hby d1_44) rfl kk) ?_
    show Gl p e below s _ _ _ s₁ (mkF m 45 #[.val (.int (5 : Int32))] [(.int (5 : Int32))])
    refine Gl.st (fun _ kk => XS.iconst X0.here hx rfl (hb hby d1_45) kk) ?_
    show Gl p e below s _ _ _ s₁ (mkF m 46 #[.val (.int (5 : Int32))] [(.int (5 : Int32)), (.int (5 : Int32))])
    refine Gl.st (fun _ kk => XS.icmpNo X0.here hx rfl (hb hby d1_46) rfl (teq (by decide : (5 : Int32) = (5 : Int32))).2 kk) ?_
    show Gl p e below s _ _ _ s₁ (mkF m 49 #[.val (.int (5 : Int32))] [])
    obtain ⟨T6, X6, e6, st6⟩ := getS2 X0 hx hZ hown (host := "") (Or.inl (hw _ (List.mem_of_getElem? (i := 10) rfl))) Via.refl e0 (S_LEAST_FREQUENTLY_USED.ext O0.2) (g := (mkF m 49 #[.val (.int (5 : Int32))] [])) rfl (hb hby d1_49)
    refine Gl.st st6 ?_
    show Gl p e below s _ _ _ T6 (mkF m 52 #[.val (.int (5 : Int32))] [(.ref w_LEAST_FREQUENTLY_USED)])
    exact Gl.ret X6 (v := (some (.ref w_LEAST_FREQUENTLY_USED))) (fun h => by rw [Bd.returns] at h; cases h) (BodyLoose.notSynchronized Bd) (fun hr => retOut X6 hx Bd.returns rfl (Or.inr (Or.inr (Or.inr (Or.inr ⟨rfl, rfl, rfl⟩)))) (hb hby d1_52) hr) e6 ⟨by rw [hr], N0, rfl⟩ (by decide) (by decide)
  · skip
    show Gl p e below s _ _ _ s₁ (mkF m 0 #[.val (.int (6 : Int32))] [])
    refine Gl.st (fun _ kk => XS.iloadN X0.here hx rfl (hb hby d1_0) rfl kk) ?_
    show Gl p e below s _ _ _ s₁ (mkF m 1 #[.val (.int (6 : Int32))] [(.int (6 : Int32))])
    refine Gl.st (fun _ kk => XS.ifYes X0.here hx rfl (pc0 := 1) (pc' := 8) rfl (hb hby d1_1) rfl ((if0 _ _).trans (feq (by decide : ¬ ((6 : Int32) = (0 : Int32)))).2) (by decide) (by decide) kk) ?_
    show Gl p e below s _ _ _ s₁ (mkF m 8 #[.val (.int (6 : Int32))] [])
    refine Gl.st (fun _ kk => XS.iloadN X0.here hx rfl (hb hby d1_8) rfl kk) ?_
    show Gl p e below s _ _ _ s₁ (mkF m 9 #[.val (.int (6 : Int32))] [(.int (6 : Int32))])
    refine Gl.st (fun _ kk => XS.iconst X0.here hx rfl (hb hby d1_9) kk) ?_
    show Gl p e below s _ _ _ s₁ (mkF m 10 #[.val (.int (6 : Int32))] [(.int (1 : Int32)), (.int (6 : Int32))])
    refine Gl.st (fun _ kk => XS.icmpYes X0.here hx rfl (pc0 := 10) (pc' := 17) rfl (hb hby d1_10) rfl (feq (by decide : ¬ ((6 : Int32) = (1 : Int32)))).2 (by decide) (by decide) kk) ?_
    show Gl p e below s _ _ _ s₁ (mkF m 17 #[.val (.int (6 : Int32))] [])
    refine Gl.st (fun _ kk => XS.iloadN X0.here hx rfl (hb hby d1_17) rfl kk) ?_
    show Gl p e below s _ _ _ s₁ (mkF m 18 #[.val (.int (6 : Int32))] [(.int (6 : Int32))])
    refine Gl.st (fun _ kk => XS.iconst X0.here hx rfl (hb hby d1_18) kk) ?_
    show Gl p e below s _ _ _ s₁ (mkF m 19 #[.val (.int (6 : Int32))] [(.int (2 : Int32)), (.int (6 : Int32))])
    refine Gl.st (fun _ kk => XS.icmpYes X0.here hx rfl (pc0 := 19) (pc' := 26) rfl (hb hby d1_19) rfl (feq (by decide : ¬ ((6 : Int32) = (2 : Int32)))).2 (by decide) (by decide) kk) ?_
    show Gl p e below s _ _ _ s₁ (mkF m 26 #[.val (.int (6 : Int32))] [])
    refine Gl.st (fun _ kk => XS.iloadN X0.here hx rfl (hb hby d1_26) rfl kk) ?_
    show Gl p e below s _ _ _ s₁ (mkF m 27 #[.val (.int (6 : Int32))] [(.int (6 : Int32))])
    refine Gl.st (fun _ kk => XS.iconst X0.here hx rfl (hb hby d1_27) kk) ?_
    show Gl p e below s _ _ _ s₁ (mkF m 28 #[.val (.int (6 : Int32))] [(.int (3 : Int32)), (.int (6 : Int32))])
    refine Gl.st (fun _ kk => XS.icmpYes X0.here hx rfl (pc0 := 28) (pc' := 35) rfl (hb hby d1_28) rfl (feq (by decide : ¬ ((6 : Int32) = (3 : Int32)))).2 (by decide) (by decide) kk) ?_
    show Gl p e below s _ _ _ s₁ (mkF m 35 #[.val (.int (6 : Int32))] [])
    refine Gl.st (fun _ kk => XS.iloadN X0.here hx rfl (hb hby d1_35) rfl kk) ?_
    show Gl p e below s _ _ _ s₁ (mkF m 36 #[.val (.int (6 : Int32))] [(.int (6 : Int32))])
    refine Gl.st (fun _ kk => XS.iconst X0.here hx rfl (hb hby d1_36) kk) ?_
    show Gl p e below s _ _ _ s₁ (mkF m 37 #[.val (.int (6 : Int32))] [(.int (4 : Int32)), (.int (6 : Int32))])
    refine Gl.st (fun _ kk => XS.icmpYes X0.here hx rfl (pc0 := 37) (pc' := 44) rfl (hb hby d1_37) rfl (feq (by decide : ¬ ((6 : Int32) = (4 : Int32)))).2 (by decide) (by decide) kk) ?_
    show Gl p e below s _ _ _ s₁ (mkF m 44 #[.val (.int (6 : Int32))] [])
    refine Gl.st (fun _ kk => XS.iloadN X0.here hx rfl (hb hby d1_44) rfl kk) ?_
    show Gl p e below s _ _ _ s₁ (mkF m 45 #[.val (.int (6 : Int32))] [(.int (6 : Int32))])
    refine Gl.st (fun _ kk => XS.iconst X0.here hx rfl (hb hby d1_45) kk) ?_
    show Gl p e below s _ _ _ s₁ (mkF m 46 #[.val (.int (6 : Int32))] [(.int (5 : Int32)), (.int (6 : Int32))])
    refine Gl.st (fun _ kk => XS.icmpYes X0.here hx rfl (pc0 := 46) (pc' := 53) rfl (hb hby d1_46) rfl (feq (by decide : ¬ ((6 : Int32) = (5 : Int32)))).2 (by decide) (by decide) kk) ?_
    show Gl p e below s _ _ _ s₁ (mkF m 53 #[.val (.int (6 : Int32))] [])
    refine Gl.st (fun _ kk => XS.iloadN X0.here hx rfl (hb hby d1_53) rfl kk) ?_
    show Gl p e below s _ _ _ s₁ (mkF m 54 #[.val (.int (6 : Int32))] [(.int (6 : Int32))])
    refine Gl.st (fun _ kk => XS.bipush X0.here hx rfl (hb hby d1_54) kk) ?_
    show Gl p e below s _ _ _ s₁ (mkF m 56 #[.val (.int (6 : Int32))] [(.int (6 : Int32)), (.int (6 : Int32))])
    refine Gl.st (fun _ kk => XS.icmpNo X0.here hx rfl (hb hby d1_56) rfl (teq (by decide : (6 : Int32) = (6 : Int32))).2 kk) ?_
    show Gl p e below s _ _ _ s₁ (mkF m 59 #[.val (.int (6 : Int32))] [])
    obtain ⟨T7, X7, e7, st7⟩ := getS2 X0 hx hZ hown (host := "") (Or.inl (hw _ (List.mem_of_getElem? (i := 12) rfl))) Via.refl e0 (S_LEAST_RECENTLY_USED.ext O0.2) (g := (mkF m 59 #[.val (.int (6 : Int32))] [])) rfl (hb hby d1_59)
    refine Gl.st st7 ?_
    show Gl p e below s _ _ _ T7 (mkF m 62 #[.val (.int (6 : Int32))] [(.ref w_LEAST_RECENTLY_USED)])
    exact Gl.ret X7 (v := (some (.ref w_LEAST_RECENTLY_USED))) (fun h => by rw [Bd.returns] at h; cases h) (BodyLoose.notSynchronized Bd) (fun hr => retOut X7 hx Bd.returns rfl (Or.inr (Or.inr (Or.inr (Or.inr ⟨rfl, rfl, rfl⟩)))) (hb hby d1_62) hr) e7 ⟨by rw [hr], N0, rfl⟩ (by decide) (by decide)
  · skip
    show Gl p e below s _ _ _ s₁ (mkF m 0 #[.val (.int (7 : Int32))] [])
    refine Gl.st (fun _ kk => XS.iloadN X0.here hx rfl (hb hby d1_0) rfl kk) ?_
    show Gl p e below s _ _ _ s₁ (mkF m 1 #[.val (.int (7 : Int32))] [(.int (7 : Int32))])
    refine Gl.st (fun _ kk => XS.ifYes X0.here hx rfl (pc0 := 1) (pc' := 8) rfl (hb hby d1_1) rfl ((if0 _ _).trans (feq (by decide : ¬ ((7 : Int32) = (0 : Int32)))).2) (by decide) (by decide) kk) ?_
    show Gl p e below s _ _ _ s₁ (mkF m 8 #[.val (.int (7 : Int32))] [])
    refine Gl.st (fun _ kk => XS.iloadN X0.here hx rfl (hb hby d1_8) rfl kk) ?_
    show Gl p e below s _ _ _ s₁ (mkF m 9 #[.val (.int (7 : Int32))] [(.int (7 : Int32))])
    refine Gl.st (fun _ kk => XS.iconst X0.here hx rfl (hb hby d1_9) kk) ?_
    show Gl p e below s _ _ _ s₁ (mkF m 10 #[.val (.int (7 : Int32))] [(.int (1 : Int32)), (.int (7 : Int32))])
    refine Gl.st (fun _ kk => XS.icmpYes X0.here hx rfl (pc0 := 10) (pc' := 17) rfl (hb hby d1_10) rfl (feq (by decide : ¬ ((7 : Int32) = (1 : Int32)))).2 (by decide) (by decide) kk) ?_
    show Gl p e below s _ _ _ s₁ (mkF m 17 #[.val (.int (7 : Int32))] [])
    refine Gl.st (fun _ kk => XS.iloadN X0.here hx rfl (hb hby d1_17) rfl kk) ?_
    show Gl p e below s _ _ _ s₁ (mkF m 18 #[.val (.int (7 : Int32))] [(.int (7 : Int32))])
    refine Gl.st (fun _ kk => XS.iconst X0.here hx rfl (hb hby d1_18) kk) ?_
    show Gl p e below s _ _ _ s₁ (mkF m 19 #[.val (.int (7 : Int32))] [(.int (2 : Int32)), (.int (7 : Int32))])
    refine Gl.st (fun _ kk => XS.icmpYes X0.here hx rfl (pc0 := 19) (pc' := 26) rfl (hb hby d1_19) rfl (feq (by decide : ¬ ((7 : Int32) = (2 : Int32)))).2 (by decide) (by decide) kk) ?_
    show Gl p e below s _ _ _ s₁ (mkF m 26 #[.val (.int (7 : Int32))] [])
    refine Gl.st (fun _ kk => XS.iloadN X0.here hx rfl (hb hby d1_26) rfl kk) ?_
    show Gl p e below s _ _ _ s₁ (mkF m 27 #[.val (.int (7 : Int32))] [(.int (7 : Int32))])
    refine Gl.st (fun _ kk => XS.iconst X0.here hx rfl (hb hby d1_27) kk) ?_
    show Gl p e below s _ _ _ s₁ (mkF m 28 #[.val (.int (7 : Int32))] [(.int (3 : Int32)), (.int (7 : Int32))])
    refine Gl.st (fun _ kk => XS.icmpYes X0.here hx rfl (pc0 := 28) (pc' := 35) rfl (hb hby d1_28) rfl (feq (by decide : ¬ ((7 : Int32) = (3 : Int32)))).2 (by decide) (by decide) kk) ?_
    show Gl p e below s _ _ _ s₁ (mkF m 35 #[.val (.int (7 : Int32))] [])
    refine Gl.st (fun _ kk => XS.iloadN X0.here hx rfl (hb hby d1_35) rfl kk) ?_
    show Gl p e below s _ _ _ s₁ (mkF m 36 #[.val (.int (7 : Int32))] [(.int (7 : Int32))])
    refine Gl.st (fun _ kk => XS.iconst X0.here hx rfl (hb hby d1_36) kk) ?_
    show Gl p e below s _ _ _ s₁ (mkF m 37 #[.val (.int (7 : Int32))] [(.int (4 : Int32)), (.int (7 : Int32))])
    refine Gl.st (fun _ kk => XS.icmpYes X0.here hx rfl (pc0 := 37) (pc' := 44) rfl (hb hby d1_37) rfl (feq (by decide : ¬ ((7 : Int32) = (4 : Int32)))).2 (by decide) (by decide) kk) ?_
    show Gl p e below s _ _ _ s₁ (mkF m 44 #[.val (.int (7 : Int32))] [])
    refine Gl.st (fun _ kk => XS.iloadN X0.here hx rfl (hb hby d1_44) rfl kk) ?_
    show Gl p e below s _ _ _ s₁ (mkF m 45 #[.val (.int (7 : Int32))] [(.int (7 : Int32))])
    refine Gl.st (fun _ kk => XS.iconst X0.here hx rfl (hb hby d1_45) kk) ?_
    show Gl p e below s _ _ _ s₁ (mkF m 46 #[.val (.int (7 : Int32))] [(.int (5 : Int32)), (.int (7 : Int32))])
    refine Gl.st (fun _ kk => XS.icmpYes X0.here hx rfl (pc0 := 46) (pc' := 53) rfl (hb hby d1_46) rfl (feq (by decide : ¬ ((7 : Int32) = (5 : Int32)))).2 (by decide) (by decide) kk) ?_
    show Gl p e below s _ _ _ s₁ (mkF m 53 #[.val (.int (7 : Int32))] [])
    refine Gl.st (fun _ kk => XS.iloadN X0.here hx rfl (hb hby d1_53) rfl kk) ?_
    show Gl p e below s _ _ _ s₁ (mkF m 54 #[.val (.int (7 : Int32))] [(.int (7 : Int32))])
    refine Gl.st (fun _ kk => XS.bipush X0.here hx rfl (hb hby d1_54) kk) ?_
    show Gl p e below s _ _ _ s₁ (mkF m 56 #[.val (.int (7 : Int32))] [(.int (6 : Int32)), (.int (7 : Int32))])
    refine Gl.st (fun _ kk => XS.icmpYes X0.here hx rfl (pc0 := 56) (pc' := 63) rfl (hb hby d1_56) rfl (feq (by decide : ¬ ((7 : Int32) = (6 : Int32)))).2 (by decide) (by decide) kk) ?_
    show Gl p e below s _ _ _ s₁ (mkF m 63 #[.val (.int (7 : Int32))] [])
    refine Gl.st (fun _ kk => XS.iloadN X0.here hx rfl (hb hby d1_63) rfl kk) ?_
    show Gl p e below s _ _ _ s₁ (mkF m 64 #[.val (.int (7 : Int32))] [(.int (7 : Int32))])
    refine Gl.st (fun _ kk => XS.bipush X0.here hx rfl (hb hby d1_64) kk) ?_
    show Gl p e below s _ _ _ s₁ (mkF m 66 #[.val (.int (7 : Int32))] [(.int (7 : Int32)), (.int (7 : Int32))])
    refine Gl.st (fun _ kk => XS.icmpNo X0.here hx rfl (hb hby d1_66) rfl (teq (by decide : (7 : Int32) = (7 : Int32))).2 kk) ?_
    show Gl p e below s _ _ _ s₁ (mkF m 69 #[.val (.int (7 : Int32))] [])
    obtain ⟨T8, X8, e8, st8⟩ := getS2 X0 hx hZ hown (host := "") (Or.inl (hw _ (List.mem_of_getElem? (i := 34) rfl))) Via.refl e0 (S_FAILOVER.ext O0.2) (g := (mkF m 69 #[.val (.int (7 : Int32))] [])) rfl (hb hby d1_69)
    refine Gl.st st8 ?_
    show Gl p e below s _ _ _ T8 (mkF m 72 #[.val (.int (7 : Int32))] [(.ref w_FAILOVER)])
    exact Gl.ret X8 (v := (some (.ref w_FAILOVER))) (fun h => by rw [Bd.returns] at h; cases h) (BodyLoose.notSynchronized Bd) (fun hr => retOut X8 hx Bd.returns rfl (Or.inr (Or.inr (Or.inr (Or.inr ⟨rfl, rfl, rfl⟩)))) (hb hby d1_72) hr) e8 ⟨by rw [hr], N0, rfl⟩ (by decide) (by decide)
  · skip
    show Gl p e below s _ _ _ s₁ (mkF m 0 #[.val (.int (8 : Int32))] [])
    refine Gl.st (fun _ kk => XS.iloadN X0.here hx rfl (hb hby d1_0) rfl kk) ?_
    show Gl p e below s _ _ _ s₁ (mkF m 1 #[.val (.int (8 : Int32))] [(.int (8 : Int32))])
    refine Gl.st (fun _ kk => XS.ifYes X0.here hx rfl (pc0 := 1) (pc' := 8) rfl (hb hby d1_1) rfl ((if0 _ _).trans (feq (by decide : ¬ ((8 : Int32) = (0 : Int32)))).2) (by decide) (by decide) kk) ?_
    show Gl p e below s _ _ _ s₁ (mkF m 8 #[.val (.int (8 : Int32))] [])
    refine Gl.st (fun _ kk => XS.iloadN X0.here hx rfl (hb hby d1_8) rfl kk) ?_
    show Gl p e below s _ _ _ s₁ (mkF m 9 #[.val (.int (8 : Int32))] [(.int (8 : Int32))])
    refine Gl.st (fun _ kk => XS.iconst X0.here hx rfl (hb hby d1_9) kk) ?_
    show Gl p e below s _ _ _ s₁ (mkF m 10 #[.val (.int (8 : Int32))] [(.int (1 : Int32)), (.int (8 : Int32))])
    refine Gl.st (fun _ kk => XS.icmpYes X0.here hx rfl (pc0 := 10) (pc' := 17) rfl (hb hby d1_10) rfl (feq (by decide : ¬ ((8 : Int32) = (1 : Int32)))).2 (by decide) (by decide) kk) ?_
    show Gl p e below s _ _ _ s₁ (mkF m 17 #[.val (.int (8 : Int32))] [])
    refine Gl.st (fun _ kk => XS.iloadN X0.here hx rfl (hb hby d1_17) rfl kk) ?_
    show Gl p e below s _ _ _ s₁ (mkF m 18 #[.val (.int (8 : Int32))] [(.int (8 : Int32))])
    refine Gl.st (fun _ kk => XS.iconst X0.here hx rfl (hb hby d1_18) kk) ?_
    show Gl p e below s _ _ _ s₁ (mkF m 19 #[.val (.int (8 : Int32))] [(.int (2 : Int32)), (.int (8 : Int32))])
    refine Gl.st (fun _ kk => XS.icmpYes X0.here hx rfl (pc0 := 19) (pc' := 26) rfl (hb hby d1_19) rfl (feq (by decide : ¬ ((8 : Int32) = (2 : Int32)))).2 (by decide) (by decide) kk) ?_
    show Gl p e below s _ _ _ s₁ (mkF m 26 #[.val (.int (8 : Int32))] [])
    refine Gl.st (fun _ kk => XS.iloadN X0.here hx rfl (hb hby d1_26) rfl kk) ?_
    show Gl p e below s _ _ _ s₁ (mkF m 27 #[.val (.int (8 : Int32))] [(.int (8 : Int32))])
    refine Gl.st (fun _ kk => XS.iconst X0.here hx rfl (hb hby d1_27) kk) ?_
    show Gl p e below s _ _ _ s₁ (mkF m 28 #[.val (.int (8 : Int32))] [(.int (3 : Int32)), (.int (8 : Int32))])
    refine Gl.st (fun _ kk => XS.icmpYes X0.here hx rfl (pc0 := 28) (pc' := 35) rfl (hb hby d1_28) rfl (feq (by decide : ¬ ((8 : Int32) = (3 : Int32)))).2 (by decide) (by decide) kk) ?_
    show Gl p e below s _ _ _ s₁ (mkF m 35 #[.val (.int (8 : Int32))] [])
    refine Gl.st (fun _ kk => XS.iloadN X0.here hx rfl (hb hby d1_35) rfl kk) ?_
    show Gl p e below s _ _ _ s₁ (mkF m 36 #[.val (.int (8 : Int32))] [(.int (8 : Int32))])
    refine Gl.st (fun _ kk => XS.iconst X0.here hx rfl (hb hby d1_36) kk) ?_
    show Gl p e below s _ _ _ s₁ (mkF m 37 #[.val (.int (8 : Int32))] [(.int (4 : Int32)), (.int (8 : Int32))])
    refine Gl.st (fun _ kk => XS.icmpYes X0.here hx rfl (pc0 := 37) (pc' := 44) rfl (hb hby d1_37) rfl (feq (by decide : ¬ ((8 : Int32) = (4 : Int32)))).2 (by decide) (by decide) kk) ?_
    show Gl p e below s _ _ _ s₁ (mkF m 44 #[.val (.int (8 : Int32))] [])
    refine Gl.st (fun _ kk => XS.iloadN X0.here hx rfl (hb hby d1_44) rfl kk) ?_
    show Gl p e below s _ _ _ s₁ (mkF m 45 #[.val (.int (8 : Int32))] [(.int (8 : Int32))])
    refine Gl.st (fun _ kk => XS.iconst X0.here hx rfl (hb hby d1_45) kk) ?_
    show Gl p e below s _ _ _ s₁ (mkF m 46 #[.val (.int (8 : Int32))] [(.int (5 : Int32)), (.int (8 : Int32))])
    refine Gl.st (fun _ kk => XS.icmpYes X0.here hx rfl (pc0 := 46) (pc' := 53) rfl (hb hby d1_46) rfl (feq (by decide : ¬ ((8 : Int32) = (5 : Int32)))).2 (by decide) (by decide) kk) ?_
    show Gl p e below s _ _ _ s₁ (mkF m 53 #[.val (.int (8 : Int32))] [])
    refine Gl.st (fun _ kk => XS.iloadN X0.here hx rfl (hb hby d1_53) rfl kk) ?_
    show Gl p e below s _ _ _ s₁ (mkF m 54 #[.val (.int (8 : Int32))] [(.int (8 : Int32))])
    refine Gl.st (fun _ kk => XS.bipush X0.here hx rfl (hb hby d1_54) kk) ?_
    show Gl p e below s _ _ _ s₁ (mkF m 56 #[.val (.int (8 : Int32))] [(.int (6 : Int32)), (.int (8 : Int32))])
    refine Gl.st (fun _ kk => XS.icmpYes X0.here hx rfl (pc0 := 56) (pc' := 63) rfl (hb hby d1_56) rfl (feq (by decide : ¬ ((8 : Int32) = (6 : Int32)))).2 (by decide) (by decide) kk) ?_
    show Gl p e below s _ _ _ s₁ (mkF m 63 #[.val (.int (8 : Int32))] [])
    refine Gl.st (fun _ kk => XS.iloadN X0.here hx rfl (hb hby d1_63) rfl kk) ?_
    show Gl p e below s _ _ _ s₁ (mkF m 64 #[.val (.int (8 : Int32))] [(.int (8 : Int32))])
    refine Gl.st (fun _ kk => XS.bipush X0.here hx rfl (hb hby d1_64) kk) ?_
    show Gl p e below s _ _ _ s₁ (mkF m 66 #[.val (.int (8 : Int32))] [(.int (7 : Int32)), (.int (8 : Int32))])
    refine Gl.st (fun _ kk => XS.icmpYes X0.here hx rfl (pc0 := 66) (pc' := 73) rfl (hb hby d1_66) rfl (feq (by decide : ¬ ((8 : Int32) = (7 : Int32)))).2 (by decide) (by decide) kk) ?_
    show Gl p e below s _ _ _ s₁ (mkF m 73 #[.val (.int (8 : Int32))] [])
    refine Gl.st (fun _ kk => XS.iloadN X0.here hx rfl (hb hby d1_73) rfl kk) ?_
    show Gl p e below s _ _ _ s₁ (mkF m 74 #[.val (.int (8 : Int32))] [(.int (8 : Int32))])
    refine Gl.st (fun _ kk => XS.bipush X0.here hx rfl (hb hby d1_74) kk) ?_
    show Gl p e below s _ _ _ s₁ (mkF m 76 #[.val (.int (8 : Int32))] [(.int (8 : Int32)), (.int (8 : Int32))])
    refine Gl.st (fun _ kk => XS.icmpNo X0.here hx rfl (hb hby d1_76) rfl (teq (by decide : (8 : Int32) = (8 : Int32))).2 kk) ?_
    show Gl p e below s _ _ _ s₁ (mkF m 79 #[.val (.int (8 : Int32))] [])
    obtain ⟨T9, X9, e9, st9⟩ := getS2 X0 hx hZ hown (host := "") (Or.inl (hw _ (List.mem_of_getElem? (i := 36) rfl))) Via.refl e0 (S_BUSYOVER.ext O0.2) (g := (mkF m 79 #[.val (.int (8 : Int32))] [])) rfl (hb hby d1_79)
    refine Gl.st st9 ?_
    show Gl p e below s _ _ _ T9 (mkF m 82 #[.val (.int (8 : Int32))] [(.ref w_BUSYOVER)])
    exact Gl.ret X9 (v := (some (.ref w_BUSYOVER))) (fun h => by rw [Bd.returns] at h; cases h) (BodyLoose.notSynchronized Bd) (fun hr => retOut X9 hx Bd.returns rfl (Or.inr (Or.inr (Or.inr (Or.inr ⟨rfl, rfl, rfl⟩)))) (hb hby d1_82) hr) e9 ⟨by rw [hr], N0, rfl⟩ (by decide) (by decide)
  · skip
    show Gl p e below s _ _ _ s₁ (mkF m 0 #[.val (.int (9 : Int32))] [])
    refine Gl.st (fun _ kk => XS.iloadN X0.here hx rfl (hb hby d1_0) rfl kk) ?_
    show Gl p e below s _ _ _ s₁ (mkF m 1 #[.val (.int (9 : Int32))] [(.int (9 : Int32))])
    refine Gl.st (fun _ kk => XS.ifYes X0.here hx rfl (pc0 := 1) (pc' := 8) rfl (hb hby d1_1) rfl ((if0 _ _).trans (feq (by decide : ¬ ((9 : Int32) = (0 : Int32)))).2) (by decide) (by decide) kk) ?_
    show Gl p e below s _ _ _ s₁ (mkF m 8 #[.val (.int (9 : Int32))] [])
    refine Gl.st (fun _ kk => XS.iloadN X0.here hx rfl (hb hby d1_8) rfl kk) ?_
    show Gl p e below s _ _ _ s₁ (mkF m 9 #[.val (.int (9 : Int32))] [(.int (9 : Int32))])
    refine Gl.st (fun _ kk => XS.iconst X0.here hx rfl (hb hby d1_9) kk) ?_
    show Gl p e below s _ _ _ s₁ (mkF m 10 #[.val (.int (9 : Int32))] [(.int (1 : Int32)), (.int (9 : Int32))])
    refine Gl.st (fun _ kk => XS.icmpYes X0.here hx rfl (pc0 := 10) (pc' := 17) rfl (hb hby d1_10) rfl (feq (by decide : ¬ ((9 : Int32) = (1 : Int32)))).2 (by decide) (by decide) kk) ?_
    show Gl p e below s _ _ _ s₁ (mkF m 17 #[.val (.int (9 : Int32))] [])
    refine Gl.st (fun _ kk => XS.iloadN X0.here hx rfl (hb hby d1_17) rfl kk) ?_
    show Gl p e below s _ _ _ s₁ (mkF m 18 #[.val (.int (9 : Int32))] [(.int (9 : Int32))])
    refine Gl.st (fun _ kk => XS.iconst X0.here hx rfl (hb hby d1_18) kk) ?_
    show Gl p e below s _ _ _ s₁ (mkF m 19 #[.val (.int (9 : Int32))] [(.int (2 : Int32)), (.int (9 : Int32))])
    refine Gl.st (fun _ kk => XS.icmpYes X0.here hx rfl (pc0 := 19) (pc' := 26) rfl (hb hby d1_19) rfl (feq (by decide : ¬ ((9 : Int32) = (2 : Int32)))).2 (by decide) (by decide) kk) ?_
    show Gl p e below s _ _ _ s₁ (mkF m 26 #[.val (.int (9 : Int32))] [])
    refine Gl.st (fun _ kk => XS.iloadN X0.here hx rfl (hb hby d1_26) rfl kk) ?_
    show Gl p e below s _ _ _ s₁ (mkF m 27 #[.val (.int (9 : Int32))] [(.int (9 : Int32))])
    refine Gl.st (fun _ kk => XS.iconst X0.here hx rfl (hb hby d1_27) kk) ?_
    show Gl p e below s _ _ _ s₁ (mkF m 28 #[.val (.int (9 : Int32))] [(.int (3 : Int32)), (.int (9 : Int32))])
    refine Gl.st (fun _ kk => XS.icmpYes X0.here hx rfl (pc0 := 28) (pc' := 35) rfl (hb hby d1_28) rfl (feq (by decide : ¬ ((9 : Int32) = (3 : Int32)))).2 (by decide) (by decide) kk) ?_
    show Gl p e below s _ _ _ s₁ (mkF m 35 #[.val (.int (9 : Int32))] [])
    refine Gl.st (fun _ kk => XS.iloadN X0.here hx rfl (hb hby d1_35) rfl kk) ?_
    show Gl p e below s _ _ _ s₁ (mkF m 36 #[.val (.int (9 : Int32))] [(.int (9 : Int32))])
    refine Gl.st (fun _ kk => XS.iconst X0.here hx rfl (hb hby d1_36) kk) ?_
    show Gl p e below s _ _ _ s₁ (mkF m 37 #[.val (.int (9 : Int32))] [(.int (4 : Int32)), (.int (9 : Int32))])
    refine Gl.st (fun _ kk => XS.icmpYes X0.here hx rfl (pc0 := 37) (pc' := 44) rfl (hb hby d1_37) rfl (feq (by decide : ¬ ((9 : Int32) = (4 : Int32)))).2 (by decide) (by decide) kk) ?_
    show Gl p e below s _ _ _ s₁ (mkF m 44 #[.val (.int (9 : Int32))] [])
    refine Gl.st (fun _ kk => XS.iloadN X0.here hx rfl (hb hby d1_44) rfl kk) ?_
    show Gl p e below s _ _ _ s₁ (mkF m 45 #[.val (.int (9 : Int32))] [(.int (9 : Int32))])
    refine Gl.st (fun _ kk => XS.iconst X0.here hx rfl (hb hby d1_45) kk) ?_
    show Gl p e below s _ _ _ s₁ (mkF m 46 #[.val (.int (9 : Int32))] [(.int (5 : Int32)), (.int (9 : Int32))])
    refine Gl.st (fun _ kk => XS.icmpYes X0.here hx rfl (pc0 := 46) (pc' := 53) rfl (hb hby d1_46) rfl (feq (by decide : ¬ ((9 : Int32) = (5 : Int32)))).2 (by decide) (by decide) kk) ?_
    show Gl p e below s _ _ _ s₁ (mkF m 53 #[.val (.int (9 : Int32))] [])
    refine Gl.st (fun _ kk => XS.iloadN X0.here hx rfl (hb hby d1_53) rfl kk) ?_
    show Gl p e below s _ _ _ s₁ (mkF m 54 #[.val (.int (9 : Int32))] [(.int (9 : Int32))])
    refine Gl.st (fun _ kk => XS.bipush X0.here hx rfl (hb hby d1_54) kk) ?_
    show Gl p e below s _ _ _ s₁ (mkF m 56 #[.val (.int (9 : Int32))] [(.int (6 : Int32)), (.int (9 : Int32))])
    refine Gl.st (fun _ kk => XS.icmpYes X0.here hx rfl (pc0 := 56) (pc' := 63) rfl (hb hby d1_56) rfl (feq (by decide : ¬ ((9 : Int32) = (6 : Int32)))).2 (by decide) (by decide) kk) ?_
    show Gl p e below s _ _ _ s₁ (mkF m 63 #[.val (.int (9 : Int32))] [])
    refine Gl.st (fun _ kk => XS.iloadN X0.here hx rfl (hb hby d1_63) rfl kk) ?_
    show Gl p e below s _ _ _ s₁ (mkF m 64 #[.val (.int (9 : Int32))] [(.int (9 : Int32))])
    refine Gl.st (fun _ kk => XS.bipush X0.here hx rfl (hb hby d1_64) kk) ?_
    show Gl p e below s _ _ _ s₁ (mkF m 66 #[.val (.int (9 : Int32))] [(.int (7 : Int32)), (.int (9 : Int32))])
    refine Gl.st (fun _ kk => XS.icmpYes X0.here hx rfl (pc0 := 66) (pc' := 73) rfl (hb hby d1_66) rfl (feq (by decide : ¬ ((9 : Int32) = (7 : Int32)))).2 (by decide) (by decide) kk) ?_
    show Gl p e below s _ _ _ s₁ (mkF m 73 #[.val (.int (9 : Int32))] [])
    refine Gl.st (fun _ kk => XS.iloadN X0.here hx rfl (hb hby d1_73) rfl kk) ?_
    show Gl p e below s _ _ _ s₁ (mkF m 74 #[.val (.int (9 : Int32))] [(.int (9 : Int32))])
    refine Gl.st (fun _ kk => XS.bipush X0.here hx rfl (hb hby d1_74) kk) ?_
    show Gl p e below s _ _ _ s₁ (mkF m 76 #[.val (.int (9 : Int32))] [(.int (8 : Int32)), (.int (9 : Int32))])
    refine Gl.st (fun _ kk => XS.icmpYes X0.here hx rfl (pc0 := 76) (pc' := 83) rfl (hb hby d1_76) rfl (feq (by decide : ¬ ((9 : Int32) = (8 : Int32)))).2 (by decide) (by decide) kk) ?_
    show Gl p e below s _ _ _ s₁ (mkF m 83 #[.val (.int (9 : Int32))] [])
    obtain ⟨T10, X10, e10, st10⟩ := getS2 X0 hx hZ hown (host := "") (Or.inl (hw _ (List.mem_of_getElem? (i := 38) rfl))) Via.refl e0 (S_SHARDING_BROADCAST.ext O0.2) (g := (mkF m 83 #[.val (.int (9 : Int32))] [])) rfl (hb hby d1_83)
    refine Gl.st st10 ?_
    show Gl p e below s _ _ _ T10 (mkF m 86 #[.val (.int (9 : Int32))] [(.ref w_SHARDING_BROADCAST)])
    exact Gl.ret X10 (v := (some (.ref w_SHARDING_BROADCAST))) (fun h => by rw [Bd.returns] at h; cases h) (BodyLoose.notSynchronized Bd) (fun hr => retOut X10 hx Bd.returns rfl (Or.inr (Or.inr (Or.inr (Or.inr ⟨rfl, rfl, rfl⟩)))) (hb hby d1_86) hr) e10 ⟨by rw [hr], N0, rfl⟩ (by decide) (by decide)
theorem pd_rm0_0 : parseMethodDescriptor "(I)Lcom/example/vuoro/vuoro/centre/Route;" = some ⟨[.int], some (.object "com/example/vuoro/vuoro/centre/Route")⟩ := by decide +kernel
theorem pd_rm0_1 : parseMethodDescriptor "()Z" = some ⟨[], some .boolean⟩ := by decide +kernel
theorem pn_rm0 : plainName "com/example/vuoro/vuoro/centre/RouteCountsUsesPinLaw" = true := by first | (simp [plainName, overriddenIn]; done) | decide +kernel
theorem ef_rm0 (m : MethodId) (p1 : Int32) : entryFrame m #[(.int p1)] maxLocals = mkF m 0 #[.val (.int p1), .unset, .unset, .unset] [] := by first | (simp [entryFrame, mkF, argsToLocals, Value.category, maxLocals]; done) | rfl
def Q_rm0 (Z : State) (p1 : Int32) (w_FIRST w_LAST w_ROUND w_RANDOM w_CONSISTENT_HASH w_LEAST_FREQUENTLY_USED w_LEAST_RECENTLY_USED w_FAILOVER w_BUSYOVER w_SHARDING_BROADCAST : Addr) (h0 : Heap) (n0 : Nat) (v : Option Value) (h : Heap) (L : List Loc) : Prop := v = some (.int 1) ∧ Fr n0 L
set_option maxRecDepth 65536 in
set_option maxHeartbeats 40000000 in
theorem rm0 (l : Launch) (Z : State) (a0 : Array Value) (hw : ∀ d ∈ tables_1, d.before a0 Z = true) (ws : List Jvm.Cond) (p1 : Int32) (w_FIRST w_LAST w_ROUND w_RANDOM w_CONSISTENT_HASH w_LEAST_FREQUENTLY_USED w_LEAST_RECENTLY_USED w_FAILOVER w_BUSYOVER w_SHARDING_BROADCAST : Addr) (h0 : Heap) (n0 : Nat) (O0 : Old Z n0 h0) (S_FIRST : Sta Z Z.heap "com/example/vuoro/vuoro/centre/Route" "FIRST" "Lcom/example/vuoro/vuoro/centre/Route;" (.ref w_FIRST)) (S_LAST : Sta Z Z.heap "com/example/vuoro/vuoro/centre/Route" "LAST" "Lcom/example/vuoro/vuoro/centre/Route;" (.ref w_LAST)) (S_ROUND : Sta Z Z.heap "com/example/vuoro/vuoro/centre/Route" "ROUND" "Lcom/example/vuoro/vuoro/centre/Route;" (.ref w_ROUND)) (S_RANDOM : Sta Z Z.heap "com/example/vuoro/vuoro/centre/Route" "RANDOM" "Lcom/example/vuoro/vuoro/centre/Route;" (.ref w_RANDOM)) (S_CONSISTENT_HASH : Sta Z Z.heap "com/example/vuoro/vuoro/centre/Route" "CONSISTENT_HASH" "Lcom/example/vuoro/vuoro/centre/Route;" (.ref w_CONSISTENT_HASH)) (S_LEAST_FREQUENTLY_USED : Sta Z Z.heap "com/example/vuoro/vuoro/centre/Route" "LEAST_FREQUENTLY_USED" "Lcom/example/vuoro/vuoro/centre/Route;" (.ref w_LEAST_FREQUENTLY_USED)) (S_LEAST_RECENTLY_USED : Sta Z Z.heap "com/example/vuoro/vuoro/centre/Route" "LEAST_RECENTLY_USED" "Lcom/example/vuoro/vuoro/centre/Route;" (.ref w_LEAST_RECENTLY_USED)) (S_FAILOVER : Sta Z Z.heap "com/example/vuoro/vuoro/centre/Route" "FAILOVER" "Lcom/example/vuoro/vuoro/centre/Route;" (.ref w_FAILOVER)) (S_BUSYOVER : Sta Z Z.heap "com/example/vuoro/vuoro/centre/Route" "BUSYOVER" "Lcom/example/vuoro/vuoro/centre/Route;" (.ref w_BUSYOVER)) (S_SHARDING_BROADCAST : Sta Z Z.heap "com/example/vuoro/vuoro/centre/Route" "SHARDING_BROADCAST" "Lcom/example/vuoro/vuoro/centre/Route;" (.ref w_SHARDING_BROADCAST)) (E_FIRST : Exa Z Z.heap w_FIRST "com/example/vuoro/vuoro/centre/Route") (E_LAST : Exa Z Z.heap w_LAST "com/example/vuoro/vuoro/centre/Route") (E_ROUND : Exa Z Z.heap w_ROUND "com/example/vuoro/vuoro/centre/Route") (E_RANDOM : Exa Z Z.heap w_RANDOM "com/example/vuoro/vuoro/centre/Route") (E_CONSISTENT_HASH : Exa Z Z.heap w_CONSISTENT_HASH "com/example/vuoro/vuoro/centre/Route") (E_LEAST_FREQUENTLY_USED : Exa Z Z.heap w_LEAST_FREQUENTLY_USED "com/example/vuoro/vuoro/centre/Route") (E_LEAST_RECENTLY_USED : Exa Z Z.heap w_LEAST_RECENTLY_USED "com/example/vuoro/vuoro/centre/Route") (E_FAILOVER : Exa Z Z.heap w_FAILOVER "com/example/vuoro/vuoro/centre/Route") (E_BUSYOVER : Exa Z Z.heap w_BUSYOVER "com/example/vuoro/vuoro/centre/Route") (E_SHARDING_BROADCAST : Exa Z Z.heap w_SHARDING_BROADCAST "com/example/vuoro/vuoro/centre/Route") (F_FIRST : Fld Z Z.heap w_FIRST "java/lang/Enum" "ordinal" "I" (.int 0)) (F_LAST : Fld Z Z.heap w_LAST "java/lang/Enum" "ordinal" "I" (.int 1)) (F_ROUND : Fld Z Z.heap w_ROUND "java/lang/Enum" "ordinal" "I" (.int 2)) (F_RANDOM : Fld Z Z.heap w_RANDOM "java/lang/Enum" "ordinal" "I" (.int 3)) (F_CONSISTENT_HASH : Fld Z Z.heap w_CONSISTENT_HASH "java/lang/Enum" "ordinal" "I" (.int 4)) (F_LEAST_FREQUENTLY_USED : Fld Z Z.heap w_LEAST_FREQUENTLY_USED "java/lang/Enum" "ordinal" "I" (.int 5)) (F_LEAST_RECENTLY_USED : Fld Z Z.heap w_LEAST_RECENTLY_USED "java/lang/Enum" "ordinal" "I" (.int 6)) (F_FAILOVER : Fld Z Z.heap w_FAILOVER "java/lang/Enum" "ordinal" "I" (.int 7)) (F_BUSYOVER : Fld Z Z.heap w_BUSYOVER "java/lang/Enum" "ordinal" "I" (.int 8)) (F_SHARDING_BROADCAST : Fld Z Z.heap w_SHARDING_BROADCAST "java/lang/Enum" "ordinal" "I" (.int 9)) :
    MetFree l x (head1 (Jvm.Cond.code x code maxLocals ret :: ws) room_1) (fun a U => a = #[(.int p1)] ∧ Z.Warmed39 U.vm ∧ U.heap = h0) (fun _ _ _ _ _ => True) (fun _ U o U' => ∃ v L, o = .returned v ∧ Q_rm0 Z p1 w_FIRST w_LAST w_ROUND w_RANDOM w_CONSISTENT_HASH w_LEAST_FREQUENTLY_USED w_LEAST_RECENTLY_USED w_FAILOVER w_BUSYOVER w_SHARDING_BROADCAST h0 n0 v U'.heap L ∧ FrameEnd U o U' L room_1.cells room_1.slots) := by
  refine MetFree.of_bodySF (plainFor_of_name pn_rm0) hisR ?_
  intro p e s m args below meth c s₁ Bd hml0 hP hK
  obtain ⟨rfl, hZ, hh⟩ := hP
  have hx := Bd.exec
  have hby := Bd.bytes
  have hml : c.maxLocals = 4 := hml0
  have hown : s.vm.findClass "com/example/vuoro/vuoro/centre/RouteCountsUsesPinLaw" = some m.cls := findClass_of_methodNamed Bd.named
  have hnm := (name_of_methodNamed Bd.named Bd.method).1
  have X0 : Stand p l e room_1 s m #[(.int p1)] below meth c s₁ [] 0 0 := Stand.of_body Bd
  have e0 : s₁.heap = h0 := by rw [← hh, Bd.state]; rfl
  have N0 := Fr.nil n0
  refine Gl.start (Q := Q_rm0 Z p1 w_FIRST w_LAST w_ROUND w_RANDOM w_CONSISTENT_HASH w_LEAST_FREQUENTLY_USED w_LEAST_RECENTLY_USED w_FAILOVER w_BUSYOVER w_SHARDING_BROADCAST h0 n0) (ef_rm0 m p1) ?_
  show Gl p e below s _ _ _ s₁ (mkF m 0 #[.val (.int p1), .unset, .unset, .unset] [])
  refine Gl.st (fun _ kk => XS.iloadN X0.here hx rfl (hb hby at_0) rfl kk) ?_
  show Gl p e below s _ _ _ s₁ (mkF m 1 #[.val (.int p1), .unset, .unset, .unset] [(.int p1)])
  refine Gl.st (fun _ kk => X0.ldcInt hx hown (mvT hZ (hw _ (List.mem_of_getElem? (i := 0) rfl))) (g := (mkF m 1 #[.val (.int p1), .unset, .unset, .unset] [(.int p1)])) rfl (hb hby at_1) _ kk) ?_
  show Gl p e below s _ _ _ s₁ (mkF m 3 #[.val (.int p1), .unset, .unset, .unset] [(.int (2147483647 : Int32)), (.int p1)])
  refine Gl.st (fun _ kk => XS.iand X0.here hx rfl (hb hby at_3) rfl kk) ?_
  show Gl p e below s _ _ _ s₁ (mkF m 4 #[.val (.int p1), .unset, .unset, .unset] [(.int (p1 &&& (2147483647 : Int32)))])
  refine Gl.st (fun _ kk => XS.bipush X0.here hx rfl (hb hby at_4) kk) ?_
  show Gl p e below s _ _ _ s₁ (mkF m 6 #[.val (.int p1), .unset, .unset, .unset] [(.int (10 : Int32)), (.int (p1 &&& (2147483647 : Int32)))])
  refine Gl.st (fun _ kk => iremM (g := (mkF m 6 #[.val (.int p1), .unset, .unset, .unset] [(.int (10 : Int32)), (.int (p1 &&& (2147483647 : Int32)))])) X0 hx rfl (hb hby at_6) rfl (by decide) kk) ?_
  show Gl p e below s _ _ _ s₁ (mkF m 7 #[.val (.int p1), .unset, .unset, .unset] [(.int ((p1 &&& (2147483647 : Int32)) % (10 : Int32)))])
  refine Gl.st (fun _ kk => XS.istoreN X0.here hx rfl (hb hby at_7) rfl (l' := #[.val (.int p1), .val (.int ((p1 &&& (2147483647 : Int32)) % (10 : Int32))), .unset, .unset]) rfl kk) ?_
  show Gl p e below s _ _ _ s₁ (mkF m 8 #[.val (.int p1), .val (.int ((p1 &&& (2147483647 : Int32)) % (10 : Int32))), .unset, .unset] [])
  rcases own_mod10 p1 with hk | hk | hk | hk | hk | hk | hk | hk | hk | hk
  · rw [hk]
    show Gl p e below s _ _ _ s₁ (mkF m 8 #[.val (.int p1), .val (.int (0 : Int32)), .unset, .unset] [])
    refine Gl.st (fun _ kk => XS.iloadN X0.here hx rfl (hb hby at_8) rfl kk) ?_
    show Gl p e below s _ _ _ s₁ (mkF m 9 #[.val (.int p1), .val (.int (0 : Int32)), .unset, .unset] [(.int (0 : Int32))])
    obtain ⟨_, _, ⟨T1, L1, k1, n1⟩, -, X1, ⟨Lc1, hQ1, l1, y1, z1⟩, st1⟩ := Jvm.LawKit.callS X0 hx (y := (⟨"com/example/vuoro/vuoro/centre/RouteCountsUsesPinLaw", "pick", "(I)Lcom/example/vuoro/vuoro/centre/Route;"⟩ : MethodName)) hown (mvT hZ (hw _ (List.mem_of_getElem? (i := 1) rfl))) (mvT hZ (hw _ (List.mem_of_getElem? (i := 2) rfl))) (mvT hZ (hw _ (List.mem_of_getElem? (i := 3) rfl))) (mvT hZ (hw _ (List.mem_of_getElem? (i := 4) rfl))) (by decide) (backOf (W := 0) (rm1 l Z a0 hw [] 0 w_FIRST w_LAST w_ROUND w_RANDOM w_CONSISTENT_HASH w_LEAST_FREQUENTLY_USED w_LEAST_RECENTLY_USED w_FAILOVER w_BUSYOVER w_SHARDING_BROADCAST w_FIRST h0 n0 O0 S_FIRST S_LAST S_ROUND S_RANDOM S_CONSISTENT_HASH S_LEAST_FREQUENTLY_USED S_LEAST_RECENTLY_USED S_FAILOVER S_BUSYOVER S_SHARDING_BROADCAST (Or.inl ⟨rfl, rfl⟩)) hZ (hw _ (List.mem_of_getElem? (i := 4) rfl)) (hw _ (List.mem_of_getElem? (i := 3) rfl)) (by decide) (by decide)) (g := (mkF m 9 #[.val (.int p1), .val (.int (0 : Int32)), .unset, .unset] [(.int (0 : Int32))])) rfl (by rw [hml]; rfl) (argsL := [(.int (0 : Int32))]) (rest := []) (lenOf pd_rm0_0 rfl) rfl (by show 2 * 0 + _ ≤ _; exact Nat.le_of_eq rfl) (hb hby at_9) (fun _ _ => ⟨rfl, e0, (by decide : 0 + 0 ≤ _), (by decide : 0 + 0 ≤ _)⟩)
    dsimp only [Pt.U, Pt.locs, Pt.cells, Pt.slots] at X1 l1 y1 z1 st1 hQ1
    subst l1 y1 z1
    obtain ⟨rfl, Nq1, e1⟩ := hQ1
    have N1 := Fr.app N0 Nq1
    refine Gl.st st1 ?_
    show Gl p e below s _ _ _ T1 (mkF m 12 #[.val (.int p1), .val (.int (0 : Int32)), .unset, .unset] [(.ref w_FIRST)])
    refine Gl.st (fun _ kk => XS.astoreN X1.here hx rfl (hb hby at_12) rfl rfl (l' := #[.val (.int p1), .val (.int (0 : Int32)), .val (.ref w_FIRST), .unset]) rfl kk) ?_
    show Gl p e below s _ _ _ T1 (mkF m 13 #[.val (.int p1), .val (.int (0 : Int32)), .val (.ref w_FIRST), .unset] [])
    refine Gl.st (fun _ kk => XS.aloadN X1.here hx rfl (hb hby at_13) rfl rfl kk) ?_
    show Gl p e below s _ _ _ T1 (mkF m 14 #[.val (.int p1), .val (.int (0 : Int32)), .val (.ref w_FIRST), .unset] [(.ref w_FIRST)])
    obtain ⟨T2, X2, e2, st2⟩ := getS2 X1 hx hZ hown (host := "") (Or.inl (hw _ (List.mem_of_getElem? (i := 8) rfl))) Via.refl e1 (S_ROUND.ext O0.2) (g := (mkF m 14 #[.val (.int p1), .val (.int (0 : Int32)), .val (.ref w_FIRST), .unset] [(.ref w_FIRST)])) rfl (hb hby at_14)
    refine Gl.st st2 ?_
    show Gl p e below s _ _ _ T2 (mkF m 17 #[.val (.int p1), .val (.int (0 : Int32)), .val (.ref w_FIRST), .unset] [(.ref w_ROUND), (.ref w_FIRST)])
    refine Gl.st (fun _ kk => Jvm.RoadKit.acmp (g := (mkF m 17 #[.val (.int p1), .val (.int (0 : Int32)), .val (.ref w_FIRST), .unset] [(.ref w_ROUND), (.ref w_FIRST)])) X2 hx rfl rfl rfl (pc0 := 17) (pc' := 20) (same := false) rfl (hb hby at_17) rfl (decide_eq_false fun q => (Ne.symm (F_ROUND.ne F_FIRST (by decide))) (Value.ref.inj q)) (by decide) (by decide) kk) ?_
    show Gl p e below s _ _ _ T2 (mkF m 20 #[.val (.int p1), .val (.int (0 : Int32)), .val (.ref w_FIRST), .unset] [])
    refine Gl.st (fun _ kk => XS.aloadN X2.here hx rfl (hb hby at_20) rfl rfl kk) ?_
    show Gl p e below s _ _ _ T2 (mkF m 21 #[.val (.int p1), .val (.int (0 : Int32)), .val (.ref w_FIRST), .unset] [(.ref w_FIRST)])
    obtain ⟨T3, X3, e3, st3⟩ := getS2 X2 hx hZ hown (host := "") (Or.inl (hw _ (List.mem_of_getElem? (i := 10) rfl))) Via.refl e2 (S_LEAST_FREQUENTLY_USED.ext O0.2) (g := (mkF m 21 #[.val (.int p1), .val (.int (0 : Int32)), .val (.ref w_FIRST), .unset] [(.ref w_FIRST)])) rfl (hb hby at_21)
    refine Gl.st st3 ?_
    show Gl p e below s _ _ _ T3 (mkF m 24 #[.val (.int p1), .val (.int (0 : Int32)), .val (.ref w_FIRST), .unset] [(.ref w_LEAST_FREQUENTLY_USED), (.ref w_FIRST)])
    refine Gl.st (fun _ kk => Jvm.RoadKit.acmp (g := (mkF m 24 #[.val (.int p1), .val (.int (0 : Int32)), .val (.ref w_FIRST), .unset] [(.ref w_LEAST_FREQUENTLY_USED), (.ref w_FIRST)])) X3 hx rfl rfl rfl (pc0 := 24) (pc' := 27) (same := false) rfl (hb hby at_24) rfl (decide_eq_false fun q => (Ne.symm (F_LEAST_FREQUENTLY_USED.ne F_FIRST (by decide))) (Value.ref.inj q)) (by decide) (by decide) kk) ?_
    show Gl p e below s _ _ _ T3 (mkF m 27 #[.val (.int p1), .val (.int (0 : Int32)), .val (.ref w_FIRST), .unset] [])
    refine Gl.st (fun _ kk => XS.aloadN X3.here hx rfl (hb hby at_27) rfl rfl kk) ?_
    show Gl p e below s _ _ _ T3 (mkF m 28 #[.val (.int p1), .val (.int (0 : Int32)), .val (.ref w_FIRST), .unset] [(.ref w_FIRST)])
    obtain ⟨T4, X4, e4, st4⟩ := getS2 X3 hx hZ hown (host := "") (Or.inl (hw _ (List.mem_of_getElem? (i := 12) rfl))) Via.refl e3 (S_LEAST_RECENTLY_USED.ext O0.2) (g := (mkF m 28 #[.val (.int p1), .val (.int (0 : Int32)), .val (.ref w_FIRST), .unset] [(.ref w_FIRST)])) rfl (hb hby at_28)
    refine Gl.st st4 ?_
    show Gl p e below s _ _ _ T4 (mkF m 31 #[.val (.int p1), .val (.int (0 : Int32)), .val (.ref w_FIRST), .unset] [(.ref w_LEAST_RECENTLY_USED), (.ref w_FIRST)])
    refine Gl.st (fun _ kk => Jvm.RoadKit.acmp (g := (mkF m 31 #[.val (.int p1), .val (.int (0 : Int32)), .val (.ref w_FIRST), .unset] [(.ref w_LEAST_RECENTLY_USED), (.ref w_FIRST)])) X4 hx rfl rfl rfl (pc0 := 31) (pc' := 38) (same := false) rfl (hb hby at_31) rfl (decide_eq_false fun q => (Ne.symm (F_LEAST_RECENTLY_USED.ne F_FIRST (by decide))) (Value.ref.inj q)) (by decide) (by decide) kk) ?_
    show Gl p e below s _ _ _ T4 (mkF m 38 #[.val (.int p1), .val (.int (0 : Int32)), .val (.ref w_FIRST), .unset] [])
    refine Gl.st (fun _ kk => XS.iconst X4.here hx rfl (hb hby at_38) kk) ?_
    show Gl p e below s _ _ _ T4 (mkF m 39 #[.val (.int p1), .val (.int (0 : Int32)), .val (.ref w_FIRST), .unset] [(.int (0 : Int32))])
    refine Gl.st (fun _ kk => XS.istoreN X4.here hx rfl (hb hby at_39) rfl (l' := #[.val (.int p1), .val (.int (0 : Int32)), .val (.ref w_FIRST), .val (.int (0 : Int32))]) rfl kk) ?_
    show Gl p e below s _ _ _ T4 (mkF m 40 #[.val (.int p1), .val (.int (0 : Int32)), .val (.ref w_FIRST), .val (.int (0 : Int32))] [])
    refine Gl.st (fun _ kk => XS.aloadN X4.here hx rfl (hb hby at_40) rfl rfl kk) ?_
    show Gl p e below s _ _ _ T4 (mkF m 41 #[.val (.int p1), .val (.int (0 : Int32)), .val (.ref w_FIRST), .val (.int (0 : Int32))] [(.ref w_FIRST)])
    obtain ⟨cq5, kq5, qa5, qb5, qc5⟩ := isOf hZ e4 (E_FIRST.ext O0.2)
    obtain ⟨_, _, ⟨T5, L5, k5, n5⟩, -, X5, ⟨Lc5, hQ5, l5, y5, z5⟩, st5⟩ := X4.virtualBack hx (y := (⟨"com/example/vuoro/vuoro/centre/Route", "countsUses", "()Z"⟩ : MethodName)) (z := (⟨"com/example/vuoro/vuoro/centre/Route", "countsUses", "()Z"⟩ : MethodName)) hown (mvT hZ (hw _ (List.mem_of_getElem? (i := 14) rfl))) (mvT hZ (hw _ (List.mem_of_getElem? (i := 15) rfl))) (notFace_of_selects (args := #[]) (mvT hZ (hw _ (List.mem_of_getElem? (i := 17) rfl)))) (mvT hZ (hw _ (List.mem_of_getElem? (i := 17) rfl))) (mvT hZ (hw _ (List.mem_of_getElem? (i := 16) rfl))) (by decide) (backOf (W := 0) (rm2 l Z a0 hw [] w_FIRST 0 0 h0 n0 O0 E_FIRST F_FIRST (Or.inl ⟨rfl, rfl⟩)) hZ (hw _ (List.mem_of_getElem? (i := 18) rfl)) (hw _ (List.mem_of_getElem? (i := 6) rfl)) (by decide) (by decide)) qa5 qc5 (g := (mkF m 41 #[.val (.int p1), .val (.int (0 : Int32)), .val (.ref w_FIRST), .val (.int (0 : Int32))] [(.ref w_FIRST)])) rfl (by rw [hml]; rfl) (Steps.refl _) (argsL := []) (rest := []) (lenOf pd_rm0_1 rfl) rfl (by show 2 * 0 + _ ≤ _; exact Nat.le_of_eq rfl) (hb hby at_41) (fun _ _ => ⟨rfl, e4, (by decide : 0 + 0 ≤ _), (by decide : 0 + 0 ≤ _)⟩)
    dsimp only [Pt.U, Pt.locs, Pt.cells, Pt.slots] at X5 l5 y5 z5 st5 hQ5
    subst l5 y5 z5
    obtain ⟨rfl, Nq5, e5⟩ := hQ5
    have N5 := Fr.app N1 Nq5
    refine Gl.st (fun _ kk => st5.trans kk) ?_
    show Gl p e below s _ _ _ T5 (mkF m 44 #[.val (.int p1), .val (.int (0 : Int32)), .val (.ref w_FIRST), .val (.int (0 : Int32))] [(.int (0 : Int32))])
    refine Gl.st (fun _ kk => XS.iloadN X5.here hx rfl (hb hby at_44) rfl kk) ?_
    show Gl p e below s _ _ _ T5 (mkF m 45 #[.val (.int p1), .val (.int (0 : Int32)), .val (.ref w_FIRST), .val (.int (0 : Int32))] [(.int (0 : Int32)), (.int (0 : Int32))])
    refine Gl.st (fun _ kk => XS.icmpNo X5.here hx rfl (hb hby at_45) rfl (teq (by decide : (0 : Int32) = (0 : Int32))).2 kk) ?_
    show Gl p e below s _ _ _ T5 (mkF m 48 #[.val (.int p1), .val (.int (0 : Int32)), .val (.ref w_FIRST), .val (.int (0 : Int32))] [])
    refine Gl.st (fun _ kk => XS.iconst X5.here hx rfl (hb hby at_48) kk) ?_
    show Gl p e below s _ _ _ T5 (mkF m 49 #[.val (.int p1), .val (.int (0 : Int32)), .val (.ref w_FIRST), .val (.int (0 : Int32))] [(.int (1 : Int32))])
    refine Gl.st (fun _ kk => XS.goto X5.here hx rfl (pc0 := 49) (pc' := 53) rfl (hb hby at_49) (by decide) (by decide) kk) ?_
    show Gl p e below s _ _ _ T5 (mkF m 53 #[.val (.int p1), .val (.int (0 : Int32)), .val (.ref w_FIRST), .val (.int (0 : Int32))] [(.int (1 : Int32))])
    exact Gl.ret X5 (v := (some (.int (1 : Int32)))) (fun h => by rw [Bd.returns] at h; cases h) (BodyLoose.notSynchronized Bd) (fun hr => retN X5 hx (t := .boolean) Bd.returns (by simp) (hb hby at_53) hr) e5 ⟨rfl, N5⟩ (by decide) (by decide)
  · rw [hk]
    show Gl p e below s _ _ _ s₁ (mkF m 8 #[.val (.int p1), .val (.int (1 : Int32)), .unset, .unset] [])
    refine Gl.st (fun _ kk => XS.iloadN X0.here hx rfl (hb hby at_8) rfl kk) ?_
    show Gl p e below s _ _ _ s₁ (mkF m 9 #[.val (.int p1), .val (.int (1 : Int32)), .unset, .unset] [(.int (1 : Int32))])
    obtain ⟨_, _, ⟨T6, L6, k6, n6⟩, -, X6, ⟨Lc6, hQ6, l6, y6, z6⟩, st6⟩ := Jvm.LawKit.callS X0 hx (y := (⟨"com/example/vuoro/vuoro/centre/RouteCountsUsesPinLaw", "pick", "(I)Lcom/example/vuoro/vuoro/centre/Route;"⟩ : MethodName)) hown (mvT hZ (hw _ (List.mem_of_getElem? (i := 1) rfl))) (mvT hZ (hw _ (List.mem_of_getElem? (i := 2) rfl))) (mvT hZ (hw _ (List.mem_of_getElem? (i := 3) rfl))) (mvT hZ (hw _ (List.mem_of_getElem? (i := 4) rfl))) (by decide) (backOf (W := 0) (rm1 l Z a0 hw [] 1 w_FIRST w_LAST w_ROUND w_RANDOM w_CONSISTENT_HASH w_LEAST_FREQUENTLY_USED w_LEAST_RECENTLY_USED w_FAILOVER w_BUSYOVER w_SHARDING_BROADCAST w_LAST h0 n0 O0 S_FIRST S_LAST S_ROUND S_RANDOM S_CONSISTENT_HASH S_LEAST_FREQUENTLY_USED S_LEAST_RECENTLY_USED S_FAILOVER S_BUSYOVER S_SHARDING_BROADCAST (Or.inr (Or.inl ⟨rfl, rfl⟩))) hZ (hw _ (List.mem_of_getElem? (i := 4) rfl)) (hw _ (List.mem_of_getElem? (i := 3) rfl)) (by decide) (by decide)) (g := (mkF m 9 #[.val (.int p1), .val (.int (1 : Int32)), .unset, .unset] [(.int (1 : Int32))])) rfl (by rw [hml]; rfl) (argsL := [(.int (1 : Int32))]) (rest := []) (lenOf pd_rm0_0 rfl) rfl (by show 2 * 0 + _ ≤ _; exact Nat.le_of_eq rfl) (hb hby at_9) (fun _ _ => ⟨rfl, e0, (by decide : 0 + 0 ≤ _), (by decide : 0 + 0 ≤ _)⟩)
    dsimp only [Pt.U, Pt.locs, Pt.cells, Pt.slots] at X6 l6 y6 z6 st6 hQ6
    subst l6 y6 z6
    obtain ⟨rfl, Nq6, e6⟩ := hQ6
    have N6 := Fr.app N0 Nq6
    refine Gl.st st6 ?_
    show Gl p e below s _ _ _ T6 (mkF m 12 #[.val (.int p1), .val (.int (1 : Int32)), .unset, .unset] [(.ref w_LAST)])
    refine Gl.st (fun _ kk => XS.astoreN X6.here hx rfl (hb hby at_12) rfl rfl (l' := #[.val (.int p1), .val (.int (1 : Int32)), .val (.ref w_LAST), .unset]) rfl kk) ?_
    show Gl p e below s _ _ _ T6 (mkF m 13 #[.val (.int p1), .val (.int (1 : Int32)), .val (.ref w_LAST), .unset] [])
    refine Gl.st (fun _ kk => XS.aloadN X6.here hx rfl (hb hby at_13) rfl rfl kk) ?_
    show Gl p e below s _ _ _ T6 (mkF m 14 #[.val (.int p1), .val (.int (1 : Int32)), .val (.ref w_LAST), .unset] [(.ref w_LAST)])
    obtain ⟨T7, X7, e7, st7⟩ := getS2 X6 hx hZ hown (host := "") (Or.inl (hw _ (List.mem_of_getElem? (i := 8) rfl))) Via.refl e6 (S_ROUND.ext O0.2) (g := (mkF m 14 #[.val (.int p1), .val (.int (1 : Int32)), .val (.ref w_LAST), .unset] [(.ref w_LAST)])) rfl (hb hby at_14)
    refine Gl.st st7 ?_
    show Gl p e below s _ _ _ T7 (mkF m 17 #[.val (.int p1), .val (.int (1 : Int32)), .val (.ref w_LAST), .unset] [(.ref w_ROUND), (.ref w_LAST)])
    refine Gl.st (fun _ kk => Jvm.RoadKit.acmp (g := (mkF m 17 #[.val (.int p1), .val (.int (1 : Int32)), .val (.ref w_LAST), .unset] [(.ref w_ROUND), (.ref w_LAST)])) X7 hx rfl rfl rfl (pc0 := 17) (pc' := 20) (same := false) rfl (hb hby at_17) rfl (decide_eq_false fun q => (Ne.symm (F_ROUND.ne F_LAST (by decide))) (Value.ref.inj q)) (by decide) (by decide) kk) ?_
    show Gl p e below s _ _ _ T7 (mkF m 20 #[.val (.int p1), .val (.int (1 : Int32)), .val (.ref w_LAST), .unset] [])
    refine Gl.st (fun _ kk => XS.aloadN X7.here hx rfl (hb hby at_20) rfl rfl kk) ?_
    show Gl p e below s _ _ _ T7 (mkF m 21 #[.val (.int p1), .val (.int (1 : Int32)), .val (.ref w_LAST), .unset] [(.ref w_LAST)])
    obtain ⟨T8, X8, e8, st8⟩ := getS2 X7 hx hZ hown (host := "") (Or.inl (hw _ (List.mem_of_getElem? (i := 10) rfl))) Via.refl e7 (S_LEAST_FREQUENTLY_USED.ext O0.2) (g := (mkF m 21 #[.val (.int p1), .val (.int (1 : Int32)), .val (.ref w_LAST), .unset] [(.ref w_LAST)])) rfl (hb hby at_21)
    refine Gl.st st8 ?_
    show Gl p e below s _ _ _ T8 (mkF m 24 #[.val (.int p1), .val (.int (1 : Int32)), .val (.ref w_LAST), .unset] [(.ref w_LEAST_FREQUENTLY_USED), (.ref w_LAST)])
    refine Gl.st (fun _ kk => Jvm.RoadKit.acmp (g := (mkF m 24 #[.val (.int p1), .val (.int (1 : Int32)), .val (.ref w_LAST), .unset] [(.ref w_LEAST_FREQUENTLY_USED), (.ref w_LAST)])) X8 hx rfl rfl rfl (pc0 := 24) (pc' := 27) (same := false) rfl (hb hby at_24) rfl (decide_eq_false fun q => (Ne.symm (F_LEAST_FREQUENTLY_USED.ne F_LAST (by decide))) (Value.ref.inj q)) (by decide) (by decide) kk) ?_
    show Gl p e below s _ _ _ T8 (mkF m 27 #[.val (.int p1), .val (.int (1 : Int32)), .val (.ref w_LAST), .unset] [])
    refine Gl.st (fun _ kk => XS.aloadN X8.here hx rfl (hb hby at_27) rfl rfl kk) ?_
    show Gl p e below s _ _ _ T8 (mkF m 28 #[.val (.int p1), .val (.int (1 : Int32)), .val (.ref w_LAST), .unset] [(.ref w_LAST)])
    obtain ⟨T9, X9, e9, st9⟩ := getS2 X8 hx hZ hown (host := "") (Or.inl (hw _ (List.mem_of_getElem? (i := 12) rfl))) Via.refl e8 (S_LEAST_RECENTLY_USED.ext O0.2) (g := (mkF m 28 #[.val (.int p1), .val (.int (1 : Int32)), .val (.ref w_LAST), .unset] [(.ref w_LAST)])) rfl (hb hby at_28)
    refine Gl.st st9 ?_
    show Gl p e below s _ _ _ T9 (mkF m 31 #[.val (.int p1), .val (.int (1 : Int32)), .val (.ref w_LAST), .unset] [(.ref w_LEAST_RECENTLY_USED), (.ref w_LAST)])
    refine Gl.st (fun _ kk => Jvm.RoadKit.acmp (g := (mkF m 31 #[.val (.int p1), .val (.int (1 : Int32)), .val (.ref w_LAST), .unset] [(.ref w_LEAST_RECENTLY_USED), (.ref w_LAST)])) X9 hx rfl rfl rfl (pc0 := 31) (pc' := 38) (same := false) rfl (hb hby at_31) rfl (decide_eq_false fun q => (Ne.symm (F_LEAST_RECENTLY_USED.ne F_LAST (by decide))) (Value.ref.inj q)) (by decide) (by decide) kk) ?_
    show Gl p e below s _ _ _ T9 (mkF m 38 #[.val (.int p1), .val (.int (1 : Int32)), .val (.ref w_LAST), .unset] [])
    refine Gl.st (fun _ kk => XS.iconst X9.here hx rfl (hb hby at_38) kk) ?_
    show Gl p e below s _ _ _ T9 (mkF m 39 #[.val (.int p1), .val (.int (1 : Int32)), .val (.ref w_LAST), .unset] [(.int (0 : Int32))])
    refine Gl.st (fun _ kk => XS.istoreN X9.here hx rfl (hb hby at_39) rfl (l' := #[.val (.int p1), .val (.int (1 : Int32)), .val (.ref w_LAST), .val (.int (0 : Int32))]) rfl kk) ?_
    show Gl p e below s _ _ _ T9 (mkF m 40 #[.val (.int p1), .val (.int (1 : Int32)), .val (.ref w_LAST), .val (.int (0 : Int32))] [])
    refine Gl.st (fun _ kk => XS.aloadN X9.here hx rfl (hb hby at_40) rfl rfl kk) ?_
    show Gl p e below s _ _ _ T9 (mkF m 41 #[.val (.int p1), .val (.int (1 : Int32)), .val (.ref w_LAST), .val (.int (0 : Int32))] [(.ref w_LAST)])
    obtain ⟨cq10, kq10, qa10, qb10, qc10⟩ := isOf hZ e9 (E_LAST.ext O0.2)
    obtain ⟨_, _, ⟨T10, L10, k10, n10⟩, -, X10, ⟨Lc10, hQ10, l10, y10, z10⟩, st10⟩ := X9.virtualBack hx (y := (⟨"com/example/vuoro/vuoro/centre/Route", "countsUses", "()Z"⟩ : MethodName)) (z := (⟨"com/example/vuoro/vuoro/centre/Route", "countsUses", "()Z"⟩ : MethodName)) hown (mvT hZ (hw _ (List.mem_of_getElem? (i := 14) rfl))) (mvT hZ (hw _ (List.mem_of_getElem? (i := 15) rfl))) (notFace_of_selects (args := #[]) (mvT hZ (hw _ (List.mem_of_getElem? (i := 17) rfl)))) (mvT hZ (hw _ (List.mem_of_getElem? (i := 17) rfl))) (mvT hZ (hw _ (List.mem_of_getElem? (i := 16) rfl))) (by decide) (backOf (W := 0) (rm2 l Z a0 hw [] w_LAST 1 0 h0 n0 O0 E_LAST F_LAST (Or.inr (Or.inl ⟨rfl, rfl⟩))) hZ (hw _ (List.mem_of_getElem? (i := 18) rfl)) (hw _ (List.mem_of_getElem? (i := 6) rfl)) (by decide) (by decide)) qa10 qc10 (g := (mkF m 41 #[.val (.int p1), .val (.int (1 : Int32)), .val (.ref w_LAST), .val (.int (0 : Int32))] [(.ref w_LAST)])) rfl (by rw [hml]; rfl) (Steps.refl _) (argsL := []) (rest := []) (lenOf pd_rm0_1 rfl) rfl (by show 2 * 0 + _ ≤ _; exact Nat.le_of_eq rfl) (hb hby at_41) (fun _ _ => ⟨rfl, e9, (by decide : 0 + 0 ≤ _), (by decide : 0 + 0 ≤ _)⟩)
    dsimp only [Pt.U, Pt.locs, Pt.cells, Pt.slots] at X10 l10 y10 z10 st10 hQ10
    subst l10 y10 z10
    obtain ⟨rfl, Nq10, e10⟩ := hQ10
    have N10 := Fr.app N6 Nq10
    refine Gl.st (fun _ kk => st10.trans kk) ?_
    show Gl p e below s _ _ _ T10 (mkF m 44 #[.val (.int p1), .val (.int (1 : Int32)), .val (.ref w_LAST), .val (.int (0 : Int32))] [(.int (0 : Int32))])
    refine Gl.st (fun _ kk => XS.iloadN X10.here hx rfl (hb hby at_44) rfl kk) ?_
    show Gl p e below s _ _ _ T10 (mkF m 45 #[.val (.int p1), .val (.int (1 : Int32)), .val (.ref w_LAST), .val (.int (0 : Int32))] [(.int (0 : Int32)), (.int (0 : Int32))])
    refine Gl.st (fun _ kk => XS.icmpNo X10.here hx rfl (hb hby at_45) rfl (teq (by decide : (0 : Int32) = (0 : Int32))).2 kk) ?_
    show Gl p e below s _ _ _ T10 (mkF m 48 #[.val (.int p1), .val (.int (1 : Int32)), .val (.ref w_LAST), .val (.int (0 : Int32))] [])
    refine Gl.st (fun _ kk => XS.iconst X10.here hx rfl (hb hby at_48) kk) ?_
    show Gl p e below s _ _ _ T10 (mkF m 49 #[.val (.int p1), .val (.int (1 : Int32)), .val (.ref w_LAST), .val (.int (0 : Int32))] [(.int (1 : Int32))])
    refine Gl.st (fun _ kk => XS.goto X10.here hx rfl (pc0 := 49) (pc' := 53) rfl (hb hby at_49) (by decide) (by decide) kk) ?_
    show Gl p e below s _ _ _ T10 (mkF m 53 #[.val (.int p1), .val (.int (1 : Int32)), .val (.ref w_LAST), .val (.int (0 : Int32))] [(.int (1 : Int32))])
    exact Gl.ret X10 (v := (some (.int (1 : Int32)))) (fun h => by rw [Bd.returns] at h; cases h) (BodyLoose.notSynchronized Bd) (fun hr => retN X10 hx (t := .boolean) Bd.returns (by simp) (hb hby at_53) hr) e10 ⟨rfl, N10⟩ (by decide) (by decide)
  · rw [hk]
    show Gl p e below s _ _ _ s₁ (mkF m 8 #[.val (.int p1), .val (.int (2 : Int32)), .unset, .unset] [])
    refine Gl.st (fun _ kk => XS.iloadN X0.here hx rfl (hb hby at_8) rfl kk) ?_
    show Gl p e below s _ _ _ s₁ (mkF m 9 #[.val (.int p1), .val (.int (2 : Int32)), .unset, .unset] [(.int (2 : Int32))])
    obtain ⟨_, _, ⟨T11, L11, k11, n11⟩, -, X11, ⟨Lc11, hQ11, l11, y11, z11⟩, st11⟩ := Jvm.LawKit.callS X0 hx (y := (⟨"com/example/vuoro/vuoro/centre/RouteCountsUsesPinLaw", "pick", "(I)Lcom/example/vuoro/vuoro/centre/Route;"⟩ : MethodName)) hown (mvT hZ (hw _ (List.mem_of_getElem? (i := 1) rfl))) (mvT hZ (hw _ (List.mem_of_getElem? (i := 2) rfl))) (mvT hZ (hw _ (List.mem_of_getElem? (i := 3) rfl))) (mvT hZ (hw _ (List.mem_of_getElem? (i := 4) rfl))) (by decide) (backOf (W := 0) (rm1 l Z a0 hw [] 2 w_FIRST w_LAST w_ROUND w_RANDOM w_CONSISTENT_HASH w_LEAST_FREQUENTLY_USED w_LEAST_RECENTLY_USED w_FAILOVER w_BUSYOVER w_SHARDING_BROADCAST w_ROUND h0 n0 O0 S_FIRST S_LAST S_ROUND S_RANDOM S_CONSISTENT_HASH S_LEAST_FREQUENTLY_USED S_LEAST_RECENTLY_USED S_FAILOVER S_BUSYOVER S_SHARDING_BROADCAST (Or.inr (Or.inr (Or.inl ⟨rfl, rfl⟩)))) hZ (hw _ (List.mem_of_getElem? (i := 4) rfl)) (hw _ (List.mem_of_getElem? (i := 3) rfl)) (by decide) (by decide)) (g := (mkF m 9 #[.val (.int p1), .val (.int (2 : Int32)), .unset, .unset] [(.int (2 : Int32))])) rfl (by rw [hml]; rfl) (argsL := [(.int (2 : Int32))]) (rest := []) (lenOf pd_rm0_0 rfl) rfl (by show 2 * 0 + _ ≤ _; exact Nat.le_of_eq rfl) (hb hby at_9) (fun _ _ => ⟨rfl, e0, (by decide : 0 + 0 ≤ _), (by decide : 0 + 0 ≤ _)⟩)
    dsimp only [Pt.U, Pt.locs, Pt.cells, Pt.slots] at X11 l11 y11 z11 st11 hQ11
    subst l11 y11 z11
    obtain ⟨rfl, Nq11, e11⟩ := hQ11
    have N11 := Fr.app N0 Nq11
    refine Gl.st st11 ?_
    show Gl p e below s _ _ _ T11 (mkF m 12 #[.val (.int p1), .val (.int (2 : Int32)), .unset, .unset] [(.ref w_ROUND)])
    refine Gl.st (fun _ kk => XS.astoreN X11.here hx rfl (hb hby at_12) rfl rfl (l' := #[.val (.int p1), .val (.int (2 : Int32)), .val (.ref w_ROUND), .unset]) rfl kk) ?_
    show Gl p e below s _ _ _ T11 (mkF m 13 #[.val (.int p1), .val (.int (2 : Int32)), .val (.ref w_ROUND), .unset] [])
    refine Gl.st (fun _ kk => XS.aloadN X11.here hx rfl (hb hby at_13) rfl rfl kk) ?_
    show Gl p e below s _ _ _ T11 (mkF m 14 #[.val (.int p1), .val (.int (2 : Int32)), .val (.ref w_ROUND), .unset] [(.ref w_ROUND)])
    obtain ⟨T12, X12, e12, st12⟩ := getS2 X11 hx hZ hown (host := "") (Or.inl (hw _ (List.mem_of_getElem? (i := 8) rfl))) Via.refl e11 (S_ROUND.ext O0.2) (g := (mkF m 14 #[.val (.int p1), .val (.int (2 : Int32)), .val (.ref w_ROUND), .unset] [(.ref w_ROUND)])) rfl (hb hby at_14)
    refine Gl.st st12 ?_
    show Gl p e below s _ _ _ T12 (mkF m 17 #[.val (.int p1), .val (.int (2 : Int32)), .val (.ref w_ROUND), .unset] [(.ref w_ROUND), (.ref w_ROUND)])
    refine Gl.st (fun _ kk => Jvm.RoadKit.acmp (g := (mkF m 17 #[.val (.int p1), .val (.int (2 : Int32)), .val (.ref w_ROUND), .unset] [(.ref w_ROUND), (.ref w_ROUND)])) X12 hx rfl rfl rfl (pc0 := 17) (pc' := 34) (same := true) rfl (hb hby at_17) rfl (decide_eq_true rfl) (by decide) (by decide) kk) ?_
    show Gl p e below s _ _ _ T12 (mkF m 34 #[.val (.int p1), .val (.int (2 : Int32)), .val (.ref w_ROUND), .unset] [])
    refine Gl.st (fun _ kk => XS.iconst X12.here hx rfl (hb hby at_34) kk) ?_
    show Gl p e below s _ _ _ T12 (mkF m 35 #[.val (.int p1), .val (.int (2 : Int32)), .val (.ref w_ROUND), .unset] [(.int (1 : Int32))])
    refine Gl.st (fun _ kk => XS.goto X12.here hx rfl (pc0 := 35) (pc' := 39) rfl (hb hby at_35) (by decide) (by decide) kk) ?_
    show Gl p e below s _ _ _ T12 (mkF m 39 #[.val (.int p1), .val (.int (2 : Int32)), .val (.ref w_ROUND), .unset] [(.int (1 : Int32))])
    refine Gl.st (fun _ kk => XS.istoreN X12.here hx rfl (hb hby at_39) rfl (l' := #[.val (.int p1), .val (.int (2 : Int32)), .val (.ref w_ROUND), .val (.int (1 : Int32))]) rfl kk) ?_
    show Gl p e below s _ _ _ T12 (mkF m 40 #[.val (.int p1), .val (.int (2 : Int32)), .val (.ref w_ROUND), .val (.int (1 : Int32))] [])
    refine Gl.st (fun _ kk => XS.aloadN X12.here hx rfl (hb hby at_40) rfl rfl kk) ?_
    show Gl p e below s _ _ _ T12 (mkF m 41 #[.val (.int p1), .val (.int (2 : Int32)), .val (.ref w_ROUND), .val (.int (1 : Int32))] [(.ref w_ROUND)])
    obtain ⟨cq13, kq13, qa13, qb13, qc13⟩ := isOf hZ e12 (E_ROUND.ext O0.2)
    obtain ⟨_, _, ⟨T13, L13, k13, n13⟩, -, X13, ⟨Lc13, hQ13, l13, y13, z13⟩, st13⟩ := X12.virtualBack hx (y := (⟨"com/example/vuoro/vuoro/centre/Route", "countsUses", "()Z"⟩ : MethodName)) (z := (⟨"com/example/vuoro/vuoro/centre/Route", "countsUses", "()Z"⟩ : MethodName)) hown (mvT hZ (hw _ (List.mem_of_getElem? (i := 14) rfl))) (mvT hZ (hw _ (List.mem_of_getElem? (i := 15) rfl))) (notFace_of_selects (args := #[]) (mvT hZ (hw _ (List.mem_of_getElem? (i := 17) rfl)))) (mvT hZ (hw _ (List.mem_of_getElem? (i := 17) rfl))) (mvT hZ (hw _ (List.mem_of_getElem? (i := 16) rfl))) (by decide) (backOf (W := 0) (rm2 l Z a0 hw [] w_ROUND 2 1 h0 n0 O0 E_ROUND F_ROUND (Or.inr (Or.inr (Or.inl ⟨rfl, rfl⟩)))) hZ (hw _ (List.mem_of_getElem? (i := 18) rfl)) (hw _ (List.mem_of_getElem? (i := 6) rfl)) (by decide) (by decide)) qa13 qc13 (g := (mkF m 41 #[.val (.int p1), .val (.int (2 : Int32)), .val (.ref w_ROUND), .val (.int (1 : Int32))] [(.ref w_ROUND)])) rfl (by rw [hml]; rfl) (Steps.refl _) (argsL := []) (rest := []) (lenOf pd_rm0_1 rfl) rfl (by show 2 * 0 + _ ≤ _; exact Nat.le_of_eq rfl) (hb hby at_41) (fun _ _ => ⟨rfl, e12, (by decide : 0 + 0 ≤ _), (by decide : 0 + 0 ≤ _)⟩)
    dsimp only [Pt.U, Pt.locs, Pt.cells, Pt.slots] at X13 l13 y13 z13 st13 hQ13
    subst l13 y13 z13
    obtain ⟨rfl, Nq13, e13⟩ := hQ13
    have N13 := Fr.app N11 Nq13
    refine Gl.st (fun _ kk => st13.trans kk) ?_
    show Gl p e below s _ _ _ T13 (mkF m 44 #[.val (.int p1), .val (.int (2 : Int32)), .val (.ref w_ROUND), .val (.int (1 : Int32))] [(.int (1 : Int32))])
    refine Gl.st (fun _ kk => XS.iloadN X13.here hx rfl (hb hby at_44) rfl kk) ?_
    show Gl p e below s _ _ _ T13 (mkF m 45 #[.val (.int p1), .val (.int (2 : Int32)), .val (.ref w_ROUND), .val (.int (1 : Int32))] [(.int (1 : Int32)), (.int (1 : Int32))])
    refine Gl.st (fun _ kk => XS.icmpNo X13.here hx rfl (hb hby at_45) rfl (teq (by decide : (1 : Int32) = (1 : Int32))).2 kk) ?_
    show Gl p e below s _ _ _ T13 (mkF m 48 #[.val (.int p1), .val (.int (2 : Int32)), .val (.ref w_ROUND), .val (.int (1 : Int32))] [])
    refine Gl.st (fun _ kk => XS.iconst X13.here hx rfl (hb hby at_48) kk) ?_
    show Gl p e below s _ _ _ T13 (mkF m 49 #[.val (.int p1), .val (.int (2 : Int32)), .val (.ref w_ROUND), .val (.int (1 : Int32))] [(.int (1 : Int32))])
    refine Gl.st (fun _ kk => XS.goto X13.here hx rfl (pc0 := 49) (pc' := 53) rfl (hb hby at_49) (by decide) (by decide) kk) ?_
    show Gl p e below s _ _ _ T13 (mkF m 53 #[.val (.int p1), .val (.int (2 : Int32)), .val (.ref w_ROUND), .val (.int (1 : Int32))] [(.int (1 : Int32))])
    exact Gl.ret X13 (v := (some (.int (1 : Int32)))) (fun h => by rw [Bd.returns] at h; cases h) (BodyLoose.notSynchronized Bd) (fun hr => retN X13 hx (t := .boolean) Bd.returns (by simp) (hb hby at_53) hr) e13 ⟨rfl, N13⟩ (by decide) (by decide)
  · rw [hk]
    show Gl p e below s _ _ _ s₁ (mkF m 8 #[.val (.int p1), .val (.int (3 : Int32)), .unset, .unset] [])
    refine Gl.st (fun _ kk => XS.iloadN X0.here hx rfl (hb hby at_8) rfl kk) ?_
    show Gl p e below s _ _ _ s₁ (mkF m 9 #[.val (.int p1), .val (.int (3 : Int32)), .unset, .unset] [(.int (3 : Int32))])
    obtain ⟨_, _, ⟨T14, L14, k14, n14⟩, -, X14, ⟨Lc14, hQ14, l14, y14, z14⟩, st14⟩ := Jvm.LawKit.callS X0 hx (y := (⟨"com/example/vuoro/vuoro/centre/RouteCountsUsesPinLaw", "pick", "(I)Lcom/example/vuoro/vuoro/centre/Route;"⟩ : MethodName)) hown (mvT hZ (hw _ (List.mem_of_getElem? (i := 1) rfl))) (mvT hZ (hw _ (List.mem_of_getElem? (i := 2) rfl))) (mvT hZ (hw _ (List.mem_of_getElem? (i := 3) rfl))) (mvT hZ (hw _ (List.mem_of_getElem? (i := 4) rfl))) (by decide) (backOf (W := 0) (rm1 l Z a0 hw [] 3 w_FIRST w_LAST w_ROUND w_RANDOM w_CONSISTENT_HASH w_LEAST_FREQUENTLY_USED w_LEAST_RECENTLY_USED w_FAILOVER w_BUSYOVER w_SHARDING_BROADCAST w_RANDOM h0 n0 O0 S_FIRST S_LAST S_ROUND S_RANDOM S_CONSISTENT_HASH S_LEAST_FREQUENTLY_USED S_LEAST_RECENTLY_USED S_FAILOVER S_BUSYOVER S_SHARDING_BROADCAST (Or.inr (Or.inr (Or.inr (Or.inl ⟨rfl, rfl⟩))))) hZ (hw _ (List.mem_of_getElem? (i := 4) rfl)) (hw _ (List.mem_of_getElem? (i := 3) rfl)) (by decide) (by decide)) (g := (mkF m 9 #[.val (.int p1), .val (.int (3 : Int32)), .unset, .unset] [(.int (3 : Int32))])) rfl (by rw [hml]; rfl) (argsL := [(.int (3 : Int32))]) (rest := []) (lenOf pd_rm0_0 rfl) rfl (by show 2 * 0 + _ ≤ _; exact Nat.le_of_eq rfl) (hb hby at_9) (fun _ _ => ⟨rfl, e0, (by decide : 0 + 0 ≤ _), (by decide : 0 + 0 ≤ _)⟩)
    dsimp only [Pt.U, Pt.locs, Pt.cells, Pt.slots] at X14 l14 y14 z14 st14 hQ14
    subst l14 y14 z14
    obtain ⟨rfl, Nq14, e14⟩ := hQ14
    have N14 := Fr.app N0 Nq14
    refine Gl.st st14 ?_
    show Gl p e below s _ _ _ T14 (mkF m 12 #[.val (.int p1), .val (.int (3 : Int32)), .unset, .unset] [(.ref w_RANDOM)])
    refine Gl.st (fun _ kk => XS.astoreN X14.here hx rfl (hb hby at_12) rfl rfl (l' := #[.val (.int p1), .val (.int (3 : Int32)), .val (.ref w_RANDOM), .unset]) rfl kk) ?_
    show Gl p e below s _ _ _ T14 (mkF m 13 #[.val (.int p1), .val (.int (3 : Int32)), .val (.ref w_RANDOM), .unset] [])
    refine Gl.st (fun _ kk => XS.aloadN X14.here hx rfl (hb hby at_13) rfl rfl kk) ?_
    show Gl p e below s _ _ _ T14 (mkF m 14 #[.val (.int p1), .val (.int (3 : Int32)), .val (.ref w_RANDOM), .unset] [(.ref w_RANDOM)])
    obtain ⟨T15, X15, e15, st15⟩ := getS2 X14 hx hZ hown (host := "") (Or.inl (hw _ (List.mem_of_getElem? (i := 8) rfl))) Via.refl e14 (S_ROUND.ext O0.2) (g := (mkF m 14 #[.val (.int p1), .val (.int (3 : Int32)), .val (.ref w_RANDOM), .unset] [(.ref w_RANDOM)])) rfl (hb hby at_14)
    refine Gl.st st15 ?_
    show Gl p e below s _ _ _ T15 (mkF m 17 #[.val (.int p1), .val (.int (3 : Int32)), .val (.ref w_RANDOM), .unset] [(.ref w_ROUND), (.ref w_RANDOM)])
    refine Gl.st (fun _ kk => Jvm.RoadKit.acmp (g := (mkF m 17 #[.val (.int p1), .val (.int (3 : Int32)), .val (.ref w_RANDOM), .unset] [(.ref w_ROUND), (.ref w_RANDOM)])) X15 hx rfl rfl rfl (pc0 := 17) (pc' := 20) (same := false) rfl (hb hby at_17) rfl (decide_eq_false fun q => (F_RANDOM.ne F_ROUND (by decide)) (Value.ref.inj q)) (by decide) (by decide) kk) ?_
    show Gl p e below s _ _ _ T15 (mkF m 20 #[.val (.int p1), .val (.int (3 : Int32)), .val (.ref w_RANDOM), .unset] [])
    refine Gl.st (fun _ kk => XS.aloadN X15.here hx rfl (hb hby at_20) rfl rfl kk) ?_
    show Gl p e below s _ _ _ T15 (mkF m 21 #[.val (.int p1), .val (.int (3 : Int32)), .val (.ref w_RANDOM), .unset] [(.ref w_RANDOM)])
    obtain ⟨T16, X16, e16, st16⟩ := getS2 X15 hx hZ hown (host := "") (Or.inl (hw _ (List.mem_of_getElem? (i := 10) rfl))) Via.refl e15 (S_LEAST_FREQUENTLY_USED.ext O0.2) (g := (mkF m 21 #[.val (.int p1), .val (.int (3 : Int32)), .val (.ref w_RANDOM), .unset] [(.ref w_RANDOM)])) rfl (hb hby at_21)
    refine Gl.st st16 ?_
    show Gl p e below s _ _ _ T16 (mkF m 24 #[.val (.int p1), .val (.int (3 : Int32)), .val (.ref w_RANDOM), .unset] [(.ref w_LEAST_FREQUENTLY_USED), (.ref w_RANDOM)])
    refine Gl.st (fun _ kk => Jvm.RoadKit.acmp (g := (mkF m 24 #[.val (.int p1), .val (.int (3 : Int32)), .val (.ref w_RANDOM), .unset] [(.ref w_LEAST_FREQUENTLY_USED), (.ref w_RANDOM)])) X16 hx rfl rfl rfl (pc0 := 24) (pc' := 27) (same := false) rfl (hb hby at_24) rfl (decide_eq_false fun q => (Ne.symm (F_LEAST_FREQUENTLY_USED.ne F_RANDOM (by decide))) (Value.ref.inj q)) (by decide) (by decide) kk) ?_
    show Gl p e below s _ _ _ T16 (mkF m 27 #[.val (.int p1), .val (.int (3 : Int32)), .val (.ref w_RANDOM), .unset] [])
    refine Gl.st (fun _ kk => XS.aloadN X16.here hx rfl (hb hby at_27) rfl rfl kk) ?_
    show Gl p e below s _ _ _ T16 (mkF m 28 #[.val (.int p1), .val (.int (3 : Int32)), .val (.ref w_RANDOM), .unset] [(.ref w_RANDOM)])
    obtain ⟨T17, X17, e17, st17⟩ := getS2 X16 hx hZ hown (host := "") (Or.inl (hw _ (List.mem_of_getElem? (i := 12) rfl))) Via.refl e16 (S_LEAST_RECENTLY_USED.ext O0.2) (g := (mkF m 28 #[.val (.int p1), .val (.int (3 : Int32)), .val (.ref w_RANDOM), .unset] [(.ref w_RANDOM)])) rfl (hb hby at_28)
    refine Gl.st st17 ?_
    show Gl p e below s _ _ _ T17 (mkF m 31 #[.val (.int p1), .val (.int (3 : Int32)), .val (.ref w_RANDOM), .unset] [(.ref w_LEAST_RECENTLY_USED), (.ref w_RANDOM)])
    refine Gl.st (fun _ kk => Jvm.RoadKit.acmp (g := (mkF m 31 #[.val (.int p1), .val (.int (3 : Int32)), .val (.ref w_RANDOM), .unset] [(.ref w_LEAST_RECENTLY_USED), (.ref w_RANDOM)])) X17 hx rfl rfl rfl (pc0 := 31) (pc' := 38) (same := false) rfl (hb hby at_31) rfl (decide_eq_false fun q => (Ne.symm (F_LEAST_RECENTLY_USED.ne F_RANDOM (by decide))) (Value.ref.inj q)) (by decide) (by decide) kk) ?_
    show Gl p e below s _ _ _ T17 (mkF m 38 #[.val (.int p1), .val (.int (3 : Int32)), .val (.ref w_RANDOM), .unset] [])
    refine Gl.st (fun _ kk => XS.iconst X17.here hx rfl (hb hby at_38) kk) ?_
    show Gl p e below s _ _ _ T17 (mkF m 39 #[.val (.int p1), .val (.int (3 : Int32)), .val (.ref w_RANDOM), .unset] [(.int (0 : Int32))])
    refine Gl.st (fun _ kk => XS.istoreN X17.here hx rfl (hb hby at_39) rfl (l' := #[.val (.int p1), .val (.int (3 : Int32)), .val (.ref w_RANDOM), .val (.int (0 : Int32))]) rfl kk) ?_
    show Gl p e below s _ _ _ T17 (mkF m 40 #[.val (.int p1), .val (.int (3 : Int32)), .val (.ref w_RANDOM), .val (.int (0 : Int32))] [])
    refine Gl.st (fun _ kk => XS.aloadN X17.here hx rfl (hb hby at_40) rfl rfl kk) ?_
    show Gl p e below s _ _ _ T17 (mkF m 41 #[.val (.int p1), .val (.int (3 : Int32)), .val (.ref w_RANDOM), .val (.int (0 : Int32))] [(.ref w_RANDOM)])
    obtain ⟨cq18, kq18, qa18, qb18, qc18⟩ := isOf hZ e17 (E_RANDOM.ext O0.2)
    obtain ⟨_, _, ⟨T18, L18, k18, n18⟩, -, X18, ⟨Lc18, hQ18, l18, y18, z18⟩, st18⟩ := X17.virtualBack hx (y := (⟨"com/example/vuoro/vuoro/centre/Route", "countsUses", "()Z"⟩ : MethodName)) (z := (⟨"com/example/vuoro/vuoro/centre/Route", "countsUses", "()Z"⟩ : MethodName)) hown (mvT hZ (hw _ (List.mem_of_getElem? (i := 14) rfl))) (mvT hZ (hw _ (List.mem_of_getElem? (i := 15) rfl))) (notFace_of_selects (args := #[]) (mvT hZ (hw _ (List.mem_of_getElem? (i := 17) rfl)))) (mvT hZ (hw _ (List.mem_of_getElem? (i := 17) rfl))) (mvT hZ (hw _ (List.mem_of_getElem? (i := 16) rfl))) (by decide) (backOf (W := 0) (rm2 l Z a0 hw [] w_RANDOM 3 0 h0 n0 O0 E_RANDOM F_RANDOM (Or.inr (Or.inr (Or.inr (Or.inl ⟨rfl, rfl⟩))))) hZ (hw _ (List.mem_of_getElem? (i := 18) rfl)) (hw _ (List.mem_of_getElem? (i := 6) rfl)) (by decide) (by decide)) qa18 qc18 (g := (mkF m 41 #[.val (.int p1), .val (.int (3 : Int32)), .val (.ref w_RANDOM), .val (.int (0 : Int32))] [(.ref w_RANDOM)])) rfl (by rw [hml]; rfl) (Steps.refl _) (argsL := []) (rest := []) (lenOf pd_rm0_1 rfl) rfl (by show 2 * 0 + _ ≤ _; exact Nat.le_of_eq rfl) (hb hby at_41) (fun _ _ => ⟨rfl, e17, (by decide : 0 + 0 ≤ _), (by decide : 0 + 0 ≤ _)⟩)
    dsimp only [Pt.U, Pt.locs, Pt.cells, Pt.slots] at X18 l18 y18 z18 st18 hQ18
    subst l18 y18 z18
    obtain ⟨rfl, Nq18, e18⟩ := hQ18
    have N18 := Fr.app N14 Nq18
    refine Gl.st (fun _ kk => st18.trans kk) ?_
    show Gl p e below s _ _ _ T18 (mkF m 44 #[.val (.int p1), .val (.int (3 : Int32)), .val (.ref w_RANDOM), .val (.int (0 : Int32))] [(.int (0 : Int32))])
    refine Gl.st (fun _ kk => XS.iloadN X18.here hx rfl (hb hby at_44) rfl kk) ?_
    show Gl p e below s _ _ _ T18 (mkF m 45 #[.val (.int p1), .val (.int (3 : Int32)), .val (.ref w_RANDOM), .val (.int (0 : Int32))] [(.int (0 : Int32)), (.int (0 : Int32))])
    refine Gl.st (fun _ kk => XS.icmpNo X18.here hx rfl (hb hby at_45) rfl (teq (by decide : (0 : Int32) = (0 : Int32))).2 kk) ?_
    show Gl p e below s _ _ _ T18 (mkF m 48 #[.val (.int p1), .val (.int (3 : Int32)), .val (.ref w_RANDOM), .val (.int (0 : Int32))] [])
    refine Gl.st (fun _ kk => XS.iconst X18.here hx rfl (hb hby at_48) kk) ?_
    show Gl p e below s _ _ _ T18 (mkF m 49 #[.val (.int p1), .val (.int (3 : Int32)), .val (.ref w_RANDOM), .val (.int (0 : Int32))] [(.int (1 : Int32))])
    refine Gl.st (fun _ kk => XS.goto X18.here hx rfl (pc0 := 49) (pc' := 53) rfl (hb hby at_49) (by decide) (by decide) kk) ?_
    show Gl p e below s _ _ _ T18 (mkF m 53 #[.val (.int p1), .val (.int (3 : Int32)), .val (.ref w_RANDOM), .val (.int (0 : Int32))] [(.int (1 : Int32))])
    exact Gl.ret X18 (v := (some (.int (1 : Int32)))) (fun h => by rw [Bd.returns] at h; cases h) (BodyLoose.notSynchronized Bd) (fun hr => retN X18 hx (t := .boolean) Bd.returns (by simp) (hb hby at_53) hr) e18 ⟨rfl, N18⟩ (by decide) (by decide)
  · rw [hk]
    show Gl p e below s _ _ _ s₁ (mkF m 8 #[.val (.int p1), .val (.int (4 : Int32)), .unset, .unset] [])
    refine Gl.st (fun _ kk => XS.iloadN X0.here hx rfl (hb hby at_8) rfl kk) ?_
    show Gl p e below s _ _ _ s₁ (mkF m 9 #[.val (.int p1), .val (.int (4 : Int32)), .unset, .unset] [(.int (4 : Int32))])
    obtain ⟨_, _, ⟨T19, L19, k19, n19⟩, -, X19, ⟨Lc19, hQ19, l19, y19, z19⟩, st19⟩ := Jvm.LawKit.callS X0 hx (y := (⟨"com/example/vuoro/vuoro/centre/RouteCountsUsesPinLaw", "pick", "(I)Lcom/example/vuoro/vuoro/centre/Route;"⟩ : MethodName)) hown (mvT hZ (hw _ (List.mem_of_getElem? (i := 1) rfl))) (mvT hZ (hw _ (List.mem_of_getElem? (i := 2) rfl))) (mvT hZ (hw _ (List.mem_of_getElem? (i := 3) rfl))) (mvT hZ (hw _ (List.mem_of_getElem? (i := 4) rfl))) (by decide) (backOf (W := 0) (rm1 l Z a0 hw [] 4 w_FIRST w_LAST w_ROUND w_RANDOM w_CONSISTENT_HASH w_LEAST_FREQUENTLY_USED w_LEAST_RECENTLY_USED w_FAILOVER w_BUSYOVER w_SHARDING_BROADCAST w_CONSISTENT_HASH h0 n0 O0 S_FIRST S_LAST S_ROUND S_RANDOM S_CONSISTENT_HASH S_LEAST_FREQUENTLY_USED S_LEAST_RECENTLY_USED S_FAILOVER S_BUSYOVER S_SHARDING_BROADCAST (Or.inr (Or.inr (Or.inr (Or.inr (Or.inl ⟨rfl, rfl⟩)))))) hZ (hw _ (List.mem_of_getElem? (i := 4) rfl)) (hw _ (List.mem_of_getElem? (i := 3) rfl)) (by decide) (by decide)) (g := (mkF m 9 #[.val (.int p1), .val (.int (4 : Int32)), .unset, .unset] [(.int (4 : Int32))])) rfl (by rw [hml]; rfl) (argsL := [(.int (4 : Int32))]) (rest := []) (lenOf pd_rm0_0 rfl) rfl (by show 2 * 0 + _ ≤ _; exact Nat.le_of_eq rfl) (hb hby at_9) (fun _ _ => ⟨rfl, e0, (by decide : 0 + 0 ≤ _), (by decide : 0 + 0 ≤ _)⟩)
    dsimp only [Pt.U, Pt.locs, Pt.cells, Pt.slots] at X19 l19 y19 z19 st19 hQ19
    subst l19 y19 z19
    obtain ⟨rfl, Nq19, e19⟩ := hQ19
    have N19 := Fr.app N0 Nq19
    refine Gl.st st19 ?_
    show Gl p e below s _ _ _ T19 (mkF m 12 #[.val (.int p1), .val (.int (4 : Int32)), .unset, .unset] [(.ref w_CONSISTENT_HASH)])
    refine Gl.st (fun _ kk => XS.astoreN X19.here hx rfl (hb hby at_12) rfl rfl (l' := #[.val (.int p1), .val (.int (4 : Int32)), .val (.ref w_CONSISTENT_HASH), .unset]) rfl kk) ?_
    show Gl p e below s _ _ _ T19 (mkF m 13 #[.val (.int p1), .val (.int (4 : Int32)), .val (.ref w_CONSISTENT_HASH), .unset] [])
    refine Gl.st (fun _ kk => XS.aloadN X19.here hx rfl (hb hby at_13) rfl rfl kk) ?_
    show Gl p e below s _ _ _ T19 (mkF m 14 #[.val (.int p1), .val (.int (4 : Int32)), .val (.ref w_CONSISTENT_HASH), .unset] [(.ref w_CONSISTENT_HASH)])
    obtain ⟨T20, X20, e20, st20⟩ := getS2 X19 hx hZ hown (host := "") (Or.inl (hw _ (List.mem_of_getElem? (i := 8) rfl))) Via.refl e19 (S_ROUND.ext O0.2) (g := (mkF m 14 #[.val (.int p1), .val (.int (4 : Int32)), .val (.ref w_CONSISTENT_HASH), .unset] [(.ref w_CONSISTENT_HASH)])) rfl (hb hby at_14)
    refine Gl.st st20 ?_
    show Gl p e below s _ _ _ T20 (mkF m 17 #[.val (.int p1), .val (.int (4 : Int32)), .val (.ref w_CONSISTENT_HASH), .unset] [(.ref w_ROUND), (.ref w_CONSISTENT_HASH)])
    refine Gl.st (fun _ kk => Jvm.RoadKit.acmp (g := (mkF m 17 #[.val (.int p1), .val (.int (4 : Int32)), .val (.ref w_CONSISTENT_HASH), .unset] [(.ref w_ROUND), (.ref w_CONSISTENT_HASH)])) X20 hx rfl rfl rfl (pc0 := 17) (pc' := 20) (same := false) rfl (hb hby at_17) rfl (decide_eq_false fun q => (F_CONSISTENT_HASH.ne F_ROUND (by decide)) (Value.ref.inj q)) (by decide) (by decide) kk) ?_
    show Gl p e below s _ _ _ T20 (mkF m 20 #[.val (.int p1), .val (.int (4 : Int32)), .val (.ref w_CONSISTENT_HASH), .unset] [])
    refine Gl.st (fun _ kk => XS.aloadN X20.here hx rfl (hb hby at_20) rfl rfl kk) ?_
    show Gl p e below s _ _ _ T20 (mkF m 21 #[.val (.int p1), .val (.int (4 : Int32)), .val (.ref w_CONSISTENT_HASH), .unset] [(.ref w_CONSISTENT_HASH)])
    obtain ⟨T21, X21, e21, st21⟩ := getS2 X20 hx hZ hown (host := "") (Or.inl (hw _ (List.mem_of_getElem? (i := 10) rfl))) Via.refl e20 (S_LEAST_FREQUENTLY_USED.ext O0.2) (g := (mkF m 21 #[.val (.int p1), .val (.int (4 : Int32)), .val (.ref w_CONSISTENT_HASH), .unset] [(.ref w_CONSISTENT_HASH)])) rfl (hb hby at_21)
    refine Gl.st st21 ?_
    show Gl p e below s _ _ _ T21 (mkF m 24 #[.val (.int p1), .val (.int (4 : Int32)), .val (.ref w_CONSISTENT_HASH), .unset] [(.ref w_LEAST_FREQUENTLY_USED), (.ref w_CONSISTENT_HASH)])
    refine Gl.st (fun _ kk => Jvm.RoadKit.acmp (g := (mkF m 24 #[.val (.int p1), .val (.int (4 : Int32)), .val (.ref w_CONSISTENT_HASH), .unset] [(.ref w_LEAST_FREQUENTLY_USED), (.ref w_CONSISTENT_HASH)])) X21 hx rfl rfl rfl (pc0 := 24) (pc' := 27) (same := false) rfl (hb hby at_24) rfl (decide_eq_false fun q => (Ne.symm (F_LEAST_FREQUENTLY_USED.ne F_CONSISTENT_HASH (by decide))) (Value.ref.inj q)) (by decide) (by decide) kk) ?_
    show Gl p e below s _ _ _ T21 (mkF m 27 #[.val (.int p1), .val (.int (4 : Int32)), .val (.ref w_CONSISTENT_HASH), .unset] [])
    refine Gl.st (fun _ kk => XS.aloadN X21.here hx rfl (hb hby at_27) rfl rfl kk) ?_
    show Gl p e below s _ _ _ T21 (mkF m 28 #[.val (.int p1), .val (.int (4 : Int32)), .val (.ref w_CONSISTENT_HASH), .unset] [(.ref w_CONSISTENT_HASH)])
    obtain ⟨T22, X22, e22, st22⟩ := getS2 X21 hx hZ hown (host := "") (Or.inl (hw _ (List.mem_of_getElem? (i := 12) rfl))) Via.refl e21 (S_LEAST_RECENTLY_USED.ext O0.2) (g := (mkF m 28 #[.val (.int p1), .val (.int (4 : Int32)), .val (.ref w_CONSISTENT_HASH), .unset] [(.ref w_CONSISTENT_HASH)])) rfl (hb hby at_28)
    refine Gl.st st22 ?_
    show Gl p e below s _ _ _ T22 (mkF m 31 #[.val (.int p1), .val (.int (4 : Int32)), .val (.ref w_CONSISTENT_HASH), .unset] [(.ref w_LEAST_RECENTLY_USED), (.ref w_CONSISTENT_HASH)])
    refine Gl.st (fun _ kk => Jvm.RoadKit.acmp (g := (mkF m 31 #[.val (.int p1), .val (.int (4 : Int32)), .val (.ref w_CONSISTENT_HASH), .unset] [(.ref w_LEAST_RECENTLY_USED), (.ref w_CONSISTENT_HASH)])) X22 hx rfl rfl rfl (pc0 := 31) (pc' := 38) (same := false) rfl (hb hby at_31) rfl (decide_eq_false fun q => (Ne.symm (F_LEAST_RECENTLY_USED.ne F_CONSISTENT_HASH (by decide))) (Value.ref.inj q)) (by decide) (by decide) kk) ?_
    show Gl p e below s _ _ _ T22 (mkF m 38 #[.val (.int p1), .val (.int (4 : Int32)), .val (.ref w_CONSISTENT_HASH), .unset] [])
    refine Gl.st (fun _ kk => XS.iconst X22.here hx rfl (hb hby at_38) kk) ?_
    show Gl p e below s _ _ _ T22 (mkF m 39 #[.val (.int p1), .val (.int (4 : Int32)), .val (.ref w_CONSISTENT_HASH), .unset] [(.int (0 : Int32))])
    refine Gl.st (fun _ kk => XS.istoreN X22.here hx rfl (hb hby at_39) rfl (l' := #[.val (.int p1), .val (.int (4 : Int32)), .val (.ref w_CONSISTENT_HASH), .val (.int (0 : Int32))]) rfl kk) ?_
    show Gl p e below s _ _ _ T22 (mkF m 40 #[.val (.int p1), .val (.int (4 : Int32)), .val (.ref w_CONSISTENT_HASH), .val (.int (0 : Int32))] [])
    refine Gl.st (fun _ kk => XS.aloadN X22.here hx rfl (hb hby at_40) rfl rfl kk) ?_
    show Gl p e below s _ _ _ T22 (mkF m 41 #[.val (.int p1), .val (.int (4 : Int32)), .val (.ref w_CONSISTENT_HASH), .val (.int (0 : Int32))] [(.ref w_CONSISTENT_HASH)])
    obtain ⟨cq23, kq23, qa23, qb23, qc23⟩ := isOf hZ e22 (E_CONSISTENT_HASH.ext O0.2)
    obtain ⟨_, _, ⟨T23, L23, k23, n23⟩, -, X23, ⟨Lc23, hQ23, l23, y23, z23⟩, st23⟩ := X22.virtualBack hx (y := (⟨"com/example/vuoro/vuoro/centre/Route", "countsUses", "()Z"⟩ : MethodName)) (z := (⟨"com/example/vuoro/vuoro/centre/Route", "countsUses", "()Z"⟩ : MethodName)) hown (mvT hZ (hw _ (List.mem_of_getElem? (i := 14) rfl))) (mvT hZ (hw _ (List.mem_of_getElem? (i := 15) rfl))) (notFace_of_selects (args := #[]) (mvT hZ (hw _ (List.mem_of_getElem? (i := 17) rfl)))) (mvT hZ (hw _ (List.mem_of_getElem? (i := 17) rfl))) (mvT hZ (hw _ (List.mem_of_getElem? (i := 16) rfl))) (by decide) (backOf (W := 0) (rm2 l Z a0 hw [] w_CONSISTENT_HASH 4 0 h0 n0 O0 E_CONSISTENT_HASH F_CONSISTENT_HASH (Or.inr (Or.inr (Or.inr (Or.inr (Or.inl ⟨rfl, rfl⟩)))))) hZ (hw _ (List.mem_of_getElem? (i := 18) rfl)) (hw _ (List.mem_of_getElem? (i := 6) rfl)) (by decide) (by decide)) qa23 qc23 (g := (mkF m 41 #[.val (.int p1), .val (.int (4 : Int32)), .val (.ref w_CONSISTENT_HASH), .val (.int (0 : Int32))] [(.ref w_CONSISTENT_HASH)])) rfl (by rw [hml]; rfl) (Steps.refl _) (argsL := []) (rest := []) (lenOf pd_rm0_1 rfl) rfl (by show 2 * 0 + _ ≤ _; exact Nat.le_of_eq rfl) (hb hby at_41) (fun _ _ => ⟨rfl, e22, (by decide : 0 + 0 ≤ _), (by decide : 0 + 0 ≤ _)⟩)
    dsimp only [Pt.U, Pt.locs, Pt.cells, Pt.slots] at X23 l23 y23 z23 st23 hQ23
    subst l23 y23 z23
    obtain ⟨rfl, Nq23, e23⟩ := hQ23
    have N23 := Fr.app N19 Nq23
    refine Gl.st (fun _ kk => st23.trans kk) ?_
    show Gl p e below s _ _ _ T23 (mkF m 44 #[.val (.int p1), .val (.int (4 : Int32)), .val (.ref w_CONSISTENT_HASH), .val (.int (0 : Int32))] [(.int (0 : Int32))])
    refine Gl.st (fun _ kk => XS.iloadN X23.here hx rfl (hb hby at_44) rfl kk) ?_
    show Gl p e below s _ _ _ T23 (mkF m 45 #[.val (.int p1), .val (.int (4 : Int32)), .val (.ref w_CONSISTENT_HASH), .val (.int (0 : Int32))] [(.int (0 : Int32)), (.int (0 : Int32))])
    refine Gl.st (fun _ kk => XS.icmpNo X23.here hx rfl (hb hby at_45) rfl (teq (by decide : (0 : Int32) = (0 : Int32))).2 kk) ?_
    show Gl p e below s _ _ _ T23 (mkF m 48 #[.val (.int p1), .val (.int (4 : Int32)), .val (.ref w_CONSISTENT_HASH), .val (.int (0 : Int32))] [])
    refine Gl.st (fun _ kk => XS.iconst X23.here hx rfl (hb hby at_48) kk) ?_
    show Gl p e below s _ _ _ T23 (mkF m 49 #[.val (.int p1), .val (.int (4 : Int32)), .val (.ref w_CONSISTENT_HASH), .val (.int (0 : Int32))] [(.int (1 : Int32))])
    refine Gl.st (fun _ kk => XS.goto X23.here hx rfl (pc0 := 49) (pc' := 53) rfl (hb hby at_49) (by decide) (by decide) kk) ?_
    show Gl p e below s _ _ _ T23 (mkF m 53 #[.val (.int p1), .val (.int (4 : Int32)), .val (.ref w_CONSISTENT_HASH), .val (.int (0 : Int32))] [(.int (1 : Int32))])
    exact Gl.ret X23 (v := (some (.int (1 : Int32)))) (fun h => by rw [Bd.returns] at h; cases h) (BodyLoose.notSynchronized Bd) (fun hr => retN X23 hx (t := .boolean) Bd.returns (by simp) (hb hby at_53) hr) e23 ⟨rfl, N23⟩ (by decide) (by decide)
  · rw [hk]
    show Gl p e below s _ _ _ s₁ (mkF m 8 #[.val (.int p1), .val (.int (5 : Int32)), .unset, .unset] [])
    refine Gl.st (fun _ kk => XS.iloadN X0.here hx rfl (hb hby at_8) rfl kk) ?_
    show Gl p e below s _ _ _ s₁ (mkF m 9 #[.val (.int p1), .val (.int (5 : Int32)), .unset, .unset] [(.int (5 : Int32))])
    obtain ⟨_, _, ⟨T24, L24, k24, n24⟩, -, X24, ⟨Lc24, hQ24, l24, y24, z24⟩, st24⟩ := Jvm.LawKit.callS X0 hx (y := (⟨"com/example/vuoro/vuoro/centre/RouteCountsUsesPinLaw", "pick", "(I)Lcom/example/vuoro/vuoro/centre/Route;"⟩ : MethodName)) hown (mvT hZ (hw _ (List.mem_of_getElem? (i := 1) rfl))) (mvT hZ (hw _ (List.mem_of_getElem? (i := 2) rfl))) (mvT hZ (hw _ (List.mem_of_getElem? (i := 3) rfl))) (mvT hZ (hw _ (List.mem_of_getElem? (i := 4) rfl))) (by decide) (backOf (W := 0) (rm1 l Z a0 hw [] 5 w_FIRST w_LAST w_ROUND w_RANDOM w_CONSISTENT_HASH w_LEAST_FREQUENTLY_USED w_LEAST_RECENTLY_USED w_FAILOVER w_BUSYOVER w_SHARDING_BROADCAST w_LEAST_FREQUENTLY_USED h0 n0 O0 S_FIRST S_LAST S_ROUND S_RANDOM S_CONSISTENT_HASH S_LEAST_FREQUENTLY_USED S_LEAST_RECENTLY_USED S_FAILOVER S_BUSYOVER S_SHARDING_BROADCAST (Or.inr (Or.inr (Or.inr (Or.inr (Or.inr (Or.inl ⟨rfl, rfl⟩))))))) hZ (hw _ (List.mem_of_getElem? (i := 4) rfl)) (hw _ (List.mem_of_getElem? (i := 3) rfl)) (by decide) (by decide)) (g := (mkF m 9 #[.val (.int p1), .val (.int (5 : Int32)), .unset, .unset] [(.int (5 : Int32))])) rfl (by rw [hml]; rfl) (argsL := [(.int (5 : Int32))]) (rest := []) (lenOf pd_rm0_0 rfl) rfl (by show 2 * 0 + _ ≤ _; exact Nat.le_of_eq rfl) (hb hby at_9) (fun _ _ => ⟨rfl, e0, (by decide : 0 + 0 ≤ _), (by decide : 0 + 0 ≤ _)⟩)
    dsimp only [Pt.U, Pt.locs, Pt.cells, Pt.slots] at X24 l24 y24 z24 st24 hQ24
    subst l24 y24 z24
    obtain ⟨rfl, Nq24, e24⟩ := hQ24
    have N24 := Fr.app N0 Nq24
    refine Gl.st st24 ?_
    show Gl p e below s _ _ _ T24 (mkF m 12 #[.val (.int p1), .val (.int (5 : Int32)), .unset, .unset] [(.ref w_LEAST_FREQUENTLY_USED)])
    refine Gl.st (fun _ kk => XS.astoreN X24.here hx rfl (hb hby at_12) rfl rfl (l' := #[.val (.int p1), .val (.int (5 : Int32)), .val (.ref w_LEAST_FREQUENTLY_USED), .unset]) rfl kk) ?_
    show Gl p e below s _ _ _ T24 (mkF m 13 #[.val (.int p1), .val (.int (5 : Int32)), .val (.ref w_LEAST_FREQUENTLY_USED), .unset] [])
    refine Gl.st (fun _ kk => XS.aloadN X24.here hx rfl (hb hby at_13) rfl rfl kk) ?_
    show Gl p e below s _ _ _ T24 (mkF m 14 #[.val (.int p1), .val (.int (5 : Int32)), .val (.ref w_LEAST_FREQUENTLY_USED), .unset] [(.ref w_LEAST_FREQUENTLY_USED)])
    obtain ⟨T25, X25, e25, st25⟩ := getS2 X24 hx hZ hown (host := "") (Or.inl (hw _ (List.mem_of_getElem? (i := 8) rfl))) Via.refl e24 (S_ROUND.ext O0.2) (g := (mkF m 14 #[.val (.int p1), .val (.int (5 : Int32)), .val (.ref w_LEAST_FREQUENTLY_USED), .unset] [(.ref w_LEAST_FREQUENTLY_USED)])) rfl (hb hby at_14)
    refine Gl.st st25 ?_
    show Gl p e below s _ _ _ T25 (mkF m 17 #[.val (.int p1), .val (.int (5 : Int32)), .val (.ref w_LEAST_FREQUENTLY_USED), .unset] [(.ref w_ROUND), (.ref w_LEAST_FREQUENTLY_USED)])
    refine Gl.st (fun _ kk => Jvm.RoadKit.acmp (g := (mkF m 17 #[.val (.int p1), .val (.int (5 : Int32)), .val (.ref w_LEAST_FREQUENTLY_USED), .unset] [(.ref w_ROUND), (.ref w_LEAST_FREQUENTLY_USED)])) X25 hx rfl rfl rfl (pc0 := 17) (pc' := 20) (same := false) rfl (hb hby at_17) rfl (decide_eq_false fun q => (F_LEAST_FREQUENTLY_USED.ne F_ROUND (by decide)) (Value.ref.inj q)) (by decide) (by decide) kk) ?_
    show Gl p e below s _ _ _ T25 (mkF m 20 #[.val (.int p1), .val (.int (5 : Int32)), .val (.ref w_LEAST_FREQUENTLY_USED), .unset] [])
    refine Gl.st (fun _ kk => XS.aloadN X25.here hx rfl (hb hby at_20) rfl rfl kk) ?_
    show Gl p e below s _ _ _ T25 (mkF m 21 #[.val (.int p1), .val (.int (5 : Int32)), .val (.ref w_LEAST_FREQUENTLY_USED), .unset] [(.ref w_LEAST_FREQUENTLY_USED)])
    obtain ⟨T26, X26, e26, st26⟩ := getS2 X25 hx hZ hown (host := "") (Or.inl (hw _ (List.mem_of_getElem? (i := 10) rfl))) Via.refl e25 (S_LEAST_FREQUENTLY_USED.ext O0.2) (g := (mkF m 21 #[.val (.int p1), .val (.int (5 : Int32)), .val (.ref w_LEAST_FREQUENTLY_USED), .unset] [(.ref w_LEAST_FREQUENTLY_USED)])) rfl (hb hby at_21)
    refine Gl.st st26 ?_
    show Gl p e below s _ _ _ T26 (mkF m 24 #[.val (.int p1), .val (.int (5 : Int32)), .val (.ref w_LEAST_FREQUENTLY_USED), .unset] [(.ref w_LEAST_FREQUENTLY_USED), (.ref w_LEAST_FREQUENTLY_USED)])
    refine Gl.st (fun _ kk => Jvm.RoadKit.acmp (g := (mkF m 24 #[.val (.int p1), .val (.int (5 : Int32)), .val (.ref w_LEAST_FREQUENTLY_USED), .unset] [(.ref w_LEAST_FREQUENTLY_USED), (.ref w_LEAST_FREQUENTLY_USED)])) X26 hx rfl rfl rfl (pc0 := 24) (pc' := 34) (same := true) rfl (hb hby at_24) rfl (decide_eq_true rfl) (by decide) (by decide) kk) ?_
    show Gl p e below s _ _ _ T26 (mkF m 34 #[.val (.int p1), .val (.int (5 : Int32)), .val (.ref w_LEAST_FREQUENTLY_USED), .unset] [])
    refine Gl.st (fun _ kk => XS.iconst X26.here hx rfl (hb hby at_34) kk) ?_
    show Gl p e below s _ _ _ T26 (mkF m 35 #[.val (.int p1), .val (.int (5 : Int32)), .val (.ref w_LEAST_FREQUENTLY_USED), .unset] [(.int (1 : Int32))])
    refine Gl.st (fun _ kk => XS.goto X26.here hx rfl (pc0 := 35) (pc' := 39) rfl (hb hby at_35) (by decide) (by decide) kk) ?_
    show Gl p e below s _ _ _ T26 (mkF m 39 #[.val (.int p1), .val (.int (5 : Int32)), .val (.ref w_LEAST_FREQUENTLY_USED), .unset] [(.int (1 : Int32))])
    refine Gl.st (fun _ kk => XS.istoreN X26.here hx rfl (hb hby at_39) rfl (l' := #[.val (.int p1), .val (.int (5 : Int32)), .val (.ref w_LEAST_FREQUENTLY_USED), .val (.int (1 : Int32))]) rfl kk) ?_
    show Gl p e below s _ _ _ T26 (mkF m 40 #[.val (.int p1), .val (.int (5 : Int32)), .val (.ref w_LEAST_FREQUENTLY_USED), .val (.int (1 : Int32))] [])
    refine Gl.st (fun _ kk => XS.aloadN X26.here hx rfl (hb hby at_40) rfl rfl kk) ?_
    show Gl p e below s _ _ _ T26 (mkF m 41 #[.val (.int p1), .val (.int (5 : Int32)), .val (.ref w_LEAST_FREQUENTLY_USED), .val (.int (1 : Int32))] [(.ref w_LEAST_FREQUENTLY_USED)])
    obtain ⟨cq27, kq27, qa27, qb27, qc27⟩ := isOf hZ e26 (E_LEAST_FREQUENTLY_USED.ext O0.2)
    obtain ⟨_, _, ⟨T27, L27, k27, n27⟩, -, X27, ⟨Lc27, hQ27, l27, y27, z27⟩, st27⟩ := X26.virtualBack hx (y := (⟨"com/example/vuoro/vuoro/centre/Route", "countsUses", "()Z"⟩ : MethodName)) (z := (⟨"com/example/vuoro/vuoro/centre/Route", "countsUses", "()Z"⟩ : MethodName)) hown (mvT hZ (hw _ (List.mem_of_getElem? (i := 14) rfl))) (mvT hZ (hw _ (List.mem_of_getElem? (i := 15) rfl))) (notFace_of_selects (args := #[]) (mvT hZ (hw _ (List.mem_of_getElem? (i := 17) rfl)))) (mvT hZ (hw _ (List.mem_of_getElem? (i := 17) rfl))) (mvT hZ (hw _ (List.mem_of_getElem? (i := 16) rfl))) (by decide) (backOf (W := 0) (rm2 l Z a0 hw [] w_LEAST_FREQUENTLY_USED 5 1 h0 n0 O0 E_LEAST_FREQUENTLY_USED F_LEAST_FREQUENTLY_USED (Or.inr (Or.inr (Or.inr (Or.inr (Or.inr (Or.inl ⟨rfl, rfl⟩))))))) hZ (hw _ (List.mem_of_getElem? (i := 18) rfl)) (hw _ (List.mem_of_getElem? (i := 6) rfl)) (by decide) (by decide)) qa27 qc27 (g := (mkF m 41 #[.val (.int p1), .val (.int (5 : Int32)), .val (.ref w_LEAST_FREQUENTLY_USED), .val (.int (1 : Int32))] [(.ref w_LEAST_FREQUENTLY_USED)])) rfl (by rw [hml]; rfl) (Steps.refl _) (argsL := []) (rest := []) (lenOf pd_rm0_1 rfl) rfl (by show 2 * 0 + _ ≤ _; exact Nat.le_of_eq rfl) (hb hby at_41) (fun _ _ => ⟨rfl, e26, (by decide : 0 + 0 ≤ _), (by decide : 0 + 0 ≤ _)⟩)
    dsimp only [Pt.U, Pt.locs, Pt.cells, Pt.slots] at X27 l27 y27 z27 st27 hQ27
    subst l27 y27 z27
    obtain ⟨rfl, Nq27, e27⟩ := hQ27
    have N27 := Fr.app N24 Nq27
    refine Gl.st (fun _ kk => st27.trans kk) ?_
    show Gl p e below s _ _ _ T27 (mkF m 44 #[.val (.int p1), .val (.int (5 : Int32)), .val (.ref w_LEAST_FREQUENTLY_USED), .val (.int (1 : Int32))] [(.int (1 : Int32))])
    refine Gl.st (fun _ kk => XS.iloadN X27.here hx rfl (hb hby at_44) rfl kk) ?_
    show Gl p e below s _ _ _ T27 (mkF m 45 #[.val (.int p1), .val (.int (5 : Int32)), .val (.ref w_LEAST_FREQUENTLY_USED), .val (.int (1 : Int32))] [(.int (1 : Int32)), (.int (1 : Int32))])
    refine Gl.st (fun _ kk => XS.icmpNo X27.here hx rfl (hb hby at_45) rfl (teq (by decide : (1 : Int32) = (1 : Int32))).2 kk) ?_
    show Gl p e below s _ _ _ T27 (mkF m 48 #[.val (.int p1), .val (.int (5 : Int32)), .val (.ref w_LEAST_FREQUENTLY_USED), .val (.int (1 : Int32))] [])
    refine Gl.st (fun _ kk => XS.iconst X27.here hx rfl (hb hby at_48) kk) ?_
    show Gl p e below s _ _ _ T27 (mkF m 49 #[.val (.int p1), .val (.int (5 : Int32)), .val (.ref w_LEAST_FREQUENTLY_USED), .val (.int (1 : Int32))] [(.int (1 : Int32))])
    refine Gl.st (fun _ kk => XS.goto X27.here hx rfl (pc0 := 49) (pc' := 53) rfl (hb hby at_49) (by decide) (by decide) kk) ?_
    show Gl p e below s _ _ _ T27 (mkF m 53 #[.val (.int p1), .val (.int (5 : Int32)), .val (.ref w_LEAST_FREQUENTLY_USED), .val (.int (1 : Int32))] [(.int (1 : Int32))])
    exact Gl.ret X27 (v := (some (.int (1 : Int32)))) (fun h => by rw [Bd.returns] at h; cases h) (BodyLoose.notSynchronized Bd) (fun hr => retN X27 hx (t := .boolean) Bd.returns (by simp) (hb hby at_53) hr) e27 ⟨rfl, N27⟩ (by decide) (by decide)
  · rw [hk]
    show Gl p e below s _ _ _ s₁ (mkF m 8 #[.val (.int p1), .val (.int (6 : Int32)), .unset, .unset] [])
    refine Gl.st (fun _ kk => XS.iloadN X0.here hx rfl (hb hby at_8) rfl kk) ?_
    show Gl p e below s _ _ _ s₁ (mkF m 9 #[.val (.int p1), .val (.int (6 : Int32)), .unset, .unset] [(.int (6 : Int32))])
    obtain ⟨_, _, ⟨T28, L28, k28, n28⟩, -, X28, ⟨Lc28, hQ28, l28, y28, z28⟩, st28⟩ := Jvm.LawKit.callS X0 hx (y := (⟨"com/example/vuoro/vuoro/centre/RouteCountsUsesPinLaw", "pick", "(I)Lcom/example/vuoro/vuoro/centre/Route;"⟩ : MethodName)) hown (mvT hZ (hw _ (List.mem_of_getElem? (i := 1) rfl))) (mvT hZ (hw _ (List.mem_of_getElem? (i := 2) rfl))) (mvT hZ (hw _ (List.mem_of_getElem? (i := 3) rfl))) (mvT hZ (hw _ (List.mem_of_getElem? (i := 4) rfl))) (by decide) (backOf (W := 0) (rm1 l Z a0 hw [] 6 w_FIRST w_LAST w_ROUND w_RANDOM w_CONSISTENT_HASH w_LEAST_FREQUENTLY_USED w_LEAST_RECENTLY_USED w_FAILOVER w_BUSYOVER w_SHARDING_BROADCAST w_LEAST_RECENTLY_USED h0 n0 O0 S_FIRST S_LAST S_ROUND S_RANDOM S_CONSISTENT_HASH S_LEAST_FREQUENTLY_USED S_LEAST_RECENTLY_USED S_FAILOVER S_BUSYOVER S_SHARDING_BROADCAST (Or.inr (Or.inr (Or.inr (Or.inr (Or.inr (Or.inr (Or.inl ⟨rfl, rfl⟩)))))))) hZ (hw _ (List.mem_of_getElem? (i := 4) rfl)) (hw _ (List.mem_of_getElem? (i := 3) rfl)) (by decide) (by decide)) (g := (mkF m 9 #[.val (.int p1), .val (.int (6 : Int32)), .unset, .unset] [(.int (6 : Int32))])) rfl (by rw [hml]; rfl) (argsL := [(.int (6 : Int32))]) (rest := []) (lenOf pd_rm0_0 rfl) rfl (by show 2 * 0 + _ ≤ _; exact Nat.le_of_eq rfl) (hb hby at_9) (fun _ _ => ⟨rfl, e0, (by decide : 0 + 0 ≤ _), (by decide : 0 + 0 ≤ _)⟩)
    dsimp only [Pt.U, Pt.locs, Pt.cells, Pt.slots] at X28 l28 y28 z28 st28 hQ28
    subst l28 y28 z28
    obtain ⟨rfl, Nq28, e28⟩ := hQ28
    have N28 := Fr.app N0 Nq28
    refine Gl.st st28 ?_
    show Gl p e below s _ _ _ T28 (mkF m 12 #[.val (.int p1), .val (.int (6 : Int32)), .unset, .unset] [(.ref w_LEAST_RECENTLY_USED)])
    refine Gl.st (fun _ kk => XS.astoreN X28.here hx rfl (hb hby at_12) rfl rfl (l' := #[.val (.int p1), .val (.int (6 : Int32)), .val (.ref w_LEAST_RECENTLY_USED), .unset]) rfl kk) ?_
    show Gl p e below s _ _ _ T28 (mkF m 13 #[.val (.int p1), .val (.int (6 : Int32)), .val (.ref w_LEAST_RECENTLY_USED), .unset] [])
    refine Gl.st (fun _ kk => XS.aloadN X28.here hx rfl (hb hby at_13) rfl rfl kk) ?_
    show Gl p e below s _ _ _ T28 (mkF m 14 #[.val (.int p1), .val (.int (6 : Int32)), .val (.ref w_LEAST_RECENTLY_USED), .unset] [(.ref w_LEAST_RECENTLY_USED)])
    obtain ⟨T29, X29, e29, st29⟩ := getS2 X28 hx hZ hown (host := "") (Or.inl (hw _ (List.mem_of_getElem? (i := 8) rfl))) Via.refl e28 (S_ROUND.ext O0.2) (g := (mkF m 14 #[.val (.int p1), .val (.int (6 : Int32)), .val (.ref w_LEAST_RECENTLY_USED), .unset] [(.ref w_LEAST_RECENTLY_USED)])) rfl (hb hby at_14)
    refine Gl.st st29 ?_
    show Gl p e below s _ _ _ T29 (mkF m 17 #[.val (.int p1), .val (.int (6 : Int32)), .val (.ref w_LEAST_RECENTLY_USED), .unset] [(.ref w_ROUND), (.ref w_LEAST_RECENTLY_USED)])
    refine Gl.st (fun _ kk => Jvm.RoadKit.acmp (g := (mkF m 17 #[.val (.int p1), .val (.int (6 : Int32)), .val (.ref w_LEAST_RECENTLY_USED), .unset] [(.ref w_ROUND), (.ref w_LEAST_RECENTLY_USED)])) X29 hx rfl rfl rfl (pc0 := 17) (pc' := 20) (same := false) rfl (hb hby at_17) rfl (decide_eq_false fun q => (F_LEAST_RECENTLY_USED.ne F_ROUND (by decide)) (Value.ref.inj q)) (by decide) (by decide) kk) ?_
    show Gl p e below s _ _ _ T29 (mkF m 20 #[.val (.int p1), .val (.int (6 : Int32)), .val (.ref w_LEAST_RECENTLY_USED), .unset] [])
    refine Gl.st (fun _ kk => XS.aloadN X29.here hx rfl (hb hby at_20) rfl rfl kk) ?_
    show Gl p e below s _ _ _ T29 (mkF m 21 #[.val (.int p1), .val (.int (6 : Int32)), .val (.ref w_LEAST_RECENTLY_USED), .unset] [(.ref w_LEAST_RECENTLY_USED)])
    obtain ⟨T30, X30, e30, st30⟩ := getS2 X29 hx hZ hown (host := "") (Or.inl (hw _ (List.mem_of_getElem? (i := 10) rfl))) Via.refl e29 (S_LEAST_FREQUENTLY_USED.ext O0.2) (g := (mkF m 21 #[.val (.int p1), .val (.int (6 : Int32)), .val (.ref w_LEAST_RECENTLY_USED), .unset] [(.ref w_LEAST_RECENTLY_USED)])) rfl (hb hby at_21)
    refine Gl.st st30 ?_
    show Gl p e below s _ _ _ T30 (mkF m 24 #[.val (.int p1), .val (.int (6 : Int32)), .val (.ref w_LEAST_RECENTLY_USED), .unset] [(.ref w_LEAST_FREQUENTLY_USED), (.ref w_LEAST_RECENTLY_USED)])
    refine Gl.st (fun _ kk => Jvm.RoadKit.acmp (g := (mkF m 24 #[.val (.int p1), .val (.int (6 : Int32)), .val (.ref w_LEAST_RECENTLY_USED), .unset] [(.ref w_LEAST_FREQUENTLY_USED), (.ref w_LEAST_RECENTLY_USED)])) X30 hx rfl rfl rfl (pc0 := 24) (pc' := 27) (same := false) rfl (hb hby at_24) rfl (decide_eq_false fun q => (F_LEAST_RECENTLY_USED.ne F_LEAST_FREQUENTLY_USED (by decide)) (Value.ref.inj q)) (by decide) (by decide) kk) ?_
    show Gl p e below s _ _ _ T30 (mkF m 27 #[.val (.int p1), .val (.int (6 : Int32)), .val (.ref w_LEAST_RECENTLY_USED), .unset] [])
    refine Gl.st (fun _ kk => XS.aloadN X30.here hx rfl (hb hby at_27) rfl rfl kk) ?_
    show Gl p e below s _ _ _ T30 (mkF m 28 #[.val (.int p1), .val (.int (6 : Int32)), .val (.ref w_LEAST_RECENTLY_USED), .unset] [(.ref w_LEAST_RECENTLY_USED)])
    obtain ⟨T31, X31, e31, st31⟩ := getS2 X30 hx hZ hown (host := "") (Or.inl (hw _ (List.mem_of_getElem? (i := 12) rfl))) Via.refl e30 (S_LEAST_RECENTLY_USED.ext O0.2) (g := (mkF m 28 #[.val (.int p1), .val (.int (6 : Int32)), .val (.ref w_LEAST_RECENTLY_USED), .unset] [(.ref w_LEAST_RECENTLY_USED)])) rfl (hb hby at_28)
    refine Gl.st st31 ?_
    show Gl p e below s _ _ _ T31 (mkF m 31 #[.val (.int p1), .val (.int (6 : Int32)), .val (.ref w_LEAST_RECENTLY_USED), .unset] [(.ref w_LEAST_RECENTLY_USED), (.ref w_LEAST_RECENTLY_USED)])
    refine Gl.st (fun _ kk => Jvm.RoadKit.acmp (g := (mkF m 31 #[.val (.int p1), .val (.int (6 : Int32)), .val (.ref w_LEAST_RECENTLY_USED), .unset] [(.ref w_LEAST_RECENTLY_USED), (.ref w_LEAST_RECENTLY_USED)])) X31 hx rfl rfl rfl (pc0 := 31) (pc' := 34) (same := true) rfl (hb hby at_31) rfl (decide_eq_true rfl) (by decide) (by decide) kk) ?_
    show Gl p e below s _ _ _ T31 (mkF m 34 #[.val (.int p1), .val (.int (6 : Int32)), .val (.ref w_LEAST_RECENTLY_USED), .unset] [])
    refine Gl.st (fun _ kk => XS.iconst X31.here hx rfl (hb hby at_34) kk) ?_
    show Gl p e below s _ _ _ T31 (mkF m 35 #[.val (.int p1), .val (.int (6 : Int32)), .val (.ref w_LEAST_RECENTLY_USED), .unset] [(.int (1 : Int32))])
    refine Gl.st (fun _ kk => XS.goto X31.here hx rfl (pc0 := 35) (pc' := 39) rfl (hb hby at_35) (by decide) (by decide) kk) ?_
    show Gl p e below s _ _ _ T31 (mkF m 39 #[.val (.int p1), .val (.int (6 : Int32)), .val (.ref w_LEAST_RECENTLY_USED), .unset] [(.int (1 : Int32))])
    refine Gl.st (fun _ kk => XS.istoreN X31.here hx rfl (hb hby at_39) rfl (l' := #[.val (.int p1), .val (.int (6 : Int32)), .val (.ref w_LEAST_RECENTLY_USED), .val (.int (1 : Int32))]) rfl kk) ?_
    show Gl p e below s _ _ _ T31 (mkF m 40 #[.val (.int p1), .val (.int (6 : Int32)), .val (.ref w_LEAST_RECENTLY_USED), .val (.int (1 : Int32))] [])
    refine Gl.st (fun _ kk => XS.aloadN X31.here hx rfl (hb hby at_40) rfl rfl kk) ?_
    show Gl p e below s _ _ _ T31 (mkF m 41 #[.val (.int p1), .val (.int (6 : Int32)), .val (.ref w_LEAST_RECENTLY_USED), .val (.int (1 : Int32))] [(.ref w_LEAST_RECENTLY_USED)])
    obtain ⟨cq32, kq32, qa32, qb32, qc32⟩ := isOf hZ e31 (E_LEAST_RECENTLY_USED.ext O0.2)
    obtain ⟨_, _, ⟨T32, L32, k32, n32⟩, -, X32, ⟨Lc32, hQ32, l32, y32, z32⟩, st32⟩ := X31.virtualBack hx (y := (⟨"com/example/vuoro/vuoro/centre/Route", "countsUses", "()Z"⟩ : MethodName)) (z := (⟨"com/example/vuoro/vuoro/centre/Route", "countsUses", "()Z"⟩ : MethodName)) hown (mvT hZ (hw _ (List.mem_of_getElem? (i := 14) rfl))) (mvT hZ (hw _ (List.mem_of_getElem? (i := 15) rfl))) (notFace_of_selects (args := #[]) (mvT hZ (hw _ (List.mem_of_getElem? (i := 17) rfl)))) (mvT hZ (hw _ (List.mem_of_getElem? (i := 17) rfl))) (mvT hZ (hw _ (List.mem_of_getElem? (i := 16) rfl))) (by decide) (backOf (W := 0) (rm2 l Z a0 hw [] w_LEAST_RECENTLY_USED 6 1 h0 n0 O0 E_LEAST_RECENTLY_USED F_LEAST_RECENTLY_USED (Or.inr (Or.inr (Or.inr (Or.inr (Or.inr (Or.inr (Or.inl ⟨rfl, rfl⟩)))))))) hZ (hw _ (List.mem_of_getElem? (i := 18) rfl)) (hw _ (List.mem_of_getElem? (i := 6) rfl)) (by decide) (by decide)) qa32 qc32 (g := (mkF m 41 #[.val (.int p1), .val (.int (6 : Int32)), .val (.ref w_LEAST_RECENTLY_USED), .val (.int (1 : Int32))] [(.ref w_LEAST_RECENTLY_USED)])) rfl (by rw [hml]; rfl) (Steps.refl _) (argsL := []) (rest := []) (lenOf pd_rm0_1 rfl) rfl (by show 2 * 0 + _ ≤ _; exact Nat.le_of_eq rfl) (hb hby at_41) (fun _ _ => ⟨rfl, e31, (by decide : 0 + 0 ≤ _), (by decide : 0 + 0 ≤ _)⟩)
    dsimp only [Pt.U, Pt.locs, Pt.cells, Pt.slots] at X32 l32 y32 z32 st32 hQ32
    subst l32 y32 z32
    obtain ⟨rfl, Nq32, e32⟩ := hQ32
    have N32 := Fr.app N28 Nq32
    refine Gl.st (fun _ kk => st32.trans kk) ?_
    show Gl p e below s _ _ _ T32 (mkF m 44 #[.val (.int p1), .val (.int (6 : Int32)), .val (.ref w_LEAST_RECENTLY_USED), .val (.int (1 : Int32))] [(.int (1 : Int32))])
    refine Gl.st (fun _ kk => XS.iloadN X32.here hx rfl (hb hby at_44) rfl kk) ?_
    show Gl p e below s _ _ _ T32 (mkF m 45 #[.val (.int p1), .val (.int (6 : Int32)), .val (.ref w_LEAST_RECENTLY_USED), .val (.int (1 : Int32))] [(.int (1 : Int32)), (.int (1 : Int32))])
    refine Gl.st (fun _ kk => XS.icmpNo X32.here hx rfl (hb hby at_45) rfl (teq (by decide : (1 : Int32) = (1 : Int32))).2 kk) ?_
    show Gl p e below s _ _ _ T32 (mkF m 48 #[.val (.int p1), .val (.int (6 : Int32)), .val (.ref w_LEAST_RECENTLY_USED), .val (.int (1 : Int32))] [])
    refine Gl.st (fun _ kk => XS.iconst X32.here hx rfl (hb hby at_48) kk) ?_
    show Gl p e below s _ _ _ T32 (mkF m 49 #[.val (.int p1), .val (.int (6 : Int32)), .val (.ref w_LEAST_RECENTLY_USED), .val (.int (1 : Int32))] [(.int (1 : Int32))])
    refine Gl.st (fun _ kk => XS.goto X32.here hx rfl (pc0 := 49) (pc' := 53) rfl (hb hby at_49) (by decide) (by decide) kk) ?_
    show Gl p e below s _ _ _ T32 (mkF m 53 #[.val (.int p1), .val (.int (6 : Int32)), .val (.ref w_LEAST_RECENTLY_USED), .val (.int (1 : Int32))] [(.int (1 : Int32))])
    exact Gl.ret X32 (v := (some (.int (1 : Int32)))) (fun h => by rw [Bd.returns] at h; cases h) (BodyLoose.notSynchronized Bd) (fun hr => retN X32 hx (t := .boolean) Bd.returns (by simp) (hb hby at_53) hr) e32 ⟨rfl, N32⟩ (by decide) (by decide)
  · rw [hk]
    show Gl p e below s _ _ _ s₁ (mkF m 8 #[.val (.int p1), .val (.int (7 : Int32)), .unset, .unset] [])
    refine Gl.st (fun _ kk => XS.iloadN X0.here hx rfl (hb hby at_8) rfl kk) ?_
    show Gl p e below s _ _ _ s₁ (mkF m 9 #[.val (.int p1), .val (.int (7 : Int32)), .unset, .unset] [(.int (7 : Int32))])
    obtain ⟨_, _, ⟨T33, L33, k33, n33⟩, -, X33, ⟨Lc33, hQ33, l33, y33, z33⟩, st33⟩ := Jvm.LawKit.callS X0 hx (y := (⟨"com/example/vuoro/vuoro/centre/RouteCountsUsesPinLaw", "pick", "(I)Lcom/example/vuoro/vuoro/centre/Route;"⟩ : MethodName)) hown (mvT hZ (hw _ (List.mem_of_getElem? (i := 1) rfl))) (mvT hZ (hw _ (List.mem_of_getElem? (i := 2) rfl))) (mvT hZ (hw _ (List.mem_of_getElem? (i := 3) rfl))) (mvT hZ (hw _ (List.mem_of_getElem? (i := 4) rfl))) (by decide) (backOf (W := 0) (rm1 l Z a0 hw [] 7 w_FIRST w_LAST w_ROUND w_RANDOM w_CONSISTENT_HASH w_LEAST_FREQUENTLY_USED w_LEAST_RECENTLY_USED w_FAILOVER w_BUSYOVER w_SHARDING_BROADCAST w_FAILOVER h0 n0 O0 S_FIRST S_LAST S_ROUND S_RANDOM S_CONSISTENT_HASH S_LEAST_FREQUENTLY_USED S_LEAST_RECENTLY_USED S_FAILOVER S_BUSYOVER S_SHARDING_BROADCAST (Or.inr (Or.inr (Or.inr (Or.inr (Or.inr (Or.inr (Or.inr (Or.inl ⟨rfl, rfl⟩))))))))) hZ (hw _ (List.mem_of_getElem? (i := 4) rfl)) (hw _ (List.mem_of_getElem? (i := 3) rfl)) (by decide) (by decide)) (g := (mkF m 9 #[.val (.int p1), .val (.int (7 : Int32)), .unset, .unset] [(.int (7 : Int32))])) rfl (by rw [hml]; rfl) (argsL := [(.int (7 : Int32))]) (rest := []) (lenOf pd_rm0_0 rfl) rfl (by show 2 * 0 + _ ≤ _; exact Nat.le_of_eq rfl) (hb hby at_9) (fun _ _ => ⟨rfl, e0, (by decide : 0 + 0 ≤ _), (by decide : 0 + 0 ≤ _)⟩)
    dsimp only [Pt.U, Pt.locs, Pt.cells, Pt.slots] at X33 l33 y33 z33 st33 hQ33
    subst l33 y33 z33
    obtain ⟨rfl, Nq33, e33⟩ := hQ33
    have N33 := Fr.app N0 Nq33
    refine Gl.st st33 ?_
    show Gl p e below s _ _ _ T33 (mkF m 12 #[.val (.int p1), .val (.int (7 : Int32)), .unset, .unset] [(.ref w_FAILOVER)])
    refine Gl.st (fun _ kk => XS.astoreN X33.here hx rfl (hb hby at_12) rfl rfl (l' := #[.val (.int p1), .val (.int (7 : Int32)), .val (.ref w_FAILOVER), .unset]) rfl kk) ?_
    show Gl p e below s _ _ _ T33 (mkF m 13 #[.val (.int p1), .val (.int (7 : Int32)), .val (.ref w_FAILOVER), .unset] [])
    refine Gl.st (fun _ kk => XS.aloadN X33.here hx rfl (hb hby at_13) rfl rfl kk) ?_
    show Gl p e below s _ _ _ T33 (mkF m 14 #[.val (.int p1), .val (.int (7 : Int32)), .val (.ref w_FAILOVER), .unset] [(.ref w_FAILOVER)])
    obtain ⟨T34, X34, e34, st34⟩ := getS2 X33 hx hZ hown (host := "") (Or.inl (hw _ (List.mem_of_getElem? (i := 8) rfl))) Via.refl e33 (S_ROUND.ext O0.2) (g := (mkF m 14 #[.val (.int p1), .val (.int (7 : Int32)), .val (.ref w_FAILOVER), .unset] [(.ref w_FAILOVER)])) rfl (hb hby at_14)
    refine Gl.st st34 ?_
    show Gl p e below s _ _ _ T34 (mkF m 17 #[.val (.int p1), .val (.int (7 : Int32)), .val (.ref w_FAILOVER), .unset] [(.ref w_ROUND), (.ref w_FAILOVER)])
    refine Gl.st (fun _ kk => Jvm.RoadKit.acmp (g := (mkF m 17 #[.val (.int p1), .val (.int (7 : Int32)), .val (.ref w_FAILOVER), .unset] [(.ref w_ROUND), (.ref w_FAILOVER)])) X34 hx rfl rfl rfl (pc0 := 17) (pc' := 20) (same := false) rfl (hb hby at_17) rfl (decide_eq_false fun q => (F_FAILOVER.ne F_ROUND (by decide)) (Value.ref.inj q)) (by decide) (by decide) kk) ?_
    show Gl p e below s _ _ _ T34 (mkF m 20 #[.val (.int p1), .val (.int (7 : Int32)), .val (.ref w_FAILOVER), .unset] [])
    refine Gl.st (fun _ kk => XS.aloadN X34.here hx rfl (hb hby at_20) rfl rfl kk) ?_
    show Gl p e below s _ _ _ T34 (mkF m 21 #[.val (.int p1), .val (.int (7 : Int32)), .val (.ref w_FAILOVER), .unset] [(.ref w_FAILOVER)])
    obtain ⟨T35, X35, e35, st35⟩ := getS2 X34 hx hZ hown (host := "") (Or.inl (hw _ (List.mem_of_getElem? (i := 10) rfl))) Via.refl e34 (S_LEAST_FREQUENTLY_USED.ext O0.2) (g := (mkF m 21 #[.val (.int p1), .val (.int (7 : Int32)), .val (.ref w_FAILOVER), .unset] [(.ref w_FAILOVER)])) rfl (hb hby at_21)
    refine Gl.st st35 ?_
    show Gl p e below s _ _ _ T35 (mkF m 24 #[.val (.int p1), .val (.int (7 : Int32)), .val (.ref w_FAILOVER), .unset] [(.ref w_LEAST_FREQUENTLY_USED), (.ref w_FAILOVER)])
    refine Gl.st (fun _ kk => Jvm.RoadKit.acmp (g := (mkF m 24 #[.val (.int p1), .val (.int (7 : Int32)), .val (.ref w_FAILOVER), .unset] [(.ref w_LEAST_FREQUENTLY_USED), (.ref w_FAILOVER)])) X35 hx rfl rfl rfl (pc0 := 24) (pc' := 27) (same := false) rfl (hb hby at_24) rfl (decide_eq_false fun q => (F_FAILOVER.ne F_LEAST_FREQUENTLY_USED (by decide)) (Value.ref.inj q)) (by decide) (by decide) kk) ?_
    show Gl p e below s _ _ _ T35 (mkF m 27 #[.val (.int p1), .val (.int (7 : Int32)), .val (.ref w_FAILOVER), .unset] [])
    refine Gl.st (fun _ kk => XS.aloadN X35.here hx rfl (hb hby at_27) rfl rfl kk) ?_
    show Gl p e below s _ _ _ T35 (mkF m 28 #[.val (.int p1), .val (.int (7 : Int32)), .val (.ref w_FAILOVER), .unset] [(.ref w_FAILOVER)])
    obtain ⟨T36, X36, e36, st36⟩ := getS2 X35 hx hZ hown (host := "") (Or.inl (hw _ (List.mem_of_getElem? (i := 12) rfl))) Via.refl e35 (S_LEAST_RECENTLY_USED.ext O0.2) (g := (mkF m 28 #[.val (.int p1), .val (.int (7 : Int32)), .val (.ref w_FAILOVER), .unset] [(.ref w_FAILOVER)])) rfl (hb hby at_28)
    refine Gl.st st36 ?_
    show Gl p e below s _ _ _ T36 (mkF m 31 #[.val (.int p1), .val (.int (7 : Int32)), .val (.ref w_FAILOVER), .unset] [(.ref w_LEAST_RECENTLY_USED), (.ref w_FAILOVER)])
    refine Gl.st (fun _ kk => Jvm.RoadKit.acmp (g := (mkF m 31 #[.val (.int p1), .val (.int (7 : Int32)), .val (.ref w_FAILOVER), .unset] [(.ref w_LEAST_RECENTLY_USED), (.ref w_FAILOVER)])) X36 hx rfl rfl rfl (pc0 := 31) (pc' := 38) (same := false) rfl (hb hby at_31) rfl (decide_eq_false fun q => (F_FAILOVER.ne F_LEAST_RECENTLY_USED (by decide)) (Value.ref.inj q)) (by decide) (by decide) kk) ?_
    show Gl p e below s _ _ _ T36 (mkF m 38 #[.val (.int p1), .val (.int (7 : Int32)), .val (.ref w_FAILOVER), .unset] [])
    refine Gl.st (fun _ kk => XS.iconst X36.here hx rfl (hb hby at_38) kk) ?_
    show Gl p e below s _ _ _ T36 (mkF m 39 #[.val (.int p1), .val (.int (7 : Int32)), .val (.ref w_FAILOVER), .unset] [(.int (0 : Int32))])
    refine Gl.st (fun _ kk => XS.istoreN X36.here hx rfl (hb hby at_39) rfl (l' := #[.val (.int p1), .val (.int (7 : Int32)), .val (.ref w_FAILOVER), .val (.int (0 : Int32))]) rfl kk) ?_
    show Gl p e below s _ _ _ T36 (mkF m 40 #[.val (.int p1), .val (.int (7 : Int32)), .val (.ref w_FAILOVER), .val (.int (0 : Int32))] [])
    refine Gl.st (fun _ kk => XS.aloadN X36.here hx rfl (hb hby at_40) rfl rfl kk) ?_
    show Gl p e below s _ _ _ T36 (mkF m 41 #[.val (.int p1), .val (.int (7 : Int32)), .val (.ref w_FAILOVER), .val (.int (0 : Int32))] [(.ref w_FAILOVER)])
    obtain ⟨cq37, kq37, qa37, qb37, qc37⟩ := isOf hZ e36 (E_FAILOVER.ext O0.2)
    obtain ⟨_, _, ⟨T37, L37, k37, n37⟩, -, X37, ⟨Lc37, hQ37, l37, y37, z37⟩, st37⟩ := X36.virtualBack hx (y := (⟨"com/example/vuoro/vuoro/centre/Route", "countsUses", "()Z"⟩ : MethodName)) (z := (⟨"com/example/vuoro/vuoro/centre/Route", "countsUses", "()Z"⟩ : MethodName)) hown (mvT hZ (hw _ (List.mem_of_getElem? (i := 14) rfl))) (mvT hZ (hw _ (List.mem_of_getElem? (i := 15) rfl))) (notFace_of_selects (args := #[]) (mvT hZ (hw _ (List.mem_of_getElem? (i := 17) rfl)))) (mvT hZ (hw _ (List.mem_of_getElem? (i := 17) rfl))) (mvT hZ (hw _ (List.mem_of_getElem? (i := 16) rfl))) (by decide) (backOf (W := 0) (rm2 l Z a0 hw [] w_FAILOVER 7 0 h0 n0 O0 E_FAILOVER F_FAILOVER (Or.inr (Or.inr (Or.inr (Or.inr (Or.inr (Or.inr (Or.inr (Or.inl ⟨rfl, rfl⟩))))))))) hZ (hw _ (List.mem_of_getElem? (i := 18) rfl)) (hw _ (List.mem_of_getElem? (i := 6) rfl)) (by decide) (by decide)) qa37 qc37 (g := (mkF m 41 #[.val (.int p1), .val (.int (7 : Int32)), .val (.ref w_FAILOVER), .val (.int (0 : Int32))] [(.ref w_FAILOVER)])) rfl (by rw [hml]; rfl) (Steps.refl _) (argsL := []) (rest := []) (lenOf pd_rm0_1 rfl) rfl (by show 2 * 0 + _ ≤ _; exact Nat.le_of_eq rfl) (hb hby at_41) (fun _ _ => ⟨rfl, e36, (by decide : 0 + 0 ≤ _), (by decide : 0 + 0 ≤ _)⟩)
    dsimp only [Pt.U, Pt.locs, Pt.cells, Pt.slots] at X37 l37 y37 z37 st37 hQ37
    subst l37 y37 z37
    obtain ⟨rfl, Nq37, e37⟩ := hQ37
    have N37 := Fr.app N33 Nq37
    refine Gl.st (fun _ kk => st37.trans kk) ?_
    show Gl p e below s _ _ _ T37 (mkF m 44 #[.val (.int p1), .val (.int (7 : Int32)), .val (.ref w_FAILOVER), .val (.int (0 : Int32))] [(.int (0 : Int32))])
    refine Gl.st (fun _ kk => XS.iloadN X37.here hx rfl (hb hby at_44) rfl kk) ?_
    show Gl p e below s _ _ _ T37 (mkF m 45 #[.val (.int p1), .val (.int (7 : Int32)), .val (.ref w_FAILOVER), .val (.int (0 : Int32))] [(.int (0 : Int32)), (.int (0 : Int32))])
    refine Gl.st (fun _ kk => XS.icmpNo X37.here hx rfl (hb hby at_45) rfl (teq (by decide : (0 : Int32) = (0 : Int32))).2 kk) ?_
    show Gl p e below s _ _ _ T37 (mkF m 48 #[.val (.int p1), .val (.int (7 : Int32)), .val (.ref w_FAILOVER), .val (.int (0 : Int32))] [])
    refine Gl.st (fun _ kk => XS.iconst X37.here hx rfl (hb hby at_48) kk) ?_
    show Gl p e below s _ _ _ T37 (mkF m 49 #[.val (.int p1), .val (.int (7 : Int32)), .val (.ref w_FAILOVER), .val (.int (0 : Int32))] [(.int (1 : Int32))])
    refine Gl.st (fun _ kk => XS.goto X37.here hx rfl (pc0 := 49) (pc' := 53) rfl (hb hby at_49) (by decide) (by decide) kk) ?_
    show Gl p e below s _ _ _ T37 (mkF m 53 #[.val (.int p1), .val (.int (7 : Int32)), .val (.ref w_FAILOVER), .val (.int (0 : Int32))] [(.int (1 : Int32))])
    exact Gl.ret X37 (v := (some (.int (1 : Int32)))) (fun h => by rw [Bd.returns] at h; cases h) (BodyLoose.notSynchronized Bd) (fun hr => retN X37 hx (t := .boolean) Bd.returns (by simp) (hb hby at_53) hr) e37 ⟨rfl, N37⟩ (by decide) (by decide)
  · rw [hk]
    show Gl p e below s _ _ _ s₁ (mkF m 8 #[.val (.int p1), .val (.int (8 : Int32)), .unset, .unset] [])
    refine Gl.st (fun _ kk => XS.iloadN X0.here hx rfl (hb hby at_8) rfl kk) ?_
    show Gl p e below s _ _ _ s₁ (mkF m 9 #[.val (.int p1), .val (.int (8 : Int32)), .unset, .unset] [(.int (8 : Int32))])
    obtain ⟨_, _, ⟨T38, L38, k38, n38⟩, -, X38, ⟨Lc38, hQ38, l38, y38, z38⟩, st38⟩ := Jvm.LawKit.callS X0 hx (y := (⟨"com/example/vuoro/vuoro/centre/RouteCountsUsesPinLaw", "pick", "(I)Lcom/example/vuoro/vuoro/centre/Route;"⟩ : MethodName)) hown (mvT hZ (hw _ (List.mem_of_getElem? (i := 1) rfl))) (mvT hZ (hw _ (List.mem_of_getElem? (i := 2) rfl))) (mvT hZ (hw _ (List.mem_of_getElem? (i := 3) rfl))) (mvT hZ (hw _ (List.mem_of_getElem? (i := 4) rfl))) (by decide) (backOf (W := 0) (rm1 l Z a0 hw [] 8 w_FIRST w_LAST w_ROUND w_RANDOM w_CONSISTENT_HASH w_LEAST_FREQUENTLY_USED w_LEAST_RECENTLY_USED w_FAILOVER w_BUSYOVER w_SHARDING_BROADCAST w_BUSYOVER h0 n0 O0 S_FIRST S_LAST S_ROUND S_RANDOM S_CONSISTENT_HASH S_LEAST_FREQUENTLY_USED S_LEAST_RECENTLY_USED S_FAILOVER S_BUSYOVER S_SHARDING_BROADCAST (Or.inr (Or.inr (Or.inr (Or.inr (Or.inr (Or.inr (Or.inr (Or.inr (Or.inl ⟨rfl, rfl⟩)))))))))) hZ (hw _ (List.mem_of_getElem? (i := 4) rfl)) (hw _ (List.mem_of_getElem? (i := 3) rfl)) (by decide) (by decide)) (g := (mkF m 9 #[.val (.int p1), .val (.int (8 : Int32)), .unset, .unset] [(.int (8 : Int32))])) rfl (by rw [hml]; rfl) (argsL := [(.int (8 : Int32))]) (rest := []) (lenOf pd_rm0_0 rfl) rfl (by show 2 * 0 + _ ≤ _; exact Nat.le_of_eq rfl) (hb hby at_9) (fun _ _ => ⟨rfl, e0, (by decide : 0 + 0 ≤ _), (by decide : 0 + 0 ≤ _)⟩)
    dsimp only [Pt.U, Pt.locs, Pt.cells, Pt.slots] at X38 l38 y38 z38 st38 hQ38
    subst l38 y38 z38
    obtain ⟨rfl, Nq38, e38⟩ := hQ38
    have N38 := Fr.app N0 Nq38
    refine Gl.st st38 ?_
    show Gl p e below s _ _ _ T38 (mkF m 12 #[.val (.int p1), .val (.int (8 : Int32)), .unset, .unset] [(.ref w_BUSYOVER)])
    refine Gl.st (fun _ kk => XS.astoreN X38.here hx rfl (hb hby at_12) rfl rfl (l' := #[.val (.int p1), .val (.int (8 : Int32)), .val (.ref w_BUSYOVER), .unset]) rfl kk) ?_
    show Gl p e below s _ _ _ T38 (mkF m 13 #[.val (.int p1), .val (.int (8 : Int32)), .val (.ref w_BUSYOVER), .unset] [])
    refine Gl.st (fun _ kk => XS.aloadN X38.here hx rfl (hb hby at_13) rfl rfl kk) ?_
    show Gl p e below s _ _ _ T38 (mkF m 14 #[.val (.int p1), .val (.int (8 : Int32)), .val (.ref w_BUSYOVER), .unset] [(.ref w_BUSYOVER)])
    obtain ⟨T39, X39, e39, st39⟩ := getS2 X38 hx hZ hown (host := "") (Or.inl (hw _ (List.mem_of_getElem? (i := 8) rfl))) Via.refl e38 (S_ROUND.ext O0.2) (g := (mkF m 14 #[.val (.int p1), .val (.int (8 : Int32)), .val (.ref w_BUSYOVER), .unset] [(.ref w_BUSYOVER)])) rfl (hb hby at_14)
    refine Gl.st st39 ?_
    show Gl p e below s _ _ _ T39 (mkF m 17 #[.val (.int p1), .val (.int (8 : Int32)), .val (.ref w_BUSYOVER), .unset] [(.ref w_ROUND), (.ref w_BUSYOVER)])
    refine Gl.st (fun _ kk => Jvm.RoadKit.acmp (g := (mkF m 17 #[.val (.int p1), .val (.int (8 : Int32)), .val (.ref w_BUSYOVER), .unset] [(.ref w_ROUND), (.ref w_BUSYOVER)])) X39 hx rfl rfl rfl (pc0 := 17) (pc' := 20) (same := false) rfl (hb hby at_17) rfl (decide_eq_false fun q => (F_BUSYOVER.ne F_ROUND (by decide)) (Value.ref.inj q)) (by decide) (by decide) kk) ?_
    show Gl p e below s _ _ _ T39 (mkF m 20 #[.val (.int p1), .val (.int (8 : Int32)), .val (.ref w_BUSYOVER), .unset] [])
    refine Gl.st (fun _ kk => XS.aloadN X39.here hx rfl (hb hby at_20) rfl rfl kk) ?_
    show Gl p e below s _ _ _ T39 (mkF m 21 #[.val (.int p1), .val (.int (8 : Int32)), .val (.ref w_BUSYOVER), .unset] [(.ref w_BUSYOVER)])
    obtain ⟨T40, X40, e40, st40⟩ := getS2 X39 hx hZ hown (host := "") (Or.inl (hw _ (List.mem_of_getElem? (i := 10) rfl))) Via.refl e39 (S_LEAST_FREQUENTLY_USED.ext O0.2) (g := (mkF m 21 #[.val (.int p1), .val (.int (8 : Int32)), .val (.ref w_BUSYOVER), .unset] [(.ref w_BUSYOVER)])) rfl (hb hby at_21)
    refine Gl.st st40 ?_
    show Gl p e below s _ _ _ T40 (mkF m 24 #[.val (.int p1), .val (.int (8 : Int32)), .val (.ref w_BUSYOVER), .unset] [(.ref w_LEAST_FREQUENTLY_USED), (.ref w_BUSYOVER)])
    refine Gl.st (fun _ kk => Jvm.RoadKit.acmp (g := (mkF m 24 #[.val (.int p1), .val (.int (8 : Int32)), .val (.ref w_BUSYOVER), .unset] [(.ref w_LEAST_FREQUENTLY_USED), (.ref w_BUSYOVER)])) X40 hx rfl rfl rfl (pc0 := 24) (pc' := 27) (same := false) rfl (hb hby at_24) rfl (decide_eq_false fun q => (F_BUSYOVER.ne F_LEAST_FREQUENTLY_USED (by decide)) (Value.ref.inj q)) (by decide) (by decide) kk) ?_
    show Gl p e below s _ _ _ T40 (mkF m 27 #[.val (.int p1), .val (.int (8 : Int32)), .val (.ref w_BUSYOVER), .unset] [])
    refine Gl.st (fun _ kk => XS.aloadN X40.here hx rfl (hb hby at_27) rfl rfl kk) ?_
    show Gl p e below s _ _ _ T40 (mkF m 28 #[.val (.int p1), .val (.int (8 : Int32)), .val (.ref w_BUSYOVER), .unset] [(.ref w_BUSYOVER)])
    obtain ⟨T41, X41, e41, st41⟩ := getS2 X40 hx hZ hown (host := "") (Or.inl (hw _ (List.mem_of_getElem? (i := 12) rfl))) Via.refl e40 (S_LEAST_RECENTLY_USED.ext O0.2) (g := (mkF m 28 #[.val (.int p1), .val (.int (8 : Int32)), .val (.ref w_BUSYOVER), .unset] [(.ref w_BUSYOVER)])) rfl (hb hby at_28)
    refine Gl.st st41 ?_
    show Gl p e below s _ _ _ T41 (mkF m 31 #[.val (.int p1), .val (.int (8 : Int32)), .val (.ref w_BUSYOVER), .unset] [(.ref w_LEAST_RECENTLY_USED), (.ref w_BUSYOVER)])
    refine Gl.st (fun _ kk => Jvm.RoadKit.acmp (g := (mkF m 31 #[.val (.int p1), .val (.int (8 : Int32)), .val (.ref w_BUSYOVER), .unset] [(.ref w_LEAST_RECENTLY_USED), (.ref w_BUSYOVER)])) X41 hx rfl rfl rfl (pc0 := 31) (pc' := 38) (same := false) rfl (hb hby at_31) rfl (decide_eq_false fun q => (F_BUSYOVER.ne F_LEAST_RECENTLY_USED (by decide)) (Value.ref.inj q)) (by decide) (by decide) kk) ?_
    show Gl p e below s _ _ _ T41 (mkF m 38 #[.val (.int p1), .val (.int (8 : Int32)), .val (.ref w_BUSYOVER), .unset] [])
    refine Gl.st (fun _ kk => XS.iconst X41.here hx rfl (hb hby at_38) kk) ?_
    show Gl p e below s _ _ _ T41 (mkF m 39 #[.val (.int p1), .val (.int (8 : Int32)), .val (.ref w_BUSYOVER), .unset] [(.int (0 : Int32))])
    refine Gl.st (fun _ kk => XS.istoreN X41.here hx rfl (hb hby at_39) rfl (l' := #[.val (.int p1), .val (.int (8 : Int32)), .val (.ref w_BUSYOVER), .val (.int (0 : Int32))]) rfl kk) ?_
    show Gl p e below s _ _ _ T41 (mkF m 40 #[.val (.int p1), .val (.int (8 : Int32)), .val (.ref w_BUSYOVER), .val (.int (0 : Int32))] [])
    refine Gl.st (fun _ kk => XS.aloadN X41.here hx rfl (hb hby at_40) rfl rfl kk) ?_
    show Gl p e below s _ _ _ T41 (mkF m 41 #[.val (.int p1), .val (.int (8 : Int32)), .val (.ref w_BUSYOVER), .val (.int (0 : Int32))] [(.ref w_BUSYOVER)])
    obtain ⟨cq42, kq42, qa42, qb42, qc42⟩ := isOf hZ e41 (E_BUSYOVER.ext O0.2)
    obtain ⟨_, _, ⟨T42, L42, k42, n42⟩, -, X42, ⟨Lc42, hQ42, l42, y42, z42⟩, st42⟩ := X41.virtualBack hx (y := (⟨"com/example/vuoro/vuoro/centre/Route", "countsUses", "()Z"⟩ : MethodName)) (z := (⟨"com/example/vuoro/vuoro/centre/Route", "countsUses", "()Z"⟩ : MethodName)) hown (mvT hZ (hw _ (List.mem_of_getElem? (i := 14) rfl))) (mvT hZ (hw _ (List.mem_of_getElem? (i := 15) rfl))) (notFace_of_selects (args := #[]) (mvT hZ (hw _ (List.mem_of_getElem? (i := 17) rfl)))) (mvT hZ (hw _ (List.mem_of_getElem? (i := 17) rfl))) (mvT hZ (hw _ (List.mem_of_getElem? (i := 16) rfl))) (by decide) (backOf (W := 0) (rm2 l Z a0 hw [] w_BUSYOVER 8 0 h0 n0 O0 E_BUSYOVER F_BUSYOVER (Or.inr (Or.inr (Or.inr (Or.inr (Or.inr (Or.inr (Or.inr (Or.inr (Or.inl ⟨rfl, rfl⟩)))))))))) hZ (hw _ (List.mem_of_getElem? (i := 18) rfl)) (hw _ (List.mem_of_getElem? (i := 6) rfl)) (by decide) (by decide)) qa42 qc42 (g := (mkF m 41 #[.val (.int p1), .val (.int (8 : Int32)), .val (.ref w_BUSYOVER), .val (.int (0 : Int32))] [(.ref w_BUSYOVER)])) rfl (by rw [hml]; rfl) (Steps.refl _) (argsL := []) (rest := []) (lenOf pd_rm0_1 rfl) rfl (by show 2 * 0 + _ ≤ _; exact Nat.le_of_eq rfl) (hb hby at_41) (fun _ _ => ⟨rfl, e41, (by decide : 0 + 0 ≤ _), (by decide : 0 + 0 ≤ _)⟩)
    dsimp only [Pt.U, Pt.locs, Pt.cells, Pt.slots] at X42 l42 y42 z42 st42 hQ42
    subst l42 y42 z42
    obtain ⟨rfl, Nq42, e42⟩ := hQ42
    have N42 := Fr.app N38 Nq42
    refine Gl.st (fun _ kk => st42.trans kk) ?_
    show Gl p e below s _ _ _ T42 (mkF m 44 #[.val (.int p1), .val (.int (8 : Int32)), .val (.ref w_BUSYOVER), .val (.int (0 : Int32))] [(.int (0 : Int32))])
    refine Gl.st (fun _ kk => XS.iloadN X42.here hx rfl (hb hby at_44) rfl kk) ?_
    show Gl p e below s _ _ _ T42 (mkF m 45 #[.val (.int p1), .val (.int (8 : Int32)), .val (.ref w_BUSYOVER), .val (.int (0 : Int32))] [(.int (0 : Int32)), (.int (0 : Int32))])
    refine Gl.st (fun _ kk => XS.icmpNo X42.here hx rfl (hb hby at_45) rfl (teq (by decide : (0 : Int32) = (0 : Int32))).2 kk) ?_
    show Gl p e below s _ _ _ T42 (mkF m 48 #[.val (.int p1), .val (.int (8 : Int32)), .val (.ref w_BUSYOVER), .val (.int (0 : Int32))] [])
    refine Gl.st (fun _ kk => XS.iconst X42.here hx rfl (hb hby at_48) kk) ?_
    show Gl p e below s _ _ _ T42 (mkF m 49 #[.val (.int p1), .val (.int (8 : Int32)), .val (.ref w_BUSYOVER), .val (.int (0 : Int32))] [(.int (1 : Int32))])
    refine Gl.st (fun _ kk => XS.goto X42.here hx rfl (pc0 := 49) (pc' := 53) rfl (hb hby at_49) (by decide) (by decide) kk) ?_
    show Gl p e below s _ _ _ T42 (mkF m 53 #[.val (.int p1), .val (.int (8 : Int32)), .val (.ref w_BUSYOVER), .val (.int (0 : Int32))] [(.int (1 : Int32))])
    exact Gl.ret X42 (v := (some (.int (1 : Int32)))) (fun h => by rw [Bd.returns] at h; cases h) (BodyLoose.notSynchronized Bd) (fun hr => retN X42 hx (t := .boolean) Bd.returns (by simp) (hb hby at_53) hr) e42 ⟨rfl, N42⟩ (by decide) (by decide)
  · rw [hk]
    show Gl p e below s _ _ _ s₁ (mkF m 8 #[.val (.int p1), .val (.int (9 : Int32)), .unset, .unset] [])
    refine Gl.st (fun _ kk => XS.iloadN X0.here hx rfl (hb hby at_8) rfl kk) ?_
    show Gl p e below s _ _ _ s₁ (mkF m 9 #[.val (.int p1), .val (.int (9 : Int32)), .unset, .unset] [(.int (9 : Int32))])
    obtain ⟨_, _, ⟨T43, L43, k43, n43⟩, -, X43, ⟨Lc43, hQ43, l43, y43, z43⟩, st43⟩ := Jvm.LawKit.callS X0 hx (y := (⟨"com/example/vuoro/vuoro/centre/RouteCountsUsesPinLaw", "pick", "(I)Lcom/example/vuoro/vuoro/centre/Route;"⟩ : MethodName)) hown (mvT hZ (hw _ (List.mem_of_getElem? (i := 1) rfl))) (mvT hZ (hw _ (List.mem_of_getElem? (i := 2) rfl))) (mvT hZ (hw _ (List.mem_of_getElem? (i := 3) rfl))) (mvT hZ (hw _ (List.mem_of_getElem? (i := 4) rfl))) (by decide) (backOf (W := 0) (rm1 l Z a0 hw [] 9 w_FIRST w_LAST w_ROUND w_RANDOM w_CONSISTENT_HASH w_LEAST_FREQUENTLY_USED w_LEAST_RECENTLY_USED w_FAILOVER w_BUSYOVER w_SHARDING_BROADCAST w_SHARDING_BROADCAST h0 n0 O0 S_FIRST S_LAST S_ROUND S_RANDOM S_CONSISTENT_HASH S_LEAST_FREQUENTLY_USED S_LEAST_RECENTLY_USED S_FAILOVER S_BUSYOVER S_SHARDING_BROADCAST (Or.inr (Or.inr (Or.inr (Or.inr (Or.inr (Or.inr (Or.inr (Or.inr (Or.inr (⟨rfl, rfl⟩))))))))))) hZ (hw _ (List.mem_of_getElem? (i := 4) rfl)) (hw _ (List.mem_of_getElem? (i := 3) rfl)) (by decide) (by decide)) (g := (mkF m 9 #[.val (.int p1), .val (.int (9 : Int32)), .unset, .unset] [(.int (9 : Int32))])) rfl (by rw [hml]; rfl) (argsL := [(.int (9 : Int32))]) (rest := []) (lenOf pd_rm0_0 rfl) rfl (by show 2 * 0 + _ ≤ _; exact Nat.le_of_eq rfl) (hb hby at_9) (fun _ _ => ⟨rfl, e0, (by decide : 0 + 0 ≤ _), (by decide : 0 + 0 ≤ _)⟩)
    dsimp only [Pt.U, Pt.locs, Pt.cells, Pt.slots] at X43 l43 y43 z43 st43 hQ43
    subst l43 y43 z43
    obtain ⟨rfl, Nq43, e43⟩ := hQ43
    have N43 := Fr.app N0 Nq43
    refine Gl.st st43 ?_
    show Gl p e below s _ _ _ T43 (mkF m 12 #[.val (.int p1), .val (.int (9 : Int32)), .unset, .unset] [(.ref w_SHARDING_BROADCAST)])
    refine Gl.st (fun _ kk => XS.astoreN X43.here hx rfl (hb hby at_12) rfl rfl (l' := #[.val (.int p1), .val (.int (9 : Int32)), .val (.ref w_SHARDING_BROADCAST), .unset]) rfl kk) ?_
    show Gl p e below s _ _ _ T43 (mkF m 13 #[.val (.int p1), .val (.int (9 : Int32)), .val (.ref w_SHARDING_BROADCAST), .unset] [])
    refine Gl.st (fun _ kk => XS.aloadN X43.here hx rfl (hb hby at_13) rfl rfl kk) ?_
    show Gl p e below s _ _ _ T43 (mkF m 14 #[.val (.int p1), .val (.int (9 : Int32)), .val (.ref w_SHARDING_BROADCAST), .unset] [(.ref w_SHARDING_BROADCAST)])
    obtain ⟨T44, X44, e44, st44⟩ := getS2 X43 hx hZ hown (host := "") (Or.inl (hw _ (List.mem_of_getElem? (i := 8) rfl))) Via.refl e43 (S_ROUND.ext O0.2) (g := (mkF m 14 #[.val (.int p1), .val (.int (9 : Int32)), .val (.ref w_SHARDING_BROADCAST), .unset] [(.ref w_SHARDING_BROADCAST)])) rfl (hb hby at_14)
    refine Gl.st st44 ?_
    show Gl p e below s _ _ _ T44 (mkF m 17 #[.val (.int p1), .val (.int (9 : Int32)), .val (.ref w_SHARDING_BROADCAST), .unset] [(.ref w_ROUND), (.ref w_SHARDING_BROADCAST)])
    refine Gl.st (fun _ kk => Jvm.RoadKit.acmp (g := (mkF m 17 #[.val (.int p1), .val (.int (9 : Int32)), .val (.ref w_SHARDING_BROADCAST), .unset] [(.ref w_ROUND), (.ref w_SHARDING_BROADCAST)])) X44 hx rfl rfl rfl (pc0 := 17) (pc' := 20) (same := false) rfl (hb hby at_17) rfl (decide_eq_false fun q => (F_SHARDING_BROADCAST.ne F_ROUND (by decide)) (Value.ref.inj q)) (by decide) (by decide) kk) ?_
    show Gl p e below s _ _ _ T44 (mkF m 20 #[.val (.int p1), .val (.int (9 : Int32)), .val (.ref w_SHARDING_BROADCAST), .unset] [])
    refine Gl.st (fun _ kk => XS.aloadN X44.here hx rfl (hb hby at_20) rfl rfl kk) ?_
    show Gl p e below s _ _ _ T44 (mkF m 21 #[.val (.int p1), .val (.int (9 : Int32)), .val (.ref w_SHARDING_BROADCAST), .unset] [(.ref w_SHARDING_BROADCAST)])
    obtain ⟨T45, X45, e45, st45⟩ := getS2 X44 hx hZ hown (host := "") (Or.inl (hw _ (List.mem_of_getElem? (i := 10) rfl))) Via.refl e44 (S_LEAST_FREQUENTLY_USED.ext O0.2) (g := (mkF m 21 #[.val (.int p1), .val (.int (9 : Int32)), .val (.ref w_SHARDING_BROADCAST), .unset] [(.ref w_SHARDING_BROADCAST)])) rfl (hb hby at_21)
    refine Gl.st st45 ?_
    show Gl p e below s _ _ _ T45 (mkF m 24 #[.val (.int p1), .val (.int (9 : Int32)), .val (.ref w_SHARDING_BROADCAST), .unset] [(.ref w_LEAST_FREQUENTLY_USED), (.ref w_SHARDING_BROADCAST)])
    refine Gl.st (fun _ kk => Jvm.RoadKit.acmp (g := (mkF m 24 #[.val (.int p1), .val (.int (9 : Int32)), .val (.ref w_SHARDING_BROADCAST), .unset] [(.ref w_LEAST_FREQUENTLY_USED), (.ref w_SHARDING_BROADCAST)])) X45 hx rfl rfl rfl (pc0 := 24) (pc' := 27) (same := false) rfl (hb hby at_24) rfl (decide_eq_false fun q => (F_SHARDING_BROADCAST.ne F_LEAST_FREQUENTLY_USED (by decide)) (Value.ref.inj q)) (by decide) (by decide) kk) ?_
    show Gl p e below s _ _ _ T45 (mkF m 27 #[.val (.int p1), .val (.int (9 : Int32)), .val (.ref w_SHARDING_BROADCAST), .unset] [])
    refine Gl.st (fun _ kk => XS.aloadN X45.here hx rfl (hb hby at_27) rfl rfl kk) ?_
    show Gl p e below s _ _ _ T45 (mkF m 28 #[.val (.int p1), .val (.int (9 : Int32)), .val (.ref w_SHARDING_BROADCAST), .unset] [(.ref w_SHARDING_BROADCAST)])
    obtain ⟨T46, X46, e46, st46⟩ := getS2 X45 hx hZ hown (host := "") (Or.inl (hw _ (List.mem_of_getElem? (i := 12) rfl))) Via.refl e45 (S_LEAST_RECENTLY_USED.ext O0.2) (g := (mkF m 28 #[.val (.int p1), .val (.int (9 : Int32)), .val (.ref w_SHARDING_BROADCAST), .unset] [(.ref w_SHARDING_BROADCAST)])) rfl (hb hby at_28)
    refine Gl.st st46 ?_
    show Gl p e below s _ _ _ T46 (mkF m 31 #[.val (.int p1), .val (.int (9 : Int32)), .val (.ref w_SHARDING_BROADCAST), .unset] [(.ref w_LEAST_RECENTLY_USED), (.ref w_SHARDING_BROADCAST)])
    refine Gl.st (fun _ kk => Jvm.RoadKit.acmp (g := (mkF m 31 #[.val (.int p1), .val (.int (9 : Int32)), .val (.ref w_SHARDING_BROADCAST), .unset] [(.ref w_LEAST_RECENTLY_USED), (.ref w_SHARDING_BROADCAST)])) X46 hx rfl rfl rfl (pc0 := 31) (pc' := 38) (same := false) rfl (hb hby at_31) rfl (decide_eq_false fun q => (F_SHARDING_BROADCAST.ne F_LEAST_RECENTLY_USED (by decide)) (Value.ref.inj q)) (by decide) (by decide) kk) ?_
    show Gl p e below s _ _ _ T46 (mkF m 38 #[.val (.int p1), .val (.int (9 : Int32)), .val (.ref w_SHARDING_BROADCAST), .unset] [])
    refine Gl.st (fun _ kk => XS.iconst X46.here hx rfl (hb hby at_38) kk) ?_
    show Gl p e below s _ _ _ T46 (mkF m 39 #[.val (.int p1), .val (.int (9 : Int32)), .val (.ref w_SHARDING_BROADCAST), .unset] [(.int (0 : Int32))])
    refine Gl.st (fun _ kk => XS.istoreN X46.here hx rfl (hb hby at_39) rfl (l' := #[.val (.int p1), .val (.int (9 : Int32)), .val (.ref w_SHARDING_BROADCAST), .val (.int (0 : Int32))]) rfl kk) ?_
    show Gl p e below s _ _ _ T46 (mkF m 40 #[.val (.int p1), .val (.int (9 : Int32)), .val (.ref w_SHARDING_BROADCAST), .val (.int (0 : Int32))] [])
    refine Gl.st (fun _ kk => XS.aloadN X46.here hx rfl (hb hby at_40) rfl rfl kk) ?_
    show Gl p e below s _ _ _ T46 (mkF m 41 #[.val (.int p1), .val (.int (9 : Int32)), .val (.ref w_SHARDING_BROADCAST), .val (.int (0 : Int32))] [(.ref w_SHARDING_BROADCAST)])
    obtain ⟨cq47, kq47, qa47, qb47, qc47⟩ := isOf hZ e46 (E_SHARDING_BROADCAST.ext O0.2)
    obtain ⟨_, _, ⟨T47, L47, k47, n47⟩, -, X47, ⟨Lc47, hQ47, l47, y47, z47⟩, st47⟩ := X46.virtualBack hx (y := (⟨"com/example/vuoro/vuoro/centre/Route", "countsUses", "()Z"⟩ : MethodName)) (z := (⟨"com/example/vuoro/vuoro/centre/Route", "countsUses", "()Z"⟩ : MethodName)) hown (mvT hZ (hw _ (List.mem_of_getElem? (i := 14) rfl))) (mvT hZ (hw _ (List.mem_of_getElem? (i := 15) rfl))) (notFace_of_selects (args := #[]) (mvT hZ (hw _ (List.mem_of_getElem? (i := 17) rfl)))) (mvT hZ (hw _ (List.mem_of_getElem? (i := 17) rfl))) (mvT hZ (hw _ (List.mem_of_getElem? (i := 16) rfl))) (by decide) (backOf (W := 0) (rm2 l Z a0 hw [] w_SHARDING_BROADCAST 9 0 h0 n0 O0 E_SHARDING_BROADCAST F_SHARDING_BROADCAST (Or.inr (Or.inr (Or.inr (Or.inr (Or.inr (Or.inr (Or.inr (Or.inr (Or.inr (⟨rfl, rfl⟩))))))))))) hZ (hw _ (List.mem_of_getElem? (i := 18) rfl)) (hw _ (List.mem_of_getElem? (i := 6) rfl)) (by decide) (by decide)) qa47 qc47 (g := (mkF m 41 #[.val (.int p1), .val (.int (9 : Int32)), .val (.ref w_SHARDING_BROADCAST), .val (.int (0 : Int32))] [(.ref w_SHARDING_BROADCAST)])) rfl (by rw [hml]; rfl) (Steps.refl _) (argsL := []) (rest := []) (lenOf pd_rm0_1 rfl) rfl (by show 2 * 0 + _ ≤ _; exact Nat.le_of_eq rfl) (hb hby at_41) (fun _ _ => ⟨rfl, e46, (by decide : 0 + 0 ≤ _), (by decide : 0 + 0 ≤ _)⟩)
    dsimp only [Pt.U, Pt.locs, Pt.cells, Pt.slots] at X47 l47 y47 z47 st47 hQ47
    subst l47 y47 z47
    obtain ⟨rfl, Nq47, e47⟩ := hQ47
    have N47 := Fr.app N43 Nq47
    refine Gl.st (fun _ kk => st47.trans kk) ?_
    show Gl p e below s _ _ _ T47 (mkF m 44 #[.val (.int p1), .val (.int (9 : Int32)), .val (.ref w_SHARDING_BROADCAST), .val (.int (0 : Int32))] [(.int (0 : Int32))])
    refine Gl.st (fun _ kk => XS.iloadN X47.here hx rfl (hb hby at_44) rfl kk) ?_
    show Gl p e below s _ _ _ T47 (mkF m 45 #[.val (.int p1), .val (.int (9 : Int32)), .val (.ref w_SHARDING_BROADCAST), .val (.int (0 : Int32))] [(.int (0 : Int32)), (.int (0 : Int32))])
    refine Gl.st (fun _ kk => XS.icmpNo X47.here hx rfl (hb hby at_45) rfl (teq (by decide : (0 : Int32) = (0 : Int32))).2 kk) ?_
    show Gl p e below s _ _ _ T47 (mkF m 48 #[.val (.int p1), .val (.int (9 : Int32)), .val (.ref w_SHARDING_BROADCAST), .val (.int (0 : Int32))] [])
    refine Gl.st (fun _ kk => XS.iconst X47.here hx rfl (hb hby at_48) kk) ?_
    show Gl p e below s _ _ _ T47 (mkF m 49 #[.val (.int p1), .val (.int (9 : Int32)), .val (.ref w_SHARDING_BROADCAST), .val (.int (0 : Int32))] [(.int (1 : Int32))])
    refine Gl.st (fun _ kk => XS.goto X47.here hx rfl (pc0 := 49) (pc' := 53) rfl (hb hby at_49) (by decide) (by decide) kk) ?_
    show Gl p e below s _ _ _ T47 (mkF m 53 #[.val (.int p1), .val (.int (9 : Int32)), .val (.ref w_SHARDING_BROADCAST), .val (.int (0 : Int32))] [(.int (1 : Int32))])
    exact Gl.ret X47 (v := (some (.int (1 : Int32)))) (fun h => by rw [Bd.returns] at h; cases h) (BodyLoose.notSynchronized Bd) (fun hr => retN X47 hx (t := .boolean) Bd.returns (by simp) (hb hby at_53) hr) e47 ⟨rfl, N47⟩ (by decide) (by decide)
set_option maxRecDepth 65536 in
set_option maxHeartbeats 40000000 in
theorem comes_1 {Post : Tables → Env → Array Value → State → Outcome → State → Prop} (hpost : ∀ tb e args s v u, (limb_1_1.after args s (.returned v) u = true ∧ limb_1_2.after args s (.returned v) u = true ∧ True) → FrameEnd s (.returned v) u (Jvm.fieldLocs frame_1_writes args s ++ Jvm.arrayLocs frame_1_arrays args s ++ Jvm.staticLocs frame_1_statics s) 0 0 → Post tb e args s (.returned v) u) :
    ArmFor flags0 classFile x code maxLocals ret World_1 tables_1 room_1 Calls_1 rest_1 Pre_1 Post := by
  intro l hfl _ _ p e ha hc hk s m args below hf hA hF happ hP
  obtain ⟨hcalls, hrest, hpre⟩ := hP
  obtain ⟨-, -, -, hnamed, -, -, -, hat⟩ := (Spec.applies_iff hf).mp happ
  obtain ⟨hg, hn⟩ := and_e (Cond.before_iff.mp (show (Jvm.Cond.and given_1 narrow_1).before args s = true from hpre))
  obtain ⟨g1a, g1b⟩ := and_e hg
  obtain ⟨w0, rfl⟩ : ∃ w0 : Value, args = #[w0] := by
    have hs : args.size = 1 := by simpa [Cond.value, given_1] using g1a
    obtain ⟨L⟩ := args
    match L, hs with
    | [w0], _ => exact ⟨w0, rfl⟩
  have hw := fun d (hd : d ∈ tables_1) => atoms_spec (ws := Jvm.Cond.code x code maxLocals ret :: tables_1) hat d (List.mem_cons_of_mem _ hd)
  have hfit : Fit s := fun {y c} hc i hi => by
    obtain ⟨ha, rfl⟩ := Array.getElem?_eq_some_iff.mp hc
    have q := List.all_eq_true.mp ((Array.all_eq_true_iff_forall_mem.mp hF) _ (Array.getElem_mem ha)) i (List.mem_range.mpr hi)
    simpa [Array.getElem?_eq_getElem hi] using q
  obtain ⟨i0, ei0⟩ := is_v g1b
  obtain rfl : w0 = (.int i0) := Option.some.inj ei0
  obtain ⟨g2a, g2b⟩ := and_e hn
  obtain ⟨g3a, g3b⟩ := and_e g2b
  obtain ⟨g4a, g4b⟩ := and_e g3b
  obtain ⟨g5a, g5b⟩ := and_e g4b
  obtain ⟨g6a, g6b⟩ := and_e g5b
  obtain ⟨g7a, g7b⟩ := and_e g6b
  obtain ⟨g8a, g8b⟩ := and_e g7b
  obtain ⟨g9a, g9b⟩ := and_e g8b
  obtain ⟨g10a, g10b⟩ := and_e g9b
  obtain ⟨g11a, g11b⟩ := and_e g10b
  obtain ⟨g12a, g12b⟩ := and_e g11b
  obtain ⟨g13a, g13b⟩ := and_e g12b
  obtain ⟨g14a, g14b⟩ := and_e g13b
  obtain ⟨g15a, g15b⟩ := and_e g14b
  obtain ⟨g16a, g16b⟩ := and_e g15b
  obtain ⟨g17a, g17b⟩ := and_e g16b
  obtain ⟨g18a, g18b⟩ := and_e g17b
  obtain ⟨g19a, g19b⟩ := and_e g18b
  obtain ⟨g20a, g20b⟩ := and_e g19b
  obtain ⟨w_FIRST, ev_FIRST⟩ := exa_v g2a
  have E_FIRST := Exa.start ev_FIRST g2a
  have S_FIRST := Sta.start ev_FIRST (Or.inr ⟨(hw _ (List.mem_of_getElem? (i := 6) rfl)), (hw _ (List.mem_of_getElem? (i := 7) rfl))⟩)
  obtain ⟨w_ROUND, ev_ROUND⟩ := exa_v g3a
  have E_ROUND := Exa.start ev_ROUND g3a
  have S_ROUND := Sta.start ev_ROUND (Or.inr ⟨(hw _ (List.mem_of_getElem? (i := 6) rfl)), (hw _ (List.mem_of_getElem? (i := 9) rfl))⟩)
  obtain ⟨w_LEAST_FREQUENTLY_USED, ev_LEAST_FREQUENTLY_USED⟩ := exa_v g6a
  have E_LEAST_FREQUENTLY_USED := Exa.start ev_LEAST_FREQUENTLY_USED g6a
  have S_LEAST_FREQUENTLY_USED := Sta.start ev_LEAST_FREQUENTLY_USED (Or.inr ⟨(hw _ (List.mem_of_getElem? (i := 6) rfl)), (hw _ (List.mem_of_getElem? (i := 11) rfl))⟩)
  obtain ⟨w_LEAST_RECENTLY_USED, ev_LEAST_RECENTLY_USED⟩ := exa_v g8a
  have E_LEAST_RECENTLY_USED := Exa.start ev_LEAST_RECENTLY_USED g8a
  have S_LEAST_RECENTLY_USED := Sta.start ev_LEAST_RECENTLY_USED (Or.inr ⟨(hw _ (List.mem_of_getElem? (i := 6) rfl)), (hw _ (List.mem_of_getElem? (i := 13) rfl))⟩)
  obtain ⟨w_RANDOM, ev_RANDOM⟩ := exa_v g10a
  have E_RANDOM := Exa.start ev_RANDOM g10a
  have S_RANDOM := Sta.start ev_RANDOM (Or.inr ⟨(hw _ (List.mem_of_getElem? (i := 6) rfl)), (hw _ (List.mem_of_getElem? (i := 29) rfl))⟩)
  obtain ⟨w_LAST, ev_LAST⟩ := exa_v g12a
  have E_LAST := Exa.start ev_LAST g12a
  have S_LAST := Sta.start ev_LAST (Or.inr ⟨(hw _ (List.mem_of_getElem? (i := 6) rfl)), (hw _ (List.mem_of_getElem? (i := 31) rfl))⟩)
  obtain ⟨w_CONSISTENT_HASH, ev_CONSISTENT_HASH⟩ := exa_v g14a
  have E_CONSISTENT_HASH := Exa.start ev_CONSISTENT_HASH g14a
  have S_CONSISTENT_HASH := Sta.start ev_CONSISTENT_HASH (Or.inr ⟨(hw _ (List.mem_of_getElem? (i := 6) rfl)), (hw _ (List.mem_of_getElem? (i := 33) rfl))⟩)
  obtain ⟨w_FAILOVER, ev_FAILOVER⟩ := exa_v g16a
  have E_FAILOVER := Exa.start ev_FAILOVER g16a
  have S_FAILOVER := Sta.start ev_FAILOVER (Or.inr ⟨(hw _ (List.mem_of_getElem? (i := 6) rfl)), (hw _ (List.mem_of_getElem? (i := 35) rfl))⟩)
  obtain ⟨w_BUSYOVER, ev_BUSYOVER⟩ := exa_v g18a
  have E_BUSYOVER := Exa.start ev_BUSYOVER g18a
  have S_BUSYOVER := Sta.start ev_BUSYOVER (Or.inr ⟨(hw _ (List.mem_of_getElem? (i := 6) rfl)), (hw _ (List.mem_of_getElem? (i := 37) rfl))⟩)
  obtain ⟨w_SHARDING_BROADCAST, ev_SHARDING_BROADCAST⟩ := exa_v g20a
  have E_SHARDING_BROADCAST := Exa.start ev_SHARDING_BROADCAST g20a
  have S_SHARDING_BROADCAST := Sta.start ev_SHARDING_BROADCAST (Or.inr ⟨(hw _ (List.mem_of_getElem? (i := 6) rfl)), (hw _ (List.mem_of_getElem? (i := 39) rfl))⟩)
  have F_FIRST := Fld.start ((fld_at ev_FIRST).symm.trans (own_eqint g4a))
  have F_ROUND := Fld.start ((fld_at ev_ROUND).symm.trans (own_eqint g5a))
  have F_LEAST_FREQUENTLY_USED := Fld.start ((fld_at ev_LEAST_FREQUENTLY_USED).symm.trans (own_eqint g7a))
  have F_LEAST_RECENTLY_USED := Fld.start ((fld_at ev_LEAST_RECENTLY_USED).symm.trans (own_eqint g9a))
  have F_RANDOM := Fld.start ((fld_at ev_RANDOM).symm.trans (own_eqint g11a))
  have F_LAST := Fld.start ((fld_at ev_LAST).symm.trans (own_eqint g13a))
  have F_CONSISTENT_HASH := Fld.start ((fld_at ev_CONSISTENT_HASH).symm.trans (own_eqint g15a))
  have F_FAILOVER := Fld.start ((fld_at ev_FAILOVER).symm.trans (own_eqint g17a))
  have F_BUSYOVER := Fld.start ((fld_at ev_BUSYOVER).symm.trans (own_eqint g19a))
  have F_SHARDING_BROADCAST := Fld.start ((fld_at ev_SHARDING_BROADCAST).symm.trans (own_eqint g20b))
  obtain ⟨n, o, h1, h2, h3, _, L, rfl, ⟨rfl, N⟩, hq⟩ := rm0 l s _ hw tables_1 i0 w_FIRST w_LAST w_ROUND w_RANDOM w_CONSISTENT_HASH w_LEAST_FREQUENTLY_USED w_LEAST_RECENTLY_USED w_FAILOVER w_BUSYOVER w_SHARDING_BROADCAST s.heap s.heap.size (Old.start s) S_FIRST S_LAST S_ROUND S_RANDOM S_CONSISTENT_HASH S_LEAST_FREQUENTLY_USED S_LEAST_RECENTLY_USED S_FAILOVER S_BUSYOVER S_SHARDING_BROADCAST E_FIRST E_LAST E_ROUND E_RANDOM E_CONSISTENT_HASH E_LEAST_FREQUENTLY_USED E_LEAST_RECENTLY_USED E_FAILOVER E_BUSYOVER E_SHARDING_BROADCAST F_FIRST F_LAST F_ROUND F_RANDOM F_CONSISTENT_HASH F_LEAST_FREQUENTLY_USED F_LEAST_RECENTLY_USED F_FAILOVER F_BUSYOVER F_SHARDING_BROADCAST p e ha hc hk s m _ below hf ((Spec.applies_iff_loose hf).mp happ).1 ⟨rfl, State.Warmed39.refl s, rfl⟩ trivial
  refine ⟨n, _, h1, h2, h3, hpost _ _ _ _ _ _ ⟨Cond.after_iff.mpr rfl, Cond.after_iff.mpr (eq_i res_at (Term.int_eval (1)) rfl), trivial⟩ ⟨hq.1, hq.2.1, (hq.2.2.sift fun y hy => Or.inr (N y hy)).mono (by decide) (by decide)⟩⟩
theorem main_1_1 : Claimed_1_1 := comes_1 fun _ _ _ _ _ _ h hF => ⟨h.1, hF⟩
theorem main_1_2 : Claimed_1_2 := comes_1 fun _ _ _ _ _ _ h hF => ⟨h.2.1, hF⟩
end Jvm.Pilot.@@N@@
namespace Jvm.Pilot.@@N@@
open Jvm Jvm.ClassFile Sem Op Lib Jvm.Free Jvm.Stand Jvm.Pilot.@@N@@.Jvm.D
/-! MADE BY PROGRAM (witnessworld.py) out of the Statement's table words and the real class files: 12 classes; the members and pool entries that the words name. The judged class is class 1, her method 2. -/
namespace start1
open Jvm.ClassFile
def u (s : String) : CpInfo := .utf8 (stringToUtf16 s)
/-- a pool by its gaps: so many unusable entries, then the entry; so many at the end -/
def gap : Nat → List CpInfo → List CpInfo
  | 0, r => r
  | n + 1, r => .unusable :: gap n r
def poolList (es : List (Nat × CpInfo)) (last : Nat) : List CpInfo := es.foldr (fun e r => gap e.1 (e.2 :: r)) (gap last [])
def pool (es : List (Nat × CpInfo)) (last : Nat) : Array CpInfo := ⟨poolList es last⟩
def fileOf (pool : Array CpInfo) (this : Nat) (attrs : Array Attribute := #[]) (ms : Array MethodInfo := #[]) (fl : Nat := 33) (sup : Nat := 0) (ifs : Array Nat := #[]) (fds : Array FieldInfo := #[]) : ClassFile where
  minorVersion := 0
  majorVersion := 65
  constantPool := pool
  accessFlags := fl
  thisClass := this
  superClass := sup
  interfaces := ifs
  fields := fds
  methods := ms
  attributes := attrs
def plain (name : String) (sup : Option ClassId) : Class where
  name := name
  kind := .ordinary
  loader := none
  accessFlags := 33
  super := sup
  interfaces := #[]
  cf := none
  fields := #[]
  methods := #[]
  instanceTypes := #[]
  staticTypes := #[]
  resolved := #[]
  callSites := []
  init := .initialized
  statics := none
  mirror := none

def pool0 : Array CpInfo := pool [(5, u "<init>"), (0, u "()V"), (1, .class_ 10), (1, u "java/lang/Object")] 113

def k0m0 : Method := { name := "<init>", desc := "()V", sig := { parameters := [], returnType := none }, accessFlags := 1, code := none }
/-- java/lang/Object -/
def k0 : Class := { plain "java/lang/Object" none with
  accessFlags := 33
  interfaces := #[]
  cf := some (fileOf pool0 8 #[] #[{ accessFlags := 1, nameIndex := 5, descriptorIndex := 6, attributes := #[] }] 33 0 #[] #[])
  fields := #[]
  methods := #[k0m0]
  instanceTypes := #[]
  staticTypes := #[]
  resolved := Array.replicate 124 none
  statics := none }

def pool1 : Array CpInfo := pool [(2, .class_ 4), (1, u "java/lang/Object"), (0, u "<init>"), (0, u "()V"), (0, .fieldref 8 9), (0, .class_ 10), (0, .nameAndType 11 12), (0, u "com/example/vuoro/vuoro/centre/Route"), (0, u "FIRST"), (0, u "Lcom/example/vuoro/vuoro/centre/Route;"), (0, .fieldref 8 14), (0, .nameAndType 15 12), (0, u "LAST"), (0, .fieldref 8 17), (0, .nameAndType 18 12), (0, u "ROUND"), (0, .fieldref 8 20), (0, .nameAndType 21 12), (0, u "RANDOM"), (0, .fieldref 8 23), (0, .nameAndType 24 12), (0, u "CONSISTENT_HASH"), (0, .fieldref 8 26), (0, .nameAndType 27 12), (0, u "LEAST_FREQUENTLY_USED"), (0, .fieldref 8 29), (0, .nameAndType 30 12), (0, u "LEAST_RECENTLY_USED"), (0, .fieldref 8 32), (0, .nameAndType 33 12), (0, u "FAILOVER"), (0, .fieldref 8 35), (0, .nameAndType 36 12), (0, u "BUSYOVER"), (0, .fieldref 8 38), (0, .nameAndType 39 12), (0, u "SHARDING_BROADCAST"), (0, .integer 2147483647), (0, .methodref 42 43), (0, .class_ 44), (0, .nameAndType 45 46), (0, u "com/example/vuoro/vuoro/centre/RouteCountsUsesPinLaw"), (0, u "pick"), (0, u "(I)Lcom/example/vuoro/vuoro/centre/Route;"), (0, .methodref 8 48), (0, .nameAndType 49 50), (0, u "countsUses"), (0, u "()Z"), (3, u "law"), (0, u "(I)Z")] 2

def k1m0 : Method := { name := "<init>", desc := "()V", sig := { parameters := [], returnType := none }, accessFlags := 1, code := none }
def k1c1 : Code := { maxStack := 2, maxLocals := 1, code := method_2_code, exceptionTable := #[], attributes := #[] }
def k1m1 : Method := { name := "pick", desc := "(I)Lcom/example/vuoro/vuoro/centre/Route;", sig := { parameters := [.int], returnType := some (.object "com/example/vuoro/vuoro/centre/Route") }, accessFlags := 10, code := some k1c1 }
def k1c2 : Code := { maxStack := 2, maxLocals := 4, code := code, exceptionTable := #[], attributes := #[] }
def k1m2 : Method := { name := "law", desc := "(I)Z", sig := { parameters := [.int], returnType := some .boolean }, accessFlags := 9, code := some k1c2 }
/-- com/example/vuoro/vuoro/centre/RouteCountsUsesPinLaw -/
def k1 : Class := { plain "com/example/vuoro/vuoro/centre/RouteCountsUsesPinLaw" (some 0) with
  accessFlags := 49
  interfaces := #[]
  cf := some (fileOf pool1 42 #[] #[{ accessFlags := 1, nameIndex := 5, descriptorIndex := 6, attributes := #[] }, { accessFlags := 10, nameIndex := 45, descriptorIndex := 46, attributes := #[] }, { accessFlags := 9, nameIndex := 54, descriptorIndex := 55, attributes := #[] }] 49 2 #[] #[])
  fields := #[]
  methods := #[k1m0, k1m1, k1m2]
  instanceTypes := #[]
  staticTypes := #[]
  resolved := Array.replicate 58 none
  statics := none }

def pool2 : Array CpInfo := pool [(1, .class_ 2), (0, u "java/lang/constant/Constable"), (0, .class_ 4), (0, u "java/lang/Object")] 6

/-- java/lang/constant/Constable -/
def k2 : Class := { plain "java/lang/constant/Constable" (some 0) with
  accessFlags := 1537
  interfaces := #[]
  cf := some (fileOf pool2 1 #[] #[] 1537 3 #[] #[])
  fields := #[]
  methods := #[]
  instanceTypes := #[]
  staticTypes := #[]
  resolved := Array.replicate 11 none
  statics := none }

def pool3 : Array CpInfo := pool [(1, .class_ 2), (0, u "java/lang/Comparable"), (0, .class_ 4), (0, u "java/lang/Object")] 7

/-- java/lang/Comparable -/
def k3 : Class := { plain "java/lang/Comparable" (some 0) with
  accessFlags := 1537
  interfaces := #[]
  cf := some (fileOf pool3 1 #[] #[] 1537 3 #[] #[])
  fields := #[]
  methods := #[]
  instanceTypes := #[]
  staticTypes := #[]
  resolved := Array.replicate 12 none
  statics := none }

def pool4 : Array CpInfo := pool [(1, .class_ 2), (0, u "java/io/Serializable"), (0, .class_ 4), (0, u "java/lang/Object")] 2

/-- java/io/Serializable -/
def k4 : Class := { plain "java/io/Serializable" (some 0) with
  accessFlags := 1537
  interfaces := #[]
  cf := some (fileOf pool4 1 #[] #[] 1537 3 #[] #[])
  fields := #[]
  methods := #[]
  instanceTypes := #[]
  staticTypes := #[]
  resolved := Array.replicate 7 none
  statics := none }

def pool5 : Array CpInfo := pool [(2, .class_ 4), (1, u "java/lang/Enum"), (0, u "name"), (0, u "Ljava/lang/String;"), (0, .fieldref 2 8), (0, .nameAndType 9 10), (0, u "ordinal"), (0, u "I"), (1, .class_ 14), (1, u "java/lang/Object"), (4, u "hash"), (86, .class_ 108), (1, u "java/lang/Enum$EnumDesc"), (2, .class_ 112), (0, u "java/lang/constant/Constable"), (0, .class_ 114), (0, u "java/lang/Comparable"), (0, .class_ 116), (0, u "java/io/Serializable"), (9, u "()I")] 77

def k5c0 : Code := { maxStack := 1, maxLocals := 1, code := jdk_37_method_2_code, exceptionTable := #[], attributes := #[] }
def k5m0 : Method := { name := "ordinal", desc := "()I", sig := { parameters := [], returnType := some .int }, accessFlags := 17, code := some k5c0 }
/-- java/lang/Enum -/
def k5 : Class := { plain "java/lang/Enum" (some 0) with
  accessFlags := 1057
  interfaces := #[2, 3, 4]
  cf := some (fileOf pool5 2 #[.nestMembers #[106]] #[{ accessFlags := 17, nameIndex := 9, descriptorIndex := 126, attributes := #[] }] 1057 12 #[111, 113, 115] #[{ accessFlags := 18, nameIndex := 5, descriptorIndex := 6, attributes := #[] }, { accessFlags := 18, nameIndex := 9, descriptorIndex := 10, attributes := #[] }, { accessFlags := 2, nameIndex := 19, descriptorIndex := 10, attributes := #[] }])
  fields := #[{ name := "name", type := (.object "java/lang/String"), accessFlags := 18, slot := 0, constantValue := 0 }, { name := "ordinal", type := .int, accessFlags := 18, slot := 1, constantValue := 0 }, { name := "hash", type := .int, accessFlags := 2, slot := 2, constantValue := 0 }]
  methods := #[k5m0]
  instanceTypes := #[(.object "java/lang/String"), .int, .int]
  staticTypes := #[]
  resolved := Array.replicate 204 none
  statics := none }

def pool6 : Array CpInfo := pool [(1, .class_ 2), (0, u "com/example/vuoro/vuoro/centre/Route"), (2, u "FIRST"), (0, u "Lcom/example/vuoro/vuoro/centre/Route;"), (2, u "LAST"), (2, u "ROUND"), (2, u "RANDOM"), (2, u "CONSISTENT_HASH"), (2, u "LEAST_FREQUENTLY_USED"), (2, u "LEAST_RECENTLY_USED"), (2, u "FAILOVER"), (2, u "BUSYOVER"), (2, u "SHARDING_BROADCAST"), (2, u "$VALUES"), (0, u "[Lcom/example/vuoro/vuoro/centre/Route;"), (6, .class_ 46), (1, u "java/lang/Enum"), (6, .methodref 1 54), (0, .nameAndType 55 56), (0, u "ordinal"), (0, u "()I"), (27, u "countsUses"), (0, u "()Z")] 5

def k6c0 : Code := { maxStack := 4, maxLocals := 1, code := prog_10_method_4_code, exceptionTable := #[], attributes := #[] }
def k6m0 : Method := { name := "countsUses", desc := "()Z", sig := { parameters := [], returnType := some .boolean }, accessFlags := 0, code := some k6c0 }
/-- com/example/vuoro/vuoro/centre/Route -/
def k6 : Class := { plain "com/example/vuoro/vuoro/centre/Route" (some 5) with
  accessFlags := 16432
  interfaces := #[]
  cf := some (fileOf pool6 1 #[] #[{ accessFlags := 0, nameIndex := 84, descriptorIndex := 85, attributes := #[] }] 16432 44 #[] #[{ accessFlags := 16409, nameIndex := 5, descriptorIndex := 6, attributes := #[] }, { accessFlags := 16409, nameIndex := 9, descriptorIndex := 6, attributes := #[] }, { accessFlags := 16409, nameIndex := 12, descriptorIndex := 6, attributes := #[] }, { accessFlags := 16409, nameIndex := 15, descriptorIndex := 6, attributes := #[] }, { accessFlags := 16409, nameIndex := 18, descriptorIndex := 6, attributes := #[] }, { accessFlags := 16409, nameIndex := 21, descriptorIndex := 6, attributes := #[] }, { accessFlags := 16409, nameIndex := 24, descriptorIndex := 6, attributes := #[] }, { accessFlags := 16409, nameIndex := 27, descriptorIndex := 6, attributes := #[] }, { accessFlags := 16409, nameIndex := 30, descriptorIndex := 6, attributes := #[] }, { accessFlags := 16409, nameIndex := 33, descriptorIndex := 6, attributes := #[] }, { accessFlags := 4122, nameIndex := 36, descriptorIndex := 37, attributes := #[] }])
  fields := #[{ name := "FIRST", type := (.object "com/example/vuoro/vuoro/centre/Route"), accessFlags := 16409, slot := 0, constantValue := 0 }, { name := "LAST", type := (.object "com/example/vuoro/vuoro/centre/Route"), accessFlags := 16409, slot := 1, constantValue := 0 }, { name := "ROUND", type := (.object "com/example/vuoro/vuoro/centre/Route"), accessFlags := 16409, slot := 2, constantValue := 0 }, { name := "RANDOM", type := (.object "com/example/vuoro/vuoro/centre/Route"), accessFlags := 16409, slot := 3, constantValue := 0 }, { name := "CONSISTENT_HASH", type := (.object "com/example/vuoro/vuoro/centre/Route"), accessFlags := 16409, slot := 4, constantValue := 0 }, { name := "LEAST_FREQUENTLY_USED", type := (.object "com/example/vuoro/vuoro/centre/Route"), accessFlags := 16409, slot := 5, constantValue := 0 }, { name := "LEAST_RECENTLY_USED", type := (.object "com/example/vuoro/vuoro/centre/Route"), accessFlags := 16409, slot := 6, constantValue := 0 }, { name := "FAILOVER", type := (.object "com/example/vuoro/vuoro/centre/Route"), accessFlags := 16409, slot := 7, constantValue := 0 }, { name := "BUSYOVER", type := (.object "com/example/vuoro/vuoro/centre/Route"), accessFlags := 16409, slot := 8, constantValue := 0 }, { name := "SHARDING_BROADCAST", type := (.object "com/example/vuoro/vuoro/centre/Route"), accessFlags := 16409, slot := 9, constantValue := 0 }, { name := "$VALUES", type := (.array (.object "com/example/vuoro/vuoro/centre/Route")), accessFlags := 4122, slot := 10, constantValue := 0 }]
  methods := #[k6m0]
  instanceTypes := #[(.object "java/lang/String"), .int, .int]
  staticTypes := #[(.object "com/example/vuoro/vuoro/centre/Route"), (.object "com/example/vuoro/vuoro/centre/Route"), (.object "com/example/vuoro/vuoro/centre/Route"), (.object "com/example/vuoro/vuoro/centre/Route"), (.object "com/example/vuoro/vuoro/centre/Route"), (.object "com/example/vuoro/vuoro/centre/Route"), (.object "com/example/vuoro/vuoro/centre/Route"), (.object "com/example/vuoro/vuoro/centre/Route"), (.object "com/example/vuoro/vuoro/centre/Route"), (.object "com/example/vuoro/vuoro/centre/Route"), (.array (.object "com/example/vuoro/vuoro/centre/Route"))]
  resolved := Array.replicate 91 none
  statics := some 0 }

def pool7 : Array CpInfo := pool [(1, u "java/lang/Cloneable"), (0, .class_ 1), (0, u "java/lang/Object"), (0, .class_ 3)] 3

/-- java/lang/Cloneable -/
def k7 : Class := { plain "java/lang/Cloneable" (some 0) with
  accessFlags := 1537
  interfaces := #[]
  cf := some (fileOf pool7 2 #[] #[] 1537 4 #[] #[])
  fields := #[]
  methods := #[]
  instanceTypes := #[]
  staticTypes := #[]
  resolved := Array.replicate 8 none
  statics := none }

/-- the primitive byte -/
def k8 : Class := { plain "byte" none with kind := .primitive 'B', accessFlags := 0x411 }
/-- [B -/
def k9 : Class := { plain "[B" (some 0) with kind := .array 8 .byte, interfaces := #[7, 4], accessFlags := 1041 }

/-- the primitive int -/
def k10 : Class := { plain "int" none with kind := .primitive 'I', accessFlags := 0x411 }
/-- [I -/
def k11 : Class := { plain "[I" (some 0) with kind := .array 10 .int, interfaces := #[7, 4], accessFlags := 1041 }

def heap : Heap := #[{ cls := 6, slots := #[.ref 1, .ref 2, .ref 3, .ref 4, .ref 5, .ref 6, .ref 7, .ref 8, .ref 9, .ref 10, .null], vm := .statics 6 },
  { cls := 6, slots := #[.null, .int 0, .int 0], vm := .none },
  { cls := 6, slots := #[.null, .int 1, .int 0], vm := .none },
  { cls := 6, slots := #[.null, .int 2, .int 0], vm := .none },
  { cls := 6, slots := #[.null, .int 3, .int 0], vm := .none },
  { cls := 6, slots := #[.null, .int 4, .int 0], vm := .none },
  { cls := 6, slots := #[.null, .int 5, .int 0], vm := .none },
  { cls := 6, slots := #[.null, .int 6, .int 0], vm := .none },
  { cls := 6, slots := #[.null, .int 7, .int 0], vm := .none },
  { cls := 6, slots := #[.null, .int 8, .int 0], vm := .none },
  { cls := 6, slots := #[.null, .int 9, .int 0], vm := .none }]
def classes : Array Class := #[k0, k1, k2, k3, k4, k5, k6, k7, k8, k9, k10, k11]
def interned : List (Array UInt16 × Addr) := []
def slotsUsed : Nat := 41
def theMethod : MethodId := ⟨1, 2⟩
def args0 : Array Value := #[.int 5]
def aboutOver (below : List Frame) : State where
  vm := { classes := classes, interned := interned.toArray }
  heap := heap
  slotsUsed := slotsUsed
  threads := #[{ frames := .invoking theMethod args0 :: below }]
def below0 : List Frame := [.native { method := ⟨0, 0⟩, args := #[] }]
def about1 : State := aboutOver below0
def p0 : Program := .bare "" "" ""
def e0 : Env := launch0.env 0 0 0
theorem w_frames : about1.frames = Frame.invoking theMethod args0 :: below0 := rfl
set_option maxRecDepth 65536 in
theorem w_args : argsFit about1.vm theMethod args0 = true := by decide +kernel
set_option maxRecDepth 65536 in
theorem w_heap : heapFits about1 = true := by decide +kernel
set_option maxRecDepth 65536 in
theorem w_runnable : about1.curStatus? = some .runnable := by decide +kernel
set_option maxRecDepth 65536 in
theorem w_alone : about1.alone = true := by decide +kernel
set_option maxRecDepth 65536 in
theorem w_named : about1.methodNamed? x = some theMethod := by decide +kernel
set_option maxRecDepth 65536 in
theorem w_hears : about1.hears theMethod below0 = true := by decide +kernel
set_option maxRecDepth 65536 in
theorem w_ripe : about1.ripe theMethod args0 below0 = true := by decide +kernel
theorem w_running : about1.status = .running := rfl
set_option maxRecDepth 65536 in
theorem w_room : about1.hasRoom e0.platform room_1 = true :=
  launch0.hasRoom_least _ room_1 (by decide +kernel) (by decide +kernel) (by decide +kernel) (by decide +kernel) (by decide +kernel) (by decide +kernel)
theorem allAtoms_all (ts : List Jvm.Cond) (a : Array Jvm.Value) (st : Jvm.State) : (allAtoms ts).before a st = ts.all (fun c => c.before a st) := by
  induction ts with
  | nil => rfl
  | cons c t ih =>
    show (Jvm.Cond.and c (allAtoms t)).before a st = _
    rw [Jvm.Cond.before_and, ih, List.all_cons]
def words1 : List Jvm.Cond := Jvm.Cond.code x code maxLocals ret :: tables_1
/-- a 'code' word, met by the world's own term for the bytes: nothing is compared byte by byte -/
theorem code_word {y : MethodName} {bytes : ByteArray} {mx : Nat} {rt : Option FieldType} {a : Array Value} {s : State} {m : MethodId} {meth : Method} {c : Code} (h1 : s.methodNamed? y = some m) (h2 : s.vm.method? m = some meth) (h3 : meth.code = some c) (h4 : c.code = bytes)
    (h5 : (c.maxLocals == mx && c.exceptionTable.isEmpty && decide (c.maxStack ≤ mostOperands) && decide (meth.sig.returnType = rt) && !meth.locks && decide (parseMethodDescriptor y.desc = some meth.sig)) = true) : (Jvm.Cond.code y bytes mx rt).before a s = true := by
  simp only [Bool.and_eq_true, beq_iff_eq, Bool.not_eq_true', decide_eq_true_eq] at h5
  obtain ⟨⟨⟨⟨⟨g1, g2⟩, g3⟩, g4⟩, g5⟩, g6⟩ := h5
  simp [Cond.before, Cond.holds, Cond.value, h1, h2, h3, h4, g1, g2, g3, g4, g5, g6]
def isCode : Jvm.Cond → Bool
  | .code _ _ _ _ => true
  | _ => false
theorem all_split {L : List Jvm.Cond} {P : Jvm.Cond → Bool} (h1 : L.all (fun c => isCode c || P c) = true) (h2 : ∀ c ∈ L.filter isCode, P c = true) : L.all P = true := by
  refine List.all_eq_true.mpr fun c hc => ?_
  have h := List.all_eq_true.mp h1 c hc
  rcases Bool.eq_false_or_eq_true (isCode c) with hi | hi
  · exact h2 c (List.mem_filter.mpr ⟨hc, hi⟩)
  · simpa [hi] using h
set_option maxRecDepth 65536 in
theorem w_c0 : (Jvm.Cond.code x code maxLocals ret).before args0 about1 = true := code_word (m := ⟨1, 2⟩) (meth := k1m2) (c := k1c2) (by decide +kernel) rfl rfl rfl (by decide +kernel)
set_option maxRecDepth 65536 in
theorem w_c1 : (Jvm.Cond.code ({ cls := "com/example/vuoro/vuoro/centre/RouteCountsUsesPinLaw", name := "pick", desc := "(I)Lcom/example/vuoro/vuoro/centre/Route;" } : Jvm.MethodName) method_2_code (1 : Nat) (Option.some (Jvm.ClassFile.FieldType.object "com/example/vuoro/vuoro/centre/Route"))).before args0 about1 = true := code_word (m := ⟨1, 1⟩) (meth := k1m1) (c := k1c1) (by decide +kernel) rfl rfl rfl (by decide +kernel)
set_option maxRecDepth 65536 in
theorem w_c2 : (Jvm.Cond.code ({ cls := "com/example/vuoro/vuoro/centre/Route", name := "countsUses", desc := "()Z" } : Jvm.MethodName) prog_10_method_4_code (1 : Nat) (Option.some Jvm.ClassFile.FieldType.boolean)).before args0 about1 = true := code_word (m := ⟨6, 0⟩) (meth := k6m0) (c := k6c0) (by decide +kernel) rfl rfl rfl (by decide +kernel)
set_option maxRecDepth 65536 in
theorem w_c3 : (Jvm.Cond.code ({ cls := "java/lang/Enum", name := "ordinal", desc := "()I" } : Jvm.MethodName) jdk_37_method_2_code (1 : Nat) (Option.some Jvm.ClassFile.FieldType.int)).before args0 about1 = true := code_word (m := ⟨5, 0⟩) (meth := k5m0) (c := k5c0) (by decide +kernel) rfl rfl rfl (by decide +kernel)
def codes1 : List Jvm.Cond := [Jvm.Cond.code x code maxLocals ret, Jvm.Cond.code ({ cls := "com/example/vuoro/vuoro/centre/RouteCountsUsesPinLaw", name := "pick", desc := "(I)Lcom/example/vuoro/vuoro/centre/Route;" } : Jvm.MethodName) method_2_code (1 : Nat) (Option.some (Jvm.ClassFile.FieldType.object "com/example/vuoro/vuoro/centre/Route")), Jvm.Cond.code ({ cls := "com/example/vuoro/vuoro/centre/Route", name := "countsUses", desc := "()Z" } : Jvm.MethodName) prog_10_method_4_code (1 : Nat) (Option.some Jvm.ClassFile.FieldType.boolean), Jvm.Cond.code ({ cls := "java/lang/Enum", name := "ordinal", desc := "()I" } : Jvm.MethodName) jdk_37_method_2_code (1 : Nat) (Option.some Jvm.ClassFile.FieldType.int)]
set_option maxRecDepth 65536 in
theorem codes_eq : words1.filter isCode = codes1 := rfl
theorem w_codes : ∀ c ∈ words1.filter isCode, c.before args0 about1 = true := by
  rw [codes_eq]
  intro c hc
  simp only [codes1, List.mem_cons, List.not_mem_nil, or_false] at hc
  rcases hc with rfl | rfl | rfl | rfl
  · exact w_c0
  · exact w_c1
  · exact w_c2
  · exact w_c3
set_option maxRecDepth 65536 in
theorem w_t1 : (words1.take 24).all (fun c => isCode c || c.before args0 about1) = true := by decide +kernel
set_option maxRecDepth 65536 in
theorem w_t2 : (words1.drop 24).all (fun c => isCode c || c.before args0 about1) = true := by decide +kernel
theorem w_tables : (allAtoms (Jvm.Cond.code x code maxLocals ret :: tables_1)).before args0 about1 = true := by
  rw [allAtoms_all]
  show words1.all (fun c => c.before args0 about1) = true
  refine all_split ?_ w_codes
  rw [← List.take_append_drop 24 words1, List.all_append, w_t1, w_t2]
  rfl
set_option maxRecDepth 65536 in
theorem w_case : (Jvm.Cond.and given_1 narrow_1).before args0 about1 = true := by decide +kernel
theorem w_applies : (headSpec (Jvm.Cond.code x code maxLocals ret :: tables_1) room_1).applies x e0.platform about1 = true :=
  (Spec.applies_iff w_frames).mpr ⟨w_running, w_runnable, w_alone, w_named, w_hears, w_ripe, w_room, w_tables⟩
theorem atStart : AtStart classFile x code maxLocals ret World_1 tables_1 room_1 Calls_1 rest_1 Pre_1 launch0 p0 e0 about1 theMethod args0 below0 :=
  ⟨lists_1, trivial, launch0.admits_env _ _ _, launch0.least_env, fairChoices_fair.cas, fairChoices_fair.clock, w_frames, w_args, w_heap, w_applies, trivial, trivial, w_case⟩
end start1
theorem witness_1 : WitnessClaimed_1 := ⟨start1.p0, start1.e0, start1.about1, start1.theMethod, start1.args0, start1.below0, start1.atStart⟩
end Jvm.Pilot.@@N@@
