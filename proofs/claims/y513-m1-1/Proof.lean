import JvmDerived
import JvmDerived.Pilot.@@N@@Statement
import JvmDerived.Pilot.@@N@@Code
set_option linter.unusedVariables false
set_option linter.unusedSimpArgs false
namespace Jvm.RoadKit
open Sem ClassFile Op Lib Jvm.Stand Jvm.Free Jvm.LawKit
section New
variable {p : Program} {l : Launch} {e : Env} {R : Room} {s : State} {m : MethodId} {args : Array Value} {below : List Frame} {meth : Method} {c : Code} {T : State} {locs : List Loc} {cells slots : Nat}
theorem retI (X : Stand p l e R s m args below meth c T locs cells slots) (hx : p.tables.exec = Jvm.exec) {pc : Nat} {Ls : Array Slot} {z : Int32} {rest : List Value} (hret : meth.sig.returnType = some .int) (hd : decode c.code pc = .ok (.ireturn, 1)) {fs : List Frame}
    (hl : ∀ (f : JFrame) (acts : List Action), f.method = m → f.locked = none → f.entered = [] → (doReturn e (T.setTop f) acts (some (.int z))).1 = T.setFrames fs) : Steps p.tables e below (T.setTop (mkF m pc Ls (.int z :: rest))) (T.setFrames fs) := by
  have hm' : T.vm.method? m = some meth := X.method'
  have hn : narrow .int (.int z) = .int z := rfl
  show Steps p.tables e below (T.setTop { method := m, pc := pc, locals := Ls, stack := _ :: rest, locked := none }) _
  jvm_step X.here [X.here.top, hx, hd, hm', hret, hn]
  first | (intro acts; rw [hl _ acts rfl rfl rfl]) | rw [hl _ _ rfl rfl rfl]
  exact Steps.refl _
def Gl (p : Program) (e : Env) (below : List Frame) (s : State) (kc ks : Nat) (Q : Option Value → Heap → List Loc → Prop) (T : State) (g : JFrame) : Prop :=
  ∃ U o, Steps p.tables e below (T.setTop g) U ∧ U.status = .running ∧ Ended U below o ∧ ∃ v L, o = .returned v ∧ Q v U.heap L ∧ FrameEnd s o U L kc ks
theorem Gl.st {kc ks : Nat} {Q : Option Value → Heap → List Loc → Prop} {T' : State} {g g' : JFrame} (h : ∀ t, Steps p.tables e below (T'.setTop g') t → Steps p.tables e below (T.setTop g) t) (k : Gl p e below s kc ks Q T' g') : Gl p e below s kc ks Q T g := by
  obtain ⟨U, o, h1, r⟩ := k
  exact ⟨U, o, h _ h1, r⟩
theorem Gl.wider {cells' slots' : Nat} (X : Stand p l e R s m args below meth c T locs cells slots) (h1 : cells ≤ cells') (h2 : slots ≤ slots') : Stand p l e R s m args below meth c T locs cells' slots' :=
  ⟨X.admits, X.cas, X.clock, X.frames, X.room, X.hears, X.method, X.code, X.here, X.tail, X.warmed, X.limits, X.bytes, X.same.mono h1 h2⟩
theorem Gl.start {kc ks : Nat} {Q : Option Value → Heap → List Loc → Prop} {g g' : JFrame} (q : g = g') (k : Gl p e below s kc ks Q T g') :
    ∃ U o, Steps p.tables e below (T.setTop g) U ∧ U.status = .running ∧ Ended U below o ∧ ∃ v L, o = .returned v ∧ Q v U.heap L ∧ FrameEnd s o U L kc ks := q ▸ k
theorem Gl.ret {kc ks : Nat} {Q : Option Value → Heap → List Loc → Prop} {g : JFrame} {h : Heap} (X : Stand p l e R s m args below meth c T locs cells slots) {v : Option Value} (hv : meth.sig.returnType = none → v = none) (hlk : meth.locks = false)
    (st : ∀ {fs : List Frame}, (∀ (f : JFrame) (acts : List Action), f.method = m → f.locked = none → f.entered = [] → (doReturn e (T.setTop f) acts v).1 = T.setFrames fs) → Steps p.tables e below (T.setTop g) (T.setFrames fs))
    (eT : T.heap = h) (hQ : Q v h locs) (hc : cells ≤ kc) (hs : slots ≤ ks) : Gl p e below s kc ks Q T g := by
  obtain ⟨fs, hr, hrun, hended, hW, hsame⟩ := X.leave hv hlk
  refine ⟨_, _, st hr, hrun, hended, _, _, rfl, ?_, ⟨_, rfl⟩, hW, hsame.mono hc hs⟩
  show Q v T.heap locs
  rw [eT]; exact hQ
end New
end Jvm.RoadKit
namespace Jvm.Pilot.@@N@@
open Jvm Jvm.ClassFile Sem Op Lib Jvm.Free Jvm.Stand Jvm.LawKit Jvm.RoadKit Bundle Jvm.Pilot.@@N@@.Jvm.D
theorem own_eqint {args : Array Value} {first s : State} {o : Option Outcome} {idx : List Nat} {t : Term} {k : Int32} (h : (Jvm.Cond.eq t (.int k)).value args first o s idx = some true) : t.eval args first o idx s = some (.int k) := by
  cases ht : t.eval args first o idx s with
  | none => simp [Cond.value, ht] at h
  | some x => cases x <;> simp [Cond.value, ht, Term.eval] at h ⊢; exact h
theorem own_mod14 (x : Int32) : (x &&& (2147483647 : Int32)) % (14 : Int32) = (0 : Int32) ∨ (x &&& (2147483647 : Int32)) % (14 : Int32) = (1 : Int32) ∨ (x &&& (2147483647 : Int32)) % (14 : Int32) = (2 : Int32) ∨ (x &&& (2147483647 : Int32)) % (14 : Int32) = (3 : Int32) ∨ (x &&& (2147483647 : Int32)) % (14 : Int32) = (4 : Int32) ∨ (x &&& (2147483647 : Int32)) % (14 : Int32) = (5 : Int32) ∨ (x &&& (2147483647 : Int32)) % (14 : Int32) = (6 : Int32) ∨ (x &&& (2147483647 : Int32)) % (14 : Int32) = (7 : Int32) ∨ (x &&& (2147483647 : Int32)) % (14 : Int32) = (8 : Int32) ∨ (x &&& (2147483647 : Int32)) % (14 : Int32) = (9 : Int32) ∨ (x &&& (2147483647 : Int32)) % (14 : Int32) = (10 : Int32) ∨ (x &&& (2147483647 : Int32)) % (14 : Int32) = (11 : Int32) ∨ (x &&& (2147483647 : Int32)) % (14 : Int32) = (12 : Int32) ∨ (x &&& (2147483647 : Int32)) % (14 : Int32) = (13 : Int32) := by
  have h1 := (c_and x (2147483647 : Int32) (by decide)).1
  have h2 := (c_irem (x &&& (2147483647 : Int32)) (14 : Int32) 14 (by decide)).1 h1
  have h3 : ((x &&& (2147483647 : Int32)) % (14 : Int32)).toInt = 0 ∨ ((x &&& (2147483647 : Int32)) % (14 : Int32)).toInt = 1 ∨ ((x &&& (2147483647 : Int32)) % (14 : Int32)).toInt = 2 ∨ ((x &&& (2147483647 : Int32)) % (14 : Int32)).toInt = 3 ∨ ((x &&& (2147483647 : Int32)) % (14 : Int32)).toInt = 4 ∨ ((x &&& (2147483647 : Int32)) % (14 : Int32)).toInt = 5 ∨ ((x &&& (2147483647 : Int32)) % (14 : Int32)).toInt = 6 ∨ ((x &&& (2147483647 : Int32)) % (14 : Int32)).toInt = 7 ∨ ((x &&& (2147483647 : Int32)) % (14 : Int32)).toInt = 8 ∨ ((x &&& (2147483647 : Int32)) % (14 : Int32)).toInt = 9 ∨ ((x &&& (2147483647 : Int32)) % (14 : Int32)).toInt = 10 ∨ ((x &&& (2147483647 : Int32)) % (14 : Int32)).toInt = 11 ∨ ((x &&& (2147483647 : Int32)) % (14 : Int32)).toInt = 12 ∨ ((x &&& (2147483647 : Int32)) % (14 : Int32)).toInt = 13 := by omega
  rcases h3 with h | h | h | h | h | h | h | h | h | h | h | h | h | h
  · exact Or.inl (Int32.toInt_inj.mp (h.trans (by decide)))
  · exact Or.inr (Or.inl (Int32.toInt_inj.mp (h.trans (by decide))))
  · exact Or.inr (Or.inr (Or.inl (Int32.toInt_inj.mp (h.trans (by decide)))))
  · exact Or.inr (Or.inr (Or.inr (Or.inl (Int32.toInt_inj.mp (h.trans (by decide))))))
  · exact Or.inr (Or.inr (Or.inr (Or.inr (Or.inl (Int32.toInt_inj.mp (h.trans (by decide)))))))
  · exact Or.inr (Or.inr (Or.inr (Or.inr (Or.inr (Or.inl (Int32.toInt_inj.mp (h.trans (by decide))))))))
  · exact Or.inr (Or.inr (Or.inr (Or.inr (Or.inr (Or.inr (Or.inl (Int32.toInt_inj.mp (h.trans (by decide)))))))))
  · exact Or.inr (Or.inr (Or.inr (Or.inr (Or.inr (Or.inr (Or.inr (Or.inl (Int32.toInt_inj.mp (h.trans (by decide))))))))))
  · exact Or.inr (Or.inr (Or.inr (Or.inr (Or.inr (Or.inr (Or.inr (Or.inr (Or.inl (Int32.toInt_inj.mp (h.trans (by decide)))))))))))
  · exact Or.inr (Or.inr (Or.inr (Or.inr (Or.inr (Or.inr (Or.inr (Or.inr (Or.inr (Or.inl (Int32.toInt_inj.mp (h.trans (by decide))))))))))))
  · exact Or.inr (Or.inr (Or.inr (Or.inr (Or.inr (Or.inr (Or.inr (Or.inr (Or.inr (Or.inr (Or.inl (Int32.toInt_inj.mp (h.trans (by decide)))))))))))))
  · exact Or.inr (Or.inr (Or.inr (Or.inr (Or.inr (Or.inr (Or.inr (Or.inr (Or.inr (Or.inr (Or.inr (Or.inl (Int32.toInt_inj.mp (h.trans (by decide))))))))))))))
  · exact Or.inr (Or.inr (Or.inr (Or.inr (Or.inr (Or.inr (Or.inr (Or.inr (Or.inr (Or.inr (Or.inr (Or.inr (Or.inl (Int32.toInt_inj.mp (h.trans (by decide)))))))))))))))
  · exact Or.inr (Or.inr (Or.inr (Or.inr (Or.inr (Or.inr (Or.inr (Or.inr (Or.inr (Or.inr (Or.inr (Or.inr (Or.inr ((Int32.toInt_inj.mp (h.trans (by decide))))))))))))))))
theorem d1_0 : decode prog_16_method_4_code 0 = .ok (.aload_n 0, 1) := by decide +kernel
theorem d1_1 : decode prog_16_method_4_code 1 = .ok (.getstatic 28, 3) := by decide +kernel
theorem d1_4 : decode prog_16_method_4_code 4 = .ok (.if_acmp .eq 7, 3) := by decide +kernel
theorem d1_7 : decode prog_16_method_4_code 7 = .ok (.iconst 1, 1) := by decide +kernel
theorem d1_8 : decode prog_16_method_4_code 8 = .ok (.goto 4, 3) := by decide +kernel
theorem d1_11 : decode prog_16_method_4_code 11 = .ok (.iconst 0, 1) := by decide +kernel
theorem d1_12 : decode prog_16_method_4_code 12 = .ok (.ireturn, 1) := by decide +kernel
theorem pn_rm1 : plainName "com/example/exile_court/exilecourt/rules/Decision$Kind" = true := by first | (simp [plainName, overriddenIn]; done) | decide +kernel
theorem ef_rm1 (m : MethodId) (a1 : Addr) : entryFrame m #[(.ref a1)] 1 = mkF m 0 #[.val (.ref a1)] [] := by first | (simp [entryFrame, mkF, argsToLocals, Value.category]; done) | rfl
def Q_rm1 (Z : State) (a1 : Addr) (w_PASSES : Addr) (z : Int32) (h0 : Heap) (n0 : Nat) (v : Option Value) (h : Heap) (L : List Loc) : Prop := v = some (.int z) ∧ Fr n0 L ∧ h = h0
set_option maxRecDepth 65536 in
set_option maxHeartbeats 40000000 in
theorem rm1 (l : Launch) (Z : State) (a0 : Array Value) (hw : ∀ d ∈ tables_1, d.before a0 Z = true) (ws : List Jvm.Cond) (a1 : Addr) (w_PASSES : Addr) (z : Int32) (h0 : Heap) (n0 : Nat) (O0 : Old Z n0 h0) (S_PASSES : Sta Z Z.heap "com/example/exile_court/exilecourt/rules/Decision$Kind" "PASSES" "Lcom/example/exile_court/exilecourt/rules/Decision$Kind;" (.ref w_PASSES)) (hz : z = if a1 = w_PASSES then 0 else 1) :
    MetFree l (⟨"com/example/exile_court/exilecourt/rules/Decision$Kind", "isRecorded", "()Z"⟩ : MethodName) (head1 (Jvm.Cond.code (⟨"com/example/exile_court/exilecourt/rules/Decision$Kind", "isRecorded", "()Z"⟩ : MethodName) prog_16_method_4_code 1 (some .boolean) :: ws) ({ frames := 0, cells := 0, slots := 0, locals := 0 } : Room)) (fun a U => a = #[(.ref a1)] ∧ Z.Warmed39 U.vm ∧ U.heap = h0) (fun _ _ _ _ _ => True) (fun _ U o U' => ∃ v L, o = .returned v ∧ Q_rm1 Z a1 w_PASSES z h0 n0 v U'.heap L ∧ FrameEnd U o U' L ({ frames := 0, cells := 0, slots := 0, locals := 0 } : Room).cells ({ frames := 0, cells := 0, slots := 0, locals := 0 } : Room).slots) := by
  refine MetFree.of_bodySF (plainFor_of_name pn_rm1) hisR ?_
  intro p e s m args below meth c s₁ Bd hml0 hP hK
  obtain ⟨rfl, hZ, hh⟩ := hP
  have hx := Bd.exec
  have hby := Bd.bytes
  have hml : c.maxLocals = 1 := hml0
  have hown : s.vm.findClass "com/example/exile_court/exilecourt/rules/Decision$Kind" = some m.cls := findClass_of_methodNamed Bd.named
  have hnm := (name_of_methodNamed Bd.named Bd.method).1
  have X0 : Stand p l e ({ frames := 0, cells := 0, slots := 0, locals := 0 } : Room) s m #[(.ref a1)] below meth c s₁ [] 0 0 := Stand.of_body Bd
  have e0 : s₁.heap = h0 := by rw [← hh, Bd.state]; rfl
  have N0 := Fr.nil n0
  refine Gl.start (Q := Q_rm1 Z a1 w_PASSES z h0 n0) (ef_rm1 m a1) ?_
  show Gl p e below s _ _ _ s₁ (mkF m 0 #[.val (.ref a1)] [])
  refine Gl.st (fun _ kk => XS.aloadN X0.here hx rfl (hb hby d1_0) rfl rfl kk) ?_
  show Gl p e below s _ _ _ s₁ (mkF m 1 #[.val (.ref a1)] [(.ref a1)])
  obtain ⟨T1, X1, e1, st1⟩ := getS2 X0 hx hZ hown (host := "") (Or.inl (hw _ (List.mem_of_getElem? (i := 38) rfl))) Via.refl e0 (S_PASSES.ext O0.2) (g := (mkF m 1 #[.val (.ref a1)] [(.ref a1)])) rfl (hb hby d1_1)
  refine Gl.st st1 ?_
  show Gl p e below s _ _ _ T1 (mkF m 4 #[.val (.ref a1)] [(.ref w_PASSES), (.ref a1)])
  by_cases ha4 : a1 = w_PASSES
  · skip
    refine Gl.st (fun _ kk => Jvm.RoadKit.acmp (g := (mkF m 4 #[.val (.ref a1)] [(.ref w_PASSES), (.ref a1)])) X1 hx rfl rfl rfl (pc0 := 4) (pc' := 11) (same := true) rfl (hb hby d1_4) rfl (decide_eq_true (congrArg Value.ref ha4)) (by decide) (by decide) kk) ?_
    show Gl p e below s _ _ _ T1 (mkF m 11 #[.val (.ref a1)] [])
    refine Gl.st (fun _ kk => XS.iconst X1.here hx rfl (hb hby d1_11) kk) ?_
    show Gl p e below s _ _ _ T1 (mkF m 12 #[.val (.ref a1)] [(.int (0 : Int32))])
    have hzz : z = (0 : Int32) := by rw [hz]; simp [ha4]
    exact Gl.ret X1 (v := (some (.int (0 : Int32)))) (fun h => by rw [Bd.returns] at h; cases h) (BodyLoose.notSynchronized Bd) (fun hr => retN X1 hx (t := .boolean) Bd.returns (by simp) (hb hby d1_12) hr) e1 ⟨by rw [hzz], N0, rfl⟩ (by decide) (by decide)
  · skip
    refine Gl.st (fun _ kk => Jvm.RoadKit.acmp (g := (mkF m 4 #[.val (.ref a1)] [(.ref w_PASSES), (.ref a1)])) X1 hx rfl rfl rfl (pc0 := 4) (pc' := 7) (same := false) rfl (hb hby d1_4) rfl (decide_eq_false fun q => ha4 (Value.ref.inj q)) (by decide) (by decide) kk) ?_
    show Gl p e below s _ _ _ T1 (mkF m 7 #[.val (.ref a1)] [])
    refine Gl.st (fun _ kk => XS.iconst X1.here hx rfl (hb hby d1_7) kk) ?_
    show Gl p e below s _ _ _ T1 (mkF m 8 #[.val (.ref a1)] [(.int (1 : Int32))])
    refine Gl.st (fun _ kk => XS.goto X1.here hx rfl (pc0 := 8) (pc' := 12) rfl (hb hby d1_8) (by decide) (by decide) kk) ?_
    show Gl p e below s _ _ _ T1 (mkF m 12 #[.val (.ref a1)] [(.int (1 : Int32))])
    have hzz : z = (1 : Int32) := by rw [hz]; simp [ha4]
    exact Gl.ret X1 (v := (some (.int (1 : Int32)))) (fun h => by rw [Bd.returns] at h; cases h) (BodyLoose.notSynchronized Bd) (fun hr => retN X1 hx (t := .boolean) Bd.returns (by simp) (hb hby d1_12) hr) e1 ⟨by rw [hzz], N0, rfl⟩ (by decide) (by decide)
theorem pd_rm0_0 : parseMethodDescriptor "()Z" = some ⟨[], some .boolean⟩ := by decide +kernel
theorem pn_rm0 : plainName "com/example/exile_court/exilecourt/rules/KindIsRecordedPinLaw" = true := by first | (simp [plainName, overriddenIn]; done) | decide +kernel
theorem ef_rm0 (m : MethodId) (p1 : Int32) : entryFrame m #[(.int p1)] maxLocals = mkF m 0 #[.val (.int p1), .unset, .unset, .unset] [] := by first | (simp [entryFrame, mkF, argsToLocals, Value.category, maxLocals]; done) | rfl
def Q_rm0 (Z : State) (p1 : Int32) (w_INCOME w_FOREIGN_AID w_COUP w_TAX w_ASSASSINATE w_STEAL w_EXCHANGE w_CHALLENGES w_PASSES w_BLOCKS w_SHOWS w_DRAWS w_RETURNS w_LOSES : Addr) (h0 : Heap) (n0 : Nat) (v : Option Value) (h : Heap) (L : List Loc) : Prop := v = some (.int 1) ∧ Fr n0 L
set_option maxRecDepth 65536 in
set_option maxHeartbeats 40000000 in
theorem rm0 (l : Launch) (Z : State) (a0 : Array Value) (hw : ∀ d ∈ tables_1, d.before a0 Z = true) (ws : List Jvm.Cond) (p1 : Int32) (w_INCOME w_FOREIGN_AID w_COUP w_TAX w_ASSASSINATE w_STEAL w_EXCHANGE w_CHALLENGES w_PASSES w_BLOCKS w_SHOWS w_DRAWS w_RETURNS w_LOSES : Addr) (h0 : Heap) (n0 : Nat) (O0 : Old Z n0 h0) (S_INCOME : Sta Z Z.heap "com/example/exile_court/exilecourt/rules/Decision$Kind" "INCOME" "Lcom/example/exile_court/exilecourt/rules/Decision$Kind;" (.ref w_INCOME)) (S_FOREIGN_AID : Sta Z Z.heap "com/example/exile_court/exilecourt/rules/Decision$Kind" "FOREIGN_AID" "Lcom/example/exile_court/exilecourt/rules/Decision$Kind;" (.ref w_FOREIGN_AID)) (S_COUP : Sta Z Z.heap "com/example/exile_court/exilecourt/rules/Decision$Kind" "COUP" "Lcom/example/exile_court/exilecourt/rules/Decision$Kind;" (.ref w_COUP)) (S_TAX : Sta Z Z.heap "com/example/exile_court/exilecourt/rules/Decision$Kind" "TAX" "Lcom/example/exile_court/exilecourt/rules/Decision$Kind;" (.ref w_TAX)) (S_ASSASSINATE : Sta Z Z.heap "com/example/exile_court/exilecourt/rules/Decision$Kind" "ASSASSINATE" "Lcom/example/exile_court/exilecourt/rules/Decision$Kind;" (.ref w_ASSASSINATE)) (S_STEAL : Sta Z Z.heap "com/example/exile_court/exilecourt/rules/Decision$Kind" "STEAL" "Lcom/example/exile_court/exilecourt/rules/Decision$Kind;" (.ref w_STEAL)) (S_EXCHANGE : Sta Z Z.heap "com/example/exile_court/exilecourt/rules/Decision$Kind" "EXCHANGE" "Lcom/example/exile_court/exilecourt/rules/Decision$Kind;" (.ref w_EXCHANGE)) (S_CHALLENGES : Sta Z Z.heap "com/example/exile_court/exilecourt/rules/Decision$Kind" "CHALLENGES" "Lcom/example/exile_court/exilecourt/rules/Decision$Kind;" (.ref w_CHALLENGES)) (S_PASSES : Sta Z Z.heap "com/example/exile_court/exilecourt/rules/Decision$Kind" "PASSES" "Lcom/example/exile_court/exilecourt/rules/Decision$Kind;" (.ref w_PASSES)) (S_BLOCKS : Sta Z Z.heap "com/example/exile_court/exilecourt/rules/Decision$Kind" "BLOCKS" "Lcom/example/exile_court/exilecourt/rules/Decision$Kind;" (.ref w_BLOCKS)) (S_SHOWS : Sta Z Z.heap "com/example/exile_court/exilecourt/rules/Decision$Kind" "SHOWS" "Lcom/example/exile_court/exilecourt/rules/Decision$Kind;" (.ref w_SHOWS)) (S_DRAWS : Sta Z Z.heap "com/example/exile_court/exilecourt/rules/Decision$Kind" "DRAWS" "Lcom/example/exile_court/exilecourt/rules/Decision$Kind;" (.ref w_DRAWS)) (S_RETURNS : Sta Z Z.heap "com/example/exile_court/exilecourt/rules/Decision$Kind" "RETURNS" "Lcom/example/exile_court/exilecourt/rules/Decision$Kind;" (.ref w_RETURNS)) (S_LOSES : Sta Z Z.heap "com/example/exile_court/exilecourt/rules/Decision$Kind" "LOSES" "Lcom/example/exile_court/exilecourt/rules/Decision$Kind;" (.ref w_LOSES)) (E_INCOME : Exa Z Z.heap w_INCOME "com/example/exile_court/exilecourt/rules/Decision$Kind") (E_FOREIGN_AID : Exa Z Z.heap w_FOREIGN_AID "com/example/exile_court/exilecourt/rules/Decision$Kind") (E_COUP : Exa Z Z.heap w_COUP "com/example/exile_court/exilecourt/rules/Decision$Kind") (E_TAX : Exa Z Z.heap w_TAX "com/example/exile_court/exilecourt/rules/Decision$Kind") (E_ASSASSINATE : Exa Z Z.heap w_ASSASSINATE "com/example/exile_court/exilecourt/rules/Decision$Kind") (E_STEAL : Exa Z Z.heap w_STEAL "com/example/exile_court/exilecourt/rules/Decision$Kind") (E_EXCHANGE : Exa Z Z.heap w_EXCHANGE "com/example/exile_court/exilecourt/rules/Decision$Kind") (E_CHALLENGES : Exa Z Z.heap w_CHALLENGES "com/example/exile_court/exilecourt/rules/Decision$Kind") (E_PASSES : Exa Z Z.heap w_PASSES "com/example/exile_court/exilecourt/rules/Decision$Kind") (E_BLOCKS : Exa Z Z.heap w_BLOCKS "com/example/exile_court/exilecourt/rules/Decision$Kind") (E_SHOWS : Exa Z Z.heap w_SHOWS "com/example/exile_court/exilecourt/rules/Decision$Kind") (E_DRAWS : Exa Z Z.heap w_DRAWS "com/example/exile_court/exilecourt/rules/Decision$Kind") (E_RETURNS : Exa Z Z.heap w_RETURNS "com/example/exile_court/exilecourt/rules/Decision$Kind") (E_LOSES : Exa Z Z.heap w_LOSES "com/example/exile_court/exilecourt/rules/Decision$Kind") (F_INCOME : Fld Z Z.heap w_INCOME "java/lang/Enum" "ordinal" "I" (.int 0)) (F_FOREIGN_AID : Fld Z Z.heap w_FOREIGN_AID "java/lang/Enum" "ordinal" "I" (.int 1)) (F_COUP : Fld Z Z.heap w_COUP "java/lang/Enum" "ordinal" "I" (.int 2)) (F_TAX : Fld Z Z.heap w_TAX "java/lang/Enum" "ordinal" "I" (.int 3)) (F_ASSASSINATE : Fld Z Z.heap w_ASSASSINATE "java/lang/Enum" "ordinal" "I" (.int 4)) (F_STEAL : Fld Z Z.heap w_STEAL "java/lang/Enum" "ordinal" "I" (.int 5)) (F_EXCHANGE : Fld Z Z.heap w_EXCHANGE "java/lang/Enum" "ordinal" "I" (.int 6)) (F_CHALLENGES : Fld Z Z.heap w_CHALLENGES "java/lang/Enum" "ordinal" "I" (.int 7)) (F_PASSES : Fld Z Z.heap w_PASSES "java/lang/Enum" "ordinal" "I" (.int 8)) (F_BLOCKS : Fld Z Z.heap w_BLOCKS "java/lang/Enum" "ordinal" "I" (.int 9)) (F_SHOWS : Fld Z Z.heap w_SHOWS "java/lang/Enum" "ordinal" "I" (.int 10)) (F_DRAWS : Fld Z Z.heap w_DRAWS "java/lang/Enum" "ordinal" "I" (.int 11)) (F_RETURNS : Fld Z Z.heap w_RETURNS "java/lang/Enum" "ordinal" "I" (.int 12)) (F_LOSES : Fld Z Z.heap w_LOSES "java/lang/Enum" "ordinal" "I" (.int 13)) :
    MetFree l x (head1 (Jvm.Cond.code x code maxLocals ret :: ws) room_1) (fun a U => a = #[(.int p1)] ∧ Z.Warmed39 U.vm ∧ U.heap = h0) (fun _ _ _ _ _ => True) (fun _ U o U' => ∃ v L, o = .returned v ∧ Q_rm0 Z p1 w_INCOME w_FOREIGN_AID w_COUP w_TAX w_ASSASSINATE w_STEAL w_EXCHANGE w_CHALLENGES w_PASSES w_BLOCKS w_SHOWS w_DRAWS w_RETURNS w_LOSES h0 n0 v U'.heap L ∧ FrameEnd U o U' L room_1.cells room_1.slots) := by
  refine MetFree.of_bodySF (plainFor_of_name pn_rm0) hisR ?_
  intro p e s m args below meth c s₁ Bd hml0 hP hK
  obtain ⟨rfl, hZ, hh⟩ := hP
  have hx := Bd.exec
  have hby := Bd.bytes
  have hml : c.maxLocals = 4 := hml0
  have hown : s.vm.findClass "com/example/exile_court/exilecourt/rules/KindIsRecordedPinLaw" = some m.cls := findClass_of_methodNamed Bd.named
  have hnm := (name_of_methodNamed Bd.named Bd.method).1
  have X0 : Stand p l e room_1 s m #[(.int p1)] below meth c s₁ [] 0 0 := Stand.of_body Bd
  have e0 : s₁.heap = h0 := by rw [← hh, Bd.state]; rfl
  have N0 := Fr.nil n0
  refine Gl.start (Q := Q_rm0 Z p1 w_INCOME w_FOREIGN_AID w_COUP w_TAX w_ASSASSINATE w_STEAL w_EXCHANGE w_CHALLENGES w_PASSES w_BLOCKS w_SHOWS w_DRAWS w_RETURNS w_LOSES h0 n0) (ef_rm0 m p1) ?_
  show Gl p e below s _ _ _ s₁ (mkF m 0 #[.val (.int p1), .unset, .unset, .unset] [])
  refine Gl.st (fun _ kk => XS.iloadN X0.here hx rfl (hb hby at_0) rfl kk) ?_
  show Gl p e below s _ _ _ s₁ (mkF m 1 #[.val (.int p1), .unset, .unset, .unset] [(.int p1)])
  refine Gl.st (fun _ kk => X0.ldcInt hx hown (mvT hZ (hw _ (List.mem_of_getElem? (i := 0) rfl))) (g := (mkF m 1 #[.val (.int p1), .unset, .unset, .unset] [(.int p1)])) rfl (hb hby at_1) _ kk) ?_
  show Gl p e below s _ _ _ s₁ (mkF m 3 #[.val (.int p1), .unset, .unset, .unset] [(.int (2147483647 : Int32)), (.int p1)])
  refine Gl.st (fun _ kk => XS.iand X0.here hx rfl (hb hby at_3) rfl kk) ?_
  show Gl p e below s _ _ _ s₁ (mkF m 4 #[.val (.int p1), .unset, .unset, .unset] [(.int (p1 &&& (2147483647 : Int32)))])
  refine Gl.st (fun _ kk => XS.bipush X0.here hx rfl (hb hby at_4) kk) ?_
  show Gl p e below s _ _ _ s₁ (mkF m 6 #[.val (.int p1), .unset, .unset, .unset] [(.int (14 : Int32)), (.int (p1 &&& (2147483647 : Int32)))])
  refine Gl.st (fun _ kk => iremM (g := (mkF m 6 #[.val (.int p1), .unset, .unset, .unset] [(.int (14 : Int32)), (.int (p1 &&& (2147483647 : Int32)))])) X0 hx rfl (hb hby at_6) rfl (by decide) kk) ?_
  show Gl p e below s _ _ _ s₁ (mkF m 7 #[.val (.int p1), .unset, .unset, .unset] [(.int ((p1 &&& (2147483647 : Int32)) % (14 : Int32)))])
  refine Gl.st (fun _ kk => XS.istoreN X0.here hx rfl (hb hby at_7) rfl (l' := #[.val (.int p1), .val (.int ((p1 &&& (2147483647 : Int32)) % (14 : Int32))), .unset, .unset]) rfl kk) ?_
  show Gl p e below s _ _ _ s₁ (mkF m 8 #[.val (.int p1), .val (.int ((p1 &&& (2147483647 : Int32)) % (14 : Int32))), .unset, .unset] [])
  refine Gl.st (fun _ kk => XS.bipush X0.here hx rfl (hb hby at_8) kk) ?_
  show Gl p e below s _ _ _ s₁ (mkF m 10 #[.val (.int p1), .val (.int ((p1 &&& (2147483647 : Int32)) % (14 : Int32))), .unset, .unset] [(.int (14 : Int32))])
  obtain ⟨T1, h1, k1, X1, e1, E1, A1, Ov1, st1⟩ := newR X0 hx hZ hown (hw _ (List.mem_of_getElem? (i := 1) rfl)) (hw _ (List.mem_of_getElem? (i := 2) rfl)) e0 (g := (mkF m 10 #[.val (.int p1), .val (.int ((p1 &&& (2147483647 : Int32)) % (14 : Int32))), .unset, .unset] [(.int (14 : Int32))])) rfl (hb hby at_10) rfl (by decide) (cap := 14) (by decide) (by decide) (by decide) (by decide)
  obtain ⟨b1, g1⟩ : ∃ z, z = h0.size := ⟨_, rfl⟩
  rw [← g1] at A1 st1
  refine Gl.st st1 ?_
  have ge_b1 : n0 ≤ b1 := Nat.le_trans (Nat.le_trans (Nat.le_of_eq O0.1.symm) O0.2.1) (Nat.le_of_eq g1.symm)
  have fr_b1 : h0.size ≤ b1 := Nat.le_trans (Nat.le_refl _) (Nat.le_of_eq g1.symm)
  have O1 := O0.ext E1
  have K1 := (Keep.refl h0 []).ext E1
  have Arv_b1 : Arv Z h1 b1 k1 (.object "com/example/exile_court/exilecourt/rules/Decision$Kind") (14 : Int32) [.null, .null, .null, .null, .null, .null, .null, .null, .null, .null, .null, .null, .null, .null] .null := (Arv.new A1 (by decide)).pad (pad_rep [] .null 14)
  show Gl p e below s _ _ _ T1 (mkF m 13 #[.val (.int p1), .val (.int ((p1 &&& (2147483647 : Int32)) % (14 : Int32))), .unset, .unset] [(.ref b1)])
  refine Gl.st (fun _ kk => XS.dup X1.here hx rfl (hb hby at_13) rfl rfl kk) ?_
  show Gl p e below s _ _ _ T1 (mkF m 14 #[.val (.int p1), .val (.int ((p1 &&& (2147483647 : Int32)) % (14 : Int32))), .unset, .unset] [(.ref b1), (.ref b1)])
  refine Gl.st (fun _ kk => XS.iconst X1.here hx rfl (hb hby at_14) kk) ?_
  show Gl p e below s _ _ _ T1 (mkF m 15 #[.val (.int p1), .val (.int ((p1 &&& (2147483647 : Int32)) % (14 : Int32))), .unset, .unset] [(.int (0 : Int32)), (.ref b1), (.ref b1)])
  obtain ⟨T2, X2, e2, st2⟩ := getS2 X1 hx hZ hown (host := "") (Or.inl (hw _ (List.mem_of_getElem? (i := 3) rfl))) Via.refl e1 (S_INCOME.ext O1.2) (g := (mkF m 15 #[.val (.int p1), .val (.int ((p1 &&& (2147483647 : Int32)) % (14 : Int32))), .unset, .unset] [(.int (0 : Int32)), (.ref b1), (.ref b1)])) rfl (hb hby at_15)
  refine Gl.st st2 ?_
  show Gl p e below s _ _ _ T2 (mkF m 18 #[.val (.int p1), .val (.int ((p1 &&& (2147483647 : Int32)) % (14 : Int32))), .unset, .unset] [(.ref w_INCOME), (.int (0 : Int32)), (.ref b1), (.ref b1)])
  obtain ⟨cl3, Ar3, q3, Sz3, Ng3, Ha3, Fi3⟩ := id Arv_b1
  have hin3 : ¬ ((0 : Int32) < 0 ∨ cl3.slots.size ≤ ((0 : Int32)).toNatClampNeg) := inb_of Sz3 ⟨by decide, by decide⟩
  obtain ⟨T3, h3, X3, e3, W3, st3⟩ := stR X2 hx hZ e2 Ar3 (j := (0 : Int32)) hin3 rfl (Sto.ofV Ar3 q3 Ov1 (Ins.self (E_INCOME.ext O1.2))) (g := (mkF m 18 #[.val (.int p1), .val (.int ((p1 &&& (2147483647 : Int32)) % (14 : Int32))), .unset, .unset] [(.ref w_INCOME), (.int (0 : Int32)), (.ref b1), (.ref b1)])) rfl rfl (hb hby at_18)
  refine Gl.st st3 ?_
  have Arv_b1 : Arv Z h3 b1 k1 (.object "com/example/exile_court/exilecourt/rules/Decision$Kind") (14 : Int32) [(.ref w_INCOME), .null, .null, .null, .null, .null, .null, .null, .null, .null, .null, .null, .null, .null] .null := Arv.set Ar3 q3 Sz3 Ng3 Ha3 Fi3 rfl W3 0 rfl (Nat.le_of_ble_eq_true rfl)
  have O3 := O1.wr W3 ge_b1
  have K3 := K1.wr W3 (Or.inr fr_b1)
  have N3 := Fr.snoc X3 N0 ge_b1
  show Gl p e below s _ _ _ T3 (mkF m 19 #[.val (.int p1), .val (.int ((p1 &&& (2147483647 : Int32)) % (14 : Int32))), .unset, .unset] [(.ref b1)])
  refine Gl.st (fun _ kk => XS.dup X3.here hx rfl (hb hby at_19) rfl rfl kk) ?_
  show Gl p e below s _ _ _ T3 (mkF m 20 #[.val (.int p1), .val (.int ((p1 &&& (2147483647 : Int32)) % (14 : Int32))), .unset, .unset] [(.ref b1), (.ref b1)])
  refine Gl.st (fun _ kk => XS.iconst X3.here hx rfl (hb hby at_20) kk) ?_
  show Gl p e below s _ _ _ T3 (mkF m 21 #[.val (.int p1), .val (.int ((p1 &&& (2147483647 : Int32)) % (14 : Int32))), .unset, .unset] [(.int (1 : Int32)), (.ref b1), (.ref b1)])
  obtain ⟨T4, X4, e4, st4⟩ := getS2 X3 hx hZ hown (host := "") (Or.inl (hw _ (List.mem_of_getElem? (i := 7) rfl))) Via.refl e3 (S_FOREIGN_AID.ext O3.2) (g := (mkF m 21 #[.val (.int p1), .val (.int ((p1 &&& (2147483647 : Int32)) % (14 : Int32))), .unset, .unset] [(.int (1 : Int32)), (.ref b1), (.ref b1)])) rfl (hb hby at_21)
  refine Gl.st st4 ?_
  show Gl p e below s _ _ _ T4 (mkF m 24 #[.val (.int p1), .val (.int ((p1 &&& (2147483647 : Int32)) % (14 : Int32))), .unset, .unset] [(.ref w_FOREIGN_AID), (.int (1 : Int32)), (.ref b1), (.ref b1)])
  obtain ⟨cl5, Ar5, q5, Sz5, Ng5, Ha5, Fi5⟩ := id Arv_b1
  have hin5 : ¬ ((1 : Int32) < 0 ∨ cl5.slots.size ≤ ((1 : Int32)).toNatClampNeg) := inb_of Sz5 ⟨by decide, by decide⟩
  obtain ⟨T5, h5, X5, e5, W5, st5⟩ := stR X4 hx hZ e4 Ar5 (j := (1 : Int32)) hin5 rfl (Sto.ofV Ar5 q5 Ov1 (Ins.self (E_FOREIGN_AID.ext O3.2))) (g := (mkF m 24 #[.val (.int p1), .val (.int ((p1 &&& (2147483647 : Int32)) % (14 : Int32))), .unset, .unset] [(.ref w_FOREIGN_AID), (.int (1 : Int32)), (.ref b1), (.ref b1)])) rfl rfl (hb hby at_24)
  refine Gl.st st5 ?_
  have Arv_b1 : Arv Z h5 b1 k1 (.object "com/example/exile_court/exilecourt/rules/Decision$Kind") (14 : Int32) [(.ref w_INCOME), (.ref w_FOREIGN_AID), .null, .null, .null, .null, .null, .null, .null, .null, .null, .null, .null, .null] .null := Arv.set Ar5 q5 Sz5 Ng5 Ha5 Fi5 rfl W5 1 rfl (Nat.le_of_ble_eq_true rfl)
  have O5 := O3.wr W5 ge_b1
  have K5 := K3.wr W5 (Or.inr fr_b1)
  have N5 := Fr.snoc X5 N3 ge_b1
  show Gl p e below s _ _ _ T5 (mkF m 25 #[.val (.int p1), .val (.int ((p1 &&& (2147483647 : Int32)) % (14 : Int32))), .unset, .unset] [(.ref b1)])
  refine Gl.st (fun _ kk => XS.dup X5.here hx rfl (hb hby at_25) rfl rfl kk) ?_
  show Gl p e below s _ _ _ T5 (mkF m 26 #[.val (.int p1), .val (.int ((p1 &&& (2147483647 : Int32)) % (14 : Int32))), .unset, .unset] [(.ref b1), (.ref b1)])
  refine Gl.st (fun _ kk => XS.iconst X5.here hx rfl (hb hby at_26) kk) ?_
  show Gl p e below s _ _ _ T5 (mkF m 27 #[.val (.int p1), .val (.int ((p1 &&& (2147483647 : Int32)) % (14 : Int32))), .unset, .unset] [(.int (2 : Int32)), (.ref b1), (.ref b1)])
  obtain ⟨T6, X6, e6, st6⟩ := getS2 X5 hx hZ hown (host := "") (Or.inl (hw _ (List.mem_of_getElem? (i := 9) rfl))) Via.refl e5 (S_COUP.ext O5.2) (g := (mkF m 27 #[.val (.int p1), .val (.int ((p1 &&& (2147483647 : Int32)) % (14 : Int32))), .unset, .unset] [(.int (2 : Int32)), (.ref b1), (.ref b1)])) rfl (hb hby at_27)
  refine Gl.st st6 ?_
  show Gl p e below s _ _ _ T6 (mkF m 30 #[.val (.int p1), .val (.int ((p1 &&& (2147483647 : Int32)) % (14 : Int32))), .unset, .unset] [(.ref w_COUP), (.int (2 : Int32)), (.ref b1), (.ref b1)])
  obtain ⟨cl7, Ar7, q7, Sz7, Ng7, Ha7, Fi7⟩ := id Arv_b1
  have hin7 : ¬ ((2 : Int32) < 0 ∨ cl7.slots.size ≤ ((2 : Int32)).toNatClampNeg) := inb_of Sz7 ⟨by decide, by decide⟩
  obtain ⟨T7, h7, X7, e7, W7, st7⟩ := stR X6 hx hZ e6 Ar7 (j := (2 : Int32)) hin7 rfl (Sto.ofV Ar7 q7 Ov1 (Ins.self (E_COUP.ext O5.2))) (g := (mkF m 30 #[.val (.int p1), .val (.int ((p1 &&& (2147483647 : Int32)) % (14 : Int32))), .unset, .unset] [(.ref w_COUP), (.int (2 : Int32)), (.ref b1), (.ref b1)])) rfl rfl (hb hby at_30)
  refine Gl.st st7 ?_
  have Arv_b1 : Arv Z h7 b1 k1 (.object "com/example/exile_court/exilecourt/rules/Decision$Kind") (14 : Int32) [(.ref w_INCOME), (.ref w_FOREIGN_AID), (.ref w_COUP), .null, .null, .null, .null, .null, .null, .null, .null, .null, .null, .null] .null := Arv.set Ar7 q7 Sz7 Ng7 Ha7 Fi7 rfl W7 2 rfl (Nat.le_of_ble_eq_true rfl)
  have O7 := O5.wr W7 ge_b1
  have K7 := K5.wr W7 (Or.inr fr_b1)
  have N7 := Fr.snoc X7 N5 ge_b1
  show Gl p e below s _ _ _ T7 (mkF m 31 #[.val (.int p1), .val (.int ((p1 &&& (2147483647 : Int32)) % (14 : Int32))), .unset, .unset] [(.ref b1)])
  refine Gl.st (fun _ kk => XS.dup X7.here hx rfl (hb hby at_31) rfl rfl kk) ?_
  show Gl p e below s _ _ _ T7 (mkF m 32 #[.val (.int p1), .val (.int ((p1 &&& (2147483647 : Int32)) % (14 : Int32))), .unset, .unset] [(.ref b1), (.ref b1)])
  refine Gl.st (fun _ kk => XS.iconst X7.here hx rfl (hb hby at_32) kk) ?_
  show Gl p e below s _ _ _ T7 (mkF m 33 #[.val (.int p1), .val (.int ((p1 &&& (2147483647 : Int32)) % (14 : Int32))), .unset, .unset] [(.int (3 : Int32)), (.ref b1), (.ref b1)])
  obtain ⟨T8, X8, e8, st8⟩ := getS2 X7 hx hZ hown (host := "") (Or.inl (hw _ (List.mem_of_getElem? (i := 11) rfl))) Via.refl e7 (S_TAX.ext O7.2) (g := (mkF m 33 #[.val (.int p1), .val (.int ((p1 &&& (2147483647 : Int32)) % (14 : Int32))), .unset, .unset] [(.int (3 : Int32)), (.ref b1), (.ref b1)])) rfl (hb hby at_33)
  refine Gl.st st8 ?_
  show Gl p e below s _ _ _ T8 (mkF m 36 #[.val (.int p1), .val (.int ((p1 &&& (2147483647 : Int32)) % (14 : Int32))), .unset, .unset] [(.ref w_TAX), (.int (3 : Int32)), (.ref b1), (.ref b1)])
  obtain ⟨cl9, Ar9, q9, Sz9, Ng9, Ha9, Fi9⟩ := id Arv_b1
  have hin9 : ¬ ((3 : Int32) < 0 ∨ cl9.slots.size ≤ ((3 : Int32)).toNatClampNeg) := inb_of Sz9 ⟨by decide, by decide⟩
  obtain ⟨T9, h9, X9, e9, W9, st9⟩ := stR X8 hx hZ e8 Ar9 (j := (3 : Int32)) hin9 rfl (Sto.ofV Ar9 q9 Ov1 (Ins.self (E_TAX.ext O7.2))) (g := (mkF m 36 #[.val (.int p1), .val (.int ((p1 &&& (2147483647 : Int32)) % (14 : Int32))), .unset, .unset] [(.ref w_TAX), (.int (3 : Int32)), (.ref b1), (.ref b1)])) rfl rfl (hb hby at_36)
  refine Gl.st st9 ?_
  have Arv_b1 : Arv Z h9 b1 k1 (.object "com/example/exile_court/exilecourt/rules/Decision$Kind") (14 : Int32) [(.ref w_INCOME), (.ref w_FOREIGN_AID), (.ref w_COUP), (.ref w_TAX), .null, .null, .null, .null, .null, .null, .null, .null, .null, .null] .null := Arv.set Ar9 q9 Sz9 Ng9 Ha9 Fi9 rfl W9 3 rfl (Nat.le_of_ble_eq_true rfl)
  have O9 := O7.wr W9 ge_b1
  have K9 := K7.wr W9 (Or.inr fr_b1)
  have N9 := Fr.snoc X9 N7 ge_b1
  show Gl p e below s _ _ _ T9 (mkF m 37 #[.val (.int p1), .val (.int ((p1 &&& (2147483647 : Int32)) % (14 : Int32))), .unset, .unset] [(.ref b1)])
  refine Gl.st (fun _ kk => XS.dup X9.here hx rfl (hb hby at_37) rfl rfl kk) ?_
  show Gl p e below s _ _ _ T9 (mkF m 38 #[.val (.int p1), .val (.int ((p1 &&& (2147483647 : Int32)) % (14 : Int32))), .unset, .unset] [(.ref b1), (.ref b1)])
  refine Gl.st (fun _ kk => XS.iconst X9.here hx rfl (hb hby at_38) kk) ?_
  show Gl p e below s _ _ _ T9 (mkF m 39 #[.val (.int p1), .val (.int ((p1 &&& (2147483647 : Int32)) % (14 : Int32))), .unset, .unset] [(.int (4 : Int32)), (.ref b1), (.ref b1)])
  obtain ⟨T10, X10, e10, st10⟩ := getS2 X9 hx hZ hown (host := "") (Or.inl (hw _ (List.mem_of_getElem? (i := 13) rfl))) Via.refl e9 (S_ASSASSINATE.ext O9.2) (g := (mkF m 39 #[.val (.int p1), .val (.int ((p1 &&& (2147483647 : Int32)) % (14 : Int32))), .unset, .unset] [(.int (4 : Int32)), (.ref b1), (.ref b1)])) rfl (hb hby at_39)
  refine Gl.st st10 ?_
  show Gl p e below s _ _ _ T10 (mkF m 42 #[.val (.int p1), .val (.int ((p1 &&& (2147483647 : Int32)) % (14 : Int32))), .unset, .unset] [(.ref w_ASSASSINATE), (.int (4 : Int32)), (.ref b1), (.ref b1)])
  obtain ⟨cl11, Ar11, q11, Sz11, Ng11, Ha11, Fi11⟩ := id Arv_b1
  have hin11 : ¬ ((4 : Int32) < 0 ∨ cl11.slots.size ≤ ((4 : Int32)).toNatClampNeg) := inb_of Sz11 ⟨by decide, by decide⟩
  obtain ⟨T11, h11, X11, e11, W11, st11⟩ := stR X10 hx hZ e10 Ar11 (j := (4 : Int32)) hin11 rfl (Sto.ofV Ar11 q11 Ov1 (Ins.self (E_ASSASSINATE.ext O9.2))) (g := (mkF m 42 #[.val (.int p1), .val (.int ((p1 &&& (2147483647 : Int32)) % (14 : Int32))), .unset, .unset] [(.ref w_ASSASSINATE), (.int (4 : Int32)), (.ref b1), (.ref b1)])) rfl rfl (hb hby at_42)
  refine Gl.st st11 ?_
  have Arv_b1 : Arv Z h11 b1 k1 (.object "com/example/exile_court/exilecourt/rules/Decision$Kind") (14 : Int32) [(.ref w_INCOME), (.ref w_FOREIGN_AID), (.ref w_COUP), (.ref w_TAX), (.ref w_ASSASSINATE), .null, .null, .null, .null, .null, .null, .null, .null, .null] .null := Arv.set Ar11 q11 Sz11 Ng11 Ha11 Fi11 rfl W11 4 rfl (Nat.le_of_ble_eq_true rfl)
  have O11 := O9.wr W11 ge_b1
  have K11 := K9.wr W11 (Or.inr fr_b1)
  have N11 := Fr.snoc X11 N9 ge_b1
  show Gl p e below s _ _ _ T11 (mkF m 43 #[.val (.int p1), .val (.int ((p1 &&& (2147483647 : Int32)) % (14 : Int32))), .unset, .unset] [(.ref b1)])
  refine Gl.st (fun _ kk => XS.dup X11.here hx rfl (hb hby at_43) rfl rfl kk) ?_
  show Gl p e below s _ _ _ T11 (mkF m 44 #[.val (.int p1), .val (.int ((p1 &&& (2147483647 : Int32)) % (14 : Int32))), .unset, .unset] [(.ref b1), (.ref b1)])
  refine Gl.st (fun _ kk => XS.iconst X11.here hx rfl (hb hby at_44) kk) ?_
  show Gl p e below s _ _ _ T11 (mkF m 45 #[.val (.int p1), .val (.int ((p1 &&& (2147483647 : Int32)) % (14 : Int32))), .unset, .unset] [(.int (5 : Int32)), (.ref b1), (.ref b1)])
  obtain ⟨T12, X12, e12, st12⟩ := getS2 X11 hx hZ hown (host := "") (Or.inl (hw _ (List.mem_of_getElem? (i := 15) rfl))) Via.refl e11 (S_STEAL.ext O11.2) (g := (mkF m 45 #[.val (.int p1), .val (.int ((p1 &&& (2147483647 : Int32)) % (14 : Int32))), .unset, .unset] [(.int (5 : Int32)), (.ref b1), (.ref b1)])) rfl (hb hby at_45)
  refine Gl.st st12 ?_
  show Gl p e below s _ _ _ T12 (mkF m 48 #[.val (.int p1), .val (.int ((p1 &&& (2147483647 : Int32)) % (14 : Int32))), .unset, .unset] [(.ref w_STEAL), (.int (5 : Int32)), (.ref b1), (.ref b1)])
  obtain ⟨cl13, Ar13, q13, Sz13, Ng13, Ha13, Fi13⟩ := id Arv_b1
  have hin13 : ¬ ((5 : Int32) < 0 ∨ cl13.slots.size ≤ ((5 : Int32)).toNatClampNeg) := inb_of Sz13 ⟨by decide, by decide⟩
  obtain ⟨T13, h13, X13, e13, W13, st13⟩ := stR X12 hx hZ e12 Ar13 (j := (5 : Int32)) hin13 rfl (Sto.ofV Ar13 q13 Ov1 (Ins.self (E_STEAL.ext O11.2))) (g := (mkF m 48 #[.val (.int p1), .val (.int ((p1 &&& (2147483647 : Int32)) % (14 : Int32))), .unset, .unset] [(.ref w_STEAL), (.int (5 : Int32)), (.ref b1), (.ref b1)])) rfl rfl (hb hby at_48)
  refine Gl.st st13 ?_
  have Arv_b1 : Arv Z h13 b1 k1 (.object "com/example/exile_court/exilecourt/rules/Decision$Kind") (14 : Int32) [(.ref w_INCOME), (.ref w_FOREIGN_AID), (.ref w_COUP), (.ref w_TAX), (.ref w_ASSASSINATE), (.ref w_STEAL), .null, .null, .null, .null, .null, .null, .null, .null] .null := Arv.set Ar13 q13 Sz13 Ng13 Ha13 Fi13 rfl W13 5 rfl (Nat.le_of_ble_eq_true rfl)
  have O13 := O11.wr W13 ge_b1
  have K13 := K11.wr W13 (Or.inr fr_b1)
  have N13 := Fr.snoc X13 N11 ge_b1
  show Gl p e below s _ _ _ T13 (mkF m 49 #[.val (.int p1), .val (.int ((p1 &&& (2147483647 : Int32)) % (14 : Int32))), .unset, .unset] [(.ref b1)])
  refine Gl.st (fun _ kk => XS.dup X13.here hx rfl (hb hby at_49) rfl rfl kk) ?_
  show Gl p e below s _ _ _ T13 (mkF m 50 #[.val (.int p1), .val (.int ((p1 &&& (2147483647 : Int32)) % (14 : Int32))), .unset, .unset] [(.ref b1), (.ref b1)])
  refine Gl.st (fun _ kk => XS.bipush X13.here hx rfl (hb hby at_50) kk) ?_
  show Gl p e below s _ _ _ T13 (mkF m 52 #[.val (.int p1), .val (.int ((p1 &&& (2147483647 : Int32)) % (14 : Int32))), .unset, .unset] [(.int (6 : Int32)), (.ref b1), (.ref b1)])
  obtain ⟨T14, X14, e14, st14⟩ := getS2 X13 hx hZ hown (host := "") (Or.inl (hw _ (List.mem_of_getElem? (i := 17) rfl))) Via.refl e13 (S_EXCHANGE.ext O13.2) (g := (mkF m 52 #[.val (.int p1), .val (.int ((p1 &&& (2147483647 : Int32)) % (14 : Int32))), .unset, .unset] [(.int (6 : Int32)), (.ref b1), (.ref b1)])) rfl (hb hby at_52)
  refine Gl.st st14 ?_
  show Gl p e below s _ _ _ T14 (mkF m 55 #[.val (.int p1), .val (.int ((p1 &&& (2147483647 : Int32)) % (14 : Int32))), .unset, .unset] [(.ref w_EXCHANGE), (.int (6 : Int32)), (.ref b1), (.ref b1)])
  obtain ⟨cl15, Ar15, q15, Sz15, Ng15, Ha15, Fi15⟩ := id Arv_b1
  have hin15 : ¬ ((6 : Int32) < 0 ∨ cl15.slots.size ≤ ((6 : Int32)).toNatClampNeg) := inb_of Sz15 ⟨by decide, by decide⟩
  obtain ⟨T15, h15, X15, e15, W15, st15⟩ := stR X14 hx hZ e14 Ar15 (j := (6 : Int32)) hin15 rfl (Sto.ofV Ar15 q15 Ov1 (Ins.self (E_EXCHANGE.ext O13.2))) (g := (mkF m 55 #[.val (.int p1), .val (.int ((p1 &&& (2147483647 : Int32)) % (14 : Int32))), .unset, .unset] [(.ref w_EXCHANGE), (.int (6 : Int32)), (.ref b1), (.ref b1)])) rfl rfl (hb hby at_55)
  refine Gl.st st15 ?_
  have Arv_b1 : Arv Z h15 b1 k1 (.object "com/example/exile_court/exilecourt/rules/Decision$Kind") (14 : Int32) [(.ref w_INCOME), (.ref w_FOREIGN_AID), (.ref w_COUP), (.ref w_TAX), (.ref w_ASSASSINATE), (.ref w_STEAL), (.ref w_EXCHANGE), .null, .null, .null, .null, .null, .null, .null] .null := Arv.set Ar15 q15 Sz15 Ng15 Ha15 Fi15 rfl W15 6 rfl (Nat.le_of_ble_eq_true rfl)
  have O15 := O13.wr W15 ge_b1
  have K15 := K13.wr W15 (Or.inr fr_b1)
  have N15 := Fr.snoc X15 N13 ge_b1
  show Gl p e below s _ _ _ T15 (mkF m 56 #[.val (.int p1), .val (.int ((p1 &&& (2147483647 : Int32)) % (14 : Int32))), .unset, .unset] [(.ref b1)])
  refine Gl.st (fun _ kk => XS.dup X15.here hx rfl (hb hby at_56) rfl rfl kk) ?_
  show Gl p e below s _ _ _ T15 (mkF m 57 #[.val (.int p1), .val (.int ((p1 &&& (2147483647 : Int32)) % (14 : Int32))), .unset, .unset] [(.ref b1), (.ref b1)])
  refine Gl.st (fun _ kk => XS.bipush X15.here hx rfl (hb hby at_57) kk) ?_
  show Gl p e below s _ _ _ T15 (mkF m 59 #[.val (.int p1), .val (.int ((p1 &&& (2147483647 : Int32)) % (14 : Int32))), .unset, .unset] [(.int (7 : Int32)), (.ref b1), (.ref b1)])
  obtain ⟨T16, X16, e16, st16⟩ := getS2 X15 hx hZ hown (host := "") (Or.inl (hw _ (List.mem_of_getElem? (i := 19) rfl))) Via.refl e15 (S_CHALLENGES.ext O15.2) (g := (mkF m 59 #[.val (.int p1), .val (.int ((p1 &&& (2147483647 : Int32)) % (14 : Int32))), .unset, .unset] [(.int (7 : Int32)), (.ref b1), (.ref b1)])) rfl (hb hby at_59)
  refine Gl.st st16 ?_
  show Gl p e below s _ _ _ T16 (mkF m 62 #[.val (.int p1), .val (.int ((p1 &&& (2147483647 : Int32)) % (14 : Int32))), .unset, .unset] [(.ref w_CHALLENGES), (.int (7 : Int32)), (.ref b1), (.ref b1)])
  obtain ⟨cl17, Ar17, q17, Sz17, Ng17, Ha17, Fi17⟩ := id Arv_b1
  have hin17 : ¬ ((7 : Int32) < 0 ∨ cl17.slots.size ≤ ((7 : Int32)).toNatClampNeg) := inb_of Sz17 ⟨by decide, by decide⟩
  obtain ⟨T17, h17, X17, e17, W17, st17⟩ := stR X16 hx hZ e16 Ar17 (j := (7 : Int32)) hin17 rfl (Sto.ofV Ar17 q17 Ov1 (Ins.self (E_CHALLENGES.ext O15.2))) (g := (mkF m 62 #[.val (.int p1), .val (.int ((p1 &&& (2147483647 : Int32)) % (14 : Int32))), .unset, .unset] [(.ref w_CHALLENGES), (.int (7 : Int32)), (.ref b1), (.ref b1)])) rfl rfl (hb hby at_62)
  refine Gl.st st17 ?_
  have Arv_b1 : Arv Z h17 b1 k1 (.object "com/example/exile_court/exilecourt/rules/Decision$Kind") (14 : Int32) [(.ref w_INCOME), (.ref w_FOREIGN_AID), (.ref w_COUP), (.ref w_TAX), (.ref w_ASSASSINATE), (.ref w_STEAL), (.ref w_EXCHANGE), (.ref w_CHALLENGES), .null, .null, .null, .null, .null, .null] .null := Arv.set Ar17 q17 Sz17 Ng17 Ha17 Fi17 rfl W17 7 rfl (Nat.le_of_ble_eq_true rfl)
  have O17 := O15.wr W17 ge_b1
  have K17 := K15.wr W17 (Or.inr fr_b1)
  have N17 := Fr.snoc X17 N15 ge_b1
  show Gl p e below s _ _ _ T17 (mkF m 63 #[.val (.int p1), .val (.int ((p1 &&& (2147483647 : Int32)) % (14 : Int32))), .unset, .unset] [(.ref b1)])
  refine Gl.st (fun _ kk => XS.dup X17.here hx rfl (hb hby at_63) rfl rfl kk) ?_
  show Gl p e below s _ _ _ T17 (mkF m 64 #[.val (.int p1), .val (.int ((p1 &&& (2147483647 : Int32)) % (14 : Int32))), .unset, .unset] [(.ref b1), (.ref b1)])
  refine Gl.st (fun _ kk => XS.bipush X17.here hx rfl (hb hby at_64) kk) ?_
  show Gl p e below s _ _ _ T17 (mkF m 66 #[.val (.int p1), .val (.int ((p1 &&& (2147483647 : Int32)) % (14 : Int32))), .unset, .unset] [(.int (8 : Int32)), (.ref b1), (.ref b1)])
  obtain ⟨T18, X18, e18, st18⟩ := getS2 X17 hx hZ hown (host := "") (Or.inl (hw _ (List.mem_of_getElem? (i := 21) rfl))) Via.refl e17 (S_PASSES.ext O17.2) (g := (mkF m 66 #[.val (.int p1), .val (.int ((p1 &&& (2147483647 : Int32)) % (14 : Int32))), .unset, .unset] [(.int (8 : Int32)), (.ref b1), (.ref b1)])) rfl (hb hby at_66)
  refine Gl.st st18 ?_
  show Gl p e below s _ _ _ T18 (mkF m 69 #[.val (.int p1), .val (.int ((p1 &&& (2147483647 : Int32)) % (14 : Int32))), .unset, .unset] [(.ref w_PASSES), (.int (8 : Int32)), (.ref b1), (.ref b1)])
  obtain ⟨cl19, Ar19, q19, Sz19, Ng19, Ha19, Fi19⟩ := id Arv_b1
  have hin19 : ¬ ((8 : Int32) < 0 ∨ cl19.slots.size ≤ ((8 : Int32)).toNatClampNeg) := inb_of Sz19 ⟨by decide, by decide⟩
  obtain ⟨T19, h19, X19, e19, W19, st19⟩ := stR X18 hx hZ e18 Ar19 (j := (8 : Int32)) hin19 rfl (Sto.ofV Ar19 q19 Ov1 (Ins.self (E_PASSES.ext O17.2))) (g := (mkF m 69 #[.val (.int p1), .val (.int ((p1 &&& (2147483647 : Int32)) % (14 : Int32))), .unset, .unset] [(.ref w_PASSES), (.int (8 : Int32)), (.ref b1), (.ref b1)])) rfl rfl (hb hby at_69)
  refine Gl.st st19 ?_
  have Arv_b1 : Arv Z h19 b1 k1 (.object "com/example/exile_court/exilecourt/rules/Decision$Kind") (14 : Int32) [(.ref w_INCOME), (.ref w_FOREIGN_AID), (.ref w_COUP), (.ref w_TAX), (.ref w_ASSASSINATE), (.ref w_STEAL), (.ref w_EXCHANGE), (.ref w_CHALLENGES), (.ref w_PASSES), .null, .null, .null, .null, .null] .null := Arv.set Ar19 q19 Sz19 Ng19 Ha19 Fi19 rfl W19 8 rfl (Nat.le_of_ble_eq_true rfl)
  have O19 := O17.wr W19 ge_b1
  have K19 := K17.wr W19 (Or.inr fr_b1)
  have N19 := Fr.snoc X19 N17 ge_b1
  show Gl p e below s _ _ _ T19 (mkF m 70 #[.val (.int p1), .val (.int ((p1 &&& (2147483647 : Int32)) % (14 : Int32))), .unset, .unset] [(.ref b1)])
  refine Gl.st (fun _ kk => XS.dup X19.here hx rfl (hb hby at_70) rfl rfl kk) ?_
  show Gl p e below s _ _ _ T19 (mkF m 71 #[.val (.int p1), .val (.int ((p1 &&& (2147483647 : Int32)) % (14 : Int32))), .unset, .unset] [(.ref b1), (.ref b1)])
  refine Gl.st (fun _ kk => XS.bipush X19.here hx rfl (hb hby at_71) kk) ?_
  show Gl p e below s _ _ _ T19 (mkF m 73 #[.val (.int p1), .val (.int ((p1 &&& (2147483647 : Int32)) % (14 : Int32))), .unset, .unset] [(.int (9 : Int32)), (.ref b1), (.ref b1)])
  obtain ⟨T20, X20, e20, st20⟩ := getS2 X19 hx hZ hown (host := "") (Or.inl (hw _ (List.mem_of_getElem? (i := 23) rfl))) Via.refl e19 (S_BLOCKS.ext O19.2) (g := (mkF m 73 #[.val (.int p1), .val (.int ((p1 &&& (2147483647 : Int32)) % (14 : Int32))), .unset, .unset] [(.int (9 : Int32)), (.ref b1), (.ref b1)])) rfl (hb hby at_73)
  refine Gl.st st20 ?_
  show Gl p e below s _ _ _ T20 (mkF m 76 #[.val (.int p1), .val (.int ((p1 &&& (2147483647 : Int32)) % (14 : Int32))), .unset, .unset] [(.ref w_BLOCKS), (.int (9 : Int32)), (.ref b1), (.ref b1)])
  obtain ⟨cl21, Ar21, q21, Sz21, Ng21, Ha21, Fi21⟩ := id Arv_b1
  have hin21 : ¬ ((9 : Int32) < 0 ∨ cl21.slots.size ≤ ((9 : Int32)).toNatClampNeg) := inb_of Sz21 ⟨by decide, by decide⟩
  obtain ⟨T21, h21, X21, e21, W21, st21⟩ := stR X20 hx hZ e20 Ar21 (j := (9 : Int32)) hin21 rfl (Sto.ofV Ar21 q21 Ov1 (Ins.self (E_BLOCKS.ext O19.2))) (g := (mkF m 76 #[.val (.int p1), .val (.int ((p1 &&& (2147483647 : Int32)) % (14 : Int32))), .unset, .unset] [(.ref w_BLOCKS), (.int (9 : Int32)), (.ref b1), (.ref b1)])) rfl rfl (hb hby at_76)
  refine Gl.st st21 ?_
  have Arv_b1 : Arv Z h21 b1 k1 (.object "com/example/exile_court/exilecourt/rules/Decision$Kind") (14 : Int32) [(.ref w_INCOME), (.ref w_FOREIGN_AID), (.ref w_COUP), (.ref w_TAX), (.ref w_ASSASSINATE), (.ref w_STEAL), (.ref w_EXCHANGE), (.ref w_CHALLENGES), (.ref w_PASSES), (.ref w_BLOCKS), .null, .null, .null, .null] .null := Arv.set Ar21 q21 Sz21 Ng21 Ha21 Fi21 rfl W21 9 rfl (Nat.le_of_ble_eq_true rfl)
  have O21 := O19.wr W21 ge_b1
  have K21 := K19.wr W21 (Or.inr fr_b1)
  have N21 := Fr.snoc X21 N19 ge_b1
  show Gl p e below s _ _ _ T21 (mkF m 77 #[.val (.int p1), .val (.int ((p1 &&& (2147483647 : Int32)) % (14 : Int32))), .unset, .unset] [(.ref b1)])
  refine Gl.st (fun _ kk => XS.dup X21.here hx rfl (hb hby at_77) rfl rfl kk) ?_
  show Gl p e below s _ _ _ T21 (mkF m 78 #[.val (.int p1), .val (.int ((p1 &&& (2147483647 : Int32)) % (14 : Int32))), .unset, .unset] [(.ref b1), (.ref b1)])
  refine Gl.st (fun _ kk => XS.bipush X21.here hx rfl (hb hby at_78) kk) ?_
  show Gl p e below s _ _ _ T21 (mkF m 80 #[.val (.int p1), .val (.int ((p1 &&& (2147483647 : Int32)) % (14 : Int32))), .unset, .unset] [(.int (10 : Int32)), (.ref b1), (.ref b1)])
  obtain ⟨T22, X22, e22, st22⟩ := getS2 X21 hx hZ hown (host := "") (Or.inl (hw _ (List.mem_of_getElem? (i := 25) rfl))) Via.refl e21 (S_SHOWS.ext O21.2) (g := (mkF m 80 #[.val (.int p1), .val (.int ((p1 &&& (2147483647 : Int32)) % (14 : Int32))), .unset, .unset] [(.int (10 : Int32)), (.ref b1), (.ref b1)])) rfl (hb hby at_80)
  refine Gl.st st22 ?_
  show Gl p e below s _ _ _ T22 (mkF m 83 #[.val (.int p1), .val (.int ((p1 &&& (2147483647 : Int32)) % (14 : Int32))), .unset, .unset] [(.ref w_SHOWS), (.int (10 : Int32)), (.ref b1), (.ref b1)])
  obtain ⟨cl23, Ar23, q23, Sz23, Ng23, Ha23, Fi23⟩ := id Arv_b1
  have hin23 : ¬ ((10 : Int32) < 0 ∨ cl23.slots.size ≤ ((10 : Int32)).toNatClampNeg) := inb_of Sz23 ⟨by decide, by decide⟩
  obtain ⟨T23, h23, X23, e23, W23, st23⟩ := stR X22 hx hZ e22 Ar23 (j := (10 : Int32)) hin23 rfl (Sto.ofV Ar23 q23 Ov1 (Ins.self (E_SHOWS.ext O21.2))) (g := (mkF m 83 #[.val (.int p1), .val (.int ((p1 &&& (2147483647 : Int32)) % (14 : Int32))), .unset, .unset] [(.ref w_SHOWS), (.int (10 : Int32)), (.ref b1), (.ref b1)])) rfl rfl (hb hby at_83)
  refine Gl.st st23 ?_
  have Arv_b1 : Arv Z h23 b1 k1 (.object "com/example/exile_court/exilecourt/rules/Decision$Kind") (14 : Int32) [(.ref w_INCOME), (.ref w_FOREIGN_AID), (.ref w_COUP), (.ref w_TAX), (.ref w_ASSASSINATE), (.ref w_STEAL), (.ref w_EXCHANGE), (.ref w_CHALLENGES), (.ref w_PASSES), (.ref w_BLOCKS), (.ref w_SHOWS), .null, .null, .null] .null := Arv.set Ar23 q23 Sz23 Ng23 Ha23 Fi23 rfl W23 10 rfl (Nat.le_of_ble_eq_true rfl)
  have O23 := O21.wr W23 ge_b1
  have K23 := K21.wr W23 (Or.inr fr_b1)
  have N23 := Fr.snoc X23 N21 ge_b1
  show Gl p e below s _ _ _ T23 (mkF m 84 #[.val (.int p1), .val (.int ((p1 &&& (2147483647 : Int32)) % (14 : Int32))), .unset, .unset] [(.ref b1)])
  refine Gl.st (fun _ kk => XS.dup X23.here hx rfl (hb hby at_84) rfl rfl kk) ?_
  show Gl p e below s _ _ _ T23 (mkF m 85 #[.val (.int p1), .val (.int ((p1 &&& (2147483647 : Int32)) % (14 : Int32))), .unset, .unset] [(.ref b1), (.ref b1)])
  refine Gl.st (fun _ kk => XS.bipush X23.here hx rfl (hb hby at_85) kk) ?_
  show Gl p e below s _ _ _ T23 (mkF m 87 #[.val (.int p1), .val (.int ((p1 &&& (2147483647 : Int32)) % (14 : Int32))), .unset, .unset] [(.int (11 : Int32)), (.ref b1), (.ref b1)])
  obtain ⟨T24, X24, e24, st24⟩ := getS2 X23 hx hZ hown (host := "") (Or.inl (hw _ (List.mem_of_getElem? (i := 27) rfl))) Via.refl e23 (S_DRAWS.ext O23.2) (g := (mkF m 87 #[.val (.int p1), .val (.int ((p1 &&& (2147483647 : Int32)) % (14 : Int32))), .unset, .unset] [(.int (11 : Int32)), (.ref b1), (.ref b1)])) rfl (hb hby at_87)
  refine Gl.st st24 ?_
  show Gl p e below s _ _ _ T24 (mkF m 90 #[.val (.int p1), .val (.int ((p1 &&& (2147483647 : Int32)) % (14 : Int32))), .unset, .unset] [(.ref w_DRAWS), (.int (11 : Int32)), (.ref b1), (.ref b1)])
  obtain ⟨cl25, Ar25, q25, Sz25, Ng25, Ha25, Fi25⟩ := id Arv_b1
  have hin25 : ¬ ((11 : Int32) < 0 ∨ cl25.slots.size ≤ ((11 : Int32)).toNatClampNeg) := inb_of Sz25 ⟨by decide, by decide⟩
  obtain ⟨T25, h25, X25, e25, W25, st25⟩ := stR X24 hx hZ e24 Ar25 (j := (11 : Int32)) hin25 rfl (Sto.ofV Ar25 q25 Ov1 (Ins.self (E_DRAWS.ext O23.2))) (g := (mkF m 90 #[.val (.int p1), .val (.int ((p1 &&& (2147483647 : Int32)) % (14 : Int32))), .unset, .unset] [(.ref w_DRAWS), (.int (11 : Int32)), (.ref b1), (.ref b1)])) rfl rfl (hb hby at_90)
  refine Gl.st st25 ?_
  have Arv_b1 : Arv Z h25 b1 k1 (.object "com/example/exile_court/exilecourt/rules/Decision$Kind") (14 : Int32) [(.ref w_INCOME), (.ref w_FOREIGN_AID), (.ref w_COUP), (.ref w_TAX), (.ref w_ASSASSINATE), (.ref w_STEAL), (.ref w_EXCHANGE), (.ref w_CHALLENGES), (.ref w_PASSES), (.ref w_BLOCKS), (.ref w_SHOWS), (.ref w_DRAWS), .null, .null] .null := Arv.set Ar25 q25 Sz25 Ng25 Ha25 Fi25 rfl W25 11 rfl (Nat.le_of_ble_eq_true rfl)
  have O25 := O23.wr W25 ge_b1
  have K25 := K23.wr W25 (Or.inr fr_b1)
  have N25 := Fr.snoc X25 N23 ge_b1
  show Gl p e below s _ _ _ T25 (mkF m 91 #[.val (.int p1), .val (.int ((p1 &&& (2147483647 : Int32)) % (14 : Int32))), .unset, .unset] [(.ref b1)])
  refine Gl.st (fun _ kk => XS.dup X25.here hx rfl (hb hby at_91) rfl rfl kk) ?_
  show Gl p e below s _ _ _ T25 (mkF m 92 #[.val (.int p1), .val (.int ((p1 &&& (2147483647 : Int32)) % (14 : Int32))), .unset, .unset] [(.ref b1), (.ref b1)])
  refine Gl.st (fun _ kk => XS.bipush X25.here hx rfl (hb hby at_92) kk) ?_
  show Gl p e below s _ _ _ T25 (mkF m 94 #[.val (.int p1), .val (.int ((p1 &&& (2147483647 : Int32)) % (14 : Int32))), .unset, .unset] [(.int (12 : Int32)), (.ref b1), (.ref b1)])
  obtain ⟨T26, X26, e26, st26⟩ := getS2 X25 hx hZ hown (host := "") (Or.inl (hw _ (List.mem_of_getElem? (i := 29) rfl))) Via.refl e25 (S_RETURNS.ext O25.2) (g := (mkF m 94 #[.val (.int p1), .val (.int ((p1 &&& (2147483647 : Int32)) % (14 : Int32))), .unset, .unset] [(.int (12 : Int32)), (.ref b1), (.ref b1)])) rfl (hb hby at_94)
  refine Gl.st st26 ?_
  show Gl p e below s _ _ _ T26 (mkF m 97 #[.val (.int p1), .val (.int ((p1 &&& (2147483647 : Int32)) % (14 : Int32))), .unset, .unset] [(.ref w_RETURNS), (.int (12 : Int32)), (.ref b1), (.ref b1)])
  obtain ⟨cl27, Ar27, q27, Sz27, Ng27, Ha27, Fi27⟩ := id Arv_b1
  have hin27 : ¬ ((12 : Int32) < 0 ∨ cl27.slots.size ≤ ((12 : Int32)).toNatClampNeg) := inb_of Sz27 ⟨by decide, by decide⟩
  obtain ⟨T27, h27, X27, e27, W27, st27⟩ := stR X26 hx hZ e26 Ar27 (j := (12 : Int32)) hin27 rfl (Sto.ofV Ar27 q27 Ov1 (Ins.self (E_RETURNS.ext O25.2))) (g := (mkF m 97 #[.val (.int p1), .val (.int ((p1 &&& (2147483647 : Int32)) % (14 : Int32))), .unset, .unset] [(.ref w_RETURNS), (.int (12 : Int32)), (.ref b1), (.ref b1)])) rfl rfl (hb hby at_97)
  refine Gl.st st27 ?_
  have Arv_b1 : Arv Z h27 b1 k1 (.object "com/example/exile_court/exilecourt/rules/Decision$Kind") (14 : Int32) [(.ref w_INCOME), (.ref w_FOREIGN_AID), (.ref w_COUP), (.ref w_TAX), (.ref w_ASSASSINATE), (.ref w_STEAL), (.ref w_EXCHANGE), (.ref w_CHALLENGES), (.ref w_PASSES), (.ref w_BLOCKS), (.ref w_SHOWS), (.ref w_DRAWS), (.ref w_RETURNS), .null] .null := Arv.set Ar27 q27 Sz27 Ng27 Ha27 Fi27 rfl W27 12 rfl (Nat.le_of_ble_eq_true rfl)
  have O27 := O25.wr W27 ge_b1
  have K27 := K25.wr W27 (Or.inr fr_b1)
  have N27 := Fr.snoc X27 N25 ge_b1
  show Gl p e below s _ _ _ T27 (mkF m 98 #[.val (.int p1), .val (.int ((p1 &&& (2147483647 : Int32)) % (14 : Int32))), .unset, .unset] [(.ref b1)])
  refine Gl.st (fun _ kk => XS.dup X27.here hx rfl (hb hby at_98) rfl rfl kk) ?_
  show Gl p e below s _ _ _ T27 (mkF m 99 #[.val (.int p1), .val (.int ((p1 &&& (2147483647 : Int32)) % (14 : Int32))), .unset, .unset] [(.ref b1), (.ref b1)])
  refine Gl.st (fun _ kk => XS.bipush X27.here hx rfl (hb hby at_99) kk) ?_
  show Gl p e below s _ _ _ T27 (mkF m 101 #[.val (.int p1), .val (.int ((p1 &&& (2147483647 : Int32)) % (14 : Int32))), .unset, .unset] [(.int (13 : Int32)), (.ref b1), (.ref b1)])
  obtain ⟨T28, X28, e28, st28⟩ := getS2 X27 hx hZ hown (host := "") (Or.inl (hw _ (List.mem_of_getElem? (i := 31) rfl))) Via.refl e27 (S_LOSES.ext O27.2) (g := (mkF m 101 #[.val (.int p1), .val (.int ((p1 &&& (2147483647 : Int32)) % (14 : Int32))), .unset, .unset] [(.int (13 : Int32)), (.ref b1), (.ref b1)])) rfl (hb hby at_101)
  refine Gl.st st28 ?_
  show Gl p e below s _ _ _ T28 (mkF m 104 #[.val (.int p1), .val (.int ((p1 &&& (2147483647 : Int32)) % (14 : Int32))), .unset, .unset] [(.ref w_LOSES), (.int (13 : Int32)), (.ref b1), (.ref b1)])
  obtain ⟨cl29, Ar29, q29, Sz29, Ng29, Ha29, Fi29⟩ := id Arv_b1
  have hin29 : ¬ ((13 : Int32) < 0 ∨ cl29.slots.size ≤ ((13 : Int32)).toNatClampNeg) := inb_of Sz29 ⟨by decide, by decide⟩
  obtain ⟨T29, h29, X29, e29, W29, st29⟩ := stR X28 hx hZ e28 Ar29 (j := (13 : Int32)) hin29 rfl (Sto.ofV Ar29 q29 Ov1 (Ins.self (E_LOSES.ext O27.2))) (g := (mkF m 104 #[.val (.int p1), .val (.int ((p1 &&& (2147483647 : Int32)) % (14 : Int32))), .unset, .unset] [(.ref w_LOSES), (.int (13 : Int32)), (.ref b1), (.ref b1)])) rfl rfl (hb hby at_104)
  refine Gl.st st29 ?_
  have Arv_b1 : Arv Z h29 b1 k1 (.object "com/example/exile_court/exilecourt/rules/Decision$Kind") (14 : Int32) [(.ref w_INCOME), (.ref w_FOREIGN_AID), (.ref w_COUP), (.ref w_TAX), (.ref w_ASSASSINATE), (.ref w_STEAL), (.ref w_EXCHANGE), (.ref w_CHALLENGES), (.ref w_PASSES), (.ref w_BLOCKS), (.ref w_SHOWS), (.ref w_DRAWS), (.ref w_RETURNS), (.ref w_LOSES)] .null := Arv.set Ar29 q29 Sz29 Ng29 Ha29 Fi29 rfl W29 13 rfl (Nat.le_of_ble_eq_true rfl)
  have O29 := O27.wr W29 ge_b1
  have K29 := K27.wr W29 (Or.inr fr_b1)
  have N29 := Fr.snoc X29 N27 ge_b1
  show Gl p e below s _ _ _ T29 (mkF m 105 #[.val (.int p1), .val (.int ((p1 &&& (2147483647 : Int32)) % (14 : Int32))), .unset, .unset] [(.ref b1)])
  refine Gl.st (fun _ kk => XS.astoreN X29.here hx rfl (hb hby at_105) rfl rfl (l' := #[.val (.int p1), .val (.int ((p1 &&& (2147483647 : Int32)) % (14 : Int32))), .val (.ref b1), .unset]) rfl kk) ?_
  show Gl p e below s _ _ _ T29 (mkF m 106 #[.val (.int p1), .val (.int ((p1 &&& (2147483647 : Int32)) % (14 : Int32))), .val (.ref b1), .unset] [])
  rcases own_mod14 p1 with hk | hk | hk | hk | hk | hk | hk | hk | hk | hk | hk | hk | hk | hk
  · rw [hk]
    show Gl p e below s _ _ _ T29 (mkF m 106 #[.val (.int p1), .val (.int (0 : Int32)), .val (.ref b1), .unset] [])
    refine Gl.st (fun _ kk => XS.iloadN X29.here hx rfl (hb hby at_106) rfl kk) ?_
    show Gl p e below s _ _ _ T29 (mkF m 107 #[.val (.int p1), .val (.int (0 : Int32)), .val (.ref b1), .unset] [(.int (0 : Int32))])
    refine Gl.st (fun _ kk => XS.bipush X29.here hx rfl (hb hby at_107) kk) ?_
    show Gl p e below s _ _ _ T29 (mkF m 109 #[.val (.int p1), .val (.int (0 : Int32)), .val (.ref b1), .unset] [(.int (8 : Int32)), (.int (0 : Int32))])
    refine Gl.st (fun _ kk => XS.icmpNo X29.here hx rfl (hb hby at_109) rfl (feq (by decide : ¬ ((0 : Int32) = (8 : Int32)))).1 kk) ?_
    show Gl p e below s _ _ _ T29 (mkF m 112 #[.val (.int p1), .val (.int (0 : Int32)), .val (.ref b1), .unset] [])
    refine Gl.st (fun _ kk => XS.iconst X29.here hx rfl (hb hby at_112) kk) ?_
    show Gl p e below s _ _ _ T29 (mkF m 113 #[.val (.int p1), .val (.int (0 : Int32)), .val (.ref b1), .unset] [(.int (1 : Int32))])
    refine Gl.st (fun _ kk => XS.goto X29.here hx rfl (pc0 := 113) (pc' := 117) rfl (hb hby at_113) (by decide) (by decide) kk) ?_
    show Gl p e below s _ _ _ T29 (mkF m 117 #[.val (.int p1), .val (.int (0 : Int32)), .val (.ref b1), .unset] [(.int (1 : Int32))])
    refine Gl.st (fun _ kk => XS.istoreN X29.here hx rfl (hb hby at_117) rfl (l' := #[.val (.int p1), .val (.int (0 : Int32)), .val (.ref b1), .val (.int (1 : Int32))]) rfl kk) ?_
    show Gl p e below s _ _ _ T29 (mkF m 118 #[.val (.int p1), .val (.int (0 : Int32)), .val (.ref b1), .val (.int (1 : Int32))] [])
    refine Gl.st (fun _ kk => XS.aloadN X29.here hx rfl (hb hby at_118) rfl rfl kk) ?_
    show Gl p e below s _ _ _ T29 (mkF m 119 #[.val (.int p1), .val (.int (0 : Int32)), .val (.ref b1), .val (.int (1 : Int32))] [(.ref b1)])
    refine Gl.st (fun _ kk => XS.iloadN X29.here hx rfl (hb hby at_119) rfl kk) ?_
    show Gl p e below s _ _ _ T29 (mkF m 120 #[.val (.int p1), .val (.int (0 : Int32)), .val (.ref b1), .val (.int (1 : Int32))] [(.int (0 : Int32)), (.ref b1)])
    obtain ⟨cl30, Ar30, q30, Sz30, Ng30, Ha30, Fi30⟩ := id Arv_b1
    have hin30 : ¬ ((0 : Int32) < 0 ∨ cl30.slots.size ≤ ((0 : Int32)).toNatClampNeg) := inb_of Sz30 ⟨by decide, by decide⟩
    have hat30 : cl30.slots[((0 : Int32)).toNatClampNeg]? = some (.ref w_INCOME) := Ha30.at hin30 rfl
    refine Gl.st (fun _ kk => X29.aaload hx (j := (0 : Int32)) (v := (.ref w_INCOME)) (by rw [e29]; exact Ar30.1) (State.isArrayOf_alike hZ.alike Ar30.2.1) rfl Ar30.2.2 hin30 hat30 (g := (mkF m 120 #[.val (.int p1), .val (.int (0 : Int32)), .val (.ref b1), .val (.int (1 : Int32))] [(.int (0 : Int32)), (.ref b1)])) rfl rfl (hb hby at_120) _ kk) ?_
    show Gl p e below s _ _ _ T29 (mkF m 121 #[.val (.int p1), .val (.int (0 : Int32)), .val (.ref b1), .val (.int (1 : Int32))] [(.ref w_INCOME)])
    obtain ⟨cq31, kq31, qa31, qb31, qc31⟩ := isOf hZ e29 (E_INCOME.ext O29.2)
    obtain ⟨_, _, ⟨T31, L31, k31, n31⟩, -, X31, ⟨Lc31, hQ31, l31, y31, z31⟩, st31⟩ := X29.virtualBack hx (y := (⟨"com/example/exile_court/exilecourt/rules/Decision$Kind", "isRecorded", "()Z"⟩ : MethodName)) (z := (⟨"com/example/exile_court/exilecourt/rules/Decision$Kind", "isRecorded", "()Z"⟩ : MethodName)) hown (mvT hZ (hw _ (List.mem_of_getElem? (i := 33) rfl))) (mvT hZ (hw _ (List.mem_of_getElem? (i := 34) rfl))) (notFace_of_selects (args := #[]) (mvT hZ (hw _ (List.mem_of_getElem? (i := 36) rfl)))) (mvT hZ (hw _ (List.mem_of_getElem? (i := 36) rfl))) (mvT hZ (hw _ (List.mem_of_getElem? (i := 35) rfl))) (by decide) (backOf (W := 0) (rm1 l Z a0 hw [] w_INCOME w_PASSES 1 h29 n0 O29 S_PASSES (by simp [(F_INCOME.ne F_PASSES (by decide) : w_INCOME ≠ w_PASSES)])) hZ (hw _ (List.mem_of_getElem? (i := 37) rfl)) (hw _ (List.mem_of_getElem? (i := 4) rfl)) (by decide) (by decide)) qa31 qc31 (g := (mkF m 121 #[.val (.int p1), .val (.int (0 : Int32)), .val (.ref b1), .val (.int (1 : Int32))] [(.ref w_INCOME)])) rfl (by rw [hml]; rfl) (Steps.refl _) (argsL := []) (rest := []) (lenOf pd_rm0_0 rfl) rfl (by show 2 * 0 + _ ≤ _; exact Nat.le_of_eq rfl) (hb hby at_121) (fun _ _ => ⟨rfl, e29, (by decide : 1 + 0 ≤ _), (by decide : 14 + 0 ≤ _)⟩)
    dsimp only [Pt.U, Pt.locs, Pt.cells, Pt.slots] at X31 l31 y31 z31 st31 hQ31
    subst l31 y31 z31
    obtain ⟨rfl, Nq31, e31⟩ := hQ31
    have N31 := Fr.app N29 Nq31
    refine Gl.st (fun _ kk => st31.trans kk) ?_
    show Gl p e below s _ _ _ T31 (mkF m 124 #[.val (.int p1), .val (.int (0 : Int32)), .val (.ref b1), .val (.int (1 : Int32))] [(.int (1 : Int32))])
    refine Gl.st (fun _ kk => XS.iloadN X31.here hx rfl (hb hby at_124) rfl kk) ?_
    show Gl p e below s _ _ _ T31 (mkF m 125 #[.val (.int p1), .val (.int (0 : Int32)), .val (.ref b1), .val (.int (1 : Int32))] [(.int (1 : Int32)), (.int (1 : Int32))])
    refine Gl.st (fun _ kk => XS.icmpNo X31.here hx rfl (hb hby at_125) rfl (teq (by decide : (1 : Int32) = (1 : Int32))).2 kk) ?_
    show Gl p e below s _ _ _ T31 (mkF m 128 #[.val (.int p1), .val (.int (0 : Int32)), .val (.ref b1), .val (.int (1 : Int32))] [])
    refine Gl.st (fun _ kk => XS.iconst X31.here hx rfl (hb hby at_128) kk) ?_
    show Gl p e below s _ _ _ T31 (mkF m 129 #[.val (.int p1), .val (.int (0 : Int32)), .val (.ref b1), .val (.int (1 : Int32))] [(.int (1 : Int32))])
    refine Gl.st (fun _ kk => XS.goto X31.here hx rfl (pc0 := 129) (pc' := 133) rfl (hb hby at_129) (by decide) (by decide) kk) ?_
    show Gl p e below s _ _ _ T31 (mkF m 133 #[.val (.int p1), .val (.int (0 : Int32)), .val (.ref b1), .val (.int (1 : Int32))] [(.int (1 : Int32))])
    exact Gl.ret X31 (v := (some (.int (1 : Int32)))) (fun h => by rw [Bd.returns] at h; cases h) (BodyLoose.notSynchronized Bd) (fun hr => retN X31 hx (t := .boolean) Bd.returns (by simp) (hb hby at_133) hr) e31 ⟨rfl, N31⟩ (by decide) (by decide)
  · rw [hk]
    show Gl p e below s _ _ _ T29 (mkF m 106 #[.val (.int p1), .val (.int (1 : Int32)), .val (.ref b1), .unset] [])
    refine Gl.st (fun _ kk => XS.iloadN X29.here hx rfl (hb hby at_106) rfl kk) ?_
    show Gl p e below s _ _ _ T29 (mkF m 107 #[.val (.int p1), .val (.int (1 : Int32)), .val (.ref b1), .unset] [(.int (1 : Int32))])
    refine Gl.st (fun _ kk => XS.bipush X29.here hx rfl (hb hby at_107) kk) ?_
    show Gl p e below s _ _ _ T29 (mkF m 109 #[.val (.int p1), .val (.int (1 : Int32)), .val (.ref b1), .unset] [(.int (8 : Int32)), (.int (1 : Int32))])
    refine Gl.st (fun _ kk => XS.icmpNo X29.here hx rfl (hb hby at_109) rfl (feq (by decide : ¬ ((1 : Int32) = (8 : Int32)))).1 kk) ?_
    show Gl p e below s _ _ _ T29 (mkF m 112 #[.val (.int p1), .val (.int (1 : Int32)), .val (.ref b1), .unset] [])
    refine Gl.st (fun _ kk => XS.iconst X29.here hx rfl (hb hby at_112) kk) ?_
    show Gl p e below s _ _ _ T29 (mkF m 113 #[.val (.int p1), .val (.int (1 : Int32)), .val (.ref b1), .unset] [(.int (1 : Int32))])
    refine Gl.st (fun _ kk => XS.goto X29.here hx rfl (pc0 := 113) (pc' := 117) rfl (hb hby at_113) (by decide) (by decide) kk) ?_
    show Gl p e below s _ _ _ T29 (mkF m 117 #[.val (.int p1), .val (.int (1 : Int32)), .val (.ref b1), .unset] [(.int (1 : Int32))])
    refine Gl.st (fun _ kk => XS.istoreN X29.here hx rfl (hb hby at_117) rfl (l' := #[.val (.int p1), .val (.int (1 : Int32)), .val (.ref b1), .val (.int (1 : Int32))]) rfl kk) ?_
    show Gl p e below s _ _ _ T29 (mkF m 118 #[.val (.int p1), .val (.int (1 : Int32)), .val (.ref b1), .val (.int (1 : Int32))] [])
    refine Gl.st (fun _ kk => XS.aloadN X29.here hx rfl (hb hby at_118) rfl rfl kk) ?_
    show Gl p e below s _ _ _ T29 (mkF m 119 #[.val (.int p1), .val (.int (1 : Int32)), .val (.ref b1), .val (.int (1 : Int32))] [(.ref b1)])
    refine Gl.st (fun _ kk => XS.iloadN X29.here hx rfl (hb hby at_119) rfl kk) ?_
    show Gl p e below s _ _ _ T29 (mkF m 120 #[.val (.int p1), .val (.int (1 : Int32)), .val (.ref b1), .val (.int (1 : Int32))] [(.int (1 : Int32)), (.ref b1)])
    obtain ⟨cl32, Ar32, q32, Sz32, Ng32, Ha32, Fi32⟩ := id Arv_b1
    have hin32 : ¬ ((1 : Int32) < 0 ∨ cl32.slots.size ≤ ((1 : Int32)).toNatClampNeg) := inb_of Sz32 ⟨by decide, by decide⟩
    have hat32 : cl32.slots[((1 : Int32)).toNatClampNeg]? = some (.ref w_FOREIGN_AID) := Ha32.at hin32 rfl
    refine Gl.st (fun _ kk => X29.aaload hx (j := (1 : Int32)) (v := (.ref w_FOREIGN_AID)) (by rw [e29]; exact Ar32.1) (State.isArrayOf_alike hZ.alike Ar32.2.1) rfl Ar32.2.2 hin32 hat32 (g := (mkF m 120 #[.val (.int p1), .val (.int (1 : Int32)), .val (.ref b1), .val (.int (1 : Int32))] [(.int (1 : Int32)), (.ref b1)])) rfl rfl (hb hby at_120) _ kk) ?_
    show Gl p e below s _ _ _ T29 (mkF m 121 #[.val (.int p1), .val (.int (1 : Int32)), .val (.ref b1), .val (.int (1 : Int32))] [(.ref w_FOREIGN_AID)])
    obtain ⟨cq33, kq33, qa33, qb33, qc33⟩ := isOf hZ e29 (E_FOREIGN_AID.ext O29.2)
    obtain ⟨_, _, ⟨T33, L33, k33, n33⟩, -, X33, ⟨Lc33, hQ33, l33, y33, z33⟩, st33⟩ := X29.virtualBack hx (y := (⟨"com/example/exile_court/exilecourt/rules/Decision$Kind", "isRecorded", "()Z"⟩ : MethodName)) (z := (⟨"com/example/exile_court/exilecourt/rules/Decision$Kind", "isRecorded", "()Z"⟩ : MethodName)) hown (mvT hZ (hw _ (List.mem_of_getElem? (i := 33) rfl))) (mvT hZ (hw _ (List.mem_of_getElem? (i := 34) rfl))) (notFace_of_selects (args := #[]) (mvT hZ (hw _ (List.mem_of_getElem? (i := 36) rfl)))) (mvT hZ (hw _ (List.mem_of_getElem? (i := 36) rfl))) (mvT hZ (hw _ (List.mem_of_getElem? (i := 35) rfl))) (by decide) (backOf (W := 0) (rm1 l Z a0 hw [] w_FOREIGN_AID w_PASSES 1 h29 n0 O29 S_PASSES (by simp [(F_FOREIGN_AID.ne F_PASSES (by decide) : w_FOREIGN_AID ≠ w_PASSES)])) hZ (hw _ (List.mem_of_getElem? (i := 37) rfl)) (hw _ (List.mem_of_getElem? (i := 4) rfl)) (by decide) (by decide)) qa33 qc33 (g := (mkF m 121 #[.val (.int p1), .val (.int (1 : Int32)), .val (.ref b1), .val (.int (1 : Int32))] [(.ref w_FOREIGN_AID)])) rfl (by rw [hml]; rfl) (Steps.refl _) (argsL := []) (rest := []) (lenOf pd_rm0_0 rfl) rfl (by show 2 * 0 + _ ≤ _; exact Nat.le_of_eq rfl) (hb hby at_121) (fun _ _ => ⟨rfl, e29, (by decide : 1 + 0 ≤ _), (by decide : 14 + 0 ≤ _)⟩)
    dsimp only [Pt.U, Pt.locs, Pt.cells, Pt.slots] at X33 l33 y33 z33 st33 hQ33
    subst l33 y33 z33
    obtain ⟨rfl, Nq33, e33⟩ := hQ33
    have N33 := Fr.app N29 Nq33
    refine Gl.st (fun _ kk => st33.trans kk) ?_
    show Gl p e below s _ _ _ T33 (mkF m 124 #[.val (.int p1), .val (.int (1 : Int32)), .val (.ref b1), .val (.int (1 : Int32))] [(.int (1 : Int32))])
    refine Gl.st (fun _ kk => XS.iloadN X33.here hx rfl (hb hby at_124) rfl kk) ?_
    show Gl p e below s _ _ _ T33 (mkF m 125 #[.val (.int p1), .val (.int (1 : Int32)), .val (.ref b1), .val (.int (1 : Int32))] [(.int (1 : Int32)), (.int (1 : Int32))])
    refine Gl.st (fun _ kk => XS.icmpNo X33.here hx rfl (hb hby at_125) rfl (teq (by decide : (1 : Int32) = (1 : Int32))).2 kk) ?_
    show Gl p e below s _ _ _ T33 (mkF m 128 #[.val (.int p1), .val (.int (1 : Int32)), .val (.ref b1), .val (.int (1 : Int32))] [])
    refine Gl.st (fun _ kk => XS.iconst X33.here hx rfl (hb hby at_128) kk) ?_
    show Gl p e below s _ _ _ T33 (mkF m 129 #[.val (.int p1), .val (.int (1 : Int32)), .val (.ref b1), .val (.int (1 : Int32))] [(.int (1 : Int32))])
    refine Gl.st (fun _ kk => XS.goto X33.here hx rfl (pc0 := 129) (pc' := 133) rfl (hb hby at_129) (by decide) (by decide) kk) ?_
    show Gl p e below s _ _ _ T33 (mkF m 133 #[.val (.int p1), .val (.int (1 : Int32)), .val (.ref b1), .val (.int (1 : Int32))] [(.int (1 : Int32))])
    exact Gl.ret X33 (v := (some (.int (1 : Int32)))) (fun h => by rw [Bd.returns] at h; cases h) (BodyLoose.notSynchronized Bd) (fun hr => retN X33 hx (t := .boolean) Bd.returns (by simp) (hb hby at_133) hr) e33 ⟨rfl, N33⟩ (by decide) (by decide)
  · rw [hk]
    show Gl p e below s _ _ _ T29 (mkF m 106 #[.val (.int p1), .val (.int (2 : Int32)), .val (.ref b1), .unset] [])
    refine Gl.st (fun _ kk => XS.iloadN X29.here hx rfl (hb hby at_106) rfl kk) ?_
    show Gl p e below s _ _ _ T29 (mkF m 107 #[.val (.int p1), .val (.int (2 : Int32)), .val (.ref b1), .unset] [(.int (2 : Int32))])
    refine Gl.st (fun _ kk => XS.bipush X29.here hx rfl (hb hby at_107) kk) ?_
    show Gl p e below s _ _ _ T29 (mkF m 109 #[.val (.int p1), .val (.int (2 : Int32)), .val (.ref b1), .unset] [(.int (8 : Int32)), (.int (2 : Int32))])
    refine Gl.st (fun _ kk => XS.icmpNo X29.here hx rfl (hb hby at_109) rfl (feq (by decide : ¬ ((2 : Int32) = (8 : Int32)))).1 kk) ?_
    show Gl p e below s _ _ _ T29 (mkF m 112 #[.val (.int p1), .val (.int (2 : Int32)), .val (.ref b1), .unset] [])
    refine Gl.st (fun _ kk => XS.iconst X29.here hx rfl (hb hby at_112) kk) ?_
    show Gl p e below s _ _ _ T29 (mkF m 113 #[.val (.int p1), .val (.int (2 : Int32)), .val (.ref b1), .unset] [(.int (1 : Int32))])
    refine Gl.st (fun _ kk => XS.goto X29.here hx rfl (pc0 := 113) (pc' := 117) rfl (hb hby at_113) (by decide) (by decide) kk) ?_
    show Gl p e below s _ _ _ T29 (mkF m 117 #[.val (.int p1), .val (.int (2 : Int32)), .val (.ref b1), .unset] [(.int (1 : Int32))])
    refine Gl.st (fun _ kk => XS.istoreN X29.here hx rfl (hb hby at_117) rfl (l' := #[.val (.int p1), .val (.int (2 : Int32)), .val (.ref b1), .val (.int (1 : Int32))]) rfl kk) ?_
    show Gl p e below s _ _ _ T29 (mkF m 118 #[.val (.int p1), .val (.int (2 : Int32)), .val (.ref b1), .val (.int (1 : Int32))] [])
    refine Gl.st (fun _ kk => XS.aloadN X29.here hx rfl (hb hby at_118) rfl rfl kk) ?_
    show Gl p e below s _ _ _ T29 (mkF m 119 #[.val (.int p1), .val (.int (2 : Int32)), .val (.ref b1), .val (.int (1 : Int32))] [(.ref b1)])
    refine Gl.st (fun _ kk => XS.iloadN X29.here hx rfl (hb hby at_119) rfl kk) ?_
    show Gl p e below s _ _ _ T29 (mkF m 120 #[.val (.int p1), .val (.int (2 : Int32)), .val (.ref b1), .val (.int (1 : Int32))] [(.int (2 : Int32)), (.ref b1)])
    obtain ⟨cl34, Ar34, q34, Sz34, Ng34, Ha34, Fi34⟩ := id Arv_b1
    have hin34 : ¬ ((2 : Int32) < 0 ∨ cl34.slots.size ≤ ((2 : Int32)).toNatClampNeg) := inb_of Sz34 ⟨by decide, by decide⟩
    have hat34 : cl34.slots[((2 : Int32)).toNatClampNeg]? = some (.ref w_COUP) := Ha34.at hin34 rfl
    refine Gl.st (fun _ kk => X29.aaload hx (j := (2 : Int32)) (v := (.ref w_COUP)) (by rw [e29]; exact Ar34.1) (State.isArrayOf_alike hZ.alike Ar34.2.1) rfl Ar34.2.2 hin34 hat34 (g := (mkF m 120 #[.val (.int p1), .val (.int (2 : Int32)), .val (.ref b1), .val (.int (1 : Int32))] [(.int (2 : Int32)), (.ref b1)])) rfl rfl (hb hby at_120) _ kk) ?_
    show Gl p e below s _ _ _ T29 (mkF m 121 #[.val (.int p1), .val (.int (2 : Int32)), .val (.ref b1), .val (.int (1 : Int32))] [(.ref w_COUP)])
    obtain ⟨cq35, kq35, qa35, qb35, qc35⟩ := isOf hZ e29 (E_COUP.ext O29.2)
    obtain ⟨_, _, ⟨T35, L35, k35, n35⟩, -, X35, ⟨Lc35, hQ35, l35, y35, z35⟩, st35⟩ := X29.virtualBack hx (y := (⟨"com/example/exile_court/exilecourt/rules/Decision$Kind", "isRecorded", "()Z"⟩ : MethodName)) (z := (⟨"com/example/exile_court/exilecourt/rules/Decision$Kind", "isRecorded", "()Z"⟩ : MethodName)) hown (mvT hZ (hw _ (List.mem_of_getElem? (i := 33) rfl))) (mvT hZ (hw _ (List.mem_of_getElem? (i := 34) rfl))) (notFace_of_selects (args := #[]) (mvT hZ (hw _ (List.mem_of_getElem? (i := 36) rfl)))) (mvT hZ (hw _ (List.mem_of_getElem? (i := 36) rfl))) (mvT hZ (hw _ (List.mem_of_getElem? (i := 35) rfl))) (by decide) (backOf (W := 0) (rm1 l Z a0 hw [] w_COUP w_PASSES 1 h29 n0 O29 S_PASSES (by simp [(F_COUP.ne F_PASSES (by decide) : w_COUP ≠ w_PASSES)])) hZ (hw _ (List.mem_of_getElem? (i := 37) rfl)) (hw _ (List.mem_of_getElem? (i := 4) rfl)) (by decide) (by decide)) qa35 qc35 (g := (mkF m 121 #[.val (.int p1), .val (.int (2 : Int32)), .val (.ref b1), .val (.int (1 : Int32))] [(.ref w_COUP)])) rfl (by rw [hml]; rfl) (Steps.refl _) (argsL := []) (rest := []) (lenOf pd_rm0_0 rfl) rfl (by show 2 * 0 + _ ≤ _; exact Nat.le_of_eq rfl) (hb hby at_121) (fun _ _ => ⟨rfl, e29, (by decide : 1 + 0 ≤ _), (by decide : 14 + 0 ≤ _)⟩)
    dsimp only [Pt.U, Pt.locs, Pt.cells, Pt.slots] at X35 l35 y35 z35 st35 hQ35
    subst l35 y35 z35
    obtain ⟨rfl, Nq35, e35⟩ := hQ35
    have N35 := Fr.app N29 Nq35
    refine Gl.st (fun _ kk => st35.trans kk) ?_
    show Gl p e below s _ _ _ T35 (mkF m 124 #[.val (.int p1), .val (.int (2 : Int32)), .val (.ref b1), .val (.int (1 : Int32))] [(.int (1 : Int32))])
    refine Gl.st (fun _ kk => XS.iloadN X35.here hx rfl (hb hby at_124) rfl kk) ?_
    show Gl p e below s _ _ _ T35 (mkF m 125 #[.val (.int p1), .val (.int (2 : Int32)), .val (.ref b1), .val (.int (1 : Int32))] [(.int (1 : Int32)), (.int (1 : Int32))])
    refine Gl.st (fun _ kk => XS.icmpNo X35.here hx rfl (hb hby at_125) rfl (teq (by decide : (1 : Int32) = (1 : Int32))).2 kk) ?_
    show Gl p e below s _ _ _ T35 (mkF m 128 #[.val (.int p1), .val (.int (2 : Int32)), .val (.ref b1), .val (.int (1 : Int32))] [])
    refine Gl.st (fun _ kk => XS.iconst X35.here hx rfl (hb hby at_128) kk) ?_
    show Gl p e below s _ _ _ T35 (mkF m 129 #[.val (.int p1), .val (.int (2 : Int32)), .val (.ref b1), .val (.int (1 : Int32))] [(.int (1 : Int32))])
    refine Gl.st (fun _ kk => XS.goto X35.here hx rfl (pc0 := 129) (pc' := 133) rfl (hb hby at_129) (by decide) (by decide) kk) ?_
    show Gl p e below s _ _ _ T35 (mkF m 133 #[.val (.int p1), .val (.int (2 : Int32)), .val (.ref b1), .val (.int (1 : Int32))] [(.int (1 : Int32))])
    exact Gl.ret X35 (v := (some (.int (1 : Int32)))) (fun h => by rw [Bd.returns] at h; cases h) (BodyLoose.notSynchronized Bd) (fun hr => retN X35 hx (t := .boolean) Bd.returns (by simp) (hb hby at_133) hr) e35 ⟨rfl, N35⟩ (by decide) (by decide)
  · rw [hk]
    show Gl p e below s _ _ _ T29 (mkF m 106 #[.val (.int p1), .val (.int (3 : Int32)), .val (.ref b1), .unset] [])
    refine Gl.st (fun _ kk => XS.iloadN X29.here hx rfl (hb hby at_106) rfl kk) ?_
    show Gl p e below s _ _ _ T29 (mkF m 107 #[.val (.int p1), .val (.int (3 : Int32)), .val (.ref b1), .unset] [(.int (3 : Int32))])
    refine Gl.st (fun _ kk => XS.bipush X29.here hx rfl (hb hby at_107) kk) ?_
    show Gl p e below s _ _ _ T29 (mkF m 109 #[.val (.int p1), .val (.int (3 : Int32)), .val (.ref b1), .unset] [(.int (8 : Int32)), (.int (3 : Int32))])
    refine Gl.st (fun _ kk => XS.icmpNo X29.here hx rfl (hb hby at_109) rfl (feq (by decide : ¬ ((3 : Int32) = (8 : Int32)))).1 kk) ?_
    show Gl p e below s _ _ _ T29 (mkF m 112 #[.val (.int p1), .val (.int (3 : Int32)), .val (.ref b1), .unset] [])
    refine Gl.st (fun _ kk => XS.iconst X29.here hx rfl (hb hby at_112) kk) ?_
    show Gl p e below s _ _ _ T29 (mkF m 113 #[.val (.int p1), .val (.int (3 : Int32)), .val (.ref b1), .unset] [(.int (1 : Int32))])
    refine Gl.st (fun _ kk => XS.goto X29.here hx rfl (pc0 := 113) (pc' := 117) rfl (hb hby at_113) (by decide) (by decide) kk) ?_
    show Gl p e below s _ _ _ T29 (mkF m 117 #[.val (.int p1), .val (.int (3 : Int32)), .val (.ref b1), .unset] [(.int (1 : Int32))])
    refine Gl.st (fun _ kk => XS.istoreN X29.here hx rfl (hb hby at_117) rfl (l' := #[.val (.int p1), .val (.int (3 : Int32)), .val (.ref b1), .val (.int (1 : Int32))]) rfl kk) ?_
    show Gl p e below s _ _ _ T29 (mkF m 118 #[.val (.int p1), .val (.int (3 : Int32)), .val (.ref b1), .val (.int (1 : Int32))] [])
    refine Gl.st (fun _ kk => XS.aloadN X29.here hx rfl (hb hby at_118) rfl rfl kk) ?_
    show Gl p e below s _ _ _ T29 (mkF m 119 #[.val (.int p1), .val (.int (3 : Int32)), .val (.ref b1), .val (.int (1 : Int32))] [(.ref b1)])
    refine Gl.st (fun _ kk => XS.iloadN X29.here hx rfl (hb hby at_119) rfl kk) ?_
    show Gl p e below s _ _ _ T29 (mkF m 120 #[.val (.int p1), .val (.int (3 : Int32)), .val (.ref b1), .val (.int (1 : Int32))] [(.int (3 : Int32)), (.ref b1)])
    obtain ⟨cl36, Ar36, q36, Sz36, Ng36, Ha36, Fi36⟩ := id Arv_b1
    have hin36 : ¬ ((3 : Int32) < 0 ∨ cl36.slots.size ≤ ((3 : Int32)).toNatClampNeg) := inb_of Sz36 ⟨by decide, by decide⟩
    have hat36 : cl36.slots[((3 : Int32)).toNatClampNeg]? = some (.ref w_TAX) := Ha36.at hin36 rfl
    refine Gl.st (fun _ kk => X29.aaload hx (j := (3 : Int32)) (v := (.ref w_TAX)) (by rw [e29]; exact Ar36.1) (State.isArrayOf_alike hZ.alike Ar36.2.1) rfl Ar36.2.2 hin36 hat36 (g := (mkF m 120 #[.val (.int p1), .val (.int (3 : Int32)), .val (.ref b1), .val (.int (1 : Int32))] [(.int (3 : Int32)), (.ref b1)])) rfl rfl (hb hby at_120) _ kk) ?_
    show Gl p e below s _ _ _ T29 (mkF m 121 #[.val (.int p1), .val (.int (3 : Int32)), .val (.ref b1), .val (.int (1 : Int32))] [(.ref w_TAX)])
    obtain ⟨cq37, kq37, qa37, qb37, qc37⟩ := isOf hZ e29 (E_TAX.ext O29.2)
    obtain ⟨_, _, ⟨T37, L37, k37, n37⟩, -, X37, ⟨Lc37, hQ37, l37, y37, z37⟩, st37⟩ := X29.virtualBack hx (y := (⟨"com/example/exile_court/exilecourt/rules/Decision$Kind", "isRecorded", "()Z"⟩ : MethodName)) (z := (⟨"com/example/exile_court/exilecourt/rules/Decision$Kind", "isRecorded", "()Z"⟩ : MethodName)) hown (mvT hZ (hw _ (List.mem_of_getElem? (i := 33) rfl))) (mvT hZ (hw _ (List.mem_of_getElem? (i := 34) rfl))) (notFace_of_selects (args := #[]) (mvT hZ (hw _ (List.mem_of_getElem? (i := 36) rfl)))) (mvT hZ (hw _ (List.mem_of_getElem? (i := 36) rfl))) (mvT hZ (hw _ (List.mem_of_getElem? (i := 35) rfl))) (by decide) (backOf (W := 0) (rm1 l Z a0 hw [] w_TAX w_PASSES 1 h29 n0 O29 S_PASSES (by simp [(F_TAX.ne F_PASSES (by decide) : w_TAX ≠ w_PASSES)])) hZ (hw _ (List.mem_of_getElem? (i := 37) rfl)) (hw _ (List.mem_of_getElem? (i := 4) rfl)) (by decide) (by decide)) qa37 qc37 (g := (mkF m 121 #[.val (.int p1), .val (.int (3 : Int32)), .val (.ref b1), .val (.int (1 : Int32))] [(.ref w_TAX)])) rfl (by rw [hml]; rfl) (Steps.refl _) (argsL := []) (rest := []) (lenOf pd_rm0_0 rfl) rfl (by show 2 * 0 + _ ≤ _; exact Nat.le_of_eq rfl) (hb hby at_121) (fun _ _ => ⟨rfl, e29, (by decide : 1 + 0 ≤ _), (by decide : 14 + 0 ≤ _)⟩)
    dsimp only [Pt.U, Pt.locs, Pt.cells, Pt.slots] at X37 l37 y37 z37 st37 hQ37
    subst l37 y37 z37
    obtain ⟨rfl, Nq37, e37⟩ := hQ37
    have N37 := Fr.app N29 Nq37
    refine Gl.st (fun _ kk => st37.trans kk) ?_
    show Gl p e below s _ _ _ T37 (mkF m 124 #[.val (.int p1), .val (.int (3 : Int32)), .val (.ref b1), .val (.int (1 : Int32))] [(.int (1 : Int32))])
    refine Gl.st (fun _ kk => XS.iloadN X37.here hx rfl (hb hby at_124) rfl kk) ?_
    show Gl p e below s _ _ _ T37 (mkF m 125 #[.val (.int p1), .val (.int (3 : Int32)), .val (.ref b1), .val (.int (1 : Int32))] [(.int (1 : Int32)), (.int (1 : Int32))])
    refine Gl.st (fun _ kk => XS.icmpNo X37.here hx rfl (hb hby at_125) rfl (teq (by decide : (1 : Int32) = (1 : Int32))).2 kk) ?_
    show Gl p e below s _ _ _ T37 (mkF m 128 #[.val (.int p1), .val (.int (3 : Int32)), .val (.ref b1), .val (.int (1 : Int32))] [])
    refine Gl.st (fun _ kk => XS.iconst X37.here hx rfl (hb hby at_128) kk) ?_
    show Gl p e below s _ _ _ T37 (mkF m 129 #[.val (.int p1), .val (.int (3 : Int32)), .val (.ref b1), .val (.int (1 : Int32))] [(.int (1 : Int32))])
    refine Gl.st (fun _ kk => XS.goto X37.here hx rfl (pc0 := 129) (pc' := 133) rfl (hb hby at_129) (by decide) (by decide) kk) ?_
    show Gl p e below s _ _ _ T37 (mkF m 133 #[.val (.int p1), .val (.int (3 : Int32)), .val (.ref b1), .val (.int (1 : Int32))] [(.int (1 : Int32))])
    exact Gl.ret X37 (v := (some (.int (1 : Int32)))) (fun h => by rw [Bd.returns] at h; cases h) (BodyLoose.notSynchronized Bd) (fun hr => retN X37 hx (t := .boolean) Bd.returns (by simp) (hb hby at_133) hr) e37 ⟨rfl, N37⟩ (by decide) (by decide)
  · rw [hk]
    show Gl p e below s _ _ _ T29 (mkF m 106 #[.val (.int p1), .val (.int (4 : Int32)), .val (.ref b1), .unset] [])
    refine Gl.st (fun _ kk => XS.iloadN X29.here hx rfl (hb hby at_106) rfl kk) ?_
    show Gl p e below s _ _ _ T29 (mkF m 107 #[.val (.int p1), .val (.int (4 : Int32)), .val (.ref b1), .unset] [(.int (4 : Int32))])
    refine Gl.st (fun _ kk => XS.bipush X29.here hx rfl (hb hby at_107) kk) ?_
    show Gl p e below s _ _ _ T29 (mkF m 109 #[.val (.int p1), .val (.int (4 : Int32)), .val (.ref b1), .unset] [(.int (8 : Int32)), (.int (4 : Int32))])
    refine Gl.st (fun _ kk => XS.icmpNo X29.here hx rfl (hb hby at_109) rfl (feq (by decide : ¬ ((4 : Int32) = (8 : Int32)))).1 kk) ?_
    show Gl p e below s _ _ _ T29 (mkF m 112 #[.val (.int p1), .val (.int (4 : Int32)), .val (.ref b1), .unset] [])
    refine Gl.st (fun _ kk => XS.iconst X29.here hx rfl (hb hby at_112) kk) ?_
    show Gl p e below s _ _ _ T29 (mkF m 113 #[.val (.int p1), .val (.int (4 : Int32)), .val (.ref b1), .unset] [(.int (1 : Int32))])
    refine Gl.st (fun _ kk => XS.goto X29.here hx rfl (pc0 := 113) (pc' := 117) rfl (hb hby at_113) (by decide) (by decide) kk) ?_
    show Gl p e below s _ _ _ T29 (mkF m 117 #[.val (.int p1), .val (.int (4 : Int32)), .val (.ref b1), .unset] [(.int (1 : Int32))])
    refine Gl.st (fun _ kk => XS.istoreN X29.here hx rfl (hb hby at_117) rfl (l' := #[.val (.int p1), .val (.int (4 : Int32)), .val (.ref b1), .val (.int (1 : Int32))]) rfl kk) ?_
    show Gl p e below s _ _ _ T29 (mkF m 118 #[.val (.int p1), .val (.int (4 : Int32)), .val (.ref b1), .val (.int (1 : Int32))] [])
    refine Gl.st (fun _ kk => XS.aloadN X29.here hx rfl (hb hby at_118) rfl rfl kk) ?_
    show Gl p e below s _ _ _ T29 (mkF m 119 #[.val (.int p1), .val (.int (4 : Int32)), .val (.ref b1), .val (.int (1 : Int32))] [(.ref b1)])
    refine Gl.st (fun _ kk => XS.iloadN X29.here hx rfl (hb hby at_119) rfl kk) ?_
    show Gl p e below s _ _ _ T29 (mkF m 120 #[.val (.int p1), .val (.int (4 : Int32)), .val (.ref b1), .val (.int (1 : Int32))] [(.int (4 : Int32)), (.ref b1)])
    obtain ⟨cl38, Ar38, q38, Sz38, Ng38, Ha38, Fi38⟩ := id Arv_b1
    have hin38 : ¬ ((4 : Int32) < 0 ∨ cl38.slots.size ≤ ((4 : Int32)).toNatClampNeg) := inb_of Sz38 ⟨by decide, by decide⟩
    have hat38 : cl38.slots[((4 : Int32)).toNatClampNeg]? = some (.ref w_ASSASSINATE) := Ha38.at hin38 rfl
    refine Gl.st (fun _ kk => X29.aaload hx (j := (4 : Int32)) (v := (.ref w_ASSASSINATE)) (by rw [e29]; exact Ar38.1) (State.isArrayOf_alike hZ.alike Ar38.2.1) rfl Ar38.2.2 hin38 hat38 (g := (mkF m 120 #[.val (.int p1), .val (.int (4 : Int32)), .val (.ref b1), .val (.int (1 : Int32))] [(.int (4 : Int32)), (.ref b1)])) rfl rfl (hb hby at_120) _ kk) ?_
    show Gl p e below s _ _ _ T29 (mkF m 121 #[.val (.int p1), .val (.int (4 : Int32)), .val (.ref b1), .val (.int (1 : Int32))] [(.ref w_ASSASSINATE)])
    obtain ⟨cq39, kq39, qa39, qb39, qc39⟩ := isOf hZ e29 (E_ASSASSINATE.ext O29.2)
    obtain ⟨_, _, ⟨T39, L39, k39, n39⟩, -, X39, ⟨Lc39, hQ39, l39, y39, z39⟩, st39⟩ := X29.virtualBack hx (y := (⟨"com/example/exile_court/exilecourt/rules/Decision$Kind", "isRecorded", "()Z"⟩ : MethodName)) (z := (⟨"com/example/exile_court/exilecourt/rules/Decision$Kind", "isRecorded", "()Z"⟩ : MethodName)) hown (mvT hZ (hw _ (List.mem_of_getElem? (i := 33) rfl))) (mvT hZ (hw _ (List.mem_of_getElem? (i := 34) rfl))) (notFace_of_selects (args := #[]) (mvT hZ (hw _ (List.mem_of_getElem? (i := 36) rfl)))) (mvT hZ (hw _ (List.mem_of_getElem? (i := 36) rfl))) (mvT hZ (hw _ (List.mem_of_getElem? (i := 35) rfl))) (by decide) (backOf (W := 0) (rm1 l Z a0 hw [] w_ASSASSINATE w_PASSES 1 h29 n0 O29 S_PASSES (by simp [(F_ASSASSINATE.ne F_PASSES (by decide) : w_ASSASSINATE ≠ w_PASSES)])) hZ (hw _ (List.mem_of_getElem? (i := 37) rfl)) (hw _ (List.mem_of_getElem? (i := 4) rfl)) (by decide) (by decide)) qa39 qc39 (g := (mkF m 121 #[.val (.int p1), .val (.int (4 : Int32)), .val (.ref b1), .val (.int (1 : Int32))] [(.ref w_ASSASSINATE)])) rfl (by rw [hml]; rfl) (Steps.refl _) (argsL := []) (rest := []) (lenOf pd_rm0_0 rfl) rfl (by show 2 * 0 + _ ≤ _; exact Nat.le_of_eq rfl) (hb hby at_121) (fun _ _ => ⟨rfl, e29, (by decide : 1 + 0 ≤ _), (by decide : 14 + 0 ≤ _)⟩)
    dsimp only [Pt.U, Pt.locs, Pt.cells, Pt.slots] at X39 l39 y39 z39 st39 hQ39
    subst l39 y39 z39
    obtain ⟨rfl, Nq39, e39⟩ := hQ39
    have N39 := Fr.app N29 Nq39
    refine Gl.st (fun _ kk => st39.trans kk) ?_
    show Gl p e below s _ _ _ T39 (mkF m 124 #[.val (.int p1), .val (.int (4 : Int32)), .val (.ref b1), .val (.int (1 : Int32))] [(.int (1 : Int32))])
    refine Gl.st (fun _ kk => XS.iloadN X39.here hx rfl (hb hby at_124) rfl kk) ?_
    show Gl p e below s _ _ _ T39 (mkF m 125 #[.val (.int p1), .val (.int (4 : Int32)), .val (.ref b1), .val (.int (1 : Int32))] [(.int (1 : Int32)), (.int (1 : Int32))])
    refine Gl.st (fun _ kk => XS.icmpNo X39.here hx rfl (hb hby at_125) rfl (teq (by decide : (1 : Int32) = (1 : Int32))).2 kk) ?_
    show Gl p e below s _ _ _ T39 (mkF m 128 #[.val (.int p1), .val (.int (4 : Int32)), .val (.ref b1), .val (.int (1 : Int32))] [])
    refine Gl.st (fun _ kk => XS.iconst X39.here hx rfl (hb hby at_128) kk) ?_
    show Gl p e below s _ _ _ T39 (mkF m 129 #[.val (.int p1), .val (.int (4 : Int32)), .val (.ref b1), .val (.int (1 : Int32))] [(.int (1 : Int32))])
    refine Gl.st (fun _ kk => XS.goto X39.here hx rfl (pc0 := 129) (pc' := 133) rfl (hb hby at_129) (by decide) (by decide) kk) ?_
    show Gl p e below s _ _ _ T39 (mkF m 133 #[.val (.int p1), .val (.int (4 : Int32)), .val (.ref b1), .val (.int (1 : Int32))] [(.int (1 : Int32))])
    exact Gl.ret X39 (v := (some (.int (1 : Int32)))) (fun h => by rw [Bd.returns] at h; cases h) (BodyLoose.notSynchronized Bd) (fun hr => retN X39 hx (t := .boolean) Bd.returns (by simp) (hb hby at_133) hr) e39 ⟨rfl, N39⟩ (by decide) (by decide)
  · rw [hk]
    show Gl p e below s _ _ _ T29 (mkF m 106 #[.val (.int p1), .val (.int (5 : Int32)), .val (.ref b1), .unset] [])
    refine Gl.st (fun _ kk => XS.iloadN X29.here hx rfl (hb hby at_106) rfl kk) ?_
    show Gl p e below s _ _ _ T29 (mkF m 107 #[.val (.int p1), .val (.int (5 : Int32)), .val (.ref b1), .unset] [(.int (5 : Int32))])
    refine Gl.st (fun _ kk => XS.bipush X29.here hx rfl (hb hby at_107) kk) ?_
    show Gl p e below s _ _ _ T29 (mkF m 109 #[.val (.int p1), .val (.int (5 : Int32)), .val (.ref b1), .unset] [(.int (8 : Int32)), (.int (5 : Int32))])
    refine Gl.st (fun _ kk => XS.icmpNo X29.here hx rfl (hb hby at_109) rfl (feq (by decide : ¬ ((5 : Int32) = (8 : Int32)))).1 kk) ?_
    show Gl p e below s _ _ _ T29 (mkF m 112 #[.val (.int p1), .val (.int (5 : Int32)), .val (.ref b1), .unset] [])
    refine Gl.st (fun _ kk => XS.iconst X29.here hx rfl (hb hby at_112) kk) ?_
    show Gl p e below s _ _ _ T29 (mkF m 113 #[.val (.int p1), .val (.int (5 : Int32)), .val (.ref b1), .unset] [(.int (1 : Int32))])
    refine Gl.st (fun _ kk => XS.goto X29.here hx rfl (pc0 := 113) (pc' := 117) rfl (hb hby at_113) (by decide) (by decide) kk) ?_
    show Gl p e below s _ _ _ T29 (mkF m 117 #[.val (.int p1), .val (.int (5 : Int32)), .val (.ref b1), .unset] [(.int (1 : Int32))])
    refine Gl.st (fun _ kk => XS.istoreN X29.here hx rfl (hb hby at_117) rfl (l' := #[.val (.int p1), .val (.int (5 : Int32)), .val (.ref b1), .val (.int (1 : Int32))]) rfl kk) ?_
    show Gl p e below s _ _ _ T29 (mkF m 118 #[.val (.int p1), .val (.int (5 : Int32)), .val (.ref b1), .val (.int (1 : Int32))] [])
    refine Gl.st (fun _ kk => XS.aloadN X29.here hx rfl (hb hby at_118) rfl rfl kk) ?_
    show Gl p e below s _ _ _ T29 (mkF m 119 #[.val (.int p1), .val (.int (5 : Int32)), .val (.ref b1), .val (.int (1 : Int32))] [(.ref b1)])
    refine Gl.st (fun _ kk => XS.iloadN X29.here hx rfl (hb hby at_119) rfl kk) ?_
    show Gl p e below s _ _ _ T29 (mkF m 120 #[.val (.int p1), .val (.int (5 : Int32)), .val (.ref b1), .val (.int (1 : Int32))] [(.int (5 : Int32)), (.ref b1)])
    obtain ⟨cl40, Ar40, q40, Sz40, Ng40, Ha40, Fi40⟩ := id Arv_b1
    have hin40 : ¬ ((5 : Int32) < 0 ∨ cl40.slots.size ≤ ((5 : Int32)).toNatClampNeg) := inb_of Sz40 ⟨by decide, by decide⟩
    have hat40 : cl40.slots[((5 : Int32)).toNatClampNeg]? = some (.ref w_STEAL) := Ha40.at hin40 rfl
    refine Gl.st (fun _ kk => X29.aaload hx (j := (5 : Int32)) (v := (.ref w_STEAL)) (by rw [e29]; exact Ar40.1) (State.isArrayOf_alike hZ.alike Ar40.2.1) rfl Ar40.2.2 hin40 hat40 (g := (mkF m 120 #[.val (.int p1), .val (.int (5 : Int32)), .val (.ref b1), .val (.int (1 : Int32))] [(.int (5 : Int32)), (.ref b1)])) rfl rfl (hb hby at_120) _ kk) ?_
    show Gl p e below s _ _ _ T29 (mkF m 121 #[.val (.int p1), .val (.int (5 : Int32)), .val (.ref b1), .val (.int (1 : Int32))] [(.ref w_STEAL)])
    obtain ⟨cq41, kq41, qa41, qb41, qc41⟩ := isOf hZ e29 (E_STEAL.ext O29.2)
    obtain ⟨_, _, ⟨T41, L41, k41, n41⟩, -, X41, ⟨Lc41, hQ41, l41, y41, z41⟩, st41⟩ := X29.virtualBack hx (y := (⟨"com/example/exile_court/exilecourt/rules/Decision$Kind", "isRecorded", "()Z"⟩ : MethodName)) (z := (⟨"com/example/exile_court/exilecourt/rules/Decision$Kind", "isRecorded", "()Z"⟩ : MethodName)) hown (mvT hZ (hw _ (List.mem_of_getElem? (i := 33) rfl))) (mvT hZ (hw _ (List.mem_of_getElem? (i := 34) rfl))) (notFace_of_selects (args := #[]) (mvT hZ (hw _ (List.mem_of_getElem? (i := 36) rfl)))) (mvT hZ (hw _ (List.mem_of_getElem? (i := 36) rfl))) (mvT hZ (hw _ (List.mem_of_getElem? (i := 35) rfl))) (by decide) (backOf (W := 0) (rm1 l Z a0 hw [] w_STEAL w_PASSES 1 h29 n0 O29 S_PASSES (by simp [(F_STEAL.ne F_PASSES (by decide) : w_STEAL ≠ w_PASSES)])) hZ (hw _ (List.mem_of_getElem? (i := 37) rfl)) (hw _ (List.mem_of_getElem? (i := 4) rfl)) (by decide) (by decide)) qa41 qc41 (g := (mkF m 121 #[.val (.int p1), .val (.int (5 : Int32)), .val (.ref b1), .val (.int (1 : Int32))] [(.ref w_STEAL)])) rfl (by rw [hml]; rfl) (Steps.refl _) (argsL := []) (rest := []) (lenOf pd_rm0_0 rfl) rfl (by show 2 * 0 + _ ≤ _; exact Nat.le_of_eq rfl) (hb hby at_121) (fun _ _ => ⟨rfl, e29, (by decide : 1 + 0 ≤ _), (by decide : 14 + 0 ≤ _)⟩)
    dsimp only [Pt.U, Pt.locs, Pt.cells, Pt.slots] at X41 l41 y41 z41 st41 hQ41
    subst l41 y41 z41
    obtain ⟨rfl, Nq41, e41⟩ := hQ41
    have N41 := Fr.app N29 Nq41
    refine Gl.st (fun _ kk => st41.trans kk) ?_
    show Gl p e below s _ _ _ T41 (mkF m 124 #[.val (.int p1), .val (.int (5 : Int32)), .val (.ref b1), .val (.int (1 : Int32))] [(.int (1 : Int32))])
    refine Gl.st (fun _ kk => XS.iloadN X41.here hx rfl (hb hby at_124) rfl kk) ?_
    show Gl p e below s _ _ _ T41 (mkF m 125 #[.val (.int p1), .val (.int (5 : Int32)), .val (.ref b1), .val (.int (1 : Int32))] [(.int (1 : Int32)), (.int (1 : Int32))])
    refine Gl.st (fun _ kk => XS.icmpNo X41.here hx rfl (hb hby at_125) rfl (teq (by decide : (1 : Int32) = (1 : Int32))).2 kk) ?_
    show Gl p e below s _ _ _ T41 (mkF m 128 #[.val (.int p1), .val (.int (5 : Int32)), .val (.ref b1), .val (.int (1 : Int32))] [])
    refine Gl.st (fun _ kk => XS.iconst X41.here hx rfl (hb hby at_128) kk) ?_
    show Gl p e below s _ _ _ T41 (mkF m 129 #[.val (.int p1), .val (.int (5 : Int32)), .val (.ref b1), .val (.int (1 : Int32))] [(.int (1 : Int32))])
    refine Gl.st (fun _ kk => XS.goto X41.here hx rfl (pc0 := 129) (pc' := 133) rfl (hb hby at_129) (by decide) (by decide) kk) ?_
    show Gl p e below s _ _ _ T41 (mkF m 133 #[.val (.int p1), .val (.int (5 : Int32)), .val (.ref b1), .val (.int (1 : Int32))] [(.int (1 : Int32))])
    exact Gl.ret X41 (v := (some (.int (1 : Int32)))) (fun h => by rw [Bd.returns] at h; cases h) (BodyLoose.notSynchronized Bd) (fun hr => retN X41 hx (t := .boolean) Bd.returns (by simp) (hb hby at_133) hr) e41 ⟨rfl, N41⟩ (by decide) (by decide)
  · rw [hk]
    show Gl p e below s _ _ _ T29 (mkF m 106 #[.val (.int p1), .val (.int (6 : Int32)), .val (.ref b1), .unset] [])
    refine Gl.st (fun _ kk => XS.iloadN X29.here hx rfl (hb hby at_106) rfl kk) ?_
    show Gl p e below s _ _ _ T29 (mkF m 107 #[.val (.int p1), .val (.int (6 : Int32)), .val (.ref b1), .unset] [(.int (6 : Int32))])
    refine Gl.st (fun _ kk => XS.bipush X29.here hx rfl (hb hby at_107) kk) ?_
    show Gl p e below s _ _ _ T29 (mkF m 109 #[.val (.int p1), .val (.int (6 : Int32)), .val (.ref b1), .unset] [(.int (8 : Int32)), (.int (6 : Int32))])
    refine Gl.st (fun _ kk => XS.icmpNo X29.here hx rfl (hb hby at_109) rfl (feq (by decide : ¬ ((6 : Int32) = (8 : Int32)))).1 kk) ?_
    show Gl p e below s _ _ _ T29 (mkF m 112 #[.val (.int p1), .val (.int (6 : Int32)), .val (.ref b1), .unset] [])
    refine Gl.st (fun _ kk => XS.iconst X29.here hx rfl (hb hby at_112) kk) ?_
    show Gl p e below s _ _ _ T29 (mkF m 113 #[.val (.int p1), .val (.int (6 : Int32)), .val (.ref b1), .unset] [(.int (1 : Int32))])
    refine Gl.st (fun _ kk => XS.goto X29.here hx rfl (pc0 := 113) (pc' := 117) rfl (hb hby at_113) (by decide) (by decide) kk) ?_
    show Gl p e below s _ _ _ T29 (mkF m 117 #[.val (.int p1), .val (.int (6 : Int32)), .val (.ref b1), .unset] [(.int (1 : Int32))])
    refine Gl.st (fun _ kk => XS.istoreN X29.here hx rfl (hb hby at_117) rfl (l' := #[.val (.int p1), .val (.int (6 : Int32)), .val (.ref b1), .val (.int (1 : Int32))]) rfl kk) ?_
    show Gl p e below s _ _ _ T29 (mkF m 118 #[.val (.int p1), .val (.int (6 : Int32)), .val (.ref b1), .val (.int (1 : Int32))] [])
    refine Gl.st (fun _ kk => XS.aloadN X29.here hx rfl (hb hby at_118) rfl rfl kk) ?_
    show Gl p e below s _ _ _ T29 (mkF m 119 #[.val (.int p1), .val (.int (6 : Int32)), .val (.ref b1), .val (.int (1 : Int32))] [(.ref b1)])
    refine Gl.st (fun _ kk => XS.iloadN X29.here hx rfl (hb hby at_119) rfl kk) ?_
    show Gl p e below s _ _ _ T29 (mkF m 120 #[.val (.int p1), .val (.int (6 : Int32)), .val (.ref b1), .val (.int (1 : Int32))] [(.int (6 : Int32)), (.ref b1)])
    obtain ⟨cl42, Ar42, q42, Sz42, Ng42, Ha42, Fi42⟩ := id Arv_b1
    have hin42 : ¬ ((6 : Int32) < 0 ∨ cl42.slots.size ≤ ((6 : Int32)).toNatClampNeg) := inb_of Sz42 ⟨by decide, by decide⟩
    have hat42 : cl42.slots[((6 : Int32)).toNatClampNeg]? = some (.ref w_EXCHANGE) := Ha42.at hin42 rfl
    refine Gl.st (fun _ kk => X29.aaload hx (j := (6 : Int32)) (v := (.ref w_EXCHANGE)) (by rw [e29]; exact Ar42.1) (State.isArrayOf_alike hZ.alike Ar42.2.1) rfl Ar42.2.2 hin42 hat42 (g := (mkF m 120 #[.val (.int p1), .val (.int (6 : Int32)), .val (.ref b1), .val (.int (1 : Int32))] [(.int (6 : Int32)), (.ref b1)])) rfl rfl (hb hby at_120) _ kk) ?_
    show Gl p e below s _ _ _ T29 (mkF m 121 #[.val (.int p1), .val (.int (6 : Int32)), .val (.ref b1), .val (.int (1 : Int32))] [(.ref w_EXCHANGE)])
    obtain ⟨cq43, kq43, qa43, qb43, qc43⟩ := isOf hZ e29 (E_EXCHANGE.ext O29.2)
    obtain ⟨_, _, ⟨T43, L43, k43, n43⟩, -, X43, ⟨Lc43, hQ43, l43, y43, z43⟩, st43⟩ := X29.virtualBack hx (y := (⟨"com/example/exile_court/exilecourt/rules/Decision$Kind", "isRecorded", "()Z"⟩ : MethodName)) (z := (⟨"com/example/exile_court/exilecourt/rules/Decision$Kind", "isRecorded", "()Z"⟩ : MethodName)) hown (mvT hZ (hw _ (List.mem_of_getElem? (i := 33) rfl))) (mvT hZ (hw _ (List.mem_of_getElem? (i := 34) rfl))) (notFace_of_selects (args := #[]) (mvT hZ (hw _ (List.mem_of_getElem? (i := 36) rfl)))) (mvT hZ (hw _ (List.mem_of_getElem? (i := 36) rfl))) (mvT hZ (hw _ (List.mem_of_getElem? (i := 35) rfl))) (by decide) (backOf (W := 0) (rm1 l Z a0 hw [] w_EXCHANGE w_PASSES 1 h29 n0 O29 S_PASSES (by simp [(F_EXCHANGE.ne F_PASSES (by decide) : w_EXCHANGE ≠ w_PASSES)])) hZ (hw _ (List.mem_of_getElem? (i := 37) rfl)) (hw _ (List.mem_of_getElem? (i := 4) rfl)) (by decide) (by decide)) qa43 qc43 (g := (mkF m 121 #[.val (.int p1), .val (.int (6 : Int32)), .val (.ref b1), .val (.int (1 : Int32))] [(.ref w_EXCHANGE)])) rfl (by rw [hml]; rfl) (Steps.refl _) (argsL := []) (rest := []) (lenOf pd_rm0_0 rfl) rfl (by show 2 * 0 + _ ≤ _; exact Nat.le_of_eq rfl) (hb hby at_121) (fun _ _ => ⟨rfl, e29, (by decide : 1 + 0 ≤ _), (by decide : 14 + 0 ≤ _)⟩)
    dsimp only [Pt.U, Pt.locs, Pt.cells, Pt.slots] at X43 l43 y43 z43 st43 hQ43
    subst l43 y43 z43
    obtain ⟨rfl, Nq43, e43⟩ := hQ43
    have N43 := Fr.app N29 Nq43
    refine Gl.st (fun _ kk => st43.trans kk) ?_
    show Gl p e below s _ _ _ T43 (mkF m 124 #[.val (.int p1), .val (.int (6 : Int32)), .val (.ref b1), .val (.int (1 : Int32))] [(.int (1 : Int32))])
    refine Gl.st (fun _ kk => XS.iloadN X43.here hx rfl (hb hby at_124) rfl kk) ?_
    show Gl p e below s _ _ _ T43 (mkF m 125 #[.val (.int p1), .val (.int (6 : Int32)), .val (.ref b1), .val (.int (1 : Int32))] [(.int (1 : Int32)), (.int (1 : Int32))])
    refine Gl.st (fun _ kk => XS.icmpNo X43.here hx rfl (hb hby at_125) rfl (teq (by decide : (1 : Int32) = (1 : Int32))).2 kk) ?_
    show Gl p e below s _ _ _ T43 (mkF m 128 #[.val (.int p1), .val (.int (6 : Int32)), .val (.ref b1), .val (.int (1 : Int32))] [])
    refine Gl.st (fun _ kk => XS.iconst X43.here hx rfl (hb hby at_128) kk) ?_
    show Gl p e below s _ _ _ T43 (mkF m 129 #[.val (.int p1), .val (.int (6 : Int32)), .val (.ref b1), .val (.int (1 : Int32))] [(.int (1 : Int32))])
    refine Gl.st (fun _ kk => XS.goto X43.here hx rfl (pc0 := 129) (pc' := 133) rfl (hb hby at_129) (by decide) (by decide) kk) ?_
    show Gl p e below s _ _ _ T43 (mkF m 133 #[.val (.int p1), .val (.int (6 : Int32)), .val (.ref b1), .val (.int (1 : Int32))] [(.int (1 : Int32))])
    exact Gl.ret X43 (v := (some (.int (1 : Int32)))) (fun h => by rw [Bd.returns] at h; cases h) (BodyLoose.notSynchronized Bd) (fun hr => retN X43 hx (t := .boolean) Bd.returns (by simp) (hb hby at_133) hr) e43 ⟨rfl, N43⟩ (by decide) (by decide)
  · rw [hk]
    show Gl p e below s _ _ _ T29 (mkF m 106 #[.val (.int p1), .val (.int (7 : Int32)), .val (.ref b1), .unset] [])
    refine Gl.st (fun _ kk => XS.iloadN X29.here hx rfl (hb hby at_106) rfl kk) ?_
    show Gl p e below s _ _ _ T29 (mkF m 107 #[.val (.int p1), .val (.int (7 : Int32)), .val (.ref b1), .unset] [(.int (7 : Int32))])
    refine Gl.st (fun _ kk => XS.bipush X29.here hx rfl (hb hby at_107) kk) ?_
    show Gl p e below s _ _ _ T29 (mkF m 109 #[.val (.int p1), .val (.int (7 : Int32)), .val (.ref b1), .unset] [(.int (8 : Int32)), (.int (7 : Int32))])
    refine Gl.st (fun _ kk => XS.icmpNo X29.here hx rfl (hb hby at_109) rfl (feq (by decide : ¬ ((7 : Int32) = (8 : Int32)))).1 kk) ?_
    show Gl p e below s _ _ _ T29 (mkF m 112 #[.val (.int p1), .val (.int (7 : Int32)), .val (.ref b1), .unset] [])
    refine Gl.st (fun _ kk => XS.iconst X29.here hx rfl (hb hby at_112) kk) ?_
    show Gl p e below s _ _ _ T29 (mkF m 113 #[.val (.int p1), .val (.int (7 : Int32)), .val (.ref b1), .unset] [(.int (1 : Int32))])
    refine Gl.st (fun _ kk => XS.goto X29.here hx rfl (pc0 := 113) (pc' := 117) rfl (hb hby at_113) (by decide) (by decide) kk) ?_
    show Gl p e below s _ _ _ T29 (mkF m 117 #[.val (.int p1), .val (.int (7 : Int32)), .val (.ref b1), .unset] [(.int (1 : Int32))])
    refine Gl.st (fun _ kk => XS.istoreN X29.here hx rfl (hb hby at_117) rfl (l' := #[.val (.int p1), .val (.int (7 : Int32)), .val (.ref b1), .val (.int (1 : Int32))]) rfl kk) ?_
    show Gl p e below s _ _ _ T29 (mkF m 118 #[.val (.int p1), .val (.int (7 : Int32)), .val (.ref b1), .val (.int (1 : Int32))] [])
    refine Gl.st (fun _ kk => XS.aloadN X29.here hx rfl (hb hby at_118) rfl rfl kk) ?_
    show Gl p e below s _ _ _ T29 (mkF m 119 #[.val (.int p1), .val (.int (7 : Int32)), .val (.ref b1), .val (.int (1 : Int32))] [(.ref b1)])
    refine Gl.st (fun _ kk => XS.iloadN X29.here hx rfl (hb hby at_119) rfl kk) ?_
    show Gl p e below s _ _ _ T29 (mkF m 120 #[.val (.int p1), .val (.int (7 : Int32)), .val (.ref b1), .val (.int (1 : Int32))] [(.int (7 : Int32)), (.ref b1)])
    obtain ⟨cl44, Ar44, q44, Sz44, Ng44, Ha44, Fi44⟩ := id Arv_b1
    have hin44 : ¬ ((7 : Int32) < 0 ∨ cl44.slots.size ≤ ((7 : Int32)).toNatClampNeg) := inb_of Sz44 ⟨by decide, by decide⟩
    have hat44 : cl44.slots[((7 : Int32)).toNatClampNeg]? = some (.ref w_CHALLENGES) := Ha44.at hin44 rfl
    refine Gl.st (fun _ kk => X29.aaload hx (j := (7 : Int32)) (v := (.ref w_CHALLENGES)) (by rw [e29]; exact Ar44.1) (State.isArrayOf_alike hZ.alike Ar44.2.1) rfl Ar44.2.2 hin44 hat44 (g := (mkF m 120 #[.val (.int p1), .val (.int (7 : Int32)), .val (.ref b1), .val (.int (1 : Int32))] [(.int (7 : Int32)), (.ref b1)])) rfl rfl (hb hby at_120) _ kk) ?_
    show Gl p e below s _ _ _ T29 (mkF m 121 #[.val (.int p1), .val (.int (7 : Int32)), .val (.ref b1), .val (.int (1 : Int32))] [(.ref w_CHALLENGES)])
    obtain ⟨cq45, kq45, qa45, qb45, qc45⟩ := isOf hZ e29 (E_CHALLENGES.ext O29.2)
    obtain ⟨_, _, ⟨T45, L45, k45, n45⟩, -, X45, ⟨Lc45, hQ45, l45, y45, z45⟩, st45⟩ := X29.virtualBack hx (y := (⟨"com/example/exile_court/exilecourt/rules/Decision$Kind", "isRecorded", "()Z"⟩ : MethodName)) (z := (⟨"com/example/exile_court/exilecourt/rules/Decision$Kind", "isRecorded", "()Z"⟩ : MethodName)) hown (mvT hZ (hw _ (List.mem_of_getElem? (i := 33) rfl))) (mvT hZ (hw _ (List.mem_of_getElem? (i := 34) rfl))) (notFace_of_selects (args := #[]) (mvT hZ (hw _ (List.mem_of_getElem? (i := 36) rfl)))) (mvT hZ (hw _ (List.mem_of_getElem? (i := 36) rfl))) (mvT hZ (hw _ (List.mem_of_getElem? (i := 35) rfl))) (by decide) (backOf (W := 0) (rm1 l Z a0 hw [] w_CHALLENGES w_PASSES 1 h29 n0 O29 S_PASSES (by simp [(F_CHALLENGES.ne F_PASSES (by decide) : w_CHALLENGES ≠ w_PASSES)])) hZ (hw _ (List.mem_of_getElem? (i := 37) rfl)) (hw _ (List.mem_of_getElem? (i := 4) rfl)) (by decide) (by decide)) qa45 qc45 (g := (mkF m 121 #[.val (.int p1), .val (.int (7 : Int32)), .val (.ref b1), .val (.int (1 : Int32))] [(.ref w_CHALLENGES)])) rfl (by rw [hml]; rfl) (Steps.refl _) (argsL := []) (rest := []) (lenOf pd_rm0_0 rfl) rfl (by show 2 * 0 + _ ≤ _; exact Nat.le_of_eq rfl) (hb hby at_121) (fun _ _ => ⟨rfl, e29, (by decide : 1 + 0 ≤ _), (by decide : 14 + 0 ≤ _)⟩)
    dsimp only [Pt.U, Pt.locs, Pt.cells, Pt.slots] at X45 l45 y45 z45 st45 hQ45
    subst l45 y45 z45
    obtain ⟨rfl, Nq45, e45⟩ := hQ45
    have N45 := Fr.app N29 Nq45
    refine Gl.st (fun _ kk => st45.trans kk) ?_
    show Gl p e below s _ _ _ T45 (mkF m 124 #[.val (.int p1), .val (.int (7 : Int32)), .val (.ref b1), .val (.int (1 : Int32))] [(.int (1 : Int32))])
    refine Gl.st (fun _ kk => XS.iloadN X45.here hx rfl (hb hby at_124) rfl kk) ?_
    show Gl p e below s _ _ _ T45 (mkF m 125 #[.val (.int p1), .val (.int (7 : Int32)), .val (.ref b1), .val (.int (1 : Int32))] [(.int (1 : Int32)), (.int (1 : Int32))])
    refine Gl.st (fun _ kk => XS.icmpNo X45.here hx rfl (hb hby at_125) rfl (teq (by decide : (1 : Int32) = (1 : Int32))).2 kk) ?_
    show Gl p e below s _ _ _ T45 (mkF m 128 #[.val (.int p1), .val (.int (7 : Int32)), .val (.ref b1), .val (.int (1 : Int32))] [])
    refine Gl.st (fun _ kk => XS.iconst X45.here hx rfl (hb hby at_128) kk) ?_
    show Gl p e below s _ _ _ T45 (mkF m 129 #[.val (.int p1), .val (.int (7 : Int32)), .val (.ref b1), .val (.int (1 : Int32))] [(.int (1 : Int32))])
    refine Gl.st (fun _ kk => XS.goto X45.here hx rfl (pc0 := 129) (pc' := 133) rfl (hb hby at_129) (by decide) (by decide) kk) ?_
    show Gl p e below s _ _ _ T45 (mkF m 133 #[.val (.int p1), .val (.int (7 : Int32)), .val (.ref b1), .val (.int (1 : Int32))] [(.int (1 : Int32))])
    exact Gl.ret X45 (v := (some (.int (1 : Int32)))) (fun h => by rw [Bd.returns] at h; cases h) (BodyLoose.notSynchronized Bd) (fun hr => retN X45 hx (t := .boolean) Bd.returns (by simp) (hb hby at_133) hr) e45 ⟨rfl, N45⟩ (by decide) (by decide)
  · rw [hk]
    show Gl p e below s _ _ _ T29 (mkF m 106 #[.val (.int p1), .val (.int (8 : Int32)), .val (.ref b1), .unset] [])
    refine Gl.st (fun _ kk => XS.iloadN X29.here hx rfl (hb hby at_106) rfl kk) ?_
    show Gl p e below s _ _ _ T29 (mkF m 107 #[.val (.int p1), .val (.int (8 : Int32)), .val (.ref b1), .unset] [(.int (8 : Int32))])
    refine Gl.st (fun _ kk => XS.bipush X29.here hx rfl (hb hby at_107) kk) ?_
    show Gl p e below s _ _ _ T29 (mkF m 109 #[.val (.int p1), .val (.int (8 : Int32)), .val (.ref b1), .unset] [(.int (8 : Int32)), (.int (8 : Int32))])
    refine Gl.st (fun _ kk => XS.icmpYes X29.here hx rfl (pc0 := 109) (pc' := 116) rfl (hb hby at_109) rfl (teq (by decide : (8 : Int32) = (8 : Int32))).1 (by decide) (by decide) kk) ?_
    show Gl p e below s _ _ _ T29 (mkF m 116 #[.val (.int p1), .val (.int (8 : Int32)), .val (.ref b1), .unset] [])
    refine Gl.st (fun _ kk => XS.iconst X29.here hx rfl (hb hby at_116) kk) ?_
    show Gl p e below s _ _ _ T29 (mkF m 117 #[.val (.int p1), .val (.int (8 : Int32)), .val (.ref b1), .unset] [(.int (0 : Int32))])
    refine Gl.st (fun _ kk => XS.istoreN X29.here hx rfl (hb hby at_117) rfl (l' := #[.val (.int p1), .val (.int (8 : Int32)), .val (.ref b1), .val (.int (0 : Int32))]) rfl kk) ?_
    show Gl p e below s _ _ _ T29 (mkF m 118 #[.val (.int p1), .val (.int (8 : Int32)), .val (.ref b1), .val (.int (0 : Int32))] [])
    refine Gl.st (fun _ kk => XS.aloadN X29.here hx rfl (hb hby at_118) rfl rfl kk) ?_
    show Gl p e below s _ _ _ T29 (mkF m 119 #[.val (.int p1), .val (.int (8 : Int32)), .val (.ref b1), .val (.int (0 : Int32))] [(.ref b1)])
    refine Gl.st (fun _ kk => XS.iloadN X29.here hx rfl (hb hby at_119) rfl kk) ?_
    show Gl p e below s _ _ _ T29 (mkF m 120 #[.val (.int p1), .val (.int (8 : Int32)), .val (.ref b1), .val (.int (0 : Int32))] [(.int (8 : Int32)), (.ref b1)])
    obtain ⟨cl46, Ar46, q46, Sz46, Ng46, Ha46, Fi46⟩ := id Arv_b1
    have hin46 : ¬ ((8 : Int32) < 0 ∨ cl46.slots.size ≤ ((8 : Int32)).toNatClampNeg) := inb_of Sz46 ⟨by decide, by decide⟩
    have hat46 : cl46.slots[((8 : Int32)).toNatClampNeg]? = some (.ref w_PASSES) := Ha46.at hin46 rfl
    refine Gl.st (fun _ kk => X29.aaload hx (j := (8 : Int32)) (v := (.ref w_PASSES)) (by rw [e29]; exact Ar46.1) (State.isArrayOf_alike hZ.alike Ar46.2.1) rfl Ar46.2.2 hin46 hat46 (g := (mkF m 120 #[.val (.int p1), .val (.int (8 : Int32)), .val (.ref b1), .val (.int (0 : Int32))] [(.int (8 : Int32)), (.ref b1)])) rfl rfl (hb hby at_120) _ kk) ?_
    show Gl p e below s _ _ _ T29 (mkF m 121 #[.val (.int p1), .val (.int (8 : Int32)), .val (.ref b1), .val (.int (0 : Int32))] [(.ref w_PASSES)])
    obtain ⟨cq47, kq47, qa47, qb47, qc47⟩ := isOf hZ e29 (E_PASSES.ext O29.2)
    obtain ⟨_, _, ⟨T47, L47, k47, n47⟩, -, X47, ⟨Lc47, hQ47, l47, y47, z47⟩, st47⟩ := X29.virtualBack hx (y := (⟨"com/example/exile_court/exilecourt/rules/Decision$Kind", "isRecorded", "()Z"⟩ : MethodName)) (z := (⟨"com/example/exile_court/exilecourt/rules/Decision$Kind", "isRecorded", "()Z"⟩ : MethodName)) hown (mvT hZ (hw _ (List.mem_of_getElem? (i := 33) rfl))) (mvT hZ (hw _ (List.mem_of_getElem? (i := 34) rfl))) (notFace_of_selects (args := #[]) (mvT hZ (hw _ (List.mem_of_getElem? (i := 36) rfl)))) (mvT hZ (hw _ (List.mem_of_getElem? (i := 36) rfl))) (mvT hZ (hw _ (List.mem_of_getElem? (i := 35) rfl))) (by decide) (backOf (W := 0) (rm1 l Z a0 hw [] w_PASSES w_PASSES 0 h29 n0 O29 S_PASSES (by simp [])) hZ (hw _ (List.mem_of_getElem? (i := 37) rfl)) (hw _ (List.mem_of_getElem? (i := 4) rfl)) (by decide) (by decide)) qa47 qc47 (g := (mkF m 121 #[.val (.int p1), .val (.int (8 : Int32)), .val (.ref b1), .val (.int (0 : Int32))] [(.ref w_PASSES)])) rfl (by rw [hml]; rfl) (Steps.refl _) (argsL := []) (rest := []) (lenOf pd_rm0_0 rfl) rfl (by show 2 * 0 + _ ≤ _; exact Nat.le_of_eq rfl) (hb hby at_121) (fun _ _ => ⟨rfl, e29, (by decide : 1 + 0 ≤ _), (by decide : 14 + 0 ≤ _)⟩)
    dsimp only [Pt.U, Pt.locs, Pt.cells, Pt.slots] at X47 l47 y47 z47 st47 hQ47
    subst l47 y47 z47
    obtain ⟨rfl, Nq47, e47⟩ := hQ47
    have N47 := Fr.app N29 Nq47
    refine Gl.st (fun _ kk => st47.trans kk) ?_
    show Gl p e below s _ _ _ T47 (mkF m 124 #[.val (.int p1), .val (.int (8 : Int32)), .val (.ref b1), .val (.int (0 : Int32))] [(.int (0 : Int32))])
    refine Gl.st (fun _ kk => XS.iloadN X47.here hx rfl (hb hby at_124) rfl kk) ?_
    show Gl p e below s _ _ _ T47 (mkF m 125 #[.val (.int p1), .val (.int (8 : Int32)), .val (.ref b1), .val (.int (0 : Int32))] [(.int (0 : Int32)), (.int (0 : Int32))])
    refine Gl.st (fun _ kk => XS.icmpNo X47.here hx rfl (hb hby at_125) rfl (teq (by decide : (0 : Int32) = (0 : Int32))).2 kk) ?_
    show Gl p e below s _ _ _ T47 (mkF m 128 #[.val (.int p1), .val (.int (8 : Int32)), .val (.ref b1), .val (.int (0 : Int32))] [])
    refine Gl.st (fun _ kk => XS.iconst X47.here hx rfl (hb hby at_128) kk) ?_
    show Gl p e below s _ _ _ T47 (mkF m 129 #[.val (.int p1), .val (.int (8 : Int32)), .val (.ref b1), .val (.int (0 : Int32))] [(.int (1 : Int32))])
    refine Gl.st (fun _ kk => XS.goto X47.here hx rfl (pc0 := 129) (pc' := 133) rfl (hb hby at_129) (by decide) (by decide) kk) ?_
    show Gl p e below s _ _ _ T47 (mkF m 133 #[.val (.int p1), .val (.int (8 : Int32)), .val (.ref b1), .val (.int (0 : Int32))] [(.int (1 : Int32))])
    exact Gl.ret X47 (v := (some (.int (1 : Int32)))) (fun h => by rw [Bd.returns] at h; cases h) (BodyLoose.notSynchronized Bd) (fun hr => retN X47 hx (t := .boolean) Bd.returns (by simp) (hb hby at_133) hr) e47 ⟨rfl, N47⟩ (by decide) (by decide)
  · rw [hk]
    show Gl p e below s _ _ _ T29 (mkF m 106 #[.val (.int p1), .val (.int (9 : Int32)), .val (.ref b1), .unset] [])
    refine Gl.st (fun _ kk => XS.iloadN X29.here hx rfl (hb hby at_106) rfl kk) ?_
    show Gl p e below s _ _ _ T29 (mkF m 107 #[.val (.int p1), .val (.int (9 : Int32)), .val (.ref b1), .unset] [(.int (9 : Int32))])
    refine Gl.st (fun _ kk => XS.bipush X29.here hx rfl (hb hby at_107) kk) ?_
    show Gl p e below s _ _ _ T29 (mkF m 109 #[.val (.int p1), .val (.int (9 : Int32)), .val (.ref b1), .unset] [(.int (8 : Int32)), (.int (9 : Int32))])
    refine Gl.st (fun _ kk => XS.icmpNo X29.here hx rfl (hb hby at_109) rfl (feq (by decide : ¬ ((9 : Int32) = (8 : Int32)))).1 kk) ?_
    show Gl p e below s _ _ _ T29 (mkF m 112 #[.val (.int p1), .val (.int (9 : Int32)), .val (.ref b1), .unset] [])
    refine Gl.st (fun _ kk => XS.iconst X29.here hx rfl (hb hby at_112) kk) ?_
    show Gl p e below s _ _ _ T29 (mkF m 113 #[.val (.int p1), .val (.int (9 : Int32)), .val (.ref b1), .unset] [(.int (1 : Int32))])
    refine Gl.st (fun _ kk => XS.goto X29.here hx rfl (pc0 := 113) (pc' := 117) rfl (hb hby at_113) (by decide) (by decide) kk) ?_
    show Gl p e below s _ _ _ T29 (mkF m 117 #[.val (.int p1), .val (.int (9 : Int32)), .val (.ref b1), .unset] [(.int (1 : Int32))])
    refine Gl.st (fun _ kk => XS.istoreN X29.here hx rfl (hb hby at_117) rfl (l' := #[.val (.int p1), .val (.int (9 : Int32)), .val (.ref b1), .val (.int (1 : Int32))]) rfl kk) ?_
    show Gl p e below s _ _ _ T29 (mkF m 118 #[.val (.int p1), .val (.int (9 : Int32)), .val (.ref b1), .val (.int (1 : Int32))] [])
    refine Gl.st (fun _ kk => XS.aloadN X29.here hx rfl (hb hby at_118) rfl rfl kk) ?_
    show Gl p e below s _ _ _ T29 (mkF m 119 #[.val (.int p1), .val (.int (9 : Int32)), .val (.ref b1), .val (.int (1 : Int32))] [(.ref b1)])
    refine Gl.st (fun _ kk => XS.iloadN X29.here hx rfl (hb hby at_119) rfl kk) ?_
    show Gl p e below s _ _ _ T29 (mkF m 120 #[.val (.int p1), .val (.int (9 : Int32)), .val (.ref b1), .val (.int (1 : Int32))] [(.int (9 : Int32)), (.ref b1)])
    obtain ⟨cl48, Ar48, q48, Sz48, Ng48, Ha48, Fi48⟩ := id Arv_b1
    have hin48 : ¬ ((9 : Int32) < 0 ∨ cl48.slots.size ≤ ((9 : Int32)).toNatClampNeg) := inb_of Sz48 ⟨by decide, by decide⟩
    have hat48 : cl48.slots[((9 : Int32)).toNatClampNeg]? = some (.ref w_BLOCKS) := Ha48.at hin48 rfl
    refine Gl.st (fun _ kk => X29.aaload hx (j := (9 : Int32)) (v := (.ref w_BLOCKS)) (by rw [e29]; exact Ar48.1) (State.isArrayOf_alike hZ.alike Ar48.2.1) rfl Ar48.2.2 hin48 hat48 (g := (mkF m 120 #[.val (.int p1), .val (.int (9 : Int32)), .val (.ref b1), .val (.int (1 : Int32))] [(.int (9 : Int32)), (.ref b1)])) rfl rfl (hb hby at_120) _ kk) ?_
    show Gl p e below s _ _ _ T29 (mkF m 121 #[.val (.int p1), .val (.int (9 : Int32)), .val (.ref b1), .val (.int (1 : Int32))] [(.ref w_BLOCKS)])
    obtain ⟨cq49, kq49, qa49, qb49, qc49⟩ := isOf hZ e29 (E_BLOCKS.ext O29.2)
    obtain ⟨_, _, ⟨T49, L49, k49, n49⟩, -, X49, ⟨Lc49, hQ49, l49, y49, z49⟩, st49⟩ := X29.virtualBack hx (y := (⟨"com/example/exile_court/exilecourt/rules/Decision$Kind", "isRecorded", "()Z"⟩ : MethodName)) (z := (⟨"com/example/exile_court/exilecourt/rules/Decision$Kind", "isRecorded", "()Z"⟩ : MethodName)) hown (mvT hZ (hw _ (List.mem_of_getElem? (i := 33) rfl))) (mvT hZ (hw _ (List.mem_of_getElem? (i := 34) rfl))) (notFace_of_selects (args := #[]) (mvT hZ (hw _ (List.mem_of_getElem? (i := 36) rfl)))) (mvT hZ (hw _ (List.mem_of_getElem? (i := 36) rfl))) (mvT hZ (hw _ (List.mem_of_getElem? (i := 35) rfl))) (by decide) (backOf (W := 0) (rm1 l Z a0 hw [] w_BLOCKS w_PASSES 1 h29 n0 O29 S_PASSES (by simp [(F_BLOCKS.ne F_PASSES (by decide) : w_BLOCKS ≠ w_PASSES)])) hZ (hw _ (List.mem_of_getElem? (i := 37) rfl)) (hw _ (List.mem_of_getElem? (i := 4) rfl)) (by decide) (by decide)) qa49 qc49 (g := (mkF m 121 #[.val (.int p1), .val (.int (9 : Int32)), .val (.ref b1), .val (.int (1 : Int32))] [(.ref w_BLOCKS)])) rfl (by rw [hml]; rfl) (Steps.refl _) (argsL := []) (rest := []) (lenOf pd_rm0_0 rfl) rfl (by show 2 * 0 + _ ≤ _; exact Nat.le_of_eq rfl) (hb hby at_121) (fun _ _ => ⟨rfl, e29, (by decide : 1 + 0 ≤ _), (by decide : 14 + 0 ≤ _)⟩)
    dsimp only [Pt.U, Pt.locs, Pt.cells, Pt.slots] at X49 l49 y49 z49 st49 hQ49
    subst l49 y49 z49
    obtain ⟨rfl, Nq49, e49⟩ := hQ49
    have N49 := Fr.app N29 Nq49
    refine Gl.st (fun _ kk => st49.trans kk) ?_
    show Gl p e below s _ _ _ T49 (mkF m 124 #[.val (.int p1), .val (.int (9 : Int32)), .val (.ref b1), .val (.int (1 : Int32))] [(.int (1 : Int32))])
    refine Gl.st (fun _ kk => XS.iloadN X49.here hx rfl (hb hby at_124) rfl kk) ?_
    show Gl p e below s _ _ _ T49 (mkF m 125 #[.val (.int p1), .val (.int (9 : Int32)), .val (.ref b1), .val (.int (1 : Int32))] [(.int (1 : Int32)), (.int (1 : Int32))])
    refine Gl.st (fun _ kk => XS.icmpNo X49.here hx rfl (hb hby at_125) rfl (teq (by decide : (1 : Int32) = (1 : Int32))).2 kk) ?_
    show Gl p e below s _ _ _ T49 (mkF m 128 #[.val (.int p1), .val (.int (9 : Int32)), .val (.ref b1), .val (.int (1 : Int32))] [])
    refine Gl.st (fun _ kk => XS.iconst X49.here hx rfl (hb hby at_128) kk) ?_
    show Gl p e below s _ _ _ T49 (mkF m 129 #[.val (.int p1), .val (.int (9 : Int32)), .val (.ref b1), .val (.int (1 : Int32))] [(.int (1 : Int32))])
    refine Gl.st (fun _ kk => XS.goto X49.here hx rfl (pc0 := 129) (pc' := 133) rfl (hb hby at_129) (by decide) (by decide) kk) ?_
    show Gl p e below s _ _ _ T49 (mkF m 133 #[.val (.int p1), .val (.int (9 : Int32)), .val (.ref b1), .val (.int (1 : Int32))] [(.int (1 : Int32))])
    exact Gl.ret X49 (v := (some (.int (1 : Int32)))) (fun h => by rw [Bd.returns] at h; cases h) (BodyLoose.notSynchronized Bd) (fun hr => retN X49 hx (t := .boolean) Bd.returns (by simp) (hb hby at_133) hr) e49 ⟨rfl, N49⟩ (by decide) (by decide)
  · rw [hk]
    show Gl p e below s _ _ _ T29 (mkF m 106 #[.val (.int p1), .val (.int (10 : Int32)), .val (.ref b1), .unset] [])
    refine Gl.st (fun _ kk => XS.iloadN X29.here hx rfl (hb hby at_106) rfl kk) ?_
    show Gl p e below s _ _ _ T29 (mkF m 107 #[.val (.int p1), .val (.int (10 : Int32)), .val (.ref b1), .unset] [(.int (10 : Int32))])
    refine Gl.st (fun _ kk => XS.bipush X29.here hx rfl (hb hby at_107) kk) ?_
    show Gl p e below s _ _ _ T29 (mkF m 109 #[.val (.int p1), .val (.int (10 : Int32)), .val (.ref b1), .unset] [(.int (8 : Int32)), (.int (10 : Int32))])
    refine Gl.st (fun _ kk => XS.icmpNo X29.here hx rfl (hb hby at_109) rfl (feq (by decide : ¬ ((10 : Int32) = (8 : Int32)))).1 kk) ?_
    show Gl p e below s _ _ _ T29 (mkF m 112 #[.val (.int p1), .val (.int (10 : Int32)), .val (.ref b1), .unset] [])
    refine Gl.st (fun _ kk => XS.iconst X29.here hx rfl (hb hby at_112) kk) ?_
    show Gl p e below s _ _ _ T29 (mkF m 113 #[.val (.int p1), .val (.int (10 : Int32)), .val (.ref b1), .unset] [(.int (1 : Int32))])
    refine Gl.st (fun _ kk => XS.goto X29.here hx rfl (pc0 := 113) (pc' := 117) rfl (hb hby at_113) (by decide) (by decide) kk) ?_
    show Gl p e below s _ _ _ T29 (mkF m 117 #[.val (.int p1), .val (.int (10 : Int32)), .val (.ref b1), .unset] [(.int (1 : Int32))])
    refine Gl.st (fun _ kk => XS.istoreN X29.here hx rfl (hb hby at_117) rfl (l' := #[.val (.int p1), .val (.int (10 : Int32)), .val (.ref b1), .val (.int (1 : Int32))]) rfl kk) ?_
    show Gl p e below s _ _ _ T29 (mkF m 118 #[.val (.int p1), .val (.int (10 : Int32)), .val (.ref b1), .val (.int (1 : Int32))] [])
    refine Gl.st (fun _ kk => XS.aloadN X29.here hx rfl (hb hby at_118) rfl rfl kk) ?_
    show Gl p e below s _ _ _ T29 (mkF m 119 #[.val (.int p1), .val (.int (10 : Int32)), .val (.ref b1), .val (.int (1 : Int32))] [(.ref b1)])
    refine Gl.st (fun _ kk => XS.iloadN X29.here hx rfl (hb hby at_119) rfl kk) ?_
    show Gl p e below s _ _ _ T29 (mkF m 120 #[.val (.int p1), .val (.int (10 : Int32)), .val (.ref b1), .val (.int (1 : Int32))] [(.int (10 : Int32)), (.ref b1)])
    obtain ⟨cl50, Ar50, q50, Sz50, Ng50, Ha50, Fi50⟩ := id Arv_b1
    have hin50 : ¬ ((10 : Int32) < 0 ∨ cl50.slots.size ≤ ((10 : Int32)).toNatClampNeg) := inb_of Sz50 ⟨by decide, by decide⟩
    have hat50 : cl50.slots[((10 : Int32)).toNatClampNeg]? = some (.ref w_SHOWS) := Ha50.at hin50 rfl
    refine Gl.st (fun _ kk => X29.aaload hx (j := (10 : Int32)) (v := (.ref w_SHOWS)) (by rw [e29]; exact Ar50.1) (State.isArrayOf_alike hZ.alike Ar50.2.1) rfl Ar50.2.2 hin50 hat50 (g := (mkF m 120 #[.val (.int p1), .val (.int (10 : Int32)), .val (.ref b1), .val (.int (1 : Int32))] [(.int (10 : Int32)), (.ref b1)])) rfl rfl (hb hby at_120) _ kk) ?_
    show Gl p e below s _ _ _ T29 (mkF m 121 #[.val (.int p1), .val (.int (10 : Int32)), .val (.ref b1), .val (.int (1 : Int32))] [(.ref w_SHOWS)])
    obtain ⟨cq51, kq51, qa51, qb51, qc51⟩ := isOf hZ e29 (E_SHOWS.ext O29.2)
    obtain ⟨_, _, ⟨T51, L51, k51, n51⟩, -, X51, ⟨Lc51, hQ51, l51, y51, z51⟩, st51⟩ := X29.virtualBack hx (y := (⟨"com/example/exile_court/exilecourt/rules/Decision$Kind", "isRecorded", "()Z"⟩ : MethodName)) (z := (⟨"com/example/exile_court/exilecourt/rules/Decision$Kind", "isRecorded", "()Z"⟩ : MethodName)) hown (mvT hZ (hw _ (List.mem_of_getElem? (i := 33) rfl))) (mvT hZ (hw _ (List.mem_of_getElem? (i := 34) rfl))) (notFace_of_selects (args := #[]) (mvT hZ (hw _ (List.mem_of_getElem? (i := 36) rfl)))) (mvT hZ (hw _ (List.mem_of_getElem? (i := 36) rfl))) (mvT hZ (hw _ (List.mem_of_getElem? (i := 35) rfl))) (by decide) (backOf (W := 0) (rm1 l Z a0 hw [] w_SHOWS w_PASSES 1 h29 n0 O29 S_PASSES (by simp [(F_SHOWS.ne F_PASSES (by decide) : w_SHOWS ≠ w_PASSES)])) hZ (hw _ (List.mem_of_getElem? (i := 37) rfl)) (hw _ (List.mem_of_getElem? (i := 4) rfl)) (by decide) (by decide)) qa51 qc51 (g := (mkF m 121 #[.val (.int p1), .val (.int (10 : Int32)), .val (.ref b1), .val (.int (1 : Int32))] [(.ref w_SHOWS)])) rfl (by rw [hml]; rfl) (Steps.refl _) (argsL := []) (rest := []) (lenOf pd_rm0_0 rfl) rfl (by show 2 * 0 + _ ≤ _; exact Nat.le_of_eq rfl) (hb hby at_121) (fun _ _ => ⟨rfl, e29, (by decide : 1 + 0 ≤ _), (by decide : 14 + 0 ≤ _)⟩)
    dsimp only [Pt.U, Pt.locs, Pt.cells, Pt.slots] at X51 l51 y51 z51 st51 hQ51
    subst l51 y51 z51
    obtain ⟨rfl, Nq51, e51⟩ := hQ51
    have N51 := Fr.app N29 Nq51
    refine Gl.st (fun _ kk => st51.trans kk) ?_
    show Gl p e below s _ _ _ T51 (mkF m 124 #[.val (.int p1), .val (.int (10 : Int32)), .val (.ref b1), .val (.int (1 : Int32))] [(.int (1 : Int32))])
    refine Gl.st (fun _ kk => XS.iloadN X51.here hx rfl (hb hby at_124) rfl kk) ?_
    show Gl p e below s _ _ _ T51 (mkF m 125 #[.val (.int p1), .val (.int (10 : Int32)), .val (.ref b1), .val (.int (1 : Int32))] [(.int (1 : Int32)), (.int (1 : Int32))])
    refine Gl.st (fun _ kk => XS.icmpNo X51.here hx rfl (hb hby at_125) rfl (teq (by decide : (1 : Int32) = (1 : Int32))).2 kk) ?_
    show Gl p e below s _ _ _ T51 (mkF m 128 #[.val (.int p1), .val (.int (10 : Int32)), .val (.ref b1), .val (.int (1 : Int32))] [])
    refine Gl.st (fun _ kk => XS.iconst X51.here hx rfl (hb hby at_128) kk) ?_
    show Gl p e below s _ _ _ T51 (mkF m 129 #[.val (.int p1), .val (.int (10 : Int32)), .val (.ref b1), .val (.int (1 : Int32))] [(.int (1 : Int32))])
    refine Gl.st (fun _ kk => XS.goto X51.here hx rfl (pc0 := 129) (pc' := 133) rfl (hb hby at_129) (by decide) (by decide) kk) ?_
    show Gl p e below s _ _ _ T51 (mkF m 133 #[.val (.int p1), .val (.int (10 : Int32)), .val (.ref b1), .val (.int (1 : Int32))] [(.int (1 : Int32))])
    exact Gl.ret X51 (v := (some (.int (1 : Int32)))) (fun h => by rw [Bd.returns] at h; cases h) (BodyLoose.notSynchronized Bd) (fun hr => retN X51 hx (t := .boolean) Bd.returns (by simp) (hb hby at_133) hr) e51 ⟨rfl, N51⟩ (by decide) (by decide)
  · rw [hk]
    show Gl p e below s _ _ _ T29 (mkF m 106 #[.val (.int p1), .val (.int (11 : Int32)), .val (.ref b1), .unset] [])
    refine Gl.st (fun _ kk => XS.iloadN X29.here hx rfl (hb hby at_106) rfl kk) ?_
    show Gl p e below s _ _ _ T29 (mkF m 107 #[.val (.int p1), .val (.int (11 : Int32)), .val (.ref b1), .unset] [(.int (11 : Int32))])
    refine Gl.st (fun _ kk => XS.bipush X29.here hx rfl (hb hby at_107) kk) ?_
    show Gl p e below s _ _ _ T29 (mkF m 109 #[.val (.int p1), .val (.int (11 : Int32)), .val (.ref b1), .unset] [(.int (8 : Int32)), (.int (11 : Int32))])
    refine Gl.st (fun _ kk => XS.icmpNo X29.here hx rfl (hb hby at_109) rfl (feq (by decide : ¬ ((11 : Int32) = (8 : Int32)))).1 kk) ?_
    show Gl p e below s _ _ _ T29 (mkF m 112 #[.val (.int p1), .val (.int (11 : Int32)), .val (.ref b1), .unset] [])
    refine Gl.st (fun _ kk => XS.iconst X29.here hx rfl (hb hby at_112) kk) ?_
    show Gl p e below s _ _ _ T29 (mkF m 113 #[.val (.int p1), .val (.int (11 : Int32)), .val (.ref b1), .unset] [(.int (1 : Int32))])
    refine Gl.st (fun _ kk => XS.goto X29.here hx rfl (pc0 := 113) (pc' := 117) rfl (hb hby at_113) (by decide) (by decide) kk) ?_
    show Gl p e below s _ _ _ T29 (mkF m 117 #[.val (.int p1), .val (.int (11 : Int32)), .val (.ref b1), .unset] [(.int (1 : Int32))])
    refine Gl.st (fun _ kk => XS.istoreN X29.here hx rfl (hb hby at_117) rfl (l' := #[.val (.int p1), .val (.int (11 : Int32)), .val (.ref b1), .val (.int (1 : Int32))]) rfl kk) ?_
    show Gl p e below s _ _ _ T29 (mkF m 118 #[.val (.int p1), .val (.int (11 : Int32)), .val (.ref b1), .val (.int (1 : Int32))] [])
    refine Gl.st (fun _ kk => XS.aloadN X29.here hx rfl (hb hby at_118) rfl rfl kk) ?_
    show Gl p e below s _ _ _ T29 (mkF m 119 #[.val (.int p1), .val (.int (11 : Int32)), .val (.ref b1), .val (.int (1 : Int32))] [(.ref b1)])
    refine Gl.st (fun _ kk => XS.iloadN X29.here hx rfl (hb hby at_119) rfl kk) ?_
    show Gl p e below s _ _ _ T29 (mkF m 120 #[.val (.int p1), .val (.int (11 : Int32)), .val (.ref b1), .val (.int (1 : Int32))] [(.int (11 : Int32)), (.ref b1)])
    obtain ⟨cl52, Ar52, q52, Sz52, Ng52, Ha52, Fi52⟩ := id Arv_b1
    have hin52 : ¬ ((11 : Int32) < 0 ∨ cl52.slots.size ≤ ((11 : Int32)).toNatClampNeg) := inb_of Sz52 ⟨by decide, by decide⟩
    have hat52 : cl52.slots[((11 : Int32)).toNatClampNeg]? = some (.ref w_DRAWS) := Ha52.at hin52 rfl
    refine Gl.st (fun _ kk => X29.aaload hx (j := (11 : Int32)) (v := (.ref w_DRAWS)) (by rw [e29]; exact Ar52.1) (State.isArrayOf_alike hZ.alike Ar52.2.1) rfl Ar52.2.2 hin52 hat52 (g := (mkF m 120 #[.val (.int p1), .val (.int (11 : Int32)), .val (.ref b1), .val (.int (1 : Int32))] [(.int (11 : Int32)), (.ref b1)])) rfl rfl (hb hby at_120) _ kk) ?_
    show Gl p e below s _ _ _ T29 (mkF m 121 #[.val (.int p1), .val (.int (11 : Int32)), .val (.ref b1), .val (.int (1 : Int32))] [(.ref w_DRAWS)])
    obtain ⟨cq53, kq53, qa53, qb53, qc53⟩ := isOf hZ e29 (E_DRAWS.ext O29.2)
    obtain ⟨_, _, ⟨T53, L53, k53, n53⟩, -, X53, ⟨Lc53, hQ53, l53, y53, z53⟩, st53⟩ := X29.virtualBack hx (y := (⟨"com/example/exile_court/exilecourt/rules/Decision$Kind", "isRecorded", "()Z"⟩ : MethodName)) (z := (⟨"com/example/exile_court/exilecourt/rules/Decision$Kind", "isRecorded", "()Z"⟩ : MethodName)) hown (mvT hZ (hw _ (List.mem_of_getElem? (i := 33) rfl))) (mvT hZ (hw _ (List.mem_of_getElem? (i := 34) rfl))) (notFace_of_selects (args := #[]) (mvT hZ (hw _ (List.mem_of_getElem? (i := 36) rfl)))) (mvT hZ (hw _ (List.mem_of_getElem? (i := 36) rfl))) (mvT hZ (hw _ (List.mem_of_getElem? (i := 35) rfl))) (by decide) (backOf (W := 0) (rm1 l Z a0 hw [] w_DRAWS w_PASSES 1 h29 n0 O29 S_PASSES (by simp [(F_DRAWS.ne F_PASSES (by decide) : w_DRAWS ≠ w_PASSES)])) hZ (hw _ (List.mem_of_getElem? (i := 37) rfl)) (hw _ (List.mem_of_getElem? (i := 4) rfl)) (by decide) (by decide)) qa53 qc53 (g := (mkF m 121 #[.val (.int p1), .val (.int (11 : Int32)), .val (.ref b1), .val (.int (1 : Int32))] [(.ref w_DRAWS)])) rfl (by rw [hml]; rfl) (Steps.refl _) (argsL := []) (rest := []) (lenOf pd_rm0_0 rfl) rfl (by show 2 * 0 + _ ≤ _; exact Nat.le_of_eq rfl) (hb hby at_121) (fun _ _ => ⟨rfl, e29, (by decide : 1 + 0 ≤ _), (by decide : 14 + 0 ≤ _)⟩)
    dsimp only [Pt.U, Pt.locs, Pt.cells, Pt.slots] at X53 l53 y53 z53 st53 hQ53
    subst l53 y53 z53
    obtain ⟨rfl, Nq53, e53⟩ := hQ53
    have N53 := Fr.app N29 Nq53
    refine Gl.st (fun _ kk => st53.trans kk) ?_
    show Gl p e below s _ _ _ T53 (mkF m 124 #[.val (.int p1), .val (.int (11 : Int32)), .val (.ref b1), .val (.int (1 : Int32))] [(.int (1 : Int32))])
    refine Gl.st (fun _ kk => XS.iloadN X53.here hx rfl (hb hby at_124) rfl kk) ?_
    show Gl p e below s _ _ _ T53 (mkF m 125 #[.val (.int p1), .val (.int (11 : Int32)), .val (.ref b1), .val (.int (1 : Int32))] [(.int (1 : Int32)), (.int (1 : Int32))])
    refine Gl.st (fun _ kk => XS.icmpNo X53.here hx rfl (hb hby at_125) rfl (teq (by decide : (1 : Int32) = (1 : Int32))).2 kk) ?_
    show Gl p e below s _ _ _ T53 (mkF m 128 #[.val (.int p1), .val (.int (11 : Int32)), .val (.ref b1), .val (.int (1 : Int32))] [])
    refine Gl.st (fun _ kk => XS.iconst X53.here hx rfl (hb hby at_128) kk) ?_
    show Gl p e below s _ _ _ T53 (mkF m 129 #[.val (.int p1), .val (.int (11 : Int32)), .val (.ref b1), .val (.int (1 : Int32))] [(.int (1 : Int32))])
    refine Gl.st (fun _ kk => XS.goto X53.here hx rfl (pc0 := 129) (pc' := 133) rfl (hb hby at_129) (by decide) (by decide) kk) ?_
    show Gl p e below s _ _ _ T53 (mkF m 133 #[.val (.int p1), .val (.int (11 : Int32)), .val (.ref b1), .val (.int (1 : Int32))] [(.int (1 : Int32))])
    exact Gl.ret X53 (v := (some (.int (1 : Int32)))) (fun h => by rw [Bd.returns] at h; cases h) (BodyLoose.notSynchronized Bd) (fun hr => retN X53 hx (t := .boolean) Bd.returns (by simp) (hb hby at_133) hr) e53 ⟨rfl, N53⟩ (by decide) (by decide)
  · rw [hk]
    show Gl p e below s _ _ _ T29 (mkF m 106 #[.val (.int p1), .val (.int (12 : Int32)), .val (.ref b1), .unset] [])
    refine Gl.st (fun _ kk => XS.iloadN X29.here hx rfl (hb hby at_106) rfl kk) ?_
    show Gl p e below s _ _ _ T29 (mkF m 107 #[.val (.int p1), .val (.int (12 : Int32)), .val (.ref b1), .unset] [(.int (12 : Int32))])
    refine Gl.st (fun _ kk => XS.bipush X29.here hx rfl (hb hby at_107) kk) ?_
    show Gl p e below s _ _ _ T29 (mkF m 109 #[.val (.int p1), .val (.int (12 : Int32)), .val (.ref b1), .unset] [(.int (8 : Int32)), (.int (12 : Int32))])
    refine Gl.st (fun _ kk => XS.icmpNo X29.here hx rfl (hb hby at_109) rfl (feq (by decide : ¬ ((12 : Int32) = (8 : Int32)))).1 kk) ?_
    show Gl p e below s _ _ _ T29 (mkF m 112 #[.val (.int p1), .val (.int (12 : Int32)), .val (.ref b1), .unset] [])
    refine Gl.st (fun _ kk => XS.iconst X29.here hx rfl (hb hby at_112) kk) ?_
    show Gl p e below s _ _ _ T29 (mkF m 113 #[.val (.int p1), .val (.int (12 : Int32)), .val (.ref b1), .unset] [(.int (1 : Int32))])
    refine Gl.st (fun _ kk => XS.goto X29.here hx rfl (pc0 := 113) (pc' := 117) rfl (hb hby at_113) (by decide) (by decide) kk) ?_
    show Gl p e below s _ _ _ T29 (mkF m 117 #[.val (.int p1), .val (.int (12 : Int32)), .val (.ref b1), .unset] [(.int (1 : Int32))])
    refine Gl.st (fun _ kk => XS.istoreN X29.here hx rfl (hb hby at_117) rfl (l' := #[.val (.int p1), .val (.int (12 : Int32)), .val (.ref b1), .val (.int (1 : Int32))]) rfl kk) ?_
    show Gl p e below s _ _ _ T29 (mkF m 118 #[.val (.int p1), .val (.int (12 : Int32)), .val (.ref b1), .val (.int (1 : Int32))] [])
    refine Gl.st (fun _ kk => XS.aloadN X29.here hx rfl (hb hby at_118) rfl rfl kk) ?_
    show Gl p e below s _ _ _ T29 (mkF m 119 #[.val (.int p1), .val (.int (12 : Int32)), .val (.ref b1), .val (.int (1 : Int32))] [(.ref b1)])
    refine Gl.st (fun _ kk => XS.iloadN X29.here hx rfl (hb hby at_119) rfl kk) ?_
    show Gl p e below s _ _ _ T29 (mkF m 120 #[.val (.int p1), .val (.int (12 : Int32)), .val (.ref b1), .val (.int (1 : Int32))] [(.int (12 : Int32)), (.ref b1)])
    obtain ⟨cl54, Ar54, q54, Sz54, Ng54, Ha54, Fi54⟩ := id Arv_b1
    have hin54 : ¬ ((12 : Int32) < 0 ∨ cl54.slots.size ≤ ((12 : Int32)).toNatClampNeg) := inb_of Sz54 ⟨by decide, by decide⟩
    have hat54 : cl54.slots[((12 : Int32)).toNatClampNeg]? = some (.ref w_RETURNS) := Ha54.at hin54 rfl
    refine Gl.st (fun _ kk => X29.aaload hx (j := (12 : Int32)) (v := (.ref w_RETURNS)) (by rw [e29]; exact Ar54.1) (State.isArrayOf_alike hZ.alike Ar54.2.1) rfl Ar54.2.2 hin54 hat54 (g := (mkF m 120 #[.val (.int p1), .val (.int (12 : Int32)), .val (.ref b1), .val (.int (1 : Int32))] [(.int (12 : Int32)), (.ref b1)])) rfl rfl (hb hby at_120) _ kk) ?_
    show Gl p e below s _ _ _ T29 (mkF m 121 #[.val (.int p1), .val (.int (12 : Int32)), .val (.ref b1), .val (.int (1 : Int32))] [(.ref w_RETURNS)])
    obtain ⟨cq55, kq55, qa55, qb55, qc55⟩ := isOf hZ e29 (E_RETURNS.ext O29.2)
    obtain ⟨_, _, ⟨T55, L55, k55, n55⟩, -, X55, ⟨Lc55, hQ55, l55, y55, z55⟩, st55⟩ := X29.virtualBack hx (y := (⟨"com/example/exile_court/exilecourt/rules/Decision$Kind", "isRecorded", "()Z"⟩ : MethodName)) (z := (⟨"com/example/exile_court/exilecourt/rules/Decision$Kind", "isRecorded", "()Z"⟩ : MethodName)) hown (mvT hZ (hw _ (List.mem_of_getElem? (i := 33) rfl))) (mvT hZ (hw _ (List.mem_of_getElem? (i := 34) rfl))) (notFace_of_selects (args := #[]) (mvT hZ (hw _ (List.mem_of_getElem? (i := 36) rfl)))) (mvT hZ (hw _ (List.mem_of_getElem? (i := 36) rfl))) (mvT hZ (hw _ (List.mem_of_getElem? (i := 35) rfl))) (by decide) (backOf (W := 0) (rm1 l Z a0 hw [] w_RETURNS w_PASSES 1 h29 n0 O29 S_PASSES (by simp [(F_RETURNS.ne F_PASSES (by decide) : w_RETURNS ≠ w_PASSES)])) hZ (hw _ (List.mem_of_getElem? (i := 37) rfl)) (hw _ (List.mem_of_getElem? (i := 4) rfl)) (by decide) (by decide)) qa55 qc55 (g := (mkF m 121 #[.val (.int p1), .val (.int (12 : Int32)), .val (.ref b1), .val (.int (1 : Int32))] [(.ref w_RETURNS)])) rfl (by rw [hml]; rfl) (Steps.refl _) (argsL := []) (rest := []) (lenOf pd_rm0_0 rfl) rfl (by show 2 * 0 + _ ≤ _; exact Nat.le_of_eq rfl) (hb hby at_121) (fun _ _ => ⟨rfl, e29, (by decide : 1 + 0 ≤ _), (by decide : 14 + 0 ≤ _)⟩)
    dsimp only [Pt.U, Pt.locs, Pt.cells, Pt.slots] at X55 l55 y55 z55 st55 hQ55
    subst l55 y55 z55
    obtain ⟨rfl, Nq55, e55⟩ := hQ55
    have N55 := Fr.app N29 Nq55
    refine Gl.st (fun _ kk => st55.trans kk) ?_
    show Gl p e below s _ _ _ T55 (mkF m 124 #[.val (.int p1), .val (.int (12 : Int32)), .val (.ref b1), .val (.int (1 : Int32))] [(.int (1 : Int32))])
    refine Gl.st (fun _ kk => XS.iloadN X55.here hx rfl (hb hby at_124) rfl kk) ?_
    show Gl p e below s _ _ _ T55 (mkF m 125 #[.val (.int p1), .val (.int (12 : Int32)), .val (.ref b1), .val (.int (1 : Int32))] [(.int (1 : Int32)), (.int (1 : Int32))])
    refine Gl.st (fun _ kk => XS.icmpNo X55.here hx rfl (hb hby at_125) rfl (teq (by decide : (1 : Int32) = (1 : Int32))).2 kk) ?_
    show Gl p e below s _ _ _ T55 (mkF m 128 #[.val (.int p1), .val (.int (12 : Int32)), .val (.ref b1), .val (.int (1 : Int32))] [])
    refine Gl.st (fun _ kk => XS.iconst X55.here hx rfl (hb hby at_128) kk) ?_
    show Gl p e below s _ _ _ T55 (mkF m 129 #[.val (.int p1), .val (.int (12 : Int32)), .val (.ref b1), .val (.int (1 : Int32))] [(.int (1 : Int32))])
    refine Gl.st (fun _ kk => XS.goto X55.here hx rfl (pc0 := 129) (pc' := 133) rfl (hb hby at_129) (by decide) (by decide) kk) ?_
    show Gl p e below s _ _ _ T55 (mkF m 133 #[.val (.int p1), .val (.int (12 : Int32)), .val (.ref b1), .val (.int (1 : Int32))] [(.int (1 : Int32))])
    exact Gl.ret X55 (v := (some (.int (1 : Int32)))) (fun h => by rw [Bd.returns] at h; cases h) (BodyLoose.notSynchronized Bd) (fun hr => retN X55 hx (t := .boolean) Bd.returns (by simp) (hb hby at_133) hr) e55 ⟨rfl, N55⟩ (by decide) (by decide)
  · rw [hk]
    show Gl p e below s _ _ _ T29 (mkF m 106 #[.val (.int p1), .val (.int (13 : Int32)), .val (.ref b1), .unset] [])
    refine Gl.st (fun _ kk => XS.iloadN X29.here hx rfl (hb hby at_106) rfl kk) ?_
    show Gl p e below s _ _ _ T29 (mkF m 107 #[.val (.int p1), .val (.int (13 : Int32)), .val (.ref b1), .unset] [(.int (13 : Int32))])
    refine Gl.st (fun _ kk => XS.bipush X29.here hx rfl (hb hby at_107) kk) ?_
    show Gl p e below s _ _ _ T29 (mkF m 109 #[.val (.int p1), .val (.int (13 : Int32)), .val (.ref b1), .unset] [(.int (8 : Int32)), (.int (13 : Int32))])
    refine Gl.st (fun _ kk => XS.icmpNo X29.here hx rfl (hb hby at_109) rfl (feq (by decide : ¬ ((13 : Int32) = (8 : Int32)))).1 kk) ?_
    show Gl p e below s _ _ _ T29 (mkF m 112 #[.val (.int p1), .val (.int (13 : Int32)), .val (.ref b1), .unset] [])
    refine Gl.st (fun _ kk => XS.iconst X29.here hx rfl (hb hby at_112) kk) ?_
    show Gl p e below s _ _ _ T29 (mkF m 113 #[.val (.int p1), .val (.int (13 : Int32)), .val (.ref b1), .unset] [(.int (1 : Int32))])
    refine Gl.st (fun _ kk => XS.goto X29.here hx rfl (pc0 := 113) (pc' := 117) rfl (hb hby at_113) (by decide) (by decide) kk) ?_
    show Gl p e below s _ _ _ T29 (mkF m 117 #[.val (.int p1), .val (.int (13 : Int32)), .val (.ref b1), .unset] [(.int (1 : Int32))])
    refine Gl.st (fun _ kk => XS.istoreN X29.here hx rfl (hb hby at_117) rfl (l' := #[.val (.int p1), .val (.int (13 : Int32)), .val (.ref b1), .val (.int (1 : Int32))]) rfl kk) ?_
    show Gl p e below s _ _ _ T29 (mkF m 118 #[.val (.int p1), .val (.int (13 : Int32)), .val (.ref b1), .val (.int (1 : Int32))] [])
    refine Gl.st (fun _ kk => XS.aloadN X29.here hx rfl (hb hby at_118) rfl rfl kk) ?_
    show Gl p e below s _ _ _ T29 (mkF m 119 #[.val (.int p1), .val (.int (13 : Int32)), .val (.ref b1), .val (.int (1 : Int32))] [(.ref b1)])
    refine Gl.st (fun _ kk => XS.iloadN X29.here hx rfl (hb hby at_119) rfl kk) ?_
    show Gl p e below s _ _ _ T29 (mkF m 120 #[.val (.int p1), .val (.int (13 : Int32)), .val (.ref b1), .val (.int (1 : Int32))] [(.int (13 : Int32)), (.ref b1)])
    obtain ⟨cl56, Ar56, q56, Sz56, Ng56, Ha56, Fi56⟩ := id Arv_b1
    have hin56 : ¬ ((13 : Int32) < 0 ∨ cl56.slots.size ≤ ((13 : Int32)).toNatClampNeg) := inb_of Sz56 ⟨by decide, by decide⟩
    have hat56 : cl56.slots[((13 : Int32)).toNatClampNeg]? = some (.ref w_LOSES) := Ha56.at hin56 rfl
    refine Gl.st (fun _ kk => X29.aaload hx (j := (13 : Int32)) (v := (.ref w_LOSES)) (by rw [e29]; exact Ar56.1) (State.isArrayOf_alike hZ.alike Ar56.2.1) rfl Ar56.2.2 hin56 hat56 (g := (mkF m 120 #[.val (.int p1), .val (.int (13 : Int32)), .val (.ref b1), .val (.int (1 : Int32))] [(.int (13 : Int32)), (.ref b1)])) rfl rfl (hb hby at_120) _ kk) ?_
    show Gl p e below s _ _ _ T29 (mkF m 121 #[.val (.int p1), .val (.int (13 : Int32)), .val (.ref b1), .val (.int (1 : Int32))] [(.ref w_LOSES)])
    obtain ⟨cq57, kq57, qa57, qb57, qc57⟩ := isOf hZ e29 (E_LOSES.ext O29.2)
    obtain ⟨_, _, ⟨T57, L57, k57, n57⟩, -, X57, ⟨Lc57, hQ57, l57, y57, z57⟩, st57⟩ := X29.virtualBack hx (y := (⟨"com/example/exile_court/exilecourt/rules/Decision$Kind", "isRecorded", "()Z"⟩ : MethodName)) (z := (⟨"com/example/exile_court/exilecourt/rules/Decision$Kind", "isRecorded", "()Z"⟩ : MethodName)) hown (mvT hZ (hw _ (List.mem_of_getElem? (i := 33) rfl))) (mvT hZ (hw _ (List.mem_of_getElem? (i := 34) rfl))) (notFace_of_selects (args := #[]) (mvT hZ (hw _ (List.mem_of_getElem? (i := 36) rfl)))) (mvT hZ (hw _ (List.mem_of_getElem? (i := 36) rfl))) (mvT hZ (hw _ (List.mem_of_getElem? (i := 35) rfl))) (by decide) (backOf (W := 0) (rm1 l Z a0 hw [] w_LOSES w_PASSES 1 h29 n0 O29 S_PASSES (by simp [(F_LOSES.ne F_PASSES (by decide) : w_LOSES ≠ w_PASSES)])) hZ (hw _ (List.mem_of_getElem? (i := 37) rfl)) (hw _ (List.mem_of_getElem? (i := 4) rfl)) (by decide) (by decide)) qa57 qc57 (g := (mkF m 121 #[.val (.int p1), .val (.int (13 : Int32)), .val (.ref b1), .val (.int (1 : Int32))] [(.ref w_LOSES)])) rfl (by rw [hml]; rfl) (Steps.refl _) (argsL := []) (rest := []) (lenOf pd_rm0_0 rfl) rfl (by show 2 * 0 + _ ≤ _; exact Nat.le_of_eq rfl) (hb hby at_121) (fun _ _ => ⟨rfl, e29, (by decide : 1 + 0 ≤ _), (by decide : 14 + 0 ≤ _)⟩)
    dsimp only [Pt.U, Pt.locs, Pt.cells, Pt.slots] at X57 l57 y57 z57 st57 hQ57
    subst l57 y57 z57
    obtain ⟨rfl, Nq57, e57⟩ := hQ57
    have N57 := Fr.app N29 Nq57
    refine Gl.st (fun _ kk => st57.trans kk) ?_
    show Gl p e below s _ _ _ T57 (mkF m 124 #[.val (.int p1), .val (.int (13 : Int32)), .val (.ref b1), .val (.int (1 : Int32))] [(.int (1 : Int32))])
    refine Gl.st (fun _ kk => XS.iloadN X57.here hx rfl (hb hby at_124) rfl kk) ?_
    show Gl p e below s _ _ _ T57 (mkF m 125 #[.val (.int p1), .val (.int (13 : Int32)), .val (.ref b1), .val (.int (1 : Int32))] [(.int (1 : Int32)), (.int (1 : Int32))])
    refine Gl.st (fun _ kk => XS.icmpNo X57.here hx rfl (hb hby at_125) rfl (teq (by decide : (1 : Int32) = (1 : Int32))).2 kk) ?_
    show Gl p e below s _ _ _ T57 (mkF m 128 #[.val (.int p1), .val (.int (13 : Int32)), .val (.ref b1), .val (.int (1 : Int32))] [])
    refine Gl.st (fun _ kk => XS.iconst X57.here hx rfl (hb hby at_128) kk) ?_
    show Gl p e below s _ _ _ T57 (mkF m 129 #[.val (.int p1), .val (.int (13 : Int32)), .val (.ref b1), .val (.int (1 : Int32))] [(.int (1 : Int32))])
    refine Gl.st (fun _ kk => XS.goto X57.here hx rfl (pc0 := 129) (pc' := 133) rfl (hb hby at_129) (by decide) (by decide) kk) ?_
    show Gl p e below s _ _ _ T57 (mkF m 133 #[.val (.int p1), .val (.int (13 : Int32)), .val (.ref b1), .val (.int (1 : Int32))] [(.int (1 : Int32))])
    exact Gl.ret X57 (v := (some (.int (1 : Int32)))) (fun h => by rw [Bd.returns] at h; cases h) (BodyLoose.notSynchronized Bd) (fun hr => retN X57 hx (t := .boolean) Bd.returns (by simp) (hb hby at_133) hr) e57 ⟨rfl, N57⟩ (by decide) (by decide)
set_option maxRecDepth 65536 in
set_option maxHeartbeats 40000000 in
theorem comes_1 {Post : Tables → Env → Array Value → State → Outcome → State → Prop} (hpost : ∀ tb e args s v u, (limb_1_1.after args s (.returned v) u = true ∧ limb_1_2.after args s (.returned v) u = true ∧ True) → FrameEnd s (.returned v) u (Jvm.fieldLocs frame_1_writes args s ++ Jvm.arrayLocs frame_1_arrays args s ++ Jvm.staticLocs frame_1_statics s) 16 128 → Post tb e args s (.returned v) u) :
    ArmFor flags0 classFile x code maxLocals ret World_1 tables_1 room_1 Calls_1 rest_1 Pre_1 Post := by
  intro l hfl _ _ p e ha hc hk s m args below hf hA hF happ hP
  obtain ⟨hcalls, hrest, hpre⟩ := hP
  obtain ⟨-, -, -, hnamed, -, -, -, hat⟩ := (Spec.applies_iff hf).mp happ
  obtain ⟨hg, hn⟩ := and_e (Cond.before_iff.mp (show (Jvm.Cond.and given_1 narrow_1).before args s = true from hpre))
  obtain ⟨g1a, g1b⟩ := and_e hg
  obtain ⟨w0, rfl⟩ : ∃ w0 : Value, args = #[w0] := by
    have hs : args.size = 1 := by simpa [Cond.value, given_1] using g1a
    obtain ⟨L⟩ := args
    match L, hs with
    | [w0], _ => exact ⟨w0, rfl⟩
  have hw := fun d (hd : d ∈ tables_1) => atoms_spec (ws := Jvm.Cond.code x code maxLocals ret :: tables_1) hat d (List.mem_cons_of_mem _ hd)
  have hfit : Fit s := fun {y c} hc i hi => by
    obtain ⟨ha, rfl⟩ := Array.getElem?_eq_some_iff.mp hc
    have q := List.all_eq_true.mp ((Array.all_eq_true_iff_forall_mem.mp hF) _ (Array.getElem_mem ha)) i (List.mem_range.mpr hi)
    simpa [Array.getElem?_eq_getElem hi] using q
  obtain ⟨i0, ei0⟩ := is_v g1b
  obtain rfl : w0 = (.int i0) := Option.some.inj ei0
  obtain ⟨g2a, g2b⟩ := and_e hn
  obtain ⟨g3a, g3b⟩ := and_e g2b
  obtain ⟨g4a, g4b⟩ := and_e g3b
  obtain ⟨g5a, g5b⟩ := and_e g4b
  obtain ⟨g6a, g6b⟩ := and_e g5b
  obtain ⟨g7a, g7b⟩ := and_e g6b
  obtain ⟨g8a, g8b⟩ := and_e g7b
  obtain ⟨g9a, g9b⟩ := and_e g8b
  obtain ⟨g10a, g10b⟩ := and_e g9b
  obtain ⟨g11a, g11b⟩ := and_e g10b
  obtain ⟨g12a, g12b⟩ := and_e g11b
  obtain ⟨g13a, g13b⟩ := and_e g12b
  obtain ⟨g14a, g14b⟩ := and_e g13b
  obtain ⟨g15a, g15b⟩ := and_e g14b
  obtain ⟨g16a, g16b⟩ := and_e g15b
  obtain ⟨g17a, g17b⟩ := and_e g16b
  obtain ⟨g18a, g18b⟩ := and_e g17b
  obtain ⟨g19a, g19b⟩ := and_e g18b
  obtain ⟨g20a, g20b⟩ := and_e g19b
  obtain ⟨g21a, g21b⟩ := and_e g20b
  obtain ⟨g22a, g22b⟩ := and_e g21b
  obtain ⟨g23a, g23b⟩ := and_e g22b
  obtain ⟨g24a, g24b⟩ := and_e g23b
  obtain ⟨g25a, g25b⟩ := and_e g24b
  obtain ⟨g26a, g26b⟩ := and_e g25b
  obtain ⟨g27a, g27b⟩ := and_e g26b
  obtain ⟨g28a, g28b⟩ := and_e g27b
  obtain ⟨w_INCOME, ev_INCOME⟩ := exa_v g2a
  have E_INCOME := Exa.start ev_INCOME g2a
  have S_INCOME := Sta.start ev_INCOME (Or.inr ⟨(hw _ (List.mem_of_getElem? (i := 4) rfl)), (hw _ (List.mem_of_getElem? (i := 5) rfl))⟩)
  obtain ⟨w_FOREIGN_AID, ev_FOREIGN_AID⟩ := exa_v g3a
  have E_FOREIGN_AID := Exa.start ev_FOREIGN_AID g3a
  have S_FOREIGN_AID := Sta.start ev_FOREIGN_AID (Or.inr ⟨(hw _ (List.mem_of_getElem? (i := 4) rfl)), (hw _ (List.mem_of_getElem? (i := 8) rfl))⟩)
  obtain ⟨w_COUP, ev_COUP⟩ := exa_v g4a
  have E_COUP := Exa.start ev_COUP g4a
  have S_COUP := Sta.start ev_COUP (Or.inr ⟨(hw _ (List.mem_of_getElem? (i := 4) rfl)), (hw _ (List.mem_of_getElem? (i := 10) rfl))⟩)
  obtain ⟨w_TAX, ev_TAX⟩ := exa_v g5a
  have E_TAX := Exa.start ev_TAX g5a
  have S_TAX := Sta.start ev_TAX (Or.inr ⟨(hw _ (List.mem_of_getElem? (i := 4) rfl)), (hw _ (List.mem_of_getElem? (i := 12) rfl))⟩)
  obtain ⟨w_ASSASSINATE, ev_ASSASSINATE⟩ := exa_v g6a
  have E_ASSASSINATE := Exa.start ev_ASSASSINATE g6a
  have S_ASSASSINATE := Sta.start ev_ASSASSINATE (Or.inr ⟨(hw _ (List.mem_of_getElem? (i := 4) rfl)), (hw _ (List.mem_of_getElem? (i := 14) rfl))⟩)
  obtain ⟨w_STEAL, ev_STEAL⟩ := exa_v g7a
  have E_STEAL := Exa.start ev_STEAL g7a
  have S_STEAL := Sta.start ev_STEAL (Or.inr ⟨(hw _ (List.mem_of_getElem? (i := 4) rfl)), (hw _ (List.mem_of_getElem? (i := 16) rfl))⟩)
  obtain ⟨w_EXCHANGE, ev_EXCHANGE⟩ := exa_v g8a
  have E_EXCHANGE := Exa.start ev_EXCHANGE g8a
  have S_EXCHANGE := Sta.start ev_EXCHANGE (Or.inr ⟨(hw _ (List.mem_of_getElem? (i := 4) rfl)), (hw _ (List.mem_of_getElem? (i := 18) rfl))⟩)
  obtain ⟨w_CHALLENGES, ev_CHALLENGES⟩ := exa_v g9a
  have E_CHALLENGES := Exa.start ev_CHALLENGES g9a
  have S_CHALLENGES := Sta.start ev_CHALLENGES (Or.inr ⟨(hw _ (List.mem_of_getElem? (i := 4) rfl)), (hw _ (List.mem_of_getElem? (i := 20) rfl))⟩)
  obtain ⟨w_PASSES, ev_PASSES⟩ := exa_v g10a
  have E_PASSES := Exa.start ev_PASSES g10a
  have S_PASSES := Sta.start ev_PASSES (Or.inr ⟨(hw _ (List.mem_of_getElem? (i := 4) rfl)), (hw _ (List.mem_of_getElem? (i := 22) rfl))⟩)
  obtain ⟨w_BLOCKS, ev_BLOCKS⟩ := exa_v g11a
  have E_BLOCKS := Exa.start ev_BLOCKS g11a
  have S_BLOCKS := Sta.start ev_BLOCKS (Or.inr ⟨(hw _ (List.mem_of_getElem? (i := 4) rfl)), (hw _ (List.mem_of_getElem? (i := 24) rfl))⟩)
  obtain ⟨w_SHOWS, ev_SHOWS⟩ := exa_v g12a
  have E_SHOWS := Exa.start ev_SHOWS g12a
  have S_SHOWS := Sta.start ev_SHOWS (Or.inr ⟨(hw _ (List.mem_of_getElem? (i := 4) rfl)), (hw _ (List.mem_of_getElem? (i := 26) rfl))⟩)
  obtain ⟨w_DRAWS, ev_DRAWS⟩ := exa_v g13a
  have E_DRAWS := Exa.start ev_DRAWS g13a
  have S_DRAWS := Sta.start ev_DRAWS (Or.inr ⟨(hw _ (List.mem_of_getElem? (i := 4) rfl)), (hw _ (List.mem_of_getElem? (i := 28) rfl))⟩)
  obtain ⟨w_RETURNS, ev_RETURNS⟩ := exa_v g14a
  have E_RETURNS := Exa.start ev_RETURNS g14a
  have S_RETURNS := Sta.start ev_RETURNS (Or.inr ⟨(hw _ (List.mem_of_getElem? (i := 4) rfl)), (hw _ (List.mem_of_getElem? (i := 30) rfl))⟩)
  obtain ⟨w_LOSES, ev_LOSES⟩ := exa_v g15a
  have E_LOSES := Exa.start ev_LOSES g15a
  have S_LOSES := Sta.start ev_LOSES (Or.inr ⟨(hw _ (List.mem_of_getElem? (i := 4) rfl)), (hw _ (List.mem_of_getElem? (i := 32) rfl))⟩)
  have F_INCOME := Fld.start ((fld_at ev_INCOME).symm.trans (own_eqint g16a))
  have F_PASSES := Fld.start ((fld_at ev_PASSES).symm.trans (own_eqint g17a))
  have F_TAX := Fld.start ((fld_at ev_TAX).symm.trans (own_eqint g18a))
  have F_RETURNS := Fld.start ((fld_at ev_RETURNS).symm.trans (own_eqint g19a))
  have F_LOSES := Fld.start ((fld_at ev_LOSES).symm.trans (own_eqint g20a))
  have F_ASSASSINATE := Fld.start ((fld_at ev_ASSASSINATE).symm.trans (own_eqint g21a))
  have F_CHALLENGES := Fld.start ((fld_at ev_CHALLENGES).symm.trans (own_eqint g22a))
  have F_COUP := Fld.start ((fld_at ev_COUP).symm.trans (own_eqint g23a))
  have F_DRAWS := Fld.start ((fld_at ev_DRAWS).symm.trans (own_eqint g24a))
  have F_SHOWS := Fld.start ((fld_at ev_SHOWS).symm.trans (own_eqint g25a))
  have F_FOREIGN_AID := Fld.start ((fld_at ev_FOREIGN_AID).symm.trans (own_eqint g26a))
  have F_BLOCKS := Fld.start ((fld_at ev_BLOCKS).symm.trans (own_eqint g27a))
  have F_STEAL := Fld.start ((fld_at ev_STEAL).symm.trans (own_eqint g28a))
  have F_EXCHANGE := Fld.start ((fld_at ev_EXCHANGE).symm.trans (own_eqint g28b))
  obtain ⟨n, o, h1, h2, h3, _, L, rfl, ⟨rfl, N⟩, hq⟩ := rm0 l s _ hw tables_1 i0 w_INCOME w_FOREIGN_AID w_COUP w_TAX w_ASSASSINATE w_STEAL w_EXCHANGE w_CHALLENGES w_PASSES w_BLOCKS w_SHOWS w_DRAWS w_RETURNS w_LOSES s.heap s.heap.size (Old.start s) S_INCOME S_FOREIGN_AID S_COUP S_TAX S_ASSASSINATE S_STEAL S_EXCHANGE S_CHALLENGES S_PASSES S_BLOCKS S_SHOWS S_DRAWS S_RETURNS S_LOSES E_INCOME E_FOREIGN_AID E_COUP E_TAX E_ASSASSINATE E_STEAL E_EXCHANGE E_CHALLENGES E_PASSES E_BLOCKS E_SHOWS E_DRAWS E_RETURNS E_LOSES F_INCOME F_FOREIGN_AID F_COUP F_TAX F_ASSASSINATE F_STEAL F_EXCHANGE F_CHALLENGES F_PASSES F_BLOCKS F_SHOWS F_DRAWS F_RETURNS F_LOSES p e ha hc hk s m _ below hf ((Spec.applies_iff_loose hf).mp happ).1 ⟨rfl, State.Warmed39.refl s, rfl⟩ trivial
  refine ⟨n, _, h1, h2, h3, hpost _ _ _ _ _ _ ⟨Cond.after_iff.mpr rfl, Cond.after_iff.mpr (eq_i res_at (Term.int_eval (1)) rfl), trivial⟩ ⟨hq.1, hq.2.1, (hq.2.2.sift fun y hy => Or.inr (N y hy)).mono (by decide) (by decide)⟩⟩
theorem main_1_1 : Claimed_1_1 := comes_1 fun _ _ _ _ _ _ h hF => ⟨h.1, hF⟩
theorem main_1_2 : Claimed_1_2 := comes_1 fun _ _ _ _ _ _ h hF => ⟨h.2.1, hF⟩
end Jvm.Pilot.@@N@@
namespace Jvm.Pilot.@@N@@
open Jvm Jvm.ClassFile Sem Op Lib Jvm.Free Jvm.Stand Jvm.Pilot.@@N@@.Jvm.D
/-! MADE BY PROGRAM (witnessworld.py) out of the Statement's table words and the real class files: 13 classes; the members and pool entries that the words name. The judged class is class 1, her method 1. -/
namespace start1
open Jvm.ClassFile
def u (s : String) : CpInfo := .utf8 (stringToUtf16 s)
/-- a pool by its gaps: so many unusable entries, then the entry; so many at the end -/
def gap : Nat → List CpInfo → List CpInfo
  | 0, r => r
  | n + 1, r => .unusable :: gap n r
def poolList (es : List (Nat × CpInfo)) (last : Nat) : List CpInfo := es.foldr (fun e r => gap e.1 (e.2 :: r)) (gap last [])
def pool (es : List (Nat × CpInfo)) (last : Nat) : Array CpInfo := ⟨poolList es last⟩
def fileOf (pool : Array CpInfo) (this : Nat) (attrs : Array Attribute := #[]) (ms : Array MethodInfo := #[]) (fl : Nat := 33) (sup : Nat := 0) (ifs : Array Nat := #[]) (fds : Array FieldInfo := #[]) : ClassFile where
  minorVersion := 0
  majorVersion := 65
  constantPool := pool
  accessFlags := fl
  thisClass := this
  superClass := sup
  interfaces := ifs
  fields := fds
  methods := ms
  attributes := attrs
def plain (name : String) (sup : Option ClassId) : Class where
  name := name
  kind := .ordinary
  loader := none
  accessFlags := 33
  super := sup
  interfaces := #[]
  cf := none
  fields := #[]
  methods := #[]
  instanceTypes := #[]
  staticTypes := #[]
  resolved := #[]
  callSites := []
  init := .initialized
  statics := none
  mirror := none

def pool0 : Array CpInfo := pool [(5, u "<init>"), (0, u "()V"), (1, .class_ 10), (1, u "java/lang/Object")] 113

def k0m0 : Method := { name := "<init>", desc := "()V", sig := { parameters := [], returnType := none }, accessFlags := 1, code := none }
/-- java/lang/Object -/
def k0 : Class := { plain "java/lang/Object" none with
  accessFlags := 33
  interfaces := #[]
  cf := some (fileOf pool0 8 #[] #[{ accessFlags := 1, nameIndex := 5, descriptorIndex := 6, attributes := #[] }] 33 0 #[] #[])
  fields := #[]
  methods := #[k0m0]
  instanceTypes := #[]
  staticTypes := #[]
  resolved := Array.replicate 124 none
  statics := none }

def pool1 : Array CpInfo := pool [(2, .class_ 4), (1, u "java/lang/Object"), (0, u "<init>"), (0, u "()V"), (0, .integer 2147483647), (0, .class_ 9), (0, u "com/example/exile_court/exilecourt/rules/Decision$Kind"), (0, .fieldref 8 11), (0, .nameAndType 12 13), (0, u "INCOME"), (0, u "Lcom/example/exile_court/exilecourt/rules/Decision$Kind;"), (0, .fieldref 8 15), (0, .nameAndType 16 13), (0, u "FOREIGN_AID"), (0, .fieldref 8 18), (0, .nameAndType 19 13), (0, u "COUP"), (0, .fieldref 8 21), (0, .nameAndType 22 13), (0, u "TAX"), (0, .fieldref 8 24), (0, .nameAndType 25 13), (0, u "ASSASSINATE"), (0, .fieldref 8 27), (0, .nameAndType 28 13), (0, u "STEAL"), (0, .fieldref 8 30), (0, .nameAndType 31 13), (0, u "EXCHANGE"), (0, .fieldref 8 33), (0, .nameAndType 34 13), (0, u "CHALLENGES"), (0, .fieldref 8 36), (0, .nameAndType 37 13), (0, u "PASSES"), (0, .fieldref 8 39), (0, .nameAndType 40 13), (0, u "BLOCKS"), (0, .fieldref 8 42), (0, .nameAndType 43 13), (0, u "SHOWS"), (0, .fieldref 8 45), (0, .nameAndType 46 13), (0, u "DRAWS"), (0, .fieldref 8 48), (0, .nameAndType 49 13), (0, u "RETURNS"), (0, .fieldref 8 51), (0, .nameAndType 52 13), (0, u "LOSES"), (0, .methodref 8 54), (0, .nameAndType 55 56), (0, u "isRecorded"), (0, u "()Z"), (0, .class_ 58), (0, u "com/example/exile_court/exilecourt/rules/KindIsRecordedPinLaw"), (2, u "law"), (0, u "(I)Z")] 9

def k1m0 : Method := { name := "<init>", desc := "()V", sig := { parameters := [], returnType := none }, accessFlags := 1, code := none }
def k1c1 : Code := { maxStack := 4, maxLocals := 4, code := code, exceptionTable := #[], attributes := #[] }
def k1m1 : Method := { name := "law", desc := "(I)Z", sig := { parameters := [.int], returnType := some .boolean }, accessFlags := 9, code := some k1c1 }
/-- com/example/exile_court/exilecourt/rules/KindIsRecordedPinLaw -/
def k1 : Class := { plain "com/example/exile_court/exilecourt/rules/KindIsRecordedPinLaw" (some 0) with
  accessFlags := 49
  interfaces := #[]
  cf := some (fileOf pool1 57 #[] #[{ accessFlags := 1, nameIndex := 5, descriptorIndex := 6, attributes := #[] }, { accessFlags := 9, nameIndex := 61, descriptorIndex := 62, attributes := #[] }] 49 2 #[] #[])
  fields := #[]
  methods := #[k1m0, k1m1]
  instanceTypes := #[]
  staticTypes := #[]
  resolved := Array.replicate 72 none
  statics := none }

def pool2 : Array CpInfo := pool [(1, .class_ 2), (0, u "java/lang/constant/Constable"), (0, .class_ 4), (0, u "java/lang/Object")] 6

/-- java/lang/constant/Constable -/
def k2 : Class := { plain "java/lang/constant/Constable" (some 0) with
  accessFlags := 1537
  interfaces := #[]
  cf := some (fileOf pool2 1 #[] #[] 1537 3 #[] #[])
  fields := #[]
  methods := #[]
  instanceTypes := #[]
  staticTypes := #[]
  resolved := Array.replicate 11 none
  statics := none }

def pool3 : Array CpInfo := pool [(1, .class_ 2), (0, u "java/lang/Comparable"), (0, .class_ 4), (0, u "java/lang/Object")] 7

/-- java/lang/Comparable -/
def k3 : Class := { plain "java/lang/Comparable" (some 0) with
  accessFlags := 1537
  interfaces := #[]
  cf := some (fileOf pool3 1 #[] #[] 1537 3 #[] #[])
  fields := #[]
  methods := #[]
  instanceTypes := #[]
  staticTypes := #[]
  resolved := Array.replicate 12 none
  statics := none }

def pool4 : Array CpInfo := pool [(1, .class_ 2), (0, u "java/io/Serializable"), (0, .class_ 4), (0, u "java/lang/Object")] 2

/-- java/io/Serializable -/
def k4 : Class := { plain "java/io/Serializable" (some 0) with
  accessFlags := 1537
  interfaces := #[]
  cf := some (fileOf pool4 1 #[] #[] 1537 3 #[] #[])
  fields := #[]
  methods := #[]
  instanceTypes := #[]
  staticTypes := #[]
  resolved := Array.replicate 7 none
  statics := none }

def pool5 : Array CpInfo := pool [(2, .class_ 4), (1, u "java/lang/Enum"), (0, u "name"), (0, u "Ljava/lang/String;"), (2, u "ordinal"), (0, u "I"), (1, .class_ 14), (1, u "java/lang/Object"), (4, u "hash"), (86, .class_ 108), (1, u "java/lang/Enum$EnumDesc"), (2, .class_ 112), (0, u "java/lang/constant/Constable"), (0, .class_ 114), (0, u "java/lang/Comparable"), (0, .class_ 116), (0, u "java/io/Serializable")] 87

/-- java/lang/Enum -/
def k5 : Class := { plain "java/lang/Enum" (some 0) with
  accessFlags := 1057
  interfaces := #[2, 3, 4]
  cf := some (fileOf pool5 2 #[.nestMembers #[106]] #[] 1057 12 #[111, 113, 115] #[{ accessFlags := 18, nameIndex := 5, descriptorIndex := 6, attributes := #[] }, { accessFlags := 18, nameIndex := 9, descriptorIndex := 10, attributes := #[] }, { accessFlags := 2, nameIndex := 19, descriptorIndex := 10, attributes := #[] }])
  fields := #[{ name := "name", type := (.object "java/lang/String"), accessFlags := 18, slot := 0, constantValue := 0 }, { name := "ordinal", type := .int, accessFlags := 18, slot := 1, constantValue := 0 }, { name := "hash", type := .int, accessFlags := 2, slot := 2, constantValue := 0 }]
  methods := #[]
  instanceTypes := #[(.object "java/lang/String"), .int, .int]
  staticTypes := #[]
  resolved := Array.replicate 204 none
  statics := none }

def pool6 : Array CpInfo := pool [(1, .class_ 2), (0, u "com/example/exile_court/exilecourt/rules/Decision$Kind"), (2, u "INCOME"), (0, u "Lcom/example/exile_court/exilecourt/rules/Decision$Kind;"), (2, u "FOREIGN_AID"), (2, u "COUP"), (2, u "TAX"), (2, u "ASSASSINATE"), (2, u "STEAL"), (2, u "EXCHANGE"), (2, u "CHALLENGES"), (0, .fieldref 1 29), (0, .nameAndType 30 6), (0, u "PASSES"), (2, u "BLOCKS"), (2, u "SHOWS"), (2, u "DRAWS"), (2, u "RETURNS"), (2, u "LOSES"), (2, u "$VALUES"), (0, u "[Lcom/example/exile_court/exilecourt/rules/Decision$Kind;"), (6, .class_ 58), (1, u "java/lang/Enum"), (8, u "word"), (0, u "Ljava/lang/String;"), (2, u "argument"), (0, u "Lcom/example/exile_court/exilecourt/rules/Decision$Argument;"), (2, u "claim"), (0, u "Lcom/example/exile_court/exilecourt/rules/Card;"), (8, u "blockers"), (0, u "Ljava/util/List;"), (103, u "ACTIONS"), (0, u "Ljava/util/Set;"), (9, u "isRecorded"), (0, u "()Z"), (9, .class_ 213), (0, u "com/example/exile_court/exilecourt/rules/Decision")] 17

def k6c0 : Code := { maxStack := 2, maxLocals := 1, code := prog_16_method_4_code, exceptionTable := #[], attributes := #[] }
def k6m0 : Method := { name := "isRecorded", desc := "()Z", sig := { parameters := [], returnType := some .boolean }, accessFlags := 1, code := some k6c0 }
/-- com/example/exile_court/exilecourt/rules/Decision$Kind -/
def k6 : Class := { plain "com/example/exile_court/exilecourt/rules/Decision$Kind" (some 5) with
  accessFlags := 16433
  interfaces := #[]
  cf := some (fileOf pool6 1 #[.nestHost 212] #[{ accessFlags := 1, nameIndex := 201, descriptorIndex := 202, attributes := #[] }] 16433 56 #[] #[{ accessFlags := 16409, nameIndex := 5, descriptorIndex := 6, attributes := #[] }, { accessFlags := 16409, nameIndex := 9, descriptorIndex := 6, attributes := #[] }, { accessFlags := 16409, nameIndex := 12, descriptorIndex := 6, attributes := #[] }, { accessFlags := 16409, nameIndex := 15, descriptorIndex := 6, attributes := #[] }, { accessFlags := 16409, nameIndex := 18, descriptorIndex := 6, attributes := #[] }, { accessFlags := 16409, nameIndex := 21, descriptorIndex := 6, attributes := #[] }, { accessFlags := 16409, nameIndex := 24, descriptorIndex := 6, attributes := #[] }, { accessFlags := 16409, nameIndex := 27, descriptorIndex := 6, attributes := #[] }, { accessFlags := 16409, nameIndex := 30, descriptorIndex := 6, attributes := #[] }, { accessFlags := 16409, nameIndex := 33, descriptorIndex := 6, attributes := #[] }, { accessFlags := 16409, nameIndex := 36, descriptorIndex := 6, attributes := #[] }, { accessFlags := 16409, nameIndex := 39, descriptorIndex := 6, attributes := #[] }, { accessFlags := 16409, nameIndex := 42, descriptorIndex := 6, attributes := #[] }, { accessFlags := 16409, nameIndex := 45, descriptorIndex := 6, attributes := #[] }, { accessFlags := 25, nameIndex := 190, descriptorIndex := 191, attributes := #[] }, { accessFlags := 18, nameIndex := 67, descriptorIndex := 68, attributes := #[] }, { accessFlags := 18, nameIndex := 71, descriptorIndex := 72, attributes := #[] }, { accessFlags := 18, nameIndex := 75, descriptorIndex := 76, attributes := #[] }, { accessFlags := 18, nameIndex := 85, descriptorIndex := 86, attributes := #[] }, { accessFlags := 4122, nameIndex := 48, descriptorIndex := 49, attributes := #[] }])
  fields := #[{ name := "INCOME", type := (.object "com/example/exile_court/exilecourt/rules/Decision$Kind"), accessFlags := 16409, slot := 0, constantValue := 0 }, { name := "FOREIGN_AID", type := (.object "com/example/exile_court/exilecourt/rules/Decision$Kind"), accessFlags := 16409, slot := 1, constantValue := 0 }, { name := "COUP", type := (.object "com/example/exile_court/exilecourt/rules/Decision$Kind"), accessFlags := 16409, slot := 2, constantValue := 0 }, { name := "TAX", type := (.object "com/example/exile_court/exilecourt/rules/Decision$Kind"), accessFlags := 16409, slot := 3, constantValue := 0 }, { name := "ASSASSINATE", type := (.object "com/example/exile_court/exilecourt/rules/Decision$Kind"), accessFlags := 16409, slot := 4, constantValue := 0 }, { name := "STEAL", type := (.object "com/example/exile_court/exilecourt/rules/Decision$Kind"), accessFlags := 16409, slot := 5, constantValue := 0 }, { name := "EXCHANGE", type := (.object "com/example/exile_court/exilecourt/rules/Decision$Kind"), accessFlags := 16409, slot := 6, constantValue := 0 }, { name := "CHALLENGES", type := (.object "com/example/exile_court/exilecourt/rules/Decision$Kind"), accessFlags := 16409, slot := 7, constantValue := 0 }, { name := "PASSES", type := (.object "com/example/exile_court/exilecourt/rules/Decision$Kind"), accessFlags := 16409, slot := 8, constantValue := 0 }, { name := "BLOCKS", type := (.object "com/example/exile_court/exilecourt/rules/Decision$Kind"), accessFlags := 16409, slot := 9, constantValue := 0 }, { name := "SHOWS", type := (.object "com/example/exile_court/exilecourt/rules/Decision$Kind"), accessFlags := 16409, slot := 10, constantValue := 0 }, { name := "DRAWS", type := (.object "com/example/exile_court/exilecourt/rules/Decision$Kind"), accessFlags := 16409, slot := 11, constantValue := 0 }, { name := "RETURNS", type := (.object "com/example/exile_court/exilecourt/rules/Decision$Kind"), accessFlags := 16409, slot := 12, constantValue := 0 }, { name := "LOSES", type := (.object "com/example/exile_court/exilecourt/rules/Decision$Kind"), accessFlags := 16409, slot := 13, constantValue := 0 }, { name := "ACTIONS", type := (.object "java/util/Set"), accessFlags := 25, slot := 14, constantValue := 0 }, { name := "word", type := (.object "java/lang/String"), accessFlags := 18, slot := 3, constantValue := 0 }, { name := "argument", type := (.object "com/example/exile_court/exilecourt/rules/Decision$Argument"), accessFlags := 18, slot := 4, constantValue := 0 }, { name := "claim", type := (.object "com/example/exile_court/exilecourt/rules/Card"), accessFlags := 18, slot := 5, constantValue := 0 }, { name := "blockers", type := (.object "java/util/List"), accessFlags := 18, slot := 6, constantValue := 0 }, { name := "$VALUES", type := (.array (.object "com/example/exile_court/exilecourt/rules/Decision$Kind")), accessFlags := 4122, slot := 15, constantValue := 0 }]
  methods := #[k6m0]
  instanceTypes := #[(.object "java/lang/String"), .int, .int, (.object "java/lang/String"), (.object "com/example/exile_court/exilecourt/rules/Decision$Argument"), (.object "com/example/exile_court/exilecourt/rules/Card"), (.object "java/util/List")]
  staticTypes := #[(.object "com/example/exile_court/exilecourt/rules/Decision$Kind"), (.object "com/example/exile_court/exilecourt/rules/Decision$Kind"), (.object "com/example/exile_court/exilecourt/rules/Decision$Kind"), (.object "com/example/exile_court/exilecourt/rules/Decision$Kind"), (.object "com/example/exile_court/exilecourt/rules/Decision$Kind"), (.object "com/example/exile_court/exilecourt/rules/Decision$Kind"), (.object "com/example/exile_court/exilecourt/rules/Decision$Kind"), (.object "com/example/exile_court/exilecourt/rules/Decision$Kind"), (.object "com/example/exile_court/exilecourt/rules/Decision$Kind"), (.object "com/example/exile_court/exilecourt/rules/Decision$Kind"), (.object "com/example/exile_court/exilecourt/rules/Decision$Kind"), (.object "com/example/exile_court/exilecourt/rules/Decision$Kind"), (.object "com/example/exile_court/exilecourt/rules/Decision$Kind"), (.object "com/example/exile_court/exilecourt/rules/Decision$Kind"), (.object "java/util/Set"), (.array (.object "com/example/exile_court/exilecourt/rules/Decision$Kind"))]
  resolved := Array.replicate 231 none
  statics := some 0 }

def pool7 : Array CpInfo := pool [(1, u "java/lang/Cloneable"), (0, .class_ 1), (0, u "java/lang/Object"), (0, .class_ 3)] 3

/-- java/lang/Cloneable -/
def k7 : Class := { plain "java/lang/Cloneable" (some 0) with
  accessFlags := 1537
  interfaces := #[]
  cf := some (fileOf pool7 2 #[] #[] 1537 4 #[] #[])
  fields := #[]
  methods := #[]
  instanceTypes := #[]
  staticTypes := #[]
  resolved := Array.replicate 8 none
  statics := none }

/-- the primitive byte -/
def k8 : Class := { plain "byte" none with kind := .primitive 'B', accessFlags := 0x411 }
/-- [B -/
def k9 : Class := { plain "[B" (some 0) with kind := .array 8 .byte, interfaces := #[7, 4], accessFlags := 1041 }

/-- the primitive int -/
def k10 : Class := { plain "int" none with kind := .primitive 'I', accessFlags := 0x411 }
/-- [I -/
def k11 : Class := { plain "[I" (some 0) with kind := .array 10 .int, interfaces := #[7, 4], accessFlags := 1041 }

/-- [Lcom/example/exile_court/exilecourt/rules/Decision$Kind; -/
def k12 : Class := { plain "[Lcom/example/exile_court/exilecourt/rules/Decision$Kind;" (some 0) with kind := .array 6 (.object "com/example/exile_court/exilecourt/rules/Decision$Kind"), interfaces := #[7, 4], accessFlags := 1041 }

def heap : Heap := #[{ cls := 6, slots := #[.ref 1, .ref 2, .ref 3, .ref 4, .ref 5, .ref 6, .ref 7, .ref 8, .ref 9, .ref 10, .ref 11, .ref 12, .ref 13, .ref 14, .null, .null], vm := .statics 6 },
  { cls := 6, slots := #[.null, .int 0, .int 0, .null, .null, .null, .null], vm := .none },
  { cls := 6, slots := #[.null, .int 1, .int 0, .null, .null, .null, .null], vm := .none },
  { cls := 6, slots := #[.null, .int 2, .int 0, .null, .null, .null, .null], vm := .none },
  { cls := 6, slots := #[.null, .int 3, .int 0, .null, .null, .null, .null], vm := .none },
  { cls := 6, slots := #[.null, .int 4, .int 0, .null, .null, .null, .null], vm := .none },
  { cls := 6, slots := #[.null, .int 5, .int 0, .null, .null, .null, .null], vm := .none },
  { cls := 6, slots := #[.null, .int 6, .int 0, .null, .null, .null, .null], vm := .none },
  { cls := 6, slots := #[.null, .int 7, .int 0, .null, .null, .null, .null], vm := .none },
  { cls := 6, slots := #[.null, .int 8, .int 0, .null, .null, .null, .null], vm := .none },
  { cls := 6, slots := #[.null, .int 9, .int 0, .null, .null, .null, .null], vm := .none },
  { cls := 6, slots := #[.null, .int 10, .int 0, .null, .null, .null, .null], vm := .none },
  { cls := 6, slots := #[.null, .int 11, .int 0, .null, .null, .null, .null], vm := .none },
  { cls := 6, slots := #[.null, .int 12, .int 0, .null, .null, .null, .null], vm := .none },
  { cls := 6, slots := #[.null, .int 13, .int 0, .null, .null, .null, .null], vm := .none }]
def classes : Array Class := #[k0, k1, k2, k3, k4, k5, k6, k7, k8, k9, k10, k11, k12]
def interned : List (Array UInt16 × Addr) := []
def slotsUsed : Nat := 114
def theMethod : MethodId := ⟨1, 1⟩
def args0 : Array Value := #[.int 5]
def aboutOver (below : List Frame) : State where
  vm := { classes := classes, interned := interned.toArray }
  heap := heap
  slotsUsed := slotsUsed
  threads := #[{ frames := .invoking theMethod args0 :: below }]
def below0 : List Frame := [.native { method := ⟨0, 0⟩, args := #[] }]
def about1 : State := aboutOver below0
def p0 : Program := .bare "" "" ""
def e0 : Env := launch0.env 0 0 0
theorem w_frames : about1.frames = Frame.invoking theMethod args0 :: below0 := rfl
set_option maxRecDepth 65536 in
theorem w_args : argsFit about1.vm theMethod args0 = true := by decide +kernel
set_option maxRecDepth 65536 in
theorem w_heap : heapFits about1 = true := by decide +kernel
set_option maxRecDepth 65536 in
theorem w_runnable : about1.curStatus? = some .runnable := by decide +kernel
set_option maxRecDepth 65536 in
theorem w_alone : about1.alone = true := by decide +kernel
set_option maxRecDepth 65536 in
theorem w_named : about1.methodNamed? x = some theMethod := by decide +kernel
set_option maxRecDepth 65536 in
theorem w_hears : about1.hears theMethod below0 = true := by decide +kernel
set_option maxRecDepth 65536 in
theorem w_ripe : about1.ripe theMethod args0 below0 = true := by decide +kernel
theorem w_running : about1.status = .running := rfl
set_option maxRecDepth 65536 in
theorem w_room : about1.hasRoom e0.platform room_1 = true :=
  launch0.hasRoom_least _ room_1 (by decide +kernel) (by decide +kernel) (by decide +kernel) (by decide +kernel) (by decide +kernel) (by decide +kernel)
theorem allAtoms_all (ts : List Jvm.Cond) (a : Array Jvm.Value) (st : Jvm.State) : (allAtoms ts).before a st = ts.all (fun c => c.before a st) := by
  induction ts with
  | nil => rfl
  | cons c t ih =>
    show (Jvm.Cond.and c (allAtoms t)).before a st = _
    rw [Jvm.Cond.before_and, ih, List.all_cons]
def words1 : List Jvm.Cond := Jvm.Cond.code x code maxLocals ret :: tables_1
/-- a 'code' word, met by the world's own term for the bytes: nothing is compared byte by byte -/
theorem code_word {y : MethodName} {bytes : ByteArray} {mx : Nat} {rt : Option FieldType} {a : Array Value} {s : State} {m : MethodId} {meth : Method} {c : Code} (h1 : s.methodNamed? y = some m) (h2 : s.vm.method? m = some meth) (h3 : meth.code = some c) (h4 : c.code = bytes)
    (h5 : (c.maxLocals == mx && c.exceptionTable.isEmpty && decide (c.maxStack ≤ mostOperands) && decide (meth.sig.returnType = rt) && !meth.locks && decide (parseMethodDescriptor y.desc = some meth.sig)) = true) : (Jvm.Cond.code y bytes mx rt).before a s = true := by
  simp only [Bool.and_eq_true, beq_iff_eq, Bool.not_eq_true', decide_eq_true_eq] at h5
  obtain ⟨⟨⟨⟨⟨g1, g2⟩, g3⟩, g4⟩, g5⟩, g6⟩ := h5
  simp [Cond.before, Cond.holds, Cond.value, h1, h2, h3, h4, g1, g2, g3, g4, g5, g6]
def isCode : Jvm.Cond → Bool
  | .code _ _ _ _ => true
  | _ => false
theorem all_split {L : List Jvm.Cond} {P : Jvm.Cond → Bool} (h1 : L.all (fun c => isCode c || P c) = true) (h2 : ∀ c ∈ L.filter isCode, P c = true) : L.all P = true := by
  refine List.all_eq_true.mpr fun c hc => ?_
  have h := List.all_eq_true.mp h1 c hc
  rcases Bool.eq_false_or_eq_true (isCode c) with hi | hi
  · exact h2 c (List.mem_filter.mpr ⟨hc, hi⟩)
  · simpa [hi] using h
set_option maxRecDepth 65536 in
theorem w_c0 : (Jvm.Cond.code x code maxLocals ret).before args0 about1 = true := code_word (m := ⟨1, 1⟩) (meth := k1m1) (c := k1c1) (by decide +kernel) rfl rfl rfl (by decide +kernel)
set_option maxRecDepth 65536 in
theorem w_c1 : (Jvm.Cond.code ({ cls := "com/example/exile_court/exilecourt/rules/Decision$Kind", name := "isRecorded", desc := "()Z" } : Jvm.MethodName) prog_16_method_4_code (1 : Nat) (Option.some Jvm.ClassFile.FieldType.boolean)).before args0 about1 = true := code_word (m := ⟨6, 0⟩) (meth := k6m0) (c := k6c0) (by decide +kernel) rfl rfl rfl (by decide +kernel)
def codes1 : List Jvm.Cond := [Jvm.Cond.code x code maxLocals ret, Jvm.Cond.code ({ cls := "com/example/exile_court/exilecourt/rules/Decision$Kind", name := "isRecorded", desc := "()Z" } : Jvm.MethodName) prog_16_method_4_code (1 : Nat) (Option.some Jvm.ClassFile.FieldType.boolean)]
set_option maxRecDepth 65536 in
theorem codes_eq : words1.filter isCode = codes1 := rfl
theorem w_codes : ∀ c ∈ words1.filter isCode, c.before args0 about1 = true := by
  rw [codes_eq]
  intro c hc
  simp only [codes1, List.mem_cons, List.not_mem_nil, or_false] at hc
  rcases hc with rfl | rfl
  · exact w_c0
  · exact w_c1
set_option maxRecDepth 65536 in
theorem w_t1 : (words1.take 24).all (fun c => isCode c || c.before args0 about1) = true := by decide +kernel
set_option maxRecDepth 65536 in
theorem w_t2 : (words1.drop 24).all (fun c => isCode c || c.before args0 about1) = true := by decide +kernel
theorem w_tables : (allAtoms (Jvm.Cond.code x code maxLocals ret :: tables_1)).before args0 about1 = true := by
  rw [allAtoms_all]
  show words1.all (fun c => c.before args0 about1) = true
  refine all_split ?_ w_codes
  rw [← List.take_append_drop 24 words1, List.all_append, w_t1, w_t2]
  rfl
set_option maxRecDepth 65536 in
theorem w_case : (Jvm.Cond.and given_1 narrow_1).before args0 about1 = true := by decide +kernel
theorem w_applies : (headSpec (Jvm.Cond.code x code maxLocals ret :: tables_1) room_1).applies x e0.platform about1 = true :=
  (Spec.applies_iff w_frames).mpr ⟨w_running, w_runnable, w_alone, w_named, w_hears, w_ripe, w_room, w_tables⟩
theorem atStart : AtStart classFile x code maxLocals ret World_1 tables_1 room_1 Calls_1 rest_1 Pre_1 launch0 p0 e0 about1 theMethod args0 below0 :=
  ⟨lists_1, trivial, launch0.admits_env _ _ _, launch0.least_env, fairChoices_fair.cas, fairChoices_fair.clock, w_frames, w_args, w_heap, w_applies, trivial, trivial, w_case⟩
end start1
theorem witness_1 : WitnessClaimed_1 := ⟨start1.p0, start1.e0, start1.about1, start1.theMethod, start1.args0, start1.below0, start1.atStart⟩
end Jvm.Pilot.@@N@@
