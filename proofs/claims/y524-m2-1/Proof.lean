import JvmDerived
import JvmDerived.Pilot.@@N@@Statement
import JvmDerived.Pilot.@@N@@Code
set_option linter.unusedVariables false
set_option linter.unusedSimpArgs false
namespace Jvm.RoadKit
open Sem ClassFile Op Lib Jvm.Stand Jvm.Free Jvm.LawKit
section New
variable {p : Program} {l : Launch} {e : Env} {R : Room} {s : State} {m : MethodId} {args : Array Value} {below : List Frame} {meth : Method} {c : Code} {T : State} {locs : List Loc} {cells slots : Nat}
theorem retI (X : Stand p l e R s m args below meth c T locs cells slots) (hx : p.tables.exec = Jvm.exec) {pc : Nat} {Ls : Array Slot} {z : Int32} {rest : List Value} (hret : meth.sig.returnType = some .int) (hd : decode c.code pc = .ok (.ireturn, 1)) {fs : List Frame}
    (hl : ∀ (f : JFrame) (acts : List Action), f.method = m → f.locked = none → f.entered = [] → (doReturn e (T.setTop f) acts (some (.int z))).1 = T.setFrames fs) : Steps p.tables e below (T.setTop (mkF m pc Ls (.int z :: rest))) (T.setFrames fs) := by
  have hm' : T.vm.method? m = some meth := X.method'
  have hn : narrow .int (.int z) = .int z := rfl
  show Steps p.tables e below (T.setTop { method := m, pc := pc, locals := Ls, stack := _ :: rest, locked := none }) _
  jvm_step X.here [X.here.top, hx, hd, hm', hret, hn]
  first | (intro acts; rw [hl _ acts rfl rfl rfl]) | rw [hl _ _ rfl rfl rfl]
  exact Steps.refl _
def Gl (p : Program) (e : Env) (below : List Frame) (s : State) (kc ks : Nat) (Q : Option Value → Heap → List Loc → Prop) (T : State) (g : JFrame) : Prop :=
  ∃ U o, Steps p.tables e below (T.setTop g) U ∧ U.status = .running ∧ Ended U below o ∧ ∃ v L, o = .returned v ∧ Q v U.heap L ∧ FrameEnd s o U L kc ks
theorem Gl.st {kc ks : Nat} {Q : Option Value → Heap → List Loc → Prop} {T' : State} {g g' : JFrame} (h : ∀ t, Steps p.tables e below (T'.setTop g') t → Steps p.tables e below (T.setTop g) t) (k : Gl p e below s kc ks Q T' g') : Gl p e below s kc ks Q T g := by
  obtain ⟨U, o, h1, r⟩ := k
  exact ⟨U, o, h _ h1, r⟩
theorem Gl.wider {cells' slots' : Nat} (X : Stand p l e R s m args below meth c T locs cells slots) (h1 : cells ≤ cells') (h2 : slots ≤ slots') : Stand p l e R s m args below meth c T locs cells' slots' :=
  ⟨X.admits, X.cas, X.clock, X.frames, X.room, X.hears, X.method, X.code, X.here, X.tail, X.warmed, X.limits, X.bytes, X.same.mono h1 h2⟩
theorem Gl.start {kc ks : Nat} {Q : Option Value → Heap → List Loc → Prop} {g g' : JFrame} (q : g = g') (k : Gl p e below s kc ks Q T g') :
    ∃ U o, Steps p.tables e below (T.setTop g) U ∧ U.status = .running ∧ Ended U below o ∧ ∃ v L, o = .returned v ∧ Q v U.heap L ∧ FrameEnd s o U L kc ks := q ▸ k
theorem Gl.ret {kc ks : Nat} {Q : Option Value → Heap → List Loc → Prop} {g : JFrame} {h : Heap} (X : Stand p l e R s m args below meth c T locs cells slots) {v : Option Value} (hv : meth.sig.returnType = none → v = none) (hlk : meth.locks = false)
    (st : ∀ {fs : List Frame}, (∀ (f : JFrame) (acts : List Action), f.method = m → f.locked = none → f.entered = [] → (doReturn e (T.setTop f) acts v).1 = T.setFrames fs) → Steps p.tables e below (T.setTop g) (T.setFrames fs))
    (eT : T.heap = h) (hQ : Q v h locs) (hc : cells ≤ kc) (hs : slots ≤ ks) : Gl p e below s kc ks Q T g := by
  obtain ⟨fs, hr, hrun, hended, hW, hsame⟩ := X.leave hv hlk
  refine ⟨_, _, st hr, hrun, hended, _, _, rfl, ?_, ⟨_, rfl⟩, hW, hsame.mono hc hs⟩
  show Q v T.heap locs
  rw [eT]; exact hQ
def GlW (Z : State) (EL : List (String × Nat)) (p : Program) (e : Env) (below : List Frame) (s : State) (kc ks : Nat) (Q : Option Value → Heap → List Loc → Prop) (T : State) (g : JFrame) : Prop :=
  ∃ U o, Steps p.tables e below (T.setTop g) U ∧ U.status = .running ∧ Ended U below o ∧ ∃ v L, o = .returned v ∧ Q v U.heap L ∧ CHr Z EL s.vm s.heap U.vm U.heap ∧ ReturnedEndW s o U L kc ks
section Wide
variable {Z : State} {EL : List (String × Nat)} {a0 : Array Value}
theorem GlW.st {kc ks : Nat} {Q : Option Value → Heap → List Loc → Prop} {T' : State} {g g' : JFrame} (h : ∀ t, Steps p.tables e below (T'.setTop g') t → Steps p.tables e below (T.setTop g) t) (k : GlW Z EL p e below s kc ks Q T' g') : GlW Z EL p e below s kc ks Q T g := by
  obtain ⟨U, o, h1, r⟩ := k
  exact ⟨U, o, h _ h1, r⟩
theorem GlW.start {kc ks : Nat} {Q : Option Value → Heap → List Loc → Prop} {g g' : JFrame} (q : g = g') (k : GlW Z EL p e below s kc ks Q T g') :
    ∃ U o, Steps p.tables e below (T.setTop g) U ∧ U.status = .running ∧ Ended U below o ∧ ∃ v L, o = .returned v ∧ Q v U.heap L ∧ CHr Z EL s.vm s.heap U.vm U.heap ∧ ReturnedEndW s o U L kc ks := q ▸ k
theorem GlW.ret {kc ks n : Nat} {Q : Option Value → Heap → List Loc → Prop} {g : JFrame} {h hs : Heap} {vm0 : Vm} (X : Stand p l e R (s.setVm vm0) m args below meth c T locs cells slots) (hS : s.Since vm0 n) (hn : n ≤ h.size) (hZ : Z.Warmed39 vm0) (w : EW Z a0 EL) (hh : s.heap = hs) (HC : CHr Z EL s.vm hs vm0 h) {v : Option Value} (hv : meth.sig.returnType = none → v = none) (hlk : meth.locks = false)
    (st : ∀ {fs : List Frame}, (∀ (f : JFrame) (acts : List Action), f.method = m → f.locked = none → f.entered = [] → (doReturn e (T.setTop f) acts v).1 = T.setFrames fs) → Steps p.tables e below (T.setTop g) (T.setFrames fs))
    (eT : T.heap = h) (hQ : Q v h locs) (hc : cells ≤ kc) (hs' : slots ≤ ks) : GlW Z EL p e below s kc ks Q T g := by
  subst eT hh
  obtain ⟨fs, hr, hrun, hended, hW⟩ := X.leaveW hS hn hv hlk
  have hcc := HC.trans (CHv.at X hZ w HC.1)
  exact ⟨_, _, st hr, hrun, hended, _, _, rfl, hQ, hcc, hW.1, hW.2.1, hW.2.2.1, hW.2.2.2.mono hc hs'⟩
end Wide
end New
end Jvm.RoadKit
namespace Jvm.Pilot.@@N@@
open Jvm Jvm.ClassFile Sem Op Lib Jvm.Free Jvm.Stand Jvm.LawKit Jvm.RoadKit Bundle Jvm.Pilot.@@N@@.Jvm.D
theorem own_eqint {args : Array Value} {first s : State} {o : Option Outcome} {idx : List Nat} {t : Term} {k : Int32} (h : (Jvm.Cond.eq t (.int k)).value args first o s idx = some true) : t.eval args first o idx s = some (.int k) := by
  cases ht : t.eval args first o idx s with
  | none => simp [Cond.value, ht] at h
  | some x => cases x <;> simp [Cond.value, ht, Term.eval] at h ⊢; exact h
theorem own_eqref {args : Array Value} {first s : State} {o : Option Outcome} {idx : List Nat} {t u : Term} {w : Addr} (h : (Jvm.Cond.eq t u).value args first o s idx = some true) (hu : u.eval args first o idx s = some (.ref w)) : t.eval args first o idx s = some (.ref w) := by
  cases ht : t.eval args first o idx s with
  | none => simp [Cond.value, ht] at h
  | some x => cases x <;> simp [Cond.value, ht, hu] at h ⊢; exact h
theorem own_len {s : State} {args : Array Value} {t : Term} {a : Addr} {c : Cell} {ty : FieldType} {n : Int32} (A : Arr s s.heap a c ty) (ev : t.eval args s none [] s = some (.ref a)) (h : (Term.length t).eval args s none [] s = some (.int n)) : c.slots.size < 2 ^ 31 ∧ c.slots.size.toInt32 = n := by
  have hA := A.fin (Vm.Alike.refl _)
  simp only [Term.eval, ev, hA, Option.bind_eq_bind, Option.bind_some] at h
  split at h
  · rename_i q; exact ⟨q, by simpa using h⟩
  · cases h
theorem own_el {s : State} {args : Array Value} {t : Term} {a : Addr} {c : Cell} {ty : FieldType} {i : Int32} {v : Value} (A : Arr s s.heap a c ty) (ev : t.eval args s none [] s = some (.ref a)) (h : (Term.elem t (.int i)).eval args s none [] s = some v) : c.slots[i.toNatClampNeg]? = some v := (elem_in h ev (Term.int_eval i) A.1).2
theorem own_ofNat_lt {a b : Nat} (ha : a < 2 ^ 31) (hb : b < 2 ^ 31) : (Int32.ofNat a < Int32.ofNat b) ↔ a < b := by
  rw [Int32.lt_iff_toInt_lt, show (Int32.ofNat a).toInt = a from Int32.toInt_ofNat_small ha, show (Int32.ofNat b).toInt = b from Int32.toInt_ofNat_small hb]; omega
theorem own_ofNat_clamp {a : Nat} (ha : a < 2 ^ 31) : (Int32.ofNat a).toNatClampNeg = a := by
  rw [Int32.toNatClampNeg, show (Int32.ofNat a).toInt = a from Int32.toInt_ofNat_small ha]; rfl
theorem own_ofNat_nneg {a : Nat} (ha : a < 2 ^ 31) : ¬ Int32.ofNat a < 0 := by
  rw [Int32.lt_iff_toInt_lt, show (Int32.ofNat a).toInt = a from Int32.toInt_ofNat_small ha, show (0 : Int32).toInt = 0 from by decide]; omega
theorem own_ofNat_succ (a : Nat) : Int32.ofNat a + (1 : Int32) = Int32.ofNat (a + 1) := by
  rw [Int32.ofNat_add]; rfl
theorem own_ofNat_inj {a b : Nat} (ha : a < 2 ^ 31) (hb : b < 2 ^ 31) (h : Int32.ofNat a = Int32.ofNat b) : a = b := by
  have q := congrArg Int32.toInt h
  rw [show (Int32.ofNat a).toInt = a from Int32.toInt_ofNat_small ha, show (Int32.ofNat b).toInt = b from Int32.toInt_ofNat_small hb] at q; omega
theorem own_mapD (us : List Int32) (i : Nat) : (us.map Value.int).getD i (.int 0) = .int (us.getD i 0) := by
  simp only [List.getD_eq_getElem?_getD, List.getElem?_map]; cases us[i]? <;> rfl
theorem own_all_eq {us us2 : List Int32} (hl : us.length = us2.length) (h : ∀ i, i < us.length → us.getD i 0 = us2.getD i 0) : us = us2 := by
  apply List.ext_getElem hl
  intro i h1 h2
  have q := h i h1
  simpa [List.getD_eq_getElem?_getD, h1, h2] using q
theorem own_arv_same {Z : State} {h : Heap} {t : Addr} {k1 k2 : ClassId} {us us2 : List Int32} (b1 : us.length < 2 ^ 31) (b2 : us2.length < 2 ^ 31) (A : Arv Z h t k1 .byte (Int32.ofNat us.length) (us.map Value.int) (.int 0)) (B : Arv Z h t k2 .byte (Int32.ofNat us2.length) (us2.map Value.int) (.int 0)) : us = us2 := by
  obtain ⟨c1, a1, -, a3, -, a5, -⟩ := A
  obtain ⟨c2, d1, -, d3, -, d5, -⟩ := B
  cases a1.1.symm.trans d1.1
  rw [own_ofNat_clamp b1] at a3
  rw [own_ofNat_clamp b2] at d3
  refine own_all_eq (a3.symm.trans d3) fun i hi => ?_
  have q := (a5 i (by omega)).symm.trans (d5 i (by omega))
  rw [own_mapD, own_mapD] at q
  exact Value.int.inj (Option.some.inj q)
theorem own_mod5 (x : Int32) : (x &&& (2147483647 : Int32)) % (5 : Int32) = (0 : Int32) ∨ (x &&& (2147483647 : Int32)) % (5 : Int32) = (1 : Int32) ∨ (x &&& (2147483647 : Int32)) % (5 : Int32) = (2 : Int32) ∨ (x &&& (2147483647 : Int32)) % (5 : Int32) = (3 : Int32) ∨ (x &&& (2147483647 : Int32)) % (5 : Int32) = (4 : Int32) := by
  have h1 := (c_and x (2147483647 : Int32) (by decide)).1
  have h2 := (c_irem (x &&& (2147483647 : Int32)) (5 : Int32) 5 (by decide)).1 h1
  have h3 : ((x &&& (2147483647 : Int32)) % (5 : Int32)).toInt = 0 ∨ ((x &&& (2147483647 : Int32)) % (5 : Int32)).toInt = 1 ∨ ((x &&& (2147483647 : Int32)) % (5 : Int32)).toInt = 2 ∨ ((x &&& (2147483647 : Int32)) % (5 : Int32)).toInt = 3 ∨ ((x &&& (2147483647 : Int32)) % (5 : Int32)).toInt = 4 := by omega
  rcases h3 with h | h | h | h | h
  · exact Or.inl (Int32.toInt_inj.mp (h.trans (by decide)))
  · exact Or.inr (Or.inl (Int32.toInt_inj.mp (h.trans (by decide))))
  · exact Or.inr (Or.inr (Or.inl (Int32.toInt_inj.mp (h.trans (by decide)))))
  · exact Or.inr (Or.inr (Or.inr (Or.inl (Int32.toInt_inj.mp (h.trans (by decide))))))
  · exact Or.inr (Or.inr (Or.inr (Or.inr ((Int32.toInt_inj.mp (h.trans (by decide)))))))
theorem own_EW {Z : State} {a0 : Array Value} (hw : ∀ d ∈ tables_1, d.before a0 Z = true) : EW Z a0 consts_1 := (EW.cons (hw _ (List.mem_of_getElem? (i := 4) rfl)) (by decide +kernel) (EW.cons (hw _ (List.mem_of_getElem? (i := 65) rfl)) (by decide +kernel) (EW.cons (hw _ (List.mem_of_getElem? (i := 74) rfl)) (by decide +kernel) (EW.cons (hw _ (List.mem_of_getElem? (i := 60) rfl)) (by decide +kernel) EW.nil))))
theorem d5_0 : decode jdk_43_method_13_code 0 = .ok (.aload_n 0, 1) := by decide +kernel
theorem d5_1 : decode jdk_43_method_13_code 1 = .ok (.arraylength, 1) := by decide +kernel
theorem d5_2 : decode jdk_43_method_13_code 2 = .ok (.aload_n 1, 1) := by decide +kernel
theorem d5_3 : decode jdk_43_method_13_code 3 = .ok (.arraylength, 1) := by decide +kernel
theorem d5_4 : decode jdk_43_method_13_code 4 = .ok (.if_icmp .ne 30, 3) := by decide +kernel
theorem d5_7 : decode jdk_43_method_13_code 7 = .ok (.iconst 0, 1) := by decide +kernel
theorem d5_8 : decode jdk_43_method_13_code 8 = .ok (.istore_n 2, 1) := by decide +kernel
theorem d5_9 : decode jdk_43_method_13_code 9 = .ok (.iload_n 2, 1) := by decide +kernel
theorem d5_10 : decode jdk_43_method_13_code 10 = .ok (.aload_n 0, 1) := by decide +kernel
theorem d5_11 : decode jdk_43_method_13_code 11 = .ok (.arraylength, 1) := by decide +kernel
theorem d5_12 : decode jdk_43_method_13_code 12 = .ok (.if_icmp .ge 20, 3) := by decide +kernel
theorem d5_15 : decode jdk_43_method_13_code 15 = .ok (.aload_n 0, 1) := by decide +kernel
theorem d5_16 : decode jdk_43_method_13_code 16 = .ok (.iload_n 2, 1) := by decide +kernel
theorem d5_17 : decode jdk_43_method_13_code 17 = .ok (.baload, 1) := by decide +kernel
theorem d5_18 : decode jdk_43_method_13_code 18 = .ok (.aload_n 1, 1) := by decide +kernel
theorem d5_19 : decode jdk_43_method_13_code 19 = .ok (.iload_n 2, 1) := by decide +kernel
theorem d5_20 : decode jdk_43_method_13_code 20 = .ok (.baload, 1) := by decide +kernel
theorem d5_21 : decode jdk_43_method_13_code 21 = .ok (.if_icmp .eq 5, 3) := by decide +kernel
theorem d5_24 : decode jdk_43_method_13_code 24 = .ok (.iconst 0, 1) := by decide +kernel
theorem d5_25 : decode jdk_43_method_13_code 25 = .ok (.ireturn, 1) := by decide +kernel
theorem d5_26 : decode jdk_43_method_13_code 26 = .ok (.iinc 2 1, 3) := by decide +kernel
theorem d5_29 : decode jdk_43_method_13_code 29 = .ok (.goto (-20), 3) := by decide +kernel
theorem d5_32 : decode jdk_43_method_13_code 32 = .ok (.iconst 1, 1) := by decide +kernel
theorem d5_33 : decode jdk_43_method_13_code 33 = .ok (.ireturn, 1) := by decide +kernel
theorem d5_34 : decode jdk_43_method_13_code 34 = .ok (.iconst 0, 1) := by decide +kernel
theorem d5_35 : decode jdk_43_method_13_code 35 = .ok (.ireturn, 1) := by decide +kernel
theorem pn_rmLE : plainName "java/lang/StringLatin1" = true := by first | (simp [plainName, overriddenIn]; done) | decide +kernel
theorem ef_rmLE (m : MethodId) (a1 : Addr) (a2 : Addr) : entryFrame m #[(.ref a1), (.ref a2)] 3 = mkF m 0 #[.val (.ref a1), .val (.ref a2), .unset] [] := by first | (simp [entryFrame, mkF, argsToLocals, Value.category]; done) | rfl
def Q_rmLE (Z : State) (a1 : Addr) (a2 : Addr) (k1 k2 : ClassId) (us us2 : List Int32) (z : Int32) (h0 : Heap) (n0 : Nat) (v : Option Value) (h : Heap) (L : List Loc) : Prop := v = some (.int z) ∧ Fr n0 L ∧ h = h0
set_option maxRecDepth 65536 in
set_option maxHeartbeats 40000000 in
theorem rmLE (l : Launch) (Z : State) (a0 : Array Value) (hw : ∀ d ∈ tables_1, d.before a0 Z = true) (ws : List Jvm.Cond) (a1 : Addr) (a2 : Addr) (k1 k2 : ClassId) (us us2 : List Int32) (z : Int32) (h0 : Heap) (n0 : Nat) (O0 : Old Z n0 h0) (A1 : Arv Z h0 a1 k1 .byte (Int32.ofNat us.length) (us.map Value.int) (.int 0)) (A2 : Arv Z h0 a2 k2 .byte (Int32.ofNat us2.length) (us2.map Value.int) (.int 0)) (hb_us : us.length < 2 ^ 31) (hb_us2 : us2.length < 2 ^ 31) (hz : z = if us = us2 then 1 else 0) :
    MetFree l (⟨"java/lang/StringLatin1", "equals", "([B[B)Z"⟩ : MethodName) (head1 (Jvm.Cond.code (⟨"java/lang/StringLatin1", "equals", "([B[B)Z"⟩ : MethodName) jdk_43_method_13_code 3 (some .boolean) :: ws) ({ frames := 0, cells := 0, slots := 0, locals := 0 } : Room)) (fun a U => a = #[(.ref a1), (.ref a2)] ∧ Z.Warmed39 U.vm ∧ U.heap = h0) (fun _ _ _ _ _ => True) (fun _ U o U' => ∃ v L, o = .returned v ∧ Q_rmLE Z a1 a2 k1 k2 us us2 z h0 n0 v U'.heap L ∧ FrameEnd U o U' L ({ frames := 0, cells := 0, slots := 0, locals := 0 } : Room).cells ({ frames := 0, cells := 0, slots := 0, locals := 0 } : Room).slots) := by
  refine MetFree.of_bodySF (plainFor_of_name pn_rmLE) hisR ?_
  intro p e s m args below meth c s₁ Bd hml0 hP hK
  obtain ⟨rfl, hZ, hh⟩ := hP
  have hx := Bd.exec
  have hby := Bd.bytes
  have hml : c.maxLocals = 3 := hml0
  have hown : s.vm.findClass "java/lang/StringLatin1" = some m.cls := findClass_of_methodNamed Bd.named
  have hnm := (name_of_methodNamed Bd.named Bd.method).1
  have X0 : Stand p l e ({ frames := 0, cells := 0, slots := 0, locals := 0 } : Room) s m #[(.ref a1), (.ref a2)] below meth c s₁ [] 0 0 := Stand.of_body Bd
  have e0 : s₁.heap = h0 := by rw [← hh, Bd.state]; rfl
  have N0 := Fr.nil n0
  refine Gl.start (Q := Q_rmLE Z a1 a2 k1 k2 us us2 z h0 n0) (ef_rmLE m a1 a2) ?_
  show Gl p e below s _ _ _ s₁ (mkF m 0 #[.val (.ref a1), .val (.ref a2), .unset] [])
  refine Gl.st (fun _ kk => XS.aloadN X0.here hx rfl (hb hby d5_0) rfl rfl kk) ?_
  show Gl p e below s _ _ _ s₁ (mkF m 1 #[.val (.ref a1), .val (.ref a2), .unset] [(.ref a1)])
  obtain ⟨cl1, Ar1, q1, Sz1, Ng1, Ha1, Fi1⟩ := id A1
  refine Gl.st (fun _ kk => X0.arraylength hx (by rw [e0]; exact Ar1.1) (State.isArrayOf_alike hZ.alike Ar1.2.1) (g := (mkF m 1 #[.val (.ref a1), .val (.ref a2), .unset] [(.ref a1)])) rfl rfl (hb hby d5_1) _ kk) ?_
  rw [len_of Sz1 Ng1]
  show Gl p e below s _ _ _ s₁ (mkF m 2 #[.val (.ref a1), .val (.ref a2), .unset] [(.int (Int32.ofNat us.length))])
  refine Gl.st (fun _ kk => XS.aloadN X0.here hx rfl (hb hby d5_2) rfl rfl kk) ?_
  show Gl p e below s _ _ _ s₁ (mkF m 3 #[.val (.ref a1), .val (.ref a2), .unset] [(.ref a2), (.int (Int32.ofNat us.length))])
  obtain ⟨cl2, Ar2, q2, Sz2, Ng2, Ha2, Fi2⟩ := id A2
  refine Gl.st (fun _ kk => X0.arraylength hx (by rw [e0]; exact Ar2.1) (State.isArrayOf_alike hZ.alike Ar2.2.1) (g := (mkF m 3 #[.val (.ref a1), .val (.ref a2), .unset] [(.ref a2), (.int (Int32.ofNat us.length))])) rfl rfl (hb hby d5_3) _ kk) ?_
  rw [len_of Sz2 Ng2]
  show Gl p e below s _ _ _ s₁ (mkF m 4 #[.val (.ref a1), .val (.ref a2), .unset] [(.int (Int32.ofNat us2.length)), (.int (Int32.ofNat us.length))])
  by_cases hc4 : (Int32.ofNat us.length) = (Int32.ofNat us2.length)
  · skip
    refine Gl.st (fun _ kk => XS.icmpNo X0.here hx rfl (hb hby d5_4) rfl (teq hc4).2 kk) ?_
    show Gl p e below s _ _ _ s₁ (mkF m 7 #[.val (.ref a1), .val (.ref a2), .unset] [])
    have hL : us.length = us2.length := own_ofNat_inj hb_us hb_us2 hc4
    refine Gl.st (fun _ kk => XS.iconst X0.here hx rfl (hb hby d5_7) kk) ?_
    show Gl p e below s _ _ _ s₁ (mkF m 8 #[.val (.ref a1), .val (.ref a2), .unset] [(.int (0 : Int32))])
    refine Gl.st (fun _ kk => XS.istoreN X0.here hx rfl (hb hby d5_8) rfl (l' := #[.val (.ref a1), .val (.ref a2), .val (.int (0 : Int32))]) rfl kk) ?_
    show Gl p e below s _ _ _ s₁ (mkF m 9 #[.val (.ref a1), .val (.ref a2), .val (.int (0 : Int32))] [])
    have loop9 : ∀ (kM : Nat) (j : Nat) (hj : j ≤ us.length) (hq : ∀ i, i < j → us.getD i 0 = us2.getD i 0) (hM3 : us.length - j = kM) (T3 : State) (L3 : List Loc), Stand p l e ({ frames := 0, cells := 0, slots := 0, locals := 0 } : Room) s m #[(.ref a1), (.ref a2)] below meth c T3 L3 0 0 → T3.heap = h0 → Fr n0 L3 → Gl p e below s ({ frames := 0, cells := 0, slots := 0, locals := 0 } : Room).cells ({ frames := 0, cells := 0, slots := 0, locals := 0 } : Room).slots (Q_rmLE Z a1 a2 k1 k2 us us2 z h0 n0) T3 (mkF m 9 #[.val (.ref a1), .val (.ref a2), .val (.int (Int32.ofNat j))] []) := by
      intro kM
      refine Nat.strongRecOn kM ?_
      clear kM
      intro kM ihM j hj hq hM3 T3 L3 X3 e3 N3
      show Gl p e below s _ _ _ T3 (mkF m 9 #[.val (.ref a1), .val (.ref a2), .val (.int (Int32.ofNat j))] [])
      refine Gl.st (fun _ kk => XS.iloadN X3.here hx rfl (hb hby d5_9) rfl kk) ?_
      show Gl p e below s _ _ _ T3 (mkF m 10 #[.val (.ref a1), .val (.ref a2), .val (.int (Int32.ofNat j))] [(.int (Int32.ofNat j))])
      refine Gl.st (fun _ kk => XS.aloadN X3.here hx rfl (hb hby d5_10) rfl rfl kk) ?_
      show Gl p e below s _ _ _ T3 (mkF m 11 #[.val (.ref a1), .val (.ref a2), .val (.int (Int32.ofNat j))] [(.ref a1), (.int (Int32.ofNat j))])
      obtain ⟨cl4, Ar4, q4, Sz4, Ng4, Ha4, Fi4⟩ := id A1
      refine Gl.st (fun _ kk => X3.arraylength hx (by rw [e3]; exact Ar4.1) (State.isArrayOf_alike hZ.alike Ar4.2.1) (g := (mkF m 11 #[.val (.ref a1), .val (.ref a2), .val (.int (Int32.ofNat j))] [(.ref a1), (.int (Int32.ofNat j))])) rfl rfl (hb hby d5_11) _ kk) ?_
      rw [len_of Sz4 Ng4]
      show Gl p e below s _ _ _ T3 (mkF m 12 #[.val (.ref a1), .val (.ref a2), .val (.int (Int32.ofNat j))] [(.int (Int32.ofNat us.length)), (.int (Int32.ofNat j))])
      by_cases hc12 : (Int32.ofNat j) < (Int32.ofNat us.length)
      · skip
        refine Gl.st (fun _ kk => XS.icmpNo X3.here hx rfl (hb hby d5_12) rfl (tlt hc12).2.1 kk) ?_
        show Gl p e below s _ _ _ T3 (mkF m 15 #[.val (.ref a1), .val (.ref a2), .val (.int (Int32.ofNat j))] [])
        have hlt : j + 1 ≤ us.length := (own_ofNat_lt (by omega) hb_us).mp hc12
        have hjb : j < 2 ^ 31 := by omega
        refine Gl.st (fun _ kk => XS.aloadN X3.here hx rfl (hb hby d5_15) rfl rfl kk) ?_
        show Gl p e below s _ _ _ T3 (mkF m 16 #[.val (.ref a1), .val (.ref a2), .val (.int (Int32.ofNat j))] [(.ref a1)])
        refine Gl.st (fun _ kk => XS.iloadN X3.here hx rfl (hb hby d5_16) rfl kk) ?_
        show Gl p e below s _ _ _ T3 (mkF m 17 #[.val (.ref a1), .val (.ref a2), .val (.int (Int32.ofNat j))] [(.int (Int32.ofNat j)), (.ref a1)])
        obtain ⟨cl5, Ar5, q5, Sz5, Ng5, Ha5, Fi5⟩ := id A1
        have hin5 : ¬ ((Int32.ofNat j) < 0 ∨ cl5.slots.size ≤ ((Int32.ofNat j)).toNatClampNeg) := by rw [Sz5, own_ofNat_clamp hb_us, own_ofNat_clamp hjb]; exact fun q => q.elim (own_ofNat_nneg hjb) (by omega)
        have hat5 : cl5.slots[((Int32.ofNat j)).toNatClampNeg]? = some (.int (us.getD j 0)) := Ha5.at hin5 (by rw [own_ofNat_clamp hjb, own_mapD])
        refine Gl.st (fun _ kk => X3.baloadBytes hx (j := (Int32.ofNat j)) (v := (.int (us.getD j 0))) (by rw [e3]; exact Ar5.1) (State.isArrayOf_alike hZ.alike Ar5.2.1) Ar5.2.2 hin5 hat5 (g := (mkF m 17 #[.val (.ref a1), .val (.ref a2), .val (.int (Int32.ofNat j))] [(.int (Int32.ofNat j)), (.ref a1)])) rfl rfl (hb hby d5_17) _ kk) ?_
        show Gl p e below s _ _ _ T3 (mkF m 18 #[.val (.ref a1), .val (.ref a2), .val (.int (Int32.ofNat j))] [(.int (us.getD j 0))])
        refine Gl.st (fun _ kk => XS.aloadN X3.here hx rfl (hb hby d5_18) rfl rfl kk) ?_
        show Gl p e below s _ _ _ T3 (mkF m 19 #[.val (.ref a1), .val (.ref a2), .val (.int (Int32.ofNat j))] [(.ref a2), (.int (us.getD j 0))])
        refine Gl.st (fun _ kk => XS.iloadN X3.here hx rfl (hb hby d5_19) rfl kk) ?_
        show Gl p e below s _ _ _ T3 (mkF m 20 #[.val (.ref a1), .val (.ref a2), .val (.int (Int32.ofNat j))] [(.int (Int32.ofNat j)), (.ref a2), (.int (us.getD j 0))])
        obtain ⟨cl6, Ar6, q6, Sz6, Ng6, Ha6, Fi6⟩ := id A2
        have hin6 : ¬ ((Int32.ofNat j) < 0 ∨ cl6.slots.size ≤ ((Int32.ofNat j)).toNatClampNeg) := by rw [Sz6, own_ofNat_clamp hb_us2, own_ofNat_clamp hjb]; exact fun q => q.elim (own_ofNat_nneg hjb) (by omega)
        have hat6 : cl6.slots[((Int32.ofNat j)).toNatClampNeg]? = some (.int (us2.getD j 0)) := Ha6.at hin6 (by rw [own_ofNat_clamp hjb, own_mapD])
        refine Gl.st (fun _ kk => X3.baloadBytes hx (j := (Int32.ofNat j)) (v := (.int (us2.getD j 0))) (by rw [e3]; exact Ar6.1) (State.isArrayOf_alike hZ.alike Ar6.2.1) Ar6.2.2 hin6 hat6 (g := (mkF m 20 #[.val (.ref a1), .val (.ref a2), .val (.int (Int32.ofNat j))] [(.int (Int32.ofNat j)), (.ref a2), (.int (us.getD j 0))])) rfl rfl (hb hby d5_20) _ kk) ?_
        show Gl p e below s _ _ _ T3 (mkF m 21 #[.val (.ref a1), .val (.ref a2), .val (.int (Int32.ofNat j))] [(.int (us2.getD j 0)), (.int (us.getD j 0))])
        by_cases hc21 : (us.getD j 0) = (us2.getD j 0)
        · skip
          refine Gl.st (fun _ kk => XS.icmpYes X3.here hx rfl (pc0 := 21) (pc' := 26) rfl (hb hby d5_21) rfl (teq hc21).1 (by decide) (by decide) kk) ?_
          show Gl p e below s _ _ _ T3 (mkF m 26 #[.val (.ref a1), .val (.ref a2), .val (.int (Int32.ofNat j))] [])
          have hq' : ∀ i, i < j + 1 → us.getD i 0 = us2.getD i 0 := by
            intro i hi
            by_cases hij : i = j
            · rw [hij]; exact hc21
            · exact hq i (by omega)
          have hless : us.length - (j + 1) < kM := by omega
          refine Gl.st (fun _ kk => XS.iinc X3.here hx rfl (hb hby d5_26) rfl (l' := #[.val (.ref a1), .val (.ref a2), .val (.int ((Int32.ofNat j) + (1 : Int32)))]) rfl kk) ?_
          show Gl p e below s _ _ _ T3 (mkF m 29 #[.val (.ref a1), .val (.ref a2), .val (.int ((Int32.ofNat j) + (1 : Int32)))] [])
          rw [own_ofNat_succ]
          show Gl p e below s _ _ _ T3 (mkF m 29 #[.val (.ref a1), .val (.ref a2), .val (.int (Int32.ofNat (j + 1)))] [])
          refine Gl.st (fun _ kk => XS.goto X3.here hx rfl (pc0 := 29) (pc' := 9) rfl (hb hby d5_29) (by decide) (by decide) kk) ?_
          show Gl p e below s _ _ _ T3 (mkF m 9 #[.val (.ref a1), .val (.ref a2), .val (.int (Int32.ofNat (j + 1)))] [])
          exact ihM _ hless (j + 1) hlt hq' rfl _ _ X3 e3 N3
        · skip
          refine Gl.st (fun _ kk => XS.icmpNo X3.here hx rfl (hb hby d5_21) rfl (feq hc21).1 kk) ?_
          show Gl p e below s _ _ _ T3 (mkF m 24 #[.val (.ref a1), .val (.ref a2), .val (.int (Int32.ofNat j))] [])
          refine Gl.st (fun _ kk => XS.iconst X3.here hx rfl (hb hby d5_24) kk) ?_
          show Gl p e below s _ _ _ T3 (mkF m 25 #[.val (.ref a1), .val (.ref a2), .val (.int (Int32.ofNat j))] [(.int (0 : Int32))])
          have hzz : z = 0 := by rw [hz, if_neg (fun q => hc21 (by rw [q]))]
          exact Gl.ret X3 (v := (some (.int (0 : Int32)))) (fun h => by rw [Bd.returns] at h; cases h) (BodyLoose.notSynchronized Bd) (fun hr => retN X3 hx (t := .boolean) Bd.returns (by simp) (hb hby d5_25) hr) e3 ⟨by rw [hzz], N3, rfl⟩ (by decide) (by decide)
      · skip
        refine Gl.st (fun _ kk => XS.icmpYes X3.here hx rfl (pc0 := 12) (pc' := 32) rfl (hb hby d5_12) rfl (flt hc12).2.1 (by decide) (by decide) kk) ?_
        show Gl p e below s _ _ _ T3 (mkF m 32 #[.val (.ref a1), .val (.ref a2), .val (.int (Int32.ofNat j))] [])
        refine Gl.st (fun _ kk => XS.iconst X3.here hx rfl (hb hby d5_32) kk) ?_
        show Gl p e below s _ _ _ T3 (mkF m 33 #[.val (.ref a1), .val (.ref a2), .val (.int (Int32.ofNat j))] [(.int (1 : Int32))])
        have hall : us = us2 := own_all_eq hL (fun i hi => hq i (by have := mt (own_ofNat_lt (by omega) hb_us).mpr hc12; omega))
        have hzz : z = 1 := by rw [hz, if_pos hall]
        exact Gl.ret X3 (v := (some (.int (1 : Int32)))) (fun h => by rw [Bd.returns] at h; cases h) (BodyLoose.notSynchronized Bd) (fun hr => retN X3 hx (t := .boolean) Bd.returns (by simp) (hb hby d5_33) hr) e3 ⟨by rw [hzz], N3, rfl⟩ (by decide) (by decide)
    exact loop9 _ 0 (Nat.zero_le _) (fun i hi => absurd hi (Nat.not_lt_zero i)) rfl _ _ X0 e0 N0
  · skip
    refine Gl.st (fun _ kk => XS.icmpYes X0.here hx rfl (pc0 := 4) (pc' := 34) rfl (hb hby d5_4) rfl (feq hc4).2 (by decide) (by decide) kk) ?_
    show Gl p e below s _ _ _ s₁ (mkF m 34 #[.val (.ref a1), .val (.ref a2), .unset] [])
    refine Gl.st (fun _ kk => XS.iconst X0.here hx rfl (hb hby d5_34) kk) ?_
    show Gl p e below s _ _ _ s₁ (mkF m 35 #[.val (.ref a1), .val (.ref a2), .unset] [(.int (0 : Int32))])
    have hzz : z = 0 := by rw [hz, if_neg (fun q => hc4 (by rw [q]))]
    exact Gl.ret X0 (v := (some (.int (0 : Int32)))) (fun h => by rw [Bd.returns] at h; cases h) (BodyLoose.notSynchronized Bd) (fun hr => retN X0 hx (t := .boolean) Bd.returns (by simp) (hb hby d5_35) hr) e0 ⟨by rw [hzz], N0, rfl⟩ (by decide) (by decide)
theorem d4_0 : decode jdk_42_method_66_code 0 = .ok (.aload_n 0, 1) := by decide +kernel
theorem d4_1 : decode jdk_42_method_66_code 1 = .ok (.aload_n 1, 1) := by decide +kernel
theorem d4_2 : decode jdk_42_method_66_code 2 = .ok (.if_acmp .ne 5, 3) := by decide +kernel
theorem d4_5 : decode jdk_42_method_66_code 5 = .ok (.iconst 1, 1) := by decide +kernel
theorem d4_6 : decode jdk_42_method_66_code 6 = .ok (.ireturn, 1) := by decide +kernel
theorem d4_7 : decode jdk_42_method_66_code 7 = .ok (.aload_n 1, 1) := by decide +kernel
theorem d4_8 : decode jdk_42_method_66_code 8 = .ok (.instanceof 10, 3) := by decide +kernel
theorem d4_11 : decode jdk_42_method_66_code 11 = .ok (.ifCond .eq 43, 3) := by decide +kernel
theorem d4_14 : decode jdk_42_method_66_code 14 = .ok (.aload_n 1, 1) := by decide +kernel
theorem d4_15 : decode jdk_42_method_66_code 15 = .ok (.checkcast 10, 3) := by decide +kernel
theorem d4_18 : decode jdk_42_method_66_code 18 = .ok (.astore_n 2, 1) := by decide +kernel
theorem d4_19 : decode jdk_42_method_66_code 19 = .ok (.getstatic 38, 3) := by decide +kernel
theorem d4_22 : decode jdk_42_method_66_code 22 = .ok (.ifCond .eq 14, 3) := by decide +kernel
theorem d4_25 : decode jdk_42_method_66_code 25 = .ok (.aload_n 0, 1) := by decide +kernel
theorem d4_26 : decode jdk_42_method_66_code 26 = .ok (.getfield 15, 3) := by decide +kernel
theorem d4_29 : decode jdk_42_method_66_code 29 = .ok (.aload_n 2, 1) := by decide +kernel
theorem d4_30 : decode jdk_42_method_66_code 30 = .ok (.getfield 15, 3) := by decide +kernel
theorem d4_33 : decode jdk_42_method_66_code 33 = .ok (.if_icmp .ne 21, 3) := by decide +kernel
theorem d4_36 : decode jdk_42_method_66_code 36 = .ok (.aload_n 0, 1) := by decide +kernel
theorem d4_37 : decode jdk_42_method_66_code 37 = .ok (.getfield 9, 3) := by decide +kernel
theorem d4_40 : decode jdk_42_method_66_code 40 = .ok (.aload_n 2, 1) := by decide +kernel
theorem d4_41 : decode jdk_42_method_66_code 41 = .ok (.getfield 9, 3) := by decide +kernel
theorem d4_44 : decode jdk_42_method_66_code 44 = .ok (.invokestatic 541, 3) := by decide +kernel
theorem d4_47 : decode jdk_42_method_66_code 47 = .ok (.ifCond .eq 7, 3) := by decide +kernel
theorem d4_50 : decode jdk_42_method_66_code 50 = .ok (.iconst 1, 1) := by decide +kernel
theorem d4_51 : decode jdk_42_method_66_code 51 = .ok (.goto 4, 3) := by decide +kernel
theorem d4_54 : decode jdk_42_method_66_code 54 = .ok (.iconst 0, 1) := by decide +kernel
theorem d4_55 : decode jdk_42_method_66_code 55 = .ok (.ireturn, 1) := by decide +kernel
theorem pd_rmSE_0 : parseMethodDescriptor "([B[B)Z" = some ⟨[(.array .byte), (.array .byte)], some .boolean⟩ := by decide +kernel
theorem pn_rmSE : plainName "java/lang/String" = true := by first | (simp [plainName, overriddenIn]; done) | decide +kernel
theorem ef_rmSE (m : MethodId) (x : Addr) (y : Addr) : entryFrame m #[(.ref x), (.ref y)] 3 = mkF m 0 #[.val (.ref x), .val (.ref y), .unset] [] := by first | (simp [entryFrame, mkF, argsToLocals, Value.category]; done) | rfl
def Q_rmSE (Z : State) (x : Addr) (y : Addr) (t1 t2 : Addr) (k1 k2 : ClassId) (us us2 : List Int32) (cz z : Int32) (h0 : Heap) (n0 : Nat) (v : Option Value) (h : Heap) (L : List Loc) : Prop := v = some (.int z) ∧ Fr n0 L ∧ h = h0
set_option maxRecDepth 65536 in
set_option maxHeartbeats 40000000 in
theorem rmSE (l : Launch) (Z : State) (a0 : Array Value) (hw : ∀ d ∈ tables_1, d.before a0 Z = true) (ws : List Jvm.Cond) (x : Addr) (y : Addr) (t1 t2 : Addr) (k1 k2 : ClassId) (us us2 : List Int32) (cz z : Int32) (h0 : Heap) (n0 : Nat) (O0 : Old Z n0 h0) (Exa_x : Exa Z h0 x "java/lang/String") (F_value_x : Fld Z h0 x "java/lang/String" "value" "[B" (.ref t1)) (F_coder_x : Fld Z h0 x "java/lang/String" "coder" "B" (.int 0)) (A_t1 : Arv Z h0 t1 k1 .byte (Int32.ofNat us.length) (us.map Value.int) (.int 0)) (hb_us : us.length < 2 ^ 31) (Exa_y : Exa Z h0 y "java/lang/String") (F_value_y : Fld Z h0 y "java/lang/String" "value" "[B" (.ref t2)) (F_coder_y : Fld Z h0 y "java/lang/String" "coder" "B" (.int 0)) (A_t2 : Arv Z h0 t2 k2 .byte (Int32.ofNat us2.length) (us2.map Value.int) (.int 0)) (hb_us2 : us2.length < 2 ^ 31) (S_COMPACT : Sta Z Z.heap "java/lang/String" "COMPACT_STRINGS" "Z" (.int cz)) (hcz : ¬ cz = 0) (hz : z = if us = us2 then 1 else 0) :
    MetFree l (⟨"java/lang/String", "equals", "(Ljava/lang/Object;)Z"⟩ : MethodName) (head1 (Jvm.Cond.code (⟨"java/lang/String", "equals", "(Ljava/lang/Object;)Z"⟩ : MethodName) jdk_42_method_66_code 3 (some .boolean) :: ws) ({ frames := 1, cells := 0, slots := 0, locals := 14 } : Room)) (fun a U => a = #[(.ref x), (.ref y)] ∧ Z.Warmed39 U.vm ∧ U.heap = h0) (fun _ _ _ _ _ => True) (fun _ U o U' => ∃ v L, o = .returned v ∧ Q_rmSE Z x y t1 t2 k1 k2 us us2 cz z h0 n0 v U'.heap L ∧ FrameEnd U o U' L ({ frames := 1, cells := 0, slots := 0, locals := 14 } : Room).cells ({ frames := 1, cells := 0, slots := 0, locals := 14 } : Room).slots) := by
  refine MetFree.of_bodySF (plainFor_of_name pn_rmSE) hisR ?_
  intro p e s m args below meth c s₁ Bd hml0 hP hK
  obtain ⟨rfl, hZ, hh⟩ := hP
  have hx := Bd.exec
  have hby := Bd.bytes
  have hml : c.maxLocals = 3 := hml0
  have hown : s.vm.findClass "java/lang/String" = some m.cls := findClass_of_methodNamed Bd.named
  have hnm := (name_of_methodNamed Bd.named Bd.method).1
  have X0 : Stand p l e ({ frames := 1, cells := 0, slots := 0, locals := 14 } : Room) s m #[(.ref x), (.ref y)] below meth c s₁ [] 0 0 := Stand.of_body Bd
  have e0 : s₁.heap = h0 := by rw [← hh, Bd.state]; rfl
  have N0 := Fr.nil n0
  refine Gl.start (Q := Q_rmSE Z x y t1 t2 k1 k2 us us2 cz z h0 n0) (ef_rmSE m x y) ?_
  show Gl p e below s _ _ _ s₁ (mkF m 0 #[.val (.ref x), .val (.ref y), .unset] [])
  refine Gl.st (fun _ kk => XS.aloadN X0.here hx rfl (hb hby d4_0) rfl rfl kk) ?_
  show Gl p e below s _ _ _ s₁ (mkF m 1 #[.val (.ref x), .val (.ref y), .unset] [(.ref x)])
  refine Gl.st (fun _ kk => XS.aloadN X0.here hx rfl (hb hby d4_1) rfl rfl kk) ?_
  show Gl p e below s _ _ _ s₁ (mkF m 2 #[.val (.ref x), .val (.ref y), .unset] [(.ref y), (.ref x)])
  by_cases ha2 : x = y
  · skip
    refine Gl.st (fun _ kk => Jvm.RoadKit.acmp (g := (mkF m 2 #[.val (.ref x), .val (.ref y), .unset] [(.ref y), (.ref x)])) X0 hx rfl rfl rfl (pc0 := 2) (pc' := 5) (same := true) rfl (hb hby d4_2) rfl (decide_eq_true (congrArg Value.ref ha2)) (by decide) (by decide) kk) ?_
    show Gl p e below s _ _ _ s₁ (mkF m 5 #[.val (.ref x), .val (.ref y), .unset] [])
    refine Gl.st (fun _ kk => XS.iconst X0.here hx rfl (hb hby d4_5) kk) ?_
    show Gl p e below s _ _ _ s₁ (mkF m 6 #[.val (.ref x), .val (.ref y), .unset] [(.int (1 : Int32))])
    have ht : t1 = t2 := by
      by_cases q : t1 = t2
      · exact q
      · exact absurd ha2 (F_value_x.ne F_value_y (fun r => q (Value.ref.inj r)))
    have hall : us = us2 := own_arv_same hb_us hb_us2 A_t1 (ht ▸ A_t2)
    have hzz : z = 1 := by rw [hz, if_pos hall]
    exact Gl.ret X0 (v := (some (.int (1 : Int32)))) (fun h => by rw [Bd.returns] at h; cases h) (BodyLoose.notSynchronized Bd) (fun hr => retN X0 hx (t := .boolean) Bd.returns (by simp) (hb hby d4_6) hr) e0 ⟨by rw [hzz], N0, rfl⟩ (by decide) (by decide)
  · skip
    refine Gl.st (fun _ kk => Jvm.RoadKit.acmp (g := (mkF m 2 #[.val (.ref x), .val (.ref y), .unset] [(.ref y), (.ref x)])) X0 hx rfl rfl rfl (pc0 := 2) (pc' := 7) (same := false) rfl (hb hby d4_2) rfl (decide_eq_false fun q => ha2 (Value.ref.inj q)) (by decide) (by decide) kk) ?_
    show Gl p e below s _ _ _ s₁ (mkF m 7 #[.val (.ref x), .val (.ref y), .unset] [])
    refine Gl.st (fun _ kk => XS.aloadN X0.here hx rfl (hb hby d4_7) rfl rfl kk) ?_
    show Gl p e below s _ _ _ s₁ (mkF m 8 #[.val (.ref x), .val (.ref y), .unset] [(.ref y)])
    obtain ⟨T1, X1, e1, st1⟩ := instY X0 hx hZ hown (hw _ (List.mem_of_getElem? (i := 42) rfl)) e0 (Ins.self Exa_y) (g := (mkF m 8 #[.val (.ref x), .val (.ref y), .unset] [(.ref y)])) rfl rfl (hb hby d4_8)
    refine Gl.st st1 ?_
    show Gl p e below s _ _ _ T1 (mkF m 11 #[.val (.ref x), .val (.ref y), .unset] [(.int (1 : Int32))])
    refine Gl.st (fun _ kk => XS.ifNo X1.here hx rfl (hb hby d4_11) rfl ((if0 _ _).trans (feq (by decide : ¬ ((1 : Int32) = (0 : Int32)))).1) kk) ?_
    show Gl p e below s _ _ _ T1 (mkF m 14 #[.val (.ref x), .val (.ref y), .unset] [])
    refine Gl.st (fun _ kk => XS.aloadN X1.here hx rfl (hb hby d4_14) rfl rfl kk) ?_
    show Gl p e below s _ _ _ T1 (mkF m 15 #[.val (.ref x), .val (.ref y), .unset] [(.ref y)])
    obtain ⟨T2, X2, e2, st2⟩ := castY X1 hx hZ hown (hw _ (List.mem_of_getElem? (i := 42) rfl)) e1 (Ins.self Exa_y) (g := (mkF m 15 #[.val (.ref x), .val (.ref y), .unset] [(.ref y)])) rfl rfl (hb hby d4_15)
    refine Gl.st st2 ?_
    show Gl p e below s _ _ _ T2 (mkF m 18 #[.val (.ref x), .val (.ref y), .unset] [(.ref y)])
    refine Gl.st (fun _ kk => XS.astoreN X2.here hx rfl (hb hby d4_18) rfl rfl (l' := #[.val (.ref x), .val (.ref y), .val (.ref y)]) rfl kk) ?_
    show Gl p e below s _ _ _ T2 (mkF m 19 #[.val (.ref x), .val (.ref y), .val (.ref y)] [])
    obtain ⟨T3, X3, e3, st3⟩ := getS2 X2 hx hZ hown (host := "") (Or.inl (hw _ (List.mem_of_getElem? (i := 44) rfl))) Via.refl e2 (S_COMPACT.ext O0.2) (g := (mkF m 19 #[.val (.ref x), .val (.ref y), .val (.ref y)] [])) rfl (hb hby d4_19)
    refine Gl.st st3 ?_
    show Gl p e below s _ _ _ T3 (mkF m 22 #[.val (.ref x), .val (.ref y), .val (.ref y)] [(.int cz)])
    refine Gl.st (fun _ kk => XS.ifNo X3.here hx rfl (hb hby d4_22) rfl ((if0 _ _).trans (feq hcz).1) kk) ?_
    show Gl p e below s _ _ _ T3 (mkF m 25 #[.val (.ref x), .val (.ref y), .val (.ref y)] [])
    refine Gl.st (fun _ kk => XS.aloadN X3.here hx rfl (hb hby d4_25) rfl rfl kk) ?_
    show Gl p e below s _ _ _ T3 (mkF m 26 #[.val (.ref x), .val (.ref y), .val (.ref y)] [(.ref x)])
    obtain ⟨T4, X4, e4, st4⟩ := getF X3 hx hZ hown (host := "") (Or.inl (hw _ (List.mem_of_getElem? (i := 45) rfl))) Via.refl e3 F_coder_x (g := (mkF m 26 #[.val (.ref x), .val (.ref y), .val (.ref y)] [(.ref x)])) rfl rfl (hb hby d4_26)
    refine Gl.st st4 ?_
    show Gl p e below s _ _ _ T4 (mkF m 29 #[.val (.ref x), .val (.ref y), .val (.ref y)] [(.int (0 : Int32))])
    refine Gl.st (fun _ kk => XS.aloadN X4.here hx rfl (hb hby d4_29) rfl rfl kk) ?_
    show Gl p e below s _ _ _ T4 (mkF m 30 #[.val (.ref x), .val (.ref y), .val (.ref y)] [(.ref y), (.int (0 : Int32))])
    obtain ⟨T5, X5, e5, st5⟩ := getF X4 hx hZ hown (host := "") (Or.inl (hw _ (List.mem_of_getElem? (i := 45) rfl))) Via.refl e4 F_coder_y (g := (mkF m 30 #[.val (.ref x), .val (.ref y), .val (.ref y)] [(.ref y), (.int (0 : Int32))])) rfl rfl (hb hby d4_30)
    refine Gl.st st5 ?_
    show Gl p e below s _ _ _ T5 (mkF m 33 #[.val (.ref x), .val (.ref y), .val (.ref y)] [(.int (0 : Int32)), (.int (0 : Int32))])
    refine Gl.st (fun _ kk => XS.icmpNo X5.here hx rfl (hb hby d4_33) rfl (teq (by decide : (0 : Int32) = (0 : Int32))).2 kk) ?_
    show Gl p e below s _ _ _ T5 (mkF m 36 #[.val (.ref x), .val (.ref y), .val (.ref y)] [])
    refine Gl.st (fun _ kk => XS.aloadN X5.here hx rfl (hb hby d4_36) rfl rfl kk) ?_
    show Gl p e below s _ _ _ T5 (mkF m 37 #[.val (.ref x), .val (.ref y), .val (.ref y)] [(.ref x)])
    obtain ⟨T6, X6, e6, st6⟩ := getF X5 hx hZ hown (host := "") (Or.inl (hw _ (List.mem_of_getElem? (i := 46) rfl))) Via.refl e5 F_value_x (g := (mkF m 37 #[.val (.ref x), .val (.ref y), .val (.ref y)] [(.ref x)])) rfl rfl (hb hby d4_37)
    refine Gl.st st6 ?_
    show Gl p e below s _ _ _ T6 (mkF m 40 #[.val (.ref x), .val (.ref y), .val (.ref y)] [(.ref t1)])
    refine Gl.st (fun _ kk => XS.aloadN X6.here hx rfl (hb hby d4_40) rfl rfl kk) ?_
    show Gl p e below s _ _ _ T6 (mkF m 41 #[.val (.ref x), .val (.ref y), .val (.ref y)] [(.ref y), (.ref t1)])
    obtain ⟨T7, X7, e7, st7⟩ := getF X6 hx hZ hown (host := "") (Or.inl (hw _ (List.mem_of_getElem? (i := 46) rfl))) Via.refl e6 F_value_y (g := (mkF m 41 #[.val (.ref x), .val (.ref y), .val (.ref y)] [(.ref y), (.ref t1)])) rfl rfl (hb hby d4_41)
    refine Gl.st st7 ?_
    show Gl p e below s _ _ _ T7 (mkF m 44 #[.val (.ref x), .val (.ref y), .val (.ref y)] [(.ref t2), (.ref t1)])
    obtain ⟨v8, _, ⟨T8, L8, k8, n8⟩, -, X8, ⟨Lc8, hQ8, l8, y8, z8⟩, st8⟩ := Jvm.LawKit.callS X7 hx (y := (⟨"java/lang/StringLatin1", "equals", "([B[B)Z"⟩ : MethodName)) hown (mvT hZ (hw _ (List.mem_of_getElem? (i := 47) rfl))) (mvT hZ (hw _ (List.mem_of_getElem? (i := 48) rfl))) (mvT hZ (hw _ (List.mem_of_getElem? (i := 49) rfl))) (mvT hZ (hw _ (List.mem_of_getElem? (i := 50) rfl))) (by decide) (backOf (W := 0) (rmLE l Z a0 hw [] t1 t2 k1 k2 us us2 (if us = us2 then 1 else 0) h0 n0 O0 A_t1 A_t2 hb_us hb_us2 rfl) hZ (hw _ (List.mem_of_getElem? (i := 50) rfl)) (hw _ (List.mem_of_getElem? (i := 49) rfl)) (by decide) (by decide)) (g := (mkF m 44 #[.val (.ref x), .val (.ref y), .val (.ref y)] [(.ref t2), (.ref t1)])) rfl (by rw [hml]; rfl) (argsL := [(.ref t1), (.ref t2)]) (rest := []) (lenOf pd_rmSE_0 rfl) rfl (by show 2 * 0 + _ ≤ _; exact Nat.le_of_eq rfl) (hb hby d4_44) (fun _ _ => ⟨rfl, e7, (by decide : 0 + 0 ≤ _), (by decide : 0 + 0 ≤ _)⟩)
    dsimp only [Pt.U, Pt.locs, Pt.cells, Pt.slots] at X8 l8 y8 z8 st8 hQ8
    subst l8 y8 z8
    obtain ⟨rfl, Nq8, e8⟩ := hQ8
    have N8 := Fr.app N0 Nq8
    refine Gl.st st8 ?_
    show Gl p e below s _ _ _ T8 (mkF m 47 #[.val (.ref x), .val (.ref y), .val (.ref y)] [(.int (if us = us2 then (1 : Int32) else 0))])
    by_cases hc47 : (if us = us2 then (1 : Int32) else 0) = (0 : Int32)
    · skip
      refine Gl.st (fun _ kk => XS.ifYes X8.here hx rfl (pc0 := 47) (pc' := 54) rfl (hb hby d4_47) rfl ((if0 _ _).trans (teq hc47).1) (by decide) (by decide) kk) ?_
      show Gl p e below s _ _ _ T8 (mkF m 54 #[.val (.ref x), .val (.ref y), .val (.ref y)] [])
      refine Gl.st (fun _ kk => XS.iconst X8.here hx rfl (hb hby d4_54) kk) ?_
      show Gl p e below s _ _ _ T8 (mkF m 55 #[.val (.ref x), .val (.ref y), .val (.ref y)] [(.int (0 : Int32))])
      have hzz : z = 0 := by rw [hz]; exact hc47
      exact Gl.ret X8 (v := (some (.int (0 : Int32)))) (fun h => by rw [Bd.returns] at h; cases h) (BodyLoose.notSynchronized Bd) (fun hr => retN X8 hx (t := .boolean) Bd.returns (by simp) (hb hby d4_55) hr) e8 ⟨by rw [hzz], N8, rfl⟩ (by decide) (by decide)
    · skip
      refine Gl.st (fun _ kk => XS.ifNo X8.here hx rfl (hb hby d4_47) rfl ((if0 _ _).trans (feq hc47).1) kk) ?_
      show Gl p e below s _ _ _ T8 (mkF m 50 #[.val (.ref x), .val (.ref y), .val (.ref y)] [])
      refine Gl.st (fun _ kk => XS.iconst X8.here hx rfl (hb hby d4_50) kk) ?_
      show Gl p e below s _ _ _ T8 (mkF m 51 #[.val (.ref x), .val (.ref y), .val (.ref y)] [(.int (1 : Int32))])
      refine Gl.st (fun _ kk => XS.goto X8.here hx rfl (pc0 := 51) (pc' := 55) rfl (hb hby d4_51) (by decide) (by decide) kk) ?_
      show Gl p e below s _ _ _ T8 (mkF m 55 #[.val (.ref x), .val (.ref y), .val (.ref y)] [(.int (1 : Int32))])
      have hzz : z = 1 := by rw [hz]; exact if_pos (by by_cases q : us = us2; exact q; rw [if_neg q] at hc47; exact absurd rfl hc47)
      exact Gl.ret X8 (v := (some (.int (1 : Int32)))) (fun h => by rw [Bd.returns] at h; cases h) (BodyLoose.notSynchronized Bd) (fun hr => retN X8 hx (t := .boolean) Bd.returns (by simp) (hb hby d4_55) hr) e8 ⟨by rw [hzz], N8, rfl⟩ (by decide) (by decide)
theorem d2_0 : decode jdk_37_method_2_code 0 = .ok (.aload_n 0, 1) := by decide +kernel
theorem d2_1 : decode jdk_37_method_2_code 1 = .ok (.getfield 7, 3) := by decide +kernel
theorem d2_4 : decode jdk_37_method_2_code 4 = .ok (.ireturn, 1) := by decide +kernel
theorem pn_rm2 : plainName "java/lang/Enum" = true := by first | (simp [plainName, overriddenIn]; done) | decide +kernel
theorem ef_rm2 (m : MethodId) (a1 : Addr) : entryFrame m #[(.ref a1)] 1 = mkF m 0 #[.val (.ref a1)] [] := by first | (simp [entryFrame, mkF, argsToLocals, Value.category]; done) | rfl
def Q_rm2 (Z : State) (a1 : Addr) (k : Int32) (h0 : Heap) (n0 : Nat) (v : Option Value) (h : Heap) (L : List Loc) : Prop := v = some (.int k) ∧ Fr n0 L ∧ h = h0
set_option maxRecDepth 65536 in
set_option maxHeartbeats 40000000 in
theorem rm2 (l : Launch) (Z : State) (a0 : Array Value) (hw : ∀ d ∈ tables_1, d.before a0 Z = true) (ws : List Jvm.Cond) (a1 : Addr) (k : Int32) (h0 : Heap) (n0 : Nat) (O0 : Old Z n0 h0) (F1 : Fld Z Z.heap a1 "java/lang/Enum" "ordinal" "I" (.int k)) :
    MetFree l (⟨"java/lang/Enum", "ordinal", "()I"⟩ : MethodName) (head1 (Jvm.Cond.code (⟨"java/lang/Enum", "ordinal", "()I"⟩ : MethodName) jdk_37_method_2_code 1 (some .int) :: ws) ({ frames := 0, cells := 0, slots := 0, locals := 0 } : Room)) (fun a U => a = #[(.ref a1)] ∧ Z.Warmed39 U.vm ∧ U.heap = h0) (fun _ _ _ _ _ => True) (fun _ U o U' => ∃ v L, o = .returned v ∧ Q_rm2 Z a1 k h0 n0 v U'.heap L ∧ FrameEnd U o U' L ({ frames := 0, cells := 0, slots := 0, locals := 0 } : Room).cells ({ frames := 0, cells := 0, slots := 0, locals := 0 } : Room).slots) := by
  refine MetFree.of_bodySF (plainFor_of_name pn_rm2) hisR ?_
  intro p e s m args below meth c s₁ Bd hml0 hP hK
  obtain ⟨rfl, hZ, hh⟩ := hP
  have hx := Bd.exec
  have hby := Bd.bytes
  have hml : c.maxLocals = 1 := hml0
  have hown : s.vm.findClass "java/lang/Enum" = some m.cls := findClass_of_methodNamed Bd.named
  have hnm := (name_of_methodNamed Bd.named Bd.method).1
  have X0 : Stand p l e ({ frames := 0, cells := 0, slots := 0, locals := 0 } : Room) s m #[(.ref a1)] below meth c s₁ [] 0 0 := Stand.of_body Bd
  have e0 : s₁.heap = h0 := by rw [← hh, Bd.state]; rfl
  have N0 := Fr.nil n0
  refine Gl.start (Q := Q_rm2 Z a1 k h0 n0) (ef_rm2 m a1) ?_
  show Gl p e below s _ _ _ s₁ (mkF m 0 #[.val (.ref a1)] [])
  refine Gl.st (fun _ kk => XS.aloadN X0.here hx rfl (hb hby d2_0) rfl rfl kk) ?_
  show Gl p e below s _ _ _ s₁ (mkF m 1 #[.val (.ref a1)] [(.ref a1)])
  obtain ⟨T1, X1, e1, st1⟩ := getF X0 hx hZ hown (host := "") (Or.inl (hw _ (List.mem_of_getElem? (i := 26) rfl))) Via.refl e0 (F1.ext O0.2) (g := (mkF m 1 #[.val (.ref a1)] [(.ref a1)])) rfl rfl (hb hby d2_1)
  refine Gl.st st1 ?_
  show Gl p e below s _ _ _ T1 (mkF m 4 #[.val (.ref a1)] [(.int k)])
  exact Gl.ret X1 (v := (some (.int k))) (fun h => by rw [Bd.returns] at h; cases h) (BodyLoose.notSynchronized Bd) (fun hr => retI X1 hx Bd.returns (hb hby d2_4) hr) e1 ⟨rfl, N0, rfl⟩ (by decide) (by decide)
theorem d1_0 : decode prog_17_method_4_code 0 = .ok (.getstatic 46, 3) := by decide +kernel
theorem d1_3 : decode prog_17_method_4_code 3 = .ok (.aload_n 0, 1) := by decide +kernel
theorem d1_4 : decode prog_17_method_4_code 4 = .ok (.invokevirtual 52, 3) := by decide +kernel
theorem d1_7 : decode prog_17_method_4_code 7 = .ok (.iaload, 1) := by decide +kernel
theorem d1_8 : decode prog_17_method_4_code 8 = .ok (.tableswitch 36 1 5 #[46, 52, 58, 64, 70], 36) := by decide +kernel
theorem d1_54 : decode prog_17_method_4_code 54 = .ok (.getstatic 3, 3) := by decide +kernel
theorem d1_57 : decode prog_17_method_4_code 57 = .ok (.goto 24, 3) := by decide +kernel
theorem d1_60 : decode prog_17_method_4_code 60 = .ok (.getstatic 7, 3) := by decide +kernel
theorem d1_63 : decode prog_17_method_4_code 63 = .ok (.goto 18, 3) := by decide +kernel
theorem d1_66 : decode prog_17_method_4_code 66 = .ok (.getstatic 10, 3) := by decide +kernel
theorem d1_69 : decode prog_17_method_4_code 69 = .ok (.goto 12, 3) := by decide +kernel
theorem d1_72 : decode prog_17_method_4_code 72 = .ok (.getstatic 13, 3) := by decide +kernel
theorem d1_75 : decode prog_17_method_4_code 75 = .ok (.goto 6, 3) := by decide +kernel
theorem d1_78 : decode prog_17_method_4_code 78 = .ok (.getstatic 16, 3) := by decide +kernel
theorem d1_81 : decode prog_17_method_4_code 81 = .ok (.areturn, 1) := by decide +kernel
theorem pd_rm1_0 : parseMethodDescriptor "()I" = some ⟨[], some .int⟩ := by decide +kernel
theorem pn_rm1 : plainName "com/example/tender/tender/payment/TransactionStatus" = true := by first | (simp [plainName, overriddenIn]; done) | decide +kernel
theorem ef_rm1 (m : MethodId) (a1 : Addr) : entryFrame m #[(.ref a1)] 1 = mkF m 0 #[.val (.ref a1)] [] := by first | (simp [entryFrame, mkF, argsToLocals, Value.category]; done) | rfl
def Q_rm1 (Z : State) (a1 : Addr) (w_TransactionStatus_SUCCESS w_TransactionStatus_PAYMENT_FAILURE w_TransactionStatus_PENDING w_TransactionStatus_PLUGIN_FAILURE w_TransactionStatus_UNKNOWN w_TransactionStatus_1__SwitchMap_com_example_tender_tender_plugin_api_PluginOutcome : Addr) (k_w_TransactionStatus_1__SwitchMap_com_example_tender_tender_plugin_api_PluginOutcome : ClassId) (k : Int32) (w : Addr) (h0 : Heap) (n0 : Nat) (v : Option Value) (h : Heap) (L : List Loc) : Prop := v = some (.ref w) ∧ Fr n0 L ∧ h = h0
set_option maxRecDepth 65536 in
set_option maxHeartbeats 40000000 in
theorem rm1 (l : Launch) (Z : State) (a0 : Array Value) (hw : ∀ d ∈ tables_1, d.before a0 Z = true) (ws : List Jvm.Cond) (a1 : Addr) (w_TransactionStatus_SUCCESS w_TransactionStatus_PAYMENT_FAILURE w_TransactionStatus_PENDING w_TransactionStatus_PLUGIN_FAILURE w_TransactionStatus_UNKNOWN w_TransactionStatus_1__SwitchMap_com_example_tender_tender_plugin_api_PluginOutcome : Addr) (k_w_TransactionStatus_1__SwitchMap_com_example_tender_tender_plugin_api_PluginOutcome : ClassId) (k : Int32) (w : Addr) (h0 : Heap) (n0 : Nat) (O0 : Old Z n0 h0) (S_w_TransactionStatus_SUCCESS : Sta Z Z.heap "com/example/tender/tender/payment/TransactionStatus" "SUCCESS" "Lcom/example/tender/tender/payment/TransactionStatus;" (.ref w_TransactionStatus_SUCCESS)) (S_w_TransactionStatus_PAYMENT_FAILURE : Sta Z Z.heap "com/example/tender/tender/payment/TransactionStatus" "PAYMENT_FAILURE" "Lcom/example/tender/tender/payment/TransactionStatus;" (.ref w_TransactionStatus_PAYMENT_FAILURE)) (S_w_TransactionStatus_PENDING : Sta Z Z.heap "com/example/tender/tender/payment/TransactionStatus" "PENDING" "Lcom/example/tender/tender/payment/TransactionStatus;" (.ref w_TransactionStatus_PENDING)) (S_w_TransactionStatus_PLUGIN_FAILURE : Sta Z Z.heap "com/example/tender/tender/payment/TransactionStatus" "PLUGIN_FAILURE" "Lcom/example/tender/tender/payment/TransactionStatus;" (.ref w_TransactionStatus_PLUGIN_FAILURE)) (S_w_TransactionStatus_UNKNOWN : Sta Z Z.heap "com/example/tender/tender/payment/TransactionStatus" "UNKNOWN" "Lcom/example/tender/tender/payment/TransactionStatus;" (.ref w_TransactionStatus_UNKNOWN)) (S_w_TransactionStatus_1__SwitchMap_com_example_tender_tender_plugin_api_PluginOutcome : Sta Z Z.heap "com/example/tender/tender/payment/TransactionStatus$1" "$SwitchMap$com$example$tender$tender$plugin$api$PluginOutcome" "[I" (.ref w_TransactionStatus_1__SwitchMap_com_example_tender_tender_plugin_api_PluginOutcome)) (V_w_TransactionStatus_1__SwitchMap_com_example_tender_tender_plugin_api_PluginOutcome : Arv Z Z.heap w_TransactionStatus_1__SwitchMap_com_example_tender_tender_plugin_api_PluginOutcome k_w_TransactionStatus_1__SwitchMap_com_example_tender_tender_plugin_api_PluginOutcome .int 5 [(.int (1 : Int32)), (.int (2 : Int32)), (.int (3 : Int32)), (.int (4 : Int32)), (.int (5 : Int32))] (.int 0)) (E1 : Exa Z Z.heap a1 "com/example/tender/tender/plugin/api/PluginOutcome") (F1 : Fld Z Z.heap a1 "java/lang/Enum" "ordinal" "I" (.int k)) (hp : (k = 0 ∧ w = w_TransactionStatus_SUCCESS) ∨ (k = 1 ∧ w = w_TransactionStatus_PAYMENT_FAILURE) ∨ (k = 2 ∧ w = w_TransactionStatus_PENDING) ∨ (k = 3 ∧ w = w_TransactionStatus_PLUGIN_FAILURE) ∨ (k = 4 ∧ w = w_TransactionStatus_UNKNOWN)) :
    MetFree l (⟨"com/example/tender/tender/payment/TransactionStatus", "of", "(Lcom/example/tender/tender/plugin/api/PluginOutcome;)Lcom/example/tender/tender/payment/TransactionStatus;"⟩ : MethodName) (head1 (Jvm.Cond.code (⟨"com/example/tender/tender/payment/TransactionStatus", "of", "(Lcom/example/tender/tender/plugin/api/PluginOutcome;)Lcom/example/tender/tender/payment/TransactionStatus;"⟩ : MethodName) prog_17_method_4_code 1 (some (.object "com/example/tender/tender/payment/TransactionStatus")) :: ws) ({ frames := 1, cells := 0, slots := 0, locals := 13 } : Room)) (fun a U => a = #[(.ref a1)] ∧ Z.Warmed39 U.vm ∧ U.heap = h0) (fun _ _ _ _ _ => True) (fun _ U o U' => ∃ v L, o = .returned v ∧ Q_rm1 Z a1 w_TransactionStatus_SUCCESS w_TransactionStatus_PAYMENT_FAILURE w_TransactionStatus_PENDING w_TransactionStatus_PLUGIN_FAILURE w_TransactionStatus_UNKNOWN w_TransactionStatus_1__SwitchMap_com_example_tender_tender_plugin_api_PluginOutcome k_w_TransactionStatus_1__SwitchMap_com_example_tender_tender_plugin_api_PluginOutcome k w h0 n0 v U'.heap L ∧ FrameEnd U o U' L ({ frames := 1, cells := 0, slots := 0, locals := 13 } : Room).cells ({ frames := 1, cells := 0, slots := 0, locals := 13 } : Room).slots) := by
  refine MetFree.of_bodySF (plainFor_of_name pn_rm1) hisR ?_
  intro p e s m args below meth c s₁ Bd hml0 hP hK
  obtain ⟨rfl, hZ, hh⟩ := hP
  have hx := Bd.exec
  have hby := Bd.bytes
  have hml : c.maxLocals = 1 := hml0
  have hown : s.vm.findClass "com/example/tender/tender/payment/TransactionStatus" = some m.cls := findClass_of_methodNamed Bd.named
  have hnm := (name_of_methodNamed Bd.named Bd.method).1
  have X0 : Stand p l e ({ frames := 1, cells := 0, slots := 0, locals := 13 } : Room) s m #[(.ref a1)] below meth c s₁ [] 0 0 := Stand.of_body Bd
  have e0 : s₁.heap = h0 := by rw [← hh, Bd.state]; rfl
  have N0 := Fr.nil n0
  refine Gl.start (Q := Q_rm1 Z a1 w_TransactionStatus_SUCCESS w_TransactionStatus_PAYMENT_FAILURE w_TransactionStatus_PENDING w_TransactionStatus_PLUGIN_FAILURE w_TransactionStatus_UNKNOWN w_TransactionStatus_1__SwitchMap_com_example_tender_tender_plugin_api_PluginOutcome k_w_TransactionStatus_1__SwitchMap_com_example_tender_tender_plugin_api_PluginOutcome k w h0 n0) (ef_rm1 m a1) ?_
  have Arv_SM := V_w_TransactionStatus_1__SwitchMap_com_example_tender_tender_plugin_api_PluginOutcome.ext O0.2
  show Gl p e below s _ _ _ s₁ (mkF m 0 #[.val (.ref a1)] [])
  obtain ⟨T1, X1, e1, st1⟩ := getS2 X0 hx hZ hown (host := "") (Or.inl (hw _ (List.mem_of_getElem? (i := 16) rfl))) Via.refl e0 (S_w_TransactionStatus_1__SwitchMap_com_example_tender_tender_plugin_api_PluginOutcome.ext O0.2) (g := (mkF m 0 #[.val (.ref a1)] [])) rfl (hb hby d1_0)
  refine Gl.st st1 ?_
  show Gl p e below s _ _ _ T1 (mkF m 3 #[.val (.ref a1)] [(.ref w_TransactionStatus_1__SwitchMap_com_example_tender_tender_plugin_api_PluginOutcome)])
  refine Gl.st (fun _ kk => XS.aloadN X1.here hx rfl (hb hby d1_3) rfl rfl kk) ?_
  show Gl p e below s _ _ _ T1 (mkF m 4 #[.val (.ref a1)] [(.ref a1), (.ref w_TransactionStatus_1__SwitchMap_com_example_tender_tender_plugin_api_PluginOutcome)])
  obtain ⟨cq2, kq2, qa2, qb2, qc2⟩ := isOf hZ e1 (E1.ext O0.2)
  obtain ⟨v2, _, ⟨T2, L2, k2, n2⟩, -, X2, ⟨Lc2, hQ2, l2, y2, z2⟩, st2⟩ := X1.virtualBackUp hx (x := (⟨"com/example/tender/tender/plugin/api/PluginOutcome", "ordinal", "()I"⟩ : MethodName)) (y := (⟨"java/lang/Enum", "ordinal", "()I"⟩ : MethodName)) hown (mvT hZ (hw _ (List.mem_of_getElem? (i := 19) rfl))) (mvT hZ (hw _ (List.mem_of_getElem? (i := 20) rfl))) (mvT hZ (hw _ (List.mem_of_getElem? (i := 21) rfl))) (by decide) (mvT hZ (hw _ (List.mem_of_getElem? (i := 23) rfl))) (mvT hZ (hw _ (List.mem_of_getElem? (i := 22) rfl))) (backOf (W := 1) (rm2 l Z a0 hw [] a1 k h0 n0 O0 F1) hZ (hw _ (List.mem_of_getElem? (i := 25) rfl)) (hw _ (List.mem_of_getElem? (i := 24) rfl)) (by decide) (by decide)) qa2 qc2 (g := (mkF m 4 #[.val (.ref a1)] [(.ref a1), (.ref w_TransactionStatus_1__SwitchMap_com_example_tender_tender_plugin_api_PluginOutcome)])) rfl (by rw [hml]; rfl) (Steps.refl _) (argsL := []) (rest := [(.ref w_TransactionStatus_1__SwitchMap_com_example_tender_tender_plugin_api_PluginOutcome)]) (lenOf pd_rm1_0 rfl) rfl (by show 2 * 0 + _ ≤ _; exact Nat.le_of_eq rfl) (hb hby d1_4) (fun _ _ => ⟨rfl, e1, (by decide : 0 + 0 ≤ _), (by decide : 0 + 0 ≤ _)⟩)
  dsimp only [Pt.U, Pt.locs, Pt.cells, Pt.slots] at X2 l2 y2 z2 st2 hQ2
  subst l2 y2 z2
  obtain ⟨rfl, Nq2, e2⟩ := hQ2
  have N2 := Fr.app N0 Nq2
  refine Gl.st (fun _ kk => st2.trans kk) ?_
  show Gl p e below s _ _ _ T2 (mkF m 7 #[.val (.ref a1)] [(.int k), (.ref w_TransactionStatus_1__SwitchMap_com_example_tender_tender_plugin_api_PluginOutcome)])
  rcases hp with ⟨rfl, hr⟩ | ⟨rfl, hr⟩ | ⟨rfl, hr⟩ | ⟨rfl, hr⟩ | ⟨rfl, hr⟩
  · skip
    show Gl p e below s _ _ _ T2 (mkF m 7 #[.val (.ref a1)] [(.int (0 : Int32)), (.ref w_TransactionStatus_1__SwitchMap_com_example_tender_tender_plugin_api_PluginOutcome)])
    obtain ⟨cl3, Ar3, q3, Sz3, Ng3, Ha3, Fi3⟩ := id Arv_SM
    have hin3 : ¬ ((0 : Int32) < 0 ∨ cl3.slots.size ≤ ((0 : Int32)).toNatClampNeg) := inb_of Sz3 ⟨by decide, by decide⟩
    have hat3 : cl3.slots[((0 : Int32)).toNatClampNeg]? = some (.int (1 : Int32)) := Ha3.at hin3 rfl
    refine Gl.st (fun _ kk => X2.iaload hx (j := (0 : Int32)) (v := (.int (1 : Int32))) (by rw [e2]; exact Ar3.1) (State.isArrayOf_alike hZ.alike Ar3.2.1) Ar3.2.2 hin3 hat3 (g := (mkF m 7 #[.val (.ref a1)] [(.int (0 : Int32)), (.ref w_TransactionStatus_1__SwitchMap_com_example_tender_tender_plugin_api_PluginOutcome)])) rfl rfl (hb hby d1_7) _ kk) ?_
    show Gl p e below s _ _ _ T2 (mkF m 8 #[.val (.ref a1)] [(.int (1 : Int32))])
    refine Gl.st (fun _ kk => XS.tswIn X2.here hx rfl (pc0 := 8) (pc' := 54) (o := 46) rfl (hb hby d1_8) rfl (by decide) (by decide) (by decide) (by decide) kk) ?_
    show Gl p e below s _ _ _ T2 (mkF m 54 #[.val (.ref a1)] [])
    obtain ⟨T4, X4, e4, st4⟩ := getS2 X2 hx hZ hown (host := "") (Or.inl (hw _ (List.mem_of_getElem? (i := 28) rfl))) Via.refl e2 (S_w_TransactionStatus_SUCCESS.ext O0.2) (g := (mkF m 54 #[.val (.ref a1)] [])) rfl (hb hby d1_54)
    refine Gl.st st4 ?_
    show Gl p e below s _ _ _ T4 (mkF m 57 #[.val (.ref a1)] [(.ref w_TransactionStatus_SUCCESS)])
    refine Gl.st (fun _ kk => XS.goto X4.here hx rfl (pc0 := 57) (pc' := 81) rfl (hb hby d1_57) (by decide) (by decide) kk) ?_
    show Gl p e below s _ _ _ T4 (mkF m 81 #[.val (.ref a1)] [(.ref w_TransactionStatus_SUCCESS)])
    exact Gl.ret X4 (v := (some (.ref w_TransactionStatus_SUCCESS))) (fun h => by rw [Bd.returns] at h; cases h) (BodyLoose.notSynchronized Bd) (fun hr => retOut X4 hx Bd.returns rfl (Or.inr (Or.inr (Or.inr (Or.inr ⟨rfl, rfl, rfl⟩)))) (hb hby d1_81) hr) e4 ⟨by rw [hr], N2, rfl⟩ (by decide) (by decide)
  · skip
    show Gl p e below s _ _ _ T2 (mkF m 7 #[.val (.ref a1)] [(.int (1 : Int32)), (.ref w_TransactionStatus_1__SwitchMap_com_example_tender_tender_plugin_api_PluginOutcome)])
    obtain ⟨cl5, Ar5, q5, Sz5, Ng5, Ha5, Fi5⟩ := id Arv_SM
    have hin5 : ¬ ((1 : Int32) < 0 ∨ cl5.slots.size ≤ ((1 : Int32)).toNatClampNeg) := inb_of Sz5 ⟨by decide, by decide⟩
    have hat5 : cl5.slots[((1 : Int32)).toNatClampNeg]? = some (.int (2 : Int32)) := Ha5.at hin5 rfl
    refine Gl.st (fun _ kk => X2.iaload hx (j := (1 : Int32)) (v := (.int (2 : Int32))) (by rw [e2]; exact Ar5.1) (State.isArrayOf_alike hZ.alike Ar5.2.1) Ar5.2.2 hin5 hat5 (g := (mkF m 7 #[.val (.ref a1)] [(.int (1 : Int32)), (.ref w_TransactionStatus_1__SwitchMap_com_example_tender_tender_plugin_api_PluginOutcome)])) rfl rfl (hb hby d1_7) _ kk) ?_
    show Gl p e below s _ _ _ T2 (mkF m 8 #[.val (.ref a1)] [(.int (2 : Int32))])
    refine Gl.st (fun _ kk => XS.tswIn X2.here hx rfl (pc0 := 8) (pc' := 60) (o := 52) rfl (hb hby d1_8) rfl (by decide) (by decide) (by decide) (by decide) kk) ?_
    show Gl p e below s _ _ _ T2 (mkF m 60 #[.val (.ref a1)] [])
    obtain ⟨T6, X6, e6, st6⟩ := getS2 X2 hx hZ hown (host := "") (Or.inl (hw _ (List.mem_of_getElem? (i := 66) rfl))) Via.refl e2 (S_w_TransactionStatus_PAYMENT_FAILURE.ext O0.2) (g := (mkF m 60 #[.val (.ref a1)] [])) rfl (hb hby d1_60)
    refine Gl.st st6 ?_
    show Gl p e below s _ _ _ T6 (mkF m 63 #[.val (.ref a1)] [(.ref w_TransactionStatus_PAYMENT_FAILURE)])
    refine Gl.st (fun _ kk => XS.goto X6.here hx rfl (pc0 := 63) (pc' := 81) rfl (hb hby d1_63) (by decide) (by decide) kk) ?_
    show Gl p e below s _ _ _ T6 (mkF m 81 #[.val (.ref a1)] [(.ref w_TransactionStatus_PAYMENT_FAILURE)])
    exact Gl.ret X6 (v := (some (.ref w_TransactionStatus_PAYMENT_FAILURE))) (fun h => by rw [Bd.returns] at h; cases h) (BodyLoose.notSynchronized Bd) (fun hr => retOut X6 hx Bd.returns rfl (Or.inr (Or.inr (Or.inr (Or.inr ⟨rfl, rfl, rfl⟩)))) (hb hby d1_81) hr) e6 ⟨by rw [hr], N2, rfl⟩ (by decide) (by decide)
  · skip
    show Gl p e below s _ _ _ T2 (mkF m 7 #[.val (.ref a1)] [(.int (2 : Int32)), (.ref w_TransactionStatus_1__SwitchMap_com_example_tender_tender_plugin_api_PluginOutcome)])
    obtain ⟨cl7, Ar7, q7, Sz7, Ng7, Ha7, Fi7⟩ := id Arv_SM
    have hin7 : ¬ ((2 : Int32) < 0 ∨ cl7.slots.size ≤ ((2 : Int32)).toNatClampNeg) := inb_of Sz7 ⟨by decide, by decide⟩
    have hat7 : cl7.slots[((2 : Int32)).toNatClampNeg]? = some (.int (3 : Int32)) := Ha7.at hin7 rfl
    refine Gl.st (fun _ kk => X2.iaload hx (j := (2 : Int32)) (v := (.int (3 : Int32))) (by rw [e2]; exact Ar7.1) (State.isArrayOf_alike hZ.alike Ar7.2.1) Ar7.2.2 hin7 hat7 (g := (mkF m 7 #[.val (.ref a1)] [(.int (2 : Int32)), (.ref w_TransactionStatus_1__SwitchMap_com_example_tender_tender_plugin_api_PluginOutcome)])) rfl rfl (hb hby d1_7) _ kk) ?_
    show Gl p e below s _ _ _ T2 (mkF m 8 #[.val (.ref a1)] [(.int (3 : Int32))])
    refine Gl.st (fun _ kk => XS.tswIn X2.here hx rfl (pc0 := 8) (pc' := 66) (o := 58) rfl (hb hby d1_8) rfl (by decide) (by decide) (by decide) (by decide) kk) ?_
    show Gl p e below s _ _ _ T2 (mkF m 66 #[.val (.ref a1)] [])
    obtain ⟨T8, X8, e8, st8⟩ := getS2 X2 hx hZ hown (host := "") (Or.inl (hw _ (List.mem_of_getElem? (i := 75) rfl))) Via.refl e2 (S_w_TransactionStatus_PENDING.ext O0.2) (g := (mkF m 66 #[.val (.ref a1)] [])) rfl (hb hby d1_66)
    refine Gl.st st8 ?_
    show Gl p e below s _ _ _ T8 (mkF m 69 #[.val (.ref a1)] [(.ref w_TransactionStatus_PENDING)])
    refine Gl.st (fun _ kk => XS.goto X8.here hx rfl (pc0 := 69) (pc' := 81) rfl (hb hby d1_69) (by decide) (by decide) kk) ?_
    show Gl p e below s _ _ _ T8 (mkF m 81 #[.val (.ref a1)] [(.ref w_TransactionStatus_PENDING)])
    exact Gl.ret X8 (v := (some (.ref w_TransactionStatus_PENDING))) (fun h => by rw [Bd.returns] at h; cases h) (BodyLoose.notSynchronized Bd) (fun hr => retOut X8 hx Bd.returns rfl (Or.inr (Or.inr (Or.inr (Or.inr ⟨rfl, rfl, rfl⟩)))) (hb hby d1_81) hr) e8 ⟨by rw [hr], N2, rfl⟩ (by decide) (by decide)
  · skip
    show Gl p e below s _ _ _ T2 (mkF m 7 #[.val (.ref a1)] [(.int (3 : Int32)), (.ref w_TransactionStatus_1__SwitchMap_com_example_tender_tender_plugin_api_PluginOutcome)])
    obtain ⟨cl9, Ar9, q9, Sz9, Ng9, Ha9, Fi9⟩ := id Arv_SM
    have hin9 : ¬ ((3 : Int32) < 0 ∨ cl9.slots.size ≤ ((3 : Int32)).toNatClampNeg) := inb_of Sz9 ⟨by decide, by decide⟩
    have hat9 : cl9.slots[((3 : Int32)).toNatClampNeg]? = some (.int (4 : Int32)) := Ha9.at hin9 rfl
    refine Gl.st (fun _ kk => X2.iaload hx (j := (3 : Int32)) (v := (.int (4 : Int32))) (by rw [e2]; exact Ar9.1) (State.isArrayOf_alike hZ.alike Ar9.2.1) Ar9.2.2 hin9 hat9 (g := (mkF m 7 #[.val (.ref a1)] [(.int (3 : Int32)), (.ref w_TransactionStatus_1__SwitchMap_com_example_tender_tender_plugin_api_PluginOutcome)])) rfl rfl (hb hby d1_7) _ kk) ?_
    show Gl p e below s _ _ _ T2 (mkF m 8 #[.val (.ref a1)] [(.int (4 : Int32))])
    refine Gl.st (fun _ kk => XS.tswIn X2.here hx rfl (pc0 := 8) (pc' := 72) (o := 64) rfl (hb hby d1_8) rfl (by decide) (by decide) (by decide) (by decide) kk) ?_
    show Gl p e below s _ _ _ T2 (mkF m 72 #[.val (.ref a1)] [])
    obtain ⟨T10, X10, e10, st10⟩ := getS2 X2 hx hZ hown (host := "") (Or.inl (hw _ (List.mem_of_getElem? (i := 61) rfl))) Via.refl e2 (S_w_TransactionStatus_PLUGIN_FAILURE.ext O0.2) (g := (mkF m 72 #[.val (.ref a1)] [])) rfl (hb hby d1_72)
    refine Gl.st st10 ?_
    show Gl p e below s _ _ _ T10 (mkF m 75 #[.val (.ref a1)] [(.ref w_TransactionStatus_PLUGIN_FAILURE)])
    refine Gl.st (fun _ kk => XS.goto X10.here hx rfl (pc0 := 75) (pc' := 81) rfl (hb hby d1_75) (by decide) (by decide) kk) ?_
    show Gl p e below s _ _ _ T10 (mkF m 81 #[.val (.ref a1)] [(.ref w_TransactionStatus_PLUGIN_FAILURE)])
    exact Gl.ret X10 (v := (some (.ref w_TransactionStatus_PLUGIN_FAILURE))) (fun h => by rw [Bd.returns] at h; cases h) (BodyLoose.notSynchronized Bd) (fun hr => retOut X10 hx Bd.returns rfl (Or.inr (Or.inr (Or.inr (Or.inr ⟨rfl, rfl, rfl⟩)))) (hb hby d1_81) hr) e10 ⟨by rw [hr], N2, rfl⟩ (by decide) (by decide)
  · skip
    show Gl p e below s _ _ _ T2 (mkF m 7 #[.val (.ref a1)] [(.int (4 : Int32)), (.ref w_TransactionStatus_1__SwitchMap_com_example_tender_tender_plugin_api_PluginOutcome)])
    obtain ⟨cl11, Ar11, q11, Sz11, Ng11, Ha11, Fi11⟩ := id Arv_SM
    have hin11 : ¬ ((4 : Int32) < 0 ∨ cl11.slots.size ≤ ((4 : Int32)).toNatClampNeg) := inb_of Sz11 ⟨by decide, by decide⟩
    have hat11 : cl11.slots[((4 : Int32)).toNatClampNeg]? = some (.int (5 : Int32)) := Ha11.at hin11 rfl
    refine Gl.st (fun _ kk => X2.iaload hx (j := (4 : Int32)) (v := (.int (5 : Int32))) (by rw [e2]; exact Ar11.1) (State.isArrayOf_alike hZ.alike Ar11.2.1) Ar11.2.2 hin11 hat11 (g := (mkF m 7 #[.val (.ref a1)] [(.int (4 : Int32)), (.ref w_TransactionStatus_1__SwitchMap_com_example_tender_tender_plugin_api_PluginOutcome)])) rfl rfl (hb hby d1_7) _ kk) ?_
    show Gl p e below s _ _ _ T2 (mkF m 8 #[.val (.ref a1)] [(.int (5 : Int32))])
    refine Gl.st (fun _ kk => XS.tswIn X2.here hx rfl (pc0 := 8) (pc' := 78) (o := 70) rfl (hb hby d1_8) rfl (by decide) (by decide) (by decide) (by decide) kk) ?_
    show Gl p e below s _ _ _ T2 (mkF m 78 #[.val (.ref a1)] [])
    obtain ⟨T12, X12, e12, st12⟩ := getS2 X2 hx hZ hown (host := "") (Or.inl (hw _ (List.mem_of_getElem? (i := 70) rfl))) Via.refl e2 (S_w_TransactionStatus_UNKNOWN.ext O0.2) (g := (mkF m 78 #[.val (.ref a1)] [])) rfl (hb hby d1_78)
    refine Gl.st st12 ?_
    show Gl p e below s _ _ _ T12 (mkF m 81 #[.val (.ref a1)] [(.ref w_TransactionStatus_UNKNOWN)])
    exact Gl.ret X12 (v := (some (.ref w_TransactionStatus_UNKNOWN))) (fun h => by rw [Bd.returns] at h; cases h) (BodyLoose.notSynchronized Bd) (fun hr => retOut X12 hx Bd.returns rfl (Or.inr (Or.inr (Or.inr (Or.inr ⟨rfl, rfl, rfl⟩)))) (hb hby d1_81) hr) e12 ⟨by rw [hr], N2, rfl⟩ (by decide) (by decide)
theorem d3_0 : decode prog_17_method_6_code 0 = .ok (.aload_n 0, 1) := by decide +kernel
theorem d3_1 : decode prog_17_method_6_code 1 = .ok (.getfield 38, 3) := by decide +kernel
theorem d3_4 : decode prog_17_method_6_code 4 = .ok (.areturn, 1) := by decide +kernel
theorem pn_rm3 : plainName "com/example/tender/tender/payment/TransactionStatus" = true := by first | (simp [plainName, overriddenIn]; done) | decide +kernel
theorem ef_rm3 (m : MethodId) (a1 : Addr) : entryFrame m #[(.ref a1)] 1 = mkF m 0 #[.val (.ref a1)] [] := by first | (simp [entryFrame, mkF, argsToLocals, Value.category]; done) | rfl
def Q_rm3 (Z : State) (a1 : Addr) (u : Addr) (h0 : Heap) (n0 : Nat) (v : Option Value) (h : Heap) (L : List Loc) : Prop := v = some (.ref u) ∧ Fr n0 L ∧ h = h0
set_option maxRecDepth 65536 in
set_option maxHeartbeats 40000000 in
theorem rm3 (l : Launch) (Z : State) (a0 : Array Value) (hw : ∀ d ∈ tables_1, d.before a0 Z = true) (ws : List Jvm.Cond) (a1 : Addr) (u : Addr) (h0 : Heap) (n0 : Nat) (O0 : Old Z n0 h0) (F1 : Fld Z Z.heap a1 "com/example/tender/tender/payment/TransactionStatus" "stateSuffix" "Ljava/lang/String;" (.ref u)) :
    MetFree l (⟨"com/example/tender/tender/payment/TransactionStatus", "stateSuffix", "()Ljava/lang/String;"⟩ : MethodName) (head1 (Jvm.Cond.code (⟨"com/example/tender/tender/payment/TransactionStatus", "stateSuffix", "()Ljava/lang/String;"⟩ : MethodName) prog_17_method_6_code 1 (some (.object "java/lang/String")) :: ws) ({ frames := 0, cells := 0, slots := 0, locals := 0 } : Room)) (fun a U => a = #[(.ref a1)] ∧ Z.Warmed39 U.vm ∧ U.heap = h0) (fun _ _ _ _ _ => True) (fun _ U o U' => ∃ v L, o = .returned v ∧ Q_rm3 Z a1 u h0 n0 v U'.heap L ∧ FrameEnd U o U' L ({ frames := 0, cells := 0, slots := 0, locals := 0 } : Room).cells ({ frames := 0, cells := 0, slots := 0, locals := 0 } : Room).slots) := by
  refine MetFree.of_bodySF (plainFor_of_name pn_rm3) hisR ?_
  intro p e s m args below meth c s₁ Bd hml0 hP hK
  obtain ⟨rfl, hZ, hh⟩ := hP
  have hx := Bd.exec
  have hby := Bd.bytes
  have hml : c.maxLocals = 1 := hml0
  have hown : s.vm.findClass "com/example/tender/tender/payment/TransactionStatus" = some m.cls := findClass_of_methodNamed Bd.named
  have hnm := (name_of_methodNamed Bd.named Bd.method).1
  have X0 : Stand p l e ({ frames := 0, cells := 0, slots := 0, locals := 0 } : Room) s m #[(.ref a1)] below meth c s₁ [] 0 0 := Stand.of_body Bd
  have e0 : s₁.heap = h0 := by rw [← hh, Bd.state]; rfl
  have N0 := Fr.nil n0
  refine Gl.start (Q := Q_rm3 Z a1 u h0 n0) (ef_rm3 m a1) ?_
  show Gl p e below s _ _ _ s₁ (mkF m 0 #[.val (.ref a1)] [])
  refine Gl.st (fun _ kk => XS.aloadN X0.here hx rfl (hb hby d3_0) rfl rfl kk) ?_
  show Gl p e below s _ _ _ s₁ (mkF m 1 #[.val (.ref a1)] [(.ref a1)])
  obtain ⟨T1, X1, e1, st1⟩ := getF X0 hx hZ hown (host := "") (Or.inl (hw _ (List.mem_of_getElem? (i := 35) rfl))) Via.refl e0 (F1.ext O0.2) (g := (mkF m 1 #[.val (.ref a1)] [(.ref a1)])) rfl rfl (hb hby d3_1)
  refine Gl.st st1 ?_
  show Gl p e below s _ _ _ T1 (mkF m 4 #[.val (.ref a1)] [(.ref u)])
  exact Gl.ret X1 (v := (some (.ref u))) (fun h => by rw [Bd.returns] at h; cases h) (BodyLoose.notSynchronized Bd) (fun hr => retOut X1 hx Bd.returns rfl (Or.inr (Or.inr (Or.inr (Or.inr ⟨rfl, rfl, rfl⟩)))) (hb hby d3_4) hr) e1 ⟨rfl, N0, rfl⟩ (by decide) (by decide)
theorem d6_0 : decode prog_17_method_5_code 0 = .ok (.aload_n 0, 1) := by decide +kernel
theorem d6_1 : decode prog_17_method_5_code 1 = .ok (.getfield 42, 3) := by decide +kernel
theorem d6_4 : decode prog_17_method_5_code 4 = .ok (.ireturn, 1) := by decide +kernel
theorem pn_rm6 : plainName "com/example/tender/tender/payment/TransactionStatus" = true := by first | (simp [plainName, overriddenIn]; done) | decide +kernel
theorem ef_rm6 (m : MethodId) (a1 : Addr) : entryFrame m #[(.ref a1)] 1 = mkF m 0 #[.val (.ref a1)] [] := by first | (simp [entryFrame, mkF, argsToLocals, Value.category]; done) | rfl
def Q_rm6 (Z : State) (a1 : Addr) (z : Int32) (h0 : Heap) (n0 : Nat) (v : Option Value) (h : Heap) (L : List Loc) : Prop := v = some (.int z) ∧ Fr n0 L ∧ h = h0
set_option maxRecDepth 65536 in
set_option maxHeartbeats 40000000 in
theorem rm6 (l : Launch) (Z : State) (a0 : Array Value) (hw : ∀ d ∈ tables_1, d.before a0 Z = true) (ws : List Jvm.Cond) (a1 : Addr) (z : Int32) (h0 : Heap) (n0 : Nat) (O0 : Old Z n0 h0) (F1 : Fld Z Z.heap a1 "com/example/tender/tender/payment/TransactionStatus" "inDoubt" "Z" (.int z)) (hz : z = 0 ∨ z = 1) :
    MetFree l (⟨"com/example/tender/tender/payment/TransactionStatus", "isInDoubt", "()Z"⟩ : MethodName) (head1 (Jvm.Cond.code (⟨"com/example/tender/tender/payment/TransactionStatus", "isInDoubt", "()Z"⟩ : MethodName) prog_17_method_5_code 1 (some .boolean) :: ws) ({ frames := 0, cells := 0, slots := 0, locals := 0 } : Room)) (fun a U => a = #[(.ref a1)] ∧ Z.Warmed39 U.vm ∧ U.heap = h0) (fun _ _ _ _ _ => True) (fun _ U o U' => ∃ v L, o = .returned v ∧ Q_rm6 Z a1 z h0 n0 v U'.heap L ∧ FrameEnd U o U' L ({ frames := 0, cells := 0, slots := 0, locals := 0 } : Room).cells ({ frames := 0, cells := 0, slots := 0, locals := 0 } : Room).slots) := by
  refine MetFree.of_bodySF (plainFor_of_name pn_rm6) hisR ?_
  intro p e s m args below meth c s₁ Bd hml0 hP hK
  obtain ⟨rfl, hZ, hh⟩ := hP
  have hx := Bd.exec
  have hby := Bd.bytes
  have hml : c.maxLocals = 1 := hml0
  have hown : s.vm.findClass "com/example/tender/tender/payment/TransactionStatus" = some m.cls := findClass_of_methodNamed Bd.named
  have hnm := (name_of_methodNamed Bd.named Bd.method).1
  have X0 : Stand p l e ({ frames := 0, cells := 0, slots := 0, locals := 0 } : Room) s m #[(.ref a1)] below meth c s₁ [] 0 0 := Stand.of_body Bd
  have e0 : s₁.heap = h0 := by rw [← hh, Bd.state]; rfl
  have N0 := Fr.nil n0
  refine Gl.start (Q := Q_rm6 Z a1 z h0 n0) (ef_rm6 m a1) ?_
  show Gl p e below s _ _ _ s₁ (mkF m 0 #[.val (.ref a1)] [])
  refine Gl.st (fun _ kk => XS.aloadN X0.here hx rfl (hb hby d6_0) rfl rfl kk) ?_
  show Gl p e below s _ _ _ s₁ (mkF m 1 #[.val (.ref a1)] [(.ref a1)])
  obtain ⟨T1, X1, e1, st1⟩ := getF X0 hx hZ hown (host := "") (Or.inl (hw _ (List.mem_of_getElem? (i := 56) rfl))) Via.refl e0 (F1.ext O0.2) (g := (mkF m 1 #[.val (.ref a1)] [(.ref a1)])) rfl rfl (hb hby d6_1)
  refine Gl.st st1 ?_
  show Gl p e below s _ _ _ T1 (mkF m 4 #[.val (.ref a1)] [(.int z)])
  rcases hz with rfl | rfl
  · skip
    show Gl p e below s _ _ _ T1 (mkF m 4 #[.val (.ref a1)] [(.int (0 : Int32))])
    exact Gl.ret X1 (v := (some (.int (0 : Int32)))) (fun h => by rw [Bd.returns] at h; cases h) (BodyLoose.notSynchronized Bd) (fun hr => retN X1 hx (t := .boolean) Bd.returns (by simp) (hb hby d6_4) hr) e1 ⟨rfl, N0, rfl⟩ (by decide) (by decide)
  · skip
    show Gl p e below s _ _ _ T1 (mkF m 4 #[.val (.ref a1)] [(.int (1 : Int32))])
    exact Gl.ret X1 (v := (some (.int (1 : Int32)))) (fun h => by rw [Bd.returns] at h; cases h) (BodyLoose.notSynchronized Bd) (fun hr => retN X1 hx (t := .boolean) Bd.returns (by simp) (hb hby d6_4) hr) e1 ⟨rfl, N0, rfl⟩ (by decide) (by decide)
theorem pd_rm0_0 : parseMethodDescriptor "(Lcom/example/tender/tender/plugin/api/PluginOutcome;)Lcom/example/tender/tender/payment/TransactionStatus;" = some ⟨[(.object "com/example/tender/tender/plugin/api/PluginOutcome")], some (.object "com/example/tender/tender/payment/TransactionStatus")⟩ := by decide +kernel
theorem pd_rm0_1 : parseMethodDescriptor "()Ljava/lang/String;" = some ⟨[], some (.object "java/lang/String")⟩ := by decide +kernel
theorem pd_rm0_2 : parseMethodDescriptor "(Ljava/lang/Object;)Z" = some ⟨[(.object "java/lang/Object")], some .boolean⟩ := by decide +kernel
theorem pd_rm0_3 : parseMethodDescriptor "()Z" = some ⟨[], some .boolean⟩ := by decide +kernel
theorem pn_rm0 : plainName "com/example/tender/tender/payment/TransactionStatusOfPinLaw" = true := by first | (simp [plainName, overriddenIn]; done) | decide +kernel
theorem ef_rm0 (m : MethodId) (p1 : Int32) : entryFrame m #[(.int p1)] maxLocals = mkF m 0 #[.val (.int p1), .unset, .unset, .unset, .unset, .unset] [] := by first | (simp [entryFrame, mkF, argsToLocals, Value.category, maxLocals]; done) | rfl
def Q_rm0 (Z : State) (p1 : Int32) (w_PluginOutcome_PROCESSED w_PluginOutcome_ERROR w_PluginOutcome_PENDING w_PluginOutcome_CANCELED w_PluginOutcome_UNDEFINED w_TransactionStatus_SUCCESS w_TransactionStatus_PAYMENT_FAILURE w_TransactionStatus_PENDING w_TransactionStatus_PLUGIN_FAILURE w_TransactionStatus_UNKNOWN w_TransactionStatus_SUCCESS_stateSuffix w_TransactionStatus_PAYMENT_FAILURE_stateSuffix w_TransactionStatus_PENDING_stateSuffix w_TransactionStatus_PLUGIN_FAILURE_stateSuffix w_TransactionStatus_SUCCESS_stateSuffix_value w_TransactionStatus_PAYMENT_FAILURE_stateSuffix_value w_TransactionStatus_PENDING_stateSuffix_value w_TransactionStatus_PLUGIN_FAILURE_stateSuffix_value w_TransactionStatus_1__SwitchMap_com_example_tender_tender_plugin_api_PluginOutcome : Addr) (k_w_TransactionStatus_SUCCESS_stateSuffix_value k_w_TransactionStatus_PAYMENT_FAILURE_stateSuffix_value k_w_TransactionStatus_PENDING_stateSuffix_value k_w_TransactionStatus_PLUGIN_FAILURE_stateSuffix_value k_w_TransactionStatus_1__SwitchMap_com_example_tender_tender_plugin_api_PluginOutcome : ClassId) (cz : Int32) (h0 : Heap) (n0 : Nat) (v : Option Value) (h : Heap) (L : List Loc) : Prop := v = some (.int 1) ∧ Fr n0 L
set_option maxRecDepth 65536 in
set_option maxHeartbeats 40000000 in
theorem rm0 (l : Launch) (Z : State) (a0 : Array Value) (hw : ∀ d ∈ tables_1, d.before a0 Z = true) (ws : List Jvm.Cond) (p1 : Int32) (w_PluginOutcome_PROCESSED w_PluginOutcome_ERROR w_PluginOutcome_PENDING w_PluginOutcome_CANCELED w_PluginOutcome_UNDEFINED w_TransactionStatus_SUCCESS w_TransactionStatus_PAYMENT_FAILURE w_TransactionStatus_PENDING w_TransactionStatus_PLUGIN_FAILURE w_TransactionStatus_UNKNOWN w_TransactionStatus_SUCCESS_stateSuffix w_TransactionStatus_PAYMENT_FAILURE_stateSuffix w_TransactionStatus_PENDING_stateSuffix w_TransactionStatus_PLUGIN_FAILURE_stateSuffix w_TransactionStatus_SUCCESS_stateSuffix_value w_TransactionStatus_PAYMENT_FAILURE_stateSuffix_value w_TransactionStatus_PENDING_stateSuffix_value w_TransactionStatus_PLUGIN_FAILURE_stateSuffix_value w_TransactionStatus_1__SwitchMap_com_example_tender_tender_plugin_api_PluginOutcome : Addr) (k_w_TransactionStatus_SUCCESS_stateSuffix_value k_w_TransactionStatus_PAYMENT_FAILURE_stateSuffix_value k_w_TransactionStatus_PENDING_stateSuffix_value k_w_TransactionStatus_PLUGIN_FAILURE_stateSuffix_value k_w_TransactionStatus_1__SwitchMap_com_example_tender_tender_plugin_api_PluginOutcome : ClassId) (cz : Int32) (h0 : Heap) (n0 : Nat) (O0 : Old Z n0 h0) (S_w_PluginOutcome_PROCESSED : Sta Z Z.heap "com/example/tender/tender/plugin/api/PluginOutcome" "PROCESSED" "Lcom/example/tender/tender/plugin/api/PluginOutcome;" (.ref w_PluginOutcome_PROCESSED)) (E_w_PluginOutcome_PROCESSED : Exa Z Z.heap w_PluginOutcome_PROCESSED "com/example/tender/tender/plugin/api/PluginOutcome") (F_ordinal_w_PluginOutcome_PROCESSED : Fld Z Z.heap w_PluginOutcome_PROCESSED "java/lang/Enum" "ordinal" "I" (.int 0)) (S_w_PluginOutcome_ERROR : Sta Z Z.heap "com/example/tender/tender/plugin/api/PluginOutcome" "ERROR" "Lcom/example/tender/tender/plugin/api/PluginOutcome;" (.ref w_PluginOutcome_ERROR)) (E_w_PluginOutcome_ERROR : Exa Z Z.heap w_PluginOutcome_ERROR "com/example/tender/tender/plugin/api/PluginOutcome") (F_ordinal_w_PluginOutcome_ERROR : Fld Z Z.heap w_PluginOutcome_ERROR "java/lang/Enum" "ordinal" "I" (.int 1)) (S_w_PluginOutcome_PENDING : Sta Z Z.heap "com/example/tender/tender/plugin/api/PluginOutcome" "PENDING" "Lcom/example/tender/tender/plugin/api/PluginOutcome;" (.ref w_PluginOutcome_PENDING)) (E_w_PluginOutcome_PENDING : Exa Z Z.heap w_PluginOutcome_PENDING "com/example/tender/tender/plugin/api/PluginOutcome") (F_ordinal_w_PluginOutcome_PENDING : Fld Z Z.heap w_PluginOutcome_PENDING "java/lang/Enum" "ordinal" "I" (.int 2)) (S_w_PluginOutcome_CANCELED : Sta Z Z.heap "com/example/tender/tender/plugin/api/PluginOutcome" "CANCELED" "Lcom/example/tender/tender/plugin/api/PluginOutcome;" (.ref w_PluginOutcome_CANCELED)) (E_w_PluginOutcome_CANCELED : Exa Z Z.heap w_PluginOutcome_CANCELED "com/example/tender/tender/plugin/api/PluginOutcome") (F_ordinal_w_PluginOutcome_CANCELED : Fld Z Z.heap w_PluginOutcome_CANCELED "java/lang/Enum" "ordinal" "I" (.int 3)) (S_w_PluginOutcome_UNDEFINED : Sta Z Z.heap "com/example/tender/tender/plugin/api/PluginOutcome" "UNDEFINED" "Lcom/example/tender/tender/plugin/api/PluginOutcome;" (.ref w_PluginOutcome_UNDEFINED)) (E_w_PluginOutcome_UNDEFINED : Exa Z Z.heap w_PluginOutcome_UNDEFINED "com/example/tender/tender/plugin/api/PluginOutcome") (F_ordinal_w_PluginOutcome_UNDEFINED : Fld Z Z.heap w_PluginOutcome_UNDEFINED "java/lang/Enum" "ordinal" "I" (.int 4)) (S_w_TransactionStatus_SUCCESS : Sta Z Z.heap "com/example/tender/tender/payment/TransactionStatus" "SUCCESS" "Lcom/example/tender/tender/payment/TransactionStatus;" (.ref w_TransactionStatus_SUCCESS)) (E_w_TransactionStatus_SUCCESS : Exa Z Z.heap w_TransactionStatus_SUCCESS "com/example/tender/tender/payment/TransactionStatus") (F_stateSuffix_w_TransactionStatus_SUCCESS : Fld Z Z.heap w_TransactionStatus_SUCCESS "com/example/tender/tender/payment/TransactionStatus" "stateSuffix" "Ljava/lang/String;" (.ref w_TransactionStatus_SUCCESS_stateSuffix)) (F_inDoubt_w_TransactionStatus_SUCCESS : Fld Z Z.heap w_TransactionStatus_SUCCESS "com/example/tender/tender/payment/TransactionStatus" "inDoubt" "Z" (.int 0)) (S_w_TransactionStatus_PAYMENT_FAILURE : Sta Z Z.heap "com/example/tender/tender/payment/TransactionStatus" "PAYMENT_FAILURE" "Lcom/example/tender/tender/payment/TransactionStatus;" (.ref w_TransactionStatus_PAYMENT_FAILURE)) (E_w_TransactionStatus_PAYMENT_FAILURE : Exa Z Z.heap w_TransactionStatus_PAYMENT_FAILURE "com/example/tender/tender/payment/TransactionStatus") (F_stateSuffix_w_TransactionStatus_PAYMENT_FAILURE : Fld Z Z.heap w_TransactionStatus_PAYMENT_FAILURE "com/example/tender/tender/payment/TransactionStatus" "stateSuffix" "Ljava/lang/String;" (.ref w_TransactionStatus_PAYMENT_FAILURE_stateSuffix)) (F_inDoubt_w_TransactionStatus_PAYMENT_FAILURE : Fld Z Z.heap w_TransactionStatus_PAYMENT_FAILURE "com/example/tender/tender/payment/TransactionStatus" "inDoubt" "Z" (.int 0)) (S_w_TransactionStatus_PENDING : Sta Z Z.heap "com/example/tender/tender/payment/TransactionStatus" "PENDING" "Lcom/example/tender/tender/payment/TransactionStatus;" (.ref w_TransactionStatus_PENDING)) (E_w_TransactionStatus_PENDING : Exa Z Z.heap w_TransactionStatus_PENDING "com/example/tender/tender/payment/TransactionStatus") (F_stateSuffix_w_TransactionStatus_PENDING : Fld Z Z.heap w_TransactionStatus_PENDING "com/example/tender/tender/payment/TransactionStatus" "stateSuffix" "Ljava/lang/String;" (.ref w_TransactionStatus_PENDING_stateSuffix)) (F_inDoubt_w_TransactionStatus_PENDING : Fld Z Z.heap w_TransactionStatus_PENDING "com/example/tender/tender/payment/TransactionStatus" "inDoubt" "Z" (.int 1)) (S_w_TransactionStatus_PLUGIN_FAILURE : Sta Z Z.heap "com/example/tender/tender/payment/TransactionStatus" "PLUGIN_FAILURE" "Lcom/example/tender/tender/payment/TransactionStatus;" (.ref w_TransactionStatus_PLUGIN_FAILURE)) (E_w_TransactionStatus_PLUGIN_FAILURE : Exa Z Z.heap w_TransactionStatus_PLUGIN_FAILURE "com/example/tender/tender/payment/TransactionStatus") (F_stateSuffix_w_TransactionStatus_PLUGIN_FAILURE : Fld Z Z.heap w_TransactionStatus_PLUGIN_FAILURE "com/example/tender/tender/payment/TransactionStatus" "stateSuffix" "Ljava/lang/String;" (.ref w_TransactionStatus_PLUGIN_FAILURE_stateSuffix)) (F_inDoubt_w_TransactionStatus_PLUGIN_FAILURE : Fld Z Z.heap w_TransactionStatus_PLUGIN_FAILURE "com/example/tender/tender/payment/TransactionStatus" "inDoubt" "Z" (.int 0)) (S_w_TransactionStatus_UNKNOWN : Sta Z Z.heap "com/example/tender/tender/payment/TransactionStatus" "UNKNOWN" "Lcom/example/tender/tender/payment/TransactionStatus;" (.ref w_TransactionStatus_UNKNOWN)) (E_w_TransactionStatus_UNKNOWN : Exa Z Z.heap w_TransactionStatus_UNKNOWN "com/example/tender/tender/payment/TransactionStatus") (F_stateSuffix_w_TransactionStatus_UNKNOWN : Fld Z Z.heap w_TransactionStatus_UNKNOWN "com/example/tender/tender/payment/TransactionStatus" "stateSuffix" "Ljava/lang/String;" (.ref w_TransactionStatus_PLUGIN_FAILURE_stateSuffix)) (F_inDoubt_w_TransactionStatus_UNKNOWN : Fld Z Z.heap w_TransactionStatus_UNKNOWN "com/example/tender/tender/payment/TransactionStatus" "inDoubt" "Z" (.int 1)) (E_w_TransactionStatus_SUCCESS_stateSuffix : Exa Z Z.heap w_TransactionStatus_SUCCESS_stateSuffix "java/lang/String") (F_coder_w_TransactionStatus_SUCCESS_stateSuffix : Fld Z Z.heap w_TransactionStatus_SUCCESS_stateSuffix "java/lang/String" "coder" "B" (.int 0)) (F_value_w_TransactionStatus_SUCCESS_stateSuffix : Fld Z Z.heap w_TransactionStatus_SUCCESS_stateSuffix "java/lang/String" "value" "[B" (.ref w_TransactionStatus_SUCCESS_stateSuffix_value)) (V_w_TransactionStatus_SUCCESS_stateSuffix_value : Arv Z Z.heap w_TransactionStatus_SUCCESS_stateSuffix_value k_w_TransactionStatus_SUCCESS_stateSuffix_value .byte 7 [(.int (83 : Int32)), (.int (85 : Int32)), (.int (67 : Int32)), (.int (67 : Int32)), (.int (69 : Int32)), (.int (83 : Int32)), (.int (83 : Int32))] (.int 0)) (E_w_TransactionStatus_PAYMENT_FAILURE_stateSuffix : Exa Z Z.heap w_TransactionStatus_PAYMENT_FAILURE_stateSuffix "java/lang/String") (F_coder_w_TransactionStatus_PAYMENT_FAILURE_stateSuffix : Fld Z Z.heap w_TransactionStatus_PAYMENT_FAILURE_stateSuffix "java/lang/String" "coder" "B" (.int 0)) (F_value_w_TransactionStatus_PAYMENT_FAILURE_stateSuffix : Fld Z Z.heap w_TransactionStatus_PAYMENT_FAILURE_stateSuffix "java/lang/String" "value" "[B" (.ref w_TransactionStatus_PAYMENT_FAILURE_stateSuffix_value)) (V_w_TransactionStatus_PAYMENT_FAILURE_stateSuffix_value : Arv Z Z.heap w_TransactionStatus_PAYMENT_FAILURE_stateSuffix_value k_w_TransactionStatus_PAYMENT_FAILURE_stateSuffix_value .byte 6 [(.int (70 : Int32)), (.int (65 : Int32)), (.int (73 : Int32)), (.int (76 : Int32)), (.int (69 : Int32)), (.int (68 : Int32))] (.int 0)) (E_w_TransactionStatus_PENDING_stateSuffix : Exa Z Z.heap w_TransactionStatus_PENDING_stateSuffix "java/lang/String") (F_coder_w_TransactionStatus_PENDING_stateSuffix : Fld Z Z.heap w_TransactionStatus_PENDING_stateSuffix "java/lang/String" "coder" "B" (.int 0)) (F_value_w_TransactionStatus_PENDING_stateSuffix : Fld Z Z.heap w_TransactionStatus_PENDING_stateSuffix "java/lang/String" "value" "[B" (.ref w_TransactionStatus_PENDING_stateSuffix_value)) (V_w_TransactionStatus_PENDING_stateSuffix_value : Arv Z Z.heap w_TransactionStatus_PENDING_stateSuffix_value k_w_TransactionStatus_PENDING_stateSuffix_value .byte 7 [(.int (80 : Int32)), (.int (69 : Int32)), (.int (78 : Int32)), (.int (68 : Int32)), (.int (73 : Int32)), (.int (78 : Int32)), (.int (71 : Int32))] (.int 0)) (E_w_TransactionStatus_PLUGIN_FAILURE_stateSuffix : Exa Z Z.heap w_TransactionStatus_PLUGIN_FAILURE_stateSuffix "java/lang/String") (F_coder_w_TransactionStatus_PLUGIN_FAILURE_stateSuffix : Fld Z Z.heap w_TransactionStatus_PLUGIN_FAILURE_stateSuffix "java/lang/String" "coder" "B" (.int 0)) (F_value_w_TransactionStatus_PLUGIN_FAILURE_stateSuffix : Fld Z Z.heap w_TransactionStatus_PLUGIN_FAILURE_stateSuffix "java/lang/String" "value" "[B" (.ref w_TransactionStatus_PLUGIN_FAILURE_stateSuffix_value)) (V_w_TransactionStatus_PLUGIN_FAILURE_stateSuffix_value : Arv Z Z.heap w_TransactionStatus_PLUGIN_FAILURE_stateSuffix_value k_w_TransactionStatus_PLUGIN_FAILURE_stateSuffix_value .byte 7 [(.int (69 : Int32)), (.int (82 : Int32)), (.int (82 : Int32)), (.int (79 : Int32)), (.int (82 : Int32)), (.int (69 : Int32)), (.int (68 : Int32))] (.int 0)) (S_w_TransactionStatus_1__SwitchMap_com_example_tender_tender_plugin_api_PluginOutcome : Sta Z Z.heap "com/example/tender/tender/payment/TransactionStatus$1" "$SwitchMap$com$example$tender$tender$plugin$api$PluginOutcome" "[I" (.ref w_TransactionStatus_1__SwitchMap_com_example_tender_tender_plugin_api_PluginOutcome)) (V_w_TransactionStatus_1__SwitchMap_com_example_tender_tender_plugin_api_PluginOutcome : Arv Z Z.heap w_TransactionStatus_1__SwitchMap_com_example_tender_tender_plugin_api_PluginOutcome k_w_TransactionStatus_1__SwitchMap_com_example_tender_tender_plugin_api_PluginOutcome .int 5 [(.int (1 : Int32)), (.int (2 : Int32)), (.int (3 : Int32)), (.int (4 : Int32)), (.int (5 : Int32))] (.int 0)) (S_COMPACT : Sta Z Z.heap "java/lang/String" "COMPACT_STRINGS" "Z" (.int cz)) (hcz : ¬ cz = 0) :
    MetFree l x (head1 (Jvm.Cond.code x code maxLocals ret :: ws) room_1) (fun a U => a = #[(.int p1)] ∧ Z.Warmed39 U.vm ∧ U.heap = h0 ∧ CHv Z consts_1 U.vm h0) (fun _ _ _ _ _ => True) (fun _ U o U' => ∃ v L, o = .returned v ∧ Q_rm0 Z p1 w_PluginOutcome_PROCESSED w_PluginOutcome_ERROR w_PluginOutcome_PENDING w_PluginOutcome_CANCELED w_PluginOutcome_UNDEFINED w_TransactionStatus_SUCCESS w_TransactionStatus_PAYMENT_FAILURE w_TransactionStatus_PENDING w_TransactionStatus_PLUGIN_FAILURE w_TransactionStatus_UNKNOWN w_TransactionStatus_SUCCESS_stateSuffix w_TransactionStatus_PAYMENT_FAILURE_stateSuffix w_TransactionStatus_PENDING_stateSuffix w_TransactionStatus_PLUGIN_FAILURE_stateSuffix w_TransactionStatus_SUCCESS_stateSuffix_value w_TransactionStatus_PAYMENT_FAILURE_stateSuffix_value w_TransactionStatus_PENDING_stateSuffix_value w_TransactionStatus_PLUGIN_FAILURE_stateSuffix_value w_TransactionStatus_1__SwitchMap_com_example_tender_tender_plugin_api_PluginOutcome k_w_TransactionStatus_SUCCESS_stateSuffix_value k_w_TransactionStatus_PAYMENT_FAILURE_stateSuffix_value k_w_TransactionStatus_PENDING_stateSuffix_value k_w_TransactionStatus_PLUGIN_FAILURE_stateSuffix_value k_w_TransactionStatus_1__SwitchMap_com_example_tender_tender_plugin_api_PluginOutcome cz h0 n0 v U'.heap L ∧ CHr Z consts_1 U.vm U.heap U'.vm U'.heap ∧ ReturnedEndW U o U' L room_1.cells room_1.slots) := by
  refine MetFree.of_bodySF (plainFor_of_name pn_rm0) hisR ?_
  intro p e s m args below meth c s₁ Bd hml0 hP hK
  obtain ⟨rfl, hZ, hh, H0⟩ := hP
  have hx := Bd.exec
  have hby := Bd.bytes
  have hml : c.maxLocals = 6 := hml0
  have hown : s.vm.findClass "com/example/tender/tender/payment/TransactionStatusOfPinLaw" = some m.cls := findClass_of_methodNamed Bd.named
  have hnm := (name_of_methodNamed Bd.named Bd.method).1
  have X0 : Stand p l e room_1 (s.setVm s.vm) m #[(.int p1)] below meth c s₁ [] 0 0 := Stand.of_body Bd
  have e0 : s₁.heap = h0 := by rw [← hh, Bd.state]; rfl
  have N0 := Fr.nil n0
  have hS0 : s.Since s.vm 0 := (State.WarmedH.refl s).since 0
  have hk0 : 0 ≤ h0.size := Nat.zero_le _
  have HC0 : CHr Z consts_1 s.vm h0 s.vm h0 := CHr.refl H0
  have hh0 : s.heap = h0 := hh
  refine GlW.start (Q := Q_rm0 Z p1 w_PluginOutcome_PROCESSED w_PluginOutcome_ERROR w_PluginOutcome_PENDING w_PluginOutcome_CANCELED w_PluginOutcome_UNDEFINED w_TransactionStatus_SUCCESS w_TransactionStatus_PAYMENT_FAILURE w_TransactionStatus_PENDING w_TransactionStatus_PLUGIN_FAILURE w_TransactionStatus_UNKNOWN w_TransactionStatus_SUCCESS_stateSuffix w_TransactionStatus_PAYMENT_FAILURE_stateSuffix w_TransactionStatus_PENDING_stateSuffix w_TransactionStatus_PLUGIN_FAILURE_stateSuffix w_TransactionStatus_SUCCESS_stateSuffix_value w_TransactionStatus_PAYMENT_FAILURE_stateSuffix_value w_TransactionStatus_PENDING_stateSuffix_value w_TransactionStatus_PLUGIN_FAILURE_stateSuffix_value w_TransactionStatus_1__SwitchMap_com_example_tender_tender_plugin_api_PluginOutcome k_w_TransactionStatus_SUCCESS_stateSuffix_value k_w_TransactionStatus_PAYMENT_FAILURE_stateSuffix_value k_w_TransactionStatus_PENDING_stateSuffix_value k_w_TransactionStatus_PLUGIN_FAILURE_stateSuffix_value k_w_TransactionStatus_1__SwitchMap_com_example_tender_tender_plugin_api_PluginOutcome cz h0 n0) (ef_rm0 m p1) ?_
  have hEL := own_EW hw
  have hwS : ∀ a ∈ Bundle.stringAtoms, a.before a0 Z = true := fun d hd => hw d ((by decide +kernel : ∀ d ∈ Bundle.stringAtoms, d ∈ tables_1) d hd)
  show GlW Z consts_1 p e below s _ _ _ s₁ (mkF m 0 #[.val (.int p1), .unset, .unset, .unset, .unset, .unset] [])
  refine GlW.st (fun _ kk => XS.iloadN X0.here hx rfl (hb hby at_0) rfl kk) ?_
  show GlW Z consts_1 p e below s _ _ _ s₁ (mkF m 1 #[.val (.int p1), .unset, .unset, .unset, .unset, .unset] [(.int p1)])
  refine GlW.st (fun _ kk => X0.ldcInt hx hown (mvT hZ (hw _ (List.mem_of_getElem? (i := 0) rfl))) (g := (mkF m 1 #[.val (.int p1), .unset, .unset, .unset, .unset, .unset] [(.int p1)])) rfl (hb hby at_1) _ kk) ?_
  show GlW Z consts_1 p e below s _ _ _ s₁ (mkF m 3 #[.val (.int p1), .unset, .unset, .unset, .unset, .unset] [(.int (2147483647 : Int32)), (.int p1)])
  refine GlW.st (fun _ kk => XS.iand X0.here hx rfl (hb hby at_3) rfl kk) ?_
  show GlW Z consts_1 p e below s _ _ _ s₁ (mkF m 4 #[.val (.int p1), .unset, .unset, .unset, .unset, .unset] [(.int (p1 &&& (2147483647 : Int32)))])
  refine GlW.st (fun _ kk => XS.iconst X0.here hx rfl (hb hby at_4) kk) ?_
  show GlW Z consts_1 p e below s _ _ _ s₁ (mkF m 5 #[.val (.int p1), .unset, .unset, .unset, .unset, .unset] [(.int (5 : Int32)), (.int (p1 &&& (2147483647 : Int32)))])
  refine GlW.st (fun _ kk => iremM (g := (mkF m 5 #[.val (.int p1), .unset, .unset, .unset, .unset, .unset] [(.int (5 : Int32)), (.int (p1 &&& (2147483647 : Int32)))])) X0 hx rfl (hb hby at_5) rfl (by decide) kk) ?_
  show GlW Z consts_1 p e below s _ _ _ s₁ (mkF m 6 #[.val (.int p1), .unset, .unset, .unset, .unset, .unset] [(.int ((p1 &&& (2147483647 : Int32)) % (5 : Int32)))])
  refine GlW.st (fun _ kk => XS.istoreN X0.here hx rfl (hb hby at_6) rfl (l' := #[.val (.int p1), .val (.int ((p1 &&& (2147483647 : Int32)) % (5 : Int32))), .unset, .unset, .unset, .unset]) rfl kk) ?_
  show GlW Z consts_1 p e below s _ _ _ s₁ (mkF m 7 #[.val (.int p1), .val (.int ((p1 &&& (2147483647 : Int32)) % (5 : Int32))), .unset, .unset, .unset, .unset] [])
  rcases own_mod5 p1 with hk | hk | hk | hk | hk
  · rw [hk]
    show GlW Z consts_1 p e below s _ _ _ s₁ (mkF m 7 #[.val (.int p1), .val (.int (0 : Int32)), .unset, .unset, .unset, .unset] [])
    refine GlW.st (fun _ kk => XS.iloadN X0.here hx rfl (hb hby at_7) rfl kk) ?_
    show GlW Z consts_1 p e below s _ _ _ s₁ (mkF m 8 #[.val (.int p1), .val (.int (0 : Int32)), .unset, .unset, .unset, .unset] [(.int (0 : Int32))])
    refine GlW.st (fun _ kk => XS.ifNo X0.here hx rfl (hb hby at_8) rfl ((if0 _ _).trans (teq (by decide : (0 : Int32) = (0 : Int32))).2) kk) ?_
    show GlW Z consts_1 p e below s _ _ _ s₁ (mkF m 11 #[.val (.int p1), .val (.int (0 : Int32)), .unset, .unset, .unset, .unset] [])
    obtain ⟨T1, X1, e1, st1⟩ := getS2 X0 hx hZ hown (host := "") (Or.inl (hw _ (List.mem_of_getElem? (i := 1) rfl))) Via.refl e0 (S_w_PluginOutcome_PROCESSED.ext O0.2) (g := (mkF m 11 #[.val (.int p1), .val (.int (0 : Int32)), .unset, .unset, .unset, .unset] [])) rfl (hb hby at_11)
    refine GlW.st st1 ?_
    show GlW Z consts_1 p e below s _ _ _ T1 (mkF m 14 #[.val (.int p1), .val (.int (0 : Int32)), .unset, .unset, .unset, .unset] [(.ref w_PluginOutcome_PROCESSED)])
    refine GlW.st (fun _ kk => XS.astoreN X1.here hx rfl (hb hby at_14) rfl rfl (l' := #[.val (.int p1), .val (.int (0 : Int32)), .val (.ref w_PluginOutcome_PROCESSED), .unset, .unset, .unset]) rfl kk) ?_
    show GlW Z consts_1 p e below s _ _ _ T1 (mkF m 15 #[.val (.int p1), .val (.int (0 : Int32)), .val (.ref w_PluginOutcome_PROCESSED), .unset, .unset, .unset] [])
    obtain ⟨a2, T2, h2, k2, b2, kc2, X2, e2, E2, hS2, hk2, hZ2, hown2, Exa_a2, F_coder_a2, F_value_a2, Arv_b2, lta2, ltb2, HR2, Li2, sf2, st2⟩ := ldcCH X1 hx hZ hown (hw _ (List.mem_of_getElem? (i := 4) rfl)) hwS e1 hS0 hk0 hEL (List.mem_of_getElem? (i := 0) rfl) HC0.1 (vs := [(.int (83 : Int32)), (.int (85 : Int32)), (.int (67 : Int32)), (.int (67 : Int32)), (.int (69 : Int32)), (.int (83 : Int32)), (.int (83 : Int32))]) (z := 7) ⟨by decide +kernel, by decide +kernel⟩ (by decide) rfl (g := (mkF m 15 #[.val (.int p1), .val (.int (0 : Int32)), .val (.ref w_PluginOutcome_PROCESSED), .unset, .unset, .unset] [])) rfl (hb hby at_15) (n := 28) (by decide) (by decide) (by decide) (by decide)
    refine GlW.st st2 ?_
    have O2 := O0.ext E2
    have K2 := (Keep.refl h0 []).ext E2
    have HC2 := HC0.trans HR2
    have hZ := hZ2
    have hown := hown2
    show GlW Z consts_1 p e below s _ _ _ T2 (mkF m 17 #[.val (.int p1), .val (.int (0 : Int32)), .val (.ref w_PluginOutcome_PROCESSED), .unset, .unset, .unset] [(.ref a2)])
    refine GlW.st (fun _ kk => XS.astoreN X2.here hx rfl (hb hby at_17) rfl rfl (l' := #[.val (.int p1), .val (.int (0 : Int32)), .val (.ref w_PluginOutcome_PROCESSED), .val (.ref a2), .unset, .unset]) rfl kk) ?_
    show GlW Z consts_1 p e below s _ _ _ T2 (mkF m 18 #[.val (.int p1), .val (.int (0 : Int32)), .val (.ref w_PluginOutcome_PROCESSED), .val (.ref a2), .unset, .unset] [])
    refine GlW.st (fun _ kk => XS.iconst X2.here hx rfl (hb hby at_18) kk) ?_
    show GlW Z consts_1 p e below s _ _ _ T2 (mkF m 19 #[.val (.int p1), .val (.int (0 : Int32)), .val (.ref w_PluginOutcome_PROCESSED), .val (.ref a2), .unset, .unset] [(.int (0 : Int32))])
    refine GlW.st (fun _ kk => XS.istore X2.here hx rfl (hb hby at_19) rfl (l' := #[.val (.int p1), .val (.int (0 : Int32)), .val (.ref w_PluginOutcome_PROCESSED), .val (.ref a2), .val (.int (0 : Int32)), .unset]) rfl kk) ?_
    show GlW Z consts_1 p e below s _ _ _ T2 (mkF m 21 #[.val (.int p1), .val (.int (0 : Int32)), .val (.ref w_PluginOutcome_PROCESSED), .val (.ref a2), .val (.int (0 : Int32)), .unset] [])
    refine GlW.st (fun _ kk => XS.goto X2.here hx rfl (pc0 := 21) (pc' := 88) rfl (hb hby at_21) (by decide) (by decide) kk) ?_
    show GlW Z consts_1 p e below s _ _ _ T2 (mkF m 88 #[.val (.int p1), .val (.int (0 : Int32)), .val (.ref w_PluginOutcome_PROCESSED), .val (.ref a2), .val (.int (0 : Int32)), .unset] [])
    refine GlW.st (fun _ kk => XS.aloadN X2.here hx rfl (hb hby at_88) rfl rfl kk) ?_
    show GlW Z consts_1 p e below s _ _ _ T2 (mkF m 89 #[.val (.int p1), .val (.int (0 : Int32)), .val (.ref w_PluginOutcome_PROCESSED), .val (.ref a2), .val (.int (0 : Int32)), .unset] [(.ref w_PluginOutcome_PROCESSED)])
    obtain ⟨v3, _, ⟨T3, L3, k3, n3⟩, -, X3, ⟨Lc3, hQ3, l3, y3, z3⟩, st3⟩ := Jvm.LawKit.callS X2 hx (y := (⟨"com/example/tender/tender/payment/TransactionStatus", "of", "(Lcom/example/tender/tender/plugin/api/PluginOutcome;)Lcom/example/tender/tender/payment/TransactionStatus;"⟩ : MethodName)) hown (mvT hZ (hw _ (List.mem_of_getElem? (i := 12) rfl))) (mvT hZ (hw _ (List.mem_of_getElem? (i := 13) rfl))) (mvT hZ (hw _ (List.mem_of_getElem? (i := 14) rfl))) (mvT hZ (hw _ (List.mem_of_getElem? (i := 15) rfl))) (by decide) (backOf (W := 0) (rm1 l Z a0 hw [] w_PluginOutcome_PROCESSED w_TransactionStatus_SUCCESS w_TransactionStatus_PAYMENT_FAILURE w_TransactionStatus_PENDING w_TransactionStatus_PLUGIN_FAILURE w_TransactionStatus_UNKNOWN w_TransactionStatus_1__SwitchMap_com_example_tender_tender_plugin_api_PluginOutcome k_w_TransactionStatus_1__SwitchMap_com_example_tender_tender_plugin_api_PluginOutcome 0 w_TransactionStatus_SUCCESS h2 n0 O2 S_w_TransactionStatus_SUCCESS S_w_TransactionStatus_PAYMENT_FAILURE S_w_TransactionStatus_PENDING S_w_TransactionStatus_PLUGIN_FAILURE S_w_TransactionStatus_UNKNOWN S_w_TransactionStatus_1__SwitchMap_com_example_tender_tender_plugin_api_PluginOutcome V_w_TransactionStatus_1__SwitchMap_com_example_tender_tender_plugin_api_PluginOutcome E_w_PluginOutcome_PROCESSED F_ordinal_w_PluginOutcome_PROCESSED (Or.inl ⟨rfl, rfl⟩)) hZ (hw _ (List.mem_of_getElem? (i := 15) rfl)) (hw _ (List.mem_of_getElem? (i := 14) rfl)) (by decide) (by decide)) (g := (mkF m 89 #[.val (.int p1), .val (.int (0 : Int32)), .val (.ref w_PluginOutcome_PROCESSED), .val (.ref a2), .val (.int (0 : Int32)), .unset] [(.ref w_PluginOutcome_PROCESSED)])) rfl (by rw [hml]; rfl) (argsL := [(.ref w_PluginOutcome_PROCESSED)]) (rest := []) (lenOf pd_rm0_0 rfl) rfl (by show 2 * 0 + _ ≤ _; exact Nat.le_of_eq rfl) (hb hby at_89) (fun _ _ => ⟨rfl, e2, (by decide : 2 + 0 ≤ _), (by decide : 32 + 0 ≤ _)⟩)
    dsimp only [Pt.U, Pt.locs, Pt.cells, Pt.slots] at X3 l3 y3 z3 st3 hQ3
    subst l3 y3 z3
    obtain ⟨rfl, Nq3, e3⟩ := hQ3
    have N3 := Fr.app N0 Nq3
    refine GlW.st st3 ?_
    show GlW Z consts_1 p e below s _ _ _ T3 (mkF m 92 #[.val (.int p1), .val (.int (0 : Int32)), .val (.ref w_PluginOutcome_PROCESSED), .val (.ref a2), .val (.int (0 : Int32)), .unset] [(.ref w_TransactionStatus_SUCCESS)])
    refine GlW.st (fun _ kk => XS.astore X3.here hx rfl (hb hby at_92) rfl rfl (l' := #[.val (.int p1), .val (.int (0 : Int32)), .val (.ref w_PluginOutcome_PROCESSED), .val (.ref a2), .val (.int (0 : Int32)), .val (.ref w_TransactionStatus_SUCCESS)]) rfl kk) ?_
    show GlW Z consts_1 p e below s _ _ _ T3 (mkF m 94 #[.val (.int p1), .val (.int (0 : Int32)), .val (.ref w_PluginOutcome_PROCESSED), .val (.ref a2), .val (.int (0 : Int32)), .val (.ref w_TransactionStatus_SUCCESS)] [])
    refine GlW.st (fun _ kk => XS.aload X3.here hx rfl (hb hby at_94) rfl rfl kk) ?_
    show GlW Z consts_1 p e below s _ _ _ T3 (mkF m 96 #[.val (.int p1), .val (.int (0 : Int32)), .val (.ref w_PluginOutcome_PROCESSED), .val (.ref a2), .val (.int (0 : Int32)), .val (.ref w_TransactionStatus_SUCCESS)] [(.ref w_TransactionStatus_SUCCESS)])
    refine GlW.st (fun _ kk => XS.ifnonnullYes X3.here hx rfl (pc0 := 96) (pc' := 101) rfl (hb hby at_96) rfl (by decide) (by decide) kk) ?_
    show GlW Z consts_1 p e below s _ _ _ T3 (mkF m 101 #[.val (.int p1), .val (.int (0 : Int32)), .val (.ref w_PluginOutcome_PROCESSED), .val (.ref a2), .val (.int (0 : Int32)), .val (.ref w_TransactionStatus_SUCCESS)] [])
    refine GlW.st (fun _ kk => XS.aload X3.here hx rfl (hb hby at_101) rfl rfl kk) ?_
    show GlW Z consts_1 p e below s _ _ _ T3 (mkF m 103 #[.val (.int p1), .val (.int (0 : Int32)), .val (.ref w_PluginOutcome_PROCESSED), .val (.ref a2), .val (.int (0 : Int32)), .val (.ref w_TransactionStatus_SUCCESS)] [(.ref w_TransactionStatus_SUCCESS)])
    obtain ⟨cq4, kq4, qa4, qb4, qc4⟩ := isOf hZ e3 (E_w_TransactionStatus_SUCCESS.ext O2.2)
    obtain ⟨v4, _, ⟨T4, L4, k4, n4⟩, -, X4, ⟨Lc4, hQ4, l4, y4, z4⟩, st4⟩ := X3.virtualBack hx (y := (⟨"com/example/tender/tender/payment/TransactionStatus", "stateSuffix", "()Ljava/lang/String;"⟩ : MethodName)) (z := (⟨"com/example/tender/tender/payment/TransactionStatus", "stateSuffix", "()Ljava/lang/String;"⟩ : MethodName)) hown (mvT hZ (hw _ (List.mem_of_getElem? (i := 30) rfl))) (mvT hZ (hw _ (List.mem_of_getElem? (i := 31) rfl))) (notFace_of_selects (args := #[]) (mvT hZ (hw _ (List.mem_of_getElem? (i := 33) rfl)))) (mvT hZ (hw _ (List.mem_of_getElem? (i := 33) rfl))) (mvT hZ (hw _ (List.mem_of_getElem? (i := 32) rfl))) (by decide) (backOf (W := 0) (rm3 l Z a0 hw [] w_TransactionStatus_SUCCESS w_TransactionStatus_SUCCESS_stateSuffix h2 n0 O2 F_stateSuffix_w_TransactionStatus_SUCCESS) hZ (hw _ (List.mem_of_getElem? (i := 34) rfl)) (hw _ (List.mem_of_getElem? (i := 14) rfl)) (by decide) (by decide)) qa4 qc4 (g := (mkF m 103 #[.val (.int p1), .val (.int (0 : Int32)), .val (.ref w_PluginOutcome_PROCESSED), .val (.ref a2), .val (.int (0 : Int32)), .val (.ref w_TransactionStatus_SUCCESS)] [(.ref w_TransactionStatus_SUCCESS)])) rfl (by rw [hml]; rfl) (Steps.refl _) (argsL := []) (rest := []) (lenOf pd_rm0_1 rfl) rfl (by show 2 * 0 + _ ≤ _; exact Nat.le_of_eq rfl) (hb hby at_103) (fun _ _ => ⟨rfl, e3, (by decide : 2 + 0 ≤ _), (by decide : 32 + 0 ≤ _)⟩)
    dsimp only [Pt.U, Pt.locs, Pt.cells, Pt.slots] at X4 l4 y4 z4 st4 hQ4
    subst l4 y4 z4
    obtain ⟨rfl, Nq4, e4⟩ := hQ4
    have N4 := Fr.app N3 Nq4
    refine GlW.st (fun _ kk => st4.trans kk) ?_
    show GlW Z consts_1 p e below s _ _ _ T4 (mkF m 106 #[.val (.int p1), .val (.int (0 : Int32)), .val (.ref w_PluginOutcome_PROCESSED), .val (.ref a2), .val (.int (0 : Int32)), .val (.ref w_TransactionStatus_SUCCESS)] [(.ref w_TransactionStatus_SUCCESS_stateSuffix)])
    refine GlW.st (fun _ kk => XS.aloadN X4.here hx rfl (hb hby at_106) rfl rfl kk) ?_
    show GlW Z consts_1 p e below s _ _ _ T4 (mkF m 107 #[.val (.int p1), .val (.int (0 : Int32)), .val (.ref w_PluginOutcome_PROCESSED), .val (.ref a2), .val (.int (0 : Int32)), .val (.ref w_TransactionStatus_SUCCESS)] [(.ref a2), (.ref w_TransactionStatus_SUCCESS_stateSuffix)])
    obtain ⟨cq6, kq6, qa6, qb6, qc6⟩ := isOf hZ e4 (E_w_TransactionStatus_SUCCESS_stateSuffix.ext O2.2)
    obtain ⟨v6, _, ⟨T6, L6, k6, n6⟩, -, X6, ⟨Lc6, hQ6, l6, y6, z6⟩, st6⟩ := X4.virtualBack hx (y := (⟨"java/lang/String", "equals", "(Ljava/lang/Object;)Z"⟩ : MethodName)) (z := (⟨"java/lang/String", "equals", "(Ljava/lang/Object;)Z"⟩ : MethodName)) hown (mvT hZ (hw _ (List.mem_of_getElem? (i := 37) rfl))) (mvT hZ (hw _ (List.mem_of_getElem? (i := 38) rfl))) (notFace_of_selects (args := #[]) (mvT hZ (hw _ (List.mem_of_getElem? (i := 40) rfl)))) (mvT hZ (hw _ (List.mem_of_getElem? (i := 40) rfl))) (mvT hZ (hw _ (List.mem_of_getElem? (i := 39) rfl))) (by decide) (backOf (W := 0) (rmSE l Z a0 hw [] w_TransactionStatus_SUCCESS_stateSuffix a2 w_TransactionStatus_SUCCESS_stateSuffix_value b2 k_w_TransactionStatus_SUCCESS_stateSuffix_value kc2 [(83 : Int32), (85 : Int32), (67 : Int32), (67 : Int32), (69 : Int32), (83 : Int32), (83 : Int32)] [(83 : Int32), (85 : Int32), (67 : Int32), (67 : Int32), (69 : Int32), (83 : Int32), (83 : Int32)] cz 1 h2 n0 O2 (E_w_TransactionStatus_SUCCESS_stateSuffix.ext O2.2) (F_value_w_TransactionStatus_SUCCESS_stateSuffix.ext O2.2) (F_coder_w_TransactionStatus_SUCCESS_stateSuffix.ext O2.2) (V_w_TransactionStatus_SUCCESS_stateSuffix_value.ext O2.2) (by decide) Exa_a2 F_value_a2 F_coder_a2 Arv_b2 (by decide) S_COMPACT hcz (by decide)) hZ (hw _ (List.mem_of_getElem? (i := 41) rfl)) (hw _ (List.mem_of_getElem? (i := 5) rfl)) (by decide) (by decide)) qa6 qc6 (g := (mkF m 107 #[.val (.int p1), .val (.int (0 : Int32)), .val (.ref w_PluginOutcome_PROCESSED), .val (.ref a2), .val (.int (0 : Int32)), .val (.ref w_TransactionStatus_SUCCESS)] [(.ref a2), (.ref w_TransactionStatus_SUCCESS_stateSuffix)])) rfl (by rw [hml]; rfl) (Steps.refl _) (argsL := [(.ref a2)]) (rest := []) (lenOf pd_rm0_2 rfl) rfl (by show 2 * 0 + _ ≤ _; exact Nat.le_of_eq rfl) (hb hby at_107) (fun _ _ => ⟨rfl, e4, (by decide : 2 + 0 ≤ _), (by decide : 32 + 0 ≤ _)⟩)
    dsimp only [Pt.U, Pt.locs, Pt.cells, Pt.slots] at X6 l6 y6 z6 st6 hQ6
    subst l6 y6 z6
    obtain ⟨rfl, Nq6, e6⟩ := hQ6
    have N6 := Fr.app N4 Nq6
    refine GlW.st (fun _ kk => st6.trans kk) ?_
    show GlW Z consts_1 p e below s _ _ _ T6 (mkF m 110 #[.val (.int p1), .val (.int (0 : Int32)), .val (.ref w_PluginOutcome_PROCESSED), .val (.ref a2), .val (.int (0 : Int32)), .val (.ref w_TransactionStatus_SUCCESS)] [(.int (1 : Int32))])
    refine GlW.st (fun _ kk => XS.ifNo X6.here hx rfl (hb hby at_110) rfl ((if0 _ _).trans (feq (by decide : ¬ ((1 : Int32) = (0 : Int32)))).1) kk) ?_
    show GlW Z consts_1 p e below s _ _ _ T6 (mkF m 113 #[.val (.int p1), .val (.int (0 : Int32)), .val (.ref w_PluginOutcome_PROCESSED), .val (.ref a2), .val (.int (0 : Int32)), .val (.ref w_TransactionStatus_SUCCESS)] [])
    refine GlW.st (fun _ kk => XS.aload X6.here hx rfl (hb hby at_113) rfl rfl kk) ?_
    show GlW Z consts_1 p e below s _ _ _ T6 (mkF m 115 #[.val (.int p1), .val (.int (0 : Int32)), .val (.ref w_PluginOutcome_PROCESSED), .val (.ref a2), .val (.int (0 : Int32)), .val (.ref w_TransactionStatus_SUCCESS)] [(.ref w_TransactionStatus_SUCCESS)])
    obtain ⟨cq7, kq7, qa7, qb7, qc7⟩ := isOf hZ e6 (E_w_TransactionStatus_SUCCESS.ext O2.2)
    obtain ⟨v7, _, ⟨T7, L7, k7, n7⟩, -, X7, ⟨Lc7, hQ7, l7, y7, z7⟩, st7⟩ := X6.virtualBack hx (y := (⟨"com/example/tender/tender/payment/TransactionStatus", "isInDoubt", "()Z"⟩ : MethodName)) (z := (⟨"com/example/tender/tender/payment/TransactionStatus", "isInDoubt", "()Z"⟩ : MethodName)) hown (mvT hZ (hw _ (List.mem_of_getElem? (i := 51) rfl))) (mvT hZ (hw _ (List.mem_of_getElem? (i := 52) rfl))) (notFace_of_selects (args := #[]) (mvT hZ (hw _ (List.mem_of_getElem? (i := 54) rfl)))) (mvT hZ (hw _ (List.mem_of_getElem? (i := 54) rfl))) (mvT hZ (hw _ (List.mem_of_getElem? (i := 53) rfl))) (by decide) (backOf (W := 0) (rm6 l Z a0 hw [] w_TransactionStatus_SUCCESS 0 h2 n0 O2 F_inDoubt_w_TransactionStatus_SUCCESS (by decide)) hZ (hw _ (List.mem_of_getElem? (i := 55) rfl)) (hw _ (List.mem_of_getElem? (i := 14) rfl)) (by decide) (by decide)) qa7 qc7 (g := (mkF m 115 #[.val (.int p1), .val (.int (0 : Int32)), .val (.ref w_PluginOutcome_PROCESSED), .val (.ref a2), .val (.int (0 : Int32)), .val (.ref w_TransactionStatus_SUCCESS)] [(.ref w_TransactionStatus_SUCCESS)])) rfl (by rw [hml]; rfl) (Steps.refl _) (argsL := []) (rest := []) (lenOf pd_rm0_3 rfl) rfl (by show 2 * 0 + _ ≤ _; exact Nat.le_of_eq rfl) (hb hby at_115) (fun _ _ => ⟨rfl, e6, (by decide : 2 + 0 ≤ _), (by decide : 32 + 0 ≤ _)⟩)
    dsimp only [Pt.U, Pt.locs, Pt.cells, Pt.slots] at X7 l7 y7 z7 st7 hQ7
    subst l7 y7 z7
    obtain ⟨rfl, Nq7, e7⟩ := hQ7
    have N7 := Fr.app N6 Nq7
    refine GlW.st (fun _ kk => st7.trans kk) ?_
    show GlW Z consts_1 p e below s _ _ _ T7 (mkF m 118 #[.val (.int p1), .val (.int (0 : Int32)), .val (.ref w_PluginOutcome_PROCESSED), .val (.ref a2), .val (.int (0 : Int32)), .val (.ref w_TransactionStatus_SUCCESS)] [(.int (0 : Int32))])
    refine GlW.st (fun _ kk => XS.iload X7.here hx rfl (hb hby at_118) rfl kk) ?_
    show GlW Z consts_1 p e below s _ _ _ T7 (mkF m 120 #[.val (.int p1), .val (.int (0 : Int32)), .val (.ref w_PluginOutcome_PROCESSED), .val (.ref a2), .val (.int (0 : Int32)), .val (.ref w_TransactionStatus_SUCCESS)] [(.int (0 : Int32)), (.int (0 : Int32))])
    refine GlW.st (fun _ kk => XS.icmpNo X7.here hx rfl (hb hby at_120) rfl (teq (by decide : (0 : Int32) = (0 : Int32))).2 kk) ?_
    show GlW Z consts_1 p e below s _ _ _ T7 (mkF m 123 #[.val (.int p1), .val (.int (0 : Int32)), .val (.ref w_PluginOutcome_PROCESSED), .val (.ref a2), .val (.int (0 : Int32)), .val (.ref w_TransactionStatus_SUCCESS)] [])
    refine GlW.st (fun _ kk => XS.iconst X7.here hx rfl (hb hby at_123) kk) ?_
    show GlW Z consts_1 p e below s _ _ _ T7 (mkF m 124 #[.val (.int p1), .val (.int (0 : Int32)), .val (.ref w_PluginOutcome_PROCESSED), .val (.ref a2), .val (.int (0 : Int32)), .val (.ref w_TransactionStatus_SUCCESS)] [(.int (1 : Int32))])
    refine GlW.st (fun _ kk => XS.goto X7.here hx rfl (pc0 := 124) (pc' := 128) rfl (hb hby at_124) (by decide) (by decide) kk) ?_
    show GlW Z consts_1 p e below s _ _ _ T7 (mkF m 128 #[.val (.int p1), .val (.int (0 : Int32)), .val (.ref w_PluginOutcome_PROCESSED), .val (.ref a2), .val (.int (0 : Int32)), .val (.ref w_TransactionStatus_SUCCESS)] [(.int (1 : Int32))])
    exact GlW.ret X7 hS2 hk2 hZ hEL hh0 HC2 (v := (some (.int (1 : Int32)))) (fun h => by rw [Bd.returns] at h; cases h) (BodyLoose.notSynchronized Bd) (fun hr => retN X7 hx (t := .boolean) Bd.returns (by simp) (hb hby at_128) hr) e7 ⟨rfl, N7⟩ (by decide) (by decide)
  · rw [hk]
    show GlW Z consts_1 p e below s _ _ _ s₁ (mkF m 7 #[.val (.int p1), .val (.int (1 : Int32)), .unset, .unset, .unset, .unset] [])
    refine GlW.st (fun _ kk => XS.iloadN X0.here hx rfl (hb hby at_7) rfl kk) ?_
    show GlW Z consts_1 p e below s _ _ _ s₁ (mkF m 8 #[.val (.int p1), .val (.int (1 : Int32)), .unset, .unset, .unset, .unset] [(.int (1 : Int32))])
    refine GlW.st (fun _ kk => XS.ifYes X0.here hx rfl (pc0 := 8) (pc' := 24) rfl (hb hby at_8) rfl ((if0 _ _).trans (feq (by decide : ¬ ((1 : Int32) = (0 : Int32)))).2) (by decide) (by decide) kk) ?_
    show GlW Z consts_1 p e below s _ _ _ s₁ (mkF m 24 #[.val (.int p1), .val (.int (1 : Int32)), .unset, .unset, .unset, .unset] [])
    refine GlW.st (fun _ kk => XS.iloadN X0.here hx rfl (hb hby at_24) rfl kk) ?_
    show GlW Z consts_1 p e below s _ _ _ s₁ (mkF m 25 #[.val (.int p1), .val (.int (1 : Int32)), .unset, .unset, .unset, .unset] [(.int (1 : Int32))])
    refine GlW.st (fun _ kk => XS.iconst X0.here hx rfl (hb hby at_25) kk) ?_
    show GlW Z consts_1 p e below s _ _ _ s₁ (mkF m 26 #[.val (.int p1), .val (.int (1 : Int32)), .unset, .unset, .unset, .unset] [(.int (1 : Int32)), (.int (1 : Int32))])
    refine GlW.st (fun _ kk => XS.icmpNo X0.here hx rfl (hb hby at_26) rfl (teq (by decide : (1 : Int32) = (1 : Int32))).2 kk) ?_
    show GlW Z consts_1 p e below s _ _ _ s₁ (mkF m 29 #[.val (.int p1), .val (.int (1 : Int32)), .unset, .unset, .unset, .unset] [])
    obtain ⟨T8, X8, e8, st8⟩ := getS2 X0 hx hZ hown (host := "") (Or.inl (hw _ (List.mem_of_getElem? (i := 63) rfl))) Via.refl e0 (S_w_PluginOutcome_ERROR.ext O0.2) (g := (mkF m 29 #[.val (.int p1), .val (.int (1 : Int32)), .unset, .unset, .unset, .unset] [])) rfl (hb hby at_29)
    refine GlW.st st8 ?_
    show GlW Z consts_1 p e below s _ _ _ T8 (mkF m 32 #[.val (.int p1), .val (.int (1 : Int32)), .unset, .unset, .unset, .unset] [(.ref w_PluginOutcome_ERROR)])
    refine GlW.st (fun _ kk => XS.astoreN X8.here hx rfl (hb hby at_32) rfl rfl (l' := #[.val (.int p1), .val (.int (1 : Int32)), .val (.ref w_PluginOutcome_ERROR), .unset, .unset, .unset]) rfl kk) ?_
    show GlW Z consts_1 p e below s _ _ _ T8 (mkF m 33 #[.val (.int p1), .val (.int (1 : Int32)), .val (.ref w_PluginOutcome_ERROR), .unset, .unset, .unset] [])
    obtain ⟨a9, T9, h9, k9, b9, kc9, X9, e9, E9, hS9, hk9, hZ9, hown9, Exa_a9, F_coder_a9, F_value_a9, Arv_b9, lta9, ltb9, HR9, Li9, sf9, st9⟩ := ldcCH X8 hx hZ hown (hw _ (List.mem_of_getElem? (i := 65) rfl)) hwS e8 hS0 hk0 hEL (List.mem_of_getElem? (i := 1) rfl) HC0.1 (vs := [(.int (70 : Int32)), (.int (65 : Int32)), (.int (73 : Int32)), (.int (76 : Int32)), (.int (69 : Int32)), (.int (68 : Int32))]) (z := 6) ⟨by decide +kernel, by decide +kernel⟩ (by decide) rfl (g := (mkF m 33 #[.val (.int p1), .val (.int (1 : Int32)), .val (.ref w_PluginOutcome_ERROR), .unset, .unset, .unset] [])) rfl (hb hby at_33) (n := 24) (by decide) (by decide) (by decide) (by decide)
    refine GlW.st st9 ?_
    have O9 := O0.ext E9
    have K9 := (Keep.refl h0 []).ext E9
    have HC9 := HC0.trans HR9
    have hZ := hZ9
    have hown := hown9
    show GlW Z consts_1 p e below s _ _ _ T9 (mkF m 35 #[.val (.int p1), .val (.int (1 : Int32)), .val (.ref w_PluginOutcome_ERROR), .unset, .unset, .unset] [(.ref a9)])
    refine GlW.st (fun _ kk => XS.astoreN X9.here hx rfl (hb hby at_35) rfl rfl (l' := #[.val (.int p1), .val (.int (1 : Int32)), .val (.ref w_PluginOutcome_ERROR), .val (.ref a9), .unset, .unset]) rfl kk) ?_
    show GlW Z consts_1 p e below s _ _ _ T9 (mkF m 36 #[.val (.int p1), .val (.int (1 : Int32)), .val (.ref w_PluginOutcome_ERROR), .val (.ref a9), .unset, .unset] [])
    refine GlW.st (fun _ kk => XS.iconst X9.here hx rfl (hb hby at_36) kk) ?_
    show GlW Z consts_1 p e below s _ _ _ T9 (mkF m 37 #[.val (.int p1), .val (.int (1 : Int32)), .val (.ref w_PluginOutcome_ERROR), .val (.ref a9), .unset, .unset] [(.int (0 : Int32))])
    refine GlW.st (fun _ kk => XS.istore X9.here hx rfl (hb hby at_37) rfl (l' := #[.val (.int p1), .val (.int (1 : Int32)), .val (.ref w_PluginOutcome_ERROR), .val (.ref a9), .val (.int (0 : Int32)), .unset]) rfl kk) ?_
    show GlW Z consts_1 p e below s _ _ _ T9 (mkF m 39 #[.val (.int p1), .val (.int (1 : Int32)), .val (.ref w_PluginOutcome_ERROR), .val (.ref a9), .val (.int (0 : Int32)), .unset] [])
    refine GlW.st (fun _ kk => XS.goto X9.here hx rfl (pc0 := 39) (pc' := 88) rfl (hb hby at_39) (by decide) (by decide) kk) ?_
    show GlW Z consts_1 p e below s _ _ _ T9 (mkF m 88 #[.val (.int p1), .val (.int (1 : Int32)), .val (.ref w_PluginOutcome_ERROR), .val (.ref a9), .val (.int (0 : Int32)), .unset] [])
    refine GlW.st (fun _ kk => XS.aloadN X9.here hx rfl (hb hby at_88) rfl rfl kk) ?_
    show GlW Z consts_1 p e below s _ _ _ T9 (mkF m 89 #[.val (.int p1), .val (.int (1 : Int32)), .val (.ref w_PluginOutcome_ERROR), .val (.ref a9), .val (.int (0 : Int32)), .unset] [(.ref w_PluginOutcome_ERROR)])
    obtain ⟨v10, _, ⟨T10, L10, k10, n10⟩, -, X10, ⟨Lc10, hQ10, l10, y10, z10⟩, st10⟩ := Jvm.LawKit.callS X9 hx (y := (⟨"com/example/tender/tender/payment/TransactionStatus", "of", "(Lcom/example/tender/tender/plugin/api/PluginOutcome;)Lcom/example/tender/tender/payment/TransactionStatus;"⟩ : MethodName)) hown (mvT hZ (hw _ (List.mem_of_getElem? (i := 12) rfl))) (mvT hZ (hw _ (List.mem_of_getElem? (i := 13) rfl))) (mvT hZ (hw _ (List.mem_of_getElem? (i := 14) rfl))) (mvT hZ (hw _ (List.mem_of_getElem? (i := 15) rfl))) (by decide) (backOf (W := 0) (rm1 l Z a0 hw [] w_PluginOutcome_ERROR w_TransactionStatus_SUCCESS w_TransactionStatus_PAYMENT_FAILURE w_TransactionStatus_PENDING w_TransactionStatus_PLUGIN_FAILURE w_TransactionStatus_UNKNOWN w_TransactionStatus_1__SwitchMap_com_example_tender_tender_plugin_api_PluginOutcome k_w_TransactionStatus_1__SwitchMap_com_example_tender_tender_plugin_api_PluginOutcome 1 w_TransactionStatus_PAYMENT_FAILURE h9 n0 O9 S_w_TransactionStatus_SUCCESS S_w_TransactionStatus_PAYMENT_FAILURE S_w_TransactionStatus_PENDING S_w_TransactionStatus_PLUGIN_FAILURE S_w_TransactionStatus_UNKNOWN S_w_TransactionStatus_1__SwitchMap_com_example_tender_tender_plugin_api_PluginOutcome V_w_TransactionStatus_1__SwitchMap_com_example_tender_tender_plugin_api_PluginOutcome E_w_PluginOutcome_ERROR F_ordinal_w_PluginOutcome_ERROR (Or.inr (Or.inl ⟨rfl, rfl⟩))) hZ (hw _ (List.mem_of_getElem? (i := 15) rfl)) (hw _ (List.mem_of_getElem? (i := 14) rfl)) (by decide) (by decide)) (g := (mkF m 89 #[.val (.int p1), .val (.int (1 : Int32)), .val (.ref w_PluginOutcome_ERROR), .val (.ref a9), .val (.int (0 : Int32)), .unset] [(.ref w_PluginOutcome_ERROR)])) rfl (by rw [hml]; rfl) (argsL := [(.ref w_PluginOutcome_ERROR)]) (rest := []) (lenOf pd_rm0_0 rfl) rfl (by show 2 * 0 + _ ≤ _; exact Nat.le_of_eq rfl) (hb hby at_89) (fun _ _ => ⟨rfl, e9, (by decide : 2 + 0 ≤ _), (by decide : 28 + 0 ≤ _)⟩)
    dsimp only [Pt.U, Pt.locs, Pt.cells, Pt.slots] at X10 l10 y10 z10 st10 hQ10
    subst l10 y10 z10
    obtain ⟨rfl, Nq10, e10⟩ := hQ10
    have N10 := Fr.app N0 Nq10
    refine GlW.st st10 ?_
    show GlW Z consts_1 p e below s _ _ _ T10 (mkF m 92 #[.val (.int p1), .val (.int (1 : Int32)), .val (.ref w_PluginOutcome_ERROR), .val (.ref a9), .val (.int (0 : Int32)), .unset] [(.ref w_TransactionStatus_PAYMENT_FAILURE)])
    refine GlW.st (fun _ kk => XS.astore X10.here hx rfl (hb hby at_92) rfl rfl (l' := #[.val (.int p1), .val (.int (1 : Int32)), .val (.ref w_PluginOutcome_ERROR), .val (.ref a9), .val (.int (0 : Int32)), .val (.ref w_TransactionStatus_PAYMENT_FAILURE)]) rfl kk) ?_
    show GlW Z consts_1 p e below s _ _ _ T10 (mkF m 94 #[.val (.int p1), .val (.int (1 : Int32)), .val (.ref w_PluginOutcome_ERROR), .val (.ref a9), .val (.int (0 : Int32)), .val (.ref w_TransactionStatus_PAYMENT_FAILURE)] [])
    refine GlW.st (fun _ kk => XS.aload X10.here hx rfl (hb hby at_94) rfl rfl kk) ?_
    show GlW Z consts_1 p e below s _ _ _ T10 (mkF m 96 #[.val (.int p1), .val (.int (1 : Int32)), .val (.ref w_PluginOutcome_ERROR), .val (.ref a9), .val (.int (0 : Int32)), .val (.ref w_TransactionStatus_PAYMENT_FAILURE)] [(.ref w_TransactionStatus_PAYMENT_FAILURE)])
    refine GlW.st (fun _ kk => XS.ifnonnullYes X10.here hx rfl (pc0 := 96) (pc' := 101) rfl (hb hby at_96) rfl (by decide) (by decide) kk) ?_
    show GlW Z consts_1 p e below s _ _ _ T10 (mkF m 101 #[.val (.int p1), .val (.int (1 : Int32)), .val (.ref w_PluginOutcome_ERROR), .val (.ref a9), .val (.int (0 : Int32)), .val (.ref w_TransactionStatus_PAYMENT_FAILURE)] [])
    refine GlW.st (fun _ kk => XS.aload X10.here hx rfl (hb hby at_101) rfl rfl kk) ?_
    show GlW Z consts_1 p e below s _ _ _ T10 (mkF m 103 #[.val (.int p1), .val (.int (1 : Int32)), .val (.ref w_PluginOutcome_ERROR), .val (.ref a9), .val (.int (0 : Int32)), .val (.ref w_TransactionStatus_PAYMENT_FAILURE)] [(.ref w_TransactionStatus_PAYMENT_FAILURE)])
    obtain ⟨cq11, kq11, qa11, qb11, qc11⟩ := isOf hZ e10 (E_w_TransactionStatus_PAYMENT_FAILURE.ext O9.2)
    obtain ⟨v11, _, ⟨T11, L11, k11, n11⟩, -, X11, ⟨Lc11, hQ11, l11, y11, z11⟩, st11⟩ := X10.virtualBack hx (y := (⟨"com/example/tender/tender/payment/TransactionStatus", "stateSuffix", "()Ljava/lang/String;"⟩ : MethodName)) (z := (⟨"com/example/tender/tender/payment/TransactionStatus", "stateSuffix", "()Ljava/lang/String;"⟩ : MethodName)) hown (mvT hZ (hw _ (List.mem_of_getElem? (i := 30) rfl))) (mvT hZ (hw _ (List.mem_of_getElem? (i := 31) rfl))) (notFace_of_selects (args := #[]) (mvT hZ (hw _ (List.mem_of_getElem? (i := 33) rfl)))) (mvT hZ (hw _ (List.mem_of_getElem? (i := 33) rfl))) (mvT hZ (hw _ (List.mem_of_getElem? (i := 32) rfl))) (by decide) (backOf (W := 0) (rm3 l Z a0 hw [] w_TransactionStatus_PAYMENT_FAILURE w_TransactionStatus_PAYMENT_FAILURE_stateSuffix h9 n0 O9 F_stateSuffix_w_TransactionStatus_PAYMENT_FAILURE) hZ (hw _ (List.mem_of_getElem? (i := 34) rfl)) (hw _ (List.mem_of_getElem? (i := 14) rfl)) (by decide) (by decide)) qa11 qc11 (g := (mkF m 103 #[.val (.int p1), .val (.int (1 : Int32)), .val (.ref w_PluginOutcome_ERROR), .val (.ref a9), .val (.int (0 : Int32)), .val (.ref w_TransactionStatus_PAYMENT_FAILURE)] [(.ref w_TransactionStatus_PAYMENT_FAILURE)])) rfl (by rw [hml]; rfl) (Steps.refl _) (argsL := []) (rest := []) (lenOf pd_rm0_1 rfl) rfl (by show 2 * 0 + _ ≤ _; exact Nat.le_of_eq rfl) (hb hby at_103) (fun _ _ => ⟨rfl, e10, (by decide : 2 + 0 ≤ _), (by decide : 28 + 0 ≤ _)⟩)
    dsimp only [Pt.U, Pt.locs, Pt.cells, Pt.slots] at X11 l11 y11 z11 st11 hQ11
    subst l11 y11 z11
    obtain ⟨rfl, Nq11, e11⟩ := hQ11
    have N11 := Fr.app N10 Nq11
    refine GlW.st (fun _ kk => st11.trans kk) ?_
    show GlW Z consts_1 p e below s _ _ _ T11 (mkF m 106 #[.val (.int p1), .val (.int (1 : Int32)), .val (.ref w_PluginOutcome_ERROR), .val (.ref a9), .val (.int (0 : Int32)), .val (.ref w_TransactionStatus_PAYMENT_FAILURE)] [(.ref w_TransactionStatus_PAYMENT_FAILURE_stateSuffix)])
    refine GlW.st (fun _ kk => XS.aloadN X11.here hx rfl (hb hby at_106) rfl rfl kk) ?_
    show GlW Z consts_1 p e below s _ _ _ T11 (mkF m 107 #[.val (.int p1), .val (.int (1 : Int32)), .val (.ref w_PluginOutcome_ERROR), .val (.ref a9), .val (.int (0 : Int32)), .val (.ref w_TransactionStatus_PAYMENT_FAILURE)] [(.ref a9), (.ref w_TransactionStatus_PAYMENT_FAILURE_stateSuffix)])
    obtain ⟨cq13, kq13, qa13, qb13, qc13⟩ := isOf hZ e11 (E_w_TransactionStatus_PAYMENT_FAILURE_stateSuffix.ext O9.2)
    obtain ⟨v13, _, ⟨T13, L13, k13, n13⟩, -, X13, ⟨Lc13, hQ13, l13, y13, z13⟩, st13⟩ := X11.virtualBack hx (y := (⟨"java/lang/String", "equals", "(Ljava/lang/Object;)Z"⟩ : MethodName)) (z := (⟨"java/lang/String", "equals", "(Ljava/lang/Object;)Z"⟩ : MethodName)) hown (mvT hZ (hw _ (List.mem_of_getElem? (i := 37) rfl))) (mvT hZ (hw _ (List.mem_of_getElem? (i := 38) rfl))) (notFace_of_selects (args := #[]) (mvT hZ (hw _ (List.mem_of_getElem? (i := 40) rfl)))) (mvT hZ (hw _ (List.mem_of_getElem? (i := 40) rfl))) (mvT hZ (hw _ (List.mem_of_getElem? (i := 39) rfl))) (by decide) (backOf (W := 0) (rmSE l Z a0 hw [] w_TransactionStatus_PAYMENT_FAILURE_stateSuffix a9 w_TransactionStatus_PAYMENT_FAILURE_stateSuffix_value b9 k_w_TransactionStatus_PAYMENT_FAILURE_stateSuffix_value kc9 [(70 : Int32), (65 : Int32), (73 : Int32), (76 : Int32), (69 : Int32), (68 : Int32)] [(70 : Int32), (65 : Int32), (73 : Int32), (76 : Int32), (69 : Int32), (68 : Int32)] cz 1 h9 n0 O9 (E_w_TransactionStatus_PAYMENT_FAILURE_stateSuffix.ext O9.2) (F_value_w_TransactionStatus_PAYMENT_FAILURE_stateSuffix.ext O9.2) (F_coder_w_TransactionStatus_PAYMENT_FAILURE_stateSuffix.ext O9.2) (V_w_TransactionStatus_PAYMENT_FAILURE_stateSuffix_value.ext O9.2) (by decide) Exa_a9 F_value_a9 F_coder_a9 Arv_b9 (by decide) S_COMPACT hcz (by decide)) hZ (hw _ (List.mem_of_getElem? (i := 41) rfl)) (hw _ (List.mem_of_getElem? (i := 5) rfl)) (by decide) (by decide)) qa13 qc13 (g := (mkF m 107 #[.val (.int p1), .val (.int (1 : Int32)), .val (.ref w_PluginOutcome_ERROR), .val (.ref a9), .val (.int (0 : Int32)), .val (.ref w_TransactionStatus_PAYMENT_FAILURE)] [(.ref a9), (.ref w_TransactionStatus_PAYMENT_FAILURE_stateSuffix)])) rfl (by rw [hml]; rfl) (Steps.refl _) (argsL := [(.ref a9)]) (rest := []) (lenOf pd_rm0_2 rfl) rfl (by show 2 * 0 + _ ≤ _; exact Nat.le_of_eq rfl) (hb hby at_107) (fun _ _ => ⟨rfl, e11, (by decide : 2 + 0 ≤ _), (by decide : 28 + 0 ≤ _)⟩)
    dsimp only [Pt.U, Pt.locs, Pt.cells, Pt.slots] at X13 l13 y13 z13 st13 hQ13
    subst l13 y13 z13
    obtain ⟨rfl, Nq13, e13⟩ := hQ13
    have N13 := Fr.app N11 Nq13
    refine GlW.st (fun _ kk => st13.trans kk) ?_
    show GlW Z consts_1 p e below s _ _ _ T13 (mkF m 110 #[.val (.int p1), .val (.int (1 : Int32)), .val (.ref w_PluginOutcome_ERROR), .val (.ref a9), .val (.int (0 : Int32)), .val (.ref w_TransactionStatus_PAYMENT_FAILURE)] [(.int (1 : Int32))])
    refine GlW.st (fun _ kk => XS.ifNo X13.here hx rfl (hb hby at_110) rfl ((if0 _ _).trans (feq (by decide : ¬ ((1 : Int32) = (0 : Int32)))).1) kk) ?_
    show GlW Z consts_1 p e below s _ _ _ T13 (mkF m 113 #[.val (.int p1), .val (.int (1 : Int32)), .val (.ref w_PluginOutcome_ERROR), .val (.ref a9), .val (.int (0 : Int32)), .val (.ref w_TransactionStatus_PAYMENT_FAILURE)] [])
    refine GlW.st (fun _ kk => XS.aload X13.here hx rfl (hb hby at_113) rfl rfl kk) ?_
    show GlW Z consts_1 p e below s _ _ _ T13 (mkF m 115 #[.val (.int p1), .val (.int (1 : Int32)), .val (.ref w_PluginOutcome_ERROR), .val (.ref a9), .val (.int (0 : Int32)), .val (.ref w_TransactionStatus_PAYMENT_FAILURE)] [(.ref w_TransactionStatus_PAYMENT_FAILURE)])
    obtain ⟨cq14, kq14, qa14, qb14, qc14⟩ := isOf hZ e13 (E_w_TransactionStatus_PAYMENT_FAILURE.ext O9.2)
    obtain ⟨v14, _, ⟨T14, L14, k14, n14⟩, -, X14, ⟨Lc14, hQ14, l14, y14, z14⟩, st14⟩ := X13.virtualBack hx (y := (⟨"com/example/tender/tender/payment/TransactionStatus", "isInDoubt", "()Z"⟩ : MethodName)) (z := (⟨"com/example/tender/tender/payment/TransactionStatus", "isInDoubt", "()Z"⟩ : MethodName)) hown (mvT hZ (hw _ (List.mem_of_getElem? (i := 51) rfl))) (mvT hZ (hw _ (List.mem_of_getElem? (i := 52) rfl))) (notFace_of_selects (args := #[]) (mvT hZ (hw _ (List.mem_of_getElem? (i := 54) rfl)))) (mvT hZ (hw _ (List.mem_of_getElem? (i := 54) rfl))) (mvT hZ (hw _ (List.mem_of_getElem? (i := 53) rfl))) (by decide) (backOf (W := 0) (rm6 l Z a0 hw [] w_TransactionStatus_PAYMENT_FAILURE 0 h9 n0 O9 F_inDoubt_w_TransactionStatus_PAYMENT_FAILURE (by decide)) hZ (hw _ (List.mem_of_getElem? (i := 55) rfl)) (hw _ (List.mem_of_getElem? (i := 14) rfl)) (by decide) (by decide)) qa14 qc14 (g := (mkF m 115 #[.val (.int p1), .val (.int (1 : Int32)), .val (.ref w_PluginOutcome_ERROR), .val (.ref a9), .val (.int (0 : Int32)), .val (.ref w_TransactionStatus_PAYMENT_FAILURE)] [(.ref w_TransactionStatus_PAYMENT_FAILURE)])) rfl (by rw [hml]; rfl) (Steps.refl _) (argsL := []) (rest := []) (lenOf pd_rm0_3 rfl) rfl (by show 2 * 0 + _ ≤ _; exact Nat.le_of_eq rfl) (hb hby at_115) (fun _ _ => ⟨rfl, e13, (by decide : 2 + 0 ≤ _), (by decide : 28 + 0 ≤ _)⟩)
    dsimp only [Pt.U, Pt.locs, Pt.cells, Pt.slots] at X14 l14 y14 z14 st14 hQ14
    subst l14 y14 z14
    obtain ⟨rfl, Nq14, e14⟩ := hQ14
    have N14 := Fr.app N13 Nq14
    refine GlW.st (fun _ kk => st14.trans kk) ?_
    show GlW Z consts_1 p e below s _ _ _ T14 (mkF m 118 #[.val (.int p1), .val (.int (1 : Int32)), .val (.ref w_PluginOutcome_ERROR), .val (.ref a9), .val (.int (0 : Int32)), .val (.ref w_TransactionStatus_PAYMENT_FAILURE)] [(.int (0 : Int32))])
    refine GlW.st (fun _ kk => XS.iload X14.here hx rfl (hb hby at_118) rfl kk) ?_
    show GlW Z consts_1 p e below s _ _ _ T14 (mkF m 120 #[.val (.int p1), .val (.int (1 : Int32)), .val (.ref w_PluginOutcome_ERROR), .val (.ref a9), .val (.int (0 : Int32)), .val (.ref w_TransactionStatus_PAYMENT_FAILURE)] [(.int (0 : Int32)), (.int (0 : Int32))])
    refine GlW.st (fun _ kk => XS.icmpNo X14.here hx rfl (hb hby at_120) rfl (teq (by decide : (0 : Int32) = (0 : Int32))).2 kk) ?_
    show GlW Z consts_1 p e below s _ _ _ T14 (mkF m 123 #[.val (.int p1), .val (.int (1 : Int32)), .val (.ref w_PluginOutcome_ERROR), .val (.ref a9), .val (.int (0 : Int32)), .val (.ref w_TransactionStatus_PAYMENT_FAILURE)] [])
    refine GlW.st (fun _ kk => XS.iconst X14.here hx rfl (hb hby at_123) kk) ?_
    show GlW Z consts_1 p e below s _ _ _ T14 (mkF m 124 #[.val (.int p1), .val (.int (1 : Int32)), .val (.ref w_PluginOutcome_ERROR), .val (.ref a9), .val (.int (0 : Int32)), .val (.ref w_TransactionStatus_PAYMENT_FAILURE)] [(.int (1 : Int32))])
    refine GlW.st (fun _ kk => XS.goto X14.here hx rfl (pc0 := 124) (pc' := 128) rfl (hb hby at_124) (by decide) (by decide) kk) ?_
    show GlW Z consts_1 p e below s _ _ _ T14 (mkF m 128 #[.val (.int p1), .val (.int (1 : Int32)), .val (.ref w_PluginOutcome_ERROR), .val (.ref a9), .val (.int (0 : Int32)), .val (.ref w_TransactionStatus_PAYMENT_FAILURE)] [(.int (1 : Int32))])
    exact GlW.ret X14 hS9 hk9 hZ hEL hh0 HC9 (v := (some (.int (1 : Int32)))) (fun h => by rw [Bd.returns] at h; cases h) (BodyLoose.notSynchronized Bd) (fun hr => retN X14 hx (t := .boolean) Bd.returns (by simp) (hb hby at_128) hr) e14 ⟨rfl, N14⟩ (by decide) (by decide)
  · rw [hk]
    show GlW Z consts_1 p e below s _ _ _ s₁ (mkF m 7 #[.val (.int p1), .val (.int (2 : Int32)), .unset, .unset, .unset, .unset] [])
    refine GlW.st (fun _ kk => XS.iloadN X0.here hx rfl (hb hby at_7) rfl kk) ?_
    show GlW Z consts_1 p e below s _ _ _ s₁ (mkF m 8 #[.val (.int p1), .val (.int (2 : Int32)), .unset, .unset, .unset, .unset] [(.int (2 : Int32))])
    refine GlW.st (fun _ kk => XS.ifYes X0.here hx rfl (pc0 := 8) (pc' := 24) rfl (hb hby at_8) rfl ((if0 _ _).trans (feq (by decide : ¬ ((2 : Int32) = (0 : Int32)))).2) (by decide) (by decide) kk) ?_
    show GlW Z consts_1 p e below s _ _ _ s₁ (mkF m 24 #[.val (.int p1), .val (.int (2 : Int32)), .unset, .unset, .unset, .unset] [])
    refine GlW.st (fun _ kk => XS.iloadN X0.here hx rfl (hb hby at_24) rfl kk) ?_
    show GlW Z consts_1 p e below s _ _ _ s₁ (mkF m 25 #[.val (.int p1), .val (.int (2 : Int32)), .unset, .unset, .unset, .unset] [(.int (2 : Int32))])
    refine GlW.st (fun _ kk => XS.iconst X0.here hx rfl (hb hby at_25) kk) ?_
    show GlW Z consts_1 p e below s _ _ _ s₁ (mkF m 26 #[.val (.int p1), .val (.int (2 : Int32)), .unset, .unset, .unset, .unset] [(.int (1 : Int32)), (.int (2 : Int32))])
    refine GlW.st (fun _ kk => XS.icmpYes X0.here hx rfl (pc0 := 26) (pc' := 42) rfl (hb hby at_26) rfl (feq (by decide : ¬ ((2 : Int32) = (1 : Int32)))).2 (by decide) (by decide) kk) ?_
    show GlW Z consts_1 p e below s _ _ _ s₁ (mkF m 42 #[.val (.int p1), .val (.int (2 : Int32)), .unset, .unset, .unset, .unset] [])
    refine GlW.st (fun _ kk => XS.iloadN X0.here hx rfl (hb hby at_42) rfl kk) ?_
    show GlW Z consts_1 p e below s _ _ _ s₁ (mkF m 43 #[.val (.int p1), .val (.int (2 : Int32)), .unset, .unset, .unset, .unset] [(.int (2 : Int32))])
    refine GlW.st (fun _ kk => XS.iconst X0.here hx rfl (hb hby at_43) kk) ?_
    show GlW Z consts_1 p e below s _ _ _ s₁ (mkF m 44 #[.val (.int p1), .val (.int (2 : Int32)), .unset, .unset, .unset, .unset] [(.int (2 : Int32)), (.int (2 : Int32))])
    refine GlW.st (fun _ kk => XS.icmpNo X0.here hx rfl (hb hby at_44) rfl (teq (by decide : (2 : Int32) = (2 : Int32))).2 kk) ?_
    show GlW Z consts_1 p e below s _ _ _ s₁ (mkF m 47 #[.val (.int p1), .val (.int (2 : Int32)), .unset, .unset, .unset, .unset] [])
    obtain ⟨T15, X15, e15, st15⟩ := getS2 X0 hx hZ hown (host := "") (Or.inl (hw _ (List.mem_of_getElem? (i := 72) rfl))) Via.refl e0 (S_w_PluginOutcome_PENDING.ext O0.2) (g := (mkF m 47 #[.val (.int p1), .val (.int (2 : Int32)), .unset, .unset, .unset, .unset] [])) rfl (hb hby at_47)
    refine GlW.st st15 ?_
    show GlW Z consts_1 p e below s _ _ _ T15 (mkF m 50 #[.val (.int p1), .val (.int (2 : Int32)), .unset, .unset, .unset, .unset] [(.ref w_PluginOutcome_PENDING)])
    refine GlW.st (fun _ kk => XS.astoreN X15.here hx rfl (hb hby at_50) rfl rfl (l' := #[.val (.int p1), .val (.int (2 : Int32)), .val (.ref w_PluginOutcome_PENDING), .unset, .unset, .unset]) rfl kk) ?_
    show GlW Z consts_1 p e below s _ _ _ T15 (mkF m 51 #[.val (.int p1), .val (.int (2 : Int32)), .val (.ref w_PluginOutcome_PENDING), .unset, .unset, .unset] [])
    obtain ⟨a16, T16, h16, k16, b16, kc16, X16, e16, E16, hS16, hk16, hZ16, hown16, Exa_a16, F_coder_a16, F_value_a16, Arv_b16, lta16, ltb16, HR16, Li16, sf16, st16⟩ := ldcCH X15 hx hZ hown (hw _ (List.mem_of_getElem? (i := 74) rfl)) hwS e15 hS0 hk0 hEL (List.mem_of_getElem? (i := 2) rfl) HC0.1 (vs := [(.int (80 : Int32)), (.int (69 : Int32)), (.int (78 : Int32)), (.int (68 : Int32)), (.int (73 : Int32)), (.int (78 : Int32)), (.int (71 : Int32))]) (z := 7) ⟨by decide +kernel, by decide +kernel⟩ (by decide) rfl (g := (mkF m 51 #[.val (.int p1), .val (.int (2 : Int32)), .val (.ref w_PluginOutcome_PENDING), .unset, .unset, .unset] [])) rfl (hb hby at_51) (n := 28) (by decide) (by decide) (by decide) (by decide)
    refine GlW.st st16 ?_
    have O16 := O0.ext E16
    have K16 := (Keep.refl h0 []).ext E16
    have HC16 := HC0.trans HR16
    have hZ := hZ16
    have hown := hown16
    show GlW Z consts_1 p e below s _ _ _ T16 (mkF m 53 #[.val (.int p1), .val (.int (2 : Int32)), .val (.ref w_PluginOutcome_PENDING), .unset, .unset, .unset] [(.ref a16)])
    refine GlW.st (fun _ kk => XS.astoreN X16.here hx rfl (hb hby at_53) rfl rfl (l' := #[.val (.int p1), .val (.int (2 : Int32)), .val (.ref w_PluginOutcome_PENDING), .val (.ref a16), .unset, .unset]) rfl kk) ?_
    show GlW Z consts_1 p e below s _ _ _ T16 (mkF m 54 #[.val (.int p1), .val (.int (2 : Int32)), .val (.ref w_PluginOutcome_PENDING), .val (.ref a16), .unset, .unset] [])
    refine GlW.st (fun _ kk => XS.iconst X16.here hx rfl (hb hby at_54) kk) ?_
    show GlW Z consts_1 p e below s _ _ _ T16 (mkF m 55 #[.val (.int p1), .val (.int (2 : Int32)), .val (.ref w_PluginOutcome_PENDING), .val (.ref a16), .unset, .unset] [(.int (1 : Int32))])
    refine GlW.st (fun _ kk => XS.istore X16.here hx rfl (hb hby at_55) rfl (l' := #[.val (.int p1), .val (.int (2 : Int32)), .val (.ref w_PluginOutcome_PENDING), .val (.ref a16), .val (.int (1 : Int32)), .unset]) rfl kk) ?_
    show GlW Z consts_1 p e below s _ _ _ T16 (mkF m 57 #[.val (.int p1), .val (.int (2 : Int32)), .val (.ref w_PluginOutcome_PENDING), .val (.ref a16), .val (.int (1 : Int32)), .unset] [])
    refine GlW.st (fun _ kk => XS.goto X16.here hx rfl (pc0 := 57) (pc' := 88) rfl (hb hby at_57) (by decide) (by decide) kk) ?_
    show GlW Z consts_1 p e below s _ _ _ T16 (mkF m 88 #[.val (.int p1), .val (.int (2 : Int32)), .val (.ref w_PluginOutcome_PENDING), .val (.ref a16), .val (.int (1 : Int32)), .unset] [])
    refine GlW.st (fun _ kk => XS.aloadN X16.here hx rfl (hb hby at_88) rfl rfl kk) ?_
    show GlW Z consts_1 p e below s _ _ _ T16 (mkF m 89 #[.val (.int p1), .val (.int (2 : Int32)), .val (.ref w_PluginOutcome_PENDING), .val (.ref a16), .val (.int (1 : Int32)), .unset] [(.ref w_PluginOutcome_PENDING)])
    obtain ⟨v17, _, ⟨T17, L17, k17, n17⟩, -, X17, ⟨Lc17, hQ17, l17, y17, z17⟩, st17⟩ := Jvm.LawKit.callS X16 hx (y := (⟨"com/example/tender/tender/payment/TransactionStatus", "of", "(Lcom/example/tender/tender/plugin/api/PluginOutcome;)Lcom/example/tender/tender/payment/TransactionStatus;"⟩ : MethodName)) hown (mvT hZ (hw _ (List.mem_of_getElem? (i := 12) rfl))) (mvT hZ (hw _ (List.mem_of_getElem? (i := 13) rfl))) (mvT hZ (hw _ (List.mem_of_getElem? (i := 14) rfl))) (mvT hZ (hw _ (List.mem_of_getElem? (i := 15) rfl))) (by decide) (backOf (W := 0) (rm1 l Z a0 hw [] w_PluginOutcome_PENDING w_TransactionStatus_SUCCESS w_TransactionStatus_PAYMENT_FAILURE w_TransactionStatus_PENDING w_TransactionStatus_PLUGIN_FAILURE w_TransactionStatus_UNKNOWN w_TransactionStatus_1__SwitchMap_com_example_tender_tender_plugin_api_PluginOutcome k_w_TransactionStatus_1__SwitchMap_com_example_tender_tender_plugin_api_PluginOutcome 2 w_TransactionStatus_PENDING h16 n0 O16 S_w_TransactionStatus_SUCCESS S_w_TransactionStatus_PAYMENT_FAILURE S_w_TransactionStatus_PENDING S_w_TransactionStatus_PLUGIN_FAILURE S_w_TransactionStatus_UNKNOWN S_w_TransactionStatus_1__SwitchMap_com_example_tender_tender_plugin_api_PluginOutcome V_w_TransactionStatus_1__SwitchMap_com_example_tender_tender_plugin_api_PluginOutcome E_w_PluginOutcome_PENDING F_ordinal_w_PluginOutcome_PENDING (Or.inr (Or.inr (Or.inl ⟨rfl, rfl⟩)))) hZ (hw _ (List.mem_of_getElem? (i := 15) rfl)) (hw _ (List.mem_of_getElem? (i := 14) rfl)) (by decide) (by decide)) (g := (mkF m 89 #[.val (.int p1), .val (.int (2 : Int32)), .val (.ref w_PluginOutcome_PENDING), .val (.ref a16), .val (.int (1 : Int32)), .unset] [(.ref w_PluginOutcome_PENDING)])) rfl (by rw [hml]; rfl) (argsL := [(.ref w_PluginOutcome_PENDING)]) (rest := []) (lenOf pd_rm0_0 rfl) rfl (by show 2 * 0 + _ ≤ _; exact Nat.le_of_eq rfl) (hb hby at_89) (fun _ _ => ⟨rfl, e16, (by decide : 2 + 0 ≤ _), (by decide : 32 + 0 ≤ _)⟩)
    dsimp only [Pt.U, Pt.locs, Pt.cells, Pt.slots] at X17 l17 y17 z17 st17 hQ17
    subst l17 y17 z17
    obtain ⟨rfl, Nq17, e17⟩ := hQ17
    have N17 := Fr.app N0 Nq17
    refine GlW.st st17 ?_
    show GlW Z consts_1 p e below s _ _ _ T17 (mkF m 92 #[.val (.int p1), .val (.int (2 : Int32)), .val (.ref w_PluginOutcome_PENDING), .val (.ref a16), .val (.int (1 : Int32)), .unset] [(.ref w_TransactionStatus_PENDING)])
    refine GlW.st (fun _ kk => XS.astore X17.here hx rfl (hb hby at_92) rfl rfl (l' := #[.val (.int p1), .val (.int (2 : Int32)), .val (.ref w_PluginOutcome_PENDING), .val (.ref a16), .val (.int (1 : Int32)), .val (.ref w_TransactionStatus_PENDING)]) rfl kk) ?_
    show GlW Z consts_1 p e below s _ _ _ T17 (mkF m 94 #[.val (.int p1), .val (.int (2 : Int32)), .val (.ref w_PluginOutcome_PENDING), .val (.ref a16), .val (.int (1 : Int32)), .val (.ref w_TransactionStatus_PENDING)] [])
    refine GlW.st (fun _ kk => XS.aload X17.here hx rfl (hb hby at_94) rfl rfl kk) ?_
    show GlW Z consts_1 p e below s _ _ _ T17 (mkF m 96 #[.val (.int p1), .val (.int (2 : Int32)), .val (.ref w_PluginOutcome_PENDING), .val (.ref a16), .val (.int (1 : Int32)), .val (.ref w_TransactionStatus_PENDING)] [(.ref w_TransactionStatus_PENDING)])
    refine GlW.st (fun _ kk => XS.ifnonnullYes X17.here hx rfl (pc0 := 96) (pc' := 101) rfl (hb hby at_96) rfl (by decide) (by decide) kk) ?_
    show GlW Z consts_1 p e below s _ _ _ T17 (mkF m 101 #[.val (.int p1), .val (.int (2 : Int32)), .val (.ref w_PluginOutcome_PENDING), .val (.ref a16), .val (.int (1 : Int32)), .val (.ref w_TransactionStatus_PENDING)] [])
    refine GlW.st (fun _ kk => XS.aload X17.here hx rfl (hb hby at_101) rfl rfl kk) ?_
    show GlW Z consts_1 p e below s _ _ _ T17 (mkF m 103 #[.val (.int p1), .val (.int (2 : Int32)), .val (.ref w_PluginOutcome_PENDING), .val (.ref a16), .val (.int (1 : Int32)), .val (.ref w_TransactionStatus_PENDING)] [(.ref w_TransactionStatus_PENDING)])
    obtain ⟨cq18, kq18, qa18, qb18, qc18⟩ := isOf hZ e17 (E_w_TransactionStatus_PENDING.ext O16.2)
    obtain ⟨v18, _, ⟨T18, L18, k18, n18⟩, -, X18, ⟨Lc18, hQ18, l18, y18, z18⟩, st18⟩ := X17.virtualBack hx (y := (⟨"com/example/tender/tender/payment/TransactionStatus", "stateSuffix", "()Ljava/lang/String;"⟩ : MethodName)) (z := (⟨"com/example/tender/tender/payment/TransactionStatus", "stateSuffix", "()Ljava/lang/String;"⟩ : MethodName)) hown (mvT hZ (hw _ (List.mem_of_getElem? (i := 30) rfl))) (mvT hZ (hw _ (List.mem_of_getElem? (i := 31) rfl))) (notFace_of_selects (args := #[]) (mvT hZ (hw _ (List.mem_of_getElem? (i := 33) rfl)))) (mvT hZ (hw _ (List.mem_of_getElem? (i := 33) rfl))) (mvT hZ (hw _ (List.mem_of_getElem? (i := 32) rfl))) (by decide) (backOf (W := 0) (rm3 l Z a0 hw [] w_TransactionStatus_PENDING w_TransactionStatus_PENDING_stateSuffix h16 n0 O16 F_stateSuffix_w_TransactionStatus_PENDING) hZ (hw _ (List.mem_of_getElem? (i := 34) rfl)) (hw _ (List.mem_of_getElem? (i := 14) rfl)) (by decide) (by decide)) qa18 qc18 (g := (mkF m 103 #[.val (.int p1), .val (.int (2 : Int32)), .val (.ref w_PluginOutcome_PENDING), .val (.ref a16), .val (.int (1 : Int32)), .val (.ref w_TransactionStatus_PENDING)] [(.ref w_TransactionStatus_PENDING)])) rfl (by rw [hml]; rfl) (Steps.refl _) (argsL := []) (rest := []) (lenOf pd_rm0_1 rfl) rfl (by show 2 * 0 + _ ≤ _; exact Nat.le_of_eq rfl) (hb hby at_103) (fun _ _ => ⟨rfl, e17, (by decide : 2 + 0 ≤ _), (by decide : 32 + 0 ≤ _)⟩)
    dsimp only [Pt.U, Pt.locs, Pt.cells, Pt.slots] at X18 l18 y18 z18 st18 hQ18
    subst l18 y18 z18
    obtain ⟨rfl, Nq18, e18⟩ := hQ18
    have N18 := Fr.app N17 Nq18
    refine GlW.st (fun _ kk => st18.trans kk) ?_
    show GlW Z consts_1 p e below s _ _ _ T18 (mkF m 106 #[.val (.int p1), .val (.int (2 : Int32)), .val (.ref w_PluginOutcome_PENDING), .val (.ref a16), .val (.int (1 : Int32)), .val (.ref w_TransactionStatus_PENDING)] [(.ref w_TransactionStatus_PENDING_stateSuffix)])
    refine GlW.st (fun _ kk => XS.aloadN X18.here hx rfl (hb hby at_106) rfl rfl kk) ?_
    show GlW Z consts_1 p e below s _ _ _ T18 (mkF m 107 #[.val (.int p1), .val (.int (2 : Int32)), .val (.ref w_PluginOutcome_PENDING), .val (.ref a16), .val (.int (1 : Int32)), .val (.ref w_TransactionStatus_PENDING)] [(.ref a16), (.ref w_TransactionStatus_PENDING_stateSuffix)])
    obtain ⟨cq20, kq20, qa20, qb20, qc20⟩ := isOf hZ e18 (E_w_TransactionStatus_PENDING_stateSuffix.ext O16.2)
    obtain ⟨v20, _, ⟨T20, L20, k20, n20⟩, -, X20, ⟨Lc20, hQ20, l20, y20, z20⟩, st20⟩ := X18.virtualBack hx (y := (⟨"java/lang/String", "equals", "(Ljava/lang/Object;)Z"⟩ : MethodName)) (z := (⟨"java/lang/String", "equals", "(Ljava/lang/Object;)Z"⟩ : MethodName)) hown (mvT hZ (hw _ (List.mem_of_getElem? (i := 37) rfl))) (mvT hZ (hw _ (List.mem_of_getElem? (i := 38) rfl))) (notFace_of_selects (args := #[]) (mvT hZ (hw _ (List.mem_of_getElem? (i := 40) rfl)))) (mvT hZ (hw _ (List.mem_of_getElem? (i := 40) rfl))) (mvT hZ (hw _ (List.mem_of_getElem? (i := 39) rfl))) (by decide) (backOf (W := 0) (rmSE l Z a0 hw [] w_TransactionStatus_PENDING_stateSuffix a16 w_TransactionStatus_PENDING_stateSuffix_value b16 k_w_TransactionStatus_PENDING_stateSuffix_value kc16 [(80 : Int32), (69 : Int32), (78 : Int32), (68 : Int32), (73 : Int32), (78 : Int32), (71 : Int32)] [(80 : Int32), (69 : Int32), (78 : Int32), (68 : Int32), (73 : Int32), (78 : Int32), (71 : Int32)] cz 1 h16 n0 O16 (E_w_TransactionStatus_PENDING_stateSuffix.ext O16.2) (F_value_w_TransactionStatus_PENDING_stateSuffix.ext O16.2) (F_coder_w_TransactionStatus_PENDING_stateSuffix.ext O16.2) (V_w_TransactionStatus_PENDING_stateSuffix_value.ext O16.2) (by decide) Exa_a16 F_value_a16 F_coder_a16 Arv_b16 (by decide) S_COMPACT hcz (by decide)) hZ (hw _ (List.mem_of_getElem? (i := 41) rfl)) (hw _ (List.mem_of_getElem? (i := 5) rfl)) (by decide) (by decide)) qa20 qc20 (g := (mkF m 107 #[.val (.int p1), .val (.int (2 : Int32)), .val (.ref w_PluginOutcome_PENDING), .val (.ref a16), .val (.int (1 : Int32)), .val (.ref w_TransactionStatus_PENDING)] [(.ref a16), (.ref w_TransactionStatus_PENDING_stateSuffix)])) rfl (by rw [hml]; rfl) (Steps.refl _) (argsL := [(.ref a16)]) (rest := []) (lenOf pd_rm0_2 rfl) rfl (by show 2 * 0 + _ ≤ _; exact Nat.le_of_eq rfl) (hb hby at_107) (fun _ _ => ⟨rfl, e18, (by decide : 2 + 0 ≤ _), (by decide : 32 + 0 ≤ _)⟩)
    dsimp only [Pt.U, Pt.locs, Pt.cells, Pt.slots] at X20 l20 y20 z20 st20 hQ20
    subst l20 y20 z20
    obtain ⟨rfl, Nq20, e20⟩ := hQ20
    have N20 := Fr.app N18 Nq20
    refine GlW.st (fun _ kk => st20.trans kk) ?_
    show GlW Z consts_1 p e below s _ _ _ T20 (mkF m 110 #[.val (.int p1), .val (.int (2 : Int32)), .val (.ref w_PluginOutcome_PENDING), .val (.ref a16), .val (.int (1 : Int32)), .val (.ref w_TransactionStatus_PENDING)] [(.int (1 : Int32))])
    refine GlW.st (fun _ kk => XS.ifNo X20.here hx rfl (hb hby at_110) rfl ((if0 _ _).trans (feq (by decide : ¬ ((1 : Int32) = (0 : Int32)))).1) kk) ?_
    show GlW Z consts_1 p e below s _ _ _ T20 (mkF m 113 #[.val (.int p1), .val (.int (2 : Int32)), .val (.ref w_PluginOutcome_PENDING), .val (.ref a16), .val (.int (1 : Int32)), .val (.ref w_TransactionStatus_PENDING)] [])
    refine GlW.st (fun _ kk => XS.aload X20.here hx rfl (hb hby at_113) rfl rfl kk) ?_
    show GlW Z consts_1 p e below s _ _ _ T20 (mkF m 115 #[.val (.int p1), .val (.int (2 : Int32)), .val (.ref w_PluginOutcome_PENDING), .val (.ref a16), .val (.int (1 : Int32)), .val (.ref w_TransactionStatus_PENDING)] [(.ref w_TransactionStatus_PENDING)])
    obtain ⟨cq21, kq21, qa21, qb21, qc21⟩ := isOf hZ e20 (E_w_TransactionStatus_PENDING.ext O16.2)
    obtain ⟨v21, _, ⟨T21, L21, k21, n21⟩, -, X21, ⟨Lc21, hQ21, l21, y21, z21⟩, st21⟩ := X20.virtualBack hx (y := (⟨"com/example/tender/tender/payment/TransactionStatus", "isInDoubt", "()Z"⟩ : MethodName)) (z := (⟨"com/example/tender/tender/payment/TransactionStatus", "isInDoubt", "()Z"⟩ : MethodName)) hown (mvT hZ (hw _ (List.mem_of_getElem? (i := 51) rfl))) (mvT hZ (hw _ (List.mem_of_getElem? (i := 52) rfl))) (notFace_of_selects (args := #[]) (mvT hZ (hw _ (List.mem_of_getElem? (i := 54) rfl)))) (mvT hZ (hw _ (List.mem_of_getElem? (i := 54) rfl))) (mvT hZ (hw _ (List.mem_of_getElem? (i := 53) rfl))) (by decide) (backOf (W := 0) (rm6 l Z a0 hw [] w_TransactionStatus_PENDING 1 h16 n0 O16 F_inDoubt_w_TransactionStatus_PENDING (by decide)) hZ (hw _ (List.mem_of_getElem? (i := 55) rfl)) (hw _ (List.mem_of_getElem? (i := 14) rfl)) (by decide) (by decide)) qa21 qc21 (g := (mkF m 115 #[.val (.int p1), .val (.int (2 : Int32)), .val (.ref w_PluginOutcome_PENDING), .val (.ref a16), .val (.int (1 : Int32)), .val (.ref w_TransactionStatus_PENDING)] [(.ref w_TransactionStatus_PENDING)])) rfl (by rw [hml]; rfl) (Steps.refl _) (argsL := []) (rest := []) (lenOf pd_rm0_3 rfl) rfl (by show 2 * 0 + _ ≤ _; exact Nat.le_of_eq rfl) (hb hby at_115) (fun _ _ => ⟨rfl, e20, (by decide : 2 + 0 ≤ _), (by decide : 32 + 0 ≤ _)⟩)
    dsimp only [Pt.U, Pt.locs, Pt.cells, Pt.slots] at X21 l21 y21 z21 st21 hQ21
    subst l21 y21 z21
    obtain ⟨rfl, Nq21, e21⟩ := hQ21
    have N21 := Fr.app N20 Nq21
    refine GlW.st (fun _ kk => st21.trans kk) ?_
    show GlW Z consts_1 p e below s _ _ _ T21 (mkF m 118 #[.val (.int p1), .val (.int (2 : Int32)), .val (.ref w_PluginOutcome_PENDING), .val (.ref a16), .val (.int (1 : Int32)), .val (.ref w_TransactionStatus_PENDING)] [(.int (1 : Int32))])
    refine GlW.st (fun _ kk => XS.iload X21.here hx rfl (hb hby at_118) rfl kk) ?_
    show GlW Z consts_1 p e below s _ _ _ T21 (mkF m 120 #[.val (.int p1), .val (.int (2 : Int32)), .val (.ref w_PluginOutcome_PENDING), .val (.ref a16), .val (.int (1 : Int32)), .val (.ref w_TransactionStatus_PENDING)] [(.int (1 : Int32)), (.int (1 : Int32))])
    refine GlW.st (fun _ kk => XS.icmpNo X21.here hx rfl (hb hby at_120) rfl (teq (by decide : (1 : Int32) = (1 : Int32))).2 kk) ?_
    show GlW Z consts_1 p e below s _ _ _ T21 (mkF m 123 #[.val (.int p1), .val (.int (2 : Int32)), .val (.ref w_PluginOutcome_PENDING), .val (.ref a16), .val (.int (1 : Int32)), .val (.ref w_TransactionStatus_PENDING)] [])
    refine GlW.st (fun _ kk => XS.iconst X21.here hx rfl (hb hby at_123) kk) ?_
    show GlW Z consts_1 p e below s _ _ _ T21 (mkF m 124 #[.val (.int p1), .val (.int (2 : Int32)), .val (.ref w_PluginOutcome_PENDING), .val (.ref a16), .val (.int (1 : Int32)), .val (.ref w_TransactionStatus_PENDING)] [(.int (1 : Int32))])
    refine GlW.st (fun _ kk => XS.goto X21.here hx rfl (pc0 := 124) (pc' := 128) rfl (hb hby at_124) (by decide) (by decide) kk) ?_
    show GlW Z consts_1 p e below s _ _ _ T21 (mkF m 128 #[.val (.int p1), .val (.int (2 : Int32)), .val (.ref w_PluginOutcome_PENDING), .val (.ref a16), .val (.int (1 : Int32)), .val (.ref w_TransactionStatus_PENDING)] [(.int (1 : Int32))])
    exact GlW.ret X21 hS16 hk16 hZ hEL hh0 HC16 (v := (some (.int (1 : Int32)))) (fun h => by rw [Bd.returns] at h; cases h) (BodyLoose.notSynchronized Bd) (fun hr => retN X21 hx (t := .boolean) Bd.returns (by simp) (hb hby at_128) hr) e21 ⟨rfl, N21⟩ (by decide) (by decide)
  · rw [hk]
    show GlW Z consts_1 p e below s _ _ _ s₁ (mkF m 7 #[.val (.int p1), .val (.int (3 : Int32)), .unset, .unset, .unset, .unset] [])
    refine GlW.st (fun _ kk => XS.iloadN X0.here hx rfl (hb hby at_7) rfl kk) ?_
    show GlW Z consts_1 p e below s _ _ _ s₁ (mkF m 8 #[.val (.int p1), .val (.int (3 : Int32)), .unset, .unset, .unset, .unset] [(.int (3 : Int32))])
    refine GlW.st (fun _ kk => XS.ifYes X0.here hx rfl (pc0 := 8) (pc' := 24) rfl (hb hby at_8) rfl ((if0 _ _).trans (feq (by decide : ¬ ((3 : Int32) = (0 : Int32)))).2) (by decide) (by decide) kk) ?_
    show GlW Z consts_1 p e below s _ _ _ s₁ (mkF m 24 #[.val (.int p1), .val (.int (3 : Int32)), .unset, .unset, .unset, .unset] [])
    refine GlW.st (fun _ kk => XS.iloadN X0.here hx rfl (hb hby at_24) rfl kk) ?_
    show GlW Z consts_1 p e below s _ _ _ s₁ (mkF m 25 #[.val (.int p1), .val (.int (3 : Int32)), .unset, .unset, .unset, .unset] [(.int (3 : Int32))])
    refine GlW.st (fun _ kk => XS.iconst X0.here hx rfl (hb hby at_25) kk) ?_
    show GlW Z consts_1 p e below s _ _ _ s₁ (mkF m 26 #[.val (.int p1), .val (.int (3 : Int32)), .unset, .unset, .unset, .unset] [(.int (1 : Int32)), (.int (3 : Int32))])
    refine GlW.st (fun _ kk => XS.icmpYes X0.here hx rfl (pc0 := 26) (pc' := 42) rfl (hb hby at_26) rfl (feq (by decide : ¬ ((3 : Int32) = (1 : Int32)))).2 (by decide) (by decide) kk) ?_
    show GlW Z consts_1 p e below s _ _ _ s₁ (mkF m 42 #[.val (.int p1), .val (.int (3 : Int32)), .unset, .unset, .unset, .unset] [])
    refine GlW.st (fun _ kk => XS.iloadN X0.here hx rfl (hb hby at_42) rfl kk) ?_
    show GlW Z consts_1 p e below s _ _ _ s₁ (mkF m 43 #[.val (.int p1), .val (.int (3 : Int32)), .unset, .unset, .unset, .unset] [(.int (3 : Int32))])
    refine GlW.st (fun _ kk => XS.iconst X0.here hx rfl (hb hby at_43) kk) ?_
    show GlW Z consts_1 p e below s _ _ _ s₁ (mkF m 44 #[.val (.int p1), .val (.int (3 : Int32)), .unset, .unset, .unset, .unset] [(.int (2 : Int32)), (.int (3 : Int32))])
    refine GlW.st (fun _ kk => XS.icmpYes X0.here hx rfl (pc0 := 44) (pc' := 60) rfl (hb hby at_44) rfl (feq (by decide : ¬ ((3 : Int32) = (2 : Int32)))).2 (by decide) (by decide) kk) ?_
    show GlW Z consts_1 p e below s _ _ _ s₁ (mkF m 60 #[.val (.int p1), .val (.int (3 : Int32)), .unset, .unset, .unset, .unset] [])
    refine GlW.st (fun _ kk => XS.iloadN X0.here hx rfl (hb hby at_60) rfl kk) ?_
    show GlW Z consts_1 p e below s _ _ _ s₁ (mkF m 61 #[.val (.int p1), .val (.int (3 : Int32)), .unset, .unset, .unset, .unset] [(.int (3 : Int32))])
    refine GlW.st (fun _ kk => XS.iconst X0.here hx rfl (hb hby at_61) kk) ?_
    show GlW Z consts_1 p e below s _ _ _ s₁ (mkF m 62 #[.val (.int p1), .val (.int (3 : Int32)), .unset, .unset, .unset, .unset] [(.int (3 : Int32)), (.int (3 : Int32))])
    refine GlW.st (fun _ kk => XS.icmpNo X0.here hx rfl (hb hby at_62) rfl (teq (by decide : (3 : Int32) = (3 : Int32))).2 kk) ?_
    show GlW Z consts_1 p e below s _ _ _ s₁ (mkF m 65 #[.val (.int p1), .val (.int (3 : Int32)), .unset, .unset, .unset, .unset] [])
    obtain ⟨T22, X22, e22, st22⟩ := getS2 X0 hx hZ hown (host := "") (Or.inl (hw _ (List.mem_of_getElem? (i := 58) rfl))) Via.refl e0 (S_w_PluginOutcome_CANCELED.ext O0.2) (g := (mkF m 65 #[.val (.int p1), .val (.int (3 : Int32)), .unset, .unset, .unset, .unset] [])) rfl (hb hby at_65)
    refine GlW.st st22 ?_
    show GlW Z consts_1 p e below s _ _ _ T22 (mkF m 68 #[.val (.int p1), .val (.int (3 : Int32)), .unset, .unset, .unset, .unset] [(.ref w_PluginOutcome_CANCELED)])
    refine GlW.st (fun _ kk => XS.astoreN X22.here hx rfl (hb hby at_68) rfl rfl (l' := #[.val (.int p1), .val (.int (3 : Int32)), .val (.ref w_PluginOutcome_CANCELED), .unset, .unset, .unset]) rfl kk) ?_
    show GlW Z consts_1 p e below s _ _ _ T22 (mkF m 69 #[.val (.int p1), .val (.int (3 : Int32)), .val (.ref w_PluginOutcome_CANCELED), .unset, .unset, .unset] [])
    obtain ⟨a23, T23, h23, k23, b23, kc23, X23, e23, E23, hS23, hk23, hZ23, hown23, Exa_a23, F_coder_a23, F_value_a23, Arv_b23, lta23, ltb23, HR23, Li23, sf23, st23⟩ := ldcCH X22 hx hZ hown (hw _ (List.mem_of_getElem? (i := 60) rfl)) hwS e22 hS0 hk0 hEL (List.mem_of_getElem? (i := 3) rfl) HC0.1 (vs := [(.int (69 : Int32)), (.int (82 : Int32)), (.int (82 : Int32)), (.int (79 : Int32)), (.int (82 : Int32)), (.int (69 : Int32)), (.int (68 : Int32))]) (z := 7) ⟨by decide +kernel, by decide +kernel⟩ (by decide) rfl (g := (mkF m 69 #[.val (.int p1), .val (.int (3 : Int32)), .val (.ref w_PluginOutcome_CANCELED), .unset, .unset, .unset] [])) rfl (hb hby at_69) (n := 28) (by decide) (by decide) (by decide) (by decide)
    refine GlW.st st23 ?_
    have O23 := O0.ext E23
    have K23 := (Keep.refl h0 []).ext E23
    have HC23 := HC0.trans HR23
    have hZ := hZ23
    have hown := hown23
    show GlW Z consts_1 p e below s _ _ _ T23 (mkF m 71 #[.val (.int p1), .val (.int (3 : Int32)), .val (.ref w_PluginOutcome_CANCELED), .unset, .unset, .unset] [(.ref a23)])
    refine GlW.st (fun _ kk => XS.astoreN X23.here hx rfl (hb hby at_71) rfl rfl (l' := #[.val (.int p1), .val (.int (3 : Int32)), .val (.ref w_PluginOutcome_CANCELED), .val (.ref a23), .unset, .unset]) rfl kk) ?_
    show GlW Z consts_1 p e below s _ _ _ T23 (mkF m 72 #[.val (.int p1), .val (.int (3 : Int32)), .val (.ref w_PluginOutcome_CANCELED), .val (.ref a23), .unset, .unset] [])
    refine GlW.st (fun _ kk => XS.iconst X23.here hx rfl (hb hby at_72) kk) ?_
    show GlW Z consts_1 p e below s _ _ _ T23 (mkF m 73 #[.val (.int p1), .val (.int (3 : Int32)), .val (.ref w_PluginOutcome_CANCELED), .val (.ref a23), .unset, .unset] [(.int (0 : Int32))])
    refine GlW.st (fun _ kk => XS.istore X23.here hx rfl (hb hby at_73) rfl (l' := #[.val (.int p1), .val (.int (3 : Int32)), .val (.ref w_PluginOutcome_CANCELED), .val (.ref a23), .val (.int (0 : Int32)), .unset]) rfl kk) ?_
    show GlW Z consts_1 p e below s _ _ _ T23 (mkF m 75 #[.val (.int p1), .val (.int (3 : Int32)), .val (.ref w_PluginOutcome_CANCELED), .val (.ref a23), .val (.int (0 : Int32)), .unset] [])
    refine GlW.st (fun _ kk => XS.goto X23.here hx rfl (pc0 := 75) (pc' := 88) rfl (hb hby at_75) (by decide) (by decide) kk) ?_
    show GlW Z consts_1 p e below s _ _ _ T23 (mkF m 88 #[.val (.int p1), .val (.int (3 : Int32)), .val (.ref w_PluginOutcome_CANCELED), .val (.ref a23), .val (.int (0 : Int32)), .unset] [])
    refine GlW.st (fun _ kk => XS.aloadN X23.here hx rfl (hb hby at_88) rfl rfl kk) ?_
    show GlW Z consts_1 p e below s _ _ _ T23 (mkF m 89 #[.val (.int p1), .val (.int (3 : Int32)), .val (.ref w_PluginOutcome_CANCELED), .val (.ref a23), .val (.int (0 : Int32)), .unset] [(.ref w_PluginOutcome_CANCELED)])
    obtain ⟨v24, _, ⟨T24, L24, k24, n24⟩, -, X24, ⟨Lc24, hQ24, l24, y24, z24⟩, st24⟩ := Jvm.LawKit.callS X23 hx (y := (⟨"com/example/tender/tender/payment/TransactionStatus", "of", "(Lcom/example/tender/tender/plugin/api/PluginOutcome;)Lcom/example/tender/tender/payment/TransactionStatus;"⟩ : MethodName)) hown (mvT hZ (hw _ (List.mem_of_getElem? (i := 12) rfl))) (mvT hZ (hw _ (List.mem_of_getElem? (i := 13) rfl))) (mvT hZ (hw _ (List.mem_of_getElem? (i := 14) rfl))) (mvT hZ (hw _ (List.mem_of_getElem? (i := 15) rfl))) (by decide) (backOf (W := 0) (rm1 l Z a0 hw [] w_PluginOutcome_CANCELED w_TransactionStatus_SUCCESS w_TransactionStatus_PAYMENT_FAILURE w_TransactionStatus_PENDING w_TransactionStatus_PLUGIN_FAILURE w_TransactionStatus_UNKNOWN w_TransactionStatus_1__SwitchMap_com_example_tender_tender_plugin_api_PluginOutcome k_w_TransactionStatus_1__SwitchMap_com_example_tender_tender_plugin_api_PluginOutcome 3 w_TransactionStatus_PLUGIN_FAILURE h23 n0 O23 S_w_TransactionStatus_SUCCESS S_w_TransactionStatus_PAYMENT_FAILURE S_w_TransactionStatus_PENDING S_w_TransactionStatus_PLUGIN_FAILURE S_w_TransactionStatus_UNKNOWN S_w_TransactionStatus_1__SwitchMap_com_example_tender_tender_plugin_api_PluginOutcome V_w_TransactionStatus_1__SwitchMap_com_example_tender_tender_plugin_api_PluginOutcome E_w_PluginOutcome_CANCELED F_ordinal_w_PluginOutcome_CANCELED (Or.inr (Or.inr (Or.inr (Or.inl ⟨rfl, rfl⟩))))) hZ (hw _ (List.mem_of_getElem? (i := 15) rfl)) (hw _ (List.mem_of_getElem? (i := 14) rfl)) (by decide) (by decide)) (g := (mkF m 89 #[.val (.int p1), .val (.int (3 : Int32)), .val (.ref w_PluginOutcome_CANCELED), .val (.ref a23), .val (.int (0 : Int32)), .unset] [(.ref w_PluginOutcome_CANCELED)])) rfl (by rw [hml]; rfl) (argsL := [(.ref w_PluginOutcome_CANCELED)]) (rest := []) (lenOf pd_rm0_0 rfl) rfl (by show 2 * 0 + _ ≤ _; exact Nat.le_of_eq rfl) (hb hby at_89) (fun _ _ => ⟨rfl, e23, (by decide : 2 + 0 ≤ _), (by decide : 32 + 0 ≤ _)⟩)
    dsimp only [Pt.U, Pt.locs, Pt.cells, Pt.slots] at X24 l24 y24 z24 st24 hQ24
    subst l24 y24 z24
    obtain ⟨rfl, Nq24, e24⟩ := hQ24
    have N24 := Fr.app N0 Nq24
    refine GlW.st st24 ?_
    show GlW Z consts_1 p e below s _ _ _ T24 (mkF m 92 #[.val (.int p1), .val (.int (3 : Int32)), .val (.ref w_PluginOutcome_CANCELED), .val (.ref a23), .val (.int (0 : Int32)), .unset] [(.ref w_TransactionStatus_PLUGIN_FAILURE)])
    refine GlW.st (fun _ kk => XS.astore X24.here hx rfl (hb hby at_92) rfl rfl (l' := #[.val (.int p1), .val (.int (3 : Int32)), .val (.ref w_PluginOutcome_CANCELED), .val (.ref a23), .val (.int (0 : Int32)), .val (.ref w_TransactionStatus_PLUGIN_FAILURE)]) rfl kk) ?_
    show GlW Z consts_1 p e below s _ _ _ T24 (mkF m 94 #[.val (.int p1), .val (.int (3 : Int32)), .val (.ref w_PluginOutcome_CANCELED), .val (.ref a23), .val (.int (0 : Int32)), .val (.ref w_TransactionStatus_PLUGIN_FAILURE)] [])
    refine GlW.st (fun _ kk => XS.aload X24.here hx rfl (hb hby at_94) rfl rfl kk) ?_
    show GlW Z consts_1 p e below s _ _ _ T24 (mkF m 96 #[.val (.int p1), .val (.int (3 : Int32)), .val (.ref w_PluginOutcome_CANCELED), .val (.ref a23), .val (.int (0 : Int32)), .val (.ref w_TransactionStatus_PLUGIN_FAILURE)] [(.ref w_TransactionStatus_PLUGIN_FAILURE)])
    refine GlW.st (fun _ kk => XS.ifnonnullYes X24.here hx rfl (pc0 := 96) (pc' := 101) rfl (hb hby at_96) rfl (by decide) (by decide) kk) ?_
    show GlW Z consts_1 p e below s _ _ _ T24 (mkF m 101 #[.val (.int p1), .val (.int (3 : Int32)), .val (.ref w_PluginOutcome_CANCELED), .val (.ref a23), .val (.int (0 : Int32)), .val (.ref w_TransactionStatus_PLUGIN_FAILURE)] [])
    refine GlW.st (fun _ kk => XS.aload X24.here hx rfl (hb hby at_101) rfl rfl kk) ?_
    show GlW Z consts_1 p e below s _ _ _ T24 (mkF m 103 #[.val (.int p1), .val (.int (3 : Int32)), .val (.ref w_PluginOutcome_CANCELED), .val (.ref a23), .val (.int (0 : Int32)), .val (.ref w_TransactionStatus_PLUGIN_FAILURE)] [(.ref w_TransactionStatus_PLUGIN_FAILURE)])
    obtain ⟨cq25, kq25, qa25, qb25, qc25⟩ := isOf hZ e24 (E_w_TransactionStatus_PLUGIN_FAILURE.ext O23.2)
    obtain ⟨v25, _, ⟨T25, L25, k25, n25⟩, -, X25, ⟨Lc25, hQ25, l25, y25, z25⟩, st25⟩ := X24.virtualBack hx (y := (⟨"com/example/tender/tender/payment/TransactionStatus", "stateSuffix", "()Ljava/lang/String;"⟩ : MethodName)) (z := (⟨"com/example/tender/tender/payment/TransactionStatus", "stateSuffix", "()Ljava/lang/String;"⟩ : MethodName)) hown (mvT hZ (hw _ (List.mem_of_getElem? (i := 30) rfl))) (mvT hZ (hw _ (List.mem_of_getElem? (i := 31) rfl))) (notFace_of_selects (args := #[]) (mvT hZ (hw _ (List.mem_of_getElem? (i := 33) rfl)))) (mvT hZ (hw _ (List.mem_of_getElem? (i := 33) rfl))) (mvT hZ (hw _ (List.mem_of_getElem? (i := 32) rfl))) (by decide) (backOf (W := 0) (rm3 l Z a0 hw [] w_TransactionStatus_PLUGIN_FAILURE w_TransactionStatus_PLUGIN_FAILURE_stateSuffix h23 n0 O23 F_stateSuffix_w_TransactionStatus_PLUGIN_FAILURE) hZ (hw _ (List.mem_of_getElem? (i := 34) rfl)) (hw _ (List.mem_of_getElem? (i := 14) rfl)) (by decide) (by decide)) qa25 qc25 (g := (mkF m 103 #[.val (.int p1), .val (.int (3 : Int32)), .val (.ref w_PluginOutcome_CANCELED), .val (.ref a23), .val (.int (0 : Int32)), .val (.ref w_TransactionStatus_PLUGIN_FAILURE)] [(.ref w_TransactionStatus_PLUGIN_FAILURE)])) rfl (by rw [hml]; rfl) (Steps.refl _) (argsL := []) (rest := []) (lenOf pd_rm0_1 rfl) rfl (by show 2 * 0 + _ ≤ _; exact Nat.le_of_eq rfl) (hb hby at_103) (fun _ _ => ⟨rfl, e24, (by decide : 2 + 0 ≤ _), (by decide : 32 + 0 ≤ _)⟩)
    dsimp only [Pt.U, Pt.locs, Pt.cells, Pt.slots] at X25 l25 y25 z25 st25 hQ25
    subst l25 y25 z25
    obtain ⟨rfl, Nq25, e25⟩ := hQ25
    have N25 := Fr.app N24 Nq25
    refine GlW.st (fun _ kk => st25.trans kk) ?_
    show GlW Z consts_1 p e below s _ _ _ T25 (mkF m 106 #[.val (.int p1), .val (.int (3 : Int32)), .val (.ref w_PluginOutcome_CANCELED), .val (.ref a23), .val (.int (0 : Int32)), .val (.ref w_TransactionStatus_PLUGIN_FAILURE)] [(.ref w_TransactionStatus_PLUGIN_FAILURE_stateSuffix)])
    refine GlW.st (fun _ kk => XS.aloadN X25.here hx rfl (hb hby at_106) rfl rfl kk) ?_
    show GlW Z consts_1 p e below s _ _ _ T25 (mkF m 107 #[.val (.int p1), .val (.int (3 : Int32)), .val (.ref w_PluginOutcome_CANCELED), .val (.ref a23), .val (.int (0 : Int32)), .val (.ref w_TransactionStatus_PLUGIN_FAILURE)] [(.ref a23), (.ref w_TransactionStatus_PLUGIN_FAILURE_stateSuffix)])
    obtain ⟨cq27, kq27, qa27, qb27, qc27⟩ := isOf hZ e25 (E_w_TransactionStatus_PLUGIN_FAILURE_stateSuffix.ext O23.2)
    obtain ⟨v27, _, ⟨T27, L27, k27, n27⟩, -, X27, ⟨Lc27, hQ27, l27, y27, z27⟩, st27⟩ := X25.virtualBack hx (y := (⟨"java/lang/String", "equals", "(Ljava/lang/Object;)Z"⟩ : MethodName)) (z := (⟨"java/lang/String", "equals", "(Ljava/lang/Object;)Z"⟩ : MethodName)) hown (mvT hZ (hw _ (List.mem_of_getElem? (i := 37) rfl))) (mvT hZ (hw _ (List.mem_of_getElem? (i := 38) rfl))) (notFace_of_selects (args := #[]) (mvT hZ (hw _ (List.mem_of_getElem? (i := 40) rfl)))) (mvT hZ (hw _ (List.mem_of_getElem? (i := 40) rfl))) (mvT hZ (hw _ (List.mem_of_getElem? (i := 39) rfl))) (by decide) (backOf (W := 0) (rmSE l Z a0 hw [] w_TransactionStatus_PLUGIN_FAILURE_stateSuffix a23 w_TransactionStatus_PLUGIN_FAILURE_stateSuffix_value b23 k_w_TransactionStatus_PLUGIN_FAILURE_stateSuffix_value kc23 [(69 : Int32), (82 : Int32), (82 : Int32), (79 : Int32), (82 : Int32), (69 : Int32), (68 : Int32)] [(69 : Int32), (82 : Int32), (82 : Int32), (79 : Int32), (82 : Int32), (69 : Int32), (68 : Int32)] cz 1 h23 n0 O23 (E_w_TransactionStatus_PLUGIN_FAILURE_stateSuffix.ext O23.2) (F_value_w_TransactionStatus_PLUGIN_FAILURE_stateSuffix.ext O23.2) (F_coder_w_TransactionStatus_PLUGIN_FAILURE_stateSuffix.ext O23.2) (V_w_TransactionStatus_PLUGIN_FAILURE_stateSuffix_value.ext O23.2) (by decide) Exa_a23 F_value_a23 F_coder_a23 Arv_b23 (by decide) S_COMPACT hcz (by decide)) hZ (hw _ (List.mem_of_getElem? (i := 41) rfl)) (hw _ (List.mem_of_getElem? (i := 5) rfl)) (by decide) (by decide)) qa27 qc27 (g := (mkF m 107 #[.val (.int p1), .val (.int (3 : Int32)), .val (.ref w_PluginOutcome_CANCELED), .val (.ref a23), .val (.int (0 : Int32)), .val (.ref w_TransactionStatus_PLUGIN_FAILURE)] [(.ref a23), (.ref w_TransactionStatus_PLUGIN_FAILURE_stateSuffix)])) rfl (by rw [hml]; rfl) (Steps.refl _) (argsL := [(.ref a23)]) (rest := []) (lenOf pd_rm0_2 rfl) rfl (by show 2 * 0 + _ ≤ _; exact Nat.le_of_eq rfl) (hb hby at_107) (fun _ _ => ⟨rfl, e25, (by decide : 2 + 0 ≤ _), (by decide : 32 + 0 ≤ _)⟩)
    dsimp only [Pt.U, Pt.locs, Pt.cells, Pt.slots] at X27 l27 y27 z27 st27 hQ27
    subst l27 y27 z27
    obtain ⟨rfl, Nq27, e27⟩ := hQ27
    have N27 := Fr.app N25 Nq27
    refine GlW.st (fun _ kk => st27.trans kk) ?_
    show GlW Z consts_1 p e below s _ _ _ T27 (mkF m 110 #[.val (.int p1), .val (.int (3 : Int32)), .val (.ref w_PluginOutcome_CANCELED), .val (.ref a23), .val (.int (0 : Int32)), .val (.ref w_TransactionStatus_PLUGIN_FAILURE)] [(.int (1 : Int32))])
    refine GlW.st (fun _ kk => XS.ifNo X27.here hx rfl (hb hby at_110) rfl ((if0 _ _).trans (feq (by decide : ¬ ((1 : Int32) = (0 : Int32)))).1) kk) ?_
    show GlW Z consts_1 p e below s _ _ _ T27 (mkF m 113 #[.val (.int p1), .val (.int (3 : Int32)), .val (.ref w_PluginOutcome_CANCELED), .val (.ref a23), .val (.int (0 : Int32)), .val (.ref w_TransactionStatus_PLUGIN_FAILURE)] [])
    refine GlW.st (fun _ kk => XS.aload X27.here hx rfl (hb hby at_113) rfl rfl kk) ?_
    show GlW Z consts_1 p e below s _ _ _ T27 (mkF m 115 #[.val (.int p1), .val (.int (3 : Int32)), .val (.ref w_PluginOutcome_CANCELED), .val (.ref a23), .val (.int (0 : Int32)), .val (.ref w_TransactionStatus_PLUGIN_FAILURE)] [(.ref w_TransactionStatus_PLUGIN_FAILURE)])
    obtain ⟨cq28, kq28, qa28, qb28, qc28⟩ := isOf hZ e27 (E_w_TransactionStatus_PLUGIN_FAILURE.ext O23.2)
    obtain ⟨v28, _, ⟨T28, L28, k28, n28⟩, -, X28, ⟨Lc28, hQ28, l28, y28, z28⟩, st28⟩ := X27.virtualBack hx (y := (⟨"com/example/tender/tender/payment/TransactionStatus", "isInDoubt", "()Z"⟩ : MethodName)) (z := (⟨"com/example/tender/tender/payment/TransactionStatus", "isInDoubt", "()Z"⟩ : MethodName)) hown (mvT hZ (hw _ (List.mem_of_getElem? (i := 51) rfl))) (mvT hZ (hw _ (List.mem_of_getElem? (i := 52) rfl))) (notFace_of_selects (args := #[]) (mvT hZ (hw _ (List.mem_of_getElem? (i := 54) rfl)))) (mvT hZ (hw _ (List.mem_of_getElem? (i := 54) rfl))) (mvT hZ (hw _ (List.mem_of_getElem? (i := 53) rfl))) (by decide) (backOf (W := 0) (rm6 l Z a0 hw [] w_TransactionStatus_PLUGIN_FAILURE 0 h23 n0 O23 F_inDoubt_w_TransactionStatus_PLUGIN_FAILURE (by decide)) hZ (hw _ (List.mem_of_getElem? (i := 55) rfl)) (hw _ (List.mem_of_getElem? (i := 14) rfl)) (by decide) (by decide)) qa28 qc28 (g := (mkF m 115 #[.val (.int p1), .val (.int (3 : Int32)), .val (.ref w_PluginOutcome_CANCELED), .val (.ref a23), .val (.int (0 : Int32)), .val (.ref w_TransactionStatus_PLUGIN_FAILURE)] [(.ref w_TransactionStatus_PLUGIN_FAILURE)])) rfl (by rw [hml]; rfl) (Steps.refl _) (argsL := []) (rest := []) (lenOf pd_rm0_3 rfl) rfl (by show 2 * 0 + _ ≤ _; exact Nat.le_of_eq rfl) (hb hby at_115) (fun _ _ => ⟨rfl, e27, (by decide : 2 + 0 ≤ _), (by decide : 32 + 0 ≤ _)⟩)
    dsimp only [Pt.U, Pt.locs, Pt.cells, Pt.slots] at X28 l28 y28 z28 st28 hQ28
    subst l28 y28 z28
    obtain ⟨rfl, Nq28, e28⟩ := hQ28
    have N28 := Fr.app N27 Nq28
    refine GlW.st (fun _ kk => st28.trans kk) ?_
    show GlW Z consts_1 p e below s _ _ _ T28 (mkF m 118 #[.val (.int p1), .val (.int (3 : Int32)), .val (.ref w_PluginOutcome_CANCELED), .val (.ref a23), .val (.int (0 : Int32)), .val (.ref w_TransactionStatus_PLUGIN_FAILURE)] [(.int (0 : Int32))])
    refine GlW.st (fun _ kk => XS.iload X28.here hx rfl (hb hby at_118) rfl kk) ?_
    show GlW Z consts_1 p e below s _ _ _ T28 (mkF m 120 #[.val (.int p1), .val (.int (3 : Int32)), .val (.ref w_PluginOutcome_CANCELED), .val (.ref a23), .val (.int (0 : Int32)), .val (.ref w_TransactionStatus_PLUGIN_FAILURE)] [(.int (0 : Int32)), (.int (0 : Int32))])
    refine GlW.st (fun _ kk => XS.icmpNo X28.here hx rfl (hb hby at_120) rfl (teq (by decide : (0 : Int32) = (0 : Int32))).2 kk) ?_
    show GlW Z consts_1 p e below s _ _ _ T28 (mkF m 123 #[.val (.int p1), .val (.int (3 : Int32)), .val (.ref w_PluginOutcome_CANCELED), .val (.ref a23), .val (.int (0 : Int32)), .val (.ref w_TransactionStatus_PLUGIN_FAILURE)] [])
    refine GlW.st (fun _ kk => XS.iconst X28.here hx rfl (hb hby at_123) kk) ?_
    show GlW Z consts_1 p e below s _ _ _ T28 (mkF m 124 #[.val (.int p1), .val (.int (3 : Int32)), .val (.ref w_PluginOutcome_CANCELED), .val (.ref a23), .val (.int (0 : Int32)), .val (.ref w_TransactionStatus_PLUGIN_FAILURE)] [(.int (1 : Int32))])
    refine GlW.st (fun _ kk => XS.goto X28.here hx rfl (pc0 := 124) (pc' := 128) rfl (hb hby at_124) (by decide) (by decide) kk) ?_
    show GlW Z consts_1 p e below s _ _ _ T28 (mkF m 128 #[.val (.int p1), .val (.int (3 : Int32)), .val (.ref w_PluginOutcome_CANCELED), .val (.ref a23), .val (.int (0 : Int32)), .val (.ref w_TransactionStatus_PLUGIN_FAILURE)] [(.int (1 : Int32))])
    exact GlW.ret X28 hS23 hk23 hZ hEL hh0 HC23 (v := (some (.int (1 : Int32)))) (fun h => by rw [Bd.returns] at h; cases h) (BodyLoose.notSynchronized Bd) (fun hr => retN X28 hx (t := .boolean) Bd.returns (by simp) (hb hby at_128) hr) e28 ⟨rfl, N28⟩ (by decide) (by decide)
  · rw [hk]
    show GlW Z consts_1 p e below s _ _ _ s₁ (mkF m 7 #[.val (.int p1), .val (.int (4 : Int32)), .unset, .unset, .unset, .unset] [])
    refine GlW.st (fun _ kk => XS.iloadN X0.here hx rfl (hb hby at_7) rfl kk) ?_
    show GlW Z consts_1 p e below s _ _ _ s₁ (mkF m 8 #[.val (.int p1), .val (.int (4 : Int32)), .unset, .unset, .unset, .unset] [(.int (4 : Int32))])
    refine GlW.st (fun _ kk => XS.ifYes X0.here hx rfl (pc0 := 8) (pc' := 24) rfl (hb hby at_8) rfl ((if0 _ _).trans (feq (by decide : ¬ ((4 : Int32) = (0 : Int32)))).2) (by decide) (by decide) kk) ?_
    show GlW Z consts_1 p e below s _ _ _ s₁ (mkF m 24 #[.val (.int p1), .val (.int (4 : Int32)), .unset, .unset, .unset, .unset] [])
    refine GlW.st (fun _ kk => XS.iloadN X0.here hx rfl (hb hby at_24) rfl kk) ?_
    show GlW Z consts_1 p e below s _ _ _ s₁ (mkF m 25 #[.val (.int p1), .val (.int (4 : Int32)), .unset, .unset, .unset, .unset] [(.int (4 : Int32))])
    refine GlW.st (fun _ kk => XS.iconst X0.here hx rfl (hb hby at_25) kk) ?_
    show GlW Z consts_1 p e below s _ _ _ s₁ (mkF m 26 #[.val (.int p1), .val (.int (4 : Int32)), .unset, .unset, .unset, .unset] [(.int (1 : Int32)), (.int (4 : Int32))])
    refine GlW.st (fun _ kk => XS.icmpYes X0.here hx rfl (pc0 := 26) (pc' := 42) rfl (hb hby at_26) rfl (feq (by decide : ¬ ((4 : Int32) = (1 : Int32)))).2 (by decide) (by decide) kk) ?_
    show GlW Z consts_1 p e below s _ _ _ s₁ (mkF m 42 #[.val (.int p1), .val (.int (4 : Int32)), .unset, .unset, .unset, .unset] [])
    refine GlW.st (fun _ kk => XS.iloadN X0.here hx rfl (hb hby at_42) rfl kk) ?_
    show GlW Z consts_1 p e below s _ _ _ s₁ (mkF m 43 #[.val (.int p1), .val (.int (4 : Int32)), .unset, .unset, .unset, .unset] [(.int (4 : Int32))])
    refine GlW.st (fun _ kk => XS.iconst X0.here hx rfl (hb hby at_43) kk) ?_
    show GlW Z consts_1 p e below s _ _ _ s₁ (mkF m 44 #[.val (.int p1), .val (.int (4 : Int32)), .unset, .unset, .unset, .unset] [(.int (2 : Int32)), (.int (4 : Int32))])
    refine GlW.st (fun _ kk => XS.icmpYes X0.here hx rfl (pc0 := 44) (pc' := 60) rfl (hb hby at_44) rfl (feq (by decide : ¬ ((4 : Int32) = (2 : Int32)))).2 (by decide) (by decide) kk) ?_
    show GlW Z consts_1 p e below s _ _ _ s₁ (mkF m 60 #[.val (.int p1), .val (.int (4 : Int32)), .unset, .unset, .unset, .unset] [])
    refine GlW.st (fun _ kk => XS.iloadN X0.here hx rfl (hb hby at_60) rfl kk) ?_
    show GlW Z consts_1 p e below s _ _ _ s₁ (mkF m 61 #[.val (.int p1), .val (.int (4 : Int32)), .unset, .unset, .unset, .unset] [(.int (4 : Int32))])
    refine GlW.st (fun _ kk => XS.iconst X0.here hx rfl (hb hby at_61) kk) ?_
    show GlW Z consts_1 p e below s _ _ _ s₁ (mkF m 62 #[.val (.int p1), .val (.int (4 : Int32)), .unset, .unset, .unset, .unset] [(.int (3 : Int32)), (.int (4 : Int32))])
    refine GlW.st (fun _ kk => XS.icmpYes X0.here hx rfl (pc0 := 62) (pc' := 78) rfl (hb hby at_62) rfl (feq (by decide : ¬ ((4 : Int32) = (3 : Int32)))).2 (by decide) (by decide) kk) ?_
    show GlW Z consts_1 p e below s _ _ _ s₁ (mkF m 78 #[.val (.int p1), .val (.int (4 : Int32)), .unset, .unset, .unset, .unset] [])
    obtain ⟨T29, X29, e29, st29⟩ := getS2 X0 hx hZ hown (host := "") (Or.inl (hw _ (List.mem_of_getElem? (i := 68) rfl))) Via.refl e0 (S_w_PluginOutcome_UNDEFINED.ext O0.2) (g := (mkF m 78 #[.val (.int p1), .val (.int (4 : Int32)), .unset, .unset, .unset, .unset] [])) rfl (hb hby at_78)
    refine GlW.st st29 ?_
    show GlW Z consts_1 p e below s _ _ _ T29 (mkF m 81 #[.val (.int p1), .val (.int (4 : Int32)), .unset, .unset, .unset, .unset] [(.ref w_PluginOutcome_UNDEFINED)])
    refine GlW.st (fun _ kk => XS.astoreN X29.here hx rfl (hb hby at_81) rfl rfl (l' := #[.val (.int p1), .val (.int (4 : Int32)), .val (.ref w_PluginOutcome_UNDEFINED), .unset, .unset, .unset]) rfl kk) ?_
    show GlW Z consts_1 p e below s _ _ _ T29 (mkF m 82 #[.val (.int p1), .val (.int (4 : Int32)), .val (.ref w_PluginOutcome_UNDEFINED), .unset, .unset, .unset] [])
    obtain ⟨a30, T30, h30, k30, b30, kc30, X30, e30, E30, hS30, hk30, hZ30, hown30, Exa_a30, F_coder_a30, F_value_a30, Arv_b30, lta30, ltb30, HR30, Li30, sf30, st30⟩ := ldcCH X29 hx hZ hown (hw _ (List.mem_of_getElem? (i := 60) rfl)) hwS e29 hS0 hk0 hEL (List.mem_of_getElem? (i := 3) rfl) HC0.1 (vs := [(.int (69 : Int32)), (.int (82 : Int32)), (.int (82 : Int32)), (.int (79 : Int32)), (.int (82 : Int32)), (.int (69 : Int32)), (.int (68 : Int32))]) (z := 7) ⟨by decide +kernel, by decide +kernel⟩ (by decide) rfl (g := (mkF m 82 #[.val (.int p1), .val (.int (4 : Int32)), .val (.ref w_PluginOutcome_UNDEFINED), .unset, .unset, .unset] [])) rfl (hb hby at_82) (n := 28) (by decide) (by decide) (by decide) (by decide)
    refine GlW.st st30 ?_
    have O30 := O0.ext E30
    have K30 := (Keep.refl h0 []).ext E30
    have HC30 := HC0.trans HR30
    have hZ := hZ30
    have hown := hown30
    show GlW Z consts_1 p e below s _ _ _ T30 (mkF m 84 #[.val (.int p1), .val (.int (4 : Int32)), .val (.ref w_PluginOutcome_UNDEFINED), .unset, .unset, .unset] [(.ref a30)])
    refine GlW.st (fun _ kk => XS.astoreN X30.here hx rfl (hb hby at_84) rfl rfl (l' := #[.val (.int p1), .val (.int (4 : Int32)), .val (.ref w_PluginOutcome_UNDEFINED), .val (.ref a30), .unset, .unset]) rfl kk) ?_
    show GlW Z consts_1 p e below s _ _ _ T30 (mkF m 85 #[.val (.int p1), .val (.int (4 : Int32)), .val (.ref w_PluginOutcome_UNDEFINED), .val (.ref a30), .unset, .unset] [])
    refine GlW.st (fun _ kk => XS.iconst X30.here hx rfl (hb hby at_85) kk) ?_
    show GlW Z consts_1 p e below s _ _ _ T30 (mkF m 86 #[.val (.int p1), .val (.int (4 : Int32)), .val (.ref w_PluginOutcome_UNDEFINED), .val (.ref a30), .unset, .unset] [(.int (1 : Int32))])
    refine GlW.st (fun _ kk => XS.istore X30.here hx rfl (hb hby at_86) rfl (l' := #[.val (.int p1), .val (.int (4 : Int32)), .val (.ref w_PluginOutcome_UNDEFINED), .val (.ref a30), .val (.int (1 : Int32)), .unset]) rfl kk) ?_
    show GlW Z consts_1 p e below s _ _ _ T30 (mkF m 88 #[.val (.int p1), .val (.int (4 : Int32)), .val (.ref w_PluginOutcome_UNDEFINED), .val (.ref a30), .val (.int (1 : Int32)), .unset] [])
    refine GlW.st (fun _ kk => XS.aloadN X30.here hx rfl (hb hby at_88) rfl rfl kk) ?_
    show GlW Z consts_1 p e below s _ _ _ T30 (mkF m 89 #[.val (.int p1), .val (.int (4 : Int32)), .val (.ref w_PluginOutcome_UNDEFINED), .val (.ref a30), .val (.int (1 : Int32)), .unset] [(.ref w_PluginOutcome_UNDEFINED)])
    obtain ⟨v31, _, ⟨T31, L31, k31, n31⟩, -, X31, ⟨Lc31, hQ31, l31, y31, z31⟩, st31⟩ := Jvm.LawKit.callS X30 hx (y := (⟨"com/example/tender/tender/payment/TransactionStatus", "of", "(Lcom/example/tender/tender/plugin/api/PluginOutcome;)Lcom/example/tender/tender/payment/TransactionStatus;"⟩ : MethodName)) hown (mvT hZ (hw _ (List.mem_of_getElem? (i := 12) rfl))) (mvT hZ (hw _ (List.mem_of_getElem? (i := 13) rfl))) (mvT hZ (hw _ (List.mem_of_getElem? (i := 14) rfl))) (mvT hZ (hw _ (List.mem_of_getElem? (i := 15) rfl))) (by decide) (backOf (W := 0) (rm1 l Z a0 hw [] w_PluginOutcome_UNDEFINED w_TransactionStatus_SUCCESS w_TransactionStatus_PAYMENT_FAILURE w_TransactionStatus_PENDING w_TransactionStatus_PLUGIN_FAILURE w_TransactionStatus_UNKNOWN w_TransactionStatus_1__SwitchMap_com_example_tender_tender_plugin_api_PluginOutcome k_w_TransactionStatus_1__SwitchMap_com_example_tender_tender_plugin_api_PluginOutcome 4 w_TransactionStatus_UNKNOWN h30 n0 O30 S_w_TransactionStatus_SUCCESS S_w_TransactionStatus_PAYMENT_FAILURE S_w_TransactionStatus_PENDING S_w_TransactionStatus_PLUGIN_FAILURE S_w_TransactionStatus_UNKNOWN S_w_TransactionStatus_1__SwitchMap_com_example_tender_tender_plugin_api_PluginOutcome V_w_TransactionStatus_1__SwitchMap_com_example_tender_tender_plugin_api_PluginOutcome E_w_PluginOutcome_UNDEFINED F_ordinal_w_PluginOutcome_UNDEFINED (Or.inr (Or.inr (Or.inr (Or.inr (⟨rfl, rfl⟩)))))) hZ (hw _ (List.mem_of_getElem? (i := 15) rfl)) (hw _ (List.mem_of_getElem? (i := 14) rfl)) (by decide) (by decide)) (g := (mkF m 89 #[.val (.int p1), .val (.int (4 : Int32)), .val (.ref w_PluginOutcome_UNDEFINED), .val (.ref a30), .val (.int (1 : Int32)), .unset] [(.ref w_PluginOutcome_UNDEFINED)])) rfl (by rw [hml]; rfl) (argsL := [(.ref w_PluginOutcome_UNDEFINED)]) (rest := []) (lenOf pd_rm0_0 rfl) rfl (by show 2 * 0 + _ ≤ _; exact Nat.le_of_eq rfl) (hb hby at_89) (fun _ _ => ⟨rfl, e30, (by decide : 2 + 0 ≤ _), (by decide : 32 + 0 ≤ _)⟩)
    dsimp only [Pt.U, Pt.locs, Pt.cells, Pt.slots] at X31 l31 y31 z31 st31 hQ31
    subst l31 y31 z31
    obtain ⟨rfl, Nq31, e31⟩ := hQ31
    have N31 := Fr.app N0 Nq31
    refine GlW.st st31 ?_
    show GlW Z consts_1 p e below s _ _ _ T31 (mkF m 92 #[.val (.int p1), .val (.int (4 : Int32)), .val (.ref w_PluginOutcome_UNDEFINED), .val (.ref a30), .val (.int (1 : Int32)), .unset] [(.ref w_TransactionStatus_UNKNOWN)])
    refine GlW.st (fun _ kk => XS.astore X31.here hx rfl (hb hby at_92) rfl rfl (l' := #[.val (.int p1), .val (.int (4 : Int32)), .val (.ref w_PluginOutcome_UNDEFINED), .val (.ref a30), .val (.int (1 : Int32)), .val (.ref w_TransactionStatus_UNKNOWN)]) rfl kk) ?_
    show GlW Z consts_1 p e below s _ _ _ T31 (mkF m 94 #[.val (.int p1), .val (.int (4 : Int32)), .val (.ref w_PluginOutcome_UNDEFINED), .val (.ref a30), .val (.int (1 : Int32)), .val (.ref w_TransactionStatus_UNKNOWN)] [])
    refine GlW.st (fun _ kk => XS.aload X31.here hx rfl (hb hby at_94) rfl rfl kk) ?_
    show GlW Z consts_1 p e below s _ _ _ T31 (mkF m 96 #[.val (.int p1), .val (.int (4 : Int32)), .val (.ref w_PluginOutcome_UNDEFINED), .val (.ref a30), .val (.int (1 : Int32)), .val (.ref w_TransactionStatus_UNKNOWN)] [(.ref w_TransactionStatus_UNKNOWN)])
    refine GlW.st (fun _ kk => XS.ifnonnullYes X31.here hx rfl (pc0 := 96) (pc' := 101) rfl (hb hby at_96) rfl (by decide) (by decide) kk) ?_
    show GlW Z consts_1 p e below s _ _ _ T31 (mkF m 101 #[.val (.int p1), .val (.int (4 : Int32)), .val (.ref w_PluginOutcome_UNDEFINED), .val (.ref a30), .val (.int (1 : Int32)), .val (.ref w_TransactionStatus_UNKNOWN)] [])
    refine GlW.st (fun _ kk => XS.aload X31.here hx rfl (hb hby at_101) rfl rfl kk) ?_
    show GlW Z consts_1 p e below s _ _ _ T31 (mkF m 103 #[.val (.int p1), .val (.int (4 : Int32)), .val (.ref w_PluginOutcome_UNDEFINED), .val (.ref a30), .val (.int (1 : Int32)), .val (.ref w_TransactionStatus_UNKNOWN)] [(.ref w_TransactionStatus_UNKNOWN)])
    obtain ⟨cq32, kq32, qa32, qb32, qc32⟩ := isOf hZ e31 (E_w_TransactionStatus_UNKNOWN.ext O30.2)
    obtain ⟨v32, _, ⟨T32, L32, k32, n32⟩, -, X32, ⟨Lc32, hQ32, l32, y32, z32⟩, st32⟩ := X31.virtualBack hx (y := (⟨"com/example/tender/tender/payment/TransactionStatus", "stateSuffix", "()Ljava/lang/String;"⟩ : MethodName)) (z := (⟨"com/example/tender/tender/payment/TransactionStatus", "stateSuffix", "()Ljava/lang/String;"⟩ : MethodName)) hown (mvT hZ (hw _ (List.mem_of_getElem? (i := 30) rfl))) (mvT hZ (hw _ (List.mem_of_getElem? (i := 31) rfl))) (notFace_of_selects (args := #[]) (mvT hZ (hw _ (List.mem_of_getElem? (i := 33) rfl)))) (mvT hZ (hw _ (List.mem_of_getElem? (i := 33) rfl))) (mvT hZ (hw _ (List.mem_of_getElem? (i := 32) rfl))) (by decide) (backOf (W := 0) (rm3 l Z a0 hw [] w_TransactionStatus_UNKNOWN w_TransactionStatus_PLUGIN_FAILURE_stateSuffix h30 n0 O30 F_stateSuffix_w_TransactionStatus_UNKNOWN) hZ (hw _ (List.mem_of_getElem? (i := 34) rfl)) (hw _ (List.mem_of_getElem? (i := 14) rfl)) (by decide) (by decide)) qa32 qc32 (g := (mkF m 103 #[.val (.int p1), .val (.int (4 : Int32)), .val (.ref w_PluginOutcome_UNDEFINED), .val (.ref a30), .val (.int (1 : Int32)), .val (.ref w_TransactionStatus_UNKNOWN)] [(.ref w_TransactionStatus_UNKNOWN)])) rfl (by rw [hml]; rfl) (Steps.refl _) (argsL := []) (rest := []) (lenOf pd_rm0_1 rfl) rfl (by show 2 * 0 + _ ≤ _; exact Nat.le_of_eq rfl) (hb hby at_103) (fun _ _ => ⟨rfl, e31, (by decide : 2 + 0 ≤ _), (by decide : 32 + 0 ≤ _)⟩)
    dsimp only [Pt.U, Pt.locs, Pt.cells, Pt.slots] at X32 l32 y32 z32 st32 hQ32
    subst l32 y32 z32
    obtain ⟨rfl, Nq32, e32⟩ := hQ32
    have N32 := Fr.app N31 Nq32
    refine GlW.st (fun _ kk => st32.trans kk) ?_
    show GlW Z consts_1 p e below s _ _ _ T32 (mkF m 106 #[.val (.int p1), .val (.int (4 : Int32)), .val (.ref w_PluginOutcome_UNDEFINED), .val (.ref a30), .val (.int (1 : Int32)), .val (.ref w_TransactionStatus_UNKNOWN)] [(.ref w_TransactionStatus_PLUGIN_FAILURE_stateSuffix)])
    refine GlW.st (fun _ kk => XS.aloadN X32.here hx rfl (hb hby at_106) rfl rfl kk) ?_
    show GlW Z consts_1 p e below s _ _ _ T32 (mkF m 107 #[.val (.int p1), .val (.int (4 : Int32)), .val (.ref w_PluginOutcome_UNDEFINED), .val (.ref a30), .val (.int (1 : Int32)), .val (.ref w_TransactionStatus_UNKNOWN)] [(.ref a30), (.ref w_TransactionStatus_PLUGIN_FAILURE_stateSuffix)])
    obtain ⟨cq34, kq34, qa34, qb34, qc34⟩ := isOf hZ e32 (E_w_TransactionStatus_PLUGIN_FAILURE_stateSuffix.ext O30.2)
    obtain ⟨v34, _, ⟨T34, L34, k34, n34⟩, -, X34, ⟨Lc34, hQ34, l34, y34, z34⟩, st34⟩ := X32.virtualBack hx (y := (⟨"java/lang/String", "equals", "(Ljava/lang/Object;)Z"⟩ : MethodName)) (z := (⟨"java/lang/String", "equals", "(Ljava/lang/Object;)Z"⟩ : MethodName)) hown (mvT hZ (hw _ (List.mem_of_getElem? (i := 37) rfl))) (mvT hZ (hw _ (List.mem_of_getElem? (i := 38) rfl))) (notFace_of_selects (args := #[]) (mvT hZ (hw _ (List.mem_of_getElem? (i := 40) rfl)))) (mvT hZ (hw _ (List.mem_of_getElem? (i := 40) rfl))) (mvT hZ (hw _ (List.mem_of_getElem? (i := 39) rfl))) (by decide) (backOf (W := 0) (rmSE l Z a0 hw [] w_TransactionStatus_PLUGIN_FAILURE_stateSuffix a30 w_TransactionStatus_PLUGIN_FAILURE_stateSuffix_value b30 k_w_TransactionStatus_PLUGIN_FAILURE_stateSuffix_value kc30 [(69 : Int32), (82 : Int32), (82 : Int32), (79 : Int32), (82 : Int32), (69 : Int32), (68 : Int32)] [(69 : Int32), (82 : Int32), (82 : Int32), (79 : Int32), (82 : Int32), (69 : Int32), (68 : Int32)] cz 1 h30 n0 O30 (E_w_TransactionStatus_PLUGIN_FAILURE_stateSuffix.ext O30.2) (F_value_w_TransactionStatus_PLUGIN_FAILURE_stateSuffix.ext O30.2) (F_coder_w_TransactionStatus_PLUGIN_FAILURE_stateSuffix.ext O30.2) (V_w_TransactionStatus_PLUGIN_FAILURE_stateSuffix_value.ext O30.2) (by decide) Exa_a30 F_value_a30 F_coder_a30 Arv_b30 (by decide) S_COMPACT hcz (by decide)) hZ (hw _ (List.mem_of_getElem? (i := 41) rfl)) (hw _ (List.mem_of_getElem? (i := 5) rfl)) (by decide) (by decide)) qa34 qc34 (g := (mkF m 107 #[.val (.int p1), .val (.int (4 : Int32)), .val (.ref w_PluginOutcome_UNDEFINED), .val (.ref a30), .val (.int (1 : Int32)), .val (.ref w_TransactionStatus_UNKNOWN)] [(.ref a30), (.ref w_TransactionStatus_PLUGIN_FAILURE_stateSuffix)])) rfl (by rw [hml]; rfl) (Steps.refl _) (argsL := [(.ref a30)]) (rest := []) (lenOf pd_rm0_2 rfl) rfl (by show 2 * 0 + _ ≤ _; exact Nat.le_of_eq rfl) (hb hby at_107) (fun _ _ => ⟨rfl, e32, (by decide : 2 + 0 ≤ _), (by decide : 32 + 0 ≤ _)⟩)
    dsimp only [Pt.U, Pt.locs, Pt.cells, Pt.slots] at X34 l34 y34 z34 st34 hQ34
    subst l34 y34 z34
    obtain ⟨rfl, Nq34, e34⟩ := hQ34
    have N34 := Fr.app N32 Nq34
    refine GlW.st (fun _ kk => st34.trans kk) ?_
    show GlW Z consts_1 p e below s _ _ _ T34 (mkF m 110 #[.val (.int p1), .val (.int (4 : Int32)), .val (.ref w_PluginOutcome_UNDEFINED), .val (.ref a30), .val (.int (1 : Int32)), .val (.ref w_TransactionStatus_UNKNOWN)] [(.int (1 : Int32))])
    refine GlW.st (fun _ kk => XS.ifNo X34.here hx rfl (hb hby at_110) rfl ((if0 _ _).trans (feq (by decide : ¬ ((1 : Int32) = (0 : Int32)))).1) kk) ?_
    show GlW Z consts_1 p e below s _ _ _ T34 (mkF m 113 #[.val (.int p1), .val (.int (4 : Int32)), .val (.ref w_PluginOutcome_UNDEFINED), .val (.ref a30), .val (.int (1 : Int32)), .val (.ref w_TransactionStatus_UNKNOWN)] [])
    refine GlW.st (fun _ kk => XS.aload X34.here hx rfl (hb hby at_113) rfl rfl kk) ?_
    show GlW Z consts_1 p e below s _ _ _ T34 (mkF m 115 #[.val (.int p1), .val (.int (4 : Int32)), .val (.ref w_PluginOutcome_UNDEFINED), .val (.ref a30), .val (.int (1 : Int32)), .val (.ref w_TransactionStatus_UNKNOWN)] [(.ref w_TransactionStatus_UNKNOWN)])
    obtain ⟨cq35, kq35, qa35, qb35, qc35⟩ := isOf hZ e34 (E_w_TransactionStatus_UNKNOWN.ext O30.2)
    obtain ⟨v35, _, ⟨T35, L35, k35, n35⟩, -, X35, ⟨Lc35, hQ35, l35, y35, z35⟩, st35⟩ := X34.virtualBack hx (y := (⟨"com/example/tender/tender/payment/TransactionStatus", "isInDoubt", "()Z"⟩ : MethodName)) (z := (⟨"com/example/tender/tender/payment/TransactionStatus", "isInDoubt", "()Z"⟩ : MethodName)) hown (mvT hZ (hw _ (List.mem_of_getElem? (i := 51) rfl))) (mvT hZ (hw _ (List.mem_of_getElem? (i := 52) rfl))) (notFace_of_selects (args := #[]) (mvT hZ (hw _ (List.mem_of_getElem? (i := 54) rfl)))) (mvT hZ (hw _ (List.mem_of_getElem? (i := 54) rfl))) (mvT hZ (hw _ (List.mem_of_getElem? (i := 53) rfl))) (by decide) (backOf (W := 0) (rm6 l Z a0 hw [] w_TransactionStatus_UNKNOWN 1 h30 n0 O30 F_inDoubt_w_TransactionStatus_UNKNOWN (by decide)) hZ (hw _ (List.mem_of_getElem? (i := 55) rfl)) (hw _ (List.mem_of_getElem? (i := 14) rfl)) (by decide) (by decide)) qa35 qc35 (g := (mkF m 115 #[.val (.int p1), .val (.int (4 : Int32)), .val (.ref w_PluginOutcome_UNDEFINED), .val (.ref a30), .val (.int (1 : Int32)), .val (.ref w_TransactionStatus_UNKNOWN)] [(.ref w_TransactionStatus_UNKNOWN)])) rfl (by rw [hml]; rfl) (Steps.refl _) (argsL := []) (rest := []) (lenOf pd_rm0_3 rfl) rfl (by show 2 * 0 + _ ≤ _; exact Nat.le_of_eq rfl) (hb hby at_115) (fun _ _ => ⟨rfl, e34, (by decide : 2 + 0 ≤ _), (by decide : 32 + 0 ≤ _)⟩)
    dsimp only [Pt.U, Pt.locs, Pt.cells, Pt.slots] at X35 l35 y35 z35 st35 hQ35
    subst l35 y35 z35
    obtain ⟨rfl, Nq35, e35⟩ := hQ35
    have N35 := Fr.app N34 Nq35
    refine GlW.st (fun _ kk => st35.trans kk) ?_
    show GlW Z consts_1 p e below s _ _ _ T35 (mkF m 118 #[.val (.int p1), .val (.int (4 : Int32)), .val (.ref w_PluginOutcome_UNDEFINED), .val (.ref a30), .val (.int (1 : Int32)), .val (.ref w_TransactionStatus_UNKNOWN)] [(.int (1 : Int32))])
    refine GlW.st (fun _ kk => XS.iload X35.here hx rfl (hb hby at_118) rfl kk) ?_
    show GlW Z consts_1 p e below s _ _ _ T35 (mkF m 120 #[.val (.int p1), .val (.int (4 : Int32)), .val (.ref w_PluginOutcome_UNDEFINED), .val (.ref a30), .val (.int (1 : Int32)), .val (.ref w_TransactionStatus_UNKNOWN)] [(.int (1 : Int32)), (.int (1 : Int32))])
    refine GlW.st (fun _ kk => XS.icmpNo X35.here hx rfl (hb hby at_120) rfl (teq (by decide : (1 : Int32) = (1 : Int32))).2 kk) ?_
    show GlW Z consts_1 p e below s _ _ _ T35 (mkF m 123 #[.val (.int p1), .val (.int (4 : Int32)), .val (.ref w_PluginOutcome_UNDEFINED), .val (.ref a30), .val (.int (1 : Int32)), .val (.ref w_TransactionStatus_UNKNOWN)] [])
    refine GlW.st (fun _ kk => XS.iconst X35.here hx rfl (hb hby at_123) kk) ?_
    show GlW Z consts_1 p e below s _ _ _ T35 (mkF m 124 #[.val (.int p1), .val (.int (4 : Int32)), .val (.ref w_PluginOutcome_UNDEFINED), .val (.ref a30), .val (.int (1 : Int32)), .val (.ref w_TransactionStatus_UNKNOWN)] [(.int (1 : Int32))])
    refine GlW.st (fun _ kk => XS.goto X35.here hx rfl (pc0 := 124) (pc' := 128) rfl (hb hby at_124) (by decide) (by decide) kk) ?_
    show GlW Z consts_1 p e below s _ _ _ T35 (mkF m 128 #[.val (.int p1), .val (.int (4 : Int32)), .val (.ref w_PluginOutcome_UNDEFINED), .val (.ref a30), .val (.int (1 : Int32)), .val (.ref w_TransactionStatus_UNKNOWN)] [(.int (1 : Int32))])
    exact GlW.ret X35 hS30 hk30 hZ hEL hh0 HC30 (v := (some (.int (1 : Int32)))) (fun h => by rw [Bd.returns] at h; cases h) (BodyLoose.notSynchronized Bd) (fun hr => retN X35 hx (t := .boolean) Bd.returns (by simp) (hb hby at_128) hr) e35 ⟨rfl, N35⟩ (by decide) (by decide)
theorem own_sw {s : State} {args : Array Value} {a : Addr} {c : Cell} {C f d : String} (A : Arr s s.heap a c .int) (h1 : c.slots.size < 2 ^ 31) (h2 : c.slots.size.toInt32 = 5) (ev : (Term.static C f d).eval args s none [] s = some (.ref a))
    (h : (Jvm.Cond.all (Term.static C f d) (Jvm.Cond.eq (Term.op1 .i2l (Term.elem (Term.static C f d) (Term.index 0))) (Term.op2 .ladd (Term.op1 .i2l (Term.index 0)) (Term.long 1)))).value args s none s [] = some true) (i : Nat) (hi : i < 5) : c.slots[i]? = some (.int (Int32.ofNat (i + 1))) := by
  have hs : c.slots.size = 5 := by
    have q := congrArg Int32.toInt h2
    rw [len_toInt h1] at q
    have e5 : (5 : Int32).toInt = 5 := by decide
    rw [e5] at q; omega
  have hA := A.fin (Vm.Alike.refl _)
  have q := Cond.all_elim ev hA h i (by omega)
  have ev' : (Term.static C f d).eval args s none [i] s = some (.ref a) := ev
  have hidx : (Term.index 0).eval args s none [i] s = some (.int (Int32.ofNat i)) := by simp [Term.eval]
  have hn : ¬ (Int32.ofNat i) < 0 := by
    have : i = 0 ∨ i = 1 ∨ i = 2 ∨ i = 3 ∨ i = 4 := by omega
    rcases this with rfl | rfl | rfl | rfl | rfl <;> decide
  have hc : (Int32.ofNat i).toNatClampNeg = i := by
    have : i = 0 ∨ i = 1 ∨ i = 2 ∨ i = 3 ∨ i = 4 := by omega
    rcases this with rfl | rfl | rfl | rfl | rfl <;> decide
  have he := elem_f ev' hidx hA hn
  rw [hc] at he
  have hlt : i < c.slots.size := by omega
  cases hv : c.slots[i]? with
  | none => rw [Array.getElem?_eq_getElem hlt] at hv; cases hv
  | some v =>
    rw [hv] at he
    obtain ⟨x, y, e1, e2, -, -⟩ := cmp_v (Or.inl q)
    obtain ⟨x', f1, f2⟩ := op1_v e1
    cases he.symm.trans f1
    cases v with
    | int z =>
      have g1 : (Term.op1 .i2l (Term.elem (Term.static C f d) (Term.index 0))).eval args s none [i] s = some (.long z.toInt64) := i2l_at he
      have g2 : (Term.op2 .ladd (Term.op1 .i2l (Term.index 0)) (Term.long 1)).eval args s none [i] s = some (.long ((Int32.ofNat i).toInt64 + 1)) := by rw [op2_f (i2l_at hidx) (long_at 1)]; rfl
      have g3 := gotT (eq_L g1 g2) q
      have : i = 0 ∨ i = 1 ∨ i = 2 ∨ i = 3 ∨ i = 4 := by omega
      have g4 : z = Int32.ofNat (i + 1) := by
        have g5 := congrArg Int64.toInt32 g3
        have g6 : z.toInt64.toInt32 = z := Int32.toInt32_toInt64 z
        rw [g6] at g5
        rw [g5]
        rcases this with rfl | rfl | rfl | rfl | rfl <;> decide
      rw [g4]
    | _ => simp [Unary.apply] at f2
set_option maxRecDepth 65536 in
set_option maxHeartbeats 40000000 in
theorem comes_1 {Post : Tables → Env → Array Value → State → Outcome → State → Prop} (hpost : ∀ tb e args s v u, (limb_1_1.after args s (.returned v) u = true ∧ limb_1_2.after args s (.returned v) u = true ∧ True) → ReturnedEndW s (.returned v) u (Jvm.fieldLocs frame_1_writes args s ++ Jvm.arrayLocs frame_1_arrays args s ++ Jvm.staticLocs frame_1_statics s) 8 4160 → Post tb e args s (.returned v) u) :
    ArmFor flags0 classFile x code maxLocals ret World_1 tables_1 room_1 Calls_1 rest_1 Pre_1 Post := by
  intro l hfl _ _ p e ha hc hk s m args below hf hA hF happ hP
  obtain ⟨hcalls, hrest, hpre⟩ := hP
  obtain ⟨-, -, -, hnamed, -, -, -, hat⟩ := (Spec.applies_iff hf).mp happ
  obtain ⟨hg, hn⟩ := and_e (Cond.before_iff.mp (show (Jvm.Cond.and given_1 narrow_1).before args s = true from hpre))
  obtain ⟨g1a, g1b⟩ := and_e hg
  obtain ⟨w0, rfl⟩ : ∃ w0 : Value, args = #[w0] := by
    have hs : args.size = 1 := by simpa [Cond.value, given_1] using g1a
    obtain ⟨L⟩ := args
    match L, hs with
    | [w0], _ => exact ⟨w0, rfl⟩
  have hw := fun d (hd : d ∈ tables_1) => atoms_spec (ws := Jvm.Cond.code x code maxLocals ret :: tables_1) hat d (List.mem_cons_of_mem _ hd)
  have hfit : Fit s := fun {y c} hc i hi => by
    obtain ⟨ha, rfl⟩ := Array.getElem?_eq_some_iff.mp hc
    have q := List.all_eq_true.mp ((Array.all_eq_true_iff_forall_mem.mp hF) _ (Array.getElem_mem ha)) i (List.mem_range.mpr hi)
    simpa [Array.getElem?_eq_getElem hi] using q
  obtain ⟨hsets, hown0⟩ := atoms_of _ (rest_1_c_eq ▸ (show rest_1_c.before _ s = true from hrest))
  have hr0 := Cond.before_iff.mp hown0
  obtain ⟨i0, ei0⟩ := is_v g1b
  obtain rfl : w0 = (.int i0) := Option.some.inj ei0
  obtain ⟨g2a, g2b⟩ := and_e hn
  obtain ⟨g3a, g3b⟩ := and_e g2b
  obtain ⟨g4a, g4b⟩ := and_e g3b
  obtain ⟨g5a, g5b⟩ := and_e g4b
  obtain ⟨g6a, g6b⟩ := and_e g5b
  obtain ⟨g7a, g7b⟩ := and_e g6b
  obtain ⟨g8a, g8b⟩ := and_e g7b
  obtain ⟨g9a, g9b⟩ := and_e g8b
  obtain ⟨g10a, g10b⟩ := and_e g9b
  obtain ⟨g11a, g11b⟩ := and_e g10b
  obtain ⟨g12a, g12b⟩ := and_e g11b
  obtain ⟨g13a, g13b⟩ := and_e g12b
  obtain ⟨g14a, g14b⟩ := and_e g13b
  obtain ⟨g15a, g15b⟩ := and_e g14b
  obtain ⟨g16a, g16b⟩ := and_e g15b
  obtain ⟨g17a, g17b⟩ := and_e g16b
  obtain ⟨g18a, g18b⟩ := and_e g17b
  obtain ⟨g19a, g19b⟩ := and_e g18b
  obtain ⟨g20a, g20b⟩ := and_e g19b
  obtain ⟨g21a, g21b⟩ := and_e g20b
  obtain ⟨g22a, g22b⟩ := and_e g21b
  obtain ⟨g23a, g23b⟩ := and_e g22b
  obtain ⟨g24a, g24b⟩ := and_e g23b
  obtain ⟨g25a, g25b⟩ := and_e g24b
  obtain ⟨g26a, g26b⟩ := and_e g25b
  obtain ⟨g27a, g27b⟩ := and_e g26b
  obtain ⟨g28a, g28b⟩ := and_e g27b
  obtain ⟨g29a, g29b⟩ := and_e g28b
  obtain ⟨g30a, g30b⟩ := and_e g29b
  obtain ⟨g31a, g31b⟩ := and_e g30b
  obtain ⟨g32a, g32b⟩ := and_e g31b
  obtain ⟨g33a, g33b⟩ := and_e g32b
  obtain ⟨g34a, g34b⟩ := and_e g33b
  obtain ⟨g35a, g35b⟩ := and_e g34b
  obtain ⟨g36a, g36b⟩ := and_e g35b
  obtain ⟨g37a, g37b⟩ := and_e g36b
  obtain ⟨g38a, g38b⟩ := and_e g37b
  obtain ⟨g39a, g39b⟩ := and_e g38b
  obtain ⟨g40a, g40b⟩ := and_e g39b
  obtain ⟨g41a, g41b⟩ := and_e g40b
  obtain ⟨g42a, g42b⟩ := and_e g41b
  obtain ⟨g43a, g43b⟩ := and_e g42b
  obtain ⟨g44a, g44b⟩ := and_e g43b
  obtain ⟨g45a, g45b⟩ := and_e g44b
  obtain ⟨g46a, g46b⟩ := and_e g45b
  obtain ⟨g47a, g47b⟩ := and_e g46b
  obtain ⟨g48a, g48b⟩ := and_e g47b
  obtain ⟨g49a, g49b⟩ := and_e g48b
  obtain ⟨g50a, g50b⟩ := and_e g49b
  obtain ⟨g51a, g51b⟩ := and_e g50b
  obtain ⟨g52a, g52b⟩ := and_e g51b
  obtain ⟨g53a, g53b⟩ := and_e g52b
  obtain ⟨g54a, g54b⟩ := and_e g53b
  obtain ⟨g55a, g55b⟩ := and_e g54b
  obtain ⟨g56a, g56b⟩ := and_e g55b
  obtain ⟨g57a, g57b⟩ := and_e g56b
  obtain ⟨g58a, g58b⟩ := and_e g57b
  obtain ⟨g59a, g59b⟩ := and_e g58b
  obtain ⟨g60a, g60b⟩ := and_e g59b
  obtain ⟨g61a, g61b⟩ := and_e g60b
  obtain ⟨g62a, g62b⟩ := and_e g61b
  obtain ⟨g63a, g63b⟩ := and_e g62b
  obtain ⟨g64a, g64b⟩ := and_e g63b
  obtain ⟨g65a, g65b⟩ := and_e g64b
  obtain ⟨g66a, g66b⟩ := and_e g65b
  obtain ⟨g67a, g67b⟩ := and_e g66b
  obtain ⟨w_PluginOutcome_PROCESSED, ev_w_PluginOutcome_PROCESSED⟩ := exa_v g2a
  have S_w_PluginOutcome_PROCESSED := Sta.start ev_w_PluginOutcome_PROCESSED (Or.inr ⟨(hw _ (List.mem_of_getElem? (i := 2) rfl)), (hw _ (List.mem_of_getElem? (i := 3) rfl))⟩)
  have E_w_PluginOutcome_PROCESSED := Exa.start ev_w_PluginOutcome_PROCESSED g2a
  obtain ⟨w_TransactionStatus_1__SwitchMap_com_example_tender_tender_plugin_api_PluginOutcome, ev_w_TransactionStatus_1__SwitchMap_com_example_tender_tender_plugin_api_PluginOutcome⟩ := arr_v g3a
  have S_w_TransactionStatus_1__SwitchMap_com_example_tender_tender_plugin_api_PluginOutcome := Sta.start ev_w_TransactionStatus_1__SwitchMap_com_example_tender_tender_plugin_api_PluginOutcome (Or.inr ⟨(hw _ (List.mem_of_getElem? (i := 17) rfl)), (hw _ (List.mem_of_getElem? (i := 18) rfl))⟩)
  obtain ⟨c_w_TransactionStatus_1__SwitchMap_com_example_tender_tender_plugin_api_PluginOutcome, A_w_TransactionStatus_1__SwitchMap_com_example_tender_tender_plugin_api_PluginOutcome⟩ := Arr.start ev_w_TransactionStatus_1__SwitchMap_com_example_tender_tender_plugin_api_PluginOutcome g3a
  have F_ordinal_w_PluginOutcome_PROCESSED := Fld.start ((fld_at ev_w_PluginOutcome_PROCESSED).symm.trans (own_eqint g5a))
  obtain ⟨w_TransactionStatus_SUCCESS, ev_w_TransactionStatus_SUCCESS⟩ := exa_v g6a
  have S_w_TransactionStatus_SUCCESS := Sta.start ev_w_TransactionStatus_SUCCESS (Or.inr ⟨(hw _ (List.mem_of_getElem? (i := 14) rfl)), (hw _ (List.mem_of_getElem? (i := 29) rfl))⟩)
  have E_w_TransactionStatus_SUCCESS := Exa.start ev_w_TransactionStatus_SUCCESS g6a
  obtain ⟨w_TransactionStatus_SUCCESS_stateSuffix, ev_w_TransactionStatus_SUCCESS_stateSuffix⟩ := exa_v g7a
  have F_stateSuffix_w_TransactionStatus_SUCCESS := Fld.start ((fld_at ev_w_TransactionStatus_SUCCESS).symm.trans ev_w_TransactionStatus_SUCCESS_stateSuffix)
  have E_w_TransactionStatus_SUCCESS_stateSuffix := Exa.start ev_w_TransactionStatus_SUCCESS_stateSuffix g7a
  have F_coder_w_TransactionStatus_SUCCESS_stateSuffix := Fld.start ((fld_at ev_w_TransactionStatus_SUCCESS_stateSuffix).symm.trans (own_eqint g8a))
  obtain ⟨w_TransactionStatus_SUCCESS_stateSuffix_value, ev_w_TransactionStatus_SUCCESS_stateSuffix_value⟩ := arr_v g9a
  have F_value_w_TransactionStatus_SUCCESS_stateSuffix := Fld.start ((fld_at ev_w_TransactionStatus_SUCCESS_stateSuffix).symm.trans ev_w_TransactionStatus_SUCCESS_stateSuffix_value)
  obtain ⟨c_w_TransactionStatus_SUCCESS_stateSuffix_value, A_w_TransactionStatus_SUCCESS_stateSuffix_value⟩ := Arr.start ev_w_TransactionStatus_SUCCESS_stateSuffix_value g9a
  have F_inDoubt_w_TransactionStatus_SUCCESS := Fld.start ((fld_at ev_w_TransactionStatus_SUCCESS).symm.trans (own_eqint g11a))
  obtain ⟨w_PluginOutcome_CANCELED, ev_w_PluginOutcome_CANCELED⟩ := exa_v g12a
  have S_w_PluginOutcome_CANCELED := Sta.start ev_w_PluginOutcome_CANCELED (Or.inr ⟨(hw _ (List.mem_of_getElem? (i := 2) rfl)), (hw _ (List.mem_of_getElem? (i := 59) rfl))⟩)
  have E_w_PluginOutcome_CANCELED := Exa.start ev_w_PluginOutcome_CANCELED g12a
  have F_ordinal_w_PluginOutcome_CANCELED := Fld.start ((fld_at ev_w_PluginOutcome_CANCELED).symm.trans (own_eqint g13a))
  obtain ⟨w_TransactionStatus_PLUGIN_FAILURE, ev_w_TransactionStatus_PLUGIN_FAILURE⟩ := exa_v g14a
  have S_w_TransactionStatus_PLUGIN_FAILURE := Sta.start ev_w_TransactionStatus_PLUGIN_FAILURE (Or.inr ⟨(hw _ (List.mem_of_getElem? (i := 14) rfl)), (hw _ (List.mem_of_getElem? (i := 62) rfl))⟩)
  have E_w_TransactionStatus_PLUGIN_FAILURE := Exa.start ev_w_TransactionStatus_PLUGIN_FAILURE g14a
  obtain ⟨w_TransactionStatus_PLUGIN_FAILURE_stateSuffix, ev_w_TransactionStatus_PLUGIN_FAILURE_stateSuffix⟩ := exa_v g15a
  have F_stateSuffix_w_TransactionStatus_PLUGIN_FAILURE := Fld.start ((fld_at ev_w_TransactionStatus_PLUGIN_FAILURE).symm.trans ev_w_TransactionStatus_PLUGIN_FAILURE_stateSuffix)
  have E_w_TransactionStatus_PLUGIN_FAILURE_stateSuffix := Exa.start ev_w_TransactionStatus_PLUGIN_FAILURE_stateSuffix g15a
  have F_coder_w_TransactionStatus_PLUGIN_FAILURE_stateSuffix := Fld.start ((fld_at ev_w_TransactionStatus_PLUGIN_FAILURE_stateSuffix).symm.trans (own_eqint g16a))
  obtain ⟨w_TransactionStatus_PLUGIN_FAILURE_stateSuffix_value, ev_w_TransactionStatus_PLUGIN_FAILURE_stateSuffix_value⟩ := arr_v g17a
  have F_value_w_TransactionStatus_PLUGIN_FAILURE_stateSuffix := Fld.start ((fld_at ev_w_TransactionStatus_PLUGIN_FAILURE_stateSuffix).symm.trans ev_w_TransactionStatus_PLUGIN_FAILURE_stateSuffix_value)
  obtain ⟨c_w_TransactionStatus_PLUGIN_FAILURE_stateSuffix_value, A_w_TransactionStatus_PLUGIN_FAILURE_stateSuffix_value⟩ := Arr.start ev_w_TransactionStatus_PLUGIN_FAILURE_stateSuffix_value g17a
  have F_inDoubt_w_TransactionStatus_PLUGIN_FAILURE := Fld.start ((fld_at ev_w_TransactionStatus_PLUGIN_FAILURE).symm.trans (own_eqint g19a))
  obtain ⟨w_PluginOutcome_ERROR, ev_w_PluginOutcome_ERROR⟩ := exa_v g20a
  have S_w_PluginOutcome_ERROR := Sta.start ev_w_PluginOutcome_ERROR (Or.inr ⟨(hw _ (List.mem_of_getElem? (i := 2) rfl)), (hw _ (List.mem_of_getElem? (i := 64) rfl))⟩)
  have E_w_PluginOutcome_ERROR := Exa.start ev_w_PluginOutcome_ERROR g20a
  have F_ordinal_w_PluginOutcome_ERROR := Fld.start ((fld_at ev_w_PluginOutcome_ERROR).symm.trans (own_eqint g21a))
  obtain ⟨w_TransactionStatus_PAYMENT_FAILURE, ev_w_TransactionStatus_PAYMENT_FAILURE⟩ := exa_v g22a
  have S_w_TransactionStatus_PAYMENT_FAILURE := Sta.start ev_w_TransactionStatus_PAYMENT_FAILURE (Or.inr ⟨(hw _ (List.mem_of_getElem? (i := 14) rfl)), (hw _ (List.mem_of_getElem? (i := 67) rfl))⟩)
  have E_w_TransactionStatus_PAYMENT_FAILURE := Exa.start ev_w_TransactionStatus_PAYMENT_FAILURE g22a
  obtain ⟨w_TransactionStatus_PAYMENT_FAILURE_stateSuffix, ev_w_TransactionStatus_PAYMENT_FAILURE_stateSuffix⟩ := exa_v g23a
  have F_stateSuffix_w_TransactionStatus_PAYMENT_FAILURE := Fld.start ((fld_at ev_w_TransactionStatus_PAYMENT_FAILURE).symm.trans ev_w_TransactionStatus_PAYMENT_FAILURE_stateSuffix)
  have E_w_TransactionStatus_PAYMENT_FAILURE_stateSuffix := Exa.start ev_w_TransactionStatus_PAYMENT_FAILURE_stateSuffix g23a
  have F_coder_w_TransactionStatus_PAYMENT_FAILURE_stateSuffix := Fld.start ((fld_at ev_w_TransactionStatus_PAYMENT_FAILURE_stateSuffix).symm.trans (own_eqint g24a))
  obtain ⟨w_TransactionStatus_PAYMENT_FAILURE_stateSuffix_value, ev_w_TransactionStatus_PAYMENT_FAILURE_stateSuffix_value⟩ := arr_v g25a
  have F_value_w_TransactionStatus_PAYMENT_FAILURE_stateSuffix := Fld.start ((fld_at ev_w_TransactionStatus_PAYMENT_FAILURE_stateSuffix).symm.trans ev_w_TransactionStatus_PAYMENT_FAILURE_stateSuffix_value)
  obtain ⟨c_w_TransactionStatus_PAYMENT_FAILURE_stateSuffix_value, A_w_TransactionStatus_PAYMENT_FAILURE_stateSuffix_value⟩ := Arr.start ev_w_TransactionStatus_PAYMENT_FAILURE_stateSuffix_value g25a
  have F_inDoubt_w_TransactionStatus_PAYMENT_FAILURE := Fld.start ((fld_at ev_w_TransactionStatus_PAYMENT_FAILURE).symm.trans (own_eqint g27a))
  obtain ⟨w_PluginOutcome_UNDEFINED, ev_w_PluginOutcome_UNDEFINED⟩ := exa_v g28a
  have S_w_PluginOutcome_UNDEFINED := Sta.start ev_w_PluginOutcome_UNDEFINED (Or.inr ⟨(hw _ (List.mem_of_getElem? (i := 2) rfl)), (hw _ (List.mem_of_getElem? (i := 69) rfl))⟩)
  have E_w_PluginOutcome_UNDEFINED := Exa.start ev_w_PluginOutcome_UNDEFINED g28a
  have F_ordinal_w_PluginOutcome_UNDEFINED := Fld.start ((fld_at ev_w_PluginOutcome_UNDEFINED).symm.trans (own_eqint g29a))
  obtain ⟨w_TransactionStatus_UNKNOWN, ev_w_TransactionStatus_UNKNOWN⟩ := exa_v g30a
  have S_w_TransactionStatus_UNKNOWN := Sta.start ev_w_TransactionStatus_UNKNOWN (Or.inr ⟨(hw _ (List.mem_of_getElem? (i := 14) rfl)), (hw _ (List.mem_of_getElem? (i := 71) rfl))⟩)
  have E_w_TransactionStatus_UNKNOWN := Exa.start ev_w_TransactionStatus_UNKNOWN g30a
  have ev_w_TransactionStatus_UNKNOWN_stateSuffix := own_eqref g31a ev_w_TransactionStatus_PLUGIN_FAILURE_stateSuffix
  have F_stateSuffix_w_TransactionStatus_UNKNOWN := Fld.start ((fld_at ev_w_TransactionStatus_UNKNOWN).symm.trans ev_w_TransactionStatus_UNKNOWN_stateSuffix)
  have F_inDoubt_w_TransactionStatus_UNKNOWN := Fld.start ((fld_at ev_w_TransactionStatus_UNKNOWN).symm.trans (own_eqint g32a))
  obtain ⟨w_PluginOutcome_PENDING, ev_w_PluginOutcome_PENDING⟩ := exa_v g33a
  have S_w_PluginOutcome_PENDING := Sta.start ev_w_PluginOutcome_PENDING (Or.inr ⟨(hw _ (List.mem_of_getElem? (i := 2) rfl)), (hw _ (List.mem_of_getElem? (i := 73) rfl))⟩)
  have E_w_PluginOutcome_PENDING := Exa.start ev_w_PluginOutcome_PENDING g33a
  have F_ordinal_w_PluginOutcome_PENDING := Fld.start ((fld_at ev_w_PluginOutcome_PENDING).symm.trans (own_eqint g34a))
  obtain ⟨w_TransactionStatus_PENDING, ev_w_TransactionStatus_PENDING⟩ := exa_v g35a
  have S_w_TransactionStatus_PENDING := Sta.start ev_w_TransactionStatus_PENDING (Or.inr ⟨(hw _ (List.mem_of_getElem? (i := 14) rfl)), (hw _ (List.mem_of_getElem? (i := 76) rfl))⟩)
  have E_w_TransactionStatus_PENDING := Exa.start ev_w_TransactionStatus_PENDING g35a
  obtain ⟨w_TransactionStatus_PENDING_stateSuffix, ev_w_TransactionStatus_PENDING_stateSuffix⟩ := exa_v g36a
  have F_stateSuffix_w_TransactionStatus_PENDING := Fld.start ((fld_at ev_w_TransactionStatus_PENDING).symm.trans ev_w_TransactionStatus_PENDING_stateSuffix)
  have E_w_TransactionStatus_PENDING_stateSuffix := Exa.start ev_w_TransactionStatus_PENDING_stateSuffix g36a
  have F_coder_w_TransactionStatus_PENDING_stateSuffix := Fld.start ((fld_at ev_w_TransactionStatus_PENDING_stateSuffix).symm.trans (own_eqint g37a))
  obtain ⟨w_TransactionStatus_PENDING_stateSuffix_value, ev_w_TransactionStatus_PENDING_stateSuffix_value⟩ := arr_v g38a
  have F_value_w_TransactionStatus_PENDING_stateSuffix := Fld.start ((fld_at ev_w_TransactionStatus_PENDING_stateSuffix).symm.trans ev_w_TransactionStatus_PENDING_stateSuffix_value)
  obtain ⟨c_w_TransactionStatus_PENDING_stateSuffix_value, A_w_TransactionStatus_PENDING_stateSuffix_value⟩ := Arr.start ev_w_TransactionStatus_PENDING_stateSuffix_value g38a
  have F_inDoubt_w_TransactionStatus_PENDING := Fld.start ((fld_at ev_w_TransactionStatus_PENDING).symm.trans (own_eqint g40a))
  obtain ⟨lt_w_TransactionStatus_1__SwitchMap_com_example_tender_tender_plugin_api_PluginOutcome, ln_w_TransactionStatus_1__SwitchMap_com_example_tender_tender_plugin_api_PluginOutcome⟩ := own_len A_w_TransactionStatus_1__SwitchMap_com_example_tender_tender_plugin_api_PluginOutcome ev_w_TransactionStatus_1__SwitchMap_com_example_tender_tender_plugin_api_PluginOutcome (own_eqint g4a)
  obtain ⟨lt_w_TransactionStatus_SUCCESS_stateSuffix_value, ln_w_TransactionStatus_SUCCESS_stateSuffix_value⟩ := own_len A_w_TransactionStatus_SUCCESS_stateSuffix_value ev_w_TransactionStatus_SUCCESS_stateSuffix_value (own_eqint g10a)
  have V_w_TransactionStatus_SUCCESS_stateSuffix_value : Arv s s.heap w_TransactionStatus_SUCCESS_stateSuffix_value c_w_TransactionStatus_SUCCESS_stateSuffix_value.cls .byte 7 [(.int 83), (.int 85), (.int 67), (.int 67), (.int 69), (.int 83), (.int 83)] (.int 0) := Arv.start hfit A_w_TransactionStatus_SUCCESS_stateSuffix_value lt_w_TransactionStatus_SUCCESS_stateSuffix_value ln_w_TransactionStatus_SUCCESS_stateSuffix_value (by decide) rfl ⟨own_el (i := 0) A_w_TransactionStatus_SUCCESS_stateSuffix_value ev_w_TransactionStatus_SUCCESS_stateSuffix_value (own_eqint g42a), ⟨own_el (i := 1) A_w_TransactionStatus_SUCCESS_stateSuffix_value ev_w_TransactionStatus_SUCCESS_stateSuffix_value (own_eqint g43a), ⟨own_el (i := 2) A_w_TransactionStatus_SUCCESS_stateSuffix_value ev_w_TransactionStatus_SUCCESS_stateSuffix_value (own_eqint g44a), ⟨own_el (i := 3) A_w_TransactionStatus_SUCCESS_stateSuffix_value ev_w_TransactionStatus_SUCCESS_stateSuffix_value (own_eqint g45a), ⟨own_el (i := 4) A_w_TransactionStatus_SUCCESS_stateSuffix_value ev_w_TransactionStatus_SUCCESS_stateSuffix_value (own_eqint g46a), ⟨own_el (i := 5) A_w_TransactionStatus_SUCCESS_stateSuffix_value ev_w_TransactionStatus_SUCCESS_stateSuffix_value (own_eqint g47a), ⟨own_el (i := 6) A_w_TransactionStatus_SUCCESS_stateSuffix_value ev_w_TransactionStatus_SUCCESS_stateSuffix_value (own_eqint g48a), trivial⟩⟩⟩⟩⟩⟩⟩
  obtain ⟨lt_w_TransactionStatus_PLUGIN_FAILURE_stateSuffix_value, ln_w_TransactionStatus_PLUGIN_FAILURE_stateSuffix_value⟩ := own_len A_w_TransactionStatus_PLUGIN_FAILURE_stateSuffix_value ev_w_TransactionStatus_PLUGIN_FAILURE_stateSuffix_value (own_eqint g18a)
  have V_w_TransactionStatus_PLUGIN_FAILURE_stateSuffix_value : Arv s s.heap w_TransactionStatus_PLUGIN_FAILURE_stateSuffix_value c_w_TransactionStatus_PLUGIN_FAILURE_stateSuffix_value.cls .byte 7 [(.int 69), (.int 82), (.int 82), (.int 79), (.int 82), (.int 69), (.int 68)] (.int 0) := Arv.start hfit A_w_TransactionStatus_PLUGIN_FAILURE_stateSuffix_value lt_w_TransactionStatus_PLUGIN_FAILURE_stateSuffix_value ln_w_TransactionStatus_PLUGIN_FAILURE_stateSuffix_value (by decide) rfl ⟨own_el (i := 0) A_w_TransactionStatus_PLUGIN_FAILURE_stateSuffix_value ev_w_TransactionStatus_PLUGIN_FAILURE_stateSuffix_value (own_eqint g49a), ⟨own_el (i := 1) A_w_TransactionStatus_PLUGIN_FAILURE_stateSuffix_value ev_w_TransactionStatus_PLUGIN_FAILURE_stateSuffix_value (own_eqint g50a), ⟨own_el (i := 2) A_w_TransactionStatus_PLUGIN_FAILURE_stateSuffix_value ev_w_TransactionStatus_PLUGIN_FAILURE_stateSuffix_value (own_eqint g51a), ⟨own_el (i := 3) A_w_TransactionStatus_PLUGIN_FAILURE_stateSuffix_value ev_w_TransactionStatus_PLUGIN_FAILURE_stateSuffix_value (own_eqint g52a), ⟨own_el (i := 4) A_w_TransactionStatus_PLUGIN_FAILURE_stateSuffix_value ev_w_TransactionStatus_PLUGIN_FAILURE_stateSuffix_value (own_eqint g53a), ⟨own_el (i := 5) A_w_TransactionStatus_PLUGIN_FAILURE_stateSuffix_value ev_w_TransactionStatus_PLUGIN_FAILURE_stateSuffix_value (own_eqint g54a), ⟨own_el (i := 6) A_w_TransactionStatus_PLUGIN_FAILURE_stateSuffix_value ev_w_TransactionStatus_PLUGIN_FAILURE_stateSuffix_value (own_eqint g55a), trivial⟩⟩⟩⟩⟩⟩⟩
  obtain ⟨lt_w_TransactionStatus_PAYMENT_FAILURE_stateSuffix_value, ln_w_TransactionStatus_PAYMENT_FAILURE_stateSuffix_value⟩ := own_len A_w_TransactionStatus_PAYMENT_FAILURE_stateSuffix_value ev_w_TransactionStatus_PAYMENT_FAILURE_stateSuffix_value (own_eqint g26a)
  have V_w_TransactionStatus_PAYMENT_FAILURE_stateSuffix_value : Arv s s.heap w_TransactionStatus_PAYMENT_FAILURE_stateSuffix_value c_w_TransactionStatus_PAYMENT_FAILURE_stateSuffix_value.cls .byte 6 [(.int 70), (.int 65), (.int 73), (.int 76), (.int 69), (.int 68)] (.int 0) := Arv.start hfit A_w_TransactionStatus_PAYMENT_FAILURE_stateSuffix_value lt_w_TransactionStatus_PAYMENT_FAILURE_stateSuffix_value ln_w_TransactionStatus_PAYMENT_FAILURE_stateSuffix_value (by decide) rfl ⟨own_el (i := 0) A_w_TransactionStatus_PAYMENT_FAILURE_stateSuffix_value ev_w_TransactionStatus_PAYMENT_FAILURE_stateSuffix_value (own_eqint g56a), ⟨own_el (i := 1) A_w_TransactionStatus_PAYMENT_FAILURE_stateSuffix_value ev_w_TransactionStatus_PAYMENT_FAILURE_stateSuffix_value (own_eqint g57a), ⟨own_el (i := 2) A_w_TransactionStatus_PAYMENT_FAILURE_stateSuffix_value ev_w_TransactionStatus_PAYMENT_FAILURE_stateSuffix_value (own_eqint g58a), ⟨own_el (i := 3) A_w_TransactionStatus_PAYMENT_FAILURE_stateSuffix_value ev_w_TransactionStatus_PAYMENT_FAILURE_stateSuffix_value (own_eqint g59a), ⟨own_el (i := 4) A_w_TransactionStatus_PAYMENT_FAILURE_stateSuffix_value ev_w_TransactionStatus_PAYMENT_FAILURE_stateSuffix_value (own_eqint g60a), ⟨own_el (i := 5) A_w_TransactionStatus_PAYMENT_FAILURE_stateSuffix_value ev_w_TransactionStatus_PAYMENT_FAILURE_stateSuffix_value (own_eqint g61a), trivial⟩⟩⟩⟩⟩⟩
  obtain ⟨lt_w_TransactionStatus_PENDING_stateSuffix_value, ln_w_TransactionStatus_PENDING_stateSuffix_value⟩ := own_len A_w_TransactionStatus_PENDING_stateSuffix_value ev_w_TransactionStatus_PENDING_stateSuffix_value (own_eqint g39a)
  have V_w_TransactionStatus_PENDING_stateSuffix_value : Arv s s.heap w_TransactionStatus_PENDING_stateSuffix_value c_w_TransactionStatus_PENDING_stateSuffix_value.cls .byte 7 [(.int 80), (.int 69), (.int 78), (.int 68), (.int 73), (.int 78), (.int 71)] (.int 0) := Arv.start hfit A_w_TransactionStatus_PENDING_stateSuffix_value lt_w_TransactionStatus_PENDING_stateSuffix_value ln_w_TransactionStatus_PENDING_stateSuffix_value (by decide) rfl ⟨own_el (i := 0) A_w_TransactionStatus_PENDING_stateSuffix_value ev_w_TransactionStatus_PENDING_stateSuffix_value (own_eqint g62a), ⟨own_el (i := 1) A_w_TransactionStatus_PENDING_stateSuffix_value ev_w_TransactionStatus_PENDING_stateSuffix_value (own_eqint g63a), ⟨own_el (i := 2) A_w_TransactionStatus_PENDING_stateSuffix_value ev_w_TransactionStatus_PENDING_stateSuffix_value (own_eqint g64a), ⟨own_el (i := 3) A_w_TransactionStatus_PENDING_stateSuffix_value ev_w_TransactionStatus_PENDING_stateSuffix_value (own_eqint g65a), ⟨own_el (i := 4) A_w_TransactionStatus_PENDING_stateSuffix_value ev_w_TransactionStatus_PENDING_stateSuffix_value (own_eqint g66a), ⟨own_el (i := 5) A_w_TransactionStatus_PENDING_stateSuffix_value ev_w_TransactionStatus_PENDING_stateSuffix_value (own_eqint g67a), ⟨own_el (i := 6) A_w_TransactionStatus_PENDING_stateSuffix_value ev_w_TransactionStatus_PENDING_stateSuffix_value (own_eqint g67b), trivial⟩⟩⟩⟩⟩⟩⟩
  have hSM : ∀ i : Nat, i < 5 → c_w_TransactionStatus_1__SwitchMap_com_example_tender_tender_plugin_api_PluginOutcome.slots[i]? = some (.int (Int32.ofNat (i + 1))) := fun i hi => own_sw A_w_TransactionStatus_1__SwitchMap_com_example_tender_tender_plugin_api_PluginOutcome lt_w_TransactionStatus_1__SwitchMap_com_example_tender_tender_plugin_api_PluginOutcome ln_w_TransactionStatus_1__SwitchMap_com_example_tender_tender_plugin_api_PluginOutcome ev_w_TransactionStatus_1__SwitchMap_com_example_tender_tender_plugin_api_PluginOutcome g41a i hi
  have V_w_TransactionStatus_1__SwitchMap_com_example_tender_tender_plugin_api_PluginOutcome : Arv s s.heap w_TransactionStatus_1__SwitchMap_com_example_tender_tender_plugin_api_PluginOutcome c_w_TransactionStatus_1__SwitchMap_com_example_tender_tender_plugin_api_PluginOutcome.cls .int 5 [(.int (1 : Int32)), (.int (2 : Int32)), (.int (3 : Int32)), (.int (4 : Int32)), (.int (5 : Int32))] (.int 0) := Arv.start hfit A_w_TransactionStatus_1__SwitchMap_com_example_tender_tender_plugin_api_PluginOutcome lt_w_TransactionStatus_1__SwitchMap_com_example_tender_tender_plugin_api_PluginOutcome ln_w_TransactionStatus_1__SwitchMap_com_example_tender_tender_plugin_api_PluginOutcome (by decide) rfl ⟨hSM 0 (by decide), hSM 1 (by decide), hSM 2 (by decide), hSM 3 (by decide), hSM 4 (by decide), trivial⟩
  have ncz := not_v (Cond.before_iff.mp (hsets _ (List.mem_of_getElem? (i := 2) rfl)))
  obtain ⟨cz, ecz⟩ := is_v (Cond.before_iff.mp (hsets _ (List.mem_of_getElem? (i := 1) rfl)))
  have S_COMPACT : Sta s s.heap "java/lang/String" "COMPACT_STRINGS" "Z" (.int cz) := Sta.start ecz (Or.inl (hsets _ (List.mem_of_getElem? (i := 0) rfl)))
  have hcz : ¬ (cz = (0 : Int32)) := gotF (Cond.eq_ints ecz (Term.int_eval (0))) ncz
  obtain ⟨n, o, h1, h2, h3, _, L, rfl, ⟨rfl, N⟩, -, hq⟩ := rm0 l s _ hw tables_1 i0 w_PluginOutcome_PROCESSED w_PluginOutcome_ERROR w_PluginOutcome_PENDING w_PluginOutcome_CANCELED w_PluginOutcome_UNDEFINED w_TransactionStatus_SUCCESS w_TransactionStatus_PAYMENT_FAILURE w_TransactionStatus_PENDING w_TransactionStatus_PLUGIN_FAILURE w_TransactionStatus_UNKNOWN w_TransactionStatus_SUCCESS_stateSuffix w_TransactionStatus_PAYMENT_FAILURE_stateSuffix w_TransactionStatus_PENDING_stateSuffix w_TransactionStatus_PLUGIN_FAILURE_stateSuffix w_TransactionStatus_SUCCESS_stateSuffix_value w_TransactionStatus_PAYMENT_FAILURE_stateSuffix_value w_TransactionStatus_PENDING_stateSuffix_value w_TransactionStatus_PLUGIN_FAILURE_stateSuffix_value w_TransactionStatus_1__SwitchMap_com_example_tender_tender_plugin_api_PluginOutcome c_w_TransactionStatus_SUCCESS_stateSuffix_value.cls c_w_TransactionStatus_PAYMENT_FAILURE_stateSuffix_value.cls c_w_TransactionStatus_PENDING_stateSuffix_value.cls c_w_TransactionStatus_PLUGIN_FAILURE_stateSuffix_value.cls c_w_TransactionStatus_1__SwitchMap_com_example_tender_tender_plugin_api_PluginOutcome.cls cz s.heap s.heap.size (Old.start s) S_w_PluginOutcome_PROCESSED E_w_PluginOutcome_PROCESSED F_ordinal_w_PluginOutcome_PROCESSED S_w_PluginOutcome_ERROR E_w_PluginOutcome_ERROR F_ordinal_w_PluginOutcome_ERROR S_w_PluginOutcome_PENDING E_w_PluginOutcome_PENDING F_ordinal_w_PluginOutcome_PENDING S_w_PluginOutcome_CANCELED E_w_PluginOutcome_CANCELED F_ordinal_w_PluginOutcome_CANCELED S_w_PluginOutcome_UNDEFINED E_w_PluginOutcome_UNDEFINED F_ordinal_w_PluginOutcome_UNDEFINED S_w_TransactionStatus_SUCCESS E_w_TransactionStatus_SUCCESS F_stateSuffix_w_TransactionStatus_SUCCESS F_inDoubt_w_TransactionStatus_SUCCESS S_w_TransactionStatus_PAYMENT_FAILURE E_w_TransactionStatus_PAYMENT_FAILURE F_stateSuffix_w_TransactionStatus_PAYMENT_FAILURE F_inDoubt_w_TransactionStatus_PAYMENT_FAILURE S_w_TransactionStatus_PENDING E_w_TransactionStatus_PENDING F_stateSuffix_w_TransactionStatus_PENDING F_inDoubt_w_TransactionStatus_PENDING S_w_TransactionStatus_PLUGIN_FAILURE E_w_TransactionStatus_PLUGIN_FAILURE F_stateSuffix_w_TransactionStatus_PLUGIN_FAILURE F_inDoubt_w_TransactionStatus_PLUGIN_FAILURE S_w_TransactionStatus_UNKNOWN E_w_TransactionStatus_UNKNOWN F_stateSuffix_w_TransactionStatus_UNKNOWN F_inDoubt_w_TransactionStatus_UNKNOWN E_w_TransactionStatus_SUCCESS_stateSuffix F_coder_w_TransactionStatus_SUCCESS_stateSuffix F_value_w_TransactionStatus_SUCCESS_stateSuffix V_w_TransactionStatus_SUCCESS_stateSuffix_value E_w_TransactionStatus_PAYMENT_FAILURE_stateSuffix F_coder_w_TransactionStatus_PAYMENT_FAILURE_stateSuffix F_value_w_TransactionStatus_PAYMENT_FAILURE_stateSuffix V_w_TransactionStatus_PAYMENT_FAILURE_stateSuffix_value E_w_TransactionStatus_PENDING_stateSuffix F_coder_w_TransactionStatus_PENDING_stateSuffix F_value_w_TransactionStatus_PENDING_stateSuffix V_w_TransactionStatus_PENDING_stateSuffix_value E_w_TransactionStatus_PLUGIN_FAILURE_stateSuffix F_coder_w_TransactionStatus_PLUGIN_FAILURE_stateSuffix F_value_w_TransactionStatus_PLUGIN_FAILURE_stateSuffix V_w_TransactionStatus_PLUGIN_FAILURE_stateSuffix_value S_w_TransactionStatus_1__SwitchMap_com_example_tender_tender_plugin_api_PluginOutcome V_w_TransactionStatus_1__SwitchMap_com_example_tender_tender_plugin_api_PluginOutcome S_COMPACT hcz p e ha hc hk s m _ below hf ((Spec.applies_iff_loose hf).mp happ).1 ⟨rfl, State.Warmed39.refl s, rfl, CHv.start (own_EW hw) hcalls.1 (hsets _ (List.mem_of_getElem? (i := 2) rfl)) (hw _ (List.mem_of_getElem? (i := 7) rfl)) (hw _ (List.mem_of_getElem? (i := 6) rfl))⟩ trivial
  refine ⟨n, _, h1, h2, h3, hpost _ _ _ _ _ _ ⟨Cond.after_iff.mpr rfl, Cond.after_iff.mpr (eq_i res_at (Term.int_eval (1)) rfl), trivial⟩ ⟨hq.1, hq.2.1, hq.2.2.1, (hq.2.2.2.sift fun y hy => Or.inr (N y hy)).mono (by decide) (by decide)⟩⟩
theorem main_1_1 : Claimed_1_1 := comes_1 fun _ _ _ _ _ _ h hF => ⟨h.1, hF⟩
theorem main_1_2 : Claimed_1_2 := comes_1 fun _ _ _ _ _ _ h hF => ⟨h.2.1, hF⟩
end Jvm.Pilot.@@N@@
namespace Jvm.Pilot.@@N@@
open Jvm Jvm.ClassFile Sem Op Lib Jvm.Free Jvm.Stand Jvm.Pilot.@@N@@.Jvm.D
/-! MADE BY PROGRAM (witnessworld.py) out of the Statement's table words and the real class files: 20 classes; the members and pool entries that the words name. The judged class is class 1, her method 1. -/
namespace start1
open Jvm.ClassFile
def u (s : String) : CpInfo := .utf8 (stringToUtf16 s)
/-- a pool by its gaps: so many unusable entries, then the entry; so many at the end -/
def gap : Nat → List CpInfo → List CpInfo
  | 0, r => r
  | n + 1, r => .unusable :: gap n r
def poolList (es : List (Nat × CpInfo)) (last : Nat) : List CpInfo := es.foldr (fun e r => gap e.1 (e.2 :: r)) (gap last [])
def pool (es : List (Nat × CpInfo)) (last : Nat) : Array CpInfo := ⟨poolList es last⟩
def fileOf (pool : Array CpInfo) (this : Nat) (attrs : Array Attribute := #[]) (ms : Array MethodInfo := #[]) (fl : Nat := 33) (sup : Nat := 0) (ifs : Array Nat := #[]) (fds : Array FieldInfo := #[]) : ClassFile where
  minorVersion := 0
  majorVersion := 65
  constantPool := pool
  accessFlags := fl
  thisClass := this
  superClass := sup
  interfaces := ifs
  fields := fds
  methods := ms
  attributes := attrs
def plain (name : String) (sup : Option ClassId) : Class where
  name := name
  kind := .ordinary
  loader := none
  accessFlags := 33
  super := sup
  interfaces := #[]
  cf := none
  fields := #[]
  methods := #[]
  instanceTypes := #[]
  staticTypes := #[]
  resolved := #[]
  callSites := []
  init := .initialized
  statics := none
  mirror := none

def pool0 : Array CpInfo := pool [(5, u "<init>"), (0, u "()V"), (1, .class_ 10), (1, u "java/lang/Object")] 113

def k0m0 : Method := { name := "<init>", desc := "()V", sig := { parameters := [], returnType := none }, accessFlags := 1, code := none }
/-- java/lang/Object -/
def k0 : Class := { plain "java/lang/Object" none with
  accessFlags := 33
  interfaces := #[]
  cf := some (fileOf pool0 8 #[] #[{ accessFlags := 1, nameIndex := 5, descriptorIndex := 6, attributes := #[] }] 33 0 #[] #[])
  fields := #[]
  methods := #[k0m0]
  instanceTypes := #[]
  staticTypes := #[]
  resolved := Array.replicate 124 none
  statics := none }

def pool1 : Array CpInfo := pool [(2, .class_ 4), (1, u "java/lang/Object"), (0, u "<init>"), (0, u "()V"), (0, .integer 2147483647), (0, .fieldref 9 10), (0, .class_ 11), (0, .nameAndType 12 13), (0, u "com/example/tender/tender/plugin/api/PluginOutcome"), (0, u "PROCESSED"), (0, u "Lcom/example/tender/tender/plugin/api/PluginOutcome;"), (0, .string 15), (0, u "SUCCESS"), (0, .fieldref 9 17), (0, .nameAndType 18 13), (0, u "ERROR"), (0, .string 20), (0, u "FAILED"), (0, .fieldref 9 22), (0, .nameAndType 23 13), (0, u "PENDING"), (0, .string 23), (0, .fieldref 9 26), (0, .nameAndType 27 13), (0, u "CANCELED"), (0, .string 29), (0, u "ERRORED"), (0, .fieldref 9 31), (0, .nameAndType 32 13), (0, u "UNDEFINED"), (0, .methodref 34 35), (0, .class_ 36), (0, .nameAndType 37 38), (0, u "com/example/tender/tender/payment/TransactionStatus"), (0, u "of"), (0, u "(Lcom/example/tender/tender/plugin/api/PluginOutcome;)Lcom/example/tender/tender/payment/TransactionStatus;"), (0, .methodref 34 40), (0, .nameAndType 41 42), (0, u "stateSuffix"), (0, u "()Ljava/lang/String;"), (0, .methodref 44 45), (0, .class_ 46), (0, .nameAndType 47 48), (0, u "java/lang/String"), (0, u "equals"), (0, u "(Ljava/lang/Object;)Z"), (0, .methodref 34 50), (0, .nameAndType 51 52), (0, u "isInDoubt"), (0, u "()Z"), (0, .class_ 54), (0, u "com/example/tender/tender/payment/TransactionStatusOfPinLaw"), (2, u "law"), (0, u "(I)Z")] 3

def k1m0 : Method := { name := "<init>", desc := "()V", sig := { parameters := [], returnType := none }, accessFlags := 1, code := none }
def k1c1 : Code := { maxStack := 2, maxLocals := 6, code := code, exceptionTable := #[], attributes := #[] }
def k1m1 : Method := { name := "law", desc := "(I)Z", sig := { parameters := [.int], returnType := some .boolean }, accessFlags := 9, code := some k1c1 }
/-- com/example/tender/tender/payment/TransactionStatusOfPinLaw -/
def k1 : Class := { plain "com/example/tender/tender/payment/TransactionStatusOfPinLaw" (some 0) with
  accessFlags := 49
  interfaces := #[]
  cf := some (fileOf pool1 53 #[] #[{ accessFlags := 1, nameIndex := 5, descriptorIndex := 6, attributes := #[] }, { accessFlags := 9, nameIndex := 57, descriptorIndex := 58, attributes := #[] }] 49 2 #[] #[])
  fields := #[]
  methods := #[k1m0, k1m1]
  instanceTypes := #[]
  staticTypes := #[]
  resolved := Array.replicate 62 none
  statics := none }

def pool2 : Array CpInfo := pool [(1, .class_ 2), (0, u "java/lang/constant/Constable"), (0, .class_ 4), (0, u "java/lang/Object")] 6

/-- java/lang/constant/Constable -/
def k2 : Class := { plain "java/lang/constant/Constable" (some 0) with
  accessFlags := 1537
  interfaces := #[]
  cf := some (fileOf pool2 1 #[] #[] 1537 3 #[] #[])
  fields := #[]
  methods := #[]
  instanceTypes := #[]
  staticTypes := #[]
  resolved := Array.replicate 11 none
  statics := none }

def pool3 : Array CpInfo := pool [(1, .class_ 2), (0, u "java/lang/Comparable"), (0, .class_ 4), (0, u "java/lang/Object")] 7

/-- java/lang/Comparable -/
def k3 : Class := { plain "java/lang/Comparable" (some 0) with
  accessFlags := 1537
  interfaces := #[]
  cf := some (fileOf pool3 1 #[] #[] 1537 3 #[] #[])
  fields := #[]
  methods := #[]
  instanceTypes := #[]
  staticTypes := #[]
  resolved := Array.replicate 12 none
  statics := none }

def pool4 : Array CpInfo := pool [(1, .class_ 2), (0, u "java/io/Serializable"), (0, .class_ 4), (0, u "java/lang/Object")] 2

/-- java/io/Serializable -/
def k4 : Class := { plain "java/io/Serializable" (some 0) with
  accessFlags := 1537
  interfaces := #[]
  cf := some (fileOf pool4 1 #[] #[] 1537 3 #[] #[])
  fields := #[]
  methods := #[]
  instanceTypes := #[]
  staticTypes := #[]
  resolved := Array.replicate 7 none
  statics := none }

def pool5 : Array CpInfo := pool [(2, .class_ 4), (1, u "java/lang/Enum"), (0, u "name"), (0, u "Ljava/lang/String;"), (0, .fieldref 2 8), (0, .nameAndType 9 10), (0, u "ordinal"), (0, u "I"), (1, .class_ 14), (1, u "java/lang/Object"), (4, u "hash"), (86, .class_ 108), (1, u "java/lang/Enum$EnumDesc"), (2, .class_ 112), (0, u "java/lang/constant/Constable"), (0, .class_ 114), (0, u "java/lang/Comparable"), (0, .class_ 116), (0, u "java/io/Serializable"), (9, u "()I")] 77

def k5c0 : Code := { maxStack := 1, maxLocals := 1, code := jdk_37_method_2_code, exceptionTable := #[], attributes := #[] }
def k5m0 : Method := { name := "ordinal", desc := "()I", sig := { parameters := [], returnType := some .int }, accessFlags := 17, code := some k5c0 }
/-- java/lang/Enum -/
def k5 : Class := { plain "java/lang/Enum" (some 0) with
  accessFlags := 1057
  interfaces := #[2, 3, 4]
  cf := some (fileOf pool5 2 #[.nestMembers #[106]] #[{ accessFlags := 17, nameIndex := 9, descriptorIndex := 126, attributes := #[] }] 1057 12 #[111, 113, 115] #[{ accessFlags := 18, nameIndex := 5, descriptorIndex := 6, attributes := #[] }, { accessFlags := 18, nameIndex := 9, descriptorIndex := 10, attributes := #[] }, { accessFlags := 2, nameIndex := 19, descriptorIndex := 10, attributes := #[] }])
  fields := #[{ name := "name", type := (.object "java/lang/String"), accessFlags := 18, slot := 0, constantValue := 0 }, { name := "ordinal", type := .int, accessFlags := 18, slot := 1, constantValue := 0 }, { name := "hash", type := .int, accessFlags := 2, slot := 2, constantValue := 0 }]
  methods := #[k5m0]
  instanceTypes := #[(.object "java/lang/String"), .int, .int]
  staticTypes := #[]
  resolved := Array.replicate 204 none
  statics := none }

def pool6 : Array CpInfo := pool [(1, .class_ 2), (0, u "com/example/tender/tender/plugin/api/PluginOutcome"), (2, u "PROCESSED"), (0, u "Lcom/example/tender/tender/plugin/api/PluginOutcome;"), (2, u "ERROR"), (2, u "PENDING"), (2, u "CANCELED"), (2, u "UNDEFINED"), (2, u "$VALUES"), (0, u "[Lcom/example/tender/tender/plugin/api/PluginOutcome;"), (6, .class_ 31), (1, u "java/lang/Enum")] 27

/-- com/example/tender/tender/plugin/api/PluginOutcome -/
def k6 : Class := { plain "com/example/tender/tender/plugin/api/PluginOutcome" (some 5) with
  accessFlags := 16433
  interfaces := #[]
  cf := some (fileOf pool6 1 #[] #[] 16433 29 #[] #[{ accessFlags := 16409, nameIndex := 5, descriptorIndex := 6, attributes := #[] }, { accessFlags := 16409, nameIndex := 9, descriptorIndex := 6, attributes := #[] }, { accessFlags := 16409, nameIndex := 12, descriptorIndex := 6, attributes := #[] }, { accessFlags := 16409, nameIndex := 15, descriptorIndex := 6, attributes := #[] }, { accessFlags := 16409, nameIndex := 18, descriptorIndex := 6, attributes := #[] }, { accessFlags := 4122, nameIndex := 21, descriptorIndex := 22, attributes := #[] }])
  fields := #[{ name := "PROCESSED", type := (.object "com/example/tender/tender/plugin/api/PluginOutcome"), accessFlags := 16409, slot := 0, constantValue := 0 }, { name := "ERROR", type := (.object "com/example/tender/tender/plugin/api/PluginOutcome"), accessFlags := 16409, slot := 1, constantValue := 0 }, { name := "PENDING", type := (.object "com/example/tender/tender/plugin/api/PluginOutcome"), accessFlags := 16409, slot := 2, constantValue := 0 }, { name := "CANCELED", type := (.object "com/example/tender/tender/plugin/api/PluginOutcome"), accessFlags := 16409, slot := 3, constantValue := 0 }, { name := "UNDEFINED", type := (.object "com/example/tender/tender/plugin/api/PluginOutcome"), accessFlags := 16409, slot := 4, constantValue := 0 }, { name := "$VALUES", type := (.array (.object "com/example/tender/tender/plugin/api/PluginOutcome")), accessFlags := 4122, slot := 5, constantValue := 0 }]
  methods := #[]
  instanceTypes := #[(.object "java/lang/String"), .int, .int]
  staticTypes := #[(.object "com/example/tender/tender/plugin/api/PluginOutcome"), (.object "com/example/tender/tender/plugin/api/PluginOutcome"), (.object "com/example/tender/tender/plugin/api/PluginOutcome"), (.object "com/example/tender/tender/plugin/api/PluginOutcome"), (.object "com/example/tender/tender/plugin/api/PluginOutcome"), (.array (.object "com/example/tender/tender/plugin/api/PluginOutcome"))]
  resolved := Array.replicate 59 none
  statics := some 0 }

def pool7 : Array CpInfo := pool [(2, .class_ 4), (1, u "java/lang/CharSequence"), (42, .class_ 48), (0, u "java/lang/CharSequence$1CodePointIterator"), (10, .class_ 60), (0, u "java/lang/CharSequence$1CharIterator"), (5, .class_ 67), (0, u "java/lang/Object")] 63

/-- java/lang/CharSequence -/
def k7 : Class := { plain "java/lang/CharSequence" (some 0) with
  accessFlags := 1537
  interfaces := #[]
  cf := some (fileOf pool7 2 #[.nestMembers #[47, 59]] #[] 1537 66 #[] #[])
  fields := #[]
  methods := #[]
  instanceTypes := #[]
  staticTypes := #[]
  resolved := Array.replicate 131 none
  statics := none }

def pool8 : Array CpInfo := pool [(1, .class_ 2), (0, u "java/lang/constant/ConstantDesc"), (0, .class_ 4), (0, u "java/lang/Object")] 32

/-- java/lang/constant/ConstantDesc -/
def k8 : Class := { plain "java/lang/constant/ConstantDesc" (some 0) with
  accessFlags := 1537
  interfaces := #[]
  cf := some (fileOf pool8 1 #[] #[] 1537 3 #[] #[])
  fields := #[]
  methods := #[]
  instanceTypes := #[]
  staticTypes := #[]
  resolved := Array.replicate 37 none
  statics := none }

def pool9 : Array CpInfo := pool [(2, .class_ 4), (1, u "java/lang/Object"), (0, u "<init>"), (0, u "()V"), (2, .fieldref 10 11), (0, .class_ 12), (0, .nameAndType 13 14), (0, u "java/lang/String"), (0, u "value"), (0, u "[B"), (0, .fieldref 10 16), (0, .nameAndType 17 18), (0, u "coder"), (0, u "B"), (2, u "hash"), (0, u "I"), (2, u "hashIsZero"), (0, u "Z"), (11, .fieldref 10 39), (0, .nameAndType 40 26), (0, u "COMPACT_STRINGS"), (66, .class_ 109), (1, u "java/lang/StringLatin1"), (431, .methodref 107 542), (0, .nameAndType 543 544), (0, u "equals"), (0, u "([B[B)Z"), (28, u "(Ljava/lang/Object;)Z"), (1, .class_ 576), (0, u "java/lang/CharSequence"), (22, u "CASE_INSENSITIVE_ORDER"), (0, u "Ljava/util/Comparator;"), (500, u "serialPersistentFields"), (0, u "[Ljava/io/ObjectStreamField;"), (0, .class_ 1104), (0, u "java/lang/String$CaseInsensitiveComparator"), (1, .class_ 1107), (0, u "java/io/Serializable"), (0, .class_ 1109), (0, u "java/lang/Comparable"), (0, .class_ 1111), (0, u "java/lang/constant/Constable"), (0, .class_ 1113), (0, u "java/lang/constant/ConstantDesc"), (2, u "serialVersionUID"), (0, u "J"), (3, u "REPL"), (0, u "C"), (2, u "LATIN1"), (1, u "UTF16")] 323

def k9m0 : Method := { name := "<init>", desc := "()V", sig := { parameters := [], returnType := none }, accessFlags := 1, code := none }
def k9c1 : Code := { maxStack := 2, maxLocals := 3, code := jdk_42_method_66_code, exceptionTable := #[], attributes := #[] }
def k9m1 : Method := { name := "equals", desc := "(Ljava/lang/Object;)Z", sig := { parameters := [(.object "java/lang/Object")], returnType := some .boolean }, accessFlags := 1, code := some k9c1 }
/-- java/lang/String -/
def k9 : Class := { plain "java/lang/String" (some 0) with
  accessFlags := 49
  interfaces := #[4, 3, 7, 2, 8]
  cf := some (fileOf pool9 10 #[.nestMembers #[1103]] #[{ accessFlags := 1, nameIndex := 5, descriptorIndex := 6, attributes := #[] }, { accessFlags := 1, nameIndex := 543, descriptorIndex := 573, attributes := #[] }] 49 2 #[1106, 1108, 575, 1110, 1112] #[{ accessFlags := 18, nameIndex := 13, descriptorIndex := 14, attributes := #[] }, { accessFlags := 18, nameIndex := 17, descriptorIndex := 18, attributes := #[] }, { accessFlags := 2, nameIndex := 21, descriptorIndex := 22, attributes := #[] }, { accessFlags := 2, nameIndex := 25, descriptorIndex := 26, attributes := #[] }, { accessFlags := 26, nameIndex := 1116, descriptorIndex := 1117, attributes := #[] }, { accessFlags := 24, nameIndex := 40, descriptorIndex := 26, attributes := #[] }, { accessFlags := 26, nameIndex := 1101, descriptorIndex := 1102, attributes := #[] }, { accessFlags := 26, nameIndex := 1121, descriptorIndex := 1122, attributes := #[] }, { accessFlags := 25, nameIndex := 599, descriptorIndex := 600, attributes := #[] }, { accessFlags := 24, nameIndex := 1125, descriptorIndex := 18, attributes := #[] }, { accessFlags := 24, nameIndex := 1127, descriptorIndex := 18, attributes := #[] }])
  fields := #[{ name := "value", type := (.array .byte), accessFlags := 18, slot := 0, constantValue := 0 }, { name := "coder", type := .byte, accessFlags := 18, slot := 1, constantValue := 0 }, { name := "hash", type := .int, accessFlags := 2, slot := 2, constantValue := 0 }, { name := "hashIsZero", type := .boolean, accessFlags := 2, slot := 3, constantValue := 0 }, { name := "serialVersionUID", type := .long, accessFlags := 26, slot := 0, constantValue := 0 }, { name := "COMPACT_STRINGS", type := .boolean, accessFlags := 24, slot := 1, constantValue := 0 }, { name := "serialPersistentFields", type := (.array (.object "java/io/ObjectStreamField")), accessFlags := 26, slot := 2, constantValue := 0 }, { name := "REPL", type := .char, accessFlags := 26, slot := 3, constantValue := 0 }, { name := "CASE_INSENSITIVE_ORDER", type := (.object "java/util/Comparator"), accessFlags := 25, slot := 4, constantValue := 0 }, { name := "LATIN1", type := .byte, accessFlags := 24, slot := 5, constantValue := 0 }, { name := "UTF16", type := .byte, accessFlags := 24, slot := 6, constantValue := 0 }]
  methods := #[k9m0, k9m1]
  instanceTypes := #[(.array .byte), .byte, .int, .boolean]
  staticTypes := #[.long, .boolean, (.array (.object "java/io/ObjectStreamField")), .char, (.object "java/util/Comparator"), .byte, .byte]
  resolved := Array.replicate 1451 none
  statics := some 1 }

def pool10 : Array CpInfo := pool [(1, .class_ 2), (0, u "com/example/tender/tender/payment/TransactionStatus"), (0, .fieldref 1 4), (0, .nameAndType 5 6), (0, u "SUCCESS"), (0, u "Lcom/example/tender/tender/payment/TransactionStatus;"), (0, .fieldref 1 8), (0, .nameAndType 9 6), (0, u "PAYMENT_FAILURE"), (0, .fieldref 1 11), (0, .nameAndType 12 6), (0, u "PENDING"), (0, .fieldref 1 14), (0, .nameAndType 15 6), (0, u "PLUGIN_FAILURE"), (0, .fieldref 1 17), (0, .nameAndType 18 6), (0, u "UNKNOWN"), (2, u "$VALUES"), (0, u "[Lcom/example/tender/tender/payment/TransactionStatus;"), (6, .class_ 31), (1, u "java/lang/Enum"), (6, .fieldref 1 39), (0, .nameAndType 40 41), (0, u "stateSuffix"), (0, u "Ljava/lang/String;"), (0, .fieldref 1 43), (0, .nameAndType 44 45), (0, u "inDoubt"), (0, u "Z"), (0, .fieldref 47 48), (0, .class_ 49), (0, .nameAndType 50 51), (0, u "com/example/tender/tender/payment/TransactionStatus$1"), (0, u "$SwitchMap$com$example$tender$tender$plugin$api$PluginOutcome"), (0, u "[I"), (0, .methodref 53 54), (0, .class_ 55), (0, .nameAndType 56 57), (0, u "com/example/tender/tender/plugin/api/PluginOutcome"), (0, u "ordinal"), (0, u "()I"), (28, u "of"), (0, u "(Lcom/example/tender/tender/plugin/api/PluginOutcome;)Lcom/example/tender/tender/payment/TransactionStatus;"), (1, u "isInDoubt"), (0, u "()Z"), (0, u "()Ljava/lang/String;")] 7

def k10c0 : Code := { maxStack := 4, maxLocals := 1, code := prog_17_method_4_code, exceptionTable := #[], attributes := #[] }
def k10m0 : Method := { name := "of", desc := "(Lcom/example/tender/tender/plugin/api/PluginOutcome;)Lcom/example/tender/tender/payment/TransactionStatus;", sig := { parameters := [(.object "com/example/tender/tender/plugin/api/PluginOutcome")], returnType := some (.object "com/example/tender/tender/payment/TransactionStatus") }, accessFlags := 9, code := some k10c0 }
def k10c1 : Code := { maxStack := 1, maxLocals := 1, code := prog_17_method_5_code, exceptionTable := #[], attributes := #[] }
def k10m1 : Method := { name := "isInDoubt", desc := "()Z", sig := { parameters := [], returnType := some .boolean }, accessFlags := 1, code := some k10c1 }
def k10c2 : Code := { maxStack := 1, maxLocals := 1, code := prog_17_method_6_code, exceptionTable := #[], attributes := #[] }
def k10m2 : Method := { name := "stateSuffix", desc := "()Ljava/lang/String;", sig := { parameters := [], returnType := some (.object "java/lang/String") }, accessFlags := 0, code := some k10c2 }
/-- com/example/tender/tender/payment/TransactionStatus -/
def k10 : Class := { plain "com/example/tender/tender/payment/TransactionStatus" (some 5) with
  accessFlags := 16433
  interfaces := #[]
  cf := some (fileOf pool10 1 #[.nestMembers #[47]] #[{ accessFlags := 9, nameIndex := 86, descriptorIndex := 87, attributes := #[] }, { accessFlags := 1, nameIndex := 89, descriptorIndex := 90, attributes := #[] }, { accessFlags := 0, nameIndex := 40, descriptorIndex := 91, attributes := #[] }] 16433 29 #[] #[{ accessFlags := 16409, nameIndex := 5, descriptorIndex := 6, attributes := #[] }, { accessFlags := 16409, nameIndex := 9, descriptorIndex := 6, attributes := #[] }, { accessFlags := 16409, nameIndex := 12, descriptorIndex := 6, attributes := #[] }, { accessFlags := 16409, nameIndex := 15, descriptorIndex := 6, attributes := #[] }, { accessFlags := 16409, nameIndex := 18, descriptorIndex := 6, attributes := #[] }, { accessFlags := 18, nameIndex := 40, descriptorIndex := 41, attributes := #[] }, { accessFlags := 18, nameIndex := 44, descriptorIndex := 45, attributes := #[] }, { accessFlags := 4122, nameIndex := 21, descriptorIndex := 22, attributes := #[] }])
  fields := #[{ name := "SUCCESS", type := (.object "com/example/tender/tender/payment/TransactionStatus"), accessFlags := 16409, slot := 0, constantValue := 0 }, { name := "PAYMENT_FAILURE", type := (.object "com/example/tender/tender/payment/TransactionStatus"), accessFlags := 16409, slot := 1, constantValue := 0 }, { name := "PENDING", type := (.object "com/example/tender/tender/payment/TransactionStatus"), accessFlags := 16409, slot := 2, constantValue := 0 }, { name := "PLUGIN_FAILURE", type := (.object "com/example/tender/tender/payment/TransactionStatus"), accessFlags := 16409, slot := 3, constantValue := 0 }, { name := "UNKNOWN", type := (.object "com/example/tender/tender/payment/TransactionStatus"), accessFlags := 16409, slot := 4, constantValue := 0 }, { name := "stateSuffix", type := (.object "java/lang/String"), accessFlags := 18, slot := 3, constantValue := 0 }, { name := "inDoubt", type := .boolean, accessFlags := 18, slot := 4, constantValue := 0 }, { name := "$VALUES", type := (.array (.object "com/example/tender/tender/payment/TransactionStatus")), accessFlags := 4122, slot := 5, constantValue := 0 }]
  methods := #[k10m0, k10m1, k10m2]
  instanceTypes := #[(.object "java/lang/String"), .int, .int, (.object "java/lang/String"), .boolean]
  staticTypes := #[(.object "com/example/tender/tender/payment/TransactionStatus"), (.object "com/example/tender/tender/payment/TransactionStatus"), (.object "com/example/tender/tender/payment/TransactionStatus"), (.object "com/example/tender/tender/payment/TransactionStatus"), (.object "com/example/tender/tender/payment/TransactionStatus"), (.array (.object "com/example/tender/tender/payment/TransactionStatus"))]
  resolved := Array.replicate 99 none
  statics := some 2 }

def pool11 : Array CpInfo := pool [(8, .class_ 10), (1, u "com/example/tender/tender/payment/TransactionStatus$1"), (0, u "$SwitchMap$com$example$tender$tender$plugin$api$PluginOutcome"), (0, u "[I"), (22, .class_ 36), (0, u "java/lang/Object"), (8, .class_ 46), (0, u "com/example/tender/tender/payment/TransactionStatus")] 2

/-- com/example/tender/tender/payment/TransactionStatus$1 -/
def k11 : Class := { plain "com/example/tender/tender/payment/TransactionStatus$1" (some 0) with
  accessFlags := 4128
  interfaces := #[]
  cf := some (fileOf pool11 8 #[.nestHost 45] #[] 4128 35 #[] #[{ accessFlags := 4120, nameIndex := 11, descriptorIndex := 12, attributes := #[] }])
  fields := #[{ name := "$SwitchMap$com$example$tender$tender$plugin$api$PluginOutcome", type := (.array .int), accessFlags := 4120, slot := 0, constantValue := 0 }]
  methods := #[]
  instanceTypes := #[]
  staticTypes := #[(.array .int)]
  resolved := Array.replicate 49 none
  statics := some 3 }

def pool12 : Array CpInfo := pool [(4, .class_ 6), (1, u "java/lang/Object"), (0, u "<init>"), (0, u "()V"), (5, .class_ 16), (1, u "java/lang/StringLatin1"), (104, u "$assertionsDisabled"), (0, u "Z"), (98, .class_ 223), (1, u "java/lang/StringLatin1$LinesSpliterator"), (57, u "equals"), (0, u "([B[B)Z"), (107, .class_ 391), (0, u "java/lang/StringLatin1$CharsSpliterator")] 3

def k12m0 : Method := { name := "<init>", desc := "()V", sig := { parameters := [], returnType := none }, accessFlags := 0, code := none }
def k12c1 : Code := { maxStack := 3, maxLocals := 3, code := jdk_43_method_13_code, exceptionTable := #[], attributes := #[] }
def k12m1 : Method := { name := "equals", desc := "([B[B)Z", sig := { parameters := [(.array .byte), (.array .byte)], returnType := some .boolean }, accessFlags := 9, code := some k12c1 }
/-- java/lang/StringLatin1 -/
def k12 : Class := { plain "java/lang/StringLatin1" (some 0) with
  accessFlags := 48
  interfaces := #[]
  cf := some (fileOf pool12 14 #[.nestMembers #[390, 221]] #[{ accessFlags := 0, nameIndex := 7, descriptorIndex := 8, attributes := #[] }, { accessFlags := 9, nameIndex := 281, descriptorIndex := 282, attributes := #[] }] 48 4 #[] #[{ accessFlags := 4120, nameIndex := 121, descriptorIndex := 122, attributes := #[] }])
  fields := #[{ name := "$assertionsDisabled", type := .boolean, accessFlags := 4120, slot := 0, constantValue := 0 }]
  methods := #[k12m0, k12m1]
  instanceTypes := #[]
  staticTypes := #[.boolean]
  resolved := Array.replicate 395 none
  statics := none }

def pool13 : Array CpInfo := pool [(2, .class_ 4), (1, u "java/lang/Object"), (0, u "<init>"), (0, u "()V"), (17, .class_ 26), (1, u "jdk/internal/util/Preconditions"), (28, .class_ 56), (0, u "jdk/internal/util/Preconditions$4"), (57, .class_ 115), (0, u "jdk/internal/util/Preconditions$1"), (7, u "SIOOBE_FORMATTER"), (0, u "Ljava/util/function/BiFunction;"), (0, .class_ 126), (0, u "jdk/internal/util/Preconditions$2"), (3, u "AIOOBE_FORMATTER"), (0, .class_ 132), (0, u "jdk/internal/util/Preconditions$3"), (3, u "IOOBE_FORMATTER")] 57

def k13m0 : Method := { name := "<init>", desc := "()V", sig := { parameters := [], returnType := none }, accessFlags := 1, code := none }
/-- jdk/internal/util/Preconditions -/
def k13 : Class := { plain "jdk/internal/util/Preconditions" (some 0) with
  accessFlags := 33
  interfaces := #[]
  cf := some (fileOf pool13 24 #[.nestMembers #[55, 131, 125, 114]] #[{ accessFlags := 1, nameIndex := 5, descriptorIndex := 6, attributes := #[] }] 33 2 #[] #[{ accessFlags := 25, nameIndex := 123, descriptorIndex := 124, attributes := #[] }, { accessFlags := 25, nameIndex := 130, descriptorIndex := 124, attributes := #[] }, { accessFlags := 25, nameIndex := 136, descriptorIndex := 124, attributes := #[] }])
  fields := #[{ name := "SIOOBE_FORMATTER", type := (.object "java/util/function/BiFunction"), accessFlags := 25, slot := 0, constantValue := 0 }, { name := "AIOOBE_FORMATTER", type := (.object "java/util/function/BiFunction"), accessFlags := 25, slot := 1, constantValue := 0 }, { name := "IOOBE_FORMATTER", type := (.object "java/util/function/BiFunction"), accessFlags := 25, slot := 2, constantValue := 0 }]
  methods := #[k13m0]
  instanceTypes := #[]
  staticTypes := #[(.object "java/util/function/BiFunction"), (.object "java/util/function/BiFunction"), (.object "java/util/function/BiFunction")]
  resolved := Array.replicate 194 none
  statics := some 4 }

def pool14 : Array CpInfo := pool [(9, u "<init>"), (6, .class_ 18), (1, u "java/lang/Object"), (0, u "()V"), (1, .class_ 23), (1, u "jdk/internal/util/ArraysSupport"), (0, u "LOG2_ARRAY_LONG_INDEX_SCALE"), (0, u "I"), (2, u "U"), (0, u "Ljdk/internal/misc/Unsafe;"), (8, u "BIG_ENDIAN"), (0, u "Z"), (8, u "LOG2_BYTE_BIT_SIZE"), (4, u "LOG2_ARRAY_INT_INDEX_SCALE"), (54, u "JLA"), (0, u "Ljdk/internal/access/JavaLangAccess;"), (11, u "LOG2_ARRAY_BOOLEAN_INDEX_SCALE"), (9, u "LOG2_ARRAY_BYTE_INDEX_SCALE"), (5, u "LOG2_ARRAY_CHAR_INDEX_SCALE"), (5, u "LOG2_ARRAY_SHORT_INDEX_SCALE"), (18, u "LOG2_ARRAY_FLOAT_INDEX_SCALE"), (24, u "LOG2_ARRAY_DOUBLE_INDEX_SCALE"), (89, u "T_BOOLEAN"), (2, u "T_CHAR"), (1, u "T_FLOAT"), (1, u "T_DOUBLE"), (1, u "T_BYTE"), (1, u "T_SHORT"), (1, u "T_INT"), (1, u "T_LONG"), (1, u "SOFT_MAX_ARRAY_LENGTH")] 83

def k14m0 : Method := { name := "<init>", desc := "()V", sig := { parameters := [], returnType := none }, accessFlags := 2, code := none }
/-- jdk/internal/util/ArraysSupport -/
def k14 : Class := { plain "jdk/internal/util/ArraysSupport" (some 0) with
  accessFlags := 33
  interfaces := #[]
  cf := some (fileOf pool14 21 #[] #[{ accessFlags := 2, nameIndex := 9, descriptorIndex := 19, attributes := #[] }] 33 16 #[] #[{ accessFlags := 24, nameIndex := 28, descriptorIndex := 29, attributes := #[] }, { accessFlags := 26, nameIndex := 38, descriptorIndex := 39, attributes := #[] }, { accessFlags := 25, nameIndex := 121, descriptorIndex := 25, attributes := #[] }, { accessFlags := 25, nameIndex := 131, descriptorIndex := 25, attributes := #[] }, { accessFlags := 25, nameIndex := 137, descriptorIndex := 25, attributes := #[] }, { accessFlags := 25, nameIndex := 143, descriptorIndex := 25, attributes := #[] }, { accessFlags := 25, nameIndex := 53, descriptorIndex := 25, attributes := #[] }, { accessFlags := 25, nameIndex := 24, descriptorIndex := 25, attributes := #[] }, { accessFlags := 25, nameIndex := 162, descriptorIndex := 25, attributes := #[] }, { accessFlags := 25, nameIndex := 187, descriptorIndex := 25, attributes := #[] }, { accessFlags := 26, nameIndex := 48, descriptorIndex := 25, attributes := #[] }, { accessFlags := 25, nameIndex := 277, descriptorIndex := 25, attributes := #[] }, { accessFlags := 25, nameIndex := 280, descriptorIndex := 25, attributes := #[] }, { accessFlags := 25, nameIndex := 282, descriptorIndex := 25, attributes := #[] }, { accessFlags := 25, nameIndex := 284, descriptorIndex := 25, attributes := #[] }, { accessFlags := 25, nameIndex := 286, descriptorIndex := 25, attributes := #[] }, { accessFlags := 25, nameIndex := 288, descriptorIndex := 25, attributes := #[] }, { accessFlags := 25, nameIndex := 290, descriptorIndex := 25, attributes := #[] }, { accessFlags := 25, nameIndex := 292, descriptorIndex := 25, attributes := #[] }, { accessFlags := 26, nameIndex := 108, descriptorIndex := 109, attributes := #[] }, { accessFlags := 25, nameIndex := 294, descriptorIndex := 25, attributes := #[] }])
  fields := #[{ name := "U", type := (.object "jdk/internal/misc/Unsafe"), accessFlags := 24, slot := 0, constantValue := 0 }, { name := "BIG_ENDIAN", type := .boolean, accessFlags := 26, slot := 1, constantValue := 0 }, { name := "LOG2_ARRAY_BOOLEAN_INDEX_SCALE", type := .int, accessFlags := 25, slot := 2, constantValue := 0 }, { name := "LOG2_ARRAY_BYTE_INDEX_SCALE", type := .int, accessFlags := 25, slot := 3, constantValue := 0 }, { name := "LOG2_ARRAY_CHAR_INDEX_SCALE", type := .int, accessFlags := 25, slot := 4, constantValue := 0 }, { name := "LOG2_ARRAY_SHORT_INDEX_SCALE", type := .int, accessFlags := 25, slot := 5, constantValue := 0 }, { name := "LOG2_ARRAY_INT_INDEX_SCALE", type := .int, accessFlags := 25, slot := 6, constantValue := 0 }, { name := "LOG2_ARRAY_LONG_INDEX_SCALE", type := .int, accessFlags := 25, slot := 7, constantValue := 0 }, { name := "LOG2_ARRAY_FLOAT_INDEX_SCALE", type := .int, accessFlags := 25, slot := 8, constantValue := 0 }, { name := "LOG2_ARRAY_DOUBLE_INDEX_SCALE", type := .int, accessFlags := 25, slot := 9, constantValue := 0 }, { name := "LOG2_BYTE_BIT_SIZE", type := .int, accessFlags := 26, slot := 10, constantValue := 0 }, { name := "T_BOOLEAN", type := .int, accessFlags := 25, slot := 11, constantValue := 0 }, { name := "T_CHAR", type := .int, accessFlags := 25, slot := 12, constantValue := 0 }, { name := "T_FLOAT", type := .int, accessFlags := 25, slot := 13, constantValue := 0 }, { name := "T_DOUBLE", type := .int, accessFlags := 25, slot := 14, constantValue := 0 }, { name := "T_BYTE", type := .int, accessFlags := 25, slot := 15, constantValue := 0 }, { name := "T_SHORT", type := .int, accessFlags := 25, slot := 16, constantValue := 0 }, { name := "T_INT", type := .int, accessFlags := 25, slot := 17, constantValue := 0 }, { name := "T_LONG", type := .int, accessFlags := 25, slot := 18, constantValue := 0 }, { name := "JLA", type := (.object "jdk/internal/access/JavaLangAccess"), accessFlags := 26, slot := 19, constantValue := 0 }, { name := "SOFT_MAX_ARRAY_LENGTH", type := .int, accessFlags := 25, slot := 20, constantValue := 0 }]
  methods := #[k14m0]
  instanceTypes := #[]
  staticTypes := #[(.object "jdk/internal/misc/Unsafe"), .boolean, .int, .int, .int, .int, .int, .int, .int, .int, .int, .int, .int, .int, .int, .int, .int, .int, .int, (.object "jdk/internal/access/JavaLangAccess"), .int]
  resolved := Array.replicate 378 none
  statics := none }

def pool15 : Array CpInfo := pool [(1, u "java/lang/Cloneable"), (0, .class_ 1), (0, u "java/lang/Object"), (0, .class_ 3)] 3

/-- java/lang/Cloneable -/
def k15 : Class := { plain "java/lang/Cloneable" (some 0) with
  accessFlags := 1537
  interfaces := #[]
  cf := some (fileOf pool15 2 #[] #[] 1537 4 #[] #[])
  fields := #[]
  methods := #[]
  instanceTypes := #[]
  staticTypes := #[]
  resolved := Array.replicate 8 none
  statics := none }

/-- the primitive byte -/
def k16 : Class := { plain "byte" none with kind := .primitive 'B', accessFlags := 0x411 }
/-- [B -/
def k17 : Class := { plain "[B" (some 0) with kind := .array 16 .byte, interfaces := #[15, 4], accessFlags := 1041 }

/-- the primitive int -/
def k18 : Class := { plain "int" none with kind := .primitive 'I', accessFlags := 0x411 }
/-- [I -/
def k19 : Class := { plain "[I" (some 0) with kind := .array 18 .int, interfaces := #[15, 4], accessFlags := 1041 }

def heap : Heap := #[{ cls := 6, slots := #[.ref 5, .ref 6, .ref 7, .ref 8, .ref 9, .null], vm := .statics 6 },
  { cls := 9, slots := #[.long 0, .int 1, .null, .int 0, .null, .int 0, .int 0], vm := .statics 9 },
  { cls := 10, slots := #[.ref 18, .ref 19, .ref 20, .ref 21, .ref 22, .null], vm := .statics 10 },
  { cls := 11, slots := #[.ref 23], vm := .statics 11 },
  { cls := 13, slots := #[.null, .null, .null], vm := .statics 13 },
  { cls := 6, slots := #[.null, .int 0, .int 0], vm := .none },
  { cls := 6, slots := #[.null, .int 1, .int 0], vm := .none },
  { cls := 6, slots := #[.null, .int 2, .int 0], vm := .none },
  { cls := 6, slots := #[.null, .int 3, .int 0], vm := .none },
  { cls := 6, slots := #[.null, .int 4, .int 0], vm := .none },
  { cls := 17, slots := #[.int 83, .int 85, .int 67, .int 67, .int 69, .int 83, .int 83], vm := .none },
  { cls := 9, slots := #[.ref 10, .int 0, .int 0, .int 0], vm := .none },
  { cls := 17, slots := #[.int 70, .int 65, .int 73, .int 76, .int 69, .int 68], vm := .none },
  { cls := 9, slots := #[.ref 12, .int 0, .int 0, .int 0], vm := .none },
  { cls := 17, slots := #[.int 80, .int 69, .int 78, .int 68, .int 73, .int 78, .int 71], vm := .none },
  { cls := 9, slots := #[.ref 14, .int 0, .int 0, .int 0], vm := .none },
  { cls := 17, slots := #[.int 69, .int 82, .int 82, .int 79, .int 82, .int 69, .int 68], vm := .none },
  { cls := 9, slots := #[.ref 16, .int 0, .int 0, .int 0], vm := .none },
  { cls := 10, slots := #[.null, .int 0, .int 0, .ref 11, .int 0], vm := .none },
  { cls := 10, slots := #[.null, .int 1, .int 0, .ref 13, .int 0], vm := .none },
  { cls := 10, slots := #[.null, .int 2, .int 0, .ref 15, .int 1], vm := .none },
  { cls := 10, slots := #[.null, .int 3, .int 0, .ref 17, .int 0], vm := .none },
  { cls := 10, slots := #[.null, .int 4, .int 0, .ref 17, .int 1], vm := .none },
  { cls := 19, slots := #[.int 1, .int 2, .int 3, .int 4, .int 5], vm := .none }]
def classes : Array Class := #[k0, k1, k2, k3, k4, k5, k6, k7, k8, k9, k10, k11, k12, k13, k14, k15, k16, k17, k18, k19]
def interned : List (Array UInt16 × Addr) := []
def slotsUsed : Nat := 111
def theMethod : MethodId := ⟨1, 1⟩
def args0 : Array Value := #[.int 5]
def aboutOver (below : List Frame) : State where
  vm := { classes := classes, interned := interned.toArray }
  heap := heap
  slotsUsed := slotsUsed
  threads := #[{ frames := .invoking theMethod args0 :: below }]
def below0 : List Frame := [.native { method := ⟨0, 0⟩, args := #[] }]
def about1 : State := aboutOver below0
def p0 : Program := .bare "" "" ""
def e0 : Env := launch0.env 0 0 0
theorem w_frames : about1.frames = Frame.invoking theMethod args0 :: below0 := rfl
set_option maxRecDepth 65536 in
theorem w_args : argsFit about1.vm theMethod args0 = true := by decide +kernel
set_option maxRecDepth 65536 in
theorem w_heap : heapFits about1 = true := by decide +kernel
set_option maxRecDepth 65536 in
theorem w_runnable : about1.curStatus? = some .runnable := by decide +kernel
set_option maxRecDepth 65536 in
theorem w_alone : about1.alone = true := by decide +kernel
set_option maxRecDepth 65536 in
theorem w_named : about1.methodNamed? x = some theMethod := by decide +kernel
set_option maxRecDepth 65536 in
theorem w_hears : about1.hears theMethod below0 = true := by decide +kernel
set_option maxRecDepth 65536 in
theorem w_ripe : about1.ripe theMethod args0 below0 = true := by decide +kernel
theorem w_running : about1.status = .running := rfl
set_option maxRecDepth 65536 in
theorem w_room : about1.hasRoom e0.platform room_1 = true :=
  launch0.hasRoom_least _ room_1 (by decide +kernel) (by decide +kernel) (by decide +kernel) (by decide +kernel) (by decide +kernel) (by decide +kernel)
theorem allAtoms_all (ts : List Jvm.Cond) (a : Array Jvm.Value) (st : Jvm.State) : (allAtoms ts).before a st = ts.all (fun c => c.before a st) := by
  induction ts with
  | nil => rfl
  | cons c t ih =>
    show (Jvm.Cond.and c (allAtoms t)).before a st = _
    rw [Jvm.Cond.before_and, ih, List.all_cons]
def words1 : List Jvm.Cond := Jvm.Cond.code x code maxLocals ret :: tables_1
/-- a 'code' word, met by the world's own term for the bytes: nothing is compared byte by byte -/
theorem code_word {y : MethodName} {bytes : ByteArray} {mx : Nat} {rt : Option FieldType} {a : Array Value} {s : State} {m : MethodId} {meth : Method} {c : Code} (h1 : s.methodNamed? y = some m) (h2 : s.vm.method? m = some meth) (h3 : meth.code = some c) (h4 : c.code = bytes)
    (h5 : (c.maxLocals == mx && c.exceptionTable.isEmpty && decide (c.maxStack ≤ mostOperands) && decide (meth.sig.returnType = rt) && !meth.locks && decide (parseMethodDescriptor y.desc = some meth.sig)) = true) : (Jvm.Cond.code y bytes mx rt).before a s = true := by
  simp only [Bool.and_eq_true, beq_iff_eq, Bool.not_eq_true', decide_eq_true_eq] at h5
  obtain ⟨⟨⟨⟨⟨g1, g2⟩, g3⟩, g4⟩, g5⟩, g6⟩ := h5
  simp [Cond.before, Cond.holds, Cond.value, h1, h2, h3, h4, g1, g2, g3, g4, g5, g6]
def isCode : Jvm.Cond → Bool
  | .code _ _ _ _ => true
  | _ => false
theorem all_split {L : List Jvm.Cond} {P : Jvm.Cond → Bool} (h1 : L.all (fun c => isCode c || P c) = true) (h2 : ∀ c ∈ L.filter isCode, P c = true) : L.all P = true := by
  refine List.all_eq_true.mpr fun c hc => ?_
  have h := List.all_eq_true.mp h1 c hc
  rcases Bool.eq_false_or_eq_true (isCode c) with hi | hi
  · exact h2 c (List.mem_filter.mpr ⟨hc, hi⟩)
  · simpa [hi] using h
set_option maxRecDepth 65536 in
theorem w_c0 : (Jvm.Cond.code x code maxLocals ret).before args0 about1 = true := code_word (m := ⟨1, 1⟩) (meth := k1m1) (c := k1c1) (by decide +kernel) rfl rfl rfl (by decide +kernel)
set_option maxRecDepth 65536 in
theorem w_c1 : (Jvm.Cond.code ({ cls := "com/example/tender/tender/payment/TransactionStatus", name := "of", desc := "(Lcom/example/tender/tender/plugin/api/PluginOutcome;)Lcom/example/tender/tender/payment/TransactionStatus;" } : Jvm.MethodName) prog_17_method_4_code (1 : Nat) (Option.some (Jvm.ClassFile.FieldType.object "com/example/tender/tender/payment/TransactionStatus"))).before args0 about1 = true := code_word (m := ⟨10, 0⟩) (meth := k10m0) (c := k10c0) (by decide +kernel) rfl rfl rfl (by decide +kernel)
set_option maxRecDepth 65536 in
theorem w_c2 : (Jvm.Cond.code ({ cls := "java/lang/Enum", name := "ordinal", desc := "()I" } : Jvm.MethodName) jdk_37_method_2_code (1 : Nat) (Option.some Jvm.ClassFile.FieldType.int)).before args0 about1 = true := code_word (m := ⟨5, 0⟩) (meth := k5m0) (c := k5c0) (by decide +kernel) rfl rfl rfl (by decide +kernel)
set_option maxRecDepth 65536 in
theorem w_c3 : (Jvm.Cond.code ({ cls := "com/example/tender/tender/payment/TransactionStatus", name := "stateSuffix", desc := "()Ljava/lang/String;" } : Jvm.MethodName) prog_17_method_6_code (1 : Nat) (Option.some (Jvm.ClassFile.FieldType.object "java/lang/String"))).before args0 about1 = true := code_word (m := ⟨10, 2⟩) (meth := k10m2) (c := k10c2) (by decide +kernel) rfl rfl rfl (by decide +kernel)
set_option maxRecDepth 65536 in
theorem w_c4 : (Jvm.Cond.code ({ cls := "java/lang/String", name := "equals", desc := "(Ljava/lang/Object;)Z" } : Jvm.MethodName) jdk_42_method_66_code (3 : Nat) (Option.some Jvm.ClassFile.FieldType.boolean)).before args0 about1 = true := code_word (m := ⟨9, 1⟩) (meth := k9m1) (c := k9c1) (by decide +kernel) rfl rfl rfl (by decide +kernel)
set_option maxRecDepth 65536 in
theorem w_c5 : (Jvm.Cond.code ({ cls := "java/lang/StringLatin1", name := "equals", desc := "([B[B)Z" } : Jvm.MethodName) jdk_43_method_13_code (3 : Nat) (Option.some Jvm.ClassFile.FieldType.boolean)).before args0 about1 = true := code_word (m := ⟨12, 1⟩) (meth := k12m1) (c := k12c1) (by decide +kernel) rfl rfl rfl (by decide +kernel)
set_option maxRecDepth 65536 in
theorem w_c6 : (Jvm.Cond.code ({ cls := "com/example/tender/tender/payment/TransactionStatus", name := "isInDoubt", desc := "()Z" } : Jvm.MethodName) prog_17_method_5_code (1 : Nat) (Option.some Jvm.ClassFile.FieldType.boolean)).before args0 about1 = true := code_word (m := ⟨10, 1⟩) (meth := k10m1) (c := k10c1) (by decide +kernel) rfl rfl rfl (by decide +kernel)
def codes1 : List Jvm.Cond := [Jvm.Cond.code x code maxLocals ret, Jvm.Cond.code ({ cls := "com/example/tender/tender/payment/TransactionStatus", name := "of", desc := "(Lcom/example/tender/tender/plugin/api/PluginOutcome;)Lcom/example/tender/tender/payment/TransactionStatus;" } : Jvm.MethodName) prog_17_method_4_code (1 : Nat) (Option.some (Jvm.ClassFile.FieldType.object "com/example/tender/tender/payment/TransactionStatus")), Jvm.Cond.code ({ cls := "java/lang/Enum", name := "ordinal", desc := "()I" } : Jvm.MethodName) jdk_37_method_2_code (1 : Nat) (Option.some Jvm.ClassFile.FieldType.int), Jvm.Cond.code ({ cls := "com/example/tender/tender/payment/TransactionStatus", name := "stateSuffix", desc := "()Ljava/lang/String;" } : Jvm.MethodName) prog_17_method_6_code (1 : Nat) (Option.some (Jvm.ClassFile.FieldType.object "java/lang/String")), Jvm.Cond.code ({ cls := "java/lang/String", name := "equals", desc := "(Ljava/lang/Object;)Z" } : Jvm.MethodName) jdk_42_method_66_code (3 : Nat) (Option.some Jvm.ClassFile.FieldType.boolean), Jvm.Cond.code ({ cls := "java/lang/StringLatin1", name := "equals", desc := "([B[B)Z" } : Jvm.MethodName) jdk_43_method_13_code (3 : Nat) (Option.some Jvm.ClassFile.FieldType.boolean), Jvm.Cond.code ({ cls := "com/example/tender/tender/payment/TransactionStatus", name := "isInDoubt", desc := "()Z" } : Jvm.MethodName) prog_17_method_5_code (1 : Nat) (Option.some Jvm.ClassFile.FieldType.boolean)]
set_option maxRecDepth 65536 in
theorem codes_eq : words1.filter isCode = codes1 := rfl
theorem w_codes : ∀ c ∈ words1.filter isCode, c.before args0 about1 = true := by
  rw [codes_eq]
  intro c hc
  simp only [codes1, List.mem_cons, List.not_mem_nil, or_false] at hc
  rcases hc with rfl | rfl | rfl | rfl | rfl | rfl | rfl
  · exact w_c0
  · exact w_c1
  · exact w_c2
  · exact w_c3
  · exact w_c4
  · exact w_c5
  · exact w_c6
set_option maxRecDepth 65536 in
theorem w_t1 : (words1.take 24).all (fun c => isCode c || c.before args0 about1) = true := by decide +kernel
set_option maxRecDepth 65536 in
theorem w_t2 : ((words1.drop 24).take 24).all (fun c => isCode c || c.before args0 about1) = true := by decide +kernel
set_option maxRecDepth 65536 in
theorem w_t3 : (((words1.drop 24).drop 24).take 24).all (fun c => isCode c || c.before args0 about1) = true := by decide +kernel
set_option maxRecDepth 65536 in
theorem w_t4 : (((words1.drop 24).drop 24).drop 24).all (fun c => isCode c || c.before args0 about1) = true := by decide +kernel
theorem w_tables : (allAtoms (Jvm.Cond.code x code maxLocals ret :: tables_1)).before args0 about1 = true := by
  rw [allAtoms_all]
  show words1.all (fun c => c.before args0 about1) = true
  refine all_split ?_ w_codes
  rw [← List.take_append_drop 24 words1, List.all_append, w_t1, ← List.take_append_drop 24 (words1.drop 24), List.all_append, w_t2, ← List.take_append_drop 24 ((words1.drop 24).drop 24), List.all_append, w_t3, w_t4]
  rfl
set_option maxRecDepth 65536 in
theorem w_rest : rest_1_c.before args0 about1 = true := by decide +kernel
set_option maxRecDepth 65536 in
theorem w_case : (Jvm.Cond.and given_1 narrow_1).before args0 about1 = true := by decide +kernel
set_option maxRecDepth 65536 in
theorem w_consts : constsHeld consts_1 about1 := Jvm.Lit.constsHeldB_iff.mp (by decide +kernel)
theorem w_applies : (headSpec (Jvm.Cond.code x code maxLocals ret :: tables_1) room_1).applies x e0.platform about1 = true :=
  (Spec.applies_iff w_frames).mpr ⟨w_running, w_runnable, w_alone, w_named, w_hears, w_ripe, w_room, w_tables⟩
theorem atStart : AtStart classFile x code maxLocals ret World_1 tables_1 room_1 Calls_1 rest_1 Pre_1 launch0 p0 e0 about1 theMethod args0 below0 :=
  ⟨lists_1, trivial, launch0.admits_env _ _ _, launch0.least_env, fairChoices_fair.cas, fairChoices_fair.clock, w_frames, w_args, w_heap, w_applies, ⟨w_consts, trivial⟩, w_rest, w_case⟩
end start1
theorem witness_1 : WitnessClaimed_1 := ⟨start1.p0, start1.e0, start1.about1, start1.theMethod, start1.args0, start1.below0, start1.atStart⟩
end Jvm.Pilot.@@N@@
