import JvmDerived
import JvmDerived.Pilot.@@N@@Statement
import JvmDerived.Pilot.@@N@@Code
set_option linter.unusedVariables false
set_option linter.unusedSimpArgs false
namespace Jvm.RoadKit
open Sem ClassFile Op Lib Jvm.Stand Jvm.Free Jvm.LawKit
section New
variable {p : Program} {l : Launch} {e : Env} {R : Room} {s : State} {m : MethodId} {args : Array Value} {below : List Frame} {meth : Method} {c : Code} {T : State} {locs : List Loc} {cells slots : Nat}
theorem retI (X : Stand p l e R s m args below meth c T locs cells slots) (hx : p.tables.exec = Jvm.exec) {pc : Nat} {Ls : Array Slot} {z : Int32} {rest : List Value} (hret : meth.sig.returnType = some .int) (hd : decode c.code pc = .ok (.ireturn, 1)) {fs : List Frame}
    (hl : ∀ (f : JFrame) (acts : List Action), f.method = m → f.locked = none → f.entered = [] → (doReturn e (T.setTop f) acts (some (.int z))).1 = T.setFrames fs) : Steps p.tables e below (T.setTop (mkF m pc Ls (.int z :: rest))) (T.setFrames fs) := by
  have hm' : T.vm.method? m = some meth := X.method'
  have hn : narrow .int (.int z) = .int z := rfl
  show Steps p.tables e below (T.setTop { method := m, pc := pc, locals := Ls, stack := _ :: rest, locked := none }) _
  jvm_step X.here [X.here.top, hx, hd, hm', hret, hn]
  first | (intro acts; rw [hl _ acts rfl rfl rfl]) | rw [hl _ _ rfl rfl rfl]
  exact Steps.refl _
def Gl (p : Program) (e : Env) (below : List Frame) (s : State) (kc ks : Nat) (Q : Option Value → Heap → List Loc → Prop) (T : State) (g : JFrame) : Prop :=
  ∃ U o, Steps p.tables e below (T.setTop g) U ∧ U.status = .running ∧ Ended U below o ∧ ∃ v L, o = .returned v ∧ Q v U.heap L ∧ FrameEnd s o U L kc ks
theorem Gl.st {kc ks : Nat} {Q : Option Value → Heap → List Loc → Prop} {T' : State} {g g' : JFrame} (h : ∀ t, Steps p.tables e below (T'.setTop g') t → Steps p.tables e below (T.setTop g) t) (k : Gl p e below s kc ks Q T' g') : Gl p e below s kc ks Q T g := by
  obtain ⟨U, o, h1, r⟩ := k
  exact ⟨U, o, h _ h1, r⟩
theorem Gl.wider {cells' slots' : Nat} (X : Stand p l e R s m args below meth c T locs cells slots) (h1 : cells ≤ cells') (h2 : slots ≤ slots') : Stand p l e R s m args below meth c T locs cells' slots' :=
  ⟨X.admits, X.cas, X.clock, X.frames, X.room, X.hears, X.method, X.code, X.here, X.tail, X.warmed, X.limits, X.bytes, X.same.mono h1 h2⟩
theorem Gl.start {kc ks : Nat} {Q : Option Value → Heap → List Loc → Prop} {g g' : JFrame} (q : g = g') (k : Gl p e below s kc ks Q T g') :
    ∃ U o, Steps p.tables e below (T.setTop g) U ∧ U.status = .running ∧ Ended U below o ∧ ∃ v L, o = .returned v ∧ Q v U.heap L ∧ FrameEnd s o U L kc ks := q ▸ k
theorem Gl.ret {kc ks : Nat} {Q : Option Value → Heap → List Loc → Prop} {g : JFrame} {h : Heap} (X : Stand p l e R s m args below meth c T locs cells slots) {v : Option Value} (hv : meth.sig.returnType = none → v = none) (hlk : meth.locks = false)
    (st : ∀ {fs : List Frame}, (∀ (f : JFrame) (acts : List Action), f.method = m → f.locked = none → f.entered = [] → (doReturn e (T.setTop f) acts v).1 = T.setFrames fs) → Steps p.tables e below (T.setTop g) (T.setFrames fs))
    (eT : T.heap = h) (hQ : Q v h locs) (hc : cells ≤ kc) (hs : slots ≤ ks) : Gl p e below s kc ks Q T g := by
  obtain ⟨fs, hr, hrun, hended, hW, hsame⟩ := X.leave hv hlk
  refine ⟨_, _, st hr, hrun, hended, _, _, rfl, ?_, ⟨_, rfl⟩, hW, hsame.mono hc hs⟩
  show Q v T.heap locs
  rw [eT]; exact hQ
end New
end Jvm.RoadKit
namespace Jvm.Pilot.@@N@@
open Jvm Jvm.ClassFile Sem Op Lib Jvm.Free Jvm.Stand Jvm.LawKit Jvm.RoadKit Bundle Jvm.Pilot.@@N@@.Jvm.D
theorem own_eqint {args : Array Value} {first s : State} {o : Option Outcome} {idx : List Nat} {t : Term} {k : Int32} (h : (Jvm.Cond.eq t (.int k)).value args first o s idx = some true) : t.eval args first o idx s = some (.int k) := by
  cases ht : t.eval args first o idx s with
  | none => simp [Cond.value, ht] at h
  | some x => cases x <;> simp [Cond.value, ht, Term.eval] at h ⊢; exact h
theorem own_mod11 (x : Int32) : (x &&& (2147483647 : Int32)) % (11 : Int32) = (0 : Int32) ∨ (x &&& (2147483647 : Int32)) % (11 : Int32) = (1 : Int32) ∨ (x &&& (2147483647 : Int32)) % (11 : Int32) = (2 : Int32) ∨ (x &&& (2147483647 : Int32)) % (11 : Int32) = (3 : Int32) ∨ (x &&& (2147483647 : Int32)) % (11 : Int32) = (4 : Int32) ∨ (x &&& (2147483647 : Int32)) % (11 : Int32) = (5 : Int32) ∨ (x &&& (2147483647 : Int32)) % (11 : Int32) = (6 : Int32) ∨ (x &&& (2147483647 : Int32)) % (11 : Int32) = (7 : Int32) ∨ (x &&& (2147483647 : Int32)) % (11 : Int32) = (8 : Int32) ∨ (x &&& (2147483647 : Int32)) % (11 : Int32) = (9 : Int32) ∨ (x &&& (2147483647 : Int32)) % (11 : Int32) = (10 : Int32) := by
  have h1 := (c_and x (2147483647 : Int32) (by decide)).1
  have h2 := (c_irem (x &&& (2147483647 : Int32)) (11 : Int32) 11 (by decide)).1 h1
  have h3 : ((x &&& (2147483647 : Int32)) % (11 : Int32)).toInt = 0 ∨ ((x &&& (2147483647 : Int32)) % (11 : Int32)).toInt = 1 ∨ ((x &&& (2147483647 : Int32)) % (11 : Int32)).toInt = 2 ∨ ((x &&& (2147483647 : Int32)) % (11 : Int32)).toInt = 3 ∨ ((x &&& (2147483647 : Int32)) % (11 : Int32)).toInt = 4 ∨ ((x &&& (2147483647 : Int32)) % (11 : Int32)).toInt = 5 ∨ ((x &&& (2147483647 : Int32)) % (11 : Int32)).toInt = 6 ∨ ((x &&& (2147483647 : Int32)) % (11 : Int32)).toInt = 7 ∨ ((x &&& (2147483647 : Int32)) % (11 : Int32)).toInt = 8 ∨ ((x &&& (2147483647 : Int32)) % (11 : Int32)).toInt = 9 ∨ ((x &&& (2147483647 : Int32)) % (11 : Int32)).toInt = 10 := by omega
  rcases h3 with h | h | h | h | h | h | h | h | h | h | h
  · exact Or.inl (Int32.toInt_inj.mp (h.trans (by decide)))
  · exact Or.inr (Or.inl (Int32.toInt_inj.mp (h.trans (by decide))))
  · exact Or.inr (Or.inr (Or.inl (Int32.toInt_inj.mp (h.trans (by decide)))))
  · exact Or.inr (Or.inr (Or.inr (Or.inl (Int32.toInt_inj.mp (h.trans (by decide))))))
  · exact Or.inr (Or.inr (Or.inr (Or.inr (Or.inl (Int32.toInt_inj.mp (h.trans (by decide)))))))
  · exact Or.inr (Or.inr (Or.inr (Or.inr (Or.inr (Or.inl (Int32.toInt_inj.mp (h.trans (by decide))))))))
  · exact Or.inr (Or.inr (Or.inr (Or.inr (Or.inr (Or.inr (Or.inl (Int32.toInt_inj.mp (h.trans (by decide)))))))))
  · exact Or.inr (Or.inr (Or.inr (Or.inr (Or.inr (Or.inr (Or.inr (Or.inl (Int32.toInt_inj.mp (h.trans (by decide))))))))))
  · exact Or.inr (Or.inr (Or.inr (Or.inr (Or.inr (Or.inr (Or.inr (Or.inr (Or.inl (Int32.toInt_inj.mp (h.trans (by decide)))))))))))
  · exact Or.inr (Or.inr (Or.inr (Or.inr (Or.inr (Or.inr (Or.inr (Or.inr (Or.inr (Or.inl (Int32.toInt_inj.mp (h.trans (by decide))))))))))))
  · exact Or.inr (Or.inr (Or.inr (Or.inr (Or.inr (Or.inr (Or.inr (Or.inr (Or.inr (Or.inr ((Int32.toInt_inj.mp (h.trans (by decide)))))))))))))
theorem own_mask3 (x : Int32) : x &&& (3 : Int32) = (0 : Int32) ∨ x &&& (3 : Int32) = (1 : Int32) ∨ x &&& (3 : Int32) = (2 : Int32) ∨ x &&& (3 : Int32) = (3 : Int32) := by
  have h2 := c_mask x (3 : Int32) 2 (by decide) (by decide)
  have h3 : (x &&& (3 : Int32)).toInt = 0 ∨ (x &&& (3 : Int32)).toInt = 1 ∨ (x &&& (3 : Int32)).toInt = 2 ∨ (x &&& (3 : Int32)).toInt = 3 := by omega
  rcases h3 with h | h | h | h
  · exact Or.inl (Int32.toInt_inj.mp (h.trans (by decide)))
  · exact Or.inr (Or.inl (Int32.toInt_inj.mp (h.trans (by decide))))
  · exact Or.inr (Or.inr (Or.inl (Int32.toInt_inj.mp (h.trans (by decide)))))
  · exact Or.inr (Or.inr (Or.inr ((Int32.toInt_inj.mp (h.trans (by decide))))))
theorem d1_0 : decode method_3_code 0 = .ok (.iload_n 0, 1) := by decide +kernel
theorem d1_1 : decode method_3_code 1 = .ok (.ifCond .ne 7, 3) := by decide +kernel
theorem d1_4 : decode method_3_code 4 = .ok (.getstatic 27, 3) := by decide +kernel
theorem d1_7 : decode method_3_code 7 = .ok (.areturn, 1) := by decide +kernel
theorem d1_8 : decode method_3_code 8 = .ok (.iload_n 0, 1) := by decide +kernel
theorem d1_9 : decode method_3_code 9 = .ok (.iconst 1, 1) := by decide +kernel
theorem d1_10 : decode method_3_code 10 = .ok (.if_icmp .ne 7, 3) := by decide +kernel
theorem d1_13 : decode method_3_code 13 = .ok (.getstatic 33, 3) := by decide +kernel
theorem d1_16 : decode method_3_code 16 = .ok (.areturn, 1) := by decide +kernel
theorem d1_17 : decode method_3_code 17 = .ok (.iload_n 0, 1) := by decide +kernel
theorem d1_18 : decode method_3_code 18 = .ok (.iconst 2, 1) := by decide +kernel
theorem d1_19 : decode method_3_code 19 = .ok (.if_icmp .ne 7, 3) := by decide +kernel
theorem d1_22 : decode method_3_code 22 = .ok (.getstatic 36, 3) := by decide +kernel
theorem d1_25 : decode method_3_code 25 = .ok (.areturn, 1) := by decide +kernel
theorem d1_26 : decode method_3_code 26 = .ok (.iload_n 0, 1) := by decide +kernel
theorem d1_27 : decode method_3_code 27 = .ok (.iconst 3, 1) := by decide +kernel
theorem d1_28 : decode method_3_code 28 = .ok (.if_icmp .ne 7, 3) := by decide +kernel
theorem d1_31 : decode method_3_code 31 = .ok (.getstatic 39, 3) := by decide +kernel
theorem d1_34 : decode method_3_code 34 = .ok (.areturn, 1) := by decide +kernel
theorem d1_35 : decode method_3_code 35 = .ok (.iload_n 0, 1) := by decide +kernel
theorem d1_36 : decode method_3_code 36 = .ok (.iconst 4, 1) := by decide +kernel
theorem d1_37 : decode method_3_code 37 = .ok (.if_icmp .ne 7, 3) := by decide +kernel
theorem d1_40 : decode method_3_code 40 = .ok (.getstatic 42, 3) := by decide +kernel
theorem d1_43 : decode method_3_code 43 = .ok (.areturn, 1) := by decide +kernel
theorem d1_44 : decode method_3_code 44 = .ok (.iload_n 0, 1) := by decide +kernel
theorem d1_45 : decode method_3_code 45 = .ok (.iconst 5, 1) := by decide +kernel
theorem d1_46 : decode method_3_code 46 = .ok (.if_icmp .ne 7, 3) := by decide +kernel
theorem d1_49 : decode method_3_code 49 = .ok (.getstatic 45, 3) := by decide +kernel
theorem d1_52 : decode method_3_code 52 = .ok (.areturn, 1) := by decide +kernel
theorem d1_53 : decode method_3_code 53 = .ok (.iload_n 0, 1) := by decide +kernel
theorem d1_54 : decode method_3_code 54 = .ok (.bipush 6, 2) := by decide +kernel
theorem d1_56 : decode method_3_code 56 = .ok (.if_icmp .ne 7, 3) := by decide +kernel
theorem d1_59 : decode method_3_code 59 = .ok (.getstatic 48, 3) := by decide +kernel
theorem d1_62 : decode method_3_code 62 = .ok (.areturn, 1) := by decide +kernel
theorem d1_63 : decode method_3_code 63 = .ok (.iload_n 0, 1) := by decide +kernel
theorem d1_64 : decode method_3_code 64 = .ok (.bipush 7, 2) := by decide +kernel
theorem d1_66 : decode method_3_code 66 = .ok (.if_icmp .ne 7, 3) := by decide +kernel
theorem d1_69 : decode method_3_code 69 = .ok (.getstatic 51, 3) := by decide +kernel
theorem d1_72 : decode method_3_code 72 = .ok (.areturn, 1) := by decide +kernel
theorem d1_73 : decode method_3_code 73 = .ok (.iload_n 0, 1) := by decide +kernel
theorem d1_74 : decode method_3_code 74 = .ok (.bipush 8, 2) := by decide +kernel
theorem d1_76 : decode method_3_code 76 = .ok (.if_icmp .ne 7, 3) := by decide +kernel
theorem d1_79 : decode method_3_code 79 = .ok (.getstatic 54, 3) := by decide +kernel
theorem d1_82 : decode method_3_code 82 = .ok (.areturn, 1) := by decide +kernel
theorem d1_83 : decode method_3_code 83 = .ok (.iload_n 0, 1) := by decide +kernel
theorem d1_84 : decode method_3_code 84 = .ok (.bipush 9, 2) := by decide +kernel
theorem d1_86 : decode method_3_code 86 = .ok (.if_icmp .ne 7, 3) := by decide +kernel
theorem d1_89 : decode method_3_code 89 = .ok (.getstatic 57, 3) := by decide +kernel
theorem d1_92 : decode method_3_code 92 = .ok (.areturn, 1) := by decide +kernel
theorem d1_93 : decode method_3_code 93 = .ok (.aconst_null, 1) := by decide +kernel
theorem d1_94 : decode method_3_code 94 = .ok (.areturn, 1) := by decide +kernel
theorem pn_rm1 : plainName "io/github/countersign/VerdictIsValidPinLaw" = true := by first | (simp [plainName, overriddenIn]; done) | decide +kernel
theorem ef_rm1 (m : MethodId) (q1 : Int32) : entryFrame m #[(.int q1)] 1 = mkF m 0 #[.val (.int q1)] [] := by first | (simp [entryFrame, mkF, argsToLocals, Value.category]; done) | rfl
def Q_rm1 (Z : State) (q1 : Int32) (wr_MISSING_HEADER wr_DUPLICATE_HEADER wr_UNSUPPORTED_VERSION wr_BAD_DATE wr_STALE wr_UNKNOWN_API_KEY wr_MALFORMED_METHOD wr_MALFORMED_TARGET wr_SIGNATURE_MISMATCH wr_REPLAYED : Addr) (u : Value) (h0 : Heap) (n0 : Nat) (v : Option Value) (h : Heap) (L : List Loc) : Prop := v = some u ∧ Fr n0 L ∧ h = h0
set_option maxRecDepth 65536 in
set_option maxHeartbeats 40000000 in
theorem rm1 (l : Launch) (Z : State) (a0 : Array Value) (hw : ∀ d ∈ tables_1, d.before a0 Z = true) (ws : List Jvm.Cond) (q1 : Int32) (wr_MISSING_HEADER wr_DUPLICATE_HEADER wr_UNSUPPORTED_VERSION wr_BAD_DATE wr_STALE wr_UNKNOWN_API_KEY wr_MALFORMED_METHOD wr_MALFORMED_TARGET wr_SIGNATURE_MISMATCH wr_REPLAYED : Addr) (u : Value) (h0 : Heap) (n0 : Nat) (O0 : Old Z n0 h0) (Sr_MISSING_HEADER : Sta Z Z.heap "io/github/countersign/Refusal" "MISSING_HEADER" "Lio/github/countersign/Refusal;" (.ref wr_MISSING_HEADER)) (Sr_DUPLICATE_HEADER : Sta Z Z.heap "io/github/countersign/Refusal" "DUPLICATE_HEADER" "Lio/github/countersign/Refusal;" (.ref wr_DUPLICATE_HEADER)) (Sr_UNSUPPORTED_VERSION : Sta Z Z.heap "io/github/countersign/Refusal" "UNSUPPORTED_VERSION" "Lio/github/countersign/Refusal;" (.ref wr_UNSUPPORTED_VERSION)) (Sr_BAD_DATE : Sta Z Z.heap "io/github/countersign/Refusal" "BAD_DATE" "Lio/github/countersign/Refusal;" (.ref wr_BAD_DATE)) (Sr_STALE : Sta Z Z.heap "io/github/countersign/Refusal" "STALE" "Lio/github/countersign/Refusal;" (.ref wr_STALE)) (Sr_UNKNOWN_API_KEY : Sta Z Z.heap "io/github/countersign/Refusal" "UNKNOWN_API_KEY" "Lio/github/countersign/Refusal;" (.ref wr_UNKNOWN_API_KEY)) (Sr_MALFORMED_METHOD : Sta Z Z.heap "io/github/countersign/Refusal" "MALFORMED_METHOD" "Lio/github/countersign/Refusal;" (.ref wr_MALFORMED_METHOD)) (Sr_MALFORMED_TARGET : Sta Z Z.heap "io/github/countersign/Refusal" "MALFORMED_TARGET" "Lio/github/countersign/Refusal;" (.ref wr_MALFORMED_TARGET)) (Sr_SIGNATURE_MISMATCH : Sta Z Z.heap "io/github/countersign/Refusal" "SIGNATURE_MISMATCH" "Lio/github/countersign/Refusal;" (.ref wr_SIGNATURE_MISMATCH)) (Sr_REPLAYED : Sta Z Z.heap "io/github/countersign/Refusal" "REPLAYED" "Lio/github/countersign/Refusal;" (.ref wr_REPLAYED)) (hp : (q1 = 0 ∧ u = .ref wr_MISSING_HEADER) ∨ (q1 = 1 ∧ u = .ref wr_DUPLICATE_HEADER) ∨ (q1 = 2 ∧ u = .ref wr_UNSUPPORTED_VERSION) ∨ (q1 = 3 ∧ u = .ref wr_BAD_DATE) ∨ (q1 = 4 ∧ u = .ref wr_STALE) ∨ (q1 = 5 ∧ u = .ref wr_UNKNOWN_API_KEY) ∨ (q1 = 6 ∧ u = .ref wr_MALFORMED_METHOD) ∨ (q1 = 7 ∧ u = .ref wr_MALFORMED_TARGET) ∨ (q1 = 8 ∧ u = .ref wr_SIGNATURE_MISMATCH) ∨ (q1 = 9 ∧ u = .ref wr_REPLAYED) ∨ (q1 = 10 ∧ u = .null)) :
    MetFree l (⟨"io/github/countersign/VerdictIsValidPinLaw", "refusalAt", "(I)Lio/github/countersign/Refusal;"⟩ : MethodName) (head1 (Jvm.Cond.code (⟨"io/github/countersign/VerdictIsValidPinLaw", "refusalAt", "(I)Lio/github/countersign/Refusal;"⟩ : MethodName) method_3_code 1 (some (.object "io/github/countersign/Refusal")) :: ws) ({ frames := 0, cells := 0, slots := 0, locals := 0 } : Room)) (fun a U => a = #[(.int q1)] ∧ Z.Warmed39 U.vm ∧ U.heap = h0) (fun _ _ _ _ _ => True) (fun _ U o U' => ∃ v L, o = .returned v ∧ Q_rm1 Z q1 wr_MISSING_HEADER wr_DUPLICATE_HEADER wr_UNSUPPORTED_VERSION wr_BAD_DATE wr_STALE wr_UNKNOWN_API_KEY wr_MALFORMED_METHOD wr_MALFORMED_TARGET wr_SIGNATURE_MISMATCH wr_REPLAYED u h0 n0 v U'.heap L ∧ FrameEnd U o U' L ({ frames := 0, cells := 0, slots := 0, locals := 0 } : Room).cells ({ frames := 0, cells := 0, slots := 0, locals := 0 } : Room).slots) := by
  refine MetFree.of_bodySF (plainFor_of_name pn_rm1) hisR ?_
  intro p e s m args below meth c s₁ Bd hml0 hP hK
  obtain ⟨rfl, hZ, hh⟩ := hP
  have hx := Bd.exec
  have hby := Bd.bytes
  have hml : c.maxLocals = 1 := hml0
  have hown : s.vm.findClass "io/github/countersign/VerdictIsValidPinLaw" = some m.cls := findClass_of_methodNamed Bd.named
  have hnm := (name_of_methodNamed Bd.named Bd.method).1
  have X0 : Stand p l e ({ frames := 0, cells := 0, slots := 0, locals := 0 } : Room) s m #[(.int q1)] below meth c s₁ [] 0 0 := Stand.of_body Bd
  have e0 : s₁.heap = h0 := by rw [← hh, Bd.state]; rfl
  have N0 := Fr.nil n0
  refine Gl.start (Q := Q_rm1 Z q1 wr_MISSING_HEADER wr_DUPLICATE_HEADER wr_UNSUPPORTED_VERSION wr_BAD_DATE wr_STALE wr_UNKNOWN_API_KEY wr_MALFORMED_METHOD wr_MALFORMED_TARGET wr_SIGNATURE_MISMATCH wr_REPLAYED u h0 n0) (ef_rm1 m q1) ?_
  show Gl p e below s _ _ _ s₁ (mkF m 0 #[.val (.int q1)] [])
  rcases hp with ⟨rfl, hr⟩ | ⟨rfl, hr⟩ | ⟨rfl, hr⟩ | ⟨rfl, hr⟩ | ⟨rfl, hr⟩ | ⟨rfl, hr⟩ | ⟨rfl, hr⟩ | ⟨rfl, hr⟩ | ⟨rfl, hr⟩ | ⟨rfl, hr⟩ | ⟨rfl, hr⟩
  · skip
    show Gl p e below s _ _ _ s₁ (mkF m 0 #[.val (.int (0 : Int32))] [])
    refine Gl.st (fun _ kk => XS.iloadN X0.here hx rfl (hb hby d1_0) rfl kk) ?_
    show Gl p e below s _ _ _ s₁ (mkF m 1 #[.val (.int (0 : Int32))] [(.int (0 : Int32))])
    refine Gl.st (fun _ kk => XS.ifNo X0.here hx rfl (hb hby d1_1) rfl ((if0 _ _).trans (teq (by decide : (0 : Int32) = (0 : Int32))).2) kk) ?_
    show Gl p e below s _ _ _ s₁ (mkF m 4 #[.val (.int (0 : Int32))] [])
    obtain ⟨T1, X1, e1, st1⟩ := getS2 X0 hx hZ hown (host := "") (Or.inl (hw _ (List.mem_of_getElem? (i := 5) rfl))) Via.refl e0 (Sr_MISSING_HEADER.ext O0.2) (g := (mkF m 4 #[.val (.int (0 : Int32))] [])) rfl (hb hby d1_4)
    refine Gl.st st1 ?_
    show Gl p e below s _ _ _ T1 (mkF m 7 #[.val (.int (0 : Int32))] [(.ref wr_MISSING_HEADER)])
    exact Gl.ret X1 (v := (some (.ref wr_MISSING_HEADER))) (fun h => by rw [Bd.returns] at h; cases h) (BodyLoose.notSynchronized Bd) (fun hr => retOut X1 hx Bd.returns rfl (Or.inr (Or.inr (Or.inr (Or.inr ⟨rfl, rfl, rfl⟩)))) (hb hby d1_7) hr) e1 ⟨by rw [hr], N0, rfl⟩ (by decide) (by decide)
  · skip
    show Gl p e below s _ _ _ s₁ (mkF m 0 #[.val (.int (1 : Int32))] [])
    refine Gl.st (fun _ kk => XS.iloadN X0.here hx rfl (hb hby d1_0) rfl kk) ?_
    show Gl p e below s _ _ _ s₁ (mkF m 1 #[.val (.int (1 : Int32))] [(.int (1 : Int32))])
    refine Gl.st (fun _ kk => XS.ifYes X0.here hx rfl (pc0 := 1) (pc' := 8) rfl (hb hby d1_1) rfl ((if0 _ _).trans (feq (by decide : ¬ ((1 : Int32) = (0 : Int32)))).2) (by decide) (by decide) kk) ?_
    show Gl p e below s _ _ _ s₁ (mkF m 8 #[.val (.int (1 : Int32))] [])
    refine Gl.st (fun _ kk => XS.iloadN X0.here hx rfl (hb hby d1_8) rfl kk) ?_
    show Gl p e below s _ _ _ s₁ (mkF m 9 #[.val (.int (1 : Int32))] [(.int (1 : Int32))])
    refine Gl.st (fun _ kk => XS.iconst X0.here hx rfl (hb hby d1_9) kk) ?_
    show Gl p e below s _ _ _ s₁ (mkF m 10 #[.val (.int (1 : Int32))] [(.int (1 : Int32)), (.int (1 : Int32))])
    refine Gl.st (fun _ kk => XS.icmpNo X0.here hx rfl (hb hby d1_10) rfl (teq (by decide : (1 : Int32) = (1 : Int32))).2 kk) ?_
    show Gl p e below s _ _ _ s₁ (mkF m 13 #[.val (.int (1 : Int32))] [])
    obtain ⟨T2, X2, e2, st2⟩ := getS2 X0 hx hZ hown (host := "") (Or.inl (hw _ (List.mem_of_getElem? (i := 56) rfl))) Via.refl e0 (Sr_DUPLICATE_HEADER.ext O0.2) (g := (mkF m 13 #[.val (.int (1 : Int32))] [])) rfl (hb hby d1_13)
    refine Gl.st st2 ?_
    show Gl p e below s _ _ _ T2 (mkF m 16 #[.val (.int (1 : Int32))] [(.ref wr_DUPLICATE_HEADER)])
    exact Gl.ret X2 (v := (some (.ref wr_DUPLICATE_HEADER))) (fun h => by rw [Bd.returns] at h; cases h) (BodyLoose.notSynchronized Bd) (fun hr => retOut X2 hx Bd.returns rfl (Or.inr (Or.inr (Or.inr (Or.inr ⟨rfl, rfl, rfl⟩)))) (hb hby d1_16) hr) e2 ⟨by rw [hr], N0, rfl⟩ (by decide) (by decide)
  · skip
    show Gl p e below s _ _ _ s₁ (mkF m 0 #[.val (.int (2 : Int32))] [])
    refine Gl.st (fun _ kk => XS.iloadN X0.here hx rfl (hb hby d1_0) rfl kk) ?_
    show Gl p e below s _ _ _ s₁ (mkF m 1 #[.val (.int (2 : Int32))] [(.int (2 : Int32))])
    refine Gl.st (fun _ kk => XS.ifYes X0.here hx rfl (pc0 := 1) (pc' := 8) rfl (hb hby d1_1) rfl ((if0 _ _).trans (feq (by decide : ¬ ((2 : Int32) = (0 : Int32)))).2) (by decide) (by decide) kk) ?_
    show Gl p e below s _ _ _ s₁ (mkF m 8 #[.val (.int (2 : Int32))] [])
    refine Gl.st (fun _ kk => XS.iloadN X0.here hx rfl (hb hby d1_8) rfl kk) ?_
    show Gl p e below s _ _ _ s₁ (mkF m 9 #[.val (.int (2 : Int32))] [(.int (2 : Int32))])
    refine Gl.st (fun _ kk => XS.iconst X0.here hx rfl (hb hby d1_9) kk) ?_
    show Gl p e below s _ _ _ s₁ (mkF m 10 #[.val (.int (2 : Int32))] [(.int (1 : Int32)), (.int (2 : Int32))])
    refine Gl.st (fun _ kk => XS.icmpYes X0.here hx rfl (pc0 := 10) (pc' := 17) rfl (hb hby d1_10) rfl (feq (by decide : ¬ ((2 : Int32) = (1 : Int32)))).2 (by decide) (by decide) kk) ?_
    show Gl p e below s _ _ _ s₁ (mkF m 17 #[.val (.int (2 : Int32))] [])
    refine Gl.st (fun _ kk => XS.iloadN X0.here hx rfl (hb hby d1_17) rfl kk) ?_
    show Gl p e below s _ _ _ s₁ (mkF m 18 #[.val (.int (2 : Int32))] [(.int (2 : Int32))])
    refine Gl.st (fun _ kk => XS.iconst X0.here hx rfl (hb hby d1_18) kk) ?_
    show Gl p e below s _ _ _ s₁ (mkF m 19 #[.val (.int (2 : Int32))] [(.int (2 : Int32)), (.int (2 : Int32))])
    refine Gl.st (fun _ kk => XS.icmpNo X0.here hx rfl (hb hby d1_19) rfl (teq (by decide : (2 : Int32) = (2 : Int32))).2 kk) ?_
    show Gl p e below s _ _ _ s₁ (mkF m 22 #[.val (.int (2 : Int32))] [])
    obtain ⟨T3, X3, e3, st3⟩ := getS2 X0 hx hZ hown (host := "") (Or.inl (hw _ (List.mem_of_getElem? (i := 60) rfl))) Via.refl e0 (Sr_UNSUPPORTED_VERSION.ext O0.2) (g := (mkF m 22 #[.val (.int (2 : Int32))] [])) rfl (hb hby d1_22)
    refine Gl.st st3 ?_
    show Gl p e below s _ _ _ T3 (mkF m 25 #[.val (.int (2 : Int32))] [(.ref wr_UNSUPPORTED_VERSION)])
    exact Gl.ret X3 (v := (some (.ref wr_UNSUPPORTED_VERSION))) (fun h => by rw [Bd.returns] at h; cases h) (BodyLoose.notSynchronized Bd) (fun hr => retOut X3 hx Bd.returns rfl (Or.inr (Or.inr (Or.inr (Or.inr ⟨rfl, rfl, rfl⟩)))) (hb hby d1_25) hr) e3 ⟨by rw [hr], N0, rfl⟩ (by decide) (by decide)
  · skip
    show Gl p e below s _ _ _ s₁ (mkF m 0 #[.val (.int (3 : Int32))] [])
    refine Gl.st (fun _ kk => XS.iloadN X0.here hx rfl (hb hby d1_0) rfl kk) ?_
    show Gl p e below s _ _ _ s₁ (mkF m 1 #[.val (.int (3 : Int32))] [(.int (3 : Int32))])
    refine Gl.st (fun _ kk => XS.ifYes X0.here hx rfl (pc0 := 1) (pc' := 8) rfl (hb hby d1_1) rfl ((if0 _ _).trans (feq (by decide : ¬ ((3 : Int32) = (0 : Int32)))).2) (by decide) (by decide) kk) ?_
    show Gl p e below s _ _ _ s₁ (mkF m 8 #[.val (.int (3 : Int32))] [])
    refine Gl.st (fun _ kk => XS.iloadN X0.here hx rfl (hb hby d1_8) rfl kk) ?_
    show Gl p e below s _ _ _ s₁ (mkF m 9 #[.val (.int (3 : Int32))] [(.int (3 : Int32))])
    refine Gl.st (fun _ kk => XS.iconst X0.here hx rfl (hb hby d1_9) kk) ?_
    show Gl p e below s _ _ _ s₁ (mkF m 10 #[.val (.int (3 : Int32))] [(.int (1 : Int32)), (.int (3 : Int32))])
    refine Gl.st (fun _ kk => XS.icmpYes X0.here hx rfl (pc0 := 10) (pc' := 17) rfl (hb hby d1_10) rfl (feq (by decide : ¬ ((3 : Int32) = (1 : Int32)))).2 (by decide) (by decide) kk) ?_
    show Gl p e below s _ _ _ s₁ (mkF m 17 #[.val (.int (3 : Int32))] [])
    refine Gl.st (fun _ kk => XS.iloadN X0.here hx rfl (hb hby d1_17) rfl kk) ?_
    show Gl p e below s _ _ _ s₁ (mkF m 18 #[.val (.int (3 : Int32))] [(.int (3 : Int32))])
    refine Gl.st (fun _ kk => XS.iconst X0.here hx rfl (hb hby d1_18) kk) ?_
    show Gl p e below s _ _ _ s₁ (mkF m 19 #[.val (.int (3 : Int32))] [(.int (2 : Int32)), (.int (3 : Int32))])
    refine Gl.st (fun _ kk => XS.icmpYes X0.here hx rfl (pc0 := 19) (pc' := 26) rfl (hb hby d1_19) rfl (feq (by decide : ¬ ((3 : Int32) = (2 : Int32)))).2 (by decide) (by decide) kk) ?_
    show Gl p e below s _ _ _ s₁ (mkF m 26 #[.val (.int (3 : Int32))] [])
    refine Gl.st (fun _ kk => XS.iloadN X0.here hx rfl (hb hby d1_26) rfl kk) ?_
    show Gl p e below s _ _ _ s₁ (mkF m 27 #[.val (.int (3 : Int32))] [(.int (3 : Int32))])
    refine Gl.st (fun _ kk => XS.iconst X0.here hx rfl (hb hby d1_27) kk) ?_
    show Gl p e below s _ _ _ s₁ (mkF m 28 #[.val (.int (3 : Int32))] [(.int (3 : Int32)), (.int (3 : Int32))])
    refine Gl.st (fun _ kk => XS.icmpNo X0.here hx rfl (hb hby d1_28) rfl (teq (by decide : (3 : Int32) = (3 : Int32))).2 kk) ?_
    show Gl p e below s _ _ _ s₁ (mkF m 31 #[.val (.int (3 : Int32))] [])
    obtain ⟨T4, X4, e4, st4⟩ := getS2 X0 hx hZ hown (host := "") (Or.inl (hw _ (List.mem_of_getElem? (i := 44) rfl))) Via.refl e0 (Sr_BAD_DATE.ext O0.2) (g := (mkF m 31 #[.val (.int (3 : Int32))] [])) rfl (hb hby d1_31)
    refine Gl.st st4 ?_
    show Gl p e below s _ _ _ T4 (mkF m 34 #[.val (.int (3 : Int32))] [(.ref wr_BAD_DATE)])
    exact Gl.ret X4 (v := (some (.ref wr_BAD_DATE))) (fun h => by rw [Bd.returns] at h; cases h) (BodyLoose.notSynchronized Bd) (fun hr => retOut X4 hx Bd.returns rfl (Or.inr (Or.inr (Or.inr (Or.inr ⟨rfl, rfl, rfl⟩)))) (hb hby d1_34) hr) e4 ⟨by rw [hr], N0, rfl⟩ (by decide) (by decide)
  · skip
    show Gl p e below s _ _ _ s₁ (mkF m 0 #[.val (.int (4 : Int32))] [])
    refine Gl.st (fun _ kk => XS.iloadN X0.here hx rfl (hb hby d1_0) rfl kk) ?_
    show Gl p e below s _ _ _ s₁ (mkF m 1 #[.val (.int (4 : Int32))] [(.int (4 : Int32))])
    refine Gl.st (fun _ kk => XS.ifYes X0.here hx rfl (pc0 := 1) (pc' := 8) rfl (hb hby d1_1) rfl ((if0 _ _).trans (feq (by decide : ¬ ((4 : Int32) = (0 : Int32)))).2) (by decide) (by decide) kk) ?_
    show Gl p e below s _ _ _ s₁ (mkF m 8 #[.val (.int (4 : Int32))] [])
    refine Gl.st (fun _ kk => XS.iloadN X0.here hx rfl (hb hby d1_8) rfl kk) ?_
    show Gl p e below s _ _ _ s₁ (mkF m 9 #[.val (.int (4 : Int32))] [(.int (4 : Int32))])
    refine Gl.st (fun _ kk => XS.iconst X0.here hx rfl (hb hby d1_9) kk) ?_
    show Gl p e below s _ _ _ s₁ (mkF m 10 #[.val (.int (4 : Int32))] [(.int (1 : Int32)), (.int (4 : Int32))])
    refine Gl.st (fun _ kk => XS.icmpYes X0.here hx rfl (pc0 := 10) (pc' := 17) rfl (hb hby d1_10) rfl (feq (by decide : ¬ ((4 : Int32) = (1 : Int32)))).2 (by decide) (by decide) kk) ?_
    show Gl p e below s _ _ _ s₁ (mkF m 17 #[.val (.int (4 : Int32))] [])
    refine Gl.st (fun _ kk => XS.iloadN X0.here hx rfl (hb hby d1_17) rfl kk) ?_
    show Gl p e below s _ _ _ s₁ (mkF m 18 #[.val (.int (4 : Int32))] [(.int (4 : Int32))])
    refine Gl.st (fun _ kk => XS.iconst X0.here hx rfl (hb hby d1_18) kk) ?_
    show Gl p e below s _ _ _ s₁ (mkF m 19 #[.val (.int (4 : Int32))] [(.int (2 : Int32)), (.int (4 : Int32))])
    refine Gl.st (fun _ kk => XS.icmpYes X0.here hx rfl (pc0 := 19) (pc' := 26) rfl (hb hby d1_19) rfl (feq (by decide : ¬ ((4 : Int32) = (2 : Int32)))).2 (by decide) (by decide) kk) ?_
    show Gl p e below s _ _ _ s₁ (mkF m 26 #[.val (.int (4 : Int32))] [])
    refine Gl.st (fun _ kk => XS.iloadN X0.here hx rfl (hb hby d1_26) rfl kk) ?_
    show Gl p e below s _ _ _ s₁ (mkF m 27 #[.val (.int (4 : Int32))] [(.int (4 : Int32))])
    refine Gl.st (fun _ kk => XS.iconst X0.here hx rfl (hb hby d1_27) kk) ?_
    show Gl p e below s _ _ _ s₁ (mkF m 28 #[.val (.int (4 : Int32))] [(.int (3 : Int32)), (.int (4 : Int32))])
    refine Gl.st (fun _ kk => XS.icmpYes X0.here hx rfl (pc0 := 28) (pc' := 35) rfl (hb hby d1_28) rfl (feq (by decide : ¬ ((4 : Int32) = (3 : Int32)))).2 (by decide) (by decide) kk) ?_
    show Gl p e below s _ _ _ s₁ (mkF m 35 #[.val (.int (4 : Int32))] [])
    refine Gl.st (fun _ kk => XS.iloadN X0.here hx rfl (hb hby d1_35) rfl kk) ?_
    show Gl p e below s _ _ _ s₁ (mkF m 36 #[.val (.int (4 : Int32))] [(.int (4 : Int32))])
    refine Gl.st (fun _ kk => XS.iconst X0.here hx rfl (hb hby d1_36) kk) ?_
    show Gl p e below s _ _ _ s₁ (mkF m 37 #[.val (.int (4 : Int32))] [(.int (4 : Int32)), (.int (4 : Int32))])
    refine Gl.st (fun _ kk => XS.icmpNo X0.here hx rfl (hb hby d1_37) rfl (teq (by decide : (4 : Int32) = (4 : Int32))).2 kk) ?_
    show Gl p e below s _ _ _ s₁ (mkF m 40 #[.val (.int (4 : Int32))] [])
    obtain ⟨T5, X5, e5, st5⟩ := getS2 X0 hx hZ hown (host := "") (Or.inl (hw _ (List.mem_of_getElem? (i := 66) rfl))) Via.refl e0 (Sr_STALE.ext O0.2) (g := (mkF m 40 #[.val (.int (4 : Int32))] [])) rfl (hb hby d1_40)
    refine Gl.st st5 ?_
    show Gl p e below s _ _ _ T5 (mkF m 43 #[.val (.int (4 : Int32))] [(.ref wr_STALE)])
    exact Gl.ret X5 (v := (some (.ref wr_STALE))) (fun h => by rw [Bd.returns] at h; cases h) (BodyLoose.notSynchronized Bd) (fun hr => retOut X5 hx Bd.returns rfl (Or.inr (Or.inr (Or.inr (Or.inr ⟨rfl, rfl, rfl⟩)))) (hb hby d1_43) hr) e5 ⟨by rw [hr], N0, rfl⟩ (by decide) (by decide)
  · skip
    show Gl p e below s _ _ _ s₁ (mkF m 0 #[.val (.int (5 : Int32))] [])
    refine Gl.st (fun _ kk => XS.iloadN X0.here hx rfl (hb hby d1_0) rfl kk) ?_
    show Gl p e below s _ _ _ s₁ (mkF m 1 #[.val (.int (5 : Int32))] [(.int (5 : Int32))])
    refine Gl.st (fun _ kk => XS.ifYes X0.here hx rfl (pc0 := 1) (pc' := 8) rfl (hb hby d1_1) rfl ((if0 _ _).trans (feq (by decide : ¬ ((5 : Int32) = (0 : Int32)))).2) (by decide) (by decide) kk) ?_
    show Gl p e below s _ _ _ s₁ (mkF m 8 #[.val (.int (5 : Int32))] [])
    refine Gl.st (fun _ kk => XS.iloadN X0.here hx rfl (hb hby d1_8) rfl kk) ?_
    show Gl p e below s _ _ _ s₁ (mkF m 9 #[.val (.int (5 : Int32))] [(.int (5 : Int32))])
    refine Gl.st (fun _ kk => XS.iconst X0.here hx rfl (hb hby d1_9) kk) ?_
    show Gl p e below s _ _ _ s₁ (mkF m 10 #[.val (.int (5 : Int32))] [(.int (1 : Int32)), (.int (5 : Int32))])
    refine Gl.st (fun _ kk => XS.icmpYes X0.here hx rfl (pc0 := 10) (pc' := 17) rfl (hb hby d1_10) rfl (feq (by decide : ¬ ((5 : Int32) = (1 : Int32)))).2 (by decide) (by decide) kk) ?_
    show Gl p e below s _ _ _ s₁ (mkF m 17 #[.val (.int (5 : Int32))] [])
    refine Gl.st (fun _ kk => XS.iloadN X0.here hx rfl (hb hby d1_17) rfl kk) ?_
    show Gl p e below s _ _ _ s₁ (mkF m 18 #[.val (.int (5 : Int32))] [(.int (5 : Int32))])
    refine Gl.st (fun _ kk => XS.iconst X0.here hx rfl (hb hby d1_18) kk) ?_
    show Gl p e below s _ _ _ s₁ (mkF m 19 #[.val (.int (5 : Int32))] [(.int (2 : Int32)), (.int (5 : Int32))])
    refine Gl.st (fun _ kk => XS.icmpYes X0.here hx rfl (pc0 := 19) (pc' := 26) rfl (hb hby d1_19) rfl (feq (by decide : ¬ ((5 : Int32) = (2 : Int32)))).2 (by decide) (by decide) kk) ?_
    show Gl p e below s _ _ _ s₁ (mkF m 26 #[.val (.int (5 : Int32))] [])
    refine Gl.st (fun _ kk => XS.iloadN X0.here hx rfl (hb hby d1_26) rfl kk) ?_
    show Gl p e below s _ _ _ s₁ (mkF m 27 #[.val (.int (5 : Int32))] [(.int (5 : Int32))])
    refine Gl.st (fun _ kk => XS.iconst X0.here hx rfl (hb hby d1_27) kk) ?_
    show Gl p e below s _ _ _ s₁ (mkF m 28 #[.val (.int (5 : Int32))] [(.int (3 : Int32)), (.int (5 : Int32))])
    refine Gl.st (fun _ kk => XS.icmpYes X0.here hx rfl (pc0 := 28) (pc' := 35) rfl (hb hby d1_28) rfl (feq (by decide : ¬ ((5 : Int32) = (3 : Int32)))).2 (by decide) (by decide) kk) ?_
    show Gl p e below s _ _ _ s₁ (mkF m 35 #[.val (.int (5 : Int32))] [])
    refine Gl.st (fun _ kk => XS.iloadN X0.here hx rfl (hb hby d1_35) rfl kk) ?_
    show Gl p e below s _ _ _ s₁ (mkF m 36 #[.val (.int (5 : Int32))] [(.int (5 : Int32))])
    refine Gl.st (fun _ kk => XS.iconst X0.here hx rfl (hb hby d1_36) kk) ?_
    show Gl p e below s _ _ _ s₁ (mkF m 37 #[.val (.int (5 : Int32))] [(.int (4 : Int32)), (.int (5 : Int32))])
    refine Gl.st (fun _ kk => XS.icmpYes X0.here hx rfl (pc0 := 37) (pc' := 44) rfl (hb hby d1_37) rfl (feq (by decide : ¬ ((5 : Int32) = (4 : Int32)))).2 (by decide) (by decide) kk) ?_
    show Gl p e below s _ _ _ s₁ (mkF m 44 #[.val (.int (5 : Int32))] [])
    refine Gl.st (fun _ kk => XS.iloadN X0.here hx rfl (hb hby d1_44) rfl kk) ?_
    show Gl p e below s _ _ _ s₁ (mkF m 45 #[.val (.int (5 : Int32))] [(.int (5 : Int32))])
    refine Gl.st (fun _ kk => XS.iconst X0.here hx rfl (hb hby d1_45) kk) ?_
    show Gl p e below s _ _ _ s₁ (mkF m 46 #[.val (.int (5 : Int32))] [(.int (5 : Int32)), (.int (5 : Int32))])
    refine Gl.st (fun _ kk => XS.icmpNo X0.here hx rfl (hb hby d1_46) rfl (teq (by decide : (5 : Int32) = (5 : Int32))).2 kk) ?_
    show Gl p e below s _ _ _ s₁ (mkF m 49 #[.val (.int (5 : Int32))] [])
    obtain ⟨T6, X6, e6, st6⟩ := getS2 X0 hx hZ hown (host := "") (Or.inl (hw _ (List.mem_of_getElem? (i := 50) rfl))) Via.refl e0 (Sr_UNKNOWN_API_KEY.ext O0.2) (g := (mkF m 49 #[.val (.int (5 : Int32))] [])) rfl (hb hby d1_49)
    refine Gl.st st6 ?_
    show Gl p e below s _ _ _ T6 (mkF m 52 #[.val (.int (5 : Int32))] [(.ref wr_UNKNOWN_API_KEY)])
    exact Gl.ret X6 (v := (some (.ref wr_UNKNOWN_API_KEY))) (fun h => by rw [Bd.returns] at h; cases h) (BodyLoose.notSynchronized Bd) (fun hr => retOut X6 hx Bd.returns rfl (Or.inr (Or.inr (Or.inr (Or.inr ⟨rfl, rfl, rfl⟩)))) (hb hby d1_52) hr) e6 ⟨by rw [hr], N0, rfl⟩ (by decide) (by decide)
  · skip
    show Gl p e below s _ _ _ s₁ (mkF m 0 #[.val (.int (6 : Int32))] [])
    refine Gl.st (fun _ kk => XS.iloadN X0.here hx rfl (hb hby d1_0) rfl kk) ?_
    show Gl p e below s _ _ _ s₁ (mkF m 1 #[.val (.int (6 : Int32))] [(.int (6 : Int32))])
    refine Gl.st (fun _ kk => XS.ifYes X0.here hx rfl (pc0 := 1) (pc' := 8) rfl (hb hby d1_1) rfl ((if0 _ _).trans (feq (by decide : ¬ ((6 : Int32) = (0 : Int32)))).2) (by decide) (by decide) kk) ?_
    show Gl p e below s _ _ _ s₁ (mkF m 8 #[.val (.int (6 : Int32))] [])
    refine Gl.st (fun _ kk => XS.iloadN X0.here hx rfl (hb hby d1_8) rfl kk) ?_
    show Gl p e below s _ _ _ s₁ (mkF m 9 #[.val (.int (6 : Int32))] [(.int (6 : Int32))])
    refine Gl.st (fun _ kk => XS.iconst X0.here hx rfl (hb hby d1_9) kk) ?_
    show Gl p e below s _ _ _ s₁ (mkF m 10 #[.val (.int (6 : Int32))] [(.int (1 : Int32)), (.int (6 : Int32))])
    refine Gl.st (fun _ kk => XS.icmpYes X0.here hx rfl (pc0 := 10) (pc' := 17) rfl (hb hby d1_10) rfl (feq (by decide : ¬ ((6 : Int32) = (1 : Int32)))).2 (by decide) (by decide) kk) ?_
    show Gl p e below s _ _ _ s₁ (mkF m 17 #[.val (.int (6 : Int32))] [])
    refine Gl.st (fun _ kk => XS.iloadN X0.here hx rfl (hb hby d1_17) rfl kk) ?_
    show Gl p e below s _ _ _ s₁ (mkF m 18 #[.val (.int (6 : Int32))] [(.int (6 : Int32))])
    refine Gl.st (fun _ kk => XS.iconst X0.here hx rfl (hb hby d1_18) kk) ?_
    show Gl p e below s _ _ _ s₁ (mkF m 19 #[.val (.int (6 : Int32))] [(.int (2 : Int32)), (.int (6 : Int32))])
    refine Gl.st (fun _ kk => XS.icmpYes X0.here hx rfl (pc0 := 19) (pc' := 26) rfl (hb hby d1_19) rfl (feq (by decide : ¬ ((6 : Int32) = (2 : Int32)))).2 (by decide) (by decide) kk) ?_
    show Gl p e below s _ _ _ s₁ (mkF m 26 #[.val (.int (6 : Int32))] [])
    refine Gl.st (fun _ kk => XS.iloadN X0.here hx rfl (hb hby d1_26) rfl kk) ?_
    show Gl p e below s _ _ _ s₁ (mkF m 27 #[.val (.int (6 : Int32))] [(.int (6 : Int32))])
    refine Gl.st (fun _ kk => XS.iconst X0.here hx rfl (hb hby d1_27) kk) ?_
    show Gl p e below s _ _ _ s₁ (mkF m 28 #[.val (.int (6 : Int32))] [(.int (3 : Int32)), (.int (6 : Int32))])
    refine Gl.st (fun _ kk => XS.icmpYes X0.here hx rfl (pc0 := 28) (pc' := 35) rfl (hb hby d1_28) rfl (feq (by decide : ¬ ((6 : Int32) = (3 : Int32)))).2 (by decide) (by decide) kk) ?_
    show Gl p e below s _ _ _ s₁ (mkF m 35 #[.val (.int (6 : Int32))] [])
    refine Gl.st (fun _ kk => XS.iloadN X0.here hx rfl (hb hby d1_35) rfl kk) ?_
    show Gl p e below s _ _ _ s₁ (mkF m 36 #[.val (.int (6 : Int32))] [(.int (6 : Int32))])
    refine Gl.st (fun _ kk => XS.iconst X0.here hx rfl (hb hby d1_36) kk) ?_
    show Gl p e below s _ _ _ s₁ (mkF m 37 #[.val (.int (6 : Int32))] [(.int (4 : Int32)), (.int (6 : Int32))])
    refine Gl.st (fun _ kk => XS.icmpYes X0.here hx rfl (pc0 := 37) (pc' := 44) rfl (hb hby d1_37) rfl (feq (by decide : ¬ ((6 : Int32) = (4 : Int32)))).2 (by decide) (by decide) kk) ?_
    show Gl p e below s _ _ _ s₁ (mkF m 44 #[.val (.int (6 : Int32))] [])
    refine Gl.st (fun _ kk => XS.iloadN X0.here hx rfl (hb hby d1_44) rfl kk) ?_
    show Gl p e below s _ _ _ s₁ (mkF m 45 #[.val (.int (6 : Int32))] [(.int (6 : Int32))])
    refine Gl.st (fun _ kk => XS.iconst X0.here hx rfl (hb hby d1_45) kk) ?_
    show Gl p e below s _ _ _ s₁ (mkF m 46 #[.val (.int (6 : Int32))] [(.int (5 : Int32)), (.int (6 : Int32))])
    refine Gl.st (fun _ kk => XS.icmpYes X0.here hx rfl (pc0 := 46) (pc' := 53) rfl (hb hby d1_46) rfl (feq (by decide : ¬ ((6 : Int32) = (5 : Int32)))).2 (by decide) (by decide) kk) ?_
    show Gl p e below s _ _ _ s₁ (mkF m 53 #[.val (.int (6 : Int32))] [])
    refine Gl.st (fun _ kk => XS.iloadN X0.here hx rfl (hb hby d1_53) rfl kk) ?_
    show Gl p e below s _ _ _ s₁ (mkF m 54 #[.val (.int (6 : Int32))] [(.int (6 : Int32))])
    refine Gl.st (fun _ kk => XS.bipush X0.here hx rfl (hb hby d1_54) kk) ?_
    show Gl p e below s _ _ _ s₁ (mkF m 56 #[.val (.int (6 : Int32))] [(.int (6 : Int32)), (.int (6 : Int32))])
    refine Gl.st (fun _ kk => XS.icmpNo X0.here hx rfl (hb hby d1_56) rfl (teq (by decide : (6 : Int32) = (6 : Int32))).2 kk) ?_
    show Gl p e below s _ _ _ s₁ (mkF m 59 #[.val (.int (6 : Int32))] [])
    obtain ⟨T7, X7, e7, st7⟩ := getS2 X0 hx hZ hown (host := "") (Or.inl (hw _ (List.mem_of_getElem? (i := 52) rfl))) Via.refl e0 (Sr_MALFORMED_METHOD.ext O0.2) (g := (mkF m 59 #[.val (.int (6 : Int32))] [])) rfl (hb hby d1_59)
    refine Gl.st st7 ?_
    show Gl p e below s _ _ _ T7 (mkF m 62 #[.val (.int (6 : Int32))] [(.ref wr_MALFORMED_METHOD)])
    exact Gl.ret X7 (v := (some (.ref wr_MALFORMED_METHOD))) (fun h => by rw [Bd.returns] at h; cases h) (BodyLoose.notSynchronized Bd) (fun hr => retOut X7 hx Bd.returns rfl (Or.inr (Or.inr (Or.inr (Or.inr ⟨rfl, rfl, rfl⟩)))) (hb hby d1_62) hr) e7 ⟨by rw [hr], N0, rfl⟩ (by decide) (by decide)
  · skip
    show Gl p e below s _ _ _ s₁ (mkF m 0 #[.val (.int (7 : Int32))] [])
    refine Gl.st (fun _ kk => XS.iloadN X0.here hx rfl (hb hby d1_0) rfl kk) ?_
    show Gl p e below s _ _ _ s₁ (mkF m 1 #[.val (.int (7 : Int32))] [(.int (7 : Int32))])
    refine Gl.st (fun _ kk => XS.ifYes X0.here hx rfl (pc0 := 1) (pc' := 8) rfl (hb hby d1_1) rfl ((if0 _ _).trans (feq (by decide : ¬ ((7 : Int32) = (0 : Int32)))).2) (by decide) (by decide) kk) ?_
    show Gl p e below s _ _ _ s₁ (mkF m 8 #[.val (.int (7 : Int32))] [])
    refine Gl.st (fun _ kk => XS.iloadN X0.here hx rfl (hb hby d1_8) rfl kk) ?_
    show Gl p e below s _ _ _ s₁ (mkF m 9 #[.val (.int (7 : Int32))] [(.int (7 : Int32))])
    refine Gl.st (fun _ kk => XS.iconst X0.here hx rfl (hb hby d1_9) kk) ?_
    show Gl p e below s _ _ _ s₁ (mkF m 10 #[.val (.int (7 : Int32))] [(.int (1 : Int32)), (.int (7 : Int32))])
    refine Gl.st (fun _ kk => XS.icmpYes X0.here hx rfl (pc0 := 10) (pc' := 17) rfl (hb hby d1_10) rfl (feq (by decide : ¬ ((7 : Int32) = (1 : Int32)))).2 (by decide) (by decide) kk) ?_
    show Gl p e below s _ _ _ s₁ (mkF m 17 #[.val (.int (7 : Int32))] [])
    refine Gl.st (fun _ kk => XS.iloadN X0.here hx rfl (hb hby d1_17) rfl kk) ?_
    show Gl p e below s _ _ _ s₁ (mkF m 18 #[.val (.int (7 : Int32))] [(.int (7 : Int32))])
    refine Gl.st (fun _ kk => XS.iconst X0.here hx rfl (hb hby d1_18) kk) ?_
    show Gl p e below s _ _ _ s₁ (mkF m 19 #[.val (.int (7 : Int32))] [(.int (2 : Int32)), (.int (7 : Int32))])
    refine Gl.st (fun _ kk => XS.icmpYes X0.here hx rfl (pc0 := 19) (pc' := 26) rfl (hb hby d1_19) rfl (feq (by decide : ¬ ((7 : Int32) = (2 : Int32)))).2 (by decide) (by decide) kk) ?_
    show Gl p e below s _ _ _ s₁ (mkF m 26 #[.val (.int (7 : Int32))] [])
    refine Gl.st (fun _ kk => XS.iloadN X0.here hx rfl (hb hby d1_26) rfl kk) ?_
    show Gl p e below s _ _ _ s₁ (mkF m 27 #[.val (.int (7 : Int32))] [(.int (7 : Int32))])
    refine Gl.st (fun _ kk => XS.iconst X0.here hx rfl (hb hby d1_27) kk) ?_
    show Gl p e below s _ _ _ s₁ (mkF m 28 #[.val (.int (7 : Int32))] [(.int (3 : Int32)), (.int (7 : Int32))])
    refine Gl.st (fun _ kk => XS.icmpYes X0.here hx rfl (pc0 := 28) (pc' := 35) rfl (hb hby d1_28) rfl (feq (by decide : ¬ ((7 : Int32) = (3 : Int32)))).2 (by decide) (by decide) kk) ?_
    show Gl p e below s _ _ _ s₁ (mkF m 35 #[.val (.int (7 : Int32))] [])
    refine Gl.st (fun _ kk => XS.iloadN X0.here hx rfl (hb hby d1_35) rfl kk) ?_
    show Gl p e below s _ _ _ s₁ (mkF m 36 #[.val (.int (7 : Int32))] [(.int (7 : Int32))])
    refine Gl.st (fun _ kk => XS.iconst X0.here hx rfl (hb hby d1_36) kk) ?_
    show Gl p e below s _ _ _ s₁ (mkF m 37 #[.val (.int (7 : Int32))] [(.int (4 : Int32)), (.int (7 : Int32))])
    refine Gl.st (fun _ kk => XS.icmpYes X0.here hx rfl (pc0 := 37) (pc' := 44) rfl (hb hby d1_37) rfl (feq (by decide : ¬ ((7 : Int32) = (4 : Int32)))).2 (by decide) (by decide) kk) ?_
    show Gl p e below s _ _ _ s₁ (mkF m 44 #[.val (.int (7 : Int32))] [])
    refine Gl.st (fun _ kk => XS.iloadN X0.here hx rfl (hb hby d1_44) rfl kk) ?_
    show Gl p e below s _ _ _ s₁ (mkF m 45 #[.val (.int (7 : Int32))] [(.int (7 : Int32))])
    refine Gl.st (fun _ kk => XS.iconst X0.here hx rfl (hb hby d1_45) kk) ?_
    show Gl p e below s _ _ _ s₁ (mkF m 46 #[.val (.int (7 : Int32))] [(.int (5 : Int32)), (.int (7 : Int32))])
    refine Gl.st (fun _ kk => XS.icmpYes X0.here hx rfl (pc0 := 46) (pc' := 53) rfl (hb hby d1_46) rfl (feq (by decide : ¬ ((7 : Int32) = (5 : Int32)))).2 (by decide) (by decide) kk) ?_
    show Gl p e below s _ _ _ s₁ (mkF m 53 #[.val (.int (7 : Int32))] [])
    refine Gl.st (fun _ kk => XS.iloadN X0.here hx rfl (hb hby d1_53) rfl kk) ?_
    show Gl p e below s _ _ _ s₁ (mkF m 54 #[.val (.int (7 : Int32))] [(.int (7 : Int32))])
    refine Gl.st (fun _ kk => XS.bipush X0.here hx rfl (hb hby d1_54) kk) ?_
    show Gl p e below s _ _ _ s₁ (mkF m 56 #[.val (.int (7 : Int32))] [(.int (6 : Int32)), (.int (7 : Int32))])
    refine Gl.st (fun _ kk => XS.icmpYes X0.here hx rfl (pc0 := 56) (pc' := 63) rfl (hb hby d1_56) rfl (feq (by decide : ¬ ((7 : Int32) = (6 : Int32)))).2 (by decide) (by decide) kk) ?_
    show Gl p e below s _ _ _ s₁ (mkF m 63 #[.val (.int (7 : Int32))] [])
    refine Gl.st (fun _ kk => XS.iloadN X0.here hx rfl (hb hby d1_63) rfl kk) ?_
    show Gl p e below s _ _ _ s₁ (mkF m 64 #[.val (.int (7 : Int32))] [(.int (7 : Int32))])
    refine Gl.st (fun _ kk => XS.bipush X0.here hx rfl (hb hby d1_64) kk) ?_
    show Gl p e below s _ _ _ s₁ (mkF m 66 #[.val (.int (7 : Int32))] [(.int (7 : Int32)), (.int (7 : Int32))])
    refine Gl.st (fun _ kk => XS.icmpNo X0.here hx rfl (hb hby d1_66) rfl (teq (by decide : (7 : Int32) = (7 : Int32))).2 kk) ?_
    show Gl p e below s _ _ _ s₁ (mkF m 69 #[.val (.int (7 : Int32))] [])
    obtain ⟨T8, X8, e8, st8⟩ := getS2 X0 hx hZ hown (host := "") (Or.inl (hw _ (List.mem_of_getElem? (i := 64) rfl))) Via.refl e0 (Sr_MALFORMED_TARGET.ext O0.2) (g := (mkF m 69 #[.val (.int (7 : Int32))] [])) rfl (hb hby d1_69)
    refine Gl.st st8 ?_
    show Gl p e below s _ _ _ T8 (mkF m 72 #[.val (.int (7 : Int32))] [(.ref wr_MALFORMED_TARGET)])
    exact Gl.ret X8 (v := (some (.ref wr_MALFORMED_TARGET))) (fun h => by rw [Bd.returns] at h; cases h) (BodyLoose.notSynchronized Bd) (fun hr => retOut X8 hx Bd.returns rfl (Or.inr (Or.inr (Or.inr (Or.inr ⟨rfl, rfl, rfl⟩)))) (hb hby d1_72) hr) e8 ⟨by rw [hr], N0, rfl⟩ (by decide) (by decide)
  · skip
    show Gl p e below s _ _ _ s₁ (mkF m 0 #[.val (.int (8 : Int32))] [])
    refine Gl.st (fun _ kk => XS.iloadN X0.here hx rfl (hb hby d1_0) rfl kk) ?_
    show Gl p e below s _ _ _ s₁ (mkF m 1 #[.val (.int (8 : Int32))] [(.int (8 : Int32))])
    refine Gl.st (fun _ kk => XS.ifYes X0.here hx rfl (pc0 := 1) (pc' := 8) rfl (hb hby d1_1) rfl ((if0 _ _).trans (feq (by decide : ¬ ((8 : Int32) = (0 : Int32)))).2) (by decide) (by decide) kk) ?_
    show Gl p e below s _ _ _ s₁ (mkF m 8 #[.val (.int (8 : Int32))] [])
    refine Gl.st (fun _ kk => XS.iloadN X0.here hx rfl (hb hby d1_8) rfl kk) ?_
    show Gl p e below s _ _ _ s₁ (mkF m 9 #[.val (.int (8 : Int32))] [(.int (8 : Int32))])
    refine Gl.st (fun _ kk => XS.iconst X0.here hx rfl (hb hby d1_9) kk) ?_
    show Gl p e below s _ _ _ s₁ (mkF m 10 #[.val (.int (8 : Int32))] [(.int (1 : Int32)), (.int (8 : Int32))])
    refine Gl.st (fun _ kk => XS.icmpYes X0.here hx rfl (pc0 := 10) (pc' := 17) rfl (hb hby d1_10) rfl (feq (by decide : ¬ ((8 : Int32) = (1 : Int32)))).2 (by decide) (by decide) kk) ?_
    show Gl p e below s _ _ _ s₁ (mkF m 17 #[.val (.int (8 : Int32))] [])
    refine Gl.st (fun _ kk => XS.iloadN X0.here hx rfl (hb hby d1_17) rfl kk) ?_
    show Gl p e below s _ _ _ s₁ (mkF m 18 #[.val (.int (8 : Int32))] [(.int (8 : Int32))])
    refine Gl.st (fun _ kk => XS.iconst X0.here hx rfl (hb hby d1_18) kk) ?_
    show Gl p e below s _ _ _ s₁ (mkF m 19 #[.val (.int (8 : Int32))] [(.int (2 : Int32)), (.int (8 : Int32))])
    refine Gl.st (fun _ kk => XS.icmpYes X0.here hx rfl (pc0 := 19) (pc' := 26) rfl (hb hby d1_19) rfl (feq (by decide : ¬ ((8 : Int32) = (2 : Int32)))).2 (by decide) (by decide) kk) ?_
    show Gl p e below s _ _ _ s₁ (mkF m 26 #[.val (.int (8 : Int32))] [])
    refine Gl.st (fun _ kk => XS.iloadN X0.here hx rfl (hb hby d1_26) rfl kk) ?_
    show Gl p e below s _ _ _ s₁ (mkF m 27 #[.val (.int (8 : Int32))] [(.int (8 : Int32))])
    refine Gl.st (fun _ kk => XS.iconst X0.here hx rfl (hb hby d1_27) kk) ?_
    show Gl p e below s _ _ _ s₁ (mkF m 28 #[.val (.int (8 : Int32))] [(.int (3 : Int32)), (.int (8 : Int32))])
    refine Gl.st (fun _ kk => XS.icmpYes X0.here hx rfl (pc0 := 28) (pc' := 35) rfl (hb hby d1_28) rfl (feq (by decide : ¬ ((8 : Int32) = (3 : Int32)))).2 (by decide) (by decide) kk) ?_
    show Gl p e below s _ _ _ s₁ (mkF m 35 #[.val (.int (8 : Int32))] [])
    refine Gl.st (fun _ kk => XS.iloadN X0.here hx rfl (hb hby d1_35) rfl kk) ?_
    show Gl p e below s _ _ _ s₁ (mkF m 36 #[.val (.int (8 : Int32))] [(.int (8 : Int32))])
    refine Gl.st (fun _ kk => XS.iconst X0.here hx rfl (hb hby d1_36) kk) ?_
    show Gl p e below s _ _ _ s₁ (mkF m 37 #[.val (.int (8 : Int32))] [(.int (4 : Int32)), (.int (8 : Int32))])
    refine Gl.st (fun _ kk => XS.icmpYes X0.here hx rfl (pc0 := 37) (pc' := 44) rfl (hb hby d1_37) rfl (feq (by decide : ¬ ((8 : Int32) = (4 : Int32)))).2 (by decide) (by decide) kk) ?_
    show Gl p e below s _ _ _ s₁ (mkF m 44 #[.val (.int (8 : Int32))] [])
    refine Gl.st (fun _ kk => XS.iloadN X0.here hx rfl (hb hby d1_44) rfl kk) ?_
    show Gl p e below s _ _ _ s₁ (mkF m 45 #[.val (.int (8 : Int32))] [(.int (8 : Int32))])
    refine Gl.st (fun _ kk => XS.iconst X0.here hx rfl (hb hby d1_45) kk) ?_
    show Gl p e below s _ _ _ s₁ (mkF m 46 #[.val (.int (8 : Int32))] [(.int (5 : Int32)), (.int (8 : Int32))])
    refine Gl.st (fun _ kk => XS.icmpYes X0.here hx rfl (pc0 := 46) (pc' := 53) rfl (hb hby d1_46) rfl (feq (by decide : ¬ ((8 : Int32) = (5 : Int32)))).2 (by decide) (by decide) kk) ?_
    show Gl p e below s _ _ _ s₁ (mkF m 53 #[.val (.int (8 : Int32))] [])
    refine Gl.st (fun _ kk => XS.iloadN X0.here hx rfl (hb hby d1_53) rfl kk) ?_
    show Gl p e below s _ _ _ s₁ (mkF m 54 #[.val (.int (8 : Int32))] [(.int (8 : Int32))])
    refine Gl.st (fun _ kk => XS.bipush X0.here hx rfl (hb hby d1_54) kk) ?_
    show Gl p e below s _ _ _ s₁ (mkF m 56 #[.val (.int (8 : Int32))] [(.int (6 : Int32)), (.int (8 : Int32))])
    refine Gl.st (fun _ kk => XS.icmpYes X0.here hx rfl (pc0 := 56) (pc' := 63) rfl (hb hby d1_56) rfl (feq (by decide : ¬ ((8 : Int32) = (6 : Int32)))).2 (by decide) (by decide) kk) ?_
    show Gl p e below s _ _ _ s₁ (mkF m 63 #[.val (.int (8 : Int32))] [])
    refine Gl.st (fun _ kk => XS.iloadN X0.here hx rfl (hb hby d1_63) rfl kk) ?_
    show Gl p e below s _ _ _ s₁ (mkF m 64 #[.val (.int (8 : Int32))] [(.int (8 : Int32))])
    refine Gl.st (fun _ kk => XS.bipush X0.here hx rfl (hb hby d1_64) kk) ?_
    show Gl p e below s _ _ _ s₁ (mkF m 66 #[.val (.int (8 : Int32))] [(.int (7 : Int32)), (.int (8 : Int32))])
    refine Gl.st (fun _ kk => XS.icmpYes X0.here hx rfl (pc0 := 66) (pc' := 73) rfl (hb hby d1_66) rfl (feq (by decide : ¬ ((8 : Int32) = (7 : Int32)))).2 (by decide) (by decide) kk) ?_
    show Gl p e below s _ _ _ s₁ (mkF m 73 #[.val (.int (8 : Int32))] [])
    refine Gl.st (fun _ kk => XS.iloadN X0.here hx rfl (hb hby d1_73) rfl kk) ?_
    show Gl p e below s _ _ _ s₁ (mkF m 74 #[.val (.int (8 : Int32))] [(.int (8 : Int32))])
    refine Gl.st (fun _ kk => XS.bipush X0.here hx rfl (hb hby d1_74) kk) ?_
    show Gl p e below s _ _ _ s₁ (mkF m 76 #[.val (.int (8 : Int32))] [(.int (8 : Int32)), (.int (8 : Int32))])
    refine Gl.st (fun _ kk => XS.icmpNo X0.here hx rfl (hb hby d1_76) rfl (teq (by decide : (8 : Int32) = (8 : Int32))).2 kk) ?_
    show Gl p e below s _ _ _ s₁ (mkF m 79 #[.val (.int (8 : Int32))] [])
    obtain ⟨T9, X9, e9, st9⟩ := getS2 X0 hx hZ hown (host := "") (Or.inl (hw _ (List.mem_of_getElem? (i := 54) rfl))) Via.refl e0 (Sr_SIGNATURE_MISMATCH.ext O0.2) (g := (mkF m 79 #[.val (.int (8 : Int32))] [])) rfl (hb hby d1_79)
    refine Gl.st st9 ?_
    show Gl p e below s _ _ _ T9 (mkF m 82 #[.val (.int (8 : Int32))] [(.ref wr_SIGNATURE_MISMATCH)])
    exact Gl.ret X9 (v := (some (.ref wr_SIGNATURE_MISMATCH))) (fun h => by rw [Bd.returns] at h; cases h) (BodyLoose.notSynchronized Bd) (fun hr => retOut X9 hx Bd.returns rfl (Or.inr (Or.inr (Or.inr (Or.inr ⟨rfl, rfl, rfl⟩)))) (hb hby d1_82) hr) e9 ⟨by rw [hr], N0, rfl⟩ (by decide) (by decide)
  · skip
    show Gl p e below s _ _ _ s₁ (mkF m 0 #[.val (.int (9 : Int32))] [])
    refine Gl.st (fun _ kk => XS.iloadN X0.here hx rfl (hb hby d1_0) rfl kk) ?_
    show Gl p e below s _ _ _ s₁ (mkF m 1 #[.val (.int (9 : Int32))] [(.int (9 : Int32))])
    refine Gl.st (fun _ kk => XS.ifYes X0.here hx rfl (pc0 := 1) (pc' := 8) rfl (hb hby d1_1) rfl ((if0 _ _).trans (feq (by decide : ¬ ((9 : Int32) = (0 : Int32)))).2) (by decide) (by decide) kk) ?_
    show Gl p e below s _ _ _ s₁ (mkF m 8 #[.val (.int (9 : Int32))] [])
    refine Gl.st (fun _ kk => XS.iloadN X0.here hx rfl (hb hby d1_8) rfl kk) ?_
    show Gl p e below s _ _ _ s₁ (mkF m 9 #[.val (.int (9 : Int32))] [(.int (9 : Int32))])
    refine Gl.st (fun _ kk => XS.iconst X0.here hx rfl (hb hby d1_9) kk) ?_
    show Gl p e below s _ _ _ s₁ (mkF m 10 #[.val (.int (9 : Int32))] [(.int (1 : Int32)), (.int (9 : Int32))])
    refine Gl.st (fun _ kk => XS.icmpYes X0.here hx rfl (pc0 := 10) (pc' := 17) rfl (hb hby d1_10) rfl (feq (by decide : ¬ ((9 : Int32) = (1 : Int32)))).2 (by decide) (by decide) kk) ?_
    show Gl p e below s _ _ _ s₁ (mkF m 17 #[.val (.int (9 : Int32))] [])
    refine Gl.st (fun _ kk => XS.iloadN X0.here hx rfl (hb hby d1_17) rfl kk) ?_
    show Gl p e below s _ _ _ s₁ (mkF m 18 #[.val (.int (9 : Int32))] [(.int (9 : Int32))])
    refine Gl.st (fun _ kk => XS.iconst X0.here hx rfl (hb hby d1_18) kk) ?_
    show Gl p e below s _ _ _ s₁ (mkF m 19 #[.val (.int (9 : Int32))] [(.int (2 : Int32)), (.int (9 : Int32))])
    refine Gl.st (fun _ kk => XS.icmpYes X0.here hx rfl (pc0 := 19) (pc' := 26) rfl (hb hby d1_19) rfl (feq (by decide : ¬ ((9 : Int32) = (2 : Int32)))).2 (by decide) (by decide) kk) ?_
    show Gl p e below s _ _ _ s₁ (mkF m 26 #[.val (.int (9 : Int32))] [])
    refine Gl.st (fun _ kk => XS.iloadN X0.here hx rfl (hb hby d1_26) rfl kk) ?_
    show Gl p e below s _ _ _ s₁ (mkF m 27 #[.val (.int (9 : Int32))] [(.int (9 : Int32))])
    refine Gl.st (fun _ kk => XS.iconst X0.here hx rfl (hb hby d1_27) kk) ?_
    show Gl p e below s _ _ _ s₁ (mkF m 28 #[.val (.int (9 : Int32))] [(.int (3 : Int32)), (.int (9 : Int32))])
    refine Gl.st (fun _ kk => XS.icmpYes X0.here hx rfl (pc0 := 28) (pc' := 35) rfl (hb hby d1_28) rfl (feq (by decide : ¬ ((9 : Int32) = (3 : Int32)))).2 (by decide) (by decide) kk) ?_
    show Gl p e below s _ _ _ s₁ (mkF m 35 #[.val (.int (9 : Int32))] [])
    refine Gl.st (fun _ kk => XS.iloadN X0.here hx rfl (hb hby d1_35) rfl kk) ?_
    show Gl p e below s _ _ _ s₁ (mkF m 36 #[.val (.int (9 : Int32))] [(.int (9 : Int32))])
    refine Gl.st (fun _ kk => XS.iconst X0.here hx rfl (hb hby d1_36) kk) ?_
    show Gl p e below s _ _ _ s₁ (mkF m 37 #[.val (.int (9 : Int32))] [(.int (4 : Int32)), (.int (9 : Int32))])
    refine Gl.st (fun _ kk => XS.icmpYes X0.here hx rfl (pc0 := 37) (pc' := 44) rfl (hb hby d1_37) rfl (feq (by decide : ¬ ((9 : Int32) = (4 : Int32)))).2 (by decide) (by decide) kk) ?_
    show Gl p e below s _ _ _ s₁ (mkF m 44 #[.val (.int (9 : Int32))] [])
    refine Gl.st (fun _ kk => XS.iloadN X0.here hx rfl (hb hby d1_44) rfl kk) ?_
    show Gl p e below s _ _ _ s₁ (mkF m 45 #[.val (.int (9 : Int32))] [(.int (9 : Int32))])
    refine Gl.st (fun _ kk => XS.iconst X0.here hx rfl (hb hby d1_45) kk) ?_
    show Gl p e below s _ _ _ s₁ (mkF m 46 #[.val (.int (9 : Int32))] [(.int (5 : Int32)), (.int (9 : Int32))])
    refine Gl.st (fun _ kk => XS.icmpYes X0.here hx rfl (pc0 := 46) (pc' := 53) rfl (hb hby d1_46) rfl (feq (by decide : ¬ ((9 : Int32) = (5 : Int32)))).2 (by decide) (by decide) kk) ?_
    show Gl p e below s _ _ _ s₁ (mkF m 53 #[.val (.int (9 : Int32))] [])
    refine Gl.st (fun _ kk => XS.iloadN X0.here hx rfl (hb hby d1_53) rfl kk) ?_
    show Gl p e below s _ _ _ s₁ (mkF m 54 #[.val (.int (9 : Int32))] [(.int (9 : Int32))])
    refine Gl.st (fun _ kk => XS.bipush X0.here hx rfl (hb hby d1_54) kk) ?_
    show Gl p e below s _ _ _ s₁ (mkF m 56 #[.val (.int (9 : Int32))] [(.int (6 : Int32)), (.int (9 : Int32))])
    refine Gl.st (fun _ kk => XS.icmpYes X0.here hx rfl (pc0 := 56) (pc' := 63) rfl (hb hby d1_56) rfl (feq (by decide : ¬ ((9 : Int32) = (6 : Int32)))).2 (by decide) (by decide) kk) ?_
    show Gl p e below s _ _ _ s₁ (mkF m 63 #[.val (.int (9 : Int32))] [])
    refine Gl.st (fun _ kk => XS.iloadN X0.here hx rfl (hb hby d1_63) rfl kk) ?_
    show Gl p e below s _ _ _ s₁ (mkF m 64 #[.val (.int (9 : Int32))] [(.int (9 : Int32))])
    refine Gl.st (fun _ kk => XS.bipush X0.here hx rfl (hb hby d1_64) kk) ?_
    show Gl p e below s _ _ _ s₁ (mkF m 66 #[.val (.int (9 : Int32))] [(.int (7 : Int32)), (.int (9 : Int32))])
    refine Gl.st (fun _ kk => XS.icmpYes X0.here hx rfl (pc0 := 66) (pc' := 73) rfl (hb hby d1_66) rfl (feq (by decide : ¬ ((9 : Int32) = (7 : Int32)))).2 (by decide) (by decide) kk) ?_
    show Gl p e below s _ _ _ s₁ (mkF m 73 #[.val (.int (9 : Int32))] [])
    refine Gl.st (fun _ kk => XS.iloadN X0.here hx rfl (hb hby d1_73) rfl kk) ?_
    show Gl p e below s _ _ _ s₁ (mkF m 74 #[.val (.int (9 : Int32))] [(.int (9 : Int32))])
    refine Gl.st (fun _ kk => XS.bipush X0.here hx rfl (hb hby d1_74) kk) ?_
    show Gl p e below s _ _ _ s₁ (mkF m 76 #[.val (.int (9 : Int32))] [(.int (8 : Int32)), (.int (9 : Int32))])
    refine Gl.st (fun _ kk => XS.icmpYes X0.here hx rfl (pc0 := 76) (pc' := 83) rfl (hb hby d1_76) rfl (feq (by decide : ¬ ((9 : Int32) = (8 : Int32)))).2 (by decide) (by decide) kk) ?_
    show Gl p e below s _ _ _ s₁ (mkF m 83 #[.val (.int (9 : Int32))] [])
    refine Gl.st (fun _ kk => XS.iloadN X0.here hx rfl (hb hby d1_83) rfl kk) ?_
    show Gl p e below s _ _ _ s₁ (mkF m 84 #[.val (.int (9 : Int32))] [(.int (9 : Int32))])
    refine Gl.st (fun _ kk => XS.bipush X0.here hx rfl (hb hby d1_84) kk) ?_
    show Gl p e below s _ _ _ s₁ (mkF m 86 #[.val (.int (9 : Int32))] [(.int (9 : Int32)), (.int (9 : Int32))])
    refine Gl.st (fun _ kk => XS.icmpNo X0.here hx rfl (hb hby d1_86) rfl (teq (by decide : (9 : Int32) = (9 : Int32))).2 kk) ?_
    show Gl p e below s _ _ _ s₁ (mkF m 89 #[.val (.int (9 : Int32))] [])
    obtain ⟨T10, X10, e10, st10⟩ := getS2 X0 hx hZ hown (host := "") (Or.inl (hw _ (List.mem_of_getElem? (i := 46) rfl))) Via.refl e0 (Sr_REPLAYED.ext O0.2) (g := (mkF m 89 #[.val (.int (9 : Int32))] [])) rfl (hb hby d1_89)
    refine Gl.st st10 ?_
    show Gl p e below s _ _ _ T10 (mkF m 92 #[.val (.int (9 : Int32))] [(.ref wr_REPLAYED)])
    exact Gl.ret X10 (v := (some (.ref wr_REPLAYED))) (fun h => by rw [Bd.returns] at h; cases h) (BodyLoose.notSynchronized Bd) (fun hr => retOut X10 hx Bd.returns rfl (Or.inr (Or.inr (Or.inr (Or.inr ⟨rfl, rfl, rfl⟩)))) (hb hby d1_92) hr) e10 ⟨by rw [hr], N0, rfl⟩ (by decide) (by decide)
  · skip
    show Gl p e below s _ _ _ s₁ (mkF m 0 #[.val (.int (10 : Int32))] [])
    refine Gl.st (fun _ kk => XS.iloadN X0.here hx rfl (hb hby d1_0) rfl kk) ?_
    show Gl p e below s _ _ _ s₁ (mkF m 1 #[.val (.int (10 : Int32))] [(.int (10 : Int32))])
    refine Gl.st (fun _ kk => XS.ifYes X0.here hx rfl (pc0 := 1) (pc' := 8) rfl (hb hby d1_1) rfl ((if0 _ _).trans (feq (by decide : ¬ ((10 : Int32) = (0 : Int32)))).2) (by decide) (by decide) kk) ?_
    show Gl p e below s _ _ _ s₁ (mkF m 8 #[.val (.int (10 : Int32))] [])
    refine Gl.st (fun _ kk => XS.iloadN X0.here hx rfl (hb hby d1_8) rfl kk) ?_
    show Gl p e below s _ _ _ s₁ (mkF m 9 #[.val (.int (10 : Int32))] [(.int (10 : Int32))])
    refine Gl.st (fun _ kk => XS.iconst X0.here hx rfl (hb hby d1_9) kk) ?_
    show Gl p e below s _ _ _ s₁ (mkF m 10 #[.val (.int (10 : Int32))] [(.int (1 : Int32)), (.int (10 : Int32))])
    refine Gl.st (fun _ kk => XS.icmpYes X0.here hx rfl (pc0 := 10) (pc' := 17) rfl (hb hby d1_10) rfl (feq (by decide : ¬ ((10 : Int32) = (1 : Int32)))).2 (by decide) (by decide) kk) ?_
    show Gl p e below s _ _ _ s₁ (mkF m 17 #[.val (.int (10 : Int32))] [])
    refine Gl.st (fun _ kk => XS.iloadN X0.here hx rfl (hb hby d1_17) rfl kk) ?_
    show Gl p e below s _ _ _ s₁ (mkF m 18 #[.val (.int (10 : Int32))] [(.int (10 : Int32))])
    refine Gl.st (fun _ kk => XS.iconst X0.here hx rfl (hb hby d1_18) kk) ?_
    show Gl p e below s _ _ _ s₁ (mkF m 19 #[.val (.int (10 : Int32))] [(.int (2 : Int32)), (.int (10 : Int32))])
    refine Gl.st (fun _ kk => XS.icmpYes X0.here hx rfl (pc0 := 19) (pc' := 26) rfl (hb hby d1_19) rfl (feq (by decide : ¬ ((10 : Int32) = (2 : Int32)))).2 (by decide) (by decide) kk) ?_
    show Gl p e below s _ _ _ s₁ (mkF m 26 #[.val (.int (10 : Int32))] [])
    refine Gl.st (fun _ kk => XS.iloadN X0.here hx rfl (hb hby d1_26) rfl kk) ?_
    show Gl p e below s _ _ _ s₁ (mkF m 27 #[.val (.int (10 : Int32))] [(.int (10 : Int32))])
    refine Gl.st (fun _ kk => XS.iconst X0.here hx rfl (hb hby d1_27) kk) ?_
    show Gl p e below s _ _ _ s₁ (mkF m 28 #[.val (.int (10 : Int32))] [(.int (3 : Int32)), (.int (10 : Int32))])
    refine Gl.st (fun _ kk => XS.icmpYes X0.here hx rfl (pc0 := 28) (pc' := 35) rfl (hb hby d1_28) rfl (feq (by decide : ¬ ((10 : Int32) = (3 : Int32)))).2 (by decide) (by decide) kk) ?_
    show Gl p e below s _ _ _ s₁ (mkF m 35 #[.val (.int (10 : Int32))] [])
    refine Gl.st (fun _ kk => XS.iloadN X0.here hx rfl (hb hby d1_35) rfl kk) ?_
    show Gl p e below s _ _ _ s₁ (mkF m 36 #[.val (.int (10 : Int32))] [(.int (10 : Int32))])
    refine Gl.st (fun _ kk => XS.iconst X0.here hx rfl (hb hby d1_36) kk) ?_
    show Gl p e below s _ _ _ s₁ (mkF m 37 #[.val (.int (10 : Int32))] [(.int (4 : Int32)), (.int (10 : Int32))])
    refine Gl.st (fun _ kk => XS.icmpYes X0.here hx rfl (pc0 := 37) (pc' := 44) rfl (hb hby d1_37) rfl (feq (by decide : ¬ ((10 : Int32) = (4 : Int32)))).2 (by decide) (by decide) kk) ?_
    show Gl p e below s _ _ _ s₁ (mkF m 44 #[.val (.int (10 : Int32))] [])
    refine Gl.st (fun _ kk => XS.iloadN X0.here hx rfl (hb hby d1_44) rfl kk) ?_
    show Gl p e below s _ _ _ s₁ (mkF m 45 #[.val (.int (10 : Int32))] [(.int (10 : Int32))])
    refine Gl.st (fun _ kk => XS.iconst X0.here hx rfl (hb hby d1_45) kk) ?_
    show Gl p e below s _ _ _ s₁ (mkF m 46 #[.val (.int (10 : Int32))] [(.int (5 : Int32)), (.int (10 : Int32))])
    refine Gl.st (fun _ kk => XS.icmpYes X0.here hx rfl (pc0 := 46) (pc' := 53) rfl (hb hby d1_46) rfl (feq (by decide : ¬ ((10 : Int32) = (5 : Int32)))).2 (by decide) (by decide) kk) ?_
    show Gl p e below s _ _ _ s₁ (mkF m 53 #[.val (.int (10 : Int32))] [])
    refine Gl.st (fun _ kk => XS.iloadN X0.here hx rfl (hb hby d1_53) rfl kk) ?_
    show Gl p e below s _ _ _ s₁ (mkF m 54 #[.val (.int (10 : Int32))] [(.int (10 : Int32))])
    refine Gl.st (fun _ kk => XS.bipush X0.here hx rfl (hb hby d1_54) kk) ?_
    show Gl p e below s _ _ _ s₁ (mkF m 56 #[.val (.int (10 : Int32))] [(.int (6 : Int32)), (.int (10 : Int32))])
    refine Gl.st (fun _ kk => XS.icmpYes X0.here hx rfl (pc0 := 56) (pc' := 63) rfl (hb hby d1_56) rfl (feq (by decide : ¬ ((10 : Int32) = (6 : Int32)))).2 (by decide) (by decide) kk) ?_
    show Gl p e below s _ _ _ s₁ (mkF m 63 #[.val (.int (10 : Int32))] [])
    refine Gl.st (fun _ kk => XS.iloadN X0.here hx rfl (hb hby d1_63) rfl kk) ?_
    show Gl p e below s _ _ _ s₁ (mkF m 64 #[.val (.int (10 : Int32))] [(.int (10 : Int32))])
    refine Gl.st (fun _ kk => XS.bipush X0.here hx rfl (hb hby d1_64) kk) ?_
    show Gl p e below s _ _ _ s₁ (mkF m 66 #[.val (.int (10 : Int32))] [(.int (7 : Int32)), (.int (10 : Int32))])
    refine Gl.st (fun _ kk => XS.icmpYes X0.here hx rfl (pc0 := 66) (pc' := 73) rfl (hb hby d1_66) rfl (feq (by decide : ¬ ((10 : Int32) = (7 : Int32)))).2 (by decide) (by decide) kk) ?_
    show Gl p e below s _ _ _ s₁ (mkF m 73 #[.val (.int (10 : Int32))] [])
    refine Gl.st (fun _ kk => XS.iloadN X0.here hx rfl (hb hby d1_73) rfl kk) ?_
    show Gl p e below s _ _ _ s₁ (mkF m 74 #[.val (.int (10 : Int32))] [(.int (10 : Int32))])
    refine Gl.st (fun _ kk => XS.bipush X0.here hx rfl (hb hby d1_74) kk) ?_
    show Gl p e below s _ _ _ s₁ (mkF m 76 #[.val (.int (10 : Int32))] [(.int (8 : Int32)), (.int (10 : Int32))])
    refine Gl.st (fun _ kk => XS.icmpYes X0.here hx rfl (pc0 := 76) (pc' := 83) rfl (hb hby d1_76) rfl (feq (by decide : ¬ ((10 : Int32) = (8 : Int32)))).2 (by decide) (by decide) kk) ?_
    show Gl p e below s _ _ _ s₁ (mkF m 83 #[.val (.int (10 : Int32))] [])
    refine Gl.st (fun _ kk => XS.iloadN X0.here hx rfl (hb hby d1_83) rfl kk) ?_
    show Gl p e below s _ _ _ s₁ (mkF m 84 #[.val (.int (10 : Int32))] [(.int (10 : Int32))])
    refine Gl.st (fun _ kk => XS.bipush X0.here hx rfl (hb hby d1_84) kk) ?_
    show Gl p e below s _ _ _ s₁ (mkF m 86 #[.val (.int (10 : Int32))] [(.int (9 : Int32)), (.int (10 : Int32))])
    refine Gl.st (fun _ kk => XS.icmpYes X0.here hx rfl (pc0 := 86) (pc' := 93) rfl (hb hby d1_86) rfl (feq (by decide : ¬ ((10 : Int32) = (9 : Int32)))).2 (by decide) (by decide) kk) ?_
    show Gl p e below s _ _ _ s₁ (mkF m 93 #[.val (.int (10 : Int32))] [])
    refine Gl.st (fun _ kk => XS.aconstNull X0.here hx rfl (hb hby d1_93) kk) ?_
    show Gl p e below s _ _ _ s₁ (mkF m 94 #[.val (.int (10 : Int32))] [.null])
    exact Gl.ret X0 (v := (some .null)) (fun h => by rw [Bd.returns] at h; cases h) (BodyLoose.notSynchronized Bd) (fun hr => retOut X0 hx Bd.returns rfl (Or.inr (Or.inr (Or.inr (Or.inr ⟨rfl, rfl, rfl⟩)))) (hb hby d1_94) hr) e0 ⟨by rw [hr], N0, rfl⟩ (by decide) (by decide)
theorem d2_0 : decode method_4_code 0 = .ok (.iload_n 0, 1) := by decide +kernel
theorem d2_1 : decode method_4_code 1 = .ok (.ifCond .ne 7, 3) := by decide +kernel
theorem d2_4 : decode method_4_code 4 = .ok (.getstatic 60, 3) := by decide +kernel
theorem d2_7 : decode method_4_code 7 = .ok (.areturn, 1) := by decide +kernel
theorem d2_8 : decode method_4_code 8 = .ok (.iload_n 0, 1) := by decide +kernel
theorem d2_9 : decode method_4_code 9 = .ok (.iconst 1, 1) := by decide +kernel
theorem d2_10 : decode method_4_code 10 = .ok (.if_icmp .ne 7, 3) := by decide +kernel
theorem d2_13 : decode method_4_code 13 = .ok (.getstatic 66, 3) := by decide +kernel
theorem d2_16 : decode method_4_code 16 = .ok (.areturn, 1) := by decide +kernel
theorem d2_17 : decode method_4_code 17 = .ok (.iload_n 0, 1) := by decide +kernel
theorem d2_18 : decode method_4_code 18 = .ok (.iconst 2, 1) := by decide +kernel
theorem d2_19 : decode method_4_code 19 = .ok (.if_icmp .ne 7, 3) := by decide +kernel
theorem d2_22 : decode method_4_code 22 = .ok (.getstatic 69, 3) := by decide +kernel
theorem d2_25 : decode method_4_code 25 = .ok (.areturn, 1) := by decide +kernel
theorem d2_26 : decode method_4_code 26 = .ok (.getstatic 72, 3) := by decide +kernel
theorem d2_29 : decode method_4_code 29 = .ok (.areturn, 1) := by decide +kernel
theorem pn_rm2 : plainName "io/github/countersign/VerdictIsValidPinLaw" = true := by first | (simp [plainName, overriddenIn]; done) | decide +kernel
theorem ef_rm2 (m : MethodId) (q1 : Int32) : entryFrame m #[(.int q1)] 1 = mkF m 0 #[.val (.int q1)] [] := by first | (simp [entryFrame, mkF, argsToLocals, Value.category]; done) | rfl
def Q_rm2 (Z : State) (q1 : Int32) (wh_API_KEY wh_DATE wh_VERSION wh_SIGNATURE : Addr) (w : Addr) (h0 : Heap) (n0 : Nat) (v : Option Value) (h : Heap) (L : List Loc) : Prop := v = some (.ref w) ∧ Fr n0 L ∧ h = h0
set_option maxRecDepth 65536 in
set_option maxHeartbeats 40000000 in
theorem rm2 (l : Launch) (Z : State) (a0 : Array Value) (hw : ∀ d ∈ tables_1, d.before a0 Z = true) (ws : List Jvm.Cond) (q1 : Int32) (wh_API_KEY wh_DATE wh_VERSION wh_SIGNATURE : Addr) (w : Addr) (h0 : Heap) (n0 : Nat) (O0 : Old Z n0 h0) (Sh_API_KEY : Sta Z Z.heap "io/github/countersign/Header" "API_KEY" "Lio/github/countersign/Header;" (.ref wh_API_KEY)) (Sh_DATE : Sta Z Z.heap "io/github/countersign/Header" "DATE" "Lio/github/countersign/Header;" (.ref wh_DATE)) (Sh_VERSION : Sta Z Z.heap "io/github/countersign/Header" "VERSION" "Lio/github/countersign/Header;" (.ref wh_VERSION)) (Sh_SIGNATURE : Sta Z Z.heap "io/github/countersign/Header" "SIGNATURE" "Lio/github/countersign/Header;" (.ref wh_SIGNATURE)) (hp : (q1 = 0 ∧ w = wh_API_KEY) ∨ (q1 = 1 ∧ w = wh_DATE) ∨ (q1 = 2 ∧ w = wh_VERSION) ∨ (q1 = 3 ∧ w = wh_SIGNATURE)) :
    MetFree l (⟨"io/github/countersign/VerdictIsValidPinLaw", "headerAt", "(I)Lio/github/countersign/Header;"⟩ : MethodName) (head1 (Jvm.Cond.code (⟨"io/github/countersign/VerdictIsValidPinLaw", "headerAt", "(I)Lio/github/countersign/Header;"⟩ : MethodName) method_4_code 1 (some (.object "io/github/countersign/Header")) :: ws) ({ frames := 0, cells := 0, slots := 0, locals := 0 } : Room)) (fun a U => a = #[(.int q1)] ∧ Z.Warmed39 U.vm ∧ U.heap = h0) (fun _ _ _ _ _ => True) (fun _ U o U' => ∃ v L, o = .returned v ∧ Q_rm2 Z q1 wh_API_KEY wh_DATE wh_VERSION wh_SIGNATURE w h0 n0 v U'.heap L ∧ FrameEnd U o U' L ({ frames := 0, cells := 0, slots := 0, locals := 0 } : Room).cells ({ frames := 0, cells := 0, slots := 0, locals := 0 } : Room).slots) := by
  refine MetFree.of_bodySF (plainFor_of_name pn_rm2) hisR ?_
  intro p e s m args below meth c s₁ Bd hml0 hP hK
  obtain ⟨rfl, hZ, hh⟩ := hP
  have hx := Bd.exec
  have hby := Bd.bytes
  have hml : c.maxLocals = 1 := hml0
  have hown : s.vm.findClass "io/github/countersign/VerdictIsValidPinLaw" = some m.cls := findClass_of_methodNamed Bd.named
  have hnm := (name_of_methodNamed Bd.named Bd.method).1
  have X0 : Stand p l e ({ frames := 0, cells := 0, slots := 0, locals := 0 } : Room) s m #[(.int q1)] below meth c s₁ [] 0 0 := Stand.of_body Bd
  have e0 : s₁.heap = h0 := by rw [← hh, Bd.state]; rfl
  have N0 := Fr.nil n0
  refine Gl.start (Q := Q_rm2 Z q1 wh_API_KEY wh_DATE wh_VERSION wh_SIGNATURE w h0 n0) (ef_rm2 m q1) ?_
  show Gl p e below s _ _ _ s₁ (mkF m 0 #[.val (.int q1)] [])
  rcases hp with ⟨rfl, hr⟩ | ⟨rfl, hr⟩ | ⟨rfl, hr⟩ | ⟨rfl, hr⟩
  · skip
    show Gl p e below s _ _ _ s₁ (mkF m 0 #[.val (.int (0 : Int32))] [])
    refine Gl.st (fun _ kk => XS.iloadN X0.here hx rfl (hb hby d2_0) rfl kk) ?_
    show Gl p e below s _ _ _ s₁ (mkF m 1 #[.val (.int (0 : Int32))] [(.int (0 : Int32))])
    refine Gl.st (fun _ kk => XS.ifNo X0.here hx rfl (hb hby d2_1) rfl ((if0 _ _).trans (teq (by decide : (0 : Int32) = (0 : Int32))).2) kk) ?_
    show Gl p e below s _ _ _ s₁ (mkF m 4 #[.val (.int (0 : Int32))] [])
    obtain ⟨T1, X1, e1, st1⟩ := getS2 X0 hx hZ hown (host := "") (Or.inl (hw _ (List.mem_of_getElem? (i := 48) rfl))) Via.refl e0 (Sh_API_KEY.ext O0.2) (g := (mkF m 4 #[.val (.int (0 : Int32))] [])) rfl (hb hby d2_4)
    refine Gl.st st1 ?_
    show Gl p e below s _ _ _ T1 (mkF m 7 #[.val (.int (0 : Int32))] [(.ref wh_API_KEY)])
    exact Gl.ret X1 (v := (some (.ref wh_API_KEY))) (fun h => by rw [Bd.returns] at h; cases h) (BodyLoose.notSynchronized Bd) (fun hr => retOut X1 hx Bd.returns rfl (Or.inr (Or.inr (Or.inr (Or.inr ⟨rfl, rfl, rfl⟩)))) (hb hby d2_7) hr) e1 ⟨by rw [hr], N0, rfl⟩ (by decide) (by decide)
  · skip
    show Gl p e below s _ _ _ s₁ (mkF m 0 #[.val (.int (1 : Int32))] [])
    refine Gl.st (fun _ kk => XS.iloadN X0.here hx rfl (hb hby d2_0) rfl kk) ?_
    show Gl p e below s _ _ _ s₁ (mkF m 1 #[.val (.int (1 : Int32))] [(.int (1 : Int32))])
    refine Gl.st (fun _ kk => XS.ifYes X0.here hx rfl (pc0 := 1) (pc' := 8) rfl (hb hby d2_1) rfl ((if0 _ _).trans (feq (by decide : ¬ ((1 : Int32) = (0 : Int32)))).2) (by decide) (by decide) kk) ?_
    show Gl p e below s _ _ _ s₁ (mkF m 8 #[.val (.int (1 : Int32))] [])
    refine Gl.st (fun _ kk => XS.iloadN X0.here hx rfl (hb hby d2_8) rfl kk) ?_
    show Gl p e below s _ _ _ s₁ (mkF m 9 #[.val (.int (1 : Int32))] [(.int (1 : Int32))])
    refine Gl.st (fun _ kk => XS.iconst X0.here hx rfl (hb hby d2_9) kk) ?_
    show Gl p e below s _ _ _ s₁ (mkF m 10 #[.val (.int (1 : Int32))] [(.int (1 : Int32)), (.int (1 : Int32))])
    refine Gl.st (fun _ kk => XS.icmpNo X0.here hx rfl (hb hby d2_10) rfl (teq (by decide : (1 : Int32) = (1 : Int32))).2 kk) ?_
    show Gl p e below s _ _ _ s₁ (mkF m 13 #[.val (.int (1 : Int32))] [])
    obtain ⟨T2, X2, e2, st2⟩ := getS2 X0 hx hZ hown (host := "") (Or.inl (hw _ (List.mem_of_getElem? (i := 58) rfl))) Via.refl e0 (Sh_DATE.ext O0.2) (g := (mkF m 13 #[.val (.int (1 : Int32))] [])) rfl (hb hby d2_13)
    refine Gl.st st2 ?_
    show Gl p e below s _ _ _ T2 (mkF m 16 #[.val (.int (1 : Int32))] [(.ref wh_DATE)])
    exact Gl.ret X2 (v := (some (.ref wh_DATE))) (fun h => by rw [Bd.returns] at h; cases h) (BodyLoose.notSynchronized Bd) (fun hr => retOut X2 hx Bd.returns rfl (Or.inr (Or.inr (Or.inr (Or.inr ⟨rfl, rfl, rfl⟩)))) (hb hby d2_16) hr) e2 ⟨by rw [hr], N0, rfl⟩ (by decide) (by decide)
  · skip
    show Gl p e below s _ _ _ s₁ (mkF m 0 #[.val (.int (2 : Int32))] [])
    refine Gl.st (fun _ kk => XS.iloadN X0.here hx rfl (hb hby d2_0) rfl kk) ?_
    show Gl p e below s _ _ _ s₁ (mkF m 1 #[.val (.int (2 : Int32))] [(.int (2 : Int32))])
    refine Gl.st (fun _ kk => XS.ifYes X0.here hx rfl (pc0 := 1) (pc' := 8) rfl (hb hby d2_1) rfl ((if0 _ _).trans (feq (by decide : ¬ ((2 : Int32) = (0 : Int32)))).2) (by decide) (by decide) kk) ?_
    show Gl p e below s _ _ _ s₁ (mkF m 8 #[.val (.int (2 : Int32))] [])
    refine Gl.st (fun _ kk => XS.iloadN X0.here hx rfl (hb hby d2_8) rfl kk) ?_
    show Gl p e below s _ _ _ s₁ (mkF m 9 #[.val (.int (2 : Int32))] [(.int (2 : Int32))])
    refine Gl.st (fun _ kk => XS.iconst X0.here hx rfl (hb hby d2_9) kk) ?_
    show Gl p e below s _ _ _ s₁ (mkF m 10 #[.val (.int (2 : Int32))] [(.int (1 : Int32)), (.int (2 : Int32))])
    refine Gl.st (fun _ kk => XS.icmpYes X0.here hx rfl (pc0 := 10) (pc' := 17) rfl (hb hby d2_10) rfl (feq (by decide : ¬ ((2 : Int32) = (1 : Int32)))).2 (by decide) (by decide) kk) ?_
    show Gl p e below s _ _ _ s₁ (mkF m 17 #[.val (.int (2 : Int32))] [])
    refine Gl.st (fun _ kk => XS.iloadN X0.here hx rfl (hb hby d2_17) rfl kk) ?_
    show Gl p e below s _ _ _ s₁ (mkF m 18 #[.val (.int (2 : Int32))] [(.int (2 : Int32))])
    refine Gl.st (fun _ kk => XS.iconst X0.here hx rfl (hb hby d2_18) kk) ?_
    show Gl p e below s _ _ _ s₁ (mkF m 19 #[.val (.int (2 : Int32))] [(.int (2 : Int32)), (.int (2 : Int32))])
    refine Gl.st (fun _ kk => XS.icmpNo X0.here hx rfl (hb hby d2_19) rfl (teq (by decide : (2 : Int32) = (2 : Int32))).2 kk) ?_
    show Gl p e below s _ _ _ s₁ (mkF m 22 #[.val (.int (2 : Int32))] [])
    obtain ⟨T3, X3, e3, st3⟩ := getS2 X0 hx hZ hown (host := "") (Or.inl (hw _ (List.mem_of_getElem? (i := 62) rfl))) Via.refl e0 (Sh_VERSION.ext O0.2) (g := (mkF m 22 #[.val (.int (2 : Int32))] [])) rfl (hb hby d2_22)
    refine Gl.st st3 ?_
    show Gl p e below s _ _ _ T3 (mkF m 25 #[.val (.int (2 : Int32))] [(.ref wh_VERSION)])
    exact Gl.ret X3 (v := (some (.ref wh_VERSION))) (fun h => by rw [Bd.returns] at h; cases h) (BodyLoose.notSynchronized Bd) (fun hr => retOut X3 hx Bd.returns rfl (Or.inr (Or.inr (Or.inr (Or.inr ⟨rfl, rfl, rfl⟩)))) (hb hby d2_25) hr) e3 ⟨by rw [hr], N0, rfl⟩ (by decide) (by decide)
  · skip
    show Gl p e below s _ _ _ s₁ (mkF m 0 #[.val (.int (3 : Int32))] [])
    refine Gl.st (fun _ kk => XS.iloadN X0.here hx rfl (hb hby d2_0) rfl kk) ?_
    show Gl p e below s _ _ _ s₁ (mkF m 1 #[.val (.int (3 : Int32))] [(.int (3 : Int32))])
    refine Gl.st (fun _ kk => XS.ifYes X0.here hx rfl (pc0 := 1) (pc' := 8) rfl (hb hby d2_1) rfl ((if0 _ _).trans (feq (by decide : ¬ ((3 : Int32) = (0 : Int32)))).2) (by decide) (by decide) kk) ?_
    show Gl p e below s _ _ _ s₁ (mkF m 8 #[.val (.int (3 : Int32))] [])
    refine Gl.st (fun _ kk => XS.iloadN X0.here hx rfl (hb hby d2_8) rfl kk) ?_
    show Gl p e below s _ _ _ s₁ (mkF m 9 #[.val (.int (3 : Int32))] [(.int (3 : Int32))])
    refine Gl.st (fun _ kk => XS.iconst X0.here hx rfl (hb hby d2_9) kk) ?_
    show Gl p e below s _ _ _ s₁ (mkF m 10 #[.val (.int (3 : Int32))] [(.int (1 : Int32)), (.int (3 : Int32))])
    refine Gl.st (fun _ kk => XS.icmpYes X0.here hx rfl (pc0 := 10) (pc' := 17) rfl (hb hby d2_10) rfl (feq (by decide : ¬ ((3 : Int32) = (1 : Int32)))).2 (by decide) (by decide) kk) ?_
    show Gl p e below s _ _ _ s₁ (mkF m 17 #[.val (.int (3 : Int32))] [])
    refine Gl.st (fun _ kk => XS.iloadN X0.here hx rfl (hb hby d2_17) rfl kk) ?_
    show Gl p e below s _ _ _ s₁ (mkF m 18 #[.val (.int (3 : Int32))] [(.int (3 : Int32))])
    refine Gl.st (fun _ kk => XS.iconst X0.here hx rfl (hb hby d2_18) kk) ?_
    show Gl p e below s _ _ _ s₁ (mkF m 19 #[.val (.int (3 : Int32))] [(.int (2 : Int32)), (.int (3 : Int32))])
    refine Gl.st (fun _ kk => XS.icmpYes X0.here hx rfl (pc0 := 19) (pc' := 26) rfl (hb hby d2_19) rfl (feq (by decide : ¬ ((3 : Int32) = (2 : Int32)))).2 (by decide) (by decide) kk) ?_
    show Gl p e below s _ _ _ s₁ (mkF m 26 #[.val (.int (3 : Int32))] [])
    obtain ⟨T4, X4, e4, st4⟩ := getS2 X0 hx hZ hown (host := "") (Or.inl (hw _ (List.mem_of_getElem? (i := 11) rfl))) Via.refl e0 (Sh_SIGNATURE.ext O0.2) (g := (mkF m 26 #[.val (.int (3 : Int32))] [])) rfl (hb hby d2_26)
    refine Gl.st st4 ?_
    show Gl p e below s _ _ _ T4 (mkF m 29 #[.val (.int (3 : Int32))] [(.ref wh_SIGNATURE)])
    exact Gl.ret X4 (v := (some (.ref wh_SIGNATURE))) (fun h => by rw [Bd.returns] at h; cases h) (BodyLoose.notSynchronized Bd) (fun hr => retOut X4 hx Bd.returns rfl (Or.inr (Or.inr (Or.inr (Or.inr ⟨rfl, rfl, rfl⟩)))) (hb hby d2_29) hr) e4 ⟨by rw [hr], N0, rfl⟩ (by decide) (by decide)
theorem d4_0 : decode jdk_30_method_1_code 0 = .ok (.aload_n 0, 1) := by decide +kernel
theorem d4_1 : decode jdk_30_method_1_code 1 = .ok (.invokespecial 1, 3) := by decide +kernel
theorem d4_4 : decode jdk_30_method_1_code 4 = .ok (.return_, 1) := by decide +kernel
theorem pn_rm4 : plainName "java/lang/Record" = true := by first | (simp [plainName, overriddenIn]; done) | decide +kernel
theorem ef_rm4 (m : MethodId) (a1 : Addr) : entryFrame m #[(.ref a1)] 1 = mkF m 0 #[.val (.ref a1)] [] := by first | (simp [entryFrame, mkF, argsToLocals, Value.category]; done) | rfl
def Q_rm4 (Z : State) (a1 : Addr)  (h0 : Heap) (n0 : Nat) (v : Option Value) (h : Heap) (L : List Loc) : Prop := v = none ∧ Fr n0 L ∧ h = h0
set_option maxRecDepth 65536 in
set_option maxHeartbeats 40000000 in
theorem rm4 (l : Launch) (Z : State) (a0 : Array Value) (hw : ∀ d ∈ tables_1, d.before a0 Z = true) (ws : List Jvm.Cond) (a1 : Addr)  (h0 : Heap) (n0 : Nat) (O0 : Old Z n0 h0) :
    MetFree l (⟨"java/lang/Record", "<init>", "()V"⟩ : MethodName) (head1 (Jvm.Cond.code (⟨"java/lang/Record", "<init>", "()V"⟩ : MethodName) jdk_30_method_1_code 1 none :: ws) ({ frames := 1, cells := 0, slots := 0, locals := 12 } : Room)) (fun a U => a = #[(.ref a1)] ∧ Z.Warmed39 U.vm ∧ U.heap = h0) (fun _ _ _ _ _ => True) (fun _ U o U' => ∃ v L, o = .returned v ∧ Q_rm4 Z a1  h0 n0 v U'.heap L ∧ FrameEnd U o U' L ({ frames := 1, cells := 0, slots := 0, locals := 12 } : Room).cells ({ frames := 1, cells := 0, slots := 0, locals := 12 } : Room).slots) := by
  refine MetFree.of_bodySF (plainFor_of_name pn_rm4) hisR ?_
  intro p e s m args below meth c s₁ Bd hml0 hP hK
  obtain ⟨rfl, hZ, hh⟩ := hP
  have hx := Bd.exec
  have hby := Bd.bytes
  have hml : c.maxLocals = 1 := hml0
  have hown : s.vm.findClass "java/lang/Record" = some m.cls := findClass_of_methodNamed Bd.named
  have hnm := (name_of_methodNamed Bd.named Bd.method).1
  have X0 : Stand p l e ({ frames := 1, cells := 0, slots := 0, locals := 12 } : Room) s m #[(.ref a1)] below meth c s₁ [] 0 0 := Stand.of_body Bd
  have e0 : s₁.heap = h0 := by rw [← hh, Bd.state]; rfl
  have N0 := Fr.nil n0
  refine Gl.start (Q := Q_rm4 Z a1  h0 n0) (ef_rm4 m a1) ?_
  show Gl p e below s _ _ _ s₁ (mkF m 0 #[.val (.ref a1)] [])
  refine Gl.st (fun _ kk => XS.aloadN X0.here hx rfl (hb hby d4_0) rfl rfl kk) ?_
  show Gl p e below s _ _ _ s₁ (mkF m 1 #[.val (.ref a1)] [(.ref a1)])
  obtain ⟨T1, X1, e1, st1⟩ := initO X0 hx hZ hown (hw _ (List.mem_of_getElem? (i := 25) rfl)) (hw _ (List.mem_of_getElem? (i := 26) rfl)) (hw _ (List.mem_of_getElem? (i := 27) rfl)) e0 (g := (mkF m 1 #[.val (.ref a1)] [(.ref a1)])) rfl (by rw [hml]; rfl) rfl (hb hby d4_1) (by decide) (W := 0) (by show 2 * 0 + _ ≤ _; exact Nat.le_of_eq rfl) (by decide)
  refine Gl.st st1 ?_
  show Gl p e below s _ _ _ T1 (mkF m 4 #[.val (.ref a1)] [])
  exact Gl.ret X1 (v := none) (fun _ => rfl) (BodyLoose.notSynchronized Bd) (fun hr => X1.returnOut hx Bd.returns (hb hby d4_4) hr) e1 ⟨rfl, N0, rfl⟩ (by decide) (by decide)
theorem d6_0 : decode prog_10_method_5_code 0 = .ok (.aload_n 0, 1) := by decide +kernel
theorem d6_1 : decode prog_10_method_5_code 1 = .ok (.getfield 57, 3) := by decide +kernel
theorem d6_4 : decode prog_10_method_5_code 4 = .ok (.ireturn, 1) := by decide +kernel
theorem pn_rm6 : plainName "io/github/countersign/Refusal" = true := by first | (simp [plainName, overriddenIn]; done) | decide +kernel
theorem ef_rm6 (m : MethodId) (a1 : Addr) : entryFrame m #[(.ref a1)] 1 = mkF m 0 #[.val (.ref a1)] [] := by first | (simp [entryFrame, mkF, argsToLocals, Value.category]; done) | rfl
def Q_rm6 (Z : State) (a1 : Addr) (z : Int32) (h0 : Heap) (n0 : Nat) (v : Option Value) (h : Heap) (L : List Loc) : Prop := v = some (.int z) ∧ Fr n0 L ∧ h = h0
set_option maxRecDepth 65536 in
set_option maxHeartbeats 40000000 in
theorem rm6 (l : Launch) (Z : State) (a0 : Array Value) (hw : ∀ d ∈ tables_1, d.before a0 Z = true) (ws : List Jvm.Cond) (a1 : Addr) (z : Int32) (h0 : Heap) (n0 : Nat) (O0 : Old Z n0 h0) (F1 : Fld Z Z.heap a1 "io/github/countersign/Refusal" "namesHeader" "Z" (.int z)) (hz : z = 0 ∨ z = 1) :
    MetFree l (⟨"io/github/countersign/Refusal", "namesHeader", "()Z"⟩ : MethodName) (head1 (Jvm.Cond.code (⟨"io/github/countersign/Refusal", "namesHeader", "()Z"⟩ : MethodName) prog_10_method_5_code 1 (some .boolean) :: ws) ({ frames := 0, cells := 0, slots := 0, locals := 0 } : Room)) (fun a U => a = #[(.ref a1)] ∧ Z.Warmed39 U.vm ∧ U.heap = h0) (fun _ _ _ _ _ => True) (fun _ U o U' => ∃ v L, o = .returned v ∧ Q_rm6 Z a1 z h0 n0 v U'.heap L ∧ FrameEnd U o U' L ({ frames := 0, cells := 0, slots := 0, locals := 0 } : Room).cells ({ frames := 0, cells := 0, slots := 0, locals := 0 } : Room).slots) := by
  refine MetFree.of_bodySF (plainFor_of_name pn_rm6) hisR ?_
  intro p e s m args below meth c s₁ Bd hml0 hP hK
  obtain ⟨rfl, hZ, hh⟩ := hP
  have hx := Bd.exec
  have hby := Bd.bytes
  have hml : c.maxLocals = 1 := hml0
  have hown : s.vm.findClass "io/github/countersign/Refusal" = some m.cls := findClass_of_methodNamed Bd.named
  have hnm := (name_of_methodNamed Bd.named Bd.method).1
  have X0 : Stand p l e ({ frames := 0, cells := 0, slots := 0, locals := 0 } : Room) s m #[(.ref a1)] below meth c s₁ [] 0 0 := Stand.of_body Bd
  have e0 : s₁.heap = h0 := by rw [← hh, Bd.state]; rfl
  have N0 := Fr.nil n0
  refine Gl.start (Q := Q_rm6 Z a1 z h0 n0) (ef_rm6 m a1) ?_
  show Gl p e below s _ _ _ s₁ (mkF m 0 #[.val (.ref a1)] [])
  refine Gl.st (fun _ kk => XS.aloadN X0.here hx rfl (hb hby d6_0) rfl rfl kk) ?_
  show Gl p e below s _ _ _ s₁ (mkF m 1 #[.val (.ref a1)] [(.ref a1)])
  obtain ⟨T1, X1, e1, st1⟩ := getF X0 hx hZ hown (host := "") (Or.inl (hw _ (List.mem_of_getElem? (i := 33) rfl))) Via.refl e0 (F1.ext O0.2) (g := (mkF m 1 #[.val (.ref a1)] [(.ref a1)])) rfl rfl (hb hby d6_1)
  refine Gl.st st1 ?_
  show Gl p e below s _ _ _ T1 (mkF m 4 #[.val (.ref a1)] [(.int z)])
  rcases hz with rfl | rfl
  · skip
    show Gl p e below s _ _ _ T1 (mkF m 4 #[.val (.ref a1)] [(.int (0 : Int32))])
    exact Gl.ret X1 (v := (some (.int (0 : Int32)))) (fun h => by rw [Bd.returns] at h; cases h) (BodyLoose.notSynchronized Bd) (fun hr => retN X1 hx (t := .boolean) Bd.returns (by simp) (hb hby d6_4) hr) e1 ⟨rfl, N0, rfl⟩ (by decide) (by decide)
  · skip
    show Gl p e below s _ _ _ T1 (mkF m 4 #[.val (.ref a1)] [(.int (1 : Int32))])
    exact Gl.ret X1 (v := (some (.int (1 : Int32)))) (fun h => by rw [Bd.returns] at h; cases h) (BodyLoose.notSynchronized Bd) (fun hr => retN X1 hx (t := .boolean) Bd.returns (by simp) (hb hby d6_4) hr) e1 ⟨rfl, N0, rfl⟩ (by decide) (by decide)
theorem d3_0 : decode prog_22_method_1_code 0 = .ok (.aload_n 0, 1) := by decide +kernel
theorem d3_1 : decode prog_22_method_1_code 1 = .ok (.invokespecial 1, 3) := by decide +kernel
theorem d3_4 : decode prog_22_method_1_code 4 = .ok (.aload_n 1, 1) := by decide +kernel
theorem d3_5 : decode prog_22_method_1_code 5 = .ok (.ifnull 14, 3) := by decide +kernel
theorem d3_19 : decode prog_22_method_1_code 19 = .ok (.iconst 0, 1) := by decide +kernel
theorem d3_20 : decode prog_22_method_1_code 20 = .ok (.istore_n 3, 1) := by decide +kernel
theorem d3_21 : decode prog_22_method_1_code 21 = .ok (.iload_n 3, 1) := by decide +kernel
theorem d3_22 : decode prog_22_method_1_code 22 = .ok (.aload_n 2, 1) := by decide +kernel
theorem d3_23 : decode prog_22_method_1_code 23 = .ok (.ifnull 7, 3) := by decide +kernel
theorem d3_30 : decode prog_22_method_1_code 30 = .ok (.iconst 0, 1) := by decide +kernel
theorem d3_31 : decode prog_22_method_1_code 31 = .ok (.if_icmp .eq 29, 3) := by decide +kernel
theorem d3_60 : decode prog_22_method_1_code 60 = .ok (.aload_n 0, 1) := by decide +kernel
theorem d3_61 : decode prog_22_method_1_code 61 = .ok (.aload_n 1, 1) := by decide +kernel
theorem d3_62 : decode prog_22_method_1_code 62 = .ok (.putfield 30, 3) := by decide +kernel
theorem d3_65 : decode prog_22_method_1_code 65 = .ok (.aload_n 0, 1) := by decide +kernel
theorem d3_66 : decode prog_22_method_1_code 66 = .ok (.aload_n 2, 1) := by decide +kernel
theorem d3_67 : decode prog_22_method_1_code 67 = .ok (.putfield 36, 3) := by decide +kernel
theorem d3_70 : decode prog_22_method_1_code 70 = .ok (.return_, 1) := by decide +kernel
theorem pd_rm3n_0 : parseMethodDescriptor "()V" = some ⟨[], none⟩ := by decide +kernel
theorem pn_rm3n : plainName "io/github/countersign/Verdict" = true := by first | (simp [plainName, overriddenIn]; done) | decide +kernel
theorem ef_rm3n (m : MethodId) (a1 : Addr) : entryFrame m #[(.ref a1), .null, .null] 4 = mkF m 0 #[.val (.ref a1), .val .null, .val .null, .unset] [] := by first | (simp [entryFrame, mkF, argsToLocals, Value.category]; done) | rfl
def Q_rm3n (Z : State) (a1 : Addr)  (h0 : Heap) (n0 : Nat) (v : Option Value) (h : Heap) (L : List Loc) : Prop := v = none ∧ Fr n0 L ∧ Keep h0 h [a1] ∧ Exa Z h a1 "io/github/countersign/Verdict" ∧ Fld Z h a1 "io/github/countersign/Verdict" "refusal" "Lio/github/countersign/Refusal;" .null
set_option maxRecDepth 65536 in
set_option maxHeartbeats 40000000 in
theorem rm3n (l : Launch) (Z : State) (a0 : Array Value) (hw : ∀ d ∈ tables_1, d.before a0 Z = true) (ws : List Jvm.Cond) (a1 : Addr)  (h0 : Heap) (n0 : Nat) (O0 : Old Z n0 h0) (Exa_a1 : Exa Z h0 a1 "io/github/countersign/Verdict") (F_refusal_a1 : Fld Z h0 a1 "io/github/countersign/Verdict" "refusal" "Lio/github/countersign/Refusal;" .null) (F_header_a1 : Fld Z h0 a1 "io/github/countersign/Verdict" "header" "Lio/github/countersign/Header;" .null) (g1 : n0 ≤ a1) :
    MetFree l (⟨"io/github/countersign/Verdict", "<init>", "(Lio/github/countersign/Refusal;Lio/github/countersign/Header;)V"⟩ : MethodName) (head1 (Jvm.Cond.code (⟨"io/github/countersign/Verdict", "<init>", "(Lio/github/countersign/Refusal;Lio/github/countersign/Header;)V"⟩ : MethodName) prog_22_method_1_code 4 none :: ws) ({ frames := 2, cells := 0, slots := 0, locals := 24 } : Room)) (fun a U => a = #[(.ref a1), .null, .null] ∧ Z.Warmed39 U.vm ∧ U.heap = h0) (fun _ _ _ _ _ => True) (fun _ U o U' => ∃ v L, o = .returned v ∧ Q_rm3n Z a1  h0 n0 v U'.heap L ∧ FrameEnd U o U' L ({ frames := 2, cells := 0, slots := 0, locals := 24 } : Room).cells ({ frames := 2, cells := 0, slots := 0, locals := 24 } : Room).slots) := by
  refine MetFree.of_bodySF (plainFor_of_name pn_rm3n) hisR ?_
  intro p e s m args below meth c s₁ Bd hml0 hP hK
  obtain ⟨rfl, hZ, hh⟩ := hP
  have hx := Bd.exec
  have hby := Bd.bytes
  have hml : c.maxLocals = 4 := hml0
  have hown : s.vm.findClass "io/github/countersign/Verdict" = some m.cls := findClass_of_methodNamed Bd.named
  have hnm := (name_of_methodNamed Bd.named Bd.method).1
  have X0 : Stand p l e ({ frames := 2, cells := 0, slots := 0, locals := 24 } : Room) s m #[(.ref a1), .null, .null] below meth c s₁ [] 0 0 := Stand.of_body Bd
  have e0 : s₁.heap = h0 := by rw [← hh, Bd.state]; rfl
  have N0 := Fr.nil n0
  refine Gl.start (Q := Q_rm3n Z a1  h0 n0) (ef_rm3n m a1) ?_
  show Gl p e below s _ _ _ s₁ (mkF m 0 #[.val (.ref a1), .val .null, .val .null, .unset] [])
  refine Gl.st (fun _ kk => XS.aloadN X0.here hx rfl (hb hby d3_0) rfl rfl kk) ?_
  show Gl p e below s _ _ _ s₁ (mkF m 1 #[.val (.ref a1), .val .null, .val .null, .unset] [(.ref a1)])
  obtain ⟨_, _, ⟨T1, L1, k1, n1⟩, -, X1, ⟨Lc1, hQ1, l1, y1, z1⟩, st1⟩ := X0.specialBack hx (y := (⟨"java/lang/Record", "<init>", "()V"⟩ : MethodName)) rfl hown (mvT hZ (hw _ (List.mem_of_getElem? (i := 20) rfl))) (mvT hZ (hw _ (List.mem_of_getElem? (i := 21) rfl))) (mvT hZ (hw _ (List.mem_of_getElem? (i := 24) rfl))) (by decide) (backOf (W := 0) (rm4 l Z a0 hw [] a1 h0 n0 O0) hZ (hw _ (List.mem_of_getElem? (i := 24) rfl)) (hw _ (List.mem_of_getElem? (i := 23) rfl)) (by decide) (by decide)) (g := (mkF m 1 #[.val (.ref a1), .val .null, .val .null, .unset] [(.ref a1)])) rfl (by rw [hml]; rfl) (Steps.refl _) (a := a1) (argsL := []) (rest := []) (lenOf pd_rm3n_0 rfl) rfl (by show 2 * 0 + _ ≤ _; exact Nat.le_of_eq rfl) (hb hby d3_1) (fun _ _ => ⟨rfl, e0, (by decide : 0 + 0 ≤ _), (by decide : 0 + 0 ≤ _)⟩)
  dsimp only [Pt.U, Pt.locs, Pt.cells, Pt.slots] at X1 l1 y1 z1 st1 hQ1
  subst l1 y1 z1
  obtain ⟨rfl, Nq1, e1⟩ := hQ1
  have N1 := Fr.app N0 Nq1
  refine Gl.st (fun _ kk => st1.trans kk) ?_
  show Gl p e below s _ _ _ T1 (mkF m 4 #[.val (.ref a1), .val .null, .val .null, .unset] [])
  refine Gl.st (fun _ kk => XS.aloadN X1.here hx rfl (hb hby d3_4) rfl rfl kk) ?_
  show Gl p e below s _ _ _ T1 (mkF m 5 #[.val (.ref a1), .val .null, .val .null, .unset] [.null])
  refine Gl.st (fun _ kk => XS.ifnullYes X1.here hx rfl (pc0 := 5) (pc' := 19) rfl (hb hby d3_5) rfl (by decide) (by decide) kk) ?_
  show Gl p e below s _ _ _ T1 (mkF m 19 #[.val (.ref a1), .val .null, .val .null, .unset] [])
  refine Gl.st (fun _ kk => XS.iconst X1.here hx rfl (hb hby d3_19) kk) ?_
  show Gl p e below s _ _ _ T1 (mkF m 20 #[.val (.ref a1), .val .null, .val .null, .unset] [(.int (0 : Int32))])
  refine Gl.st (fun _ kk => XS.istoreN X1.here hx rfl (hb hby d3_20) rfl (l' := #[.val (.ref a1), .val .null, .val .null, .val (.int (0 : Int32))]) rfl kk) ?_
  show Gl p e below s _ _ _ T1 (mkF m 21 #[.val (.ref a1), .val .null, .val .null, .val (.int (0 : Int32))] [])
  refine Gl.st (fun _ kk => XS.iloadN X1.here hx rfl (hb hby d3_21) rfl kk) ?_
  show Gl p e below s _ _ _ T1 (mkF m 22 #[.val (.ref a1), .val .null, .val .null, .val (.int (0 : Int32))] [(.int (0 : Int32))])
  refine Gl.st (fun _ kk => XS.aloadN X1.here hx rfl (hb hby d3_22) rfl rfl kk) ?_
  show Gl p e below s _ _ _ T1 (mkF m 23 #[.val (.ref a1), .val .null, .val .null, .val (.int (0 : Int32))] [.null, (.int (0 : Int32))])
  refine Gl.st (fun _ kk => XS.ifnullYes X1.here hx rfl (pc0 := 23) (pc' := 30) rfl (hb hby d3_23) rfl (by decide) (by decide) kk) ?_
  show Gl p e below s _ _ _ T1 (mkF m 30 #[.val (.ref a1), .val .null, .val .null, .val (.int (0 : Int32))] [(.int (0 : Int32))])
  refine Gl.st (fun _ kk => XS.iconst X1.here hx rfl (hb hby d3_30) kk) ?_
  show Gl p e below s _ _ _ T1 (mkF m 31 #[.val (.ref a1), .val .null, .val .null, .val (.int (0 : Int32))] [(.int (0 : Int32)), (.int (0 : Int32))])
  refine Gl.st (fun _ kk => XS.icmpYes X1.here hx rfl (pc0 := 31) (pc' := 60) rfl (hb hby d3_31) rfl (teq (by decide : (0 : Int32) = (0 : Int32))).1 (by decide) (by decide) kk) ?_
  show Gl p e below s _ _ _ T1 (mkF m 60 #[.val (.ref a1), .val .null, .val .null, .val (.int (0 : Int32))] [])
  refine Gl.st (fun _ kk => XS.aloadN X1.here hx rfl (hb hby d3_60) rfl rfl kk) ?_
  show Gl p e below s _ _ _ T1 (mkF m 61 #[.val (.ref a1), .val .null, .val .null, .val (.int (0 : Int32))] [(.ref a1)])
  refine Gl.st (fun _ kk => XS.aloadN X1.here hx rfl (hb hby d3_61) rfl rfl kk) ?_
  show Gl p e below s _ _ _ T1 (mkF m 62 #[.val (.ref a1), .val .null, .val .null, .val (.int (0 : Int32))] [.null, (.ref a1)])
  obtain ⟨T2, h2, X2, e2, W2, st2⟩ := putF X1 hx hZ hown (host := "") (Or.inl (hw _ (List.mem_of_getElem? (i := 35) rfl))) Via.refl e1 F_refusal_a1 Exa_a1 (Or.inr ⟨(hw _ (List.mem_of_getElem? (i := 36) rfl)), rfl, hnm⟩) (hw _ (List.mem_of_getElem? (i := 15) rfl)) (ty := (.object "io/github/countersign/Refusal")) (by decide) rfl rfl (g := (mkF m 62 #[.val (.ref a1), .val .null, .val .null, .val (.int (0 : Int32))] [.null, (.ref a1)])) rfl rfl (hb hby d3_62)
  refine Gl.st st2 ?_
  have F_refusal_a1 := F_refusal_a1.same W2
  have Exa_a1 := Exa_a1.wr W2
  have F_header_a1 := F_header_a1.other W2 (Or.inr (slot_ne (Or.inr (hw _ (List.mem_of_getElem? (i := 38) rfl))) (Or.inr (hw _ (List.mem_of_getElem? (i := 36) rfl))) (by decide) (t := (.object "io/github/countersign/Header")) (t' := (.object "io/github/countersign/Refusal")) (by decide) (by decide)))
  have O2 := O0.wr W2 g1
  have K2 := (Keep.refl h0 [a1]).wr W2 (Or.inl (List.mem_of_getElem? (i := 0) rfl))
  have N2 := Fr.snoc X2 N1 g1
  show Gl p e below s _ _ _ T2 (mkF m 65 #[.val (.ref a1), .val .null, .val .null, .val (.int (0 : Int32))] [])
  refine Gl.st (fun _ kk => XS.aloadN X2.here hx rfl (hb hby d3_65) rfl rfl kk) ?_
  show Gl p e below s _ _ _ T2 (mkF m 66 #[.val (.ref a1), .val .null, .val .null, .val (.int (0 : Int32))] [(.ref a1)])
  refine Gl.st (fun _ kk => XS.aloadN X2.here hx rfl (hb hby d3_66) rfl rfl kk) ?_
  show Gl p e below s _ _ _ T2 (mkF m 67 #[.val (.ref a1), .val .null, .val .null, .val (.int (0 : Int32))] [.null, (.ref a1)])
  obtain ⟨T3, h3, X3, e3, W3, st3⟩ := putF X2 hx hZ hown (host := "") (Or.inl (hw _ (List.mem_of_getElem? (i := 37) rfl))) Via.refl e2 F_header_a1 Exa_a1 (Or.inr ⟨(hw _ (List.mem_of_getElem? (i := 38) rfl)), rfl, hnm⟩) (hw _ (List.mem_of_getElem? (i := 15) rfl)) (ty := (.object "io/github/countersign/Header")) (by decide) rfl rfl (g := (mkF m 67 #[.val (.ref a1), .val .null, .val .null, .val (.int (0 : Int32))] [.null, (.ref a1)])) rfl rfl (hb hby d3_67)
  refine Gl.st st3 ?_
  have F_header_a1 := F_header_a1.same W3
  have Exa_a1 := Exa_a1.wr W3
  have F_refusal_a1 := F_refusal_a1.other W3 (Or.inr (slot_ne (Or.inr (hw _ (List.mem_of_getElem? (i := 36) rfl))) (Or.inr (hw _ (List.mem_of_getElem? (i := 38) rfl))) (by decide) (t := (.object "io/github/countersign/Refusal")) (t' := (.object "io/github/countersign/Header")) (by decide) (by decide)))
  have O3 := O2.wr W3 g1
  have K3 := K2.wr W3 (Or.inl (List.mem_of_getElem? (i := 0) rfl))
  have N3 := Fr.snoc X3 N2 g1
  show Gl p e below s _ _ _ T3 (mkF m 70 #[.val (.ref a1), .val .null, .val .null, .val (.int (0 : Int32))] [])
  exact Gl.ret X3 (v := none) (fun _ => rfl) (BodyLoose.notSynchronized Bd) (fun hr => X3.returnOut hx Bd.returns (hb hby d3_70) hr) e3 ⟨rfl, N3, K3, Exa_a1, F_refusal_a1⟩ (by decide) (by decide)
theorem d3_8 : decode prog_22_method_1_code 8 = .ok (.aload_n 1, 1) := by decide +kernel
theorem d3_9 : decode prog_22_method_1_code 9 = .ok (.invokevirtual 7, 3) := by decide +kernel
theorem d3_12 : decode prog_22_method_1_code 12 = .ok (.ifCond .eq 7, 3) := by decide +kernel
theorem pd_rm3o_0 : parseMethodDescriptor "()V" = some ⟨[], none⟩ := by decide +kernel
theorem pd_rm3o_1 : parseMethodDescriptor "()Z" = some ⟨[], some .boolean⟩ := by decide +kernel
theorem pn_rm3o : plainName "io/github/countersign/Verdict" = true := by first | (simp [plainName, overriddenIn]; done) | decide +kernel
theorem ef_rm3o (m : MethodId) (a1 : Addr) (a2 : Addr) : entryFrame m #[(.ref a1), (.ref a2), .null] 4 = mkF m 0 #[.val (.ref a1), .val (.ref a2), .val .null, .unset] [] := by first | (simp [entryFrame, mkF, argsToLocals, Value.category]; done) | rfl
def Q_rm3o (Z : State) (a1 : Addr) (a2 : Addr)  (h0 : Heap) (n0 : Nat) (v : Option Value) (h : Heap) (L : List Loc) : Prop := v = none ∧ Fr n0 L ∧ Keep h0 h [a1] ∧ Exa Z h a1 "io/github/countersign/Verdict" ∧ Fld Z h a1 "io/github/countersign/Verdict" "refusal" "Lio/github/countersign/Refusal;" (.ref a2)
set_option maxRecDepth 65536 in
set_option maxHeartbeats 40000000 in
theorem rm3o (l : Launch) (Z : State) (a0 : Array Value) (hw : ∀ d ∈ tables_1, d.before a0 Z = true) (ws : List Jvm.Cond) (a1 : Addr) (a2 : Addr)  (h0 : Heap) (n0 : Nat) (O0 : Old Z n0 h0) (Exa_a1 : Exa Z h0 a1 "io/github/countersign/Verdict") (F_refusal_a1 : Fld Z h0 a1 "io/github/countersign/Verdict" "refusal" "Lio/github/countersign/Refusal;" .null) (F_header_a1 : Fld Z h0 a1 "io/github/countersign/Verdict" "header" "Lio/github/countersign/Header;" .null) (g1 : n0 ≤ a1) (ER : Exa Z Z.heap a2 "io/github/countersign/Refusal") (FR : Fld Z Z.heap a2 "io/github/countersign/Refusal" "namesHeader" "Z" (.int 0)) :
    MetFree l (⟨"io/github/countersign/Verdict", "<init>", "(Lio/github/countersign/Refusal;Lio/github/countersign/Header;)V"⟩ : MethodName) (head1 (Jvm.Cond.code (⟨"io/github/countersign/Verdict", "<init>", "(Lio/github/countersign/Refusal;Lio/github/countersign/Header;)V"⟩ : MethodName) prog_22_method_1_code 4 none :: ws) ({ frames := 2, cells := 0, slots := 0, locals := 24 } : Room)) (fun a U => a = #[(.ref a1), (.ref a2), .null] ∧ Z.Warmed39 U.vm ∧ U.heap = h0) (fun _ _ _ _ _ => True) (fun _ U o U' => ∃ v L, o = .returned v ∧ Q_rm3o Z a1 a2  h0 n0 v U'.heap L ∧ FrameEnd U o U' L ({ frames := 2, cells := 0, slots := 0, locals := 24 } : Room).cells ({ frames := 2, cells := 0, slots := 0, locals := 24 } : Room).slots) := by
  refine MetFree.of_bodySF (plainFor_of_name pn_rm3o) hisR ?_
  intro p e s m args below meth c s₁ Bd hml0 hP hK
  obtain ⟨rfl, hZ, hh⟩ := hP
  have hx := Bd.exec
  have hby := Bd.bytes
  have hml : c.maxLocals = 4 := hml0
  have hown : s.vm.findClass "io/github/countersign/Verdict" = some m.cls := findClass_of_methodNamed Bd.named
  have hnm := (name_of_methodNamed Bd.named Bd.method).1
  have X0 : Stand p l e ({ frames := 2, cells := 0, slots := 0, locals := 24 } : Room) s m #[(.ref a1), (.ref a2), .null] below meth c s₁ [] 0 0 := Stand.of_body Bd
  have e0 : s₁.heap = h0 := by rw [← hh, Bd.state]; rfl
  have N0 := Fr.nil n0
  refine Gl.start (Q := Q_rm3o Z a1 a2  h0 n0) (ef_rm3o m a1 a2) ?_
  show Gl p e below s _ _ _ s₁ (mkF m 0 #[.val (.ref a1), .val (.ref a2), .val .null, .unset] [])
  refine Gl.st (fun _ kk => XS.aloadN X0.here hx rfl (hb hby d3_0) rfl rfl kk) ?_
  show Gl p e below s _ _ _ s₁ (mkF m 1 #[.val (.ref a1), .val (.ref a2), .val .null, .unset] [(.ref a1)])
  obtain ⟨_, _, ⟨T1, L1, k1, n1⟩, -, X1, ⟨Lc1, hQ1, l1, y1, z1⟩, st1⟩ := X0.specialBack hx (y := (⟨"java/lang/Record", "<init>", "()V"⟩ : MethodName)) rfl hown (mvT hZ (hw _ (List.mem_of_getElem? (i := 20) rfl))) (mvT hZ (hw _ (List.mem_of_getElem? (i := 21) rfl))) (mvT hZ (hw _ (List.mem_of_getElem? (i := 24) rfl))) (by decide) (backOf (W := 0) (rm4 l Z a0 hw [] a1 h0 n0 O0) hZ (hw _ (List.mem_of_getElem? (i := 24) rfl)) (hw _ (List.mem_of_getElem? (i := 23) rfl)) (by decide) (by decide)) (g := (mkF m 1 #[.val (.ref a1), .val (.ref a2), .val .null, .unset] [(.ref a1)])) rfl (by rw [hml]; rfl) (Steps.refl _) (a := a1) (argsL := []) (rest := []) (lenOf pd_rm3o_0 rfl) rfl (by show 2 * 0 + _ ≤ _; exact Nat.le_of_eq rfl) (hb hby d3_1) (fun _ _ => ⟨rfl, e0, (by decide : 0 + 0 ≤ _), (by decide : 0 + 0 ≤ _)⟩)
  dsimp only [Pt.U, Pt.locs, Pt.cells, Pt.slots] at X1 l1 y1 z1 st1 hQ1
  subst l1 y1 z1
  obtain ⟨rfl, Nq1, e1⟩ := hQ1
  have N1 := Fr.app N0 Nq1
  refine Gl.st (fun _ kk => st1.trans kk) ?_
  show Gl p e below s _ _ _ T1 (mkF m 4 #[.val (.ref a1), .val (.ref a2), .val .null, .unset] [])
  refine Gl.st (fun _ kk => XS.aloadN X1.here hx rfl (hb hby d3_4) rfl rfl kk) ?_
  show Gl p e below s _ _ _ T1 (mkF m 5 #[.val (.ref a1), .val (.ref a2), .val .null, .unset] [(.ref a2)])
  refine Gl.st (fun _ kk => XS.ifnullNo X1.here hx rfl (hb hby d3_5) rfl kk) ?_
  show Gl p e below s _ _ _ T1 (mkF m 8 #[.val (.ref a1), .val (.ref a2), .val .null, .unset] [])
  refine Gl.st (fun _ kk => XS.aloadN X1.here hx rfl (hb hby d3_8) rfl rfl kk) ?_
  show Gl p e below s _ _ _ T1 (mkF m 9 #[.val (.ref a1), .val (.ref a2), .val .null, .unset] [(.ref a2)])
  obtain ⟨cq2, kq2, qa2, qb2, qc2⟩ := isOf hZ e1 (ER.ext O0.2)
  obtain ⟨_, _, ⟨T2, L2, k2, n2⟩, -, X2, ⟨Lc2, hQ2, l2, y2, z2⟩, st2⟩ := X1.virtualBack hx (y := (⟨"io/github/countersign/Refusal", "namesHeader", "()Z"⟩ : MethodName)) (z := (⟨"io/github/countersign/Refusal", "namesHeader", "()Z"⟩ : MethodName)) hown (mvT hZ (hw _ (List.mem_of_getElem? (i := 28) rfl))) (mvT hZ (hw _ (List.mem_of_getElem? (i := 29) rfl))) (notFace_of_selects (args := #[]) (mvT hZ (hw _ (List.mem_of_getElem? (i := 31) rfl)))) (mvT hZ (hw _ (List.mem_of_getElem? (i := 31) rfl))) (mvT hZ (hw _ (List.mem_of_getElem? (i := 30) rfl))) (by decide) (backOf (W := 0) (rm6 l Z a0 hw [] a2 0 h0 n0 O0 FR (by decide)) hZ (hw _ (List.mem_of_getElem? (i := 32) rfl)) (hw _ (List.mem_of_getElem? (i := 6) rfl)) (by decide) (by decide)) qa2 qc2 (g := (mkF m 9 #[.val (.ref a1), .val (.ref a2), .val .null, .unset] [(.ref a2)])) rfl (by rw [hml]; rfl) (Steps.refl _) (argsL := []) (rest := []) (lenOf pd_rm3o_1 rfl) rfl (by show 2 * 0 + _ ≤ _; exact Nat.le_of_eq rfl) (hb hby d3_9) (fun _ _ => ⟨rfl, e1, (by decide : 0 + 0 ≤ _), (by decide : 0 + 0 ≤ _)⟩)
  dsimp only [Pt.U, Pt.locs, Pt.cells, Pt.slots] at X2 l2 y2 z2 st2 hQ2
  subst l2 y2 z2
  obtain ⟨rfl, Nq2, e2⟩ := hQ2
  have N2 := Fr.app N1 Nq2
  refine Gl.st (fun _ kk => st2.trans kk) ?_
  show Gl p e below s _ _ _ T2 (mkF m 12 #[.val (.ref a1), .val (.ref a2), .val .null, .unset] [(.int (0 : Int32))])
  refine Gl.st (fun _ kk => XS.ifYes X2.here hx rfl (pc0 := 12) (pc' := 19) rfl (hb hby d3_12) rfl ((if0 _ _).trans (teq (by decide : (0 : Int32) = (0 : Int32))).1) (by decide) (by decide) kk) ?_
  show Gl p e below s _ _ _ T2 (mkF m 19 #[.val (.ref a1), .val (.ref a2), .val .null, .unset] [])
  refine Gl.st (fun _ kk => XS.iconst X2.here hx rfl (hb hby d3_19) kk) ?_
  show Gl p e below s _ _ _ T2 (mkF m 20 #[.val (.ref a1), .val (.ref a2), .val .null, .unset] [(.int (0 : Int32))])
  refine Gl.st (fun _ kk => XS.istoreN X2.here hx rfl (hb hby d3_20) rfl (l' := #[.val (.ref a1), .val (.ref a2), .val .null, .val (.int (0 : Int32))]) rfl kk) ?_
  show Gl p e below s _ _ _ T2 (mkF m 21 #[.val (.ref a1), .val (.ref a2), .val .null, .val (.int (0 : Int32))] [])
  refine Gl.st (fun _ kk => XS.iloadN X2.here hx rfl (hb hby d3_21) rfl kk) ?_
  show Gl p e below s _ _ _ T2 (mkF m 22 #[.val (.ref a1), .val (.ref a2), .val .null, .val (.int (0 : Int32))] [(.int (0 : Int32))])
  refine Gl.st (fun _ kk => XS.aloadN X2.here hx rfl (hb hby d3_22) rfl rfl kk) ?_
  show Gl p e below s _ _ _ T2 (mkF m 23 #[.val (.ref a1), .val (.ref a2), .val .null, .val (.int (0 : Int32))] [.null, (.int (0 : Int32))])
  refine Gl.st (fun _ kk => XS.ifnullYes X2.here hx rfl (pc0 := 23) (pc' := 30) rfl (hb hby d3_23) rfl (by decide) (by decide) kk) ?_
  show Gl p e below s _ _ _ T2 (mkF m 30 #[.val (.ref a1), .val (.ref a2), .val .null, .val (.int (0 : Int32))] [(.int (0 : Int32))])
  refine Gl.st (fun _ kk => XS.iconst X2.here hx rfl (hb hby d3_30) kk) ?_
  show Gl p e below s _ _ _ T2 (mkF m 31 #[.val (.ref a1), .val (.ref a2), .val .null, .val (.int (0 : Int32))] [(.int (0 : Int32)), (.int (0 : Int32))])
  refine Gl.st (fun _ kk => XS.icmpYes X2.here hx rfl (pc0 := 31) (pc' := 60) rfl (hb hby d3_31) rfl (teq (by decide : (0 : Int32) = (0 : Int32))).1 (by decide) (by decide) kk) ?_
  show Gl p e below s _ _ _ T2 (mkF m 60 #[.val (.ref a1), .val (.ref a2), .val .null, .val (.int (0 : Int32))] [])
  refine Gl.st (fun _ kk => XS.aloadN X2.here hx rfl (hb hby d3_60) rfl rfl kk) ?_
  show Gl p e below s _ _ _ T2 (mkF m 61 #[.val (.ref a1), .val (.ref a2), .val .null, .val (.int (0 : Int32))] [(.ref a1)])
  refine Gl.st (fun _ kk => XS.aloadN X2.here hx rfl (hb hby d3_61) rfl rfl kk) ?_
  show Gl p e below s _ _ _ T2 (mkF m 62 #[.val (.ref a1), .val (.ref a2), .val .null, .val (.int (0 : Int32))] [(.ref a2), (.ref a1)])
  obtain ⟨T3, h3, X3, e3, W3, st3⟩ := putF X2 hx hZ hown (host := "") (Or.inl (hw _ (List.mem_of_getElem? (i := 35) rfl))) Via.refl e2 F_refusal_a1 Exa_a1 (Or.inr ⟨(hw _ (List.mem_of_getElem? (i := 36) rfl)), rfl, hnm⟩) (hw _ (List.mem_of_getElem? (i := 15) rfl)) (ty := (.object "io/github/countersign/Refusal")) (by decide) rfl rfl (g := (mkF m 62 #[.val (.ref a1), .val (.ref a2), .val .null, .val (.int (0 : Int32))] [(.ref a2), (.ref a1)])) rfl rfl (hb hby d3_62)
  refine Gl.st st3 ?_
  have F_refusal_a1 := F_refusal_a1.same W3
  have Exa_a1 := Exa_a1.wr W3
  have F_header_a1 := F_header_a1.other W3 (Or.inr (slot_ne (Or.inr (hw _ (List.mem_of_getElem? (i := 38) rfl))) (Or.inr (hw _ (List.mem_of_getElem? (i := 36) rfl))) (by decide) (t := (.object "io/github/countersign/Header")) (t' := (.object "io/github/countersign/Refusal")) (by decide) (by decide)))
  have O3 := O0.wr W3 g1
  have K3 := (Keep.refl h0 [a1]).wr W3 (Or.inl (List.mem_of_getElem? (i := 0) rfl))
  have N3 := Fr.snoc X3 N2 g1
  show Gl p e below s _ _ _ T3 (mkF m 65 #[.val (.ref a1), .val (.ref a2), .val .null, .val (.int (0 : Int32))] [])
  refine Gl.st (fun _ kk => XS.aloadN X3.here hx rfl (hb hby d3_65) rfl rfl kk) ?_
  show Gl p e below s _ _ _ T3 (mkF m 66 #[.val (.ref a1), .val (.ref a2), .val .null, .val (.int (0 : Int32))] [(.ref a1)])
  refine Gl.st (fun _ kk => XS.aloadN X3.here hx rfl (hb hby d3_66) rfl rfl kk) ?_
  show Gl p e below s _ _ _ T3 (mkF m 67 #[.val (.ref a1), .val (.ref a2), .val .null, .val (.int (0 : Int32))] [.null, (.ref a1)])
  obtain ⟨T4, h4, X4, e4, W4, st4⟩ := putF X3 hx hZ hown (host := "") (Or.inl (hw _ (List.mem_of_getElem? (i := 37) rfl))) Via.refl e3 F_header_a1 Exa_a1 (Or.inr ⟨(hw _ (List.mem_of_getElem? (i := 38) rfl)), rfl, hnm⟩) (hw _ (List.mem_of_getElem? (i := 15) rfl)) (ty := (.object "io/github/countersign/Header")) (by decide) rfl rfl (g := (mkF m 67 #[.val (.ref a1), .val (.ref a2), .val .null, .val (.int (0 : Int32))] [.null, (.ref a1)])) rfl rfl (hb hby d3_67)
  refine Gl.st st4 ?_
  have F_header_a1 := F_header_a1.same W4
  have Exa_a1 := Exa_a1.wr W4
  have F_refusal_a1 := F_refusal_a1.other W4 (Or.inr (slot_ne (Or.inr (hw _ (List.mem_of_getElem? (i := 36) rfl))) (Or.inr (hw _ (List.mem_of_getElem? (i := 38) rfl))) (by decide) (t := (.object "io/github/countersign/Refusal")) (t' := (.object "io/github/countersign/Header")) (by decide) (by decide)))
  have O4 := O3.wr W4 g1
  have K4 := K3.wr W4 (Or.inl (List.mem_of_getElem? (i := 0) rfl))
  have N4 := Fr.snoc X4 N3 g1
  show Gl p e below s _ _ _ T4 (mkF m 70 #[.val (.ref a1), .val (.ref a2), .val .null, .val (.int (0 : Int32))] [])
  exact Gl.ret X4 (v := none) (fun _ => rfl) (BodyLoose.notSynchronized Bd) (fun hr => X4.returnOut hx Bd.returns (hb hby d3_70) hr) e4 ⟨rfl, N4, K4, Exa_a1, F_refusal_a1⟩ (by decide) (by decide)
theorem d3_15 : decode prog_22_method_1_code 15 = .ok (.iconst 1, 1) := by decide +kernel
theorem d3_16 : decode prog_22_method_1_code 16 = .ok (.goto 4, 3) := by decide +kernel
theorem d3_26 : decode prog_22_method_1_code 26 = .ok (.iconst 1, 1) := by decide +kernel
theorem d3_27 : decode prog_22_method_1_code 27 = .ok (.goto 4, 3) := by decide +kernel
theorem pd_rm3h_0 : parseMethodDescriptor "()V" = some ⟨[], none⟩ := by decide +kernel
theorem pd_rm3h_1 : parseMethodDescriptor "()Z" = some ⟨[], some .boolean⟩ := by decide +kernel
theorem pn_rm3h : plainName "io/github/countersign/Verdict" = true := by first | (simp [plainName, overriddenIn]; done) | decide +kernel
theorem ef_rm3h (m : MethodId) (a1 : Addr) (a2 : Addr) (a3 : Addr) : entryFrame m #[(.ref a1), (.ref a2), (.ref a3)] 4 = mkF m 0 #[.val (.ref a1), .val (.ref a2), .val (.ref a3), .unset] [] := by first | (simp [entryFrame, mkF, argsToLocals, Value.category]; done) | rfl
def Q_rm3h (Z : State) (a1 : Addr) (a2 : Addr) (a3 : Addr)  (h0 : Heap) (n0 : Nat) (v : Option Value) (h : Heap) (L : List Loc) : Prop := v = none ∧ Fr n0 L ∧ Keep h0 h [a1] ∧ Exa Z h a1 "io/github/countersign/Verdict" ∧ Fld Z h a1 "io/github/countersign/Verdict" "refusal" "Lio/github/countersign/Refusal;" (.ref a2)
set_option maxRecDepth 65536 in
set_option maxHeartbeats 40000000 in
theorem rm3h (l : Launch) (Z : State) (a0 : Array Value) (hw : ∀ d ∈ tables_1, d.before a0 Z = true) (ws : List Jvm.Cond) (a1 : Addr) (a2 : Addr) (a3 : Addr)  (h0 : Heap) (n0 : Nat) (O0 : Old Z n0 h0) (Exa_a1 : Exa Z h0 a1 "io/github/countersign/Verdict") (F_refusal_a1 : Fld Z h0 a1 "io/github/countersign/Verdict" "refusal" "Lio/github/countersign/Refusal;" .null) (F_header_a1 : Fld Z h0 a1 "io/github/countersign/Verdict" "header" "Lio/github/countersign/Header;" .null) (g1 : n0 ≤ a1) (ER : Exa Z Z.heap a2 "io/github/countersign/Refusal") (FR : Fld Z Z.heap a2 "io/github/countersign/Refusal" "namesHeader" "Z" (.int 1)) :
    MetFree l (⟨"io/github/countersign/Verdict", "<init>", "(Lio/github/countersign/Refusal;Lio/github/countersign/Header;)V"⟩ : MethodName) (head1 (Jvm.Cond.code (⟨"io/github/countersign/Verdict", "<init>", "(Lio/github/countersign/Refusal;Lio/github/countersign/Header;)V"⟩ : MethodName) prog_22_method_1_code 4 none :: ws) ({ frames := 2, cells := 0, slots := 0, locals := 24 } : Room)) (fun a U => a = #[(.ref a1), (.ref a2), (.ref a3)] ∧ Z.Warmed39 U.vm ∧ U.heap = h0) (fun _ _ _ _ _ => True) (fun _ U o U' => ∃ v L, o = .returned v ∧ Q_rm3h Z a1 a2 a3  h0 n0 v U'.heap L ∧ FrameEnd U o U' L ({ frames := 2, cells := 0, slots := 0, locals := 24 } : Room).cells ({ frames := 2, cells := 0, slots := 0, locals := 24 } : Room).slots) := by
  refine MetFree.of_bodySF (plainFor_of_name pn_rm3h) hisR ?_
  intro p e s m args below meth c s₁ Bd hml0 hP hK
  obtain ⟨rfl, hZ, hh⟩ := hP
  have hx := Bd.exec
  have hby := Bd.bytes
  have hml : c.maxLocals = 4 := hml0
  have hown : s.vm.findClass "io/github/countersign/Verdict" = some m.cls := findClass_of_methodNamed Bd.named
  have hnm := (name_of_methodNamed Bd.named Bd.method).1
  have X0 : Stand p l e ({ frames := 2, cells := 0, slots := 0, locals := 24 } : Room) s m #[(.ref a1), (.ref a2), (.ref a3)] below meth c s₁ [] 0 0 := Stand.of_body Bd
  have e0 : s₁.heap = h0 := by rw [← hh, Bd.state]; rfl
  have N0 := Fr.nil n0
  refine Gl.start (Q := Q_rm3h Z a1 a2 a3  h0 n0) (ef_rm3h m a1 a2 a3) ?_
  show Gl p e below s _ _ _ s₁ (mkF m 0 #[.val (.ref a1), .val (.ref a2), .val (.ref a3), .unset] [])
  refine Gl.st (fun _ kk => XS.aloadN X0.here hx rfl (hb hby d3_0) rfl rfl kk) ?_
  show Gl p e below s _ _ _ s₁ (mkF m 1 #[.val (.ref a1), .val (.ref a2), .val (.ref a3), .unset] [(.ref a1)])
  obtain ⟨_, _, ⟨T1, L1, k1, n1⟩, -, X1, ⟨Lc1, hQ1, l1, y1, z1⟩, st1⟩ := X0.specialBack hx (y := (⟨"java/lang/Record", "<init>", "()V"⟩ : MethodName)) rfl hown (mvT hZ (hw _ (List.mem_of_getElem? (i := 20) rfl))) (mvT hZ (hw _ (List.mem_of_getElem? (i := 21) rfl))) (mvT hZ (hw _ (List.mem_of_getElem? (i := 24) rfl))) (by decide) (backOf (W := 0) (rm4 l Z a0 hw [] a1 h0 n0 O0) hZ (hw _ (List.mem_of_getElem? (i := 24) rfl)) (hw _ (List.mem_of_getElem? (i := 23) rfl)) (by decide) (by decide)) (g := (mkF m 1 #[.val (.ref a1), .val (.ref a2), .val (.ref a3), .unset] [(.ref a1)])) rfl (by rw [hml]; rfl) (Steps.refl _) (a := a1) (argsL := []) (rest := []) (lenOf pd_rm3h_0 rfl) rfl (by show 2 * 0 + _ ≤ _; exact Nat.le_of_eq rfl) (hb hby d3_1) (fun _ _ => ⟨rfl, e0, (by decide : 0 + 0 ≤ _), (by decide : 0 + 0 ≤ _)⟩)
  dsimp only [Pt.U, Pt.locs, Pt.cells, Pt.slots] at X1 l1 y1 z1 st1 hQ1
  subst l1 y1 z1
  obtain ⟨rfl, Nq1, e1⟩ := hQ1
  have N1 := Fr.app N0 Nq1
  refine Gl.st (fun _ kk => st1.trans kk) ?_
  show Gl p e below s _ _ _ T1 (mkF m 4 #[.val (.ref a1), .val (.ref a2), .val (.ref a3), .unset] [])
  refine Gl.st (fun _ kk => XS.aloadN X1.here hx rfl (hb hby d3_4) rfl rfl kk) ?_
  show Gl p e below s _ _ _ T1 (mkF m 5 #[.val (.ref a1), .val (.ref a2), .val (.ref a3), .unset] [(.ref a2)])
  refine Gl.st (fun _ kk => XS.ifnullNo X1.here hx rfl (hb hby d3_5) rfl kk) ?_
  show Gl p e below s _ _ _ T1 (mkF m 8 #[.val (.ref a1), .val (.ref a2), .val (.ref a3), .unset] [])
  refine Gl.st (fun _ kk => XS.aloadN X1.here hx rfl (hb hby d3_8) rfl rfl kk) ?_
  show Gl p e below s _ _ _ T1 (mkF m 9 #[.val (.ref a1), .val (.ref a2), .val (.ref a3), .unset] [(.ref a2)])
  obtain ⟨cq2, kq2, qa2, qb2, qc2⟩ := isOf hZ e1 (ER.ext O0.2)
  obtain ⟨_, _, ⟨T2, L2, k2, n2⟩, -, X2, ⟨Lc2, hQ2, l2, y2, z2⟩, st2⟩ := X1.virtualBack hx (y := (⟨"io/github/countersign/Refusal", "namesHeader", "()Z"⟩ : MethodName)) (z := (⟨"io/github/countersign/Refusal", "namesHeader", "()Z"⟩ : MethodName)) hown (mvT hZ (hw _ (List.mem_of_getElem? (i := 28) rfl))) (mvT hZ (hw _ (List.mem_of_getElem? (i := 29) rfl))) (notFace_of_selects (args := #[]) (mvT hZ (hw _ (List.mem_of_getElem? (i := 31) rfl)))) (mvT hZ (hw _ (List.mem_of_getElem? (i := 31) rfl))) (mvT hZ (hw _ (List.mem_of_getElem? (i := 30) rfl))) (by decide) (backOf (W := 0) (rm6 l Z a0 hw [] a2 1 h0 n0 O0 FR (by decide)) hZ (hw _ (List.mem_of_getElem? (i := 32) rfl)) (hw _ (List.mem_of_getElem? (i := 6) rfl)) (by decide) (by decide)) qa2 qc2 (g := (mkF m 9 #[.val (.ref a1), .val (.ref a2), .val (.ref a3), .unset] [(.ref a2)])) rfl (by rw [hml]; rfl) (Steps.refl _) (argsL := []) (rest := []) (lenOf pd_rm3h_1 rfl) rfl (by show 2 * 0 + _ ≤ _; exact Nat.le_of_eq rfl) (hb hby d3_9) (fun _ _ => ⟨rfl, e1, (by decide : 0 + 0 ≤ _), (by decide : 0 + 0 ≤ _)⟩)
  dsimp only [Pt.U, Pt.locs, Pt.cells, Pt.slots] at X2 l2 y2 z2 st2 hQ2
  subst l2 y2 z2
  obtain ⟨rfl, Nq2, e2⟩ := hQ2
  have N2 := Fr.app N1 Nq2
  refine Gl.st (fun _ kk => st2.trans kk) ?_
  show Gl p e below s _ _ _ T2 (mkF m 12 #[.val (.ref a1), .val (.ref a2), .val (.ref a3), .unset] [(.int (1 : Int32))])
  refine Gl.st (fun _ kk => XS.ifNo X2.here hx rfl (hb hby d3_12) rfl ((if0 _ _).trans (feq (by decide : ¬ ((1 : Int32) = (0 : Int32)))).1) kk) ?_
  show Gl p e below s _ _ _ T2 (mkF m 15 #[.val (.ref a1), .val (.ref a2), .val (.ref a3), .unset] [])
  refine Gl.st (fun _ kk => XS.iconst X2.here hx rfl (hb hby d3_15) kk) ?_
  show Gl p e below s _ _ _ T2 (mkF m 16 #[.val (.ref a1), .val (.ref a2), .val (.ref a3), .unset] [(.int (1 : Int32))])
  refine Gl.st (fun _ kk => XS.goto X2.here hx rfl (pc0 := 16) (pc' := 20) rfl (hb hby d3_16) (by decide) (by decide) kk) ?_
  show Gl p e below s _ _ _ T2 (mkF m 20 #[.val (.ref a1), .val (.ref a2), .val (.ref a3), .unset] [(.int (1 : Int32))])
  refine Gl.st (fun _ kk => XS.istoreN X2.here hx rfl (hb hby d3_20) rfl (l' := #[.val (.ref a1), .val (.ref a2), .val (.ref a3), .val (.int (1 : Int32))]) rfl kk) ?_
  show Gl p e below s _ _ _ T2 (mkF m 21 #[.val (.ref a1), .val (.ref a2), .val (.ref a3), .val (.int (1 : Int32))] [])
  refine Gl.st (fun _ kk => XS.iloadN X2.here hx rfl (hb hby d3_21) rfl kk) ?_
  show Gl p e below s _ _ _ T2 (mkF m 22 #[.val (.ref a1), .val (.ref a2), .val (.ref a3), .val (.int (1 : Int32))] [(.int (1 : Int32))])
  refine Gl.st (fun _ kk => XS.aloadN X2.here hx rfl (hb hby d3_22) rfl rfl kk) ?_
  show Gl p e below s _ _ _ T2 (mkF m 23 #[.val (.ref a1), .val (.ref a2), .val (.ref a3), .val (.int (1 : Int32))] [(.ref a3), (.int (1 : Int32))])
  refine Gl.st (fun _ kk => XS.ifnullNo X2.here hx rfl (hb hby d3_23) rfl kk) ?_
  show Gl p e below s _ _ _ T2 (mkF m 26 #[.val (.ref a1), .val (.ref a2), .val (.ref a3), .val (.int (1 : Int32))] [(.int (1 : Int32))])
  refine Gl.st (fun _ kk => XS.iconst X2.here hx rfl (hb hby d3_26) kk) ?_
  show Gl p e below s _ _ _ T2 (mkF m 27 #[.val (.ref a1), .val (.ref a2), .val (.ref a3), .val (.int (1 : Int32))] [(.int (1 : Int32)), (.int (1 : Int32))])
  refine Gl.st (fun _ kk => XS.goto X2.here hx rfl (pc0 := 27) (pc' := 31) rfl (hb hby d3_27) (by decide) (by decide) kk) ?_
  show Gl p e below s _ _ _ T2 (mkF m 31 #[.val (.ref a1), .val (.ref a2), .val (.ref a3), .val (.int (1 : Int32))] [(.int (1 : Int32)), (.int (1 : Int32))])
  refine Gl.st (fun _ kk => XS.icmpYes X2.here hx rfl (pc0 := 31) (pc' := 60) rfl (hb hby d3_31) rfl (teq (by decide : (1 : Int32) = (1 : Int32))).1 (by decide) (by decide) kk) ?_
  show Gl p e below s _ _ _ T2 (mkF m 60 #[.val (.ref a1), .val (.ref a2), .val (.ref a3), .val (.int (1 : Int32))] [])
  refine Gl.st (fun _ kk => XS.aloadN X2.here hx rfl (hb hby d3_60) rfl rfl kk) ?_
  show Gl p e below s _ _ _ T2 (mkF m 61 #[.val (.ref a1), .val (.ref a2), .val (.ref a3), .val (.int (1 : Int32))] [(.ref a1)])
  refine Gl.st (fun _ kk => XS.aloadN X2.here hx rfl (hb hby d3_61) rfl rfl kk) ?_
  show Gl p e below s _ _ _ T2 (mkF m 62 #[.val (.ref a1), .val (.ref a2), .val (.ref a3), .val (.int (1 : Int32))] [(.ref a2), (.ref a1)])
  obtain ⟨T3, h3, X3, e3, W3, st3⟩ := putF X2 hx hZ hown (host := "") (Or.inl (hw _ (List.mem_of_getElem? (i := 35) rfl))) Via.refl e2 F_refusal_a1 Exa_a1 (Or.inr ⟨(hw _ (List.mem_of_getElem? (i := 36) rfl)), rfl, hnm⟩) (hw _ (List.mem_of_getElem? (i := 15) rfl)) (ty := (.object "io/github/countersign/Refusal")) (by decide) rfl rfl (g := (mkF m 62 #[.val (.ref a1), .val (.ref a2), .val (.ref a3), .val (.int (1 : Int32))] [(.ref a2), (.ref a1)])) rfl rfl (hb hby d3_62)
  refine Gl.st st3 ?_
  have F_refusal_a1 := F_refusal_a1.same W3
  have Exa_a1 := Exa_a1.wr W3
  have F_header_a1 := F_header_a1.other W3 (Or.inr (slot_ne (Or.inr (hw _ (List.mem_of_getElem? (i := 38) rfl))) (Or.inr (hw _ (List.mem_of_getElem? (i := 36) rfl))) (by decide) (t := (.object "io/github/countersign/Header")) (t' := (.object "io/github/countersign/Refusal")) (by decide) (by decide)))
  have O3 := O0.wr W3 g1
  have K3 := (Keep.refl h0 [a1]).wr W3 (Or.inl (List.mem_of_getElem? (i := 0) rfl))
  have N3 := Fr.snoc X3 N2 g1
  show Gl p e below s _ _ _ T3 (mkF m 65 #[.val (.ref a1), .val (.ref a2), .val (.ref a3), .val (.int (1 : Int32))] [])
  refine Gl.st (fun _ kk => XS.aloadN X3.here hx rfl (hb hby d3_65) rfl rfl kk) ?_
  show Gl p e below s _ _ _ T3 (mkF m 66 #[.val (.ref a1), .val (.ref a2), .val (.ref a3), .val (.int (1 : Int32))] [(.ref a1)])
  refine Gl.st (fun _ kk => XS.aloadN X3.here hx rfl (hb hby d3_66) rfl rfl kk) ?_
  show Gl p e below s _ _ _ T3 (mkF m 67 #[.val (.ref a1), .val (.ref a2), .val (.ref a3), .val (.int (1 : Int32))] [(.ref a3), (.ref a1)])
  obtain ⟨T4, h4, X4, e4, W4, st4⟩ := putF X3 hx hZ hown (host := "") (Or.inl (hw _ (List.mem_of_getElem? (i := 37) rfl))) Via.refl e3 F_header_a1 Exa_a1 (Or.inr ⟨(hw _ (List.mem_of_getElem? (i := 38) rfl)), rfl, hnm⟩) (hw _ (List.mem_of_getElem? (i := 15) rfl)) (ty := (.object "io/github/countersign/Header")) (by decide) rfl rfl (g := (mkF m 67 #[.val (.ref a1), .val (.ref a2), .val (.ref a3), .val (.int (1 : Int32))] [(.ref a3), (.ref a1)])) rfl rfl (hb hby d3_67)
  refine Gl.st st4 ?_
  have F_header_a1 := F_header_a1.same W4
  have Exa_a1 := Exa_a1.wr W4
  have F_refusal_a1 := F_refusal_a1.other W4 (Or.inr (slot_ne (Or.inr (hw _ (List.mem_of_getElem? (i := 36) rfl))) (Or.inr (hw _ (List.mem_of_getElem? (i := 38) rfl))) (by decide) (t := (.object "io/github/countersign/Refusal")) (t' := (.object "io/github/countersign/Header")) (by decide) (by decide)))
  have O4 := O3.wr W4 g1
  have K4 := K3.wr W4 (Or.inl (List.mem_of_getElem? (i := 0) rfl))
  have N4 := Fr.snoc X4 N3 g1
  show Gl p e below s _ _ _ T4 (mkF m 70 #[.val (.ref a1), .val (.ref a2), .val (.ref a3), .val (.int (1 : Int32))] [])
  exact Gl.ret X4 (v := none) (fun _ => rfl) (BodyLoose.notSynchronized Bd) (fun hr => X4.returnOut hx Bd.returns (hb hby d3_70) hr) e4 ⟨rfl, N4, K4, Exa_a1, F_refusal_a1⟩ (by decide) (by decide)
theorem d7_0 : decode prog_22_method_2_code 0 = .ok (.aload_n 0, 1) := by decide +kernel
theorem d7_1 : decode prog_22_method_2_code 1 = .ok (.getfield 30, 3) := by decide +kernel
theorem d7_4 : decode prog_22_method_2_code 4 = .ok (.ifnonnull 7, 3) := by decide +kernel
theorem d7_7 : decode prog_22_method_2_code 7 = .ok (.iconst 1, 1) := by decide +kernel
theorem d7_8 : decode prog_22_method_2_code 8 = .ok (.goto 4, 3) := by decide +kernel
theorem d7_11 : decode prog_22_method_2_code 11 = .ok (.iconst 0, 1) := by decide +kernel
theorem d7_12 : decode prog_22_method_2_code 12 = .ok (.ireturn, 1) := by decide +kernel
theorem pn_rm7 : plainName "io/github/countersign/Verdict" = true := by first | (simp [plainName, overriddenIn]; done) | decide +kernel
theorem ef_rm7 (m : MethodId) (a1 : Addr) : entryFrame m #[(.ref a1)] 1 = mkF m 0 #[.val (.ref a1)] [] := by first | (simp [entryFrame, mkF, argsToLocals, Value.category]; done) | rfl
def Q_rm7 (Z : State) (a1 : Addr) (u : Value) (z : Int32) (h0 : Heap) (n0 : Nat) (v : Option Value) (h : Heap) (L : List Loc) : Prop := v = some (.int z) ∧ Fr n0 L ∧ h = h0
set_option maxRecDepth 65536 in
set_option maxHeartbeats 40000000 in
theorem rm7 (l : Launch) (Z : State) (a0 : Array Value) (hw : ∀ d ∈ tables_1, d.before a0 Z = true) (ws : List Jvm.Cond) (a1 : Addr) (u : Value) (z : Int32) (h0 : Heap) (n0 : Nat) (O0 : Old Z n0 h0) (F_refusal_a1 : Fld Z h0 a1 "io/github/countersign/Verdict" "refusal" "Lio/github/countersign/Refusal;" u) (hu : (u = .null ∧ z = 1) ∨ (∃ w, u = .ref w ∧ z = 0)) :
    MetFree l (⟨"io/github/countersign/Verdict", "isValid", "()Z"⟩ : MethodName) (head1 (Jvm.Cond.code (⟨"io/github/countersign/Verdict", "isValid", "()Z"⟩ : MethodName) prog_22_method_2_code 1 (some .boolean) :: ws) ({ frames := 0, cells := 0, slots := 0, locals := 0 } : Room)) (fun a U => a = #[(.ref a1)] ∧ Z.Warmed39 U.vm ∧ U.heap = h0) (fun _ _ _ _ _ => True) (fun _ U o U' => ∃ v L, o = .returned v ∧ Q_rm7 Z a1 u z h0 n0 v U'.heap L ∧ FrameEnd U o U' L ({ frames := 0, cells := 0, slots := 0, locals := 0 } : Room).cells ({ frames := 0, cells := 0, slots := 0, locals := 0 } : Room).slots) := by
  refine MetFree.of_bodySF (plainFor_of_name pn_rm7) hisR ?_
  intro p e s m args below meth c s₁ Bd hml0 hP hK
  obtain ⟨rfl, hZ, hh⟩ := hP
  have hx := Bd.exec
  have hby := Bd.bytes
  have hml : c.maxLocals = 1 := hml0
  have hown : s.vm.findClass "io/github/countersign/Verdict" = some m.cls := findClass_of_methodNamed Bd.named
  have hnm := (name_of_methodNamed Bd.named Bd.method).1
  have X0 : Stand p l e ({ frames := 0, cells := 0, slots := 0, locals := 0 } : Room) s m #[(.ref a1)] below meth c s₁ [] 0 0 := Stand.of_body Bd
  have e0 : s₁.heap = h0 := by rw [← hh, Bd.state]; rfl
  have N0 := Fr.nil n0
  refine Gl.start (Q := Q_rm7 Z a1 u z h0 n0) (ef_rm7 m a1) ?_
  show Gl p e below s _ _ _ s₁ (mkF m 0 #[.val (.ref a1)] [])
  refine Gl.st (fun _ kk => XS.aloadN X0.here hx rfl (hb hby d7_0) rfl rfl kk) ?_
  show Gl p e below s _ _ _ s₁ (mkF m 1 #[.val (.ref a1)] [(.ref a1)])
  obtain ⟨T1, X1, e1, st1⟩ := getF X0 hx hZ hown (host := "") (Or.inl (hw _ (List.mem_of_getElem? (i := 35) rfl))) Via.refl e0 F_refusal_a1 (g := (mkF m 1 #[.val (.ref a1)] [(.ref a1)])) rfl rfl (hb hby d7_1)
  refine Gl.st st1 ?_
  show Gl p e below s _ _ _ T1 (mkF m 4 #[.val (.ref a1)] [u])
  rcases hu with ⟨rfl, hz⟩ | ⟨wq, rfl, hz⟩
  · skip
    show Gl p e below s _ _ _ T1 (mkF m 4 #[.val (.ref a1)] [.null])
    refine Gl.st (fun _ kk => XS.ifnonnullNo X1.here hx rfl (hb hby d7_4) rfl kk) ?_
    show Gl p e below s _ _ _ T1 (mkF m 7 #[.val (.ref a1)] [])
    refine Gl.st (fun _ kk => XS.iconst X1.here hx rfl (hb hby d7_7) kk) ?_
    show Gl p e below s _ _ _ T1 (mkF m 8 #[.val (.ref a1)] [(.int (1 : Int32))])
    refine Gl.st (fun _ kk => XS.goto X1.here hx rfl (pc0 := 8) (pc' := 12) rfl (hb hby d7_8) (by decide) (by decide) kk) ?_
    show Gl p e below s _ _ _ T1 (mkF m 12 #[.val (.ref a1)] [(.int (1 : Int32))])
    exact Gl.ret X1 (v := (some (.int (1 : Int32)))) (fun h => by rw [Bd.returns] at h; cases h) (BodyLoose.notSynchronized Bd) (fun hr => retN X1 hx (t := .boolean) Bd.returns (by simp) (hb hby d7_12) hr) e1 ⟨by rw [hz], N0, rfl⟩ (by decide) (by decide)
  · skip
    show Gl p e below s _ _ _ T1 (mkF m 4 #[.val (.ref a1)] [(.ref wq)])
    refine Gl.st (fun _ kk => XS.ifnonnullYes X1.here hx rfl (pc0 := 4) (pc' := 11) rfl (hb hby d7_4) rfl (by decide) (by decide) kk) ?_
    show Gl p e below s _ _ _ T1 (mkF m 11 #[.val (.ref a1)] [])
    refine Gl.st (fun _ kk => XS.iconst X1.here hx rfl (hb hby d7_11) kk) ?_
    show Gl p e below s _ _ _ T1 (mkF m 12 #[.val (.ref a1)] [(.int (0 : Int32))])
    exact Gl.ret X1 (v := (some (.int (0 : Int32)))) (fun h => by rw [Bd.returns] at h; cases h) (BodyLoose.notSynchronized Bd) (fun hr => retN X1 hx (t := .boolean) Bd.returns (by simp) (hb hby d7_12) hr) e1 ⟨by rw [hz], N0, rfl⟩ (by decide) (by decide)
theorem pd_rm0_0 : parseMethodDescriptor "(I)Lio/github/countersign/Refusal;" = some ⟨[.int], some (.object "io/github/countersign/Refusal")⟩ := by decide +kernel
theorem pd_rm0_1 : parseMethodDescriptor "(I)Lio/github/countersign/Header;" = some ⟨[.int], some (.object "io/github/countersign/Header")⟩ := by decide +kernel
theorem pd_rm0_2 : parseMethodDescriptor "(Lio/github/countersign/Refusal;Lio/github/countersign/Header;)V" = some ⟨[(.object "io/github/countersign/Refusal"), (.object "io/github/countersign/Header")], none⟩ := by decide +kernel
theorem pd_rm0_3 : parseMethodDescriptor "()Z" = some ⟨[], some .boolean⟩ := by decide +kernel
theorem pn_rm0 : plainName "io/github/countersign/VerdictIsValidPinLaw" = true := by first | (simp [plainName, overriddenIn]; done) | decide +kernel
theorem ef_rm0 (m : MethodId) (p1 : Int32) (p2 : Int32) : entryFrame m #[(.int p1), (.int p2)] maxLocals = mkF m 0 #[.val (.int p1), .val (.int p2), .unset, .unset, .unset, .unset] [] := by first | (simp [entryFrame, mkF, argsToLocals, Value.category, maxLocals]; done) | rfl
def Q_rm0 (Z : State) (p1 : Int32) (p2 : Int32) (wr_MISSING_HEADER wr_DUPLICATE_HEADER wr_UNSUPPORTED_VERSION wr_BAD_DATE wr_STALE wr_UNKNOWN_API_KEY wr_MALFORMED_METHOD wr_MALFORMED_TARGET wr_SIGNATURE_MISMATCH wr_REPLAYED : Addr) (wh_API_KEY wh_DATE wh_VERSION wh_SIGNATURE : Addr) (h0 : Heap) (n0 : Nat) (v : Option Value) (h : Heap) (L : List Loc) : Prop := v = some (.int 1) ∧ Fr n0 L
set_option maxRecDepth 65536 in
set_option maxHeartbeats 40000000 in
theorem rm0 (l : Launch) (Z : State) (a0 : Array Value) (hw : ∀ d ∈ tables_1, d.before a0 Z = true) (ws : List Jvm.Cond) (p1 : Int32) (p2 : Int32) (wr_MISSING_HEADER wr_DUPLICATE_HEADER wr_UNSUPPORTED_VERSION wr_BAD_DATE wr_STALE wr_UNKNOWN_API_KEY wr_MALFORMED_METHOD wr_MALFORMED_TARGET wr_SIGNATURE_MISMATCH wr_REPLAYED : Addr) (wh_API_KEY wh_DATE wh_VERSION wh_SIGNATURE : Addr) (h0 : Heap) (n0 : Nat) (O0 : Old Z n0 h0) (Sr_MISSING_HEADER : Sta Z Z.heap "io/github/countersign/Refusal" "MISSING_HEADER" "Lio/github/countersign/Refusal;" (.ref wr_MISSING_HEADER)) (Sr_DUPLICATE_HEADER : Sta Z Z.heap "io/github/countersign/Refusal" "DUPLICATE_HEADER" "Lio/github/countersign/Refusal;" (.ref wr_DUPLICATE_HEADER)) (Sr_UNSUPPORTED_VERSION : Sta Z Z.heap "io/github/countersign/Refusal" "UNSUPPORTED_VERSION" "Lio/github/countersign/Refusal;" (.ref wr_UNSUPPORTED_VERSION)) (Sr_BAD_DATE : Sta Z Z.heap "io/github/countersign/Refusal" "BAD_DATE" "Lio/github/countersign/Refusal;" (.ref wr_BAD_DATE)) (Sr_STALE : Sta Z Z.heap "io/github/countersign/Refusal" "STALE" "Lio/github/countersign/Refusal;" (.ref wr_STALE)) (Sr_UNKNOWN_API_KEY : Sta Z Z.heap "io/github/countersign/Refusal" "UNKNOWN_API_KEY" "Lio/github/countersign/Refusal;" (.ref wr_UNKNOWN_API_KEY)) (Sr_MALFORMED_METHOD : Sta Z Z.heap "io/github/countersign/Refusal" "MALFORMED_METHOD" "Lio/github/countersign/Refusal;" (.ref wr_MALFORMED_METHOD)) (Sr_MALFORMED_TARGET : Sta Z Z.heap "io/github/countersign/Refusal" "MALFORMED_TARGET" "Lio/github/countersign/Refusal;" (.ref wr_MALFORMED_TARGET)) (Sr_SIGNATURE_MISMATCH : Sta Z Z.heap "io/github/countersign/Refusal" "SIGNATURE_MISMATCH" "Lio/github/countersign/Refusal;" (.ref wr_SIGNATURE_MISMATCH)) (Sr_REPLAYED : Sta Z Z.heap "io/github/countersign/Refusal" "REPLAYED" "Lio/github/countersign/Refusal;" (.ref wr_REPLAYED)) (Er_MISSING_HEADER : Exa Z Z.heap wr_MISSING_HEADER "io/github/countersign/Refusal") (Er_DUPLICATE_HEADER : Exa Z Z.heap wr_DUPLICATE_HEADER "io/github/countersign/Refusal") (Er_UNSUPPORTED_VERSION : Exa Z Z.heap wr_UNSUPPORTED_VERSION "io/github/countersign/Refusal") (Er_BAD_DATE : Exa Z Z.heap wr_BAD_DATE "io/github/countersign/Refusal") (Er_STALE : Exa Z Z.heap wr_STALE "io/github/countersign/Refusal") (Er_UNKNOWN_API_KEY : Exa Z Z.heap wr_UNKNOWN_API_KEY "io/github/countersign/Refusal") (Er_MALFORMED_METHOD : Exa Z Z.heap wr_MALFORMED_METHOD "io/github/countersign/Refusal") (Er_MALFORMED_TARGET : Exa Z Z.heap wr_MALFORMED_TARGET "io/github/countersign/Refusal") (Er_SIGNATURE_MISMATCH : Exa Z Z.heap wr_SIGNATURE_MISMATCH "io/github/countersign/Refusal") (Er_REPLAYED : Exa Z Z.heap wr_REPLAYED "io/github/countersign/Refusal") (Fr_MISSING_HEADER : Fld Z Z.heap wr_MISSING_HEADER "io/github/countersign/Refusal" "namesHeader" "Z" (.int 1)) (Fr_DUPLICATE_HEADER : Fld Z Z.heap wr_DUPLICATE_HEADER "io/github/countersign/Refusal" "namesHeader" "Z" (.int 1)) (Fr_UNSUPPORTED_VERSION : Fld Z Z.heap wr_UNSUPPORTED_VERSION "io/github/countersign/Refusal" "namesHeader" "Z" (.int 0)) (Fr_BAD_DATE : Fld Z Z.heap wr_BAD_DATE "io/github/countersign/Refusal" "namesHeader" "Z" (.int 0)) (Fr_STALE : Fld Z Z.heap wr_STALE "io/github/countersign/Refusal" "namesHeader" "Z" (.int 0)) (Fr_UNKNOWN_API_KEY : Fld Z Z.heap wr_UNKNOWN_API_KEY "io/github/countersign/Refusal" "namesHeader" "Z" (.int 0)) (Fr_MALFORMED_METHOD : Fld Z Z.heap wr_MALFORMED_METHOD "io/github/countersign/Refusal" "namesHeader" "Z" (.int 0)) (Fr_MALFORMED_TARGET : Fld Z Z.heap wr_MALFORMED_TARGET "io/github/countersign/Refusal" "namesHeader" "Z" (.int 0)) (Fr_SIGNATURE_MISMATCH : Fld Z Z.heap wr_SIGNATURE_MISMATCH "io/github/countersign/Refusal" "namesHeader" "Z" (.int 0)) (Fr_REPLAYED : Fld Z Z.heap wr_REPLAYED "io/github/countersign/Refusal" "namesHeader" "Z" (.int 0)) (Sh_API_KEY : Sta Z Z.heap "io/github/countersign/Header" "API_KEY" "Lio/github/countersign/Header;" (.ref wh_API_KEY)) (Sh_DATE : Sta Z Z.heap "io/github/countersign/Header" "DATE" "Lio/github/countersign/Header;" (.ref wh_DATE)) (Sh_VERSION : Sta Z Z.heap "io/github/countersign/Header" "VERSION" "Lio/github/countersign/Header;" (.ref wh_VERSION)) (Sh_SIGNATURE : Sta Z Z.heap "io/github/countersign/Header" "SIGNATURE" "Lio/github/countersign/Header;" (.ref wh_SIGNATURE)) (Eh_API_KEY : Exa Z Z.heap wh_API_KEY "io/github/countersign/Header") (Eh_DATE : Exa Z Z.heap wh_DATE "io/github/countersign/Header") (Eh_VERSION : Exa Z Z.heap wh_VERSION "io/github/countersign/Header") (Eh_SIGNATURE : Exa Z Z.heap wh_SIGNATURE "io/github/countersign/Header") :
    MetFree l x (head1 (Jvm.Cond.code x code maxLocals ret :: ws) room_1) (fun a U => a = #[(.int p1), (.int p2)] ∧ Z.Warmed39 U.vm ∧ U.heap = h0) (fun _ _ _ _ _ => True) (fun _ U o U' => ∃ v L, o = .returned v ∧ Q_rm0 Z p1 p2 wr_MISSING_HEADER wr_DUPLICATE_HEADER wr_UNSUPPORTED_VERSION wr_BAD_DATE wr_STALE wr_UNKNOWN_API_KEY wr_MALFORMED_METHOD wr_MALFORMED_TARGET wr_SIGNATURE_MISMATCH wr_REPLAYED wh_API_KEY wh_DATE wh_VERSION wh_SIGNATURE h0 n0 v U'.heap L ∧ FrameEnd U o U' L room_1.cells room_1.slots) := by
  refine MetFree.of_bodySF (plainFor_of_name pn_rm0) hisR ?_
  intro p e s m args below meth c s₁ Bd hml0 hP hK
  obtain ⟨rfl, hZ, hh⟩ := hP
  have hx := Bd.exec
  have hby := Bd.bytes
  have hml : c.maxLocals = 6 := hml0
  have hown : s.vm.findClass "io/github/countersign/VerdictIsValidPinLaw" = some m.cls := findClass_of_methodNamed Bd.named
  have hnm := (name_of_methodNamed Bd.named Bd.method).1
  have X0 : Stand p l e room_1 s m #[(.int p1), (.int p2)] below meth c s₁ [] 0 0 := Stand.of_body Bd
  have e0 : s₁.heap = h0 := by rw [← hh, Bd.state]; rfl
  have N0 := Fr.nil n0
  refine Gl.start (Q := Q_rm0 Z p1 p2 wr_MISSING_HEADER wr_DUPLICATE_HEADER wr_UNSUPPORTED_VERSION wr_BAD_DATE wr_STALE wr_UNKNOWN_API_KEY wr_MALFORMED_METHOD wr_MALFORMED_TARGET wr_SIGNATURE_MISMATCH wr_REPLAYED wh_API_KEY wh_DATE wh_VERSION wh_SIGNATURE h0 n0) (ef_rm0 m p1 p2) ?_
  show Gl p e below s _ _ _ s₁ (mkF m 0 #[.val (.int p1), .val (.int p2), .unset, .unset, .unset, .unset] [])
  refine Gl.st (fun _ kk => XS.iloadN X0.here hx rfl (hb hby at_0) rfl kk) ?_
  show Gl p e below s _ _ _ s₁ (mkF m 1 #[.val (.int p1), .val (.int p2), .unset, .unset, .unset, .unset] [(.int p1)])
  refine Gl.st (fun _ kk => X0.ldcInt hx hown (mvT hZ (hw _ (List.mem_of_getElem? (i := 0) rfl))) (g := (mkF m 1 #[.val (.int p1), .val (.int p2), .unset, .unset, .unset, .unset] [(.int p1)])) rfl (hb hby at_1) _ kk) ?_
  show Gl p e below s _ _ _ s₁ (mkF m 3 #[.val (.int p1), .val (.int p2), .unset, .unset, .unset, .unset] [(.int (2147483647 : Int32)), (.int p1)])
  refine Gl.st (fun _ kk => XS.iand X0.here hx rfl (hb hby at_3) rfl kk) ?_
  show Gl p e below s _ _ _ s₁ (mkF m 4 #[.val (.int p1), .val (.int p2), .unset, .unset, .unset, .unset] [(.int (p1 &&& (2147483647 : Int32)))])
  refine Gl.st (fun _ kk => XS.bipush X0.here hx rfl (hb hby at_4) kk) ?_
  show Gl p e below s _ _ _ s₁ (mkF m 6 #[.val (.int p1), .val (.int p2), .unset, .unset, .unset, .unset] [(.int (11 : Int32)), (.int (p1 &&& (2147483647 : Int32)))])
  refine Gl.st (fun _ kk => iremM (g := (mkF m 6 #[.val (.int p1), .val (.int p2), .unset, .unset, .unset, .unset] [(.int (11 : Int32)), (.int (p1 &&& (2147483647 : Int32)))])) X0 hx rfl (hb hby at_6) rfl (by decide) kk) ?_
  show Gl p e below s _ _ _ s₁ (mkF m 7 #[.val (.int p1), .val (.int p2), .unset, .unset, .unset, .unset] [(.int ((p1 &&& (2147483647 : Int32)) % (11 : Int32)))])
  refine Gl.st (fun _ kk => XS.istoreN X0.here hx rfl (hb hby at_7) rfl (l' := #[.val (.int p1), .val (.int p2), .val (.int ((p1 &&& (2147483647 : Int32)) % (11 : Int32))), .unset, .unset, .unset]) rfl kk) ?_
  show Gl p e below s _ _ _ s₁ (mkF m 8 #[.val (.int p1), .val (.int p2), .val (.int ((p1 &&& (2147483647 : Int32)) % (11 : Int32))), .unset, .unset, .unset] [])
  rcases own_mod11 p1 with hk | hk | hk | hk | hk | hk | hk | hk | hk | hk | hk
  · rw [hk]
    show Gl p e below s _ _ _ s₁ (mkF m 8 #[.val (.int p1), .val (.int p2), .val (.int (0 : Int32)), .unset, .unset, .unset] [])
    refine Gl.st (fun _ kk => XS.iloadN X0.here hx rfl (hb hby at_8) rfl kk) ?_
    show Gl p e below s _ _ _ s₁ (mkF m 9 #[.val (.int p1), .val (.int p2), .val (.int (0 : Int32)), .unset, .unset, .unset] [(.int (0 : Int32))])
    obtain ⟨_, _, ⟨T1, L1, k1, n1⟩, -, X1, ⟨Lc1, hQ1, l1, y1, z1⟩, st1⟩ := Jvm.LawKit.callS X0 hx (y := (⟨"io/github/countersign/VerdictIsValidPinLaw", "refusalAt", "(I)Lio/github/countersign/Refusal;"⟩ : MethodName)) hown (mvT hZ (hw _ (List.mem_of_getElem? (i := 1) rfl))) (mvT hZ (hw _ (List.mem_of_getElem? (i := 2) rfl))) (mvT hZ (hw _ (List.mem_of_getElem? (i := 3) rfl))) (mvT hZ (hw _ (List.mem_of_getElem? (i := 4) rfl))) (by decide) (backOf (W := 0) (rm1 l Z a0 hw [] 0 wr_MISSING_HEADER wr_DUPLICATE_HEADER wr_UNSUPPORTED_VERSION wr_BAD_DATE wr_STALE wr_UNKNOWN_API_KEY wr_MALFORMED_METHOD wr_MALFORMED_TARGET wr_SIGNATURE_MISMATCH wr_REPLAYED (.ref wr_MISSING_HEADER) h0 n0 O0 Sr_MISSING_HEADER Sr_DUPLICATE_HEADER Sr_UNSUPPORTED_VERSION Sr_BAD_DATE Sr_STALE Sr_UNKNOWN_API_KEY Sr_MALFORMED_METHOD Sr_MALFORMED_TARGET Sr_SIGNATURE_MISMATCH Sr_REPLAYED (Or.inl ⟨rfl, rfl⟩)) hZ (hw _ (List.mem_of_getElem? (i := 4) rfl)) (hw _ (List.mem_of_getElem? (i := 3) rfl)) (by decide) (by decide)) (g := (mkF m 9 #[.val (.int p1), .val (.int p2), .val (.int (0 : Int32)), .unset, .unset, .unset] [(.int (0 : Int32))])) rfl (by rw [hml]; rfl) (argsL := [(.int (0 : Int32))]) (rest := []) (lenOf pd_rm0_0 rfl) rfl (by show 2 * 0 + _ ≤ _; exact Nat.le_of_eq rfl) (hb hby at_9) (fun _ _ => ⟨rfl, e0, (by decide : 0 + 0 ≤ _), (by decide : 0 + 0 ≤ _)⟩)
    dsimp only [Pt.U, Pt.locs, Pt.cells, Pt.slots] at X1 l1 y1 z1 st1 hQ1
    subst l1 y1 z1
    obtain ⟨rfl, Nq1, e1⟩ := hQ1
    have N1 := Fr.app N0 Nq1
    refine Gl.st st1 ?_
    show Gl p e below s _ _ _ T1 (mkF m 12 #[.val (.int p1), .val (.int p2), .val (.int (0 : Int32)), .unset, .unset, .unset] [(.ref wr_MISSING_HEADER)])
    refine Gl.st (fun _ kk => XS.astoreN X1.here hx rfl (hb hby at_12) rfl rfl (l' := #[.val (.int p1), .val (.int p2), .val (.int (0 : Int32)), .val (.ref wr_MISSING_HEADER), .unset, .unset]) rfl kk) ?_
    show Gl p e below s _ _ _ T1 (mkF m 13 #[.val (.int p1), .val (.int p2), .val (.int (0 : Int32)), .val (.ref wr_MISSING_HEADER), .unset, .unset] [])
    refine Gl.st (fun _ kk => XS.iloadN X1.here hx rfl (hb hby at_13) rfl kk) ?_
    show Gl p e below s _ _ _ T1 (mkF m 14 #[.val (.int p1), .val (.int p2), .val (.int (0 : Int32)), .val (.ref wr_MISSING_HEADER), .unset, .unset] [(.int (0 : Int32))])
    refine Gl.st (fun _ kk => XS.iconst X1.here hx rfl (hb hby at_14) kk) ?_
    show Gl p e below s _ _ _ T1 (mkF m 15 #[.val (.int p1), .val (.int p2), .val (.int (0 : Int32)), .val (.ref wr_MISSING_HEADER), .unset, .unset] [(.int (2 : Int32)), (.int (0 : Int32))])
    refine Gl.st (fun _ kk => XS.icmpNo X1.here hx rfl (hb hby at_15) rfl (tlt (by decide : (0 : Int32) < (2 : Int32))).2.1 kk) ?_
    show Gl p e below s _ _ _ T1 (mkF m 18 #[.val (.int p1), .val (.int p2), .val (.int (0 : Int32)), .val (.ref wr_MISSING_HEADER), .unset, .unset] [])
    refine Gl.st (fun _ kk => XS.iloadN X1.here hx rfl (hb hby at_18) rfl kk) ?_
    show Gl p e below s _ _ _ T1 (mkF m 19 #[.val (.int p1), .val (.int p2), .val (.int (0 : Int32)), .val (.ref wr_MISSING_HEADER), .unset, .unset] [(.int p2)])
    refine Gl.st (fun _ kk => XS.iconst X1.here hx rfl (hb hby at_19) kk) ?_
    show Gl p e below s _ _ _ T1 (mkF m 20 #[.val (.int p1), .val (.int p2), .val (.int (0 : Int32)), .val (.ref wr_MISSING_HEADER), .unset, .unset] [(.int (3 : Int32)), (.int p2)])
    refine Gl.st (fun _ kk => XS.iand X1.here hx rfl (hb hby at_20) rfl kk) ?_
    show Gl p e below s _ _ _ T1 (mkF m 21 #[.val (.int p1), .val (.int p2), .val (.int (0 : Int32)), .val (.ref wr_MISSING_HEADER), .unset, .unset] [(.int (p2 &&& (3 : Int32)))])
    rcases own_mask3 p2 with hm | hm | hm | hm
    · rw [hm]
      show Gl p e below s _ _ _ T1 (mkF m 21 #[.val (.int p1), .val (.int p2), .val (.int (0 : Int32)), .val (.ref wr_MISSING_HEADER), .unset, .unset] [(.int (0 : Int32))])
      obtain ⟨_, _, ⟨T2, L2, k2, n2⟩, -, X2, ⟨Lc2, hQ2, l2, y2, z2⟩, st2⟩ := Jvm.LawKit.callS X1 hx (y := (⟨"io/github/countersign/VerdictIsValidPinLaw", "headerAt", "(I)Lio/github/countersign/Header;"⟩ : MethodName)) hown (mvT hZ (hw _ (List.mem_of_getElem? (i := 8) rfl))) (mvT hZ (hw _ (List.mem_of_getElem? (i := 9) rfl))) (mvT hZ (hw _ (List.mem_of_getElem? (i := 3) rfl))) (mvT hZ (hw _ (List.mem_of_getElem? (i := 10) rfl))) (by decide) (backOf (W := 0) (rm2 l Z a0 hw [] 0 wh_API_KEY wh_DATE wh_VERSION wh_SIGNATURE wh_API_KEY h0 n0 O0 Sh_API_KEY Sh_DATE Sh_VERSION Sh_SIGNATURE (Or.inl ⟨rfl, rfl⟩)) hZ (hw _ (List.mem_of_getElem? (i := 10) rfl)) (hw _ (List.mem_of_getElem? (i := 3) rfl)) (by decide) (by decide)) (g := (mkF m 21 #[.val (.int p1), .val (.int p2), .val (.int (0 : Int32)), .val (.ref wr_MISSING_HEADER), .unset, .unset] [(.int (0 : Int32))])) rfl (by rw [hml]; rfl) (argsL := [(.int (0 : Int32))]) (rest := []) (lenOf pd_rm0_1 rfl) rfl (by show 2 * 0 + _ ≤ _; exact Nat.le_of_eq rfl) (hb hby at_21) (fun _ _ => ⟨rfl, e1, (by decide : 0 + 0 ≤ _), (by decide : 0 + 0 ≤ _)⟩)
      dsimp only [Pt.U, Pt.locs, Pt.cells, Pt.slots] at X2 l2 y2 z2 st2 hQ2
      subst l2 y2 z2
      obtain ⟨rfl, Nq2, e2⟩ := hQ2
      have N2 := Fr.app N1 Nq2
      refine Gl.st st2 ?_
      show Gl p e below s _ _ _ T2 (mkF m 24 #[.val (.int p1), .val (.int p2), .val (.int (0 : Int32)), .val (.ref wr_MISSING_HEADER), .unset, .unset] [(.ref wh_API_KEY)])
      refine Gl.st (fun _ kk => XS.goto X2.here hx rfl (pc0 := 24) (pc' := 28) rfl (hb hby at_24) (by decide) (by decide) kk) ?_
      show Gl p e below s _ _ _ T2 (mkF m 28 #[.val (.int p1), .val (.int p2), .val (.int (0 : Int32)), .val (.ref wr_MISSING_HEADER), .unset, .unset] [(.ref wh_API_KEY)])
      refine Gl.st (fun _ kk => XS.astore X2.here hx rfl (hb hby at_28) rfl rfl (l' := #[.val (.int p1), .val (.int p2), .val (.int (0 : Int32)), .val (.ref wr_MISSING_HEADER), .val (.ref wh_API_KEY), .unset]) rfl kk) ?_
      show Gl p e below s _ _ _ T2 (mkF m 30 #[.val (.int p1), .val (.int p2), .val (.int (0 : Int32)), .val (.ref wr_MISSING_HEADER), .val (.ref wh_API_KEY), .unset] [])
      obtain ⟨T3, h3, X3, e3, E3, A3, D3, V3, st3⟩ := newO X2 hx hZ hown (hw _ (List.mem_of_getElem? (i := 14) rfl)) (hw _ (List.mem_of_getElem? (i := 15) rfl)) (hw _ (List.mem_of_getElem? (i := 16) rfl)) e2 (g := (mkF m 30 #[.val (.int p1), .val (.int p2), .val (.int (0 : Int32)), .val (.ref wr_MISSING_HEADER), .val (.ref wh_API_KEY), .unset] [])) rfl (hb hby at_30) (by decide) (by decide)
      obtain ⟨b3, g3⟩ : ∃ z, z = h0.size := ⟨_, rfl⟩
      rw [← g3] at A3 D3 V3 st3
      refine Gl.st st3 ?_
      have ge_b3 : n0 ≤ b3 := Nat.le_trans (Nat.le_trans (Nat.le_of_eq O0.1.symm) O0.2.1) (Nat.le_of_eq g3.symm)
      have fr_b3 : h0.size ≤ b3 := Nat.le_trans (Nat.le_refl _) (Nat.le_of_eq g3.symm)
      have O3 := O0.ext E3
      have K3 := (Keep.refl h0 []).ext E3
      have Exa_b3 := A3
      have F_refusal_b3 : Fld Z h3 b3 "io/github/countersign/Verdict" "refusal" "Lio/github/countersign/Refusal;" .null := D3 (Or.inr (hw _ (List.mem_of_getElem? (i := 36) rfl))) (ty := (.object "io/github/countersign/Refusal")) (by decide)
      have F_header_b3 : Fld Z h3 b3 "io/github/countersign/Verdict" "header" "Lio/github/countersign/Header;" .null := D3 (Or.inr (hw _ (List.mem_of_getElem? (i := 38) rfl))) (ty := (.object "io/github/countersign/Header")) (by decide)
      show Gl p e below s _ _ _ T3 (mkF m 33 #[.val (.int p1), .val (.int p2), .val (.int (0 : Int32)), .val (.ref wr_MISSING_HEADER), .val (.ref wh_API_KEY), .unset] [(.ref b3)])
      refine Gl.st (fun _ kk => XS.dup X3.here hx rfl (hb hby at_33) rfl rfl kk) ?_
      show Gl p e below s _ _ _ T3 (mkF m 34 #[.val (.int p1), .val (.int p2), .val (.int (0 : Int32)), .val (.ref wr_MISSING_HEADER), .val (.ref wh_API_KEY), .unset] [(.ref b3), (.ref b3)])
      refine Gl.st (fun _ kk => XS.aloadN X3.here hx rfl (hb hby at_34) rfl rfl kk) ?_
      show Gl p e below s _ _ _ T3 (mkF m 35 #[.val (.int p1), .val (.int p2), .val (.int (0 : Int32)), .val (.ref wr_MISSING_HEADER), .val (.ref wh_API_KEY), .unset] [(.ref wr_MISSING_HEADER), (.ref b3), (.ref b3)])
      refine Gl.st (fun _ kk => XS.aload X3.here hx rfl (hb hby at_35) rfl rfl kk) ?_
      show Gl p e below s _ _ _ T3 (mkF m 37 #[.val (.int p1), .val (.int p2), .val (.int (0 : Int32)), .val (.ref wr_MISSING_HEADER), .val (.ref wh_API_KEY), .unset] [(.ref wh_API_KEY), (.ref wr_MISSING_HEADER), (.ref b3), (.ref b3)])
      obtain ⟨_, _, ⟨T4, L4, k4, n4⟩, -, X4, ⟨Lc4, hQ4, l4, y4, z4⟩, st4⟩ := X3.specialBack hx (y := (⟨"io/github/countersign/Verdict", "<init>", "(Lio/github/countersign/Refusal;Lio/github/countersign/Header;)V"⟩ : MethodName)) rfl hown (mvT hZ (hw _ (List.mem_of_getElem? (i := 17) rfl))) (mvT hZ (hw _ (List.mem_of_getElem? (i := 18) rfl))) (mvT hZ (hw _ (List.mem_of_getElem? (i := 19) rfl))) (by decide) (backOf (W := 1) (rm3h l Z a0 hw [] b3 wr_MISSING_HEADER wh_API_KEY h3 n0 O3 Exa_b3 F_refusal_b3 F_header_b3 ge_b3 Er_MISSING_HEADER Fr_MISSING_HEADER) hZ (hw _ (List.mem_of_getElem? (i := 19) rfl)) (hw _ (List.mem_of_getElem? (i := 16) rfl)) (by decide) (by decide)) (g := (mkF m 37 #[.val (.int p1), .val (.int p2), .val (.int (0 : Int32)), .val (.ref wr_MISSING_HEADER), .val (.ref wh_API_KEY), .unset] [(.ref wh_API_KEY), (.ref wr_MISSING_HEADER), (.ref b3), (.ref b3)])) rfl (by rw [hml]; rfl) (Steps.refl _) (a := b3) (argsL := [(.ref wr_MISSING_HEADER), (.ref wh_API_KEY)]) (rest := [(.ref b3)]) (lenOf pd_rm0_2 rfl) rfl (by show 2 * 0 + _ ≤ _; exact Nat.le_of_eq rfl) (hb hby at_37) (fun _ _ => ⟨rfl, e3, (by decide : 1 + 0 ≤ _), (by decide : 2 + 0 ≤ _)⟩)
      dsimp only [Pt.U, Pt.locs, Pt.cells, Pt.slots] at X4 l4 y4 z4 st4 hQ4
      subst l4 y4 z4
      obtain ⟨h4, e4⟩ : ∃ z, T4.heap = z := ⟨_, rfl⟩
      rw [e4] at hQ4
      obtain ⟨rfl, Nq4, Kq4, Eq4, Fq4⟩ := hQ4
      have N4 := Fr.app N2 Nq4
      refine Gl.st (fun _ kk => st4.trans kk) ?_
      have Exa_b3 := Exa_b3.keep Kq4
      have O4 := O3.keep Kq4 (allS ge_b3 all0)
      have K4 := K3.trans Kq4 (allS (Or.inr fr_b3) all0)
      have F_refusal_b3 := Fq4
      show Gl p e below s _ _ _ T4 (mkF m 40 #[.val (.int p1), .val (.int p2), .val (.int (0 : Int32)), .val (.ref wr_MISSING_HEADER), .val (.ref wh_API_KEY), .unset] [(.ref b3)])
      refine Gl.st (fun _ kk => XS.astore X4.here hx rfl (hb hby at_40) rfl rfl (l' := #[.val (.int p1), .val (.int p2), .val (.int (0 : Int32)), .val (.ref wr_MISSING_HEADER), .val (.ref wh_API_KEY), .val (.ref b3)]) rfl kk) ?_
      show Gl p e below s _ _ _ T4 (mkF m 42 #[.val (.int p1), .val (.int p2), .val (.int (0 : Int32)), .val (.ref wr_MISSING_HEADER), .val (.ref wh_API_KEY), .val (.ref b3)] [])
      refine Gl.st (fun _ kk => XS.aload X4.here hx rfl (hb hby at_42) rfl rfl kk) ?_
      show Gl p e below s _ _ _ T4 (mkF m 44 #[.val (.int p1), .val (.int p2), .val (.int (0 : Int32)), .val (.ref wr_MISSING_HEADER), .val (.ref wh_API_KEY), .val (.ref b3)] [(.ref b3)])
      obtain ⟨cq5, kq5, qa5, qb5, qc5⟩ := isOf hZ e4 Exa_b3
      obtain ⟨_, _, ⟨T5, L5, k5, n5⟩, -, X5, ⟨Lc5, hQ5, l5, y5, z5⟩, st5⟩ := X4.virtualBack hx (y := (⟨"io/github/countersign/Verdict", "isValid", "()Z"⟩ : MethodName)) (z := (⟨"io/github/countersign/Verdict", "isValid", "()Z"⟩ : MethodName)) hown (mvT hZ (hw _ (List.mem_of_getElem? (i := 39) rfl))) (mvT hZ (hw _ (List.mem_of_getElem? (i := 40) rfl))) (notFace_of_selects (args := #[]) (mvT hZ (hw _ (List.mem_of_getElem? (i := 42) rfl)))) (mvT hZ (hw _ (List.mem_of_getElem? (i := 42) rfl))) (mvT hZ (hw _ (List.mem_of_getElem? (i := 41) rfl))) (by decide) (backOf (W := 0) (rm7 l Z a0 hw [] b3 (.ref wr_MISSING_HEADER) 0 h4 n0 O4 F_refusal_b3 (Or.inr ⟨_, rfl, rfl⟩)) hZ (hw _ (List.mem_of_getElem? (i := 43) rfl)) (hw _ (List.mem_of_getElem? (i := 16) rfl)) (by decide) (by decide)) qa5 qc5 (g := (mkF m 44 #[.val (.int p1), .val (.int p2), .val (.int (0 : Int32)), .val (.ref wr_MISSING_HEADER), .val (.ref wh_API_KEY), .val (.ref b3)] [(.ref b3)])) rfl (by rw [hml]; rfl) (Steps.refl _) (argsL := []) (rest := []) (lenOf pd_rm0_3 rfl) rfl (by show 2 * 0 + _ ≤ _; exact Nat.le_of_eq rfl) (hb hby at_44) (fun _ _ => ⟨rfl, e4, (by decide : 1 + 0 ≤ _), (by decide : 2 + 0 ≤ _)⟩)
      dsimp only [Pt.U, Pt.locs, Pt.cells, Pt.slots] at X5 l5 y5 z5 st5 hQ5
      subst l5 y5 z5
      obtain ⟨rfl, Nq5, e5⟩ := hQ5
      have N5 := Fr.app N4 Nq5
      refine Gl.st (fun _ kk => st5.trans kk) ?_
      show Gl p e below s _ _ _ T5 (mkF m 47 #[.val (.int p1), .val (.int p2), .val (.int (0 : Int32)), .val (.ref wr_MISSING_HEADER), .val (.ref wh_API_KEY), .val (.ref b3)] [(.int (0 : Int32))])
      refine Gl.st (fun _ kk => XS.iloadN X5.here hx rfl (hb hby at_47) rfl kk) ?_
      show Gl p e below s _ _ _ T5 (mkF m 48 #[.val (.int p1), .val (.int p2), .val (.int (0 : Int32)), .val (.ref wr_MISSING_HEADER), .val (.ref wh_API_KEY), .val (.ref b3)] [(.int (0 : Int32)), (.int (0 : Int32))])
      refine Gl.st (fun _ kk => XS.bipush X5.here hx rfl (hb hby at_48) kk) ?_
      show Gl p e below s _ _ _ T5 (mkF m 50 #[.val (.int p1), .val (.int p2), .val (.int (0 : Int32)), .val (.ref wr_MISSING_HEADER), .val (.ref wh_API_KEY), .val (.ref b3)] [(.int (10 : Int32)), (.int (0 : Int32)), (.int (0 : Int32))])
      refine Gl.st (fun _ kk => XS.icmpYes X5.here hx rfl (pc0 := 50) (pc' := 57) rfl (hb hby at_50) rfl (feq (by decide : ¬ ((0 : Int32) = (10 : Int32)))).2 (by decide) (by decide) kk) ?_
      show Gl p e below s _ _ _ T5 (mkF m 57 #[.val (.int p1), .val (.int p2), .val (.int (0 : Int32)), .val (.ref wr_MISSING_HEADER), .val (.ref wh_API_KEY), .val (.ref b3)] [(.int (0 : Int32))])
      refine Gl.st (fun _ kk => XS.iconst X5.here hx rfl (hb hby at_57) kk) ?_
      show Gl p e below s _ _ _ T5 (mkF m 58 #[.val (.int p1), .val (.int p2), .val (.int (0 : Int32)), .val (.ref wr_MISSING_HEADER), .val (.ref wh_API_KEY), .val (.ref b3)] [(.int (0 : Int32)), (.int (0 : Int32))])
      refine Gl.st (fun _ kk => XS.icmpNo X5.here hx rfl (hb hby at_58) rfl (teq (by decide : (0 : Int32) = (0 : Int32))).2 kk) ?_
      show Gl p e below s _ _ _ T5 (mkF m 61 #[.val (.int p1), .val (.int p2), .val (.int (0 : Int32)), .val (.ref wr_MISSING_HEADER), .val (.ref wh_API_KEY), .val (.ref b3)] [])
      refine Gl.st (fun _ kk => XS.iconst X5.here hx rfl (hb hby at_61) kk) ?_
      show Gl p e below s _ _ _ T5 (mkF m 62 #[.val (.int p1), .val (.int p2), .val (.int (0 : Int32)), .val (.ref wr_MISSING_HEADER), .val (.ref wh_API_KEY), .val (.ref b3)] [(.int (1 : Int32))])
      refine Gl.st (fun _ kk => XS.goto X5.here hx rfl (pc0 := 62) (pc' := 66) rfl (hb hby at_62) (by decide) (by decide) kk) ?_
      show Gl p e below s _ _ _ T5 (mkF m 66 #[.val (.int p1), .val (.int p2), .val (.int (0 : Int32)), .val (.ref wr_MISSING_HEADER), .val (.ref wh_API_KEY), .val (.ref b3)] [(.int (1 : Int32))])
      exact Gl.ret X5 (v := (some (.int (1 : Int32)))) (fun h => by rw [Bd.returns] at h; cases h) (BodyLoose.notSynchronized Bd) (fun hr => retN X5 hx (t := .boolean) Bd.returns (by simp) (hb hby at_66) hr) e5 ⟨rfl, N5⟩ (by decide) (by decide)
    · rw [hm]
      show Gl p e below s _ _ _ T1 (mkF m 21 #[.val (.int p1), .val (.int p2), .val (.int (0 : Int32)), .val (.ref wr_MISSING_HEADER), .unset, .unset] [(.int (1 : Int32))])
      obtain ⟨_, _, ⟨T6, L6, k6, n6⟩, -, X6, ⟨Lc6, hQ6, l6, y6, z6⟩, st6⟩ := Jvm.LawKit.callS X1 hx (y := (⟨"io/github/countersign/VerdictIsValidPinLaw", "headerAt", "(I)Lio/github/countersign/Header;"⟩ : MethodName)) hown (mvT hZ (hw _ (List.mem_of_getElem? (i := 8) rfl))) (mvT hZ (hw _ (List.mem_of_getElem? (i := 9) rfl))) (mvT hZ (hw _ (List.mem_of_getElem? (i := 3) rfl))) (mvT hZ (hw _ (List.mem_of_getElem? (i := 10) rfl))) (by decide) (backOf (W := 0) (rm2 l Z a0 hw [] 1 wh_API_KEY wh_DATE wh_VERSION wh_SIGNATURE wh_DATE h0 n0 O0 Sh_API_KEY Sh_DATE Sh_VERSION Sh_SIGNATURE (Or.inr (Or.inl ⟨rfl, rfl⟩))) hZ (hw _ (List.mem_of_getElem? (i := 10) rfl)) (hw _ (List.mem_of_getElem? (i := 3) rfl)) (by decide) (by decide)) (g := (mkF m 21 #[.val (.int p1), .val (.int p2), .val (.int (0 : Int32)), .val (.ref wr_MISSING_HEADER), .unset, .unset] [(.int (1 : Int32))])) rfl (by rw [hml]; rfl) (argsL := [(.int (1 : Int32))]) (rest := []) (lenOf pd_rm0_1 rfl) rfl (by show 2 * 0 + _ ≤ _; exact Nat.le_of_eq rfl) (hb hby at_21) (fun _ _ => ⟨rfl, e1, (by decide : 0 + 0 ≤ _), (by decide : 0 + 0 ≤ _)⟩)
      dsimp only [Pt.U, Pt.locs, Pt.cells, Pt.slots] at X6 l6 y6 z6 st6 hQ6
      subst l6 y6 z6
      obtain ⟨rfl, Nq6, e6⟩ := hQ6
      have N6 := Fr.app N1 Nq6
      refine Gl.st st6 ?_
      show Gl p e below s _ _ _ T6 (mkF m 24 #[.val (.int p1), .val (.int p2), .val (.int (0 : Int32)), .val (.ref wr_MISSING_HEADER), .unset, .unset] [(.ref wh_DATE)])
      refine Gl.st (fun _ kk => XS.goto X6.here hx rfl (pc0 := 24) (pc' := 28) rfl (hb hby at_24) (by decide) (by decide) kk) ?_
      show Gl p e below s _ _ _ T6 (mkF m 28 #[.val (.int p1), .val (.int p2), .val (.int (0 : Int32)), .val (.ref wr_MISSING_HEADER), .unset, .unset] [(.ref wh_DATE)])
      refine Gl.st (fun _ kk => XS.astore X6.here hx rfl (hb hby at_28) rfl rfl (l' := #[.val (.int p1), .val (.int p2), .val (.int (0 : Int32)), .val (.ref wr_MISSING_HEADER), .val (.ref wh_DATE), .unset]) rfl kk) ?_
      show Gl p e below s _ _ _ T6 (mkF m 30 #[.val (.int p1), .val (.int p2), .val (.int (0 : Int32)), .val (.ref wr_MISSING_HEADER), .val (.ref wh_DATE), .unset] [])
      obtain ⟨T7, h7, X7, e7, E7, A7, D7, V7, st7⟩ := newO X6 hx hZ hown (hw _ (List.mem_of_getElem? (i := 14) rfl)) (hw _ (List.mem_of_getElem? (i := 15) rfl)) (hw _ (List.mem_of_getElem? (i := 16) rfl)) e6 (g := (mkF m 30 #[.val (.int p1), .val (.int p2), .val (.int (0 : Int32)), .val (.ref wr_MISSING_HEADER), .val (.ref wh_DATE), .unset] [])) rfl (hb hby at_30) (by decide) (by decide)
      obtain ⟨b7, g7⟩ : ∃ z, z = h0.size := ⟨_, rfl⟩
      rw [← g7] at A7 D7 V7 st7
      refine Gl.st st7 ?_
      have ge_b7 : n0 ≤ b7 := Nat.le_trans (Nat.le_trans (Nat.le_of_eq O0.1.symm) O0.2.1) (Nat.le_of_eq g7.symm)
      have fr_b7 : h0.size ≤ b7 := Nat.le_trans (Nat.le_refl _) (Nat.le_of_eq g7.symm)
      have O7 := O0.ext E7
      have K7 := (Keep.refl h0 []).ext E7
      have Exa_b7 := A7
      have F_refusal_b7 : Fld Z h7 b7 "io/github/countersign/Verdict" "refusal" "Lio/github/countersign/Refusal;" .null := D7 (Or.inr (hw _ (List.mem_of_getElem? (i := 36) rfl))) (ty := (.object "io/github/countersign/Refusal")) (by decide)
      have F_header_b7 : Fld Z h7 b7 "io/github/countersign/Verdict" "header" "Lio/github/countersign/Header;" .null := D7 (Or.inr (hw _ (List.mem_of_getElem? (i := 38) rfl))) (ty := (.object "io/github/countersign/Header")) (by decide)
      show Gl p e below s _ _ _ T7 (mkF m 33 #[.val (.int p1), .val (.int p2), .val (.int (0 : Int32)), .val (.ref wr_MISSING_HEADER), .val (.ref wh_DATE), .unset] [(.ref b7)])
      refine Gl.st (fun _ kk => XS.dup X7.here hx rfl (hb hby at_33) rfl rfl kk) ?_
      show Gl p e below s _ _ _ T7 (mkF m 34 #[.val (.int p1), .val (.int p2), .val (.int (0 : Int32)), .val (.ref wr_MISSING_HEADER), .val (.ref wh_DATE), .unset] [(.ref b7), (.ref b7)])
      refine Gl.st (fun _ kk => XS.aloadN X7.here hx rfl (hb hby at_34) rfl rfl kk) ?_
      show Gl p e below s _ _ _ T7 (mkF m 35 #[.val (.int p1), .val (.int p2), .val (.int (0 : Int32)), .val (.ref wr_MISSING_HEADER), .val (.ref wh_DATE), .unset] [(.ref wr_MISSING_HEADER), (.ref b7), (.ref b7)])
      refine Gl.st (fun _ kk => XS.aload X7.here hx rfl (hb hby at_35) rfl rfl kk) ?_
      show Gl p e below s _ _ _ T7 (mkF m 37 #[.val (.int p1), .val (.int p2), .val (.int (0 : Int32)), .val (.ref wr_MISSING_HEADER), .val (.ref wh_DATE), .unset] [(.ref wh_DATE), (.ref wr_MISSING_HEADER), (.ref b7), (.ref b7)])
      obtain ⟨_, _, ⟨T8, L8, k8, n8⟩, -, X8, ⟨Lc8, hQ8, l8, y8, z8⟩, st8⟩ := X7.specialBack hx (y := (⟨"io/github/countersign/Verdict", "<init>", "(Lio/github/countersign/Refusal;Lio/github/countersign/Header;)V"⟩ : MethodName)) rfl hown (mvT hZ (hw _ (List.mem_of_getElem? (i := 17) rfl))) (mvT hZ (hw _ (List.mem_of_getElem? (i := 18) rfl))) (mvT hZ (hw _ (List.mem_of_getElem? (i := 19) rfl))) (by decide) (backOf (W := 1) (rm3h l Z a0 hw [] b7 wr_MISSING_HEADER wh_DATE h7 n0 O7 Exa_b7 F_refusal_b7 F_header_b7 ge_b7 Er_MISSING_HEADER Fr_MISSING_HEADER) hZ (hw _ (List.mem_of_getElem? (i := 19) rfl)) (hw _ (List.mem_of_getElem? (i := 16) rfl)) (by decide) (by decide)) (g := (mkF m 37 #[.val (.int p1), .val (.int p2), .val (.int (0 : Int32)), .val (.ref wr_MISSING_HEADER), .val (.ref wh_DATE), .unset] [(.ref wh_DATE), (.ref wr_MISSING_HEADER), (.ref b7), (.ref b7)])) rfl (by rw [hml]; rfl) (Steps.refl _) (a := b7) (argsL := [(.ref wr_MISSING_HEADER), (.ref wh_DATE)]) (rest := [(.ref b7)]) (lenOf pd_rm0_2 rfl) rfl (by show 2 * 0 + _ ≤ _; exact Nat.le_of_eq rfl) (hb hby at_37) (fun _ _ => ⟨rfl, e7, (by decide : 1 + 0 ≤ _), (by decide : 2 + 0 ≤ _)⟩)
      dsimp only [Pt.U, Pt.locs, Pt.cells, Pt.slots] at X8 l8 y8 z8 st8 hQ8
      subst l8 y8 z8
      obtain ⟨h8, e8⟩ : ∃ z, T8.heap = z := ⟨_, rfl⟩
      rw [e8] at hQ8
      obtain ⟨rfl, Nq8, Kq8, Eq8, Fq8⟩ := hQ8
      have N8 := Fr.app N6 Nq8
      refine Gl.st (fun _ kk => st8.trans kk) ?_
      have Exa_b7 := Exa_b7.keep Kq8
      have O8 := O7.keep Kq8 (allS ge_b7 all0)
      have K8 := K7.trans Kq8 (allS (Or.inr fr_b7) all0)
      have F_refusal_b7 := Fq8
      show Gl p e below s _ _ _ T8 (mkF m 40 #[.val (.int p1), .val (.int p2), .val (.int (0 : Int32)), .val (.ref wr_MISSING_HEADER), .val (.ref wh_DATE), .unset] [(.ref b7)])
      refine Gl.st (fun _ kk => XS.astore X8.here hx rfl (hb hby at_40) rfl rfl (l' := #[.val (.int p1), .val (.int p2), .val (.int (0 : Int32)), .val (.ref wr_MISSING_HEADER), .val (.ref wh_DATE), .val (.ref b7)]) rfl kk) ?_
      show Gl p e below s _ _ _ T8 (mkF m 42 #[.val (.int p1), .val (.int p2), .val (.int (0 : Int32)), .val (.ref wr_MISSING_HEADER), .val (.ref wh_DATE), .val (.ref b7)] [])
      refine Gl.st (fun _ kk => XS.aload X8.here hx rfl (hb hby at_42) rfl rfl kk) ?_
      show Gl p e below s _ _ _ T8 (mkF m 44 #[.val (.int p1), .val (.int p2), .val (.int (0 : Int32)), .val (.ref wr_MISSING_HEADER), .val (.ref wh_DATE), .val (.ref b7)] [(.ref b7)])
      obtain ⟨cq9, kq9, qa9, qb9, qc9⟩ := isOf hZ e8 Exa_b7
      obtain ⟨_, _, ⟨T9, L9, k9, n9⟩, -, X9, ⟨Lc9, hQ9, l9, y9, z9⟩, st9⟩ := X8.virtualBack hx (y := (⟨"io/github/countersign/Verdict", "isValid", "()Z"⟩ : MethodName)) (z := (⟨"io/github/countersign/Verdict", "isValid", "()Z"⟩ : MethodName)) hown (mvT hZ (hw _ (List.mem_of_getElem? (i := 39) rfl))) (mvT hZ (hw _ (List.mem_of_getElem? (i := 40) rfl))) (notFace_of_selects (args := #[]) (mvT hZ (hw _ (List.mem_of_getElem? (i := 42) rfl)))) (mvT hZ (hw _ (List.mem_of_getElem? (i := 42) rfl))) (mvT hZ (hw _ (List.mem_of_getElem? (i := 41) rfl))) (by decide) (backOf (W := 0) (rm7 l Z a0 hw [] b7 (.ref wr_MISSING_HEADER) 0 h8 n0 O8 F_refusal_b7 (Or.inr ⟨_, rfl, rfl⟩)) hZ (hw _ (List.mem_of_getElem? (i := 43) rfl)) (hw _ (List.mem_of_getElem? (i := 16) rfl)) (by decide) (by decide)) qa9 qc9 (g := (mkF m 44 #[.val (.int p1), .val (.int p2), .val (.int (0 : Int32)), .val (.ref wr_MISSING_HEADER), .val (.ref wh_DATE), .val (.ref b7)] [(.ref b7)])) rfl (by rw [hml]; rfl) (Steps.refl _) (argsL := []) (rest := []) (lenOf pd_rm0_3 rfl) rfl (by show 2 * 0 + _ ≤ _; exact Nat.le_of_eq rfl) (hb hby at_44) (fun _ _ => ⟨rfl, e8, (by decide : 1 + 0 ≤ _), (by decide : 2 + 0 ≤ _)⟩)
      dsimp only [Pt.U, Pt.locs, Pt.cells, Pt.slots] at X9 l9 y9 z9 st9 hQ9
      subst l9 y9 z9
      obtain ⟨rfl, Nq9, e9⟩ := hQ9
      have N9 := Fr.app N8 Nq9
      refine Gl.st (fun _ kk => st9.trans kk) ?_
      show Gl p e below s _ _ _ T9 (mkF m 47 #[.val (.int p1), .val (.int p2), .val (.int (0 : Int32)), .val (.ref wr_MISSING_HEADER), .val (.ref wh_DATE), .val (.ref b7)] [(.int (0 : Int32))])
      refine Gl.st (fun _ kk => XS.iloadN X9.here hx rfl (hb hby at_47) rfl kk) ?_
      show Gl p e below s _ _ _ T9 (mkF m 48 #[.val (.int p1), .val (.int p2), .val (.int (0 : Int32)), .val (.ref wr_MISSING_HEADER), .val (.ref wh_DATE), .val (.ref b7)] [(.int (0 : Int32)), (.int (0 : Int32))])
      refine Gl.st (fun _ kk => XS.bipush X9.here hx rfl (hb hby at_48) kk) ?_
      show Gl p e below s _ _ _ T9 (mkF m 50 #[.val (.int p1), .val (.int p2), .val (.int (0 : Int32)), .val (.ref wr_MISSING_HEADER), .val (.ref wh_DATE), .val (.ref b7)] [(.int (10 : Int32)), (.int (0 : Int32)), (.int (0 : Int32))])
      refine Gl.st (fun _ kk => XS.icmpYes X9.here hx rfl (pc0 := 50) (pc' := 57) rfl (hb hby at_50) rfl (feq (by decide : ¬ ((0 : Int32) = (10 : Int32)))).2 (by decide) (by decide) kk) ?_
      show Gl p e below s _ _ _ T9 (mkF m 57 #[.val (.int p1), .val (.int p2), .val (.int (0 : Int32)), .val (.ref wr_MISSING_HEADER), .val (.ref wh_DATE), .val (.ref b7)] [(.int (0 : Int32))])
      refine Gl.st (fun _ kk => XS.iconst X9.here hx rfl (hb hby at_57) kk) ?_
      show Gl p e below s _ _ _ T9 (mkF m 58 #[.val (.int p1), .val (.int p2), .val (.int (0 : Int32)), .val (.ref wr_MISSING_HEADER), .val (.ref wh_DATE), .val (.ref b7)] [(.int (0 : Int32)), (.int (0 : Int32))])
      refine Gl.st (fun _ kk => XS.icmpNo X9.here hx rfl (hb hby at_58) rfl (teq (by decide : (0 : Int32) = (0 : Int32))).2 kk) ?_
      show Gl p e below s _ _ _ T9 (mkF m 61 #[.val (.int p1), .val (.int p2), .val (.int (0 : Int32)), .val (.ref wr_MISSING_HEADER), .val (.ref wh_DATE), .val (.ref b7)] [])
      refine Gl.st (fun _ kk => XS.iconst X9.here hx rfl (hb hby at_61) kk) ?_
      show Gl p e below s _ _ _ T9 (mkF m 62 #[.val (.int p1), .val (.int p2), .val (.int (0 : Int32)), .val (.ref wr_MISSING_HEADER), .val (.ref wh_DATE), .val (.ref b7)] [(.int (1 : Int32))])
      refine Gl.st (fun _ kk => XS.goto X9.here hx rfl (pc0 := 62) (pc' := 66) rfl (hb hby at_62) (by decide) (by decide) kk) ?_
      show Gl p e below s _ _ _ T9 (mkF m 66 #[.val (.int p1), .val (.int p2), .val (.int (0 : Int32)), .val (.ref wr_MISSING_HEADER), .val (.ref wh_DATE), .val (.ref b7)] [(.int (1 : Int32))])
      exact Gl.ret X9 (v := (some (.int (1 : Int32)))) (fun h => by rw [Bd.returns] at h; cases h) (BodyLoose.notSynchronized Bd) (fun hr => retN X9 hx (t := .boolean) Bd.returns (by simp) (hb hby at_66) hr) e9 ⟨rfl, N9⟩ (by decide) (by decide)
    · rw [hm]
      show Gl p e below s _ _ _ T1 (mkF m 21 #[.val (.int p1), .val (.int p2), .val (.int (0 : Int32)), .val (.ref wr_MISSING_HEADER), .unset, .unset] [(.int (2 : Int32))])
      obtain ⟨_, _, ⟨T10, L10, k10, n10⟩, -, X10, ⟨Lc10, hQ10, l10, y10, z10⟩, st10⟩ := Jvm.LawKit.callS X1 hx (y := (⟨"io/github/countersign/VerdictIsValidPinLaw", "headerAt", "(I)Lio/github/countersign/Header;"⟩ : MethodName)) hown (mvT hZ (hw _ (List.mem_of_getElem? (i := 8) rfl))) (mvT hZ (hw _ (List.mem_of_getElem? (i := 9) rfl))) (mvT hZ (hw _ (List.mem_of_getElem? (i := 3) rfl))) (mvT hZ (hw _ (List.mem_of_getElem? (i := 10) rfl))) (by decide) (backOf (W := 0) (rm2 l Z a0 hw [] 2 wh_API_KEY wh_DATE wh_VERSION wh_SIGNATURE wh_VERSION h0 n0 O0 Sh_API_KEY Sh_DATE Sh_VERSION Sh_SIGNATURE (Or.inr (Or.inr (Or.inl ⟨rfl, rfl⟩)))) hZ (hw _ (List.mem_of_getElem? (i := 10) rfl)) (hw _ (List.mem_of_getElem? (i := 3) rfl)) (by decide) (by decide)) (g := (mkF m 21 #[.val (.int p1), .val (.int p2), .val (.int (0 : Int32)), .val (.ref wr_MISSING_HEADER), .unset, .unset] [(.int (2 : Int32))])) rfl (by rw [hml]; rfl) (argsL := [(.int (2 : Int32))]) (rest := []) (lenOf pd_rm0_1 rfl) rfl (by show 2 * 0 + _ ≤ _; exact Nat.le_of_eq rfl) (hb hby at_21) (fun _ _ => ⟨rfl, e1, (by decide : 0 + 0 ≤ _), (by decide : 0 + 0 ≤ _)⟩)
      dsimp only [Pt.U, Pt.locs, Pt.cells, Pt.slots] at X10 l10 y10 z10 st10 hQ10
      subst l10 y10 z10
      obtain ⟨rfl, Nq10, e10⟩ := hQ10
      have N10 := Fr.app N1 Nq10
      refine Gl.st st10 ?_
      show Gl p e below s _ _ _ T10 (mkF m 24 #[.val (.int p1), .val (.int p2), .val (.int (0 : Int32)), .val (.ref wr_MISSING_HEADER), .unset, .unset] [(.ref wh_VERSION)])
      refine Gl.st (fun _ kk => XS.goto X10.here hx rfl (pc0 := 24) (pc' := 28) rfl (hb hby at_24) (by decide) (by decide) kk) ?_
      show Gl p e below s _ _ _ T10 (mkF m 28 #[.val (.int p1), .val (.int p2), .val (.int (0 : Int32)), .val (.ref wr_MISSING_HEADER), .unset, .unset] [(.ref wh_VERSION)])
      refine Gl.st (fun _ kk => XS.astore X10.here hx rfl (hb hby at_28) rfl rfl (l' := #[.val (.int p1), .val (.int p2), .val (.int (0 : Int32)), .val (.ref wr_MISSING_HEADER), .val (.ref wh_VERSION), .unset]) rfl kk) ?_
      show Gl p e below s _ _ _ T10 (mkF m 30 #[.val (.int p1), .val (.int p2), .val (.int (0 : Int32)), .val (.ref wr_MISSING_HEADER), .val (.ref wh_VERSION), .unset] [])
      obtain ⟨T11, h11, X11, e11, E11, A11, D11, V11, st11⟩ := newO X10 hx hZ hown (hw _ (List.mem_of_getElem? (i := 14) rfl)) (hw _ (List.mem_of_getElem? (i := 15) rfl)) (hw _ (List.mem_of_getElem? (i := 16) rfl)) e10 (g := (mkF m 30 #[.val (.int p1), .val (.int p2), .val (.int (0 : Int32)), .val (.ref wr_MISSING_HEADER), .val (.ref wh_VERSION), .unset] [])) rfl (hb hby at_30) (by decide) (by decide)
      obtain ⟨b11, g11⟩ : ∃ z, z = h0.size := ⟨_, rfl⟩
      rw [← g11] at A11 D11 V11 st11
      refine Gl.st st11 ?_
      have ge_b11 : n0 ≤ b11 := Nat.le_trans (Nat.le_trans (Nat.le_of_eq O0.1.symm) O0.2.1) (Nat.le_of_eq g11.symm)
      have fr_b11 : h0.size ≤ b11 := Nat.le_trans (Nat.le_refl _) (Nat.le_of_eq g11.symm)
      have O11 := O0.ext E11
      have K11 := (Keep.refl h0 []).ext E11
      have Exa_b11 := A11
      have F_refusal_b11 : Fld Z h11 b11 "io/github/countersign/Verdict" "refusal" "Lio/github/countersign/Refusal;" .null := D11 (Or.inr (hw _ (List.mem_of_getElem? (i := 36) rfl))) (ty := (.object "io/github/countersign/Refusal")) (by decide)
      have F_header_b11 : Fld Z h11 b11 "io/github/countersign/Verdict" "header" "Lio/github/countersign/Header;" .null := D11 (Or.inr (hw _ (List.mem_of_getElem? (i := 38) rfl))) (ty := (.object "io/github/countersign/Header")) (by decide)
      show Gl p e below s _ _ _ T11 (mkF m 33 #[.val (.int p1), .val (.int p2), .val (.int (0 : Int32)), .val (.ref wr_MISSING_HEADER), .val (.ref wh_VERSION), .unset] [(.ref b11)])
      refine Gl.st (fun _ kk => XS.dup X11.here hx rfl (hb hby at_33) rfl rfl kk) ?_
      show Gl p e below s _ _ _ T11 (mkF m 34 #[.val (.int p1), .val (.int p2), .val (.int (0 : Int32)), .val (.ref wr_MISSING_HEADER), .val (.ref wh_VERSION), .unset] [(.ref b11), (.ref b11)])
      refine Gl.st (fun _ kk => XS.aloadN X11.here hx rfl (hb hby at_34) rfl rfl kk) ?_
      show Gl p e below s _ _ _ T11 (mkF m 35 #[.val (.int p1), .val (.int p2), .val (.int (0 : Int32)), .val (.ref wr_MISSING_HEADER), .val (.ref wh_VERSION), .unset] [(.ref wr_MISSING_HEADER), (.ref b11), (.ref b11)])
      refine Gl.st (fun _ kk => XS.aload X11.here hx rfl (hb hby at_35) rfl rfl kk) ?_
      show Gl p e below s _ _ _ T11 (mkF m 37 #[.val (.int p1), .val (.int p2), .val (.int (0 : Int32)), .val (.ref wr_MISSING_HEADER), .val (.ref wh_VERSION), .unset] [(.ref wh_VERSION), (.ref wr_MISSING_HEADER), (.ref b11), (.ref b11)])
      obtain ⟨_, _, ⟨T12, L12, k12, n12⟩, -, X12, ⟨Lc12, hQ12, l12, y12, z12⟩, st12⟩ := X11.specialBack hx (y := (⟨"io/github/countersign/Verdict", "<init>", "(Lio/github/countersign/Refusal;Lio/github/countersign/Header;)V"⟩ : MethodName)) rfl hown (mvT hZ (hw _ (List.mem_of_getElem? (i := 17) rfl))) (mvT hZ (hw _ (List.mem_of_getElem? (i := 18) rfl))) (mvT hZ (hw _ (List.mem_of_getElem? (i := 19) rfl))) (by decide) (backOf (W := 1) (rm3h l Z a0 hw [] b11 wr_MISSING_HEADER wh_VERSION h11 n0 O11 Exa_b11 F_refusal_b11 F_header_b11 ge_b11 Er_MISSING_HEADER Fr_MISSING_HEADER) hZ (hw _ (List.mem_of_getElem? (i := 19) rfl)) (hw _ (List.mem_of_getElem? (i := 16) rfl)) (by decide) (by decide)) (g := (mkF m 37 #[.val (.int p1), .val (.int p2), .val (.int (0 : Int32)), .val (.ref wr_MISSING_HEADER), .val (.ref wh_VERSION), .unset] [(.ref wh_VERSION), (.ref wr_MISSING_HEADER), (.ref b11), (.ref b11)])) rfl (by rw [hml]; rfl) (Steps.refl _) (a := b11) (argsL := [(.ref wr_MISSING_HEADER), (.ref wh_VERSION)]) (rest := [(.ref b11)]) (lenOf pd_rm0_2 rfl) rfl (by show 2 * 0 + _ ≤ _; exact Nat.le_of_eq rfl) (hb hby at_37) (fun _ _ => ⟨rfl, e11, (by decide : 1 + 0 ≤ _), (by decide : 2 + 0 ≤ _)⟩)
      dsimp only [Pt.U, Pt.locs, Pt.cells, Pt.slots] at X12 l12 y12 z12 st12 hQ12
      subst l12 y12 z12
      obtain ⟨h12, e12⟩ : ∃ z, T12.heap = z := ⟨_, rfl⟩
      rw [e12] at hQ12
      obtain ⟨rfl, Nq12, Kq12, Eq12, Fq12⟩ := hQ12
      have N12 := Fr.app N10 Nq12
      refine Gl.st (fun _ kk => st12.trans kk) ?_
      have Exa_b11 := Exa_b11.keep Kq12
      have O12 := O11.keep Kq12 (allS ge_b11 all0)
      have K12 := K11.trans Kq12 (allS (Or.inr fr_b11) all0)
      have F_refusal_b11 := Fq12
      show Gl p e below s _ _ _ T12 (mkF m 40 #[.val (.int p1), .val (.int p2), .val (.int (0 : Int32)), .val (.ref wr_MISSING_HEADER), .val (.ref wh_VERSION), .unset] [(.ref b11)])
      refine Gl.st (fun _ kk => XS.astore X12.here hx rfl (hb hby at_40) rfl rfl (l' := #[.val (.int p1), .val (.int p2), .val (.int (0 : Int32)), .val (.ref wr_MISSING_HEADER), .val (.ref wh_VERSION), .val (.ref b11)]) rfl kk) ?_
      show Gl p e below s _ _ _ T12 (mkF m 42 #[.val (.int p1), .val (.int p2), .val (.int (0 : Int32)), .val (.ref wr_MISSING_HEADER), .val (.ref wh_VERSION), .val (.ref b11)] [])
      refine Gl.st (fun _ kk => XS.aload X12.here hx rfl (hb hby at_42) rfl rfl kk) ?_
      show Gl p e below s _ _ _ T12 (mkF m 44 #[.val (.int p1), .val (.int p2), .val (.int (0 : Int32)), .val (.ref wr_MISSING_HEADER), .val (.ref wh_VERSION), .val (.ref b11)] [(.ref b11)])
      obtain ⟨cq13, kq13, qa13, qb13, qc13⟩ := isOf hZ e12 Exa_b11
      obtain ⟨_, _, ⟨T13, L13, k13, n13⟩, -, X13, ⟨Lc13, hQ13, l13, y13, z13⟩, st13⟩ := X12.virtualBack hx (y := (⟨"io/github/countersign/Verdict", "isValid", "()Z"⟩ : MethodName)) (z := (⟨"io/github/countersign/Verdict", "isValid", "()Z"⟩ : MethodName)) hown (mvT hZ (hw _ (List.mem_of_getElem? (i := 39) rfl))) (mvT hZ (hw _ (List.mem_of_getElem? (i := 40) rfl))) (notFace_of_selects (args := #[]) (mvT hZ (hw _ (List.mem_of_getElem? (i := 42) rfl)))) (mvT hZ (hw _ (List.mem_of_getElem? (i := 42) rfl))) (mvT hZ (hw _ (List.mem_of_getElem? (i := 41) rfl))) (by decide) (backOf (W := 0) (rm7 l Z a0 hw [] b11 (.ref wr_MISSING_HEADER) 0 h12 n0 O12 F_refusal_b11 (Or.inr ⟨_, rfl, rfl⟩)) hZ (hw _ (List.mem_of_getElem? (i := 43) rfl)) (hw _ (List.mem_of_getElem? (i := 16) rfl)) (by decide) (by decide)) qa13 qc13 (g := (mkF m 44 #[.val (.int p1), .val (.int p2), .val (.int (0 : Int32)), .val (.ref wr_MISSING_HEADER), .val (.ref wh_VERSION), .val (.ref b11)] [(.ref b11)])) rfl (by rw [hml]; rfl) (Steps.refl _) (argsL := []) (rest := []) (lenOf pd_rm0_3 rfl) rfl (by show 2 * 0 + _ ≤ _; exact Nat.le_of_eq rfl) (hb hby at_44) (fun _ _ => ⟨rfl, e12, (by decide : 1 + 0 ≤ _), (by decide : 2 + 0 ≤ _)⟩)
      dsimp only [Pt.U, Pt.locs, Pt.cells, Pt.slots] at X13 l13 y13 z13 st13 hQ13
      subst l13 y13 z13
      obtain ⟨rfl, Nq13, e13⟩ := hQ13
      have N13 := Fr.app N12 Nq13
      refine Gl.st (fun _ kk => st13.trans kk) ?_
      show Gl p e below s _ _ _ T13 (mkF m 47 #[.val (.int p1), .val (.int p2), .val (.int (0 : Int32)), .val (.ref wr_MISSING_HEADER), .val (.ref wh_VERSION), .val (.ref b11)] [(.int (0 : Int32))])
      refine Gl.st (fun _ kk => XS.iloadN X13.here hx rfl (hb hby at_47) rfl kk) ?_
      show Gl p e below s _ _ _ T13 (mkF m 48 #[.val (.int p1), .val (.int p2), .val (.int (0 : Int32)), .val (.ref wr_MISSING_HEADER), .val (.ref wh_VERSION), .val (.ref b11)] [(.int (0 : Int32)), (.int (0 : Int32))])
      refine Gl.st (fun _ kk => XS.bipush X13.here hx rfl (hb hby at_48) kk) ?_
      show Gl p e below s _ _ _ T13 (mkF m 50 #[.val (.int p1), .val (.int p2), .val (.int (0 : Int32)), .val (.ref wr_MISSING_HEADER), .val (.ref wh_VERSION), .val (.ref b11)] [(.int (10 : Int32)), (.int (0 : Int32)), (.int (0 : Int32))])
      refine Gl.st (fun _ kk => XS.icmpYes X13.here hx rfl (pc0 := 50) (pc' := 57) rfl (hb hby at_50) rfl (feq (by decide : ¬ ((0 : Int32) = (10 : Int32)))).2 (by decide) (by decide) kk) ?_
      show Gl p e below s _ _ _ T13 (mkF m 57 #[.val (.int p1), .val (.int p2), .val (.int (0 : Int32)), .val (.ref wr_MISSING_HEADER), .val (.ref wh_VERSION), .val (.ref b11)] [(.int (0 : Int32))])
      refine Gl.st (fun _ kk => XS.iconst X13.here hx rfl (hb hby at_57) kk) ?_
      show Gl p e below s _ _ _ T13 (mkF m 58 #[.val (.int p1), .val (.int p2), .val (.int (0 : Int32)), .val (.ref wr_MISSING_HEADER), .val (.ref wh_VERSION), .val (.ref b11)] [(.int (0 : Int32)), (.int (0 : Int32))])
      refine Gl.st (fun _ kk => XS.icmpNo X13.here hx rfl (hb hby at_58) rfl (teq (by decide : (0 : Int32) = (0 : Int32))).2 kk) ?_
      show Gl p e below s _ _ _ T13 (mkF m 61 #[.val (.int p1), .val (.int p2), .val (.int (0 : Int32)), .val (.ref wr_MISSING_HEADER), .val (.ref wh_VERSION), .val (.ref b11)] [])
      refine Gl.st (fun _ kk => XS.iconst X13.here hx rfl (hb hby at_61) kk) ?_
      show Gl p e below s _ _ _ T13 (mkF m 62 #[.val (.int p1), .val (.int p2), .val (.int (0 : Int32)), .val (.ref wr_MISSING_HEADER), .val (.ref wh_VERSION), .val (.ref b11)] [(.int (1 : Int32))])
      refine Gl.st (fun _ kk => XS.goto X13.here hx rfl (pc0 := 62) (pc' := 66) rfl (hb hby at_62) (by decide) (by decide) kk) ?_
      show Gl p e below s _ _ _ T13 (mkF m 66 #[.val (.int p1), .val (.int p2), .val (.int (0 : Int32)), .val (.ref wr_MISSING_HEADER), .val (.ref wh_VERSION), .val (.ref b11)] [(.int (1 : Int32))])
      exact Gl.ret X13 (v := (some (.int (1 : Int32)))) (fun h => by rw [Bd.returns] at h; cases h) (BodyLoose.notSynchronized Bd) (fun hr => retN X13 hx (t := .boolean) Bd.returns (by simp) (hb hby at_66) hr) e13 ⟨rfl, N13⟩ (by decide) (by decide)
    · rw [hm]
      show Gl p e below s _ _ _ T1 (mkF m 21 #[.val (.int p1), .val (.int p2), .val (.int (0 : Int32)), .val (.ref wr_MISSING_HEADER), .unset, .unset] [(.int (3 : Int32))])
      obtain ⟨_, _, ⟨T14, L14, k14, n14⟩, -, X14, ⟨Lc14, hQ14, l14, y14, z14⟩, st14⟩ := Jvm.LawKit.callS X1 hx (y := (⟨"io/github/countersign/VerdictIsValidPinLaw", "headerAt", "(I)Lio/github/countersign/Header;"⟩ : MethodName)) hown (mvT hZ (hw _ (List.mem_of_getElem? (i := 8) rfl))) (mvT hZ (hw _ (List.mem_of_getElem? (i := 9) rfl))) (mvT hZ (hw _ (List.mem_of_getElem? (i := 3) rfl))) (mvT hZ (hw _ (List.mem_of_getElem? (i := 10) rfl))) (by decide) (backOf (W := 0) (rm2 l Z a0 hw [] 3 wh_API_KEY wh_DATE wh_VERSION wh_SIGNATURE wh_SIGNATURE h0 n0 O0 Sh_API_KEY Sh_DATE Sh_VERSION Sh_SIGNATURE (Or.inr (Or.inr (Or.inr (⟨rfl, rfl⟩))))) hZ (hw _ (List.mem_of_getElem? (i := 10) rfl)) (hw _ (List.mem_of_getElem? (i := 3) rfl)) (by decide) (by decide)) (g := (mkF m 21 #[.val (.int p1), .val (.int p2), .val (.int (0 : Int32)), .val (.ref wr_MISSING_HEADER), .unset, .unset] [(.int (3 : Int32))])) rfl (by rw [hml]; rfl) (argsL := [(.int (3 : Int32))]) (rest := []) (lenOf pd_rm0_1 rfl) rfl (by show 2 * 0 + _ ≤ _; exact Nat.le_of_eq rfl) (hb hby at_21) (fun _ _ => ⟨rfl, e1, (by decide : 0 + 0 ≤ _), (by decide : 0 + 0 ≤ _)⟩)
      dsimp only [Pt.U, Pt.locs, Pt.cells, Pt.slots] at X14 l14 y14 z14 st14 hQ14
      subst l14 y14 z14
      obtain ⟨rfl, Nq14, e14⟩ := hQ14
      have N14 := Fr.app N1 Nq14
      refine Gl.st st14 ?_
      show Gl p e below s _ _ _ T14 (mkF m 24 #[.val (.int p1), .val (.int p2), .val (.int (0 : Int32)), .val (.ref wr_MISSING_HEADER), .unset, .unset] [(.ref wh_SIGNATURE)])
      refine Gl.st (fun _ kk => XS.goto X14.here hx rfl (pc0 := 24) (pc' := 28) rfl (hb hby at_24) (by decide) (by decide) kk) ?_
      show Gl p e below s _ _ _ T14 (mkF m 28 #[.val (.int p1), .val (.int p2), .val (.int (0 : Int32)), .val (.ref wr_MISSING_HEADER), .unset, .unset] [(.ref wh_SIGNATURE)])
      refine Gl.st (fun _ kk => XS.astore X14.here hx rfl (hb hby at_28) rfl rfl (l' := #[.val (.int p1), .val (.int p2), .val (.int (0 : Int32)), .val (.ref wr_MISSING_HEADER), .val (.ref wh_SIGNATURE), .unset]) rfl kk) ?_
      show Gl p e below s _ _ _ T14 (mkF m 30 #[.val (.int p1), .val (.int p2), .val (.int (0 : Int32)), .val (.ref wr_MISSING_HEADER), .val (.ref wh_SIGNATURE), .unset] [])
      obtain ⟨T15, h15, X15, e15, E15, A15, D15, V15, st15⟩ := newO X14 hx hZ hown (hw _ (List.mem_of_getElem? (i := 14) rfl)) (hw _ (List.mem_of_getElem? (i := 15) rfl)) (hw _ (List.mem_of_getElem? (i := 16) rfl)) e14 (g := (mkF m 30 #[.val (.int p1), .val (.int p2), .val (.int (0 : Int32)), .val (.ref wr_MISSING_HEADER), .val (.ref wh_SIGNATURE), .unset] [])) rfl (hb hby at_30) (by decide) (by decide)
      obtain ⟨b15, g15⟩ : ∃ z, z = h0.size := ⟨_, rfl⟩
      rw [← g15] at A15 D15 V15 st15
      refine Gl.st st15 ?_
      have ge_b15 : n0 ≤ b15 := Nat.le_trans (Nat.le_trans (Nat.le_of_eq O0.1.symm) O0.2.1) (Nat.le_of_eq g15.symm)
      have fr_b15 : h0.size ≤ b15 := Nat.le_trans (Nat.le_refl _) (Nat.le_of_eq g15.symm)
      have O15 := O0.ext E15
      have K15 := (Keep.refl h0 []).ext E15
      have Exa_b15 := A15
      have F_refusal_b15 : Fld Z h15 b15 "io/github/countersign/Verdict" "refusal" "Lio/github/countersign/Refusal;" .null := D15 (Or.inr (hw _ (List.mem_of_getElem? (i := 36) rfl))) (ty := (.object "io/github/countersign/Refusal")) (by decide)
      have F_header_b15 : Fld Z h15 b15 "io/github/countersign/Verdict" "header" "Lio/github/countersign/Header;" .null := D15 (Or.inr (hw _ (List.mem_of_getElem? (i := 38) rfl))) (ty := (.object "io/github/countersign/Header")) (by decide)
      show Gl p e below s _ _ _ T15 (mkF m 33 #[.val (.int p1), .val (.int p2), .val (.int (0 : Int32)), .val (.ref wr_MISSING_HEADER), .val (.ref wh_SIGNATURE), .unset] [(.ref b15)])
      refine Gl.st (fun _ kk => XS.dup X15.here hx rfl (hb hby at_33) rfl rfl kk) ?_
      show Gl p e below s _ _ _ T15 (mkF m 34 #[.val (.int p1), .val (.int p2), .val (.int (0 : Int32)), .val (.ref wr_MISSING_HEADER), .val (.ref wh_SIGNATURE), .unset] [(.ref b15), (.ref b15)])
      refine Gl.st (fun _ kk => XS.aloadN X15.here hx rfl (hb hby at_34) rfl rfl kk) ?_
      show Gl p e below s _ _ _ T15 (mkF m 35 #[.val (.int p1), .val (.int p2), .val (.int (0 : Int32)), .val (.ref wr_MISSING_HEADER), .val (.ref wh_SIGNATURE), .unset] [(.ref wr_MISSING_HEADER), (.ref b15), (.ref b15)])
      refine Gl.st (fun _ kk => XS.aload X15.here hx rfl (hb hby at_35) rfl rfl kk) ?_
      show Gl p e below s _ _ _ T15 (mkF m 37 #[.val (.int p1), .val (.int p2), .val (.int (0 : Int32)), .val (.ref wr_MISSING_HEADER), .val (.ref wh_SIGNATURE), .unset] [(.ref wh_SIGNATURE), (.ref wr_MISSING_HEADER), (.ref b15), (.ref b15)])
      obtain ⟨_, _, ⟨T16, L16, k16, n16⟩, -, X16, ⟨Lc16, hQ16, l16, y16, z16⟩, st16⟩ := X15.specialBack hx (y := (⟨"io/github/countersign/Verdict", "<init>", "(Lio/github/countersign/Refusal;Lio/github/countersign/Header;)V"⟩ : MethodName)) rfl hown (mvT hZ (hw _ (List.mem_of_getElem? (i := 17) rfl))) (mvT hZ (hw _ (List.mem_of_getElem? (i := 18) rfl))) (mvT hZ (hw _ (List.mem_of_getElem? (i := 19) rfl))) (by decide) (backOf (W := 1) (rm3h l Z a0 hw [] b15 wr_MISSING_HEADER wh_SIGNATURE h15 n0 O15 Exa_b15 F_refusal_b15 F_header_b15 ge_b15 Er_MISSING_HEADER Fr_MISSING_HEADER) hZ (hw _ (List.mem_of_getElem? (i := 19) rfl)) (hw _ (List.mem_of_getElem? (i := 16) rfl)) (by decide) (by decide)) (g := (mkF m 37 #[.val (.int p1), .val (.int p2), .val (.int (0 : Int32)), .val (.ref wr_MISSING_HEADER), .val (.ref wh_SIGNATURE), .unset] [(.ref wh_SIGNATURE), (.ref wr_MISSING_HEADER), (.ref b15), (.ref b15)])) rfl (by rw [hml]; rfl) (Steps.refl _) (a := b15) (argsL := [(.ref wr_MISSING_HEADER), (.ref wh_SIGNATURE)]) (rest := [(.ref b15)]) (lenOf pd_rm0_2 rfl) rfl (by show 2 * 0 + _ ≤ _; exact Nat.le_of_eq rfl) (hb hby at_37) (fun _ _ => ⟨rfl, e15, (by decide : 1 + 0 ≤ _), (by decide : 2 + 0 ≤ _)⟩)
      dsimp only [Pt.U, Pt.locs, Pt.cells, Pt.slots] at X16 l16 y16 z16 st16 hQ16
      subst l16 y16 z16
      obtain ⟨h16, e16⟩ : ∃ z, T16.heap = z := ⟨_, rfl⟩
      rw [e16] at hQ16
      obtain ⟨rfl, Nq16, Kq16, Eq16, Fq16⟩ := hQ16
      have N16 := Fr.app N14 Nq16
      refine Gl.st (fun _ kk => st16.trans kk) ?_
      have Exa_b15 := Exa_b15.keep Kq16
      have O16 := O15.keep Kq16 (allS ge_b15 all0)
      have K16 := K15.trans Kq16 (allS (Or.inr fr_b15) all0)
      have F_refusal_b15 := Fq16
      show Gl p e below s _ _ _ T16 (mkF m 40 #[.val (.int p1), .val (.int p2), .val (.int (0 : Int32)), .val (.ref wr_MISSING_HEADER), .val (.ref wh_SIGNATURE), .unset] [(.ref b15)])
      refine Gl.st (fun _ kk => XS.astore X16.here hx rfl (hb hby at_40) rfl rfl (l' := #[.val (.int p1), .val (.int p2), .val (.int (0 : Int32)), .val (.ref wr_MISSING_HEADER), .val (.ref wh_SIGNATURE), .val (.ref b15)]) rfl kk) ?_
      show Gl p e below s _ _ _ T16 (mkF m 42 #[.val (.int p1), .val (.int p2), .val (.int (0 : Int32)), .val (.ref wr_MISSING_HEADER), .val (.ref wh_SIGNATURE), .val (.ref b15)] [])
      refine Gl.st (fun _ kk => XS.aload X16.here hx rfl (hb hby at_42) rfl rfl kk) ?_
      show Gl p e below s _ _ _ T16 (mkF m 44 #[.val (.int p1), .val (.int p2), .val (.int (0 : Int32)), .val (.ref wr_MISSING_HEADER), .val (.ref wh_SIGNATURE), .val (.ref b15)] [(.ref b15)])
      obtain ⟨cq17, kq17, qa17, qb17, qc17⟩ := isOf hZ e16 Exa_b15
      obtain ⟨_, _, ⟨T17, L17, k17, n17⟩, -, X17, ⟨Lc17, hQ17, l17, y17, z17⟩, st17⟩ := X16.virtualBack hx (y := (⟨"io/github/countersign/Verdict", "isValid", "()Z"⟩ : MethodName)) (z := (⟨"io/github/countersign/Verdict", "isValid", "()Z"⟩ : MethodName)) hown (mvT hZ (hw _ (List.mem_of_getElem? (i := 39) rfl))) (mvT hZ (hw _ (List.mem_of_getElem? (i := 40) rfl))) (notFace_of_selects (args := #[]) (mvT hZ (hw _ (List.mem_of_getElem? (i := 42) rfl)))) (mvT hZ (hw _ (List.mem_of_getElem? (i := 42) rfl))) (mvT hZ (hw _ (List.mem_of_getElem? (i := 41) rfl))) (by decide) (backOf (W := 0) (rm7 l Z a0 hw [] b15 (.ref wr_MISSING_HEADER) 0 h16 n0 O16 F_refusal_b15 (Or.inr ⟨_, rfl, rfl⟩)) hZ (hw _ (List.mem_of_getElem? (i := 43) rfl)) (hw _ (List.mem_of_getElem? (i := 16) rfl)) (by decide) (by decide)) qa17 qc17 (g := (mkF m 44 #[.val (.int p1), .val (.int p2), .val (.int (0 : Int32)), .val (.ref wr_MISSING_HEADER), .val (.ref wh_SIGNATURE), .val (.ref b15)] [(.ref b15)])) rfl (by rw [hml]; rfl) (Steps.refl _) (argsL := []) (rest := []) (lenOf pd_rm0_3 rfl) rfl (by show 2 * 0 + _ ≤ _; exact Nat.le_of_eq rfl) (hb hby at_44) (fun _ _ => ⟨rfl, e16, (by decide : 1 + 0 ≤ _), (by decide : 2 + 0 ≤ _)⟩)
      dsimp only [Pt.U, Pt.locs, Pt.cells, Pt.slots] at X17 l17 y17 z17 st17 hQ17
      subst l17 y17 z17
      obtain ⟨rfl, Nq17, e17⟩ := hQ17
      have N17 := Fr.app N16 Nq17
      refine Gl.st (fun _ kk => st17.trans kk) ?_
      show Gl p e below s _ _ _ T17 (mkF m 47 #[.val (.int p1), .val (.int p2), .val (.int (0 : Int32)), .val (.ref wr_MISSING_HEADER), .val (.ref wh_SIGNATURE), .val (.ref b15)] [(.int (0 : Int32))])
      refine Gl.st (fun _ kk => XS.iloadN X17.here hx rfl (hb hby at_47) rfl kk) ?_
      show Gl p e below s _ _ _ T17 (mkF m 48 #[.val (.int p1), .val (.int p2), .val (.int (0 : Int32)), .val (.ref wr_MISSING_HEADER), .val (.ref wh_SIGNATURE), .val (.ref b15)] [(.int (0 : Int32)), (.int (0 : Int32))])
      refine Gl.st (fun _ kk => XS.bipush X17.here hx rfl (hb hby at_48) kk) ?_
      show Gl p e below s _ _ _ T17 (mkF m 50 #[.val (.int p1), .val (.int p2), .val (.int (0 : Int32)), .val (.ref wr_MISSING_HEADER), .val (.ref wh_SIGNATURE), .val (.ref b15)] [(.int (10 : Int32)), (.int (0 : Int32)), (.int (0 : Int32))])
      refine Gl.st (fun _ kk => XS.icmpYes X17.here hx rfl (pc0 := 50) (pc' := 57) rfl (hb hby at_50) rfl (feq (by decide : ¬ ((0 : Int32) = (10 : Int32)))).2 (by decide) (by decide) kk) ?_
      show Gl p e below s _ _ _ T17 (mkF m 57 #[.val (.int p1), .val (.int p2), .val (.int (0 : Int32)), .val (.ref wr_MISSING_HEADER), .val (.ref wh_SIGNATURE), .val (.ref b15)] [(.int (0 : Int32))])
      refine Gl.st (fun _ kk => XS.iconst X17.here hx rfl (hb hby at_57) kk) ?_
      show Gl p e below s _ _ _ T17 (mkF m 58 #[.val (.int p1), .val (.int p2), .val (.int (0 : Int32)), .val (.ref wr_MISSING_HEADER), .val (.ref wh_SIGNATURE), .val (.ref b15)] [(.int (0 : Int32)), (.int (0 : Int32))])
      refine Gl.st (fun _ kk => XS.icmpNo X17.here hx rfl (hb hby at_58) rfl (teq (by decide : (0 : Int32) = (0 : Int32))).2 kk) ?_
      show Gl p e below s _ _ _ T17 (mkF m 61 #[.val (.int p1), .val (.int p2), .val (.int (0 : Int32)), .val (.ref wr_MISSING_HEADER), .val (.ref wh_SIGNATURE), .val (.ref b15)] [])
      refine Gl.st (fun _ kk => XS.iconst X17.here hx rfl (hb hby at_61) kk) ?_
      show Gl p e below s _ _ _ T17 (mkF m 62 #[.val (.int p1), .val (.int p2), .val (.int (0 : Int32)), .val (.ref wr_MISSING_HEADER), .val (.ref wh_SIGNATURE), .val (.ref b15)] [(.int (1 : Int32))])
      refine Gl.st (fun _ kk => XS.goto X17.here hx rfl (pc0 := 62) (pc' := 66) rfl (hb hby at_62) (by decide) (by decide) kk) ?_
      show Gl p e below s _ _ _ T17 (mkF m 66 #[.val (.int p1), .val (.int p2), .val (.int (0 : Int32)), .val (.ref wr_MISSING_HEADER), .val (.ref wh_SIGNATURE), .val (.ref b15)] [(.int (1 : Int32))])
      exact Gl.ret X17 (v := (some (.int (1 : Int32)))) (fun h => by rw [Bd.returns] at h; cases h) (BodyLoose.notSynchronized Bd) (fun hr => retN X17 hx (t := .boolean) Bd.returns (by simp) (hb hby at_66) hr) e17 ⟨rfl, N17⟩ (by decide) (by decide)
  · rw [hk]
    show Gl p e below s _ _ _ s₁ (mkF m 8 #[.val (.int p1), .val (.int p2), .val (.int (1 : Int32)), .unset, .unset, .unset] [])
    refine Gl.st (fun _ kk => XS.iloadN X0.here hx rfl (hb hby at_8) rfl kk) ?_
    show Gl p e below s _ _ _ s₁ (mkF m 9 #[.val (.int p1), .val (.int p2), .val (.int (1 : Int32)), .unset, .unset, .unset] [(.int (1 : Int32))])
    obtain ⟨_, _, ⟨T18, L18, k18, n18⟩, -, X18, ⟨Lc18, hQ18, l18, y18, z18⟩, st18⟩ := Jvm.LawKit.callS X0 hx (y := (⟨"io/github/countersign/VerdictIsValidPinLaw", "refusalAt", "(I)Lio/github/countersign/Refusal;"⟩ : MethodName)) hown (mvT hZ (hw _ (List.mem_of_getElem? (i := 1) rfl))) (mvT hZ (hw _ (List.mem_of_getElem? (i := 2) rfl))) (mvT hZ (hw _ (List.mem_of_getElem? (i := 3) rfl))) (mvT hZ (hw _ (List.mem_of_getElem? (i := 4) rfl))) (by decide) (backOf (W := 0) (rm1 l Z a0 hw [] 1 wr_MISSING_HEADER wr_DUPLICATE_HEADER wr_UNSUPPORTED_VERSION wr_BAD_DATE wr_STALE wr_UNKNOWN_API_KEY wr_MALFORMED_METHOD wr_MALFORMED_TARGET wr_SIGNATURE_MISMATCH wr_REPLAYED (.ref wr_DUPLICATE_HEADER) h0 n0 O0 Sr_MISSING_HEADER Sr_DUPLICATE_HEADER Sr_UNSUPPORTED_VERSION Sr_BAD_DATE Sr_STALE Sr_UNKNOWN_API_KEY Sr_MALFORMED_METHOD Sr_MALFORMED_TARGET Sr_SIGNATURE_MISMATCH Sr_REPLAYED (Or.inr (Or.inl ⟨rfl, rfl⟩))) hZ (hw _ (List.mem_of_getElem? (i := 4) rfl)) (hw _ (List.mem_of_getElem? (i := 3) rfl)) (by decide) (by decide)) (g := (mkF m 9 #[.val (.int p1), .val (.int p2), .val (.int (1 : Int32)), .unset, .unset, .unset] [(.int (1 : Int32))])) rfl (by rw [hml]; rfl) (argsL := [(.int (1 : Int32))]) (rest := []) (lenOf pd_rm0_0 rfl) rfl (by show 2 * 0 + _ ≤ _; exact Nat.le_of_eq rfl) (hb hby at_9) (fun _ _ => ⟨rfl, e0, (by decide : 0 + 0 ≤ _), (by decide : 0 + 0 ≤ _)⟩)
    dsimp only [Pt.U, Pt.locs, Pt.cells, Pt.slots] at X18 l18 y18 z18 st18 hQ18
    subst l18 y18 z18
    obtain ⟨rfl, Nq18, e18⟩ := hQ18
    have N18 := Fr.app N0 Nq18
    refine Gl.st st18 ?_
    show Gl p e below s _ _ _ T18 (mkF m 12 #[.val (.int p1), .val (.int p2), .val (.int (1 : Int32)), .unset, .unset, .unset] [(.ref wr_DUPLICATE_HEADER)])
    refine Gl.st (fun _ kk => XS.astoreN X18.here hx rfl (hb hby at_12) rfl rfl (l' := #[.val (.int p1), .val (.int p2), .val (.int (1 : Int32)), .val (.ref wr_DUPLICATE_HEADER), .unset, .unset]) rfl kk) ?_
    show Gl p e below s _ _ _ T18 (mkF m 13 #[.val (.int p1), .val (.int p2), .val (.int (1 : Int32)), .val (.ref wr_DUPLICATE_HEADER), .unset, .unset] [])
    refine Gl.st (fun _ kk => XS.iloadN X18.here hx rfl (hb hby at_13) rfl kk) ?_
    show Gl p e below s _ _ _ T18 (mkF m 14 #[.val (.int p1), .val (.int p2), .val (.int (1 : Int32)), .val (.ref wr_DUPLICATE_HEADER), .unset, .unset] [(.int (1 : Int32))])
    refine Gl.st (fun _ kk => XS.iconst X18.here hx rfl (hb hby at_14) kk) ?_
    show Gl p e below s _ _ _ T18 (mkF m 15 #[.val (.int p1), .val (.int p2), .val (.int (1 : Int32)), .val (.ref wr_DUPLICATE_HEADER), .unset, .unset] [(.int (2 : Int32)), (.int (1 : Int32))])
    refine Gl.st (fun _ kk => XS.icmpNo X18.here hx rfl (hb hby at_15) rfl (tlt (by decide : (1 : Int32) < (2 : Int32))).2.1 kk) ?_
    show Gl p e below s _ _ _ T18 (mkF m 18 #[.val (.int p1), .val (.int p2), .val (.int (1 : Int32)), .val (.ref wr_DUPLICATE_HEADER), .unset, .unset] [])
    refine Gl.st (fun _ kk => XS.iloadN X18.here hx rfl (hb hby at_18) rfl kk) ?_
    show Gl p e below s _ _ _ T18 (mkF m 19 #[.val (.int p1), .val (.int p2), .val (.int (1 : Int32)), .val (.ref wr_DUPLICATE_HEADER), .unset, .unset] [(.int p2)])
    refine Gl.st (fun _ kk => XS.iconst X18.here hx rfl (hb hby at_19) kk) ?_
    show Gl p e below s _ _ _ T18 (mkF m 20 #[.val (.int p1), .val (.int p2), .val (.int (1 : Int32)), .val (.ref wr_DUPLICATE_HEADER), .unset, .unset] [(.int (3 : Int32)), (.int p2)])
    refine Gl.st (fun _ kk => XS.iand X18.here hx rfl (hb hby at_20) rfl kk) ?_
    show Gl p e below s _ _ _ T18 (mkF m 21 #[.val (.int p1), .val (.int p2), .val (.int (1 : Int32)), .val (.ref wr_DUPLICATE_HEADER), .unset, .unset] [(.int (p2 &&& (3 : Int32)))])
    rcases own_mask3 p2 with hm | hm | hm | hm
    · rw [hm]
      show Gl p e below s _ _ _ T18 (mkF m 21 #[.val (.int p1), .val (.int p2), .val (.int (1 : Int32)), .val (.ref wr_DUPLICATE_HEADER), .unset, .unset] [(.int (0 : Int32))])
      obtain ⟨_, _, ⟨T19, L19, k19, n19⟩, -, X19, ⟨Lc19, hQ19, l19, y19, z19⟩, st19⟩ := Jvm.LawKit.callS X18 hx (y := (⟨"io/github/countersign/VerdictIsValidPinLaw", "headerAt", "(I)Lio/github/countersign/Header;"⟩ : MethodName)) hown (mvT hZ (hw _ (List.mem_of_getElem? (i := 8) rfl))) (mvT hZ (hw _ (List.mem_of_getElem? (i := 9) rfl))) (mvT hZ (hw _ (List.mem_of_getElem? (i := 3) rfl))) (mvT hZ (hw _ (List.mem_of_getElem? (i := 10) rfl))) (by decide) (backOf (W := 0) (rm2 l Z a0 hw [] 0 wh_API_KEY wh_DATE wh_VERSION wh_SIGNATURE wh_API_KEY h0 n0 O0 Sh_API_KEY Sh_DATE Sh_VERSION Sh_SIGNATURE (Or.inl ⟨rfl, rfl⟩)) hZ (hw _ (List.mem_of_getElem? (i := 10) rfl)) (hw _ (List.mem_of_getElem? (i := 3) rfl)) (by decide) (by decide)) (g := (mkF m 21 #[.val (.int p1), .val (.int p2), .val (.int (1 : Int32)), .val (.ref wr_DUPLICATE_HEADER), .unset, .unset] [(.int (0 : Int32))])) rfl (by rw [hml]; rfl) (argsL := [(.int (0 : Int32))]) (rest := []) (lenOf pd_rm0_1 rfl) rfl (by show 2 * 0 + _ ≤ _; exact Nat.le_of_eq rfl) (hb hby at_21) (fun _ _ => ⟨rfl, e18, (by decide : 0 + 0 ≤ _), (by decide : 0 + 0 ≤ _)⟩)
      dsimp only [Pt.U, Pt.locs, Pt.cells, Pt.slots] at X19 l19 y19 z19 st19 hQ19
      subst l19 y19 z19
      obtain ⟨rfl, Nq19, e19⟩ := hQ19
      have N19 := Fr.app N18 Nq19
      refine Gl.st st19 ?_
      show Gl p e below s _ _ _ T19 (mkF m 24 #[.val (.int p1), .val (.int p2), .val (.int (1 : Int32)), .val (.ref wr_DUPLICATE_HEADER), .unset, .unset] [(.ref wh_API_KEY)])
      refine Gl.st (fun _ kk => XS.goto X19.here hx rfl (pc0 := 24) (pc' := 28) rfl (hb hby at_24) (by decide) (by decide) kk) ?_
      show Gl p e below s _ _ _ T19 (mkF m 28 #[.val (.int p1), .val (.int p2), .val (.int (1 : Int32)), .val (.ref wr_DUPLICATE_HEADER), .unset, .unset] [(.ref wh_API_KEY)])
      refine Gl.st (fun _ kk => XS.astore X19.here hx rfl (hb hby at_28) rfl rfl (l' := #[.val (.int p1), .val (.int p2), .val (.int (1 : Int32)), .val (.ref wr_DUPLICATE_HEADER), .val (.ref wh_API_KEY), .unset]) rfl kk) ?_
      show Gl p e below s _ _ _ T19 (mkF m 30 #[.val (.int p1), .val (.int p2), .val (.int (1 : Int32)), .val (.ref wr_DUPLICATE_HEADER), .val (.ref wh_API_KEY), .unset] [])
      obtain ⟨T20, h20, X20, e20, E20, A20, D20, V20, st20⟩ := newO X19 hx hZ hown (hw _ (List.mem_of_getElem? (i := 14) rfl)) (hw _ (List.mem_of_getElem? (i := 15) rfl)) (hw _ (List.mem_of_getElem? (i := 16) rfl)) e19 (g := (mkF m 30 #[.val (.int p1), .val (.int p2), .val (.int (1 : Int32)), .val (.ref wr_DUPLICATE_HEADER), .val (.ref wh_API_KEY), .unset] [])) rfl (hb hby at_30) (by decide) (by decide)
      obtain ⟨b20, g20⟩ : ∃ z, z = h0.size := ⟨_, rfl⟩
      rw [← g20] at A20 D20 V20 st20
      refine Gl.st st20 ?_
      have ge_b20 : n0 ≤ b20 := Nat.le_trans (Nat.le_trans (Nat.le_of_eq O0.1.symm) O0.2.1) (Nat.le_of_eq g20.symm)
      have fr_b20 : h0.size ≤ b20 := Nat.le_trans (Nat.le_refl _) (Nat.le_of_eq g20.symm)
      have O20 := O0.ext E20
      have K20 := (Keep.refl h0 []).ext E20
      have Exa_b20 := A20
      have F_refusal_b20 : Fld Z h20 b20 "io/github/countersign/Verdict" "refusal" "Lio/github/countersign/Refusal;" .null := D20 (Or.inr (hw _ (List.mem_of_getElem? (i := 36) rfl))) (ty := (.object "io/github/countersign/Refusal")) (by decide)
      have F_header_b20 : Fld Z h20 b20 "io/github/countersign/Verdict" "header" "Lio/github/countersign/Header;" .null := D20 (Or.inr (hw _ (List.mem_of_getElem? (i := 38) rfl))) (ty := (.object "io/github/countersign/Header")) (by decide)
      show Gl p e below s _ _ _ T20 (mkF m 33 #[.val (.int p1), .val (.int p2), .val (.int (1 : Int32)), .val (.ref wr_DUPLICATE_HEADER), .val (.ref wh_API_KEY), .unset] [(.ref b20)])
      refine Gl.st (fun _ kk => XS.dup X20.here hx rfl (hb hby at_33) rfl rfl kk) ?_
      show Gl p e below s _ _ _ T20 (mkF m 34 #[.val (.int p1), .val (.int p2), .val (.int (1 : Int32)), .val (.ref wr_DUPLICATE_HEADER), .val (.ref wh_API_KEY), .unset] [(.ref b20), (.ref b20)])
      refine Gl.st (fun _ kk => XS.aloadN X20.here hx rfl (hb hby at_34) rfl rfl kk) ?_
      show Gl p e below s _ _ _ T20 (mkF m 35 #[.val (.int p1), .val (.int p2), .val (.int (1 : Int32)), .val (.ref wr_DUPLICATE_HEADER), .val (.ref wh_API_KEY), .unset] [(.ref wr_DUPLICATE_HEADER), (.ref b20), (.ref b20)])
      refine Gl.st (fun _ kk => XS.aload X20.here hx rfl (hb hby at_35) rfl rfl kk) ?_
      show Gl p e below s _ _ _ T20 (mkF m 37 #[.val (.int p1), .val (.int p2), .val (.int (1 : Int32)), .val (.ref wr_DUPLICATE_HEADER), .val (.ref wh_API_KEY), .unset] [(.ref wh_API_KEY), (.ref wr_DUPLICATE_HEADER), (.ref b20), (.ref b20)])
      obtain ⟨_, _, ⟨T21, L21, k21, n21⟩, -, X21, ⟨Lc21, hQ21, l21, y21, z21⟩, st21⟩ := X20.specialBack hx (y := (⟨"io/github/countersign/Verdict", "<init>", "(Lio/github/countersign/Refusal;Lio/github/countersign/Header;)V"⟩ : MethodName)) rfl hown (mvT hZ (hw _ (List.mem_of_getElem? (i := 17) rfl))) (mvT hZ (hw _ (List.mem_of_getElem? (i := 18) rfl))) (mvT hZ (hw _ (List.mem_of_getElem? (i := 19) rfl))) (by decide) (backOf (W := 1) (rm3h l Z a0 hw [] b20 wr_DUPLICATE_HEADER wh_API_KEY h20 n0 O20 Exa_b20 F_refusal_b20 F_header_b20 ge_b20 Er_DUPLICATE_HEADER Fr_DUPLICATE_HEADER) hZ (hw _ (List.mem_of_getElem? (i := 19) rfl)) (hw _ (List.mem_of_getElem? (i := 16) rfl)) (by decide) (by decide)) (g := (mkF m 37 #[.val (.int p1), .val (.int p2), .val (.int (1 : Int32)), .val (.ref wr_DUPLICATE_HEADER), .val (.ref wh_API_KEY), .unset] [(.ref wh_API_KEY), (.ref wr_DUPLICATE_HEADER), (.ref b20), (.ref b20)])) rfl (by rw [hml]; rfl) (Steps.refl _) (a := b20) (argsL := [(.ref wr_DUPLICATE_HEADER), (.ref wh_API_KEY)]) (rest := [(.ref b20)]) (lenOf pd_rm0_2 rfl) rfl (by show 2 * 0 + _ ≤ _; exact Nat.le_of_eq rfl) (hb hby at_37) (fun _ _ => ⟨rfl, e20, (by decide : 1 + 0 ≤ _), (by decide : 2 + 0 ≤ _)⟩)
      dsimp only [Pt.U, Pt.locs, Pt.cells, Pt.slots] at X21 l21 y21 z21 st21 hQ21
      subst l21 y21 z21
      obtain ⟨h21, e21⟩ : ∃ z, T21.heap = z := ⟨_, rfl⟩
      rw [e21] at hQ21
      obtain ⟨rfl, Nq21, Kq21, Eq21, Fq21⟩ := hQ21
      have N21 := Fr.app N19 Nq21
      refine Gl.st (fun _ kk => st21.trans kk) ?_
      have Exa_b20 := Exa_b20.keep Kq21
      have O21 := O20.keep Kq21 (allS ge_b20 all0)
      have K21 := K20.trans Kq21 (allS (Or.inr fr_b20) all0)
      have F_refusal_b20 := Fq21
      show Gl p e below s _ _ _ T21 (mkF m 40 #[.val (.int p1), .val (.int p2), .val (.int (1 : Int32)), .val (.ref wr_DUPLICATE_HEADER), .val (.ref wh_API_KEY), .unset] [(.ref b20)])
      refine Gl.st (fun _ kk => XS.astore X21.here hx rfl (hb hby at_40) rfl rfl (l' := #[.val (.int p1), .val (.int p2), .val (.int (1 : Int32)), .val (.ref wr_DUPLICATE_HEADER), .val (.ref wh_API_KEY), .val (.ref b20)]) rfl kk) ?_
      show Gl p e below s _ _ _ T21 (mkF m 42 #[.val (.int p1), .val (.int p2), .val (.int (1 : Int32)), .val (.ref wr_DUPLICATE_HEADER), .val (.ref wh_API_KEY), .val (.ref b20)] [])
      refine Gl.st (fun _ kk => XS.aload X21.here hx rfl (hb hby at_42) rfl rfl kk) ?_
      show Gl p e below s _ _ _ T21 (mkF m 44 #[.val (.int p1), .val (.int p2), .val (.int (1 : Int32)), .val (.ref wr_DUPLICATE_HEADER), .val (.ref wh_API_KEY), .val (.ref b20)] [(.ref b20)])
      obtain ⟨cq22, kq22, qa22, qb22, qc22⟩ := isOf hZ e21 Exa_b20
      obtain ⟨_, _, ⟨T22, L22, k22, n22⟩, -, X22, ⟨Lc22, hQ22, l22, y22, z22⟩, st22⟩ := X21.virtualBack hx (y := (⟨"io/github/countersign/Verdict", "isValid", "()Z"⟩ : MethodName)) (z := (⟨"io/github/countersign/Verdict", "isValid", "()Z"⟩ : MethodName)) hown (mvT hZ (hw _ (List.mem_of_getElem? (i := 39) rfl))) (mvT hZ (hw _ (List.mem_of_getElem? (i := 40) rfl))) (notFace_of_selects (args := #[]) (mvT hZ (hw _ (List.mem_of_getElem? (i := 42) rfl)))) (mvT hZ (hw _ (List.mem_of_getElem? (i := 42) rfl))) (mvT hZ (hw _ (List.mem_of_getElem? (i := 41) rfl))) (by decide) (backOf (W := 0) (rm7 l Z a0 hw [] b20 (.ref wr_DUPLICATE_HEADER) 0 h21 n0 O21 F_refusal_b20 (Or.inr ⟨_, rfl, rfl⟩)) hZ (hw _ (List.mem_of_getElem? (i := 43) rfl)) (hw _ (List.mem_of_getElem? (i := 16) rfl)) (by decide) (by decide)) qa22 qc22 (g := (mkF m 44 #[.val (.int p1), .val (.int p2), .val (.int (1 : Int32)), .val (.ref wr_DUPLICATE_HEADER), .val (.ref wh_API_KEY), .val (.ref b20)] [(.ref b20)])) rfl (by rw [hml]; rfl) (Steps.refl _) (argsL := []) (rest := []) (lenOf pd_rm0_3 rfl) rfl (by show 2 * 0 + _ ≤ _; exact Nat.le_of_eq rfl) (hb hby at_44) (fun _ _ => ⟨rfl, e21, (by decide : 1 + 0 ≤ _), (by decide : 2 + 0 ≤ _)⟩)
      dsimp only [Pt.U, Pt.locs, Pt.cells, Pt.slots] at X22 l22 y22 z22 st22 hQ22
      subst l22 y22 z22
      obtain ⟨rfl, Nq22, e22⟩ := hQ22
      have N22 := Fr.app N21 Nq22
      refine Gl.st (fun _ kk => st22.trans kk) ?_
      show Gl p e below s _ _ _ T22 (mkF m 47 #[.val (.int p1), .val (.int p2), .val (.int (1 : Int32)), .val (.ref wr_DUPLICATE_HEADER), .val (.ref wh_API_KEY), .val (.ref b20)] [(.int (0 : Int32))])
      refine Gl.st (fun _ kk => XS.iloadN X22.here hx rfl (hb hby at_47) rfl kk) ?_
      show Gl p e below s _ _ _ T22 (mkF m 48 #[.val (.int p1), .val (.int p2), .val (.int (1 : Int32)), .val (.ref wr_DUPLICATE_HEADER), .val (.ref wh_API_KEY), .val (.ref b20)] [(.int (1 : Int32)), (.int (0 : Int32))])
      refine Gl.st (fun _ kk => XS.bipush X22.here hx rfl (hb hby at_48) kk) ?_
      show Gl p e below s _ _ _ T22 (mkF m 50 #[.val (.int p1), .val (.int p2), .val (.int (1 : Int32)), .val (.ref wr_DUPLICATE_HEADER), .val (.ref wh_API_KEY), .val (.ref b20)] [(.int (10 : Int32)), (.int (1 : Int32)), (.int (0 : Int32))])
      refine Gl.st (fun _ kk => XS.icmpYes X22.here hx rfl (pc0 := 50) (pc' := 57) rfl (hb hby at_50) rfl (feq (by decide : ¬ ((1 : Int32) = (10 : Int32)))).2 (by decide) (by decide) kk) ?_
      show Gl p e below s _ _ _ T22 (mkF m 57 #[.val (.int p1), .val (.int p2), .val (.int (1 : Int32)), .val (.ref wr_DUPLICATE_HEADER), .val (.ref wh_API_KEY), .val (.ref b20)] [(.int (0 : Int32))])
      refine Gl.st (fun _ kk => XS.iconst X22.here hx rfl (hb hby at_57) kk) ?_
      show Gl p e below s _ _ _ T22 (mkF m 58 #[.val (.int p1), .val (.int p2), .val (.int (1 : Int32)), .val (.ref wr_DUPLICATE_HEADER), .val (.ref wh_API_KEY), .val (.ref b20)] [(.int (0 : Int32)), (.int (0 : Int32))])
      refine Gl.st (fun _ kk => XS.icmpNo X22.here hx rfl (hb hby at_58) rfl (teq (by decide : (0 : Int32) = (0 : Int32))).2 kk) ?_
      show Gl p e below s _ _ _ T22 (mkF m 61 #[.val (.int p1), .val (.int p2), .val (.int (1 : Int32)), .val (.ref wr_DUPLICATE_HEADER), .val (.ref wh_API_KEY), .val (.ref b20)] [])
      refine Gl.st (fun _ kk => XS.iconst X22.here hx rfl (hb hby at_61) kk) ?_
      show Gl p e below s _ _ _ T22 (mkF m 62 #[.val (.int p1), .val (.int p2), .val (.int (1 : Int32)), .val (.ref wr_DUPLICATE_HEADER), .val (.ref wh_API_KEY), .val (.ref b20)] [(.int (1 : Int32))])
      refine Gl.st (fun _ kk => XS.goto X22.here hx rfl (pc0 := 62) (pc' := 66) rfl (hb hby at_62) (by decide) (by decide) kk) ?_
      show Gl p e below s _ _ _ T22 (mkF m 66 #[.val (.int p1), .val (.int p2), .val (.int (1 : Int32)), .val (.ref wr_DUPLICATE_HEADER), .val (.ref wh_API_KEY), .val (.ref b20)] [(.int (1 : Int32))])
      exact Gl.ret X22 (v := (some (.int (1 : Int32)))) (fun h => by rw [Bd.returns] at h; cases h) (BodyLoose.notSynchronized Bd) (fun hr => retN X22 hx (t := .boolean) Bd.returns (by simp) (hb hby at_66) hr) e22 ⟨rfl, N22⟩ (by decide) (by decide)
    · rw [hm]
      show Gl p e below s _ _ _ T18 (mkF m 21 #[.val (.int p1), .val (.int p2), .val (.int (1 : Int32)), .val (.ref wr_DUPLICATE_HEADER), .unset, .unset] [(.int (1 : Int32))])
      obtain ⟨_, _, ⟨T23, L23, k23, n23⟩, -, X23, ⟨Lc23, hQ23, l23, y23, z23⟩, st23⟩ := Jvm.LawKit.callS X18 hx (y := (⟨"io/github/countersign/VerdictIsValidPinLaw", "headerAt", "(I)Lio/github/countersign/Header;"⟩ : MethodName)) hown (mvT hZ (hw _ (List.mem_of_getElem? (i := 8) rfl))) (mvT hZ (hw _ (List.mem_of_getElem? (i := 9) rfl))) (mvT hZ (hw _ (List.mem_of_getElem? (i := 3) rfl))) (mvT hZ (hw _ (List.mem_of_getElem? (i := 10) rfl))) (by decide) (backOf (W := 0) (rm2 l Z a0 hw [] 1 wh_API_KEY wh_DATE wh_VERSION wh_SIGNATURE wh_DATE h0 n0 O0 Sh_API_KEY Sh_DATE Sh_VERSION Sh_SIGNATURE (Or.inr (Or.inl ⟨rfl, rfl⟩))) hZ (hw _ (List.mem_of_getElem? (i := 10) rfl)) (hw _ (List.mem_of_getElem? (i := 3) rfl)) (by decide) (by decide)) (g := (mkF m 21 #[.val (.int p1), .val (.int p2), .val (.int (1 : Int32)), .val (.ref wr_DUPLICATE_HEADER), .unset, .unset] [(.int (1 : Int32))])) rfl (by rw [hml]; rfl) (argsL := [(.int (1 : Int32))]) (rest := []) (lenOf pd_rm0_1 rfl) rfl (by show 2 * 0 + _ ≤ _; exact Nat.le_of_eq rfl) (hb hby at_21) (fun _ _ => ⟨rfl, e18, (by decide : 0 + 0 ≤ _), (by decide : 0 + 0 ≤ _)⟩)
      dsimp only [Pt.U, Pt.locs, Pt.cells, Pt.slots] at X23 l23 y23 z23 st23 hQ23
      subst l23 y23 z23
      obtain ⟨rfl, Nq23, e23⟩ := hQ23
      have N23 := Fr.app N18 Nq23
      refine Gl.st st23 ?_
      show Gl p e below s _ _ _ T23 (mkF m 24 #[.val (.int p1), .val (.int p2), .val (.int (1 : Int32)), .val (.ref wr_DUPLICATE_HEADER), .unset, .unset] [(.ref wh_DATE)])
      refine Gl.st (fun _ kk => XS.goto X23.here hx rfl (pc0 := 24) (pc' := 28) rfl (hb hby at_24) (by decide) (by decide) kk) ?_
      show Gl p e below s _ _ _ T23 (mkF m 28 #[.val (.int p1), .val (.int p2), .val (.int (1 : Int32)), .val (.ref wr_DUPLICATE_HEADER), .unset, .unset] [(.ref wh_DATE)])
      refine Gl.st (fun _ kk => XS.astore X23.here hx rfl (hb hby at_28) rfl rfl (l' := #[.val (.int p1), .val (.int p2), .val (.int (1 : Int32)), .val (.ref wr_DUPLICATE_HEADER), .val (.ref wh_DATE), .unset]) rfl kk) ?_
      show Gl p e below s _ _ _ T23 (mkF m 30 #[.val (.int p1), .val (.int p2), .val (.int (1 : Int32)), .val (.ref wr_DUPLICATE_HEADER), .val (.ref wh_DATE), .unset] [])
      obtain ⟨T24, h24, X24, e24, E24, A24, D24, V24, st24⟩ := newO X23 hx hZ hown (hw _ (List.mem_of_getElem? (i := 14) rfl)) (hw _ (List.mem_of_getElem? (i := 15) rfl)) (hw _ (List.mem_of_getElem? (i := 16) rfl)) e23 (g := (mkF m 30 #[.val (.int p1), .val (.int p2), .val (.int (1 : Int32)), .val (.ref wr_DUPLICATE_HEADER), .val (.ref wh_DATE), .unset] [])) rfl (hb hby at_30) (by decide) (by decide)
      obtain ⟨b24, g24⟩ : ∃ z, z = h0.size := ⟨_, rfl⟩
      rw [← g24] at A24 D24 V24 st24
      refine Gl.st st24 ?_
      have ge_b24 : n0 ≤ b24 := Nat.le_trans (Nat.le_trans (Nat.le_of_eq O0.1.symm) O0.2.1) (Nat.le_of_eq g24.symm)
      have fr_b24 : h0.size ≤ b24 := Nat.le_trans (Nat.le_refl _) (Nat.le_of_eq g24.symm)
      have O24 := O0.ext E24
      have K24 := (Keep.refl h0 []).ext E24
      have Exa_b24 := A24
      have F_refusal_b24 : Fld Z h24 b24 "io/github/countersign/Verdict" "refusal" "Lio/github/countersign/Refusal;" .null := D24 (Or.inr (hw _ (List.mem_of_getElem? (i := 36) rfl))) (ty := (.object "io/github/countersign/Refusal")) (by decide)
      have F_header_b24 : Fld Z h24 b24 "io/github/countersign/Verdict" "header" "Lio/github/countersign/Header;" .null := D24 (Or.inr (hw _ (List.mem_of_getElem? (i := 38) rfl))) (ty := (.object "io/github/countersign/Header")) (by decide)
      show Gl p e below s _ _ _ T24 (mkF m 33 #[.val (.int p1), .val (.int p2), .val (.int (1 : Int32)), .val (.ref wr_DUPLICATE_HEADER), .val (.ref wh_DATE), .unset] [(.ref b24)])
      refine Gl.st (fun _ kk => XS.dup X24.here hx rfl (hb hby at_33) rfl rfl kk) ?_
      show Gl p e below s _ _ _ T24 (mkF m 34 #[.val (.int p1), .val (.int p2), .val (.int (1 : Int32)), .val (.ref wr_DUPLICATE_HEADER), .val (.ref wh_DATE), .unset] [(.ref b24), (.ref b24)])
      refine Gl.st (fun _ kk => XS.aloadN X24.here hx rfl (hb hby at_34) rfl rfl kk) ?_
      show Gl p e below s _ _ _ T24 (mkF m 35 #[.val (.int p1), .val (.int p2), .val (.int (1 : Int32)), .val (.ref wr_DUPLICATE_HEADER), .val (.ref wh_DATE), .unset] [(.ref wr_DUPLICATE_HEADER), (.ref b24), (.ref b24)])
      refine Gl.st (fun _ kk => XS.aload X24.here hx rfl (hb hby at_35) rfl rfl kk) ?_
      show Gl p e below s _ _ _ T24 (mkF m 37 #[.val (.int p1), .val (.int p2), .val (.int (1 : Int32)), .val (.ref wr_DUPLICATE_HEADER), .val (.ref wh_DATE), .unset] [(.ref wh_DATE), (.ref wr_DUPLICATE_HEADER), (.ref b24), (.ref b24)])
      obtain ⟨_, _, ⟨T25, L25, k25, n25⟩, -, X25, ⟨Lc25, hQ25, l25, y25, z25⟩, st25⟩ := X24.specialBack hx (y := (⟨"io/github/countersign/Verdict", "<init>", "(Lio/github/countersign/Refusal;Lio/github/countersign/Header;)V"⟩ : MethodName)) rfl hown (mvT hZ (hw _ (List.mem_of_getElem? (i := 17) rfl))) (mvT hZ (hw _ (List.mem_of_getElem? (i := 18) rfl))) (mvT hZ (hw _ (List.mem_of_getElem? (i := 19) rfl))) (by decide) (backOf (W := 1) (rm3h l Z a0 hw [] b24 wr_DUPLICATE_HEADER wh_DATE h24 n0 O24 Exa_b24 F_refusal_b24 F_header_b24 ge_b24 Er_DUPLICATE_HEADER Fr_DUPLICATE_HEADER) hZ (hw _ (List.mem_of_getElem? (i := 19) rfl)) (hw _ (List.mem_of_getElem? (i := 16) rfl)) (by decide) (by decide)) (g := (mkF m 37 #[.val (.int p1), .val (.int p2), .val (.int (1 : Int32)), .val (.ref wr_DUPLICATE_HEADER), .val (.ref wh_DATE), .unset] [(.ref wh_DATE), (.ref wr_DUPLICATE_HEADER), (.ref b24), (.ref b24)])) rfl (by rw [hml]; rfl) (Steps.refl _) (a := b24) (argsL := [(.ref wr_DUPLICATE_HEADER), (.ref wh_DATE)]) (rest := [(.ref b24)]) (lenOf pd_rm0_2 rfl) rfl (by show 2 * 0 + _ ≤ _; exact Nat.le_of_eq rfl) (hb hby at_37) (fun _ _ => ⟨rfl, e24, (by decide : 1 + 0 ≤ _), (by decide : 2 + 0 ≤ _)⟩)
      dsimp only [Pt.U, Pt.locs, Pt.cells, Pt.slots] at X25 l25 y25 z25 st25 hQ25
      subst l25 y25 z25
      obtain ⟨h25, e25⟩ : ∃ z, T25.heap = z := ⟨_, rfl⟩
      rw [e25] at hQ25
      obtain ⟨rfl, Nq25, Kq25, Eq25, Fq25⟩ := hQ25
      have N25 := Fr.app N23 Nq25
      refine Gl.st (fun _ kk => st25.trans kk) ?_
      have Exa_b24 := Exa_b24.keep Kq25
      have O25 := O24.keep Kq25 (allS ge_b24 all0)
      have K25 := K24.trans Kq25 (allS (Or.inr fr_b24) all0)
      have F_refusal_b24 := Fq25
      show Gl p e below s _ _ _ T25 (mkF m 40 #[.val (.int p1), .val (.int p2), .val (.int (1 : Int32)), .val (.ref wr_DUPLICATE_HEADER), .val (.ref wh_DATE), .unset] [(.ref b24)])
      refine Gl.st (fun _ kk => XS.astore X25.here hx rfl (hb hby at_40) rfl rfl (l' := #[.val (.int p1), .val (.int p2), .val (.int (1 : Int32)), .val (.ref wr_DUPLICATE_HEADER), .val (.ref wh_DATE), .val (.ref b24)]) rfl kk) ?_
      show Gl p e below s _ _ _ T25 (mkF m 42 #[.val (.int p1), .val (.int p2), .val (.int (1 : Int32)), .val (.ref wr_DUPLICATE_HEADER), .val (.ref wh_DATE), .val (.ref b24)] [])
      refine Gl.st (fun _ kk => XS.aload X25.here hx rfl (hb hby at_42) rfl rfl kk) ?_
      show Gl p e below s _ _ _ T25 (mkF m 44 #[.val (.int p1), .val (.int p2), .val (.int (1 : Int32)), .val (.ref wr_DUPLICATE_HEADER), .val (.ref wh_DATE), .val (.ref b24)] [(.ref b24)])
      obtain ⟨cq26, kq26, qa26, qb26, qc26⟩ := isOf hZ e25 Exa_b24
      obtain ⟨_, _, ⟨T26, L26, k26, n26⟩, -, X26, ⟨Lc26, hQ26, l26, y26, z26⟩, st26⟩ := X25.virtualBack hx (y := (⟨"io/github/countersign/Verdict", "isValid", "()Z"⟩ : MethodName)) (z := (⟨"io/github/countersign/Verdict", "isValid", "()Z"⟩ : MethodName)) hown (mvT hZ (hw _ (List.mem_of_getElem? (i := 39) rfl))) (mvT hZ (hw _ (List.mem_of_getElem? (i := 40) rfl))) (notFace_of_selects (args := #[]) (mvT hZ (hw _ (List.mem_of_getElem? (i := 42) rfl)))) (mvT hZ (hw _ (List.mem_of_getElem? (i := 42) rfl))) (mvT hZ (hw _ (List.mem_of_getElem? (i := 41) rfl))) (by decide) (backOf (W := 0) (rm7 l Z a0 hw [] b24 (.ref wr_DUPLICATE_HEADER) 0 h25 n0 O25 F_refusal_b24 (Or.inr ⟨_, rfl, rfl⟩)) hZ (hw _ (List.mem_of_getElem? (i := 43) rfl)) (hw _ (List.mem_of_getElem? (i := 16) rfl)) (by decide) (by decide)) qa26 qc26 (g := (mkF m 44 #[.val (.int p1), .val (.int p2), .val (.int (1 : Int32)), .val (.ref wr_DUPLICATE_HEADER), .val (.ref wh_DATE), .val (.ref b24)] [(.ref b24)])) rfl (by rw [hml]; rfl) (Steps.refl _) (argsL := []) (rest := []) (lenOf pd_rm0_3 rfl) rfl (by show 2 * 0 + _ ≤ _; exact Nat.le_of_eq rfl) (hb hby at_44) (fun _ _ => ⟨rfl, e25, (by decide : 1 + 0 ≤ _), (by decide : 2 + 0 ≤ _)⟩)
      dsimp only [Pt.U, Pt.locs, Pt.cells, Pt.slots] at X26 l26 y26 z26 st26 hQ26
      subst l26 y26 z26
      obtain ⟨rfl, Nq26, e26⟩ := hQ26
      have N26 := Fr.app N25 Nq26
      refine Gl.st (fun _ kk => st26.trans kk) ?_
      show Gl p e below s _ _ _ T26 (mkF m 47 #[.val (.int p1), .val (.int p2), .val (.int (1 : Int32)), .val (.ref wr_DUPLICATE_HEADER), .val (.ref wh_DATE), .val (.ref b24)] [(.int (0 : Int32))])
      refine Gl.st (fun _ kk => XS.iloadN X26.here hx rfl (hb hby at_47) rfl kk) ?_
      show Gl p e below s _ _ _ T26 (mkF m 48 #[.val (.int p1), .val (.int p2), .val (.int (1 : Int32)), .val (.ref wr_DUPLICATE_HEADER), .val (.ref wh_DATE), .val (.ref b24)] [(.int (1 : Int32)), (.int (0 : Int32))])
      refine Gl.st (fun _ kk => XS.bipush X26.here hx rfl (hb hby at_48) kk) ?_
      show Gl p e below s _ _ _ T26 (mkF m 50 #[.val (.int p1), .val (.int p2), .val (.int (1 : Int32)), .val (.ref wr_DUPLICATE_HEADER), .val (.ref wh_DATE), .val (.ref b24)] [(.int (10 : Int32)), (.int (1 : Int32)), (.int (0 : Int32))])
      refine Gl.st (fun _ kk => XS.icmpYes X26.here hx rfl (pc0 := 50) (pc' := 57) rfl (hb hby at_50) rfl (feq (by decide : ¬ ((1 : Int32) = (10 : Int32)))).2 (by decide) (by decide) kk) ?_
      show Gl p e below s _ _ _ T26 (mkF m 57 #[.val (.int p1), .val (.int p2), .val (.int (1 : Int32)), .val (.ref wr_DUPLICATE_HEADER), .val (.ref wh_DATE), .val (.ref b24)] [(.int (0 : Int32))])
      refine Gl.st (fun _ kk => XS.iconst X26.here hx rfl (hb hby at_57) kk) ?_
      show Gl p e below s _ _ _ T26 (mkF m 58 #[.val (.int p1), .val (.int p2), .val (.int (1 : Int32)), .val (.ref wr_DUPLICATE_HEADER), .val (.ref wh_DATE), .val (.ref b24)] [(.int (0 : Int32)), (.int (0 : Int32))])
      refine Gl.st (fun _ kk => XS.icmpNo X26.here hx rfl (hb hby at_58) rfl (teq (by decide : (0 : Int32) = (0 : Int32))).2 kk) ?_
      show Gl p e below s _ _ _ T26 (mkF m 61 #[.val (.int p1), .val (.int p2), .val (.int (1 : Int32)), .val (.ref wr_DUPLICATE_HEADER), .val (.ref wh_DATE), .val (.ref b24)] [])
      refine Gl.st (fun _ kk => XS.iconst X26.here hx rfl (hb hby at_61) kk) ?_
      show Gl p e below s _ _ _ T26 (mkF m 62 #[.val (.int p1), .val (.int p2), .val (.int (1 : Int32)), .val (.ref wr_DUPLICATE_HEADER), .val (.ref wh_DATE), .val (.ref b24)] [(.int (1 : Int32))])
      refine Gl.st (fun _ kk => XS.goto X26.here hx rfl (pc0 := 62) (pc' := 66) rfl (hb hby at_62) (by decide) (by decide) kk) ?_
      show Gl p e below s _ _ _ T26 (mkF m 66 #[.val (.int p1), .val (.int p2), .val (.int (1 : Int32)), .val (.ref wr_DUPLICATE_HEADER), .val (.ref wh_DATE), .val (.ref b24)] [(.int (1 : Int32))])
      exact Gl.ret X26 (v := (some (.int (1 : Int32)))) (fun h => by rw [Bd.returns] at h; cases h) (BodyLoose.notSynchronized Bd) (fun hr => retN X26 hx (t := .boolean) Bd.returns (by simp) (hb hby at_66) hr) e26 ⟨rfl, N26⟩ (by decide) (by decide)
    · rw [hm]
      show Gl p e below s _ _ _ T18 (mkF m 21 #[.val (.int p1), .val (.int p2), .val (.int (1 : Int32)), .val (.ref wr_DUPLICATE_HEADER), .unset, .unset] [(.int (2 : Int32))])
      obtain ⟨_, _, ⟨T27, L27, k27, n27⟩, -, X27, ⟨Lc27, hQ27, l27, y27, z27⟩, st27⟩ := Jvm.LawKit.callS X18 hx (y := (⟨"io/github/countersign/VerdictIsValidPinLaw", "headerAt", "(I)Lio/github/countersign/Header;"⟩ : MethodName)) hown (mvT hZ (hw _ (List.mem_of_getElem? (i := 8) rfl))) (mvT hZ (hw _ (List.mem_of_getElem? (i := 9) rfl))) (mvT hZ (hw _ (List.mem_of_getElem? (i := 3) rfl))) (mvT hZ (hw _ (List.mem_of_getElem? (i := 10) rfl))) (by decide) (backOf (W := 0) (rm2 l Z a0 hw [] 2 wh_API_KEY wh_DATE wh_VERSION wh_SIGNATURE wh_VERSION h0 n0 O0 Sh_API_KEY Sh_DATE Sh_VERSION Sh_SIGNATURE (Or.inr (Or.inr (Or.inl ⟨rfl, rfl⟩)))) hZ (hw _ (List.mem_of_getElem? (i := 10) rfl)) (hw _ (List.mem_of_getElem? (i := 3) rfl)) (by decide) (by decide)) (g := (mkF m 21 #[.val (.int p1), .val (.int p2), .val (.int (1 : Int32)), .val (.ref wr_DUPLICATE_HEADER), .unset, .unset] [(.int (2 : Int32))])) rfl (by rw [hml]; rfl) (argsL := [(.int (2 : Int32))]) (rest := []) (lenOf pd_rm0_1 rfl) rfl (by show 2 * 0 + _ ≤ _; exact Nat.le_of_eq rfl) (hb hby at_21) (fun _ _ => ⟨rfl, e18, (by decide : 0 + 0 ≤ _), (by decide : 0 + 0 ≤ _)⟩)
      dsimp only [Pt.U, Pt.locs, Pt.cells, Pt.slots] at X27 l27 y27 z27 st27 hQ27
      subst l27 y27 z27
      obtain ⟨rfl, Nq27, e27⟩ := hQ27
      have N27 := Fr.app N18 Nq27
      refine Gl.st st27 ?_
      show Gl p e below s _ _ _ T27 (mkF m 24 #[.val (.int p1), .val (.int p2), .val (.int (1 : Int32)), .val (.ref wr_DUPLICATE_HEADER), .unset, .unset] [(.ref wh_VERSION)])
      refine Gl.st (fun _ kk => XS.goto X27.here hx rfl (pc0 := 24) (pc' := 28) rfl (hb hby at_24) (by decide) (by decide) kk) ?_
      show Gl p e below s _ _ _ T27 (mkF m 28 #[.val (.int p1), .val (.int p2), .val (.int (1 : Int32)), .val (.ref wr_DUPLICATE_HEADER), .unset, .unset] [(.ref wh_VERSION)])
      refine Gl.st (fun _ kk => XS.astore X27.here hx rfl (hb hby at_28) rfl rfl (l' := #[.val (.int p1), .val (.int p2), .val (.int (1 : Int32)), .val (.ref wr_DUPLICATE_HEADER), .val (.ref wh_VERSION), .unset]) rfl kk) ?_
      show Gl p e below s _ _ _ T27 (mkF m 30 #[.val (.int p1), .val (.int p2), .val (.int (1 : Int32)), .val (.ref wr_DUPLICATE_HEADER), .val (.ref wh_VERSION), .unset] [])
      obtain ⟨T28, h28, X28, e28, E28, A28, D28, V28, st28⟩ := newO X27 hx hZ hown (hw _ (List.mem_of_getElem? (i := 14) rfl)) (hw _ (List.mem_of_getElem? (i := 15) rfl)) (hw _ (List.mem_of_getElem? (i := 16) rfl)) e27 (g := (mkF m 30 #[.val (.int p1), .val (.int p2), .val (.int (1 : Int32)), .val (.ref wr_DUPLICATE_HEADER), .val (.ref wh_VERSION), .unset] [])) rfl (hb hby at_30) (by decide) (by decide)
      obtain ⟨b28, g28⟩ : ∃ z, z = h0.size := ⟨_, rfl⟩
      rw [← g28] at A28 D28 V28 st28
      refine Gl.st st28 ?_
      have ge_b28 : n0 ≤ b28 := Nat.le_trans (Nat.le_trans (Nat.le_of_eq O0.1.symm) O0.2.1) (Nat.le_of_eq g28.symm)
      have fr_b28 : h0.size ≤ b28 := Nat.le_trans (Nat.le_refl _) (Nat.le_of_eq g28.symm)
      have O28 := O0.ext E28
      have K28 := (Keep.refl h0 []).ext E28
      have Exa_b28 := A28
      have F_refusal_b28 : Fld Z h28 b28 "io/github/countersign/Verdict" "refusal" "Lio/github/countersign/Refusal;" .null := D28 (Or.inr (hw _ (List.mem_of_getElem? (i := 36) rfl))) (ty := (.object "io/github/countersign/Refusal")) (by decide)
      have F_header_b28 : Fld Z h28 b28 "io/github/countersign/Verdict" "header" "Lio/github/countersign/Header;" .null := D28 (Or.inr (hw _ (List.mem_of_getElem? (i := 38) rfl))) (ty := (.object "io/github/countersign/Header")) (by decide)
      show Gl p e below s _ _ _ T28 (mkF m 33 #[.val (.int p1), .val (.int p2), .val (.int (1 : Int32)), .val (.ref wr_DUPLICATE_HEADER), .val (.ref wh_VERSION), .unset] [(.ref b28)])
      refine Gl.st (fun _ kk => XS.dup X28.here hx rfl (hb hby at_33) rfl rfl kk) ?_
      show Gl p e below s _ _ _ T28 (mkF m 34 #[.val (.int p1), .val (.int p2), .val (.int (1 : Int32)), .val (.ref wr_DUPLICATE_HEADER), .val (.ref wh_VERSION), .unset] [(.ref b28), (.ref b28)])
      refine Gl.st (fun _ kk => XS.aloadN X28.here hx rfl (hb hby at_34) rfl rfl kk) ?_
      show Gl p e below s _ _ _ T28 (mkF m 35 #[.val (.int p1), .val (.int p2), .val (.int (1 : Int32)), .val (.ref wr_DUPLICATE_HEADER), .val (.ref wh_VERSION), .unset] [(.ref wr_DUPLICATE_HEADER), (.ref b28), (.ref b28)])
      refine Gl.st (fun _ kk => XS.aload X28.here hx rfl (hb hby at_35) rfl rfl kk) ?_
      show Gl p e below s _ _ _ T28 (mkF m 37 #[.val (.int p1), .val (.int p2), .val (.int (1 : Int32)), .val (.ref wr_DUPLICATE_HEADER), .val (.ref wh_VERSION), .unset] [(.ref wh_VERSION), (.ref wr_DUPLICATE_HEADER), (.ref b28), (.ref b28)])
      obtain ⟨_, _, ⟨T29, L29, k29, n29⟩, -, X29, ⟨Lc29, hQ29, l29, y29, z29⟩, st29⟩ := X28.specialBack hx (y := (⟨"io/github/countersign/Verdict", "<init>", "(Lio/github/countersign/Refusal;Lio/github/countersign/Header;)V"⟩ : MethodName)) rfl hown (mvT hZ (hw _ (List.mem_of_getElem? (i := 17) rfl))) (mvT hZ (hw _ (List.mem_of_getElem? (i := 18) rfl))) (mvT hZ (hw _ (List.mem_of_getElem? (i := 19) rfl))) (by decide) (backOf (W := 1) (rm3h l Z a0 hw [] b28 wr_DUPLICATE_HEADER wh_VERSION h28 n0 O28 Exa_b28 F_refusal_b28 F_header_b28 ge_b28 Er_DUPLICATE_HEADER Fr_DUPLICATE_HEADER) hZ (hw _ (List.mem_of_getElem? (i := 19) rfl)) (hw _ (List.mem_of_getElem? (i := 16) rfl)) (by decide) (by decide)) (g := (mkF m 37 #[.val (.int p1), .val (.int p2), .val (.int (1 : Int32)), .val (.ref wr_DUPLICATE_HEADER), .val (.ref wh_VERSION), .unset] [(.ref wh_VERSION), (.ref wr_DUPLICATE_HEADER), (.ref b28), (.ref b28)])) rfl (by rw [hml]; rfl) (Steps.refl _) (a := b28) (argsL := [(.ref wr_DUPLICATE_HEADER), (.ref wh_VERSION)]) (rest := [(.ref b28)]) (lenOf pd_rm0_2 rfl) rfl (by show 2 * 0 + _ ≤ _; exact Nat.le_of_eq rfl) (hb hby at_37) (fun _ _ => ⟨rfl, e28, (by decide : 1 + 0 ≤ _), (by decide : 2 + 0 ≤ _)⟩)
      dsimp only [Pt.U, Pt.locs, Pt.cells, Pt.slots] at X29 l29 y29 z29 st29 hQ29
      subst l29 y29 z29
      obtain ⟨h29, e29⟩ : ∃ z, T29.heap = z := ⟨_, rfl⟩
      rw [e29] at hQ29
      obtain ⟨rfl, Nq29, Kq29, Eq29, Fq29⟩ := hQ29
      have N29 := Fr.app N27 Nq29
      refine Gl.st (fun _ kk => st29.trans kk) ?_
      have Exa_b28 := Exa_b28.keep Kq29
      have O29 := O28.keep Kq29 (allS ge_b28 all0)
      have K29 := K28.trans Kq29 (allS (Or.inr fr_b28) all0)
      have F_refusal_b28 := Fq29
      show Gl p e below s _ _ _ T29 (mkF m 40 #[.val (.int p1), .val (.int p2), .val (.int (1 : Int32)), .val (.ref wr_DUPLICATE_HEADER), .val (.ref wh_VERSION), .unset] [(.ref b28)])
      refine Gl.st (fun _ kk => XS.astore X29.here hx rfl (hb hby at_40) rfl rfl (l' := #[.val (.int p1), .val (.int p2), .val (.int (1 : Int32)), .val (.ref wr_DUPLICATE_HEADER), .val (.ref wh_VERSION), .val (.ref b28)]) rfl kk) ?_
      show Gl p e below s _ _ _ T29 (mkF m 42 #[.val (.int p1), .val (.int p2), .val (.int (1 : Int32)), .val (.ref wr_DUPLICATE_HEADER), .val (.ref wh_VERSION), .val (.ref b28)] [])
      refine Gl.st (fun _ kk => XS.aload X29.here hx rfl (hb hby at_42) rfl rfl kk) ?_
      show Gl p e below s _ _ _ T29 (mkF m 44 #[.val (.int p1), .val (.int p2), .val (.int (1 : Int32)), .val (.ref wr_DUPLICATE_HEADER), .val (.ref wh_VERSION), .val (.ref b28)] [(.ref b28)])
      obtain ⟨cq30, kq30, qa30, qb30, qc30⟩ := isOf hZ e29 Exa_b28
      obtain ⟨_, _, ⟨T30, L30, k30, n30⟩, -, X30, ⟨Lc30, hQ30, l30, y30, z30⟩, st30⟩ := X29.virtualBack hx (y := (⟨"io/github/countersign/Verdict", "isValid", "()Z"⟩ : MethodName)) (z := (⟨"io/github/countersign/Verdict", "isValid", "()Z"⟩ : MethodName)) hown (mvT hZ (hw _ (List.mem_of_getElem? (i := 39) rfl))) (mvT hZ (hw _ (List.mem_of_getElem? (i := 40) rfl))) (notFace_of_selects (args := #[]) (mvT hZ (hw _ (List.mem_of_getElem? (i := 42) rfl)))) (mvT hZ (hw _ (List.mem_of_getElem? (i := 42) rfl))) (mvT hZ (hw _ (List.mem_of_getElem? (i := 41) rfl))) (by decide) (backOf (W := 0) (rm7 l Z a0 hw [] b28 (.ref wr_DUPLICATE_HEADER) 0 h29 n0 O29 F_refusal_b28 (Or.inr ⟨_, rfl, rfl⟩)) hZ (hw _ (List.mem_of_getElem? (i := 43) rfl)) (hw _ (List.mem_of_getElem? (i := 16) rfl)) (by decide) (by decide)) qa30 qc30 (g := (mkF m 44 #[.val (.int p1), .val (.int p2), .val (.int (1 : Int32)), .val (.ref wr_DUPLICATE_HEADER), .val (.ref wh_VERSION), .val (.ref b28)] [(.ref b28)])) rfl (by rw [hml]; rfl) (Steps.refl _) (argsL := []) (rest := []) (lenOf pd_rm0_3 rfl) rfl (by show 2 * 0 + _ ≤ _; exact Nat.le_of_eq rfl) (hb hby at_44) (fun _ _ => ⟨rfl, e29, (by decide : 1 + 0 ≤ _), (by decide : 2 + 0 ≤ _)⟩)
      dsimp only [Pt.U, Pt.locs, Pt.cells, Pt.slots] at X30 l30 y30 z30 st30 hQ30
      subst l30 y30 z30
      obtain ⟨rfl, Nq30, e30⟩ := hQ30
      have N30 := Fr.app N29 Nq30
      refine Gl.st (fun _ kk => st30.trans kk) ?_
      show Gl p e below s _ _ _ T30 (mkF m 47 #[.val (.int p1), .val (.int p2), .val (.int (1 : Int32)), .val (.ref wr_DUPLICATE_HEADER), .val (.ref wh_VERSION), .val (.ref b28)] [(.int (0 : Int32))])
      refine Gl.st (fun _ kk => XS.iloadN X30.here hx rfl (hb hby at_47) rfl kk) ?_
      show Gl p e below s _ _ _ T30 (mkF m 48 #[.val (.int p1), .val (.int p2), .val (.int (1 : Int32)), .val (.ref wr_DUPLICATE_HEADER), .val (.ref wh_VERSION), .val (.ref b28)] [(.int (1 : Int32)), (.int (0 : Int32))])
      refine Gl.st (fun _ kk => XS.bipush X30.here hx rfl (hb hby at_48) kk) ?_
      show Gl p e below s _ _ _ T30 (mkF m 50 #[.val (.int p1), .val (.int p2), .val (.int (1 : Int32)), .val (.ref wr_DUPLICATE_HEADER), .val (.ref wh_VERSION), .val (.ref b28)] [(.int (10 : Int32)), (.int (1 : Int32)), (.int (0 : Int32))])
      refine Gl.st (fun _ kk => XS.icmpYes X30.here hx rfl (pc0 := 50) (pc' := 57) rfl (hb hby at_50) rfl (feq (by decide : ¬ ((1 : Int32) = (10 : Int32)))).2 (by decide) (by decide) kk) ?_
      show Gl p e below s _ _ _ T30 (mkF m 57 #[.val (.int p1), .val (.int p2), .val (.int (1 : Int32)), .val (.ref wr_DUPLICATE_HEADER), .val (.ref wh_VERSION), .val (.ref b28)] [(.int (0 : Int32))])
      refine Gl.st (fun _ kk => XS.iconst X30.here hx rfl (hb hby at_57) kk) ?_
      show Gl p e below s _ _ _ T30 (mkF m 58 #[.val (.int p1), .val (.int p2), .val (.int (1 : Int32)), .val (.ref wr_DUPLICATE_HEADER), .val (.ref wh_VERSION), .val (.ref b28)] [(.int (0 : Int32)), (.int (0 : Int32))])
      refine Gl.st (fun _ kk => XS.icmpNo X30.here hx rfl (hb hby at_58) rfl (teq (by decide : (0 : Int32) = (0 : Int32))).2 kk) ?_
      show Gl p e below s _ _ _ T30 (mkF m 61 #[.val (.int p1), .val (.int p2), .val (.int (1 : Int32)), .val (.ref wr_DUPLICATE_HEADER), .val (.ref wh_VERSION), .val (.ref b28)] [])
      refine Gl.st (fun _ kk => XS.iconst X30.here hx rfl (hb hby at_61) kk) ?_
      show Gl p e below s _ _ _ T30 (mkF m 62 #[.val (.int p1), .val (.int p2), .val (.int (1 : Int32)), .val (.ref wr_DUPLICATE_HEADER), .val (.ref wh_VERSION), .val (.ref b28)] [(.int (1 : Int32))])
      refine Gl.st (fun _ kk => XS.goto X30.here hx rfl (pc0 := 62) (pc' := 66) rfl (hb hby at_62) (by decide) (by decide) kk) ?_
      show Gl p e below s _ _ _ T30 (mkF m 66 #[.val (.int p1), .val (.int p2), .val (.int (1 : Int32)), .val (.ref wr_DUPLICATE_HEADER), .val (.ref wh_VERSION), .val (.ref b28)] [(.int (1 : Int32))])
      exact Gl.ret X30 (v := (some (.int (1 : Int32)))) (fun h => by rw [Bd.returns] at h; cases h) (BodyLoose.notSynchronized Bd) (fun hr => retN X30 hx (t := .boolean) Bd.returns (by simp) (hb hby at_66) hr) e30 ⟨rfl, N30⟩ (by decide) (by decide)
    · rw [hm]
      show Gl p e below s _ _ _ T18 (mkF m 21 #[.val (.int p1), .val (.int p2), .val (.int (1 : Int32)), .val (.ref wr_DUPLICATE_HEADER), .unset, .unset] [(.int (3 : Int32))])
      obtain ⟨_, _, ⟨T31, L31, k31, n31⟩, -, X31, ⟨Lc31, hQ31, l31, y31, z31⟩, st31⟩ := Jvm.LawKit.callS X18 hx (y := (⟨"io/github/countersign/VerdictIsValidPinLaw", "headerAt", "(I)Lio/github/countersign/Header;"⟩ : MethodName)) hown (mvT hZ (hw _ (List.mem_of_getElem? (i := 8) rfl))) (mvT hZ (hw _ (List.mem_of_getElem? (i := 9) rfl))) (mvT hZ (hw _ (List.mem_of_getElem? (i := 3) rfl))) (mvT hZ (hw _ (List.mem_of_getElem? (i := 10) rfl))) (by decide) (backOf (W := 0) (rm2 l Z a0 hw [] 3 wh_API_KEY wh_DATE wh_VERSION wh_SIGNATURE wh_SIGNATURE h0 n0 O0 Sh_API_KEY Sh_DATE Sh_VERSION Sh_SIGNATURE (Or.inr (Or.inr (Or.inr (⟨rfl, rfl⟩))))) hZ (hw _ (List.mem_of_getElem? (i := 10) rfl)) (hw _ (List.mem_of_getElem? (i := 3) rfl)) (by decide) (by decide)) (g := (mkF m 21 #[.val (.int p1), .val (.int p2), .val (.int (1 : Int32)), .val (.ref wr_DUPLICATE_HEADER), .unset, .unset] [(.int (3 : Int32))])) rfl (by rw [hml]; rfl) (argsL := [(.int (3 : Int32))]) (rest := []) (lenOf pd_rm0_1 rfl) rfl (by show 2 * 0 + _ ≤ _; exact Nat.le_of_eq rfl) (hb hby at_21) (fun _ _ => ⟨rfl, e18, (by decide : 0 + 0 ≤ _), (by decide : 0 + 0 ≤ _)⟩)
      dsimp only [Pt.U, Pt.locs, Pt.cells, Pt.slots] at X31 l31 y31 z31 st31 hQ31
      subst l31 y31 z31
      obtain ⟨rfl, Nq31, e31⟩ := hQ31
      have N31 := Fr.app N18 Nq31
      refine Gl.st st31 ?_
      show Gl p e below s _ _ _ T31 (mkF m 24 #[.val (.int p1), .val (.int p2), .val (.int (1 : Int32)), .val (.ref wr_DUPLICATE_HEADER), .unset, .unset] [(.ref wh_SIGNATURE)])
      refine Gl.st (fun _ kk => XS.goto X31.here hx rfl (pc0 := 24) (pc' := 28) rfl (hb hby at_24) (by decide) (by decide) kk) ?_
      show Gl p e below s _ _ _ T31 (mkF m 28 #[.val (.int p1), .val (.int p2), .val (.int (1 : Int32)), .val (.ref wr_DUPLICATE_HEADER), .unset, .unset] [(.ref wh_SIGNATURE)])
      refine Gl.st (fun _ kk => XS.astore X31.here hx rfl (hb hby at_28) rfl rfl (l' := #[.val (.int p1), .val (.int p2), .val (.int (1 : Int32)), .val (.ref wr_DUPLICATE_HEADER), .val (.ref wh_SIGNATURE), .unset]) rfl kk) ?_
      show Gl p e below s _ _ _ T31 (mkF m 30 #[.val (.int p1), .val (.int p2), .val (.int (1 : Int32)), .val (.ref wr_DUPLICATE_HEADER), .val (.ref wh_SIGNATURE), .unset] [])
      obtain ⟨T32, h32, X32, e32, E32, A32, D32, V32, st32⟩ := newO X31 hx hZ hown (hw _ (List.mem_of_getElem? (i := 14) rfl)) (hw _ (List.mem_of_getElem? (i := 15) rfl)) (hw _ (List.mem_of_getElem? (i := 16) rfl)) e31 (g := (mkF m 30 #[.val (.int p1), .val (.int p2), .val (.int (1 : Int32)), .val (.ref wr_DUPLICATE_HEADER), .val (.ref wh_SIGNATURE), .unset] [])) rfl (hb hby at_30) (by decide) (by decide)
      obtain ⟨b32, g32⟩ : ∃ z, z = h0.size := ⟨_, rfl⟩
      rw [← g32] at A32 D32 V32 st32
      refine Gl.st st32 ?_
      have ge_b32 : n0 ≤ b32 := Nat.le_trans (Nat.le_trans (Nat.le_of_eq O0.1.symm) O0.2.1) (Nat.le_of_eq g32.symm)
      have fr_b32 : h0.size ≤ b32 := Nat.le_trans (Nat.le_refl _) (Nat.le_of_eq g32.symm)
      have O32 := O0.ext E32
      have K32 := (Keep.refl h0 []).ext E32
      have Exa_b32 := A32
      have F_refusal_b32 : Fld Z h32 b32 "io/github/countersign/Verdict" "refusal" "Lio/github/countersign/Refusal;" .null := D32 (Or.inr (hw _ (List.mem_of_getElem? (i := 36) rfl))) (ty := (.object "io/github/countersign/Refusal")) (by decide)
      have F_header_b32 : Fld Z h32 b32 "io/github/countersign/Verdict" "header" "Lio/github/countersign/Header;" .null := D32 (Or.inr (hw _ (List.mem_of_getElem? (i := 38) rfl))) (ty := (.object "io/github/countersign/Header")) (by decide)
      show Gl p e below s _ _ _ T32 (mkF m 33 #[.val (.int p1), .val (.int p2), .val (.int (1 : Int32)), .val (.ref wr_DUPLICATE_HEADER), .val (.ref wh_SIGNATURE), .unset] [(.ref b32)])
      refine Gl.st (fun _ kk => XS.dup X32.here hx rfl (hb hby at_33) rfl rfl kk) ?_
      show Gl p e below s _ _ _ T32 (mkF m 34 #[.val (.int p1), .val (.int p2), .val (.int (1 : Int32)), .val (.ref wr_DUPLICATE_HEADER), .val (.ref wh_SIGNATURE), .unset] [(.ref b32), (.ref b32)])
      refine Gl.st (fun _ kk => XS.aloadN X32.here hx rfl (hb hby at_34) rfl rfl kk) ?_
      show Gl p e below s _ _ _ T32 (mkF m 35 #[.val (.int p1), .val (.int p2), .val (.int (1 : Int32)), .val (.ref wr_DUPLICATE_HEADER), .val (.ref wh_SIGNATURE), .unset] [(.ref wr_DUPLICATE_HEADER), (.ref b32), (.ref b32)])
      refine Gl.st (fun _ kk => XS.aload X32.here hx rfl (hb hby at_35) rfl rfl kk) ?_
      show Gl p e below s _ _ _ T32 (mkF m 37 #[.val (.int p1), .val (.int p2), .val (.int (1 : Int32)), .val (.ref wr_DUPLICATE_HEADER), .val (.ref wh_SIGNATURE), .unset] [(.ref wh_SIGNATURE), (.ref wr_DUPLICATE_HEADER), (.ref b32), (.ref b32)])
      obtain ⟨_, _, ⟨T33, L33, k33, n33⟩, -, X33, ⟨Lc33, hQ33, l33, y33, z33⟩, st33⟩ := X32.specialBack hx (y := (⟨"io/github/countersign/Verdict", "<init>", "(Lio/github/countersign/Refusal;Lio/github/countersign/Header;)V"⟩ : MethodName)) rfl hown (mvT hZ (hw _ (List.mem_of_getElem? (i := 17) rfl))) (mvT hZ (hw _ (List.mem_of_getElem? (i := 18) rfl))) (mvT hZ (hw _ (List.mem_of_getElem? (i := 19) rfl))) (by decide) (backOf (W := 1) (rm3h l Z a0 hw [] b32 wr_DUPLICATE_HEADER wh_SIGNATURE h32 n0 O32 Exa_b32 F_refusal_b32 F_header_b32 ge_b32 Er_DUPLICATE_HEADER Fr_DUPLICATE_HEADER) hZ (hw _ (List.mem_of_getElem? (i := 19) rfl)) (hw _ (List.mem_of_getElem? (i := 16) rfl)) (by decide) (by decide)) (g := (mkF m 37 #[.val (.int p1), .val (.int p2), .val (.int (1 : Int32)), .val (.ref wr_DUPLICATE_HEADER), .val (.ref wh_SIGNATURE), .unset] [(.ref wh_SIGNATURE), (.ref wr_DUPLICATE_HEADER), (.ref b32), (.ref b32)])) rfl (by rw [hml]; rfl) (Steps.refl _) (a := b32) (argsL := [(.ref wr_DUPLICATE_HEADER), (.ref wh_SIGNATURE)]) (rest := [(.ref b32)]) (lenOf pd_rm0_2 rfl) rfl (by show 2 * 0 + _ ≤ _; exact Nat.le_of_eq rfl) (hb hby at_37) (fun _ _ => ⟨rfl, e32, (by decide : 1 + 0 ≤ _), (by decide : 2 + 0 ≤ _)⟩)
      dsimp only [Pt.U, Pt.locs, Pt.cells, Pt.slots] at X33 l33 y33 z33 st33 hQ33
      subst l33 y33 z33
      obtain ⟨h33, e33⟩ : ∃ z, T33.heap = z := ⟨_, rfl⟩
      rw [e33] at hQ33
      obtain ⟨rfl, Nq33, Kq33, Eq33, Fq33⟩ := hQ33
      have N33 := Fr.app N31 Nq33
      refine Gl.st (fun _ kk => st33.trans kk) ?_
      have Exa_b32 := Exa_b32.keep Kq33
      have O33 := O32.keep Kq33 (allS ge_b32 all0)
      have K33 := K32.trans Kq33 (allS (Or.inr fr_b32) all0)
      have F_refusal_b32 := Fq33
      show Gl p e below s _ _ _ T33 (mkF m 40 #[.val (.int p1), .val (.int p2), .val (.int (1 : Int32)), .val (.ref wr_DUPLICATE_HEADER), .val (.ref wh_SIGNATURE), .unset] [(.ref b32)])
      refine Gl.st (fun _ kk => XS.astore X33.here hx rfl (hb hby at_40) rfl rfl (l' := #[.val (.int p1), .val (.int p2), .val (.int (1 : Int32)), .val (.ref wr_DUPLICATE_HEADER), .val (.ref wh_SIGNATURE), .val (.ref b32)]) rfl kk) ?_
      show Gl p e below s _ _ _ T33 (mkF m 42 #[.val (.int p1), .val (.int p2), .val (.int (1 : Int32)), .val (.ref wr_DUPLICATE_HEADER), .val (.ref wh_SIGNATURE), .val (.ref b32)] [])
      refine Gl.st (fun _ kk => XS.aload X33.here hx rfl (hb hby at_42) rfl rfl kk) ?_
      show Gl p e below s _ _ _ T33 (mkF m 44 #[.val (.int p1), .val (.int p2), .val (.int (1 : Int32)), .val (.ref wr_DUPLICATE_HEADER), .val (.ref wh_SIGNATURE), .val (.ref b32)] [(.ref b32)])
      obtain ⟨cq34, kq34, qa34, qb34, qc34⟩ := isOf hZ e33 Exa_b32
      obtain ⟨_, _, ⟨T34, L34, k34, n34⟩, -, X34, ⟨Lc34, hQ34, l34, y34, z34⟩, st34⟩ := X33.virtualBack hx (y := (⟨"io/github/countersign/Verdict", "isValid", "()Z"⟩ : MethodName)) (z := (⟨"io/github/countersign/Verdict", "isValid", "()Z"⟩ : MethodName)) hown (mvT hZ (hw _ (List.mem_of_getElem? (i := 39) rfl))) (mvT hZ (hw _ (List.mem_of_getElem? (i := 40) rfl))) (notFace_of_selects (args := #[]) (mvT hZ (hw _ (List.mem_of_getElem? (i := 42) rfl)))) (mvT hZ (hw _ (List.mem_of_getElem? (i := 42) rfl))) (mvT hZ (hw _ (List.mem_of_getElem? (i := 41) rfl))) (by decide) (backOf (W := 0) (rm7 l Z a0 hw [] b32 (.ref wr_DUPLICATE_HEADER) 0 h33 n0 O33 F_refusal_b32 (Or.inr ⟨_, rfl, rfl⟩)) hZ (hw _ (List.mem_of_getElem? (i := 43) rfl)) (hw _ (List.mem_of_getElem? (i := 16) rfl)) (by decide) (by decide)) qa34 qc34 (g := (mkF m 44 #[.val (.int p1), .val (.int p2), .val (.int (1 : Int32)), .val (.ref wr_DUPLICATE_HEADER), .val (.ref wh_SIGNATURE), .val (.ref b32)] [(.ref b32)])) rfl (by rw [hml]; rfl) (Steps.refl _) (argsL := []) (rest := []) (lenOf pd_rm0_3 rfl) rfl (by show 2 * 0 + _ ≤ _; exact Nat.le_of_eq rfl) (hb hby at_44) (fun _ _ => ⟨rfl, e33, (by decide : 1 + 0 ≤ _), (by decide : 2 + 0 ≤ _)⟩)
      dsimp only [Pt.U, Pt.locs, Pt.cells, Pt.slots] at X34 l34 y34 z34 st34 hQ34
      subst l34 y34 z34
      obtain ⟨rfl, Nq34, e34⟩ := hQ34
      have N34 := Fr.app N33 Nq34
      refine Gl.st (fun _ kk => st34.trans kk) ?_
      show Gl p e below s _ _ _ T34 (mkF m 47 #[.val (.int p1), .val (.int p2), .val (.int (1 : Int32)), .val (.ref wr_DUPLICATE_HEADER), .val (.ref wh_SIGNATURE), .val (.ref b32)] [(.int (0 : Int32))])
      refine Gl.st (fun _ kk => XS.iloadN X34.here hx rfl (hb hby at_47) rfl kk) ?_
      show Gl p e below s _ _ _ T34 (mkF m 48 #[.val (.int p1), .val (.int p2), .val (.int (1 : Int32)), .val (.ref wr_DUPLICATE_HEADER), .val (.ref wh_SIGNATURE), .val (.ref b32)] [(.int (1 : Int32)), (.int (0 : Int32))])
      refine Gl.st (fun _ kk => XS.bipush X34.here hx rfl (hb hby at_48) kk) ?_
      show Gl p e below s _ _ _ T34 (mkF m 50 #[.val (.int p1), .val (.int p2), .val (.int (1 : Int32)), .val (.ref wr_DUPLICATE_HEADER), .val (.ref wh_SIGNATURE), .val (.ref b32)] [(.int (10 : Int32)), (.int (1 : Int32)), (.int (0 : Int32))])
      refine Gl.st (fun _ kk => XS.icmpYes X34.here hx rfl (pc0 := 50) (pc' := 57) rfl (hb hby at_50) rfl (feq (by decide : ¬ ((1 : Int32) = (10 : Int32)))).2 (by decide) (by decide) kk) ?_
      show Gl p e below s _ _ _ T34 (mkF m 57 #[.val (.int p1), .val (.int p2), .val (.int (1 : Int32)), .val (.ref wr_DUPLICATE_HEADER), .val (.ref wh_SIGNATURE), .val (.ref b32)] [(.int (0 : Int32))])
      refine Gl.st (fun _ kk => XS.iconst X34.here hx rfl (hb hby at_57) kk) ?_
      show Gl p e below s _ _ _ T34 (mkF m 58 #[.val (.int p1), .val (.int p2), .val (.int (1 : Int32)), .val (.ref wr_DUPLICATE_HEADER), .val (.ref wh_SIGNATURE), .val (.ref b32)] [(.int (0 : Int32)), (.int (0 : Int32))])
      refine Gl.st (fun _ kk => XS.icmpNo X34.here hx rfl (hb hby at_58) rfl (teq (by decide : (0 : Int32) = (0 : Int32))).2 kk) ?_
      show Gl p e below s _ _ _ T34 (mkF m 61 #[.val (.int p1), .val (.int p2), .val (.int (1 : Int32)), .val (.ref wr_DUPLICATE_HEADER), .val (.ref wh_SIGNATURE), .val (.ref b32)] [])
      refine Gl.st (fun _ kk => XS.iconst X34.here hx rfl (hb hby at_61) kk) ?_
      show Gl p e below s _ _ _ T34 (mkF m 62 #[.val (.int p1), .val (.int p2), .val (.int (1 : Int32)), .val (.ref wr_DUPLICATE_HEADER), .val (.ref wh_SIGNATURE), .val (.ref b32)] [(.int (1 : Int32))])
      refine Gl.st (fun _ kk => XS.goto X34.here hx rfl (pc0 := 62) (pc' := 66) rfl (hb hby at_62) (by decide) (by decide) kk) ?_
      show Gl p e below s _ _ _ T34 (mkF m 66 #[.val (.int p1), .val (.int p2), .val (.int (1 : Int32)), .val (.ref wr_DUPLICATE_HEADER), .val (.ref wh_SIGNATURE), .val (.ref b32)] [(.int (1 : Int32))])
      exact Gl.ret X34 (v := (some (.int (1 : Int32)))) (fun h => by rw [Bd.returns] at h; cases h) (BodyLoose.notSynchronized Bd) (fun hr => retN X34 hx (t := .boolean) Bd.returns (by simp) (hb hby at_66) hr) e34 ⟨rfl, N34⟩ (by decide) (by decide)
  · rw [hk]
    show Gl p e below s _ _ _ s₁ (mkF m 8 #[.val (.int p1), .val (.int p2), .val (.int (2 : Int32)), .unset, .unset, .unset] [])
    refine Gl.st (fun _ kk => XS.iloadN X0.here hx rfl (hb hby at_8) rfl kk) ?_
    show Gl p e below s _ _ _ s₁ (mkF m 9 #[.val (.int p1), .val (.int p2), .val (.int (2 : Int32)), .unset, .unset, .unset] [(.int (2 : Int32))])
    obtain ⟨_, _, ⟨T35, L35, k35, n35⟩, -, X35, ⟨Lc35, hQ35, l35, y35, z35⟩, st35⟩ := Jvm.LawKit.callS X0 hx (y := (⟨"io/github/countersign/VerdictIsValidPinLaw", "refusalAt", "(I)Lio/github/countersign/Refusal;"⟩ : MethodName)) hown (mvT hZ (hw _ (List.mem_of_getElem? (i := 1) rfl))) (mvT hZ (hw _ (List.mem_of_getElem? (i := 2) rfl))) (mvT hZ (hw _ (List.mem_of_getElem? (i := 3) rfl))) (mvT hZ (hw _ (List.mem_of_getElem? (i := 4) rfl))) (by decide) (backOf (W := 0) (rm1 l Z a0 hw [] 2 wr_MISSING_HEADER wr_DUPLICATE_HEADER wr_UNSUPPORTED_VERSION wr_BAD_DATE wr_STALE wr_UNKNOWN_API_KEY wr_MALFORMED_METHOD wr_MALFORMED_TARGET wr_SIGNATURE_MISMATCH wr_REPLAYED (.ref wr_UNSUPPORTED_VERSION) h0 n0 O0 Sr_MISSING_HEADER Sr_DUPLICATE_HEADER Sr_UNSUPPORTED_VERSION Sr_BAD_DATE Sr_STALE Sr_UNKNOWN_API_KEY Sr_MALFORMED_METHOD Sr_MALFORMED_TARGET Sr_SIGNATURE_MISMATCH Sr_REPLAYED (Or.inr (Or.inr (Or.inl ⟨rfl, rfl⟩)))) hZ (hw _ (List.mem_of_getElem? (i := 4) rfl)) (hw _ (List.mem_of_getElem? (i := 3) rfl)) (by decide) (by decide)) (g := (mkF m 9 #[.val (.int p1), .val (.int p2), .val (.int (2 : Int32)), .unset, .unset, .unset] [(.int (2 : Int32))])) rfl (by rw [hml]; rfl) (argsL := [(.int (2 : Int32))]) (rest := []) (lenOf pd_rm0_0 rfl) rfl (by show 2 * 0 + _ ≤ _; exact Nat.le_of_eq rfl) (hb hby at_9) (fun _ _ => ⟨rfl, e0, (by decide : 0 + 0 ≤ _), (by decide : 0 + 0 ≤ _)⟩)
    dsimp only [Pt.U, Pt.locs, Pt.cells, Pt.slots] at X35 l35 y35 z35 st35 hQ35
    subst l35 y35 z35
    obtain ⟨rfl, Nq35, e35⟩ := hQ35
    have N35 := Fr.app N0 Nq35
    refine Gl.st st35 ?_
    show Gl p e below s _ _ _ T35 (mkF m 12 #[.val (.int p1), .val (.int p2), .val (.int (2 : Int32)), .unset, .unset, .unset] [(.ref wr_UNSUPPORTED_VERSION)])
    refine Gl.st (fun _ kk => XS.astoreN X35.here hx rfl (hb hby at_12) rfl rfl (l' := #[.val (.int p1), .val (.int p2), .val (.int (2 : Int32)), .val (.ref wr_UNSUPPORTED_VERSION), .unset, .unset]) rfl kk) ?_
    show Gl p e below s _ _ _ T35 (mkF m 13 #[.val (.int p1), .val (.int p2), .val (.int (2 : Int32)), .val (.ref wr_UNSUPPORTED_VERSION), .unset, .unset] [])
    refine Gl.st (fun _ kk => XS.iloadN X35.here hx rfl (hb hby at_13) rfl kk) ?_
    show Gl p e below s _ _ _ T35 (mkF m 14 #[.val (.int p1), .val (.int p2), .val (.int (2 : Int32)), .val (.ref wr_UNSUPPORTED_VERSION), .unset, .unset] [(.int (2 : Int32))])
    refine Gl.st (fun _ kk => XS.iconst X35.here hx rfl (hb hby at_14) kk) ?_
    show Gl p e below s _ _ _ T35 (mkF m 15 #[.val (.int p1), .val (.int p2), .val (.int (2 : Int32)), .val (.ref wr_UNSUPPORTED_VERSION), .unset, .unset] [(.int (2 : Int32)), (.int (2 : Int32))])
    refine Gl.st (fun _ kk => XS.icmpYes X35.here hx rfl (pc0 := 15) (pc' := 27) rfl (hb hby at_15) rfl (flt (by decide : ¬ ((2 : Int32) < (2 : Int32)))).2.1 (by decide) (by decide) kk) ?_
    show Gl p e below s _ _ _ T35 (mkF m 27 #[.val (.int p1), .val (.int p2), .val (.int (2 : Int32)), .val (.ref wr_UNSUPPORTED_VERSION), .unset, .unset] [])
    refine Gl.st (fun _ kk => XS.aconstNull X35.here hx rfl (hb hby at_27) kk) ?_
    show Gl p e below s _ _ _ T35 (mkF m 28 #[.val (.int p1), .val (.int p2), .val (.int (2 : Int32)), .val (.ref wr_UNSUPPORTED_VERSION), .unset, .unset] [.null])
    refine Gl.st (fun _ kk => XS.astore X35.here hx rfl (hb hby at_28) rfl rfl (l' := #[.val (.int p1), .val (.int p2), .val (.int (2 : Int32)), .val (.ref wr_UNSUPPORTED_VERSION), .val .null, .unset]) rfl kk) ?_
    show Gl p e below s _ _ _ T35 (mkF m 30 #[.val (.int p1), .val (.int p2), .val (.int (2 : Int32)), .val (.ref wr_UNSUPPORTED_VERSION), .val .null, .unset] [])
    obtain ⟨T36, h36, X36, e36, E36, A36, D36, V36, st36⟩ := newO X35 hx hZ hown (hw _ (List.mem_of_getElem? (i := 14) rfl)) (hw _ (List.mem_of_getElem? (i := 15) rfl)) (hw _ (List.mem_of_getElem? (i := 16) rfl)) e35 (g := (mkF m 30 #[.val (.int p1), .val (.int p2), .val (.int (2 : Int32)), .val (.ref wr_UNSUPPORTED_VERSION), .val .null, .unset] [])) rfl (hb hby at_30) (by decide) (by decide)
    obtain ⟨b36, g36⟩ : ∃ z, z = h0.size := ⟨_, rfl⟩
    rw [← g36] at A36 D36 V36 st36
    refine Gl.st st36 ?_
    have ge_b36 : n0 ≤ b36 := Nat.le_trans (Nat.le_trans (Nat.le_of_eq O0.1.symm) O0.2.1) (Nat.le_of_eq g36.symm)
    have fr_b36 : h0.size ≤ b36 := Nat.le_trans (Nat.le_refl _) (Nat.le_of_eq g36.symm)
    have O36 := O0.ext E36
    have K36 := (Keep.refl h0 []).ext E36
    have Exa_b36 := A36
    have F_refusal_b36 : Fld Z h36 b36 "io/github/countersign/Verdict" "refusal" "Lio/github/countersign/Refusal;" .null := D36 (Or.inr (hw _ (List.mem_of_getElem? (i := 36) rfl))) (ty := (.object "io/github/countersign/Refusal")) (by decide)
    have F_header_b36 : Fld Z h36 b36 "io/github/countersign/Verdict" "header" "Lio/github/countersign/Header;" .null := D36 (Or.inr (hw _ (List.mem_of_getElem? (i := 38) rfl))) (ty := (.object "io/github/countersign/Header")) (by decide)
    show Gl p e below s _ _ _ T36 (mkF m 33 #[.val (.int p1), .val (.int p2), .val (.int (2 : Int32)), .val (.ref wr_UNSUPPORTED_VERSION), .val .null, .unset] [(.ref b36)])
    refine Gl.st (fun _ kk => XS.dup X36.here hx rfl (hb hby at_33) rfl rfl kk) ?_
    show Gl p e below s _ _ _ T36 (mkF m 34 #[.val (.int p1), .val (.int p2), .val (.int (2 : Int32)), .val (.ref wr_UNSUPPORTED_VERSION), .val .null, .unset] [(.ref b36), (.ref b36)])
    refine Gl.st (fun _ kk => XS.aloadN X36.here hx rfl (hb hby at_34) rfl rfl kk) ?_
    show Gl p e below s _ _ _ T36 (mkF m 35 #[.val (.int p1), .val (.int p2), .val (.int (2 : Int32)), .val (.ref wr_UNSUPPORTED_VERSION), .val .null, .unset] [(.ref wr_UNSUPPORTED_VERSION), (.ref b36), (.ref b36)])
    refine Gl.st (fun _ kk => XS.aload X36.here hx rfl (hb hby at_35) rfl rfl kk) ?_
    show Gl p e below s _ _ _ T36 (mkF m 37 #[.val (.int p1), .val (.int p2), .val (.int (2 : Int32)), .val (.ref wr_UNSUPPORTED_VERSION), .val .null, .unset] [.null, (.ref wr_UNSUPPORTED_VERSION), (.ref b36), (.ref b36)])
    obtain ⟨_, _, ⟨T37, L37, k37, n37⟩, -, X37, ⟨Lc37, hQ37, l37, y37, z37⟩, st37⟩ := X36.specialBack hx (y := (⟨"io/github/countersign/Verdict", "<init>", "(Lio/github/countersign/Refusal;Lio/github/countersign/Header;)V"⟩ : MethodName)) rfl hown (mvT hZ (hw _ (List.mem_of_getElem? (i := 17) rfl))) (mvT hZ (hw _ (List.mem_of_getElem? (i := 18) rfl))) (mvT hZ (hw _ (List.mem_of_getElem? (i := 19) rfl))) (by decide) (backOf (W := 1) (rm3o l Z a0 hw [] b36 wr_UNSUPPORTED_VERSION h36 n0 O36 Exa_b36 F_refusal_b36 F_header_b36 ge_b36 Er_UNSUPPORTED_VERSION Fr_UNSUPPORTED_VERSION) hZ (hw _ (List.mem_of_getElem? (i := 19) rfl)) (hw _ (List.mem_of_getElem? (i := 16) rfl)) (by decide) (by decide)) (g := (mkF m 37 #[.val (.int p1), .val (.int p2), .val (.int (2 : Int32)), .val (.ref wr_UNSUPPORTED_VERSION), .val .null, .unset] [.null, (.ref wr_UNSUPPORTED_VERSION), (.ref b36), (.ref b36)])) rfl (by rw [hml]; rfl) (Steps.refl _) (a := b36) (argsL := [(.ref wr_UNSUPPORTED_VERSION), .null]) (rest := [(.ref b36)]) (lenOf pd_rm0_2 rfl) rfl (by show 2 * 0 + _ ≤ _; exact Nat.le_of_eq rfl) (hb hby at_37) (fun _ _ => ⟨rfl, e36, (by decide : 1 + 0 ≤ _), (by decide : 2 + 0 ≤ _)⟩)
    dsimp only [Pt.U, Pt.locs, Pt.cells, Pt.slots] at X37 l37 y37 z37 st37 hQ37
    subst l37 y37 z37
    obtain ⟨h37, e37⟩ : ∃ z, T37.heap = z := ⟨_, rfl⟩
    rw [e37] at hQ37
    obtain ⟨rfl, Nq37, Kq37, Eq37, Fq37⟩ := hQ37
    have N37 := Fr.app N35 Nq37
    refine Gl.st (fun _ kk => st37.trans kk) ?_
    have Exa_b36 := Exa_b36.keep Kq37
    have O37 := O36.keep Kq37 (allS ge_b36 all0)
    have K37 := K36.trans Kq37 (allS (Or.inr fr_b36) all0)
    have F_refusal_b36 := Fq37
    show Gl p e below s _ _ _ T37 (mkF m 40 #[.val (.int p1), .val (.int p2), .val (.int (2 : Int32)), .val (.ref wr_UNSUPPORTED_VERSION), .val .null, .unset] [(.ref b36)])
    refine Gl.st (fun _ kk => XS.astore X37.here hx rfl (hb hby at_40) rfl rfl (l' := #[.val (.int p1), .val (.int p2), .val (.int (2 : Int32)), .val (.ref wr_UNSUPPORTED_VERSION), .val .null, .val (.ref b36)]) rfl kk) ?_
    show Gl p e below s _ _ _ T37 (mkF m 42 #[.val (.int p1), .val (.int p2), .val (.int (2 : Int32)), .val (.ref wr_UNSUPPORTED_VERSION), .val .null, .val (.ref b36)] [])
    refine Gl.st (fun _ kk => XS.aload X37.here hx rfl (hb hby at_42) rfl rfl kk) ?_
    show Gl p e below s _ _ _ T37 (mkF m 44 #[.val (.int p1), .val (.int p2), .val (.int (2 : Int32)), .val (.ref wr_UNSUPPORTED_VERSION), .val .null, .val (.ref b36)] [(.ref b36)])
    obtain ⟨cq38, kq38, qa38, qb38, qc38⟩ := isOf hZ e37 Exa_b36
    obtain ⟨_, _, ⟨T38, L38, k38, n38⟩, -, X38, ⟨Lc38, hQ38, l38, y38, z38⟩, st38⟩ := X37.virtualBack hx (y := (⟨"io/github/countersign/Verdict", "isValid", "()Z"⟩ : MethodName)) (z := (⟨"io/github/countersign/Verdict", "isValid", "()Z"⟩ : MethodName)) hown (mvT hZ (hw _ (List.mem_of_getElem? (i := 39) rfl))) (mvT hZ (hw _ (List.mem_of_getElem? (i := 40) rfl))) (notFace_of_selects (args := #[]) (mvT hZ (hw _ (List.mem_of_getElem? (i := 42) rfl)))) (mvT hZ (hw _ (List.mem_of_getElem? (i := 42) rfl))) (mvT hZ (hw _ (List.mem_of_getElem? (i := 41) rfl))) (by decide) (backOf (W := 0) (rm7 l Z a0 hw [] b36 (.ref wr_UNSUPPORTED_VERSION) 0 h37 n0 O37 F_refusal_b36 (Or.inr ⟨_, rfl, rfl⟩)) hZ (hw _ (List.mem_of_getElem? (i := 43) rfl)) (hw _ (List.mem_of_getElem? (i := 16) rfl)) (by decide) (by decide)) qa38 qc38 (g := (mkF m 44 #[.val (.int p1), .val (.int p2), .val (.int (2 : Int32)), .val (.ref wr_UNSUPPORTED_VERSION), .val .null, .val (.ref b36)] [(.ref b36)])) rfl (by rw [hml]; rfl) (Steps.refl _) (argsL := []) (rest := []) (lenOf pd_rm0_3 rfl) rfl (by show 2 * 0 + _ ≤ _; exact Nat.le_of_eq rfl) (hb hby at_44) (fun _ _ => ⟨rfl, e37, (by decide : 1 + 0 ≤ _), (by decide : 2 + 0 ≤ _)⟩)
    dsimp only [Pt.U, Pt.locs, Pt.cells, Pt.slots] at X38 l38 y38 z38 st38 hQ38
    subst l38 y38 z38
    obtain ⟨rfl, Nq38, e38⟩ := hQ38
    have N38 := Fr.app N37 Nq38
    refine Gl.st (fun _ kk => st38.trans kk) ?_
    show Gl p e below s _ _ _ T38 (mkF m 47 #[.val (.int p1), .val (.int p2), .val (.int (2 : Int32)), .val (.ref wr_UNSUPPORTED_VERSION), .val .null, .val (.ref b36)] [(.int (0 : Int32))])
    refine Gl.st (fun _ kk => XS.iloadN X38.here hx rfl (hb hby at_47) rfl kk) ?_
    show Gl p e below s _ _ _ T38 (mkF m 48 #[.val (.int p1), .val (.int p2), .val (.int (2 : Int32)), .val (.ref wr_UNSUPPORTED_VERSION), .val .null, .val (.ref b36)] [(.int (2 : Int32)), (.int (0 : Int32))])
    refine Gl.st (fun _ kk => XS.bipush X38.here hx rfl (hb hby at_48) kk) ?_
    show Gl p e below s _ _ _ T38 (mkF m 50 #[.val (.int p1), .val (.int p2), .val (.int (2 : Int32)), .val (.ref wr_UNSUPPORTED_VERSION), .val .null, .val (.ref b36)] [(.int (10 : Int32)), (.int (2 : Int32)), (.int (0 : Int32))])
    refine Gl.st (fun _ kk => XS.icmpYes X38.here hx rfl (pc0 := 50) (pc' := 57) rfl (hb hby at_50) rfl (feq (by decide : ¬ ((2 : Int32) = (10 : Int32)))).2 (by decide) (by decide) kk) ?_
    show Gl p e below s _ _ _ T38 (mkF m 57 #[.val (.int p1), .val (.int p2), .val (.int (2 : Int32)), .val (.ref wr_UNSUPPORTED_VERSION), .val .null, .val (.ref b36)] [(.int (0 : Int32))])
    refine Gl.st (fun _ kk => XS.iconst X38.here hx rfl (hb hby at_57) kk) ?_
    show Gl p e below s _ _ _ T38 (mkF m 58 #[.val (.int p1), .val (.int p2), .val (.int (2 : Int32)), .val (.ref wr_UNSUPPORTED_VERSION), .val .null, .val (.ref b36)] [(.int (0 : Int32)), (.int (0 : Int32))])
    refine Gl.st (fun _ kk => XS.icmpNo X38.here hx rfl (hb hby at_58) rfl (teq (by decide : (0 : Int32) = (0 : Int32))).2 kk) ?_
    show Gl p e below s _ _ _ T38 (mkF m 61 #[.val (.int p1), .val (.int p2), .val (.int (2 : Int32)), .val (.ref wr_UNSUPPORTED_VERSION), .val .null, .val (.ref b36)] [])
    refine Gl.st (fun _ kk => XS.iconst X38.here hx rfl (hb hby at_61) kk) ?_
    show Gl p e below s _ _ _ T38 (mkF m 62 #[.val (.int p1), .val (.int p2), .val (.int (2 : Int32)), .val (.ref wr_UNSUPPORTED_VERSION), .val .null, .val (.ref b36)] [(.int (1 : Int32))])
    refine Gl.st (fun _ kk => XS.goto X38.here hx rfl (pc0 := 62) (pc' := 66) rfl (hb hby at_62) (by decide) (by decide) kk) ?_
    show Gl p e below s _ _ _ T38 (mkF m 66 #[.val (.int p1), .val (.int p2), .val (.int (2 : Int32)), .val (.ref wr_UNSUPPORTED_VERSION), .val .null, .val (.ref b36)] [(.int (1 : Int32))])
    exact Gl.ret X38 (v := (some (.int (1 : Int32)))) (fun h => by rw [Bd.returns] at h; cases h) (BodyLoose.notSynchronized Bd) (fun hr => retN X38 hx (t := .boolean) Bd.returns (by simp) (hb hby at_66) hr) e38 ⟨rfl, N38⟩ (by decide) (by decide)
  · rw [hk]
    show Gl p e below s _ _ _ s₁ (mkF m 8 #[.val (.int p1), .val (.int p2), .val (.int (3 : Int32)), .unset, .unset, .unset] [])
    refine Gl.st (fun _ kk => XS.iloadN X0.here hx rfl (hb hby at_8) rfl kk) ?_
    show Gl p e below s _ _ _ s₁ (mkF m 9 #[.val (.int p1), .val (.int p2), .val (.int (3 : Int32)), .unset, .unset, .unset] [(.int (3 : Int32))])
    obtain ⟨_, _, ⟨T39, L39, k39, n39⟩, -, X39, ⟨Lc39, hQ39, l39, y39, z39⟩, st39⟩ := Jvm.LawKit.callS X0 hx (y := (⟨"io/github/countersign/VerdictIsValidPinLaw", "refusalAt", "(I)Lio/github/countersign/Refusal;"⟩ : MethodName)) hown (mvT hZ (hw _ (List.mem_of_getElem? (i := 1) rfl))) (mvT hZ (hw _ (List.mem_of_getElem? (i := 2) rfl))) (mvT hZ (hw _ (List.mem_of_getElem? (i := 3) rfl))) (mvT hZ (hw _ (List.mem_of_getElem? (i := 4) rfl))) (by decide) (backOf (W := 0) (rm1 l Z a0 hw [] 3 wr_MISSING_HEADER wr_DUPLICATE_HEADER wr_UNSUPPORTED_VERSION wr_BAD_DATE wr_STALE wr_UNKNOWN_API_KEY wr_MALFORMED_METHOD wr_MALFORMED_TARGET wr_SIGNATURE_MISMATCH wr_REPLAYED (.ref wr_BAD_DATE) h0 n0 O0 Sr_MISSING_HEADER Sr_DUPLICATE_HEADER Sr_UNSUPPORTED_VERSION Sr_BAD_DATE Sr_STALE Sr_UNKNOWN_API_KEY Sr_MALFORMED_METHOD Sr_MALFORMED_TARGET Sr_SIGNATURE_MISMATCH Sr_REPLAYED (Or.inr (Or.inr (Or.inr (Or.inl ⟨rfl, rfl⟩))))) hZ (hw _ (List.mem_of_getElem? (i := 4) rfl)) (hw _ (List.mem_of_getElem? (i := 3) rfl)) (by decide) (by decide)) (g := (mkF m 9 #[.val (.int p1), .val (.int p2), .val (.int (3 : Int32)), .unset, .unset, .unset] [(.int (3 : Int32))])) rfl (by rw [hml]; rfl) (argsL := [(.int (3 : Int32))]) (rest := []) (lenOf pd_rm0_0 rfl) rfl (by show 2 * 0 + _ ≤ _; exact Nat.le_of_eq rfl) (hb hby at_9) (fun _ _ => ⟨rfl, e0, (by decide : 0 + 0 ≤ _), (by decide : 0 + 0 ≤ _)⟩)
    dsimp only [Pt.U, Pt.locs, Pt.cells, Pt.slots] at X39 l39 y39 z39 st39 hQ39
    subst l39 y39 z39
    obtain ⟨rfl, Nq39, e39⟩ := hQ39
    have N39 := Fr.app N0 Nq39
    refine Gl.st st39 ?_
    show Gl p e below s _ _ _ T39 (mkF m 12 #[.val (.int p1), .val (.int p2), .val (.int (3 : Int32)), .unset, .unset, .unset] [(.ref wr_BAD_DATE)])
    refine Gl.st (fun _ kk => XS.astoreN X39.here hx rfl (hb hby at_12) rfl rfl (l' := #[.val (.int p1), .val (.int p2), .val (.int (3 : Int32)), .val (.ref wr_BAD_DATE), .unset, .unset]) rfl kk) ?_
    show Gl p e below s _ _ _ T39 (mkF m 13 #[.val (.int p1), .val (.int p2), .val (.int (3 : Int32)), .val (.ref wr_BAD_DATE), .unset, .unset] [])
    refine Gl.st (fun _ kk => XS.iloadN X39.here hx rfl (hb hby at_13) rfl kk) ?_
    show Gl p e below s _ _ _ T39 (mkF m 14 #[.val (.int p1), .val (.int p2), .val (.int (3 : Int32)), .val (.ref wr_BAD_DATE), .unset, .unset] [(.int (3 : Int32))])
    refine Gl.st (fun _ kk => XS.iconst X39.here hx rfl (hb hby at_14) kk) ?_
    show Gl p e below s _ _ _ T39 (mkF m 15 #[.val (.int p1), .val (.int p2), .val (.int (3 : Int32)), .val (.ref wr_BAD_DATE), .unset, .unset] [(.int (2 : Int32)), (.int (3 : Int32))])
    refine Gl.st (fun _ kk => XS.icmpYes X39.here hx rfl (pc0 := 15) (pc' := 27) rfl (hb hby at_15) rfl (flt (by decide : ¬ ((3 : Int32) < (2 : Int32)))).2.1 (by decide) (by decide) kk) ?_
    show Gl p e below s _ _ _ T39 (mkF m 27 #[.val (.int p1), .val (.int p2), .val (.int (3 : Int32)), .val (.ref wr_BAD_DATE), .unset, .unset] [])
    refine Gl.st (fun _ kk => XS.aconstNull X39.here hx rfl (hb hby at_27) kk) ?_
    show Gl p e below s _ _ _ T39 (mkF m 28 #[.val (.int p1), .val (.int p2), .val (.int (3 : Int32)), .val (.ref wr_BAD_DATE), .unset, .unset] [.null])
    refine Gl.st (fun _ kk => XS.astore X39.here hx rfl (hb hby at_28) rfl rfl (l' := #[.val (.int p1), .val (.int p2), .val (.int (3 : Int32)), .val (.ref wr_BAD_DATE), .val .null, .unset]) rfl kk) ?_
    show Gl p e below s _ _ _ T39 (mkF m 30 #[.val (.int p1), .val (.int p2), .val (.int (3 : Int32)), .val (.ref wr_BAD_DATE), .val .null, .unset] [])
    obtain ⟨T40, h40, X40, e40, E40, A40, D40, V40, st40⟩ := newO X39 hx hZ hown (hw _ (List.mem_of_getElem? (i := 14) rfl)) (hw _ (List.mem_of_getElem? (i := 15) rfl)) (hw _ (List.mem_of_getElem? (i := 16) rfl)) e39 (g := (mkF m 30 #[.val (.int p1), .val (.int p2), .val (.int (3 : Int32)), .val (.ref wr_BAD_DATE), .val .null, .unset] [])) rfl (hb hby at_30) (by decide) (by decide)
    obtain ⟨b40, g40⟩ : ∃ z, z = h0.size := ⟨_, rfl⟩
    rw [← g40] at A40 D40 V40 st40
    refine Gl.st st40 ?_
    have ge_b40 : n0 ≤ b40 := Nat.le_trans (Nat.le_trans (Nat.le_of_eq O0.1.symm) O0.2.1) (Nat.le_of_eq g40.symm)
    have fr_b40 : h0.size ≤ b40 := Nat.le_trans (Nat.le_refl _) (Nat.le_of_eq g40.symm)
    have O40 := O0.ext E40
    have K40 := (Keep.refl h0 []).ext E40
    have Exa_b40 := A40
    have F_refusal_b40 : Fld Z h40 b40 "io/github/countersign/Verdict" "refusal" "Lio/github/countersign/Refusal;" .null := D40 (Or.inr (hw _ (List.mem_of_getElem? (i := 36) rfl))) (ty := (.object "io/github/countersign/Refusal")) (by decide)
    have F_header_b40 : Fld Z h40 b40 "io/github/countersign/Verdict" "header" "Lio/github/countersign/Header;" .null := D40 (Or.inr (hw _ (List.mem_of_getElem? (i := 38) rfl))) (ty := (.object "io/github/countersign/Header")) (by decide)
    show Gl p e below s _ _ _ T40 (mkF m 33 #[.val (.int p1), .val (.int p2), .val (.int (3 : Int32)), .val (.ref wr_BAD_DATE), .val .null, .unset] [(.ref b40)])
    refine Gl.st (fun _ kk => XS.dup X40.here hx rfl (hb hby at_33) rfl rfl kk) ?_
    show Gl p e below s _ _ _ T40 (mkF m 34 #[.val (.int p1), .val (.int p2), .val (.int (3 : Int32)), .val (.ref wr_BAD_DATE), .val .null, .unset] [(.ref b40), (.ref b40)])
    refine Gl.st (fun _ kk => XS.aloadN X40.here hx rfl (hb hby at_34) rfl rfl kk) ?_
    show Gl p e below s _ _ _ T40 (mkF m 35 #[.val (.int p1), .val (.int p2), .val (.int (3 : Int32)), .val (.ref wr_BAD_DATE), .val .null, .unset] [(.ref wr_BAD_DATE), (.ref b40), (.ref b40)])
    refine Gl.st (fun _ kk => XS.aload X40.here hx rfl (hb hby at_35) rfl rfl kk) ?_
    show Gl p e below s _ _ _ T40 (mkF m 37 #[.val (.int p1), .val (.int p2), .val (.int (3 : Int32)), .val (.ref wr_BAD_DATE), .val .null, .unset] [.null, (.ref wr_BAD_DATE), (.ref b40), (.ref b40)])
    obtain ⟨_, _, ⟨T41, L41, k41, n41⟩, -, X41, ⟨Lc41, hQ41, l41, y41, z41⟩, st41⟩ := X40.specialBack hx (y := (⟨"io/github/countersign/Verdict", "<init>", "(Lio/github/countersign/Refusal;Lio/github/countersign/Header;)V"⟩ : MethodName)) rfl hown (mvT hZ (hw _ (List.mem_of_getElem? (i := 17) rfl))) (mvT hZ (hw _ (List.mem_of_getElem? (i := 18) rfl))) (mvT hZ (hw _ (List.mem_of_getElem? (i := 19) rfl))) (by decide) (backOf (W := 1) (rm3o l Z a0 hw [] b40 wr_BAD_DATE h40 n0 O40 Exa_b40 F_refusal_b40 F_header_b40 ge_b40 Er_BAD_DATE Fr_BAD_DATE) hZ (hw _ (List.mem_of_getElem? (i := 19) rfl)) (hw _ (List.mem_of_getElem? (i := 16) rfl)) (by decide) (by decide)) (g := (mkF m 37 #[.val (.int p1), .val (.int p2), .val (.int (3 : Int32)), .val (.ref wr_BAD_DATE), .val .null, .unset] [.null, (.ref wr_BAD_DATE), (.ref b40), (.ref b40)])) rfl (by rw [hml]; rfl) (Steps.refl _) (a := b40) (argsL := [(.ref wr_BAD_DATE), .null]) (rest := [(.ref b40)]) (lenOf pd_rm0_2 rfl) rfl (by show 2 * 0 + _ ≤ _; exact Nat.le_of_eq rfl) (hb hby at_37) (fun _ _ => ⟨rfl, e40, (by decide : 1 + 0 ≤ _), (by decide : 2 + 0 ≤ _)⟩)
    dsimp only [Pt.U, Pt.locs, Pt.cells, Pt.slots] at X41 l41 y41 z41 st41 hQ41
    subst l41 y41 z41
    obtain ⟨h41, e41⟩ : ∃ z, T41.heap = z := ⟨_, rfl⟩
    rw [e41] at hQ41
    obtain ⟨rfl, Nq41, Kq41, Eq41, Fq41⟩ := hQ41
    have N41 := Fr.app N39 Nq41
    refine Gl.st (fun _ kk => st41.trans kk) ?_
    have Exa_b40 := Exa_b40.keep Kq41
    have O41 := O40.keep Kq41 (allS ge_b40 all0)
    have K41 := K40.trans Kq41 (allS (Or.inr fr_b40) all0)
    have F_refusal_b40 := Fq41
    show Gl p e below s _ _ _ T41 (mkF m 40 #[.val (.int p1), .val (.int p2), .val (.int (3 : Int32)), .val (.ref wr_BAD_DATE), .val .null, .unset] [(.ref b40)])
    refine Gl.st (fun _ kk => XS.astore X41.here hx rfl (hb hby at_40) rfl rfl (l' := #[.val (.int p1), .val (.int p2), .val (.int (3 : Int32)), .val (.ref wr_BAD_DATE), .val .null, .val (.ref b40)]) rfl kk) ?_
    show Gl p e below s _ _ _ T41 (mkF m 42 #[.val (.int p1), .val (.int p2), .val (.int (3 : Int32)), .val (.ref wr_BAD_DATE), .val .null, .val (.ref b40)] [])
    refine Gl.st (fun _ kk => XS.aload X41.here hx rfl (hb hby at_42) rfl rfl kk) ?_
    show Gl p e below s _ _ _ T41 (mkF m 44 #[.val (.int p1), .val (.int p2), .val (.int (3 : Int32)), .val (.ref wr_BAD_DATE), .val .null, .val (.ref b40)] [(.ref b40)])
    obtain ⟨cq42, kq42, qa42, qb42, qc42⟩ := isOf hZ e41 Exa_b40
    obtain ⟨_, _, ⟨T42, L42, k42, n42⟩, -, X42, ⟨Lc42, hQ42, l42, y42, z42⟩, st42⟩ := X41.virtualBack hx (y := (⟨"io/github/countersign/Verdict", "isValid", "()Z"⟩ : MethodName)) (z := (⟨"io/github/countersign/Verdict", "isValid", "()Z"⟩ : MethodName)) hown (mvT hZ (hw _ (List.mem_of_getElem? (i := 39) rfl))) (mvT hZ (hw _ (List.mem_of_getElem? (i := 40) rfl))) (notFace_of_selects (args := #[]) (mvT hZ (hw _ (List.mem_of_getElem? (i := 42) rfl)))) (mvT hZ (hw _ (List.mem_of_getElem? (i := 42) rfl))) (mvT hZ (hw _ (List.mem_of_getElem? (i := 41) rfl))) (by decide) (backOf (W := 0) (rm7 l Z a0 hw [] b40 (.ref wr_BAD_DATE) 0 h41 n0 O41 F_refusal_b40 (Or.inr ⟨_, rfl, rfl⟩)) hZ (hw _ (List.mem_of_getElem? (i := 43) rfl)) (hw _ (List.mem_of_getElem? (i := 16) rfl)) (by decide) (by decide)) qa42 qc42 (g := (mkF m 44 #[.val (.int p1), .val (.int p2), .val (.int (3 : Int32)), .val (.ref wr_BAD_DATE), .val .null, .val (.ref b40)] [(.ref b40)])) rfl (by rw [hml]; rfl) (Steps.refl _) (argsL := []) (rest := []) (lenOf pd_rm0_3 rfl) rfl (by show 2 * 0 + _ ≤ _; exact Nat.le_of_eq rfl) (hb hby at_44) (fun _ _ => ⟨rfl, e41, (by decide : 1 + 0 ≤ _), (by decide : 2 + 0 ≤ _)⟩)
    dsimp only [Pt.U, Pt.locs, Pt.cells, Pt.slots] at X42 l42 y42 z42 st42 hQ42
    subst l42 y42 z42
    obtain ⟨rfl, Nq42, e42⟩ := hQ42
    have N42 := Fr.app N41 Nq42
    refine Gl.st (fun _ kk => st42.trans kk) ?_
    show Gl p e below s _ _ _ T42 (mkF m 47 #[.val (.int p1), .val (.int p2), .val (.int (3 : Int32)), .val (.ref wr_BAD_DATE), .val .null, .val (.ref b40)] [(.int (0 : Int32))])
    refine Gl.st (fun _ kk => XS.iloadN X42.here hx rfl (hb hby at_47) rfl kk) ?_
    show Gl p e below s _ _ _ T42 (mkF m 48 #[.val (.int p1), .val (.int p2), .val (.int (3 : Int32)), .val (.ref wr_BAD_DATE), .val .null, .val (.ref b40)] [(.int (3 : Int32)), (.int (0 : Int32))])
    refine Gl.st (fun _ kk => XS.bipush X42.here hx rfl (hb hby at_48) kk) ?_
    show Gl p e below s _ _ _ T42 (mkF m 50 #[.val (.int p1), .val (.int p2), .val (.int (3 : Int32)), .val (.ref wr_BAD_DATE), .val .null, .val (.ref b40)] [(.int (10 : Int32)), (.int (3 : Int32)), (.int (0 : Int32))])
    refine Gl.st (fun _ kk => XS.icmpYes X42.here hx rfl (pc0 := 50) (pc' := 57) rfl (hb hby at_50) rfl (feq (by decide : ¬ ((3 : Int32) = (10 : Int32)))).2 (by decide) (by decide) kk) ?_
    show Gl p e below s _ _ _ T42 (mkF m 57 #[.val (.int p1), .val (.int p2), .val (.int (3 : Int32)), .val (.ref wr_BAD_DATE), .val .null, .val (.ref b40)] [(.int (0 : Int32))])
    refine Gl.st (fun _ kk => XS.iconst X42.here hx rfl (hb hby at_57) kk) ?_
    show Gl p e below s _ _ _ T42 (mkF m 58 #[.val (.int p1), .val (.int p2), .val (.int (3 : Int32)), .val (.ref wr_BAD_DATE), .val .null, .val (.ref b40)] [(.int (0 : Int32)), (.int (0 : Int32))])
    refine Gl.st (fun _ kk => XS.icmpNo X42.here hx rfl (hb hby at_58) rfl (teq (by decide : (0 : Int32) = (0 : Int32))).2 kk) ?_
    show Gl p e below s _ _ _ T42 (mkF m 61 #[.val (.int p1), .val (.int p2), .val (.int (3 : Int32)), .val (.ref wr_BAD_DATE), .val .null, .val (.ref b40)] [])
    refine Gl.st (fun _ kk => XS.iconst X42.here hx rfl (hb hby at_61) kk) ?_
    show Gl p e below s _ _ _ T42 (mkF m 62 #[.val (.int p1), .val (.int p2), .val (.int (3 : Int32)), .val (.ref wr_BAD_DATE), .val .null, .val (.ref b40)] [(.int (1 : Int32))])
    refine Gl.st (fun _ kk => XS.goto X42.here hx rfl (pc0 := 62) (pc' := 66) rfl (hb hby at_62) (by decide) (by decide) kk) ?_
    show Gl p e below s _ _ _ T42 (mkF m 66 #[.val (.int p1), .val (.int p2), .val (.int (3 : Int32)), .val (.ref wr_BAD_DATE), .val .null, .val (.ref b40)] [(.int (1 : Int32))])
    exact Gl.ret X42 (v := (some (.int (1 : Int32)))) (fun h => by rw [Bd.returns] at h; cases h) (BodyLoose.notSynchronized Bd) (fun hr => retN X42 hx (t := .boolean) Bd.returns (by simp) (hb hby at_66) hr) e42 ⟨rfl, N42⟩ (by decide) (by decide)
  · rw [hk]
    show Gl p e below s _ _ _ s₁ (mkF m 8 #[.val (.int p1), .val (.int p2), .val (.int (4 : Int32)), .unset, .unset, .unset] [])
    refine Gl.st (fun _ kk => XS.iloadN X0.here hx rfl (hb hby at_8) rfl kk) ?_
    show Gl p e below s _ _ _ s₁ (mkF m 9 #[.val (.int p1), .val (.int p2), .val (.int (4 : Int32)), .unset, .unset, .unset] [(.int (4 : Int32))])
    obtain ⟨_, _, ⟨T43, L43, k43, n43⟩, -, X43, ⟨Lc43, hQ43, l43, y43, z43⟩, st43⟩ := Jvm.LawKit.callS X0 hx (y := (⟨"io/github/countersign/VerdictIsValidPinLaw", "refusalAt", "(I)Lio/github/countersign/Refusal;"⟩ : MethodName)) hown (mvT hZ (hw _ (List.mem_of_getElem? (i := 1) rfl))) (mvT hZ (hw _ (List.mem_of_getElem? (i := 2) rfl))) (mvT hZ (hw _ (List.mem_of_getElem? (i := 3) rfl))) (mvT hZ (hw _ (List.mem_of_getElem? (i := 4) rfl))) (by decide) (backOf (W := 0) (rm1 l Z a0 hw [] 4 wr_MISSING_HEADER wr_DUPLICATE_HEADER wr_UNSUPPORTED_VERSION wr_BAD_DATE wr_STALE wr_UNKNOWN_API_KEY wr_MALFORMED_METHOD wr_MALFORMED_TARGET wr_SIGNATURE_MISMATCH wr_REPLAYED (.ref wr_STALE) h0 n0 O0 Sr_MISSING_HEADER Sr_DUPLICATE_HEADER Sr_UNSUPPORTED_VERSION Sr_BAD_DATE Sr_STALE Sr_UNKNOWN_API_KEY Sr_MALFORMED_METHOD Sr_MALFORMED_TARGET Sr_SIGNATURE_MISMATCH Sr_REPLAYED (Or.inr (Or.inr (Or.inr (Or.inr (Or.inl ⟨rfl, rfl⟩)))))) hZ (hw _ (List.mem_of_getElem? (i := 4) rfl)) (hw _ (List.mem_of_getElem? (i := 3) rfl)) (by decide) (by decide)) (g := (mkF m 9 #[.val (.int p1), .val (.int p2), .val (.int (4 : Int32)), .unset, .unset, .unset] [(.int (4 : Int32))])) rfl (by rw [hml]; rfl) (argsL := [(.int (4 : Int32))]) (rest := []) (lenOf pd_rm0_0 rfl) rfl (by show 2 * 0 + _ ≤ _; exact Nat.le_of_eq rfl) (hb hby at_9) (fun _ _ => ⟨rfl, e0, (by decide : 0 + 0 ≤ _), (by decide : 0 + 0 ≤ _)⟩)
    dsimp only [Pt.U, Pt.locs, Pt.cells, Pt.slots] at X43 l43 y43 z43 st43 hQ43
    subst l43 y43 z43
    obtain ⟨rfl, Nq43, e43⟩ := hQ43
    have N43 := Fr.app N0 Nq43
    refine Gl.st st43 ?_
    show Gl p e below s _ _ _ T43 (mkF m 12 #[.val (.int p1), .val (.int p2), .val (.int (4 : Int32)), .unset, .unset, .unset] [(.ref wr_STALE)])
    refine Gl.st (fun _ kk => XS.astoreN X43.here hx rfl (hb hby at_12) rfl rfl (l' := #[.val (.int p1), .val (.int p2), .val (.int (4 : Int32)), .val (.ref wr_STALE), .unset, .unset]) rfl kk) ?_
    show Gl p e below s _ _ _ T43 (mkF m 13 #[.val (.int p1), .val (.int p2), .val (.int (4 : Int32)), .val (.ref wr_STALE), .unset, .unset] [])
    refine Gl.st (fun _ kk => XS.iloadN X43.here hx rfl (hb hby at_13) rfl kk) ?_
    show Gl p e below s _ _ _ T43 (mkF m 14 #[.val (.int p1), .val (.int p2), .val (.int (4 : Int32)), .val (.ref wr_STALE), .unset, .unset] [(.int (4 : Int32))])
    refine Gl.st (fun _ kk => XS.iconst X43.here hx rfl (hb hby at_14) kk) ?_
    show Gl p e below s _ _ _ T43 (mkF m 15 #[.val (.int p1), .val (.int p2), .val (.int (4 : Int32)), .val (.ref wr_STALE), .unset, .unset] [(.int (2 : Int32)), (.int (4 : Int32))])
    refine Gl.st (fun _ kk => XS.icmpYes X43.here hx rfl (pc0 := 15) (pc' := 27) rfl (hb hby at_15) rfl (flt (by decide : ¬ ((4 : Int32) < (2 : Int32)))).2.1 (by decide) (by decide) kk) ?_
    show Gl p e below s _ _ _ T43 (mkF m 27 #[.val (.int p1), .val (.int p2), .val (.int (4 : Int32)), .val (.ref wr_STALE), .unset, .unset] [])
    refine Gl.st (fun _ kk => XS.aconstNull X43.here hx rfl (hb hby at_27) kk) ?_
    show Gl p e below s _ _ _ T43 (mkF m 28 #[.val (.int p1), .val (.int p2), .val (.int (4 : Int32)), .val (.ref wr_STALE), .unset, .unset] [.null])
    refine Gl.st (fun _ kk => XS.astore X43.here hx rfl (hb hby at_28) rfl rfl (l' := #[.val (.int p1), .val (.int p2), .val (.int (4 : Int32)), .val (.ref wr_STALE), .val .null, .unset]) rfl kk) ?_
    show Gl p e below s _ _ _ T43 (mkF m 30 #[.val (.int p1), .val (.int p2), .val (.int (4 : Int32)), .val (.ref wr_STALE), .val .null, .unset] [])
    obtain ⟨T44, h44, X44, e44, E44, A44, D44, V44, st44⟩ := newO X43 hx hZ hown (hw _ (List.mem_of_getElem? (i := 14) rfl)) (hw _ (List.mem_of_getElem? (i := 15) rfl)) (hw _ (List.mem_of_getElem? (i := 16) rfl)) e43 (g := (mkF m 30 #[.val (.int p1), .val (.int p2), .val (.int (4 : Int32)), .val (.ref wr_STALE), .val .null, .unset] [])) rfl (hb hby at_30) (by decide) (by decide)
    obtain ⟨b44, g44⟩ : ∃ z, z = h0.size := ⟨_, rfl⟩
    rw [← g44] at A44 D44 V44 st44
    refine Gl.st st44 ?_
    have ge_b44 : n0 ≤ b44 := Nat.le_trans (Nat.le_trans (Nat.le_of_eq O0.1.symm) O0.2.1) (Nat.le_of_eq g44.symm)
    have fr_b44 : h0.size ≤ b44 := Nat.le_trans (Nat.le_refl _) (Nat.le_of_eq g44.symm)
    have O44 := O0.ext E44
    have K44 := (Keep.refl h0 []).ext E44
    have Exa_b44 := A44
    have F_refusal_b44 : Fld Z h44 b44 "io/github/countersign/Verdict" "refusal" "Lio/github/countersign/Refusal;" .null := D44 (Or.inr (hw _ (List.mem_of_getElem? (i := 36) rfl))) (ty := (.object "io/github/countersign/Refusal")) (by decide)
    have F_header_b44 : Fld Z h44 b44 "io/github/countersign/Verdict" "header" "Lio/github/countersign/Header;" .null := D44 (Or.inr (hw _ (List.mem_of_getElem? (i := 38) rfl))) (ty := (.object "io/github/countersign/Header")) (by decide)
    show Gl p e below s _ _ _ T44 (mkF m 33 #[.val (.int p1), .val (.int p2), .val (.int (4 : Int32)), .val (.ref wr_STALE), .val .null, .unset] [(.ref b44)])
    refine Gl.st (fun _ kk => XS.dup X44.here hx rfl (hb hby at_33) rfl rfl kk) ?_
    show Gl p e below s _ _ _ T44 (mkF m 34 #[.val (.int p1), .val (.int p2), .val (.int (4 : Int32)), .val (.ref wr_STALE), .val .null, .unset] [(.ref b44), (.ref b44)])
    refine Gl.st (fun _ kk => XS.aloadN X44.here hx rfl (hb hby at_34) rfl rfl kk) ?_
    show Gl p e below s _ _ _ T44 (mkF m 35 #[.val (.int p1), .val (.int p2), .val (.int (4 : Int32)), .val (.ref wr_STALE), .val .null, .unset] [(.ref wr_STALE), (.ref b44), (.ref b44)])
    refine Gl.st (fun _ kk => XS.aload X44.here hx rfl (hb hby at_35) rfl rfl kk) ?_
    show Gl p e below s _ _ _ T44 (mkF m 37 #[.val (.int p1), .val (.int p2), .val (.int (4 : Int32)), .val (.ref wr_STALE), .val .null, .unset] [.null, (.ref wr_STALE), (.ref b44), (.ref b44)])
    obtain ⟨_, _, ⟨T45, L45, k45, n45⟩, -, X45, ⟨Lc45, hQ45, l45, y45, z45⟩, st45⟩ := X44.specialBack hx (y := (⟨"io/github/countersign/Verdict", "<init>", "(Lio/github/countersign/Refusal;Lio/github/countersign/Header;)V"⟩ : MethodName)) rfl hown (mvT hZ (hw _ (List.mem_of_getElem? (i := 17) rfl))) (mvT hZ (hw _ (List.mem_of_getElem? (i := 18) rfl))) (mvT hZ (hw _ (List.mem_of_getElem? (i := 19) rfl))) (by decide) (backOf (W := 1) (rm3o l Z a0 hw [] b44 wr_STALE h44 n0 O44 Exa_b44 F_refusal_b44 F_header_b44 ge_b44 Er_STALE Fr_STALE) hZ (hw _ (List.mem_of_getElem? (i := 19) rfl)) (hw _ (List.mem_of_getElem? (i := 16) rfl)) (by decide) (by decide)) (g := (mkF m 37 #[.val (.int p1), .val (.int p2), .val (.int (4 : Int32)), .val (.ref wr_STALE), .val .null, .unset] [.null, (.ref wr_STALE), (.ref b44), (.ref b44)])) rfl (by rw [hml]; rfl) (Steps.refl _) (a := b44) (argsL := [(.ref wr_STALE), .null]) (rest := [(.ref b44)]) (lenOf pd_rm0_2 rfl) rfl (by show 2 * 0 + _ ≤ _; exact Nat.le_of_eq rfl) (hb hby at_37) (fun _ _ => ⟨rfl, e44, (by decide : 1 + 0 ≤ _), (by decide : 2 + 0 ≤ _)⟩)
    dsimp only [Pt.U, Pt.locs, Pt.cells, Pt.slots] at X45 l45 y45 z45 st45 hQ45
    subst l45 y45 z45
    obtain ⟨h45, e45⟩ : ∃ z, T45.heap = z := ⟨_, rfl⟩
    rw [e45] at hQ45
    obtain ⟨rfl, Nq45, Kq45, Eq45, Fq45⟩ := hQ45
    have N45 := Fr.app N43 Nq45
    refine Gl.st (fun _ kk => st45.trans kk) ?_
    have Exa_b44 := Exa_b44.keep Kq45
    have O45 := O44.keep Kq45 (allS ge_b44 all0)
    have K45 := K44.trans Kq45 (allS (Or.inr fr_b44) all0)
    have F_refusal_b44 := Fq45
    show Gl p e below s _ _ _ T45 (mkF m 40 #[.val (.int p1), .val (.int p2), .val (.int (4 : Int32)), .val (.ref wr_STALE), .val .null, .unset] [(.ref b44)])
    refine Gl.st (fun _ kk => XS.astore X45.here hx rfl (hb hby at_40) rfl rfl (l' := #[.val (.int p1), .val (.int p2), .val (.int (4 : Int32)), .val (.ref wr_STALE), .val .null, .val (.ref b44)]) rfl kk) ?_
    show Gl p e below s _ _ _ T45 (mkF m 42 #[.val (.int p1), .val (.int p2), .val (.int (4 : Int32)), .val (.ref wr_STALE), .val .null, .val (.ref b44)] [])
    refine Gl.st (fun _ kk => XS.aload X45.here hx rfl (hb hby at_42) rfl rfl kk) ?_
    show Gl p e below s _ _ _ T45 (mkF m 44 #[.val (.int p1), .val (.int p2), .val (.int (4 : Int32)), .val (.ref wr_STALE), .val .null, .val (.ref b44)] [(.ref b44)])
    obtain ⟨cq46, kq46, qa46, qb46, qc46⟩ := isOf hZ e45 Exa_b44
    obtain ⟨_, _, ⟨T46, L46, k46, n46⟩, -, X46, ⟨Lc46, hQ46, l46, y46, z46⟩, st46⟩ := X45.virtualBack hx (y := (⟨"io/github/countersign/Verdict", "isValid", "()Z"⟩ : MethodName)) (z := (⟨"io/github/countersign/Verdict", "isValid", "()Z"⟩ : MethodName)) hown (mvT hZ (hw _ (List.mem_of_getElem? (i := 39) rfl))) (mvT hZ (hw _ (List.mem_of_getElem? (i := 40) rfl))) (notFace_of_selects (args := #[]) (mvT hZ (hw _ (List.mem_of_getElem? (i := 42) rfl)))) (mvT hZ (hw _ (List.mem_of_getElem? (i := 42) rfl))) (mvT hZ (hw _ (List.mem_of_getElem? (i := 41) rfl))) (by decide) (backOf (W := 0) (rm7 l Z a0 hw [] b44 (.ref wr_STALE) 0 h45 n0 O45 F_refusal_b44 (Or.inr ⟨_, rfl, rfl⟩)) hZ (hw _ (List.mem_of_getElem? (i := 43) rfl)) (hw _ (List.mem_of_getElem? (i := 16) rfl)) (by decide) (by decide)) qa46 qc46 (g := (mkF m 44 #[.val (.int p1), .val (.int p2), .val (.int (4 : Int32)), .val (.ref wr_STALE), .val .null, .val (.ref b44)] [(.ref b44)])) rfl (by rw [hml]; rfl) (Steps.refl _) (argsL := []) (rest := []) (lenOf pd_rm0_3 rfl) rfl (by show 2 * 0 + _ ≤ _; exact Nat.le_of_eq rfl) (hb hby at_44) (fun _ _ => ⟨rfl, e45, (by decide : 1 + 0 ≤ _), (by decide : 2 + 0 ≤ _)⟩)
    dsimp only [Pt.U, Pt.locs, Pt.cells, Pt.slots] at X46 l46 y46 z46 st46 hQ46
    subst l46 y46 z46
    obtain ⟨rfl, Nq46, e46⟩ := hQ46
    have N46 := Fr.app N45 Nq46
    refine Gl.st (fun _ kk => st46.trans kk) ?_
    show Gl p e below s _ _ _ T46 (mkF m 47 #[.val (.int p1), .val (.int p2), .val (.int (4 : Int32)), .val (.ref wr_STALE), .val .null, .val (.ref b44)] [(.int (0 : Int32))])
    refine Gl.st (fun _ kk => XS.iloadN X46.here hx rfl (hb hby at_47) rfl kk) ?_
    show Gl p e below s _ _ _ T46 (mkF m 48 #[.val (.int p1), .val (.int p2), .val (.int (4 : Int32)), .val (.ref wr_STALE), .val .null, .val (.ref b44)] [(.int (4 : Int32)), (.int (0 : Int32))])
    refine Gl.st (fun _ kk => XS.bipush X46.here hx rfl (hb hby at_48) kk) ?_
    show Gl p e below s _ _ _ T46 (mkF m 50 #[.val (.int p1), .val (.int p2), .val (.int (4 : Int32)), .val (.ref wr_STALE), .val .null, .val (.ref b44)] [(.int (10 : Int32)), (.int (4 : Int32)), (.int (0 : Int32))])
    refine Gl.st (fun _ kk => XS.icmpYes X46.here hx rfl (pc0 := 50) (pc' := 57) rfl (hb hby at_50) rfl (feq (by decide : ¬ ((4 : Int32) = (10 : Int32)))).2 (by decide) (by decide) kk) ?_
    show Gl p e below s _ _ _ T46 (mkF m 57 #[.val (.int p1), .val (.int p2), .val (.int (4 : Int32)), .val (.ref wr_STALE), .val .null, .val (.ref b44)] [(.int (0 : Int32))])
    refine Gl.st (fun _ kk => XS.iconst X46.here hx rfl (hb hby at_57) kk) ?_
    show Gl p e below s _ _ _ T46 (mkF m 58 #[.val (.int p1), .val (.int p2), .val (.int (4 : Int32)), .val (.ref wr_STALE), .val .null, .val (.ref b44)] [(.int (0 : Int32)), (.int (0 : Int32))])
    refine Gl.st (fun _ kk => XS.icmpNo X46.here hx rfl (hb hby at_58) rfl (teq (by decide : (0 : Int32) = (0 : Int32))).2 kk) ?_
    show Gl p e below s _ _ _ T46 (mkF m 61 #[.val (.int p1), .val (.int p2), .val (.int (4 : Int32)), .val (.ref wr_STALE), .val .null, .val (.ref b44)] [])
    refine Gl.st (fun _ kk => XS.iconst X46.here hx rfl (hb hby at_61) kk) ?_
    show Gl p e below s _ _ _ T46 (mkF m 62 #[.val (.int p1), .val (.int p2), .val (.int (4 : Int32)), .val (.ref wr_STALE), .val .null, .val (.ref b44)] [(.int (1 : Int32))])
    refine Gl.st (fun _ kk => XS.goto X46.here hx rfl (pc0 := 62) (pc' := 66) rfl (hb hby at_62) (by decide) (by decide) kk) ?_
    show Gl p e below s _ _ _ T46 (mkF m 66 #[.val (.int p1), .val (.int p2), .val (.int (4 : Int32)), .val (.ref wr_STALE), .val .null, .val (.ref b44)] [(.int (1 : Int32))])
    exact Gl.ret X46 (v := (some (.int (1 : Int32)))) (fun h => by rw [Bd.returns] at h; cases h) (BodyLoose.notSynchronized Bd) (fun hr => retN X46 hx (t := .boolean) Bd.returns (by simp) (hb hby at_66) hr) e46 ⟨rfl, N46⟩ (by decide) (by decide)
  · rw [hk]
    show Gl p e below s _ _ _ s₁ (mkF m 8 #[.val (.int p1), .val (.int p2), .val (.int (5 : Int32)), .unset, .unset, .unset] [])
    refine Gl.st (fun _ kk => XS.iloadN X0.here hx rfl (hb hby at_8) rfl kk) ?_
    show Gl p e below s _ _ _ s₁ (mkF m 9 #[.val (.int p1), .val (.int p2), .val (.int (5 : Int32)), .unset, .unset, .unset] [(.int (5 : Int32))])
    obtain ⟨_, _, ⟨T47, L47, k47, n47⟩, -, X47, ⟨Lc47, hQ47, l47, y47, z47⟩, st47⟩ := Jvm.LawKit.callS X0 hx (y := (⟨"io/github/countersign/VerdictIsValidPinLaw", "refusalAt", "(I)Lio/github/countersign/Refusal;"⟩ : MethodName)) hown (mvT hZ (hw _ (List.mem_of_getElem? (i := 1) rfl))) (mvT hZ (hw _ (List.mem_of_getElem? (i := 2) rfl))) (mvT hZ (hw _ (List.mem_of_getElem? (i := 3) rfl))) (mvT hZ (hw _ (List.mem_of_getElem? (i := 4) rfl))) (by decide) (backOf (W := 0) (rm1 l Z a0 hw [] 5 wr_MISSING_HEADER wr_DUPLICATE_HEADER wr_UNSUPPORTED_VERSION wr_BAD_DATE wr_STALE wr_UNKNOWN_API_KEY wr_MALFORMED_METHOD wr_MALFORMED_TARGET wr_SIGNATURE_MISMATCH wr_REPLAYED (.ref wr_UNKNOWN_API_KEY) h0 n0 O0 Sr_MISSING_HEADER Sr_DUPLICATE_HEADER Sr_UNSUPPORTED_VERSION Sr_BAD_DATE Sr_STALE Sr_UNKNOWN_API_KEY Sr_MALFORMED_METHOD Sr_MALFORMED_TARGET Sr_SIGNATURE_MISMATCH Sr_REPLAYED (Or.inr (Or.inr (Or.inr (Or.inr (Or.inr (Or.inl ⟨rfl, rfl⟩))))))) hZ (hw _ (List.mem_of_getElem? (i := 4) rfl)) (hw _ (List.mem_of_getElem? (i := 3) rfl)) (by decide) (by decide)) (g := (mkF m 9 #[.val (.int p1), .val (.int p2), .val (.int (5 : Int32)), .unset, .unset, .unset] [(.int (5 : Int32))])) rfl (by rw [hml]; rfl) (argsL := [(.int (5 : Int32))]) (rest := []) (lenOf pd_rm0_0 rfl) rfl (by show 2 * 0 + _ ≤ _; exact Nat.le_of_eq rfl) (hb hby at_9) (fun _ _ => ⟨rfl, e0, (by decide : 0 + 0 ≤ _), (by decide : 0 + 0 ≤ _)⟩)
    dsimp only [Pt.U, Pt.locs, Pt.cells, Pt.slots] at X47 l47 y47 z47 st47 hQ47
    subst l47 y47 z47
    obtain ⟨rfl, Nq47, e47⟩ := hQ47
    have N47 := Fr.app N0 Nq47
    refine Gl.st st47 ?_
    show Gl p e below s _ _ _ T47 (mkF m 12 #[.val (.int p1), .val (.int p2), .val (.int (5 : Int32)), .unset, .unset, .unset] [(.ref wr_UNKNOWN_API_KEY)])
    refine Gl.st (fun _ kk => XS.astoreN X47.here hx rfl (hb hby at_12) rfl rfl (l' := #[.val (.int p1), .val (.int p2), .val (.int (5 : Int32)), .val (.ref wr_UNKNOWN_API_KEY), .unset, .unset]) rfl kk) ?_
    show Gl p e below s _ _ _ T47 (mkF m 13 #[.val (.int p1), .val (.int p2), .val (.int (5 : Int32)), .val (.ref wr_UNKNOWN_API_KEY), .unset, .unset] [])
    refine Gl.st (fun _ kk => XS.iloadN X47.here hx rfl (hb hby at_13) rfl kk) ?_
    show Gl p e below s _ _ _ T47 (mkF m 14 #[.val (.int p1), .val (.int p2), .val (.int (5 : Int32)), .val (.ref wr_UNKNOWN_API_KEY), .unset, .unset] [(.int (5 : Int32))])
    refine Gl.st (fun _ kk => XS.iconst X47.here hx rfl (hb hby at_14) kk) ?_
    show Gl p e below s _ _ _ T47 (mkF m 15 #[.val (.int p1), .val (.int p2), .val (.int (5 : Int32)), .val (.ref wr_UNKNOWN_API_KEY), .unset, .unset] [(.int (2 : Int32)), (.int (5 : Int32))])
    refine Gl.st (fun _ kk => XS.icmpYes X47.here hx rfl (pc0 := 15) (pc' := 27) rfl (hb hby at_15) rfl (flt (by decide : ¬ ((5 : Int32) < (2 : Int32)))).2.1 (by decide) (by decide) kk) ?_
    show Gl p e below s _ _ _ T47 (mkF m 27 #[.val (.int p1), .val (.int p2), .val (.int (5 : Int32)), .val (.ref wr_UNKNOWN_API_KEY), .unset, .unset] [])
    refine Gl.st (fun _ kk => XS.aconstNull X47.here hx rfl (hb hby at_27) kk) ?_
    show Gl p e below s _ _ _ T47 (mkF m 28 #[.val (.int p1), .val (.int p2), .val (.int (5 : Int32)), .val (.ref wr_UNKNOWN_API_KEY), .unset, .unset] [.null])
    refine Gl.st (fun _ kk => XS.astore X47.here hx rfl (hb hby at_28) rfl rfl (l' := #[.val (.int p1), .val (.int p2), .val (.int (5 : Int32)), .val (.ref wr_UNKNOWN_API_KEY), .val .null, .unset]) rfl kk) ?_
    show Gl p e below s _ _ _ T47 (mkF m 30 #[.val (.int p1), .val (.int p2), .val (.int (5 : Int32)), .val (.ref wr_UNKNOWN_API_KEY), .val .null, .unset] [])
    obtain ⟨T48, h48, X48, e48, E48, A48, D48, V48, st48⟩ := newO X47 hx hZ hown (hw _ (List.mem_of_getElem? (i := 14) rfl)) (hw _ (List.mem_of_getElem? (i := 15) rfl)) (hw _ (List.mem_of_getElem? (i := 16) rfl)) e47 (g := (mkF m 30 #[.val (.int p1), .val (.int p2), .val (.int (5 : Int32)), .val (.ref wr_UNKNOWN_API_KEY), .val .null, .unset] [])) rfl (hb hby at_30) (by decide) (by decide)
    obtain ⟨b48, g48⟩ : ∃ z, z = h0.size := ⟨_, rfl⟩
    rw [← g48] at A48 D48 V48 st48
    refine Gl.st st48 ?_
    have ge_b48 : n0 ≤ b48 := Nat.le_trans (Nat.le_trans (Nat.le_of_eq O0.1.symm) O0.2.1) (Nat.le_of_eq g48.symm)
    have fr_b48 : h0.size ≤ b48 := Nat.le_trans (Nat.le_refl _) (Nat.le_of_eq g48.symm)
    have O48 := O0.ext E48
    have K48 := (Keep.refl h0 []).ext E48
    have Exa_b48 := A48
    have F_refusal_b48 : Fld Z h48 b48 "io/github/countersign/Verdict" "refusal" "Lio/github/countersign/Refusal;" .null := D48 (Or.inr (hw _ (List.mem_of_getElem? (i := 36) rfl))) (ty := (.object "io/github/countersign/Refusal")) (by decide)
    have F_header_b48 : Fld Z h48 b48 "io/github/countersign/Verdict" "header" "Lio/github/countersign/Header;" .null := D48 (Or.inr (hw _ (List.mem_of_getElem? (i := 38) rfl))) (ty := (.object "io/github/countersign/Header")) (by decide)
    show Gl p e below s _ _ _ T48 (mkF m 33 #[.val (.int p1), .val (.int p2), .val (.int (5 : Int32)), .val (.ref wr_UNKNOWN_API_KEY), .val .null, .unset] [(.ref b48)])
    refine Gl.st (fun _ kk => XS.dup X48.here hx rfl (hb hby at_33) rfl rfl kk) ?_
    show Gl p e below s _ _ _ T48 (mkF m 34 #[.val (.int p1), .val (.int p2), .val (.int (5 : Int32)), .val (.ref wr_UNKNOWN_API_KEY), .val .null, .unset] [(.ref b48), (.ref b48)])
    refine Gl.st (fun _ kk => XS.aloadN X48.here hx rfl (hb hby at_34) rfl rfl kk) ?_
    show Gl p e below s _ _ _ T48 (mkF m 35 #[.val (.int p1), .val (.int p2), .val (.int (5 : Int32)), .val (.ref wr_UNKNOWN_API_KEY), .val .null, .unset] [(.ref wr_UNKNOWN_API_KEY), (.ref b48), (.ref b48)])
    refine Gl.st (fun _ kk => XS.aload X48.here hx rfl (hb hby at_35) rfl rfl kk) ?_
    show Gl p e below s _ _ _ T48 (mkF m 37 #[.val (.int p1), .val (.int p2), .val (.int (5 : Int32)), .val (.ref wr_UNKNOWN_API_KEY), .val .null, .unset] [.null, (.ref wr_UNKNOWN_API_KEY), (.ref b48), (.ref b48)])
    obtain ⟨_, _, ⟨T49, L49, k49, n49⟩, -, X49, ⟨Lc49, hQ49, l49, y49, z49⟩, st49⟩ := X48.specialBack hx (y := (⟨"io/github/countersign/Verdict", "<init>", "(Lio/github/countersign/Refusal;Lio/github/countersign/Header;)V"⟩ : MethodName)) rfl hown (mvT hZ (hw _ (List.mem_of_getElem? (i := 17) rfl))) (mvT hZ (hw _ (List.mem_of_getElem? (i := 18) rfl))) (mvT hZ (hw _ (List.mem_of_getElem? (i := 19) rfl))) (by decide) (backOf (W := 1) (rm3o l Z a0 hw [] b48 wr_UNKNOWN_API_KEY h48 n0 O48 Exa_b48 F_refusal_b48 F_header_b48 ge_b48 Er_UNKNOWN_API_KEY Fr_UNKNOWN_API_KEY) hZ (hw _ (List.mem_of_getElem? (i := 19) rfl)) (hw _ (List.mem_of_getElem? (i := 16) rfl)) (by decide) (by decide)) (g := (mkF m 37 #[.val (.int p1), .val (.int p2), .val (.int (5 : Int32)), .val (.ref wr_UNKNOWN_API_KEY), .val .null, .unset] [.null, (.ref wr_UNKNOWN_API_KEY), (.ref b48), (.ref b48)])) rfl (by rw [hml]; rfl) (Steps.refl _) (a := b48) (argsL := [(.ref wr_UNKNOWN_API_KEY), .null]) (rest := [(.ref b48)]) (lenOf pd_rm0_2 rfl) rfl (by show 2 * 0 + _ ≤ _; exact Nat.le_of_eq rfl) (hb hby at_37) (fun _ _ => ⟨rfl, e48, (by decide : 1 + 0 ≤ _), (by decide : 2 + 0 ≤ _)⟩)
    dsimp only [Pt.U, Pt.locs, Pt.cells, Pt.slots] at X49 l49 y49 z49 st49 hQ49
    subst l49 y49 z49
    obtain ⟨h49, e49⟩ : ∃ z, T49.heap = z := ⟨_, rfl⟩
    rw [e49] at hQ49
    obtain ⟨rfl, Nq49, Kq49, Eq49, Fq49⟩ := hQ49
    have N49 := Fr.app N47 Nq49
    refine Gl.st (fun _ kk => st49.trans kk) ?_
    have Exa_b48 := Exa_b48.keep Kq49
    have O49 := O48.keep Kq49 (allS ge_b48 all0)
    have K49 := K48.trans Kq49 (allS (Or.inr fr_b48) all0)
    have F_refusal_b48 := Fq49
    show Gl p e below s _ _ _ T49 (mkF m 40 #[.val (.int p1), .val (.int p2), .val (.int (5 : Int32)), .val (.ref wr_UNKNOWN_API_KEY), .val .null, .unset] [(.ref b48)])
    refine Gl.st (fun _ kk => XS.astore X49.here hx rfl (hb hby at_40) rfl rfl (l' := #[.val (.int p1), .val (.int p2), .val (.int (5 : Int32)), .val (.ref wr_UNKNOWN_API_KEY), .val .null, .val (.ref b48)]) rfl kk) ?_
    show Gl p e below s _ _ _ T49 (mkF m 42 #[.val (.int p1), .val (.int p2), .val (.int (5 : Int32)), .val (.ref wr_UNKNOWN_API_KEY), .val .null, .val (.ref b48)] [])
    refine Gl.st (fun _ kk => XS.aload X49.here hx rfl (hb hby at_42) rfl rfl kk) ?_
    show Gl p e below s _ _ _ T49 (mkF m 44 #[.val (.int p1), .val (.int p2), .val (.int (5 : Int32)), .val (.ref wr_UNKNOWN_API_KEY), .val .null, .val (.ref b48)] [(.ref b48)])
    obtain ⟨cq50, kq50, qa50, qb50, qc50⟩ := isOf hZ e49 Exa_b48
    obtain ⟨_, _, ⟨T50, L50, k50, n50⟩, -, X50, ⟨Lc50, hQ50, l50, y50, z50⟩, st50⟩ := X49.virtualBack hx (y := (⟨"io/github/countersign/Verdict", "isValid", "()Z"⟩ : MethodName)) (z := (⟨"io/github/countersign/Verdict", "isValid", "()Z"⟩ : MethodName)) hown (mvT hZ (hw _ (List.mem_of_getElem? (i := 39) rfl))) (mvT hZ (hw _ (List.mem_of_getElem? (i := 40) rfl))) (notFace_of_selects (args := #[]) (mvT hZ (hw _ (List.mem_of_getElem? (i := 42) rfl)))) (mvT hZ (hw _ (List.mem_of_getElem? (i := 42) rfl))) (mvT hZ (hw _ (List.mem_of_getElem? (i := 41) rfl))) (by decide) (backOf (W := 0) (rm7 l Z a0 hw [] b48 (.ref wr_UNKNOWN_API_KEY) 0 h49 n0 O49 F_refusal_b48 (Or.inr ⟨_, rfl, rfl⟩)) hZ (hw _ (List.mem_of_getElem? (i := 43) rfl)) (hw _ (List.mem_of_getElem? (i := 16) rfl)) (by decide) (by decide)) qa50 qc50 (g := (mkF m 44 #[.val (.int p1), .val (.int p2), .val (.int (5 : Int32)), .val (.ref wr_UNKNOWN_API_KEY), .val .null, .val (.ref b48)] [(.ref b48)])) rfl (by rw [hml]; rfl) (Steps.refl _) (argsL := []) (rest := []) (lenOf pd_rm0_3 rfl) rfl (by show 2 * 0 + _ ≤ _; exact Nat.le_of_eq rfl) (hb hby at_44) (fun _ _ => ⟨rfl, e49, (by decide : 1 + 0 ≤ _), (by decide : 2 + 0 ≤ _)⟩)
    dsimp only [Pt.U, Pt.locs, Pt.cells, Pt.slots] at X50 l50 y50 z50 st50 hQ50
    subst l50 y50 z50
    obtain ⟨rfl, Nq50, e50⟩ := hQ50
    have N50 := Fr.app N49 Nq50
    refine Gl.st (fun _ kk => st50.trans kk) ?_
    show Gl p e below s _ _ _ T50 (mkF m 47 #[.val (.int p1), .val (.int p2), .val (.int (5 : Int32)), .val (.ref wr_UNKNOWN_API_KEY), .val .null, .val (.ref b48)] [(.int (0 : Int32))])
    refine Gl.st (fun _ kk => XS.iloadN X50.here hx rfl (hb hby at_47) rfl kk) ?_
    show Gl p e below s _ _ _ T50 (mkF m 48 #[.val (.int p1), .val (.int p2), .val (.int (5 : Int32)), .val (.ref wr_UNKNOWN_API_KEY), .val .null, .val (.ref b48)] [(.int (5 : Int32)), (.int (0 : Int32))])
    refine Gl.st (fun _ kk => XS.bipush X50.here hx rfl (hb hby at_48) kk) ?_
    show Gl p e below s _ _ _ T50 (mkF m 50 #[.val (.int p1), .val (.int p2), .val (.int (5 : Int32)), .val (.ref wr_UNKNOWN_API_KEY), .val .null, .val (.ref b48)] [(.int (10 : Int32)), (.int (5 : Int32)), (.int (0 : Int32))])
    refine Gl.st (fun _ kk => XS.icmpYes X50.here hx rfl (pc0 := 50) (pc' := 57) rfl (hb hby at_50) rfl (feq (by decide : ¬ ((5 : Int32) = (10 : Int32)))).2 (by decide) (by decide) kk) ?_
    show Gl p e below s _ _ _ T50 (mkF m 57 #[.val (.int p1), .val (.int p2), .val (.int (5 : Int32)), .val (.ref wr_UNKNOWN_API_KEY), .val .null, .val (.ref b48)] [(.int (0 : Int32))])
    refine Gl.st (fun _ kk => XS.iconst X50.here hx rfl (hb hby at_57) kk) ?_
    show Gl p e below s _ _ _ T50 (mkF m 58 #[.val (.int p1), .val (.int p2), .val (.int (5 : Int32)), .val (.ref wr_UNKNOWN_API_KEY), .val .null, .val (.ref b48)] [(.int (0 : Int32)), (.int (0 : Int32))])
    refine Gl.st (fun _ kk => XS.icmpNo X50.here hx rfl (hb hby at_58) rfl (teq (by decide : (0 : Int32) = (0 : Int32))).2 kk) ?_
    show Gl p e below s _ _ _ T50 (mkF m 61 #[.val (.int p1), .val (.int p2), .val (.int (5 : Int32)), .val (.ref wr_UNKNOWN_API_KEY), .val .null, .val (.ref b48)] [])
    refine Gl.st (fun _ kk => XS.iconst X50.here hx rfl (hb hby at_61) kk) ?_
    show Gl p e below s _ _ _ T50 (mkF m 62 #[.val (.int p1), .val (.int p2), .val (.int (5 : Int32)), .val (.ref wr_UNKNOWN_API_KEY), .val .null, .val (.ref b48)] [(.int (1 : Int32))])
    refine Gl.st (fun _ kk => XS.goto X50.here hx rfl (pc0 := 62) (pc' := 66) rfl (hb hby at_62) (by decide) (by decide) kk) ?_
    show Gl p e below s _ _ _ T50 (mkF m 66 #[.val (.int p1), .val (.int p2), .val (.int (5 : Int32)), .val (.ref wr_UNKNOWN_API_KEY), .val .null, .val (.ref b48)] [(.int (1 : Int32))])
    exact Gl.ret X50 (v := (some (.int (1 : Int32)))) (fun h => by rw [Bd.returns] at h; cases h) (BodyLoose.notSynchronized Bd) (fun hr => retN X50 hx (t := .boolean) Bd.returns (by simp) (hb hby at_66) hr) e50 ⟨rfl, N50⟩ (by decide) (by decide)
  · rw [hk]
    show Gl p e below s _ _ _ s₁ (mkF m 8 #[.val (.int p1), .val (.int p2), .val (.int (6 : Int32)), .unset, .unset, .unset] [])
    refine Gl.st (fun _ kk => XS.iloadN X0.here hx rfl (hb hby at_8) rfl kk) ?_
    show Gl p e below s _ _ _ s₁ (mkF m 9 #[.val (.int p1), .val (.int p2), .val (.int (6 : Int32)), .unset, .unset, .unset] [(.int (6 : Int32))])
    obtain ⟨_, _, ⟨T51, L51, k51, n51⟩, -, X51, ⟨Lc51, hQ51, l51, y51, z51⟩, st51⟩ := Jvm.LawKit.callS X0 hx (y := (⟨"io/github/countersign/VerdictIsValidPinLaw", "refusalAt", "(I)Lio/github/countersign/Refusal;"⟩ : MethodName)) hown (mvT hZ (hw _ (List.mem_of_getElem? (i := 1) rfl))) (mvT hZ (hw _ (List.mem_of_getElem? (i := 2) rfl))) (mvT hZ (hw _ (List.mem_of_getElem? (i := 3) rfl))) (mvT hZ (hw _ (List.mem_of_getElem? (i := 4) rfl))) (by decide) (backOf (W := 0) (rm1 l Z a0 hw [] 6 wr_MISSING_HEADER wr_DUPLICATE_HEADER wr_UNSUPPORTED_VERSION wr_BAD_DATE wr_STALE wr_UNKNOWN_API_KEY wr_MALFORMED_METHOD wr_MALFORMED_TARGET wr_SIGNATURE_MISMATCH wr_REPLAYED (.ref wr_MALFORMED_METHOD) h0 n0 O0 Sr_MISSING_HEADER Sr_DUPLICATE_HEADER Sr_UNSUPPORTED_VERSION Sr_BAD_DATE Sr_STALE Sr_UNKNOWN_API_KEY Sr_MALFORMED_METHOD Sr_MALFORMED_TARGET Sr_SIGNATURE_MISMATCH Sr_REPLAYED (Or.inr (Or.inr (Or.inr (Or.inr (Or.inr (Or.inr (Or.inl ⟨rfl, rfl⟩)))))))) hZ (hw _ (List.mem_of_getElem? (i := 4) rfl)) (hw _ (List.mem_of_getElem? (i := 3) rfl)) (by decide) (by decide)) (g := (mkF m 9 #[.val (.int p1), .val (.int p2), .val (.int (6 : Int32)), .unset, .unset, .unset] [(.int (6 : Int32))])) rfl (by rw [hml]; rfl) (argsL := [(.int (6 : Int32))]) (rest := []) (lenOf pd_rm0_0 rfl) rfl (by show 2 * 0 + _ ≤ _; exact Nat.le_of_eq rfl) (hb hby at_9) (fun _ _ => ⟨rfl, e0, (by decide : 0 + 0 ≤ _), (by decide : 0 + 0 ≤ _)⟩)
    dsimp only [Pt.U, Pt.locs, Pt.cells, Pt.slots] at X51 l51 y51 z51 st51 hQ51
    subst l51 y51 z51
    obtain ⟨rfl, Nq51, e51⟩ := hQ51
    have N51 := Fr.app N0 Nq51
    refine Gl.st st51 ?_
    show Gl p e below s _ _ _ T51 (mkF m 12 #[.val (.int p1), .val (.int p2), .val (.int (6 : Int32)), .unset, .unset, .unset] [(.ref wr_MALFORMED_METHOD)])
    refine Gl.st (fun _ kk => XS.astoreN X51.here hx rfl (hb hby at_12) rfl rfl (l' := #[.val (.int p1), .val (.int p2), .val (.int (6 : Int32)), .val (.ref wr_MALFORMED_METHOD), .unset, .unset]) rfl kk) ?_
    show Gl p e below s _ _ _ T51 (mkF m 13 #[.val (.int p1), .val (.int p2), .val (.int (6 : Int32)), .val (.ref wr_MALFORMED_METHOD), .unset, .unset] [])
    refine Gl.st (fun _ kk => XS.iloadN X51.here hx rfl (hb hby at_13) rfl kk) ?_
    show Gl p e below s _ _ _ T51 (mkF m 14 #[.val (.int p1), .val (.int p2), .val (.int (6 : Int32)), .val (.ref wr_MALFORMED_METHOD), .unset, .unset] [(.int (6 : Int32))])
    refine Gl.st (fun _ kk => XS.iconst X51.here hx rfl (hb hby at_14) kk) ?_
    show Gl p e below s _ _ _ T51 (mkF m 15 #[.val (.int p1), .val (.int p2), .val (.int (6 : Int32)), .val (.ref wr_MALFORMED_METHOD), .unset, .unset] [(.int (2 : Int32)), (.int (6 : Int32))])
    refine Gl.st (fun _ kk => XS.icmpYes X51.here hx rfl (pc0 := 15) (pc' := 27) rfl (hb hby at_15) rfl (flt (by decide : ¬ ((6 : Int32) < (2 : Int32)))).2.1 (by decide) (by decide) kk) ?_
    show Gl p e below s _ _ _ T51 (mkF m 27 #[.val (.int p1), .val (.int p2), .val (.int (6 : Int32)), .val (.ref wr_MALFORMED_METHOD), .unset, .unset] [])
    refine Gl.st (fun _ kk => XS.aconstNull X51.here hx rfl (hb hby at_27) kk) ?_
    show Gl p e below s _ _ _ T51 (mkF m 28 #[.val (.int p1), .val (.int p2), .val (.int (6 : Int32)), .val (.ref wr_MALFORMED_METHOD), .unset, .unset] [.null])
    refine Gl.st (fun _ kk => XS.astore X51.here hx rfl (hb hby at_28) rfl rfl (l' := #[.val (.int p1), .val (.int p2), .val (.int (6 : Int32)), .val (.ref wr_MALFORMED_METHOD), .val .null, .unset]) rfl kk) ?_
    show Gl p e below s _ _ _ T51 (mkF m 30 #[.val (.int p1), .val (.int p2), .val (.int (6 : Int32)), .val (.ref wr_MALFORMED_METHOD), .val .null, .unset] [])
    obtain ⟨T52, h52, X52, e52, E52, A52, D52, V52, st52⟩ := newO X51 hx hZ hown (hw _ (List.mem_of_getElem? (i := 14) rfl)) (hw _ (List.mem_of_getElem? (i := 15) rfl)) (hw _ (List.mem_of_getElem? (i := 16) rfl)) e51 (g := (mkF m 30 #[.val (.int p1), .val (.int p2), .val (.int (6 : Int32)), .val (.ref wr_MALFORMED_METHOD), .val .null, .unset] [])) rfl (hb hby at_30) (by decide) (by decide)
    obtain ⟨b52, g52⟩ : ∃ z, z = h0.size := ⟨_, rfl⟩
    rw [← g52] at A52 D52 V52 st52
    refine Gl.st st52 ?_
    have ge_b52 : n0 ≤ b52 := Nat.le_trans (Nat.le_trans (Nat.le_of_eq O0.1.symm) O0.2.1) (Nat.le_of_eq g52.symm)
    have fr_b52 : h0.size ≤ b52 := Nat.le_trans (Nat.le_refl _) (Nat.le_of_eq g52.symm)
    have O52 := O0.ext E52
    have K52 := (Keep.refl h0 []).ext E52
    have Exa_b52 := A52
    have F_refusal_b52 : Fld Z h52 b52 "io/github/countersign/Verdict" "refusal" "Lio/github/countersign/Refusal;" .null := D52 (Or.inr (hw _ (List.mem_of_getElem? (i := 36) rfl))) (ty := (.object "io/github/countersign/Refusal")) (by decide)
    have F_header_b52 : Fld Z h52 b52 "io/github/countersign/Verdict" "header" "Lio/github/countersign/Header;" .null := D52 (Or.inr (hw _ (List.mem_of_getElem? (i := 38) rfl))) (ty := (.object "io/github/countersign/Header")) (by decide)
    show Gl p e below s _ _ _ T52 (mkF m 33 #[.val (.int p1), .val (.int p2), .val (.int (6 : Int32)), .val (.ref wr_MALFORMED_METHOD), .val .null, .unset] [(.ref b52)])
    refine Gl.st (fun _ kk => XS.dup X52.here hx rfl (hb hby at_33) rfl rfl kk) ?_
    show Gl p e below s _ _ _ T52 (mkF m 34 #[.val (.int p1), .val (.int p2), .val (.int (6 : Int32)), .val (.ref wr_MALFORMED_METHOD), .val .null, .unset] [(.ref b52), (.ref b52)])
    refine Gl.st (fun _ kk => XS.aloadN X52.here hx rfl (hb hby at_34) rfl rfl kk) ?_
    show Gl p e below s _ _ _ T52 (mkF m 35 #[.val (.int p1), .val (.int p2), .val (.int (6 : Int32)), .val (.ref wr_MALFORMED_METHOD), .val .null, .unset] [(.ref wr_MALFORMED_METHOD), (.ref b52), (.ref b52)])
    refine Gl.st (fun _ kk => XS.aload X52.here hx rfl (hb hby at_35) rfl rfl kk) ?_
    show Gl p e below s _ _ _ T52 (mkF m 37 #[.val (.int p1), .val (.int p2), .val (.int (6 : Int32)), .val (.ref wr_MALFORMED_METHOD), .val .null, .unset] [.null, (.ref wr_MALFORMED_METHOD), (.ref b52), (.ref b52)])
    obtain ⟨_, _, ⟨T53, L53, k53, n53⟩, -, X53, ⟨Lc53, hQ53, l53, y53, z53⟩, st53⟩ := X52.specialBack hx (y := (⟨"io/github/countersign/Verdict", "<init>", "(Lio/github/countersign/Refusal;Lio/github/countersign/Header;)V"⟩ : MethodName)) rfl hown (mvT hZ (hw _ (List.mem_of_getElem? (i := 17) rfl))) (mvT hZ (hw _ (List.mem_of_getElem? (i := 18) rfl))) (mvT hZ (hw _ (List.mem_of_getElem? (i := 19) rfl))) (by decide) (backOf (W := 1) (rm3o l Z a0 hw [] b52 wr_MALFORMED_METHOD h52 n0 O52 Exa_b52 F_refusal_b52 F_header_b52 ge_b52 Er_MALFORMED_METHOD Fr_MALFORMED_METHOD) hZ (hw _ (List.mem_of_getElem? (i := 19) rfl)) (hw _ (List.mem_of_getElem? (i := 16) rfl)) (by decide) (by decide)) (g := (mkF m 37 #[.val (.int p1), .val (.int p2), .val (.int (6 : Int32)), .val (.ref wr_MALFORMED_METHOD), .val .null, .unset] [.null, (.ref wr_MALFORMED_METHOD), (.ref b52), (.ref b52)])) rfl (by rw [hml]; rfl) (Steps.refl _) (a := b52) (argsL := [(.ref wr_MALFORMED_METHOD), .null]) (rest := [(.ref b52)]) (lenOf pd_rm0_2 rfl) rfl (by show 2 * 0 + _ ≤ _; exact Nat.le_of_eq rfl) (hb hby at_37) (fun _ _ => ⟨rfl, e52, (by decide : 1 + 0 ≤ _), (by decide : 2 + 0 ≤ _)⟩)
    dsimp only [Pt.U, Pt.locs, Pt.cells, Pt.slots] at X53 l53 y53 z53 st53 hQ53
    subst l53 y53 z53
    obtain ⟨h53, e53⟩ : ∃ z, T53.heap = z := ⟨_, rfl⟩
    rw [e53] at hQ53
    obtain ⟨rfl, Nq53, Kq53, Eq53, Fq53⟩ := hQ53
    have N53 := Fr.app N51 Nq53
    refine Gl.st (fun _ kk => st53.trans kk) ?_
    have Exa_b52 := Exa_b52.keep Kq53
    have O53 := O52.keep Kq53 (allS ge_b52 all0)
    have K53 := K52.trans Kq53 (allS (Or.inr fr_b52) all0)
    have F_refusal_b52 := Fq53
    show Gl p e below s _ _ _ T53 (mkF m 40 #[.val (.int p1), .val (.int p2), .val (.int (6 : Int32)), .val (.ref wr_MALFORMED_METHOD), .val .null, .unset] [(.ref b52)])
    refine Gl.st (fun _ kk => XS.astore X53.here hx rfl (hb hby at_40) rfl rfl (l' := #[.val (.int p1), .val (.int p2), .val (.int (6 : Int32)), .val (.ref wr_MALFORMED_METHOD), .val .null, .val (.ref b52)]) rfl kk) ?_
    show Gl p e below s _ _ _ T53 (mkF m 42 #[.val (.int p1), .val (.int p2), .val (.int (6 : Int32)), .val (.ref wr_MALFORMED_METHOD), .val .null, .val (.ref b52)] [])
    refine Gl.st (fun _ kk => XS.aload X53.here hx rfl (hb hby at_42) rfl rfl kk) ?_
    show Gl p e below s _ _ _ T53 (mkF m 44 #[.val (.int p1), .val (.int p2), .val (.int (6 : Int32)), .val (.ref wr_MALFORMED_METHOD), .val .null, .val (.ref b52)] [(.ref b52)])
    obtain ⟨cq54, kq54, qa54, qb54, qc54⟩ := isOf hZ e53 Exa_b52
    obtain ⟨_, _, ⟨T54, L54, k54, n54⟩, -, X54, ⟨Lc54, hQ54, l54, y54, z54⟩, st54⟩ := X53.virtualBack hx (y := (⟨"io/github/countersign/Verdict", "isValid", "()Z"⟩ : MethodName)) (z := (⟨"io/github/countersign/Verdict", "isValid", "()Z"⟩ : MethodName)) hown (mvT hZ (hw _ (List.mem_of_getElem? (i := 39) rfl))) (mvT hZ (hw _ (List.mem_of_getElem? (i := 40) rfl))) (notFace_of_selects (args := #[]) (mvT hZ (hw _ (List.mem_of_getElem? (i := 42) rfl)))) (mvT hZ (hw _ (List.mem_of_getElem? (i := 42) rfl))) (mvT hZ (hw _ (List.mem_of_getElem? (i := 41) rfl))) (by decide) (backOf (W := 0) (rm7 l Z a0 hw [] b52 (.ref wr_MALFORMED_METHOD) 0 h53 n0 O53 F_refusal_b52 (Or.inr ⟨_, rfl, rfl⟩)) hZ (hw _ (List.mem_of_getElem? (i := 43) rfl)) (hw _ (List.mem_of_getElem? (i := 16) rfl)) (by decide) (by decide)) qa54 qc54 (g := (mkF m 44 #[.val (.int p1), .val (.int p2), .val (.int (6 : Int32)), .val (.ref wr_MALFORMED_METHOD), .val .null, .val (.ref b52)] [(.ref b52)])) rfl (by rw [hml]; rfl) (Steps.refl _) (argsL := []) (rest := []) (lenOf pd_rm0_3 rfl) rfl (by show 2 * 0 + _ ≤ _; exact Nat.le_of_eq rfl) (hb hby at_44) (fun _ _ => ⟨rfl, e53, (by decide : 1 + 0 ≤ _), (by decide : 2 + 0 ≤ _)⟩)
    dsimp only [Pt.U, Pt.locs, Pt.cells, Pt.slots] at X54 l54 y54 z54 st54 hQ54
    subst l54 y54 z54
    obtain ⟨rfl, Nq54, e54⟩ := hQ54
    have N54 := Fr.app N53 Nq54
    refine Gl.st (fun _ kk => st54.trans kk) ?_
    show Gl p e below s _ _ _ T54 (mkF m 47 #[.val (.int p1), .val (.int p2), .val (.int (6 : Int32)), .val (.ref wr_MALFORMED_METHOD), .val .null, .val (.ref b52)] [(.int (0 : Int32))])
    refine Gl.st (fun _ kk => XS.iloadN X54.here hx rfl (hb hby at_47) rfl kk) ?_
    show Gl p e below s _ _ _ T54 (mkF m 48 #[.val (.int p1), .val (.int p2), .val (.int (6 : Int32)), .val (.ref wr_MALFORMED_METHOD), .val .null, .val (.ref b52)] [(.int (6 : Int32)), (.int (0 : Int32))])
    refine Gl.st (fun _ kk => XS.bipush X54.here hx rfl (hb hby at_48) kk) ?_
    show Gl p e below s _ _ _ T54 (mkF m 50 #[.val (.int p1), .val (.int p2), .val (.int (6 : Int32)), .val (.ref wr_MALFORMED_METHOD), .val .null, .val (.ref b52)] [(.int (10 : Int32)), (.int (6 : Int32)), (.int (0 : Int32))])
    refine Gl.st (fun _ kk => XS.icmpYes X54.here hx rfl (pc0 := 50) (pc' := 57) rfl (hb hby at_50) rfl (feq (by decide : ¬ ((6 : Int32) = (10 : Int32)))).2 (by decide) (by decide) kk) ?_
    show Gl p e below s _ _ _ T54 (mkF m 57 #[.val (.int p1), .val (.int p2), .val (.int (6 : Int32)), .val (.ref wr_MALFORMED_METHOD), .val .null, .val (.ref b52)] [(.int (0 : Int32))])
    refine Gl.st (fun _ kk => XS.iconst X54.here hx rfl (hb hby at_57) kk) ?_
    show Gl p e below s _ _ _ T54 (mkF m 58 #[.val (.int p1), .val (.int p2), .val (.int (6 : Int32)), .val (.ref wr_MALFORMED_METHOD), .val .null, .val (.ref b52)] [(.int (0 : Int32)), (.int (0 : Int32))])
    refine Gl.st (fun _ kk => XS.icmpNo X54.here hx rfl (hb hby at_58) rfl (teq (by decide : (0 : Int32) = (0 : Int32))).2 kk) ?_
    show Gl p e below s _ _ _ T54 (mkF m 61 #[.val (.int p1), .val (.int p2), .val (.int (6 : Int32)), .val (.ref wr_MALFORMED_METHOD), .val .null, .val (.ref b52)] [])
    refine Gl.st (fun _ kk => XS.iconst X54.here hx rfl (hb hby at_61) kk) ?_
    show Gl p e below s _ _ _ T54 (mkF m 62 #[.val (.int p1), .val (.int p2), .val (.int (6 : Int32)), .val (.ref wr_MALFORMED_METHOD), .val .null, .val (.ref b52)] [(.int (1 : Int32))])
    refine Gl.st (fun _ kk => XS.goto X54.here hx rfl (pc0 := 62) (pc' := 66) rfl (hb hby at_62) (by decide) (by decide) kk) ?_
    show Gl p e below s _ _ _ T54 (mkF m 66 #[.val (.int p1), .val (.int p2), .val (.int (6 : Int32)), .val (.ref wr_MALFORMED_METHOD), .val .null, .val (.ref b52)] [(.int (1 : Int32))])
    exact Gl.ret X54 (v := (some (.int (1 : Int32)))) (fun h => by rw [Bd.returns] at h; cases h) (BodyLoose.notSynchronized Bd) (fun hr => retN X54 hx (t := .boolean) Bd.returns (by simp) (hb hby at_66) hr) e54 ⟨rfl, N54⟩ (by decide) (by decide)
  · rw [hk]
    show Gl p e below s _ _ _ s₁ (mkF m 8 #[.val (.int p1), .val (.int p2), .val (.int (7 : Int32)), .unset, .unset, .unset] [])
    refine Gl.st (fun _ kk => XS.iloadN X0.here hx rfl (hb hby at_8) rfl kk) ?_
    show Gl p e below s _ _ _ s₁ (mkF m 9 #[.val (.int p1), .val (.int p2), .val (.int (7 : Int32)), .unset, .unset, .unset] [(.int (7 : Int32))])
    obtain ⟨_, _, ⟨T55, L55, k55, n55⟩, -, X55, ⟨Lc55, hQ55, l55, y55, z55⟩, st55⟩ := Jvm.LawKit.callS X0 hx (y := (⟨"io/github/countersign/VerdictIsValidPinLaw", "refusalAt", "(I)Lio/github/countersign/Refusal;"⟩ : MethodName)) hown (mvT hZ (hw _ (List.mem_of_getElem? (i := 1) rfl))) (mvT hZ (hw _ (List.mem_of_getElem? (i := 2) rfl))) (mvT hZ (hw _ (List.mem_of_getElem? (i := 3) rfl))) (mvT hZ (hw _ (List.mem_of_getElem? (i := 4) rfl))) (by decide) (backOf (W := 0) (rm1 l Z a0 hw [] 7 wr_MISSING_HEADER wr_DUPLICATE_HEADER wr_UNSUPPORTED_VERSION wr_BAD_DATE wr_STALE wr_UNKNOWN_API_KEY wr_MALFORMED_METHOD wr_MALFORMED_TARGET wr_SIGNATURE_MISMATCH wr_REPLAYED (.ref wr_MALFORMED_TARGET) h0 n0 O0 Sr_MISSING_HEADER Sr_DUPLICATE_HEADER Sr_UNSUPPORTED_VERSION Sr_BAD_DATE Sr_STALE Sr_UNKNOWN_API_KEY Sr_MALFORMED_METHOD Sr_MALFORMED_TARGET Sr_SIGNATURE_MISMATCH Sr_REPLAYED (Or.inr (Or.inr (Or.inr (Or.inr (Or.inr (Or.inr (Or.inr (Or.inl ⟨rfl, rfl⟩))))))))) hZ (hw _ (List.mem_of_getElem? (i := 4) rfl)) (hw _ (List.mem_of_getElem? (i := 3) rfl)) (by decide) (by decide)) (g := (mkF m 9 #[.val (.int p1), .val (.int p2), .val (.int (7 : Int32)), .unset, .unset, .unset] [(.int (7 : Int32))])) rfl (by rw [hml]; rfl) (argsL := [(.int (7 : Int32))]) (rest := []) (lenOf pd_rm0_0 rfl) rfl (by show 2 * 0 + _ ≤ _; exact Nat.le_of_eq rfl) (hb hby at_9) (fun _ _ => ⟨rfl, e0, (by decide : 0 + 0 ≤ _), (by decide : 0 + 0 ≤ _)⟩)
    dsimp only [Pt.U, Pt.locs, Pt.cells, Pt.slots] at X55 l55 y55 z55 st55 hQ55
    subst l55 y55 z55
    obtain ⟨rfl, Nq55, e55⟩ := hQ55
    have N55 := Fr.app N0 Nq55
    refine Gl.st st55 ?_
    show Gl p e below s _ _ _ T55 (mkF m 12 #[.val (.int p1), .val (.int p2), .val (.int (7 : Int32)), .unset, .unset, .unset] [(.ref wr_MALFORMED_TARGET)])
    refine Gl.st (fun _ kk => XS.astoreN X55.here hx rfl (hb hby at_12) rfl rfl (l' := #[.val (.int p1), .val (.int p2), .val (.int (7 : Int32)), .val (.ref wr_MALFORMED_TARGET), .unset, .unset]) rfl kk) ?_
    show Gl p e below s _ _ _ T55 (mkF m 13 #[.val (.int p1), .val (.int p2), .val (.int (7 : Int32)), .val (.ref wr_MALFORMED_TARGET), .unset, .unset] [])
    refine Gl.st (fun _ kk => XS.iloadN X55.here hx rfl (hb hby at_13) rfl kk) ?_
    show Gl p e below s _ _ _ T55 (mkF m 14 #[.val (.int p1), .val (.int p2), .val (.int (7 : Int32)), .val (.ref wr_MALFORMED_TARGET), .unset, .unset] [(.int (7 : Int32))])
    refine Gl.st (fun _ kk => XS.iconst X55.here hx rfl (hb hby at_14) kk) ?_
    show Gl p e below s _ _ _ T55 (mkF m 15 #[.val (.int p1), .val (.int p2), .val (.int (7 : Int32)), .val (.ref wr_MALFORMED_TARGET), .unset, .unset] [(.int (2 : Int32)), (.int (7 : Int32))])
    refine Gl.st (fun _ kk => XS.icmpYes X55.here hx rfl (pc0 := 15) (pc' := 27) rfl (hb hby at_15) rfl (flt (by decide : ¬ ((7 : Int32) < (2 : Int32)))).2.1 (by decide) (by decide) kk) ?_
    show Gl p e below s _ _ _ T55 (mkF m 27 #[.val (.int p1), .val (.int p2), .val (.int (7 : Int32)), .val (.ref wr_MALFORMED_TARGET), .unset, .unset] [])
    refine Gl.st (fun _ kk => XS.aconstNull X55.here hx rfl (hb hby at_27) kk) ?_
    show Gl p e below s _ _ _ T55 (mkF m 28 #[.val (.int p1), .val (.int p2), .val (.int (7 : Int32)), .val (.ref wr_MALFORMED_TARGET), .unset, .unset] [.null])
    refine Gl.st (fun _ kk => XS.astore X55.here hx rfl (hb hby at_28) rfl rfl (l' := #[.val (.int p1), .val (.int p2), .val (.int (7 : Int32)), .val (.ref wr_MALFORMED_TARGET), .val .null, .unset]) rfl kk) ?_
    show Gl p e below s _ _ _ T55 (mkF m 30 #[.val (.int p1), .val (.int p2), .val (.int (7 : Int32)), .val (.ref wr_MALFORMED_TARGET), .val .null, .unset] [])
    obtain ⟨T56, h56, X56, e56, E56, A56, D56, V56, st56⟩ := newO X55 hx hZ hown (hw _ (List.mem_of_getElem? (i := 14) rfl)) (hw _ (List.mem_of_getElem? (i := 15) rfl)) (hw _ (List.mem_of_getElem? (i := 16) rfl)) e55 (g := (mkF m 30 #[.val (.int p1), .val (.int p2), .val (.int (7 : Int32)), .val (.ref wr_MALFORMED_TARGET), .val .null, .unset] [])) rfl (hb hby at_30) (by decide) (by decide)
    obtain ⟨b56, g56⟩ : ∃ z, z = h0.size := ⟨_, rfl⟩
    rw [← g56] at A56 D56 V56 st56
    refine Gl.st st56 ?_
    have ge_b56 : n0 ≤ b56 := Nat.le_trans (Nat.le_trans (Nat.le_of_eq O0.1.symm) O0.2.1) (Nat.le_of_eq g56.symm)
    have fr_b56 : h0.size ≤ b56 := Nat.le_trans (Nat.le_refl _) (Nat.le_of_eq g56.symm)
    have O56 := O0.ext E56
    have K56 := (Keep.refl h0 []).ext E56
    have Exa_b56 := A56
    have F_refusal_b56 : Fld Z h56 b56 "io/github/countersign/Verdict" "refusal" "Lio/github/countersign/Refusal;" .null := D56 (Or.inr (hw _ (List.mem_of_getElem? (i := 36) rfl))) (ty := (.object "io/github/countersign/Refusal")) (by decide)
    have F_header_b56 : Fld Z h56 b56 "io/github/countersign/Verdict" "header" "Lio/github/countersign/Header;" .null := D56 (Or.inr (hw _ (List.mem_of_getElem? (i := 38) rfl))) (ty := (.object "io/github/countersign/Header")) (by decide)
    show Gl p e below s _ _ _ T56 (mkF m 33 #[.val (.int p1), .val (.int p2), .val (.int (7 : Int32)), .val (.ref wr_MALFORMED_TARGET), .val .null, .unset] [(.ref b56)])
    refine Gl.st (fun _ kk => XS.dup X56.here hx rfl (hb hby at_33) rfl rfl kk) ?_
    show Gl p e below s _ _ _ T56 (mkF m 34 #[.val (.int p1), .val (.int p2), .val (.int (7 : Int32)), .val (.ref wr_MALFORMED_TARGET), .val .null, .unset] [(.ref b56), (.ref b56)])
    refine Gl.st (fun _ kk => XS.aloadN X56.here hx rfl (hb hby at_34) rfl rfl kk) ?_
    show Gl p e below s _ _ _ T56 (mkF m 35 #[.val (.int p1), .val (.int p2), .val (.int (7 : Int32)), .val (.ref wr_MALFORMED_TARGET), .val .null, .unset] [(.ref wr_MALFORMED_TARGET), (.ref b56), (.ref b56)])
    refine Gl.st (fun _ kk => XS.aload X56.here hx rfl (hb hby at_35) rfl rfl kk) ?_
    show Gl p e below s _ _ _ T56 (mkF m 37 #[.val (.int p1), .val (.int p2), .val (.int (7 : Int32)), .val (.ref wr_MALFORMED_TARGET), .val .null, .unset] [.null, (.ref wr_MALFORMED_TARGET), (.ref b56), (.ref b56)])
    obtain ⟨_, _, ⟨T57, L57, k57, n57⟩, -, X57, ⟨Lc57, hQ57, l57, y57, z57⟩, st57⟩ := X56.specialBack hx (y := (⟨"io/github/countersign/Verdict", "<init>", "(Lio/github/countersign/Refusal;Lio/github/countersign/Header;)V"⟩ : MethodName)) rfl hown (mvT hZ (hw _ (List.mem_of_getElem? (i := 17) rfl))) (mvT hZ (hw _ (List.mem_of_getElem? (i := 18) rfl))) (mvT hZ (hw _ (List.mem_of_getElem? (i := 19) rfl))) (by decide) (backOf (W := 1) (rm3o l Z a0 hw [] b56 wr_MALFORMED_TARGET h56 n0 O56 Exa_b56 F_refusal_b56 F_header_b56 ge_b56 Er_MALFORMED_TARGET Fr_MALFORMED_TARGET) hZ (hw _ (List.mem_of_getElem? (i := 19) rfl)) (hw _ (List.mem_of_getElem? (i := 16) rfl)) (by decide) (by decide)) (g := (mkF m 37 #[.val (.int p1), .val (.int p2), .val (.int (7 : Int32)), .val (.ref wr_MALFORMED_TARGET), .val .null, .unset] [.null, (.ref wr_MALFORMED_TARGET), (.ref b56), (.ref b56)])) rfl (by rw [hml]; rfl) (Steps.refl _) (a := b56) (argsL := [(.ref wr_MALFORMED_TARGET), .null]) (rest := [(.ref b56)]) (lenOf pd_rm0_2 rfl) rfl (by show 2 * 0 + _ ≤ _; exact Nat.le_of_eq rfl) (hb hby at_37) (fun _ _ => ⟨rfl, e56, (by decide : 1 + 0 ≤ _), (by decide : 2 + 0 ≤ _)⟩)
    dsimp only [Pt.U, Pt.locs, Pt.cells, Pt.slots] at X57 l57 y57 z57 st57 hQ57
    subst l57 y57 z57
    obtain ⟨h57, e57⟩ : ∃ z, T57.heap = z := ⟨_, rfl⟩
    rw [e57] at hQ57
    obtain ⟨rfl, Nq57, Kq57, Eq57, Fq57⟩ := hQ57
    have N57 := Fr.app N55 Nq57
    refine Gl.st (fun _ kk => st57.trans kk) ?_
    have Exa_b56 := Exa_b56.keep Kq57
    have O57 := O56.keep Kq57 (allS ge_b56 all0)
    have K57 := K56.trans Kq57 (allS (Or.inr fr_b56) all0)
    have F_refusal_b56 := Fq57
    show Gl p e below s _ _ _ T57 (mkF m 40 #[.val (.int p1), .val (.int p2), .val (.int (7 : Int32)), .val (.ref wr_MALFORMED_TARGET), .val .null, .unset] [(.ref b56)])
    refine Gl.st (fun _ kk => XS.astore X57.here hx rfl (hb hby at_40) rfl rfl (l' := #[.val (.int p1), .val (.int p2), .val (.int (7 : Int32)), .val (.ref wr_MALFORMED_TARGET), .val .null, .val (.ref b56)]) rfl kk) ?_
    show Gl p e below s _ _ _ T57 (mkF m 42 #[.val (.int p1), .val (.int p2), .val (.int (7 : Int32)), .val (.ref wr_MALFORMED_TARGET), .val .null, .val (.ref b56)] [])
    refine Gl.st (fun _ kk => XS.aload X57.here hx rfl (hb hby at_42) rfl rfl kk) ?_
    show Gl p e below s _ _ _ T57 (mkF m 44 #[.val (.int p1), .val (.int p2), .val (.int (7 : Int32)), .val (.ref wr_MALFORMED_TARGET), .val .null, .val (.ref b56)] [(.ref b56)])
    obtain ⟨cq58, kq58, qa58, qb58, qc58⟩ := isOf hZ e57 Exa_b56
    obtain ⟨_, _, ⟨T58, L58, k58, n58⟩, -, X58, ⟨Lc58, hQ58, l58, y58, z58⟩, st58⟩ := X57.virtualBack hx (y := (⟨"io/github/countersign/Verdict", "isValid", "()Z"⟩ : MethodName)) (z := (⟨"io/github/countersign/Verdict", "isValid", "()Z"⟩ : MethodName)) hown (mvT hZ (hw _ (List.mem_of_getElem? (i := 39) rfl))) (mvT hZ (hw _ (List.mem_of_getElem? (i := 40) rfl))) (notFace_of_selects (args := #[]) (mvT hZ (hw _ (List.mem_of_getElem? (i := 42) rfl)))) (mvT hZ (hw _ (List.mem_of_getElem? (i := 42) rfl))) (mvT hZ (hw _ (List.mem_of_getElem? (i := 41) rfl))) (by decide) (backOf (W := 0) (rm7 l Z a0 hw [] b56 (.ref wr_MALFORMED_TARGET) 0 h57 n0 O57 F_refusal_b56 (Or.inr ⟨_, rfl, rfl⟩)) hZ (hw _ (List.mem_of_getElem? (i := 43) rfl)) (hw _ (List.mem_of_getElem? (i := 16) rfl)) (by decide) (by decide)) qa58 qc58 (g := (mkF m 44 #[.val (.int p1), .val (.int p2), .val (.int (7 : Int32)), .val (.ref wr_MALFORMED_TARGET), .val .null, .val (.ref b56)] [(.ref b56)])) rfl (by rw [hml]; rfl) (Steps.refl _) (argsL := []) (rest := []) (lenOf pd_rm0_3 rfl) rfl (by show 2 * 0 + _ ≤ _; exact Nat.le_of_eq rfl) (hb hby at_44) (fun _ _ => ⟨rfl, e57, (by decide : 1 + 0 ≤ _), (by decide : 2 + 0 ≤ _)⟩)
    dsimp only [Pt.U, Pt.locs, Pt.cells, Pt.slots] at X58 l58 y58 z58 st58 hQ58
    subst l58 y58 z58
    obtain ⟨rfl, Nq58, e58⟩ := hQ58
    have N58 := Fr.app N57 Nq58
    refine Gl.st (fun _ kk => st58.trans kk) ?_
    show Gl p e below s _ _ _ T58 (mkF m 47 #[.val (.int p1), .val (.int p2), .val (.int (7 : Int32)), .val (.ref wr_MALFORMED_TARGET), .val .null, .val (.ref b56)] [(.int (0 : Int32))])
    refine Gl.st (fun _ kk => XS.iloadN X58.here hx rfl (hb hby at_47) rfl kk) ?_
    show Gl p e below s _ _ _ T58 (mkF m 48 #[.val (.int p1), .val (.int p2), .val (.int (7 : Int32)), .val (.ref wr_MALFORMED_TARGET), .val .null, .val (.ref b56)] [(.int (7 : Int32)), (.int (0 : Int32))])
    refine Gl.st (fun _ kk => XS.bipush X58.here hx rfl (hb hby at_48) kk) ?_
    show Gl p e below s _ _ _ T58 (mkF m 50 #[.val (.int p1), .val (.int p2), .val (.int (7 : Int32)), .val (.ref wr_MALFORMED_TARGET), .val .null, .val (.ref b56)] [(.int (10 : Int32)), (.int (7 : Int32)), (.int (0 : Int32))])
    refine Gl.st (fun _ kk => XS.icmpYes X58.here hx rfl (pc0 := 50) (pc' := 57) rfl (hb hby at_50) rfl (feq (by decide : ¬ ((7 : Int32) = (10 : Int32)))).2 (by decide) (by decide) kk) ?_
    show Gl p e below s _ _ _ T58 (mkF m 57 #[.val (.int p1), .val (.int p2), .val (.int (7 : Int32)), .val (.ref wr_MALFORMED_TARGET), .val .null, .val (.ref b56)] [(.int (0 : Int32))])
    refine Gl.st (fun _ kk => XS.iconst X58.here hx rfl (hb hby at_57) kk) ?_
    show Gl p e below s _ _ _ T58 (mkF m 58 #[.val (.int p1), .val (.int p2), .val (.int (7 : Int32)), .val (.ref wr_MALFORMED_TARGET), .val .null, .val (.ref b56)] [(.int (0 : Int32)), (.int (0 : Int32))])
    refine Gl.st (fun _ kk => XS.icmpNo X58.here hx rfl (hb hby at_58) rfl (teq (by decide : (0 : Int32) = (0 : Int32))).2 kk) ?_
    show Gl p e below s _ _ _ T58 (mkF m 61 #[.val (.int p1), .val (.int p2), .val (.int (7 : Int32)), .val (.ref wr_MALFORMED_TARGET), .val .null, .val (.ref b56)] [])
    refine Gl.st (fun _ kk => XS.iconst X58.here hx rfl (hb hby at_61) kk) ?_
    show Gl p e below s _ _ _ T58 (mkF m 62 #[.val (.int p1), .val (.int p2), .val (.int (7 : Int32)), .val (.ref wr_MALFORMED_TARGET), .val .null, .val (.ref b56)] [(.int (1 : Int32))])
    refine Gl.st (fun _ kk => XS.goto X58.here hx rfl (pc0 := 62) (pc' := 66) rfl (hb hby at_62) (by decide) (by decide) kk) ?_
    show Gl p e below s _ _ _ T58 (mkF m 66 #[.val (.int p1), .val (.int p2), .val (.int (7 : Int32)), .val (.ref wr_MALFORMED_TARGET), .val .null, .val (.ref b56)] [(.int (1 : Int32))])
    exact Gl.ret X58 (v := (some (.int (1 : Int32)))) (fun h => by rw [Bd.returns] at h; cases h) (BodyLoose.notSynchronized Bd) (fun hr => retN X58 hx (t := .boolean) Bd.returns (by simp) (hb hby at_66) hr) e58 ⟨rfl, N58⟩ (by decide) (by decide)
  · rw [hk]
    show Gl p e below s _ _ _ s₁ (mkF m 8 #[.val (.int p1), .val (.int p2), .val (.int (8 : Int32)), .unset, .unset, .unset] [])
    refine Gl.st (fun _ kk => XS.iloadN X0.here hx rfl (hb hby at_8) rfl kk) ?_
    show Gl p e below s _ _ _ s₁ (mkF m 9 #[.val (.int p1), .val (.int p2), .val (.int (8 : Int32)), .unset, .unset, .unset] [(.int (8 : Int32))])
    obtain ⟨_, _, ⟨T59, L59, k59, n59⟩, -, X59, ⟨Lc59, hQ59, l59, y59, z59⟩, st59⟩ := Jvm.LawKit.callS X0 hx (y := (⟨"io/github/countersign/VerdictIsValidPinLaw", "refusalAt", "(I)Lio/github/countersign/Refusal;"⟩ : MethodName)) hown (mvT hZ (hw _ (List.mem_of_getElem? (i := 1) rfl))) (mvT hZ (hw _ (List.mem_of_getElem? (i := 2) rfl))) (mvT hZ (hw _ (List.mem_of_getElem? (i := 3) rfl))) (mvT hZ (hw _ (List.mem_of_getElem? (i := 4) rfl))) (by decide) (backOf (W := 0) (rm1 l Z a0 hw [] 8 wr_MISSING_HEADER wr_DUPLICATE_HEADER wr_UNSUPPORTED_VERSION wr_BAD_DATE wr_STALE wr_UNKNOWN_API_KEY wr_MALFORMED_METHOD wr_MALFORMED_TARGET wr_SIGNATURE_MISMATCH wr_REPLAYED (.ref wr_SIGNATURE_MISMATCH) h0 n0 O0 Sr_MISSING_HEADER Sr_DUPLICATE_HEADER Sr_UNSUPPORTED_VERSION Sr_BAD_DATE Sr_STALE Sr_UNKNOWN_API_KEY Sr_MALFORMED_METHOD Sr_MALFORMED_TARGET Sr_SIGNATURE_MISMATCH Sr_REPLAYED (Or.inr (Or.inr (Or.inr (Or.inr (Or.inr (Or.inr (Or.inr (Or.inr (Or.inl ⟨rfl, rfl⟩)))))))))) hZ (hw _ (List.mem_of_getElem? (i := 4) rfl)) (hw _ (List.mem_of_getElem? (i := 3) rfl)) (by decide) (by decide)) (g := (mkF m 9 #[.val (.int p1), .val (.int p2), .val (.int (8 : Int32)), .unset, .unset, .unset] [(.int (8 : Int32))])) rfl (by rw [hml]; rfl) (argsL := [(.int (8 : Int32))]) (rest := []) (lenOf pd_rm0_0 rfl) rfl (by show 2 * 0 + _ ≤ _; exact Nat.le_of_eq rfl) (hb hby at_9) (fun _ _ => ⟨rfl, e0, (by decide : 0 + 0 ≤ _), (by decide : 0 + 0 ≤ _)⟩)
    dsimp only [Pt.U, Pt.locs, Pt.cells, Pt.slots] at X59 l59 y59 z59 st59 hQ59
    subst l59 y59 z59
    obtain ⟨rfl, Nq59, e59⟩ := hQ59
    have N59 := Fr.app N0 Nq59
    refine Gl.st st59 ?_
    show Gl p e below s _ _ _ T59 (mkF m 12 #[.val (.int p1), .val (.int p2), .val (.int (8 : Int32)), .unset, .unset, .unset] [(.ref wr_SIGNATURE_MISMATCH)])
    refine Gl.st (fun _ kk => XS.astoreN X59.here hx rfl (hb hby at_12) rfl rfl (l' := #[.val (.int p1), .val (.int p2), .val (.int (8 : Int32)), .val (.ref wr_SIGNATURE_MISMATCH), .unset, .unset]) rfl kk) ?_
    show Gl p e below s _ _ _ T59 (mkF m 13 #[.val (.int p1), .val (.int p2), .val (.int (8 : Int32)), .val (.ref wr_SIGNATURE_MISMATCH), .unset, .unset] [])
    refine Gl.st (fun _ kk => XS.iloadN X59.here hx rfl (hb hby at_13) rfl kk) ?_
    show Gl p e below s _ _ _ T59 (mkF m 14 #[.val (.int p1), .val (.int p2), .val (.int (8 : Int32)), .val (.ref wr_SIGNATURE_MISMATCH), .unset, .unset] [(.int (8 : Int32))])
    refine Gl.st (fun _ kk => XS.iconst X59.here hx rfl (hb hby at_14) kk) ?_
    show Gl p e below s _ _ _ T59 (mkF m 15 #[.val (.int p1), .val (.int p2), .val (.int (8 : Int32)), .val (.ref wr_SIGNATURE_MISMATCH), .unset, .unset] [(.int (2 : Int32)), (.int (8 : Int32))])
    refine Gl.st (fun _ kk => XS.icmpYes X59.here hx rfl (pc0 := 15) (pc' := 27) rfl (hb hby at_15) rfl (flt (by decide : ¬ ((8 : Int32) < (2 : Int32)))).2.1 (by decide) (by decide) kk) ?_
    show Gl p e below s _ _ _ T59 (mkF m 27 #[.val (.int p1), .val (.int p2), .val (.int (8 : Int32)), .val (.ref wr_SIGNATURE_MISMATCH), .unset, .unset] [])
    refine Gl.st (fun _ kk => XS.aconstNull X59.here hx rfl (hb hby at_27) kk) ?_
    show Gl p e below s _ _ _ T59 (mkF m 28 #[.val (.int p1), .val (.int p2), .val (.int (8 : Int32)), .val (.ref wr_SIGNATURE_MISMATCH), .unset, .unset] [.null])
    refine Gl.st (fun _ kk => XS.astore X59.here hx rfl (hb hby at_28) rfl rfl (l' := #[.val (.int p1), .val (.int p2), .val (.int (8 : Int32)), .val (.ref wr_SIGNATURE_MISMATCH), .val .null, .unset]) rfl kk) ?_
    show Gl p e below s _ _ _ T59 (mkF m 30 #[.val (.int p1), .val (.int p2), .val (.int (8 : Int32)), .val (.ref wr_SIGNATURE_MISMATCH), .val .null, .unset] [])
    obtain ⟨T60, h60, X60, e60, E60, A60, D60, V60, st60⟩ := newO X59 hx hZ hown (hw _ (List.mem_of_getElem? (i := 14) rfl)) (hw _ (List.mem_of_getElem? (i := 15) rfl)) (hw _ (List.mem_of_getElem? (i := 16) rfl)) e59 (g := (mkF m 30 #[.val (.int p1), .val (.int p2), .val (.int (8 : Int32)), .val (.ref wr_SIGNATURE_MISMATCH), .val .null, .unset] [])) rfl (hb hby at_30) (by decide) (by decide)
    obtain ⟨b60, g60⟩ : ∃ z, z = h0.size := ⟨_, rfl⟩
    rw [← g60] at A60 D60 V60 st60
    refine Gl.st st60 ?_
    have ge_b60 : n0 ≤ b60 := Nat.le_trans (Nat.le_trans (Nat.le_of_eq O0.1.symm) O0.2.1) (Nat.le_of_eq g60.symm)
    have fr_b60 : h0.size ≤ b60 := Nat.le_trans (Nat.le_refl _) (Nat.le_of_eq g60.symm)
    have O60 := O0.ext E60
    have K60 := (Keep.refl h0 []).ext E60
    have Exa_b60 := A60
    have F_refusal_b60 : Fld Z h60 b60 "io/github/countersign/Verdict" "refusal" "Lio/github/countersign/Refusal;" .null := D60 (Or.inr (hw _ (List.mem_of_getElem? (i := 36) rfl))) (ty := (.object "io/github/countersign/Refusal")) (by decide)
    have F_header_b60 : Fld Z h60 b60 "io/github/countersign/Verdict" "header" "Lio/github/countersign/Header;" .null := D60 (Or.inr (hw _ (List.mem_of_getElem? (i := 38) rfl))) (ty := (.object "io/github/countersign/Header")) (by decide)
    show Gl p e below s _ _ _ T60 (mkF m 33 #[.val (.int p1), .val (.int p2), .val (.int (8 : Int32)), .val (.ref wr_SIGNATURE_MISMATCH), .val .null, .unset] [(.ref b60)])
    refine Gl.st (fun _ kk => XS.dup X60.here hx rfl (hb hby at_33) rfl rfl kk) ?_
    show Gl p e below s _ _ _ T60 (mkF m 34 #[.val (.int p1), .val (.int p2), .val (.int (8 : Int32)), .val (.ref wr_SIGNATURE_MISMATCH), .val .null, .unset] [(.ref b60), (.ref b60)])
    refine Gl.st (fun _ kk => XS.aloadN X60.here hx rfl (hb hby at_34) rfl rfl kk) ?_
    show Gl p e below s _ _ _ T60 (mkF m 35 #[.val (.int p1), .val (.int p2), .val (.int (8 : Int32)), .val (.ref wr_SIGNATURE_MISMATCH), .val .null, .unset] [(.ref wr_SIGNATURE_MISMATCH), (.ref b60), (.ref b60)])
    refine Gl.st (fun _ kk => XS.aload X60.here hx rfl (hb hby at_35) rfl rfl kk) ?_
    show Gl p e below s _ _ _ T60 (mkF m 37 #[.val (.int p1), .val (.int p2), .val (.int (8 : Int32)), .val (.ref wr_SIGNATURE_MISMATCH), .val .null, .unset] [.null, (.ref wr_SIGNATURE_MISMATCH), (.ref b60), (.ref b60)])
    obtain ⟨_, _, ⟨T61, L61, k61, n61⟩, -, X61, ⟨Lc61, hQ61, l61, y61, z61⟩, st61⟩ := X60.specialBack hx (y := (⟨"io/github/countersign/Verdict", "<init>", "(Lio/github/countersign/Refusal;Lio/github/countersign/Header;)V"⟩ : MethodName)) rfl hown (mvT hZ (hw _ (List.mem_of_getElem? (i := 17) rfl))) (mvT hZ (hw _ (List.mem_of_getElem? (i := 18) rfl))) (mvT hZ (hw _ (List.mem_of_getElem? (i := 19) rfl))) (by decide) (backOf (W := 1) (rm3o l Z a0 hw [] b60 wr_SIGNATURE_MISMATCH h60 n0 O60 Exa_b60 F_refusal_b60 F_header_b60 ge_b60 Er_SIGNATURE_MISMATCH Fr_SIGNATURE_MISMATCH) hZ (hw _ (List.mem_of_getElem? (i := 19) rfl)) (hw _ (List.mem_of_getElem? (i := 16) rfl)) (by decide) (by decide)) (g := (mkF m 37 #[.val (.int p1), .val (.int p2), .val (.int (8 : Int32)), .val (.ref wr_SIGNATURE_MISMATCH), .val .null, .unset] [.null, (.ref wr_SIGNATURE_MISMATCH), (.ref b60), (.ref b60)])) rfl (by rw [hml]; rfl) (Steps.refl _) (a := b60) (argsL := [(.ref wr_SIGNATURE_MISMATCH), .null]) (rest := [(.ref b60)]) (lenOf pd_rm0_2 rfl) rfl (by show 2 * 0 + _ ≤ _; exact Nat.le_of_eq rfl) (hb hby at_37) (fun _ _ => ⟨rfl, e60, (by decide : 1 + 0 ≤ _), (by decide : 2 + 0 ≤ _)⟩)
    dsimp only [Pt.U, Pt.locs, Pt.cells, Pt.slots] at X61 l61 y61 z61 st61 hQ61
    subst l61 y61 z61
    obtain ⟨h61, e61⟩ : ∃ z, T61.heap = z := ⟨_, rfl⟩
    rw [e61] at hQ61
    obtain ⟨rfl, Nq61, Kq61, Eq61, Fq61⟩ := hQ61
    have N61 := Fr.app N59 Nq61
    refine Gl.st (fun _ kk => st61.trans kk) ?_
    have Exa_b60 := Exa_b60.keep Kq61
    have O61 := O60.keep Kq61 (allS ge_b60 all0)
    have K61 := K60.trans Kq61 (allS (Or.inr fr_b60) all0)
    have F_refusal_b60 := Fq61
    show Gl p e below s _ _ _ T61 (mkF m 40 #[.val (.int p1), .val (.int p2), .val (.int (8 : Int32)), .val (.ref wr_SIGNATURE_MISMATCH), .val .null, .unset] [(.ref b60)])
    refine Gl.st (fun _ kk => XS.astore X61.here hx rfl (hb hby at_40) rfl rfl (l' := #[.val (.int p1), .val (.int p2), .val (.int (8 : Int32)), .val (.ref wr_SIGNATURE_MISMATCH), .val .null, .val (.ref b60)]) rfl kk) ?_
    show Gl p e below s _ _ _ T61 (mkF m 42 #[.val (.int p1), .val (.int p2), .val (.int (8 : Int32)), .val (.ref wr_SIGNATURE_MISMATCH), .val .null, .val (.ref b60)] [])
    refine Gl.st (fun _ kk => XS.aload X61.here hx rfl (hb hby at_42) rfl rfl kk) ?_
    show Gl p e below s _ _ _ T61 (mkF m 44 #[.val (.int p1), .val (.int p2), .val (.int (8 : Int32)), .val (.ref wr_SIGNATURE_MISMATCH), .val .null, .val (.ref b60)] [(.ref b60)])
    obtain ⟨cq62, kq62, qa62, qb62, qc62⟩ := isOf hZ e61 Exa_b60
    obtain ⟨_, _, ⟨T62, L62, k62, n62⟩, -, X62, ⟨Lc62, hQ62, l62, y62, z62⟩, st62⟩ := X61.virtualBack hx (y := (⟨"io/github/countersign/Verdict", "isValid", "()Z"⟩ : MethodName)) (z := (⟨"io/github/countersign/Verdict", "isValid", "()Z"⟩ : MethodName)) hown (mvT hZ (hw _ (List.mem_of_getElem? (i := 39) rfl))) (mvT hZ (hw _ (List.mem_of_getElem? (i := 40) rfl))) (notFace_of_selects (args := #[]) (mvT hZ (hw _ (List.mem_of_getElem? (i := 42) rfl)))) (mvT hZ (hw _ (List.mem_of_getElem? (i := 42) rfl))) (mvT hZ (hw _ (List.mem_of_getElem? (i := 41) rfl))) (by decide) (backOf (W := 0) (rm7 l Z a0 hw [] b60 (.ref wr_SIGNATURE_MISMATCH) 0 h61 n0 O61 F_refusal_b60 (Or.inr ⟨_, rfl, rfl⟩)) hZ (hw _ (List.mem_of_getElem? (i := 43) rfl)) (hw _ (List.mem_of_getElem? (i := 16) rfl)) (by decide) (by decide)) qa62 qc62 (g := (mkF m 44 #[.val (.int p1), .val (.int p2), .val (.int (8 : Int32)), .val (.ref wr_SIGNATURE_MISMATCH), .val .null, .val (.ref b60)] [(.ref b60)])) rfl (by rw [hml]; rfl) (Steps.refl _) (argsL := []) (rest := []) (lenOf pd_rm0_3 rfl) rfl (by show 2 * 0 + _ ≤ _; exact Nat.le_of_eq rfl) (hb hby at_44) (fun _ _ => ⟨rfl, e61, (by decide : 1 + 0 ≤ _), (by decide : 2 + 0 ≤ _)⟩)
    dsimp only [Pt.U, Pt.locs, Pt.cells, Pt.slots] at X62 l62 y62 z62 st62 hQ62
    subst l62 y62 z62
    obtain ⟨rfl, Nq62, e62⟩ := hQ62
    have N62 := Fr.app N61 Nq62
    refine Gl.st (fun _ kk => st62.trans kk) ?_
    show Gl p e below s _ _ _ T62 (mkF m 47 #[.val (.int p1), .val (.int p2), .val (.int (8 : Int32)), .val (.ref wr_SIGNATURE_MISMATCH), .val .null, .val (.ref b60)] [(.int (0 : Int32))])
    refine Gl.st (fun _ kk => XS.iloadN X62.here hx rfl (hb hby at_47) rfl kk) ?_
    show Gl p e below s _ _ _ T62 (mkF m 48 #[.val (.int p1), .val (.int p2), .val (.int (8 : Int32)), .val (.ref wr_SIGNATURE_MISMATCH), .val .null, .val (.ref b60)] [(.int (8 : Int32)), (.int (0 : Int32))])
    refine Gl.st (fun _ kk => XS.bipush X62.here hx rfl (hb hby at_48) kk) ?_
    show Gl p e below s _ _ _ T62 (mkF m 50 #[.val (.int p1), .val (.int p2), .val (.int (8 : Int32)), .val (.ref wr_SIGNATURE_MISMATCH), .val .null, .val (.ref b60)] [(.int (10 : Int32)), (.int (8 : Int32)), (.int (0 : Int32))])
    refine Gl.st (fun _ kk => XS.icmpYes X62.here hx rfl (pc0 := 50) (pc' := 57) rfl (hb hby at_50) rfl (feq (by decide : ¬ ((8 : Int32) = (10 : Int32)))).2 (by decide) (by decide) kk) ?_
    show Gl p e below s _ _ _ T62 (mkF m 57 #[.val (.int p1), .val (.int p2), .val (.int (8 : Int32)), .val (.ref wr_SIGNATURE_MISMATCH), .val .null, .val (.ref b60)] [(.int (0 : Int32))])
    refine Gl.st (fun _ kk => XS.iconst X62.here hx rfl (hb hby at_57) kk) ?_
    show Gl p e below s _ _ _ T62 (mkF m 58 #[.val (.int p1), .val (.int p2), .val (.int (8 : Int32)), .val (.ref wr_SIGNATURE_MISMATCH), .val .null, .val (.ref b60)] [(.int (0 : Int32)), (.int (0 : Int32))])
    refine Gl.st (fun _ kk => XS.icmpNo X62.here hx rfl (hb hby at_58) rfl (teq (by decide : (0 : Int32) = (0 : Int32))).2 kk) ?_
    show Gl p e below s _ _ _ T62 (mkF m 61 #[.val (.int p1), .val (.int p2), .val (.int (8 : Int32)), .val (.ref wr_SIGNATURE_MISMATCH), .val .null, .val (.ref b60)] [])
    refine Gl.st (fun _ kk => XS.iconst X62.here hx rfl (hb hby at_61) kk) ?_
    show Gl p e below s _ _ _ T62 (mkF m 62 #[.val (.int p1), .val (.int p2), .val (.int (8 : Int32)), .val (.ref wr_SIGNATURE_MISMATCH), .val .null, .val (.ref b60)] [(.int (1 : Int32))])
    refine Gl.st (fun _ kk => XS.goto X62.here hx rfl (pc0 := 62) (pc' := 66) rfl (hb hby at_62) (by decide) (by decide) kk) ?_
    show Gl p e below s _ _ _ T62 (mkF m 66 #[.val (.int p1), .val (.int p2), .val (.int (8 : Int32)), .val (.ref wr_SIGNATURE_MISMATCH), .val .null, .val (.ref b60)] [(.int (1 : Int32))])
    exact Gl.ret X62 (v := (some (.int (1 : Int32)))) (fun h => by rw [Bd.returns] at h; cases h) (BodyLoose.notSynchronized Bd) (fun hr => retN X62 hx (t := .boolean) Bd.returns (by simp) (hb hby at_66) hr) e62 ⟨rfl, N62⟩ (by decide) (by decide)
  · rw [hk]
    show Gl p e below s _ _ _ s₁ (mkF m 8 #[.val (.int p1), .val (.int p2), .val (.int (9 : Int32)), .unset, .unset, .unset] [])
    refine Gl.st (fun _ kk => XS.iloadN X0.here hx rfl (hb hby at_8) rfl kk) ?_
    show Gl p e below s _ _ _ s₁ (mkF m 9 #[.val (.int p1), .val (.int p2), .val (.int (9 : Int32)), .unset, .unset, .unset] [(.int (9 : Int32))])
    obtain ⟨_, _, ⟨T63, L63, k63, n63⟩, -, X63, ⟨Lc63, hQ63, l63, y63, z63⟩, st63⟩ := Jvm.LawKit.callS X0 hx (y := (⟨"io/github/countersign/VerdictIsValidPinLaw", "refusalAt", "(I)Lio/github/countersign/Refusal;"⟩ : MethodName)) hown (mvT hZ (hw _ (List.mem_of_getElem? (i := 1) rfl))) (mvT hZ (hw _ (List.mem_of_getElem? (i := 2) rfl))) (mvT hZ (hw _ (List.mem_of_getElem? (i := 3) rfl))) (mvT hZ (hw _ (List.mem_of_getElem? (i := 4) rfl))) (by decide) (backOf (W := 0) (rm1 l Z a0 hw [] 9 wr_MISSING_HEADER wr_DUPLICATE_HEADER wr_UNSUPPORTED_VERSION wr_BAD_DATE wr_STALE wr_UNKNOWN_API_KEY wr_MALFORMED_METHOD wr_MALFORMED_TARGET wr_SIGNATURE_MISMATCH wr_REPLAYED (.ref wr_REPLAYED) h0 n0 O0 Sr_MISSING_HEADER Sr_DUPLICATE_HEADER Sr_UNSUPPORTED_VERSION Sr_BAD_DATE Sr_STALE Sr_UNKNOWN_API_KEY Sr_MALFORMED_METHOD Sr_MALFORMED_TARGET Sr_SIGNATURE_MISMATCH Sr_REPLAYED (Or.inr (Or.inr (Or.inr (Or.inr (Or.inr (Or.inr (Or.inr (Or.inr (Or.inr (Or.inl ⟨rfl, rfl⟩))))))))))) hZ (hw _ (List.mem_of_getElem? (i := 4) rfl)) (hw _ (List.mem_of_getElem? (i := 3) rfl)) (by decide) (by decide)) (g := (mkF m 9 #[.val (.int p1), .val (.int p2), .val (.int (9 : Int32)), .unset, .unset, .unset] [(.int (9 : Int32))])) rfl (by rw [hml]; rfl) (argsL := [(.int (9 : Int32))]) (rest := []) (lenOf pd_rm0_0 rfl) rfl (by show 2 * 0 + _ ≤ _; exact Nat.le_of_eq rfl) (hb hby at_9) (fun _ _ => ⟨rfl, e0, (by decide : 0 + 0 ≤ _), (by decide : 0 + 0 ≤ _)⟩)
    dsimp only [Pt.U, Pt.locs, Pt.cells, Pt.slots] at X63 l63 y63 z63 st63 hQ63
    subst l63 y63 z63
    obtain ⟨rfl, Nq63, e63⟩ := hQ63
    have N63 := Fr.app N0 Nq63
    refine Gl.st st63 ?_
    show Gl p e below s _ _ _ T63 (mkF m 12 #[.val (.int p1), .val (.int p2), .val (.int (9 : Int32)), .unset, .unset, .unset] [(.ref wr_REPLAYED)])
    refine Gl.st (fun _ kk => XS.astoreN X63.here hx rfl (hb hby at_12) rfl rfl (l' := #[.val (.int p1), .val (.int p2), .val (.int (9 : Int32)), .val (.ref wr_REPLAYED), .unset, .unset]) rfl kk) ?_
    show Gl p e below s _ _ _ T63 (mkF m 13 #[.val (.int p1), .val (.int p2), .val (.int (9 : Int32)), .val (.ref wr_REPLAYED), .unset, .unset] [])
    refine Gl.st (fun _ kk => XS.iloadN X63.here hx rfl (hb hby at_13) rfl kk) ?_
    show Gl p e below s _ _ _ T63 (mkF m 14 #[.val (.int p1), .val (.int p2), .val (.int (9 : Int32)), .val (.ref wr_REPLAYED), .unset, .unset] [(.int (9 : Int32))])
    refine Gl.st (fun _ kk => XS.iconst X63.here hx rfl (hb hby at_14) kk) ?_
    show Gl p e below s _ _ _ T63 (mkF m 15 #[.val (.int p1), .val (.int p2), .val (.int (9 : Int32)), .val (.ref wr_REPLAYED), .unset, .unset] [(.int (2 : Int32)), (.int (9 : Int32))])
    refine Gl.st (fun _ kk => XS.icmpYes X63.here hx rfl (pc0 := 15) (pc' := 27) rfl (hb hby at_15) rfl (flt (by decide : ¬ ((9 : Int32) < (2 : Int32)))).2.1 (by decide) (by decide) kk) ?_
    show Gl p e below s _ _ _ T63 (mkF m 27 #[.val (.int p1), .val (.int p2), .val (.int (9 : Int32)), .val (.ref wr_REPLAYED), .unset, .unset] [])
    refine Gl.st (fun _ kk => XS.aconstNull X63.here hx rfl (hb hby at_27) kk) ?_
    show Gl p e below s _ _ _ T63 (mkF m 28 #[.val (.int p1), .val (.int p2), .val (.int (9 : Int32)), .val (.ref wr_REPLAYED), .unset, .unset] [.null])
    refine Gl.st (fun _ kk => XS.astore X63.here hx rfl (hb hby at_28) rfl rfl (l' := #[.val (.int p1), .val (.int p2), .val (.int (9 : Int32)), .val (.ref wr_REPLAYED), .val .null, .unset]) rfl kk) ?_
    show Gl p e below s _ _ _ T63 (mkF m 30 #[.val (.int p1), .val (.int p2), .val (.int (9 : Int32)), .val (.ref wr_REPLAYED), .val .null, .unset] [])
    obtain ⟨T64, h64, X64, e64, E64, A64, D64, V64, st64⟩ := newO X63 hx hZ hown (hw _ (List.mem_of_getElem? (i := 14) rfl)) (hw _ (List.mem_of_getElem? (i := 15) rfl)) (hw _ (List.mem_of_getElem? (i := 16) rfl)) e63 (g := (mkF m 30 #[.val (.int p1), .val (.int p2), .val (.int (9 : Int32)), .val (.ref wr_REPLAYED), .val .null, .unset] [])) rfl (hb hby at_30) (by decide) (by decide)
    obtain ⟨b64, g64⟩ : ∃ z, z = h0.size := ⟨_, rfl⟩
    rw [← g64] at A64 D64 V64 st64
    refine Gl.st st64 ?_
    have ge_b64 : n0 ≤ b64 := Nat.le_trans (Nat.le_trans (Nat.le_of_eq O0.1.symm) O0.2.1) (Nat.le_of_eq g64.symm)
    have fr_b64 : h0.size ≤ b64 := Nat.le_trans (Nat.le_refl _) (Nat.le_of_eq g64.symm)
    have O64 := O0.ext E64
    have K64 := (Keep.refl h0 []).ext E64
    have Exa_b64 := A64
    have F_refusal_b64 : Fld Z h64 b64 "io/github/countersign/Verdict" "refusal" "Lio/github/countersign/Refusal;" .null := D64 (Or.inr (hw _ (List.mem_of_getElem? (i := 36) rfl))) (ty := (.object "io/github/countersign/Refusal")) (by decide)
    have F_header_b64 : Fld Z h64 b64 "io/github/countersign/Verdict" "header" "Lio/github/countersign/Header;" .null := D64 (Or.inr (hw _ (List.mem_of_getElem? (i := 38) rfl))) (ty := (.object "io/github/countersign/Header")) (by decide)
    show Gl p e below s _ _ _ T64 (mkF m 33 #[.val (.int p1), .val (.int p2), .val (.int (9 : Int32)), .val (.ref wr_REPLAYED), .val .null, .unset] [(.ref b64)])
    refine Gl.st (fun _ kk => XS.dup X64.here hx rfl (hb hby at_33) rfl rfl kk) ?_
    show Gl p e below s _ _ _ T64 (mkF m 34 #[.val (.int p1), .val (.int p2), .val (.int (9 : Int32)), .val (.ref wr_REPLAYED), .val .null, .unset] [(.ref b64), (.ref b64)])
    refine Gl.st (fun _ kk => XS.aloadN X64.here hx rfl (hb hby at_34) rfl rfl kk) ?_
    show Gl p e below s _ _ _ T64 (mkF m 35 #[.val (.int p1), .val (.int p2), .val (.int (9 : Int32)), .val (.ref wr_REPLAYED), .val .null, .unset] [(.ref wr_REPLAYED), (.ref b64), (.ref b64)])
    refine Gl.st (fun _ kk => XS.aload X64.here hx rfl (hb hby at_35) rfl rfl kk) ?_
    show Gl p e below s _ _ _ T64 (mkF m 37 #[.val (.int p1), .val (.int p2), .val (.int (9 : Int32)), .val (.ref wr_REPLAYED), .val .null, .unset] [.null, (.ref wr_REPLAYED), (.ref b64), (.ref b64)])
    obtain ⟨_, _, ⟨T65, L65, k65, n65⟩, -, X65, ⟨Lc65, hQ65, l65, y65, z65⟩, st65⟩ := X64.specialBack hx (y := (⟨"io/github/countersign/Verdict", "<init>", "(Lio/github/countersign/Refusal;Lio/github/countersign/Header;)V"⟩ : MethodName)) rfl hown (mvT hZ (hw _ (List.mem_of_getElem? (i := 17) rfl))) (mvT hZ (hw _ (List.mem_of_getElem? (i := 18) rfl))) (mvT hZ (hw _ (List.mem_of_getElem? (i := 19) rfl))) (by decide) (backOf (W := 1) (rm3o l Z a0 hw [] b64 wr_REPLAYED h64 n0 O64 Exa_b64 F_refusal_b64 F_header_b64 ge_b64 Er_REPLAYED Fr_REPLAYED) hZ (hw _ (List.mem_of_getElem? (i := 19) rfl)) (hw _ (List.mem_of_getElem? (i := 16) rfl)) (by decide) (by decide)) (g := (mkF m 37 #[.val (.int p1), .val (.int p2), .val (.int (9 : Int32)), .val (.ref wr_REPLAYED), .val .null, .unset] [.null, (.ref wr_REPLAYED), (.ref b64), (.ref b64)])) rfl (by rw [hml]; rfl) (Steps.refl _) (a := b64) (argsL := [(.ref wr_REPLAYED), .null]) (rest := [(.ref b64)]) (lenOf pd_rm0_2 rfl) rfl (by show 2 * 0 + _ ≤ _; exact Nat.le_of_eq rfl) (hb hby at_37) (fun _ _ => ⟨rfl, e64, (by decide : 1 + 0 ≤ _), (by decide : 2 + 0 ≤ _)⟩)
    dsimp only [Pt.U, Pt.locs, Pt.cells, Pt.slots] at X65 l65 y65 z65 st65 hQ65
    subst l65 y65 z65
    obtain ⟨h65, e65⟩ : ∃ z, T65.heap = z := ⟨_, rfl⟩
    rw [e65] at hQ65
    obtain ⟨rfl, Nq65, Kq65, Eq65, Fq65⟩ := hQ65
    have N65 := Fr.app N63 Nq65
    refine Gl.st (fun _ kk => st65.trans kk) ?_
    have Exa_b64 := Exa_b64.keep Kq65
    have O65 := O64.keep Kq65 (allS ge_b64 all0)
    have K65 := K64.trans Kq65 (allS (Or.inr fr_b64) all0)
    have F_refusal_b64 := Fq65
    show Gl p e below s _ _ _ T65 (mkF m 40 #[.val (.int p1), .val (.int p2), .val (.int (9 : Int32)), .val (.ref wr_REPLAYED), .val .null, .unset] [(.ref b64)])
    refine Gl.st (fun _ kk => XS.astore X65.here hx rfl (hb hby at_40) rfl rfl (l' := #[.val (.int p1), .val (.int p2), .val (.int (9 : Int32)), .val (.ref wr_REPLAYED), .val .null, .val (.ref b64)]) rfl kk) ?_
    show Gl p e below s _ _ _ T65 (mkF m 42 #[.val (.int p1), .val (.int p2), .val (.int (9 : Int32)), .val (.ref wr_REPLAYED), .val .null, .val (.ref b64)] [])
    refine Gl.st (fun _ kk => XS.aload X65.here hx rfl (hb hby at_42) rfl rfl kk) ?_
    show Gl p e below s _ _ _ T65 (mkF m 44 #[.val (.int p1), .val (.int p2), .val (.int (9 : Int32)), .val (.ref wr_REPLAYED), .val .null, .val (.ref b64)] [(.ref b64)])
    obtain ⟨cq66, kq66, qa66, qb66, qc66⟩ := isOf hZ e65 Exa_b64
    obtain ⟨_, _, ⟨T66, L66, k66, n66⟩, -, X66, ⟨Lc66, hQ66, l66, y66, z66⟩, st66⟩ := X65.virtualBack hx (y := (⟨"io/github/countersign/Verdict", "isValid", "()Z"⟩ : MethodName)) (z := (⟨"io/github/countersign/Verdict", "isValid", "()Z"⟩ : MethodName)) hown (mvT hZ (hw _ (List.mem_of_getElem? (i := 39) rfl))) (mvT hZ (hw _ (List.mem_of_getElem? (i := 40) rfl))) (notFace_of_selects (args := #[]) (mvT hZ (hw _ (List.mem_of_getElem? (i := 42) rfl)))) (mvT hZ (hw _ (List.mem_of_getElem? (i := 42) rfl))) (mvT hZ (hw _ (List.mem_of_getElem? (i := 41) rfl))) (by decide) (backOf (W := 0) (rm7 l Z a0 hw [] b64 (.ref wr_REPLAYED) 0 h65 n0 O65 F_refusal_b64 (Or.inr ⟨_, rfl, rfl⟩)) hZ (hw _ (List.mem_of_getElem? (i := 43) rfl)) (hw _ (List.mem_of_getElem? (i := 16) rfl)) (by decide) (by decide)) qa66 qc66 (g := (mkF m 44 #[.val (.int p1), .val (.int p2), .val (.int (9 : Int32)), .val (.ref wr_REPLAYED), .val .null, .val (.ref b64)] [(.ref b64)])) rfl (by rw [hml]; rfl) (Steps.refl _) (argsL := []) (rest := []) (lenOf pd_rm0_3 rfl) rfl (by show 2 * 0 + _ ≤ _; exact Nat.le_of_eq rfl) (hb hby at_44) (fun _ _ => ⟨rfl, e65, (by decide : 1 + 0 ≤ _), (by decide : 2 + 0 ≤ _)⟩)
    dsimp only [Pt.U, Pt.locs, Pt.cells, Pt.slots] at X66 l66 y66 z66 st66 hQ66
    subst l66 y66 z66
    obtain ⟨rfl, Nq66, e66⟩ := hQ66
    have N66 := Fr.app N65 Nq66
    refine Gl.st (fun _ kk => st66.trans kk) ?_
    show Gl p e below s _ _ _ T66 (mkF m 47 #[.val (.int p1), .val (.int p2), .val (.int (9 : Int32)), .val (.ref wr_REPLAYED), .val .null, .val (.ref b64)] [(.int (0 : Int32))])
    refine Gl.st (fun _ kk => XS.iloadN X66.here hx rfl (hb hby at_47) rfl kk) ?_
    show Gl p e below s _ _ _ T66 (mkF m 48 #[.val (.int p1), .val (.int p2), .val (.int (9 : Int32)), .val (.ref wr_REPLAYED), .val .null, .val (.ref b64)] [(.int (9 : Int32)), (.int (0 : Int32))])
    refine Gl.st (fun _ kk => XS.bipush X66.here hx rfl (hb hby at_48) kk) ?_
    show Gl p e below s _ _ _ T66 (mkF m 50 #[.val (.int p1), .val (.int p2), .val (.int (9 : Int32)), .val (.ref wr_REPLAYED), .val .null, .val (.ref b64)] [(.int (10 : Int32)), (.int (9 : Int32)), (.int (0 : Int32))])
    refine Gl.st (fun _ kk => XS.icmpYes X66.here hx rfl (pc0 := 50) (pc' := 57) rfl (hb hby at_50) rfl (feq (by decide : ¬ ((9 : Int32) = (10 : Int32)))).2 (by decide) (by decide) kk) ?_
    show Gl p e below s _ _ _ T66 (mkF m 57 #[.val (.int p1), .val (.int p2), .val (.int (9 : Int32)), .val (.ref wr_REPLAYED), .val .null, .val (.ref b64)] [(.int (0 : Int32))])
    refine Gl.st (fun _ kk => XS.iconst X66.here hx rfl (hb hby at_57) kk) ?_
    show Gl p e below s _ _ _ T66 (mkF m 58 #[.val (.int p1), .val (.int p2), .val (.int (9 : Int32)), .val (.ref wr_REPLAYED), .val .null, .val (.ref b64)] [(.int (0 : Int32)), (.int (0 : Int32))])
    refine Gl.st (fun _ kk => XS.icmpNo X66.here hx rfl (hb hby at_58) rfl (teq (by decide : (0 : Int32) = (0 : Int32))).2 kk) ?_
    show Gl p e below s _ _ _ T66 (mkF m 61 #[.val (.int p1), .val (.int p2), .val (.int (9 : Int32)), .val (.ref wr_REPLAYED), .val .null, .val (.ref b64)] [])
    refine Gl.st (fun _ kk => XS.iconst X66.here hx rfl (hb hby at_61) kk) ?_
    show Gl p e below s _ _ _ T66 (mkF m 62 #[.val (.int p1), .val (.int p2), .val (.int (9 : Int32)), .val (.ref wr_REPLAYED), .val .null, .val (.ref b64)] [(.int (1 : Int32))])
    refine Gl.st (fun _ kk => XS.goto X66.here hx rfl (pc0 := 62) (pc' := 66) rfl (hb hby at_62) (by decide) (by decide) kk) ?_
    show Gl p e below s _ _ _ T66 (mkF m 66 #[.val (.int p1), .val (.int p2), .val (.int (9 : Int32)), .val (.ref wr_REPLAYED), .val .null, .val (.ref b64)] [(.int (1 : Int32))])
    exact Gl.ret X66 (v := (some (.int (1 : Int32)))) (fun h => by rw [Bd.returns] at h; cases h) (BodyLoose.notSynchronized Bd) (fun hr => retN X66 hx (t := .boolean) Bd.returns (by simp) (hb hby at_66) hr) e66 ⟨rfl, N66⟩ (by decide) (by decide)
  · rw [hk]
    show Gl p e below s _ _ _ s₁ (mkF m 8 #[.val (.int p1), .val (.int p2), .val (.int (10 : Int32)), .unset, .unset, .unset] [])
    refine Gl.st (fun _ kk => XS.iloadN X0.here hx rfl (hb hby at_8) rfl kk) ?_
    show Gl p e below s _ _ _ s₁ (mkF m 9 #[.val (.int p1), .val (.int p2), .val (.int (10 : Int32)), .unset, .unset, .unset] [(.int (10 : Int32))])
    obtain ⟨_, _, ⟨T67, L67, k67, n67⟩, -, X67, ⟨Lc67, hQ67, l67, y67, z67⟩, st67⟩ := Jvm.LawKit.callS X0 hx (y := (⟨"io/github/countersign/VerdictIsValidPinLaw", "refusalAt", "(I)Lio/github/countersign/Refusal;"⟩ : MethodName)) hown (mvT hZ (hw _ (List.mem_of_getElem? (i := 1) rfl))) (mvT hZ (hw _ (List.mem_of_getElem? (i := 2) rfl))) (mvT hZ (hw _ (List.mem_of_getElem? (i := 3) rfl))) (mvT hZ (hw _ (List.mem_of_getElem? (i := 4) rfl))) (by decide) (backOf (W := 0) (rm1 l Z a0 hw [] 10 wr_MISSING_HEADER wr_DUPLICATE_HEADER wr_UNSUPPORTED_VERSION wr_BAD_DATE wr_STALE wr_UNKNOWN_API_KEY wr_MALFORMED_METHOD wr_MALFORMED_TARGET wr_SIGNATURE_MISMATCH wr_REPLAYED .null h0 n0 O0 Sr_MISSING_HEADER Sr_DUPLICATE_HEADER Sr_UNSUPPORTED_VERSION Sr_BAD_DATE Sr_STALE Sr_UNKNOWN_API_KEY Sr_MALFORMED_METHOD Sr_MALFORMED_TARGET Sr_SIGNATURE_MISMATCH Sr_REPLAYED (Or.inr (Or.inr (Or.inr (Or.inr (Or.inr (Or.inr (Or.inr (Or.inr (Or.inr (Or.inr (⟨rfl, rfl⟩)))))))))))) hZ (hw _ (List.mem_of_getElem? (i := 4) rfl)) (hw _ (List.mem_of_getElem? (i := 3) rfl)) (by decide) (by decide)) (g := (mkF m 9 #[.val (.int p1), .val (.int p2), .val (.int (10 : Int32)), .unset, .unset, .unset] [(.int (10 : Int32))])) rfl (by rw [hml]; rfl) (argsL := [(.int (10 : Int32))]) (rest := []) (lenOf pd_rm0_0 rfl) rfl (by show 2 * 0 + _ ≤ _; exact Nat.le_of_eq rfl) (hb hby at_9) (fun _ _ => ⟨rfl, e0, (by decide : 0 + 0 ≤ _), (by decide : 0 + 0 ≤ _)⟩)
    dsimp only [Pt.U, Pt.locs, Pt.cells, Pt.slots] at X67 l67 y67 z67 st67 hQ67
    subst l67 y67 z67
    obtain ⟨rfl, Nq67, e67⟩ := hQ67
    have N67 := Fr.app N0 Nq67
    refine Gl.st st67 ?_
    show Gl p e below s _ _ _ T67 (mkF m 12 #[.val (.int p1), .val (.int p2), .val (.int (10 : Int32)), .unset, .unset, .unset] [.null])
    refine Gl.st (fun _ kk => XS.astoreN X67.here hx rfl (hb hby at_12) rfl rfl (l' := #[.val (.int p1), .val (.int p2), .val (.int (10 : Int32)), .val .null, .unset, .unset]) rfl kk) ?_
    show Gl p e below s _ _ _ T67 (mkF m 13 #[.val (.int p1), .val (.int p2), .val (.int (10 : Int32)), .val .null, .unset, .unset] [])
    refine Gl.st (fun _ kk => XS.iloadN X67.here hx rfl (hb hby at_13) rfl kk) ?_
    show Gl p e below s _ _ _ T67 (mkF m 14 #[.val (.int p1), .val (.int p2), .val (.int (10 : Int32)), .val .null, .unset, .unset] [(.int (10 : Int32))])
    refine Gl.st (fun _ kk => XS.iconst X67.here hx rfl (hb hby at_14) kk) ?_
    show Gl p e below s _ _ _ T67 (mkF m 15 #[.val (.int p1), .val (.int p2), .val (.int (10 : Int32)), .val .null, .unset, .unset] [(.int (2 : Int32)), (.int (10 : Int32))])
    refine Gl.st (fun _ kk => XS.icmpYes X67.here hx rfl (pc0 := 15) (pc' := 27) rfl (hb hby at_15) rfl (flt (by decide : ¬ ((10 : Int32) < (2 : Int32)))).2.1 (by decide) (by decide) kk) ?_
    show Gl p e below s _ _ _ T67 (mkF m 27 #[.val (.int p1), .val (.int p2), .val (.int (10 : Int32)), .val .null, .unset, .unset] [])
    refine Gl.st (fun _ kk => XS.aconstNull X67.here hx rfl (hb hby at_27) kk) ?_
    show Gl p e below s _ _ _ T67 (mkF m 28 #[.val (.int p1), .val (.int p2), .val (.int (10 : Int32)), .val .null, .unset, .unset] [.null])
    refine Gl.st (fun _ kk => XS.astore X67.here hx rfl (hb hby at_28) rfl rfl (l' := #[.val (.int p1), .val (.int p2), .val (.int (10 : Int32)), .val .null, .val .null, .unset]) rfl kk) ?_
    show Gl p e below s _ _ _ T67 (mkF m 30 #[.val (.int p1), .val (.int p2), .val (.int (10 : Int32)), .val .null, .val .null, .unset] [])
    obtain ⟨T68, h68, X68, e68, E68, A68, D68, V68, st68⟩ := newO X67 hx hZ hown (hw _ (List.mem_of_getElem? (i := 14) rfl)) (hw _ (List.mem_of_getElem? (i := 15) rfl)) (hw _ (List.mem_of_getElem? (i := 16) rfl)) e67 (g := (mkF m 30 #[.val (.int p1), .val (.int p2), .val (.int (10 : Int32)), .val .null, .val .null, .unset] [])) rfl (hb hby at_30) (by decide) (by decide)
    obtain ⟨b68, g68⟩ : ∃ z, z = h0.size := ⟨_, rfl⟩
    rw [← g68] at A68 D68 V68 st68
    refine Gl.st st68 ?_
    have ge_b68 : n0 ≤ b68 := Nat.le_trans (Nat.le_trans (Nat.le_of_eq O0.1.symm) O0.2.1) (Nat.le_of_eq g68.symm)
    have fr_b68 : h0.size ≤ b68 := Nat.le_trans (Nat.le_refl _) (Nat.le_of_eq g68.symm)
    have O68 := O0.ext E68
    have K68 := (Keep.refl h0 []).ext E68
    have Exa_b68 := A68
    have F_refusal_b68 : Fld Z h68 b68 "io/github/countersign/Verdict" "refusal" "Lio/github/countersign/Refusal;" .null := D68 (Or.inr (hw _ (List.mem_of_getElem? (i := 36) rfl))) (ty := (.object "io/github/countersign/Refusal")) (by decide)
    have F_header_b68 : Fld Z h68 b68 "io/github/countersign/Verdict" "header" "Lio/github/countersign/Header;" .null := D68 (Or.inr (hw _ (List.mem_of_getElem? (i := 38) rfl))) (ty := (.object "io/github/countersign/Header")) (by decide)
    show Gl p e below s _ _ _ T68 (mkF m 33 #[.val (.int p1), .val (.int p2), .val (.int (10 : Int32)), .val .null, .val .null, .unset] [(.ref b68)])
    refine Gl.st (fun _ kk => XS.dup X68.here hx rfl (hb hby at_33) rfl rfl kk) ?_
    show Gl p e below s _ _ _ T68 (mkF m 34 #[.val (.int p1), .val (.int p2), .val (.int (10 : Int32)), .val .null, .val .null, .unset] [(.ref b68), (.ref b68)])
    refine Gl.st (fun _ kk => XS.aloadN X68.here hx rfl (hb hby at_34) rfl rfl kk) ?_
    show Gl p e below s _ _ _ T68 (mkF m 35 #[.val (.int p1), .val (.int p2), .val (.int (10 : Int32)), .val .null, .val .null, .unset] [.null, (.ref b68), (.ref b68)])
    refine Gl.st (fun _ kk => XS.aload X68.here hx rfl (hb hby at_35) rfl rfl kk) ?_
    show Gl p e below s _ _ _ T68 (mkF m 37 #[.val (.int p1), .val (.int p2), .val (.int (10 : Int32)), .val .null, .val .null, .unset] [.null, .null, (.ref b68), (.ref b68)])
    obtain ⟨_, _, ⟨T69, L69, k69, n69⟩, -, X69, ⟨Lc69, hQ69, l69, y69, z69⟩, st69⟩ := X68.specialBack hx (y := (⟨"io/github/countersign/Verdict", "<init>", "(Lio/github/countersign/Refusal;Lio/github/countersign/Header;)V"⟩ : MethodName)) rfl hown (mvT hZ (hw _ (List.mem_of_getElem? (i := 17) rfl))) (mvT hZ (hw _ (List.mem_of_getElem? (i := 18) rfl))) (mvT hZ (hw _ (List.mem_of_getElem? (i := 19) rfl))) (by decide) (backOf (W := 1) (rm3n l Z a0 hw [] b68 h68 n0 O68 Exa_b68 F_refusal_b68 F_header_b68 ge_b68) hZ (hw _ (List.mem_of_getElem? (i := 19) rfl)) (hw _ (List.mem_of_getElem? (i := 16) rfl)) (by decide) (by decide)) (g := (mkF m 37 #[.val (.int p1), .val (.int p2), .val (.int (10 : Int32)), .val .null, .val .null, .unset] [.null, .null, (.ref b68), (.ref b68)])) rfl (by rw [hml]; rfl) (Steps.refl _) (a := b68) (argsL := [.null, .null]) (rest := [(.ref b68)]) (lenOf pd_rm0_2 rfl) rfl (by show 2 * 0 + _ ≤ _; exact Nat.le_of_eq rfl) (hb hby at_37) (fun _ _ => ⟨rfl, e68, (by decide : 1 + 0 ≤ _), (by decide : 2 + 0 ≤ _)⟩)
    dsimp only [Pt.U, Pt.locs, Pt.cells, Pt.slots] at X69 l69 y69 z69 st69 hQ69
    subst l69 y69 z69
    obtain ⟨h69, e69⟩ : ∃ z, T69.heap = z := ⟨_, rfl⟩
    rw [e69] at hQ69
    obtain ⟨rfl, Nq69, Kq69, Eq69, Fq69⟩ := hQ69
    have N69 := Fr.app N67 Nq69
    refine Gl.st (fun _ kk => st69.trans kk) ?_
    have Exa_b68 := Exa_b68.keep Kq69
    have O69 := O68.keep Kq69 (allS ge_b68 all0)
    have K69 := K68.trans Kq69 (allS (Or.inr fr_b68) all0)
    have F_refusal_b68 := Fq69
    show Gl p e below s _ _ _ T69 (mkF m 40 #[.val (.int p1), .val (.int p2), .val (.int (10 : Int32)), .val .null, .val .null, .unset] [(.ref b68)])
    refine Gl.st (fun _ kk => XS.astore X69.here hx rfl (hb hby at_40) rfl rfl (l' := #[.val (.int p1), .val (.int p2), .val (.int (10 : Int32)), .val .null, .val .null, .val (.ref b68)]) rfl kk) ?_
    show Gl p e below s _ _ _ T69 (mkF m 42 #[.val (.int p1), .val (.int p2), .val (.int (10 : Int32)), .val .null, .val .null, .val (.ref b68)] [])
    refine Gl.st (fun _ kk => XS.aload X69.here hx rfl (hb hby at_42) rfl rfl kk) ?_
    show Gl p e below s _ _ _ T69 (mkF m 44 #[.val (.int p1), .val (.int p2), .val (.int (10 : Int32)), .val .null, .val .null, .val (.ref b68)] [(.ref b68)])
    obtain ⟨cq70, kq70, qa70, qb70, qc70⟩ := isOf hZ e69 Exa_b68
    obtain ⟨_, _, ⟨T70, L70, k70, n70⟩, -, X70, ⟨Lc70, hQ70, l70, y70, z70⟩, st70⟩ := X69.virtualBack hx (y := (⟨"io/github/countersign/Verdict", "isValid", "()Z"⟩ : MethodName)) (z := (⟨"io/github/countersign/Verdict", "isValid", "()Z"⟩ : MethodName)) hown (mvT hZ (hw _ (List.mem_of_getElem? (i := 39) rfl))) (mvT hZ (hw _ (List.mem_of_getElem? (i := 40) rfl))) (notFace_of_selects (args := #[]) (mvT hZ (hw _ (List.mem_of_getElem? (i := 42) rfl)))) (mvT hZ (hw _ (List.mem_of_getElem? (i := 42) rfl))) (mvT hZ (hw _ (List.mem_of_getElem? (i := 41) rfl))) (by decide) (backOf (W := 0) (rm7 l Z a0 hw [] b68 .null 1 h69 n0 O69 F_refusal_b68 (Or.inl ⟨rfl, rfl⟩)) hZ (hw _ (List.mem_of_getElem? (i := 43) rfl)) (hw _ (List.mem_of_getElem? (i := 16) rfl)) (by decide) (by decide)) qa70 qc70 (g := (mkF m 44 #[.val (.int p1), .val (.int p2), .val (.int (10 : Int32)), .val .null, .val .null, .val (.ref b68)] [(.ref b68)])) rfl (by rw [hml]; rfl) (Steps.refl _) (argsL := []) (rest := []) (lenOf pd_rm0_3 rfl) rfl (by show 2 * 0 + _ ≤ _; exact Nat.le_of_eq rfl) (hb hby at_44) (fun _ _ => ⟨rfl, e69, (by decide : 1 + 0 ≤ _), (by decide : 2 + 0 ≤ _)⟩)
    dsimp only [Pt.U, Pt.locs, Pt.cells, Pt.slots] at X70 l70 y70 z70 st70 hQ70
    subst l70 y70 z70
    obtain ⟨rfl, Nq70, e70⟩ := hQ70
    have N70 := Fr.app N69 Nq70
    refine Gl.st (fun _ kk => st70.trans kk) ?_
    show Gl p e below s _ _ _ T70 (mkF m 47 #[.val (.int p1), .val (.int p2), .val (.int (10 : Int32)), .val .null, .val .null, .val (.ref b68)] [(.int (1 : Int32))])
    refine Gl.st (fun _ kk => XS.iloadN X70.here hx rfl (hb hby at_47) rfl kk) ?_
    show Gl p e below s _ _ _ T70 (mkF m 48 #[.val (.int p1), .val (.int p2), .val (.int (10 : Int32)), .val .null, .val .null, .val (.ref b68)] [(.int (10 : Int32)), (.int (1 : Int32))])
    refine Gl.st (fun _ kk => XS.bipush X70.here hx rfl (hb hby at_48) kk) ?_
    show Gl p e below s _ _ _ T70 (mkF m 50 #[.val (.int p1), .val (.int p2), .val (.int (10 : Int32)), .val .null, .val .null, .val (.ref b68)] [(.int (10 : Int32)), (.int (10 : Int32)), (.int (1 : Int32))])
    refine Gl.st (fun _ kk => XS.icmpNo X70.here hx rfl (hb hby at_50) rfl (teq (by decide : (10 : Int32) = (10 : Int32))).2 kk) ?_
    show Gl p e below s _ _ _ T70 (mkF m 53 #[.val (.int p1), .val (.int p2), .val (.int (10 : Int32)), .val .null, .val .null, .val (.ref b68)] [(.int (1 : Int32))])
    refine Gl.st (fun _ kk => XS.iconst X70.here hx rfl (hb hby at_53) kk) ?_
    show Gl p e below s _ _ _ T70 (mkF m 54 #[.val (.int p1), .val (.int p2), .val (.int (10 : Int32)), .val .null, .val .null, .val (.ref b68)] [(.int (1 : Int32)), (.int (1 : Int32))])
    refine Gl.st (fun _ kk => XS.goto X70.here hx rfl (pc0 := 54) (pc' := 58) rfl (hb hby at_54) (by decide) (by decide) kk) ?_
    show Gl p e below s _ _ _ T70 (mkF m 58 #[.val (.int p1), .val (.int p2), .val (.int (10 : Int32)), .val .null, .val .null, .val (.ref b68)] [(.int (1 : Int32)), (.int (1 : Int32))])
    refine Gl.st (fun _ kk => XS.icmpNo X70.here hx rfl (hb hby at_58) rfl (teq (by decide : (1 : Int32) = (1 : Int32))).2 kk) ?_
    show Gl p e below s _ _ _ T70 (mkF m 61 #[.val (.int p1), .val (.int p2), .val (.int (10 : Int32)), .val .null, .val .null, .val (.ref b68)] [])
    refine Gl.st (fun _ kk => XS.iconst X70.here hx rfl (hb hby at_61) kk) ?_
    show Gl p e below s _ _ _ T70 (mkF m 62 #[.val (.int p1), .val (.int p2), .val (.int (10 : Int32)), .val .null, .val .null, .val (.ref b68)] [(.int (1 : Int32))])
    refine Gl.st (fun _ kk => XS.goto X70.here hx rfl (pc0 := 62) (pc' := 66) rfl (hb hby at_62) (by decide) (by decide) kk) ?_
    show Gl p e below s _ _ _ T70 (mkF m 66 #[.val (.int p1), .val (.int p2), .val (.int (10 : Int32)), .val .null, .val .null, .val (.ref b68)] [(.int (1 : Int32))])
    exact Gl.ret X70 (v := (some (.int (1 : Int32)))) (fun h => by rw [Bd.returns] at h; cases h) (BodyLoose.notSynchronized Bd) (fun hr => retN X70 hx (t := .boolean) Bd.returns (by simp) (hb hby at_66) hr) e70 ⟨rfl, N70⟩ (by decide) (by decide)
set_option maxRecDepth 65536 in
set_option maxHeartbeats 40000000 in
theorem comes_1 {Post : Tables → Env → Array Value → State → Outcome → State → Prop} (hpost : ∀ tb e args s v u, (limb_1_1.after args s (.returned v) u = true ∧ limb_1_2.after args s (.returned v) u = true ∧ True) → FrameEnd s (.returned v) u (Jvm.fieldLocs frame_1_writes args s ++ Jvm.arrayLocs frame_1_arrays args s ++ Jvm.staticLocs frame_1_statics s) 16 128 → Post tb e args s (.returned v) u) :
    ArmFor flags0 classFile x code maxLocals ret World_1 tables_1 room_1 Calls_1 rest_1 Pre_1 Post := by
  intro l hfl _ _ p e ha hc hk s m args below hf hA hF happ hP
  obtain ⟨hcalls, hrest, hpre⟩ := hP
  obtain ⟨-, -, -, hnamed, -, -, -, hat⟩ := (Spec.applies_iff hf).mp happ
  obtain ⟨hg, hn⟩ := and_e (Cond.before_iff.mp (show (Jvm.Cond.and given_1 narrow_1).before args s = true from hpre))
  obtain ⟨g1a, g1b⟩ := and_e hg
  obtain ⟨g2a, g2b⟩ := and_e g1b
  obtain ⟨w0, w1, rfl⟩ : ∃ w0 w1 : Value, args = #[w0, w1] := by
    have hs : args.size = 2 := by simpa [Cond.value, given_1] using g1a
    obtain ⟨L⟩ := args
    match L, hs with
    | [w0, w1], _ => exact ⟨w0, w1, rfl⟩
  have hw := fun d (hd : d ∈ tables_1) => atoms_spec (ws := Jvm.Cond.code x code maxLocals ret :: tables_1) hat d (List.mem_cons_of_mem _ hd)
  have hfit : Fit s := fun {y c} hc i hi => by
    obtain ⟨ha, rfl⟩ := Array.getElem?_eq_some_iff.mp hc
    have q := List.all_eq_true.mp ((Array.all_eq_true_iff_forall_mem.mp hF) _ (Array.getElem_mem ha)) i (List.mem_range.mpr hi)
    simpa [Array.getElem?_eq_getElem hi] using q
  obtain ⟨i0, ei0⟩ := is_v g2a
  obtain rfl : w0 = (.int i0) := Option.some.inj ei0
  obtain ⟨i1, ei1⟩ := is_v g2b
  obtain rfl : w1 = (.int i1) := Option.some.inj ei1
  obtain ⟨g3a, g3b⟩ := and_e hn
  obtain ⟨g4a, g4b⟩ := and_e g3b
  obtain ⟨g5a, g5b⟩ := and_e g4b
  obtain ⟨g6a, g6b⟩ := and_e g5b
  obtain ⟨g7a, g7b⟩ := and_e g6b
  obtain ⟨g8a, g8b⟩ := and_e g7b
  obtain ⟨g9a, g9b⟩ := and_e g8b
  obtain ⟨g10a, g10b⟩ := and_e g9b
  obtain ⟨g11a, g11b⟩ := and_e g10b
  obtain ⟨g12a, g12b⟩ := and_e g11b
  obtain ⟨g13a, g13b⟩ := and_e g12b
  obtain ⟨g14a, g14b⟩ := and_e g13b
  obtain ⟨g15a, g15b⟩ := and_e g14b
  obtain ⟨g16a, g16b⟩ := and_e g15b
  obtain ⟨g17a, g17b⟩ := and_e g16b
  obtain ⟨g18a, g18b⟩ := and_e g17b
  obtain ⟨g19a, g19b⟩ := and_e g18b
  obtain ⟨g20a, g20b⟩ := and_e g19b
  obtain ⟨g21a, g21b⟩ := and_e g20b
  obtain ⟨g22a, g22b⟩ := and_e g21b
  obtain ⟨g23a, g23b⟩ := and_e g22b
  obtain ⟨g24a, g24b⟩ := and_e g23b
  obtain ⟨g25a, g25b⟩ := and_e g24b
  obtain ⟨wr_MISSING_HEADER, evr_MISSING_HEADER⟩ := exa_v g3a
  have Er_MISSING_HEADER := Exa.start evr_MISSING_HEADER g3a
  have Sr_MISSING_HEADER := Sta.start evr_MISSING_HEADER (Or.inr ⟨(hw _ (List.mem_of_getElem? (i := 6) rfl)), (hw _ (List.mem_of_getElem? (i := 7) rfl))⟩)
  obtain ⟨wh_SIGNATURE, evh_SIGNATURE⟩ := exa_v g4a
  have Eh_SIGNATURE := Exa.start evh_SIGNATURE g4a
  have Sh_SIGNATURE := Sta.start evh_SIGNATURE (Or.inr ⟨(hw _ (List.mem_of_getElem? (i := 12) rfl)), (hw _ (List.mem_of_getElem? (i := 13) rfl))⟩)
  obtain ⟨wr_BAD_DATE, evr_BAD_DATE⟩ := exa_v g6a
  have Er_BAD_DATE := Exa.start evr_BAD_DATE g6a
  have Sr_BAD_DATE := Sta.start evr_BAD_DATE (Or.inr ⟨(hw _ (List.mem_of_getElem? (i := 6) rfl)), (hw _ (List.mem_of_getElem? (i := 45) rfl))⟩)
  obtain ⟨wr_REPLAYED, evr_REPLAYED⟩ := exa_v g8a
  have Er_REPLAYED := Exa.start evr_REPLAYED g8a
  have Sr_REPLAYED := Sta.start evr_REPLAYED (Or.inr ⟨(hw _ (List.mem_of_getElem? (i := 6) rfl)), (hw _ (List.mem_of_getElem? (i := 47) rfl))⟩)
  obtain ⟨wh_API_KEY, evh_API_KEY⟩ := exa_v g10a
  have Eh_API_KEY := Exa.start evh_API_KEY g10a
  have Sh_API_KEY := Sta.start evh_API_KEY (Or.inr ⟨(hw _ (List.mem_of_getElem? (i := 12) rfl)), (hw _ (List.mem_of_getElem? (i := 49) rfl))⟩)
  obtain ⟨wr_UNKNOWN_API_KEY, evr_UNKNOWN_API_KEY⟩ := exa_v g11a
  have Er_UNKNOWN_API_KEY := Exa.start evr_UNKNOWN_API_KEY g11a
  have Sr_UNKNOWN_API_KEY := Sta.start evr_UNKNOWN_API_KEY (Or.inr ⟨(hw _ (List.mem_of_getElem? (i := 6) rfl)), (hw _ (List.mem_of_getElem? (i := 51) rfl))⟩)
  obtain ⟨wr_MALFORMED_METHOD, evr_MALFORMED_METHOD⟩ := exa_v g13a
  have Er_MALFORMED_METHOD := Exa.start evr_MALFORMED_METHOD g13a
  have Sr_MALFORMED_METHOD := Sta.start evr_MALFORMED_METHOD (Or.inr ⟨(hw _ (List.mem_of_getElem? (i := 6) rfl)), (hw _ (List.mem_of_getElem? (i := 53) rfl))⟩)
  obtain ⟨wr_SIGNATURE_MISMATCH, evr_SIGNATURE_MISMATCH⟩ := exa_v g15a
  have Er_SIGNATURE_MISMATCH := Exa.start evr_SIGNATURE_MISMATCH g15a
  have Sr_SIGNATURE_MISMATCH := Sta.start evr_SIGNATURE_MISMATCH (Or.inr ⟨(hw _ (List.mem_of_getElem? (i := 6) rfl)), (hw _ (List.mem_of_getElem? (i := 55) rfl))⟩)
  obtain ⟨wr_DUPLICATE_HEADER, evr_DUPLICATE_HEADER⟩ := exa_v g17a
  have Er_DUPLICATE_HEADER := Exa.start evr_DUPLICATE_HEADER g17a
  have Sr_DUPLICATE_HEADER := Sta.start evr_DUPLICATE_HEADER (Or.inr ⟨(hw _ (List.mem_of_getElem? (i := 6) rfl)), (hw _ (List.mem_of_getElem? (i := 57) rfl))⟩)
  obtain ⟨wh_DATE, evh_DATE⟩ := exa_v g18a
  have Eh_DATE := Exa.start evh_DATE g18a
  have Sh_DATE := Sta.start evh_DATE (Or.inr ⟨(hw _ (List.mem_of_getElem? (i := 12) rfl)), (hw _ (List.mem_of_getElem? (i := 59) rfl))⟩)
  obtain ⟨wr_UNSUPPORTED_VERSION, evr_UNSUPPORTED_VERSION⟩ := exa_v g20a
  have Er_UNSUPPORTED_VERSION := Exa.start evr_UNSUPPORTED_VERSION g20a
  have Sr_UNSUPPORTED_VERSION := Sta.start evr_UNSUPPORTED_VERSION (Or.inr ⟨(hw _ (List.mem_of_getElem? (i := 6) rfl)), (hw _ (List.mem_of_getElem? (i := 61) rfl))⟩)
  obtain ⟨wh_VERSION, evh_VERSION⟩ := exa_v g22a
  have Eh_VERSION := Exa.start evh_VERSION g22a
  have Sh_VERSION := Sta.start evh_VERSION (Or.inr ⟨(hw _ (List.mem_of_getElem? (i := 12) rfl)), (hw _ (List.mem_of_getElem? (i := 63) rfl))⟩)
  obtain ⟨wr_MALFORMED_TARGET, evr_MALFORMED_TARGET⟩ := exa_v g23a
  have Er_MALFORMED_TARGET := Exa.start evr_MALFORMED_TARGET g23a
  have Sr_MALFORMED_TARGET := Sta.start evr_MALFORMED_TARGET (Or.inr ⟨(hw _ (List.mem_of_getElem? (i := 6) rfl)), (hw _ (List.mem_of_getElem? (i := 65) rfl))⟩)
  obtain ⟨wr_STALE, evr_STALE⟩ := exa_v g25a
  have Er_STALE := Exa.start evr_STALE g25a
  have Sr_STALE := Sta.start evr_STALE (Or.inr ⟨(hw _ (List.mem_of_getElem? (i := 6) rfl)), (hw _ (List.mem_of_getElem? (i := 67) rfl))⟩)
  have Fr_MISSING_HEADER := Fld.start ((fld_at evr_MISSING_HEADER).symm.trans (own_eqint g5a))
  have Fr_BAD_DATE := Fld.start ((fld_at evr_BAD_DATE).symm.trans (own_eqint g7a))
  have Fr_REPLAYED := Fld.start ((fld_at evr_REPLAYED).symm.trans (own_eqint g9a))
  have Fr_UNKNOWN_API_KEY := Fld.start ((fld_at evr_UNKNOWN_API_KEY).symm.trans (own_eqint g12a))
  have Fr_MALFORMED_METHOD := Fld.start ((fld_at evr_MALFORMED_METHOD).symm.trans (own_eqint g14a))
  have Fr_SIGNATURE_MISMATCH := Fld.start ((fld_at evr_SIGNATURE_MISMATCH).symm.trans (own_eqint g16a))
  have Fr_DUPLICATE_HEADER := Fld.start ((fld_at evr_DUPLICATE_HEADER).symm.trans (own_eqint g19a))
  have Fr_UNSUPPORTED_VERSION := Fld.start ((fld_at evr_UNSUPPORTED_VERSION).symm.trans (own_eqint g21a))
  have Fr_MALFORMED_TARGET := Fld.start ((fld_at evr_MALFORMED_TARGET).symm.trans (own_eqint g24a))
  have Fr_STALE := Fld.start ((fld_at evr_STALE).symm.trans (own_eqint g25b))
  obtain ⟨n, o, h1, h2, h3, _, L, rfl, ⟨rfl, N⟩, hq⟩ := rm0 l s _ hw tables_1 i0 i1 wr_MISSING_HEADER wr_DUPLICATE_HEADER wr_UNSUPPORTED_VERSION wr_BAD_DATE wr_STALE wr_UNKNOWN_API_KEY wr_MALFORMED_METHOD wr_MALFORMED_TARGET wr_SIGNATURE_MISMATCH wr_REPLAYED wh_API_KEY wh_DATE wh_VERSION wh_SIGNATURE s.heap s.heap.size (Old.start s) Sr_MISSING_HEADER Sr_DUPLICATE_HEADER Sr_UNSUPPORTED_VERSION Sr_BAD_DATE Sr_STALE Sr_UNKNOWN_API_KEY Sr_MALFORMED_METHOD Sr_MALFORMED_TARGET Sr_SIGNATURE_MISMATCH Sr_REPLAYED Er_MISSING_HEADER Er_DUPLICATE_HEADER Er_UNSUPPORTED_VERSION Er_BAD_DATE Er_STALE Er_UNKNOWN_API_KEY Er_MALFORMED_METHOD Er_MALFORMED_TARGET Er_SIGNATURE_MISMATCH Er_REPLAYED Fr_MISSING_HEADER Fr_DUPLICATE_HEADER Fr_UNSUPPORTED_VERSION Fr_BAD_DATE Fr_STALE Fr_UNKNOWN_API_KEY Fr_MALFORMED_METHOD Fr_MALFORMED_TARGET Fr_SIGNATURE_MISMATCH Fr_REPLAYED Sh_API_KEY Sh_DATE Sh_VERSION Sh_SIGNATURE Eh_API_KEY Eh_DATE Eh_VERSION Eh_SIGNATURE p e ha hc hk s m _ below hf ((Spec.applies_iff_loose hf).mp happ).1 ⟨rfl, State.Warmed39.refl s, rfl⟩ trivial
  refine ⟨n, _, h1, h2, h3, hpost _ _ _ _ _ _ ⟨Cond.after_iff.mpr rfl, Cond.after_iff.mpr (eq_i res_at (Term.int_eval (1)) rfl), trivial⟩ ⟨hq.1, hq.2.1, (hq.2.2.sift fun y hy => Or.inr (N y hy)).mono (by decide) (by decide)⟩⟩
theorem main_1_1 : Claimed_1_1 := comes_1 fun _ _ _ _ _ _ h hF => ⟨h.1, hF⟩
theorem main_1_2 : Claimed_1_2 := comes_1 fun _ _ _ _ _ _ h hF => ⟨h.2.1, hF⟩
end Jvm.Pilot.@@N@@
namespace Jvm.Pilot.@@N@@
open Jvm Jvm.ClassFile Sem Op Lib Jvm.Free Jvm.Stand Jvm.Pilot.@@N@@.Jvm.D
/-! MADE BY PROGRAM (witnessworld.py) out of the Statement's table words and the real class files: 15 classes; the members and pool entries that the words name. The judged class is class 1, her method 1. -/
namespace start1
open Jvm.ClassFile
def u (s : String) : CpInfo := .utf8 (stringToUtf16 s)
/-- a pool by its gaps: so many unusable entries, then the entry; so many at the end -/
def gap : Nat → List CpInfo → List CpInfo
  | 0, r => r
  | n + 1, r => .unusable :: gap n r
def poolList (es : List (Nat × CpInfo)) (last : Nat) : List CpInfo := es.foldr (fun e r => gap e.1 (e.2 :: r)) (gap last [])
def pool (es : List (Nat × CpInfo)) (last : Nat) : Array CpInfo := ⟨poolList es last⟩
def fileOf (pool : Array CpInfo) (this : Nat) (attrs : Array Attribute := #[]) (ms : Array MethodInfo := #[]) (fl : Nat := 33) (sup : Nat := 0) (ifs : Array Nat := #[]) (fds : Array FieldInfo := #[]) : ClassFile where
  minorVersion := 0
  majorVersion := 65
  constantPool := pool
  accessFlags := fl
  thisClass := this
  superClass := sup
  interfaces := ifs
  fields := fds
  methods := ms
  attributes := attrs
def plain (name : String) (sup : Option ClassId) : Class where
  name := name
  kind := .ordinary
  loader := none
  accessFlags := 33
  super := sup
  interfaces := #[]
  cf := none
  fields := #[]
  methods := #[]
  instanceTypes := #[]
  staticTypes := #[]
  resolved := #[]
  callSites := []
  init := .initialized
  statics := none
  mirror := none

def pool0 : Array CpInfo := pool [(5, u "<init>"), (0, u "()V"), (1, .class_ 10), (1, u "java/lang/Object")] 113

def k0c0 : Code := { maxStack := 0, maxLocals := 1, code := object_method_1_code, exceptionTable := #[], attributes := #[] }
def k0m0 : Method := { name := "<init>", desc := "()V", sig := { parameters := [], returnType := none }, accessFlags := 1, code := some k0c0 }
/-- java/lang/Object -/
def k0 : Class := { plain "java/lang/Object" none with
  accessFlags := 33
  interfaces := #[]
  cf := some (fileOf pool0 8 #[] #[{ accessFlags := 1, nameIndex := 5, descriptorIndex := 6, attributes := #[] }] 33 0 #[] #[])
  fields := #[]
  methods := #[k0m0]
  instanceTypes := #[]
  staticTypes := #[]
  resolved := Array.replicate 124 none
  statics := none }

def pool1 : Array CpInfo := pool [(2, .class_ 4), (1, u "java/lang/Object"), (0, u "<init>"), (0, u "()V"), (0, .integer 2147483647), (0, .methodref 9 10), (0, .class_ 11), (0, .nameAndType 12 13), (0, u "io/github/countersign/VerdictIsValidPinLaw"), (0, u "refusalAt"), (0, u "(I)Lio/github/countersign/Refusal;"), (0, .methodref 9 15), (0, .nameAndType 16 17), (0, u "headerAt"), (0, u "(I)Lio/github/countersign/Header;"), (0, .class_ 19), (0, u "io/github/countersign/Verdict"), (0, .methodref 18 21), (0, .nameAndType 5 22), (0, u "(Lio/github/countersign/Refusal;Lio/github/countersign/Header;)V"), (0, .methodref 18 24), (0, .nameAndType 25 26), (0, u "isValid"), (0, u "()Z"), (0, .fieldref 28 29), (0, .class_ 30), (0, .nameAndType 31 32), (0, u "io/github/countersign/Refusal"), (0, u "MISSING_HEADER"), (0, u "Lio/github/countersign/Refusal;"), (0, .fieldref 28 34), (0, .nameAndType 35 32), (0, u "DUPLICATE_HEADER"), (0, .fieldref 28 37), (0, .nameAndType 38 32), (0, u "UNSUPPORTED_VERSION"), (0, .fieldref 28 40), (0, .nameAndType 41 32), (0, u "BAD_DATE"), (0, .fieldref 28 43), (0, .nameAndType 44 32), (0, u "STALE"), (0, .fieldref 28 46), (0, .nameAndType 47 32), (0, u "UNKNOWN_API_KEY"), (0, .fieldref 28 49), (0, .nameAndType 50 32), (0, u "MALFORMED_METHOD"), (0, .fieldref 28 52), (0, .nameAndType 53 32), (0, u "MALFORMED_TARGET"), (0, .fieldref 28 55), (0, .nameAndType 56 32), (0, u "SIGNATURE_MISMATCH"), (0, .fieldref 28 58), (0, .nameAndType 59 32), (0, u "REPLAYED"), (0, .fieldref 61 62), (0, .class_ 63), (0, .nameAndType 64 65), (0, u "io/github/countersign/Header"), (0, u "API_KEY"), (0, u "Lio/github/countersign/Header;"), (0, .fieldref 61 67), (0, .nameAndType 68 65), (0, u "DATE"), (0, .fieldref 61 70), (0, .nameAndType 71 65), (0, u "VERSION"), (0, .fieldref 61 73), (0, .nameAndType 74 65), (0, u "SIGNATURE"), (2, u "law"), (0, u "(II)Z")] 3

def k1m0 : Method := { name := "<init>", desc := "()V", sig := { parameters := [], returnType := none }, accessFlags := 1, code := none }
def k1c1 : Code := { maxStack := 4, maxLocals := 6, code := code, exceptionTable := #[], attributes := #[] }
def k1m1 : Method := { name := "law", desc := "(II)Z", sig := { parameters := [.int, .int], returnType := some .boolean }, accessFlags := 9, code := some k1c1 }
def k1c2 : Code := { maxStack := 2, maxLocals := 1, code := method_3_code, exceptionTable := #[], attributes := #[] }
def k1m2 : Method := { name := "refusalAt", desc := "(I)Lio/github/countersign/Refusal;", sig := { parameters := [.int], returnType := some (.object "io/github/countersign/Refusal") }, accessFlags := 10, code := some k1c2 }
def k1c3 : Code := { maxStack := 2, maxLocals := 1, code := method_4_code, exceptionTable := #[], attributes := #[] }
def k1m3 : Method := { name := "headerAt", desc := "(I)Lio/github/countersign/Header;", sig := { parameters := [.int], returnType := some (.object "io/github/countersign/Header") }, accessFlags := 10, code := some k1c3 }
/-- io/github/countersign/VerdictIsValidPinLaw -/
def k1 : Class := { plain "io/github/countersign/VerdictIsValidPinLaw" (some 0) with
  accessFlags := 49
  interfaces := #[]
  cf := some (fileOf pool1 9 #[] #[{ accessFlags := 1, nameIndex := 5, descriptorIndex := 6, attributes := #[] }, { accessFlags := 9, nameIndex := 77, descriptorIndex := 78, attributes := #[] }, { accessFlags := 10, nameIndex := 12, descriptorIndex := 13, attributes := #[] }, { accessFlags := 10, nameIndex := 16, descriptorIndex := 17, attributes := #[] }] 49 2 #[] #[])
  fields := #[]
  methods := #[k1m0, k1m1, k1m2, k1m3]
  instanceTypes := #[]
  staticTypes := #[]
  resolved := Array.replicate 82 none
  statics := none }

def pool2 : Array CpInfo := pool [(1, .class_ 2), (0, u "java/lang/constant/Constable"), (0, .class_ 4), (0, u "java/lang/Object")] 6

/-- java/lang/constant/Constable -/
def k2 : Class := { plain "java/lang/constant/Constable" (some 0) with
  accessFlags := 1537
  interfaces := #[]
  cf := some (fileOf pool2 1 #[] #[] 1537 3 #[] #[])
  fields := #[]
  methods := #[]
  instanceTypes := #[]
  staticTypes := #[]
  resolved := Array.replicate 11 none
  statics := none }

def pool3 : Array CpInfo := pool [(1, .class_ 2), (0, u "java/lang/Comparable"), (0, .class_ 4), (0, u "java/lang/Object")] 7

/-- java/lang/Comparable -/
def k3 : Class := { plain "java/lang/Comparable" (some 0) with
  accessFlags := 1537
  interfaces := #[]
  cf := some (fileOf pool3 1 #[] #[] 1537 3 #[] #[])
  fields := #[]
  methods := #[]
  instanceTypes := #[]
  staticTypes := #[]
  resolved := Array.replicate 12 none
  statics := none }

def pool4 : Array CpInfo := pool [(1, .class_ 2), (0, u "java/io/Serializable"), (0, .class_ 4), (0, u "java/lang/Object")] 2

/-- java/io/Serializable -/
def k4 : Class := { plain "java/io/Serializable" (some 0) with
  accessFlags := 1537
  interfaces := #[]
  cf := some (fileOf pool4 1 #[] #[] 1537 3 #[] #[])
  fields := #[]
  methods := #[]
  instanceTypes := #[]
  staticTypes := #[]
  resolved := Array.replicate 7 none
  statics := none }

def pool5 : Array CpInfo := pool [(2, .class_ 4), (1, u "java/lang/Enum"), (0, u "name"), (0, u "Ljava/lang/String;"), (2, u "ordinal"), (0, u "I"), (1, .class_ 14), (1, u "java/lang/Object"), (4, u "hash"), (86, .class_ 108), (1, u "java/lang/Enum$EnumDesc"), (2, .class_ 112), (0, u "java/lang/constant/Constable"), (0, .class_ 114), (0, u "java/lang/Comparable"), (0, .class_ 116), (0, u "java/io/Serializable")] 87

/-- java/lang/Enum -/
def k5 : Class := { plain "java/lang/Enum" (some 0) with
  accessFlags := 1057
  interfaces := #[2, 3, 4]
  cf := some (fileOf pool5 2 #[.nestMembers #[106]] #[] 1057 12 #[111, 113, 115] #[{ accessFlags := 18, nameIndex := 5, descriptorIndex := 6, attributes := #[] }, { accessFlags := 18, nameIndex := 9, descriptorIndex := 10, attributes := #[] }, { accessFlags := 2, nameIndex := 19, descriptorIndex := 10, attributes := #[] }])
  fields := #[{ name := "name", type := (.object "java/lang/String"), accessFlags := 18, slot := 0, constantValue := 0 }, { name := "ordinal", type := .int, accessFlags := 18, slot := 1, constantValue := 0 }, { name := "hash", type := .int, accessFlags := 2, slot := 2, constantValue := 0 }]
  methods := #[]
  instanceTypes := #[(.object "java/lang/String"), .int, .int]
  staticTypes := #[]
  resolved := Array.replicate 204 none
  statics := none }

def pool6 : Array CpInfo := pool [(1, .class_ 2), (0, u "io/github/countersign/Refusal"), (2, u "MISSING_HEADER"), (0, u "Lio/github/countersign/Refusal;"), (2, u "DUPLICATE_HEADER"), (2, u "UNSUPPORTED_VERSION"), (2, u "BAD_DATE"), (2, u "STALE"), (2, u "UNKNOWN_API_KEY"), (2, u "MALFORMED_METHOD"), (2, u "MALFORMED_TARGET"), (2, u "SIGNATURE_MISMATCH"), (2, u "REPLAYED"), (2, u "$VALUES"), (0, u "[Lio/github/countersign/Refusal;"), (6, .class_ 46), (1, u "java/lang/Enum"), (8, u "reason"), (0, u "Ljava/lang/String;"), (0, .fieldref 1 58), (0, .nameAndType 59 60), (0, u "namesHeader"), (0, u "Z"), (45, u "()Z")] 5

def k6c0 : Code := { maxStack := 1, maxLocals := 1, code := prog_10_method_5_code, exceptionTable := #[], attributes := #[] }
def k6m0 : Method := { name := "namesHeader", desc := "()Z", sig := { parameters := [], returnType := some .boolean }, accessFlags := 1, code := some k6c0 }
/-- io/github/countersign/Refusal -/
def k6 : Class := { plain "io/github/countersign/Refusal" (some 5) with
  accessFlags := 16433
  interfaces := #[]
  cf := some (fileOf pool6 1 #[] #[{ accessFlags := 1, nameIndex := 59, descriptorIndex := 106, attributes := #[] }] 16433 44 #[] #[{ accessFlags := 16409, nameIndex := 5, descriptorIndex := 6, attributes := #[] }, { accessFlags := 16409, nameIndex := 9, descriptorIndex := 6, attributes := #[] }, { accessFlags := 16409, nameIndex := 12, descriptorIndex := 6, attributes := #[] }, { accessFlags := 16409, nameIndex := 15, descriptorIndex := 6, attributes := #[] }, { accessFlags := 16409, nameIndex := 18, descriptorIndex := 6, attributes := #[] }, { accessFlags := 16409, nameIndex := 21, descriptorIndex := 6, attributes := #[] }, { accessFlags := 16409, nameIndex := 24, descriptorIndex := 6, attributes := #[] }, { accessFlags := 16409, nameIndex := 27, descriptorIndex := 6, attributes := #[] }, { accessFlags := 16409, nameIndex := 30, descriptorIndex := 6, attributes := #[] }, { accessFlags := 16409, nameIndex := 33, descriptorIndex := 6, attributes := #[] }, { accessFlags := 18, nameIndex := 55, descriptorIndex := 56, attributes := #[] }, { accessFlags := 18, nameIndex := 59, descriptorIndex := 60, attributes := #[] }, { accessFlags := 4122, nameIndex := 36, descriptorIndex := 37, attributes := #[] }])
  fields := #[{ name := "MISSING_HEADER", type := (.object "io/github/countersign/Refusal"), accessFlags := 16409, slot := 0, constantValue := 0 }, { name := "DUPLICATE_HEADER", type := (.object "io/github/countersign/Refusal"), accessFlags := 16409, slot := 1, constantValue := 0 }, { name := "UNSUPPORTED_VERSION", type := (.object "io/github/countersign/Refusal"), accessFlags := 16409, slot := 2, constantValue := 0 }, { name := "BAD_DATE", type := (.object "io/github/countersign/Refusal"), accessFlags := 16409, slot := 3, constantValue := 0 }, { name := "STALE", type := (.object "io/github/countersign/Refusal"), accessFlags := 16409, slot := 4, constantValue := 0 }, { name := "UNKNOWN_API_KEY", type := (.object "io/github/countersign/Refusal"), accessFlags := 16409, slot := 5, constantValue := 0 }, { name := "MALFORMED_METHOD", type := (.object "io/github/countersign/Refusal"), accessFlags := 16409, slot := 6, constantValue := 0 }, { name := "MALFORMED_TARGET", type := (.object "io/github/countersign/Refusal"), accessFlags := 16409, slot := 7, constantValue := 0 }, { name := "SIGNATURE_MISMATCH", type := (.object "io/github/countersign/Refusal"), accessFlags := 16409, slot := 8, constantValue := 0 }, { name := "REPLAYED", type := (.object "io/github/countersign/Refusal"), accessFlags := 16409, slot := 9, constantValue := 0 }, { name := "reason", type := (.object "java/lang/String"), accessFlags := 18, slot := 3, constantValue := 0 }, { name := "namesHeader", type := .boolean, accessFlags := 18, slot := 4, constantValue := 0 }, { name := "$VALUES", type := (.array (.object "io/github/countersign/Refusal")), accessFlags := 4122, slot := 10, constantValue := 0 }]
  methods := #[k6m0]
  instanceTypes := #[(.object "java/lang/String"), .int, .int, (.object "java/lang/String"), .boolean]
  staticTypes := #[(.object "io/github/countersign/Refusal"), (.object "io/github/countersign/Refusal"), (.object "io/github/countersign/Refusal"), (.object "io/github/countersign/Refusal"), (.object "io/github/countersign/Refusal"), (.object "io/github/countersign/Refusal"), (.object "io/github/countersign/Refusal"), (.object "io/github/countersign/Refusal"), (.object "io/github/countersign/Refusal"), (.object "io/github/countersign/Refusal"), (.array (.object "io/github/countersign/Refusal"))]
  resolved := Array.replicate 112 none
  statics := some 0 }

def pool7 : Array CpInfo := pool [(1, .class_ 2), (0, u "io/github/countersign/Header"), (2, u "API_KEY"), (0, u "Lio/github/countersign/Header;"), (2, u "DATE"), (2, u "VERSION"), (2, u "SIGNATURE"), (2, u "$VALUES"), (0, u "[Lio/github/countersign/Header;"), (6, .class_ 28), (1, u "java/lang/Enum"), (8, u "fieldName"), (0, u "Ljava/lang/String;")] 50

/-- io/github/countersign/Header -/
def k7 : Class := { plain "io/github/countersign/Header" (some 5) with
  accessFlags := 16433
  interfaces := #[]
  cf := some (fileOf pool7 1 #[] #[] 16433 26 #[] #[{ accessFlags := 16409, nameIndex := 5, descriptorIndex := 6, attributes := #[] }, { accessFlags := 16409, nameIndex := 9, descriptorIndex := 6, attributes := #[] }, { accessFlags := 16409, nameIndex := 12, descriptorIndex := 6, attributes := #[] }, { accessFlags := 16409, nameIndex := 15, descriptorIndex := 6, attributes := #[] }, { accessFlags := 18, nameIndex := 37, descriptorIndex := 38, attributes := #[] }, { accessFlags := 4122, nameIndex := 18, descriptorIndex := 19, attributes := #[] }])
  fields := #[{ name := "API_KEY", type := (.object "io/github/countersign/Header"), accessFlags := 16409, slot := 0, constantValue := 0 }, { name := "DATE", type := (.object "io/github/countersign/Header"), accessFlags := 16409, slot := 1, constantValue := 0 }, { name := "VERSION", type := (.object "io/github/countersign/Header"), accessFlags := 16409, slot := 2, constantValue := 0 }, { name := "SIGNATURE", type := (.object "io/github/countersign/Header"), accessFlags := 16409, slot := 3, constantValue := 0 }, { name := "fieldName", type := (.object "java/lang/String"), accessFlags := 18, slot := 3, constantValue := 0 }, { name := "$VALUES", type := (.array (.object "io/github/countersign/Header")), accessFlags := 4122, slot := 4, constantValue := 0 }]
  methods := #[]
  instanceTypes := #[(.object "java/lang/String"), .int, .int, (.object "java/lang/String")]
  staticTypes := #[(.object "io/github/countersign/Header"), (.object "io/github/countersign/Header"), (.object "io/github/countersign/Header"), (.object "io/github/countersign/Header"), (.array (.object "io/github/countersign/Header"))]
  resolved := Array.replicate 89 none
  statics := some 1 }

def pool8 : Array CpInfo := pool [(1, .methodref 2 3), (0, .class_ 4), (0, .nameAndType 5 6), (0, u "java/lang/Object"), (0, u "<init>"), (0, u "()V"), (0, .class_ 8), (0, u "java/lang/Record")] 13

def k8c0 : Code := { maxStack := 1, maxLocals := 1, code := jdk_30_method_1_code, exceptionTable := #[], attributes := #[] }
def k8m0 : Method := { name := "<init>", desc := "()V", sig := { parameters := [], returnType := none }, accessFlags := 4, code := some k8c0 }
/-- java/lang/Record -/
def k8 : Class := { plain "java/lang/Record" (some 0) with
  accessFlags := 1057
  interfaces := #[]
  cf := some (fileOf pool8 7 #[] #[{ accessFlags := 4, nameIndex := 5, descriptorIndex := 6, attributes := #[] }] 1057 2 #[] #[])
  fields := #[]
  methods := #[k8m0]
  instanceTypes := #[]
  staticTypes := #[]
  resolved := Array.replicate 22 none
  statics := none }

def pool9 : Array CpInfo := pool [(1, .methodref 2 3), (0, .class_ 4), (0, .nameAndType 5 6), (0, u "java/lang/Record"), (0, u "<init>"), (0, u "()V"), (0, .methodref 8 9), (0, .class_ 10), (0, .nameAndType 11 12), (0, u "io/github/countersign/Refusal"), (0, u "namesHeader"), (0, u "()Z"), (17, .fieldref 31 32), (0, .class_ 33), (0, .nameAndType 34 35), (0, u "io/github/countersign/Verdict"), (0, u "refusal"), (0, u "Lio/github/countersign/Refusal;"), (0, .fieldref 31 37), (0, .nameAndType 38 39), (0, u "header"), (0, u "Lio/github/countersign/Header;"), (27, u "(Lio/github/countersign/Refusal;Lio/github/countersign/Header;)V"), (2, u "VALID"), (0, u "Lio/github/countersign/Verdict;"), (4, u "isValid")] 39

def k9c0 : Code := { maxStack := 3, maxLocals := 4, code := prog_22_method_1_code, exceptionTable := #[], attributes := #[] }
def k9m0 : Method := { name := "<init>", desc := "(Lio/github/countersign/Refusal;Lio/github/countersign/Header;)V", sig := { parameters := [(.object "io/github/countersign/Refusal"), (.object "io/github/countersign/Header")], returnType := none }, accessFlags := 1, code := some k9c0 }
def k9c1 : Code := { maxStack := 1, maxLocals := 1, code := prog_22_method_2_code, exceptionTable := #[], attributes := #[] }
def k9m1 : Method := { name := "isValid", desc := "()Z", sig := { parameters := [], returnType := some .boolean }, accessFlags := 1, code := some k9c1 }
/-- io/github/countersign/Verdict -/
def k9 : Class := { plain "io/github/countersign/Verdict" (some 8) with
  accessFlags := 49
  interfaces := #[]
  cf := some (fileOf pool9 31 #[] #[{ accessFlags := 1, nameIndex := 5, descriptorIndex := 67, attributes := #[] }, { accessFlags := 1, nameIndex := 76, descriptorIndex := 12, attributes := #[] }] 49 2 #[] #[{ accessFlags := 18, nameIndex := 34, descriptorIndex := 35, attributes := #[] }, { accessFlags := 18, nameIndex := 38, descriptorIndex := 39, attributes := #[] }, { accessFlags := 25, nameIndex := 70, descriptorIndex := 71, attributes := #[] }])
  fields := #[{ name := "refusal", type := (.object "io/github/countersign/Refusal"), accessFlags := 18, slot := 0, constantValue := 0 }, { name := "header", type := (.object "io/github/countersign/Header"), accessFlags := 18, slot := 1, constantValue := 0 }, { name := "VALID", type := (.object "io/github/countersign/Verdict"), accessFlags := 25, slot := 0, constantValue := 0 }]
  methods := #[k9m0, k9m1]
  instanceTypes := #[(.object "io/github/countersign/Refusal"), (.object "io/github/countersign/Header")]
  staticTypes := #[(.object "io/github/countersign/Verdict")]
  resolved := Array.replicate 116 none
  statics := none }

def pool10 : Array CpInfo := pool [(1, u "java/lang/Cloneable"), (0, .class_ 1), (0, u "java/lang/Object"), (0, .class_ 3)] 3

/-- java/lang/Cloneable -/
def k10 : Class := { plain "java/lang/Cloneable" (some 0) with
  accessFlags := 1537
  interfaces := #[]
  cf := some (fileOf pool10 2 #[] #[] 1537 4 #[] #[])
  fields := #[]
  methods := #[]
  instanceTypes := #[]
  staticTypes := #[]
  resolved := Array.replicate 8 none
  statics := none }

/-- the primitive byte -/
def k11 : Class := { plain "byte" none with kind := .primitive 'B', accessFlags := 0x411 }
/-- [B -/
def k12 : Class := { plain "[B" (some 0) with kind := .array 11 .byte, interfaces := #[10, 4], accessFlags := 1041 }

/-- the primitive int -/
def k13 : Class := { plain "int" none with kind := .primitive 'I', accessFlags := 0x411 }
/-- [I -/
def k14 : Class := { plain "[I" (some 0) with kind := .array 13 .int, interfaces := #[10, 4], accessFlags := 1041 }

def heap : Heap := #[{ cls := 6, slots := #[.ref 2, .ref 3, .ref 4, .ref 5, .ref 6, .ref 7, .ref 8, .ref 9, .ref 10, .ref 11, .null], vm := .statics 6 },
  { cls := 7, slots := #[.ref 12, .ref 13, .ref 14, .ref 15, .null], vm := .statics 7 },
  { cls := 6, slots := #[.null, .int 0, .int 0, .null, .int 1], vm := .none },
  { cls := 6, slots := #[.null, .int 1, .int 0, .null, .int 1], vm := .none },
  { cls := 6, slots := #[.null, .int 2, .int 0, .null, .int 0], vm := .none },
  { cls := 6, slots := #[.null, .int 3, .int 0, .null, .int 0], vm := .none },
  { cls := 6, slots := #[.null, .int 4, .int 0, .null, .int 0], vm := .none },
  { cls := 6, slots := #[.null, .int 5, .int 0, .null, .int 0], vm := .none },
  { cls := 6, slots := #[.null, .int 6, .int 0, .null, .int 0], vm := .none },
  { cls := 6, slots := #[.null, .int 7, .int 0, .null, .int 0], vm := .none },
  { cls := 6, slots := #[.null, .int 8, .int 0, .null, .int 0], vm := .none },
  { cls := 6, slots := #[.null, .int 9, .int 0, .null, .int 0], vm := .none },
  { cls := 7, slots := #[.null, .int 0, .int 0, .null], vm := .none },
  { cls := 7, slots := #[.null, .int 1, .int 0, .null], vm := .none },
  { cls := 7, slots := #[.null, .int 2, .int 0, .null], vm := .none },
  { cls := 7, slots := #[.null, .int 3, .int 0, .null], vm := .none }]
def classes : Array Class := #[k0, k1, k2, k3, k4, k5, k6, k7, k8, k9, k10, k11, k12, k13, k14]
def interned : List (Array UInt16 × Addr) := []
def slotsUsed : Nat := 82
def theMethod : MethodId := ⟨1, 1⟩
def args0 : Array Value := #[.int 5, .int 1]
def aboutOver (below : List Frame) : State where
  vm := { classes := classes, interned := interned.toArray }
  heap := heap
  slotsUsed := slotsUsed
  threads := #[{ frames := .invoking theMethod args0 :: below }]
def below0 : List Frame := [.native { method := ⟨0, 0⟩, args := #[] }]
def about1 : State := aboutOver below0
def p0 : Program := .bare "" "" ""
def e0 : Env := launch0.env 0 0 0
theorem w_frames : about1.frames = Frame.invoking theMethod args0 :: below0 := rfl
set_option maxRecDepth 65536 in
theorem w_args : argsFit about1.vm theMethod args0 = true := by decide +kernel
set_option maxRecDepth 65536 in
theorem w_heap : heapFits about1 = true := by decide +kernel
set_option maxRecDepth 65536 in
theorem w_runnable : about1.curStatus? = some .runnable := by decide +kernel
set_option maxRecDepth 65536 in
theorem w_alone : about1.alone = true := by decide +kernel
set_option maxRecDepth 65536 in
theorem w_named : about1.methodNamed? x = some theMethod := by decide +kernel
set_option maxRecDepth 65536 in
theorem w_hears : about1.hears theMethod below0 = true := by decide +kernel
set_option maxRecDepth 65536 in
theorem w_ripe : about1.ripe theMethod args0 below0 = true := by decide +kernel
theorem w_running : about1.status = .running := rfl
set_option maxRecDepth 65536 in
theorem w_room : about1.hasRoom e0.platform room_1 = true :=
  launch0.hasRoom_least _ room_1 (by decide +kernel) (by decide +kernel) (by decide +kernel) (by decide +kernel) (by decide +kernel) (by decide +kernel)
theorem allAtoms_all (ts : List Jvm.Cond) (a : Array Jvm.Value) (st : Jvm.State) : (allAtoms ts).before a st = ts.all (fun c => c.before a st) := by
  induction ts with
  | nil => rfl
  | cons c t ih =>
    show (Jvm.Cond.and c (allAtoms t)).before a st = _
    rw [Jvm.Cond.before_and, ih, List.all_cons]
def words1 : List Jvm.Cond := Jvm.Cond.code x code maxLocals ret :: tables_1
/-- a 'code' word, met by the world's own term for the bytes: nothing is compared byte by byte -/
theorem code_word {y : MethodName} {bytes : ByteArray} {mx : Nat} {rt : Option FieldType} {a : Array Value} {s : State} {m : MethodId} {meth : Method} {c : Code} (h1 : s.methodNamed? y = some m) (h2 : s.vm.method? m = some meth) (h3 : meth.code = some c) (h4 : c.code = bytes)
    (h5 : (c.maxLocals == mx && c.exceptionTable.isEmpty && decide (c.maxStack ≤ mostOperands) && decide (meth.sig.returnType = rt) && !meth.locks && decide (parseMethodDescriptor y.desc = some meth.sig)) = true) : (Jvm.Cond.code y bytes mx rt).before a s = true := by
  simp only [Bool.and_eq_true, beq_iff_eq, Bool.not_eq_true', decide_eq_true_eq] at h5
  obtain ⟨⟨⟨⟨⟨g1, g2⟩, g3⟩, g4⟩, g5⟩, g6⟩ := h5
  simp [Cond.before, Cond.holds, Cond.value, h1, h2, h3, h4, g1, g2, g3, g4, g5, g6]
def isCode : Jvm.Cond → Bool
  | .code _ _ _ _ => true
  | _ => false
theorem all_split {L : List Jvm.Cond} {P : Jvm.Cond → Bool} (h1 : L.all (fun c => isCode c || P c) = true) (h2 : ∀ c ∈ L.filter isCode, P c = true) : L.all P = true := by
  refine List.all_eq_true.mpr fun c hc => ?_
  have h := List.all_eq_true.mp h1 c hc
  rcases Bool.eq_false_or_eq_true (isCode c) with hi | hi
  · exact h2 c (List.mem_filter.mpr ⟨hc, hi⟩)
  · simpa [hi] using h
set_option maxRecDepth 65536 in
theorem w_c0 : (Jvm.Cond.code x code maxLocals ret).before args0 about1 = true := code_word (m := ⟨1, 1⟩) (meth := k1m1) (c := k1c1) (by decide +kernel) rfl rfl rfl (by decide +kernel)
set_option maxRecDepth 65536 in
theorem w_c1 : (Jvm.Cond.code ({ cls := "io/github/countersign/VerdictIsValidPinLaw", name := "refusalAt", desc := "(I)Lio/github/countersign/Refusal;" } : Jvm.MethodName) method_3_code (1 : Nat) (Option.some (Jvm.ClassFile.FieldType.object "io/github/countersign/Refusal"))).before args0 about1 = true := code_word (m := ⟨1, 2⟩) (meth := k1m2) (c := k1c2) (by decide +kernel) rfl rfl rfl (by decide +kernel)
set_option maxRecDepth 65536 in
theorem w_c2 : (Jvm.Cond.code ({ cls := "io/github/countersign/VerdictIsValidPinLaw", name := "headerAt", desc := "(I)Lio/github/countersign/Header;" } : Jvm.MethodName) method_4_code (1 : Nat) (Option.some (Jvm.ClassFile.FieldType.object "io/github/countersign/Header"))).before args0 about1 = true := code_word (m := ⟨1, 3⟩) (meth := k1m3) (c := k1c3) (by decide +kernel) rfl rfl rfl (by decide +kernel)
set_option maxRecDepth 65536 in
theorem w_c3 : (Jvm.Cond.code ({ cls := "io/github/countersign/Verdict", name := "<init>", desc := "(Lio/github/countersign/Refusal;Lio/github/countersign/Header;)V" } : Jvm.MethodName) prog_22_method_1_code (4 : Nat) (Option.none : Option Jvm.ClassFile.FieldType)).before args0 about1 = true := code_word (m := ⟨9, 0⟩) (meth := k9m0) (c := k9c0) (by decide +kernel) rfl rfl rfl (by decide +kernel)
set_option maxRecDepth 65536 in
theorem w_c4 : (Jvm.Cond.code ({ cls := "java/lang/Record", name := "<init>", desc := "()V" } : Jvm.MethodName) jdk_30_method_1_code (1 : Nat) (Option.none : Option Jvm.ClassFile.FieldType)).before args0 about1 = true := code_word (m := ⟨8, 0⟩) (meth := k8m0) (c := k8c0) (by decide +kernel) rfl rfl rfl (by decide +kernel)
set_option maxRecDepth 65536 in
theorem w_c5 : (Jvm.Cond.code ({ cls := "java/lang/Object", name := "<init>", desc := "()V" } : Jvm.MethodName) object_method_1_code (1 : Nat) (Option.none : Option Jvm.ClassFile.FieldType)).before args0 about1 = true := code_word (m := ⟨0, 0⟩) (meth := k0m0) (c := k0c0) (by decide +kernel) rfl rfl rfl (by decide +kernel)
set_option maxRecDepth 65536 in
theorem w_c6 : (Jvm.Cond.code ({ cls := "io/github/countersign/Refusal", name := "namesHeader", desc := "()Z" } : Jvm.MethodName) prog_10_method_5_code (1 : Nat) (Option.some Jvm.ClassFile.FieldType.boolean)).before args0 about1 = true := code_word (m := ⟨6, 0⟩) (meth := k6m0) (c := k6c0) (by decide +kernel) rfl rfl rfl (by decide +kernel)
set_option maxRecDepth 65536 in
theorem w_c7 : (Jvm.Cond.code ({ cls := "io/github/countersign/Verdict", name := "isValid", desc := "()Z" } : Jvm.MethodName) prog_22_method_2_code (1 : Nat) (Option.some Jvm.ClassFile.FieldType.boolean)).before args0 about1 = true := code_word (m := ⟨9, 1⟩) (meth := k9m1) (c := k9c1) (by decide +kernel) rfl rfl rfl (by decide +kernel)
def codes1 : List Jvm.Cond := [Jvm.Cond.code x code maxLocals ret, Jvm.Cond.code ({ cls := "io/github/countersign/VerdictIsValidPinLaw", name := "refusalAt", desc := "(I)Lio/github/countersign/Refusal;" } : Jvm.MethodName) method_3_code (1 : Nat) (Option.some (Jvm.ClassFile.FieldType.object "io/github/countersign/Refusal")), Jvm.Cond.code ({ cls := "io/github/countersign/VerdictIsValidPinLaw", name := "headerAt", desc := "(I)Lio/github/countersign/Header;" } : Jvm.MethodName) method_4_code (1 : Nat) (Option.some (Jvm.ClassFile.FieldType.object "io/github/countersign/Header")), Jvm.Cond.code ({ cls := "io/github/countersign/Verdict", name := "<init>", desc := "(Lio/github/countersign/Refusal;Lio/github/countersign/Header;)V" } : Jvm.MethodName) prog_22_method_1_code (4 : Nat) (Option.none : Option Jvm.ClassFile.FieldType), Jvm.Cond.code ({ cls := "java/lang/Record", name := "<init>", desc := "()V" } : Jvm.MethodName) jdk_30_method_1_code (1 : Nat) (Option.none : Option Jvm.ClassFile.FieldType), Jvm.Cond.code ({ cls := "java/lang/Object", name := "<init>", desc := "()V" } : Jvm.MethodName) object_method_1_code (1 : Nat) (Option.none : Option Jvm.ClassFile.FieldType), Jvm.Cond.code ({ cls := "io/github/countersign/Refusal", name := "namesHeader", desc := "()Z" } : Jvm.MethodName) prog_10_method_5_code (1 : Nat) (Option.some Jvm.ClassFile.FieldType.boolean), Jvm.Cond.code ({ cls := "io/github/countersign/Verdict", name := "isValid", desc := "()Z" } : Jvm.MethodName) prog_22_method_2_code (1 : Nat) (Option.some Jvm.ClassFile.FieldType.boolean)]
set_option maxRecDepth 65536 in
theorem codes_eq : words1.filter isCode = codes1 := rfl
theorem w_codes : ∀ c ∈ words1.filter isCode, c.before args0 about1 = true := by
  rw [codes_eq]
  intro c hc
  simp only [codes1, List.mem_cons, List.not_mem_nil, or_false] at hc
  rcases hc with rfl | rfl | rfl | rfl | rfl | rfl | rfl | rfl
  · exact w_c0
  · exact w_c1
  · exact w_c2
  · exact w_c3
  · exact w_c4
  · exact w_c5
  · exact w_c6
  · exact w_c7
set_option maxRecDepth 65536 in
theorem w_t1 : (words1.take 24).all (fun c => isCode c || c.before args0 about1) = true := by decide +kernel
set_option maxRecDepth 65536 in
theorem w_t2 : ((words1.drop 24).take 24).all (fun c => isCode c || c.before args0 about1) = true := by decide +kernel
set_option maxRecDepth 65536 in
theorem w_t3 : ((words1.drop 24).drop 24).all (fun c => isCode c || c.before args0 about1) = true := by decide +kernel
theorem w_tables : (allAtoms (Jvm.Cond.code x code maxLocals ret :: tables_1)).before args0 about1 = true := by
  rw [allAtoms_all]
  show words1.all (fun c => c.before args0 about1) = true
  refine all_split ?_ w_codes
  rw [← List.take_append_drop 24 words1, List.all_append, w_t1, ← List.take_append_drop 24 (words1.drop 24), List.all_append, w_t2, w_t3]
  rfl
set_option maxRecDepth 65536 in
theorem w_case : (Jvm.Cond.and given_1 narrow_1).before args0 about1 = true := by decide +kernel
theorem w_applies : (headSpec (Jvm.Cond.code x code maxLocals ret :: tables_1) room_1).applies x e0.platform about1 = true :=
  (Spec.applies_iff w_frames).mpr ⟨w_running, w_runnable, w_alone, w_named, w_hears, w_ripe, w_room, w_tables⟩
theorem atStart : AtStart classFile x code maxLocals ret World_1 tables_1 room_1 Calls_1 rest_1 Pre_1 launch0 p0 e0 about1 theMethod args0 below0 :=
  ⟨lists_1, trivial, launch0.admits_env _ _ _, launch0.least_env, fairChoices_fair.cas, fairChoices_fair.clock, w_frames, w_args, w_heap, w_applies, trivial, trivial, w_case⟩
end start1
theorem witness_1 : WitnessClaimed_1 := ⟨start1.p0, start1.e0, start1.about1, start1.theMethod, start1.args0, start1.below0, start1.atStart⟩
end Jvm.Pilot.@@N@@
