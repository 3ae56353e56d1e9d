import JvmDerived
import JvmDerived.Pilot.@@N@@Statement
import JvmDerived.Pilot.@@N@@Code
set_option linter.unusedVariables false
set_option linter.unusedSimpArgs false
namespace Jvm.RoadKit
open Sem ClassFile Op Lib Jvm.Stand Jvm.Free Jvm.LawKit
section Own
variable {p : Program} {l : Launch} {e : Env} {R : Room} {s : State} {m : MethodId} {args : Array Value} {below : List Frame} {meth : Method} {c : Code} {T : State} {locs : List Loc} {cells slots : Nat}
theorem retI (X : Stand p l e R s m args below meth c T locs cells slots) (hx : p.tables.exec = Jvm.exec) {pc : Nat} {Ls : Array Slot} {z : Int32} {rest : List Value} (hret : meth.sig.returnType = some .int) (hd : decode c.code pc = .ok (.ireturn, 1)) {fs : List Frame}
    (hl : ∀ (f : JFrame) (acts : List Action), f.method = m → f.locked = none → f.entered = [] → (doReturn e (T.setTop f) acts (some (.int z))).1 = T.setFrames fs) : Steps p.tables e below (T.setTop (mkF m pc Ls (.int z :: rest))) (T.setFrames fs) := by
  have hm' : T.vm.method? m = some meth := X.method'
  have hn : narrow .int (.int z) = .int z := rfl
  show Steps p.tables e below (T.setTop { method := m, pc := pc, locals := Ls, stack := _ :: rest, locked := none }) _
  jvm_step X.here [X.here.top, hx, hd, hm', hret, hn]
  first | (intro acts; rw [hl _ acts rfl rfl rfl]) | rw [hl _ _ rfl rfl rfl]
  exact Steps.refl _
/-- the walk from S ends as K says -/
def Way (tb : Tables) (e : Env) (below : List Frame) (K : Outcome → State → Prop) (S : State) : Prop := ∃ s₂ o, Steps tb e below S s₂ ∧ s₂.status = .running ∧ Ended s₂ below o ∧ K o s₂
theorem Way.by {tb : Tables} {K : Outcome → State → Prop} {A B : State} (st : ∀ t, Steps tb e below B t → Steps tb e below A t) (h : Way tb e below K B) : Way tb e below K A := by
  obtain ⟨s₂, o, h1, h2⟩ := h; exact ⟨s₂, o, st _ h1, h2⟩
theorem Way.to {tb : Tables} {K : Outcome → State → Prop} {A B : State} (st : Steps tb e below A B) (h : Way tb e below K B) : Way tb e below K A := by
  obtain ⟨s₂, o, h1, h2⟩ := h; exact ⟨s₂, o, st.trans h1, h2⟩
abbrev KQ (s : State) (Q : Option Value → Heap → List Loc → Prop) (C S : Nat) : Outcome → State → Prop := fun o s₂ => ∃ v L, o = .returned v ∧ Q v s₂.heap L ∧ FrameEnd s o s₂ L C S
theorem Way.ret {Q : Option Value → Heap → List Loc → Prop} {C S : Nat} {A : State} {v : Option Value} (X : Stand p l e R s m args below meth c T locs cells slots) (hlk : meth.locks = false) (hv : meth.sig.returnType = none → v = none)
    (hret : ∀ fs, (∀ (f : JFrame) (acts : List Action), f.method = m → f.locked = none → f.entered = [] → (doReturn e (T.setTop f) acts v).1 = T.setFrames fs) → Steps p.tables e below A (T.setFrames fs))
    (hQ : Q v T.heap locs) (hc : cells ≤ C) (hs : slots ≤ S) : Way p.tables e below (KQ s Q C S) A := by
  obtain ⟨fs, hr, hrun, hended, hW, hsame⟩ := X.leave hv hlk
  exact ⟨_, _, hret fs hr, hrun, hended, _, _, rfl, hQ, ⟨_, rfl⟩, hW, hsame.mono hc hs⟩
abbrev KQW (s : State) (Q : Option Value → Heap → List Loc → Prop) (C S : Nat) : Outcome → State → Prop := fun o s₂ => ∃ v L, o = .returned v ∧ Q v s₂.heap L ∧ ReturnedEndW s o s₂ L C S
theorem Way.retW {Q : Option Value → Heap → List Loc → Prop} {C S : Nat} {A : State} {v : Option Value} {vm1 : Vm} {n : Nat} (X : Stand p l e R (s.setVm vm1) m args below meth c T locs cells slots) (hS : s.Since vm1 n) (hn : n ≤ T.heap.size) (hlk : meth.locks = false) (hv : meth.sig.returnType = none → v = none)
    (hret : ∀ fs, (∀ (f : JFrame) (acts : List Action), f.method = m → f.locked = none → f.entered = [] → (doReturn e (T.setTop f) acts v).1 = T.setFrames fs) → Steps p.tables e below A (T.setFrames fs))
    (hQ : Q v T.heap locs) (hc : cells ≤ C) (hs : slots ≤ S) : Way p.tables e below (KQW s Q C S) A := by
  obtain ⟨fs, hr, hrun, hended, h1, h2, h3, h4⟩ := X.leaveW hS hn hv hlk
  exact ⟨_, _, hret fs hr, hrun, hended, _, _, rfl, hQ, h1, h2, h3, h4.mono hc hs⟩
abbrev KQH (s Z : State) (EL : List (String × Nat)) (Q : Option Value → Heap → List Loc → Prop) (C S : Nat) : Outcome → State → Prop := fun o s₂ => ∃ v L, o = .returned v ∧ Q v s₂.heap L ∧ CHr Z EL s.vm s.heap s₂.vm s₂.heap ∧ ReturnedEndW s o s₂ L C S
theorem Way.retH {Z : State} {a0 : Array Value} {EL : List (String × Nat)} {Q : Option Value → Heap → List Loc → Prop} {C S : Nat} {A : State} {v : Option Value} {vm1 : Vm} {n : Nat} {h h0 : Heap} (X : Stand p l e R (s.setVm vm1) m args below meth c T locs cells slots) (hS : s.Since vm1 n) (hn : n ≤ T.heap.size) (hZ : Z.Warmed39 vm1) (hEL : EW Z a0 EL) (hh : s.heap = h0) (eT : T.heap = h) (H : CHv Z EL vm1 h) (CH : CHr Z EL s.vm h0 vm1 h) (hlk : meth.locks = false) (hv : meth.sig.returnType = none → v = none)
    (hret : ∀ fs, (∀ (f : JFrame) (acts : List Action), f.method = m → f.locked = none → f.entered = [] → (doReturn e (T.setTop f) acts v).1 = T.setFrames fs) → Steps p.tables e below A (T.setFrames fs))
    (hQ : Q v T.heap locs) (hc : cells ≤ C) (hs : slots ≤ S) : Way p.tables e below (KQH s Z EL Q C S) A := by
  obtain ⟨fs, hr, hrun, hended, h1, h2, h3, h4⟩ := X.leaveW hS hn hv hlk
  refine ⟨_, _, hret fs hr, hrun, hended, _, _, rfl, hQ, ?_, h1, h2, h3, h4.mono hc hs⟩
  have B := CHv.at X hZ hEL H
  show CHr Z EL s.vm s.heap T.vm T.heap
  rw [hh, eT]; exact CH.trans B
theorem fldStart {Z : State} {args : Array Value} {t : Term} {a : Addr} {C n d : String} {k : Int32} (ev : t.eval args Z none [] Z = some (.ref a)) (h : (Cond.eq (.field t C n d) (.int k)).value args Z none Z [] = some true) : Fld Z Z.heap a C n d (.int k) := by
  refine Fld.start ?_
  have e1 : (Term.field t C n d).eval args Z none [] Z = Z.fieldOf? a C n d := fld_at ev
  simp only [Cond.value] at h
  rw [e1, show (Term.int k).eval args Z none [] Z = some (.int k) from rfl] at h
  cases hf : Z.fieldOf? a C n d with
  | none => simp [hf] at h
  | some w => cases w <;> simp [hf] at h ⊢; exact h
theorem remB (x d : Int32) (D : Int) (hd : d.toInt = D) (h0 : 0 < D) : 0 ≤ ((x &&& 2147483647) % d).toInt ∧ ((x &&& 2147483647) % d).toInt < D := by
  have h1 := c_and x 2147483647 (by decide)
  rw [(c_irem (x &&& 2147483647) d D hd).1 h1.1]
  exact ⟨Int.emod_nonneg _ (by omega), Int.emod_lt_of_pos _ h0⟩
theorem cases3 {k : Int32} (h : 0 ≤ k.toInt ∧ k.toInt < 3) : k = 0 ∨ k = 1 ∨ k = 2 := by
  have q : k.toInt = 0 ∨ k.toInt = 1 ∨ k.toInt = 2 := by omega
  rcases q with q | q | q
  · exact Or.inl (Int32.toInt_inj.mp q)
  · exact Or.inr (Or.inl (Int32.toInt_inj.mp q))
  · exact Or.inr (Or.inr (Int32.toInt_inj.mp q))
theorem cases5 {k : Int32} (h : 0 ≤ k.toInt ∧ k.toInt < 5) : k = 0 ∨ k = 1 ∨ k = 2 ∨ k = 3 ∨ k = 4 := by
  have q : k.toInt = 0 ∨ k.toInt = 1 ∨ k.toInt = 2 ∨ k.toInt = 3 ∨ k.toInt = 4 := by omega
  rcases q with q | q | q | q | q
  · exact Or.inl (Int32.toInt_inj.mp q)
  · exact Or.inr (Or.inl (Int32.toInt_inj.mp q))
  · exact Or.inr (Or.inr (Or.inl (Int32.toInt_inj.mp q)))
  · exact Or.inr (Or.inr (Or.inr (Or.inl (Int32.toInt_inj.mp q))))
  · exact Or.inr (Or.inr (Or.inr (Or.inr (Int32.toInt_inj.mp q))))
theorem nfSel {s : State} {args : Array Value} {C : String} {y z : MethodName} (hyz : z.cls = y.cls) (hsel : (Cond.selects C z z).before args s = true) : NotFace s y := fun r0 h0 => by
  obtain ⟨c, r, m, -, -, hn, -, mk, hk, hni⟩ := Cond.selects_spec hsel
  have e1 := findClass_of_methodNamed h0
  have e2 := findClass_of_methodNamed hn
  rw [hyz, e1] at e2
  refine ⟨mk, ?_, hni⟩
  first | (rw [Option.some.inj e2]; exact hk) | (rw [← Option.some.inj e2]; exact hk)
theorem sameOwn {s : State} {args : Array Value} {C : String} {y z : MethodName} (hyz : z.cls = y.cls) (hsel : (Cond.selects C z z).before args s = true) (hinst : (Cond.instanceMethod y).before args s = true) (hy : y.cls ≠ "java/lang/invoke/MethodHandle" ∧ y.cls ≠ "java/lang/invoke/VarHandle") : (Cond.sameMethod y.cls y.cls y.name y.desc).before args s = true := by
  obtain ⟨mk, methM, hnamed, -⟩ := Cond.instanceMethod_spec hinst
  obtain ⟨kr, hk, hni⟩ := nfSel hyz hsel mk hnamed
  have hf := State.methodFound?_of_named hnamed hy
  have hc := findClass_of_methodNamed hnamed
  have hn2 : s.methodNamed? ⟨y.cls, y.name, y.desc⟩ = some mk := hnamed
  simp [Cond.before, Cond.holds, Cond.value, hc, hf, hn2, hk, hni]
theorem selPriv {s : State} {args : Array Value} {C : String} {y z : MethodName} (hyz : z.cls = y.cls) (hsel : (Cond.selects C z z).before args s = true) (hpriv : s.PrivateAt y) (hinst : (Cond.instanceMethod y).before args s = true) (hy : y.cls ≠ "java/lang/invoke/MethodHandle" ∧ y.cls ≠ "java/lang/invoke/VarHandle") : (Cond.selects y.cls y y).before args s = true := by
  obtain ⟨c, r, m, -, -, hn, -, mk, hk, hni⟩ := Cond.selects_spec hsel
  exact selects_self_of_private (by rw [← hyz]; exact findClass_of_methodNamed hn) hk hni hpriv hinst hy
theorem cmpL0 (x y : Int64) : XT.cmpL x y = 0 ↔ x = y := by
  unfold XT.cmpL; split <;> (try split) <;> simp_all [Int64.lt_iff_toInt_lt, ← Int64.toInt_inj] <;> omega
theorem cmpLlt (x y : Int64) : XT.cmpL x y < 0 ↔ x < y := by
  unfold XT.cmpL; split <;> (try split) <;> simp_all [Int64.lt_iff_toInt_lt, ← Int64.toInt_inj] <;> omega
theorem cmpLgt (x y : Int64) : 0 < XT.cmpL x y ↔ y < x := by
  unfold XT.cmpL; split <;> (try split) <;> simp_all [Int64.lt_iff_toInt_lt, ← Int64.toInt_inj] <;> omega
theorem maskN (x : Int64) : ¬ (x &&& 9223372036854775807) < 0 := by
  rw [Int64.lt_iff_toInt_lt, c_maskL x 9223372036854775807 63 (by decide) (by decide)]
  have := Int.emod_nonneg x.toInt (b := ((2 ^ 63 : Nat) : Int)) (by decide)
  have h0 : (0 : Int64).toInt = 0 := by decide
  omega
end Own
end Jvm.RoadKit
namespace Jvm.Pilot.@@N@@
open Jvm Jvm.ClassFile Sem Op Lib Jvm.Free Jvm.Stand Jvm.LawKit Jvm.RoadKit Bundle Jvm.Pilot.@@N@@.Jvm.D
theorem tw {Z : State} {a0 : Array Value} (hw : ∀ d ∈ tables_1, d.before a0 Z = true) (i : Nat) {d : Jvm.Cond} (h : tables_1[i]? = some d) : d.before a0 Z = true := hw _ (List.mem_of_getElem? h)
theorem own_wS : ∀ d ∈ Bundle.stringAtoms, d ∈ tables_1 := by decide +kernel
def QR (Z : State) (pa : Addr) (pb : Addr) (h0 : Heap) (n0 : Nat) (v : Option Value) (h : Heap) (L : List Loc) : Prop := v = some (.ref pa) ∧ Fr n0 L ∧ h = h0
theorem dR_0 : decode jdk_31_method_11_code 0 = .ok (.aload_n 0, 1) := by decide +kernel
theorem dR_1 : decode jdk_31_method_11_code 1 = .ok (.ifnonnull 12, 3) := by decide +kernel
theorem dR_13 : decode jdk_31_method_11_code 13 = .ok (.aload_n 0, 1) := by decide +kernel
theorem dR_14 : decode jdk_31_method_11_code 14 = .ok (.areturn, 1) := by decide +kernel
theorem pnR : plainName "java/util/Objects" = true := by first | (simp [plainName, overriddenIn]; done) | decide +kernel
theorem pdR : parseMethodDescriptor "(Ljava/lang/Object;Ljava/lang/String;)Ljava/lang/Object;" = some ⟨[(.object "java/lang/Object"), (.object "java/lang/String")], some (.object "java/lang/Object")⟩ := by decide +kernel
set_option maxRecDepth 65536 in
set_option maxHeartbeats 40000000 in
theorem rmR (l : Launch) (Z : State) (a0 : Array Value) (hw : ∀ d ∈ tables_1, d.before a0 Z = true) (ws : List Jvm.Cond) (pa : Addr) (pb : Addr) (h0 : Heap) (n0 : Nat) (Z0 : n0 ≤ h0.size)  :
    MetFree l (⟨"java/util/Objects", "requireNonNull", "(Ljava/lang/Object;Ljava/lang/String;)Ljava/lang/Object;"⟩ : MethodName) (head1 (Jvm.Cond.code (⟨"java/util/Objects", "requireNonNull", "(Ljava/lang/Object;Ljava/lang/String;)Ljava/lang/Object;"⟩ : MethodName) jdk_31_method_11_code 2 (some (.object "java/lang/Object")) :: ws) ({ frames := 0, cells := 0, slots := 0, locals := 0 } : Room)) (fun aa U => aa = #[(.ref pa), (.ref pb)] ∧ Z.Warmed39 U.vm ∧ U.heap = h0) (fun _ _ _ _ _ => True) (fun _ U o U' => ∃ v L, o = .returned v ∧ QR Z pa pb h0 n0 v U'.heap L ∧ FrameEnd U o U' L ({ frames := 0, cells := 0, slots := 0, locals := 0 } : Room).cells ({ frames := 0, cells := 0, slots := 0, locals := 0 } : Room).slots) := by
  refine MetFree.of_bodySF (plainFor_of_name pnR) hisR ?_
  intro p e s m args below meth c s₁ Bd hml0 hP hK
  obtain ⟨rfl, hZ, hh⟩ := hP
  have hx := Bd.exec
  have hby := Bd.bytes
  have hlk : meth.locks = false := BodyLoose.notSynchronized Bd
  have hml : c.maxLocals = 2 := hml0
  have hown : s.vm.findClass "java/util/Objects" = some m.cls := findClass_of_methodNamed Bd.named
  have hnm := (name_of_methodNamed Bd.named Bd.method).1
  have X0 : Stand p l e ({ frames := 0, cells := 0, slots := 0, locals := 0 } : Room) s m #[(.ref pa), (.ref pb)] below meth c s₁ [] 0 0 := Stand.of_body Bd
  have e0 : s₁.heap = h0 := by rw [← hh, Bd.state]; rfl
  have N0 := Fr.nil n0
  have ef : entryFrame m #[(.ref pa), (.ref pb)] 2 = mkF m 0 #[rv pa, rv pb] [] := by first | (simp [entryFrame, mkF, argsToLocals, Value.category, maxLocals]; done) | rfl
  show Way p.tables e below (KQ s (QR Z pa pb h0 n0) ({ frames := 0, cells := 0, slots := 0, locals := 0 } : Room).cells ({ frames := 0, cells := 0, slots := 0, locals := 0 } : Room).slots) (s₁.setTop (entryFrame m #[(.ref pa), (.ref pb)] 2))
  rw [ef]
  refine Way.by (fun _ k => XS.aloadN X0.here hx rfl (hb hby dR_0) rfl rfl k) ?_
  show Way _ _ _ _ (s₁.setTop (mkF m 1 #[rv pa, rv pb] [(.ref pa)]))
  refine Way.by (fun _ k => XT.ifnonnullYes X0.here hx rfl (pc0 := 1) (pc' := 13) rfl (hb hby dR_1) rfl (by decide) (by decide) k) ?_
  show Way _ _ _ _ (s₁.setTop (mkF m 13 #[rv pa, rv pb] []))
  refine Way.by (fun _ k => XS.aloadN X0.here hx rfl (hb hby dR_13) rfl rfl k) ?_
  show Way _ _ _ _ (s₁.setTop (mkF m 14 #[rv pa, rv pb] [(.ref pa)]))
  refine Way.ret (v := (some (.ref pa))) X0 hlk (fun h => by rw [Bd.returns] at h; cases h) (fun fs hr => retOut X0 hx Bd.returns rfl (Or.inr (Or.inr (Or.inr (Or.inr ⟨rfl, rfl, rfl⟩)))) (hb hby dR_14) hr) ?_ (by decide) (by decide)
  show QR Z pa pb h0 n0 _ s₁.heap _
  rw [e0]
  exact ⟨rfl, N0, rfl⟩
def QB (Z : State) (pa : Addr) (pz : Int64) (ps : Addr) (uRETIRED : Addr) (h0 : Heap) (n0 : Nat) (v : Option Value) (h : Heap) (L : List Loc) : Prop := v = none ∧ Fr n0 L ∧ Keep h0 h [pa] ∧ Exa Z h pa "com/example/deduct/deduct/model/Bucket" ∧ Fld Z h pa "com/example/deduct/deduct/model/Bucket" "state" "Lcom/example/deduct/deduct/model/Bucket$State;" (.ref ps) ∧ Fld Z h pa "com/example/deduct/deduct/model/Bucket" "available" "J" (.long pz)
theorem dB_0 : decode prog_4_method_1_code 0 = .ok (.aload_n 0, 1) := by decide +kernel
theorem dB_1 : decode prog_4_method_1_code 1 = .ok (.invokespecial 1, 3) := by decide +kernel
theorem dB_4 : decode prog_4_method_1_code 4 = .ok (.aload_n 0, 1) := by decide +kernel
theorem dB_5 : decode prog_4_method_1_code 5 = .ok (.aload_n 3, 1) := by decide +kernel
theorem dB_6 : decode prog_4_method_1_code 6 = .ok (.ldc 7, 2) := by decide +kernel
theorem dB_8 : decode prog_4_method_1_code 8 = .ok (.invokestatic 9, 3) := by decide +kernel
theorem dB_11 : decode prog_4_method_1_code 11 = .ok (.checkcast 15, 3) := by decide +kernel
theorem dB_14 : decode prog_4_method_1_code 14 = .ok (.putfield 17, 3) := by decide +kernel
theorem dB_17 : decode prog_4_method_1_code 17 = .ok (.lload_n 1, 1) := by decide +kernel
theorem dB_18 : decode prog_4_method_1_code 18 = .ok (.lconst 0, 1) := by decide +kernel
theorem dB_19 : decode prog_4_method_1_code 19 = .ok (.lcmp, 1) := by decide +kernel
theorem dB_20 : decode prog_4_method_1_code 20 = .ok (.ifCond .lt 16, 3) := by decide +kernel
theorem dB_23 : decode prog_4_method_1_code 23 = .ok (.aload_n 3, 1) := by decide +kernel
theorem dB_24 : decode prog_4_method_1_code 24 = .ok (.getstatic 22, 3) := by decide +kernel
theorem dB_27 : decode prog_4_method_1_code 27 = .ok (.if_acmp .ne 27, 3) := by decide +kernel
theorem dB_30 : decode prog_4_method_1_code 30 = .ok (.lload_n 1, 1) := by decide +kernel
theorem dB_31 : decode prog_4_method_1_code 31 = .ok (.lconst 0, 1) := by decide +kernel
theorem dB_32 : decode prog_4_method_1_code 32 = .ok (.lcmp, 1) := by decide +kernel
theorem dB_33 : decode prog_4_method_1_code 33 = .ok (.ifCond .eq 21, 3) := by decide +kernel
theorem dB_54 : decode prog_4_method_1_code 54 = .ok (.aload_n 0, 1) := by decide +kernel
theorem dB_55 : decode prog_4_method_1_code 55 = .ok (.lload_n 1, 1) := by decide +kernel
theorem dB_56 : decode prog_4_method_1_code 56 = .ok (.putfield 38, 3) := by decide +kernel
theorem dB_59 : decode prog_4_method_1_code 59 = .ok (.return_, 1) := by decide +kernel
theorem pnB : plainName "com/example/deduct/deduct/model/Bucket" = true := by first | (simp [plainName, overriddenIn]; done) | decide +kernel
theorem pdB : parseMethodDescriptor "(JLcom/example/deduct/deduct/model/Bucket$State;)V" = some ⟨[.long, (.object "com/example/deduct/deduct/model/Bucket$State")], none⟩ := by decide +kernel
set_option maxRecDepth 65536 in
set_option maxHeartbeats 40000000 in
theorem rmB (l : Launch) (Z : State) (a0 : Array Value) (hw : ∀ d ∈ tables_1, d.before a0 Z = true) (ws : List Jvm.Cond) (pa : Addr) (pz : Int64) (ps : Addr) (uRETIRED : Addr) (h0 : Heap) (n0 : Nat) (Z0 : n0 ≤ h0.size) (H0 : Exa Z h0 pa "com/example/deduct/deduct/model/Bucket") (H1 : Fld Z h0 pa "com/example/deduct/deduct/model/Bucket" "state" "Lcom/example/deduct/deduct/model/Bucket$State;" .null) (H2 : Fld Z h0 pa "com/example/deduct/deduct/model/Bucket" "available" "J" (.long (0 : Int64))) (hz : ¬ pz < 0) (hret : ps = uRETIRED → pz = 0) (ne_pa_ps : pa ≠ ps) (nw_pa : n0 ≤ pa) (O0 : Old Z n0 h0) (SRETIRED : Sta Z Z.heap "com/example/deduct/deduct/model/Bucket$State" "RETIRED" "Lcom/example/deduct/deduct/model/Bucket$State;" (.ref uRETIRED)) (ES : Exa Z Z.heap ps "com/example/deduct/deduct/model/Bucket$State") :
    MetFree l (⟨"com/example/deduct/deduct/model/Bucket", "<init>", "(JLcom/example/deduct/deduct/model/Bucket$State;)V"⟩ : MethodName) (head1 (Jvm.Cond.code (⟨"com/example/deduct/deduct/model/Bucket", "<init>", "(JLcom/example/deduct/deduct/model/Bucket$State;)V"⟩ : MethodName) prog_4_method_1_code 4 none :: ws) ({ frames := 1, cells := 2, slots := 24, locals := 14 } : Room)) (fun aa U => aa = #[(.ref pa), (.long pz), (.ref ps)] ∧ Z.Warmed39 U.vm ∧ U.heap = h0) (fun _ _ _ _ _ => True) (fun _ U o U' => ∃ v L, o = .returned v ∧ QB Z pa pz ps uRETIRED h0 n0 v U'.heap L ∧ ReturnedEndW U o U' L ({ frames := 1, cells := 2, slots := 24, locals := 14 } : Room).cells ({ frames := 1, cells := 2, slots := 24, locals := 14 } : Room).slots) := by
  refine MetFree.of_bodySF (plainFor_of_name pnB) hisR ?_
  intro p e s m args below meth c s₁ Bd hml0 hP hK
  obtain ⟨rfl, hZ, hh⟩ := hP
  have hx := Bd.exec
  have hby := Bd.bytes
  have hlk : meth.locks = false := BodyLoose.notSynchronized Bd
  have hml : c.maxLocals = 4 := hml0
  have hown : s.vm.findClass "com/example/deduct/deduct/model/Bucket" = some m.cls := findClass_of_methodNamed Bd.named
  have hnm := (name_of_methodNamed Bd.named Bd.method).1
  have X0 : Stand p l e ({ frames := 1, cells := 2, slots := 24, locals := 14 } : Room) s m #[(.ref pa), (.long pz), (.ref ps)] below meth c s₁ [] 0 0 := Stand.of_body Bd
  have e0 : s₁.heap = h0 := by rw [← hh, Bd.state]; rfl
  have N0 := Fr.nil n0
  have ef : entryFrame m #[(.ref pa), (.long pz), (.ref ps)] 4 = mkF m 0 #[rv pa, .val (.long pz), .second, rv ps] [] := by first | (simp [entryFrame, mkF, argsToLocals, Value.category, maxLocals]; done) | rfl
  have XW : Stand p l e ({ frames := 1, cells := 2, slots := 24, locals := 14 } : Room) (s.setVm s.vm) m #[(.ref pa), (.long pz), (.ref ps)] below meth c s₁ [] 0 0 := X0
  have hS0 : s.Since s.vm 0 := (State.WarmedH.refl s).since 0
  have hZ0 : Z.Warmed39 (s.setVm s.vm).vm := hZ
  have hown0 : (s.setVm s.vm).vm.findClass "com/example/deduct/deduct/model/Bucket" = some m.cls := hown
  have wS : ∀ d ∈ Bundle.stringAtoms, d.before a0 Z = true := fun d hd => hw d (own_wS d hd)
  show Way p.tables e below (KQW s (QB Z pa pz ps uRETIRED h0 n0) ({ frames := 1, cells := 2, slots := 24, locals := 14 } : Room).cells ({ frames := 1, cells := 2, slots := 24, locals := 14 } : Room).slots) (s₁.setTop (entryFrame m #[(.ref pa), (.long pz), (.ref ps)] 4))
  rw [ef]
  have HS := Exa.ext O0.2 ES
  refine Way.by (fun _ k => XS.aloadN XW.here hx rfl (hb hby dB_0) rfl rfl k) ?_
  show Way _ _ _ _ (s₁.setTop (mkF m 1 #[rv pa, .val (.long pz), .second, rv ps] [(.ref pa)]))
  obtain ⟨T1, X2, e3, st4⟩ := initO XW hx hZ0 hown0 (tw hw 9 rfl) (tw hw 10 rfl) (tw hw 11 rfl) e0 (g := (mkF m 1 #[rv pa, .val (.long pz), .second, rv ps] [(.ref pa)])) rfl (by rw [hml]; rfl) rfl (hb hby dB_1) (by decide) (W := 0) (by show 2 * 0 + _ ≤ _; exact Nat.le_of_eq rfl) (by decide)
  refine Way.by st4 ?_
  show Way _ _ _ _ (T1.setTop (mkF m 4 #[rv pa, .val (.long pz), .second, rv ps] []))
  refine Way.by (fun _ k => XS.aloadN X2.here hx rfl (hb hby dB_4) rfl rfl k) ?_
  show Way _ _ _ _ (T1.setTop (mkF m 5 #[rv pa, .val (.long pz), .second, rv ps] [(.ref pa)]))
  refine Way.by (fun _ k => XS.aloadN X2.here hx rfl (hb hby dB_5) rfl rfl k) ?_
  show Way _ _ _ _ (T1.setTop (mkF m 6 #[rv pa, .val (.long pz), .second, rv ps] [(.ref ps), (.ref pa)]))
  obtain ⟨a5, T6, h7, k8, X9, e10, E11, hS12, hk13, hZ14, hown15, st16⟩ := ldcS X2 hx hZ0 hown0 (tw hw 12 rfl) wS e3 hS0 (Nat.zero_le _) (g := (mkF m 6 #[rv pa, .val (.long pz), .second, rv ps] [(.ref ps), (.ref pa)])) rfl (hb hby dB_6) (n := 20) (by decide) (by decide) (by decide) (by decide)
  have E17 := Exa.ext E11 H0
  have F18 := Fld.ext E11 H1
  have F19 := Fld.ext E11 H2
  have E20 := Exa.ext E11 HS
  have Z21 := Nat.le_trans Z0 E11.1
  have O22 := O0.ext E11
  have K23 := (Keep.refl h0 [pa]).ext E11
  have hz24 := Nat.le_trans (Nat.le_refl h0.size) E11.1
  refine Way.by st16 ?_
  show Way _ _ _ _ (T6.setTop (mkF m 8 #[rv pa, .val (.long pz), .second, rv ps] [(.ref a5), (.ref ps), (.ref pa)]))
  obtain ⟨_, _, ⟨T25, L27, k28, n29⟩, -, X26, ⟨Lc30, hQ31, l32, y33, z34⟩, st35⟩ := Jvm.LawKit.callS X9 hx (y := (⟨"java/util/Objects", "requireNonNull", "(Ljava/lang/Object;Ljava/lang/String;)Ljava/lang/Object;"⟩ : MethodName)) hown15 (mvT hZ14 (tw hw 20 rfl)) (mvT hZ14 (tw hw 21 rfl)) (mvT hZ14 (tw hw 22 rfl)) (mvT hZ14 (tw hw 23 rfl)) (by decide) (backOf (W := 1) (rmR l Z a0 hw [] ps a5 h7 n0 Z21 ) hZ14 (tw hw 23 rfl) (tw hw 22 rfl) (by decide) (by decide)) (g := (mkF m 8 #[rv pa, .val (.long pz), .second, rv ps] [(.ref a5), (.ref ps), (.ref pa)])) rfl (by rw [hml]; rfl) (argsL := [(.ref ps), (.ref a5)]) (rest := [(.ref pa)]) (lenOf pdR rfl) rfl (by show 2 * 0 + _ ≤ _; exact Nat.le_of_eq rfl) (hb hby dB_8) (fun _ _ => ⟨rfl, e10, (Nat.le_of_ble_eq_true rfl), (Nat.le_of_ble_eq_true rfl)⟩)
  dsimp only [Pt.U, Pt.locs, Pt.cells, Pt.slots] at X26 l32 y33 z34 st35 hQ31
  subst l32 y33 z34
  obtain ⟨rfl, N41, e37⟩ := hQ31
  have N36 := Fr.app N0 N41
  refine Way.by st35 ?_
  show Way _ _ _ _ (T25.setTop (mkF m 11 #[rv pa, .val (.long pz), .second, rv ps] [(.ref ps), (.ref pa)]))
  obtain ⟨T43, X44, e45, st46⟩ := castY X26 hx hZ14 hown15 (tw hw 24 rfl) e37 (Ins.self E20) (g := (mkF m 11 #[rv pa, .val (.long pz), .second, rv ps] [(.ref ps), (.ref pa)])) rfl rfl (hb hby dB_11)
  refine Way.by st46 ?_
  show Way _ _ _ _ (T43.setTop (mkF m 14 #[rv pa, .val (.long pz), .second, rv ps] [(.ref ps), (.ref pa)]))
  obtain ⟨T47, h48, X49, e50, W51, st52⟩ := putF X44 hx hZ14 hown15 (host := "") (Or.inl (tw hw 26 rfl)) Via.refl e45 F18 E17 (Or.inr ⟨(tw hw 27 rfl), rfl, hnm⟩) (tw hw 4 rfl) (ty := (.object "com/example/deduct/deduct/model/Bucket$State")) (by decide) rfl rfl (g := (mkF m 14 #[rv pa, .val (.long pz), .second, rv ps] [(.ref ps), (.ref pa)])) rfl rfl (hb hby dB_14)
  have N53 := Fr.snoc X49 N36 nw_pa
  have E54 := Exa.wr W51 E17
  have F55 : Fld Z h48 pa "com/example/deduct/deduct/model/Bucket" "state" "Lcom/example/deduct/deduct/model/Bucket$State;" (.ref ps) := F18.same W51
  have F56 := F19.other W51 (Or.inr (slot_ne (Or.inr (tw hw 30 rfl)) (Or.inr (tw hw 27 rfl)) (by decide) (t := .long) (t' := (.object "com/example/deduct/deduct/model/Bucket$State")) (by decide) (by decide)))
  have E57 := Exa.wr W51 E20
  have Z58 : n0 ≤ h48.size := by rw [W51.size]; exact Z21
  have hk59 := Nat.le_trans hk13 (Nat.le_of_eq W51.size.symm)
  have O60 := O22.wr W51 nw_pa
  have K61 := K23.wr W51 (Or.inl (List.mem_of_getElem? (i := 0) rfl))
  have hz62 : h0.size ≤ h48.size := by rw [W51.size]; exact hz24
  refine Way.by st52 ?_
  show Way _ _ _ _ (T47.setTop (mkF m 17 #[rv pa, .val (.long pz), .second, rv ps] []))
  refine Way.by (fun _ k => XT.lloadN X49.here hx rfl (hb hby dB_17) rfl k) ?_
  show Way _ _ _ _ (T47.setTop (mkF m 18 #[rv pa, .val (.long pz), .second, rv ps] [(.long pz)]))
  refine Way.by (fun _ k => XT.lconst X49.here hx rfl (hb hby dB_18) k) ?_
  show Way _ _ _ _ (T47.setTop (mkF m 19 #[rv pa, .val (.long pz), .second, rv ps] [(.long (0 : Int64)), (.long pz)]))
  refine Way.by (fun _ k => XT.lcmp X49.here hx rfl (hb hby dB_19) rfl k) ?_
  show Way _ _ _ _ (T47.setTop (mkF m 20 #[rv pa, .val (.long pz), .second, rv ps] [(.int (XT.cmpL pz (0 : Int64)))]))
  have b63 : ¬ (XT.cmpL pz (0 : Int64)) < (0 : Int32) := fun q => hz ((cmpLlt _ _).mp q)
  refine Way.by (fun _ k => XS.ifNo X49.here hx rfl (hb hby dB_20) rfl ((if0 .lt _).trans (flt b63).1) k) ?_
  show Way _ _ _ _ (T47.setTop (mkF m 23 #[rv pa, .val (.long pz), .second, rv ps] []))
  refine Way.by (fun _ k => XS.aloadN X49.here hx rfl (hb hby dB_23) rfl rfl k) ?_
  show Way _ _ _ _ (T47.setTop (mkF m 24 #[rv pa, .val (.long pz), .second, rv ps] [(.ref ps)]))
  obtain ⟨T64, X65, e66, st67⟩ := getS X49 hx hZ14 hown15 (host := "") (tw hw 28 rfl) Via.refl e50 (Sta.ext O60.2 SRETIRED) (g := (mkF m 24 #[rv pa, .val (.long pz), .second, rv ps] [(.ref ps)])) rfl (hb hby dB_24)
  refine Way.by st67 ?_
  show Way _ _ _ _ (T64.setTop (mkF m 27 #[rv pa, .val (.long pz), .second, rv ps] [(.ref uRETIRED), (.ref ps)]))
  by_cases hq27 : ps = uRETIRED
  · skip
    refine Way.by (fun _ k => acmp X65 hx rfl rfl rfl (pc0 := 27) (pc' := 30) (same := true) rfl (hb hby dB_27) rfl (by simp [hq27]) (by decide) (by decide) k) ?_
    show Way _ _ _ _ (T64.setTop (mkF m 30 #[rv pa, .val (.long pz), .second, rv ps] []))
    refine Way.by (fun _ k => XT.lloadN X65.here hx rfl (hb hby dB_30) rfl k) ?_
    show Way _ _ _ _ (T64.setTop (mkF m 31 #[rv pa, .val (.long pz), .second, rv ps] [(.long pz)]))
    refine Way.by (fun _ k => XT.lconst X65.here hx rfl (hb hby dB_31) k) ?_
    show Way _ _ _ _ (T64.setTop (mkF m 32 #[rv pa, .val (.long pz), .second, rv ps] [(.long (0 : Int64)), (.long pz)]))
    refine Way.by (fun _ k => XT.lcmp X65.here hx rfl (hb hby dB_32) rfl k) ?_
    show Way _ _ _ _ (T64.setTop (mkF m 33 #[rv pa, .val (.long pz), .second, rv ps] [(.int (XT.cmpL pz (0 : Int64)))]))
    have b68 : (XT.cmpL pz (0 : Int64)) = (0 : Int32) := (cmpL0 _ _).mpr (hret hq27)
    refine Way.by (fun _ k => XS.ifYes X65.here hx rfl (pc0 := 33) (pc' := 54) rfl (hb hby dB_33) rfl ((if0 .eq _).trans (teq b68).1) (by decide) (by decide) k) ?_
    show Way _ _ _ _ (T64.setTop (mkF m 54 #[rv pa, .val (.long pz), .second, rv ps] []))
    refine Way.by (fun _ k => XS.aloadN X65.here hx rfl (hb hby dB_54) rfl rfl k) ?_
    show Way _ _ _ _ (T64.setTop (mkF m 55 #[rv pa, .val (.long pz), .second, rv ps] [(.ref pa)]))
    refine Way.by (fun _ k => XT.lloadN X65.here hx rfl (hb hby dB_55) rfl k) ?_
    show Way _ _ _ _ (T64.setTop (mkF m 56 #[rv pa, .val (.long pz), .second, rv ps] [(.long pz), (.ref pa)]))
    obtain ⟨T69, h70, X71, e72, W73, st74⟩ := putF X65 hx hZ14 hown15 (host := "") (Or.inl (tw hw 29 rfl)) Via.refl e66 F56 E54 (Or.inr ⟨(tw hw 30 rfl), rfl, hnm⟩) (tw hw 4 rfl) (ty := .long) (by decide) rfl rfl (g := (mkF m 56 #[rv pa, .val (.long pz), .second, rv ps] [(.long pz), (.ref pa)])) rfl rfl (hb hby dB_56)
    have N75 := Fr.snoc X71 N53 nw_pa
    have E76 := Exa.wr W73 E54
    have F77 := F55.other W73 (Or.inr (slot_ne (Or.inr (tw hw 27 rfl)) (Or.inr (tw hw 30 rfl)) (by decide) (t := (.object "com/example/deduct/deduct/model/Bucket$State")) (t' := .long) (by decide) (by decide)))
    have F78 : Fld Z h70 pa "com/example/deduct/deduct/model/Bucket" "available" "J" (.long pz) := F56.same W73
    have E79 := Exa.wr W73 E57
    have Z80 : n0 ≤ h70.size := by rw [W73.size]; exact Z58
    have hk81 := Nat.le_trans hk59 (Nat.le_of_eq W73.size.symm)
    have O82 := O60.wr W73 nw_pa
    have K83 := K61.wr W73 (Or.inl (List.mem_of_getElem? (i := 0) rfl))
    have hz84 : h0.size ≤ h70.size := by rw [W73.size]; exact hz62
    refine Way.by st74 ?_
    show Way _ _ _ _ (T69.setTop (mkF m 59 #[rv pa, .val (.long pz), .second, rv ps] []))
    refine Way.retW (v := none) X71 hS12 (by rw [e72]; exact hk81) hlk (fun _ => rfl) (fun fs hr => X71.returnOut hx Bd.returns (hb hby dB_59) hr) ?_ (by decide) (by decide)
    show QB Z pa pz ps uRETIRED h0 n0 _ T69.heap _
    rw [e72]
    exact ⟨rfl, N75, K83, E76, F77, F78⟩
  · skip
    refine Way.by (fun _ k => acmp X65 hx rfl rfl rfl (pc0 := 27) (pc' := 54) (same := false) rfl (hb hby dB_27) rfl (by simp [hq27]) (by decide) (by decide) k) ?_
    show Way _ _ _ _ (T64.setTop (mkF m 54 #[rv pa, .val (.long pz), .second, rv ps] []))
    refine Way.by (fun _ k => XS.aloadN X65.here hx rfl (hb hby dB_54) rfl rfl k) ?_
    show Way _ _ _ _ (T64.setTop (mkF m 55 #[rv pa, .val (.long pz), .second, rv ps] [(.ref pa)]))
    refine Way.by (fun _ k => XT.lloadN X65.here hx rfl (hb hby dB_55) rfl k) ?_
    show Way _ _ _ _ (T64.setTop (mkF m 56 #[rv pa, .val (.long pz), .second, rv ps] [(.long pz), (.ref pa)]))
    obtain ⟨T85, h86, X87, e88, W89, st90⟩ := putF X65 hx hZ14 hown15 (host := "") (Or.inl (tw hw 29 rfl)) Via.refl e66 F56 E54 (Or.inr ⟨(tw hw 30 rfl), rfl, hnm⟩) (tw hw 4 rfl) (ty := .long) (by decide) rfl rfl (g := (mkF m 56 #[rv pa, .val (.long pz), .second, rv ps] [(.long pz), (.ref pa)])) rfl rfl (hb hby dB_56)
    have N91 := Fr.snoc X87 N53 nw_pa
    have E92 := Exa.wr W89 E54
    have F93 := F55.other W89 (Or.inr (slot_ne (Or.inr (tw hw 27 rfl)) (Or.inr (tw hw 30 rfl)) (by decide) (t := (.object "com/example/deduct/deduct/model/Bucket$State")) (t' := .long) (by decide) (by decide)))
    have F94 : Fld Z h86 pa "com/example/deduct/deduct/model/Bucket" "available" "J" (.long pz) := F56.same W89
    have E95 := Exa.wr W89 E57
    have Z96 : n0 ≤ h86.size := by rw [W89.size]; exact Z58
    have hk97 := Nat.le_trans hk59 (Nat.le_of_eq W89.size.symm)
    have O98 := O60.wr W89 nw_pa
    have K99 := K61.wr W89 (Or.inl (List.mem_of_getElem? (i := 0) rfl))
    have hz100 : h0.size ≤ h86.size := by rw [W89.size]; exact hz62
    refine Way.by st90 ?_
    show Way _ _ _ _ (T85.setTop (mkF m 59 #[rv pa, .val (.long pz), .second, rv ps] []))
    refine Way.retW (v := none) X87 hS12 (by rw [e88]; exact hk97) hlk (fun _ => rfl) (fun fs hr => X87.returnOut hx Bd.returns (hb hby dB_59) hr) ?_ (by decide) (by decide)
    show QB Z pa pz ps uRETIRED h0 n0 _ T85.heap _
    rw [e88]
    exact ⟨rfl, N91, K99, E92, F93, F94⟩
def QV (Z : State) (pa : Addr) (ps : Addr) (pr : Int32) (uLIVE : Addr) (h0 : Heap) (n0 : Nat) (v : Option Value) (h : Heap) (L : List Loc) : Prop := v = some (.int pr) ∧ Fr n0 L ∧ h = h0
theorem dV_0 : decode prog_4_method_4_code 0 = .ok (.aload_n 0, 1) := by decide +kernel
theorem dV_1 : decode prog_4_method_4_code 1 = .ok (.getfield 17, 3) := by decide +kernel
theorem dV_4 : decode prog_4_method_4_code 4 = .ok (.getstatic 42, 3) := by decide +kernel
theorem dV_7 : decode prog_4_method_4_code 7 = .ok (.if_acmp .ne 7, 3) := by decide +kernel
theorem dV_10 : decode prog_4_method_4_code 10 = .ok (.iconst 1, 1) := by decide +kernel
theorem dV_11 : decode prog_4_method_4_code 11 = .ok (.goto 4, 3) := by decide +kernel
theorem dV_14 : decode prog_4_method_4_code 14 = .ok (.iconst 0, 1) := by decide +kernel
theorem dV_15 : decode prog_4_method_4_code 15 = .ok (.ireturn, 1) := by decide +kernel
theorem pnV : plainName "com/example/deduct/deduct/model/Bucket" = true := by first | (simp [plainName, overriddenIn]; done) | decide +kernel
theorem pdV : parseMethodDescriptor "()Z" = some ⟨[], some .boolean⟩ := by decide +kernel
set_option maxRecDepth 65536 in
set_option maxHeartbeats 40000000 in
theorem rmV (l : Launch) (Z : State) (a0 : Array Value) (hw : ∀ d ∈ tables_1, d.before a0 Z = true) (ws : List Jvm.Cond) (pa : Addr) (ps : Addr) (pr : Int32) (uLIVE : Addr) (h0 : Heap) (n0 : Nat) (Z0 : n0 ≤ h0.size) (H0 : Fld Z h0 pa "com/example/deduct/deduct/model/Bucket" "state" "Lcom/example/deduct/deduct/model/Bucket$State;" (.ref ps)) (hr : pr = if ps = uLIVE then 1 else 0) (O0 : Old Z n0 h0) (SLIVE : Sta Z Z.heap "com/example/deduct/deduct/model/Bucket$State" "LIVE" "Lcom/example/deduct/deduct/model/Bucket$State;" (.ref uLIVE)) :
    MetFree l (⟨"com/example/deduct/deduct/model/Bucket", "live", "()Z"⟩ : MethodName) (head1 (Jvm.Cond.code (⟨"com/example/deduct/deduct/model/Bucket", "live", "()Z"⟩ : MethodName) prog_4_method_4_code 1 (some .boolean) :: ws) ({ frames := 0, cells := 0, slots := 0, locals := 0 } : Room)) (fun aa U => aa = #[(.ref pa)] ∧ Z.Warmed39 U.vm ∧ U.heap = h0) (fun _ _ _ _ _ => True) (fun _ U o U' => ∃ v L, o = .returned v ∧ QV Z pa ps pr uLIVE h0 n0 v U'.heap L ∧ FrameEnd U o U' L ({ frames := 0, cells := 0, slots := 0, locals := 0 } : Room).cells ({ frames := 0, cells := 0, slots := 0, locals := 0 } : Room).slots) := by
  refine MetFree.of_bodySF (plainFor_of_name pnV) hisR ?_
  intro p e s m args below meth c s₁ Bd hml0 hP hK
  obtain ⟨rfl, hZ, hh⟩ := hP
  have hx := Bd.exec
  have hby := Bd.bytes
  have hlk : meth.locks = false := BodyLoose.notSynchronized Bd
  have hml : c.maxLocals = 1 := hml0
  have hown : s.vm.findClass "com/example/deduct/deduct/model/Bucket" = some m.cls := findClass_of_methodNamed Bd.named
  have hnm := (name_of_methodNamed Bd.named Bd.method).1
  have X0 : Stand p l e ({ frames := 0, cells := 0, slots := 0, locals := 0 } : Room) s m #[(.ref pa)] below meth c s₁ [] 0 0 := Stand.of_body Bd
  have e0 : s₁.heap = h0 := by rw [← hh, Bd.state]; rfl
  have N0 := Fr.nil n0
  have ef : entryFrame m #[(.ref pa)] 1 = mkF m 0 #[rv pa] [] := by first | (simp [entryFrame, mkF, argsToLocals, Value.category, maxLocals]; done) | rfl
  show Way p.tables e below (KQ s (QV Z pa ps pr uLIVE h0 n0) ({ frames := 0, cells := 0, slots := 0, locals := 0 } : Room).cells ({ frames := 0, cells := 0, slots := 0, locals := 0 } : Room).slots) (s₁.setTop (entryFrame m #[(.ref pa)] 1))
  rw [ef]
  refine Way.by (fun _ k => XS.aloadN X0.here hx rfl (hb hby dV_0) rfl rfl k) ?_
  show Way _ _ _ _ (s₁.setTop (mkF m 1 #[rv pa] [(.ref pa)]))
  obtain ⟨T1, X2, e3, st4⟩ := getF X0 hx hZ hown (host := "") (Or.inl (tw hw 26 rfl)) Via.refl e0 H0 (g := (mkF m 1 #[rv pa] [(.ref pa)])) rfl rfl (hb hby dV_1)
  refine Way.by st4 ?_
  show Way _ _ _ _ (T1.setTop (mkF m 4 #[rv pa] [(.ref ps)]))
  obtain ⟨T5, X6, e7, st8⟩ := getS X2 hx hZ hown (host := "") (tw hw 36 rfl) Via.refl e3 (Sta.ext O0.2 SLIVE) (g := (mkF m 4 #[rv pa] [(.ref ps)])) rfl (hb hby dV_4)
  refine Way.by st8 ?_
  show Way _ _ _ _ (T5.setTop (mkF m 7 #[rv pa] [(.ref uLIVE), (.ref ps)]))
  by_cases hq : ps = uLIVE
  · skip
    refine Way.by (fun _ k => acmp X6 hx rfl rfl rfl (pc0 := 7) (pc' := 10) (same := true) rfl (hb hby dV_7) rfl (by simp [hq]) (by decide) (by decide) k) ?_
    show Way _ _ _ _ (T5.setTop (mkF m 10 #[rv pa] []))
    refine Way.by (fun _ k => XS.iconst X6.here hx rfl (hb hby dV_10) k) ?_
    show Way _ _ _ _ (T5.setTop (mkF m 11 #[rv pa] [(.int 1)]))
    refine Way.by (fun _ k => XS.goto X6.here hx rfl (pc0 := 11) (pc' := 15) rfl (hb hby dV_11) (by decide) (by decide) k) ?_
    show Way _ _ _ _ (T5.setTop (mkF m 15 #[rv pa] [(.int 1)]))
    refine Way.ret (v := (some (.int (nar .boolean (1 : Int32))))) X6 hlk (fun h => by rw [Bd.returns] at h; cases h) (fun fs hr => retN X6 hx (t := .boolean) Bd.returns (by simp) (hb hby dV_15) hr) ?_ (by decide) (by decide)
    show QV Z pa ps pr uLIVE h0 n0 _ T5.heap _
    rw [e7]
    exact ⟨by rw [hr]; simp [hq]; rfl, N0, rfl⟩
  · skip
    refine Way.by (fun _ k => acmp X6 hx rfl rfl rfl (pc0 := 7) (pc' := 14) (same := false) rfl (hb hby dV_7) rfl (by simp [hq]) (by decide) (by decide) k) ?_
    show Way _ _ _ _ (T5.setTop (mkF m 14 #[rv pa] []))
    refine Way.by (fun _ k => XS.iconst X6.here hx rfl (hb hby dV_14) k) ?_
    show Way _ _ _ _ (T5.setTop (mkF m 15 #[rv pa] [(.int 0)]))
    refine Way.ret (v := (some (.int (nar .boolean (0 : Int32))))) X6 hlk (fun h => by rw [Bd.returns] at h; cases h) (fun fs hr => retN X6 hx (t := .boolean) Bd.returns (by simp) (hb hby dV_15) hr) ?_ (by decide) (by decide)
    show QV Z pa ps pr uLIVE h0 n0 _ T5.heap _
    rw [e7]
    exact ⟨by rw [hr]; simp [hq]; rfl, N0, rfl⟩
def QA (Z : State) (pa : Addr) (pz : Int64) (h0 : Heap) (n0 : Nat) (v : Option Value) (h : Heap) (L : List Loc) : Prop := v = some (.long pz) ∧ Fr n0 L ∧ h = h0
theorem dA_0 : decode prog_4_method_2_code 0 = .ok (.aload_n 0, 1) := by decide +kernel
theorem dA_1 : decode prog_4_method_2_code 1 = .ok (.getfield 38, 3) := by decide +kernel
theorem dA_4 : decode prog_4_method_2_code 4 = .ok (.lreturn, 1) := by decide +kernel
theorem pnA : plainName "com/example/deduct/deduct/model/Bucket" = true := by first | (simp [plainName, overriddenIn]; done) | decide +kernel
theorem pdA : parseMethodDescriptor "()J" = some ⟨[], some .long⟩ := by decide +kernel
set_option maxRecDepth 65536 in
set_option maxHeartbeats 40000000 in
theorem rmA (l : Launch) (Z : State) (a0 : Array Value) (hw : ∀ d ∈ tables_1, d.before a0 Z = true) (ws : List Jvm.Cond) (pa : Addr) (pz : Int64) (h0 : Heap) (n0 : Nat) (Z0 : n0 ≤ h0.size) (H0 : Fld Z h0 pa "com/example/deduct/deduct/model/Bucket" "available" "J" (.long pz)) :
    MetFree l (⟨"com/example/deduct/deduct/model/Bucket", "available", "()J"⟩ : MethodName) (head1 (Jvm.Cond.code (⟨"com/example/deduct/deduct/model/Bucket", "available", "()J"⟩ : MethodName) prog_4_method_2_code 1 (some .long) :: ws) ({ frames := 0, cells := 0, slots := 0, locals := 0 } : Room)) (fun aa U => aa = #[(.ref pa)] ∧ Z.Warmed39 U.vm ∧ U.heap = h0) (fun _ _ _ _ _ => True) (fun _ U o U' => ∃ v L, o = .returned v ∧ QA Z pa pz h0 n0 v U'.heap L ∧ FrameEnd U o U' L ({ frames := 0, cells := 0, slots := 0, locals := 0 } : Room).cells ({ frames := 0, cells := 0, slots := 0, locals := 0 } : Room).slots) := by
  refine MetFree.of_bodySF (plainFor_of_name pnA) hisR ?_
  intro p e s m args below meth c s₁ Bd hml0 hP hK
  obtain ⟨rfl, hZ, hh⟩ := hP
  have hx := Bd.exec
  have hby := Bd.bytes
  have hlk : meth.locks = false := BodyLoose.notSynchronized Bd
  have hml : c.maxLocals = 1 := hml0
  have hown : s.vm.findClass "com/example/deduct/deduct/model/Bucket" = some m.cls := findClass_of_methodNamed Bd.named
  have hnm := (name_of_methodNamed Bd.named Bd.method).1
  have X0 : Stand p l e ({ frames := 0, cells := 0, slots := 0, locals := 0 } : Room) s m #[(.ref pa)] below meth c s₁ [] 0 0 := Stand.of_body Bd
  have e0 : s₁.heap = h0 := by rw [← hh, Bd.state]; rfl
  have N0 := Fr.nil n0
  have ef : entryFrame m #[(.ref pa)] 1 = mkF m 0 #[rv pa] [] := by first | (simp [entryFrame, mkF, argsToLocals, Value.category, maxLocals]; done) | rfl
  show Way p.tables e below (KQ s (QA Z pa pz h0 n0) ({ frames := 0, cells := 0, slots := 0, locals := 0 } : Room).cells ({ frames := 0, cells := 0, slots := 0, locals := 0 } : Room).slots) (s₁.setTop (entryFrame m #[(.ref pa)] 1))
  rw [ef]
  refine Way.by (fun _ k => XS.aloadN X0.here hx rfl (hb hby dA_0) rfl rfl k) ?_
  show Way _ _ _ _ (s₁.setTop (mkF m 1 #[rv pa] [(.ref pa)]))
  obtain ⟨T1, X2, e3, st4⟩ := getF X0 hx hZ hown (host := "") (Or.inl (tw hw 29 rfl)) Via.refl e0 H0 (g := (mkF m 1 #[rv pa] [(.ref pa)])) rfl rfl (hb hby dA_1)
  refine Way.by st4 ?_
  show Way _ _ _ _ (T1.setTop (mkF m 4 #[rv pa] [(.long pz)]))
  refine Way.ret (v := (some (.long pz))) X2 hlk (fun h => by rw [Bd.returns] at h; cases h) (fun fs hr => retOut X2 hx Bd.returns rfl (Or.inr (Or.inl ⟨rfl, rfl, _, rfl⟩)) (hb hby dA_4) hr) ?_ (by decide) (by decide)
  show QA Z pa pz h0 n0 _ T1.heap _
  rw [e3]
  exact ⟨rfl, N0, rfl⟩
def QS (Z : State) (pa : Addr) (ps : Addr) (h0 : Heap) (n0 : Nat) (v : Option Value) (h : Heap) (L : List Loc) : Prop := v = some (.ref ps) ∧ Fr n0 L ∧ h = h0
theorem dS_0 : decode prog_4_method_3_code 0 = .ok (.aload_n 0, 1) := by decide +kernel
theorem dS_1 : decode prog_4_method_3_code 1 = .ok (.getfield 17, 3) := by decide +kernel
theorem dS_4 : decode prog_4_method_3_code 4 = .ok (.areturn, 1) := by decide +kernel
theorem pnS : plainName "com/example/deduct/deduct/model/Bucket" = true := by first | (simp [plainName, overriddenIn]; done) | decide +kernel
theorem pdS : parseMethodDescriptor "()Lcom/example/deduct/deduct/model/Bucket$State;" = some ⟨[], some (.object "com/example/deduct/deduct/model/Bucket$State")⟩ := by decide +kernel
set_option maxRecDepth 65536 in
set_option maxHeartbeats 40000000 in
theorem rmS (l : Launch) (Z : State) (a0 : Array Value) (hw : ∀ d ∈ tables_1, d.before a0 Z = true) (ws : List Jvm.Cond) (pa : Addr) (ps : Addr) (h0 : Heap) (n0 : Nat) (Z0 : n0 ≤ h0.size) (H0 : Fld Z h0 pa "com/example/deduct/deduct/model/Bucket" "state" "Lcom/example/deduct/deduct/model/Bucket$State;" (.ref ps)) :
    MetFree l (⟨"com/example/deduct/deduct/model/Bucket", "state", "()Lcom/example/deduct/deduct/model/Bucket$State;"⟩ : MethodName) (head1 (Jvm.Cond.code (⟨"com/example/deduct/deduct/model/Bucket", "state", "()Lcom/example/deduct/deduct/model/Bucket$State;"⟩ : MethodName) prog_4_method_3_code 1 (some (.object "com/example/deduct/deduct/model/Bucket$State")) :: ws) ({ frames := 0, cells := 0, slots := 0, locals := 0 } : Room)) (fun aa U => aa = #[(.ref pa)] ∧ Z.Warmed39 U.vm ∧ U.heap = h0) (fun _ _ _ _ _ => True) (fun _ U o U' => ∃ v L, o = .returned v ∧ QS Z pa ps h0 n0 v U'.heap L ∧ FrameEnd U o U' L ({ frames := 0, cells := 0, slots := 0, locals := 0 } : Room).cells ({ frames := 0, cells := 0, slots := 0, locals := 0 } : Room).slots) := by
  refine MetFree.of_bodySF (plainFor_of_name pnS) hisR ?_
  intro p e s m args below meth c s₁ Bd hml0 hP hK
  obtain ⟨rfl, hZ, hh⟩ := hP
  have hx := Bd.exec
  have hby := Bd.bytes
  have hlk : meth.locks = false := BodyLoose.notSynchronized Bd
  have hml : c.maxLocals = 1 := hml0
  have hown : s.vm.findClass "com/example/deduct/deduct/model/Bucket" = some m.cls := findClass_of_methodNamed Bd.named
  have hnm := (name_of_methodNamed Bd.named Bd.method).1
  have X0 : Stand p l e ({ frames := 0, cells := 0, slots := 0, locals := 0 } : Room) s m #[(.ref pa)] below meth c s₁ [] 0 0 := Stand.of_body Bd
  have e0 : s₁.heap = h0 := by rw [← hh, Bd.state]; rfl
  have N0 := Fr.nil n0
  have ef : entryFrame m #[(.ref pa)] 1 = mkF m 0 #[rv pa] [] := by first | (simp [entryFrame, mkF, argsToLocals, Value.category, maxLocals]; done) | rfl
  show Way p.tables e below (KQ s (QS Z pa ps h0 n0) ({ frames := 0, cells := 0, slots := 0, locals := 0 } : Room).cells ({ frames := 0, cells := 0, slots := 0, locals := 0 } : Room).slots) (s₁.setTop (entryFrame m #[(.ref pa)] 1))
  rw [ef]
  refine Way.by (fun _ k => XS.aloadN X0.here hx rfl (hb hby dS_0) rfl rfl k) ?_
  show Way _ _ _ _ (s₁.setTop (mkF m 1 #[rv pa] [(.ref pa)]))
  obtain ⟨T1, X2, e3, st4⟩ := getF X0 hx hZ hown (host := "") (Or.inl (tw hw 26 rfl)) Via.refl e0 H0 (g := (mkF m 1 #[rv pa] [(.ref pa)])) rfl rfl (hb hby dS_1)
  refine Way.by st4 ?_
  show Way _ _ _ _ (T1.setTop (mkF m 4 #[rv pa] [(.ref ps)]))
  refine Way.ret (v := (some (.ref ps))) X2 hlk (fun h => by rw [Bd.returns] at h; cases h) (fun fs hr => retOut X2 hx Bd.returns rfl (Or.inr (Or.inr (Or.inr (Or.inr ⟨rfl, rfl, rfl⟩)))) (hb hby dS_4) hr) ?_ (by decide) (by decide)
  show QS Z pa ps h0 n0 _ T1.heap _
  rw [e3]
  exact ⟨rfl, N0, rfl⟩
def Q0 (n0 : Nat) (v : Option Value) (h : Heap) (L : List Loc) : Prop := v = some (.int 1) ∧ Fr n0 L
theorem pn0 : plainName "com/example/deduct/deduct/model/BucketLivePinLaw" = true := by first | (simp [plainName, overriddenIn]; done) | decide +kernel
theorem pd0 : parseMethodDescriptor "(JI)Z" = some ⟨[.long, .int], some .boolean⟩ := by decide +kernel
set_option maxRecDepth 65536 in
set_option maxHeartbeats 40000000 in
theorem rm0 (l : Launch) (Z : State) (a0 : Array Value) (hw : ∀ d ∈ tables_1, d.before a0 Z = true) (ws : List Jvm.Cond) (p1 : Int64) (p2 : Int32) (uRETIRED uLIVE : Addr) (h0 : Heap) (n0 : Nat) (Z0 : n0 ≤ h0.size) (O0 : Old Z n0 h0) (SRETIRED : Sta Z Z.heap "com/example/deduct/deduct/model/Bucket$State" "RETIRED" "Lcom/example/deduct/deduct/model/Bucket$State;" (.ref uRETIRED)) (SLIVE : Sta Z Z.heap "com/example/deduct/deduct/model/Bucket$State" "LIVE" "Lcom/example/deduct/deduct/model/Bucket$State;" (.ref uLIVE)) (ERETIRED : Exa Z Z.heap uRETIRED "com/example/deduct/deduct/model/Bucket$State") (ELIVE : Exa Z Z.heap uLIVE "com/example/deduct/deduct/model/Bucket$State") (neq : uLIVE ≠ uRETIRED) :
    MetFree l x (head1 (Jvm.Cond.code x code maxLocals ret :: ws) room_1) (fun aa U => aa = #[(.long p1), (.int p2)] ∧ Z.Warmed39 U.vm ∧ U.heap = h0) (fun _ _ _ _ _ => True) (fun _ U o U' => ∃ v L, o = .returned v ∧ Q0 n0 v U'.heap L ∧ ReturnedEndW U o U' L room_1.cells room_1.slots) := by
  refine MetFree.of_bodySF (plainFor_of_name pn0) hisR ?_
  intro p e s m args below meth c s₁ Bd hml0 hP hK
  obtain ⟨rfl, hZ, hh⟩ := hP
  have hx := Bd.exec
  have hby := Bd.bytes
  have hlk : meth.locks = false := BodyLoose.notSynchronized Bd
  have hml : c.maxLocals = 9 := hml0
  have hown : s.vm.findClass "com/example/deduct/deduct/model/BucketLivePinLaw" = some m.cls := findClass_of_methodNamed Bd.named
  have hnm := (name_of_methodNamed Bd.named Bd.method).1
  have X0 : Stand p l e room_1 s m #[(.long p1), (.int p2)] below meth c s₁ [] 0 0 := Stand.of_body Bd
  have e0 : s₁.heap = h0 := by rw [← hh, Bd.state]; rfl
  have N0 := Fr.nil n0
  have ef : entryFrame m #[(.long p1), (.int p2)] maxLocals = mkF m 0 #[.val (.long p1), .second, iv p2, .unset, .unset, .unset, .unset, .unset, .unset] [] := by first | (simp [entryFrame, mkF, argsToLocals, Value.category, maxLocals]; done) | rfl
  have XW : Stand p l e room_1 (s.setVm s.vm) m #[(.long p1), (.int p2)] below meth c s₁ [] 0 0 := X0
  have hS0 : s.Since s.vm 0 := (State.WarmedH.refl s).since 0
  have hZ0 : Z.Warmed39 (s.setVm s.vm).vm := hZ
  have hown0 : (s.setVm s.vm).vm.findClass "com/example/deduct/deduct/model/BucketLivePinLaw" = some m.cls := hown
  have wS : ∀ d ∈ Bundle.stringAtoms, d.before a0 Z = true := fun d hd => hw d (own_wS d hd)
  show Way p.tables e below (KQW s (Q0 n0) room_1.cells room_1.slots) (s₁.setTop (entryFrame m #[(.long p1), (.int p2)] maxLocals))
  rw [ef]
  refine Way.by (fun _ k => XS.iloadN XW.here hx rfl (hb hby at_0) rfl k) ?_
  show Way _ _ _ _ (s₁.setTop (mkF m 1 #[.val (.long p1), .second, iv p2, .unset, .unset, .unset, .unset, .unset, .unset] [(.int p2)]))
  refine Way.by (fun _ k => XS.iconst XW.here hx rfl (hb hby at_1) k) ?_
  show Way _ _ _ _ (s₁.setTop (mkF m 2 #[.val (.long p1), .second, iv p2, .unset, .unset, .unset, .unset, .unset, .unset] [(.int 1), (.int p2)]))
  refine Way.by (fun _ k => XS.iand XW.here hx rfl (hb hby at_2) rfl k) ?_
  show Way _ _ _ _ (s₁.setTop (mkF m 3 #[.val (.long p1), .second, iv p2, .unset, .unset, .unset, .unset, .unset, .unset] [(.int (p2 &&& (1 : Int32)))]))
  by_cases b1 : (p2 &&& (1 : Int32)) = (0 : Int32)
  · skip
    refine Way.by (fun _ k => XS.ifYes XW.here hx rfl (pc0 := 3) (pc' := 10) rfl (hb hby at_3) rfl ((if0 .eq _).trans (teq b1).1) (by decide) (by decide) k) ?_
    show Way _ _ _ _ (s₁.setTop (mkF m 10 #[.val (.long p1), .second, iv p2, .unset, .unset, .unset, .unset, .unset, .unset] []))
    refine Way.by (fun _ k => XS.iconst XW.here hx rfl (hb hby at_10) k) ?_
    show Way _ _ _ _ (s₁.setTop (mkF m 11 #[.val (.long p1), .second, iv p2, .unset, .unset, .unset, .unset, .unset, .unset] [(.int 0)]))
    refine Way.by (fun _ k => XS.istoreN XW.here hx rfl (hb hby at_11) rfl (l' := #[.val (.long p1), .second, iv p2, iv 0, .unset, .unset, .unset, .unset, .unset]) rfl k) ?_
    show Way _ _ _ _ (s₁.setTop (mkF m 12 #[.val (.long p1), .second, iv p2, iv 0, .unset, .unset, .unset, .unset, .unset] []))
    refine Way.by (fun _ k => XS.iloadN XW.here hx rfl (hb hby at_12) rfl k) ?_
    show Way _ _ _ _ (s₁.setTop (mkF m 13 #[.val (.long p1), .second, iv p2, iv 0, .unset, .unset, .unset, .unset, .unset] [(.int 0)]))
    have b2 : (0 : Int32) = (0 : Int32) := by decide
    refine Way.by (fun _ k => XS.ifYes XW.here hx rfl (pc0 := 13) (pc' := 22) rfl (hb hby at_13) rfl ((if0 .eq _).trans (teq b2).1) (by decide) (by decide) k) ?_
    show Way _ _ _ _ (s₁.setTop (mkF m 22 #[.val (.long p1), .second, iv p2, iv 0, .unset, .unset, .unset, .unset, .unset] []))
    obtain ⟨T3, X4, e5, st6⟩ := getS XW hx hZ0 hown0 (host := "") (tw hw 0 rfl) Via.refl e0 (Sta.ext O0.2 SRETIRED) (g := (mkF m 22 #[.val (.long p1), .second, iv p2, iv 0, .unset, .unset, .unset, .unset, .unset] [])) rfl (hb hby at_22)
    refine Way.by st6 ?_
    show Way _ _ _ _ (T3.setTop (mkF m 25 #[.val (.long p1), .second, iv p2, iv 0, .unset, .unset, .unset, .unset, .unset] [(.ref uRETIRED)]))
    refine Way.by (fun _ k => XS.astore X4.here hx rfl (hb hby at_25) rfl rfl (l' := #[.val (.long p1), .second, iv p2, iv 0, rv uRETIRED, .unset, .unset, .unset, .unset]) rfl k) ?_
    show Way _ _ _ _ (T3.setTop (mkF m 27 #[.val (.long p1), .second, iv p2, iv 0, rv uRETIRED, .unset, .unset, .unset, .unset] []))
    refine Way.by (fun _ k => XS.iloadN X4.here hx rfl (hb hby at_27) rfl k) ?_
    show Way _ _ _ _ (T3.setTop (mkF m 28 #[.val (.long p1), .second, iv p2, iv 0, rv uRETIRED, .unset, .unset, .unset, .unset] [(.int 0)]))
    have b7 : (0 : Int32) = (0 : Int32) := by decide
    refine Way.by (fun _ k => XS.ifYes X4.here hx rfl (pc0 := 28) (pc' := 39) rfl (hb hby at_28) rfl ((if0 .eq _).trans (teq b7).1) (by decide) (by decide) k) ?_
    show Way _ _ _ _ (T3.setTop (mkF m 39 #[.val (.long p1), .second, iv p2, iv 0, rv uRETIRED, .unset, .unset, .unset, .unset] []))
    refine Way.by (fun _ k => XT.lconst X4.here hx rfl (hb hby at_39) k) ?_
    show Way _ _ _ _ (T3.setTop (mkF m 40 #[.val (.long p1), .second, iv p2, iv 0, rv uRETIRED, .unset, .unset, .unset, .unset] [(.long (0 : Int64))]))
    refine Way.by (fun _ k => XT.lstore X4.here hx rfl (hb hby at_40) rfl (l' := #[.val (.long p1), .second, iv p2, iv 0, rv uRETIRED, .val (.long (0 : Int64)), .second, .unset, .unset]) rfl k) ?_
    show Way _ _ _ _ (T3.setTop (mkF m 42 #[.val (.long p1), .second, iv p2, iv 0, rv uRETIRED, .val (.long (0 : Int64)), .second, .unset, .unset] []))
    obtain ⟨T8, h9, X10, e11, E12, A13, D14, -, st15⟩ := newO X4 hx hZ0 hown0 (tw hw 3 rfl) (tw hw 4 rfl) (tw hw 5 rfl) e5 (g := (mkF m 42 #[.val (.long p1), .second, iv p2, iv 0, rv uRETIRED, .val (.long (0 : Int64)), .second, .unset, .unset] [])) rfl (hb hby at_42) (by decide) (by decide)
    obtain ⟨a16, g17⟩ : ∃ z, z = h0.size := ⟨_, rfl⟩
    rw [← g17] at A13 D14 st15
    have nw18 : n0 ≤ a16 := Nat.le_trans Z0 (Nat.le_of_eq g17.symm)
    have Z19 := Nat.le_trans Z0 E12.1
    have hk20 := Nat.le_trans (Nat.zero_le _) E12.1
    have O21 := O0.ext E12
    have F22 : Fld Z h9 a16 "com/example/deduct/deduct/model/Bucket" "state" "Lcom/example/deduct/deduct/model/Bucket$State;" .null := D14 (Or.inr (tw hw 27 rfl)) (ty := (.object "com/example/deduct/deduct/model/Bucket$State")) (by decide)
    have F23 : Fld Z h9 a16 "com/example/deduct/deduct/model/Bucket" "available" "J" (.long (0 : Int64)) := D14 (Or.inr (tw hw 30 rfl)) (ty := .long) (by decide)
    refine Way.by st15 ?_
    show Way _ _ _ _ (T8.setTop (mkF m 45 #[.val (.long p1), .second, iv p2, iv 0, rv uRETIRED, .val (.long (0 : Int64)), .second, .unset, .unset] [(.ref a16)]))
    refine Way.by (fun _ k => XS.dup X10.here hx rfl (hb hby at_45) rfl rfl k) ?_
    show Way _ _ _ _ (T8.setTop (mkF m 46 #[.val (.long p1), .second, iv p2, iv 0, rv uRETIRED, .val (.long (0 : Int64)), .second, .unset, .unset] [(.ref a16), (.ref a16)]))
    refine Way.by (fun _ k => XT.lload X10.here hx rfl (hb hby at_46) rfl k) ?_
    show Way _ _ _ _ (T8.setTop (mkF m 48 #[.val (.long p1), .second, iv p2, iv 0, rv uRETIRED, .val (.long (0 : Int64)), .second, .unset, .unset] [(.long (0 : Int64)), (.ref a16), (.ref a16)]))
    refine Way.by (fun _ k => XS.aload X10.here hx rfl (hb hby at_48) rfl rfl k) ?_
    show Way _ _ _ _ (T8.setTop (mkF m 50 #[.val (.long p1), .second, iv p2, iv 0, rv uRETIRED, .val (.long (0 : Int64)), .second, .unset, .unset] [(.ref uRETIRED), (.long (0 : Int64)), (.ref a16), (.ref a16)]))
    have hz : ¬ (0 : Int64) < 0 := by decide
    have hnp : a16 ≠ uRETIRED := (Old.ne O21 ERETIRED.lt nw18).symm
    obtain ⟨_, _, ⟨T24, L26, k27, n28⟩, -, X25, hS37, hg38, ⟨Lc29, hQ30, l31, y32, z33⟩, st34⟩ := X10.specialBackS hx (y := (⟨"com/example/deduct/deduct/model/Bucket", "<init>", "(JLcom/example/deduct/deduct/model/Bucket$State;)V"⟩ : MethodName)) rfl hown0 (mvT hZ0 (tw hw 6 rfl)) (mvT hZ0 (tw hw 7 rfl)) (mvT hZ0 (tw hw 8 rfl)) (by decide) (backOfS (W := 1) (rmB l Z a0 hw [] a16 (0 : Int64) uRETIRED uRETIRED h9 n0 Z19 A13 F22 F23 hz (fun _ => rfl) hnp nw18 O21 SRETIRED ERETIRED) hZ0 (tw hw 8 rfl) (tw hw 5 rfl) (by decide) (by decide)) (g := (mkF m 50 #[.val (.long p1), .second, iv p2, iv 0, rv uRETIRED, .val (.long (0 : Int64)), .second, .unset, .unset] [(.ref uRETIRED), (.long (0 : Int64)), (.ref a16), (.ref a16)])) rfl (by rw [hml]; rfl) (Steps.refl _) (a := a16) (argsL := [(.long (0 : Int64)), (.ref uRETIRED)]) (rest := [(.ref a16)]) (lenOf pdB rfl) rfl (by show 2 * 0 + _ ≤ _; exact Nat.le_of_eq rfl) (hb hby at_50) (fun _ _ => ⟨rfl, e11, (Nat.le_of_ble_eq_true rfl), (Nat.le_of_ble_eq_true rfl)⟩)
    dsimp only [Pt.U, Pt.locs, Pt.cells, Pt.slots] at X25 l31 y32 z33 st34 hQ30 hS37 hg38
    subst l31 y32 z33
    obtain ⟨X40, hS41, hZ42, hown43⟩ := rebS hS0 (by rw [e11]; exact hk20) X25 hS37 hg38 hZ0 hown0
    obtain ⟨rfl, N44, K45, F_046, F_147, F_248⟩ := hQ30
    have N35 := Fr.app N0 N44
    have E49 := A13.keep K45
    have Z50 := Nat.le_trans Z19 K45.1
    have O51 := O21.keep K45 (allS nw18 all0)
    refine Way.to st34 ?_
    show Way _ _ _ _ (T24.setTop (mkF m 53 #[.val (.long p1), .second, iv p2, iv 0, rv uRETIRED, .val (.long (0 : Int64)), .second, .unset, .unset] [(.ref a16)]))
    refine Way.by (fun _ k => XS.astore X40.here hx rfl (hb hby at_53) rfl rfl (l' := #[.val (.long p1), .second, iv p2, iv 0, rv uRETIRED, .val (.long (0 : Int64)), .second, rv a16, .unset]) rfl k) ?_
    show Way _ _ _ _ (T24.setTop (mkF m 55 #[.val (.long p1), .second, iv p2, iv 0, rv uRETIRED, .val (.long (0 : Int64)), .second, rv a16, .unset] []))
    refine Way.by (fun _ k => XS.aload X40.here hx rfl (hb hby at_55) rfl rfl k) ?_
    show Way _ _ _ _ (T24.setTop (mkF m 57 #[.val (.long p1), .second, iv p2, iv 0, rv uRETIRED, .val (.long (0 : Int64)), .second, rv a16, .unset] [(.ref a16)]))
    obtain ⟨cq68, kq69, qa70, qb71, qc72⟩ := isOf hZ42 rfl F_046
    obtain ⟨_, _, ⟨T52, L54, k55, n56⟩, -, X53, ⟨Lc57, hQ58, l59, y60, z61⟩, st62⟩ := X40.virtualBack hx (y := (⟨"com/example/deduct/deduct/model/Bucket", "live", "()Z"⟩ : MethodName)) (z := (⟨"com/example/deduct/deduct/model/Bucket", "live", "()Z"⟩ : MethodName)) hown43 (mvT hZ42 (tw hw 31 rfl)) (mvT hZ42 (tw hw 32 rfl)) (notFace_of_selects (args := #[]) (mvT hZ42 (tw hw 34 rfl))) (mvT hZ42 (tw hw 34 rfl)) (mvT hZ42 (tw hw 33 rfl)) (by decide) (backOf (W := 0) (rmV l Z a0 hw [] a16 uRETIRED (0 : Int32) uLIVE T24.heap n0 Z50 F_147 (by simp [neq, neq.symm]) O51 SLIVE) hZ42 (tw hw 35 rfl) (tw hw 5 rfl) (by decide) (by decide)) qa70 qc72 (g := (mkF m 57 #[.val (.long p1), .second, iv p2, iv 0, rv uRETIRED, .val (.long (0 : Int64)), .second, rv a16, .unset] [(.ref a16)])) rfl (by rw [hml]; rfl) (Steps.refl _) (argsL := []) (rest := []) (lenOf pdV rfl) rfl (by show 2 * 0 + _ ≤ _; exact Nat.le_of_eq rfl) (hb hby at_57) (fun _ _ => ⟨rfl, rfl, (Nat.le_of_ble_eq_true rfl), (Nat.le_of_ble_eq_true rfl)⟩)
    dsimp only [Pt.U, Pt.locs, Pt.cells, Pt.slots] at X53 l59 y60 z61 st62 hQ58
    subst l59 y60 z61
    obtain ⟨rfl, N73, e64⟩ := hQ58
    have N63 := Fr.app N35 N73
    refine Way.to st62 ?_
    show Way _ _ _ _ (T52.setTop (mkF m 60 #[.val (.long p1), .second, iv p2, iv 0, rv uRETIRED, .val (.long (0 : Int64)), .second, rv a16, .unset] [(.int 0)]))
    refine Way.by (fun _ k => XS.istore X53.here hx rfl (hb hby at_60) rfl (l' := #[.val (.long p1), .second, iv p2, iv 0, rv uRETIRED, .val (.long (0 : Int64)), .second, rv a16, iv 0]) rfl k) ?_
    show Way _ _ _ _ (T52.setTop (mkF m 62 #[.val (.long p1), .second, iv p2, iv 0, rv uRETIRED, .val (.long (0 : Int64)), .second, rv a16, iv 0] []))
    refine Way.by (fun _ k => XS.iload X53.here hx rfl (hb hby at_62) rfl k) ?_
    show Way _ _ _ _ (T52.setTop (mkF m 64 #[.val (.long p1), .second, iv p2, iv 0, rv uRETIRED, .val (.long (0 : Int64)), .second, rv a16, iv 0] [(.int 0)]))
    refine Way.by (fun _ k => XS.iloadN X53.here hx rfl (hb hby at_64) rfl k) ?_
    show Way _ _ _ _ (T52.setTop (mkF m 65 #[.val (.long p1), .second, iv p2, iv 0, rv uRETIRED, .val (.long (0 : Int64)), .second, rv a16, iv 0] [(.int 0), (.int 0)]))
    have b75 : (0 : Int32) = (0 : Int32) := by decide
    refine Way.by (fun _ k => XS.icmpYes X53.here hx rfl (pc0 := 65) (pc' := 70) rfl (hb hby at_65) rfl (teq b75).1 (by decide) (by decide) k) ?_
    show Way _ _ _ _ (T52.setTop (mkF m 70 #[.val (.long p1), .second, iv p2, iv 0, rv uRETIRED, .val (.long (0 : Int64)), .second, rv a16, iv 0] []))
    refine Way.by (fun _ k => XS.iload X53.here hx rfl (hb hby at_70) rfl k) ?_
    show Way _ _ _ _ (T52.setTop (mkF m 72 #[.val (.long p1), .second, iv p2, iv 0, rv uRETIRED, .val (.long (0 : Int64)), .second, rv a16, iv 0] [(.int 0)]))
    have b76 : (0 : Int32) = (0 : Int32) := by decide
    refine Way.by (fun _ k => XS.ifNo X53.here hx rfl (hb hby at_72) rfl ((if0 .ne _).trans (teq b76).2) k) ?_
    show Way _ _ _ _ (T52.setTop (mkF m 75 #[.val (.long p1), .second, iv p2, iv 0, rv uRETIRED, .val (.long (0 : Int64)), .second, rv a16, iv 0] []))
    refine Way.by (fun _ k => XS.aload X53.here hx rfl (hb hby at_75) rfl rfl k) ?_
    show Way _ _ _ _ (T52.setTop (mkF m 77 #[.val (.long p1), .second, iv p2, iv 0, rv uRETIRED, .val (.long (0 : Int64)), .second, rv a16, iv 0] [(.ref a16)]))
    obtain ⟨cq93, kq94, qa95, qb96, qc97⟩ := isOf hZ42 e64 F_046
    obtain ⟨_, _, ⟨T77, L79, k80, n81⟩, -, X78, ⟨Lc82, hQ83, l84, y85, z86⟩, st87⟩ := X53.virtualBack hx (y := (⟨"com/example/deduct/deduct/model/Bucket", "available", "()J"⟩ : MethodName)) (z := (⟨"com/example/deduct/deduct/model/Bucket", "available", "()J"⟩ : MethodName)) hown43 (mvT hZ42 (tw hw 38 rfl)) (mvT hZ42 (tw hw 39 rfl)) (notFace_of_selects (args := #[]) (mvT hZ42 (tw hw 41 rfl))) (mvT hZ42 (tw hw 41 rfl)) (mvT hZ42 (tw hw 40 rfl)) (by decide) (backOf (W := 0) (rmA l Z a0 hw [] a16 (0 : Int64) T24.heap n0 Z50 F_248) hZ42 (tw hw 42 rfl) (tw hw 5 rfl) (by decide) (by decide)) qa95 qc97 (g := (mkF m 77 #[.val (.long p1), .second, iv p2, iv 0, rv uRETIRED, .val (.long (0 : Int64)), .second, rv a16, iv 0] [(.ref a16)])) rfl (by rw [hml]; rfl) (Steps.refl _) (argsL := []) (rest := []) (lenOf pdA rfl) rfl (by show 2 * 0 + _ ≤ _; exact Nat.le_of_eq rfl) (hb hby at_77) (fun _ _ => ⟨rfl, e64, (Nat.le_of_ble_eq_true rfl), (Nat.le_of_ble_eq_true rfl)⟩)
    dsimp only [Pt.U, Pt.locs, Pt.cells, Pt.slots] at X78 l84 y85 z86 st87 hQ83
    subst l84 y85 z86
    obtain ⟨rfl, N98, e89⟩ := hQ83
    have N88 := Fr.app N63 N98
    refine Way.to st87 ?_
    show Way _ _ _ _ (T77.setTop (mkF m 80 #[.val (.long p1), .second, iv p2, iv 0, rv uRETIRED, .val (.long (0 : Int64)), .second, rv a16, iv 0] [(.long (0 : Int64))]))
    refine Way.by (fun _ k => XT.lconst X78.here hx rfl (hb hby at_80) k) ?_
    show Way _ _ _ _ (T77.setTop (mkF m 81 #[.val (.long p1), .second, iv p2, iv 0, rv uRETIRED, .val (.long (0 : Int64)), .second, rv a16, iv 0] [(.long (0 : Int64)), (.long (0 : Int64))]))
    refine Way.by (fun _ k => XT.lcmp X78.here hx rfl (hb hby at_81) rfl k) ?_
    show Way _ _ _ _ (T77.setTop (mkF m 82 #[.val (.long p1), .second, iv p2, iv 0, rv uRETIRED, .val (.long (0 : Int64)), .second, rv a16, iv 0] [(.int (XT.cmpL (0 : Int64) (0 : Int64)))]))
    have b100 : (XT.cmpL (0 : Int64) (0 : Int64)) = (0 : Int32) := (cmpL0 _ _).mpr rfl
    refine Way.by (fun _ k => XS.ifYes X78.here hx rfl (pc0 := 82) (pc' := 87) rfl (hb hby at_82) rfl ((if0 .eq _).trans (teq b100).1) (by decide) (by decide) k) ?_
    show Way _ _ _ _ (T77.setTop (mkF m 87 #[.val (.long p1), .second, iv p2, iv 0, rv uRETIRED, .val (.long (0 : Int64)), .second, rv a16, iv 0] []))
    refine Way.by (fun _ k => XS.aload X78.here hx rfl (hb hby at_87) rfl rfl k) ?_
    show Way _ _ _ _ (T77.setTop (mkF m 89 #[.val (.long p1), .second, iv p2, iv 0, rv uRETIRED, .val (.long (0 : Int64)), .second, rv a16, iv 0] [(.ref a16)]))
    obtain ⟨cq117, kq118, qa119, qb120, qc121⟩ := isOf hZ42 e89 F_046
    obtain ⟨_, _, ⟨T101, L103, k104, n105⟩, -, X102, ⟨Lc106, hQ107, l108, y109, z110⟩, st111⟩ := X78.virtualBack hx (y := (⟨"com/example/deduct/deduct/model/Bucket", "state", "()Lcom/example/deduct/deduct/model/Bucket$State;"⟩ : MethodName)) (z := (⟨"com/example/deduct/deduct/model/Bucket", "state", "()Lcom/example/deduct/deduct/model/Bucket$State;"⟩ : MethodName)) hown43 (mvT hZ42 (tw hw 43 rfl)) (mvT hZ42 (tw hw 44 rfl)) (notFace_of_selects (args := #[]) (mvT hZ42 (tw hw 46 rfl))) (mvT hZ42 (tw hw 46 rfl)) (mvT hZ42 (tw hw 45 rfl)) (by decide) (backOf (W := 0) (rmS l Z a0 hw [] a16 uRETIRED T24.heap n0 Z50 F_147) hZ42 (tw hw 47 rfl) (tw hw 5 rfl) (by decide) (by decide)) qa119 qc121 (g := (mkF m 89 #[.val (.long p1), .second, iv p2, iv 0, rv uRETIRED, .val (.long (0 : Int64)), .second, rv a16, iv 0] [(.ref a16)])) rfl (by rw [hml]; rfl) (Steps.refl _) (argsL := []) (rest := []) (lenOf pdS rfl) rfl (by show 2 * 0 + _ ≤ _; exact Nat.le_of_eq rfl) (hb hby at_89) (fun _ _ => ⟨rfl, e89, (Nat.le_of_ble_eq_true rfl), (Nat.le_of_ble_eq_true rfl)⟩)
    dsimp only [Pt.U, Pt.locs, Pt.cells, Pt.slots] at X102 l108 y109 z110 st111 hQ107
    subst l108 y109 z110
    obtain ⟨rfl, N122, e113⟩ := hQ107
    have N112 := Fr.app N88 N122
    refine Way.to st111 ?_
    show Way _ _ _ _ (T101.setTop (mkF m 92 #[.val (.long p1), .second, iv p2, iv 0, rv uRETIRED, .val (.long (0 : Int64)), .second, rv a16, iv 0] [(.ref uRETIRED)]))
    refine Way.by (fun _ k => XS.aload X102.here hx rfl (hb hby at_92) rfl rfl k) ?_
    show Way _ _ _ _ (T101.setTop (mkF m 94 #[.val (.long p1), .second, iv p2, iv 0, rv uRETIRED, .val (.long (0 : Int64)), .second, rv a16, iv 0] [(.ref uRETIRED), (.ref uRETIRED)]))
    have b124 : uRETIRED = uRETIRED := rfl
    refine Way.by (fun _ k => acmp X102 hx rfl rfl rfl (pc0 := 94) (pc' := 97) (same := true) rfl (hb hby at_94) rfl (by simp [b124]) (by decide) (by decide) k) ?_
    show Way _ _ _ _ (T101.setTop (mkF m 97 #[.val (.long p1), .second, iv p2, iv 0, rv uRETIRED, .val (.long (0 : Int64)), .second, rv a16, iv 0] []))
    refine Way.by (fun _ k => XS.iconst X102.here hx rfl (hb hby at_97) k) ?_
    show Way _ _ _ _ (T101.setTop (mkF m 98 #[.val (.long p1), .second, iv p2, iv 0, rv uRETIRED, .val (.long (0 : Int64)), .second, rv a16, iv 0] [(.int 1)]))
    refine Way.by (fun _ k => XS.goto X102.here hx rfl (pc0 := 98) (pc' := 102) rfl (hb hby at_98) (by decide) (by decide) k) ?_
    show Way _ _ _ _ (T101.setTop (mkF m 102 #[.val (.long p1), .second, iv p2, iv 0, rv uRETIRED, .val (.long (0 : Int64)), .second, rv a16, iv 0] [(.int 1)]))
    refine Way.retW (v := (some (.int (nar .boolean (1 : Int32))))) X102 hS41 (by rw [e113]; exact (Nat.le_refl _)) hlk (fun h => by rw [Bd.returns] at h; cases h) (fun fs hr => retN X102 hx (t := .boolean) Bd.returns (by simp) (hb hby at_102) hr) ?_ (by decide) (by decide)
    show Q0 n0 _ T101.heap _
    rw [e113]
    exact ⟨rfl, N112⟩
  · skip
    refine Way.by (fun _ k => XS.ifNo XW.here hx rfl (hb hby at_3) rfl ((if0 .eq _).trans (feq b1).1) k) ?_
    show Way _ _ _ _ (s₁.setTop (mkF m 6 #[.val (.long p1), .second, iv p2, .unset, .unset, .unset, .unset, .unset, .unset] []))
    refine Way.by (fun _ k => XS.iconst XW.here hx rfl (hb hby at_6) k) ?_
    show Way _ _ _ _ (s₁.setTop (mkF m 7 #[.val (.long p1), .second, iv p2, .unset, .unset, .unset, .unset, .unset, .unset] [(.int 1)]))
    refine Way.by (fun _ k => XS.goto XW.here hx rfl (pc0 := 7) (pc' := 11) rfl (hb hby at_7) (by decide) (by decide) k) ?_
    show Way _ _ _ _ (s₁.setTop (mkF m 11 #[.val (.long p1), .second, iv p2, .unset, .unset, .unset, .unset, .unset, .unset] [(.int 1)]))
    refine Way.by (fun _ k => XS.istoreN XW.here hx rfl (hb hby at_11) rfl (l' := #[.val (.long p1), .second, iv p2, iv 1, .unset, .unset, .unset, .unset, .unset]) rfl k) ?_
    show Way _ _ _ _ (s₁.setTop (mkF m 12 #[.val (.long p1), .second, iv p2, iv 1, .unset, .unset, .unset, .unset, .unset] []))
    refine Way.by (fun _ k => XS.iloadN XW.here hx rfl (hb hby at_12) rfl k) ?_
    show Way _ _ _ _ (s₁.setTop (mkF m 13 #[.val (.long p1), .second, iv p2, iv 1, .unset, .unset, .unset, .unset, .unset] [(.int 1)]))
    have b125 : ¬ (1 : Int32) = (0 : Int32) := by decide
    refine Way.by (fun _ k => XS.ifNo XW.here hx rfl (hb hby at_13) rfl ((if0 .eq _).trans (feq b125).1) k) ?_
    show Way _ _ _ _ (s₁.setTop (mkF m 16 #[.val (.long p1), .second, iv p2, iv 1, .unset, .unset, .unset, .unset, .unset] []))
    obtain ⟨T126, X127, e128, st129⟩ := getS XW hx hZ0 hown0 (host := "") (tw hw 48 rfl) Via.refl e0 (Sta.ext O0.2 SLIVE) (g := (mkF m 16 #[.val (.long p1), .second, iv p2, iv 1, .unset, .unset, .unset, .unset, .unset] [])) rfl (hb hby at_16)
    refine Way.by st129 ?_
    show Way _ _ _ _ (T126.setTop (mkF m 19 #[.val (.long p1), .second, iv p2, iv 1, .unset, .unset, .unset, .unset, .unset] [(.ref uLIVE)]))
    refine Way.by (fun _ k => XS.goto X127.here hx rfl (pc0 := 19) (pc' := 25) rfl (hb hby at_19) (by decide) (by decide) k) ?_
    show Way _ _ _ _ (T126.setTop (mkF m 25 #[.val (.long p1), .second, iv p2, iv 1, .unset, .unset, .unset, .unset, .unset] [(.ref uLIVE)]))
    refine Way.by (fun _ k => XS.astore X127.here hx rfl (hb hby at_25) rfl rfl (l' := #[.val (.long p1), .second, iv p2, iv 1, rv uLIVE, .unset, .unset, .unset, .unset]) rfl k) ?_
    show Way _ _ _ _ (T126.setTop (mkF m 27 #[.val (.long p1), .second, iv p2, iv 1, rv uLIVE, .unset, .unset, .unset, .unset] []))
    refine Way.by (fun _ k => XS.iloadN X127.here hx rfl (hb hby at_27) rfl k) ?_
    show Way _ _ _ _ (T126.setTop (mkF m 28 #[.val (.long p1), .second, iv p2, iv 1, rv uLIVE, .unset, .unset, .unset, .unset] [(.int 1)]))
    have b130 : ¬ (1 : Int32) = (0 : Int32) := by decide
    refine Way.by (fun _ k => XS.ifNo X127.here hx rfl (hb hby at_28) rfl ((if0 .eq _).trans (feq b130).1) k) ?_
    show Way _ _ _ _ (T126.setTop (mkF m 31 #[.val (.long p1), .second, iv p2, iv 1, rv uLIVE, .unset, .unset, .unset, .unset] []))
    refine Way.by (fun _ k => XT.lloadN X127.here hx rfl (hb hby at_31) rfl k) ?_
    show Way _ _ _ _ (T126.setTop (mkF m 32 #[.val (.long p1), .second, iv p2, iv 1, rv uLIVE, .unset, .unset, .unset, .unset] [(.long p1)]))
    refine Way.by (Stand.ldc2Long X127 hx hown0 (mvT hZ0 (tw hw 49 rfl)) rfl (hb hby at_32)) ?_
    show Way _ _ _ _ (T126.setTop (mkF m 35 #[.val (.long p1), .second, iv p2, iv 1, rv uLIVE, .unset, .unset, .unset, .unset] [(.long (9223372036854775807 : Int64)), (.long p1)]))
    refine Way.by (fun _ k => XT.land X127.here hx rfl (hb hby at_35) rfl k) ?_
    show Way _ _ _ _ (T126.setTop (mkF m 36 #[.val (.long p1), .second, iv p2, iv 1, rv uLIVE, .unset, .unset, .unset, .unset] [(.long (p1 &&& (9223372036854775807 : Int64)))]))
    refine Way.by (fun _ k => XS.goto X127.here hx rfl (pc0 := 36) (pc' := 40) rfl (hb hby at_36) (by decide) (by decide) k) ?_
    show Way _ _ _ _ (T126.setTop (mkF m 40 #[.val (.long p1), .second, iv p2, iv 1, rv uLIVE, .unset, .unset, .unset, .unset] [(.long (p1 &&& (9223372036854775807 : Int64)))]))
    refine Way.by (fun _ k => XT.lstore X127.here hx rfl (hb hby at_40) rfl (l' := #[.val (.long p1), .second, iv p2, iv 1, rv uLIVE, .val (.long (p1 &&& (9223372036854775807 : Int64))), .second, .unset, .unset]) rfl k) ?_
    show Way _ _ _ _ (T126.setTop (mkF m 42 #[.val (.long p1), .second, iv p2, iv 1, rv uLIVE, .val (.long (p1 &&& (9223372036854775807 : Int64))), .second, .unset, .unset] []))
    obtain ⟨T131, h132, X133, e134, E135, A136, D137, -, st138⟩ := newO X127 hx hZ0 hown0 (tw hw 3 rfl) (tw hw 4 rfl) (tw hw 5 rfl) e128 (g := (mkF m 42 #[.val (.long p1), .second, iv p2, iv 1, rv uLIVE, .val (.long (p1 &&& (9223372036854775807 : Int64))), .second, .unset, .unset] [])) rfl (hb hby at_42) (by decide) (by decide)
    obtain ⟨a139, g140⟩ : ∃ z, z = h0.size := ⟨_, rfl⟩
    rw [← g140] at A136 D137 st138
    have nw141 : n0 ≤ a139 := Nat.le_trans Z0 (Nat.le_of_eq g140.symm)
    have Z142 := Nat.le_trans Z0 E135.1
    have hk143 := Nat.le_trans (Nat.zero_le _) E135.1
    have O144 := O0.ext E135
    have F145 : Fld Z h132 a139 "com/example/deduct/deduct/model/Bucket" "state" "Lcom/example/deduct/deduct/model/Bucket$State;" .null := D137 (Or.inr (tw hw 27 rfl)) (ty := (.object "com/example/deduct/deduct/model/Bucket$State")) (by decide)
    have F146 : Fld Z h132 a139 "com/example/deduct/deduct/model/Bucket" "available" "J" (.long (0 : Int64)) := D137 (Or.inr (tw hw 30 rfl)) (ty := .long) (by decide)
    refine Way.by st138 ?_
    show Way _ _ _ _ (T131.setTop (mkF m 45 #[.val (.long p1), .second, iv p2, iv 1, rv uLIVE, .val (.long (p1 &&& (9223372036854775807 : Int64))), .second, .unset, .unset] [(.ref a139)]))
    refine Way.by (fun _ k => XS.dup X133.here hx rfl (hb hby at_45) rfl rfl k) ?_
    show Way _ _ _ _ (T131.setTop (mkF m 46 #[.val (.long p1), .second, iv p2, iv 1, rv uLIVE, .val (.long (p1 &&& (9223372036854775807 : Int64))), .second, .unset, .unset] [(.ref a139), (.ref a139)]))
    refine Way.by (fun _ k => XT.lload X133.here hx rfl (hb hby at_46) rfl k) ?_
    show Way _ _ _ _ (T131.setTop (mkF m 48 #[.val (.long p1), .second, iv p2, iv 1, rv uLIVE, .val (.long (p1 &&& (9223372036854775807 : Int64))), .second, .unset, .unset] [(.long (p1 &&& (9223372036854775807 : Int64))), (.ref a139), (.ref a139)]))
    refine Way.by (fun _ k => XS.aload X133.here hx rfl (hb hby at_48) rfl rfl k) ?_
    show Way _ _ _ _ (T131.setTop (mkF m 50 #[.val (.long p1), .second, iv p2, iv 1, rv uLIVE, .val (.long (p1 &&& (9223372036854775807 : Int64))), .second, .unset, .unset] [(.ref uLIVE), (.long (p1 &&& (9223372036854775807 : Int64))), (.ref a139), (.ref a139)]))
    have hz : ¬ (p1 &&& (9223372036854775807 : Int64)) < 0 := maskN p1
    have hnp : a139 ≠ uLIVE := (Old.ne O144 ELIVE.lt nw141).symm
    obtain ⟨_, _, ⟨T147, L149, k150, n151⟩, -, X148, hS160, hg161, ⟨Lc152, hQ153, l154, y155, z156⟩, st157⟩ := X133.specialBackS hx (y := (⟨"com/example/deduct/deduct/model/Bucket", "<init>", "(JLcom/example/deduct/deduct/model/Bucket$State;)V"⟩ : MethodName)) rfl hown0 (mvT hZ0 (tw hw 6 rfl)) (mvT hZ0 (tw hw 7 rfl)) (mvT hZ0 (tw hw 8 rfl)) (by decide) (backOfS (W := 1) (rmB l Z a0 hw [] a139 (p1 &&& (9223372036854775807 : Int64)) uLIVE uRETIRED h132 n0 Z142 A136 F145 F146 hz (fun q => absurd q neq) hnp nw141 O144 SRETIRED ELIVE) hZ0 (tw hw 8 rfl) (tw hw 5 rfl) (by decide) (by decide)) (g := (mkF m 50 #[.val (.long p1), .second, iv p2, iv 1, rv uLIVE, .val (.long (p1 &&& (9223372036854775807 : Int64))), .second, .unset, .unset] [(.ref uLIVE), (.long (p1 &&& (9223372036854775807 : Int64))), (.ref a139), (.ref a139)])) rfl (by rw [hml]; rfl) (Steps.refl _) (a := a139) (argsL := [(.long (p1 &&& (9223372036854775807 : Int64))), (.ref uLIVE)]) (rest := [(.ref a139)]) (lenOf pdB rfl) rfl (by show 2 * 0 + _ ≤ _; exact Nat.le_of_eq rfl) (hb hby at_50) (fun _ _ => ⟨rfl, e134, (Nat.le_of_ble_eq_true rfl), (Nat.le_of_ble_eq_true rfl)⟩)
    dsimp only [Pt.U, Pt.locs, Pt.cells, Pt.slots] at X148 l154 y155 z156 st157 hQ153 hS160 hg161
    subst l154 y155 z156
    obtain ⟨X163, hS164, hZ165, hown166⟩ := rebS hS0 (by rw [e134]; exact hk143) X148 hS160 hg161 hZ0 hown0
    obtain ⟨rfl, N167, K168, F_0169, F_1170, F_2171⟩ := hQ153
    have N158 := Fr.app N0 N167
    have E172 := A136.keep K168
    have Z173 := Nat.le_trans Z142 K168.1
    have O174 := O144.keep K168 (allS nw141 all0)
    refine Way.to st157 ?_
    show Way _ _ _ _ (T147.setTop (mkF m 53 #[.val (.long p1), .second, iv p2, iv 1, rv uLIVE, .val (.long (p1 &&& (9223372036854775807 : Int64))), .second, .unset, .unset] [(.ref a139)]))
    refine Way.by (fun _ k => XS.astore X163.here hx rfl (hb hby at_53) rfl rfl (l' := #[.val (.long p1), .second, iv p2, iv 1, rv uLIVE, .val (.long (p1 &&& (9223372036854775807 : Int64))), .second, rv a139, .unset]) rfl k) ?_
    show Way _ _ _ _ (T147.setTop (mkF m 55 #[.val (.long p1), .second, iv p2, iv 1, rv uLIVE, .val (.long (p1 &&& (9223372036854775807 : Int64))), .second, rv a139, .unset] []))
    refine Way.by (fun _ k => XS.aload X163.here hx rfl (hb hby at_55) rfl rfl k) ?_
    show Way _ _ _ _ (T147.setTop (mkF m 57 #[.val (.long p1), .second, iv p2, iv 1, rv uLIVE, .val (.long (p1 &&& (9223372036854775807 : Int64))), .second, rv a139, .unset] [(.ref a139)]))
    obtain ⟨cq191, kq192, qa193, qb194, qc195⟩ := isOf hZ165 rfl F_0169
    obtain ⟨_, _, ⟨T175, L177, k178, n179⟩, -, X176, ⟨Lc180, hQ181, l182, y183, z184⟩, st185⟩ := X163.virtualBack hx (y := (⟨"com/example/deduct/deduct/model/Bucket", "live", "()Z"⟩ : MethodName)) (z := (⟨"com/example/deduct/deduct/model/Bucket", "live", "()Z"⟩ : MethodName)) hown166 (mvT hZ165 (tw hw 31 rfl)) (mvT hZ165 (tw hw 32 rfl)) (notFace_of_selects (args := #[]) (mvT hZ165 (tw hw 34 rfl))) (mvT hZ165 (tw hw 34 rfl)) (mvT hZ165 (tw hw 33 rfl)) (by decide) (backOf (W := 0) (rmV l Z a0 hw [] a139 uLIVE (1 : Int32) uLIVE T147.heap n0 Z173 F_1170 (by simp [neq, neq.symm]) O174 SLIVE) hZ165 (tw hw 35 rfl) (tw hw 5 rfl) (by decide) (by decide)) qa193 qc195 (g := (mkF m 57 #[.val (.long p1), .second, iv p2, iv 1, rv uLIVE, .val (.long (p1 &&& (9223372036854775807 : Int64))), .second, rv a139, .unset] [(.ref a139)])) rfl (by rw [hml]; rfl) (Steps.refl _) (argsL := []) (rest := []) (lenOf pdV rfl) rfl (by show 2 * 0 + _ ≤ _; exact Nat.le_of_eq rfl) (hb hby at_57) (fun _ _ => ⟨rfl, rfl, (Nat.le_of_ble_eq_true rfl), (Nat.le_of_ble_eq_true rfl)⟩)
    dsimp only [Pt.U, Pt.locs, Pt.cells, Pt.slots] at X176 l182 y183 z184 st185 hQ181
    subst l182 y183 z184
    obtain ⟨rfl, N196, e187⟩ := hQ181
    have N186 := Fr.app N158 N196
    refine Way.to st185 ?_
    show Way _ _ _ _ (T175.setTop (mkF m 60 #[.val (.long p1), .second, iv p2, iv 1, rv uLIVE, .val (.long (p1 &&& (9223372036854775807 : Int64))), .second, rv a139, .unset] [(.int 1)]))
    refine Way.by (fun _ k => XS.istore X176.here hx rfl (hb hby at_60) rfl (l' := #[.val (.long p1), .second, iv p2, iv 1, rv uLIVE, .val (.long (p1 &&& (9223372036854775807 : Int64))), .second, rv a139, iv 1]) rfl k) ?_
    show Way _ _ _ _ (T175.setTop (mkF m 62 #[.val (.long p1), .second, iv p2, iv 1, rv uLIVE, .val (.long (p1 &&& (9223372036854775807 : Int64))), .second, rv a139, iv 1] []))
    refine Way.by (fun _ k => XS.iload X176.here hx rfl (hb hby at_62) rfl k) ?_
    show Way _ _ _ _ (T175.setTop (mkF m 64 #[.val (.long p1), .second, iv p2, iv 1, rv uLIVE, .val (.long (p1 &&& (9223372036854775807 : Int64))), .second, rv a139, iv 1] [(.int 1)]))
    refine Way.by (fun _ k => XS.iloadN X176.here hx rfl (hb hby at_64) rfl k) ?_
    show Way _ _ _ _ (T175.setTop (mkF m 65 #[.val (.long p1), .second, iv p2, iv 1, rv uLIVE, .val (.long (p1 &&& (9223372036854775807 : Int64))), .second, rv a139, iv 1] [(.int 1), (.int 1)]))
    have b198 : (1 : Int32) = (1 : Int32) := by decide
    refine Way.by (fun _ k => XS.icmpYes X176.here hx rfl (pc0 := 65) (pc' := 70) rfl (hb hby at_65) rfl (teq b198).1 (by decide) (by decide) k) ?_
    show Way _ _ _ _ (T175.setTop (mkF m 70 #[.val (.long p1), .second, iv p2, iv 1, rv uLIVE, .val (.long (p1 &&& (9223372036854775807 : Int64))), .second, rv a139, iv 1] []))
    refine Way.by (fun _ k => XS.iload X176.here hx rfl (hb hby at_70) rfl k) ?_
    show Way _ _ _ _ (T175.setTop (mkF m 72 #[.val (.long p1), .second, iv p2, iv 1, rv uLIVE, .val (.long (p1 &&& (9223372036854775807 : Int64))), .second, rv a139, iv 1] [(.int 1)]))
    have b199 : ¬ (1 : Int32) = (0 : Int32) := by decide
    refine Way.by (fun _ k => XS.ifYes X176.here hx rfl (pc0 := 72) (pc' := 87) rfl (hb hby at_72) rfl ((if0 .ne _).trans (feq b199).2) (by decide) (by decide) k) ?_
    show Way _ _ _ _ (T175.setTop (mkF m 87 #[.val (.long p1), .second, iv p2, iv 1, rv uLIVE, .val (.long (p1 &&& (9223372036854775807 : Int64))), .second, rv a139, iv 1] []))
    refine Way.by (fun _ k => XS.aload X176.here hx rfl (hb hby at_87) rfl rfl k) ?_
    show Way _ _ _ _ (T175.setTop (mkF m 89 #[.val (.long p1), .second, iv p2, iv 1, rv uLIVE, .val (.long (p1 &&& (9223372036854775807 : Int64))), .second, rv a139, iv 1] [(.ref a139)]))
    obtain ⟨cq216, kq217, qa218, qb219, qc220⟩ := isOf hZ165 e187 F_0169
    obtain ⟨_, _, ⟨T200, L202, k203, n204⟩, -, X201, ⟨Lc205, hQ206, l207, y208, z209⟩, st210⟩ := X176.virtualBack hx (y := (⟨"com/example/deduct/deduct/model/Bucket", "state", "()Lcom/example/deduct/deduct/model/Bucket$State;"⟩ : MethodName)) (z := (⟨"com/example/deduct/deduct/model/Bucket", "state", "()Lcom/example/deduct/deduct/model/Bucket$State;"⟩ : MethodName)) hown166 (mvT hZ165 (tw hw 43 rfl)) (mvT hZ165 (tw hw 44 rfl)) (notFace_of_selects (args := #[]) (mvT hZ165 (tw hw 46 rfl))) (mvT hZ165 (tw hw 46 rfl)) (mvT hZ165 (tw hw 45 rfl)) (by decide) (backOf (W := 0) (rmS l Z a0 hw [] a139 uLIVE T147.heap n0 Z173 F_1170) hZ165 (tw hw 47 rfl) (tw hw 5 rfl) (by decide) (by decide)) qa218 qc220 (g := (mkF m 89 #[.val (.long p1), .second, iv p2, iv 1, rv uLIVE, .val (.long (p1 &&& (9223372036854775807 : Int64))), .second, rv a139, iv 1] [(.ref a139)])) rfl (by rw [hml]; rfl) (Steps.refl _) (argsL := []) (rest := []) (lenOf pdS rfl) rfl (by show 2 * 0 + _ ≤ _; exact Nat.le_of_eq rfl) (hb hby at_89) (fun _ _ => ⟨rfl, e187, (Nat.le_of_ble_eq_true rfl), (Nat.le_of_ble_eq_true rfl)⟩)
    dsimp only [Pt.U, Pt.locs, Pt.cells, Pt.slots] at X201 l207 y208 z209 st210 hQ206
    subst l207 y208 z209
    obtain ⟨rfl, N221, e212⟩ := hQ206
    have N211 := Fr.app N186 N221
    refine Way.to st210 ?_
    show Way _ _ _ _ (T200.setTop (mkF m 92 #[.val (.long p1), .second, iv p2, iv 1, rv uLIVE, .val (.long (p1 &&& (9223372036854775807 : Int64))), .second, rv a139, iv 1] [(.ref uLIVE)]))
    refine Way.by (fun _ k => XS.aload X201.here hx rfl (hb hby at_92) rfl rfl k) ?_
    show Way _ _ _ _ (T200.setTop (mkF m 94 #[.val (.long p1), .second, iv p2, iv 1, rv uLIVE, .val (.long (p1 &&& (9223372036854775807 : Int64))), .second, rv a139, iv 1] [(.ref uLIVE), (.ref uLIVE)]))
    have b223 : uLIVE = uLIVE := rfl
    refine Way.by (fun _ k => acmp X201 hx rfl rfl rfl (pc0 := 94) (pc' := 97) (same := true) rfl (hb hby at_94) rfl (by simp [b223]) (by decide) (by decide) k) ?_
    show Way _ _ _ _ (T200.setTop (mkF m 97 #[.val (.long p1), .second, iv p2, iv 1, rv uLIVE, .val (.long (p1 &&& (9223372036854775807 : Int64))), .second, rv a139, iv 1] []))
    refine Way.by (fun _ k => XS.iconst X201.here hx rfl (hb hby at_97) k) ?_
    show Way _ _ _ _ (T200.setTop (mkF m 98 #[.val (.long p1), .second, iv p2, iv 1, rv uLIVE, .val (.long (p1 &&& (9223372036854775807 : Int64))), .second, rv a139, iv 1] [(.int 1)]))
    refine Way.by (fun _ k => XS.goto X201.here hx rfl (pc0 := 98) (pc' := 102) rfl (hb hby at_98) (by decide) (by decide) k) ?_
    show Way _ _ _ _ (T200.setTop (mkF m 102 #[.val (.long p1), .second, iv p2, iv 1, rv uLIVE, .val (.long (p1 &&& (9223372036854775807 : Int64))), .second, rv a139, iv 1] [(.int 1)]))
    refine Way.retW (v := (some (.int (nar .boolean (1 : Int32))))) X201 hS164 (by rw [e212]; exact (Nat.le_refl _)) hlk (fun h => by rw [Bd.returns] at h; cases h) (fun fs hr => retN X201 hx (t := .boolean) Bd.returns (by simp) (hb hby at_102) hr) ?_ (by decide) (by decide)
    show Q0 n0 _ T200.heap _
    rw [e212]
    exact ⟨rfl, N211⟩
set_option maxRecDepth 65536 in
set_option maxHeartbeats 40000000 in
theorem comes_1 {Post : Tables → Env → Array Value → State → Outcome → State → Prop} (hpost : ∀ tb e args s v u, (limb_1_1.after args s (.returned v) u = true ∧ limb_1_2.after args s (.returned v) u = true ∧ True) → ReturnedEndW s (.returned v) u (Jvm.fieldLocs frame_1_writes args s ++ Jvm.arrayLocs frame_1_arrays args s ++ Jvm.staticLocs frame_1_statics s) 16 1152 → Post tb e args s (.returned v) u) :
    ArmFor flags0 classFile x code maxLocals ret World_1 tables_1 room_1 Calls_1 rest_1 Pre_1 Post := by
  intro l hfl _ _ p e ha hc hk s m args below hf hA hF happ hP
  obtain ⟨hcalls, hrest, hpre⟩ := hP
  obtain ⟨-, -, -, hnamed, -, -, -, hat⟩ := (Spec.applies_iff hf).mp happ
  obtain ⟨hg, hn⟩ := and_e (Cond.before_iff.mp (show (Jvm.Cond.and given_1 narrow_1).before args s = true from hpre))
  obtain ⟨hg0, hgr0⟩ := and_e hg
  obtain ⟨hg1, hgr1⟩ := and_e hgr0
  obtain ⟨w0, w1, rfl⟩ : ∃ w0 w1 : Value, args = #[w0, w1] := by
    have hs : args.size = 2 := by simpa [Cond.value, given_1] using hg0
    obtain ⟨L⟩ := args
    match L, hs with
    | [w0, w1], _ => exact ⟨w0, w1, rfl⟩
  have hw := fun d (hd : d ∈ tables_1) => atoms_spec (ws := Jvm.Cond.code x code maxLocals ret :: tables_1) hat d (List.mem_cons_of_mem _ hd)
  have hfit : Fit s := fun {y c} hc i hi => by
    obtain ⟨ha, rfl⟩ := Array.getElem?_eq_some_iff.mp hc
    have q := List.all_eq_true.mp ((Array.all_eq_true_iff_forall_mem.mp hF) _ (Array.getElem_mem ha)) i (List.mem_range.mpr hi)
    simpa [Array.getElem?_eq_getElem hi] using q
  obtain ⟨i0, ei0⟩ := isL_v hg1
  obtain rfl : w0 = (.long i0) := Option.some.inj ei0
  obtain ⟨i1, ei1⟩ := is_v hgr1
  obtain rfl : w1 = (.int i1) := Option.some.inj ei1
  obtain ⟨hn0, hnr0⟩ := and_e hn
  obtain ⟨hn1, hnr1⟩ := and_e hnr0
  obtain ⟨hn2, hnr2⟩ := and_e hnr1
  obtain ⟨uRETIRED, _, _, _, evRETIRED, -⟩ := Cond.exactly_spec (Cond.before_iff.mpr hn0)
  have SRETIRED := Sta.start evRETIRED (Or.inr ⟨(tw hw 1 rfl), (tw hw 2 rfl)⟩)
  have ERETIRED := Exa.start evRETIRED hn0
  obtain ⟨uLIVE, _, _, _, evLIVE, -⟩ := Cond.exactly_spec (Cond.before_iff.mpr hn1)
  have SLIVE := Sta.start evLIVE (Or.inr ⟨(tw hw 1 rfl), (tw hw 37 rfl)⟩)
  have ELIVE := Exa.start evLIVE hn1
  have FRETIRED_ordinal := fldStart evRETIRED hn2
  have FLIVE_ordinal := fldStart evLIVE hnr2
  have neq := Fld.ne FLIVE_ordinal FRETIRED_ordinal (by decide)
  obtain ⟨n, o, h1, h2, h3, _, L, rfl, ⟨rfl, N⟩, hq⟩ := rm0 l s _ hw tables_1 i0 i1 uRETIRED uLIVE s.heap s.heap.size (Nat.le_refl _) (Old.start s) SRETIRED SLIVE ERETIRED ELIVE neq p e ha hc hk s m _ below hf ((Spec.applies_iff_loose hf).mp happ).1 ⟨rfl, State.Warmed39.refl s, rfl⟩ trivial
  refine ⟨n, _, h1, h2, h3, hpost _ _ _ _ _ _ ⟨Cond.after_iff.mpr rfl, Cond.after_iff.mpr (eq_i res_at (Term.int_eval (1)) rfl), trivial⟩ ⟨hq.1, hq.2.1, hq.2.2.1, (hq.2.2.2.sift fun y hy => Or.inr (N y hy)).mono (by decide) (by decide)⟩⟩
theorem main_1_1 : Claimed_1_1 := comes_1 fun _ _ _ _ _ _ h hF => ⟨h.1, hF⟩
theorem main_1_2 : Claimed_1_2 := comes_1 fun _ _ _ _ _ _ h hF => ⟨h.2.1, hF⟩
end Jvm.Pilot.@@N@@
namespace Jvm.Pilot.@@N@@
open Jvm Jvm.ClassFile Sem Op Lib Jvm.Free Jvm.Stand Jvm.Pilot.@@N@@.Jvm.D
/-! MADE BY PROGRAM (witnessworld.py) out of the Statement's table words and the real class files: 16 classes; the members and pool entries that the words name. The judged class is class 1, her method 1. -/
namespace start1
open Jvm.ClassFile
def u (s : String) : CpInfo := .utf8 (stringToUtf16 s)
/-- a pool by its gaps: so many unusable entries, then the entry; so many at the end -/
def gap : Nat → List CpInfo → List CpInfo
  | 0, r => r
  | n + 1, r => .unusable :: gap n r
def poolList (es : List (Nat × CpInfo)) (last : Nat) : List CpInfo := es.foldr (fun e r => gap e.1 (e.2 :: r)) (gap last [])
def pool (es : List (Nat × CpInfo)) (last : Nat) : Array CpInfo := ⟨poolList es last⟩
def fileOf (pool : Array CpInfo) (this : Nat) (attrs : Array Attribute := #[]) (ms : Array MethodInfo := #[]) (fl : Nat := 33) (sup : Nat := 0) (ifs : Array Nat := #[]) (fds : Array FieldInfo := #[]) : ClassFile where
  minorVersion := 0
  majorVersion := 65
  constantPool := pool
  accessFlags := fl
  thisClass := this
  superClass := sup
  interfaces := ifs
  fields := fds
  methods := ms
  attributes := attrs
def plain (name : String) (sup : Option ClassId) : Class where
  name := name
  kind := .ordinary
  loader := none
  accessFlags := 33
  super := sup
  interfaces := #[]
  cf := none
  fields := #[]
  methods := #[]
  instanceTypes := #[]
  staticTypes := #[]
  resolved := #[]
  callSites := []
  init := .initialized
  statics := none
  mirror := none

def pool0 : Array CpInfo := pool [(5, u "<init>"), (0, u "()V"), (1, .class_ 10), (1, u "java/lang/Object")] 113

def k0c0 : Code := { maxStack := 0, maxLocals := 1, code := object_method_1_code, exceptionTable := #[], attributes := #[] }
def k0m0 : Method := { name := "<init>", desc := "()V", sig := { parameters := [], returnType := none }, accessFlags := 1, code := some k0c0 }
/-- java/lang/Object -/
def k0 : Class := { plain "java/lang/Object" none with
  accessFlags := 33
  interfaces := #[]
  cf := some (fileOf pool0 8 #[] #[{ accessFlags := 1, nameIndex := 5, descriptorIndex := 6, attributes := #[] }] 33 0 #[] #[])
  fields := #[]
  methods := #[k0m0]
  instanceTypes := #[]
  staticTypes := #[]
  resolved := Array.replicate 124 none
  statics := none }

def pool1 : Array CpInfo := pool [(2, .class_ 4), (1, u "java/lang/Object"), (0, u "<init>"), (0, u "()V"), (0, .fieldref 8 9), (0, .class_ 10), (0, .nameAndType 11 12), (0, u "com/example/deduct/deduct/model/Bucket$State"), (0, u "LIVE"), (0, u "Lcom/example/deduct/deduct/model/Bucket$State;"), (0, .fieldref 8 14), (0, .nameAndType 15 12), (0, u "RETIRED"), (2, .long 9223372036854775807), (1, .class_ 21), (0, u "com/example/deduct/deduct/model/Bucket"), (0, .methodref 20 23), (0, .nameAndType 5 24), (0, u "(JLcom/example/deduct/deduct/model/Bucket$State;)V"), (0, .methodref 20 26), (0, .nameAndType 27 28), (0, u "live"), (0, u "()Z"), (0, .methodref 20 30), (0, .nameAndType 31 32), (0, u "available"), (0, u "()J"), (0, .methodref 20 34), (0, .nameAndType 35 36), (0, u "state"), (0, u "()Lcom/example/deduct/deduct/model/Bucket$State;"), (0, .class_ 38), (0, u "com/example/deduct/deduct/model/BucketLivePinLaw"), (2, u "law"), (0, u "(JI)Z")] 5

def k1m0 : Method := { name := "<init>", desc := "()V", sig := { parameters := [], returnType := none }, accessFlags := 1, code := none }
def k1c1 : Code := { maxStack := 5, maxLocals := 9, code := code, exceptionTable := #[], attributes := #[] }
def k1m1 : Method := { name := "law", desc := "(JI)Z", sig := { parameters := [.long, .int], returnType := some .boolean }, accessFlags := 9, code := some k1c1 }
/-- com/example/deduct/deduct/model/BucketLivePinLaw -/
def k1 : Class := { plain "com/example/deduct/deduct/model/BucketLivePinLaw" (some 0) with
  accessFlags := 49
  interfaces := #[]
  cf := some (fileOf pool1 37 #[] #[{ accessFlags := 1, nameIndex := 5, descriptorIndex := 6, attributes := #[] }, { accessFlags := 9, nameIndex := 41, descriptorIndex := 42, attributes := #[] }] 49 2 #[] #[])
  fields := #[]
  methods := #[k1m0, k1m1]
  instanceTypes := #[]
  staticTypes := #[]
  resolved := Array.replicate 48 none
  statics := none }

def pool2 : Array CpInfo := pool [(1, .class_ 2), (0, u "java/lang/constant/Constable"), (0, .class_ 4), (0, u "java/lang/Object")] 6

/-- java/lang/constant/Constable -/
def k2 : Class := { plain "java/lang/constant/Constable" (some 0) with
  accessFlags := 1537
  interfaces := #[]
  cf := some (fileOf pool2 1 #[] #[] 1537 3 #[] #[])
  fields := #[]
  methods := #[]
  instanceTypes := #[]
  staticTypes := #[]
  resolved := Array.replicate 11 none
  statics := none }

def pool3 : Array CpInfo := pool [(1, .class_ 2), (0, u "java/lang/Comparable"), (0, .class_ 4), (0, u "java/lang/Object")] 7

/-- java/lang/Comparable -/
def k3 : Class := { plain "java/lang/Comparable" (some 0) with
  accessFlags := 1537
  interfaces := #[]
  cf := some (fileOf pool3 1 #[] #[] 1537 3 #[] #[])
  fields := #[]
  methods := #[]
  instanceTypes := #[]
  staticTypes := #[]
  resolved := Array.replicate 12 none
  statics := none }

def pool4 : Array CpInfo := pool [(1, .class_ 2), (0, u "java/io/Serializable"), (0, .class_ 4), (0, u "java/lang/Object")] 2

/-- java/io/Serializable -/
def k4 : Class := { plain "java/io/Serializable" (some 0) with
  accessFlags := 1537
  interfaces := #[]
  cf := some (fileOf pool4 1 #[] #[] 1537 3 #[] #[])
  fields := #[]
  methods := #[]
  instanceTypes := #[]
  staticTypes := #[]
  resolved := Array.replicate 7 none
  statics := none }

def pool5 : Array CpInfo := pool [(2, .class_ 4), (1, u "java/lang/Enum"), (0, u "name"), (0, u "Ljava/lang/String;"), (2, u "ordinal"), (0, u "I"), (1, .class_ 14), (1, u "java/lang/Object"), (4, u "hash"), (86, .class_ 108), (1, u "java/lang/Enum$EnumDesc"), (2, .class_ 112), (0, u "java/lang/constant/Constable"), (0, .class_ 114), (0, u "java/lang/Comparable"), (0, .class_ 116), (0, u "java/io/Serializable")] 87

/-- java/lang/Enum -/
def k5 : Class := { plain "java/lang/Enum" (some 0) with
  accessFlags := 1057
  interfaces := #[2, 3, 4]
  cf := some (fileOf pool5 2 #[.nestMembers #[106]] #[] 1057 12 #[111, 113, 115] #[{ accessFlags := 18, nameIndex := 5, descriptorIndex := 6, attributes := #[] }, { accessFlags := 18, nameIndex := 9, descriptorIndex := 10, attributes := #[] }, { accessFlags := 2, nameIndex := 19, descriptorIndex := 10, attributes := #[] }])
  fields := #[{ name := "name", type := (.object "java/lang/String"), accessFlags := 18, slot := 0, constantValue := 0 }, { name := "ordinal", type := .int, accessFlags := 18, slot := 1, constantValue := 0 }, { name := "hash", type := .int, accessFlags := 2, slot := 2, constantValue := 0 }]
  methods := #[]
  instanceTypes := #[(.object "java/lang/String"), .int, .int]
  staticTypes := #[]
  resolved := Array.replicate 204 none
  statics := none }

def pool6 : Array CpInfo := pool [(9, .class_ 10), (0, u "com/example/deduct/deduct/model/Worded"), (23, .class_ 35), (0, u "java/lang/Object")] 24

/-- com/example/deduct/deduct/model/Worded -/
def k6 : Class := { plain "com/example/deduct/deduct/model/Worded" (some 0) with
  accessFlags := 1537
  interfaces := #[]
  cf := some (fileOf pool6 9 #[] #[] 1537 34 #[] #[])
  fields := #[]
  methods := #[]
  instanceTypes := #[]
  staticTypes := #[]
  resolved := Array.replicate 60 none
  statics := none }

def pool7 : Array CpInfo := pool [(1, .class_ 2), (0, u "com/example/deduct/deduct/model/Bucket$State"), (2, u "LIVE"), (0, u "Lcom/example/deduct/deduct/model/Bucket$State;"), (2, u "RETIRED"), (2, u "$VALUES"), (0, u "[Lcom/example/deduct/deduct/model/Bucket$State;"), (6, .class_ 22), (1, u "java/lang/Enum"), (8, u "word"), (0, u "Ljava/lang/String;"), (13, .class_ 47), (0, u "com/example/deduct/deduct/model/Worded"), (14, .class_ 63), (0, u "com/example/deduct/deduct/model/Bucket")] 2

/-- com/example/deduct/deduct/model/Bucket$State -/
def k7 : Class := { plain "com/example/deduct/deduct/model/Bucket$State" (some 5) with
  accessFlags := 16433
  interfaces := #[6]
  cf := some (fileOf pool7 1 #[.nestHost 62] #[] 16433 20 #[46] #[{ accessFlags := 16409, nameIndex := 5, descriptorIndex := 6, attributes := #[] }, { accessFlags := 16409, nameIndex := 9, descriptorIndex := 6, attributes := #[] }, { accessFlags := 18, nameIndex := 31, descriptorIndex := 32, attributes := #[] }, { accessFlags := 4122, nameIndex := 12, descriptorIndex := 13, attributes := #[] }])
  fields := #[{ name := "LIVE", type := (.object "com/example/deduct/deduct/model/Bucket$State"), accessFlags := 16409, slot := 0, constantValue := 0 }, { name := "RETIRED", type := (.object "com/example/deduct/deduct/model/Bucket$State"), accessFlags := 16409, slot := 1, constantValue := 0 }, { name := "word", type := (.object "java/lang/String"), accessFlags := 18, slot := 3, constantValue := 0 }, { name := "$VALUES", type := (.array (.object "com/example/deduct/deduct/model/Bucket$State")), accessFlags := 4122, slot := 2, constantValue := 0 }]
  methods := #[]
  instanceTypes := #[(.object "java/lang/String"), .int, .int, (.object "java/lang/String")]
  staticTypes := #[(.object "com/example/deduct/deduct/model/Bucket$State"), (.object "com/example/deduct/deduct/model/Bucket$State"), (.array (.object "com/example/deduct/deduct/model/Bucket$State"))]
  resolved := Array.replicate 66 none
  statics := some 0 }

def pool8 : Array CpInfo := pool [(1, .methodref 2 3), (0, .class_ 4), (0, .nameAndType 5 6), (0, u "java/lang/Object"), (0, u "<init>"), (0, u "()V"), (0, .string 8), (0, u "state"), (0, .methodref 10 11), (0, .class_ 12), (0, .nameAndType 13 14), (0, u "java/util/Objects"), (0, u "requireNonNull"), (0, u "(Ljava/lang/Object;Ljava/lang/String;)Ljava/lang/Object;"), (0, .class_ 16), (0, u "com/example/deduct/deduct/model/Bucket$State"), (0, .fieldref 18 19), (0, .class_ 20), (0, .nameAndType 8 21), (0, u "com/example/deduct/deduct/model/Bucket"), (0, u "Lcom/example/deduct/deduct/model/Bucket$State;"), (0, .fieldref 15 23), (0, .nameAndType 24 21), (0, u "RETIRED"), (13, .fieldref 18 39), (0, .nameAndType 40 41), (0, u "available"), (0, u "J"), (0, .fieldref 15 43), (0, .nameAndType 44 21), (0, u "LIVE"), (0, u "(JLcom/example/deduct/deduct/model/Bucket$State;)V"), (3, u "()J"), (0, u "()Lcom/example/deduct/deduct/model/Bucket$State;"), (0, u "live"), (0, u "()Z")] 19

def k8c0 : Code := { maxStack := 5, maxLocals := 4, code := prog_4_method_1_code, exceptionTable := #[], attributes := #[] }
def k8m0 : Method := { name := "<init>", desc := "(JLcom/example/deduct/deduct/model/Bucket$State;)V", sig := { parameters := [.long, (.object "com/example/deduct/deduct/model/Bucket$State")], returnType := none }, accessFlags := 1, code := some k8c0 }
def k8c1 : Code := { maxStack := 2, maxLocals := 1, code := prog_4_method_2_code, exceptionTable := #[], attributes := #[] }
def k8m1 : Method := { name := "available", desc := "()J", sig := { parameters := [], returnType := some .long }, accessFlags := 1, code := some k8c1 }
def k8c2 : Code := { maxStack := 1, maxLocals := 1, code := prog_4_method_3_code, exceptionTable := #[], attributes := #[] }
def k8m2 : Method := { name := "state", desc := "()Lcom/example/deduct/deduct/model/Bucket$State;", sig := { parameters := [], returnType := some (.object "com/example/deduct/deduct/model/Bucket$State") }, accessFlags := 1, code := some k8c2 }
def k8c3 : Code := { maxStack := 2, maxLocals := 1, code := prog_4_method_4_code, exceptionTable := #[], attributes := #[] }
def k8m3 : Method := { name := "live", desc := "()Z", sig := { parameters := [], returnType := some .boolean }, accessFlags := 1, code := some k8c3 }
/-- com/example/deduct/deduct/model/Bucket -/
def k8 : Class := { plain "com/example/deduct/deduct/model/Bucket" (some 0) with
  accessFlags := 49
  interfaces := #[]
  cf := some (fileOf pool8 18 #[.nestMembers #[15]] #[{ accessFlags := 1, nameIndex := 5, descriptorIndex := 45, attributes := #[] }, { accessFlags := 1, nameIndex := 40, descriptorIndex := 49, attributes := #[] }, { accessFlags := 1, nameIndex := 8, descriptorIndex := 50, attributes := #[] }, { accessFlags := 1, nameIndex := 51, descriptorIndex := 52, attributes := #[] }] 49 2 #[] #[{ accessFlags := 18, nameIndex := 40, descriptorIndex := 41, attributes := #[] }, { accessFlags := 18, nameIndex := 8, descriptorIndex := 21, attributes := #[] }])
  fields := #[{ name := "available", type := .long, accessFlags := 18, slot := 0, constantValue := 0 }, { name := "state", type := (.object "com/example/deduct/deduct/model/Bucket$State"), accessFlags := 18, slot := 1, constantValue := 0 }]
  methods := #[k8m0, k8m1, k8m2, k8m3]
  instanceTypes := #[.long, (.object "com/example/deduct/deduct/model/Bucket$State")]
  staticTypes := #[]
  resolved := Array.replicate 72 none
  statics := none }

def pool9 : Array CpInfo := pool [(2, .class_ 4), (1, u "java/lang/CharSequence"), (42, .class_ 48), (0, u "java/lang/CharSequence$1CodePointIterator"), (10, .class_ 60), (0, u "java/lang/CharSequence$1CharIterator"), (5, .class_ 67), (0, u "java/lang/Object")] 63

/-- java/lang/CharSequence -/
def k9 : Class := { plain "java/lang/CharSequence" (some 0) with
  accessFlags := 1537
  interfaces := #[]
  cf := some (fileOf pool9 2 #[.nestMembers #[47, 59]] #[] 1537 66 #[] #[])
  fields := #[]
  methods := #[]
  instanceTypes := #[]
  staticTypes := #[]
  resolved := Array.replicate 131 none
  statics := none }

def pool10 : Array CpInfo := pool [(1, .class_ 2), (0, u "java/lang/constant/ConstantDesc"), (0, .class_ 4), (0, u "java/lang/Object")] 32

/-- java/lang/constant/ConstantDesc -/
def k10 : Class := { plain "java/lang/constant/ConstantDesc" (some 0) with
  accessFlags := 1537
  interfaces := #[]
  cf := some (fileOf pool10 1 #[] #[] 1537 3 #[] #[])
  fields := #[]
  methods := #[]
  instanceTypes := #[]
  staticTypes := #[]
  resolved := Array.replicate 37 none
  statics := none }

def pool11 : Array CpInfo := pool [(2, .class_ 4), (1, u "java/lang/Object"), (0, u "<init>"), (0, u "()V"), (3, .class_ 12), (1, u "java/lang/String"), (0, u "value"), (0, u "[B"), (2, u "coder"), (0, u "B"), (2, u "hash"), (0, u "I"), (2, u "hashIsZero"), (0, u "Z"), (13, u "COMPACT_STRINGS"), (534, .class_ 576), (0, u "java/lang/CharSequence"), (22, u "CASE_INSENSITIVE_ORDER"), (0, u "Ljava/util/Comparator;"), (500, u "serialPersistentFields"), (0, u "[Ljava/io/ObjectStreamField;"), (0, .class_ 1104), (0, u "java/lang/String$CaseInsensitiveComparator"), (1, .class_ 1107), (0, u "java/io/Serializable"), (0, .class_ 1109), (0, u "java/lang/Comparable"), (0, .class_ 1111), (0, u "java/lang/constant/Constable"), (0, .class_ 1113), (0, u "java/lang/constant/ConstantDesc"), (2, u "serialVersionUID"), (0, u "J"), (3, u "REPL"), (0, u "C"), (2, u "LATIN1"), (1, u "UTF16")] 323

def k11m0 : Method := { name := "<init>", desc := "()V", sig := { parameters := [], returnType := none }, accessFlags := 1, code := none }
/-- java/lang/String -/
def k11 : Class := { plain "java/lang/String" (some 0) with
  accessFlags := 49
  interfaces := #[4, 3, 9, 2, 10]
  cf := some (fileOf pool11 10 #[.nestMembers #[1103]] #[{ accessFlags := 1, nameIndex := 5, descriptorIndex := 6, attributes := #[] }] 49 2 #[1106, 1108, 575, 1110, 1112] #[{ accessFlags := 18, nameIndex := 13, descriptorIndex := 14, attributes := #[] }, { accessFlags := 18, nameIndex := 17, descriptorIndex := 18, attributes := #[] }, { accessFlags := 2, nameIndex := 21, descriptorIndex := 22, attributes := #[] }, { accessFlags := 2, nameIndex := 25, descriptorIndex := 26, attributes := #[] }, { accessFlags := 26, nameIndex := 1116, descriptorIndex := 1117, attributes := #[] }, { accessFlags := 24, nameIndex := 40, descriptorIndex := 26, attributes := #[] }, { accessFlags := 26, nameIndex := 1101, descriptorIndex := 1102, attributes := #[] }, { accessFlags := 26, nameIndex := 1121, descriptorIndex := 1122, attributes := #[] }, { accessFlags := 25, nameIndex := 599, descriptorIndex := 600, attributes := #[] }, { accessFlags := 24, nameIndex := 1125, descriptorIndex := 18, attributes := #[] }, { accessFlags := 24, nameIndex := 1127, descriptorIndex := 18, attributes := #[] }])
  fields := #[{ name := "value", type := (.array .byte), accessFlags := 18, slot := 0, constantValue := 0 }, { name := "coder", type := .byte, accessFlags := 18, slot := 1, constantValue := 0 }, { name := "hash", type := .int, accessFlags := 2, slot := 2, constantValue := 0 }, { name := "hashIsZero", type := .boolean, accessFlags := 2, slot := 3, constantValue := 0 }, { name := "serialVersionUID", type := .long, accessFlags := 26, slot := 0, constantValue := 0 }, { name := "COMPACT_STRINGS", type := .boolean, accessFlags := 24, slot := 1, constantValue := 0 }, { name := "serialPersistentFields", type := (.array (.object "java/io/ObjectStreamField")), accessFlags := 26, slot := 2, constantValue := 0 }, { name := "REPL", type := .char, accessFlags := 26, slot := 3, constantValue := 0 }, { name := "CASE_INSENSITIVE_ORDER", type := (.object "java/util/Comparator"), accessFlags := 25, slot := 4, constantValue := 0 }, { name := "LATIN1", type := .byte, accessFlags := 24, slot := 5, constantValue := 0 }, { name := "UTF16", type := .byte, accessFlags := 24, slot := 6, constantValue := 0 }]
  methods := #[k11m0]
  instanceTypes := #[(.array .byte), .byte, .int, .boolean]
  staticTypes := #[.long, .boolean, (.array (.object "java/io/ObjectStreamField")), .char, (.object "java/util/Comparator"), .byte, .byte]
  resolved := Array.replicate 1451 none
  statics := none }

def pool12 : Array CpInfo := pool [(2, .class_ 4), (1, u "java/lang/Object"), (0, u "<init>"), (0, u "()V"), (35, .class_ 44), (1, u "java/util/Objects"), (0, u "requireNonNull"), (48, u "(Ljava/lang/Object;Ljava/lang/String;)Ljava/lang/Object;")] 89

def k12m0 : Method := { name := "<init>", desc := "()V", sig := { parameters := [], returnType := none }, accessFlags := 2, code := none }
def k12c1 : Code := { maxStack := 3, maxLocals := 2, code := jdk_31_method_11_code, exceptionTable := #[], attributes := #[] }
def k12m1 : Method := { name := "requireNonNull", desc := "(Ljava/lang/Object;Ljava/lang/String;)Ljava/lang/Object;", sig := { parameters := [(.object "java/lang/Object"), (.object "java/lang/String")], returnType := some (.object "java/lang/Object") }, accessFlags := 9, code := some k12c1 }
/-- java/util/Objects -/
def k12 : Class := { plain "java/util/Objects" (some 0) with
  accessFlags := 49
  interfaces := #[]
  cf := some (fileOf pool12 42 #[] #[{ accessFlags := 2, nameIndex := 5, descriptorIndex := 6, attributes := #[] }, { accessFlags := 9, nameIndex := 45, descriptorIndex := 94, attributes := #[] }] 49 2 #[] #[])
  fields := #[]
  methods := #[k12m0, k12m1]
  instanceTypes := #[]
  staticTypes := #[]
  resolved := Array.replicate 184 none
  statics := none }

def pool13 : Array CpInfo := pool [(1, u "java/lang/Cloneable"), (0, .class_ 1), (0, u "java/lang/Object"), (0, .class_ 3)] 3

/-- java/lang/Cloneable -/
def k13 : Class := { plain "java/lang/Cloneable" (some 0) with
  accessFlags := 1537
  interfaces := #[]
  cf := some (fileOf pool13 2 #[] #[] 1537 4 #[] #[])
  fields := #[]
  methods := #[]
  instanceTypes := #[]
  staticTypes := #[]
  resolved := Array.replicate 8 none
  statics := none }

/-- the primitive byte -/
def k14 : Class := { plain "byte" none with kind := .primitive 'B', accessFlags := 0x411 }
/-- [B -/
def k15 : Class := { plain "[B" (some 0) with kind := .array 14 .byte, interfaces := #[13, 4], accessFlags := 1041 }

def heap : Heap := #[{ cls := 7, slots := #[.ref 2, .ref 1, .null], vm := .statics 7 },
  { cls := 7, slots := #[.null, .int 1, .int 0, .null], vm := .none },
  { cls := 7, slots := #[.null, .int 0, .int 0, .null], vm := .none }]
def classes : Array Class := #[k0, k1, k2, k3, k4, k5, k6, k7, k8, k9, k10, k11, k12, k13, k14, k15]
def interned : List (Array UInt16 × Addr) := []
def slotsUsed : Nat := 11
def theMethod : MethodId := ⟨1, 1⟩
def args0 : Array Value := #[.long 4, .int 7]
def aboutOver (below : List Frame) : State where
  vm := { classes := classes, interned := interned.toArray }
  heap := heap
  slotsUsed := slotsUsed
  threads := #[{ frames := .invoking theMethod args0 :: below }]
def below0 : List Frame := [.native { method := ⟨0, 0⟩, args := #[] }]
def about1 : State := aboutOver below0
def p0 : Program := .bare "" "" ""
def e0 : Env := launch0.env 0 0 0
theorem w_frames : about1.frames = Frame.invoking theMethod args0 :: below0 := rfl
set_option maxRecDepth 65536 in
theorem w_args : argsFit about1.vm theMethod args0 = true := by decide +kernel
set_option maxRecDepth 65536 in
theorem w_heap : heapFits about1 = true := by decide +kernel
set_option maxRecDepth 65536 in
theorem w_runnable : about1.curStatus? = some .runnable := by decide +kernel
set_option maxRecDepth 65536 in
theorem w_alone : about1.alone = true := by decide +kernel
set_option maxRecDepth 65536 in
theorem w_named : about1.methodNamed? x = some theMethod := by decide +kernel
set_option maxRecDepth 65536 in
theorem w_hears : about1.hears theMethod below0 = true := by decide +kernel
set_option maxRecDepth 65536 in
theorem w_ripe : about1.ripe theMethod args0 below0 = true := by decide +kernel
theorem w_running : about1.status = .running := rfl
set_option maxRecDepth 65536 in
theorem w_room : about1.hasRoom e0.platform room_1 = true :=
  launch0.hasRoom_least _ room_1 (by decide +kernel) (by decide +kernel) (by decide +kernel) (by decide +kernel) (by decide +kernel) (by decide +kernel)
theorem allAtoms_all (ts : List Jvm.Cond) (a : Array Jvm.Value) (st : Jvm.State) : (allAtoms ts).before a st = ts.all (fun c => c.before a st) := by
  induction ts with
  | nil => rfl
  | cons c t ih =>
    show (Jvm.Cond.and c (allAtoms t)).before a st = _
    rw [Jvm.Cond.before_and, ih, List.all_cons]
def words1 : List Jvm.Cond := Jvm.Cond.code x code maxLocals ret :: tables_1
/-- a 'code' word, met by the world's own term for the bytes: nothing is compared byte by byte -/
theorem code_word {y : MethodName} {bytes : ByteArray} {mx : Nat} {rt : Option FieldType} {a : Array Value} {s : State} {m : MethodId} {meth : Method} {c : Code} (h1 : s.methodNamed? y = some m) (h2 : s.vm.method? m = some meth) (h3 : meth.code = some c) (h4 : c.code = bytes)
    (h5 : (c.maxLocals == mx && c.exceptionTable.isEmpty && decide (c.maxStack ≤ mostOperands) && decide (meth.sig.returnType = rt) && !meth.locks && decide (parseMethodDescriptor y.desc = some meth.sig)) = true) : (Jvm.Cond.code y bytes mx rt).before a s = true := by
  simp only [Bool.and_eq_true, beq_iff_eq, Bool.not_eq_true', decide_eq_true_eq] at h5
  obtain ⟨⟨⟨⟨⟨g1, g2⟩, g3⟩, g4⟩, g5⟩, g6⟩ := h5
  simp [Cond.before, Cond.holds, Cond.value, h1, h2, h3, h4, g1, g2, g3, g4, g5, g6]
def isCode : Jvm.Cond → Bool
  | .code _ _ _ _ => true
  | _ => false
theorem all_split {L : List Jvm.Cond} {P : Jvm.Cond → Bool} (h1 : L.all (fun c => isCode c || P c) = true) (h2 : ∀ c ∈ L.filter isCode, P c = true) : L.all P = true := by
  refine List.all_eq_true.mpr fun c hc => ?_
  have h := List.all_eq_true.mp h1 c hc
  rcases Bool.eq_false_or_eq_true (isCode c) with hi | hi
  · exact h2 c (List.mem_filter.mpr ⟨hc, hi⟩)
  · simpa [hi] using h
set_option maxRecDepth 65536 in
theorem w_c0 : (Jvm.Cond.code x code maxLocals ret).before args0 about1 = true := code_word (m := ⟨1, 1⟩) (meth := k1m1) (c := k1c1) (by decide +kernel) rfl rfl rfl (by decide +kernel)
set_option maxRecDepth 65536 in
theorem w_c1 : (Jvm.Cond.code ({ cls := "com/example/deduct/deduct/model/Bucket", name := "<init>", desc := "(JLcom/example/deduct/deduct/model/Bucket$State;)V" } : Jvm.MethodName) prog_4_method_1_code (4 : Nat) (Option.none : Option Jvm.ClassFile.FieldType)).before args0 about1 = true := code_word (m := ⟨8, 0⟩) (meth := k8m0) (c := k8c0) (by decide +kernel) rfl rfl rfl (by decide +kernel)
set_option maxRecDepth 65536 in
theorem w_c2 : (Jvm.Cond.code ({ cls := "java/lang/Object", name := "<init>", desc := "()V" } : Jvm.MethodName) object_method_1_code (1 : Nat) (Option.none : Option Jvm.ClassFile.FieldType)).before args0 about1 = true := code_word (m := ⟨0, 0⟩) (meth := k0m0) (c := k0c0) (by decide +kernel) rfl rfl rfl (by decide +kernel)
set_option maxRecDepth 65536 in
theorem w_c3 : (Jvm.Cond.code ({ cls := "java/util/Objects", name := "requireNonNull", desc := "(Ljava/lang/Object;Ljava/lang/String;)Ljava/lang/Object;" } : Jvm.MethodName) jdk_31_method_11_code (2 : Nat) (Option.some (Jvm.ClassFile.FieldType.object "java/lang/Object"))).before args0 about1 = true := code_word (m := ⟨12, 1⟩) (meth := k12m1) (c := k12c1) (by decide +kernel) rfl rfl rfl (by decide +kernel)
set_option maxRecDepth 65536 in
theorem w_c4 : (Jvm.Cond.code ({ cls := "com/example/deduct/deduct/model/Bucket", name := "live", desc := "()Z" } : Jvm.MethodName) prog_4_method_4_code (1 : Nat) (Option.some Jvm.ClassFile.FieldType.boolean)).before args0 about1 = true := code_word (m := ⟨8, 3⟩) (meth := k8m3) (c := k8c3) (by decide +kernel) rfl rfl rfl (by decide +kernel)
set_option maxRecDepth 65536 in
theorem w_c5 : (Jvm.Cond.code ({ cls := "com/example/deduct/deduct/model/Bucket", name := "available", desc := "()J" } : Jvm.MethodName) prog_4_method_2_code (1 : Nat) (Option.some Jvm.ClassFile.FieldType.long)).before args0 about1 = true := code_word (m := ⟨8, 1⟩) (meth := k8m1) (c := k8c1) (by decide +kernel) rfl rfl rfl (by decide +kernel)
set_option maxRecDepth 65536 in
theorem w_c6 : (Jvm.Cond.code ({ cls := "com/example/deduct/deduct/model/Bucket", name := "state", desc := "()Lcom/example/deduct/deduct/model/Bucket$State;" } : Jvm.MethodName) prog_4_method_3_code (1 : Nat) (Option.some (Jvm.ClassFile.FieldType.object "com/example/deduct/deduct/model/Bucket$State"))).before args0 about1 = true := code_word (m := ⟨8, 2⟩) (meth := k8m2) (c := k8c2) (by decide +kernel) rfl rfl rfl (by decide +kernel)
def codes1 : List Jvm.Cond := [Jvm.Cond.code x code maxLocals ret, Jvm.Cond.code ({ cls := "com/example/deduct/deduct/model/Bucket", name := "<init>", desc := "(JLcom/example/deduct/deduct/model/Bucket$State;)V" } : Jvm.MethodName) prog_4_method_1_code (4 : Nat) (Option.none : Option Jvm.ClassFile.FieldType), Jvm.Cond.code ({ cls := "java/lang/Object", name := "<init>", desc := "()V" } : Jvm.MethodName) object_method_1_code (1 : Nat) (Option.none : Option Jvm.ClassFile.FieldType), Jvm.Cond.code ({ cls := "java/util/Objects", name := "requireNonNull", desc := "(Ljava/lang/Object;Ljava/lang/String;)Ljava/lang/Object;" } : Jvm.MethodName) jdk_31_method_11_code (2 : Nat) (Option.some (Jvm.ClassFile.FieldType.object "java/lang/Object")), Jvm.Cond.code ({ cls := "com/example/deduct/deduct/model/Bucket", name := "live", desc := "()Z" } : Jvm.MethodName) prog_4_method_4_code (1 : Nat) (Option.some Jvm.ClassFile.FieldType.boolean), Jvm.Cond.code ({ cls := "com/example/deduct/deduct/model/Bucket", name := "available", desc := "()J" } : Jvm.MethodName) prog_4_method_2_code (1 : Nat) (Option.some Jvm.ClassFile.FieldType.long), Jvm.Cond.code ({ cls := "com/example/deduct/deduct/model/Bucket", name := "state", desc := "()Lcom/example/deduct/deduct/model/Bucket$State;" } : Jvm.MethodName) prog_4_method_3_code (1 : Nat) (Option.some (Jvm.ClassFile.FieldType.object "com/example/deduct/deduct/model/Bucket$State"))]
set_option maxRecDepth 65536 in
theorem codes_eq : words1.filter isCode = codes1 := rfl
theorem w_codes : ∀ c ∈ words1.filter isCode, c.before args0 about1 = true := by
  rw [codes_eq]
  intro c hc
  simp only [codes1, List.mem_cons, List.not_mem_nil, or_false] at hc
  rcases hc with rfl | rfl | rfl | rfl | rfl | rfl | rfl
  · exact w_c0
  · exact w_c1
  · exact w_c2
  · exact w_c3
  · exact w_c4
  · exact w_c5
  · exact w_c6
set_option maxRecDepth 65536 in
theorem w_t1 : (words1.take 24).all (fun c => isCode c || c.before args0 about1) = true := by decide +kernel
set_option maxRecDepth 65536 in
theorem w_t2 : ((words1.drop 24).take 24).all (fun c => isCode c || c.before args0 about1) = true := by decide +kernel
set_option maxRecDepth 65536 in
theorem w_t3 : ((words1.drop 24).drop 24).all (fun c => isCode c || c.before args0 about1) = true := by decide +kernel
theorem w_tables : (allAtoms (Jvm.Cond.code x code maxLocals ret :: tables_1)).before args0 about1 = true := by
  rw [allAtoms_all]
  show words1.all (fun c => c.before args0 about1) = true
  refine all_split ?_ w_codes
  rw [← List.take_append_drop 24 words1, List.all_append, w_t1, ← List.take_append_drop 24 (words1.drop 24), List.all_append, w_t2, w_t3]
  rfl
set_option maxRecDepth 65536 in
theorem w_case : (Jvm.Cond.and given_1 narrow_1).before args0 about1 = true := by decide +kernel
theorem w_applies : (headSpec (Jvm.Cond.code x code maxLocals ret :: tables_1) room_1).applies x e0.platform about1 = true :=
  (Spec.applies_iff w_frames).mpr ⟨w_running, w_runnable, w_alone, w_named, w_hears, w_ripe, w_room, w_tables⟩
theorem atStart : AtStart classFile x code maxLocals ret World_1 tables_1 room_1 Calls_1 rest_1 Pre_1 launch0 p0 e0 about1 theMethod args0 below0 :=
  ⟨lists_1, trivial, launch0.admits_env _ _ _, launch0.least_env, fairChoices_fair.cas, fairChoices_fair.clock, w_frames, w_args, w_heap, w_applies, trivial, trivial, w_case⟩
end start1
theorem witness_1 : WitnessClaimed_1 := ⟨start1.p0, start1.e0, start1.about1, start1.theMethod, start1.args0, start1.below0, start1.atStart⟩
end Jvm.Pilot.@@N@@
