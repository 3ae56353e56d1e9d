import JvmDerived
import JvmDerived.Pilot.@@N@@Statement
import JvmDerived.Pilot.@@N@@Code
set_option linter.unusedVariables false
set_option linter.unusedSimpArgs false
namespace Jvm.RoadKit
open Sem ClassFile Op Lib Jvm.Stand Jvm.Free Jvm.LawKit
section Own
variable {p : Program} {l : Launch} {e : Env} {R : Room} {s : State} {m : MethodId} {args : Array Value} {below : List Frame} {meth : Method} {c : Code} {T : State} {locs : List Loc} {cells slots : Nat}
theorem retI (X : Stand p l e R s m args below meth c T locs cells slots) (hx : p.tables.exec = Jvm.exec) {pc : Nat} {Ls : Array Slot} {z : Int32} {rest : List Value} (hret : meth.sig.returnType = some .int) (hd : decode c.code pc = .ok (.ireturn, 1)) {fs : List Frame}
    (hl : ∀ (f : JFrame) (acts : List Action), f.method = m → f.locked = none → f.entered = [] → (doReturn e (T.setTop f) acts (some (.int z))).1 = T.setFrames fs) : Steps p.tables e below (T.setTop (mkF m pc Ls (.int z :: rest))) (T.setFrames fs) := by
  have hm' : T.vm.method? m = some meth := X.method'
  have hn : narrow .int (.int z) = .int z := rfl
  show Steps p.tables e below (T.setTop { method := m, pc := pc, locals := Ls, stack := _ :: rest, locked := none }) _
  jvm_step X.here [X.here.top, hx, hd, hm', hret, hn]
  first | (intro acts; rw [hl _ acts rfl rfl rfl]) | rw [hl _ _ rfl rfl rfl]
  exact Steps.refl _
/-- the walk from S ends as K says -/
def Way (tb : Tables) (e : Env) (below : List Frame) (K : Outcome → State → Prop) (S : State) : Prop := ∃ s₂ o, Steps tb e below S s₂ ∧ s₂.status = .running ∧ Ended s₂ below o ∧ K o s₂
theorem Way.by {tb : Tables} {K : Outcome → State → Prop} {A B : State} (st : ∀ t, Steps tb e below B t → Steps tb e below A t) (h : Way tb e below K B) : Way tb e below K A := by
  obtain ⟨s₂, o, h1, h2⟩ := h; exact ⟨s₂, o, st _ h1, h2⟩
theorem Way.to {tb : Tables} {K : Outcome → State → Prop} {A B : State} (st : Steps tb e below A B) (h : Way tb e below K B) : Way tb e below K A := by
  obtain ⟨s₂, o, h1, h2⟩ := h; exact ⟨s₂, o, st.trans h1, h2⟩
abbrev KQ (s : State) (Q : Option Value → Heap → List Loc → Prop) (C S : Nat) : Outcome → State → Prop := fun o s₂ => ∃ v L, o = .returned v ∧ Q v s₂.heap L ∧ FrameEnd s o s₂ L C S
theorem Way.ret {Q : Option Value → Heap → List Loc → Prop} {C S : Nat} {A : State} {v : Option Value} (X : Stand p l e R s m args below meth c T locs cells slots) (hlk : meth.locks = false) (hv : meth.sig.returnType = none → v = none)
    (hret : ∀ fs, (∀ (f : JFrame) (acts : List Action), f.method = m → f.locked = none → f.entered = [] → (doReturn e (T.setTop f) acts v).1 = T.setFrames fs) → Steps p.tables e below A (T.setFrames fs))
    (hQ : Q v T.heap locs) (hc : cells ≤ C) (hs : slots ≤ S) : Way p.tables e below (KQ s Q C S) A := by
  obtain ⟨fs, hr, hrun, hended, hW, hsame⟩ := X.leave hv hlk
  exact ⟨_, _, hret fs hr, hrun, hended, _, _, rfl, hQ, ⟨_, rfl⟩, hW, hsame.mono hc hs⟩
abbrev KQW (s : State) (Q : Option Value → Heap → List Loc → Prop) (C S : Nat) : Outcome → State → Prop := fun o s₂ => ∃ v L, o = .returned v ∧ Q v s₂.heap L ∧ ReturnedEndW s o s₂ L C S
theorem Way.retW {Q : Option Value → Heap → List Loc → Prop} {C S : Nat} {A : State} {v : Option Value} {vm1 : Vm} {n : Nat} (X : Stand p l e R (s.setVm vm1) m args below meth c T locs cells slots) (hS : s.Since vm1 n) (hn : n ≤ T.heap.size) (hlk : meth.locks = false) (hv : meth.sig.returnType = none → v = none)
    (hret : ∀ fs, (∀ (f : JFrame) (acts : List Action), f.method = m → f.locked = none → f.entered = [] → (doReturn e (T.setTop f) acts v).1 = T.setFrames fs) → Steps p.tables e below A (T.setFrames fs))
    (hQ : Q v T.heap locs) (hc : cells ≤ C) (hs : slots ≤ S) : Way p.tables e below (KQW s Q C S) A := by
  obtain ⟨fs, hr, hrun, hended, h1, h2, h3, h4⟩ := X.leaveW hS hn hv hlk
  exact ⟨_, _, hret fs hr, hrun, hended, _, _, rfl, hQ, h1, h2, h3, h4.mono hc hs⟩
abbrev KQH (s Z : State) (EL : List (String × Nat)) (Q : Option Value → Heap → List Loc → Prop) (C S : Nat) : Outcome → State → Prop := fun o s₂ => ∃ v L, o = .returned v ∧ Q v s₂.heap L ∧ CHr Z EL s.vm s.heap s₂.vm s₂.heap ∧ ReturnedEndW s o s₂ L C S
theorem Way.retH {Z : State} {a0 : Array Value} {EL : List (String × Nat)} {Q : Option Value → Heap → List Loc → Prop} {C S : Nat} {A : State} {v : Option Value} {vm1 : Vm} {n : Nat} {h h0 : Heap} (X : Stand p l e R (s.setVm vm1) m args below meth c T locs cells slots) (hS : s.Since vm1 n) (hn : n ≤ T.heap.size) (hZ : Z.Warmed39 vm1) (hEL : EW Z a0 EL) (hh : s.heap = h0) (eT : T.heap = h) (H : CHv Z EL vm1 h) (CH : CHr Z EL s.vm h0 vm1 h) (hlk : meth.locks = false) (hv : meth.sig.returnType = none → v = none)
    (hret : ∀ fs, (∀ (f : JFrame) (acts : List Action), f.method = m → f.locked = none → f.entered = [] → (doReturn e (T.setTop f) acts v).1 = T.setFrames fs) → Steps p.tables e below A (T.setFrames fs))
    (hQ : Q v T.heap locs) (hc : cells ≤ C) (hs : slots ≤ S) : Way p.tables e below (KQH s Z EL Q C S) A := by
  obtain ⟨fs, hr, hrun, hended, h1, h2, h3, h4⟩ := X.leaveW hS hn hv hlk
  refine ⟨_, _, hret fs hr, hrun, hended, _, _, rfl, hQ, ?_, h1, h2, h3, h4.mono hc hs⟩
  have B := CHv.at X hZ hEL H
  show CHr Z EL s.vm s.heap T.vm T.heap
  rw [hh, eT]; exact CH.trans B
theorem fldStart {Z : State} {args : Array Value} {t : Term} {a : Addr} {C n d : String} {k : Int32} (ev : t.eval args Z none [] Z = some (.ref a)) (h : (Cond.eq (.field t C n d) (.int k)).value args Z none Z [] = some true) : Fld Z Z.heap a C n d (.int k) := by
  refine Fld.start ?_
  have e1 : (Term.field t C n d).eval args Z none [] Z = Z.fieldOf? a C n d := fld_at ev
  simp only [Cond.value] at h
  rw [e1, show (Term.int k).eval args Z none [] Z = some (.int k) from rfl] at h
  cases hf : Z.fieldOf? a C n d with
  | none => simp [hf] at h
  | some w => cases w <;> simp [hf] at h ⊢; exact h
theorem remB (x d : Int32) (D : Int) (hd : d.toInt = D) (h0 : 0 < D) : 0 ≤ ((x &&& 2147483647) % d).toInt ∧ ((x &&& 2147483647) % d).toInt < D := by
  have h1 := c_and x 2147483647 (by decide)
  rw [(c_irem (x &&& 2147483647) d D hd).1 h1.1]
  exact ⟨Int.emod_nonneg _ (by omega), Int.emod_lt_of_pos _ h0⟩
theorem cases3 {k : Int32} (h : 0 ≤ k.toInt ∧ k.toInt < 3) : k = 0 ∨ k = 1 ∨ k = 2 := by
  have q : k.toInt = 0 ∨ k.toInt = 1 ∨ k.toInt = 2 := by omega
  rcases q with q | q | q
  · exact Or.inl (Int32.toInt_inj.mp q)
  · exact Or.inr (Or.inl (Int32.toInt_inj.mp q))
  · exact Or.inr (Or.inr (Int32.toInt_inj.mp q))
theorem cases5 {k : Int32} (h : 0 ≤ k.toInt ∧ k.toInt < 5) : k = 0 ∨ k = 1 ∨ k = 2 ∨ k = 3 ∨ k = 4 := by
  have q : k.toInt = 0 ∨ k.toInt = 1 ∨ k.toInt = 2 ∨ k.toInt = 3 ∨ k.toInt = 4 := by omega
  rcases q with q | q | q | q | q
  · exact Or.inl (Int32.toInt_inj.mp q)
  · exact Or.inr (Or.inl (Int32.toInt_inj.mp q))
  · exact Or.inr (Or.inr (Or.inl (Int32.toInt_inj.mp q)))
  · exact Or.inr (Or.inr (Or.inr (Or.inl (Int32.toInt_inj.mp q))))
  · exact Or.inr (Or.inr (Or.inr (Or.inr (Int32.toInt_inj.mp q))))
theorem nfSel {s : State} {args : Array Value} {C : String} {y z : MethodName} (hyz : z.cls = y.cls) (hsel : (Cond.selects C z z).before args s = true) : NotFace s y := fun r0 h0 => by
  obtain ⟨c, r, m, -, -, hn, -, mk, hk, hni⟩ := Cond.selects_spec hsel
  have e1 := findClass_of_methodNamed h0
  have e2 := findClass_of_methodNamed hn
  rw [hyz, e1] at e2
  refine ⟨mk, ?_, hni⟩
  first | (rw [Option.some.inj e2]; exact hk) | (rw [← Option.some.inj e2]; exact hk)
theorem sameOwn {s : State} {args : Array Value} {C : String} {y z : MethodName} (hyz : z.cls = y.cls) (hsel : (Cond.selects C z z).before args s = true) (hinst : (Cond.instanceMethod y).before args s = true) (hy : y.cls ≠ "java/lang/invoke/MethodHandle" ∧ y.cls ≠ "java/lang/invoke/VarHandle") : (Cond.sameMethod y.cls y.cls y.name y.desc).before args s = true := by
  obtain ⟨mk, methM, hnamed, -⟩ := Cond.instanceMethod_spec hinst
  obtain ⟨kr, hk, hni⟩ := nfSel hyz hsel mk hnamed
  have hf := State.methodFound?_of_named hnamed hy
  have hc := findClass_of_methodNamed hnamed
  have hn2 : s.methodNamed? ⟨y.cls, y.name, y.desc⟩ = some mk := hnamed
  simp [Cond.before, Cond.holds, Cond.value, hc, hf, hn2, hk, hni]
theorem selPriv {s : State} {args : Array Value} {C : String} {y z : MethodName} (hyz : z.cls = y.cls) (hsel : (Cond.selects C z z).before args s = true) (hpriv : s.PrivateAt y) (hinst : (Cond.instanceMethod y).before args s = true) (hy : y.cls ≠ "java/lang/invoke/MethodHandle" ∧ y.cls ≠ "java/lang/invoke/VarHandle") : (Cond.selects y.cls y y).before args s = true := by
  obtain ⟨c, r, m, -, -, hn, -, mk, hk, hni⟩ := Cond.selects_spec hsel
  exact selects_self_of_private (by rw [← hyz]; exact findClass_of_methodNamed hn) hk hni hpriv hinst hy
end Own
end Jvm.RoadKit
namespace Jvm.Pilot.@@N@@
open Jvm Jvm.ClassFile Sem Op Lib Jvm.Free Jvm.Stand Jvm.LawKit Jvm.RoadKit Bundle Jvm.Pilot.@@N@@.Jvm.D
theorem tw {Z : State} {a0 : Array Value} (hw : ∀ d ∈ tables_1, d.before a0 Z = true) (i : Nat) {d : Jvm.Cond} (h : tables_1[i]? = some d) : d.before a0 Z = true := hw _ (List.mem_of_getElem? h)
def Q1 (r : Value) (h0 : Heap) (n0 : Nat) (v : Option Value) (h : Heap) (L : List Loc) : Prop := v = some r ∧ Fr n0 L ∧ h = h0
theorem dP_0 : decode method_2_code 0 = .ok (.iload_n 0, 1) := by decide +kernel
theorem dP_1 : decode method_2_code 1 = .ok (.ifCond .ne 7, 3) := by decide +kernel
theorem dP_4 : decode method_2_code 4 = .ok (.getstatic 7, 3) := by decide +kernel
theorem dP_7 : decode method_2_code 7 = .ok (.areturn, 1) := by decide +kernel
theorem dP_8 : decode method_2_code 8 = .ok (.iload_n 0, 1) := by decide +kernel
theorem dP_9 : decode method_2_code 9 = .ok (.iconst 1, 1) := by decide +kernel
theorem dP_10 : decode method_2_code 10 = .ok (.if_icmp .ne 7, 3) := by decide +kernel
theorem dP_13 : decode method_2_code 13 = .ok (.getstatic 13, 3) := by decide +kernel
theorem dP_16 : decode method_2_code 16 = .ok (.areturn, 1) := by decide +kernel
theorem dP_17 : decode method_2_code 17 = .ok (.iload_n 0, 1) := by decide +kernel
theorem dP_18 : decode method_2_code 18 = .ok (.iconst 2, 1) := by decide +kernel
theorem dP_19 : decode method_2_code 19 = .ok (.if_icmp .ne 7, 3) := by decide +kernel
theorem dP_22 : decode method_2_code 22 = .ok (.getstatic 16, 3) := by decide +kernel
theorem dP_25 : decode method_2_code 25 = .ok (.areturn, 1) := by decide +kernel
theorem dP_26 : decode method_2_code 26 = .ok (.iload_n 0, 1) := by decide +kernel
theorem dP_27 : decode method_2_code 27 = .ok (.iconst 3, 1) := by decide +kernel
theorem dP_28 : decode method_2_code 28 = .ok (.if_icmp .ne 7, 3) := by decide +kernel
theorem dP_31 : decode method_2_code 31 = .ok (.getstatic 19, 3) := by decide +kernel
theorem dP_34 : decode method_2_code 34 = .ok (.areturn, 1) := by decide +kernel
theorem dP_35 : decode method_2_code 35 = .ok (.getstatic 22, 3) := by decide +kernel
theorem dP_38 : decode method_2_code 38 = .ok (.areturn, 1) := by decide +kernel
theorem pnP : plainName "com/example/permitree/permitree/engine/ObjectTypeIsDatasetPinLaw" = true := by first | (simp [plainName, overriddenIn]; done) | decide +kernel
theorem pdP : parseMethodDescriptor "(I)Lcom/example/permitree/permitree/engine/ObjectType;" = some ⟨[.int], some (.object "com/example/permitree/permitree/engine/ObjectType")⟩ := by decide +kernel
set_option maxRecDepth 65536 in
set_option maxHeartbeats 40000000 in
theorem rmP (l : Launch) (Z : State) (a0 : Array Value) (hw : ∀ d ∈ tables_1, d.before a0 Z = true) (ws : List Jvm.Cond) (uCATALOG : Addr) (h0 : Heap) (n0 : Nat) (Z0 : n0 ≤ h0.size) (SCATALOG : Sta Z h0 "com/example/permitree/permitree/engine/ObjectType" "CATALOG" "Lcom/example/permitree/permitree/engine/ObjectType;" (.ref uCATALOG)) :
    MetFree l (⟨"com/example/permitree/permitree/engine/ObjectTypeIsDatasetPinLaw", "pick", "(I)Lcom/example/permitree/permitree/engine/ObjectType;"⟩ : MethodName) (head1 (Jvm.Cond.code (⟨"com/example/permitree/permitree/engine/ObjectTypeIsDatasetPinLaw", "pick", "(I)Lcom/example/permitree/permitree/engine/ObjectType;"⟩ : MethodName) method_2_code 1 (some (.object "com/example/permitree/permitree/engine/ObjectType")) :: ws) ({ frames := 0, cells := 0, slots := 0, locals := 0 } : Room)) (fun aa U => aa = #[(.int 0)] ∧ Z.Warmed39 U.vm ∧ U.heap = h0) (fun _ _ _ _ _ => True) (fun _ U o U' => ∃ v L, o = .returned v ∧ Q1 (.ref uCATALOG) h0 n0 v U'.heap L ∧ FrameEnd U o U' L ({ frames := 0, cells := 0, slots := 0, locals := 0 } : Room).cells ({ frames := 0, cells := 0, slots := 0, locals := 0 } : Room).slots) := by
  refine MetFree.of_bodySF (plainFor_of_name pnP) hisR ?_
  intro p e s m args below meth c s₁ Bd hml0 hP hK
  obtain ⟨rfl, hZ, hh⟩ := hP
  have hx := Bd.exec
  have hby := Bd.bytes
  have hlk : meth.locks = false := BodyLoose.notSynchronized Bd
  have hml : c.maxLocals = 1 := hml0
  have hown : s.vm.findClass "com/example/permitree/permitree/engine/ObjectTypeIsDatasetPinLaw" = some m.cls := findClass_of_methodNamed Bd.named
  have hnm := (name_of_methodNamed Bd.named Bd.method).1
  have X0 : Stand p l e ({ frames := 0, cells := 0, slots := 0, locals := 0 } : Room) s m #[(.int 0)] below meth c s₁ [] 0 0 := Stand.of_body Bd
  have e0 : s₁.heap = h0 := by rw [← hh, Bd.state]; rfl
  have N0 := Fr.nil n0
  have ef : entryFrame m #[(.int 0)] 1 = mkF m 0 #[iv 0] [] := by first | (simp [entryFrame, mkF, argsToLocals, Value.category, maxLocals]; done) | rfl
  show Way p.tables e below (KQ s (Q1 (.ref uCATALOG) h0 n0) ({ frames := 0, cells := 0, slots := 0, locals := 0 } : Room).cells ({ frames := 0, cells := 0, slots := 0, locals := 0 } : Room).slots) (s₁.setTop (entryFrame m #[(.int 0)] 1))
  rw [ef]
  refine Way.by (fun _ k => XS.iloadN X0.here hx rfl (hb hby dP_0) rfl k) ?_
  show Way _ _ _ _ (s₁.setTop (mkF m 1 #[iv 0] [(.int 0)]))
  have b1 : (0 : Int32) = (0 : Int32) := by decide
  refine Way.by (fun _ k => XS.ifNo X0.here hx rfl (hb hby dP_1) rfl ((if0 .ne _).trans (teq b1).2) k) ?_
  show Way _ _ _ _ (s₁.setTop (mkF m 4 #[iv 0] []))
  obtain ⟨T2, X3, e4, st5⟩ := getS X0 hx hZ hown (host := "") (tw hw 5 rfl) Via.refl e0 SCATALOG (g := (mkF m 4 #[iv 0] [])) rfl (hb hby dP_4)
  refine Way.by st5 ?_
  show Way _ _ _ _ (T2.setTop (mkF m 7 #[iv 0] [(.ref uCATALOG)]))
  refine Way.ret (v := (some (.ref uCATALOG))) X3 hlk (fun h => by rw [Bd.returns] at h; cases h) (fun fs hr => retOut X3 hx Bd.returns rfl (Or.inr (Or.inr (Or.inr (Or.inr ⟨rfl, rfl, rfl⟩)))) (hb hby dP_7) hr) ?_ (by decide) (by decide)
  show Q1 (.ref uCATALOG) h0 n0 _ T2.heap _
  rw [e4]
  exact ⟨rfl, N0, rfl⟩
set_option maxRecDepth 65536 in
set_option maxHeartbeats 40000000 in
theorem rmP1 (l : Launch) (Z : State) (a0 : Array Value) (hw : ∀ d ∈ tables_1, d.before a0 Z = true) (ws : List Jvm.Cond) (uSCHEMA : Addr) (h0 : Heap) (n0 : Nat) (Z0 : n0 ≤ h0.size) (SSCHEMA : Sta Z h0 "com/example/permitree/permitree/engine/ObjectType" "SCHEMA" "Lcom/example/permitree/permitree/engine/ObjectType;" (.ref uSCHEMA)) :
    MetFree l (⟨"com/example/permitree/permitree/engine/ObjectTypeIsDatasetPinLaw", "pick", "(I)Lcom/example/permitree/permitree/engine/ObjectType;"⟩ : MethodName) (head1 (Jvm.Cond.code (⟨"com/example/permitree/permitree/engine/ObjectTypeIsDatasetPinLaw", "pick", "(I)Lcom/example/permitree/permitree/engine/ObjectType;"⟩ : MethodName) method_2_code 1 (some (.object "com/example/permitree/permitree/engine/ObjectType")) :: ws) ({ frames := 0, cells := 0, slots := 0, locals := 0 } : Room)) (fun aa U => aa = #[(.int 1)] ∧ Z.Warmed39 U.vm ∧ U.heap = h0) (fun _ _ _ _ _ => True) (fun _ U o U' => ∃ v L, o = .returned v ∧ Q1 (.ref uSCHEMA) h0 n0 v U'.heap L ∧ FrameEnd U o U' L ({ frames := 0, cells := 0, slots := 0, locals := 0 } : Room).cells ({ frames := 0, cells := 0, slots := 0, locals := 0 } : Room).slots) := by
  refine MetFree.of_bodySF (plainFor_of_name pnP) hisR ?_
  intro p e s m args below meth c s₁ Bd hml0 hP hK
  obtain ⟨rfl, hZ, hh⟩ := hP
  have hx := Bd.exec
  have hby := Bd.bytes
  have hlk : meth.locks = false := BodyLoose.notSynchronized Bd
  have hml : c.maxLocals = 1 := hml0
  have hown : s.vm.findClass "com/example/permitree/permitree/engine/ObjectTypeIsDatasetPinLaw" = some m.cls := findClass_of_methodNamed Bd.named
  have hnm := (name_of_methodNamed Bd.named Bd.method).1
  have X0 : Stand p l e ({ frames := 0, cells := 0, slots := 0, locals := 0 } : Room) s m #[(.int 1)] below meth c s₁ [] 0 0 := Stand.of_body Bd
  have e0 : s₁.heap = h0 := by rw [← hh, Bd.state]; rfl
  have N0 := Fr.nil n0
  have ef : entryFrame m #[(.int 1)] 1 = mkF m 0 #[iv 1] [] := by first | (simp [entryFrame, mkF, argsToLocals, Value.category, maxLocals]; done) | rfl
  show Way p.tables e below (KQ s (Q1 (.ref uSCHEMA) h0 n0) ({ frames := 0, cells := 0, slots := 0, locals := 0 } : Room).cells ({ frames := 0, cells := 0, slots := 0, locals := 0 } : Room).slots) (s₁.setTop (entryFrame m #[(.int 1)] 1))
  rw [ef]
  refine Way.by (fun _ k => XS.iloadN X0.here hx rfl (hb hby dP_0) rfl k) ?_
  show Way _ _ _ _ (s₁.setTop (mkF m 1 #[iv 1] [(.int 1)]))
  have b1 : ¬ (1 : Int32) = (0 : Int32) := by decide
  refine Way.by (fun _ k => XS.ifYes X0.here hx rfl (pc0 := 1) (pc' := 8) rfl (hb hby dP_1) rfl ((if0 .ne _).trans (feq b1).2) (by decide) (by decide) k) ?_
  show Way _ _ _ _ (s₁.setTop (mkF m 8 #[iv 1] []))
  refine Way.by (fun _ k => XS.iloadN X0.here hx rfl (hb hby dP_8) rfl k) ?_
  show Way _ _ _ _ (s₁.setTop (mkF m 9 #[iv 1] [(.int 1)]))
  refine Way.by (fun _ k => XS.iconst X0.here hx rfl (hb hby dP_9) k) ?_
  show Way _ _ _ _ (s₁.setTop (mkF m 10 #[iv 1] [(.int 1), (.int 1)]))
  have b2 : (1 : Int32) = (1 : Int32) := by decide
  refine Way.by (fun _ k => XS.icmpNo X0.here hx rfl (hb hby dP_10) rfl (teq b2).2 k) ?_
  show Way _ _ _ _ (s₁.setTop (mkF m 13 #[iv 1] []))
  obtain ⟨T3, X4, e5, st6⟩ := getS X0 hx hZ hown (host := "") (tw hw 17 rfl) Via.refl e0 SSCHEMA (g := (mkF m 13 #[iv 1] [])) rfl (hb hby dP_13)
  refine Way.by st6 ?_
  show Way _ _ _ _ (T3.setTop (mkF m 16 #[iv 1] [(.ref uSCHEMA)]))
  refine Way.ret (v := (some (.ref uSCHEMA))) X4 hlk (fun h => by rw [Bd.returns] at h; cases h) (fun fs hr => retOut X4 hx Bd.returns rfl (Or.inr (Or.inr (Or.inr (Or.inr ⟨rfl, rfl, rfl⟩)))) (hb hby dP_16) hr) ?_ (by decide) (by decide)
  show Q1 (.ref uSCHEMA) h0 n0 _ T3.heap _
  rw [e5]
  exact ⟨rfl, N0, rfl⟩
set_option maxRecDepth 65536 in
set_option maxHeartbeats 40000000 in
theorem rmP2 (l : Launch) (Z : State) (a0 : Array Value) (hw : ∀ d ∈ tables_1, d.before a0 Z = true) (ws : List Jvm.Cond) (uFOLDER : Addr) (h0 : Heap) (n0 : Nat) (Z0 : n0 ≤ h0.size) (SFOLDER : Sta Z h0 "com/example/permitree/permitree/engine/ObjectType" "FOLDER" "Lcom/example/permitree/permitree/engine/ObjectType;" (.ref uFOLDER)) :
    MetFree l (⟨"com/example/permitree/permitree/engine/ObjectTypeIsDatasetPinLaw", "pick", "(I)Lcom/example/permitree/permitree/engine/ObjectType;"⟩ : MethodName) (head1 (Jvm.Cond.code (⟨"com/example/permitree/permitree/engine/ObjectTypeIsDatasetPinLaw", "pick", "(I)Lcom/example/permitree/permitree/engine/ObjectType;"⟩ : MethodName) method_2_code 1 (some (.object "com/example/permitree/permitree/engine/ObjectType")) :: ws) ({ frames := 0, cells := 0, slots := 0, locals := 0 } : Room)) (fun aa U => aa = #[(.int 2)] ∧ Z.Warmed39 U.vm ∧ U.heap = h0) (fun _ _ _ _ _ => True) (fun _ U o U' => ∃ v L, o = .returned v ∧ Q1 (.ref uFOLDER) h0 n0 v U'.heap L ∧ FrameEnd U o U' L ({ frames := 0, cells := 0, slots := 0, locals := 0 } : Room).cells ({ frames := 0, cells := 0, slots := 0, locals := 0 } : Room).slots) := by
  refine MetFree.of_bodySF (plainFor_of_name pnP) hisR ?_
  intro p e s m args below meth c s₁ Bd hml0 hP hK
  obtain ⟨rfl, hZ, hh⟩ := hP
  have hx := Bd.exec
  have hby := Bd.bytes
  have hlk : meth.locks = false := BodyLoose.notSynchronized Bd
  have hml : c.maxLocals = 1 := hml0
  have hown : s.vm.findClass "com/example/permitree/permitree/engine/ObjectTypeIsDatasetPinLaw" = some m.cls := findClass_of_methodNamed Bd.named
  have hnm := (name_of_methodNamed Bd.named Bd.method).1
  have X0 : Stand p l e ({ frames := 0, cells := 0, slots := 0, locals := 0 } : Room) s m #[(.int 2)] below meth c s₁ [] 0 0 := Stand.of_body Bd
  have e0 : s₁.heap = h0 := by rw [← hh, Bd.state]; rfl
  have N0 := Fr.nil n0
  have ef : entryFrame m #[(.int 2)] 1 = mkF m 0 #[iv 2] [] := by first | (simp [entryFrame, mkF, argsToLocals, Value.category, maxLocals]; done) | rfl
  show Way p.tables e below (KQ s (Q1 (.ref uFOLDER) h0 n0) ({ frames := 0, cells := 0, slots := 0, locals := 0 } : Room).cells ({ frames := 0, cells := 0, slots := 0, locals := 0 } : Room).slots) (s₁.setTop (entryFrame m #[(.int 2)] 1))
  rw [ef]
  refine Way.by (fun _ k => XS.iloadN X0.here hx rfl (hb hby dP_0) rfl k) ?_
  show Way _ _ _ _ (s₁.setTop (mkF m 1 #[iv 2] [(.int 2)]))
  have b1 : ¬ (2 : Int32) = (0 : Int32) := by decide
  refine Way.by (fun _ k => XS.ifYes X0.here hx rfl (pc0 := 1) (pc' := 8) rfl (hb hby dP_1) rfl ((if0 .ne _).trans (feq b1).2) (by decide) (by decide) k) ?_
  show Way _ _ _ _ (s₁.setTop (mkF m 8 #[iv 2] []))
  refine Way.by (fun _ k => XS.iloadN X0.here hx rfl (hb hby dP_8) rfl k) ?_
  show Way _ _ _ _ (s₁.setTop (mkF m 9 #[iv 2] [(.int 2)]))
  refine Way.by (fun _ k => XS.iconst X0.here hx rfl (hb hby dP_9) k) ?_
  show Way _ _ _ _ (s₁.setTop (mkF m 10 #[iv 2] [(.int 1), (.int 2)]))
  have b2 : ¬ (2 : Int32) = (1 : Int32) := by decide
  refine Way.by (fun _ k => XS.icmpYes X0.here hx rfl (pc0 := 10) (pc' := 17) rfl (hb hby dP_10) rfl (feq b2).2 (by decide) (by decide) k) ?_
  show Way _ _ _ _ (s₁.setTop (mkF m 17 #[iv 2] []))
  refine Way.by (fun _ k => XS.iloadN X0.here hx rfl (hb hby dP_17) rfl k) ?_
  show Way _ _ _ _ (s₁.setTop (mkF m 18 #[iv 2] [(.int 2)]))
  refine Way.by (fun _ k => XS.iconst X0.here hx rfl (hb hby dP_18) k) ?_
  show Way _ _ _ _ (s₁.setTop (mkF m 19 #[iv 2] [(.int 2), (.int 2)]))
  have b3 : (2 : Int32) = (2 : Int32) := by decide
  refine Way.by (fun _ k => XS.icmpNo X0.here hx rfl (hb hby dP_19) rfl (teq b3).2 k) ?_
  show Way _ _ _ _ (s₁.setTop (mkF m 22 #[iv 2] []))
  obtain ⟨T4, X5, e6, st7⟩ := getS X0 hx hZ hown (host := "") (tw hw 39 rfl) Via.refl e0 SFOLDER (g := (mkF m 22 #[iv 2] [])) rfl (hb hby dP_22)
  refine Way.by st7 ?_
  show Way _ _ _ _ (T4.setTop (mkF m 25 #[iv 2] [(.ref uFOLDER)]))
  refine Way.ret (v := (some (.ref uFOLDER))) X5 hlk (fun h => by rw [Bd.returns] at h; cases h) (fun fs hr => retOut X5 hx Bd.returns rfl (Or.inr (Or.inr (Or.inr (Or.inr ⟨rfl, rfl, rfl⟩)))) (hb hby dP_25) hr) ?_ (by decide) (by decide)
  show Q1 (.ref uFOLDER) h0 n0 _ T4.heap _
  rw [e6]
  exact ⟨rfl, N0, rfl⟩
set_option maxRecDepth 65536 in
set_option maxHeartbeats 40000000 in
theorem rmP3 (l : Launch) (Z : State) (a0 : Array Value) (hw : ∀ d ∈ tables_1, d.before a0 Z = true) (ws : List Jvm.Cond) (uTABLE : Addr) (h0 : Heap) (n0 : Nat) (Z0 : n0 ≤ h0.size) (STABLE : Sta Z h0 "com/example/permitree/permitree/engine/ObjectType" "TABLE" "Lcom/example/permitree/permitree/engine/ObjectType;" (.ref uTABLE)) :
    MetFree l (⟨"com/example/permitree/permitree/engine/ObjectTypeIsDatasetPinLaw", "pick", "(I)Lcom/example/permitree/permitree/engine/ObjectType;"⟩ : MethodName) (head1 (Jvm.Cond.code (⟨"com/example/permitree/permitree/engine/ObjectTypeIsDatasetPinLaw", "pick", "(I)Lcom/example/permitree/permitree/engine/ObjectType;"⟩ : MethodName) method_2_code 1 (some (.object "com/example/permitree/permitree/engine/ObjectType")) :: ws) ({ frames := 0, cells := 0, slots := 0, locals := 0 } : Room)) (fun aa U => aa = #[(.int 3)] ∧ Z.Warmed39 U.vm ∧ U.heap = h0) (fun _ _ _ _ _ => True) (fun _ U o U' => ∃ v L, o = .returned v ∧ Q1 (.ref uTABLE) h0 n0 v U'.heap L ∧ FrameEnd U o U' L ({ frames := 0, cells := 0, slots := 0, locals := 0 } : Room).cells ({ frames := 0, cells := 0, slots := 0, locals := 0 } : Room).slots) := by
  refine MetFree.of_bodySF (plainFor_of_name pnP) hisR ?_
  intro p e s m args below meth c s₁ Bd hml0 hP hK
  obtain ⟨rfl, hZ, hh⟩ := hP
  have hx := Bd.exec
  have hby := Bd.bytes
  have hlk : meth.locks = false := BodyLoose.notSynchronized Bd
  have hml : c.maxLocals = 1 := hml0
  have hown : s.vm.findClass "com/example/permitree/permitree/engine/ObjectTypeIsDatasetPinLaw" = some m.cls := findClass_of_methodNamed Bd.named
  have hnm := (name_of_methodNamed Bd.named Bd.method).1
  have X0 : Stand p l e ({ frames := 0, cells := 0, slots := 0, locals := 0 } : Room) s m #[(.int 3)] below meth c s₁ [] 0 0 := Stand.of_body Bd
  have e0 : s₁.heap = h0 := by rw [← hh, Bd.state]; rfl
  have N0 := Fr.nil n0
  have ef : entryFrame m #[(.int 3)] 1 = mkF m 0 #[iv 3] [] := by first | (simp [entryFrame, mkF, argsToLocals, Value.category, maxLocals]; done) | rfl
  show Way p.tables e below (KQ s (Q1 (.ref uTABLE) h0 n0) ({ frames := 0, cells := 0, slots := 0, locals := 0 } : Room).cells ({ frames := 0, cells := 0, slots := 0, locals := 0 } : Room).slots) (s₁.setTop (entryFrame m #[(.int 3)] 1))
  rw [ef]
  refine Way.by (fun _ k => XS.iloadN X0.here hx rfl (hb hby dP_0) rfl k) ?_
  show Way _ _ _ _ (s₁.setTop (mkF m 1 #[iv 3] [(.int 3)]))
  have b1 : ¬ (3 : Int32) = (0 : Int32) := by decide
  refine Way.by (fun _ k => XS.ifYes X0.here hx rfl (pc0 := 1) (pc' := 8) rfl (hb hby dP_1) rfl ((if0 .ne _).trans (feq b1).2) (by decide) (by decide) k) ?_
  show Way _ _ _ _ (s₁.setTop (mkF m 8 #[iv 3] []))
  refine Way.by (fun _ k => XS.iloadN X0.here hx rfl (hb hby dP_8) rfl k) ?_
  show Way _ _ _ _ (s₁.setTop (mkF m 9 #[iv 3] [(.int 3)]))
  refine Way.by (fun _ k => XS.iconst X0.here hx rfl (hb hby dP_9) k) ?_
  show Way _ _ _ _ (s₁.setTop (mkF m 10 #[iv 3] [(.int 1), (.int 3)]))
  have b2 : ¬ (3 : Int32) = (1 : Int32) := by decide
  refine Way.by (fun _ k => XS.icmpYes X0.here hx rfl (pc0 := 10) (pc' := 17) rfl (hb hby dP_10) rfl (feq b2).2 (by decide) (by decide) k) ?_
  show Way _ _ _ _ (s₁.setTop (mkF m 17 #[iv 3] []))
  refine Way.by (fun _ k => XS.iloadN X0.here hx rfl (hb hby dP_17) rfl k) ?_
  show Way _ _ _ _ (s₁.setTop (mkF m 18 #[iv 3] [(.int 3)]))
  refine Way.by (fun _ k => XS.iconst X0.here hx rfl (hb hby dP_18) k) ?_
  show Way _ _ _ _ (s₁.setTop (mkF m 19 #[iv 3] [(.int 2), (.int 3)]))
  have b3 : ¬ (3 : Int32) = (2 : Int32) := by decide
  refine Way.by (fun _ k => XS.icmpYes X0.here hx rfl (pc0 := 19) (pc' := 26) rfl (hb hby dP_19) rfl (feq b3).2 (by decide) (by decide) k) ?_
  show Way _ _ _ _ (s₁.setTop (mkF m 26 #[iv 3] []))
  refine Way.by (fun _ k => XS.iloadN X0.here hx rfl (hb hby dP_26) rfl k) ?_
  show Way _ _ _ _ (s₁.setTop (mkF m 27 #[iv 3] [(.int 3)]))
  refine Way.by (fun _ k => XS.iconst X0.here hx rfl (hb hby dP_27) k) ?_
  show Way _ _ _ _ (s₁.setTop (mkF m 28 #[iv 3] [(.int 3), (.int 3)]))
  have b4 : (3 : Int32) = (3 : Int32) := by decide
  refine Way.by (fun _ k => XS.icmpNo X0.here hx rfl (hb hby dP_28) rfl (teq b4).2 k) ?_
  show Way _ _ _ _ (s₁.setTop (mkF m 31 #[iv 3] []))
  obtain ⟨T5, X6, e7, st8⟩ := getS X0 hx hZ hown (host := "") (tw hw 34 rfl) Via.refl e0 STABLE (g := (mkF m 31 #[iv 3] [])) rfl (hb hby dP_31)
  refine Way.by st8 ?_
  show Way _ _ _ _ (T5.setTop (mkF m 34 #[iv 3] [(.ref uTABLE)]))
  refine Way.ret (v := (some (.ref uTABLE))) X6 hlk (fun h => by rw [Bd.returns] at h; cases h) (fun fs hr => retOut X6 hx Bd.returns rfl (Or.inr (Or.inr (Or.inr (Or.inr ⟨rfl, rfl, rfl⟩)))) (hb hby dP_34) hr) ?_ (by decide) (by decide)
  show Q1 (.ref uTABLE) h0 n0 _ T5.heap _
  rw [e7]
  exact ⟨rfl, N0, rfl⟩
set_option maxRecDepth 65536 in
set_option maxHeartbeats 40000000 in
theorem rmP4 (l : Launch) (Z : State) (a0 : Array Value) (hw : ∀ d ∈ tables_1, d.before a0 Z = true) (ws : List Jvm.Cond) (uVIEW : Addr) (h0 : Heap) (n0 : Nat) (Z0 : n0 ≤ h0.size) (SVIEW : Sta Z h0 "com/example/permitree/permitree/engine/ObjectType" "VIEW" "Lcom/example/permitree/permitree/engine/ObjectType;" (.ref uVIEW)) :
    MetFree l (⟨"com/example/permitree/permitree/engine/ObjectTypeIsDatasetPinLaw", "pick", "(I)Lcom/example/permitree/permitree/engine/ObjectType;"⟩ : MethodName) (head1 (Jvm.Cond.code (⟨"com/example/permitree/permitree/engine/ObjectTypeIsDatasetPinLaw", "pick", "(I)Lcom/example/permitree/permitree/engine/ObjectType;"⟩ : MethodName) method_2_code 1 (some (.object "com/example/permitree/permitree/engine/ObjectType")) :: ws) ({ frames := 0, cells := 0, slots := 0, locals := 0 } : Room)) (fun aa U => aa = #[(.int 4)] ∧ Z.Warmed39 U.vm ∧ U.heap = h0) (fun _ _ _ _ _ => True) (fun _ U o U' => ∃ v L, o = .returned v ∧ Q1 (.ref uVIEW) h0 n0 v U'.heap L ∧ FrameEnd U o U' L ({ frames := 0, cells := 0, slots := 0, locals := 0 } : Room).cells ({ frames := 0, cells := 0, slots := 0, locals := 0 } : Room).slots) := by
  refine MetFree.of_bodySF (plainFor_of_name pnP) hisR ?_
  intro p e s m args below meth c s₁ Bd hml0 hP hK
  obtain ⟨rfl, hZ, hh⟩ := hP
  have hx := Bd.exec
  have hby := Bd.bytes
  have hlk : meth.locks = false := BodyLoose.notSynchronized Bd
  have hml : c.maxLocals = 1 := hml0
  have hown : s.vm.findClass "com/example/permitree/permitree/engine/ObjectTypeIsDatasetPinLaw" = some m.cls := findClass_of_methodNamed Bd.named
  have hnm := (name_of_methodNamed Bd.named Bd.method).1
  have X0 : Stand p l e ({ frames := 0, cells := 0, slots := 0, locals := 0 } : Room) s m #[(.int 4)] below meth c s₁ [] 0 0 := Stand.of_body Bd
  have e0 : s₁.heap = h0 := by rw [← hh, Bd.state]; rfl
  have N0 := Fr.nil n0
  have ef : entryFrame m #[(.int 4)] 1 = mkF m 0 #[iv 4] [] := by first | (simp [entryFrame, mkF, argsToLocals, Value.category, maxLocals]; done) | rfl
  show Way p.tables e below (KQ s (Q1 (.ref uVIEW) h0 n0) ({ frames := 0, cells := 0, slots := 0, locals := 0 } : Room).cells ({ frames := 0, cells := 0, slots := 0, locals := 0 } : Room).slots) (s₁.setTop (entryFrame m #[(.int 4)] 1))
  rw [ef]
  refine Way.by (fun _ k => XS.iloadN X0.here hx rfl (hb hby dP_0) rfl k) ?_
  show Way _ _ _ _ (s₁.setTop (mkF m 1 #[iv 4] [(.int 4)]))
  have b1 : ¬ (4 : Int32) = (0 : Int32) := by decide
  refine Way.by (fun _ k => XS.ifYes X0.here hx rfl (pc0 := 1) (pc' := 8) rfl (hb hby dP_1) rfl ((if0 .ne _).trans (feq b1).2) (by decide) (by decide) k) ?_
  show Way _ _ _ _ (s₁.setTop (mkF m 8 #[iv 4] []))
  refine Way.by (fun _ k => XS.iloadN X0.here hx rfl (hb hby dP_8) rfl k) ?_
  show Way _ _ _ _ (s₁.setTop (mkF m 9 #[iv 4] [(.int 4)]))
  refine Way.by (fun _ k => XS.iconst X0.here hx rfl (hb hby dP_9) k) ?_
  show Way _ _ _ _ (s₁.setTop (mkF m 10 #[iv 4] [(.int 1), (.int 4)]))
  have b2 : ¬ (4 : Int32) = (1 : Int32) := by decide
  refine Way.by (fun _ k => XS.icmpYes X0.here hx rfl (pc0 := 10) (pc' := 17) rfl (hb hby dP_10) rfl (feq b2).2 (by decide) (by decide) k) ?_
  show Way _ _ _ _ (s₁.setTop (mkF m 17 #[iv 4] []))
  refine Way.by (fun _ k => XS.iloadN X0.here hx rfl (hb hby dP_17) rfl k) ?_
  show Way _ _ _ _ (s₁.setTop (mkF m 18 #[iv 4] [(.int 4)]))
  refine Way.by (fun _ k => XS.iconst X0.here hx rfl (hb hby dP_18) k) ?_
  show Way _ _ _ _ (s₁.setTop (mkF m 19 #[iv 4] [(.int 2), (.int 4)]))
  have b3 : ¬ (4 : Int32) = (2 : Int32) := by decide
  refine Way.by (fun _ k => XS.icmpYes X0.here hx rfl (pc0 := 19) (pc' := 26) rfl (hb hby dP_19) rfl (feq b3).2 (by decide) (by decide) k) ?_
  show Way _ _ _ _ (s₁.setTop (mkF m 26 #[iv 4] []))
  refine Way.by (fun _ k => XS.iloadN X0.here hx rfl (hb hby dP_26) rfl k) ?_
  show Way _ _ _ _ (s₁.setTop (mkF m 27 #[iv 4] [(.int 4)]))
  refine Way.by (fun _ k => XS.iconst X0.here hx rfl (hb hby dP_27) k) ?_
  show Way _ _ _ _ (s₁.setTop (mkF m 28 #[iv 4] [(.int 3), (.int 4)]))
  have b4 : ¬ (4 : Int32) = (3 : Int32) := by decide
  refine Way.by (fun _ k => XS.icmpYes X0.here hx rfl (pc0 := 28) (pc' := 35) rfl (hb hby dP_28) rfl (feq b4).2 (by decide) (by decide) k) ?_
  show Way _ _ _ _ (s₁.setTop (mkF m 35 #[iv 4] []))
  obtain ⟨T5, X6, e7, st8⟩ := getS X0 hx hZ hown (host := "") (tw hw 38 rfl) Via.refl e0 SVIEW (g := (mkF m 35 #[iv 4] [])) rfl (hb hby dP_35)
  refine Way.by st8 ?_
  show Way _ _ _ _ (T5.setTop (mkF m 38 #[iv 4] [(.ref uVIEW)]))
  refine Way.ret (v := (some (.ref uVIEW))) X6 hlk (fun h => by rw [Bd.returns] at h; cases h) (fun fs hr => retOut X6 hx Bd.returns rfl (Or.inr (Or.inr (Or.inr (Or.inr ⟨rfl, rfl, rfl⟩)))) (hb hby dP_38) hr) ?_ (by decide) (by decide)
  show Q1 (.ref uVIEW) h0 n0 _ T5.heap _
  rw [e7]
  exact ⟨rfl, N0, rfl⟩
theorem dD_0 : decode prog_22_method_9_code 0 = .ok (.aload_n 0, 1) := by decide +kernel
theorem dD_1 : decode prog_22_method_9_code 1 = .ok (.getstatic 13, 3) := by decide +kernel
theorem dD_4 : decode prog_22_method_9_code 4 = .ok (.if_acmp .eq 10, 3) := by decide +kernel
theorem dD_7 : decode prog_22_method_9_code 7 = .ok (.aload_n 0, 1) := by decide +kernel
theorem dD_8 : decode prog_22_method_9_code 8 = .ok (.getstatic 16, 3) := by decide +kernel
theorem dD_11 : decode prog_22_method_9_code 11 = .ok (.if_acmp .ne 7, 3) := by decide +kernel
theorem dD_14 : decode prog_22_method_9_code 14 = .ok (.iconst 1, 1) := by decide +kernel
theorem dD_15 : decode prog_22_method_9_code 15 = .ok (.goto 4, 3) := by decide +kernel
theorem dD_18 : decode prog_22_method_9_code 18 = .ok (.iconst 0, 1) := by decide +kernel
theorem dD_19 : decode prog_22_method_9_code 19 = .ok (.ireturn, 1) := by decide +kernel
theorem pnD : plainName "com/example/permitree/permitree/engine/ObjectType" = true := by first | (simp [plainName, overriddenIn]; done) | decide +kernel
theorem pdD : parseMethodDescriptor "()Z" = some ⟨[], some .boolean⟩ := by decide +kernel
set_option maxRecDepth 65536 in
set_option maxHeartbeats 40000000 in
theorem rmD (l : Launch) (Z : State) (a0 : Array Value) (hw : ∀ d ∈ tables_1, d.before a0 Z = true) (ws : List Jvm.Cond) (a uTABLE uVIEW : Addr) (r : Int32) (h0 : Heap) (n0 : Nat) (Z0 : n0 ≤ h0.size) (STABLE : Sta Z h0 "com/example/permitree/permitree/engine/ObjectType" "TABLE" "Lcom/example/permitree/permitree/engine/ObjectType;" (.ref uTABLE)) (SVIEW : Sta Z h0 "com/example/permitree/permitree/engine/ObjectType" "VIEW" "Lcom/example/permitree/permitree/engine/ObjectType;" (.ref uVIEW)) (hr : r = if a = uTABLE ∨ a = uVIEW then 1 else 0) :
    MetFree l (⟨"com/example/permitree/permitree/engine/ObjectType", "isDataset", "()Z"⟩ : MethodName) (head1 (Jvm.Cond.code (⟨"com/example/permitree/permitree/engine/ObjectType", "isDataset", "()Z"⟩ : MethodName) prog_22_method_9_code 1 (some .boolean) :: ws) ({ frames := 0, cells := 0, slots := 0, locals := 0 } : Room)) (fun aa U => aa = #[(.ref a)] ∧ Z.Warmed39 U.vm ∧ U.heap = h0) (fun _ _ _ _ _ => True) (fun _ U o U' => ∃ v L, o = .returned v ∧ Q1 (.int r) h0 n0 v U'.heap L ∧ FrameEnd U o U' L ({ frames := 0, cells := 0, slots := 0, locals := 0 } : Room).cells ({ frames := 0, cells := 0, slots := 0, locals := 0 } : Room).slots) := by
  refine MetFree.of_bodySF (plainFor_of_name pnD) hisR ?_
  intro p e s m args below meth c s₁ Bd hml0 hP hK
  obtain ⟨rfl, hZ, hh⟩ := hP
  have hx := Bd.exec
  have hby := Bd.bytes
  have hlk : meth.locks = false := BodyLoose.notSynchronized Bd
  have hml : c.maxLocals = 1 := hml0
  have hown : s.vm.findClass "com/example/permitree/permitree/engine/ObjectType" = some m.cls := findClass_of_methodNamed Bd.named
  have hnm := (name_of_methodNamed Bd.named Bd.method).1
  have X0 : Stand p l e ({ frames := 0, cells := 0, slots := 0, locals := 0 } : Room) s m #[(.ref a)] below meth c s₁ [] 0 0 := Stand.of_body Bd
  have e0 : s₁.heap = h0 := by rw [← hh, Bd.state]; rfl
  have N0 := Fr.nil n0
  have ef : entryFrame m #[(.ref a)] 1 = mkF m 0 #[rv a] [] := by first | (simp [entryFrame, mkF, argsToLocals, Value.category, maxLocals]; done) | rfl
  show Way p.tables e below (KQ s (Q1 (.int r) h0 n0) ({ frames := 0, cells := 0, slots := 0, locals := 0 } : Room).cells ({ frames := 0, cells := 0, slots := 0, locals := 0 } : Room).slots) (s₁.setTop (entryFrame m #[(.ref a)] 1))
  rw [ef]
  refine Way.by (fun _ k => XS.aloadN X0.here hx rfl (hb hby dD_0) rfl rfl k) ?_
  show Way _ _ _ _ (s₁.setTop (mkF m 1 #[rv a] [(.ref a)]))
  obtain ⟨T1, X2, e3, st4⟩ := getS X0 hx hZ hown (host := "") (tw hw 13 rfl) Via.refl e0 STABLE (g := (mkF m 1 #[rv a] [(.ref a)])) rfl (hb hby dD_1)
  refine Way.by st4 ?_
  show Way _ _ _ _ (T1.setTop (mkF m 4 #[rv a] [(.ref uTABLE), (.ref a)]))
  by_cases hz4 : a = uTABLE
  · skip
    refine Way.by (fun _ k => acmp X2 hx rfl rfl rfl (pc0 := 4) (pc' := 14) (same := true) rfl (hb hby dD_4) rfl (by simp [hz4]) (by decide) (by decide) k) ?_
    show Way _ _ _ _ (T1.setTop (mkF m 14 #[rv a] []))
    refine Way.by (fun _ k => XS.iconst X2.here hx rfl (hb hby dD_14) k) ?_
    show Way _ _ _ _ (T1.setTop (mkF m 15 #[rv a] [(.int 1)]))
    refine Way.by (fun _ k => XS.goto X2.here hx rfl (pc0 := 15) (pc' := 19) rfl (hb hby dD_15) (by decide) (by decide) k) ?_
    show Way _ _ _ _ (T1.setTop (mkF m 19 #[rv a] [(.int 1)]))
    refine Way.ret (v := (some (.int (nar .boolean (1 : Int32))))) X2 hlk (fun h => by rw [Bd.returns] at h; cases h) (fun fs hr => retN X2 hx (t := .boolean) Bd.returns (by simp) (hb hby dD_19) hr) ?_ (by decide) (by decide)
    show Q1 (.int r) h0 n0 _ T1.heap _
    rw [e3]
    exact ⟨by rw [hr]; simp [*]; rfl, N0, rfl⟩
  · skip
    refine Way.by (fun _ k => acmp X2 hx rfl rfl rfl (pc0 := 4) (pc' := 7) (same := false) rfl (hb hby dD_4) rfl (by simp [hz4]) (by decide) (by decide) k) ?_
    show Way _ _ _ _ (T1.setTop (mkF m 7 #[rv a] []))
    refine Way.by (fun _ k => XS.aloadN X2.here hx rfl (hb hby dD_7) rfl rfl k) ?_
    show Way _ _ _ _ (T1.setTop (mkF m 8 #[rv a] [(.ref a)]))
    obtain ⟨T5, X6, e7, st8⟩ := getS X2 hx hZ hown (host := "") (tw hw 15 rfl) Via.refl e3 SVIEW (g := (mkF m 8 #[rv a] [(.ref a)])) rfl (hb hby dD_8)
    refine Way.by st8 ?_
    show Way _ _ _ _ (T5.setTop (mkF m 11 #[rv a] [(.ref uVIEW), (.ref a)]))
    by_cases hz11 : a = uVIEW
    · skip
      refine Way.by (fun _ k => acmp X6 hx rfl rfl rfl (pc0 := 11) (pc' := 14) (same := true) rfl (hb hby dD_11) rfl (by simp [hz11]) (by decide) (by decide) k) ?_
      show Way _ _ _ _ (T5.setTop (mkF m 14 #[rv a] []))
      refine Way.by (fun _ k => XS.iconst X6.here hx rfl (hb hby dD_14) k) ?_
      show Way _ _ _ _ (T5.setTop (mkF m 15 #[rv a] [(.int 1)]))
      refine Way.by (fun _ k => XS.goto X6.here hx rfl (pc0 := 15) (pc' := 19) rfl (hb hby dD_15) (by decide) (by decide) k) ?_
      show Way _ _ _ _ (T5.setTop (mkF m 19 #[rv a] [(.int 1)]))
      refine Way.ret (v := (some (.int (nar .boolean (1 : Int32))))) X6 hlk (fun h => by rw [Bd.returns] at h; cases h) (fun fs hr => retN X6 hx (t := .boolean) Bd.returns (by simp) (hb hby dD_19) hr) ?_ (by decide) (by decide)
      show Q1 (.int r) h0 n0 _ T5.heap _
      rw [e7]
      exact ⟨by rw [hr]; simp [*]; rfl, N0, rfl⟩
    · skip
      refine Way.by (fun _ k => acmp X6 hx rfl rfl rfl (pc0 := 11) (pc' := 18) (same := false) rfl (hb hby dD_11) rfl (by simp [hz11]) (by decide) (by decide) k) ?_
      show Way _ _ _ _ (T5.setTop (mkF m 18 #[rv a] []))
      refine Way.by (fun _ k => XS.iconst X6.here hx rfl (hb hby dD_18) k) ?_
      show Way _ _ _ _ (T5.setTop (mkF m 19 #[rv a] [(.int 0)]))
      refine Way.ret (v := (some (.int (nar .boolean (0 : Int32))))) X6 hlk (fun h => by rw [Bd.returns] at h; cases h) (fun fs hr => retN X6 hx (t := .boolean) Bd.returns (by simp) (hb hby dD_19) hr) ?_ (by decide) (by decide)
      show Q1 (.int r) h0 n0 _ T5.heap _
      rw [e7]
      exact ⟨by rw [hr]; simp [*]; rfl, N0, rfl⟩
theorem dO_0 : decode jdk_37_method_2_code 0 = .ok (.aload_n 0, 1) := by decide +kernel
theorem dO_1 : decode jdk_37_method_2_code 1 = .ok (.getfield 7, 3) := by decide +kernel
theorem dO_4 : decode jdk_37_method_2_code 4 = .ok (.ireturn, 1) := by decide +kernel
theorem pnO : plainName "java/lang/Enum" = true := by first | (simp [plainName, overriddenIn]; done) | decide +kernel
theorem pdO : parseMethodDescriptor "()I" = some ⟨[], some .int⟩ := by decide +kernel
set_option maxRecDepth 65536 in
set_option maxHeartbeats 40000000 in
theorem rmO (l : Launch) (Z : State) (a0 : Array Value) (hw : ∀ d ∈ tables_1, d.before a0 Z = true) (ws : List Jvm.Cond) (a : Addr) (k : Int32) (h0 : Heap) (n0 : Nat) (Z0 : n0 ≤ h0.size) (F : Fld Z h0 a "java/lang/Enum" "ordinal" "I" (.int k)) :
    MetFree l (⟨"java/lang/Enum", "ordinal", "()I"⟩ : MethodName) (head1 (Jvm.Cond.code (⟨"java/lang/Enum", "ordinal", "()I"⟩ : MethodName) jdk_37_method_2_code 1 (some .int) :: ws) ({ frames := 0, cells := 0, slots := 0, locals := 0 } : Room)) (fun aa U => aa = #[(.ref a)] ∧ Z.Warmed39 U.vm ∧ U.heap = h0) (fun _ _ _ _ _ => True) (fun _ U o U' => ∃ v L, o = .returned v ∧ Q1 (.int k) h0 n0 v U'.heap L ∧ FrameEnd U o U' L ({ frames := 0, cells := 0, slots := 0, locals := 0 } : Room).cells ({ frames := 0, cells := 0, slots := 0, locals := 0 } : Room).slots) := by
  refine MetFree.of_bodySF (plainFor_of_name pnO) hisR ?_
  intro p e s m args below meth c s₁ Bd hml0 hP hK
  obtain ⟨rfl, hZ, hh⟩ := hP
  have hx := Bd.exec
  have hby := Bd.bytes
  have hlk : meth.locks = false := BodyLoose.notSynchronized Bd
  have hml : c.maxLocals = 1 := hml0
  have hown : s.vm.findClass "java/lang/Enum" = some m.cls := findClass_of_methodNamed Bd.named
  have hnm := (name_of_methodNamed Bd.named Bd.method).1
  have X0 : Stand p l e ({ frames := 0, cells := 0, slots := 0, locals := 0 } : Room) s m #[(.ref a)] below meth c s₁ [] 0 0 := Stand.of_body Bd
  have e0 : s₁.heap = h0 := by rw [← hh, Bd.state]; rfl
  have N0 := Fr.nil n0
  have ef : entryFrame m #[(.ref a)] 1 = mkF m 0 #[rv a] [] := by first | (simp [entryFrame, mkF, argsToLocals, Value.category, maxLocals]; done) | rfl
  show Way p.tables e below (KQ s (Q1 (.int k) h0 n0) ({ frames := 0, cells := 0, slots := 0, locals := 0 } : Room).cells ({ frames := 0, cells := 0, slots := 0, locals := 0 } : Room).slots) (s₁.setTop (entryFrame m #[(.ref a)] 1))
  rw [ef]
  refine Way.by (fun _ k => XS.aloadN X0.here hx rfl (hb hby dO_0) rfl rfl k) ?_
  show Way _ _ _ _ (s₁.setTop (mkF m 1 #[rv a] [(.ref a)]))
  obtain ⟨T1, X2, e3, st4⟩ := getF X0 hx hZ hown (host := "") (Or.inl (tw hw 31 rfl)) Via.refl e0 F (g := (mkF m 1 #[rv a] [(.ref a)])) rfl rfl (hb hby dO_1)
  refine Way.by st4 ?_
  show Way _ _ _ _ (T1.setTop (mkF m 4 #[rv a] [(.int k)]))
  refine Way.ret (v := (some (.int k))) X2 hlk (fun h => by rw [Bd.returns] at h; cases h) (fun fs hr => retI X2 hx Bd.returns (hb hby dO_4) hr) ?_ (by decide) (by decide)
  show Q1 (.int k) h0 n0 _ T1.heap _
  rw [e3]
  exact ⟨rfl, N0, rfl⟩
theorem dH_0 : decode prog_22_method_10_code 0 = .ok (.aload_n 1, 1) := by decide +kernel
theorem dH_1 : decode prog_22_method_10_code 1 = .ok (.invokevirtual 90, 3) := by decide +kernel
theorem dH_4 : decode prog_22_method_10_code 4 = .ok (.tableswitch 36 0 4 #[46, 50, 65, 65, 65], 36) := by decide +kernel
theorem dH_54 : decode prog_22_method_10_code 54 = .ok (.aload_n 0, 1) := by decide +kernel
theorem dH_55 : decode prog_22_method_10_code 55 = .ok (.getstatic 3, 3) := by decide +kernel
theorem dH_58 : decode prog_22_method_10_code 58 = .ok (.if_acmp .ne 7, 3) := by decide +kernel
theorem dH_61 : decode prog_22_method_10_code 61 = .ok (.iconst 1, 1) := by decide +kernel
theorem dH_62 : decode prog_22_method_10_code 62 = .ok (.goto 26, 3) := by decide +kernel
theorem dH_65 : decode prog_22_method_10_code 65 = .ok (.iconst 0, 1) := by decide +kernel
theorem dH_66 : decode prog_22_method_10_code 66 = .ok (.goto 22, 3) := by decide +kernel
theorem dH_88 : decode prog_22_method_10_code 88 = .ok (.ireturn, 1) := by decide +kernel
theorem pnH : plainName "com/example/permitree/permitree/engine/ObjectType" = true := by first | (simp [plainName, overriddenIn]; done) | decide +kernel
theorem pdH : parseMethodDescriptor "(Lcom/example/permitree/permitree/engine/ObjectType;)Z" = some ⟨[(.object "com/example/permitree/permitree/engine/ObjectType")], some .boolean⟩ := by decide +kernel
set_option maxRecDepth 65536 in
set_option maxHeartbeats 40000000 in
theorem rmH (l : Launch) (Z : State) (a0 : Array Value) (hw : ∀ d ∈ tables_1, d.before a0 Z = true) (ws : List Jvm.Cond) (a t uCATALOG : Addr) (r : Int32) (h0 : Heap) (n0 : Nat) (Z0 : n0 ≤ h0.size) (SCATALOG : Sta Z h0 "com/example/permitree/permitree/engine/ObjectType" "CATALOG" "Lcom/example/permitree/permitree/engine/ObjectType;" (.ref uCATALOG)) (E : Exa Z h0 t "com/example/permitree/permitree/engine/ObjectType") (F : Fld Z h0 t "java/lang/Enum" "ordinal" "I" (.int 1)) (hr : r = if a = uCATALOG then 1 else 0) :
    MetFree l (⟨"com/example/permitree/permitree/engine/ObjectType", "mayHold", "(Lcom/example/permitree/permitree/engine/ObjectType;)Z"⟩ : MethodName) (head1 (Jvm.Cond.code (⟨"com/example/permitree/permitree/engine/ObjectType", "mayHold", "(Lcom/example/permitree/permitree/engine/ObjectType;)Z"⟩ : MethodName) prog_22_method_10_code 2 (some .boolean) :: ws) ({ frames := 1, cells := 0, slots := 0, locals := 16 } : Room)) (fun aa U => aa = #[(.ref a), (.ref t)] ∧ Z.Warmed39 U.vm ∧ U.heap = h0) (fun _ _ _ _ _ => True) (fun _ U o U' => ∃ v L, o = .returned v ∧ Q1 (.int r) h0 n0 v U'.heap L ∧ FrameEnd U o U' L ({ frames := 1, cells := 0, slots := 0, locals := 16 } : Room).cells ({ frames := 1, cells := 0, slots := 0, locals := 16 } : Room).slots) := by
  refine MetFree.of_bodySF (plainFor_of_name pnH) hisR ?_
  intro p e s m args below meth c s₁ Bd hml0 hP hK
  obtain ⟨rfl, hZ, hh⟩ := hP
  have hx := Bd.exec
  have hby := Bd.bytes
  have hlk : meth.locks = false := BodyLoose.notSynchronized Bd
  have hml : c.maxLocals = 2 := hml0
  have hown : s.vm.findClass "com/example/permitree/permitree/engine/ObjectType" = some m.cls := findClass_of_methodNamed Bd.named
  have hnm := (name_of_methodNamed Bd.named Bd.method).1
  have X0 : Stand p l e ({ frames := 1, cells := 0, slots := 0, locals := 16 } : Room) s m #[(.ref a), (.ref t)] below meth c s₁ [] 0 0 := Stand.of_body Bd
  have e0 : s₁.heap = h0 := by rw [← hh, Bd.state]; rfl
  have N0 := Fr.nil n0
  have ef : entryFrame m #[(.ref a), (.ref t)] 2 = mkF m 0 #[rv a, rv t] [] := by first | (simp [entryFrame, mkF, argsToLocals, Value.category, maxLocals]; done) | rfl
  show Way p.tables e below (KQ s (Q1 (.int r) h0 n0) ({ frames := 1, cells := 0, slots := 0, locals := 16 } : Room).cells ({ frames := 1, cells := 0, slots := 0, locals := 16 } : Room).slots) (s₁.setTop (entryFrame m #[(.ref a), (.ref t)] 2))
  rw [ef]
  refine Way.by (fun _ k => XS.aloadN X0.here hx rfl (hb hby dH_0) rfl rfl k) ?_
  show Way _ _ _ _ (s₁.setTop (mkF m 1 #[rv a, rv t] [(.ref t)]))
  obtain ⟨cq17, kq18, qa19, qb20, qc21⟩ := isOf hZ e0 E
  obtain ⟨_, _, ⟨T1, L3, k4, n5⟩, -, X2, ⟨Lc6, hQ7, l8, y9, z10⟩, st11⟩ := X0.virtualBackUp hx (owner := "java/lang/Enum") (x := (⟨"com/example/permitree/permitree/engine/ObjectType", "ordinal", "()I"⟩ : MethodName)) (y := (⟨"java/lang/Enum", "ordinal", "()I"⟩ : MethodName)) hown (mvT hZ (tw hw 24 rfl)) (mvT hZ (tw hw 25 rfl)) (mvT hZ (tw hw 26 rfl)) (by decide) (mvT hZ (tw hw 28 rfl)) (mvT hZ (tw hw 27 rfl)) (backOf (W := 0) (rmO l Z a0 hw [] t (1 : Int32) h0 n0 Z0 F) hZ (tw hw 30 rfl) (tw hw 29 rfl) (by decide) (by decide)) qa19 qc21 (g := (mkF m 1 #[rv a, rv t] [(.ref t)])) rfl (by rw [hml]; rfl) (Steps.refl _) (argsL := []) (rest := []) (lenOf pdO rfl) rfl (by show 2 * 0 + _ ≤ _; exact Nat.le_of_eq rfl) (hb hby dH_1) (fun _ _ => ⟨rfl, e0, (Nat.le_of_ble_eq_true rfl), (Nat.le_of_ble_eq_true rfl)⟩)
  dsimp only [Pt.U, Pt.locs, Pt.cells, Pt.slots] at X2 l8 y9 z10 st11 hQ7
  subst l8 y9 z10
  obtain ⟨rfl, N22, e13⟩ := hQ7
  have N12 := Fr.app N0 N22
  refine Way.to st11 ?_
  show Way _ _ _ _ (T1.setTop (mkF m 4 #[rv a, rv t] [(.int 1)]))
  refine Way.by (fun _ k => XS.tswIn X2.here hx rfl (o := 50) (pc0 := 4) (pc' := 54) rfl (hb hby dH_4) rfl (by decide) (by decide) (by decide) (by decide) k) ?_
  show Way _ _ _ _ (T1.setTop (mkF m 54 #[rv a, rv t] []))
  refine Way.by (fun _ k => XS.aloadN X2.here hx rfl (hb hby dH_54) rfl rfl k) ?_
  show Way _ _ _ _ (T1.setTop (mkF m 55 #[rv a, rv t] [(.ref a)]))
  obtain ⟨T24, X25, e26, st27⟩ := getS X2 hx hZ hown (host := "") (tw hw 33 rfl) Via.refl e13 SCATALOG (g := (mkF m 55 #[rv a, rv t] [(.ref a)])) rfl (hb hby dH_55)
  refine Way.by st27 ?_
  show Way _ _ _ _ (T24.setTop (mkF m 58 #[rv a, rv t] [(.ref uCATALOG), (.ref a)]))
  by_cases hz58 : a = uCATALOG
  · skip
    refine Way.by (fun _ k => acmp X25 hx rfl rfl rfl (pc0 := 58) (pc' := 61) (same := true) rfl (hb hby dH_58) rfl (by simp [hz58]) (by decide) (by decide) k) ?_
    show Way _ _ _ _ (T24.setTop (mkF m 61 #[rv a, rv t] []))
    refine Way.by (fun _ k => XS.iconst X25.here hx rfl (hb hby dH_61) k) ?_
    show Way _ _ _ _ (T24.setTop (mkF m 62 #[rv a, rv t] [(.int 1)]))
    refine Way.by (fun _ k => XS.goto X25.here hx rfl (pc0 := 62) (pc' := 88) rfl (hb hby dH_62) (by decide) (by decide) k) ?_
    show Way _ _ _ _ (T24.setTop (mkF m 88 #[rv a, rv t] [(.int 1)]))
    refine Way.ret (v := (some (.int (nar .boolean (1 : Int32))))) X25 hlk (fun h => by rw [Bd.returns] at h; cases h) (fun fs hr => retN X25 hx (t := .boolean) Bd.returns (by simp) (hb hby dH_88) hr) ?_ (by decide) (by decide)
    show Q1 (.int r) h0 n0 _ T24.heap _
    rw [e26]
    exact ⟨by rw [hr]; simp [*]; rfl, N12, rfl⟩
  · skip
    refine Way.by (fun _ k => acmp X25 hx rfl rfl rfl (pc0 := 58) (pc' := 65) (same := false) rfl (hb hby dH_58) rfl (by simp [hz58]) (by decide) (by decide) k) ?_
    show Way _ _ _ _ (T24.setTop (mkF m 65 #[rv a, rv t] []))
    refine Way.by (fun _ k => XS.iconst X25.here hx rfl (hb hby dH_65) k) ?_
    show Way _ _ _ _ (T24.setTop (mkF m 66 #[rv a, rv t] [(.int 0)]))
    refine Way.by (fun _ k => XS.goto X25.here hx rfl (pc0 := 66) (pc' := 88) rfl (hb hby dH_66) (by decide) (by decide) k) ?_
    show Way _ _ _ _ (T24.setTop (mkF m 88 #[rv a, rv t] [(.int 0)]))
    refine Way.ret (v := (some (.int (nar .boolean (0 : Int32))))) X25 hlk (fun h => by rw [Bd.returns] at h; cases h) (fun fs hr => retN X25 hx (t := .boolean) Bd.returns (by simp) (hb hby dH_88) hr) ?_ (by decide) (by decide)
    show Q1 (.int r) h0 n0 _ T24.heap _
    rw [e26]
    exact ⟨by rw [hr]; simp [*]; rfl, N12, rfl⟩
theorem dG_69 : decode prog_22_method_10_code 69 = .ok (.aload_n 0, 1) := by decide +kernel
theorem dG_70 : decode prog_22_method_10_code 70 = .ok (.getstatic 7, 3) := by decide +kernel
theorem dG_73 : decode prog_22_method_10_code 73 = .ok (.if_acmp .eq 10, 3) := by decide +kernel
theorem dG_76 : decode prog_22_method_10_code 76 = .ok (.aload_n 0, 1) := by decide +kernel
theorem dG_77 : decode prog_22_method_10_code 77 = .ok (.getstatic 10, 3) := by decide +kernel
theorem dG_80 : decode prog_22_method_10_code 80 = .ok (.if_acmp .ne 7, 3) := by decide +kernel
theorem dG_83 : decode prog_22_method_10_code 83 = .ok (.iconst 1, 1) := by decide +kernel
theorem dG_84 : decode prog_22_method_10_code 84 = .ok (.goto 4, 3) := by decide +kernel
theorem dG_87 : decode prog_22_method_10_code 87 = .ok (.iconst 0, 1) := by decide +kernel
theorem pnG : plainName "com/example/permitree/permitree/engine/ObjectType" = true := by first | (simp [plainName, overriddenIn]; done) | decide +kernel
theorem pdG : parseMethodDescriptor "(Lcom/example/permitree/permitree/engine/ObjectType;)Z" = some ⟨[(.object "com/example/permitree/permitree/engine/ObjectType")], some .boolean⟩ := by decide +kernel
set_option maxRecDepth 65536 in
set_option maxHeartbeats 40000000 in
theorem rmG (l : Launch) (Z : State) (a0 : Array Value) (hw : ∀ d ∈ tables_1, d.before a0 Z = true) (ws : List Jvm.Cond) (a t uSCHEMA uFOLDER : Addr) (r : Int32) (h0 : Heap) (n0 : Nat) (Z0 : n0 ≤ h0.size) (SSCHEMA : Sta Z h0 "com/example/permitree/permitree/engine/ObjectType" "SCHEMA" "Lcom/example/permitree/permitree/engine/ObjectType;" (.ref uSCHEMA)) (SFOLDER : Sta Z h0 "com/example/permitree/permitree/engine/ObjectType" "FOLDER" "Lcom/example/permitree/permitree/engine/ObjectType;" (.ref uFOLDER)) (E : Exa Z h0 t "com/example/permitree/permitree/engine/ObjectType") (F : Fld Z h0 t "java/lang/Enum" "ordinal" "I" (.int 3)) (hr : r = if a = uSCHEMA ∨ a = uFOLDER then 1 else 0) :
    MetFree l (⟨"com/example/permitree/permitree/engine/ObjectType", "mayHold", "(Lcom/example/permitree/permitree/engine/ObjectType;)Z"⟩ : MethodName) (head1 (Jvm.Cond.code (⟨"com/example/permitree/permitree/engine/ObjectType", "mayHold", "(Lcom/example/permitree/permitree/engine/ObjectType;)Z"⟩ : MethodName) prog_22_method_10_code 2 (some .boolean) :: ws) ({ frames := 1, cells := 0, slots := 0, locals := 16 } : Room)) (fun aa U => aa = #[(.ref a), (.ref t)] ∧ Z.Warmed39 U.vm ∧ U.heap = h0) (fun _ _ _ _ _ => True) (fun _ U o U' => ∃ v L, o = .returned v ∧ Q1 (.int r) h0 n0 v U'.heap L ∧ FrameEnd U o U' L ({ frames := 1, cells := 0, slots := 0, locals := 16 } : Room).cells ({ frames := 1, cells := 0, slots := 0, locals := 16 } : Room).slots) := by
  refine MetFree.of_bodySF (plainFor_of_name pnG) hisR ?_
  intro p e s m args below meth c s₁ Bd hml0 hP hK
  obtain ⟨rfl, hZ, hh⟩ := hP
  have hx := Bd.exec
  have hby := Bd.bytes
  have hlk : meth.locks = false := BodyLoose.notSynchronized Bd
  have hml : c.maxLocals = 2 := hml0
  have hown : s.vm.findClass "com/example/permitree/permitree/engine/ObjectType" = some m.cls := findClass_of_methodNamed Bd.named
  have hnm := (name_of_methodNamed Bd.named Bd.method).1
  have X0 : Stand p l e ({ frames := 1, cells := 0, slots := 0, locals := 16 } : Room) s m #[(.ref a), (.ref t)] below meth c s₁ [] 0 0 := Stand.of_body Bd
  have e0 : s₁.heap = h0 := by rw [← hh, Bd.state]; rfl
  have N0 := Fr.nil n0
  have ef : entryFrame m #[(.ref a), (.ref t)] 2 = mkF m 0 #[rv a, rv t] [] := by first | (simp [entryFrame, mkF, argsToLocals, Value.category, maxLocals]; done) | rfl
  show Way p.tables e below (KQ s (Q1 (.int r) h0 n0) ({ frames := 1, cells := 0, slots := 0, locals := 16 } : Room).cells ({ frames := 1, cells := 0, slots := 0, locals := 16 } : Room).slots) (s₁.setTop (entryFrame m #[(.ref a), (.ref t)] 2))
  rw [ef]
  refine Way.by (fun _ k => XS.aloadN X0.here hx rfl (hb hby dH_0) rfl rfl k) ?_
  show Way _ _ _ _ (s₁.setTop (mkF m 1 #[rv a, rv t] [(.ref t)]))
  obtain ⟨cq17, kq18, qa19, qb20, qc21⟩ := isOf hZ e0 E
  obtain ⟨_, _, ⟨T1, L3, k4, n5⟩, -, X2, ⟨Lc6, hQ7, l8, y9, z10⟩, st11⟩ := X0.virtualBackUp hx (owner := "java/lang/Enum") (x := (⟨"com/example/permitree/permitree/engine/ObjectType", "ordinal", "()I"⟩ : MethodName)) (y := (⟨"java/lang/Enum", "ordinal", "()I"⟩ : MethodName)) hown (mvT hZ (tw hw 24 rfl)) (mvT hZ (tw hw 25 rfl)) (mvT hZ (tw hw 26 rfl)) (by decide) (mvT hZ (tw hw 28 rfl)) (mvT hZ (tw hw 27 rfl)) (backOf (W := 0) (rmO l Z a0 hw [] t (3 : Int32) h0 n0 Z0 F) hZ (tw hw 30 rfl) (tw hw 29 rfl) (by decide) (by decide)) qa19 qc21 (g := (mkF m 1 #[rv a, rv t] [(.ref t)])) rfl (by rw [hml]; rfl) (Steps.refl _) (argsL := []) (rest := []) (lenOf pdO rfl) rfl (by show 2 * 0 + _ ≤ _; exact Nat.le_of_eq rfl) (hb hby dH_1) (fun _ _ => ⟨rfl, e0, (Nat.le_of_ble_eq_true rfl), (Nat.le_of_ble_eq_true rfl)⟩)
  dsimp only [Pt.U, Pt.locs, Pt.cells, Pt.slots] at X2 l8 y9 z10 st11 hQ7
  subst l8 y9 z10
  obtain ⟨rfl, N22, e13⟩ := hQ7
  have N12 := Fr.app N0 N22
  refine Way.to st11 ?_
  show Way _ _ _ _ (T1.setTop (mkF m 4 #[rv a, rv t] [(.int 3)]))
  refine Way.by (fun _ k => XS.tswIn X2.here hx rfl (o := 65) (pc0 := 4) (pc' := 69) rfl (hb hby dH_4) rfl (by decide) (by decide) (by decide) (by decide) k) ?_
  show Way _ _ _ _ (T1.setTop (mkF m 69 #[rv a, rv t] []))
  refine Way.by (fun _ k => XS.aloadN X2.here hx rfl (hb hby dG_69) rfl rfl k) ?_
  show Way _ _ _ _ (T1.setTop (mkF m 70 #[rv a, rv t] [(.ref a)]))
  obtain ⟨T24, X25, e26, st27⟩ := getS X2 hx hZ hown (host := "") (tw hw 35 rfl) Via.refl e13 SSCHEMA (g := (mkF m 70 #[rv a, rv t] [(.ref a)])) rfl (hb hby dG_70)
  refine Way.by st27 ?_
  show Way _ _ _ _ (T24.setTop (mkF m 73 #[rv a, rv t] [(.ref uSCHEMA), (.ref a)]))
  by_cases hz73 : a = uSCHEMA
  · skip
    refine Way.by (fun _ k => acmp X25 hx rfl rfl rfl (pc0 := 73) (pc' := 83) (same := true) rfl (hb hby dG_73) rfl (by simp [hz73]) (by decide) (by decide) k) ?_
    show Way _ _ _ _ (T24.setTop (mkF m 83 #[rv a, rv t] []))
    refine Way.by (fun _ k => XS.iconst X25.here hx rfl (hb hby dG_83) k) ?_
    show Way _ _ _ _ (T24.setTop (mkF m 84 #[rv a, rv t] [(.int 1)]))
    refine Way.by (fun _ k => XS.goto X25.here hx rfl (pc0 := 84) (pc' := 88) rfl (hb hby dG_84) (by decide) (by decide) k) ?_
    show Way _ _ _ _ (T24.setTop (mkF m 88 #[rv a, rv t] [(.int 1)]))
    refine Way.ret (v := (some (.int (nar .boolean (1 : Int32))))) X25 hlk (fun h => by rw [Bd.returns] at h; cases h) (fun fs hr => retN X25 hx (t := .boolean) Bd.returns (by simp) (hb hby dH_88) hr) ?_ (by decide) (by decide)
    show Q1 (.int r) h0 n0 _ T24.heap _
    rw [e26]
    exact ⟨by rw [hr]; simp [*]; rfl, N12, rfl⟩
  · skip
    refine Way.by (fun _ k => acmp X25 hx rfl rfl rfl (pc0 := 73) (pc' := 76) (same := false) rfl (hb hby dG_73) rfl (by simp [hz73]) (by decide) (by decide) k) ?_
    show Way _ _ _ _ (T24.setTop (mkF m 76 #[rv a, rv t] []))
    refine Way.by (fun _ k => XS.aloadN X25.here hx rfl (hb hby dG_76) rfl rfl k) ?_
    show Way _ _ _ _ (T24.setTop (mkF m 77 #[rv a, rv t] [(.ref a)]))
    obtain ⟨T28, X29, e30, st31⟩ := getS X25 hx hZ hown (host := "") (tw hw 36 rfl) Via.refl e26 SFOLDER (g := (mkF m 77 #[rv a, rv t] [(.ref a)])) rfl (hb hby dG_77)
    refine Way.by st31 ?_
    show Way _ _ _ _ (T28.setTop (mkF m 80 #[rv a, rv t] [(.ref uFOLDER), (.ref a)]))
    by_cases hz80 : a = uFOLDER
    · skip
      refine Way.by (fun _ k => acmp X29 hx rfl rfl rfl (pc0 := 80) (pc' := 83) (same := true) rfl (hb hby dG_80) rfl (by simp [hz80]) (by decide) (by decide) k) ?_
      show Way _ _ _ _ (T28.setTop (mkF m 83 #[rv a, rv t] []))
      refine Way.by (fun _ k => XS.iconst X29.here hx rfl (hb hby dG_83) k) ?_
      show Way _ _ _ _ (T28.setTop (mkF m 84 #[rv a, rv t] [(.int 1)]))
      refine Way.by (fun _ k => XS.goto X29.here hx rfl (pc0 := 84) (pc' := 88) rfl (hb hby dG_84) (by decide) (by decide) k) ?_
      show Way _ _ _ _ (T28.setTop (mkF m 88 #[rv a, rv t] [(.int 1)]))
      refine Way.ret (v := (some (.int (nar .boolean (1 : Int32))))) X29 hlk (fun h => by rw [Bd.returns] at h; cases h) (fun fs hr => retN X29 hx (t := .boolean) Bd.returns (by simp) (hb hby dH_88) hr) ?_ (by decide) (by decide)
      show Q1 (.int r) h0 n0 _ T28.heap _
      rw [e30]
      exact ⟨by rw [hr]; simp [*]; rfl, N12, rfl⟩
    · skip
      refine Way.by (fun _ k => acmp X29 hx rfl rfl rfl (pc0 := 80) (pc' := 87) (same := false) rfl (hb hby dG_80) rfl (by simp [hz80]) (by decide) (by decide) k) ?_
      show Way _ _ _ _ (T28.setTop (mkF m 87 #[rv a, rv t] []))
      refine Way.by (fun _ k => XS.iconst X29.here hx rfl (hb hby dG_87) k) ?_
      show Way _ _ _ _ (T28.setTop (mkF m 88 #[rv a, rv t] [(.int 0)]))
      refine Way.ret (v := (some (.int (nar .boolean (0 : Int32))))) X29 hlk (fun h => by rw [Bd.returns] at h; cases h) (fun fs hr => retN X29 hx (t := .boolean) Bd.returns (by simp) (hb hby dH_88) hr) ?_ (by decide) (by decide)
      show Q1 (.int r) h0 n0 _ T28.heap _
      rw [e30]
      exact ⟨by rw [hr]; simp [*]; rfl, N12, rfl⟩
def Q0 (n0 : Nat) (v : Option Value) (h : Heap) (L : List Loc) : Prop := v = some (.int 1) ∧ Fr n0 L
theorem pn0 : plainName "com/example/permitree/permitree/engine/ObjectTypeIsDatasetPinLaw" = true := by first | (simp [plainName, overriddenIn]; done) | decide +kernel
theorem pd0 : parseMethodDescriptor "(I)Z" = some ⟨[.int], some .boolean⟩ := by decide +kernel
set_option maxRecDepth 65536 in
set_option maxHeartbeats 40000000 in
theorem rm0 (l : Launch) (Z : State) (a0 : Array Value) (hw : ∀ d ∈ tables_1, d.before a0 Z = true) (ws : List Jvm.Cond) (p1 : Int32) (uCATALOG uSCHEMA uFOLDER uTABLE uVIEW : Addr) (h0 : Heap) (n0 : Nat) (Z0 : n0 ≤ h0.size) (SCATALOG : Sta Z h0 "com/example/permitree/permitree/engine/ObjectType" "CATALOG" "Lcom/example/permitree/permitree/engine/ObjectType;" (.ref uCATALOG)) (ECATALOG : Exa Z h0 uCATALOG "com/example/permitree/permitree/engine/ObjectType") (FCATALOG : Fld Z h0 uCATALOG "java/lang/Enum" "ordinal" "I" (.int 0)) (SSCHEMA : Sta Z h0 "com/example/permitree/permitree/engine/ObjectType" "SCHEMA" "Lcom/example/permitree/permitree/engine/ObjectType;" (.ref uSCHEMA)) (ESCHEMA : Exa Z h0 uSCHEMA "com/example/permitree/permitree/engine/ObjectType") (FSCHEMA : Fld Z h0 uSCHEMA "java/lang/Enum" "ordinal" "I" (.int 1)) (SFOLDER : Sta Z h0 "com/example/permitree/permitree/engine/ObjectType" "FOLDER" "Lcom/example/permitree/permitree/engine/ObjectType;" (.ref uFOLDER)) (EFOLDER : Exa Z h0 uFOLDER "com/example/permitree/permitree/engine/ObjectType") (FFOLDER : Fld Z h0 uFOLDER "java/lang/Enum" "ordinal" "I" (.int 2)) (STABLE : Sta Z h0 "com/example/permitree/permitree/engine/ObjectType" "TABLE" "Lcom/example/permitree/permitree/engine/ObjectType;" (.ref uTABLE)) (ETABLE : Exa Z h0 uTABLE "com/example/permitree/permitree/engine/ObjectType") (FTABLE : Fld Z h0 uTABLE "java/lang/Enum" "ordinal" "I" (.int 3)) (SVIEW : Sta Z h0 "com/example/permitree/permitree/engine/ObjectType" "VIEW" "Lcom/example/permitree/permitree/engine/ObjectType;" (.ref uVIEW)) (EVIEW : Exa Z h0 uVIEW "com/example/permitree/permitree/engine/ObjectType") (FVIEW : Fld Z h0 uVIEW "java/lang/Enum" "ordinal" "I" (.int 4)) (NE : ¬ uCATALOG = uSCHEMA ∧ ¬ uCATALOG = uFOLDER ∧ ¬ uCATALOG = uTABLE ∧ ¬ uCATALOG = uVIEW ∧ ¬ uSCHEMA = uCATALOG ∧ ¬ uSCHEMA = uFOLDER ∧ ¬ uSCHEMA = uTABLE ∧ ¬ uSCHEMA = uVIEW ∧ ¬ uFOLDER = uCATALOG ∧ ¬ uFOLDER = uSCHEMA ∧ ¬ uFOLDER = uTABLE ∧ ¬ uFOLDER = uVIEW ∧ ¬ uTABLE = uCATALOG ∧ ¬ uTABLE = uSCHEMA ∧ ¬ uTABLE = uFOLDER ∧ ¬ uTABLE = uVIEW ∧ ¬ uVIEW = uCATALOG ∧ ¬ uVIEW = uSCHEMA ∧ ¬ uVIEW = uFOLDER ∧ ¬ uVIEW = uTABLE) :
    MetFree l x (head1 (Jvm.Cond.code x code maxLocals ret :: ws) room_1) (fun aa U => aa = #[(.int p1)] ∧ Z.Warmed39 U.vm ∧ U.heap = h0) (fun _ _ _ _ _ => True) (fun _ U o U' => ∃ v L, o = .returned v ∧ Q0 n0 v U'.heap L ∧ FrameEnd U o U' L room_1.cells room_1.slots) := by
  refine MetFree.of_bodySF (plainFor_of_name pn0) hisR ?_
  intro p e s m args below meth c s₁ Bd hml0 hP hK
  obtain ⟨rfl, hZ, hh⟩ := hP
  have hx := Bd.exec
  have hby := Bd.bytes
  have hlk : meth.locks = false := BodyLoose.notSynchronized Bd
  have hml : c.maxLocals = 6 := hml0
  have hown : s.vm.findClass "com/example/permitree/permitree/engine/ObjectTypeIsDatasetPinLaw" = some m.cls := findClass_of_methodNamed Bd.named
  have hnm := (name_of_methodNamed Bd.named Bd.method).1
  have X0 : Stand p l e room_1 s m #[(.int p1)] below meth c s₁ [] 0 0 := Stand.of_body Bd
  have e0 : s₁.heap = h0 := by rw [← hh, Bd.state]; rfl
  have N0 := Fr.nil n0
  have ef : entryFrame m #[(.int p1)] maxLocals = mkF m 0 #[iv p1, .unset, .unset, .unset, .unset, .unset] [] := by first | (simp [entryFrame, mkF, argsToLocals, Value.category, maxLocals]; done) | rfl
  show Way p.tables e below (KQ s (Q0 n0) room_1.cells room_1.slots) (s₁.setTop (entryFrame m #[(.int p1)] maxLocals))
  rw [ef]
  refine Way.by (fun _ k => XS.iloadN X0.here hx rfl (hb hby at_0) rfl k) ?_
  show Way _ _ _ _ (s₁.setTop (mkF m 1 #[iv p1, .unset, .unset, .unset, .unset, .unset] [(.int p1)]))
  refine Way.by (Stand.ldcInt X0 hx hown (mvT hZ (tw hw 0 rfl)) rfl (hb hby at_1)) ?_
  show Way _ _ _ _ (s₁.setTop (mkF m 3 #[iv p1, .unset, .unset, .unset, .unset, .unset] [(.int 2147483647), (.int p1)]))
  refine Way.by (fun _ k => XS.iand X0.here hx rfl (hb hby at_3) rfl k) ?_
  show Way _ _ _ _ (s₁.setTop (mkF m 4 #[iv p1, .unset, .unset, .unset, .unset, .unset] [(.int (p1 &&& (2147483647 : Int32)))]))
  refine Way.by (fun _ k => XS.iconst X0.here hx rfl (hb hby at_4) k) ?_
  show Way _ _ _ _ (s₁.setTop (mkF m 5 #[iv p1, .unset, .unset, .unset, .unset, .unset] [(.int 5), (.int (p1 &&& (2147483647 : Int32)))]))
  refine Way.by (fun _ k => iremM X0 hx rfl (hb hby at_5) rfl (by decide) k) ?_
  show Way _ _ _ _ (s₁.setTop (mkF m 6 #[iv p1, .unset, .unset, .unset, .unset, .unset] [(.int ((p1 &&& (2147483647 : Int32)) % (5 : Int32)))]))
  refine Way.by (fun _ k => XS.istoreN X0.here hx rfl (hb hby at_6) rfl (l' := #[iv p1, iv ((p1 &&& (2147483647 : Int32)) % (5 : Int32)), .unset, .unset, .unset, .unset]) rfl k) ?_
  show Way _ _ _ _ (s₁.setTop (mkF m 7 #[iv p1, iv ((p1 &&& (2147483647 : Int32)) % (5 : Int32)), .unset, .unset, .unset, .unset] []))
  obtain ⟨k, qk⟩ : ∃ z, z = (p1 &&& (2147483647 : Int32)) % (5 : Int32) := ⟨_, rfl⟩
  rw [← qk]
  have hk : 0 ≤ k.toInt ∧ k.toInt < 5 := by rw [qk]; exact remB p1 5 5 rfl (by decide)
  rcases cases5 hk with rfl | rfl | rfl | rfl | rfl
  · skip
    show Way _ _ _ _ (s₁.setTop (mkF m 7 #[iv p1, iv 0, .unset, .unset, .unset, .unset] []))
    refine Way.by (fun _ k => XS.iloadN X0.here hx rfl (hb hby at_7) rfl k) ?_
    show Way _ _ _ _ (s₁.setTop (mkF m 8 #[iv p1, iv 0, .unset, .unset, .unset, .unset] [(.int 0)]))
    obtain ⟨_, _, ⟨T1, L3, k4, n5⟩, -, X2, ⟨Lc6, hQ7, l8, y9, z10⟩, st11⟩ := Jvm.LawKit.callS X0 hx (y := (⟨"com/example/permitree/permitree/engine/ObjectTypeIsDatasetPinLaw", "pick", "(I)Lcom/example/permitree/permitree/engine/ObjectType;"⟩ : MethodName)) hown (mvT hZ (tw hw 1 rfl)) (mvT hZ (tw hw 2 rfl)) (mvT hZ (tw hw 3 rfl)) (mvT hZ (tw hw 4 rfl)) (by decide) (backOf (W := 0) (rmP l Z a0 hw [] uCATALOG h0 n0 Z0 SCATALOG) hZ (tw hw 4 rfl) (tw hw 3 rfl) (by decide) (by decide)) (g := (mkF m 8 #[iv p1, iv 0, .unset, .unset, .unset, .unset] [(.int 0)])) rfl (by rw [hml]; rfl) (argsL := [(.int 0)]) (rest := []) (lenOf pdP rfl) rfl (by show 2 * 0 + _ ≤ _; exact Nat.le_of_eq rfl) (hb hby at_8) (fun _ _ => ⟨rfl, e0, (Nat.le_of_ble_eq_true rfl), (Nat.le_of_ble_eq_true rfl)⟩)
    dsimp only [Pt.U, Pt.locs, Pt.cells, Pt.slots] at X2 l8 y9 z10 st11 hQ7
    subst l8 y9 z10
    obtain ⟨rfl, N17, e13⟩ := hQ7
    have N12 := Fr.app N0 N17
    refine Way.by st11 ?_
    show Way _ _ _ _ (T1.setTop (mkF m 11 #[iv p1, iv 0, .unset, .unset, .unset, .unset] [(.ref uCATALOG)]))
    refine Way.by (fun _ k => XS.astoreN X2.here hx rfl (hb hby at_11) rfl rfl (l' := #[iv p1, iv 0, rv uCATALOG, .unset, .unset, .unset]) rfl k) ?_
    show Way _ _ _ _ (T1.setTop (mkF m 12 #[iv p1, iv 0, rv uCATALOG, .unset, .unset, .unset] []))
    refine Way.by (fun _ k => XS.aloadN X2.here hx rfl (hb hby at_12) rfl rfl k) ?_
    show Way _ _ _ _ (T1.setTop (mkF m 13 #[iv p1, iv 0, rv uCATALOG, .unset, .unset, .unset] [(.ref uCATALOG)]))
    obtain ⟨cq35, kq36, qa37, qb38, qc39⟩ := isOf hZ e13 ECATALOG
    obtain ⟨_, _, ⟨T19, L21, k22, n23⟩, -, X20, ⟨Lc24, hQ25, l26, y27, z28⟩, st29⟩ := X2.virtualBack hx (y := (⟨"com/example/permitree/permitree/engine/ObjectType", "isDataset", "()Z"⟩ : MethodName)) (z := (⟨"com/example/permitree/permitree/engine/ObjectType", "isDataset", "()Z"⟩ : MethodName)) hown (mvT hZ (tw hw 8 rfl)) (mvT hZ (tw hw 9 rfl)) (notFace_of_selects (args := #[]) (mvT hZ (tw hw 11 rfl))) (mvT hZ (tw hw 11 rfl)) (mvT hZ (tw hw 10 rfl)) (by decide) (backOf (W := 0) (rmD l Z a0 hw [] uCATALOG uTABLE uVIEW (0 : Int32) h0 n0 Z0 STABLE SVIEW (by simp [NE])) hZ (tw hw 12 rfl) (tw hw 6 rfl) (by decide) (by decide)) qa37 qc39 (g := (mkF m 13 #[iv p1, iv 0, rv uCATALOG, .unset, .unset, .unset] [(.ref uCATALOG)])) rfl (by rw [hml]; rfl) (Steps.refl _) (argsL := []) (rest := []) (lenOf pdD rfl) rfl (by show 2 * 0 + _ ≤ _; exact Nat.le_of_eq rfl) (hb hby at_13) (fun _ _ => ⟨rfl, e13, (Nat.le_of_ble_eq_true rfl), (Nat.le_of_ble_eq_true rfl)⟩)
    dsimp only [Pt.U, Pt.locs, Pt.cells, Pt.slots] at X20 l26 y27 z28 st29 hQ25
    subst l26 y27 z28
    obtain ⟨rfl, N40, e31⟩ := hQ25
    have N30 := Fr.app N12 N40
    refine Way.to st29 ?_
    show Way _ _ _ _ (T19.setTop (mkF m 16 #[iv p1, iv 0, rv uCATALOG, .unset, .unset, .unset] [(.int 0)]))
    refine Way.by (fun _ k => XS.istoreN X20.here hx rfl (hb hby at_16) rfl (l' := #[iv p1, iv 0, rv uCATALOG, iv 0, .unset, .unset]) rfl k) ?_
    show Way _ _ _ _ (T19.setTop (mkF m 17 #[iv p1, iv 0, rv uCATALOG, iv 0, .unset, .unset] []))
    refine Way.by (fun _ k => XS.iloadN X20.here hx rfl (hb hby at_17) rfl k) ?_
    show Way _ _ _ _ (T19.setTop (mkF m 18 #[iv p1, iv 0, rv uCATALOG, iv 0, .unset, .unset] [(.int 0)]))
    refine Way.by (fun _ k => XS.iconst X20.here hx rfl (hb hby at_18) k) ?_
    show Way _ _ _ _ (T19.setTop (mkF m 19 #[iv p1, iv 0, rv uCATALOG, iv 0, .unset, .unset] [(.int 3), (.int 0)]))
    have b42 : ¬ (0 : Int32) = (3 : Int32) := by decide
    refine Way.by (fun _ k => XS.icmpNo X20.here hx rfl (hb hby at_19) rfl (feq b42).1 k) ?_
    show Way _ _ _ _ (T19.setTop (mkF m 22 #[iv p1, iv 0, rv uCATALOG, iv 0, .unset, .unset] []))
    refine Way.by (fun _ k => XS.iloadN X20.here hx rfl (hb hby at_22) rfl k) ?_
    show Way _ _ _ _ (T19.setTop (mkF m 23 #[iv p1, iv 0, rv uCATALOG, iv 0, .unset, .unset] [(.int 0)]))
    refine Way.by (fun _ k => XS.iconst X20.here hx rfl (hb hby at_23) k) ?_
    show Way _ _ _ _ (T19.setTop (mkF m 24 #[iv p1, iv 0, rv uCATALOG, iv 0, .unset, .unset] [(.int 4), (.int 0)]))
    have b43 : ¬ (0 : Int32) = (4 : Int32) := by decide
    refine Way.by (fun _ k => XS.icmpYes X20.here hx rfl (pc0 := 24) (pc' := 31) rfl (hb hby at_24) rfl (feq b43).2 (by decide) (by decide) k) ?_
    show Way _ _ _ _ (T19.setTop (mkF m 31 #[iv p1, iv 0, rv uCATALOG, iv 0, .unset, .unset] []))
    refine Way.by (fun _ k => XS.iconst X20.here hx rfl (hb hby at_31) k) ?_
    show Way _ _ _ _ (T19.setTop (mkF m 32 #[iv p1, iv 0, rv uCATALOG, iv 0, .unset, .unset] [(.int 0)]))
    refine Way.by (fun _ k => XS.istore X20.here hx rfl (hb hby at_32) rfl (l' := #[iv p1, iv 0, rv uCATALOG, iv 0, iv 0, .unset]) rfl k) ?_
    show Way _ _ _ _ (T19.setTop (mkF m 34 #[iv p1, iv 0, rv uCATALOG, iv 0, iv 0, .unset] []))
    refine Way.by (fun _ k => XS.aloadN X20.here hx rfl (hb hby at_34) rfl rfl k) ?_
    show Way _ _ _ _ (T19.setTop (mkF m 35 #[iv p1, iv 0, rv uCATALOG, iv 0, iv 0, .unset] [(.ref uCATALOG)]))
    obtain ⟨T44, X45, e46, st47⟩ := getS X20 hx hZ hown (host := "") (tw hw 17 rfl) Via.refl e31 SSCHEMA (g := (mkF m 35 #[iv p1, iv 0, rv uCATALOG, iv 0, iv 0, .unset] [(.ref uCATALOG)])) rfl (hb hby at_35)
    refine Way.by st47 ?_
    show Way _ _ _ _ (T44.setTop (mkF m 38 #[iv p1, iv 0, rv uCATALOG, iv 0, iv 0, .unset] [(.ref uSCHEMA), (.ref uCATALOG)]))
    obtain ⟨cq64, kq65, qa66, qb67, qc68⟩ := isOf hZ e46 ECATALOG
    obtain ⟨_, _, ⟨T48, L50, k51, n52⟩, -, X49, ⟨Lc53, hQ54, l55, y56, z57⟩, st58⟩ := X45.virtualBack hx (y := (⟨"com/example/permitree/permitree/engine/ObjectType", "mayHold", "(Lcom/example/permitree/permitree/engine/ObjectType;)Z"⟩ : MethodName)) (z := (⟨"com/example/permitree/permitree/engine/ObjectType", "mayHold", "(Lcom/example/permitree/permitree/engine/ObjectType;)Z"⟩ : MethodName)) hown (mvT hZ (tw hw 19 rfl)) (mvT hZ (tw hw 20 rfl)) (notFace_of_selects (args := #[]) (mvT hZ (tw hw 22 rfl))) (mvT hZ (tw hw 22 rfl)) (mvT hZ (tw hw 21 rfl)) (by decide) (backOf (W := 0) (rmH l Z a0 hw [] uCATALOG uSCHEMA uCATALOG (1 : Int32) h0 n0 Z0 SCATALOG ESCHEMA FSCHEMA (by simp [NE])) hZ (tw hw 23 rfl) (tw hw 6 rfl) (by decide) (by decide)) qa66 qc68 (g := (mkF m 38 #[iv p1, iv 0, rv uCATALOG, iv 0, iv 0, .unset] [(.ref uSCHEMA), (.ref uCATALOG)])) rfl (by rw [hml]; rfl) (Steps.refl _) (argsL := [(.ref uSCHEMA)]) (rest := []) (lenOf pdH rfl) rfl (by show 2 * 0 + _ ≤ _; exact Nat.le_of_eq rfl) (hb hby at_38) (fun _ _ => ⟨rfl, e46, (Nat.le_of_ble_eq_true rfl), (Nat.le_of_ble_eq_true rfl)⟩)
    dsimp only [Pt.U, Pt.locs, Pt.cells, Pt.slots] at X49 l55 y56 z57 st58 hQ54
    subst l55 y56 z57
    obtain ⟨rfl, N69, e60⟩ := hQ54
    have N59 := Fr.app N30 N69
    refine Way.to st58 ?_
    show Way _ _ _ _ (T48.setTop (mkF m 41 #[iv p1, iv 0, rv uCATALOG, iv 0, iv 0, .unset] [(.int 1)]))
    have b71 : ¬ (1 : Int32) = (0 : Int32) := by decide
    refine Way.by (fun _ k => XS.ifYes X49.here hx rfl (pc0 := 41) (pc' := 58) rfl (hb hby at_41) rfl ((if0 .ne _).trans (feq b71).2) (by decide) (by decide) k) ?_
    show Way _ _ _ _ (T48.setTop (mkF m 58 #[iv p1, iv 0, rv uCATALOG, iv 0, iv 0, .unset] []))
    refine Way.by (fun _ k => XS.iconst X49.here hx rfl (hb hby at_58) k) ?_
    show Way _ _ _ _ (T48.setTop (mkF m 59 #[iv p1, iv 0, rv uCATALOG, iv 0, iv 0, .unset] [(.int 0)]))
    refine Way.by (fun _ k => XS.istore X49.here hx rfl (hb hby at_59) rfl (l' := #[iv p1, iv 0, rv uCATALOG, iv 0, iv 0, iv 0]) rfl k) ?_
    show Way _ _ _ _ (T48.setTop (mkF m 61 #[iv p1, iv 0, rv uCATALOG, iv 0, iv 0, iv 0] []))
    refine Way.by (fun _ k => XS.iloadN X49.here hx rfl (hb hby at_61) rfl k) ?_
    show Way _ _ _ _ (T48.setTop (mkF m 62 #[iv p1, iv 0, rv uCATALOG, iv 0, iv 0, iv 0] [(.int 0)]))
    refine Way.by (fun _ k => XS.iload X49.here hx rfl (hb hby at_62) rfl k) ?_
    show Way _ _ _ _ (T48.setTop (mkF m 64 #[iv p1, iv 0, rv uCATALOG, iv 0, iv 0, iv 0] [(.int 0), (.int 0)]))
    have b72 : (0 : Int32) = (0 : Int32) := by decide
    refine Way.by (fun _ k => XS.icmpNo X49.here hx rfl (hb hby at_64) rfl (teq b72).2 k) ?_
    show Way _ _ _ _ (T48.setTop (mkF m 67 #[iv p1, iv 0, rv uCATALOG, iv 0, iv 0, iv 0] []))
    refine Way.by (fun _ k => XS.iloadN X49.here hx rfl (hb hby at_67) rfl k) ?_
    show Way _ _ _ _ (T48.setTop (mkF m 68 #[iv p1, iv 0, rv uCATALOG, iv 0, iv 0, iv 0] [(.int 0)]))
    refine Way.by (fun _ k => XS.iload X49.here hx rfl (hb hby at_68) rfl k) ?_
    show Way _ _ _ _ (T48.setTop (mkF m 70 #[iv p1, iv 0, rv uCATALOG, iv 0, iv 0, iv 0] [(.int 0), (.int 0)]))
    have b73 : (0 : Int32) = (0 : Int32) := by decide
    refine Way.by (fun _ k => XS.icmpNo X49.here hx rfl (hb hby at_70) rfl (teq b73).2 k) ?_
    show Way _ _ _ _ (T48.setTop (mkF m 73 #[iv p1, iv 0, rv uCATALOG, iv 0, iv 0, iv 0] []))
    refine Way.by (fun _ k => XS.iconst X49.here hx rfl (hb hby at_73) k) ?_
    show Way _ _ _ _ (T48.setTop (mkF m 74 #[iv p1, iv 0, rv uCATALOG, iv 0, iv 0, iv 0] [(.int 1)]))
    refine Way.by (fun _ k => XS.goto X49.here hx rfl (pc0 := 74) (pc' := 78) rfl (hb hby at_74) (by decide) (by decide) k) ?_
    show Way _ _ _ _ (T48.setTop (mkF m 78 #[iv p1, iv 0, rv uCATALOG, iv 0, iv 0, iv 0] [(.int 1)]))
    refine Way.ret (v := (some (.int (nar .boolean (1 : Int32))))) X49 hlk (fun h => by rw [Bd.returns] at h; cases h) (fun fs hr => retN X49 hx (t := .boolean) Bd.returns (by simp) (hb hby at_78) hr) ?_ (by decide) (by decide)
    show Q0 n0 _ T48.heap _
    rw [e60]
    exact ⟨rfl, N59⟩
  · skip
    show Way _ _ _ _ (s₁.setTop (mkF m 7 #[iv p1, iv 1, .unset, .unset, .unset, .unset] []))
    refine Way.by (fun _ k => XS.iloadN X0.here hx rfl (hb hby at_7) rfl k) ?_
    show Way _ _ _ _ (s₁.setTop (mkF m 8 #[iv p1, iv 1, .unset, .unset, .unset, .unset] [(.int 1)]))
    obtain ⟨_, _, ⟨T74, L76, k77, n78⟩, -, X75, ⟨Lc79, hQ80, l81, y82, z83⟩, st84⟩ := Jvm.LawKit.callS X0 hx (y := (⟨"com/example/permitree/permitree/engine/ObjectTypeIsDatasetPinLaw", "pick", "(I)Lcom/example/permitree/permitree/engine/ObjectType;"⟩ : MethodName)) hown (mvT hZ (tw hw 1 rfl)) (mvT hZ (tw hw 2 rfl)) (mvT hZ (tw hw 3 rfl)) (mvT hZ (tw hw 4 rfl)) (by decide) (backOf (W := 0) (rmP1 l Z a0 hw [] uSCHEMA h0 n0 Z0 SSCHEMA) hZ (tw hw 4 rfl) (tw hw 3 rfl) (by decide) (by decide)) (g := (mkF m 8 #[iv p1, iv 1, .unset, .unset, .unset, .unset] [(.int 1)])) rfl (by rw [hml]; rfl) (argsL := [(.int 1)]) (rest := []) (lenOf pdP rfl) rfl (by show 2 * 0 + _ ≤ _; exact Nat.le_of_eq rfl) (hb hby at_8) (fun _ _ => ⟨rfl, e0, (Nat.le_of_ble_eq_true rfl), (Nat.le_of_ble_eq_true rfl)⟩)
    dsimp only [Pt.U, Pt.locs, Pt.cells, Pt.slots] at X75 l81 y82 z83 st84 hQ80
    subst l81 y82 z83
    obtain ⟨rfl, N90, e86⟩ := hQ80
    have N85 := Fr.app N0 N90
    refine Way.by st84 ?_
    show Way _ _ _ _ (T74.setTop (mkF m 11 #[iv p1, iv 1, .unset, .unset, .unset, .unset] [(.ref uSCHEMA)]))
    refine Way.by (fun _ k => XS.astoreN X75.here hx rfl (hb hby at_11) rfl rfl (l' := #[iv p1, iv 1, rv uSCHEMA, .unset, .unset, .unset]) rfl k) ?_
    show Way _ _ _ _ (T74.setTop (mkF m 12 #[iv p1, iv 1, rv uSCHEMA, .unset, .unset, .unset] []))
    refine Way.by (fun _ k => XS.aloadN X75.here hx rfl (hb hby at_12) rfl rfl k) ?_
    show Way _ _ _ _ (T74.setTop (mkF m 13 #[iv p1, iv 1, rv uSCHEMA, .unset, .unset, .unset] [(.ref uSCHEMA)]))
    obtain ⟨cq108, kq109, qa110, qb111, qc112⟩ := isOf hZ e86 ESCHEMA
    obtain ⟨_, _, ⟨T92, L94, k95, n96⟩, -, X93, ⟨Lc97, hQ98, l99, y100, z101⟩, st102⟩ := X75.virtualBack hx (y := (⟨"com/example/permitree/permitree/engine/ObjectType", "isDataset", "()Z"⟩ : MethodName)) (z := (⟨"com/example/permitree/permitree/engine/ObjectType", "isDataset", "()Z"⟩ : MethodName)) hown (mvT hZ (tw hw 8 rfl)) (mvT hZ (tw hw 9 rfl)) (notFace_of_selects (args := #[]) (mvT hZ (tw hw 11 rfl))) (mvT hZ (tw hw 11 rfl)) (mvT hZ (tw hw 10 rfl)) (by decide) (backOf (W := 0) (rmD l Z a0 hw [] uSCHEMA uTABLE uVIEW (0 : Int32) h0 n0 Z0 STABLE SVIEW (by simp [NE])) hZ (tw hw 12 rfl) (tw hw 6 rfl) (by decide) (by decide)) qa110 qc112 (g := (mkF m 13 #[iv p1, iv 1, rv uSCHEMA, .unset, .unset, .unset] [(.ref uSCHEMA)])) rfl (by rw [hml]; rfl) (Steps.refl _) (argsL := []) (rest := []) (lenOf pdD rfl) rfl (by show 2 * 0 + _ ≤ _; exact Nat.le_of_eq rfl) (hb hby at_13) (fun _ _ => ⟨rfl, e86, (Nat.le_of_ble_eq_true rfl), (Nat.le_of_ble_eq_true rfl)⟩)
    dsimp only [Pt.U, Pt.locs, Pt.cells, Pt.slots] at X93 l99 y100 z101 st102 hQ98
    subst l99 y100 z101
    obtain ⟨rfl, N113, e104⟩ := hQ98
    have N103 := Fr.app N85 N113
    refine Way.to st102 ?_
    show Way _ _ _ _ (T92.setTop (mkF m 16 #[iv p1, iv 1, rv uSCHEMA, .unset, .unset, .unset] [(.int 0)]))
    refine Way.by (fun _ k => XS.istoreN X93.here hx rfl (hb hby at_16) rfl (l' := #[iv p1, iv 1, rv uSCHEMA, iv 0, .unset, .unset]) rfl k) ?_
    show Way _ _ _ _ (T92.setTop (mkF m 17 #[iv p1, iv 1, rv uSCHEMA, iv 0, .unset, .unset] []))
    refine Way.by (fun _ k => XS.iloadN X93.here hx rfl (hb hby at_17) rfl k) ?_
    show Way _ _ _ _ (T92.setTop (mkF m 18 #[iv p1, iv 1, rv uSCHEMA, iv 0, .unset, .unset] [(.int 1)]))
    refine Way.by (fun _ k => XS.iconst X93.here hx rfl (hb hby at_18) k) ?_
    show Way _ _ _ _ (T92.setTop (mkF m 19 #[iv p1, iv 1, rv uSCHEMA, iv 0, .unset, .unset] [(.int 3), (.int 1)]))
    have b115 : ¬ (1 : Int32) = (3 : Int32) := by decide
    refine Way.by (fun _ k => XS.icmpNo X93.here hx rfl (hb hby at_19) rfl (feq b115).1 k) ?_
    show Way _ _ _ _ (T92.setTop (mkF m 22 #[iv p1, iv 1, rv uSCHEMA, iv 0, .unset, .unset] []))
    refine Way.by (fun _ k => XS.iloadN X93.here hx rfl (hb hby at_22) rfl k) ?_
    show Way _ _ _ _ (T92.setTop (mkF m 23 #[iv p1, iv 1, rv uSCHEMA, iv 0, .unset, .unset] [(.int 1)]))
    refine Way.by (fun _ k => XS.iconst X93.here hx rfl (hb hby at_23) k) ?_
    show Way _ _ _ _ (T92.setTop (mkF m 24 #[iv p1, iv 1, rv uSCHEMA, iv 0, .unset, .unset] [(.int 4), (.int 1)]))
    have b116 : ¬ (1 : Int32) = (4 : Int32) := by decide
    refine Way.by (fun _ k => XS.icmpYes X93.here hx rfl (pc0 := 24) (pc' := 31) rfl (hb hby at_24) rfl (feq b116).2 (by decide) (by decide) k) ?_
    show Way _ _ _ _ (T92.setTop (mkF m 31 #[iv p1, iv 1, rv uSCHEMA, iv 0, .unset, .unset] []))
    refine Way.by (fun _ k => XS.iconst X93.here hx rfl (hb hby at_31) k) ?_
    show Way _ _ _ _ (T92.setTop (mkF m 32 #[iv p1, iv 1, rv uSCHEMA, iv 0, .unset, .unset] [(.int 0)]))
    refine Way.by (fun _ k => XS.istore X93.here hx rfl (hb hby at_32) rfl (l' := #[iv p1, iv 1, rv uSCHEMA, iv 0, iv 0, .unset]) rfl k) ?_
    show Way _ _ _ _ (T92.setTop (mkF m 34 #[iv p1, iv 1, rv uSCHEMA, iv 0, iv 0, .unset] []))
    refine Way.by (fun _ k => XS.aloadN X93.here hx rfl (hb hby at_34) rfl rfl k) ?_
    show Way _ _ _ _ (T92.setTop (mkF m 35 #[iv p1, iv 1, rv uSCHEMA, iv 0, iv 0, .unset] [(.ref uSCHEMA)]))
    obtain ⟨T117, X118, e119, st120⟩ := getS X93 hx hZ hown (host := "") (tw hw 17 rfl) Via.refl e104 SSCHEMA (g := (mkF m 35 #[iv p1, iv 1, rv uSCHEMA, iv 0, iv 0, .unset] [(.ref uSCHEMA)])) rfl (hb hby at_35)
    refine Way.by st120 ?_
    show Way _ _ _ _ (T117.setTop (mkF m 38 #[iv p1, iv 1, rv uSCHEMA, iv 0, iv 0, .unset] [(.ref uSCHEMA), (.ref uSCHEMA)]))
    obtain ⟨cq137, kq138, qa139, qb140, qc141⟩ := isOf hZ e119 ESCHEMA
    obtain ⟨_, _, ⟨T121, L123, k124, n125⟩, -, X122, ⟨Lc126, hQ127, l128, y129, z130⟩, st131⟩ := X118.virtualBack hx (y := (⟨"com/example/permitree/permitree/engine/ObjectType", "mayHold", "(Lcom/example/permitree/permitree/engine/ObjectType;)Z"⟩ : MethodName)) (z := (⟨"com/example/permitree/permitree/engine/ObjectType", "mayHold", "(Lcom/example/permitree/permitree/engine/ObjectType;)Z"⟩ : MethodName)) hown (mvT hZ (tw hw 19 rfl)) (mvT hZ (tw hw 20 rfl)) (notFace_of_selects (args := #[]) (mvT hZ (tw hw 22 rfl))) (mvT hZ (tw hw 22 rfl)) (mvT hZ (tw hw 21 rfl)) (by decide) (backOf (W := 0) (rmH l Z a0 hw [] uSCHEMA uSCHEMA uCATALOG (0 : Int32) h0 n0 Z0 SCATALOG ESCHEMA FSCHEMA (by simp [NE])) hZ (tw hw 23 rfl) (tw hw 6 rfl) (by decide) (by decide)) qa139 qc141 (g := (mkF m 38 #[iv p1, iv 1, rv uSCHEMA, iv 0, iv 0, .unset] [(.ref uSCHEMA), (.ref uSCHEMA)])) rfl (by rw [hml]; rfl) (Steps.refl _) (argsL := [(.ref uSCHEMA)]) (rest := []) (lenOf pdH rfl) rfl (by show 2 * 0 + _ ≤ _; exact Nat.le_of_eq rfl) (hb hby at_38) (fun _ _ => ⟨rfl, e119, (Nat.le_of_ble_eq_true rfl), (Nat.le_of_ble_eq_true rfl)⟩)
    dsimp only [Pt.U, Pt.locs, Pt.cells, Pt.slots] at X122 l128 y129 z130 st131 hQ127
    subst l128 y129 z130
    obtain ⟨rfl, N142, e133⟩ := hQ127
    have N132 := Fr.app N103 N142
    refine Way.to st131 ?_
    show Way _ _ _ _ (T121.setTop (mkF m 41 #[iv p1, iv 1, rv uSCHEMA, iv 0, iv 0, .unset] [(.int 0)]))
    have b144 : (0 : Int32) = (0 : Int32) := by decide
    refine Way.by (fun _ k => XS.ifNo X122.here hx rfl (hb hby at_41) rfl ((if0 .ne _).trans (teq b144).2) k) ?_
    show Way _ _ _ _ (T121.setTop (mkF m 44 #[iv p1, iv 1, rv uSCHEMA, iv 0, iv 0, .unset] []))
    refine Way.by (fun _ k => XS.aloadN X122.here hx rfl (hb hby at_44) rfl rfl k) ?_
    show Way _ _ _ _ (T121.setTop (mkF m 45 #[iv p1, iv 1, rv uSCHEMA, iv 0, iv 0, .unset] [(.ref uSCHEMA)]))
    obtain ⟨T145, X146, e147, st148⟩ := getS X122 hx hZ hown (host := "") (tw hw 34 rfl) Via.refl e133 STABLE (g := (mkF m 45 #[iv p1, iv 1, rv uSCHEMA, iv 0, iv 0, .unset] [(.ref uSCHEMA)])) rfl (hb hby at_45)
    refine Way.by st148 ?_
    show Way _ _ _ _ (T145.setTop (mkF m 48 #[iv p1, iv 1, rv uSCHEMA, iv 0, iv 0, .unset] [(.ref uTABLE), (.ref uSCHEMA)]))
    obtain ⟨cq165, kq166, qa167, qb168, qc169⟩ := isOf hZ e147 ESCHEMA
    obtain ⟨_, _, ⟨T149, L151, k152, n153⟩, -, X150, ⟨Lc154, hQ155, l156, y157, z158⟩, st159⟩ := X146.virtualBack hx (y := (⟨"com/example/permitree/permitree/engine/ObjectType", "mayHold", "(Lcom/example/permitree/permitree/engine/ObjectType;)Z"⟩ : MethodName)) (z := (⟨"com/example/permitree/permitree/engine/ObjectType", "mayHold", "(Lcom/example/permitree/permitree/engine/ObjectType;)Z"⟩ : MethodName)) hown (mvT hZ (tw hw 19 rfl)) (mvT hZ (tw hw 20 rfl)) (notFace_of_selects (args := #[]) (mvT hZ (tw hw 22 rfl))) (mvT hZ (tw hw 22 rfl)) (mvT hZ (tw hw 21 rfl)) (by decide) (backOf (W := 0) (rmG l Z a0 hw [] uSCHEMA uTABLE uSCHEMA uFOLDER (1 : Int32) h0 n0 Z0 SSCHEMA SFOLDER ETABLE FTABLE (by simp [NE])) hZ (tw hw 23 rfl) (tw hw 6 rfl) (by decide) (by decide)) qa167 qc169 (g := (mkF m 48 #[iv p1, iv 1, rv uSCHEMA, iv 0, iv 0, .unset] [(.ref uTABLE), (.ref uSCHEMA)])) rfl (by rw [hml]; rfl) (Steps.refl _) (argsL := [(.ref uTABLE)]) (rest := []) (lenOf pdG rfl) rfl (by show 2 * 0 + _ ≤ _; exact Nat.le_of_eq rfl) (hb hby at_48) (fun _ _ => ⟨rfl, e147, (Nat.le_of_ble_eq_true rfl), (Nat.le_of_ble_eq_true rfl)⟩)
    dsimp only [Pt.U, Pt.locs, Pt.cells, Pt.slots] at X150 l156 y157 z158 st159 hQ155
    subst l156 y157 z158
    obtain ⟨rfl, N170, e161⟩ := hQ155
    have N160 := Fr.app N132 N170
    refine Way.to st159 ?_
    show Way _ _ _ _ (T149.setTop (mkF m 51 #[iv p1, iv 1, rv uSCHEMA, iv 0, iv 0, .unset] [(.int 1)]))
    have b172 : ¬ (1 : Int32) = (0 : Int32) := by decide
    refine Way.by (fun _ k => XS.ifYes X150.here hx rfl (pc0 := 51) (pc' := 58) rfl (hb hby at_51) rfl ((if0 .ne _).trans (feq b172).2) (by decide) (by decide) k) ?_
    show Way _ _ _ _ (T149.setTop (mkF m 58 #[iv p1, iv 1, rv uSCHEMA, iv 0, iv 0, .unset] []))
    refine Way.by (fun _ k => XS.iconst X150.here hx rfl (hb hby at_58) k) ?_
    show Way _ _ _ _ (T149.setTop (mkF m 59 #[iv p1, iv 1, rv uSCHEMA, iv 0, iv 0, .unset] [(.int 0)]))
    refine Way.by (fun _ k => XS.istore X150.here hx rfl (hb hby at_59) rfl (l' := #[iv p1, iv 1, rv uSCHEMA, iv 0, iv 0, iv 0]) rfl k) ?_
    show Way _ _ _ _ (T149.setTop (mkF m 61 #[iv p1, iv 1, rv uSCHEMA, iv 0, iv 0, iv 0] []))
    refine Way.by (fun _ k => XS.iloadN X150.here hx rfl (hb hby at_61) rfl k) ?_
    show Way _ _ _ _ (T149.setTop (mkF m 62 #[iv p1, iv 1, rv uSCHEMA, iv 0, iv 0, iv 0] [(.int 0)]))
    refine Way.by (fun _ k => XS.iload X150.here hx rfl (hb hby at_62) rfl k) ?_
    show Way _ _ _ _ (T149.setTop (mkF m 64 #[iv p1, iv 1, rv uSCHEMA, iv 0, iv 0, iv 0] [(.int 0), (.int 0)]))
    have b173 : (0 : Int32) = (0 : Int32) := by decide
    refine Way.by (fun _ k => XS.icmpNo X150.here hx rfl (hb hby at_64) rfl (teq b173).2 k) ?_
    show Way _ _ _ _ (T149.setTop (mkF m 67 #[iv p1, iv 1, rv uSCHEMA, iv 0, iv 0, iv 0] []))
    refine Way.by (fun _ k => XS.iloadN X150.here hx rfl (hb hby at_67) rfl k) ?_
    show Way _ _ _ _ (T149.setTop (mkF m 68 #[iv p1, iv 1, rv uSCHEMA, iv 0, iv 0, iv 0] [(.int 0)]))
    refine Way.by (fun _ k => XS.iload X150.here hx rfl (hb hby at_68) rfl k) ?_
    show Way _ _ _ _ (T149.setTop (mkF m 70 #[iv p1, iv 1, rv uSCHEMA, iv 0, iv 0, iv 0] [(.int 0), (.int 0)]))
    have b174 : (0 : Int32) = (0 : Int32) := by decide
    refine Way.by (fun _ k => XS.icmpNo X150.here hx rfl (hb hby at_70) rfl (teq b174).2 k) ?_
    show Way _ _ _ _ (T149.setTop (mkF m 73 #[iv p1, iv 1, rv uSCHEMA, iv 0, iv 0, iv 0] []))
    refine Way.by (fun _ k => XS.iconst X150.here hx rfl (hb hby at_73) k) ?_
    show Way _ _ _ _ (T149.setTop (mkF m 74 #[iv p1, iv 1, rv uSCHEMA, iv 0, iv 0, iv 0] [(.int 1)]))
    refine Way.by (fun _ k => XS.goto X150.here hx rfl (pc0 := 74) (pc' := 78) rfl (hb hby at_74) (by decide) (by decide) k) ?_
    show Way _ _ _ _ (T149.setTop (mkF m 78 #[iv p1, iv 1, rv uSCHEMA, iv 0, iv 0, iv 0] [(.int 1)]))
    refine Way.ret (v := (some (.int (nar .boolean (1 : Int32))))) X150 hlk (fun h => by rw [Bd.returns] at h; cases h) (fun fs hr => retN X150 hx (t := .boolean) Bd.returns (by simp) (hb hby at_78) hr) ?_ (by decide) (by decide)
    show Q0 n0 _ T149.heap _
    rw [e161]
    exact ⟨rfl, N160⟩
  · skip
    show Way _ _ _ _ (s₁.setTop (mkF m 7 #[iv p1, iv 2, .unset, .unset, .unset, .unset] []))
    refine Way.by (fun _ k => XS.iloadN X0.here hx rfl (hb hby at_7) rfl k) ?_
    show Way _ _ _ _ (s₁.setTop (mkF m 8 #[iv p1, iv 2, .unset, .unset, .unset, .unset] [(.int 2)]))
    obtain ⟨_, _, ⟨T175, L177, k178, n179⟩, -, X176, ⟨Lc180, hQ181, l182, y183, z184⟩, st185⟩ := Jvm.LawKit.callS X0 hx (y := (⟨"com/example/permitree/permitree/engine/ObjectTypeIsDatasetPinLaw", "pick", "(I)Lcom/example/permitree/permitree/engine/ObjectType;"⟩ : MethodName)) hown (mvT hZ (tw hw 1 rfl)) (mvT hZ (tw hw 2 rfl)) (mvT hZ (tw hw 3 rfl)) (mvT hZ (tw hw 4 rfl)) (by decide) (backOf (W := 0) (rmP2 l Z a0 hw [] uFOLDER h0 n0 Z0 SFOLDER) hZ (tw hw 4 rfl) (tw hw 3 rfl) (by decide) (by decide)) (g := (mkF m 8 #[iv p1, iv 2, .unset, .unset, .unset, .unset] [(.int 2)])) rfl (by rw [hml]; rfl) (argsL := [(.int 2)]) (rest := []) (lenOf pdP rfl) rfl (by show 2 * 0 + _ ≤ _; exact Nat.le_of_eq rfl) (hb hby at_8) (fun _ _ => ⟨rfl, e0, (Nat.le_of_ble_eq_true rfl), (Nat.le_of_ble_eq_true rfl)⟩)
    dsimp only [Pt.U, Pt.locs, Pt.cells, Pt.slots] at X176 l182 y183 z184 st185 hQ181
    subst l182 y183 z184
    obtain ⟨rfl, N191, e187⟩ := hQ181
    have N186 := Fr.app N0 N191
    refine Way.by st185 ?_
    show Way _ _ _ _ (T175.setTop (mkF m 11 #[iv p1, iv 2, .unset, .unset, .unset, .unset] [(.ref uFOLDER)]))
    refine Way.by (fun _ k => XS.astoreN X176.here hx rfl (hb hby at_11) rfl rfl (l' := #[iv p1, iv 2, rv uFOLDER, .unset, .unset, .unset]) rfl k) ?_
    show Way _ _ _ _ (T175.setTop (mkF m 12 #[iv p1, iv 2, rv uFOLDER, .unset, .unset, .unset] []))
    refine Way.by (fun _ k => XS.aloadN X176.here hx rfl (hb hby at_12) rfl rfl k) ?_
    show Way _ _ _ _ (T175.setTop (mkF m 13 #[iv p1, iv 2, rv uFOLDER, .unset, .unset, .unset] [(.ref uFOLDER)]))
    obtain ⟨cq209, kq210, qa211, qb212, qc213⟩ := isOf hZ e187 EFOLDER
    obtain ⟨_, _, ⟨T193, L195, k196, n197⟩, -, X194, ⟨Lc198, hQ199, l200, y201, z202⟩, st203⟩ := X176.virtualBack hx (y := (⟨"com/example/permitree/permitree/engine/ObjectType", "isDataset", "()Z"⟩ : MethodName)) (z := (⟨"com/example/permitree/permitree/engine/ObjectType", "isDataset", "()Z"⟩ : MethodName)) hown (mvT hZ (tw hw 8 rfl)) (mvT hZ (tw hw 9 rfl)) (notFace_of_selects (args := #[]) (mvT hZ (tw hw 11 rfl))) (mvT hZ (tw hw 11 rfl)) (mvT hZ (tw hw 10 rfl)) (by decide) (backOf (W := 0) (rmD l Z a0 hw [] uFOLDER uTABLE uVIEW (0 : Int32) h0 n0 Z0 STABLE SVIEW (by simp [NE])) hZ (tw hw 12 rfl) (tw hw 6 rfl) (by decide) (by decide)) qa211 qc213 (g := (mkF m 13 #[iv p1, iv 2, rv uFOLDER, .unset, .unset, .unset] [(.ref uFOLDER)])) rfl (by rw [hml]; rfl) (Steps.refl _) (argsL := []) (rest := []) (lenOf pdD rfl) rfl (by show 2 * 0 + _ ≤ _; exact Nat.le_of_eq rfl) (hb hby at_13) (fun _ _ => ⟨rfl, e187, (Nat.le_of_ble_eq_true rfl), (Nat.le_of_ble_eq_true rfl)⟩)
    dsimp only [Pt.U, Pt.locs, Pt.cells, Pt.slots] at X194 l200 y201 z202 st203 hQ199
    subst l200 y201 z202
    obtain ⟨rfl, N214, e205⟩ := hQ199
    have N204 := Fr.app N186 N214
    refine Way.to st203 ?_
    show Way _ _ _ _ (T193.setTop (mkF m 16 #[iv p1, iv 2, rv uFOLDER, .unset, .unset, .unset] [(.int 0)]))
    refine Way.by (fun _ k => XS.istoreN X194.here hx rfl (hb hby at_16) rfl (l' := #[iv p1, iv 2, rv uFOLDER, iv 0, .unset, .unset]) rfl k) ?_
    show Way _ _ _ _ (T193.setTop (mkF m 17 #[iv p1, iv 2, rv uFOLDER, iv 0, .unset, .unset] []))
    refine Way.by (fun _ k => XS.iloadN X194.here hx rfl (hb hby at_17) rfl k) ?_
    show Way _ _ _ _ (T193.setTop (mkF m 18 #[iv p1, iv 2, rv uFOLDER, iv 0, .unset, .unset] [(.int 2)]))
    refine Way.by (fun _ k => XS.iconst X194.here hx rfl (hb hby at_18) k) ?_
    show Way _ _ _ _ (T193.setTop (mkF m 19 #[iv p1, iv 2, rv uFOLDER, iv 0, .unset, .unset] [(.int 3), (.int 2)]))
    have b216 : ¬ (2 : Int32) = (3 : Int32) := by decide
    refine Way.by (fun _ k => XS.icmpNo X194.here hx rfl (hb hby at_19) rfl (feq b216).1 k) ?_
    show Way _ _ _ _ (T193.setTop (mkF m 22 #[iv p1, iv 2, rv uFOLDER, iv 0, .unset, .unset] []))
    refine Way.by (fun _ k => XS.iloadN X194.here hx rfl (hb hby at_22) rfl k) ?_
    show Way _ _ _ _ (T193.setTop (mkF m 23 #[iv p1, iv 2, rv uFOLDER, iv 0, .unset, .unset] [(.int 2)]))
    refine Way.by (fun _ k => XS.iconst X194.here hx rfl (hb hby at_23) k) ?_
    show Way _ _ _ _ (T193.setTop (mkF m 24 #[iv p1, iv 2, rv uFOLDER, iv 0, .unset, .unset] [(.int 4), (.int 2)]))
    have b217 : ¬ (2 : Int32) = (4 : Int32) := by decide
    refine Way.by (fun _ k => XS.icmpYes X194.here hx rfl (pc0 := 24) (pc' := 31) rfl (hb hby at_24) rfl (feq b217).2 (by decide) (by decide) k) ?_
    show Way _ _ _ _ (T193.setTop (mkF m 31 #[iv p1, iv 2, rv uFOLDER, iv 0, .unset, .unset] []))
    refine Way.by (fun _ k => XS.iconst X194.here hx rfl (hb hby at_31) k) ?_
    show Way _ _ _ _ (T193.setTop (mkF m 32 #[iv p1, iv 2, rv uFOLDER, iv 0, .unset, .unset] [(.int 0)]))
    refine Way.by (fun _ k => XS.istore X194.here hx rfl (hb hby at_32) rfl (l' := #[iv p1, iv 2, rv uFOLDER, iv 0, iv 0, .unset]) rfl k) ?_
    show Way _ _ _ _ (T193.setTop (mkF m 34 #[iv p1, iv 2, rv uFOLDER, iv 0, iv 0, .unset] []))
    refine Way.by (fun _ k => XS.aloadN X194.here hx rfl (hb hby at_34) rfl rfl k) ?_
    show Way _ _ _ _ (T193.setTop (mkF m 35 #[iv p1, iv 2, rv uFOLDER, iv 0, iv 0, .unset] [(.ref uFOLDER)]))
    obtain ⟨T218, X219, e220, st221⟩ := getS X194 hx hZ hown (host := "") (tw hw 17 rfl) Via.refl e205 SSCHEMA (g := (mkF m 35 #[iv p1, iv 2, rv uFOLDER, iv 0, iv 0, .unset] [(.ref uFOLDER)])) rfl (hb hby at_35)
    refine Way.by st221 ?_
    show Way _ _ _ _ (T218.setTop (mkF m 38 #[iv p1, iv 2, rv uFOLDER, iv 0, iv 0, .unset] [(.ref uSCHEMA), (.ref uFOLDER)]))
    obtain ⟨cq238, kq239, qa240, qb241, qc242⟩ := isOf hZ e220 EFOLDER
    obtain ⟨_, _, ⟨T222, L224, k225, n226⟩, -, X223, ⟨Lc227, hQ228, l229, y230, z231⟩, st232⟩ := X219.virtualBack hx (y := (⟨"com/example/permitree/permitree/engine/ObjectType", "mayHold", "(Lcom/example/permitree/permitree/engine/ObjectType;)Z"⟩ : MethodName)) (z := (⟨"com/example/permitree/permitree/engine/ObjectType", "mayHold", "(Lcom/example/permitree/permitree/engine/ObjectType;)Z"⟩ : MethodName)) hown (mvT hZ (tw hw 19 rfl)) (mvT hZ (tw hw 20 rfl)) (notFace_of_selects (args := #[]) (mvT hZ (tw hw 22 rfl))) (mvT hZ (tw hw 22 rfl)) (mvT hZ (tw hw 21 rfl)) (by decide) (backOf (W := 0) (rmH l Z a0 hw [] uFOLDER uSCHEMA uCATALOG (0 : Int32) h0 n0 Z0 SCATALOG ESCHEMA FSCHEMA (by simp [NE])) hZ (tw hw 23 rfl) (tw hw 6 rfl) (by decide) (by decide)) qa240 qc242 (g := (mkF m 38 #[iv p1, iv 2, rv uFOLDER, iv 0, iv 0, .unset] [(.ref uSCHEMA), (.ref uFOLDER)])) rfl (by rw [hml]; rfl) (Steps.refl _) (argsL := [(.ref uSCHEMA)]) (rest := []) (lenOf pdH rfl) rfl (by show 2 * 0 + _ ≤ _; exact Nat.le_of_eq rfl) (hb hby at_38) (fun _ _ => ⟨rfl, e220, (Nat.le_of_ble_eq_true rfl), (Nat.le_of_ble_eq_true rfl)⟩)
    dsimp only [Pt.U, Pt.locs, Pt.cells, Pt.slots] at X223 l229 y230 z231 st232 hQ228
    subst l229 y230 z231
    obtain ⟨rfl, N243, e234⟩ := hQ228
    have N233 := Fr.app N204 N243
    refine Way.to st232 ?_
    show Way _ _ _ _ (T222.setTop (mkF m 41 #[iv p1, iv 2, rv uFOLDER, iv 0, iv 0, .unset] [(.int 0)]))
    have b245 : (0 : Int32) = (0 : Int32) := by decide
    refine Way.by (fun _ k => XS.ifNo X223.here hx rfl (hb hby at_41) rfl ((if0 .ne _).trans (teq b245).2) k) ?_
    show Way _ _ _ _ (T222.setTop (mkF m 44 #[iv p1, iv 2, rv uFOLDER, iv 0, iv 0, .unset] []))
    refine Way.by (fun _ k => XS.aloadN X223.here hx rfl (hb hby at_44) rfl rfl k) ?_
    show Way _ _ _ _ (T222.setTop (mkF m 45 #[iv p1, iv 2, rv uFOLDER, iv 0, iv 0, .unset] [(.ref uFOLDER)]))
    obtain ⟨T246, X247, e248, st249⟩ := getS X223 hx hZ hown (host := "") (tw hw 34 rfl) Via.refl e234 STABLE (g := (mkF m 45 #[iv p1, iv 2, rv uFOLDER, iv 0, iv 0, .unset] [(.ref uFOLDER)])) rfl (hb hby at_45)
    refine Way.by st249 ?_
    show Way _ _ _ _ (T246.setTop (mkF m 48 #[iv p1, iv 2, rv uFOLDER, iv 0, iv 0, .unset] [(.ref uTABLE), (.ref uFOLDER)]))
    obtain ⟨cq266, kq267, qa268, qb269, qc270⟩ := isOf hZ e248 EFOLDER
    obtain ⟨_, _, ⟨T250, L252, k253, n254⟩, -, X251, ⟨Lc255, hQ256, l257, y258, z259⟩, st260⟩ := X247.virtualBack hx (y := (⟨"com/example/permitree/permitree/engine/ObjectType", "mayHold", "(Lcom/example/permitree/permitree/engine/ObjectType;)Z"⟩ : MethodName)) (z := (⟨"com/example/permitree/permitree/engine/ObjectType", "mayHold", "(Lcom/example/permitree/permitree/engine/ObjectType;)Z"⟩ : MethodName)) hown (mvT hZ (tw hw 19 rfl)) (mvT hZ (tw hw 20 rfl)) (notFace_of_selects (args := #[]) (mvT hZ (tw hw 22 rfl))) (mvT hZ (tw hw 22 rfl)) (mvT hZ (tw hw 21 rfl)) (by decide) (backOf (W := 0) (rmG l Z a0 hw [] uFOLDER uTABLE uSCHEMA uFOLDER (1 : Int32) h0 n0 Z0 SSCHEMA SFOLDER ETABLE FTABLE (by simp [NE])) hZ (tw hw 23 rfl) (tw hw 6 rfl) (by decide) (by decide)) qa268 qc270 (g := (mkF m 48 #[iv p1, iv 2, rv uFOLDER, iv 0, iv 0, .unset] [(.ref uTABLE), (.ref uFOLDER)])) rfl (by rw [hml]; rfl) (Steps.refl _) (argsL := [(.ref uTABLE)]) (rest := []) (lenOf pdG rfl) rfl (by show 2 * 0 + _ ≤ _; exact Nat.le_of_eq rfl) (hb hby at_48) (fun _ _ => ⟨rfl, e248, (Nat.le_of_ble_eq_true rfl), (Nat.le_of_ble_eq_true rfl)⟩)
    dsimp only [Pt.U, Pt.locs, Pt.cells, Pt.slots] at X251 l257 y258 z259 st260 hQ256
    subst l257 y258 z259
    obtain ⟨rfl, N271, e262⟩ := hQ256
    have N261 := Fr.app N233 N271
    refine Way.to st260 ?_
    show Way _ _ _ _ (T250.setTop (mkF m 51 #[iv p1, iv 2, rv uFOLDER, iv 0, iv 0, .unset] [(.int 1)]))
    have b273 : ¬ (1 : Int32) = (0 : Int32) := by decide
    refine Way.by (fun _ k => XS.ifYes X251.here hx rfl (pc0 := 51) (pc' := 58) rfl (hb hby at_51) rfl ((if0 .ne _).trans (feq b273).2) (by decide) (by decide) k) ?_
    show Way _ _ _ _ (T250.setTop (mkF m 58 #[iv p1, iv 2, rv uFOLDER, iv 0, iv 0, .unset] []))
    refine Way.by (fun _ k => XS.iconst X251.here hx rfl (hb hby at_58) k) ?_
    show Way _ _ _ _ (T250.setTop (mkF m 59 #[iv p1, iv 2, rv uFOLDER, iv 0, iv 0, .unset] [(.int 0)]))
    refine Way.by (fun _ k => XS.istore X251.here hx rfl (hb hby at_59) rfl (l' := #[iv p1, iv 2, rv uFOLDER, iv 0, iv 0, iv 0]) rfl k) ?_
    show Way _ _ _ _ (T250.setTop (mkF m 61 #[iv p1, iv 2, rv uFOLDER, iv 0, iv 0, iv 0] []))
    refine Way.by (fun _ k => XS.iloadN X251.here hx rfl (hb hby at_61) rfl k) ?_
    show Way _ _ _ _ (T250.setTop (mkF m 62 #[iv p1, iv 2, rv uFOLDER, iv 0, iv 0, iv 0] [(.int 0)]))
    refine Way.by (fun _ k => XS.iload X251.here hx rfl (hb hby at_62) rfl k) ?_
    show Way _ _ _ _ (T250.setTop (mkF m 64 #[iv p1, iv 2, rv uFOLDER, iv 0, iv 0, iv 0] [(.int 0), (.int 0)]))
    have b274 : (0 : Int32) = (0 : Int32) := by decide
    refine Way.by (fun _ k => XS.icmpNo X251.here hx rfl (hb hby at_64) rfl (teq b274).2 k) ?_
    show Way _ _ _ _ (T250.setTop (mkF m 67 #[iv p1, iv 2, rv uFOLDER, iv 0, iv 0, iv 0] []))
    refine Way.by (fun _ k => XS.iloadN X251.here hx rfl (hb hby at_67) rfl k) ?_
    show Way _ _ _ _ (T250.setTop (mkF m 68 #[iv p1, iv 2, rv uFOLDER, iv 0, iv 0, iv 0] [(.int 0)]))
    refine Way.by (fun _ k => XS.iload X251.here hx rfl (hb hby at_68) rfl k) ?_
    show Way _ _ _ _ (T250.setTop (mkF m 70 #[iv p1, iv 2, rv uFOLDER, iv 0, iv 0, iv 0] [(.int 0), (.int 0)]))
    have b275 : (0 : Int32) = (0 : Int32) := by decide
    refine Way.by (fun _ k => XS.icmpNo X251.here hx rfl (hb hby at_70) rfl (teq b275).2 k) ?_
    show Way _ _ _ _ (T250.setTop (mkF m 73 #[iv p1, iv 2, rv uFOLDER, iv 0, iv 0, iv 0] []))
    refine Way.by (fun _ k => XS.iconst X251.here hx rfl (hb hby at_73) k) ?_
    show Way _ _ _ _ (T250.setTop (mkF m 74 #[iv p1, iv 2, rv uFOLDER, iv 0, iv 0, iv 0] [(.int 1)]))
    refine Way.by (fun _ k => XS.goto X251.here hx rfl (pc0 := 74) (pc' := 78) rfl (hb hby at_74) (by decide) (by decide) k) ?_
    show Way _ _ _ _ (T250.setTop (mkF m 78 #[iv p1, iv 2, rv uFOLDER, iv 0, iv 0, iv 0] [(.int 1)]))
    refine Way.ret (v := (some (.int (nar .boolean (1 : Int32))))) X251 hlk (fun h => by rw [Bd.returns] at h; cases h) (fun fs hr => retN X251 hx (t := .boolean) Bd.returns (by simp) (hb hby at_78) hr) ?_ (by decide) (by decide)
    show Q0 n0 _ T250.heap _
    rw [e262]
    exact ⟨rfl, N261⟩
  · skip
    show Way _ _ _ _ (s₁.setTop (mkF m 7 #[iv p1, iv 3, .unset, .unset, .unset, .unset] []))
    refine Way.by (fun _ k => XS.iloadN X0.here hx rfl (hb hby at_7) rfl k) ?_
    show Way _ _ _ _ (s₁.setTop (mkF m 8 #[iv p1, iv 3, .unset, .unset, .unset, .unset] [(.int 3)]))
    obtain ⟨_, _, ⟨T276, L278, k279, n280⟩, -, X277, ⟨Lc281, hQ282, l283, y284, z285⟩, st286⟩ := Jvm.LawKit.callS X0 hx (y := (⟨"com/example/permitree/permitree/engine/ObjectTypeIsDatasetPinLaw", "pick", "(I)Lcom/example/permitree/permitree/engine/ObjectType;"⟩ : MethodName)) hown (mvT hZ (tw hw 1 rfl)) (mvT hZ (tw hw 2 rfl)) (mvT hZ (tw hw 3 rfl)) (mvT hZ (tw hw 4 rfl)) (by decide) (backOf (W := 0) (rmP3 l Z a0 hw [] uTABLE h0 n0 Z0 STABLE) hZ (tw hw 4 rfl) (tw hw 3 rfl) (by decide) (by decide)) (g := (mkF m 8 #[iv p1, iv 3, .unset, .unset, .unset, .unset] [(.int 3)])) rfl (by rw [hml]; rfl) (argsL := [(.int 3)]) (rest := []) (lenOf pdP rfl) rfl (by show 2 * 0 + _ ≤ _; exact Nat.le_of_eq rfl) (hb hby at_8) (fun _ _ => ⟨rfl, e0, (Nat.le_of_ble_eq_true rfl), (Nat.le_of_ble_eq_true rfl)⟩)
    dsimp only [Pt.U, Pt.locs, Pt.cells, Pt.slots] at X277 l283 y284 z285 st286 hQ282
    subst l283 y284 z285
    obtain ⟨rfl, N292, e288⟩ := hQ282
    have N287 := Fr.app N0 N292
    refine Way.by st286 ?_
    show Way _ _ _ _ (T276.setTop (mkF m 11 #[iv p1, iv 3, .unset, .unset, .unset, .unset] [(.ref uTABLE)]))
    refine Way.by (fun _ k => XS.astoreN X277.here hx rfl (hb hby at_11) rfl rfl (l' := #[iv p1, iv 3, rv uTABLE, .unset, .unset, .unset]) rfl k) ?_
    show Way _ _ _ _ (T276.setTop (mkF m 12 #[iv p1, iv 3, rv uTABLE, .unset, .unset, .unset] []))
    refine Way.by (fun _ k => XS.aloadN X277.here hx rfl (hb hby at_12) rfl rfl k) ?_
    show Way _ _ _ _ (T276.setTop (mkF m 13 #[iv p1, iv 3, rv uTABLE, .unset, .unset, .unset] [(.ref uTABLE)]))
    obtain ⟨cq310, kq311, qa312, qb313, qc314⟩ := isOf hZ e288 ETABLE
    obtain ⟨_, _, ⟨T294, L296, k297, n298⟩, -, X295, ⟨Lc299, hQ300, l301, y302, z303⟩, st304⟩ := X277.virtualBack hx (y := (⟨"com/example/permitree/permitree/engine/ObjectType", "isDataset", "()Z"⟩ : MethodName)) (z := (⟨"com/example/permitree/permitree/engine/ObjectType", "isDataset", "()Z"⟩ : MethodName)) hown (mvT hZ (tw hw 8 rfl)) (mvT hZ (tw hw 9 rfl)) (notFace_of_selects (args := #[]) (mvT hZ (tw hw 11 rfl))) (mvT hZ (tw hw 11 rfl)) (mvT hZ (tw hw 10 rfl)) (by decide) (backOf (W := 0) (rmD l Z a0 hw [] uTABLE uTABLE uVIEW (1 : Int32) h0 n0 Z0 STABLE SVIEW (by simp [NE])) hZ (tw hw 12 rfl) (tw hw 6 rfl) (by decide) (by decide)) qa312 qc314 (g := (mkF m 13 #[iv p1, iv 3, rv uTABLE, .unset, .unset, .unset] [(.ref uTABLE)])) rfl (by rw [hml]; rfl) (Steps.refl _) (argsL := []) (rest := []) (lenOf pdD rfl) rfl (by show 2 * 0 + _ ≤ _; exact Nat.le_of_eq rfl) (hb hby at_13) (fun _ _ => ⟨rfl, e288, (Nat.le_of_ble_eq_true rfl), (Nat.le_of_ble_eq_true rfl)⟩)
    dsimp only [Pt.U, Pt.locs, Pt.cells, Pt.slots] at X295 l301 y302 z303 st304 hQ300
    subst l301 y302 z303
    obtain ⟨rfl, N315, e306⟩ := hQ300
    have N305 := Fr.app N287 N315
    refine Way.to st304 ?_
    show Way _ _ _ _ (T294.setTop (mkF m 16 #[iv p1, iv 3, rv uTABLE, .unset, .unset, .unset] [(.int 1)]))
    refine Way.by (fun _ k => XS.istoreN X295.here hx rfl (hb hby at_16) rfl (l' := #[iv p1, iv 3, rv uTABLE, iv 1, .unset, .unset]) rfl k) ?_
    show Way _ _ _ _ (T294.setTop (mkF m 17 #[iv p1, iv 3, rv uTABLE, iv 1, .unset, .unset] []))
    refine Way.by (fun _ k => XS.iloadN X295.here hx rfl (hb hby at_17) rfl k) ?_
    show Way _ _ _ _ (T294.setTop (mkF m 18 #[iv p1, iv 3, rv uTABLE, iv 1, .unset, .unset] [(.int 3)]))
    refine Way.by (fun _ k => XS.iconst X295.here hx rfl (hb hby at_18) k) ?_
    show Way _ _ _ _ (T294.setTop (mkF m 19 #[iv p1, iv 3, rv uTABLE, iv 1, .unset, .unset] [(.int 3), (.int 3)]))
    have b317 : (3 : Int32) = (3 : Int32) := by decide
    refine Way.by (fun _ k => XS.icmpYes X295.here hx rfl (pc0 := 19) (pc' := 27) rfl (hb hby at_19) rfl (teq b317).1 (by decide) (by decide) k) ?_
    show Way _ _ _ _ (T294.setTop (mkF m 27 #[iv p1, iv 3, rv uTABLE, iv 1, .unset, .unset] []))
    refine Way.by (fun _ k => XS.iconst X295.here hx rfl (hb hby at_27) k) ?_
    show Way _ _ _ _ (T294.setTop (mkF m 28 #[iv p1, iv 3, rv uTABLE, iv 1, .unset, .unset] [(.int 1)]))
    refine Way.by (fun _ k => XS.goto X295.here hx rfl (pc0 := 28) (pc' := 32) rfl (hb hby at_28) (by decide) (by decide) k) ?_
    show Way _ _ _ _ (T294.setTop (mkF m 32 #[iv p1, iv 3, rv uTABLE, iv 1, .unset, .unset] [(.int 1)]))
    refine Way.by (fun _ k => XS.istore X295.here hx rfl (hb hby at_32) rfl (l' := #[iv p1, iv 3, rv uTABLE, iv 1, iv 1, .unset]) rfl k) ?_
    show Way _ _ _ _ (T294.setTop (mkF m 34 #[iv p1, iv 3, rv uTABLE, iv 1, iv 1, .unset] []))
    refine Way.by (fun _ k => XS.aloadN X295.here hx rfl (hb hby at_34) rfl rfl k) ?_
    show Way _ _ _ _ (T294.setTop (mkF m 35 #[iv p1, iv 3, rv uTABLE, iv 1, iv 1, .unset] [(.ref uTABLE)]))
    obtain ⟨T318, X319, e320, st321⟩ := getS X295 hx hZ hown (host := "") (tw hw 17 rfl) Via.refl e306 SSCHEMA (g := (mkF m 35 #[iv p1, iv 3, rv uTABLE, iv 1, iv 1, .unset] [(.ref uTABLE)])) rfl (hb hby at_35)
    refine Way.by st321 ?_
    show Way _ _ _ _ (T318.setTop (mkF m 38 #[iv p1, iv 3, rv uTABLE, iv 1, iv 1, .unset] [(.ref uSCHEMA), (.ref uTABLE)]))
    obtain ⟨cq338, kq339, qa340, qb341, qc342⟩ := isOf hZ e320 ETABLE
    obtain ⟨_, _, ⟨T322, L324, k325, n326⟩, -, X323, ⟨Lc327, hQ328, l329, y330, z331⟩, st332⟩ := X319.virtualBack hx (y := (⟨"com/example/permitree/permitree/engine/ObjectType", "mayHold", "(Lcom/example/permitree/permitree/engine/ObjectType;)Z"⟩ : MethodName)) (z := (⟨"com/example/permitree/permitree/engine/ObjectType", "mayHold", "(Lcom/example/permitree/permitree/engine/ObjectType;)Z"⟩ : MethodName)) hown (mvT hZ (tw hw 19 rfl)) (mvT hZ (tw hw 20 rfl)) (notFace_of_selects (args := #[]) (mvT hZ (tw hw 22 rfl))) (mvT hZ (tw hw 22 rfl)) (mvT hZ (tw hw 21 rfl)) (by decide) (backOf (W := 0) (rmH l Z a0 hw [] uTABLE uSCHEMA uCATALOG (0 : Int32) h0 n0 Z0 SCATALOG ESCHEMA FSCHEMA (by simp [NE])) hZ (tw hw 23 rfl) (tw hw 6 rfl) (by decide) (by decide)) qa340 qc342 (g := (mkF m 38 #[iv p1, iv 3, rv uTABLE, iv 1, iv 1, .unset] [(.ref uSCHEMA), (.ref uTABLE)])) rfl (by rw [hml]; rfl) (Steps.refl _) (argsL := [(.ref uSCHEMA)]) (rest := []) (lenOf pdH rfl) rfl (by show 2 * 0 + _ ≤ _; exact Nat.le_of_eq rfl) (hb hby at_38) (fun _ _ => ⟨rfl, e320, (Nat.le_of_ble_eq_true rfl), (Nat.le_of_ble_eq_true rfl)⟩)
    dsimp only [Pt.U, Pt.locs, Pt.cells, Pt.slots] at X323 l329 y330 z331 st332 hQ328
    subst l329 y330 z331
    obtain ⟨rfl, N343, e334⟩ := hQ328
    have N333 := Fr.app N305 N343
    refine Way.to st332 ?_
    show Way _ _ _ _ (T322.setTop (mkF m 41 #[iv p1, iv 3, rv uTABLE, iv 1, iv 1, .unset] [(.int 0)]))
    have b345 : (0 : Int32) = (0 : Int32) := by decide
    refine Way.by (fun _ k => XS.ifNo X323.here hx rfl (hb hby at_41) rfl ((if0 .ne _).trans (teq b345).2) k) ?_
    show Way _ _ _ _ (T322.setTop (mkF m 44 #[iv p1, iv 3, rv uTABLE, iv 1, iv 1, .unset] []))
    refine Way.by (fun _ k => XS.aloadN X323.here hx rfl (hb hby at_44) rfl rfl k) ?_
    show Way _ _ _ _ (T322.setTop (mkF m 45 #[iv p1, iv 3, rv uTABLE, iv 1, iv 1, .unset] [(.ref uTABLE)]))
    obtain ⟨T346, X347, e348, st349⟩ := getS X323 hx hZ hown (host := "") (tw hw 34 rfl) Via.refl e334 STABLE (g := (mkF m 45 #[iv p1, iv 3, rv uTABLE, iv 1, iv 1, .unset] [(.ref uTABLE)])) rfl (hb hby at_45)
    refine Way.by st349 ?_
    show Way _ _ _ _ (T346.setTop (mkF m 48 #[iv p1, iv 3, rv uTABLE, iv 1, iv 1, .unset] [(.ref uTABLE), (.ref uTABLE)]))
    obtain ⟨cq366, kq367, qa368, qb369, qc370⟩ := isOf hZ e348 ETABLE
    obtain ⟨_, _, ⟨T350, L352, k353, n354⟩, -, X351, ⟨Lc355, hQ356, l357, y358, z359⟩, st360⟩ := X347.virtualBack hx (y := (⟨"com/example/permitree/permitree/engine/ObjectType", "mayHold", "(Lcom/example/permitree/permitree/engine/ObjectType;)Z"⟩ : MethodName)) (z := (⟨"com/example/permitree/permitree/engine/ObjectType", "mayHold", "(Lcom/example/permitree/permitree/engine/ObjectType;)Z"⟩ : MethodName)) hown (mvT hZ (tw hw 19 rfl)) (mvT hZ (tw hw 20 rfl)) (notFace_of_selects (args := #[]) (mvT hZ (tw hw 22 rfl))) (mvT hZ (tw hw 22 rfl)) (mvT hZ (tw hw 21 rfl)) (by decide) (backOf (W := 0) (rmG l Z a0 hw [] uTABLE uTABLE uSCHEMA uFOLDER (0 : Int32) h0 n0 Z0 SSCHEMA SFOLDER ETABLE FTABLE (by simp [NE])) hZ (tw hw 23 rfl) (tw hw 6 rfl) (by decide) (by decide)) qa368 qc370 (g := (mkF m 48 #[iv p1, iv 3, rv uTABLE, iv 1, iv 1, .unset] [(.ref uTABLE), (.ref uTABLE)])) rfl (by rw [hml]; rfl) (Steps.refl _) (argsL := [(.ref uTABLE)]) (rest := []) (lenOf pdG rfl) rfl (by show 2 * 0 + _ ≤ _; exact Nat.le_of_eq rfl) (hb hby at_48) (fun _ _ => ⟨rfl, e348, (Nat.le_of_ble_eq_true rfl), (Nat.le_of_ble_eq_true rfl)⟩)
    dsimp only [Pt.U, Pt.locs, Pt.cells, Pt.slots] at X351 l357 y358 z359 st360 hQ356
    subst l357 y358 z359
    obtain ⟨rfl, N371, e362⟩ := hQ356
    have N361 := Fr.app N333 N371
    refine Way.to st360 ?_
    show Way _ _ _ _ (T350.setTop (mkF m 51 #[iv p1, iv 3, rv uTABLE, iv 1, iv 1, .unset] [(.int 0)]))
    have b373 : (0 : Int32) = (0 : Int32) := by decide
    refine Way.by (fun _ k => XS.ifNo X351.here hx rfl (hb hby at_51) rfl ((if0 .ne _).trans (teq b373).2) k) ?_
    show Way _ _ _ _ (T350.setTop (mkF m 54 #[iv p1, iv 3, rv uTABLE, iv 1, iv 1, .unset] []))
    refine Way.by (fun _ k => XS.iconst X351.here hx rfl (hb hby at_54) k) ?_
    show Way _ _ _ _ (T350.setTop (mkF m 55 #[iv p1, iv 3, rv uTABLE, iv 1, iv 1, .unset] [(.int 1)]))
    refine Way.by (fun _ k => XS.goto X351.here hx rfl (pc0 := 55) (pc' := 59) rfl (hb hby at_55) (by decide) (by decide) k) ?_
    show Way _ _ _ _ (T350.setTop (mkF m 59 #[iv p1, iv 3, rv uTABLE, iv 1, iv 1, .unset] [(.int 1)]))
    refine Way.by (fun _ k => XS.istore X351.here hx rfl (hb hby at_59) rfl (l' := #[iv p1, iv 3, rv uTABLE, iv 1, iv 1, iv 1]) rfl k) ?_
    show Way _ _ _ _ (T350.setTop (mkF m 61 #[iv p1, iv 3, rv uTABLE, iv 1, iv 1, iv 1] []))
    refine Way.by (fun _ k => XS.iloadN X351.here hx rfl (hb hby at_61) rfl k) ?_
    show Way _ _ _ _ (T350.setTop (mkF m 62 #[iv p1, iv 3, rv uTABLE, iv 1, iv 1, iv 1] [(.int 1)]))
    refine Way.by (fun _ k => XS.iload X351.here hx rfl (hb hby at_62) rfl k) ?_
    show Way _ _ _ _ (T350.setTop (mkF m 64 #[iv p1, iv 3, rv uTABLE, iv 1, iv 1, iv 1] [(.int 1), (.int 1)]))
    have b374 : (1 : Int32) = (1 : Int32) := by decide
    refine Way.by (fun _ k => XS.icmpNo X351.here hx rfl (hb hby at_64) rfl (teq b374).2 k) ?_
    show Way _ _ _ _ (T350.setTop (mkF m 67 #[iv p1, iv 3, rv uTABLE, iv 1, iv 1, iv 1] []))
    refine Way.by (fun _ k => XS.iloadN X351.here hx rfl (hb hby at_67) rfl k) ?_
    show Way _ _ _ _ (T350.setTop (mkF m 68 #[iv p1, iv 3, rv uTABLE, iv 1, iv 1, iv 1] [(.int 1)]))
    refine Way.by (fun _ k => XS.iload X351.here hx rfl (hb hby at_68) rfl k) ?_
    show Way _ _ _ _ (T350.setTop (mkF m 70 #[iv p1, iv 3, rv uTABLE, iv 1, iv 1, iv 1] [(.int 1), (.int 1)]))
    have b375 : (1 : Int32) = (1 : Int32) := by decide
    refine Way.by (fun _ k => XS.icmpNo X351.here hx rfl (hb hby at_70) rfl (teq b375).2 k) ?_
    show Way _ _ _ _ (T350.setTop (mkF m 73 #[iv p1, iv 3, rv uTABLE, iv 1, iv 1, iv 1] []))
    refine Way.by (fun _ k => XS.iconst X351.here hx rfl (hb hby at_73) k) ?_
    show Way _ _ _ _ (T350.setTop (mkF m 74 #[iv p1, iv 3, rv uTABLE, iv 1, iv 1, iv 1] [(.int 1)]))
    refine Way.by (fun _ k => XS.goto X351.here hx rfl (pc0 := 74) (pc' := 78) rfl (hb hby at_74) (by decide) (by decide) k) ?_
    show Way _ _ _ _ (T350.setTop (mkF m 78 #[iv p1, iv 3, rv uTABLE, iv 1, iv 1, iv 1] [(.int 1)]))
    refine Way.ret (v := (some (.int (nar .boolean (1 : Int32))))) X351 hlk (fun h => by rw [Bd.returns] at h; cases h) (fun fs hr => retN X351 hx (t := .boolean) Bd.returns (by simp) (hb hby at_78) hr) ?_ (by decide) (by decide)
    show Q0 n0 _ T350.heap _
    rw [e362]
    exact ⟨rfl, N361⟩
  · skip
    show Way _ _ _ _ (s₁.setTop (mkF m 7 #[iv p1, iv 4, .unset, .unset, .unset, .unset] []))
    refine Way.by (fun _ k => XS.iloadN X0.here hx rfl (hb hby at_7) rfl k) ?_
    show Way _ _ _ _ (s₁.setTop (mkF m 8 #[iv p1, iv 4, .unset, .unset, .unset, .unset] [(.int 4)]))
    obtain ⟨_, _, ⟨T376, L378, k379, n380⟩, -, X377, ⟨Lc381, hQ382, l383, y384, z385⟩, st386⟩ := Jvm.LawKit.callS X0 hx (y := (⟨"com/example/permitree/permitree/engine/ObjectTypeIsDatasetPinLaw", "pick", "(I)Lcom/example/permitree/permitree/engine/ObjectType;"⟩ : MethodName)) hown (mvT hZ (tw hw 1 rfl)) (mvT hZ (tw hw 2 rfl)) (mvT hZ (tw hw 3 rfl)) (mvT hZ (tw hw 4 rfl)) (by decide) (backOf (W := 0) (rmP4 l Z a0 hw [] uVIEW h0 n0 Z0 SVIEW) hZ (tw hw 4 rfl) (tw hw 3 rfl) (by decide) (by decide)) (g := (mkF m 8 #[iv p1, iv 4, .unset, .unset, .unset, .unset] [(.int 4)])) rfl (by rw [hml]; rfl) (argsL := [(.int 4)]) (rest := []) (lenOf pdP rfl) rfl (by show 2 * 0 + _ ≤ _; exact Nat.le_of_eq rfl) (hb hby at_8) (fun _ _ => ⟨rfl, e0, (Nat.le_of_ble_eq_true rfl), (Nat.le_of_ble_eq_true rfl)⟩)
    dsimp only [Pt.U, Pt.locs, Pt.cells, Pt.slots] at X377 l383 y384 z385 st386 hQ382
    subst l383 y384 z385
    obtain ⟨rfl, N392, e388⟩ := hQ382
    have N387 := Fr.app N0 N392
    refine Way.by st386 ?_
    show Way _ _ _ _ (T376.setTop (mkF m 11 #[iv p1, iv 4, .unset, .unset, .unset, .unset] [(.ref uVIEW)]))
    refine Way.by (fun _ k => XS.astoreN X377.here hx rfl (hb hby at_11) rfl rfl (l' := #[iv p1, iv 4, rv uVIEW, .unset, .unset, .unset]) rfl k) ?_
    show Way _ _ _ _ (T376.setTop (mkF m 12 #[iv p1, iv 4, rv uVIEW, .unset, .unset, .unset] []))
    refine Way.by (fun _ k => XS.aloadN X377.here hx rfl (hb hby at_12) rfl rfl k) ?_
    show Way _ _ _ _ (T376.setTop (mkF m 13 #[iv p1, iv 4, rv uVIEW, .unset, .unset, .unset] [(.ref uVIEW)]))
    obtain ⟨cq410, kq411, qa412, qb413, qc414⟩ := isOf hZ e388 EVIEW
    obtain ⟨_, _, ⟨T394, L396, k397, n398⟩, -, X395, ⟨Lc399, hQ400, l401, y402, z403⟩, st404⟩ := X377.virtualBack hx (y := (⟨"com/example/permitree/permitree/engine/ObjectType", "isDataset", "()Z"⟩ : MethodName)) (z := (⟨"com/example/permitree/permitree/engine/ObjectType", "isDataset", "()Z"⟩ : MethodName)) hown (mvT hZ (tw hw 8 rfl)) (mvT hZ (tw hw 9 rfl)) (notFace_of_selects (args := #[]) (mvT hZ (tw hw 11 rfl))) (mvT hZ (tw hw 11 rfl)) (mvT hZ (tw hw 10 rfl)) (by decide) (backOf (W := 0) (rmD l Z a0 hw [] uVIEW uTABLE uVIEW (1 : Int32) h0 n0 Z0 STABLE SVIEW (by simp [NE])) hZ (tw hw 12 rfl) (tw hw 6 rfl) (by decide) (by decide)) qa412 qc414 (g := (mkF m 13 #[iv p1, iv 4, rv uVIEW, .unset, .unset, .unset] [(.ref uVIEW)])) rfl (by rw [hml]; rfl) (Steps.refl _) (argsL := []) (rest := []) (lenOf pdD rfl) rfl (by show 2 * 0 + _ ≤ _; exact Nat.le_of_eq rfl) (hb hby at_13) (fun _ _ => ⟨rfl, e388, (Nat.le_of_ble_eq_true rfl), (Nat.le_of_ble_eq_true rfl)⟩)
    dsimp only [Pt.U, Pt.locs, Pt.cells, Pt.slots] at X395 l401 y402 z403 st404 hQ400
    subst l401 y402 z403
    obtain ⟨rfl, N415, e406⟩ := hQ400
    have N405 := Fr.app N387 N415
    refine Way.to st404 ?_
    show Way _ _ _ _ (T394.setTop (mkF m 16 #[iv p1, iv 4, rv uVIEW, .unset, .unset, .unset] [(.int 1)]))
    refine Way.by (fun _ k => XS.istoreN X395.here hx rfl (hb hby at_16) rfl (l' := #[iv p1, iv 4, rv uVIEW, iv 1, .unset, .unset]) rfl k) ?_
    show Way _ _ _ _ (T394.setTop (mkF m 17 #[iv p1, iv 4, rv uVIEW, iv 1, .unset, .unset] []))
    refine Way.by (fun _ k => XS.iloadN X395.here hx rfl (hb hby at_17) rfl k) ?_
    show Way _ _ _ _ (T394.setTop (mkF m 18 #[iv p1, iv 4, rv uVIEW, iv 1, .unset, .unset] [(.int 4)]))
    refine Way.by (fun _ k => XS.iconst X395.here hx rfl (hb hby at_18) k) ?_
    show Way _ _ _ _ (T394.setTop (mkF m 19 #[iv p1, iv 4, rv uVIEW, iv 1, .unset, .unset] [(.int 3), (.int 4)]))
    have b417 : ¬ (4 : Int32) = (3 : Int32) := by decide
    refine Way.by (fun _ k => XS.icmpNo X395.here hx rfl (hb hby at_19) rfl (feq b417).1 k) ?_
    show Way _ _ _ _ (T394.setTop (mkF m 22 #[iv p1, iv 4, rv uVIEW, iv 1, .unset, .unset] []))
    refine Way.by (fun _ k => XS.iloadN X395.here hx rfl (hb hby at_22) rfl k) ?_
    show Way _ _ _ _ (T394.setTop (mkF m 23 #[iv p1, iv 4, rv uVIEW, iv 1, .unset, .unset] [(.int 4)]))
    refine Way.by (fun _ k => XS.iconst X395.here hx rfl (hb hby at_23) k) ?_
    show Way _ _ _ _ (T394.setTop (mkF m 24 #[iv p1, iv 4, rv uVIEW, iv 1, .unset, .unset] [(.int 4), (.int 4)]))
    have b418 : (4 : Int32) = (4 : Int32) := by decide
    refine Way.by (fun _ k => XS.icmpNo X395.here hx rfl (hb hby at_24) rfl (teq b418).2 k) ?_
    show Way _ _ _ _ (T394.setTop (mkF m 27 #[iv p1, iv 4, rv uVIEW, iv 1, .unset, .unset] []))
    refine Way.by (fun _ k => XS.iconst X395.here hx rfl (hb hby at_27) k) ?_
    show Way _ _ _ _ (T394.setTop (mkF m 28 #[iv p1, iv 4, rv uVIEW, iv 1, .unset, .unset] [(.int 1)]))
    refine Way.by (fun _ k => XS.goto X395.here hx rfl (pc0 := 28) (pc' := 32) rfl (hb hby at_28) (by decide) (by decide) k) ?_
    show Way _ _ _ _ (T394.setTop (mkF m 32 #[iv p1, iv 4, rv uVIEW, iv 1, .unset, .unset] [(.int 1)]))
    refine Way.by (fun _ k => XS.istore X395.here hx rfl (hb hby at_32) rfl (l' := #[iv p1, iv 4, rv uVIEW, iv 1, iv 1, .unset]) rfl k) ?_
    show Way _ _ _ _ (T394.setTop (mkF m 34 #[iv p1, iv 4, rv uVIEW, iv 1, iv 1, .unset] []))
    refine Way.by (fun _ k => XS.aloadN X395.here hx rfl (hb hby at_34) rfl rfl k) ?_
    show Way _ _ _ _ (T394.setTop (mkF m 35 #[iv p1, iv 4, rv uVIEW, iv 1, iv 1, .unset] [(.ref uVIEW)]))
    obtain ⟨T419, X420, e421, st422⟩ := getS X395 hx hZ hown (host := "") (tw hw 17 rfl) Via.refl e406 SSCHEMA (g := (mkF m 35 #[iv p1, iv 4, rv uVIEW, iv 1, iv 1, .unset] [(.ref uVIEW)])) rfl (hb hby at_35)
    refine Way.by st422 ?_
    show Way _ _ _ _ (T419.setTop (mkF m 38 #[iv p1, iv 4, rv uVIEW, iv 1, iv 1, .unset] [(.ref uSCHEMA), (.ref uVIEW)]))
    obtain ⟨cq439, kq440, qa441, qb442, qc443⟩ := isOf hZ e421 EVIEW
    obtain ⟨_, _, ⟨T423, L425, k426, n427⟩, -, X424, ⟨Lc428, hQ429, l430, y431, z432⟩, st433⟩ := X420.virtualBack hx (y := (⟨"com/example/permitree/permitree/engine/ObjectType", "mayHold", "(Lcom/example/permitree/permitree/engine/ObjectType;)Z"⟩ : MethodName)) (z := (⟨"com/example/permitree/permitree/engine/ObjectType", "mayHold", "(Lcom/example/permitree/permitree/engine/ObjectType;)Z"⟩ : MethodName)) hown (mvT hZ (tw hw 19 rfl)) (mvT hZ (tw hw 20 rfl)) (notFace_of_selects (args := #[]) (mvT hZ (tw hw 22 rfl))) (mvT hZ (tw hw 22 rfl)) (mvT hZ (tw hw 21 rfl)) (by decide) (backOf (W := 0) (rmH l Z a0 hw [] uVIEW uSCHEMA uCATALOG (0 : Int32) h0 n0 Z0 SCATALOG ESCHEMA FSCHEMA (by simp [NE])) hZ (tw hw 23 rfl) (tw hw 6 rfl) (by decide) (by decide)) qa441 qc443 (g := (mkF m 38 #[iv p1, iv 4, rv uVIEW, iv 1, iv 1, .unset] [(.ref uSCHEMA), (.ref uVIEW)])) rfl (by rw [hml]; rfl) (Steps.refl _) (argsL := [(.ref uSCHEMA)]) (rest := []) (lenOf pdH rfl) rfl (by show 2 * 0 + _ ≤ _; exact Nat.le_of_eq rfl) (hb hby at_38) (fun _ _ => ⟨rfl, e421, (Nat.le_of_ble_eq_true rfl), (Nat.le_of_ble_eq_true rfl)⟩)
    dsimp only [Pt.U, Pt.locs, Pt.cells, Pt.slots] at X424 l430 y431 z432 st433 hQ429
    subst l430 y431 z432
    obtain ⟨rfl, N444, e435⟩ := hQ429
    have N434 := Fr.app N405 N444
    refine Way.to st433 ?_
    show Way _ _ _ _ (T423.setTop (mkF m 41 #[iv p1, iv 4, rv uVIEW, iv 1, iv 1, .unset] [(.int 0)]))
    have b446 : (0 : Int32) = (0 : Int32) := by decide
    refine Way.by (fun _ k => XS.ifNo X424.here hx rfl (hb hby at_41) rfl ((if0 .ne _).trans (teq b446).2) k) ?_
    show Way _ _ _ _ (T423.setTop (mkF m 44 #[iv p1, iv 4, rv uVIEW, iv 1, iv 1, .unset] []))
    refine Way.by (fun _ k => XS.aloadN X424.here hx rfl (hb hby at_44) rfl rfl k) ?_
    show Way _ _ _ _ (T423.setTop (mkF m 45 #[iv p1, iv 4, rv uVIEW, iv 1, iv 1, .unset] [(.ref uVIEW)]))
    obtain ⟨T447, X448, e449, st450⟩ := getS X424 hx hZ hown (host := "") (tw hw 34 rfl) Via.refl e435 STABLE (g := (mkF m 45 #[iv p1, iv 4, rv uVIEW, iv 1, iv 1, .unset] [(.ref uVIEW)])) rfl (hb hby at_45)
    refine Way.by st450 ?_
    show Way _ _ _ _ (T447.setTop (mkF m 48 #[iv p1, iv 4, rv uVIEW, iv 1, iv 1, .unset] [(.ref uTABLE), (.ref uVIEW)]))
    obtain ⟨cq467, kq468, qa469, qb470, qc471⟩ := isOf hZ e449 EVIEW
    obtain ⟨_, _, ⟨T451, L453, k454, n455⟩, -, X452, ⟨Lc456, hQ457, l458, y459, z460⟩, st461⟩ := X448.virtualBack hx (y := (⟨"com/example/permitree/permitree/engine/ObjectType", "mayHold", "(Lcom/example/permitree/permitree/engine/ObjectType;)Z"⟩ : MethodName)) (z := (⟨"com/example/permitree/permitree/engine/ObjectType", "mayHold", "(Lcom/example/permitree/permitree/engine/ObjectType;)Z"⟩ : MethodName)) hown (mvT hZ (tw hw 19 rfl)) (mvT hZ (tw hw 20 rfl)) (notFace_of_selects (args := #[]) (mvT hZ (tw hw 22 rfl))) (mvT hZ (tw hw 22 rfl)) (mvT hZ (tw hw 21 rfl)) (by decide) (backOf (W := 0) (rmG l Z a0 hw [] uVIEW uTABLE uSCHEMA uFOLDER (0 : Int32) h0 n0 Z0 SSCHEMA SFOLDER ETABLE FTABLE (by simp [NE])) hZ (tw hw 23 rfl) (tw hw 6 rfl) (by decide) (by decide)) qa469 qc471 (g := (mkF m 48 #[iv p1, iv 4, rv uVIEW, iv 1, iv 1, .unset] [(.ref uTABLE), (.ref uVIEW)])) rfl (by rw [hml]; rfl) (Steps.refl _) (argsL := [(.ref uTABLE)]) (rest := []) (lenOf pdG rfl) rfl (by show 2 * 0 + _ ≤ _; exact Nat.le_of_eq rfl) (hb hby at_48) (fun _ _ => ⟨rfl, e449, (Nat.le_of_ble_eq_true rfl), (Nat.le_of_ble_eq_true rfl)⟩)
    dsimp only [Pt.U, Pt.locs, Pt.cells, Pt.slots] at X452 l458 y459 z460 st461 hQ457
    subst l458 y459 z460
    obtain ⟨rfl, N472, e463⟩ := hQ457
    have N462 := Fr.app N434 N472
    refine Way.to st461 ?_
    show Way _ _ _ _ (T451.setTop (mkF m 51 #[iv p1, iv 4, rv uVIEW, iv 1, iv 1, .unset] [(.int 0)]))
    have b474 : (0 : Int32) = (0 : Int32) := by decide
    refine Way.by (fun _ k => XS.ifNo X452.here hx rfl (hb hby at_51) rfl ((if0 .ne _).trans (teq b474).2) k) ?_
    show Way _ _ _ _ (T451.setTop (mkF m 54 #[iv p1, iv 4, rv uVIEW, iv 1, iv 1, .unset] []))
    refine Way.by (fun _ k => XS.iconst X452.here hx rfl (hb hby at_54) k) ?_
    show Way _ _ _ _ (T451.setTop (mkF m 55 #[iv p1, iv 4, rv uVIEW, iv 1, iv 1, .unset] [(.int 1)]))
    refine Way.by (fun _ k => XS.goto X452.here hx rfl (pc0 := 55) (pc' := 59) rfl (hb hby at_55) (by decide) (by decide) k) ?_
    show Way _ _ _ _ (T451.setTop (mkF m 59 #[iv p1, iv 4, rv uVIEW, iv 1, iv 1, .unset] [(.int 1)]))
    refine Way.by (fun _ k => XS.istore X452.here hx rfl (hb hby at_59) rfl (l' := #[iv p1, iv 4, rv uVIEW, iv 1, iv 1, iv 1]) rfl k) ?_
    show Way _ _ _ _ (T451.setTop (mkF m 61 #[iv p1, iv 4, rv uVIEW, iv 1, iv 1, iv 1] []))
    refine Way.by (fun _ k => XS.iloadN X452.here hx rfl (hb hby at_61) rfl k) ?_
    show Way _ _ _ _ (T451.setTop (mkF m 62 #[iv p1, iv 4, rv uVIEW, iv 1, iv 1, iv 1] [(.int 1)]))
    refine Way.by (fun _ k => XS.iload X452.here hx rfl (hb hby at_62) rfl k) ?_
    show Way _ _ _ _ (T451.setTop (mkF m 64 #[iv p1, iv 4, rv uVIEW, iv 1, iv 1, iv 1] [(.int 1), (.int 1)]))
    have b475 : (1 : Int32) = (1 : Int32) := by decide
    refine Way.by (fun _ k => XS.icmpNo X452.here hx rfl (hb hby at_64) rfl (teq b475).2 k) ?_
    show Way _ _ _ _ (T451.setTop (mkF m 67 #[iv p1, iv 4, rv uVIEW, iv 1, iv 1, iv 1] []))
    refine Way.by (fun _ k => XS.iloadN X452.here hx rfl (hb hby at_67) rfl k) ?_
    show Way _ _ _ _ (T451.setTop (mkF m 68 #[iv p1, iv 4, rv uVIEW, iv 1, iv 1, iv 1] [(.int 1)]))
    refine Way.by (fun _ k => XS.iload X452.here hx rfl (hb hby at_68) rfl k) ?_
    show Way _ _ _ _ (T451.setTop (mkF m 70 #[iv p1, iv 4, rv uVIEW, iv 1, iv 1, iv 1] [(.int 1), (.int 1)]))
    have b476 : (1 : Int32) = (1 : Int32) := by decide
    refine Way.by (fun _ k => XS.icmpNo X452.here hx rfl (hb hby at_70) rfl (teq b476).2 k) ?_
    show Way _ _ _ _ (T451.setTop (mkF m 73 #[iv p1, iv 4, rv uVIEW, iv 1, iv 1, iv 1] []))
    refine Way.by (fun _ k => XS.iconst X452.here hx rfl (hb hby at_73) k) ?_
    show Way _ _ _ _ (T451.setTop (mkF m 74 #[iv p1, iv 4, rv uVIEW, iv 1, iv 1, iv 1] [(.int 1)]))
    refine Way.by (fun _ k => XS.goto X452.here hx rfl (pc0 := 74) (pc' := 78) rfl (hb hby at_74) (by decide) (by decide) k) ?_
    show Way _ _ _ _ (T451.setTop (mkF m 78 #[iv p1, iv 4, rv uVIEW, iv 1, iv 1, iv 1] [(.int 1)]))
    refine Way.ret (v := (some (.int (nar .boolean (1 : Int32))))) X452 hlk (fun h => by rw [Bd.returns] at h; cases h) (fun fs hr => retN X452 hx (t := .boolean) Bd.returns (by simp) (hb hby at_78) hr) ?_ (by decide) (by decide)
    show Q0 n0 _ T451.heap _
    rw [e463]
    exact ⟨rfl, N462⟩
set_option maxRecDepth 65536 in
set_option maxHeartbeats 40000000 in
theorem comes_1 {Post : Tables → Env → Array Value → State → Outcome → State → Prop} (hpost : ∀ tb e args s v u, (limb_1_1.after args s (.returned v) u = true ∧ limb_1_2.after args s (.returned v) u = true ∧ True) → FrameEnd s (.returned v) u (Jvm.fieldLocs frame_1_writes args s ++ Jvm.arrayLocs frame_1_arrays args s ++ Jvm.staticLocs frame_1_statics s) 0 0 → Post tb e args s (.returned v) u) :
    ArmFor flags0 classFile x code maxLocals ret World_1 tables_1 room_1 Calls_1 rest_1 Pre_1 Post := by
  intro l hfl _ _ p e ha hc hk s m args below hf hA hF happ hP
  obtain ⟨hcalls, hrest, hpre⟩ := hP
  obtain ⟨-, -, -, hnamed, -, -, -, hat⟩ := (Spec.applies_iff hf).mp happ
  obtain ⟨hg, hn⟩ := and_e (Cond.before_iff.mp (show (Jvm.Cond.and given_1 narrow_1).before args s = true from hpre))
  obtain ⟨hg0, hgr0⟩ := and_e hg
  obtain ⟨w0, rfl⟩ : ∃ w0 : Value, args = #[w0] := by
    have hs : args.size = 1 := by simpa [Cond.value, given_1] using hg0
    obtain ⟨L⟩ := args
    match L, hs with
    | [w0], _ => exact ⟨w0, rfl⟩
  have hw := fun d (hd : d ∈ tables_1) => atoms_spec (ws := Jvm.Cond.code x code maxLocals ret :: tables_1) hat d (List.mem_cons_of_mem _ hd)
  have hfit : Fit s := fun {y c} hc i hi => by
    obtain ⟨ha, rfl⟩ := Array.getElem?_eq_some_iff.mp hc
    have q := List.all_eq_true.mp ((Array.all_eq_true_iff_forall_mem.mp hF) _ (Array.getElem_mem ha)) i (List.mem_range.mpr hi)
    simpa [Array.getElem?_eq_getElem hi] using q
  obtain ⟨i0, ei0⟩ := is_v hgr0
  obtain rfl : w0 = (.int i0) := Option.some.inj ei0
  obtain ⟨hn0, hnr0⟩ := and_e hn
  obtain ⟨hn1, hnr1⟩ := and_e hnr0
  obtain ⟨hn2, hnr2⟩ := and_e hnr1
  obtain ⟨hn3, hnr3⟩ := and_e hnr2
  obtain ⟨hn4, hnr4⟩ := and_e hnr3
  obtain ⟨hn5, hnr5⟩ := and_e hnr4
  obtain ⟨hn6, hnr6⟩ := and_e hnr5
  obtain ⟨hn7, hnr7⟩ := and_e hnr6
  obtain ⟨hn8, hnr8⟩ := and_e hnr7
  obtain ⟨uCATALOG, _, _, _, evCATALOG, -⟩ := Cond.exactly_spec (Cond.before_iff.mpr hn0)
  have SCATALOG := Sta.start evCATALOG (Or.inr ⟨(tw hw 6 rfl), (tw hw 7 rfl)⟩)
  have ECATALOG := Exa.start evCATALOG hn0
  obtain ⟨uTABLE, _, _, _, evTABLE, -⟩ := Cond.exactly_spec (Cond.before_iff.mpr hn1)
  have STABLE := Sta.start evTABLE (Or.inr ⟨(tw hw 6 rfl), (tw hw 14 rfl)⟩)
  have ETABLE := Exa.start evTABLE hn1
  obtain ⟨uVIEW, _, _, _, evVIEW, -⟩ := Cond.exactly_spec (Cond.before_iff.mpr hn4)
  have SVIEW := Sta.start evVIEW (Or.inr ⟨(tw hw 6 rfl), (tw hw 16 rfl)⟩)
  have EVIEW := Exa.start evVIEW hn4
  obtain ⟨uSCHEMA, _, _, _, evSCHEMA, -⟩ := Cond.exactly_spec (Cond.before_iff.mpr hn6)
  have SSCHEMA := Sta.start evSCHEMA (Or.inr ⟨(tw hw 6 rfl), (tw hw 18 rfl)⟩)
  have ESCHEMA := Exa.start evSCHEMA hn6
  obtain ⟨uFOLDER, _, _, _, evFOLDER, -⟩ := Cond.exactly_spec (Cond.before_iff.mpr hn8)
  have SFOLDER := Sta.start evFOLDER (Or.inr ⟨(tw hw 6 rfl), (tw hw 37 rfl)⟩)
  have EFOLDER := Exa.start evFOLDER hn8
  have FCATALOG_ordinal := fldStart evCATALOG hn2
  have FTABLE_ordinal := fldStart evTABLE hn3
  have FVIEW_ordinal := fldStart evVIEW hn5
  have FSCHEMA_ordinal := fldStart evSCHEMA hn7
  have FFOLDER_ordinal := fldStart evFOLDER hnr8
  have NE : ¬ uCATALOG = uSCHEMA ∧ ¬ uCATALOG = uFOLDER ∧ ¬ uCATALOG = uTABLE ∧ ¬ uCATALOG = uVIEW ∧ ¬ uSCHEMA = uCATALOG ∧ ¬ uSCHEMA = uFOLDER ∧ ¬ uSCHEMA = uTABLE ∧ ¬ uSCHEMA = uVIEW ∧ ¬ uFOLDER = uCATALOG ∧ ¬ uFOLDER = uSCHEMA ∧ ¬ uFOLDER = uTABLE ∧ ¬ uFOLDER = uVIEW ∧ ¬ uTABLE = uCATALOG ∧ ¬ uTABLE = uSCHEMA ∧ ¬ uTABLE = uFOLDER ∧ ¬ uTABLE = uVIEW ∧ ¬ uVIEW = uCATALOG ∧ ¬ uVIEW = uSCHEMA ∧ ¬ uVIEW = uFOLDER ∧ ¬ uVIEW = uTABLE := ⟨Fld.ne FCATALOG_ordinal FSCHEMA_ordinal (by decide), Fld.ne FCATALOG_ordinal FFOLDER_ordinal (by decide), Fld.ne FCATALOG_ordinal FTABLE_ordinal (by decide), Fld.ne FCATALOG_ordinal FVIEW_ordinal (by decide), Fld.ne FSCHEMA_ordinal FCATALOG_ordinal (by decide), Fld.ne FSCHEMA_ordinal FFOLDER_ordinal (by decide), Fld.ne FSCHEMA_ordinal FTABLE_ordinal (by decide), Fld.ne FSCHEMA_ordinal FVIEW_ordinal (by decide), Fld.ne FFOLDER_ordinal FCATALOG_ordinal (by decide), Fld.ne FFOLDER_ordinal FSCHEMA_ordinal (by decide), Fld.ne FFOLDER_ordinal FTABLE_ordinal (by decide), Fld.ne FFOLDER_ordinal FVIEW_ordinal (by decide), Fld.ne FTABLE_ordinal FCATALOG_ordinal (by decide), Fld.ne FTABLE_ordinal FSCHEMA_ordinal (by decide), Fld.ne FTABLE_ordinal FFOLDER_ordinal (by decide), Fld.ne FTABLE_ordinal FVIEW_ordinal (by decide), Fld.ne FVIEW_ordinal FCATALOG_ordinal (by decide), Fld.ne FVIEW_ordinal FSCHEMA_ordinal (by decide), Fld.ne FVIEW_ordinal FFOLDER_ordinal (by decide), Fld.ne FVIEW_ordinal FTABLE_ordinal (by decide)⟩
  obtain ⟨n, o, h1, h2, h3, _, L, rfl, ⟨rfl, N⟩, hq⟩ := rm0 l s _ hw tables_1 i0 uCATALOG uSCHEMA uFOLDER uTABLE uVIEW s.heap s.heap.size (Nat.le_refl _) SCATALOG ECATALOG FCATALOG_ordinal SSCHEMA ESCHEMA FSCHEMA_ordinal SFOLDER EFOLDER FFOLDER_ordinal STABLE ETABLE FTABLE_ordinal SVIEW EVIEW FVIEW_ordinal NE p e ha hc hk s m _ below hf ((Spec.applies_iff_loose hf).mp happ).1 ⟨rfl, State.Warmed39.refl s, rfl⟩ trivial
  refine ⟨n, _, h1, h2, h3, hpost _ _ _ _ _ _ ⟨Cond.after_iff.mpr rfl, Cond.after_iff.mpr (eq_i res_at (Term.int_eval (1)) rfl), trivial⟩ ⟨hq.1, hq.2.1, (hq.2.2.sift fun y hy => Or.inr (N y hy)).mono (by decide) (by decide)⟩⟩
theorem main_1_1 : Claimed_1_1 := comes_1 fun _ _ _ _ _ _ h hF => ⟨h.1, hF⟩
theorem main_1_2 : Claimed_1_2 := comes_1 fun _ _ _ _ _ _ h hF => ⟨h.2.1, hF⟩
end Jvm.Pilot.@@N@@
namespace Jvm.Pilot.@@N@@
open Jvm Jvm.ClassFile Sem Op Lib Jvm.Free Jvm.Stand Jvm.Pilot.@@N@@.Jvm.D
/-! MADE BY PROGRAM (witnessworld.py) out of the Statement's table words and the real class files: 10 classes; the members and pool entries that the words name. The judged class is class 1, her method 2. -/
namespace start1
open Jvm.ClassFile
def u (s : String) : CpInfo := .utf8 (stringToUtf16 s)
/-- a pool by its gaps: so many unusable entries, then the entry; so many at the end -/
def gap : Nat → List CpInfo → List CpInfo
  | 0, r => r
  | n + 1, r => .unusable :: gap n r
def poolList (es : List (Nat × CpInfo)) (last : Nat) : List CpInfo := es.foldr (fun e r => gap e.1 (e.2 :: r)) (gap last [])
def pool (es : List (Nat × CpInfo)) (last : Nat) : Array CpInfo := ⟨poolList es last⟩
def fileOf (pool : Array CpInfo) (this : Nat) (attrs : Array Attribute := #[]) (ms : Array MethodInfo := #[]) (fl : Nat := 33) (sup : Nat := 0) (ifs : Array Nat := #[]) (fds : Array FieldInfo := #[]) : ClassFile where
  minorVersion := 0
  majorVersion := 65
  constantPool := pool
  accessFlags := fl
  thisClass := this
  superClass := sup
  interfaces := ifs
  fields := fds
  methods := ms
  attributes := attrs
def plain (name : String) (sup : Option ClassId) : Class where
  name := name
  kind := .ordinary
  loader := none
  accessFlags := 33
  super := sup
  interfaces := #[]
  cf := none
  fields := #[]
  methods := #[]
  instanceTypes := #[]
  staticTypes := #[]
  resolved := #[]
  callSites := []
  init := .initialized
  statics := none
  mirror := none

def pool0 : Array CpInfo := pool [(5, u "<init>"), (0, u "()V"), (1, .class_ 10), (1, u "java/lang/Object")] 113

def k0m0 : Method := { name := "<init>", desc := "()V", sig := { parameters := [], returnType := none }, accessFlags := 1, code := none }
/-- java/lang/Object -/
def k0 : Class := { plain "java/lang/Object" none with
  accessFlags := 33
  interfaces := #[]
  cf := some (fileOf pool0 8 #[] #[{ accessFlags := 1, nameIndex := 5, descriptorIndex := 6, attributes := #[] }] 33 0 #[] #[])
  fields := #[]
  methods := #[k0m0]
  instanceTypes := #[]
  staticTypes := #[]
  resolved := Array.replicate 124 none
  statics := none }

def pool1 : Array CpInfo := pool [(2, .class_ 4), (1, u "java/lang/Object"), (0, u "<init>"), (0, u "()V"), (0, .fieldref 8 9), (0, .class_ 10), (0, .nameAndType 11 12), (0, u "com/example/permitree/permitree/engine/ObjectType"), (0, u "CATALOG"), (0, u "Lcom/example/permitree/permitree/engine/ObjectType;"), (0, .fieldref 8 14), (0, .nameAndType 15 12), (0, u "SCHEMA"), (0, .fieldref 8 17), (0, .nameAndType 18 12), (0, u "FOLDER"), (0, .fieldref 8 20), (0, .nameAndType 21 12), (0, u "TABLE"), (0, .fieldref 8 23), (0, .nameAndType 24 12), (0, u "VIEW"), (0, .integer 2147483647), (0, .methodref 27 28), (0, .class_ 29), (0, .nameAndType 30 31), (0, u "com/example/permitree/permitree/engine/ObjectTypeIsDatasetPinLaw"), (0, u "pick"), (0, u "(I)Lcom/example/permitree/permitree/engine/ObjectType;"), (0, .methodref 8 33), (0, .nameAndType 34 35), (0, u "isDataset"), (0, u "()Z"), (0, .methodref 8 37), (0, .nameAndType 38 39), (0, u "mayHold"), (0, u "(Lcom/example/permitree/permitree/engine/ObjectType;)Z"), (3, u "law"), (0, u "(I)Z")] 2

def k1m0 : Method := { name := "<init>", desc := "()V", sig := { parameters := [], returnType := none }, accessFlags := 1, code := none }
def k1c1 : Code := { maxStack := 2, maxLocals := 1, code := method_2_code, exceptionTable := #[], attributes := #[] }
def k1m1 : Method := { name := "pick", desc := "(I)Lcom/example/permitree/permitree/engine/ObjectType;", sig := { parameters := [.int], returnType := some (.object "com/example/permitree/permitree/engine/ObjectType") }, accessFlags := 10, code := some k1c1 }
def k1c2 : Code := { maxStack := 2, maxLocals := 6, code := code, exceptionTable := #[], attributes := #[] }
def k1m2 : Method := { name := "law", desc := "(I)Z", sig := { parameters := [.int], returnType := some .boolean }, accessFlags := 9, code := some k1c2 }
/-- com/example/permitree/permitree/engine/ObjectTypeIsDatasetPinLaw -/
def k1 : Class := { plain "com/example/permitree/permitree/engine/ObjectTypeIsDatasetPinLaw" (some 0) with
  accessFlags := 49
  interfaces := #[]
  cf := some (fileOf pool1 27 #[] #[{ accessFlags := 1, nameIndex := 5, descriptorIndex := 6, attributes := #[] }, { accessFlags := 10, nameIndex := 30, descriptorIndex := 31, attributes := #[] }, { accessFlags := 9, nameIndex := 43, descriptorIndex := 44, attributes := #[] }] 49 2 #[] #[])
  fields := #[]
  methods := #[k1m0, k1m1, k1m2]
  instanceTypes := #[]
  staticTypes := #[]
  resolved := Array.replicate 47 none
  statics := none }

def pool2 : Array CpInfo := pool [(1, .class_ 2), (0, u "java/lang/constant/Constable"), (0, .class_ 4), (0, u "java/lang/Object")] 6

/-- java/lang/constant/Constable -/
def k2 : Class := { plain "java/lang/constant/Constable" (some 0) with
  accessFlags := 1537
  interfaces := #[]
  cf := some (fileOf pool2 1 #[] #[] 1537 3 #[] #[])
  fields := #[]
  methods := #[]
  instanceTypes := #[]
  staticTypes := #[]
  resolved := Array.replicate 11 none
  statics := none }

def pool3 : Array CpInfo := pool [(1, .class_ 2), (0, u "java/lang/Comparable"), (0, .class_ 4), (0, u "java/lang/Object")] 7

/-- java/lang/Comparable -/
def k3 : Class := { plain "java/lang/Comparable" (some 0) with
  accessFlags := 1537
  interfaces := #[]
  cf := some (fileOf pool3 1 #[] #[] 1537 3 #[] #[])
  fields := #[]
  methods := #[]
  instanceTypes := #[]
  staticTypes := #[]
  resolved := Array.replicate 12 none
  statics := none }

def pool4 : Array CpInfo := pool [(1, .class_ 2), (0, u "java/io/Serializable"), (0, .class_ 4), (0, u "java/lang/Object")] 2

/-- java/io/Serializable -/
def k4 : Class := { plain "java/io/Serializable" (some 0) with
  accessFlags := 1537
  interfaces := #[]
  cf := some (fileOf pool4 1 #[] #[] 1537 3 #[] #[])
  fields := #[]
  methods := #[]
  instanceTypes := #[]
  staticTypes := #[]
  resolved := Array.replicate 7 none
  statics := none }

def pool5 : Array CpInfo := pool [(2, .class_ 4), (1, u "java/lang/Enum"), (0, u "name"), (0, u "Ljava/lang/String;"), (0, .fieldref 2 8), (0, .nameAndType 9 10), (0, u "ordinal"), (0, u "I"), (1, .class_ 14), (1, u "java/lang/Object"), (4, u "hash"), (86, .class_ 108), (1, u "java/lang/Enum$EnumDesc"), (2, .class_ 112), (0, u "java/lang/constant/Constable"), (0, .class_ 114), (0, u "java/lang/Comparable"), (0, .class_ 116), (0, u "java/io/Serializable"), (9, u "()I")] 77

def k5c0 : Code := { maxStack := 1, maxLocals := 1, code := jdk_37_method_2_code, exceptionTable := #[], attributes := #[] }
def k5m0 : Method := { name := "ordinal", desc := "()I", sig := { parameters := [], returnType := some .int }, accessFlags := 17, code := some k5c0 }
/-- java/lang/Enum -/
def k5 : Class := { plain "java/lang/Enum" (some 0) with
  accessFlags := 1057
  interfaces := #[2, 3, 4]
  cf := some (fileOf pool5 2 #[.nestMembers #[106]] #[{ accessFlags := 17, nameIndex := 9, descriptorIndex := 126, attributes := #[] }] 1057 12 #[111, 113, 115] #[{ accessFlags := 18, nameIndex := 5, descriptorIndex := 6, attributes := #[] }, { accessFlags := 18, nameIndex := 9, descriptorIndex := 10, attributes := #[] }, { accessFlags := 2, nameIndex := 19, descriptorIndex := 10, attributes := #[] }])
  fields := #[{ name := "name", type := (.object "java/lang/String"), accessFlags := 18, slot := 0, constantValue := 0 }, { name := "ordinal", type := .int, accessFlags := 18, slot := 1, constantValue := 0 }, { name := "hash", type := .int, accessFlags := 2, slot := 2, constantValue := 0 }]
  methods := #[k5m0]
  instanceTypes := #[(.object "java/lang/String"), .int, .int]
  staticTypes := #[]
  resolved := Array.replicate 204 none
  statics := none }

def pool6 : Array CpInfo := pool [(1, .class_ 2), (0, u "com/example/permitree/permitree/engine/ObjectType"), (0, .fieldref 1 4), (0, .nameAndType 5 6), (0, u "CATALOG"), (0, u "Lcom/example/permitree/permitree/engine/ObjectType;"), (0, .fieldref 1 8), (0, .nameAndType 9 6), (0, u "SCHEMA"), (0, .fieldref 1 11), (0, .nameAndType 12 6), (0, u "FOLDER"), (0, .fieldref 1 14), (0, .nameAndType 15 6), (0, u "TABLE"), (0, .fieldref 1 17), (0, .nameAndType 18 6), (0, u "VIEW"), (2, u "$VALUES"), (0, u "[Lcom/example/permitree/permitree/engine/ObjectType;"), (6, .class_ 31), (1, u "java/lang/Enum"), (8, u "needsUsage"), (0, u "Z"), (2, u "grantable"), (0, u "Ljava/util/Set;"), (34, u "()Z"), (8, u "isDataset"), (0, .methodref 1 91), (0, .nameAndType 92 93), (0, u "ordinal"), (0, u "()I"), (76, u "mayHold"), (0, u "(Lcom/example/permitree/permitree/engine/ObjectType;)Z")] 6

def k6c0 : Code := { maxStack := 2, maxLocals := 1, code := prog_22_method_9_code, exceptionTable := #[], attributes := #[] }
def k6m0 : Method := { name := "isDataset", desc := "()Z", sig := { parameters := [], returnType := some .boolean }, accessFlags := 1, code := some k6c0 }
def k6c1 : Code := { maxStack := 4, maxLocals := 2, code := prog_22_method_10_code, exceptionTable := #[], attributes := #[] }
def k6m1 : Method := { name := "mayHold", desc := "(Lcom/example/permitree/permitree/engine/ObjectType;)Z", sig := { parameters := [(.object "com/example/permitree/permitree/engine/ObjectType")], returnType := some .boolean }, accessFlags := 1, code := some k6c1 }
/-- com/example/permitree/permitree/engine/ObjectType -/
def k6 : Class := { plain "com/example/permitree/permitree/engine/ObjectType" (some 5) with
  accessFlags := 16433
  interfaces := #[]
  cf := some (fileOf pool6 1 #[] #[{ accessFlags := 1, nameIndex := 89, descriptorIndex := 80, attributes := #[] }, { accessFlags := 1, nameIndex := 170, descriptorIndex := 171, attributes := #[] }] 16433 29 #[] #[{ accessFlags := 16409, nameIndex := 5, descriptorIndex := 6, attributes := #[] }, { accessFlags := 16409, nameIndex := 9, descriptorIndex := 6, attributes := #[] }, { accessFlags := 16409, nameIndex := 12, descriptorIndex := 6, attributes := #[] }, { accessFlags := 16409, nameIndex := 15, descriptorIndex := 6, attributes := #[] }, { accessFlags := 16409, nameIndex := 18, descriptorIndex := 6, attributes := #[] }, { accessFlags := 18, nameIndex := 40, descriptorIndex := 41, attributes := #[] }, { accessFlags := 18, nameIndex := 44, descriptorIndex := 45, attributes := #[] }, { accessFlags := 4122, nameIndex := 21, descriptorIndex := 22, attributes := #[] }])
  fields := #[{ name := "CATALOG", type := (.object "com/example/permitree/permitree/engine/ObjectType"), accessFlags := 16409, slot := 0, constantValue := 0 }, { name := "SCHEMA", type := (.object "com/example/permitree/permitree/engine/ObjectType"), accessFlags := 16409, slot := 1, constantValue := 0 }, { name := "FOLDER", type := (.object "com/example/permitree/permitree/engine/ObjectType"), accessFlags := 16409, slot := 2, constantValue := 0 }, { name := "TABLE", type := (.object "com/example/permitree/permitree/engine/ObjectType"), accessFlags := 16409, slot := 3, constantValue := 0 }, { name := "VIEW", type := (.object "com/example/permitree/permitree/engine/ObjectType"), accessFlags := 16409, slot := 4, constantValue := 0 }, { name := "needsUsage", type := .boolean, accessFlags := 18, slot := 3, constantValue := 0 }, { name := "grantable", type := (.object "java/util/Set"), accessFlags := 18, slot := 4, constantValue := 0 }, { name := "$VALUES", type := (.array (.object "com/example/permitree/permitree/engine/ObjectType")), accessFlags := 4122, slot := 5, constantValue := 0 }]
  methods := #[k6m0, k6m1]
  instanceTypes := #[(.object "java/lang/String"), .int, .int, .boolean, (.object "java/util/Set")]
  staticTypes := #[(.object "com/example/permitree/permitree/engine/ObjectType"), (.object "com/example/permitree/permitree/engine/ObjectType"), (.object "com/example/permitree/permitree/engine/ObjectType"), (.object "com/example/permitree/permitree/engine/ObjectType"), (.object "com/example/permitree/permitree/engine/ObjectType"), (.array (.object "com/example/permitree/permitree/engine/ObjectType"))]
  resolved := Array.replicate 178 none
  statics := some 0 }

def pool7 : Array CpInfo := pool [(1, u "java/lang/Cloneable"), (0, .class_ 1), (0, u "java/lang/Object"), (0, .class_ 3)] 3

/-- java/lang/Cloneable -/
def k7 : Class := { plain "java/lang/Cloneable" (some 0) with
  accessFlags := 1537
  interfaces := #[]
  cf := some (fileOf pool7 2 #[] #[] 1537 4 #[] #[])
  fields := #[]
  methods := #[]
  instanceTypes := #[]
  staticTypes := #[]
  resolved := Array.replicate 8 none
  statics := none }

/-- the primitive byte -/
def k8 : Class := { plain "byte" none with kind := .primitive 'B', accessFlags := 0x411 }
/-- [B -/
def k9 : Class := { plain "[B" (some 0) with kind := .array 8 .byte, interfaces := #[7, 4], accessFlags := 1041 }

def heap : Heap := #[{ cls := 6, slots := #[.ref 1, .ref 4, .ref 5, .ref 2, .ref 3, .null], vm := .statics 6 },
  { cls := 6, slots := #[.null, .int 0, .int 0, .int 0, .null], vm := .none },
  { cls := 6, slots := #[.null, .int 3, .int 0, .int 0, .null], vm := .none },
  { cls := 6, slots := #[.null, .int 4, .int 0, .int 0, .null], vm := .none },
  { cls := 6, slots := #[.null, .int 1, .int 0, .int 0, .null], vm := .none },
  { cls := 6, slots := #[.null, .int 2, .int 0, .int 0, .null], vm := .none }]
def classes : Array Class := #[k0, k1, k2, k3, k4, k5, k6, k7, k8, k9]
def interned : List (Array UInt16 × Addr) := []
def slotsUsed : Nat := 31
def theMethod : MethodId := ⟨1, 2⟩
def args0 : Array Value := #[.int 5]
def aboutOver (below : List Frame) : State where
  vm := { classes := classes, interned := interned.toArray }
  heap := heap
  slotsUsed := slotsUsed
  threads := #[{ frames := .invoking theMethod args0 :: below }]
def below0 : List Frame := [.native { method := ⟨0, 0⟩, args := #[] }]
def about1 : State := aboutOver below0
def p0 : Program := .bare "" "" ""
def e0 : Env := launch0.env 0 0 0
theorem w_frames : about1.frames = Frame.invoking theMethod args0 :: below0 := rfl
set_option maxRecDepth 65536 in
theorem w_args : argsFit about1.vm theMethod args0 = true := by decide +kernel
set_option maxRecDepth 65536 in
theorem w_heap : heapFits about1 = true := by decide +kernel
set_option maxRecDepth 65536 in
theorem w_runnable : about1.curStatus? = some .runnable := by decide +kernel
set_option maxRecDepth 65536 in
theorem w_alone : about1.alone = true := by decide +kernel
set_option maxRecDepth 65536 in
theorem w_named : about1.methodNamed? x = some theMethod := by decide +kernel
set_option maxRecDepth 65536 in
theorem w_hears : about1.hears theMethod below0 = true := by decide +kernel
set_option maxRecDepth 65536 in
theorem w_ripe : about1.ripe theMethod args0 below0 = true := by decide +kernel
theorem w_running : about1.status = .running := rfl
set_option maxRecDepth 65536 in
theorem w_room : about1.hasRoom e0.platform room_1 = true :=
  launch0.hasRoom_least _ room_1 (by decide +kernel) (by decide +kernel) (by decide +kernel) (by decide +kernel) (by decide +kernel) (by decide +kernel)
theorem allAtoms_all (ts : List Jvm.Cond) (a : Array Jvm.Value) (st : Jvm.State) : (allAtoms ts).before a st = ts.all (fun c => c.before a st) := by
  induction ts with
  | nil => rfl
  | cons c t ih =>
    show (Jvm.Cond.and c (allAtoms t)).before a st = _
    rw [Jvm.Cond.before_and, ih, List.all_cons]
def words1 : List Jvm.Cond := Jvm.Cond.code x code maxLocals ret :: tables_1
/-- a 'code' word, met by the world's own term for the bytes: nothing is compared byte by byte -/
theorem code_word {y : MethodName} {bytes : ByteArray} {mx : Nat} {rt : Option FieldType} {a : Array Value} {s : State} {m : MethodId} {meth : Method} {c : Code} (h1 : s.methodNamed? y = some m) (h2 : s.vm.method? m = some meth) (h3 : meth.code = some c) (h4 : c.code = bytes)
    (h5 : (c.maxLocals == mx && c.exceptionTable.isEmpty && decide (c.maxStack ≤ mostOperands) && decide (meth.sig.returnType = rt) && !meth.locks && decide (parseMethodDescriptor y.desc = some meth.sig)) = true) : (Jvm.Cond.code y bytes mx rt).before a s = true := by
  simp only [Bool.and_eq_true, beq_iff_eq, Bool.not_eq_true', decide_eq_true_eq] at h5
  obtain ⟨⟨⟨⟨⟨g1, g2⟩, g3⟩, g4⟩, g5⟩, g6⟩ := h5
  simp [Cond.before, Cond.holds, Cond.value, h1, h2, h3, h4, g1, g2, g3, g4, g5, g6]
def isCode : Jvm.Cond → Bool
  | .code _ _ _ _ => true
  | _ => false
theorem all_split {L : List Jvm.Cond} {P : Jvm.Cond → Bool} (h1 : L.all (fun c => isCode c || P c) = true) (h2 : ∀ c ∈ L.filter isCode, P c = true) : L.all P = true := by
  refine List.all_eq_true.mpr fun c hc => ?_
  have h := List.all_eq_true.mp h1 c hc
  rcases Bool.eq_false_or_eq_true (isCode c) with hi | hi
  · exact h2 c (List.mem_filter.mpr ⟨hc, hi⟩)
  · simpa [hi] using h
set_option maxRecDepth 65536 in
theorem w_c0 : (Jvm.Cond.code x code maxLocals ret).before args0 about1 = true := code_word (m := ⟨1, 2⟩) (meth := k1m2) (c := k1c2) (by decide +kernel) rfl rfl rfl (by decide +kernel)
set_option maxRecDepth 65536 in
theorem w_c1 : (Jvm.Cond.code ({ cls := "com/example/permitree/permitree/engine/ObjectTypeIsDatasetPinLaw", name := "pick", desc := "(I)Lcom/example/permitree/permitree/engine/ObjectType;" } : Jvm.MethodName) method_2_code (1 : Nat) (Option.some (Jvm.ClassFile.FieldType.object "com/example/permitree/permitree/engine/ObjectType"))).before args0 about1 = true := code_word (m := ⟨1, 1⟩) (meth := k1m1) (c := k1c1) (by decide +kernel) rfl rfl rfl (by decide +kernel)
set_option maxRecDepth 65536 in
theorem w_c2 : (Jvm.Cond.code ({ cls := "com/example/permitree/permitree/engine/ObjectType", name := "isDataset", desc := "()Z" } : Jvm.MethodName) prog_22_method_9_code (1 : Nat) (Option.some Jvm.ClassFile.FieldType.boolean)).before args0 about1 = true := code_word (m := ⟨6, 0⟩) (meth := k6m0) (c := k6c0) (by decide +kernel) rfl rfl rfl (by decide +kernel)
set_option maxRecDepth 65536 in
theorem w_c3 : (Jvm.Cond.code ({ cls := "com/example/permitree/permitree/engine/ObjectType", name := "mayHold", desc := "(Lcom/example/permitree/permitree/engine/ObjectType;)Z" } : Jvm.MethodName) prog_22_method_10_code (2 : Nat) (Option.some Jvm.ClassFile.FieldType.boolean)).before args0 about1 = true := code_word (m := ⟨6, 1⟩) (meth := k6m1) (c := k6c1) (by decide +kernel) rfl rfl rfl (by decide +kernel)
set_option maxRecDepth 65536 in
theorem w_c4 : (Jvm.Cond.code ({ cls := "java/lang/Enum", name := "ordinal", desc := "()I" } : Jvm.MethodName) jdk_37_method_2_code (1 : Nat) (Option.some Jvm.ClassFile.FieldType.int)).before args0 about1 = true := code_word (m := ⟨5, 0⟩) (meth := k5m0) (c := k5c0) (by decide +kernel) rfl rfl rfl (by decide +kernel)
def codes1 : List Jvm.Cond := [Jvm.Cond.code x code maxLocals ret, Jvm.Cond.code ({ cls := "com/example/permitree/permitree/engine/ObjectTypeIsDatasetPinLaw", name := "pick", desc := "(I)Lcom/example/permitree/permitree/engine/ObjectType;" } : Jvm.MethodName) method_2_code (1 : Nat) (Option.some (Jvm.ClassFile.FieldType.object "com/example/permitree/permitree/engine/ObjectType")), Jvm.Cond.code ({ cls := "com/example/permitree/permitree/engine/ObjectType", name := "isDataset", desc := "()Z" } : Jvm.MethodName) prog_22_method_9_code (1 : Nat) (Option.some Jvm.ClassFile.FieldType.boolean), Jvm.Cond.code ({ cls := "com/example/permitree/permitree/engine/ObjectType", name := "mayHold", desc := "(Lcom/example/permitree/permitree/engine/ObjectType;)Z" } : Jvm.MethodName) prog_22_method_10_code (2 : Nat) (Option.some Jvm.ClassFile.FieldType.boolean), Jvm.Cond.code ({ cls := "java/lang/Enum", name := "ordinal", desc := "()I" } : Jvm.MethodName) jdk_37_method_2_code (1 : Nat) (Option.some Jvm.ClassFile.FieldType.int)]
set_option maxRecDepth 65536 in
theorem codes_eq : words1.filter isCode = codes1 := rfl
theorem w_codes : ∀ c ∈ words1.filter isCode, c.before args0 about1 = true := by
  rw [codes_eq]
  intro c hc
  simp only [codes1, List.mem_cons, List.not_mem_nil, or_false] at hc
  rcases hc with rfl | rfl | rfl | rfl | rfl
  · exact w_c0
  · exact w_c1
  · exact w_c2
  · exact w_c3
  · exact w_c4
set_option maxRecDepth 65536 in
theorem w_t1 : (words1.take 24).all (fun c => isCode c || c.before args0 about1) = true := by decide +kernel
set_option maxRecDepth 65536 in
theorem w_t2 : (words1.drop 24).all (fun c => isCode c || c.before args0 about1) = true := by decide +kernel
theorem w_tables : (allAtoms (Jvm.Cond.code x code maxLocals ret :: tables_1)).before args0 about1 = true := by
  rw [allAtoms_all]
  show words1.all (fun c => c.before args0 about1) = true
  refine all_split ?_ w_codes
  rw [← List.take_append_drop 24 words1, List.all_append, w_t1, w_t2]
  rfl
set_option maxRecDepth 65536 in
theorem w_case : (Jvm.Cond.and given_1 narrow_1).before args0 about1 = true := by decide +kernel
theorem w_applies : (headSpec (Jvm.Cond.code x code maxLocals ret :: tables_1) room_1).applies x e0.platform about1 = true :=
  (Spec.applies_iff w_frames).mpr ⟨w_running, w_runnable, w_alone, w_named, w_hears, w_ripe, w_room, w_tables⟩
theorem atStart : AtStart classFile x code maxLocals ret World_1 tables_1 room_1 Calls_1 rest_1 Pre_1 launch0 p0 e0 about1 theMethod args0 below0 :=
  ⟨lists_1, trivial, launch0.admits_env _ _ _, launch0.least_env, fairChoices_fair.cas, fairChoices_fair.clock, w_frames, w_args, w_heap, w_applies, trivial, trivial, w_case⟩
end start1
theorem witness_1 : WitnessClaimed_1 := ⟨start1.p0, start1.e0, start1.about1, start1.theMethod, start1.args0, start1.below0, start1.atStart⟩
end Jvm.Pilot.@@N@@
