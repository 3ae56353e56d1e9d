import JvmDerived
import JvmDerived.Pilot.@@N@@Statement
import JvmDerived.Pilot.@@N@@Code
set_option linter.unusedVariables false
set_option linter.unusedSimpArgs false
namespace Jvm.RoadKit
open Sem ClassFile Op Lib Jvm.Stand Jvm.Free Jvm.LawKit
section Own
variable {p : Program} {l : Launch} {e : Env} {R : Room} {s : State} {m : MethodId} {args : Array Value} {below : List Frame} {meth : Method} {c : Code} {T : State} {locs : List Loc} {cells slots : Nat}
theorem retI (X : Stand p l e R s m args below meth c T locs cells slots) (hx : p.tables.exec = Jvm.exec) {pc : Nat} {Ls : Array Slot} {z : Int32} {rest : List Value} (hret : meth.sig.returnType = some .int) (hd : decode c.code pc = .ok (.ireturn, 1)) {fs : List Frame}
    (hl : ∀ (f : JFrame) (acts : List Action), f.method = m → f.locked = none → f.entered = [] → (doReturn e (T.setTop f) acts (some (.int z))).1 = T.setFrames fs) : Steps p.tables e below (T.setTop (mkF m pc Ls (.int z :: rest))) (T.setFrames fs) := by
  have hm' : T.vm.method? m = some meth := X.method'
  have hn : narrow .int (.int z) = .int z := rfl
  show Steps p.tables e below (T.setTop { method := m, pc := pc, locals := Ls, stack := _ :: rest, locked := none }) _
  jvm_step X.here [X.here.top, hx, hd, hm', hret, hn]
  first | (intro acts; rw [hl _ acts rfl rfl rfl]) | rw [hl _ _ rfl rfl rfl]
  exact Steps.refl _
/-- the walk from S ends as K says -/
def Way (tb : Tables) (e : Env) (below : List Frame) (K : Outcome → State → Prop) (S : State) : Prop := ∃ s₂ o, Steps tb e below S s₂ ∧ s₂.status = .running ∧ Ended s₂ below o ∧ K o s₂
theorem Way.by {tb : Tables} {K : Outcome → State → Prop} {A B : State} (st : ∀ t, Steps tb e below B t → Steps tb e below A t) (h : Way tb e below K B) : Way tb e below K A := by
  obtain ⟨s₂, o, h1, h2⟩ := h; exact ⟨s₂, o, st _ h1, h2⟩
theorem Way.to {tb : Tables} {K : Outcome → State → Prop} {A B : State} (st : Steps tb e below A B) (h : Way tb e below K B) : Way tb e below K A := by
  obtain ⟨s₂, o, h1, h2⟩ := h; exact ⟨s₂, o, st.trans h1, h2⟩
abbrev KQ (s : State) (Q : Option Value → Heap → List Loc → Prop) (C S : Nat) : Outcome → State → Prop := fun o s₂ => ∃ v L, o = .returned v ∧ Q v s₂.heap L ∧ FrameEnd s o s₂ L C S
theorem Way.ret {Q : Option Value → Heap → List Loc → Prop} {C S : Nat} {A : State} {v : Option Value} (X : Stand p l e R s m args below meth c T locs cells slots) (hlk : meth.locks = false) (hv : meth.sig.returnType = none → v = none)
    (hret : ∀ fs, (∀ (f : JFrame) (acts : List Action), f.method = m → f.locked = none → f.entered = [] → (doReturn e (T.setTop f) acts v).1 = T.setFrames fs) → Steps p.tables e below A (T.setFrames fs))
    (hQ : Q v T.heap locs) (hc : cells ≤ C) (hs : slots ≤ S) : Way p.tables e below (KQ s Q C S) A := by
  obtain ⟨fs, hr, hrun, hended, hW, hsame⟩ := X.leave hv hlk
  exact ⟨_, _, hret fs hr, hrun, hended, _, _, rfl, hQ, ⟨_, rfl⟩, hW, hsame.mono hc hs⟩
abbrev KQW (s : State) (Q : Option Value → Heap → List Loc → Prop) (C S : Nat) : Outcome → State → Prop := fun o s₂ => ∃ v L, o = .returned v ∧ Q v s₂.heap L ∧ ReturnedEndW s o s₂ L C S
theorem Way.retW {Q : Option Value → Heap → List Loc → Prop} {C S : Nat} {A : State} {v : Option Value} {vm1 : Vm} {n : Nat} (X : Stand p l e R (s.setVm vm1) m args below meth c T locs cells slots) (hS : s.Since vm1 n) (hn : n ≤ T.heap.size) (hlk : meth.locks = false) (hv : meth.sig.returnType = none → v = none)
    (hret : ∀ fs, (∀ (f : JFrame) (acts : List Action), f.method = m → f.locked = none → f.entered = [] → (doReturn e (T.setTop f) acts v).1 = T.setFrames fs) → Steps p.tables e below A (T.setFrames fs))
    (hQ : Q v T.heap locs) (hc : cells ≤ C) (hs : slots ≤ S) : Way p.tables e below (KQW s Q C S) A := by
  obtain ⟨fs, hr, hrun, hended, h1, h2, h3, h4⟩ := X.leaveW hS hn hv hlk
  exact ⟨_, _, hret fs hr, hrun, hended, _, _, rfl, hQ, h1, h2, h3, h4.mono hc hs⟩
abbrev KQH (s Z : State) (EL : List (String × Nat)) (Q : Option Value → Heap → List Loc → Prop) (C S : Nat) : Outcome → State → Prop := fun o s₂ => ∃ v L, o = .returned v ∧ Q v s₂.heap L ∧ CHr Z EL s.vm s.heap s₂.vm s₂.heap ∧ ReturnedEndW s o s₂ L C S
theorem Way.retH {Z : State} {a0 : Array Value} {EL : List (String × Nat)} {Q : Option Value → Heap → List Loc → Prop} {C S : Nat} {A : State} {v : Option Value} {vm1 : Vm} {n : Nat} {h h0 : Heap} (X : Stand p l e R (s.setVm vm1) m args below meth c T locs cells slots) (hS : s.Since vm1 n) (hn : n ≤ T.heap.size) (hZ : Z.Warmed39 vm1) (hEL : EW Z a0 EL) (hh : s.heap = h0) (eT : T.heap = h) (H : CHv Z EL vm1 h) (CH : CHr Z EL s.vm h0 vm1 h) (hlk : meth.locks = false) (hv : meth.sig.returnType = none → v = none)
    (hret : ∀ fs, (∀ (f : JFrame) (acts : List Action), f.method = m → f.locked = none → f.entered = [] → (doReturn e (T.setTop f) acts v).1 = T.setFrames fs) → Steps p.tables e below A (T.setFrames fs))
    (hQ : Q v T.heap locs) (hc : cells ≤ C) (hs : slots ≤ S) : Way p.tables e below (KQH s Z EL Q C S) A := by
  obtain ⟨fs, hr, hrun, hended, h1, h2, h3, h4⟩ := X.leaveW hS hn hv hlk
  refine ⟨_, _, hret fs hr, hrun, hended, _, _, rfl, hQ, ?_, h1, h2, h3, h4.mono hc hs⟩
  have B := CHv.at X hZ hEL H
  show CHr Z EL s.vm s.heap T.vm T.heap
  rw [hh, eT]; exact CH.trans B
theorem fldStart {Z : State} {args : Array Value} {t : Term} {a : Addr} {C n d : String} {k : Int32} (ev : t.eval args Z none [] Z = some (.ref a)) (h : (Cond.eq (.field t C n d) (.int k)).value args Z none Z [] = some true) : Fld Z Z.heap a C n d (.int k) := by
  refine Fld.start ?_
  have e1 : (Term.field t C n d).eval args Z none [] Z = Z.fieldOf? a C n d := fld_at ev
  simp only [Cond.value] at h
  rw [e1, show (Term.int k).eval args Z none [] Z = some (.int k) from rfl] at h
  cases hf : Z.fieldOf? a C n d with
  | none => simp [hf] at h
  | some w => cases w <;> simp [hf] at h ⊢; exact h
theorem remB (x d : Int32) (D : Int) (hd : d.toInt = D) (h0 : 0 < D) : 0 ≤ ((x &&& 2147483647) % d).toInt ∧ ((x &&& 2147483647) % d).toInt < D := by
  have h1 := c_and x 2147483647 (by decide)
  rw [(c_irem (x &&& 2147483647) d D hd).1 h1.1]
  exact ⟨Int.emod_nonneg _ (by omega), Int.emod_lt_of_pos _ h0⟩
theorem cases3 {k : Int32} (h : 0 ≤ k.toInt ∧ k.toInt < 3) : k = 0 ∨ k = 1 ∨ k = 2 := by
  have q : k.toInt = 0 ∨ k.toInt = 1 ∨ k.toInt = 2 := by omega
  rcases q with q | q | q
  · exact Or.inl (Int32.toInt_inj.mp q)
  · exact Or.inr (Or.inl (Int32.toInt_inj.mp q))
  · exact Or.inr (Or.inr (Int32.toInt_inj.mp q))
theorem cases5 {k : Int32} (h : 0 ≤ k.toInt ∧ k.toInt < 5) : k = 0 ∨ k = 1 ∨ k = 2 ∨ k = 3 ∨ k = 4 := by
  have q : k.toInt = 0 ∨ k.toInt = 1 ∨ k.toInt = 2 ∨ k.toInt = 3 ∨ k.toInt = 4 := by omega
  rcases q with q | q | q | q | q
  · exact Or.inl (Int32.toInt_inj.mp q)
  · exact Or.inr (Or.inl (Int32.toInt_inj.mp q))
  · exact Or.inr (Or.inr (Or.inl (Int32.toInt_inj.mp q)))
  · exact Or.inr (Or.inr (Or.inr (Or.inl (Int32.toInt_inj.mp q))))
  · exact Or.inr (Or.inr (Or.inr (Or.inr (Int32.toInt_inj.mp q))))
theorem nfSel {s : State} {args : Array Value} {C : String} {y z : MethodName} (hyz : z.cls = y.cls) (hsel : (Cond.selects C z z).before args s = true) : NotFace s y := fun r0 h0 => by
  obtain ⟨c, r, m, -, -, hn, -, mk, hk, hni⟩ := Cond.selects_spec hsel
  have e1 := findClass_of_methodNamed h0
  have e2 := findClass_of_methodNamed hn
  rw [hyz, e1] at e2
  refine ⟨mk, ?_, hni⟩
  first | (rw [Option.some.inj e2]; exact hk) | (rw [← Option.some.inj e2]; exact hk)
theorem sameOwn {s : State} {args : Array Value} {C : String} {y z : MethodName} (hyz : z.cls = y.cls) (hsel : (Cond.selects C z z).before args s = true) (hinst : (Cond.instanceMethod y).before args s = true) (hy : y.cls ≠ "java/lang/invoke/MethodHandle" ∧ y.cls ≠ "java/lang/invoke/VarHandle") : (Cond.sameMethod y.cls y.cls y.name y.desc).before args s = true := by
  obtain ⟨mk, methM, hnamed, -⟩ := Cond.instanceMethod_spec hinst
  obtain ⟨kr, hk, hni⟩ := nfSel hyz hsel mk hnamed
  have hf := State.methodFound?_of_named hnamed hy
  have hc := findClass_of_methodNamed hnamed
  have hn2 : s.methodNamed? ⟨y.cls, y.name, y.desc⟩ = some mk := hnamed
  simp [Cond.before, Cond.holds, Cond.value, hc, hf, hn2, hk, hni]
theorem selPriv {s : State} {args : Array Value} {C : String} {y z : MethodName} (hyz : z.cls = y.cls) (hsel : (Cond.selects C z z).before args s = true) (hpriv : s.PrivateAt y) (hinst : (Cond.instanceMethod y).before args s = true) (hy : y.cls ≠ "java/lang/invoke/MethodHandle" ∧ y.cls ≠ "java/lang/invoke/VarHandle") : (Cond.selects y.cls y y).before args s = true := by
  obtain ⟨c, r, m, -, -, hn, -, mk, hk, hni⟩ := Cond.selects_spec hsel
  exact selects_self_of_private (by rw [← hyz]; exact findClass_of_methodNamed hn) hk hni hpriv hinst hy
theorem staRef {Z : State} {args : Array Value} {C n d K : String} (h : (Cond.exactly (.static C n d) K).before args Z = true) (hi : (Cond.initializedFor C n d).before args Z = true ∨ ((Cond.initialized C).before args Z = true ∧ (Cond.laysStatic C n d).before args Z = true)) : ∃ a, Sta Z Z.heap C n d (.ref a) ∧ Exa Z Z.heap a K := by
  obtain ⟨a, _, _, _, ev, -⟩ := Cond.exactly_spec h
  exact ⟨a, Sta.start ev hi, Exa.start ev (Cond.before_iff.mp h)⟩
end Own
end Jvm.RoadKit
namespace Jvm.Pilot.@@N@@
open Jvm Jvm.ClassFile Sem Op Lib Jvm.Free Jvm.Stand Jvm.LawKit Jvm.RoadKit Bundle Jvm.Pilot.@@N@@.Jvm.D
theorem tw {Z : State} {a0 : Array Value} (hw : ∀ d ∈ tables_1, d.before a0 Z = true) (i : Nat) {d : Jvm.Cond} (h : tables_1[i]? = some d) : d.before a0 Z = true := hw _ (List.mem_of_getElem? h)
def QA2 (Z : State) (pa : Addr) (h0 : Heap) (n0 : Nat) (v : Option Value) (h : Heap) (L : List Loc) : Prop := v = none ∧ Fr n0 L ∧ h = h0
theorem dA2_0 : decode jdk_22_method_1_code 0 = .ok (.aload_n 0, 1) := by decide +kernel
theorem dA2_1 : decode jdk_22_method_1_code 1 = .ok (.invokespecial 1, 3) := by decide +kernel
theorem dA2_4 : decode jdk_22_method_1_code 4 = .ok (.return_, 1) := by decide +kernel
theorem pnA2 : plainName "java/util/AbstractCollection" = true := by first | (simp [plainName, overriddenIn]; done) | decide +kernel
theorem pdA2 : parseMethodDescriptor "()V" = some ⟨[], none⟩ := by decide +kernel
set_option maxRecDepth 65536 in
set_option maxHeartbeats 40000000 in
theorem rmA2 (l : Launch) (Z : State) (a0 : Array Value) (hw : ∀ d ∈ tables_1, d.before a0 Z = true) (ws : List Jvm.Cond) (pa : Addr) (h0 : Heap) (n0 : Nat) (Z0 : n0 ≤ h0.size)  :
    MetFree l (⟨"java/util/AbstractCollection", "<init>", "()V"⟩ : MethodName) (head1 (Jvm.Cond.code (⟨"java/util/AbstractCollection", "<init>", "()V"⟩ : MethodName) jdk_22_method_1_code 1 none :: ws) ({ frames := 1, cells := 0, slots := 0, locals := 12 } : Room)) (fun aa U => aa = #[(.ref pa)] ∧ Z.Warmed39 U.vm ∧ U.heap = h0) (fun _ _ _ _ _ => True) (fun _ U o U' => ∃ v L, o = .returned v ∧ QA2 Z pa h0 n0 v U'.heap L ∧ FrameEnd U o U' L ({ frames := 1, cells := 0, slots := 0, locals := 12 } : Room).cells ({ frames := 1, cells := 0, slots := 0, locals := 12 } : Room).slots) := by
  refine MetFree.of_bodySF (plainFor_of_name pnA2) hisR ?_
  intro p e s m args below meth c s₁ Bd hml0 hP hK
  obtain ⟨rfl, hZ, hh⟩ := hP
  have hx := Bd.exec
  have hby := Bd.bytes
  have hlk : meth.locks = false := BodyLoose.notSynchronized Bd
  have hml : c.maxLocals = 1 := hml0
  have hown : s.vm.findClass "java/util/AbstractCollection" = some m.cls := findClass_of_methodNamed Bd.named
  have hnm := (name_of_methodNamed Bd.named Bd.method).1
  have X0 : Stand p l e ({ frames := 1, cells := 0, slots := 0, locals := 12 } : Room) s m #[(.ref pa)] below meth c s₁ [] 0 0 := Stand.of_body Bd
  have e0 : s₁.heap = h0 := by rw [← hh, Bd.state]; rfl
  have N0 := Fr.nil n0
  have ef : entryFrame m #[(.ref pa)] 1 = mkF m 0 #[rv pa] [] := by first | (simp [entryFrame, mkF, argsToLocals, Value.category, maxLocals]; done) | rfl
  show Way p.tables e below (KQ s (QA2 Z pa h0 n0) ({ frames := 1, cells := 0, slots := 0, locals := 12 } : Room).cells ({ frames := 1, cells := 0, slots := 0, locals := 12 } : Room).slots) (s₁.setTop (entryFrame m #[(.ref pa)] 1))
  rw [ef]
  refine Way.by (fun _ k => XS.aloadN X0.here hx rfl (hb hby dA2_0) rfl rfl k) ?_
  show Way _ _ _ _ (s₁.setTop (mkF m 1 #[rv pa] [(.ref pa)]))
  obtain ⟨T1, X2, e3, st4⟩ := initO X0 hx hZ hown (tw hw 21 rfl) (tw hw 22 rfl) (tw hw 23 rfl) e0 (g := (mkF m 1 #[rv pa] [(.ref pa)])) rfl (by rw [hml]; rfl) rfl (hb hby dA2_1) (by decide) (W := 0) (by show 2 * 0 + _ ≤ _; exact Nat.le_of_eq rfl) (by decide)
  refine Way.by st4 ?_
  show Way _ _ _ _ (T1.setTop (mkF m 4 #[rv pa] []))
  refine Way.ret (v := none) X2 hlk (fun _ => rfl) (fun fs hr => X2.returnOut hx Bd.returns (hb hby dA2_4) hr) ?_ (by decide) (by decide)
  show QA2 Z pa h0 n0 _ T1.heap _
  rw [e3]
  exact ⟨rfl, N0, rfl⟩
def QA1 (Z : State) (pa : Addr) (h0 : Heap) (n0 : Nat) (v : Option Value) (h : Heap) (L : List Loc) : Prop := v = none ∧ Fr n0 L ∧ Keep h0 h [pa] ∧ Exa Z h pa "java/util/ArrayList" ∧ Fld Z h pa "java/util/AbstractList" "modCount" "I" (.int 0) ∧ Fld Z h pa "java/util/ArrayList" "elementData" "[Ljava/lang/Object;" .null
theorem dA1_0 : decode jdk_39_method_1_code 0 = .ok (.aload_n 0, 1) := by decide +kernel
theorem dA1_1 : decode jdk_39_method_1_code 1 = .ok (.invokespecial 1, 3) := by decide +kernel
theorem dA1_4 : decode jdk_39_method_1_code 4 = .ok (.aload_n 0, 1) := by decide +kernel
theorem dA1_5 : decode jdk_39_method_1_code 5 = .ok (.iconst 0, 1) := by decide +kernel
theorem dA1_6 : decode jdk_39_method_1_code 6 = .ok (.putfield 7, 3) := by decide +kernel
theorem dA1_9 : decode jdk_39_method_1_code 9 = .ok (.return_, 1) := by decide +kernel
theorem pnA1 : plainName "java/util/AbstractList" = true := by first | (simp [plainName, overriddenIn]; done) | decide +kernel
theorem pdA1 : parseMethodDescriptor "()V" = some ⟨[], none⟩ := by decide +kernel
set_option maxRecDepth 65536 in
set_option maxHeartbeats 40000000 in
theorem rmA1 (l : Launch) (Z : State) (a0 : Array Value) (hw : ∀ d ∈ tables_1, d.before a0 Z = true) (ws : List Jvm.Cond) (pa : Addr) (h0 : Heap) (n0 : Nat) (Z0 : n0 ≤ h0.size) (H0 : Exa Z h0 pa "java/util/ArrayList") (H1 : Fld Z h0 pa "java/util/AbstractList" "modCount" "I" (.int 0)) (H2 : Fld Z h0 pa "java/util/ArrayList" "elementData" "[Ljava/lang/Object;" .null) (nw_pa : n0 ≤ pa) :
    MetFree l (⟨"java/util/AbstractList", "<init>", "()V"⟩ : MethodName) (head1 (Jvm.Cond.code (⟨"java/util/AbstractList", "<init>", "()V"⟩ : MethodName) jdk_39_method_1_code 1 none :: ws) ({ frames := 2, cells := 0, slots := 0, locals := 24 } : Room)) (fun aa U => aa = #[(.ref pa)] ∧ Z.Warmed39 U.vm ∧ U.heap = h0) (fun _ _ _ _ _ => True) (fun _ U o U' => ∃ v L, o = .returned v ∧ QA1 Z pa h0 n0 v U'.heap L ∧ FrameEnd U o U' L ({ frames := 2, cells := 0, slots := 0, locals := 24 } : Room).cells ({ frames := 2, cells := 0, slots := 0, locals := 24 } : Room).slots) := by
  refine MetFree.of_bodySF (plainFor_of_name pnA1) hisR ?_
  intro p e s m args below meth c s₁ Bd hml0 hP hK
  obtain ⟨rfl, hZ, hh⟩ := hP
  have hx := Bd.exec
  have hby := Bd.bytes
  have hlk : meth.locks = false := BodyLoose.notSynchronized Bd
  have hml : c.maxLocals = 1 := hml0
  have hown : s.vm.findClass "java/util/AbstractList" = some m.cls := findClass_of_methodNamed Bd.named
  have hnm := (name_of_methodNamed Bd.named Bd.method).1
  have X0 : Stand p l e ({ frames := 2, cells := 0, slots := 0, locals := 24 } : Room) s m #[(.ref pa)] below meth c s₁ [] 0 0 := Stand.of_body Bd
  have e0 : s₁.heap = h0 := by rw [← hh, Bd.state]; rfl
  have N0 := Fr.nil n0
  have ef : entryFrame m #[(.ref pa)] 1 = mkF m 0 #[rv pa] [] := by first | (simp [entryFrame, mkF, argsToLocals, Value.category, maxLocals]; done) | rfl
  show Way p.tables e below (KQ s (QA1 Z pa h0 n0) ({ frames := 2, cells := 0, slots := 0, locals := 24 } : Room).cells ({ frames := 2, cells := 0, slots := 0, locals := 24 } : Room).slots) (s₁.setTop (entryFrame m #[(.ref pa)] 1))
  rw [ef]
  refine Way.by (fun _ k => XS.aloadN X0.here hx rfl (hb hby dA1_0) rfl rfl k) ?_
  show Way _ _ _ _ (s₁.setTop (mkF m 1 #[rv pa] [(.ref pa)]))
  obtain ⟨_, _, ⟨T1, L3, k4, n5⟩, -, X2, ⟨Lc6, hQ7, l8, y9, z10⟩, st11⟩ := X0.specialBack hx (y := (⟨"java/util/AbstractCollection", "<init>", "()V"⟩ : MethodName)) rfl hown (mvT hZ (tw hw 15 rfl)) (mvT hZ (tw hw 16 rfl)) (mvT hZ (tw hw 20 rfl)) (by decide) (backOf (W := 0) (rmA2 l Z a0 hw [] pa h0 n0 Z0 ) hZ (tw hw 20 rfl) (tw hw 19 rfl) (by decide) (by decide)) (g := (mkF m 1 #[rv pa] [(.ref pa)])) rfl (by rw [hml]; rfl) (Steps.refl _) (a := pa) (argsL := []) (rest := []) (lenOf pdA2 rfl) rfl (by show 2 * 0 + _ ≤ _; exact Nat.le_of_eq rfl) (hb hby dA1_1) (fun _ _ => ⟨rfl, e0, (Nat.le_of_ble_eq_true rfl), (Nat.le_of_ble_eq_true rfl)⟩)
  dsimp only [Pt.U, Pt.locs, Pt.cells, Pt.slots] at X2 l8 y9 z10 st11 hQ7
  subst l8 y9 z10
  obtain ⟨rfl, N17, e13⟩ := hQ7
  have N12 := Fr.app N0 N17
  refine Way.to st11 ?_
  show Way _ _ _ _ (T1.setTop (mkF m 4 #[rv pa] []))
  refine Way.by (fun _ k => XS.aloadN X2.here hx rfl (hb hby dA1_4) rfl rfl k) ?_
  show Way _ _ _ _ (T1.setTop (mkF m 5 #[rv pa] [(.ref pa)]))
  refine Way.by (fun _ k => XS.iconst X2.here hx rfl (hb hby dA1_5) k) ?_
  show Way _ _ _ _ (T1.setTop (mkF m 6 #[rv pa] [(.int 0), (.ref pa)]))
  obtain ⟨T19, h20, X21, e22, W23, st24⟩ := putF X2 hx hZ hown (host := "") (Or.inl (tw hw 24 rfl)) Via.refl e13 H1 H0 (Or.inl (tw hw 25 rfl)) (tw hw 4 rfl) (ty := .int) (by decide) rfl rfl (g := (mkF m 6 #[rv pa] [(.int 0), (.ref pa)])) rfl rfl (hb hby dA1_6)
  have N25 := Fr.snoc X21 N12 nw_pa
  have E26 := Exa.wr W23 H0
  have F27 : Fld Z h20 pa "java/util/AbstractList" "modCount" "I" (.int 0) := H1.same W23
  have F28 := H2.other W23 (Or.inr (slot_ne (Or.inl (tw hw 28 rfl)) (Or.inl (tw hw 25 rfl)) (by decide) (t := (.array (.object "java/lang/Object"))) (t' := .int) (by decide) (by decide)))
  have Z29 : n0 ≤ h20.size := by rw [W23.size]; exact Z0
  have K30 := (Keep.refl h0 [pa]).wr W23 (Or.inl (List.mem_of_getElem? (i := 0) rfl))
  have hz31 : h0.size ≤ h20.size := by rw [W23.size]; exact (Nat.le_refl h0.size)
  refine Way.by st24 ?_
  show Way _ _ _ _ (T19.setTop (mkF m 9 #[rv pa] []))
  refine Way.ret (v := none) X21 hlk (fun _ => rfl) (fun fs hr => X21.returnOut hx Bd.returns (hb hby dA1_9) hr) ?_ (by decide) (by decide)
  show QA1 Z pa h0 n0 _ T19.heap _
  rw [e22]
  exact ⟨rfl, N25, K30, E26, F27, F28⟩
def QA0 (Z : State) (pa : Addr) (pd : Addr) (h0 : Heap) (n0 : Nat) (v : Option Value) (h : Heap) (L : List Loc) : Prop := v = none ∧ Fr n0 L ∧ Keep h0 h [pa] ∧ Exa Z h pa "java/util/ArrayList" ∧ Fld Z h pa "java/util/AbstractList" "modCount" "I" (.int 0) ∧ Fld Z h pa "java/util/ArrayList" "elementData" "[Ljava/lang/Object;" (.ref pd)
theorem dA0_0 : decode jdk_38_method_2_code 0 = .ok (.aload_n 0, 1) := by decide +kernel
theorem dA0_1 : decode jdk_38_method_2_code 1 = .ok (.invokespecial 1, 3) := by decide +kernel
theorem dA0_4 : decode jdk_38_method_2_code 4 = .ok (.aload_n 0, 1) := by decide +kernel
theorem dA0_5 : decode jdk_38_method_2_code 5 = .ok (.getstatic 39, 3) := by decide +kernel
theorem dA0_8 : decode jdk_38_method_2_code 8 = .ok (.putfield 9, 3) := by decide +kernel
theorem dA0_11 : decode jdk_38_method_2_code 11 = .ok (.return_, 1) := by decide +kernel
theorem pnA0 : plainName "java/util/ArrayList" = true := by first | (simp [plainName, overriddenIn]; done) | decide +kernel
theorem pdA0 : parseMethodDescriptor "()V" = some ⟨[], none⟩ := by decide +kernel
set_option maxRecDepth 65536 in
set_option maxHeartbeats 40000000 in
theorem rmA0 (l : Launch) (Z : State) (a0 : Array Value) (hw : ∀ d ∈ tables_1, d.before a0 Z = true) (ws : List Jvm.Cond) (pa : Addr) (pd : Addr) (h0 : Heap) (n0 : Nat) (Z0 : n0 ≤ h0.size) (H0 : Exa Z h0 pa "java/util/ArrayList") (H1 : Fld Z h0 pa "java/util/AbstractList" "modCount" "I" (.int 0)) (H2 : Fld Z h0 pa "java/util/ArrayList" "elementData" "[Ljava/lang/Object;" .null) (nw_pa : n0 ≤ pa) (O0 : Old Z n0 h0) (SDE : Sta Z Z.heap "java/util/ArrayList" "DEFAULTCAPACITY_EMPTY_ELEMENTDATA" "[Ljava/lang/Object;" (.ref pd)) :
    MetFree l (⟨"java/util/ArrayList", "<init>", "()V"⟩ : MethodName) (head1 (Jvm.Cond.code (⟨"java/util/ArrayList", "<init>", "()V"⟩ : MethodName) jdk_38_method_2_code 1 none :: ws) ({ frames := 3, cells := 0, slots := 0, locals := 36 } : Room)) (fun aa U => aa = #[(.ref pa)] ∧ Z.Warmed39 U.vm ∧ U.heap = h0) (fun _ _ _ _ _ => True) (fun _ U o U' => ∃ v L, o = .returned v ∧ QA0 Z pa pd h0 n0 v U'.heap L ∧ FrameEnd U o U' L ({ frames := 3, cells := 0, slots := 0, locals := 36 } : Room).cells ({ frames := 3, cells := 0, slots := 0, locals := 36 } : Room).slots) := by
  refine MetFree.of_bodySF (plainFor_of_name pnA0) hisR ?_
  intro p e s m args below meth c s₁ Bd hml0 hP hK
  obtain ⟨rfl, hZ, hh⟩ := hP
  have hx := Bd.exec
  have hby := Bd.bytes
  have hlk : meth.locks = false := BodyLoose.notSynchronized Bd
  have hml : c.maxLocals = 1 := hml0
  have hown : s.vm.findClass "java/util/ArrayList" = some m.cls := findClass_of_methodNamed Bd.named
  have hnm := (name_of_methodNamed Bd.named Bd.method).1
  have X0 : Stand p l e ({ frames := 3, cells := 0, slots := 0, locals := 36 } : Room) s m #[(.ref pa)] below meth c s₁ [] 0 0 := Stand.of_body Bd
  have e0 : s₁.heap = h0 := by rw [← hh, Bd.state]; rfl
  have N0 := Fr.nil n0
  have ef : entryFrame m #[(.ref pa)] 1 = mkF m 0 #[rv pa] [] := by first | (simp [entryFrame, mkF, argsToLocals, Value.category, maxLocals]; done) | rfl
  show Way p.tables e below (KQ s (QA0 Z pa pd h0 n0) ({ frames := 3, cells := 0, slots := 0, locals := 36 } : Room).cells ({ frames := 3, cells := 0, slots := 0, locals := 36 } : Room).slots) (s₁.setTop (entryFrame m #[(.ref pa)] 1))
  rw [ef]
  refine Way.by (fun _ k => XS.aloadN X0.here hx rfl (hb hby dA0_0) rfl rfl k) ?_
  show Way _ _ _ _ (s₁.setTop (mkF m 1 #[rv pa] [(.ref pa)]))
  obtain ⟨_, _, ⟨T1, L3, k4, n5⟩, -, X2, ⟨Lc6, hQ7, l8, y9, z10⟩, st11⟩ := X0.specialBack hx (y := (⟨"java/util/AbstractList", "<init>", "()V"⟩ : MethodName)) rfl hown (mvT hZ (tw hw 9 rfl)) (mvT hZ (tw hw 10 rfl)) (mvT hZ (tw hw 14 rfl)) (by decide) (backOf (W := 0) (rmA1 l Z a0 hw [] pa h0 n0 Z0 H0 H1 H2 nw_pa) hZ (tw hw 14 rfl) (tw hw 13 rfl) (by decide) (by decide)) (g := (mkF m 1 #[rv pa] [(.ref pa)])) rfl (by rw [hml]; rfl) (Steps.refl _) (a := pa) (argsL := []) (rest := []) (lenOf pdA1 rfl) rfl (by show 2 * 0 + _ ≤ _; exact Nat.le_of_eq rfl) (hb hby dA0_1) (fun _ _ => ⟨rfl, e0, (Nat.le_of_ble_eq_true rfl), (Nat.le_of_ble_eq_true rfl)⟩)
  dsimp only [Pt.U, Pt.locs, Pt.cells, Pt.slots] at X2 l8 y9 z10 st11 hQ7
  subst l8 y9 z10
  obtain ⟨rfl, N17, K18, F_019, F_120, F_221⟩ := hQ7
  have N12 := Fr.app N0 N17
  have E22 := H0.keep K18
  have Z23 := Nat.le_trans Z0 K18.1
  have O24 := O0.keep K18 (allS nw_pa all0)
  have K25 := (Keep.refl h0 [pa]).trans K18 (allS (Or.inl (List.mem_of_getElem? (i := 0) rfl)) all0)
  have hz26 := Nat.le_trans (Nat.le_refl h0.size) K18.1
  refine Way.to st11 ?_
  show Way _ _ _ _ (T1.setTop (mkF m 4 #[rv pa] []))
  refine Way.by (fun _ k => XS.aloadN X2.here hx rfl (hb hby dA0_4) rfl rfl k) ?_
  show Way _ _ _ _ (T1.setTop (mkF m 5 #[rv pa] [(.ref pa)]))
  obtain ⟨T27, X28, e29, st30⟩ := getS X2 hx hZ hown (host := "") (tw hw 26 rfl) Via.refl rfl (Sta.ext O24.2 SDE) (g := (mkF m 5 #[rv pa] [(.ref pa)])) rfl (hb hby dA0_5)
  refine Way.by st30 ?_
  show Way _ _ _ _ (T27.setTop (mkF m 8 #[rv pa] [(.ref pd), (.ref pa)]))
  obtain ⟨T31, h32, X33, e34, W35, st36⟩ := putF X28 hx hZ hown (host := "") (Or.inl (tw hw 27 rfl)) Via.refl e29 F_221 F_019 (Or.inl (tw hw 28 rfl)) (tw hw 4 rfl) (ty := (.array (.object "java/lang/Object"))) (by decide) rfl rfl (g := (mkF m 8 #[rv pa] [(.ref pd), (.ref pa)])) rfl rfl (hb hby dA0_8)
  have N37 := Fr.snoc X33 N12 nw_pa
  have E38 := Exa.wr W35 F_019
  have F39 := F_120.other W35 (Or.inr (slot_ne (Or.inl (tw hw 25 rfl)) (Or.inl (tw hw 28 rfl)) (by decide) (t := .int) (t' := (.array (.object "java/lang/Object"))) (by decide) (by decide)))
  have F40 : Fld Z h32 pa "java/util/ArrayList" "elementData" "[Ljava/lang/Object;" (.ref pd) := F_221.same W35
  have Z41 : n0 ≤ h32.size := by rw [W35.size]; exact Z23
  have O42 := O24.wr W35 nw_pa
  have K43 := K25.wr W35 (Or.inl (List.mem_of_getElem? (i := 0) rfl))
  have hz44 : h0.size ≤ h32.size := by rw [W35.size]; exact hz26
  refine Way.by st36 ?_
  show Way _ _ _ _ (T31.setTop (mkF m 11 #[rv pa] []))
  refine Way.ret (v := none) X33 hlk (fun _ => rfl) (fun fs hr => X33.returnOut hx Bd.returns (hb hby dA0_11) hr) ?_ (by decide) (by decide)
  show QA0 Z pa pd h0 n0 _ T31.heap _
  rw [e34]
  exact ⟨rfl, N37, K43, E38, F39, F40⟩
def QU (Z : State) (pa : Addr) (h0 : Heap) (n0 : Nat) (v : Option Value) (h : Heap) (L : List Loc) : Prop := v = none ∧ Fr n0 L ∧ h = h0
theorem dU_0 : decode jdk_18_method_1_code 0 = .ok (.aload_n 0, 1) := by decide +kernel
theorem dU_1 : decode jdk_18_method_1_code 1 = .ok (.invokespecial 1, 3) := by decide +kernel
theorem dU_4 : decode jdk_18_method_1_code 4 = .ok (.return_, 1) := by decide +kernel
theorem pnU : plainName "java/lang/Number" = true := by first | (simp [plainName, overriddenIn]; done) | decide +kernel
theorem pdU : parseMethodDescriptor "()V" = some ⟨[], none⟩ := by decide +kernel
set_option maxRecDepth 65536 in
set_option maxHeartbeats 40000000 in
theorem rmU (l : Launch) (Z : State) (a0 : Array Value) (hw : ∀ d ∈ tables_1, d.before a0 Z = true) (ws : List Jvm.Cond) (pa : Addr) (h0 : Heap) (n0 : Nat) (Z0 : n0 ≤ h0.size)  :
    MetFree l (⟨"java/lang/Number", "<init>", "()V"⟩ : MethodName) (head1 (Jvm.Cond.code (⟨"java/lang/Number", "<init>", "()V"⟩ : MethodName) jdk_18_method_1_code 1 none :: ws) ({ frames := 1, cells := 0, slots := 0, locals := 12 } : Room)) (fun aa U => aa = #[(.ref pa)] ∧ Z.Warmed39 U.vm ∧ U.heap = h0) (fun _ _ _ _ _ => True) (fun _ U o U' => ∃ v L, o = .returned v ∧ QU Z pa h0 n0 v U'.heap L ∧ FrameEnd U o U' L ({ frames := 1, cells := 0, slots := 0, locals := 12 } : Room).cells ({ frames := 1, cells := 0, slots := 0, locals := 12 } : Room).slots) := by
  refine MetFree.of_bodySF (plainFor_of_name pnU) hisR ?_
  intro p e s m args below meth c s₁ Bd hml0 hP hK
  obtain ⟨rfl, hZ, hh⟩ := hP
  have hx := Bd.exec
  have hby := Bd.bytes
  have hlk : meth.locks = false := BodyLoose.notSynchronized Bd
  have hml : c.maxLocals = 1 := hml0
  have hown : s.vm.findClass "java/lang/Number" = some m.cls := findClass_of_methodNamed Bd.named
  have hnm := (name_of_methodNamed Bd.named Bd.method).1
  have X0 : Stand p l e ({ frames := 1, cells := 0, slots := 0, locals := 12 } : Room) s m #[(.ref pa)] below meth c s₁ [] 0 0 := Stand.of_body Bd
  have e0 : s₁.heap = h0 := by rw [← hh, Bd.state]; rfl
  have N0 := Fr.nil n0
  have ef : entryFrame m #[(.ref pa)] 1 = mkF m 0 #[rv pa] [] := by first | (simp [entryFrame, mkF, argsToLocals, Value.category, maxLocals]; done) | rfl
  show Way p.tables e below (KQ s (QU Z pa h0 n0) ({ frames := 1, cells := 0, slots := 0, locals := 12 } : Room).cells ({ frames := 1, cells := 0, slots := 0, locals := 12 } : Room).slots) (s₁.setTop (entryFrame m #[(.ref pa)] 1))
  rw [ef]
  refine Way.by (fun _ k => XS.aloadN X0.here hx rfl (hb hby dU_0) rfl rfl k) ?_
  show Way _ _ _ _ (s₁.setTop (mkF m 1 #[rv pa] [(.ref pa)]))
  obtain ⟨T1, X2, e3, st4⟩ := initO X0 hx hZ hown (tw hw 45 rfl) (tw hw 22 rfl) (tw hw 23 rfl) e0 (g := (mkF m 1 #[rv pa] [(.ref pa)])) rfl (by rw [hml]; rfl) rfl (hb hby dU_1) (by decide) (W := 0) (by show 2 * 0 + _ ≤ _; exact Nat.le_of_eq rfl) (by decide)
  refine Way.by st4 ?_
  show Way _ _ _ _ (T1.setTop (mkF m 4 #[rv pa] []))
  refine Way.ret (v := none) X2 hlk (fun _ => rfl) (fun fs hr => X2.returnOut hx Bd.returns (hb hby dU_4) hr) ?_ (by decide) (by decide)
  show QU Z pa h0 n0 _ T1.heap _
  rw [e3]
  exact ⟨rfl, N0, rfl⟩
def QI (Z : State) (pa : Addr) (pz : Int32) (h0 : Heap) (n0 : Nat) (v : Option Value) (h : Heap) (L : List Loc) : Prop := v = none ∧ Fr n0 L ∧ Keep h0 h [pa] ∧ Exa Z h pa "java/util/concurrent/atomic/AtomicInteger" ∧ Fld Z h pa "java/util/concurrent/atomic/AtomicInteger" "value" "I" (.int pz)
theorem dI_0 : decode jdk_2803_method_1_code 0 = .ok (.aload_n 0, 1) := by decide +kernel
theorem dI_1 : decode jdk_2803_method_1_code 1 = .ok (.invokespecial 1, 3) := by decide +kernel
theorem dI_4 : decode jdk_2803_method_1_code 4 = .ok (.aload_n 0, 1) := by decide +kernel
theorem dI_5 : decode jdk_2803_method_1_code 5 = .ok (.iload_n 1, 1) := by decide +kernel
theorem dI_6 : decode jdk_2803_method_1_code 6 = .ok (.putfield 7, 3) := by decide +kernel
theorem dI_9 : decode jdk_2803_method_1_code 9 = .ok (.return_, 1) := by decide +kernel
theorem pnI : plainName "java/util/concurrent/atomic/AtomicInteger" = true := by first | (simp [plainName, overriddenIn]; done) | decide +kernel
theorem pdI : parseMethodDescriptor "(I)V" = some ⟨[.int], none⟩ := by decide +kernel
set_option maxRecDepth 65536 in
set_option maxHeartbeats 40000000 in
theorem rmI (l : Launch) (Z : State) (a0 : Array Value) (hw : ∀ d ∈ tables_1, d.before a0 Z = true) (ws : List Jvm.Cond) (pa : Addr) (pz : Int32) (h0 : Heap) (n0 : Nat) (Z0 : n0 ≤ h0.size) (H0 : Exa Z h0 pa "java/util/concurrent/atomic/AtomicInteger") (H1 : Fld Z h0 pa "java/util/concurrent/atomic/AtomicInteger" "value" "I" (.int 0)) (nw_pa : n0 ≤ pa) :
    MetFree l (⟨"java/util/concurrent/atomic/AtomicInteger", "<init>", "(I)V"⟩ : MethodName) (head1 (Jvm.Cond.code (⟨"java/util/concurrent/atomic/AtomicInteger", "<init>", "(I)V"⟩ : MethodName) jdk_2803_method_1_code 2 none :: ws) ({ frames := 2, cells := 0, slots := 0, locals := 24 } : Room)) (fun aa U => aa = #[(.ref pa), (.int pz)] ∧ Z.Warmed39 U.vm ∧ U.heap = h0) (fun _ _ _ _ _ => True) (fun _ U o U' => ∃ v L, o = .returned v ∧ QI Z pa pz h0 n0 v U'.heap L ∧ FrameEnd U o U' L ({ frames := 2, cells := 0, slots := 0, locals := 24 } : Room).cells ({ frames := 2, cells := 0, slots := 0, locals := 24 } : Room).slots) := by
  refine MetFree.of_bodySF (plainFor_of_name pnI) hisR ?_
  intro p e s m args below meth c s₁ Bd hml0 hP hK
  obtain ⟨rfl, hZ, hh⟩ := hP
  have hx := Bd.exec
  have hby := Bd.bytes
  have hlk : meth.locks = false := BodyLoose.notSynchronized Bd
  have hml : c.maxLocals = 2 := hml0
  have hown : s.vm.findClass "java/util/concurrent/atomic/AtomicInteger" = some m.cls := findClass_of_methodNamed Bd.named
  have hnm := (name_of_methodNamed Bd.named Bd.method).1
  have X0 : Stand p l e ({ frames := 2, cells := 0, slots := 0, locals := 24 } : Room) s m #[(.ref pa), (.int pz)] below meth c s₁ [] 0 0 := Stand.of_body Bd
  have e0 : s₁.heap = h0 := by rw [← hh, Bd.state]; rfl
  have N0 := Fr.nil n0
  have ef : entryFrame m #[(.ref pa), (.int pz)] 2 = mkF m 0 #[rv pa, iv pz] [] := by first | (simp [entryFrame, mkF, argsToLocals, Value.category, maxLocals]; done) | rfl
  show Way p.tables e below (KQ s (QI Z pa pz h0 n0) ({ frames := 2, cells := 0, slots := 0, locals := 24 } : Room).cells ({ frames := 2, cells := 0, slots := 0, locals := 24 } : Room).slots) (s₁.setTop (entryFrame m #[(.ref pa), (.int pz)] 2))
  rw [ef]
  refine Way.by (fun _ k => XS.aloadN X0.here hx rfl (hb hby dI_0) rfl rfl k) ?_
  show Way _ _ _ _ (s₁.setTop (mkF m 1 #[rv pa, iv pz] [(.ref pa)]))
  obtain ⟨_, _, ⟨T1, L3, k4, n5⟩, -, X2, ⟨Lc6, hQ7, l8, y9, z10⟩, st11⟩ := X0.specialBack hx (y := (⟨"java/lang/Number", "<init>", "()V"⟩ : MethodName)) rfl hown (mvT hZ (tw hw 39 rfl)) (mvT hZ (tw hw 40 rfl)) (mvT hZ (tw hw 44 rfl)) (by decide) (backOf (W := 0) (rmU l Z a0 hw [] pa h0 n0 Z0 ) hZ (tw hw 44 rfl) (tw hw 43 rfl) (by decide) (by decide)) (g := (mkF m 1 #[rv pa, iv pz] [(.ref pa)])) rfl (by rw [hml]; rfl) (Steps.refl _) (a := pa) (argsL := []) (rest := []) (lenOf pdU rfl) rfl (by show 2 * 0 + _ ≤ _; exact Nat.le_of_eq rfl) (hb hby dI_1) (fun _ _ => ⟨rfl, e0, (Nat.le_of_ble_eq_true rfl), (Nat.le_of_ble_eq_true rfl)⟩)
  dsimp only [Pt.U, Pt.locs, Pt.cells, Pt.slots] at X2 l8 y9 z10 st11 hQ7
  subst l8 y9 z10
  obtain ⟨rfl, N17, e13⟩ := hQ7
  have N12 := Fr.app N0 N17
  refine Way.to st11 ?_
  show Way _ _ _ _ (T1.setTop (mkF m 4 #[rv pa, iv pz] []))
  refine Way.by (fun _ k => XS.aloadN X2.here hx rfl (hb hby dI_4) rfl rfl k) ?_
  show Way _ _ _ _ (T1.setTop (mkF m 5 #[rv pa, iv pz] [(.ref pa)]))
  refine Way.by (fun _ k => XS.iloadN X2.here hx rfl (hb hby dI_5) rfl k) ?_
  show Way _ _ _ _ (T1.setTop (mkF m 6 #[rv pa, iv pz] [(.int pz), (.ref pa)]))
  obtain ⟨T19, h20, X21, e22, W23, st24⟩ := putF X2 hx hZ hown (host := "") (Or.inl (tw hw 46 rfl)) Via.refl e13 H1 H0 (Or.inl (tw hw 47 rfl)) (tw hw 34 rfl) (ty := .int) (by decide) rfl rfl (g := (mkF m 6 #[rv pa, iv pz] [(.int pz), (.ref pa)])) rfl rfl (hb hby dI_6)
  have N25 := Fr.snoc X21 N12 nw_pa
  have E26 := Exa.wr W23 H0
  have F27 : Fld Z h20 pa "java/util/concurrent/atomic/AtomicInteger" "value" "I" (.int pz) := H1.same W23
  have Z28 : n0 ≤ h20.size := by rw [W23.size]; exact Z0
  have K29 := (Keep.refl h0 [pa]).wr W23 (Or.inl (List.mem_of_getElem? (i := 0) rfl))
  have hz30 : h0.size ≤ h20.size := by rw [W23.size]; exact (Nat.le_refl h0.size)
  refine Way.by st24 ?_
  show Way _ _ _ _ (T19.setTop (mkF m 9 #[rv pa, iv pz] []))
  refine Way.ret (v := none) X21 hlk (fun _ => rfl) (fun fs hr => X21.returnOut hx Bd.returns (hb hby dI_9) hr) ?_ (by decide) (by decide)
  show QI Z pa pz h0 n0 _ T19.heap _
  rw [e22]
  exact ⟨rfl, N25, K29, E26, F27⟩
def QG (Z : State) (pa : Addr) (pz : Int64) (h0 : Heap) (n0 : Nat) (v : Option Value) (h : Heap) (L : List Loc) : Prop := v = none ∧ Fr n0 L ∧ Keep h0 h [pa] ∧ Exa Z h pa "java/util/concurrent/atomic/AtomicLong" ∧ Fld Z h pa "java/util/concurrent/atomic/AtomicLong" "value" "J" (.long pz)
theorem dG_0 : decode jdk_2805_method_2_code 0 = .ok (.aload_n 0, 1) := by decide +kernel
theorem dG_1 : decode jdk_2805_method_2_code 1 = .ok (.invokespecial 1, 3) := by decide +kernel
theorem dG_4 : decode jdk_2805_method_2_code 4 = .ok (.aload_n 0, 1) := by decide +kernel
theorem dG_5 : decode jdk_2805_method_2_code 5 = .ok (.lload_n 1, 1) := by decide +kernel
theorem dG_6 : decode jdk_2805_method_2_code 6 = .ok (.putfield 7, 3) := by decide +kernel
theorem dG_9 : decode jdk_2805_method_2_code 9 = .ok (.return_, 1) := by decide +kernel
theorem pnG : plainName "java/util/concurrent/atomic/AtomicLong" = true := by first | (simp [plainName, overriddenIn]; done) | decide +kernel
theorem pdG : parseMethodDescriptor "(J)V" = some ⟨[.long], none⟩ := by decide +kernel
set_option maxRecDepth 65536 in
set_option maxHeartbeats 40000000 in
theorem rmG (l : Launch) (Z : State) (a0 : Array Value) (hw : ∀ d ∈ tables_1, d.before a0 Z = true) (ws : List Jvm.Cond) (pa : Addr) (pz : Int64) (h0 : Heap) (n0 : Nat) (Z0 : n0 ≤ h0.size) (H0 : Exa Z h0 pa "java/util/concurrent/atomic/AtomicLong") (H1 : Fld Z h0 pa "java/util/concurrent/atomic/AtomicLong" "value" "J" (.long (0 : Int64))) (nw_pa : n0 ≤ pa) :
    MetFree l (⟨"java/util/concurrent/atomic/AtomicLong", "<init>", "(J)V"⟩ : MethodName) (head1 (Jvm.Cond.code (⟨"java/util/concurrent/atomic/AtomicLong", "<init>", "(J)V"⟩ : MethodName) jdk_2805_method_2_code 3 none :: ws) ({ frames := 2, cells := 0, slots := 0, locals := 24 } : Room)) (fun aa U => aa = #[(.ref pa), (.long pz)] ∧ Z.Warmed39 U.vm ∧ U.heap = h0) (fun _ _ _ _ _ => True) (fun _ U o U' => ∃ v L, o = .returned v ∧ QG Z pa pz h0 n0 v U'.heap L ∧ FrameEnd U o U' L ({ frames := 2, cells := 0, slots := 0, locals := 24 } : Room).cells ({ frames := 2, cells := 0, slots := 0, locals := 24 } : Room).slots) := by
  refine MetFree.of_bodySF (plainFor_of_name pnG) hisR ?_
  intro p e s m args below meth c s₁ Bd hml0 hP hK
  obtain ⟨rfl, hZ, hh⟩ := hP
  have hx := Bd.exec
  have hby := Bd.bytes
  have hlk : meth.locks = false := BodyLoose.notSynchronized Bd
  have hml : c.maxLocals = 3 := hml0
  have hown : s.vm.findClass "java/util/concurrent/atomic/AtomicLong" = some m.cls := findClass_of_methodNamed Bd.named
  have hnm := (name_of_methodNamed Bd.named Bd.method).1
  have X0 : Stand p l e ({ frames := 2, cells := 0, slots := 0, locals := 24 } : Room) s m #[(.ref pa), (.long pz)] below meth c s₁ [] 0 0 := Stand.of_body Bd
  have e0 : s₁.heap = h0 := by rw [← hh, Bd.state]; rfl
  have N0 := Fr.nil n0
  have ef : entryFrame m #[(.ref pa), (.long pz)] 3 = mkF m 0 #[rv pa, .val (.long pz), .second] [] := by first | (simp [entryFrame, mkF, argsToLocals, Value.category, maxLocals]; done) | rfl
  show Way p.tables e below (KQ s (QG Z pa pz h0 n0) ({ frames := 2, cells := 0, slots := 0, locals := 24 } : Room).cells ({ frames := 2, cells := 0, slots := 0, locals := 24 } : Room).slots) (s₁.setTop (entryFrame m #[(.ref pa), (.long pz)] 3))
  rw [ef]
  refine Way.by (fun _ k => XS.aloadN X0.here hx rfl (hb hby dG_0) rfl rfl k) ?_
  show Way _ _ _ _ (s₁.setTop (mkF m 1 #[rv pa, .val (.long pz), .second] [(.ref pa)]))
  obtain ⟨_, _, ⟨T1, L3, k4, n5⟩, -, X2, ⟨Lc6, hQ7, l8, y9, z10⟩, st11⟩ := X0.specialBack hx (y := (⟨"java/lang/Number", "<init>", "()V"⟩ : MethodName)) rfl hown (mvT hZ (tw hw 60 rfl)) (mvT hZ (tw hw 40 rfl)) (mvT hZ (tw hw 44 rfl)) (by decide) (backOf (W := 0) (rmU l Z a0 hw [] pa h0 n0 Z0 ) hZ (tw hw 44 rfl) (tw hw 43 rfl) (by decide) (by decide)) (g := (mkF m 1 #[rv pa, .val (.long pz), .second] [(.ref pa)])) rfl (by rw [hml]; rfl) (Steps.refl _) (a := pa) (argsL := []) (rest := []) (lenOf pdU rfl) rfl (by show 2 * 0 + _ ≤ _; exact Nat.le_of_eq rfl) (hb hby dG_1) (fun _ _ => ⟨rfl, e0, (Nat.le_of_ble_eq_true rfl), (Nat.le_of_ble_eq_true rfl)⟩)
  dsimp only [Pt.U, Pt.locs, Pt.cells, Pt.slots] at X2 l8 y9 z10 st11 hQ7
  subst l8 y9 z10
  obtain ⟨rfl, N17, e13⟩ := hQ7
  have N12 := Fr.app N0 N17
  refine Way.to st11 ?_
  show Way _ _ _ _ (T1.setTop (mkF m 4 #[rv pa, .val (.long pz), .second] []))
  refine Way.by (fun _ k => XS.aloadN X2.here hx rfl (hb hby dG_4) rfl rfl k) ?_
  show Way _ _ _ _ (T1.setTop (mkF m 5 #[rv pa, .val (.long pz), .second] [(.ref pa)]))
  refine Way.by (fun _ k => XT.lloadN X2.here hx rfl (hb hby dG_5) rfl k) ?_
  show Way _ _ _ _ (T1.setTop (mkF m 6 #[rv pa, .val (.long pz), .second] [(.long pz), (.ref pa)]))
  obtain ⟨T19, h20, X21, e22, W23, st24⟩ := putF X2 hx hZ hown (host := "") (Or.inl (tw hw 62 rfl)) Via.refl e13 H1 H0 (Or.inl (tw hw 63 rfl)) (tw hw 55 rfl) (ty := .long) (by decide) rfl rfl (g := (mkF m 6 #[rv pa, .val (.long pz), .second] [(.long pz), (.ref pa)])) rfl rfl (hb hby dG_6)
  have N25 := Fr.snoc X21 N12 nw_pa
  have E26 := Exa.wr W23 H0
  have F27 : Fld Z h20 pa "java/util/concurrent/atomic/AtomicLong" "value" "J" (.long pz) := H1.same W23
  have Z28 : n0 ≤ h20.size := by rw [W23.size]; exact Z0
  have K29 := (Keep.refl h0 [pa]).wr W23 (Or.inl (List.mem_of_getElem? (i := 0) rfl))
  have hz30 : h0.size ≤ h20.size := by rw [W23.size]; exact (Nat.le_refl h0.size)
  refine Way.by st24 ?_
  show Way _ _ _ _ (T19.setTop (mkF m 9 #[rv pa, .val (.long pz), .second] []))
  refine Way.ret (v := none) X21 hlk (fun _ => rfl) (fun fs hr => X21.returnOut hx Bd.returns (hb hby dG_9) hr) ?_ (by decide) (by decide)
  show QG Z pa pz h0 n0 _ T19.heap _
  rw [e22]
  exact ⟨rfl, N25, K29, E26, F27⟩
def QT (Z : State) (pa : Addr) (pl : Addr) (pz : Int64) (h0 : Heap) (n0 : Nat) (v : Option Value) (h : Heap) (L : List Loc) : Prop := v = none ∧ Fr n0 L ∧ Keep h0 h [pa] ∧ Exa Z h pa "com/example/forward_horizon/forwardhorizon/engine/Event" ∧ Fld Z h pa "com/example/forward_horizon/forwardhorizon/engine/Event" "failed" "Z" (.int 0) ∧ Fld Z h pa "com/example/forward_horizon/forwardhorizon/engine/Event" "dropped" "Z" (.int 0) ∧ Fld Z h pa "com/example/forward_horizon/forwardhorizon/engine/Event" "fields" "Ljava/util/List;" (.ref pl)
theorem dT_0 : decode prog_4_method_1_code 0 = .ok (.aload_n 0, 1) := by decide +kernel
theorem dT_1 : decode prog_4_method_1_code 1 = .ok (.invokespecial 1, 3) := by decide +kernel
theorem dT_4 : decode prog_4_method_1_code 4 = .ok (.aload_n 0, 1) := by decide +kernel
theorem dT_5 : decode prog_4_method_1_code 5 = .ok (.new 7, 3) := by decide +kernel
theorem dT_8 : decode prog_4_method_1_code 8 = .ok (.dup, 1) := by decide +kernel
theorem dT_9 : decode prog_4_method_1_code 9 = .ok (.iconst 1, 1) := by decide +kernel
theorem dT_10 : decode prog_4_method_1_code 10 = .ok (.invokespecial 9, 3) := by decide +kernel
theorem dT_13 : decode prog_4_method_1_code 13 = .ok (.putfield 12, 3) := by decide +kernel
theorem dT_16 : decode prog_4_method_1_code 16 = .ok (.aload_n 0, 1) := by decide +kernel
theorem dT_17 : decode prog_4_method_1_code 17 = .ok (.aload_n 1, 1) := by decide +kernel
theorem dT_18 : decode prog_4_method_1_code 18 = .ok (.putfield 18, 3) := by decide +kernel
theorem dT_21 : decode prog_4_method_1_code 21 = .ok (.aload_n 0, 1) := by decide +kernel
theorem dT_22 : decode prog_4_method_1_code 22 = .ok (.lload_n 2, 1) := by decide +kernel
theorem dT_23 : decode prog_4_method_1_code 23 = .ok (.putfield 22, 3) := by decide +kernel
theorem dT_26 : decode prog_4_method_1_code 26 = .ok (.aload_n 0, 1) := by decide +kernel
theorem dT_27 : decode prog_4_method_1_code 27 = .ok (.new 26, 3) := by decide +kernel
theorem dT_30 : decode prog_4_method_1_code 30 = .ok (.dup, 1) := by decide +kernel
theorem dT_31 : decode prog_4_method_1_code 31 = .ok (.lload_n 2, 1) := by decide +kernel
theorem dT_32 : decode prog_4_method_1_code 32 = .ok (.invokespecial 28, 3) := by decide +kernel
theorem dT_35 : decode prog_4_method_1_code 35 = .ok (.putfield 31, 3) := by decide +kernel
theorem dT_38 : decode prog_4_method_1_code 38 = .ok (.return_, 1) := by decide +kernel
theorem pnT : plainName "com/example/forward_horizon/forwardhorizon/engine/Event" = true := by first | (simp [plainName, overriddenIn]; done) | decide +kernel
theorem pdT : parseMethodDescriptor "(Ljava/util/List;J)V" = some ⟨[(.object "java/util/List"), .long], none⟩ := by decide +kernel
set_option maxRecDepth 65536 in
set_option maxHeartbeats 40000000 in
theorem rmT (l : Launch) (Z : State) (a0 : Array Value) (hw : ∀ d ∈ tables_1, d.before a0 Z = true) (ws : List Jvm.Cond) (pa : Addr) (pl : Addr) (pz : Int64) (h0 : Heap) (n0 : Nat) (Z0 : n0 ≤ h0.size) (H0 : Exa Z h0 pa "com/example/forward_horizon/forwardhorizon/engine/Event") (H1 : Fld Z h0 pa "com/example/forward_horizon/forwardhorizon/engine/Event" "holds" "Ljava/util/concurrent/atomic/AtomicInteger;" .null) (H2 : Fld Z h0 pa "com/example/forward_horizon/forwardhorizon/engine/Event" "fields" "Ljava/util/List;" .null) (H3 : Fld Z h0 pa "com/example/forward_horizon/forwardhorizon/engine/Event" "releaseNanos" "J" (.long (0 : Int64))) (H4 : Fld Z h0 pa "com/example/forward_horizon/forwardhorizon/engine/Event" "lastEndNanos" "Ljava/util/concurrent/atomic/AtomicLong;" .null) (H5 : Fld Z h0 pa "com/example/forward_horizon/forwardhorizon/engine/Event" "failed" "Z" (.int 0)) (H6 : Fld Z h0 pa "com/example/forward_horizon/forwardhorizon/engine/Event" "dropped" "Z" (.int 0)) (nw_pa : n0 ≤ pa) :
    MetFree l (⟨"com/example/forward_horizon/forwardhorizon/engine/Event", "<init>", "(Ljava/util/List;J)V"⟩ : MethodName) (head1 (Jvm.Cond.code (⟨"com/example/forward_horizon/forwardhorizon/engine/Event", "<init>", "(Ljava/util/List;J)V"⟩ : MethodName) prog_4_method_1_code 4 none :: ws) ({ frames := 3, cells := 2, slots := 2, locals := 40 } : Room)) (fun aa U => aa = #[(.ref pa), (.ref pl), (.long pz)] ∧ Z.Warmed39 U.vm ∧ U.heap = h0) (fun _ _ _ _ _ => True) (fun _ U o U' => ∃ v L, o = .returned v ∧ QT Z pa pl pz h0 n0 v U'.heap L ∧ FrameEnd U o U' L ({ frames := 3, cells := 2, slots := 2, locals := 40 } : Room).cells ({ frames := 3, cells := 2, slots := 2, locals := 40 } : Room).slots) := by
  refine MetFree.of_bodySF (plainFor_of_name pnT) hisR ?_
  intro p e s m args below meth c s₁ Bd hml0 hP hK
  obtain ⟨rfl, hZ, hh⟩ := hP
  have hx := Bd.exec
  have hby := Bd.bytes
  have hlk : meth.locks = false := BodyLoose.notSynchronized Bd
  have hml : c.maxLocals = 4 := hml0
  have hown : s.vm.findClass "com/example/forward_horizon/forwardhorizon/engine/Event" = some m.cls := findClass_of_methodNamed Bd.named
  have hnm := (name_of_methodNamed Bd.named Bd.method).1
  have X0 : Stand p l e ({ frames := 3, cells := 2, slots := 2, locals := 40 } : Room) s m #[(.ref pa), (.ref pl), (.long pz)] below meth c s₁ [] 0 0 := Stand.of_body Bd
  have e0 : s₁.heap = h0 := by rw [← hh, Bd.state]; rfl
  have N0 := Fr.nil n0
  have ef : entryFrame m #[(.ref pa), (.ref pl), (.long pz)] 4 = mkF m 0 #[rv pa, rv pl, .val (.long pz), .second] [] := by first | (simp [entryFrame, mkF, argsToLocals, Value.category, maxLocals]; done) | rfl
  show Way p.tables e below (KQ s (QT Z pa pl pz h0 n0) ({ frames := 3, cells := 2, slots := 2, locals := 40 } : Room).cells ({ frames := 3, cells := 2, slots := 2, locals := 40 } : Room).slots) (s₁.setTop (entryFrame m #[(.ref pa), (.ref pl), (.long pz)] 4))
  rw [ef]
  refine Way.by (fun _ k => XS.aloadN X0.here hx rfl (hb hby dT_0) rfl rfl k) ?_
  show Way _ _ _ _ (s₁.setTop (mkF m 1 #[rv pa, rv pl, .val (.long pz), .second] [(.ref pa)]))
  obtain ⟨T1, X2, e3, st4⟩ := initO X0 hx hZ hown (tw hw 32 rfl) (tw hw 22 rfl) (tw hw 23 rfl) e0 (g := (mkF m 1 #[rv pa, rv pl, .val (.long pz), .second] [(.ref pa)])) rfl (by rw [hml]; rfl) rfl (hb hby dT_1) (by decide) (W := 0) (by show 2 * 0 + _ ≤ _; exact Nat.le_of_eq rfl) (by decide)
  refine Way.by st4 ?_
  show Way _ _ _ _ (T1.setTop (mkF m 4 #[rv pa, rv pl, .val (.long pz), .second] []))
  refine Way.by (fun _ k => XS.aloadN X2.here hx rfl (hb hby dT_4) rfl rfl k) ?_
  show Way _ _ _ _ (T1.setTop (mkF m 5 #[rv pa, rv pl, .val (.long pz), .second] [(.ref pa)]))
  obtain ⟨T5, h6, X7, e8, E9, A10, D11, -, st12⟩ := newO X2 hx hZ hown (tw hw 33 rfl) (tw hw 34 rfl) (tw hw 35 rfl) e3 (g := (mkF m 5 #[rv pa, rv pl, .val (.long pz), .second] [(.ref pa)])) rfl (hb hby dT_5) (by decide) (by decide)
  obtain ⟨a13, g14⟩ : ∃ z, z = h0.size := ⟨_, rfl⟩
  rw [← g14] at A10 D11 st12
  have ne15 : pa ≠ a13 := Nat.ne_of_lt (Nat.lt_of_lt_of_eq H0.lt g14.symm)
  have nw16 : n0 ≤ a13 := Nat.le_trans Z0 (Nat.le_of_eq g14.symm)
  have hk17 : h0.size ≤ a13 := Nat.le_trans (Nat.le_refl h0.size) (Nat.le_of_eq g14.symm)
  have E18 := Exa.ext E9 H0
  have F19 := Fld.ext E9 H1
  have F20 := Fld.ext E9 H2
  have F21 := Fld.ext E9 H3
  have F22 := Fld.ext E9 H4
  have F23 := Fld.ext E9 H5
  have F24 := Fld.ext E9 H6
  have Z25 := Nat.le_trans Z0 E9.1
  have K26 := (Keep.refl h0 [pa]).ext E9
  have hz27 := Nat.le_trans (Nat.le_refl h0.size) E9.1
  have F28 : Fld Z h6 a13 "java/util/concurrent/atomic/AtomicInteger" "value" "I" (.int 0) := D11 (Or.inl (tw hw 47 rfl)) (ty := .int) (by decide)
  refine Way.by st12 ?_
  show Way _ _ _ _ (T5.setTop (mkF m 8 #[rv pa, rv pl, .val (.long pz), .second] [(.ref a13), (.ref pa)]))
  refine Way.by (fun _ k => XS.dup X7.here hx rfl (hb hby dT_8) rfl rfl k) ?_
  show Way _ _ _ _ (T5.setTop (mkF m 9 #[rv pa, rv pl, .val (.long pz), .second] [(.ref a13), (.ref a13), (.ref pa)]))
  refine Way.by (fun _ k => XS.iconst X7.here hx rfl (hb hby dT_9) k) ?_
  show Way _ _ _ _ (T5.setTop (mkF m 10 #[rv pa, rv pl, .val (.long pz), .second] [(.int 1), (.ref a13), (.ref a13), (.ref pa)]))
  obtain ⟨_, _, ⟨T29, L31, k32, n33⟩, -, X30, ⟨Lc34, hQ35, l36, y37, z38⟩, st39⟩ := X7.specialBack hx (y := (⟨"java/util/concurrent/atomic/AtomicInteger", "<init>", "(I)V"⟩ : MethodName)) rfl hown (mvT hZ (tw hw 36 rfl)) (mvT hZ (tw hw 37 rfl)) (mvT hZ (tw hw 38 rfl)) (by decide) (backOf (W := 2) (rmI l Z a0 hw [] a13 (1 : Int32) h6 n0 Z25 A10 F28 nw16) hZ (tw hw 38 rfl) (tw hw 35 rfl) (by decide) (by decide)) (g := (mkF m 10 #[rv pa, rv pl, .val (.long pz), .second] [(.int 1), (.ref a13), (.ref a13), (.ref pa)])) rfl (by rw [hml]; rfl) (Steps.refl _) (a := a13) (argsL := [(.int 1)]) (rest := [(.ref a13), (.ref pa)]) (lenOf pdI rfl) rfl (by show 2 * 0 + _ ≤ _; exact Nat.le_of_eq rfl) (hb hby dT_10) (fun _ _ => ⟨rfl, e8, (Nat.le_of_ble_eq_true rfl), (Nat.le_of_ble_eq_true rfl)⟩)
  dsimp only [Pt.U, Pt.locs, Pt.cells, Pt.slots] at X30 l36 y37 z38 st39 hQ35
  subst l36 y37 z38
  obtain ⟨rfl, N45, K46, F_047, F_148⟩ := hQ35
  have N40 := Fr.app N0 N45
  have E49 := E18.keep K46
  have F50 := F19.keep K46 (ninS ne15 nin0)
  have F51 := F20.keep K46 (ninS ne15 nin0)
  have F52 := F21.keep K46 (ninS ne15 nin0)
  have F53 := F22.keep K46 (ninS ne15 nin0)
  have F54 := F23.keep K46 (ninS ne15 nin0)
  have F55 := F24.keep K46 (ninS ne15 nin0)
  have E56 := A10.keep K46
  have Z57 := Nat.le_trans Z25 K46.1
  have K58 := K26.trans K46 (allS (Or.inr hk17) all0)
  have hz59 := Nat.le_trans hz27 K46.1
  refine Way.to st39 ?_
  show Way _ _ _ _ (T29.setTop (mkF m 13 #[rv pa, rv pl, .val (.long pz), .second] [(.ref a13), (.ref pa)]))
  obtain ⟨T60, h61, X62, e63, W64, st65⟩ := putF X30 hx hZ hown (host := "") (Or.inl (tw hw 48 rfl)) Via.refl rfl F50 E49 (Or.inr ⟨(tw hw 49 rfl), rfl, hnm⟩) (tw hw 1 rfl) (ty := (.object "java/util/concurrent/atomic/AtomicInteger")) (by decide) rfl rfl (g := (mkF m 13 #[rv pa, rv pl, .val (.long pz), .second] [(.ref a13), (.ref pa)])) rfl rfl (hb hby dT_13)
  have N66 := Fr.snoc X62 N40 nw_pa
  have E67 := Exa.wr W64 E49
  have F68 : Fld Z h61 pa "com/example/forward_horizon/forwardhorizon/engine/Event" "holds" "Ljava/util/concurrent/atomic/AtomicInteger;" (.ref a13) := F50.same W64
  have F69 := F51.other W64 (Or.inr (slot_ne (Or.inr (tw hw 51 rfl)) (Or.inr (tw hw 49 rfl)) (by decide) (t := (.object "java/util/List")) (t' := (.object "java/util/concurrent/atomic/AtomicInteger")) (by decide) (by decide)))
  have F70 := F52.other W64 (Or.inr (slot_ne (Or.inr (tw hw 53 rfl)) (Or.inr (tw hw 49 rfl)) (by decide) (t := .long) (t' := (.object "java/util/concurrent/atomic/AtomicInteger")) (by decide) (by decide)))
  have F71 := F53.other W64 (Or.inr (slot_ne (Or.inr (tw hw 65 rfl)) (Or.inr (tw hw 49 rfl)) (by decide) (t := (.object "java/util/concurrent/atomic/AtomicLong")) (t' := (.object "java/util/concurrent/atomic/AtomicInteger")) (by decide) (by decide)))
  have F72 := F54.other W64 (Or.inr (slot_ne (Or.inl (tw hw 72 rfl)) (Or.inr (tw hw 49 rfl)) (by decide) (t := .boolean) (t' := (.object "java/util/concurrent/atomic/AtomicInteger")) (by decide) (by decide)))
  have F73 := F55.other W64 (Or.inr (slot_ne (Or.inl (tw hw 74 rfl)) (Or.inr (tw hw 49 rfl)) (by decide) (t := .boolean) (t' := (.object "java/util/concurrent/atomic/AtomicInteger")) (by decide) (by decide)))
  have E74 := Exa.wr W64 F_047
  have F75 := F_148.other W64 (Or.inl ne15.symm)
  have Z76 : n0 ≤ h61.size := by rw [W64.size]; exact Z57
  have K77 := K58.wr W64 (Or.inl (List.mem_of_getElem? (i := 0) rfl))
  have hz78 : h0.size ≤ h61.size := by rw [W64.size]; exact hz59
  refine Way.by st65 ?_
  show Way _ _ _ _ (T60.setTop (mkF m 16 #[rv pa, rv pl, .val (.long pz), .second] []))
  refine Way.by (fun _ k => XS.aloadN X62.here hx rfl (hb hby dT_16) rfl rfl k) ?_
  show Way _ _ _ _ (T60.setTop (mkF m 17 #[rv pa, rv pl, .val (.long pz), .second] [(.ref pa)]))
  refine Way.by (fun _ k => XS.aloadN X62.here hx rfl (hb hby dT_17) rfl rfl k) ?_
  show Way _ _ _ _ (T60.setTop (mkF m 18 #[rv pa, rv pl, .val (.long pz), .second] [(.ref pl), (.ref pa)]))
  obtain ⟨T79, h80, X81, e82, W83, st84⟩ := putF X62 hx hZ hown (host := "") (Or.inl (tw hw 50 rfl)) Via.refl e63 F69 E67 (Or.inr ⟨(tw hw 51 rfl), rfl, hnm⟩) (tw hw 1 rfl) (ty := (.object "java/util/List")) (by decide) rfl rfl (g := (mkF m 18 #[rv pa, rv pl, .val (.long pz), .second] [(.ref pl), (.ref pa)])) rfl rfl (hb hby dT_18)
  have N85 := Fr.snoc X81 N66 nw_pa
  have E86 := Exa.wr W83 E67
  have F87 := F68.other W83 (Or.inr (slot_ne (Or.inr (tw hw 49 rfl)) (Or.inr (tw hw 51 rfl)) (by decide) (t := (.object "java/util/concurrent/atomic/AtomicInteger")) (t' := (.object "java/util/List")) (by decide) (by decide)))
  have F88 : Fld Z h80 pa "com/example/forward_horizon/forwardhorizon/engine/Event" "fields" "Ljava/util/List;" (.ref pl) := F69.same W83
  have F89 := F70.other W83 (Or.inr (slot_ne (Or.inr (tw hw 53 rfl)) (Or.inr (tw hw 51 rfl)) (by decide) (t := .long) (t' := (.object "java/util/List")) (by decide) (by decide)))
  have F90 := F71.other W83 (Or.inr (slot_ne (Or.inr (tw hw 65 rfl)) (Or.inr (tw hw 51 rfl)) (by decide) (t := (.object "java/util/concurrent/atomic/AtomicLong")) (t' := (.object "java/util/List")) (by decide) (by decide)))
  have F91 := F72.other W83 (Or.inr (slot_ne (Or.inl (tw hw 72 rfl)) (Or.inr (tw hw 51 rfl)) (by decide) (t := .boolean) (t' := (.object "java/util/List")) (by decide) (by decide)))
  have F92 := F73.other W83 (Or.inr (slot_ne (Or.inl (tw hw 74 rfl)) (Or.inr (tw hw 51 rfl)) (by decide) (t := .boolean) (t' := (.object "java/util/List")) (by decide) (by decide)))
  have E93 := Exa.wr W83 E74
  have F94 := F75.other W83 (Or.inl ne15.symm)
  have Z95 : n0 ≤ h80.size := by rw [W83.size]; exact Z76
  have K96 := K77.wr W83 (Or.inl (List.mem_of_getElem? (i := 0) rfl))
  have hz97 : h0.size ≤ h80.size := by rw [W83.size]; exact hz78
  refine Way.by st84 ?_
  show Way _ _ _ _ (T79.setTop (mkF m 21 #[rv pa, rv pl, .val (.long pz), .second] []))
  refine Way.by (fun _ k => XS.aloadN X81.here hx rfl (hb hby dT_21) rfl rfl k) ?_
  show Way _ _ _ _ (T79.setTop (mkF m 22 #[rv pa, rv pl, .val (.long pz), .second] [(.ref pa)]))
  refine Way.by (fun _ k => XT.lloadN X81.here hx rfl (hb hby dT_22) rfl k) ?_
  show Way _ _ _ _ (T79.setTop (mkF m 23 #[rv pa, rv pl, .val (.long pz), .second] [(.long pz), (.ref pa)]))
  obtain ⟨T98, h99, X100, e101, W102, st103⟩ := putF X81 hx hZ hown (host := "") (Or.inl (tw hw 52 rfl)) Via.refl e82 F89 E86 (Or.inr ⟨(tw hw 53 rfl), rfl, hnm⟩) (tw hw 1 rfl) (ty := .long) (by decide) rfl rfl (g := (mkF m 23 #[rv pa, rv pl, .val (.long pz), .second] [(.long pz), (.ref pa)])) rfl rfl (hb hby dT_23)
  have N104 := Fr.snoc X100 N85 nw_pa
  have E105 := Exa.wr W102 E86
  have F106 := F87.other W102 (Or.inr (slot_ne (Or.inr (tw hw 49 rfl)) (Or.inr (tw hw 53 rfl)) (by decide) (t := (.object "java/util/concurrent/atomic/AtomicInteger")) (t' := .long) (by decide) (by decide)))
  have F107 := F88.other W102 (Or.inr (slot_ne (Or.inr (tw hw 51 rfl)) (Or.inr (tw hw 53 rfl)) (by decide) (t := (.object "java/util/List")) (t' := .long) (by decide) (by decide)))
  have F108 : Fld Z h99 pa "com/example/forward_horizon/forwardhorizon/engine/Event" "releaseNanos" "J" (.long pz) := F89.same W102
  have F109 := F90.other W102 (Or.inr (slot_ne (Or.inr (tw hw 65 rfl)) (Or.inr (tw hw 53 rfl)) (by decide) (t := (.object "java/util/concurrent/atomic/AtomicLong")) (t' := .long) (by decide) (by decide)))
  have F110 := F91.other W102 (Or.inr (slot_ne (Or.inl (tw hw 72 rfl)) (Or.inr (tw hw 53 rfl)) (by decide) (t := .boolean) (t' := .long) (by decide) (by decide)))
  have F111 := F92.other W102 (Or.inr (slot_ne (Or.inl (tw hw 74 rfl)) (Or.inr (tw hw 53 rfl)) (by decide) (t := .boolean) (t' := .long) (by decide) (by decide)))
  have E112 := Exa.wr W102 E93
  have F113 := F94.other W102 (Or.inl ne15.symm)
  have Z114 : n0 ≤ h99.size := by rw [W102.size]; exact Z95
  have K115 := K96.wr W102 (Or.inl (List.mem_of_getElem? (i := 0) rfl))
  have hz116 : h0.size ≤ h99.size := by rw [W102.size]; exact hz97
  refine Way.by st103 ?_
  show Way _ _ _ _ (T98.setTop (mkF m 26 #[rv pa, rv pl, .val (.long pz), .second] []))
  refine Way.by (fun _ k => XS.aloadN X100.here hx rfl (hb hby dT_26) rfl rfl k) ?_
  show Way _ _ _ _ (T98.setTop (mkF m 27 #[rv pa, rv pl, .val (.long pz), .second] [(.ref pa)]))
  obtain ⟨T117, h118, X119, e120, E121, A122, D123, -, st124⟩ := newO X100 hx hZ hown (tw hw 54 rfl) (tw hw 55 rfl) (tw hw 56 rfl) e101 (g := (mkF m 27 #[rv pa, rv pl, .val (.long pz), .second] [(.ref pa)])) rfl (hb hby dT_27) (by decide) (by decide)
  obtain ⟨a125, g126⟩ : ∃ z, z = h99.size := ⟨_, rfl⟩
  rw [← g126] at A122 D123 st124
  have ne127 : pa ≠ a125 := Nat.ne_of_lt (Nat.lt_of_lt_of_eq E105.lt g126.symm)
  have ne128 : a13 ≠ a125 := Nat.ne_of_lt (Nat.lt_of_lt_of_eq E112.lt g126.symm)
  have nw129 : n0 ≤ a125 := Nat.le_trans Z114 (Nat.le_of_eq g126.symm)
  have hk130 : h0.size ≤ a125 := Nat.le_trans hz116 (Nat.le_of_eq g126.symm)
  have E131 := Exa.ext E121 E105
  have F132 := Fld.ext E121 F106
  have F133 := Fld.ext E121 F107
  have F134 := Fld.ext E121 F108
  have F135 := Fld.ext E121 F109
  have F136 := Fld.ext E121 F110
  have F137 := Fld.ext E121 F111
  have E138 := Exa.ext E121 E112
  have F139 := Fld.ext E121 F113
  have Z140 := Nat.le_trans Z114 E121.1
  have K141 := K115.ext E121
  have hz142 := Nat.le_trans hz116 E121.1
  have F143 : Fld Z h118 a125 "java/util/concurrent/atomic/AtomicLong" "value" "J" (.long (0 : Int64)) := D123 (Or.inl (tw hw 63 rfl)) (ty := .long) (by decide)
  refine Way.by st124 ?_
  show Way _ _ _ _ (T117.setTop (mkF m 30 #[rv pa, rv pl, .val (.long pz), .second] [(.ref a125), (.ref pa)]))
  refine Way.by (fun _ k => XS.dup X119.here hx rfl (hb hby dT_30) rfl rfl k) ?_
  show Way _ _ _ _ (T117.setTop (mkF m 31 #[rv pa, rv pl, .val (.long pz), .second] [(.ref a125), (.ref a125), (.ref pa)]))
  refine Way.by (fun _ k => XT.lloadN X119.here hx rfl (hb hby dT_31) rfl k) ?_
  show Way _ _ _ _ (T117.setTop (mkF m 32 #[rv pa, rv pl, .val (.long pz), .second] [(.long pz), (.ref a125), (.ref a125), (.ref pa)]))
  obtain ⟨_, _, ⟨T144, L146, k147, n148⟩, -, X145, ⟨Lc149, hQ150, l151, y152, z153⟩, st154⟩ := X119.specialBack hx (y := (⟨"java/util/concurrent/atomic/AtomicLong", "<init>", "(J)V"⟩ : MethodName)) rfl hown (mvT hZ (tw hw 57 rfl)) (mvT hZ (tw hw 58 rfl)) (mvT hZ (tw hw 59 rfl)) (by decide) (backOf (W := 2) (rmG l Z a0 hw [] a125 pz h118 n0 Z140 A122 F143 nw129) hZ (tw hw 59 rfl) (tw hw 56 rfl) (by decide) (by decide)) (g := (mkF m 32 #[rv pa, rv pl, .val (.long pz), .second] [(.long pz), (.ref a125), (.ref a125), (.ref pa)])) rfl (by rw [hml]; rfl) (Steps.refl _) (a := a125) (argsL := [(.long pz)]) (rest := [(.ref a125), (.ref pa)]) (lenOf pdG rfl) rfl (by show 2 * 0 + _ ≤ _; exact Nat.le_of_eq rfl) (hb hby dT_32) (fun _ _ => ⟨rfl, e120, (Nat.le_of_ble_eq_true rfl), (Nat.le_of_ble_eq_true rfl)⟩)
  dsimp only [Pt.U, Pt.locs, Pt.cells, Pt.slots] at X145 l151 y152 z153 st154 hQ150
  subst l151 y152 z153
  obtain ⟨rfl, N160, K161, F_0162, F_1163⟩ := hQ150
  have N155 := Fr.app N104 N160
  have E164 := E131.keep K161
  have F165 := F132.keep K161 (ninS ne127 nin0)
  have F166 := F133.keep K161 (ninS ne127 nin0)
  have F167 := F134.keep K161 (ninS ne127 nin0)
  have F168 := F135.keep K161 (ninS ne127 nin0)
  have F169 := F136.keep K161 (ninS ne127 nin0)
  have F170 := F137.keep K161 (ninS ne127 nin0)
  have E171 := E138.keep K161
  have F172 := F139.keep K161 (ninS ne128 nin0)
  have E173 := A122.keep K161
  have Z174 := Nat.le_trans Z140 K161.1
  have K175 := K141.trans K161 (allS (Or.inr hk130) all0)
  have hz176 := Nat.le_trans hz142 K161.1
  refine Way.to st154 ?_
  show Way _ _ _ _ (T144.setTop (mkF m 35 #[rv pa, rv pl, .val (.long pz), .second] [(.ref a125), (.ref pa)]))
  obtain ⟨T177, h178, X179, e180, W181, st182⟩ := putF X145 hx hZ hown (host := "") (Or.inl (tw hw 64 rfl)) Via.refl rfl F168 E164 (Or.inr ⟨(tw hw 65 rfl), rfl, hnm⟩) (tw hw 1 rfl) (ty := (.object "java/util/concurrent/atomic/AtomicLong")) (by decide) rfl rfl (g := (mkF m 35 #[rv pa, rv pl, .val (.long pz), .second] [(.ref a125), (.ref pa)])) rfl rfl (hb hby dT_35)
  have N183 := Fr.snoc X179 N155 nw_pa
  have E184 := Exa.wr W181 E164
  have F185 := F165.other W181 (Or.inr (slot_ne (Or.inr (tw hw 49 rfl)) (Or.inr (tw hw 65 rfl)) (by decide) (t := (.object "java/util/concurrent/atomic/AtomicInteger")) (t' := (.object "java/util/concurrent/atomic/AtomicLong")) (by decide) (by decide)))
  have F186 := F166.other W181 (Or.inr (slot_ne (Or.inr (tw hw 51 rfl)) (Or.inr (tw hw 65 rfl)) (by decide) (t := (.object "java/util/List")) (t' := (.object "java/util/concurrent/atomic/AtomicLong")) (by decide) (by decide)))
  have F187 := F167.other W181 (Or.inr (slot_ne (Or.inr (tw hw 53 rfl)) (Or.inr (tw hw 65 rfl)) (by decide) (t := .long) (t' := (.object "java/util/concurrent/atomic/AtomicLong")) (by decide) (by decide)))
  have F188 : Fld Z h178 pa "com/example/forward_horizon/forwardhorizon/engine/Event" "lastEndNanos" "Ljava/util/concurrent/atomic/AtomicLong;" (.ref a125) := F168.same W181
  have F189 := F169.other W181 (Or.inr (slot_ne (Or.inl (tw hw 72 rfl)) (Or.inr (tw hw 65 rfl)) (by decide) (t := .boolean) (t' := (.object "java/util/concurrent/atomic/AtomicLong")) (by decide) (by decide)))
  have F190 := F170.other W181 (Or.inr (slot_ne (Or.inl (tw hw 74 rfl)) (Or.inr (tw hw 65 rfl)) (by decide) (t := .boolean) (t' := (.object "java/util/concurrent/atomic/AtomicLong")) (by decide) (by decide)))
  have E191 := Exa.wr W181 E171
  have F192 := F172.other W181 (Or.inl ne15.symm)
  have E193 := Exa.wr W181 F_0162
  have F194 := F_1163.other W181 (Or.inl ne127.symm)
  have Z195 : n0 ≤ h178.size := by rw [W181.size]; exact Z174
  have K196 := K175.wr W181 (Or.inl (List.mem_of_getElem? (i := 0) rfl))
  have hz197 : h0.size ≤ h178.size := by rw [W181.size]; exact hz176
  refine Way.by st182 ?_
  show Way _ _ _ _ (T177.setTop (mkF m 38 #[rv pa, rv pl, .val (.long pz), .second] []))
  refine Way.ret (v := none) X179 hlk (fun _ => rfl) (fun fs hr => X179.returnOut hx Bd.returns (hb hby dT_38) hr) ?_ (by decide) (by decide)
  show QT Z pa pl pz h0 n0 _ T177.heap _
  rw [e180]
  exact ⟨rfl, N183, K196, E184, F189, F190, F186⟩
def QMF (Z : State) (pa : Addr) (pf : Int32) (pd : Int32) (h0 : Heap) (n0 : Nat) (v : Option Value) (h : Heap) (L : List Loc) : Prop := v = none ∧ Fr n0 L ∧ Keep h0 h [pa] ∧ Exa Z h pa "com/example/forward_horizon/forwardhorizon/engine/Event" ∧ Fld Z h pa "com/example/forward_horizon/forwardhorizon/engine/Event" "failed" "Z" (.int 1) ∧ Fld Z h pa "com/example/forward_horizon/forwardhorizon/engine/Event" "dropped" "Z" (.int pd)
theorem dMF_0 : decode prog_4_method_5_code 0 = .ok (.aload_n 0, 1) := by decide +kernel
theorem dMF_1 : decode prog_4_method_5_code 1 = .ok (.iconst 1, 1) := by decide +kernel
theorem dMF_2 : decode prog_4_method_5_code 2 = .ok (.putfield 47, 3) := by decide +kernel
theorem dMF_5 : decode prog_4_method_5_code 5 = .ok (.return_, 1) := by decide +kernel
theorem pnMF : plainName "com/example/forward_horizon/forwardhorizon/engine/Event" = true := by first | (simp [plainName, overriddenIn]; done) | decide +kernel
theorem pdMF : parseMethodDescriptor "()V" = some ⟨[], none⟩ := by decide +kernel
set_option maxRecDepth 65536 in
set_option maxHeartbeats 40000000 in
theorem rmMF (l : Launch) (Z : State) (a0 : Array Value) (hw : ∀ d ∈ tables_1, d.before a0 Z = true) (ws : List Jvm.Cond) (pa : Addr) (pf : Int32) (pd : Int32) (h0 : Heap) (n0 : Nat) (Z0 : n0 ≤ h0.size) (H0 : Exa Z h0 pa "com/example/forward_horizon/forwardhorizon/engine/Event") (H1 : Fld Z h0 pa "com/example/forward_horizon/forwardhorizon/engine/Event" "failed" "Z" (.int pf)) (H2 : Fld Z h0 pa "com/example/forward_horizon/forwardhorizon/engine/Event" "dropped" "Z" (.int pd)) (nw_pa : n0 ≤ pa) :
    MetFree l (⟨"com/example/forward_horizon/forwardhorizon/engine/Event", "markFailed", "()V"⟩ : MethodName) (head1 (Jvm.Cond.code (⟨"com/example/forward_horizon/forwardhorizon/engine/Event", "markFailed", "()V"⟩ : MethodName) prog_4_method_5_code 1 none :: ws) ({ frames := 0, cells := 0, slots := 0, locals := 0 } : Room)) (fun aa U => aa = #[(.ref pa)] ∧ Z.Warmed39 U.vm ∧ U.heap = h0) (fun _ _ _ _ _ => True) (fun _ U o U' => ∃ v L, o = .returned v ∧ QMF Z pa pf pd h0 n0 v U'.heap L ∧ FrameEnd U o U' L ({ frames := 0, cells := 0, slots := 0, locals := 0 } : Room).cells ({ frames := 0, cells := 0, slots := 0, locals := 0 } : Room).slots) := by
  refine MetFree.of_bodySF (plainFor_of_name pnMF) hisR ?_
  intro p e s m args below meth c s₁ Bd hml0 hP hK
  obtain ⟨rfl, hZ, hh⟩ := hP
  have hx := Bd.exec
  have hby := Bd.bytes
  have hlk : meth.locks = false := BodyLoose.notSynchronized Bd
  have hml : c.maxLocals = 1 := hml0
  have hown : s.vm.findClass "com/example/forward_horizon/forwardhorizon/engine/Event" = some m.cls := findClass_of_methodNamed Bd.named
  have hnm := (name_of_methodNamed Bd.named Bd.method).1
  have X0 : Stand p l e ({ frames := 0, cells := 0, slots := 0, locals := 0 } : Room) s m #[(.ref pa)] below meth c s₁ [] 0 0 := Stand.of_body Bd
  have e0 : s₁.heap = h0 := by rw [← hh, Bd.state]; rfl
  have N0 := Fr.nil n0
  have ef : entryFrame m #[(.ref pa)] 1 = mkF m 0 #[rv pa] [] := by first | (simp [entryFrame, mkF, argsToLocals, Value.category, maxLocals]; done) | rfl
  show Way p.tables e below (KQ s (QMF Z pa pf pd h0 n0) ({ frames := 0, cells := 0, slots := 0, locals := 0 } : Room).cells ({ frames := 0, cells := 0, slots := 0, locals := 0 } : Room).slots) (s₁.setTop (entryFrame m #[(.ref pa)] 1))
  rw [ef]
  refine Way.by (fun _ k => XS.aloadN X0.here hx rfl (hb hby dMF_0) rfl rfl k) ?_
  show Way _ _ _ _ (s₁.setTop (mkF m 1 #[rv pa] [(.ref pa)]))
  refine Way.by (fun _ k => XS.iconst X0.here hx rfl (hb hby dMF_1) k) ?_
  show Way _ _ _ _ (s₁.setTop (mkF m 2 #[rv pa] [(.int 1), (.ref pa)]))
  obtain ⟨T1, h2, X3, e4, W5, st6⟩ := putF X0 hx hZ hown (host := "") (Or.inl (tw hw 71 rfl)) Via.refl e0 H1 H0 (Or.inl (tw hw 72 rfl)) (tw hw 1 rfl) (ty := .boolean) (by decide) rfl rfl (g := (mkF m 2 #[rv pa] [(.int 1), (.ref pa)])) rfl rfl (hb hby dMF_2)
  have N7 := Fr.snoc X3 N0 nw_pa
  have E8 := Exa.wr W5 H0
  have F9 : Fld Z h2 pa "com/example/forward_horizon/forwardhorizon/engine/Event" "failed" "Z" (.int 1) := H1.same W5
  have F10 := H2.other W5 (Or.inr (slot_ne (Or.inl (tw hw 74 rfl)) (Or.inl (tw hw 72 rfl)) (by decide) (t := .boolean) (t' := .boolean) (by decide) (by decide)))
  have Z11 : n0 ≤ h2.size := by rw [W5.size]; exact Z0
  have K12 := (Keep.refl h0 [pa]).wr W5 (Or.inl (List.mem_of_getElem? (i := 0) rfl))
  have hz13 : h0.size ≤ h2.size := by rw [W5.size]; exact (Nat.le_refl h0.size)
  refine Way.by st6 ?_
  show Way _ _ _ _ (T1.setTop (mkF m 5 #[rv pa] []))
  refine Way.ret (v := none) X3 hlk (fun _ => rfl) (fun fs hr => X3.returnOut hx Bd.returns (hb hby dMF_5) hr) ?_ (by decide) (by decide)
  show QMF Z pa pf pd h0 n0 _ T1.heap _
  rw [e4]
  exact ⟨rfl, N7, K12, E8, F9, F10⟩
def QMD (Z : State) (pa : Addr) (pf : Int32) (pd : Int32) (h0 : Heap) (n0 : Nat) (v : Option Value) (h : Heap) (L : List Loc) : Prop := v = none ∧ Fr n0 L ∧ Keep h0 h [pa] ∧ Exa Z h pa "com/example/forward_horizon/forwardhorizon/engine/Event" ∧ Fld Z h pa "com/example/forward_horizon/forwardhorizon/engine/Event" "failed" "Z" (.int pf) ∧ Fld Z h pa "com/example/forward_horizon/forwardhorizon/engine/Event" "dropped" "Z" (.int 1)
theorem dMD_0 : decode prog_4_method_6_code 0 = .ok (.aload_n 0, 1) := by decide +kernel
theorem dMD_1 : decode prog_4_method_6_code 1 = .ok (.iconst 1, 1) := by decide +kernel
theorem dMD_2 : decode prog_4_method_6_code 2 = .ok (.putfield 51, 3) := by decide +kernel
theorem dMD_5 : decode prog_4_method_6_code 5 = .ok (.return_, 1) := by decide +kernel
theorem pnMD : plainName "com/example/forward_horizon/forwardhorizon/engine/Event" = true := by first | (simp [plainName, overriddenIn]; done) | decide +kernel
theorem pdMD : parseMethodDescriptor "()V" = some ⟨[], none⟩ := by decide +kernel
set_option maxRecDepth 65536 in
set_option maxHeartbeats 40000000 in
theorem rmMD (l : Launch) (Z : State) (a0 : Array Value) (hw : ∀ d ∈ tables_1, d.before a0 Z = true) (ws : List Jvm.Cond) (pa : Addr) (pf : Int32) (pd : Int32) (h0 : Heap) (n0 : Nat) (Z0 : n0 ≤ h0.size) (H0 : Exa Z h0 pa "com/example/forward_horizon/forwardhorizon/engine/Event") (H1 : Fld Z h0 pa "com/example/forward_horizon/forwardhorizon/engine/Event" "failed" "Z" (.int pf)) (H2 : Fld Z h0 pa "com/example/forward_horizon/forwardhorizon/engine/Event" "dropped" "Z" (.int pd)) (nw_pa : n0 ≤ pa) :
    MetFree l (⟨"com/example/forward_horizon/forwardhorizon/engine/Event", "markDropped", "()V"⟩ : MethodName) (head1 (Jvm.Cond.code (⟨"com/example/forward_horizon/forwardhorizon/engine/Event", "markDropped", "()V"⟩ : MethodName) prog_4_method_6_code 1 none :: ws) ({ frames := 0, cells := 0, slots := 0, locals := 0 } : Room)) (fun aa U => aa = #[(.ref pa)] ∧ Z.Warmed39 U.vm ∧ U.heap = h0) (fun _ _ _ _ _ => True) (fun _ U o U' => ∃ v L, o = .returned v ∧ QMD Z pa pf pd h0 n0 v U'.heap L ∧ FrameEnd U o U' L ({ frames := 0, cells := 0, slots := 0, locals := 0 } : Room).cells ({ frames := 0, cells := 0, slots := 0, locals := 0 } : Room).slots) := by
  refine MetFree.of_bodySF (plainFor_of_name pnMD) hisR ?_
  intro p e s m args below meth c s₁ Bd hml0 hP hK
  obtain ⟨rfl, hZ, hh⟩ := hP
  have hx := Bd.exec
  have hby := Bd.bytes
  have hlk : meth.locks = false := BodyLoose.notSynchronized Bd
  have hml : c.maxLocals = 1 := hml0
  have hown : s.vm.findClass "com/example/forward_horizon/forwardhorizon/engine/Event" = some m.cls := findClass_of_methodNamed Bd.named
  have hnm := (name_of_methodNamed Bd.named Bd.method).1
  have X0 : Stand p l e ({ frames := 0, cells := 0, slots := 0, locals := 0 } : Room) s m #[(.ref pa)] below meth c s₁ [] 0 0 := Stand.of_body Bd
  have e0 : s₁.heap = h0 := by rw [← hh, Bd.state]; rfl
  have N0 := Fr.nil n0
  have ef : entryFrame m #[(.ref pa)] 1 = mkF m 0 #[rv pa] [] := by first | (simp [entryFrame, mkF, argsToLocals, Value.category, maxLocals]; done) | rfl
  show Way p.tables e below (KQ s (QMD Z pa pf pd h0 n0) ({ frames := 0, cells := 0, slots := 0, locals := 0 } : Room).cells ({ frames := 0, cells := 0, slots := 0, locals := 0 } : Room).slots) (s₁.setTop (entryFrame m #[(.ref pa)] 1))
  rw [ef]
  refine Way.by (fun _ k => XS.aloadN X0.here hx rfl (hb hby dMD_0) rfl rfl k) ?_
  show Way _ _ _ _ (s₁.setTop (mkF m 1 #[rv pa] [(.ref pa)]))
  refine Way.by (fun _ k => XS.iconst X0.here hx rfl (hb hby dMD_1) k) ?_
  show Way _ _ _ _ (s₁.setTop (mkF m 2 #[rv pa] [(.int 1), (.ref pa)]))
  obtain ⟨T1, h2, X3, e4, W5, st6⟩ := putF X0 hx hZ hown (host := "") (Or.inl (tw hw 73 rfl)) Via.refl e0 H2 H0 (Or.inl (tw hw 74 rfl)) (tw hw 1 rfl) (ty := .boolean) (by decide) rfl rfl (g := (mkF m 2 #[rv pa] [(.int 1), (.ref pa)])) rfl rfl (hb hby dMD_2)
  have N7 := Fr.snoc X3 N0 nw_pa
  have E8 := Exa.wr W5 H0
  have F9 := H1.other W5 (Or.inr (slot_ne (Or.inl (tw hw 72 rfl)) (Or.inl (tw hw 74 rfl)) (by decide) (t := .boolean) (t' := .boolean) (by decide) (by decide)))
  have F10 : Fld Z h2 pa "com/example/forward_horizon/forwardhorizon/engine/Event" "dropped" "Z" (.int 1) := H2.same W5
  have Z11 : n0 ≤ h2.size := by rw [W5.size]; exact Z0
  have K12 := (Keep.refl h0 [pa]).wr W5 (Or.inl (List.mem_of_getElem? (i := 0) rfl))
  have hz13 : h0.size ≤ h2.size := by rw [W5.size]; exact (Nat.le_refl h0.size)
  refine Way.by st6 ?_
  show Way _ _ _ _ (T1.setTop (mkF m 5 #[rv pa] []))
  refine Way.ret (v := none) X3 hlk (fun _ => rfl) (fun fs hr => X3.returnOut hx Bd.returns (hb hby dMD_5) hr) ?_ (by decide) (by decide)
  show QMD Z pa pf pd h0 n0 _ T1.heap _
  rw [e4]
  exact ⟨rfl, N7, K12, E8, F9, F10⟩
def QOU (Z : State) (pa : Addr) (pf : Int32) (pd : Int32) (pr : Addr) (uPROCESSED : Addr) (uFAILED : Addr) (uDROPPED : Addr) (h0 : Heap) (n0 : Nat) (v : Option Value) (h : Heap) (L : List Loc) : Prop := v = some (.ref pr) ∧ Fr n0 L ∧ h = h0
theorem dOU_0 : decode prog_4_method_9_code 0 = .ok (.aload_n 0, 1) := by decide +kernel
theorem dOU_1 : decode prog_4_method_9_code 1 = .ok (.getfield 47, 3) := by decide +kernel
theorem dOU_4 : decode prog_4_method_9_code 4 = .ok (.ifCond .eq 7, 3) := by decide +kernel
theorem dOU_7 : decode prog_4_method_9_code 7 = .ok (.getstatic 68, 3) := by decide +kernel
theorem dOU_10 : decode prog_4_method_9_code 10 = .ok (.areturn, 1) := by decide +kernel
theorem dOU_11 : decode prog_4_method_9_code 11 = .ok (.aload_n 0, 1) := by decide +kernel
theorem dOU_12 : decode prog_4_method_9_code 12 = .ok (.getfield 51, 3) := by decide +kernel
theorem dOU_15 : decode prog_4_method_9_code 15 = .ok (.ifCond .eq 9, 3) := by decide +kernel
theorem dOU_18 : decode prog_4_method_9_code 18 = .ok (.getstatic 74, 3) := by decide +kernel
theorem dOU_21 : decode prog_4_method_9_code 21 = .ok (.goto 6, 3) := by decide +kernel
theorem dOU_24 : decode prog_4_method_9_code 24 = .ok (.getstatic 77, 3) := by decide +kernel
theorem dOU_27 : decode prog_4_method_9_code 27 = .ok (.areturn, 1) := by decide +kernel
theorem pnOU : plainName "com/example/forward_horizon/forwardhorizon/engine/Event" = true := by first | (simp [plainName, overriddenIn]; done) | decide +kernel
theorem pdOU : parseMethodDescriptor "()Lcom/example/forward_horizon/forwardhorizon/engine/Outcome;" = some ⟨[], some (.object "com/example/forward_horizon/forwardhorizon/engine/Outcome")⟩ := by decide +kernel
set_option maxRecDepth 65536 in
set_option maxHeartbeats 40000000 in
theorem rmOU (l : Launch) (Z : State) (a0 : Array Value) (hw : ∀ d ∈ tables_1, d.before a0 Z = true) (ws : List Jvm.Cond) (pa : Addr) (pf : Int32) (pd : Int32) (pr : Addr) (uPROCESSED : Addr) (uFAILED : Addr) (uDROPPED : Addr) (h0 : Heap) (n0 : Nat) (Z0 : n0 ≤ h0.size) (H0 : Fld Z h0 pa "com/example/forward_horizon/forwardhorizon/engine/Event" "failed" "Z" (.int pf)) (H1 : Fld Z h0 pa "com/example/forward_horizon/forwardhorizon/engine/Event" "dropped" "Z" (.int pd)) (hr : pr = if pf = 0 then (if pd = 0 then uPROCESSED else uDROPPED) else uFAILED) (O0 : Old Z n0 h0) (SPROCESSED : Sta Z Z.heap "com/example/forward_horizon/forwardhorizon/engine/Outcome" "PROCESSED" "Lcom/example/forward_horizon/forwardhorizon/engine/Outcome;" (.ref uPROCESSED)) (SFAILED : Sta Z Z.heap "com/example/forward_horizon/forwardhorizon/engine/Outcome" "FAILED" "Lcom/example/forward_horizon/forwardhorizon/engine/Outcome;" (.ref uFAILED)) (SDROPPED : Sta Z Z.heap "com/example/forward_horizon/forwardhorizon/engine/Outcome" "DROPPED" "Lcom/example/forward_horizon/forwardhorizon/engine/Outcome;" (.ref uDROPPED)) :
    MetFree l (⟨"com/example/forward_horizon/forwardhorizon/engine/Event", "outcome", "()Lcom/example/forward_horizon/forwardhorizon/engine/Outcome;"⟩ : MethodName) (head1 (Jvm.Cond.code (⟨"com/example/forward_horizon/forwardhorizon/engine/Event", "outcome", "()Lcom/example/forward_horizon/forwardhorizon/engine/Outcome;"⟩ : MethodName) prog_4_method_9_code 1 (some (.object "com/example/forward_horizon/forwardhorizon/engine/Outcome")) :: ws) ({ frames := 0, cells := 0, slots := 0, locals := 0 } : Room)) (fun aa U => aa = #[(.ref pa)] ∧ Z.Warmed39 U.vm ∧ U.heap = h0) (fun _ _ _ _ _ => True) (fun _ U o U' => ∃ v L, o = .returned v ∧ QOU Z pa pf pd pr uPROCESSED uFAILED uDROPPED h0 n0 v U'.heap L ∧ FrameEnd U o U' L ({ frames := 0, cells := 0, slots := 0, locals := 0 } : Room).cells ({ frames := 0, cells := 0, slots := 0, locals := 0 } : Room).slots) := by
  refine MetFree.of_bodySF (plainFor_of_name pnOU) hisR ?_
  intro p e s m args below meth c s₁ Bd hml0 hP hK
  obtain ⟨rfl, hZ, hh⟩ := hP
  have hx := Bd.exec
  have hby := Bd.bytes
  have hlk : meth.locks = false := BodyLoose.notSynchronized Bd
  have hml : c.maxLocals = 1 := hml0
  have hown : s.vm.findClass "com/example/forward_horizon/forwardhorizon/engine/Event" = some m.cls := findClass_of_methodNamed Bd.named
  have hnm := (name_of_methodNamed Bd.named Bd.method).1
  have X0 : Stand p l e ({ frames := 0, cells := 0, slots := 0, locals := 0 } : Room) s m #[(.ref pa)] below meth c s₁ [] 0 0 := Stand.of_body Bd
  have e0 : s₁.heap = h0 := by rw [← hh, Bd.state]; rfl
  have N0 := Fr.nil n0
  have ef : entryFrame m #[(.ref pa)] 1 = mkF m 0 #[rv pa] [] := by first | (simp [entryFrame, mkF, argsToLocals, Value.category, maxLocals]; done) | rfl
  show Way p.tables e below (KQ s (QOU Z pa pf pd pr uPROCESSED uFAILED uDROPPED h0 n0) ({ frames := 0, cells := 0, slots := 0, locals := 0 } : Room).cells ({ frames := 0, cells := 0, slots := 0, locals := 0 } : Room).slots) (s₁.setTop (entryFrame m #[(.ref pa)] 1))
  rw [ef]
  refine Way.by (fun _ k => XS.aloadN X0.here hx rfl (hb hby dOU_0) rfl rfl k) ?_
  show Way _ _ _ _ (s₁.setTop (mkF m 1 #[rv pa] [(.ref pa)]))
  obtain ⟨T1, X2, e3, st4⟩ := getF X0 hx hZ hown (host := "") (Or.inl (tw hw 71 rfl)) Via.refl e0 H0 (g := (mkF m 1 #[rv pa] [(.ref pa)])) rfl rfl (hb hby dOU_1)
  refine Way.by st4 ?_
  show Way _ _ _ _ (T1.setTop (mkF m 4 #[rv pa] [(.int pf)]))
  by_cases hq4 : pf = (0 : Int32)
  · skip
    refine Way.by (fun _ k => XS.ifYes X2.here hx rfl (pc0 := 4) (pc' := 11) rfl (hb hby dOU_4) rfl ((if0 .eq _).trans (teq hq4).1) (by decide) (by decide) k) ?_
    show Way _ _ _ _ (T1.setTop (mkF m 11 #[rv pa] []))
    refine Way.by (fun _ k => XS.aloadN X2.here hx rfl (hb hby dOU_11) rfl rfl k) ?_
    show Way _ _ _ _ (T1.setTop (mkF m 12 #[rv pa] [(.ref pa)]))
    obtain ⟨T5, X6, e7, st8⟩ := getF X2 hx hZ hown (host := "") (Or.inl (tw hw 73 rfl)) Via.refl e3 H1 (g := (mkF m 12 #[rv pa] [(.ref pa)])) rfl rfl (hb hby dOU_12)
    refine Way.by st8 ?_
    show Way _ _ _ _ (T5.setTop (mkF m 15 #[rv pa] [(.int pd)]))
    by_cases hq15 : pd = (0 : Int32)
    · skip
      refine Way.by (fun _ k => XS.ifYes X6.here hx rfl (pc0 := 15) (pc' := 24) rfl (hb hby dOU_15) rfl ((if0 .eq _).trans (teq hq15).1) (by decide) (by decide) k) ?_
      show Way _ _ _ _ (T5.setTop (mkF m 24 #[rv pa] []))
      obtain ⟨T9, X10, e11, st12⟩ := getS X6 hx hZ hown (host := "") (tw hw 75 rfl) Via.refl e7 (Sta.ext O0.2 SPROCESSED) (g := (mkF m 24 #[rv pa] [])) rfl (hb hby dOU_24)
      refine Way.by st12 ?_
      show Way _ _ _ _ (T9.setTop (mkF m 27 #[rv pa] [(.ref uPROCESSED)]))
      refine Way.ret (v := (some (.ref uPROCESSED))) X10 hlk (fun h => by rw [Bd.returns] at h; cases h) (fun fs hr => retOut X10 hx Bd.returns rfl (Or.inr (Or.inr (Or.inr (Or.inr ⟨rfl, rfl, rfl⟩)))) (hb hby dOU_27) hr) ?_ (by decide) (by decide)
      show QOU Z pa pf pd pr uPROCESSED uFAILED uDROPPED h0 n0 _ T9.heap _
      rw [e11]
      exact ⟨by rw [hr]; simp [hq4, hq15], N0, rfl⟩
    · skip
      refine Way.by (fun _ k => XS.ifNo X6.here hx rfl (hb hby dOU_15) rfl ((if0 .eq _).trans (feq hq15).1) k) ?_
      show Way _ _ _ _ (T5.setTop (mkF m 18 #[rv pa] []))
      obtain ⟨T13, X14, e15, st16⟩ := getS X6 hx hZ hown (host := "") (tw hw 92 rfl) Via.refl e7 (Sta.ext O0.2 SDROPPED) (g := (mkF m 18 #[rv pa] [])) rfl (hb hby dOU_18)
      refine Way.by st16 ?_
      show Way _ _ _ _ (T13.setTop (mkF m 21 #[rv pa] [(.ref uDROPPED)]))
      refine Way.by (fun _ k => XS.goto X14.here hx rfl (pc0 := 21) (pc' := 27) rfl (hb hby dOU_21) (by decide) (by decide) k) ?_
      show Way _ _ _ _ (T13.setTop (mkF m 27 #[rv pa] [(.ref uDROPPED)]))
      refine Way.ret (v := (some (.ref uDROPPED))) X14 hlk (fun h => by rw [Bd.returns] at h; cases h) (fun fs hr => retOut X14 hx Bd.returns rfl (Or.inr (Or.inr (Or.inr (Or.inr ⟨rfl, rfl, rfl⟩)))) (hb hby dOU_27) hr) ?_ (by decide) (by decide)
      show QOU Z pa pf pd pr uPROCESSED uFAILED uDROPPED h0 n0 _ T13.heap _
      rw [e15]
      exact ⟨by rw [hr]; simp [hq4, hq15], N0, rfl⟩
  · skip
    refine Way.by (fun _ k => XS.ifNo X2.here hx rfl (hb hby dOU_4) rfl ((if0 .eq _).trans (feq hq4).1) k) ?_
    show Way _ _ _ _ (T1.setTop (mkF m 7 #[rv pa] []))
    obtain ⟨T17, X18, e19, st20⟩ := getS X2 hx hZ hown (host := "") (tw hw 84 rfl) Via.refl e3 (Sta.ext O0.2 SFAILED) (g := (mkF m 7 #[rv pa] [])) rfl (hb hby dOU_7)
    refine Way.by st20 ?_
    show Way _ _ _ _ (T17.setTop (mkF m 10 #[rv pa] [(.ref uFAILED)]))
    refine Way.ret (v := (some (.ref uFAILED))) X18 hlk (fun h => by rw [Bd.returns] at h; cases h) (fun fs hr => retOut X18 hx Bd.returns rfl (Or.inr (Or.inr (Or.inr (Or.inr ⟨rfl, rfl, rfl⟩)))) (hb hby dOU_10) hr) ?_ (by decide) (by decide)
    show QOU Z pa pf pd pr uPROCESSED uFAILED uDROPPED h0 n0 _ T17.heap _
    rw [e19]
    exact ⟨by rw [hr]; simp [hq4], N0, rfl⟩
def Q0 (n0 : Nat) (v : Option Value) (h : Heap) (L : List Loc) : Prop := v = some (.int 1) ∧ Fr n0 L
theorem pn0 : plainName "com/example/forward_horizon/forwardhorizon/engine/EventOutcomePinLaw" = true := by first | (simp [plainName, overriddenIn]; done) | decide +kernel
theorem pd0 : parseMethodDescriptor "(IJ)Z" = some ⟨[.int, .long], some .boolean⟩ := by decide +kernel
set_option maxRecDepth 65536 in
set_option maxHeartbeats 40000000 in
theorem rm0 (l : Launch) (Z : State) (a0 : Array Value) (hw : ∀ d ∈ tables_1, d.before a0 Z = true) (ws : List Jvm.Cond) (p1 : Int32) (p2 : Int64) (de uPROCESSED uFAILED uDROPPED : Addr) (h0 : Heap) (n0 : Nat) (Z0 : n0 ≤ h0.size) (O0 : Old Z n0 h0) (SDE : Sta Z Z.heap "java/util/ArrayList" "DEFAULTCAPACITY_EMPTY_ELEMENTDATA" "[Ljava/lang/Object;" (.ref de)) (SPROCESSED : Sta Z Z.heap "com/example/forward_horizon/forwardhorizon/engine/Outcome" "PROCESSED" "Lcom/example/forward_horizon/forwardhorizon/engine/Outcome;" (.ref uPROCESSED)) (SFAILED : Sta Z Z.heap "com/example/forward_horizon/forwardhorizon/engine/Outcome" "FAILED" "Lcom/example/forward_horizon/forwardhorizon/engine/Outcome;" (.ref uFAILED)) (SDROPPED : Sta Z Z.heap "com/example/forward_horizon/forwardhorizon/engine/Outcome" "DROPPED" "Lcom/example/forward_horizon/forwardhorizon/engine/Outcome;" (.ref uDROPPED)) :
    MetFree l x (head1 (Jvm.Cond.code x code maxLocals ret :: ws) room_1) (fun aa U => aa = #[(.int p1), (.long p2)] ∧ Z.Warmed39 U.vm ∧ U.heap = h0) (fun _ _ _ _ _ => True) (fun _ U o U' => ∃ v L, o = .returned v ∧ Q0 n0 v U'.heap L ∧ FrameEnd U o U' L room_1.cells room_1.slots) := by
  refine MetFree.of_bodySF (plainFor_of_name pn0) hisR ?_
  intro p e s m args below meth c s₁ Bd hml0 hP hK
  obtain ⟨rfl, hZ, hh⟩ := hP
  have hx := Bd.exec
  have hby := Bd.bytes
  have hlk : meth.locks = false := BodyLoose.notSynchronized Bd
  have hml : c.maxLocals = 9 := hml0
  have hown : s.vm.findClass "com/example/forward_horizon/forwardhorizon/engine/EventOutcomePinLaw" = some m.cls := findClass_of_methodNamed Bd.named
  have hnm := (name_of_methodNamed Bd.named Bd.method).1
  have X0 : Stand p l e room_1 s m #[(.int p1), (.long p2)] below meth c s₁ [] 0 0 := Stand.of_body Bd
  have e0 : s₁.heap = h0 := by rw [← hh, Bd.state]; rfl
  have N0 := Fr.nil n0
  have ef : entryFrame m #[(.int p1), (.long p2)] maxLocals = mkF m 0 #[iv p1, .val (.long p2), .second, .unset, .unset, .unset, .unset, .unset, .unset] [] := by first | (simp [entryFrame, mkF, argsToLocals, Value.category, maxLocals]; done) | rfl
  show Way p.tables e below (KQ s (Q0 n0) room_1.cells room_1.slots) (s₁.setTop (entryFrame m #[(.int p1), (.long p2)] maxLocals))
  rw [ef]
  refine Way.by (fun _ k => XS.iloadN X0.here hx rfl (hb hby at_0) rfl k) ?_
  show Way _ _ _ _ (s₁.setTop (mkF m 1 #[iv p1, .val (.long p2), .second, .unset, .unset, .unset, .unset, .unset, .unset] [(.int p1)]))
  refine Way.by (fun _ k => XS.iconst X0.here hx rfl (hb hby at_1) k) ?_
  show Way _ _ _ _ (s₁.setTop (mkF m 2 #[iv p1, .val (.long p2), .second, .unset, .unset, .unset, .unset, .unset, .unset] [(.int 1), (.int p1)]))
  refine Way.by (fun _ k => XS.iand X0.here hx rfl (hb hby at_2) rfl k) ?_
  show Way _ _ _ _ (s₁.setTop (mkF m 3 #[iv p1, .val (.long p2), .second, .unset, .unset, .unset, .unset, .unset, .unset] [(.int (p1 &&& (1 : Int32)))]))
  by_cases b1 : (p1 &&& (1 : Int32)) = (0 : Int32)
  · skip
    refine Way.by (fun _ k => XS.ifYes X0.here hx rfl (pc0 := 3) (pc' := 10) rfl (hb hby at_3) rfl ((if0 .eq _).trans (teq b1).1) (by decide) (by decide) k) ?_
    show Way _ _ _ _ (s₁.setTop (mkF m 10 #[iv p1, .val (.long p2), .second, .unset, .unset, .unset, .unset, .unset, .unset] []))
    refine Way.by (fun _ k => XS.iconst X0.here hx rfl (hb hby at_10) k) ?_
    show Way _ _ _ _ (s₁.setTop (mkF m 11 #[iv p1, .val (.long p2), .second, .unset, .unset, .unset, .unset, .unset, .unset] [(.int 0)]))
    refine Way.by (fun _ k => XS.istoreN X0.here hx rfl (hb hby at_11) rfl (l' := #[iv p1, .val (.long p2), .second, iv 0, .unset, .unset, .unset, .unset, .unset]) rfl k) ?_
    show Way _ _ _ _ (s₁.setTop (mkF m 12 #[iv p1, .val (.long p2), .second, iv 0, .unset, .unset, .unset, .unset, .unset] []))
    refine Way.by (fun _ k => XS.iloadN X0.here hx rfl (hb hby at_12) rfl k) ?_
    show Way _ _ _ _ (s₁.setTop (mkF m 13 #[iv p1, .val (.long p2), .second, iv 0, .unset, .unset, .unset, .unset, .unset] [(.int p1)]))
    refine Way.by (fun _ k => XS.iconst X0.here hx rfl (hb hby at_13) k) ?_
    show Way _ _ _ _ (s₁.setTop (mkF m 14 #[iv p1, .val (.long p2), .second, iv 0, .unset, .unset, .unset, .unset, .unset] [(.int 2), (.int p1)]))
    refine Way.by (fun _ k => XS.iand X0.here hx rfl (hb hby at_14) rfl k) ?_
    show Way _ _ _ _ (s₁.setTop (mkF m 15 #[iv p1, .val (.long p2), .second, iv 0, .unset, .unset, .unset, .unset, .unset] [(.int (p1 &&& (2 : Int32)))]))
    by_cases b2 : (p1 &&& (2 : Int32)) = (0 : Int32)
    · skip
      refine Way.by (fun _ k => XS.ifYes X0.here hx rfl (pc0 := 15) (pc' := 22) rfl (hb hby at_15) rfl ((if0 .eq _).trans (teq b2).1) (by decide) (by decide) k) ?_
      show Way _ _ _ _ (s₁.setTop (mkF m 22 #[iv p1, .val (.long p2), .second, iv 0, .unset, .unset, .unset, .unset, .unset] []))
      refine Way.by (fun _ k => XS.iconst X0.here hx rfl (hb hby at_22) k) ?_
      show Way _ _ _ _ (s₁.setTop (mkF m 23 #[iv p1, .val (.long p2), .second, iv 0, .unset, .unset, .unset, .unset, .unset] [(.int 0)]))
      refine Way.by (fun _ k => XS.istore X0.here hx rfl (hb hby at_23) rfl (l' := #[iv p1, .val (.long p2), .second, iv 0, iv 0, .unset, .unset, .unset, .unset]) rfl k) ?_
      show Way _ _ _ _ (s₁.setTop (mkF m 25 #[iv p1, .val (.long p2), .second, iv 0, iv 0, .unset, .unset, .unset, .unset] []))
      refine Way.by (fun _ k => XS.iloadN X0.here hx rfl (hb hby at_25) rfl k) ?_
      show Way _ _ _ _ (s₁.setTop (mkF m 26 #[iv p1, .val (.long p2), .second, iv 0, iv 0, .unset, .unset, .unset, .unset] [(.int p1)]))
      refine Way.by (fun _ k => XS.iconst X0.here hx rfl (hb hby at_26) k) ?_
      show Way _ _ _ _ (s₁.setTop (mkF m 27 #[iv p1, .val (.long p2), .second, iv 0, iv 0, .unset, .unset, .unset, .unset] [(.int 4), (.int p1)]))
      refine Way.by (fun _ k => XS.iand X0.here hx rfl (hb hby at_27) rfl k) ?_
      show Way _ _ _ _ (s₁.setTop (mkF m 28 #[iv p1, .val (.long p2), .second, iv 0, iv 0, .unset, .unset, .unset, .unset] [(.int (p1 &&& (4 : Int32)))]))
      by_cases b3 : (p1 &&& (4 : Int32)) = (0 : Int32)
      · skip
        refine Way.by (fun _ k => XS.ifYes X0.here hx rfl (pc0 := 28) (pc' := 35) rfl (hb hby at_28) rfl ((if0 .eq _).trans (teq b3).1) (by decide) (by decide) k) ?_
        show Way _ _ _ _ (s₁.setTop (mkF m 35 #[iv p1, .val (.long p2), .second, iv 0, iv 0, .unset, .unset, .unset, .unset] []))
        refine Way.by (fun _ k => XS.iconst X0.here hx rfl (hb hby at_35) k) ?_
        show Way _ _ _ _ (s₁.setTop (mkF m 36 #[iv p1, .val (.long p2), .second, iv 0, iv 0, .unset, .unset, .unset, .unset] [(.int 0)]))
        refine Way.by (fun _ k => XS.istore X0.here hx rfl (hb hby at_36) rfl (l' := #[iv p1, .val (.long p2), .second, iv 0, iv 0, iv 0, .unset, .unset, .unset]) rfl k) ?_
        show Way _ _ _ _ (s₁.setTop (mkF m 38 #[iv p1, .val (.long p2), .second, iv 0, iv 0, iv 0, .unset, .unset, .unset] []))
        obtain ⟨T4, h5, X6, e7, E8, A9, D10, -, st11⟩ := newO X0 hx hZ hown (tw hw 0 rfl) (tw hw 1 rfl) (tw hw 2 rfl) e0 (g := (mkF m 38 #[iv p1, .val (.long p2), .second, iv 0, iv 0, iv 0, .unset, .unset, .unset] [])) rfl (hb hby at_38) (by decide) (by decide)
        obtain ⟨a12, g13⟩ : ∃ z, z = h0.size := ⟨_, rfl⟩
        rw [← g13] at A9 D10 st11
        have nw14 : n0 ≤ a12 := Nat.le_trans Z0 (Nat.le_of_eq g13.symm)
        have Z15 := Nat.le_trans Z0 E8.1
        have O16 := O0.ext E8
        have F17 : Fld Z h5 a12 "com/example/forward_horizon/forwardhorizon/engine/Event" "holds" "Ljava/util/concurrent/atomic/AtomicInteger;" .null := D10 (Or.inr (tw hw 49 rfl)) (ty := (.object "java/util/concurrent/atomic/AtomicInteger")) (by decide)
        have F18 : Fld Z h5 a12 "com/example/forward_horizon/forwardhorizon/engine/Event" "fields" "Ljava/util/List;" .null := D10 (Or.inr (tw hw 51 rfl)) (ty := (.object "java/util/List")) (by decide)
        have F19 : Fld Z h5 a12 "com/example/forward_horizon/forwardhorizon/engine/Event" "releaseNanos" "J" (.long (0 : Int64)) := D10 (Or.inr (tw hw 53 rfl)) (ty := .long) (by decide)
        have F20 : Fld Z h5 a12 "com/example/forward_horizon/forwardhorizon/engine/Event" "lastEndNanos" "Ljava/util/concurrent/atomic/AtomicLong;" .null := D10 (Or.inr (tw hw 65 rfl)) (ty := (.object "java/util/concurrent/atomic/AtomicLong")) (by decide)
        have F21 : Fld Z h5 a12 "com/example/forward_horizon/forwardhorizon/engine/Event" "failed" "Z" (.int 0) := D10 (Or.inl (tw hw 72 rfl)) (ty := .boolean) (by decide)
        have F22 : Fld Z h5 a12 "com/example/forward_horizon/forwardhorizon/engine/Event" "dropped" "Z" (.int 0) := D10 (Or.inl (tw hw 74 rfl)) (ty := .boolean) (by decide)
        refine Way.by st11 ?_
        show Way _ _ _ _ (T4.setTop (mkF m 41 #[iv p1, .val (.long p2), .second, iv 0, iv 0, iv 0, .unset, .unset, .unset] [(.ref a12)]))
        refine Way.by (fun _ k => XS.dup X6.here hx rfl (hb hby at_41) rfl rfl k) ?_
        show Way _ _ _ _ (T4.setTop (mkF m 42 #[iv p1, .val (.long p2), .second, iv 0, iv 0, iv 0, .unset, .unset, .unset] [(.ref a12), (.ref a12)]))
        obtain ⟨T23, h24, X25, e26, E27, A28, D29, -, st30⟩ := newO X6 hx hZ hown (tw hw 3 rfl) (tw hw 4 rfl) (tw hw 5 rfl) e7 (g := (mkF m 42 #[iv p1, .val (.long p2), .second, iv 0, iv 0, iv 0, .unset, .unset, .unset] [(.ref a12), (.ref a12)])) rfl (hb hby at_42) (by decide) (by decide)
        obtain ⟨a31, g32⟩ : ∃ z, z = h5.size := ⟨_, rfl⟩
        rw [← g32] at A28 D29 st30
        have ne33 : a12 ≠ a31 := Nat.ne_of_lt (Nat.lt_of_lt_of_eq A9.lt g32.symm)
        have nw34 : n0 ≤ a31 := Nat.le_trans Z15 (Nat.le_of_eq g32.symm)
        have E35 := Exa.ext E27 A9
        have F36 := Fld.ext E27 F17
        have F37 := Fld.ext E27 F18
        have F38 := Fld.ext E27 F19
        have F39 := Fld.ext E27 F20
        have F40 := Fld.ext E27 F21
        have F41 := Fld.ext E27 F22
        have Z42 := Nat.le_trans Z15 E27.1
        have O43 := O16.ext E27
        have F44 : Fld Z h24 a31 "java/util/AbstractList" "modCount" "I" (.int 0) := D29 (Or.inl (tw hw 25 rfl)) (ty := .int) (by decide)
        have F45 : Fld Z h24 a31 "java/util/ArrayList" "elementData" "[Ljava/lang/Object;" .null := D29 (Or.inl (tw hw 28 rfl)) (ty := (.array (.object "java/lang/Object"))) (by decide)
        refine Way.by st30 ?_
        show Way _ _ _ _ (T23.setTop (mkF m 45 #[iv p1, .val (.long p2), .second, iv 0, iv 0, iv 0, .unset, .unset, .unset] [(.ref a31), (.ref a12), (.ref a12)]))
        refine Way.by (fun _ k => XS.dup X25.here hx rfl (hb hby at_45) rfl rfl k) ?_
        show Way _ _ _ _ (T23.setTop (mkF m 46 #[iv p1, .val (.long p2), .second, iv 0, iv 0, iv 0, .unset, .unset, .unset] [(.ref a31), (.ref a31), (.ref a12), (.ref a12)]))
        obtain ⟨_, _, ⟨T46, L48, k49, n50⟩, -, X47, ⟨Lc51, hQ52, l53, y54, z55⟩, st56⟩ := X25.specialBack hx (y := (⟨"java/util/ArrayList", "<init>", "()V"⟩ : MethodName)) rfl hown (mvT hZ (tw hw 6 rfl)) (mvT hZ (tw hw 7 rfl)) (mvT hZ (tw hw 8 rfl)) (by decide) (backOf (W := 3) (rmA0 l Z a0 hw [] a31 de h24 n0 Z42 A28 F44 F45 nw34 O43 SDE) hZ (tw hw 8 rfl) (tw hw 5 rfl) (by decide) (by decide)) (g := (mkF m 46 #[iv p1, .val (.long p2), .second, iv 0, iv 0, iv 0, .unset, .unset, .unset] [(.ref a31), (.ref a31), (.ref a12), (.ref a12)])) rfl (by rw [hml]; rfl) (Steps.refl _) (a := a31) (argsL := []) (rest := [(.ref a31), (.ref a12), (.ref a12)]) (lenOf pdA0 rfl) rfl (by show 2 * 0 + _ ≤ _; exact Nat.le_of_eq rfl) (hb hby at_46) (fun _ _ => ⟨rfl, e26, (Nat.le_of_ble_eq_true rfl), (Nat.le_of_ble_eq_true rfl)⟩)
        dsimp only [Pt.U, Pt.locs, Pt.cells, Pt.slots] at X47 l53 y54 z55 st56 hQ52
        subst l53 y54 z55
        obtain ⟨rfl, N62, K63, F_064, F_165, F_266⟩ := hQ52
        have N57 := Fr.app N0 N62
        have E67 := E35.keep K63
        have F68 := F36.keep K63 (ninS ne33 nin0)
        have F69 := F37.keep K63 (ninS ne33 nin0)
        have F70 := F38.keep K63 (ninS ne33 nin0)
        have F71 := F39.keep K63 (ninS ne33 nin0)
        have F72 := F40.keep K63 (ninS ne33 nin0)
        have F73 := F41.keep K63 (ninS ne33 nin0)
        have E74 := A28.keep K63
        have Z75 := Nat.le_trans Z42 K63.1
        have O76 := O43.keep K63 (allS nw34 all0)
        refine Way.to st56 ?_
        show Way _ _ _ _ (T46.setTop (mkF m 49 #[iv p1, .val (.long p2), .second, iv 0, iv 0, iv 0, .unset, .unset, .unset] [(.ref a31), (.ref a12), (.ref a12)]))
        refine Way.by (fun _ k => XT.lloadN X47.here hx rfl (hb hby at_49) rfl k) ?_
        show Way _ _ _ _ (T46.setTop (mkF m 50 #[iv p1, .val (.long p2), .second, iv 0, iv 0, iv 0, .unset, .unset, .unset] [(.long p2), (.ref a31), (.ref a12), (.ref a12)]))
        obtain ⟨_, _, ⟨T77, L79, k80, n81⟩, -, X78, ⟨Lc82, hQ83, l84, y85, z86⟩, st87⟩ := X47.specialBack hx (y := (⟨"com/example/forward_horizon/forwardhorizon/engine/Event", "<init>", "(Ljava/util/List;J)V"⟩ : MethodName)) rfl hown (mvT hZ (tw hw 29 rfl)) (mvT hZ (tw hw 30 rfl)) (mvT hZ (tw hw 31 rfl)) (by decide) (backOf (W := 1) (rmT l Z a0 hw [] a12 a31 p2 T46.heap n0 Z75 E67 F68 F69 F70 F71 F72 F73 nw14) hZ (tw hw 31 rfl) (tw hw 2 rfl) (by decide) (by decide)) (g := (mkF m 50 #[iv p1, .val (.long p2), .second, iv 0, iv 0, iv 0, .unset, .unset, .unset] [(.long p2), (.ref a31), (.ref a12), (.ref a12)])) rfl (by rw [hml]; rfl) (Steps.refl _) (a := a12) (argsL := [(.ref a31), (.long p2)]) (rest := [(.ref a12)]) (lenOf pdT rfl) rfl (by show 2 * 0 + _ ≤ _; exact Nat.le_of_eq rfl) (hb hby at_50) (fun _ _ => ⟨rfl, rfl, (Nat.le_of_ble_eq_true rfl), (Nat.le_of_ble_eq_true rfl)⟩)
        dsimp only [Pt.U, Pt.locs, Pt.cells, Pt.slots] at X78 l84 y85 z86 st87 hQ83
        subst l84 y85 z86
        obtain ⟨rfl, N93, K94, F_095, F_196, F_297, F_398⟩ := hQ83
        have N88 := Fr.app N57 N93
        have E99 := E67.keep K94
        have E100 := F_064.keep K94
        have F101 := F_165.keep K94 (ninS ne33.symm nin0)
        have F102 := F_266.keep K94 (ninS ne33.symm nin0)
        have Z103 := Nat.le_trans Z75 K94.1
        have O104 := O76.keep K94 (allS nw14 all0)
        refine Way.to st87 ?_
        show Way _ _ _ _ (T77.setTop (mkF m 53 #[iv p1, .val (.long p2), .second, iv 0, iv 0, iv 0, .unset, .unset, .unset] [(.ref a12)]))
        refine Way.by (fun _ k => XS.astore X78.here hx rfl (hb hby at_53) rfl rfl (l' := #[iv p1, .val (.long p2), .second, iv 0, iv 0, iv 0, rv a12, .unset, .unset]) rfl k) ?_
        show Way _ _ _ _ (T77.setTop (mkF m 55 #[iv p1, .val (.long p2), .second, iv 0, iv 0, iv 0, rv a12, .unset, .unset] []))
        refine Way.by (fun _ k => XS.iload X78.here hx rfl (hb hby at_55) rfl k) ?_
        show Way _ _ _ _ (T77.setTop (mkF m 57 #[iv p1, .val (.long p2), .second, iv 0, iv 0, iv 0, rv a12, .unset, .unset] [(.int 0)]))
        have b105 : (0 : Int32) = (0 : Int32) := by decide
        refine Way.by (fun _ k => XS.ifYes X78.here hx rfl (pc0 := 57) (pc' := 82) rfl (hb hby at_57) rfl ((if0 .eq _).trans (teq b105).1) (by decide) (by decide) k) ?_
        show Way _ _ _ _ (T77.setTop (mkF m 82 #[iv p1, .val (.long p2), .second, iv 0, iv 0, iv 0, rv a12, .unset, .unset] []))
        refine Way.by (fun _ k => XS.iloadN X78.here hx rfl (hb hby at_82) rfl k) ?_
        show Way _ _ _ _ (T77.setTop (mkF m 83 #[iv p1, .val (.long p2), .second, iv 0, iv 0, iv 0, rv a12, .unset, .unset] [(.int 0)]))
        have b106 : (0 : Int32) = (0 : Int32) := by decide
        refine Way.by (fun _ k => XS.ifYes X78.here hx rfl (pc0 := 83) (pc' := 91) rfl (hb hby at_83) rfl ((if0 .eq _).trans (teq b106).1) (by decide) (by decide) k) ?_
        show Way _ _ _ _ (T77.setTop (mkF m 91 #[iv p1, .val (.long p2), .second, iv 0, iv 0, iv 0, rv a12, .unset, .unset] []))
        refine Way.by (fun _ k => XS.iload X78.here hx rfl (hb hby at_91) rfl k) ?_
        show Way _ _ _ _ (T77.setTop (mkF m 93 #[iv p1, .val (.long p2), .second, iv 0, iv 0, iv 0, rv a12, .unset, .unset] [(.int 0)]))
        have b107 : (0 : Int32) = (0 : Int32) := by decide
        refine Way.by (fun _ k => XS.ifYes X78.here hx rfl (pc0 := 93) (pc' := 101) rfl (hb hby at_93) rfl ((if0 .eq _).trans (teq b107).1) (by decide) (by decide) k) ?_
        show Way _ _ _ _ (T77.setTop (mkF m 101 #[iv p1, .val (.long p2), .second, iv 0, iv 0, iv 0, rv a12, .unset, .unset] []))
        refine Way.by (fun _ k => XS.aload X78.here hx rfl (hb hby at_101) rfl rfl k) ?_
        show Way _ _ _ _ (T77.setTop (mkF m 103 #[iv p1, .val (.long p2), .second, iv 0, iv 0, iv 0, rv a12, .unset, .unset] [(.ref a12)]))
        obtain ⟨cq124, kq125, qa126, qb127, qc128⟩ := isOf hZ rfl F_095
        obtain ⟨_, _, ⟨T108, L110, k111, n112⟩, -, X109, ⟨Lc113, hQ114, l115, y116, z117⟩, st118⟩ := X78.virtualBack hx (y := (⟨"com/example/forward_horizon/forwardhorizon/engine/Event", "outcome", "()Lcom/example/forward_horizon/forwardhorizon/engine/Outcome;"⟩ : MethodName)) (z := (⟨"com/example/forward_horizon/forwardhorizon/engine/Event", "outcome", "()Lcom/example/forward_horizon/forwardhorizon/engine/Outcome;"⟩ : MethodName)) hown (mvT hZ (tw hw 66 rfl)) (mvT hZ (tw hw 67 rfl)) (notFace_of_selects (args := #[]) (mvT hZ (tw hw 69 rfl))) (mvT hZ (tw hw 69 rfl)) (mvT hZ (tw hw 68 rfl)) (by decide) (backOf (W := 0) (rmOU l Z a0 hw [] a12 (0 : Int32) (0 : Int32) uPROCESSED uPROCESSED uFAILED uDROPPED T77.heap n0 Z103 F_196 F_297 (by first | rfl | simp) O104 SPROCESSED SFAILED SDROPPED) hZ (tw hw 70 rfl) (tw hw 2 rfl) (by decide) (by decide)) qa126 qc128 (g := (mkF m 103 #[iv p1, .val (.long p2), .second, iv 0, iv 0, iv 0, rv a12, .unset, .unset] [(.ref a12)])) rfl (by rw [hml]; rfl) (Steps.refl _) (argsL := []) (rest := []) (lenOf pdOU rfl) rfl (by show 2 * 0 + _ ≤ _; exact Nat.le_of_eq rfl) (hb hby at_103) (fun _ _ => ⟨rfl, rfl, (Nat.le_of_ble_eq_true rfl), (Nat.le_of_ble_eq_true rfl)⟩)
        dsimp only [Pt.U, Pt.locs, Pt.cells, Pt.slots] at X109 l115 y116 z117 st118 hQ114
        subst l115 y116 z117
        obtain ⟨rfl, N129, e120⟩ := hQ114
        have N119 := Fr.app N88 N129
        refine Way.to st118 ?_
        show Way _ _ _ _ (T108.setTop (mkF m 106 #[iv p1, .val (.long p2), .second, iv 0, iv 0, iv 0, rv a12, .unset, .unset] [(.ref uPROCESSED)]))
        refine Way.by (fun _ k => XS.astore X109.here hx rfl (hb hby at_106) rfl rfl (l' := #[iv p1, .val (.long p2), .second, iv 0, iv 0, iv 0, rv a12, rv uPROCESSED, .unset]) rfl k) ?_
        show Way _ _ _ _ (T108.setTop (mkF m 108 #[iv p1, .val (.long p2), .second, iv 0, iv 0, iv 0, rv a12, rv uPROCESSED, .unset] []))
        refine Way.by (fun _ k => XS.iloadN X109.here hx rfl (hb hby at_108) rfl k) ?_
        show Way _ _ _ _ (T108.setTop (mkF m 109 #[iv p1, .val (.long p2), .second, iv 0, iv 0, iv 0, rv a12, rv uPROCESSED, .unset] [(.int 0)]))
        have b131 : (0 : Int32) = (0 : Int32) := by decide
        refine Way.by (fun _ k => XS.ifYes X109.here hx rfl (pc0 := 109) (pc' := 120) rfl (hb hby at_109) rfl ((if0 .eq _).trans (teq b131).1) (by decide) (by decide) k) ?_
        show Way _ _ _ _ (T108.setTop (mkF m 120 #[iv p1, .val (.long p2), .second, iv 0, iv 0, iv 0, rv a12, rv uPROCESSED, .unset] []))
        refine Way.by (fun _ k => XS.iload X109.here hx rfl (hb hby at_120) rfl k) ?_
        show Way _ _ _ _ (T108.setTop (mkF m 122 #[iv p1, .val (.long p2), .second, iv 0, iv 0, iv 0, rv a12, rv uPROCESSED, .unset] [(.int 0)]))
        have b132 : (0 : Int32) = (0 : Int32) := by decide
        refine Way.by (fun _ k => XS.ifYes X109.here hx rfl (pc0 := 122) (pc' := 133) rfl (hb hby at_122) rfl ((if0 .eq _).trans (teq b132).1) (by decide) (by decide) k) ?_
        show Way _ _ _ _ (T108.setTop (mkF m 133 #[iv p1, .val (.long p2), .second, iv 0, iv 0, iv 0, rv a12, rv uPROCESSED, .unset] []))
        obtain ⟨T133, X134, e135, st136⟩ := getS X109 hx hZ hown (host := "") (tw hw 78 rfl) Via.refl e120 (Sta.ext O104.2 SPROCESSED) (g := (mkF m 133 #[iv p1, .val (.long p2), .second, iv 0, iv 0, iv 0, rv a12, rv uPROCESSED, .unset] [])) rfl (hb hby at_133)
        refine Way.by st136 ?_
        show Way _ _ _ _ (T133.setTop (mkF m 136 #[iv p1, .val (.long p2), .second, iv 0, iv 0, iv 0, rv a12, rv uPROCESSED, .unset] [(.ref uPROCESSED)]))
        refine Way.by (fun _ k => XS.astore X134.here hx rfl (hb hby at_136) rfl rfl (l' := #[iv p1, .val (.long p2), .second, iv 0, iv 0, iv 0, rv a12, rv uPROCESSED, rv uPROCESSED]) rfl k) ?_
        show Way _ _ _ _ (T133.setTop (mkF m 138 #[iv p1, .val (.long p2), .second, iv 0, iv 0, iv 0, rv a12, rv uPROCESSED, rv uPROCESSED] []))
        refine Way.by (fun _ k => XS.aload X134.here hx rfl (hb hby at_138) rfl rfl k) ?_
        show Way _ _ _ _ (T133.setTop (mkF m 140 #[iv p1, .val (.long p2), .second, iv 0, iv 0, iv 0, rv a12, rv uPROCESSED, rv uPROCESSED] [(.ref uPROCESSED)]))
        refine Way.by (fun _ k => XS.aload X134.here hx rfl (hb hby at_140) rfl rfl k) ?_
        show Way _ _ _ _ (T133.setTop (mkF m 142 #[iv p1, .val (.long p2), .second, iv 0, iv 0, iv 0, rv a12, rv uPROCESSED, rv uPROCESSED] [(.ref uPROCESSED), (.ref uPROCESSED)]))
        have b137 : uPROCESSED = uPROCESSED := rfl
        refine Way.by (fun _ k => acmp X134 hx rfl rfl rfl (pc0 := 142) (pc' := 145) (same := true) rfl (hb hby at_142) rfl (by simp [b137]) (by decide) (by decide) k) ?_
        show Way _ _ _ _ (T133.setTop (mkF m 145 #[iv p1, .val (.long p2), .second, iv 0, iv 0, iv 0, rv a12, rv uPROCESSED, rv uPROCESSED] []))
        refine Way.by (fun _ k => XS.aload X134.here hx rfl (hb hby at_145) rfl rfl k) ?_
        show Way _ _ _ _ (T133.setTop (mkF m 147 #[iv p1, .val (.long p2), .second, iv 0, iv 0, iv 0, rv a12, rv uPROCESSED, rv uPROCESSED] [(.ref a12)]))
        obtain ⟨cq154, kq155, qa156, qb157, qc158⟩ := isOf hZ e135 F_095
        obtain ⟨_, _, ⟨T138, L140, k141, n142⟩, -, X139, ⟨Lc143, hQ144, l145, y146, z147⟩, st148⟩ := X134.virtualBack hx (y := (⟨"com/example/forward_horizon/forwardhorizon/engine/Event", "outcome", "()Lcom/example/forward_horizon/forwardhorizon/engine/Outcome;"⟩ : MethodName)) (z := (⟨"com/example/forward_horizon/forwardhorizon/engine/Event", "outcome", "()Lcom/example/forward_horizon/forwardhorizon/engine/Outcome;"⟩ : MethodName)) hown (mvT hZ (tw hw 66 rfl)) (mvT hZ (tw hw 67 rfl)) (notFace_of_selects (args := #[]) (mvT hZ (tw hw 69 rfl))) (mvT hZ (tw hw 69 rfl)) (mvT hZ (tw hw 68 rfl)) (by decide) (backOf (W := 0) (rmOU l Z a0 hw [] a12 (0 : Int32) (0 : Int32) uPROCESSED uPROCESSED uFAILED uDROPPED T77.heap n0 Z103 F_196 F_297 (by first | rfl | simp) O104 SPROCESSED SFAILED SDROPPED) hZ (tw hw 70 rfl) (tw hw 2 rfl) (by decide) (by decide)) qa156 qc158 (g := (mkF m 147 #[iv p1, .val (.long p2), .second, iv 0, iv 0, iv 0, rv a12, rv uPROCESSED, rv uPROCESSED] [(.ref a12)])) rfl (by rw [hml]; rfl) (Steps.refl _) (argsL := []) (rest := []) (lenOf pdOU rfl) rfl (by show 2 * 0 + _ ≤ _; exact Nat.le_of_eq rfl) (hb hby at_147) (fun _ _ => ⟨rfl, e135, (Nat.le_of_ble_eq_true rfl), (Nat.le_of_ble_eq_true rfl)⟩)
        dsimp only [Pt.U, Pt.locs, Pt.cells, Pt.slots] at X139 l145 y146 z147 st148 hQ144
        subst l145 y146 z147
        obtain ⟨rfl, N159, e150⟩ := hQ144
        have N149 := Fr.app N119 N159
        refine Way.to st148 ?_
        show Way _ _ _ _ (T138.setTop (mkF m 150 #[iv p1, .val (.long p2), .second, iv 0, iv 0, iv 0, rv a12, rv uPROCESSED, rv uPROCESSED] [(.ref uPROCESSED)]))
        refine Way.by (fun _ k => XS.aload X139.here hx rfl (hb hby at_150) rfl rfl k) ?_
        show Way _ _ _ _ (T138.setTop (mkF m 152 #[iv p1, .val (.long p2), .second, iv 0, iv 0, iv 0, rv a12, rv uPROCESSED, rv uPROCESSED] [(.ref uPROCESSED), (.ref uPROCESSED)]))
        have b161 : uPROCESSED = uPROCESSED := rfl
        refine Way.by (fun _ k => acmp X139 hx rfl rfl rfl (pc0 := 152) (pc' := 155) (same := true) rfl (hb hby at_152) rfl (by simp [b161]) (by decide) (by decide) k) ?_
        show Way _ _ _ _ (T138.setTop (mkF m 155 #[iv p1, .val (.long p2), .second, iv 0, iv 0, iv 0, rv a12, rv uPROCESSED, rv uPROCESSED] []))
        refine Way.by (fun _ k => XS.iconst X139.here hx rfl (hb hby at_155) k) ?_
        show Way _ _ _ _ (T138.setTop (mkF m 156 #[iv p1, .val (.long p2), .second, iv 0, iv 0, iv 0, rv a12, rv uPROCESSED, rv uPROCESSED] [(.int 1)]))
        refine Way.by (fun _ k => XS.goto X139.here hx rfl (pc0 := 156) (pc' := 160) rfl (hb hby at_156) (by decide) (by decide) k) ?_
        show Way _ _ _ _ (T138.setTop (mkF m 160 #[iv p1, .val (.long p2), .second, iv 0, iv 0, iv 0, rv a12, rv uPROCESSED, rv uPROCESSED] [(.int 1)]))
        refine Way.ret (v := (some (.int (nar .boolean (1 : Int32))))) X139 hlk (fun h => by rw [Bd.returns] at h; cases h) (fun fs hr => retN X139 hx (t := .boolean) Bd.returns (by simp) (hb hby at_160) hr) ?_ (by decide) (by decide)
        show Q0 n0 _ T138.heap _
        rw [e150]
        exact ⟨rfl, N149⟩
      · skip
        refine Way.by (fun _ k => XS.ifNo X0.here hx rfl (hb hby at_28) rfl ((if0 .eq _).trans (feq b3).1) k) ?_
        show Way _ _ _ _ (s₁.setTop (mkF m 31 #[iv p1, .val (.long p2), .second, iv 0, iv 0, .unset, .unset, .unset, .unset] []))
        refine Way.by (fun _ k => XS.iconst X0.here hx rfl (hb hby at_31) k) ?_
        show Way _ _ _ _ (s₁.setTop (mkF m 32 #[iv p1, .val (.long p2), .second, iv 0, iv 0, .unset, .unset, .unset, .unset] [(.int 1)]))
        refine Way.by (fun _ k => XS.goto X0.here hx rfl (pc0 := 32) (pc' := 36) rfl (hb hby at_32) (by decide) (by decide) k) ?_
        show Way _ _ _ _ (s₁.setTop (mkF m 36 #[iv p1, .val (.long p2), .second, iv 0, iv 0, .unset, .unset, .unset, .unset] [(.int 1)]))
        refine Way.by (fun _ k => XS.istore X0.here hx rfl (hb hby at_36) rfl (l' := #[iv p1, .val (.long p2), .second, iv 0, iv 0, iv 1, .unset, .unset, .unset]) rfl k) ?_
        show Way _ _ _ _ (s₁.setTop (mkF m 38 #[iv p1, .val (.long p2), .second, iv 0, iv 0, iv 1, .unset, .unset, .unset] []))
        obtain ⟨T162, h163, X164, e165, E166, A167, D168, -, st169⟩ := newO X0 hx hZ hown (tw hw 0 rfl) (tw hw 1 rfl) (tw hw 2 rfl) e0 (g := (mkF m 38 #[iv p1, .val (.long p2), .second, iv 0, iv 0, iv 1, .unset, .unset, .unset] [])) rfl (hb hby at_38) (by decide) (by decide)
        obtain ⟨a170, g171⟩ : ∃ z, z = h0.size := ⟨_, rfl⟩
        rw [← g171] at A167 D168 st169
        have nw172 : n0 ≤ a170 := Nat.le_trans Z0 (Nat.le_of_eq g171.symm)
        have Z173 := Nat.le_trans Z0 E166.1
        have O174 := O0.ext E166
        have F175 : Fld Z h163 a170 "com/example/forward_horizon/forwardhorizon/engine/Event" "holds" "Ljava/util/concurrent/atomic/AtomicInteger;" .null := D168 (Or.inr (tw hw 49 rfl)) (ty := (.object "java/util/concurrent/atomic/AtomicInteger")) (by decide)
        have F176 : Fld Z h163 a170 "com/example/forward_horizon/forwardhorizon/engine/Event" "fields" "Ljava/util/List;" .null := D168 (Or.inr (tw hw 51 rfl)) (ty := (.object "java/util/List")) (by decide)
        have F177 : Fld Z h163 a170 "com/example/forward_horizon/forwardhorizon/engine/Event" "releaseNanos" "J" (.long (0 : Int64)) := D168 (Or.inr (tw hw 53 rfl)) (ty := .long) (by decide)
        have F178 : Fld Z h163 a170 "com/example/forward_horizon/forwardhorizon/engine/Event" "lastEndNanos" "Ljava/util/concurrent/atomic/AtomicLong;" .null := D168 (Or.inr (tw hw 65 rfl)) (ty := (.object "java/util/concurrent/atomic/AtomicLong")) (by decide)
        have F179 : Fld Z h163 a170 "com/example/forward_horizon/forwardhorizon/engine/Event" "failed" "Z" (.int 0) := D168 (Or.inl (tw hw 72 rfl)) (ty := .boolean) (by decide)
        have F180 : Fld Z h163 a170 "com/example/forward_horizon/forwardhorizon/engine/Event" "dropped" "Z" (.int 0) := D168 (Or.inl (tw hw 74 rfl)) (ty := .boolean) (by decide)
        refine Way.by st169 ?_
        show Way _ _ _ _ (T162.setTop (mkF m 41 #[iv p1, .val (.long p2), .second, iv 0, iv 0, iv 1, .unset, .unset, .unset] [(.ref a170)]))
        refine Way.by (fun _ k => XS.dup X164.here hx rfl (hb hby at_41) rfl rfl k) ?_
        show Way _ _ _ _ (T162.setTop (mkF m 42 #[iv p1, .val (.long p2), .second, iv 0, iv 0, iv 1, .unset, .unset, .unset] [(.ref a170), (.ref a170)]))
        obtain ⟨T181, h182, X183, e184, E185, A186, D187, -, st188⟩ := newO X164 hx hZ hown (tw hw 3 rfl) (tw hw 4 rfl) (tw hw 5 rfl) e165 (g := (mkF m 42 #[iv p1, .val (.long p2), .second, iv 0, iv 0, iv 1, .unset, .unset, .unset] [(.ref a170), (.ref a170)])) rfl (hb hby at_42) (by decide) (by decide)
        obtain ⟨a189, g190⟩ : ∃ z, z = h163.size := ⟨_, rfl⟩
        rw [← g190] at A186 D187 st188
        have ne191 : a170 ≠ a189 := Nat.ne_of_lt (Nat.lt_of_lt_of_eq A167.lt g190.symm)
        have nw192 : n0 ≤ a189 := Nat.le_trans Z173 (Nat.le_of_eq g190.symm)
        have E193 := Exa.ext E185 A167
        have F194 := Fld.ext E185 F175
        have F195 := Fld.ext E185 F176
        have F196 := Fld.ext E185 F177
        have F197 := Fld.ext E185 F178
        have F198 := Fld.ext E185 F179
        have F199 := Fld.ext E185 F180
        have Z200 := Nat.le_trans Z173 E185.1
        have O201 := O174.ext E185
        have F202 : Fld Z h182 a189 "java/util/AbstractList" "modCount" "I" (.int 0) := D187 (Or.inl (tw hw 25 rfl)) (ty := .int) (by decide)
        have F203 : Fld Z h182 a189 "java/util/ArrayList" "elementData" "[Ljava/lang/Object;" .null := D187 (Or.inl (tw hw 28 rfl)) (ty := (.array (.object "java/lang/Object"))) (by decide)
        refine Way.by st188 ?_
        show Way _ _ _ _ (T181.setTop (mkF m 45 #[iv p1, .val (.long p2), .second, iv 0, iv 0, iv 1, .unset, .unset, .unset] [(.ref a189), (.ref a170), (.ref a170)]))
        refine Way.by (fun _ k => XS.dup X183.here hx rfl (hb hby at_45) rfl rfl k) ?_
        show Way _ _ _ _ (T181.setTop (mkF m 46 #[iv p1, .val (.long p2), .second, iv 0, iv 0, iv 1, .unset, .unset, .unset] [(.ref a189), (.ref a189), (.ref a170), (.ref a170)]))
        obtain ⟨_, _, ⟨T204, L206, k207, n208⟩, -, X205, ⟨Lc209, hQ210, l211, y212, z213⟩, st214⟩ := X183.specialBack hx (y := (⟨"java/util/ArrayList", "<init>", "()V"⟩ : MethodName)) rfl hown (mvT hZ (tw hw 6 rfl)) (mvT hZ (tw hw 7 rfl)) (mvT hZ (tw hw 8 rfl)) (by decide) (backOf (W := 3) (rmA0 l Z a0 hw [] a189 de h182 n0 Z200 A186 F202 F203 nw192 O201 SDE) hZ (tw hw 8 rfl) (tw hw 5 rfl) (by decide) (by decide)) (g := (mkF m 46 #[iv p1, .val (.long p2), .second, iv 0, iv 0, iv 1, .unset, .unset, .unset] [(.ref a189), (.ref a189), (.ref a170), (.ref a170)])) rfl (by rw [hml]; rfl) (Steps.refl _) (a := a189) (argsL := []) (rest := [(.ref a189), (.ref a170), (.ref a170)]) (lenOf pdA0 rfl) rfl (by show 2 * 0 + _ ≤ _; exact Nat.le_of_eq rfl) (hb hby at_46) (fun _ _ => ⟨rfl, e184, (Nat.le_of_ble_eq_true rfl), (Nat.le_of_ble_eq_true rfl)⟩)
        dsimp only [Pt.U, Pt.locs, Pt.cells, Pt.slots] at X205 l211 y212 z213 st214 hQ210
        subst l211 y212 z213
        obtain ⟨rfl, N220, K221, F_0222, F_1223, F_2224⟩ := hQ210
        have N215 := Fr.app N0 N220
        have E225 := E193.keep K221
        have F226 := F194.keep K221 (ninS ne191 nin0)
        have F227 := F195.keep K221 (ninS ne191 nin0)
        have F228 := F196.keep K221 (ninS ne191 nin0)
        have F229 := F197.keep K221 (ninS ne191 nin0)
        have F230 := F198.keep K221 (ninS ne191 nin0)
        have F231 := F199.keep K221 (ninS ne191 nin0)
        have E232 := A186.keep K221
        have Z233 := Nat.le_trans Z200 K221.1
        have O234 := O201.keep K221 (allS nw192 all0)
        refine Way.to st214 ?_
        show Way _ _ _ _ (T204.setTop (mkF m 49 #[iv p1, .val (.long p2), .second, iv 0, iv 0, iv 1, .unset, .unset, .unset] [(.ref a189), (.ref a170), (.ref a170)]))
        refine Way.by (fun _ k => XT.lloadN X205.here hx rfl (hb hby at_49) rfl k) ?_
        show Way _ _ _ _ (T204.setTop (mkF m 50 #[iv p1, .val (.long p2), .second, iv 0, iv 0, iv 1, .unset, .unset, .unset] [(.long p2), (.ref a189), (.ref a170), (.ref a170)]))
        obtain ⟨_, _, ⟨T235, L237, k238, n239⟩, -, X236, ⟨Lc240, hQ241, l242, y243, z244⟩, st245⟩ := X205.specialBack hx (y := (⟨"com/example/forward_horizon/forwardhorizon/engine/Event", "<init>", "(Ljava/util/List;J)V"⟩ : MethodName)) rfl hown (mvT hZ (tw hw 29 rfl)) (mvT hZ (tw hw 30 rfl)) (mvT hZ (tw hw 31 rfl)) (by decide) (backOf (W := 1) (rmT l Z a0 hw [] a170 a189 p2 T204.heap n0 Z233 E225 F226 F227 F228 F229 F230 F231 nw172) hZ (tw hw 31 rfl) (tw hw 2 rfl) (by decide) (by decide)) (g := (mkF m 50 #[iv p1, .val (.long p2), .second, iv 0, iv 0, iv 1, .unset, .unset, .unset] [(.long p2), (.ref a189), (.ref a170), (.ref a170)])) rfl (by rw [hml]; rfl) (Steps.refl _) (a := a170) (argsL := [(.ref a189), (.long p2)]) (rest := [(.ref a170)]) (lenOf pdT rfl) rfl (by show 2 * 0 + _ ≤ _; exact Nat.le_of_eq rfl) (hb hby at_50) (fun _ _ => ⟨rfl, rfl, (Nat.le_of_ble_eq_true rfl), (Nat.le_of_ble_eq_true rfl)⟩)
        dsimp only [Pt.U, Pt.locs, Pt.cells, Pt.slots] at X236 l242 y243 z244 st245 hQ241
        subst l242 y243 z244
        obtain ⟨rfl, N251, K252, F_0253, F_1254, F_2255, F_3256⟩ := hQ241
        have N246 := Fr.app N215 N251
        have E257 := E225.keep K252
        have E258 := F_0222.keep K252
        have F259 := F_1223.keep K252 (ninS ne191.symm nin0)
        have F260 := F_2224.keep K252 (ninS ne191.symm nin0)
        have Z261 := Nat.le_trans Z233 K252.1
        have O262 := O234.keep K252 (allS nw172 all0)
        refine Way.to st245 ?_
        show Way _ _ _ _ (T235.setTop (mkF m 53 #[iv p1, .val (.long p2), .second, iv 0, iv 0, iv 1, .unset, .unset, .unset] [(.ref a170)]))
        refine Way.by (fun _ k => XS.astore X236.here hx rfl (hb hby at_53) rfl rfl (l' := #[iv p1, .val (.long p2), .second, iv 0, iv 0, iv 1, rv a170, .unset, .unset]) rfl k) ?_
        show Way _ _ _ _ (T235.setTop (mkF m 55 #[iv p1, .val (.long p2), .second, iv 0, iv 0, iv 1, rv a170, .unset, .unset] []))
        refine Way.by (fun _ k => XS.iload X236.here hx rfl (hb hby at_55) rfl k) ?_
        show Way _ _ _ _ (T235.setTop (mkF m 57 #[iv p1, .val (.long p2), .second, iv 0, iv 0, iv 1, rv a170, .unset, .unset] [(.int 1)]))
        have b263 : ¬ (1 : Int32) = (0 : Int32) := by decide
        refine Way.by (fun _ k => XS.ifNo X236.here hx rfl (hb hby at_57) rfl ((if0 .eq _).trans (feq b263).1) k) ?_
        show Way _ _ _ _ (T235.setTop (mkF m 60 #[iv p1, .val (.long p2), .second, iv 0, iv 0, iv 1, rv a170, .unset, .unset] []))
        refine Way.by (fun _ k => XS.iload X236.here hx rfl (hb hby at_60) rfl k) ?_
        show Way _ _ _ _ (T235.setTop (mkF m 62 #[iv p1, .val (.long p2), .second, iv 0, iv 0, iv 1, rv a170, .unset, .unset] [(.int 0)]))
        have b264 : (0 : Int32) = (0 : Int32) := by decide
        refine Way.by (fun _ k => XS.ifYes X236.here hx rfl (pc0 := 62) (pc' := 70) rfl (hb hby at_62) rfl ((if0 .eq _).trans (teq b264).1) (by decide) (by decide) k) ?_
        show Way _ _ _ _ (T235.setTop (mkF m 70 #[iv p1, .val (.long p2), .second, iv 0, iv 0, iv 1, rv a170, .unset, .unset] []))
        refine Way.by (fun _ k => XS.iloadN X236.here hx rfl (hb hby at_70) rfl k) ?_
        show Way _ _ _ _ (T235.setTop (mkF m 71 #[iv p1, .val (.long p2), .second, iv 0, iv 0, iv 1, rv a170, .unset, .unset] [(.int 0)]))
        have b265 : (0 : Int32) = (0 : Int32) := by decide
        refine Way.by (fun _ k => XS.ifYes X236.here hx rfl (pc0 := 71) (pc' := 101) rfl (hb hby at_71) rfl ((if0 .eq _).trans (teq b265).1) (by decide) (by decide) k) ?_
        show Way _ _ _ _ (T235.setTop (mkF m 101 #[iv p1, .val (.long p2), .second, iv 0, iv 0, iv 1, rv a170, .unset, .unset] []))
        refine Way.by (fun _ k => XS.aload X236.here hx rfl (hb hby at_101) rfl rfl k) ?_
        show Way _ _ _ _ (T235.setTop (mkF m 103 #[iv p1, .val (.long p2), .second, iv 0, iv 0, iv 1, rv a170, .unset, .unset] [(.ref a170)]))
        obtain ⟨cq282, kq283, qa284, qb285, qc286⟩ := isOf hZ rfl F_0253
        obtain ⟨_, _, ⟨T266, L268, k269, n270⟩, -, X267, ⟨Lc271, hQ272, l273, y274, z275⟩, st276⟩ := X236.virtualBack hx (y := (⟨"com/example/forward_horizon/forwardhorizon/engine/Event", "outcome", "()Lcom/example/forward_horizon/forwardhorizon/engine/Outcome;"⟩ : MethodName)) (z := (⟨"com/example/forward_horizon/forwardhorizon/engine/Event", "outcome", "()Lcom/example/forward_horizon/forwardhorizon/engine/Outcome;"⟩ : MethodName)) hown (mvT hZ (tw hw 66 rfl)) (mvT hZ (tw hw 67 rfl)) (notFace_of_selects (args := #[]) (mvT hZ (tw hw 69 rfl))) (mvT hZ (tw hw 69 rfl)) (mvT hZ (tw hw 68 rfl)) (by decide) (backOf (W := 0) (rmOU l Z a0 hw [] a170 (0 : Int32) (0 : Int32) uPROCESSED uPROCESSED uFAILED uDROPPED T235.heap n0 Z261 F_1254 F_2255 (by first | rfl | simp) O262 SPROCESSED SFAILED SDROPPED) hZ (tw hw 70 rfl) (tw hw 2 rfl) (by decide) (by decide)) qa284 qc286 (g := (mkF m 103 #[iv p1, .val (.long p2), .second, iv 0, iv 0, iv 1, rv a170, .unset, .unset] [(.ref a170)])) rfl (by rw [hml]; rfl) (Steps.refl _) (argsL := []) (rest := []) (lenOf pdOU rfl) rfl (by show 2 * 0 + _ ≤ _; exact Nat.le_of_eq rfl) (hb hby at_103) (fun _ _ => ⟨rfl, rfl, (Nat.le_of_ble_eq_true rfl), (Nat.le_of_ble_eq_true rfl)⟩)
        dsimp only [Pt.U, Pt.locs, Pt.cells, Pt.slots] at X267 l273 y274 z275 st276 hQ272
        subst l273 y274 z275
        obtain ⟨rfl, N287, e278⟩ := hQ272
        have N277 := Fr.app N246 N287
        refine Way.to st276 ?_
        show Way _ _ _ _ (T266.setTop (mkF m 106 #[iv p1, .val (.long p2), .second, iv 0, iv 0, iv 1, rv a170, .unset, .unset] [(.ref uPROCESSED)]))
        refine Way.by (fun _ k => XS.astore X267.here hx rfl (hb hby at_106) rfl rfl (l' := #[iv p1, .val (.long p2), .second, iv 0, iv 0, iv 1, rv a170, rv uPROCESSED, .unset]) rfl k) ?_
        show Way _ _ _ _ (T266.setTop (mkF m 108 #[iv p1, .val (.long p2), .second, iv 0, iv 0, iv 1, rv a170, rv uPROCESSED, .unset] []))
        refine Way.by (fun _ k => XS.iloadN X267.here hx rfl (hb hby at_108) rfl k) ?_
        show Way _ _ _ _ (T266.setTop (mkF m 109 #[iv p1, .val (.long p2), .second, iv 0, iv 0, iv 1, rv a170, rv uPROCESSED, .unset] [(.int 0)]))
        have b289 : (0 : Int32) = (0 : Int32) := by decide
        refine Way.by (fun _ k => XS.ifYes X267.here hx rfl (pc0 := 109) (pc' := 120) rfl (hb hby at_109) rfl ((if0 .eq _).trans (teq b289).1) (by decide) (by decide) k) ?_
        show Way _ _ _ _ (T266.setTop (mkF m 120 #[iv p1, .val (.long p2), .second, iv 0, iv 0, iv 1, rv a170, rv uPROCESSED, .unset] []))
        refine Way.by (fun _ k => XS.iload X267.here hx rfl (hb hby at_120) rfl k) ?_
        show Way _ _ _ _ (T266.setTop (mkF m 122 #[iv p1, .val (.long p2), .second, iv 0, iv 0, iv 1, rv a170, rv uPROCESSED, .unset] [(.int 0)]))
        have b290 : (0 : Int32) = (0 : Int32) := by decide
        refine Way.by (fun _ k => XS.ifYes X267.here hx rfl (pc0 := 122) (pc' := 133) rfl (hb hby at_122) rfl ((if0 .eq _).trans (teq b290).1) (by decide) (by decide) k) ?_
        show Way _ _ _ _ (T266.setTop (mkF m 133 #[iv p1, .val (.long p2), .second, iv 0, iv 0, iv 1, rv a170, rv uPROCESSED, .unset] []))
        obtain ⟨T291, X292, e293, st294⟩ := getS X267 hx hZ hown (host := "") (tw hw 78 rfl) Via.refl e278 (Sta.ext O262.2 SPROCESSED) (g := (mkF m 133 #[iv p1, .val (.long p2), .second, iv 0, iv 0, iv 1, rv a170, rv uPROCESSED, .unset] [])) rfl (hb hby at_133)
        refine Way.by st294 ?_
        show Way _ _ _ _ (T291.setTop (mkF m 136 #[iv p1, .val (.long p2), .second, iv 0, iv 0, iv 1, rv a170, rv uPROCESSED, .unset] [(.ref uPROCESSED)]))
        refine Way.by (fun _ k => XS.astore X292.here hx rfl (hb hby at_136) rfl rfl (l' := #[iv p1, .val (.long p2), .second, iv 0, iv 0, iv 1, rv a170, rv uPROCESSED, rv uPROCESSED]) rfl k) ?_
        show Way _ _ _ _ (T291.setTop (mkF m 138 #[iv p1, .val (.long p2), .second, iv 0, iv 0, iv 1, rv a170, rv uPROCESSED, rv uPROCESSED] []))
        refine Way.by (fun _ k => XS.aload X292.here hx rfl (hb hby at_138) rfl rfl k) ?_
        show Way _ _ _ _ (T291.setTop (mkF m 140 #[iv p1, .val (.long p2), .second, iv 0, iv 0, iv 1, rv a170, rv uPROCESSED, rv uPROCESSED] [(.ref uPROCESSED)]))
        refine Way.by (fun _ k => XS.aload X292.here hx rfl (hb hby at_140) rfl rfl k) ?_
        show Way _ _ _ _ (T291.setTop (mkF m 142 #[iv p1, .val (.long p2), .second, iv 0, iv 0, iv 1, rv a170, rv uPROCESSED, rv uPROCESSED] [(.ref uPROCESSED), (.ref uPROCESSED)]))
        have b295 : uPROCESSED = uPROCESSED := rfl
        refine Way.by (fun _ k => acmp X292 hx rfl rfl rfl (pc0 := 142) (pc' := 145) (same := true) rfl (hb hby at_142) rfl (by simp [b295]) (by decide) (by decide) k) ?_
        show Way _ _ _ _ (T291.setTop (mkF m 145 #[iv p1, .val (.long p2), .second, iv 0, iv 0, iv 1, rv a170, rv uPROCESSED, rv uPROCESSED] []))
        refine Way.by (fun _ k => XS.aload X292.here hx rfl (hb hby at_145) rfl rfl k) ?_
        show Way _ _ _ _ (T291.setTop (mkF m 147 #[iv p1, .val (.long p2), .second, iv 0, iv 0, iv 1, rv a170, rv uPROCESSED, rv uPROCESSED] [(.ref a170)]))
        obtain ⟨cq312, kq313, qa314, qb315, qc316⟩ := isOf hZ e293 F_0253
        obtain ⟨_, _, ⟨T296, L298, k299, n300⟩, -, X297, ⟨Lc301, hQ302, l303, y304, z305⟩, st306⟩ := X292.virtualBack hx (y := (⟨"com/example/forward_horizon/forwardhorizon/engine/Event", "outcome", "()Lcom/example/forward_horizon/forwardhorizon/engine/Outcome;"⟩ : MethodName)) (z := (⟨"com/example/forward_horizon/forwardhorizon/engine/Event", "outcome", "()Lcom/example/forward_horizon/forwardhorizon/engine/Outcome;"⟩ : MethodName)) hown (mvT hZ (tw hw 66 rfl)) (mvT hZ (tw hw 67 rfl)) (notFace_of_selects (args := #[]) (mvT hZ (tw hw 69 rfl))) (mvT hZ (tw hw 69 rfl)) (mvT hZ (tw hw 68 rfl)) (by decide) (backOf (W := 0) (rmOU l Z a0 hw [] a170 (0 : Int32) (0 : Int32) uPROCESSED uPROCESSED uFAILED uDROPPED T235.heap n0 Z261 F_1254 F_2255 (by first | rfl | simp) O262 SPROCESSED SFAILED SDROPPED) hZ (tw hw 70 rfl) (tw hw 2 rfl) (by decide) (by decide)) qa314 qc316 (g := (mkF m 147 #[iv p1, .val (.long p2), .second, iv 0, iv 0, iv 1, rv a170, rv uPROCESSED, rv uPROCESSED] [(.ref a170)])) rfl (by rw [hml]; rfl) (Steps.refl _) (argsL := []) (rest := []) (lenOf pdOU rfl) rfl (by show 2 * 0 + _ ≤ _; exact Nat.le_of_eq rfl) (hb hby at_147) (fun _ _ => ⟨rfl, e293, (Nat.le_of_ble_eq_true rfl), (Nat.le_of_ble_eq_true rfl)⟩)
        dsimp only [Pt.U, Pt.locs, Pt.cells, Pt.slots] at X297 l303 y304 z305 st306 hQ302
        subst l303 y304 z305
        obtain ⟨rfl, N317, e308⟩ := hQ302
        have N307 := Fr.app N277 N317
        refine Way.to st306 ?_
        show Way _ _ _ _ (T296.setTop (mkF m 150 #[iv p1, .val (.long p2), .second, iv 0, iv 0, iv 1, rv a170, rv uPROCESSED, rv uPROCESSED] [(.ref uPROCESSED)]))
        refine Way.by (fun _ k => XS.aload X297.here hx rfl (hb hby at_150) rfl rfl k) ?_
        show Way _ _ _ _ (T296.setTop (mkF m 152 #[iv p1, .val (.long p2), .second, iv 0, iv 0, iv 1, rv a170, rv uPROCESSED, rv uPROCESSED] [(.ref uPROCESSED), (.ref uPROCESSED)]))
        have b319 : uPROCESSED = uPROCESSED := rfl
        refine Way.by (fun _ k => acmp X297 hx rfl rfl rfl (pc0 := 152) (pc' := 155) (same := true) rfl (hb hby at_152) rfl (by simp [b319]) (by decide) (by decide) k) ?_
        show Way _ _ _ _ (T296.setTop (mkF m 155 #[iv p1, .val (.long p2), .second, iv 0, iv 0, iv 1, rv a170, rv uPROCESSED, rv uPROCESSED] []))
        refine Way.by (fun _ k => XS.iconst X297.here hx rfl (hb hby at_155) k) ?_
        show Way _ _ _ _ (T296.setTop (mkF m 156 #[iv p1, .val (.long p2), .second, iv 0, iv 0, iv 1, rv a170, rv uPROCESSED, rv uPROCESSED] [(.int 1)]))
        refine Way.by (fun _ k => XS.goto X297.here hx rfl (pc0 := 156) (pc' := 160) rfl (hb hby at_156) (by decide) (by decide) k) ?_
        show Way _ _ _ _ (T296.setTop (mkF m 160 #[iv p1, .val (.long p2), .second, iv 0, iv 0, iv 1, rv a170, rv uPROCESSED, rv uPROCESSED] [(.int 1)]))
        refine Way.ret (v := (some (.int (nar .boolean (1 : Int32))))) X297 hlk (fun h => by rw [Bd.returns] at h; cases h) (fun fs hr => retN X297 hx (t := .boolean) Bd.returns (by simp) (hb hby at_160) hr) ?_ (by decide) (by decide)
        show Q0 n0 _ T296.heap _
        rw [e308]
        exact ⟨rfl, N307⟩
    · skip
      refine Way.by (fun _ k => XS.ifNo X0.here hx rfl (hb hby at_15) rfl ((if0 .eq _).trans (feq b2).1) k) ?_
      show Way _ _ _ _ (s₁.setTop (mkF m 18 #[iv p1, .val (.long p2), .second, iv 0, .unset, .unset, .unset, .unset, .unset] []))
      refine Way.by (fun _ k => XS.iconst X0.here hx rfl (hb hby at_18) k) ?_
      show Way _ _ _ _ (s₁.setTop (mkF m 19 #[iv p1, .val (.long p2), .second, iv 0, .unset, .unset, .unset, .unset, .unset] [(.int 1)]))
      refine Way.by (fun _ k => XS.goto X0.here hx rfl (pc0 := 19) (pc' := 23) rfl (hb hby at_19) (by decide) (by decide) k) ?_
      show Way _ _ _ _ (s₁.setTop (mkF m 23 #[iv p1, .val (.long p2), .second, iv 0, .unset, .unset, .unset, .unset, .unset] [(.int 1)]))
      refine Way.by (fun _ k => XS.istore X0.here hx rfl (hb hby at_23) rfl (l' := #[iv p1, .val (.long p2), .second, iv 0, iv 1, .unset, .unset, .unset, .unset]) rfl k) ?_
      show Way _ _ _ _ (s₁.setTop (mkF m 25 #[iv p1, .val (.long p2), .second, iv 0, iv 1, .unset, .unset, .unset, .unset] []))
      refine Way.by (fun _ k => XS.iloadN X0.here hx rfl (hb hby at_25) rfl k) ?_
      show Way _ _ _ _ (s₁.setTop (mkF m 26 #[iv p1, .val (.long p2), .second, iv 0, iv 1, .unset, .unset, .unset, .unset] [(.int p1)]))
      refine Way.by (fun _ k => XS.iconst X0.here hx rfl (hb hby at_26) k) ?_
      show Way _ _ _ _ (s₁.setTop (mkF m 27 #[iv p1, .val (.long p2), .second, iv 0, iv 1, .unset, .unset, .unset, .unset] [(.int 4), (.int p1)]))
      refine Way.by (fun _ k => XS.iand X0.here hx rfl (hb hby at_27) rfl k) ?_
      show Way _ _ _ _ (s₁.setTop (mkF m 28 #[iv p1, .val (.long p2), .second, iv 0, iv 1, .unset, .unset, .unset, .unset] [(.int (p1 &&& (4 : Int32)))]))
      by_cases b320 : (p1 &&& (4 : Int32)) = (0 : Int32)
      · skip
        refine Way.by (fun _ k => XS.ifYes X0.here hx rfl (pc0 := 28) (pc' := 35) rfl (hb hby at_28) rfl ((if0 .eq _).trans (teq b320).1) (by decide) (by decide) k) ?_
        show Way _ _ _ _ (s₁.setTop (mkF m 35 #[iv p1, .val (.long p2), .second, iv 0, iv 1, .unset, .unset, .unset, .unset] []))
        refine Way.by (fun _ k => XS.iconst X0.here hx rfl (hb hby at_35) k) ?_
        show Way _ _ _ _ (s₁.setTop (mkF m 36 #[iv p1, .val (.long p2), .second, iv 0, iv 1, .unset, .unset, .unset, .unset] [(.int 0)]))
        refine Way.by (fun _ k => XS.istore X0.here hx rfl (hb hby at_36) rfl (l' := #[iv p1, .val (.long p2), .second, iv 0, iv 1, iv 0, .unset, .unset, .unset]) rfl k) ?_
        show Way _ _ _ _ (s₁.setTop (mkF m 38 #[iv p1, .val (.long p2), .second, iv 0, iv 1, iv 0, .unset, .unset, .unset] []))
        obtain ⟨T321, h322, X323, e324, E325, A326, D327, -, st328⟩ := newO X0 hx hZ hown (tw hw 0 rfl) (tw hw 1 rfl) (tw hw 2 rfl) e0 (g := (mkF m 38 #[iv p1, .val (.long p2), .second, iv 0, iv 1, iv 0, .unset, .unset, .unset] [])) rfl (hb hby at_38) (by decide) (by decide)
        obtain ⟨a329, g330⟩ : ∃ z, z = h0.size := ⟨_, rfl⟩
        rw [← g330] at A326 D327 st328
        have nw331 : n0 ≤ a329 := Nat.le_trans Z0 (Nat.le_of_eq g330.symm)
        have Z332 := Nat.le_trans Z0 E325.1
        have O333 := O0.ext E325
        have F334 : Fld Z h322 a329 "com/example/forward_horizon/forwardhorizon/engine/Event" "holds" "Ljava/util/concurrent/atomic/AtomicInteger;" .null := D327 (Or.inr (tw hw 49 rfl)) (ty := (.object "java/util/concurrent/atomic/AtomicInteger")) (by decide)
        have F335 : Fld Z h322 a329 "com/example/forward_horizon/forwardhorizon/engine/Event" "fields" "Ljava/util/List;" .null := D327 (Or.inr (tw hw 51 rfl)) (ty := (.object "java/util/List")) (by decide)
        have F336 : Fld Z h322 a329 "com/example/forward_horizon/forwardhorizon/engine/Event" "releaseNanos" "J" (.long (0 : Int64)) := D327 (Or.inr (tw hw 53 rfl)) (ty := .long) (by decide)
        have F337 : Fld Z h322 a329 "com/example/forward_horizon/forwardhorizon/engine/Event" "lastEndNanos" "Ljava/util/concurrent/atomic/AtomicLong;" .null := D327 (Or.inr (tw hw 65 rfl)) (ty := (.object "java/util/concurrent/atomic/AtomicLong")) (by decide)
        have F338 : Fld Z h322 a329 "com/example/forward_horizon/forwardhorizon/engine/Event" "failed" "Z" (.int 0) := D327 (Or.inl (tw hw 72 rfl)) (ty := .boolean) (by decide)
        have F339 : Fld Z h322 a329 "com/example/forward_horizon/forwardhorizon/engine/Event" "dropped" "Z" (.int 0) := D327 (Or.inl (tw hw 74 rfl)) (ty := .boolean) (by decide)
        refine Way.by st328 ?_
        show Way _ _ _ _ (T321.setTop (mkF m 41 #[iv p1, .val (.long p2), .second, iv 0, iv 1, iv 0, .unset, .unset, .unset] [(.ref a329)]))
        refine Way.by (fun _ k => XS.dup X323.here hx rfl (hb hby at_41) rfl rfl k) ?_
        show Way _ _ _ _ (T321.setTop (mkF m 42 #[iv p1, .val (.long p2), .second, iv 0, iv 1, iv 0, .unset, .unset, .unset] [(.ref a329), (.ref a329)]))
        obtain ⟨T340, h341, X342, e343, E344, A345, D346, -, st347⟩ := newO X323 hx hZ hown (tw hw 3 rfl) (tw hw 4 rfl) (tw hw 5 rfl) e324 (g := (mkF m 42 #[iv p1, .val (.long p2), .second, iv 0, iv 1, iv 0, .unset, .unset, .unset] [(.ref a329), (.ref a329)])) rfl (hb hby at_42) (by decide) (by decide)
        obtain ⟨a348, g349⟩ : ∃ z, z = h322.size := ⟨_, rfl⟩
        rw [← g349] at A345 D346 st347
        have ne350 : a329 ≠ a348 := Nat.ne_of_lt (Nat.lt_of_lt_of_eq A326.lt g349.symm)
        have nw351 : n0 ≤ a348 := Nat.le_trans Z332 (Nat.le_of_eq g349.symm)
        have E352 := Exa.ext E344 A326
        have F353 := Fld.ext E344 F334
        have F354 := Fld.ext E344 F335
        have F355 := Fld.ext E344 F336
        have F356 := Fld.ext E344 F337
        have F357 := Fld.ext E344 F338
        have F358 := Fld.ext E344 F339
        have Z359 := Nat.le_trans Z332 E344.1
        have O360 := O333.ext E344
        have F361 : Fld Z h341 a348 "java/util/AbstractList" "modCount" "I" (.int 0) := D346 (Or.inl (tw hw 25 rfl)) (ty := .int) (by decide)
        have F362 : Fld Z h341 a348 "java/util/ArrayList" "elementData" "[Ljava/lang/Object;" .null := D346 (Or.inl (tw hw 28 rfl)) (ty := (.array (.object "java/lang/Object"))) (by decide)
        refine Way.by st347 ?_
        show Way _ _ _ _ (T340.setTop (mkF m 45 #[iv p1, .val (.long p2), .second, iv 0, iv 1, iv 0, .unset, .unset, .unset] [(.ref a348), (.ref a329), (.ref a329)]))
        refine Way.by (fun _ k => XS.dup X342.here hx rfl (hb hby at_45) rfl rfl k) ?_
        show Way _ _ _ _ (T340.setTop (mkF m 46 #[iv p1, .val (.long p2), .second, iv 0, iv 1, iv 0, .unset, .unset, .unset] [(.ref a348), (.ref a348), (.ref a329), (.ref a329)]))
        obtain ⟨_, _, ⟨T363, L365, k366, n367⟩, -, X364, ⟨Lc368, hQ369, l370, y371, z372⟩, st373⟩ := X342.specialBack hx (y := (⟨"java/util/ArrayList", "<init>", "()V"⟩ : MethodName)) rfl hown (mvT hZ (tw hw 6 rfl)) (mvT hZ (tw hw 7 rfl)) (mvT hZ (tw hw 8 rfl)) (by decide) (backOf (W := 3) (rmA0 l Z a0 hw [] a348 de h341 n0 Z359 A345 F361 F362 nw351 O360 SDE) hZ (tw hw 8 rfl) (tw hw 5 rfl) (by decide) (by decide)) (g := (mkF m 46 #[iv p1, .val (.long p2), .second, iv 0, iv 1, iv 0, .unset, .unset, .unset] [(.ref a348), (.ref a348), (.ref a329), (.ref a329)])) rfl (by rw [hml]; rfl) (Steps.refl _) (a := a348) (argsL := []) (rest := [(.ref a348), (.ref a329), (.ref a329)]) (lenOf pdA0 rfl) rfl (by show 2 * 0 + _ ≤ _; exact Nat.le_of_eq rfl) (hb hby at_46) (fun _ _ => ⟨rfl, e343, (Nat.le_of_ble_eq_true rfl), (Nat.le_of_ble_eq_true rfl)⟩)
        dsimp only [Pt.U, Pt.locs, Pt.cells, Pt.slots] at X364 l370 y371 z372 st373 hQ369
        subst l370 y371 z372
        obtain ⟨rfl, N379, K380, F_0381, F_1382, F_2383⟩ := hQ369
        have N374 := Fr.app N0 N379
        have E384 := E352.keep K380
        have F385 := F353.keep K380 (ninS ne350 nin0)
        have F386 := F354.keep K380 (ninS ne350 nin0)
        have F387 := F355.keep K380 (ninS ne350 nin0)
        have F388 := F356.keep K380 (ninS ne350 nin0)
        have F389 := F357.keep K380 (ninS ne350 nin0)
        have F390 := F358.keep K380 (ninS ne350 nin0)
        have E391 := A345.keep K380
        have Z392 := Nat.le_trans Z359 K380.1
        have O393 := O360.keep K380 (allS nw351 all0)
        refine Way.to st373 ?_
        show Way _ _ _ _ (T363.setTop (mkF m 49 #[iv p1, .val (.long p2), .second, iv 0, iv 1, iv 0, .unset, .unset, .unset] [(.ref a348), (.ref a329), (.ref a329)]))
        refine Way.by (fun _ k => XT.lloadN X364.here hx rfl (hb hby at_49) rfl k) ?_
        show Way _ _ _ _ (T363.setTop (mkF m 50 #[iv p1, .val (.long p2), .second, iv 0, iv 1, iv 0, .unset, .unset, .unset] [(.long p2), (.ref a348), (.ref a329), (.ref a329)]))
        obtain ⟨_, _, ⟨T394, L396, k397, n398⟩, -, X395, ⟨Lc399, hQ400, l401, y402, z403⟩, st404⟩ := X364.specialBack hx (y := (⟨"com/example/forward_horizon/forwardhorizon/engine/Event", "<init>", "(Ljava/util/List;J)V"⟩ : MethodName)) rfl hown (mvT hZ (tw hw 29 rfl)) (mvT hZ (tw hw 30 rfl)) (mvT hZ (tw hw 31 rfl)) (by decide) (backOf (W := 1) (rmT l Z a0 hw [] a329 a348 p2 T363.heap n0 Z392 E384 F385 F386 F387 F388 F389 F390 nw331) hZ (tw hw 31 rfl) (tw hw 2 rfl) (by decide) (by decide)) (g := (mkF m 50 #[iv p1, .val (.long p2), .second, iv 0, iv 1, iv 0, .unset, .unset, .unset] [(.long p2), (.ref a348), (.ref a329), (.ref a329)])) rfl (by rw [hml]; rfl) (Steps.refl _) (a := a329) (argsL := [(.ref a348), (.long p2)]) (rest := [(.ref a329)]) (lenOf pdT rfl) rfl (by show 2 * 0 + _ ≤ _; exact Nat.le_of_eq rfl) (hb hby at_50) (fun _ _ => ⟨rfl, rfl, (Nat.le_of_ble_eq_true rfl), (Nat.le_of_ble_eq_true rfl)⟩)
        dsimp only [Pt.U, Pt.locs, Pt.cells, Pt.slots] at X395 l401 y402 z403 st404 hQ400
        subst l401 y402 z403
        obtain ⟨rfl, N410, K411, F_0412, F_1413, F_2414, F_3415⟩ := hQ400
        have N405 := Fr.app N374 N410
        have E416 := E384.keep K411
        have E417 := F_0381.keep K411
        have F418 := F_1382.keep K411 (ninS ne350.symm nin0)
        have F419 := F_2383.keep K411 (ninS ne350.symm nin0)
        have Z420 := Nat.le_trans Z392 K411.1
        have O421 := O393.keep K411 (allS nw331 all0)
        refine Way.to st404 ?_
        show Way _ _ _ _ (T394.setTop (mkF m 53 #[iv p1, .val (.long p2), .second, iv 0, iv 1, iv 0, .unset, .unset, .unset] [(.ref a329)]))
        refine Way.by (fun _ k => XS.astore X395.here hx rfl (hb hby at_53) rfl rfl (l' := #[iv p1, .val (.long p2), .second, iv 0, iv 1, iv 0, rv a329, .unset, .unset]) rfl k) ?_
        show Way _ _ _ _ (T394.setTop (mkF m 55 #[iv p1, .val (.long p2), .second, iv 0, iv 1, iv 0, rv a329, .unset, .unset] []))
        refine Way.by (fun _ k => XS.iload X395.here hx rfl (hb hby at_55) rfl k) ?_
        show Way _ _ _ _ (T394.setTop (mkF m 57 #[iv p1, .val (.long p2), .second, iv 0, iv 1, iv 0, rv a329, .unset, .unset] [(.int 0)]))
        have b422 : (0 : Int32) = (0 : Int32) := by decide
        refine Way.by (fun _ k => XS.ifYes X395.here hx rfl (pc0 := 57) (pc' := 82) rfl (hb hby at_57) rfl ((if0 .eq _).trans (teq b422).1) (by decide) (by decide) k) ?_
        show Way _ _ _ _ (T394.setTop (mkF m 82 #[iv p1, .val (.long p2), .second, iv 0, iv 1, iv 0, rv a329, .unset, .unset] []))
        refine Way.by (fun _ k => XS.iloadN X395.here hx rfl (hb hby at_82) rfl k) ?_
        show Way _ _ _ _ (T394.setTop (mkF m 83 #[iv p1, .val (.long p2), .second, iv 0, iv 1, iv 0, rv a329, .unset, .unset] [(.int 0)]))
        have b423 : (0 : Int32) = (0 : Int32) := by decide
        refine Way.by (fun _ k => XS.ifYes X395.here hx rfl (pc0 := 83) (pc' := 91) rfl (hb hby at_83) rfl ((if0 .eq _).trans (teq b423).1) (by decide) (by decide) k) ?_
        show Way _ _ _ _ (T394.setTop (mkF m 91 #[iv p1, .val (.long p2), .second, iv 0, iv 1, iv 0, rv a329, .unset, .unset] []))
        refine Way.by (fun _ k => XS.iload X395.here hx rfl (hb hby at_91) rfl k) ?_
        show Way _ _ _ _ (T394.setTop (mkF m 93 #[iv p1, .val (.long p2), .second, iv 0, iv 1, iv 0, rv a329, .unset, .unset] [(.int 1)]))
        have b424 : ¬ (1 : Int32) = (0 : Int32) := by decide
        refine Way.by (fun _ k => XS.ifNo X395.here hx rfl (hb hby at_93) rfl ((if0 .eq _).trans (feq b424).1) k) ?_
        show Way _ _ _ _ (T394.setTop (mkF m 96 #[iv p1, .val (.long p2), .second, iv 0, iv 1, iv 0, rv a329, .unset, .unset] []))
        refine Way.by (fun _ k => XS.aload X395.here hx rfl (hb hby at_96) rfl rfl k) ?_
        show Way _ _ _ _ (T394.setTop (mkF m 98 #[iv p1, .val (.long p2), .second, iv 0, iv 1, iv 0, rv a329, .unset, .unset] [(.ref a329)]))
        obtain ⟨cq441, kq442, qa443, qb444, qc445⟩ := isOf hZ rfl F_0412
        obtain ⟨_, _, ⟨T425, L427, k428, n429⟩, -, X426, ⟨Lc430, hQ431, l432, y433, z434⟩, st435⟩ := X395.virtualBack hx (y := (⟨"com/example/forward_horizon/forwardhorizon/engine/Event", "markDropped", "()V"⟩ : MethodName)) (z := (⟨"com/example/forward_horizon/forwardhorizon/engine/Event", "markDropped", "()V"⟩ : MethodName)) hown (mvT hZ (tw hw 87 rfl)) (mvT hZ (tw hw 88 rfl)) (notFace_of_selects (args := #[]) (mvT hZ (tw hw 90 rfl))) (mvT hZ (tw hw 90 rfl)) (mvT hZ (tw hw 89 rfl)) (by decide) (backOf (W := 0) (rmMD l Z a0 hw [] a329 (0 : Int32) (0 : Int32) T394.heap n0 Z420 F_0412 F_1413 F_2414 nw331) hZ (tw hw 91 rfl) (tw hw 2 rfl) (by decide) (by decide)) qa443 qc445 (g := (mkF m 98 #[iv p1, .val (.long p2), .second, iv 0, iv 1, iv 0, rv a329, .unset, .unset] [(.ref a329)])) rfl (by rw [hml]; rfl) (Steps.refl _) (argsL := []) (rest := []) (lenOf pdMD rfl) rfl (by show 2 * 0 + _ ≤ _; exact Nat.le_of_eq rfl) (hb hby at_98) (fun _ _ => ⟨rfl, rfl, (Nat.le_of_ble_eq_true rfl), (Nat.le_of_ble_eq_true rfl)⟩)
        dsimp only [Pt.U, Pt.locs, Pt.cells, Pt.slots] at X426 l432 y433 z434 st435 hQ431
        subst l432 y433 z434
        obtain ⟨rfl, N446, K447, F_0448, F_1449, F_2450⟩ := hQ431
        have N436 := Fr.app N405 N446
        have E451 := F_0412.keep K447
        have E452 := E417.keep K447
        have F453 := F418.keep K447 (ninS ne350.symm nin0)
        have F454 := F419.keep K447 (ninS ne350.symm nin0)
        have Z455 := Nat.le_trans Z420 K447.1
        have O456 := O421.keep K447 (allS nw331 all0)
        refine Way.to st435 ?_
        show Way _ _ _ _ (T425.setTop (mkF m 101 #[iv p1, .val (.long p2), .second, iv 0, iv 1, iv 0, rv a329, .unset, .unset] []))
        refine Way.by (fun _ k => XS.aload X426.here hx rfl (hb hby at_101) rfl rfl k) ?_
        show Way _ _ _ _ (T425.setTop (mkF m 103 #[iv p1, .val (.long p2), .second, iv 0, iv 1, iv 0, rv a329, .unset, .unset] [(.ref a329)]))
        obtain ⟨cq473, kq474, qa475, qb476, qc477⟩ := isOf hZ rfl F_0448
        obtain ⟨_, _, ⟨T457, L459, k460, n461⟩, -, X458, ⟨Lc462, hQ463, l464, y465, z466⟩, st467⟩ := X426.virtualBack hx (y := (⟨"com/example/forward_horizon/forwardhorizon/engine/Event", "outcome", "()Lcom/example/forward_horizon/forwardhorizon/engine/Outcome;"⟩ : MethodName)) (z := (⟨"com/example/forward_horizon/forwardhorizon/engine/Event", "outcome", "()Lcom/example/forward_horizon/forwardhorizon/engine/Outcome;"⟩ : MethodName)) hown (mvT hZ (tw hw 66 rfl)) (mvT hZ (tw hw 67 rfl)) (notFace_of_selects (args := #[]) (mvT hZ (tw hw 69 rfl))) (mvT hZ (tw hw 69 rfl)) (mvT hZ (tw hw 68 rfl)) (by decide) (backOf (W := 0) (rmOU l Z a0 hw [] a329 (0 : Int32) (1 : Int32) uDROPPED uPROCESSED uFAILED uDROPPED T425.heap n0 Z455 F_1449 F_2450 (by first | rfl | simp) O456 SPROCESSED SFAILED SDROPPED) hZ (tw hw 70 rfl) (tw hw 2 rfl) (by decide) (by decide)) qa475 qc477 (g := (mkF m 103 #[iv p1, .val (.long p2), .second, iv 0, iv 1, iv 0, rv a329, .unset, .unset] [(.ref a329)])) rfl (by rw [hml]; rfl) (Steps.refl _) (argsL := []) (rest := []) (lenOf pdOU rfl) rfl (by show 2 * 0 + _ ≤ _; exact Nat.le_of_eq rfl) (hb hby at_103) (fun _ _ => ⟨rfl, rfl, (Nat.le_of_ble_eq_true rfl), (Nat.le_of_ble_eq_true rfl)⟩)
        dsimp only [Pt.U, Pt.locs, Pt.cells, Pt.slots] at X458 l464 y465 z466 st467 hQ463
        subst l464 y465 z466
        obtain ⟨rfl, N478, e469⟩ := hQ463
        have N468 := Fr.app N436 N478
        refine Way.to st467 ?_
        show Way _ _ _ _ (T457.setTop (mkF m 106 #[iv p1, .val (.long p2), .second, iv 0, iv 1, iv 0, rv a329, .unset, .unset] [(.ref uDROPPED)]))
        refine Way.by (fun _ k => XS.astore X458.here hx rfl (hb hby at_106) rfl rfl (l' := #[iv p1, .val (.long p2), .second, iv 0, iv 1, iv 0, rv a329, rv uDROPPED, .unset]) rfl k) ?_
        show Way _ _ _ _ (T457.setTop (mkF m 108 #[iv p1, .val (.long p2), .second, iv 0, iv 1, iv 0, rv a329, rv uDROPPED, .unset] []))
        refine Way.by (fun _ k => XS.iloadN X458.here hx rfl (hb hby at_108) rfl k) ?_
        show Way _ _ _ _ (T457.setTop (mkF m 109 #[iv p1, .val (.long p2), .second, iv 0, iv 1, iv 0, rv a329, rv uDROPPED, .unset] [(.int 0)]))
        have b480 : (0 : Int32) = (0 : Int32) := by decide
        refine Way.by (fun _ k => XS.ifYes X458.here hx rfl (pc0 := 109) (pc' := 120) rfl (hb hby at_109) rfl ((if0 .eq _).trans (teq b480).1) (by decide) (by decide) k) ?_
        show Way _ _ _ _ (T457.setTop (mkF m 120 #[iv p1, .val (.long p2), .second, iv 0, iv 1, iv 0, rv a329, rv uDROPPED, .unset] []))
        refine Way.by (fun _ k => XS.iload X458.here hx rfl (hb hby at_120) rfl k) ?_
        show Way _ _ _ _ (T457.setTop (mkF m 122 #[iv p1, .val (.long p2), .second, iv 0, iv 1, iv 0, rv a329, rv uDROPPED, .unset] [(.int 1)]))
        have b481 : ¬ (1 : Int32) = (0 : Int32) := by decide
        refine Way.by (fun _ k => XS.ifNo X458.here hx rfl (hb hby at_122) rfl ((if0 .eq _).trans (feq b481).1) k) ?_
        show Way _ _ _ _ (T457.setTop (mkF m 125 #[iv p1, .val (.long p2), .second, iv 0, iv 1, iv 0, rv a329, rv uDROPPED, .unset] []))
        obtain ⟨T482, X483, e484, st485⟩ := getS X458 hx hZ hown (host := "") (tw hw 94 rfl) Via.refl e469 (Sta.ext O456.2 SDROPPED) (g := (mkF m 125 #[iv p1, .val (.long p2), .second, iv 0, iv 1, iv 0, rv a329, rv uDROPPED, .unset] [])) rfl (hb hby at_125)
        refine Way.by st485 ?_
        show Way _ _ _ _ (T482.setTop (mkF m 128 #[iv p1, .val (.long p2), .second, iv 0, iv 1, iv 0, rv a329, rv uDROPPED, .unset] [(.ref uDROPPED)]))
        refine Way.by (fun _ k => XS.astore X483.here hx rfl (hb hby at_128) rfl rfl (l' := #[iv p1, .val (.long p2), .second, iv 0, iv 1, iv 0, rv a329, rv uDROPPED, rv uDROPPED]) rfl k) ?_
        show Way _ _ _ _ (T482.setTop (mkF m 130 #[iv p1, .val (.long p2), .second, iv 0, iv 1, iv 0, rv a329, rv uDROPPED, rv uDROPPED] []))
        refine Way.by (fun _ k => XS.goto X483.here hx rfl (pc0 := 130) (pc' := 138) rfl (hb hby at_130) (by decide) (by decide) k) ?_
        show Way _ _ _ _ (T482.setTop (mkF m 138 #[iv p1, .val (.long p2), .second, iv 0, iv 1, iv 0, rv a329, rv uDROPPED, rv uDROPPED] []))
        refine Way.by (fun _ k => XS.aload X483.here hx rfl (hb hby at_138) rfl rfl k) ?_
        show Way _ _ _ _ (T482.setTop (mkF m 140 #[iv p1, .val (.long p2), .second, iv 0, iv 1, iv 0, rv a329, rv uDROPPED, rv uDROPPED] [(.ref uDROPPED)]))
        refine Way.by (fun _ k => XS.aload X483.here hx rfl (hb hby at_140) rfl rfl k) ?_
        show Way _ _ _ _ (T482.setTop (mkF m 142 #[iv p1, .val (.long p2), .second, iv 0, iv 1, iv 0, rv a329, rv uDROPPED, rv uDROPPED] [(.ref uDROPPED), (.ref uDROPPED)]))
        have b486 : uDROPPED = uDROPPED := rfl
        refine Way.by (fun _ k => acmp X483 hx rfl rfl rfl (pc0 := 142) (pc' := 145) (same := true) rfl (hb hby at_142) rfl (by simp [b486]) (by decide) (by decide) k) ?_
        show Way _ _ _ _ (T482.setTop (mkF m 145 #[iv p1, .val (.long p2), .second, iv 0, iv 1, iv 0, rv a329, rv uDROPPED, rv uDROPPED] []))
        refine Way.by (fun _ k => XS.aload X483.here hx rfl (hb hby at_145) rfl rfl k) ?_
        show Way _ _ _ _ (T482.setTop (mkF m 147 #[iv p1, .val (.long p2), .second, iv 0, iv 1, iv 0, rv a329, rv uDROPPED, rv uDROPPED] [(.ref a329)]))
        obtain ⟨cq503, kq504, qa505, qb506, qc507⟩ := isOf hZ e484 F_0448
        obtain ⟨_, _, ⟨T487, L489, k490, n491⟩, -, X488, ⟨Lc492, hQ493, l494, y495, z496⟩, st497⟩ := X483.virtualBack hx (y := (⟨"com/example/forward_horizon/forwardhorizon/engine/Event", "outcome", "()Lcom/example/forward_horizon/forwardhorizon/engine/Outcome;"⟩ : MethodName)) (z := (⟨"com/example/forward_horizon/forwardhorizon/engine/Event", "outcome", "()Lcom/example/forward_horizon/forwardhorizon/engine/Outcome;"⟩ : MethodName)) hown (mvT hZ (tw hw 66 rfl)) (mvT hZ (tw hw 67 rfl)) (notFace_of_selects (args := #[]) (mvT hZ (tw hw 69 rfl))) (mvT hZ (tw hw 69 rfl)) (mvT hZ (tw hw 68 rfl)) (by decide) (backOf (W := 0) (rmOU l Z a0 hw [] a329 (0 : Int32) (1 : Int32) uDROPPED uPROCESSED uFAILED uDROPPED T425.heap n0 Z455 F_1449 F_2450 (by first | rfl | simp) O456 SPROCESSED SFAILED SDROPPED) hZ (tw hw 70 rfl) (tw hw 2 rfl) (by decide) (by decide)) qa505 qc507 (g := (mkF m 147 #[iv p1, .val (.long p2), .second, iv 0, iv 1, iv 0, rv a329, rv uDROPPED, rv uDROPPED] [(.ref a329)])) rfl (by rw [hml]; rfl) (Steps.refl _) (argsL := []) (rest := []) (lenOf pdOU rfl) rfl (by show 2 * 0 + _ ≤ _; exact Nat.le_of_eq rfl) (hb hby at_147) (fun _ _ => ⟨rfl, e484, (Nat.le_of_ble_eq_true rfl), (Nat.le_of_ble_eq_true rfl)⟩)
        dsimp only [Pt.U, Pt.locs, Pt.cells, Pt.slots] at X488 l494 y495 z496 st497 hQ493
        subst l494 y495 z496
        obtain ⟨rfl, N508, e499⟩ := hQ493
        have N498 := Fr.app N468 N508
        refine Way.to st497 ?_
        show Way _ _ _ _ (T487.setTop (mkF m 150 #[iv p1, .val (.long p2), .second, iv 0, iv 1, iv 0, rv a329, rv uDROPPED, rv uDROPPED] [(.ref uDROPPED)]))
        refine Way.by (fun _ k => XS.aload X488.here hx rfl (hb hby at_150) rfl rfl k) ?_
        show Way _ _ _ _ (T487.setTop (mkF m 152 #[iv p1, .val (.long p2), .second, iv 0, iv 1, iv 0, rv a329, rv uDROPPED, rv uDROPPED] [(.ref uDROPPED), (.ref uDROPPED)]))
        have b510 : uDROPPED = uDROPPED := rfl
        refine Way.by (fun _ k => acmp X488 hx rfl rfl rfl (pc0 := 152) (pc' := 155) (same := true) rfl (hb hby at_152) rfl (by simp [b510]) (by decide) (by decide) k) ?_
        show Way _ _ _ _ (T487.setTop (mkF m 155 #[iv p1, .val (.long p2), .second, iv 0, iv 1, iv 0, rv a329, rv uDROPPED, rv uDROPPED] []))
        refine Way.by (fun _ k => XS.iconst X488.here hx rfl (hb hby at_155) k) ?_
        show Way _ _ _ _ (T487.setTop (mkF m 156 #[iv p1, .val (.long p2), .second, iv 0, iv 1, iv 0, rv a329, rv uDROPPED, rv uDROPPED] [(.int 1)]))
        refine Way.by (fun _ k => XS.goto X488.here hx rfl (pc0 := 156) (pc' := 160) rfl (hb hby at_156) (by decide) (by decide) k) ?_
        show Way _ _ _ _ (T487.setTop (mkF m 160 #[iv p1, .val (.long p2), .second, iv 0, iv 1, iv 0, rv a329, rv uDROPPED, rv uDROPPED] [(.int 1)]))
        refine Way.ret (v := (some (.int (nar .boolean (1 : Int32))))) X488 hlk (fun h => by rw [Bd.returns] at h; cases h) (fun fs hr => retN X488 hx (t := .boolean) Bd.returns (by simp) (hb hby at_160) hr) ?_ (by decide) (by decide)
        show Q0 n0 _ T487.heap _
        rw [e499]
        exact ⟨rfl, N498⟩
      · skip
        refine Way.by (fun _ k => XS.ifNo X0.here hx rfl (hb hby at_28) rfl ((if0 .eq _).trans (feq b320).1) k) ?_
        show Way _ _ _ _ (s₁.setTop (mkF m 31 #[iv p1, .val (.long p2), .second, iv 0, iv 1, .unset, .unset, .unset, .unset] []))
        refine Way.by (fun _ k => XS.iconst X0.here hx rfl (hb hby at_31) k) ?_
        show Way _ _ _ _ (s₁.setTop (mkF m 32 #[iv p1, .val (.long p2), .second, iv 0, iv 1, .unset, .unset, .unset, .unset] [(.int 1)]))
        refine Way.by (fun _ k => XS.goto X0.here hx rfl (pc0 := 32) (pc' := 36) rfl (hb hby at_32) (by decide) (by decide) k) ?_
        show Way _ _ _ _ (s₁.setTop (mkF m 36 #[iv p1, .val (.long p2), .second, iv 0, iv 1, .unset, .unset, .unset, .unset] [(.int 1)]))
        refine Way.by (fun _ k => XS.istore X0.here hx rfl (hb hby at_36) rfl (l' := #[iv p1, .val (.long p2), .second, iv 0, iv 1, iv 1, .unset, .unset, .unset]) rfl k) ?_
        show Way _ _ _ _ (s₁.setTop (mkF m 38 #[iv p1, .val (.long p2), .second, iv 0, iv 1, iv 1, .unset, .unset, .unset] []))
        obtain ⟨T511, h512, X513, e514, E515, A516, D517, -, st518⟩ := newO X0 hx hZ hown (tw hw 0 rfl) (tw hw 1 rfl) (tw hw 2 rfl) e0 (g := (mkF m 38 #[iv p1, .val (.long p2), .second, iv 0, iv 1, iv 1, .unset, .unset, .unset] [])) rfl (hb hby at_38) (by decide) (by decide)
        obtain ⟨a519, g520⟩ : ∃ z, z = h0.size := ⟨_, rfl⟩
        rw [← g520] at A516 D517 st518
        have nw521 : n0 ≤ a519 := Nat.le_trans Z0 (Nat.le_of_eq g520.symm)
        have Z522 := Nat.le_trans Z0 E515.1
        have O523 := O0.ext E515
        have F524 : Fld Z h512 a519 "com/example/forward_horizon/forwardhorizon/engine/Event" "holds" "Ljava/util/concurrent/atomic/AtomicInteger;" .null := D517 (Or.inr (tw hw 49 rfl)) (ty := (.object "java/util/concurrent/atomic/AtomicInteger")) (by decide)
        have F525 : Fld Z h512 a519 "com/example/forward_horizon/forwardhorizon/engine/Event" "fields" "Ljava/util/List;" .null := D517 (Or.inr (tw hw 51 rfl)) (ty := (.object "java/util/List")) (by decide)
        have F526 : Fld Z h512 a519 "com/example/forward_horizon/forwardhorizon/engine/Event" "releaseNanos" "J" (.long (0 : Int64)) := D517 (Or.inr (tw hw 53 rfl)) (ty := .long) (by decide)
        have F527 : Fld Z h512 a519 "com/example/forward_horizon/forwardhorizon/engine/Event" "lastEndNanos" "Ljava/util/concurrent/atomic/AtomicLong;" .null := D517 (Or.inr (tw hw 65 rfl)) (ty := (.object "java/util/concurrent/atomic/AtomicLong")) (by decide)
        have F528 : Fld Z h512 a519 "com/example/forward_horizon/forwardhorizon/engine/Event" "failed" "Z" (.int 0) := D517 (Or.inl (tw hw 72 rfl)) (ty := .boolean) (by decide)
        have F529 : Fld Z h512 a519 "com/example/forward_horizon/forwardhorizon/engine/Event" "dropped" "Z" (.int 0) := D517 (Or.inl (tw hw 74 rfl)) (ty := .boolean) (by decide)
        refine Way.by st518 ?_
        show Way _ _ _ _ (T511.setTop (mkF m 41 #[iv p1, .val (.long p2), .second, iv 0, iv 1, iv 1, .unset, .unset, .unset] [(.ref a519)]))
        refine Way.by (fun _ k => XS.dup X513.here hx rfl (hb hby at_41) rfl rfl k) ?_
        show Way _ _ _ _ (T511.setTop (mkF m 42 #[iv p1, .val (.long p2), .second, iv 0, iv 1, iv 1, .unset, .unset, .unset] [(.ref a519), (.ref a519)]))
        obtain ⟨T530, h531, X532, e533, E534, A535, D536, -, st537⟩ := newO X513 hx hZ hown (tw hw 3 rfl) (tw hw 4 rfl) (tw hw 5 rfl) e514 (g := (mkF m 42 #[iv p1, .val (.long p2), .second, iv 0, iv 1, iv 1, .unset, .unset, .unset] [(.ref a519), (.ref a519)])) rfl (hb hby at_42) (by decide) (by decide)
        obtain ⟨a538, g539⟩ : ∃ z, z = h512.size := ⟨_, rfl⟩
        rw [← g539] at A535 D536 st537
        have ne540 : a519 ≠ a538 := Nat.ne_of_lt (Nat.lt_of_lt_of_eq A516.lt g539.symm)
        have nw541 : n0 ≤ a538 := Nat.le_trans Z522 (Nat.le_of_eq g539.symm)
        have E542 := Exa.ext E534 A516
        have F543 := Fld.ext E534 F524
        have F544 := Fld.ext E534 F525
        have F545 := Fld.ext E534 F526
        have F546 := Fld.ext E534 F527
        have F547 := Fld.ext E534 F528
        have F548 := Fld.ext E534 F529
        have Z549 := Nat.le_trans Z522 E534.1
        have O550 := O523.ext E534
        have F551 : Fld Z h531 a538 "java/util/AbstractList" "modCount" "I" (.int 0) := D536 (Or.inl (tw hw 25 rfl)) (ty := .int) (by decide)
        have F552 : Fld Z h531 a538 "java/util/ArrayList" "elementData" "[Ljava/lang/Object;" .null := D536 (Or.inl (tw hw 28 rfl)) (ty := (.array (.object "java/lang/Object"))) (by decide)
        refine Way.by st537 ?_
        show Way _ _ _ _ (T530.setTop (mkF m 45 #[iv p1, .val (.long p2), .second, iv 0, iv 1, iv 1, .unset, .unset, .unset] [(.ref a538), (.ref a519), (.ref a519)]))
        refine Way.by (fun _ k => XS.dup X532.here hx rfl (hb hby at_45) rfl rfl k) ?_
        show Way _ _ _ _ (T530.setTop (mkF m 46 #[iv p1, .val (.long p2), .second, iv 0, iv 1, iv 1, .unset, .unset, .unset] [(.ref a538), (.ref a538), (.ref a519), (.ref a519)]))
        obtain ⟨_, _, ⟨T553, L555, k556, n557⟩, -, X554, ⟨Lc558, hQ559, l560, y561, z562⟩, st563⟩ := X532.specialBack hx (y := (⟨"java/util/ArrayList", "<init>", "()V"⟩ : MethodName)) rfl hown (mvT hZ (tw hw 6 rfl)) (mvT hZ (tw hw 7 rfl)) (mvT hZ (tw hw 8 rfl)) (by decide) (backOf (W := 3) (rmA0 l Z a0 hw [] a538 de h531 n0 Z549 A535 F551 F552 nw541 O550 SDE) hZ (tw hw 8 rfl) (tw hw 5 rfl) (by decide) (by decide)) (g := (mkF m 46 #[iv p1, .val (.long p2), .second, iv 0, iv 1, iv 1, .unset, .unset, .unset] [(.ref a538), (.ref a538), (.ref a519), (.ref a519)])) rfl (by rw [hml]; rfl) (Steps.refl _) (a := a538) (argsL := []) (rest := [(.ref a538), (.ref a519), (.ref a519)]) (lenOf pdA0 rfl) rfl (by show 2 * 0 + _ ≤ _; exact Nat.le_of_eq rfl) (hb hby at_46) (fun _ _ => ⟨rfl, e533, (Nat.le_of_ble_eq_true rfl), (Nat.le_of_ble_eq_true rfl)⟩)
        dsimp only [Pt.U, Pt.locs, Pt.cells, Pt.slots] at X554 l560 y561 z562 st563 hQ559
        subst l560 y561 z562
        obtain ⟨rfl, N569, K570, F_0571, F_1572, F_2573⟩ := hQ559
        have N564 := Fr.app N0 N569
        have E574 := E542.keep K570
        have F575 := F543.keep K570 (ninS ne540 nin0)
        have F576 := F544.keep K570 (ninS ne540 nin0)
        have F577 := F545.keep K570 (ninS ne540 nin0)
        have F578 := F546.keep K570 (ninS ne540 nin0)
        have F579 := F547.keep K570 (ninS ne540 nin0)
        have F580 := F548.keep K570 (ninS ne540 nin0)
        have E581 := A535.keep K570
        have Z582 := Nat.le_trans Z549 K570.1
        have O583 := O550.keep K570 (allS nw541 all0)
        refine Way.to st563 ?_
        show Way _ _ _ _ (T553.setTop (mkF m 49 #[iv p1, .val (.long p2), .second, iv 0, iv 1, iv 1, .unset, .unset, .unset] [(.ref a538), (.ref a519), (.ref a519)]))
        refine Way.by (fun _ k => XT.lloadN X554.here hx rfl (hb hby at_49) rfl k) ?_
        show Way _ _ _ _ (T553.setTop (mkF m 50 #[iv p1, .val (.long p2), .second, iv 0, iv 1, iv 1, .unset, .unset, .unset] [(.long p2), (.ref a538), (.ref a519), (.ref a519)]))
        obtain ⟨_, _, ⟨T584, L586, k587, n588⟩, -, X585, ⟨Lc589, hQ590, l591, y592, z593⟩, st594⟩ := X554.specialBack hx (y := (⟨"com/example/forward_horizon/forwardhorizon/engine/Event", "<init>", "(Ljava/util/List;J)V"⟩ : MethodName)) rfl hown (mvT hZ (tw hw 29 rfl)) (mvT hZ (tw hw 30 rfl)) (mvT hZ (tw hw 31 rfl)) (by decide) (backOf (W := 1) (rmT l Z a0 hw [] a519 a538 p2 T553.heap n0 Z582 E574 F575 F576 F577 F578 F579 F580 nw521) hZ (tw hw 31 rfl) (tw hw 2 rfl) (by decide) (by decide)) (g := (mkF m 50 #[iv p1, .val (.long p2), .second, iv 0, iv 1, iv 1, .unset, .unset, .unset] [(.long p2), (.ref a538), (.ref a519), (.ref a519)])) rfl (by rw [hml]; rfl) (Steps.refl _) (a := a519) (argsL := [(.ref a538), (.long p2)]) (rest := [(.ref a519)]) (lenOf pdT rfl) rfl (by show 2 * 0 + _ ≤ _; exact Nat.le_of_eq rfl) (hb hby at_50) (fun _ _ => ⟨rfl, rfl, (Nat.le_of_ble_eq_true rfl), (Nat.le_of_ble_eq_true rfl)⟩)
        dsimp only [Pt.U, Pt.locs, Pt.cells, Pt.slots] at X585 l591 y592 z593 st594 hQ590
        subst l591 y592 z593
        obtain ⟨rfl, N600, K601, F_0602, F_1603, F_2604, F_3605⟩ := hQ590
        have N595 := Fr.app N564 N600
        have E606 := E574.keep K601
        have E607 := F_0571.keep K601
        have F608 := F_1572.keep K601 (ninS ne540.symm nin0)
        have F609 := F_2573.keep K601 (ninS ne540.symm nin0)
        have Z610 := Nat.le_trans Z582 K601.1
        have O611 := O583.keep K601 (allS nw521 all0)
        refine Way.to st594 ?_
        show Way _ _ _ _ (T584.setTop (mkF m 53 #[iv p1, .val (.long p2), .second, iv 0, iv 1, iv 1, .unset, .unset, .unset] [(.ref a519)]))
        refine Way.by (fun _ k => XS.astore X585.here hx rfl (hb hby at_53) rfl rfl (l' := #[iv p1, .val (.long p2), .second, iv 0, iv 1, iv 1, rv a519, .unset, .unset]) rfl k) ?_
        show Way _ _ _ _ (T584.setTop (mkF m 55 #[iv p1, .val (.long p2), .second, iv 0, iv 1, iv 1, rv a519, .unset, .unset] []))
        refine Way.by (fun _ k => XS.iload X585.here hx rfl (hb hby at_55) rfl k) ?_
        show Way _ _ _ _ (T584.setTop (mkF m 57 #[iv p1, .val (.long p2), .second, iv 0, iv 1, iv 1, rv a519, .unset, .unset] [(.int 1)]))
        have b612 : ¬ (1 : Int32) = (0 : Int32) := by decide
        refine Way.by (fun _ k => XS.ifNo X585.here hx rfl (hb hby at_57) rfl ((if0 .eq _).trans (feq b612).1) k) ?_
        show Way _ _ _ _ (T584.setTop (mkF m 60 #[iv p1, .val (.long p2), .second, iv 0, iv 1, iv 1, rv a519, .unset, .unset] []))
        refine Way.by (fun _ k => XS.iload X585.here hx rfl (hb hby at_60) rfl k) ?_
        show Way _ _ _ _ (T584.setTop (mkF m 62 #[iv p1, .val (.long p2), .second, iv 0, iv 1, iv 1, rv a519, .unset, .unset] [(.int 1)]))
        have b613 : ¬ (1 : Int32) = (0 : Int32) := by decide
        refine Way.by (fun _ k => XS.ifNo X585.here hx rfl (hb hby at_62) rfl ((if0 .eq _).trans (feq b613).1) k) ?_
        show Way _ _ _ _ (T584.setTop (mkF m 65 #[iv p1, .val (.long p2), .second, iv 0, iv 1, iv 1, rv a519, .unset, .unset] []))
        refine Way.by (fun _ k => XS.aload X585.here hx rfl (hb hby at_65) rfl rfl k) ?_
        show Way _ _ _ _ (T584.setTop (mkF m 67 #[iv p1, .val (.long p2), .second, iv 0, iv 1, iv 1, rv a519, .unset, .unset] [(.ref a519)]))
        obtain ⟨cq630, kq631, qa632, qb633, qc634⟩ := isOf hZ rfl F_0602
        obtain ⟨_, _, ⟨T614, L616, k617, n618⟩, -, X615, ⟨Lc619, hQ620, l621, y622, z623⟩, st624⟩ := X585.virtualBack hx (y := (⟨"com/example/forward_horizon/forwardhorizon/engine/Event", "markDropped", "()V"⟩ : MethodName)) (z := (⟨"com/example/forward_horizon/forwardhorizon/engine/Event", "markDropped", "()V"⟩ : MethodName)) hown (mvT hZ (tw hw 87 rfl)) (mvT hZ (tw hw 88 rfl)) (notFace_of_selects (args := #[]) (mvT hZ (tw hw 90 rfl))) (mvT hZ (tw hw 90 rfl)) (mvT hZ (tw hw 89 rfl)) (by decide) (backOf (W := 0) (rmMD l Z a0 hw [] a519 (0 : Int32) (0 : Int32) T584.heap n0 Z610 F_0602 F_1603 F_2604 nw521) hZ (tw hw 91 rfl) (tw hw 2 rfl) (by decide) (by decide)) qa632 qc634 (g := (mkF m 67 #[iv p1, .val (.long p2), .second, iv 0, iv 1, iv 1, rv a519, .unset, .unset] [(.ref a519)])) rfl (by rw [hml]; rfl) (Steps.refl _) (argsL := []) (rest := []) (lenOf pdMD rfl) rfl (by show 2 * 0 + _ ≤ _; exact Nat.le_of_eq rfl) (hb hby at_67) (fun _ _ => ⟨rfl, rfl, (Nat.le_of_ble_eq_true rfl), (Nat.le_of_ble_eq_true rfl)⟩)
        dsimp only [Pt.U, Pt.locs, Pt.cells, Pt.slots] at X615 l621 y622 z623 st624 hQ620
        subst l621 y622 z623
        obtain ⟨rfl, N635, K636, F_0637, F_1638, F_2639⟩ := hQ620
        have N625 := Fr.app N595 N635
        have E640 := F_0602.keep K636
        have E641 := E607.keep K636
        have F642 := F608.keep K636 (ninS ne540.symm nin0)
        have F643 := F609.keep K636 (ninS ne540.symm nin0)
        have Z644 := Nat.le_trans Z610 K636.1
        have O645 := O611.keep K636 (allS nw521 all0)
        refine Way.to st624 ?_
        show Way _ _ _ _ (T614.setTop (mkF m 70 #[iv p1, .val (.long p2), .second, iv 0, iv 1, iv 1, rv a519, .unset, .unset] []))
        refine Way.by (fun _ k => XS.iloadN X615.here hx rfl (hb hby at_70) rfl k) ?_
        show Way _ _ _ _ (T614.setTop (mkF m 71 #[iv p1, .val (.long p2), .second, iv 0, iv 1, iv 1, rv a519, .unset, .unset] [(.int 0)]))
        have b646 : (0 : Int32) = (0 : Int32) := by decide
        refine Way.by (fun _ k => XS.ifYes X615.here hx rfl (pc0 := 71) (pc' := 101) rfl (hb hby at_71) rfl ((if0 .eq _).trans (teq b646).1) (by decide) (by decide) k) ?_
        show Way _ _ _ _ (T614.setTop (mkF m 101 #[iv p1, .val (.long p2), .second, iv 0, iv 1, iv 1, rv a519, .unset, .unset] []))
        refine Way.by (fun _ k => XS.aload X615.here hx rfl (hb hby at_101) rfl rfl k) ?_
        show Way _ _ _ _ (T614.setTop (mkF m 103 #[iv p1, .val (.long p2), .second, iv 0, iv 1, iv 1, rv a519, .unset, .unset] [(.ref a519)]))
        obtain ⟨cq663, kq664, qa665, qb666, qc667⟩ := isOf hZ rfl F_0637
        obtain ⟨_, _, ⟨T647, L649, k650, n651⟩, -, X648, ⟨Lc652, hQ653, l654, y655, z656⟩, st657⟩ := X615.virtualBack hx (y := (⟨"com/example/forward_horizon/forwardhorizon/engine/Event", "outcome", "()Lcom/example/forward_horizon/forwardhorizon/engine/Outcome;"⟩ : MethodName)) (z := (⟨"com/example/forward_horizon/forwardhorizon/engine/Event", "outcome", "()Lcom/example/forward_horizon/forwardhorizon/engine/Outcome;"⟩ : MethodName)) hown (mvT hZ (tw hw 66 rfl)) (mvT hZ (tw hw 67 rfl)) (notFace_of_selects (args := #[]) (mvT hZ (tw hw 69 rfl))) (mvT hZ (tw hw 69 rfl)) (mvT hZ (tw hw 68 rfl)) (by decide) (backOf (W := 0) (rmOU l Z a0 hw [] a519 (0 : Int32) (1 : Int32) uDROPPED uPROCESSED uFAILED uDROPPED T614.heap n0 Z644 F_1638 F_2639 (by first | rfl | simp) O645 SPROCESSED SFAILED SDROPPED) hZ (tw hw 70 rfl) (tw hw 2 rfl) (by decide) (by decide)) qa665 qc667 (g := (mkF m 103 #[iv p1, .val (.long p2), .second, iv 0, iv 1, iv 1, rv a519, .unset, .unset] [(.ref a519)])) rfl (by rw [hml]; rfl) (Steps.refl _) (argsL := []) (rest := []) (lenOf pdOU rfl) rfl (by show 2 * 0 + _ ≤ _; exact Nat.le_of_eq rfl) (hb hby at_103) (fun _ _ => ⟨rfl, rfl, (Nat.le_of_ble_eq_true rfl), (Nat.le_of_ble_eq_true rfl)⟩)
        dsimp only [Pt.U, Pt.locs, Pt.cells, Pt.slots] at X648 l654 y655 z656 st657 hQ653
        subst l654 y655 z656
        obtain ⟨rfl, N668, e659⟩ := hQ653
        have N658 := Fr.app N625 N668
        refine Way.to st657 ?_
        show Way _ _ _ _ (T647.setTop (mkF m 106 #[iv p1, .val (.long p2), .second, iv 0, iv 1, iv 1, rv a519, .unset, .unset] [(.ref uDROPPED)]))
        refine Way.by (fun _ k => XS.astore X648.here hx rfl (hb hby at_106) rfl rfl (l' := #[iv p1, .val (.long p2), .second, iv 0, iv 1, iv 1, rv a519, rv uDROPPED, .unset]) rfl k) ?_
        show Way _ _ _ _ (T647.setTop (mkF m 108 #[iv p1, .val (.long p2), .second, iv 0, iv 1, iv 1, rv a519, rv uDROPPED, .unset] []))
        refine Way.by (fun _ k => XS.iloadN X648.here hx rfl (hb hby at_108) rfl k) ?_
        show Way _ _ _ _ (T647.setTop (mkF m 109 #[iv p1, .val (.long p2), .second, iv 0, iv 1, iv 1, rv a519, rv uDROPPED, .unset] [(.int 0)]))
        have b670 : (0 : Int32) = (0 : Int32) := by decide
        refine Way.by (fun _ k => XS.ifYes X648.here hx rfl (pc0 := 109) (pc' := 120) rfl (hb hby at_109) rfl ((if0 .eq _).trans (teq b670).1) (by decide) (by decide) k) ?_
        show Way _ _ _ _ (T647.setTop (mkF m 120 #[iv p1, .val (.long p2), .second, iv 0, iv 1, iv 1, rv a519, rv uDROPPED, .unset] []))
        refine Way.by (fun _ k => XS.iload X648.here hx rfl (hb hby at_120) rfl k) ?_
        show Way _ _ _ _ (T647.setTop (mkF m 122 #[iv p1, .val (.long p2), .second, iv 0, iv 1, iv 1, rv a519, rv uDROPPED, .unset] [(.int 1)]))
        have b671 : ¬ (1 : Int32) = (0 : Int32) := by decide
        refine Way.by (fun _ k => XS.ifNo X648.here hx rfl (hb hby at_122) rfl ((if0 .eq _).trans (feq b671).1) k) ?_
        show Way _ _ _ _ (T647.setTop (mkF m 125 #[iv p1, .val (.long p2), .second, iv 0, iv 1, iv 1, rv a519, rv uDROPPED, .unset] []))
        obtain ⟨T672, X673, e674, st675⟩ := getS X648 hx hZ hown (host := "") (tw hw 94 rfl) Via.refl e659 (Sta.ext O645.2 SDROPPED) (g := (mkF m 125 #[iv p1, .val (.long p2), .second, iv 0, iv 1, iv 1, rv a519, rv uDROPPED, .unset] [])) rfl (hb hby at_125)
        refine Way.by st675 ?_
        show Way _ _ _ _ (T672.setTop (mkF m 128 #[iv p1, .val (.long p2), .second, iv 0, iv 1, iv 1, rv a519, rv uDROPPED, .unset] [(.ref uDROPPED)]))
        refine Way.by (fun _ k => XS.astore X673.here hx rfl (hb hby at_128) rfl rfl (l' := #[iv p1, .val (.long p2), .second, iv 0, iv 1, iv 1, rv a519, rv uDROPPED, rv uDROPPED]) rfl k) ?_
        show Way _ _ _ _ (T672.setTop (mkF m 130 #[iv p1, .val (.long p2), .second, iv 0, iv 1, iv 1, rv a519, rv uDROPPED, rv uDROPPED] []))
        refine Way.by (fun _ k => XS.goto X673.here hx rfl (pc0 := 130) (pc' := 138) rfl (hb hby at_130) (by decide) (by decide) k) ?_
        show Way _ _ _ _ (T672.setTop (mkF m 138 #[iv p1, .val (.long p2), .second, iv 0, iv 1, iv 1, rv a519, rv uDROPPED, rv uDROPPED] []))
        refine Way.by (fun _ k => XS.aload X673.here hx rfl (hb hby at_138) rfl rfl k) ?_
        show Way _ _ _ _ (T672.setTop (mkF m 140 #[iv p1, .val (.long p2), .second, iv 0, iv 1, iv 1, rv a519, rv uDROPPED, rv uDROPPED] [(.ref uDROPPED)]))
        refine Way.by (fun _ k => XS.aload X673.here hx rfl (hb hby at_140) rfl rfl k) ?_
        show Way _ _ _ _ (T672.setTop (mkF m 142 #[iv p1, .val (.long p2), .second, iv 0, iv 1, iv 1, rv a519, rv uDROPPED, rv uDROPPED] [(.ref uDROPPED), (.ref uDROPPED)]))
        have b676 : uDROPPED = uDROPPED := rfl
        refine Way.by (fun _ k => acmp X673 hx rfl rfl rfl (pc0 := 142) (pc' := 145) (same := true) rfl (hb hby at_142) rfl (by simp [b676]) (by decide) (by decide) k) ?_
        show Way _ _ _ _ (T672.setTop (mkF m 145 #[iv p1, .val (.long p2), .second, iv 0, iv 1, iv 1, rv a519, rv uDROPPED, rv uDROPPED] []))
        refine Way.by (fun _ k => XS.aload X673.here hx rfl (hb hby at_145) rfl rfl k) ?_
        show Way _ _ _ _ (T672.setTop (mkF m 147 #[iv p1, .val (.long p2), .second, iv 0, iv 1, iv 1, rv a519, rv uDROPPED, rv uDROPPED] [(.ref a519)]))
        obtain ⟨cq693, kq694, qa695, qb696, qc697⟩ := isOf hZ e674 F_0637
        obtain ⟨_, _, ⟨T677, L679, k680, n681⟩, -, X678, ⟨Lc682, hQ683, l684, y685, z686⟩, st687⟩ := X673.virtualBack hx (y := (⟨"com/example/forward_horizon/forwardhorizon/engine/Event", "outcome", "()Lcom/example/forward_horizon/forwardhorizon/engine/Outcome;"⟩ : MethodName)) (z := (⟨"com/example/forward_horizon/forwardhorizon/engine/Event", "outcome", "()Lcom/example/forward_horizon/forwardhorizon/engine/Outcome;"⟩ : MethodName)) hown (mvT hZ (tw hw 66 rfl)) (mvT hZ (tw hw 67 rfl)) (notFace_of_selects (args := #[]) (mvT hZ (tw hw 69 rfl))) (mvT hZ (tw hw 69 rfl)) (mvT hZ (tw hw 68 rfl)) (by decide) (backOf (W := 0) (rmOU l Z a0 hw [] a519 (0 : Int32) (1 : Int32) uDROPPED uPROCESSED uFAILED uDROPPED T614.heap n0 Z644 F_1638 F_2639 (by first | rfl | simp) O645 SPROCESSED SFAILED SDROPPED) hZ (tw hw 70 rfl) (tw hw 2 rfl) (by decide) (by decide)) qa695 qc697 (g := (mkF m 147 #[iv p1, .val (.long p2), .second, iv 0, iv 1, iv 1, rv a519, rv uDROPPED, rv uDROPPED] [(.ref a519)])) rfl (by rw [hml]; rfl) (Steps.refl _) (argsL := []) (rest := []) (lenOf pdOU rfl) rfl (by show 2 * 0 + _ ≤ _; exact Nat.le_of_eq rfl) (hb hby at_147) (fun _ _ => ⟨rfl, e674, (Nat.le_of_ble_eq_true rfl), (Nat.le_of_ble_eq_true rfl)⟩)
        dsimp only [Pt.U, Pt.locs, Pt.cells, Pt.slots] at X678 l684 y685 z686 st687 hQ683
        subst l684 y685 z686
        obtain ⟨rfl, N698, e689⟩ := hQ683
        have N688 := Fr.app N658 N698
        refine Way.to st687 ?_
        show Way _ _ _ _ (T677.setTop (mkF m 150 #[iv p1, .val (.long p2), .second, iv 0, iv 1, iv 1, rv a519, rv uDROPPED, rv uDROPPED] [(.ref uDROPPED)]))
        refine Way.by (fun _ k => XS.aload X678.here hx rfl (hb hby at_150) rfl rfl k) ?_
        show Way _ _ _ _ (T677.setTop (mkF m 152 #[iv p1, .val (.long p2), .second, iv 0, iv 1, iv 1, rv a519, rv uDROPPED, rv uDROPPED] [(.ref uDROPPED), (.ref uDROPPED)]))
        have b700 : uDROPPED = uDROPPED := rfl
        refine Way.by (fun _ k => acmp X678 hx rfl rfl rfl (pc0 := 152) (pc' := 155) (same := true) rfl (hb hby at_152) rfl (by simp [b700]) (by decide) (by decide) k) ?_
        show Way _ _ _ _ (T677.setTop (mkF m 155 #[iv p1, .val (.long p2), .second, iv 0, iv 1, iv 1, rv a519, rv uDROPPED, rv uDROPPED] []))
        refine Way.by (fun _ k => XS.iconst X678.here hx rfl (hb hby at_155) k) ?_
        show Way _ _ _ _ (T677.setTop (mkF m 156 #[iv p1, .val (.long p2), .second, iv 0, iv 1, iv 1, rv a519, rv uDROPPED, rv uDROPPED] [(.int 1)]))
        refine Way.by (fun _ k => XS.goto X678.here hx rfl (pc0 := 156) (pc' := 160) rfl (hb hby at_156) (by decide) (by decide) k) ?_
        show Way _ _ _ _ (T677.setTop (mkF m 160 #[iv p1, .val (.long p2), .second, iv 0, iv 1, iv 1, rv a519, rv uDROPPED, rv uDROPPED] [(.int 1)]))
        refine Way.ret (v := (some (.int (nar .boolean (1 : Int32))))) X678 hlk (fun h => by rw [Bd.returns] at h; cases h) (fun fs hr => retN X678 hx (t := .boolean) Bd.returns (by simp) (hb hby at_160) hr) ?_ (by decide) (by decide)
        show Q0 n0 _ T677.heap _
        rw [e689]
        exact ⟨rfl, N688⟩
  · skip
    refine Way.by (fun _ k => XS.ifNo X0.here hx rfl (hb hby at_3) rfl ((if0 .eq _).trans (feq b1).1) k) ?_
    show Way _ _ _ _ (s₁.setTop (mkF m 6 #[iv p1, .val (.long p2), .second, .unset, .unset, .unset, .unset, .unset, .unset] []))
    refine Way.by (fun _ k => XS.iconst X0.here hx rfl (hb hby at_6) k) ?_
    show Way _ _ _ _ (s₁.setTop (mkF m 7 #[iv p1, .val (.long p2), .second, .unset, .unset, .unset, .unset, .unset, .unset] [(.int 1)]))
    refine Way.by (fun _ k => XS.goto X0.here hx rfl (pc0 := 7) (pc' := 11) rfl (hb hby at_7) (by decide) (by decide) k) ?_
    show Way _ _ _ _ (s₁.setTop (mkF m 11 #[iv p1, .val (.long p2), .second, .unset, .unset, .unset, .unset, .unset, .unset] [(.int 1)]))
    refine Way.by (fun _ k => XS.istoreN X0.here hx rfl (hb hby at_11) rfl (l' := #[iv p1, .val (.long p2), .second, iv 1, .unset, .unset, .unset, .unset, .unset]) rfl k) ?_
    show Way _ _ _ _ (s₁.setTop (mkF m 12 #[iv p1, .val (.long p2), .second, iv 1, .unset, .unset, .unset, .unset, .unset] []))
    refine Way.by (fun _ k => XS.iloadN X0.here hx rfl (hb hby at_12) rfl k) ?_
    show Way _ _ _ _ (s₁.setTop (mkF m 13 #[iv p1, .val (.long p2), .second, iv 1, .unset, .unset, .unset, .unset, .unset] [(.int p1)]))
    refine Way.by (fun _ k => XS.iconst X0.here hx rfl (hb hby at_13) k) ?_
    show Way _ _ _ _ (s₁.setTop (mkF m 14 #[iv p1, .val (.long p2), .second, iv 1, .unset, .unset, .unset, .unset, .unset] [(.int 2), (.int p1)]))
    refine Way.by (fun _ k => XS.iand X0.here hx rfl (hb hby at_14) rfl k) ?_
    show Way _ _ _ _ (s₁.setTop (mkF m 15 #[iv p1, .val (.long p2), .second, iv 1, .unset, .unset, .unset, .unset, .unset] [(.int (p1 &&& (2 : Int32)))]))
    by_cases b701 : (p1 &&& (2 : Int32)) = (0 : Int32)
    · skip
      refine Way.by (fun _ k => XS.ifYes X0.here hx rfl (pc0 := 15) (pc' := 22) rfl (hb hby at_15) rfl ((if0 .eq _).trans (teq b701).1) (by decide) (by decide) k) ?_
      show Way _ _ _ _ (s₁.setTop (mkF m 22 #[iv p1, .val (.long p2), .second, iv 1, .unset, .unset, .unset, .unset, .unset] []))
      refine Way.by (fun _ k => XS.iconst X0.here hx rfl (hb hby at_22) k) ?_
      show Way _ _ _ _ (s₁.setTop (mkF m 23 #[iv p1, .val (.long p2), .second, iv 1, .unset, .unset, .unset, .unset, .unset] [(.int 0)]))
      refine Way.by (fun _ k => XS.istore X0.here hx rfl (hb hby at_23) rfl (l' := #[iv p1, .val (.long p2), .second, iv 1, iv 0, .unset, .unset, .unset, .unset]) rfl k) ?_
      show Way _ _ _ _ (s₁.setTop (mkF m 25 #[iv p1, .val (.long p2), .second, iv 1, iv 0, .unset, .unset, .unset, .unset] []))
      refine Way.by (fun _ k => XS.iloadN X0.here hx rfl (hb hby at_25) rfl k) ?_
      show Way _ _ _ _ (s₁.setTop (mkF m 26 #[iv p1, .val (.long p2), .second, iv 1, iv 0, .unset, .unset, .unset, .unset] [(.int p1)]))
      refine Way.by (fun _ k => XS.iconst X0.here hx rfl (hb hby at_26) k) ?_
      show Way _ _ _ _ (s₁.setTop (mkF m 27 #[iv p1, .val (.long p2), .second, iv 1, iv 0, .unset, .unset, .unset, .unset] [(.int 4), (.int p1)]))
      refine Way.by (fun _ k => XS.iand X0.here hx rfl (hb hby at_27) rfl k) ?_
      show Way _ _ _ _ (s₁.setTop (mkF m 28 #[iv p1, .val (.long p2), .second, iv 1, iv 0, .unset, .unset, .unset, .unset] [(.int (p1 &&& (4 : Int32)))]))
      by_cases b702 : (p1 &&& (4 : Int32)) = (0 : Int32)
      · skip
        refine Way.by (fun _ k => XS.ifYes X0.here hx rfl (pc0 := 28) (pc' := 35) rfl (hb hby at_28) rfl ((if0 .eq _).trans (teq b702).1) (by decide) (by decide) k) ?_
        show Way _ _ _ _ (s₁.setTop (mkF m 35 #[iv p1, .val (.long p2), .second, iv 1, iv 0, .unset, .unset, .unset, .unset] []))
        refine Way.by (fun _ k => XS.iconst X0.here hx rfl (hb hby at_35) k) ?_
        show Way _ _ _ _ (s₁.setTop (mkF m 36 #[iv p1, .val (.long p2), .second, iv 1, iv 0, .unset, .unset, .unset, .unset] [(.int 0)]))
        refine Way.by (fun _ k => XS.istore X0.here hx rfl (hb hby at_36) rfl (l' := #[iv p1, .val (.long p2), .second, iv 1, iv 0, iv 0, .unset, .unset, .unset]) rfl k) ?_
        show Way _ _ _ _ (s₁.setTop (mkF m 38 #[iv p1, .val (.long p2), .second, iv 1, iv 0, iv 0, .unset, .unset, .unset] []))
        obtain ⟨T703, h704, X705, e706, E707, A708, D709, -, st710⟩ := newO X0 hx hZ hown (tw hw 0 rfl) (tw hw 1 rfl) (tw hw 2 rfl) e0 (g := (mkF m 38 #[iv p1, .val (.long p2), .second, iv 1, iv 0, iv 0, .unset, .unset, .unset] [])) rfl (hb hby at_38) (by decide) (by decide)
        obtain ⟨a711, g712⟩ : ∃ z, z = h0.size := ⟨_, rfl⟩
        rw [← g712] at A708 D709 st710
        have nw713 : n0 ≤ a711 := Nat.le_trans Z0 (Nat.le_of_eq g712.symm)
        have Z714 := Nat.le_trans Z0 E707.1
        have O715 := O0.ext E707
        have F716 : Fld Z h704 a711 "com/example/forward_horizon/forwardhorizon/engine/Event" "holds" "Ljava/util/concurrent/atomic/AtomicInteger;" .null := D709 (Or.inr (tw hw 49 rfl)) (ty := (.object "java/util/concurrent/atomic/AtomicInteger")) (by decide)
        have F717 : Fld Z h704 a711 "com/example/forward_horizon/forwardhorizon/engine/Event" "fields" "Ljava/util/List;" .null := D709 (Or.inr (tw hw 51 rfl)) (ty := (.object "java/util/List")) (by decide)
        have F718 : Fld Z h704 a711 "com/example/forward_horizon/forwardhorizon/engine/Event" "releaseNanos" "J" (.long (0 : Int64)) := D709 (Or.inr (tw hw 53 rfl)) (ty := .long) (by decide)
        have F719 : Fld Z h704 a711 "com/example/forward_horizon/forwardhorizon/engine/Event" "lastEndNanos" "Ljava/util/concurrent/atomic/AtomicLong;" .null := D709 (Or.inr (tw hw 65 rfl)) (ty := (.object "java/util/concurrent/atomic/AtomicLong")) (by decide)
        have F720 : Fld Z h704 a711 "com/example/forward_horizon/forwardhorizon/engine/Event" "failed" "Z" (.int 0) := D709 (Or.inl (tw hw 72 rfl)) (ty := .boolean) (by decide)
        have F721 : Fld Z h704 a711 "com/example/forward_horizon/forwardhorizon/engine/Event" "dropped" "Z" (.int 0) := D709 (Or.inl (tw hw 74 rfl)) (ty := .boolean) (by decide)
        refine Way.by st710 ?_
        show Way _ _ _ _ (T703.setTop (mkF m 41 #[iv p1, .val (.long p2), .second, iv 1, iv 0, iv 0, .unset, .unset, .unset] [(.ref a711)]))
        refine Way.by (fun _ k => XS.dup X705.here hx rfl (hb hby at_41) rfl rfl k) ?_
        show Way _ _ _ _ (T703.setTop (mkF m 42 #[iv p1, .val (.long p2), .second, iv 1, iv 0, iv 0, .unset, .unset, .unset] [(.ref a711), (.ref a711)]))
        obtain ⟨T722, h723, X724, e725, E726, A727, D728, -, st729⟩ := newO X705 hx hZ hown (tw hw 3 rfl) (tw hw 4 rfl) (tw hw 5 rfl) e706 (g := (mkF m 42 #[iv p1, .val (.long p2), .second, iv 1, iv 0, iv 0, .unset, .unset, .unset] [(.ref a711), (.ref a711)])) rfl (hb hby at_42) (by decide) (by decide)
        obtain ⟨a730, g731⟩ : ∃ z, z = h704.size := ⟨_, rfl⟩
        rw [← g731] at A727 D728 st729
        have ne732 : a711 ≠ a730 := Nat.ne_of_lt (Nat.lt_of_lt_of_eq A708.lt g731.symm)
        have nw733 : n0 ≤ a730 := Nat.le_trans Z714 (Nat.le_of_eq g731.symm)
        have E734 := Exa.ext E726 A708
        have F735 := Fld.ext E726 F716
        have F736 := Fld.ext E726 F717
        have F737 := Fld.ext E726 F718
        have F738 := Fld.ext E726 F719
        have F739 := Fld.ext E726 F720
        have F740 := Fld.ext E726 F721
        have Z741 := Nat.le_trans Z714 E726.1
        have O742 := O715.ext E726
        have F743 : Fld Z h723 a730 "java/util/AbstractList" "modCount" "I" (.int 0) := D728 (Or.inl (tw hw 25 rfl)) (ty := .int) (by decide)
        have F744 : Fld Z h723 a730 "java/util/ArrayList" "elementData" "[Ljava/lang/Object;" .null := D728 (Or.inl (tw hw 28 rfl)) (ty := (.array (.object "java/lang/Object"))) (by decide)
        refine Way.by st729 ?_
        show Way _ _ _ _ (T722.setTop (mkF m 45 #[iv p1, .val (.long p2), .second, iv 1, iv 0, iv 0, .unset, .unset, .unset] [(.ref a730), (.ref a711), (.ref a711)]))
        refine Way.by (fun _ k => XS.dup X724.here hx rfl (hb hby at_45) rfl rfl k) ?_
        show Way _ _ _ _ (T722.setTop (mkF m 46 #[iv p1, .val (.long p2), .second, iv 1, iv 0, iv 0, .unset, .unset, .unset] [(.ref a730), (.ref a730), (.ref a711), (.ref a711)]))
        obtain ⟨_, _, ⟨T745, L747, k748, n749⟩, -, X746, ⟨Lc750, hQ751, l752, y753, z754⟩, st755⟩ := X724.specialBack hx (y := (⟨"java/util/ArrayList", "<init>", "()V"⟩ : MethodName)) rfl hown (mvT hZ (tw hw 6 rfl)) (mvT hZ (tw hw 7 rfl)) (mvT hZ (tw hw 8 rfl)) (by decide) (backOf (W := 3) (rmA0 l Z a0 hw [] a730 de h723 n0 Z741 A727 F743 F744 nw733 O742 SDE) hZ (tw hw 8 rfl) (tw hw 5 rfl) (by decide) (by decide)) (g := (mkF m 46 #[iv p1, .val (.long p2), .second, iv 1, iv 0, iv 0, .unset, .unset, .unset] [(.ref a730), (.ref a730), (.ref a711), (.ref a711)])) rfl (by rw [hml]; rfl) (Steps.refl _) (a := a730) (argsL := []) (rest := [(.ref a730), (.ref a711), (.ref a711)]) (lenOf pdA0 rfl) rfl (by show 2 * 0 + _ ≤ _; exact Nat.le_of_eq rfl) (hb hby at_46) (fun _ _ => ⟨rfl, e725, (Nat.le_of_ble_eq_true rfl), (Nat.le_of_ble_eq_true rfl)⟩)
        dsimp only [Pt.U, Pt.locs, Pt.cells, Pt.slots] at X746 l752 y753 z754 st755 hQ751
        subst l752 y753 z754
        obtain ⟨rfl, N761, K762, F_0763, F_1764, F_2765⟩ := hQ751
        have N756 := Fr.app N0 N761
        have E766 := E734.keep K762
        have F767 := F735.keep K762 (ninS ne732 nin0)
        have F768 := F736.keep K762 (ninS ne732 nin0)
        have F769 := F737.keep K762 (ninS ne732 nin0)
        have F770 := F738.keep K762 (ninS ne732 nin0)
        have F771 := F739.keep K762 (ninS ne732 nin0)
        have F772 := F740.keep K762 (ninS ne732 nin0)
        have E773 := A727.keep K762
        have Z774 := Nat.le_trans Z741 K762.1
        have O775 := O742.keep K762 (allS nw733 all0)
        refine Way.to st755 ?_
        show Way _ _ _ _ (T745.setTop (mkF m 49 #[iv p1, .val (.long p2), .second, iv 1, iv 0, iv 0, .unset, .unset, .unset] [(.ref a730), (.ref a711), (.ref a711)]))
        refine Way.by (fun _ k => XT.lloadN X746.here hx rfl (hb hby at_49) rfl k) ?_
        show Way _ _ _ _ (T745.setTop (mkF m 50 #[iv p1, .val (.long p2), .second, iv 1, iv 0, iv 0, .unset, .unset, .unset] [(.long p2), (.ref a730), (.ref a711), (.ref a711)]))
        obtain ⟨_, _, ⟨T776, L778, k779, n780⟩, -, X777, ⟨Lc781, hQ782, l783, y784, z785⟩, st786⟩ := X746.specialBack hx (y := (⟨"com/example/forward_horizon/forwardhorizon/engine/Event", "<init>", "(Ljava/util/List;J)V"⟩ : MethodName)) rfl hown (mvT hZ (tw hw 29 rfl)) (mvT hZ (tw hw 30 rfl)) (mvT hZ (tw hw 31 rfl)) (by decide) (backOf (W := 1) (rmT l Z a0 hw [] a711 a730 p2 T745.heap n0 Z774 E766 F767 F768 F769 F770 F771 F772 nw713) hZ (tw hw 31 rfl) (tw hw 2 rfl) (by decide) (by decide)) (g := (mkF m 50 #[iv p1, .val (.long p2), .second, iv 1, iv 0, iv 0, .unset, .unset, .unset] [(.long p2), (.ref a730), (.ref a711), (.ref a711)])) rfl (by rw [hml]; rfl) (Steps.refl _) (a := a711) (argsL := [(.ref a730), (.long p2)]) (rest := [(.ref a711)]) (lenOf pdT rfl) rfl (by show 2 * 0 + _ ≤ _; exact Nat.le_of_eq rfl) (hb hby at_50) (fun _ _ => ⟨rfl, rfl, (Nat.le_of_ble_eq_true rfl), (Nat.le_of_ble_eq_true rfl)⟩)
        dsimp only [Pt.U, Pt.locs, Pt.cells, Pt.slots] at X777 l783 y784 z785 st786 hQ782
        subst l783 y784 z785
        obtain ⟨rfl, N792, K793, F_0794, F_1795, F_2796, F_3797⟩ := hQ782
        have N787 := Fr.app N756 N792
        have E798 := E766.keep K793
        have E799 := F_0763.keep K793
        have F800 := F_1764.keep K793 (ninS ne732.symm nin0)
        have F801 := F_2765.keep K793 (ninS ne732.symm nin0)
        have Z802 := Nat.le_trans Z774 K793.1
        have O803 := O775.keep K793 (allS nw713 all0)
        refine Way.to st786 ?_
        show Way _ _ _ _ (T776.setTop (mkF m 53 #[iv p1, .val (.long p2), .second, iv 1, iv 0, iv 0, .unset, .unset, .unset] [(.ref a711)]))
        refine Way.by (fun _ k => XS.astore X777.here hx rfl (hb hby at_53) rfl rfl (l' := #[iv p1, .val (.long p2), .second, iv 1, iv 0, iv 0, rv a711, .unset, .unset]) rfl k) ?_
        show Way _ _ _ _ (T776.setTop (mkF m 55 #[iv p1, .val (.long p2), .second, iv 1, iv 0, iv 0, rv a711, .unset, .unset] []))
        refine Way.by (fun _ k => XS.iload X777.here hx rfl (hb hby at_55) rfl k) ?_
        show Way _ _ _ _ (T776.setTop (mkF m 57 #[iv p1, .val (.long p2), .second, iv 1, iv 0, iv 0, rv a711, .unset, .unset] [(.int 0)]))
        have b804 : (0 : Int32) = (0 : Int32) := by decide
        refine Way.by (fun _ k => XS.ifYes X777.here hx rfl (pc0 := 57) (pc' := 82) rfl (hb hby at_57) rfl ((if0 .eq _).trans (teq b804).1) (by decide) (by decide) k) ?_
        show Way _ _ _ _ (T776.setTop (mkF m 82 #[iv p1, .val (.long p2), .second, iv 1, iv 0, iv 0, rv a711, .unset, .unset] []))
        refine Way.by (fun _ k => XS.iloadN X777.here hx rfl (hb hby at_82) rfl k) ?_
        show Way _ _ _ _ (T776.setTop (mkF m 83 #[iv p1, .val (.long p2), .second, iv 1, iv 0, iv 0, rv a711, .unset, .unset] [(.int 1)]))
        have b805 : ¬ (1 : Int32) = (0 : Int32) := by decide
        refine Way.by (fun _ k => XS.ifNo X777.here hx rfl (hb hby at_83) rfl ((if0 .eq _).trans (feq b805).1) k) ?_
        show Way _ _ _ _ (T776.setTop (mkF m 86 #[iv p1, .val (.long p2), .second, iv 1, iv 0, iv 0, rv a711, .unset, .unset] []))
        refine Way.by (fun _ k => XS.aload X777.here hx rfl (hb hby at_86) rfl rfl k) ?_
        show Way _ _ _ _ (T776.setTop (mkF m 88 #[iv p1, .val (.long p2), .second, iv 1, iv 0, iv 0, rv a711, .unset, .unset] [(.ref a711)]))
        obtain ⟨cq822, kq823, qa824, qb825, qc826⟩ := isOf hZ rfl F_0794
        obtain ⟨_, _, ⟨T806, L808, k809, n810⟩, -, X807, ⟨Lc811, hQ812, l813, y814, z815⟩, st816⟩ := X777.virtualBack hx (y := (⟨"com/example/forward_horizon/forwardhorizon/engine/Event", "markFailed", "()V"⟩ : MethodName)) (z := (⟨"com/example/forward_horizon/forwardhorizon/engine/Event", "markFailed", "()V"⟩ : MethodName)) hown (mvT hZ (tw hw 79 rfl)) (mvT hZ (tw hw 80 rfl)) (notFace_of_selects (args := #[]) (mvT hZ (tw hw 82 rfl))) (mvT hZ (tw hw 82 rfl)) (mvT hZ (tw hw 81 rfl)) (by decide) (backOf (W := 0) (rmMF l Z a0 hw [] a711 (0 : Int32) (0 : Int32) T776.heap n0 Z802 F_0794 F_1795 F_2796 nw713) hZ (tw hw 83 rfl) (tw hw 2 rfl) (by decide) (by decide)) qa824 qc826 (g := (mkF m 88 #[iv p1, .val (.long p2), .second, iv 1, iv 0, iv 0, rv a711, .unset, .unset] [(.ref a711)])) rfl (by rw [hml]; rfl) (Steps.refl _) (argsL := []) (rest := []) (lenOf pdMF rfl) rfl (by show 2 * 0 + _ ≤ _; exact Nat.le_of_eq rfl) (hb hby at_88) (fun _ _ => ⟨rfl, rfl, (Nat.le_of_ble_eq_true rfl), (Nat.le_of_ble_eq_true rfl)⟩)
        dsimp only [Pt.U, Pt.locs, Pt.cells, Pt.slots] at X807 l813 y814 z815 st816 hQ812
        subst l813 y814 z815
        obtain ⟨rfl, N827, K828, F_0829, F_1830, F_2831⟩ := hQ812
        have N817 := Fr.app N787 N827
        have E832 := F_0794.keep K828
        have E833 := E799.keep K828
        have F834 := F800.keep K828 (ninS ne732.symm nin0)
        have F835 := F801.keep K828 (ninS ne732.symm nin0)
        have Z836 := Nat.le_trans Z802 K828.1
        have O837 := O803.keep K828 (allS nw713 all0)
        refine Way.to st816 ?_
        show Way _ _ _ _ (T806.setTop (mkF m 91 #[iv p1, .val (.long p2), .second, iv 1, iv 0, iv 0, rv a711, .unset, .unset] []))
        refine Way.by (fun _ k => XS.iload X807.here hx rfl (hb hby at_91) rfl k) ?_
        show Way _ _ _ _ (T806.setTop (mkF m 93 #[iv p1, .val (.long p2), .second, iv 1, iv 0, iv 0, rv a711, .unset, .unset] [(.int 0)]))
        have b838 : (0 : Int32) = (0 : Int32) := by decide
        refine Way.by (fun _ k => XS.ifYes X807.here hx rfl (pc0 := 93) (pc' := 101) rfl (hb hby at_93) rfl ((if0 .eq _).trans (teq b838).1) (by decide) (by decide) k) ?_
        show Way _ _ _ _ (T806.setTop (mkF m 101 #[iv p1, .val (.long p2), .second, iv 1, iv 0, iv 0, rv a711, .unset, .unset] []))
        refine Way.by (fun _ k => XS.aload X807.here hx rfl (hb hby at_101) rfl rfl k) ?_
        show Way _ _ _ _ (T806.setTop (mkF m 103 #[iv p1, .val (.long p2), .second, iv 1, iv 0, iv 0, rv a711, .unset, .unset] [(.ref a711)]))
        obtain ⟨cq855, kq856, qa857, qb858, qc859⟩ := isOf hZ rfl F_0829
        obtain ⟨_, _, ⟨T839, L841, k842, n843⟩, -, X840, ⟨Lc844, hQ845, l846, y847, z848⟩, st849⟩ := X807.virtualBack hx (y := (⟨"com/example/forward_horizon/forwardhorizon/engine/Event", "outcome", "()Lcom/example/forward_horizon/forwardhorizon/engine/Outcome;"⟩ : MethodName)) (z := (⟨"com/example/forward_horizon/forwardhorizon/engine/Event", "outcome", "()Lcom/example/forward_horizon/forwardhorizon/engine/Outcome;"⟩ : MethodName)) hown (mvT hZ (tw hw 66 rfl)) (mvT hZ (tw hw 67 rfl)) (notFace_of_selects (args := #[]) (mvT hZ (tw hw 69 rfl))) (mvT hZ (tw hw 69 rfl)) (mvT hZ (tw hw 68 rfl)) (by decide) (backOf (W := 0) (rmOU l Z a0 hw [] a711 (1 : Int32) (0 : Int32) uFAILED uPROCESSED uFAILED uDROPPED T806.heap n0 Z836 F_1830 F_2831 (by first | rfl | simp) O837 SPROCESSED SFAILED SDROPPED) hZ (tw hw 70 rfl) (tw hw 2 rfl) (by decide) (by decide)) qa857 qc859 (g := (mkF m 103 #[iv p1, .val (.long p2), .second, iv 1, iv 0, iv 0, rv a711, .unset, .unset] [(.ref a711)])) rfl (by rw [hml]; rfl) (Steps.refl _) (argsL := []) (rest := []) (lenOf pdOU rfl) rfl (by show 2 * 0 + _ ≤ _; exact Nat.le_of_eq rfl) (hb hby at_103) (fun _ _ => ⟨rfl, rfl, (Nat.le_of_ble_eq_true rfl), (Nat.le_of_ble_eq_true rfl)⟩)
        dsimp only [Pt.U, Pt.locs, Pt.cells, Pt.slots] at X840 l846 y847 z848 st849 hQ845
        subst l846 y847 z848
        obtain ⟨rfl, N860, e851⟩ := hQ845
        have N850 := Fr.app N817 N860
        refine Way.to st849 ?_
        show Way _ _ _ _ (T839.setTop (mkF m 106 #[iv p1, .val (.long p2), .second, iv 1, iv 0, iv 0, rv a711, .unset, .unset] [(.ref uFAILED)]))
        refine Way.by (fun _ k => XS.astore X840.here hx rfl (hb hby at_106) rfl rfl (l' := #[iv p1, .val (.long p2), .second, iv 1, iv 0, iv 0, rv a711, rv uFAILED, .unset]) rfl k) ?_
        show Way _ _ _ _ (T839.setTop (mkF m 108 #[iv p1, .val (.long p2), .second, iv 1, iv 0, iv 0, rv a711, rv uFAILED, .unset] []))
        refine Way.by (fun _ k => XS.iloadN X840.here hx rfl (hb hby at_108) rfl k) ?_
        show Way _ _ _ _ (T839.setTop (mkF m 109 #[iv p1, .val (.long p2), .second, iv 1, iv 0, iv 0, rv a711, rv uFAILED, .unset] [(.int 1)]))
        have b862 : ¬ (1 : Int32) = (0 : Int32) := by decide
        refine Way.by (fun _ k => XS.ifNo X840.here hx rfl (hb hby at_109) rfl ((if0 .eq _).trans (feq b862).1) k) ?_
        show Way _ _ _ _ (T839.setTop (mkF m 112 #[iv p1, .val (.long p2), .second, iv 1, iv 0, iv 0, rv a711, rv uFAILED, .unset] []))
        obtain ⟨T863, X864, e865, st866⟩ := getS X840 hx hZ hown (host := "") (tw hw 86 rfl) Via.refl e851 (Sta.ext O837.2 SFAILED) (g := (mkF m 112 #[iv p1, .val (.long p2), .second, iv 1, iv 0, iv 0, rv a711, rv uFAILED, .unset] [])) rfl (hb hby at_112)
        refine Way.by st866 ?_
        show Way _ _ _ _ (T863.setTop (mkF m 115 #[iv p1, .val (.long p2), .second, iv 1, iv 0, iv 0, rv a711, rv uFAILED, .unset] [(.ref uFAILED)]))
        refine Way.by (fun _ k => XS.astore X864.here hx rfl (hb hby at_115) rfl rfl (l' := #[iv p1, .val (.long p2), .second, iv 1, iv 0, iv 0, rv a711, rv uFAILED, rv uFAILED]) rfl k) ?_
        show Way _ _ _ _ (T863.setTop (mkF m 117 #[iv p1, .val (.long p2), .second, iv 1, iv 0, iv 0, rv a711, rv uFAILED, rv uFAILED] []))
        refine Way.by (fun _ k => XS.goto X864.here hx rfl (pc0 := 117) (pc' := 138) rfl (hb hby at_117) (by decide) (by decide) k) ?_
        show Way _ _ _ _ (T863.setTop (mkF m 138 #[iv p1, .val (.long p2), .second, iv 1, iv 0, iv 0, rv a711, rv uFAILED, rv uFAILED] []))
        refine Way.by (fun _ k => XS.aload X864.here hx rfl (hb hby at_138) rfl rfl k) ?_
        show Way _ _ _ _ (T863.setTop (mkF m 140 #[iv p1, .val (.long p2), .second, iv 1, iv 0, iv 0, rv a711, rv uFAILED, rv uFAILED] [(.ref uFAILED)]))
        refine Way.by (fun _ k => XS.aload X864.here hx rfl (hb hby at_140) rfl rfl k) ?_
        show Way _ _ _ _ (T863.setTop (mkF m 142 #[iv p1, .val (.long p2), .second, iv 1, iv 0, iv 0, rv a711, rv uFAILED, rv uFAILED] [(.ref uFAILED), (.ref uFAILED)]))
        have b867 : uFAILED = uFAILED := rfl
        refine Way.by (fun _ k => acmp X864 hx rfl rfl rfl (pc0 := 142) (pc' := 145) (same := true) rfl (hb hby at_142) rfl (by simp [b867]) (by decide) (by decide) k) ?_
        show Way _ _ _ _ (T863.setTop (mkF m 145 #[iv p1, .val (.long p2), .second, iv 1, iv 0, iv 0, rv a711, rv uFAILED, rv uFAILED] []))
        refine Way.by (fun _ k => XS.aload X864.here hx rfl (hb hby at_145) rfl rfl k) ?_
        show Way _ _ _ _ (T863.setTop (mkF m 147 #[iv p1, .val (.long p2), .second, iv 1, iv 0, iv 0, rv a711, rv uFAILED, rv uFAILED] [(.ref a711)]))
        obtain ⟨cq884, kq885, qa886, qb887, qc888⟩ := isOf hZ e865 F_0829
        obtain ⟨_, _, ⟨T868, L870, k871, n872⟩, -, X869, ⟨Lc873, hQ874, l875, y876, z877⟩, st878⟩ := X864.virtualBack hx (y := (⟨"com/example/forward_horizon/forwardhorizon/engine/Event", "outcome", "()Lcom/example/forward_horizon/forwardhorizon/engine/Outcome;"⟩ : MethodName)) (z := (⟨"com/example/forward_horizon/forwardhorizon/engine/Event", "outcome", "()Lcom/example/forward_horizon/forwardhorizon/engine/Outcome;"⟩ : MethodName)) hown (mvT hZ (tw hw 66 rfl)) (mvT hZ (tw hw 67 rfl)) (notFace_of_selects (args := #[]) (mvT hZ (tw hw 69 rfl))) (mvT hZ (tw hw 69 rfl)) (mvT hZ (tw hw 68 rfl)) (by decide) (backOf (W := 0) (rmOU l Z a0 hw [] a711 (1 : Int32) (0 : Int32) uFAILED uPROCESSED uFAILED uDROPPED T806.heap n0 Z836 F_1830 F_2831 (by first | rfl | simp) O837 SPROCESSED SFAILED SDROPPED) hZ (tw hw 70 rfl) (tw hw 2 rfl) (by decide) (by decide)) qa886 qc888 (g := (mkF m 147 #[iv p1, .val (.long p2), .second, iv 1, iv 0, iv 0, rv a711, rv uFAILED, rv uFAILED] [(.ref a711)])) rfl (by rw [hml]; rfl) (Steps.refl _) (argsL := []) (rest := []) (lenOf pdOU rfl) rfl (by show 2 * 0 + _ ≤ _; exact Nat.le_of_eq rfl) (hb hby at_147) (fun _ _ => ⟨rfl, e865, (Nat.le_of_ble_eq_true rfl), (Nat.le_of_ble_eq_true rfl)⟩)
        dsimp only [Pt.U, Pt.locs, Pt.cells, Pt.slots] at X869 l875 y876 z877 st878 hQ874
        subst l875 y876 z877
        obtain ⟨rfl, N889, e880⟩ := hQ874
        have N879 := Fr.app N850 N889
        refine Way.to st878 ?_
        show Way _ _ _ _ (T868.setTop (mkF m 150 #[iv p1, .val (.long p2), .second, iv 1, iv 0, iv 0, rv a711, rv uFAILED, rv uFAILED] [(.ref uFAILED)]))
        refine Way.by (fun _ k => XS.aload X869.here hx rfl (hb hby at_150) rfl rfl k) ?_
        show Way _ _ _ _ (T868.setTop (mkF m 152 #[iv p1, .val (.long p2), .second, iv 1, iv 0, iv 0, rv a711, rv uFAILED, rv uFAILED] [(.ref uFAILED), (.ref uFAILED)]))
        have b891 : uFAILED = uFAILED := rfl
        refine Way.by (fun _ k => acmp X869 hx rfl rfl rfl (pc0 := 152) (pc' := 155) (same := true) rfl (hb hby at_152) rfl (by simp [b891]) (by decide) (by decide) k) ?_
        show Way _ _ _ _ (T868.setTop (mkF m 155 #[iv p1, .val (.long p2), .second, iv 1, iv 0, iv 0, rv a711, rv uFAILED, rv uFAILED] []))
        refine Way.by (fun _ k => XS.iconst X869.here hx rfl (hb hby at_155) k) ?_
        show Way _ _ _ _ (T868.setTop (mkF m 156 #[iv p1, .val (.long p2), .second, iv 1, iv 0, iv 0, rv a711, rv uFAILED, rv uFAILED] [(.int 1)]))
        refine Way.by (fun _ k => XS.goto X869.here hx rfl (pc0 := 156) (pc' := 160) rfl (hb hby at_156) (by decide) (by decide) k) ?_
        show Way _ _ _ _ (T868.setTop (mkF m 160 #[iv p1, .val (.long p2), .second, iv 1, iv 0, iv 0, rv a711, rv uFAILED, rv uFAILED] [(.int 1)]))
        refine Way.ret (v := (some (.int (nar .boolean (1 : Int32))))) X869 hlk (fun h => by rw [Bd.returns] at h; cases h) (fun fs hr => retN X869 hx (t := .boolean) Bd.returns (by simp) (hb hby at_160) hr) ?_ (by decide) (by decide)
        show Q0 n0 _ T868.heap _
        rw [e880]
        exact ⟨rfl, N879⟩
      · skip
        refine Way.by (fun _ k => XS.ifNo X0.here hx rfl (hb hby at_28) rfl ((if0 .eq _).trans (feq b702).1) k) ?_
        show Way _ _ _ _ (s₁.setTop (mkF m 31 #[iv p1, .val (.long p2), .second, iv 1, iv 0, .unset, .unset, .unset, .unset] []))
        refine Way.by (fun _ k => XS.iconst X0.here hx rfl (hb hby at_31) k) ?_
        show Way _ _ _ _ (s₁.setTop (mkF m 32 #[iv p1, .val (.long p2), .second, iv 1, iv 0, .unset, .unset, .unset, .unset] [(.int 1)]))
        refine Way.by (fun _ k => XS.goto X0.here hx rfl (pc0 := 32) (pc' := 36) rfl (hb hby at_32) (by decide) (by decide) k) ?_
        show Way _ _ _ _ (s₁.setTop (mkF m 36 #[iv p1, .val (.long p2), .second, iv 1, iv 0, .unset, .unset, .unset, .unset] [(.int 1)]))
        refine Way.by (fun _ k => XS.istore X0.here hx rfl (hb hby at_36) rfl (l' := #[iv p1, .val (.long p2), .second, iv 1, iv 0, iv 1, .unset, .unset, .unset]) rfl k) ?_
        show Way _ _ _ _ (s₁.setTop (mkF m 38 #[iv p1, .val (.long p2), .second, iv 1, iv 0, iv 1, .unset, .unset, .unset] []))
        obtain ⟨T892, h893, X894, e895, E896, A897, D898, -, st899⟩ := newO X0 hx hZ hown (tw hw 0 rfl) (tw hw 1 rfl) (tw hw 2 rfl) e0 (g := (mkF m 38 #[iv p1, .val (.long p2), .second, iv 1, iv 0, iv 1, .unset, .unset, .unset] [])) rfl (hb hby at_38) (by decide) (by decide)
        obtain ⟨a900, g901⟩ : ∃ z, z = h0.size := ⟨_, rfl⟩
        rw [← g901] at A897 D898 st899
        have nw902 : n0 ≤ a900 := Nat.le_trans Z0 (Nat.le_of_eq g901.symm)
        have Z903 := Nat.le_trans Z0 E896.1
        have O904 := O0.ext E896
        have F905 : Fld Z h893 a900 "com/example/forward_horizon/forwardhorizon/engine/Event" "holds" "Ljava/util/concurrent/atomic/AtomicInteger;" .null := D898 (Or.inr (tw hw 49 rfl)) (ty := (.object "java/util/concurrent/atomic/AtomicInteger")) (by decide)
        have F906 : Fld Z h893 a900 "com/example/forward_horizon/forwardhorizon/engine/Event" "fields" "Ljava/util/List;" .null := D898 (Or.inr (tw hw 51 rfl)) (ty := (.object "java/util/List")) (by decide)
        have F907 : Fld Z h893 a900 "com/example/forward_horizon/forwardhorizon/engine/Event" "releaseNanos" "J" (.long (0 : Int64)) := D898 (Or.inr (tw hw 53 rfl)) (ty := .long) (by decide)
        have F908 : Fld Z h893 a900 "com/example/forward_horizon/forwardhorizon/engine/Event" "lastEndNanos" "Ljava/util/concurrent/atomic/AtomicLong;" .null := D898 (Or.inr (tw hw 65 rfl)) (ty := (.object "java/util/concurrent/atomic/AtomicLong")) (by decide)
        have F909 : Fld Z h893 a900 "com/example/forward_horizon/forwardhorizon/engine/Event" "failed" "Z" (.int 0) := D898 (Or.inl (tw hw 72 rfl)) (ty := .boolean) (by decide)
        have F910 : Fld Z h893 a900 "com/example/forward_horizon/forwardhorizon/engine/Event" "dropped" "Z" (.int 0) := D898 (Or.inl (tw hw 74 rfl)) (ty := .boolean) (by decide)
        refine Way.by st899 ?_
        show Way _ _ _ _ (T892.setTop (mkF m 41 #[iv p1, .val (.long p2), .second, iv 1, iv 0, iv 1, .unset, .unset, .unset] [(.ref a900)]))
        refine Way.by (fun _ k => XS.dup X894.here hx rfl (hb hby at_41) rfl rfl k) ?_
        show Way _ _ _ _ (T892.setTop (mkF m 42 #[iv p1, .val (.long p2), .second, iv 1, iv 0, iv 1, .unset, .unset, .unset] [(.ref a900), (.ref a900)]))
        obtain ⟨T911, h912, X913, e914, E915, A916, D917, -, st918⟩ := newO X894 hx hZ hown (tw hw 3 rfl) (tw hw 4 rfl) (tw hw 5 rfl) e895 (g := (mkF m 42 #[iv p1, .val (.long p2), .second, iv 1, iv 0, iv 1, .unset, .unset, .unset] [(.ref a900), (.ref a900)])) rfl (hb hby at_42) (by decide) (by decide)
        obtain ⟨a919, g920⟩ : ∃ z, z = h893.size := ⟨_, rfl⟩
        rw [← g920] at A916 D917 st918
        have ne921 : a900 ≠ a919 := Nat.ne_of_lt (Nat.lt_of_lt_of_eq A897.lt g920.symm)
        have nw922 : n0 ≤ a919 := Nat.le_trans Z903 (Nat.le_of_eq g920.symm)
        have E923 := Exa.ext E915 A897
        have F924 := Fld.ext E915 F905
        have F925 := Fld.ext E915 F906
        have F926 := Fld.ext E915 F907
        have F927 := Fld.ext E915 F908
        have F928 := Fld.ext E915 F909
        have F929 := Fld.ext E915 F910
        have Z930 := Nat.le_trans Z903 E915.1
        have O931 := O904.ext E915
        have F932 : Fld Z h912 a919 "java/util/AbstractList" "modCount" "I" (.int 0) := D917 (Or.inl (tw hw 25 rfl)) (ty := .int) (by decide)
        have F933 : Fld Z h912 a919 "java/util/ArrayList" "elementData" "[Ljava/lang/Object;" .null := D917 (Or.inl (tw hw 28 rfl)) (ty := (.array (.object "java/lang/Object"))) (by decide)
        refine Way.by st918 ?_
        show Way _ _ _ _ (T911.setTop (mkF m 45 #[iv p1, .val (.long p2), .second, iv 1, iv 0, iv 1, .unset, .unset, .unset] [(.ref a919), (.ref a900), (.ref a900)]))
        refine Way.by (fun _ k => XS.dup X913.here hx rfl (hb hby at_45) rfl rfl k) ?_
        show Way _ _ _ _ (T911.setTop (mkF m 46 #[iv p1, .val (.long p2), .second, iv 1, iv 0, iv 1, .unset, .unset, .unset] [(.ref a919), (.ref a919), (.ref a900), (.ref a900)]))
        obtain ⟨_, _, ⟨T934, L936, k937, n938⟩, -, X935, ⟨Lc939, hQ940, l941, y942, z943⟩, st944⟩ := X913.specialBack hx (y := (⟨"java/util/ArrayList", "<init>", "()V"⟩ : MethodName)) rfl hown (mvT hZ (tw hw 6 rfl)) (mvT hZ (tw hw 7 rfl)) (mvT hZ (tw hw 8 rfl)) (by decide) (backOf (W := 3) (rmA0 l Z a0 hw [] a919 de h912 n0 Z930 A916 F932 F933 nw922 O931 SDE) hZ (tw hw 8 rfl) (tw hw 5 rfl) (by decide) (by decide)) (g := (mkF m 46 #[iv p1, .val (.long p2), .second, iv 1, iv 0, iv 1, .unset, .unset, .unset] [(.ref a919), (.ref a919), (.ref a900), (.ref a900)])) rfl (by rw [hml]; rfl) (Steps.refl _) (a := a919) (argsL := []) (rest := [(.ref a919), (.ref a900), (.ref a900)]) (lenOf pdA0 rfl) rfl (by show 2 * 0 + _ ≤ _; exact Nat.le_of_eq rfl) (hb hby at_46) (fun _ _ => ⟨rfl, e914, (Nat.le_of_ble_eq_true rfl), (Nat.le_of_ble_eq_true rfl)⟩)
        dsimp only [Pt.U, Pt.locs, Pt.cells, Pt.slots] at X935 l941 y942 z943 st944 hQ940
        subst l941 y942 z943
        obtain ⟨rfl, N950, K951, F_0952, F_1953, F_2954⟩ := hQ940
        have N945 := Fr.app N0 N950
        have E955 := E923.keep K951
        have F956 := F924.keep K951 (ninS ne921 nin0)
        have F957 := F925.keep K951 (ninS ne921 nin0)
        have F958 := F926.keep K951 (ninS ne921 nin0)
        have F959 := F927.keep K951 (ninS ne921 nin0)
        have F960 := F928.keep K951 (ninS ne921 nin0)
        have F961 := F929.keep K951 (ninS ne921 nin0)
        have E962 := A916.keep K951
        have Z963 := Nat.le_trans Z930 K951.1
        have O964 := O931.keep K951 (allS nw922 all0)
        refine Way.to st944 ?_
        show Way _ _ _ _ (T934.setTop (mkF m 49 #[iv p1, .val (.long p2), .second, iv 1, iv 0, iv 1, .unset, .unset, .unset] [(.ref a919), (.ref a900), (.ref a900)]))
        refine Way.by (fun _ k => XT.lloadN X935.here hx rfl (hb hby at_49) rfl k) ?_
        show Way _ _ _ _ (T934.setTop (mkF m 50 #[iv p1, .val (.long p2), .second, iv 1, iv 0, iv 1, .unset, .unset, .unset] [(.long p2), (.ref a919), (.ref a900), (.ref a900)]))
        obtain ⟨_, _, ⟨T965, L967, k968, n969⟩, -, X966, ⟨Lc970, hQ971, l972, y973, z974⟩, st975⟩ := X935.specialBack hx (y := (⟨"com/example/forward_horizon/forwardhorizon/engine/Event", "<init>", "(Ljava/util/List;J)V"⟩ : MethodName)) rfl hown (mvT hZ (tw hw 29 rfl)) (mvT hZ (tw hw 30 rfl)) (mvT hZ (tw hw 31 rfl)) (by decide) (backOf (W := 1) (rmT l Z a0 hw [] a900 a919 p2 T934.heap n0 Z963 E955 F956 F957 F958 F959 F960 F961 nw902) hZ (tw hw 31 rfl) (tw hw 2 rfl) (by decide) (by decide)) (g := (mkF m 50 #[iv p1, .val (.long p2), .second, iv 1, iv 0, iv 1, .unset, .unset, .unset] [(.long p2), (.ref a919), (.ref a900), (.ref a900)])) rfl (by rw [hml]; rfl) (Steps.refl _) (a := a900) (argsL := [(.ref a919), (.long p2)]) (rest := [(.ref a900)]) (lenOf pdT rfl) rfl (by show 2 * 0 + _ ≤ _; exact Nat.le_of_eq rfl) (hb hby at_50) (fun _ _ => ⟨rfl, rfl, (Nat.le_of_ble_eq_true rfl), (Nat.le_of_ble_eq_true rfl)⟩)
        dsimp only [Pt.U, Pt.locs, Pt.cells, Pt.slots] at X966 l972 y973 z974 st975 hQ971
        subst l972 y973 z974
        obtain ⟨rfl, N981, K982, F_0983, F_1984, F_2985, F_3986⟩ := hQ971
        have N976 := Fr.app N945 N981
        have E987 := E955.keep K982
        have E988 := F_0952.keep K982
        have F989 := F_1953.keep K982 (ninS ne921.symm nin0)
        have F990 := F_2954.keep K982 (ninS ne921.symm nin0)
        have Z991 := Nat.le_trans Z963 K982.1
        have O992 := O964.keep K982 (allS nw902 all0)
        refine Way.to st975 ?_
        show Way _ _ _ _ (T965.setTop (mkF m 53 #[iv p1, .val (.long p2), .second, iv 1, iv 0, iv 1, .unset, .unset, .unset] [(.ref a900)]))
        refine Way.by (fun _ k => XS.astore X966.here hx rfl (hb hby at_53) rfl rfl (l' := #[iv p1, .val (.long p2), .second, iv 1, iv 0, iv 1, rv a900, .unset, .unset]) rfl k) ?_
        show Way _ _ _ _ (T965.setTop (mkF m 55 #[iv p1, .val (.long p2), .second, iv 1, iv 0, iv 1, rv a900, .unset, .unset] []))
        refine Way.by (fun _ k => XS.iload X966.here hx rfl (hb hby at_55) rfl k) ?_
        show Way _ _ _ _ (T965.setTop (mkF m 57 #[iv p1, .val (.long p2), .second, iv 1, iv 0, iv 1, rv a900, .unset, .unset] [(.int 1)]))
        have b993 : ¬ (1 : Int32) = (0 : Int32) := by decide
        refine Way.by (fun _ k => XS.ifNo X966.here hx rfl (hb hby at_57) rfl ((if0 .eq _).trans (feq b993).1) k) ?_
        show Way _ _ _ _ (T965.setTop (mkF m 60 #[iv p1, .val (.long p2), .second, iv 1, iv 0, iv 1, rv a900, .unset, .unset] []))
        refine Way.by (fun _ k => XS.iload X966.here hx rfl (hb hby at_60) rfl k) ?_
        show Way _ _ _ _ (T965.setTop (mkF m 62 #[iv p1, .val (.long p2), .second, iv 1, iv 0, iv 1, rv a900, .unset, .unset] [(.int 0)]))
        have b994 : (0 : Int32) = (0 : Int32) := by decide
        refine Way.by (fun _ k => XS.ifYes X966.here hx rfl (pc0 := 62) (pc' := 70) rfl (hb hby at_62) rfl ((if0 .eq _).trans (teq b994).1) (by decide) (by decide) k) ?_
        show Way _ _ _ _ (T965.setTop (mkF m 70 #[iv p1, .val (.long p2), .second, iv 1, iv 0, iv 1, rv a900, .unset, .unset] []))
        refine Way.by (fun _ k => XS.iloadN X966.here hx rfl (hb hby at_70) rfl k) ?_
        show Way _ _ _ _ (T965.setTop (mkF m 71 #[iv p1, .val (.long p2), .second, iv 1, iv 0, iv 1, rv a900, .unset, .unset] [(.int 1)]))
        have b995 : ¬ (1 : Int32) = (0 : Int32) := by decide
        refine Way.by (fun _ k => XS.ifNo X966.here hx rfl (hb hby at_71) rfl ((if0 .eq _).trans (feq b995).1) k) ?_
        show Way _ _ _ _ (T965.setTop (mkF m 74 #[iv p1, .val (.long p2), .second, iv 1, iv 0, iv 1, rv a900, .unset, .unset] []))
        refine Way.by (fun _ k => XS.aload X966.here hx rfl (hb hby at_74) rfl rfl k) ?_
        show Way _ _ _ _ (T965.setTop (mkF m 76 #[iv p1, .val (.long p2), .second, iv 1, iv 0, iv 1, rv a900, .unset, .unset] [(.ref a900)]))
        obtain ⟨cq1012, kq1013, qa1014, qb1015, qc1016⟩ := isOf hZ rfl F_0983
        obtain ⟨_, _, ⟨T996, L998, k999, n1000⟩, -, X997, ⟨Lc1001, hQ1002, l1003, y1004, z1005⟩, st1006⟩ := X966.virtualBack hx (y := (⟨"com/example/forward_horizon/forwardhorizon/engine/Event", "markFailed", "()V"⟩ : MethodName)) (z := (⟨"com/example/forward_horizon/forwardhorizon/engine/Event", "markFailed", "()V"⟩ : MethodName)) hown (mvT hZ (tw hw 79 rfl)) (mvT hZ (tw hw 80 rfl)) (notFace_of_selects (args := #[]) (mvT hZ (tw hw 82 rfl))) (mvT hZ (tw hw 82 rfl)) (mvT hZ (tw hw 81 rfl)) (by decide) (backOf (W := 0) (rmMF l Z a0 hw [] a900 (0 : Int32) (0 : Int32) T965.heap n0 Z991 F_0983 F_1984 F_2985 nw902) hZ (tw hw 83 rfl) (tw hw 2 rfl) (by decide) (by decide)) qa1014 qc1016 (g := (mkF m 76 #[iv p1, .val (.long p2), .second, iv 1, iv 0, iv 1, rv a900, .unset, .unset] [(.ref a900)])) rfl (by rw [hml]; rfl) (Steps.refl _) (argsL := []) (rest := []) (lenOf pdMF rfl) rfl (by show 2 * 0 + _ ≤ _; exact Nat.le_of_eq rfl) (hb hby at_76) (fun _ _ => ⟨rfl, rfl, (Nat.le_of_ble_eq_true rfl), (Nat.le_of_ble_eq_true rfl)⟩)
        dsimp only [Pt.U, Pt.locs, Pt.cells, Pt.slots] at X997 l1003 y1004 z1005 st1006 hQ1002
        subst l1003 y1004 z1005
        obtain ⟨rfl, N1017, K1018, F_01019, F_11020, F_21021⟩ := hQ1002
        have N1007 := Fr.app N976 N1017
        have E1022 := F_0983.keep K1018
        have E1023 := E988.keep K1018
        have F1024 := F989.keep K1018 (ninS ne921.symm nin0)
        have F1025 := F990.keep K1018 (ninS ne921.symm nin0)
        have Z1026 := Nat.le_trans Z991 K1018.1
        have O1027 := O992.keep K1018 (allS nw902 all0)
        refine Way.to st1006 ?_
        show Way _ _ _ _ (T996.setTop (mkF m 79 #[iv p1, .val (.long p2), .second, iv 1, iv 0, iv 1, rv a900, .unset, .unset] []))
        refine Way.by (fun _ k => XS.goto X997.here hx rfl (pc0 := 79) (pc' := 101) rfl (hb hby at_79) (by decide) (by decide) k) ?_
        show Way _ _ _ _ (T996.setTop (mkF m 101 #[iv p1, .val (.long p2), .second, iv 1, iv 0, iv 1, rv a900, .unset, .unset] []))
        refine Way.by (fun _ k => XS.aload X997.here hx rfl (hb hby at_101) rfl rfl k) ?_
        show Way _ _ _ _ (T996.setTop (mkF m 103 #[iv p1, .val (.long p2), .second, iv 1, iv 0, iv 1, rv a900, .unset, .unset] [(.ref a900)]))
        obtain ⟨cq1044, kq1045, qa1046, qb1047, qc1048⟩ := isOf hZ rfl F_01019
        obtain ⟨_, _, ⟨T1028, L1030, k1031, n1032⟩, -, X1029, ⟨Lc1033, hQ1034, l1035, y1036, z1037⟩, st1038⟩ := X997.virtualBack hx (y := (⟨"com/example/forward_horizon/forwardhorizon/engine/Event", "outcome", "()Lcom/example/forward_horizon/forwardhorizon/engine/Outcome;"⟩ : MethodName)) (z := (⟨"com/example/forward_horizon/forwardhorizon/engine/Event", "outcome", "()Lcom/example/forward_horizon/forwardhorizon/engine/Outcome;"⟩ : MethodName)) hown (mvT hZ (tw hw 66 rfl)) (mvT hZ (tw hw 67 rfl)) (notFace_of_selects (args := #[]) (mvT hZ (tw hw 69 rfl))) (mvT hZ (tw hw 69 rfl)) (mvT hZ (tw hw 68 rfl)) (by decide) (backOf (W := 0) (rmOU l Z a0 hw [] a900 (1 : Int32) (0 : Int32) uFAILED uPROCESSED uFAILED uDROPPED T996.heap n0 Z1026 F_11020 F_21021 (by first | rfl | simp) O1027 SPROCESSED SFAILED SDROPPED) hZ (tw hw 70 rfl) (tw hw 2 rfl) (by decide) (by decide)) qa1046 qc1048 (g := (mkF m 103 #[iv p1, .val (.long p2), .second, iv 1, iv 0, iv 1, rv a900, .unset, .unset] [(.ref a900)])) rfl (by rw [hml]; rfl) (Steps.refl _) (argsL := []) (rest := []) (lenOf pdOU rfl) rfl (by show 2 * 0 + _ ≤ _; exact Nat.le_of_eq rfl) (hb hby at_103) (fun _ _ => ⟨rfl, rfl, (Nat.le_of_ble_eq_true rfl), (Nat.le_of_ble_eq_true rfl)⟩)
        dsimp only [Pt.U, Pt.locs, Pt.cells, Pt.slots] at X1029 l1035 y1036 z1037 st1038 hQ1034
        subst l1035 y1036 z1037
        obtain ⟨rfl, N1049, e1040⟩ := hQ1034
        have N1039 := Fr.app N1007 N1049
        refine Way.to st1038 ?_
        show Way _ _ _ _ (T1028.setTop (mkF m 106 #[iv p1, .val (.long p2), .second, iv 1, iv 0, iv 1, rv a900, .unset, .unset] [(.ref uFAILED)]))
        refine Way.by (fun _ k => XS.astore X1029.here hx rfl (hb hby at_106) rfl rfl (l' := #[iv p1, .val (.long p2), .second, iv 1, iv 0, iv 1, rv a900, rv uFAILED, .unset]) rfl k) ?_
        show Way _ _ _ _ (T1028.setTop (mkF m 108 #[iv p1, .val (.long p2), .second, iv 1, iv 0, iv 1, rv a900, rv uFAILED, .unset] []))
        refine Way.by (fun _ k => XS.iloadN X1029.here hx rfl (hb hby at_108) rfl k) ?_
        show Way _ _ _ _ (T1028.setTop (mkF m 109 #[iv p1, .val (.long p2), .second, iv 1, iv 0, iv 1, rv a900, rv uFAILED, .unset] [(.int 1)]))
        have b1051 : ¬ (1 : Int32) = (0 : Int32) := by decide
        refine Way.by (fun _ k => XS.ifNo X1029.here hx rfl (hb hby at_109) rfl ((if0 .eq _).trans (feq b1051).1) k) ?_
        show Way _ _ _ _ (T1028.setTop (mkF m 112 #[iv p1, .val (.long p2), .second, iv 1, iv 0, iv 1, rv a900, rv uFAILED, .unset] []))
        obtain ⟨T1052, X1053, e1054, st1055⟩ := getS X1029 hx hZ hown (host := "") (tw hw 86 rfl) Via.refl e1040 (Sta.ext O1027.2 SFAILED) (g := (mkF m 112 #[iv p1, .val (.long p2), .second, iv 1, iv 0, iv 1, rv a900, rv uFAILED, .unset] [])) rfl (hb hby at_112)
        refine Way.by st1055 ?_
        show Way _ _ _ _ (T1052.setTop (mkF m 115 #[iv p1, .val (.long p2), .second, iv 1, iv 0, iv 1, rv a900, rv uFAILED, .unset] [(.ref uFAILED)]))
        refine Way.by (fun _ k => XS.astore X1053.here hx rfl (hb hby at_115) rfl rfl (l' := #[iv p1, .val (.long p2), .second, iv 1, iv 0, iv 1, rv a900, rv uFAILED, rv uFAILED]) rfl k) ?_
        show Way _ _ _ _ (T1052.setTop (mkF m 117 #[iv p1, .val (.long p2), .second, iv 1, iv 0, iv 1, rv a900, rv uFAILED, rv uFAILED] []))
        refine Way.by (fun _ k => XS.goto X1053.here hx rfl (pc0 := 117) (pc' := 138) rfl (hb hby at_117) (by decide) (by decide) k) ?_
        show Way _ _ _ _ (T1052.setTop (mkF m 138 #[iv p1, .val (.long p2), .second, iv 1, iv 0, iv 1, rv a900, rv uFAILED, rv uFAILED] []))
        refine Way.by (fun _ k => XS.aload X1053.here hx rfl (hb hby at_138) rfl rfl k) ?_
        show Way _ _ _ _ (T1052.setTop (mkF m 140 #[iv p1, .val (.long p2), .second, iv 1, iv 0, iv 1, rv a900, rv uFAILED, rv uFAILED] [(.ref uFAILED)]))
        refine Way.by (fun _ k => XS.aload X1053.here hx rfl (hb hby at_140) rfl rfl k) ?_
        show Way _ _ _ _ (T1052.setTop (mkF m 142 #[iv p1, .val (.long p2), .second, iv 1, iv 0, iv 1, rv a900, rv uFAILED, rv uFAILED] [(.ref uFAILED), (.ref uFAILED)]))
        have b1056 : uFAILED = uFAILED := rfl
        refine Way.by (fun _ k => acmp X1053 hx rfl rfl rfl (pc0 := 142) (pc' := 145) (same := true) rfl (hb hby at_142) rfl (by simp [b1056]) (by decide) (by decide) k) ?_
        show Way _ _ _ _ (T1052.setTop (mkF m 145 #[iv p1, .val (.long p2), .second, iv 1, iv 0, iv 1, rv a900, rv uFAILED, rv uFAILED] []))
        refine Way.by (fun _ k => XS.aload X1053.here hx rfl (hb hby at_145) rfl rfl k) ?_
        show Way _ _ _ _ (T1052.setTop (mkF m 147 #[iv p1, .val (.long p2), .second, iv 1, iv 0, iv 1, rv a900, rv uFAILED, rv uFAILED] [(.ref a900)]))
        obtain ⟨cq1073, kq1074, qa1075, qb1076, qc1077⟩ := isOf hZ e1054 F_01019
        obtain ⟨_, _, ⟨T1057, L1059, k1060, n1061⟩, -, X1058, ⟨Lc1062, hQ1063, l1064, y1065, z1066⟩, st1067⟩ := X1053.virtualBack hx (y := (⟨"com/example/forward_horizon/forwardhorizon/engine/Event", "outcome", "()Lcom/example/forward_horizon/forwardhorizon/engine/Outcome;"⟩ : MethodName)) (z := (⟨"com/example/forward_horizon/forwardhorizon/engine/Event", "outcome", "()Lcom/example/forward_horizon/forwardhorizon/engine/Outcome;"⟩ : MethodName)) hown (mvT hZ (tw hw 66 rfl)) (mvT hZ (tw hw 67 rfl)) (notFace_of_selects (args := #[]) (mvT hZ (tw hw 69 rfl))) (mvT hZ (tw hw 69 rfl)) (mvT hZ (tw hw 68 rfl)) (by decide) (backOf (W := 0) (rmOU l Z a0 hw [] a900 (1 : Int32) (0 : Int32) uFAILED uPROCESSED uFAILED uDROPPED T996.heap n0 Z1026 F_11020 F_21021 (by first | rfl | simp) O1027 SPROCESSED SFAILED SDROPPED) hZ (tw hw 70 rfl) (tw hw 2 rfl) (by decide) (by decide)) qa1075 qc1077 (g := (mkF m 147 #[iv p1, .val (.long p2), .second, iv 1, iv 0, iv 1, rv a900, rv uFAILED, rv uFAILED] [(.ref a900)])) rfl (by rw [hml]; rfl) (Steps.refl _) (argsL := []) (rest := []) (lenOf pdOU rfl) rfl (by show 2 * 0 + _ ≤ _; exact Nat.le_of_eq rfl) (hb hby at_147) (fun _ _ => ⟨rfl, e1054, (Nat.le_of_ble_eq_true rfl), (Nat.le_of_ble_eq_true rfl)⟩)
        dsimp only [Pt.U, Pt.locs, Pt.cells, Pt.slots] at X1058 l1064 y1065 z1066 st1067 hQ1063
        subst l1064 y1065 z1066
        obtain ⟨rfl, N1078, e1069⟩ := hQ1063
        have N1068 := Fr.app N1039 N1078
        refine Way.to st1067 ?_
        show Way _ _ _ _ (T1057.setTop (mkF m 150 #[iv p1, .val (.long p2), .second, iv 1, iv 0, iv 1, rv a900, rv uFAILED, rv uFAILED] [(.ref uFAILED)]))
        refine Way.by (fun _ k => XS.aload X1058.here hx rfl (hb hby at_150) rfl rfl k) ?_
        show Way _ _ _ _ (T1057.setTop (mkF m 152 #[iv p1, .val (.long p2), .second, iv 1, iv 0, iv 1, rv a900, rv uFAILED, rv uFAILED] [(.ref uFAILED), (.ref uFAILED)]))
        have b1080 : uFAILED = uFAILED := rfl
        refine Way.by (fun _ k => acmp X1058 hx rfl rfl rfl (pc0 := 152) (pc' := 155) (same := true) rfl (hb hby at_152) rfl (by simp [b1080]) (by decide) (by decide) k) ?_
        show Way _ _ _ _ (T1057.setTop (mkF m 155 #[iv p1, .val (.long p2), .second, iv 1, iv 0, iv 1, rv a900, rv uFAILED, rv uFAILED] []))
        refine Way.by (fun _ k => XS.iconst X1058.here hx rfl (hb hby at_155) k) ?_
        show Way _ _ _ _ (T1057.setTop (mkF m 156 #[iv p1, .val (.long p2), .second, iv 1, iv 0, iv 1, rv a900, rv uFAILED, rv uFAILED] [(.int 1)]))
        refine Way.by (fun _ k => XS.goto X1058.here hx rfl (pc0 := 156) (pc' := 160) rfl (hb hby at_156) (by decide) (by decide) k) ?_
        show Way _ _ _ _ (T1057.setTop (mkF m 160 #[iv p1, .val (.long p2), .second, iv 1, iv 0, iv 1, rv a900, rv uFAILED, rv uFAILED] [(.int 1)]))
        refine Way.ret (v := (some (.int (nar .boolean (1 : Int32))))) X1058 hlk (fun h => by rw [Bd.returns] at h; cases h) (fun fs hr => retN X1058 hx (t := .boolean) Bd.returns (by simp) (hb hby at_160) hr) ?_ (by decide) (by decide)
        show Q0 n0 _ T1057.heap _
        rw [e1069]
        exact ⟨rfl, N1068⟩
    · skip
      refine Way.by (fun _ k => XS.ifNo X0.here hx rfl (hb hby at_15) rfl ((if0 .eq _).trans (feq b701).1) k) ?_
      show Way _ _ _ _ (s₁.setTop (mkF m 18 #[iv p1, .val (.long p2), .second, iv 1, .unset, .unset, .unset, .unset, .unset] []))
      refine Way.by (fun _ k => XS.iconst X0.here hx rfl (hb hby at_18) k) ?_
      show Way _ _ _ _ (s₁.setTop (mkF m 19 #[iv p1, .val (.long p2), .second, iv 1, .unset, .unset, .unset, .unset, .unset] [(.int 1)]))
      refine Way.by (fun _ k => XS.goto X0.here hx rfl (pc0 := 19) (pc' := 23) rfl (hb hby at_19) (by decide) (by decide) k) ?_
      show Way _ _ _ _ (s₁.setTop (mkF m 23 #[iv p1, .val (.long p2), .second, iv 1, .unset, .unset, .unset, .unset, .unset] [(.int 1)]))
      refine Way.by (fun _ k => XS.istore X0.here hx rfl (hb hby at_23) rfl (l' := #[iv p1, .val (.long p2), .second, iv 1, iv 1, .unset, .unset, .unset, .unset]) rfl k) ?_
      show Way _ _ _ _ (s₁.setTop (mkF m 25 #[iv p1, .val (.long p2), .second, iv 1, iv 1, .unset, .unset, .unset, .unset] []))
      refine Way.by (fun _ k => XS.iloadN X0.here hx rfl (hb hby at_25) rfl k) ?_
      show Way _ _ _ _ (s₁.setTop (mkF m 26 #[iv p1, .val (.long p2), .second, iv 1, iv 1, .unset, .unset, .unset, .unset] [(.int p1)]))
      refine Way.by (fun _ k => XS.iconst X0.here hx rfl (hb hby at_26) k) ?_
      show Way _ _ _ _ (s₁.setTop (mkF m 27 #[iv p1, .val (.long p2), .second, iv 1, iv 1, .unset, .unset, .unset, .unset] [(.int 4), (.int p1)]))
      refine Way.by (fun _ k => XS.iand X0.here hx rfl (hb hby at_27) rfl k) ?_
      show Way _ _ _ _ (s₁.setTop (mkF m 28 #[iv p1, .val (.long p2), .second, iv 1, iv 1, .unset, .unset, .unset, .unset] [(.int (p1 &&& (4 : Int32)))]))
      by_cases b1081 : (p1 &&& (4 : Int32)) = (0 : Int32)
      · skip
        refine Way.by (fun _ k => XS.ifYes X0.here hx rfl (pc0 := 28) (pc' := 35) rfl (hb hby at_28) rfl ((if0 .eq _).trans (teq b1081).1) (by decide) (by decide) k) ?_
        show Way _ _ _ _ (s₁.setTop (mkF m 35 #[iv p1, .val (.long p2), .second, iv 1, iv 1, .unset, .unset, .unset, .unset] []))
        refine Way.by (fun _ k => XS.iconst X0.here hx rfl (hb hby at_35) k) ?_
        show Way _ _ _ _ (s₁.setTop (mkF m 36 #[iv p1, .val (.long p2), .second, iv 1, iv 1, .unset, .unset, .unset, .unset] [(.int 0)]))
        refine Way.by (fun _ k => XS.istore X0.here hx rfl (hb hby at_36) rfl (l' := #[iv p1, .val (.long p2), .second, iv 1, iv 1, iv 0, .unset, .unset, .unset]) rfl k) ?_
        show Way _ _ _ _ (s₁.setTop (mkF m 38 #[iv p1, .val (.long p2), .second, iv 1, iv 1, iv 0, .unset, .unset, .unset] []))
        obtain ⟨T1082, h1083, X1084, e1085, E1086, A1087, D1088, -, st1089⟩ := newO X0 hx hZ hown (tw hw 0 rfl) (tw hw 1 rfl) (tw hw 2 rfl) e0 (g := (mkF m 38 #[iv p1, .val (.long p2), .second, iv 1, iv 1, iv 0, .unset, .unset, .unset] [])) rfl (hb hby at_38) (by decide) (by decide)
        obtain ⟨a1090, g1091⟩ : ∃ z, z = h0.size := ⟨_, rfl⟩
        rw [← g1091] at A1087 D1088 st1089
        have nw1092 : n0 ≤ a1090 := Nat.le_trans Z0 (Nat.le_of_eq g1091.symm)
        have Z1093 := Nat.le_trans Z0 E1086.1
        have O1094 := O0.ext E1086
        have F1095 : Fld Z h1083 a1090 "com/example/forward_horizon/forwardhorizon/engine/Event" "holds" "Ljava/util/concurrent/atomic/AtomicInteger;" .null := D1088 (Or.inr (tw hw 49 rfl)) (ty := (.object "java/util/concurrent/atomic/AtomicInteger")) (by decide)
        have F1096 : Fld Z h1083 a1090 "com/example/forward_horizon/forwardhorizon/engine/Event" "fields" "Ljava/util/List;" .null := D1088 (Or.inr (tw hw 51 rfl)) (ty := (.object "java/util/List")) (by decide)
        have F1097 : Fld Z h1083 a1090 "com/example/forward_horizon/forwardhorizon/engine/Event" "releaseNanos" "J" (.long (0 : Int64)) := D1088 (Or.inr (tw hw 53 rfl)) (ty := .long) (by decide)
        have F1098 : Fld Z h1083 a1090 "com/example/forward_horizon/forwardhorizon/engine/Event" "lastEndNanos" "Ljava/util/concurrent/atomic/AtomicLong;" .null := D1088 (Or.inr (tw hw 65 rfl)) (ty := (.object "java/util/concurrent/atomic/AtomicLong")) (by decide)
        have F1099 : Fld Z h1083 a1090 "com/example/forward_horizon/forwardhorizon/engine/Event" "failed" "Z" (.int 0) := D1088 (Or.inl (tw hw 72 rfl)) (ty := .boolean) (by decide)
        have F1100 : Fld Z h1083 a1090 "com/example/forward_horizon/forwardhorizon/engine/Event" "dropped" "Z" (.int 0) := D1088 (Or.inl (tw hw 74 rfl)) (ty := .boolean) (by decide)
        refine Way.by st1089 ?_
        show Way _ _ _ _ (T1082.setTop (mkF m 41 #[iv p1, .val (.long p2), .second, iv 1, iv 1, iv 0, .unset, .unset, .unset] [(.ref a1090)]))
        refine Way.by (fun _ k => XS.dup X1084.here hx rfl (hb hby at_41) rfl rfl k) ?_
        show Way _ _ _ _ (T1082.setTop (mkF m 42 #[iv p1, .val (.long p2), .second, iv 1, iv 1, iv 0, .unset, .unset, .unset] [(.ref a1090), (.ref a1090)]))
        obtain ⟨T1101, h1102, X1103, e1104, E1105, A1106, D1107, -, st1108⟩ := newO X1084 hx hZ hown (tw hw 3 rfl) (tw hw 4 rfl) (tw hw 5 rfl) e1085 (g := (mkF m 42 #[iv p1, .val (.long p2), .second, iv 1, iv 1, iv 0, .unset, .unset, .unset] [(.ref a1090), (.ref a1090)])) rfl (hb hby at_42) (by decide) (by decide)
        obtain ⟨a1109, g1110⟩ : ∃ z, z = h1083.size := ⟨_, rfl⟩
        rw [← g1110] at A1106 D1107 st1108
        have ne1111 : a1090 ≠ a1109 := Nat.ne_of_lt (Nat.lt_of_lt_of_eq A1087.lt g1110.symm)
        have nw1112 : n0 ≤ a1109 := Nat.le_trans Z1093 (Nat.le_of_eq g1110.symm)
        have E1113 := Exa.ext E1105 A1087
        have F1114 := Fld.ext E1105 F1095
        have F1115 := Fld.ext E1105 F1096
        have F1116 := Fld.ext E1105 F1097
        have F1117 := Fld.ext E1105 F1098
        have F1118 := Fld.ext E1105 F1099
        have F1119 := Fld.ext E1105 F1100
        have Z1120 := Nat.le_trans Z1093 E1105.1
        have O1121 := O1094.ext E1105
        have F1122 : Fld Z h1102 a1109 "java/util/AbstractList" "modCount" "I" (.int 0) := D1107 (Or.inl (tw hw 25 rfl)) (ty := .int) (by decide)
        have F1123 : Fld Z h1102 a1109 "java/util/ArrayList" "elementData" "[Ljava/lang/Object;" .null := D1107 (Or.inl (tw hw 28 rfl)) (ty := (.array (.object "java/lang/Object"))) (by decide)
        refine Way.by st1108 ?_
        show Way _ _ _ _ (T1101.setTop (mkF m 45 #[iv p1, .val (.long p2), .second, iv 1, iv 1, iv 0, .unset, .unset, .unset] [(.ref a1109), (.ref a1090), (.ref a1090)]))
        refine Way.by (fun _ k => XS.dup X1103.here hx rfl (hb hby at_45) rfl rfl k) ?_
        show Way _ _ _ _ (T1101.setTop (mkF m 46 #[iv p1, .val (.long p2), .second, iv 1, iv 1, iv 0, .unset, .unset, .unset] [(.ref a1109), (.ref a1109), (.ref a1090), (.ref a1090)]))
        obtain ⟨_, _, ⟨T1124, L1126, k1127, n1128⟩, -, X1125, ⟨Lc1129, hQ1130, l1131, y1132, z1133⟩, st1134⟩ := X1103.specialBack hx (y := (⟨"java/util/ArrayList", "<init>", "()V"⟩ : MethodName)) rfl hown (mvT hZ (tw hw 6 rfl)) (mvT hZ (tw hw 7 rfl)) (mvT hZ (tw hw 8 rfl)) (by decide) (backOf (W := 3) (rmA0 l Z a0 hw [] a1109 de h1102 n0 Z1120 A1106 F1122 F1123 nw1112 O1121 SDE) hZ (tw hw 8 rfl) (tw hw 5 rfl) (by decide) (by decide)) (g := (mkF m 46 #[iv p1, .val (.long p2), .second, iv 1, iv 1, iv 0, .unset, .unset, .unset] [(.ref a1109), (.ref a1109), (.ref a1090), (.ref a1090)])) rfl (by rw [hml]; rfl) (Steps.refl _) (a := a1109) (argsL := []) (rest := [(.ref a1109), (.ref a1090), (.ref a1090)]) (lenOf pdA0 rfl) rfl (by show 2 * 0 + _ ≤ _; exact Nat.le_of_eq rfl) (hb hby at_46) (fun _ _ => ⟨rfl, e1104, (Nat.le_of_ble_eq_true rfl), (Nat.le_of_ble_eq_true rfl)⟩)
        dsimp only [Pt.U, Pt.locs, Pt.cells, Pt.slots] at X1125 l1131 y1132 z1133 st1134 hQ1130
        subst l1131 y1132 z1133
        obtain ⟨rfl, N1140, K1141, F_01142, F_11143, F_21144⟩ := hQ1130
        have N1135 := Fr.app N0 N1140
        have E1145 := E1113.keep K1141
        have F1146 := F1114.keep K1141 (ninS ne1111 nin0)
        have F1147 := F1115.keep K1141 (ninS ne1111 nin0)
        have F1148 := F1116.keep K1141 (ninS ne1111 nin0)
        have F1149 := F1117.keep K1141 (ninS ne1111 nin0)
        have F1150 := F1118.keep K1141 (ninS ne1111 nin0)
        have F1151 := F1119.keep K1141 (ninS ne1111 nin0)
        have E1152 := A1106.keep K1141
        have Z1153 := Nat.le_trans Z1120 K1141.1
        have O1154 := O1121.keep K1141 (allS nw1112 all0)
        refine Way.to st1134 ?_
        show Way _ _ _ _ (T1124.setTop (mkF m 49 #[iv p1, .val (.long p2), .second, iv 1, iv 1, iv 0, .unset, .unset, .unset] [(.ref a1109), (.ref a1090), (.ref a1090)]))
        refine Way.by (fun _ k => XT.lloadN X1125.here hx rfl (hb hby at_49) rfl k) ?_
        show Way _ _ _ _ (T1124.setTop (mkF m 50 #[iv p1, .val (.long p2), .second, iv 1, iv 1, iv 0, .unset, .unset, .unset] [(.long p2), (.ref a1109), (.ref a1090), (.ref a1090)]))
        obtain ⟨_, _, ⟨T1155, L1157, k1158, n1159⟩, -, X1156, ⟨Lc1160, hQ1161, l1162, y1163, z1164⟩, st1165⟩ := X1125.specialBack hx (y := (⟨"com/example/forward_horizon/forwardhorizon/engine/Event", "<init>", "(Ljava/util/List;J)V"⟩ : MethodName)) rfl hown (mvT hZ (tw hw 29 rfl)) (mvT hZ (tw hw 30 rfl)) (mvT hZ (tw hw 31 rfl)) (by decide) (backOf (W := 1) (rmT l Z a0 hw [] a1090 a1109 p2 T1124.heap n0 Z1153 E1145 F1146 F1147 F1148 F1149 F1150 F1151 nw1092) hZ (tw hw 31 rfl) (tw hw 2 rfl) (by decide) (by decide)) (g := (mkF m 50 #[iv p1, .val (.long p2), .second, iv 1, iv 1, iv 0, .unset, .unset, .unset] [(.long p2), (.ref a1109), (.ref a1090), (.ref a1090)])) rfl (by rw [hml]; rfl) (Steps.refl _) (a := a1090) (argsL := [(.ref a1109), (.long p2)]) (rest := [(.ref a1090)]) (lenOf pdT rfl) rfl (by show 2 * 0 + _ ≤ _; exact Nat.le_of_eq rfl) (hb hby at_50) (fun _ _ => ⟨rfl, rfl, (Nat.le_of_ble_eq_true rfl), (Nat.le_of_ble_eq_true rfl)⟩)
        dsimp only [Pt.U, Pt.locs, Pt.cells, Pt.slots] at X1156 l1162 y1163 z1164 st1165 hQ1161
        subst l1162 y1163 z1164
        obtain ⟨rfl, N1171, K1172, F_01173, F_11174, F_21175, F_31176⟩ := hQ1161
        have N1166 := Fr.app N1135 N1171
        have E1177 := E1145.keep K1172
        have E1178 := F_01142.keep K1172
        have F1179 := F_11143.keep K1172 (ninS ne1111.symm nin0)
        have F1180 := F_21144.keep K1172 (ninS ne1111.symm nin0)
        have Z1181 := Nat.le_trans Z1153 K1172.1
        have O1182 := O1154.keep K1172 (allS nw1092 all0)
        refine Way.to st1165 ?_
        show Way _ _ _ _ (T1155.setTop (mkF m 53 #[iv p1, .val (.long p2), .second, iv 1, iv 1, iv 0, .unset, .unset, .unset] [(.ref a1090)]))
        refine Way.by (fun _ k => XS.astore X1156.here hx rfl (hb hby at_53) rfl rfl (l' := #[iv p1, .val (.long p2), .second, iv 1, iv 1, iv 0, rv a1090, .unset, .unset]) rfl k) ?_
        show Way _ _ _ _ (T1155.setTop (mkF m 55 #[iv p1, .val (.long p2), .second, iv 1, iv 1, iv 0, rv a1090, .unset, .unset] []))
        refine Way.by (fun _ k => XS.iload X1156.here hx rfl (hb hby at_55) rfl k) ?_
        show Way _ _ _ _ (T1155.setTop (mkF m 57 #[iv p1, .val (.long p2), .second, iv 1, iv 1, iv 0, rv a1090, .unset, .unset] [(.int 0)]))
        have b1183 : (0 : Int32) = (0 : Int32) := by decide
        refine Way.by (fun _ k => XS.ifYes X1156.here hx rfl (pc0 := 57) (pc' := 82) rfl (hb hby at_57) rfl ((if0 .eq _).trans (teq b1183).1) (by decide) (by decide) k) ?_
        show Way _ _ _ _ (T1155.setTop (mkF m 82 #[iv p1, .val (.long p2), .second, iv 1, iv 1, iv 0, rv a1090, .unset, .unset] []))
        refine Way.by (fun _ k => XS.iloadN X1156.here hx rfl (hb hby at_82) rfl k) ?_
        show Way _ _ _ _ (T1155.setTop (mkF m 83 #[iv p1, .val (.long p2), .second, iv 1, iv 1, iv 0, rv a1090, .unset, .unset] [(.int 1)]))
        have b1184 : ¬ (1 : Int32) = (0 : Int32) := by decide
        refine Way.by (fun _ k => XS.ifNo X1156.here hx rfl (hb hby at_83) rfl ((if0 .eq _).trans (feq b1184).1) k) ?_
        show Way _ _ _ _ (T1155.setTop (mkF m 86 #[iv p1, .val (.long p2), .second, iv 1, iv 1, iv 0, rv a1090, .unset, .unset] []))
        refine Way.by (fun _ k => XS.aload X1156.here hx rfl (hb hby at_86) rfl rfl k) ?_
        show Way _ _ _ _ (T1155.setTop (mkF m 88 #[iv p1, .val (.long p2), .second, iv 1, iv 1, iv 0, rv a1090, .unset, .unset] [(.ref a1090)]))
        obtain ⟨cq1201, kq1202, qa1203, qb1204, qc1205⟩ := isOf hZ rfl F_01173
        obtain ⟨_, _, ⟨T1185, L1187, k1188, n1189⟩, -, X1186, ⟨Lc1190, hQ1191, l1192, y1193, z1194⟩, st1195⟩ := X1156.virtualBack hx (y := (⟨"com/example/forward_horizon/forwardhorizon/engine/Event", "markFailed", "()V"⟩ : MethodName)) (z := (⟨"com/example/forward_horizon/forwardhorizon/engine/Event", "markFailed", "()V"⟩ : MethodName)) hown (mvT hZ (tw hw 79 rfl)) (mvT hZ (tw hw 80 rfl)) (notFace_of_selects (args := #[]) (mvT hZ (tw hw 82 rfl))) (mvT hZ (tw hw 82 rfl)) (mvT hZ (tw hw 81 rfl)) (by decide) (backOf (W := 0) (rmMF l Z a0 hw [] a1090 (0 : Int32) (0 : Int32) T1155.heap n0 Z1181 F_01173 F_11174 F_21175 nw1092) hZ (tw hw 83 rfl) (tw hw 2 rfl) (by decide) (by decide)) qa1203 qc1205 (g := (mkF m 88 #[iv p1, .val (.long p2), .second, iv 1, iv 1, iv 0, rv a1090, .unset, .unset] [(.ref a1090)])) rfl (by rw [hml]; rfl) (Steps.refl _) (argsL := []) (rest := []) (lenOf pdMF rfl) rfl (by show 2 * 0 + _ ≤ _; exact Nat.le_of_eq rfl) (hb hby at_88) (fun _ _ => ⟨rfl, rfl, (Nat.le_of_ble_eq_true rfl), (Nat.le_of_ble_eq_true rfl)⟩)
        dsimp only [Pt.U, Pt.locs, Pt.cells, Pt.slots] at X1186 l1192 y1193 z1194 st1195 hQ1191
        subst l1192 y1193 z1194
        obtain ⟨rfl, N1206, K1207, F_01208, F_11209, F_21210⟩ := hQ1191
        have N1196 := Fr.app N1166 N1206
        have E1211 := F_01173.keep K1207
        have E1212 := E1178.keep K1207
        have F1213 := F1179.keep K1207 (ninS ne1111.symm nin0)
        have F1214 := F1180.keep K1207 (ninS ne1111.symm nin0)
        have Z1215 := Nat.le_trans Z1181 K1207.1
        have O1216 := O1182.keep K1207 (allS nw1092 all0)
        refine Way.to st1195 ?_
        show Way _ _ _ _ (T1185.setTop (mkF m 91 #[iv p1, .val (.long p2), .second, iv 1, iv 1, iv 0, rv a1090, .unset, .unset] []))
        refine Way.by (fun _ k => XS.iload X1186.here hx rfl (hb hby at_91) rfl k) ?_
        show Way _ _ _ _ (T1185.setTop (mkF m 93 #[iv p1, .val (.long p2), .second, iv 1, iv 1, iv 0, rv a1090, .unset, .unset] [(.int 1)]))
        have b1217 : ¬ (1 : Int32) = (0 : Int32) := by decide
        refine Way.by (fun _ k => XS.ifNo X1186.here hx rfl (hb hby at_93) rfl ((if0 .eq _).trans (feq b1217).1) k) ?_
        show Way _ _ _ _ (T1185.setTop (mkF m 96 #[iv p1, .val (.long p2), .second, iv 1, iv 1, iv 0, rv a1090, .unset, .unset] []))
        refine Way.by (fun _ k => XS.aload X1186.here hx rfl (hb hby at_96) rfl rfl k) ?_
        show Way _ _ _ _ (T1185.setTop (mkF m 98 #[iv p1, .val (.long p2), .second, iv 1, iv 1, iv 0, rv a1090, .unset, .unset] [(.ref a1090)]))
        obtain ⟨cq1234, kq1235, qa1236, qb1237, qc1238⟩ := isOf hZ rfl F_01208
        obtain ⟨_, _, ⟨T1218, L1220, k1221, n1222⟩, -, X1219, ⟨Lc1223, hQ1224, l1225, y1226, z1227⟩, st1228⟩ := X1186.virtualBack hx (y := (⟨"com/example/forward_horizon/forwardhorizon/engine/Event", "markDropped", "()V"⟩ : MethodName)) (z := (⟨"com/example/forward_horizon/forwardhorizon/engine/Event", "markDropped", "()V"⟩ : MethodName)) hown (mvT hZ (tw hw 87 rfl)) (mvT hZ (tw hw 88 rfl)) (notFace_of_selects (args := #[]) (mvT hZ (tw hw 90 rfl))) (mvT hZ (tw hw 90 rfl)) (mvT hZ (tw hw 89 rfl)) (by decide) (backOf (W := 0) (rmMD l Z a0 hw [] a1090 (1 : Int32) (0 : Int32) T1185.heap n0 Z1215 F_01208 F_11209 F_21210 nw1092) hZ (tw hw 91 rfl) (tw hw 2 rfl) (by decide) (by decide)) qa1236 qc1238 (g := (mkF m 98 #[iv p1, .val (.long p2), .second, iv 1, iv 1, iv 0, rv a1090, .unset, .unset] [(.ref a1090)])) rfl (by rw [hml]; rfl) (Steps.refl _) (argsL := []) (rest := []) (lenOf pdMD rfl) rfl (by show 2 * 0 + _ ≤ _; exact Nat.le_of_eq rfl) (hb hby at_98) (fun _ _ => ⟨rfl, rfl, (Nat.le_of_ble_eq_true rfl), (Nat.le_of_ble_eq_true rfl)⟩)
        dsimp only [Pt.U, Pt.locs, Pt.cells, Pt.slots] at X1219 l1225 y1226 z1227 st1228 hQ1224
        subst l1225 y1226 z1227
        obtain ⟨rfl, N1239, K1240, F_01241, F_11242, F_21243⟩ := hQ1224
        have N1229 := Fr.app N1196 N1239
        have E1244 := F_01208.keep K1240
        have E1245 := E1212.keep K1240
        have F1246 := F1213.keep K1240 (ninS ne1111.symm nin0)
        have F1247 := F1214.keep K1240 (ninS ne1111.symm nin0)
        have Z1248 := Nat.le_trans Z1215 K1240.1
        have O1249 := O1216.keep K1240 (allS nw1092 all0)
        refine Way.to st1228 ?_
        show Way _ _ _ _ (T1218.setTop (mkF m 101 #[iv p1, .val (.long p2), .second, iv 1, iv 1, iv 0, rv a1090, .unset, .unset] []))
        refine Way.by (fun _ k => XS.aload X1219.here hx rfl (hb hby at_101) rfl rfl k) ?_
        show Way _ _ _ _ (T1218.setTop (mkF m 103 #[iv p1, .val (.long p2), .second, iv 1, iv 1, iv 0, rv a1090, .unset, .unset] [(.ref a1090)]))
        obtain ⟨cq1266, kq1267, qa1268, qb1269, qc1270⟩ := isOf hZ rfl F_01241
        obtain ⟨_, _, ⟨T1250, L1252, k1253, n1254⟩, -, X1251, ⟨Lc1255, hQ1256, l1257, y1258, z1259⟩, st1260⟩ := X1219.virtualBack hx (y := (⟨"com/example/forward_horizon/forwardhorizon/engine/Event", "outcome", "()Lcom/example/forward_horizon/forwardhorizon/engine/Outcome;"⟩ : MethodName)) (z := (⟨"com/example/forward_horizon/forwardhorizon/engine/Event", "outcome", "()Lcom/example/forward_horizon/forwardhorizon/engine/Outcome;"⟩ : MethodName)) hown (mvT hZ (tw hw 66 rfl)) (mvT hZ (tw hw 67 rfl)) (notFace_of_selects (args := #[]) (mvT hZ (tw hw 69 rfl))) (mvT hZ (tw hw 69 rfl)) (mvT hZ (tw hw 68 rfl)) (by decide) (backOf (W := 0) (rmOU l Z a0 hw [] a1090 (1 : Int32) (1 : Int32) uFAILED uPROCESSED uFAILED uDROPPED T1218.heap n0 Z1248 F_11242 F_21243 (by first | rfl | simp) O1249 SPROCESSED SFAILED SDROPPED) hZ (tw hw 70 rfl) (tw hw 2 rfl) (by decide) (by decide)) qa1268 qc1270 (g := (mkF m 103 #[iv p1, .val (.long p2), .second, iv 1, iv 1, iv 0, rv a1090, .unset, .unset] [(.ref a1090)])) rfl (by rw [hml]; rfl) (Steps.refl _) (argsL := []) (rest := []) (lenOf pdOU rfl) rfl (by show 2 * 0 + _ ≤ _; exact Nat.le_of_eq rfl) (hb hby at_103) (fun _ _ => ⟨rfl, rfl, (Nat.le_of_ble_eq_true rfl), (Nat.le_of_ble_eq_true rfl)⟩)
        dsimp only [Pt.U, Pt.locs, Pt.cells, Pt.slots] at X1251 l1257 y1258 z1259 st1260 hQ1256
        subst l1257 y1258 z1259
        obtain ⟨rfl, N1271, e1262⟩ := hQ1256
        have N1261 := Fr.app N1229 N1271
        refine Way.to st1260 ?_
        show Way _ _ _ _ (T1250.setTop (mkF m 106 #[iv p1, .val (.long p2), .second, iv 1, iv 1, iv 0, rv a1090, .unset, .unset] [(.ref uFAILED)]))
        refine Way.by (fun _ k => XS.astore X1251.here hx rfl (hb hby at_106) rfl rfl (l' := #[iv p1, .val (.long p2), .second, iv 1, iv 1, iv 0, rv a1090, rv uFAILED, .unset]) rfl k) ?_
        show Way _ _ _ _ (T1250.setTop (mkF m 108 #[iv p1, .val (.long p2), .second, iv 1, iv 1, iv 0, rv a1090, rv uFAILED, .unset] []))
        refine Way.by (fun _ k => XS.iloadN X1251.here hx rfl (hb hby at_108) rfl k) ?_
        show Way _ _ _ _ (T1250.setTop (mkF m 109 #[iv p1, .val (.long p2), .second, iv 1, iv 1, iv 0, rv a1090, rv uFAILED, .unset] [(.int 1)]))
        have b1273 : ¬ (1 : Int32) = (0 : Int32) := by decide
        refine Way.by (fun _ k => XS.ifNo X1251.here hx rfl (hb hby at_109) rfl ((if0 .eq _).trans (feq b1273).1) k) ?_
        show Way _ _ _ _ (T1250.setTop (mkF m 112 #[iv p1, .val (.long p2), .second, iv 1, iv 1, iv 0, rv a1090, rv uFAILED, .unset] []))
        obtain ⟨T1274, X1275, e1276, st1277⟩ := getS X1251 hx hZ hown (host := "") (tw hw 86 rfl) Via.refl e1262 (Sta.ext O1249.2 SFAILED) (g := (mkF m 112 #[iv p1, .val (.long p2), .second, iv 1, iv 1, iv 0, rv a1090, rv uFAILED, .unset] [])) rfl (hb hby at_112)
        refine Way.by st1277 ?_
        show Way _ _ _ _ (T1274.setTop (mkF m 115 #[iv p1, .val (.long p2), .second, iv 1, iv 1, iv 0, rv a1090, rv uFAILED, .unset] [(.ref uFAILED)]))
        refine Way.by (fun _ k => XS.astore X1275.here hx rfl (hb hby at_115) rfl rfl (l' := #[iv p1, .val (.long p2), .second, iv 1, iv 1, iv 0, rv a1090, rv uFAILED, rv uFAILED]) rfl k) ?_
        show Way _ _ _ _ (T1274.setTop (mkF m 117 #[iv p1, .val (.long p2), .second, iv 1, iv 1, iv 0, rv a1090, rv uFAILED, rv uFAILED] []))
        refine Way.by (fun _ k => XS.goto X1275.here hx rfl (pc0 := 117) (pc' := 138) rfl (hb hby at_117) (by decide) (by decide) k) ?_
        show Way _ _ _ _ (T1274.setTop (mkF m 138 #[iv p1, .val (.long p2), .second, iv 1, iv 1, iv 0, rv a1090, rv uFAILED, rv uFAILED] []))
        refine Way.by (fun _ k => XS.aload X1275.here hx rfl (hb hby at_138) rfl rfl k) ?_
        show Way _ _ _ _ (T1274.setTop (mkF m 140 #[iv p1, .val (.long p2), .second, iv 1, iv 1, iv 0, rv a1090, rv uFAILED, rv uFAILED] [(.ref uFAILED)]))
        refine Way.by (fun _ k => XS.aload X1275.here hx rfl (hb hby at_140) rfl rfl k) ?_
        show Way _ _ _ _ (T1274.setTop (mkF m 142 #[iv p1, .val (.long p2), .second, iv 1, iv 1, iv 0, rv a1090, rv uFAILED, rv uFAILED] [(.ref uFAILED), (.ref uFAILED)]))
        have b1278 : uFAILED = uFAILED := rfl
        refine Way.by (fun _ k => acmp X1275 hx rfl rfl rfl (pc0 := 142) (pc' := 145) (same := true) rfl (hb hby at_142) rfl (by simp [b1278]) (by decide) (by decide) k) ?_
        show Way _ _ _ _ (T1274.setTop (mkF m 145 #[iv p1, .val (.long p2), .second, iv 1, iv 1, iv 0, rv a1090, rv uFAILED, rv uFAILED] []))
        refine Way.by (fun _ k => XS.aload X1275.here hx rfl (hb hby at_145) rfl rfl k) ?_
        show Way _ _ _ _ (T1274.setTop (mkF m 147 #[iv p1, .val (.long p2), .second, iv 1, iv 1, iv 0, rv a1090, rv uFAILED, rv uFAILED] [(.ref a1090)]))
        obtain ⟨cq1295, kq1296, qa1297, qb1298, qc1299⟩ := isOf hZ e1276 F_01241
        obtain ⟨_, _, ⟨T1279, L1281, k1282, n1283⟩, -, X1280, ⟨Lc1284, hQ1285, l1286, y1287, z1288⟩, st1289⟩ := X1275.virtualBack hx (y := (⟨"com/example/forward_horizon/forwardhorizon/engine/Event", "outcome", "()Lcom/example/forward_horizon/forwardhorizon/engine/Outcome;"⟩ : MethodName)) (z := (⟨"com/example/forward_horizon/forwardhorizon/engine/Event", "outcome", "()Lcom/example/forward_horizon/forwardhorizon/engine/Outcome;"⟩ : MethodName)) hown (mvT hZ (tw hw 66 rfl)) (mvT hZ (tw hw 67 rfl)) (notFace_of_selects (args := #[]) (mvT hZ (tw hw 69 rfl))) (mvT hZ (tw hw 69 rfl)) (mvT hZ (tw hw 68 rfl)) (by decide) (backOf (W := 0) (rmOU l Z a0 hw [] a1090 (1 : Int32) (1 : Int32) uFAILED uPROCESSED uFAILED uDROPPED T1218.heap n0 Z1248 F_11242 F_21243 (by first | rfl | simp) O1249 SPROCESSED SFAILED SDROPPED) hZ (tw hw 70 rfl) (tw hw 2 rfl) (by decide) (by decide)) qa1297 qc1299 (g := (mkF m 147 #[iv p1, .val (.long p2), .second, iv 1, iv 1, iv 0, rv a1090, rv uFAILED, rv uFAILED] [(.ref a1090)])) rfl (by rw [hml]; rfl) (Steps.refl _) (argsL := []) (rest := []) (lenOf pdOU rfl) rfl (by show 2 * 0 + _ ≤ _; exact Nat.le_of_eq rfl) (hb hby at_147) (fun _ _ => ⟨rfl, e1276, (Nat.le_of_ble_eq_true rfl), (Nat.le_of_ble_eq_true rfl)⟩)
        dsimp only [Pt.U, Pt.locs, Pt.cells, Pt.slots] at X1280 l1286 y1287 z1288 st1289 hQ1285
        subst l1286 y1287 z1288
        obtain ⟨rfl, N1300, e1291⟩ := hQ1285
        have N1290 := Fr.app N1261 N1300
        refine Way.to st1289 ?_
        show Way _ _ _ _ (T1279.setTop (mkF m 150 #[iv p1, .val (.long p2), .second, iv 1, iv 1, iv 0, rv a1090, rv uFAILED, rv uFAILED] [(.ref uFAILED)]))
        refine Way.by (fun _ k => XS.aload X1280.here hx rfl (hb hby at_150) rfl rfl k) ?_
        show Way _ _ _ _ (T1279.setTop (mkF m 152 #[iv p1, .val (.long p2), .second, iv 1, iv 1, iv 0, rv a1090, rv uFAILED, rv uFAILED] [(.ref uFAILED), (.ref uFAILED)]))
        have b1302 : uFAILED = uFAILED := rfl
        refine Way.by (fun _ k => acmp X1280 hx rfl rfl rfl (pc0 := 152) (pc' := 155) (same := true) rfl (hb hby at_152) rfl (by simp [b1302]) (by decide) (by decide) k) ?_
        show Way _ _ _ _ (T1279.setTop (mkF m 155 #[iv p1, .val (.long p2), .second, iv 1, iv 1, iv 0, rv a1090, rv uFAILED, rv uFAILED] []))
        refine Way.by (fun _ k => XS.iconst X1280.here hx rfl (hb hby at_155) k) ?_
        show Way _ _ _ _ (T1279.setTop (mkF m 156 #[iv p1, .val (.long p2), .second, iv 1, iv 1, iv 0, rv a1090, rv uFAILED, rv uFAILED] [(.int 1)]))
        refine Way.by (fun _ k => XS.goto X1280.here hx rfl (pc0 := 156) (pc' := 160) rfl (hb hby at_156) (by decide) (by decide) k) ?_
        show Way _ _ _ _ (T1279.setTop (mkF m 160 #[iv p1, .val (.long p2), .second, iv 1, iv 1, iv 0, rv a1090, rv uFAILED, rv uFAILED] [(.int 1)]))
        refine Way.ret (v := (some (.int (nar .boolean (1 : Int32))))) X1280 hlk (fun h => by rw [Bd.returns] at h; cases h) (fun fs hr => retN X1280 hx (t := .boolean) Bd.returns (by simp) (hb hby at_160) hr) ?_ (by decide) (by decide)
        show Q0 n0 _ T1279.heap _
        rw [e1291]
        exact ⟨rfl, N1290⟩
      · skip
        refine Way.by (fun _ k => XS.ifNo X0.here hx rfl (hb hby at_28) rfl ((if0 .eq _).trans (feq b1081).1) k) ?_
        show Way _ _ _ _ (s₁.setTop (mkF m 31 #[iv p1, .val (.long p2), .second, iv 1, iv 1, .unset, .unset, .unset, .unset] []))
        refine Way.by (fun _ k => XS.iconst X0.here hx rfl (hb hby at_31) k) ?_
        show Way _ _ _ _ (s₁.setTop (mkF m 32 #[iv p1, .val (.long p2), .second, iv 1, iv 1, .unset, .unset, .unset, .unset] [(.int 1)]))
        refine Way.by (fun _ k => XS.goto X0.here hx rfl (pc0 := 32) (pc' := 36) rfl (hb hby at_32) (by decide) (by decide) k) ?_
        show Way _ _ _ _ (s₁.setTop (mkF m 36 #[iv p1, .val (.long p2), .second, iv 1, iv 1, .unset, .unset, .unset, .unset] [(.int 1)]))
        refine Way.by (fun _ k => XS.istore X0.here hx rfl (hb hby at_36) rfl (l' := #[iv p1, .val (.long p2), .second, iv 1, iv 1, iv 1, .unset, .unset, .unset]) rfl k) ?_
        show Way _ _ _ _ (s₁.setTop (mkF m 38 #[iv p1, .val (.long p2), .second, iv 1, iv 1, iv 1, .unset, .unset, .unset] []))
        obtain ⟨T1303, h1304, X1305, e1306, E1307, A1308, D1309, -, st1310⟩ := newO X0 hx hZ hown (tw hw 0 rfl) (tw hw 1 rfl) (tw hw 2 rfl) e0 (g := (mkF m 38 #[iv p1, .val (.long p2), .second, iv 1, iv 1, iv 1, .unset, .unset, .unset] [])) rfl (hb hby at_38) (by decide) (by decide)
        obtain ⟨a1311, g1312⟩ : ∃ z, z = h0.size := ⟨_, rfl⟩
        rw [← g1312] at A1308 D1309 st1310
        have nw1313 : n0 ≤ a1311 := Nat.le_trans Z0 (Nat.le_of_eq g1312.symm)
        have Z1314 := Nat.le_trans Z0 E1307.1
        have O1315 := O0.ext E1307
        have F1316 : Fld Z h1304 a1311 "com/example/forward_horizon/forwardhorizon/engine/Event" "holds" "Ljava/util/concurrent/atomic/AtomicInteger;" .null := D1309 (Or.inr (tw hw 49 rfl)) (ty := (.object "java/util/concurrent/atomic/AtomicInteger")) (by decide)
        have F1317 : Fld Z h1304 a1311 "com/example/forward_horizon/forwardhorizon/engine/Event" "fields" "Ljava/util/List;" .null := D1309 (Or.inr (tw hw 51 rfl)) (ty := (.object "java/util/List")) (by decide)
        have F1318 : Fld Z h1304 a1311 "com/example/forward_horizon/forwardhorizon/engine/Event" "releaseNanos" "J" (.long (0 : Int64)) := D1309 (Or.inr (tw hw 53 rfl)) (ty := .long) (by decide)
        have F1319 : Fld Z h1304 a1311 "com/example/forward_horizon/forwardhorizon/engine/Event" "lastEndNanos" "Ljava/util/concurrent/atomic/AtomicLong;" .null := D1309 (Or.inr (tw hw 65 rfl)) (ty := (.object "java/util/concurrent/atomic/AtomicLong")) (by decide)
        have F1320 : Fld Z h1304 a1311 "com/example/forward_horizon/forwardhorizon/engine/Event" "failed" "Z" (.int 0) := D1309 (Or.inl (tw hw 72 rfl)) (ty := .boolean) (by decide)
        have F1321 : Fld Z h1304 a1311 "com/example/forward_horizon/forwardhorizon/engine/Event" "dropped" "Z" (.int 0) := D1309 (Or.inl (tw hw 74 rfl)) (ty := .boolean) (by decide)
        refine Way.by st1310 ?_
        show Way _ _ _ _ (T1303.setTop (mkF m 41 #[iv p1, .val (.long p2), .second, iv 1, iv 1, iv 1, .unset, .unset, .unset] [(.ref a1311)]))
        refine Way.by (fun _ k => XS.dup X1305.here hx rfl (hb hby at_41) rfl rfl k) ?_
        show Way _ _ _ _ (T1303.setTop (mkF m 42 #[iv p1, .val (.long p2), .second, iv 1, iv 1, iv 1, .unset, .unset, .unset] [(.ref a1311), (.ref a1311)]))
        obtain ⟨T1322, h1323, X1324, e1325, E1326, A1327, D1328, -, st1329⟩ := newO X1305 hx hZ hown (tw hw 3 rfl) (tw hw 4 rfl) (tw hw 5 rfl) e1306 (g := (mkF m 42 #[iv p1, .val (.long p2), .second, iv 1, iv 1, iv 1, .unset, .unset, .unset] [(.ref a1311), (.ref a1311)])) rfl (hb hby at_42) (by decide) (by decide)
        obtain ⟨a1330, g1331⟩ : ∃ z, z = h1304.size := ⟨_, rfl⟩
        rw [← g1331] at A1327 D1328 st1329
        have ne1332 : a1311 ≠ a1330 := Nat.ne_of_lt (Nat.lt_of_lt_of_eq A1308.lt g1331.symm)
        have nw1333 : n0 ≤ a1330 := Nat.le_trans Z1314 (Nat.le_of_eq g1331.symm)
        have E1334 := Exa.ext E1326 A1308
        have F1335 := Fld.ext E1326 F1316
        have F1336 := Fld.ext E1326 F1317
        have F1337 := Fld.ext E1326 F1318
        have F1338 := Fld.ext E1326 F1319
        have F1339 := Fld.ext E1326 F1320
        have F1340 := Fld.ext E1326 F1321
        have Z1341 := Nat.le_trans Z1314 E1326.1
        have O1342 := O1315.ext E1326
        have F1343 : Fld Z h1323 a1330 "java/util/AbstractList" "modCount" "I" (.int 0) := D1328 (Or.inl (tw hw 25 rfl)) (ty := .int) (by decide)
        have F1344 : Fld Z h1323 a1330 "java/util/ArrayList" "elementData" "[Ljava/lang/Object;" .null := D1328 (Or.inl (tw hw 28 rfl)) (ty := (.array (.object "java/lang/Object"))) (by decide)
        refine Way.by st1329 ?_
        show Way _ _ _ _ (T1322.setTop (mkF m 45 #[iv p1, .val (.long p2), .second, iv 1, iv 1, iv 1, .unset, .unset, .unset] [(.ref a1330), (.ref a1311), (.ref a1311)]))
        refine Way.by (fun _ k => XS.dup X1324.here hx rfl (hb hby at_45) rfl rfl k) ?_
        show Way _ _ _ _ (T1322.setTop (mkF m 46 #[iv p1, .val (.long p2), .second, iv 1, iv 1, iv 1, .unset, .unset, .unset] [(.ref a1330), (.ref a1330), (.ref a1311), (.ref a1311)]))
        obtain ⟨_, _, ⟨T1345, L1347, k1348, n1349⟩, -, X1346, ⟨Lc1350, hQ1351, l1352, y1353, z1354⟩, st1355⟩ := X1324.specialBack hx (y := (⟨"java/util/ArrayList", "<init>", "()V"⟩ : MethodName)) rfl hown (mvT hZ (tw hw 6 rfl)) (mvT hZ (tw hw 7 rfl)) (mvT hZ (tw hw 8 rfl)) (by decide) (backOf (W := 3) (rmA0 l Z a0 hw [] a1330 de h1323 n0 Z1341 A1327 F1343 F1344 nw1333 O1342 SDE) hZ (tw hw 8 rfl) (tw hw 5 rfl) (by decide) (by decide)) (g := (mkF m 46 #[iv p1, .val (.long p2), .second, iv 1, iv 1, iv 1, .unset, .unset, .unset] [(.ref a1330), (.ref a1330), (.ref a1311), (.ref a1311)])) rfl (by rw [hml]; rfl) (Steps.refl _) (a := a1330) (argsL := []) (rest := [(.ref a1330), (.ref a1311), (.ref a1311)]) (lenOf pdA0 rfl) rfl (by show 2 * 0 + _ ≤ _; exact Nat.le_of_eq rfl) (hb hby at_46) (fun _ _ => ⟨rfl, e1325, (Nat.le_of_ble_eq_true rfl), (Nat.le_of_ble_eq_true rfl)⟩)
        dsimp only [Pt.U, Pt.locs, Pt.cells, Pt.slots] at X1346 l1352 y1353 z1354 st1355 hQ1351
        subst l1352 y1353 z1354
        obtain ⟨rfl, N1361, K1362, F_01363, F_11364, F_21365⟩ := hQ1351
        have N1356 := Fr.app N0 N1361
        have E1366 := E1334.keep K1362
        have F1367 := F1335.keep K1362 (ninS ne1332 nin0)
        have F1368 := F1336.keep K1362 (ninS ne1332 nin0)
        have F1369 := F1337.keep K1362 (ninS ne1332 nin0)
        have F1370 := F1338.keep K1362 (ninS ne1332 nin0)
        have F1371 := F1339.keep K1362 (ninS ne1332 nin0)
        have F1372 := F1340.keep K1362 (ninS ne1332 nin0)
        have E1373 := A1327.keep K1362
        have Z1374 := Nat.le_trans Z1341 K1362.1
        have O1375 := O1342.keep K1362 (allS nw1333 all0)
        refine Way.to st1355 ?_
        show Way _ _ _ _ (T1345.setTop (mkF m 49 #[iv p1, .val (.long p2), .second, iv 1, iv 1, iv 1, .unset, .unset, .unset] [(.ref a1330), (.ref a1311), (.ref a1311)]))
        refine Way.by (fun _ k => XT.lloadN X1346.here hx rfl (hb hby at_49) rfl k) ?_
        show Way _ _ _ _ (T1345.setTop (mkF m 50 #[iv p1, .val (.long p2), .second, iv 1, iv 1, iv 1, .unset, .unset, .unset] [(.long p2), (.ref a1330), (.ref a1311), (.ref a1311)]))
        obtain ⟨_, _, ⟨T1376, L1378, k1379, n1380⟩, -, X1377, ⟨Lc1381, hQ1382, l1383, y1384, z1385⟩, st1386⟩ := X1346.specialBack hx (y := (⟨"com/example/forward_horizon/forwardhorizon/engine/Event", "<init>", "(Ljava/util/List;J)V"⟩ : MethodName)) rfl hown (mvT hZ (tw hw 29 rfl)) (mvT hZ (tw hw 30 rfl)) (mvT hZ (tw hw 31 rfl)) (by decide) (backOf (W := 1) (rmT l Z a0 hw [] a1311 a1330 p2 T1345.heap n0 Z1374 E1366 F1367 F1368 F1369 F1370 F1371 F1372 nw1313) hZ (tw hw 31 rfl) (tw hw 2 rfl) (by decide) (by decide)) (g := (mkF m 50 #[iv p1, .val (.long p2), .second, iv 1, iv 1, iv 1, .unset, .unset, .unset] [(.long p2), (.ref a1330), (.ref a1311), (.ref a1311)])) rfl (by rw [hml]; rfl) (Steps.refl _) (a := a1311) (argsL := [(.ref a1330), (.long p2)]) (rest := [(.ref a1311)]) (lenOf pdT rfl) rfl (by show 2 * 0 + _ ≤ _; exact Nat.le_of_eq rfl) (hb hby at_50) (fun _ _ => ⟨rfl, rfl, (Nat.le_of_ble_eq_true rfl), (Nat.le_of_ble_eq_true rfl)⟩)
        dsimp only [Pt.U, Pt.locs, Pt.cells, Pt.slots] at X1377 l1383 y1384 z1385 st1386 hQ1382
        subst l1383 y1384 z1385
        obtain ⟨rfl, N1392, K1393, F_01394, F_11395, F_21396, F_31397⟩ := hQ1382
        have N1387 := Fr.app N1356 N1392
        have E1398 := E1366.keep K1393
        have E1399 := F_01363.keep K1393
        have F1400 := F_11364.keep K1393 (ninS ne1332.symm nin0)
        have F1401 := F_21365.keep K1393 (ninS ne1332.symm nin0)
        have Z1402 := Nat.le_trans Z1374 K1393.1
        have O1403 := O1375.keep K1393 (allS nw1313 all0)
        refine Way.to st1386 ?_
        show Way _ _ _ _ (T1376.setTop (mkF m 53 #[iv p1, .val (.long p2), .second, iv 1, iv 1, iv 1, .unset, .unset, .unset] [(.ref a1311)]))
        refine Way.by (fun _ k => XS.astore X1377.here hx rfl (hb hby at_53) rfl rfl (l' := #[iv p1, .val (.long p2), .second, iv 1, iv 1, iv 1, rv a1311, .unset, .unset]) rfl k) ?_
        show Way _ _ _ _ (T1376.setTop (mkF m 55 #[iv p1, .val (.long p2), .second, iv 1, iv 1, iv 1, rv a1311, .unset, .unset] []))
        refine Way.by (fun _ k => XS.iload X1377.here hx rfl (hb hby at_55) rfl k) ?_
        show Way _ _ _ _ (T1376.setTop (mkF m 57 #[iv p1, .val (.long p2), .second, iv 1, iv 1, iv 1, rv a1311, .unset, .unset] [(.int 1)]))
        have b1404 : ¬ (1 : Int32) = (0 : Int32) := by decide
        refine Way.by (fun _ k => XS.ifNo X1377.here hx rfl (hb hby at_57) rfl ((if0 .eq _).trans (feq b1404).1) k) ?_
        show Way _ _ _ _ (T1376.setTop (mkF m 60 #[iv p1, .val (.long p2), .second, iv 1, iv 1, iv 1, rv a1311, .unset, .unset] []))
        refine Way.by (fun _ k => XS.iload X1377.here hx rfl (hb hby at_60) rfl k) ?_
        show Way _ _ _ _ (T1376.setTop (mkF m 62 #[iv p1, .val (.long p2), .second, iv 1, iv 1, iv 1, rv a1311, .unset, .unset] [(.int 1)]))
        have b1405 : ¬ (1 : Int32) = (0 : Int32) := by decide
        refine Way.by (fun _ k => XS.ifNo X1377.here hx rfl (hb hby at_62) rfl ((if0 .eq _).trans (feq b1405).1) k) ?_
        show Way _ _ _ _ (T1376.setTop (mkF m 65 #[iv p1, .val (.long p2), .second, iv 1, iv 1, iv 1, rv a1311, .unset, .unset] []))
        refine Way.by (fun _ k => XS.aload X1377.here hx rfl (hb hby at_65) rfl rfl k) ?_
        show Way _ _ _ _ (T1376.setTop (mkF m 67 #[iv p1, .val (.long p2), .second, iv 1, iv 1, iv 1, rv a1311, .unset, .unset] [(.ref a1311)]))
        obtain ⟨cq1422, kq1423, qa1424, qb1425, qc1426⟩ := isOf hZ rfl F_01394
        obtain ⟨_, _, ⟨T1406, L1408, k1409, n1410⟩, -, X1407, ⟨Lc1411, hQ1412, l1413, y1414, z1415⟩, st1416⟩ := X1377.virtualBack hx (y := (⟨"com/example/forward_horizon/forwardhorizon/engine/Event", "markDropped", "()V"⟩ : MethodName)) (z := (⟨"com/example/forward_horizon/forwardhorizon/engine/Event", "markDropped", "()V"⟩ : MethodName)) hown (mvT hZ (tw hw 87 rfl)) (mvT hZ (tw hw 88 rfl)) (notFace_of_selects (args := #[]) (mvT hZ (tw hw 90 rfl))) (mvT hZ (tw hw 90 rfl)) (mvT hZ (tw hw 89 rfl)) (by decide) (backOf (W := 0) (rmMD l Z a0 hw [] a1311 (0 : Int32) (0 : Int32) T1376.heap n0 Z1402 F_01394 F_11395 F_21396 nw1313) hZ (tw hw 91 rfl) (tw hw 2 rfl) (by decide) (by decide)) qa1424 qc1426 (g := (mkF m 67 #[iv p1, .val (.long p2), .second, iv 1, iv 1, iv 1, rv a1311, .unset, .unset] [(.ref a1311)])) rfl (by rw [hml]; rfl) (Steps.refl _) (argsL := []) (rest := []) (lenOf pdMD rfl) rfl (by show 2 * 0 + _ ≤ _; exact Nat.le_of_eq rfl) (hb hby at_67) (fun _ _ => ⟨rfl, rfl, (Nat.le_of_ble_eq_true rfl), (Nat.le_of_ble_eq_true rfl)⟩)
        dsimp only [Pt.U, Pt.locs, Pt.cells, Pt.slots] at X1407 l1413 y1414 z1415 st1416 hQ1412
        subst l1413 y1414 z1415
        obtain ⟨rfl, N1427, K1428, F_01429, F_11430, F_21431⟩ := hQ1412
        have N1417 := Fr.app N1387 N1427
        have E1432 := F_01394.keep K1428
        have E1433 := E1399.keep K1428
        have F1434 := F1400.keep K1428 (ninS ne1332.symm nin0)
        have F1435 := F1401.keep K1428 (ninS ne1332.symm nin0)
        have Z1436 := Nat.le_trans Z1402 K1428.1
        have O1437 := O1403.keep K1428 (allS nw1313 all0)
        refine Way.to st1416 ?_
        show Way _ _ _ _ (T1406.setTop (mkF m 70 #[iv p1, .val (.long p2), .second, iv 1, iv 1, iv 1, rv a1311, .unset, .unset] []))
        refine Way.by (fun _ k => XS.iloadN X1407.here hx rfl (hb hby at_70) rfl k) ?_
        show Way _ _ _ _ (T1406.setTop (mkF m 71 #[iv p1, .val (.long p2), .second, iv 1, iv 1, iv 1, rv a1311, .unset, .unset] [(.int 1)]))
        have b1438 : ¬ (1 : Int32) = (0 : Int32) := by decide
        refine Way.by (fun _ k => XS.ifNo X1407.here hx rfl (hb hby at_71) rfl ((if0 .eq _).trans (feq b1438).1) k) ?_
        show Way _ _ _ _ (T1406.setTop (mkF m 74 #[iv p1, .val (.long p2), .second, iv 1, iv 1, iv 1, rv a1311, .unset, .unset] []))
        refine Way.by (fun _ k => XS.aload X1407.here hx rfl (hb hby at_74) rfl rfl k) ?_
        show Way _ _ _ _ (T1406.setTop (mkF m 76 #[iv p1, .val (.long p2), .second, iv 1, iv 1, iv 1, rv a1311, .unset, .unset] [(.ref a1311)]))
        obtain ⟨cq1455, kq1456, qa1457, qb1458, qc1459⟩ := isOf hZ rfl F_01429
        obtain ⟨_, _, ⟨T1439, L1441, k1442, n1443⟩, -, X1440, ⟨Lc1444, hQ1445, l1446, y1447, z1448⟩, st1449⟩ := X1407.virtualBack hx (y := (⟨"com/example/forward_horizon/forwardhorizon/engine/Event", "markFailed", "()V"⟩ : MethodName)) (z := (⟨"com/example/forward_horizon/forwardhorizon/engine/Event", "markFailed", "()V"⟩ : MethodName)) hown (mvT hZ (tw hw 79 rfl)) (mvT hZ (tw hw 80 rfl)) (notFace_of_selects (args := #[]) (mvT hZ (tw hw 82 rfl))) (mvT hZ (tw hw 82 rfl)) (mvT hZ (tw hw 81 rfl)) (by decide) (backOf (W := 0) (rmMF l Z a0 hw [] a1311 (0 : Int32) (1 : Int32) T1406.heap n0 Z1436 F_01429 F_11430 F_21431 nw1313) hZ (tw hw 83 rfl) (tw hw 2 rfl) (by decide) (by decide)) qa1457 qc1459 (g := (mkF m 76 #[iv p1, .val (.long p2), .second, iv 1, iv 1, iv 1, rv a1311, .unset, .unset] [(.ref a1311)])) rfl (by rw [hml]; rfl) (Steps.refl _) (argsL := []) (rest := []) (lenOf pdMF rfl) rfl (by show 2 * 0 + _ ≤ _; exact Nat.le_of_eq rfl) (hb hby at_76) (fun _ _ => ⟨rfl, rfl, (Nat.le_of_ble_eq_true rfl), (Nat.le_of_ble_eq_true rfl)⟩)
        dsimp only [Pt.U, Pt.locs, Pt.cells, Pt.slots] at X1440 l1446 y1447 z1448 st1449 hQ1445
        subst l1446 y1447 z1448
        obtain ⟨rfl, N1460, K1461, F_01462, F_11463, F_21464⟩ := hQ1445
        have N1450 := Fr.app N1417 N1460
        have E1465 := F_01429.keep K1461
        have E1466 := E1433.keep K1461
        have F1467 := F1434.keep K1461 (ninS ne1332.symm nin0)
        have F1468 := F1435.keep K1461 (ninS ne1332.symm nin0)
        have Z1469 := Nat.le_trans Z1436 K1461.1
        have O1470 := O1437.keep K1461 (allS nw1313 all0)
        refine Way.to st1449 ?_
        show Way _ _ _ _ (T1439.setTop (mkF m 79 #[iv p1, .val (.long p2), .second, iv 1, iv 1, iv 1, rv a1311, .unset, .unset] []))
        refine Way.by (fun _ k => XS.goto X1440.here hx rfl (pc0 := 79) (pc' := 101) rfl (hb hby at_79) (by decide) (by decide) k) ?_
        show Way _ _ _ _ (T1439.setTop (mkF m 101 #[iv p1, .val (.long p2), .second, iv 1, iv 1, iv 1, rv a1311, .unset, .unset] []))
        refine Way.by (fun _ k => XS.aload X1440.here hx rfl (hb hby at_101) rfl rfl k) ?_
        show Way _ _ _ _ (T1439.setTop (mkF m 103 #[iv p1, .val (.long p2), .second, iv 1, iv 1, iv 1, rv a1311, .unset, .unset] [(.ref a1311)]))
        obtain ⟨cq1487, kq1488, qa1489, qb1490, qc1491⟩ := isOf hZ rfl F_01462
        obtain ⟨_, _, ⟨T1471, L1473, k1474, n1475⟩, -, X1472, ⟨Lc1476, hQ1477, l1478, y1479, z1480⟩, st1481⟩ := X1440.virtualBack hx (y := (⟨"com/example/forward_horizon/forwardhorizon/engine/Event", "outcome", "()Lcom/example/forward_horizon/forwardhorizon/engine/Outcome;"⟩ : MethodName)) (z := (⟨"com/example/forward_horizon/forwardhorizon/engine/Event", "outcome", "()Lcom/example/forward_horizon/forwardhorizon/engine/Outcome;"⟩ : MethodName)) hown (mvT hZ (tw hw 66 rfl)) (mvT hZ (tw hw 67 rfl)) (notFace_of_selects (args := #[]) (mvT hZ (tw hw 69 rfl))) (mvT hZ (tw hw 69 rfl)) (mvT hZ (tw hw 68 rfl)) (by decide) (backOf (W := 0) (rmOU l Z a0 hw [] a1311 (1 : Int32) (1 : Int32) uFAILED uPROCESSED uFAILED uDROPPED T1439.heap n0 Z1469 F_11463 F_21464 (by first | rfl | simp) O1470 SPROCESSED SFAILED SDROPPED) hZ (tw hw 70 rfl) (tw hw 2 rfl) (by decide) (by decide)) qa1489 qc1491 (g := (mkF m 103 #[iv p1, .val (.long p2), .second, iv 1, iv 1, iv 1, rv a1311, .unset, .unset] [(.ref a1311)])) rfl (by rw [hml]; rfl) (Steps.refl _) (argsL := []) (rest := []) (lenOf pdOU rfl) rfl (by show 2 * 0 + _ ≤ _; exact Nat.le_of_eq rfl) (hb hby at_103) (fun _ _ => ⟨rfl, rfl, (Nat.le_of_ble_eq_true rfl), (Nat.le_of_ble_eq_true rfl)⟩)
        dsimp only [Pt.U, Pt.locs, Pt.cells, Pt.slots] at X1472 l1478 y1479 z1480 st1481 hQ1477
        subst l1478 y1479 z1480
        obtain ⟨rfl, N1492, e1483⟩ := hQ1477
        have N1482 := Fr.app N1450 N1492
        refine Way.to st1481 ?_
        show Way _ _ _ _ (T1471.setTop (mkF m 106 #[iv p1, .val (.long p2), .second, iv 1, iv 1, iv 1, rv a1311, .unset, .unset] [(.ref uFAILED)]))
        refine Way.by (fun _ k => XS.astore X1472.here hx rfl (hb hby at_106) rfl rfl (l' := #[iv p1, .val (.long p2), .second, iv 1, iv 1, iv 1, rv a1311, rv uFAILED, .unset]) rfl k) ?_
        show Way _ _ _ _ (T1471.setTop (mkF m 108 #[iv p1, .val (.long p2), .second, iv 1, iv 1, iv 1, rv a1311, rv uFAILED, .unset] []))
        refine Way.by (fun _ k => XS.iloadN X1472.here hx rfl (hb hby at_108) rfl k) ?_
        show Way _ _ _ _ (T1471.setTop (mkF m 109 #[iv p1, .val (.long p2), .second, iv 1, iv 1, iv 1, rv a1311, rv uFAILED, .unset] [(.int 1)]))
        have b1494 : ¬ (1 : Int32) = (0 : Int32) := by decide
        refine Way.by (fun _ k => XS.ifNo X1472.here hx rfl (hb hby at_109) rfl ((if0 .eq _).trans (feq b1494).1) k) ?_
        show Way _ _ _ _ (T1471.setTop (mkF m 112 #[iv p1, .val (.long p2), .second, iv 1, iv 1, iv 1, rv a1311, rv uFAILED, .unset] []))
        obtain ⟨T1495, X1496, e1497, st1498⟩ := getS X1472 hx hZ hown (host := "") (tw hw 86 rfl) Via.refl e1483 (Sta.ext O1470.2 SFAILED) (g := (mkF m 112 #[iv p1, .val (.long p2), .second, iv 1, iv 1, iv 1, rv a1311, rv uFAILED, .unset] [])) rfl (hb hby at_112)
        refine Way.by st1498 ?_
        show Way _ _ _ _ (T1495.setTop (mkF m 115 #[iv p1, .val (.long p2), .second, iv 1, iv 1, iv 1, rv a1311, rv uFAILED, .unset] [(.ref uFAILED)]))
        refine Way.by (fun _ k => XS.astore X1496.here hx rfl (hb hby at_115) rfl rfl (l' := #[iv p1, .val (.long p2), .second, iv 1, iv 1, iv 1, rv a1311, rv uFAILED, rv uFAILED]) rfl k) ?_
        show Way _ _ _ _ (T1495.setTop (mkF m 117 #[iv p1, .val (.long p2), .second, iv 1, iv 1, iv 1, rv a1311, rv uFAILED, rv uFAILED] []))
        refine Way.by (fun _ k => XS.goto X1496.here hx rfl (pc0 := 117) (pc' := 138) rfl (hb hby at_117) (by decide) (by decide) k) ?_
        show Way _ _ _ _ (T1495.setTop (mkF m 138 #[iv p1, .val (.long p2), .second, iv 1, iv 1, iv 1, rv a1311, rv uFAILED, rv uFAILED] []))
        refine Way.by (fun _ k => XS.aload X1496.here hx rfl (hb hby at_138) rfl rfl k) ?_
        show Way _ _ _ _ (T1495.setTop (mkF m 140 #[iv p1, .val (.long p2), .second, iv 1, iv 1, iv 1, rv a1311, rv uFAILED, rv uFAILED] [(.ref uFAILED)]))
        refine Way.by (fun _ k => XS.aload X1496.here hx rfl (hb hby at_140) rfl rfl k) ?_
        show Way _ _ _ _ (T1495.setTop (mkF m 142 #[iv p1, .val (.long p2), .second, iv 1, iv 1, iv 1, rv a1311, rv uFAILED, rv uFAILED] [(.ref uFAILED), (.ref uFAILED)]))
        have b1499 : uFAILED = uFAILED := rfl
        refine Way.by (fun _ k => acmp X1496 hx rfl rfl rfl (pc0 := 142) (pc' := 145) (same := true) rfl (hb hby at_142) rfl (by simp [b1499]) (by decide) (by decide) k) ?_
        show Way _ _ _ _ (T1495.setTop (mkF m 145 #[iv p1, .val (.long p2), .second, iv 1, iv 1, iv 1, rv a1311, rv uFAILED, rv uFAILED] []))
        refine Way.by (fun _ k => XS.aload X1496.here hx rfl (hb hby at_145) rfl rfl k) ?_
        show Way _ _ _ _ (T1495.setTop (mkF m 147 #[iv p1, .val (.long p2), .second, iv 1, iv 1, iv 1, rv a1311, rv uFAILED, rv uFAILED] [(.ref a1311)]))
        obtain ⟨cq1516, kq1517, qa1518, qb1519, qc1520⟩ := isOf hZ e1497 F_01462
        obtain ⟨_, _, ⟨T1500, L1502, k1503, n1504⟩, -, X1501, ⟨Lc1505, hQ1506, l1507, y1508, z1509⟩, st1510⟩ := X1496.virtualBack hx (y := (⟨"com/example/forward_horizon/forwardhorizon/engine/Event", "outcome", "()Lcom/example/forward_horizon/forwardhorizon/engine/Outcome;"⟩ : MethodName)) (z := (⟨"com/example/forward_horizon/forwardhorizon/engine/Event", "outcome", "()Lcom/example/forward_horizon/forwardhorizon/engine/Outcome;"⟩ : MethodName)) hown (mvT hZ (tw hw 66 rfl)) (mvT hZ (tw hw 67 rfl)) (notFace_of_selects (args := #[]) (mvT hZ (tw hw 69 rfl))) (mvT hZ (tw hw 69 rfl)) (mvT hZ (tw hw 68 rfl)) (by decide) (backOf (W := 0) (rmOU l Z a0 hw [] a1311 (1 : Int32) (1 : Int32) uFAILED uPROCESSED uFAILED uDROPPED T1439.heap n0 Z1469 F_11463 F_21464 (by first | rfl | simp) O1470 SPROCESSED SFAILED SDROPPED) hZ (tw hw 70 rfl) (tw hw 2 rfl) (by decide) (by decide)) qa1518 qc1520 (g := (mkF m 147 #[iv p1, .val (.long p2), .second, iv 1, iv 1, iv 1, rv a1311, rv uFAILED, rv uFAILED] [(.ref a1311)])) rfl (by rw [hml]; rfl) (Steps.refl _) (argsL := []) (rest := []) (lenOf pdOU rfl) rfl (by show 2 * 0 + _ ≤ _; exact Nat.le_of_eq rfl) (hb hby at_147) (fun _ _ => ⟨rfl, e1497, (Nat.le_of_ble_eq_true rfl), (Nat.le_of_ble_eq_true rfl)⟩)
        dsimp only [Pt.U, Pt.locs, Pt.cells, Pt.slots] at X1501 l1507 y1508 z1509 st1510 hQ1506
        subst l1507 y1508 z1509
        obtain ⟨rfl, N1521, e1512⟩ := hQ1506
        have N1511 := Fr.app N1482 N1521
        refine Way.to st1510 ?_
        show Way _ _ _ _ (T1500.setTop (mkF m 150 #[iv p1, .val (.long p2), .second, iv 1, iv 1, iv 1, rv a1311, rv uFAILED, rv uFAILED] [(.ref uFAILED)]))
        refine Way.by (fun _ k => XS.aload X1501.here hx rfl (hb hby at_150) rfl rfl k) ?_
        show Way _ _ _ _ (T1500.setTop (mkF m 152 #[iv p1, .val (.long p2), .second, iv 1, iv 1, iv 1, rv a1311, rv uFAILED, rv uFAILED] [(.ref uFAILED), (.ref uFAILED)]))
        have b1523 : uFAILED = uFAILED := rfl
        refine Way.by (fun _ k => acmp X1501 hx rfl rfl rfl (pc0 := 152) (pc' := 155) (same := true) rfl (hb hby at_152) rfl (by simp [b1523]) (by decide) (by decide) k) ?_
        show Way _ _ _ _ (T1500.setTop (mkF m 155 #[iv p1, .val (.long p2), .second, iv 1, iv 1, iv 1, rv a1311, rv uFAILED, rv uFAILED] []))
        refine Way.by (fun _ k => XS.iconst X1501.here hx rfl (hb hby at_155) k) ?_
        show Way _ _ _ _ (T1500.setTop (mkF m 156 #[iv p1, .val (.long p2), .second, iv 1, iv 1, iv 1, rv a1311, rv uFAILED, rv uFAILED] [(.int 1)]))
        refine Way.by (fun _ k => XS.goto X1501.here hx rfl (pc0 := 156) (pc' := 160) rfl (hb hby at_156) (by decide) (by decide) k) ?_
        show Way _ _ _ _ (T1500.setTop (mkF m 160 #[iv p1, .val (.long p2), .second, iv 1, iv 1, iv 1, rv a1311, rv uFAILED, rv uFAILED] [(.int 1)]))
        refine Way.ret (v := (some (.int (nar .boolean (1 : Int32))))) X1501 hlk (fun h => by rw [Bd.returns] at h; cases h) (fun fs hr => retN X1501 hx (t := .boolean) Bd.returns (by simp) (hb hby at_160) hr) ?_ (by decide) (by decide)
        show Q0 n0 _ T1500.heap _
        rw [e1512]
        exact ⟨rfl, N1511⟩
set_option maxRecDepth 65536 in
set_option maxHeartbeats 40000000 in
theorem comes_1 {Post : Tables → Env → Array Value → State → Outcome → State → Prop} (hpost : ∀ tb e args s v u, (limb_1_1.after args s (.returned v) u = true ∧ limb_1_2.after args s (.returned v) u = true ∧ True) → FrameEnd s (.returned v) u (Jvm.fieldLocs frame_1_writes args s ++ Jvm.arrayLocs frame_1_arrays args s ++ Jvm.staticLocs frame_1_statics s) 16 128 → Post tb e args s (.returned v) u) :
    ArmFor flags0 classFile x code maxLocals ret World_1 tables_1 room_1 Calls_1 rest_1 Pre_1 Post := by
  intro l hfl _ _ p e ha hc hk s m args below hf hA hF happ hP
  obtain ⟨hcalls, hrest, hpre⟩ := hP
  obtain ⟨-, -, -, hnamed, -, -, -, hat⟩ := (Spec.applies_iff hf).mp happ
  obtain ⟨hg, hn⟩ := and_e (Cond.before_iff.mp (show (Jvm.Cond.and given_1 narrow_1).before args s = true from hpre))
  obtain ⟨hg0, hgr0⟩ := and_e hg
  obtain ⟨hg1, hgr1⟩ := and_e hgr0
  obtain ⟨w0, w1, rfl⟩ : ∃ w0 w1 : Value, args = #[w0, w1] := by
    have hs : args.size = 2 := by simpa [Cond.value, given_1] using hg0
    obtain ⟨L⟩ := args
    match L, hs with
    | [w0, w1], _ => exact ⟨w0, w1, rfl⟩
  have hw := fun d (hd : d ∈ tables_1) => atoms_spec (ws := Jvm.Cond.code x code maxLocals ret :: tables_1) hat d (List.mem_cons_of_mem _ hd)
  have hfit : Fit s := fun {y c} hc i hi => by
    obtain ⟨ha, rfl⟩ := Array.getElem?_eq_some_iff.mp hc
    have q := List.all_eq_true.mp ((Array.all_eq_true_iff_forall_mem.mp hF) _ (Array.getElem_mem ha)) i (List.mem_range.mpr hi)
    simpa [Array.getElem?_eq_getElem hi] using q
  obtain ⟨i0, ei0⟩ := is_v hg1
  obtain rfl : w0 = (.int i0) := Option.some.inj ei0
  obtain ⟨i1, ei1⟩ := isL_v hgr1
  obtain rfl : w1 = (.long i1) := Option.some.inj ei1
  obtain ⟨hn0, hnr0⟩ := and_e hn
  obtain ⟨hn1, hnr1⟩ := and_e hnr0
  obtain ⟨uPROCESSED, _, _, _, evPROCESSED, -⟩ := Cond.exactly_spec (Cond.before_iff.mpr hn0)
  have SPROCESSED := Sta.start evPROCESSED (Or.inr ⟨(tw hw 76 rfl), (tw hw 77 rfl)⟩)
  have EPROCESSED := Exa.start evPROCESSED hn0
  obtain ⟨uFAILED, _, _, _, evFAILED, -⟩ := Cond.exactly_spec (Cond.before_iff.mpr hn1)
  have SFAILED := Sta.start evFAILED (Or.inr ⟨(tw hw 76 rfl), (tw hw 85 rfl)⟩)
  have EFAILED := Exa.start evFAILED hn1
  obtain ⟨uDROPPED, _, _, _, evDROPPED, -⟩ := Cond.exactly_spec (Cond.before_iff.mpr hnr1)
  have SDROPPED := Sta.start evDROPPED (Or.inr ⟨(tw hw 76 rfl), (tw hw 93 rfl)⟩)
  have EDROPPED := Exa.start evDROPPED hnr1
  have hs := atoms_of jdkStatics_1 (show (jdkStatics_1.foldr Jvm.Cond.and restOwn_1).before _ s = true from hrest)
  obtain ⟨de, SDE, -⟩ := staRef (hs.1 _ (List.mem_of_getElem? (i := 7) rfl)) (Or.inr ⟨(tw hw 5 rfl), (hs.1 _ (List.mem_of_getElem? (i := 2) rfl))⟩)
  obtain ⟨n, o, h1, h2, h3, _, L, rfl, ⟨rfl, N⟩, hq⟩ := rm0 l s _ hw tables_1 i0 i1 de uPROCESSED uFAILED uDROPPED s.heap s.heap.size (Nat.le_refl _) (Old.start s) SDE SPROCESSED SFAILED SDROPPED p e ha hc hk s m _ below hf ((Spec.applies_iff_loose hf).mp happ).1 ⟨rfl, State.Warmed39.refl s, rfl⟩ trivial
  refine ⟨n, _, h1, h2, h3, hpost _ _ _ _ _ _ ⟨Cond.after_iff.mpr rfl, Cond.after_iff.mpr (eq_i res_at (Term.int_eval (1)) rfl), trivial⟩ ⟨hq.1, hq.2.1, (hq.2.2.sift fun y hy => Or.inr (N y hy)).mono (by decide) (by decide)⟩⟩
theorem main_1_1 : Claimed_1_1 := comes_1 fun _ _ _ _ _ _ h hF => ⟨h.1, hF⟩
theorem main_1_2 : Claimed_1_2 := comes_1 fun _ _ _ _ _ _ h hF => ⟨h.2.1, hF⟩
end Jvm.Pilot.@@N@@
namespace Jvm.Pilot.@@N@@
open Jvm Jvm.ClassFile Sem Op Lib Jvm.Free Jvm.Stand Jvm.Pilot.@@N@@.Jvm.D
/-! MADE BY PROGRAM (witnessworld.py) out of the Statement's table words and the real class files: 25 classes; the members and pool entries that the words name. The judged class is class 1, her method 1. -/
namespace start1
open Jvm.ClassFile
def u (s : String) : CpInfo := .utf8 (stringToUtf16 s)
/-- a pool by its gaps: so many unusable entries, then the entry; so many at the end -/
def gap : Nat → List CpInfo → List CpInfo
  | 0, r => r
  | n + 1, r => .unusable :: gap n r
def poolList (es : List (Nat × CpInfo)) (last : Nat) : List CpInfo := es.foldr (fun e r => gap e.1 (e.2 :: r)) (gap last [])
def pool (es : List (Nat × CpInfo)) (last : Nat) : Array CpInfo := ⟨poolList es last⟩
def fileOf (pool : Array CpInfo) (this : Nat) (attrs : Array Attribute := #[]) (ms : Array MethodInfo := #[]) (fl : Nat := 33) (sup : Nat := 0) (ifs : Array Nat := #[]) (fds : Array FieldInfo := #[]) : ClassFile where
  minorVersion := 0
  majorVersion := 65
  constantPool := pool
  accessFlags := fl
  thisClass := this
  superClass := sup
  interfaces := ifs
  fields := fds
  methods := ms
  attributes := attrs
def plain (name : String) (sup : Option ClassId) : Class where
  name := name
  kind := .ordinary
  loader := none
  accessFlags := 33
  super := sup
  interfaces := #[]
  cf := none
  fields := #[]
  methods := #[]
  instanceTypes := #[]
  staticTypes := #[]
  resolved := #[]
  callSites := []
  init := .initialized
  statics := none
  mirror := none

def pool0 : Array CpInfo := pool [(5, u "<init>"), (0, u "()V"), (1, .class_ 10), (1, u "java/lang/Object")] 113

def k0c0 : Code := { maxStack := 0, maxLocals := 1, code := object_method_1_code, exceptionTable := #[], attributes := #[] }
def k0m0 : Method := { name := "<init>", desc := "()V", sig := { parameters := [], returnType := none }, accessFlags := 1, code := some k0c0 }
/-- java/lang/Object -/
def k0 : Class := { plain "java/lang/Object" none with
  accessFlags := 33
  interfaces := #[]
  cf := some (fileOf pool0 8 #[] #[{ accessFlags := 1, nameIndex := 5, descriptorIndex := 6, attributes := #[] }] 33 0 #[] #[])
  fields := #[]
  methods := #[k0m0]
  instanceTypes := #[]
  staticTypes := #[]
  resolved := Array.replicate 124 none
  statics := none }

def pool1 : Array CpInfo := pool [(2, .class_ 4), (0, .nameAndType 5 6), (0, u "java/lang/Object"), (0, u "<init>"), (0, u "()V"), (0, .class_ 8), (0, u "com/example/forward_horizon/forwardhorizon/engine/Event"), (0, .class_ 10), (0, u "java/util/ArrayList"), (0, .methodref 9 3), (0, .methodref 7 13), (0, .nameAndType 5 14), (0, u "(Ljava/util/List;J)V"), (0, .methodref 7 16), (0, .nameAndType 17 6), (0, u "markDropped"), (0, .methodref 7 19), (0, .nameAndType 20 6), (0, u "markFailed"), (0, .methodref 7 22), (0, .nameAndType 23 24), (0, u "outcome"), (0, u "()Lcom/example/forward_horizon/forwardhorizon/engine/Outcome;"), (0, .fieldref 26 27), (0, .class_ 28), (0, .nameAndType 29 30), (0, u "com/example/forward_horizon/forwardhorizon/engine/Outcome"), (0, u "FAILED"), (0, u "Lcom/example/forward_horizon/forwardhorizon/engine/Outcome;"), (0, .fieldref 26 32), (0, .nameAndType 33 30), (0, u "DROPPED"), (0, .fieldref 26 35), (0, .nameAndType 36 30), (0, u "PROCESSED"), (0, .class_ 38), (0, u "com/example/forward_horizon/forwardhorizon/engine/EventOutcomePinLaw"), (2, u "law"), (0, u "(IJ)Z")] 3

def k1m0 : Method := { name := "<init>", desc := "()V", sig := { parameters := [], returnType := none }, accessFlags := 1, code := none }
def k1c1 : Code := { maxStack := 5, maxLocals := 9, code := code, exceptionTable := #[], attributes := #[] }
def k1m1 : Method := { name := "law", desc := "(IJ)Z", sig := { parameters := [.int, .long], returnType := some .boolean }, accessFlags := 9, code := some k1c1 }
/-- com/example/forward_horizon/forwardhorizon/engine/EventOutcomePinLaw -/
def k1 : Class := { plain "com/example/forward_horizon/forwardhorizon/engine/EventOutcomePinLaw" (some 0) with
  accessFlags := 49
  interfaces := #[]
  cf := some (fileOf pool1 37 #[] #[{ accessFlags := 1, nameIndex := 5, descriptorIndex := 6, attributes := #[] }, { accessFlags := 9, nameIndex := 41, descriptorIndex := 42, attributes := #[] }] 49 2 #[] #[])
  fields := #[]
  methods := #[k1m0, k1m1]
  instanceTypes := #[]
  staticTypes := #[]
  resolved := Array.replicate 46 none
  statics := none }

def pool2 : Array CpInfo := pool [(1, .methodref 2 3), (0, .class_ 4), (0, .nameAndType 5 6), (0, u "java/lang/Object"), (0, u "<init>"), (0, u "()V"), (0, .class_ 8), (0, u "java/util/concurrent/atomic/AtomicInteger"), (0, .methodref 7 10), (0, .nameAndType 5 11), (0, u "(I)V"), (0, .fieldref 13 14), (0, .class_ 15), (0, .nameAndType 16 17), (0, u "com/example/forward_horizon/forwardhorizon/engine/Event"), (0, u "holds"), (0, u "Ljava/util/concurrent/atomic/AtomicInteger;"), (0, .fieldref 13 19), (0, .nameAndType 20 21), (0, u "fields"), (0, u "Ljava/util/List;"), (0, .fieldref 13 23), (0, .nameAndType 24 25), (0, u "releaseNanos"), (0, u "J"), (0, .class_ 27), (0, u "java/util/concurrent/atomic/AtomicLong"), (0, .methodref 26 29), (0, .nameAndType 5 30), (0, u "(J)V"), (0, .fieldref 13 32), (0, .nameAndType 33 34), (0, u "lastEndNanos"), (0, u "Ljava/util/concurrent/atomic/AtomicLong;"), (12, .fieldref 13 48), (0, .nameAndType 49 50), (0, u "failed"), (0, u "Z"), (0, .fieldref 13 52), (0, .nameAndType 53 50), (0, u "dropped"), (14, .fieldref 69 70), (0, .class_ 71), (0, .nameAndType 72 73), (0, u "com/example/forward_horizon/forwardhorizon/engine/Outcome"), (0, u "FAILED"), (0, u "Lcom/example/forward_horizon/forwardhorizon/engine/Outcome;"), (0, .fieldref 69 75), (0, .nameAndType 76 73), (0, u "DROPPED"), (0, .fieldref 69 78), (0, .nameAndType 79 73), (0, u "PROCESSED"), (2, u "(Ljava/util/List;J)V"), (6, u "markFailed"), (0, u "markDropped"), (3, u "outcome"), (0, u "()Lcom/example/forward_horizon/forwardhorizon/engine/Outcome;")] 24

def k2c0 : Code := { maxStack := 5, maxLocals := 4, code := prog_4_method_1_code, exceptionTable := #[], attributes := #[] }
def k2m0 : Method := { name := "<init>", desc := "(Ljava/util/List;J)V", sig := { parameters := [(.object "java/util/List"), .long], returnType := none }, accessFlags := 0, code := some k2c0 }
def k2c1 : Code := { maxStack := 2, maxLocals := 1, code := prog_4_method_5_code, exceptionTable := #[], attributes := #[] }
def k2m1 : Method := { name := "markFailed", desc := "()V", sig := { parameters := [], returnType := none }, accessFlags := 0, code := some k2c1 }
def k2c2 : Code := { maxStack := 2, maxLocals := 1, code := prog_4_method_6_code, exceptionTable := #[], attributes := #[] }
def k2m2 : Method := { name := "markDropped", desc := "()V", sig := { parameters := [], returnType := none }, accessFlags := 0, code := some k2c2 }
def k2c3 : Code := { maxStack := 1, maxLocals := 1, code := prog_4_method_9_code, exceptionTable := #[], attributes := #[] }
def k2m3 : Method := { name := "outcome", desc := "()Lcom/example/forward_horizon/forwardhorizon/engine/Outcome;", sig := { parameters := [], returnType := some (.object "com/example/forward_horizon/forwardhorizon/engine/Outcome") }, accessFlags := 0, code := some k2c3 }
/-- com/example/forward_horizon/forwardhorizon/engine/Event -/
def k2 : Class := { plain "com/example/forward_horizon/forwardhorizon/engine/Event" (some 0) with
  accessFlags := 32
  interfaces := #[]
  cf := some (fileOf pool2 13 #[] #[{ accessFlags := 0, nameIndex := 5, descriptorIndex := 82, attributes := #[] }, { accessFlags := 0, nameIndex := 89, descriptorIndex := 6, attributes := #[] }, { accessFlags := 0, nameIndex := 90, descriptorIndex := 6, attributes := #[] }, { accessFlags := 0, nameIndex := 94, descriptorIndex := 95, attributes := #[] }] 32 2 #[] #[{ accessFlags := 18, nameIndex := 20, descriptorIndex := 21, attributes := #[] }, { accessFlags := 18, nameIndex := 24, descriptorIndex := 25, attributes := #[] }, { accessFlags := 18, nameIndex := 16, descriptorIndex := 17, attributes := #[] }, { accessFlags := 18, nameIndex := 33, descriptorIndex := 34, attributes := #[] }, { accessFlags := 66, nameIndex := 49, descriptorIndex := 50, attributes := #[] }, { accessFlags := 66, nameIndex := 53, descriptorIndex := 50, attributes := #[] }])
  fields := #[{ name := "fields", type := (.object "java/util/List"), accessFlags := 18, slot := 0, constantValue := 0 }, { name := "releaseNanos", type := .long, accessFlags := 18, slot := 1, constantValue := 0 }, { name := "holds", type := (.object "java/util/concurrent/atomic/AtomicInteger"), accessFlags := 18, slot := 2, constantValue := 0 }, { name := "lastEndNanos", type := (.object "java/util/concurrent/atomic/AtomicLong"), accessFlags := 18, slot := 3, constantValue := 0 }, { name := "failed", type := .boolean, accessFlags := 66, slot := 4, constantValue := 0 }, { name := "dropped", type := .boolean, accessFlags := 66, slot := 5, constantValue := 0 }]
  methods := #[k2m0, k2m1, k2m2, k2m3]
  instanceTypes := #[(.object "java/util/List"), .long, (.object "java/util/concurrent/atomic/AtomicInteger"), (.object "java/util/concurrent/atomic/AtomicLong"), .boolean, .boolean]
  staticTypes := #[]
  resolved := Array.replicate 120 none
  statics := none }

def pool3 : Array CpInfo := pool [(8, .class_ 10), (1, u "java/lang/Iterable"), (24, .class_ 36), (0, u "java/lang/Object")] 25

/-- java/lang/Iterable -/
def k3 : Class := { plain "java/lang/Iterable" (some 0) with
  accessFlags := 1537
  interfaces := #[]
  cf := some (fileOf pool3 8 #[] #[] 1537 35 #[] #[])
  fields := #[]
  methods := #[]
  instanceTypes := #[]
  staticTypes := #[]
  resolved := Array.replicate 62 none
  statics := none }

def pool4 : Array CpInfo := pool [(10, .class_ 12), (1, u "java/util/Collection"), (47, .class_ 61), (0, u "java/lang/Object"), (0, .class_ 63), (0, u "java/lang/Iterable")] 51

/-- java/util/Collection -/
def k4 : Class := { plain "java/util/Collection" (some 0) with
  accessFlags := 1537
  interfaces := #[3]
  cf := some (fileOf pool4 10 #[] #[] 1537 60 #[62] #[])
  fields := #[]
  methods := #[]
  instanceTypes := #[]
  staticTypes := #[]
  resolved := Array.replicate 115 none
  statics := none }

def pool5 : Array CpInfo := pool [(1, .methodref 2 3), (0, .class_ 4), (0, .nameAndType 5 6), (0, u "java/lang/Object"), (0, u "<init>"), (0, u "()V"), (1, .class_ 10), (1, u "java/util/AbstractCollection"), (66, .class_ 78), (0, u "java/util/Collection")] 81

def k5c0 : Code := { maxStack := 1, maxLocals := 1, code := jdk_22_method_1_code, exceptionTable := #[], attributes := #[] }
def k5m0 : Method := { name := "<init>", desc := "()V", sig := { parameters := [], returnType := none }, accessFlags := 4, code := some k5c0 }
/-- java/util/AbstractCollection -/
def k5 : Class := { plain "java/util/AbstractCollection" (some 0) with
  accessFlags := 1057
  interfaces := #[4]
  cf := some (fileOf pool5 8 #[] #[{ accessFlags := 4, nameIndex := 5, descriptorIndex := 6, attributes := #[] }] 1057 2 #[77] #[])
  fields := #[]
  methods := #[k5m0]
  instanceTypes := #[]
  staticTypes := #[]
  resolved := Array.replicate 160 none
  statics := none }

def pool6 : Array CpInfo := pool [(8, .class_ 10), (1, u "java/util/SequencedCollection"), (15, .class_ 27), (0, u "java/lang/Object"), (0, .class_ 29), (0, u "java/util/Collection")] 27

/-- java/util/SequencedCollection -/
def k6 : Class := { plain "java/util/SequencedCollection" (some 0) with
  accessFlags := 1537
  interfaces := #[4]
  cf := some (fileOf pool6 8 #[] #[] 1537 26 #[28] #[])
  fields := #[]
  methods := #[]
  instanceTypes := #[]
  staticTypes := #[]
  resolved := Array.replicate 57 none
  statics := none }

def pool7 : Array CpInfo := pool [(8, .class_ 10), (1, u "java/util/List"), (92, .class_ 104), (0, u "java/lang/Object"), (15, .class_ 121), (0, u "java/util/SequencedCollection")] 129

/-- java/util/List -/
def k7 : Class := { plain "java/util/List" (some 0) with
  accessFlags := 1537
  interfaces := #[6]
  cf := some (fileOf pool7 8 #[] #[] 1537 103 #[120] #[])
  fields := #[]
  methods := #[]
  instanceTypes := #[]
  staticTypes := #[]
  resolved := Array.replicate 251 none
  statics := none }

def pool8 : Array CpInfo := pool [(1, .methodref 2 3), (0, .class_ 4), (0, .nameAndType 5 6), (0, u "java/util/AbstractCollection"), (0, u "<init>"), (0, u "()V"), (0, .fieldref 8 9), (0, .class_ 10), (0, .nameAndType 11 12), (0, u "java/util/AbstractList"), (0, u "modCount"), (0, u "I"), (64, .class_ 78), (0, u "java/util/AbstractList$Itr"), (3, .class_ 83), (0, u "java/util/AbstractList$ListItr"), (9, .class_ 94), (0, u "java/util/AbstractList$RandomAccessSubList"), (3, .class_ 99), (0, u "java/util/AbstractList$SubList"), (33, .class_ 134), (0, u "java/util/List"), (73, .class_ 209), (0, u "java/util/AbstractList$SubList$1"), (0, .class_ 211), (0, u "java/util/AbstractList$RandomAccessSpliterator")] 6

def k8c0 : Code := { maxStack := 2, maxLocals := 1, code := jdk_39_method_1_code, exceptionTable := #[], attributes := #[] }
def k8m0 : Method := { name := "<init>", desc := "()V", sig := { parameters := [], returnType := none }, accessFlags := 4, code := some k8c0 }
/-- java/util/AbstractList -/
def k8 : Class := { plain "java/util/AbstractList" (some 5) with
  accessFlags := 1057
  interfaces := #[7]
  cf := some (fileOf pool8 8 #[.nestMembers #[93, 98, 208, 210, 82, 77]] #[{ accessFlags := 4, nameIndex := 5, descriptorIndex := 6, attributes := #[] }] 1057 2 #[133] #[{ accessFlags := 132, nameIndex := 11, descriptorIndex := 12, attributes := #[] }])
  fields := #[{ name := "modCount", type := .int, accessFlags := 132, slot := 0, constantValue := 0 }]
  methods := #[k8m0]
  instanceTypes := #[.int]
  staticTypes := #[]
  resolved := Array.replicate 218 none
  statics := none }

def pool9 : Array CpInfo := pool [(1, .class_ 2), (0, u "java/util/RandomAccess"), (0, .class_ 4), (0, u "java/lang/Object")] 2

/-- java/util/RandomAccess -/
def k9 : Class := { plain "java/util/RandomAccess" (some 0) with
  accessFlags := 1537
  interfaces := #[]
  cf := some (fileOf pool9 1 #[] #[] 1537 3 #[] #[])
  fields := #[]
  methods := #[]
  instanceTypes := #[]
  staticTypes := #[]
  resolved := Array.replicate 7 none
  statics := none }

def pool10 : Array CpInfo := pool [(1, .class_ 2), (0, u "java/lang/Cloneable"), (0, .class_ 4), (0, u "java/lang/Object")] 2

/-- java/lang/Cloneable -/
def k10 : Class := { plain "java/lang/Cloneable" (some 0) with
  accessFlags := 1537
  interfaces := #[]
  cf := some (fileOf pool10 1 #[] #[] 1537 3 #[] #[])
  fields := #[]
  methods := #[]
  instanceTypes := #[]
  staticTypes := #[]
  resolved := Array.replicate 7 none
  statics := none }

def pool11 : Array CpInfo := pool [(1, .class_ 2), (0, u "java/io/Serializable"), (0, .class_ 4), (0, u "java/lang/Object")] 2

/-- java/io/Serializable -/
def k11 : Class := { plain "java/io/Serializable" (some 0) with
  accessFlags := 1537
  interfaces := #[]
  cf := some (fileOf pool11 1 #[] #[] 1537 3 #[] #[])
  fields := #[]
  methods := #[]
  instanceTypes := #[]
  staticTypes := #[]
  resolved := Array.replicate 7 none
  statics := none }

def pool12 : Array CpInfo := pool [(1, .methodref 2 3), (0, .class_ 4), (0, .nameAndType 5 6), (0, u "java/util/AbstractList"), (0, u "<init>"), (0, u "()V"), (2, .fieldref 10 11), (0, .class_ 12), (0, .nameAndType 13 14), (0, u "java/util/ArrayList"), (0, u "elementData"), (0, u "[Ljava/lang/Object;"), (2, u "EMPTY_ELEMENTDATA"), (21, .fieldref 10 40), (0, .nameAndType 41 14), (0, u "DEFAULTCAPACITY_EMPTY_ELEMENTDATA"), (8, u "size"), (0, u "I"), (96, .class_ 149), (0, u "java/util/List"), (112, .class_ 263), (0, u "java/util/ArrayList$ListItr"), (3, .class_ 268), (0, u "java/util/ArrayList$Itr"), (7, .class_ 277), (0, u "java/util/ArrayList$SubList"), (12, .class_ 291), (0, u "java/util/ArrayList$ArrayListSpliterator"), (37, .class_ 330), (0, u "java/util/RandomAccess"), (0, .class_ 332), (0, u "java/lang/Cloneable"), (0, .class_ 334), (0, u "java/io/Serializable"), (0, u "serialVersionUID"), (0, u "J"), (3, u "DEFAULT_CAPACITY"), (159, .class_ 501), (0, u "java/util/ArrayList$SubList$2"), (0, .class_ 503), (0, u "java/util/ArrayList$SubList$1")] 5

def k12c0 : Code := { maxStack := 2, maxLocals := 1, code := jdk_38_method_2_code, exceptionTable := #[], attributes := #[] }
def k12m0 : Method := { name := "<init>", desc := "()V", sig := { parameters := [], returnType := none }, accessFlags := 1, code := some k12c0 }
/-- java/util/ArrayList -/
def k12 : Class := { plain "java/util/ArrayList" (some 8) with
  accessFlags := 33
  interfaces := #[7, 9, 10, 11]
  cf := some (fileOf pool12 10 #[.nestMembers #[290, 276, 500, 502, 262, 267]] #[{ accessFlags := 1, nameIndex := 5, descriptorIndex := 6, attributes := #[] }] 33 2 #[148, 329, 331, 333] #[{ accessFlags := 26, nameIndex := 335, descriptorIndex := 336, attributes := #[] }, { accessFlags := 26, nameIndex := 340, descriptorIndex := 51, attributes := #[] }, { accessFlags := 26, nameIndex := 17, descriptorIndex := 14, attributes := #[] }, { accessFlags := 26, nameIndex := 41, descriptorIndex := 14, attributes := #[] }, { accessFlags := 128, nameIndex := 13, descriptorIndex := 14, attributes := #[] }, { accessFlags := 2, nameIndex := 50, descriptorIndex := 51, attributes := #[] }])
  fields := #[{ name := "serialVersionUID", type := .long, accessFlags := 26, slot := 0, constantValue := 0 }, { name := "DEFAULT_CAPACITY", type := .int, accessFlags := 26, slot := 1, constantValue := 0 }, { name := "EMPTY_ELEMENTDATA", type := (.array (.object "java/lang/Object")), accessFlags := 26, slot := 2, constantValue := 0 }, { name := "DEFAULTCAPACITY_EMPTY_ELEMENTDATA", type := (.array (.object "java/lang/Object")), accessFlags := 26, slot := 3, constantValue := 0 }, { name := "elementData", type := (.array (.object "java/lang/Object")), accessFlags := 128, slot := 1, constantValue := 0 }, { name := "size", type := .int, accessFlags := 2, slot := 2, constantValue := 0 }]
  methods := #[k12m0]
  instanceTypes := #[.int, (.array (.object "java/lang/Object")), .int]
  staticTypes := #[.long, .int, (.array (.object "java/lang/Object")), (.array (.object "java/lang/Object"))]
  resolved := Array.replicate 509 none
  statics := some 0 }

def pool13 : Array CpInfo := pool [(1, .methodref 2 3), (0, .class_ 4), (0, .nameAndType 5 6), (0, u "java/lang/Object"), (0, u "<init>"), (0, u "()V"), (1, .class_ 10), (1, u "java/lang/Number"), (2, .class_ 14), (0, u "java/io/Serializable"), (0, u "serialVersionUID"), (0, u "J")] 20

def k13c0 : Code := { maxStack := 1, maxLocals := 1, code := jdk_18_method_1_code, exceptionTable := #[], attributes := #[] }
def k13m0 : Method := { name := "<init>", desc := "()V", sig := { parameters := [], returnType := none }, accessFlags := 1, code := some k13c0 }
/-- java/lang/Number -/
def k13 : Class := { plain "java/lang/Number" (some 0) with
  accessFlags := 1057
  interfaces := #[11]
  cf := some (fileOf pool13 8 #[] #[{ accessFlags := 1, nameIndex := 5, descriptorIndex := 6, attributes := #[] }] 1057 2 #[13] #[{ accessFlags := 26, nameIndex := 15, descriptorIndex := 16, attributes := #[] }])
  fields := #[{ name := "serialVersionUID", type := .long, accessFlags := 26, slot := 0, constantValue := 0 }]
  methods := #[k13m0]
  instanceTypes := #[]
  staticTypes := #[.long]
  resolved := Array.replicate 37 none
  statics := none }

def pool14 : Array CpInfo := pool [(1, .methodref 2 3), (0, .class_ 4), (0, .nameAndType 5 6), (0, u "java/lang/Number"), (0, u "<init>"), (0, u "()V"), (0, .fieldref 8 9), (0, .class_ 10), (0, .nameAndType 11 12), (0, u "java/util/concurrent/atomic/AtomicInteger"), (0, u "value"), (0, u "I"), (2, u "U"), (0, u "Ljdk/internal/misc/Unsafe;"), (2, u "VALUE"), (0, u "J"), (89, .class_ 111), (0, u "java/io/Serializable"), (0, u "serialVersionUID"), (3, u "(I)V")] 64

def k14c0 : Code := { maxStack := 2, maxLocals := 2, code := jdk_2803_method_1_code, exceptionTable := #[], attributes := #[] }
def k14m0 : Method := { name := "<init>", desc := "(I)V", sig := { parameters := [.int], returnType := none }, accessFlags := 1, code := some k14c0 }
def k14m1 : Method := { name := "<init>", desc := "()V", sig := { parameters := [], returnType := none }, accessFlags := 1, code := none }
/-- java/util/concurrent/atomic/AtomicInteger -/
def k14 : Class := { plain "java/util/concurrent/atomic/AtomicInteger" (some 13) with
  accessFlags := 33
  interfaces := #[11]
  cf := some (fileOf pool14 8 #[] #[{ accessFlags := 1, nameIndex := 5, descriptorIndex := 116, attributes := #[] }, { accessFlags := 1, nameIndex := 5, descriptorIndex := 6, attributes := #[] }] 33 2 #[110] #[{ accessFlags := 26, nameIndex := 112, descriptorIndex := 20, attributes := #[] }, { accessFlags := 26, nameIndex := 15, descriptorIndex := 16, attributes := #[] }, { accessFlags := 26, nameIndex := 19, descriptorIndex := 20, attributes := #[] }, { accessFlags := 66, nameIndex := 11, descriptorIndex := 12, attributes := #[] }])
  fields := #[{ name := "serialVersionUID", type := .long, accessFlags := 26, slot := 0, constantValue := 0 }, { name := "U", type := (.object "jdk/internal/misc/Unsafe"), accessFlags := 26, slot := 1, constantValue := 0 }, { name := "VALUE", type := .long, accessFlags := 26, slot := 2, constantValue := 0 }, { name := "value", type := .int, accessFlags := 66, slot := 0, constantValue := 0 }]
  methods := #[k14m0, k14m1]
  instanceTypes := #[.int]
  staticTypes := #[.long, (.object "jdk/internal/misc/Unsafe"), .long]
  resolved := Array.replicate 181 none
  statics := none }

def pool15 : Array CpInfo := pool [(1, .methodref 2 3), (0, .class_ 4), (0, .nameAndType 5 6), (0, u "java/lang/Number"), (0, u "<init>"), (0, u "()V"), (0, .fieldref 8 9), (0, .class_ 10), (0, .nameAndType 11 12), (0, u "java/util/concurrent/atomic/AtomicLong"), (0, u "value"), (0, u "J"), (2, u "U"), (0, u "Ljdk/internal/misc/Unsafe;"), (2, u "VALUE"), (91, u "VM_SUPPORTS_LONG_CAS"), (0, u "Z"), (9, .class_ 123), (0, u "java/io/Serializable"), (0, u "serialVersionUID"), (3, u "(J)V")] 63

def k15c0 : Code := { maxStack := 3, maxLocals := 3, code := jdk_2805_method_2_code, exceptionTable := #[], attributes := #[] }
def k15m0 : Method := { name := "<init>", desc := "(J)V", sig := { parameters := [.long], returnType := none }, accessFlags := 1, code := some k15c0 }
def k15m1 : Method := { name := "<init>", desc := "()V", sig := { parameters := [], returnType := none }, accessFlags := 1, code := none }
/-- java/util/concurrent/atomic/AtomicLong -/
def k15 : Class := { plain "java/util/concurrent/atomic/AtomicLong" (some 13) with
  accessFlags := 33
  interfaces := #[11]
  cf := some (fileOf pool15 8 #[] #[{ accessFlags := 1, nameIndex := 5, descriptorIndex := 128, attributes := #[] }, { accessFlags := 1, nameIndex := 5, descriptorIndex := 6, attributes := #[] }] 33 2 #[122] #[{ accessFlags := 26, nameIndex := 124, descriptorIndex := 12, attributes := #[] }, { accessFlags := 24, nameIndex := 111, descriptorIndex := 112, attributes := #[] }, { accessFlags := 26, nameIndex := 15, descriptorIndex := 16, attributes := #[] }, { accessFlags := 26, nameIndex := 19, descriptorIndex := 12, attributes := #[] }, { accessFlags := 66, nameIndex := 11, descriptorIndex := 12, attributes := #[] }])
  fields := #[{ name := "serialVersionUID", type := .long, accessFlags := 26, slot := 0, constantValue := 0 }, { name := "VM_SUPPORTS_LONG_CAS", type := .boolean, accessFlags := 24, slot := 1, constantValue := 0 }, { name := "U", type := (.object "jdk/internal/misc/Unsafe"), accessFlags := 26, slot := 2, constantValue := 0 }, { name := "VALUE", type := .long, accessFlags := 26, slot := 3, constantValue := 0 }, { name := "value", type := .long, accessFlags := 66, slot := 0, constantValue := 0 }]
  methods := #[k15m0, k15m1]
  instanceTypes := #[.long]
  staticTypes := #[.long, .boolean, (.object "jdk/internal/misc/Unsafe"), .long]
  resolved := Array.replicate 192 none
  statics := none }

def pool16 : Array CpInfo := pool [(1, .class_ 2), (0, u "java/lang/constant/Constable"), (0, .class_ 4), (0, u "java/lang/Object")] 6

/-- java/lang/constant/Constable -/
def k16 : Class := { plain "java/lang/constant/Constable" (some 0) with
  accessFlags := 1537
  interfaces := #[]
  cf := some (fileOf pool16 1 #[] #[] 1537 3 #[] #[])
  fields := #[]
  methods := #[]
  instanceTypes := #[]
  staticTypes := #[]
  resolved := Array.replicate 11 none
  statics := none }

def pool17 : Array CpInfo := pool [(1, .class_ 2), (0, u "java/lang/Comparable"), (0, .class_ 4), (0, u "java/lang/Object")] 7

/-- java/lang/Comparable -/
def k17 : Class := { plain "java/lang/Comparable" (some 0) with
  accessFlags := 1537
  interfaces := #[]
  cf := some (fileOf pool17 1 #[] #[] 1537 3 #[] #[])
  fields := #[]
  methods := #[]
  instanceTypes := #[]
  staticTypes := #[]
  resolved := Array.replicate 12 none
  statics := none }

def pool18 : Array CpInfo := pool [(2, .class_ 4), (1, u "java/lang/Enum"), (0, u "name"), (0, u "Ljava/lang/String;"), (2, u "ordinal"), (0, u "I"), (1, .class_ 14), (1, u "java/lang/Object"), (4, u "hash"), (86, .class_ 108), (1, u "java/lang/Enum$EnumDesc"), (2, .class_ 112), (0, u "java/lang/constant/Constable"), (0, .class_ 114), (0, u "java/lang/Comparable"), (0, .class_ 116), (0, u "java/io/Serializable")] 87

/-- java/lang/Enum -/
def k18 : Class := { plain "java/lang/Enum" (some 0) with
  accessFlags := 1057
  interfaces := #[16, 17, 11]
  cf := some (fileOf pool18 2 #[.nestMembers #[106]] #[] 1057 12 #[111, 113, 115] #[{ accessFlags := 18, nameIndex := 5, descriptorIndex := 6, attributes := #[] }, { accessFlags := 18, nameIndex := 9, descriptorIndex := 10, attributes := #[] }, { accessFlags := 2, nameIndex := 19, descriptorIndex := 10, attributes := #[] }])
  fields := #[{ name := "name", type := (.object "java/lang/String"), accessFlags := 18, slot := 0, constantValue := 0 }, { name := "ordinal", type := .int, accessFlags := 18, slot := 1, constantValue := 0 }, { name := "hash", type := .int, accessFlags := 2, slot := 2, constantValue := 0 }]
  methods := #[]
  instanceTypes := #[(.object "java/lang/String"), .int, .int]
  staticTypes := #[]
  resolved := Array.replicate 204 none
  statics := none }

def pool19 : Array CpInfo := pool [(1, .class_ 2), (0, u "com/example/forward_horizon/forwardhorizon/engine/Outcome"), (2, u "PROCESSED"), (0, u "Lcom/example/forward_horizon/forwardhorizon/engine/Outcome;"), (2, u "FAILED"), (2, u "DROPPED"), (2, u "$VALUES"), (0, u "[Lcom/example/forward_horizon/forwardhorizon/engine/Outcome;"), (6, .class_ 25), (1, u "java/lang/Enum")] 25

/-- com/example/forward_horizon/forwardhorizon/engine/Outcome -/
def k19 : Class := { plain "com/example/forward_horizon/forwardhorizon/engine/Outcome" (some 18) with
  accessFlags := 16433
  interfaces := #[]
  cf := some (fileOf pool19 1 #[] #[] 16433 23 #[] #[{ accessFlags := 16409, nameIndex := 5, descriptorIndex := 6, attributes := #[] }, { accessFlags := 16409, nameIndex := 9, descriptorIndex := 6, attributes := #[] }, { accessFlags := 16409, nameIndex := 12, descriptorIndex := 6, attributes := #[] }, { accessFlags := 4122, nameIndex := 15, descriptorIndex := 16, attributes := #[] }])
  fields := #[{ name := "PROCESSED", type := (.object "com/example/forward_horizon/forwardhorizon/engine/Outcome"), accessFlags := 16409, slot := 0, constantValue := 0 }, { name := "FAILED", type := (.object "com/example/forward_horizon/forwardhorizon/engine/Outcome"), accessFlags := 16409, slot := 1, constantValue := 0 }, { name := "DROPPED", type := (.object "com/example/forward_horizon/forwardhorizon/engine/Outcome"), accessFlags := 16409, slot := 2, constantValue := 0 }, { name := "$VALUES", type := (.array (.object "com/example/forward_horizon/forwardhorizon/engine/Outcome")), accessFlags := 4122, slot := 3, constantValue := 0 }]
  methods := #[]
  instanceTypes := #[(.object "java/lang/String"), .int, .int]
  staticTypes := #[(.object "com/example/forward_horizon/forwardhorizon/engine/Outcome"), (.object "com/example/forward_horizon/forwardhorizon/engine/Outcome"), (.object "com/example/forward_horizon/forwardhorizon/engine/Outcome"), (.array (.object "com/example/forward_horizon/forwardhorizon/engine/Outcome"))]
  resolved := Array.replicate 51 none
  statics := some 1 }

/-- the primitive byte -/
def k20 : Class := { plain "byte" none with kind := .primitive 'B', accessFlags := 0x411 }
/-- [B -/
def k21 : Class := { plain "[B" (some 0) with kind := .array 20 .byte, interfaces := #[10, 11], accessFlags := 1041 }

/-- the primitive int -/
def k22 : Class := { plain "int" none with kind := .primitive 'I', accessFlags := 0x411 }
/-- [I -/
def k23 : Class := { plain "[I" (some 0) with kind := .array 22 .int, interfaces := #[10, 11], accessFlags := 1041 }

/-- [Ljava/lang/Object; -/
def k24 : Class := { plain "[Ljava/lang/Object;" (some 0) with kind := .array 0 (.object "java/lang/Object"), interfaces := #[10, 11], accessFlags := 1041 }

def heap : Heap := #[{ cls := 12, slots := #[.long 0, .int 0, .ref 5, .ref 6], vm := .statics 12 },
  { cls := 19, slots := #[.ref 2, .ref 3, .ref 4, .null], vm := .statics 19 },
  { cls := 19, slots := #[.null, .int 0, .int 0], vm := .none },
  { cls := 19, slots := #[.null, .int 0, .int 0], vm := .none },
  { cls := 19, slots := #[.null, .int 0, .int 0], vm := .none },
  { cls := 24, slots := #[], vm := .none },
  { cls := 24, slots := #[], vm := .none }]
def classes : Array Class := #[k0, k1, k2, k3, k4, k5, k6, k7, k8, k9, k10, k11, k12, k13, k14, k15, k16, k17, k18, k19, k20, k21, k22, k23, k24]
def interned : List (Array UInt16 × Addr) := []
def slotsUsed : Nat := 17
def theMethod : MethodId := ⟨1, 1⟩
def args0 : Array Value := #[.int 4, .long 7]
def aboutOver (below : List Frame) : State where
  vm := { classes := classes, interned := interned.toArray }
  heap := heap
  slotsUsed := slotsUsed
  threads := #[{ frames := .invoking theMethod args0 :: below }]
def below0 : List Frame := [.native { method := ⟨0, 0⟩, args := #[] }]
def about1 : State := aboutOver below0
def p0 : Program := .bare "" "" ""
def e0 : Env := launch0.env 0 0 0
theorem w_frames : about1.frames = Frame.invoking theMethod args0 :: below0 := rfl
set_option maxRecDepth 65536 in
theorem w_args : argsFit about1.vm theMethod args0 = true := by decide +kernel
set_option maxRecDepth 65536 in
theorem w_heap : heapFits about1 = true := by decide +kernel
set_option maxRecDepth 65536 in
theorem w_runnable : about1.curStatus? = some .runnable := by decide +kernel
set_option maxRecDepth 65536 in
theorem w_alone : about1.alone = true := by decide +kernel
set_option maxRecDepth 65536 in
theorem w_named : about1.methodNamed? x = some theMethod := by decide +kernel
set_option maxRecDepth 65536 in
theorem w_hears : about1.hears theMethod below0 = true := by decide +kernel
set_option maxRecDepth 65536 in
theorem w_ripe : about1.ripe theMethod args0 below0 = true := by decide +kernel
theorem w_running : about1.status = .running := rfl
set_option maxRecDepth 65536 in
theorem w_room : about1.hasRoom e0.platform room_1 = true :=
  launch0.hasRoom_least _ room_1 (by decide +kernel) (by decide +kernel) (by decide +kernel) (by decide +kernel) (by decide +kernel) (by decide +kernel)
theorem allAtoms_all (ts : List Jvm.Cond) (a : Array Jvm.Value) (st : Jvm.State) : (allAtoms ts).before a st = ts.all (fun c => c.before a st) := by
  induction ts with
  | nil => rfl
  | cons c t ih =>
    show (Jvm.Cond.and c (allAtoms t)).before a st = _
    rw [Jvm.Cond.before_and, ih, List.all_cons]
def words1 : List Jvm.Cond := Jvm.Cond.code x code maxLocals ret :: tables_1
/-- a 'code' word, met by the world's own term for the bytes: nothing is compared byte by byte -/
theorem code_word {y : MethodName} {bytes : ByteArray} {mx : Nat} {rt : Option FieldType} {a : Array Value} {s : State} {m : MethodId} {meth : Method} {c : Code} (h1 : s.methodNamed? y = some m) (h2 : s.vm.method? m = some meth) (h3 : meth.code = some c) (h4 : c.code = bytes)
    (h5 : (c.maxLocals == mx && c.exceptionTable.isEmpty && decide (c.maxStack ≤ mostOperands) && decide (meth.sig.returnType = rt) && !meth.locks && decide (parseMethodDescriptor y.desc = some meth.sig)) = true) : (Jvm.Cond.code y bytes mx rt).before a s = true := by
  simp only [Bool.and_eq_true, beq_iff_eq, Bool.not_eq_true', decide_eq_true_eq] at h5
  obtain ⟨⟨⟨⟨⟨g1, g2⟩, g3⟩, g4⟩, g5⟩, g6⟩ := h5
  simp [Cond.before, Cond.holds, Cond.value, h1, h2, h3, h4, g1, g2, g3, g4, g5, g6]
def isCode : Jvm.Cond → Bool
  | .code _ _ _ _ => true
  | _ => false
theorem all_split {L : List Jvm.Cond} {P : Jvm.Cond → Bool} (h1 : L.all (fun c => isCode c || P c) = true) (h2 : ∀ c ∈ L.filter isCode, P c = true) : L.all P = true := by
  refine List.all_eq_true.mpr fun c hc => ?_
  have h := List.all_eq_true.mp h1 c hc
  rcases Bool.eq_false_or_eq_true (isCode c) with hi | hi
  · exact h2 c (List.mem_filter.mpr ⟨hc, hi⟩)
  · simpa [hi] using h
set_option maxRecDepth 65536 in
theorem w_c0 : (Jvm.Cond.code x code maxLocals ret).before args0 about1 = true := code_word (m := ⟨1, 1⟩) (meth := k1m1) (c := k1c1) (by decide +kernel) rfl rfl rfl (by decide +kernel)
set_option maxRecDepth 65536 in
theorem w_c1 : (Jvm.Cond.code ({ cls := "java/util/ArrayList", name := "<init>", desc := "()V" } : Jvm.MethodName) jdk_38_method_2_code (1 : Nat) (Option.none : Option Jvm.ClassFile.FieldType)).before args0 about1 = true := code_word (m := ⟨12, 0⟩) (meth := k12m0) (c := k12c0) (by decide +kernel) rfl rfl rfl (by decide +kernel)
set_option maxRecDepth 65536 in
theorem w_c2 : (Jvm.Cond.code ({ cls := "java/util/AbstractList", name := "<init>", desc := "()V" } : Jvm.MethodName) jdk_39_method_1_code (1 : Nat) (Option.none : Option Jvm.ClassFile.FieldType)).before args0 about1 = true := code_word (m := ⟨8, 0⟩) (meth := k8m0) (c := k8c0) (by decide +kernel) rfl rfl rfl (by decide +kernel)
set_option maxRecDepth 65536 in
theorem w_c3 : (Jvm.Cond.code ({ cls := "java/util/AbstractCollection", name := "<init>", desc := "()V" } : Jvm.MethodName) jdk_22_method_1_code (1 : Nat) (Option.none : Option Jvm.ClassFile.FieldType)).before args0 about1 = true := code_word (m := ⟨5, 0⟩) (meth := k5m0) (c := k5c0) (by decide +kernel) rfl rfl rfl (by decide +kernel)
set_option maxRecDepth 65536 in
theorem w_c4 : (Jvm.Cond.code ({ cls := "java/lang/Object", name := "<init>", desc := "()V" } : Jvm.MethodName) object_method_1_code (1 : Nat) (Option.none : Option Jvm.ClassFile.FieldType)).before args0 about1 = true := code_word (m := ⟨0, 0⟩) (meth := k0m0) (c := k0c0) (by decide +kernel) rfl rfl rfl (by decide +kernel)
set_option maxRecDepth 65536 in
theorem w_c5 : (Jvm.Cond.code ({ cls := "com/example/forward_horizon/forwardhorizon/engine/Event", name := "<init>", desc := "(Ljava/util/List;J)V" } : Jvm.MethodName) prog_4_method_1_code (4 : Nat) (Option.none : Option Jvm.ClassFile.FieldType)).before args0 about1 = true := code_word (m := ⟨2, 0⟩) (meth := k2m0) (c := k2c0) (by decide +kernel) rfl rfl rfl (by decide +kernel)
set_option maxRecDepth 65536 in
theorem w_c6 : (Jvm.Cond.code ({ cls := "java/util/concurrent/atomic/AtomicInteger", name := "<init>", desc := "(I)V" } : Jvm.MethodName) jdk_2803_method_1_code (2 : Nat) (Option.none : Option Jvm.ClassFile.FieldType)).before args0 about1 = true := code_word (m := ⟨14, 0⟩) (meth := k14m0) (c := k14c0) (by decide +kernel) rfl rfl rfl (by decide +kernel)
set_option maxRecDepth 65536 in
theorem w_c7 : (Jvm.Cond.code ({ cls := "java/lang/Number", name := "<init>", desc := "()V" } : Jvm.MethodName) jdk_18_method_1_code (1 : Nat) (Option.none : Option Jvm.ClassFile.FieldType)).before args0 about1 = true := code_word (m := ⟨13, 0⟩) (meth := k13m0) (c := k13c0) (by decide +kernel) rfl rfl rfl (by decide +kernel)
set_option maxRecDepth 65536 in
theorem w_c8 : (Jvm.Cond.code ({ cls := "java/util/concurrent/atomic/AtomicLong", name := "<init>", desc := "(J)V" } : Jvm.MethodName) jdk_2805_method_2_code (3 : Nat) (Option.none : Option Jvm.ClassFile.FieldType)).before args0 about1 = true := code_word (m := ⟨15, 0⟩) (meth := k15m0) (c := k15c0) (by decide +kernel) rfl rfl rfl (by decide +kernel)
set_option maxRecDepth 65536 in
theorem w_c9 : (Jvm.Cond.code ({ cls := "com/example/forward_horizon/forwardhorizon/engine/Event", name := "outcome", desc := "()Lcom/example/forward_horizon/forwardhorizon/engine/Outcome;" } : Jvm.MethodName) prog_4_method_9_code (1 : Nat) (Option.some (Jvm.ClassFile.FieldType.object "com/example/forward_horizon/forwardhorizon/engine/Outcome"))).before args0 about1 = true := code_word (m := ⟨2, 3⟩) (meth := k2m3) (c := k2c3) (by decide +kernel) rfl rfl rfl (by decide +kernel)
set_option maxRecDepth 65536 in
theorem w_c10 : (Jvm.Cond.code ({ cls := "com/example/forward_horizon/forwardhorizon/engine/Event", name := "markFailed", desc := "()V" } : Jvm.MethodName) prog_4_method_5_code (1 : Nat) (Option.none : Option Jvm.ClassFile.FieldType)).before args0 about1 = true := code_word (m := ⟨2, 1⟩) (meth := k2m1) (c := k2c1) (by decide +kernel) rfl rfl rfl (by decide +kernel)
set_option maxRecDepth 65536 in
theorem w_c11 : (Jvm.Cond.code ({ cls := "com/example/forward_horizon/forwardhorizon/engine/Event", name := "markDropped", desc := "()V" } : Jvm.MethodName) prog_4_method_6_code (1 : Nat) (Option.none : Option Jvm.ClassFile.FieldType)).before args0 about1 = true := code_word (m := ⟨2, 2⟩) (meth := k2m2) (c := k2c2) (by decide +kernel) rfl rfl rfl (by decide +kernel)
def codes1 : List Jvm.Cond := [Jvm.Cond.code x code maxLocals ret, Jvm.Cond.code ({ cls := "java/util/ArrayList", name := "<init>", desc := "()V" } : Jvm.MethodName) jdk_38_method_2_code (1 : Nat) (Option.none : Option Jvm.ClassFile.FieldType), Jvm.Cond.code ({ cls := "java/util/AbstractList", name := "<init>", desc := "()V" } : Jvm.MethodName) jdk_39_method_1_code (1 : Nat) (Option.none : Option Jvm.ClassFile.FieldType), Jvm.Cond.code ({ cls := "java/util/AbstractCollection", name := "<init>", desc := "()V" } : Jvm.MethodName) jdk_22_method_1_code (1 : Nat) (Option.none : Option Jvm.ClassFile.FieldType), Jvm.Cond.code ({ cls := "java/lang/Object", name := "<init>", desc := "()V" } : Jvm.MethodName) object_method_1_code (1 : Nat) (Option.none : Option Jvm.ClassFile.FieldType), Jvm.Cond.code ({ cls := "com/example/forward_horizon/forwardhorizon/engine/Event", name := "<init>", desc := "(Ljava/util/List;J)V" } : Jvm.MethodName) prog_4_method_1_code (4 : Nat) (Option.none : Option Jvm.ClassFile.FieldType), Jvm.Cond.code ({ cls := "java/util/concurrent/atomic/AtomicInteger", name := "<init>", desc := "(I)V" } : Jvm.MethodName) jdk_2803_method_1_code (2 : Nat) (Option.none : Option Jvm.ClassFile.FieldType), Jvm.Cond.code ({ cls := "java/lang/Number", name := "<init>", desc := "()V" } : Jvm.MethodName) jdk_18_method_1_code (1 : Nat) (Option.none : Option Jvm.ClassFile.FieldType), Jvm.Cond.code ({ cls := "java/util/concurrent/atomic/AtomicLong", name := "<init>", desc := "(J)V" } : Jvm.MethodName) jdk_2805_method_2_code (3 : Nat) (Option.none : Option Jvm.ClassFile.FieldType), Jvm.Cond.code ({ cls := "com/example/forward_horizon/forwardhorizon/engine/Event", name := "outcome", desc := "()Lcom/example/forward_horizon/forwardhorizon/engine/Outcome;" } : Jvm.MethodName) prog_4_method_9_code (1 : Nat) (Option.some (Jvm.ClassFile.FieldType.object "com/example/forward_horizon/forwardhorizon/engine/Outcome")), Jvm.Cond.code ({ cls := "com/example/forward_horizon/forwardhorizon/engine/Event", name := "markFailed", desc := "()V" } : Jvm.MethodName) prog_4_method_5_code (1 : Nat) (Option.none : Option Jvm.ClassFile.FieldType), Jvm.Cond.code ({ cls := "com/example/forward_horizon/forwardhorizon/engine/Event", name := "markDropped", desc := "()V" } : Jvm.MethodName) prog_4_method_6_code (1 : Nat) (Option.none : Option Jvm.ClassFile.FieldType)]
set_option maxRecDepth 65536 in
theorem codes_eq : words1.filter isCode = codes1 := rfl
theorem w_codes : ∀ c ∈ words1.filter isCode, c.before args0 about1 = true := by
  rw [codes_eq]
  intro c hc
  simp only [codes1, List.mem_cons, List.not_mem_nil, or_false] at hc
  rcases hc with rfl | rfl | rfl | rfl | rfl | rfl | rfl | rfl | rfl | rfl | rfl | rfl
  · exact w_c0
  · exact w_c1
  · exact w_c2
  · exact w_c3
  · exact w_c4
  · exact w_c5
  · exact w_c6
  · exact w_c7
  · exact w_c8
  · exact w_c9
  · exact w_c10
  · exact w_c11
set_option maxRecDepth 65536 in
theorem w_t1 : (words1.take 24).all (fun c => isCode c || c.before args0 about1) = true := by decide +kernel
set_option maxRecDepth 65536 in
theorem w_t2 : ((words1.drop 24).take 24).all (fun c => isCode c || c.before args0 about1) = true := by decide +kernel
set_option maxRecDepth 65536 in
theorem w_t3 : (((words1.drop 24).drop 24).take 24).all (fun c => isCode c || c.before args0 about1) = true := by decide +kernel
set_option maxRecDepth 65536 in
theorem w_t4 : (((words1.drop 24).drop 24).drop 24).all (fun c => isCode c || c.before args0 about1) = true := by decide +kernel
theorem w_tables : (allAtoms (Jvm.Cond.code x code maxLocals ret :: tables_1)).before args0 about1 = true := by
  rw [allAtoms_all]
  show words1.all (fun c => c.before args0 about1) = true
  refine all_split ?_ w_codes
  rw [← List.take_append_drop 24 words1, List.all_append, w_t1, ← List.take_append_drop 24 (words1.drop 24), List.all_append, w_t2, ← List.take_append_drop 24 ((words1.drop 24).drop 24), List.all_append, w_t3, w_t4]
  rfl
set_option maxRecDepth 65536 in
theorem w_rest : rest_1_c.before args0 about1 = true := by decide +kernel
set_option maxRecDepth 65536 in
theorem w_case : (Jvm.Cond.and given_1 narrow_1).before args0 about1 = true := by decide +kernel
theorem w_applies : (headSpec (Jvm.Cond.code x code maxLocals ret :: tables_1) room_1).applies x e0.platform about1 = true :=
  (Spec.applies_iff w_frames).mpr ⟨w_running, w_runnable, w_alone, w_named, w_hears, w_ripe, w_room, w_tables⟩
theorem atStart : AtStart classFile x code maxLocals ret World_1 tables_1 room_1 Calls_1 rest_1 Pre_1 launch0 p0 e0 about1 theMethod args0 below0 :=
  ⟨lists_1, trivial, launch0.admits_env _ _ _, launch0.least_env, fairChoices_fair.cas, fairChoices_fair.clock, w_frames, w_args, w_heap, w_applies, trivial, w_rest, w_case⟩
end start1
theorem witness_1 : WitnessClaimed_1 := ⟨start1.p0, start1.e0, start1.about1, start1.theMethod, start1.args0, start1.below0, start1.atStart⟩
end Jvm.Pilot.@@N@@
