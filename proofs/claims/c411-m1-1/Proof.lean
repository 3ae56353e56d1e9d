import JvmDerived
import JvmDerived.Pilot.@@N@@Statement
import JvmDerived.Pilot.@@N@@Code
set_option linter.unusedVariables false
set_option linter.unusedSimpArgs false
namespace Jvm.RoadKit
open Sem ClassFile Op Lib Jvm.Stand Jvm.Free Jvm.LawKit
section Own
variable {p : Program} {l : Launch} {e : Env} {R : Room} {s : State} {m : MethodId} {args : Array Value} {below : List Frame} {meth : Method} {c : Code} {T : State} {locs : List Loc} {cells slots : Nat}
theorem retI (X : Stand p l e R s m args below meth c T locs cells slots) (hx : p.tables.exec = Jvm.exec) {pc : Nat} {Ls : Array Slot} {z : Int32} {rest : List Value} (hret : meth.sig.returnType = some .int) (hd : decode c.code pc = .ok (.ireturn, 1)) {fs : List Frame}
    (hl : ∀ (f : JFrame) (acts : List Action), f.method = m → f.locked = none → f.entered = [] → (doReturn e (T.setTop f) acts (some (.int z))).1 = T.setFrames fs) : Steps p.tables e below (T.setTop (mkF m pc Ls (.int z :: rest))) (T.setFrames fs) := by
  have hm' : T.vm.method? m = some meth := X.method'
  have hn : narrow .int (.int z) = .int z := rfl
  show Steps p.tables e below (T.setTop { method := m, pc := pc, locals := Ls, stack := _ :: rest, locked := none }) _
  jvm_step X.here [X.here.top, hx, hd, hm', hret, hn]
  first | (intro acts; rw [hl _ acts rfl rfl rfl]) | rw [hl _ _ rfl rfl rfl]
  exact Steps.refl _
/-- the walk from S ends as K says -/
def Way (tb : Tables) (e : Env) (below : List Frame) (K : Outcome → State → Prop) (S : State) : Prop := ∃ s₂ o, Steps tb e below S s₂ ∧ s₂.status = .running ∧ Ended s₂ below o ∧ K o s₂
theorem Way.by {tb : Tables} {K : Outcome → State → Prop} {A B : State} (st : ∀ t, Steps tb e below B t → Steps tb e below A t) (h : Way tb e below K B) : Way tb e below K A := by
  obtain ⟨s₂, o, h1, h2⟩ := h; exact ⟨s₂, o, st _ h1, h2⟩
theorem Way.to {tb : Tables} {K : Outcome → State → Prop} {A B : State} (st : Steps tb e below A B) (h : Way tb e below K B) : Way tb e below K A := by
  obtain ⟨s₂, o, h1, h2⟩ := h; exact ⟨s₂, o, st.trans h1, h2⟩
abbrev KQ (s : State) (Q : Option Value → Heap → List Loc → Prop) (C S : Nat) : Outcome → State → Prop := fun o s₂ => ∃ v L, o = .returned v ∧ Q v s₂.heap L ∧ FrameEnd s o s₂ L C S
theorem Way.ret {Q : Option Value → Heap → List Loc → Prop} {C S : Nat} {A : State} {v : Option Value} (X : Stand p l e R s m args below meth c T locs cells slots) (hlk : meth.locks = false) (hv : meth.sig.returnType = none → v = none)
    (hret : ∀ fs, (∀ (f : JFrame) (acts : List Action), f.method = m → f.locked = none → f.entered = [] → (doReturn e (T.setTop f) acts v).1 = T.setFrames fs) → Steps p.tables e below A (T.setFrames fs))
    (hQ : Q v T.heap locs) (hc : cells ≤ C) (hs : slots ≤ S) : Way p.tables e below (KQ s Q C S) A := by
  obtain ⟨fs, hr, hrun, hended, hW, hsame⟩ := X.leave hv hlk
  exact ⟨_, _, hret fs hr, hrun, hended, _, _, rfl, hQ, ⟨_, rfl⟩, hW, hsame.mono hc hs⟩
abbrev KQW (s : State) (Q : Option Value → Heap → List Loc → Prop) (C S : Nat) : Outcome → State → Prop := fun o s₂ => ∃ v L, o = .returned v ∧ Q v s₂.heap L ∧ ReturnedEndW s o s₂ L C S
theorem Way.retW {Q : Option Value → Heap → List Loc → Prop} {C S : Nat} {A : State} {v : Option Value} {vm1 : Vm} {n : Nat} (X : Stand p l e R (s.setVm vm1) m args below meth c T locs cells slots) (hS : s.Since vm1 n) (hn : n ≤ T.heap.size) (hlk : meth.locks = false) (hv : meth.sig.returnType = none → v = none)
    (hret : ∀ fs, (∀ (f : JFrame) (acts : List Action), f.method = m → f.locked = none → f.entered = [] → (doReturn e (T.setTop f) acts v).1 = T.setFrames fs) → Steps p.tables e below A (T.setFrames fs))
    (hQ : Q v T.heap locs) (hc : cells ≤ C) (hs : slots ≤ S) : Way p.tables e below (KQW s Q C S) A := by
  obtain ⟨fs, hr, hrun, hended, h1, h2, h3, h4⟩ := X.leaveW hS hn hv hlk
  exact ⟨_, _, hret fs hr, hrun, hended, _, _, rfl, hQ, h1, h2, h3, h4.mono hc hs⟩
abbrev KQH (s Z : State) (EL : List (String × Nat)) (Q : Option Value → Heap → List Loc → Prop) (C S : Nat) : Outcome → State → Prop := fun o s₂ => ∃ v L, o = .returned v ∧ Q v s₂.heap L ∧ CHr Z EL s.vm s.heap s₂.vm s₂.heap ∧ ReturnedEndW s o s₂ L C S
theorem Way.retH {Z : State} {a0 : Array Value} {EL : List (String × Nat)} {Q : Option Value → Heap → List Loc → Prop} {C S : Nat} {A : State} {v : Option Value} {vm1 : Vm} {n : Nat} {h h0 : Heap} (X : Stand p l e R (s.setVm vm1) m args below meth c T locs cells slots) (hS : s.Since vm1 n) (hn : n ≤ T.heap.size) (hZ : Z.Warmed39 vm1) (hEL : EW Z a0 EL) (hh : s.heap = h0) (eT : T.heap = h) (H : CHv Z EL vm1 h) (CH : CHr Z EL s.vm h0 vm1 h) (hlk : meth.locks = false) (hv : meth.sig.returnType = none → v = none)
    (hret : ∀ fs, (∀ (f : JFrame) (acts : List Action), f.method = m → f.locked = none → f.entered = [] → (doReturn e (T.setTop f) acts v).1 = T.setFrames fs) → Steps p.tables e below A (T.setFrames fs))
    (hQ : Q v T.heap locs) (hc : cells ≤ C) (hs : slots ≤ S) : Way p.tables e below (KQH s Z EL Q C S) A := by
  obtain ⟨fs, hr, hrun, hended, h1, h2, h3, h4⟩ := X.leaveW hS hn hv hlk
  refine ⟨_, _, hret fs hr, hrun, hended, _, _, rfl, hQ, ?_, h1, h2, h3, h4.mono hc hs⟩
  have B := CHv.at X hZ hEL H
  show CHr Z EL s.vm s.heap T.vm T.heap
  rw [hh, eT]; exact CH.trans B
theorem fldStart {Z : State} {args : Array Value} {t : Term} {a : Addr} {C n d : String} {k : Int32} (ev : t.eval args Z none [] Z = some (.ref a)) (h : (Cond.eq (.field t C n d) (.int k)).value args Z none Z [] = some true) : Fld Z Z.heap a C n d (.int k) := by
  refine Fld.start ?_
  have e1 : (Term.field t C n d).eval args Z none [] Z = Z.fieldOf? a C n d := fld_at ev
  simp only [Cond.value] at h
  rw [e1, show (Term.int k).eval args Z none [] Z = some (.int k) from rfl] at h
  cases hf : Z.fieldOf? a C n d with
  | none => simp [hf] at h
  | some w => cases w <;> simp [hf] at h ⊢; exact h
theorem remB (x d : Int32) (D : Int) (hd : d.toInt = D) (h0 : 0 < D) : 0 ≤ ((x &&& 2147483647) % d).toInt ∧ ((x &&& 2147483647) % d).toInt < D := by
  have h1 := c_and x 2147483647 (by decide)
  rw [(c_irem (x &&& 2147483647) d D hd).1 h1.1]
  exact ⟨Int.emod_nonneg _ (by omega), Int.emod_lt_of_pos _ h0⟩
theorem cases3 {k : Int32} (h : 0 ≤ k.toInt ∧ k.toInt < 3) : k = 0 ∨ k = 1 ∨ k = 2 := by
  have q : k.toInt = 0 ∨ k.toInt = 1 ∨ k.toInt = 2 := by omega
  rcases q with q | q | q
  · exact Or.inl (Int32.toInt_inj.mp q)
  · exact Or.inr (Or.inl (Int32.toInt_inj.mp q))
  · exact Or.inr (Or.inr (Int32.toInt_inj.mp q))
theorem cases5 {k : Int32} (h : 0 ≤ k.toInt ∧ k.toInt < 5) : k = 0 ∨ k = 1 ∨ k = 2 ∨ k = 3 ∨ k = 4 := by
  have q : k.toInt = 0 ∨ k.toInt = 1 ∨ k.toInt = 2 ∨ k.toInt = 3 ∨ k.toInt = 4 := by omega
  rcases q with q | q | q | q | q
  · exact Or.inl (Int32.toInt_inj.mp q)
  · exact Or.inr (Or.inl (Int32.toInt_inj.mp q))
  · exact Or.inr (Or.inr (Or.inl (Int32.toInt_inj.mp q)))
  · exact Or.inr (Or.inr (Or.inr (Or.inl (Int32.toInt_inj.mp q))))
  · exact Or.inr (Or.inr (Or.inr (Or.inr (Int32.toInt_inj.mp q))))
theorem nfSel {s : State} {args : Array Value} {C : String} {y z : MethodName} (hyz : z.cls = y.cls) (hsel : (Cond.selects C z z).before args s = true) : NotFace s y := fun r0 h0 => by
  obtain ⟨c, r, m, -, -, hn, -, mk, hk, hni⟩ := Cond.selects_spec hsel
  have e1 := findClass_of_methodNamed h0
  have e2 := findClass_of_methodNamed hn
  rw [hyz, e1] at e2
  refine ⟨mk, ?_, hni⟩
  first | (rw [Option.some.inj e2]; exact hk) | (rw [← Option.some.inj e2]; exact hk)
theorem sameOwn {s : State} {args : Array Value} {C : String} {y z : MethodName} (hyz : z.cls = y.cls) (hsel : (Cond.selects C z z).before args s = true) (hinst : (Cond.instanceMethod y).before args s = true) (hy : y.cls ≠ "java/lang/invoke/MethodHandle" ∧ y.cls ≠ "java/lang/invoke/VarHandle") : (Cond.sameMethod y.cls y.cls y.name y.desc).before args s = true := by
  obtain ⟨mk, methM, hnamed, -⟩ := Cond.instanceMethod_spec hinst
  obtain ⟨kr, hk, hni⟩ := nfSel hyz hsel mk hnamed
  have hf := State.methodFound?_of_named hnamed hy
  have hc := findClass_of_methodNamed hnamed
  have hn2 : s.methodNamed? ⟨y.cls, y.name, y.desc⟩ = some mk := hnamed
  simp [Cond.before, Cond.holds, Cond.value, hc, hf, hn2, hk, hni]
theorem selPriv {s : State} {args : Array Value} {C : String} {y z : MethodName} (hyz : z.cls = y.cls) (hsel : (Cond.selects C z z).before args s = true) (hpriv : s.PrivateAt y) (hinst : (Cond.instanceMethod y).before args s = true) (hy : y.cls ≠ "java/lang/invoke/MethodHandle" ∧ y.cls ≠ "java/lang/invoke/VarHandle") : (Cond.selects y.cls y y).before args s = true := by
  obtain ⟨c, r, m, -, -, hn, -, mk, hk, hni⟩ := Cond.selects_spec hsel
  exact selects_self_of_private (by rw [← hyz]; exact findClass_of_methodNamed hn) hk hni hpriv hinst hy
end Own
end Jvm.RoadKit
namespace Jvm.Pilot.@@N@@
open Jvm Jvm.ClassFile Sem Op Lib Jvm.Free Jvm.Stand Jvm.LawKit Jvm.RoadKit Bundle Jvm.Pilot.@@N@@.Jvm.D
theorem tw {Z : State} {a0 : Array Value} (hw : ∀ d ∈ tables_1, d.before a0 Z = true) (i : Nat) {d : Jvm.Cond} (h : tables_1[i]? = some d) : d.before a0 Z = true := hw _ (List.mem_of_getElem? h)
def Q1 (r : Addr) (h0 : Heap) (n0 : Nat) (v : Option Value) (h : Heap) (L : List Loc) : Prop := v = some (.ref r) ∧ Fr n0 L ∧ h = h0
theorem d1_0 : decode prog_1_method_4_code 0 = .ok (.iload_n 0, 1) := by decide +kernel
theorem d1_1 : decode prog_1_method_4_code 1 = .ok (.ifCond .eq 10, 3) := by decide +kernel
theorem d1_4 : decode prog_1_method_4_code 4 = .ok (.getstatic 7, 3) := by decide +kernel
theorem d1_7 : decode prog_1_method_4_code 7 = .ok (.astore_n 1, 1) := by decide +kernel
theorem d1_8 : decode prog_1_method_4_code 8 = .ok (.goto 7, 3) := by decide +kernel
theorem d1_11 : decode prog_1_method_4_code 11 = .ok (.getstatic 3, 3) := by decide +kernel
theorem d1_14 : decode prog_1_method_4_code 14 = .ok (.astore_n 1, 1) := by decide +kernel
theorem d1_15 : decode prog_1_method_4_code 15 = .ok (.aload_n 1, 1) := by decide +kernel
theorem d1_16 : decode prog_1_method_4_code 16 = .ok (.areturn, 1) := by decide +kernel
theorem pn1 : plainName "com/example/longhold/longhold/app/ExitStatus" = true := by first | (simp [plainName, overriddenIn]; done) | decide +kernel
theorem pd1 : parseMethodDescriptor "(Z)Lcom/example/longhold/longhold/app/ExitStatus;" = some ⟨[.boolean], some (.object "com/example/longhold/longhold/app/ExitStatus")⟩ := by decide +kernel
set_option maxRecDepth 65536 in
set_option maxHeartbeats 40000000 in
theorem rm1 (l : Launch) (Z : State) (a0 : Array Value) (hw : ∀ d ∈ tables_1, d.before a0 Z = true) (ws : List Jvm.Cond) (z : Int32) (r uDONE uPROBLEM : Addr) (h0 : Heap) (n0 : Nat) (Z0 : n0 ≤ h0.size) (SDONE : Sta Z h0 "com/example/longhold/longhold/app/ExitStatus" "DONE" "Lcom/example/longhold/longhold/app/ExitStatus;" (.ref uDONE)) (SPROBLEM : Sta Z h0 "com/example/longhold/longhold/app/ExitStatus" "PROBLEM" "Lcom/example/longhold/longhold/app/ExitStatus;" (.ref uPROBLEM)) (hr : (z = 0 → r = uDONE) ∧ (¬ z = 0 → r = uPROBLEM)) :
    MetFree l (⟨"com/example/longhold/longhold/app/ExitStatus", "of", "(Z)Lcom/example/longhold/longhold/app/ExitStatus;"⟩ : MethodName) (head1 (Jvm.Cond.code (⟨"com/example/longhold/longhold/app/ExitStatus", "of", "(Z)Lcom/example/longhold/longhold/app/ExitStatus;"⟩ : MethodName) prog_1_method_4_code 2 (some (.object "com/example/longhold/longhold/app/ExitStatus")) :: ws) ({ frames := 0, cells := 0, slots := 0, locals := 0 } : Room)) (fun aa U => aa = #[(.int z)] ∧ Z.Warmed39 U.vm ∧ U.heap = h0) (fun _ _ _ _ _ => True) (fun _ U o U' => ∃ v L, o = .returned v ∧ Q1 r h0 n0 v U'.heap L ∧ FrameEnd U o U' L ({ frames := 0, cells := 0, slots := 0, locals := 0 } : Room).cells ({ frames := 0, cells := 0, slots := 0, locals := 0 } : Room).slots) := by
  refine MetFree.of_bodySF (plainFor_of_name pn1) hisR ?_
  intro p e s m args below meth c s₁ Bd hml0 hP hK
  obtain ⟨rfl, hZ, hh⟩ := hP
  have hx := Bd.exec
  have hby := Bd.bytes
  have hlk : meth.locks = false := BodyLoose.notSynchronized Bd
  have hml : c.maxLocals = 2 := hml0
  have hown : s.vm.findClass "com/example/longhold/longhold/app/ExitStatus" = some m.cls := findClass_of_methodNamed Bd.named
  have hnm := (name_of_methodNamed Bd.named Bd.method).1
  have X0 : Stand p l e ({ frames := 0, cells := 0, slots := 0, locals := 0 } : Room) s m #[(.int z)] below meth c s₁ [] 0 0 := Stand.of_body Bd
  have e0 : s₁.heap = h0 := by rw [← hh, Bd.state]; rfl
  have N0 := Fr.nil n0
  have ef : entryFrame m #[(.int z)] 2 = mkF m 0 #[iv z, .unset] [] := by first | (simp [entryFrame, mkF, argsToLocals, Value.category, maxLocals]; done) | rfl
  show Way p.tables e below (KQ s (Q1 r h0 n0) ({ frames := 0, cells := 0, slots := 0, locals := 0 } : Room).cells ({ frames := 0, cells := 0, slots := 0, locals := 0 } : Room).slots) (s₁.setTop (entryFrame m #[(.int z)] 2))
  rw [ef]
  refine Way.by (fun _ k => XS.iloadN X0.here hx rfl (hb hby d1_0) rfl k) ?_
  show Way _ _ _ _ (s₁.setTop (mkF m 1 #[iv z, .unset] [(.int z)]))
  by_cases hz : z = (0 : Int32)
  · skip
    refine Way.by (fun _ k => XS.ifYes X0.here hx rfl (pc0 := 1) (pc' := 11) rfl (hb hby d1_1) rfl ((if0 .eq _).trans (teq hz).1) (by decide) (by decide) k) ?_
    show Way _ _ _ _ (s₁.setTop (mkF m 11 #[iv z, .unset] []))
    obtain ⟨T1, X2, e3, st4⟩ := getS X0 hx hZ hown (host := "") (tw hw 4 rfl) Via.refl e0 SDONE (g := (mkF m 11 #[iv z, .unset] [])) rfl (hb hby d1_11)
    refine Way.by st4 ?_
    show Way _ _ _ _ (T1.setTop (mkF m 14 #[iv z, .unset] [(.ref uDONE)]))
    refine Way.by (fun _ k => XS.astoreN X2.here hx rfl (hb hby d1_14) rfl rfl (l' := #[iv z, rv uDONE]) rfl k) ?_
    show Way _ _ _ _ (T1.setTop (mkF m 15 #[iv z, rv uDONE] []))
    refine Way.by (fun _ k => XS.aloadN X2.here hx rfl (hb hby d1_15) rfl rfl k) ?_
    show Way _ _ _ _ (T1.setTop (mkF m 16 #[iv z, rv uDONE] [(.ref uDONE)]))
    refine Way.ret (v := (some (.ref uDONE))) X2 hlk (fun h => by rw [Bd.returns] at h; cases h) (fun fs hr => retOut X2 hx Bd.returns rfl (Or.inr (Or.inr (Or.inr (Or.inr ⟨rfl, rfl, rfl⟩)))) (hb hby d1_16) hr) ?_ (by decide) (by decide)
    show Q1 r h0 n0 _ T1.heap _
    rw [e3]
    exact ⟨by rw [hr.1 hz], N0, rfl⟩
  · skip
    refine Way.by (fun _ k => XS.ifNo X0.here hx rfl (hb hby d1_1) rfl ((if0 .eq _).trans (feq hz).1) k) ?_
    show Way _ _ _ _ (s₁.setTop (mkF m 4 #[iv z, .unset] []))
    obtain ⟨T5, X6, e7, st8⟩ := getS X0 hx hZ hown (host := "") (tw hw 14 rfl) Via.refl e0 SPROBLEM (g := (mkF m 4 #[iv z, .unset] [])) rfl (hb hby d1_4)
    refine Way.by st8 ?_
    show Way _ _ _ _ (T5.setTop (mkF m 7 #[iv z, .unset] [(.ref uPROBLEM)]))
    refine Way.by (fun _ k => XS.astoreN X6.here hx rfl (hb hby d1_7) rfl rfl (l' := #[iv z, rv uPROBLEM]) rfl k) ?_
    show Way _ _ _ _ (T5.setTop (mkF m 8 #[iv z, rv uPROBLEM] []))
    refine Way.by (fun _ k => XS.goto X6.here hx rfl (pc0 := 8) (pc' := 15) rfl (hb hby d1_8) (by decide) (by decide) k) ?_
    show Way _ _ _ _ (T5.setTop (mkF m 15 #[iv z, rv uPROBLEM] []))
    refine Way.by (fun _ k => XS.aloadN X6.here hx rfl (hb hby d1_15) rfl rfl k) ?_
    show Way _ _ _ _ (T5.setTop (mkF m 16 #[iv z, rv uPROBLEM] [(.ref uPROBLEM)]))
    refine Way.ret (v := (some (.ref uPROBLEM))) X6 hlk (fun h => by rw [Bd.returns] at h; cases h) (fun fs hr => retOut X6 hx Bd.returns rfl (Or.inr (Or.inr (Or.inr (Or.inr ⟨rfl, rfl, rfl⟩)))) (hb hby d1_16) hr) ?_ (by decide) (by decide)
    show Q1 r h0 n0 _ T5.heap _
    rw [e7]
    exact ⟨by rw [hr.2 hz], N0, rfl⟩
def Q2 (k : Int32) (h0 : Heap) (n0 : Nat) (v : Option Value) (h : Heap) (L : List Loc) : Prop := v = some (.int k) ∧ Fr n0 L ∧ h = h0
theorem d2_0 : decode prog_1_method_5_code 0 = .ok (.aload_n 0, 1) := by decide +kernel
theorem d2_1 : decode prog_1_method_5_code 1 = .ok (.getfield 35, 3) := by decide +kernel
theorem d2_4 : decode prog_1_method_5_code 4 = .ok (.ireturn, 1) := by decide +kernel
theorem pn2 : plainName "com/example/longhold/longhold/app/ExitStatus" = true := by first | (simp [plainName, overriddenIn]; done) | decide +kernel
theorem pd2 : parseMethodDescriptor "()I" = some ⟨[], some .int⟩ := by decide +kernel
set_option maxRecDepth 65536 in
set_option maxHeartbeats 40000000 in
theorem rm2 (l : Launch) (Z : State) (a0 : Array Value) (hw : ∀ d ∈ tables_1, d.before a0 Z = true) (ws : List Jvm.Cond) (a : Addr) (k : Int32) (h0 : Heap) (n0 : Nat) (Z0 : n0 ≤ h0.size) (F : Fld Z h0 a "com/example/longhold/longhold/app/ExitStatus" "code" "I" (.int k)) :
    MetFree l (⟨"com/example/longhold/longhold/app/ExitStatus", "code", "()I"⟩ : MethodName) (head1 (Jvm.Cond.code (⟨"com/example/longhold/longhold/app/ExitStatus", "code", "()I"⟩ : MethodName) prog_1_method_5_code 1 (some .int) :: ws) ({ frames := 0, cells := 0, slots := 0, locals := 0 } : Room)) (fun aa U => aa = #[(.ref a)] ∧ Z.Warmed39 U.vm ∧ U.heap = h0) (fun _ _ _ _ _ => True) (fun _ U o U' => ∃ v L, o = .returned v ∧ Q2 k h0 n0 v U'.heap L ∧ FrameEnd U o U' L ({ frames := 0, cells := 0, slots := 0, locals := 0 } : Room).cells ({ frames := 0, cells := 0, slots := 0, locals := 0 } : Room).slots) := by
  refine MetFree.of_bodySF (plainFor_of_name pn2) hisR ?_
  intro p e s m args below meth c s₁ Bd hml0 hP hK
  obtain ⟨rfl, hZ, hh⟩ := hP
  have hx := Bd.exec
  have hby := Bd.bytes
  have hlk : meth.locks = false := BodyLoose.notSynchronized Bd
  have hml : c.maxLocals = 1 := hml0
  have hown : s.vm.findClass "com/example/longhold/longhold/app/ExitStatus" = some m.cls := findClass_of_methodNamed Bd.named
  have hnm := (name_of_methodNamed Bd.named Bd.method).1
  have X0 : Stand p l e ({ frames := 0, cells := 0, slots := 0, locals := 0 } : Room) s m #[(.ref a)] below meth c s₁ [] 0 0 := Stand.of_body Bd
  have e0 : s₁.heap = h0 := by rw [← hh, Bd.state]; rfl
  have N0 := Fr.nil n0
  have ef : entryFrame m #[(.ref a)] 1 = mkF m 0 #[rv a] [] := by first | (simp [entryFrame, mkF, argsToLocals, Value.category, maxLocals]; done) | rfl
  show Way p.tables e below (KQ s (Q2 k h0 n0) ({ frames := 0, cells := 0, slots := 0, locals := 0 } : Room).cells ({ frames := 0, cells := 0, slots := 0, locals := 0 } : Room).slots) (s₁.setTop (entryFrame m #[(.ref a)] 1))
  rw [ef]
  refine Way.by (fun _ k => XS.aloadN X0.here hx rfl (hb hby d2_0) rfl rfl k) ?_
  show Way _ _ _ _ (s₁.setTop (mkF m 1 #[rv a] [(.ref a)]))
  obtain ⟨T1, X2, e3, st4⟩ := getF X0 hx hZ hown (host := "") (Or.inl (tw hw 12 rfl)) Via.refl e0 F (g := (mkF m 1 #[rv a] [(.ref a)])) rfl rfl (hb hby d2_1)
  refine Way.by st4 ?_
  show Way _ _ _ _ (T1.setTop (mkF m 4 #[rv a] [(.int k)]))
  refine Way.ret (v := (some (.int k))) X2 hlk (fun h => by rw [Bd.returns] at h; cases h) (fun fs hr => retI X2 hx Bd.returns (hb hby d2_4) hr) ?_ (by decide) (by decide)
  show Q2 k h0 n0 _ T1.heap _
  rw [e3]
  exact ⟨rfl, N0, rfl⟩
def Q0 (n0 : Nat) (v : Option Value) (h : Heap) (L : List Loc) : Prop := v = some (.int 1) ∧ Fr n0 L
theorem pn0 : plainName "com/example/longhold/longhold/app/ExitStatusOfPinLaw" = true := by first | (simp [plainName, overriddenIn]; done) | decide +kernel
theorem pd0 : parseMethodDescriptor "(I)Z" = some ⟨[.int], some .boolean⟩ := by decide +kernel
set_option maxRecDepth 65536 in
set_option maxHeartbeats 40000000 in
theorem rm0 (l : Launch) (Z : State) (a0 : Array Value) (hw : ∀ d ∈ tables_1, d.before a0 Z = true) (ws : List Jvm.Cond) (p1 : Int32) (uDONE uPROBLEM : Addr) (h0 : Heap) (n0 : Nat) (Z0 : n0 ≤ h0.size) (SDONE : Sta Z h0 "com/example/longhold/longhold/app/ExitStatus" "DONE" "Lcom/example/longhold/longhold/app/ExitStatus;" (.ref uDONE)) (EDONE : Exa Z h0 uDONE "com/example/longhold/longhold/app/ExitStatus") (FDONE : Fld Z h0 uDONE "com/example/longhold/longhold/app/ExitStatus" "code" "I" (.int 0)) (SPROBLEM : Sta Z h0 "com/example/longhold/longhold/app/ExitStatus" "PROBLEM" "Lcom/example/longhold/longhold/app/ExitStatus;" (.ref uPROBLEM)) (EPROBLEM : Exa Z h0 uPROBLEM "com/example/longhold/longhold/app/ExitStatus") (FPROBLEM : Fld Z h0 uPROBLEM "com/example/longhold/longhold/app/ExitStatus" "code" "I" (.int 1)) :
    MetFree l x (head1 (Jvm.Cond.code x code maxLocals ret :: ws) room_1) (fun aa U => aa = #[(.int p1)] ∧ Z.Warmed39 U.vm ∧ U.heap = h0) (fun _ _ _ _ _ => True) (fun _ U o U' => ∃ v L, o = .returned v ∧ Q0 n0 v U'.heap L ∧ FrameEnd U o U' L room_1.cells room_1.slots) := by
  refine MetFree.of_bodySF (plainFor_of_name pn0) hisR ?_
  intro p e s m args below meth c s₁ Bd hml0 hP hK
  obtain ⟨rfl, hZ, hh⟩ := hP
  have hx := Bd.exec
  have hby := Bd.bytes
  have hlk : meth.locks = false := BodyLoose.notSynchronized Bd
  have hml : c.maxLocals = 3 := hml0
  have hown : s.vm.findClass "com/example/longhold/longhold/app/ExitStatusOfPinLaw" = some m.cls := findClass_of_methodNamed Bd.named
  have hnm := (name_of_methodNamed Bd.named Bd.method).1
  have X0 : Stand p l e room_1 s m #[(.int p1)] below meth c s₁ [] 0 0 := Stand.of_body Bd
  have e0 : s₁.heap = h0 := by rw [← hh, Bd.state]; rfl
  have N0 := Fr.nil n0
  have ef : entryFrame m #[(.int p1)] maxLocals = mkF m 0 #[iv p1, .unset, .unset] [] := by first | (simp [entryFrame, mkF, argsToLocals, Value.category, maxLocals]; done) | rfl
  show Way p.tables e below (KQ s (Q0 n0) room_1.cells room_1.slots) (s₁.setTop (entryFrame m #[(.int p1)] maxLocals))
  rw [ef]
  refine Way.by (fun _ k => XS.iloadN X0.here hx rfl (hb hby at_0) rfl k) ?_
  show Way _ _ _ _ (s₁.setTop (mkF m 1 #[iv p1, .unset, .unset] [(.int p1)]))
  refine Way.by (fun _ k => XS.iconst X0.here hx rfl (hb hby at_1) k) ?_
  show Way _ _ _ _ (s₁.setTop (mkF m 2 #[iv p1, .unset, .unset] [(.int 1), (.int p1)]))
  refine Way.by (fun _ k => XS.iand X0.here hx rfl (hb hby at_2) rfl k) ?_
  show Way _ _ _ _ (s₁.setTop (mkF m 3 #[iv p1, .unset, .unset] [(.int (p1 &&& (1 : Int32)))]))
  by_cases b1 : (p1 &&& (1 : Int32)) = (0 : Int32)
  · skip
    refine Way.by (fun _ k => XS.ifYes X0.here hx rfl (pc0 := 3) (pc' := 10) rfl (hb hby at_3) rfl ((if0 .eq _).trans (teq b1).1) (by decide) (by decide) k) ?_
    show Way _ _ _ _ (s₁.setTop (mkF m 10 #[iv p1, .unset, .unset] []))
    refine Way.by (fun _ k => XS.iconst X0.here hx rfl (hb hby at_10) k) ?_
    show Way _ _ _ _ (s₁.setTop (mkF m 11 #[iv p1, .unset, .unset] [(.int 0)]))
    refine Way.by (fun _ k => XS.istoreN X0.here hx rfl (hb hby at_11) rfl (l' := #[iv p1, iv 0, .unset]) rfl k) ?_
    show Way _ _ _ _ (s₁.setTop (mkF m 12 #[iv p1, iv 0, .unset] []))
    refine Way.by (fun _ k => XS.iloadN X0.here hx rfl (hb hby at_12) rfl k) ?_
    show Way _ _ _ _ (s₁.setTop (mkF m 13 #[iv p1, iv 0, .unset] [(.int 0)]))
    obtain ⟨_, _, ⟨T2, L4, k5, n6⟩, -, X3, ⟨Lc7, hQ8, l9, y10, z11⟩, st12⟩ := Jvm.LawKit.callS X0 hx (y := (⟨"com/example/longhold/longhold/app/ExitStatus", "of", "(Z)Lcom/example/longhold/longhold/app/ExitStatus;"⟩ : MethodName)) hown (mvT hZ (tw hw 0 rfl)) (mvT hZ (tw hw 1 rfl)) (mvT hZ (tw hw 2 rfl)) (mvT hZ (tw hw 3 rfl)) (by decide) (backOf (W := 0) (rm1 l Z a0 hw [] (0 : Int32) uDONE uDONE uPROBLEM h0 n0 Z0 SDONE SPROBLEM ⟨fun _ => rfl, fun h => absurd rfl h⟩) hZ (tw hw 3 rfl) (tw hw 2 rfl) (by decide) (by decide)) (g := (mkF m 13 #[iv p1, iv 0, .unset] [(.int 0)])) rfl (by rw [hml]; rfl) (argsL := [(.int 0)]) (rest := []) (lenOf pd1 rfl) rfl (by show 2 * 0 + _ ≤ _; exact Nat.le_of_eq rfl) (hb hby at_13) (fun _ _ => ⟨rfl, e0, (Nat.le_of_ble_eq_true rfl), (Nat.le_of_ble_eq_true rfl)⟩)
    dsimp only [Pt.U, Pt.locs, Pt.cells, Pt.slots] at X3 l9 y10 z11 st12 hQ8
    subst l9 y10 z11
    obtain ⟨rfl, N18, e14⟩ := hQ8
    have N13 := Fr.app N0 N18
    refine Way.by st12 ?_
    show Way _ _ _ _ (T2.setTop (mkF m 16 #[iv p1, iv 0, .unset] [(.ref uDONE)]))
    refine Way.by (fun _ k => XS.astoreN X3.here hx rfl (hb hby at_16) rfl rfl (l' := #[iv p1, iv 0, rv uDONE]) rfl k) ?_
    show Way _ _ _ _ (T2.setTop (mkF m 17 #[iv p1, iv 0, rv uDONE] []))
    refine Way.by (fun _ k => XS.aloadN X3.here hx rfl (hb hby at_17) rfl rfl k) ?_
    show Way _ _ _ _ (T2.setTop (mkF m 18 #[iv p1, iv 0, rv uDONE] [(.ref uDONE)]))
    refine Way.by (fun _ k => XT.ifnonnullYes X3.here hx rfl (pc0 := 18) (pc' := 23) rfl (hb hby at_18) rfl (by decide) (by decide) k) ?_
    show Way _ _ _ _ (T2.setTop (mkF m 23 #[iv p1, iv 0, rv uDONE] []))
    refine Way.by (fun _ k => XS.iloadN X3.here hx rfl (hb hby at_23) rfl k) ?_
    show Way _ _ _ _ (T2.setTop (mkF m 24 #[iv p1, iv 0, rv uDONE] [(.int 0)]))
    have b20 : (0 : Int32) = (0 : Int32) := by decide
    refine Way.by (fun _ k => XS.ifYes X3.here hx rfl (pc0 := 24) (pc' := 48) rfl (hb hby at_24) rfl ((if0 .eq _).trans (teq b20).1) (by decide) (by decide) k) ?_
    show Way _ _ _ _ (T2.setTop (mkF m 48 #[iv p1, iv 0, rv uDONE] []))
    refine Way.by (fun _ k => XS.aloadN X3.here hx rfl (hb hby at_48) rfl rfl k) ?_
    show Way _ _ _ _ (T2.setTop (mkF m 49 #[iv p1, iv 0, rv uDONE] [(.ref uDONE)]))
    obtain ⟨T21, X22, e23, st24⟩ := getS X3 hx hZ hown (host := "") (tw hw 6 rfl) Via.refl e14 SDONE (g := (mkF m 49 #[iv p1, iv 0, rv uDONE] [(.ref uDONE)])) rfl (hb hby at_49)
    refine Way.by st24 ?_
    show Way _ _ _ _ (T21.setTop (mkF m 52 #[iv p1, iv 0, rv uDONE] [(.ref uDONE), (.ref uDONE)]))
    have b25 : uDONE = uDONE := rfl
    refine Way.by (fun _ k => acmp X22 hx rfl rfl rfl (pc0 := 52) (pc' := 55) (same := true) rfl (hb hby at_52) rfl (by simp [b25]) (by decide) (by decide) k) ?_
    show Way _ _ _ _ (T21.setTop (mkF m 55 #[iv p1, iv 0, rv uDONE] []))
    refine Way.by (fun _ k => XS.aloadN X22.here hx rfl (hb hby at_55) rfl rfl k) ?_
    show Way _ _ _ _ (T21.setTop (mkF m 56 #[iv p1, iv 0, rv uDONE] [(.ref uDONE)]))
    obtain ⟨cq42, kq43, qa44, qb45, qc46⟩ := isOf hZ e23 EDONE
    obtain ⟨_, _, ⟨T26, L28, k29, n30⟩, -, X27, ⟨Lc31, hQ32, l33, y34, z35⟩, st36⟩ := X22.virtualBack hx (y := (⟨"com/example/longhold/longhold/app/ExitStatus", "code", "()I"⟩ : MethodName)) (z := (⟨"com/example/longhold/longhold/app/ExitStatus", "code", "()I"⟩ : MethodName)) hown (mvT hZ (tw hw 7 rfl)) (mvT hZ (tw hw 8 rfl)) (notFace_of_selects (args := #[]) (mvT hZ (tw hw 10 rfl))) (mvT hZ (tw hw 10 rfl)) (mvT hZ (tw hw 9 rfl)) (by decide) (backOf (W := 0) (rm2 l Z a0 hw [] uDONE (0 : Int32) h0 n0 Z0 FDONE) hZ (tw hw 11 rfl) (tw hw 2 rfl) (by decide) (by decide)) qa44 qc46 (g := (mkF m 56 #[iv p1, iv 0, rv uDONE] [(.ref uDONE)])) rfl (by rw [hml]; rfl) (Steps.refl _) (argsL := []) (rest := []) (lenOf pd2 rfl) rfl (by show 2 * 0 + _ ≤ _; exact Nat.le_of_eq rfl) (hb hby at_56) (fun _ _ => ⟨rfl, e23, (Nat.le_of_ble_eq_true rfl), (Nat.le_of_ble_eq_true rfl)⟩)
    dsimp only [Pt.U, Pt.locs, Pt.cells, Pt.slots] at X27 l33 y34 z35 st36 hQ32
    subst l33 y34 z35
    obtain ⟨rfl, N47, e38⟩ := hQ32
    have N37 := Fr.app N13 N47
    refine Way.to st36 ?_
    show Way _ _ _ _ (T26.setTop (mkF m 59 #[iv p1, iv 0, rv uDONE] [(.int 0)]))
    have b49 : (0 : Int32) = (0 : Int32) := by decide
    refine Way.by (fun _ k => XS.ifNo X27.here hx rfl (hb hby at_59) rfl ((if0 .ne _).trans (teq b49).2) k) ?_
    show Way _ _ _ _ (T26.setTop (mkF m 62 #[iv p1, iv 0, rv uDONE] []))
    refine Way.by (fun _ k => XS.iconst X27.here hx rfl (hb hby at_62) k) ?_
    show Way _ _ _ _ (T26.setTop (mkF m 63 #[iv p1, iv 0, rv uDONE] [(.int 1)]))
    refine Way.by (fun _ k => XS.goto X27.here hx rfl (pc0 := 63) (pc' := 67) rfl (hb hby at_63) (by decide) (by decide) k) ?_
    show Way _ _ _ _ (T26.setTop (mkF m 67 #[iv p1, iv 0, rv uDONE] [(.int 1)]))
    refine Way.ret (v := (some (.int (nar .boolean (1 : Int32))))) X27 hlk (fun h => by rw [Bd.returns] at h; cases h) (fun fs hr => retN X27 hx (t := .boolean) Bd.returns (by simp) (hb hby at_67) hr) ?_ (by decide) (by decide)
    show Q0 n0 _ T26.heap _
    rw [e38]
    exact ⟨rfl, N37⟩
  · skip
    refine Way.by (fun _ k => XS.ifNo X0.here hx rfl (hb hby at_3) rfl ((if0 .eq _).trans (feq b1).1) k) ?_
    show Way _ _ _ _ (s₁.setTop (mkF m 6 #[iv p1, .unset, .unset] []))
    refine Way.by (fun _ k => XS.iconst X0.here hx rfl (hb hby at_6) k) ?_
    show Way _ _ _ _ (s₁.setTop (mkF m 7 #[iv p1, .unset, .unset] [(.int 1)]))
    refine Way.by (fun _ k => XS.goto X0.here hx rfl (pc0 := 7) (pc' := 11) rfl (hb hby at_7) (by decide) (by decide) k) ?_
    show Way _ _ _ _ (s₁.setTop (mkF m 11 #[iv p1, .unset, .unset] [(.int 1)]))
    refine Way.by (fun _ k => XS.istoreN X0.here hx rfl (hb hby at_11) rfl (l' := #[iv p1, iv 1, .unset]) rfl k) ?_
    show Way _ _ _ _ (s₁.setTop (mkF m 12 #[iv p1, iv 1, .unset] []))
    refine Way.by (fun _ k => XS.iloadN X0.here hx rfl (hb hby at_12) rfl k) ?_
    show Way _ _ _ _ (s₁.setTop (mkF m 13 #[iv p1, iv 1, .unset] [(.int 1)]))
    obtain ⟨_, _, ⟨T50, L52, k53, n54⟩, -, X51, ⟨Lc55, hQ56, l57, y58, z59⟩, st60⟩ := Jvm.LawKit.callS X0 hx (y := (⟨"com/example/longhold/longhold/app/ExitStatus", "of", "(Z)Lcom/example/longhold/longhold/app/ExitStatus;"⟩ : MethodName)) hown (mvT hZ (tw hw 0 rfl)) (mvT hZ (tw hw 1 rfl)) (mvT hZ (tw hw 2 rfl)) (mvT hZ (tw hw 3 rfl)) (by decide) (backOf (W := 0) (rm1 l Z a0 hw [] (1 : Int32) uPROBLEM uDONE uPROBLEM h0 n0 Z0 SDONE SPROBLEM ⟨fun h => absurd h (by decide), fun _ => rfl⟩) hZ (tw hw 3 rfl) (tw hw 2 rfl) (by decide) (by decide)) (g := (mkF m 13 #[iv p1, iv 1, .unset] [(.int 1)])) rfl (by rw [hml]; rfl) (argsL := [(.int 1)]) (rest := []) (lenOf pd1 rfl) rfl (by show 2 * 0 + _ ≤ _; exact Nat.le_of_eq rfl) (hb hby at_13) (fun _ _ => ⟨rfl, e0, (Nat.le_of_ble_eq_true rfl), (Nat.le_of_ble_eq_true rfl)⟩)
    dsimp only [Pt.U, Pt.locs, Pt.cells, Pt.slots] at X51 l57 y58 z59 st60 hQ56
    subst l57 y58 z59
    obtain ⟨rfl, N66, e62⟩ := hQ56
    have N61 := Fr.app N0 N66
    refine Way.by st60 ?_
    show Way _ _ _ _ (T50.setTop (mkF m 16 #[iv p1, iv 1, .unset] [(.ref uPROBLEM)]))
    refine Way.by (fun _ k => XS.astoreN X51.here hx rfl (hb hby at_16) rfl rfl (l' := #[iv p1, iv 1, rv uPROBLEM]) rfl k) ?_
    show Way _ _ _ _ (T50.setTop (mkF m 17 #[iv p1, iv 1, rv uPROBLEM] []))
    refine Way.by (fun _ k => XS.aloadN X51.here hx rfl (hb hby at_17) rfl rfl k) ?_
    show Way _ _ _ _ (T50.setTop (mkF m 18 #[iv p1, iv 1, rv uPROBLEM] [(.ref uPROBLEM)]))
    refine Way.by (fun _ k => XT.ifnonnullYes X51.here hx rfl (pc0 := 18) (pc' := 23) rfl (hb hby at_18) rfl (by decide) (by decide) k) ?_
    show Way _ _ _ _ (T50.setTop (mkF m 23 #[iv p1, iv 1, rv uPROBLEM] []))
    refine Way.by (fun _ k => XS.iloadN X51.here hx rfl (hb hby at_23) rfl k) ?_
    show Way _ _ _ _ (T50.setTop (mkF m 24 #[iv p1, iv 1, rv uPROBLEM] [(.int 1)]))
    have b68 : ¬ (1 : Int32) = (0 : Int32) := by decide
    refine Way.by (fun _ k => XS.ifNo X51.here hx rfl (hb hby at_24) rfl ((if0 .eq _).trans (feq b68).1) k) ?_
    show Way _ _ _ _ (T50.setTop (mkF m 27 #[iv p1, iv 1, rv uPROBLEM] []))
    refine Way.by (fun _ k => XS.aloadN X51.here hx rfl (hb hby at_27) rfl rfl k) ?_
    show Way _ _ _ _ (T50.setTop (mkF m 28 #[iv p1, iv 1, rv uPROBLEM] [(.ref uPROBLEM)]))
    obtain ⟨T69, X70, e71, st72⟩ := getS X51 hx hZ hown (host := "") (tw hw 16 rfl) Via.refl e62 SPROBLEM (g := (mkF m 28 #[iv p1, iv 1, rv uPROBLEM] [(.ref uPROBLEM)])) rfl (hb hby at_28)
    refine Way.by st72 ?_
    show Way _ _ _ _ (T69.setTop (mkF m 31 #[iv p1, iv 1, rv uPROBLEM] [(.ref uPROBLEM), (.ref uPROBLEM)]))
    have b73 : uPROBLEM = uPROBLEM := rfl
    refine Way.by (fun _ k => acmp X70 hx rfl rfl rfl (pc0 := 31) (pc' := 34) (same := true) rfl (hb hby at_31) rfl (by simp [b73]) (by decide) (by decide) k) ?_
    show Way _ _ _ _ (T69.setTop (mkF m 34 #[iv p1, iv 1, rv uPROBLEM] []))
    refine Way.by (fun _ k => XS.aloadN X70.here hx rfl (hb hby at_34) rfl rfl k) ?_
    show Way _ _ _ _ (T69.setTop (mkF m 35 #[iv p1, iv 1, rv uPROBLEM] [(.ref uPROBLEM)]))
    obtain ⟨cq90, kq91, qa92, qb93, qc94⟩ := isOf hZ e71 EPROBLEM
    obtain ⟨_, _, ⟨T74, L76, k77, n78⟩, -, X75, ⟨Lc79, hQ80, l81, y82, z83⟩, st84⟩ := X70.virtualBack hx (y := (⟨"com/example/longhold/longhold/app/ExitStatus", "code", "()I"⟩ : MethodName)) (z := (⟨"com/example/longhold/longhold/app/ExitStatus", "code", "()I"⟩ : MethodName)) hown (mvT hZ (tw hw 7 rfl)) (mvT hZ (tw hw 8 rfl)) (notFace_of_selects (args := #[]) (mvT hZ (tw hw 10 rfl))) (mvT hZ (tw hw 10 rfl)) (mvT hZ (tw hw 9 rfl)) (by decide) (backOf (W := 0) (rm2 l Z a0 hw [] uPROBLEM (1 : Int32) h0 n0 Z0 FPROBLEM) hZ (tw hw 11 rfl) (tw hw 2 rfl) (by decide) (by decide)) qa92 qc94 (g := (mkF m 35 #[iv p1, iv 1, rv uPROBLEM] [(.ref uPROBLEM)])) rfl (by rw [hml]; rfl) (Steps.refl _) (argsL := []) (rest := []) (lenOf pd2 rfl) rfl (by show 2 * 0 + _ ≤ _; exact Nat.le_of_eq rfl) (hb hby at_35) (fun _ _ => ⟨rfl, e71, (Nat.le_of_ble_eq_true rfl), (Nat.le_of_ble_eq_true rfl)⟩)
    dsimp only [Pt.U, Pt.locs, Pt.cells, Pt.slots] at X75 l81 y82 z83 st84 hQ80
    subst l81 y82 z83
    obtain ⟨rfl, N95, e86⟩ := hQ80
    have N85 := Fr.app N61 N95
    refine Way.to st84 ?_
    show Way _ _ _ _ (T74.setTop (mkF m 38 #[iv p1, iv 1, rv uPROBLEM] [(.int 1)]))
    refine Way.by (fun _ k => XS.iconst X75.here hx rfl (hb hby at_38) k) ?_
    show Way _ _ _ _ (T74.setTop (mkF m 39 #[iv p1, iv 1, rv uPROBLEM] [(.int 1), (.int 1)]))
    have b97 : (1 : Int32) = (1 : Int32) := by decide
    refine Way.by (fun _ k => XS.icmpNo X75.here hx rfl (hb hby at_39) rfl (teq b97).2 k) ?_
    show Way _ _ _ _ (T74.setTop (mkF m 42 #[iv p1, iv 1, rv uPROBLEM] []))
    refine Way.by (fun _ k => XS.iconst X75.here hx rfl (hb hby at_42) k) ?_
    show Way _ _ _ _ (T74.setTop (mkF m 43 #[iv p1, iv 1, rv uPROBLEM] [(.int 1)]))
    refine Way.by (fun _ k => XS.goto X75.here hx rfl (pc0 := 43) (pc' := 47) rfl (hb hby at_43) (by decide) (by decide) k) ?_
    show Way _ _ _ _ (T74.setTop (mkF m 47 #[iv p1, iv 1, rv uPROBLEM] [(.int 1)]))
    refine Way.ret (v := (some (.int (nar .boolean (1 : Int32))))) X75 hlk (fun h => by rw [Bd.returns] at h; cases h) (fun fs hr => retN X75 hx (t := .boolean) Bd.returns (by simp) (hb hby at_47) hr) ?_ (by decide) (by decide)
    show Q0 n0 _ T74.heap _
    rw [e86]
    exact ⟨rfl, N85⟩
set_option maxRecDepth 65536 in
set_option maxHeartbeats 40000000 in
theorem comes_1 {Post : Tables → Env → Array Value → State → Outcome → State → Prop} (hpost : ∀ tb e args s v u, (limb_1_1.after args s (.returned v) u = true ∧ limb_1_2.after args s (.returned v) u = true ∧ True) → FrameEnd s (.returned v) u (Jvm.fieldLocs frame_1_writes args s ++ Jvm.arrayLocs frame_1_arrays args s ++ Jvm.staticLocs frame_1_statics s) 0 0 → Post tb e args s (.returned v) u) :
    ArmFor flags0 classFile x code maxLocals ret World_1 tables_1 room_1 Calls_1 rest_1 Pre_1 Post := by
  intro l hfl _ _ p e ha hc hk s m args below hf hA hF happ hP
  obtain ⟨hcalls, hrest, hpre⟩ := hP
  obtain ⟨-, -, -, hnamed, -, -, -, hat⟩ := (Spec.applies_iff hf).mp happ
  obtain ⟨hg, hn⟩ := and_e (Cond.before_iff.mp (show (Jvm.Cond.and given_1 narrow_1).before args s = true from hpre))
  obtain ⟨hg0, hgr0⟩ := and_e hg
  obtain ⟨w0, rfl⟩ : ∃ w0 : Value, args = #[w0] := by
    have hs : args.size = 1 := by simpa [Cond.value, given_1] using hg0
    obtain ⟨L⟩ := args
    match L, hs with
    | [w0], _ => exact ⟨w0, rfl⟩
  have hw := fun d (hd : d ∈ tables_1) => atoms_spec (ws := Jvm.Cond.code x code maxLocals ret :: tables_1) hat d (List.mem_cons_of_mem _ hd)
  have hfit : Fit s := fun {y c} hc i hi => by
    obtain ⟨ha, rfl⟩ := Array.getElem?_eq_some_iff.mp hc
    have q := List.all_eq_true.mp ((Array.all_eq_true_iff_forall_mem.mp hF) _ (Array.getElem_mem ha)) i (List.mem_range.mpr hi)
    simpa [Array.getElem?_eq_getElem hi] using q
  obtain ⟨i0, ei0⟩ := is_v hgr0
  obtain rfl : w0 = (.int i0) := Option.some.inj ei0
  obtain ⟨hn0, hnr0⟩ := and_e hn
  obtain ⟨hn1, hnr1⟩ := and_e hnr0
  obtain ⟨hn2, hnr2⟩ := and_e hnr1
  obtain ⟨uDONE, _, _, _, evDONE, -⟩ := Cond.exactly_spec (Cond.before_iff.mpr hn0)
  have SDONE := Sta.start evDONE (Or.inr ⟨(tw hw 2 rfl), (tw hw 5 rfl)⟩)
  have EDONE := Exa.start evDONE hn0
  obtain ⟨uPROBLEM, _, _, _, evPROBLEM, -⟩ := Cond.exactly_spec (Cond.before_iff.mpr hn2)
  have SPROBLEM := Sta.start evPROBLEM (Or.inr ⟨(tw hw 2 rfl), (tw hw 15 rfl)⟩)
  have EPROBLEM := Exa.start evPROBLEM hn2
  have FDONE_code := fldStart evDONE hn1
  have FPROBLEM_code := fldStart evPROBLEM hnr2
  obtain ⟨n, o, h1, h2, h3, _, L, rfl, ⟨rfl, N⟩, hq⟩ := rm0 l s _ hw tables_1 i0 uDONE uPROBLEM s.heap s.heap.size (Nat.le_refl _) SDONE EDONE FDONE_code SPROBLEM EPROBLEM FPROBLEM_code p e ha hc hk s m _ below hf ((Spec.applies_iff_loose hf).mp happ).1 ⟨rfl, State.Warmed39.refl s, rfl⟩ trivial
  refine ⟨n, _, h1, h2, h3, hpost _ _ _ _ _ _ ⟨Cond.after_iff.mpr rfl, Cond.after_iff.mpr (eq_i res_at (Term.int_eval (1)) rfl), trivial⟩ ⟨hq.1, hq.2.1, (hq.2.2.sift fun y hy => Or.inr (N y hy)).mono (by decide) (by decide)⟩⟩
theorem main_1_1 : Claimed_1_1 := comes_1 fun _ _ _ _ _ _ h hF => ⟨h.1, hF⟩
theorem main_1_2 : Claimed_1_2 := comes_1 fun _ _ _ _ _ _ h hF => ⟨h.2.1, hF⟩
end Jvm.Pilot.@@N@@
namespace Jvm.Pilot.@@N@@
open Jvm Jvm.ClassFile Sem Op Lib Jvm.Free Jvm.Stand Jvm.Pilot.@@N@@.Jvm.D
/-! MADE BY PROGRAM (witnessworld.py) out of the Statement's table words and the real class files: 10 classes; the members and pool entries that the words name. The judged class is class 1, her method 1. -/
namespace start1
open Jvm.ClassFile
def u (s : String) : CpInfo := .utf8 (stringToUtf16 s)
/-- a pool by its gaps: so many unusable entries, then the entry; so many at the end -/
def gap : Nat → List CpInfo → List CpInfo
  | 0, r => r
  | n + 1, r => .unusable :: gap n r
def poolList (es : List (Nat × CpInfo)) (last : Nat) : List CpInfo := es.foldr (fun e r => gap e.1 (e.2 :: r)) (gap last [])
def pool (es : List (Nat × CpInfo)) (last : Nat) : Array CpInfo := ⟨poolList es last⟩
def fileOf (pool : Array CpInfo) (this : Nat) (attrs : Array Attribute := #[]) (ms : Array MethodInfo := #[]) (fl : Nat := 33) (sup : Nat := 0) (ifs : Array Nat := #[]) (fds : Array FieldInfo := #[]) : ClassFile where
  minorVersion := 0
  majorVersion := 65
  constantPool := pool
  accessFlags := fl
  thisClass := this
  superClass := sup
  interfaces := ifs
  fields := fds
  methods := ms
  attributes := attrs
def plain (name : String) (sup : Option ClassId) : Class where
  name := name
  kind := .ordinary
  loader := none
  accessFlags := 33
  super := sup
  interfaces := #[]
  cf := none
  fields := #[]
  methods := #[]
  instanceTypes := #[]
  staticTypes := #[]
  resolved := #[]
  callSites := []
  init := .initialized
  statics := none
  mirror := none

def pool0 : Array CpInfo := pool [(5, u "<init>"), (0, u "()V"), (1, .class_ 10), (1, u "java/lang/Object")] 113

def k0m0 : Method := { name := "<init>", desc := "()V", sig := { parameters := [], returnType := none }, accessFlags := 1, code := none }
/-- java/lang/Object -/
def k0 : Class := { plain "java/lang/Object" none with
  accessFlags := 33
  interfaces := #[]
  cf := some (fileOf pool0 8 #[] #[{ accessFlags := 1, nameIndex := 5, descriptorIndex := 6, attributes := #[] }] 33 0 #[] #[])
  fields := #[]
  methods := #[k0m0]
  instanceTypes := #[]
  staticTypes := #[]
  resolved := Array.replicate 124 none
  statics := none }

def pool1 : Array CpInfo := pool [(2, .class_ 4), (1, u "java/lang/Object"), (0, u "<init>"), (0, u "()V"), (0, .methodref 8 9), (0, .class_ 10), (0, .nameAndType 11 12), (0, u "com/example/longhold/longhold/app/ExitStatus"), (0, u "of"), (0, u "(Z)Lcom/example/longhold/longhold/app/ExitStatus;"), (0, .fieldref 8 14), (0, .nameAndType 15 16), (0, u "PROBLEM"), (0, u "Lcom/example/longhold/longhold/app/ExitStatus;"), (0, .methodref 8 18), (0, .nameAndType 19 20), (0, u "code"), (0, u "()I"), (0, .fieldref 8 22), (0, .nameAndType 23 16), (0, u "DONE"), (0, .class_ 25), (0, u "com/example/longhold/longhold/app/ExitStatusOfPinLaw"), (2, u "law"), (0, u "(I)Z")] 3

def k1m0 : Method := { name := "<init>", desc := "()V", sig := { parameters := [], returnType := none }, accessFlags := 1, code := none }
def k1c1 : Code := { maxStack := 2, maxLocals := 3, code := code, exceptionTable := #[], attributes := #[] }
def k1m1 : Method := { name := "law", desc := "(I)Z", sig := { parameters := [.int], returnType := some .boolean }, accessFlags := 9, code := some k1c1 }
/-- com/example/longhold/longhold/app/ExitStatusOfPinLaw -/
def k1 : Class := { plain "com/example/longhold/longhold/app/ExitStatusOfPinLaw" (some 0) with
  accessFlags := 49
  interfaces := #[]
  cf := some (fileOf pool1 24 #[] #[{ accessFlags := 1, nameIndex := 5, descriptorIndex := 6, attributes := #[] }, { accessFlags := 9, nameIndex := 28, descriptorIndex := 29, attributes := #[] }] 49 2 #[] #[])
  fields := #[]
  methods := #[k1m0, k1m1]
  instanceTypes := #[]
  staticTypes := #[]
  resolved := Array.replicate 33 none
  statics := none }

def pool2 : Array CpInfo := pool [(1, .class_ 2), (0, u "java/lang/constant/Constable"), (0, .class_ 4), (0, u "java/lang/Object")] 6

/-- java/lang/constant/Constable -/
def k2 : Class := { plain "java/lang/constant/Constable" (some 0) with
  accessFlags := 1537
  interfaces := #[]
  cf := some (fileOf pool2 1 #[] #[] 1537 3 #[] #[])
  fields := #[]
  methods := #[]
  instanceTypes := #[]
  staticTypes := #[]
  resolved := Array.replicate 11 none
  statics := none }

def pool3 : Array CpInfo := pool [(1, .class_ 2), (0, u "java/lang/Comparable"), (0, .class_ 4), (0, u "java/lang/Object")] 7

/-- java/lang/Comparable -/
def k3 : Class := { plain "java/lang/Comparable" (some 0) with
  accessFlags := 1537
  interfaces := #[]
  cf := some (fileOf pool3 1 #[] #[] 1537 3 #[] #[])
  fields := #[]
  methods := #[]
  instanceTypes := #[]
  staticTypes := #[]
  resolved := Array.replicate 12 none
  statics := none }

def pool4 : Array CpInfo := pool [(1, .class_ 2), (0, u "java/io/Serializable"), (0, .class_ 4), (0, u "java/lang/Object")] 2

/-- java/io/Serializable -/
def k4 : Class := { plain "java/io/Serializable" (some 0) with
  accessFlags := 1537
  interfaces := #[]
  cf := some (fileOf pool4 1 #[] #[] 1537 3 #[] #[])
  fields := #[]
  methods := #[]
  instanceTypes := #[]
  staticTypes := #[]
  resolved := Array.replicate 7 none
  statics := none }

def pool5 : Array CpInfo := pool [(2, .class_ 4), (1, u "java/lang/Enum"), (0, u "name"), (0, u "Ljava/lang/String;"), (2, u "ordinal"), (0, u "I"), (1, .class_ 14), (1, u "java/lang/Object"), (4, u "hash"), (86, .class_ 108), (1, u "java/lang/Enum$EnumDesc"), (2, .class_ 112), (0, u "java/lang/constant/Constable"), (0, .class_ 114), (0, u "java/lang/Comparable"), (0, .class_ 116), (0, u "java/io/Serializable")] 87

/-- java/lang/Enum -/
def k5 : Class := { plain "java/lang/Enum" (some 0) with
  accessFlags := 1057
  interfaces := #[2, 3, 4]
  cf := some (fileOf pool5 2 #[.nestMembers #[106]] #[] 1057 12 #[111, 113, 115] #[{ accessFlags := 18, nameIndex := 5, descriptorIndex := 6, attributes := #[] }, { accessFlags := 18, nameIndex := 9, descriptorIndex := 10, attributes := #[] }, { accessFlags := 2, nameIndex := 19, descriptorIndex := 10, attributes := #[] }])
  fields := #[{ name := "name", type := (.object "java/lang/String"), accessFlags := 18, slot := 0, constantValue := 0 }, { name := "ordinal", type := .int, accessFlags := 18, slot := 1, constantValue := 0 }, { name := "hash", type := .int, accessFlags := 2, slot := 2, constantValue := 0 }]
  methods := #[]
  instanceTypes := #[(.object "java/lang/String"), .int, .int]
  staticTypes := #[]
  resolved := Array.replicate 204 none
  statics := none }

def pool6 : Array CpInfo := pool [(1, .class_ 2), (0, u "com/example/longhold/longhold/app/ExitStatus"), (0, .fieldref 1 4), (0, .nameAndType 5 6), (0, u "DONE"), (0, u "Lcom/example/longhold/longhold/app/ExitStatus;"), (0, .fieldref 1 8), (0, .nameAndType 9 6), (0, u "PROBLEM"), (2, u "USAGE"), (2, u "ENVIRONMENT"), (2, u "$VALUES"), (0, u "[Lcom/example/longhold/longhold/app/ExitStatus;"), (6, .class_ 28), (1, u "java/lang/Enum"), (6, .fieldref 1 36), (0, .nameAndType 37 38), (0, u "code"), (0, u "I"), (18, u "of"), (0, u "(Z)Lcom/example/longhold/longhold/app/ExitStatus;"), (1, u "()I")] 5

def k6c0 : Code := { maxStack := 1, maxLocals := 2, code := prog_1_method_4_code, exceptionTable := #[], attributes := #[] }
def k6m0 : Method := { name := "of", desc := "(Z)Lcom/example/longhold/longhold/app/ExitStatus;", sig := { parameters := [.boolean], returnType := some (.object "com/example/longhold/longhold/app/ExitStatus") }, accessFlags := 8, code := some k6c0 }
def k6c1 : Code := { maxStack := 1, maxLocals := 1, code := prog_1_method_5_code, exceptionTable := #[], attributes := #[] }
def k6m1 : Method := { name := "code", desc := "()I", sig := { parameters := [], returnType := some .int }, accessFlags := 1, code := some k6c1 }
/-- com/example/longhold/longhold/app/ExitStatus -/
def k6 : Class := { plain "com/example/longhold/longhold/app/ExitStatus" (some 5) with
  accessFlags := 16433
  interfaces := #[]
  cf := some (fileOf pool6 1 #[] #[{ accessFlags := 8, nameIndex := 57, descriptorIndex := 58, attributes := #[] }, { accessFlags := 1, nameIndex := 37, descriptorIndex := 60, attributes := #[] }] 16433 26 #[] #[{ accessFlags := 16409, nameIndex := 5, descriptorIndex := 6, attributes := #[] }, { accessFlags := 16409, nameIndex := 9, descriptorIndex := 6, attributes := #[] }, { accessFlags := 16409, nameIndex := 12, descriptorIndex := 6, attributes := #[] }, { accessFlags := 16409, nameIndex := 15, descriptorIndex := 6, attributes := #[] }, { accessFlags := 18, nameIndex := 37, descriptorIndex := 38, attributes := #[] }, { accessFlags := 4122, nameIndex := 18, descriptorIndex := 19, attributes := #[] }])
  fields := #[{ name := "DONE", type := (.object "com/example/longhold/longhold/app/ExitStatus"), accessFlags := 16409, slot := 0, constantValue := 0 }, { name := "PROBLEM", type := (.object "com/example/longhold/longhold/app/ExitStatus"), accessFlags := 16409, slot := 1, constantValue := 0 }, { name := "USAGE", type := (.object "com/example/longhold/longhold/app/ExitStatus"), accessFlags := 16409, slot := 2, constantValue := 0 }, { name := "ENVIRONMENT", type := (.object "com/example/longhold/longhold/app/ExitStatus"), accessFlags := 16409, slot := 3, constantValue := 0 }, { name := "code", type := .int, accessFlags := 18, slot := 3, constantValue := 0 }, { name := "$VALUES", type := (.array (.object "com/example/longhold/longhold/app/ExitStatus")), accessFlags := 4122, slot := 4, constantValue := 0 }]
  methods := #[k6m0, k6m1]
  instanceTypes := #[(.object "java/lang/String"), .int, .int, .int]
  staticTypes := #[(.object "com/example/longhold/longhold/app/ExitStatus"), (.object "com/example/longhold/longhold/app/ExitStatus"), (.object "com/example/longhold/longhold/app/ExitStatus"), (.object "com/example/longhold/longhold/app/ExitStatus"), (.array (.object "com/example/longhold/longhold/app/ExitStatus"))]
  resolved := Array.replicate 66 none
  statics := some 0 }

def pool7 : Array CpInfo := pool [(1, u "java/lang/Cloneable"), (0, .class_ 1), (0, u "java/lang/Object"), (0, .class_ 3)] 3

/-- java/lang/Cloneable -/
def k7 : Class := { plain "java/lang/Cloneable" (some 0) with
  accessFlags := 1537
  interfaces := #[]
  cf := some (fileOf pool7 2 #[] #[] 1537 4 #[] #[])
  fields := #[]
  methods := #[]
  instanceTypes := #[]
  staticTypes := #[]
  resolved := Array.replicate 8 none
  statics := none }

/-- the primitive byte -/
def k8 : Class := { plain "byte" none with kind := .primitive 'B', accessFlags := 0x411 }
/-- [B -/
def k9 : Class := { plain "[B" (some 0) with kind := .array 8 .byte, interfaces := #[7, 4], accessFlags := 1041 }

def heap : Heap := #[{ cls := 6, slots := #[.ref 1, .ref 2, .null, .null, .null], vm := .statics 6 },
  { cls := 6, slots := #[.null, .int 0, .int 0, .int 0], vm := .none },
  { cls := 6, slots := #[.null, .int 0, .int 0, .int 1], vm := .none }]
def classes : Array Class := #[k0, k1, k2, k3, k4, k5, k6, k7, k8, k9]
def interned : List (Array UInt16 × Addr) := []
def slotsUsed : Nat := 13
def theMethod : MethodId := ⟨1, 1⟩
def args0 : Array Value := #[.int 5]
def aboutOver (below : List Frame) : State where
  vm := { classes := classes, interned := interned.toArray }
  heap := heap
  slotsUsed := slotsUsed
  threads := #[{ frames := .invoking theMethod args0 :: below }]
def below0 : List Frame := [.native { method := ⟨0, 0⟩, args := #[] }]
def about1 : State := aboutOver below0
def p0 : Program := .bare "" "" ""
def e0 : Env := launch0.env 0 0 0
theorem w_frames : about1.frames = Frame.invoking theMethod args0 :: below0 := rfl
set_option maxRecDepth 65536 in
theorem w_args : argsFit about1.vm theMethod args0 = true := by decide +kernel
set_option maxRecDepth 65536 in
theorem w_heap : heapFits about1 = true := by decide +kernel
set_option maxRecDepth 65536 in
theorem w_runnable : about1.curStatus? = some .runnable := by decide +kernel
set_option maxRecDepth 65536 in
theorem w_alone : about1.alone = true := by decide +kernel
set_option maxRecDepth 65536 in
theorem w_named : about1.methodNamed? x = some theMethod := by decide +kernel
set_option maxRecDepth 65536 in
theorem w_hears : about1.hears theMethod below0 = true := by decide +kernel
set_option maxRecDepth 65536 in
theorem w_ripe : about1.ripe theMethod args0 below0 = true := by decide +kernel
theorem w_running : about1.status = .running := rfl
set_option maxRecDepth 65536 in
theorem w_room : about1.hasRoom e0.platform room_1 = true :=
  launch0.hasRoom_least _ room_1 (by decide +kernel) (by decide +kernel) (by decide +kernel) (by decide +kernel) (by decide +kernel) (by decide +kernel)
theorem allAtoms_all (ts : List Jvm.Cond) (a : Array Jvm.Value) (st : Jvm.State) : (allAtoms ts).before a st = ts.all (fun c => c.before a st) := by
  induction ts with
  | nil => rfl
  | cons c t ih =>
    show (Jvm.Cond.and c (allAtoms t)).before a st = _
    rw [Jvm.Cond.before_and, ih, List.all_cons]
def words1 : List Jvm.Cond := Jvm.Cond.code x code maxLocals ret :: tables_1
/-- a 'code' word, met by the world's own term for the bytes: nothing is compared byte by byte -/
theorem code_word {y : MethodName} {bytes : ByteArray} {mx : Nat} {rt : Option FieldType} {a : Array Value} {s : State} {m : MethodId} {meth : Method} {c : Code} (h1 : s.methodNamed? y = some m) (h2 : s.vm.method? m = some meth) (h3 : meth.code = some c) (h4 : c.code = bytes)
    (h5 : (c.maxLocals == mx && c.exceptionTable.isEmpty && decide (c.maxStack ≤ mostOperands) && decide (meth.sig.returnType = rt) && !meth.locks && decide (parseMethodDescriptor y.desc = some meth.sig)) = true) : (Jvm.Cond.code y bytes mx rt).before a s = true := by
  simp only [Bool.and_eq_true, beq_iff_eq, Bool.not_eq_true', decide_eq_true_eq] at h5
  obtain ⟨⟨⟨⟨⟨g1, g2⟩, g3⟩, g4⟩, g5⟩, g6⟩ := h5
  simp [Cond.before, Cond.holds, Cond.value, h1, h2, h3, h4, g1, g2, g3, g4, g5, g6]
def isCode : Jvm.Cond → Bool
  | .code _ _ _ _ => true
  | _ => false
theorem all_split {L : List Jvm.Cond} {P : Jvm.Cond → Bool} (h1 : L.all (fun c => isCode c || P c) = true) (h2 : ∀ c ∈ L.filter isCode, P c = true) : L.all P = true := by
  refine List.all_eq_true.mpr fun c hc => ?_
  have h := List.all_eq_true.mp h1 c hc
  rcases Bool.eq_false_or_eq_true (isCode c) with hi | hi
  · exact h2 c (List.mem_filter.mpr ⟨hc, hi⟩)
  · simpa [hi] using h
set_option maxRecDepth 65536 in
theorem w_c0 : (Jvm.Cond.code x code maxLocals ret).before args0 about1 = true := code_word (m := ⟨1, 1⟩) (meth := k1m1) (c := k1c1) (by decide +kernel) rfl rfl rfl (by decide +kernel)
set_option maxRecDepth 65536 in
theorem w_c1 : (Jvm.Cond.code ({ cls := "com/example/longhold/longhold/app/ExitStatus", name := "of", desc := "(Z)Lcom/example/longhold/longhold/app/ExitStatus;" } : Jvm.MethodName) prog_1_method_4_code (2 : Nat) (Option.some (Jvm.ClassFile.FieldType.object "com/example/longhold/longhold/app/ExitStatus"))).before args0 about1 = true := code_word (m := ⟨6, 0⟩) (meth := k6m0) (c := k6c0) (by decide +kernel) rfl rfl rfl (by decide +kernel)
set_option maxRecDepth 65536 in
theorem w_c2 : (Jvm.Cond.code ({ cls := "com/example/longhold/longhold/app/ExitStatus", name := "code", desc := "()I" } : Jvm.MethodName) prog_1_method_5_code (1 : Nat) (Option.some Jvm.ClassFile.FieldType.int)).before args0 about1 = true := code_word (m := ⟨6, 1⟩) (meth := k6m1) (c := k6c1) (by decide +kernel) rfl rfl rfl (by decide +kernel)
def codes1 : List Jvm.Cond := [Jvm.Cond.code x code maxLocals ret, Jvm.Cond.code ({ cls := "com/example/longhold/longhold/app/ExitStatus", name := "of", desc := "(Z)Lcom/example/longhold/longhold/app/ExitStatus;" } : Jvm.MethodName) prog_1_method_4_code (2 : Nat) (Option.some (Jvm.ClassFile.FieldType.object "com/example/longhold/longhold/app/ExitStatus")), Jvm.Cond.code ({ cls := "com/example/longhold/longhold/app/ExitStatus", name := "code", desc := "()I" } : Jvm.MethodName) prog_1_method_5_code (1 : Nat) (Option.some Jvm.ClassFile.FieldType.int)]
set_option maxRecDepth 65536 in
theorem codes_eq : words1.filter isCode = codes1 := rfl
theorem w_codes : ∀ c ∈ words1.filter isCode, c.before args0 about1 = true := by
  rw [codes_eq]
  intro c hc
  simp only [codes1, List.mem_cons, List.not_mem_nil, or_false] at hc
  rcases hc with rfl | rfl | rfl
  · exact w_c0
  · exact w_c1
  · exact w_c2
set_option maxRecDepth 65536 in
theorem w_t1 : words1.all (fun c => isCode c || c.before args0 about1) = true := by decide +kernel
theorem w_tables : (allAtoms (Jvm.Cond.code x code maxLocals ret :: tables_1)).before args0 about1 = true := by
  rw [allAtoms_all]
  show words1.all (fun c => c.before args0 about1) = true
  refine all_split ?_ w_codes
  rw [w_t1]
set_option maxRecDepth 65536 in
theorem w_case : (Jvm.Cond.and given_1 narrow_1).before args0 about1 = true := by decide +kernel
theorem w_applies : (headSpec (Jvm.Cond.code x code maxLocals ret :: tables_1) room_1).applies x e0.platform about1 = true :=
  (Spec.applies_iff w_frames).mpr ⟨w_running, w_runnable, w_alone, w_named, w_hears, w_ripe, w_room, w_tables⟩
theorem atStart : AtStart classFile x code maxLocals ret World_1 tables_1 room_1 Calls_1 rest_1 Pre_1 launch0 p0 e0 about1 theMethod args0 below0 :=
  ⟨lists_1, trivial, launch0.admits_env _ _ _, launch0.least_env, fairChoices_fair.cas, fairChoices_fair.clock, w_frames, w_args, w_heap, w_applies, trivial, trivial, w_case⟩
end start1
theorem witness_1 : WitnessClaimed_1 := ⟨start1.p0, start1.e0, start1.about1, start1.theMethod, start1.args0, start1.below0, start1.atStart⟩
end Jvm.Pilot.@@N@@
