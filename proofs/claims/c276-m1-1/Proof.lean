import JvmDerived
import JvmDerived.Pilot.@@N@@Statement
import JvmDerived.Pilot.@@N@@Code
set_option linter.unusedVariables false
set_option linter.unusedSimpArgs false
namespace Jvm.RoadKit
open Sem ClassFile Op Lib Jvm.Stand Jvm.Free Jvm.LawKit
section Own
variable {p : Program} {l : Launch} {e : Env} {R : Room} {s : State} {m : MethodId} {args : Array Value} {below : List Frame} {meth : Method} {c : Code} {T : State} {locs : List Loc} {cells slots : Nat}
theorem retI (X : Stand p l e R s m args below meth c T locs cells slots) (hx : p.tables.exec = Jvm.exec) {pc : Nat} {Ls : Array Slot} {z : Int32} {rest : List Value} (hret : meth.sig.returnType = some .int) (hd : decode c.code pc = .ok (.ireturn, 1)) {fs : List Frame}
    (hl : ∀ (f : JFrame) (acts : List Action), f.method = m → f.locked = none → f.entered = [] → (doReturn e (T.setTop f) acts (some (.int z))).1 = T.setFrames fs) : Steps p.tables e below (T.setTop (mkF m pc Ls (.int z :: rest))) (T.setFrames fs) := by
  have hm' : T.vm.method? m = some meth := X.method'
  have hn : narrow .int (.int z) = .int z := rfl
  show Steps p.tables e below (T.setTop { method := m, pc := pc, locals := Ls, stack := _ :: rest, locked := none }) _
  jvm_step X.here [X.here.top, hx, hd, hm', hret, hn]
  first | (intro acts; rw [hl _ acts rfl rfl rfl]) | rw [hl _ _ rfl rfl rfl]
  exact Steps.refl _
/-- the walk from S ends as K says -/
def Way (tb : Tables) (e : Env) (below : List Frame) (K : Outcome → State → Prop) (S : State) : Prop := ∃ s₂ o, Steps tb e below S s₂ ∧ s₂.status = .running ∧ Ended s₂ below o ∧ K o s₂
theorem Way.by {tb : Tables} {K : Outcome → State → Prop} {A B : State} (st : ∀ t, Steps tb e below B t → Steps tb e below A t) (h : Way tb e below K B) : Way tb e below K A := by
  obtain ⟨s₂, o, h1, h2⟩ := h; exact ⟨s₂, o, st _ h1, h2⟩
theorem Way.to {tb : Tables} {K : Outcome → State → Prop} {A B : State} (st : Steps tb e below A B) (h : Way tb e below K B) : Way tb e below K A := by
  obtain ⟨s₂, o, h1, h2⟩ := h; exact ⟨s₂, o, st.trans h1, h2⟩
abbrev KQ (s : State) (Q : Option Value → Heap → List Loc → Prop) (C S : Nat) : Outcome → State → Prop := fun o s₂ => ∃ v L, o = .returned v ∧ Q v s₂.heap L ∧ FrameEnd s o s₂ L C S
theorem Way.ret {Q : Option Value → Heap → List Loc → Prop} {C S : Nat} {A : State} {v : Option Value} (X : Stand p l e R s m args below meth c T locs cells slots) (hlk : meth.locks = false) (hv : meth.sig.returnType = none → v = none)
    (hret : ∀ fs, (∀ (f : JFrame) (acts : List Action), f.method = m → f.locked = none → f.entered = [] → (doReturn e (T.setTop f) acts v).1 = T.setFrames fs) → Steps p.tables e below A (T.setFrames fs))
    (hQ : Q v T.heap locs) (hc : cells ≤ C) (hs : slots ≤ S) : Way p.tables e below (KQ s Q C S) A := by
  obtain ⟨fs, hr, hrun, hended, hW, hsame⟩ := X.leave hv hlk
  exact ⟨_, _, hret fs hr, hrun, hended, _, _, rfl, hQ, ⟨_, rfl⟩, hW, hsame.mono hc hs⟩
abbrev KQW (s : State) (Q : Option Value → Heap → List Loc → Prop) (C S : Nat) : Outcome → State → Prop := fun o s₂ => ∃ v L, o = .returned v ∧ Q v s₂.heap L ∧ ReturnedEndW s o s₂ L C S
theorem Way.retW {Q : Option Value → Heap → List Loc → Prop} {C S : Nat} {A : State} {v : Option Value} {vm1 : Vm} {n : Nat} (X : Stand p l e R (s.setVm vm1) m args below meth c T locs cells slots) (hS : s.Since vm1 n) (hn : n ≤ T.heap.size) (hlk : meth.locks = false) (hv : meth.sig.returnType = none → v = none)
    (hret : ∀ fs, (∀ (f : JFrame) (acts : List Action), f.method = m → f.locked = none → f.entered = [] → (doReturn e (T.setTop f) acts v).1 = T.setFrames fs) → Steps p.tables e below A (T.setFrames fs))
    (hQ : Q v T.heap locs) (hc : cells ≤ C) (hs : slots ≤ S) : Way p.tables e below (KQW s Q C S) A := by
  obtain ⟨fs, hr, hrun, hended, h1, h2, h3, h4⟩ := X.leaveW hS hn hv hlk
  exact ⟨_, _, hret fs hr, hrun, hended, _, _, rfl, hQ, h1, h2, h3, h4.mono hc hs⟩
abbrev KQH (s Z : State) (EL : List (String × Nat)) (Q : Option Value → Heap → List Loc → Prop) (C S : Nat) : Outcome → State → Prop := fun o s₂ => ∃ v L, o = .returned v ∧ Q v s₂.heap L ∧ CHr Z EL s.vm s.heap s₂.vm s₂.heap ∧ ReturnedEndW s o s₂ L C S
theorem Way.retH {Z : State} {a0 : Array Value} {EL : List (String × Nat)} {Q : Option Value → Heap → List Loc → Prop} {C S : Nat} {A : State} {v : Option Value} {vm1 : Vm} {n : Nat} {h h0 : Heap} (X : Stand p l e R (s.setVm vm1) m args below meth c T locs cells slots) (hS : s.Since vm1 n) (hn : n ≤ T.heap.size) (hZ : Z.Warmed39 vm1) (hEL : EW Z a0 EL) (hh : s.heap = h0) (eT : T.heap = h) (H : CHv Z EL vm1 h) (CH : CHr Z EL s.vm h0 vm1 h) (hlk : meth.locks = false) (hv : meth.sig.returnType = none → v = none)
    (hret : ∀ fs, (∀ (f : JFrame) (acts : List Action), f.method = m → f.locked = none → f.entered = [] → (doReturn e (T.setTop f) acts v).1 = T.setFrames fs) → Steps p.tables e below A (T.setFrames fs))
    (hQ : Q v T.heap locs) (hc : cells ≤ C) (hs : slots ≤ S) : Way p.tables e below (KQH s Z EL Q C S) A := by
  obtain ⟨fs, hr, hrun, hended, h1, h2, h3, h4⟩ := X.leaveW hS hn hv hlk
  refine ⟨_, _, hret fs hr, hrun, hended, _, _, rfl, hQ, ?_, h1, h2, h3, h4.mono hc hs⟩
  have B := CHv.at X hZ hEL H
  show CHr Z EL s.vm s.heap T.vm T.heap
  rw [hh, eT]; exact CH.trans B
theorem fldStart {Z : State} {args : Array Value} {t : Term} {a : Addr} {C n d : String} {k : Int32} (ev : t.eval args Z none [] Z = some (.ref a)) (h : (Cond.eq (.field t C n d) (.int k)).value args Z none Z [] = some true) : Fld Z Z.heap a C n d (.int k) := by
  refine Fld.start ?_
  have e1 : (Term.field t C n d).eval args Z none [] Z = Z.fieldOf? a C n d := fld_at ev
  simp only [Cond.value] at h
  rw [e1, show (Term.int k).eval args Z none [] Z = some (.int k) from rfl] at h
  cases hf : Z.fieldOf? a C n d with
  | none => simp [hf] at h
  | some w => cases w <;> simp [hf] at h ⊢; exact h
theorem remB (x d : Int32) (D : Int) (hd : d.toInt = D) (h0 : 0 < D) : 0 ≤ ((x &&& 2147483647) % d).toInt ∧ ((x &&& 2147483647) % d).toInt < D := by
  have h1 := c_and x 2147483647 (by decide)
  rw [(c_irem (x &&& 2147483647) d D hd).1 h1.1]
  exact ⟨Int.emod_nonneg _ (by omega), Int.emod_lt_of_pos _ h0⟩
theorem cases3 {k : Int32} (h : 0 ≤ k.toInt ∧ k.toInt < 3) : k = 0 ∨ k = 1 ∨ k = 2 := by
  have q : k.toInt = 0 ∨ k.toInt = 1 ∨ k.toInt = 2 := by omega
  rcases q with q | q | q
  · exact Or.inl (Int32.toInt_inj.mp q)
  · exact Or.inr (Or.inl (Int32.toInt_inj.mp q))
  · exact Or.inr (Or.inr (Int32.toInt_inj.mp q))
theorem cases5 {k : Int32} (h : 0 ≤ k.toInt ∧ k.toInt < 5) : k = 0 ∨ k = 1 ∨ k = 2 ∨ k = 3 ∨ k = 4 := by
  have q : k.toInt = 0 ∨ k.toInt = 1 ∨ k.toInt = 2 ∨ k.toInt = 3 ∨ k.toInt = 4 := by omega
  rcases q with q | q | q | q | q
  · exact Or.inl (Int32.toInt_inj.mp q)
  · exact Or.inr (Or.inl (Int32.toInt_inj.mp q))
  · exact Or.inr (Or.inr (Or.inl (Int32.toInt_inj.mp q)))
  · exact Or.inr (Or.inr (Or.inr (Or.inl (Int32.toInt_inj.mp q))))
  · exact Or.inr (Or.inr (Or.inr (Or.inr (Int32.toInt_inj.mp q))))
theorem nfSel {s : State} {args : Array Value} {C : String} {y z : MethodName} (hyz : z.cls = y.cls) (hsel : (Cond.selects C z z).before args s = true) : NotFace s y := fun r0 h0 => by
  obtain ⟨c, r, m, -, -, hn, -, mk, hk, hni⟩ := Cond.selects_spec hsel
  have e1 := findClass_of_methodNamed h0
  have e2 := findClass_of_methodNamed hn
  rw [hyz, e1] at e2
  refine ⟨mk, ?_, hni⟩
  first | (rw [Option.some.inj e2]; exact hk) | (rw [← Option.some.inj e2]; exact hk)
theorem sameOwn {s : State} {args : Array Value} {C : String} {y z : MethodName} (hyz : z.cls = y.cls) (hsel : (Cond.selects C z z).before args s = true) (hinst : (Cond.instanceMethod y).before args s = true) (hy : y.cls ≠ "java/lang/invoke/MethodHandle" ∧ y.cls ≠ "java/lang/invoke/VarHandle") : (Cond.sameMethod y.cls y.cls y.name y.desc).before args s = true := by
  obtain ⟨mk, methM, hnamed, -⟩ := Cond.instanceMethod_spec hinst
  obtain ⟨kr, hk, hni⟩ := nfSel hyz hsel mk hnamed
  have hf := State.methodFound?_of_named hnamed hy
  have hc := findClass_of_methodNamed hnamed
  have hn2 : s.methodNamed? ⟨y.cls, y.name, y.desc⟩ = some mk := hnamed
  simp [Cond.before, Cond.holds, Cond.value, hc, hf, hn2, hk, hni]
theorem selPriv {s : State} {args : Array Value} {C : String} {y z : MethodName} (hyz : z.cls = y.cls) (hsel : (Cond.selects C z z).before args s = true) (hpriv : s.PrivateAt y) (hinst : (Cond.instanceMethod y).before args s = true) (hy : y.cls ≠ "java/lang/invoke/MethodHandle" ∧ y.cls ≠ "java/lang/invoke/VarHandle") : (Cond.selects y.cls y y).before args s = true := by
  obtain ⟨c, r, m, -, -, hn, -, mk, hk, hni⟩ := Cond.selects_spec hsel
  exact selects_self_of_private (by rw [← hyz]; exact findClass_of_methodNamed hn) hk hni hpriv hinst hy
end Own
end Jvm.RoadKit
namespace Jvm.Pilot.@@N@@
open Jvm Jvm.ClassFile Sem Op Lib Jvm.Free Jvm.Stand Jvm.LawKit Jvm.RoadKit Bundle Jvm.Pilot.@@N@@.Jvm.D
theorem tw {Z : State} {a0 : Array Value} (hw : ∀ d ∈ tables_1, d.before a0 Z = true) (i : Nat) {d : Jvm.Cond} (h : tables_1[i]? = some d) : d.before a0 Z = true := hw _ (List.mem_of_getElem? h)
def own_pk (k : Int32) (a b c : Addr) : Addr := if k = 0 then a else if k = 1 then b else c
def Q1 (r : Value) (h0 : Heap) (n0 : Nat) (v : Option Value) (h : Heap) (L : List Loc) : Prop := v = some r ∧ Fr n0 L ∧ h = h0
theorem d1_0 : decode method_2_code 0 = .ok (.iload_n 0, 1) := by decide +kernel
theorem d1_1 : decode method_2_code 1 = .ok (.ifCond .ne 7, 3) := by decide +kernel
theorem d1_4 : decode method_2_code 4 = .ok (.getstatic 7, 3) := by decide +kernel
theorem d1_7 : decode method_2_code 7 = .ok (.areturn, 1) := by decide +kernel
theorem d1_8 : decode method_2_code 8 = .ok (.iload_n 0, 1) := by decide +kernel
theorem d1_9 : decode method_2_code 9 = .ok (.iconst 1, 1) := by decide +kernel
theorem d1_10 : decode method_2_code 10 = .ok (.if_icmp .ne 7, 3) := by decide +kernel
theorem d1_13 : decode method_2_code 13 = .ok (.getstatic 13, 3) := by decide +kernel
theorem d1_16 : decode method_2_code 16 = .ok (.areturn, 1) := by decide +kernel
theorem d1_17 : decode method_2_code 17 = .ok (.getstatic 16, 3) := by decide +kernel
theorem d1_20 : decode method_2_code 20 = .ok (.areturn, 1) := by decide +kernel
theorem pn1 : plainName "raciocinio/cli/ExitStatusWorstPinLaw" = true := by first | (simp [plainName, overriddenIn]; done) | decide +kernel
theorem pd1 : parseMethodDescriptor "(I)Lraciocinio/cli/ExitStatus;" = some ⟨[.int], some (.object "raciocinio/cli/ExitStatus")⟩ := by decide +kernel
set_option maxRecDepth 65536 in
set_option maxHeartbeats 40000000 in
theorem rm1 (l : Launch) (Z : State) (a0 : Array Value) (hw : ∀ d ∈ tables_1, d.before a0 Z = true) (ws : List Jvm.Cond) (z : Int32) (uYES uNO uCANNOT_ANSWER : Addr) (h0 : Heap) (n0 : Nat) (Z0 : n0 ≤ h0.size) (SYES : Sta Z h0 "raciocinio/cli/ExitStatus" "YES" "Lraciocinio/cli/ExitStatus;" (.ref uYES)) (SNO : Sta Z h0 "raciocinio/cli/ExitStatus" "NO" "Lraciocinio/cli/ExitStatus;" (.ref uNO)) (SCANNOT_ANSWER : Sta Z h0 "raciocinio/cli/ExitStatus" "CANNOT_ANSWER" "Lraciocinio/cli/ExitStatus;" (.ref uCANNOT_ANSWER)) :
    MetFree l (⟨"raciocinio/cli/ExitStatusWorstPinLaw", "pick", "(I)Lraciocinio/cli/ExitStatus;"⟩ : MethodName) (head1 (Jvm.Cond.code (⟨"raciocinio/cli/ExitStatusWorstPinLaw", "pick", "(I)Lraciocinio/cli/ExitStatus;"⟩ : MethodName) method_2_code 1 (some (.object "raciocinio/cli/ExitStatus")) :: ws) ({ frames := 0, cells := 0, slots := 0, locals := 0 } : Room)) (fun aa U => aa = #[(.int z)] ∧ Z.Warmed39 U.vm ∧ U.heap = h0) (fun _ _ _ _ _ => True) (fun _ U o U' => ∃ v L, o = .returned v ∧ Q1 (.ref (own_pk z uYES uNO uCANNOT_ANSWER)) h0 n0 v U'.heap L ∧ FrameEnd U o U' L ({ frames := 0, cells := 0, slots := 0, locals := 0 } : Room).cells ({ frames := 0, cells := 0, slots := 0, locals := 0 } : Room).slots) := by
  refine MetFree.of_bodySF (plainFor_of_name pn1) hisR ?_
  intro p e s m args below meth c s₁ Bd hml0 hP hK
  obtain ⟨rfl, hZ, hh⟩ := hP
  have hx := Bd.exec
  have hby := Bd.bytes
  have hlk : meth.locks = false := BodyLoose.notSynchronized Bd
  have hml : c.maxLocals = 1 := hml0
  have hown : s.vm.findClass "raciocinio/cli/ExitStatusWorstPinLaw" = some m.cls := findClass_of_methodNamed Bd.named
  have hnm := (name_of_methodNamed Bd.named Bd.method).1
  have X0 : Stand p l e ({ frames := 0, cells := 0, slots := 0, locals := 0 } : Room) s m #[(.int z)] below meth c s₁ [] 0 0 := Stand.of_body Bd
  have e0 : s₁.heap = h0 := by rw [← hh, Bd.state]; rfl
  have N0 := Fr.nil n0
  have ef : entryFrame m #[(.int z)] 1 = mkF m 0 #[iv z] [] := by first | (simp [entryFrame, mkF, argsToLocals, Value.category, maxLocals]; done) | rfl
  show Way p.tables e below (KQ s (Q1 (.ref (own_pk z uYES uNO uCANNOT_ANSWER)) h0 n0) ({ frames := 0, cells := 0, slots := 0, locals := 0 } : Room).cells ({ frames := 0, cells := 0, slots := 0, locals := 0 } : Room).slots) (s₁.setTop (entryFrame m #[(.int z)] 1))
  rw [ef]
  refine Way.by (fun _ k => XS.iloadN X0.here hx rfl (hb hby d1_0) rfl k) ?_
  show Way _ _ _ _ (s₁.setTop (mkF m 1 #[iv z] [(.int z)]))
  by_cases hz1 : z = (0 : Int32)
  · skip
    refine Way.by (fun _ k => XS.ifNo X0.here hx rfl (hb hby d1_1) rfl ((if0 .ne _).trans (teq hz1).2) k) ?_
    show Way _ _ _ _ (s₁.setTop (mkF m 4 #[iv z] []))
    obtain ⟨T1, X2, e3, st4⟩ := getS X0 hx hZ hown (host := "") (tw hw 5 rfl) Via.refl e0 SYES (g := (mkF m 4 #[iv z] [])) rfl (hb hby d1_4)
    refine Way.by st4 ?_
    show Way _ _ _ _ (T1.setTop (mkF m 7 #[iv z] [(.ref uYES)]))
    refine Way.ret (v := (some (.ref uYES))) X2 hlk (fun h => by rw [Bd.returns] at h; cases h) (fun fs hr => retOut X2 hx Bd.returns rfl (Or.inr (Or.inr (Or.inr (Or.inr ⟨rfl, rfl, rfl⟩)))) (hb hby d1_7) hr) ?_ (by decide) (by decide)
    show Q1 (.ref (own_pk z uYES uNO uCANNOT_ANSWER)) h0 n0 _ T1.heap _
    rw [e3]
    exact ⟨by simp [own_pk, *], N0, rfl⟩
  · skip
    refine Way.by (fun _ k => XS.ifYes X0.here hx rfl (pc0 := 1) (pc' := 8) rfl (hb hby d1_1) rfl ((if0 .ne _).trans (feq hz1).2) (by decide) (by decide) k) ?_
    show Way _ _ _ _ (s₁.setTop (mkF m 8 #[iv z] []))
    refine Way.by (fun _ k => XS.iloadN X0.here hx rfl (hb hby d1_8) rfl k) ?_
    show Way _ _ _ _ (s₁.setTop (mkF m 9 #[iv z] [(.int z)]))
    refine Way.by (fun _ k => XS.iconst X0.here hx rfl (hb hby d1_9) k) ?_
    show Way _ _ _ _ (s₁.setTop (mkF m 10 #[iv z] [(.int 1), (.int z)]))
    by_cases hz10 : z = (1 : Int32)
    · skip
      refine Way.by (fun _ k => XS.icmpNo X0.here hx rfl (hb hby d1_10) rfl (teq hz10).2 k) ?_
      show Way _ _ _ _ (s₁.setTop (mkF m 13 #[iv z] []))
      obtain ⟨T5, X6, e7, st8⟩ := getS X0 hx hZ hown (host := "") (tw hw 19 rfl) Via.refl e0 SNO (g := (mkF m 13 #[iv z] [])) rfl (hb hby d1_13)
      refine Way.by st8 ?_
      show Way _ _ _ _ (T5.setTop (mkF m 16 #[iv z] [(.ref uNO)]))
      refine Way.ret (v := (some (.ref uNO))) X6 hlk (fun h => by rw [Bd.returns] at h; cases h) (fun fs hr => retOut X6 hx Bd.returns rfl (Or.inr (Or.inr (Or.inr (Or.inr ⟨rfl, rfl, rfl⟩)))) (hb hby d1_16) hr) ?_ (by decide) (by decide)
      show Q1 (.ref (own_pk z uYES uNO uCANNOT_ANSWER)) h0 n0 _ T5.heap _
      rw [e7]
      exact ⟨by simp [own_pk, *], N0, rfl⟩
    · skip
      refine Way.by (fun _ k => XS.icmpYes X0.here hx rfl (pc0 := 10) (pc' := 17) rfl (hb hby d1_10) rfl (feq hz10).2 (by decide) (by decide) k) ?_
      show Way _ _ _ _ (s₁.setTop (mkF m 17 #[iv z] []))
      obtain ⟨T9, X10, e11, st12⟩ := getS X0 hx hZ hown (host := "") (tw hw 17 rfl) Via.refl e0 SCANNOT_ANSWER (g := (mkF m 17 #[iv z] [])) rfl (hb hby d1_17)
      refine Way.by st12 ?_
      show Way _ _ _ _ (T9.setTop (mkF m 20 #[iv z] [(.ref uCANNOT_ANSWER)]))
      refine Way.ret (v := (some (.ref uCANNOT_ANSWER))) X10 hlk (fun h => by rw [Bd.returns] at h; cases h) (fun fs hr => retOut X10 hx Bd.returns rfl (Or.inr (Or.inr (Or.inr (Or.inr ⟨rfl, rfl, rfl⟩)))) (hb hby d1_20) hr) ?_ (by decide) (by decide)
      show Q1 (.ref (own_pk z uYES uNO uCANNOT_ANSWER)) h0 n0 _ T9.heap _
      rw [e11]
      exact ⟨by simp [own_pk, *], N0, rfl⟩
theorem d2_0 : decode jdk_29_method_65_code 0 = .ok (.iload_n 0, 1) := by decide +kernel
theorem d2_1 : decode jdk_29_method_65_code 1 = .ok (.iload_n 1, 1) := by decide +kernel
theorem d2_2 : decode jdk_29_method_65_code 2 = .ok (.if_icmp .lt 7, 3) := by decide +kernel
theorem d2_5 : decode jdk_29_method_65_code 5 = .ok (.iload_n 0, 1) := by decide +kernel
theorem d2_6 : decode jdk_29_method_65_code 6 = .ok (.goto 4, 3) := by decide +kernel
theorem d2_9 : decode jdk_29_method_65_code 9 = .ok (.iload_n 1, 1) := by decide +kernel
theorem d2_10 : decode jdk_29_method_65_code 10 = .ok (.ireturn, 1) := by decide +kernel
theorem pn2 : plainFor (⟨"java/lang/Math", "max", "(II)I"⟩ : MethodName) = true := by decide +kernel
theorem pd2 : parseMethodDescriptor "(II)I" = some ⟨[.int, .int], some .int⟩ := by decide +kernel
set_option maxRecDepth 65536 in
set_option maxHeartbeats 40000000 in
theorem rm2 (l : Launch) (Z : State) (a0 : Array Value) (hw : ∀ d ∈ tables_1, d.before a0 Z = true) (ws : List Jvm.Cond) (x y : Int32) (h0 : Heap) (n0 : Nat) (Z0 : n0 ≤ h0.size)  :
    MetFree l (⟨"java/lang/Math", "max", "(II)I"⟩ : MethodName) (head1 (Jvm.Cond.code (⟨"java/lang/Math", "max", "(II)I"⟩ : MethodName) jdk_29_method_65_code 2 (some .int) :: ws) ({ frames := 0, cells := 0, slots := 0, locals := 0 } : Room)) (fun aa U => aa = #[(.int x), (.int y)] ∧ Z.Warmed39 U.vm ∧ U.heap = h0) (fun _ _ _ _ _ => True) (fun _ U o U' => ∃ v L, o = .returned v ∧ Q1 (.int (if x < y then y else x)) h0 n0 v U'.heap L ∧ FrameEnd U o U' L ({ frames := 0, cells := 0, slots := 0, locals := 0 } : Room).cells ({ frames := 0, cells := 0, slots := 0, locals := 0 } : Room).slots) := by
  refine MetFree.of_bodySF pn2 hisR ?_
  intro p e s m args below meth c s₁ Bd hml0 hP hK
  obtain ⟨rfl, hZ, hh⟩ := hP
  have hx := Bd.exec
  have hby := Bd.bytes
  have hlk : meth.locks = false := BodyLoose.notSynchronized Bd
  have hml : c.maxLocals = 2 := hml0
  have hown : s.vm.findClass "java/lang/Math" = some m.cls := findClass_of_methodNamed Bd.named
  have hnm := (name_of_methodNamed Bd.named Bd.method).1
  have X0 : Stand p l e ({ frames := 0, cells := 0, slots := 0, locals := 0 } : Room) s m #[(.int x), (.int y)] below meth c s₁ [] 0 0 := Stand.of_body Bd
  have e0 : s₁.heap = h0 := by rw [← hh, Bd.state]; rfl
  have N0 := Fr.nil n0
  have ef : entryFrame m #[(.int x), (.int y)] 2 = mkF m 0 #[iv x, iv y] [] := by first | (simp [entryFrame, mkF, argsToLocals, Value.category, maxLocals]; done) | rfl
  show Way p.tables e below (KQ s (Q1 (.int (if x < y then y else x)) h0 n0) ({ frames := 0, cells := 0, slots := 0, locals := 0 } : Room).cells ({ frames := 0, cells := 0, slots := 0, locals := 0 } : Room).slots) (s₁.setTop (entryFrame m #[(.int x), (.int y)] 2))
  rw [ef]
  refine Way.by (fun _ k => XS.iloadN X0.here hx rfl (hb hby d2_0) rfl k) ?_
  show Way _ _ _ _ (s₁.setTop (mkF m 1 #[iv x, iv y] [(.int x)]))
  refine Way.by (fun _ k => XS.iloadN X0.here hx rfl (hb hby d2_1) rfl k) ?_
  show Way _ _ _ _ (s₁.setTop (mkF m 2 #[iv x, iv y] [(.int y), (.int x)]))
  by_cases hz : x < y
  · skip
    refine Way.by (fun _ k => XS.icmpYes X0.here hx rfl (pc0 := 2) (pc' := 9) rfl (hb hby d2_2) rfl (tlt hz).1 (by decide) (by decide) k) ?_
    show Way _ _ _ _ (s₁.setTop (mkF m 9 #[iv x, iv y] []))
    refine Way.by (fun _ k => XS.iloadN X0.here hx rfl (hb hby d2_9) rfl k) ?_
    show Way _ _ _ _ (s₁.setTop (mkF m 10 #[iv x, iv y] [(.int y)]))
    refine Way.ret (v := (some (.int y))) X0 hlk (fun h => by rw [Bd.returns] at h; cases h) (fun fs hr => retI X0 hx Bd.returns (hb hby d2_10) hr) ?_ (by decide) (by decide)
    show Q1 (.int (if x < y then y else x)) h0 n0 _ s₁.heap _
    rw [e0]
    exact ⟨by simp [hz], N0, rfl⟩
  · skip
    refine Way.by (fun _ k => XS.icmpNo X0.here hx rfl (hb hby d2_2) rfl (flt hz).1 k) ?_
    show Way _ _ _ _ (s₁.setTop (mkF m 5 #[iv x, iv y] []))
    refine Way.by (fun _ k => XS.iloadN X0.here hx rfl (hb hby d2_5) rfl k) ?_
    show Way _ _ _ _ (s₁.setTop (mkF m 6 #[iv x, iv y] [(.int x)]))
    refine Way.by (fun _ k => XS.goto X0.here hx rfl (pc0 := 6) (pc' := 10) rfl (hb hby d2_6) (by decide) (by decide) k) ?_
    show Way _ _ _ _ (s₁.setTop (mkF m 10 #[iv x, iv y] [(.int x)]))
    refine Way.ret (v := (some (.int x))) X0 hlk (fun h => by rw [Bd.returns] at h; cases h) (fun fs hr => retI X0 hx Bd.returns (hb hby d2_10) hr) ?_ (by decide) (by decide)
    show Q1 (.int (if x < y then y else x)) h0 n0 _ s₁.heap _
    rw [e0]
    exact ⟨by simp [hz], N0, rfl⟩
theorem d3_0 : decode prog_2_method_5_code 0 = .ok (.aload_n 0, 1) := by decide +kernel
theorem d3_1 : decode prog_2_method_5_code 1 = .ok (.getfield 32, 3) := by decide +kernel
theorem d3_4 : decode prog_2_method_5_code 4 = .ok (.aload_n 1, 1) := by decide +kernel
theorem d3_5 : decode prog_2_method_5_code 5 = .ok (.getfield 32, 3) := by decide +kernel
theorem d3_8 : decode prog_2_method_5_code 8 = .ok (.if_icmp .lt 7, 3) := by decide +kernel
theorem d3_11 : decode prog_2_method_5_code 11 = .ok (.aload_n 0, 1) := by decide +kernel
theorem d3_12 : decode prog_2_method_5_code 12 = .ok (.goto 4, 3) := by decide +kernel
theorem d3_15 : decode prog_2_method_5_code 15 = .ok (.aload_n 1, 1) := by decide +kernel
theorem d3_16 : decode prog_2_method_5_code 16 = .ok (.areturn, 1) := by decide +kernel
theorem pn3 : plainName "raciocinio/cli/ExitStatus" = true := by first | (simp [plainName, overriddenIn]; done) | decide +kernel
theorem pd3 : parseMethodDescriptor "(Lraciocinio/cli/ExitStatus;Lraciocinio/cli/ExitStatus;)Lraciocinio/cli/ExitStatus;" = some ⟨[(.object "raciocinio/cli/ExitStatus"), (.object "raciocinio/cli/ExitStatus")], some (.object "raciocinio/cli/ExitStatus")⟩ := by decide +kernel
set_option maxRecDepth 65536 in
set_option maxHeartbeats 40000000 in
theorem rm3 (l : Launch) (Z : State) (a0 : Array Value) (hw : ∀ d ∈ tables_1, d.before a0 Z = true) (ws : List Jvm.Cond) (a b : Addr) (x y : Int32) (h0 : Heap) (n0 : Nat) (Z0 : n0 ≤ h0.size) (FA : Fld Z h0 a "raciocinio/cli/ExitStatus" "code" "I" (.int x)) (FB : Fld Z h0 b "raciocinio/cli/ExitStatus" "code" "I" (.int y)) :
    MetFree l (⟨"raciocinio/cli/ExitStatus", "worst", "(Lraciocinio/cli/ExitStatus;Lraciocinio/cli/ExitStatus;)Lraciocinio/cli/ExitStatus;"⟩ : MethodName) (head1 (Jvm.Cond.code (⟨"raciocinio/cli/ExitStatus", "worst", "(Lraciocinio/cli/ExitStatus;Lraciocinio/cli/ExitStatus;)Lraciocinio/cli/ExitStatus;"⟩ : MethodName) prog_2_method_5_code 2 (some (.object "raciocinio/cli/ExitStatus")) :: ws) ({ frames := 0, cells := 0, slots := 0, locals := 0 } : Room)) (fun aa U => aa = #[(.ref a), (.ref b)] ∧ Z.Warmed39 U.vm ∧ U.heap = h0) (fun _ _ _ _ _ => True) (fun _ U o U' => ∃ v L, o = .returned v ∧ Q1 (.ref (if x < y then b else a)) h0 n0 v U'.heap L ∧ FrameEnd U o U' L ({ frames := 0, cells := 0, slots := 0, locals := 0 } : Room).cells ({ frames := 0, cells := 0, slots := 0, locals := 0 } : Room).slots) := by
  refine MetFree.of_bodySF (plainFor_of_name pn3) hisR ?_
  intro p e s m args below meth c s₁ Bd hml0 hP hK
  obtain ⟨rfl, hZ, hh⟩ := hP
  have hx := Bd.exec
  have hby := Bd.bytes
  have hlk : meth.locks = false := BodyLoose.notSynchronized Bd
  have hml : c.maxLocals = 2 := hml0
  have hown : s.vm.findClass "raciocinio/cli/ExitStatus" = some m.cls := findClass_of_methodNamed Bd.named
  have hnm := (name_of_methodNamed Bd.named Bd.method).1
  have X0 : Stand p l e ({ frames := 0, cells := 0, slots := 0, locals := 0 } : Room) s m #[(.ref a), (.ref b)] below meth c s₁ [] 0 0 := Stand.of_body Bd
  have e0 : s₁.heap = h0 := by rw [← hh, Bd.state]; rfl
  have N0 := Fr.nil n0
  have ef : entryFrame m #[(.ref a), (.ref b)] 2 = mkF m 0 #[rv a, rv b] [] := by first | (simp [entryFrame, mkF, argsToLocals, Value.category, maxLocals]; done) | rfl
  show Way p.tables e below (KQ s (Q1 (.ref (if x < y then b else a)) h0 n0) ({ frames := 0, cells := 0, slots := 0, locals := 0 } : Room).cells ({ frames := 0, cells := 0, slots := 0, locals := 0 } : Room).slots) (s₁.setTop (entryFrame m #[(.ref a), (.ref b)] 2))
  rw [ef]
  refine Way.by (fun _ k => XS.aloadN X0.here hx rfl (hb hby d3_0) rfl rfl k) ?_
  show Way _ _ _ _ (s₁.setTop (mkF m 1 #[rv a, rv b] [(.ref a)]))
  obtain ⟨T1, X2, e3, st4⟩ := getF X0 hx hZ hown (host := "") (Or.inl (tw hw 15 rfl)) Via.refl e0 FA (g := (mkF m 1 #[rv a, rv b] [(.ref a)])) rfl rfl (hb hby d3_1)
  refine Way.by st4 ?_
  show Way _ _ _ _ (T1.setTop (mkF m 4 #[rv a, rv b] [(.int x)]))
  refine Way.by (fun _ k => XS.aloadN X2.here hx rfl (hb hby d3_4) rfl rfl k) ?_
  show Way _ _ _ _ (T1.setTop (mkF m 5 #[rv a, rv b] [(.ref b), (.int x)]))
  obtain ⟨T5, X6, e7, st8⟩ := getF X2 hx hZ hown (host := "") (Or.inl (tw hw 15 rfl)) Via.refl e3 FB (g := (mkF m 5 #[rv a, rv b] [(.ref b), (.int x)])) rfl rfl (hb hby d3_5)
  refine Way.by st8 ?_
  show Way _ _ _ _ (T5.setTop (mkF m 8 #[rv a, rv b] [(.int y), (.int x)]))
  by_cases hz : x < y
  · skip
    refine Way.by (fun _ k => XS.icmpYes X6.here hx rfl (pc0 := 8) (pc' := 15) rfl (hb hby d3_8) rfl (tlt hz).1 (by decide) (by decide) k) ?_
    show Way _ _ _ _ (T5.setTop (mkF m 15 #[rv a, rv b] []))
    refine Way.by (fun _ k => XS.aloadN X6.here hx rfl (hb hby d3_15) rfl rfl k) ?_
    show Way _ _ _ _ (T5.setTop (mkF m 16 #[rv a, rv b] [(.ref b)]))
    refine Way.ret (v := (some (.ref b))) X6 hlk (fun h => by rw [Bd.returns] at h; cases h) (fun fs hr => retOut X6 hx Bd.returns rfl (Or.inr (Or.inr (Or.inr (Or.inr ⟨rfl, rfl, rfl⟩)))) (hb hby d3_16) hr) ?_ (by decide) (by decide)
    show Q1 (.ref (if x < y then b else a)) h0 n0 _ T5.heap _
    rw [e7]
    exact ⟨by simp [hz], N0, rfl⟩
  · skip
    refine Way.by (fun _ k => XS.icmpNo X6.here hx rfl (hb hby d3_8) rfl (flt hz).1 k) ?_
    show Way _ _ _ _ (T5.setTop (mkF m 11 #[rv a, rv b] []))
    refine Way.by (fun _ k => XS.aloadN X6.here hx rfl (hb hby d3_11) rfl rfl k) ?_
    show Way _ _ _ _ (T5.setTop (mkF m 12 #[rv a, rv b] [(.ref a)]))
    refine Way.by (fun _ k => XS.goto X6.here hx rfl (pc0 := 12) (pc' := 16) rfl (hb hby d3_12) (by decide) (by decide) k) ?_
    show Way _ _ _ _ (T5.setTop (mkF m 16 #[rv a, rv b] [(.ref a)]))
    refine Way.ret (v := (some (.ref a))) X6 hlk (fun h => by rw [Bd.returns] at h; cases h) (fun fs hr => retOut X6 hx Bd.returns rfl (Or.inr (Or.inr (Or.inr (Or.inr ⟨rfl, rfl, rfl⟩)))) (hb hby d3_16) hr) ?_ (by decide) (by decide)
    show Q1 (.ref (if x < y then b else a)) h0 n0 _ T5.heap _
    rw [e7]
    exact ⟨by simp [hz], N0, rfl⟩
def Q0 (n0 : Nat) (v : Option Value) (h : Heap) (L : List Loc) : Prop := v = some (.int 1) ∧ Fr n0 L
theorem pn0 : plainName "raciocinio/cli/ExitStatusWorstPinLaw" = true := by first | (simp [plainName, overriddenIn]; done) | decide +kernel
theorem pd0 : parseMethodDescriptor "(II)Z" = some ⟨[.int, .int], some .boolean⟩ := by decide +kernel
set_option maxRecDepth 65536 in
set_option maxHeartbeats 40000000 in
theorem rm0 (l : Launch) (Z : State) (a0 : Array Value) (hw : ∀ d ∈ tables_1, d.before a0 Z = true) (ws : List Jvm.Cond) (p1 p2 : Int32) (uYES uNO uCANNOT_ANSWER : Addr) (h0 : Heap) (n0 : Nat) (Z0 : n0 ≤ h0.size) (SYES : Sta Z h0 "raciocinio/cli/ExitStatus" "YES" "Lraciocinio/cli/ExitStatus;" (.ref uYES)) (SNO : Sta Z h0 "raciocinio/cli/ExitStatus" "NO" "Lraciocinio/cli/ExitStatus;" (.ref uNO)) (SCANNOT_ANSWER : Sta Z h0 "raciocinio/cli/ExitStatus" "CANNOT_ANSWER" "Lraciocinio/cli/ExitStatus;" (.ref uCANNOT_ANSWER)) (FK : ∀ k : Int32, 0 ≤ k.toInt ∧ k.toInt < 3 → Fld Z h0 (own_pk k uYES uNO uCANNOT_ANSWER) "raciocinio/cli/ExitStatus" "code" "I" (.int k)) :
    MetFree l x (head1 (Jvm.Cond.code x code maxLocals ret :: ws) room_1) (fun aa U => aa = #[(.int p1), (.int p2)] ∧ Z.Warmed39 U.vm ∧ U.heap = h0) (fun _ _ _ _ _ => True) (fun _ U o U' => ∃ v L, o = .returned v ∧ Q0 n0 v U'.heap L ∧ FrameEnd U o U' L room_1.cells room_1.slots) := by
  refine MetFree.of_bodySF (plainFor_of_name pn0) hisR ?_
  intro p e s m args below meth c s₁ Bd hml0 hP hK
  obtain ⟨rfl, hZ, hh⟩ := hP
  have hx := Bd.exec
  have hby := Bd.bytes
  have hlk : meth.locks = false := BodyLoose.notSynchronized Bd
  have hml : c.maxLocals = 8 := hml0
  have hown : s.vm.findClass "raciocinio/cli/ExitStatusWorstPinLaw" = some m.cls := findClass_of_methodNamed Bd.named
  have hnm := (name_of_methodNamed Bd.named Bd.method).1
  have X0 : Stand p l e room_1 s m #[(.int p1), (.int p2)] below meth c s₁ [] 0 0 := Stand.of_body Bd
  have e0 : s₁.heap = h0 := by rw [← hh, Bd.state]; rfl
  have N0 := Fr.nil n0
  have ef : entryFrame m #[(.int p1), (.int p2)] maxLocals = mkF m 0 #[iv p1, iv p2, .unset, .unset, .unset, .unset, .unset, .unset] [] := by first | (simp [entryFrame, mkF, argsToLocals, Value.category, maxLocals]; done) | rfl
  show Way p.tables e below (KQ s (Q0 n0) room_1.cells room_1.slots) (s₁.setTop (entryFrame m #[(.int p1), (.int p2)] maxLocals))
  rw [ef]
  refine Way.by (fun _ k => XS.iloadN X0.here hx rfl (hb hby at_0) rfl k) ?_
  show Way _ _ _ _ (s₁.setTop (mkF m 1 #[iv p1, iv p2, .unset, .unset, .unset, .unset, .unset, .unset] [(.int p1)]))
  refine Way.by (Stand.ldcInt X0 hx hown (mvT hZ (tw hw 0 rfl)) rfl (hb hby at_1)) ?_
  show Way _ _ _ _ (s₁.setTop (mkF m 3 #[iv p1, iv p2, .unset, .unset, .unset, .unset, .unset, .unset] [(.int 2147483647), (.int p1)]))
  refine Way.by (fun _ k => XS.iand X0.here hx rfl (hb hby at_3) rfl k) ?_
  show Way _ _ _ _ (s₁.setTop (mkF m 4 #[iv p1, iv p2, .unset, .unset, .unset, .unset, .unset, .unset] [(.int (p1 &&& (2147483647 : Int32)))]))
  refine Way.by (fun _ k => XS.iconst X0.here hx rfl (hb hby at_4) k) ?_
  show Way _ _ _ _ (s₁.setTop (mkF m 5 #[iv p1, iv p2, .unset, .unset, .unset, .unset, .unset, .unset] [(.int 3), (.int (p1 &&& (2147483647 : Int32)))]))
  refine Way.by (fun _ k => iremM X0 hx rfl (hb hby at_5) rfl (by decide) k) ?_
  show Way _ _ _ _ (s₁.setTop (mkF m 6 #[iv p1, iv p2, .unset, .unset, .unset, .unset, .unset, .unset] [(.int ((p1 &&& (2147483647 : Int32)) % (3 : Int32)))]))
  refine Way.by (fun _ k => XS.istoreN X0.here hx rfl (hb hby at_6) rfl (l' := #[iv p1, iv p2, iv ((p1 &&& (2147483647 : Int32)) % (3 : Int32)), .unset, .unset, .unset, .unset, .unset]) rfl k) ?_
  show Way _ _ _ _ (s₁.setTop (mkF m 7 #[iv p1, iv p2, iv ((p1 &&& (2147483647 : Int32)) % (3 : Int32)), .unset, .unset, .unset, .unset, .unset] []))
  obtain ⟨i, qi⟩ : ∃ z, z = (p1 &&& (2147483647 : Int32)) % (3 : Int32) := ⟨_, rfl⟩
  rw [← qi]
  have hi : 0 ≤ i.toInt ∧ i.toInt < 3 := by rw [qi]; exact remB p1 3 3 rfl (by decide)
  show Way _ _ _ _ (s₁.setTop (mkF m 7 #[iv p1, iv p2, iv i, .unset, .unset, .unset, .unset, .unset] []))
  refine Way.by (fun _ k => XS.iloadN X0.here hx rfl (hb hby at_7) rfl k) ?_
  show Way _ _ _ _ (s₁.setTop (mkF m 8 #[iv p1, iv p2, iv i, .unset, .unset, .unset, .unset, .unset] [(.int p2)]))
  refine Way.by (Stand.ldcInt X0 hx hown (mvT hZ (tw hw 0 rfl)) rfl (hb hby at_8)) ?_
  show Way _ _ _ _ (s₁.setTop (mkF m 10 #[iv p1, iv p2, iv i, .unset, .unset, .unset, .unset, .unset] [(.int 2147483647), (.int p2)]))
  refine Way.by (fun _ k => XS.iand X0.here hx rfl (hb hby at_10) rfl k) ?_
  show Way _ _ _ _ (s₁.setTop (mkF m 11 #[iv p1, iv p2, iv i, .unset, .unset, .unset, .unset, .unset] [(.int (p2 &&& (2147483647 : Int32)))]))
  refine Way.by (fun _ k => XS.iconst X0.here hx rfl (hb hby at_11) k) ?_
  show Way _ _ _ _ (s₁.setTop (mkF m 12 #[iv p1, iv p2, iv i, .unset, .unset, .unset, .unset, .unset] [(.int 3), (.int (p2 &&& (2147483647 : Int32)))]))
  refine Way.by (fun _ k => iremM X0 hx rfl (hb hby at_12) rfl (by decide) k) ?_
  show Way _ _ _ _ (s₁.setTop (mkF m 13 #[iv p1, iv p2, iv i, .unset, .unset, .unset, .unset, .unset] [(.int ((p2 &&& (2147483647 : Int32)) % (3 : Int32)))]))
  refine Way.by (fun _ k => XS.istoreN X0.here hx rfl (hb hby at_13) rfl (l' := #[iv p1, iv p2, iv i, iv ((p2 &&& (2147483647 : Int32)) % (3 : Int32)), .unset, .unset, .unset, .unset]) rfl k) ?_
  show Way _ _ _ _ (s₁.setTop (mkF m 14 #[iv p1, iv p2, iv i, iv ((p2 &&& (2147483647 : Int32)) % (3 : Int32)), .unset, .unset, .unset, .unset] []))
  obtain ⟨j, qj⟩ : ∃ z, z = (p2 &&& (2147483647 : Int32)) % (3 : Int32) := ⟨_, rfl⟩
  rw [← qj]
  have hj : 0 ≤ j.toInt ∧ j.toInt < 3 := by rw [qj]; exact remB p2 3 3 rfl (by decide)
  show Way _ _ _ _ (s₁.setTop (mkF m 14 #[iv p1, iv p2, iv i, iv j, .unset, .unset, .unset, .unset] []))
  refine Way.by (fun _ k => XS.iloadN X0.here hx rfl (hb hby at_14) rfl k) ?_
  show Way _ _ _ _ (s₁.setTop (mkF m 15 #[iv p1, iv p2, iv i, iv j, .unset, .unset, .unset, .unset] [(.int i)]))
  obtain ⟨_, _, ⟨T1, L3, k4, n5⟩, -, X2, ⟨Lc6, hQ7, l8, y9, z10⟩, st11⟩ := Jvm.LawKit.callS X0 hx (y := (⟨"raciocinio/cli/ExitStatusWorstPinLaw", "pick", "(I)Lraciocinio/cli/ExitStatus;"⟩ : MethodName)) hown (mvT hZ (tw hw 1 rfl)) (mvT hZ (tw hw 2 rfl)) (mvT hZ (tw hw 3 rfl)) (mvT hZ (tw hw 4 rfl)) (by decide) (backOf (W := 0) (rm1 l Z a0 hw [] i uYES uNO uCANNOT_ANSWER h0 n0 Z0 SYES SNO SCANNOT_ANSWER) hZ (tw hw 4 rfl) (tw hw 3 rfl) (by decide) (by decide)) (g := (mkF m 15 #[iv p1, iv p2, iv i, iv j, .unset, .unset, .unset, .unset] [(.int i)])) rfl (by rw [hml]; rfl) (argsL := [(.int i)]) (rest := []) (lenOf pd1 rfl) rfl (by show 2 * 0 + _ ≤ _; exact Nat.le_of_eq rfl) (hb hby at_15) (fun _ _ => ⟨rfl, e0, (Nat.le_of_ble_eq_true rfl), (Nat.le_of_ble_eq_true rfl)⟩)
  dsimp only [Pt.U, Pt.locs, Pt.cells, Pt.slots] at X2 l8 y9 z10 st11 hQ7
  subst l8 y9 z10
  obtain ⟨rfl, N17, e13⟩ := hQ7
  have N12 := Fr.app N0 N17
  refine Way.by st11 ?_
  show Way _ _ _ _ (T1.setTop (mkF m 18 #[iv p1, iv p2, iv i, iv j, .unset, .unset, .unset, .unset] [(.ref (own_pk i uYES uNO uCANNOT_ANSWER))]))
  refine Way.by (fun _ k => XS.astore X2.here hx rfl (hb hby at_18) rfl rfl (l' := #[iv p1, iv p2, iv i, iv j, rv (own_pk i uYES uNO uCANNOT_ANSWER), .unset, .unset, .unset]) rfl k) ?_
  show Way _ _ _ _ (T1.setTop (mkF m 20 #[iv p1, iv p2, iv i, iv j, rv (own_pk i uYES uNO uCANNOT_ANSWER), .unset, .unset, .unset] []))
  refine Way.by (fun _ k => XS.iloadN X2.here hx rfl (hb hby at_20) rfl k) ?_
  show Way _ _ _ _ (T1.setTop (mkF m 21 #[iv p1, iv p2, iv i, iv j, rv (own_pk i uYES uNO uCANNOT_ANSWER), .unset, .unset, .unset] [(.int j)]))
  obtain ⟨_, _, ⟨T19, L21, k22, n23⟩, -, X20, ⟨Lc24, hQ25, l26, y27, z28⟩, st29⟩ := Jvm.LawKit.callS X2 hx (y := (⟨"raciocinio/cli/ExitStatusWorstPinLaw", "pick", "(I)Lraciocinio/cli/ExitStatus;"⟩ : MethodName)) hown (mvT hZ (tw hw 1 rfl)) (mvT hZ (tw hw 2 rfl)) (mvT hZ (tw hw 3 rfl)) (mvT hZ (tw hw 4 rfl)) (by decide) (backOf (W := 0) (rm1 l Z a0 hw [] j uYES uNO uCANNOT_ANSWER h0 n0 Z0 SYES SNO SCANNOT_ANSWER) hZ (tw hw 4 rfl) (tw hw 3 rfl) (by decide) (by decide)) (g := (mkF m 21 #[iv p1, iv p2, iv i, iv j, rv (own_pk i uYES uNO uCANNOT_ANSWER), .unset, .unset, .unset] [(.int j)])) rfl (by rw [hml]; rfl) (argsL := [(.int j)]) (rest := []) (lenOf pd1 rfl) rfl (by show 2 * 0 + _ ≤ _; exact Nat.le_of_eq rfl) (hb hby at_21) (fun _ _ => ⟨rfl, e13, (Nat.le_of_ble_eq_true rfl), (Nat.le_of_ble_eq_true rfl)⟩)
  dsimp only [Pt.U, Pt.locs, Pt.cells, Pt.slots] at X20 l26 y27 z28 st29 hQ25
  subst l26 y27 z28
  obtain ⟨rfl, N35, e31⟩ := hQ25
  have N30 := Fr.app N12 N35
  refine Way.by st29 ?_
  show Way _ _ _ _ (T19.setTop (mkF m 24 #[iv p1, iv p2, iv i, iv j, rv (own_pk i uYES uNO uCANNOT_ANSWER), .unset, .unset, .unset] [(.ref (own_pk j uYES uNO uCANNOT_ANSWER))]))
  refine Way.by (fun _ k => XS.astore X20.here hx rfl (hb hby at_24) rfl rfl (l' := #[iv p1, iv p2, iv i, iv j, rv (own_pk i uYES uNO uCANNOT_ANSWER), rv (own_pk j uYES uNO uCANNOT_ANSWER), .unset, .unset]) rfl k) ?_
  show Way _ _ _ _ (T19.setTop (mkF m 26 #[iv p1, iv p2, iv i, iv j, rv (own_pk i uYES uNO uCANNOT_ANSWER), rv (own_pk j uYES uNO uCANNOT_ANSWER), .unset, .unset] []))
  refine Way.by (fun _ k => XS.iloadN X20.here hx rfl (hb hby at_26) rfl k) ?_
  show Way _ _ _ _ (T19.setTop (mkF m 27 #[iv p1, iv p2, iv i, iv j, rv (own_pk i uYES uNO uCANNOT_ANSWER), rv (own_pk j uYES uNO uCANNOT_ANSWER), .unset, .unset] [(.int i)]))
  refine Way.by (fun _ k => XS.iloadN X20.here hx rfl (hb hby at_27) rfl k) ?_
  show Way _ _ _ _ (T19.setTop (mkF m 28 #[iv p1, iv p2, iv i, iv j, rv (own_pk i uYES uNO uCANNOT_ANSWER), rv (own_pk j uYES uNO uCANNOT_ANSWER), .unset, .unset] [(.int j), (.int i)]))
  obtain ⟨_, _, ⟨T37, L39, k40, n41⟩, -, X38, ⟨Lc42, hQ43, l44, y45, z46⟩, st47⟩ := Jvm.LawKit.callS X20 hx (y := (⟨"java/lang/Math", "max", "(II)I"⟩ : MethodName)) hown (mvT hZ (tw hw 8 rfl)) (mvT hZ (tw hw 9 rfl)) (mvT hZ (tw hw 10 rfl)) (mvT hZ (tw hw 11 rfl)) (by decide) (backOf (W := 0) (rm2 l Z a0 hw [] i j h0 n0 Z0) hZ (tw hw 11 rfl) (tw hw 10 rfl) (by decide) (by decide)) (g := (mkF m 28 #[iv p1, iv p2, iv i, iv j, rv (own_pk i uYES uNO uCANNOT_ANSWER), rv (own_pk j uYES uNO uCANNOT_ANSWER), .unset, .unset] [(.int j), (.int i)])) rfl (by rw [hml]; rfl) (argsL := [(.int i), (.int j)]) (rest := []) (lenOf pd2 rfl) rfl (by show 2 * 0 + _ ≤ _; exact Nat.le_of_eq rfl) (hb hby at_28) (fun _ _ => ⟨rfl, e31, (Nat.le_of_ble_eq_true rfl), (Nat.le_of_ble_eq_true rfl)⟩)
  dsimp only [Pt.U, Pt.locs, Pt.cells, Pt.slots] at X38 l44 y45 z46 st47 hQ43
  subst l44 y45 z46
  obtain ⟨rfl, N53, e49⟩ := hQ43
  have N48 := Fr.app N30 N53
  refine Way.by st47 ?_
  show Way _ _ _ _ (T37.setTop (mkF m 31 #[iv p1, iv p2, iv i, iv j, rv (own_pk i uYES uNO uCANNOT_ANSWER), rv (own_pk j uYES uNO uCANNOT_ANSWER), .unset, .unset] [(.int (if i < j then j else i))]))
  obtain ⟨_, _, ⟨T55, L57, k58, n59⟩, -, X56, ⟨Lc60, hQ61, l62, y63, z64⟩, st65⟩ := Jvm.LawKit.callS X38 hx (y := (⟨"raciocinio/cli/ExitStatusWorstPinLaw", "pick", "(I)Lraciocinio/cli/ExitStatus;"⟩ : MethodName)) hown (mvT hZ (tw hw 1 rfl)) (mvT hZ (tw hw 2 rfl)) (mvT hZ (tw hw 3 rfl)) (mvT hZ (tw hw 4 rfl)) (by decide) (backOf (W := 0) (rm1 l Z a0 hw [] (if i < j then j else i) uYES uNO uCANNOT_ANSWER h0 n0 Z0 SYES SNO SCANNOT_ANSWER) hZ (tw hw 4 rfl) (tw hw 3 rfl) (by decide) (by decide)) (g := (mkF m 31 #[iv p1, iv p2, iv i, iv j, rv (own_pk i uYES uNO uCANNOT_ANSWER), rv (own_pk j uYES uNO uCANNOT_ANSWER), .unset, .unset] [(.int (if i < j then j else i))])) rfl (by rw [hml]; rfl) (argsL := [(.int (if i < j then j else i))]) (rest := []) (lenOf pd1 rfl) rfl (by show 2 * 0 + _ ≤ _; exact Nat.le_of_eq rfl) (hb hby at_31) (fun _ _ => ⟨rfl, e49, (Nat.le_of_ble_eq_true rfl), (Nat.le_of_ble_eq_true rfl)⟩)
  dsimp only [Pt.U, Pt.locs, Pt.cells, Pt.slots] at X56 l62 y63 z64 st65 hQ61
  subst l62 y63 z64
  obtain ⟨rfl, N71, e67⟩ := hQ61
  have N66 := Fr.app N48 N71
  refine Way.by st65 ?_
  show Way _ _ _ _ (T55.setTop (mkF m 34 #[iv p1, iv p2, iv i, iv j, rv (own_pk i uYES uNO uCANNOT_ANSWER), rv (own_pk j uYES uNO uCANNOT_ANSWER), .unset, .unset] [(.ref (own_pk (if i < j then j else i) uYES uNO uCANNOT_ANSWER))]))
  refine Way.by (fun _ k => XS.astore X56.here hx rfl (hb hby at_34) rfl rfl (l' := #[iv p1, iv p2, iv i, iv j, rv (own_pk i uYES uNO uCANNOT_ANSWER), rv (own_pk j uYES uNO uCANNOT_ANSWER), rv (own_pk (if i < j then j else i) uYES uNO uCANNOT_ANSWER), .unset]) rfl k) ?_
  show Way _ _ _ _ (T55.setTop (mkF m 36 #[iv p1, iv p2, iv i, iv j, rv (own_pk i uYES uNO uCANNOT_ANSWER), rv (own_pk j uYES uNO uCANNOT_ANSWER), rv (own_pk (if i < j then j else i) uYES uNO uCANNOT_ANSWER), .unset] []))
  refine Way.by (fun _ k => XS.aload X56.here hx rfl (hb hby at_36) rfl rfl k) ?_
  show Way _ _ _ _ (T55.setTop (mkF m 38 #[iv p1, iv p2, iv i, iv j, rv (own_pk i uYES uNO uCANNOT_ANSWER), rv (own_pk j uYES uNO uCANNOT_ANSWER), rv (own_pk (if i < j then j else i) uYES uNO uCANNOT_ANSWER), .unset] [(.ref (own_pk i uYES uNO uCANNOT_ANSWER))]))
  refine Way.by (fun _ k => XS.aload X56.here hx rfl (hb hby at_38) rfl rfl k) ?_
  show Way _ _ _ _ (T55.setTop (mkF m 40 #[iv p1, iv p2, iv i, iv j, rv (own_pk i uYES uNO uCANNOT_ANSWER), rv (own_pk j uYES uNO uCANNOT_ANSWER), rv (own_pk (if i < j then j else i) uYES uNO uCANNOT_ANSWER), .unset] [(.ref (own_pk j uYES uNO uCANNOT_ANSWER)), (.ref (own_pk i uYES uNO uCANNOT_ANSWER))]))
  obtain ⟨_, _, ⟨T73, L75, k76, n77⟩, -, X74, ⟨Lc78, hQ79, l80, y81, z82⟩, st83⟩ := Jvm.LawKit.callS X56 hx (y := (⟨"raciocinio/cli/ExitStatus", "worst", "(Lraciocinio/cli/ExitStatus;Lraciocinio/cli/ExitStatus;)Lraciocinio/cli/ExitStatus;"⟩ : MethodName)) hown (mvT hZ (tw hw 12 rfl)) (mvT hZ (tw hw 13 rfl)) (mvT hZ (tw hw 6 rfl)) (mvT hZ (tw hw 14 rfl)) (by decide) (backOf (W := 0) (rm3 l Z a0 hw [] (own_pk i uYES uNO uCANNOT_ANSWER) (own_pk j uYES uNO uCANNOT_ANSWER) i j h0 n0 Z0 (FK i hi) (FK j hj)) hZ (tw hw 14 rfl) (tw hw 6 rfl) (by decide) (by decide)) (g := (mkF m 40 #[iv p1, iv p2, iv i, iv j, rv (own_pk i uYES uNO uCANNOT_ANSWER), rv (own_pk j uYES uNO uCANNOT_ANSWER), rv (own_pk (if i < j then j else i) uYES uNO uCANNOT_ANSWER), .unset] [(.ref (own_pk j uYES uNO uCANNOT_ANSWER)), (.ref (own_pk i uYES uNO uCANNOT_ANSWER))])) rfl (by rw [hml]; rfl) (argsL := [(.ref (own_pk i uYES uNO uCANNOT_ANSWER)), (.ref (own_pk j uYES uNO uCANNOT_ANSWER))]) (rest := []) (lenOf pd3 rfl) rfl (by show 2 * 0 + _ ≤ _; exact Nat.le_of_eq rfl) (hb hby at_40) (fun _ _ => ⟨rfl, e67, (Nat.le_of_ble_eq_true rfl), (Nat.le_of_ble_eq_true rfl)⟩)
  dsimp only [Pt.U, Pt.locs, Pt.cells, Pt.slots] at X74 l80 y81 z82 st83 hQ79
  subst l80 y81 z82
  obtain ⟨rfl, N89, e85⟩ := hQ79
  have N84 := Fr.app N66 N89
  refine Way.by st83 ?_
  show Way _ _ _ _ (T73.setTop (mkF m 43 #[iv p1, iv p2, iv i, iv j, rv (own_pk i uYES uNO uCANNOT_ANSWER), rv (own_pk j uYES uNO uCANNOT_ANSWER), rv (own_pk (if i < j then j else i) uYES uNO uCANNOT_ANSWER), .unset] [(.ref (if i < j then (own_pk j uYES uNO uCANNOT_ANSWER) else (own_pk i uYES uNO uCANNOT_ANSWER)))]))
  refine Way.by (fun _ k => XS.astore X74.here hx rfl (hb hby at_43) rfl rfl (l' := #[iv p1, iv p2, iv i, iv j, rv (own_pk i uYES uNO uCANNOT_ANSWER), rv (own_pk j uYES uNO uCANNOT_ANSWER), rv (own_pk (if i < j then j else i) uYES uNO uCANNOT_ANSWER), rv (if i < j then (own_pk j uYES uNO uCANNOT_ANSWER) else (own_pk i uYES uNO uCANNOT_ANSWER))]) rfl k) ?_
  show Way _ _ _ _ (T73.setTop (mkF m 45 #[iv p1, iv p2, iv i, iv j, rv (own_pk i uYES uNO uCANNOT_ANSWER), rv (own_pk j uYES uNO uCANNOT_ANSWER), rv (own_pk (if i < j then j else i) uYES uNO uCANNOT_ANSWER), rv (if i < j then (own_pk j uYES uNO uCANNOT_ANSWER) else (own_pk i uYES uNO uCANNOT_ANSWER))] []))
  refine Way.by (fun _ k => XS.aload X74.here hx rfl (hb hby at_45) rfl rfl k) ?_
  show Way _ _ _ _ (T73.setTop (mkF m 47 #[iv p1, iv p2, iv i, iv j, rv (own_pk i uYES uNO uCANNOT_ANSWER), rv (own_pk j uYES uNO uCANNOT_ANSWER), rv (own_pk (if i < j then j else i) uYES uNO uCANNOT_ANSWER), rv (if i < j then (own_pk j uYES uNO uCANNOT_ANSWER) else (own_pk i uYES uNO uCANNOT_ANSWER))] [(.ref (if i < j then (own_pk j uYES uNO uCANNOT_ANSWER) else (own_pk i uYES uNO uCANNOT_ANSWER)))]))
  refine Way.by (fun _ k => XS.aload X74.here hx rfl (hb hby at_47) rfl rfl k) ?_
  show Way _ _ _ _ (T73.setTop (mkF m 49 #[iv p1, iv p2, iv i, iv j, rv (own_pk i uYES uNO uCANNOT_ANSWER), rv (own_pk j uYES uNO uCANNOT_ANSWER), rv (own_pk (if i < j then j else i) uYES uNO uCANNOT_ANSWER), rv (if i < j then (own_pk j uYES uNO uCANNOT_ANSWER) else (own_pk i uYES uNO uCANNOT_ANSWER))] [(.ref (own_pk (if i < j then j else i) uYES uNO uCANNOT_ANSWER)), (.ref (if i < j then (own_pk j uYES uNO uCANNOT_ANSWER) else (own_pk i uYES uNO uCANNOT_ANSWER)))]))
  have b91 : (if i < j then (own_pk j uYES uNO uCANNOT_ANSWER) else (own_pk i uYES uNO uCANNOT_ANSWER)) = (own_pk (if i < j then j else i) uYES uNO uCANNOT_ANSWER) := by unfold own_pk; split <;> rfl
  refine Way.by (fun _ k => acmp X74 hx rfl rfl rfl (pc0 := 49) (pc' := 52) (same := true) rfl (hb hby at_49) rfl (by simp [b91]) (by decide) (by decide) k) ?_
  show Way _ _ _ _ (T73.setTop (mkF m 52 #[iv p1, iv p2, iv i, iv j, rv (own_pk i uYES uNO uCANNOT_ANSWER), rv (own_pk j uYES uNO uCANNOT_ANSWER), rv (own_pk (if i < j then j else i) uYES uNO uCANNOT_ANSWER), rv (if i < j then (own_pk j uYES uNO uCANNOT_ANSWER) else (own_pk i uYES uNO uCANNOT_ANSWER))] []))
  refine Way.by (fun _ k => XS.iconst X74.here hx rfl (hb hby at_52) k) ?_
  show Way _ _ _ _ (T73.setTop (mkF m 53 #[iv p1, iv p2, iv i, iv j, rv (own_pk i uYES uNO uCANNOT_ANSWER), rv (own_pk j uYES uNO uCANNOT_ANSWER), rv (own_pk (if i < j then j else i) uYES uNO uCANNOT_ANSWER), rv (if i < j then (own_pk j uYES uNO uCANNOT_ANSWER) else (own_pk i uYES uNO uCANNOT_ANSWER))] [(.int 1)]))
  refine Way.by (fun _ k => XS.goto X74.here hx rfl (pc0 := 53) (pc' := 57) rfl (hb hby at_53) (by decide) (by decide) k) ?_
  show Way _ _ _ _ (T73.setTop (mkF m 57 #[iv p1, iv p2, iv i, iv j, rv (own_pk i uYES uNO uCANNOT_ANSWER), rv (own_pk j uYES uNO uCANNOT_ANSWER), rv (own_pk (if i < j then j else i) uYES uNO uCANNOT_ANSWER), rv (if i < j then (own_pk j uYES uNO uCANNOT_ANSWER) else (own_pk i uYES uNO uCANNOT_ANSWER))] [(.int 1)]))
  refine Way.ret (v := (some (.int (nar .boolean (1 : Int32))))) X74 hlk (fun h => by rw [Bd.returns] at h; cases h) (fun fs hr => retN X74 hx (t := .boolean) Bd.returns (by simp) (hb hby at_57) hr) ?_ (by decide) (by decide)
  show Q0 n0 _ T73.heap _
  rw [e85]
  exact ⟨rfl, N84⟩
set_option maxRecDepth 65536 in
set_option maxHeartbeats 40000000 in
theorem comes_1 {Post : Tables → Env → Array Value → State → Outcome → State → Prop} (hpost : ∀ tb e args s v u, (limb_1_1.after args s (.returned v) u = true ∧ limb_1_2.after args s (.returned v) u = true ∧ True) → FrameEnd s (.returned v) u (Jvm.fieldLocs frame_1_writes args s ++ Jvm.arrayLocs frame_1_arrays args s ++ Jvm.staticLocs frame_1_statics s) 0 0 → Post tb e args s (.returned v) u) :
    ArmFor flags0 classFile x code maxLocals ret World_1 tables_1 room_1 Calls_1 rest_1 Pre_1 Post := by
  intro l hfl _ _ p e ha hc hk s m args below hf hA hF happ hP
  obtain ⟨hcalls, hrest, hpre⟩ := hP
  obtain ⟨-, -, -, hnamed, -, -, -, hat⟩ := (Spec.applies_iff hf).mp happ
  obtain ⟨hg, hn⟩ := and_e (Cond.before_iff.mp (show (Jvm.Cond.and given_1 narrow_1).before args s = true from hpre))
  obtain ⟨hg0, hgr0⟩ := and_e hg
  obtain ⟨hg1, hgr1⟩ := and_e hgr0
  obtain ⟨w0, w1, rfl⟩ : ∃ w0 w1 : Value, args = #[w0, w1] := by
    have hs : args.size = 2 := by simpa [Cond.value, given_1] using hg0
    obtain ⟨L⟩ := args
    match L, hs with
    | [w0, w1], _ => exact ⟨w0, w1, rfl⟩
  have hw := fun d (hd : d ∈ tables_1) => atoms_spec (ws := Jvm.Cond.code x code maxLocals ret :: tables_1) hat d (List.mem_cons_of_mem _ hd)
  have hfit : Fit s := fun {y c} hc i hi => by
    obtain ⟨ha, rfl⟩ := Array.getElem?_eq_some_iff.mp hc
    have q := List.all_eq_true.mp ((Array.all_eq_true_iff_forall_mem.mp hF) _ (Array.getElem_mem ha)) i (List.mem_range.mpr hi)
    simpa [Array.getElem?_eq_getElem hi] using q
  obtain ⟨i0, ei0⟩ := is_v hg1
  obtain rfl : w0 = (.int i0) := Option.some.inj ei0
  obtain ⟨i1, ei1⟩ := is_v hgr1
  obtain rfl : w1 = (.int i1) := Option.some.inj ei1
  obtain ⟨hn0, hnr0⟩ := and_e hn
  obtain ⟨hn1, hnr1⟩ := and_e hnr0
  obtain ⟨hn2, hnr2⟩ := and_e hnr1
  obtain ⟨hn3, hnr3⟩ := and_e hnr2
  obtain ⟨hn4, hnr4⟩ := and_e hnr3
  obtain ⟨uYES, _, _, _, evYES, -⟩ := Cond.exactly_spec (Cond.before_iff.mpr hn0)
  have SYES := Sta.start evYES (Or.inr ⟨(tw hw 6 rfl), (tw hw 7 rfl)⟩)
  have EYES := Exa.start evYES hn0
  obtain ⟨uCANNOT_ANSWER, _, _, _, evCANNOT_ANSWER, -⟩ := Cond.exactly_spec (Cond.before_iff.mpr hn2)
  have SCANNOT_ANSWER := Sta.start evCANNOT_ANSWER (Or.inr ⟨(tw hw 6 rfl), (tw hw 18 rfl)⟩)
  have ECANNOT_ANSWER := Exa.start evCANNOT_ANSWER hn2
  obtain ⟨uNO, _, _, _, evNO, -⟩ := Cond.exactly_spec (Cond.before_iff.mpr hn3)
  have SNO := Sta.start evNO (Or.inr ⟨(tw hw 6 rfl), (tw hw 20 rfl)⟩)
  have ENO := Exa.start evNO hn3
  have FYES_code := fldStart evYES hn1
  have FCANNOT_ANSWER_code := fldStart evCANNOT_ANSWER hn4
  have FNO_code := fldStart evNO hnr4
  have FK : ∀ k : Int32, 0 ≤ k.toInt ∧ k.toInt < 3 → Fld s s.heap (own_pk k uYES uNO uCANNOT_ANSWER) "raciocinio/cli/ExitStatus" "code" "I" (.int k) := fun k hk => by
    rcases cases3 hk with rfl | rfl | rfl
    · exact FYES_code
    · exact FNO_code
    · exact FCANNOT_ANSWER_code
  obtain ⟨n, o, h1, h2, h3, _, L, rfl, ⟨rfl, N⟩, hq⟩ := rm0 l s _ hw tables_1 i0 i1 uYES uNO uCANNOT_ANSWER s.heap s.heap.size (Nat.le_refl _) SYES SNO SCANNOT_ANSWER FK p e ha hc hk s m _ below hf ((Spec.applies_iff_loose hf).mp happ).1 ⟨rfl, State.Warmed39.refl s, rfl⟩ trivial
  refine ⟨n, _, h1, h2, h3, hpost _ _ _ _ _ _ ⟨Cond.after_iff.mpr rfl, Cond.after_iff.mpr (eq_i res_at (Term.int_eval (1)) rfl), trivial⟩ ⟨hq.1, hq.2.1, (hq.2.2.sift fun y hy => Or.inr (N y hy)).mono (by decide) (by decide)⟩⟩
theorem main_1_1 : Claimed_1_1 := comes_1 fun _ _ _ _ _ _ h hF => ⟨h.1, hF⟩
theorem main_1_2 : Claimed_1_2 := comes_1 fun _ _ _ _ _ _ h hF => ⟨h.2.1, hF⟩
end Jvm.Pilot.@@N@@
namespace Jvm.Pilot.@@N@@
open Jvm Jvm.ClassFile Sem Op Lib Jvm.Free Jvm.Stand Jvm.Pilot.@@N@@.Jvm.D
/-! MADE BY PROGRAM (witnessworld.py) out of the Statement's table words and the real class files: 11 classes; the members and pool entries that the words name. The judged class is class 1, her method 2. -/
namespace start1
open Jvm.ClassFile
def u (s : String) : CpInfo := .utf8 (stringToUtf16 s)
/-- a pool by its gaps: so many unusable entries, then the entry; so many at the end -/
def gap : Nat → List CpInfo → List CpInfo
  | 0, r => r
  | n + 1, r => .unusable :: gap n r
def poolList (es : List (Nat × CpInfo)) (last : Nat) : List CpInfo := es.foldr (fun e r => gap e.1 (e.2 :: r)) (gap last [])
def pool (es : List (Nat × CpInfo)) (last : Nat) : Array CpInfo := ⟨poolList es last⟩
def fileOf (pool : Array CpInfo) (this : Nat) (attrs : Array Attribute := #[]) (ms : Array MethodInfo := #[]) (fl : Nat := 33) (sup : Nat := 0) (ifs : Array Nat := #[]) (fds : Array FieldInfo := #[]) : ClassFile where
  minorVersion := 0
  majorVersion := 65
  constantPool := pool
  accessFlags := fl
  thisClass := this
  superClass := sup
  interfaces := ifs
  fields := fds
  methods := ms
  attributes := attrs
def plain (name : String) (sup : Option ClassId) : Class where
  name := name
  kind := .ordinary
  loader := none
  accessFlags := 33
  super := sup
  interfaces := #[]
  cf := none
  fields := #[]
  methods := #[]
  instanceTypes := #[]
  staticTypes := #[]
  resolved := #[]
  callSites := []
  init := .initialized
  statics := none
  mirror := none

def pool0 : Array CpInfo := pool [(5, u "<init>"), (0, u "()V"), (1, .class_ 10), (1, u "java/lang/Object")] 113

def k0m0 : Method := { name := "<init>", desc := "()V", sig := { parameters := [], returnType := none }, accessFlags := 1, code := none }
/-- java/lang/Object -/
def k0 : Class := { plain "java/lang/Object" none with
  accessFlags := 33
  interfaces := #[]
  cf := some (fileOf pool0 8 #[] #[{ accessFlags := 1, nameIndex := 5, descriptorIndex := 6, attributes := #[] }] 33 0 #[] #[])
  fields := #[]
  methods := #[k0m0]
  instanceTypes := #[]
  staticTypes := #[]
  resolved := Array.replicate 124 none
  statics := none }

def pool1 : Array CpInfo := pool [(2, .class_ 4), (1, u "java/lang/Object"), (0, u "<init>"), (0, u "()V"), (0, .fieldref 8 9), (0, .class_ 10), (0, .nameAndType 11 12), (0, u "raciocinio/cli/ExitStatus"), (0, u "YES"), (0, u "Lraciocinio/cli/ExitStatus;"), (0, .fieldref 8 14), (0, .nameAndType 15 12), (0, u "NO"), (0, .fieldref 8 17), (0, .nameAndType 18 12), (0, u "CANNOT_ANSWER"), (0, .integer 2147483647), (0, .methodref 21 22), (0, .class_ 23), (0, .nameAndType 24 25), (0, u "raciocinio/cli/ExitStatusWorstPinLaw"), (0, u "pick"), (0, u "(I)Lraciocinio/cli/ExitStatus;"), (0, .methodref 27 28), (0, .class_ 29), (0, .nameAndType 30 31), (0, u "java/lang/Math"), (0, u "max"), (0, u "(II)I"), (0, .methodref 8 33), (0, .nameAndType 34 35), (0, u "worst"), (0, u "(Lraciocinio/cli/ExitStatus;Lraciocinio/cli/ExitStatus;)Lraciocinio/cli/ExitStatus;"), (3, u "law"), (0, u "(II)Z")] 2

def k1m0 : Method := { name := "<init>", desc := "()V", sig := { parameters := [], returnType := none }, accessFlags := 1, code := none }
def k1c1 : Code := { maxStack := 2, maxLocals := 1, code := method_2_code, exceptionTable := #[], attributes := #[] }
def k1m1 : Method := { name := "pick", desc := "(I)Lraciocinio/cli/ExitStatus;", sig := { parameters := [.int], returnType := some (.object "raciocinio/cli/ExitStatus") }, accessFlags := 10, code := some k1c1 }
def k1c2 : Code := { maxStack := 2, maxLocals := 8, code := code, exceptionTable := #[], attributes := #[] }
def k1m2 : Method := { name := "law", desc := "(II)Z", sig := { parameters := [.int, .int], returnType := some .boolean }, accessFlags := 9, code := some k1c2 }
/-- raciocinio/cli/ExitStatusWorstPinLaw -/
def k1 : Class := { plain "raciocinio/cli/ExitStatusWorstPinLaw" (some 0) with
  accessFlags := 49
  interfaces := #[]
  cf := some (fileOf pool1 21 #[] #[{ accessFlags := 1, nameIndex := 5, descriptorIndex := 6, attributes := #[] }, { accessFlags := 10, nameIndex := 24, descriptorIndex := 25, attributes := #[] }, { accessFlags := 9, nameIndex := 39, descriptorIndex := 40, attributes := #[] }] 49 2 #[] #[])
  fields := #[]
  methods := #[k1m0, k1m1, k1m2]
  instanceTypes := #[]
  staticTypes := #[]
  resolved := Array.replicate 43 none
  statics := none }

def pool2 : Array CpInfo := pool [(1, .class_ 2), (0, u "java/lang/constant/Constable"), (0, .class_ 4), (0, u "java/lang/Object")] 6

/-- java/lang/constant/Constable -/
def k2 : Class := { plain "java/lang/constant/Constable" (some 0) with
  accessFlags := 1537
  interfaces := #[]
  cf := some (fileOf pool2 1 #[] #[] 1537 3 #[] #[])
  fields := #[]
  methods := #[]
  instanceTypes := #[]
  staticTypes := #[]
  resolved := Array.replicate 11 none
  statics := none }

def pool3 : Array CpInfo := pool [(1, .class_ 2), (0, u "java/lang/Comparable"), (0, .class_ 4), (0, u "java/lang/Object")] 7

/-- java/lang/Comparable -/
def k3 : Class := { plain "java/lang/Comparable" (some 0) with
  accessFlags := 1537
  interfaces := #[]
  cf := some (fileOf pool3 1 #[] #[] 1537 3 #[] #[])
  fields := #[]
  methods := #[]
  instanceTypes := #[]
  staticTypes := #[]
  resolved := Array.replicate 12 none
  statics := none }

def pool4 : Array CpInfo := pool [(1, .class_ 2), (0, u "java/io/Serializable"), (0, .class_ 4), (0, u "java/lang/Object")] 2

/-- java/io/Serializable -/
def k4 : Class := { plain "java/io/Serializable" (some 0) with
  accessFlags := 1537
  interfaces := #[]
  cf := some (fileOf pool4 1 #[] #[] 1537 3 #[] #[])
  fields := #[]
  methods := #[]
  instanceTypes := #[]
  staticTypes := #[]
  resolved := Array.replicate 7 none
  statics := none }

def pool5 : Array CpInfo := pool [(2, .class_ 4), (1, u "java/lang/Enum"), (0, u "name"), (0, u "Ljava/lang/String;"), (2, u "ordinal"), (0, u "I"), (1, .class_ 14), (1, u "java/lang/Object"), (4, u "hash"), (86, .class_ 108), (1, u "java/lang/Enum$EnumDesc"), (2, .class_ 112), (0, u "java/lang/constant/Constable"), (0, .class_ 114), (0, u "java/lang/Comparable"), (0, .class_ 116), (0, u "java/io/Serializable")] 87

/-- java/lang/Enum -/
def k5 : Class := { plain "java/lang/Enum" (some 0) with
  accessFlags := 1057
  interfaces := #[2, 3, 4]
  cf := some (fileOf pool5 2 #[.nestMembers #[106]] #[] 1057 12 #[111, 113, 115] #[{ accessFlags := 18, nameIndex := 5, descriptorIndex := 6, attributes := #[] }, { accessFlags := 18, nameIndex := 9, descriptorIndex := 10, attributes := #[] }, { accessFlags := 2, nameIndex := 19, descriptorIndex := 10, attributes := #[] }])
  fields := #[{ name := "name", type := (.object "java/lang/String"), accessFlags := 18, slot := 0, constantValue := 0 }, { name := "ordinal", type := .int, accessFlags := 18, slot := 1, constantValue := 0 }, { name := "hash", type := .int, accessFlags := 2, slot := 2, constantValue := 0 }]
  methods := #[]
  instanceTypes := #[(.object "java/lang/String"), .int, .int]
  staticTypes := #[]
  resolved := Array.replicate 204 none
  statics := none }

def pool6 : Array CpInfo := pool [(1, .class_ 2), (0, u "raciocinio/cli/ExitStatus"), (2, u "YES"), (0, u "Lraciocinio/cli/ExitStatus;"), (2, u "NO"), (2, u "CANNOT_ANSWER"), (2, u "$VALUES"), (0, u "[Lraciocinio/cli/ExitStatus;"), (6, .class_ 25), (1, u "java/lang/Enum"), (6, .fieldref 1 33), (0, .nameAndType 34 35), (0, u "code"), (0, u "I"), (10, u "CANNOT_ANSWER_CODE"), (10, u "worst"), (0, u "(Lraciocinio/cli/ExitStatus;Lraciocinio/cli/ExitStatus;)Lraciocinio/cli/ExitStatus;")] 6

def k6c0 : Code := { maxStack := 2, maxLocals := 2, code := prog_2_method_5_code, exceptionTable := #[], attributes := #[] }
def k6m0 : Method := { name := "worst", desc := "(Lraciocinio/cli/ExitStatus;Lraciocinio/cli/ExitStatus;)Lraciocinio/cli/ExitStatus;", sig := { parameters := [(.object "raciocinio/cli/ExitStatus"), (.object "raciocinio/cli/ExitStatus")], returnType := some (.object "raciocinio/cli/ExitStatus") }, accessFlags := 9, code := some k6c0 }
/-- raciocinio/cli/ExitStatus -/
def k6 : Class := { plain "raciocinio/cli/ExitStatus" (some 5) with
  accessFlags := 16433
  interfaces := #[]
  cf := some (fileOf pool6 1 #[] #[{ accessFlags := 9, nameIndex := 57, descriptorIndex := 58, attributes := #[] }] 16433 23 #[] #[{ accessFlags := 16409, nameIndex := 5, descriptorIndex := 6, attributes := #[] }, { accessFlags := 16409, nameIndex := 9, descriptorIndex := 6, attributes := #[] }, { accessFlags := 16409, nameIndex := 12, descriptorIndex := 6, attributes := #[] }, { accessFlags := 24, nameIndex := 46, descriptorIndex := 35, attributes := #[] }, { accessFlags := 18, nameIndex := 34, descriptorIndex := 35, attributes := #[] }, { accessFlags := 4122, nameIndex := 15, descriptorIndex := 16, attributes := #[] }])
  fields := #[{ name := "YES", type := (.object "raciocinio/cli/ExitStatus"), accessFlags := 16409, slot := 0, constantValue := 0 }, { name := "NO", type := (.object "raciocinio/cli/ExitStatus"), accessFlags := 16409, slot := 1, constantValue := 0 }, { name := "CANNOT_ANSWER", type := (.object "raciocinio/cli/ExitStatus"), accessFlags := 16409, slot := 2, constantValue := 0 }, { name := "CANNOT_ANSWER_CODE", type := .int, accessFlags := 24, slot := 3, constantValue := 0 }, { name := "code", type := .int, accessFlags := 18, slot := 3, constantValue := 0 }, { name := "$VALUES", type := (.array (.object "raciocinio/cli/ExitStatus")), accessFlags := 4122, slot := 4, constantValue := 0 }]
  methods := #[k6m0]
  instanceTypes := #[(.object "java/lang/String"), .int, .int, .int]
  staticTypes := #[(.object "raciocinio/cli/ExitStatus"), (.object "raciocinio/cli/ExitStatus"), (.object "raciocinio/cli/ExitStatus"), .int, (.array (.object "raciocinio/cli/ExitStatus"))]
  resolved := Array.replicate 65 none
  statics := some 0 }

def pool7 : Array CpInfo := pool [(1, .class_ 2), (0, u "java/lang/Math"), (1, .class_ 6), (1, u "java/lang/Object"), (0, u "<init>"), (0, u "()V"), (89, .class_ 100), (1, u "java/lang/Math$RandomNumberGeneratorHolder"), (71, u "negativeZeroFloatBits"), (0, u "J"), (2, u "negativeZeroDoubleBits"), (21, u "max"), (46, u "$assertionsDisabled"), (0, u "Z"), (88, u "(II)I"), (2, u "twoToTheDoubleScaleDown"), (0, u "D"), (4, u "twoToTheDoubleScaleUp"), (9, u "E"), (3, u "PI"), (2, u "TAU"), (2, u "DEGREES_TO_RADIANS"), (0, u "RADIANS_TO_DEGREES")] 94

def k7m0 : Method := { name := "<init>", desc := "()V", sig := { parameters := [], returnType := none }, accessFlags := 2, code := none }
def k7c1 : Code := { maxStack := 2, maxLocals := 2, code := jdk_29_method_65_code, exceptionTable := #[], attributes := #[] }
def k7m1 : Method := { name := "max", desc := "(II)I", sig := { parameters := [.int, .int], returnType := some .int }, accessFlags := 9, code := some k7c1 }
/-- java/lang/Math -/
def k7 : Class := { plain "java/lang/Math" (some 0) with
  accessFlags := 49
  interfaces := #[]
  cf := some (fileOf pool7 1 #[.nestMembers #[98]] #[{ accessFlags := 2, nameIndex := 7, descriptorIndex := 8, attributes := #[] }, { accessFlags := 9, nameIndex := 198, descriptorIndex := 335, attributes := #[] }] 49 4 #[] #[{ accessFlags := 25, nameIndex := 354, descriptorIndex := 339, attributes := #[] }, { accessFlags := 25, nameIndex := 358, descriptorIndex := 339, attributes := #[] }, { accessFlags := 25, nameIndex := 361, descriptorIndex := 339, attributes := #[] }, { accessFlags := 26, nameIndex := 364, descriptorIndex := 339, attributes := #[] }, { accessFlags := 26, nameIndex := 365, descriptorIndex := 339, attributes := #[] }, { accessFlags := 26, nameIndex := 172, descriptorIndex := 173, attributes := #[] }, { accessFlags := 26, nameIndex := 176, descriptorIndex := 173, attributes := #[] }, { accessFlags := 8, nameIndex := 344, descriptorIndex := 339, attributes := #[] }, { accessFlags := 8, nameIndex := 338, descriptorIndex := 339, attributes := #[] }, { accessFlags := 4120, nameIndex := 245, descriptorIndex := 246, attributes := #[] }])
  fields := #[{ name := "E", type := .double, accessFlags := 25, slot := 0, constantValue := 0 }, { name := "PI", type := .double, accessFlags := 25, slot := 1, constantValue := 0 }, { name := "TAU", type := .double, accessFlags := 25, slot := 2, constantValue := 0 }, { name := "DEGREES_TO_RADIANS", type := .double, accessFlags := 26, slot := 3, constantValue := 0 }, { name := "RADIANS_TO_DEGREES", type := .double, accessFlags := 26, slot := 4, constantValue := 0 }, { name := "negativeZeroFloatBits", type := .long, accessFlags := 26, slot := 5, constantValue := 0 }, { name := "negativeZeroDoubleBits", type := .long, accessFlags := 26, slot := 6, constantValue := 0 }, { name := "twoToTheDoubleScaleUp", type := .double, accessFlags := 8, slot := 7, constantValue := 0 }, { name := "twoToTheDoubleScaleDown", type := .double, accessFlags := 8, slot := 8, constantValue := 0 }, { name := "$assertionsDisabled", type := .boolean, accessFlags := 4120, slot := 9, constantValue := 0 }]
  methods := #[k7m0, k7m1]
  instanceTypes := #[]
  staticTypes := #[.double, .double, .double, .double, .double, .long, .long, .double, .double, .boolean]
  resolved := Array.replicate 460 none
  statics := none }

def pool8 : Array CpInfo := pool [(1, u "java/lang/Cloneable"), (0, .class_ 1), (0, u "java/lang/Object"), (0, .class_ 3)] 3

/-- java/lang/Cloneable -/
def k8 : Class := { plain "java/lang/Cloneable" (some 0) with
  accessFlags := 1537
  interfaces := #[]
  cf := some (fileOf pool8 2 #[] #[] 1537 4 #[] #[])
  fields := #[]
  methods := #[]
  instanceTypes := #[]
  staticTypes := #[]
  resolved := Array.replicate 8 none
  statics := none }

/-- the primitive byte -/
def k9 : Class := { plain "byte" none with kind := .primitive 'B', accessFlags := 0x411 }
/-- [B -/
def k10 : Class := { plain "[B" (some 0) with kind := .array 9 .byte, interfaces := #[8, 4], accessFlags := 1041 }

def heap : Heap := #[{ cls := 6, slots := #[.ref 1, .ref 3, .ref 2, .int 0, .null], vm := .statics 6 },
  { cls := 6, slots := #[.null, .int 0, .int 0, .int 0], vm := .none },
  { cls := 6, slots := #[.null, .int 0, .int 0, .int 2], vm := .none },
  { cls := 6, slots := #[.null, .int 0, .int 0, .int 1], vm := .none }]
def classes : Array Class := #[k0, k1, k2, k3, k4, k5, k6, k7, k8, k9, k10]
def interned : List (Array UInt16 × Addr) := []
def slotsUsed : Nat := 17
def theMethod : MethodId := ⟨1, 2⟩
def args0 : Array Value := #[.int 5, .int 7]
def aboutOver (below : List Frame) : State where
  vm := { classes := classes, interned := interned.toArray }
  heap := heap
  slotsUsed := slotsUsed
  threads := #[{ frames := .invoking theMethod args0 :: below }]
def below0 : List Frame := [.native { method := ⟨0, 0⟩, args := #[] }]
def about1 : State := aboutOver below0
def p0 : Program := .bare "" "" ""
def e0 : Env := launch0.env 0 0 0
theorem w_frames : about1.frames = Frame.invoking theMethod args0 :: below0 := rfl
set_option maxRecDepth 65536 in
theorem w_args : argsFit about1.vm theMethod args0 = true := by decide +kernel
set_option maxRecDepth 65536 in
theorem w_heap : heapFits about1 = true := by decide +kernel
set_option maxRecDepth 65536 in
theorem w_runnable : about1.curStatus? = some .runnable := by decide +kernel
set_option maxRecDepth 65536 in
theorem w_alone : about1.alone = true := by decide +kernel
set_option maxRecDepth 65536 in
theorem w_named : about1.methodNamed? x = some theMethod := by decide +kernel
set_option maxRecDepth 65536 in
theorem w_hears : about1.hears theMethod below0 = true := by decide +kernel
set_option maxRecDepth 65536 in
theorem w_ripe : about1.ripe theMethod args0 below0 = true := by decide +kernel
theorem w_running : about1.status = .running := rfl
set_option maxRecDepth 65536 in
theorem w_room : about1.hasRoom e0.platform room_1 = true :=
  launch0.hasRoom_least _ room_1 (by decide +kernel) (by decide +kernel) (by decide +kernel) (by decide +kernel) (by decide +kernel) (by decide +kernel)
theorem allAtoms_all (ts : List Jvm.Cond) (a : Array Jvm.Value) (st : Jvm.State) : (allAtoms ts).before a st = ts.all (fun c => c.before a st) := by
  induction ts with
  | nil => rfl
  | cons c t ih =>
    show (Jvm.Cond.and c (allAtoms t)).before a st = _
    rw [Jvm.Cond.before_and, ih, List.all_cons]
def words1 : List Jvm.Cond := Jvm.Cond.code x code maxLocals ret :: tables_1
/-- a 'code' word, met by the world's own term for the bytes: nothing is compared byte by byte -/
theorem code_word {y : MethodName} {bytes : ByteArray} {mx : Nat} {rt : Option FieldType} {a : Array Value} {s : State} {m : MethodId} {meth : Method} {c : Code} (h1 : s.methodNamed? y = some m) (h2 : s.vm.method? m = some meth) (h3 : meth.code = some c) (h4 : c.code = bytes)
    (h5 : (c.maxLocals == mx && c.exceptionTable.isEmpty && decide (c.maxStack ≤ mostOperands) && decide (meth.sig.returnType = rt) && !meth.locks && decide (parseMethodDescriptor y.desc = some meth.sig)) = true) : (Jvm.Cond.code y bytes mx rt).before a s = true := by
  simp only [Bool.and_eq_true, beq_iff_eq, Bool.not_eq_true', decide_eq_true_eq] at h5
  obtain ⟨⟨⟨⟨⟨g1, g2⟩, g3⟩, g4⟩, g5⟩, g6⟩ := h5
  simp [Cond.before, Cond.holds, Cond.value, h1, h2, h3, h4, g1, g2, g3, g4, g5, g6]
def isCode : Jvm.Cond → Bool
  | .code _ _ _ _ => true
  | _ => false
theorem all_split {L : List Jvm.Cond} {P : Jvm.Cond → Bool} (h1 : L.all (fun c => isCode c || P c) = true) (h2 : ∀ c ∈ L.filter isCode, P c = true) : L.all P = true := by
  refine List.all_eq_true.mpr fun c hc => ?_
  have h := List.all_eq_true.mp h1 c hc
  rcases Bool.eq_false_or_eq_true (isCode c) with hi | hi
  · exact h2 c (List.mem_filter.mpr ⟨hc, hi⟩)
  · simpa [hi] using h
set_option maxRecDepth 65536 in
theorem w_c0 : (Jvm.Cond.code x code maxLocals ret).before args0 about1 = true := code_word (m := ⟨1, 2⟩) (meth := k1m2) (c := k1c2) (by decide +kernel) rfl rfl rfl (by decide +kernel)
set_option maxRecDepth 65536 in
theorem w_c1 : (Jvm.Cond.code ({ cls := "raciocinio/cli/ExitStatusWorstPinLaw", name := "pick", desc := "(I)Lraciocinio/cli/ExitStatus;" } : Jvm.MethodName) method_2_code (1 : Nat) (Option.some (Jvm.ClassFile.FieldType.object "raciocinio/cli/ExitStatus"))).before args0 about1 = true := code_word (m := ⟨1, 1⟩) (meth := k1m1) (c := k1c1) (by decide +kernel) rfl rfl rfl (by decide +kernel)
set_option maxRecDepth 65536 in
theorem w_c2 : (Jvm.Cond.code ({ cls := "java/lang/Math", name := "max", desc := "(II)I" } : Jvm.MethodName) jdk_29_method_65_code (2 : Nat) (Option.some Jvm.ClassFile.FieldType.int)).before args0 about1 = true := code_word (m := ⟨7, 1⟩) (meth := k7m1) (c := k7c1) (by decide +kernel) rfl rfl rfl (by decide +kernel)
set_option maxRecDepth 65536 in
theorem w_c3 : (Jvm.Cond.code ({ cls := "raciocinio/cli/ExitStatus", name := "worst", desc := "(Lraciocinio/cli/ExitStatus;Lraciocinio/cli/ExitStatus;)Lraciocinio/cli/ExitStatus;" } : Jvm.MethodName) prog_2_method_5_code (2 : Nat) (Option.some (Jvm.ClassFile.FieldType.object "raciocinio/cli/ExitStatus"))).before args0 about1 = true := code_word (m := ⟨6, 0⟩) (meth := k6m0) (c := k6c0) (by decide +kernel) rfl rfl rfl (by decide +kernel)
def codes1 : List Jvm.Cond := [Jvm.Cond.code x code maxLocals ret, Jvm.Cond.code ({ cls := "raciocinio/cli/ExitStatusWorstPinLaw", name := "pick", desc := "(I)Lraciocinio/cli/ExitStatus;" } : Jvm.MethodName) method_2_code (1 : Nat) (Option.some (Jvm.ClassFile.FieldType.object "raciocinio/cli/ExitStatus")), Jvm.Cond.code ({ cls := "java/lang/Math", name := "max", desc := "(II)I" } : Jvm.MethodName) jdk_29_method_65_code (2 : Nat) (Option.some Jvm.ClassFile.FieldType.int), Jvm.Cond.code ({ cls := "raciocinio/cli/ExitStatus", name := "worst", desc := "(Lraciocinio/cli/ExitStatus;Lraciocinio/cli/ExitStatus;)Lraciocinio/cli/ExitStatus;" } : Jvm.MethodName) prog_2_method_5_code (2 : Nat) (Option.some (Jvm.ClassFile.FieldType.object "raciocinio/cli/ExitStatus"))]
set_option maxRecDepth 65536 in
theorem codes_eq : words1.filter isCode = codes1 := rfl
theorem w_codes : ∀ c ∈ words1.filter isCode, c.before args0 about1 = true := by
  rw [codes_eq]
  intro c hc
  simp only [codes1, List.mem_cons, List.not_mem_nil, or_false] at hc
  rcases hc with rfl | rfl | rfl | rfl
  · exact w_c0
  · exact w_c1
  · exact w_c2
  · exact w_c3
set_option maxRecDepth 65536 in
theorem w_t1 : words1.all (fun c => isCode c || c.before args0 about1) = true := by decide +kernel
theorem w_tables : (allAtoms (Jvm.Cond.code x code maxLocals ret :: tables_1)).before args0 about1 = true := by
  rw [allAtoms_all]
  show words1.all (fun c => c.before args0 about1) = true
  refine all_split ?_ w_codes
  rw [w_t1]
set_option maxRecDepth 65536 in
theorem w_case : (Jvm.Cond.and given_1 narrow_1).before args0 about1 = true := by decide +kernel
theorem w_applies : (headSpec (Jvm.Cond.code x code maxLocals ret :: tables_1) room_1).applies x e0.platform about1 = true :=
  (Spec.applies_iff w_frames).mpr ⟨w_running, w_runnable, w_alone, w_named, w_hears, w_ripe, w_room, w_tables⟩
theorem atStart : AtStart classFile x code maxLocals ret World_1 tables_1 room_1 Calls_1 rest_1 Pre_1 launch0 p0 e0 about1 theMethod args0 below0 :=
  ⟨lists_1, trivial, launch0.admits_env _ _ _, launch0.least_env, fairChoices_fair.cas, fairChoices_fair.clock, w_frames, w_args, w_heap, w_applies, trivial, trivial, w_case⟩
end start1
theorem witness_1 : WitnessClaimed_1 := ⟨start1.p0, start1.e0, start1.about1, start1.theMethod, start1.args0, start1.below0, start1.atStart⟩
end Jvm.Pilot.@@N@@
