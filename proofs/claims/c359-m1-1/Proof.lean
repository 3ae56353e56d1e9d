import JvmDerived
import JvmDerived.Pilot.@@N@@Statement
import JvmDerived.Pilot.@@N@@Code
set_option linter.unusedVariables false
set_option linter.unusedSimpArgs false
namespace Jvm.RoadKit
open Sem ClassFile Op Lib Jvm.Stand Jvm.Free Jvm.LawKit
section Own
variable {p : Program} {l : Launch} {e : Env} {R : Room} {s : State} {m : MethodId} {args : Array Value} {below : List Frame} {meth : Method} {c : Code} {T : State} {locs : List Loc} {cells slots : Nat}
theorem retI (X : Stand p l e R s m args below meth c T locs cells slots) (hx : p.tables.exec = Jvm.exec) {pc : Nat} {Ls : Array Slot} {z : Int32} {rest : List Value} (hret : meth.sig.returnType = some .int) (hd : decode c.code pc = .ok (.ireturn, 1)) {fs : List Frame}
    (hl : ∀ (f : JFrame) (acts : List Action), f.method = m → f.locked = none → f.entered = [] → (doReturn e (T.setTop f) acts (some (.int z))).1 = T.setFrames fs) : Steps p.tables e below (T.setTop (mkF m pc Ls (.int z :: rest))) (T.setFrames fs) := by
  have hm' : T.vm.method? m = some meth := X.method'
  have hn : narrow .int (.int z) = .int z := rfl
  show Steps p.tables e below (T.setTop { method := m, pc := pc, locals := Ls, stack := _ :: rest, locked := none }) _
  jvm_step X.here [X.here.top, hx, hd, hm', hret, hn]
  first | (intro acts; rw [hl _ acts rfl rfl rfl]) | rw [hl _ _ rfl rfl rfl]
  exact Steps.refl _
/-- the walk from S ends as K says -/
def Way (tb : Tables) (e : Env) (below : List Frame) (K : Outcome → State → Prop) (S : State) : Prop := ∃ s₂ o, Steps tb e below S s₂ ∧ s₂.status = .running ∧ Ended s₂ below o ∧ K o s₂
theorem Way.by {tb : Tables} {K : Outcome → State → Prop} {A B : State} (st : ∀ t, Steps tb e below B t → Steps tb e below A t) (h : Way tb e below K B) : Way tb e below K A := by
  obtain ⟨s₂, o, h1, h2⟩ := h; exact ⟨s₂, o, st _ h1, h2⟩
theorem Way.to {tb : Tables} {K : Outcome → State → Prop} {A B : State} (st : Steps tb e below A B) (h : Way tb e below K B) : Way tb e below K A := by
  obtain ⟨s₂, o, h1, h2⟩ := h; exact ⟨s₂, o, st.trans h1, h2⟩
abbrev KQ (s : State) (Q : Option Value → Heap → List Loc → Prop) (C S : Nat) : Outcome → State → Prop := fun o s₂ => ∃ v L, o = .returned v ∧ Q v s₂.heap L ∧ FrameEnd s o s₂ L C S
theorem Way.ret {Q : Option Value → Heap → List Loc → Prop} {C S : Nat} {A : State} {v : Option Value} (X : Stand p l e R s m args below meth c T locs cells slots) (hlk : meth.locks = false) (hv : meth.sig.returnType = none → v = none)
    (hret : ∀ fs, (∀ (f : JFrame) (acts : List Action), f.method = m → f.locked = none → f.entered = [] → (doReturn e (T.setTop f) acts v).1 = T.setFrames fs) → Steps p.tables e below A (T.setFrames fs))
    (hQ : Q v T.heap locs) (hc : cells ≤ C) (hs : slots ≤ S) : Way p.tables e below (KQ s Q C S) A := by
  obtain ⟨fs, hr, hrun, hended, hW, hsame⟩ := X.leave hv hlk
  exact ⟨_, _, hret fs hr, hrun, hended, _, _, rfl, hQ, ⟨_, rfl⟩, hW, hsame.mono hc hs⟩
abbrev KQW (s : State) (Q : Option Value → Heap → List Loc → Prop) (C S : Nat) : Outcome → State → Prop := fun o s₂ => ∃ v L, o = .returned v ∧ Q v s₂.heap L ∧ ReturnedEndW s o s₂ L C S
theorem Way.retW {Q : Option Value → Heap → List Loc → Prop} {C S : Nat} {A : State} {v : Option Value} {vm1 : Vm} {n : Nat} (X : Stand p l e R (s.setVm vm1) m args below meth c T locs cells slots) (hS : s.Since vm1 n) (hn : n ≤ T.heap.size) (hlk : meth.locks = false) (hv : meth.sig.returnType = none → v = none)
    (hret : ∀ fs, (∀ (f : JFrame) (acts : List Action), f.method = m → f.locked = none → f.entered = [] → (doReturn e (T.setTop f) acts v).1 = T.setFrames fs) → Steps p.tables e below A (T.setFrames fs))
    (hQ : Q v T.heap locs) (hc : cells ≤ C) (hs : slots ≤ S) : Way p.tables e below (KQW s Q C S) A := by
  obtain ⟨fs, hr, hrun, hended, h1, h2, h3, h4⟩ := X.leaveW hS hn hv hlk
  exact ⟨_, _, hret fs hr, hrun, hended, _, _, rfl, hQ, h1, h2, h3, h4.mono hc hs⟩
abbrev KQH (s Z : State) (EL : List (String × Nat)) (Q : Option Value → Heap → List Loc → Prop) (C S : Nat) : Outcome → State → Prop := fun o s₂ => ∃ v L, o = .returned v ∧ Q v s₂.heap L ∧ CHr Z EL s.vm s.heap s₂.vm s₂.heap ∧ ReturnedEndW s o s₂ L C S
theorem Way.retH {Z : State} {a0 : Array Value} {EL : List (String × Nat)} {Q : Option Value → Heap → List Loc → Prop} {C S : Nat} {A : State} {v : Option Value} {vm1 : Vm} {n : Nat} {h h0 : Heap} (X : Stand p l e R (s.setVm vm1) m args below meth c T locs cells slots) (hS : s.Since vm1 n) (hn : n ≤ T.heap.size) (hZ : Z.Warmed39 vm1) (hEL : EW Z a0 EL) (hh : s.heap = h0) (eT : T.heap = h) (H : CHv Z EL vm1 h) (CH : CHr Z EL s.vm h0 vm1 h) (hlk : meth.locks = false) (hv : meth.sig.returnType = none → v = none)
    (hret : ∀ fs, (∀ (f : JFrame) (acts : List Action), f.method = m → f.locked = none → f.entered = [] → (doReturn e (T.setTop f) acts v).1 = T.setFrames fs) → Steps p.tables e below A (T.setFrames fs))
    (hQ : Q v T.heap locs) (hc : cells ≤ C) (hs : slots ≤ S) : Way p.tables e below (KQH s Z EL Q C S) A := by
  obtain ⟨fs, hr, hrun, hended, h1, h2, h3, h4⟩ := X.leaveW hS hn hv hlk
  refine ⟨_, _, hret fs hr, hrun, hended, _, _, rfl, hQ, ?_, h1, h2, h3, h4.mono hc hs⟩
  have B := CHv.at X hZ hEL H
  show CHr Z EL s.vm s.heap T.vm T.heap
  rw [hh, eT]; exact CH.trans B
theorem fldStart {Z : State} {args : Array Value} {t : Term} {a : Addr} {C n d : String} {k : Int32} (ev : t.eval args Z none [] Z = some (.ref a)) (h : (Cond.eq (.field t C n d) (.int k)).value args Z none Z [] = some true) : Fld Z Z.heap a C n d (.int k) := by
  refine Fld.start ?_
  have e1 : (Term.field t C n d).eval args Z none [] Z = Z.fieldOf? a C n d := fld_at ev
  simp only [Cond.value] at h
  rw [e1, show (Term.int k).eval args Z none [] Z = some (.int k) from rfl] at h
  cases hf : Z.fieldOf? a C n d with
  | none => simp [hf] at h
  | some w => cases w <;> simp [hf] at h ⊢; exact h
theorem remB (x d : Int32) (D : Int) (hd : d.toInt = D) (h0 : 0 < D) : 0 ≤ ((x &&& 2147483647) % d).toInt ∧ ((x &&& 2147483647) % d).toInt < D := by
  have h1 := c_and x 2147483647 (by decide)
  rw [(c_irem (x &&& 2147483647) d D hd).1 h1.1]
  exact ⟨Int.emod_nonneg _ (by omega), Int.emod_lt_of_pos _ h0⟩
theorem cases3 {k : Int32} (h : 0 ≤ k.toInt ∧ k.toInt < 3) : k = 0 ∨ k = 1 ∨ k = 2 := by
  have q : k.toInt = 0 ∨ k.toInt = 1 ∨ k.toInt = 2 := by omega
  rcases q with q | q | q
  · exact Or.inl (Int32.toInt_inj.mp q)
  · exact Or.inr (Or.inl (Int32.toInt_inj.mp q))
  · exact Or.inr (Or.inr (Int32.toInt_inj.mp q))
theorem cases5 {k : Int32} (h : 0 ≤ k.toInt ∧ k.toInt < 5) : k = 0 ∨ k = 1 ∨ k = 2 ∨ k = 3 ∨ k = 4 := by
  have q : k.toInt = 0 ∨ k.toInt = 1 ∨ k.toInt = 2 ∨ k.toInt = 3 ∨ k.toInt = 4 := by omega
  rcases q with q | q | q | q | q
  · exact Or.inl (Int32.toInt_inj.mp q)
  · exact Or.inr (Or.inl (Int32.toInt_inj.mp q))
  · exact Or.inr (Or.inr (Or.inl (Int32.toInt_inj.mp q)))
  · exact Or.inr (Or.inr (Or.inr (Or.inl (Int32.toInt_inj.mp q))))
  · exact Or.inr (Or.inr (Or.inr (Or.inr (Int32.toInt_inj.mp q))))
theorem nfSel {s : State} {args : Array Value} {C : String} {y z : MethodName} (hyz : z.cls = y.cls) (hsel : (Cond.selects C z z).before args s = true) : NotFace s y := fun r0 h0 => by
  obtain ⟨c, r, m, -, -, hn, -, mk, hk, hni⟩ := Cond.selects_spec hsel
  have e1 := findClass_of_methodNamed h0
  have e2 := findClass_of_methodNamed hn
  rw [hyz, e1] at e2
  refine ⟨mk, ?_, hni⟩
  first | (rw [Option.some.inj e2]; exact hk) | (rw [← Option.some.inj e2]; exact hk)
theorem sameOwn {s : State} {args : Array Value} {C : String} {y z : MethodName} (hyz : z.cls = y.cls) (hsel : (Cond.selects C z z).before args s = true) (hinst : (Cond.instanceMethod y).before args s = true) (hy : y.cls ≠ "java/lang/invoke/MethodHandle" ∧ y.cls ≠ "java/lang/invoke/VarHandle") : (Cond.sameMethod y.cls y.cls y.name y.desc).before args s = true := by
  obtain ⟨mk, methM, hnamed, -⟩ := Cond.instanceMethod_spec hinst
  obtain ⟨kr, hk, hni⟩ := nfSel hyz hsel mk hnamed
  have hf := State.methodFound?_of_named hnamed hy
  have hc := findClass_of_methodNamed hnamed
  have hn2 : s.methodNamed? ⟨y.cls, y.name, y.desc⟩ = some mk := hnamed
  simp [Cond.before, Cond.holds, Cond.value, hc, hf, hn2, hk, hni]
theorem selPriv {s : State} {args : Array Value} {C : String} {y z : MethodName} (hyz : z.cls = y.cls) (hsel : (Cond.selects C z z).before args s = true) (hpriv : s.PrivateAt y) (hinst : (Cond.instanceMethod y).before args s = true) (hy : y.cls ≠ "java/lang/invoke/MethodHandle" ∧ y.cls ≠ "java/lang/invoke/VarHandle") : (Cond.selects y.cls y y).before args s = true := by
  obtain ⟨c, r, m, -, -, hn, -, mk, hk, hni⟩ := Cond.selects_spec hsel
  exact selects_self_of_private (by rw [← hyz]; exact findClass_of_methodNamed hn) hk hni hpriv hinst hy
end Own
end Jvm.RoadKit
namespace Jvm.Pilot.@@N@@
open Jvm Jvm.ClassFile Sem Op Lib Jvm.Free Jvm.Stand Jvm.LawKit Jvm.RoadKit Bundle Jvm.Pilot.@@N@@.Jvm.D
theorem tw {Z : State} {a0 : Array Value} (hw : ∀ d ∈ tables_1, d.before a0 Z = true) (i : Nat) {d : Jvm.Cond} (h : tables_1[i]? = some d) : d.before a0 Z = true := hw _ (List.mem_of_getElem? h)
def Q1 (a g : Addr) (h0 : Heap) (n0 : Nat) (v : Option Value) (h : Heap) (L : List Loc) : Prop := v = some (.int (if a = g then 0 else 1)) ∧ Fr n0 L ∧ h = h0
theorem d1_0 : decode prog_1_method_5_code 0 = .ok (.aload_n 0, 1) := by decide +kernel
theorem d1_1 : decode prog_1_method_5_code 1 = .ok (.getstatic 10, 3) := by decide +kernel
theorem d1_4 : decode prog_1_method_5_code 4 = .ok (.if_acmp .eq 7, 3) := by decide +kernel
theorem d1_7 : decode prog_1_method_5_code 7 = .ok (.iconst 1, 1) := by decide +kernel
theorem d1_8 : decode prog_1_method_5_code 8 = .ok (.goto 4, 3) := by decide +kernel
theorem d1_11 : decode prog_1_method_5_code 11 = .ok (.iconst 0, 1) := by decide +kernel
theorem d1_12 : decode prog_1_method_5_code 12 = .ok (.ireturn, 1) := by decide +kernel
theorem pn1 : plainName "com/example/unbound_principals/unboundprincipals/AuthorizableKind" = true := by first | (simp [plainName, overriddenIn]; done) | decide +kernel
theorem pd1 : parseMethodDescriptor "()Z" = some ⟨[], some .boolean⟩ := by decide +kernel
set_option maxRecDepth 65536 in
set_option maxHeartbeats 40000000 in
theorem rm1 (l : Launch) (Z : State) (a0 : Array Value) (hw : ∀ d ∈ tables_1, d.before a0 Z = true) (ws : List Jvm.Cond) (a g : Addr) (h0 : Heap) (n0 : Nat) (Z0 : n0 ≤ h0.size) (SG : Sta Z h0 "com/example/unbound_principals/unboundprincipals/AuthorizableKind" "GROUP" "Lcom/example/unbound_principals/unboundprincipals/AuthorizableKind;" (.ref g)) :
    MetFree l (⟨"com/example/unbound_principals/unboundprincipals/AuthorizableKind", "isUser", "()Z"⟩ : MethodName) (head1 (Jvm.Cond.code (⟨"com/example/unbound_principals/unboundprincipals/AuthorizableKind", "isUser", "()Z"⟩ : MethodName) prog_1_method_5_code 1 (some .boolean) :: ws) ({ frames := 0, cells := 0, slots := 0, locals := 0 } : Room)) (fun aa U => aa = #[(.ref a)] ∧ Z.Warmed39 U.vm ∧ U.heap = h0) (fun _ _ _ _ _ => True) (fun _ U o U' => ∃ v L, o = .returned v ∧ Q1 a g h0 n0 v U'.heap L ∧ FrameEnd U o U' L ({ frames := 0, cells := 0, slots := 0, locals := 0 } : Room).cells ({ frames := 0, cells := 0, slots := 0, locals := 0 } : Room).slots) := by
  refine MetFree.of_bodySF (plainFor_of_name pn1) hisR ?_
  intro p e s m args below meth c s₁ Bd hml0 hP hK
  obtain ⟨rfl, hZ, hh⟩ := hP
  have hx := Bd.exec
  have hby := Bd.bytes
  have hlk : meth.locks = false := BodyLoose.notSynchronized Bd
  have hml : c.maxLocals = 1 := hml0
  have hown : s.vm.findClass "com/example/unbound_principals/unboundprincipals/AuthorizableKind" = some m.cls := findClass_of_methodNamed Bd.named
  have hnm := (name_of_methodNamed Bd.named Bd.method).1
  have X0 : Stand p l e ({ frames := 0, cells := 0, slots := 0, locals := 0 } : Room) s m #[(.ref a)] below meth c s₁ [] 0 0 := Stand.of_body Bd
  have e0 : s₁.heap = h0 := by rw [← hh, Bd.state]; rfl
  have N0 := Fr.nil n0
  have ef : entryFrame m #[(.ref a)] 1 = mkF m 0 #[rv a] [] := by first | (simp [entryFrame, mkF, argsToLocals, Value.category, maxLocals]; done) | rfl
  show Way p.tables e below (KQ s (Q1 a g h0 n0) ({ frames := 0, cells := 0, slots := 0, locals := 0 } : Room).cells ({ frames := 0, cells := 0, slots := 0, locals := 0 } : Room).slots) (s₁.setTop (entryFrame m #[(.ref a)] 1))
  rw [ef]
  refine Way.by (fun _ k => XS.aloadN X0.here hx rfl (hb hby d1_0) rfl rfl k) ?_
  show Way _ _ _ _ (s₁.setTop (mkF m 1 #[rv a] [(.ref a)]))
  obtain ⟨T1, X2, e3, st4⟩ := getS X0 hx hZ hown (host := "") (tw hw 9 rfl) Via.refl e0 SG (g := (mkF m 1 #[rv a] [(.ref a)])) rfl (hb hby d1_1)
  refine Way.by st4 ?_
  show Way _ _ _ _ (T1.setTop (mkF m 4 #[rv a] [(.ref g), (.ref a)]))
  by_cases hag : a = g
  · skip
    refine Way.by (fun _ k => acmp X2 hx rfl rfl rfl (pc0 := 4) (pc' := 11) (same := true) rfl (hb hby d1_4) rfl (by simp [hag]) (by decide) (by decide) k) ?_
    show Way _ _ _ _ (T1.setTop (mkF m 11 #[rv a] []))
    refine Way.by (fun _ k => XS.iconst X2.here hx rfl (hb hby d1_11) k) ?_
    show Way _ _ _ _ (T1.setTop (mkF m 12 #[rv a] [(.int 0)]))
    refine Way.ret (v := (some (.int (nar .boolean (0 : Int32))))) X2 hlk (fun h => by rw [Bd.returns] at h; cases h) (fun fs hr => retN X2 hx (t := .boolean) Bd.returns (by simp) (hb hby d1_12) hr) ?_ (by decide) (by decide)
    show Q1 a g h0 n0 _ T1.heap _
    rw [e3]
    exact ⟨by simp [hag]; rfl, N0, rfl⟩
  · skip
    refine Way.by (fun _ k => acmp X2 hx rfl rfl rfl (pc0 := 4) (pc' := 7) (same := false) rfl (hb hby d1_4) rfl (by simp [hag]) (by decide) (by decide) k) ?_
    show Way _ _ _ _ (T1.setTop (mkF m 7 #[rv a] []))
    refine Way.by (fun _ k => XS.iconst X2.here hx rfl (hb hby d1_7) k) ?_
    show Way _ _ _ _ (T1.setTop (mkF m 8 #[rv a] [(.int 1)]))
    refine Way.by (fun _ k => XS.goto X2.here hx rfl (pc0 := 8) (pc' := 12) rfl (hb hby d1_8) (by decide) (by decide) k) ?_
    show Way _ _ _ _ (T1.setTop (mkF m 12 #[rv a] [(.int 1)]))
    refine Way.ret (v := (some (.int (nar .boolean (1 : Int32))))) X2 hlk (fun h => by rw [Bd.returns] at h; cases h) (fun fs hr => retN X2 hx (t := .boolean) Bd.returns (by simp) (hb hby d1_12) hr) ?_ (by decide) (by decide)
    show Q1 a g h0 n0 _ T1.heap _
    rw [e3]
    exact ⟨by simp [hag]; rfl, N0, rfl⟩
def Q0 (n0 : Nat) (v : Option Value) (h : Heap) (L : List Loc) : Prop := v = some (.int 1) ∧ Fr n0 L
theorem pn0 : plainName "com/example/unbound_principals/unboundprincipals/AuthorizableKindIsUserPinLaw" = true := by first | (simp [plainName, overriddenIn]; done) | decide +kernel
theorem pd0 : parseMethodDescriptor "(I)Z" = some ⟨[.int], some .boolean⟩ := by decide +kernel
set_option maxRecDepth 65536 in
set_option maxHeartbeats 40000000 in
theorem rm0 (l : Launch) (Z : State) (a0 : Array Value) (hw : ∀ d ∈ tables_1, d.before a0 Z = true) (ws : List Jvm.Cond) (p1 : Int32) (uUSER uGROUP uSYSTEM_USER : Addr) (h0 : Heap) (n0 : Nat) (Z0 : n0 ≤ h0.size) (SUSER : Sta Z h0 "com/example/unbound_principals/unboundprincipals/AuthorizableKind" "USER" "Lcom/example/unbound_principals/unboundprincipals/AuthorizableKind;" (.ref uUSER)) (EUSER : Exa Z h0 uUSER "com/example/unbound_principals/unboundprincipals/AuthorizableKind") (SGROUP : Sta Z h0 "com/example/unbound_principals/unboundprincipals/AuthorizableKind" "GROUP" "Lcom/example/unbound_principals/unboundprincipals/AuthorizableKind;" (.ref uGROUP)) (EGROUP : Exa Z h0 uGROUP "com/example/unbound_principals/unboundprincipals/AuthorizableKind") (SSYSTEM_USER : Sta Z h0 "com/example/unbound_principals/unboundprincipals/AuthorizableKind" "SYSTEM_USER" "Lcom/example/unbound_principals/unboundprincipals/AuthorizableKind;" (.ref uSYSTEM_USER)) (ESYSTEM_USER : Exa Z h0 uSYSTEM_USER "com/example/unbound_principals/unboundprincipals/AuthorizableKind") (neU : uUSER ≠ uGROUP) (neS : uSYSTEM_USER ≠ uGROUP) :
    MetFree l x (head1 (Jvm.Cond.code x code maxLocals ret :: ws) room_1) (fun aa U => aa = #[(.int p1)] ∧ Z.Warmed39 U.vm ∧ U.heap = h0) (fun _ _ _ _ _ => True) (fun _ U o U' => ∃ v L, o = .returned v ∧ Q0 n0 v U'.heap L ∧ FrameEnd U o U' L room_1.cells room_1.slots) := by
  refine MetFree.of_bodySF (plainFor_of_name pn0) hisR ?_
  intro p e s m args below meth c s₁ Bd hml0 hP hK
  obtain ⟨rfl, hZ, hh⟩ := hP
  have hx := Bd.exec
  have hby := Bd.bytes
  have hlk : meth.locks = false := BodyLoose.notSynchronized Bd
  have hml : c.maxLocals = 4 := hml0
  have hown : s.vm.findClass "com/example/unbound_principals/unboundprincipals/AuthorizableKindIsUserPinLaw" = some m.cls := findClass_of_methodNamed Bd.named
  have hnm := (name_of_methodNamed Bd.named Bd.method).1
  have X0 : Stand p l e room_1 s m #[(.int p1)] below meth c s₁ [] 0 0 := Stand.of_body Bd
  have e0 : s₁.heap = h0 := by rw [← hh, Bd.state]; rfl
  have N0 := Fr.nil n0
  have ef : entryFrame m #[(.int p1)] maxLocals = mkF m 0 #[iv p1, .unset, .unset, .unset] [] := by first | (simp [entryFrame, mkF, argsToLocals, Value.category, maxLocals]; done) | rfl
  show Way p.tables e below (KQ s (Q0 n0) room_1.cells room_1.slots) (s₁.setTop (entryFrame m #[(.int p1)] maxLocals))
  rw [ef]
  refine Way.by (fun _ k => XS.iloadN X0.here hx rfl (hb hby at_0) rfl k) ?_
  show Way _ _ _ _ (s₁.setTop (mkF m 1 #[iv p1, .unset, .unset, .unset] [(.int p1)]))
  refine Way.by (Stand.ldcInt X0 hx hown (mvT hZ (tw hw 0 rfl)) rfl (hb hby at_1)) ?_
  show Way _ _ _ _ (s₁.setTop (mkF m 3 #[iv p1, .unset, .unset, .unset] [(.int 2147483647), (.int p1)]))
  refine Way.by (fun _ k => XS.iand X0.here hx rfl (hb hby at_3) rfl k) ?_
  show Way _ _ _ _ (s₁.setTop (mkF m 4 #[iv p1, .unset, .unset, .unset] [(.int (p1 &&& (2147483647 : Int32)))]))
  refine Way.by (fun _ k => XS.iconst X0.here hx rfl (hb hby at_4) k) ?_
  show Way _ _ _ _ (s₁.setTop (mkF m 5 #[iv p1, .unset, .unset, .unset] [(.int 3), (.int (p1 &&& (2147483647 : Int32)))]))
  refine Way.by (fun _ k => iremM X0 hx rfl (hb hby at_5) rfl (by decide) k) ?_
  show Way _ _ _ _ (s₁.setTop (mkF m 6 #[iv p1, .unset, .unset, .unset] [(.int ((p1 &&& (2147483647 : Int32)) % (3 : Int32)))]))
  refine Way.by (fun _ k => XS.istoreN X0.here hx rfl (hb hby at_6) rfl (l' := #[iv p1, iv ((p1 &&& (2147483647 : Int32)) % (3 : Int32)), .unset, .unset]) rfl k) ?_
  show Way _ _ _ _ (s₁.setTop (mkF m 7 #[iv p1, iv ((p1 &&& (2147483647 : Int32)) % (3 : Int32)), .unset, .unset] []))
  refine Way.by (fun _ k => XS.iloadN X0.here hx rfl (hb hby at_7) rfl k) ?_
  show Way _ _ _ _ (s₁.setTop (mkF m 8 #[iv p1, iv ((p1 &&& (2147483647 : Int32)) % (3 : Int32)), .unset, .unset] [(.int ((p1 &&& (2147483647 : Int32)) % (3 : Int32)))]))
  by_cases b1 : ((p1 &&& (2147483647 : Int32)) % (3 : Int32)) = (0 : Int32)
  · skip
    refine Way.by (fun _ k => XS.ifNo X0.here hx rfl (hb hby at_8) rfl ((if0 .ne _).trans (teq b1).2) k) ?_
    show Way _ _ _ _ (s₁.setTop (mkF m 11 #[iv p1, iv ((p1 &&& (2147483647 : Int32)) % (3 : Int32)), .unset, .unset] []))
    obtain ⟨T2, X3, e4, st5⟩ := getS X0 hx hZ hown (host := "") (tw hw 1 rfl) Via.refl e0 SUSER (g := (mkF m 11 #[iv p1, iv ((p1 &&& (2147483647 : Int32)) % (3 : Int32)), .unset, .unset] [])) rfl (hb hby at_11)
    refine Way.by st5 ?_
    show Way _ _ _ _ (T2.setTop (mkF m 14 #[iv p1, iv ((p1 &&& (2147483647 : Int32)) % (3 : Int32)), .unset, .unset] [(.ref uUSER)]))
    refine Way.by (fun _ k => XS.astoreN X3.here hx rfl (hb hby at_14) rfl rfl (l' := #[iv p1, iv ((p1 &&& (2147483647 : Int32)) % (3 : Int32)), rv uUSER, .unset]) rfl k) ?_
    show Way _ _ _ _ (T2.setTop (mkF m 15 #[iv p1, iv ((p1 &&& (2147483647 : Int32)) % (3 : Int32)), rv uUSER, .unset] []))
    refine Way.by (fun _ k => XS.iconst X3.here hx rfl (hb hby at_15) k) ?_
    show Way _ _ _ _ (T2.setTop (mkF m 16 #[iv p1, iv ((p1 &&& (2147483647 : Int32)) % (3 : Int32)), rv uUSER, .unset] [(.int 1)]))
    refine Way.by (fun _ k => XS.istoreN X3.here hx rfl (hb hby at_16) rfl (l' := #[iv p1, iv ((p1 &&& (2147483647 : Int32)) % (3 : Int32)), rv uUSER, iv 1]) rfl k) ?_
    show Way _ _ _ _ (T2.setTop (mkF m 17 #[iv p1, iv ((p1 &&& (2147483647 : Int32)) % (3 : Int32)), rv uUSER, iv 1] []))
    refine Way.by (fun _ k => XS.goto X3.here hx rfl (pc0 := 17) (pc' := 40) rfl (hb hby at_17) (by decide) (by decide) k) ?_
    show Way _ _ _ _ (T2.setTop (mkF m 40 #[iv p1, iv ((p1 &&& (2147483647 : Int32)) % (3 : Int32)), rv uUSER, iv 1] []))
    refine Way.by (fun _ k => XS.aloadN X3.here hx rfl (hb hby at_40) rfl rfl k) ?_
    show Way _ _ _ _ (T2.setTop (mkF m 41 #[iv p1, iv ((p1 &&& (2147483647 : Int32)) % (3 : Int32)), rv uUSER, iv 1] [(.ref uUSER)]))
    obtain ⟨cq22, kq23, qa24, qb25, qc26⟩ := isOf hZ e4 EUSER
    obtain ⟨_, _, ⟨T6, L8, k9, n10⟩, -, X7, ⟨Lc11, hQ12, l13, y14, z15⟩, st16⟩ := X3.virtualBack hx (y := (⟨"com/example/unbound_principals/unboundprincipals/AuthorizableKind", "isUser", "()Z"⟩ : MethodName)) (z := (⟨"com/example/unbound_principals/unboundprincipals/AuthorizableKind", "isUser", "()Z"⟩ : MethodName)) hown (mvT hZ (tw hw 4 rfl)) (mvT hZ (tw hw 5 rfl)) (notFace_of_selects (args := #[]) (mvT hZ (tw hw 7 rfl))) (mvT hZ (tw hw 7 rfl)) (mvT hZ (tw hw 6 rfl)) (by decide) (backOf (W := 0) (rm1 l Z a0 hw [] uUSER uGROUP h0 n0 Z0 SGROUP) hZ (tw hw 8 rfl) (tw hw 2 rfl) (by decide) (by decide)) qa24 qc26 (g := (mkF m 41 #[iv p1, iv ((p1 &&& (2147483647 : Int32)) % (3 : Int32)), rv uUSER, iv 1] [(.ref uUSER)])) rfl (by rw [hml]; rfl) (Steps.refl _) (argsL := []) (rest := []) (lenOf pd1 rfl) rfl (by show 2 * 0 + _ ≤ _; exact Nat.le_of_eq rfl) (hb hby at_41) (fun _ _ => ⟨rfl, e4, (Nat.le_of_ble_eq_true rfl), (Nat.le_of_ble_eq_true rfl)⟩)
    dsimp only [Pt.U, Pt.locs, Pt.cells, Pt.slots] at X7 l13 y14 z15 st16 hQ12
    subst l13 y14 z15
    obtain ⟨rfl, N27, e18⟩ := hQ12
    have N17 := Fr.app N0 N27
    refine Way.to st16 ?_
    show Way _ _ _ _ (T6.setTop (mkF m 44 #[iv p1, iv ((p1 &&& (2147483647 : Int32)) % (3 : Int32)), rv uUSER, iv 1] [(.int (if uUSER = uGROUP then (0 : Int32) else 1))]))
    refine Way.by (fun _ k => XS.iloadN X7.here hx rfl (hb hby at_44) rfl k) ?_
    show Way _ _ _ _ (T6.setTop (mkF m 45 #[iv p1, iv ((p1 &&& (2147483647 : Int32)) % (3 : Int32)), rv uUSER, iv 1] [(.int 1), (.int (if uUSER = uGROUP then (0 : Int32) else 1))]))
    have b29 : (if uUSER = uGROUP then (0 : Int32) else 1) = (1 : Int32) := if_neg neU
    refine Way.by (fun _ k => XS.icmpNo X7.here hx rfl (hb hby at_45) rfl (teq b29).2 k) ?_
    show Way _ _ _ _ (T6.setTop (mkF m 48 #[iv p1, iv ((p1 &&& (2147483647 : Int32)) % (3 : Int32)), rv uUSER, iv 1] []))
    refine Way.by (fun _ k => XS.iconst X7.here hx rfl (hb hby at_48) k) ?_
    show Way _ _ _ _ (T6.setTop (mkF m 49 #[iv p1, iv ((p1 &&& (2147483647 : Int32)) % (3 : Int32)), rv uUSER, iv 1] [(.int 1)]))
    refine Way.by (fun _ k => XS.goto X7.here hx rfl (pc0 := 49) (pc' := 53) rfl (hb hby at_49) (by decide) (by decide) k) ?_
    show Way _ _ _ _ (T6.setTop (mkF m 53 #[iv p1, iv ((p1 &&& (2147483647 : Int32)) % (3 : Int32)), rv uUSER, iv 1] [(.int 1)]))
    refine Way.ret (v := (some (.int (nar .boolean (1 : Int32))))) X7 hlk (fun h => by rw [Bd.returns] at h; cases h) (fun fs hr => retN X7 hx (t := .boolean) Bd.returns (by simp) (hb hby at_53) hr) ?_ (by decide) (by decide)
    show Q0 n0 _ T6.heap _
    rw [e18]
    exact ⟨rfl, N17⟩
  · skip
    refine Way.by (fun _ k => XS.ifYes X0.here hx rfl (pc0 := 8) (pc' := 20) rfl (hb hby at_8) rfl ((if0 .ne _).trans (feq b1).2) (by decide) (by decide) k) ?_
    show Way _ _ _ _ (s₁.setTop (mkF m 20 #[iv p1, iv ((p1 &&& (2147483647 : Int32)) % (3 : Int32)), .unset, .unset] []))
    refine Way.by (fun _ k => XS.iloadN X0.here hx rfl (hb hby at_20) rfl k) ?_
    show Way _ _ _ _ (s₁.setTop (mkF m 21 #[iv p1, iv ((p1 &&& (2147483647 : Int32)) % (3 : Int32)), .unset, .unset] [(.int ((p1 &&& (2147483647 : Int32)) % (3 : Int32)))]))
    refine Way.by (fun _ k => XS.iconst X0.here hx rfl (hb hby at_21) k) ?_
    show Way _ _ _ _ (s₁.setTop (mkF m 22 #[iv p1, iv ((p1 &&& (2147483647 : Int32)) % (3 : Int32)), .unset, .unset] [(.int 1), (.int ((p1 &&& (2147483647 : Int32)) % (3 : Int32)))]))
    by_cases b30 : ((p1 &&& (2147483647 : Int32)) % (3 : Int32)) = (1 : Int32)
    · skip
      refine Way.by (fun _ k => XS.icmpNo X0.here hx rfl (hb hby at_22) rfl (teq b30).2 k) ?_
      show Way _ _ _ _ (s₁.setTop (mkF m 25 #[iv p1, iv ((p1 &&& (2147483647 : Int32)) % (3 : Int32)), .unset, .unset] []))
      obtain ⟨T31, X32, e33, st34⟩ := getS X0 hx hZ hown (host := "") (tw hw 12 rfl) Via.refl e0 SSYSTEM_USER (g := (mkF m 25 #[iv p1, iv ((p1 &&& (2147483647 : Int32)) % (3 : Int32)), .unset, .unset] [])) rfl (hb hby at_25)
      refine Way.by st34 ?_
      show Way _ _ _ _ (T31.setTop (mkF m 28 #[iv p1, iv ((p1 &&& (2147483647 : Int32)) % (3 : Int32)), .unset, .unset] [(.ref uSYSTEM_USER)]))
      refine Way.by (fun _ k => XS.astoreN X32.here hx rfl (hb hby at_28) rfl rfl (l' := #[iv p1, iv ((p1 &&& (2147483647 : Int32)) % (3 : Int32)), rv uSYSTEM_USER, .unset]) rfl k) ?_
      show Way _ _ _ _ (T31.setTop (mkF m 29 #[iv p1, iv ((p1 &&& (2147483647 : Int32)) % (3 : Int32)), rv uSYSTEM_USER, .unset] []))
      refine Way.by (fun _ k => XS.iconst X32.here hx rfl (hb hby at_29) k) ?_
      show Way _ _ _ _ (T31.setTop (mkF m 30 #[iv p1, iv ((p1 &&& (2147483647 : Int32)) % (3 : Int32)), rv uSYSTEM_USER, .unset] [(.int 1)]))
      refine Way.by (fun _ k => XS.istoreN X32.here hx rfl (hb hby at_30) rfl (l' := #[iv p1, iv ((p1 &&& (2147483647 : Int32)) % (3 : Int32)), rv uSYSTEM_USER, iv 1]) rfl k) ?_
      show Way _ _ _ _ (T31.setTop (mkF m 31 #[iv p1, iv ((p1 &&& (2147483647 : Int32)) % (3 : Int32)), rv uSYSTEM_USER, iv 1] []))
      refine Way.by (fun _ k => XS.goto X32.here hx rfl (pc0 := 31) (pc' := 40) rfl (hb hby at_31) (by decide) (by decide) k) ?_
      show Way _ _ _ _ (T31.setTop (mkF m 40 #[iv p1, iv ((p1 &&& (2147483647 : Int32)) % (3 : Int32)), rv uSYSTEM_USER, iv 1] []))
      refine Way.by (fun _ k => XS.aloadN X32.here hx rfl (hb hby at_40) rfl rfl k) ?_
      show Way _ _ _ _ (T31.setTop (mkF m 41 #[iv p1, iv ((p1 &&& (2147483647 : Int32)) % (3 : Int32)), rv uSYSTEM_USER, iv 1] [(.ref uSYSTEM_USER)]))
      obtain ⟨cq51, kq52, qa53, qb54, qc55⟩ := isOf hZ e33 ESYSTEM_USER
      obtain ⟨_, _, ⟨T35, L37, k38, n39⟩, -, X36, ⟨Lc40, hQ41, l42, y43, z44⟩, st45⟩ := X32.virtualBack hx (y := (⟨"com/example/unbound_principals/unboundprincipals/AuthorizableKind", "isUser", "()Z"⟩ : MethodName)) (z := (⟨"com/example/unbound_principals/unboundprincipals/AuthorizableKind", "isUser", "()Z"⟩ : MethodName)) hown (mvT hZ (tw hw 4 rfl)) (mvT hZ (tw hw 5 rfl)) (notFace_of_selects (args := #[]) (mvT hZ (tw hw 7 rfl))) (mvT hZ (tw hw 7 rfl)) (mvT hZ (tw hw 6 rfl)) (by decide) (backOf (W := 0) (rm1 l Z a0 hw [] uSYSTEM_USER uGROUP h0 n0 Z0 SGROUP) hZ (tw hw 8 rfl) (tw hw 2 rfl) (by decide) (by decide)) qa53 qc55 (g := (mkF m 41 #[iv p1, iv ((p1 &&& (2147483647 : Int32)) % (3 : Int32)), rv uSYSTEM_USER, iv 1] [(.ref uSYSTEM_USER)])) rfl (by rw [hml]; rfl) (Steps.refl _) (argsL := []) (rest := []) (lenOf pd1 rfl) rfl (by show 2 * 0 + _ ≤ _; exact Nat.le_of_eq rfl) (hb hby at_41) (fun _ _ => ⟨rfl, e33, (Nat.le_of_ble_eq_true rfl), (Nat.le_of_ble_eq_true rfl)⟩)
      dsimp only [Pt.U, Pt.locs, Pt.cells, Pt.slots] at X36 l42 y43 z44 st45 hQ41
      subst l42 y43 z44
      obtain ⟨rfl, N56, e47⟩ := hQ41
      have N46 := Fr.app N0 N56
      refine Way.to st45 ?_
      show Way _ _ _ _ (T35.setTop (mkF m 44 #[iv p1, iv ((p1 &&& (2147483647 : Int32)) % (3 : Int32)), rv uSYSTEM_USER, iv 1] [(.int (if uSYSTEM_USER = uGROUP then (0 : Int32) else 1))]))
      refine Way.by (fun _ k => XS.iloadN X36.here hx rfl (hb hby at_44) rfl k) ?_
      show Way _ _ _ _ (T35.setTop (mkF m 45 #[iv p1, iv ((p1 &&& (2147483647 : Int32)) % (3 : Int32)), rv uSYSTEM_USER, iv 1] [(.int 1), (.int (if uSYSTEM_USER = uGROUP then (0 : Int32) else 1))]))
      have b58 : (if uSYSTEM_USER = uGROUP then (0 : Int32) else 1) = (1 : Int32) := if_neg neS
      refine Way.by (fun _ k => XS.icmpNo X36.here hx rfl (hb hby at_45) rfl (teq b58).2 k) ?_
      show Way _ _ _ _ (T35.setTop (mkF m 48 #[iv p1, iv ((p1 &&& (2147483647 : Int32)) % (3 : Int32)), rv uSYSTEM_USER, iv 1] []))
      refine Way.by (fun _ k => XS.iconst X36.here hx rfl (hb hby at_48) k) ?_
      show Way _ _ _ _ (T35.setTop (mkF m 49 #[iv p1, iv ((p1 &&& (2147483647 : Int32)) % (3 : Int32)), rv uSYSTEM_USER, iv 1] [(.int 1)]))
      refine Way.by (fun _ k => XS.goto X36.here hx rfl (pc0 := 49) (pc' := 53) rfl (hb hby at_49) (by decide) (by decide) k) ?_
      show Way _ _ _ _ (T35.setTop (mkF m 53 #[iv p1, iv ((p1 &&& (2147483647 : Int32)) % (3 : Int32)), rv uSYSTEM_USER, iv 1] [(.int 1)]))
      refine Way.ret (v := (some (.int (nar .boolean (1 : Int32))))) X36 hlk (fun h => by rw [Bd.returns] at h; cases h) (fun fs hr => retN X36 hx (t := .boolean) Bd.returns (by simp) (hb hby at_53) hr) ?_ (by decide) (by decide)
      show Q0 n0 _ T35.heap _
      rw [e47]
      exact ⟨rfl, N46⟩
    · skip
      refine Way.by (fun _ k => XS.icmpYes X0.here hx rfl (pc0 := 22) (pc' := 34) rfl (hb hby at_22) rfl (feq b30).2 (by decide) (by decide) k) ?_
      show Way _ _ _ _ (s₁.setTop (mkF m 34 #[iv p1, iv ((p1 &&& (2147483647 : Int32)) % (3 : Int32)), .unset, .unset] []))
      obtain ⟨T59, X60, e61, st62⟩ := getS X0 hx hZ hown (host := "") (tw hw 11 rfl) Via.refl e0 SGROUP (g := (mkF m 34 #[iv p1, iv ((p1 &&& (2147483647 : Int32)) % (3 : Int32)), .unset, .unset] [])) rfl (hb hby at_34)
      refine Way.by st62 ?_
      show Way _ _ _ _ (T59.setTop (mkF m 37 #[iv p1, iv ((p1 &&& (2147483647 : Int32)) % (3 : Int32)), .unset, .unset] [(.ref uGROUP)]))
      refine Way.by (fun _ k => XS.astoreN X60.here hx rfl (hb hby at_37) rfl rfl (l' := #[iv p1, iv ((p1 &&& (2147483647 : Int32)) % (3 : Int32)), rv uGROUP, .unset]) rfl k) ?_
      show Way _ _ _ _ (T59.setTop (mkF m 38 #[iv p1, iv ((p1 &&& (2147483647 : Int32)) % (3 : Int32)), rv uGROUP, .unset] []))
      refine Way.by (fun _ k => XS.iconst X60.here hx rfl (hb hby at_38) k) ?_
      show Way _ _ _ _ (T59.setTop (mkF m 39 #[iv p1, iv ((p1 &&& (2147483647 : Int32)) % (3 : Int32)), rv uGROUP, .unset] [(.int 0)]))
      refine Way.by (fun _ k => XS.istoreN X60.here hx rfl (hb hby at_39) rfl (l' := #[iv p1, iv ((p1 &&& (2147483647 : Int32)) % (3 : Int32)), rv uGROUP, iv 0]) rfl k) ?_
      show Way _ _ _ _ (T59.setTop (mkF m 40 #[iv p1, iv ((p1 &&& (2147483647 : Int32)) % (3 : Int32)), rv uGROUP, iv 0] []))
      refine Way.by (fun _ k => XS.aloadN X60.here hx rfl (hb hby at_40) rfl rfl k) ?_
      show Way _ _ _ _ (T59.setTop (mkF m 41 #[iv p1, iv ((p1 &&& (2147483647 : Int32)) % (3 : Int32)), rv uGROUP, iv 0] [(.ref uGROUP)]))
      obtain ⟨cq79, kq80, qa81, qb82, qc83⟩ := isOf hZ e61 EGROUP
      obtain ⟨_, _, ⟨T63, L65, k66, n67⟩, -, X64, ⟨Lc68, hQ69, l70, y71, z72⟩, st73⟩ := X60.virtualBack hx (y := (⟨"com/example/unbound_principals/unboundprincipals/AuthorizableKind", "isUser", "()Z"⟩ : MethodName)) (z := (⟨"com/example/unbound_principals/unboundprincipals/AuthorizableKind", "isUser", "()Z"⟩ : MethodName)) hown (mvT hZ (tw hw 4 rfl)) (mvT hZ (tw hw 5 rfl)) (notFace_of_selects (args := #[]) (mvT hZ (tw hw 7 rfl))) (mvT hZ (tw hw 7 rfl)) (mvT hZ (tw hw 6 rfl)) (by decide) (backOf (W := 0) (rm1 l Z a0 hw [] uGROUP uGROUP h0 n0 Z0 SGROUP) hZ (tw hw 8 rfl) (tw hw 2 rfl) (by decide) (by decide)) qa81 qc83 (g := (mkF m 41 #[iv p1, iv ((p1 &&& (2147483647 : Int32)) % (3 : Int32)), rv uGROUP, iv 0] [(.ref uGROUP)])) rfl (by rw [hml]; rfl) (Steps.refl _) (argsL := []) (rest := []) (lenOf pd1 rfl) rfl (by show 2 * 0 + _ ≤ _; exact Nat.le_of_eq rfl) (hb hby at_41) (fun _ _ => ⟨rfl, e61, (Nat.le_of_ble_eq_true rfl), (Nat.le_of_ble_eq_true rfl)⟩)
      dsimp only [Pt.U, Pt.locs, Pt.cells, Pt.slots] at X64 l70 y71 z72 st73 hQ69
      subst l70 y71 z72
      obtain ⟨rfl, N84, e75⟩ := hQ69
      have N74 := Fr.app N0 N84
      refine Way.to st73 ?_
      show Way _ _ _ _ (T63.setTop (mkF m 44 #[iv p1, iv ((p1 &&& (2147483647 : Int32)) % (3 : Int32)), rv uGROUP, iv 0] [(.int (if uGROUP = uGROUP then (0 : Int32) else 1))]))
      refine Way.by (fun _ k => XS.iloadN X64.here hx rfl (hb hby at_44) rfl k) ?_
      show Way _ _ _ _ (T63.setTop (mkF m 45 #[iv p1, iv ((p1 &&& (2147483647 : Int32)) % (3 : Int32)), rv uGROUP, iv 0] [(.int 0), (.int (if uGROUP = uGROUP then (0 : Int32) else 1))]))
      have b86 : (if uGROUP = uGROUP then (0 : Int32) else 1) = (0 : Int32) := if_pos rfl
      refine Way.by (fun _ k => XS.icmpNo X64.here hx rfl (hb hby at_45) rfl (teq b86).2 k) ?_
      show Way _ _ _ _ (T63.setTop (mkF m 48 #[iv p1, iv ((p1 &&& (2147483647 : Int32)) % (3 : Int32)), rv uGROUP, iv 0] []))
      refine Way.by (fun _ k => XS.iconst X64.here hx rfl (hb hby at_48) k) ?_
      show Way _ _ _ _ (T63.setTop (mkF m 49 #[iv p1, iv ((p1 &&& (2147483647 : Int32)) % (3 : Int32)), rv uGROUP, iv 0] [(.int 1)]))
      refine Way.by (fun _ k => XS.goto X64.here hx rfl (pc0 := 49) (pc' := 53) rfl (hb hby at_49) (by decide) (by decide) k) ?_
      show Way _ _ _ _ (T63.setTop (mkF m 53 #[iv p1, iv ((p1 &&& (2147483647 : Int32)) % (3 : Int32)), rv uGROUP, iv 0] [(.int 1)]))
      refine Way.ret (v := (some (.int (nar .boolean (1 : Int32))))) X64 hlk (fun h => by rw [Bd.returns] at h; cases h) (fun fs hr => retN X64 hx (t := .boolean) Bd.returns (by simp) (hb hby at_53) hr) ?_ (by decide) (by decide)
      show Q0 n0 _ T63.heap _
      rw [e75]
      exact ⟨rfl, N74⟩
set_option maxRecDepth 65536 in
set_option maxHeartbeats 40000000 in
theorem comes_1 {Post : Tables → Env → Array Value → State → Outcome → State → Prop} (hpost : ∀ tb e args s v u, (limb_1_1.after args s (.returned v) u = true ∧ limb_1_2.after args s (.returned v) u = true ∧ True) → FrameEnd s (.returned v) u (Jvm.fieldLocs frame_1_writes args s ++ Jvm.arrayLocs frame_1_arrays args s ++ Jvm.staticLocs frame_1_statics s) 0 0 → Post tb e args s (.returned v) u) :
    ArmFor flags0 classFile x code maxLocals ret World_1 tables_1 room_1 Calls_1 rest_1 Pre_1 Post := by
  intro l hfl _ _ p e ha hc hk s m args below hf hA hF happ hP
  obtain ⟨hcalls, hrest, hpre⟩ := hP
  obtain ⟨-, -, -, hnamed, -, -, -, hat⟩ := (Spec.applies_iff hf).mp happ
  obtain ⟨hg, hn⟩ := and_e (Cond.before_iff.mp (show (Jvm.Cond.and given_1 narrow_1).before args s = true from hpre))
  obtain ⟨hg0, hgr0⟩ := and_e hg
  obtain ⟨w0, rfl⟩ : ∃ w0 : Value, args = #[w0] := by
    have hs : args.size = 1 := by simpa [Cond.value, given_1] using hg0
    obtain ⟨L⟩ := args
    match L, hs with
    | [w0], _ => exact ⟨w0, rfl⟩
  have hw := fun d (hd : d ∈ tables_1) => atoms_spec (ws := Jvm.Cond.code x code maxLocals ret :: tables_1) hat d (List.mem_cons_of_mem _ hd)
  have hfit : Fit s := fun {y c} hc i hi => by
    obtain ⟨ha, rfl⟩ := Array.getElem?_eq_some_iff.mp hc
    have q := List.all_eq_true.mp ((Array.all_eq_true_iff_forall_mem.mp hF) _ (Array.getElem_mem ha)) i (List.mem_range.mpr hi)
    simpa [Array.getElem?_eq_getElem hi] using q
  obtain ⟨i0, ei0⟩ := is_v hgr0
  obtain rfl : w0 = (.int i0) := Option.some.inj ei0
  obtain ⟨hn0, hnr0⟩ := and_e hn
  obtain ⟨hn1, hnr1⟩ := and_e hnr0
  obtain ⟨hn2, hnr2⟩ := and_e hnr1
  obtain ⟨hn3, hnr3⟩ := and_e hnr2
  obtain ⟨hn4, hnr4⟩ := and_e hnr3
  obtain ⟨uUSER, _, _, _, evUSER, -⟩ := Cond.exactly_spec (Cond.before_iff.mpr hn0)
  have SUSER := Sta.start evUSER (Or.inr ⟨(tw hw 2 rfl), (tw hw 3 rfl)⟩)
  have EUSER := Exa.start evUSER hn0
  obtain ⟨uGROUP, _, _, _, evGROUP, -⟩ := Cond.exactly_spec (Cond.before_iff.mpr hn1)
  have SGROUP := Sta.start evGROUP (Or.inr ⟨(tw hw 2 rfl), (tw hw 10 rfl)⟩)
  have EGROUP := Exa.start evGROUP hn1
  obtain ⟨uSYSTEM_USER, _, _, _, evSYSTEM_USER, -⟩ := Cond.exactly_spec (Cond.before_iff.mpr hn4)
  have SSYSTEM_USER := Sta.start evSYSTEM_USER (Or.inr ⟨(tw hw 2 rfl), (tw hw 13 rfl)⟩)
  have ESYSTEM_USER := Exa.start evSYSTEM_USER hn4
  have FUSER_ordinal := fldStart evUSER hn2
  have FGROUP_ordinal := fldStart evGROUP hn3
  have FSYSTEM_USER_ordinal := fldStart evSYSTEM_USER hnr4
  have neU := Fld.ne FUSER_ordinal FGROUP_ordinal (by decide)
  have neS := Fld.ne FSYSTEM_USER_ordinal FGROUP_ordinal (by decide)
  obtain ⟨n, o, h1, h2, h3, _, L, rfl, ⟨rfl, N⟩, hq⟩ := rm0 l s _ hw tables_1 i0 uUSER uGROUP uSYSTEM_USER s.heap s.heap.size (Nat.le_refl _) SUSER EUSER SGROUP EGROUP SSYSTEM_USER ESYSTEM_USER neU neS p e ha hc hk s m _ below hf ((Spec.applies_iff_loose hf).mp happ).1 ⟨rfl, State.Warmed39.refl s, rfl⟩ trivial
  refine ⟨n, _, h1, h2, h3, hpost _ _ _ _ _ _ ⟨Cond.after_iff.mpr rfl, Cond.after_iff.mpr (eq_i res_at (Term.int_eval (1)) rfl), trivial⟩ ⟨hq.1, hq.2.1, (hq.2.2.sift fun y hy => Or.inr (N y hy)).mono (by decide) (by decide)⟩⟩
theorem main_1_1 : Claimed_1_1 := comes_1 fun _ _ _ _ _ _ h hF => ⟨h.1, hF⟩
theorem main_1_2 : Claimed_1_2 := comes_1 fun _ _ _ _ _ _ h hF => ⟨h.2.1, hF⟩
end Jvm.Pilot.@@N@@
namespace Jvm.Pilot.@@N@@
open Jvm Jvm.ClassFile Sem Op Lib Jvm.Free Jvm.Stand Jvm.Pilot.@@N@@.Jvm.D
/-! MADE BY PROGRAM (witnessworld.py) out of the Statement's table words and the real class files: 10 classes; the members and pool entries that the words name. The judged class is class 1, her method 1. -/
namespace start1
open Jvm.ClassFile
def u (s : String) : CpInfo := .utf8 (stringToUtf16 s)
/-- a pool by its gaps: so many unusable entries, then the entry; so many at the end -/
def gap : Nat → List CpInfo → List CpInfo
  | 0, r => r
  | n + 1, r => .unusable :: gap n r
def poolList (es : List (Nat × CpInfo)) (last : Nat) : List CpInfo := es.foldr (fun e r => gap e.1 (e.2 :: r)) (gap last [])
def pool (es : List (Nat × CpInfo)) (last : Nat) : Array CpInfo := ⟨poolList es last⟩
def fileOf (pool : Array CpInfo) (this : Nat) (attrs : Array Attribute := #[]) (ms : Array MethodInfo := #[]) (fl : Nat := 33) (sup : Nat := 0) (ifs : Array Nat := #[]) (fds : Array FieldInfo := #[]) : ClassFile where
  minorVersion := 0
  majorVersion := 65
  constantPool := pool
  accessFlags := fl
  thisClass := this
  superClass := sup
  interfaces := ifs
  fields := fds
  methods := ms
  attributes := attrs
def plain (name : String) (sup : Option ClassId) : Class where
  name := name
  kind := .ordinary
  loader := none
  accessFlags := 33
  super := sup
  interfaces := #[]
  cf := none
  fields := #[]
  methods := #[]
  instanceTypes := #[]
  staticTypes := #[]
  resolved := #[]
  callSites := []
  init := .initialized
  statics := none
  mirror := none

def pool0 : Array CpInfo := pool [(5, u "<init>"), (0, u "()V"), (1, .class_ 10), (1, u "java/lang/Object")] 113

def k0m0 : Method := { name := "<init>", desc := "()V", sig := { parameters := [], returnType := none }, accessFlags := 1, code := none }
/-- java/lang/Object -/
def k0 : Class := { plain "java/lang/Object" none with
  accessFlags := 33
  interfaces := #[]
  cf := some (fileOf pool0 8 #[] #[{ accessFlags := 1, nameIndex := 5, descriptorIndex := 6, attributes := #[] }] 33 0 #[] #[])
  fields := #[]
  methods := #[k0m0]
  instanceTypes := #[]
  staticTypes := #[]
  resolved := Array.replicate 124 none
  statics := none }

def pool1 : Array CpInfo := pool [(2, .class_ 4), (1, u "java/lang/Object"), (0, u "<init>"), (0, u "()V"), (0, .integer 2147483647), (0, .fieldref 9 10), (0, .class_ 11), (0, .nameAndType 12 13), (0, u "com/example/unbound_principals/unboundprincipals/AuthorizableKind"), (0, u "USER"), (0, u "Lcom/example/unbound_principals/unboundprincipals/AuthorizableKind;"), (0, .fieldref 9 15), (0, .nameAndType 16 13), (0, u "SYSTEM_USER"), (0, .fieldref 9 18), (0, .nameAndType 19 13), (0, u "GROUP"), (0, .methodref 9 21), (0, .nameAndType 22 23), (0, u "isUser"), (0, u "()Z"), (0, .class_ 25), (0, u "com/example/unbound_principals/unboundprincipals/AuthorizableKindIsUserPinLaw"), (2, u "law"), (0, u "(I)Z")] 3

def k1m0 : Method := { name := "<init>", desc := "()V", sig := { parameters := [], returnType := none }, accessFlags := 1, code := none }
def k1c1 : Code := { maxStack := 2, maxLocals := 4, code := code, exceptionTable := #[], attributes := #[] }
def k1m1 : Method := { name := "law", desc := "(I)Z", sig := { parameters := [.int], returnType := some .boolean }, accessFlags := 9, code := some k1c1 }
/-- com/example/unbound_principals/unboundprincipals/AuthorizableKindIsUserPinLaw -/
def k1 : Class := { plain "com/example/unbound_principals/unboundprincipals/AuthorizableKindIsUserPinLaw" (some 0) with
  accessFlags := 49
  interfaces := #[]
  cf := some (fileOf pool1 24 #[] #[{ accessFlags := 1, nameIndex := 5, descriptorIndex := 6, attributes := #[] }, { accessFlags := 9, nameIndex := 28, descriptorIndex := 29, attributes := #[] }] 49 2 #[] #[])
  fields := #[]
  methods := #[k1m0, k1m1]
  instanceTypes := #[]
  staticTypes := #[]
  resolved := Array.replicate 33 none
  statics := none }

def pool2 : Array CpInfo := pool [(1, .class_ 2), (0, u "java/lang/constant/Constable"), (0, .class_ 4), (0, u "java/lang/Object")] 6

/-- java/lang/constant/Constable -/
def k2 : Class := { plain "java/lang/constant/Constable" (some 0) with
  accessFlags := 1537
  interfaces := #[]
  cf := some (fileOf pool2 1 #[] #[] 1537 3 #[] #[])
  fields := #[]
  methods := #[]
  instanceTypes := #[]
  staticTypes := #[]
  resolved := Array.replicate 11 none
  statics := none }

def pool3 : Array CpInfo := pool [(1, .class_ 2), (0, u "java/lang/Comparable"), (0, .class_ 4), (0, u "java/lang/Object")] 7

/-- java/lang/Comparable -/
def k3 : Class := { plain "java/lang/Comparable" (some 0) with
  accessFlags := 1537
  interfaces := #[]
  cf := some (fileOf pool3 1 #[] #[] 1537 3 #[] #[])
  fields := #[]
  methods := #[]
  instanceTypes := #[]
  staticTypes := #[]
  resolved := Array.replicate 12 none
  statics := none }

def pool4 : Array CpInfo := pool [(1, .class_ 2), (0, u "java/io/Serializable"), (0, .class_ 4), (0, u "java/lang/Object")] 2

/-- java/io/Serializable -/
def k4 : Class := { plain "java/io/Serializable" (some 0) with
  accessFlags := 1537
  interfaces := #[]
  cf := some (fileOf pool4 1 #[] #[] 1537 3 #[] #[])
  fields := #[]
  methods := #[]
  instanceTypes := #[]
  staticTypes := #[]
  resolved := Array.replicate 7 none
  statics := none }

def pool5 : Array CpInfo := pool [(2, .class_ 4), (1, u "java/lang/Enum"), (0, u "name"), (0, u "Ljava/lang/String;"), (2, u "ordinal"), (0, u "I"), (1, .class_ 14), (1, u "java/lang/Object"), (4, u "hash"), (86, .class_ 108), (1, u "java/lang/Enum$EnumDesc"), (2, .class_ 112), (0, u "java/lang/constant/Constable"), (0, .class_ 114), (0, u "java/lang/Comparable"), (0, .class_ 116), (0, u "java/io/Serializable")] 87

/-- java/lang/Enum -/
def k5 : Class := { plain "java/lang/Enum" (some 0) with
  accessFlags := 1057
  interfaces := #[2, 3, 4]
  cf := some (fileOf pool5 2 #[.nestMembers #[106]] #[] 1057 12 #[111, 113, 115] #[{ accessFlags := 18, nameIndex := 5, descriptorIndex := 6, attributes := #[] }, { accessFlags := 18, nameIndex := 9, descriptorIndex := 10, attributes := #[] }, { accessFlags := 2, nameIndex := 19, descriptorIndex := 10, attributes := #[] }])
  fields := #[{ name := "name", type := (.object "java/lang/String"), accessFlags := 18, slot := 0, constantValue := 0 }, { name := "ordinal", type := .int, accessFlags := 18, slot := 1, constantValue := 0 }, { name := "hash", type := .int, accessFlags := 2, slot := 2, constantValue := 0 }]
  methods := #[]
  instanceTypes := #[(.object "java/lang/String"), .int, .int]
  staticTypes := #[]
  resolved := Array.replicate 204 none
  statics := none }

def pool6 : Array CpInfo := pool [(1, .class_ 2), (0, u "com/example/unbound_principals/unboundprincipals/AuthorizableKind"), (2, u "USER"), (0, u "Lcom/example/unbound_principals/unboundprincipals/AuthorizableKind;"), (2, u "SYSTEM_USER"), (0, .fieldref 1 11), (0, .nameAndType 12 6), (0, u "GROUP"), (2, u "$VALUES"), (0, u "[Lcom/example/unbound_principals/unboundprincipals/AuthorizableKind;"), (6, .class_ 25), (1, u "java/lang/Enum"), (8, u "nodeType"), (0, u "Ljava/lang/String;"), (33, u "isUser"), (0, u "()Z")] 7

def k6c0 : Code := { maxStack := 2, maxLocals := 1, code := prog_1_method_5_code, exceptionTable := #[], attributes := #[] }
def k6m0 : Method := { name := "isUser", desc := "()Z", sig := { parameters := [], returnType := some .boolean }, accessFlags := 1, code := some k6c0 }
/-- com/example/unbound_principals/unboundprincipals/AuthorizableKind -/
def k6 : Class := { plain "com/example/unbound_principals/unboundprincipals/AuthorizableKind" (some 5) with
  accessFlags := 16433
  interfaces := #[]
  cf := some (fileOf pool6 1 #[] #[{ accessFlags := 1, nameIndex := 69, descriptorIndex := 70, attributes := #[] }] 16433 23 #[] #[{ accessFlags := 16409, nameIndex := 5, descriptorIndex := 6, attributes := #[] }, { accessFlags := 16409, nameIndex := 9, descriptorIndex := 6, attributes := #[] }, { accessFlags := 16409, nameIndex := 12, descriptorIndex := 6, attributes := #[] }, { accessFlags := 18, nameIndex := 34, descriptorIndex := 35, attributes := #[] }, { accessFlags := 4122, nameIndex := 15, descriptorIndex := 16, attributes := #[] }])
  fields := #[{ name := "USER", type := (.object "com/example/unbound_principals/unboundprincipals/AuthorizableKind"), accessFlags := 16409, slot := 0, constantValue := 0 }, { name := "SYSTEM_USER", type := (.object "com/example/unbound_principals/unboundprincipals/AuthorizableKind"), accessFlags := 16409, slot := 1, constantValue := 0 }, { name := "GROUP", type := (.object "com/example/unbound_principals/unboundprincipals/AuthorizableKind"), accessFlags := 16409, slot := 2, constantValue := 0 }, { name := "nodeType", type := (.object "java/lang/String"), accessFlags := 18, slot := 3, constantValue := 0 }, { name := "$VALUES", type := (.array (.object "com/example/unbound_principals/unboundprincipals/AuthorizableKind")), accessFlags := 4122, slot := 3, constantValue := 0 }]
  methods := #[k6m0]
  instanceTypes := #[(.object "java/lang/String"), .int, .int, (.object "java/lang/String")]
  staticTypes := #[(.object "com/example/unbound_principals/unboundprincipals/AuthorizableKind"), (.object "com/example/unbound_principals/unboundprincipals/AuthorizableKind"), (.object "com/example/unbound_principals/unboundprincipals/AuthorizableKind"), (.array (.object "com/example/unbound_principals/unboundprincipals/AuthorizableKind"))]
  resolved := Array.replicate 78 none
  statics := some 0 }

def pool7 : Array CpInfo := pool [(1, u "java/lang/Cloneable"), (0, .class_ 1), (0, u "java/lang/Object"), (0, .class_ 3)] 3

/-- java/lang/Cloneable -/
def k7 : Class := { plain "java/lang/Cloneable" (some 0) with
  accessFlags := 1537
  interfaces := #[]
  cf := some (fileOf pool7 2 #[] #[] 1537 4 #[] #[])
  fields := #[]
  methods := #[]
  instanceTypes := #[]
  staticTypes := #[]
  resolved := Array.replicate 8 none
  statics := none }

/-- the primitive byte -/
def k8 : Class := { plain "byte" none with kind := .primitive 'B', accessFlags := 0x411 }
/-- [B -/
def k9 : Class := { plain "[B" (some 0) with kind := .array 8 .byte, interfaces := #[7, 4], accessFlags := 1041 }

def heap : Heap := #[{ cls := 6, slots := #[.ref 1, .ref 3, .ref 2, .null], vm := .statics 6 },
  { cls := 6, slots := #[.null, .int 0, .int 0, .null], vm := .none },
  { cls := 6, slots := #[.null, .int 2, .int 0, .null], vm := .none },
  { cls := 6, slots := #[.null, .int 1, .int 0, .null], vm := .none }]
def classes : Array Class := #[k0, k1, k2, k3, k4, k5, k6, k7, k8, k9]
def interned : List (Array UInt16 × Addr) := []
def slotsUsed : Nat := 16
def theMethod : MethodId := ⟨1, 1⟩
def args0 : Array Value := #[.int 5]
def aboutOver (below : List Frame) : State where
  vm := { classes := classes, interned := interned.toArray }
  heap := heap
  slotsUsed := slotsUsed
  threads := #[{ frames := .invoking theMethod args0 :: below }]
def below0 : List Frame := [.native { method := ⟨0, 0⟩, args := #[] }]
def about1 : State := aboutOver below0
def p0 : Program := .bare "" "" ""
def e0 : Env := launch0.env 0 0 0
theorem w_frames : about1.frames = Frame.invoking theMethod args0 :: below0 := rfl
set_option maxRecDepth 65536 in
theorem w_args : argsFit about1.vm theMethod args0 = true := by decide +kernel
set_option maxRecDepth 65536 in
theorem w_heap : heapFits about1 = true := by decide +kernel
set_option maxRecDepth 65536 in
theorem w_runnable : about1.curStatus? = some .runnable := by decide +kernel
set_option maxRecDepth 65536 in
theorem w_alone : about1.alone = true := by decide +kernel
set_option maxRecDepth 65536 in
theorem w_named : about1.methodNamed? x = some theMethod := by decide +kernel
set_option maxRecDepth 65536 in
theorem w_hears : about1.hears theMethod below0 = true := by decide +kernel
set_option maxRecDepth 65536 in
theorem w_ripe : about1.ripe theMethod args0 below0 = true := by decide +kernel
theorem w_running : about1.status = .running := rfl
set_option maxRecDepth 65536 in
theorem w_room : about1.hasRoom e0.platform room_1 = true :=
  launch0.hasRoom_least _ room_1 (by decide +kernel) (by decide +kernel) (by decide +kernel) (by decide +kernel) (by decide +kernel) (by decide +kernel)
theorem allAtoms_all (ts : List Jvm.Cond) (a : Array Jvm.Value) (st : Jvm.State) : (allAtoms ts).before a st = ts.all (fun c => c.before a st) := by
  induction ts with
  | nil => rfl
  | cons c t ih =>
    show (Jvm.Cond.and c (allAtoms t)).before a st = _
    rw [Jvm.Cond.before_and, ih, List.all_cons]
def words1 : List Jvm.Cond := Jvm.Cond.code x code maxLocals ret :: tables_1
/-- a 'code' word, met by the world's own term for the bytes: nothing is compared byte by byte -/
theorem code_word {y : MethodName} {bytes : ByteArray} {mx : Nat} {rt : Option FieldType} {a : Array Value} {s : State} {m : MethodId} {meth : Method} {c : Code} (h1 : s.methodNamed? y = some m) (h2 : s.vm.method? m = some meth) (h3 : meth.code = some c) (h4 : c.code = bytes)
    (h5 : (c.maxLocals == mx && c.exceptionTable.isEmpty && decide (c.maxStack ≤ mostOperands) && decide (meth.sig.returnType = rt) && !meth.locks && decide (parseMethodDescriptor y.desc = some meth.sig)) = true) : (Jvm.Cond.code y bytes mx rt).before a s = true := by
  simp only [Bool.and_eq_true, beq_iff_eq, Bool.not_eq_true', decide_eq_true_eq] at h5
  obtain ⟨⟨⟨⟨⟨g1, g2⟩, g3⟩, g4⟩, g5⟩, g6⟩ := h5
  simp [Cond.before, Cond.holds, Cond.value, h1, h2, h3, h4, g1, g2, g3, g4, g5, g6]
def isCode : Jvm.Cond → Bool
  | .code _ _ _ _ => true
  | _ => false
theorem all_split {L : List Jvm.Cond} {P : Jvm.Cond → Bool} (h1 : L.all (fun c => isCode c || P c) = true) (h2 : ∀ c ∈ L.filter isCode, P c = true) : L.all P = true := by
  refine List.all_eq_true.mpr fun c hc => ?_
  have h := List.all_eq_true.mp h1 c hc
  rcases Bool.eq_false_or_eq_true (isCode c) with hi | hi
  · exact h2 c (List.mem_filter.mpr ⟨hc, hi⟩)
  · simpa [hi] using h
set_option maxRecDepth 65536 in
theorem w_c0 : (Jvm.Cond.code x code maxLocals ret).before args0 about1 = true := code_word (m := ⟨1, 1⟩) (meth := k1m1) (c := k1c1) (by decide +kernel) rfl rfl rfl (by decide +kernel)
set_option maxRecDepth 65536 in
theorem w_c1 : (Jvm.Cond.code ({ cls := "com/example/unbound_principals/unboundprincipals/AuthorizableKind", name := "isUser", desc := "()Z" } : Jvm.MethodName) prog_1_method_5_code (1 : Nat) (Option.some Jvm.ClassFile.FieldType.boolean)).before args0 about1 = true := code_word (m := ⟨6, 0⟩) (meth := k6m0) (c := k6c0) (by decide +kernel) rfl rfl rfl (by decide +kernel)
def codes1 : List Jvm.Cond := [Jvm.Cond.code x code maxLocals ret, Jvm.Cond.code ({ cls := "com/example/unbound_principals/unboundprincipals/AuthorizableKind", name := "isUser", desc := "()Z" } : Jvm.MethodName) prog_1_method_5_code (1 : Nat) (Option.some Jvm.ClassFile.FieldType.boolean)]
set_option maxRecDepth 65536 in
theorem codes_eq : words1.filter isCode = codes1 := rfl
theorem w_codes : ∀ c ∈ words1.filter isCode, c.before args0 about1 = true := by
  rw [codes_eq]
  intro c hc
  simp only [codes1, List.mem_cons, List.not_mem_nil, or_false] at hc
  rcases hc with rfl | rfl
  · exact w_c0
  · exact w_c1
set_option maxRecDepth 65536 in
theorem w_t1 : words1.all (fun c => isCode c || c.before args0 about1) = true := by decide +kernel
theorem w_tables : (allAtoms (Jvm.Cond.code x code maxLocals ret :: tables_1)).before args0 about1 = true := by
  rw [allAtoms_all]
  show words1.all (fun c => c.before args0 about1) = true
  refine all_split ?_ w_codes
  rw [w_t1]
set_option maxRecDepth 65536 in
theorem w_case : (Jvm.Cond.and given_1 narrow_1).before args0 about1 = true := by decide +kernel
theorem w_applies : (headSpec (Jvm.Cond.code x code maxLocals ret :: tables_1) room_1).applies x e0.platform about1 = true :=
  (Spec.applies_iff w_frames).mpr ⟨w_running, w_runnable, w_alone, w_named, w_hears, w_ripe, w_room, w_tables⟩
theorem atStart : AtStart classFile x code maxLocals ret World_1 tables_1 room_1 Calls_1 rest_1 Pre_1 launch0 p0 e0 about1 theMethod args0 below0 :=
  ⟨lists_1, trivial, launch0.admits_env _ _ _, launch0.least_env, fairChoices_fair.cas, fairChoices_fair.clock, w_frames, w_args, w_heap, w_applies, trivial, trivial, w_case⟩
end start1
theorem witness_1 : WitnessClaimed_1 := ⟨start1.p0, start1.e0, start1.about1, start1.theMethod, start1.args0, start1.below0, start1.atStart⟩
end Jvm.Pilot.@@N@@
