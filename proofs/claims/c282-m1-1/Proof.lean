import JvmDerived
import JvmDerived.Pilot.@@N@@Statement
import JvmDerived.Pilot.@@N@@Code
set_option linter.unusedVariables false
set_option linter.unusedSimpArgs false
namespace Jvm.RoadKit
open Sem ClassFile Op Lib Jvm.Stand Jvm.Free Jvm.LawKit
section Own
variable {p : Program} {l : Launch} {e : Env} {R : Room} {s : State} {m : MethodId} {args : Array Value} {below : List Frame} {meth : Method} {c : Code} {T : State} {locs : List Loc} {cells slots : Nat}
theorem retI (X : Stand p l e R s m args below meth c T locs cells slots) (hx : p.tables.exec = Jvm.exec) {pc : Nat} {Ls : Array Slot} {z : Int32} {rest : List Value} (hret : meth.sig.returnType = some .int) (hd : decode c.code pc = .ok (.ireturn, 1)) {fs : List Frame}
    (hl : ∀ (f : JFrame) (acts : List Action), f.method = m → f.locked = none → f.entered = [] → (doReturn e (T.setTop f) acts (some (.int z))).1 = T.setFrames fs) : Steps p.tables e below (T.setTop (mkF m pc Ls (.int z :: rest))) (T.setFrames fs) := by
  have hm' : T.vm.method? m = some meth := X.method'
  have hn : narrow .int (.int z) = .int z := rfl
  show Steps p.tables e below (T.setTop { method := m, pc := pc, locals := Ls, stack := _ :: rest, locked := none }) _
  jvm_step X.here [X.here.top, hx, hd, hm', hret, hn]
  first | (intro acts; rw [hl _ acts rfl rfl rfl]) | rw [hl _ _ rfl rfl rfl]
  exact Steps.refl _
/-- the walk from S ends as K says -/
def Way (tb : Tables) (e : Env) (below : List Frame) (K : Outcome → State → Prop) (S : State) : Prop := ∃ s₂ o, Steps tb e below S s₂ ∧ s₂.status = .running ∧ Ended s₂ below o ∧ K o s₂
theorem Way.by {tb : Tables} {K : Outcome → State → Prop} {A B : State} (st : ∀ t, Steps tb e below B t → Steps tb e below A t) (h : Way tb e below K B) : Way tb e below K A := by
  obtain ⟨s₂, o, h1, h2⟩ := h; exact ⟨s₂, o, st _ h1, h2⟩
theorem Way.to {tb : Tables} {K : Outcome → State → Prop} {A B : State} (st : Steps tb e below A B) (h : Way tb e below K B) : Way tb e below K A := by
  obtain ⟨s₂, o, h1, h2⟩ := h; exact ⟨s₂, o, st.trans h1, h2⟩
abbrev KQ (s : State) (Q : Option Value → Heap → List Loc → Prop) (C S : Nat) : Outcome → State → Prop := fun o s₂ => ∃ v L, o = .returned v ∧ Q v s₂.heap L ∧ FrameEnd s o s₂ L C S
theorem Way.ret {Q : Option Value → Heap → List Loc → Prop} {C S : Nat} {A : State} {v : Option Value} (X : Stand p l e R s m args below meth c T locs cells slots) (hlk : meth.locks = false) (hv : meth.sig.returnType = none → v = none)
    (hret : ∀ fs, (∀ (f : JFrame) (acts : List Action), f.method = m → f.locked = none → f.entered = [] → (doReturn e (T.setTop f) acts v).1 = T.setFrames fs) → Steps p.tables e below A (T.setFrames fs))
    (hQ : Q v T.heap locs) (hc : cells ≤ C) (hs : slots ≤ S) : Way p.tables e below (KQ s Q C S) A := by
  obtain ⟨fs, hr, hrun, hended, hW, hsame⟩ := X.leave hv hlk
  exact ⟨_, _, hret fs hr, hrun, hended, _, _, rfl, hQ, ⟨_, rfl⟩, hW, hsame.mono hc hs⟩
abbrev KQW (s : State) (Q : Option Value → Heap → List Loc → Prop) (C S : Nat) : Outcome → State → Prop := fun o s₂ => ∃ v L, o = .returned v ∧ Q v s₂.heap L ∧ ReturnedEndW s o s₂ L C S
theorem Way.retW {Q : Option Value → Heap → List Loc → Prop} {C S : Nat} {A : State} {v : Option Value} {vm1 : Vm} {n : Nat} (X : Stand p l e R (s.setVm vm1) m args below meth c T locs cells slots) (hS : s.Since vm1 n) (hn : n ≤ T.heap.size) (hlk : meth.locks = false) (hv : meth.sig.returnType = none → v = none)
    (hret : ∀ fs, (∀ (f : JFrame) (acts : List Action), f.method = m → f.locked = none → f.entered = [] → (doReturn e (T.setTop f) acts v).1 = T.setFrames fs) → Steps p.tables e below A (T.setFrames fs))
    (hQ : Q v T.heap locs) (hc : cells ≤ C) (hs : slots ≤ S) : Way p.tables e below (KQW s Q C S) A := by
  obtain ⟨fs, hr, hrun, hended, h1, h2, h3, h4⟩ := X.leaveW hS hn hv hlk
  exact ⟨_, _, hret fs hr, hrun, hended, _, _, rfl, hQ, h1, h2, h3, h4.mono hc hs⟩
abbrev KQH (s Z : State) (EL : List (String × Nat)) (Q : Option Value → Heap → List Loc → Prop) (C S : Nat) : Outcome → State → Prop := fun o s₂ => ∃ v L, o = .returned v ∧ Q v s₂.heap L ∧ CHr Z EL s.vm s.heap s₂.vm s₂.heap ∧ ReturnedEndW s o s₂ L C S
theorem Way.retH {Z : State} {a0 : Array Value} {EL : List (String × Nat)} {Q : Option Value → Heap → List Loc → Prop} {C S : Nat} {A : State} {v : Option Value} {vm1 : Vm} {n : Nat} {h h0 : Heap} (X : Stand p l e R (s.setVm vm1) m args below meth c T locs cells slots) (hS : s.Since vm1 n) (hn : n ≤ T.heap.size) (hZ : Z.Warmed39 vm1) (hEL : EW Z a0 EL) (hh : s.heap = h0) (eT : T.heap = h) (H : CHv Z EL vm1 h) (CH : CHr Z EL s.vm h0 vm1 h) (hlk : meth.locks = false) (hv : meth.sig.returnType = none → v = none)
    (hret : ∀ fs, (∀ (f : JFrame) (acts : List Action), f.method = m → f.locked = none → f.entered = [] → (doReturn e (T.setTop f) acts v).1 = T.setFrames fs) → Steps p.tables e below A (T.setFrames fs))
    (hQ : Q v T.heap locs) (hc : cells ≤ C) (hs : slots ≤ S) : Way p.tables e below (KQH s Z EL Q C S) A := by
  obtain ⟨fs, hr, hrun, hended, h1, h2, h3, h4⟩ := X.leaveW hS hn hv hlk
  refine ⟨_, _, hret fs hr, hrun, hended, _, _, rfl, hQ, ?_, h1, h2, h3, h4.mono hc hs⟩
  have B := CHv.at X hZ hEL H
  show CHr Z EL s.vm s.heap T.vm T.heap
  rw [hh, eT]; exact CH.trans B
theorem fldStart {Z : State} {args : Array Value} {t : Term} {a : Addr} {C n d : String} {k : Int32} (ev : t.eval args Z none [] Z = some (.ref a)) (h : (Cond.eq (.field t C n d) (.int k)).value args Z none Z [] = some true) : Fld Z Z.heap a C n d (.int k) := by
  refine Fld.start ?_
  have e1 : (Term.field t C n d).eval args Z none [] Z = Z.fieldOf? a C n d := fld_at ev
  simp only [Cond.value] at h
  rw [e1, show (Term.int k).eval args Z none [] Z = some (.int k) from rfl] at h
  cases hf : Z.fieldOf? a C n d with
  | none => simp [hf] at h
  | some w => cases w <;> simp [hf] at h ⊢; exact h
theorem hpE {T : State} {h : Heap} {a : Addr} {c : Cell} (e : T.heap = h) (A : h[a]? = some c) : T.heap[a]? = some c := by rw [e]; exact A
theorem remB (x d : Int32) (D : Int) (hd : d.toInt = D) (h0 : 0 < D) : 0 ≤ ((x &&& 2147483647) % d).toInt ∧ ((x &&& 2147483647) % d).toInt < D := by
  have h1 := c_and x 2147483647 (by decide)
  rw [(c_irem (x &&& 2147483647) d D hd).1 h1.1]
  exact ⟨Int.emod_nonneg _ (by omega), Int.emod_lt_of_pos _ h0⟩
theorem cases3 {k : Int32} (h : 0 ≤ k.toInt ∧ k.toInt < 3) : k = 0 ∨ k = 1 ∨ k = 2 := by
  have q : k.toInt = 0 ∨ k.toInt = 1 ∨ k.toInt = 2 := by omega
  rcases q with q | q | q
  · exact Or.inl (Int32.toInt_inj.mp q)
  · exact Or.inr (Or.inl (Int32.toInt_inj.mp q))
  · exact Or.inr (Or.inr (Int32.toInt_inj.mp q))
theorem cases5 {k : Int32} (h : 0 ≤ k.toInt ∧ k.toInt < 5) : k = 0 ∨ k = 1 ∨ k = 2 ∨ k = 3 ∨ k = 4 := by
  have q : k.toInt = 0 ∨ k.toInt = 1 ∨ k.toInt = 2 ∨ k.toInt = 3 ∨ k.toInt = 4 := by omega
  rcases q with q | q | q | q | q
  · exact Or.inl (Int32.toInt_inj.mp q)
  · exact Or.inr (Or.inl (Int32.toInt_inj.mp q))
  · exact Or.inr (Or.inr (Or.inl (Int32.toInt_inj.mp q)))
  · exact Or.inr (Or.inr (Or.inr (Or.inl (Int32.toInt_inj.mp q))))
  · exact Or.inr (Or.inr (Or.inr (Or.inr (Int32.toInt_inj.mp q))))
theorem nfSel {s : State} {args : Array Value} {C : String} {y z : MethodName} (hyz : z.cls = y.cls) (hsel : (Cond.selects C z z).before args s = true) : NotFace s y := fun r0 h0 => by
  obtain ⟨c, r, m, -, -, hn, -, mk, hk, hni⟩ := Cond.selects_spec hsel
  have e1 := findClass_of_methodNamed h0
  have e2 := findClass_of_methodNamed hn
  rw [hyz, e1] at e2
  refine ⟨mk, ?_, hni⟩
  first | (rw [Option.some.inj e2]; exact hk) | (rw [← Option.some.inj e2]; exact hk)
theorem sameOwn {s : State} {args : Array Value} {C : String} {y z : MethodName} (hyz : z.cls = y.cls) (hsel : (Cond.selects C z z).before args s = true) (hinst : (Cond.instanceMethod y).before args s = true) (hy : y.cls ≠ "java/lang/invoke/MethodHandle" ∧ y.cls ≠ "java/lang/invoke/VarHandle") : (Cond.sameMethod y.cls y.cls y.name y.desc).before args s = true := by
  obtain ⟨mk, methM, hnamed, -⟩ := Cond.instanceMethod_spec hinst
  obtain ⟨kr, hk, hni⟩ := nfSel hyz hsel mk hnamed
  have hf := State.methodFound?_of_named hnamed hy
  have hc := findClass_of_methodNamed hnamed
  have hn2 : s.methodNamed? ⟨y.cls, y.name, y.desc⟩ = some mk := hnamed
  simp [Cond.before, Cond.holds, Cond.value, hc, hf, hn2, hk, hni]
theorem selPriv {s : State} {args : Array Value} {C : String} {y z : MethodName} (hyz : z.cls = y.cls) (hsel : (Cond.selects C z z).before args s = true) (hpriv : s.PrivateAt y) (hinst : (Cond.instanceMethod y).before args s = true) (hy : y.cls ≠ "java/lang/invoke/MethodHandle" ∧ y.cls ≠ "java/lang/invoke/VarHandle") : (Cond.selects y.cls y y).before args s = true := by
  obtain ⟨c, r, m, -, -, hn, -, mk, hk, hni⟩ := Cond.selects_spec hsel
  exact selects_self_of_private (by rw [← hyz]; exact findClass_of_methodNamed hn) hk hni hpriv hinst hy
/-- the boxes' cache at the start, out of the assumed words -/
theorem cacheStart {Z : State} {args : Array Value} {LCC LAD LC : String} {c2 : Cond} (wi : (Cond.initializedFor LCC "cache" LAD).before args Z = true ∨ ((Cond.initialized LCC).before args Z = true ∧ (Cond.laysStatic LCC "cache" LAD).before args Z = true))
    (w2 : (Cond.arrayOf (.static LCC "cache" LAD) (.object LC)).before args Z = true) (wx : (Cond.exactly (.static LCC "cache" LAD) LAD).before args Z = true) (w3 : (Cond.eq (.length (.static LCC "cache" LAD)) (.int 256)).before args Z = true)
    (w4 : (Cond.all (.static LCC "cache" LAD) (.and (.exactly (.elem (.static LCC "cache" LAD) (.index 0)) LC) c2)).before args Z = true) :
    ∃ (arr : Addr) (cl : Cell), Sta Z Z.heap LCC "cache" LAD (.ref arr) ∧ Arr Z Z.heap arr cl (.object LC) ∧ cl.slots.size = 256 ∧ ∀ i : Nat, i < 256 → ∃ b, cl.slots[i]? = some (.ref b) ∧ Exa Z Z.heap b LC := by
  obtain ⟨arr, _, _, _, ev, -⟩ := Cond.exactly_spec wx
  have S := Sta.start ev wi
  obtain ⟨cl, A⟩ := Arr.start ev (Cond.before_iff.mp w2)
  have hat := Jvm.Free.IntBox.arrayAt_of A.1 A.2.1 A.2.2
  obtain ⟨hsz, hsize⟩ := Jvm.Free.IntBox.length_fwd w3 ev A.1 A.2.1 A.2.2
  have hn : cl.slots.size = 256 := by
    have e1 : (cl.slots.size.toInt32).toInt = cl.slots.size := len_toInt hsz
    rw [hsize] at e1
    have : ((256 : Int32)).toInt = 256 := by decide
    omega
  refine ⟨arr, cl, S, A, hn, fun i hi => ?_⟩
  have hall := Cond.all_elim (c := .and (.exactly (.elem (.static LCC "cache" LAD) (.index 0)) LC) c2) ev hat (by simpa [Cond.before, Cond.holds] using w4)
  have hj := hall i (by rw [hn]; exact hi)
  have hval : (Cond.and (.exactly (.elem (.static LCC "cache" LAD) (.index 0)) LC) c2).holds args Z none Z [i] = true := by simpa [Cond.holds] using hj
  rw [Cond.holds_and, Bool.and_eq_true] at hval
  obtain ⟨b, cB, cell, k, heB, hcB, hcell, hk, hns, hcls, hsl⟩ := Cond.exactly_spec hval.1
  obtain ⟨hnn, hback⟩ := Jvm.Free.IntBox.place_nonneg i hi
  have evi : (Term.static LCC "cache" LAD).eval args Z none [i] Z = some (.ref arr) := by
    rw [← ev]; simp [Term.eval]
  have evE : (Term.elem (.static LCC "cache" LAD) (.index 0)).eval args Z none [i] Z = cl.slots[i]? := by
    rw [Term.eval, evi]; simp [Term.eval, hnn, hat, hback]
  rw [evE] at heB
  exact ⟨b, heB, cell, k, hcell, by rw [hcls]; exact hcB, by rw [hcls]; exact hk, hns, hsl⟩
theorem arrS {Z s : State} {h : Heap} {a : Addr} {cl : Cell} {ty : FieldType} (hZ : Z.Warmed39 s.vm) (A : Arr Z h a cl ty) : s.isArrayOf cl ty := State.isArrayOf_alike hZ.alike A.2.1
theorem arrFld {Z : State} {args : Array Value} {t : Term} {a : Addr} {C n d : String} {ty : FieldType} {k : Int32} (ev : t.eval args Z none [] Z = some (.ref a)) (w2 : (Cond.arrayOf (.field t C n d) ty).value args Z none Z [] = some true) (w3 : (Cond.eq (.length (.field t C n d)) (.int k)).value args Z none Z [] = some true) :
    ∃ (b : Addr) (cl : Cell), Fld Z Z.heap a C n d (.ref b) ∧ Arr Z Z.heap b cl ty ∧ cl.slots.size.toInt32 = k := by
  obtain ⟨x, y, e1, -, -⟩ := cmp_v (Or.inl w3)
  obtain ⟨b, e2⟩ := len_v e1
  obtain ⟨cl, A⟩ := Arr.start e2 w2
  have F : Fld Z Z.heap a C n d (.ref b) := Fld.start ((fld_at ev).symm.trans e2)
  exact ⟨b, cl, F, A, (Jvm.Free.IntBox.length_fwd (Cond.before_iff.mpr w3) e2 A.1 A.2.1 A.2.2).2⟩
theorem staInt {Z : State} {args : Array Value} {C n d : String} {k : Int32} (h : (Cond.eq (.static C n d) (.int k)).before args Z = true) (hi : (Cond.initializedFor C n d).before args Z = true ∨ ((Cond.initialized C).before args Z = true ∧ (Cond.laysStatic C n d).before args Z = true)) : Sta Z Z.heap C n d (.int k) := by
  refine Sta.start ?_ hi
  have h := Cond.before_iff.mp h
  cases ht : (Term.static C n d).eval args Z none [] Z with
  | none => simp only [Cond.value, ht] at h; simp at h
  | some w => cases w <;> simp only [Cond.value, ht] at h <;> simp [Term.eval] at h ⊢; exact h
end Own
end Jvm.RoadKit
namespace Jvm.Pilot.@@N@@
open Jvm Jvm.ClassFile Sem Op Lib Jvm.Free Jvm.Stand Jvm.LawKit Jvm.RoadKit Bundle Jvm.Pilot.@@N@@.Jvm.D
theorem tw {Z : State} {a0 : Array Value} (hw : ∀ d ∈ tables_1, d.before a0 Z = true) (i : Nat) {d : Jvm.Cond} (h : tables_1[i]? = some d) : d.before a0 Z = true := hw _ (List.mem_of_getElem? h)
theorem leW {a b : Nat} (h : 2 * 0 + a = b) : 2 * 0 + a ≤ b := Nat.le_of_eq h
theorem leB {a b : Nat} (h : Nat.ble a b = true) : a ≤ b := Nat.le_of_ble_eq_true h
def QP (Z : State) (pa : Addr) (pb : Addr) (cl : Cell) (pn : Int32) (pr : Int32) (h0 : Heap) (n0 : Nat) (v : Option Value) (h : Heap) (L : List Loc) : Prop := v = some (.int pr) ∧ Fr n0 L ∧ h = h0
theorem dP_0 : decode prog_8_method_7_code 0 = .ok (.aload_n 0, 1) := by decide +kernel
theorem dP_1 : decode prog_8_method_7_code 1 = .ok (.getfield 47, 3) := by decide +kernel
theorem dP_4 : decode prog_8_method_7_code 4 = .ok (.arraylength, 1) := by decide +kernel
theorem dP_5 : decode prog_8_method_7_code 5 = .ok (.ifCond .le 7, 3) := by decide +kernel
theorem dP_8 : decode prog_8_method_7_code 8 = .ok (.iconst 1, 1) := by decide +kernel
theorem dP_9 : decode prog_8_method_7_code 9 = .ok (.goto 4, 3) := by decide +kernel
theorem dP_12 : decode prog_8_method_7_code 12 = .ok (.iconst 0, 1) := by decide +kernel
theorem dP_13 : decode prog_8_method_7_code 13 = .ok (.ireturn, 1) := by decide +kernel
theorem pnP : plainName "com/example/bare_orm/bareorm/ColumnType" = true := by first | (simp [plainName, overriddenIn]; done) | decide +kernel
theorem pdP : parseMethodDescriptor "()Z" = some ⟨[], some .boolean⟩ := by decide +kernel
set_option maxRecDepth 65536 in
set_option maxHeartbeats 40000000 in
theorem rmP (l : Launch) (Z : State) (a0 : Array Value) (hw : ∀ d ∈ tables_1, d.before a0 Z = true) (ws : List Jvm.Cond) (pa : Addr) (pb : Addr) (cl : Cell) (pn : Int32) (pr : Int32) (h0 : Heap) (n0 : Nat) (Z0 : n0 ≤ h0.size) (H0 : Fld Z h0 pa "com/example/bare_orm/bareorm/ColumnType" "paddingColumnTypes" "[I" (.ref pb)) (CA : Arr Z h0 pb cl .int) (CN : cl.slots.size.toInt32 = pn) (hr : pr = if (0 : Int32) < pn then 1 else 0) :
    MetFree l (⟨"com/example/bare_orm/bareorm/ColumnType", "paddable", "()Z"⟩ : MethodName) (head1 (Jvm.Cond.code (⟨"com/example/bare_orm/bareorm/ColumnType", "paddable", "()Z"⟩ : MethodName) prog_8_method_7_code 1 (some .boolean) :: ws) ({ frames := 0, cells := 0, slots := 0, locals := 0 } : Room)) (fun aa U => aa = #[(.ref pa)] ∧ Z.Warmed39 U.vm ∧ U.heap = h0) (fun _ _ _ _ _ => True) (fun _ U o U' => ∃ v L, o = .returned v ∧ QP Z pa pb cl pn pr h0 n0 v U'.heap L ∧ FrameEnd U o U' L ({ frames := 0, cells := 0, slots := 0, locals := 0 } : Room).cells ({ frames := 0, cells := 0, slots := 0, locals := 0 } : Room).slots) := by
  refine MetFree.of_bodySF (plainFor_of_name pnP) hisR ?_
  intro p e s m args below meth c s₁ Bd hml0 hP hK
  obtain ⟨rfl, hZ, hh⟩ := hP
  have hx := Bd.exec
  have hby := Bd.bytes
  have hlk : meth.locks = false := BodyLoose.notSynchronized Bd
  have hml : c.maxLocals = 1 := hml0
  have hown : s.vm.findClass "com/example/bare_orm/bareorm/ColumnType" = some m.cls := findClass_of_methodNamed Bd.named
  have hnm := (name_of_methodNamed Bd.named Bd.method).1
  have X0 : Stand p l e ({ frames := 0, cells := 0, slots := 0, locals := 0 } : Room) s m #[(.ref pa)] below meth c s₁ [] 0 0 := Stand.of_body Bd
  have e0 : s₁.heap = h0 := by rw [← hh, Bd.state]; rfl
  have N0 := Fr.nil n0
  have ef : entryFrame m #[(.ref pa)] 1 = mkF m 0 #[rv pa] [] := by first | (simp [entryFrame, mkF, argsToLocals, Value.category, maxLocals]; done) | rfl
  show Way p.tables e below (KQ s (QP Z pa pb cl pn pr h0 n0) ({ frames := 0, cells := 0, slots := 0, locals := 0 } : Room).cells ({ frames := 0, cells := 0, slots := 0, locals := 0 } : Room).slots) (s₁.setTop (entryFrame m #[(.ref pa)] 1))
  rw [ef]
  refine Way.by (fun _ k => XS.aloadN X0.here hx rfl (hb hby dP_0) rfl rfl k) ?_
  show Way _ _ _ _ (s₁.setTop (mkF m 1 #[rv pa] [(.ref pa)]))
  obtain ⟨T1, X2, e3, st4⟩ := getF X0 hx hZ hown (host := "") (Or.inl (tw hw 9 rfl)) Via.refl e0 H0 (g := (mkF m 1 #[rv pa] [(.ref pa)])) rfl rfl (hb hby dP_1)
  refine Way.by st4 ?_
  show Way _ _ _ _ (T1.setTop (mkF m 4 #[rv pa] [(.ref pb)]))
  refine Way.by (fun t k => Stand.arraylength X2 hx (hpE e3 CA.1) (arrS hZ CA) (g := (mkF m 4 #[rv pa] [(.ref pb)])) rfl rfl (hb hby dP_4) t k) ?_
  rw [CN]
  show Way _ _ _ _ (T1.setTop (mkF m 5 #[rv pa] [(.int pn)]))
  by_cases hq : (0 : Int32) < pn
  · skip
    refine Way.by (fun _ k => XS.ifNo X2.here hx rfl (hb hby dP_5) rfl ((if0 .le _).trans (tlt hq).2.2.2) k) ?_
    show Way _ _ _ _ (T1.setTop (mkF m 8 #[rv pa] []))
    refine Way.by (fun _ k => XS.iconst X2.here hx rfl (hb hby dP_8) k) ?_
    show Way _ _ _ _ (T1.setTop (mkF m 9 #[rv pa] [(.int 1)]))
    refine Way.by (fun _ k => XS.goto X2.here hx rfl (pc0 := 9) (pc' := 13) rfl (hb hby dP_9) (by decide) (by decide) k) ?_
    show Way _ _ _ _ (T1.setTop (mkF m 13 #[rv pa] [(.int 1)]))
    refine Way.ret (v := (some (.int (nar .boolean (1 : Int32))))) X2 hlk (fun h => by rw [Bd.returns] at h; cases h) (fun fs hr => retN X2 hx (t := .boolean) Bd.returns (by simp) (hb hby dP_13) hr) ?_ (by decide) (by decide)
    show QP Z pa pb cl pn pr h0 n0 _ T1.heap _
    rw [e3]
    exact ⟨by rw [hr]; simp [hq]; rfl, N0, rfl⟩
  · skip
    refine Way.by (fun _ k => XS.ifYes X2.here hx rfl (pc0 := 5) (pc' := 12) rfl (hb hby dP_5) rfl ((if0 .le _).trans (flt hq).2.2.2) (by decide) (by decide) k) ?_
    show Way _ _ _ _ (T1.setTop (mkF m 12 #[rv pa] []))
    refine Way.by (fun _ k => XS.iconst X2.here hx rfl (hb hby dP_12) k) ?_
    show Way _ _ _ _ (T1.setTop (mkF m 13 #[rv pa] [(.int 0)]))
    refine Way.ret (v := (some (.int (nar .boolean (0 : Int32))))) X2 hlk (fun h => by rw [Bd.returns] at h; cases h) (fun fs hr => retN X2 hx (t := .boolean) Bd.returns (by simp) (hb hby dP_13) hr) ?_ (by decide) (by decide)
    show QP Z pa pb cl pn pr h0 n0 _ T1.heap _
    rw [e3]
    exact ⟨by rw [hr]; simp [hq]; rfl, N0, rfl⟩
def QN (Z : State) (pa : Addr) (pb : Addr) (h0 : Heap) (n0 : Nat) (v : Option Value) (h : Heap) (L : List Loc) : Prop := v = some (.ref pb) ∧ Fr n0 L ∧ h = h0
theorem dN_0 : decode prog_8_method_9_code 0 = .ok (.aload_n 1, 1) := by decide +kernel
theorem dN_1 : decode prog_8_method_9_code 1 = .ok (.areturn, 1) := by decide +kernel
theorem pdN : parseMethodDescriptor "(Ljava/lang/Object;)Ljava/lang/Object;" = some ⟨[(.object "java/lang/Object")], some (.object "java/lang/Object")⟩ := by decide +kernel
set_option maxRecDepth 65536 in
set_option maxHeartbeats 40000000 in
theorem rmN (l : Launch) (Z : State) (a0 : Array Value) (hw : ∀ d ∈ tables_1, d.before a0 Z = true) (ws : List Jvm.Cond) (pa : Addr) (pb : Addr) (h0 : Heap) (n0 : Nat) (Z0 : n0 ≤ h0.size)  :
    MetFree l (⟨"com/example/bare_orm/bareorm/ColumnType", "unpadded", "(Ljava/lang/Object;)Ljava/lang/Object;"⟩ : MethodName) (head1 (Jvm.Cond.code (⟨"com/example/bare_orm/bareorm/ColumnType", "unpadded", "(Ljava/lang/Object;)Ljava/lang/Object;"⟩ : MethodName) prog_8_method_9_code 2 (some (.object "java/lang/Object")) :: ws) ({ frames := 0, cells := 0, slots := 0, locals := 0 } : Room)) (fun aa U => aa = #[(.ref pa), (.ref pb)] ∧ Z.Warmed39 U.vm ∧ U.heap = h0) (fun _ _ _ _ _ => True) (fun _ U o U' => ∃ v L, o = .returned v ∧ QN Z pa pb h0 n0 v U'.heap L ∧ FrameEnd U o U' L ({ frames := 0, cells := 0, slots := 0, locals := 0 } : Room).cells ({ frames := 0, cells := 0, slots := 0, locals := 0 } : Room).slots) := by
  refine MetFree.of_bodySF (plainFor_of_name pnP) hisR ?_
  intro p e s m args below meth c s₁ Bd hml0 hP hK
  obtain ⟨rfl, hZ, hh⟩ := hP
  have hx := Bd.exec
  have hby := Bd.bytes
  have hlk : meth.locks = false := BodyLoose.notSynchronized Bd
  have hml : c.maxLocals = 2 := hml0
  have hown : s.vm.findClass "com/example/bare_orm/bareorm/ColumnType" = some m.cls := findClass_of_methodNamed Bd.named
  have hnm := (name_of_methodNamed Bd.named Bd.method).1
  have X0 : Stand p l e ({ frames := 0, cells := 0, slots := 0, locals := 0 } : Room) s m #[(.ref pa), (.ref pb)] below meth c s₁ [] 0 0 := Stand.of_body Bd
  have e0 : s₁.heap = h0 := by rw [← hh, Bd.state]; rfl
  have N0 := Fr.nil n0
  have ef : entryFrame m #[(.ref pa), (.ref pb)] 2 = mkF m 0 #[rv pa, rv pb] [] := by first | (simp [entryFrame, mkF, argsToLocals, Value.category, maxLocals]; done) | rfl
  show Way p.tables e below (KQ s (QN Z pa pb h0 n0) ({ frames := 0, cells := 0, slots := 0, locals := 0 } : Room).cells ({ frames := 0, cells := 0, slots := 0, locals := 0 } : Room).slots) (s₁.setTop (entryFrame m #[(.ref pa), (.ref pb)] 2))
  rw [ef]
  refine Way.by (fun _ k => XS.aloadN X0.here hx rfl (hb hby dN_0) rfl rfl k) ?_
  show Way _ _ _ _ (s₁.setTop (mkF m 1 #[rv pa, rv pb] [(.ref pb)]))
  refine Way.ret (v := (some (.ref pb))) X0 hlk (fun h => by rw [Bd.returns] at h; cases h) (fun fs hr => retOut X0 hx Bd.returns rfl (Or.inr (Or.inr (Or.inr (Or.inr ⟨rfl, rfl, rfl⟩)))) (hb hby dN_1) hr) ?_ (by decide) (by decide)
  show QN Z pa pb h0 n0 _ s₁.heap _
  rw [e0]
  exact ⟨rfl, N0, rfl⟩
def QU (Z : State) (pa : Addr) (h0 : Heap) (n0 : Nat) (v : Option Value) (h : Heap) (L : List Loc) : Prop := v = none ∧ Fr n0 L ∧ h = h0
theorem dU_0 : decode jdk_18_method_1_code 0 = .ok (.aload_n 0, 1) := by decide +kernel
theorem dU_1 : decode jdk_18_method_1_code 1 = .ok (.invokespecial 1, 3) := by decide +kernel
theorem dU_4 : decode jdk_18_method_1_code 4 = .ok (.return_, 1) := by decide +kernel
theorem pnU : plainName "java/lang/Number" = true := by first | (simp [plainName, overriddenIn]; done) | decide +kernel
theorem pdU : parseMethodDescriptor "()V" = some ⟨[], none⟩ := by decide +kernel
set_option maxRecDepth 65536 in
set_option maxHeartbeats 40000000 in
theorem rmU (l : Launch) (Z : State) (a0 : Array Value) (hw : ∀ d ∈ tables_1, d.before a0 Z = true) (ws : List Jvm.Cond) (pa : Addr) (h0 : Heap) (n0 : Nat) (Z0 : n0 ≤ h0.size)  :
    MetFree l (⟨"java/lang/Number", "<init>", "()V"⟩ : MethodName) (head1 (Jvm.Cond.code (⟨"java/lang/Number", "<init>", "()V"⟩ : MethodName) jdk_18_method_1_code 1 none :: ws) ({ frames := 1, cells := 0, slots := 0, locals := 12 } : Room)) (fun aa U => aa = #[(.ref pa)] ∧ Z.Warmed39 U.vm ∧ U.heap = h0) (fun _ _ _ _ _ => True) (fun _ U o U' => ∃ v L, o = .returned v ∧ QU Z pa h0 n0 v U'.heap L ∧ FrameEnd U o U' L ({ frames := 1, cells := 0, slots := 0, locals := 12 } : Room).cells ({ frames := 1, cells := 0, slots := 0, locals := 12 } : Room).slots) := by
  refine MetFree.of_bodySF (plainFor_of_name pnU) hisR ?_
  intro p e s m args below meth c s₁ Bd hml0 hP hK
  obtain ⟨rfl, hZ, hh⟩ := hP
  have hx := Bd.exec
  have hby := Bd.bytes
  have hlk : meth.locks = false := BodyLoose.notSynchronized Bd
  have hml : c.maxLocals = 1 := hml0
  have hown : s.vm.findClass "java/lang/Number" = some m.cls := findClass_of_methodNamed Bd.named
  have hnm := (name_of_methodNamed Bd.named Bd.method).1
  have X0 : Stand p l e ({ frames := 1, cells := 0, slots := 0, locals := 12 } : Room) s m #[(.ref pa)] below meth c s₁ [] 0 0 := Stand.of_body Bd
  have e0 : s₁.heap = h0 := by rw [← hh, Bd.state]; rfl
  have N0 := Fr.nil n0
  have ef : entryFrame m #[(.ref pa)] 1 = mkF m 0 #[rv pa] [] := by first | (simp [entryFrame, mkF, argsToLocals, Value.category, maxLocals]; done) | rfl
  show Way p.tables e below (KQ s (QU Z pa h0 n0) ({ frames := 1, cells := 0, slots := 0, locals := 12 } : Room).cells ({ frames := 1, cells := 0, slots := 0, locals := 12 } : Room).slots) (s₁.setTop (entryFrame m #[(.ref pa)] 1))
  rw [ef]
  refine Way.by (fun _ k => XS.aloadN X0.here hx rfl (hb hby dU_0) rfl rfl k) ?_
  show Way _ _ _ _ (s₁.setTop (mkF m 1 #[rv pa] [(.ref pa)]))
  obtain ⟨T1, X2, e3, st4⟩ := initO X0 hx hZ hown (tw hw 39 rfl) (tw hw 40 rfl) (tw hw 41 rfl) e0 (g := (mkF m 1 #[rv pa] [(.ref pa)])) rfl (by rw [hml]; rfl) rfl (hb hby dU_1) (by decide) (W := 0) (leW rfl) (by decide)
  refine Way.by st4 ?_
  show Way _ _ _ _ (T1.setTop (mkF m 4 #[rv pa] []))
  refine Way.ret (v := none) X2 hlk (fun _ => rfl) (fun fs hr => X2.returnOut hx Bd.returns (hb hby dU_4) hr) ?_ (by decide) (by decide)
  show QU Z pa h0 n0 _ T1.heap _
  rw [e3]
  exact ⟨rfl, N0, rfl⟩
def QL (Z : State) (pa : Addr) (pz : Int32) (h0 : Heap) (n0 : Nat) (v : Option Value) (h : Heap) (L : List Loc) : Prop := v = none ∧ Fr n0 L ∧ Keep h0 h [pa] ∧ Exa Z h pa "java/lang/Integer" ∧ Fld Z h pa "java/lang/Integer" "value" "I" (.int pz)
theorem dL_0 : decode jdk_33_method_23_code 0 = .ok (.aload_n 0, 1) := by decide +kernel
theorem dL_1 : decode jdk_33_method_23_code 1 = .ok (.invokespecial 202, 3) := by decide +kernel
theorem dL_4 : decode jdk_33_method_23_code 4 = .ok (.aload_n 0, 1) := by decide +kernel
theorem dL_5 : decode jdk_33_method_23_code 5 = .ok (.iload_n 1, 1) := by decide +kernel
theorem dL_6 : decode jdk_33_method_23_code 6 = .ok (.putfield 205, 3) := by decide +kernel
theorem dL_9 : decode jdk_33_method_23_code 9 = .ok (.return_, 1) := by decide +kernel
theorem pnL : plainName "java/lang/Integer" = true := by first | (simp [plainName, overriddenIn]; done) | decide +kernel
theorem pdL : parseMethodDescriptor "(I)V" = some ⟨[.int], none⟩ := by decide +kernel
set_option maxRecDepth 65536 in
set_option maxHeartbeats 40000000 in
theorem rmL (l : Launch) (Z : State) (a0 : Array Value) (hw : ∀ d ∈ tables_1, d.before a0 Z = true) (ws : List Jvm.Cond) (pa : Addr) (pz : Int32) (h0 : Heap) (n0 : Nat) (Z0 : n0 ≤ h0.size) (H0 : Exa Z h0 pa "java/lang/Integer") (H1 : Fld Z h0 pa "java/lang/Integer" "value" "I" (.int 0)) (nw_pa : n0 ≤ pa) :
    MetFree l (⟨"java/lang/Integer", "<init>", "(I)V"⟩ : MethodName) (head1 (Jvm.Cond.code (⟨"java/lang/Integer", "<init>", "(I)V"⟩ : MethodName) jdk_33_method_23_code 2 none :: ws) ({ frames := 2, cells := 0, slots := 0, locals := 24 } : Room)) (fun aa U => aa = #[(.ref pa), (.int pz)] ∧ Z.Warmed39 U.vm ∧ U.heap = h0) (fun _ _ _ _ _ => True) (fun _ U o U' => ∃ v L, o = .returned v ∧ QL Z pa pz h0 n0 v U'.heap L ∧ FrameEnd U o U' L ({ frames := 2, cells := 0, slots := 0, locals := 24 } : Room).cells ({ frames := 2, cells := 0, slots := 0, locals := 24 } : Room).slots) := by
  refine MetFree.of_bodySF (plainFor_of_name pnL) hisR ?_
  intro p e s m args below meth c s₁ Bd hml0 hP hK
  obtain ⟨rfl, hZ, hh⟩ := hP
  have hx := Bd.exec
  have hby := Bd.bytes
  have hlk : meth.locks = false := BodyLoose.notSynchronized Bd
  have hml : c.maxLocals = 2 := hml0
  have hown : s.vm.findClass "java/lang/Integer" = some m.cls := findClass_of_methodNamed Bd.named
  have hnm := (name_of_methodNamed Bd.named Bd.method).1
  have X0 : Stand p l e ({ frames := 2, cells := 0, slots := 0, locals := 24 } : Room) s m #[(.ref pa), (.int pz)] below meth c s₁ [] 0 0 := Stand.of_body Bd
  have e0 : s₁.heap = h0 := by rw [← hh, Bd.state]; rfl
  have N0 := Fr.nil n0
  have ef : entryFrame m #[(.ref pa), (.int pz)] 2 = mkF m 0 #[rv pa, iv pz] [] := by first | (simp [entryFrame, mkF, argsToLocals, Value.category, maxLocals]; done) | rfl
  show Way p.tables e below (KQ s (QL Z pa pz h0 n0) ({ frames := 2, cells := 0, slots := 0, locals := 24 } : Room).cells ({ frames := 2, cells := 0, slots := 0, locals := 24 } : Room).slots) (s₁.setTop (entryFrame m #[(.ref pa), (.int pz)] 2))
  rw [ef]
  refine Way.by (fun _ k => XS.aloadN X0.here hx rfl (hb hby dL_0) rfl rfl k) ?_
  show Way _ _ _ _ (s₁.setTop (mkF m 1 #[rv pa, iv pz] [(.ref pa)]))
  obtain ⟨_, _, ⟨T1, L3, k4, n5⟩, -, X2, ⟨Lc6, hQ7, l8, y9, z10⟩, st11⟩ := X0.specialBack hx (y := (⟨"java/lang/Number", "<init>", "()V"⟩ : MethodName)) rfl hown (mvT hZ (tw hw 33 rfl)) (mvT hZ (tw hw 34 rfl)) (mvT hZ (tw hw 38 rfl)) (by decide) (backOf (W := 0) (rmU l Z a0 hw [] pa h0 n0 Z0 ) hZ (tw hw 38 rfl) (tw hw 37 rfl) (by decide) (by decide)) (g := (mkF m 1 #[rv pa, iv pz] [(.ref pa)])) rfl (by rw [hml]; rfl) (Steps.refl _) (a := pa) (argsL := []) (rest := []) (lenOf pdU rfl) rfl (leW rfl) (hb hby dL_1) (fun _ _ => ⟨rfl, e0, (leB rfl), (leB rfl)⟩)
  dsimp only [Pt.U, Pt.locs, Pt.cells, Pt.slots] at X2 l8 y9 z10 st11 hQ7
  subst l8 y9 z10
  obtain ⟨rfl, N17, e13⟩ := hQ7
  have N12 := Fr.app N0 N17
  refine Way.to st11 ?_
  show Way _ _ _ _ (T1.setTop (mkF m 4 #[rv pa, iv pz] []))
  refine Way.by (fun _ k => XS.aloadN X2.here hx rfl (hb hby dL_4) rfl rfl k) ?_
  show Way _ _ _ _ (T1.setTop (mkF m 5 #[rv pa, iv pz] [(.ref pa)]))
  refine Way.by (fun _ k => XS.iloadN X2.here hx rfl (hb hby dL_5) rfl k) ?_
  show Way _ _ _ _ (T1.setTop (mkF m 6 #[rv pa, iv pz] [(.int pz), (.ref pa)]))
  obtain ⟨T19, h20, X21, e22, W23, st24⟩ := putF X2 hx hZ hown (host := "") (Or.inl (tw hw 42 rfl)) Via.refl e13 H1 H0 (Or.inr ⟨(tw hw 43 rfl), rfl, hnm⟩) (tw hw 28 rfl) (ty := .int) (by decide) rfl rfl (g := (mkF m 6 #[rv pa, iv pz] [(.int pz), (.ref pa)])) rfl rfl (hb hby dL_6)
  have N25 := Fr.snoc X21 N12 nw_pa
  have E26 := Exa.wr W23 H0
  have F27 : Fld Z h20 pa "java/lang/Integer" "value" "I" (.int pz) := H1.same W23
  have Z28 : n0 ≤ h20.size := by rw [W23.size]; exact Z0
  have K29 := (Keep.refl h0 [pa]).wr W23 (Or.inl (List.mem_of_getElem? (i := 0) rfl))
  have hz30 : h0.size ≤ h20.size := by rw [W23.size]; exact (Nat.le_refl h0.size)
  refine Way.by st24 ?_
  show Way _ _ _ _ (T19.setTop (mkF m 9 #[rv pa, iv pz] []))
  refine Way.ret (v := none) X21 hlk (fun _ => rfl) (fun fs hr => X21.returnOut hx Bd.returns (hb hby dL_9) hr) ?_ (by decide) (by decide)
  show QL Z pa pz h0 n0 _ T19.heap _
  rw [e22]
  exact ⟨rfl, N25, K29, E26, F27⟩
def QV (Z : State) (pz : Int32) (ca : Addr) (cc : Cell) (h0 : Heap) (n0 : Nat) (v : Option Value) (h : Heap) (L : List Loc) : Prop := ∃ (bx : Addr), v = some (.ref bx) ∧ Fr n0 L ∧ Keep h0 h [] ∧ Exa Z h bx "java/lang/Integer"
theorem dV_0 : decode jdk_33_method_22_code 0 = .ok (.iload_n 0, 1) := by decide +kernel
theorem dV_1 : decode jdk_33_method_22_code 1 = .ok (.bipush (-128), 2) := by decide +kernel
theorem dV_3 : decode jdk_33_method_22_code 3 = .ok (.if_icmp .lt 20, 3) := by decide +kernel
theorem dV_6 : decode jdk_33_method_22_code 6 = .ok (.iload_n 0, 1) := by decide +kernel
theorem dV_7 : decode jdk_33_method_22_code 7 = .ok (.getstatic 191, 3) := by decide +kernel
theorem dV_10 : decode jdk_33_method_22_code 10 = .ok (.if_icmp .gt 13, 3) := by decide +kernel
theorem dV_13 : decode jdk_33_method_22_code 13 = .ok (.getstatic 195, 3) := by decide +kernel
theorem dV_16 : decode jdk_33_method_22_code 16 = .ok (.iload_n 0, 1) := by decide +kernel
theorem dV_17 : decode jdk_33_method_22_code 17 = .ok (.sipush 128, 3) := by decide +kernel
theorem dV_20 : decode jdk_33_method_22_code 20 = .ok (.iadd, 1) := by decide +kernel
theorem dV_21 : decode jdk_33_method_22_code 21 = .ok (.aaload, 1) := by decide +kernel
theorem dV_22 : decode jdk_33_method_22_code 22 = .ok (.areturn, 1) := by decide +kernel
theorem dV_23 : decode jdk_33_method_22_code 23 = .ok (.new 1, 3) := by decide +kernel
theorem dV_26 : decode jdk_33_method_22_code 26 = .ok (.dup, 1) := by decide +kernel
theorem dV_27 : decode jdk_33_method_22_code 27 = .ok (.iload_n 0, 1) := by decide +kernel
theorem dV_28 : decode jdk_33_method_22_code 28 = .ok (.invokespecial 199, 3) := by decide +kernel
theorem dV_31 : decode jdk_33_method_22_code 31 = .ok (.areturn, 1) := by decide +kernel
theorem pdV : parseMethodDescriptor "(I)Ljava/lang/Integer;" = some ⟨[.int], some (.object "java/lang/Integer")⟩ := by decide +kernel
set_option maxRecDepth 65536 in
set_option maxHeartbeats 40000000 in
theorem rmV (l : Launch) (Z : State) (a0 : Array Value) (hw : ∀ d ∈ tables_1, d.before a0 Z = true) (ws : List Jvm.Cond) (pz : Int32) (ca : Addr) (cc : Cell) (h0 : Heap) (n0 : Nat) (Z0 : n0 ≤ h0.size) (O0 : Old Z n0 h0) (CS : Sta Z Z.heap "java/lang/Integer$IntegerCache" "cache" "[Ljava/lang/Integer;" (.ref ca)) (CA : Arr Z Z.heap ca cc (.object "java/lang/Integer")) (CN : cc.slots.size = 256) (CE : ∀ i : Nat, i < 256 → ∃ b, cc.slots[i]? = some (.ref b) ∧ Exa Z Z.heap b "java/lang/Integer") (CH : Sta Z Z.heap "java/lang/Integer$IntegerCache" "high" "I" (.int 127)) :
    MetFree l (⟨"java/lang/Integer", "valueOf", "(I)Ljava/lang/Integer;"⟩ : MethodName) (head1 (Jvm.Cond.code (⟨"java/lang/Integer", "valueOf", "(I)Ljava/lang/Integer;"⟩ : MethodName) jdk_33_method_22_code 1 (some (.object "java/lang/Integer")) :: ws) ({ frames := 3, cells := 1, slots := 1, locals := 38 } : Room)) (fun aa U => aa = #[(.int pz)] ∧ Z.Warmed39 U.vm ∧ U.heap = h0) (fun _ _ _ _ _ => True) (fun _ U o U' => ∃ v L, o = .returned v ∧ QV Z pz ca cc h0 n0 v U'.heap L ∧ FrameEnd U o U' L ({ frames := 3, cells := 1, slots := 1, locals := 38 } : Room).cells ({ frames := 3, cells := 1, slots := 1, locals := 38 } : Room).slots) := by
  refine MetFree.of_bodySF (plainFor_of_name pnL) hisR ?_
  intro p e s m args below meth c s₁ Bd hml0 hP hK
  obtain ⟨rfl, hZ, hh⟩ := hP
  have hx := Bd.exec
  have hby := Bd.bytes
  have hlk : meth.locks = false := BodyLoose.notSynchronized Bd
  have hml : c.maxLocals = 1 := hml0
  have hown : s.vm.findClass "java/lang/Integer" = some m.cls := findClass_of_methodNamed Bd.named
  have hnm := (name_of_methodNamed Bd.named Bd.method).1
  have X0 : Stand p l e ({ frames := 3, cells := 1, slots := 1, locals := 38 } : Room) s m #[(.int pz)] below meth c s₁ [] 0 0 := Stand.of_body Bd
  have e0 : s₁.heap = h0 := by rw [← hh, Bd.state]; rfl
  have N0 := Fr.nil n0
  have ef : entryFrame m #[(.int pz)] 1 = mkF m 0 #[iv pz] [] := by first | (simp [entryFrame, mkF, argsToLocals, Value.category, maxLocals]; done) | rfl
  show Way p.tables e below (KQ s (QV Z pz ca cc h0 n0) ({ frames := 3, cells := 1, slots := 1, locals := 38 } : Room).cells ({ frames := 3, cells := 1, slots := 1, locals := 38 } : Room).slots) (s₁.setTop (entryFrame m #[(.int pz)] 1))
  rw [ef]
  refine Way.by (fun _ k => XS.iloadN X0.here hx rfl (hb hby dV_0) rfl k) ?_
  show Way _ _ _ _ (s₁.setTop (mkF m 1 #[iv pz] [(.int pz)]))
  refine Way.by (fun _ k => XS.bipush X0.here hx rfl (hb hby dV_1) k) ?_
  show Way _ _ _ _ (s₁.setTop (mkF m 3 #[iv pz] [(.int (-128 : Int32)), (.int pz)]))
  by_cases hq3 : pz < (-128 : Int32)
  · skip
    refine Way.by (fun _ k => XS.icmpYes X0.here hx rfl (pc0 := 3) (pc' := 23) rfl (hb hby dV_3) rfl (tlt hq3).1 (by decide) (by decide) k) ?_
    show Way _ _ _ _ (s₁.setTop (mkF m 23 #[iv pz] []))
    obtain ⟨T1, h2, X3, e4, E5, A6, D7, -, st8⟩ := newO X0 hx hZ hown (tw hw 27 rfl) (tw hw 28 rfl) (tw hw 13 rfl) e0 (g := (mkF m 23 #[iv pz] [])) rfl (hb hby dV_23) (by decide) (by decide)
    obtain ⟨a9, g10⟩ : ∃ z, z = h0.size := ⟨_, rfl⟩
    rw [← g10] at A6 D7 st8
    have nw11 : n0 ≤ a9 := Nat.le_trans Z0 (Nat.le_of_eq g10.symm)
    have hk12 : h0.size ≤ a9 := Nat.le_trans (Nat.le_refl h0.size) (Nat.le_of_eq g10.symm)
    have Z13 := Nat.le_trans Z0 E5.1
    have O14 := O0.ext E5
    have K15 := (Keep.refl h0 []).ext E5
    have hz16 := Nat.le_trans (Nat.le_refl h0.size) E5.1
    have F17 : Fld Z h2 a9 "java/lang/Integer" "value" "I" (.int 0) := D7 (Or.inr (tw hw 43 rfl)) (ty := .int) (by decide)
    refine Way.by st8 ?_
    show Way _ _ _ _ (T1.setTop (mkF m 26 #[iv pz] [(.ref a9)]))
    refine Way.by (fun _ k => XS.dup X3.here hx rfl (hb hby dV_26) rfl rfl k) ?_
    show Way _ _ _ _ (T1.setTop (mkF m 27 #[iv pz] [(.ref a9), (.ref a9)]))
    refine Way.by (fun _ k => XS.iloadN X3.here hx rfl (hb hby dV_27) rfl k) ?_
    show Way _ _ _ _ (T1.setTop (mkF m 28 #[iv pz] [(.int pz), (.ref a9), (.ref a9)]))
    obtain ⟨_, _, ⟨T18, L20, k21, n22⟩, -, X19, ⟨Lc23, hQ24, l25, y26, z27⟩, st28⟩ := X3.specialBack hx (y := (⟨"java/lang/Integer", "<init>", "(I)V"⟩ : MethodName)) rfl hown (mvT hZ (tw hw 29 rfl)) (mvT hZ (tw hw 30 rfl)) (mvT hZ (tw hw 32 rfl)) (by decide) (backOf (W := 1) (rmL l Z a0 hw [] a9 pz h2 n0 Z13 A6 F17 nw11) hZ (tw hw 32 rfl) (tw hw 13 rfl) (by decide) (by decide)) (g := (mkF m 28 #[iv pz] [(.int pz), (.ref a9), (.ref a9)])) rfl (by rw [hml]; rfl) (Steps.refl _) (a := a9) (argsL := [(.int pz)]) (rest := [(.ref a9)]) (lenOf pdL rfl) rfl (leW rfl) (hb hby dV_28) (fun _ _ => ⟨rfl, e4, (leB rfl), (leB rfl)⟩)
    dsimp only [Pt.U, Pt.locs, Pt.cells, Pt.slots] at X19 l25 y26 z27 st28 hQ24
    subst l25 y26 z27
    obtain ⟨rfl, N34, K35, F_036, F_137⟩ := hQ24
    have N29 := Fr.app N0 N34
    have E38 := A6.keep K35
    have Z39 := Nat.le_trans Z13 K35.1
    have O40 := O14.keep K35 (allS nw11 all0)
    have K41 := K15.trans K35 (allS (Or.inr hk12) all0)
    have hz42 := Nat.le_trans hz16 K35.1
    refine Way.to st28 ?_
    show Way _ _ _ _ (T18.setTop (mkF m 31 #[iv pz] [(.ref a9)]))
    refine Way.ret (v := (some (.ref a9))) X19 hlk (fun h => by rw [Bd.returns] at h; cases h) (fun fs hr => retOut X19 hx Bd.returns rfl (Or.inr (Or.inr (Or.inr (Or.inr ⟨rfl, rfl, rfl⟩)))) (hb hby dV_31) hr) ?_ (by decide) (by decide)
    show QV Z pz ca cc h0 n0 _ T18.heap _
    skip
    exact ⟨a9, rfl, N29, K41, F_036⟩
  · skip
    refine Way.by (fun _ k => XS.icmpNo X0.here hx rfl (hb hby dV_3) rfl (flt hq3).1 k) ?_
    show Way _ _ _ _ (s₁.setTop (mkF m 6 #[iv pz] []))
    refine Way.by (fun _ k => XS.iloadN X0.here hx rfl (hb hby dV_6) rfl k) ?_
    show Way _ _ _ _ (s₁.setTop (mkF m 7 #[iv pz] [(.int pz)]))
    obtain ⟨T43, X44, e45, st46⟩ := getS X0 hx hZ hown (host := "") (tw hw 15 rfl) Via.refl e0 (Sta.ext O0.2 CH) (g := (mkF m 7 #[iv pz] [(.int pz)])) rfl (hb hby dV_7)
    refine Way.by st46 ?_
    show Way _ _ _ _ (T43.setTop (mkF m 10 #[iv pz] [(.int 127), (.int pz)]))
    by_cases hq10 : (127 : Int32) < pz
    · skip
      refine Way.by (fun _ k => XS.icmpYes X44.here hx rfl (pc0 := 10) (pc' := 23) rfl (hb hby dV_10) rfl (tlt hq10).2.2.1 (by decide) (by decide) k) ?_
      show Way _ _ _ _ (T43.setTop (mkF m 23 #[iv pz] []))
      obtain ⟨T47, h48, X49, e50, E51, A52, D53, -, st54⟩ := newO X44 hx hZ hown (tw hw 27 rfl) (tw hw 28 rfl) (tw hw 13 rfl) e45 (g := (mkF m 23 #[iv pz] [])) rfl (hb hby dV_23) (by decide) (by decide)
      obtain ⟨a55, g56⟩ : ∃ z, z = h0.size := ⟨_, rfl⟩
      rw [← g56] at A52 D53 st54
      have nw57 : n0 ≤ a55 := Nat.le_trans Z0 (Nat.le_of_eq g56.symm)
      have hk58 : h0.size ≤ a55 := Nat.le_trans (Nat.le_refl h0.size) (Nat.le_of_eq g56.symm)
      have Z59 := Nat.le_trans Z0 E51.1
      have O60 := O0.ext E51
      have K61 := (Keep.refl h0 []).ext E51
      have hz62 := Nat.le_trans (Nat.le_refl h0.size) E51.1
      have F63 : Fld Z h48 a55 "java/lang/Integer" "value" "I" (.int 0) := D53 (Or.inr (tw hw 43 rfl)) (ty := .int) (by decide)
      refine Way.by st54 ?_
      show Way _ _ _ _ (T47.setTop (mkF m 26 #[iv pz] [(.ref a55)]))
      refine Way.by (fun _ k => XS.dup X49.here hx rfl (hb hby dV_26) rfl rfl k) ?_
      show Way _ _ _ _ (T47.setTop (mkF m 27 #[iv pz] [(.ref a55), (.ref a55)]))
      refine Way.by (fun _ k => XS.iloadN X49.here hx rfl (hb hby dV_27) rfl k) ?_
      show Way _ _ _ _ (T47.setTop (mkF m 28 #[iv pz] [(.int pz), (.ref a55), (.ref a55)]))
      obtain ⟨_, _, ⟨T64, L66, k67, n68⟩, -, X65, ⟨Lc69, hQ70, l71, y72, z73⟩, st74⟩ := X49.specialBack hx (y := (⟨"java/lang/Integer", "<init>", "(I)V"⟩ : MethodName)) rfl hown (mvT hZ (tw hw 29 rfl)) (mvT hZ (tw hw 30 rfl)) (mvT hZ (tw hw 32 rfl)) (by decide) (backOf (W := 1) (rmL l Z a0 hw [] a55 pz h48 n0 Z59 A52 F63 nw57) hZ (tw hw 32 rfl) (tw hw 13 rfl) (by decide) (by decide)) (g := (mkF m 28 #[iv pz] [(.int pz), (.ref a55), (.ref a55)])) rfl (by rw [hml]; rfl) (Steps.refl _) (a := a55) (argsL := [(.int pz)]) (rest := [(.ref a55)]) (lenOf pdL rfl) rfl (leW rfl) (hb hby dV_28) (fun _ _ => ⟨rfl, e50, (leB rfl), (leB rfl)⟩)
      dsimp only [Pt.U, Pt.locs, Pt.cells, Pt.slots] at X65 l71 y72 z73 st74 hQ70
      subst l71 y72 z73
      obtain ⟨rfl, N80, K81, F_082, F_183⟩ := hQ70
      have N75 := Fr.app N0 N80
      have E84 := A52.keep K81
      have Z85 := Nat.le_trans Z59 K81.1
      have O86 := O60.keep K81 (allS nw57 all0)
      have K87 := K61.trans K81 (allS (Or.inr hk58) all0)
      have hz88 := Nat.le_trans hz62 K81.1
      refine Way.to st74 ?_
      show Way _ _ _ _ (T64.setTop (mkF m 31 #[iv pz] [(.ref a55)]))
      refine Way.ret (v := (some (.ref a55))) X65 hlk (fun h => by rw [Bd.returns] at h; cases h) (fun fs hr => retOut X65 hx Bd.returns rfl (Or.inr (Or.inr (Or.inr (Or.inr ⟨rfl, rfl, rfl⟩)))) (hb hby dV_31) hr) ?_ (by decide) (by decide)
      show QV Z pz ca cc h0 n0 _ T64.heap _
      skip
      exact ⟨a55, rfl, N75, K87, F_082⟩
    · skip
      refine Way.by (fun _ k => XS.icmpNo X44.here hx rfl (hb hby dV_10) rfl (flt hq10).2.2.1 k) ?_
      show Way _ _ _ _ (T43.setTop (mkF m 13 #[iv pz] []))
      obtain ⟨T89, X90, e91, st92⟩ := getS X44 hx hZ hown (host := "") (tw hw 17 rfl) Via.refl e45 (Sta.ext O0.2 CS) (g := (mkF m 13 #[iv pz] [])) rfl (hb hby dV_13)
      refine Way.by st92 ?_
      show Way _ _ _ _ (T89.setTop (mkF m 16 #[iv pz] [(.ref ca)]))
      refine Way.by (fun _ k => XS.iloadN X90.here hx rfl (hb hby dV_16) rfl k) ?_
      show Way _ _ _ _ (T89.setTop (mkF m 17 #[iv pz] [(.int pz), (.ref ca)]))
      refine Way.by (fun _ k => XS.sipush X90.here hx rfl (hb hby dV_17) k) ?_
      show Way _ _ _ _ (T89.setTop (mkF m 20 #[iv pz] [(.int 128), (.int pz), (.ref ca)]))
      refine Way.by (fun _ k => XS.iadd X90.here hx rfl (hb hby dV_20) rfl k) ?_
      show Way _ _ _ _ (T89.setTop (mkF m 21 #[iv pz] [(.int (pz + (128 : Int32))), (.ref ca)]))
      obtain ⟨hin, hlt⟩ := Jvm.Free.IntBox.place_ok pz hq3 hq10
      obtain ⟨b, hb1, EB⟩ := CE _ hlt
      have EB := Exa.ext O0.2 EB
      have CA2 := Arr.ext O0.2 CA
      refine Way.by (fun t k => Stand.aaload X90 hx (hpE e91 CA2.1) (arrS hZ CA2) rfl CA2.2.2 (by rw [CN]; exact hin) hb1 (g := (mkF m 21 #[iv pz] [(.int (pz + (128 : Int32))), (.ref ca)])) rfl rfl (hb hby dV_21) t k) ?_
      show Way _ _ _ _ (T89.setTop (mkF m 22 #[iv pz] [(.ref b)]))
      refine Way.ret (v := (some (.ref b))) X90 hlk (fun h => by rw [Bd.returns] at h; cases h) (fun fs hr => retOut X90 hx Bd.returns rfl (Or.inr (Or.inr (Or.inr (Or.inr ⟨rfl, rfl, rfl⟩)))) (hb hby dV_22) hr) ?_ (by decide) (by decide)
      show QV Z pz ca cc h0 n0 _ T89.heap _
      rw [e91]
      exact ⟨b, rfl, N0, (Keep.refl h0 []), EB⟩
def Q0 (n0 : Nat) (v : Option Value) (h : Heap) (L : List Loc) : Prop := v = some (.int 1) ∧ Fr n0 L
theorem pn0 : plainName "com/example/bare_orm/bareorm/ColumnTypePaddablePinLaw" = true := by first | (simp [plainName, overriddenIn]; done) | decide +kernel
theorem pd0 : parseMethodDescriptor "(II)Z" = some ⟨[.int, .int], some .boolean⟩ := by decide +kernel
set_option maxRecDepth 65536 in
set_option maxHeartbeats 40000000 in
theorem rm0 (l : Launch) (Z : State) (a0 : Array Value) (hw : ∀ d ∈ tables_1, d.before a0 Z = true) (ws : List Jvm.Cond) (p1 p2 : Int32) (uINTEGER bINTEGER : Addr) (cINTEGER : Cell) (uSTRING bSTRING : Addr) (cSTRING : Cell) (uBIG_DECIMAL bBIG_DECIMAL : Addr) (cBIG_DECIMAL : Cell) (ca : Addr) (cc : Cell) (h0 : Heap) (n0 : Nat) (Z0 : n0 ≤ h0.size) (O0 : Old Z n0 h0) (SINTEGER : Sta Z Z.heap "com/example/bare_orm/bareorm/ColumnType" "INTEGER" "Lcom/example/bare_orm/bareorm/ColumnType;" (.ref uINTEGER)) (EINTEGER : Exa Z Z.heap uINTEGER "com/example/bare_orm/bareorm/ColumnType$1") (FINTEGER : Fld Z Z.heap uINTEGER "com/example/bare_orm/bareorm/ColumnType" "paddingColumnTypes" "[I" (.ref bINTEGER)) (AINTEGER : Arr Z Z.heap bINTEGER cINTEGER .int) (NINTEGER : cINTEGER.slots.size.toInt32 = (0 : Int32)) (SSTRING : Sta Z Z.heap "com/example/bare_orm/bareorm/ColumnType" "STRING" "Lcom/example/bare_orm/bareorm/ColumnType;" (.ref uSTRING)) (ESTRING : Exa Z Z.heap uSTRING "com/example/bare_orm/bareorm/ColumnType$2") (FSTRING : Fld Z Z.heap uSTRING "com/example/bare_orm/bareorm/ColumnType" "paddingColumnTypes" "[I" (.ref bSTRING)) (ASTRING : Arr Z Z.heap bSTRING cSTRING .int) (NSTRING : cSTRING.slots.size.toInt32 = (2 : Int32)) (SBIG_DECIMAL : Sta Z Z.heap "com/example/bare_orm/bareorm/ColumnType" "BIG_DECIMAL" "Lcom/example/bare_orm/bareorm/ColumnType;" (.ref uBIG_DECIMAL)) (EBIG_DECIMAL : Exa Z Z.heap uBIG_DECIMAL "com/example/bare_orm/bareorm/ColumnType$3") (FBIG_DECIMAL : Fld Z Z.heap uBIG_DECIMAL "com/example/bare_orm/bareorm/ColumnType" "paddingColumnTypes" "[I" (.ref bBIG_DECIMAL)) (ABIG_DECIMAL : Arr Z Z.heap bBIG_DECIMAL cBIG_DECIMAL .int) (NBIG_DECIMAL : cBIG_DECIMAL.slots.size.toInt32 = (2 : Int32)) (CS : Sta Z Z.heap "java/lang/Integer$IntegerCache" "cache" "[Ljava/lang/Integer;" (.ref ca)) (CA : Arr Z Z.heap ca cc (.object "java/lang/Integer")) (CN : cc.slots.size = 256) (CE : ∀ i : Nat, i < 256 → ∃ b, cc.slots[i]? = some (.ref b) ∧ Exa Z Z.heap b "java/lang/Integer") (CH : Sta Z Z.heap "java/lang/Integer$IntegerCache" "high" "I" (.int 127)) :
    MetFree l x (head1 (Jvm.Cond.code x code maxLocals ret :: ws) room_1) (fun aa U => aa = #[(.int p1), (.int p2)] ∧ Z.Warmed39 U.vm ∧ U.heap = h0) (fun _ _ _ _ _ => True) (fun _ U o U' => ∃ v L, o = .returned v ∧ Q0 n0 v U'.heap L ∧ FrameEnd U o U' L room_1.cells room_1.slots) := by
  refine MetFree.of_bodySF (plainFor_of_name pn0) hisR ?_
  intro p e s m args below meth c s₁ Bd hml0 hP hK
  obtain ⟨rfl, hZ, hh⟩ := hP
  have hx := Bd.exec
  have hby := Bd.bytes
  have hlk : meth.locks = false := BodyLoose.notSynchronized Bd
  have hml : c.maxLocals = 7 := hml0
  have hown : s.vm.findClass "com/example/bare_orm/bareorm/ColumnTypePaddablePinLaw" = some m.cls := findClass_of_methodNamed Bd.named
  have hnm := (name_of_methodNamed Bd.named Bd.method).1
  have X0 : Stand p l e room_1 s m #[(.int p1), (.int p2)] below meth c s₁ [] 0 0 := Stand.of_body Bd
  have e0 : s₁.heap = h0 := by rw [← hh, Bd.state]; rfl
  have N0 := Fr.nil n0
  have ef : entryFrame m #[(.int p1), (.int p2)] maxLocals = mkF m 0 #[iv p1, iv p2, .unset, .unset, .unset, .unset, .unset] [] := by first | (simp [entryFrame, mkF, argsToLocals, Value.category, maxLocals]; done) | rfl
  show Way p.tables e below (KQ s (Q0 n0) room_1.cells room_1.slots) (s₁.setTop (entryFrame m #[(.int p1), (.int p2)] maxLocals))
  rw [ef]
  have EINTEGER1 := Exa.ext O0.2 EINTEGER
  have FINTEGER1 := Fld.ext O0.2 FINTEGER
  have ESTRING1 := Exa.ext O0.2 ESTRING
  have FSTRING1 := Fld.ext O0.2 FSTRING
  have EBIG_DECIMAL1 := Exa.ext O0.2 EBIG_DECIMAL
  have FBIG_DECIMAL1 := Fld.ext O0.2 FBIG_DECIMAL
  refine Way.by (fun _ k => XS.iloadN X0.here hx rfl (hb hby at_0) rfl k) ?_
  show Way _ _ _ _ (s₁.setTop (mkF m 1 #[iv p1, iv p2, .unset, .unset, .unset, .unset, .unset] [(.int p1)]))
  refine Way.by (Stand.ldcInt X0 hx hown (mvT hZ (tw hw 0 rfl)) rfl (hb hby at_1)) ?_
  show Way _ _ _ _ (s₁.setTop (mkF m 3 #[iv p1, iv p2, .unset, .unset, .unset, .unset, .unset] [(.int 2147483647), (.int p1)]))
  refine Way.by (fun _ k => XS.iand X0.here hx rfl (hb hby at_3) rfl k) ?_
  show Way _ _ _ _ (s₁.setTop (mkF m 4 #[iv p1, iv p2, .unset, .unset, .unset, .unset, .unset] [(.int (p1 &&& (2147483647 : Int32)))]))
  refine Way.by (fun _ k => XS.iconst X0.here hx rfl (hb hby at_4) k) ?_
  show Way _ _ _ _ (s₁.setTop (mkF m 5 #[iv p1, iv p2, .unset, .unset, .unset, .unset, .unset] [(.int 3), (.int (p1 &&& (2147483647 : Int32)))]))
  refine Way.by (fun _ k => iremM X0 hx rfl (hb hby at_5) rfl (by decide) k) ?_
  show Way _ _ _ _ (s₁.setTop (mkF m 6 #[iv p1, iv p2, .unset, .unset, .unset, .unset, .unset] [(.int ((p1 &&& (2147483647 : Int32)) % (3 : Int32)))]))
  refine Way.by (fun _ k => XS.istoreN X0.here hx rfl (hb hby at_6) rfl (l' := #[iv p1, iv p2, iv ((p1 &&& (2147483647 : Int32)) % (3 : Int32)), .unset, .unset, .unset, .unset]) rfl k) ?_
  show Way _ _ _ _ (s₁.setTop (mkF m 7 #[iv p1, iv p2, iv ((p1 &&& (2147483647 : Int32)) % (3 : Int32)), .unset, .unset, .unset, .unset] []))
  refine Way.by (fun _ k => XS.iloadN X0.here hx rfl (hb hby at_7) rfl k) ?_
  show Way _ _ _ _ (s₁.setTop (mkF m 8 #[iv p1, iv p2, iv ((p1 &&& (2147483647 : Int32)) % (3 : Int32)), .unset, .unset, .unset, .unset] [(.int ((p1 &&& (2147483647 : Int32)) % (3 : Int32)))]))
  by_cases b1 : ((p1 &&& (2147483647 : Int32)) % (3 : Int32)) = (0 : Int32)
  · skip
    refine Way.by (fun _ k => XS.ifNo X0.here hx rfl (hb hby at_8) rfl ((if0 .ne _).trans (teq b1).2) k) ?_
    show Way _ _ _ _ (s₁.setTop (mkF m 11 #[iv p1, iv p2, iv ((p1 &&& (2147483647 : Int32)) % (3 : Int32)), .unset, .unset, .unset, .unset] []))
    obtain ⟨T2, X3, e4, st5⟩ := getS X0 hx hZ hown (host := "") (tw hw 1 rfl) Via.refl e0 (Sta.ext O0.2 SINTEGER) (g := (mkF m 11 #[iv p1, iv p2, iv ((p1 &&& (2147483647 : Int32)) % (3 : Int32)), .unset, .unset, .unset, .unset] [])) rfl (hb hby at_11)
    refine Way.by st5 ?_
    show Way _ _ _ _ (T2.setTop (mkF m 14 #[iv p1, iv p2, iv ((p1 &&& (2147483647 : Int32)) % (3 : Int32)), .unset, .unset, .unset, .unset] [(.ref uINTEGER)]))
    refine Way.by (fun _ k => XS.astoreN X3.here hx rfl (hb hby at_14) rfl rfl (l' := #[iv p1, iv p2, iv ((p1 &&& (2147483647 : Int32)) % (3 : Int32)), rv uINTEGER, .unset, .unset, .unset]) rfl k) ?_
    show Way _ _ _ _ (T2.setTop (mkF m 15 #[iv p1, iv p2, iv ((p1 &&& (2147483647 : Int32)) % (3 : Int32)), rv uINTEGER, .unset, .unset, .unset] []))
    refine Way.by (fun _ k => XS.iconst X3.here hx rfl (hb hby at_15) k) ?_
    show Way _ _ _ _ (T2.setTop (mkF m 16 #[iv p1, iv p2, iv ((p1 &&& (2147483647 : Int32)) % (3 : Int32)), rv uINTEGER, .unset, .unset, .unset] [(.int 0)]))
    refine Way.by (fun _ k => XS.istore X3.here hx rfl (hb hby at_16) rfl (l' := #[iv p1, iv p2, iv ((p1 &&& (2147483647 : Int32)) % (3 : Int32)), rv uINTEGER, iv 0, .unset, .unset]) rfl k) ?_
    show Way _ _ _ _ (T2.setTop (mkF m 18 #[iv p1, iv p2, iv ((p1 &&& (2147483647 : Int32)) % (3 : Int32)), rv uINTEGER, iv 0, .unset, .unset] []))
    refine Way.by (fun _ k => XS.goto X3.here hx rfl (pc0 := 18) (pc' := 43) rfl (hb hby at_18) (by decide) (by decide) k) ?_
    show Way _ _ _ _ (T2.setTop (mkF m 43 #[iv p1, iv p2, iv ((p1 &&& (2147483647 : Int32)) % (3 : Int32)), rv uINTEGER, iv 0, .unset, .unset] []))
    refine Way.by (fun _ k => XS.aloadN X3.here hx rfl (hb hby at_43) rfl rfl k) ?_
    show Way _ _ _ _ (T2.setTop (mkF m 44 #[iv p1, iv p2, iv ((p1 &&& (2147483647 : Int32)) % (3 : Int32)), rv uINTEGER, iv 0, .unset, .unset] [(.ref uINTEGER)]))
    obtain ⟨cq22, kq23, qa24, qb25, qc26⟩ := isOf hZ e4 EINTEGER1
    obtain ⟨_, _, ⟨T6, L8, k9, n10⟩, -, X7, ⟨Lc11, hQ12, l13, y14, z15⟩, st16⟩ := X3.virtualBack hx (y := (⟨"com/example/bare_orm/bareorm/ColumnType", "paddable", "()Z"⟩ : MethodName)) (z := (⟨"com/example/bare_orm/bareorm/ColumnType", "paddable", "()Z"⟩ : MethodName)) hown (mvT hZ (tw hw 4 rfl)) (mvT hZ (tw hw 5 rfl)) (notFace_of_selects (args := #[]) (mvT hZ (tw hw 7 rfl))) (mvT hZ (tw hw 7 rfl)) (mvT hZ (tw hw 6 rfl)) (by decide) (backOf (W := 0) (rmP l Z a0 hw [] uINTEGER bINTEGER cINTEGER (0 : Int32) (0 : Int32) h0 n0 Z0 FINTEGER1 (Arr.ext O0.2 AINTEGER) NINTEGER (by decide)) hZ (tw hw 8 rfl) (tw hw 2 rfl) (by decide) (by decide)) qa24 qc26 (g := (mkF m 44 #[iv p1, iv p2, iv ((p1 &&& (2147483647 : Int32)) % (3 : Int32)), rv uINTEGER, iv 0, .unset, .unset] [(.ref uINTEGER)])) rfl (by rw [hml]; rfl) (Steps.refl _) (argsL := []) (rest := []) (lenOf pdP rfl) rfl (leW rfl) (hb hby at_44) (fun _ _ => ⟨rfl, e4, (leB rfl), (leB rfl)⟩)
    dsimp only [Pt.U, Pt.locs, Pt.cells, Pt.slots] at X7 l13 y14 z15 st16 hQ12
    subst l13 y14 z15
    obtain ⟨rfl, N27, e18⟩ := hQ12
    have N17 := Fr.app N0 N27
    refine Way.to st16 ?_
    show Way _ _ _ _ (T6.setTop (mkF m 47 #[iv p1, iv p2, iv ((p1 &&& (2147483647 : Int32)) % (3 : Int32)), rv uINTEGER, iv 0, .unset, .unset] [(.int 0)]))
    refine Way.by (fun _ k => XS.istore X7.here hx rfl (hb hby at_47) rfl (l' := #[iv p1, iv p2, iv ((p1 &&& (2147483647 : Int32)) % (3 : Int32)), rv uINTEGER, iv 0, iv 0, .unset]) rfl k) ?_
    show Way _ _ _ _ (T6.setTop (mkF m 49 #[iv p1, iv p2, iv ((p1 &&& (2147483647 : Int32)) % (3 : Int32)), rv uINTEGER, iv 0, iv 0, .unset] []))
    refine Way.by (fun _ k => XS.iload X7.here hx rfl (hb hby at_49) rfl k) ?_
    show Way _ _ _ _ (T6.setTop (mkF m 51 #[iv p1, iv p2, iv ((p1 &&& (2147483647 : Int32)) % (3 : Int32)), rv uINTEGER, iv 0, iv 0, .unset] [(.int 0)]))
    refine Way.by (fun _ k => XS.iload X7.here hx rfl (hb hby at_51) rfl k) ?_
    show Way _ _ _ _ (T6.setTop (mkF m 53 #[iv p1, iv p2, iv ((p1 &&& (2147483647 : Int32)) % (3 : Int32)), rv uINTEGER, iv 0, iv 0, .unset] [(.int 0), (.int 0)]))
    have b29 : (0 : Int32) = (0 : Int32) := by decide
    refine Way.by (fun _ k => XS.icmpYes X7.here hx rfl (pc0 := 53) (pc' := 58) rfl (hb hby at_53) rfl (teq b29).1 (by decide) (by decide) k) ?_
    show Way _ _ _ _ (T6.setTop (mkF m 58 #[iv p1, iv p2, iv ((p1 &&& (2147483647 : Int32)) % (3 : Int32)), rv uINTEGER, iv 0, iv 0, .unset] []))
    refine Way.by (fun _ k => XS.iload X7.here hx rfl (hb hby at_58) rfl k) ?_
    show Way _ _ _ _ (T6.setTop (mkF m 60 #[iv p1, iv p2, iv ((p1 &&& (2147483647 : Int32)) % (3 : Int32)), rv uINTEGER, iv 0, iv 0, .unset] [(.int 0)]))
    have b30 : (0 : Int32) = (0 : Int32) := by decide
    refine Way.by (fun _ k => XS.ifNo X7.here hx rfl (hb hby at_60) rfl ((if0 .ne _).trans (teq b30).2) k) ?_
    show Way _ _ _ _ (T6.setTop (mkF m 63 #[iv p1, iv p2, iv ((p1 &&& (2147483647 : Int32)) % (3 : Int32)), rv uINTEGER, iv 0, iv 0, .unset] []))
    refine Way.by (fun _ k => XS.iloadN X7.here hx rfl (hb hby at_63) rfl k) ?_
    show Way _ _ _ _ (T6.setTop (mkF m 64 #[iv p1, iv p2, iv ((p1 &&& (2147483647 : Int32)) % (3 : Int32)), rv uINTEGER, iv 0, iv 0, .unset] [(.int p2)]))
    obtain ⟨_, _, ⟨T31, L33, k34, n35⟩, -, X32, ⟨Lc36, hQ37, l38, y39, z40⟩, st41⟩ := Jvm.LawKit.callS X7 hx (y := (⟨"java/lang/Integer", "valueOf", "(I)Ljava/lang/Integer;"⟩ : MethodName)) hown (mvT hZ (tw hw 11 rfl)) (mvT hZ (tw hw 12 rfl)) (mvT hZ (tw hw 13 rfl)) (mvT hZ (tw hw 14 rfl)) (by decide) (backOf (W := 0) (rmV l Z a0 hw [] p2 ca cc h0 n0 Z0 O0 CS CA CN CE CH) hZ (tw hw 14 rfl) (tw hw 13 rfl) (by decide) (by decide)) (g := (mkF m 64 #[iv p1, iv p2, iv ((p1 &&& (2147483647 : Int32)) % (3 : Int32)), rv uINTEGER, iv 0, iv 0, .unset] [(.int p2)])) rfl (by rw [hml]; rfl) (argsL := [(.int p2)]) (rest := []) (lenOf pdV rfl) rfl (leW rfl) (hb hby at_64) (fun _ _ => ⟨rfl, e18, (leB rfl), (leB rfl)⟩)
    dsimp only [Pt.U, Pt.locs, Pt.cells, Pt.slots] at X32 l38 y39 z40 st41 hQ37
    subst l38 y39 z40
    obtain ⟨x_bx50, rfl, N47, K48, F_049⟩ := hQ37
    have N42 := Fr.app N17 N47
    have E51 := EINTEGER1.keep K48
    have F52 := FINTEGER1.keep K48 nin0
    have E53 := ESTRING1.keep K48
    have F54 := FSTRING1.keep K48 nin0
    have E55 := EBIG_DECIMAL1.keep K48
    have F56 := FBIG_DECIMAL1.keep K48 nin0
    have Z57 := Nat.le_trans Z0 K48.1
    have O58 := O0.keep K48 all0
    refine Way.by st41 ?_
    show Way _ _ _ _ (T31.setTop (mkF m 67 #[iv p1, iv p2, iv ((p1 &&& (2147483647 : Int32)) % (3 : Int32)), rv uINTEGER, iv 0, iv 0, .unset] [(.ref x_bx50)]))
    refine Way.by (fun _ k => XS.astore X32.here hx rfl (hb hby at_67) rfl rfl (l' := #[iv p1, iv p2, iv ((p1 &&& (2147483647 : Int32)) % (3 : Int32)), rv uINTEGER, iv 0, iv 0, rv x_bx50]) rfl k) ?_
    show Way _ _ _ _ (T31.setTop (mkF m 69 #[iv p1, iv p2, iv ((p1 &&& (2147483647 : Int32)) % (3 : Int32)), rv uINTEGER, iv 0, iv 0, rv x_bx50] []))
    refine Way.by (fun _ k => XS.aloadN X32.here hx rfl (hb hby at_69) rfl rfl k) ?_
    show Way _ _ _ _ (T31.setTop (mkF m 70 #[iv p1, iv p2, iv ((p1 &&& (2147483647 : Int32)) % (3 : Int32)), rv uINTEGER, iv 0, iv 0, rv x_bx50] [(.ref uINTEGER)]))
    refine Way.by (fun _ k => XS.aload X32.here hx rfl (hb hby at_70) rfl rfl k) ?_
    show Way _ _ _ _ (T31.setTop (mkF m 72 #[iv p1, iv p2, iv ((p1 &&& (2147483647 : Int32)) % (3 : Int32)), rv uINTEGER, iv 0, iv 0, rv x_bx50] [(.ref x_bx50), (.ref uINTEGER)]))
    obtain ⟨cq75, kq76, qa77, qb78, qc79⟩ := isOf hZ rfl E51
    obtain ⟨_, _, ⟨T59, L61, k62, n63⟩, -, X60, ⟨Lc64, hQ65, l66, y67, z68⟩, st69⟩ := X32.virtualBack hx (y := (⟨"com/example/bare_orm/bareorm/ColumnType", "unpadded", "(Ljava/lang/Object;)Ljava/lang/Object;"⟩ : MethodName)) (z := (⟨"com/example/bare_orm/bareorm/ColumnType", "unpadded", "(Ljava/lang/Object;)Ljava/lang/Object;"⟩ : MethodName)) hown (mvT hZ (tw hw 18 rfl)) (mvT hZ (tw hw 19 rfl)) (notFace_of_selects (args := #[]) (mvT hZ (tw hw 21 rfl))) (mvT hZ (tw hw 21 rfl)) (mvT hZ (tw hw 20 rfl)) (by decide) (backOf (W := 0) (rmN l Z a0 hw [] uINTEGER x_bx50 T31.heap n0 Z57 ) hZ (tw hw 22 rfl) (tw hw 2 rfl) (by decide) (by decide)) qa77 qc79 (g := (mkF m 72 #[iv p1, iv p2, iv ((p1 &&& (2147483647 : Int32)) % (3 : Int32)), rv uINTEGER, iv 0, iv 0, rv x_bx50] [(.ref x_bx50), (.ref uINTEGER)])) rfl (by rw [hml]; rfl) (Steps.refl _) (argsL := [(.ref x_bx50)]) (rest := []) (lenOf pdN rfl) rfl (leW rfl) (hb hby at_72) (fun _ _ => ⟨rfl, rfl, (leB rfl), (leB rfl)⟩)
    dsimp only [Pt.U, Pt.locs, Pt.cells, Pt.slots] at X60 l66 y67 z68 st69 hQ65
    subst l66 y67 z68
    obtain ⟨rfl, N80, e71⟩ := hQ65
    have N70 := Fr.app N42 N80
    refine Way.to st69 ?_
    show Way _ _ _ _ (T59.setTop (mkF m 75 #[iv p1, iv p2, iv ((p1 &&& (2147483647 : Int32)) % (3 : Int32)), rv uINTEGER, iv 0, iv 0, rv x_bx50] [(.ref x_bx50)]))
    refine Way.by (fun _ k => XS.aload X60.here hx rfl (hb hby at_75) rfl rfl k) ?_
    show Way _ _ _ _ (T59.setTop (mkF m 77 #[iv p1, iv p2, iv ((p1 &&& (2147483647 : Int32)) % (3 : Int32)), rv uINTEGER, iv 0, iv 0, rv x_bx50] [(.ref x_bx50), (.ref x_bx50)]))
    have b82 : x_bx50 = x_bx50 := rfl
    refine Way.by (fun _ k => acmp X60 hx rfl rfl rfl (pc0 := 77) (pc' := 80) (same := true) rfl (hb hby at_77) rfl (by simp [b82]) (by decide) (by decide) k) ?_
    show Way _ _ _ _ (T59.setTop (mkF m 80 #[iv p1, iv p2, iv ((p1 &&& (2147483647 : Int32)) % (3 : Int32)), rv uINTEGER, iv 0, iv 0, rv x_bx50] []))
    refine Way.by (fun _ k => XS.iconst X60.here hx rfl (hb hby at_80) k) ?_
    show Way _ _ _ _ (T59.setTop (mkF m 81 #[iv p1, iv p2, iv ((p1 &&& (2147483647 : Int32)) % (3 : Int32)), rv uINTEGER, iv 0, iv 0, rv x_bx50] [(.int 1)]))
    refine Way.by (fun _ k => XS.goto X60.here hx rfl (pc0 := 81) (pc' := 85) rfl (hb hby at_81) (by decide) (by decide) k) ?_
    show Way _ _ _ _ (T59.setTop (mkF m 85 #[iv p1, iv p2, iv ((p1 &&& (2147483647 : Int32)) % (3 : Int32)), rv uINTEGER, iv 0, iv 0, rv x_bx50] [(.int 1)]))
    refine Way.ret (v := (some (.int (nar .boolean (1 : Int32))))) X60 hlk (fun h => by rw [Bd.returns] at h; cases h) (fun fs hr => retN X60 hx (t := .boolean) Bd.returns (by simp) (hb hby at_85) hr) ?_ (by decide) (by decide)
    show Q0 n0 _ T59.heap _
    rw [e71]
    exact ⟨rfl, N70⟩
  · skip
    refine Way.by (fun _ k => XS.ifYes X0.here hx rfl (pc0 := 8) (pc' := 21) rfl (hb hby at_8) rfl ((if0 .ne _).trans (feq b1).2) (by decide) (by decide) k) ?_
    show Way _ _ _ _ (s₁.setTop (mkF m 21 #[iv p1, iv p2, iv ((p1 &&& (2147483647 : Int32)) % (3 : Int32)), .unset, .unset, .unset, .unset] []))
    refine Way.by (fun _ k => XS.iloadN X0.here hx rfl (hb hby at_21) rfl k) ?_
    show Way _ _ _ _ (s₁.setTop (mkF m 22 #[iv p1, iv p2, iv ((p1 &&& (2147483647 : Int32)) % (3 : Int32)), .unset, .unset, .unset, .unset] [(.int ((p1 &&& (2147483647 : Int32)) % (3 : Int32)))]))
    refine Way.by (fun _ k => XS.iconst X0.here hx rfl (hb hby at_22) k) ?_
    show Way _ _ _ _ (s₁.setTop (mkF m 23 #[iv p1, iv p2, iv ((p1 &&& (2147483647 : Int32)) % (3 : Int32)), .unset, .unset, .unset, .unset] [(.int 1), (.int ((p1 &&& (2147483647 : Int32)) % (3 : Int32)))]))
    by_cases b83 : ((p1 &&& (2147483647 : Int32)) % (3 : Int32)) = (1 : Int32)
    · skip
      refine Way.by (fun _ k => XS.icmpNo X0.here hx rfl (hb hby at_23) rfl (teq b83).2 k) ?_
      show Way _ _ _ _ (s₁.setTop (mkF m 26 #[iv p1, iv p2, iv ((p1 &&& (2147483647 : Int32)) % (3 : Int32)), .unset, .unset, .unset, .unset] []))
      obtain ⟨T84, X85, e86, st87⟩ := getS X0 hx hZ hown (host := "") (tw hw 44 rfl) Via.refl e0 (Sta.ext O0.2 SSTRING) (g := (mkF m 26 #[iv p1, iv p2, iv ((p1 &&& (2147483647 : Int32)) % (3 : Int32)), .unset, .unset, .unset, .unset] [])) rfl (hb hby at_26)
      refine Way.by st87 ?_
      show Way _ _ _ _ (T84.setTop (mkF m 29 #[iv p1, iv p2, iv ((p1 &&& (2147483647 : Int32)) % (3 : Int32)), .unset, .unset, .unset, .unset] [(.ref uSTRING)]))
      refine Way.by (fun _ k => XS.astoreN X85.here hx rfl (hb hby at_29) rfl rfl (l' := #[iv p1, iv p2, iv ((p1 &&& (2147483647 : Int32)) % (3 : Int32)), rv uSTRING, .unset, .unset, .unset]) rfl k) ?_
      show Way _ _ _ _ (T84.setTop (mkF m 30 #[iv p1, iv p2, iv ((p1 &&& (2147483647 : Int32)) % (3 : Int32)), rv uSTRING, .unset, .unset, .unset] []))
      refine Way.by (fun _ k => XS.iconst X85.here hx rfl (hb hby at_30) k) ?_
      show Way _ _ _ _ (T84.setTop (mkF m 31 #[iv p1, iv p2, iv ((p1 &&& (2147483647 : Int32)) % (3 : Int32)), rv uSTRING, .unset, .unset, .unset] [(.int 1)]))
      refine Way.by (fun _ k => XS.istore X85.here hx rfl (hb hby at_31) rfl (l' := #[iv p1, iv p2, iv ((p1 &&& (2147483647 : Int32)) % (3 : Int32)), rv uSTRING, iv 1, .unset, .unset]) rfl k) ?_
      show Way _ _ _ _ (T84.setTop (mkF m 33 #[iv p1, iv p2, iv ((p1 &&& (2147483647 : Int32)) % (3 : Int32)), rv uSTRING, iv 1, .unset, .unset] []))
      refine Way.by (fun _ k => XS.goto X85.here hx rfl (pc0 := 33) (pc' := 43) rfl (hb hby at_33) (by decide) (by decide) k) ?_
      show Way _ _ _ _ (T84.setTop (mkF m 43 #[iv p1, iv p2, iv ((p1 &&& (2147483647 : Int32)) % (3 : Int32)), rv uSTRING, iv 1, .unset, .unset] []))
      refine Way.by (fun _ k => XS.aloadN X85.here hx rfl (hb hby at_43) rfl rfl k) ?_
      show Way _ _ _ _ (T84.setTop (mkF m 44 #[iv p1, iv p2, iv ((p1 &&& (2147483647 : Int32)) % (3 : Int32)), rv uSTRING, iv 1, .unset, .unset] [(.ref uSTRING)]))
      obtain ⟨cq104, kq105, qa106, qb107, qc108⟩ := isOf hZ e86 ESTRING1
      obtain ⟨_, _, ⟨T88, L90, k91, n92⟩, -, X89, ⟨Lc93, hQ94, l95, y96, z97⟩, st98⟩ := X85.virtualBack hx (y := (⟨"com/example/bare_orm/bareorm/ColumnType", "paddable", "()Z"⟩ : MethodName)) (z := (⟨"com/example/bare_orm/bareorm/ColumnType", "paddable", "()Z"⟩ : MethodName)) hown (mvT hZ (tw hw 4 rfl)) (mvT hZ (tw hw 5 rfl)) (notFace_of_selects (args := #[]) (mvT hZ (tw hw 46 rfl))) (mvT hZ (tw hw 46 rfl)) (mvT hZ (tw hw 6 rfl)) (by decide) (backOf (W := 0) (rmP l Z a0 hw [] uSTRING bSTRING cSTRING (2 : Int32) (1 : Int32) h0 n0 Z0 FSTRING1 (Arr.ext O0.2 ASTRING) NSTRING (by decide)) hZ (tw hw 8 rfl) (tw hw 2 rfl) (by decide) (by decide)) qa106 qc108 (g := (mkF m 44 #[iv p1, iv p2, iv ((p1 &&& (2147483647 : Int32)) % (3 : Int32)), rv uSTRING, iv 1, .unset, .unset] [(.ref uSTRING)])) rfl (by rw [hml]; rfl) (Steps.refl _) (argsL := []) (rest := []) (lenOf pdP rfl) rfl (leW rfl) (hb hby at_44) (fun _ _ => ⟨rfl, e86, (leB rfl), (leB rfl)⟩)
      dsimp only [Pt.U, Pt.locs, Pt.cells, Pt.slots] at X89 l95 y96 z97 st98 hQ94
      subst l95 y96 z97
      obtain ⟨rfl, N109, e100⟩ := hQ94
      have N99 := Fr.app N0 N109
      refine Way.to st98 ?_
      show Way _ _ _ _ (T88.setTop (mkF m 47 #[iv p1, iv p2, iv ((p1 &&& (2147483647 : Int32)) % (3 : Int32)), rv uSTRING, iv 1, .unset, .unset] [(.int 1)]))
      refine Way.by (fun _ k => XS.istore X89.here hx rfl (hb hby at_47) rfl (l' := #[iv p1, iv p2, iv ((p1 &&& (2147483647 : Int32)) % (3 : Int32)), rv uSTRING, iv 1, iv 1, .unset]) rfl k) ?_
      show Way _ _ _ _ (T88.setTop (mkF m 49 #[iv p1, iv p2, iv ((p1 &&& (2147483647 : Int32)) % (3 : Int32)), rv uSTRING, iv 1, iv 1, .unset] []))
      refine Way.by (fun _ k => XS.iload X89.here hx rfl (hb hby at_49) rfl k) ?_
      show Way _ _ _ _ (T88.setTop (mkF m 51 #[iv p1, iv p2, iv ((p1 &&& (2147483647 : Int32)) % (3 : Int32)), rv uSTRING, iv 1, iv 1, .unset] [(.int 1)]))
      refine Way.by (fun _ k => XS.iload X89.here hx rfl (hb hby at_51) rfl k) ?_
      show Way _ _ _ _ (T88.setTop (mkF m 53 #[iv p1, iv p2, iv ((p1 &&& (2147483647 : Int32)) % (3 : Int32)), rv uSTRING, iv 1, iv 1, .unset] [(.int 1), (.int 1)]))
      have b111 : (1 : Int32) = (1 : Int32) := by decide
      refine Way.by (fun _ k => XS.icmpYes X89.here hx rfl (pc0 := 53) (pc' := 58) rfl (hb hby at_53) rfl (teq b111).1 (by decide) (by decide) k) ?_
      show Way _ _ _ _ (T88.setTop (mkF m 58 #[iv p1, iv p2, iv ((p1 &&& (2147483647 : Int32)) % (3 : Int32)), rv uSTRING, iv 1, iv 1, .unset] []))
      refine Way.by (fun _ k => XS.iload X89.here hx rfl (hb hby at_58) rfl k) ?_
      show Way _ _ _ _ (T88.setTop (mkF m 60 #[iv p1, iv p2, iv ((p1 &&& (2147483647 : Int32)) % (3 : Int32)), rv uSTRING, iv 1, iv 1, .unset] [(.int 1)]))
      have b112 : ¬ (1 : Int32) = (0 : Int32) := by decide
      refine Way.by (fun _ k => XS.ifYes X89.here hx rfl (pc0 := 60) (pc' := 86) rfl (hb hby at_60) rfl ((if0 .ne _).trans (feq b112).2) (by decide) (by decide) k) ?_
      show Way _ _ _ _ (T88.setTop (mkF m 86 #[iv p1, iv p2, iv ((p1 &&& (2147483647 : Int32)) % (3 : Int32)), rv uSTRING, iv 1, iv 1, .unset] []))
      refine Way.by (fun _ k => XS.iconst X89.here hx rfl (hb hby at_86) k) ?_
      show Way _ _ _ _ (T88.setTop (mkF m 87 #[iv p1, iv p2, iv ((p1 &&& (2147483647 : Int32)) % (3 : Int32)), rv uSTRING, iv 1, iv 1, .unset] [(.int 1)]))
      refine Way.ret (v := (some (.int (nar .boolean (1 : Int32))))) X89 hlk (fun h => by rw [Bd.returns] at h; cases h) (fun fs hr => retN X89 hx (t := .boolean) Bd.returns (by simp) (hb hby at_87) hr) ?_ (by decide) (by decide)
      show Q0 n0 _ T88.heap _
      rw [e100]
      exact ⟨rfl, N99⟩
    · skip
      refine Way.by (fun _ k => XS.icmpYes X0.here hx rfl (pc0 := 23) (pc' := 36) rfl (hb hby at_23) rfl (feq b83).2 (by decide) (by decide) k) ?_
      show Way _ _ _ _ (s₁.setTop (mkF m 36 #[iv p1, iv p2, iv ((p1 &&& (2147483647 : Int32)) % (3 : Int32)), .unset, .unset, .unset, .unset] []))
      obtain ⟨T113, X114, e115, st116⟩ := getS X0 hx hZ hown (host := "") (tw hw 23 rfl) Via.refl e0 (Sta.ext O0.2 SBIG_DECIMAL) (g := (mkF m 36 #[iv p1, iv p2, iv ((p1 &&& (2147483647 : Int32)) % (3 : Int32)), .unset, .unset, .unset, .unset] [])) rfl (hb hby at_36)
      refine Way.by st116 ?_
      show Way _ _ _ _ (T113.setTop (mkF m 39 #[iv p1, iv p2, iv ((p1 &&& (2147483647 : Int32)) % (3 : Int32)), .unset, .unset, .unset, .unset] [(.ref uBIG_DECIMAL)]))
      refine Way.by (fun _ k => XS.astoreN X114.here hx rfl (hb hby at_39) rfl rfl (l' := #[iv p1, iv p2, iv ((p1 &&& (2147483647 : Int32)) % (3 : Int32)), rv uBIG_DECIMAL, .unset, .unset, .unset]) rfl k) ?_
      show Way _ _ _ _ (T113.setTop (mkF m 40 #[iv p1, iv p2, iv ((p1 &&& (2147483647 : Int32)) % (3 : Int32)), rv uBIG_DECIMAL, .unset, .unset, .unset] []))
      refine Way.by (fun _ k => XS.iconst X114.here hx rfl (hb hby at_40) k) ?_
      show Way _ _ _ _ (T113.setTop (mkF m 41 #[iv p1, iv p2, iv ((p1 &&& (2147483647 : Int32)) % (3 : Int32)), rv uBIG_DECIMAL, .unset, .unset, .unset] [(.int 1)]))
      refine Way.by (fun _ k => XS.istore X114.here hx rfl (hb hby at_41) rfl (l' := #[iv p1, iv p2, iv ((p1 &&& (2147483647 : Int32)) % (3 : Int32)), rv uBIG_DECIMAL, iv 1, .unset, .unset]) rfl k) ?_
      show Way _ _ _ _ (T113.setTop (mkF m 43 #[iv p1, iv p2, iv ((p1 &&& (2147483647 : Int32)) % (3 : Int32)), rv uBIG_DECIMAL, iv 1, .unset, .unset] []))
      refine Way.by (fun _ k => XS.aloadN X114.here hx rfl (hb hby at_43) rfl rfl k) ?_
      show Way _ _ _ _ (T113.setTop (mkF m 44 #[iv p1, iv p2, iv ((p1 &&& (2147483647 : Int32)) % (3 : Int32)), rv uBIG_DECIMAL, iv 1, .unset, .unset] [(.ref uBIG_DECIMAL)]))
      obtain ⟨cq133, kq134, qa135, qb136, qc137⟩ := isOf hZ e115 EBIG_DECIMAL1
      obtain ⟨_, _, ⟨T117, L119, k120, n121⟩, -, X118, ⟨Lc122, hQ123, l124, y125, z126⟩, st127⟩ := X114.virtualBack hx (y := (⟨"com/example/bare_orm/bareorm/ColumnType", "paddable", "()Z"⟩ : MethodName)) (z := (⟨"com/example/bare_orm/bareorm/ColumnType", "paddable", "()Z"⟩ : MethodName)) hown (mvT hZ (tw hw 4 rfl)) (mvT hZ (tw hw 5 rfl)) (notFace_of_selects (args := #[]) (mvT hZ (tw hw 25 rfl))) (mvT hZ (tw hw 25 rfl)) (mvT hZ (tw hw 6 rfl)) (by decide) (backOf (W := 0) (rmP l Z a0 hw [] uBIG_DECIMAL bBIG_DECIMAL cBIG_DECIMAL (2 : Int32) (1 : Int32) h0 n0 Z0 FBIG_DECIMAL1 (Arr.ext O0.2 ABIG_DECIMAL) NBIG_DECIMAL (by decide)) hZ (tw hw 8 rfl) (tw hw 2 rfl) (by decide) (by decide)) qa135 qc137 (g := (mkF m 44 #[iv p1, iv p2, iv ((p1 &&& (2147483647 : Int32)) % (3 : Int32)), rv uBIG_DECIMAL, iv 1, .unset, .unset] [(.ref uBIG_DECIMAL)])) rfl (by rw [hml]; rfl) (Steps.refl _) (argsL := []) (rest := []) (lenOf pdP rfl) rfl (leW rfl) (hb hby at_44) (fun _ _ => ⟨rfl, e115, (leB rfl), (leB rfl)⟩)
      dsimp only [Pt.U, Pt.locs, Pt.cells, Pt.slots] at X118 l124 y125 z126 st127 hQ123
      subst l124 y125 z126
      obtain ⟨rfl, N138, e129⟩ := hQ123
      have N128 := Fr.app N0 N138
      refine Way.to st127 ?_
      show Way _ _ _ _ (T117.setTop (mkF m 47 #[iv p1, iv p2, iv ((p1 &&& (2147483647 : Int32)) % (3 : Int32)), rv uBIG_DECIMAL, iv 1, .unset, .unset] [(.int 1)]))
      refine Way.by (fun _ k => XS.istore X118.here hx rfl (hb hby at_47) rfl (l' := #[iv p1, iv p2, iv ((p1 &&& (2147483647 : Int32)) % (3 : Int32)), rv uBIG_DECIMAL, iv 1, iv 1, .unset]) rfl k) ?_
      show Way _ _ _ _ (T117.setTop (mkF m 49 #[iv p1, iv p2, iv ((p1 &&& (2147483647 : Int32)) % (3 : Int32)), rv uBIG_DECIMAL, iv 1, iv 1, .unset] []))
      refine Way.by (fun _ k => XS.iload X118.here hx rfl (hb hby at_49) rfl k) ?_
      show Way _ _ _ _ (T117.setTop (mkF m 51 #[iv p1, iv p2, iv ((p1 &&& (2147483647 : Int32)) % (3 : Int32)), rv uBIG_DECIMAL, iv 1, iv 1, .unset] [(.int 1)]))
      refine Way.by (fun _ k => XS.iload X118.here hx rfl (hb hby at_51) rfl k) ?_
      show Way _ _ _ _ (T117.setTop (mkF m 53 #[iv p1, iv p2, iv ((p1 &&& (2147483647 : Int32)) % (3 : Int32)), rv uBIG_DECIMAL, iv 1, iv 1, .unset] [(.int 1), (.int 1)]))
      have b140 : (1 : Int32) = (1 : Int32) := by decide
      refine Way.by (fun _ k => XS.icmpYes X118.here hx rfl (pc0 := 53) (pc' := 58) rfl (hb hby at_53) rfl (teq b140).1 (by decide) (by decide) k) ?_
      show Way _ _ _ _ (T117.setTop (mkF m 58 #[iv p1, iv p2, iv ((p1 &&& (2147483647 : Int32)) % (3 : Int32)), rv uBIG_DECIMAL, iv 1, iv 1, .unset] []))
      refine Way.by (fun _ k => XS.iload X118.here hx rfl (hb hby at_58) rfl k) ?_
      show Way _ _ _ _ (T117.setTop (mkF m 60 #[iv p1, iv p2, iv ((p1 &&& (2147483647 : Int32)) % (3 : Int32)), rv uBIG_DECIMAL, iv 1, iv 1, .unset] [(.int 1)]))
      have b141 : ¬ (1 : Int32) = (0 : Int32) := by decide
      refine Way.by (fun _ k => XS.ifYes X118.here hx rfl (pc0 := 60) (pc' := 86) rfl (hb hby at_60) rfl ((if0 .ne _).trans (feq b141).2) (by decide) (by decide) k) ?_
      show Way _ _ _ _ (T117.setTop (mkF m 86 #[iv p1, iv p2, iv ((p1 &&& (2147483647 : Int32)) % (3 : Int32)), rv uBIG_DECIMAL, iv 1, iv 1, .unset] []))
      refine Way.by (fun _ k => XS.iconst X118.here hx rfl (hb hby at_86) k) ?_
      show Way _ _ _ _ (T117.setTop (mkF m 87 #[iv p1, iv p2, iv ((p1 &&& (2147483647 : Int32)) % (3 : Int32)), rv uBIG_DECIMAL, iv 1, iv 1, .unset] [(.int 1)]))
      refine Way.ret (v := (some (.int (nar .boolean (1 : Int32))))) X118 hlk (fun h => by rw [Bd.returns] at h; cases h) (fun fs hr => retN X118 hx (t := .boolean) Bd.returns (by simp) (hb hby at_87) hr) ?_ (by decide) (by decide)
      show Q0 n0 _ T117.heap _
      rw [e129]
      exact ⟨rfl, N128⟩
set_option maxRecDepth 65536 in
set_option maxHeartbeats 40000000 in
theorem comes_1 {Post : Tables → Env → Array Value → State → Outcome → State → Prop} (hpost : ∀ tb e args s v u, (limb_1_1.after args s (.returned v) u = true ∧ limb_1_2.after args s (.returned v) u = true ∧ True) → FrameEnd s (.returned v) u (Jvm.fieldLocs frame_1_writes args s ++ Jvm.arrayLocs frame_1_arrays args s ++ Jvm.staticLocs frame_1_statics s) 16 128 → Post tb e args s (.returned v) u) :
    ArmFor flags0 classFile x code maxLocals ret World_1 tables_1 room_1 Calls_1 rest_1 Pre_1 Post := by
  intro l hfl _ _ p e ha hc hk s m args below hf hA hF happ hP
  obtain ⟨hcalls, hrest, hpre⟩ := hP
  obtain ⟨-, -, -, hnamed, -, -, -, hat⟩ := (Spec.applies_iff hf).mp happ
  obtain ⟨hg, hn⟩ := and_e (Cond.before_iff.mp (show (Jvm.Cond.and given_1 narrow_1).before args s = true from hpre))
  obtain ⟨hg0, hgr0⟩ := and_e hg
  obtain ⟨hg1, hgr1⟩ := and_e hgr0
  obtain ⟨w0, w1, rfl⟩ : ∃ w0 w1 : Value, args = #[w0, w1] := by
    have hs : args.size = 2 := by simpa [Cond.value, given_1] using hg0
    obtain ⟨L⟩ := args
    match L, hs with
    | [w0, w1], _ => exact ⟨w0, w1, rfl⟩
  have hw := fun d (hd : d ∈ tables_1) => atoms_spec (ws := Jvm.Cond.code x code maxLocals ret :: tables_1) hat d (List.mem_cons_of_mem _ hd)
  have hfit : Fit s := fun {y c} hc i hi => by
    obtain ⟨ha, rfl⟩ := Array.getElem?_eq_some_iff.mp hc
    have q := List.all_eq_true.mp ((Array.all_eq_true_iff_forall_mem.mp hF) _ (Array.getElem_mem ha)) i (List.mem_range.mpr hi)
    simpa [Array.getElem?_eq_getElem hi] using q
  obtain ⟨i0, ei0⟩ := is_v hg1
  obtain rfl : w0 = (.int i0) := Option.some.inj ei0
  obtain ⟨i1, ei1⟩ := is_v hgr1
  obtain rfl : w1 = (.int i1) := Option.some.inj ei1
  obtain ⟨hn0, hnr0⟩ := and_e hn
  obtain ⟨hn1, hnr1⟩ := and_e hnr0
  obtain ⟨hn2, hnr2⟩ := and_e hnr1
  obtain ⟨hn3, hnr3⟩ := and_e hnr2
  obtain ⟨hn4, hnr4⟩ := and_e hnr3
  obtain ⟨hn5, hnr5⟩ := and_e hnr4
  obtain ⟨hn6, hnr6⟩ := and_e hnr5
  obtain ⟨hn7, hnr7⟩ := and_e hnr6
  obtain ⟨uINTEGER, _, _, _, evINTEGER, -⟩ := Cond.exactly_spec (Cond.before_iff.mpr hn0)
  have SINTEGER := Sta.start evINTEGER (Or.inr ⟨(tw hw 2 rfl), (tw hw 3 rfl)⟩)
  have EINTEGER := Exa.start evINTEGER hn0
  obtain ⟨uBIG_DECIMAL, _, _, _, evBIG_DECIMAL, -⟩ := Cond.exactly_spec (Cond.before_iff.mpr hn3)
  have SBIG_DECIMAL := Sta.start evBIG_DECIMAL (Or.inr ⟨(tw hw 2 rfl), (tw hw 24 rfl)⟩)
  have EBIG_DECIMAL := Exa.start evBIG_DECIMAL hn3
  obtain ⟨uSTRING, _, _, _, evSTRING, -⟩ := Cond.exactly_spec (Cond.before_iff.mpr hn6)
  have SSTRING := Sta.start evSTRING (Or.inr ⟨(tw hw 2 rfl), (tw hw 45 rfl)⟩)
  have ESTRING := Exa.start evSTRING hn6
  obtain ⟨bINTEGER, cINTEGER, FINTEGER, AINTEGER, NINTEGER⟩ := arrFld evINTEGER hn1 hn2
  obtain ⟨bSTRING, cSTRING, FSTRING, ASTRING, NSTRING⟩ := arrFld evSTRING hn7 hnr7
  obtain ⟨bBIG_DECIMAL, cBIG_DECIMAL, FBIG_DECIMAL, ABIG_DECIMAL, NBIG_DECIMAL⟩ := arrFld evBIG_DECIMAL hn4 hn5
  have hs := atoms_of jdkStatics_1 (show (jdkStatics_1.foldr Jvm.Cond.and restOwn_1).before _ s = true from hrest)
  obtain ⟨ca, cc, CS, CA, CN, CE⟩ := cacheStart (Or.inr ⟨(tw hw 16 rfl), (hs.1 _ (List.mem_of_getElem? (i := 2) rfl))⟩) (hs.1 _ (List.mem_of_getElem? (i := 4) rfl)) (hs.1 _ (List.mem_of_getElem? (i := 5) rfl)) (hs.1 _ (List.mem_of_getElem? (i := 6) rfl)) (hs.1 _ (List.mem_of_getElem? (i := 7) rfl))
  have CH := staInt (hs.1 _ (List.mem_of_getElem? (i := 3) rfl)) (Or.inl (hs.1 _ (List.mem_of_getElem? (i := 1) rfl)))
  obtain ⟨n, o, h1, h2, h3, _, L, rfl, ⟨rfl, N⟩, hq⟩ := rm0 l s _ hw tables_1 i0 i1 uINTEGER bINTEGER cINTEGER uSTRING bSTRING cSTRING uBIG_DECIMAL bBIG_DECIMAL cBIG_DECIMAL ca cc s.heap s.heap.size (Nat.le_refl _) (Old.start s) SINTEGER EINTEGER FINTEGER AINTEGER NINTEGER SSTRING ESTRING FSTRING ASTRING NSTRING SBIG_DECIMAL EBIG_DECIMAL FBIG_DECIMAL ABIG_DECIMAL NBIG_DECIMAL CS CA CN CE CH p e ha hc hk s m _ below hf ((Spec.applies_iff_loose hf).mp happ).1 ⟨rfl, State.Warmed39.refl s, rfl⟩ trivial
  refine ⟨n, _, h1, h2, h3, hpost _ _ _ _ _ _ ⟨Cond.after_iff.mpr rfl, Cond.after_iff.mpr (eq_i res_at (Term.int_eval (1)) rfl), trivial⟩ ⟨hq.1, hq.2.1, (hq.2.2.sift fun y hy => Or.inr (N y hy)).mono (by decide) (by decide)⟩⟩
theorem main_1_1 : Claimed_1_1 := comes_1 fun _ _ _ _ _ _ h hF => ⟨h.1, hF⟩
theorem main_1_2 : Claimed_1_2 := comes_1 fun _ _ _ _ _ _ h hF => ⟨h.2.1, hF⟩
end Jvm.Pilot.@@N@@
namespace Jvm.Pilot.@@N@@
open Jvm Jvm.ClassFile Sem Op Lib Jvm.Free Jvm.Stand Jvm.Pilot.@@N@@.Jvm.D
/-! MADE BY PROGRAM (witnessworld.py) out of the Statement's table words and the real class files: 20 classes; the members and pool entries that the words name. The judged class is class 1, her method 1. -/
namespace start1
open Jvm.ClassFile
def u (s : String) : CpInfo := .utf8 (stringToUtf16 s)
/-- a pool by its gaps: so many unusable entries, then the entry; so many at the end -/
def gap : Nat → List CpInfo → List CpInfo
  | 0, r => r
  | n + 1, r => .unusable :: gap n r
def poolList (es : List (Nat × CpInfo)) (last : Nat) : List CpInfo := es.foldr (fun e r => gap e.1 (e.2 :: r)) (gap last [])
def pool (es : List (Nat × CpInfo)) (last : Nat) : Array CpInfo := ⟨poolList es last⟩
def fileOf (pool : Array CpInfo) (this : Nat) (attrs : Array Attribute := #[]) (ms : Array MethodInfo := #[]) (fl : Nat := 33) (sup : Nat := 0) (ifs : Array Nat := #[]) (fds : Array FieldInfo := #[]) : ClassFile where
  minorVersion := 0
  majorVersion := 65
  constantPool := pool
  accessFlags := fl
  thisClass := this
  superClass := sup
  interfaces := ifs
  fields := fds
  methods := ms
  attributes := attrs
def plain (name : String) (sup : Option ClassId) : Class where
  name := name
  kind := .ordinary
  loader := none
  accessFlags := 33
  super := sup
  interfaces := #[]
  cf := none
  fields := #[]
  methods := #[]
  instanceTypes := #[]
  staticTypes := #[]
  resolved := #[]
  callSites := []
  init := .initialized
  statics := none
  mirror := none

def pool0 : Array CpInfo := pool [(5, u "<init>"), (0, u "()V"), (1, .class_ 10), (1, u "java/lang/Object")] 113

def k0c0 : Code := { maxStack := 0, maxLocals := 1, code := object_method_1_code, exceptionTable := #[], attributes := #[] }
def k0m0 : Method := { name := "<init>", desc := "()V", sig := { parameters := [], returnType := none }, accessFlags := 1, code := some k0c0 }
/-- java/lang/Object -/
def k0 : Class := { plain "java/lang/Object" none with
  accessFlags := 33
  interfaces := #[]
  cf := some (fileOf pool0 8 #[] #[{ accessFlags := 1, nameIndex := 5, descriptorIndex := 6, attributes := #[] }] 33 0 #[] #[])
  fields := #[]
  methods := #[k0m0]
  instanceTypes := #[]
  staticTypes := #[]
  resolved := Array.replicate 124 none
  statics := none }

def pool1 : Array CpInfo := pool [(2, .class_ 4), (1, u "java/lang/Object"), (0, u "<init>"), (0, u "()V"), (0, .integer 2147483647), (0, .fieldref 9 10), (0, .class_ 11), (0, .nameAndType 12 13), (0, u "com/example/bare_orm/bareorm/ColumnType"), (0, u "INTEGER"), (0, u "Lcom/example/bare_orm/bareorm/ColumnType;"), (0, .fieldref 9 15), (0, .nameAndType 16 13), (0, u "STRING"), (0, .fieldref 9 18), (0, .nameAndType 19 13), (0, u "BIG_DECIMAL"), (0, .methodref 9 21), (0, .nameAndType 22 23), (0, u "paddable"), (0, u "()Z"), (0, .methodref 25 26), (0, .class_ 27), (0, .nameAndType 28 29), (0, u "java/lang/Integer"), (0, u "valueOf"), (0, u "(I)Ljava/lang/Integer;"), (0, .methodref 9 31), (0, .nameAndType 32 33), (0, u "unpadded"), (0, u "(Ljava/lang/Object;)Ljava/lang/Object;"), (0, .class_ 35), (0, u "com/example/bare_orm/bareorm/ColumnTypePaddablePinLaw"), (2, u "law"), (0, u "(II)Z")] 3

def k1m0 : Method := { name := "<init>", desc := "()V", sig := { parameters := [], returnType := none }, accessFlags := 1, code := none }
def k1c1 : Code := { maxStack := 2, maxLocals := 7, code := code, exceptionTable := #[], attributes := #[] }
def k1m1 : Method := { name := "law", desc := "(II)Z", sig := { parameters := [.int, .int], returnType := some .boolean }, accessFlags := 9, code := some k1c1 }
/-- com/example/bare_orm/bareorm/ColumnTypePaddablePinLaw -/
def k1 : Class := { plain "com/example/bare_orm/bareorm/ColumnTypePaddablePinLaw" (some 0) with
  accessFlags := 49
  interfaces := #[]
  cf := some (fileOf pool1 34 #[] #[{ accessFlags := 1, nameIndex := 5, descriptorIndex := 6, attributes := #[] }, { accessFlags := 9, nameIndex := 38, descriptorIndex := 39, attributes := #[] }] 49 2 #[] #[])
  fields := #[]
  methods := #[k1m0, k1m1]
  instanceTypes := #[]
  staticTypes := #[]
  resolved := Array.replicate 43 none
  statics := none }

def pool2 : Array CpInfo := pool [(1, .class_ 2), (0, u "java/lang/constant/Constable"), (0, .class_ 4), (0, u "java/lang/Object")] 6

/-- java/lang/constant/Constable -/
def k2 : Class := { plain "java/lang/constant/Constable" (some 0) with
  accessFlags := 1537
  interfaces := #[]
  cf := some (fileOf pool2 1 #[] #[] 1537 3 #[] #[])
  fields := #[]
  methods := #[]
  instanceTypes := #[]
  staticTypes := #[]
  resolved := Array.replicate 11 none
  statics := none }

def pool3 : Array CpInfo := pool [(1, .class_ 2), (0, u "java/lang/Comparable"), (0, .class_ 4), (0, u "java/lang/Object")] 7

/-- java/lang/Comparable -/
def k3 : Class := { plain "java/lang/Comparable" (some 0) with
  accessFlags := 1537
  interfaces := #[]
  cf := some (fileOf pool3 1 #[] #[] 1537 3 #[] #[])
  fields := #[]
  methods := #[]
  instanceTypes := #[]
  staticTypes := #[]
  resolved := Array.replicate 12 none
  statics := none }

def pool4 : Array CpInfo := pool [(1, .class_ 2), (0, u "java/io/Serializable"), (0, .class_ 4), (0, u "java/lang/Object")] 2

/-- java/io/Serializable -/
def k4 : Class := { plain "java/io/Serializable" (some 0) with
  accessFlags := 1537
  interfaces := #[]
  cf := some (fileOf pool4 1 #[] #[] 1537 3 #[] #[])
  fields := #[]
  methods := #[]
  instanceTypes := #[]
  staticTypes := #[]
  resolved := Array.replicate 7 none
  statics := none }

def pool5 : Array CpInfo := pool [(2, .class_ 4), (1, u "java/lang/Enum"), (0, u "name"), (0, u "Ljava/lang/String;"), (2, u "ordinal"), (0, u "I"), (1, .class_ 14), (1, u "java/lang/Object"), (4, u "hash"), (86, .class_ 108), (1, u "java/lang/Enum$EnumDesc"), (2, .class_ 112), (0, u "java/lang/constant/Constable"), (0, .class_ 114), (0, u "java/lang/Comparable"), (0, .class_ 116), (0, u "java/io/Serializable")] 87

/-- java/lang/Enum -/
def k5 : Class := { plain "java/lang/Enum" (some 0) with
  accessFlags := 1057
  interfaces := #[2, 3, 4]
  cf := some (fileOf pool5 2 #[.nestMembers #[106]] #[] 1057 12 #[111, 113, 115] #[{ accessFlags := 18, nameIndex := 5, descriptorIndex := 6, attributes := #[] }, { accessFlags := 18, nameIndex := 9, descriptorIndex := 10, attributes := #[] }, { accessFlags := 2, nameIndex := 19, descriptorIndex := 10, attributes := #[] }])
  fields := #[{ name := "name", type := (.object "java/lang/String"), accessFlags := 18, slot := 0, constantValue := 0 }, { name := "ordinal", type := .int, accessFlags := 18, slot := 1, constantValue := 0 }, { name := "hash", type := .int, accessFlags := 2, slot := 2, constantValue := 0 }]
  methods := #[]
  instanceTypes := #[(.object "java/lang/String"), .int, .int]
  staticTypes := #[]
  resolved := Array.replicate 204 none
  statics := none }

def pool6 : Array CpInfo := pool [(1, .class_ 2), (0, u "com/example/bare_orm/bareorm/ColumnType"), (2, u "INTEGER"), (0, u "Lcom/example/bare_orm/bareorm/ColumnType;"), (2, u "STRING"), (2, u "BIG_DECIMAL"), (2, u "$VALUES"), (0, u "[Lcom/example/bare_orm/bareorm/ColumnType;"), (6, .class_ 25), (1, u "java/lang/Enum"), (8, u "shortName"), (0, u "Ljava/lang/String;"), (2, u "javaType"), (0, u "Ljava/lang/Class;"), (2, u "primitiveType"), (2, u "sqlType"), (0, u "I"), (0, .fieldref 1 48), (0, .nameAndType 49 50), (0, u "paddingColumnTypes"), (0, u "[I"), (12, u "paddable"), (0, u "()Z"), (32, .class_ 98), (0, u "com/example/bare_orm/bareorm/ColumnType$1"), (13, .class_ 113), (0, u "com/example/bare_orm/bareorm/ColumnType$2"), (4, .class_ 119), (0, u "com/example/bare_orm/bareorm/ColumnType$3"), (26, u "unpadded"), (0, u "(Ljava/lang/Object;)Ljava/lang/Object;")] 15

def k6c0 : Code := { maxStack := 1, maxLocals := 1, code := prog_8_method_7_code, exceptionTable := #[], attributes := #[] }
def k6m0 : Method := { name := "paddable", desc := "()Z", sig := { parameters := [], returnType := some .boolean }, accessFlags := 0, code := some k6c0 }
def k6c1 : Code := { maxStack := 1, maxLocals := 2, code := prog_8_method_9_code, exceptionTable := #[], attributes := #[] }
def k6m1 : Method := { name := "unpadded", desc := "(Ljava/lang/Object;)Ljava/lang/Object;", sig := { parameters := [(.object "java/lang/Object")], returnType := some (.object "java/lang/Object") }, accessFlags := 0, code := some k6c1 }
/-- com/example/bare_orm/bareorm/ColumnType -/
def k6 : Class := { plain "com/example/bare_orm/bareorm/ColumnType" (some 5) with
  accessFlags := 17440
  interfaces := #[]
  cf := some (fileOf pool6 1 #[.nestMembers #[118, 112, 97]] #[{ accessFlags := 0, nameIndex := 63, descriptorIndex := 64, attributes := #[] }, { accessFlags := 0, nameIndex := 146, descriptorIndex := 147, attributes := #[] }] 17440 23 #[] #[{ accessFlags := 16409, nameIndex := 5, descriptorIndex := 6, attributes := #[] }, { accessFlags := 16409, nameIndex := 9, descriptorIndex := 6, attributes := #[] }, { accessFlags := 16409, nameIndex := 12, descriptorIndex := 6, attributes := #[] }, { accessFlags := 18, nameIndex := 34, descriptorIndex := 35, attributes := #[] }, { accessFlags := 18, nameIndex := 38, descriptorIndex := 39, attributes := #[] }, { accessFlags := 18, nameIndex := 42, descriptorIndex := 39, attributes := #[] }, { accessFlags := 18, nameIndex := 45, descriptorIndex := 46, attributes := #[] }, { accessFlags := 18, nameIndex := 49, descriptorIndex := 50, attributes := #[] }, { accessFlags := 4122, nameIndex := 15, descriptorIndex := 16, attributes := #[] }])
  fields := #[{ name := "INTEGER", type := (.object "com/example/bare_orm/bareorm/ColumnType"), accessFlags := 16409, slot := 0, constantValue := 0 }, { name := "STRING", type := (.object "com/example/bare_orm/bareorm/ColumnType"), accessFlags := 16409, slot := 1, constantValue := 0 }, { name := "BIG_DECIMAL", type := (.object "com/example/bare_orm/bareorm/ColumnType"), accessFlags := 16409, slot := 2, constantValue := 0 }, { name := "shortName", type := (.object "java/lang/String"), accessFlags := 18, slot := 3, constantValue := 0 }, { name := "javaType", type := (.object "java/lang/Class"), accessFlags := 18, slot := 4, constantValue := 0 }, { name := "primitiveType", type := (.object "java/lang/Class"), accessFlags := 18, slot := 5, constantValue := 0 }, { name := "sqlType", type := .int, accessFlags := 18, slot := 6, constantValue := 0 }, { name := "paddingColumnTypes", type := (.array .int), accessFlags := 18, slot := 7, constantValue := 0 }, { name := "$VALUES", type := (.array (.object "com/example/bare_orm/bareorm/ColumnType")), accessFlags := 4122, slot := 3, constantValue := 0 }]
  methods := #[k6m0, k6m1]
  instanceTypes := #[(.object "java/lang/String"), .int, .int, (.object "java/lang/String"), (.object "java/lang/Class"), (.object "java/lang/Class"), .int, (.array .int)]
  staticTypes := #[(.object "com/example/bare_orm/bareorm/ColumnType"), (.object "com/example/bare_orm/bareorm/ColumnType"), (.object "com/example/bare_orm/bareorm/ColumnType"), (.array (.object "com/example/bare_orm/bareorm/ColumnType"))]
  resolved := Array.replicate 163 none
  statics := some 0 }

def pool7 : Array CpInfo := pool [(2, .class_ 4), (1, u "com/example/bare_orm/bareorm/ColumnType"), (28, .class_ 34), (0, u "com/example/bare_orm/bareorm/ColumnType$1")] 16

/-- com/example/bare_orm/bareorm/ColumnType$1 -/
def k7 : Class := { plain "com/example/bare_orm/bareorm/ColumnType$1" (some 6) with
  accessFlags := 16432
  interfaces := #[]
  cf := some (fileOf pool7 33 #[.nestHost 2] #[] 16432 2 #[] #[])
  fields := #[]
  methods := #[]
  instanceTypes := #[(.object "java/lang/String"), .int, .int, (.object "java/lang/String"), (.object "java/lang/Class"), (.object "java/lang/Class"), .int, (.array .int)]
  staticTypes := #[]
  resolved := Array.replicate 51 none
  statics := none }

def pool8 : Array CpInfo := pool [(1, .methodref 2 3), (0, .class_ 4), (0, .nameAndType 5 6), (0, u "java/lang/Object"), (0, u "<init>"), (0, u "()V"), (1, .class_ 10), (1, u "java/lang/Number"), (2, .class_ 14), (0, u "java/io/Serializable"), (0, u "serialVersionUID"), (0, u "J")] 20

def k8c0 : Code := { maxStack := 1, maxLocals := 1, code := jdk_18_method_1_code, exceptionTable := #[], attributes := #[] }
def k8m0 : Method := { name := "<init>", desc := "()V", sig := { parameters := [], returnType := none }, accessFlags := 1, code := some k8c0 }
/-- java/lang/Number -/
def k8 : Class := { plain "java/lang/Number" (some 0) with
  accessFlags := 1057
  interfaces := #[4]
  cf := some (fileOf pool8 8 #[] #[{ accessFlags := 1, nameIndex := 5, descriptorIndex := 6, attributes := #[] }] 1057 2 #[13] #[{ accessFlags := 26, nameIndex := 15, descriptorIndex := 16, attributes := #[] }])
  fields := #[{ name := "serialVersionUID", type := .long, accessFlags := 26, slot := 0, constantValue := 0 }]
  methods := #[k8m0]
  instanceTypes := #[]
  staticTypes := #[.long]
  resolved := Array.replicate 37 none
  statics := none }

def pool9 : Array CpInfo := pool [(1, .class_ 2), (0, u "java/lang/constant/ConstantDesc"), (0, .class_ 4), (0, u "java/lang/Object")] 32

/-- java/lang/constant/ConstantDesc -/
def k9 : Class := { plain "java/lang/constant/ConstantDesc" (some 0) with
  accessFlags := 1537
  interfaces := #[]
  cf := some (fileOf pool9 1 #[] #[] 1537 3 #[] #[])
  fields := #[]
  methods := #[]
  instanceTypes := #[]
  staticTypes := #[]
  resolved := Array.replicate 37 none
  statics := none }

def pool10 : Array CpInfo := pool [(1, .class_ 2), (0, u "java/lang/Integer"), (16, u "digits"), (0, u "[C"), (46, u "<init>"), (17, u "DigitOnes"), (0, u "[B"), (2, u "DigitTens"), (10, .nameAndType 67 101), (0, u "()V"), (85, u "valueOf"), (0, u "(I)Ljava/lang/Integer;"), (0, .class_ 190), (0, u "java/lang/Integer$IntegerCache"), (0, .fieldref 189 192), (0, .nameAndType 193 194), (0, u "high"), (0, u "I"), (0, .fieldref 189 196), (0, .nameAndType 197 198), (0, u "cache"), (0, u "[Ljava/lang/Integer;"), (0, .methodref 1 200), (0, .nameAndType 67 201), (0, u "(I)V"), (0, .methodref 203 100), (0, .class_ 204), (0, u "java/lang/Number"), (0, .fieldref 1 206), (0, .nameAndType 207 194), (0, u "value"), (94, u "TYPE"), (0, u "Ljava/lang/Class;"), (0, .class_ 305), (0, u "java/lang/Comparable"), (0, .class_ 307), (0, u "java/lang/constant/Constable"), (0, .class_ 309), (0, u "java/lang/constant/ConstantDesc"), (0, u "MIN_VALUE"), (1, u "MAX_VALUE"), (3, u "SIZE"), (1, u "BYTES"), (1, u "serialVersionUID"), (0, u "J")] 131

def k10c0 : Code := { maxStack := 3, maxLocals := 1, code := jdk_33_method_22_code, exceptionTable := #[], attributes := #[] }
def k10m0 : Method := { name := "valueOf", desc := "(I)Ljava/lang/Integer;", sig := { parameters := [.int], returnType := some (.object "java/lang/Integer") }, accessFlags := 9, code := some k10c0 }
def k10c1 : Code := { maxStack := 2, maxLocals := 2, code := jdk_33_method_23_code, exceptionTable := #[], attributes := #[] }
def k10m1 : Method := { name := "<init>", desc := "(I)V", sig := { parameters := [.int], returnType := none }, accessFlags := 1, code := some k10c1 }
/-- java/lang/Integer -/
def k10 : Class := { plain "java/lang/Integer" (some 8) with
  accessFlags := 49
  interfaces := #[3, 2, 9]
  cf := some (fileOf pool10 1 #[.nestMembers #[189]] #[{ accessFlags := 9, nameIndex := 187, descriptorIndex := 188, attributes := #[] }, { accessFlags := 1, nameIndex := 67, descriptorIndex := 201, attributes := #[] }] 49 203 #[304, 306, 308] #[{ accessFlags := 25, nameIndex := 310, descriptorIndex := 194, attributes := #[] }, { accessFlags := 25, nameIndex := 312, descriptorIndex := 194, attributes := #[] }, { accessFlags := 25, nameIndex := 302, descriptorIndex := 303, attributes := #[] }, { accessFlags := 24, nameIndex := 19, descriptorIndex := 20, attributes := #[] }, { accessFlags := 24, nameIndex := 89, descriptorIndex := 86, attributes := #[] }, { accessFlags := 24, nameIndex := 85, descriptorIndex := 86, attributes := #[] }, { accessFlags := 18, nameIndex := 207, descriptorIndex := 194, attributes := #[] }, { accessFlags := 25, nameIndex := 316, descriptorIndex := 194, attributes := #[] }, { accessFlags := 25, nameIndex := 318, descriptorIndex := 194, attributes := #[] }, { accessFlags := 26, nameIndex := 320, descriptorIndex := 321, attributes := #[] }])
  fields := #[{ name := "MIN_VALUE", type := .int, accessFlags := 25, slot := 0, constantValue := 0 }, { name := "MAX_VALUE", type := .int, accessFlags := 25, slot := 1, constantValue := 0 }, { name := "TYPE", type := (.object "java/lang/Class"), accessFlags := 25, slot := 2, constantValue := 0 }, { name := "digits", type := (.array .char), accessFlags := 24, slot := 3, constantValue := 0 }, { name := "DigitTens", type := (.array .byte), accessFlags := 24, slot := 4, constantValue := 0 }, { name := "DigitOnes", type := (.array .byte), accessFlags := 24, slot := 5, constantValue := 0 }, { name := "value", type := .int, accessFlags := 18, slot := 0, constantValue := 0 }, { name := "SIZE", type := .int, accessFlags := 25, slot := 6, constantValue := 0 }, { name := "BYTES", type := .int, accessFlags := 25, slot := 7, constantValue := 0 }, { name := "serialVersionUID", type := .long, accessFlags := 26, slot := 8, constantValue := 0 }]
  methods := #[k10m0, k10m1]
  instanceTypes := #[.int]
  staticTypes := #[.int, .int, (.object "java/lang/Class"), (.array .char), (.array .byte), (.array .byte), .int, .int, .long]
  resolved := Array.replicate 453 none
  statics := none }

def pool11 : Array CpInfo := pool [(2, .class_ 4), (1, u "java/lang/Object"), (0, u "<init>"), (0, u "()V"), (0, .class_ 8), (0, u "java/lang/Integer"), (7, .class_ 18), (1, u "java/lang/Integer$IntegerCache"), (0, u "$assertionsDisabled"), (0, u "Z"), (26, u "high"), (0, u "I"), (8, u "archivedCache"), (0, u "[Ljava/lang/Integer;"), (12, u "cache"), (0, u "low")] 27

def k11m0 : Method := { name := "<init>", desc := "()V", sig := { parameters := [], returnType := none }, accessFlags := 2, code := none }
/-- java/lang/Integer$IntegerCache -/
def k11 : Class := { plain "java/lang/Integer$IntegerCache" (some 0) with
  accessFlags := 48
  interfaces := #[]
  cf := some (fileOf pool11 16 #[.nestHost 7] #[{ accessFlags := 2, nameIndex := 5, descriptorIndex := 6, attributes := #[] }] 48 2 #[] #[{ accessFlags := 24, nameIndex := 72, descriptorIndex := 48, attributes := #[] }, { accessFlags := 24, nameIndex := 47, descriptorIndex := 48, attributes := #[] }, { accessFlags := 24, nameIndex := 71, descriptorIndex := 58, attributes := #[] }, { accessFlags := 8, nameIndex := 57, descriptorIndex := 58, attributes := #[] }, { accessFlags := 4120, nameIndex := 19, descriptorIndex := 20, attributes := #[] }])
  fields := #[{ name := "low", type := .int, accessFlags := 24, slot := 0, constantValue := 0 }, { name := "high", type := .int, accessFlags := 24, slot := 1, constantValue := 0 }, { name := "cache", type := (.array (.object "java/lang/Integer")), accessFlags := 24, slot := 2, constantValue := 0 }, { name := "archivedCache", type := (.array (.object "java/lang/Integer")), accessFlags := 8, slot := 3, constantValue := 0 }, { name := "$assertionsDisabled", type := .boolean, accessFlags := 4120, slot := 4, constantValue := 0 }]
  methods := #[k11m0]
  instanceTypes := #[]
  staticTypes := #[.int, .int, (.array (.object "java/lang/Integer")), (.array (.object "java/lang/Integer")), .boolean]
  resolved := Array.replicate 100 none
  statics := some 1 }

def pool12 : Array CpInfo := pool [(2, .class_ 4), (1, u "com/example/bare_orm/bareorm/ColumnType"), (20, .class_ 26), (0, u "com/example/bare_orm/bareorm/ColumnType$3")] 17

/-- com/example/bare_orm/bareorm/ColumnType$3 -/
def k12 : Class := { plain "com/example/bare_orm/bareorm/ColumnType$3" (some 6) with
  accessFlags := 16432
  interfaces := #[]
  cf := some (fileOf pool12 25 #[.nestHost 2] #[] 16432 2 #[] #[])
  fields := #[]
  methods := #[]
  instanceTypes := #[(.object "java/lang/String"), .int, .int, (.object "java/lang/String"), (.object "java/lang/Class"), (.object "java/lang/Class"), .int, (.array .int)]
  staticTypes := #[]
  resolved := Array.replicate 44 none
  statics := none }

def pool13 : Array CpInfo := pool [(2, .class_ 4), (1, u "com/example/bare_orm/bareorm/ColumnType"), (28, .class_ 34), (0, u "com/example/bare_orm/bareorm/ColumnType$2")] 18

/-- com/example/bare_orm/bareorm/ColumnType$2 -/
def k13 : Class := { plain "com/example/bare_orm/bareorm/ColumnType$2" (some 6) with
  accessFlags := 16432
  interfaces := #[]
  cf := some (fileOf pool13 33 #[.nestHost 2] #[] 16432 2 #[] #[])
  fields := #[]
  methods := #[]
  instanceTypes := #[(.object "java/lang/String"), .int, .int, (.object "java/lang/String"), (.object "java/lang/Class"), (.object "java/lang/Class"), .int, (.array .int)]
  staticTypes := #[]
  resolved := Array.replicate 53 none
  statics := none }

def pool14 : Array CpInfo := pool [(1, u "java/lang/Cloneable"), (0, .class_ 1), (0, u "java/lang/Object"), (0, .class_ 3)] 3

/-- java/lang/Cloneable -/
def k14 : Class := { plain "java/lang/Cloneable" (some 0) with
  accessFlags := 1537
  interfaces := #[]
  cf := some (fileOf pool14 2 #[] #[] 1537 4 #[] #[])
  fields := #[]
  methods := #[]
  instanceTypes := #[]
  staticTypes := #[]
  resolved := Array.replicate 8 none
  statics := none }

/-- the primitive byte -/
def k15 : Class := { plain "byte" none with kind := .primitive 'B', accessFlags := 0x411 }
/-- [B -/
def k16 : Class := { plain "[B" (some 0) with kind := .array 15 .byte, interfaces := #[14, 4], accessFlags := 1041 }

/-- the primitive int -/
def k17 : Class := { plain "int" none with kind := .primitive 'I', accessFlags := 0x411 }
/-- [I -/
def k18 : Class := { plain "[I" (some 0) with kind := .array 17 .int, interfaces := #[14, 4], accessFlags := 1041 }

/-- [Ljava/lang/Integer; -/
def k19 : Class := { plain "[Ljava/lang/Integer;" (some 0) with kind := .array 10 (.object "java/lang/Integer"), interfaces := #[14, 4], accessFlags := 1041 }

def heap : Heap := #[{ cls := 6, slots := #[.ref 3, .ref 7, .ref 5, .null], vm := .statics 6 },
  { cls := 11, slots := #[.int 0, .int 127, .ref 2, .null, .int 0], vm := .statics 11 },
  { cls := 19, slots := #[.ref 9, .ref 10, .ref 11, .ref 12, .ref 13, .ref 14, .ref 15, .ref 16, .ref 17, .ref 18, .ref 19, .ref 20, .ref 21, .ref 22, .ref 23, .ref 24, .ref 25, .ref 26, .ref 27, .ref 28, .ref 29, .ref 30, .ref 31, .ref 32, .ref 33, .ref 34, .ref 35, .ref 36, .ref 37, .ref 38, .ref 39, .ref 40, .ref 41, .ref 42, .ref 43, .ref 44, .ref 45, .ref 46, .ref 47, .ref 48, .ref 49, .ref 50, .ref 51, .ref 52, .ref 53, .ref 54, .ref 55, .ref 56, .ref 57, .ref 58, .ref 59, .ref 60, .ref 61, .ref 62, .ref 63, .ref 64, .ref 65, .ref 66, .ref 67, .ref 68, .ref 69, .ref 70, .ref 71, .ref 72, .ref 73, .ref 74, .ref 75, .ref 76, .ref 77, .ref 78, .ref 79, .ref 80, .ref 81, .ref 82, .ref 83, .ref 84, .ref 85, .ref 86, .ref 87, .ref 88, .ref 89, .ref 90, .ref 91, .ref 92, .ref 93, .ref 94, .ref 95, .ref 96, .ref 97, .ref 98, .ref 99, .ref 100, .ref 101, .ref 102, .ref 103, .ref 104, .ref 105, .ref 106, .ref 107, .ref 108, .ref 109, .ref 110, .ref 111, .ref 112, .ref 113, .ref 114, .ref 115, .ref 116, .ref 117, .ref 118, .ref 119, .ref 120, .ref 121, .ref 122, .ref 123, .ref 124, .ref 125, .ref 126, .ref 127, .ref 128, .ref 129, .ref 130, .ref 131, .ref 132, .ref 133, .ref 134, .ref 135, .ref 136, .ref 137, .ref 138, .ref 139, .ref 140, .ref 141, .ref 142, .ref 143, .ref 144, .ref 145, .ref 146, .ref 147, .ref 148, .ref 149, .ref 150, .ref 151, .ref 152, .ref 153, .ref 154, .ref 155, .ref 156, .ref 157, .ref 158, .ref 159, .ref 160, .ref 161, .ref 162, .ref 163, .ref 164, .ref 165, .ref 166, .ref 167, .ref 168, .ref 169, .ref 170, .ref 171, .ref 172, .ref 173, .ref 174, .ref 175, .ref 176, .ref 177, .ref 178, .ref 179, .ref 180, .ref 181, .ref 182, .ref 183, .ref 184, .ref 185, .ref 186, .ref 187, .ref 188, .ref 189, .ref 190, .ref 191, .ref 192, .ref 193, .ref 194, .ref 195, .ref 196, .ref 197, .ref 198, .ref 199, .ref 200, .ref 201, .ref 202, .ref 203, .ref 204, .ref 205, .ref 206, .ref 207, .ref 208, .ref 209, .ref 210, .ref 211, .ref 212, .ref 213, .ref 214, .ref 215, .ref 216, .ref 217, .ref 218, .ref 219, .ref 220, .ref 221, .ref 222, .ref 223, .ref 224, .ref 225, .ref 226, .ref 227, .ref 228, .ref 229, .ref 230, .ref 231, .ref 232, .ref 233, .ref 234, .ref 235, .ref 236, .ref 237, .ref 238, .ref 239, .ref 240, .ref 241, .ref 242, .ref 243, .ref 244, .ref 245, .ref 246, .ref 247, .ref 248, .ref 249, .ref 250, .ref 251, .ref 252, .ref 253, .ref 254, .ref 255, .ref 256, .ref 257, .ref 258, .ref 259, .ref 260, .ref 261, .ref 262, .ref 263, .ref 264], vm := .none },
  { cls := 7, slots := #[.null, .int 0, .int 0, .null, .null, .null, .int 0, .ref 4], vm := .none },
  { cls := 18, slots := #[], vm := .none },
  { cls := 12, slots := #[.null, .int 0, .int 0, .null, .null, .null, .int 0, .ref 6], vm := .none },
  { cls := 18, slots := #[.int 0, .int 0], vm := .none },
  { cls := 13, slots := #[.null, .int 0, .int 0, .null, .null, .null, .int 0, .ref 8], vm := .none },
  { cls := 18, slots := #[.int 0, .int 0], vm := .none },
  { cls := 10, slots := #[.int (-128)], vm := .none },
  { cls := 10, slots := #[.int (-127)], vm := .none },
  { cls := 10, slots := #[.int (-126)], vm := .none },
  { cls := 10, slots := #[.int (-125)], vm := .none },
  { cls := 10, slots := #[.int (-124)], vm := .none },
  { cls := 10, slots := #[.int (-123)], vm := .none },
  { cls := 10, slots := #[.int (-122)], vm := .none },
  { cls := 10, slots := #[.int (-121)], vm := .none },
  { cls := 10, slots := #[.int (-120)], vm := .none },
  { cls := 10, slots := #[.int (-119)], vm := .none },
  { cls := 10, slots := #[.int (-118)], vm := .none },
  { cls := 10, slots := #[.int (-117)], vm := .none },
  { cls := 10, slots := #[.int (-116)], vm := .none },
  { cls := 10, slots := #[.int (-115)], vm := .none },
  { cls := 10, slots := #[.int (-114)], vm := .none },
  { cls := 10, slots := #[.int (-113)], vm := .none },
  { cls := 10, slots := #[.int (-112)], vm := .none },
  { cls := 10, slots := #[.int (-111)], vm := .none },
  { cls := 10, slots := #[.int (-110)], vm := .none },
  { cls := 10, slots := #[.int (-109)], vm := .none },
  { cls := 10, slots := #[.int (-108)], vm := .none },
  { cls := 10, slots := #[.int (-107)], vm := .none },
  { cls := 10, slots := #[.int (-106)], vm := .none },
  { cls := 10, slots := #[.int (-105)], vm := .none },
  { cls := 10, slots := #[.int (-104)], vm := .none },
  { cls := 10, slots := #[.int (-103)], vm := .none },
  { cls := 10, slots := #[.int (-102)], vm := .none },
  { cls := 10, slots := #[.int (-101)], vm := .none },
  { cls := 10, slots := #[.int (-100)], vm := .none },
  { cls := 10, slots := #[.int (-99)], vm := .none },
  { cls := 10, slots := #[.int (-98)], vm := .none },
  { cls := 10, slots := #[.int (-97)], vm := .none },
  { cls := 10, slots := #[.int (-96)], vm := .none },
  { cls := 10, slots := #[.int (-95)], vm := .none },
  { cls := 10, slots := #[.int (-94)], vm := .none },
  { cls := 10, slots := #[.int (-93)], vm := .none },
  { cls := 10, slots := #[.int (-92)], vm := .none },
  { cls := 10, slots := #[.int (-91)], vm := .none },
  { cls := 10, slots := #[.int (-90)], vm := .none },
  { cls := 10, slots := #[.int (-89)], vm := .none },
  { cls := 10, slots := #[.int (-88)], vm := .none },
  { cls := 10, slots := #[.int (-87)], vm := .none },
  { cls := 10, slots := #[.int (-86)], vm := .none },
  { cls := 10, slots := #[.int (-85)], vm := .none },
  { cls := 10, slots := #[.int (-84)], vm := .none },
  { cls := 10, slots := #[.int (-83)], vm := .none },
  { cls := 10, slots := #[.int (-82)], vm := .none },
  { cls := 10, slots := #[.int (-81)], vm := .none },
  { cls := 10, slots := #[.int (-80)], vm := .none },
  { cls := 10, slots := #[.int (-79)], vm := .none },
  { cls := 10, slots := #[.int (-78)], vm := .none },
  { cls := 10, slots := #[.int (-77)], vm := .none },
  { cls := 10, slots := #[.int (-76)], vm := .none },
  { cls := 10, slots := #[.int (-75)], vm := .none },
  { cls := 10, slots := #[.int (-74)], vm := .none },
  { cls := 10, slots := #[.int (-73)], vm := .none },
  { cls := 10, slots := #[.int (-72)], vm := .none },
  { cls := 10, slots := #[.int (-71)], vm := .none },
  { cls := 10, slots := #[.int (-70)], vm := .none },
  { cls := 10, slots := #[.int (-69)], vm := .none },
  { cls := 10, slots := #[.int (-68)], vm := .none },
  { cls := 10, slots := #[.int (-67)], vm := .none },
  { cls := 10, slots := #[.int (-66)], vm := .none },
  { cls := 10, slots := #[.int (-65)], vm := .none },
  { cls := 10, slots := #[.int (-64)], vm := .none },
  { cls := 10, slots := #[.int (-63)], vm := .none },
  { cls := 10, slots := #[.int (-62)], vm := .none },
  { cls := 10, slots := #[.int (-61)], vm := .none },
  { cls := 10, slots := #[.int (-60)], vm := .none },
  { cls := 10, slots := #[.int (-59)], vm := .none },
  { cls := 10, slots := #[.int (-58)], vm := .none },
  { cls := 10, slots := #[.int (-57)], vm := .none },
  { cls := 10, slots := #[.int (-56)], vm := .none },
  { cls := 10, slots := #[.int (-55)], vm := .none },
  { cls := 10, slots := #[.int (-54)], vm := .none },
  { cls := 10, slots := #[.int (-53)], vm := .none },
  { cls := 10, slots := #[.int (-52)], vm := .none },
  { cls := 10, slots := #[.int (-51)], vm := .none },
  { cls := 10, slots := #[.int (-50)], vm := .none },
  { cls := 10, slots := #[.int (-49)], vm := .none },
  { cls := 10, slots := #[.int (-48)], vm := .none },
  { cls := 10, slots := #[.int (-47)], vm := .none },
  { cls := 10, slots := #[.int (-46)], vm := .none },
  { cls := 10, slots := #[.int (-45)], vm := .none },
  { cls := 10, slots := #[.int (-44)], vm := .none },
  { cls := 10, slots := #[.int (-43)], vm := .none },
  { cls := 10, slots := #[.int (-42)], vm := .none },
  { cls := 10, slots := #[.int (-41)], vm := .none },
  { cls := 10, slots := #[.int (-40)], vm := .none },
  { cls := 10, slots := #[.int (-39)], vm := .none },
  { cls := 10, slots := #[.int (-38)], vm := .none },
  { cls := 10, slots := #[.int (-37)], vm := .none },
  { cls := 10, slots := #[.int (-36)], vm := .none },
  { cls := 10, slots := #[.int (-35)], vm := .none },
  { cls := 10, slots := #[.int (-34)], vm := .none },
  { cls := 10, slots := #[.int (-33)], vm := .none },
  { cls := 10, slots := #[.int (-32)], vm := .none },
  { cls := 10, slots := #[.int (-31)], vm := .none },
  { cls := 10, slots := #[.int (-30)], vm := .none },
  { cls := 10, slots := #[.int (-29)], vm := .none },
  { cls := 10, slots := #[.int (-28)], vm := .none },
  { cls := 10, slots := #[.int (-27)], vm := .none },
  { cls := 10, slots := #[.int (-26)], vm := .none },
  { cls := 10, slots := #[.int (-25)], vm := .none },
  { cls := 10, slots := #[.int (-24)], vm := .none },
  { cls := 10, slots := #[.int (-23)], vm := .none },
  { cls := 10, slots := #[.int (-22)], vm := .none },
  { cls := 10, slots := #[.int (-21)], vm := .none },
  { cls := 10, slots := #[.int (-20)], vm := .none },
  { cls := 10, slots := #[.int (-19)], vm := .none },
  { cls := 10, slots := #[.int (-18)], vm := .none },
  { cls := 10, slots := #[.int (-17)], vm := .none },
  { cls := 10, slots := #[.int (-16)], vm := .none },
  { cls := 10, slots := #[.int (-15)], vm := .none },
  { cls := 10, slots := #[.int (-14)], vm := .none },
  { cls := 10, slots := #[.int (-13)], vm := .none },
  { cls := 10, slots := #[.int (-12)], vm := .none },
  { cls := 10, slots := #[.int (-11)], vm := .none },
  { cls := 10, slots := #[.int (-10)], vm := .none },
  { cls := 10, slots := #[.int (-9)], vm := .none },
  { cls := 10, slots := #[.int (-8)], vm := .none },
  { cls := 10, slots := #[.int (-7)], vm := .none },
  { cls := 10, slots := #[.int (-6)], vm := .none },
  { cls := 10, slots := #[.int (-5)], vm := .none },
  { cls := 10, slots := #[.int (-4)], vm := .none },
  { cls := 10, slots := #[.int (-3)], vm := .none },
  { cls := 10, slots := #[.int (-2)], vm := .none },
  { cls := 10, slots := #[.int (-1)], vm := .none },
  { cls := 10, slots := #[.int 0], vm := .none },
  { cls := 10, slots := #[.int 1], vm := .none },
  { cls := 10, slots := #[.int 2], vm := .none },
  { cls := 10, slots := #[.int 3], vm := .none },
  { cls := 10, slots := #[.int 4], vm := .none },
  { cls := 10, slots := #[.int 5], vm := .none },
  { cls := 10, slots := #[.int 6], vm := .none },
  { cls := 10, slots := #[.int 7], vm := .none },
  { cls := 10, slots := #[.int 8], vm := .none },
  { cls := 10, slots := #[.int 9], vm := .none },
  { cls := 10, slots := #[.int 10], vm := .none },
  { cls := 10, slots := #[.int 11], vm := .none },
  { cls := 10, slots := #[.int 12], vm := .none },
  { cls := 10, slots := #[.int 13], vm := .none },
  { cls := 10, slots := #[.int 14], vm := .none },
  { cls := 10, slots := #[.int 15], vm := .none },
  { cls := 10, slots := #[.int 16], vm := .none },
  { cls := 10, slots := #[.int 17], vm := .none },
  { cls := 10, slots := #[.int 18], vm := .none },
  { cls := 10, slots := #[.int 19], vm := .none },
  { cls := 10, slots := #[.int 20], vm := .none },
  { cls := 10, slots := #[.int 21], vm := .none },
  { cls := 10, slots := #[.int 22], vm := .none },
  { cls := 10, slots := #[.int 23], vm := .none },
  { cls := 10, slots := #[.int 24], vm := .none },
  { cls := 10, slots := #[.int 25], vm := .none },
  { cls := 10, slots := #[.int 26], vm := .none },
  { cls := 10, slots := #[.int 27], vm := .none },
  { cls := 10, slots := #[.int 28], vm := .none },
  { cls := 10, slots := #[.int 29], vm := .none },
  { cls := 10, slots := #[.int 30], vm := .none },
  { cls := 10, slots := #[.int 31], vm := .none },
  { cls := 10, slots := #[.int 32], vm := .none },
  { cls := 10, slots := #[.int 33], vm := .none },
  { cls := 10, slots := #[.int 34], vm := .none },
  { cls := 10, slots := #[.int 35], vm := .none },
  { cls := 10, slots := #[.int 36], vm := .none },
  { cls := 10, slots := #[.int 37], vm := .none },
  { cls := 10, slots := #[.int 38], vm := .none },
  { cls := 10, slots := #[.int 39], vm := .none },
  { cls := 10, slots := #[.int 40], vm := .none },
  { cls := 10, slots := #[.int 41], vm := .none },
  { cls := 10, slots := #[.int 42], vm := .none },
  { cls := 10, slots := #[.int 43], vm := .none },
  { cls := 10, slots := #[.int 44], vm := .none },
  { cls := 10, slots := #[.int 45], vm := .none },
  { cls := 10, slots := #[.int 46], vm := .none },
  { cls := 10, slots := #[.int 47], vm := .none },
  { cls := 10, slots := #[.int 48], vm := .none },
  { cls := 10, slots := #[.int 49], vm := .none },
  { cls := 10, slots := #[.int 50], vm := .none },
  { cls := 10, slots := #[.int 51], vm := .none },
  { cls := 10, slots := #[.int 52], vm := .none },
  { cls := 10, slots := #[.int 53], vm := .none },
  { cls := 10, slots := #[.int 54], vm := .none },
  { cls := 10, slots := #[.int 55], vm := .none },
  { cls := 10, slots := #[.int 56], vm := .none },
  { cls := 10, slots := #[.int 57], vm := .none },
  { cls := 10, slots := #[.int 58], vm := .none },
  { cls := 10, slots := #[.int 59], vm := .none },
  { cls := 10, slots := #[.int 60], vm := .none },
  { cls := 10, slots := #[.int 61], vm := .none },
  { cls := 10, slots := #[.int 62], vm := .none },
  { cls := 10, slots := #[.int 63], vm := .none },
  { cls := 10, slots := #[.int 64], vm := .none },
  { cls := 10, slots := #[.int 65], vm := .none },
  { cls := 10, slots := #[.int 66], vm := .none },
  { cls := 10, slots := #[.int 67], vm := .none },
  { cls := 10, slots := #[.int 68], vm := .none },
  { cls := 10, slots := #[.int 69], vm := .none },
  { cls := 10, slots := #[.int 70], vm := .none },
  { cls := 10, slots := #[.int 71], vm := .none },
  { cls := 10, slots := #[.int 72], vm := .none },
  { cls := 10, slots := #[.int 73], vm := .none },
  { cls := 10, slots := #[.int 74], vm := .none },
  { cls := 10, slots := #[.int 75], vm := .none },
  { cls := 10, slots := #[.int 76], vm := .none },
  { cls := 10, slots := #[.int 77], vm := .none },
  { cls := 10, slots := #[.int 78], vm := .none },
  { cls := 10, slots := #[.int 79], vm := .none },
  { cls := 10, slots := #[.int 80], vm := .none },
  { cls := 10, slots := #[.int 81], vm := .none },
  { cls := 10, slots := #[.int 82], vm := .none },
  { cls := 10, slots := #[.int 83], vm := .none },
  { cls := 10, slots := #[.int 84], vm := .none },
  { cls := 10, slots := #[.int 85], vm := .none },
  { cls := 10, slots := #[.int 86], vm := .none },
  { cls := 10, slots := #[.int 87], vm := .none },
  { cls := 10, slots := #[.int 88], vm := .none },
  { cls := 10, slots := #[.int 89], vm := .none },
  { cls := 10, slots := #[.int 90], vm := .none },
  { cls := 10, slots := #[.int 91], vm := .none },
  { cls := 10, slots := #[.int 92], vm := .none },
  { cls := 10, slots := #[.int 93], vm := .none },
  { cls := 10, slots := #[.int 94], vm := .none },
  { cls := 10, slots := #[.int 95], vm := .none },
  { cls := 10, slots := #[.int 96], vm := .none },
  { cls := 10, slots := #[.int 97], vm := .none },
  { cls := 10, slots := #[.int 98], vm := .none },
  { cls := 10, slots := #[.int 99], vm := .none },
  { cls := 10, slots := #[.int 100], vm := .none },
  { cls := 10, slots := #[.int 101], vm := .none },
  { cls := 10, slots := #[.int 102], vm := .none },
  { cls := 10, slots := #[.int 103], vm := .none },
  { cls := 10, slots := #[.int 104], vm := .none },
  { cls := 10, slots := #[.int 105], vm := .none },
  { cls := 10, slots := #[.int 106], vm := .none },
  { cls := 10, slots := #[.int 107], vm := .none },
  { cls := 10, slots := #[.int 108], vm := .none },
  { cls := 10, slots := #[.int 109], vm := .none },
  { cls := 10, slots := #[.int 110], vm := .none },
  { cls := 10, slots := #[.int 111], vm := .none },
  { cls := 10, slots := #[.int 112], vm := .none },
  { cls := 10, slots := #[.int 113], vm := .none },
  { cls := 10, slots := #[.int 114], vm := .none },
  { cls := 10, slots := #[.int 115], vm := .none },
  { cls := 10, slots := #[.int 116], vm := .none },
  { cls := 10, slots := #[.int 117], vm := .none },
  { cls := 10, slots := #[.int 118], vm := .none },
  { cls := 10, slots := #[.int 119], vm := .none },
  { cls := 10, slots := #[.int 120], vm := .none },
  { cls := 10, slots := #[.int 121], vm := .none },
  { cls := 10, slots := #[.int 122], vm := .none },
  { cls := 10, slots := #[.int 123], vm := .none },
  { cls := 10, slots := #[.int 124], vm := .none },
  { cls := 10, slots := #[.int 125], vm := .none },
  { cls := 10, slots := #[.int 126], vm := .none },
  { cls := 10, slots := #[.int 127], vm := .none }]
def classes : Array Class := #[k0, k1, k2, k3, k4, k5, k6, k7, k8, k9, k10, k11, k12, k13, k14, k15, k16, k17, k18, k19]
def interned : List (Array UInt16 × Addr) := []
def slotsUsed : Nat := 549
def theMethod : MethodId := ⟨1, 1⟩
def args0 : Array Value := #[.int 4, .int 7]
def aboutOver (below : List Frame) : State where
  vm := { classes := classes, interned := interned.toArray }
  heap := heap
  slotsUsed := slotsUsed
  threads := #[{ frames := .invoking theMethod args0 :: below }]
def below0 : List Frame := [.native { method := ⟨0, 0⟩, args := #[] }]
def about1 : State := aboutOver below0
def p0 : Program := .bare "" "" ""
def e0 : Env := launch0.env 0 0 0
theorem w_frames : about1.frames = Frame.invoking theMethod args0 :: below0 := rfl
set_option maxRecDepth 65536 in
theorem w_args : argsFit about1.vm theMethod args0 = true := by decide +kernel
set_option maxRecDepth 65536 in
theorem w_heap : heapFits about1 = true := by decide +kernel
set_option maxRecDepth 65536 in
theorem w_runnable : about1.curStatus? = some .runnable := by decide +kernel
set_option maxRecDepth 65536 in
theorem w_alone : about1.alone = true := by decide +kernel
set_option maxRecDepth 65536 in
theorem w_named : about1.methodNamed? x = some theMethod := by decide +kernel
set_option maxRecDepth 65536 in
theorem w_hears : about1.hears theMethod below0 = true := by decide +kernel
set_option maxRecDepth 65536 in
theorem w_ripe : about1.ripe theMethod args0 below0 = true := by decide +kernel
theorem w_running : about1.status = .running := rfl
set_option maxRecDepth 65536 in
theorem w_room : about1.hasRoom e0.platform room_1 = true :=
  launch0.hasRoom_least _ room_1 (by decide +kernel) (by decide +kernel) (by decide +kernel) (by decide +kernel) (by decide +kernel) (by decide +kernel)
theorem allAtoms_all (ts : List Jvm.Cond) (a : Array Jvm.Value) (st : Jvm.State) : (allAtoms ts).before a st = ts.all (fun c => c.before a st) := by
  induction ts with
  | nil => rfl
  | cons c t ih =>
    show (Jvm.Cond.and c (allAtoms t)).before a st = _
    rw [Jvm.Cond.before_and, ih, List.all_cons]
def words1 : List Jvm.Cond := Jvm.Cond.code x code maxLocals ret :: tables_1
/-- a 'code' word, met by the world's own term for the bytes: nothing is compared byte by byte -/
theorem code_word {y : MethodName} {bytes : ByteArray} {mx : Nat} {rt : Option FieldType} {a : Array Value} {s : State} {m : MethodId} {meth : Method} {c : Code} (h1 : s.methodNamed? y = some m) (h2 : s.vm.method? m = some meth) (h3 : meth.code = some c) (h4 : c.code = bytes)
    (h5 : (c.maxLocals == mx && c.exceptionTable.isEmpty && decide (c.maxStack ≤ mostOperands) && decide (meth.sig.returnType = rt) && !meth.locks && decide (parseMethodDescriptor y.desc = some meth.sig)) = true) : (Jvm.Cond.code y bytes mx rt).before a s = true := by
  simp only [Bool.and_eq_true, beq_iff_eq, Bool.not_eq_true', decide_eq_true_eq] at h5
  obtain ⟨⟨⟨⟨⟨g1, g2⟩, g3⟩, g4⟩, g5⟩, g6⟩ := h5
  simp [Cond.before, Cond.holds, Cond.value, h1, h2, h3, h4, g1, g2, g3, g4, g5, g6]
def isCode : Jvm.Cond → Bool
  | .code _ _ _ _ => true
  | _ => false
theorem all_split {L : List Jvm.Cond} {P : Jvm.Cond → Bool} (h1 : L.all (fun c => isCode c || P c) = true) (h2 : ∀ c ∈ L.filter isCode, P c = true) : L.all P = true := by
  refine List.all_eq_true.mpr fun c hc => ?_
  have h := List.all_eq_true.mp h1 c hc
  rcases Bool.eq_false_or_eq_true (isCode c) with hi | hi
  · exact h2 c (List.mem_filter.mpr ⟨hc, hi⟩)
  · simpa [hi] using h
set_option maxRecDepth 65536 in
theorem w_c0 : (Jvm.Cond.code x code maxLocals ret).before args0 about1 = true := code_word (m := ⟨1, 1⟩) (meth := k1m1) (c := k1c1) (by decide +kernel) rfl rfl rfl (by decide +kernel)
set_option maxRecDepth 65536 in
theorem w_c1 : (Jvm.Cond.code ({ cls := "com/example/bare_orm/bareorm/ColumnType", name := "paddable", desc := "()Z" } : Jvm.MethodName) prog_8_method_7_code (1 : Nat) (Option.some Jvm.ClassFile.FieldType.boolean)).before args0 about1 = true := code_word (m := ⟨6, 0⟩) (meth := k6m0) (c := k6c0) (by decide +kernel) rfl rfl rfl (by decide +kernel)
set_option maxRecDepth 65536 in
theorem w_c2 : (Jvm.Cond.code ({ cls := "java/lang/Integer", name := "valueOf", desc := "(I)Ljava/lang/Integer;" } : Jvm.MethodName) jdk_33_method_22_code (1 : Nat) (Option.some (Jvm.ClassFile.FieldType.object "java/lang/Integer"))).before args0 about1 = true := code_word (m := ⟨10, 0⟩) (meth := k10m0) (c := k10c0) (by decide +kernel) rfl rfl rfl (by decide +kernel)
set_option maxRecDepth 65536 in
theorem w_c3 : (Jvm.Cond.code ({ cls := "com/example/bare_orm/bareorm/ColumnType", name := "unpadded", desc := "(Ljava/lang/Object;)Ljava/lang/Object;" } : Jvm.MethodName) prog_8_method_9_code (2 : Nat) (Option.some (Jvm.ClassFile.FieldType.object "java/lang/Object"))).before args0 about1 = true := code_word (m := ⟨6, 1⟩) (meth := k6m1) (c := k6c1) (by decide +kernel) rfl rfl rfl (by decide +kernel)
set_option maxRecDepth 65536 in
theorem w_c4 : (Jvm.Cond.code ({ cls := "java/lang/Integer", name := "<init>", desc := "(I)V" } : Jvm.MethodName) jdk_33_method_23_code (2 : Nat) (Option.none : Option Jvm.ClassFile.FieldType)).before args0 about1 = true := code_word (m := ⟨10, 1⟩) (meth := k10m1) (c := k10c1) (by decide +kernel) rfl rfl rfl (by decide +kernel)
set_option maxRecDepth 65536 in
theorem w_c5 : (Jvm.Cond.code ({ cls := "java/lang/Number", name := "<init>", desc := "()V" } : Jvm.MethodName) jdk_18_method_1_code (1 : Nat) (Option.none : Option Jvm.ClassFile.FieldType)).before args0 about1 = true := code_word (m := ⟨8, 0⟩) (meth := k8m0) (c := k8c0) (by decide +kernel) rfl rfl rfl (by decide +kernel)
set_option maxRecDepth 65536 in
theorem w_c6 : (Jvm.Cond.code ({ cls := "java/lang/Object", name := "<init>", desc := "()V" } : Jvm.MethodName) object_method_1_code (1 : Nat) (Option.none : Option Jvm.ClassFile.FieldType)).before args0 about1 = true := code_word (m := ⟨0, 0⟩) (meth := k0m0) (c := k0c0) (by decide +kernel) rfl rfl rfl (by decide +kernel)
def codes1 : List Jvm.Cond := [Jvm.Cond.code x code maxLocals ret, Jvm.Cond.code ({ cls := "com/example/bare_orm/bareorm/ColumnType", name := "paddable", desc := "()Z" } : Jvm.MethodName) prog_8_method_7_code (1 : Nat) (Option.some Jvm.ClassFile.FieldType.boolean), Jvm.Cond.code ({ cls := "java/lang/Integer", name := "valueOf", desc := "(I)Ljava/lang/Integer;" } : Jvm.MethodName) jdk_33_method_22_code (1 : Nat) (Option.some (Jvm.ClassFile.FieldType.object "java/lang/Integer")), Jvm.Cond.code ({ cls := "com/example/bare_orm/bareorm/ColumnType", name := "unpadded", desc := "(Ljava/lang/Object;)Ljava/lang/Object;" } : Jvm.MethodName) prog_8_method_9_code (2 : Nat) (Option.some (Jvm.ClassFile.FieldType.object "java/lang/Object")), Jvm.Cond.code ({ cls := "java/lang/Integer", name := "<init>", desc := "(I)V" } : Jvm.MethodName) jdk_33_method_23_code (2 : Nat) (Option.none : Option Jvm.ClassFile.FieldType), Jvm.Cond.code ({ cls := "java/lang/Number", name := "<init>", desc := "()V" } : Jvm.MethodName) jdk_18_method_1_code (1 : Nat) (Option.none : Option Jvm.ClassFile.FieldType), Jvm.Cond.code ({ cls := "java/lang/Object", name := "<init>", desc := "()V" } : Jvm.MethodName) object_method_1_code (1 : Nat) (Option.none : Option Jvm.ClassFile.FieldType)]
set_option maxRecDepth 65536 in
theorem codes_eq : words1.filter isCode = codes1 := rfl
theorem w_codes : ∀ c ∈ words1.filter isCode, c.before args0 about1 = true := by
  rw [codes_eq]
  intro c hc
  simp only [codes1, List.mem_cons, List.not_mem_nil, or_false] at hc
  rcases hc with rfl | rfl | rfl | rfl | rfl | rfl | rfl
  · exact w_c0
  · exact w_c1
  · exact w_c2
  · exact w_c3
  · exact w_c4
  · exact w_c5
  · exact w_c6
set_option maxRecDepth 65536 in
theorem w_t1 : (words1.take 24).all (fun c => isCode c || c.before args0 about1) = true := by decide +kernel
set_option maxRecDepth 65536 in
theorem w_t2 : ((words1.drop 24).take 24).all (fun c => isCode c || c.before args0 about1) = true := by decide +kernel
set_option maxRecDepth 65536 in
theorem w_t3 : ((words1.drop 24).drop 24).all (fun c => isCode c || c.before args0 about1) = true := by decide +kernel
theorem w_tables : (allAtoms (Jvm.Cond.code x code maxLocals ret :: tables_1)).before args0 about1 = true := by
  rw [allAtoms_all]
  show words1.all (fun c => c.before args0 about1) = true
  refine all_split ?_ w_codes
  rw [← List.take_append_drop 24 words1, List.all_append, w_t1, ← List.take_append_drop 24 (words1.drop 24), List.all_append, w_t2, w_t3]
  rfl
set_option maxRecDepth 65536 in
theorem w_rest : rest_1_c.before args0 about1 = true := by decide +kernel
set_option maxRecDepth 65536 in
theorem w_case : (Jvm.Cond.and given_1 narrow_1).before args0 about1 = true := by decide +kernel
theorem w_applies : (headSpec (Jvm.Cond.code x code maxLocals ret :: tables_1) room_1).applies x e0.platform about1 = true :=
  (Spec.applies_iff w_frames).mpr ⟨w_running, w_runnable, w_alone, w_named, w_hears, w_ripe, w_room, w_tables⟩
theorem atStart : AtStart classFile x code maxLocals ret World_1 tables_1 room_1 Calls_1 rest_1 Pre_1 launch0 p0 e0 about1 theMethod args0 below0 :=
  ⟨lists_1, trivial, launch0.admits_env _ _ _, launch0.least_env, fairChoices_fair.cas, fairChoices_fair.clock, w_frames, w_args, w_heap, w_applies, trivial, w_rest, w_case⟩
end start1
theorem witness_1 : WitnessClaimed_1 := ⟨start1.p0, start1.e0, start1.about1, start1.theMethod, start1.args0, start1.below0, start1.atStart⟩
end Jvm.Pilot.@@N@@
