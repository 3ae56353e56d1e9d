import JvmDerived
import JvmDerived.Pilot.@@N@@Statement
import JvmDerived.Pilot.@@N@@Code
set_option linter.unusedVariables false
set_option linter.unusedSimpArgs false
namespace Jvm.RoadKit
open Sem ClassFile Op Lib Jvm.Stand Jvm.Free Jvm.LawKit
section Own
variable {p : Program} {l : Launch} {e : Env} {R : Room} {s : State} {m : MethodId} {args : Array Value} {below : List Frame} {meth : Method} {c : Code} {T : State} {locs : List Loc} {cells slots : Nat}
theorem retI (X : Stand p l e R s m args below meth c T locs cells slots) (hx : p.tables.exec = Jvm.exec) {pc : Nat} {Ls : Array Slot} {z : Int32} {rest : List Value} (hret : meth.sig.returnType = some .int) (hd : decode c.code pc = .ok (.ireturn, 1)) {fs : List Frame}
    (hl : ∀ (f : JFrame) (acts : List Action), f.method = m → f.locked = none → f.entered = [] → (doReturn e (T.setTop f) acts (some (.int z))).1 = T.setFrames fs) : Steps p.tables e below (T.setTop (mkF m pc Ls (.int z :: rest))) (T.setFrames fs) := by
  have hm' : T.vm.method? m = some meth := X.method'
  have hn : narrow .int (.int z) = .int z := rfl
  show Steps p.tables e below (T.setTop { method := m, pc := pc, locals := Ls, stack := _ :: rest, locked := none }) _
  jvm_step X.here [X.here.top, hx, hd, hm', hret, hn]
  first | (intro acts; rw [hl _ acts rfl rfl rfl]) | rw [hl _ _ rfl rfl rfl]
  exact Steps.refl _
/-- the walk from S ends as K says -/
def Way (tb : Tables) (e : Env) (below : List Frame) (K : Outcome → State → Prop) (S : State) : Prop := ∃ s₂ o, Steps tb e below S s₂ ∧ s₂.status = .running ∧ Ended s₂ below o ∧ K o s₂
theorem Way.by {tb : Tables} {K : Outcome → State → Prop} {A B : State} (st : ∀ t, Steps tb e below B t → Steps tb e below A t) (h : Way tb e below K B) : Way tb e below K A := by
  obtain ⟨s₂, o, h1, h2⟩ := h; exact ⟨s₂, o, st _ h1, h2⟩
theorem Way.to {tb : Tables} {K : Outcome → State → Prop} {A B : State} (st : Steps tb e below A B) (h : Way tb e below K B) : Way tb e below K A := by
  obtain ⟨s₂, o, h1, h2⟩ := h; exact ⟨s₂, o, st.trans h1, h2⟩
abbrev KQ (s : State) (Q : Option Value → Heap → List Loc → Prop) (C S : Nat) : Outcome → State → Prop := fun o s₂ => ∃ v L, o = .returned v ∧ Q v s₂.heap L ∧ FrameEnd s o s₂ L C S
theorem Way.ret {Q : Option Value → Heap → List Loc → Prop} {C S : Nat} {A : State} {v : Option Value} (X : Stand p l e R s m args below meth c T locs cells slots) (hlk : meth.locks = false) (hv : meth.sig.returnType = none → v = none)
    (hret : ∀ fs, (∀ (f : JFrame) (acts : List Action), f.method = m → f.locked = none → f.entered = [] → (doReturn e (T.setTop f) acts v).1 = T.setFrames fs) → Steps p.tables e below A (T.setFrames fs))
    (hQ : Q v T.heap locs) (hc : cells ≤ C) (hs : slots ≤ S) : Way p.tables e below (KQ s Q C S) A := by
  obtain ⟨fs, hr, hrun, hended, hW, hsame⟩ := X.leave hv hlk
  exact ⟨_, _, hret fs hr, hrun, hended, _, _, rfl, hQ, ⟨_, rfl⟩, hW, hsame.mono hc hs⟩
abbrev KQW (s : State) (Q : Option Value → Heap → List Loc → Prop) (C S : Nat) : Outcome → State → Prop := fun o s₂ => ∃ v L, o = .returned v ∧ Q v s₂.heap L ∧ ReturnedEndW s o s₂ L C S
theorem Way.retW {Q : Option Value → Heap → List Loc → Prop} {C S : Nat} {A : State} {v : Option Value} {vm1 : Vm} {n : Nat} (X : Stand p l e R (s.setVm vm1) m args below meth c T locs cells slots) (hS : s.Since vm1 n) (hn : n ≤ T.heap.size) (hlk : meth.locks = false) (hv : meth.sig.returnType = none → v = none)
    (hret : ∀ fs, (∀ (f : JFrame) (acts : List Action), f.method = m → f.locked = none → f.entered = [] → (doReturn e (T.setTop f) acts v).1 = T.setFrames fs) → Steps p.tables e below A (T.setFrames fs))
    (hQ : Q v T.heap locs) (hc : cells ≤ C) (hs : slots ≤ S) : Way p.tables e below (KQW s Q C S) A := by
  obtain ⟨fs, hr, hrun, hended, h1, h2, h3, h4⟩ := X.leaveW hS hn hv hlk
  exact ⟨_, _, hret fs hr, hrun, hended, _, _, rfl, hQ, h1, h2, h3, h4.mono hc hs⟩
abbrev KQH (s Z : State) (EL : List (String × Nat)) (Q : Option Value → Heap → List Loc → Prop) (C S : Nat) : Outcome → State → Prop := fun o s₂ => ∃ v L, o = .returned v ∧ Q v s₂.heap L ∧ CHr Z EL s.vm s.heap s₂.vm s₂.heap ∧ ReturnedEndW s o s₂ L C S
theorem Way.retH {Z : State} {a0 : Array Value} {EL : List (String × Nat)} {Q : Option Value → Heap → List Loc → Prop} {C S : Nat} {A : State} {v : Option Value} {vm1 : Vm} {n : Nat} {h h0 : Heap} (X : Stand p l e R (s.setVm vm1) m args below meth c T locs cells slots) (hS : s.Since vm1 n) (hn : n ≤ T.heap.size) (hZ : Z.Warmed39 vm1) (hEL : EW Z a0 EL) (hh : s.heap = h0) (eT : T.heap = h) (H : CHv Z EL vm1 h) (CH : CHr Z EL s.vm h0 vm1 h) (hlk : meth.locks = false) (hv : meth.sig.returnType = none → v = none)
    (hret : ∀ fs, (∀ (f : JFrame) (acts : List Action), f.method = m → f.locked = none → f.entered = [] → (doReturn e (T.setTop f) acts v).1 = T.setFrames fs) → Steps p.tables e below A (T.setFrames fs))
    (hQ : Q v T.heap locs) (hc : cells ≤ C) (hs : slots ≤ S) : Way p.tables e below (KQH s Z EL Q C S) A := by
  obtain ⟨fs, hr, hrun, hended, h1, h2, h3, h4⟩ := X.leaveW hS hn hv hlk
  refine ⟨_, _, hret fs hr, hrun, hended, _, _, rfl, hQ, ?_, h1, h2, h3, h4.mono hc hs⟩
  have B := CHv.at X hZ hEL H
  show CHr Z EL s.vm s.heap T.vm T.heap
  rw [hh, eT]; exact CH.trans B
theorem fldStart {Z : State} {args : Array Value} {t : Term} {a : Addr} {C n d : String} {k : Int32} (ev : t.eval args Z none [] Z = some (.ref a)) (h : (Cond.eq (.field t C n d) (.int k)).value args Z none Z [] = some true) : Fld Z Z.heap a C n d (.int k) := by
  refine Fld.start ?_
  have e1 : (Term.field t C n d).eval args Z none [] Z = Z.fieldOf? a C n d := fld_at ev
  simp only [Cond.value] at h
  rw [e1, show (Term.int k).eval args Z none [] Z = some (.int k) from rfl] at h
  cases hf : Z.fieldOf? a C n d with
  | none => simp [hf] at h
  | some w => cases w <;> simp [hf] at h ⊢; exact h
theorem hpE {T : State} {h : Heap} {a : Addr} {c : Cell} (e : T.heap = h) (A : h[a]? = some c) : T.heap[a]? = some c := by rw [e]; exact A
theorem remB (x d : Int32) (D : Int) (hd : d.toInt = D) (h0 : 0 < D) : 0 ≤ ((x &&& 2147483647) % d).toInt ∧ ((x &&& 2147483647) % d).toInt < D := by
  have h1 := c_and x 2147483647 (by decide)
  rw [(c_irem (x &&& 2147483647) d D hd).1 h1.1]
  exact ⟨Int.emod_nonneg _ (by omega), Int.emod_lt_of_pos _ h0⟩
theorem cases3 {k : Int32} (h : 0 ≤ k.toInt ∧ k.toInt < 3) : k = 0 ∨ k = 1 ∨ k = 2 := by
  have q : k.toInt = 0 ∨ k.toInt = 1 ∨ k.toInt = 2 := by omega
  rcases q with q | q | q
  · exact Or.inl (Int32.toInt_inj.mp q)
  · exact Or.inr (Or.inl (Int32.toInt_inj.mp q))
  · exact Or.inr (Or.inr (Int32.toInt_inj.mp q))
theorem cases5 {k : Int32} (h : 0 ≤ k.toInt ∧ k.toInt < 5) : k = 0 ∨ k = 1 ∨ k = 2 ∨ k = 3 ∨ k = 4 := by
  have q : k.toInt = 0 ∨ k.toInt = 1 ∨ k.toInt = 2 ∨ k.toInt = 3 ∨ k.toInt = 4 := by omega
  rcases q with q | q | q | q | q
  · exact Or.inl (Int32.toInt_inj.mp q)
  · exact Or.inr (Or.inl (Int32.toInt_inj.mp q))
  · exact Or.inr (Or.inr (Or.inl (Int32.toInt_inj.mp q)))
  · exact Or.inr (Or.inr (Or.inr (Or.inl (Int32.toInt_inj.mp q))))
  · exact Or.inr (Or.inr (Or.inr (Or.inr (Int32.toInt_inj.mp q))))
theorem nfSel {s : State} {args : Array Value} {C : String} {y z : MethodName} (hyz : z.cls = y.cls) (hsel : (Cond.selects C z z).before args s = true) : NotFace s y := fun r0 h0 => by
  obtain ⟨c, r, m, -, -, hn, -, mk, hk, hni⟩ := Cond.selects_spec hsel
  have e1 := findClass_of_methodNamed h0
  have e2 := findClass_of_methodNamed hn
  rw [hyz, e1] at e2
  refine ⟨mk, ?_, hni⟩
  first | (rw [Option.some.inj e2]; exact hk) | (rw [← Option.some.inj e2]; exact hk)
theorem sameOwn {s : State} {args : Array Value} {C : String} {y z : MethodName} (hyz : z.cls = y.cls) (hsel : (Cond.selects C z z).before args s = true) (hinst : (Cond.instanceMethod y).before args s = true) (hy : y.cls ≠ "java/lang/invoke/MethodHandle" ∧ y.cls ≠ "java/lang/invoke/VarHandle") : (Cond.sameMethod y.cls y.cls y.name y.desc).before args s = true := by
  obtain ⟨mk, methM, hnamed, -⟩ := Cond.instanceMethod_spec hinst
  obtain ⟨kr, hk, hni⟩ := nfSel hyz hsel mk hnamed
  have hf := State.methodFound?_of_named hnamed hy
  have hc := findClass_of_methodNamed hnamed
  have hn2 : s.methodNamed? ⟨y.cls, y.name, y.desc⟩ = some mk := hnamed
  simp [Cond.before, Cond.holds, Cond.value, hc, hf, hn2, hk, hni]
theorem selPriv {s : State} {args : Array Value} {C : String} {y z : MethodName} (hyz : z.cls = y.cls) (hsel : (Cond.selects C z z).before args s = true) (hpriv : s.PrivateAt y) (hinst : (Cond.instanceMethod y).before args s = true) (hy : y.cls ≠ "java/lang/invoke/MethodHandle" ∧ y.cls ≠ "java/lang/invoke/VarHandle") : (Cond.selects y.cls y y).before args s = true := by
  obtain ⟨c, r, m, -, -, hn, -, mk, hk, hni⟩ := Cond.selects_spec hsel
  exact selects_self_of_private (by rw [← hyz]; exact findClass_of_methodNamed hn) hk hni hpriv hinst hy
theorem cases8 {k : Int32} (h : 0 ≤ k.toInt ∧ k.toInt < 8) : k = 0 ∨ k = 1 ∨ k = 2 ∨ k = 3 ∨ k = 4 ∨ k = 5 ∨ k = 6 ∨ k = 7 := by
  have q : k.toInt = 0 ∨ k.toInt = 1 ∨ k.toInt = 2 ∨ k.toInt = 3 ∨ k.toInt = 4 ∨ k.toInt = 5 ∨ k.toInt = 6 ∨ k.toInt = 7 := by omega
  rcases q with q | q | q | q | q | q | q | q
  · exact Or.inl (Int32.toInt_inj.mp q)
  · exact Or.inr (Or.inl (Int32.toInt_inj.mp q))
  · exact Or.inr (Or.inr (Or.inl (Int32.toInt_inj.mp q)))
  · exact Or.inr (Or.inr (Or.inr (Or.inl (Int32.toInt_inj.mp q))))
  · exact Or.inr (Or.inr (Or.inr (Or.inr (Or.inl (Int32.toInt_inj.mp q)))))
  · exact Or.inr (Or.inr (Or.inr (Or.inr (Or.inr (Or.inl (Int32.toInt_inj.mp q))))))
  · exact Or.inr (Or.inr (Or.inr (Or.inr (Or.inr (Or.inr (Or.inl (Int32.toInt_inj.mp q)))))))
  · exact Or.inr (Or.inr (Or.inr (Or.inr (Or.inr (Or.inr (Or.inr (Int32.toInt_inj.mp q)))))))
theorem cmpL0 (x y : Int64) : XT.cmpL x y = 0 ↔ x = y := by
  unfold XT.cmpL; split <;> (try split) <;> simp_all [Int64.lt_iff_toInt_lt, ← Int64.toInt_inj] <;> omega
theorem cmpLlt (x y : Int64) : XT.cmpL x y < 0 ↔ x < y := by
  unfold XT.cmpL; split <;> (try split) <;> simp_all [Int64.lt_iff_toInt_lt, ← Int64.toInt_inj] <;> omega
theorem cmpLgt (x y : Int64) : 0 < XT.cmpL x y ↔ y < x := by
  unfold XT.cmpL; split <;> (try split) <;> simp_all [Int64.lt_iff_toInt_lt, ← Int64.toInt_inj] <;> omega
theorem nsRoot {Z : State} {a0 : Array Value} {O K : String} {n : Nat} (w : (Cond.noSuperclass O).before a0 Z = true) (wk : (Cond.instantiable K n).before a0 Z = true) (hn : O ≠ K) : NS Z O K := by
  obtain ⟨c, k, h1, h2, h3, -, -⟩ := Cond.noSuperclass_spec w
  obtain ⟨t, kt, g1, -⟩ := Cond.instantiable_spec wk
  have ne := ids_ne h1 g1 hn
  refine ⟨c, t, h1, g1, fun fuel => ?_⟩
  cases fuel with
  | zero => rfl
  | succ f => simp [Vm.isSubclassAux, ne, h2, h3]
theorem nsNo {Z : State} {a0 : Array Value} {C S K : String} {n : Nat} (w : (Cond.superclass C S).before a0 Z = true) (wk : (Cond.instantiable K n).before a0 Z = true) (q : NS Z C K) (hn : C ≠ K) : ∃ c t, Z.vm.findClass C = some c ∧ Z.vm.findClass K = some t ∧ Z.vm.assignable c t = false := by
  obtain ⟨c, t, h0, g0, n3⟩ := q
  obtain ⟨p, k, kp, h1, h2, h3, h4, h5, -, h7⟩ := Cond.superclass_spec h0 w
  obtain ⟨t', kt, g1, g2, g3, g4, -⟩ := Cond.instantiable_spec wk
  cases g0.symm.trans g1
  have g5 : kt.isInterface = false := (Bool.or_eq_false_iff.mp g4).1
  have ne := ids_ne h0 g0 hn
  refine ⟨c, t, h0, g0, ?_⟩
  show Z.vm.assignableAux (255 + 1) c t = false
  simp [Vm.assignableAux, ne, h2, g2, h5, g3, g5, Vm.isSubclass, n3]
/-- the boxes' cache at the start, out of the assumed words -/
theorem cacheStart {Z : State} {args : Array Value} {LCC LAD LC : String} {c2 : Cond} (wi : (Cond.initializedFor LCC "cache" LAD).before args Z = true ∨ ((Cond.initialized LCC).before args Z = true ∧ (Cond.laysStatic LCC "cache" LAD).before args Z = true))
    (w2 : (Cond.arrayOf (.static LCC "cache" LAD) (.object LC)).before args Z = true) (wx : (Cond.exactly (.static LCC "cache" LAD) LAD).before args Z = true) (w3 : (Cond.eq (.length (.static LCC "cache" LAD)) (.int 256)).before args Z = true)
    (w4 : (Cond.all (.static LCC "cache" LAD) (.and (.exactly (.elem (.static LCC "cache" LAD) (.index 0)) LC) c2)).before args Z = true) :
    ∃ (arr : Addr) (cl : Cell), Sta Z Z.heap LCC "cache" LAD (.ref arr) ∧ Arr Z Z.heap arr cl (.object LC) ∧ cl.slots.size = 256 ∧ ∀ i : Nat, i < 256 → ∃ b, cl.slots[i]? = some (.ref b) ∧ Exa Z Z.heap b LC := by
  obtain ⟨arr, _, _, _, ev, -⟩ := Cond.exactly_spec wx
  have S := Sta.start ev wi
  obtain ⟨cl, A⟩ := Arr.start ev (Cond.before_iff.mp w2)
  have hat := Jvm.Free.IntBox.arrayAt_of A.1 A.2.1 A.2.2
  obtain ⟨hsz, hsize⟩ := Jvm.Free.IntBox.length_fwd w3 ev A.1 A.2.1 A.2.2
  have hn : cl.slots.size = 256 := by
    have e1 : (cl.slots.size.toInt32).toInt = cl.slots.size := len_toInt hsz
    rw [hsize] at e1
    have : ((256 : Int32)).toInt = 256 := by decide
    omega
  refine ⟨arr, cl, S, A, hn, fun i hi => ?_⟩
  have hall := Cond.all_elim (c := .and (.exactly (.elem (.static LCC "cache" LAD) (.index 0)) LC) c2) ev hat (by simpa [Cond.before, Cond.holds] using w4)
  have hj := hall i (by rw [hn]; exact hi)
  have hval : (Cond.and (.exactly (.elem (.static LCC "cache" LAD) (.index 0)) LC) c2).holds args Z none Z [i] = true := by simpa [Cond.holds] using hj
  rw [Cond.holds_and, Bool.and_eq_true] at hval
  obtain ⟨b, cB, cell, k, heB, hcB, hcell, hk, hns, hcls, hsl⟩ := Cond.exactly_spec hval.1
  obtain ⟨hnn, hback⟩ := Jvm.Free.IntBox.place_nonneg i hi
  have evi : (Term.static LCC "cache" LAD).eval args Z none [i] Z = some (.ref arr) := by
    rw [← ev]; simp [Term.eval]
  have evE : (Term.elem (.static LCC "cache" LAD) (.index 0)).eval args Z none [i] Z = cl.slots[i]? := by
    rw [Term.eval, evi]; simp [Term.eval, hnn, hat, hback]
  rw [evE] at heB
  exact ⟨b, heB, cell, k, hcell, by rw [hcls]; exact hcB, by rw [hcls]; exact hk, hns, hsl⟩
theorem addNe2 (a b : Int64) : a = a + b ↔ b = 0 := by
  rw [← Int64.toInt_inj, ← Int64.toInt_inj]
  have h1 := c_ladd a b
  have h2 := rng64 a
  have h3 := rng64 b
  have h4 := rng64 (a + b)
  have h5 : (0 : Int64).toInt = 0 := by decide
  omega
theorem addNe (a b : Int64) : a + b = a ↔ b = 0 := by
  rw [← Int64.toInt_inj, ← Int64.toInt_inj]
  have h1 := c_ladd a b
  have h2 := rng64 a
  have h3 := rng64 b
  have h4 := rng64 (a + b)
  have h5 : (0 : Int64).toInt = 0 := by decide
  omega
theorem arrS {Z s : State} {h : Heap} {a : Addr} {cl : Cell} {ty : FieldType} (hZ : Z.Warmed39 s.vm) (A : Arr Z h a cl ty) : s.isArrayOf cl ty := State.isArrayOf_alike hZ.alike A.2.1
end Own
end Jvm.RoadKit
namespace Jvm.Pilot.@@N@@
open Jvm Jvm.ClassFile Sem Op Lib Jvm.Free Jvm.Stand Jvm.LawKit Jvm.RoadKit Bundle Jvm.Pilot.@@N@@.Jvm.D
theorem tw {Z : State} {a0 : Array Value} (hw : ∀ d ∈ tables_1, d.before a0 Z = true) (i : Nat) {d : Jvm.Cond} (h : tables_1[i]? = some d) : d.before a0 Z = true := hw _ (List.mem_of_getElem? h)
theorem leW {a b : Nat} (h : 2 * 0 + a = b) : 2 * 0 + a ≤ b := Nat.le_of_eq h
theorem leB {a b : Nat} (h : Nat.ble a b = true) : a ≤ b := Nat.le_of_ble_eq_true h
def QC (Z : State) (pa : Addr) (v1 : Int64) (v2 : Int64) (v3 : Int64) (v4 : Int64) (h0 : Heap) (n0 : Nat) (v : Option Value) (h : Heap) (L : List Loc) : Prop := v = none ∧ Fr n0 L ∧ Keep h0 h [pa] ∧ Exa Z h pa "com/example/outbox/outbox/QueueCounts" ∧ Fld Z h pa "com/example/outbox/outbox/QueueCounts" "ready" "J" (.long v1) ∧ Fld Z h pa "com/example/outbox/outbox/QueueCounts" "inflight" "J" (.long v2) ∧ Fld Z h pa "com/example/outbox/outbox/QueueCounts" "delayed" "J" (.long v3) ∧ Fld Z h pa "com/example/outbox/outbox/QueueCounts" "dead" "J" (.long v4)
theorem dC_0 : decode prog_5_method_1_code 0 = .ok (.aload_n 0, 1) := by decide +kernel
theorem dC_1 : decode prog_5_method_1_code 1 = .ok (.invokespecial 1, 3) := by decide +kernel
theorem dC_4 : decode prog_5_method_1_code 4 = .ok (.aload_n 0, 1) := by decide +kernel
theorem dC_5 : decode prog_5_method_1_code 5 = .ok (.lload_n 1, 1) := by decide +kernel
theorem dC_6 : decode prog_5_method_1_code 6 = .ok (.putfield 7, 3) := by decide +kernel
theorem dC_9 : decode prog_5_method_1_code 9 = .ok (.aload_n 0, 1) := by decide +kernel
theorem dC_10 : decode prog_5_method_1_code 10 = .ok (.lload_n 3, 1) := by decide +kernel
theorem dC_11 : decode prog_5_method_1_code 11 = .ok (.putfield 13, 3) := by decide +kernel
theorem dC_14 : decode prog_5_method_1_code 14 = .ok (.aload_n 0, 1) := by decide +kernel
theorem dC_15 : decode prog_5_method_1_code 15 = .ok (.lload 5, 2) := by decide +kernel
theorem dC_17 : decode prog_5_method_1_code 17 = .ok (.putfield 16, 3) := by decide +kernel
theorem dC_20 : decode prog_5_method_1_code 20 = .ok (.aload_n 0, 1) := by decide +kernel
theorem dC_21 : decode prog_5_method_1_code 21 = .ok (.lload 7, 2) := by decide +kernel
theorem dC_23 : decode prog_5_method_1_code 23 = .ok (.putfield 19, 3) := by decide +kernel
theorem dC_26 : decode prog_5_method_1_code 26 = .ok (.return_, 1) := by decide +kernel
theorem pnC : plainName "com/example/outbox/outbox/QueueCounts" = true := by first | (simp [plainName, overriddenIn]; done) | decide +kernel
theorem pdC : parseMethodDescriptor "(JJJJ)V" = some ⟨[.long, .long, .long, .long], none⟩ := by decide +kernel
set_option maxRecDepth 65536 in
set_option maxHeartbeats 40000000 in
theorem rmC (l : Launch) (Z : State) (a0 : Array Value) (hw : ∀ d ∈ tables_1, d.before a0 Z = true) (ws : List Jvm.Cond) (pa : Addr) (v1 : Int64) (v2 : Int64) (v3 : Int64) (v4 : Int64) (h0 : Heap) (n0 : Nat) (Z0 : n0 ≤ h0.size) (H0 : Exa Z h0 pa "com/example/outbox/outbox/QueueCounts") (H1 : Fld Z h0 pa "com/example/outbox/outbox/QueueCounts" "ready" "J" (.long (0 : Int64))) (H2 : Fld Z h0 pa "com/example/outbox/outbox/QueueCounts" "inflight" "J" (.long (0 : Int64))) (H3 : Fld Z h0 pa "com/example/outbox/outbox/QueueCounts" "delayed" "J" (.long (0 : Int64))) (H4 : Fld Z h0 pa "com/example/outbox/outbox/QueueCounts" "dead" "J" (.long (0 : Int64))) (nw_pa : n0 ≤ pa) :
    MetFree l (⟨"com/example/outbox/outbox/QueueCounts", "<init>", "(JJJJ)V"⟩ : MethodName) (head1 (Jvm.Cond.code (⟨"com/example/outbox/outbox/QueueCounts", "<init>", "(JJJJ)V"⟩ : MethodName) prog_5_method_1_code 9 none :: ws) ({ frames := 1, cells := 0, slots := 0, locals := 12 } : Room)) (fun aa U => aa = #[(.ref pa), (.long v1), (.long v2), (.long v3), (.long v4)] ∧ Z.Warmed39 U.vm ∧ U.heap = h0) (fun _ _ _ _ _ => True) (fun _ U o U' => ∃ v L, o = .returned v ∧ QC Z pa v1 v2 v3 v4 h0 n0 v U'.heap L ∧ FrameEnd U o U' L ({ frames := 1, cells := 0, slots := 0, locals := 12 } : Room).cells ({ frames := 1, cells := 0, slots := 0, locals := 12 } : Room).slots) := by
  refine MetFree.of_bodySF (plainFor_of_name pnC) hisR ?_
  intro p e s m args below meth c s₁ Bd hml0 hP hK
  obtain ⟨rfl, hZ, hh⟩ := hP
  have hx := Bd.exec
  have hby := Bd.bytes
  have hlk : meth.locks = false := BodyLoose.notSynchronized Bd
  have hml : c.maxLocals = 9 := hml0
  have hown : s.vm.findClass "com/example/outbox/outbox/QueueCounts" = some m.cls := findClass_of_methodNamed Bd.named
  have hnm := (name_of_methodNamed Bd.named Bd.method).1
  have X0 : Stand p l e ({ frames := 1, cells := 0, slots := 0, locals := 12 } : Room) s m #[(.ref pa), (.long v1), (.long v2), (.long v3), (.long v4)] below meth c s₁ [] 0 0 := Stand.of_body Bd
  have e0 : s₁.heap = h0 := by rw [← hh, Bd.state]; rfl
  have N0 := Fr.nil n0
  have ef : entryFrame m #[(.ref pa), (.long v1), (.long v2), (.long v3), (.long v4)] 9 = mkF m 0 #[rv pa, .val (.long v1), .second, .val (.long v2), .second, .val (.long v3), .second, .val (.long v4), .second] [] := by first | (simp [entryFrame, mkF, argsToLocals, Value.category, maxLocals]; done) | rfl
  show Way p.tables e below (KQ s (QC Z pa v1 v2 v3 v4 h0 n0) ({ frames := 1, cells := 0, slots := 0, locals := 12 } : Room).cells ({ frames := 1, cells := 0, slots := 0, locals := 12 } : Room).slots) (s₁.setTop (entryFrame m #[(.ref pa), (.long v1), (.long v2), (.long v3), (.long v4)] 9))
  rw [ef]
  refine Way.by (fun _ k => XS.aloadN X0.here hx rfl (hb hby dC_0) rfl rfl k) ?_
  show Way _ _ _ _ (s₁.setTop (mkF m 1 #[rv pa, .val (.long v1), .second, .val (.long v2), .second, .val (.long v3), .second, .val (.long v4), .second] [(.ref pa)]))
  obtain ⟨T1, X2, e3, st4⟩ := initO X0 hx hZ hown (tw hw 6 rfl) (tw hw 7 rfl) (tw hw 8 rfl) e0 (g := (mkF m 1 #[rv pa, .val (.long v1), .second, .val (.long v2), .second, .val (.long v3), .second, .val (.long v4), .second] [(.ref pa)])) rfl (by rw [hml]; rfl) rfl (hb hby dC_1) (by decide) (W := 0) (leW rfl) (by decide)
  refine Way.by st4 ?_
  show Way _ _ _ _ (T1.setTop (mkF m 4 #[rv pa, .val (.long v1), .second, .val (.long v2), .second, .val (.long v3), .second, .val (.long v4), .second] []))
  refine Way.by (fun _ k => XS.aloadN X2.here hx rfl (hb hby dC_4) rfl rfl k) ?_
  show Way _ _ _ _ (T1.setTop (mkF m 5 #[rv pa, .val (.long v1), .second, .val (.long v2), .second, .val (.long v3), .second, .val (.long v4), .second] [(.ref pa)]))
  refine Way.by (fun _ k => XT.lloadN X2.here hx rfl (hb hby dC_5) rfl k) ?_
  show Way _ _ _ _ (T1.setTop (mkF m 6 #[rv pa, .val (.long v1), .second, .val (.long v2), .second, .val (.long v3), .second, .val (.long v4), .second] [(.long v1), (.ref pa)]))
  obtain ⟨T5, h6, X7, e8, W9, st10⟩ := putF X2 hx hZ hown (host := "") (Or.inl (tw hw 9 rfl)) Via.refl e3 H1 H0 (Or.inr ⟨(tw hw 10 rfl), rfl, hnm⟩) (tw hw 1 rfl) (ty := .long) (by decide) rfl rfl (g := (mkF m 6 #[rv pa, .val (.long v1), .second, .val (.long v2), .second, .val (.long v3), .second, .val (.long v4), .second] [(.long v1), (.ref pa)])) rfl rfl (hb hby dC_6)
  have N11 := Fr.snoc X7 N0 nw_pa
  have E12 := Exa.wr W9 H0
  have F13 : Fld Z h6 pa "com/example/outbox/outbox/QueueCounts" "ready" "J" (.long v1) := H1.same W9
  have F14 := H2.other W9 (Or.inr (slot_ne (Or.inr (tw hw 12 rfl)) (Or.inr (tw hw 10 rfl)) (by decide) (t := .long) (t' := .long) (by decide) (by decide)))
  have F15 := H3.other W9 (Or.inr (slot_ne (Or.inr (tw hw 14 rfl)) (Or.inr (tw hw 10 rfl)) (by decide) (t := .long) (t' := .long) (by decide) (by decide)))
  have F16 := H4.other W9 (Or.inr (slot_ne (Or.inr (tw hw 16 rfl)) (Or.inr (tw hw 10 rfl)) (by decide) (t := .long) (t' := .long) (by decide) (by decide)))
  have Z17 : n0 ≤ h6.size := by rw [W9.size]; exact Z0
  have K18 := (Keep.refl h0 [pa]).wr W9 (Or.inl (List.mem_of_getElem? (i := 0) rfl))
  have hz19 : h0.size ≤ h6.size := by rw [W9.size]; exact (Nat.le_refl h0.size)
  refine Way.by st10 ?_
  show Way _ _ _ _ (T5.setTop (mkF m 9 #[rv pa, .val (.long v1), .second, .val (.long v2), .second, .val (.long v3), .second, .val (.long v4), .second] []))
  refine Way.by (fun _ k => XS.aloadN X7.here hx rfl (hb hby dC_9) rfl rfl k) ?_
  show Way _ _ _ _ (T5.setTop (mkF m 10 #[rv pa, .val (.long v1), .second, .val (.long v2), .second, .val (.long v3), .second, .val (.long v4), .second] [(.ref pa)]))
  refine Way.by (fun _ k => XT.lloadN X7.here hx rfl (hb hby dC_10) rfl k) ?_
  show Way _ _ _ _ (T5.setTop (mkF m 11 #[rv pa, .val (.long v1), .second, .val (.long v2), .second, .val (.long v3), .second, .val (.long v4), .second] [(.long v2), (.ref pa)]))
  obtain ⟨T20, h21, X22, e23, W24, st25⟩ := putF X7 hx hZ hown (host := "") (Or.inl (tw hw 11 rfl)) Via.refl e8 F14 E12 (Or.inr ⟨(tw hw 12 rfl), rfl, hnm⟩) (tw hw 1 rfl) (ty := .long) (by decide) rfl rfl (g := (mkF m 11 #[rv pa, .val (.long v1), .second, .val (.long v2), .second, .val (.long v3), .second, .val (.long v4), .second] [(.long v2), (.ref pa)])) rfl rfl (hb hby dC_11)
  have N26 := Fr.snoc X22 N11 nw_pa
  have E27 := Exa.wr W24 E12
  have F28 := F13.other W24 (Or.inr (slot_ne (Or.inr (tw hw 10 rfl)) (Or.inr (tw hw 12 rfl)) (by decide) (t := .long) (t' := .long) (by decide) (by decide)))
  have F29 : Fld Z h21 pa "com/example/outbox/outbox/QueueCounts" "inflight" "J" (.long v2) := F14.same W24
  have F30 := F15.other W24 (Or.inr (slot_ne (Or.inr (tw hw 14 rfl)) (Or.inr (tw hw 12 rfl)) (by decide) (t := .long) (t' := .long) (by decide) (by decide)))
  have F31 := F16.other W24 (Or.inr (slot_ne (Or.inr (tw hw 16 rfl)) (Or.inr (tw hw 12 rfl)) (by decide) (t := .long) (t' := .long) (by decide) (by decide)))
  have Z32 : n0 ≤ h21.size := by rw [W24.size]; exact Z17
  have K33 := K18.wr W24 (Or.inl (List.mem_of_getElem? (i := 0) rfl))
  have hz34 : h0.size ≤ h21.size := by rw [W24.size]; exact hz19
  refine Way.by st25 ?_
  show Way _ _ _ _ (T20.setTop (mkF m 14 #[rv pa, .val (.long v1), .second, .val (.long v2), .second, .val (.long v3), .second, .val (.long v4), .second] []))
  refine Way.by (fun _ k => XS.aloadN X22.here hx rfl (hb hby dC_14) rfl rfl k) ?_
  show Way _ _ _ _ (T20.setTop (mkF m 15 #[rv pa, .val (.long v1), .second, .val (.long v2), .second, .val (.long v3), .second, .val (.long v4), .second] [(.ref pa)]))
  refine Way.by (fun _ k => XT.lload X22.here hx rfl (hb hby dC_15) rfl k) ?_
  show Way _ _ _ _ (T20.setTop (mkF m 17 #[rv pa, .val (.long v1), .second, .val (.long v2), .second, .val (.long v3), .second, .val (.long v4), .second] [(.long v3), (.ref pa)]))
  obtain ⟨T35, h36, X37, e38, W39, st40⟩ := putF X22 hx hZ hown (host := "") (Or.inl (tw hw 13 rfl)) Via.refl e23 F30 E27 (Or.inr ⟨(tw hw 14 rfl), rfl, hnm⟩) (tw hw 1 rfl) (ty := .long) (by decide) rfl rfl (g := (mkF m 17 #[rv pa, .val (.long v1), .second, .val (.long v2), .second, .val (.long v3), .second, .val (.long v4), .second] [(.long v3), (.ref pa)])) rfl rfl (hb hby dC_17)
  have N41 := Fr.snoc X37 N26 nw_pa
  have E42 := Exa.wr W39 E27
  have F43 := F28.other W39 (Or.inr (slot_ne (Or.inr (tw hw 10 rfl)) (Or.inr (tw hw 14 rfl)) (by decide) (t := .long) (t' := .long) (by decide) (by decide)))
  have F44 := F29.other W39 (Or.inr (slot_ne (Or.inr (tw hw 12 rfl)) (Or.inr (tw hw 14 rfl)) (by decide) (t := .long) (t' := .long) (by decide) (by decide)))
  have F45 : Fld Z h36 pa "com/example/outbox/outbox/QueueCounts" "delayed" "J" (.long v3) := F30.same W39
  have F46 := F31.other W39 (Or.inr (slot_ne (Or.inr (tw hw 16 rfl)) (Or.inr (tw hw 14 rfl)) (by decide) (t := .long) (t' := .long) (by decide) (by decide)))
  have Z47 : n0 ≤ h36.size := by rw [W39.size]; exact Z32
  have K48 := K33.wr W39 (Or.inl (List.mem_of_getElem? (i := 0) rfl))
  have hz49 : h0.size ≤ h36.size := by rw [W39.size]; exact hz34
  refine Way.by st40 ?_
  show Way _ _ _ _ (T35.setTop (mkF m 20 #[rv pa, .val (.long v1), .second, .val (.long v2), .second, .val (.long v3), .second, .val (.long v4), .second] []))
  refine Way.by (fun _ k => XS.aloadN X37.here hx rfl (hb hby dC_20) rfl rfl k) ?_
  show Way _ _ _ _ (T35.setTop (mkF m 21 #[rv pa, .val (.long v1), .second, .val (.long v2), .second, .val (.long v3), .second, .val (.long v4), .second] [(.ref pa)]))
  refine Way.by (fun _ k => XT.lload X37.here hx rfl (hb hby dC_21) rfl k) ?_
  show Way _ _ _ _ (T35.setTop (mkF m 23 #[rv pa, .val (.long v1), .second, .val (.long v2), .second, .val (.long v3), .second, .val (.long v4), .second] [(.long v4), (.ref pa)]))
  obtain ⟨T50, h51, X52, e53, W54, st55⟩ := putF X37 hx hZ hown (host := "") (Or.inl (tw hw 15 rfl)) Via.refl e38 F46 E42 (Or.inr ⟨(tw hw 16 rfl), rfl, hnm⟩) (tw hw 1 rfl) (ty := .long) (by decide) rfl rfl (g := (mkF m 23 #[rv pa, .val (.long v1), .second, .val (.long v2), .second, .val (.long v3), .second, .val (.long v4), .second] [(.long v4), (.ref pa)])) rfl rfl (hb hby dC_23)
  have N56 := Fr.snoc X52 N41 nw_pa
  have E57 := Exa.wr W54 E42
  have F58 := F43.other W54 (Or.inr (slot_ne (Or.inr (tw hw 10 rfl)) (Or.inr (tw hw 16 rfl)) (by decide) (t := .long) (t' := .long) (by decide) (by decide)))
  have F59 := F44.other W54 (Or.inr (slot_ne (Or.inr (tw hw 12 rfl)) (Or.inr (tw hw 16 rfl)) (by decide) (t := .long) (t' := .long) (by decide) (by decide)))
  have F60 := F45.other W54 (Or.inr (slot_ne (Or.inr (tw hw 14 rfl)) (Or.inr (tw hw 16 rfl)) (by decide) (t := .long) (t' := .long) (by decide) (by decide)))
  have F61 : Fld Z h51 pa "com/example/outbox/outbox/QueueCounts" "dead" "J" (.long v4) := F46.same W54
  have Z62 : n0 ≤ h51.size := by rw [W54.size]; exact Z47
  have K63 := K48.wr W54 (Or.inl (List.mem_of_getElem? (i := 0) rfl))
  have hz64 : h0.size ≤ h51.size := by rw [W54.size]; exact hz49
  refine Way.by st55 ?_
  show Way _ _ _ _ (T50.setTop (mkF m 26 #[rv pa, .val (.long v1), .second, .val (.long v2), .second, .val (.long v3), .second, .val (.long v4), .second] []))
  refine Way.ret (v := none) X52 hlk (fun _ => rfl) (fun fs hr => X52.returnOut hx Bd.returns (hb hby dC_26) hr) ?_ (by decide) (by decide)
  show QC Z pa v1 v2 v3 v4 h0 n0 _ T50.heap _
  rw [e53]
  exact ⟨rfl, N56, K63, E57, F58, F59, F60, F61⟩
def QE (Z : State) (pa : Addr) (pb : Addr) (a1 : Int64) (a2 : Int64) (a3 : Int64) (a4 : Int64) (b1 : Int64) (b2 : Int64) (b3 : Int64) (b4 : Int64) (pr : Int32) (h0 : Heap) (n0 : Nat) (v : Option Value) (h : Heap) (L : List Loc) : Prop := v = some (.int pr) ∧ Fr n0 L ∧ h = h0
theorem dE_0 : decode prog_5_method_6_code 0 = .ok (.aload_n 1, 1) := by decide +kernel
theorem dE_1 : decode prog_5_method_6_code 1 = .ok (.instanceof 8, 3) := by decide +kernel
theorem dE_4 : decode prog_5_method_6_code 4 = .ok (.ifCond .eq 60, 3) := by decide +kernel
theorem dE_7 : decode prog_5_method_6_code 7 = .ok (.aload_n 1, 1) := by decide +kernel
theorem dE_8 : decode prog_5_method_6_code 8 = .ok (.checkcast 8, 3) := by decide +kernel
theorem dE_11 : decode prog_5_method_6_code 11 = .ok (.astore_n 2, 1) := by decide +kernel
theorem dE_12 : decode prog_5_method_6_code 12 = .ok (.aload_n 2, 1) := by decide +kernel
theorem dE_13 : decode prog_5_method_6_code 13 = .ok (.getfield 7, 3) := by decide +kernel
theorem dE_16 : decode prog_5_method_6_code 16 = .ok (.aload_n 0, 1) := by decide +kernel
theorem dE_17 : decode prog_5_method_6_code 17 = .ok (.getfield 7, 3) := by decide +kernel
theorem dE_20 : decode prog_5_method_6_code 20 = .ok (.lcmp, 1) := by decide +kernel
theorem dE_21 : decode prog_5_method_6_code 21 = .ok (.ifCond .ne 43, 3) := by decide +kernel
theorem dE_24 : decode prog_5_method_6_code 24 = .ok (.aload_n 2, 1) := by decide +kernel
theorem dE_25 : decode prog_5_method_6_code 25 = .ok (.getfield 13, 3) := by decide +kernel
theorem dE_28 : decode prog_5_method_6_code 28 = .ok (.aload_n 0, 1) := by decide +kernel
theorem dE_29 : decode prog_5_method_6_code 29 = .ok (.getfield 13, 3) := by decide +kernel
theorem dE_32 : decode prog_5_method_6_code 32 = .ok (.lcmp, 1) := by decide +kernel
theorem dE_33 : decode prog_5_method_6_code 33 = .ok (.ifCond .ne 31, 3) := by decide +kernel
theorem dE_36 : decode prog_5_method_6_code 36 = .ok (.aload_n 2, 1) := by decide +kernel
theorem dE_37 : decode prog_5_method_6_code 37 = .ok (.getfield 16, 3) := by decide +kernel
theorem dE_40 : decode prog_5_method_6_code 40 = .ok (.aload_n 0, 1) := by decide +kernel
theorem dE_41 : decode prog_5_method_6_code 41 = .ok (.getfield 16, 3) := by decide +kernel
theorem dE_44 : decode prog_5_method_6_code 44 = .ok (.lcmp, 1) := by decide +kernel
theorem dE_45 : decode prog_5_method_6_code 45 = .ok (.ifCond .ne 19, 3) := by decide +kernel
theorem dE_48 : decode prog_5_method_6_code 48 = .ok (.aload_n 2, 1) := by decide +kernel
theorem dE_49 : decode prog_5_method_6_code 49 = .ok (.getfield 19, 3) := by decide +kernel
theorem dE_52 : decode prog_5_method_6_code 52 = .ok (.aload_n 0, 1) := by decide +kernel
theorem dE_53 : decode prog_5_method_6_code 53 = .ok (.getfield 19, 3) := by decide +kernel
theorem dE_56 : decode prog_5_method_6_code 56 = .ok (.lcmp, 1) := by decide +kernel
theorem dE_57 : decode prog_5_method_6_code 57 = .ok (.ifCond .ne 7, 3) := by decide +kernel
theorem dE_60 : decode prog_5_method_6_code 60 = .ok (.iconst 1, 1) := by decide +kernel
theorem dE_61 : decode prog_5_method_6_code 61 = .ok (.goto 4, 3) := by decide +kernel
theorem dE_64 : decode prog_5_method_6_code 64 = .ok (.iconst 0, 1) := by decide +kernel
theorem dE_65 : decode prog_5_method_6_code 65 = .ok (.ireturn, 1) := by decide +kernel
theorem pdE : parseMethodDescriptor "(Ljava/lang/Object;)Z" = some ⟨[(.object "java/lang/Object")], some .boolean⟩ := by decide +kernel
set_option maxRecDepth 65536 in
set_option maxHeartbeats 40000000 in
theorem rmE (l : Launch) (Z : State) (a0 : Array Value) (hw : ∀ d ∈ tables_1, d.before a0 Z = true) (ws : List Jvm.Cond) (pa : Addr) (pb : Addr) (a1 : Int64) (a2 : Int64) (a3 : Int64) (a4 : Int64) (b1 : Int64) (b2 : Int64) (b3 : Int64) (b4 : Int64) (pr : Int32) (h0 : Heap) (n0 : Nat) (Z0 : n0 ≤ h0.size) (H0 : Exa Z h0 pb "com/example/outbox/outbox/QueueCounts") (H1 : Fld Z h0 pa "com/example/outbox/outbox/QueueCounts" "ready" "J" (.long a1)) (H2 : Fld Z h0 pa "com/example/outbox/outbox/QueueCounts" "inflight" "J" (.long a2)) (H3 : Fld Z h0 pa "com/example/outbox/outbox/QueueCounts" "delayed" "J" (.long a3)) (H4 : Fld Z h0 pa "com/example/outbox/outbox/QueueCounts" "dead" "J" (.long a4)) (H5 : Fld Z h0 pb "com/example/outbox/outbox/QueueCounts" "ready" "J" (.long b1)) (H6 : Fld Z h0 pb "com/example/outbox/outbox/QueueCounts" "inflight" "J" (.long b2)) (H7 : Fld Z h0 pb "com/example/outbox/outbox/QueueCounts" "delayed" "J" (.long b3)) (H8 : Fld Z h0 pb "com/example/outbox/outbox/QueueCounts" "dead" "J" (.long b4)) (hr : pr = if b1 = a1 ∧ b2 = a2 ∧ b3 = a3 ∧ b4 = a4 then 1 else 0) :
    MetFree l (⟨"com/example/outbox/outbox/QueueCounts", "equals", "(Ljava/lang/Object;)Z"⟩ : MethodName) (head1 (Jvm.Cond.code (⟨"com/example/outbox/outbox/QueueCounts", "equals", "(Ljava/lang/Object;)Z"⟩ : MethodName) prog_5_method_6_code 3 (some .boolean) :: ws) ({ frames := 0, cells := 0, slots := 0, locals := 0 } : Room)) (fun aa U => aa = #[(.ref pa), (.ref pb)] ∧ Z.Warmed39 U.vm ∧ U.heap = h0) (fun _ _ _ _ _ => True) (fun _ U o U' => ∃ v L, o = .returned v ∧ QE Z pa pb a1 a2 a3 a4 b1 b2 b3 b4 pr h0 n0 v U'.heap L ∧ FrameEnd U o U' L ({ frames := 0, cells := 0, slots := 0, locals := 0 } : Room).cells ({ frames := 0, cells := 0, slots := 0, locals := 0 } : Room).slots) := by
  refine MetFree.of_bodySF (plainFor_of_name pnC) hisR ?_
  intro p e s m args below meth c s₁ Bd hml0 hP hK
  obtain ⟨rfl, hZ, hh⟩ := hP
  have hx := Bd.exec
  have hby := Bd.bytes
  have hlk : meth.locks = false := BodyLoose.notSynchronized Bd
  have hml : c.maxLocals = 3 := hml0
  have hown : s.vm.findClass "com/example/outbox/outbox/QueueCounts" = some m.cls := findClass_of_methodNamed Bd.named
  have hnm := (name_of_methodNamed Bd.named Bd.method).1
  have X0 : Stand p l e ({ frames := 0, cells := 0, slots := 0, locals := 0 } : Room) s m #[(.ref pa), (.ref pb)] below meth c s₁ [] 0 0 := Stand.of_body Bd
  have e0 : s₁.heap = h0 := by rw [← hh, Bd.state]; rfl
  have N0 := Fr.nil n0
  have ef : entryFrame m #[(.ref pa), (.ref pb)] 3 = mkF m 0 #[rv pa, rv pb, .unset] [] := by first | (simp [entryFrame, mkF, argsToLocals, Value.category, maxLocals]; done) | rfl
  show Way p.tables e below (KQ s (QE Z pa pb a1 a2 a3 a4 b1 b2 b3 b4 pr h0 n0) ({ frames := 0, cells := 0, slots := 0, locals := 0 } : Room).cells ({ frames := 0, cells := 0, slots := 0, locals := 0 } : Room).slots) (s₁.setTop (entryFrame m #[(.ref pa), (.ref pb)] 3))
  rw [ef]
  refine Way.by (fun _ k => XS.aloadN X0.here hx rfl (hb hby dE_0) rfl rfl k) ?_
  show Way _ _ _ _ (s₁.setTop (mkF m 1 #[rv pa, rv pb, .unset] [(.ref pb)]))
  obtain ⟨T1, X2, e3, st4⟩ := instY X0 hx hZ hown (tw hw 22 rfl) e0 (Ins.self H0) (g := (mkF m 1 #[rv pa, rv pb, .unset] [(.ref pb)])) rfl rfl (hb hby dE_1)
  refine Way.by st4 ?_
  show Way _ _ _ _ (T1.setTop (mkF m 4 #[rv pa, rv pb, .unset] [(.int 1)]))
  have b5 : ¬ (1 : Int32) = (0 : Int32) := by decide
  refine Way.by (fun _ k => XS.ifNo X2.here hx rfl (hb hby dE_4) rfl ((if0 .eq _).trans (feq b5).1) k) ?_
  show Way _ _ _ _ (T1.setTop (mkF m 7 #[rv pa, rv pb, .unset] []))
  refine Way.by (fun _ k => XS.aloadN X2.here hx rfl (hb hby dE_7) rfl rfl k) ?_
  show Way _ _ _ _ (T1.setTop (mkF m 8 #[rv pa, rv pb, .unset] [(.ref pb)]))
  obtain ⟨T6, X7, e8, st9⟩ := castY X2 hx hZ hown (tw hw 22 rfl) e3 (Ins.self H0) (g := (mkF m 8 #[rv pa, rv pb, .unset] [(.ref pb)])) rfl rfl (hb hby dE_8)
  refine Way.by st9 ?_
  show Way _ _ _ _ (T6.setTop (mkF m 11 #[rv pa, rv pb, .unset] [(.ref pb)]))
  refine Way.by (fun _ k => XS.astoreN X7.here hx rfl (hb hby dE_11) rfl rfl (l' := #[rv pa, rv pb, rv pb]) rfl k) ?_
  show Way _ _ _ _ (T6.setTop (mkF m 12 #[rv pa, rv pb, rv pb] []))
  refine Way.by (fun _ k => XS.aloadN X7.here hx rfl (hb hby dE_12) rfl rfl k) ?_
  show Way _ _ _ _ (T6.setTop (mkF m 13 #[rv pa, rv pb, rv pb] [(.ref pb)]))
  obtain ⟨T10, X11, e12, st13⟩ := getF X7 hx hZ hown (host := "") (Or.inl (tw hw 9 rfl)) Via.refl e8 H5 (g := (mkF m 13 #[rv pa, rv pb, rv pb] [(.ref pb)])) rfl rfl (hb hby dE_13)
  refine Way.by st13 ?_
  show Way _ _ _ _ (T10.setTop (mkF m 16 #[rv pa, rv pb, rv pb] [(.long b1)]))
  refine Way.by (fun _ k => XS.aloadN X11.here hx rfl (hb hby dE_16) rfl rfl k) ?_
  show Way _ _ _ _ (T10.setTop (mkF m 17 #[rv pa, rv pb, rv pb] [(.ref pa), (.long b1)]))
  obtain ⟨T14, X15, e16, st17⟩ := getF X11 hx hZ hown (host := "") (Or.inl (tw hw 9 rfl)) Via.refl e12 H1 (g := (mkF m 17 #[rv pa, rv pb, rv pb] [(.ref pa), (.long b1)])) rfl rfl (hb hby dE_17)
  refine Way.by st17 ?_
  show Way _ _ _ _ (T14.setTop (mkF m 20 #[rv pa, rv pb, rv pb] [(.long a1), (.long b1)]))
  refine Way.by (fun _ k => XT.lcmp X15.here hx rfl (hb hby dE_20) rfl k) ?_
  show Way _ _ _ _ (T14.setTop (mkF m 21 #[rv pa, rv pb, rv pb] [(.int (XT.cmpL b1 a1))]))
  by_cases hq21 : (XT.cmpL b1 a1) = (0 : Int32)
  · skip
    refine Way.by (fun _ k => XS.ifNo X15.here hx rfl (hb hby dE_21) rfl ((if0 .ne _).trans (teq hq21).2) k) ?_
    show Way _ _ _ _ (T14.setTop (mkF m 24 #[rv pa, rv pb, rv pb] []))
    refine Way.by (fun _ k => XS.aloadN X15.here hx rfl (hb hby dE_24) rfl rfl k) ?_
    show Way _ _ _ _ (T14.setTop (mkF m 25 #[rv pa, rv pb, rv pb] [(.ref pb)]))
    obtain ⟨T18, X19, e20, st21⟩ := getF X15 hx hZ hown (host := "") (Or.inl (tw hw 11 rfl)) Via.refl e16 H6 (g := (mkF m 25 #[rv pa, rv pb, rv pb] [(.ref pb)])) rfl rfl (hb hby dE_25)
    refine Way.by st21 ?_
    show Way _ _ _ _ (T18.setTop (mkF m 28 #[rv pa, rv pb, rv pb] [(.long b2)]))
    refine Way.by (fun _ k => XS.aloadN X19.here hx rfl (hb hby dE_28) rfl rfl k) ?_
    show Way _ _ _ _ (T18.setTop (mkF m 29 #[rv pa, rv pb, rv pb] [(.ref pa), (.long b2)]))
    obtain ⟨T22, X23, e24, st25⟩ := getF X19 hx hZ hown (host := "") (Or.inl (tw hw 11 rfl)) Via.refl e20 H2 (g := (mkF m 29 #[rv pa, rv pb, rv pb] [(.ref pa), (.long b2)])) rfl rfl (hb hby dE_29)
    refine Way.by st25 ?_
    show Way _ _ _ _ (T22.setTop (mkF m 32 #[rv pa, rv pb, rv pb] [(.long a2), (.long b2)]))
    refine Way.by (fun _ k => XT.lcmp X23.here hx rfl (hb hby dE_32) rfl k) ?_
    show Way _ _ _ _ (T22.setTop (mkF m 33 #[rv pa, rv pb, rv pb] [(.int (XT.cmpL b2 a2))]))
    by_cases hq33 : (XT.cmpL b2 a2) = (0 : Int32)
    · skip
      refine Way.by (fun _ k => XS.ifNo X23.here hx rfl (hb hby dE_33) rfl ((if0 .ne _).trans (teq hq33).2) k) ?_
      show Way _ _ _ _ (T22.setTop (mkF m 36 #[rv pa, rv pb, rv pb] []))
      refine Way.by (fun _ k => XS.aloadN X23.here hx rfl (hb hby dE_36) rfl rfl k) ?_
      show Way _ _ _ _ (T22.setTop (mkF m 37 #[rv pa, rv pb, rv pb] [(.ref pb)]))
      obtain ⟨T26, X27, e28, st29⟩ := getF X23 hx hZ hown (host := "") (Or.inl (tw hw 13 rfl)) Via.refl e24 H7 (g := (mkF m 37 #[rv pa, rv pb, rv pb] [(.ref pb)])) rfl rfl (hb hby dE_37)
      refine Way.by st29 ?_
      show Way _ _ _ _ (T26.setTop (mkF m 40 #[rv pa, rv pb, rv pb] [(.long b3)]))
      refine Way.by (fun _ k => XS.aloadN X27.here hx rfl (hb hby dE_40) rfl rfl k) ?_
      show Way _ _ _ _ (T26.setTop (mkF m 41 #[rv pa, rv pb, rv pb] [(.ref pa), (.long b3)]))
      obtain ⟨T30, X31, e32, st33⟩ := getF X27 hx hZ hown (host := "") (Or.inl (tw hw 13 rfl)) Via.refl e28 H3 (g := (mkF m 41 #[rv pa, rv pb, rv pb] [(.ref pa), (.long b3)])) rfl rfl (hb hby dE_41)
      refine Way.by st33 ?_
      show Way _ _ _ _ (T30.setTop (mkF m 44 #[rv pa, rv pb, rv pb] [(.long a3), (.long b3)]))
      refine Way.by (fun _ k => XT.lcmp X31.here hx rfl (hb hby dE_44) rfl k) ?_
      show Way _ _ _ _ (T30.setTop (mkF m 45 #[rv pa, rv pb, rv pb] [(.int (XT.cmpL b3 a3))]))
      by_cases hq45 : (XT.cmpL b3 a3) = (0 : Int32)
      · skip
        refine Way.by (fun _ k => XS.ifNo X31.here hx rfl (hb hby dE_45) rfl ((if0 .ne _).trans (teq hq45).2) k) ?_
        show Way _ _ _ _ (T30.setTop (mkF m 48 #[rv pa, rv pb, rv pb] []))
        refine Way.by (fun _ k => XS.aloadN X31.here hx rfl (hb hby dE_48) rfl rfl k) ?_
        show Way _ _ _ _ (T30.setTop (mkF m 49 #[rv pa, rv pb, rv pb] [(.ref pb)]))
        obtain ⟨T34, X35, e36, st37⟩ := getF X31 hx hZ hown (host := "") (Or.inl (tw hw 15 rfl)) Via.refl e32 H8 (g := (mkF m 49 #[rv pa, rv pb, rv pb] [(.ref pb)])) rfl rfl (hb hby dE_49)
        refine Way.by st37 ?_
        show Way _ _ _ _ (T34.setTop (mkF m 52 #[rv pa, rv pb, rv pb] [(.long b4)]))
        refine Way.by (fun _ k => XS.aloadN X35.here hx rfl (hb hby dE_52) rfl rfl k) ?_
        show Way _ _ _ _ (T34.setTop (mkF m 53 #[rv pa, rv pb, rv pb] [(.ref pa), (.long b4)]))
        obtain ⟨T38, X39, e40, st41⟩ := getF X35 hx hZ hown (host := "") (Or.inl (tw hw 15 rfl)) Via.refl e36 H4 (g := (mkF m 53 #[rv pa, rv pb, rv pb] [(.ref pa), (.long b4)])) rfl rfl (hb hby dE_53)
        refine Way.by st41 ?_
        show Way _ _ _ _ (T38.setTop (mkF m 56 #[rv pa, rv pb, rv pb] [(.long a4), (.long b4)]))
        refine Way.by (fun _ k => XT.lcmp X39.here hx rfl (hb hby dE_56) rfl k) ?_
        show Way _ _ _ _ (T38.setTop (mkF m 57 #[rv pa, rv pb, rv pb] [(.int (XT.cmpL b4 a4))]))
        by_cases hq57 : (XT.cmpL b4 a4) = (0 : Int32)
        · skip
          refine Way.by (fun _ k => XS.ifNo X39.here hx rfl (hb hby dE_57) rfl ((if0 .ne _).trans (teq hq57).2) k) ?_
          show Way _ _ _ _ (T38.setTop (mkF m 60 #[rv pa, rv pb, rv pb] []))
          refine Way.by (fun _ k => XS.iconst X39.here hx rfl (hb hby dE_60) k) ?_
          show Way _ _ _ _ (T38.setTop (mkF m 61 #[rv pa, rv pb, rv pb] [(.int 1)]))
          refine Way.by (fun _ k => XS.goto X39.here hx rfl (pc0 := 61) (pc' := 65) rfl (hb hby dE_61) (by decide) (by decide) k) ?_
          show Way _ _ _ _ (T38.setTop (mkF m 65 #[rv pa, rv pb, rv pb] [(.int 1)]))
          refine Way.ret (v := (some (.int (nar .boolean (1 : Int32))))) X39 hlk (fun h => by rw [Bd.returns] at h; cases h) (fun fs hr => retN X39 hx (t := .boolean) Bd.returns (by simp) (hb hby dE_65) hr) ?_ (by decide) (by decide)
          show QE Z pa pb a1 a2 a3 a4 b1 b2 b3 b4 pr h0 n0 _ T38.heap _
          rw [e40]
          simp only [cmpL0] at hq21 hq33 hq45 hq57
          exact ⟨by rw [hr]; simp [hq21, hq33, hq45, hq57]; rfl, N0, rfl⟩
        · skip
          refine Way.by (fun _ k => XS.ifYes X39.here hx rfl (pc0 := 57) (pc' := 64) rfl (hb hby dE_57) rfl ((if0 .ne _).trans (feq hq57).2) (by decide) (by decide) k) ?_
          show Way _ _ _ _ (T38.setTop (mkF m 64 #[rv pa, rv pb, rv pb] []))
          refine Way.by (fun _ k => XS.iconst X39.here hx rfl (hb hby dE_64) k) ?_
          show Way _ _ _ _ (T38.setTop (mkF m 65 #[rv pa, rv pb, rv pb] [(.int 0)]))
          refine Way.ret (v := (some (.int (nar .boolean (0 : Int32))))) X39 hlk (fun h => by rw [Bd.returns] at h; cases h) (fun fs hr => retN X39 hx (t := .boolean) Bd.returns (by simp) (hb hby dE_65) hr) ?_ (by decide) (by decide)
          show QE Z pa pb a1 a2 a3 a4 b1 b2 b3 b4 pr h0 n0 _ T38.heap _
          rw [e40]
          simp only [cmpL0] at hq21 hq33 hq45 hq57
          exact ⟨by rw [hr]; simp [hq21, hq33, hq45, hq57]; rfl, N0, rfl⟩
      · skip
        refine Way.by (fun _ k => XS.ifYes X31.here hx rfl (pc0 := 45) (pc' := 64) rfl (hb hby dE_45) rfl ((if0 .ne _).trans (feq hq45).2) (by decide) (by decide) k) ?_
        show Way _ _ _ _ (T30.setTop (mkF m 64 #[rv pa, rv pb, rv pb] []))
        refine Way.by (fun _ k => XS.iconst X31.here hx rfl (hb hby dE_64) k) ?_
        show Way _ _ _ _ (T30.setTop (mkF m 65 #[rv pa, rv pb, rv pb] [(.int 0)]))
        refine Way.ret (v := (some (.int (nar .boolean (0 : Int32))))) X31 hlk (fun h => by rw [Bd.returns] at h; cases h) (fun fs hr => retN X31 hx (t := .boolean) Bd.returns (by simp) (hb hby dE_65) hr) ?_ (by decide) (by decide)
        show QE Z pa pb a1 a2 a3 a4 b1 b2 b3 b4 pr h0 n0 _ T30.heap _
        rw [e32]
        simp only [cmpL0] at hq21 hq33 hq45
        exact ⟨by rw [hr]; simp [hq21, hq33, hq45]; rfl, N0, rfl⟩
    · skip
      refine Way.by (fun _ k => XS.ifYes X23.here hx rfl (pc0 := 33) (pc' := 64) rfl (hb hby dE_33) rfl ((if0 .ne _).trans (feq hq33).2) (by decide) (by decide) k) ?_
      show Way _ _ _ _ (T22.setTop (mkF m 64 #[rv pa, rv pb, rv pb] []))
      refine Way.by (fun _ k => XS.iconst X23.here hx rfl (hb hby dE_64) k) ?_
      show Way _ _ _ _ (T22.setTop (mkF m 65 #[rv pa, rv pb, rv pb] [(.int 0)]))
      refine Way.ret (v := (some (.int (nar .boolean (0 : Int32))))) X23 hlk (fun h => by rw [Bd.returns] at h; cases h) (fun fs hr => retN X23 hx (t := .boolean) Bd.returns (by simp) (hb hby dE_65) hr) ?_ (by decide) (by decide)
      show QE Z pa pb a1 a2 a3 a4 b1 b2 b3 b4 pr h0 n0 _ T22.heap _
      rw [e24]
      simp only [cmpL0] at hq21 hq33
      exact ⟨by rw [hr]; simp [hq21, hq33]; rfl, N0, rfl⟩
  · skip
    refine Way.by (fun _ k => XS.ifYes X15.here hx rfl (pc0 := 21) (pc' := 64) rfl (hb hby dE_21) rfl ((if0 .ne _).trans (feq hq21).2) (by decide) (by decide) k) ?_
    show Way _ _ _ _ (T14.setTop (mkF m 64 #[rv pa, rv pb, rv pb] []))
    refine Way.by (fun _ k => XS.iconst X15.here hx rfl (hb hby dE_64) k) ?_
    show Way _ _ _ _ (T14.setTop (mkF m 65 #[rv pa, rv pb, rv pb] [(.int 0)]))
    refine Way.ret (v := (some (.int (nar .boolean (0 : Int32))))) X15 hlk (fun h => by rw [Bd.returns] at h; cases h) (fun fs hr => retN X15 hx (t := .boolean) Bd.returns (by simp) (hb hby dE_65) hr) ?_ (by decide) (by decide)
    show QE Z pa pb a1 a2 a3 a4 b1 b2 b3 b4 pr h0 n0 _ T14.heap _
    rw [e16]
    simp only [cmpL0] at hq21
    exact ⟨by rw [hr]; simp [hq21]; rfl, N0, rfl⟩
def QN (Z : State) (pa : Addr) (h0 : Heap) (n0 : Nat) (v : Option Value) (h : Heap) (L : List Loc) : Prop := v = some (.int 0) ∧ Fr n0 L ∧ h = h0
set_option maxRecDepth 65536 in
set_option maxHeartbeats 40000000 in
theorem rmN (l : Launch) (Z : State) (a0 : Array Value) (hw : ∀ d ∈ tables_1, d.before a0 Z = true) (ws : List Jvm.Cond) (pa : Addr) (h0 : Heap) (n0 : Nat) (Z0 : n0 ≤ h0.size)  :
    MetFree l (⟨"com/example/outbox/outbox/QueueCounts", "equals", "(Ljava/lang/Object;)Z"⟩ : MethodName) (head1 (Jvm.Cond.code (⟨"com/example/outbox/outbox/QueueCounts", "equals", "(Ljava/lang/Object;)Z"⟩ : MethodName) prog_5_method_6_code 3 (some .boolean) :: ws) ({ frames := 0, cells := 0, slots := 0, locals := 0 } : Room)) (fun aa U => aa = #[(.ref pa), .null] ∧ Z.Warmed39 U.vm ∧ U.heap = h0) (fun _ _ _ _ _ => True) (fun _ U o U' => ∃ v L, o = .returned v ∧ QN Z pa h0 n0 v U'.heap L ∧ FrameEnd U o U' L ({ frames := 0, cells := 0, slots := 0, locals := 0 } : Room).cells ({ frames := 0, cells := 0, slots := 0, locals := 0 } : Room).slots) := by
  refine MetFree.of_bodySF (plainFor_of_name pnC) hisR ?_
  intro p e s m args below meth c s₁ Bd hml0 hP hK
  obtain ⟨rfl, hZ, hh⟩ := hP
  have hx := Bd.exec
  have hby := Bd.bytes
  have hlk : meth.locks = false := BodyLoose.notSynchronized Bd
  have hml : c.maxLocals = 3 := hml0
  have hown : s.vm.findClass "com/example/outbox/outbox/QueueCounts" = some m.cls := findClass_of_methodNamed Bd.named
  have hnm := (name_of_methodNamed Bd.named Bd.method).1
  have X0 : Stand p l e ({ frames := 0, cells := 0, slots := 0, locals := 0 } : Room) s m #[(.ref pa), .null] below meth c s₁ [] 0 0 := Stand.of_body Bd
  have e0 : s₁.heap = h0 := by rw [← hh, Bd.state]; rfl
  have N0 := Fr.nil n0
  have ef : entryFrame m #[(.ref pa), .null] 3 = mkF m 0 #[rv pa, .val .null, .unset] [] := by first | (simp [entryFrame, mkF, argsToLocals, Value.category, maxLocals]; done) | rfl
  show Way p.tables e below (KQ s (QN Z pa h0 n0) ({ frames := 0, cells := 0, slots := 0, locals := 0 } : Room).cells ({ frames := 0, cells := 0, slots := 0, locals := 0 } : Room).slots) (s₁.setTop (entryFrame m #[(.ref pa), .null] 3))
  rw [ef]
  refine Way.by (fun _ k => XS.aloadN X0.here hx rfl (hb hby dE_0) rfl rfl k) ?_
  show Way _ _ _ _ (s₁.setTop (mkF m 1 #[rv pa, .val .null, .unset] [.null]))
  refine Way.by (Stand.instanceofNull X0 hx rfl rfl (hb hby dE_1)) ?_
  show Way _ _ _ _ (s₁.setTop (mkF m 4 #[rv pa, .val .null, .unset] [(.int 0)]))
  have b1 : (0 : Int32) = (0 : Int32) := by decide
  refine Way.by (fun _ k => XS.ifYes X0.here hx rfl (pc0 := 4) (pc' := 64) rfl (hb hby dE_4) rfl ((if0 .eq _).trans (teq b1).1) (by decide) (by decide) k) ?_
  show Way _ _ _ _ (s₁.setTop (mkF m 64 #[rv pa, .val .null, .unset] []))
  refine Way.by (fun _ k => XS.iconst X0.here hx rfl (hb hby dE_64) k) ?_
  show Way _ _ _ _ (s₁.setTop (mkF m 65 #[rv pa, .val .null, .unset] [(.int 0)]))
  refine Way.ret (v := (some (.int (nar .boolean (0 : Int32))))) X0 hlk (fun h => by rw [Bd.returns] at h; cases h) (fun fs hr => retN X0 hx (t := .boolean) Bd.returns (by simp) (hb hby dE_65) hr) ?_ (by decide) (by decide)
  show QN Z pa h0 n0 _ s₁.heap _
  rw [e0]
  exact ⟨rfl, N0, rfl⟩
def QG (Z : State) (pa : Addr) (pb : Addr) (h0 : Heap) (n0 : Nat) (v : Option Value) (h : Heap) (L : List Loc) : Prop := v = some (.int 0) ∧ Fr n0 L ∧ h = h0
set_option maxRecDepth 65536 in
set_option maxHeartbeats 40000000 in
theorem rmG (l : Launch) (Z : State) (a0 : Array Value) (hw : ∀ d ∈ tables_1, d.before a0 Z = true) (ws : List Jvm.Cond) (pa : Addr) (pb : Addr) (h0 : Heap) (n0 : Nat) (Z0 : n0 ≤ h0.size) (H0 : Exa Z h0 pb "java/lang/Long") :
    MetFree l (⟨"com/example/outbox/outbox/QueueCounts", "equals", "(Ljava/lang/Object;)Z"⟩ : MethodName) (head1 (Jvm.Cond.code (⟨"com/example/outbox/outbox/QueueCounts", "equals", "(Ljava/lang/Object;)Z"⟩ : MethodName) prog_5_method_6_code 3 (some .boolean) :: ws) ({ frames := 0, cells := 0, slots := 0, locals := 0 } : Room)) (fun aa U => aa = #[(.ref pa), (.ref pb)] ∧ Z.Warmed39 U.vm ∧ U.heap = h0) (fun _ _ _ _ _ => True) (fun _ U o U' => ∃ v L, o = .returned v ∧ QG Z pa pb h0 n0 v U'.heap L ∧ FrameEnd U o U' L ({ frames := 0, cells := 0, slots := 0, locals := 0 } : Room).cells ({ frames := 0, cells := 0, slots := 0, locals := 0 } : Room).slots) := by
  refine MetFree.of_bodySF (plainFor_of_name pnC) hisR ?_
  intro p e s m args below meth c s₁ Bd hml0 hP hK
  obtain ⟨rfl, hZ, hh⟩ := hP
  have hx := Bd.exec
  have hby := Bd.bytes
  have hlk : meth.locks = false := BodyLoose.notSynchronized Bd
  have hml : c.maxLocals = 3 := hml0
  have hown : s.vm.findClass "com/example/outbox/outbox/QueueCounts" = some m.cls := findClass_of_methodNamed Bd.named
  have hnm := (name_of_methodNamed Bd.named Bd.method).1
  have X0 : Stand p l e ({ frames := 0, cells := 0, slots := 0, locals := 0 } : Room) s m #[(.ref pa), (.ref pb)] below meth c s₁ [] 0 0 := Stand.of_body Bd
  have e0 : s₁.heap = h0 := by rw [← hh, Bd.state]; rfl
  have N0 := Fr.nil n0
  have ef : entryFrame m #[(.ref pa), (.ref pb)] 3 = mkF m 0 #[rv pa, rv pb, .unset] [] := by first | (simp [entryFrame, mkF, argsToLocals, Value.category, maxLocals]; done) | rfl
  show Way p.tables e below (KQ s (QG Z pa pb h0 n0) ({ frames := 0, cells := 0, slots := 0, locals := 0 } : Room).cells ({ frames := 0, cells := 0, slots := 0, locals := 0 } : Room).slots) (s₁.setTop (entryFrame m #[(.ref pa), (.ref pb)] 3))
  rw [ef]
  refine Way.by (fun _ k => XS.aloadN X0.here hx rfl (hb hby dE_0) rfl rfl k) ?_
  show Way _ _ _ _ (s₁.setTop (mkF m 1 #[rv pa, rv pb, .unset] [(.ref pb)]))
  obtain ⟨T1, X2, e3, st4⟩ := instNo X0 hx hZ hown (tw hw 22 rfl) e0 H0 (nsNo (tw hw 44 rfl) (tw hw 1 rfl) (NS.step (tw hw 44 rfl) (NS.step (tw hw 45 rfl) (nsRoot (tw hw 46 rfl) (tw hw 1 rfl) (by decide)) (by decide)) (by decide)) (by decide)) (g := (mkF m 1 #[rv pa, rv pb, .unset] [(.ref pb)])) rfl rfl (hb hby dE_1)
  refine Way.by st4 ?_
  show Way _ _ _ _ (T1.setTop (mkF m 4 #[rv pa, rv pb, .unset] [(.int 0)]))
  have b5 : (0 : Int32) = (0 : Int32) := by decide
  refine Way.by (fun _ k => XS.ifYes X2.here hx rfl (pc0 := 4) (pc' := 64) rfl (hb hby dE_4) rfl ((if0 .eq _).trans (teq b5).1) (by decide) (by decide) k) ?_
  show Way _ _ _ _ (T1.setTop (mkF m 64 #[rv pa, rv pb, .unset] []))
  refine Way.by (fun _ k => XS.iconst X2.here hx rfl (hb hby dE_64) k) ?_
  show Way _ _ _ _ (T1.setTop (mkF m 65 #[rv pa, rv pb, .unset] [(.int 0)]))
  refine Way.ret (v := (some (.int (nar .boolean (0 : Int32))))) X2 hlk (fun h => by rw [Bd.returns] at h; cases h) (fun fs hr => retN X2 hx (t := .boolean) Bd.returns (by simp) (hb hby dE_65) hr) ?_ (by decide) (by decide)
  show QG Z pa pb h0 n0 _ T1.heap _
  rw [e3]
  exact ⟨rfl, N0, rfl⟩
def QU (Z : State) (pa : Addr) (h0 : Heap) (n0 : Nat) (v : Option Value) (h : Heap) (L : List Loc) : Prop := v = none ∧ Fr n0 L ∧ h = h0
theorem dU_0 : decode jdk_18_method_1_code 0 = .ok (.aload_n 0, 1) := by decide +kernel
theorem dU_1 : decode jdk_18_method_1_code 1 = .ok (.invokespecial 1, 3) := by decide +kernel
theorem dU_4 : decode jdk_18_method_1_code 4 = .ok (.return_, 1) := by decide +kernel
theorem pnU : plainName "java/lang/Number" = true := by first | (simp [plainName, overriddenIn]; done) | decide +kernel
theorem pdU : parseMethodDescriptor "()V" = some ⟨[], none⟩ := by decide +kernel
set_option maxRecDepth 65536 in
set_option maxHeartbeats 40000000 in
theorem rmU (l : Launch) (Z : State) (a0 : Array Value) (hw : ∀ d ∈ tables_1, d.before a0 Z = true) (ws : List Jvm.Cond) (pa : Addr) (h0 : Heap) (n0 : Nat) (Z0 : n0 ≤ h0.size)  :
    MetFree l (⟨"java/lang/Number", "<init>", "()V"⟩ : MethodName) (head1 (Jvm.Cond.code (⟨"java/lang/Number", "<init>", "()V"⟩ : MethodName) jdk_18_method_1_code 1 none :: ws) ({ frames := 1, cells := 0, slots := 0, locals := 12 } : Room)) (fun aa U => aa = #[(.ref pa)] ∧ Z.Warmed39 U.vm ∧ U.heap = h0) (fun _ _ _ _ _ => True) (fun _ U o U' => ∃ v L, o = .returned v ∧ QU Z pa h0 n0 v U'.heap L ∧ FrameEnd U o U' L ({ frames := 1, cells := 0, slots := 0, locals := 12 } : Room).cells ({ frames := 1, cells := 0, slots := 0, locals := 12 } : Room).slots) := by
  refine MetFree.of_bodySF (plainFor_of_name pnU) hisR ?_
  intro p e s m args below meth c s₁ Bd hml0 hP hK
  obtain ⟨rfl, hZ, hh⟩ := hP
  have hx := Bd.exec
  have hby := Bd.bytes
  have hlk : meth.locks = false := BodyLoose.notSynchronized Bd
  have hml : c.maxLocals = 1 := hml0
  have hown : s.vm.findClass "java/lang/Number" = some m.cls := findClass_of_methodNamed Bd.named
  have hnm := (name_of_methodNamed Bd.named Bd.method).1
  have X0 : Stand p l e ({ frames := 1, cells := 0, slots := 0, locals := 12 } : Room) s m #[(.ref pa)] below meth c s₁ [] 0 0 := Stand.of_body Bd
  have e0 : s₁.heap = h0 := by rw [← hh, Bd.state]; rfl
  have N0 := Fr.nil n0
  have ef : entryFrame m #[(.ref pa)] 1 = mkF m 0 #[rv pa] [] := by first | (simp [entryFrame, mkF, argsToLocals, Value.category, maxLocals]; done) | rfl
  show Way p.tables e below (KQ s (QU Z pa h0 n0) ({ frames := 1, cells := 0, slots := 0, locals := 12 } : Room).cells ({ frames := 1, cells := 0, slots := 0, locals := 12 } : Room).slots) (s₁.setTop (entryFrame m #[(.ref pa)] 1))
  rw [ef]
  refine Way.by (fun _ k => XS.aloadN X0.here hx rfl (hb hby dU_0) rfl rfl k) ?_
  show Way _ _ _ _ (s₁.setTop (mkF m 1 #[rv pa] [(.ref pa)]))
  obtain ⟨T1, X2, e3, st4⟩ := initO X0 hx hZ hown (tw hw 41 rfl) (tw hw 7 rfl) (tw hw 8 rfl) e0 (g := (mkF m 1 #[rv pa] [(.ref pa)])) rfl (by rw [hml]; rfl) rfl (hb hby dU_1) (by decide) (W := 0) (leW rfl) (by decide)
  refine Way.by st4 ?_
  show Way _ _ _ _ (T1.setTop (mkF m 4 #[rv pa] []))
  refine Way.ret (v := none) X2 hlk (fun _ => rfl) (fun fs hr => X2.returnOut hx Bd.returns (hb hby dU_4) hr) ?_ (by decide) (by decide)
  show QU Z pa h0 n0 _ T1.heap _
  rw [e3]
  exact ⟨rfl, N0, rfl⟩
def QL (Z : State) (pa : Addr) (pz : Int64) (h0 : Heap) (n0 : Nat) (v : Option Value) (h : Heap) (L : List Loc) : Prop := v = none ∧ Fr n0 L ∧ Keep h0 h [pa] ∧ Exa Z h pa "java/lang/Long" ∧ Fld Z h pa "java/lang/Long" "value" "J" (.long pz)
theorem dL_0 : decode jdk_35_method_26_code 0 = .ok (.aload_n 0, 1) := by decide +kernel
theorem dL_1 : decode jdk_35_method_26_code 1 = .ok (.invokespecial 270, 3) := by decide +kernel
theorem dL_4 : decode jdk_35_method_26_code 4 = .ok (.aload_n 0, 1) := by decide +kernel
theorem dL_5 : decode jdk_35_method_26_code 5 = .ok (.lload_n 1, 1) := by decide +kernel
theorem dL_6 : decode jdk_35_method_26_code 6 = .ok (.putfield 273, 3) := by decide +kernel
theorem dL_9 : decode jdk_35_method_26_code 9 = .ok (.return_, 1) := by decide +kernel
theorem pnL : plainName "java/lang/Long" = true := by first | (simp [plainName, overriddenIn]; done) | decide +kernel
theorem pdL : parseMethodDescriptor "(J)V" = some ⟨[.long], none⟩ := by decide +kernel
set_option maxRecDepth 65536 in
set_option maxHeartbeats 40000000 in
theorem rmL (l : Launch) (Z : State) (a0 : Array Value) (hw : ∀ d ∈ tables_1, d.before a0 Z = true) (ws : List Jvm.Cond) (pa : Addr) (pz : Int64) (h0 : Heap) (n0 : Nat) (Z0 : n0 ≤ h0.size) (H0 : Exa Z h0 pa "java/lang/Long") (H1 : Fld Z h0 pa "java/lang/Long" "value" "J" (.long (0 : Int64))) (nw_pa : n0 ≤ pa) :
    MetFree l (⟨"java/lang/Long", "<init>", "(J)V"⟩ : MethodName) (head1 (Jvm.Cond.code (⟨"java/lang/Long", "<init>", "(J)V"⟩ : MethodName) jdk_35_method_26_code 3 none :: ws) ({ frames := 2, cells := 0, slots := 0, locals := 24 } : Room)) (fun aa U => aa = #[(.ref pa), (.long pz)] ∧ Z.Warmed39 U.vm ∧ U.heap = h0) (fun _ _ _ _ _ => True) (fun _ U o U' => ∃ v L, o = .returned v ∧ QL Z pa pz h0 n0 v U'.heap L ∧ FrameEnd U o U' L ({ frames := 2, cells := 0, slots := 0, locals := 24 } : Room).cells ({ frames := 2, cells := 0, slots := 0, locals := 24 } : Room).slots) := by
  refine MetFree.of_bodySF (plainFor_of_name pnL) hisR ?_
  intro p e s m args below meth c s₁ Bd hml0 hP hK
  obtain ⟨rfl, hZ, hh⟩ := hP
  have hx := Bd.exec
  have hby := Bd.bytes
  have hlk : meth.locks = false := BodyLoose.notSynchronized Bd
  have hml : c.maxLocals = 3 := hml0
  have hown : s.vm.findClass "java/lang/Long" = some m.cls := findClass_of_methodNamed Bd.named
  have hnm := (name_of_methodNamed Bd.named Bd.method).1
  have X0 : Stand p l e ({ frames := 2, cells := 0, slots := 0, locals := 24 } : Room) s m #[(.ref pa), (.long pz)] below meth c s₁ [] 0 0 := Stand.of_body Bd
  have e0 : s₁.heap = h0 := by rw [← hh, Bd.state]; rfl
  have N0 := Fr.nil n0
  have ef : entryFrame m #[(.ref pa), (.long pz)] 3 = mkF m 0 #[rv pa, .val (.long pz), .second] [] := by first | (simp [entryFrame, mkF, argsToLocals, Value.category, maxLocals]; done) | rfl
  show Way p.tables e below (KQ s (QL Z pa pz h0 n0) ({ frames := 2, cells := 0, slots := 0, locals := 24 } : Room).cells ({ frames := 2, cells := 0, slots := 0, locals := 24 } : Room).slots) (s₁.setTop (entryFrame m #[(.ref pa), (.long pz)] 3))
  rw [ef]
  refine Way.by (fun _ k => XS.aloadN X0.here hx rfl (hb hby dL_0) rfl rfl k) ?_
  show Way _ _ _ _ (s₁.setTop (mkF m 1 #[rv pa, .val (.long pz), .second] [(.ref pa)]))
  obtain ⟨_, _, ⟨T1, L3, k4, n5⟩, -, X2, ⟨Lc6, hQ7, l8, y9, z10⟩, st11⟩ := X0.specialBack hx (y := (⟨"java/lang/Number", "<init>", "()V"⟩ : MethodName)) rfl hown (mvT hZ (tw hw 35 rfl)) (mvT hZ (tw hw 36 rfl)) (mvT hZ (tw hw 40 rfl)) (by decide) (backOf (W := 0) (rmU l Z a0 hw [] pa h0 n0 Z0 ) hZ (tw hw 40 rfl) (tw hw 39 rfl) (by decide) (by decide)) (g := (mkF m 1 #[rv pa, .val (.long pz), .second] [(.ref pa)])) rfl (by rw [hml]; rfl) (Steps.refl _) (a := pa) (argsL := []) (rest := []) (lenOf pdU rfl) rfl (leW rfl) (hb hby dL_1) (fun _ _ => ⟨rfl, e0, (leB rfl), (leB rfl)⟩)
  dsimp only [Pt.U, Pt.locs, Pt.cells, Pt.slots] at X2 l8 y9 z10 st11 hQ7
  subst l8 y9 z10
  obtain ⟨rfl, N17, e13⟩ := hQ7
  have N12 := Fr.app N0 N17
  refine Way.to st11 ?_
  show Way _ _ _ _ (T1.setTop (mkF m 4 #[rv pa, .val (.long pz), .second] []))
  refine Way.by (fun _ k => XS.aloadN X2.here hx rfl (hb hby dL_4) rfl rfl k) ?_
  show Way _ _ _ _ (T1.setTop (mkF m 5 #[rv pa, .val (.long pz), .second] [(.ref pa)]))
  refine Way.by (fun _ k => XT.lloadN X2.here hx rfl (hb hby dL_5) rfl k) ?_
  show Way _ _ _ _ (T1.setTop (mkF m 6 #[rv pa, .val (.long pz), .second] [(.long pz), (.ref pa)]))
  obtain ⟨T19, h20, X21, e22, W23, st24⟩ := putF X2 hx hZ hown (host := "") (Or.inl (tw hw 42 rfl)) Via.refl e13 H1 H0 (Or.inr ⟨(tw hw 43 rfl), rfl, hnm⟩) (tw hw 30 rfl) (ty := .long) (by decide) rfl rfl (g := (mkF m 6 #[rv pa, .val (.long pz), .second] [(.long pz), (.ref pa)])) rfl rfl (hb hby dL_6)
  have N25 := Fr.snoc X21 N12 nw_pa
  have E26 := Exa.wr W23 H0
  have F27 : Fld Z h20 pa "java/lang/Long" "value" "J" (.long pz) := H1.same W23
  have Z28 : n0 ≤ h20.size := by rw [W23.size]; exact Z0
  have K29 := (Keep.refl h0 [pa]).wr W23 (Or.inl (List.mem_of_getElem? (i := 0) rfl))
  have hz30 : h0.size ≤ h20.size := by rw [W23.size]; exact (Nat.le_refl h0.size)
  refine Way.by st24 ?_
  show Way _ _ _ _ (T19.setTop (mkF m 9 #[rv pa, .val (.long pz), .second] []))
  refine Way.ret (v := none) X21 hlk (fun _ => rfl) (fun fs hr => X21.returnOut hx Bd.returns (hb hby dL_9) hr) ?_ (by decide) (by decide)
  show QL Z pa pz h0 n0 _ T19.heap _
  rw [e22]
  exact ⟨rfl, N25, K29, E26, F27⟩
def QV (Z : State) (pz : Int64) (ca : Addr) (cc : Cell) (h0 : Heap) (n0 : Nat) (v : Option Value) (h : Heap) (L : List Loc) : Prop := ∃ (bx : Addr), v = some (.ref bx) ∧ Fr n0 L ∧ Keep h0 h [] ∧ Exa Z h bx "java/lang/Long"
theorem dV_0 : decode jdk_35_method_24_code 0 = .ok (.sipush 128, 3) := by decide +kernel
theorem dV_3 : decode jdk_35_method_24_code 3 = .ok (.istore_n 2, 1) := by decide +kernel
theorem dV_4 : decode jdk_35_method_24_code 4 = .ok (.lload_n 0, 1) := by decide +kernel
theorem dV_5 : decode jdk_35_method_24_code 5 = .ok (.ldc2_w 230, 3) := by decide +kernel
theorem dV_8 : decode jdk_35_method_24_code 8 = .ok (.lcmp, 1) := by decide +kernel
theorem dV_9 : decode jdk_35_method_24_code 9 = .ok (.ifCond .lt 22, 3) := by decide +kernel
theorem dV_12 : decode jdk_35_method_24_code 12 = .ok (.lload_n 0, 1) := by decide +kernel
theorem dV_13 : decode jdk_35_method_24_code 13 = .ok (.ldc2_w 232, 3) := by decide +kernel
theorem dV_16 : decode jdk_35_method_24_code 16 = .ok (.lcmp, 1) := by decide +kernel
theorem dV_17 : decode jdk_35_method_24_code 17 = .ok (.ifCond .gt 14, 3) := by decide +kernel
theorem dV_20 : decode jdk_35_method_24_code 20 = .ok (.getstatic 234, 3) := by decide +kernel
theorem dV_23 : decode jdk_35_method_24_code 23 = .ok (.lload_n 0, 1) := by decide +kernel
theorem dV_24 : decode jdk_35_method_24_code 24 = .ok (.l2i, 1) := by decide +kernel
theorem dV_25 : decode jdk_35_method_24_code 25 = .ok (.sipush 128, 3) := by decide +kernel
theorem dV_28 : decode jdk_35_method_24_code 28 = .ok (.iadd, 1) := by decide +kernel
theorem dV_29 : decode jdk_35_method_24_code 29 = .ok (.aaload, 1) := by decide +kernel
theorem dV_30 : decode jdk_35_method_24_code 30 = .ok (.areturn, 1) := by decide +kernel
theorem dV_31 : decode jdk_35_method_24_code 31 = .ok (.new 1, 3) := by decide +kernel
theorem dV_34 : decode jdk_35_method_24_code 34 = .ok (.dup, 1) := by decide +kernel
theorem dV_35 : decode jdk_35_method_24_code 35 = .ok (.lload_n 0, 1) := by decide +kernel
theorem dV_36 : decode jdk_35_method_24_code 36 = .ok (.invokespecial 240, 3) := by decide +kernel
theorem dV_39 : decode jdk_35_method_24_code 39 = .ok (.areturn, 1) := by decide +kernel
theorem pdV : parseMethodDescriptor "(J)Ljava/lang/Long;" = some ⟨[.long], some (.object "java/lang/Long")⟩ := by decide +kernel
set_option maxRecDepth 65536 in
set_option maxHeartbeats 40000000 in
theorem rmV (l : Launch) (Z : State) (a0 : Array Value) (hw : ∀ d ∈ tables_1, d.before a0 Z = true) (ws : List Jvm.Cond) (pz : Int64) (ca : Addr) (cc : Cell) (h0 : Heap) (n0 : Nat) (Z0 : n0 ≤ h0.size) (O0 : Old Z n0 h0) (CS : Sta Z Z.heap "java/lang/Long$LongCache" "cache" "[Ljava/lang/Long;" (.ref ca)) (CA : Arr Z Z.heap ca cc (.object "java/lang/Long")) (CN : cc.slots.size = 256) (CE : ∀ i : Nat, i < 256 → ∃ b, cc.slots[i]? = some (.ref b) ∧ Exa Z Z.heap b "java/lang/Long") :
    MetFree l (⟨"java/lang/Long", "valueOf", "(J)Ljava/lang/Long;"⟩ : MethodName) (head1 (Jvm.Cond.code (⟨"java/lang/Long", "valueOf", "(J)Ljava/lang/Long;"⟩ : MethodName) jdk_35_method_24_code 3 (some (.object "java/lang/Long")) :: ws) ({ frames := 3, cells := 1, slots := 1, locals := 39 } : Room)) (fun aa U => aa = #[(.long pz)] ∧ Z.Warmed39 U.vm ∧ U.heap = h0) (fun _ _ _ _ _ => True) (fun _ U o U' => ∃ v L, o = .returned v ∧ QV Z pz ca cc h0 n0 v U'.heap L ∧ FrameEnd U o U' L ({ frames := 3, cells := 1, slots := 1, locals := 39 } : Room).cells ({ frames := 3, cells := 1, slots := 1, locals := 39 } : Room).slots) := by
  refine MetFree.of_bodySF (plainFor_of_name pnL) hisR ?_
  intro p e s m args below meth c s₁ Bd hml0 hP hK
  obtain ⟨rfl, hZ, hh⟩ := hP
  have hx := Bd.exec
  have hby := Bd.bytes
  have hlk : meth.locks = false := BodyLoose.notSynchronized Bd
  have hml : c.maxLocals = 3 := hml0
  have hown : s.vm.findClass "java/lang/Long" = some m.cls := findClass_of_methodNamed Bd.named
  have hnm := (name_of_methodNamed Bd.named Bd.method).1
  have X0 : Stand p l e ({ frames := 3, cells := 1, slots := 1, locals := 39 } : Room) s m #[(.long pz)] below meth c s₁ [] 0 0 := Stand.of_body Bd
  have e0 : s₁.heap = h0 := by rw [← hh, Bd.state]; rfl
  have N0 := Fr.nil n0
  have ef : entryFrame m #[(.long pz)] 3 = mkF m 0 #[.val (.long pz), .second, .unset] [] := by first | (simp [entryFrame, mkF, argsToLocals, Value.category, maxLocals]; done) | rfl
  show Way p.tables e below (KQ s (QV Z pz ca cc h0 n0) ({ frames := 3, cells := 1, slots := 1, locals := 39 } : Room).cells ({ frames := 3, cells := 1, slots := 1, locals := 39 } : Room).slots) (s₁.setTop (entryFrame m #[(.long pz)] 3))
  rw [ef]
  refine Way.by (fun _ k => XS.sipush X0.here hx rfl (hb hby dV_0) k) ?_
  show Way _ _ _ _ (s₁.setTop (mkF m 3 #[.val (.long pz), .second, .unset] [(.int 128)]))
  refine Way.by (fun _ k => XS.istoreN X0.here hx rfl (hb hby dV_3) rfl (l' := #[.val (.long pz), .second, iv 128]) rfl k) ?_
  show Way _ _ _ _ (s₁.setTop (mkF m 4 #[.val (.long pz), .second, iv 128] []))
  refine Way.by (fun _ k => XT.lloadN X0.here hx rfl (hb hby dV_4) rfl k) ?_
  show Way _ _ _ _ (s₁.setTop (mkF m 5 #[.val (.long pz), .second, iv 128] [(.long pz)]))
  refine Way.by (Stand.ldc2Long X0 hx hown (mvT hZ (tw hw 28 rfl)) rfl (hb hby dV_5)) ?_
  show Way _ _ _ _ (s₁.setTop (mkF m 8 #[.val (.long pz), .second, iv 128] [(.long (-128 : Int64)), (.long pz)]))
  refine Way.by (fun _ k => XT.lcmp X0.here hx rfl (hb hby dV_8) rfl k) ?_
  show Way _ _ _ _ (s₁.setTop (mkF m 9 #[.val (.long pz), .second, iv 128] [(.int (XT.cmpL pz (-128 : Int64)))]))
  by_cases hq9 : (XT.cmpL pz (-128 : Int64)) < (0 : Int32)
  · skip
    refine Way.by (fun _ k => XS.ifYes X0.here hx rfl (pc0 := 9) (pc' := 31) rfl (hb hby dV_9) rfl ((if0 .lt _).trans (tlt hq9).1) (by decide) (by decide) k) ?_
    show Way _ _ _ _ (s₁.setTop (mkF m 31 #[.val (.long pz), .second, iv 128] []))
    obtain ⟨T1, h2, X3, e4, E5, A6, D7, -, st8⟩ := newO X0 hx hZ hown (tw hw 29 rfl) (tw hw 30 rfl) (tw hw 26 rfl) e0 (g := (mkF m 31 #[.val (.long pz), .second, iv 128] [])) rfl (hb hby dV_31) (by decide) (by decide)
    obtain ⟨a9, g10⟩ : ∃ z, z = h0.size := ⟨_, rfl⟩
    rw [← g10] at A6 D7 st8
    have nw11 : n0 ≤ a9 := Nat.le_trans Z0 (Nat.le_of_eq g10.symm)
    have hk12 : h0.size ≤ a9 := Nat.le_trans (Nat.le_refl h0.size) (Nat.le_of_eq g10.symm)
    have Z13 := Nat.le_trans Z0 E5.1
    have O14 := O0.ext E5
    have K15 := (Keep.refl h0 []).ext E5
    have hz16 := Nat.le_trans (Nat.le_refl h0.size) E5.1
    have F17 : Fld Z h2 a9 "java/lang/Long" "value" "J" (.long (0 : Int64)) := D7 (Or.inr (tw hw 43 rfl)) (ty := .long) (by decide)
    refine Way.by st8 ?_
    show Way _ _ _ _ (T1.setTop (mkF m 34 #[.val (.long pz), .second, iv 128] [(.ref a9)]))
    refine Way.by (fun _ k => XS.dup X3.here hx rfl (hb hby dV_34) rfl rfl k) ?_
    show Way _ _ _ _ (T1.setTop (mkF m 35 #[.val (.long pz), .second, iv 128] [(.ref a9), (.ref a9)]))
    refine Way.by (fun _ k => XT.lloadN X3.here hx rfl (hb hby dV_35) rfl k) ?_
    show Way _ _ _ _ (T1.setTop (mkF m 36 #[.val (.long pz), .second, iv 128] [(.long pz), (.ref a9), (.ref a9)]))
    obtain ⟨_, _, ⟨T18, L20, k21, n22⟩, -, X19, ⟨Lc23, hQ24, l25, y26, z27⟩, st28⟩ := X3.specialBack hx (y := (⟨"java/lang/Long", "<init>", "(J)V"⟩ : MethodName)) rfl hown (mvT hZ (tw hw 31 rfl)) (mvT hZ (tw hw 32 rfl)) (mvT hZ (tw hw 34 rfl)) (by decide) (backOf (W := 1) (rmL l Z a0 hw [] a9 pz h2 n0 Z13 A6 F17 nw11) hZ (tw hw 34 rfl) (tw hw 26 rfl) (by decide) (by decide)) (g := (mkF m 36 #[.val (.long pz), .second, iv 128] [(.long pz), (.ref a9), (.ref a9)])) rfl (by rw [hml]; rfl) (Steps.refl _) (a := a9) (argsL := [(.long pz)]) (rest := [(.ref a9)]) (lenOf pdL rfl) rfl (leW rfl) (hb hby dV_36) (fun _ _ => ⟨rfl, e4, (leB rfl), (leB rfl)⟩)
    dsimp only [Pt.U, Pt.locs, Pt.cells, Pt.slots] at X19 l25 y26 z27 st28 hQ24
    subst l25 y26 z27
    obtain ⟨rfl, N34, K35, F_036, F_137⟩ := hQ24
    have N29 := Fr.app N0 N34
    have E38 := A6.keep K35
    have Z39 := Nat.le_trans Z13 K35.1
    have O40 := O14.keep K35 (allS nw11 all0)
    have K41 := K15.trans K35 (allS (Or.inr hk12) all0)
    have hz42 := Nat.le_trans hz16 K35.1
    refine Way.to st28 ?_
    show Way _ _ _ _ (T18.setTop (mkF m 39 #[.val (.long pz), .second, iv 128] [(.ref a9)]))
    refine Way.ret (v := (some (.ref a9))) X19 hlk (fun h => by rw [Bd.returns] at h; cases h) (fun fs hr => retOut X19 hx Bd.returns rfl (Or.inr (Or.inr (Or.inr (Or.inr ⟨rfl, rfl, rfl⟩)))) (hb hby dV_39) hr) ?_ (by decide) (by decide)
    show QV Z pz ca cc h0 n0 _ T18.heap _
    skip
    exact ⟨a9, rfl, N29, K41, F_036⟩
  · skip
    refine Way.by (fun _ k => XS.ifNo X0.here hx rfl (hb hby dV_9) rfl ((if0 .lt _).trans (flt hq9).1) k) ?_
    show Way _ _ _ _ (s₁.setTop (mkF m 12 #[.val (.long pz), .second, iv 128] []))
    refine Way.by (fun _ k => XT.lloadN X0.here hx rfl (hb hby dV_12) rfl k) ?_
    show Way _ _ _ _ (s₁.setTop (mkF m 13 #[.val (.long pz), .second, iv 128] [(.long pz)]))
    refine Way.by (Stand.ldc2Long X0 hx hown (mvT hZ (tw hw 47 rfl)) rfl (hb hby dV_13)) ?_
    show Way _ _ _ _ (s₁.setTop (mkF m 16 #[.val (.long pz), .second, iv 128] [(.long (127 : Int64)), (.long pz)]))
    refine Way.by (fun _ k => XT.lcmp X0.here hx rfl (hb hby dV_16) rfl k) ?_
    show Way _ _ _ _ (s₁.setTop (mkF m 17 #[.val (.long pz), .second, iv 128] [(.int (XT.cmpL pz (127 : Int64)))]))
    by_cases hq17 : (0 : Int32) < (XT.cmpL pz (127 : Int64))
    · skip
      refine Way.by (fun _ k => XS.ifYes X0.here hx rfl (pc0 := 17) (pc' := 31) rfl (hb hby dV_17) rfl ((if0 .gt _).trans (tlt hq17).2.2.1) (by decide) (by decide) k) ?_
      show Way _ _ _ _ (s₁.setTop (mkF m 31 #[.val (.long pz), .second, iv 128] []))
      obtain ⟨T43, h44, X45, e46, E47, A48, D49, -, st50⟩ := newO X0 hx hZ hown (tw hw 29 rfl) (tw hw 30 rfl) (tw hw 26 rfl) e0 (g := (mkF m 31 #[.val (.long pz), .second, iv 128] [])) rfl (hb hby dV_31) (by decide) (by decide)
      obtain ⟨a51, g52⟩ : ∃ z, z = h0.size := ⟨_, rfl⟩
      rw [← g52] at A48 D49 st50
      have nw53 : n0 ≤ a51 := Nat.le_trans Z0 (Nat.le_of_eq g52.symm)
      have hk54 : h0.size ≤ a51 := Nat.le_trans (Nat.le_refl h0.size) (Nat.le_of_eq g52.symm)
      have Z55 := Nat.le_trans Z0 E47.1
      have O56 := O0.ext E47
      have K57 := (Keep.refl h0 []).ext E47
      have hz58 := Nat.le_trans (Nat.le_refl h0.size) E47.1
      have F59 : Fld Z h44 a51 "java/lang/Long" "value" "J" (.long (0 : Int64)) := D49 (Or.inr (tw hw 43 rfl)) (ty := .long) (by decide)
      refine Way.by st50 ?_
      show Way _ _ _ _ (T43.setTop (mkF m 34 #[.val (.long pz), .second, iv 128] [(.ref a51)]))
      refine Way.by (fun _ k => XS.dup X45.here hx rfl (hb hby dV_34) rfl rfl k) ?_
      show Way _ _ _ _ (T43.setTop (mkF m 35 #[.val (.long pz), .second, iv 128] [(.ref a51), (.ref a51)]))
      refine Way.by (fun _ k => XT.lloadN X45.here hx rfl (hb hby dV_35) rfl k) ?_
      show Way _ _ _ _ (T43.setTop (mkF m 36 #[.val (.long pz), .second, iv 128] [(.long pz), (.ref a51), (.ref a51)]))
      obtain ⟨_, _, ⟨T60, L62, k63, n64⟩, -, X61, ⟨Lc65, hQ66, l67, y68, z69⟩, st70⟩ := X45.specialBack hx (y := (⟨"java/lang/Long", "<init>", "(J)V"⟩ : MethodName)) rfl hown (mvT hZ (tw hw 31 rfl)) (mvT hZ (tw hw 32 rfl)) (mvT hZ (tw hw 34 rfl)) (by decide) (backOf (W := 1) (rmL l Z a0 hw [] a51 pz h44 n0 Z55 A48 F59 nw53) hZ (tw hw 34 rfl) (tw hw 26 rfl) (by decide) (by decide)) (g := (mkF m 36 #[.val (.long pz), .second, iv 128] [(.long pz), (.ref a51), (.ref a51)])) rfl (by rw [hml]; rfl) (Steps.refl _) (a := a51) (argsL := [(.long pz)]) (rest := [(.ref a51)]) (lenOf pdL rfl) rfl (leW rfl) (hb hby dV_36) (fun _ _ => ⟨rfl, e46, (leB rfl), (leB rfl)⟩)
      dsimp only [Pt.U, Pt.locs, Pt.cells, Pt.slots] at X61 l67 y68 z69 st70 hQ66
      subst l67 y68 z69
      obtain ⟨rfl, N76, K77, F_078, F_179⟩ := hQ66
      have N71 := Fr.app N0 N76
      have E80 := A48.keep K77
      have Z81 := Nat.le_trans Z55 K77.1
      have O82 := O56.keep K77 (allS nw53 all0)
      have K83 := K57.trans K77 (allS (Or.inr hk54) all0)
      have hz84 := Nat.le_trans hz58 K77.1
      refine Way.to st70 ?_
      show Way _ _ _ _ (T60.setTop (mkF m 39 #[.val (.long pz), .second, iv 128] [(.ref a51)]))
      refine Way.ret (v := (some (.ref a51))) X61 hlk (fun h => by rw [Bd.returns] at h; cases h) (fun fs hr => retOut X61 hx Bd.returns rfl (Or.inr (Or.inr (Or.inr (Or.inr ⟨rfl, rfl, rfl⟩)))) (hb hby dV_39) hr) ?_ (by decide) (by decide)
      show QV Z pz ca cc h0 n0 _ T60.heap _
      skip
      exact ⟨a51, rfl, N71, K83, F_078⟩
    · skip
      refine Way.by (fun _ k => XS.ifNo X0.here hx rfl (hb hby dV_17) rfl ((if0 .gt _).trans (flt hq17).2.2.1) k) ?_
      show Way _ _ _ _ (s₁.setTop (mkF m 20 #[.val (.long pz), .second, iv 128] []))
      obtain ⟨T85, X86, e87, st88⟩ := getS X0 hx hZ hown (host := "") (tw hw 48 rfl) Via.refl e0 (Sta.ext O0.2 CS) (g := (mkF m 20 #[.val (.long pz), .second, iv 128] [])) rfl (hb hby dV_20)
      refine Way.by st88 ?_
      show Way _ _ _ _ (T85.setTop (mkF m 23 #[.val (.long pz), .second, iv 128] [(.ref ca)]))
      refine Way.by (fun _ k => XT.lloadN X86.here hx rfl (hb hby dV_23) rfl k) ?_
      show Way _ _ _ _ (T85.setTop (mkF m 24 #[.val (.long pz), .second, iv 128] [(.long pz), (.ref ca)]))
      refine Way.by (fun _ k => XT.l2i X86.here hx rfl (hb hby dV_24) rfl k) ?_
      show Way _ _ _ _ (T85.setTop (mkF m 25 #[.val (.long pz), .second, iv 128] [(.int pz.toInt32), (.ref ca)]))
      refine Way.by (fun _ k => XS.sipush X86.here hx rfl (hb hby dV_25) k) ?_
      show Way _ _ _ _ (T85.setTop (mkF m 28 #[.val (.long pz), .second, iv 128] [(.int 128), (.int pz.toInt32), (.ref ca)]))
      refine Way.by (fun _ k => XS.iadd X86.here hx rfl (hb hby dV_28) rfl k) ?_
      show Way _ _ _ _ (T85.setTop (mkF m 29 #[.val (.long pz), .second, iv 128] [(.int (pz.toInt32 + (128 : Int32))), (.ref ca)]))
      have hlo : ¬ pz < -128 := fun q => hq9 ((cmpLlt _ _).mpr q)
      have hhi : ¬ pz > 127 := fun q => hq17 ((cmpLgt _ _).mpr q)
      obtain ⟨hin, hlt⟩ := Jvm.Free.LongBox.place_okL pz hlo hhi
      obtain ⟨b, hb1, EB⟩ := CE _ hlt
      have EB := Exa.ext O0.2 EB
      have CA2 := Arr.ext O0.2 CA
      refine Way.by (fun t k => Stand.aaload X86 hx (hpE e87 CA2.1) (arrS hZ CA2) rfl CA2.2.2 (by rw [CN]; exact hin) hb1 (g := (mkF m 29 #[.val (.long pz), .second, iv 128] [(.int (pz.toInt32 + (128 : Int32))), (.ref ca)])) rfl rfl (hb hby dV_29) t k) ?_
      show Way _ _ _ _ (T85.setTop (mkF m 30 #[.val (.long pz), .second, iv 128] [(.ref b)]))
      refine Way.ret (v := (some (.ref b))) X86 hlk (fun h => by rw [Bd.returns] at h; cases h) (fun fs hr => retOut X86 hx Bd.returns rfl (Or.inr (Or.inr (Or.inr (Or.inr ⟨rfl, rfl, rfl⟩)))) (hb hby dV_30) hr) ?_ (by decide) (by decide)
      show QV Z pz ca cc h0 n0 _ T85.heap _
      rw [e87]
      exact ⟨b, rfl, N0, (Keep.refl h0 []), EB⟩
def Q0 (n0 : Nat) (v : Option Value) (h : Heap) (L : List Loc) : Prop := v = some (.int 1) ∧ Fr n0 L
theorem pn0 : plainName "com/example/outbox/outbox/QueueCountsEqualsPinLaw" = true := by first | (simp [plainName, overriddenIn]; done) | decide +kernel
theorem pd0 : parseMethodDescriptor "(JJJJIJ)Z" = some ⟨[.long, .long, .long, .long, .int, .long], some .boolean⟩ := by decide +kernel
set_option maxRecDepth 65536 in
set_option maxHeartbeats 40000000 in
theorem rm0 (l : Launch) (Z : State) (a0 : Array Value) (hw : ∀ d ∈ tables_1, d.before a0 Z = true) (ws : List Jvm.Cond) (r i d xq : Int64) (sel : Int32) (dl : Int64) (ca : Addr) (cc : Cell) (h0 : Heap) (n0 : Nat) (Z0 : n0 ≤ h0.size) (O0 : Old Z n0 h0) (CS : Sta Z Z.heap "java/lang/Long$LongCache" "cache" "[Ljava/lang/Long;" (.ref ca)) (CA : Arr Z Z.heap ca cc (.object "java/lang/Long")) (CN : cc.slots.size = 256) (CE : ∀ i : Nat, i < 256 → ∃ b, cc.slots[i]? = some (.ref b) ∧ Exa Z Z.heap b "java/lang/Long") :
    MetFree l x (head1 (Jvm.Cond.code x code maxLocals ret :: ws) room_1) (fun aa U => aa = #[(.long r), (.long i), (.long d), (.long xq), (.int sel), (.long dl)] ∧ Z.Warmed39 U.vm ∧ U.heap = h0) (fun _ _ _ _ _ => True) (fun _ U o U' => ∃ v L, o = .returned v ∧ Q0 n0 v U'.heap L ∧ FrameEnd U o U' L room_1.cells room_1.slots) := by
  refine MetFree.of_bodySF (plainFor_of_name pn0) hisR ?_
  intro p e s m args below meth c s₁ Bd hml0 hP hK
  obtain ⟨rfl, hZ, hh⟩ := hP
  have hx := Bd.exec
  have hby := Bd.bytes
  have hlk : meth.locks = false := BodyLoose.notSynchronized Bd
  have hml : c.maxLocals = 23 := hml0
  have hown : s.vm.findClass "com/example/outbox/outbox/QueueCountsEqualsPinLaw" = some m.cls := findClass_of_methodNamed Bd.named
  have hnm := (name_of_methodNamed Bd.named Bd.method).1
  have X0 : Stand p l e room_1 s m #[(.long r), (.long i), (.long d), (.long xq), (.int sel), (.long dl)] below meth c s₁ [] 0 0 := Stand.of_body Bd
  have e0 : s₁.heap = h0 := by rw [← hh, Bd.state]; rfl
  have N0 := Fr.nil n0
  have ef : entryFrame m #[(.long r), (.long i), (.long d), (.long xq), (.int sel), (.long dl)] maxLocals = mkF m 0 #[.val (.long r), .second, .val (.long i), .second, .val (.long d), .second, .val (.long xq), .second, iv sel, .val (.long dl), .second, .unset, .unset, .unset, .unset, .unset, .unset, .unset, .unset, .unset, .unset, .unset, .unset] [] := by first | (simp [entryFrame, mkF, argsToLocals, Value.category, maxLocals]; done) | rfl
  show Way p.tables e below (KQ s (Q0 n0) room_1.cells room_1.slots) (s₁.setTop (entryFrame m #[(.long r), (.long i), (.long d), (.long xq), (.int sel), (.long dl)] maxLocals))
  rw [ef]
  refine Way.by (fun _ k => XS.iload X0.here hx rfl (hb hby at_0) rfl k) ?_
  show Way _ _ _ _ (s₁.setTop (mkF m 2 #[.val (.long r), .second, .val (.long i), .second, .val (.long d), .second, .val (.long xq), .second, iv sel, .val (.long dl), .second, .unset, .unset, .unset, .unset, .unset, .unset, .unset, .unset, .unset, .unset, .unset, .unset] [(.int sel)]))
  refine Way.by (fun _ k => XS.bipush X0.here hx rfl (hb hby at_2) k) ?_
  show Way _ _ _ _ (s₁.setTop (mkF m 4 #[.val (.long r), .second, .val (.long i), .second, .val (.long d), .second, .val (.long xq), .second, iv sel, .val (.long dl), .second, .unset, .unset, .unset, .unset, .unset, .unset, .unset, .unset, .unset, .unset, .unset, .unset] [(.int 7), (.int sel)]))
  refine Way.by (fun _ k => XS.iand X0.here hx rfl (hb hby at_4) rfl k) ?_
  show Way _ _ _ _ (s₁.setTop (mkF m 5 #[.val (.long r), .second, .val (.long i), .second, .val (.long d), .second, .val (.long xq), .second, iv sel, .val (.long dl), .second, .unset, .unset, .unset, .unset, .unset, .unset, .unset, .unset, .unset, .unset, .unset, .unset] [(.int (sel &&& (7 : Int32)))]))
  refine Way.by (fun _ k => XS.istore X0.here hx rfl (hb hby at_5) rfl (l' := #[.val (.long r), .second, .val (.long i), .second, .val (.long d), .second, .val (.long xq), .second, iv sel, .val (.long dl), .second, iv (sel &&& (7 : Int32)), .unset, .unset, .unset, .unset, .unset, .unset, .unset, .unset, .unset, .unset, .unset]) rfl k) ?_
  show Way _ _ _ _ (s₁.setTop (mkF m 7 #[.val (.long r), .second, .val (.long i), .second, .val (.long d), .second, .val (.long xq), .second, iv sel, .val (.long dl), .second, iv (sel &&& (7 : Int32)), .unset, .unset, .unset, .unset, .unset, .unset, .unset, .unset, .unset, .unset, .unset] []))
  obtain ⟨k, qk⟩ : ∃ z, z = sel &&& (7 : Int32) := ⟨_, rfl⟩
  rw [← qk]
  have hk : 0 ≤ k.toInt ∧ k.toInt < 8 := by rw [qk, c_mask sel 7 3 (by decide) (by decide)]; exact ⟨Int.emod_nonneg _ (by decide), Int.emod_lt_of_pos _ (by decide)⟩
  rcases cases8 hk with rfl | rfl | rfl | rfl | rfl | rfl | rfl | rfl
  · skip
    show Way _ _ _ _ (s₁.setTop (mkF m 7 #[.val (.long r), .second, .val (.long i), .second, .val (.long d), .second, .val (.long xq), .second, iv sel, .val (.long dl), .second, iv 0, .unset, .unset, .unset, .unset, .unset, .unset, .unset, .unset, .unset, .unset, .unset] []))
    by_cases hdl : dl = 0
    · skip
      show Way _ _ _ _ (s₁.setTop (mkF m 7 #[.val (.long r), .second, .val (.long i), .second, .val (.long d), .second, .val (.long xq), .second, iv sel, .val (.long dl), .second, iv 0, .unset, .unset, .unset, .unset, .unset, .unset, .unset, .unset, .unset, .unset, .unset] []))
      obtain ⟨T1, h2, X3, e4, E5, A6, D7, -, st8⟩ := newO X0 hx hZ hown (tw hw 0 rfl) (tw hw 1 rfl) (tw hw 2 rfl) e0 (g := (mkF m 7 #[.val (.long r), .second, .val (.long i), .second, .val (.long d), .second, .val (.long xq), .second, iv sel, .val (.long dl), .second, iv 0, .unset, .unset, .unset, .unset, .unset, .unset, .unset, .unset, .unset, .unset, .unset] [])) rfl (hb hby at_7) (by decide) (by decide)
      obtain ⟨a9, g10⟩ : ∃ z, z = h0.size := ⟨_, rfl⟩
      rw [← g10] at A6 D7 st8
      have nw11 : n0 ≤ a9 := Nat.le_trans Z0 (Nat.le_of_eq g10.symm)
      have Z12 := Nat.le_trans Z0 E5.1
      have O13 := O0.ext E5
      have F14 : Fld Z h2 a9 "com/example/outbox/outbox/QueueCounts" "ready" "J" (.long (0 : Int64)) := D7 (Or.inr (tw hw 10 rfl)) (ty := .long) (by decide)
      have F15 : Fld Z h2 a9 "com/example/outbox/outbox/QueueCounts" "inflight" "J" (.long (0 : Int64)) := D7 (Or.inr (tw hw 12 rfl)) (ty := .long) (by decide)
      have F16 : Fld Z h2 a9 "com/example/outbox/outbox/QueueCounts" "delayed" "J" (.long (0 : Int64)) := D7 (Or.inr (tw hw 14 rfl)) (ty := .long) (by decide)
      have F17 : Fld Z h2 a9 "com/example/outbox/outbox/QueueCounts" "dead" "J" (.long (0 : Int64)) := D7 (Or.inr (tw hw 16 rfl)) (ty := .long) (by decide)
      refine Way.by st8 ?_
      show Way _ _ _ _ (T1.setTop (mkF m 10 #[.val (.long r), .second, .val (.long i), .second, .val (.long d), .second, .val (.long xq), .second, iv sel, .val (.long dl), .second, iv 0, .unset, .unset, .unset, .unset, .unset, .unset, .unset, .unset, .unset, .unset, .unset] [(.ref a9)]))
      refine Way.by (fun _ k => XS.dup X3.here hx rfl (hb hby at_10) rfl rfl k) ?_
      show Way _ _ _ _ (T1.setTop (mkF m 11 #[.val (.long r), .second, .val (.long i), .second, .val (.long d), .second, .val (.long xq), .second, iv sel, .val (.long dl), .second, iv 0, .unset, .unset, .unset, .unset, .unset, .unset, .unset, .unset, .unset, .unset, .unset] [(.ref a9), (.ref a9)]))
      refine Way.by (fun _ k => XT.lloadN X3.here hx rfl (hb hby at_11) rfl k) ?_
      show Way _ _ _ _ (T1.setTop (mkF m 12 #[.val (.long r), .second, .val (.long i), .second, .val (.long d), .second, .val (.long xq), .second, iv sel, .val (.long dl), .second, iv 0, .unset, .unset, .unset, .unset, .unset, .unset, .unset, .unset, .unset, .unset, .unset] [(.long r), (.ref a9), (.ref a9)]))
      refine Way.by (fun _ k => XT.lloadN X3.here hx rfl (hb hby at_12) rfl k) ?_
      show Way _ _ _ _ (T1.setTop (mkF m 13 #[.val (.long r), .second, .val (.long i), .second, .val (.long d), .second, .val (.long xq), .second, iv sel, .val (.long dl), .second, iv 0, .unset, .unset, .unset, .unset, .unset, .unset, .unset, .unset, .unset, .unset, .unset] [(.long i), (.long r), (.ref a9), (.ref a9)]))
      refine Way.by (fun _ k => XT.lload X3.here hx rfl (hb hby at_13) rfl k) ?_
      show Way _ _ _ _ (T1.setTop (mkF m 15 #[.val (.long r), .second, .val (.long i), .second, .val (.long d), .second, .val (.long xq), .second, iv sel, .val (.long dl), .second, iv 0, .unset, .unset, .unset, .unset, .unset, .unset, .unset, .unset, .unset, .unset, .unset] [(.long d), (.long i), (.long r), (.ref a9), (.ref a9)]))
      refine Way.by (fun _ k => XT.lload X3.here hx rfl (hb hby at_15) rfl k) ?_
      show Way _ _ _ _ (T1.setTop (mkF m 17 #[.val (.long r), .second, .val (.long i), .second, .val (.long d), .second, .val (.long xq), .second, iv sel, .val (.long dl), .second, iv 0, .unset, .unset, .unset, .unset, .unset, .unset, .unset, .unset, .unset, .unset, .unset] [(.long xq), (.long d), (.long i), (.long r), (.ref a9), (.ref a9)]))
      obtain ⟨_, _, ⟨T18, L20, k21, n22⟩, -, X19, ⟨Lc23, hQ24, l25, y26, z27⟩, st28⟩ := X3.specialBack hx (y := (⟨"com/example/outbox/outbox/QueueCounts", "<init>", "(JJJJ)V"⟩ : MethodName)) rfl hown (mvT hZ (tw hw 3 rfl)) (mvT hZ (tw hw 4 rfl)) (mvT hZ (tw hw 5 rfl)) (by decide) (backOf (W := 1) (rmC l Z a0 hw [] a9 r i d xq h2 n0 Z12 A6 F14 F15 F16 F17 nw11) hZ (tw hw 5 rfl) (tw hw 2 rfl) (by decide) (by decide)) (g := (mkF m 17 #[.val (.long r), .second, .val (.long i), .second, .val (.long d), .second, .val (.long xq), .second, iv sel, .val (.long dl), .second, iv 0, .unset, .unset, .unset, .unset, .unset, .unset, .unset, .unset, .unset, .unset, .unset] [(.long xq), (.long d), (.long i), (.long r), (.ref a9), (.ref a9)])) rfl (by rw [hml]; rfl) (Steps.refl _) (a := a9) (argsL := [(.long r), (.long i), (.long d), (.long xq)]) (rest := [(.ref a9)]) (lenOf pdC rfl) rfl (leW rfl) (hb hby at_17) (fun _ _ => ⟨rfl, e4, (leB rfl), (leB rfl)⟩)
      dsimp only [Pt.U, Pt.locs, Pt.cells, Pt.slots] at X19 l25 y26 z27 st28 hQ24
      subst l25 y26 z27
      obtain ⟨rfl, N34, K35, F_036, F_137, F_238, F_339, F_440⟩ := hQ24
      have N29 := Fr.app N0 N34
      have E41 := A6.keep K35
      have Z42 := Nat.le_trans Z12 K35.1
      have O43 := O13.keep K35 (allS nw11 all0)
      refine Way.to st28 ?_
      show Way _ _ _ _ (T18.setTop (mkF m 20 #[.val (.long r), .second, .val (.long i), .second, .val (.long d), .second, .val (.long xq), .second, iv sel, .val (.long dl), .second, iv 0, .unset, .unset, .unset, .unset, .unset, .unset, .unset, .unset, .unset, .unset, .unset] [(.ref a9)]))
      refine Way.by (fun _ k => XS.astore X19.here hx rfl (hb hby at_20) rfl rfl (l' := #[.val (.long r), .second, .val (.long i), .second, .val (.long d), .second, .val (.long xq), .second, iv sel, .val (.long dl), .second, iv 0, rv a9, .unset, .unset, .unset, .unset, .unset, .unset, .unset, .unset, .unset, .unset]) rfl k) ?_
      show Way _ _ _ _ (T18.setTop (mkF m 22 #[.val (.long r), .second, .val (.long i), .second, .val (.long d), .second, .val (.long xq), .second, iv sel, .val (.long dl), .second, iv 0, rv a9, .unset, .unset, .unset, .unset, .unset, .unset, .unset, .unset, .unset, .unset] []))
      refine Way.by (fun _ k => XS.iload X19.here hx rfl (hb hby at_22) rfl k) ?_
      show Way _ _ _ _ (T18.setTop (mkF m 24 #[.val (.long r), .second, .val (.long i), .second, .val (.long d), .second, .val (.long xq), .second, iv sel, .val (.long dl), .second, iv 0, rv a9, .unset, .unset, .unset, .unset, .unset, .unset, .unset, .unset, .unset, .unset] [(.int 0)]))
      refine Way.by (fun _ k => XS.iconst X19.here hx rfl (hb hby at_24) k) ?_
      show Way _ _ _ _ (T18.setTop (mkF m 25 #[.val (.long r), .second, .val (.long i), .second, .val (.long d), .second, .val (.long xq), .second, iv sel, .val (.long dl), .second, iv 0, rv a9, .unset, .unset, .unset, .unset, .unset, .unset, .unset, .unset, .unset, .unset] [(.int 5), (.int 0)]))
      have b44 : ¬ (0 : Int32) = (5 : Int32) := by decide
      refine Way.by (fun _ k => XS.icmpYes X19.here hx rfl (pc0 := 25) (pc' := 43) rfl (hb hby at_25) rfl (feq b44).2 (by decide) (by decide) k) ?_
      show Way _ _ _ _ (T18.setTop (mkF m 43 #[.val (.long r), .second, .val (.long i), .second, .val (.long d), .second, .val (.long xq), .second, iv sel, .val (.long dl), .second, iv 0, rv a9, .unset, .unset, .unset, .unset, .unset, .unset, .unset, .unset, .unset, .unset] []))
      refine Way.by (fun _ k => XS.iload X19.here hx rfl (hb hby at_43) rfl k) ?_
      show Way _ _ _ _ (T18.setTop (mkF m 45 #[.val (.long r), .second, .val (.long i), .second, .val (.long d), .second, .val (.long xq), .second, iv sel, .val (.long dl), .second, iv 0, rv a9, .unset, .unset, .unset, .unset, .unset, .unset, .unset, .unset, .unset, .unset] [(.int 0)]))
      refine Way.by (fun _ k => XS.bipush X19.here hx rfl (hb hby at_45) k) ?_
      show Way _ _ _ _ (T18.setTop (mkF m 47 #[.val (.long r), .second, .val (.long i), .second, .val (.long d), .second, .val (.long xq), .second, iv sel, .val (.long dl), .second, iv 0, rv a9, .unset, .unset, .unset, .unset, .unset, .unset, .unset, .unset, .unset, .unset] [(.int 6), (.int 0)]))
      have b45 : ¬ (0 : Int32) = (6 : Int32) := by decide
      refine Way.by (fun _ k => XS.icmpYes X19.here hx rfl (pc0 := 47) (pc' := 68) rfl (hb hby at_47) rfl (feq b45).2 (by decide) (by decide) k) ?_
      show Way _ _ _ _ (T18.setTop (mkF m 68 #[.val (.long r), .second, .val (.long i), .second, .val (.long d), .second, .val (.long xq), .second, iv sel, .val (.long dl), .second, iv 0, rv a9, .unset, .unset, .unset, .unset, .unset, .unset, .unset, .unset, .unset, .unset] []))
      refine Way.by (fun _ k => XS.iload X19.here hx rfl (hb hby at_68) rfl k) ?_
      show Way _ _ _ _ (T18.setTop (mkF m 70 #[.val (.long r), .second, .val (.long i), .second, .val (.long d), .second, .val (.long xq), .second, iv sel, .val (.long dl), .second, iv 0, rv a9, .unset, .unset, .unset, .unset, .unset, .unset, .unset, .unset, .unset, .unset] [(.int 0)]))
      refine Way.by (fun _ k => XS.bipush X19.here hx rfl (hb hby at_70) k) ?_
      show Way _ _ _ _ (T18.setTop (mkF m 72 #[.val (.long r), .second, .val (.long i), .second, .val (.long d), .second, .val (.long xq), .second, iv sel, .val (.long dl), .second, iv 0, rv a9, .unset, .unset, .unset, .unset, .unset, .unset, .unset, .unset, .unset, .unset] [(.int 7), (.int 0)]))
      have b46 : ¬ (0 : Int32) = (7 : Int32) := by decide
      refine Way.by (fun _ k => XS.icmpYes X19.here hx rfl (pc0 := 72) (pc' := 83) rfl (hb hby at_72) rfl (feq b46).2 (by decide) (by decide) k) ?_
      show Way _ _ _ _ (T18.setTop (mkF m 83 #[.val (.long r), .second, .val (.long i), .second, .val (.long d), .second, .val (.long xq), .second, iv sel, .val (.long dl), .second, iv 0, rv a9, .unset, .unset, .unset, .unset, .unset, .unset, .unset, .unset, .unset, .unset] []))
      refine Way.by (fun _ k => XS.iload X19.here hx rfl (hb hby at_83) rfl k) ?_
      show Way _ _ _ _ (T18.setTop (mkF m 85 #[.val (.long r), .second, .val (.long i), .second, .val (.long d), .second, .val (.long xq), .second, iv sel, .val (.long dl), .second, iv 0, rv a9, .unset, .unset, .unset, .unset, .unset, .unset, .unset, .unset, .unset, .unset] [(.int 0)]))
      have b47 : (0 : Int32) = (0 : Int32) := by decide
      refine Way.by (fun _ k => XS.ifNo X19.here hx rfl (hb hby at_85) rfl ((if0 .ne _).trans (teq b47).2) k) ?_
      show Way _ _ _ _ (T18.setTop (mkF m 88 #[.val (.long r), .second, .val (.long i), .second, .val (.long d), .second, .val (.long xq), .second, iv sel, .val (.long dl), .second, iv 0, rv a9, .unset, .unset, .unset, .unset, .unset, .unset, .unset, .unset, .unset, .unset] []))
      refine Way.by (fun _ k => XT.lloadN X19.here hx rfl (hb hby at_88) rfl k) ?_
      show Way _ _ _ _ (T18.setTop (mkF m 89 #[.val (.long r), .second, .val (.long i), .second, .val (.long d), .second, .val (.long xq), .second, iv sel, .val (.long dl), .second, iv 0, rv a9, .unset, .unset, .unset, .unset, .unset, .unset, .unset, .unset, .unset, .unset] [(.long r)]))
      refine Way.by (fun _ k => XT.lload X19.here hx rfl (hb hby at_89) rfl k) ?_
      show Way _ _ _ _ (T18.setTop (mkF m 91 #[.val (.long r), .second, .val (.long i), .second, .val (.long d), .second, .val (.long xq), .second, iv sel, .val (.long dl), .second, iv 0, rv a9, .unset, .unset, .unset, .unset, .unset, .unset, .unset, .unset, .unset, .unset] [(.long dl), (.long r)]))
      refine Way.by (fun _ k => XT.ladd X19.here hx rfl (hb hby at_91) rfl k) ?_
      show Way _ _ _ _ (T18.setTop (mkF m 92 #[.val (.long r), .second, .val (.long i), .second, .val (.long d), .second, .val (.long xq), .second, iv sel, .val (.long dl), .second, iv 0, rv a9, .unset, .unset, .unset, .unset, .unset, .unset, .unset, .unset, .unset, .unset] [(.long (r + dl))]))
      refine Way.by (fun _ k => XS.goto X19.here hx rfl (pc0 := 92) (pc' := 96) rfl (hb hby at_92) (by decide) (by decide) k) ?_
      show Way _ _ _ _ (T18.setTop (mkF m 96 #[.val (.long r), .second, .val (.long i), .second, .val (.long d), .second, .val (.long xq), .second, iv sel, .val (.long dl), .second, iv 0, rv a9, .unset, .unset, .unset, .unset, .unset, .unset, .unset, .unset, .unset, .unset] [(.long (r + dl))]))
      refine Way.by (fun _ k => XT.lstore X19.here hx rfl (hb hby at_96) rfl (l' := #[.val (.long r), .second, .val (.long i), .second, .val (.long d), .second, .val (.long xq), .second, iv sel, .val (.long dl), .second, iv 0, rv a9, .val (.long (r + dl)), .second, .unset, .unset, .unset, .unset, .unset, .unset, .unset, .unset]) rfl k) ?_
      show Way _ _ _ _ (T18.setTop (mkF m 98 #[.val (.long r), .second, .val (.long i), .second, .val (.long d), .second, .val (.long xq), .second, iv sel, .val (.long dl), .second, iv 0, rv a9, .val (.long (r + dl)), .second, .unset, .unset, .unset, .unset, .unset, .unset, .unset, .unset] []))
      refine Way.by (fun _ k => XS.iload X19.here hx rfl (hb hby at_98) rfl k) ?_
      show Way _ _ _ _ (T18.setTop (mkF m 100 #[.val (.long r), .second, .val (.long i), .second, .val (.long d), .second, .val (.long xq), .second, iv sel, .val (.long dl), .second, iv 0, rv a9, .val (.long (r + dl)), .second, .unset, .unset, .unset, .unset, .unset, .unset, .unset, .unset] [(.int 0)]))
      refine Way.by (fun _ k => XS.iconst X19.here hx rfl (hb hby at_100) k) ?_
      show Way _ _ _ _ (T18.setTop (mkF m 101 #[.val (.long r), .second, .val (.long i), .second, .val (.long d), .second, .val (.long xq), .second, iv sel, .val (.long dl), .second, iv 0, rv a9, .val (.long (r + dl)), .second, .unset, .unset, .unset, .unset, .unset, .unset, .unset, .unset] [(.int 1), (.int 0)]))
      have b48 : ¬ (0 : Int32) = (1 : Int32) := by decide
      refine Way.by (fun _ k => XS.icmpYes X19.here hx rfl (pc0 := 101) (pc' := 111) rfl (hb hby at_101) rfl (feq b48).2 (by decide) (by decide) k) ?_
      show Way _ _ _ _ (T18.setTop (mkF m 111 #[.val (.long r), .second, .val (.long i), .second, .val (.long d), .second, .val (.long xq), .second, iv sel, .val (.long dl), .second, iv 0, rv a9, .val (.long (r + dl)), .second, .unset, .unset, .unset, .unset, .unset, .unset, .unset, .unset] []))
      refine Way.by (fun _ k => XT.lloadN X19.here hx rfl (hb hby at_111) rfl k) ?_
      show Way _ _ _ _ (T18.setTop (mkF m 112 #[.val (.long r), .second, .val (.long i), .second, .val (.long d), .second, .val (.long xq), .second, iv sel, .val (.long dl), .second, iv 0, rv a9, .val (.long (r + dl)), .second, .unset, .unset, .unset, .unset, .unset, .unset, .unset, .unset] [(.long i)]))
      refine Way.by (fun _ k => XT.lstore X19.here hx rfl (hb hby at_112) rfl (l' := #[.val (.long r), .second, .val (.long i), .second, .val (.long d), .second, .val (.long xq), .second, iv sel, .val (.long dl), .second, iv 0, rv a9, .val (.long (r + dl)), .second, .val (.long i), .second, .unset, .unset, .unset, .unset, .unset, .unset]) rfl k) ?_
      show Way _ _ _ _ (T18.setTop (mkF m 114 #[.val (.long r), .second, .val (.long i), .second, .val (.long d), .second, .val (.long xq), .second, iv sel, .val (.long dl), .second, iv 0, rv a9, .val (.long (r + dl)), .second, .val (.long i), .second, .unset, .unset, .unset, .unset, .unset, .unset] []))
      refine Way.by (fun _ k => XS.iload X19.here hx rfl (hb hby at_114) rfl k) ?_
      show Way _ _ _ _ (T18.setTop (mkF m 116 #[.val (.long r), .second, .val (.long i), .second, .val (.long d), .second, .val (.long xq), .second, iv sel, .val (.long dl), .second, iv 0, rv a9, .val (.long (r + dl)), .second, .val (.long i), .second, .unset, .unset, .unset, .unset, .unset, .unset] [(.int 0)]))
      refine Way.by (fun _ k => XS.iconst X19.here hx rfl (hb hby at_116) k) ?_
      show Way _ _ _ _ (T18.setTop (mkF m 117 #[.val (.long r), .second, .val (.long i), .second, .val (.long d), .second, .val (.long xq), .second, iv sel, .val (.long dl), .second, iv 0, rv a9, .val (.long (r + dl)), .second, .val (.long i), .second, .unset, .unset, .unset, .unset, .unset, .unset] [(.int 2), (.int 0)]))
      have b49 : ¬ (0 : Int32) = (2 : Int32) := by decide
      refine Way.by (fun _ k => XS.icmpYes X19.here hx rfl (pc0 := 117) (pc' := 128) rfl (hb hby at_117) rfl (feq b49).2 (by decide) (by decide) k) ?_
      show Way _ _ _ _ (T18.setTop (mkF m 128 #[.val (.long r), .second, .val (.long i), .second, .val (.long d), .second, .val (.long xq), .second, iv sel, .val (.long dl), .second, iv 0, rv a9, .val (.long (r + dl)), .second, .val (.long i), .second, .unset, .unset, .unset, .unset, .unset, .unset] []))
      refine Way.by (fun _ k => XT.lload X19.here hx rfl (hb hby at_128) rfl k) ?_
      show Way _ _ _ _ (T18.setTop (mkF m 130 #[.val (.long r), .second, .val (.long i), .second, .val (.long d), .second, .val (.long xq), .second, iv sel, .val (.long dl), .second, iv 0, rv a9, .val (.long (r + dl)), .second, .val (.long i), .second, .unset, .unset, .unset, .unset, .unset, .unset] [(.long d)]))
      refine Way.by (fun _ k => XT.lstore X19.here hx rfl (hb hby at_130) rfl (l' := #[.val (.long r), .second, .val (.long i), .second, .val (.long d), .second, .val (.long xq), .second, iv sel, .val (.long dl), .second, iv 0, rv a9, .val (.long (r + dl)), .second, .val (.long i), .second, .val (.long d), .second, .unset, .unset, .unset, .unset]) rfl k) ?_
      show Way _ _ _ _ (T18.setTop (mkF m 132 #[.val (.long r), .second, .val (.long i), .second, .val (.long d), .second, .val (.long xq), .second, iv sel, .val (.long dl), .second, iv 0, rv a9, .val (.long (r + dl)), .second, .val (.long i), .second, .val (.long d), .second, .unset, .unset, .unset, .unset] []))
      refine Way.by (fun _ k => XS.iload X19.here hx rfl (hb hby at_132) rfl k) ?_
      show Way _ _ _ _ (T18.setTop (mkF m 134 #[.val (.long r), .second, .val (.long i), .second, .val (.long d), .second, .val (.long xq), .second, iv sel, .val (.long dl), .second, iv 0, rv a9, .val (.long (r + dl)), .second, .val (.long i), .second, .val (.long d), .second, .unset, .unset, .unset, .unset] [(.int 0)]))
      refine Way.by (fun _ k => XS.iconst X19.here hx rfl (hb hby at_134) k) ?_
      show Way _ _ _ _ (T18.setTop (mkF m 135 #[.val (.long r), .second, .val (.long i), .second, .val (.long d), .second, .val (.long xq), .second, iv sel, .val (.long dl), .second, iv 0, rv a9, .val (.long (r + dl)), .second, .val (.long i), .second, .val (.long d), .second, .unset, .unset, .unset, .unset] [(.int 3), (.int 0)]))
      have b50 : ¬ (0 : Int32) = (3 : Int32) := by decide
      refine Way.by (fun _ k => XS.icmpYes X19.here hx rfl (pc0 := 135) (pc' := 146) rfl (hb hby at_135) rfl (feq b50).2 (by decide) (by decide) k) ?_
      show Way _ _ _ _ (T18.setTop (mkF m 146 #[.val (.long r), .second, .val (.long i), .second, .val (.long d), .second, .val (.long xq), .second, iv sel, .val (.long dl), .second, iv 0, rv a9, .val (.long (r + dl)), .second, .val (.long i), .second, .val (.long d), .second, .unset, .unset, .unset, .unset] []))
      refine Way.by (fun _ k => XT.lload X19.here hx rfl (hb hby at_146) rfl k) ?_
      show Way _ _ _ _ (T18.setTop (mkF m 148 #[.val (.long r), .second, .val (.long i), .second, .val (.long d), .second, .val (.long xq), .second, iv sel, .val (.long dl), .second, iv 0, rv a9, .val (.long (r + dl)), .second, .val (.long i), .second, .val (.long d), .second, .unset, .unset, .unset, .unset] [(.long xq)]))
      refine Way.by (fun _ k => XT.lstore X19.here hx rfl (hb hby at_148) rfl (l' := #[.val (.long r), .second, .val (.long i), .second, .val (.long d), .second, .val (.long xq), .second, iv sel, .val (.long dl), .second, iv 0, rv a9, .val (.long (r + dl)), .second, .val (.long i), .second, .val (.long d), .second, .val (.long xq), .second, .unset, .unset]) rfl k) ?_
      show Way _ _ _ _ (T18.setTop (mkF m 150 #[.val (.long r), .second, .val (.long i), .second, .val (.long d), .second, .val (.long xq), .second, iv sel, .val (.long dl), .second, iv 0, rv a9, .val (.long (r + dl)), .second, .val (.long i), .second, .val (.long d), .second, .val (.long xq), .second, .unset, .unset] []))
      obtain ⟨T51, h52, X53, e54, E55, A56, D57, -, st58⟩ := newO X19 hx hZ hown (tw hw 0 rfl) (tw hw 1 rfl) (tw hw 2 rfl) rfl (g := (mkF m 150 #[.val (.long r), .second, .val (.long i), .second, .val (.long d), .second, .val (.long xq), .second, iv sel, .val (.long dl), .second, iv 0, rv a9, .val (.long (r + dl)), .second, .val (.long i), .second, .val (.long d), .second, .val (.long xq), .second, .unset, .unset] [])) rfl (hb hby at_150) (by decide) (by decide)
      obtain ⟨a59, g60⟩ : ∃ z, z = T18.heap.size := ⟨_, rfl⟩
      rw [← g60] at A56 D57 st58
      have ne61 : a9 ≠ a59 := Nat.ne_of_lt (Nat.lt_of_lt_of_eq F_036.lt g60.symm)
      have nw62 : n0 ≤ a59 := Nat.le_trans Z42 (Nat.le_of_eq g60.symm)
      have E63 := Exa.ext E55 F_036
      have F64 := Fld.ext E55 F_137
      have F65 := Fld.ext E55 F_238
      have F66 := Fld.ext E55 F_339
      have F67 := Fld.ext E55 F_440
      have Z68 := Nat.le_trans Z42 E55.1
      have O69 := O43.ext E55
      have F70 : Fld Z h52 a59 "com/example/outbox/outbox/QueueCounts" "ready" "J" (.long (0 : Int64)) := D57 (Or.inr (tw hw 10 rfl)) (ty := .long) (by decide)
      have F71 : Fld Z h52 a59 "com/example/outbox/outbox/QueueCounts" "inflight" "J" (.long (0 : Int64)) := D57 (Or.inr (tw hw 12 rfl)) (ty := .long) (by decide)
      have F72 : Fld Z h52 a59 "com/example/outbox/outbox/QueueCounts" "delayed" "J" (.long (0 : Int64)) := D57 (Or.inr (tw hw 14 rfl)) (ty := .long) (by decide)
      have F73 : Fld Z h52 a59 "com/example/outbox/outbox/QueueCounts" "dead" "J" (.long (0 : Int64)) := D57 (Or.inr (tw hw 16 rfl)) (ty := .long) (by decide)
      refine Way.by st58 ?_
      show Way _ _ _ _ (T51.setTop (mkF m 153 #[.val (.long r), .second, .val (.long i), .second, .val (.long d), .second, .val (.long xq), .second, iv sel, .val (.long dl), .second, iv 0, rv a9, .val (.long (r + dl)), .second, .val (.long i), .second, .val (.long d), .second, .val (.long xq), .second, .unset, .unset] [(.ref a59)]))
      refine Way.by (fun _ k => XS.dup X53.here hx rfl (hb hby at_153) rfl rfl k) ?_
      show Way _ _ _ _ (T51.setTop (mkF m 154 #[.val (.long r), .second, .val (.long i), .second, .val (.long d), .second, .val (.long xq), .second, iv sel, .val (.long dl), .second, iv 0, rv a9, .val (.long (r + dl)), .second, .val (.long i), .second, .val (.long d), .second, .val (.long xq), .second, .unset, .unset] [(.ref a59), (.ref a59)]))
      refine Way.by (fun _ k => XT.lload X53.here hx rfl (hb hby at_154) rfl k) ?_
      show Way _ _ _ _ (T51.setTop (mkF m 156 #[.val (.long r), .second, .val (.long i), .second, .val (.long d), .second, .val (.long xq), .second, iv sel, .val (.long dl), .second, iv 0, rv a9, .val (.long (r + dl)), .second, .val (.long i), .second, .val (.long d), .second, .val (.long xq), .second, .unset, .unset] [(.long (r + dl)), (.ref a59), (.ref a59)]))
      refine Way.by (fun _ k => XT.lload X53.here hx rfl (hb hby at_156) rfl k) ?_
      show Way _ _ _ _ (T51.setTop (mkF m 158 #[.val (.long r), .second, .val (.long i), .second, .val (.long d), .second, .val (.long xq), .second, iv sel, .val (.long dl), .second, iv 0, rv a9, .val (.long (r + dl)), .second, .val (.long i), .second, .val (.long d), .second, .val (.long xq), .second, .unset, .unset] [(.long i), (.long (r + dl)), (.ref a59), (.ref a59)]))
      refine Way.by (fun _ k => XT.lload X53.here hx rfl (hb hby at_158) rfl k) ?_
      show Way _ _ _ _ (T51.setTop (mkF m 160 #[.val (.long r), .second, .val (.long i), .second, .val (.long d), .second, .val (.long xq), .second, iv sel, .val (.long dl), .second, iv 0, rv a9, .val (.long (r + dl)), .second, .val (.long i), .second, .val (.long d), .second, .val (.long xq), .second, .unset, .unset] [(.long d), (.long i), (.long (r + dl)), (.ref a59), (.ref a59)]))
      refine Way.by (fun _ k => XT.lload X53.here hx rfl (hb hby at_160) rfl k) ?_
      show Way _ _ _ _ (T51.setTop (mkF m 162 #[.val (.long r), .second, .val (.long i), .second, .val (.long d), .second, .val (.long xq), .second, iv sel, .val (.long dl), .second, iv 0, rv a9, .val (.long (r + dl)), .second, .val (.long i), .second, .val (.long d), .second, .val (.long xq), .second, .unset, .unset] [(.long xq), (.long d), (.long i), (.long (r + dl)), (.ref a59), (.ref a59)]))
      obtain ⟨_, _, ⟨T74, L76, k77, n78⟩, -, X75, ⟨Lc79, hQ80, l81, y82, z83⟩, st84⟩ := X53.specialBack hx (y := (⟨"com/example/outbox/outbox/QueueCounts", "<init>", "(JJJJ)V"⟩ : MethodName)) rfl hown (mvT hZ (tw hw 3 rfl)) (mvT hZ (tw hw 4 rfl)) (mvT hZ (tw hw 5 rfl)) (by decide) (backOf (W := 1) (rmC l Z a0 hw [] a59 (r + dl) i d xq h52 n0 Z68 A56 F70 F71 F72 F73 nw62) hZ (tw hw 5 rfl) (tw hw 2 rfl) (by decide) (by decide)) (g := (mkF m 162 #[.val (.long r), .second, .val (.long i), .second, .val (.long d), .second, .val (.long xq), .second, iv sel, .val (.long dl), .second, iv 0, rv a9, .val (.long (r + dl)), .second, .val (.long i), .second, .val (.long d), .second, .val (.long xq), .second, .unset, .unset] [(.long xq), (.long d), (.long i), (.long (r + dl)), (.ref a59), (.ref a59)])) rfl (by rw [hml]; rfl) (Steps.refl _) (a := a59) (argsL := [(.long (r + dl)), (.long i), (.long d), (.long xq)]) (rest := [(.ref a59)]) (lenOf pdC rfl) rfl (leW rfl) (hb hby at_162) (fun _ _ => ⟨rfl, e54, (leB rfl), (leB rfl)⟩)
      dsimp only [Pt.U, Pt.locs, Pt.cells, Pt.slots] at X75 l81 y82 z83 st84 hQ80
      subst l81 y82 z83
      obtain ⟨rfl, N90, K91, F_092, F_193, F_294, F_395, F_496⟩ := hQ80
      have N85 := Fr.app N29 N90
      have E97 := E63.keep K91
      have F98 := F64.keep K91 (ninS ne61 nin0)
      have F99 := F65.keep K91 (ninS ne61 nin0)
      have F100 := F66.keep K91 (ninS ne61 nin0)
      have F101 := F67.keep K91 (ninS ne61 nin0)
      have E102 := A56.keep K91
      have Z103 := Nat.le_trans Z68 K91.1
      have O104 := O69.keep K91 (allS nw62 all0)
      refine Way.to st84 ?_
      show Way _ _ _ _ (T74.setTop (mkF m 165 #[.val (.long r), .second, .val (.long i), .second, .val (.long d), .second, .val (.long xq), .second, iv sel, .val (.long dl), .second, iv 0, rv a9, .val (.long (r + dl)), .second, .val (.long i), .second, .val (.long d), .second, .val (.long xq), .second, .unset, .unset] [(.ref a59)]))
      refine Way.by (fun _ k => XS.astore X75.here hx rfl (hb hby at_165) rfl rfl (l' := #[.val (.long r), .second, .val (.long i), .second, .val (.long d), .second, .val (.long xq), .second, iv sel, .val (.long dl), .second, iv 0, rv a9, .val (.long (r + dl)), .second, .val (.long i), .second, .val (.long d), .second, .val (.long xq), .second, rv a59, .unset]) rfl k) ?_
      show Way _ _ _ _ (T74.setTop (mkF m 167 #[.val (.long r), .second, .val (.long i), .second, .val (.long d), .second, .val (.long xq), .second, iv sel, .val (.long dl), .second, iv 0, rv a9, .val (.long (r + dl)), .second, .val (.long i), .second, .val (.long d), .second, .val (.long xq), .second, rv a59, .unset] []))
      refine Way.by (fun _ k => XS.iload X75.here hx rfl (hb hby at_167) rfl k) ?_
      show Way _ _ _ _ (T74.setTop (mkF m 169 #[.val (.long r), .second, .val (.long i), .second, .val (.long d), .second, .val (.long xq), .second, iv sel, .val (.long dl), .second, iv 0, rv a9, .val (.long (r + dl)), .second, .val (.long i), .second, .val (.long d), .second, .val (.long xq), .second, rv a59, .unset] [(.int 0)]))
      refine Way.by (fun _ k => XS.iconst X75.here hx rfl (hb hby at_169) k) ?_
      show Way _ _ _ _ (T74.setTop (mkF m 170 #[.val (.long r), .second, .val (.long i), .second, .val (.long d), .second, .val (.long xq), .second, iv sel, .val (.long dl), .second, iv 0, rv a9, .val (.long (r + dl)), .second, .val (.long i), .second, .val (.long d), .second, .val (.long xq), .second, rv a59, .unset] [(.int 4), (.int 0)]))
      have b105 : ¬ (0 : Int32) = (4 : Int32) := by decide
      refine Way.by (fun _ k => XS.icmpNo X75.here hx rfl (hb hby at_170) rfl (feq b105).1 k) ?_
      show Way _ _ _ _ (T74.setTop (mkF m 173 #[.val (.long r), .second, .val (.long i), .second, .val (.long d), .second, .val (.long xq), .second, iv sel, .val (.long dl), .second, iv 0, rv a9, .val (.long (r + dl)), .second, .val (.long i), .second, .val (.long d), .second, .val (.long xq), .second, rv a59, .unset] []))
      refine Way.by (fun _ k => XT.lload X75.here hx rfl (hb hby at_173) rfl k) ?_
      show Way _ _ _ _ (T74.setTop (mkF m 175 #[.val (.long r), .second, .val (.long i), .second, .val (.long d), .second, .val (.long xq), .second, iv sel, .val (.long dl), .second, iv 0, rv a9, .val (.long (r + dl)), .second, .val (.long i), .second, .val (.long d), .second, .val (.long xq), .second, rv a59, .unset] [(.long dl)]))
      refine Way.by (fun _ k => XT.lconst X75.here hx rfl (hb hby at_175) k) ?_
      show Way _ _ _ _ (T74.setTop (mkF m 176 #[.val (.long r), .second, .val (.long i), .second, .val (.long d), .second, .val (.long xq), .second, iv sel, .val (.long dl), .second, iv 0, rv a9, .val (.long (r + dl)), .second, .val (.long i), .second, .val (.long d), .second, .val (.long xq), .second, rv a59, .unset] [(.long (0 : Int64)), (.long dl)]))
      refine Way.by (fun _ k => XT.lcmp X75.here hx rfl (hb hby at_176) rfl k) ?_
      show Way _ _ _ _ (T74.setTop (mkF m 177 #[.val (.long r), .second, .val (.long i), .second, .val (.long d), .second, .val (.long xq), .second, iv sel, .val (.long dl), .second, iv 0, rv a9, .val (.long (r + dl)), .second, .val (.long i), .second, .val (.long d), .second, .val (.long xq), .second, rv a59, .unset] [(.int (XT.cmpL dl (0 : Int64)))]))
      have b106 : (XT.cmpL dl (0 : Int64)) = (0 : Int32) := (cmpL0 _ _).mpr hdl
      refine Way.by (fun _ k => XS.ifNo X75.here hx rfl (hb hby at_177) rfl ((if0 .ne _).trans (teq b106).2) k) ?_
      show Way _ _ _ _ (T74.setTop (mkF m 180 #[.val (.long r), .second, .val (.long i), .second, .val (.long d), .second, .val (.long xq), .second, iv sel, .val (.long dl), .second, iv 0, rv a9, .val (.long (r + dl)), .second, .val (.long i), .second, .val (.long d), .second, .val (.long xq), .second, rv a59, .unset] []))
      refine Way.by (fun _ k => XS.iconst X75.here hx rfl (hb hby at_180) k) ?_
      show Way _ _ _ _ (T74.setTop (mkF m 181 #[.val (.long r), .second, .val (.long i), .second, .val (.long d), .second, .val (.long xq), .second, iv sel, .val (.long dl), .second, iv 0, rv a9, .val (.long (r + dl)), .second, .val (.long i), .second, .val (.long d), .second, .val (.long xq), .second, rv a59, .unset] [(.int 1)]))
      refine Way.by (fun _ k => XS.goto X75.here hx rfl (pc0 := 181) (pc' := 185) rfl (hb hby at_181) (by decide) (by decide) k) ?_
      show Way _ _ _ _ (T74.setTop (mkF m 185 #[.val (.long r), .second, .val (.long i), .second, .val (.long d), .second, .val (.long xq), .second, iv sel, .val (.long dl), .second, iv 0, rv a9, .val (.long (r + dl)), .second, .val (.long i), .second, .val (.long d), .second, .val (.long xq), .second, rv a59, .unset] [(.int 1)]))
      refine Way.by (fun _ k => XS.istore X75.here hx rfl (hb hby at_185) rfl (l' := #[.val (.long r), .second, .val (.long i), .second, .val (.long d), .second, .val (.long xq), .second, iv sel, .val (.long dl), .second, iv 0, rv a9, .val (.long (r + dl)), .second, .val (.long i), .second, .val (.long d), .second, .val (.long xq), .second, rv a59, iv 1]) rfl k) ?_
      show Way _ _ _ _ (T74.setTop (mkF m 187 #[.val (.long r), .second, .val (.long i), .second, .val (.long d), .second, .val (.long xq), .second, iv sel, .val (.long dl), .second, iv 0, rv a9, .val (.long (r + dl)), .second, .val (.long i), .second, .val (.long d), .second, .val (.long xq), .second, rv a59, iv 1] []))
      refine Way.by (fun _ k => XS.aload X75.here hx rfl (hb hby at_187) rfl rfl k) ?_
      show Way _ _ _ _ (T74.setTop (mkF m 189 #[.val (.long r), .second, .val (.long i), .second, .val (.long d), .second, .val (.long xq), .second, iv sel, .val (.long dl), .second, iv 0, rv a9, .val (.long (r + dl)), .second, .val (.long i), .second, .val (.long d), .second, .val (.long xq), .second, rv a59, iv 1] [(.ref a9)]))
      refine Way.by (fun _ k => XS.aload X75.here hx rfl (hb hby at_189) rfl rfl k) ?_
      show Way _ _ _ _ (T74.setTop (mkF m 191 #[.val (.long r), .second, .val (.long i), .second, .val (.long d), .second, .val (.long xq), .second, iv sel, .val (.long dl), .second, iv 0, rv a9, .val (.long (r + dl)), .second, .val (.long i), .second, .val (.long d), .second, .val (.long xq), .second, rv a59, iv 1] [(.ref a59), (.ref a9)]))
      obtain ⟨cq123, kq124, qa125, qb126, qc127⟩ := isOf hZ rfl E97
      obtain ⟨_, _, ⟨T107, L109, k110, n111⟩, -, X108, ⟨Lc112, hQ113, l114, y115, z116⟩, st117⟩ := X75.virtualBack hx (y := (⟨"com/example/outbox/outbox/QueueCounts", "equals", "(Ljava/lang/Object;)Z"⟩ : MethodName)) (z := (⟨"com/example/outbox/outbox/QueueCounts", "equals", "(Ljava/lang/Object;)Z"⟩ : MethodName)) hown (mvT hZ (tw hw 17 rfl)) (mvT hZ (tw hw 18 rfl)) (notFace_of_selects (args := #[]) (mvT hZ (tw hw 20 rfl))) (mvT hZ (tw hw 20 rfl)) (mvT hZ (tw hw 19 rfl)) (by decide) (backOf (W := 0) (rmE l Z a0 hw [] a9 a59 r i d xq (r + dl) i d xq (1 : Int32) T74.heap n0 Z103 F_092 F98 F99 F100 F101 F_193 F_294 F_395 F_496 (by simp [hdl])) hZ (tw hw 21 rfl) (tw hw 2 rfl) (by decide) (by decide)) qa125 qc127 (g := (mkF m 191 #[.val (.long r), .second, .val (.long i), .second, .val (.long d), .second, .val (.long xq), .second, iv sel, .val (.long dl), .second, iv 0, rv a9, .val (.long (r + dl)), .second, .val (.long i), .second, .val (.long d), .second, .val (.long xq), .second, rv a59, iv 1] [(.ref a59), (.ref a9)])) rfl (by rw [hml]; rfl) (Steps.refl _) (argsL := [(.ref a59)]) (rest := []) (lenOf pdE rfl) rfl (leW rfl) (hb hby at_191) (fun _ _ => ⟨rfl, rfl, (leB rfl), (leB rfl)⟩)
      dsimp only [Pt.U, Pt.locs, Pt.cells, Pt.slots] at X108 l114 y115 z116 st117 hQ113
      subst l114 y115 z116
      obtain ⟨rfl, N128, e119⟩ := hQ113
      have N118 := Fr.app N85 N128
      refine Way.to st117 ?_
      show Way _ _ _ _ (T107.setTop (mkF m 194 #[.val (.long r), .second, .val (.long i), .second, .val (.long d), .second, .val (.long xq), .second, iv sel, .val (.long dl), .second, iv 0, rv a9, .val (.long (r + dl)), .second, .val (.long i), .second, .val (.long d), .second, .val (.long xq), .second, rv a59, iv 1] [(.int 1)]))
      refine Way.by (fun _ k => XS.iload X108.here hx rfl (hb hby at_194) rfl k) ?_
      show Way _ _ _ _ (T107.setTop (mkF m 196 #[.val (.long r), .second, .val (.long i), .second, .val (.long d), .second, .val (.long xq), .second, iv sel, .val (.long dl), .second, iv 0, rv a9, .val (.long (r + dl)), .second, .val (.long i), .second, .val (.long d), .second, .val (.long xq), .second, rv a59, iv 1] [(.int 1), (.int 1)]))
      have b130 : (1 : Int32) = (1 : Int32) := by decide
      refine Way.by (fun _ k => XS.icmpNo X108.here hx rfl (hb hby at_196) rfl (teq b130).2 k) ?_
      show Way _ _ _ _ (T107.setTop (mkF m 199 #[.val (.long r), .second, .val (.long i), .second, .val (.long d), .second, .val (.long xq), .second, iv sel, .val (.long dl), .second, iv 0, rv a9, .val (.long (r + dl)), .second, .val (.long i), .second, .val (.long d), .second, .val (.long xq), .second, rv a59, iv 1] []))
      refine Way.by (fun _ k => XS.aload X108.here hx rfl (hb hby at_199) rfl rfl k) ?_
      show Way _ _ _ _ (T107.setTop (mkF m 201 #[.val (.long r), .second, .val (.long i), .second, .val (.long d), .second, .val (.long xq), .second, iv sel, .val (.long dl), .second, iv 0, rv a9, .val (.long (r + dl)), .second, .val (.long i), .second, .val (.long d), .second, .val (.long xq), .second, rv a59, iv 1] [(.ref a59)]))
      refine Way.by (fun _ k => XS.aload X108.here hx rfl (hb hby at_201) rfl rfl k) ?_
      show Way _ _ _ _ (T107.setTop (mkF m 203 #[.val (.long r), .second, .val (.long i), .second, .val (.long d), .second, .val (.long xq), .second, iv sel, .val (.long dl), .second, iv 0, rv a9, .val (.long (r + dl)), .second, .val (.long i), .second, .val (.long d), .second, .val (.long xq), .second, rv a59, iv 1] [(.ref a9), (.ref a59)]))
      obtain ⟨cq147, kq148, qa149, qb150, qc151⟩ := isOf hZ e119 F_092
      obtain ⟨_, _, ⟨T131, L133, k134, n135⟩, -, X132, ⟨Lc136, hQ137, l138, y139, z140⟩, st141⟩ := X108.virtualBack hx (y := (⟨"com/example/outbox/outbox/QueueCounts", "equals", "(Ljava/lang/Object;)Z"⟩ : MethodName)) (z := (⟨"com/example/outbox/outbox/QueueCounts", "equals", "(Ljava/lang/Object;)Z"⟩ : MethodName)) hown (mvT hZ (tw hw 17 rfl)) (mvT hZ (tw hw 18 rfl)) (notFace_of_selects (args := #[]) (mvT hZ (tw hw 20 rfl))) (mvT hZ (tw hw 20 rfl)) (mvT hZ (tw hw 19 rfl)) (by decide) (backOf (W := 0) (rmE l Z a0 hw [] a59 a9 (r + dl) i d xq r i d xq (1 : Int32) T74.heap n0 Z103 E97 F_193 F_294 F_395 F_496 F98 F99 F100 F101 (by simp [hdl])) hZ (tw hw 21 rfl) (tw hw 2 rfl) (by decide) (by decide)) qa149 qc151 (g := (mkF m 203 #[.val (.long r), .second, .val (.long i), .second, .val (.long d), .second, .val (.long xq), .second, iv sel, .val (.long dl), .second, iv 0, rv a9, .val (.long (r + dl)), .second, .val (.long i), .second, .val (.long d), .second, .val (.long xq), .second, rv a59, iv 1] [(.ref a9), (.ref a59)])) rfl (by rw [hml]; rfl) (Steps.refl _) (argsL := [(.ref a9)]) (rest := []) (lenOf pdE rfl) rfl (leW rfl) (hb hby at_203) (fun _ _ => ⟨rfl, e119, (leB rfl), (leB rfl)⟩)
      dsimp only [Pt.U, Pt.locs, Pt.cells, Pt.slots] at X132 l138 y139 z140 st141 hQ137
      subst l138 y139 z140
      obtain ⟨rfl, N152, e143⟩ := hQ137
      have N142 := Fr.app N118 N152
      refine Way.to st141 ?_
      show Way _ _ _ _ (T131.setTop (mkF m 206 #[.val (.long r), .second, .val (.long i), .second, .val (.long d), .second, .val (.long xq), .second, iv sel, .val (.long dl), .second, iv 0, rv a9, .val (.long (r + dl)), .second, .val (.long i), .second, .val (.long d), .second, .val (.long xq), .second, rv a59, iv 1] [(.int 1)]))
      refine Way.by (fun _ k => XS.iload X132.here hx rfl (hb hby at_206) rfl k) ?_
      show Way _ _ _ _ (T131.setTop (mkF m 208 #[.val (.long r), .second, .val (.long i), .second, .val (.long d), .second, .val (.long xq), .second, iv sel, .val (.long dl), .second, iv 0, rv a9, .val (.long (r + dl)), .second, .val (.long i), .second, .val (.long d), .second, .val (.long xq), .second, rv a59, iv 1] [(.int 1), (.int 1)]))
      have b154 : (1 : Int32) = (1 : Int32) := by decide
      refine Way.by (fun _ k => XS.icmpNo X132.here hx rfl (hb hby at_208) rfl (teq b154).2 k) ?_
      show Way _ _ _ _ (T131.setTop (mkF m 211 #[.val (.long r), .second, .val (.long i), .second, .val (.long d), .second, .val (.long xq), .second, iv sel, .val (.long dl), .second, iv 0, rv a9, .val (.long (r + dl)), .second, .val (.long i), .second, .val (.long d), .second, .val (.long xq), .second, rv a59, iv 1] []))
      refine Way.by (fun _ k => XS.iconst X132.here hx rfl (hb hby at_211) k) ?_
      show Way _ _ _ _ (T131.setTop (mkF m 212 #[.val (.long r), .second, .val (.long i), .second, .val (.long d), .second, .val (.long xq), .second, iv sel, .val (.long dl), .second, iv 0, rv a9, .val (.long (r + dl)), .second, .val (.long i), .second, .val (.long d), .second, .val (.long xq), .second, rv a59, iv 1] [(.int 1)]))
      refine Way.by (fun _ k => XS.goto X132.here hx rfl (pc0 := 212) (pc' := 216) rfl (hb hby at_212) (by decide) (by decide) k) ?_
      show Way _ _ _ _ (T131.setTop (mkF m 216 #[.val (.long r), .second, .val (.long i), .second, .val (.long d), .second, .val (.long xq), .second, iv sel, .val (.long dl), .second, iv 0, rv a9, .val (.long (r + dl)), .second, .val (.long i), .second, .val (.long d), .second, .val (.long xq), .second, rv a59, iv 1] [(.int 1)]))
      refine Way.ret (v := (some (.int (nar .boolean (1 : Int32))))) X132 hlk (fun h => by rw [Bd.returns] at h; cases h) (fun fs hr => retN X132 hx (t := .boolean) Bd.returns (by simp) (hb hby at_216) hr) ?_ (by decide) (by decide)
      show Q0 n0 _ T131.heap _
      rw [e143]
      exact ⟨rfl, N142⟩
    · skip
      show Way _ _ _ _ (s₁.setTop (mkF m 7 #[.val (.long r), .second, .val (.long i), .second, .val (.long d), .second, .val (.long xq), .second, iv sel, .val (.long dl), .second, iv 0, .unset, .unset, .unset, .unset, .unset, .unset, .unset, .unset, .unset, .unset, .unset] []))
      obtain ⟨T155, h156, X157, e158, E159, A160, D161, -, st162⟩ := newO X0 hx hZ hown (tw hw 0 rfl) (tw hw 1 rfl) (tw hw 2 rfl) e0 (g := (mkF m 7 #[.val (.long r), .second, .val (.long i), .second, .val (.long d), .second, .val (.long xq), .second, iv sel, .val (.long dl), .second, iv 0, .unset, .unset, .unset, .unset, .unset, .unset, .unset, .unset, .unset, .unset, .unset] [])) rfl (hb hby at_7) (by decide) (by decide)
      obtain ⟨a163, g164⟩ : ∃ z, z = h0.size := ⟨_, rfl⟩
      rw [← g164] at A160 D161 st162
      have nw165 : n0 ≤ a163 := Nat.le_trans Z0 (Nat.le_of_eq g164.symm)
      have Z166 := Nat.le_trans Z0 E159.1
      have O167 := O0.ext E159
      have F168 : Fld Z h156 a163 "com/example/outbox/outbox/QueueCounts" "ready" "J" (.long (0 : Int64)) := D161 (Or.inr (tw hw 10 rfl)) (ty := .long) (by decide)
      have F169 : Fld Z h156 a163 "com/example/outbox/outbox/QueueCounts" "inflight" "J" (.long (0 : Int64)) := D161 (Or.inr (tw hw 12 rfl)) (ty := .long) (by decide)
      have F170 : Fld Z h156 a163 "com/example/outbox/outbox/QueueCounts" "delayed" "J" (.long (0 : Int64)) := D161 (Or.inr (tw hw 14 rfl)) (ty := .long) (by decide)
      have F171 : Fld Z h156 a163 "com/example/outbox/outbox/QueueCounts" "dead" "J" (.long (0 : Int64)) := D161 (Or.inr (tw hw 16 rfl)) (ty := .long) (by decide)
      refine Way.by st162 ?_
      show Way _ _ _ _ (T155.setTop (mkF m 10 #[.val (.long r), .second, .val (.long i), .second, .val (.long d), .second, .val (.long xq), .second, iv sel, .val (.long dl), .second, iv 0, .unset, .unset, .unset, .unset, .unset, .unset, .unset, .unset, .unset, .unset, .unset] [(.ref a163)]))
      refine Way.by (fun _ k => XS.dup X157.here hx rfl (hb hby at_10) rfl rfl k) ?_
      show Way _ _ _ _ (T155.setTop (mkF m 11 #[.val (.long r), .second, .val (.long i), .second, .val (.long d), .second, .val (.long xq), .second, iv sel, .val (.long dl), .second, iv 0, .unset, .unset, .unset, .unset, .unset, .unset, .unset, .unset, .unset, .unset, .unset] [(.ref a163), (.ref a163)]))
      refine Way.by (fun _ k => XT.lloadN X157.here hx rfl (hb hby at_11) rfl k) ?_
      show Way _ _ _ _ (T155.setTop (mkF m 12 #[.val (.long r), .second, .val (.long i), .second, .val (.long d), .second, .val (.long xq), .second, iv sel, .val (.long dl), .second, iv 0, .unset, .unset, .unset, .unset, .unset, .unset, .unset, .unset, .unset, .unset, .unset] [(.long r), (.ref a163), (.ref a163)]))
      refine Way.by (fun _ k => XT.lloadN X157.here hx rfl (hb hby at_12) rfl k) ?_
      show Way _ _ _ _ (T155.setTop (mkF m 13 #[.val (.long r), .second, .val (.long i), .second, .val (.long d), .second, .val (.long xq), .second, iv sel, .val (.long dl), .second, iv 0, .unset, .unset, .unset, .unset, .unset, .unset, .unset, .unset, .unset, .unset, .unset] [(.long i), (.long r), (.ref a163), (.ref a163)]))
      refine Way.by (fun _ k => XT.lload X157.here hx rfl (hb hby at_13) rfl k) ?_
      show Way _ _ _ _ (T155.setTop (mkF m 15 #[.val (.long r), .second, .val (.long i), .second, .val (.long d), .second, .val (.long xq), .second, iv sel, .val (.long dl), .second, iv 0, .unset, .unset, .unset, .unset, .unset, .unset, .unset, .unset, .unset, .unset, .unset] [(.long d), (.long i), (.long r), (.ref a163), (.ref a163)]))
      refine Way.by (fun _ k => XT.lload X157.here hx rfl (hb hby at_15) rfl k) ?_
      show Way _ _ _ _ (T155.setTop (mkF m 17 #[.val (.long r), .second, .val (.long i), .second, .val (.long d), .second, .val (.long xq), .second, iv sel, .val (.long dl), .second, iv 0, .unset, .unset, .unset, .unset, .unset, .unset, .unset, .unset, .unset, .unset, .unset] [(.long xq), (.long d), (.long i), (.long r), (.ref a163), (.ref a163)]))
      obtain ⟨_, _, ⟨T172, L174, k175, n176⟩, -, X173, ⟨Lc177, hQ178, l179, y180, z181⟩, st182⟩ := X157.specialBack hx (y := (⟨"com/example/outbox/outbox/QueueCounts", "<init>", "(JJJJ)V"⟩ : MethodName)) rfl hown (mvT hZ (tw hw 3 rfl)) (mvT hZ (tw hw 4 rfl)) (mvT hZ (tw hw 5 rfl)) (by decide) (backOf (W := 1) (rmC l Z a0 hw [] a163 r i d xq h156 n0 Z166 A160 F168 F169 F170 F171 nw165) hZ (tw hw 5 rfl) (tw hw 2 rfl) (by decide) (by decide)) (g := (mkF m 17 #[.val (.long r), .second, .val (.long i), .second, .val (.long d), .second, .val (.long xq), .second, iv sel, .val (.long dl), .second, iv 0, .unset, .unset, .unset, .unset, .unset, .unset, .unset, .unset, .unset, .unset, .unset] [(.long xq), (.long d), (.long i), (.long r), (.ref a163), (.ref a163)])) rfl (by rw [hml]; rfl) (Steps.refl _) (a := a163) (argsL := [(.long r), (.long i), (.long d), (.long xq)]) (rest := [(.ref a163)]) (lenOf pdC rfl) rfl (leW rfl) (hb hby at_17) (fun _ _ => ⟨rfl, e158, (leB rfl), (leB rfl)⟩)
      dsimp only [Pt.U, Pt.locs, Pt.cells, Pt.slots] at X173 l179 y180 z181 st182 hQ178
      subst l179 y180 z181
      obtain ⟨rfl, N188, K189, F_0190, F_1191, F_2192, F_3193, F_4194⟩ := hQ178
      have N183 := Fr.app N0 N188
      have E195 := A160.keep K189
      have Z196 := Nat.le_trans Z166 K189.1
      have O197 := O167.keep K189 (allS nw165 all0)
      refine Way.to st182 ?_
      show Way _ _ _ _ (T172.setTop (mkF m 20 #[.val (.long r), .second, .val (.long i), .second, .val (.long d), .second, .val (.long xq), .second, iv sel, .val (.long dl), .second, iv 0, .unset, .unset, .unset, .unset, .unset, .unset, .unset, .unset, .unset, .unset, .unset] [(.ref a163)]))
      refine Way.by (fun _ k => XS.astore X173.here hx rfl (hb hby at_20) rfl rfl (l' := #[.val (.long r), .second, .val (.long i), .second, .val (.long d), .second, .val (.long xq), .second, iv sel, .val (.long dl), .second, iv 0, rv a163, .unset, .unset, .unset, .unset, .unset, .unset, .unset, .unset, .unset, .unset]) rfl k) ?_
      show Way _ _ _ _ (T172.setTop (mkF m 22 #[.val (.long r), .second, .val (.long i), .second, .val (.long d), .second, .val (.long xq), .second, iv sel, .val (.long dl), .second, iv 0, rv a163, .unset, .unset, .unset, .unset, .unset, .unset, .unset, .unset, .unset, .unset] []))
      refine Way.by (fun _ k => XS.iload X173.here hx rfl (hb hby at_22) rfl k) ?_
      show Way _ _ _ _ (T172.setTop (mkF m 24 #[.val (.long r), .second, .val (.long i), .second, .val (.long d), .second, .val (.long xq), .second, iv sel, .val (.long dl), .second, iv 0, rv a163, .unset, .unset, .unset, .unset, .unset, .unset, .unset, .unset, .unset, .unset] [(.int 0)]))
      refine Way.by (fun _ k => XS.iconst X173.here hx rfl (hb hby at_24) k) ?_
      show Way _ _ _ _ (T172.setTop (mkF m 25 #[.val (.long r), .second, .val (.long i), .second, .val (.long d), .second, .val (.long xq), .second, iv sel, .val (.long dl), .second, iv 0, rv a163, .unset, .unset, .unset, .unset, .unset, .unset, .unset, .unset, .unset, .unset] [(.int 5), (.int 0)]))
      have b198 : ¬ (0 : Int32) = (5 : Int32) := by decide
      refine Way.by (fun _ k => XS.icmpYes X173.here hx rfl (pc0 := 25) (pc' := 43) rfl (hb hby at_25) rfl (feq b198).2 (by decide) (by decide) k) ?_
      show Way _ _ _ _ (T172.setTop (mkF m 43 #[.val (.long r), .second, .val (.long i), .second, .val (.long d), .second, .val (.long xq), .second, iv sel, .val (.long dl), .second, iv 0, rv a163, .unset, .unset, .unset, .unset, .unset, .unset, .unset, .unset, .unset, .unset] []))
      refine Way.by (fun _ k => XS.iload X173.here hx rfl (hb hby at_43) rfl k) ?_
      show Way _ _ _ _ (T172.setTop (mkF m 45 #[.val (.long r), .second, .val (.long i), .second, .val (.long d), .second, .val (.long xq), .second, iv sel, .val (.long dl), .second, iv 0, rv a163, .unset, .unset, .unset, .unset, .unset, .unset, .unset, .unset, .unset, .unset] [(.int 0)]))
      refine Way.by (fun _ k => XS.bipush X173.here hx rfl (hb hby at_45) k) ?_
      show Way _ _ _ _ (T172.setTop (mkF m 47 #[.val (.long r), .second, .val (.long i), .second, .val (.long d), .second, .val (.long xq), .second, iv sel, .val (.long dl), .second, iv 0, rv a163, .unset, .unset, .unset, .unset, .unset, .unset, .unset, .unset, .unset, .unset] [(.int 6), (.int 0)]))
      have b199 : ¬ (0 : Int32) = (6 : Int32) := by decide
      refine Way.by (fun _ k => XS.icmpYes X173.here hx rfl (pc0 := 47) (pc' := 68) rfl (hb hby at_47) rfl (feq b199).2 (by decide) (by decide) k) ?_
      show Way _ _ _ _ (T172.setTop (mkF m 68 #[.val (.long r), .second, .val (.long i), .second, .val (.long d), .second, .val (.long xq), .second, iv sel, .val (.long dl), .second, iv 0, rv a163, .unset, .unset, .unset, .unset, .unset, .unset, .unset, .unset, .unset, .unset] []))
      refine Way.by (fun _ k => XS.iload X173.here hx rfl (hb hby at_68) rfl k) ?_
      show Way _ _ _ _ (T172.setTop (mkF m 70 #[.val (.long r), .second, .val (.long i), .second, .val (.long d), .second, .val (.long xq), .second, iv sel, .val (.long dl), .second, iv 0, rv a163, .unset, .unset, .unset, .unset, .unset, .unset, .unset, .unset, .unset, .unset] [(.int 0)]))
      refine Way.by (fun _ k => XS.bipush X173.here hx rfl (hb hby at_70) k) ?_
      show Way _ _ _ _ (T172.setTop (mkF m 72 #[.val (.long r), .second, .val (.long i), .second, .val (.long d), .second, .val (.long xq), .second, iv sel, .val (.long dl), .second, iv 0, rv a163, .unset, .unset, .unset, .unset, .unset, .unset, .unset, .unset, .unset, .unset] [(.int 7), (.int 0)]))
      have b200 : ¬ (0 : Int32) = (7 : Int32) := by decide
      refine Way.by (fun _ k => XS.icmpYes X173.here hx rfl (pc0 := 72) (pc' := 83) rfl (hb hby at_72) rfl (feq b200).2 (by decide) (by decide) k) ?_
      show Way _ _ _ _ (T172.setTop (mkF m 83 #[.val (.long r), .second, .val (.long i), .second, .val (.long d), .second, .val (.long xq), .second, iv sel, .val (.long dl), .second, iv 0, rv a163, .unset, .unset, .unset, .unset, .unset, .unset, .unset, .unset, .unset, .unset] []))
      refine Way.by (fun _ k => XS.iload X173.here hx rfl (hb hby at_83) rfl k) ?_
      show Way _ _ _ _ (T172.setTop (mkF m 85 #[.val (.long r), .second, .val (.long i), .second, .val (.long d), .second, .val (.long xq), .second, iv sel, .val (.long dl), .second, iv 0, rv a163, .unset, .unset, .unset, .unset, .unset, .unset, .unset, .unset, .unset, .unset] [(.int 0)]))
      have b201 : (0 : Int32) = (0 : Int32) := by decide
      refine Way.by (fun _ k => XS.ifNo X173.here hx rfl (hb hby at_85) rfl ((if0 .ne _).trans (teq b201).2) k) ?_
      show Way _ _ _ _ (T172.setTop (mkF m 88 #[.val (.long r), .second, .val (.long i), .second, .val (.long d), .second, .val (.long xq), .second, iv sel, .val (.long dl), .second, iv 0, rv a163, .unset, .unset, .unset, .unset, .unset, .unset, .unset, .unset, .unset, .unset] []))
      refine Way.by (fun _ k => XT.lloadN X173.here hx rfl (hb hby at_88) rfl k) ?_
      show Way _ _ _ _ (T172.setTop (mkF m 89 #[.val (.long r), .second, .val (.long i), .second, .val (.long d), .second, .val (.long xq), .second, iv sel, .val (.long dl), .second, iv 0, rv a163, .unset, .unset, .unset, .unset, .unset, .unset, .unset, .unset, .unset, .unset] [(.long r)]))
      refine Way.by (fun _ k => XT.lload X173.here hx rfl (hb hby at_89) rfl k) ?_
      show Way _ _ _ _ (T172.setTop (mkF m 91 #[.val (.long r), .second, .val (.long i), .second, .val (.long d), .second, .val (.long xq), .second, iv sel, .val (.long dl), .second, iv 0, rv a163, .unset, .unset, .unset, .unset, .unset, .unset, .unset, .unset, .unset, .unset] [(.long dl), (.long r)]))
      refine Way.by (fun _ k => XT.ladd X173.here hx rfl (hb hby at_91) rfl k) ?_
      show Way _ _ _ _ (T172.setTop (mkF m 92 #[.val (.long r), .second, .val (.long i), .second, .val (.long d), .second, .val (.long xq), .second, iv sel, .val (.long dl), .second, iv 0, rv a163, .unset, .unset, .unset, .unset, .unset, .unset, .unset, .unset, .unset, .unset] [(.long (r + dl))]))
      refine Way.by (fun _ k => XS.goto X173.here hx rfl (pc0 := 92) (pc' := 96) rfl (hb hby at_92) (by decide) (by decide) k) ?_
      show Way _ _ _ _ (T172.setTop (mkF m 96 #[.val (.long r), .second, .val (.long i), .second, .val (.long d), .second, .val (.long xq), .second, iv sel, .val (.long dl), .second, iv 0, rv a163, .unset, .unset, .unset, .unset, .unset, .unset, .unset, .unset, .unset, .unset] [(.long (r + dl))]))
      refine Way.by (fun _ k => XT.lstore X173.here hx rfl (hb hby at_96) rfl (l' := #[.val (.long r), .second, .val (.long i), .second, .val (.long d), .second, .val (.long xq), .second, iv sel, .val (.long dl), .second, iv 0, rv a163, .val (.long (r + dl)), .second, .unset, .unset, .unset, .unset, .unset, .unset, .unset, .unset]) rfl k) ?_
      show Way _ _ _ _ (T172.setTop (mkF m 98 #[.val (.long r), .second, .val (.long i), .second, .val (.long d), .second, .val (.long xq), .second, iv sel, .val (.long dl), .second, iv 0, rv a163, .val (.long (r + dl)), .second, .unset, .unset, .unset, .unset, .unset, .unset, .unset, .unset] []))
      refine Way.by (fun _ k => XS.iload X173.here hx rfl (hb hby at_98) rfl k) ?_
      show Way _ _ _ _ (T172.setTop (mkF m 100 #[.val (.long r), .second, .val (.long i), .second, .val (.long d), .second, .val (.long xq), .second, iv sel, .val (.long dl), .second, iv 0, rv a163, .val (.long (r + dl)), .second, .unset, .unset, .unset, .unset, .unset, .unset, .unset, .unset] [(.int 0)]))
      refine Way.by (fun _ k => XS.iconst X173.here hx rfl (hb hby at_100) k) ?_
      show Way _ _ _ _ (T172.setTop (mkF m 101 #[.val (.long r), .second, .val (.long i), .second, .val (.long d), .second, .val (.long xq), .second, iv sel, .val (.long dl), .second, iv 0, rv a163, .val (.long (r + dl)), .second, .unset, .unset, .unset, .unset, .unset, .unset, .unset, .unset] [(.int 1), (.int 0)]))
      have b202 : ¬ (0 : Int32) = (1 : Int32) := by decide
      refine Way.by (fun _ k => XS.icmpYes X173.here hx rfl (pc0 := 101) (pc' := 111) rfl (hb hby at_101) rfl (feq b202).2 (by decide) (by decide) k) ?_
      show Way _ _ _ _ (T172.setTop (mkF m 111 #[.val (.long r), .second, .val (.long i), .second, .val (.long d), .second, .val (.long xq), .second, iv sel, .val (.long dl), .second, iv 0, rv a163, .val (.long (r + dl)), .second, .unset, .unset, .unset, .unset, .unset, .unset, .unset, .unset] []))
      refine Way.by (fun _ k => XT.lloadN X173.here hx rfl (hb hby at_111) rfl k) ?_
      show Way _ _ _ _ (T172.setTop (mkF m 112 #[.val (.long r), .second, .val (.long i), .second, .val (.long d), .second, .val (.long xq), .second, iv sel, .val (.long dl), .second, iv 0, rv a163, .val (.long (r + dl)), .second, .unset, .unset, .unset, .unset, .unset, .unset, .unset, .unset] [(.long i)]))
      refine Way.by (fun _ k => XT.lstore X173.here hx rfl (hb hby at_112) rfl (l' := #[.val (.long r), .second, .val (.long i), .second, .val (.long d), .second, .val (.long xq), .second, iv sel, .val (.long dl), .second, iv 0, rv a163, .val (.long (r + dl)), .second, .val (.long i), .second, .unset, .unset, .unset, .unset, .unset, .unset]) rfl k) ?_
      show Way _ _ _ _ (T172.setTop (mkF m 114 #[.val (.long r), .second, .val (.long i), .second, .val (.long d), .second, .val (.long xq), .second, iv sel, .val (.long dl), .second, iv 0, rv a163, .val (.long (r + dl)), .second, .val (.long i), .second, .unset, .unset, .unset, .unset, .unset, .unset] []))
      refine Way.by (fun _ k => XS.iload X173.here hx rfl (hb hby at_114) rfl k) ?_
      show Way _ _ _ _ (T172.setTop (mkF m 116 #[.val (.long r), .second, .val (.long i), .second, .val (.long d), .second, .val (.long xq), .second, iv sel, .val (.long dl), .second, iv 0, rv a163, .val (.long (r + dl)), .second, .val (.long i), .second, .unset, .unset, .unset, .unset, .unset, .unset] [(.int 0)]))
      refine Way.by (fun _ k => XS.iconst X173.here hx rfl (hb hby at_116) k) ?_
      show Way _ _ _ _ (T172.setTop (mkF m 117 #[.val (.long r), .second, .val (.long i), .second, .val (.long d), .second, .val (.long xq), .second, iv sel, .val (.long dl), .second, iv 0, rv a163, .val (.long (r + dl)), .second, .val (.long i), .second, .unset, .unset, .unset, .unset, .unset, .unset] [(.int 2), (.int 0)]))
      have b203 : ¬ (0 : Int32) = (2 : Int32) := by decide
      refine Way.by (fun _ k => XS.icmpYes X173.here hx rfl (pc0 := 117) (pc' := 128) rfl (hb hby at_117) rfl (feq b203).2 (by decide) (by decide) k) ?_
      show Way _ _ _ _ (T172.setTop (mkF m 128 #[.val (.long r), .second, .val (.long i), .second, .val (.long d), .second, .val (.long xq), .second, iv sel, .val (.long dl), .second, iv 0, rv a163, .val (.long (r + dl)), .second, .val (.long i), .second, .unset, .unset, .unset, .unset, .unset, .unset] []))
      refine Way.by (fun _ k => XT.lload X173.here hx rfl (hb hby at_128) rfl k) ?_
      show Way _ _ _ _ (T172.setTop (mkF m 130 #[.val (.long r), .second, .val (.long i), .second, .val (.long d), .second, .val (.long xq), .second, iv sel, .val (.long dl), .second, iv 0, rv a163, .val (.long (r + dl)), .second, .val (.long i), .second, .unset, .unset, .unset, .unset, .unset, .unset] [(.long d)]))
      refine Way.by (fun _ k => XT.lstore X173.here hx rfl (hb hby at_130) rfl (l' := #[.val (.long r), .second, .val (.long i), .second, .val (.long d), .second, .val (.long xq), .second, iv sel, .val (.long dl), .second, iv 0, rv a163, .val (.long (r + dl)), .second, .val (.long i), .second, .val (.long d), .second, .unset, .unset, .unset, .unset]) rfl k) ?_
      show Way _ _ _ _ (T172.setTop (mkF m 132 #[.val (.long r), .second, .val (.long i), .second, .val (.long d), .second, .val (.long xq), .second, iv sel, .val (.long dl), .second, iv 0, rv a163, .val (.long (r + dl)), .second, .val (.long i), .second, .val (.long d), .second, .unset, .unset, .unset, .unset] []))
      refine Way.by (fun _ k => XS.iload X173.here hx rfl (hb hby at_132) rfl k) ?_
      show Way _ _ _ _ (T172.setTop (mkF m 134 #[.val (.long r), .second, .val (.long i), .second, .val (.long d), .second, .val (.long xq), .second, iv sel, .val (.long dl), .second, iv 0, rv a163, .val (.long (r + dl)), .second, .val (.long i), .second, .val (.long d), .second, .unset, .unset, .unset, .unset] [(.int 0)]))
      refine Way.by (fun _ k => XS.iconst X173.here hx rfl (hb hby at_134) k) ?_
      show Way _ _ _ _ (T172.setTop (mkF m 135 #[.val (.long r), .second, .val (.long i), .second, .val (.long d), .second, .val (.long xq), .second, iv sel, .val (.long dl), .second, iv 0, rv a163, .val (.long (r + dl)), .second, .val (.long i), .second, .val (.long d), .second, .unset, .unset, .unset, .unset] [(.int 3), (.int 0)]))
      have b204 : ¬ (0 : Int32) = (3 : Int32) := by decide
      refine Way.by (fun _ k => XS.icmpYes X173.here hx rfl (pc0 := 135) (pc' := 146) rfl (hb hby at_135) rfl (feq b204).2 (by decide) (by decide) k) ?_
      show Way _ _ _ _ (T172.setTop (mkF m 146 #[.val (.long r), .second, .val (.long i), .second, .val (.long d), .second, .val (.long xq), .second, iv sel, .val (.long dl), .second, iv 0, rv a163, .val (.long (r + dl)), .second, .val (.long i), .second, .val (.long d), .second, .unset, .unset, .unset, .unset] []))
      refine Way.by (fun _ k => XT.lload X173.here hx rfl (hb hby at_146) rfl k) ?_
      show Way _ _ _ _ (T172.setTop (mkF m 148 #[.val (.long r), .second, .val (.long i), .second, .val (.long d), .second, .val (.long xq), .second, iv sel, .val (.long dl), .second, iv 0, rv a163, .val (.long (r + dl)), .second, .val (.long i), .second, .val (.long d), .second, .unset, .unset, .unset, .unset] [(.long xq)]))
      refine Way.by (fun _ k => XT.lstore X173.here hx rfl (hb hby at_148) rfl (l' := #[.val (.long r), .second, .val (.long i), .second, .val (.long d), .second, .val (.long xq), .second, iv sel, .val (.long dl), .second, iv 0, rv a163, .val (.long (r + dl)), .second, .val (.long i), .second, .val (.long d), .second, .val (.long xq), .second, .unset, .unset]) rfl k) ?_
      show Way _ _ _ _ (T172.setTop (mkF m 150 #[.val (.long r), .second, .val (.long i), .second, .val (.long d), .second, .val (.long xq), .second, iv sel, .val (.long dl), .second, iv 0, rv a163, .val (.long (r + dl)), .second, .val (.long i), .second, .val (.long d), .second, .val (.long xq), .second, .unset, .unset] []))
      obtain ⟨T205, h206, X207, e208, E209, A210, D211, -, st212⟩ := newO X173 hx hZ hown (tw hw 0 rfl) (tw hw 1 rfl) (tw hw 2 rfl) rfl (g := (mkF m 150 #[.val (.long r), .second, .val (.long i), .second, .val (.long d), .second, .val (.long xq), .second, iv sel, .val (.long dl), .second, iv 0, rv a163, .val (.long (r + dl)), .second, .val (.long i), .second, .val (.long d), .second, .val (.long xq), .second, .unset, .unset] [])) rfl (hb hby at_150) (by decide) (by decide)
      obtain ⟨a213, g214⟩ : ∃ z, z = T172.heap.size := ⟨_, rfl⟩
      rw [← g214] at A210 D211 st212
      have ne215 : a163 ≠ a213 := Nat.ne_of_lt (Nat.lt_of_lt_of_eq F_0190.lt g214.symm)
      have nw216 : n0 ≤ a213 := Nat.le_trans Z196 (Nat.le_of_eq g214.symm)
      have E217 := Exa.ext E209 F_0190
      have F218 := Fld.ext E209 F_1191
      have F219 := Fld.ext E209 F_2192
      have F220 := Fld.ext E209 F_3193
      have F221 := Fld.ext E209 F_4194
      have Z222 := Nat.le_trans Z196 E209.1
      have O223 := O197.ext E209
      have F224 : Fld Z h206 a213 "com/example/outbox/outbox/QueueCounts" "ready" "J" (.long (0 : Int64)) := D211 (Or.inr (tw hw 10 rfl)) (ty := .long) (by decide)
      have F225 : Fld Z h206 a213 "com/example/outbox/outbox/QueueCounts" "inflight" "J" (.long (0 : Int64)) := D211 (Or.inr (tw hw 12 rfl)) (ty := .long) (by decide)
      have F226 : Fld Z h206 a213 "com/example/outbox/outbox/QueueCounts" "delayed" "J" (.long (0 : Int64)) := D211 (Or.inr (tw hw 14 rfl)) (ty := .long) (by decide)
      have F227 : Fld Z h206 a213 "com/example/outbox/outbox/QueueCounts" "dead" "J" (.long (0 : Int64)) := D211 (Or.inr (tw hw 16 rfl)) (ty := .long) (by decide)
      refine Way.by st212 ?_
      show Way _ _ _ _ (T205.setTop (mkF m 153 #[.val (.long r), .second, .val (.long i), .second, .val (.long d), .second, .val (.long xq), .second, iv sel, .val (.long dl), .second, iv 0, rv a163, .val (.long (r + dl)), .second, .val (.long i), .second, .val (.long d), .second, .val (.long xq), .second, .unset, .unset] [(.ref a213)]))
      refine Way.by (fun _ k => XS.dup X207.here hx rfl (hb hby at_153) rfl rfl k) ?_
      show Way _ _ _ _ (T205.setTop (mkF m 154 #[.val (.long r), .second, .val (.long i), .second, .val (.long d), .second, .val (.long xq), .second, iv sel, .val (.long dl), .second, iv 0, rv a163, .val (.long (r + dl)), .second, .val (.long i), .second, .val (.long d), .second, .val (.long xq), .second, .unset, .unset] [(.ref a213), (.ref a213)]))
      refine Way.by (fun _ k => XT.lload X207.here hx rfl (hb hby at_154) rfl k) ?_
      show Way _ _ _ _ (T205.setTop (mkF m 156 #[.val (.long r), .second, .val (.long i), .second, .val (.long d), .second, .val (.long xq), .second, iv sel, .val (.long dl), .second, iv 0, rv a163, .val (.long (r + dl)), .second, .val (.long i), .second, .val (.long d), .second, .val (.long xq), .second, .unset, .unset] [(.long (r + dl)), (.ref a213), (.ref a213)]))
      refine Way.by (fun _ k => XT.lload X207.here hx rfl (hb hby at_156) rfl k) ?_
      show Way _ _ _ _ (T205.setTop (mkF m 158 #[.val (.long r), .second, .val (.long i), .second, .val (.long d), .second, .val (.long xq), .second, iv sel, .val (.long dl), .second, iv 0, rv a163, .val (.long (r + dl)), .second, .val (.long i), .second, .val (.long d), .second, .val (.long xq), .second, .unset, .unset] [(.long i), (.long (r + dl)), (.ref a213), (.ref a213)]))
      refine Way.by (fun _ k => XT.lload X207.here hx rfl (hb hby at_158) rfl k) ?_
      show Way _ _ _ _ (T205.setTop (mkF m 160 #[.val (.long r), .second, .val (.long i), .second, .val (.long d), .second, .val (.long xq), .second, iv sel, .val (.long dl), .second, iv 0, rv a163, .val (.long (r + dl)), .second, .val (.long i), .second, .val (.long d), .second, .val (.long xq), .second, .unset, .unset] [(.long d), (.long i), (.long (r + dl)), (.ref a213), (.ref a213)]))
      refine Way.by (fun _ k => XT.lload X207.here hx rfl (hb hby at_160) rfl k) ?_
      show Way _ _ _ _ (T205.setTop (mkF m 162 #[.val (.long r), .second, .val (.long i), .second, .val (.long d), .second, .val (.long xq), .second, iv sel, .val (.long dl), .second, iv 0, rv a163, .val (.long (r + dl)), .second, .val (.long i), .second, .val (.long d), .second, .val (.long xq), .second, .unset, .unset] [(.long xq), (.long d), (.long i), (.long (r + dl)), (.ref a213), (.ref a213)]))
      obtain ⟨_, _, ⟨T228, L230, k231, n232⟩, -, X229, ⟨Lc233, hQ234, l235, y236, z237⟩, st238⟩ := X207.specialBack hx (y := (⟨"com/example/outbox/outbox/QueueCounts", "<init>", "(JJJJ)V"⟩ : MethodName)) rfl hown (mvT hZ (tw hw 3 rfl)) (mvT hZ (tw hw 4 rfl)) (mvT hZ (tw hw 5 rfl)) (by decide) (backOf (W := 1) (rmC l Z a0 hw [] a213 (r + dl) i d xq h206 n0 Z222 A210 F224 F225 F226 F227 nw216) hZ (tw hw 5 rfl) (tw hw 2 rfl) (by decide) (by decide)) (g := (mkF m 162 #[.val (.long r), .second, .val (.long i), .second, .val (.long d), .second, .val (.long xq), .second, iv sel, .val (.long dl), .second, iv 0, rv a163, .val (.long (r + dl)), .second, .val (.long i), .second, .val (.long d), .second, .val (.long xq), .second, .unset, .unset] [(.long xq), (.long d), (.long i), (.long (r + dl)), (.ref a213), (.ref a213)])) rfl (by rw [hml]; rfl) (Steps.refl _) (a := a213) (argsL := [(.long (r + dl)), (.long i), (.long d), (.long xq)]) (rest := [(.ref a213)]) (lenOf pdC rfl) rfl (leW rfl) (hb hby at_162) (fun _ _ => ⟨rfl, e208, (leB rfl), (leB rfl)⟩)
      dsimp only [Pt.U, Pt.locs, Pt.cells, Pt.slots] at X229 l235 y236 z237 st238 hQ234
      subst l235 y236 z237
      obtain ⟨rfl, N244, K245, F_0246, F_1247, F_2248, F_3249, F_4250⟩ := hQ234
      have N239 := Fr.app N183 N244
      have E251 := E217.keep K245
      have F252 := F218.keep K245 (ninS ne215 nin0)
      have F253 := F219.keep K245 (ninS ne215 nin0)
      have F254 := F220.keep K245 (ninS ne215 nin0)
      have F255 := F221.keep K245 (ninS ne215 nin0)
      have E256 := A210.keep K245
      have Z257 := Nat.le_trans Z222 K245.1
      have O258 := O223.keep K245 (allS nw216 all0)
      refine Way.to st238 ?_
      show Way _ _ _ _ (T228.setTop (mkF m 165 #[.val (.long r), .second, .val (.long i), .second, .val (.long d), .second, .val (.long xq), .second, iv sel, .val (.long dl), .second, iv 0, rv a163, .val (.long (r + dl)), .second, .val (.long i), .second, .val (.long d), .second, .val (.long xq), .second, .unset, .unset] [(.ref a213)]))
      refine Way.by (fun _ k => XS.astore X229.here hx rfl (hb hby at_165) rfl rfl (l' := #[.val (.long r), .second, .val (.long i), .second, .val (.long d), .second, .val (.long xq), .second, iv sel, .val (.long dl), .second, iv 0, rv a163, .val (.long (r + dl)), .second, .val (.long i), .second, .val (.long d), .second, .val (.long xq), .second, rv a213, .unset]) rfl k) ?_
      show Way _ _ _ _ (T228.setTop (mkF m 167 #[.val (.long r), .second, .val (.long i), .second, .val (.long d), .second, .val (.long xq), .second, iv sel, .val (.long dl), .second, iv 0, rv a163, .val (.long (r + dl)), .second, .val (.long i), .second, .val (.long d), .second, .val (.long xq), .second, rv a213, .unset] []))
      refine Way.by (fun _ k => XS.iload X229.here hx rfl (hb hby at_167) rfl k) ?_
      show Way _ _ _ _ (T228.setTop (mkF m 169 #[.val (.long r), .second, .val (.long i), .second, .val (.long d), .second, .val (.long xq), .second, iv sel, .val (.long dl), .second, iv 0, rv a163, .val (.long (r + dl)), .second, .val (.long i), .second, .val (.long d), .second, .val (.long xq), .second, rv a213, .unset] [(.int 0)]))
      refine Way.by (fun _ k => XS.iconst X229.here hx rfl (hb hby at_169) k) ?_
      show Way _ _ _ _ (T228.setTop (mkF m 170 #[.val (.long r), .second, .val (.long i), .second, .val (.long d), .second, .val (.long xq), .second, iv sel, .val (.long dl), .second, iv 0, rv a163, .val (.long (r + dl)), .second, .val (.long i), .second, .val (.long d), .second, .val (.long xq), .second, rv a213, .unset] [(.int 4), (.int 0)]))
      have b259 : ¬ (0 : Int32) = (4 : Int32) := by decide
      refine Way.by (fun _ k => XS.icmpNo X229.here hx rfl (hb hby at_170) rfl (feq b259).1 k) ?_
      show Way _ _ _ _ (T228.setTop (mkF m 173 #[.val (.long r), .second, .val (.long i), .second, .val (.long d), .second, .val (.long xq), .second, iv sel, .val (.long dl), .second, iv 0, rv a163, .val (.long (r + dl)), .second, .val (.long i), .second, .val (.long d), .second, .val (.long xq), .second, rv a213, .unset] []))
      refine Way.by (fun _ k => XT.lload X229.here hx rfl (hb hby at_173) rfl k) ?_
      show Way _ _ _ _ (T228.setTop (mkF m 175 #[.val (.long r), .second, .val (.long i), .second, .val (.long d), .second, .val (.long xq), .second, iv sel, .val (.long dl), .second, iv 0, rv a163, .val (.long (r + dl)), .second, .val (.long i), .second, .val (.long d), .second, .val (.long xq), .second, rv a213, .unset] [(.long dl)]))
      refine Way.by (fun _ k => XT.lconst X229.here hx rfl (hb hby at_175) k) ?_
      show Way _ _ _ _ (T228.setTop (mkF m 176 #[.val (.long r), .second, .val (.long i), .second, .val (.long d), .second, .val (.long xq), .second, iv sel, .val (.long dl), .second, iv 0, rv a163, .val (.long (r + dl)), .second, .val (.long i), .second, .val (.long d), .second, .val (.long xq), .second, rv a213, .unset] [(.long (0 : Int64)), (.long dl)]))
      refine Way.by (fun _ k => XT.lcmp X229.here hx rfl (hb hby at_176) rfl k) ?_
      show Way _ _ _ _ (T228.setTop (mkF m 177 #[.val (.long r), .second, .val (.long i), .second, .val (.long d), .second, .val (.long xq), .second, iv sel, .val (.long dl), .second, iv 0, rv a163, .val (.long (r + dl)), .second, .val (.long i), .second, .val (.long d), .second, .val (.long xq), .second, rv a213, .unset] [(.int (XT.cmpL dl (0 : Int64)))]))
      have b260 : ¬ (XT.cmpL dl (0 : Int64)) = (0 : Int32) := fun q => hdl ((cmpL0 _ _).mp q)
      refine Way.by (fun _ k => XS.ifYes X229.here hx rfl (pc0 := 177) (pc' := 184) rfl (hb hby at_177) rfl ((if0 .ne _).trans (feq b260).2) (by decide) (by decide) k) ?_
      show Way _ _ _ _ (T228.setTop (mkF m 184 #[.val (.long r), .second, .val (.long i), .second, .val (.long d), .second, .val (.long xq), .second, iv sel, .val (.long dl), .second, iv 0, rv a163, .val (.long (r + dl)), .second, .val (.long i), .second, .val (.long d), .second, .val (.long xq), .second, rv a213, .unset] []))
      refine Way.by (fun _ k => XS.iconst X229.here hx rfl (hb hby at_184) k) ?_
      show Way _ _ _ _ (T228.setTop (mkF m 185 #[.val (.long r), .second, .val (.long i), .second, .val (.long d), .second, .val (.long xq), .second, iv sel, .val (.long dl), .second, iv 0, rv a163, .val (.long (r + dl)), .second, .val (.long i), .second, .val (.long d), .second, .val (.long xq), .second, rv a213, .unset] [(.int 0)]))
      refine Way.by (fun _ k => XS.istore X229.here hx rfl (hb hby at_185) rfl (l' := #[.val (.long r), .second, .val (.long i), .second, .val (.long d), .second, .val (.long xq), .second, iv sel, .val (.long dl), .second, iv 0, rv a163, .val (.long (r + dl)), .second, .val (.long i), .second, .val (.long d), .second, .val (.long xq), .second, rv a213, iv 0]) rfl k) ?_
      show Way _ _ _ _ (T228.setTop (mkF m 187 #[.val (.long r), .second, .val (.long i), .second, .val (.long d), .second, .val (.long xq), .second, iv sel, .val (.long dl), .second, iv 0, rv a163, .val (.long (r + dl)), .second, .val (.long i), .second, .val (.long d), .second, .val (.long xq), .second, rv a213, iv 0] []))
      refine Way.by (fun _ k => XS.aload X229.here hx rfl (hb hby at_187) rfl rfl k) ?_
      show Way _ _ _ _ (T228.setTop (mkF m 189 #[.val (.long r), .second, .val (.long i), .second, .val (.long d), .second, .val (.long xq), .second, iv sel, .val (.long dl), .second, iv 0, rv a163, .val (.long (r + dl)), .second, .val (.long i), .second, .val (.long d), .second, .val (.long xq), .second, rv a213, iv 0] [(.ref a163)]))
      refine Way.by (fun _ k => XS.aload X229.here hx rfl (hb hby at_189) rfl rfl k) ?_
      show Way _ _ _ _ (T228.setTop (mkF m 191 #[.val (.long r), .second, .val (.long i), .second, .val (.long d), .second, .val (.long xq), .second, iv sel, .val (.long dl), .second, iv 0, rv a163, .val (.long (r + dl)), .second, .val (.long i), .second, .val (.long d), .second, .val (.long xq), .second, rv a213, iv 0] [(.ref a213), (.ref a163)]))
      obtain ⟨cq277, kq278, qa279, qb280, qc281⟩ := isOf hZ rfl E251
      obtain ⟨_, _, ⟨T261, L263, k264, n265⟩, -, X262, ⟨Lc266, hQ267, l268, y269, z270⟩, st271⟩ := X229.virtualBack hx (y := (⟨"com/example/outbox/outbox/QueueCounts", "equals", "(Ljava/lang/Object;)Z"⟩ : MethodName)) (z := (⟨"com/example/outbox/outbox/QueueCounts", "equals", "(Ljava/lang/Object;)Z"⟩ : MethodName)) hown (mvT hZ (tw hw 17 rfl)) (mvT hZ (tw hw 18 rfl)) (notFace_of_selects (args := #[]) (mvT hZ (tw hw 20 rfl))) (mvT hZ (tw hw 20 rfl)) (mvT hZ (tw hw 19 rfl)) (by decide) (backOf (W := 0) (rmE l Z a0 hw [] a163 a213 r i d xq (r + dl) i d xq (0 : Int32) T228.heap n0 Z257 F_0246 F252 F253 F254 F255 F_1247 F_2248 F_3249 F_4250 (by simp [addNe, addNe2, hdl])) hZ (tw hw 21 rfl) (tw hw 2 rfl) (by decide) (by decide)) qa279 qc281 (g := (mkF m 191 #[.val (.long r), .second, .val (.long i), .second, .val (.long d), .second, .val (.long xq), .second, iv sel, .val (.long dl), .second, iv 0, rv a163, .val (.long (r + dl)), .second, .val (.long i), .second, .val (.long d), .second, .val (.long xq), .second, rv a213, iv 0] [(.ref a213), (.ref a163)])) rfl (by rw [hml]; rfl) (Steps.refl _) (argsL := [(.ref a213)]) (rest := []) (lenOf pdE rfl) rfl (leW rfl) (hb hby at_191) (fun _ _ => ⟨rfl, rfl, (leB rfl), (leB rfl)⟩)
      dsimp only [Pt.U, Pt.locs, Pt.cells, Pt.slots] at X262 l268 y269 z270 st271 hQ267
      subst l268 y269 z270
      obtain ⟨rfl, N282, e273⟩ := hQ267
      have N272 := Fr.app N239 N282
      refine Way.to st271 ?_
      show Way _ _ _ _ (T261.setTop (mkF m 194 #[.val (.long r), .second, .val (.long i), .second, .val (.long d), .second, .val (.long xq), .second, iv sel, .val (.long dl), .second, iv 0, rv a163, .val (.long (r + dl)), .second, .val (.long i), .second, .val (.long d), .second, .val (.long xq), .second, rv a213, iv 0] [(.int 0)]))
      refine Way.by (fun _ k => XS.iload X262.here hx rfl (hb hby at_194) rfl k) ?_
      show Way _ _ _ _ (T261.setTop (mkF m 196 #[.val (.long r), .second, .val (.long i), .second, .val (.long d), .second, .val (.long xq), .second, iv sel, .val (.long dl), .second, iv 0, rv a163, .val (.long (r + dl)), .second, .val (.long i), .second, .val (.long d), .second, .val (.long xq), .second, rv a213, iv 0] [(.int 0), (.int 0)]))
      have b284 : (0 : Int32) = (0 : Int32) := by decide
      refine Way.by (fun _ k => XS.icmpNo X262.here hx rfl (hb hby at_196) rfl (teq b284).2 k) ?_
      show Way _ _ _ _ (T261.setTop (mkF m 199 #[.val (.long r), .second, .val (.long i), .second, .val (.long d), .second, .val (.long xq), .second, iv sel, .val (.long dl), .second, iv 0, rv a163, .val (.long (r + dl)), .second, .val (.long i), .second, .val (.long d), .second, .val (.long xq), .second, rv a213, iv 0] []))
      refine Way.by (fun _ k => XS.aload X262.here hx rfl (hb hby at_199) rfl rfl k) ?_
      show Way _ _ _ _ (T261.setTop (mkF m 201 #[.val (.long r), .second, .val (.long i), .second, .val (.long d), .second, .val (.long xq), .second, iv sel, .val (.long dl), .second, iv 0, rv a163, .val (.long (r + dl)), .second, .val (.long i), .second, .val (.long d), .second, .val (.long xq), .second, rv a213, iv 0] [(.ref a213)]))
      refine Way.by (fun _ k => XS.aload X262.here hx rfl (hb hby at_201) rfl rfl k) ?_
      show Way _ _ _ _ (T261.setTop (mkF m 203 #[.val (.long r), .second, .val (.long i), .second, .val (.long d), .second, .val (.long xq), .second, iv sel, .val (.long dl), .second, iv 0, rv a163, .val (.long (r + dl)), .second, .val (.long i), .second, .val (.long d), .second, .val (.long xq), .second, rv a213, iv 0] [(.ref a163), (.ref a213)]))
      obtain ⟨cq301, kq302, qa303, qb304, qc305⟩ := isOf hZ e273 F_0246
      obtain ⟨_, _, ⟨T285, L287, k288, n289⟩, -, X286, ⟨Lc290, hQ291, l292, y293, z294⟩, st295⟩ := X262.virtualBack hx (y := (⟨"com/example/outbox/outbox/QueueCounts", "equals", "(Ljava/lang/Object;)Z"⟩ : MethodName)) (z := (⟨"com/example/outbox/outbox/QueueCounts", "equals", "(Ljava/lang/Object;)Z"⟩ : MethodName)) hown (mvT hZ (tw hw 17 rfl)) (mvT hZ (tw hw 18 rfl)) (notFace_of_selects (args := #[]) (mvT hZ (tw hw 20 rfl))) (mvT hZ (tw hw 20 rfl)) (mvT hZ (tw hw 19 rfl)) (by decide) (backOf (W := 0) (rmE l Z a0 hw [] a213 a163 (r + dl) i d xq r i d xq (0 : Int32) T228.heap n0 Z257 E251 F_1247 F_2248 F_3249 F_4250 F252 F253 F254 F255 (by simp [addNe, addNe2, hdl])) hZ (tw hw 21 rfl) (tw hw 2 rfl) (by decide) (by decide)) qa303 qc305 (g := (mkF m 203 #[.val (.long r), .second, .val (.long i), .second, .val (.long d), .second, .val (.long xq), .second, iv sel, .val (.long dl), .second, iv 0, rv a163, .val (.long (r + dl)), .second, .val (.long i), .second, .val (.long d), .second, .val (.long xq), .second, rv a213, iv 0] [(.ref a163), (.ref a213)])) rfl (by rw [hml]; rfl) (Steps.refl _) (argsL := [(.ref a163)]) (rest := []) (lenOf pdE rfl) rfl (leW rfl) (hb hby at_203) (fun _ _ => ⟨rfl, e273, (leB rfl), (leB rfl)⟩)
      dsimp only [Pt.U, Pt.locs, Pt.cells, Pt.slots] at X286 l292 y293 z294 st295 hQ291
      subst l292 y293 z294
      obtain ⟨rfl, N306, e297⟩ := hQ291
      have N296 := Fr.app N272 N306
      refine Way.to st295 ?_
      show Way _ _ _ _ (T285.setTop (mkF m 206 #[.val (.long r), .second, .val (.long i), .second, .val (.long d), .second, .val (.long xq), .second, iv sel, .val (.long dl), .second, iv 0, rv a163, .val (.long (r + dl)), .second, .val (.long i), .second, .val (.long d), .second, .val (.long xq), .second, rv a213, iv 0] [(.int 0)]))
      refine Way.by (fun _ k => XS.iload X286.here hx rfl (hb hby at_206) rfl k) ?_
      show Way _ _ _ _ (T285.setTop (mkF m 208 #[.val (.long r), .second, .val (.long i), .second, .val (.long d), .second, .val (.long xq), .second, iv sel, .val (.long dl), .second, iv 0, rv a163, .val (.long (r + dl)), .second, .val (.long i), .second, .val (.long d), .second, .val (.long xq), .second, rv a213, iv 0] [(.int 0), (.int 0)]))
      have b308 : (0 : Int32) = (0 : Int32) := by decide
      refine Way.by (fun _ k => XS.icmpNo X286.here hx rfl (hb hby at_208) rfl (teq b308).2 k) ?_
      show Way _ _ _ _ (T285.setTop (mkF m 211 #[.val (.long r), .second, .val (.long i), .second, .val (.long d), .second, .val (.long xq), .second, iv sel, .val (.long dl), .second, iv 0, rv a163, .val (.long (r + dl)), .second, .val (.long i), .second, .val (.long d), .second, .val (.long xq), .second, rv a213, iv 0] []))
      refine Way.by (fun _ k => XS.iconst X286.here hx rfl (hb hby at_211) k) ?_
      show Way _ _ _ _ (T285.setTop (mkF m 212 #[.val (.long r), .second, .val (.long i), .second, .val (.long d), .second, .val (.long xq), .second, iv sel, .val (.long dl), .second, iv 0, rv a163, .val (.long (r + dl)), .second, .val (.long i), .second, .val (.long d), .second, .val (.long xq), .second, rv a213, iv 0] [(.int 1)]))
      refine Way.by (fun _ k => XS.goto X286.here hx rfl (pc0 := 212) (pc' := 216) rfl (hb hby at_212) (by decide) (by decide) k) ?_
      show Way _ _ _ _ (T285.setTop (mkF m 216 #[.val (.long r), .second, .val (.long i), .second, .val (.long d), .second, .val (.long xq), .second, iv sel, .val (.long dl), .second, iv 0, rv a163, .val (.long (r + dl)), .second, .val (.long i), .second, .val (.long d), .second, .val (.long xq), .second, rv a213, iv 0] [(.int 1)]))
      refine Way.ret (v := (some (.int (nar .boolean (1 : Int32))))) X286 hlk (fun h => by rw [Bd.returns] at h; cases h) (fun fs hr => retN X286 hx (t := .boolean) Bd.returns (by simp) (hb hby at_216) hr) ?_ (by decide) (by decide)
      show Q0 n0 _ T285.heap _
      rw [e297]
      exact ⟨rfl, N296⟩
  · skip
    show Way _ _ _ _ (s₁.setTop (mkF m 7 #[.val (.long r), .second, .val (.long i), .second, .val (.long d), .second, .val (.long xq), .second, iv sel, .val (.long dl), .second, iv 1, .unset, .unset, .unset, .unset, .unset, .unset, .unset, .unset, .unset, .unset, .unset] []))
    by_cases hdl : dl = 0
    · skip
      show Way _ _ _ _ (s₁.setTop (mkF m 7 #[.val (.long r), .second, .val (.long i), .second, .val (.long d), .second, .val (.long xq), .second, iv sel, .val (.long dl), .second, iv 1, .unset, .unset, .unset, .unset, .unset, .unset, .unset, .unset, .unset, .unset, .unset] []))
      obtain ⟨T309, h310, X311, e312, E313, A314, D315, -, st316⟩ := newO X0 hx hZ hown (tw hw 0 rfl) (tw hw 1 rfl) (tw hw 2 rfl) e0 (g := (mkF m 7 #[.val (.long r), .second, .val (.long i), .second, .val (.long d), .second, .val (.long xq), .second, iv sel, .val (.long dl), .second, iv 1, .unset, .unset, .unset, .unset, .unset, .unset, .unset, .unset, .unset, .unset, .unset] [])) rfl (hb hby at_7) (by decide) (by decide)
      obtain ⟨a317, g318⟩ : ∃ z, z = h0.size := ⟨_, rfl⟩
      rw [← g318] at A314 D315 st316
      have nw319 : n0 ≤ a317 := Nat.le_trans Z0 (Nat.le_of_eq g318.symm)
      have Z320 := Nat.le_trans Z0 E313.1
      have O321 := O0.ext E313
      have F322 : Fld Z h310 a317 "com/example/outbox/outbox/QueueCounts" "ready" "J" (.long (0 : Int64)) := D315 (Or.inr (tw hw 10 rfl)) (ty := .long) (by decide)
      have F323 : Fld Z h310 a317 "com/example/outbox/outbox/QueueCounts" "inflight" "J" (.long (0 : Int64)) := D315 (Or.inr (tw hw 12 rfl)) (ty := .long) (by decide)
      have F324 : Fld Z h310 a317 "com/example/outbox/outbox/QueueCounts" "delayed" "J" (.long (0 : Int64)) := D315 (Or.inr (tw hw 14 rfl)) (ty := .long) (by decide)
      have F325 : Fld Z h310 a317 "com/example/outbox/outbox/QueueCounts" "dead" "J" (.long (0 : Int64)) := D315 (Or.inr (tw hw 16 rfl)) (ty := .long) (by decide)
      refine Way.by st316 ?_
      show Way _ _ _ _ (T309.setTop (mkF m 10 #[.val (.long r), .second, .val (.long i), .second, .val (.long d), .second, .val (.long xq), .second, iv sel, .val (.long dl), .second, iv 1, .unset, .unset, .unset, .unset, .unset, .unset, .unset, .unset, .unset, .unset, .unset] [(.ref a317)]))
      refine Way.by (fun _ k => XS.dup X311.here hx rfl (hb hby at_10) rfl rfl k) ?_
      show Way _ _ _ _ (T309.setTop (mkF m 11 #[.val (.long r), .second, .val (.long i), .second, .val (.long d), .second, .val (.long xq), .second, iv sel, .val (.long dl), .second, iv 1, .unset, .unset, .unset, .unset, .unset, .unset, .unset, .unset, .unset, .unset, .unset] [(.ref a317), (.ref a317)]))
      refine Way.by (fun _ k => XT.lloadN X311.here hx rfl (hb hby at_11) rfl k) ?_
      show Way _ _ _ _ (T309.setTop (mkF m 12 #[.val (.long r), .second, .val (.long i), .second, .val (.long d), .second, .val (.long xq), .second, iv sel, .val (.long dl), .second, iv 1, .unset, .unset, .unset, .unset, .unset, .unset, .unset, .unset, .unset, .unset, .unset] [(.long r), (.ref a317), (.ref a317)]))
      refine Way.by (fun _ k => XT.lloadN X311.here hx rfl (hb hby at_12) rfl k) ?_
      show Way _ _ _ _ (T309.setTop (mkF m 13 #[.val (.long r), .second, .val (.long i), .second, .val (.long d), .second, .val (.long xq), .second, iv sel, .val (.long dl), .second, iv 1, .unset, .unset, .unset, .unset, .unset, .unset, .unset, .unset, .unset, .unset, .unset] [(.long i), (.long r), (.ref a317), (.ref a317)]))
      refine Way.by (fun _ k => XT.lload X311.here hx rfl (hb hby at_13) rfl k) ?_
      show Way _ _ _ _ (T309.setTop (mkF m 15 #[.val (.long r), .second, .val (.long i), .second, .val (.long d), .second, .val (.long xq), .second, iv sel, .val (.long dl), .second, iv 1, .unset, .unset, .unset, .unset, .unset, .unset, .unset, .unset, .unset, .unset, .unset] [(.long d), (.long i), (.long r), (.ref a317), (.ref a317)]))
      refine Way.by (fun _ k => XT.lload X311.here hx rfl (hb hby at_15) rfl k) ?_
      show Way _ _ _ _ (T309.setTop (mkF m 17 #[.val (.long r), .second, .val (.long i), .second, .val (.long d), .second, .val (.long xq), .second, iv sel, .val (.long dl), .second, iv 1, .unset, .unset, .unset, .unset, .unset, .unset, .unset, .unset, .unset, .unset, .unset] [(.long xq), (.long d), (.long i), (.long r), (.ref a317), (.ref a317)]))
      obtain ⟨_, _, ⟨T326, L328, k329, n330⟩, -, X327, ⟨Lc331, hQ332, l333, y334, z335⟩, st336⟩ := X311.specialBack hx (y := (⟨"com/example/outbox/outbox/QueueCounts", "<init>", "(JJJJ)V"⟩ : MethodName)) rfl hown (mvT hZ (tw hw 3 rfl)) (mvT hZ (tw hw 4 rfl)) (mvT hZ (tw hw 5 rfl)) (by decide) (backOf (W := 1) (rmC l Z a0 hw [] a317 r i d xq h310 n0 Z320 A314 F322 F323 F324 F325 nw319) hZ (tw hw 5 rfl) (tw hw 2 rfl) (by decide) (by decide)) (g := (mkF m 17 #[.val (.long r), .second, .val (.long i), .second, .val (.long d), .second, .val (.long xq), .second, iv sel, .val (.long dl), .second, iv 1, .unset, .unset, .unset, .unset, .unset, .unset, .unset, .unset, .unset, .unset, .unset] [(.long xq), (.long d), (.long i), (.long r), (.ref a317), (.ref a317)])) rfl (by rw [hml]; rfl) (Steps.refl _) (a := a317) (argsL := [(.long r), (.long i), (.long d), (.long xq)]) (rest := [(.ref a317)]) (lenOf pdC rfl) rfl (leW rfl) (hb hby at_17) (fun _ _ => ⟨rfl, e312, (leB rfl), (leB rfl)⟩)
      dsimp only [Pt.U, Pt.locs, Pt.cells, Pt.slots] at X327 l333 y334 z335 st336 hQ332
      subst l333 y334 z335
      obtain ⟨rfl, N342, K343, F_0344, F_1345, F_2346, F_3347, F_4348⟩ := hQ332
      have N337 := Fr.app N0 N342
      have E349 := A314.keep K343
      have Z350 := Nat.le_trans Z320 K343.1
      have O351 := O321.keep K343 (allS nw319 all0)
      refine Way.to st336 ?_
      show Way _ _ _ _ (T326.setTop (mkF m 20 #[.val (.long r), .second, .val (.long i), .second, .val (.long d), .second, .val (.long xq), .second, iv sel, .val (.long dl), .second, iv 1, .unset, .unset, .unset, .unset, .unset, .unset, .unset, .unset, .unset, .unset, .unset] [(.ref a317)]))
      refine Way.by (fun _ k => XS.astore X327.here hx rfl (hb hby at_20) rfl rfl (l' := #[.val (.long r), .second, .val (.long i), .second, .val (.long d), .second, .val (.long xq), .second, iv sel, .val (.long dl), .second, iv 1, rv a317, .unset, .unset, .unset, .unset, .unset, .unset, .unset, .unset, .unset, .unset]) rfl k) ?_
      show Way _ _ _ _ (T326.setTop (mkF m 22 #[.val (.long r), .second, .val (.long i), .second, .val (.long d), .second, .val (.long xq), .second, iv sel, .val (.long dl), .second, iv 1, rv a317, .unset, .unset, .unset, .unset, .unset, .unset, .unset, .unset, .unset, .unset] []))
      refine Way.by (fun _ k => XS.iload X327.here hx rfl (hb hby at_22) rfl k) ?_
      show Way _ _ _ _ (T326.setTop (mkF m 24 #[.val (.long r), .second, .val (.long i), .second, .val (.long d), .second, .val (.long xq), .second, iv sel, .val (.long dl), .second, iv 1, rv a317, .unset, .unset, .unset, .unset, .unset, .unset, .unset, .unset, .unset, .unset] [(.int 1)]))
      refine Way.by (fun _ k => XS.iconst X327.here hx rfl (hb hby at_24) k) ?_
      show Way _ _ _ _ (T326.setTop (mkF m 25 #[.val (.long r), .second, .val (.long i), .second, .val (.long d), .second, .val (.long xq), .second, iv sel, .val (.long dl), .second, iv 1, rv a317, .unset, .unset, .unset, .unset, .unset, .unset, .unset, .unset, .unset, .unset] [(.int 5), (.int 1)]))
      have b352 : ¬ (1 : Int32) = (5 : Int32) := by decide
      refine Way.by (fun _ k => XS.icmpYes X327.here hx rfl (pc0 := 25) (pc' := 43) rfl (hb hby at_25) rfl (feq b352).2 (by decide) (by decide) k) ?_
      show Way _ _ _ _ (T326.setTop (mkF m 43 #[.val (.long r), .second, .val (.long i), .second, .val (.long d), .second, .val (.long xq), .second, iv sel, .val (.long dl), .second, iv 1, rv a317, .unset, .unset, .unset, .unset, .unset, .unset, .unset, .unset, .unset, .unset] []))
      refine Way.by (fun _ k => XS.iload X327.here hx rfl (hb hby at_43) rfl k) ?_
      show Way _ _ _ _ (T326.setTop (mkF m 45 #[.val (.long r), .second, .val (.long i), .second, .val (.long d), .second, .val (.long xq), .second, iv sel, .val (.long dl), .second, iv 1, rv a317, .unset, .unset, .unset, .unset, .unset, .unset, .unset, .unset, .unset, .unset] [(.int 1)]))
      refine Way.by (fun _ k => XS.bipush X327.here hx rfl (hb hby at_45) k) ?_
      show Way _ _ _ _ (T326.setTop (mkF m 47 #[.val (.long r), .second, .val (.long i), .second, .val (.long d), .second, .val (.long xq), .second, iv sel, .val (.long dl), .second, iv 1, rv a317, .unset, .unset, .unset, .unset, .unset, .unset, .unset, .unset, .unset, .unset] [(.int 6), (.int 1)]))
      have b353 : ¬ (1 : Int32) = (6 : Int32) := by decide
      refine Way.by (fun _ k => XS.icmpYes X327.here hx rfl (pc0 := 47) (pc' := 68) rfl (hb hby at_47) rfl (feq b353).2 (by decide) (by decide) k) ?_
      show Way _ _ _ _ (T326.setTop (mkF m 68 #[.val (.long r), .second, .val (.long i), .second, .val (.long d), .second, .val (.long xq), .second, iv sel, .val (.long dl), .second, iv 1, rv a317, .unset, .unset, .unset, .unset, .unset, .unset, .unset, .unset, .unset, .unset] []))
      refine Way.by (fun _ k => XS.iload X327.here hx rfl (hb hby at_68) rfl k) ?_
      show Way _ _ _ _ (T326.setTop (mkF m 70 #[.val (.long r), .second, .val (.long i), .second, .val (.long d), .second, .val (.long xq), .second, iv sel, .val (.long dl), .second, iv 1, rv a317, .unset, .unset, .unset, .unset, .unset, .unset, .unset, .unset, .unset, .unset] [(.int 1)]))
      refine Way.by (fun _ k => XS.bipush X327.here hx rfl (hb hby at_70) k) ?_
      show Way _ _ _ _ (T326.setTop (mkF m 72 #[.val (.long r), .second, .val (.long i), .second, .val (.long d), .second, .val (.long xq), .second, iv sel, .val (.long dl), .second, iv 1, rv a317, .unset, .unset, .unset, .unset, .unset, .unset, .unset, .unset, .unset, .unset] [(.int 7), (.int 1)]))
      have b354 : ¬ (1 : Int32) = (7 : Int32) := by decide
      refine Way.by (fun _ k => XS.icmpYes X327.here hx rfl (pc0 := 72) (pc' := 83) rfl (hb hby at_72) rfl (feq b354).2 (by decide) (by decide) k) ?_
      show Way _ _ _ _ (T326.setTop (mkF m 83 #[.val (.long r), .second, .val (.long i), .second, .val (.long d), .second, .val (.long xq), .second, iv sel, .val (.long dl), .second, iv 1, rv a317, .unset, .unset, .unset, .unset, .unset, .unset, .unset, .unset, .unset, .unset] []))
      refine Way.by (fun _ k => XS.iload X327.here hx rfl (hb hby at_83) rfl k) ?_
      show Way _ _ _ _ (T326.setTop (mkF m 85 #[.val (.long r), .second, .val (.long i), .second, .val (.long d), .second, .val (.long xq), .second, iv sel, .val (.long dl), .second, iv 1, rv a317, .unset, .unset, .unset, .unset, .unset, .unset, .unset, .unset, .unset, .unset] [(.int 1)]))
      have b355 : ¬ (1 : Int32) = (0 : Int32) := by decide
      refine Way.by (fun _ k => XS.ifYes X327.here hx rfl (pc0 := 85) (pc' := 95) rfl (hb hby at_85) rfl ((if0 .ne _).trans (feq b355).2) (by decide) (by decide) k) ?_
      show Way _ _ _ _ (T326.setTop (mkF m 95 #[.val (.long r), .second, .val (.long i), .second, .val (.long d), .second, .val (.long xq), .second, iv sel, .val (.long dl), .second, iv 1, rv a317, .unset, .unset, .unset, .unset, .unset, .unset, .unset, .unset, .unset, .unset] []))
      refine Way.by (fun _ k => XT.lloadN X327.here hx rfl (hb hby at_95) rfl k) ?_
      show Way _ _ _ _ (T326.setTop (mkF m 96 #[.val (.long r), .second, .val (.long i), .second, .val (.long d), .second, .val (.long xq), .second, iv sel, .val (.long dl), .second, iv 1, rv a317, .unset, .unset, .unset, .unset, .unset, .unset, .unset, .unset, .unset, .unset] [(.long r)]))
      refine Way.by (fun _ k => XT.lstore X327.here hx rfl (hb hby at_96) rfl (l' := #[.val (.long r), .second, .val (.long i), .second, .val (.long d), .second, .val (.long xq), .second, iv sel, .val (.long dl), .second, iv 1, rv a317, .val (.long r), .second, .unset, .unset, .unset, .unset, .unset, .unset, .unset, .unset]) rfl k) ?_
      show Way _ _ _ _ (T326.setTop (mkF m 98 #[.val (.long r), .second, .val (.long i), .second, .val (.long d), .second, .val (.long xq), .second, iv sel, .val (.long dl), .second, iv 1, rv a317, .val (.long r), .second, .unset, .unset, .unset, .unset, .unset, .unset, .unset, .unset] []))
      refine Way.by (fun _ k => XS.iload X327.here hx rfl (hb hby at_98) rfl k) ?_
      show Way _ _ _ _ (T326.setTop (mkF m 100 #[.val (.long r), .second, .val (.long i), .second, .val (.long d), .second, .val (.long xq), .second, iv sel, .val (.long dl), .second, iv 1, rv a317, .val (.long r), .second, .unset, .unset, .unset, .unset, .unset, .unset, .unset, .unset] [(.int 1)]))
      refine Way.by (fun _ k => XS.iconst X327.here hx rfl (hb hby at_100) k) ?_
      show Way _ _ _ _ (T326.setTop (mkF m 101 #[.val (.long r), .second, .val (.long i), .second, .val (.long d), .second, .val (.long xq), .second, iv sel, .val (.long dl), .second, iv 1, rv a317, .val (.long r), .second, .unset, .unset, .unset, .unset, .unset, .unset, .unset, .unset] [(.int 1), (.int 1)]))
      have b356 : (1 : Int32) = (1 : Int32) := by decide
      refine Way.by (fun _ k => XS.icmpNo X327.here hx rfl (hb hby at_101) rfl (teq b356).2 k) ?_
      show Way _ _ _ _ (T326.setTop (mkF m 104 #[.val (.long r), .second, .val (.long i), .second, .val (.long d), .second, .val (.long xq), .second, iv sel, .val (.long dl), .second, iv 1, rv a317, .val (.long r), .second, .unset, .unset, .unset, .unset, .unset, .unset, .unset, .unset] []))
      refine Way.by (fun _ k => XT.lloadN X327.here hx rfl (hb hby at_104) rfl k) ?_
      show Way _ _ _ _ (T326.setTop (mkF m 105 #[.val (.long r), .second, .val (.long i), .second, .val (.long d), .second, .val (.long xq), .second, iv sel, .val (.long dl), .second, iv 1, rv a317, .val (.long r), .second, .unset, .unset, .unset, .unset, .unset, .unset, .unset, .unset] [(.long i)]))
      refine Way.by (fun _ k => XT.lload X327.here hx rfl (hb hby at_105) rfl k) ?_
      show Way _ _ _ _ (T326.setTop (mkF m 107 #[.val (.long r), .second, .val (.long i), .second, .val (.long d), .second, .val (.long xq), .second, iv sel, .val (.long dl), .second, iv 1, rv a317, .val (.long r), .second, .unset, .unset, .unset, .unset, .unset, .unset, .unset, .unset] [(.long dl), (.long i)]))
      refine Way.by (fun _ k => XT.ladd X327.here hx rfl (hb hby at_107) rfl k) ?_
      show Way _ _ _ _ (T326.setTop (mkF m 108 #[.val (.long r), .second, .val (.long i), .second, .val (.long d), .second, .val (.long xq), .second, iv sel, .val (.long dl), .second, iv 1, rv a317, .val (.long r), .second, .unset, .unset, .unset, .unset, .unset, .unset, .unset, .unset] [(.long (i + dl))]))
      refine Way.by (fun _ k => XS.goto X327.here hx rfl (pc0 := 108) (pc' := 112) rfl (hb hby at_108) (by decide) (by decide) k) ?_
      show Way _ _ _ _ (T326.setTop (mkF m 112 #[.val (.long r), .second, .val (.long i), .second, .val (.long d), .second, .val (.long xq), .second, iv sel, .val (.long dl), .second, iv 1, rv a317, .val (.long r), .second, .unset, .unset, .unset, .unset, .unset, .unset, .unset, .unset] [(.long (i + dl))]))
      refine Way.by (fun _ k => XT.lstore X327.here hx rfl (hb hby at_112) rfl (l' := #[.val (.long r), .second, .val (.long i), .second, .val (.long d), .second, .val (.long xq), .second, iv sel, .val (.long dl), .second, iv 1, rv a317, .val (.long r), .second, .val (.long (i + dl)), .second, .unset, .unset, .unset, .unset, .unset, .unset]) rfl k) ?_
      show Way _ _ _ _ (T326.setTop (mkF m 114 #[.val (.long r), .second, .val (.long i), .second, .val (.long d), .second, .val (.long xq), .second, iv sel, .val (.long dl), .second, iv 1, rv a317, .val (.long r), .second, .val (.long (i + dl)), .second, .unset, .unset, .unset, .unset, .unset, .unset] []))
      refine Way.by (fun _ k => XS.iload X327.here hx rfl (hb hby at_114) rfl k) ?_
      show Way _ _ _ _ (T326.setTop (mkF m 116 #[.val (.long r), .second, .val (.long i), .second, .val (.long d), .second, .val (.long xq), .second, iv sel, .val (.long dl), .second, iv 1, rv a317, .val (.long r), .second, .val (.long (i + dl)), .second, .unset, .unset, .unset, .unset, .unset, .unset] [(.int 1)]))
      refine Way.by (fun _ k => XS.iconst X327.here hx rfl (hb hby at_116) k) ?_
      show Way _ _ _ _ (T326.setTop (mkF m 117 #[.val (.long r), .second, .val (.long i), .second, .val (.long d), .second, .val (.long xq), .second, iv sel, .val (.long dl), .second, iv 1, rv a317, .val (.long r), .second, .val (.long (i + dl)), .second, .unset, .unset, .unset, .unset, .unset, .unset] [(.int 2), (.int 1)]))
      have b357 : ¬ (1 : Int32) = (2 : Int32) := by decide
      refine Way.by (fun _ k => XS.icmpYes X327.here hx rfl (pc0 := 117) (pc' := 128) rfl (hb hby at_117) rfl (feq b357).2 (by decide) (by decide) k) ?_
      show Way _ _ _ _ (T326.setTop (mkF m 128 #[.val (.long r), .second, .val (.long i), .second, .val (.long d), .second, .val (.long xq), .second, iv sel, .val (.long dl), .second, iv 1, rv a317, .val (.long r), .second, .val (.long (i + dl)), .second, .unset, .unset, .unset, .unset, .unset, .unset] []))
      refine Way.by (fun _ k => XT.lload X327.here hx rfl (hb hby at_128) rfl k) ?_
      show Way _ _ _ _ (T326.setTop (mkF m 130 #[.val (.long r), .second, .val (.long i), .second, .val (.long d), .second, .val (.long xq), .second, iv sel, .val (.long dl), .second, iv 1, rv a317, .val (.long r), .second, .val (.long (i + dl)), .second, .unset, .unset, .unset, .unset, .unset, .unset] [(.long d)]))
      refine Way.by (fun _ k => XT.lstore X327.here hx rfl (hb hby at_130) rfl (l' := #[.val (.long r), .second, .val (.long i), .second, .val (.long d), .second, .val (.long xq), .second, iv sel, .val (.long dl), .second, iv 1, rv a317, .val (.long r), .second, .val (.long (i + dl)), .second, .val (.long d), .second, .unset, .unset, .unset, .unset]) rfl k) ?_
      show Way _ _ _ _ (T326.setTop (mkF m 132 #[.val (.long r), .second, .val (.long i), .second, .val (.long d), .second, .val (.long xq), .second, iv sel, .val (.long dl), .second, iv 1, rv a317, .val (.long r), .second, .val (.long (i + dl)), .second, .val (.long d), .second, .unset, .unset, .unset, .unset] []))
      refine Way.by (fun _ k => XS.iload X327.here hx rfl (hb hby at_132) rfl k) ?_
      show Way _ _ _ _ (T326.setTop (mkF m 134 #[.val (.long r), .second, .val (.long i), .second, .val (.long d), .second, .val (.long xq), .second, iv sel, .val (.long dl), .second, iv 1, rv a317, .val (.long r), .second, .val (.long (i + dl)), .second, .val (.long d), .second, .unset, .unset, .unset, .unset] [(.int 1)]))
      refine Way.by (fun _ k => XS.iconst X327.here hx rfl (hb hby at_134) k) ?_
      show Way _ _ _ _ (T326.setTop (mkF m 135 #[.val (.long r), .second, .val (.long i), .second, .val (.long d), .second, .val (.long xq), .second, iv sel, .val (.long dl), .second, iv 1, rv a317, .val (.long r), .second, .val (.long (i + dl)), .second, .val (.long d), .second, .unset, .unset, .unset, .unset] [(.int 3), (.int 1)]))
      have b358 : ¬ (1 : Int32) = (3 : Int32) := by decide
      refine Way.by (fun _ k => XS.icmpYes X327.here hx rfl (pc0 := 135) (pc' := 146) rfl (hb hby at_135) rfl (feq b358).2 (by decide) (by decide) k) ?_
      show Way _ _ _ _ (T326.setTop (mkF m 146 #[.val (.long r), .second, .val (.long i), .second, .val (.long d), .second, .val (.long xq), .second, iv sel, .val (.long dl), .second, iv 1, rv a317, .val (.long r), .second, .val (.long (i + dl)), .second, .val (.long d), .second, .unset, .unset, .unset, .unset] []))
      refine Way.by (fun _ k => XT.lload X327.here hx rfl (hb hby at_146) rfl k) ?_
      show Way _ _ _ _ (T326.setTop (mkF m 148 #[.val (.long r), .second, .val (.long i), .second, .val (.long d), .second, .val (.long xq), .second, iv sel, .val (.long dl), .second, iv 1, rv a317, .val (.long r), .second, .val (.long (i + dl)), .second, .val (.long d), .second, .unset, .unset, .unset, .unset] [(.long xq)]))
      refine Way.by (fun _ k => XT.lstore X327.here hx rfl (hb hby at_148) rfl (l' := #[.val (.long r), .second, .val (.long i), .second, .val (.long d), .second, .val (.long xq), .second, iv sel, .val (.long dl), .second, iv 1, rv a317, .val (.long r), .second, .val (.long (i + dl)), .second, .val (.long d), .second, .val (.long xq), .second, .unset, .unset]) rfl k) ?_
      show Way _ _ _ _ (T326.setTop (mkF m 150 #[.val (.long r), .second, .val (.long i), .second, .val (.long d), .second, .val (.long xq), .second, iv sel, .val (.long dl), .second, iv 1, rv a317, .val (.long r), .second, .val (.long (i + dl)), .second, .val (.long d), .second, .val (.long xq), .second, .unset, .unset] []))
      obtain ⟨T359, h360, X361, e362, E363, A364, D365, -, st366⟩ := newO X327 hx hZ hown (tw hw 0 rfl) (tw hw 1 rfl) (tw hw 2 rfl) rfl (g := (mkF m 150 #[.val (.long r), .second, .val (.long i), .second, .val (.long d), .second, .val (.long xq), .second, iv sel, .val (.long dl), .second, iv 1, rv a317, .val (.long r), .second, .val (.long (i + dl)), .second, .val (.long d), .second, .val (.long xq), .second, .unset, .unset] [])) rfl (hb hby at_150) (by decide) (by decide)
      obtain ⟨a367, g368⟩ : ∃ z, z = T326.heap.size := ⟨_, rfl⟩
      rw [← g368] at A364 D365 st366
      have ne369 : a317 ≠ a367 := Nat.ne_of_lt (Nat.lt_of_lt_of_eq F_0344.lt g368.symm)
      have nw370 : n0 ≤ a367 := Nat.le_trans Z350 (Nat.le_of_eq g368.symm)
      have E371 := Exa.ext E363 F_0344
      have F372 := Fld.ext E363 F_1345
      have F373 := Fld.ext E363 F_2346
      have F374 := Fld.ext E363 F_3347
      have F375 := Fld.ext E363 F_4348
      have Z376 := Nat.le_trans Z350 E363.1
      have O377 := O351.ext E363
      have F378 : Fld Z h360 a367 "com/example/outbox/outbox/QueueCounts" "ready" "J" (.long (0 : Int64)) := D365 (Or.inr (tw hw 10 rfl)) (ty := .long) (by decide)
      have F379 : Fld Z h360 a367 "com/example/outbox/outbox/QueueCounts" "inflight" "J" (.long (0 : Int64)) := D365 (Or.inr (tw hw 12 rfl)) (ty := .long) (by decide)
      have F380 : Fld Z h360 a367 "com/example/outbox/outbox/QueueCounts" "delayed" "J" (.long (0 : Int64)) := D365 (Or.inr (tw hw 14 rfl)) (ty := .long) (by decide)
      have F381 : Fld Z h360 a367 "com/example/outbox/outbox/QueueCounts" "dead" "J" (.long (0 : Int64)) := D365 (Or.inr (tw hw 16 rfl)) (ty := .long) (by decide)
      refine Way.by st366 ?_
      show Way _ _ _ _ (T359.setTop (mkF m 153 #[.val (.long r), .second, .val (.long i), .second, .val (.long d), .second, .val (.long xq), .second, iv sel, .val (.long dl), .second, iv 1, rv a317, .val (.long r), .second, .val (.long (i + dl)), .second, .val (.long d), .second, .val (.long xq), .second, .unset, .unset] [(.ref a367)]))
      refine Way.by (fun _ k => XS.dup X361.here hx rfl (hb hby at_153) rfl rfl k) ?_
      show Way _ _ _ _ (T359.setTop (mkF m 154 #[.val (.long r), .second, .val (.long i), .second, .val (.long d), .second, .val (.long xq), .second, iv sel, .val (.long dl), .second, iv 1, rv a317, .val (.long r), .second, .val (.long (i + dl)), .second, .val (.long d), .second, .val (.long xq), .second, .unset, .unset] [(.ref a367), (.ref a367)]))
      refine Way.by (fun _ k => XT.lload X361.here hx rfl (hb hby at_154) rfl k) ?_
      show Way _ _ _ _ (T359.setTop (mkF m 156 #[.val (.long r), .second, .val (.long i), .second, .val (.long d), .second, .val (.long xq), .second, iv sel, .val (.long dl), .second, iv 1, rv a317, .val (.long r), .second, .val (.long (i + dl)), .second, .val (.long d), .second, .val (.long xq), .second, .unset, .unset] [(.long r), (.ref a367), (.ref a367)]))
      refine Way.by (fun _ k => XT.lload X361.here hx rfl (hb hby at_156) rfl k) ?_
      show Way _ _ _ _ (T359.setTop (mkF m 158 #[.val (.long r), .second, .val (.long i), .second, .val (.long d), .second, .val (.long xq), .second, iv sel, .val (.long dl), .second, iv 1, rv a317, .val (.long r), .second, .val (.long (i + dl)), .second, .val (.long d), .second, .val (.long xq), .second, .unset, .unset] [(.long (i + dl)), (.long r), (.ref a367), (.ref a367)]))
      refine Way.by (fun _ k => XT.lload X361.here hx rfl (hb hby at_158) rfl k) ?_
      show Way _ _ _ _ (T359.setTop (mkF m 160 #[.val (.long r), .second, .val (.long i), .second, .val (.long d), .second, .val (.long xq), .second, iv sel, .val (.long dl), .second, iv 1, rv a317, .val (.long r), .second, .val (.long (i + dl)), .second, .val (.long d), .second, .val (.long xq), .second, .unset, .unset] [(.long d), (.long (i + dl)), (.long r), (.ref a367), (.ref a367)]))
      refine Way.by (fun _ k => XT.lload X361.here hx rfl (hb hby at_160) rfl k) ?_
      show Way _ _ _ _ (T359.setTop (mkF m 162 #[.val (.long r), .second, .val (.long i), .second, .val (.long d), .second, .val (.long xq), .second, iv sel, .val (.long dl), .second, iv 1, rv a317, .val (.long r), .second, .val (.long (i + dl)), .second, .val (.long d), .second, .val (.long xq), .second, .unset, .unset] [(.long xq), (.long d), (.long (i + dl)), (.long r), (.ref a367), (.ref a367)]))
      obtain ⟨_, _, ⟨T382, L384, k385, n386⟩, -, X383, ⟨Lc387, hQ388, l389, y390, z391⟩, st392⟩ := X361.specialBack hx (y := (⟨"com/example/outbox/outbox/QueueCounts", "<init>", "(JJJJ)V"⟩ : MethodName)) rfl hown (mvT hZ (tw hw 3 rfl)) (mvT hZ (tw hw 4 rfl)) (mvT hZ (tw hw 5 rfl)) (by decide) (backOf (W := 1) (rmC l Z a0 hw [] a367 r (i + dl) d xq h360 n0 Z376 A364 F378 F379 F380 F381 nw370) hZ (tw hw 5 rfl) (tw hw 2 rfl) (by decide) (by decide)) (g := (mkF m 162 #[.val (.long r), .second, .val (.long i), .second, .val (.long d), .second, .val (.long xq), .second, iv sel, .val (.long dl), .second, iv 1, rv a317, .val (.long r), .second, .val (.long (i + dl)), .second, .val (.long d), .second, .val (.long xq), .second, .unset, .unset] [(.long xq), (.long d), (.long (i + dl)), (.long r), (.ref a367), (.ref a367)])) rfl (by rw [hml]; rfl) (Steps.refl _) (a := a367) (argsL := [(.long r), (.long (i + dl)), (.long d), (.long xq)]) (rest := [(.ref a367)]) (lenOf pdC rfl) rfl (leW rfl) (hb hby at_162) (fun _ _ => ⟨rfl, e362, (leB rfl), (leB rfl)⟩)
      dsimp only [Pt.U, Pt.locs, Pt.cells, Pt.slots] at X383 l389 y390 z391 st392 hQ388
      subst l389 y390 z391
      obtain ⟨rfl, N398, K399, F_0400, F_1401, F_2402, F_3403, F_4404⟩ := hQ388
      have N393 := Fr.app N337 N398
      have E405 := E371.keep K399
      have F406 := F372.keep K399 (ninS ne369 nin0)
      have F407 := F373.keep K399 (ninS ne369 nin0)
      have F408 := F374.keep K399 (ninS ne369 nin0)
      have F409 := F375.keep K399 (ninS ne369 nin0)
      have E410 := A364.keep K399
      have Z411 := Nat.le_trans Z376 K399.1
      have O412 := O377.keep K399 (allS nw370 all0)
      refine Way.to st392 ?_
      show Way _ _ _ _ (T382.setTop (mkF m 165 #[.val (.long r), .second, .val (.long i), .second, .val (.long d), .second, .val (.long xq), .second, iv sel, .val (.long dl), .second, iv 1, rv a317, .val (.long r), .second, .val (.long (i + dl)), .second, .val (.long d), .second, .val (.long xq), .second, .unset, .unset] [(.ref a367)]))
      refine Way.by (fun _ k => XS.astore X383.here hx rfl (hb hby at_165) rfl rfl (l' := #[.val (.long r), .second, .val (.long i), .second, .val (.long d), .second, .val (.long xq), .second, iv sel, .val (.long dl), .second, iv 1, rv a317, .val (.long r), .second, .val (.long (i + dl)), .second, .val (.long d), .second, .val (.long xq), .second, rv a367, .unset]) rfl k) ?_
      show Way _ _ _ _ (T382.setTop (mkF m 167 #[.val (.long r), .second, .val (.long i), .second, .val (.long d), .second, .val (.long xq), .second, iv sel, .val (.long dl), .second, iv 1, rv a317, .val (.long r), .second, .val (.long (i + dl)), .second, .val (.long d), .second, .val (.long xq), .second, rv a367, .unset] []))
      refine Way.by (fun _ k => XS.iload X383.here hx rfl (hb hby at_167) rfl k) ?_
      show Way _ _ _ _ (T382.setTop (mkF m 169 #[.val (.long r), .second, .val (.long i), .second, .val (.long d), .second, .val (.long xq), .second, iv sel, .val (.long dl), .second, iv 1, rv a317, .val (.long r), .second, .val (.long (i + dl)), .second, .val (.long d), .second, .val (.long xq), .second, rv a367, .unset] [(.int 1)]))
      refine Way.by (fun _ k => XS.iconst X383.here hx rfl (hb hby at_169) k) ?_
      show Way _ _ _ _ (T382.setTop (mkF m 170 #[.val (.long r), .second, .val (.long i), .second, .val (.long d), .second, .val (.long xq), .second, iv sel, .val (.long dl), .second, iv 1, rv a317, .val (.long r), .second, .val (.long (i + dl)), .second, .val (.long d), .second, .val (.long xq), .second, rv a367, .unset] [(.int 4), (.int 1)]))
      have b413 : ¬ (1 : Int32) = (4 : Int32) := by decide
      refine Way.by (fun _ k => XS.icmpNo X383.here hx rfl (hb hby at_170) rfl (feq b413).1 k) ?_
      show Way _ _ _ _ (T382.setTop (mkF m 173 #[.val (.long r), .second, .val (.long i), .second, .val (.long d), .second, .val (.long xq), .second, iv sel, .val (.long dl), .second, iv 1, rv a317, .val (.long r), .second, .val (.long (i + dl)), .second, .val (.long d), .second, .val (.long xq), .second, rv a367, .unset] []))
      refine Way.by (fun _ k => XT.lload X383.here hx rfl (hb hby at_173) rfl k) ?_
      show Way _ _ _ _ (T382.setTop (mkF m 175 #[.val (.long r), .second, .val (.long i), .second, .val (.long d), .second, .val (.long xq), .second, iv sel, .val (.long dl), .second, iv 1, rv a317, .val (.long r), .second, .val (.long (i + dl)), .second, .val (.long d), .second, .val (.long xq), .second, rv a367, .unset] [(.long dl)]))
      refine Way.by (fun _ k => XT.lconst X383.here hx rfl (hb hby at_175) k) ?_
      show Way _ _ _ _ (T382.setTop (mkF m 176 #[.val (.long r), .second, .val (.long i), .second, .val (.long d), .second, .val (.long xq), .second, iv sel, .val (.long dl), .second, iv 1, rv a317, .val (.long r), .second, .val (.long (i + dl)), .second, .val (.long d), .second, .val (.long xq), .second, rv a367, .unset] [(.long (0 : Int64)), (.long dl)]))
      refine Way.by (fun _ k => XT.lcmp X383.here hx rfl (hb hby at_176) rfl k) ?_
      show Way _ _ _ _ (T382.setTop (mkF m 177 #[.val (.long r), .second, .val (.long i), .second, .val (.long d), .second, .val (.long xq), .second, iv sel, .val (.long dl), .second, iv 1, rv a317, .val (.long r), .second, .val (.long (i + dl)), .second, .val (.long d), .second, .val (.long xq), .second, rv a367, .unset] [(.int (XT.cmpL dl (0 : Int64)))]))
      have b414 : (XT.cmpL dl (0 : Int64)) = (0 : Int32) := (cmpL0 _ _).mpr hdl
      refine Way.by (fun _ k => XS.ifNo X383.here hx rfl (hb hby at_177) rfl ((if0 .ne _).trans (teq b414).2) k) ?_
      show Way _ _ _ _ (T382.setTop (mkF m 180 #[.val (.long r), .second, .val (.long i), .second, .val (.long d), .second, .val (.long xq), .second, iv sel, .val (.long dl), .second, iv 1, rv a317, .val (.long r), .second, .val (.long (i + dl)), .second, .val (.long d), .second, .val (.long xq), .second, rv a367, .unset] []))
      refine Way.by (fun _ k => XS.iconst X383.here hx rfl (hb hby at_180) k) ?_
      show Way _ _ _ _ (T382.setTop (mkF m 181 #[.val (.long r), .second, .val (.long i), .second, .val (.long d), .second, .val (.long xq), .second, iv sel, .val (.long dl), .second, iv 1, rv a317, .val (.long r), .second, .val (.long (i + dl)), .second, .val (.long d), .second, .val (.long xq), .second, rv a367, .unset] [(.int 1)]))
      refine Way.by (fun _ k => XS.goto X383.here hx rfl (pc0 := 181) (pc' := 185) rfl (hb hby at_181) (by decide) (by decide) k) ?_
      show Way _ _ _ _ (T382.setTop (mkF m 185 #[.val (.long r), .second, .val (.long i), .second, .val (.long d), .second, .val (.long xq), .second, iv sel, .val (.long dl), .second, iv 1, rv a317, .val (.long r), .second, .val (.long (i + dl)), .second, .val (.long d), .second, .val (.long xq), .second, rv a367, .unset] [(.int 1)]))
      refine Way.by (fun _ k => XS.istore X383.here hx rfl (hb hby at_185) rfl (l' := #[.val (.long r), .second, .val (.long i), .second, .val (.long d), .second, .val (.long xq), .second, iv sel, .val (.long dl), .second, iv 1, rv a317, .val (.long r), .second, .val (.long (i + dl)), .second, .val (.long d), .second, .val (.long xq), .second, rv a367, iv 1]) rfl k) ?_
      show Way _ _ _ _ (T382.setTop (mkF m 187 #[.val (.long r), .second, .val (.long i), .second, .val (.long d), .second, .val (.long xq), .second, iv sel, .val (.long dl), .second, iv 1, rv a317, .val (.long r), .second, .val (.long (i + dl)), .second, .val (.long d), .second, .val (.long xq), .second, rv a367, iv 1] []))
      refine Way.by (fun _ k => XS.aload X383.here hx rfl (hb hby at_187) rfl rfl k) ?_
      show Way _ _ _ _ (T382.setTop (mkF m 189 #[.val (.long r), .second, .val (.long i), .second, .val (.long d), .second, .val (.long xq), .second, iv sel, .val (.long dl), .second, iv 1, rv a317, .val (.long r), .second, .val (.long (i + dl)), .second, .val (.long d), .second, .val (.long xq), .second, rv a367, iv 1] [(.ref a317)]))
      refine Way.by (fun _ k => XS.aload X383.here hx rfl (hb hby at_189) rfl rfl k) ?_
      show Way _ _ _ _ (T382.setTop (mkF m 191 #[.val (.long r), .second, .val (.long i), .second, .val (.long d), .second, .val (.long xq), .second, iv sel, .val (.long dl), .second, iv 1, rv a317, .val (.long r), .second, .val (.long (i + dl)), .second, .val (.long d), .second, .val (.long xq), .second, rv a367, iv 1] [(.ref a367), (.ref a317)]))
      obtain ⟨cq431, kq432, qa433, qb434, qc435⟩ := isOf hZ rfl E405
      obtain ⟨_, _, ⟨T415, L417, k418, n419⟩, -, X416, ⟨Lc420, hQ421, l422, y423, z424⟩, st425⟩ := X383.virtualBack hx (y := (⟨"com/example/outbox/outbox/QueueCounts", "equals", "(Ljava/lang/Object;)Z"⟩ : MethodName)) (z := (⟨"com/example/outbox/outbox/QueueCounts", "equals", "(Ljava/lang/Object;)Z"⟩ : MethodName)) hown (mvT hZ (tw hw 17 rfl)) (mvT hZ (tw hw 18 rfl)) (notFace_of_selects (args := #[]) (mvT hZ (tw hw 20 rfl))) (mvT hZ (tw hw 20 rfl)) (mvT hZ (tw hw 19 rfl)) (by decide) (backOf (W := 0) (rmE l Z a0 hw [] a317 a367 r i d xq r (i + dl) d xq (1 : Int32) T382.heap n0 Z411 F_0400 F406 F407 F408 F409 F_1401 F_2402 F_3403 F_4404 (by simp [hdl])) hZ (tw hw 21 rfl) (tw hw 2 rfl) (by decide) (by decide)) qa433 qc435 (g := (mkF m 191 #[.val (.long r), .second, .val (.long i), .second, .val (.long d), .second, .val (.long xq), .second, iv sel, .val (.long dl), .second, iv 1, rv a317, .val (.long r), .second, .val (.long (i + dl)), .second, .val (.long d), .second, .val (.long xq), .second, rv a367, iv 1] [(.ref a367), (.ref a317)])) rfl (by rw [hml]; rfl) (Steps.refl _) (argsL := [(.ref a367)]) (rest := []) (lenOf pdE rfl) rfl (leW rfl) (hb hby at_191) (fun _ _ => ⟨rfl, rfl, (leB rfl), (leB rfl)⟩)
      dsimp only [Pt.U, Pt.locs, Pt.cells, Pt.slots] at X416 l422 y423 z424 st425 hQ421
      subst l422 y423 z424
      obtain ⟨rfl, N436, e427⟩ := hQ421
      have N426 := Fr.app N393 N436
      refine Way.to st425 ?_
      show Way _ _ _ _ (T415.setTop (mkF m 194 #[.val (.long r), .second, .val (.long i), .second, .val (.long d), .second, .val (.long xq), .second, iv sel, .val (.long dl), .second, iv 1, rv a317, .val (.long r), .second, .val (.long (i + dl)), .second, .val (.long d), .second, .val (.long xq), .second, rv a367, iv 1] [(.int 1)]))
      refine Way.by (fun _ k => XS.iload X416.here hx rfl (hb hby at_194) rfl k) ?_
      show Way _ _ _ _ (T415.setTop (mkF m 196 #[.val (.long r), .second, .val (.long i), .second, .val (.long d), .second, .val (.long xq), .second, iv sel, .val (.long dl), .second, iv 1, rv a317, .val (.long r), .second, .val (.long (i + dl)), .second, .val (.long d), .second, .val (.long xq), .second, rv a367, iv 1] [(.int 1), (.int 1)]))
      have b438 : (1 : Int32) = (1 : Int32) := by decide
      refine Way.by (fun _ k => XS.icmpNo X416.here hx rfl (hb hby at_196) rfl (teq b438).2 k) ?_
      show Way _ _ _ _ (T415.setTop (mkF m 199 #[.val (.long r), .second, .val (.long i), .second, .val (.long d), .second, .val (.long xq), .second, iv sel, .val (.long dl), .second, iv 1, rv a317, .val (.long r), .second, .val (.long (i + dl)), .second, .val (.long d), .second, .val (.long xq), .second, rv a367, iv 1] []))
      refine Way.by (fun _ k => XS.aload X416.here hx rfl (hb hby at_199) rfl rfl k) ?_
      show Way _ _ _ _ (T415.setTop (mkF m 201 #[.val (.long r), .second, .val (.long i), .second, .val (.long d), .second, .val (.long xq), .second, iv sel, .val (.long dl), .second, iv 1, rv a317, .val (.long r), .second, .val (.long (i + dl)), .second, .val (.long d), .second, .val (.long xq), .second, rv a367, iv 1] [(.ref a367)]))
      refine Way.by (fun _ k => XS.aload X416.here hx rfl (hb hby at_201) rfl rfl k) ?_
      show Way _ _ _ _ (T415.setTop (mkF m 203 #[.val (.long r), .second, .val (.long i), .second, .val (.long d), .second, .val (.long xq), .second, iv sel, .val (.long dl), .second, iv 1, rv a317, .val (.long r), .second, .val (.long (i + dl)), .second, .val (.long d), .second, .val (.long xq), .second, rv a367, iv 1] [(.ref a317), (.ref a367)]))
      obtain ⟨cq455, kq456, qa457, qb458, qc459⟩ := isOf hZ e427 F_0400
      obtain ⟨_, _, ⟨T439, L441, k442, n443⟩, -, X440, ⟨Lc444, hQ445, l446, y447, z448⟩, st449⟩ := X416.virtualBack hx (y := (⟨"com/example/outbox/outbox/QueueCounts", "equals", "(Ljava/lang/Object;)Z"⟩ : MethodName)) (z := (⟨"com/example/outbox/outbox/QueueCounts", "equals", "(Ljava/lang/Object;)Z"⟩ : MethodName)) hown (mvT hZ (tw hw 17 rfl)) (mvT hZ (tw hw 18 rfl)) (notFace_of_selects (args := #[]) (mvT hZ (tw hw 20 rfl))) (mvT hZ (tw hw 20 rfl)) (mvT hZ (tw hw 19 rfl)) (by decide) (backOf (W := 0) (rmE l Z a0 hw [] a367 a317 r (i + dl) d xq r i d xq (1 : Int32) T382.heap n0 Z411 E405 F_1401 F_2402 F_3403 F_4404 F406 F407 F408 F409 (by simp [hdl])) hZ (tw hw 21 rfl) (tw hw 2 rfl) (by decide) (by decide)) qa457 qc459 (g := (mkF m 203 #[.val (.long r), .second, .val (.long i), .second, .val (.long d), .second, .val (.long xq), .second, iv sel, .val (.long dl), .second, iv 1, rv a317, .val (.long r), .second, .val (.long (i + dl)), .second, .val (.long d), .second, .val (.long xq), .second, rv a367, iv 1] [(.ref a317), (.ref a367)])) rfl (by rw [hml]; rfl) (Steps.refl _) (argsL := [(.ref a317)]) (rest := []) (lenOf pdE rfl) rfl (leW rfl) (hb hby at_203) (fun _ _ => ⟨rfl, e427, (leB rfl), (leB rfl)⟩)
      dsimp only [Pt.U, Pt.locs, Pt.cells, Pt.slots] at X440 l446 y447 z448 st449 hQ445
      subst l446 y447 z448
      obtain ⟨rfl, N460, e451⟩ := hQ445
      have N450 := Fr.app N426 N460
      refine Way.to st449 ?_
      show Way _ _ _ _ (T439.setTop (mkF m 206 #[.val (.long r), .second, .val (.long i), .second, .val (.long d), .second, .val (.long xq), .second, iv sel, .val (.long dl), .second, iv 1, rv a317, .val (.long r), .second, .val (.long (i + dl)), .second, .val (.long d), .second, .val (.long xq), .second, rv a367, iv 1] [(.int 1)]))
      refine Way.by (fun _ k => XS.iload X440.here hx rfl (hb hby at_206) rfl k) ?_
      show Way _ _ _ _ (T439.setTop (mkF m 208 #[.val (.long r), .second, .val (.long i), .second, .val (.long d), .second, .val (.long xq), .second, iv sel, .val (.long dl), .second, iv 1, rv a317, .val (.long r), .second, .val (.long (i + dl)), .second, .val (.long d), .second, .val (.long xq), .second, rv a367, iv 1] [(.int 1), (.int 1)]))
      have b462 : (1 : Int32) = (1 : Int32) := by decide
      refine Way.by (fun _ k => XS.icmpNo X440.here hx rfl (hb hby at_208) rfl (teq b462).2 k) ?_
      show Way _ _ _ _ (T439.setTop (mkF m 211 #[.val (.long r), .second, .val (.long i), .second, .val (.long d), .second, .val (.long xq), .second, iv sel, .val (.long dl), .second, iv 1, rv a317, .val (.long r), .second, .val (.long (i + dl)), .second, .val (.long d), .second, .val (.long xq), .second, rv a367, iv 1] []))
      refine Way.by (fun _ k => XS.iconst X440.here hx rfl (hb hby at_211) k) ?_
      show Way _ _ _ _ (T439.setTop (mkF m 212 #[.val (.long r), .second, .val (.long i), .second, .val (.long d), .second, .val (.long xq), .second, iv sel, .val (.long dl), .second, iv 1, rv a317, .val (.long r), .second, .val (.long (i + dl)), .second, .val (.long d), .second, .val (.long xq), .second, rv a367, iv 1] [(.int 1)]))
      refine Way.by (fun _ k => XS.goto X440.here hx rfl (pc0 := 212) (pc' := 216) rfl (hb hby at_212) (by decide) (by decide) k) ?_
      show Way _ _ _ _ (T439.setTop (mkF m 216 #[.val (.long r), .second, .val (.long i), .second, .val (.long d), .second, .val (.long xq), .second, iv sel, .val (.long dl), .second, iv 1, rv a317, .val (.long r), .second, .val (.long (i + dl)), .second, .val (.long d), .second, .val (.long xq), .second, rv a367, iv 1] [(.int 1)]))
      refine Way.ret (v := (some (.int (nar .boolean (1 : Int32))))) X440 hlk (fun h => by rw [Bd.returns] at h; cases h) (fun fs hr => retN X440 hx (t := .boolean) Bd.returns (by simp) (hb hby at_216) hr) ?_ (by decide) (by decide)
      show Q0 n0 _ T439.heap _
      rw [e451]
      exact ⟨rfl, N450⟩
    · skip
      show Way _ _ _ _ (s₁.setTop (mkF m 7 #[.val (.long r), .second, .val (.long i), .second, .val (.long d), .second, .val (.long xq), .second, iv sel, .val (.long dl), .second, iv 1, .unset, .unset, .unset, .unset, .unset, .unset, .unset, .unset, .unset, .unset, .unset] []))
      obtain ⟨T463, h464, X465, e466, E467, A468, D469, -, st470⟩ := newO X0 hx hZ hown (tw hw 0 rfl) (tw hw 1 rfl) (tw hw 2 rfl) e0 (g := (mkF m 7 #[.val (.long r), .second, .val (.long i), .second, .val (.long d), .second, .val (.long xq), .second, iv sel, .val (.long dl), .second, iv 1, .unset, .unset, .unset, .unset, .unset, .unset, .unset, .unset, .unset, .unset, .unset] [])) rfl (hb hby at_7) (by decide) (by decide)
      obtain ⟨a471, g472⟩ : ∃ z, z = h0.size := ⟨_, rfl⟩
      rw [← g472] at A468 D469 st470
      have nw473 : n0 ≤ a471 := Nat.le_trans Z0 (Nat.le_of_eq g472.symm)
      have Z474 := Nat.le_trans Z0 E467.1
      have O475 := O0.ext E467
      have F476 : Fld Z h464 a471 "com/example/outbox/outbox/QueueCounts" "ready" "J" (.long (0 : Int64)) := D469 (Or.inr (tw hw 10 rfl)) (ty := .long) (by decide)
      have F477 : Fld Z h464 a471 "com/example/outbox/outbox/QueueCounts" "inflight" "J" (.long (0 : Int64)) := D469 (Or.inr (tw hw 12 rfl)) (ty := .long) (by decide)
      have F478 : Fld Z h464 a471 "com/example/outbox/outbox/QueueCounts" "delayed" "J" (.long (0 : Int64)) := D469 (Or.inr (tw hw 14 rfl)) (ty := .long) (by decide)
      have F479 : Fld Z h464 a471 "com/example/outbox/outbox/QueueCounts" "dead" "J" (.long (0 : Int64)) := D469 (Or.inr (tw hw 16 rfl)) (ty := .long) (by decide)
      refine Way.by st470 ?_
      show Way _ _ _ _ (T463.setTop (mkF m 10 #[.val (.long r), .second, .val (.long i), .second, .val (.long d), .second, .val (.long xq), .second, iv sel, .val (.long dl), .second, iv 1, .unset, .unset, .unset, .unset, .unset, .unset, .unset, .unset, .unset, .unset, .unset] [(.ref a471)]))
      refine Way.by (fun _ k => XS.dup X465.here hx rfl (hb hby at_10) rfl rfl k) ?_
      show Way _ _ _ _ (T463.setTop (mkF m 11 #[.val (.long r), .second, .val (.long i), .second, .val (.long d), .second, .val (.long xq), .second, iv sel, .val (.long dl), .second, iv 1, .unset, .unset, .unset, .unset, .unset, .unset, .unset, .unset, .unset, .unset, .unset] [(.ref a471), (.ref a471)]))
      refine Way.by (fun _ k => XT.lloadN X465.here hx rfl (hb hby at_11) rfl k) ?_
      show Way _ _ _ _ (T463.setTop (mkF m 12 #[.val (.long r), .second, .val (.long i), .second, .val (.long d), .second, .val (.long xq), .second, iv sel, .val (.long dl), .second, iv 1, .unset, .unset, .unset, .unset, .unset, .unset, .unset, .unset, .unset, .unset, .unset] [(.long r), (.ref a471), (.ref a471)]))
      refine Way.by (fun _ k => XT.lloadN X465.here hx rfl (hb hby at_12) rfl k) ?_
      show Way _ _ _ _ (T463.setTop (mkF m 13 #[.val (.long r), .second, .val (.long i), .second, .val (.long d), .second, .val (.long xq), .second, iv sel, .val (.long dl), .second, iv 1, .unset, .unset, .unset, .unset, .unset, .unset, .unset, .unset, .unset, .unset, .unset] [(.long i), (.long r), (.ref a471), (.ref a471)]))
      refine Way.by (fun _ k => XT.lload X465.here hx rfl (hb hby at_13) rfl k) ?_
      show Way _ _ _ _ (T463.setTop (mkF m 15 #[.val (.long r), .second, .val (.long i), .second, .val (.long d), .second, .val (.long xq), .second, iv sel, .val (.long dl), .second, iv 1, .unset, .unset, .unset, .unset, .unset, .unset, .unset, .unset, .unset, .unset, .unset] [(.long d), (.long i), (.long r), (.ref a471), (.ref a471)]))
      refine Way.by (fun _ k => XT.lload X465.here hx rfl (hb hby at_15) rfl k) ?_
      show Way _ _ _ _ (T463.setTop (mkF m 17 #[.val (.long r), .second, .val (.long i), .second, .val (.long d), .second, .val (.long xq), .second, iv sel, .val (.long dl), .second, iv 1, .unset, .unset, .unset, .unset, .unset, .unset, .unset, .unset, .unset, .unset, .unset] [(.long xq), (.long d), (.long i), (.long r), (.ref a471), (.ref a471)]))
      obtain ⟨_, _, ⟨T480, L482, k483, n484⟩, -, X481, ⟨Lc485, hQ486, l487, y488, z489⟩, st490⟩ := X465.specialBack hx (y := (⟨"com/example/outbox/outbox/QueueCounts", "<init>", "(JJJJ)V"⟩ : MethodName)) rfl hown (mvT hZ (tw hw 3 rfl)) (mvT hZ (tw hw 4 rfl)) (mvT hZ (tw hw 5 rfl)) (by decide) (backOf (W := 1) (rmC l Z a0 hw [] a471 r i d xq h464 n0 Z474 A468 F476 F477 F478 F479 nw473) hZ (tw hw 5 rfl) (tw hw 2 rfl) (by decide) (by decide)) (g := (mkF m 17 #[.val (.long r), .second, .val (.long i), .second, .val (.long d), .second, .val (.long xq), .second, iv sel, .val (.long dl), .second, iv 1, .unset, .unset, .unset, .unset, .unset, .unset, .unset, .unset, .unset, .unset, .unset] [(.long xq), (.long d), (.long i), (.long r), (.ref a471), (.ref a471)])) rfl (by rw [hml]; rfl) (Steps.refl _) (a := a471) (argsL := [(.long r), (.long i), (.long d), (.long xq)]) (rest := [(.ref a471)]) (lenOf pdC rfl) rfl (leW rfl) (hb hby at_17) (fun _ _ => ⟨rfl, e466, (leB rfl), (leB rfl)⟩)
      dsimp only [Pt.U, Pt.locs, Pt.cells, Pt.slots] at X481 l487 y488 z489 st490 hQ486
      subst l487 y488 z489
      obtain ⟨rfl, N496, K497, F_0498, F_1499, F_2500, F_3501, F_4502⟩ := hQ486
      have N491 := Fr.app N0 N496
      have E503 := A468.keep K497
      have Z504 := Nat.le_trans Z474 K497.1
      have O505 := O475.keep K497 (allS nw473 all0)
      refine Way.to st490 ?_
      show Way _ _ _ _ (T480.setTop (mkF m 20 #[.val (.long r), .second, .val (.long i), .second, .val (.long d), .second, .val (.long xq), .second, iv sel, .val (.long dl), .second, iv 1, .unset, .unset, .unset, .unset, .unset, .unset, .unset, .unset, .unset, .unset, .unset] [(.ref a471)]))
      refine Way.by (fun _ k => XS.astore X481.here hx rfl (hb hby at_20) rfl rfl (l' := #[.val (.long r), .second, .val (.long i), .second, .val (.long d), .second, .val (.long xq), .second, iv sel, .val (.long dl), .second, iv 1, rv a471, .unset, .unset, .unset, .unset, .unset, .unset, .unset, .unset, .unset, .unset]) rfl k) ?_
      show Way _ _ _ _ (T480.setTop (mkF m 22 #[.val (.long r), .second, .val (.long i), .second, .val (.long d), .second, .val (.long xq), .second, iv sel, .val (.long dl), .second, iv 1, rv a471, .unset, .unset, .unset, .unset, .unset, .unset, .unset, .unset, .unset, .unset] []))
      refine Way.by (fun _ k => XS.iload X481.here hx rfl (hb hby at_22) rfl k) ?_
      show Way _ _ _ _ (T480.setTop (mkF m 24 #[.val (.long r), .second, .val (.long i), .second, .val (.long d), .second, .val (.long xq), .second, iv sel, .val (.long dl), .second, iv 1, rv a471, .unset, .unset, .unset, .unset, .unset, .unset, .unset, .unset, .unset, .unset] [(.int 1)]))
      refine Way.by (fun _ k => XS.iconst X481.here hx rfl (hb hby at_24) k) ?_
      show Way _ _ _ _ (T480.setTop (mkF m 25 #[.val (.long r), .second, .val (.long i), .second, .val (.long d), .second, .val (.long xq), .second, iv sel, .val (.long dl), .second, iv 1, rv a471, .unset, .unset, .unset, .unset, .unset, .unset, .unset, .unset, .unset, .unset] [(.int 5), (.int 1)]))
      have b506 : ¬ (1 : Int32) = (5 : Int32) := by decide
      refine Way.by (fun _ k => XS.icmpYes X481.here hx rfl (pc0 := 25) (pc' := 43) rfl (hb hby at_25) rfl (feq b506).2 (by decide) (by decide) k) ?_
      show Way _ _ _ _ (T480.setTop (mkF m 43 #[.val (.long r), .second, .val (.long i), .second, .val (.long d), .second, .val (.long xq), .second, iv sel, .val (.long dl), .second, iv 1, rv a471, .unset, .unset, .unset, .unset, .unset, .unset, .unset, .unset, .unset, .unset] []))
      refine Way.by (fun _ k => XS.iload X481.here hx rfl (hb hby at_43) rfl k) ?_
      show Way _ _ _ _ (T480.setTop (mkF m 45 #[.val (.long r), .second, .val (.long i), .second, .val (.long d), .second, .val (.long xq), .second, iv sel, .val (.long dl), .second, iv 1, rv a471, .unset, .unset, .unset, .unset, .unset, .unset, .unset, .unset, .unset, .unset] [(.int 1)]))
      refine Way.by (fun _ k => XS.bipush X481.here hx rfl (hb hby at_45) k) ?_
      show Way _ _ _ _ (T480.setTop (mkF m 47 #[.val (.long r), .second, .val (.long i), .second, .val (.long d), .second, .val (.long xq), .second, iv sel, .val (.long dl), .second, iv 1, rv a471, .unset, .unset, .unset, .unset, .unset, .unset, .unset, .unset, .unset, .unset] [(.int 6), (.int 1)]))
      have b507 : ¬ (1 : Int32) = (6 : Int32) := by decide
      refine Way.by (fun _ k => XS.icmpYes X481.here hx rfl (pc0 := 47) (pc' := 68) rfl (hb hby at_47) rfl (feq b507).2 (by decide) (by decide) k) ?_
      show Way _ _ _ _ (T480.setTop (mkF m 68 #[.val (.long r), .second, .val (.long i), .second, .val (.long d), .second, .val (.long xq), .second, iv sel, .val (.long dl), .second, iv 1, rv a471, .unset, .unset, .unset, .unset, .unset, .unset, .unset, .unset, .unset, .unset] []))
      refine Way.by (fun _ k => XS.iload X481.here hx rfl (hb hby at_68) rfl k) ?_
      show Way _ _ _ _ (T480.setTop (mkF m 70 #[.val (.long r), .second, .val (.long i), .second, .val (.long d), .second, .val (.long xq), .second, iv sel, .val (.long dl), .second, iv 1, rv a471, .unset, .unset, .unset, .unset, .unset, .unset, .unset, .unset, .unset, .unset] [(.int 1)]))
      refine Way.by (fun _ k => XS.bipush X481.here hx rfl (hb hby at_70) k) ?_
      show Way _ _ _ _ (T480.setTop (mkF m 72 #[.val (.long r), .second, .val (.long i), .second, .val (.long d), .second, .val (.long xq), .second, iv sel, .val (.long dl), .second, iv 1, rv a471, .unset, .unset, .unset, .unset, .unset, .unset, .unset, .unset, .unset, .unset] [(.int 7), (.int 1)]))
      have b508 : ¬ (1 : Int32) = (7 : Int32) := by decide
      refine Way.by (fun _ k => XS.icmpYes X481.here hx rfl (pc0 := 72) (pc' := 83) rfl (hb hby at_72) rfl (feq b508).2 (by decide) (by decide) k) ?_
      show Way _ _ _ _ (T480.setTop (mkF m 83 #[.val (.long r), .second, .val (.long i), .second, .val (.long d), .second, .val (.long xq), .second, iv sel, .val (.long dl), .second, iv 1, rv a471, .unset, .unset, .unset, .unset, .unset, .unset, .unset, .unset, .unset, .unset] []))
      refine Way.by (fun _ k => XS.iload X481.here hx rfl (hb hby at_83) rfl k) ?_
      show Way _ _ _ _ (T480.setTop (mkF m 85 #[.val (.long r), .second, .val (.long i), .second, .val (.long d), .second, .val (.long xq), .second, iv sel, .val (.long dl), .second, iv 1, rv a471, .unset, .unset, .unset, .unset, .unset, .unset, .unset, .unset, .unset, .unset] [(.int 1)]))
      have b509 : ¬ (1 : Int32) = (0 : Int32) := by decide
      refine Way.by (fun _ k => XS.ifYes X481.here hx rfl (pc0 := 85) (pc' := 95) rfl (hb hby at_85) rfl ((if0 .ne _).trans (feq b509).2) (by decide) (by decide) k) ?_
      show Way _ _ _ _ (T480.setTop (mkF m 95 #[.val (.long r), .second, .val (.long i), .second, .val (.long d), .second, .val (.long xq), .second, iv sel, .val (.long dl), .second, iv 1, rv a471, .unset, .unset, .unset, .unset, .unset, .unset, .unset, .unset, .unset, .unset] []))
      refine Way.by (fun _ k => XT.lloadN X481.here hx rfl (hb hby at_95) rfl k) ?_
      show Way _ _ _ _ (T480.setTop (mkF m 96 #[.val (.long r), .second, .val (.long i), .second, .val (.long d), .second, .val (.long xq), .second, iv sel, .val (.long dl), .second, iv 1, rv a471, .unset, .unset, .unset, .unset, .unset, .unset, .unset, .unset, .unset, .unset] [(.long r)]))
      refine Way.by (fun _ k => XT.lstore X481.here hx rfl (hb hby at_96) rfl (l' := #[.val (.long r), .second, .val (.long i), .second, .val (.long d), .second, .val (.long xq), .second, iv sel, .val (.long dl), .second, iv 1, rv a471, .val (.long r), .second, .unset, .unset, .unset, .unset, .unset, .unset, .unset, .unset]) rfl k) ?_
      show Way _ _ _ _ (T480.setTop (mkF m 98 #[.val (.long r), .second, .val (.long i), .second, .val (.long d), .second, .val (.long xq), .second, iv sel, .val (.long dl), .second, iv 1, rv a471, .val (.long r), .second, .unset, .unset, .unset, .unset, .unset, .unset, .unset, .unset] []))
      refine Way.by (fun _ k => XS.iload X481.here hx rfl (hb hby at_98) rfl k) ?_
      show Way _ _ _ _ (T480.setTop (mkF m 100 #[.val (.long r), .second, .val (.long i), .second, .val (.long d), .second, .val (.long xq), .second, iv sel, .val (.long dl), .second, iv 1, rv a471, .val (.long r), .second, .unset, .unset, .unset, .unset, .unset, .unset, .unset, .unset] [(.int 1)]))
      refine Way.by (fun _ k => XS.iconst X481.here hx rfl (hb hby at_100) k) ?_
      show Way _ _ _ _ (T480.setTop (mkF m 101 #[.val (.long r), .second, .val (.long i), .second, .val (.long d), .second, .val (.long xq), .second, iv sel, .val (.long dl), .second, iv 1, rv a471, .val (.long r), .second, .unset, .unset, .unset, .unset, .unset, .unset, .unset, .unset] [(.int 1), (.int 1)]))
      have b510 : (1 : Int32) = (1 : Int32) := by decide
      refine Way.by (fun _ k => XS.icmpNo X481.here hx rfl (hb hby at_101) rfl (teq b510).2 k) ?_
      show Way _ _ _ _ (T480.setTop (mkF m 104 #[.val (.long r), .second, .val (.long i), .second, .val (.long d), .second, .val (.long xq), .second, iv sel, .val (.long dl), .second, iv 1, rv a471, .val (.long r), .second, .unset, .unset, .unset, .unset, .unset, .unset, .unset, .unset] []))
      refine Way.by (fun _ k => XT.lloadN X481.here hx rfl (hb hby at_104) rfl k) ?_
      show Way _ _ _ _ (T480.setTop (mkF m 105 #[.val (.long r), .second, .val (.long i), .second, .val (.long d), .second, .val (.long xq), .second, iv sel, .val (.long dl), .second, iv 1, rv a471, .val (.long r), .second, .unset, .unset, .unset, .unset, .unset, .unset, .unset, .unset] [(.long i)]))
      refine Way.by (fun _ k => XT.lload X481.here hx rfl (hb hby at_105) rfl k) ?_
      show Way _ _ _ _ (T480.setTop (mkF m 107 #[.val (.long r), .second, .val (.long i), .second, .val (.long d), .second, .val (.long xq), .second, iv sel, .val (.long dl), .second, iv 1, rv a471, .val (.long r), .second, .unset, .unset, .unset, .unset, .unset, .unset, .unset, .unset] [(.long dl), (.long i)]))
      refine Way.by (fun _ k => XT.ladd X481.here hx rfl (hb hby at_107) rfl k) ?_
      show Way _ _ _ _ (T480.setTop (mkF m 108 #[.val (.long r), .second, .val (.long i), .second, .val (.long d), .second, .val (.long xq), .second, iv sel, .val (.long dl), .second, iv 1, rv a471, .val (.long r), .second, .unset, .unset, .unset, .unset, .unset, .unset, .unset, .unset] [(.long (i + dl))]))
      refine Way.by (fun _ k => XS.goto X481.here hx rfl (pc0 := 108) (pc' := 112) rfl (hb hby at_108) (by decide) (by decide) k) ?_
      show Way _ _ _ _ (T480.setTop (mkF m 112 #[.val (.long r), .second, .val (.long i), .second, .val (.long d), .second, .val (.long xq), .second, iv sel, .val (.long dl), .second, iv 1, rv a471, .val (.long r), .second, .unset, .unset, .unset, .unset, .unset, .unset, .unset, .unset] [(.long (i + dl))]))
      refine Way.by (fun _ k => XT.lstore X481.here hx rfl (hb hby at_112) rfl (l' := #[.val (.long r), .second, .val (.long i), .second, .val (.long d), .second, .val (.long xq), .second, iv sel, .val (.long dl), .second, iv 1, rv a471, .val (.long r), .second, .val (.long (i + dl)), .second, .unset, .unset, .unset, .unset, .unset, .unset]) rfl k) ?_
      show Way _ _ _ _ (T480.setTop (mkF m 114 #[.val (.long r), .second, .val (.long i), .second, .val (.long d), .second, .val (.long xq), .second, iv sel, .val (.long dl), .second, iv 1, rv a471, .val (.long r), .second, .val (.long (i + dl)), .second, .unset, .unset, .unset, .unset, .unset, .unset] []))
      refine Way.by (fun _ k => XS.iload X481.here hx rfl (hb hby at_114) rfl k) ?_
      show Way _ _ _ _ (T480.setTop (mkF m 116 #[.val (.long r), .second, .val (.long i), .second, .val (.long d), .second, .val (.long xq), .second, iv sel, .val (.long dl), .second, iv 1, rv a471, .val (.long r), .second, .val (.long (i + dl)), .second, .unset, .unset, .unset, .unset, .unset, .unset] [(.int 1)]))
      refine Way.by (fun _ k => XS.iconst X481.here hx rfl (hb hby at_116) k) ?_
      show Way _ _ _ _ (T480.setTop (mkF m 117 #[.val (.long r), .second, .val (.long i), .second, .val (.long d), .second, .val (.long xq), .second, iv sel, .val (.long dl), .second, iv 1, rv a471, .val (.long r), .second, .val (.long (i + dl)), .second, .unset, .unset, .unset, .unset, .unset, .unset] [(.int 2), (.int 1)]))
      have b511 : ¬ (1 : Int32) = (2 : Int32) := by decide
      refine Way.by (fun _ k => XS.icmpYes X481.here hx rfl (pc0 := 117) (pc' := 128) rfl (hb hby at_117) rfl (feq b511).2 (by decide) (by decide) k) ?_
      show Way _ _ _ _ (T480.setTop (mkF m 128 #[.val (.long r), .second, .val (.long i), .second, .val (.long d), .second, .val (.long xq), .second, iv sel, .val (.long dl), .second, iv 1, rv a471, .val (.long r), .second, .val (.long (i + dl)), .second, .unset, .unset, .unset, .unset, .unset, .unset] []))
      refine Way.by (fun _ k => XT.lload X481.here hx rfl (hb hby at_128) rfl k) ?_
      show Way _ _ _ _ (T480.setTop (mkF m 130 #[.val (.long r), .second, .val (.long i), .second, .val (.long d), .second, .val (.long xq), .second, iv sel, .val (.long dl), .second, iv 1, rv a471, .val (.long r), .second, .val (.long (i + dl)), .second, .unset, .unset, .unset, .unset, .unset, .unset] [(.long d)]))
      refine Way.by (fun _ k => XT.lstore X481.here hx rfl (hb hby at_130) rfl (l' := #[.val (.long r), .second, .val (.long i), .second, .val (.long d), .second, .val (.long xq), .second, iv sel, .val (.long dl), .second, iv 1, rv a471, .val (.long r), .second, .val (.long (i + dl)), .second, .val (.long d), .second, .unset, .unset, .unset, .unset]) rfl k) ?_
      show Way _ _ _ _ (T480.setTop (mkF m 132 #[.val (.long r), .second, .val (.long i), .second, .val (.long d), .second, .val (.long xq), .second, iv sel, .val (.long dl), .second, iv 1, rv a471, .val (.long r), .second, .val (.long (i + dl)), .second, .val (.long d), .second, .unset, .unset, .unset, .unset] []))
      refine Way.by (fun _ k => XS.iload X481.here hx rfl (hb hby at_132) rfl k) ?_
      show Way _ _ _ _ (T480.setTop (mkF m 134 #[.val (.long r), .second, .val (.long i), .second, .val (.long d), .second, .val (.long xq), .second, iv sel, .val (.long dl), .second, iv 1, rv a471, .val (.long r), .second, .val (.long (i + dl)), .second, .val (.long d), .second, .unset, .unset, .unset, .unset] [(.int 1)]))
      refine Way.by (fun _ k => XS.iconst X481.here hx rfl (hb hby at_134) k) ?_
      show Way _ _ _ _ (T480.setTop (mkF m 135 #[.val (.long r), .second, .val (.long i), .second, .val (.long d), .second, .val (.long xq), .second, iv sel, .val (.long dl), .second, iv 1, rv a471, .val (.long r), .second, .val (.long (i + dl)), .second, .val (.long d), .second, .unset, .unset, .unset, .unset] [(.int 3), (.int 1)]))
      have b512 : ¬ (1 : Int32) = (3 : Int32) := by decide
      refine Way.by (fun _ k => XS.icmpYes X481.here hx rfl (pc0 := 135) (pc' := 146) rfl (hb hby at_135) rfl (feq b512).2 (by decide) (by decide) k) ?_
      show Way _ _ _ _ (T480.setTop (mkF m 146 #[.val (.long r), .second, .val (.long i), .second, .val (.long d), .second, .val (.long xq), .second, iv sel, .val (.long dl), .second, iv 1, rv a471, .val (.long r), .second, .val (.long (i + dl)), .second, .val (.long d), .second, .unset, .unset, .unset, .unset] []))
      refine Way.by (fun _ k => XT.lload X481.here hx rfl (hb hby at_146) rfl k) ?_
      show Way _ _ _ _ (T480.setTop (mkF m 148 #[.val (.long r), .second, .val (.long i), .second, .val (.long d), .second, .val (.long xq), .second, iv sel, .val (.long dl), .second, iv 1, rv a471, .val (.long r), .second, .val (.long (i + dl)), .second, .val (.long d), .second, .unset, .unset, .unset, .unset] [(.long xq)]))
      refine Way.by (fun _ k => XT.lstore X481.here hx rfl (hb hby at_148) rfl (l' := #[.val (.long r), .second, .val (.long i), .second, .val (.long d), .second, .val (.long xq), .second, iv sel, .val (.long dl), .second, iv 1, rv a471, .val (.long r), .second, .val (.long (i + dl)), .second, .val (.long d), .second, .val (.long xq), .second, .unset, .unset]) rfl k) ?_
      show Way _ _ _ _ (T480.setTop (mkF m 150 #[.val (.long r), .second, .val (.long i), .second, .val (.long d), .second, .val (.long xq), .second, iv sel, .val (.long dl), .second, iv 1, rv a471, .val (.long r), .second, .val (.long (i + dl)), .second, .val (.long d), .second, .val (.long xq), .second, .unset, .unset] []))
      obtain ⟨T513, h514, X515, e516, E517, A518, D519, -, st520⟩ := newO X481 hx hZ hown (tw hw 0 rfl) (tw hw 1 rfl) (tw hw 2 rfl) rfl (g := (mkF m 150 #[.val (.long r), .second, .val (.long i), .second, .val (.long d), .second, .val (.long xq), .second, iv sel, .val (.long dl), .second, iv 1, rv a471, .val (.long r), .second, .val (.long (i + dl)), .second, .val (.long d), .second, .val (.long xq), .second, .unset, .unset] [])) rfl (hb hby at_150) (by decide) (by decide)
      obtain ⟨a521, g522⟩ : ∃ z, z = T480.heap.size := ⟨_, rfl⟩
      rw [← g522] at A518 D519 st520
      have ne523 : a471 ≠ a521 := Nat.ne_of_lt (Nat.lt_of_lt_of_eq F_0498.lt g522.symm)
      have nw524 : n0 ≤ a521 := Nat.le_trans Z504 (Nat.le_of_eq g522.symm)
      have E525 := Exa.ext E517 F_0498
      have F526 := Fld.ext E517 F_1499
      have F527 := Fld.ext E517 F_2500
      have F528 := Fld.ext E517 F_3501
      have F529 := Fld.ext E517 F_4502
      have Z530 := Nat.le_trans Z504 E517.1
      have O531 := O505.ext E517
      have F532 : Fld Z h514 a521 "com/example/outbox/outbox/QueueCounts" "ready" "J" (.long (0 : Int64)) := D519 (Or.inr (tw hw 10 rfl)) (ty := .long) (by decide)
      have F533 : Fld Z h514 a521 "com/example/outbox/outbox/QueueCounts" "inflight" "J" (.long (0 : Int64)) := D519 (Or.inr (tw hw 12 rfl)) (ty := .long) (by decide)
      have F534 : Fld Z h514 a521 "com/example/outbox/outbox/QueueCounts" "delayed" "J" (.long (0 : Int64)) := D519 (Or.inr (tw hw 14 rfl)) (ty := .long) (by decide)
      have F535 : Fld Z h514 a521 "com/example/outbox/outbox/QueueCounts" "dead" "J" (.long (0 : Int64)) := D519 (Or.inr (tw hw 16 rfl)) (ty := .long) (by decide)
      refine Way.by st520 ?_
      show Way _ _ _ _ (T513.setTop (mkF m 153 #[.val (.long r), .second, .val (.long i), .second, .val (.long d), .second, .val (.long xq), .second, iv sel, .val (.long dl), .second, iv 1, rv a471, .val (.long r), .second, .val (.long (i + dl)), .second, .val (.long d), .second, .val (.long xq), .second, .unset, .unset] [(.ref a521)]))
      refine Way.by (fun _ k => XS.dup X515.here hx rfl (hb hby at_153) rfl rfl k) ?_
      show Way _ _ _ _ (T513.setTop (mkF m 154 #[.val (.long r), .second, .val (.long i), .second, .val (.long d), .second, .val (.long xq), .second, iv sel, .val (.long dl), .second, iv 1, rv a471, .val (.long r), .second, .val (.long (i + dl)), .second, .val (.long d), .second, .val (.long xq), .second, .unset, .unset] [(.ref a521), (.ref a521)]))
      refine Way.by (fun _ k => XT.lload X515.here hx rfl (hb hby at_154) rfl k) ?_
      show Way _ _ _ _ (T513.setTop (mkF m 156 #[.val (.long r), .second, .val (.long i), .second, .val (.long d), .second, .val (.long xq), .second, iv sel, .val (.long dl), .second, iv 1, rv a471, .val (.long r), .second, .val (.long (i + dl)), .second, .val (.long d), .second, .val (.long xq), .second, .unset, .unset] [(.long r), (.ref a521), (.ref a521)]))
      refine Way.by (fun _ k => XT.lload X515.here hx rfl (hb hby at_156) rfl k) ?_
      show Way _ _ _ _ (T513.setTop (mkF m 158 #[.val (.long r), .second, .val (.long i), .second, .val (.long d), .second, .val (.long xq), .second, iv sel, .val (.long dl), .second, iv 1, rv a471, .val (.long r), .second, .val (.long (i + dl)), .second, .val (.long d), .second, .val (.long xq), .second, .unset, .unset] [(.long (i + dl)), (.long r), (.ref a521), (.ref a521)]))
      refine Way.by (fun _ k => XT.lload X515.here hx rfl (hb hby at_158) rfl k) ?_
      show Way _ _ _ _ (T513.setTop (mkF m 160 #[.val (.long r), .second, .val (.long i), .second, .val (.long d), .second, .val (.long xq), .second, iv sel, .val (.long dl), .second, iv 1, rv a471, .val (.long r), .second, .val (.long (i + dl)), .second, .val (.long d), .second, .val (.long xq), .second, .unset, .unset] [(.long d), (.long (i + dl)), (.long r), (.ref a521), (.ref a521)]))
      refine Way.by (fun _ k => XT.lload X515.here hx rfl (hb hby at_160) rfl k) ?_
      show Way _ _ _ _ (T513.setTop (mkF m 162 #[.val (.long r), .second, .val (.long i), .second, .val (.long d), .second, .val (.long xq), .second, iv sel, .val (.long dl), .second, iv 1, rv a471, .val (.long r), .second, .val (.long (i + dl)), .second, .val (.long d), .second, .val (.long xq), .second, .unset, .unset] [(.long xq), (.long d), (.long (i + dl)), (.long r), (.ref a521), (.ref a521)]))
      obtain ⟨_, _, ⟨T536, L538, k539, n540⟩, -, X537, ⟨Lc541, hQ542, l543, y544, z545⟩, st546⟩ := X515.specialBack hx (y := (⟨"com/example/outbox/outbox/QueueCounts", "<init>", "(JJJJ)V"⟩ : MethodName)) rfl hown (mvT hZ (tw hw 3 rfl)) (mvT hZ (tw hw 4 rfl)) (mvT hZ (tw hw 5 rfl)) (by decide) (backOf (W := 1) (rmC l Z a0 hw [] a521 r (i + dl) d xq h514 n0 Z530 A518 F532 F533 F534 F535 nw524) hZ (tw hw 5 rfl) (tw hw 2 rfl) (by decide) (by decide)) (g := (mkF m 162 #[.val (.long r), .second, .val (.long i), .second, .val (.long d), .second, .val (.long xq), .second, iv sel, .val (.long dl), .second, iv 1, rv a471, .val (.long r), .second, .val (.long (i + dl)), .second, .val (.long d), .second, .val (.long xq), .second, .unset, .unset] [(.long xq), (.long d), (.long (i + dl)), (.long r), (.ref a521), (.ref a521)])) rfl (by rw [hml]; rfl) (Steps.refl _) (a := a521) (argsL := [(.long r), (.long (i + dl)), (.long d), (.long xq)]) (rest := [(.ref a521)]) (lenOf pdC rfl) rfl (leW rfl) (hb hby at_162) (fun _ _ => ⟨rfl, e516, (leB rfl), (leB rfl)⟩)
      dsimp only [Pt.U, Pt.locs, Pt.cells, Pt.slots] at X537 l543 y544 z545 st546 hQ542
      subst l543 y544 z545
      obtain ⟨rfl, N552, K553, F_0554, F_1555, F_2556, F_3557, F_4558⟩ := hQ542
      have N547 := Fr.app N491 N552
      have E559 := E525.keep K553
      have F560 := F526.keep K553 (ninS ne523 nin0)
      have F561 := F527.keep K553 (ninS ne523 nin0)
      have F562 := F528.keep K553 (ninS ne523 nin0)
      have F563 := F529.keep K553 (ninS ne523 nin0)
      have E564 := A518.keep K553
      have Z565 := Nat.le_trans Z530 K553.1
      have O566 := O531.keep K553 (allS nw524 all0)
      refine Way.to st546 ?_
      show Way _ _ _ _ (T536.setTop (mkF m 165 #[.val (.long r), .second, .val (.long i), .second, .val (.long d), .second, .val (.long xq), .second, iv sel, .val (.long dl), .second, iv 1, rv a471, .val (.long r), .second, .val (.long (i + dl)), .second, .val (.long d), .second, .val (.long xq), .second, .unset, .unset] [(.ref a521)]))
      refine Way.by (fun _ k => XS.astore X537.here hx rfl (hb hby at_165) rfl rfl (l' := #[.val (.long r), .second, .val (.long i), .second, .val (.long d), .second, .val (.long xq), .second, iv sel, .val (.long dl), .second, iv 1, rv a471, .val (.long r), .second, .val (.long (i + dl)), .second, .val (.long d), .second, .val (.long xq), .second, rv a521, .unset]) rfl k) ?_
      show Way _ _ _ _ (T536.setTop (mkF m 167 #[.val (.long r), .second, .val (.long i), .second, .val (.long d), .second, .val (.long xq), .second, iv sel, .val (.long dl), .second, iv 1, rv a471, .val (.long r), .second, .val (.long (i + dl)), .second, .val (.long d), .second, .val (.long xq), .second, rv a521, .unset] []))
      refine Way.by (fun _ k => XS.iload X537.here hx rfl (hb hby at_167) rfl k) ?_
      show Way _ _ _ _ (T536.setTop (mkF m 169 #[.val (.long r), .second, .val (.long i), .second, .val (.long d), .second, .val (.long xq), .second, iv sel, .val (.long dl), .second, iv 1, rv a471, .val (.long r), .second, .val (.long (i + dl)), .second, .val (.long d), .second, .val (.long xq), .second, rv a521, .unset] [(.int 1)]))
      refine Way.by (fun _ k => XS.iconst X537.here hx rfl (hb hby at_169) k) ?_
      show Way _ _ _ _ (T536.setTop (mkF m 170 #[.val (.long r), .second, .val (.long i), .second, .val (.long d), .second, .val (.long xq), .second, iv sel, .val (.long dl), .second, iv 1, rv a471, .val (.long r), .second, .val (.long (i + dl)), .second, .val (.long d), .second, .val (.long xq), .second, rv a521, .unset] [(.int 4), (.int 1)]))
      have b567 : ¬ (1 : Int32) = (4 : Int32) := by decide
      refine Way.by (fun _ k => XS.icmpNo X537.here hx rfl (hb hby at_170) rfl (feq b567).1 k) ?_
      show Way _ _ _ _ (T536.setTop (mkF m 173 #[.val (.long r), .second, .val (.long i), .second, .val (.long d), .second, .val (.long xq), .second, iv sel, .val (.long dl), .second, iv 1, rv a471, .val (.long r), .second, .val (.long (i + dl)), .second, .val (.long d), .second, .val (.long xq), .second, rv a521, .unset] []))
      refine Way.by (fun _ k => XT.lload X537.here hx rfl (hb hby at_173) rfl k) ?_
      show Way _ _ _ _ (T536.setTop (mkF m 175 #[.val (.long r), .second, .val (.long i), .second, .val (.long d), .second, .val (.long xq), .second, iv sel, .val (.long dl), .second, iv 1, rv a471, .val (.long r), .second, .val (.long (i + dl)), .second, .val (.long d), .second, .val (.long xq), .second, rv a521, .unset] [(.long dl)]))
      refine Way.by (fun _ k => XT.lconst X537.here hx rfl (hb hby at_175) k) ?_
      show Way _ _ _ _ (T536.setTop (mkF m 176 #[.val (.long r), .second, .val (.long i), .second, .val (.long d), .second, .val (.long xq), .second, iv sel, .val (.long dl), .second, iv 1, rv a471, .val (.long r), .second, .val (.long (i + dl)), .second, .val (.long d), .second, .val (.long xq), .second, rv a521, .unset] [(.long (0 : Int64)), (.long dl)]))
      refine Way.by (fun _ k => XT.lcmp X537.here hx rfl (hb hby at_176) rfl k) ?_
      show Way _ _ _ _ (T536.setTop (mkF m 177 #[.val (.long r), .second, .val (.long i), .second, .val (.long d), .second, .val (.long xq), .second, iv sel, .val (.long dl), .second, iv 1, rv a471, .val (.long r), .second, .val (.long (i + dl)), .second, .val (.long d), .second, .val (.long xq), .second, rv a521, .unset] [(.int (XT.cmpL dl (0 : Int64)))]))
      have b568 : ¬ (XT.cmpL dl (0 : Int64)) = (0 : Int32) := fun q => hdl ((cmpL0 _ _).mp q)
      refine Way.by (fun _ k => XS.ifYes X537.here hx rfl (pc0 := 177) (pc' := 184) rfl (hb hby at_177) rfl ((if0 .ne _).trans (feq b568).2) (by decide) (by decide) k) ?_
      show Way _ _ _ _ (T536.setTop (mkF m 184 #[.val (.long r), .second, .val (.long i), .second, .val (.long d), .second, .val (.long xq), .second, iv sel, .val (.long dl), .second, iv 1, rv a471, .val (.long r), .second, .val (.long (i + dl)), .second, .val (.long d), .second, .val (.long xq), .second, rv a521, .unset] []))
      refine Way.by (fun _ k => XS.iconst X537.here hx rfl (hb hby at_184) k) ?_
      show Way _ _ _ _ (T536.setTop (mkF m 185 #[.val (.long r), .second, .val (.long i), .second, .val (.long d), .second, .val (.long xq), .second, iv sel, .val (.long dl), .second, iv 1, rv a471, .val (.long r), .second, .val (.long (i + dl)), .second, .val (.long d), .second, .val (.long xq), .second, rv a521, .unset] [(.int 0)]))
      refine Way.by (fun _ k => XS.istore X537.here hx rfl (hb hby at_185) rfl (l' := #[.val (.long r), .second, .val (.long i), .second, .val (.long d), .second, .val (.long xq), .second, iv sel, .val (.long dl), .second, iv 1, rv a471, .val (.long r), .second, .val (.long (i + dl)), .second, .val (.long d), .second, .val (.long xq), .second, rv a521, iv 0]) rfl k) ?_
      show Way _ _ _ _ (T536.setTop (mkF m 187 #[.val (.long r), .second, .val (.long i), .second, .val (.long d), .second, .val (.long xq), .second, iv sel, .val (.long dl), .second, iv 1, rv a471, .val (.long r), .second, .val (.long (i + dl)), .second, .val (.long d), .second, .val (.long xq), .second, rv a521, iv 0] []))
      refine Way.by (fun _ k => XS.aload X537.here hx rfl (hb hby at_187) rfl rfl k) ?_
      show Way _ _ _ _ (T536.setTop (mkF m 189 #[.val (.long r), .second, .val (.long i), .second, .val (.long d), .second, .val (.long xq), .second, iv sel, .val (.long dl), .second, iv 1, rv a471, .val (.long r), .second, .val (.long (i + dl)), .second, .val (.long d), .second, .val (.long xq), .second, rv a521, iv 0] [(.ref a471)]))
      refine Way.by (fun _ k => XS.aload X537.here hx rfl (hb hby at_189) rfl rfl k) ?_
      show Way _ _ _ _ (T536.setTop (mkF m 191 #[.val (.long r), .second, .val (.long i), .second, .val (.long d), .second, .val (.long xq), .second, iv sel, .val (.long dl), .second, iv 1, rv a471, .val (.long r), .second, .val (.long (i + dl)), .second, .val (.long d), .second, .val (.long xq), .second, rv a521, iv 0] [(.ref a521), (.ref a471)]))
      obtain ⟨cq585, kq586, qa587, qb588, qc589⟩ := isOf hZ rfl E559
      obtain ⟨_, _, ⟨T569, L571, k572, n573⟩, -, X570, ⟨Lc574, hQ575, l576, y577, z578⟩, st579⟩ := X537.virtualBack hx (y := (⟨"com/example/outbox/outbox/QueueCounts", "equals", "(Ljava/lang/Object;)Z"⟩ : MethodName)) (z := (⟨"com/example/outbox/outbox/QueueCounts", "equals", "(Ljava/lang/Object;)Z"⟩ : MethodName)) hown (mvT hZ (tw hw 17 rfl)) (mvT hZ (tw hw 18 rfl)) (notFace_of_selects (args := #[]) (mvT hZ (tw hw 20 rfl))) (mvT hZ (tw hw 20 rfl)) (mvT hZ (tw hw 19 rfl)) (by decide) (backOf (W := 0) (rmE l Z a0 hw [] a471 a521 r i d xq r (i + dl) d xq (0 : Int32) T536.heap n0 Z565 F_0554 F560 F561 F562 F563 F_1555 F_2556 F_3557 F_4558 (by simp [addNe, addNe2, hdl])) hZ (tw hw 21 rfl) (tw hw 2 rfl) (by decide) (by decide)) qa587 qc589 (g := (mkF m 191 #[.val (.long r), .second, .val (.long i), .second, .val (.long d), .second, .val (.long xq), .second, iv sel, .val (.long dl), .second, iv 1, rv a471, .val (.long r), .second, .val (.long (i + dl)), .second, .val (.long d), .second, .val (.long xq), .second, rv a521, iv 0] [(.ref a521), (.ref a471)])) rfl (by rw [hml]; rfl) (Steps.refl _) (argsL := [(.ref a521)]) (rest := []) (lenOf pdE rfl) rfl (leW rfl) (hb hby at_191) (fun _ _ => ⟨rfl, rfl, (leB rfl), (leB rfl)⟩)
      dsimp only [Pt.U, Pt.locs, Pt.cells, Pt.slots] at X570 l576 y577 z578 st579 hQ575
      subst l576 y577 z578
      obtain ⟨rfl, N590, e581⟩ := hQ575
      have N580 := Fr.app N547 N590
      refine Way.to st579 ?_
      show Way _ _ _ _ (T569.setTop (mkF m 194 #[.val (.long r), .second, .val (.long i), .second, .val (.long d), .second, .val (.long xq), .second, iv sel, .val (.long dl), .second, iv 1, rv a471, .val (.long r), .second, .val (.long (i + dl)), .second, .val (.long d), .second, .val (.long xq), .second, rv a521, iv 0] [(.int 0)]))
      refine Way.by (fun _ k => XS.iload X570.here hx rfl (hb hby at_194) rfl k) ?_
      show Way _ _ _ _ (T569.setTop (mkF m 196 #[.val (.long r), .second, .val (.long i), .second, .val (.long d), .second, .val (.long xq), .second, iv sel, .val (.long dl), .second, iv 1, rv a471, .val (.long r), .second, .val (.long (i + dl)), .second, .val (.long d), .second, .val (.long xq), .second, rv a521, iv 0] [(.int 0), (.int 0)]))
      have b592 : (0 : Int32) = (0 : Int32) := by decide
      refine Way.by (fun _ k => XS.icmpNo X570.here hx rfl (hb hby at_196) rfl (teq b592).2 k) ?_
      show Way _ _ _ _ (T569.setTop (mkF m 199 #[.val (.long r), .second, .val (.long i), .second, .val (.long d), .second, .val (.long xq), .second, iv sel, .val (.long dl), .second, iv 1, rv a471, .val (.long r), .second, .val (.long (i + dl)), .second, .val (.long d), .second, .val (.long xq), .second, rv a521, iv 0] []))
      refine Way.by (fun _ k => XS.aload X570.here hx rfl (hb hby at_199) rfl rfl k) ?_
      show Way _ _ _ _ (T569.setTop (mkF m 201 #[.val (.long r), .second, .val (.long i), .second, .val (.long d), .second, .val (.long xq), .second, iv sel, .val (.long dl), .second, iv 1, rv a471, .val (.long r), .second, .val (.long (i + dl)), .second, .val (.long d), .second, .val (.long xq), .second, rv a521, iv 0] [(.ref a521)]))
      refine Way.by (fun _ k => XS.aload X570.here hx rfl (hb hby at_201) rfl rfl k) ?_
      show Way _ _ _ _ (T569.setTop (mkF m 203 #[.val (.long r), .second, .val (.long i), .second, .val (.long d), .second, .val (.long xq), .second, iv sel, .val (.long dl), .second, iv 1, rv a471, .val (.long r), .second, .val (.long (i + dl)), .second, .val (.long d), .second, .val (.long xq), .second, rv a521, iv 0] [(.ref a471), (.ref a521)]))
      obtain ⟨cq609, kq610, qa611, qb612, qc613⟩ := isOf hZ e581 F_0554
      obtain ⟨_, _, ⟨T593, L595, k596, n597⟩, -, X594, ⟨Lc598, hQ599, l600, y601, z602⟩, st603⟩ := X570.virtualBack hx (y := (⟨"com/example/outbox/outbox/QueueCounts", "equals", "(Ljava/lang/Object;)Z"⟩ : MethodName)) (z := (⟨"com/example/outbox/outbox/QueueCounts", "equals", "(Ljava/lang/Object;)Z"⟩ : MethodName)) hown (mvT hZ (tw hw 17 rfl)) (mvT hZ (tw hw 18 rfl)) (notFace_of_selects (args := #[]) (mvT hZ (tw hw 20 rfl))) (mvT hZ (tw hw 20 rfl)) (mvT hZ (tw hw 19 rfl)) (by decide) (backOf (W := 0) (rmE l Z a0 hw [] a521 a471 r (i + dl) d xq r i d xq (0 : Int32) T536.heap n0 Z565 E559 F_1555 F_2556 F_3557 F_4558 F560 F561 F562 F563 (by simp [addNe, addNe2, hdl])) hZ (tw hw 21 rfl) (tw hw 2 rfl) (by decide) (by decide)) qa611 qc613 (g := (mkF m 203 #[.val (.long r), .second, .val (.long i), .second, .val (.long d), .second, .val (.long xq), .second, iv sel, .val (.long dl), .second, iv 1, rv a471, .val (.long r), .second, .val (.long (i + dl)), .second, .val (.long d), .second, .val (.long xq), .second, rv a521, iv 0] [(.ref a471), (.ref a521)])) rfl (by rw [hml]; rfl) (Steps.refl _) (argsL := [(.ref a471)]) (rest := []) (lenOf pdE rfl) rfl (leW rfl) (hb hby at_203) (fun _ _ => ⟨rfl, e581, (leB rfl), (leB rfl)⟩)
      dsimp only [Pt.U, Pt.locs, Pt.cells, Pt.slots] at X594 l600 y601 z602 st603 hQ599
      subst l600 y601 z602
      obtain ⟨rfl, N614, e605⟩ := hQ599
      have N604 := Fr.app N580 N614
      refine Way.to st603 ?_
      show Way _ _ _ _ (T593.setTop (mkF m 206 #[.val (.long r), .second, .val (.long i), .second, .val (.long d), .second, .val (.long xq), .second, iv sel, .val (.long dl), .second, iv 1, rv a471, .val (.long r), .second, .val (.long (i + dl)), .second, .val (.long d), .second, .val (.long xq), .second, rv a521, iv 0] [(.int 0)]))
      refine Way.by (fun _ k => XS.iload X594.here hx rfl (hb hby at_206) rfl k) ?_
      show Way _ _ _ _ (T593.setTop (mkF m 208 #[.val (.long r), .second, .val (.long i), .second, .val (.long d), .second, .val (.long xq), .second, iv sel, .val (.long dl), .second, iv 1, rv a471, .val (.long r), .second, .val (.long (i + dl)), .second, .val (.long d), .second, .val (.long xq), .second, rv a521, iv 0] [(.int 0), (.int 0)]))
      have b616 : (0 : Int32) = (0 : Int32) := by decide
      refine Way.by (fun _ k => XS.icmpNo X594.here hx rfl (hb hby at_208) rfl (teq b616).2 k) ?_
      show Way _ _ _ _ (T593.setTop (mkF m 211 #[.val (.long r), .second, .val (.long i), .second, .val (.long d), .second, .val (.long xq), .second, iv sel, .val (.long dl), .second, iv 1, rv a471, .val (.long r), .second, .val (.long (i + dl)), .second, .val (.long d), .second, .val (.long xq), .second, rv a521, iv 0] []))
      refine Way.by (fun _ k => XS.iconst X594.here hx rfl (hb hby at_211) k) ?_
      show Way _ _ _ _ (T593.setTop (mkF m 212 #[.val (.long r), .second, .val (.long i), .second, .val (.long d), .second, .val (.long xq), .second, iv sel, .val (.long dl), .second, iv 1, rv a471, .val (.long r), .second, .val (.long (i + dl)), .second, .val (.long d), .second, .val (.long xq), .second, rv a521, iv 0] [(.int 1)]))
      refine Way.by (fun _ k => XS.goto X594.here hx rfl (pc0 := 212) (pc' := 216) rfl (hb hby at_212) (by decide) (by decide) k) ?_
      show Way _ _ _ _ (T593.setTop (mkF m 216 #[.val (.long r), .second, .val (.long i), .second, .val (.long d), .second, .val (.long xq), .second, iv sel, .val (.long dl), .second, iv 1, rv a471, .val (.long r), .second, .val (.long (i + dl)), .second, .val (.long d), .second, .val (.long xq), .second, rv a521, iv 0] [(.int 1)]))
      refine Way.ret (v := (some (.int (nar .boolean (1 : Int32))))) X594 hlk (fun h => by rw [Bd.returns] at h; cases h) (fun fs hr => retN X594 hx (t := .boolean) Bd.returns (by simp) (hb hby at_216) hr) ?_ (by decide) (by decide)
      show Q0 n0 _ T593.heap _
      rw [e605]
      exact ⟨rfl, N604⟩
  · skip
    show Way _ _ _ _ (s₁.setTop (mkF m 7 #[.val (.long r), .second, .val (.long i), .second, .val (.long d), .second, .val (.long xq), .second, iv sel, .val (.long dl), .second, iv 2, .unset, .unset, .unset, .unset, .unset, .unset, .unset, .unset, .unset, .unset, .unset] []))
    by_cases hdl : dl = 0
    · skip
      show Way _ _ _ _ (s₁.setTop (mkF m 7 #[.val (.long r), .second, .val (.long i), .second, .val (.long d), .second, .val (.long xq), .second, iv sel, .val (.long dl), .second, iv 2, .unset, .unset, .unset, .unset, .unset, .unset, .unset, .unset, .unset, .unset, .unset] []))
      obtain ⟨T617, h618, X619, e620, E621, A622, D623, -, st624⟩ := newO X0 hx hZ hown (tw hw 0 rfl) (tw hw 1 rfl) (tw hw 2 rfl) e0 (g := (mkF m 7 #[.val (.long r), .second, .val (.long i), .second, .val (.long d), .second, .val (.long xq), .second, iv sel, .val (.long dl), .second, iv 2, .unset, .unset, .unset, .unset, .unset, .unset, .unset, .unset, .unset, .unset, .unset] [])) rfl (hb hby at_7) (by decide) (by decide)
      obtain ⟨a625, g626⟩ : ∃ z, z = h0.size := ⟨_, rfl⟩
      rw [← g626] at A622 D623 st624
      have nw627 : n0 ≤ a625 := Nat.le_trans Z0 (Nat.le_of_eq g626.symm)
      have Z628 := Nat.le_trans Z0 E621.1
      have O629 := O0.ext E621
      have F630 : Fld Z h618 a625 "com/example/outbox/outbox/QueueCounts" "ready" "J" (.long (0 : Int64)) := D623 (Or.inr (tw hw 10 rfl)) (ty := .long) (by decide)
      have F631 : Fld Z h618 a625 "com/example/outbox/outbox/QueueCounts" "inflight" "J" (.long (0 : Int64)) := D623 (Or.inr (tw hw 12 rfl)) (ty := .long) (by decide)
      have F632 : Fld Z h618 a625 "com/example/outbox/outbox/QueueCounts" "delayed" "J" (.long (0 : Int64)) := D623 (Or.inr (tw hw 14 rfl)) (ty := .long) (by decide)
      have F633 : Fld Z h618 a625 "com/example/outbox/outbox/QueueCounts" "dead" "J" (.long (0 : Int64)) := D623 (Or.inr (tw hw 16 rfl)) (ty := .long) (by decide)
      refine Way.by st624 ?_
      show Way _ _ _ _ (T617.setTop (mkF m 10 #[.val (.long r), .second, .val (.long i), .second, .val (.long d), .second, .val (.long xq), .second, iv sel, .val (.long dl), .second, iv 2, .unset, .unset, .unset, .unset, .unset, .unset, .unset, .unset, .unset, .unset, .unset] [(.ref a625)]))
      refine Way.by (fun _ k => XS.dup X619.here hx rfl (hb hby at_10) rfl rfl k) ?_
      show Way _ _ _ _ (T617.setTop (mkF m 11 #[.val (.long r), .second, .val (.long i), .second, .val (.long d), .second, .val (.long xq), .second, iv sel, .val (.long dl), .second, iv 2, .unset, .unset, .unset, .unset, .unset, .unset, .unset, .unset, .unset, .unset, .unset] [(.ref a625), (.ref a625)]))
      refine Way.by (fun _ k => XT.lloadN X619.here hx rfl (hb hby at_11) rfl k) ?_
      show Way _ _ _ _ (T617.setTop (mkF m 12 #[.val (.long r), .second, .val (.long i), .second, .val (.long d), .second, .val (.long xq), .second, iv sel, .val (.long dl), .second, iv 2, .unset, .unset, .unset, .unset, .unset, .unset, .unset, .unset, .unset, .unset, .unset] [(.long r), (.ref a625), (.ref a625)]))
      refine Way.by (fun _ k => XT.lloadN X619.here hx rfl (hb hby at_12) rfl k) ?_
      show Way _ _ _ _ (T617.setTop (mkF m 13 #[.val (.long r), .second, .val (.long i), .second, .val (.long d), .second, .val (.long xq), .second, iv sel, .val (.long dl), .second, iv 2, .unset, .unset, .unset, .unset, .unset, .unset, .unset, .unset, .unset, .unset, .unset] [(.long i), (.long r), (.ref a625), (.ref a625)]))
      refine Way.by (fun _ k => XT.lload X619.here hx rfl (hb hby at_13) rfl k) ?_
      show Way _ _ _ _ (T617.setTop (mkF m 15 #[.val (.long r), .second, .val (.long i), .second, .val (.long d), .second, .val (.long xq), .second, iv sel, .val (.long dl), .second, iv 2, .unset, .unset, .unset, .unset, .unset, .unset, .unset, .unset, .unset, .unset, .unset] [(.long d), (.long i), (.long r), (.ref a625), (.ref a625)]))
      refine Way.by (fun _ k => XT.lload X619.here hx rfl (hb hby at_15) rfl k) ?_
      show Way _ _ _ _ (T617.setTop (mkF m 17 #[.val (.long r), .second, .val (.long i), .second, .val (.long d), .second, .val (.long xq), .second, iv sel, .val (.long dl), .second, iv 2, .unset, .unset, .unset, .unset, .unset, .unset, .unset, .unset, .unset, .unset, .unset] [(.long xq), (.long d), (.long i), (.long r), (.ref a625), (.ref a625)]))
      obtain ⟨_, _, ⟨T634, L636, k637, n638⟩, -, X635, ⟨Lc639, hQ640, l641, y642, z643⟩, st644⟩ := X619.specialBack hx (y := (⟨"com/example/outbox/outbox/QueueCounts", "<init>", "(JJJJ)V"⟩ : MethodName)) rfl hown (mvT hZ (tw hw 3 rfl)) (mvT hZ (tw hw 4 rfl)) (mvT hZ (tw hw 5 rfl)) (by decide) (backOf (W := 1) (rmC l Z a0 hw [] a625 r i d xq h618 n0 Z628 A622 F630 F631 F632 F633 nw627) hZ (tw hw 5 rfl) (tw hw 2 rfl) (by decide) (by decide)) (g := (mkF m 17 #[.val (.long r), .second, .val (.long i), .second, .val (.long d), .second, .val (.long xq), .second, iv sel, .val (.long dl), .second, iv 2, .unset, .unset, .unset, .unset, .unset, .unset, .unset, .unset, .unset, .unset, .unset] [(.long xq), (.long d), (.long i), (.long r), (.ref a625), (.ref a625)])) rfl (by rw [hml]; rfl) (Steps.refl _) (a := a625) (argsL := [(.long r), (.long i), (.long d), (.long xq)]) (rest := [(.ref a625)]) (lenOf pdC rfl) rfl (leW rfl) (hb hby at_17) (fun _ _ => ⟨rfl, e620, (leB rfl), (leB rfl)⟩)
      dsimp only [Pt.U, Pt.locs, Pt.cells, Pt.slots] at X635 l641 y642 z643 st644 hQ640
      subst l641 y642 z643
      obtain ⟨rfl, N650, K651, F_0652, F_1653, F_2654, F_3655, F_4656⟩ := hQ640
      have N645 := Fr.app N0 N650
      have E657 := A622.keep K651
      have Z658 := Nat.le_trans Z628 K651.1
      have O659 := O629.keep K651 (allS nw627 all0)
      refine Way.to st644 ?_
      show Way _ _ _ _ (T634.setTop (mkF m 20 #[.val (.long r), .second, .val (.long i), .second, .val (.long d), .second, .val (.long xq), .second, iv sel, .val (.long dl), .second, iv 2, .unset, .unset, .unset, .unset, .unset, .unset, .unset, .unset, .unset, .unset, .unset] [(.ref a625)]))
      refine Way.by (fun _ k => XS.astore X635.here hx rfl (hb hby at_20) rfl rfl (l' := #[.val (.long r), .second, .val (.long i), .second, .val (.long d), .second, .val (.long xq), .second, iv sel, .val (.long dl), .second, iv 2, rv a625, .unset, .unset, .unset, .unset, .unset, .unset, .unset, .unset, .unset, .unset]) rfl k) ?_
      show Way _ _ _ _ (T634.setTop (mkF m 22 #[.val (.long r), .second, .val (.long i), .second, .val (.long d), .second, .val (.long xq), .second, iv sel, .val (.long dl), .second, iv 2, rv a625, .unset, .unset, .unset, .unset, .unset, .unset, .unset, .unset, .unset, .unset] []))
      refine Way.by (fun _ k => XS.iload X635.here hx rfl (hb hby at_22) rfl k) ?_
      show Way _ _ _ _ (T634.setTop (mkF m 24 #[.val (.long r), .second, .val (.long i), .second, .val (.long d), .second, .val (.long xq), .second, iv sel, .val (.long dl), .second, iv 2, rv a625, .unset, .unset, .unset, .unset, .unset, .unset, .unset, .unset, .unset, .unset] [(.int 2)]))
      refine Way.by (fun _ k => XS.iconst X635.here hx rfl (hb hby at_24) k) ?_
      show Way _ _ _ _ (T634.setTop (mkF m 25 #[.val (.long r), .second, .val (.long i), .second, .val (.long d), .second, .val (.long xq), .second, iv sel, .val (.long dl), .second, iv 2, rv a625, .unset, .unset, .unset, .unset, .unset, .unset, .unset, .unset, .unset, .unset] [(.int 5), (.int 2)]))
      have b660 : ¬ (2 : Int32) = (5 : Int32) := by decide
      refine Way.by (fun _ k => XS.icmpYes X635.here hx rfl (pc0 := 25) (pc' := 43) rfl (hb hby at_25) rfl (feq b660).2 (by decide) (by decide) k) ?_
      show Way _ _ _ _ (T634.setTop (mkF m 43 #[.val (.long r), .second, .val (.long i), .second, .val (.long d), .second, .val (.long xq), .second, iv sel, .val (.long dl), .second, iv 2, rv a625, .unset, .unset, .unset, .unset, .unset, .unset, .unset, .unset, .unset, .unset] []))
      refine Way.by (fun _ k => XS.iload X635.here hx rfl (hb hby at_43) rfl k) ?_
      show Way _ _ _ _ (T634.setTop (mkF m 45 #[.val (.long r), .second, .val (.long i), .second, .val (.long d), .second, .val (.long xq), .second, iv sel, .val (.long dl), .second, iv 2, rv a625, .unset, .unset, .unset, .unset, .unset, .unset, .unset, .unset, .unset, .unset] [(.int 2)]))
      refine Way.by (fun _ k => XS.bipush X635.here hx rfl (hb hby at_45) k) ?_
      show Way _ _ _ _ (T634.setTop (mkF m 47 #[.val (.long r), .second, .val (.long i), .second, .val (.long d), .second, .val (.long xq), .second, iv sel, .val (.long dl), .second, iv 2, rv a625, .unset, .unset, .unset, .unset, .unset, .unset, .unset, .unset, .unset, .unset] [(.int 6), (.int 2)]))
      have b661 : ¬ (2 : Int32) = (6 : Int32) := by decide
      refine Way.by (fun _ k => XS.icmpYes X635.here hx rfl (pc0 := 47) (pc' := 68) rfl (hb hby at_47) rfl (feq b661).2 (by decide) (by decide) k) ?_
      show Way _ _ _ _ (T634.setTop (mkF m 68 #[.val (.long r), .second, .val (.long i), .second, .val (.long d), .second, .val (.long xq), .second, iv sel, .val (.long dl), .second, iv 2, rv a625, .unset, .unset, .unset, .unset, .unset, .unset, .unset, .unset, .unset, .unset] []))
      refine Way.by (fun _ k => XS.iload X635.here hx rfl (hb hby at_68) rfl k) ?_
      show Way _ _ _ _ (T634.setTop (mkF m 70 #[.val (.long r), .second, .val (.long i), .second, .val (.long d), .second, .val (.long xq), .second, iv sel, .val (.long dl), .second, iv 2, rv a625, .unset, .unset, .unset, .unset, .unset, .unset, .unset, .unset, .unset, .unset] [(.int 2)]))
      refine Way.by (fun _ k => XS.bipush X635.here hx rfl (hb hby at_70) k) ?_
      show Way _ _ _ _ (T634.setTop (mkF m 72 #[.val (.long r), .second, .val (.long i), .second, .val (.long d), .second, .val (.long xq), .second, iv sel, .val (.long dl), .second, iv 2, rv a625, .unset, .unset, .unset, .unset, .unset, .unset, .unset, .unset, .unset, .unset] [(.int 7), (.int 2)]))
      have b662 : ¬ (2 : Int32) = (7 : Int32) := by decide
      refine Way.by (fun _ k => XS.icmpYes X635.here hx rfl (pc0 := 72) (pc' := 83) rfl (hb hby at_72) rfl (feq b662).2 (by decide) (by decide) k) ?_
      show Way _ _ _ _ (T634.setTop (mkF m 83 #[.val (.long r), .second, .val (.long i), .second, .val (.long d), .second, .val (.long xq), .second, iv sel, .val (.long dl), .second, iv 2, rv a625, .unset, .unset, .unset, .unset, .unset, .unset, .unset, .unset, .unset, .unset] []))
      refine Way.by (fun _ k => XS.iload X635.here hx rfl (hb hby at_83) rfl k) ?_
      show Way _ _ _ _ (T634.setTop (mkF m 85 #[.val (.long r), .second, .val (.long i), .second, .val (.long d), .second, .val (.long xq), .second, iv sel, .val (.long dl), .second, iv 2, rv a625, .unset, .unset, .unset, .unset, .unset, .unset, .unset, .unset, .unset, .unset] [(.int 2)]))
      have b663 : ¬ (2 : Int32) = (0 : Int32) := by decide
      refine Way.by (fun _ k => XS.ifYes X635.here hx rfl (pc0 := 85) (pc' := 95) rfl (hb hby at_85) rfl ((if0 .ne _).trans (feq b663).2) (by decide) (by decide) k) ?_
      show Way _ _ _ _ (T634.setTop (mkF m 95 #[.val (.long r), .second, .val (.long i), .second, .val (.long d), .second, .val (.long xq), .second, iv sel, .val (.long dl), .second, iv 2, rv a625, .unset, .unset, .unset, .unset, .unset, .unset, .unset, .unset, .unset, .unset] []))
      refine Way.by (fun _ k => XT.lloadN X635.here hx rfl (hb hby at_95) rfl k) ?_
      show Way _ _ _ _ (T634.setTop (mkF m 96 #[.val (.long r), .second, .val (.long i), .second, .val (.long d), .second, .val (.long xq), .second, iv sel, .val (.long dl), .second, iv 2, rv a625, .unset, .unset, .unset, .unset, .unset, .unset, .unset, .unset, .unset, .unset] [(.long r)]))
      refine Way.by (fun _ k => XT.lstore X635.here hx rfl (hb hby at_96) rfl (l' := #[.val (.long r), .second, .val (.long i), .second, .val (.long d), .second, .val (.long xq), .second, iv sel, .val (.long dl), .second, iv 2, rv a625, .val (.long r), .second, .unset, .unset, .unset, .unset, .unset, .unset, .unset, .unset]) rfl k) ?_
      show Way _ _ _ _ (T634.setTop (mkF m 98 #[.val (.long r), .second, .val (.long i), .second, .val (.long d), .second, .val (.long xq), .second, iv sel, .val (.long dl), .second, iv 2, rv a625, .val (.long r), .second, .unset, .unset, .unset, .unset, .unset, .unset, .unset, .unset] []))
      refine Way.by (fun _ k => XS.iload X635.here hx rfl (hb hby at_98) rfl k) ?_
      show Way _ _ _ _ (T634.setTop (mkF m 100 #[.val (.long r), .second, .val (.long i), .second, .val (.long d), .second, .val (.long xq), .second, iv sel, .val (.long dl), .second, iv 2, rv a625, .val (.long r), .second, .unset, .unset, .unset, .unset, .unset, .unset, .unset, .unset] [(.int 2)]))
      refine Way.by (fun _ k => XS.iconst X635.here hx rfl (hb hby at_100) k) ?_
      show Way _ _ _ _ (T634.setTop (mkF m 101 #[.val (.long r), .second, .val (.long i), .second, .val (.long d), .second, .val (.long xq), .second, iv sel, .val (.long dl), .second, iv 2, rv a625, .val (.long r), .second, .unset, .unset, .unset, .unset, .unset, .unset, .unset, .unset] [(.int 1), (.int 2)]))
      have b664 : ¬ (2 : Int32) = (1 : Int32) := by decide
      refine Way.by (fun _ k => XS.icmpYes X635.here hx rfl (pc0 := 101) (pc' := 111) rfl (hb hby at_101) rfl (feq b664).2 (by decide) (by decide) k) ?_
      show Way _ _ _ _ (T634.setTop (mkF m 111 #[.val (.long r), .second, .val (.long i), .second, .val (.long d), .second, .val (.long xq), .second, iv sel, .val (.long dl), .second, iv 2, rv a625, .val (.long r), .second, .unset, .unset, .unset, .unset, .unset, .unset, .unset, .unset] []))
      refine Way.by (fun _ k => XT.lloadN X635.here hx rfl (hb hby at_111) rfl k) ?_
      show Way _ _ _ _ (T634.setTop (mkF m 112 #[.val (.long r), .second, .val (.long i), .second, .val (.long d), .second, .val (.long xq), .second, iv sel, .val (.long dl), .second, iv 2, rv a625, .val (.long r), .second, .unset, .unset, .unset, .unset, .unset, .unset, .unset, .unset] [(.long i)]))
      refine Way.by (fun _ k => XT.lstore X635.here hx rfl (hb hby at_112) rfl (l' := #[.val (.long r), .second, .val (.long i), .second, .val (.long d), .second, .val (.long xq), .second, iv sel, .val (.long dl), .second, iv 2, rv a625, .val (.long r), .second, .val (.long i), .second, .unset, .unset, .unset, .unset, .unset, .unset]) rfl k) ?_
      show Way _ _ _ _ (T634.setTop (mkF m 114 #[.val (.long r), .second, .val (.long i), .second, .val (.long d), .second, .val (.long xq), .second, iv sel, .val (.long dl), .second, iv 2, rv a625, .val (.long r), .second, .val (.long i), .second, .unset, .unset, .unset, .unset, .unset, .unset] []))
      refine Way.by (fun _ k => XS.iload X635.here hx rfl (hb hby at_114) rfl k) ?_
      show Way _ _ _ _ (T634.setTop (mkF m 116 #[.val (.long r), .second, .val (.long i), .second, .val (.long d), .second, .val (.long xq), .second, iv sel, .val (.long dl), .second, iv 2, rv a625, .val (.long r), .second, .val (.long i), .second, .unset, .unset, .unset, .unset, .unset, .unset] [(.int 2)]))
      refine Way.by (fun _ k => XS.iconst X635.here hx rfl (hb hby at_116) k) ?_
      show Way _ _ _ _ (T634.setTop (mkF m 117 #[.val (.long r), .second, .val (.long i), .second, .val (.long d), .second, .val (.long xq), .second, iv sel, .val (.long dl), .second, iv 2, rv a625, .val (.long r), .second, .val (.long i), .second, .unset, .unset, .unset, .unset, .unset, .unset] [(.int 2), (.int 2)]))
      have b665 : (2 : Int32) = (2 : Int32) := by decide
      refine Way.by (fun _ k => XS.icmpNo X635.here hx rfl (hb hby at_117) rfl (teq b665).2 k) ?_
      show Way _ _ _ _ (T634.setTop (mkF m 120 #[.val (.long r), .second, .val (.long i), .second, .val (.long d), .second, .val (.long xq), .second, iv sel, .val (.long dl), .second, iv 2, rv a625, .val (.long r), .second, .val (.long i), .second, .unset, .unset, .unset, .unset, .unset, .unset] []))
      refine Way.by (fun _ k => XT.lload X635.here hx rfl (hb hby at_120) rfl k) ?_
      show Way _ _ _ _ (T634.setTop (mkF m 122 #[.val (.long r), .second, .val (.long i), .second, .val (.long d), .second, .val (.long xq), .second, iv sel, .val (.long dl), .second, iv 2, rv a625, .val (.long r), .second, .val (.long i), .second, .unset, .unset, .unset, .unset, .unset, .unset] [(.long d)]))
      refine Way.by (fun _ k => XT.lload X635.here hx rfl (hb hby at_122) rfl k) ?_
      show Way _ _ _ _ (T634.setTop (mkF m 124 #[.val (.long r), .second, .val (.long i), .second, .val (.long d), .second, .val (.long xq), .second, iv sel, .val (.long dl), .second, iv 2, rv a625, .val (.long r), .second, .val (.long i), .second, .unset, .unset, .unset, .unset, .unset, .unset] [(.long dl), (.long d)]))
      refine Way.by (fun _ k => XT.ladd X635.here hx rfl (hb hby at_124) rfl k) ?_
      show Way _ _ _ _ (T634.setTop (mkF m 125 #[.val (.long r), .second, .val (.long i), .second, .val (.long d), .second, .val (.long xq), .second, iv sel, .val (.long dl), .second, iv 2, rv a625, .val (.long r), .second, .val (.long i), .second, .unset, .unset, .unset, .unset, .unset, .unset] [(.long (d + dl))]))
      refine Way.by (fun _ k => XS.goto X635.here hx rfl (pc0 := 125) (pc' := 130) rfl (hb hby at_125) (by decide) (by decide) k) ?_
      show Way _ _ _ _ (T634.setTop (mkF m 130 #[.val (.long r), .second, .val (.long i), .second, .val (.long d), .second, .val (.long xq), .second, iv sel, .val (.long dl), .second, iv 2, rv a625, .val (.long r), .second, .val (.long i), .second, .unset, .unset, .unset, .unset, .unset, .unset] [(.long (d + dl))]))
      refine Way.by (fun _ k => XT.lstore X635.here hx rfl (hb hby at_130) rfl (l' := #[.val (.long r), .second, .val (.long i), .second, .val (.long d), .second, .val (.long xq), .second, iv sel, .val (.long dl), .second, iv 2, rv a625, .val (.long r), .second, .val (.long i), .second, .val (.long (d + dl)), .second, .unset, .unset, .unset, .unset]) rfl k) ?_
      show Way _ _ _ _ (T634.setTop (mkF m 132 #[.val (.long r), .second, .val (.long i), .second, .val (.long d), .second, .val (.long xq), .second, iv sel, .val (.long dl), .second, iv 2, rv a625, .val (.long r), .second, .val (.long i), .second, .val (.long (d + dl)), .second, .unset, .unset, .unset, .unset] []))
      refine Way.by (fun _ k => XS.iload X635.here hx rfl (hb hby at_132) rfl k) ?_
      show Way _ _ _ _ (T634.setTop (mkF m 134 #[.val (.long r), .second, .val (.long i), .second, .val (.long d), .second, .val (.long xq), .second, iv sel, .val (.long dl), .second, iv 2, rv a625, .val (.long r), .second, .val (.long i), .second, .val (.long (d + dl)), .second, .unset, .unset, .unset, .unset] [(.int 2)]))
      refine Way.by (fun _ k => XS.iconst X635.here hx rfl (hb hby at_134) k) ?_
      show Way _ _ _ _ (T634.setTop (mkF m 135 #[.val (.long r), .second, .val (.long i), .second, .val (.long d), .second, .val (.long xq), .second, iv sel, .val (.long dl), .second, iv 2, rv a625, .val (.long r), .second, .val (.long i), .second, .val (.long (d + dl)), .second, .unset, .unset, .unset, .unset] [(.int 3), (.int 2)]))
      have b666 : ¬ (2 : Int32) = (3 : Int32) := by decide
      refine Way.by (fun _ k => XS.icmpYes X635.here hx rfl (pc0 := 135) (pc' := 146) rfl (hb hby at_135) rfl (feq b666).2 (by decide) (by decide) k) ?_
      show Way _ _ _ _ (T634.setTop (mkF m 146 #[.val (.long r), .second, .val (.long i), .second, .val (.long d), .second, .val (.long xq), .second, iv sel, .val (.long dl), .second, iv 2, rv a625, .val (.long r), .second, .val (.long i), .second, .val (.long (d + dl)), .second, .unset, .unset, .unset, .unset] []))
      refine Way.by (fun _ k => XT.lload X635.here hx rfl (hb hby at_146) rfl k) ?_
      show Way _ _ _ _ (T634.setTop (mkF m 148 #[.val (.long r), .second, .val (.long i), .second, .val (.long d), .second, .val (.long xq), .second, iv sel, .val (.long dl), .second, iv 2, rv a625, .val (.long r), .second, .val (.long i), .second, .val (.long (d + dl)), .second, .unset, .unset, .unset, .unset] [(.long xq)]))
      refine Way.by (fun _ k => XT.lstore X635.here hx rfl (hb hby at_148) rfl (l' := #[.val (.long r), .second, .val (.long i), .second, .val (.long d), .second, .val (.long xq), .second, iv sel, .val (.long dl), .second, iv 2, rv a625, .val (.long r), .second, .val (.long i), .second, .val (.long (d + dl)), .second, .val (.long xq), .second, .unset, .unset]) rfl k) ?_
      show Way _ _ _ _ (T634.setTop (mkF m 150 #[.val (.long r), .second, .val (.long i), .second, .val (.long d), .second, .val (.long xq), .second, iv sel, .val (.long dl), .second, iv 2, rv a625, .val (.long r), .second, .val (.long i), .second, .val (.long (d + dl)), .second, .val (.long xq), .second, .unset, .unset] []))
      obtain ⟨T667, h668, X669, e670, E671, A672, D673, -, st674⟩ := newO X635 hx hZ hown (tw hw 0 rfl) (tw hw 1 rfl) (tw hw 2 rfl) rfl (g := (mkF m 150 #[.val (.long r), .second, .val (.long i), .second, .val (.long d), .second, .val (.long xq), .second, iv sel, .val (.long dl), .second, iv 2, rv a625, .val (.long r), .second, .val (.long i), .second, .val (.long (d + dl)), .second, .val (.long xq), .second, .unset, .unset] [])) rfl (hb hby at_150) (by decide) (by decide)
      obtain ⟨a675, g676⟩ : ∃ z, z = T634.heap.size := ⟨_, rfl⟩
      rw [← g676] at A672 D673 st674
      have ne677 : a625 ≠ a675 := Nat.ne_of_lt (Nat.lt_of_lt_of_eq F_0652.lt g676.symm)
      have nw678 : n0 ≤ a675 := Nat.le_trans Z658 (Nat.le_of_eq g676.symm)
      have E679 := Exa.ext E671 F_0652
      have F680 := Fld.ext E671 F_1653
      have F681 := Fld.ext E671 F_2654
      have F682 := Fld.ext E671 F_3655
      have F683 := Fld.ext E671 F_4656
      have Z684 := Nat.le_trans Z658 E671.1
      have O685 := O659.ext E671
      have F686 : Fld Z h668 a675 "com/example/outbox/outbox/QueueCounts" "ready" "J" (.long (0 : Int64)) := D673 (Or.inr (tw hw 10 rfl)) (ty := .long) (by decide)
      have F687 : Fld Z h668 a675 "com/example/outbox/outbox/QueueCounts" "inflight" "J" (.long (0 : Int64)) := D673 (Or.inr (tw hw 12 rfl)) (ty := .long) (by decide)
      have F688 : Fld Z h668 a675 "com/example/outbox/outbox/QueueCounts" "delayed" "J" (.long (0 : Int64)) := D673 (Or.inr (tw hw 14 rfl)) (ty := .long) (by decide)
      have F689 : Fld Z h668 a675 "com/example/outbox/outbox/QueueCounts" "dead" "J" (.long (0 : Int64)) := D673 (Or.inr (tw hw 16 rfl)) (ty := .long) (by decide)
      refine Way.by st674 ?_
      show Way _ _ _ _ (T667.setTop (mkF m 153 #[.val (.long r), .second, .val (.long i), .second, .val (.long d), .second, .val (.long xq), .second, iv sel, .val (.long dl), .second, iv 2, rv a625, .val (.long r), .second, .val (.long i), .second, .val (.long (d + dl)), .second, .val (.long xq), .second, .unset, .unset] [(.ref a675)]))
      refine Way.by (fun _ k => XS.dup X669.here hx rfl (hb hby at_153) rfl rfl k) ?_
      show Way _ _ _ _ (T667.setTop (mkF m 154 #[.val (.long r), .second, .val (.long i), .second, .val (.long d), .second, .val (.long xq), .second, iv sel, .val (.long dl), .second, iv 2, rv a625, .val (.long r), .second, .val (.long i), .second, .val (.long (d + dl)), .second, .val (.long xq), .second, .unset, .unset] [(.ref a675), (.ref a675)]))
      refine Way.by (fun _ k => XT.lload X669.here hx rfl (hb hby at_154) rfl k) ?_
      show Way _ _ _ _ (T667.setTop (mkF m 156 #[.val (.long r), .second, .val (.long i), .second, .val (.long d), .second, .val (.long xq), .second, iv sel, .val (.long dl), .second, iv 2, rv a625, .val (.long r), .second, .val (.long i), .second, .val (.long (d + dl)), .second, .val (.long xq), .second, .unset, .unset] [(.long r), (.ref a675), (.ref a675)]))
      refine Way.by (fun _ k => XT.lload X669.here hx rfl (hb hby at_156) rfl k) ?_
      show Way _ _ _ _ (T667.setTop (mkF m 158 #[.val (.long r), .second, .val (.long i), .second, .val (.long d), .second, .val (.long xq), .second, iv sel, .val (.long dl), .second, iv 2, rv a625, .val (.long r), .second, .val (.long i), .second, .val (.long (d + dl)), .second, .val (.long xq), .second, .unset, .unset] [(.long i), (.long r), (.ref a675), (.ref a675)]))
      refine Way.by (fun _ k => XT.lload X669.here hx rfl (hb hby at_158) rfl k) ?_
      show Way _ _ _ _ (T667.setTop (mkF m 160 #[.val (.long r), .second, .val (.long i), .second, .val (.long d), .second, .val (.long xq), .second, iv sel, .val (.long dl), .second, iv 2, rv a625, .val (.long r), .second, .val (.long i), .second, .val (.long (d + dl)), .second, .val (.long xq), .second, .unset, .unset] [(.long (d + dl)), (.long i), (.long r), (.ref a675), (.ref a675)]))
      refine Way.by (fun _ k => XT.lload X669.here hx rfl (hb hby at_160) rfl k) ?_
      show Way _ _ _ _ (T667.setTop (mkF m 162 #[.val (.long r), .second, .val (.long i), .second, .val (.long d), .second, .val (.long xq), .second, iv sel, .val (.long dl), .second, iv 2, rv a625, .val (.long r), .second, .val (.long i), .second, .val (.long (d + dl)), .second, .val (.long xq), .second, .unset, .unset] [(.long xq), (.long (d + dl)), (.long i), (.long r), (.ref a675), (.ref a675)]))
      obtain ⟨_, _, ⟨T690, L692, k693, n694⟩, -, X691, ⟨Lc695, hQ696, l697, y698, z699⟩, st700⟩ := X669.specialBack hx (y := (⟨"com/example/outbox/outbox/QueueCounts", "<init>", "(JJJJ)V"⟩ : MethodName)) rfl hown (mvT hZ (tw hw 3 rfl)) (mvT hZ (tw hw 4 rfl)) (mvT hZ (tw hw 5 rfl)) (by decide) (backOf (W := 1) (rmC l Z a0 hw [] a675 r i (d + dl) xq h668 n0 Z684 A672 F686 F687 F688 F689 nw678) hZ (tw hw 5 rfl) (tw hw 2 rfl) (by decide) (by decide)) (g := (mkF m 162 #[.val (.long r), .second, .val (.long i), .second, .val (.long d), .second, .val (.long xq), .second, iv sel, .val (.long dl), .second, iv 2, rv a625, .val (.long r), .second, .val (.long i), .second, .val (.long (d + dl)), .second, .val (.long xq), .second, .unset, .unset] [(.long xq), (.long (d + dl)), (.long i), (.long r), (.ref a675), (.ref a675)])) rfl (by rw [hml]; rfl) (Steps.refl _) (a := a675) (argsL := [(.long r), (.long i), (.long (d + dl)), (.long xq)]) (rest := [(.ref a675)]) (lenOf pdC rfl) rfl (leW rfl) (hb hby at_162) (fun _ _ => ⟨rfl, e670, (leB rfl), (leB rfl)⟩)
      dsimp only [Pt.U, Pt.locs, Pt.cells, Pt.slots] at X691 l697 y698 z699 st700 hQ696
      subst l697 y698 z699
      obtain ⟨rfl, N706, K707, F_0708, F_1709, F_2710, F_3711, F_4712⟩ := hQ696
      have N701 := Fr.app N645 N706
      have E713 := E679.keep K707
      have F714 := F680.keep K707 (ninS ne677 nin0)
      have F715 := F681.keep K707 (ninS ne677 nin0)
      have F716 := F682.keep K707 (ninS ne677 nin0)
      have F717 := F683.keep K707 (ninS ne677 nin0)
      have E718 := A672.keep K707
      have Z719 := Nat.le_trans Z684 K707.1
      have O720 := O685.keep K707 (allS nw678 all0)
      refine Way.to st700 ?_
      show Way _ _ _ _ (T690.setTop (mkF m 165 #[.val (.long r), .second, .val (.long i), .second, .val (.long d), .second, .val (.long xq), .second, iv sel, .val (.long dl), .second, iv 2, rv a625, .val (.long r), .second, .val (.long i), .second, .val (.long (d + dl)), .second, .val (.long xq), .second, .unset, .unset] [(.ref a675)]))
      refine Way.by (fun _ k => XS.astore X691.here hx rfl (hb hby at_165) rfl rfl (l' := #[.val (.long r), .second, .val (.long i), .second, .val (.long d), .second, .val (.long xq), .second, iv sel, .val (.long dl), .second, iv 2, rv a625, .val (.long r), .second, .val (.long i), .second, .val (.long (d + dl)), .second, .val (.long xq), .second, rv a675, .unset]) rfl k) ?_
      show Way _ _ _ _ (T690.setTop (mkF m 167 #[.val (.long r), .second, .val (.long i), .second, .val (.long d), .second, .val (.long xq), .second, iv sel, .val (.long dl), .second, iv 2, rv a625, .val (.long r), .second, .val (.long i), .second, .val (.long (d + dl)), .second, .val (.long xq), .second, rv a675, .unset] []))
      refine Way.by (fun _ k => XS.iload X691.here hx rfl (hb hby at_167) rfl k) ?_
      show Way _ _ _ _ (T690.setTop (mkF m 169 #[.val (.long r), .second, .val (.long i), .second, .val (.long d), .second, .val (.long xq), .second, iv sel, .val (.long dl), .second, iv 2, rv a625, .val (.long r), .second, .val (.long i), .second, .val (.long (d + dl)), .second, .val (.long xq), .second, rv a675, .unset] [(.int 2)]))
      refine Way.by (fun _ k => XS.iconst X691.here hx rfl (hb hby at_169) k) ?_
      show Way _ _ _ _ (T690.setTop (mkF m 170 #[.val (.long r), .second, .val (.long i), .second, .val (.long d), .second, .val (.long xq), .second, iv sel, .val (.long dl), .second, iv 2, rv a625, .val (.long r), .second, .val (.long i), .second, .val (.long (d + dl)), .second, .val (.long xq), .second, rv a675, .unset] [(.int 4), (.int 2)]))
      have b721 : ¬ (2 : Int32) = (4 : Int32) := by decide
      refine Way.by (fun _ k => XS.icmpNo X691.here hx rfl (hb hby at_170) rfl (feq b721).1 k) ?_
      show Way _ _ _ _ (T690.setTop (mkF m 173 #[.val (.long r), .second, .val (.long i), .second, .val (.long d), .second, .val (.long xq), .second, iv sel, .val (.long dl), .second, iv 2, rv a625, .val (.long r), .second, .val (.long i), .second, .val (.long (d + dl)), .second, .val (.long xq), .second, rv a675, .unset] []))
      refine Way.by (fun _ k => XT.lload X691.here hx rfl (hb hby at_173) rfl k) ?_
      show Way _ _ _ _ (T690.setTop (mkF m 175 #[.val (.long r), .second, .val (.long i), .second, .val (.long d), .second, .val (.long xq), .second, iv sel, .val (.long dl), .second, iv 2, rv a625, .val (.long r), .second, .val (.long i), .second, .val (.long (d + dl)), .second, .val (.long xq), .second, rv a675, .unset] [(.long dl)]))
      refine Way.by (fun _ k => XT.lconst X691.here hx rfl (hb hby at_175) k) ?_
      show Way _ _ _ _ (T690.setTop (mkF m 176 #[.val (.long r), .second, .val (.long i), .second, .val (.long d), .second, .val (.long xq), .second, iv sel, .val (.long dl), .second, iv 2, rv a625, .val (.long r), .second, .val (.long i), .second, .val (.long (d + dl)), .second, .val (.long xq), .second, rv a675, .unset] [(.long (0 : Int64)), (.long dl)]))
      refine Way.by (fun _ k => XT.lcmp X691.here hx rfl (hb hby at_176) rfl k) ?_
      show Way _ _ _ _ (T690.setTop (mkF m 177 #[.val (.long r), .second, .val (.long i), .second, .val (.long d), .second, .val (.long xq), .second, iv sel, .val (.long dl), .second, iv 2, rv a625, .val (.long r), .second, .val (.long i), .second, .val (.long (d + dl)), .second, .val (.long xq), .second, rv a675, .unset] [(.int (XT.cmpL dl (0 : Int64)))]))
      have b722 : (XT.cmpL dl (0 : Int64)) = (0 : Int32) := (cmpL0 _ _).mpr hdl
      refine Way.by (fun _ k => XS.ifNo X691.here hx rfl (hb hby at_177) rfl ((if0 .ne _).trans (teq b722).2) k) ?_
      show Way _ _ _ _ (T690.setTop (mkF m 180 #[.val (.long r), .second, .val (.long i), .second, .val (.long d), .second, .val (.long xq), .second, iv sel, .val (.long dl), .second, iv 2, rv a625, .val (.long r), .second, .val (.long i), .second, .val (.long (d + dl)), .second, .val (.long xq), .second, rv a675, .unset] []))
      refine Way.by (fun _ k => XS.iconst X691.here hx rfl (hb hby at_180) k) ?_
      show Way _ _ _ _ (T690.setTop (mkF m 181 #[.val (.long r), .second, .val (.long i), .second, .val (.long d), .second, .val (.long xq), .second, iv sel, .val (.long dl), .second, iv 2, rv a625, .val (.long r), .second, .val (.long i), .second, .val (.long (d + dl)), .second, .val (.long xq), .second, rv a675, .unset] [(.int 1)]))
      refine Way.by (fun _ k => XS.goto X691.here hx rfl (pc0 := 181) (pc' := 185) rfl (hb hby at_181) (by decide) (by decide) k) ?_
      show Way _ _ _ _ (T690.setTop (mkF m 185 #[.val (.long r), .second, .val (.long i), .second, .val (.long d), .second, .val (.long xq), .second, iv sel, .val (.long dl), .second, iv 2, rv a625, .val (.long r), .second, .val (.long i), .second, .val (.long (d + dl)), .second, .val (.long xq), .second, rv a675, .unset] [(.int 1)]))
      refine Way.by (fun _ k => XS.istore X691.here hx rfl (hb hby at_185) rfl (l' := #[.val (.long r), .second, .val (.long i), .second, .val (.long d), .second, .val (.long xq), .second, iv sel, .val (.long dl), .second, iv 2, rv a625, .val (.long r), .second, .val (.long i), .second, .val (.long (d + dl)), .second, .val (.long xq), .second, rv a675, iv 1]) rfl k) ?_
      show Way _ _ _ _ (T690.setTop (mkF m 187 #[.val (.long r), .second, .val (.long i), .second, .val (.long d), .second, .val (.long xq), .second, iv sel, .val (.long dl), .second, iv 2, rv a625, .val (.long r), .second, .val (.long i), .second, .val (.long (d + dl)), .second, .val (.long xq), .second, rv a675, iv 1] []))
      refine Way.by (fun _ k => XS.aload X691.here hx rfl (hb hby at_187) rfl rfl k) ?_
      show Way _ _ _ _ (T690.setTop (mkF m 189 #[.val (.long r), .second, .val (.long i), .second, .val (.long d), .second, .val (.long xq), .second, iv sel, .val (.long dl), .second, iv 2, rv a625, .val (.long r), .second, .val (.long i), .second, .val (.long (d + dl)), .second, .val (.long xq), .second, rv a675, iv 1] [(.ref a625)]))
      refine Way.by (fun _ k => XS.aload X691.here hx rfl (hb hby at_189) rfl rfl k) ?_
      show Way _ _ _ _ (T690.setTop (mkF m 191 #[.val (.long r), .second, .val (.long i), .second, .val (.long d), .second, .val (.long xq), .second, iv sel, .val (.long dl), .second, iv 2, rv a625, .val (.long r), .second, .val (.long i), .second, .val (.long (d + dl)), .second, .val (.long xq), .second, rv a675, iv 1] [(.ref a675), (.ref a625)]))
      obtain ⟨cq739, kq740, qa741, qb742, qc743⟩ := isOf hZ rfl E713
      obtain ⟨_, _, ⟨T723, L725, k726, n727⟩, -, X724, ⟨Lc728, hQ729, l730, y731, z732⟩, st733⟩ := X691.virtualBack hx (y := (⟨"com/example/outbox/outbox/QueueCounts", "equals", "(Ljava/lang/Object;)Z"⟩ : MethodName)) (z := (⟨"com/example/outbox/outbox/QueueCounts", "equals", "(Ljava/lang/Object;)Z"⟩ : MethodName)) hown (mvT hZ (tw hw 17 rfl)) (mvT hZ (tw hw 18 rfl)) (notFace_of_selects (args := #[]) (mvT hZ (tw hw 20 rfl))) (mvT hZ (tw hw 20 rfl)) (mvT hZ (tw hw 19 rfl)) (by decide) (backOf (W := 0) (rmE l Z a0 hw [] a625 a675 r i d xq r i (d + dl) xq (1 : Int32) T690.heap n0 Z719 F_0708 F714 F715 F716 F717 F_1709 F_2710 F_3711 F_4712 (by simp [hdl])) hZ (tw hw 21 rfl) (tw hw 2 rfl) (by decide) (by decide)) qa741 qc743 (g := (mkF m 191 #[.val (.long r), .second, .val (.long i), .second, .val (.long d), .second, .val (.long xq), .second, iv sel, .val (.long dl), .second, iv 2, rv a625, .val (.long r), .second, .val (.long i), .second, .val (.long (d + dl)), .second, .val (.long xq), .second, rv a675, iv 1] [(.ref a675), (.ref a625)])) rfl (by rw [hml]; rfl) (Steps.refl _) (argsL := [(.ref a675)]) (rest := []) (lenOf pdE rfl) rfl (leW rfl) (hb hby at_191) (fun _ _ => ⟨rfl, rfl, (leB rfl), (leB rfl)⟩)
      dsimp only [Pt.U, Pt.locs, Pt.cells, Pt.slots] at X724 l730 y731 z732 st733 hQ729
      subst l730 y731 z732
      obtain ⟨rfl, N744, e735⟩ := hQ729
      have N734 := Fr.app N701 N744
      refine Way.to st733 ?_
      show Way _ _ _ _ (T723.setTop (mkF m 194 #[.val (.long r), .second, .val (.long i), .second, .val (.long d), .second, .val (.long xq), .second, iv sel, .val (.long dl), .second, iv 2, rv a625, .val (.long r), .second, .val (.long i), .second, .val (.long (d + dl)), .second, .val (.long xq), .second, rv a675, iv 1] [(.int 1)]))
      refine Way.by (fun _ k => XS.iload X724.here hx rfl (hb hby at_194) rfl k) ?_
      show Way _ _ _ _ (T723.setTop (mkF m 196 #[.val (.long r), .second, .val (.long i), .second, .val (.long d), .second, .val (.long xq), .second, iv sel, .val (.long dl), .second, iv 2, rv a625, .val (.long r), .second, .val (.long i), .second, .val (.long (d + dl)), .second, .val (.long xq), .second, rv a675, iv 1] [(.int 1), (.int 1)]))
      have b746 : (1 : Int32) = (1 : Int32) := by decide
      refine Way.by (fun _ k => XS.icmpNo X724.here hx rfl (hb hby at_196) rfl (teq b746).2 k) ?_
      show Way _ _ _ _ (T723.setTop (mkF m 199 #[.val (.long r), .second, .val (.long i), .second, .val (.long d), .second, .val (.long xq), .second, iv sel, .val (.long dl), .second, iv 2, rv a625, .val (.long r), .second, .val (.long i), .second, .val (.long (d + dl)), .second, .val (.long xq), .second, rv a675, iv 1] []))
      refine Way.by (fun _ k => XS.aload X724.here hx rfl (hb hby at_199) rfl rfl k) ?_
      show Way _ _ _ _ (T723.setTop (mkF m 201 #[.val (.long r), .second, .val (.long i), .second, .val (.long d), .second, .val (.long xq), .second, iv sel, .val (.long dl), .second, iv 2, rv a625, .val (.long r), .second, .val (.long i), .second, .val (.long (d + dl)), .second, .val (.long xq), .second, rv a675, iv 1] [(.ref a675)]))
      refine Way.by (fun _ k => XS.aload X724.here hx rfl (hb hby at_201) rfl rfl k) ?_
      show Way _ _ _ _ (T723.setTop (mkF m 203 #[.val (.long r), .second, .val (.long i), .second, .val (.long d), .second, .val (.long xq), .second, iv sel, .val (.long dl), .second, iv 2, rv a625, .val (.long r), .second, .val (.long i), .second, .val (.long (d + dl)), .second, .val (.long xq), .second, rv a675, iv 1] [(.ref a625), (.ref a675)]))
      obtain ⟨cq763, kq764, qa765, qb766, qc767⟩ := isOf hZ e735 F_0708
      obtain ⟨_, _, ⟨T747, L749, k750, n751⟩, -, X748, ⟨Lc752, hQ753, l754, y755, z756⟩, st757⟩ := X724.virtualBack hx (y := (⟨"com/example/outbox/outbox/QueueCounts", "equals", "(Ljava/lang/Object;)Z"⟩ : MethodName)) (z := (⟨"com/example/outbox/outbox/QueueCounts", "equals", "(Ljava/lang/Object;)Z"⟩ : MethodName)) hown (mvT hZ (tw hw 17 rfl)) (mvT hZ (tw hw 18 rfl)) (notFace_of_selects (args := #[]) (mvT hZ (tw hw 20 rfl))) (mvT hZ (tw hw 20 rfl)) (mvT hZ (tw hw 19 rfl)) (by decide) (backOf (W := 0) (rmE l Z a0 hw [] a675 a625 r i (d + dl) xq r i d xq (1 : Int32) T690.heap n0 Z719 E713 F_1709 F_2710 F_3711 F_4712 F714 F715 F716 F717 (by simp [hdl])) hZ (tw hw 21 rfl) (tw hw 2 rfl) (by decide) (by decide)) qa765 qc767 (g := (mkF m 203 #[.val (.long r), .second, .val (.long i), .second, .val (.long d), .second, .val (.long xq), .second, iv sel, .val (.long dl), .second, iv 2, rv a625, .val (.long r), .second, .val (.long i), .second, .val (.long (d + dl)), .second, .val (.long xq), .second, rv a675, iv 1] [(.ref a625), (.ref a675)])) rfl (by rw [hml]; rfl) (Steps.refl _) (argsL := [(.ref a625)]) (rest := []) (lenOf pdE rfl) rfl (leW rfl) (hb hby at_203) (fun _ _ => ⟨rfl, e735, (leB rfl), (leB rfl)⟩)
      dsimp only [Pt.U, Pt.locs, Pt.cells, Pt.slots] at X748 l754 y755 z756 st757 hQ753
      subst l754 y755 z756
      obtain ⟨rfl, N768, e759⟩ := hQ753
      have N758 := Fr.app N734 N768
      refine Way.to st757 ?_
      show Way _ _ _ _ (T747.setTop (mkF m 206 #[.val (.long r), .second, .val (.long i), .second, .val (.long d), .second, .val (.long xq), .second, iv sel, .val (.long dl), .second, iv 2, rv a625, .val (.long r), .second, .val (.long i), .second, .val (.long (d + dl)), .second, .val (.long xq), .second, rv a675, iv 1] [(.int 1)]))
      refine Way.by (fun _ k => XS.iload X748.here hx rfl (hb hby at_206) rfl k) ?_
      show Way _ _ _ _ (T747.setTop (mkF m 208 #[.val (.long r), .second, .val (.long i), .second, .val (.long d), .second, .val (.long xq), .second, iv sel, .val (.long dl), .second, iv 2, rv a625, .val (.long r), .second, .val (.long i), .second, .val (.long (d + dl)), .second, .val (.long xq), .second, rv a675, iv 1] [(.int 1), (.int 1)]))
      have b770 : (1 : Int32) = (1 : Int32) := by decide
      refine Way.by (fun _ k => XS.icmpNo X748.here hx rfl (hb hby at_208) rfl (teq b770).2 k) ?_
      show Way _ _ _ _ (T747.setTop (mkF m 211 #[.val (.long r), .second, .val (.long i), .second, .val (.long d), .second, .val (.long xq), .second, iv sel, .val (.long dl), .second, iv 2, rv a625, .val (.long r), .second, .val (.long i), .second, .val (.long (d + dl)), .second, .val (.long xq), .second, rv a675, iv 1] []))
      refine Way.by (fun _ k => XS.iconst X748.here hx rfl (hb hby at_211) k) ?_
      show Way _ _ _ _ (T747.setTop (mkF m 212 #[.val (.long r), .second, .val (.long i), .second, .val (.long d), .second, .val (.long xq), .second, iv sel, .val (.long dl), .second, iv 2, rv a625, .val (.long r), .second, .val (.long i), .second, .val (.long (d + dl)), .second, .val (.long xq), .second, rv a675, iv 1] [(.int 1)]))
      refine Way.by (fun _ k => XS.goto X748.here hx rfl (pc0 := 212) (pc' := 216) rfl (hb hby at_212) (by decide) (by decide) k) ?_
      show Way _ _ _ _ (T747.setTop (mkF m 216 #[.val (.long r), .second, .val (.long i), .second, .val (.long d), .second, .val (.long xq), .second, iv sel, .val (.long dl), .second, iv 2, rv a625, .val (.long r), .second, .val (.long i), .second, .val (.long (d + dl)), .second, .val (.long xq), .second, rv a675, iv 1] [(.int 1)]))
      refine Way.ret (v := (some (.int (nar .boolean (1 : Int32))))) X748 hlk (fun h => by rw [Bd.returns] at h; cases h) (fun fs hr => retN X748 hx (t := .boolean) Bd.returns (by simp) (hb hby at_216) hr) ?_ (by decide) (by decide)
      show Q0 n0 _ T747.heap _
      rw [e759]
      exact ⟨rfl, N758⟩
    · skip
      show Way _ _ _ _ (s₁.setTop (mkF m 7 #[.val (.long r), .second, .val (.long i), .second, .val (.long d), .second, .val (.long xq), .second, iv sel, .val (.long dl), .second, iv 2, .unset, .unset, .unset, .unset, .unset, .unset, .unset, .unset, .unset, .unset, .unset] []))
      obtain ⟨T771, h772, X773, e774, E775, A776, D777, -, st778⟩ := newO X0 hx hZ hown (tw hw 0 rfl) (tw hw 1 rfl) (tw hw 2 rfl) e0 (g := (mkF m 7 #[.val (.long r), .second, .val (.long i), .second, .val (.long d), .second, .val (.long xq), .second, iv sel, .val (.long dl), .second, iv 2, .unset, .unset, .unset, .unset, .unset, .unset, .unset, .unset, .unset, .unset, .unset] [])) rfl (hb hby at_7) (by decide) (by decide)
      obtain ⟨a779, g780⟩ : ∃ z, z = h0.size := ⟨_, rfl⟩
      rw [← g780] at A776 D777 st778
      have nw781 : n0 ≤ a779 := Nat.le_trans Z0 (Nat.le_of_eq g780.symm)
      have Z782 := Nat.le_trans Z0 E775.1
      have O783 := O0.ext E775
      have F784 : Fld Z h772 a779 "com/example/outbox/outbox/QueueCounts" "ready" "J" (.long (0 : Int64)) := D777 (Or.inr (tw hw 10 rfl)) (ty := .long) (by decide)
      have F785 : Fld Z h772 a779 "com/example/outbox/outbox/QueueCounts" "inflight" "J" (.long (0 : Int64)) := D777 (Or.inr (tw hw 12 rfl)) (ty := .long) (by decide)
      have F786 : Fld Z h772 a779 "com/example/outbox/outbox/QueueCounts" "delayed" "J" (.long (0 : Int64)) := D777 (Or.inr (tw hw 14 rfl)) (ty := .long) (by decide)
      have F787 : Fld Z h772 a779 "com/example/outbox/outbox/QueueCounts" "dead" "J" (.long (0 : Int64)) := D777 (Or.inr (tw hw 16 rfl)) (ty := .long) (by decide)
      refine Way.by st778 ?_
      show Way _ _ _ _ (T771.setTop (mkF m 10 #[.val (.long r), .second, .val (.long i), .second, .val (.long d), .second, .val (.long xq), .second, iv sel, .val (.long dl), .second, iv 2, .unset, .unset, .unset, .unset, .unset, .unset, .unset, .unset, .unset, .unset, .unset] [(.ref a779)]))
      refine Way.by (fun _ k => XS.dup X773.here hx rfl (hb hby at_10) rfl rfl k) ?_
      show Way _ _ _ _ (T771.setTop (mkF m 11 #[.val (.long r), .second, .val (.long i), .second, .val (.long d), .second, .val (.long xq), .second, iv sel, .val (.long dl), .second, iv 2, .unset, .unset, .unset, .unset, .unset, .unset, .unset, .unset, .unset, .unset, .unset] [(.ref a779), (.ref a779)]))
      refine Way.by (fun _ k => XT.lloadN X773.here hx rfl (hb hby at_11) rfl k) ?_
      show Way _ _ _ _ (T771.setTop (mkF m 12 #[.val (.long r), .second, .val (.long i), .second, .val (.long d), .second, .val (.long xq), .second, iv sel, .val (.long dl), .second, iv 2, .unset, .unset, .unset, .unset, .unset, .unset, .unset, .unset, .unset, .unset, .unset] [(.long r), (.ref a779), (.ref a779)]))
      refine Way.by (fun _ k => XT.lloadN X773.here hx rfl (hb hby at_12) rfl k) ?_
      show Way _ _ _ _ (T771.setTop (mkF m 13 #[.val (.long r), .second, .val (.long i), .second, .val (.long d), .second, .val (.long xq), .second, iv sel, .val (.long dl), .second, iv 2, .unset, .unset, .unset, .unset, .unset, .unset, .unset, .unset, .unset, .unset, .unset] [(.long i), (.long r), (.ref a779), (.ref a779)]))
      refine Way.by (fun _ k => XT.lload X773.here hx rfl (hb hby at_13) rfl k) ?_
      show Way _ _ _ _ (T771.setTop (mkF m 15 #[.val (.long r), .second, .val (.long i), .second, .val (.long d), .second, .val (.long xq), .second, iv sel, .val (.long dl), .second, iv 2, .unset, .unset, .unset, .unset, .unset, .unset, .unset, .unset, .unset, .unset, .unset] [(.long d), (.long i), (.long r), (.ref a779), (.ref a779)]))
      refine Way.by (fun _ k => XT.lload X773.here hx rfl (hb hby at_15) rfl k) ?_
      show Way _ _ _ _ (T771.setTop (mkF m 17 #[.val (.long r), .second, .val (.long i), .second, .val (.long d), .second, .val (.long xq), .second, iv sel, .val (.long dl), .second, iv 2, .unset, .unset, .unset, .unset, .unset, .unset, .unset, .unset, .unset, .unset, .unset] [(.long xq), (.long d), (.long i), (.long r), (.ref a779), (.ref a779)]))
      obtain ⟨_, _, ⟨T788, L790, k791, n792⟩, -, X789, ⟨Lc793, hQ794, l795, y796, z797⟩, st798⟩ := X773.specialBack hx (y := (⟨"com/example/outbox/outbox/QueueCounts", "<init>", "(JJJJ)V"⟩ : MethodName)) rfl hown (mvT hZ (tw hw 3 rfl)) (mvT hZ (tw hw 4 rfl)) (mvT hZ (tw hw 5 rfl)) (by decide) (backOf (W := 1) (rmC l Z a0 hw [] a779 r i d xq h772 n0 Z782 A776 F784 F785 F786 F787 nw781) hZ (tw hw 5 rfl) (tw hw 2 rfl) (by decide) (by decide)) (g := (mkF m 17 #[.val (.long r), .second, .val (.long i), .second, .val (.long d), .second, .val (.long xq), .second, iv sel, .val (.long dl), .second, iv 2, .unset, .unset, .unset, .unset, .unset, .unset, .unset, .unset, .unset, .unset, .unset] [(.long xq), (.long d), (.long i), (.long r), (.ref a779), (.ref a779)])) rfl (by rw [hml]; rfl) (Steps.refl _) (a := a779) (argsL := [(.long r), (.long i), (.long d), (.long xq)]) (rest := [(.ref a779)]) (lenOf pdC rfl) rfl (leW rfl) (hb hby at_17) (fun _ _ => ⟨rfl, e774, (leB rfl), (leB rfl)⟩)
      dsimp only [Pt.U, Pt.locs, Pt.cells, Pt.slots] at X789 l795 y796 z797 st798 hQ794
      subst l795 y796 z797
      obtain ⟨rfl, N804, K805, F_0806, F_1807, F_2808, F_3809, F_4810⟩ := hQ794
      have N799 := Fr.app N0 N804
      have E811 := A776.keep K805
      have Z812 := Nat.le_trans Z782 K805.1
      have O813 := O783.keep K805 (allS nw781 all0)
      refine Way.to st798 ?_
      show Way _ _ _ _ (T788.setTop (mkF m 20 #[.val (.long r), .second, .val (.long i), .second, .val (.long d), .second, .val (.long xq), .second, iv sel, .val (.long dl), .second, iv 2, .unset, .unset, .unset, .unset, .unset, .unset, .unset, .unset, .unset, .unset, .unset] [(.ref a779)]))
      refine Way.by (fun _ k => XS.astore X789.here hx rfl (hb hby at_20) rfl rfl (l' := #[.val (.long r), .second, .val (.long i), .second, .val (.long d), .second, .val (.long xq), .second, iv sel, .val (.long dl), .second, iv 2, rv a779, .unset, .unset, .unset, .unset, .unset, .unset, .unset, .unset, .unset, .unset]) rfl k) ?_
      show Way _ _ _ _ (T788.setTop (mkF m 22 #[.val (.long r), .second, .val (.long i), .second, .val (.long d), .second, .val (.long xq), .second, iv sel, .val (.long dl), .second, iv 2, rv a779, .unset, .unset, .unset, .unset, .unset, .unset, .unset, .unset, .unset, .unset] []))
      refine Way.by (fun _ k => XS.iload X789.here hx rfl (hb hby at_22) rfl k) ?_
      show Way _ _ _ _ (T788.setTop (mkF m 24 #[.val (.long r), .second, .val (.long i), .second, .val (.long d), .second, .val (.long xq), .second, iv sel, .val (.long dl), .second, iv 2, rv a779, .unset, .unset, .unset, .unset, .unset, .unset, .unset, .unset, .unset, .unset] [(.int 2)]))
      refine Way.by (fun _ k => XS.iconst X789.here hx rfl (hb hby at_24) k) ?_
      show Way _ _ _ _ (T788.setTop (mkF m 25 #[.val (.long r), .second, .val (.long i), .second, .val (.long d), .second, .val (.long xq), .second, iv sel, .val (.long dl), .second, iv 2, rv a779, .unset, .unset, .unset, .unset, .unset, .unset, .unset, .unset, .unset, .unset] [(.int 5), (.int 2)]))
      have b814 : ¬ (2 : Int32) = (5 : Int32) := by decide
      refine Way.by (fun _ k => XS.icmpYes X789.here hx rfl (pc0 := 25) (pc' := 43) rfl (hb hby at_25) rfl (feq b814).2 (by decide) (by decide) k) ?_
      show Way _ _ _ _ (T788.setTop (mkF m 43 #[.val (.long r), .second, .val (.long i), .second, .val (.long d), .second, .val (.long xq), .second, iv sel, .val (.long dl), .second, iv 2, rv a779, .unset, .unset, .unset, .unset, .unset, .unset, .unset, .unset, .unset, .unset] []))
      refine Way.by (fun _ k => XS.iload X789.here hx rfl (hb hby at_43) rfl k) ?_
      show Way _ _ _ _ (T788.setTop (mkF m 45 #[.val (.long r), .second, .val (.long i), .second, .val (.long d), .second, .val (.long xq), .second, iv sel, .val (.long dl), .second, iv 2, rv a779, .unset, .unset, .unset, .unset, .unset, .unset, .unset, .unset, .unset, .unset] [(.int 2)]))
      refine Way.by (fun _ k => XS.bipush X789.here hx rfl (hb hby at_45) k) ?_
      show Way _ _ _ _ (T788.setTop (mkF m 47 #[.val (.long r), .second, .val (.long i), .second, .val (.long d), .second, .val (.long xq), .second, iv sel, .val (.long dl), .second, iv 2, rv a779, .unset, .unset, .unset, .unset, .unset, .unset, .unset, .unset, .unset, .unset] [(.int 6), (.int 2)]))
      have b815 : ¬ (2 : Int32) = (6 : Int32) := by decide
      refine Way.by (fun _ k => XS.icmpYes X789.here hx rfl (pc0 := 47) (pc' := 68) rfl (hb hby at_47) rfl (feq b815).2 (by decide) (by decide) k) ?_
      show Way _ _ _ _ (T788.setTop (mkF m 68 #[.val (.long r), .second, .val (.long i), .second, .val (.long d), .second, .val (.long xq), .second, iv sel, .val (.long dl), .second, iv 2, rv a779, .unset, .unset, .unset, .unset, .unset, .unset, .unset, .unset, .unset, .unset] []))
      refine Way.by (fun _ k => XS.iload X789.here hx rfl (hb hby at_68) rfl k) ?_
      show Way _ _ _ _ (T788.setTop (mkF m 70 #[.val (.long r), .second, .val (.long i), .second, .val (.long d), .second, .val (.long xq), .second, iv sel, .val (.long dl), .second, iv 2, rv a779, .unset, .unset, .unset, .unset, .unset, .unset, .unset, .unset, .unset, .unset] [(.int 2)]))
      refine Way.by (fun _ k => XS.bipush X789.here hx rfl (hb hby at_70) k) ?_
      show Way _ _ _ _ (T788.setTop (mkF m 72 #[.val (.long r), .second, .val (.long i), .second, .val (.long d), .second, .val (.long xq), .second, iv sel, .val (.long dl), .second, iv 2, rv a779, .unset, .unset, .unset, .unset, .unset, .unset, .unset, .unset, .unset, .unset] [(.int 7), (.int 2)]))
      have b816 : ¬ (2 : Int32) = (7 : Int32) := by decide
      refine Way.by (fun _ k => XS.icmpYes X789.here hx rfl (pc0 := 72) (pc' := 83) rfl (hb hby at_72) rfl (feq b816).2 (by decide) (by decide) k) ?_
      show Way _ _ _ _ (T788.setTop (mkF m 83 #[.val (.long r), .second, .val (.long i), .second, .val (.long d), .second, .val (.long xq), .second, iv sel, .val (.long dl), .second, iv 2, rv a779, .unset, .unset, .unset, .unset, .unset, .unset, .unset, .unset, .unset, .unset] []))
      refine Way.by (fun _ k => XS.iload X789.here hx rfl (hb hby at_83) rfl k) ?_
      show Way _ _ _ _ (T788.setTop (mkF m 85 #[.val (.long r), .second, .val (.long i), .second, .val (.long d), .second, .val (.long xq), .second, iv sel, .val (.long dl), .second, iv 2, rv a779, .unset, .unset, .unset, .unset, .unset, .unset, .unset, .unset, .unset, .unset] [(.int 2)]))
      have b817 : ¬ (2 : Int32) = (0 : Int32) := by decide
      refine Way.by (fun _ k => XS.ifYes X789.here hx rfl (pc0 := 85) (pc' := 95) rfl (hb hby at_85) rfl ((if0 .ne _).trans (feq b817).2) (by decide) (by decide) k) ?_
      show Way _ _ _ _ (T788.setTop (mkF m 95 #[.val (.long r), .second, .val (.long i), .second, .val (.long d), .second, .val (.long xq), .second, iv sel, .val (.long dl), .second, iv 2, rv a779, .unset, .unset, .unset, .unset, .unset, .unset, .unset, .unset, .unset, .unset] []))
      refine Way.by (fun _ k => XT.lloadN X789.here hx rfl (hb hby at_95) rfl k) ?_
      show Way _ _ _ _ (T788.setTop (mkF m 96 #[.val (.long r), .second, .val (.long i), .second, .val (.long d), .second, .val (.long xq), .second, iv sel, .val (.long dl), .second, iv 2, rv a779, .unset, .unset, .unset, .unset, .unset, .unset, .unset, .unset, .unset, .unset] [(.long r)]))
      refine Way.by (fun _ k => XT.lstore X789.here hx rfl (hb hby at_96) rfl (l' := #[.val (.long r), .second, .val (.long i), .second, .val (.long d), .second, .val (.long xq), .second, iv sel, .val (.long dl), .second, iv 2, rv a779, .val (.long r), .second, .unset, .unset, .unset, .unset, .unset, .unset, .unset, .unset]) rfl k) ?_
      show Way _ _ _ _ (T788.setTop (mkF m 98 #[.val (.long r), .second, .val (.long i), .second, .val (.long d), .second, .val (.long xq), .second, iv sel, .val (.long dl), .second, iv 2, rv a779, .val (.long r), .second, .unset, .unset, .unset, .unset, .unset, .unset, .unset, .unset] []))
      refine Way.by (fun _ k => XS.iload X789.here hx rfl (hb hby at_98) rfl k) ?_
      show Way _ _ _ _ (T788.setTop (mkF m 100 #[.val (.long r), .second, .val (.long i), .second, .val (.long d), .second, .val (.long xq), .second, iv sel, .val (.long dl), .second, iv 2, rv a779, .val (.long r), .second, .unset, .unset, .unset, .unset, .unset, .unset, .unset, .unset] [(.int 2)]))
      refine Way.by (fun _ k => XS.iconst X789.here hx rfl (hb hby at_100) k) ?_
      show Way _ _ _ _ (T788.setTop (mkF m 101 #[.val (.long r), .second, .val (.long i), .second, .val (.long d), .second, .val (.long xq), .second, iv sel, .val (.long dl), .second, iv 2, rv a779, .val (.long r), .second, .unset, .unset, .unset, .unset, .unset, .unset, .unset, .unset] [(.int 1), (.int 2)]))
      have b818 : ¬ (2 : Int32) = (1 : Int32) := by decide
      refine Way.by (fun _ k => XS.icmpYes X789.here hx rfl (pc0 := 101) (pc' := 111) rfl (hb hby at_101) rfl (feq b818).2 (by decide) (by decide) k) ?_
      show Way _ _ _ _ (T788.setTop (mkF m 111 #[.val (.long r), .second, .val (.long i), .second, .val (.long d), .second, .val (.long xq), .second, iv sel, .val (.long dl), .second, iv 2, rv a779, .val (.long r), .second, .unset, .unset, .unset, .unset, .unset, .unset, .unset, .unset] []))
      refine Way.by (fun _ k => XT.lloadN X789.here hx rfl (hb hby at_111) rfl k) ?_
      show Way _ _ _ _ (T788.setTop (mkF m 112 #[.val (.long r), .second, .val (.long i), .second, .val (.long d), .second, .val (.long xq), .second, iv sel, .val (.long dl), .second, iv 2, rv a779, .val (.long r), .second, .unset, .unset, .unset, .unset, .unset, .unset, .unset, .unset] [(.long i)]))
      refine Way.by (fun _ k => XT.lstore X789.here hx rfl (hb hby at_112) rfl (l' := #[.val (.long r), .second, .val (.long i), .second, .val (.long d), .second, .val (.long xq), .second, iv sel, .val (.long dl), .second, iv 2, rv a779, .val (.long r), .second, .val (.long i), .second, .unset, .unset, .unset, .unset, .unset, .unset]) rfl k) ?_
      show Way _ _ _ _ (T788.setTop (mkF m 114 #[.val (.long r), .second, .val (.long i), .second, .val (.long d), .second, .val (.long xq), .second, iv sel, .val (.long dl), .second, iv 2, rv a779, .val (.long r), .second, .val (.long i), .second, .unset, .unset, .unset, .unset, .unset, .unset] []))
      refine Way.by (fun _ k => XS.iload X789.here hx rfl (hb hby at_114) rfl k) ?_
      show Way _ _ _ _ (T788.setTop (mkF m 116 #[.val (.long r), .second, .val (.long i), .second, .val (.long d), .second, .val (.long xq), .second, iv sel, .val (.long dl), .second, iv 2, rv a779, .val (.long r), .second, .val (.long i), .second, .unset, .unset, .unset, .unset, .unset, .unset] [(.int 2)]))
      refine Way.by (fun _ k => XS.iconst X789.here hx rfl (hb hby at_116) k) ?_
      show Way _ _ _ _ (T788.setTop (mkF m 117 #[.val (.long r), .second, .val (.long i), .second, .val (.long d), .second, .val (.long xq), .second, iv sel, .val (.long dl), .second, iv 2, rv a779, .val (.long r), .second, .val (.long i), .second, .unset, .unset, .unset, .unset, .unset, .unset] [(.int 2), (.int 2)]))
      have b819 : (2 : Int32) = (2 : Int32) := by decide
      refine Way.by (fun _ k => XS.icmpNo X789.here hx rfl (hb hby at_117) rfl (teq b819).2 k) ?_
      show Way _ _ _ _ (T788.setTop (mkF m 120 #[.val (.long r), .second, .val (.long i), .second, .val (.long d), .second, .val (.long xq), .second, iv sel, .val (.long dl), .second, iv 2, rv a779, .val (.long r), .second, .val (.long i), .second, .unset, .unset, .unset, .unset, .unset, .unset] []))
      refine Way.by (fun _ k => XT.lload X789.here hx rfl (hb hby at_120) rfl k) ?_
      show Way _ _ _ _ (T788.setTop (mkF m 122 #[.val (.long r), .second, .val (.long i), .second, .val (.long d), .second, .val (.long xq), .second, iv sel, .val (.long dl), .second, iv 2, rv a779, .val (.long r), .second, .val (.long i), .second, .unset, .unset, .unset, .unset, .unset, .unset] [(.long d)]))
      refine Way.by (fun _ k => XT.lload X789.here hx rfl (hb hby at_122) rfl k) ?_
      show Way _ _ _ _ (T788.setTop (mkF m 124 #[.val (.long r), .second, .val (.long i), .second, .val (.long d), .second, .val (.long xq), .second, iv sel, .val (.long dl), .second, iv 2, rv a779, .val (.long r), .second, .val (.long i), .second, .unset, .unset, .unset, .unset, .unset, .unset] [(.long dl), (.long d)]))
      refine Way.by (fun _ k => XT.ladd X789.here hx rfl (hb hby at_124) rfl k) ?_
      show Way _ _ _ _ (T788.setTop (mkF m 125 #[.val (.long r), .second, .val (.long i), .second, .val (.long d), .second, .val (.long xq), .second, iv sel, .val (.long dl), .second, iv 2, rv a779, .val (.long r), .second, .val (.long i), .second, .unset, .unset, .unset, .unset, .unset, .unset] [(.long (d + dl))]))
      refine Way.by (fun _ k => XS.goto X789.here hx rfl (pc0 := 125) (pc' := 130) rfl (hb hby at_125) (by decide) (by decide) k) ?_
      show Way _ _ _ _ (T788.setTop (mkF m 130 #[.val (.long r), .second, .val (.long i), .second, .val (.long d), .second, .val (.long xq), .second, iv sel, .val (.long dl), .second, iv 2, rv a779, .val (.long r), .second, .val (.long i), .second, .unset, .unset, .unset, .unset, .unset, .unset] [(.long (d + dl))]))
      refine Way.by (fun _ k => XT.lstore X789.here hx rfl (hb hby at_130) rfl (l' := #[.val (.long r), .second, .val (.long i), .second, .val (.long d), .second, .val (.long xq), .second, iv sel, .val (.long dl), .second, iv 2, rv a779, .val (.long r), .second, .val (.long i), .second, .val (.long (d + dl)), .second, .unset, .unset, .unset, .unset]) rfl k) ?_
      show Way _ _ _ _ (T788.setTop (mkF m 132 #[.val (.long r), .second, .val (.long i), .second, .val (.long d), .second, .val (.long xq), .second, iv sel, .val (.long dl), .second, iv 2, rv a779, .val (.long r), .second, .val (.long i), .second, .val (.long (d + dl)), .second, .unset, .unset, .unset, .unset] []))
      refine Way.by (fun _ k => XS.iload X789.here hx rfl (hb hby at_132) rfl k) ?_
      show Way _ _ _ _ (T788.setTop (mkF m 134 #[.val (.long r), .second, .val (.long i), .second, .val (.long d), .second, .val (.long xq), .second, iv sel, .val (.long dl), .second, iv 2, rv a779, .val (.long r), .second, .val (.long i), .second, .val (.long (d + dl)), .second, .unset, .unset, .unset, .unset] [(.int 2)]))
      refine Way.by (fun _ k => XS.iconst X789.here hx rfl (hb hby at_134) k) ?_
      show Way _ _ _ _ (T788.setTop (mkF m 135 #[.val (.long r), .second, .val (.long i), .second, .val (.long d), .second, .val (.long xq), .second, iv sel, .val (.long dl), .second, iv 2, rv a779, .val (.long r), .second, .val (.long i), .second, .val (.long (d + dl)), .second, .unset, .unset, .unset, .unset] [(.int 3), (.int 2)]))
      have b820 : ¬ (2 : Int32) = (3 : Int32) := by decide
      refine Way.by (fun _ k => XS.icmpYes X789.here hx rfl (pc0 := 135) (pc' := 146) rfl (hb hby at_135) rfl (feq b820).2 (by decide) (by decide) k) ?_
      show Way _ _ _ _ (T788.setTop (mkF m 146 #[.val (.long r), .second, .val (.long i), .second, .val (.long d), .second, .val (.long xq), .second, iv sel, .val (.long dl), .second, iv 2, rv a779, .val (.long r), .second, .val (.long i), .second, .val (.long (d + dl)), .second, .unset, .unset, .unset, .unset] []))
      refine Way.by (fun _ k => XT.lload X789.here hx rfl (hb hby at_146) rfl k) ?_
      show Way _ _ _ _ (T788.setTop (mkF m 148 #[.val (.long r), .second, .val (.long i), .second, .val (.long d), .second, .val (.long xq), .second, iv sel, .val (.long dl), .second, iv 2, rv a779, .val (.long r), .second, .val (.long i), .second, .val (.long (d + dl)), .second, .unset, .unset, .unset, .unset] [(.long xq)]))
      refine Way.by (fun _ k => XT.lstore X789.here hx rfl (hb hby at_148) rfl (l' := #[.val (.long r), .second, .val (.long i), .second, .val (.long d), .second, .val (.long xq), .second, iv sel, .val (.long dl), .second, iv 2, rv a779, .val (.long r), .second, .val (.long i), .second, .val (.long (d + dl)), .second, .val (.long xq), .second, .unset, .unset]) rfl k) ?_
      show Way _ _ _ _ (T788.setTop (mkF m 150 #[.val (.long r), .second, .val (.long i), .second, .val (.long d), .second, .val (.long xq), .second, iv sel, .val (.long dl), .second, iv 2, rv a779, .val (.long r), .second, .val (.long i), .second, .val (.long (d + dl)), .second, .val (.long xq), .second, .unset, .unset] []))
      obtain ⟨T821, h822, X823, e824, E825, A826, D827, -, st828⟩ := newO X789 hx hZ hown (tw hw 0 rfl) (tw hw 1 rfl) (tw hw 2 rfl) rfl (g := (mkF m 150 #[.val (.long r), .second, .val (.long i), .second, .val (.long d), .second, .val (.long xq), .second, iv sel, .val (.long dl), .second, iv 2, rv a779, .val (.long r), .second, .val (.long i), .second, .val (.long (d + dl)), .second, .val (.long xq), .second, .unset, .unset] [])) rfl (hb hby at_150) (by decide) (by decide)
      obtain ⟨a829, g830⟩ : ∃ z, z = T788.heap.size := ⟨_, rfl⟩
      rw [← g830] at A826 D827 st828
      have ne831 : a779 ≠ a829 := Nat.ne_of_lt (Nat.lt_of_lt_of_eq F_0806.lt g830.symm)
      have nw832 : n0 ≤ a829 := Nat.le_trans Z812 (Nat.le_of_eq g830.symm)
      have E833 := Exa.ext E825 F_0806
      have F834 := Fld.ext E825 F_1807
      have F835 := Fld.ext E825 F_2808
      have F836 := Fld.ext E825 F_3809
      have F837 := Fld.ext E825 F_4810
      have Z838 := Nat.le_trans Z812 E825.1
      have O839 := O813.ext E825
      have F840 : Fld Z h822 a829 "com/example/outbox/outbox/QueueCounts" "ready" "J" (.long (0 : Int64)) := D827 (Or.inr (tw hw 10 rfl)) (ty := .long) (by decide)
      have F841 : Fld Z h822 a829 "com/example/outbox/outbox/QueueCounts" "inflight" "J" (.long (0 : Int64)) := D827 (Or.inr (tw hw 12 rfl)) (ty := .long) (by decide)
      have F842 : Fld Z h822 a829 "com/example/outbox/outbox/QueueCounts" "delayed" "J" (.long (0 : Int64)) := D827 (Or.inr (tw hw 14 rfl)) (ty := .long) (by decide)
      have F843 : Fld Z h822 a829 "com/example/outbox/outbox/QueueCounts" "dead" "J" (.long (0 : Int64)) := D827 (Or.inr (tw hw 16 rfl)) (ty := .long) (by decide)
      refine Way.by st828 ?_
      show Way _ _ _ _ (T821.setTop (mkF m 153 #[.val (.long r), .second, .val (.long i), .second, .val (.long d), .second, .val (.long xq), .second, iv sel, .val (.long dl), .second, iv 2, rv a779, .val (.long r), .second, .val (.long i), .second, .val (.long (d + dl)), .second, .val (.long xq), .second, .unset, .unset] [(.ref a829)]))
      refine Way.by (fun _ k => XS.dup X823.here hx rfl (hb hby at_153) rfl rfl k) ?_
      show Way _ _ _ _ (T821.setTop (mkF m 154 #[.val (.long r), .second, .val (.long i), .second, .val (.long d), .second, .val (.long xq), .second, iv sel, .val (.long dl), .second, iv 2, rv a779, .val (.long r), .second, .val (.long i), .second, .val (.long (d + dl)), .second, .val (.long xq), .second, .unset, .unset] [(.ref a829), (.ref a829)]))
      refine Way.by (fun _ k => XT.lload X823.here hx rfl (hb hby at_154) rfl k) ?_
      show Way _ _ _ _ (T821.setTop (mkF m 156 #[.val (.long r), .second, .val (.long i), .second, .val (.long d), .second, .val (.long xq), .second, iv sel, .val (.long dl), .second, iv 2, rv a779, .val (.long r), .second, .val (.long i), .second, .val (.long (d + dl)), .second, .val (.long xq), .second, .unset, .unset] [(.long r), (.ref a829), (.ref a829)]))
      refine Way.by (fun _ k => XT.lload X823.here hx rfl (hb hby at_156) rfl k) ?_
      show Way _ _ _ _ (T821.setTop (mkF m 158 #[.val (.long r), .second, .val (.long i), .second, .val (.long d), .second, .val (.long xq), .second, iv sel, .val (.long dl), .second, iv 2, rv a779, .val (.long r), .second, .val (.long i), .second, .val (.long (d + dl)), .second, .val (.long xq), .second, .unset, .unset] [(.long i), (.long r), (.ref a829), (.ref a829)]))
      refine Way.by (fun _ k => XT.lload X823.here hx rfl (hb hby at_158) rfl k) ?_
      show Way _ _ _ _ (T821.setTop (mkF m 160 #[.val (.long r), .second, .val (.long i), .second, .val (.long d), .second, .val (.long xq), .second, iv sel, .val (.long dl), .second, iv 2, rv a779, .val (.long r), .second, .val (.long i), .second, .val (.long (d + dl)), .second, .val (.long xq), .second, .unset, .unset] [(.long (d + dl)), (.long i), (.long r), (.ref a829), (.ref a829)]))
      refine Way.by (fun _ k => XT.lload X823.here hx rfl (hb hby at_160) rfl k) ?_
      show Way _ _ _ _ (T821.setTop (mkF m 162 #[.val (.long r), .second, .val (.long i), .second, .val (.long d), .second, .val (.long xq), .second, iv sel, .val (.long dl), .second, iv 2, rv a779, .val (.long r), .second, .val (.long i), .second, .val (.long (d + dl)), .second, .val (.long xq), .second, .unset, .unset] [(.long xq), (.long (d + dl)), (.long i), (.long r), (.ref a829), (.ref a829)]))
      obtain ⟨_, _, ⟨T844, L846, k847, n848⟩, -, X845, ⟨Lc849, hQ850, l851, y852, z853⟩, st854⟩ := X823.specialBack hx (y := (⟨"com/example/outbox/outbox/QueueCounts", "<init>", "(JJJJ)V"⟩ : MethodName)) rfl hown (mvT hZ (tw hw 3 rfl)) (mvT hZ (tw hw 4 rfl)) (mvT hZ (tw hw 5 rfl)) (by decide) (backOf (W := 1) (rmC l Z a0 hw [] a829 r i (d + dl) xq h822 n0 Z838 A826 F840 F841 F842 F843 nw832) hZ (tw hw 5 rfl) (tw hw 2 rfl) (by decide) (by decide)) (g := (mkF m 162 #[.val (.long r), .second, .val (.long i), .second, .val (.long d), .second, .val (.long xq), .second, iv sel, .val (.long dl), .second, iv 2, rv a779, .val (.long r), .second, .val (.long i), .second, .val (.long (d + dl)), .second, .val (.long xq), .second, .unset, .unset] [(.long xq), (.long (d + dl)), (.long i), (.long r), (.ref a829), (.ref a829)])) rfl (by rw [hml]; rfl) (Steps.refl _) (a := a829) (argsL := [(.long r), (.long i), (.long (d + dl)), (.long xq)]) (rest := [(.ref a829)]) (lenOf pdC rfl) rfl (leW rfl) (hb hby at_162) (fun _ _ => ⟨rfl, e824, (leB rfl), (leB rfl)⟩)
      dsimp only [Pt.U, Pt.locs, Pt.cells, Pt.slots] at X845 l851 y852 z853 st854 hQ850
      subst l851 y852 z853
      obtain ⟨rfl, N860, K861, F_0862, F_1863, F_2864, F_3865, F_4866⟩ := hQ850
      have N855 := Fr.app N799 N860
      have E867 := E833.keep K861
      have F868 := F834.keep K861 (ninS ne831 nin0)
      have F869 := F835.keep K861 (ninS ne831 nin0)
      have F870 := F836.keep K861 (ninS ne831 nin0)
      have F871 := F837.keep K861 (ninS ne831 nin0)
      have E872 := A826.keep K861
      have Z873 := Nat.le_trans Z838 K861.1
      have O874 := O839.keep K861 (allS nw832 all0)
      refine Way.to st854 ?_
      show Way _ _ _ _ (T844.setTop (mkF m 165 #[.val (.long r), .second, .val (.long i), .second, .val (.long d), .second, .val (.long xq), .second, iv sel, .val (.long dl), .second, iv 2, rv a779, .val (.long r), .second, .val (.long i), .second, .val (.long (d + dl)), .second, .val (.long xq), .second, .unset, .unset] [(.ref a829)]))
      refine Way.by (fun _ k => XS.astore X845.here hx rfl (hb hby at_165) rfl rfl (l' := #[.val (.long r), .second, .val (.long i), .second, .val (.long d), .second, .val (.long xq), .second, iv sel, .val (.long dl), .second, iv 2, rv a779, .val (.long r), .second, .val (.long i), .second, .val (.long (d + dl)), .second, .val (.long xq), .second, rv a829, .unset]) rfl k) ?_
      show Way _ _ _ _ (T844.setTop (mkF m 167 #[.val (.long r), .second, .val (.long i), .second, .val (.long d), .second, .val (.long xq), .second, iv sel, .val (.long dl), .second, iv 2, rv a779, .val (.long r), .second, .val (.long i), .second, .val (.long (d + dl)), .second, .val (.long xq), .second, rv a829, .unset] []))
      refine Way.by (fun _ k => XS.iload X845.here hx rfl (hb hby at_167) rfl k) ?_
      show Way _ _ _ _ (T844.setTop (mkF m 169 #[.val (.long r), .second, .val (.long i), .second, .val (.long d), .second, .val (.long xq), .second, iv sel, .val (.long dl), .second, iv 2, rv a779, .val (.long r), .second, .val (.long i), .second, .val (.long (d + dl)), .second, .val (.long xq), .second, rv a829, .unset] [(.int 2)]))
      refine Way.by (fun _ k => XS.iconst X845.here hx rfl (hb hby at_169) k) ?_
      show Way _ _ _ _ (T844.setTop (mkF m 170 #[.val (.long r), .second, .val (.long i), .second, .val (.long d), .second, .val (.long xq), .second, iv sel, .val (.long dl), .second, iv 2, rv a779, .val (.long r), .second, .val (.long i), .second, .val (.long (d + dl)), .second, .val (.long xq), .second, rv a829, .unset] [(.int 4), (.int 2)]))
      have b875 : ¬ (2 : Int32) = (4 : Int32) := by decide
      refine Way.by (fun _ k => XS.icmpNo X845.here hx rfl (hb hby at_170) rfl (feq b875).1 k) ?_
      show Way _ _ _ _ (T844.setTop (mkF m 173 #[.val (.long r), .second, .val (.long i), .second, .val (.long d), .second, .val (.long xq), .second, iv sel, .val (.long dl), .second, iv 2, rv a779, .val (.long r), .second, .val (.long i), .second, .val (.long (d + dl)), .second, .val (.long xq), .second, rv a829, .unset] []))
      refine Way.by (fun _ k => XT.lload X845.here hx rfl (hb hby at_173) rfl k) ?_
      show Way _ _ _ _ (T844.setTop (mkF m 175 #[.val (.long r), .second, .val (.long i), .second, .val (.long d), .second, .val (.long xq), .second, iv sel, .val (.long dl), .second, iv 2, rv a779, .val (.long r), .second, .val (.long i), .second, .val (.long (d + dl)), .second, .val (.long xq), .second, rv a829, .unset] [(.long dl)]))
      refine Way.by (fun _ k => XT.lconst X845.here hx rfl (hb hby at_175) k) ?_
      show Way _ _ _ _ (T844.setTop (mkF m 176 #[.val (.long r), .second, .val (.long i), .second, .val (.long d), .second, .val (.long xq), .second, iv sel, .val (.long dl), .second, iv 2, rv a779, .val (.long r), .second, .val (.long i), .second, .val (.long (d + dl)), .second, .val (.long xq), .second, rv a829, .unset] [(.long (0 : Int64)), (.long dl)]))
      refine Way.by (fun _ k => XT.lcmp X845.here hx rfl (hb hby at_176) rfl k) ?_
      show Way _ _ _ _ (T844.setTop (mkF m 177 #[.val (.long r), .second, .val (.long i), .second, .val (.long d), .second, .val (.long xq), .second, iv sel, .val (.long dl), .second, iv 2, rv a779, .val (.long r), .second, .val (.long i), .second, .val (.long (d + dl)), .second, .val (.long xq), .second, rv a829, .unset] [(.int (XT.cmpL dl (0 : Int64)))]))
      have b876 : ¬ (XT.cmpL dl (0 : Int64)) = (0 : Int32) := fun q => hdl ((cmpL0 _ _).mp q)
      refine Way.by (fun _ k => XS.ifYes X845.here hx rfl (pc0 := 177) (pc' := 184) rfl (hb hby at_177) rfl ((if0 .ne _).trans (feq b876).2) (by decide) (by decide) k) ?_
      show Way _ _ _ _ (T844.setTop (mkF m 184 #[.val (.long r), .second, .val (.long i), .second, .val (.long d), .second, .val (.long xq), .second, iv sel, .val (.long dl), .second, iv 2, rv a779, .val (.long r), .second, .val (.long i), .second, .val (.long (d + dl)), .second, .val (.long xq), .second, rv a829, .unset] []))
      refine Way.by (fun _ k => XS.iconst X845.here hx rfl (hb hby at_184) k) ?_
      show Way _ _ _ _ (T844.setTop (mkF m 185 #[.val (.long r), .second, .val (.long i), .second, .val (.long d), .second, .val (.long xq), .second, iv sel, .val (.long dl), .second, iv 2, rv a779, .val (.long r), .second, .val (.long i), .second, .val (.long (d + dl)), .second, .val (.long xq), .second, rv a829, .unset] [(.int 0)]))
      refine Way.by (fun _ k => XS.istore X845.here hx rfl (hb hby at_185) rfl (l' := #[.val (.long r), .second, .val (.long i), .second, .val (.long d), .second, .val (.long xq), .second, iv sel, .val (.long dl), .second, iv 2, rv a779, .val (.long r), .second, .val (.long i), .second, .val (.long (d + dl)), .second, .val (.long xq), .second, rv a829, iv 0]) rfl k) ?_
      show Way _ _ _ _ (T844.setTop (mkF m 187 #[.val (.long r), .second, .val (.long i), .second, .val (.long d), .second, .val (.long xq), .second, iv sel, .val (.long dl), .second, iv 2, rv a779, .val (.long r), .second, .val (.long i), .second, .val (.long (d + dl)), .second, .val (.long xq), .second, rv a829, iv 0] []))
      refine Way.by (fun _ k => XS.aload X845.here hx rfl (hb hby at_187) rfl rfl k) ?_
      show Way _ _ _ _ (T844.setTop (mkF m 189 #[.val (.long r), .second, .val (.long i), .second, .val (.long d), .second, .val (.long xq), .second, iv sel, .val (.long dl), .second, iv 2, rv a779, .val (.long r), .second, .val (.long i), .second, .val (.long (d + dl)), .second, .val (.long xq), .second, rv a829, iv 0] [(.ref a779)]))
      refine Way.by (fun _ k => XS.aload X845.here hx rfl (hb hby at_189) rfl rfl k) ?_
      show Way _ _ _ _ (T844.setTop (mkF m 191 #[.val (.long r), .second, .val (.long i), .second, .val (.long d), .second, .val (.long xq), .second, iv sel, .val (.long dl), .second, iv 2, rv a779, .val (.long r), .second, .val (.long i), .second, .val (.long (d + dl)), .second, .val (.long xq), .second, rv a829, iv 0] [(.ref a829), (.ref a779)]))
      obtain ⟨cq893, kq894, qa895, qb896, qc897⟩ := isOf hZ rfl E867
      obtain ⟨_, _, ⟨T877, L879, k880, n881⟩, -, X878, ⟨Lc882, hQ883, l884, y885, z886⟩, st887⟩ := X845.virtualBack hx (y := (⟨"com/example/outbox/outbox/QueueCounts", "equals", "(Ljava/lang/Object;)Z"⟩ : MethodName)) (z := (⟨"com/example/outbox/outbox/QueueCounts", "equals", "(Ljava/lang/Object;)Z"⟩ : MethodName)) hown (mvT hZ (tw hw 17 rfl)) (mvT hZ (tw hw 18 rfl)) (notFace_of_selects (args := #[]) (mvT hZ (tw hw 20 rfl))) (mvT hZ (tw hw 20 rfl)) (mvT hZ (tw hw 19 rfl)) (by decide) (backOf (W := 0) (rmE l Z a0 hw [] a779 a829 r i d xq r i (d + dl) xq (0 : Int32) T844.heap n0 Z873 F_0862 F868 F869 F870 F871 F_1863 F_2864 F_3865 F_4866 (by simp [addNe, addNe2, hdl])) hZ (tw hw 21 rfl) (tw hw 2 rfl) (by decide) (by decide)) qa895 qc897 (g := (mkF m 191 #[.val (.long r), .second, .val (.long i), .second, .val (.long d), .second, .val (.long xq), .second, iv sel, .val (.long dl), .second, iv 2, rv a779, .val (.long r), .second, .val (.long i), .second, .val (.long (d + dl)), .second, .val (.long xq), .second, rv a829, iv 0] [(.ref a829), (.ref a779)])) rfl (by rw [hml]; rfl) (Steps.refl _) (argsL := [(.ref a829)]) (rest := []) (lenOf pdE rfl) rfl (leW rfl) (hb hby at_191) (fun _ _ => ⟨rfl, rfl, (leB rfl), (leB rfl)⟩)
      dsimp only [Pt.U, Pt.locs, Pt.cells, Pt.slots] at X878 l884 y885 z886 st887 hQ883
      subst l884 y885 z886
      obtain ⟨rfl, N898, e889⟩ := hQ883
      have N888 := Fr.app N855 N898
      refine Way.to st887 ?_
      show Way _ _ _ _ (T877.setTop (mkF m 194 #[.val (.long r), .second, .val (.long i), .second, .val (.long d), .second, .val (.long xq), .second, iv sel, .val (.long dl), .second, iv 2, rv a779, .val (.long r), .second, .val (.long i), .second, .val (.long (d + dl)), .second, .val (.long xq), .second, rv a829, iv 0] [(.int 0)]))
      refine Way.by (fun _ k => XS.iload X878.here hx rfl (hb hby at_194) rfl k) ?_
      show Way _ _ _ _ (T877.setTop (mkF m 196 #[.val (.long r), .second, .val (.long i), .second, .val (.long d), .second, .val (.long xq), .second, iv sel, .val (.long dl), .second, iv 2, rv a779, .val (.long r), .second, .val (.long i), .second, .val (.long (d + dl)), .second, .val (.long xq), .second, rv a829, iv 0] [(.int 0), (.int 0)]))
      have b900 : (0 : Int32) = (0 : Int32) := by decide
      refine Way.by (fun _ k => XS.icmpNo X878.here hx rfl (hb hby at_196) rfl (teq b900).2 k) ?_
      show Way _ _ _ _ (T877.setTop (mkF m 199 #[.val (.long r), .second, .val (.long i), .second, .val (.long d), .second, .val (.long xq), .second, iv sel, .val (.long dl), .second, iv 2, rv a779, .val (.long r), .second, .val (.long i), .second, .val (.long (d + dl)), .second, .val (.long xq), .second, rv a829, iv 0] []))
      refine Way.by (fun _ k => XS.aload X878.here hx rfl (hb hby at_199) rfl rfl k) ?_
      show Way _ _ _ _ (T877.setTop (mkF m 201 #[.val (.long r), .second, .val (.long i), .second, .val (.long d), .second, .val (.long xq), .second, iv sel, .val (.long dl), .second, iv 2, rv a779, .val (.long r), .second, .val (.long i), .second, .val (.long (d + dl)), .second, .val (.long xq), .second, rv a829, iv 0] [(.ref a829)]))
      refine Way.by (fun _ k => XS.aload X878.here hx rfl (hb hby at_201) rfl rfl k) ?_
      show Way _ _ _ _ (T877.setTop (mkF m 203 #[.val (.long r), .second, .val (.long i), .second, .val (.long d), .second, .val (.long xq), .second, iv sel, .val (.long dl), .second, iv 2, rv a779, .val (.long r), .second, .val (.long i), .second, .val (.long (d + dl)), .second, .val (.long xq), .second, rv a829, iv 0] [(.ref a779), (.ref a829)]))
      obtain ⟨cq917, kq918, qa919, qb920, qc921⟩ := isOf hZ e889 F_0862
      obtain ⟨_, _, ⟨T901, L903, k904, n905⟩, -, X902, ⟨Lc906, hQ907, l908, y909, z910⟩, st911⟩ := X878.virtualBack hx (y := (⟨"com/example/outbox/outbox/QueueCounts", "equals", "(Ljava/lang/Object;)Z"⟩ : MethodName)) (z := (⟨"com/example/outbox/outbox/QueueCounts", "equals", "(Ljava/lang/Object;)Z"⟩ : MethodName)) hown (mvT hZ (tw hw 17 rfl)) (mvT hZ (tw hw 18 rfl)) (notFace_of_selects (args := #[]) (mvT hZ (tw hw 20 rfl))) (mvT hZ (tw hw 20 rfl)) (mvT hZ (tw hw 19 rfl)) (by decide) (backOf (W := 0) (rmE l Z a0 hw [] a829 a779 r i (d + dl) xq r i d xq (0 : Int32) T844.heap n0 Z873 E867 F_1863 F_2864 F_3865 F_4866 F868 F869 F870 F871 (by simp [addNe, addNe2, hdl])) hZ (tw hw 21 rfl) (tw hw 2 rfl) (by decide) (by decide)) qa919 qc921 (g := (mkF m 203 #[.val (.long r), .second, .val (.long i), .second, .val (.long d), .second, .val (.long xq), .second, iv sel, .val (.long dl), .second, iv 2, rv a779, .val (.long r), .second, .val (.long i), .second, .val (.long (d + dl)), .second, .val (.long xq), .second, rv a829, iv 0] [(.ref a779), (.ref a829)])) rfl (by rw [hml]; rfl) (Steps.refl _) (argsL := [(.ref a779)]) (rest := []) (lenOf pdE rfl) rfl (leW rfl) (hb hby at_203) (fun _ _ => ⟨rfl, e889, (leB rfl), (leB rfl)⟩)
      dsimp only [Pt.U, Pt.locs, Pt.cells, Pt.slots] at X902 l908 y909 z910 st911 hQ907
      subst l908 y909 z910
      obtain ⟨rfl, N922, e913⟩ := hQ907
      have N912 := Fr.app N888 N922
      refine Way.to st911 ?_
      show Way _ _ _ _ (T901.setTop (mkF m 206 #[.val (.long r), .second, .val (.long i), .second, .val (.long d), .second, .val (.long xq), .second, iv sel, .val (.long dl), .second, iv 2, rv a779, .val (.long r), .second, .val (.long i), .second, .val (.long (d + dl)), .second, .val (.long xq), .second, rv a829, iv 0] [(.int 0)]))
      refine Way.by (fun _ k => XS.iload X902.here hx rfl (hb hby at_206) rfl k) ?_
      show Way _ _ _ _ (T901.setTop (mkF m 208 #[.val (.long r), .second, .val (.long i), .second, .val (.long d), .second, .val (.long xq), .second, iv sel, .val (.long dl), .second, iv 2, rv a779, .val (.long r), .second, .val (.long i), .second, .val (.long (d + dl)), .second, .val (.long xq), .second, rv a829, iv 0] [(.int 0), (.int 0)]))
      have b924 : (0 : Int32) = (0 : Int32) := by decide
      refine Way.by (fun _ k => XS.icmpNo X902.here hx rfl (hb hby at_208) rfl (teq b924).2 k) ?_
      show Way _ _ _ _ (T901.setTop (mkF m 211 #[.val (.long r), .second, .val (.long i), .second, .val (.long d), .second, .val (.long xq), .second, iv sel, .val (.long dl), .second, iv 2, rv a779, .val (.long r), .second, .val (.long i), .second, .val (.long (d + dl)), .second, .val (.long xq), .second, rv a829, iv 0] []))
      refine Way.by (fun _ k => XS.iconst X902.here hx rfl (hb hby at_211) k) ?_
      show Way _ _ _ _ (T901.setTop (mkF m 212 #[.val (.long r), .second, .val (.long i), .second, .val (.long d), .second, .val (.long xq), .second, iv sel, .val (.long dl), .second, iv 2, rv a779, .val (.long r), .second, .val (.long i), .second, .val (.long (d + dl)), .second, .val (.long xq), .second, rv a829, iv 0] [(.int 1)]))
      refine Way.by (fun _ k => XS.goto X902.here hx rfl (pc0 := 212) (pc' := 216) rfl (hb hby at_212) (by decide) (by decide) k) ?_
      show Way _ _ _ _ (T901.setTop (mkF m 216 #[.val (.long r), .second, .val (.long i), .second, .val (.long d), .second, .val (.long xq), .second, iv sel, .val (.long dl), .second, iv 2, rv a779, .val (.long r), .second, .val (.long i), .second, .val (.long (d + dl)), .second, .val (.long xq), .second, rv a829, iv 0] [(.int 1)]))
      refine Way.ret (v := (some (.int (nar .boolean (1 : Int32))))) X902 hlk (fun h => by rw [Bd.returns] at h; cases h) (fun fs hr => retN X902 hx (t := .boolean) Bd.returns (by simp) (hb hby at_216) hr) ?_ (by decide) (by decide)
      show Q0 n0 _ T901.heap _
      rw [e913]
      exact ⟨rfl, N912⟩
  · skip
    show Way _ _ _ _ (s₁.setTop (mkF m 7 #[.val (.long r), .second, .val (.long i), .second, .val (.long d), .second, .val (.long xq), .second, iv sel, .val (.long dl), .second, iv 3, .unset, .unset, .unset, .unset, .unset, .unset, .unset, .unset, .unset, .unset, .unset] []))
    by_cases hdl : dl = 0
    · skip
      show Way _ _ _ _ (s₁.setTop (mkF m 7 #[.val (.long r), .second, .val (.long i), .second, .val (.long d), .second, .val (.long xq), .second, iv sel, .val (.long dl), .second, iv 3, .unset, .unset, .unset, .unset, .unset, .unset, .unset, .unset, .unset, .unset, .unset] []))
      obtain ⟨T925, h926, X927, e928, E929, A930, D931, -, st932⟩ := newO X0 hx hZ hown (tw hw 0 rfl) (tw hw 1 rfl) (tw hw 2 rfl) e0 (g := (mkF m 7 #[.val (.long r), .second, .val (.long i), .second, .val (.long d), .second, .val (.long xq), .second, iv sel, .val (.long dl), .second, iv 3, .unset, .unset, .unset, .unset, .unset, .unset, .unset, .unset, .unset, .unset, .unset] [])) rfl (hb hby at_7) (by decide) (by decide)
      obtain ⟨a933, g934⟩ : ∃ z, z = h0.size := ⟨_, rfl⟩
      rw [← g934] at A930 D931 st932
      have nw935 : n0 ≤ a933 := Nat.le_trans Z0 (Nat.le_of_eq g934.symm)
      have Z936 := Nat.le_trans Z0 E929.1
      have O937 := O0.ext E929
      have F938 : Fld Z h926 a933 "com/example/outbox/outbox/QueueCounts" "ready" "J" (.long (0 : Int64)) := D931 (Or.inr (tw hw 10 rfl)) (ty := .long) (by decide)
      have F939 : Fld Z h926 a933 "com/example/outbox/outbox/QueueCounts" "inflight" "J" (.long (0 : Int64)) := D931 (Or.inr (tw hw 12 rfl)) (ty := .long) (by decide)
      have F940 : Fld Z h926 a933 "com/example/outbox/outbox/QueueCounts" "delayed" "J" (.long (0 : Int64)) := D931 (Or.inr (tw hw 14 rfl)) (ty := .long) (by decide)
      have F941 : Fld Z h926 a933 "com/example/outbox/outbox/QueueCounts" "dead" "J" (.long (0 : Int64)) := D931 (Or.inr (tw hw 16 rfl)) (ty := .long) (by decide)
      refine Way.by st932 ?_
      show Way _ _ _ _ (T925.setTop (mkF m 10 #[.val (.long r), .second, .val (.long i), .second, .val (.long d), .second, .val (.long xq), .second, iv sel, .val (.long dl), .second, iv 3, .unset, .unset, .unset, .unset, .unset, .unset, .unset, .unset, .unset, .unset, .unset] [(.ref a933)]))
      refine Way.by (fun _ k => XS.dup X927.here hx rfl (hb hby at_10) rfl rfl k) ?_
      show Way _ _ _ _ (T925.setTop (mkF m 11 #[.val (.long r), .second, .val (.long i), .second, .val (.long d), .second, .val (.long xq), .second, iv sel, .val (.long dl), .second, iv 3, .unset, .unset, .unset, .unset, .unset, .unset, .unset, .unset, .unset, .unset, .unset] [(.ref a933), (.ref a933)]))
      refine Way.by (fun _ k => XT.lloadN X927.here hx rfl (hb hby at_11) rfl k) ?_
      show Way _ _ _ _ (T925.setTop (mkF m 12 #[.val (.long r), .second, .val (.long i), .second, .val (.long d), .second, .val (.long xq), .second, iv sel, .val (.long dl), .second, iv 3, .unset, .unset, .unset, .unset, .unset, .unset, .unset, .unset, .unset, .unset, .unset] [(.long r), (.ref a933), (.ref a933)]))
      refine Way.by (fun _ k => XT.lloadN X927.here hx rfl (hb hby at_12) rfl k) ?_
      show Way _ _ _ _ (T925.setTop (mkF m 13 #[.val (.long r), .second, .val (.long i), .second, .val (.long d), .second, .val (.long xq), .second, iv sel, .val (.long dl), .second, iv 3, .unset, .unset, .unset, .unset, .unset, .unset, .unset, .unset, .unset, .unset, .unset] [(.long i), (.long r), (.ref a933), (.ref a933)]))
      refine Way.by (fun _ k => XT.lload X927.here hx rfl (hb hby at_13) rfl k) ?_
      show Way _ _ _ _ (T925.setTop (mkF m 15 #[.val (.long r), .second, .val (.long i), .second, .val (.long d), .second, .val (.long xq), .second, iv sel, .val (.long dl), .second, iv 3, .unset, .unset, .unset, .unset, .unset, .unset, .unset, .unset, .unset, .unset, .unset] [(.long d), (.long i), (.long r), (.ref a933), (.ref a933)]))
      refine Way.by (fun _ k => XT.lload X927.here hx rfl (hb hby at_15) rfl k) ?_
      show Way _ _ _ _ (T925.setTop (mkF m 17 #[.val (.long r), .second, .val (.long i), .second, .val (.long d), .second, .val (.long xq), .second, iv sel, .val (.long dl), .second, iv 3, .unset, .unset, .unset, .unset, .unset, .unset, .unset, .unset, .unset, .unset, .unset] [(.long xq), (.long d), (.long i), (.long r), (.ref a933), (.ref a933)]))
      obtain ⟨_, _, ⟨T942, L944, k945, n946⟩, -, X943, ⟨Lc947, hQ948, l949, y950, z951⟩, st952⟩ := X927.specialBack hx (y := (⟨"com/example/outbox/outbox/QueueCounts", "<init>", "(JJJJ)V"⟩ : MethodName)) rfl hown (mvT hZ (tw hw 3 rfl)) (mvT hZ (tw hw 4 rfl)) (mvT hZ (tw hw 5 rfl)) (by decide) (backOf (W := 1) (rmC l Z a0 hw [] a933 r i d xq h926 n0 Z936 A930 F938 F939 F940 F941 nw935) hZ (tw hw 5 rfl) (tw hw 2 rfl) (by decide) (by decide)) (g := (mkF m 17 #[.val (.long r), .second, .val (.long i), .second, .val (.long d), .second, .val (.long xq), .second, iv sel, .val (.long dl), .second, iv 3, .unset, .unset, .unset, .unset, .unset, .unset, .unset, .unset, .unset, .unset, .unset] [(.long xq), (.long d), (.long i), (.long r), (.ref a933), (.ref a933)])) rfl (by rw [hml]; rfl) (Steps.refl _) (a := a933) (argsL := [(.long r), (.long i), (.long d), (.long xq)]) (rest := [(.ref a933)]) (lenOf pdC rfl) rfl (leW rfl) (hb hby at_17) (fun _ _ => ⟨rfl, e928, (leB rfl), (leB rfl)⟩)
      dsimp only [Pt.U, Pt.locs, Pt.cells, Pt.slots] at X943 l949 y950 z951 st952 hQ948
      subst l949 y950 z951
      obtain ⟨rfl, N958, K959, F_0960, F_1961, F_2962, F_3963, F_4964⟩ := hQ948
      have N953 := Fr.app N0 N958
      have E965 := A930.keep K959
      have Z966 := Nat.le_trans Z936 K959.1
      have O967 := O937.keep K959 (allS nw935 all0)
      refine Way.to st952 ?_
      show Way _ _ _ _ (T942.setTop (mkF m 20 #[.val (.long r), .second, .val (.long i), .second, .val (.long d), .second, .val (.long xq), .second, iv sel, .val (.long dl), .second, iv 3, .unset, .unset, .unset, .unset, .unset, .unset, .unset, .unset, .unset, .unset, .unset] [(.ref a933)]))
      refine Way.by (fun _ k => XS.astore X943.here hx rfl (hb hby at_20) rfl rfl (l' := #[.val (.long r), .second, .val (.long i), .second, .val (.long d), .second, .val (.long xq), .second, iv sel, .val (.long dl), .second, iv 3, rv a933, .unset, .unset, .unset, .unset, .unset, .unset, .unset, .unset, .unset, .unset]) rfl k) ?_
      show Way _ _ _ _ (T942.setTop (mkF m 22 #[.val (.long r), .second, .val (.long i), .second, .val (.long d), .second, .val (.long xq), .second, iv sel, .val (.long dl), .second, iv 3, rv a933, .unset, .unset, .unset, .unset, .unset, .unset, .unset, .unset, .unset, .unset] []))
      refine Way.by (fun _ k => XS.iload X943.here hx rfl (hb hby at_22) rfl k) ?_
      show Way _ _ _ _ (T942.setTop (mkF m 24 #[.val (.long r), .second, .val (.long i), .second, .val (.long d), .second, .val (.long xq), .second, iv sel, .val (.long dl), .second, iv 3, rv a933, .unset, .unset, .unset, .unset, .unset, .unset, .unset, .unset, .unset, .unset] [(.int 3)]))
      refine Way.by (fun _ k => XS.iconst X943.here hx rfl (hb hby at_24) k) ?_
      show Way _ _ _ _ (T942.setTop (mkF m 25 #[.val (.long r), .second, .val (.long i), .second, .val (.long d), .second, .val (.long xq), .second, iv sel, .val (.long dl), .second, iv 3, rv a933, .unset, .unset, .unset, .unset, .unset, .unset, .unset, .unset, .unset, .unset] [(.int 5), (.int 3)]))
      have b968 : ¬ (3 : Int32) = (5 : Int32) := by decide
      refine Way.by (fun _ k => XS.icmpYes X943.here hx rfl (pc0 := 25) (pc' := 43) rfl (hb hby at_25) rfl (feq b968).2 (by decide) (by decide) k) ?_
      show Way _ _ _ _ (T942.setTop (mkF m 43 #[.val (.long r), .second, .val (.long i), .second, .val (.long d), .second, .val (.long xq), .second, iv sel, .val (.long dl), .second, iv 3, rv a933, .unset, .unset, .unset, .unset, .unset, .unset, .unset, .unset, .unset, .unset] []))
      refine Way.by (fun _ k => XS.iload X943.here hx rfl (hb hby at_43) rfl k) ?_
      show Way _ _ _ _ (T942.setTop (mkF m 45 #[.val (.long r), .second, .val (.long i), .second, .val (.long d), .second, .val (.long xq), .second, iv sel, .val (.long dl), .second, iv 3, rv a933, .unset, .unset, .unset, .unset, .unset, .unset, .unset, .unset, .unset, .unset] [(.int 3)]))
      refine Way.by (fun _ k => XS.bipush X943.here hx rfl (hb hby at_45) k) ?_
      show Way _ _ _ _ (T942.setTop (mkF m 47 #[.val (.long r), .second, .val (.long i), .second, .val (.long d), .second, .val (.long xq), .second, iv sel, .val (.long dl), .second, iv 3, rv a933, .unset, .unset, .unset, .unset, .unset, .unset, .unset, .unset, .unset, .unset] [(.int 6), (.int 3)]))
      have b969 : ¬ (3 : Int32) = (6 : Int32) := by decide
      refine Way.by (fun _ k => XS.icmpYes X943.here hx rfl (pc0 := 47) (pc' := 68) rfl (hb hby at_47) rfl (feq b969).2 (by decide) (by decide) k) ?_
      show Way _ _ _ _ (T942.setTop (mkF m 68 #[.val (.long r), .second, .val (.long i), .second, .val (.long d), .second, .val (.long xq), .second, iv sel, .val (.long dl), .second, iv 3, rv a933, .unset, .unset, .unset, .unset, .unset, .unset, .unset, .unset, .unset, .unset] []))
      refine Way.by (fun _ k => XS.iload X943.here hx rfl (hb hby at_68) rfl k) ?_
      show Way _ _ _ _ (T942.setTop (mkF m 70 #[.val (.long r), .second, .val (.long i), .second, .val (.long d), .second, .val (.long xq), .second, iv sel, .val (.long dl), .second, iv 3, rv a933, .unset, .unset, .unset, .unset, .unset, .unset, .unset, .unset, .unset, .unset] [(.int 3)]))
      refine Way.by (fun _ k => XS.bipush X943.here hx rfl (hb hby at_70) k) ?_
      show Way _ _ _ _ (T942.setTop (mkF m 72 #[.val (.long r), .second, .val (.long i), .second, .val (.long d), .second, .val (.long xq), .second, iv sel, .val (.long dl), .second, iv 3, rv a933, .unset, .unset, .unset, .unset, .unset, .unset, .unset, .unset, .unset, .unset] [(.int 7), (.int 3)]))
      have b970 : ¬ (3 : Int32) = (7 : Int32) := by decide
      refine Way.by (fun _ k => XS.icmpYes X943.here hx rfl (pc0 := 72) (pc' := 83) rfl (hb hby at_72) rfl (feq b970).2 (by decide) (by decide) k) ?_
      show Way _ _ _ _ (T942.setTop (mkF m 83 #[.val (.long r), .second, .val (.long i), .second, .val (.long d), .second, .val (.long xq), .second, iv sel, .val (.long dl), .second, iv 3, rv a933, .unset, .unset, .unset, .unset, .unset, .unset, .unset, .unset, .unset, .unset] []))
      refine Way.by (fun _ k => XS.iload X943.here hx rfl (hb hby at_83) rfl k) ?_
      show Way _ _ _ _ (T942.setTop (mkF m 85 #[.val (.long r), .second, .val (.long i), .second, .val (.long d), .second, .val (.long xq), .second, iv sel, .val (.long dl), .second, iv 3, rv a933, .unset, .unset, .unset, .unset, .unset, .unset, .unset, .unset, .unset, .unset] [(.int 3)]))
      have b971 : ¬ (3 : Int32) = (0 : Int32) := by decide
      refine Way.by (fun _ k => XS.ifYes X943.here hx rfl (pc0 := 85) (pc' := 95) rfl (hb hby at_85) rfl ((if0 .ne _).trans (feq b971).2) (by decide) (by decide) k) ?_
      show Way _ _ _ _ (T942.setTop (mkF m 95 #[.val (.long r), .second, .val (.long i), .second, .val (.long d), .second, .val (.long xq), .second, iv sel, .val (.long dl), .second, iv 3, rv a933, .unset, .unset, .unset, .unset, .unset, .unset, .unset, .unset, .unset, .unset] []))
      refine Way.by (fun _ k => XT.lloadN X943.here hx rfl (hb hby at_95) rfl k) ?_
      show Way _ _ _ _ (T942.setTop (mkF m 96 #[.val (.long r), .second, .val (.long i), .second, .val (.long d), .second, .val (.long xq), .second, iv sel, .val (.long dl), .second, iv 3, rv a933, .unset, .unset, .unset, .unset, .unset, .unset, .unset, .unset, .unset, .unset] [(.long r)]))
      refine Way.by (fun _ k => XT.lstore X943.here hx rfl (hb hby at_96) rfl (l' := #[.val (.long r), .second, .val (.long i), .second, .val (.long d), .second, .val (.long xq), .second, iv sel, .val (.long dl), .second, iv 3, rv a933, .val (.long r), .second, .unset, .unset, .unset, .unset, .unset, .unset, .unset, .unset]) rfl k) ?_
      show Way _ _ _ _ (T942.setTop (mkF m 98 #[.val (.long r), .second, .val (.long i), .second, .val (.long d), .second, .val (.long xq), .second, iv sel, .val (.long dl), .second, iv 3, rv a933, .val (.long r), .second, .unset, .unset, .unset, .unset, .unset, .unset, .unset, .unset] []))
      refine Way.by (fun _ k => XS.iload X943.here hx rfl (hb hby at_98) rfl k) ?_
      show Way _ _ _ _ (T942.setTop (mkF m 100 #[.val (.long r), .second, .val (.long i), .second, .val (.long d), .second, .val (.long xq), .second, iv sel, .val (.long dl), .second, iv 3, rv a933, .val (.long r), .second, .unset, .unset, .unset, .unset, .unset, .unset, .unset, .unset] [(.int 3)]))
      refine Way.by (fun _ k => XS.iconst X943.here hx rfl (hb hby at_100) k) ?_
      show Way _ _ _ _ (T942.setTop (mkF m 101 #[.val (.long r), .second, .val (.long i), .second, .val (.long d), .second, .val (.long xq), .second, iv sel, .val (.long dl), .second, iv 3, rv a933, .val (.long r), .second, .unset, .unset, .unset, .unset, .unset, .unset, .unset, .unset] [(.int 1), (.int 3)]))
      have b972 : ¬ (3 : Int32) = (1 : Int32) := by decide
      refine Way.by (fun _ k => XS.icmpYes X943.here hx rfl (pc0 := 101) (pc' := 111) rfl (hb hby at_101) rfl (feq b972).2 (by decide) (by decide) k) ?_
      show Way _ _ _ _ (T942.setTop (mkF m 111 #[.val (.long r), .second, .val (.long i), .second, .val (.long d), .second, .val (.long xq), .second, iv sel, .val (.long dl), .second, iv 3, rv a933, .val (.long r), .second, .unset, .unset, .unset, .unset, .unset, .unset, .unset, .unset] []))
      refine Way.by (fun _ k => XT.lloadN X943.here hx rfl (hb hby at_111) rfl k) ?_
      show Way _ _ _ _ (T942.setTop (mkF m 112 #[.val (.long r), .second, .val (.long i), .second, .val (.long d), .second, .val (.long xq), .second, iv sel, .val (.long dl), .second, iv 3, rv a933, .val (.long r), .second, .unset, .unset, .unset, .unset, .unset, .unset, .unset, .unset] [(.long i)]))
      refine Way.by (fun _ k => XT.lstore X943.here hx rfl (hb hby at_112) rfl (l' := #[.val (.long r), .second, .val (.long i), .second, .val (.long d), .second, .val (.long xq), .second, iv sel, .val (.long dl), .second, iv 3, rv a933, .val (.long r), .second, .val (.long i), .second, .unset, .unset, .unset, .unset, .unset, .unset]) rfl k) ?_
      show Way _ _ _ _ (T942.setTop (mkF m 114 #[.val (.long r), .second, .val (.long i), .second, .val (.long d), .second, .val (.long xq), .second, iv sel, .val (.long dl), .second, iv 3, rv a933, .val (.long r), .second, .val (.long i), .second, .unset, .unset, .unset, .unset, .unset, .unset] []))
      refine Way.by (fun _ k => XS.iload X943.here hx rfl (hb hby at_114) rfl k) ?_
      show Way _ _ _ _ (T942.setTop (mkF m 116 #[.val (.long r), .second, .val (.long i), .second, .val (.long d), .second, .val (.long xq), .second, iv sel, .val (.long dl), .second, iv 3, rv a933, .val (.long r), .second, .val (.long i), .second, .unset, .unset, .unset, .unset, .unset, .unset] [(.int 3)]))
      refine Way.by (fun _ k => XS.iconst X943.here hx rfl (hb hby at_116) k) ?_
      show Way _ _ _ _ (T942.setTop (mkF m 117 #[.val (.long r), .second, .val (.long i), .second, .val (.long d), .second, .val (.long xq), .second, iv sel, .val (.long dl), .second, iv 3, rv a933, .val (.long r), .second, .val (.long i), .second, .unset, .unset, .unset, .unset, .unset, .unset] [(.int 2), (.int 3)]))
      have b973 : ¬ (3 : Int32) = (2 : Int32) := by decide
      refine Way.by (fun _ k => XS.icmpYes X943.here hx rfl (pc0 := 117) (pc' := 128) rfl (hb hby at_117) rfl (feq b973).2 (by decide) (by decide) k) ?_
      show Way _ _ _ _ (T942.setTop (mkF m 128 #[.val (.long r), .second, .val (.long i), .second, .val (.long d), .second, .val (.long xq), .second, iv sel, .val (.long dl), .second, iv 3, rv a933, .val (.long r), .second, .val (.long i), .second, .unset, .unset, .unset, .unset, .unset, .unset] []))
      refine Way.by (fun _ k => XT.lload X943.here hx rfl (hb hby at_128) rfl k) ?_
      show Way _ _ _ _ (T942.setTop (mkF m 130 #[.val (.long r), .second, .val (.long i), .second, .val (.long d), .second, .val (.long xq), .second, iv sel, .val (.long dl), .second, iv 3, rv a933, .val (.long r), .second, .val (.long i), .second, .unset, .unset, .unset, .unset, .unset, .unset] [(.long d)]))
      refine Way.by (fun _ k => XT.lstore X943.here hx rfl (hb hby at_130) rfl (l' := #[.val (.long r), .second, .val (.long i), .second, .val (.long d), .second, .val (.long xq), .second, iv sel, .val (.long dl), .second, iv 3, rv a933, .val (.long r), .second, .val (.long i), .second, .val (.long d), .second, .unset, .unset, .unset, .unset]) rfl k) ?_
      show Way _ _ _ _ (T942.setTop (mkF m 132 #[.val (.long r), .second, .val (.long i), .second, .val (.long d), .second, .val (.long xq), .second, iv sel, .val (.long dl), .second, iv 3, rv a933, .val (.long r), .second, .val (.long i), .second, .val (.long d), .second, .unset, .unset, .unset, .unset] []))
      refine Way.by (fun _ k => XS.iload X943.here hx rfl (hb hby at_132) rfl k) ?_
      show Way _ _ _ _ (T942.setTop (mkF m 134 #[.val (.long r), .second, .val (.long i), .second, .val (.long d), .second, .val (.long xq), .second, iv sel, .val (.long dl), .second, iv 3, rv a933, .val (.long r), .second, .val (.long i), .second, .val (.long d), .second, .unset, .unset, .unset, .unset] [(.int 3)]))
      refine Way.by (fun _ k => XS.iconst X943.here hx rfl (hb hby at_134) k) ?_
      show Way _ _ _ _ (T942.setTop (mkF m 135 #[.val (.long r), .second, .val (.long i), .second, .val (.long d), .second, .val (.long xq), .second, iv sel, .val (.long dl), .second, iv 3, rv a933, .val (.long r), .second, .val (.long i), .second, .val (.long d), .second, .unset, .unset, .unset, .unset] [(.int 3), (.int 3)]))
      have b974 : (3 : Int32) = (3 : Int32) := by decide
      refine Way.by (fun _ k => XS.icmpNo X943.here hx rfl (hb hby at_135) rfl (teq b974).2 k) ?_
      show Way _ _ _ _ (T942.setTop (mkF m 138 #[.val (.long r), .second, .val (.long i), .second, .val (.long d), .second, .val (.long xq), .second, iv sel, .val (.long dl), .second, iv 3, rv a933, .val (.long r), .second, .val (.long i), .second, .val (.long d), .second, .unset, .unset, .unset, .unset] []))
      refine Way.by (fun _ k => XT.lload X943.here hx rfl (hb hby at_138) rfl k) ?_
      show Way _ _ _ _ (T942.setTop (mkF m 140 #[.val (.long r), .second, .val (.long i), .second, .val (.long d), .second, .val (.long xq), .second, iv sel, .val (.long dl), .second, iv 3, rv a933, .val (.long r), .second, .val (.long i), .second, .val (.long d), .second, .unset, .unset, .unset, .unset] [(.long xq)]))
      refine Way.by (fun _ k => XT.lload X943.here hx rfl (hb hby at_140) rfl k) ?_
      show Way _ _ _ _ (T942.setTop (mkF m 142 #[.val (.long r), .second, .val (.long i), .second, .val (.long d), .second, .val (.long xq), .second, iv sel, .val (.long dl), .second, iv 3, rv a933, .val (.long r), .second, .val (.long i), .second, .val (.long d), .second, .unset, .unset, .unset, .unset] [(.long dl), (.long xq)]))
      refine Way.by (fun _ k => XT.ladd X943.here hx rfl (hb hby at_142) rfl k) ?_
      show Way _ _ _ _ (T942.setTop (mkF m 143 #[.val (.long r), .second, .val (.long i), .second, .val (.long d), .second, .val (.long xq), .second, iv sel, .val (.long dl), .second, iv 3, rv a933, .val (.long r), .second, .val (.long i), .second, .val (.long d), .second, .unset, .unset, .unset, .unset] [(.long (xq + dl))]))
      refine Way.by (fun _ k => XS.goto X943.here hx rfl (pc0 := 143) (pc' := 148) rfl (hb hby at_143) (by decide) (by decide) k) ?_
      show Way _ _ _ _ (T942.setTop (mkF m 148 #[.val (.long r), .second, .val (.long i), .second, .val (.long d), .second, .val (.long xq), .second, iv sel, .val (.long dl), .second, iv 3, rv a933, .val (.long r), .second, .val (.long i), .second, .val (.long d), .second, .unset, .unset, .unset, .unset] [(.long (xq + dl))]))
      refine Way.by (fun _ k => XT.lstore X943.here hx rfl (hb hby at_148) rfl (l' := #[.val (.long r), .second, .val (.long i), .second, .val (.long d), .second, .val (.long xq), .second, iv sel, .val (.long dl), .second, iv 3, rv a933, .val (.long r), .second, .val (.long i), .second, .val (.long d), .second, .val (.long (xq + dl)), .second, .unset, .unset]) rfl k) ?_
      show Way _ _ _ _ (T942.setTop (mkF m 150 #[.val (.long r), .second, .val (.long i), .second, .val (.long d), .second, .val (.long xq), .second, iv sel, .val (.long dl), .second, iv 3, rv a933, .val (.long r), .second, .val (.long i), .second, .val (.long d), .second, .val (.long (xq + dl)), .second, .unset, .unset] []))
      obtain ⟨T975, h976, X977, e978, E979, A980, D981, -, st982⟩ := newO X943 hx hZ hown (tw hw 0 rfl) (tw hw 1 rfl) (tw hw 2 rfl) rfl (g := (mkF m 150 #[.val (.long r), .second, .val (.long i), .second, .val (.long d), .second, .val (.long xq), .second, iv sel, .val (.long dl), .second, iv 3, rv a933, .val (.long r), .second, .val (.long i), .second, .val (.long d), .second, .val (.long (xq + dl)), .second, .unset, .unset] [])) rfl (hb hby at_150) (by decide) (by decide)
      obtain ⟨a983, g984⟩ : ∃ z, z = T942.heap.size := ⟨_, rfl⟩
      rw [← g984] at A980 D981 st982
      have ne985 : a933 ≠ a983 := Nat.ne_of_lt (Nat.lt_of_lt_of_eq F_0960.lt g984.symm)
      have nw986 : n0 ≤ a983 := Nat.le_trans Z966 (Nat.le_of_eq g984.symm)
      have E987 := Exa.ext E979 F_0960
      have F988 := Fld.ext E979 F_1961
      have F989 := Fld.ext E979 F_2962
      have F990 := Fld.ext E979 F_3963
      have F991 := Fld.ext E979 F_4964
      have Z992 := Nat.le_trans Z966 E979.1
      have O993 := O967.ext E979
      have F994 : Fld Z h976 a983 "com/example/outbox/outbox/QueueCounts" "ready" "J" (.long (0 : Int64)) := D981 (Or.inr (tw hw 10 rfl)) (ty := .long) (by decide)
      have F995 : Fld Z h976 a983 "com/example/outbox/outbox/QueueCounts" "inflight" "J" (.long (0 : Int64)) := D981 (Or.inr (tw hw 12 rfl)) (ty := .long) (by decide)
      have F996 : Fld Z h976 a983 "com/example/outbox/outbox/QueueCounts" "delayed" "J" (.long (0 : Int64)) := D981 (Or.inr (tw hw 14 rfl)) (ty := .long) (by decide)
      have F997 : Fld Z h976 a983 "com/example/outbox/outbox/QueueCounts" "dead" "J" (.long (0 : Int64)) := D981 (Or.inr (tw hw 16 rfl)) (ty := .long) (by decide)
      refine Way.by st982 ?_
      show Way _ _ _ _ (T975.setTop (mkF m 153 #[.val (.long r), .second, .val (.long i), .second, .val (.long d), .second, .val (.long xq), .second, iv sel, .val (.long dl), .second, iv 3, rv a933, .val (.long r), .second, .val (.long i), .second, .val (.long d), .second, .val (.long (xq + dl)), .second, .unset, .unset] [(.ref a983)]))
      refine Way.by (fun _ k => XS.dup X977.here hx rfl (hb hby at_153) rfl rfl k) ?_
      show Way _ _ _ _ (T975.setTop (mkF m 154 #[.val (.long r), .second, .val (.long i), .second, .val (.long d), .second, .val (.long xq), .second, iv sel, .val (.long dl), .second, iv 3, rv a933, .val (.long r), .second, .val (.long i), .second, .val (.long d), .second, .val (.long (xq + dl)), .second, .unset, .unset] [(.ref a983), (.ref a983)]))
      refine Way.by (fun _ k => XT.lload X977.here hx rfl (hb hby at_154) rfl k) ?_
      show Way _ _ _ _ (T975.setTop (mkF m 156 #[.val (.long r), .second, .val (.long i), .second, .val (.long d), .second, .val (.long xq), .second, iv sel, .val (.long dl), .second, iv 3, rv a933, .val (.long r), .second, .val (.long i), .second, .val (.long d), .second, .val (.long (xq + dl)), .second, .unset, .unset] [(.long r), (.ref a983), (.ref a983)]))
      refine Way.by (fun _ k => XT.lload X977.here hx rfl (hb hby at_156) rfl k) ?_
      show Way _ _ _ _ (T975.setTop (mkF m 158 #[.val (.long r), .second, .val (.long i), .second, .val (.long d), .second, .val (.long xq), .second, iv sel, .val (.long dl), .second, iv 3, rv a933, .val (.long r), .second, .val (.long i), .second, .val (.long d), .second, .val (.long (xq + dl)), .second, .unset, .unset] [(.long i), (.long r), (.ref a983), (.ref a983)]))
      refine Way.by (fun _ k => XT.lload X977.here hx rfl (hb hby at_158) rfl k) ?_
      show Way _ _ _ _ (T975.setTop (mkF m 160 #[.val (.long r), .second, .val (.long i), .second, .val (.long d), .second, .val (.long xq), .second, iv sel, .val (.long dl), .second, iv 3, rv a933, .val (.long r), .second, .val (.long i), .second, .val (.long d), .second, .val (.long (xq + dl)), .second, .unset, .unset] [(.long d), (.long i), (.long r), (.ref a983), (.ref a983)]))
      refine Way.by (fun _ k => XT.lload X977.here hx rfl (hb hby at_160) rfl k) ?_
      show Way _ _ _ _ (T975.setTop (mkF m 162 #[.val (.long r), .second, .val (.long i), .second, .val (.long d), .second, .val (.long xq), .second, iv sel, .val (.long dl), .second, iv 3, rv a933, .val (.long r), .second, .val (.long i), .second, .val (.long d), .second, .val (.long (xq + dl)), .second, .unset, .unset] [(.long (xq + dl)), (.long d), (.long i), (.long r), (.ref a983), (.ref a983)]))
      obtain ⟨_, _, ⟨T998, L1000, k1001, n1002⟩, -, X999, ⟨Lc1003, hQ1004, l1005, y1006, z1007⟩, st1008⟩ := X977.specialBack hx (y := (⟨"com/example/outbox/outbox/QueueCounts", "<init>", "(JJJJ)V"⟩ : MethodName)) rfl hown (mvT hZ (tw hw 3 rfl)) (mvT hZ (tw hw 4 rfl)) (mvT hZ (tw hw 5 rfl)) (by decide) (backOf (W := 1) (rmC l Z a0 hw [] a983 r i d (xq + dl) h976 n0 Z992 A980 F994 F995 F996 F997 nw986) hZ (tw hw 5 rfl) (tw hw 2 rfl) (by decide) (by decide)) (g := (mkF m 162 #[.val (.long r), .second, .val (.long i), .second, .val (.long d), .second, .val (.long xq), .second, iv sel, .val (.long dl), .second, iv 3, rv a933, .val (.long r), .second, .val (.long i), .second, .val (.long d), .second, .val (.long (xq + dl)), .second, .unset, .unset] [(.long (xq + dl)), (.long d), (.long i), (.long r), (.ref a983), (.ref a983)])) rfl (by rw [hml]; rfl) (Steps.refl _) (a := a983) (argsL := [(.long r), (.long i), (.long d), (.long (xq + dl))]) (rest := [(.ref a983)]) (lenOf pdC rfl) rfl (leW rfl) (hb hby at_162) (fun _ _ => ⟨rfl, e978, (leB rfl), (leB rfl)⟩)
      dsimp only [Pt.U, Pt.locs, Pt.cells, Pt.slots] at X999 l1005 y1006 z1007 st1008 hQ1004
      subst l1005 y1006 z1007
      obtain ⟨rfl, N1014, K1015, F_01016, F_11017, F_21018, F_31019, F_41020⟩ := hQ1004
      have N1009 := Fr.app N953 N1014
      have E1021 := E987.keep K1015
      have F1022 := F988.keep K1015 (ninS ne985 nin0)
      have F1023 := F989.keep K1015 (ninS ne985 nin0)
      have F1024 := F990.keep K1015 (ninS ne985 nin0)
      have F1025 := F991.keep K1015 (ninS ne985 nin0)
      have E1026 := A980.keep K1015
      have Z1027 := Nat.le_trans Z992 K1015.1
      have O1028 := O993.keep K1015 (allS nw986 all0)
      refine Way.to st1008 ?_
      show Way _ _ _ _ (T998.setTop (mkF m 165 #[.val (.long r), .second, .val (.long i), .second, .val (.long d), .second, .val (.long xq), .second, iv sel, .val (.long dl), .second, iv 3, rv a933, .val (.long r), .second, .val (.long i), .second, .val (.long d), .second, .val (.long (xq + dl)), .second, .unset, .unset] [(.ref a983)]))
      refine Way.by (fun _ k => XS.astore X999.here hx rfl (hb hby at_165) rfl rfl (l' := #[.val (.long r), .second, .val (.long i), .second, .val (.long d), .second, .val (.long xq), .second, iv sel, .val (.long dl), .second, iv 3, rv a933, .val (.long r), .second, .val (.long i), .second, .val (.long d), .second, .val (.long (xq + dl)), .second, rv a983, .unset]) rfl k) ?_
      show Way _ _ _ _ (T998.setTop (mkF m 167 #[.val (.long r), .second, .val (.long i), .second, .val (.long d), .second, .val (.long xq), .second, iv sel, .val (.long dl), .second, iv 3, rv a933, .val (.long r), .second, .val (.long i), .second, .val (.long d), .second, .val (.long (xq + dl)), .second, rv a983, .unset] []))
      refine Way.by (fun _ k => XS.iload X999.here hx rfl (hb hby at_167) rfl k) ?_
      show Way _ _ _ _ (T998.setTop (mkF m 169 #[.val (.long r), .second, .val (.long i), .second, .val (.long d), .second, .val (.long xq), .second, iv sel, .val (.long dl), .second, iv 3, rv a933, .val (.long r), .second, .val (.long i), .second, .val (.long d), .second, .val (.long (xq + dl)), .second, rv a983, .unset] [(.int 3)]))
      refine Way.by (fun _ k => XS.iconst X999.here hx rfl (hb hby at_169) k) ?_
      show Way _ _ _ _ (T998.setTop (mkF m 170 #[.val (.long r), .second, .val (.long i), .second, .val (.long d), .second, .val (.long xq), .second, iv sel, .val (.long dl), .second, iv 3, rv a933, .val (.long r), .second, .val (.long i), .second, .val (.long d), .second, .val (.long (xq + dl)), .second, rv a983, .unset] [(.int 4), (.int 3)]))
      have b1029 : ¬ (3 : Int32) = (4 : Int32) := by decide
      refine Way.by (fun _ k => XS.icmpNo X999.here hx rfl (hb hby at_170) rfl (feq b1029).1 k) ?_
      show Way _ _ _ _ (T998.setTop (mkF m 173 #[.val (.long r), .second, .val (.long i), .second, .val (.long d), .second, .val (.long xq), .second, iv sel, .val (.long dl), .second, iv 3, rv a933, .val (.long r), .second, .val (.long i), .second, .val (.long d), .second, .val (.long (xq + dl)), .second, rv a983, .unset] []))
      refine Way.by (fun _ k => XT.lload X999.here hx rfl (hb hby at_173) rfl k) ?_
      show Way _ _ _ _ (T998.setTop (mkF m 175 #[.val (.long r), .second, .val (.long i), .second, .val (.long d), .second, .val (.long xq), .second, iv sel, .val (.long dl), .second, iv 3, rv a933, .val (.long r), .second, .val (.long i), .second, .val (.long d), .second, .val (.long (xq + dl)), .second, rv a983, .unset] [(.long dl)]))
      refine Way.by (fun _ k => XT.lconst X999.here hx rfl (hb hby at_175) k) ?_
      show Way _ _ _ _ (T998.setTop (mkF m 176 #[.val (.long r), .second, .val (.long i), .second, .val (.long d), .second, .val (.long xq), .second, iv sel, .val (.long dl), .second, iv 3, rv a933, .val (.long r), .second, .val (.long i), .second, .val (.long d), .second, .val (.long (xq + dl)), .second, rv a983, .unset] [(.long (0 : Int64)), (.long dl)]))
      refine Way.by (fun _ k => XT.lcmp X999.here hx rfl (hb hby at_176) rfl k) ?_
      show Way _ _ _ _ (T998.setTop (mkF m 177 #[.val (.long r), .second, .val (.long i), .second, .val (.long d), .second, .val (.long xq), .second, iv sel, .val (.long dl), .second, iv 3, rv a933, .val (.long r), .second, .val (.long i), .second, .val (.long d), .second, .val (.long (xq + dl)), .second, rv a983, .unset] [(.int (XT.cmpL dl (0 : Int64)))]))
      have b1030 : (XT.cmpL dl (0 : Int64)) = (0 : Int32) := (cmpL0 _ _).mpr hdl
      refine Way.by (fun _ k => XS.ifNo X999.here hx rfl (hb hby at_177) rfl ((if0 .ne _).trans (teq b1030).2) k) ?_
      show Way _ _ _ _ (T998.setTop (mkF m 180 #[.val (.long r), .second, .val (.long i), .second, .val (.long d), .second, .val (.long xq), .second, iv sel, .val (.long dl), .second, iv 3, rv a933, .val (.long r), .second, .val (.long i), .second, .val (.long d), .second, .val (.long (xq + dl)), .second, rv a983, .unset] []))
      refine Way.by (fun _ k => XS.iconst X999.here hx rfl (hb hby at_180) k) ?_
      show Way _ _ _ _ (T998.setTop (mkF m 181 #[.val (.long r), .second, .val (.long i), .second, .val (.long d), .second, .val (.long xq), .second, iv sel, .val (.long dl), .second, iv 3, rv a933, .val (.long r), .second, .val (.long i), .second, .val (.long d), .second, .val (.long (xq + dl)), .second, rv a983, .unset] [(.int 1)]))
      refine Way.by (fun _ k => XS.goto X999.here hx rfl (pc0 := 181) (pc' := 185) rfl (hb hby at_181) (by decide) (by decide) k) ?_
      show Way _ _ _ _ (T998.setTop (mkF m 185 #[.val (.long r), .second, .val (.long i), .second, .val (.long d), .second, .val (.long xq), .second, iv sel, .val (.long dl), .second, iv 3, rv a933, .val (.long r), .second, .val (.long i), .second, .val (.long d), .second, .val (.long (xq + dl)), .second, rv a983, .unset] [(.int 1)]))
      refine Way.by (fun _ k => XS.istore X999.here hx rfl (hb hby at_185) rfl (l' := #[.val (.long r), .second, .val (.long i), .second, .val (.long d), .second, .val (.long xq), .second, iv sel, .val (.long dl), .second, iv 3, rv a933, .val (.long r), .second, .val (.long i), .second, .val (.long d), .second, .val (.long (xq + dl)), .second, rv a983, iv 1]) rfl k) ?_
      show Way _ _ _ _ (T998.setTop (mkF m 187 #[.val (.long r), .second, .val (.long i), .second, .val (.long d), .second, .val (.long xq), .second, iv sel, .val (.long dl), .second, iv 3, rv a933, .val (.long r), .second, .val (.long i), .second, .val (.long d), .second, .val (.long (xq + dl)), .second, rv a983, iv 1] []))
      refine Way.by (fun _ k => XS.aload X999.here hx rfl (hb hby at_187) rfl rfl k) ?_
      show Way _ _ _ _ (T998.setTop (mkF m 189 #[.val (.long r), .second, .val (.long i), .second, .val (.long d), .second, .val (.long xq), .second, iv sel, .val (.long dl), .second, iv 3, rv a933, .val (.long r), .second, .val (.long i), .second, .val (.long d), .second, .val (.long (xq + dl)), .second, rv a983, iv 1] [(.ref a933)]))
      refine Way.by (fun _ k => XS.aload X999.here hx rfl (hb hby at_189) rfl rfl k) ?_
      show Way _ _ _ _ (T998.setTop (mkF m 191 #[.val (.long r), .second, .val (.long i), .second, .val (.long d), .second, .val (.long xq), .second, iv sel, .val (.long dl), .second, iv 3, rv a933, .val (.long r), .second, .val (.long i), .second, .val (.long d), .second, .val (.long (xq + dl)), .second, rv a983, iv 1] [(.ref a983), (.ref a933)]))
      obtain ⟨cq1047, kq1048, qa1049, qb1050, qc1051⟩ := isOf hZ rfl E1021
      obtain ⟨_, _, ⟨T1031, L1033, k1034, n1035⟩, -, X1032, ⟨Lc1036, hQ1037, l1038, y1039, z1040⟩, st1041⟩ := X999.virtualBack hx (y := (⟨"com/example/outbox/outbox/QueueCounts", "equals", "(Ljava/lang/Object;)Z"⟩ : MethodName)) (z := (⟨"com/example/outbox/outbox/QueueCounts", "equals", "(Ljava/lang/Object;)Z"⟩ : MethodName)) hown (mvT hZ (tw hw 17 rfl)) (mvT hZ (tw hw 18 rfl)) (notFace_of_selects (args := #[]) (mvT hZ (tw hw 20 rfl))) (mvT hZ (tw hw 20 rfl)) (mvT hZ (tw hw 19 rfl)) (by decide) (backOf (W := 0) (rmE l Z a0 hw [] a933 a983 r i d xq r i d (xq + dl) (1 : Int32) T998.heap n0 Z1027 F_01016 F1022 F1023 F1024 F1025 F_11017 F_21018 F_31019 F_41020 (by simp [hdl])) hZ (tw hw 21 rfl) (tw hw 2 rfl) (by decide) (by decide)) qa1049 qc1051 (g := (mkF m 191 #[.val (.long r), .second, .val (.long i), .second, .val (.long d), .second, .val (.long xq), .second, iv sel, .val (.long dl), .second, iv 3, rv a933, .val (.long r), .second, .val (.long i), .second, .val (.long d), .second, .val (.long (xq + dl)), .second, rv a983, iv 1] [(.ref a983), (.ref a933)])) rfl (by rw [hml]; rfl) (Steps.refl _) (argsL := [(.ref a983)]) (rest := []) (lenOf pdE rfl) rfl (leW rfl) (hb hby at_191) (fun _ _ => ⟨rfl, rfl, (leB rfl), (leB rfl)⟩)
      dsimp only [Pt.U, Pt.locs, Pt.cells, Pt.slots] at X1032 l1038 y1039 z1040 st1041 hQ1037
      subst l1038 y1039 z1040
      obtain ⟨rfl, N1052, e1043⟩ := hQ1037
      have N1042 := Fr.app N1009 N1052
      refine Way.to st1041 ?_
      show Way _ _ _ _ (T1031.setTop (mkF m 194 #[.val (.long r), .second, .val (.long i), .second, .val (.long d), .second, .val (.long xq), .second, iv sel, .val (.long dl), .second, iv 3, rv a933, .val (.long r), .second, .val (.long i), .second, .val (.long d), .second, .val (.long (xq + dl)), .second, rv a983, iv 1] [(.int 1)]))
      refine Way.by (fun _ k => XS.iload X1032.here hx rfl (hb hby at_194) rfl k) ?_
      show Way _ _ _ _ (T1031.setTop (mkF m 196 #[.val (.long r), .second, .val (.long i), .second, .val (.long d), .second, .val (.long xq), .second, iv sel, .val (.long dl), .second, iv 3, rv a933, .val (.long r), .second, .val (.long i), .second, .val (.long d), .second, .val (.long (xq + dl)), .second, rv a983, iv 1] [(.int 1), (.int 1)]))
      have b1054 : (1 : Int32) = (1 : Int32) := by decide
      refine Way.by (fun _ k => XS.icmpNo X1032.here hx rfl (hb hby at_196) rfl (teq b1054).2 k) ?_
      show Way _ _ _ _ (T1031.setTop (mkF m 199 #[.val (.long r), .second, .val (.long i), .second, .val (.long d), .second, .val (.long xq), .second, iv sel, .val (.long dl), .second, iv 3, rv a933, .val (.long r), .second, .val (.long i), .second, .val (.long d), .second, .val (.long (xq + dl)), .second, rv a983, iv 1] []))
      refine Way.by (fun _ k => XS.aload X1032.here hx rfl (hb hby at_199) rfl rfl k) ?_
      show Way _ _ _ _ (T1031.setTop (mkF m 201 #[.val (.long r), .second, .val (.long i), .second, .val (.long d), .second, .val (.long xq), .second, iv sel, .val (.long dl), .second, iv 3, rv a933, .val (.long r), .second, .val (.long i), .second, .val (.long d), .second, .val (.long (xq + dl)), .second, rv a983, iv 1] [(.ref a983)]))
      refine Way.by (fun _ k => XS.aload X1032.here hx rfl (hb hby at_201) rfl rfl k) ?_
      show Way _ _ _ _ (T1031.setTop (mkF m 203 #[.val (.long r), .second, .val (.long i), .second, .val (.long d), .second, .val (.long xq), .second, iv sel, .val (.long dl), .second, iv 3, rv a933, .val (.long r), .second, .val (.long i), .second, .val (.long d), .second, .val (.long (xq + dl)), .second, rv a983, iv 1] [(.ref a933), (.ref a983)]))
      obtain ⟨cq1071, kq1072, qa1073, qb1074, qc1075⟩ := isOf hZ e1043 F_01016
      obtain ⟨_, _, ⟨T1055, L1057, k1058, n1059⟩, -, X1056, ⟨Lc1060, hQ1061, l1062, y1063, z1064⟩, st1065⟩ := X1032.virtualBack hx (y := (⟨"com/example/outbox/outbox/QueueCounts", "equals", "(Ljava/lang/Object;)Z"⟩ : MethodName)) (z := (⟨"com/example/outbox/outbox/QueueCounts", "equals", "(Ljava/lang/Object;)Z"⟩ : MethodName)) hown (mvT hZ (tw hw 17 rfl)) (mvT hZ (tw hw 18 rfl)) (notFace_of_selects (args := #[]) (mvT hZ (tw hw 20 rfl))) (mvT hZ (tw hw 20 rfl)) (mvT hZ (tw hw 19 rfl)) (by decide) (backOf (W := 0) (rmE l Z a0 hw [] a983 a933 r i d (xq + dl) r i d xq (1 : Int32) T998.heap n0 Z1027 E1021 F_11017 F_21018 F_31019 F_41020 F1022 F1023 F1024 F1025 (by simp [hdl])) hZ (tw hw 21 rfl) (tw hw 2 rfl) (by decide) (by decide)) qa1073 qc1075 (g := (mkF m 203 #[.val (.long r), .second, .val (.long i), .second, .val (.long d), .second, .val (.long xq), .second, iv sel, .val (.long dl), .second, iv 3, rv a933, .val (.long r), .second, .val (.long i), .second, .val (.long d), .second, .val (.long (xq + dl)), .second, rv a983, iv 1] [(.ref a933), (.ref a983)])) rfl (by rw [hml]; rfl) (Steps.refl _) (argsL := [(.ref a933)]) (rest := []) (lenOf pdE rfl) rfl (leW rfl) (hb hby at_203) (fun _ _ => ⟨rfl, e1043, (leB rfl), (leB rfl)⟩)
      dsimp only [Pt.U, Pt.locs, Pt.cells, Pt.slots] at X1056 l1062 y1063 z1064 st1065 hQ1061
      subst l1062 y1063 z1064
      obtain ⟨rfl, N1076, e1067⟩ := hQ1061
      have N1066 := Fr.app N1042 N1076
      refine Way.to st1065 ?_
      show Way _ _ _ _ (T1055.setTop (mkF m 206 #[.val (.long r), .second, .val (.long i), .second, .val (.long d), .second, .val (.long xq), .second, iv sel, .val (.long dl), .second, iv 3, rv a933, .val (.long r), .second, .val (.long i), .second, .val (.long d), .second, .val (.long (xq + dl)), .second, rv a983, iv 1] [(.int 1)]))
      refine Way.by (fun _ k => XS.iload X1056.here hx rfl (hb hby at_206) rfl k) ?_
      show Way _ _ _ _ (T1055.setTop (mkF m 208 #[.val (.long r), .second, .val (.long i), .second, .val (.long d), .second, .val (.long xq), .second, iv sel, .val (.long dl), .second, iv 3, rv a933, .val (.long r), .second, .val (.long i), .second, .val (.long d), .second, .val (.long (xq + dl)), .second, rv a983, iv 1] [(.int 1), (.int 1)]))
      have b1078 : (1 : Int32) = (1 : Int32) := by decide
      refine Way.by (fun _ k => XS.icmpNo X1056.here hx rfl (hb hby at_208) rfl (teq b1078).2 k) ?_
      show Way _ _ _ _ (T1055.setTop (mkF m 211 #[.val (.long r), .second, .val (.long i), .second, .val (.long d), .second, .val (.long xq), .second, iv sel, .val (.long dl), .second, iv 3, rv a933, .val (.long r), .second, .val (.long i), .second, .val (.long d), .second, .val (.long (xq + dl)), .second, rv a983, iv 1] []))
      refine Way.by (fun _ k => XS.iconst X1056.here hx rfl (hb hby at_211) k) ?_
      show Way _ _ _ _ (T1055.setTop (mkF m 212 #[.val (.long r), .second, .val (.long i), .second, .val (.long d), .second, .val (.long xq), .second, iv sel, .val (.long dl), .second, iv 3, rv a933, .val (.long r), .second, .val (.long i), .second, .val (.long d), .second, .val (.long (xq + dl)), .second, rv a983, iv 1] [(.int 1)]))
      refine Way.by (fun _ k => XS.goto X1056.here hx rfl (pc0 := 212) (pc' := 216) rfl (hb hby at_212) (by decide) (by decide) k) ?_
      show Way _ _ _ _ (T1055.setTop (mkF m 216 #[.val (.long r), .second, .val (.long i), .second, .val (.long d), .second, .val (.long xq), .second, iv sel, .val (.long dl), .second, iv 3, rv a933, .val (.long r), .second, .val (.long i), .second, .val (.long d), .second, .val (.long (xq + dl)), .second, rv a983, iv 1] [(.int 1)]))
      refine Way.ret (v := (some (.int (nar .boolean (1 : Int32))))) X1056 hlk (fun h => by rw [Bd.returns] at h; cases h) (fun fs hr => retN X1056 hx (t := .boolean) Bd.returns (by simp) (hb hby at_216) hr) ?_ (by decide) (by decide)
      show Q0 n0 _ T1055.heap _
      rw [e1067]
      exact ⟨rfl, N1066⟩
    · skip
      show Way _ _ _ _ (s₁.setTop (mkF m 7 #[.val (.long r), .second, .val (.long i), .second, .val (.long d), .second, .val (.long xq), .second, iv sel, .val (.long dl), .second, iv 3, .unset, .unset, .unset, .unset, .unset, .unset, .unset, .unset, .unset, .unset, .unset] []))
      obtain ⟨T1079, h1080, X1081, e1082, E1083, A1084, D1085, -, st1086⟩ := newO X0 hx hZ hown (tw hw 0 rfl) (tw hw 1 rfl) (tw hw 2 rfl) e0 (g := (mkF m 7 #[.val (.long r), .second, .val (.long i), .second, .val (.long d), .second, .val (.long xq), .second, iv sel, .val (.long dl), .second, iv 3, .unset, .unset, .unset, .unset, .unset, .unset, .unset, .unset, .unset, .unset, .unset] [])) rfl (hb hby at_7) (by decide) (by decide)
      obtain ⟨a1087, g1088⟩ : ∃ z, z = h0.size := ⟨_, rfl⟩
      rw [← g1088] at A1084 D1085 st1086
      have nw1089 : n0 ≤ a1087 := Nat.le_trans Z0 (Nat.le_of_eq g1088.symm)
      have Z1090 := Nat.le_trans Z0 E1083.1
      have O1091 := O0.ext E1083
      have F1092 : Fld Z h1080 a1087 "com/example/outbox/outbox/QueueCounts" "ready" "J" (.long (0 : Int64)) := D1085 (Or.inr (tw hw 10 rfl)) (ty := .long) (by decide)
      have F1093 : Fld Z h1080 a1087 "com/example/outbox/outbox/QueueCounts" "inflight" "J" (.long (0 : Int64)) := D1085 (Or.inr (tw hw 12 rfl)) (ty := .long) (by decide)
      have F1094 : Fld Z h1080 a1087 "com/example/outbox/outbox/QueueCounts" "delayed" "J" (.long (0 : Int64)) := D1085 (Or.inr (tw hw 14 rfl)) (ty := .long) (by decide)
      have F1095 : Fld Z h1080 a1087 "com/example/outbox/outbox/QueueCounts" "dead" "J" (.long (0 : Int64)) := D1085 (Or.inr (tw hw 16 rfl)) (ty := .long) (by decide)
      refine Way.by st1086 ?_
      show Way _ _ _ _ (T1079.setTop (mkF m 10 #[.val (.long r), .second, .val (.long i), .second, .val (.long d), .second, .val (.long xq), .second, iv sel, .val (.long dl), .second, iv 3, .unset, .unset, .unset, .unset, .unset, .unset, .unset, .unset, .unset, .unset, .unset] [(.ref a1087)]))
      refine Way.by (fun _ k => XS.dup X1081.here hx rfl (hb hby at_10) rfl rfl k) ?_
      show Way _ _ _ _ (T1079.setTop (mkF m 11 #[.val (.long r), .second, .val (.long i), .second, .val (.long d), .second, .val (.long xq), .second, iv sel, .val (.long dl), .second, iv 3, .unset, .unset, .unset, .unset, .unset, .unset, .unset, .unset, .unset, .unset, .unset] [(.ref a1087), (.ref a1087)]))
      refine Way.by (fun _ k => XT.lloadN X1081.here hx rfl (hb hby at_11) rfl k) ?_
      show Way _ _ _ _ (T1079.setTop (mkF m 12 #[.val (.long r), .second, .val (.long i), .second, .val (.long d), .second, .val (.long xq), .second, iv sel, .val (.long dl), .second, iv 3, .unset, .unset, .unset, .unset, .unset, .unset, .unset, .unset, .unset, .unset, .unset] [(.long r), (.ref a1087), (.ref a1087)]))
      refine Way.by (fun _ k => XT.lloadN X1081.here hx rfl (hb hby at_12) rfl k) ?_
      show Way _ _ _ _ (T1079.setTop (mkF m 13 #[.val (.long r), .second, .val (.long i), .second, .val (.long d), .second, .val (.long xq), .second, iv sel, .val (.long dl), .second, iv 3, .unset, .unset, .unset, .unset, .unset, .unset, .unset, .unset, .unset, .unset, .unset] [(.long i), (.long r), (.ref a1087), (.ref a1087)]))
      refine Way.by (fun _ k => XT.lload X1081.here hx rfl (hb hby at_13) rfl k) ?_
      show Way _ _ _ _ (T1079.setTop (mkF m 15 #[.val (.long r), .second, .val (.long i), .second, .val (.long d), .second, .val (.long xq), .second, iv sel, .val (.long dl), .second, iv 3, .unset, .unset, .unset, .unset, .unset, .unset, .unset, .unset, .unset, .unset, .unset] [(.long d), (.long i), (.long r), (.ref a1087), (.ref a1087)]))
      refine Way.by (fun _ k => XT.lload X1081.here hx rfl (hb hby at_15) rfl k) ?_
      show Way _ _ _ _ (T1079.setTop (mkF m 17 #[.val (.long r), .second, .val (.long i), .second, .val (.long d), .second, .val (.long xq), .second, iv sel, .val (.long dl), .second, iv 3, .unset, .unset, .unset, .unset, .unset, .unset, .unset, .unset, .unset, .unset, .unset] [(.long xq), (.long d), (.long i), (.long r), (.ref a1087), (.ref a1087)]))
      obtain ⟨_, _, ⟨T1096, L1098, k1099, n1100⟩, -, X1097, ⟨Lc1101, hQ1102, l1103, y1104, z1105⟩, st1106⟩ := X1081.specialBack hx (y := (⟨"com/example/outbox/outbox/QueueCounts", "<init>", "(JJJJ)V"⟩ : MethodName)) rfl hown (mvT hZ (tw hw 3 rfl)) (mvT hZ (tw hw 4 rfl)) (mvT hZ (tw hw 5 rfl)) (by decide) (backOf (W := 1) (rmC l Z a0 hw [] a1087 r i d xq h1080 n0 Z1090 A1084 F1092 F1093 F1094 F1095 nw1089) hZ (tw hw 5 rfl) (tw hw 2 rfl) (by decide) (by decide)) (g := (mkF m 17 #[.val (.long r), .second, .val (.long i), .second, .val (.long d), .second, .val (.long xq), .second, iv sel, .val (.long dl), .second, iv 3, .unset, .unset, .unset, .unset, .unset, .unset, .unset, .unset, .unset, .unset, .unset] [(.long xq), (.long d), (.long i), (.long r), (.ref a1087), (.ref a1087)])) rfl (by rw [hml]; rfl) (Steps.refl _) (a := a1087) (argsL := [(.long r), (.long i), (.long d), (.long xq)]) (rest := [(.ref a1087)]) (lenOf pdC rfl) rfl (leW rfl) (hb hby at_17) (fun _ _ => ⟨rfl, e1082, (leB rfl), (leB rfl)⟩)
      dsimp only [Pt.U, Pt.locs, Pt.cells, Pt.slots] at X1097 l1103 y1104 z1105 st1106 hQ1102
      subst l1103 y1104 z1105
      obtain ⟨rfl, N1112, K1113, F_01114, F_11115, F_21116, F_31117, F_41118⟩ := hQ1102
      have N1107 := Fr.app N0 N1112
      have E1119 := A1084.keep K1113
      have Z1120 := Nat.le_trans Z1090 K1113.1
      have O1121 := O1091.keep K1113 (allS nw1089 all0)
      refine Way.to st1106 ?_
      show Way _ _ _ _ (T1096.setTop (mkF m 20 #[.val (.long r), .second, .val (.long i), .second, .val (.long d), .second, .val (.long xq), .second, iv sel, .val (.long dl), .second, iv 3, .unset, .unset, .unset, .unset, .unset, .unset, .unset, .unset, .unset, .unset, .unset] [(.ref a1087)]))
      refine Way.by (fun _ k => XS.astore X1097.here hx rfl (hb hby at_20) rfl rfl (l' := #[.val (.long r), .second, .val (.long i), .second, .val (.long d), .second, .val (.long xq), .second, iv sel, .val (.long dl), .second, iv 3, rv a1087, .unset, .unset, .unset, .unset, .unset, .unset, .unset, .unset, .unset, .unset]) rfl k) ?_
      show Way _ _ _ _ (T1096.setTop (mkF m 22 #[.val (.long r), .second, .val (.long i), .second, .val (.long d), .second, .val (.long xq), .second, iv sel, .val (.long dl), .second, iv 3, rv a1087, .unset, .unset, .unset, .unset, .unset, .unset, .unset, .unset, .unset, .unset] []))
      refine Way.by (fun _ k => XS.iload X1097.here hx rfl (hb hby at_22) rfl k) ?_
      show Way _ _ _ _ (T1096.setTop (mkF m 24 #[.val (.long r), .second, .val (.long i), .second, .val (.long d), .second, .val (.long xq), .second, iv sel, .val (.long dl), .second, iv 3, rv a1087, .unset, .unset, .unset, .unset, .unset, .unset, .unset, .unset, .unset, .unset] [(.int 3)]))
      refine Way.by (fun _ k => XS.iconst X1097.here hx rfl (hb hby at_24) k) ?_
      show Way _ _ _ _ (T1096.setTop (mkF m 25 #[.val (.long r), .second, .val (.long i), .second, .val (.long d), .second, .val (.long xq), .second, iv sel, .val (.long dl), .second, iv 3, rv a1087, .unset, .unset, .unset, .unset, .unset, .unset, .unset, .unset, .unset, .unset] [(.int 5), (.int 3)]))
      have b1122 : ¬ (3 : Int32) = (5 : Int32) := by decide
      refine Way.by (fun _ k => XS.icmpYes X1097.here hx rfl (pc0 := 25) (pc' := 43) rfl (hb hby at_25) rfl (feq b1122).2 (by decide) (by decide) k) ?_
      show Way _ _ _ _ (T1096.setTop (mkF m 43 #[.val (.long r), .second, .val (.long i), .second, .val (.long d), .second, .val (.long xq), .second, iv sel, .val (.long dl), .second, iv 3, rv a1087, .unset, .unset, .unset, .unset, .unset, .unset, .unset, .unset, .unset, .unset] []))
      refine Way.by (fun _ k => XS.iload X1097.here hx rfl (hb hby at_43) rfl k) ?_
      show Way _ _ _ _ (T1096.setTop (mkF m 45 #[.val (.long r), .second, .val (.long i), .second, .val (.long d), .second, .val (.long xq), .second, iv sel, .val (.long dl), .second, iv 3, rv a1087, .unset, .unset, .unset, .unset, .unset, .unset, .unset, .unset, .unset, .unset] [(.int 3)]))
      refine Way.by (fun _ k => XS.bipush X1097.here hx rfl (hb hby at_45) k) ?_
      show Way _ _ _ _ (T1096.setTop (mkF m 47 #[.val (.long r), .second, .val (.long i), .second, .val (.long d), .second, .val (.long xq), .second, iv sel, .val (.long dl), .second, iv 3, rv a1087, .unset, .unset, .unset, .unset, .unset, .unset, .unset, .unset, .unset, .unset] [(.int 6), (.int 3)]))
      have b1123 : ¬ (3 : Int32) = (6 : Int32) := by decide
      refine Way.by (fun _ k => XS.icmpYes X1097.here hx rfl (pc0 := 47) (pc' := 68) rfl (hb hby at_47) rfl (feq b1123).2 (by decide) (by decide) k) ?_
      show Way _ _ _ _ (T1096.setTop (mkF m 68 #[.val (.long r), .second, .val (.long i), .second, .val (.long d), .second, .val (.long xq), .second, iv sel, .val (.long dl), .second, iv 3, rv a1087, .unset, .unset, .unset, .unset, .unset, .unset, .unset, .unset, .unset, .unset] []))
      refine Way.by (fun _ k => XS.iload X1097.here hx rfl (hb hby at_68) rfl k) ?_
      show Way _ _ _ _ (T1096.setTop (mkF m 70 #[.val (.long r), .second, .val (.long i), .second, .val (.long d), .second, .val (.long xq), .second, iv sel, .val (.long dl), .second, iv 3, rv a1087, .unset, .unset, .unset, .unset, .unset, .unset, .unset, .unset, .unset, .unset] [(.int 3)]))
      refine Way.by (fun _ k => XS.bipush X1097.here hx rfl (hb hby at_70) k) ?_
      show Way _ _ _ _ (T1096.setTop (mkF m 72 #[.val (.long r), .second, .val (.long i), .second, .val (.long d), .second, .val (.long xq), .second, iv sel, .val (.long dl), .second, iv 3, rv a1087, .unset, .unset, .unset, .unset, .unset, .unset, .unset, .unset, .unset, .unset] [(.int 7), (.int 3)]))
      have b1124 : ¬ (3 : Int32) = (7 : Int32) := by decide
      refine Way.by (fun _ k => XS.icmpYes X1097.here hx rfl (pc0 := 72) (pc' := 83) rfl (hb hby at_72) rfl (feq b1124).2 (by decide) (by decide) k) ?_
      show Way _ _ _ _ (T1096.setTop (mkF m 83 #[.val (.long r), .second, .val (.long i), .second, .val (.long d), .second, .val (.long xq), .second, iv sel, .val (.long dl), .second, iv 3, rv a1087, .unset, .unset, .unset, .unset, .unset, .unset, .unset, .unset, .unset, .unset] []))
      refine Way.by (fun _ k => XS.iload X1097.here hx rfl (hb hby at_83) rfl k) ?_
      show Way _ _ _ _ (T1096.setTop (mkF m 85 #[.val (.long r), .second, .val (.long i), .second, .val (.long d), .second, .val (.long xq), .second, iv sel, .val (.long dl), .second, iv 3, rv a1087, .unset, .unset, .unset, .unset, .unset, .unset, .unset, .unset, .unset, .unset] [(.int 3)]))
      have b1125 : ¬ (3 : Int32) = (0 : Int32) := by decide
      refine Way.by (fun _ k => XS.ifYes X1097.here hx rfl (pc0 := 85) (pc' := 95) rfl (hb hby at_85) rfl ((if0 .ne _).trans (feq b1125).2) (by decide) (by decide) k) ?_
      show Way _ _ _ _ (T1096.setTop (mkF m 95 #[.val (.long r), .second, .val (.long i), .second, .val (.long d), .second, .val (.long xq), .second, iv sel, .val (.long dl), .second, iv 3, rv a1087, .unset, .unset, .unset, .unset, .unset, .unset, .unset, .unset, .unset, .unset] []))
      refine Way.by (fun _ k => XT.lloadN X1097.here hx rfl (hb hby at_95) rfl k) ?_
      show Way _ _ _ _ (T1096.setTop (mkF m 96 #[.val (.long r), .second, .val (.long i), .second, .val (.long d), .second, .val (.long xq), .second, iv sel, .val (.long dl), .second, iv 3, rv a1087, .unset, .unset, .unset, .unset, .unset, .unset, .unset, .unset, .unset, .unset] [(.long r)]))
      refine Way.by (fun _ k => XT.lstore X1097.here hx rfl (hb hby at_96) rfl (l' := #[.val (.long r), .second, .val (.long i), .second, .val (.long d), .second, .val (.long xq), .second, iv sel, .val (.long dl), .second, iv 3, rv a1087, .val (.long r), .second, .unset, .unset, .unset, .unset, .unset, .unset, .unset, .unset]) rfl k) ?_
      show Way _ _ _ _ (T1096.setTop (mkF m 98 #[.val (.long r), .second, .val (.long i), .second, .val (.long d), .second, .val (.long xq), .second, iv sel, .val (.long dl), .second, iv 3, rv a1087, .val (.long r), .second, .unset, .unset, .unset, .unset, .unset, .unset, .unset, .unset] []))
      refine Way.by (fun _ k => XS.iload X1097.here hx rfl (hb hby at_98) rfl k) ?_
      show Way _ _ _ _ (T1096.setTop (mkF m 100 #[.val (.long r), .second, .val (.long i), .second, .val (.long d), .second, .val (.long xq), .second, iv sel, .val (.long dl), .second, iv 3, rv a1087, .val (.long r), .second, .unset, .unset, .unset, .unset, .unset, .unset, .unset, .unset] [(.int 3)]))
      refine Way.by (fun _ k => XS.iconst X1097.here hx rfl (hb hby at_100) k) ?_
      show Way _ _ _ _ (T1096.setTop (mkF m 101 #[.val (.long r), .second, .val (.long i), .second, .val (.long d), .second, .val (.long xq), .second, iv sel, .val (.long dl), .second, iv 3, rv a1087, .val (.long r), .second, .unset, .unset, .unset, .unset, .unset, .unset, .unset, .unset] [(.int 1), (.int 3)]))
      have b1126 : ¬ (3 : Int32) = (1 : Int32) := by decide
      refine Way.by (fun _ k => XS.icmpYes X1097.here hx rfl (pc0 := 101) (pc' := 111) rfl (hb hby at_101) rfl (feq b1126).2 (by decide) (by decide) k) ?_
      show Way _ _ _ _ (T1096.setTop (mkF m 111 #[.val (.long r), .second, .val (.long i), .second, .val (.long d), .second, .val (.long xq), .second, iv sel, .val (.long dl), .second, iv 3, rv a1087, .val (.long r), .second, .unset, .unset, .unset, .unset, .unset, .unset, .unset, .unset] []))
      refine Way.by (fun _ k => XT.lloadN X1097.here hx rfl (hb hby at_111) rfl k) ?_
      show Way _ _ _ _ (T1096.setTop (mkF m 112 #[.val (.long r), .second, .val (.long i), .second, .val (.long d), .second, .val (.long xq), .second, iv sel, .val (.long dl), .second, iv 3, rv a1087, .val (.long r), .second, .unset, .unset, .unset, .unset, .unset, .unset, .unset, .unset] [(.long i)]))
      refine Way.by (fun _ k => XT.lstore X1097.here hx rfl (hb hby at_112) rfl (l' := #[.val (.long r), .second, .val (.long i), .second, .val (.long d), .second, .val (.long xq), .second, iv sel, .val (.long dl), .second, iv 3, rv a1087, .val (.long r), .second, .val (.long i), .second, .unset, .unset, .unset, .unset, .unset, .unset]) rfl k) ?_
      show Way _ _ _ _ (T1096.setTop (mkF m 114 #[.val (.long r), .second, .val (.long i), .second, .val (.long d), .second, .val (.long xq), .second, iv sel, .val (.long dl), .second, iv 3, rv a1087, .val (.long r), .second, .val (.long i), .second, .unset, .unset, .unset, .unset, .unset, .unset] []))
      refine Way.by (fun _ k => XS.iload X1097.here hx rfl (hb hby at_114) rfl k) ?_
      show Way _ _ _ _ (T1096.setTop (mkF m 116 #[.val (.long r), .second, .val (.long i), .second, .val (.long d), .second, .val (.long xq), .second, iv sel, .val (.long dl), .second, iv 3, rv a1087, .val (.long r), .second, .val (.long i), .second, .unset, .unset, .unset, .unset, .unset, .unset] [(.int 3)]))
      refine Way.by (fun _ k => XS.iconst X1097.here hx rfl (hb hby at_116) k) ?_
      show Way _ _ _ _ (T1096.setTop (mkF m 117 #[.val (.long r), .second, .val (.long i), .second, .val (.long d), .second, .val (.long xq), .second, iv sel, .val (.long dl), .second, iv 3, rv a1087, .val (.long r), .second, .val (.long i), .second, .unset, .unset, .unset, .unset, .unset, .unset] [(.int 2), (.int 3)]))
      have b1127 : ¬ (3 : Int32) = (2 : Int32) := by decide
      refine Way.by (fun _ k => XS.icmpYes X1097.here hx rfl (pc0 := 117) (pc' := 128) rfl (hb hby at_117) rfl (feq b1127).2 (by decide) (by decide) k) ?_
      show Way _ _ _ _ (T1096.setTop (mkF m 128 #[.val (.long r), .second, .val (.long i), .second, .val (.long d), .second, .val (.long xq), .second, iv sel, .val (.long dl), .second, iv 3, rv a1087, .val (.long r), .second, .val (.long i), .second, .unset, .unset, .unset, .unset, .unset, .unset] []))
      refine Way.by (fun _ k => XT.lload X1097.here hx rfl (hb hby at_128) rfl k) ?_
      show Way _ _ _ _ (T1096.setTop (mkF m 130 #[.val (.long r), .second, .val (.long i), .second, .val (.long d), .second, .val (.long xq), .second, iv sel, .val (.long dl), .second, iv 3, rv a1087, .val (.long r), .second, .val (.long i), .second, .unset, .unset, .unset, .unset, .unset, .unset] [(.long d)]))
      refine Way.by (fun _ k => XT.lstore X1097.here hx rfl (hb hby at_130) rfl (l' := #[.val (.long r), .second, .val (.long i), .second, .val (.long d), .second, .val (.long xq), .second, iv sel, .val (.long dl), .second, iv 3, rv a1087, .val (.long r), .second, .val (.long i), .second, .val (.long d), .second, .unset, .unset, .unset, .unset]) rfl k) ?_
      show Way _ _ _ _ (T1096.setTop (mkF m 132 #[.val (.long r), .second, .val (.long i), .second, .val (.long d), .second, .val (.long xq), .second, iv sel, .val (.long dl), .second, iv 3, rv a1087, .val (.long r), .second, .val (.long i), .second, .val (.long d), .second, .unset, .unset, .unset, .unset] []))
      refine Way.by (fun _ k => XS.iload X1097.here hx rfl (hb hby at_132) rfl k) ?_
      show Way _ _ _ _ (T1096.setTop (mkF m 134 #[.val (.long r), .second, .val (.long i), .second, .val (.long d), .second, .val (.long xq), .second, iv sel, .val (.long dl), .second, iv 3, rv a1087, .val (.long r), .second, .val (.long i), .second, .val (.long d), .second, .unset, .unset, .unset, .unset] [(.int 3)]))
      refine Way.by (fun _ k => XS.iconst X1097.here hx rfl (hb hby at_134) k) ?_
      show Way _ _ _ _ (T1096.setTop (mkF m 135 #[.val (.long r), .second, .val (.long i), .second, .val (.long d), .second, .val (.long xq), .second, iv sel, .val (.long dl), .second, iv 3, rv a1087, .val (.long r), .second, .val (.long i), .second, .val (.long d), .second, .unset, .unset, .unset, .unset] [(.int 3), (.int 3)]))
      have b1128 : (3 : Int32) = (3 : Int32) := by decide
      refine Way.by (fun _ k => XS.icmpNo X1097.here hx rfl (hb hby at_135) rfl (teq b1128).2 k) ?_
      show Way _ _ _ _ (T1096.setTop (mkF m 138 #[.val (.long r), .second, .val (.long i), .second, .val (.long d), .second, .val (.long xq), .second, iv sel, .val (.long dl), .second, iv 3, rv a1087, .val (.long r), .second, .val (.long i), .second, .val (.long d), .second, .unset, .unset, .unset, .unset] []))
      refine Way.by (fun _ k => XT.lload X1097.here hx rfl (hb hby at_138) rfl k) ?_
      show Way _ _ _ _ (T1096.setTop (mkF m 140 #[.val (.long r), .second, .val (.long i), .second, .val (.long d), .second, .val (.long xq), .second, iv sel, .val (.long dl), .second, iv 3, rv a1087, .val (.long r), .second, .val (.long i), .second, .val (.long d), .second, .unset, .unset, .unset, .unset] [(.long xq)]))
      refine Way.by (fun _ k => XT.lload X1097.here hx rfl (hb hby at_140) rfl k) ?_
      show Way _ _ _ _ (T1096.setTop (mkF m 142 #[.val (.long r), .second, .val (.long i), .second, .val (.long d), .second, .val (.long xq), .second, iv sel, .val (.long dl), .second, iv 3, rv a1087, .val (.long r), .second, .val (.long i), .second, .val (.long d), .second, .unset, .unset, .unset, .unset] [(.long dl), (.long xq)]))
      refine Way.by (fun _ k => XT.ladd X1097.here hx rfl (hb hby at_142) rfl k) ?_
      show Way _ _ _ _ (T1096.setTop (mkF m 143 #[.val (.long r), .second, .val (.long i), .second, .val (.long d), .second, .val (.long xq), .second, iv sel, .val (.long dl), .second, iv 3, rv a1087, .val (.long r), .second, .val (.long i), .second, .val (.long d), .second, .unset, .unset, .unset, .unset] [(.long (xq + dl))]))
      refine Way.by (fun _ k => XS.goto X1097.here hx rfl (pc0 := 143) (pc' := 148) rfl (hb hby at_143) (by decide) (by decide) k) ?_
      show Way _ _ _ _ (T1096.setTop (mkF m 148 #[.val (.long r), .second, .val (.long i), .second, .val (.long d), .second, .val (.long xq), .second, iv sel, .val (.long dl), .second, iv 3, rv a1087, .val (.long r), .second, .val (.long i), .second, .val (.long d), .second, .unset, .unset, .unset, .unset] [(.long (xq + dl))]))
      refine Way.by (fun _ k => XT.lstore X1097.here hx rfl (hb hby at_148) rfl (l' := #[.val (.long r), .second, .val (.long i), .second, .val (.long d), .second, .val (.long xq), .second, iv sel, .val (.long dl), .second, iv 3, rv a1087, .val (.long r), .second, .val (.long i), .second, .val (.long d), .second, .val (.long (xq + dl)), .second, .unset, .unset]) rfl k) ?_
      show Way _ _ _ _ (T1096.setTop (mkF m 150 #[.val (.long r), .second, .val (.long i), .second, .val (.long d), .second, .val (.long xq), .second, iv sel, .val (.long dl), .second, iv 3, rv a1087, .val (.long r), .second, .val (.long i), .second, .val (.long d), .second, .val (.long (xq + dl)), .second, .unset, .unset] []))
      obtain ⟨T1129, h1130, X1131, e1132, E1133, A1134, D1135, -, st1136⟩ := newO X1097 hx hZ hown (tw hw 0 rfl) (tw hw 1 rfl) (tw hw 2 rfl) rfl (g := (mkF m 150 #[.val (.long r), .second, .val (.long i), .second, .val (.long d), .second, .val (.long xq), .second, iv sel, .val (.long dl), .second, iv 3, rv a1087, .val (.long r), .second, .val (.long i), .second, .val (.long d), .second, .val (.long (xq + dl)), .second, .unset, .unset] [])) rfl (hb hby at_150) (by decide) (by decide)
      obtain ⟨a1137, g1138⟩ : ∃ z, z = T1096.heap.size := ⟨_, rfl⟩
      rw [← g1138] at A1134 D1135 st1136
      have ne1139 : a1087 ≠ a1137 := Nat.ne_of_lt (Nat.lt_of_lt_of_eq F_01114.lt g1138.symm)
      have nw1140 : n0 ≤ a1137 := Nat.le_trans Z1120 (Nat.le_of_eq g1138.symm)
      have E1141 := Exa.ext E1133 F_01114
      have F1142 := Fld.ext E1133 F_11115
      have F1143 := Fld.ext E1133 F_21116
      have F1144 := Fld.ext E1133 F_31117
      have F1145 := Fld.ext E1133 F_41118
      have Z1146 := Nat.le_trans Z1120 E1133.1
      have O1147 := O1121.ext E1133
      have F1148 : Fld Z h1130 a1137 "com/example/outbox/outbox/QueueCounts" "ready" "J" (.long (0 : Int64)) := D1135 (Or.inr (tw hw 10 rfl)) (ty := .long) (by decide)
      have F1149 : Fld Z h1130 a1137 "com/example/outbox/outbox/QueueCounts" "inflight" "J" (.long (0 : Int64)) := D1135 (Or.inr (tw hw 12 rfl)) (ty := .long) (by decide)
      have F1150 : Fld Z h1130 a1137 "com/example/outbox/outbox/QueueCounts" "delayed" "J" (.long (0 : Int64)) := D1135 (Or.inr (tw hw 14 rfl)) (ty := .long) (by decide)
      have F1151 : Fld Z h1130 a1137 "com/example/outbox/outbox/QueueCounts" "dead" "J" (.long (0 : Int64)) := D1135 (Or.inr (tw hw 16 rfl)) (ty := .long) (by decide)
      refine Way.by st1136 ?_
      show Way _ _ _ _ (T1129.setTop (mkF m 153 #[.val (.long r), .second, .val (.long i), .second, .val (.long d), .second, .val (.long xq), .second, iv sel, .val (.long dl), .second, iv 3, rv a1087, .val (.long r), .second, .val (.long i), .second, .val (.long d), .second, .val (.long (xq + dl)), .second, .unset, .unset] [(.ref a1137)]))
      refine Way.by (fun _ k => XS.dup X1131.here hx rfl (hb hby at_153) rfl rfl k) ?_
      show Way _ _ _ _ (T1129.setTop (mkF m 154 #[.val (.long r), .second, .val (.long i), .second, .val (.long d), .second, .val (.long xq), .second, iv sel, .val (.long dl), .second, iv 3, rv a1087, .val (.long r), .second, .val (.long i), .second, .val (.long d), .second, .val (.long (xq + dl)), .second, .unset, .unset] [(.ref a1137), (.ref a1137)]))
      refine Way.by (fun _ k => XT.lload X1131.here hx rfl (hb hby at_154) rfl k) ?_
      show Way _ _ _ _ (T1129.setTop (mkF m 156 #[.val (.long r), .second, .val (.long i), .second, .val (.long d), .second, .val (.long xq), .second, iv sel, .val (.long dl), .second, iv 3, rv a1087, .val (.long r), .second, .val (.long i), .second, .val (.long d), .second, .val (.long (xq + dl)), .second, .unset, .unset] [(.long r), (.ref a1137), (.ref a1137)]))
      refine Way.by (fun _ k => XT.lload X1131.here hx rfl (hb hby at_156) rfl k) ?_
      show Way _ _ _ _ (T1129.setTop (mkF m 158 #[.val (.long r), .second, .val (.long i), .second, .val (.long d), .second, .val (.long xq), .second, iv sel, .val (.long dl), .second, iv 3, rv a1087, .val (.long r), .second, .val (.long i), .second, .val (.long d), .second, .val (.long (xq + dl)), .second, .unset, .unset] [(.long i), (.long r), (.ref a1137), (.ref a1137)]))
      refine Way.by (fun _ k => XT.lload X1131.here hx rfl (hb hby at_158) rfl k) ?_
      show Way _ _ _ _ (T1129.setTop (mkF m 160 #[.val (.long r), .second, .val (.long i), .second, .val (.long d), .second, .val (.long xq), .second, iv sel, .val (.long dl), .second, iv 3, rv a1087, .val (.long r), .second, .val (.long i), .second, .val (.long d), .second, .val (.long (xq + dl)), .second, .unset, .unset] [(.long d), (.long i), (.long r), (.ref a1137), (.ref a1137)]))
      refine Way.by (fun _ k => XT.lload X1131.here hx rfl (hb hby at_160) rfl k) ?_
      show Way _ _ _ _ (T1129.setTop (mkF m 162 #[.val (.long r), .second, .val (.long i), .second, .val (.long d), .second, .val (.long xq), .second, iv sel, .val (.long dl), .second, iv 3, rv a1087, .val (.long r), .second, .val (.long i), .second, .val (.long d), .second, .val (.long (xq + dl)), .second, .unset, .unset] [(.long (xq + dl)), (.long d), (.long i), (.long r), (.ref a1137), (.ref a1137)]))
      obtain ⟨_, _, ⟨T1152, L1154, k1155, n1156⟩, -, X1153, ⟨Lc1157, hQ1158, l1159, y1160, z1161⟩, st1162⟩ := X1131.specialBack hx (y := (⟨"com/example/outbox/outbox/QueueCounts", "<init>", "(JJJJ)V"⟩ : MethodName)) rfl hown (mvT hZ (tw hw 3 rfl)) (mvT hZ (tw hw 4 rfl)) (mvT hZ (tw hw 5 rfl)) (by decide) (backOf (W := 1) (rmC l Z a0 hw [] a1137 r i d (xq + dl) h1130 n0 Z1146 A1134 F1148 F1149 F1150 F1151 nw1140) hZ (tw hw 5 rfl) (tw hw 2 rfl) (by decide) (by decide)) (g := (mkF m 162 #[.val (.long r), .second, .val (.long i), .second, .val (.long d), .second, .val (.long xq), .second, iv sel, .val (.long dl), .second, iv 3, rv a1087, .val (.long r), .second, .val (.long i), .second, .val (.long d), .second, .val (.long (xq + dl)), .second, .unset, .unset] [(.long (xq + dl)), (.long d), (.long i), (.long r), (.ref a1137), (.ref a1137)])) rfl (by rw [hml]; rfl) (Steps.refl _) (a := a1137) (argsL := [(.long r), (.long i), (.long d), (.long (xq + dl))]) (rest := [(.ref a1137)]) (lenOf pdC rfl) rfl (leW rfl) (hb hby at_162) (fun _ _ => ⟨rfl, e1132, (leB rfl), (leB rfl)⟩)
      dsimp only [Pt.U, Pt.locs, Pt.cells, Pt.slots] at X1153 l1159 y1160 z1161 st1162 hQ1158
      subst l1159 y1160 z1161
      obtain ⟨rfl, N1168, K1169, F_01170, F_11171, F_21172, F_31173, F_41174⟩ := hQ1158
      have N1163 := Fr.app N1107 N1168
      have E1175 := E1141.keep K1169
      have F1176 := F1142.keep K1169 (ninS ne1139 nin0)
      have F1177 := F1143.keep K1169 (ninS ne1139 nin0)
      have F1178 := F1144.keep K1169 (ninS ne1139 nin0)
      have F1179 := F1145.keep K1169 (ninS ne1139 nin0)
      have E1180 := A1134.keep K1169
      have Z1181 := Nat.le_trans Z1146 K1169.1
      have O1182 := O1147.keep K1169 (allS nw1140 all0)
      refine Way.to st1162 ?_
      show Way _ _ _ _ (T1152.setTop (mkF m 165 #[.val (.long r), .second, .val (.long i), .second, .val (.long d), .second, .val (.long xq), .second, iv sel, .val (.long dl), .second, iv 3, rv a1087, .val (.long r), .second, .val (.long i), .second, .val (.long d), .second, .val (.long (xq + dl)), .second, .unset, .unset] [(.ref a1137)]))
      refine Way.by (fun _ k => XS.astore X1153.here hx rfl (hb hby at_165) rfl rfl (l' := #[.val (.long r), .second, .val (.long i), .second, .val (.long d), .second, .val (.long xq), .second, iv sel, .val (.long dl), .second, iv 3, rv a1087, .val (.long r), .second, .val (.long i), .second, .val (.long d), .second, .val (.long (xq + dl)), .second, rv a1137, .unset]) rfl k) ?_
      show Way _ _ _ _ (T1152.setTop (mkF m 167 #[.val (.long r), .second, .val (.long i), .second, .val (.long d), .second, .val (.long xq), .second, iv sel, .val (.long dl), .second, iv 3, rv a1087, .val (.long r), .second, .val (.long i), .second, .val (.long d), .second, .val (.long (xq + dl)), .second, rv a1137, .unset] []))
      refine Way.by (fun _ k => XS.iload X1153.here hx rfl (hb hby at_167) rfl k) ?_
      show Way _ _ _ _ (T1152.setTop (mkF m 169 #[.val (.long r), .second, .val (.long i), .second, .val (.long d), .second, .val (.long xq), .second, iv sel, .val (.long dl), .second, iv 3, rv a1087, .val (.long r), .second, .val (.long i), .second, .val (.long d), .second, .val (.long (xq + dl)), .second, rv a1137, .unset] [(.int 3)]))
      refine Way.by (fun _ k => XS.iconst X1153.here hx rfl (hb hby at_169) k) ?_
      show Way _ _ _ _ (T1152.setTop (mkF m 170 #[.val (.long r), .second, .val (.long i), .second, .val (.long d), .second, .val (.long xq), .second, iv sel, .val (.long dl), .second, iv 3, rv a1087, .val (.long r), .second, .val (.long i), .second, .val (.long d), .second, .val (.long (xq + dl)), .second, rv a1137, .unset] [(.int 4), (.int 3)]))
      have b1183 : ¬ (3 : Int32) = (4 : Int32) := by decide
      refine Way.by (fun _ k => XS.icmpNo X1153.here hx rfl (hb hby at_170) rfl (feq b1183).1 k) ?_
      show Way _ _ _ _ (T1152.setTop (mkF m 173 #[.val (.long r), .second, .val (.long i), .second, .val (.long d), .second, .val (.long xq), .second, iv sel, .val (.long dl), .second, iv 3, rv a1087, .val (.long r), .second, .val (.long i), .second, .val (.long d), .second, .val (.long (xq + dl)), .second, rv a1137, .unset] []))
      refine Way.by (fun _ k => XT.lload X1153.here hx rfl (hb hby at_173) rfl k) ?_
      show Way _ _ _ _ (T1152.setTop (mkF m 175 #[.val (.long r), .second, .val (.long i), .second, .val (.long d), .second, .val (.long xq), .second, iv sel, .val (.long dl), .second, iv 3, rv a1087, .val (.long r), .second, .val (.long i), .second, .val (.long d), .second, .val (.long (xq + dl)), .second, rv a1137, .unset] [(.long dl)]))
      refine Way.by (fun _ k => XT.lconst X1153.here hx rfl (hb hby at_175) k) ?_
      show Way _ _ _ _ (T1152.setTop (mkF m 176 #[.val (.long r), .second, .val (.long i), .second, .val (.long d), .second, .val (.long xq), .second, iv sel, .val (.long dl), .second, iv 3, rv a1087, .val (.long r), .second, .val (.long i), .second, .val (.long d), .second, .val (.long (xq + dl)), .second, rv a1137, .unset] [(.long (0 : Int64)), (.long dl)]))
      refine Way.by (fun _ k => XT.lcmp X1153.here hx rfl (hb hby at_176) rfl k) ?_
      show Way _ _ _ _ (T1152.setTop (mkF m 177 #[.val (.long r), .second, .val (.long i), .second, .val (.long d), .second, .val (.long xq), .second, iv sel, .val (.long dl), .second, iv 3, rv a1087, .val (.long r), .second, .val (.long i), .second, .val (.long d), .second, .val (.long (xq + dl)), .second, rv a1137, .unset] [(.int (XT.cmpL dl (0 : Int64)))]))
      have b1184 : ¬ (XT.cmpL dl (0 : Int64)) = (0 : Int32) := fun q => hdl ((cmpL0 _ _).mp q)
      refine Way.by (fun _ k => XS.ifYes X1153.here hx rfl (pc0 := 177) (pc' := 184) rfl (hb hby at_177) rfl ((if0 .ne _).trans (feq b1184).2) (by decide) (by decide) k) ?_
      show Way _ _ _ _ (T1152.setTop (mkF m 184 #[.val (.long r), .second, .val (.long i), .second, .val (.long d), .second, .val (.long xq), .second, iv sel, .val (.long dl), .second, iv 3, rv a1087, .val (.long r), .second, .val (.long i), .second, .val (.long d), .second, .val (.long (xq + dl)), .second, rv a1137, .unset] []))
      refine Way.by (fun _ k => XS.iconst X1153.here hx rfl (hb hby at_184) k) ?_
      show Way _ _ _ _ (T1152.setTop (mkF m 185 #[.val (.long r), .second, .val (.long i), .second, .val (.long d), .second, .val (.long xq), .second, iv sel, .val (.long dl), .second, iv 3, rv a1087, .val (.long r), .second, .val (.long i), .second, .val (.long d), .second, .val (.long (xq + dl)), .second, rv a1137, .unset] [(.int 0)]))
      refine Way.by (fun _ k => XS.istore X1153.here hx rfl (hb hby at_185) rfl (l' := #[.val (.long r), .second, .val (.long i), .second, .val (.long d), .second, .val (.long xq), .second, iv sel, .val (.long dl), .second, iv 3, rv a1087, .val (.long r), .second, .val (.long i), .second, .val (.long d), .second, .val (.long (xq + dl)), .second, rv a1137, iv 0]) rfl k) ?_
      show Way _ _ _ _ (T1152.setTop (mkF m 187 #[.val (.long r), .second, .val (.long i), .second, .val (.long d), .second, .val (.long xq), .second, iv sel, .val (.long dl), .second, iv 3, rv a1087, .val (.long r), .second, .val (.long i), .second, .val (.long d), .second, .val (.long (xq + dl)), .second, rv a1137, iv 0] []))
      refine Way.by (fun _ k => XS.aload X1153.here hx rfl (hb hby at_187) rfl rfl k) ?_
      show Way _ _ _ _ (T1152.setTop (mkF m 189 #[.val (.long r), .second, .val (.long i), .second, .val (.long d), .second, .val (.long xq), .second, iv sel, .val (.long dl), .second, iv 3, rv a1087, .val (.long r), .second, .val (.long i), .second, .val (.long d), .second, .val (.long (xq + dl)), .second, rv a1137, iv 0] [(.ref a1087)]))
      refine Way.by (fun _ k => XS.aload X1153.here hx rfl (hb hby at_189) rfl rfl k) ?_
      show Way _ _ _ _ (T1152.setTop (mkF m 191 #[.val (.long r), .second, .val (.long i), .second, .val (.long d), .second, .val (.long xq), .second, iv sel, .val (.long dl), .second, iv 3, rv a1087, .val (.long r), .second, .val (.long i), .second, .val (.long d), .second, .val (.long (xq + dl)), .second, rv a1137, iv 0] [(.ref a1137), (.ref a1087)]))
      obtain ⟨cq1201, kq1202, qa1203, qb1204, qc1205⟩ := isOf hZ rfl E1175
      obtain ⟨_, _, ⟨T1185, L1187, k1188, n1189⟩, -, X1186, ⟨Lc1190, hQ1191, l1192, y1193, z1194⟩, st1195⟩ := X1153.virtualBack hx (y := (⟨"com/example/outbox/outbox/QueueCounts", "equals", "(Ljava/lang/Object;)Z"⟩ : MethodName)) (z := (⟨"com/example/outbox/outbox/QueueCounts", "equals", "(Ljava/lang/Object;)Z"⟩ : MethodName)) hown (mvT hZ (tw hw 17 rfl)) (mvT hZ (tw hw 18 rfl)) (notFace_of_selects (args := #[]) (mvT hZ (tw hw 20 rfl))) (mvT hZ (tw hw 20 rfl)) (mvT hZ (tw hw 19 rfl)) (by decide) (backOf (W := 0) (rmE l Z a0 hw [] a1087 a1137 r i d xq r i d (xq + dl) (0 : Int32) T1152.heap n0 Z1181 F_01170 F1176 F1177 F1178 F1179 F_11171 F_21172 F_31173 F_41174 (by simp [addNe, addNe2, hdl])) hZ (tw hw 21 rfl) (tw hw 2 rfl) (by decide) (by decide)) qa1203 qc1205 (g := (mkF m 191 #[.val (.long r), .second, .val (.long i), .second, .val (.long d), .second, .val (.long xq), .second, iv sel, .val (.long dl), .second, iv 3, rv a1087, .val (.long r), .second, .val (.long i), .second, .val (.long d), .second, .val (.long (xq + dl)), .second, rv a1137, iv 0] [(.ref a1137), (.ref a1087)])) rfl (by rw [hml]; rfl) (Steps.refl _) (argsL := [(.ref a1137)]) (rest := []) (lenOf pdE rfl) rfl (leW rfl) (hb hby at_191) (fun _ _ => ⟨rfl, rfl, (leB rfl), (leB rfl)⟩)
      dsimp only [Pt.U, Pt.locs, Pt.cells, Pt.slots] at X1186 l1192 y1193 z1194 st1195 hQ1191
      subst l1192 y1193 z1194
      obtain ⟨rfl, N1206, e1197⟩ := hQ1191
      have N1196 := Fr.app N1163 N1206
      refine Way.to st1195 ?_
      show Way _ _ _ _ (T1185.setTop (mkF m 194 #[.val (.long r), .second, .val (.long i), .second, .val (.long d), .second, .val (.long xq), .second, iv sel, .val (.long dl), .second, iv 3, rv a1087, .val (.long r), .second, .val (.long i), .second, .val (.long d), .second, .val (.long (xq + dl)), .second, rv a1137, iv 0] [(.int 0)]))
      refine Way.by (fun _ k => XS.iload X1186.here hx rfl (hb hby at_194) rfl k) ?_
      show Way _ _ _ _ (T1185.setTop (mkF m 196 #[.val (.long r), .second, .val (.long i), .second, .val (.long d), .second, .val (.long xq), .second, iv sel, .val (.long dl), .second, iv 3, rv a1087, .val (.long r), .second, .val (.long i), .second, .val (.long d), .second, .val (.long (xq + dl)), .second, rv a1137, iv 0] [(.int 0), (.int 0)]))
      have b1208 : (0 : Int32) = (0 : Int32) := by decide
      refine Way.by (fun _ k => XS.icmpNo X1186.here hx rfl (hb hby at_196) rfl (teq b1208).2 k) ?_
      show Way _ _ _ _ (T1185.setTop (mkF m 199 #[.val (.long r), .second, .val (.long i), .second, .val (.long d), .second, .val (.long xq), .second, iv sel, .val (.long dl), .second, iv 3, rv a1087, .val (.long r), .second, .val (.long i), .second, .val (.long d), .second, .val (.long (xq + dl)), .second, rv a1137, iv 0] []))
      refine Way.by (fun _ k => XS.aload X1186.here hx rfl (hb hby at_199) rfl rfl k) ?_
      show Way _ _ _ _ (T1185.setTop (mkF m 201 #[.val (.long r), .second, .val (.long i), .second, .val (.long d), .second, .val (.long xq), .second, iv sel, .val (.long dl), .second, iv 3, rv a1087, .val (.long r), .second, .val (.long i), .second, .val (.long d), .second, .val (.long (xq + dl)), .second, rv a1137, iv 0] [(.ref a1137)]))
      refine Way.by (fun _ k => XS.aload X1186.here hx rfl (hb hby at_201) rfl rfl k) ?_
      show Way _ _ _ _ (T1185.setTop (mkF m 203 #[.val (.long r), .second, .val (.long i), .second, .val (.long d), .second, .val (.long xq), .second, iv sel, .val (.long dl), .second, iv 3, rv a1087, .val (.long r), .second, .val (.long i), .second, .val (.long d), .second, .val (.long (xq + dl)), .second, rv a1137, iv 0] [(.ref a1087), (.ref a1137)]))
      obtain ⟨cq1225, kq1226, qa1227, qb1228, qc1229⟩ := isOf hZ e1197 F_01170
      obtain ⟨_, _, ⟨T1209, L1211, k1212, n1213⟩, -, X1210, ⟨Lc1214, hQ1215, l1216, y1217, z1218⟩, st1219⟩ := X1186.virtualBack hx (y := (⟨"com/example/outbox/outbox/QueueCounts", "equals", "(Ljava/lang/Object;)Z"⟩ : MethodName)) (z := (⟨"com/example/outbox/outbox/QueueCounts", "equals", "(Ljava/lang/Object;)Z"⟩ : MethodName)) hown (mvT hZ (tw hw 17 rfl)) (mvT hZ (tw hw 18 rfl)) (notFace_of_selects (args := #[]) (mvT hZ (tw hw 20 rfl))) (mvT hZ (tw hw 20 rfl)) (mvT hZ (tw hw 19 rfl)) (by decide) (backOf (W := 0) (rmE l Z a0 hw [] a1137 a1087 r i d (xq + dl) r i d xq (0 : Int32) T1152.heap n0 Z1181 E1175 F_11171 F_21172 F_31173 F_41174 F1176 F1177 F1178 F1179 (by simp [addNe, addNe2, hdl])) hZ (tw hw 21 rfl) (tw hw 2 rfl) (by decide) (by decide)) qa1227 qc1229 (g := (mkF m 203 #[.val (.long r), .second, .val (.long i), .second, .val (.long d), .second, .val (.long xq), .second, iv sel, .val (.long dl), .second, iv 3, rv a1087, .val (.long r), .second, .val (.long i), .second, .val (.long d), .second, .val (.long (xq + dl)), .second, rv a1137, iv 0] [(.ref a1087), (.ref a1137)])) rfl (by rw [hml]; rfl) (Steps.refl _) (argsL := [(.ref a1087)]) (rest := []) (lenOf pdE rfl) rfl (leW rfl) (hb hby at_203) (fun _ _ => ⟨rfl, e1197, (leB rfl), (leB rfl)⟩)
      dsimp only [Pt.U, Pt.locs, Pt.cells, Pt.slots] at X1210 l1216 y1217 z1218 st1219 hQ1215
      subst l1216 y1217 z1218
      obtain ⟨rfl, N1230, e1221⟩ := hQ1215
      have N1220 := Fr.app N1196 N1230
      refine Way.to st1219 ?_
      show Way _ _ _ _ (T1209.setTop (mkF m 206 #[.val (.long r), .second, .val (.long i), .second, .val (.long d), .second, .val (.long xq), .second, iv sel, .val (.long dl), .second, iv 3, rv a1087, .val (.long r), .second, .val (.long i), .second, .val (.long d), .second, .val (.long (xq + dl)), .second, rv a1137, iv 0] [(.int 0)]))
      refine Way.by (fun _ k => XS.iload X1210.here hx rfl (hb hby at_206) rfl k) ?_
      show Way _ _ _ _ (T1209.setTop (mkF m 208 #[.val (.long r), .second, .val (.long i), .second, .val (.long d), .second, .val (.long xq), .second, iv sel, .val (.long dl), .second, iv 3, rv a1087, .val (.long r), .second, .val (.long i), .second, .val (.long d), .second, .val (.long (xq + dl)), .second, rv a1137, iv 0] [(.int 0), (.int 0)]))
      have b1232 : (0 : Int32) = (0 : Int32) := by decide
      refine Way.by (fun _ k => XS.icmpNo X1210.here hx rfl (hb hby at_208) rfl (teq b1232).2 k) ?_
      show Way _ _ _ _ (T1209.setTop (mkF m 211 #[.val (.long r), .second, .val (.long i), .second, .val (.long d), .second, .val (.long xq), .second, iv sel, .val (.long dl), .second, iv 3, rv a1087, .val (.long r), .second, .val (.long i), .second, .val (.long d), .second, .val (.long (xq + dl)), .second, rv a1137, iv 0] []))
      refine Way.by (fun _ k => XS.iconst X1210.here hx rfl (hb hby at_211) k) ?_
      show Way _ _ _ _ (T1209.setTop (mkF m 212 #[.val (.long r), .second, .val (.long i), .second, .val (.long d), .second, .val (.long xq), .second, iv sel, .val (.long dl), .second, iv 3, rv a1087, .val (.long r), .second, .val (.long i), .second, .val (.long d), .second, .val (.long (xq + dl)), .second, rv a1137, iv 0] [(.int 1)]))
      refine Way.by (fun _ k => XS.goto X1210.here hx rfl (pc0 := 212) (pc' := 216) rfl (hb hby at_212) (by decide) (by decide) k) ?_
      show Way _ _ _ _ (T1209.setTop (mkF m 216 #[.val (.long r), .second, .val (.long i), .second, .val (.long d), .second, .val (.long xq), .second, iv sel, .val (.long dl), .second, iv 3, rv a1087, .val (.long r), .second, .val (.long i), .second, .val (.long d), .second, .val (.long (xq + dl)), .second, rv a1137, iv 0] [(.int 1)]))
      refine Way.ret (v := (some (.int (nar .boolean (1 : Int32))))) X1210 hlk (fun h => by rw [Bd.returns] at h; cases h) (fun fs hr => retN X1210 hx (t := .boolean) Bd.returns (by simp) (hb hby at_216) hr) ?_ (by decide) (by decide)
      show Q0 n0 _ T1209.heap _
      rw [e1221]
      exact ⟨rfl, N1220⟩
  · skip
    show Way _ _ _ _ (s₁.setTop (mkF m 7 #[.val (.long r), .second, .val (.long i), .second, .val (.long d), .second, .val (.long xq), .second, iv sel, .val (.long dl), .second, iv 4, .unset, .unset, .unset, .unset, .unset, .unset, .unset, .unset, .unset, .unset, .unset] []))
    obtain ⟨T1233, h1234, X1235, e1236, E1237, A1238, D1239, -, st1240⟩ := newO X0 hx hZ hown (tw hw 0 rfl) (tw hw 1 rfl) (tw hw 2 rfl) e0 (g := (mkF m 7 #[.val (.long r), .second, .val (.long i), .second, .val (.long d), .second, .val (.long xq), .second, iv sel, .val (.long dl), .second, iv 4, .unset, .unset, .unset, .unset, .unset, .unset, .unset, .unset, .unset, .unset, .unset] [])) rfl (hb hby at_7) (by decide) (by decide)
    obtain ⟨a1241, g1242⟩ : ∃ z, z = h0.size := ⟨_, rfl⟩
    rw [← g1242] at A1238 D1239 st1240
    have nw1243 : n0 ≤ a1241 := Nat.le_trans Z0 (Nat.le_of_eq g1242.symm)
    have Z1244 := Nat.le_trans Z0 E1237.1
    have O1245 := O0.ext E1237
    have F1246 : Fld Z h1234 a1241 "com/example/outbox/outbox/QueueCounts" "ready" "J" (.long (0 : Int64)) := D1239 (Or.inr (tw hw 10 rfl)) (ty := .long) (by decide)
    have F1247 : Fld Z h1234 a1241 "com/example/outbox/outbox/QueueCounts" "inflight" "J" (.long (0 : Int64)) := D1239 (Or.inr (tw hw 12 rfl)) (ty := .long) (by decide)
    have F1248 : Fld Z h1234 a1241 "com/example/outbox/outbox/QueueCounts" "delayed" "J" (.long (0 : Int64)) := D1239 (Or.inr (tw hw 14 rfl)) (ty := .long) (by decide)
    have F1249 : Fld Z h1234 a1241 "com/example/outbox/outbox/QueueCounts" "dead" "J" (.long (0 : Int64)) := D1239 (Or.inr (tw hw 16 rfl)) (ty := .long) (by decide)
    refine Way.by st1240 ?_
    show Way _ _ _ _ (T1233.setTop (mkF m 10 #[.val (.long r), .second, .val (.long i), .second, .val (.long d), .second, .val (.long xq), .second, iv sel, .val (.long dl), .second, iv 4, .unset, .unset, .unset, .unset, .unset, .unset, .unset, .unset, .unset, .unset, .unset] [(.ref a1241)]))
    refine Way.by (fun _ k => XS.dup X1235.here hx rfl (hb hby at_10) rfl rfl k) ?_
    show Way _ _ _ _ (T1233.setTop (mkF m 11 #[.val (.long r), .second, .val (.long i), .second, .val (.long d), .second, .val (.long xq), .second, iv sel, .val (.long dl), .second, iv 4, .unset, .unset, .unset, .unset, .unset, .unset, .unset, .unset, .unset, .unset, .unset] [(.ref a1241), (.ref a1241)]))
    refine Way.by (fun _ k => XT.lloadN X1235.here hx rfl (hb hby at_11) rfl k) ?_
    show Way _ _ _ _ (T1233.setTop (mkF m 12 #[.val (.long r), .second, .val (.long i), .second, .val (.long d), .second, .val (.long xq), .second, iv sel, .val (.long dl), .second, iv 4, .unset, .unset, .unset, .unset, .unset, .unset, .unset, .unset, .unset, .unset, .unset] [(.long r), (.ref a1241), (.ref a1241)]))
    refine Way.by (fun _ k => XT.lloadN X1235.here hx rfl (hb hby at_12) rfl k) ?_
    show Way _ _ _ _ (T1233.setTop (mkF m 13 #[.val (.long r), .second, .val (.long i), .second, .val (.long d), .second, .val (.long xq), .second, iv sel, .val (.long dl), .second, iv 4, .unset, .unset, .unset, .unset, .unset, .unset, .unset, .unset, .unset, .unset, .unset] [(.long i), (.long r), (.ref a1241), (.ref a1241)]))
    refine Way.by (fun _ k => XT.lload X1235.here hx rfl (hb hby at_13) rfl k) ?_
    show Way _ _ _ _ (T1233.setTop (mkF m 15 #[.val (.long r), .second, .val (.long i), .second, .val (.long d), .second, .val (.long xq), .second, iv sel, .val (.long dl), .second, iv 4, .unset, .unset, .unset, .unset, .unset, .unset, .unset, .unset, .unset, .unset, .unset] [(.long d), (.long i), (.long r), (.ref a1241), (.ref a1241)]))
    refine Way.by (fun _ k => XT.lload X1235.here hx rfl (hb hby at_15) rfl k) ?_
    show Way _ _ _ _ (T1233.setTop (mkF m 17 #[.val (.long r), .second, .val (.long i), .second, .val (.long d), .second, .val (.long xq), .second, iv sel, .val (.long dl), .second, iv 4, .unset, .unset, .unset, .unset, .unset, .unset, .unset, .unset, .unset, .unset, .unset] [(.long xq), (.long d), (.long i), (.long r), (.ref a1241), (.ref a1241)]))
    obtain ⟨_, _, ⟨T1250, L1252, k1253, n1254⟩, -, X1251, ⟨Lc1255, hQ1256, l1257, y1258, z1259⟩, st1260⟩ := X1235.specialBack hx (y := (⟨"com/example/outbox/outbox/QueueCounts", "<init>", "(JJJJ)V"⟩ : MethodName)) rfl hown (mvT hZ (tw hw 3 rfl)) (mvT hZ (tw hw 4 rfl)) (mvT hZ (tw hw 5 rfl)) (by decide) (backOf (W := 1) (rmC l Z a0 hw [] a1241 r i d xq h1234 n0 Z1244 A1238 F1246 F1247 F1248 F1249 nw1243) hZ (tw hw 5 rfl) (tw hw 2 rfl) (by decide) (by decide)) (g := (mkF m 17 #[.val (.long r), .second, .val (.long i), .second, .val (.long d), .second, .val (.long xq), .second, iv sel, .val (.long dl), .second, iv 4, .unset, .unset, .unset, .unset, .unset, .unset, .unset, .unset, .unset, .unset, .unset] [(.long xq), (.long d), (.long i), (.long r), (.ref a1241), (.ref a1241)])) rfl (by rw [hml]; rfl) (Steps.refl _) (a := a1241) (argsL := [(.long r), (.long i), (.long d), (.long xq)]) (rest := [(.ref a1241)]) (lenOf pdC rfl) rfl (leW rfl) (hb hby at_17) (fun _ _ => ⟨rfl, e1236, (leB rfl), (leB rfl)⟩)
    dsimp only [Pt.U, Pt.locs, Pt.cells, Pt.slots] at X1251 l1257 y1258 z1259 st1260 hQ1256
    subst l1257 y1258 z1259
    obtain ⟨rfl, N1266, K1267, F_01268, F_11269, F_21270, F_31271, F_41272⟩ := hQ1256
    have N1261 := Fr.app N0 N1266
    have E1273 := A1238.keep K1267
    have Z1274 := Nat.le_trans Z1244 K1267.1
    have O1275 := O1245.keep K1267 (allS nw1243 all0)
    refine Way.to st1260 ?_
    show Way _ _ _ _ (T1250.setTop (mkF m 20 #[.val (.long r), .second, .val (.long i), .second, .val (.long d), .second, .val (.long xq), .second, iv sel, .val (.long dl), .second, iv 4, .unset, .unset, .unset, .unset, .unset, .unset, .unset, .unset, .unset, .unset, .unset] [(.ref a1241)]))
    refine Way.by (fun _ k => XS.astore X1251.here hx rfl (hb hby at_20) rfl rfl (l' := #[.val (.long r), .second, .val (.long i), .second, .val (.long d), .second, .val (.long xq), .second, iv sel, .val (.long dl), .second, iv 4, rv a1241, .unset, .unset, .unset, .unset, .unset, .unset, .unset, .unset, .unset, .unset]) rfl k) ?_
    show Way _ _ _ _ (T1250.setTop (mkF m 22 #[.val (.long r), .second, .val (.long i), .second, .val (.long d), .second, .val (.long xq), .second, iv sel, .val (.long dl), .second, iv 4, rv a1241, .unset, .unset, .unset, .unset, .unset, .unset, .unset, .unset, .unset, .unset] []))
    refine Way.by (fun _ k => XS.iload X1251.here hx rfl (hb hby at_22) rfl k) ?_
    show Way _ _ _ _ (T1250.setTop (mkF m 24 #[.val (.long r), .second, .val (.long i), .second, .val (.long d), .second, .val (.long xq), .second, iv sel, .val (.long dl), .second, iv 4, rv a1241, .unset, .unset, .unset, .unset, .unset, .unset, .unset, .unset, .unset, .unset] [(.int 4)]))
    refine Way.by (fun _ k => XS.iconst X1251.here hx rfl (hb hby at_24) k) ?_
    show Way _ _ _ _ (T1250.setTop (mkF m 25 #[.val (.long r), .second, .val (.long i), .second, .val (.long d), .second, .val (.long xq), .second, iv sel, .val (.long dl), .second, iv 4, rv a1241, .unset, .unset, .unset, .unset, .unset, .unset, .unset, .unset, .unset, .unset] [(.int 5), (.int 4)]))
    have b1276 : ¬ (4 : Int32) = (5 : Int32) := by decide
    refine Way.by (fun _ k => XS.icmpYes X1251.here hx rfl (pc0 := 25) (pc' := 43) rfl (hb hby at_25) rfl (feq b1276).2 (by decide) (by decide) k) ?_
    show Way _ _ _ _ (T1250.setTop (mkF m 43 #[.val (.long r), .second, .val (.long i), .second, .val (.long d), .second, .val (.long xq), .second, iv sel, .val (.long dl), .second, iv 4, rv a1241, .unset, .unset, .unset, .unset, .unset, .unset, .unset, .unset, .unset, .unset] []))
    refine Way.by (fun _ k => XS.iload X1251.here hx rfl (hb hby at_43) rfl k) ?_
    show Way _ _ _ _ (T1250.setTop (mkF m 45 #[.val (.long r), .second, .val (.long i), .second, .val (.long d), .second, .val (.long xq), .second, iv sel, .val (.long dl), .second, iv 4, rv a1241, .unset, .unset, .unset, .unset, .unset, .unset, .unset, .unset, .unset, .unset] [(.int 4)]))
    refine Way.by (fun _ k => XS.bipush X1251.here hx rfl (hb hby at_45) k) ?_
    show Way _ _ _ _ (T1250.setTop (mkF m 47 #[.val (.long r), .second, .val (.long i), .second, .val (.long d), .second, .val (.long xq), .second, iv sel, .val (.long dl), .second, iv 4, rv a1241, .unset, .unset, .unset, .unset, .unset, .unset, .unset, .unset, .unset, .unset] [(.int 6), (.int 4)]))
    have b1277 : ¬ (4 : Int32) = (6 : Int32) := by decide
    refine Way.by (fun _ k => XS.icmpYes X1251.here hx rfl (pc0 := 47) (pc' := 68) rfl (hb hby at_47) rfl (feq b1277).2 (by decide) (by decide) k) ?_
    show Way _ _ _ _ (T1250.setTop (mkF m 68 #[.val (.long r), .second, .val (.long i), .second, .val (.long d), .second, .val (.long xq), .second, iv sel, .val (.long dl), .second, iv 4, rv a1241, .unset, .unset, .unset, .unset, .unset, .unset, .unset, .unset, .unset, .unset] []))
    refine Way.by (fun _ k => XS.iload X1251.here hx rfl (hb hby at_68) rfl k) ?_
    show Way _ _ _ _ (T1250.setTop (mkF m 70 #[.val (.long r), .second, .val (.long i), .second, .val (.long d), .second, .val (.long xq), .second, iv sel, .val (.long dl), .second, iv 4, rv a1241, .unset, .unset, .unset, .unset, .unset, .unset, .unset, .unset, .unset, .unset] [(.int 4)]))
    refine Way.by (fun _ k => XS.bipush X1251.here hx rfl (hb hby at_70) k) ?_
    show Way _ _ _ _ (T1250.setTop (mkF m 72 #[.val (.long r), .second, .val (.long i), .second, .val (.long d), .second, .val (.long xq), .second, iv sel, .val (.long dl), .second, iv 4, rv a1241, .unset, .unset, .unset, .unset, .unset, .unset, .unset, .unset, .unset, .unset] [(.int 7), (.int 4)]))
    have b1278 : ¬ (4 : Int32) = (7 : Int32) := by decide
    refine Way.by (fun _ k => XS.icmpYes X1251.here hx rfl (pc0 := 72) (pc' := 83) rfl (hb hby at_72) rfl (feq b1278).2 (by decide) (by decide) k) ?_
    show Way _ _ _ _ (T1250.setTop (mkF m 83 #[.val (.long r), .second, .val (.long i), .second, .val (.long d), .second, .val (.long xq), .second, iv sel, .val (.long dl), .second, iv 4, rv a1241, .unset, .unset, .unset, .unset, .unset, .unset, .unset, .unset, .unset, .unset] []))
    refine Way.by (fun _ k => XS.iload X1251.here hx rfl (hb hby at_83) rfl k) ?_
    show Way _ _ _ _ (T1250.setTop (mkF m 85 #[.val (.long r), .second, .val (.long i), .second, .val (.long d), .second, .val (.long xq), .second, iv sel, .val (.long dl), .second, iv 4, rv a1241, .unset, .unset, .unset, .unset, .unset, .unset, .unset, .unset, .unset, .unset] [(.int 4)]))
    have b1279 : ¬ (4 : Int32) = (0 : Int32) := by decide
    refine Way.by (fun _ k => XS.ifYes X1251.here hx rfl (pc0 := 85) (pc' := 95) rfl (hb hby at_85) rfl ((if0 .ne _).trans (feq b1279).2) (by decide) (by decide) k) ?_
    show Way _ _ _ _ (T1250.setTop (mkF m 95 #[.val (.long r), .second, .val (.long i), .second, .val (.long d), .second, .val (.long xq), .second, iv sel, .val (.long dl), .second, iv 4, rv a1241, .unset, .unset, .unset, .unset, .unset, .unset, .unset, .unset, .unset, .unset] []))
    refine Way.by (fun _ k => XT.lloadN X1251.here hx rfl (hb hby at_95) rfl k) ?_
    show Way _ _ _ _ (T1250.setTop (mkF m 96 #[.val (.long r), .second, .val (.long i), .second, .val (.long d), .second, .val (.long xq), .second, iv sel, .val (.long dl), .second, iv 4, rv a1241, .unset, .unset, .unset, .unset, .unset, .unset, .unset, .unset, .unset, .unset] [(.long r)]))
    refine Way.by (fun _ k => XT.lstore X1251.here hx rfl (hb hby at_96) rfl (l' := #[.val (.long r), .second, .val (.long i), .second, .val (.long d), .second, .val (.long xq), .second, iv sel, .val (.long dl), .second, iv 4, rv a1241, .val (.long r), .second, .unset, .unset, .unset, .unset, .unset, .unset, .unset, .unset]) rfl k) ?_
    show Way _ _ _ _ (T1250.setTop (mkF m 98 #[.val (.long r), .second, .val (.long i), .second, .val (.long d), .second, .val (.long xq), .second, iv sel, .val (.long dl), .second, iv 4, rv a1241, .val (.long r), .second, .unset, .unset, .unset, .unset, .unset, .unset, .unset, .unset] []))
    refine Way.by (fun _ k => XS.iload X1251.here hx rfl (hb hby at_98) rfl k) ?_
    show Way _ _ _ _ (T1250.setTop (mkF m 100 #[.val (.long r), .second, .val (.long i), .second, .val (.long d), .second, .val (.long xq), .second, iv sel, .val (.long dl), .second, iv 4, rv a1241, .val (.long r), .second, .unset, .unset, .unset, .unset, .unset, .unset, .unset, .unset] [(.int 4)]))
    refine Way.by (fun _ k => XS.iconst X1251.here hx rfl (hb hby at_100) k) ?_
    show Way _ _ _ _ (T1250.setTop (mkF m 101 #[.val (.long r), .second, .val (.long i), .second, .val (.long d), .second, .val (.long xq), .second, iv sel, .val (.long dl), .second, iv 4, rv a1241, .val (.long r), .second, .unset, .unset, .unset, .unset, .unset, .unset, .unset, .unset] [(.int 1), (.int 4)]))
    have b1280 : ¬ (4 : Int32) = (1 : Int32) := by decide
    refine Way.by (fun _ k => XS.icmpYes X1251.here hx rfl (pc0 := 101) (pc' := 111) rfl (hb hby at_101) rfl (feq b1280).2 (by decide) (by decide) k) ?_
    show Way _ _ _ _ (T1250.setTop (mkF m 111 #[.val (.long r), .second, .val (.long i), .second, .val (.long d), .second, .val (.long xq), .second, iv sel, .val (.long dl), .second, iv 4, rv a1241, .val (.long r), .second, .unset, .unset, .unset, .unset, .unset, .unset, .unset, .unset] []))
    refine Way.by (fun _ k => XT.lloadN X1251.here hx rfl (hb hby at_111) rfl k) ?_
    show Way _ _ _ _ (T1250.setTop (mkF m 112 #[.val (.long r), .second, .val (.long i), .second, .val (.long d), .second, .val (.long xq), .second, iv sel, .val (.long dl), .second, iv 4, rv a1241, .val (.long r), .second, .unset, .unset, .unset, .unset, .unset, .unset, .unset, .unset] [(.long i)]))
    refine Way.by (fun _ k => XT.lstore X1251.here hx rfl (hb hby at_112) rfl (l' := #[.val (.long r), .second, .val (.long i), .second, .val (.long d), .second, .val (.long xq), .second, iv sel, .val (.long dl), .second, iv 4, rv a1241, .val (.long r), .second, .val (.long i), .second, .unset, .unset, .unset, .unset, .unset, .unset]) rfl k) ?_
    show Way _ _ _ _ (T1250.setTop (mkF m 114 #[.val (.long r), .second, .val (.long i), .second, .val (.long d), .second, .val (.long xq), .second, iv sel, .val (.long dl), .second, iv 4, rv a1241, .val (.long r), .second, .val (.long i), .second, .unset, .unset, .unset, .unset, .unset, .unset] []))
    refine Way.by (fun _ k => XS.iload X1251.here hx rfl (hb hby at_114) rfl k) ?_
    show Way _ _ _ _ (T1250.setTop (mkF m 116 #[.val (.long r), .second, .val (.long i), .second, .val (.long d), .second, .val (.long xq), .second, iv sel, .val (.long dl), .second, iv 4, rv a1241, .val (.long r), .second, .val (.long i), .second, .unset, .unset, .unset, .unset, .unset, .unset] [(.int 4)]))
    refine Way.by (fun _ k => XS.iconst X1251.here hx rfl (hb hby at_116) k) ?_
    show Way _ _ _ _ (T1250.setTop (mkF m 117 #[.val (.long r), .second, .val (.long i), .second, .val (.long d), .second, .val (.long xq), .second, iv sel, .val (.long dl), .second, iv 4, rv a1241, .val (.long r), .second, .val (.long i), .second, .unset, .unset, .unset, .unset, .unset, .unset] [(.int 2), (.int 4)]))
    have b1281 : ¬ (4 : Int32) = (2 : Int32) := by decide
    refine Way.by (fun _ k => XS.icmpYes X1251.here hx rfl (pc0 := 117) (pc' := 128) rfl (hb hby at_117) rfl (feq b1281).2 (by decide) (by decide) k) ?_
    show Way _ _ _ _ (T1250.setTop (mkF m 128 #[.val (.long r), .second, .val (.long i), .second, .val (.long d), .second, .val (.long xq), .second, iv sel, .val (.long dl), .second, iv 4, rv a1241, .val (.long r), .second, .val (.long i), .second, .unset, .unset, .unset, .unset, .unset, .unset] []))
    refine Way.by (fun _ k => XT.lload X1251.here hx rfl (hb hby at_128) rfl k) ?_
    show Way _ _ _ _ (T1250.setTop (mkF m 130 #[.val (.long r), .second, .val (.long i), .second, .val (.long d), .second, .val (.long xq), .second, iv sel, .val (.long dl), .second, iv 4, rv a1241, .val (.long r), .second, .val (.long i), .second, .unset, .unset, .unset, .unset, .unset, .unset] [(.long d)]))
    refine Way.by (fun _ k => XT.lstore X1251.here hx rfl (hb hby at_130) rfl (l' := #[.val (.long r), .second, .val (.long i), .second, .val (.long d), .second, .val (.long xq), .second, iv sel, .val (.long dl), .second, iv 4, rv a1241, .val (.long r), .second, .val (.long i), .second, .val (.long d), .second, .unset, .unset, .unset, .unset]) rfl k) ?_
    show Way _ _ _ _ (T1250.setTop (mkF m 132 #[.val (.long r), .second, .val (.long i), .second, .val (.long d), .second, .val (.long xq), .second, iv sel, .val (.long dl), .second, iv 4, rv a1241, .val (.long r), .second, .val (.long i), .second, .val (.long d), .second, .unset, .unset, .unset, .unset] []))
    refine Way.by (fun _ k => XS.iload X1251.here hx rfl (hb hby at_132) rfl k) ?_
    show Way _ _ _ _ (T1250.setTop (mkF m 134 #[.val (.long r), .second, .val (.long i), .second, .val (.long d), .second, .val (.long xq), .second, iv sel, .val (.long dl), .second, iv 4, rv a1241, .val (.long r), .second, .val (.long i), .second, .val (.long d), .second, .unset, .unset, .unset, .unset] [(.int 4)]))
    refine Way.by (fun _ k => XS.iconst X1251.here hx rfl (hb hby at_134) k) ?_
    show Way _ _ _ _ (T1250.setTop (mkF m 135 #[.val (.long r), .second, .val (.long i), .second, .val (.long d), .second, .val (.long xq), .second, iv sel, .val (.long dl), .second, iv 4, rv a1241, .val (.long r), .second, .val (.long i), .second, .val (.long d), .second, .unset, .unset, .unset, .unset] [(.int 3), (.int 4)]))
    have b1282 : ¬ (4 : Int32) = (3 : Int32) := by decide
    refine Way.by (fun _ k => XS.icmpYes X1251.here hx rfl (pc0 := 135) (pc' := 146) rfl (hb hby at_135) rfl (feq b1282).2 (by decide) (by decide) k) ?_
    show Way _ _ _ _ (T1250.setTop (mkF m 146 #[.val (.long r), .second, .val (.long i), .second, .val (.long d), .second, .val (.long xq), .second, iv sel, .val (.long dl), .second, iv 4, rv a1241, .val (.long r), .second, .val (.long i), .second, .val (.long d), .second, .unset, .unset, .unset, .unset] []))
    refine Way.by (fun _ k => XT.lload X1251.here hx rfl (hb hby at_146) rfl k) ?_
    show Way _ _ _ _ (T1250.setTop (mkF m 148 #[.val (.long r), .second, .val (.long i), .second, .val (.long d), .second, .val (.long xq), .second, iv sel, .val (.long dl), .second, iv 4, rv a1241, .val (.long r), .second, .val (.long i), .second, .val (.long d), .second, .unset, .unset, .unset, .unset] [(.long xq)]))
    refine Way.by (fun _ k => XT.lstore X1251.here hx rfl (hb hby at_148) rfl (l' := #[.val (.long r), .second, .val (.long i), .second, .val (.long d), .second, .val (.long xq), .second, iv sel, .val (.long dl), .second, iv 4, rv a1241, .val (.long r), .second, .val (.long i), .second, .val (.long d), .second, .val (.long xq), .second, .unset, .unset]) rfl k) ?_
    show Way _ _ _ _ (T1250.setTop (mkF m 150 #[.val (.long r), .second, .val (.long i), .second, .val (.long d), .second, .val (.long xq), .second, iv sel, .val (.long dl), .second, iv 4, rv a1241, .val (.long r), .second, .val (.long i), .second, .val (.long d), .second, .val (.long xq), .second, .unset, .unset] []))
    obtain ⟨T1283, h1284, X1285, e1286, E1287, A1288, D1289, -, st1290⟩ := newO X1251 hx hZ hown (tw hw 0 rfl) (tw hw 1 rfl) (tw hw 2 rfl) rfl (g := (mkF m 150 #[.val (.long r), .second, .val (.long i), .second, .val (.long d), .second, .val (.long xq), .second, iv sel, .val (.long dl), .second, iv 4, rv a1241, .val (.long r), .second, .val (.long i), .second, .val (.long d), .second, .val (.long xq), .second, .unset, .unset] [])) rfl (hb hby at_150) (by decide) (by decide)
    obtain ⟨a1291, g1292⟩ : ∃ z, z = T1250.heap.size := ⟨_, rfl⟩
    rw [← g1292] at A1288 D1289 st1290
    have ne1293 : a1241 ≠ a1291 := Nat.ne_of_lt (Nat.lt_of_lt_of_eq F_01268.lt g1292.symm)
    have nw1294 : n0 ≤ a1291 := Nat.le_trans Z1274 (Nat.le_of_eq g1292.symm)
    have E1295 := Exa.ext E1287 F_01268
    have F1296 := Fld.ext E1287 F_11269
    have F1297 := Fld.ext E1287 F_21270
    have F1298 := Fld.ext E1287 F_31271
    have F1299 := Fld.ext E1287 F_41272
    have Z1300 := Nat.le_trans Z1274 E1287.1
    have O1301 := O1275.ext E1287
    have F1302 : Fld Z h1284 a1291 "com/example/outbox/outbox/QueueCounts" "ready" "J" (.long (0 : Int64)) := D1289 (Or.inr (tw hw 10 rfl)) (ty := .long) (by decide)
    have F1303 : Fld Z h1284 a1291 "com/example/outbox/outbox/QueueCounts" "inflight" "J" (.long (0 : Int64)) := D1289 (Or.inr (tw hw 12 rfl)) (ty := .long) (by decide)
    have F1304 : Fld Z h1284 a1291 "com/example/outbox/outbox/QueueCounts" "delayed" "J" (.long (0 : Int64)) := D1289 (Or.inr (tw hw 14 rfl)) (ty := .long) (by decide)
    have F1305 : Fld Z h1284 a1291 "com/example/outbox/outbox/QueueCounts" "dead" "J" (.long (0 : Int64)) := D1289 (Or.inr (tw hw 16 rfl)) (ty := .long) (by decide)
    refine Way.by st1290 ?_
    show Way _ _ _ _ (T1283.setTop (mkF m 153 #[.val (.long r), .second, .val (.long i), .second, .val (.long d), .second, .val (.long xq), .second, iv sel, .val (.long dl), .second, iv 4, rv a1241, .val (.long r), .second, .val (.long i), .second, .val (.long d), .second, .val (.long xq), .second, .unset, .unset] [(.ref a1291)]))
    refine Way.by (fun _ k => XS.dup X1285.here hx rfl (hb hby at_153) rfl rfl k) ?_
    show Way _ _ _ _ (T1283.setTop (mkF m 154 #[.val (.long r), .second, .val (.long i), .second, .val (.long d), .second, .val (.long xq), .second, iv sel, .val (.long dl), .second, iv 4, rv a1241, .val (.long r), .second, .val (.long i), .second, .val (.long d), .second, .val (.long xq), .second, .unset, .unset] [(.ref a1291), (.ref a1291)]))
    refine Way.by (fun _ k => XT.lload X1285.here hx rfl (hb hby at_154) rfl k) ?_
    show Way _ _ _ _ (T1283.setTop (mkF m 156 #[.val (.long r), .second, .val (.long i), .second, .val (.long d), .second, .val (.long xq), .second, iv sel, .val (.long dl), .second, iv 4, rv a1241, .val (.long r), .second, .val (.long i), .second, .val (.long d), .second, .val (.long xq), .second, .unset, .unset] [(.long r), (.ref a1291), (.ref a1291)]))
    refine Way.by (fun _ k => XT.lload X1285.here hx rfl (hb hby at_156) rfl k) ?_
    show Way _ _ _ _ (T1283.setTop (mkF m 158 #[.val (.long r), .second, .val (.long i), .second, .val (.long d), .second, .val (.long xq), .second, iv sel, .val (.long dl), .second, iv 4, rv a1241, .val (.long r), .second, .val (.long i), .second, .val (.long d), .second, .val (.long xq), .second, .unset, .unset] [(.long i), (.long r), (.ref a1291), (.ref a1291)]))
    refine Way.by (fun _ k => XT.lload X1285.here hx rfl (hb hby at_158) rfl k) ?_
    show Way _ _ _ _ (T1283.setTop (mkF m 160 #[.val (.long r), .second, .val (.long i), .second, .val (.long d), .second, .val (.long xq), .second, iv sel, .val (.long dl), .second, iv 4, rv a1241, .val (.long r), .second, .val (.long i), .second, .val (.long d), .second, .val (.long xq), .second, .unset, .unset] [(.long d), (.long i), (.long r), (.ref a1291), (.ref a1291)]))
    refine Way.by (fun _ k => XT.lload X1285.here hx rfl (hb hby at_160) rfl k) ?_
    show Way _ _ _ _ (T1283.setTop (mkF m 162 #[.val (.long r), .second, .val (.long i), .second, .val (.long d), .second, .val (.long xq), .second, iv sel, .val (.long dl), .second, iv 4, rv a1241, .val (.long r), .second, .val (.long i), .second, .val (.long d), .second, .val (.long xq), .second, .unset, .unset] [(.long xq), (.long d), (.long i), (.long r), (.ref a1291), (.ref a1291)]))
    obtain ⟨_, _, ⟨T1306, L1308, k1309, n1310⟩, -, X1307, ⟨Lc1311, hQ1312, l1313, y1314, z1315⟩, st1316⟩ := X1285.specialBack hx (y := (⟨"com/example/outbox/outbox/QueueCounts", "<init>", "(JJJJ)V"⟩ : MethodName)) rfl hown (mvT hZ (tw hw 3 rfl)) (mvT hZ (tw hw 4 rfl)) (mvT hZ (tw hw 5 rfl)) (by decide) (backOf (W := 1) (rmC l Z a0 hw [] a1291 r i d xq h1284 n0 Z1300 A1288 F1302 F1303 F1304 F1305 nw1294) hZ (tw hw 5 rfl) (tw hw 2 rfl) (by decide) (by decide)) (g := (mkF m 162 #[.val (.long r), .second, .val (.long i), .second, .val (.long d), .second, .val (.long xq), .second, iv sel, .val (.long dl), .second, iv 4, rv a1241, .val (.long r), .second, .val (.long i), .second, .val (.long d), .second, .val (.long xq), .second, .unset, .unset] [(.long xq), (.long d), (.long i), (.long r), (.ref a1291), (.ref a1291)])) rfl (by rw [hml]; rfl) (Steps.refl _) (a := a1291) (argsL := [(.long r), (.long i), (.long d), (.long xq)]) (rest := [(.ref a1291)]) (lenOf pdC rfl) rfl (leW rfl) (hb hby at_162) (fun _ _ => ⟨rfl, e1286, (leB rfl), (leB rfl)⟩)
    dsimp only [Pt.U, Pt.locs, Pt.cells, Pt.slots] at X1307 l1313 y1314 z1315 st1316 hQ1312
    subst l1313 y1314 z1315
    obtain ⟨rfl, N1322, K1323, F_01324, F_11325, F_21326, F_31327, F_41328⟩ := hQ1312
    have N1317 := Fr.app N1261 N1322
    have E1329 := E1295.keep K1323
    have F1330 := F1296.keep K1323 (ninS ne1293 nin0)
    have F1331 := F1297.keep K1323 (ninS ne1293 nin0)
    have F1332 := F1298.keep K1323 (ninS ne1293 nin0)
    have F1333 := F1299.keep K1323 (ninS ne1293 nin0)
    have E1334 := A1288.keep K1323
    have Z1335 := Nat.le_trans Z1300 K1323.1
    have O1336 := O1301.keep K1323 (allS nw1294 all0)
    refine Way.to st1316 ?_
    show Way _ _ _ _ (T1306.setTop (mkF m 165 #[.val (.long r), .second, .val (.long i), .second, .val (.long d), .second, .val (.long xq), .second, iv sel, .val (.long dl), .second, iv 4, rv a1241, .val (.long r), .second, .val (.long i), .second, .val (.long d), .second, .val (.long xq), .second, .unset, .unset] [(.ref a1291)]))
    refine Way.by (fun _ k => XS.astore X1307.here hx rfl (hb hby at_165) rfl rfl (l' := #[.val (.long r), .second, .val (.long i), .second, .val (.long d), .second, .val (.long xq), .second, iv sel, .val (.long dl), .second, iv 4, rv a1241, .val (.long r), .second, .val (.long i), .second, .val (.long d), .second, .val (.long xq), .second, rv a1291, .unset]) rfl k) ?_
    show Way _ _ _ _ (T1306.setTop (mkF m 167 #[.val (.long r), .second, .val (.long i), .second, .val (.long d), .second, .val (.long xq), .second, iv sel, .val (.long dl), .second, iv 4, rv a1241, .val (.long r), .second, .val (.long i), .second, .val (.long d), .second, .val (.long xq), .second, rv a1291, .unset] []))
    refine Way.by (fun _ k => XS.iload X1307.here hx rfl (hb hby at_167) rfl k) ?_
    show Way _ _ _ _ (T1306.setTop (mkF m 169 #[.val (.long r), .second, .val (.long i), .second, .val (.long d), .second, .val (.long xq), .second, iv sel, .val (.long dl), .second, iv 4, rv a1241, .val (.long r), .second, .val (.long i), .second, .val (.long d), .second, .val (.long xq), .second, rv a1291, .unset] [(.int 4)]))
    refine Way.by (fun _ k => XS.iconst X1307.here hx rfl (hb hby at_169) k) ?_
    show Way _ _ _ _ (T1306.setTop (mkF m 170 #[.val (.long r), .second, .val (.long i), .second, .val (.long d), .second, .val (.long xq), .second, iv sel, .val (.long dl), .second, iv 4, rv a1241, .val (.long r), .second, .val (.long i), .second, .val (.long d), .second, .val (.long xq), .second, rv a1291, .unset] [(.int 4), (.int 4)]))
    have b1337 : (4 : Int32) = (4 : Int32) := by decide
    refine Way.by (fun _ k => XS.icmpYes X1307.here hx rfl (pc0 := 170) (pc' := 180) rfl (hb hby at_170) rfl (teq b1337).1 (by decide) (by decide) k) ?_
    show Way _ _ _ _ (T1306.setTop (mkF m 180 #[.val (.long r), .second, .val (.long i), .second, .val (.long d), .second, .val (.long xq), .second, iv sel, .val (.long dl), .second, iv 4, rv a1241, .val (.long r), .second, .val (.long i), .second, .val (.long d), .second, .val (.long xq), .second, rv a1291, .unset] []))
    refine Way.by (fun _ k => XS.iconst X1307.here hx rfl (hb hby at_180) k) ?_
    show Way _ _ _ _ (T1306.setTop (mkF m 181 #[.val (.long r), .second, .val (.long i), .second, .val (.long d), .second, .val (.long xq), .second, iv sel, .val (.long dl), .second, iv 4, rv a1241, .val (.long r), .second, .val (.long i), .second, .val (.long d), .second, .val (.long xq), .second, rv a1291, .unset] [(.int 1)]))
    refine Way.by (fun _ k => XS.goto X1307.here hx rfl (pc0 := 181) (pc' := 185) rfl (hb hby at_181) (by decide) (by decide) k) ?_
    show Way _ _ _ _ (T1306.setTop (mkF m 185 #[.val (.long r), .second, .val (.long i), .second, .val (.long d), .second, .val (.long xq), .second, iv sel, .val (.long dl), .second, iv 4, rv a1241, .val (.long r), .second, .val (.long i), .second, .val (.long d), .second, .val (.long xq), .second, rv a1291, .unset] [(.int 1)]))
    refine Way.by (fun _ k => XS.istore X1307.here hx rfl (hb hby at_185) rfl (l' := #[.val (.long r), .second, .val (.long i), .second, .val (.long d), .second, .val (.long xq), .second, iv sel, .val (.long dl), .second, iv 4, rv a1241, .val (.long r), .second, .val (.long i), .second, .val (.long d), .second, .val (.long xq), .second, rv a1291, iv 1]) rfl k) ?_
    show Way _ _ _ _ (T1306.setTop (mkF m 187 #[.val (.long r), .second, .val (.long i), .second, .val (.long d), .second, .val (.long xq), .second, iv sel, .val (.long dl), .second, iv 4, rv a1241, .val (.long r), .second, .val (.long i), .second, .val (.long d), .second, .val (.long xq), .second, rv a1291, iv 1] []))
    refine Way.by (fun _ k => XS.aload X1307.here hx rfl (hb hby at_187) rfl rfl k) ?_
    show Way _ _ _ _ (T1306.setTop (mkF m 189 #[.val (.long r), .second, .val (.long i), .second, .val (.long d), .second, .val (.long xq), .second, iv sel, .val (.long dl), .second, iv 4, rv a1241, .val (.long r), .second, .val (.long i), .second, .val (.long d), .second, .val (.long xq), .second, rv a1291, iv 1] [(.ref a1241)]))
    refine Way.by (fun _ k => XS.aload X1307.here hx rfl (hb hby at_189) rfl rfl k) ?_
    show Way _ _ _ _ (T1306.setTop (mkF m 191 #[.val (.long r), .second, .val (.long i), .second, .val (.long d), .second, .val (.long xq), .second, iv sel, .val (.long dl), .second, iv 4, rv a1241, .val (.long r), .second, .val (.long i), .second, .val (.long d), .second, .val (.long xq), .second, rv a1291, iv 1] [(.ref a1291), (.ref a1241)]))
    obtain ⟨cq1354, kq1355, qa1356, qb1357, qc1358⟩ := isOf hZ rfl E1329
    obtain ⟨_, _, ⟨T1338, L1340, k1341, n1342⟩, -, X1339, ⟨Lc1343, hQ1344, l1345, y1346, z1347⟩, st1348⟩ := X1307.virtualBack hx (y := (⟨"com/example/outbox/outbox/QueueCounts", "equals", "(Ljava/lang/Object;)Z"⟩ : MethodName)) (z := (⟨"com/example/outbox/outbox/QueueCounts", "equals", "(Ljava/lang/Object;)Z"⟩ : MethodName)) hown (mvT hZ (tw hw 17 rfl)) (mvT hZ (tw hw 18 rfl)) (notFace_of_selects (args := #[]) (mvT hZ (tw hw 20 rfl))) (mvT hZ (tw hw 20 rfl)) (mvT hZ (tw hw 19 rfl)) (by decide) (backOf (W := 0) (rmE l Z a0 hw [] a1241 a1291 r i d xq r i d xq (1 : Int32) T1306.heap n0 Z1335 F_01324 F1330 F1331 F1332 F1333 F_11325 F_21326 F_31327 F_41328 (by simp)) hZ (tw hw 21 rfl) (tw hw 2 rfl) (by decide) (by decide)) qa1356 qc1358 (g := (mkF m 191 #[.val (.long r), .second, .val (.long i), .second, .val (.long d), .second, .val (.long xq), .second, iv sel, .val (.long dl), .second, iv 4, rv a1241, .val (.long r), .second, .val (.long i), .second, .val (.long d), .second, .val (.long xq), .second, rv a1291, iv 1] [(.ref a1291), (.ref a1241)])) rfl (by rw [hml]; rfl) (Steps.refl _) (argsL := [(.ref a1291)]) (rest := []) (lenOf pdE rfl) rfl (leW rfl) (hb hby at_191) (fun _ _ => ⟨rfl, rfl, (leB rfl), (leB rfl)⟩)
    dsimp only [Pt.U, Pt.locs, Pt.cells, Pt.slots] at X1339 l1345 y1346 z1347 st1348 hQ1344
    subst l1345 y1346 z1347
    obtain ⟨rfl, N1359, e1350⟩ := hQ1344
    have N1349 := Fr.app N1317 N1359
    refine Way.to st1348 ?_
    show Way _ _ _ _ (T1338.setTop (mkF m 194 #[.val (.long r), .second, .val (.long i), .second, .val (.long d), .second, .val (.long xq), .second, iv sel, .val (.long dl), .second, iv 4, rv a1241, .val (.long r), .second, .val (.long i), .second, .val (.long d), .second, .val (.long xq), .second, rv a1291, iv 1] [(.int 1)]))
    refine Way.by (fun _ k => XS.iload X1339.here hx rfl (hb hby at_194) rfl k) ?_
    show Way _ _ _ _ (T1338.setTop (mkF m 196 #[.val (.long r), .second, .val (.long i), .second, .val (.long d), .second, .val (.long xq), .second, iv sel, .val (.long dl), .second, iv 4, rv a1241, .val (.long r), .second, .val (.long i), .second, .val (.long d), .second, .val (.long xq), .second, rv a1291, iv 1] [(.int 1), (.int 1)]))
    have b1361 : (1 : Int32) = (1 : Int32) := by decide
    refine Way.by (fun _ k => XS.icmpNo X1339.here hx rfl (hb hby at_196) rfl (teq b1361).2 k) ?_
    show Way _ _ _ _ (T1338.setTop (mkF m 199 #[.val (.long r), .second, .val (.long i), .second, .val (.long d), .second, .val (.long xq), .second, iv sel, .val (.long dl), .second, iv 4, rv a1241, .val (.long r), .second, .val (.long i), .second, .val (.long d), .second, .val (.long xq), .second, rv a1291, iv 1] []))
    refine Way.by (fun _ k => XS.aload X1339.here hx rfl (hb hby at_199) rfl rfl k) ?_
    show Way _ _ _ _ (T1338.setTop (mkF m 201 #[.val (.long r), .second, .val (.long i), .second, .val (.long d), .second, .val (.long xq), .second, iv sel, .val (.long dl), .second, iv 4, rv a1241, .val (.long r), .second, .val (.long i), .second, .val (.long d), .second, .val (.long xq), .second, rv a1291, iv 1] [(.ref a1291)]))
    refine Way.by (fun _ k => XS.aload X1339.here hx rfl (hb hby at_201) rfl rfl k) ?_
    show Way _ _ _ _ (T1338.setTop (mkF m 203 #[.val (.long r), .second, .val (.long i), .second, .val (.long d), .second, .val (.long xq), .second, iv sel, .val (.long dl), .second, iv 4, rv a1241, .val (.long r), .second, .val (.long i), .second, .val (.long d), .second, .val (.long xq), .second, rv a1291, iv 1] [(.ref a1241), (.ref a1291)]))
    obtain ⟨cq1378, kq1379, qa1380, qb1381, qc1382⟩ := isOf hZ e1350 F_01324
    obtain ⟨_, _, ⟨T1362, L1364, k1365, n1366⟩, -, X1363, ⟨Lc1367, hQ1368, l1369, y1370, z1371⟩, st1372⟩ := X1339.virtualBack hx (y := (⟨"com/example/outbox/outbox/QueueCounts", "equals", "(Ljava/lang/Object;)Z"⟩ : MethodName)) (z := (⟨"com/example/outbox/outbox/QueueCounts", "equals", "(Ljava/lang/Object;)Z"⟩ : MethodName)) hown (mvT hZ (tw hw 17 rfl)) (mvT hZ (tw hw 18 rfl)) (notFace_of_selects (args := #[]) (mvT hZ (tw hw 20 rfl))) (mvT hZ (tw hw 20 rfl)) (mvT hZ (tw hw 19 rfl)) (by decide) (backOf (W := 0) (rmE l Z a0 hw [] a1291 a1241 r i d xq r i d xq (1 : Int32) T1306.heap n0 Z1335 E1329 F_11325 F_21326 F_31327 F_41328 F1330 F1331 F1332 F1333 (by simp)) hZ (tw hw 21 rfl) (tw hw 2 rfl) (by decide) (by decide)) qa1380 qc1382 (g := (mkF m 203 #[.val (.long r), .second, .val (.long i), .second, .val (.long d), .second, .val (.long xq), .second, iv sel, .val (.long dl), .second, iv 4, rv a1241, .val (.long r), .second, .val (.long i), .second, .val (.long d), .second, .val (.long xq), .second, rv a1291, iv 1] [(.ref a1241), (.ref a1291)])) rfl (by rw [hml]; rfl) (Steps.refl _) (argsL := [(.ref a1241)]) (rest := []) (lenOf pdE rfl) rfl (leW rfl) (hb hby at_203) (fun _ _ => ⟨rfl, e1350, (leB rfl), (leB rfl)⟩)
    dsimp only [Pt.U, Pt.locs, Pt.cells, Pt.slots] at X1363 l1369 y1370 z1371 st1372 hQ1368
    subst l1369 y1370 z1371
    obtain ⟨rfl, N1383, e1374⟩ := hQ1368
    have N1373 := Fr.app N1349 N1383
    refine Way.to st1372 ?_
    show Way _ _ _ _ (T1362.setTop (mkF m 206 #[.val (.long r), .second, .val (.long i), .second, .val (.long d), .second, .val (.long xq), .second, iv sel, .val (.long dl), .second, iv 4, rv a1241, .val (.long r), .second, .val (.long i), .second, .val (.long d), .second, .val (.long xq), .second, rv a1291, iv 1] [(.int 1)]))
    refine Way.by (fun _ k => XS.iload X1363.here hx rfl (hb hby at_206) rfl k) ?_
    show Way _ _ _ _ (T1362.setTop (mkF m 208 #[.val (.long r), .second, .val (.long i), .second, .val (.long d), .second, .val (.long xq), .second, iv sel, .val (.long dl), .second, iv 4, rv a1241, .val (.long r), .second, .val (.long i), .second, .val (.long d), .second, .val (.long xq), .second, rv a1291, iv 1] [(.int 1), (.int 1)]))
    have b1385 : (1 : Int32) = (1 : Int32) := by decide
    refine Way.by (fun _ k => XS.icmpNo X1363.here hx rfl (hb hby at_208) rfl (teq b1385).2 k) ?_
    show Way _ _ _ _ (T1362.setTop (mkF m 211 #[.val (.long r), .second, .val (.long i), .second, .val (.long d), .second, .val (.long xq), .second, iv sel, .val (.long dl), .second, iv 4, rv a1241, .val (.long r), .second, .val (.long i), .second, .val (.long d), .second, .val (.long xq), .second, rv a1291, iv 1] []))
    refine Way.by (fun _ k => XS.iconst X1363.here hx rfl (hb hby at_211) k) ?_
    show Way _ _ _ _ (T1362.setTop (mkF m 212 #[.val (.long r), .second, .val (.long i), .second, .val (.long d), .second, .val (.long xq), .second, iv sel, .val (.long dl), .second, iv 4, rv a1241, .val (.long r), .second, .val (.long i), .second, .val (.long d), .second, .val (.long xq), .second, rv a1291, iv 1] [(.int 1)]))
    refine Way.by (fun _ k => XS.goto X1363.here hx rfl (pc0 := 212) (pc' := 216) rfl (hb hby at_212) (by decide) (by decide) k) ?_
    show Way _ _ _ _ (T1362.setTop (mkF m 216 #[.val (.long r), .second, .val (.long i), .second, .val (.long d), .second, .val (.long xq), .second, iv sel, .val (.long dl), .second, iv 4, rv a1241, .val (.long r), .second, .val (.long i), .second, .val (.long d), .second, .val (.long xq), .second, rv a1291, iv 1] [(.int 1)]))
    refine Way.ret (v := (some (.int (nar .boolean (1 : Int32))))) X1363 hlk (fun h => by rw [Bd.returns] at h; cases h) (fun fs hr => retN X1363 hx (t := .boolean) Bd.returns (by simp) (hb hby at_216) hr) ?_ (by decide) (by decide)
    show Q0 n0 _ T1362.heap _
    rw [e1374]
    exact ⟨rfl, N1373⟩
  · skip
    show Way _ _ _ _ (s₁.setTop (mkF m 7 #[.val (.long r), .second, .val (.long i), .second, .val (.long d), .second, .val (.long xq), .second, iv sel, .val (.long dl), .second, iv 5, .unset, .unset, .unset, .unset, .unset, .unset, .unset, .unset, .unset, .unset, .unset] []))
    obtain ⟨T1386, h1387, X1388, e1389, E1390, A1391, D1392, -, st1393⟩ := newO X0 hx hZ hown (tw hw 0 rfl) (tw hw 1 rfl) (tw hw 2 rfl) e0 (g := (mkF m 7 #[.val (.long r), .second, .val (.long i), .second, .val (.long d), .second, .val (.long xq), .second, iv sel, .val (.long dl), .second, iv 5, .unset, .unset, .unset, .unset, .unset, .unset, .unset, .unset, .unset, .unset, .unset] [])) rfl (hb hby at_7) (by decide) (by decide)
    obtain ⟨a1394, g1395⟩ : ∃ z, z = h0.size := ⟨_, rfl⟩
    rw [← g1395] at A1391 D1392 st1393
    have nw1396 : n0 ≤ a1394 := Nat.le_trans Z0 (Nat.le_of_eq g1395.symm)
    have Z1397 := Nat.le_trans Z0 E1390.1
    have O1398 := O0.ext E1390
    have F1399 : Fld Z h1387 a1394 "com/example/outbox/outbox/QueueCounts" "ready" "J" (.long (0 : Int64)) := D1392 (Or.inr (tw hw 10 rfl)) (ty := .long) (by decide)
    have F1400 : Fld Z h1387 a1394 "com/example/outbox/outbox/QueueCounts" "inflight" "J" (.long (0 : Int64)) := D1392 (Or.inr (tw hw 12 rfl)) (ty := .long) (by decide)
    have F1401 : Fld Z h1387 a1394 "com/example/outbox/outbox/QueueCounts" "delayed" "J" (.long (0 : Int64)) := D1392 (Or.inr (tw hw 14 rfl)) (ty := .long) (by decide)
    have F1402 : Fld Z h1387 a1394 "com/example/outbox/outbox/QueueCounts" "dead" "J" (.long (0 : Int64)) := D1392 (Or.inr (tw hw 16 rfl)) (ty := .long) (by decide)
    refine Way.by st1393 ?_
    show Way _ _ _ _ (T1386.setTop (mkF m 10 #[.val (.long r), .second, .val (.long i), .second, .val (.long d), .second, .val (.long xq), .second, iv sel, .val (.long dl), .second, iv 5, .unset, .unset, .unset, .unset, .unset, .unset, .unset, .unset, .unset, .unset, .unset] [(.ref a1394)]))
    refine Way.by (fun _ k => XS.dup X1388.here hx rfl (hb hby at_10) rfl rfl k) ?_
    show Way _ _ _ _ (T1386.setTop (mkF m 11 #[.val (.long r), .second, .val (.long i), .second, .val (.long d), .second, .val (.long xq), .second, iv sel, .val (.long dl), .second, iv 5, .unset, .unset, .unset, .unset, .unset, .unset, .unset, .unset, .unset, .unset, .unset] [(.ref a1394), (.ref a1394)]))
    refine Way.by (fun _ k => XT.lloadN X1388.here hx rfl (hb hby at_11) rfl k) ?_
    show Way _ _ _ _ (T1386.setTop (mkF m 12 #[.val (.long r), .second, .val (.long i), .second, .val (.long d), .second, .val (.long xq), .second, iv sel, .val (.long dl), .second, iv 5, .unset, .unset, .unset, .unset, .unset, .unset, .unset, .unset, .unset, .unset, .unset] [(.long r), (.ref a1394), (.ref a1394)]))
    refine Way.by (fun _ k => XT.lloadN X1388.here hx rfl (hb hby at_12) rfl k) ?_
    show Way _ _ _ _ (T1386.setTop (mkF m 13 #[.val (.long r), .second, .val (.long i), .second, .val (.long d), .second, .val (.long xq), .second, iv sel, .val (.long dl), .second, iv 5, .unset, .unset, .unset, .unset, .unset, .unset, .unset, .unset, .unset, .unset, .unset] [(.long i), (.long r), (.ref a1394), (.ref a1394)]))
    refine Way.by (fun _ k => XT.lload X1388.here hx rfl (hb hby at_13) rfl k) ?_
    show Way _ _ _ _ (T1386.setTop (mkF m 15 #[.val (.long r), .second, .val (.long i), .second, .val (.long d), .second, .val (.long xq), .second, iv sel, .val (.long dl), .second, iv 5, .unset, .unset, .unset, .unset, .unset, .unset, .unset, .unset, .unset, .unset, .unset] [(.long d), (.long i), (.long r), (.ref a1394), (.ref a1394)]))
    refine Way.by (fun _ k => XT.lload X1388.here hx rfl (hb hby at_15) rfl k) ?_
    show Way _ _ _ _ (T1386.setTop (mkF m 17 #[.val (.long r), .second, .val (.long i), .second, .val (.long d), .second, .val (.long xq), .second, iv sel, .val (.long dl), .second, iv 5, .unset, .unset, .unset, .unset, .unset, .unset, .unset, .unset, .unset, .unset, .unset] [(.long xq), (.long d), (.long i), (.long r), (.ref a1394), (.ref a1394)]))
    obtain ⟨_, _, ⟨T1403, L1405, k1406, n1407⟩, -, X1404, ⟨Lc1408, hQ1409, l1410, y1411, z1412⟩, st1413⟩ := X1388.specialBack hx (y := (⟨"com/example/outbox/outbox/QueueCounts", "<init>", "(JJJJ)V"⟩ : MethodName)) rfl hown (mvT hZ (tw hw 3 rfl)) (mvT hZ (tw hw 4 rfl)) (mvT hZ (tw hw 5 rfl)) (by decide) (backOf (W := 1) (rmC l Z a0 hw [] a1394 r i d xq h1387 n0 Z1397 A1391 F1399 F1400 F1401 F1402 nw1396) hZ (tw hw 5 rfl) (tw hw 2 rfl) (by decide) (by decide)) (g := (mkF m 17 #[.val (.long r), .second, .val (.long i), .second, .val (.long d), .second, .val (.long xq), .second, iv sel, .val (.long dl), .second, iv 5, .unset, .unset, .unset, .unset, .unset, .unset, .unset, .unset, .unset, .unset, .unset] [(.long xq), (.long d), (.long i), (.long r), (.ref a1394), (.ref a1394)])) rfl (by rw [hml]; rfl) (Steps.refl _) (a := a1394) (argsL := [(.long r), (.long i), (.long d), (.long xq)]) (rest := [(.ref a1394)]) (lenOf pdC rfl) rfl (leW rfl) (hb hby at_17) (fun _ _ => ⟨rfl, e1389, (leB rfl), (leB rfl)⟩)
    dsimp only [Pt.U, Pt.locs, Pt.cells, Pt.slots] at X1404 l1410 y1411 z1412 st1413 hQ1409
    subst l1410 y1411 z1412
    obtain ⟨rfl, N1419, K1420, F_01421, F_11422, F_21423, F_31424, F_41425⟩ := hQ1409
    have N1414 := Fr.app N0 N1419
    have E1426 := A1391.keep K1420
    have Z1427 := Nat.le_trans Z1397 K1420.1
    have O1428 := O1398.keep K1420 (allS nw1396 all0)
    refine Way.to st1413 ?_
    show Way _ _ _ _ (T1403.setTop (mkF m 20 #[.val (.long r), .second, .val (.long i), .second, .val (.long d), .second, .val (.long xq), .second, iv sel, .val (.long dl), .second, iv 5, .unset, .unset, .unset, .unset, .unset, .unset, .unset, .unset, .unset, .unset, .unset] [(.ref a1394)]))
    refine Way.by (fun _ k => XS.astore X1404.here hx rfl (hb hby at_20) rfl rfl (l' := #[.val (.long r), .second, .val (.long i), .second, .val (.long d), .second, .val (.long xq), .second, iv sel, .val (.long dl), .second, iv 5, rv a1394, .unset, .unset, .unset, .unset, .unset, .unset, .unset, .unset, .unset, .unset]) rfl k) ?_
    show Way _ _ _ _ (T1403.setTop (mkF m 22 #[.val (.long r), .second, .val (.long i), .second, .val (.long d), .second, .val (.long xq), .second, iv sel, .val (.long dl), .second, iv 5, rv a1394, .unset, .unset, .unset, .unset, .unset, .unset, .unset, .unset, .unset, .unset] []))
    refine Way.by (fun _ k => XS.iload X1404.here hx rfl (hb hby at_22) rfl k) ?_
    show Way _ _ _ _ (T1403.setTop (mkF m 24 #[.val (.long r), .second, .val (.long i), .second, .val (.long d), .second, .val (.long xq), .second, iv sel, .val (.long dl), .second, iv 5, rv a1394, .unset, .unset, .unset, .unset, .unset, .unset, .unset, .unset, .unset, .unset] [(.int 5)]))
    refine Way.by (fun _ k => XS.iconst X1404.here hx rfl (hb hby at_24) k) ?_
    show Way _ _ _ _ (T1403.setTop (mkF m 25 #[.val (.long r), .second, .val (.long i), .second, .val (.long d), .second, .val (.long xq), .second, iv sel, .val (.long dl), .second, iv 5, rv a1394, .unset, .unset, .unset, .unset, .unset, .unset, .unset, .unset, .unset, .unset] [(.int 5), (.int 5)]))
    have b1429 : (5 : Int32) = (5 : Int32) := by decide
    refine Way.by (fun _ k => XS.icmpNo X1404.here hx rfl (hb hby at_25) rfl (teq b1429).2 k) ?_
    show Way _ _ _ _ (T1403.setTop (mkF m 28 #[.val (.long r), .second, .val (.long i), .second, .val (.long d), .second, .val (.long xq), .second, iv sel, .val (.long dl), .second, iv 5, rv a1394, .unset, .unset, .unset, .unset, .unset, .unset, .unset, .unset, .unset, .unset] []))
    refine Way.by (fun _ k => XS.aload X1404.here hx rfl (hb hby at_28) rfl rfl k) ?_
    show Way _ _ _ _ (T1403.setTop (mkF m 30 #[.val (.long r), .second, .val (.long i), .second, .val (.long d), .second, .val (.long xq), .second, iv sel, .val (.long dl), .second, iv 5, rv a1394, .unset, .unset, .unset, .unset, .unset, .unset, .unset, .unset, .unset, .unset] [(.ref a1394)]))
    refine Way.by (fun _ k => XS.aconstNull X1404.here hx rfl (hb hby at_30) k) ?_
    show Way _ _ _ _ (T1403.setTop (mkF m 31 #[.val (.long r), .second, .val (.long i), .second, .val (.long d), .second, .val (.long xq), .second, iv sel, .val (.long dl), .second, iv 5, rv a1394, .unset, .unset, .unset, .unset, .unset, .unset, .unset, .unset, .unset, .unset] [.null, (.ref a1394)]))
    obtain ⟨cq1446, kq1447, qa1448, qb1449, qc1450⟩ := isOf hZ rfl F_01421
    obtain ⟨_, _, ⟨T1430, L1432, k1433, n1434⟩, -, X1431, ⟨Lc1435, hQ1436, l1437, y1438, z1439⟩, st1440⟩ := X1404.virtualBack hx (y := (⟨"com/example/outbox/outbox/QueueCounts", "equals", "(Ljava/lang/Object;)Z"⟩ : MethodName)) (z := (⟨"com/example/outbox/outbox/QueueCounts", "equals", "(Ljava/lang/Object;)Z"⟩ : MethodName)) hown (mvT hZ (tw hw 17 rfl)) (mvT hZ (tw hw 18 rfl)) (notFace_of_selects (args := #[]) (mvT hZ (tw hw 20 rfl))) (mvT hZ (tw hw 20 rfl)) (mvT hZ (tw hw 19 rfl)) (by decide) (backOf (W := 0) (rmN l Z a0 hw [] a1394 T1403.heap n0 Z1427 ) hZ (tw hw 21 rfl) (tw hw 2 rfl) (by decide) (by decide)) qa1448 qc1450 (g := (mkF m 31 #[.val (.long r), .second, .val (.long i), .second, .val (.long d), .second, .val (.long xq), .second, iv sel, .val (.long dl), .second, iv 5, rv a1394, .unset, .unset, .unset, .unset, .unset, .unset, .unset, .unset, .unset, .unset] [.null, (.ref a1394)])) rfl (by rw [hml]; rfl) (Steps.refl _) (argsL := [.null]) (rest := []) (lenOf pdE rfl) rfl (leW rfl) (hb hby at_31) (fun _ _ => ⟨rfl, rfl, (leB rfl), (leB rfl)⟩)
    dsimp only [Pt.U, Pt.locs, Pt.cells, Pt.slots] at X1431 l1437 y1438 z1439 st1440 hQ1436
    subst l1437 y1438 z1439
    obtain ⟨rfl, N1451, e1442⟩ := hQ1436
    have N1441 := Fr.app N1414 N1451
    refine Way.to st1440 ?_
    show Way _ _ _ _ (T1430.setTop (mkF m 34 #[.val (.long r), .second, .val (.long i), .second, .val (.long d), .second, .val (.long xq), .second, iv sel, .val (.long dl), .second, iv 5, rv a1394, .unset, .unset, .unset, .unset, .unset, .unset, .unset, .unset, .unset, .unset] [(.int 0)]))
    have b1453 : (0 : Int32) = (0 : Int32) := by decide
    refine Way.by (fun _ k => XS.ifNo X1431.here hx rfl (hb hby at_34) rfl ((if0 .ne _).trans (teq b1453).2) k) ?_
    show Way _ _ _ _ (T1430.setTop (mkF m 37 #[.val (.long r), .second, .val (.long i), .second, .val (.long d), .second, .val (.long xq), .second, iv sel, .val (.long dl), .second, iv 5, rv a1394, .unset, .unset, .unset, .unset, .unset, .unset, .unset, .unset, .unset, .unset] []))
    refine Way.by (fun _ k => XS.iconst X1431.here hx rfl (hb hby at_37) k) ?_
    show Way _ _ _ _ (T1430.setTop (mkF m 38 #[.val (.long r), .second, .val (.long i), .second, .val (.long d), .second, .val (.long xq), .second, iv sel, .val (.long dl), .second, iv 5, rv a1394, .unset, .unset, .unset, .unset, .unset, .unset, .unset, .unset, .unset, .unset] [(.int 1)]))
    refine Way.by (fun _ k => XS.goto X1431.here hx rfl (pc0 := 38) (pc' := 42) rfl (hb hby at_38) (by decide) (by decide) k) ?_
    show Way _ _ _ _ (T1430.setTop (mkF m 42 #[.val (.long r), .second, .val (.long i), .second, .val (.long d), .second, .val (.long xq), .second, iv sel, .val (.long dl), .second, iv 5, rv a1394, .unset, .unset, .unset, .unset, .unset, .unset, .unset, .unset, .unset, .unset] [(.int 1)]))
    refine Way.ret (v := (some (.int (nar .boolean (1 : Int32))))) X1431 hlk (fun h => by rw [Bd.returns] at h; cases h) (fun fs hr => retN X1431 hx (t := .boolean) Bd.returns (by simp) (hb hby at_42) hr) ?_ (by decide) (by decide)
    show Q0 n0 _ T1430.heap _
    rw [e1442]
    exact ⟨rfl, N1441⟩
  · skip
    show Way _ _ _ _ (s₁.setTop (mkF m 7 #[.val (.long r), .second, .val (.long i), .second, .val (.long d), .second, .val (.long xq), .second, iv sel, .val (.long dl), .second, iv 6, .unset, .unset, .unset, .unset, .unset, .unset, .unset, .unset, .unset, .unset, .unset] []))
    obtain ⟨T1454, h1455, X1456, e1457, E1458, A1459, D1460, -, st1461⟩ := newO X0 hx hZ hown (tw hw 0 rfl) (tw hw 1 rfl) (tw hw 2 rfl) e0 (g := (mkF m 7 #[.val (.long r), .second, .val (.long i), .second, .val (.long d), .second, .val (.long xq), .second, iv sel, .val (.long dl), .second, iv 6, .unset, .unset, .unset, .unset, .unset, .unset, .unset, .unset, .unset, .unset, .unset] [])) rfl (hb hby at_7) (by decide) (by decide)
    obtain ⟨a1462, g1463⟩ : ∃ z, z = h0.size := ⟨_, rfl⟩
    rw [← g1463] at A1459 D1460 st1461
    have nw1464 : n0 ≤ a1462 := Nat.le_trans Z0 (Nat.le_of_eq g1463.symm)
    have Z1465 := Nat.le_trans Z0 E1458.1
    have O1466 := O0.ext E1458
    have F1467 : Fld Z h1455 a1462 "com/example/outbox/outbox/QueueCounts" "ready" "J" (.long (0 : Int64)) := D1460 (Or.inr (tw hw 10 rfl)) (ty := .long) (by decide)
    have F1468 : Fld Z h1455 a1462 "com/example/outbox/outbox/QueueCounts" "inflight" "J" (.long (0 : Int64)) := D1460 (Or.inr (tw hw 12 rfl)) (ty := .long) (by decide)
    have F1469 : Fld Z h1455 a1462 "com/example/outbox/outbox/QueueCounts" "delayed" "J" (.long (0 : Int64)) := D1460 (Or.inr (tw hw 14 rfl)) (ty := .long) (by decide)
    have F1470 : Fld Z h1455 a1462 "com/example/outbox/outbox/QueueCounts" "dead" "J" (.long (0 : Int64)) := D1460 (Or.inr (tw hw 16 rfl)) (ty := .long) (by decide)
    refine Way.by st1461 ?_
    show Way _ _ _ _ (T1454.setTop (mkF m 10 #[.val (.long r), .second, .val (.long i), .second, .val (.long d), .second, .val (.long xq), .second, iv sel, .val (.long dl), .second, iv 6, .unset, .unset, .unset, .unset, .unset, .unset, .unset, .unset, .unset, .unset, .unset] [(.ref a1462)]))
    refine Way.by (fun _ k => XS.dup X1456.here hx rfl (hb hby at_10) rfl rfl k) ?_
    show Way _ _ _ _ (T1454.setTop (mkF m 11 #[.val (.long r), .second, .val (.long i), .second, .val (.long d), .second, .val (.long xq), .second, iv sel, .val (.long dl), .second, iv 6, .unset, .unset, .unset, .unset, .unset, .unset, .unset, .unset, .unset, .unset, .unset] [(.ref a1462), (.ref a1462)]))
    refine Way.by (fun _ k => XT.lloadN X1456.here hx rfl (hb hby at_11) rfl k) ?_
    show Way _ _ _ _ (T1454.setTop (mkF m 12 #[.val (.long r), .second, .val (.long i), .second, .val (.long d), .second, .val (.long xq), .second, iv sel, .val (.long dl), .second, iv 6, .unset, .unset, .unset, .unset, .unset, .unset, .unset, .unset, .unset, .unset, .unset] [(.long r), (.ref a1462), (.ref a1462)]))
    refine Way.by (fun _ k => XT.lloadN X1456.here hx rfl (hb hby at_12) rfl k) ?_
    show Way _ _ _ _ (T1454.setTop (mkF m 13 #[.val (.long r), .second, .val (.long i), .second, .val (.long d), .second, .val (.long xq), .second, iv sel, .val (.long dl), .second, iv 6, .unset, .unset, .unset, .unset, .unset, .unset, .unset, .unset, .unset, .unset, .unset] [(.long i), (.long r), (.ref a1462), (.ref a1462)]))
    refine Way.by (fun _ k => XT.lload X1456.here hx rfl (hb hby at_13) rfl k) ?_
    show Way _ _ _ _ (T1454.setTop (mkF m 15 #[.val (.long r), .second, .val (.long i), .second, .val (.long d), .second, .val (.long xq), .second, iv sel, .val (.long dl), .second, iv 6, .unset, .unset, .unset, .unset, .unset, .unset, .unset, .unset, .unset, .unset, .unset] [(.long d), (.long i), (.long r), (.ref a1462), (.ref a1462)]))
    refine Way.by (fun _ k => XT.lload X1456.here hx rfl (hb hby at_15) rfl k) ?_
    show Way _ _ _ _ (T1454.setTop (mkF m 17 #[.val (.long r), .second, .val (.long i), .second, .val (.long d), .second, .val (.long xq), .second, iv sel, .val (.long dl), .second, iv 6, .unset, .unset, .unset, .unset, .unset, .unset, .unset, .unset, .unset, .unset, .unset] [(.long xq), (.long d), (.long i), (.long r), (.ref a1462), (.ref a1462)]))
    obtain ⟨_, _, ⟨T1471, L1473, k1474, n1475⟩, -, X1472, ⟨Lc1476, hQ1477, l1478, y1479, z1480⟩, st1481⟩ := X1456.specialBack hx (y := (⟨"com/example/outbox/outbox/QueueCounts", "<init>", "(JJJJ)V"⟩ : MethodName)) rfl hown (mvT hZ (tw hw 3 rfl)) (mvT hZ (tw hw 4 rfl)) (mvT hZ (tw hw 5 rfl)) (by decide) (backOf (W := 1) (rmC l Z a0 hw [] a1462 r i d xq h1455 n0 Z1465 A1459 F1467 F1468 F1469 F1470 nw1464) hZ (tw hw 5 rfl) (tw hw 2 rfl) (by decide) (by decide)) (g := (mkF m 17 #[.val (.long r), .second, .val (.long i), .second, .val (.long d), .second, .val (.long xq), .second, iv sel, .val (.long dl), .second, iv 6, .unset, .unset, .unset, .unset, .unset, .unset, .unset, .unset, .unset, .unset, .unset] [(.long xq), (.long d), (.long i), (.long r), (.ref a1462), (.ref a1462)])) rfl (by rw [hml]; rfl) (Steps.refl _) (a := a1462) (argsL := [(.long r), (.long i), (.long d), (.long xq)]) (rest := [(.ref a1462)]) (lenOf pdC rfl) rfl (leW rfl) (hb hby at_17) (fun _ _ => ⟨rfl, e1457, (leB rfl), (leB rfl)⟩)
    dsimp only [Pt.U, Pt.locs, Pt.cells, Pt.slots] at X1472 l1478 y1479 z1480 st1481 hQ1477
    subst l1478 y1479 z1480
    obtain ⟨rfl, N1487, K1488, F_01489, F_11490, F_21491, F_31492, F_41493⟩ := hQ1477
    have N1482 := Fr.app N0 N1487
    have E1494 := A1459.keep K1488
    have Z1495 := Nat.le_trans Z1465 K1488.1
    have O1496 := O1466.keep K1488 (allS nw1464 all0)
    refine Way.to st1481 ?_
    show Way _ _ _ _ (T1471.setTop (mkF m 20 #[.val (.long r), .second, .val (.long i), .second, .val (.long d), .second, .val (.long xq), .second, iv sel, .val (.long dl), .second, iv 6, .unset, .unset, .unset, .unset, .unset, .unset, .unset, .unset, .unset, .unset, .unset] [(.ref a1462)]))
    refine Way.by (fun _ k => XS.astore X1472.here hx rfl (hb hby at_20) rfl rfl (l' := #[.val (.long r), .second, .val (.long i), .second, .val (.long d), .second, .val (.long xq), .second, iv sel, .val (.long dl), .second, iv 6, rv a1462, .unset, .unset, .unset, .unset, .unset, .unset, .unset, .unset, .unset, .unset]) rfl k) ?_
    show Way _ _ _ _ (T1471.setTop (mkF m 22 #[.val (.long r), .second, .val (.long i), .second, .val (.long d), .second, .val (.long xq), .second, iv sel, .val (.long dl), .second, iv 6, rv a1462, .unset, .unset, .unset, .unset, .unset, .unset, .unset, .unset, .unset, .unset] []))
    refine Way.by (fun _ k => XS.iload X1472.here hx rfl (hb hby at_22) rfl k) ?_
    show Way _ _ _ _ (T1471.setTop (mkF m 24 #[.val (.long r), .second, .val (.long i), .second, .val (.long d), .second, .val (.long xq), .second, iv sel, .val (.long dl), .second, iv 6, rv a1462, .unset, .unset, .unset, .unset, .unset, .unset, .unset, .unset, .unset, .unset] [(.int 6)]))
    refine Way.by (fun _ k => XS.iconst X1472.here hx rfl (hb hby at_24) k) ?_
    show Way _ _ _ _ (T1471.setTop (mkF m 25 #[.val (.long r), .second, .val (.long i), .second, .val (.long d), .second, .val (.long xq), .second, iv sel, .val (.long dl), .second, iv 6, rv a1462, .unset, .unset, .unset, .unset, .unset, .unset, .unset, .unset, .unset, .unset] [(.int 5), (.int 6)]))
    have b1497 : ¬ (6 : Int32) = (5 : Int32) := by decide
    refine Way.by (fun _ k => XS.icmpYes X1472.here hx rfl (pc0 := 25) (pc' := 43) rfl (hb hby at_25) rfl (feq b1497).2 (by decide) (by decide) k) ?_
    show Way _ _ _ _ (T1471.setTop (mkF m 43 #[.val (.long r), .second, .val (.long i), .second, .val (.long d), .second, .val (.long xq), .second, iv sel, .val (.long dl), .second, iv 6, rv a1462, .unset, .unset, .unset, .unset, .unset, .unset, .unset, .unset, .unset, .unset] []))
    refine Way.by (fun _ k => XS.iload X1472.here hx rfl (hb hby at_43) rfl k) ?_
    show Way _ _ _ _ (T1471.setTop (mkF m 45 #[.val (.long r), .second, .val (.long i), .second, .val (.long d), .second, .val (.long xq), .second, iv sel, .val (.long dl), .second, iv 6, rv a1462, .unset, .unset, .unset, .unset, .unset, .unset, .unset, .unset, .unset, .unset] [(.int 6)]))
    refine Way.by (fun _ k => XS.bipush X1472.here hx rfl (hb hby at_45) k) ?_
    show Way _ _ _ _ (T1471.setTop (mkF m 47 #[.val (.long r), .second, .val (.long i), .second, .val (.long d), .second, .val (.long xq), .second, iv sel, .val (.long dl), .second, iv 6, rv a1462, .unset, .unset, .unset, .unset, .unset, .unset, .unset, .unset, .unset, .unset] [(.int 6), (.int 6)]))
    have b1498 : (6 : Int32) = (6 : Int32) := by decide
    refine Way.by (fun _ k => XS.icmpNo X1472.here hx rfl (hb hby at_47) rfl (teq b1498).2 k) ?_
    show Way _ _ _ _ (T1471.setTop (mkF m 50 #[.val (.long r), .second, .val (.long i), .second, .val (.long d), .second, .val (.long xq), .second, iv sel, .val (.long dl), .second, iv 6, rv a1462, .unset, .unset, .unset, .unset, .unset, .unset, .unset, .unset, .unset, .unset] []))
    refine Way.by (fun _ k => XS.aload X1472.here hx rfl (hb hby at_50) rfl rfl k) ?_
    show Way _ _ _ _ (T1471.setTop (mkF m 52 #[.val (.long r), .second, .val (.long i), .second, .val (.long d), .second, .val (.long xq), .second, iv sel, .val (.long dl), .second, iv 6, rv a1462, .unset, .unset, .unset, .unset, .unset, .unset, .unset, .unset, .unset, .unset] [(.ref a1462)]))
    refine Way.by (fun _ k => XT.lloadN X1472.here hx rfl (hb hby at_52) rfl k) ?_
    show Way _ _ _ _ (T1471.setTop (mkF m 53 #[.val (.long r), .second, .val (.long i), .second, .val (.long d), .second, .val (.long xq), .second, iv sel, .val (.long dl), .second, iv 6, rv a1462, .unset, .unset, .unset, .unset, .unset, .unset, .unset, .unset, .unset, .unset] [(.long r), (.ref a1462)]))
    obtain ⟨_, _, ⟨T1499, L1501, k1502, n1503⟩, -, X1500, ⟨Lc1504, hQ1505, l1506, y1507, z1508⟩, st1509⟩ := Jvm.LawKit.callS X1472 hx (y := (⟨"java/lang/Long", "valueOf", "(J)Ljava/lang/Long;"⟩ : MethodName)) hown (mvT hZ (tw hw 24 rfl)) (mvT hZ (tw hw 25 rfl)) (mvT hZ (tw hw 26 rfl)) (mvT hZ (tw hw 27 rfl)) (by decide) (backOf (W := 1) (rmV l Z a0 hw [] r ca cc T1471.heap n0 Z1495 O1496 CS CA CN CE) hZ (tw hw 27 rfl) (tw hw 26 rfl) (by decide) (by decide)) (g := (mkF m 53 #[.val (.long r), .second, .val (.long i), .second, .val (.long d), .second, .val (.long xq), .second, iv sel, .val (.long dl), .second, iv 6, rv a1462, .unset, .unset, .unset, .unset, .unset, .unset, .unset, .unset, .unset, .unset] [(.long r), (.ref a1462)])) rfl (by rw [hml]; rfl) (argsL := [(.long r)]) (rest := [(.ref a1462)]) (lenOf pdV rfl) rfl (leW rfl) (hb hby at_53) (fun _ _ => ⟨rfl, rfl, (leB rfl), (leB rfl)⟩)
    dsimp only [Pt.U, Pt.locs, Pt.cells, Pt.slots] at X1500 l1506 y1507 z1508 st1509 hQ1505
    subst l1506 y1507 z1508
    obtain ⟨x_bx1518, rfl, N1515, K1516, F_01517⟩ := hQ1505
    have N1510 := Fr.app N1482 N1515
    have E1519 := F_01489.keep K1516
    have F1520 := F_11490.keep K1516 nin0
    have F1521 := F_21491.keep K1516 nin0
    have F1522 := F_31492.keep K1516 nin0
    have F1523 := F_41493.keep K1516 nin0
    have Z1524 := Nat.le_trans Z1495 K1516.1
    have O1525 := O1496.keep K1516 all0
    refine Way.by st1509 ?_
    show Way _ _ _ _ (T1499.setTop (mkF m 56 #[.val (.long r), .second, .val (.long i), .second, .val (.long d), .second, .val (.long xq), .second, iv sel, .val (.long dl), .second, iv 6, rv a1462, .unset, .unset, .unset, .unset, .unset, .unset, .unset, .unset, .unset, .unset] [(.ref x_bx1518), (.ref a1462)]))
    obtain ⟨cq1542, kq1543, qa1544, qb1545, qc1546⟩ := isOf hZ rfl E1519
    obtain ⟨_, _, ⟨T1526, L1528, k1529, n1530⟩, -, X1527, ⟨Lc1531, hQ1532, l1533, y1534, z1535⟩, st1536⟩ := X1500.virtualBack hx (y := (⟨"com/example/outbox/outbox/QueueCounts", "equals", "(Ljava/lang/Object;)Z"⟩ : MethodName)) (z := (⟨"com/example/outbox/outbox/QueueCounts", "equals", "(Ljava/lang/Object;)Z"⟩ : MethodName)) hown (mvT hZ (tw hw 17 rfl)) (mvT hZ (tw hw 18 rfl)) (notFace_of_selects (args := #[]) (mvT hZ (tw hw 20 rfl))) (mvT hZ (tw hw 20 rfl)) (mvT hZ (tw hw 19 rfl)) (by decide) (backOf (W := 0) (rmG l Z a0 hw [] a1462 x_bx1518 T1499.heap n0 Z1524 F_01517) hZ (tw hw 21 rfl) (tw hw 2 rfl) (by decide) (by decide)) qa1544 qc1546 (g := (mkF m 56 #[.val (.long r), .second, .val (.long i), .second, .val (.long d), .second, .val (.long xq), .second, iv sel, .val (.long dl), .second, iv 6, rv a1462, .unset, .unset, .unset, .unset, .unset, .unset, .unset, .unset, .unset, .unset] [(.ref x_bx1518), (.ref a1462)])) rfl (by rw [hml]; rfl) (Steps.refl _) (argsL := [(.ref x_bx1518)]) (rest := []) (lenOf pdE rfl) rfl (leW rfl) (hb hby at_56) (fun _ _ => ⟨rfl, rfl, (leB rfl), (leB rfl)⟩)
    dsimp only [Pt.U, Pt.locs, Pt.cells, Pt.slots] at X1527 l1533 y1534 z1535 st1536 hQ1532
    subst l1533 y1534 z1535
    obtain ⟨rfl, N1547, e1538⟩ := hQ1532
    have N1537 := Fr.app N1510 N1547
    refine Way.to st1536 ?_
    show Way _ _ _ _ (T1526.setTop (mkF m 59 #[.val (.long r), .second, .val (.long i), .second, .val (.long d), .second, .val (.long xq), .second, iv sel, .val (.long dl), .second, iv 6, rv a1462, .unset, .unset, .unset, .unset, .unset, .unset, .unset, .unset, .unset, .unset] [(.int 0)]))
    have b1549 : (0 : Int32) = (0 : Int32) := by decide
    refine Way.by (fun _ k => XS.ifNo X1527.here hx rfl (hb hby at_59) rfl ((if0 .ne _).trans (teq b1549).2) k) ?_
    show Way _ _ _ _ (T1526.setTop (mkF m 62 #[.val (.long r), .second, .val (.long i), .second, .val (.long d), .second, .val (.long xq), .second, iv sel, .val (.long dl), .second, iv 6, rv a1462, .unset, .unset, .unset, .unset, .unset, .unset, .unset, .unset, .unset, .unset] []))
    refine Way.by (fun _ k => XS.iconst X1527.here hx rfl (hb hby at_62) k) ?_
    show Way _ _ _ _ (T1526.setTop (mkF m 63 #[.val (.long r), .second, .val (.long i), .second, .val (.long d), .second, .val (.long xq), .second, iv sel, .val (.long dl), .second, iv 6, rv a1462, .unset, .unset, .unset, .unset, .unset, .unset, .unset, .unset, .unset, .unset] [(.int 1)]))
    refine Way.by (fun _ k => XS.goto X1527.here hx rfl (pc0 := 63) (pc' := 67) rfl (hb hby at_63) (by decide) (by decide) k) ?_
    show Way _ _ _ _ (T1526.setTop (mkF m 67 #[.val (.long r), .second, .val (.long i), .second, .val (.long d), .second, .val (.long xq), .second, iv sel, .val (.long dl), .second, iv 6, rv a1462, .unset, .unset, .unset, .unset, .unset, .unset, .unset, .unset, .unset, .unset] [(.int 1)]))
    refine Way.ret (v := (some (.int (nar .boolean (1 : Int32))))) X1527 hlk (fun h => by rw [Bd.returns] at h; cases h) (fun fs hr => retN X1527 hx (t := .boolean) Bd.returns (by simp) (hb hby at_67) hr) ?_ (by decide) (by decide)
    show Q0 n0 _ T1526.heap _
    rw [e1538]
    exact ⟨rfl, N1537⟩
  · skip
    show Way _ _ _ _ (s₁.setTop (mkF m 7 #[.val (.long r), .second, .val (.long i), .second, .val (.long d), .second, .val (.long xq), .second, iv sel, .val (.long dl), .second, iv 7, .unset, .unset, .unset, .unset, .unset, .unset, .unset, .unset, .unset, .unset, .unset] []))
    obtain ⟨T1550, h1551, X1552, e1553, E1554, A1555, D1556, -, st1557⟩ := newO X0 hx hZ hown (tw hw 0 rfl) (tw hw 1 rfl) (tw hw 2 rfl) e0 (g := (mkF m 7 #[.val (.long r), .second, .val (.long i), .second, .val (.long d), .second, .val (.long xq), .second, iv sel, .val (.long dl), .second, iv 7, .unset, .unset, .unset, .unset, .unset, .unset, .unset, .unset, .unset, .unset, .unset] [])) rfl (hb hby at_7) (by decide) (by decide)
    obtain ⟨a1558, g1559⟩ : ∃ z, z = h0.size := ⟨_, rfl⟩
    rw [← g1559] at A1555 D1556 st1557
    have nw1560 : n0 ≤ a1558 := Nat.le_trans Z0 (Nat.le_of_eq g1559.symm)
    have Z1561 := Nat.le_trans Z0 E1554.1
    have O1562 := O0.ext E1554
    have F1563 : Fld Z h1551 a1558 "com/example/outbox/outbox/QueueCounts" "ready" "J" (.long (0 : Int64)) := D1556 (Or.inr (tw hw 10 rfl)) (ty := .long) (by decide)
    have F1564 : Fld Z h1551 a1558 "com/example/outbox/outbox/QueueCounts" "inflight" "J" (.long (0 : Int64)) := D1556 (Or.inr (tw hw 12 rfl)) (ty := .long) (by decide)
    have F1565 : Fld Z h1551 a1558 "com/example/outbox/outbox/QueueCounts" "delayed" "J" (.long (0 : Int64)) := D1556 (Or.inr (tw hw 14 rfl)) (ty := .long) (by decide)
    have F1566 : Fld Z h1551 a1558 "com/example/outbox/outbox/QueueCounts" "dead" "J" (.long (0 : Int64)) := D1556 (Or.inr (tw hw 16 rfl)) (ty := .long) (by decide)
    refine Way.by st1557 ?_
    show Way _ _ _ _ (T1550.setTop (mkF m 10 #[.val (.long r), .second, .val (.long i), .second, .val (.long d), .second, .val (.long xq), .second, iv sel, .val (.long dl), .second, iv 7, .unset, .unset, .unset, .unset, .unset, .unset, .unset, .unset, .unset, .unset, .unset] [(.ref a1558)]))
    refine Way.by (fun _ k => XS.dup X1552.here hx rfl (hb hby at_10) rfl rfl k) ?_
    show Way _ _ _ _ (T1550.setTop (mkF m 11 #[.val (.long r), .second, .val (.long i), .second, .val (.long d), .second, .val (.long xq), .second, iv sel, .val (.long dl), .second, iv 7, .unset, .unset, .unset, .unset, .unset, .unset, .unset, .unset, .unset, .unset, .unset] [(.ref a1558), (.ref a1558)]))
    refine Way.by (fun _ k => XT.lloadN X1552.here hx rfl (hb hby at_11) rfl k) ?_
    show Way _ _ _ _ (T1550.setTop (mkF m 12 #[.val (.long r), .second, .val (.long i), .second, .val (.long d), .second, .val (.long xq), .second, iv sel, .val (.long dl), .second, iv 7, .unset, .unset, .unset, .unset, .unset, .unset, .unset, .unset, .unset, .unset, .unset] [(.long r), (.ref a1558), (.ref a1558)]))
    refine Way.by (fun _ k => XT.lloadN X1552.here hx rfl (hb hby at_12) rfl k) ?_
    show Way _ _ _ _ (T1550.setTop (mkF m 13 #[.val (.long r), .second, .val (.long i), .second, .val (.long d), .second, .val (.long xq), .second, iv sel, .val (.long dl), .second, iv 7, .unset, .unset, .unset, .unset, .unset, .unset, .unset, .unset, .unset, .unset, .unset] [(.long i), (.long r), (.ref a1558), (.ref a1558)]))
    refine Way.by (fun _ k => XT.lload X1552.here hx rfl (hb hby at_13) rfl k) ?_
    show Way _ _ _ _ (T1550.setTop (mkF m 15 #[.val (.long r), .second, .val (.long i), .second, .val (.long d), .second, .val (.long xq), .second, iv sel, .val (.long dl), .second, iv 7, .unset, .unset, .unset, .unset, .unset, .unset, .unset, .unset, .unset, .unset, .unset] [(.long d), (.long i), (.long r), (.ref a1558), (.ref a1558)]))
    refine Way.by (fun _ k => XT.lload X1552.here hx rfl (hb hby at_15) rfl k) ?_
    show Way _ _ _ _ (T1550.setTop (mkF m 17 #[.val (.long r), .second, .val (.long i), .second, .val (.long d), .second, .val (.long xq), .second, iv sel, .val (.long dl), .second, iv 7, .unset, .unset, .unset, .unset, .unset, .unset, .unset, .unset, .unset, .unset, .unset] [(.long xq), (.long d), (.long i), (.long r), (.ref a1558), (.ref a1558)]))
    obtain ⟨_, _, ⟨T1567, L1569, k1570, n1571⟩, -, X1568, ⟨Lc1572, hQ1573, l1574, y1575, z1576⟩, st1577⟩ := X1552.specialBack hx (y := (⟨"com/example/outbox/outbox/QueueCounts", "<init>", "(JJJJ)V"⟩ : MethodName)) rfl hown (mvT hZ (tw hw 3 rfl)) (mvT hZ (tw hw 4 rfl)) (mvT hZ (tw hw 5 rfl)) (by decide) (backOf (W := 1) (rmC l Z a0 hw [] a1558 r i d xq h1551 n0 Z1561 A1555 F1563 F1564 F1565 F1566 nw1560) hZ (tw hw 5 rfl) (tw hw 2 rfl) (by decide) (by decide)) (g := (mkF m 17 #[.val (.long r), .second, .val (.long i), .second, .val (.long d), .second, .val (.long xq), .second, iv sel, .val (.long dl), .second, iv 7, .unset, .unset, .unset, .unset, .unset, .unset, .unset, .unset, .unset, .unset, .unset] [(.long xq), (.long d), (.long i), (.long r), (.ref a1558), (.ref a1558)])) rfl (by rw [hml]; rfl) (Steps.refl _) (a := a1558) (argsL := [(.long r), (.long i), (.long d), (.long xq)]) (rest := [(.ref a1558)]) (lenOf pdC rfl) rfl (leW rfl) (hb hby at_17) (fun _ _ => ⟨rfl, e1553, (leB rfl), (leB rfl)⟩)
    dsimp only [Pt.U, Pt.locs, Pt.cells, Pt.slots] at X1568 l1574 y1575 z1576 st1577 hQ1573
    subst l1574 y1575 z1576
    obtain ⟨rfl, N1583, K1584, F_01585, F_11586, F_21587, F_31588, F_41589⟩ := hQ1573
    have N1578 := Fr.app N0 N1583
    have E1590 := A1555.keep K1584
    have Z1591 := Nat.le_trans Z1561 K1584.1
    have O1592 := O1562.keep K1584 (allS nw1560 all0)
    refine Way.to st1577 ?_
    show Way _ _ _ _ (T1567.setTop (mkF m 20 #[.val (.long r), .second, .val (.long i), .second, .val (.long d), .second, .val (.long xq), .second, iv sel, .val (.long dl), .second, iv 7, .unset, .unset, .unset, .unset, .unset, .unset, .unset, .unset, .unset, .unset, .unset] [(.ref a1558)]))
    refine Way.by (fun _ k => XS.astore X1568.here hx rfl (hb hby at_20) rfl rfl (l' := #[.val (.long r), .second, .val (.long i), .second, .val (.long d), .second, .val (.long xq), .second, iv sel, .val (.long dl), .second, iv 7, rv a1558, .unset, .unset, .unset, .unset, .unset, .unset, .unset, .unset, .unset, .unset]) rfl k) ?_
    show Way _ _ _ _ (T1567.setTop (mkF m 22 #[.val (.long r), .second, .val (.long i), .second, .val (.long d), .second, .val (.long xq), .second, iv sel, .val (.long dl), .second, iv 7, rv a1558, .unset, .unset, .unset, .unset, .unset, .unset, .unset, .unset, .unset, .unset] []))
    refine Way.by (fun _ k => XS.iload X1568.here hx rfl (hb hby at_22) rfl k) ?_
    show Way _ _ _ _ (T1567.setTop (mkF m 24 #[.val (.long r), .second, .val (.long i), .second, .val (.long d), .second, .val (.long xq), .second, iv sel, .val (.long dl), .second, iv 7, rv a1558, .unset, .unset, .unset, .unset, .unset, .unset, .unset, .unset, .unset, .unset] [(.int 7)]))
    refine Way.by (fun _ k => XS.iconst X1568.here hx rfl (hb hby at_24) k) ?_
    show Way _ _ _ _ (T1567.setTop (mkF m 25 #[.val (.long r), .second, .val (.long i), .second, .val (.long d), .second, .val (.long xq), .second, iv sel, .val (.long dl), .second, iv 7, rv a1558, .unset, .unset, .unset, .unset, .unset, .unset, .unset, .unset, .unset, .unset] [(.int 5), (.int 7)]))
    have b1593 : ¬ (7 : Int32) = (5 : Int32) := by decide
    refine Way.by (fun _ k => XS.icmpYes X1568.here hx rfl (pc0 := 25) (pc' := 43) rfl (hb hby at_25) rfl (feq b1593).2 (by decide) (by decide) k) ?_
    show Way _ _ _ _ (T1567.setTop (mkF m 43 #[.val (.long r), .second, .val (.long i), .second, .val (.long d), .second, .val (.long xq), .second, iv sel, .val (.long dl), .second, iv 7, rv a1558, .unset, .unset, .unset, .unset, .unset, .unset, .unset, .unset, .unset, .unset] []))
    refine Way.by (fun _ k => XS.iload X1568.here hx rfl (hb hby at_43) rfl k) ?_
    show Way _ _ _ _ (T1567.setTop (mkF m 45 #[.val (.long r), .second, .val (.long i), .second, .val (.long d), .second, .val (.long xq), .second, iv sel, .val (.long dl), .second, iv 7, rv a1558, .unset, .unset, .unset, .unset, .unset, .unset, .unset, .unset, .unset, .unset] [(.int 7)]))
    refine Way.by (fun _ k => XS.bipush X1568.here hx rfl (hb hby at_45) k) ?_
    show Way _ _ _ _ (T1567.setTop (mkF m 47 #[.val (.long r), .second, .val (.long i), .second, .val (.long d), .second, .val (.long xq), .second, iv sel, .val (.long dl), .second, iv 7, rv a1558, .unset, .unset, .unset, .unset, .unset, .unset, .unset, .unset, .unset, .unset] [(.int 6), (.int 7)]))
    have b1594 : ¬ (7 : Int32) = (6 : Int32) := by decide
    refine Way.by (fun _ k => XS.icmpYes X1568.here hx rfl (pc0 := 47) (pc' := 68) rfl (hb hby at_47) rfl (feq b1594).2 (by decide) (by decide) k) ?_
    show Way _ _ _ _ (T1567.setTop (mkF m 68 #[.val (.long r), .second, .val (.long i), .second, .val (.long d), .second, .val (.long xq), .second, iv sel, .val (.long dl), .second, iv 7, rv a1558, .unset, .unset, .unset, .unset, .unset, .unset, .unset, .unset, .unset, .unset] []))
    refine Way.by (fun _ k => XS.iload X1568.here hx rfl (hb hby at_68) rfl k) ?_
    show Way _ _ _ _ (T1567.setTop (mkF m 70 #[.val (.long r), .second, .val (.long i), .second, .val (.long d), .second, .val (.long xq), .second, iv sel, .val (.long dl), .second, iv 7, rv a1558, .unset, .unset, .unset, .unset, .unset, .unset, .unset, .unset, .unset, .unset] [(.int 7)]))
    refine Way.by (fun _ k => XS.bipush X1568.here hx rfl (hb hby at_70) k) ?_
    show Way _ _ _ _ (T1567.setTop (mkF m 72 #[.val (.long r), .second, .val (.long i), .second, .val (.long d), .second, .val (.long xq), .second, iv sel, .val (.long dl), .second, iv 7, rv a1558, .unset, .unset, .unset, .unset, .unset, .unset, .unset, .unset, .unset, .unset] [(.int 7), (.int 7)]))
    have b1595 : (7 : Int32) = (7 : Int32) := by decide
    refine Way.by (fun _ k => XS.icmpNo X1568.here hx rfl (hb hby at_72) rfl (teq b1595).2 k) ?_
    show Way _ _ _ _ (T1567.setTop (mkF m 75 #[.val (.long r), .second, .val (.long i), .second, .val (.long d), .second, .val (.long xq), .second, iv sel, .val (.long dl), .second, iv 7, rv a1558, .unset, .unset, .unset, .unset, .unset, .unset, .unset, .unset, .unset, .unset] []))
    refine Way.by (fun _ k => XS.aload X1568.here hx rfl (hb hby at_75) rfl rfl k) ?_
    show Way _ _ _ _ (T1567.setTop (mkF m 77 #[.val (.long r), .second, .val (.long i), .second, .val (.long d), .second, .val (.long xq), .second, iv sel, .val (.long dl), .second, iv 7, rv a1558, .unset, .unset, .unset, .unset, .unset, .unset, .unset, .unset, .unset, .unset] [(.ref a1558)]))
    refine Way.by (fun _ k => XS.aload X1568.here hx rfl (hb hby at_77) rfl rfl k) ?_
    show Way _ _ _ _ (T1567.setTop (mkF m 79 #[.val (.long r), .second, .val (.long i), .second, .val (.long d), .second, .val (.long xq), .second, iv sel, .val (.long dl), .second, iv 7, rv a1558, .unset, .unset, .unset, .unset, .unset, .unset, .unset, .unset, .unset, .unset] [(.ref a1558), (.ref a1558)]))
    obtain ⟨cq1612, kq1613, qa1614, qb1615, qc1616⟩ := isOf hZ rfl F_01585
    obtain ⟨_, _, ⟨T1596, L1598, k1599, n1600⟩, -, X1597, ⟨Lc1601, hQ1602, l1603, y1604, z1605⟩, st1606⟩ := X1568.virtualBack hx (y := (⟨"com/example/outbox/outbox/QueueCounts", "equals", "(Ljava/lang/Object;)Z"⟩ : MethodName)) (z := (⟨"com/example/outbox/outbox/QueueCounts", "equals", "(Ljava/lang/Object;)Z"⟩ : MethodName)) hown (mvT hZ (tw hw 17 rfl)) (mvT hZ (tw hw 18 rfl)) (notFace_of_selects (args := #[]) (mvT hZ (tw hw 20 rfl))) (mvT hZ (tw hw 20 rfl)) (mvT hZ (tw hw 19 rfl)) (by decide) (backOf (W := 0) (rmE l Z a0 hw [] a1558 a1558 r i d xq r i d xq (1 : Int32) T1567.heap n0 Z1591 F_01585 F_11586 F_21587 F_31588 F_41589 F_11586 F_21587 F_31588 F_41589 (by simp)) hZ (tw hw 21 rfl) (tw hw 2 rfl) (by decide) (by decide)) qa1614 qc1616 (g := (mkF m 79 #[.val (.long r), .second, .val (.long i), .second, .val (.long d), .second, .val (.long xq), .second, iv sel, .val (.long dl), .second, iv 7, rv a1558, .unset, .unset, .unset, .unset, .unset, .unset, .unset, .unset, .unset, .unset] [(.ref a1558), (.ref a1558)])) rfl (by rw [hml]; rfl) (Steps.refl _) (argsL := [(.ref a1558)]) (rest := []) (lenOf pdE rfl) rfl (leW rfl) (hb hby at_79) (fun _ _ => ⟨rfl, rfl, (leB rfl), (leB rfl)⟩)
    dsimp only [Pt.U, Pt.locs, Pt.cells, Pt.slots] at X1597 l1603 y1604 z1605 st1606 hQ1602
    subst l1603 y1604 z1605
    obtain ⟨rfl, N1617, e1608⟩ := hQ1602
    have N1607 := Fr.app N1578 N1617
    refine Way.to st1606 ?_
    show Way _ _ _ _ (T1596.setTop (mkF m 82 #[.val (.long r), .second, .val (.long i), .second, .val (.long d), .second, .val (.long xq), .second, iv sel, .val (.long dl), .second, iv 7, rv a1558, .unset, .unset, .unset, .unset, .unset, .unset, .unset, .unset, .unset, .unset] [(.int 1)]))
    refine Way.ret (v := (some (.int (nar .boolean (1 : Int32))))) X1597 hlk (fun h => by rw [Bd.returns] at h; cases h) (fun fs hr => retN X1597 hx (t := .boolean) Bd.returns (by simp) (hb hby at_82) hr) ?_ (by decide) (by decide)
    show Q0 n0 _ T1596.heap _
    rw [e1608]
    exact ⟨rfl, N1607⟩
set_option maxRecDepth 65536 in
set_option maxHeartbeats 40000000 in
theorem comes_1 {Post : Tables → Env → Array Value → State → Outcome → State → Prop} (hpost : ∀ tb e args s v u, (limb_1_1.after args s (.returned v) u = true ∧ limb_1_2.after args s (.returned v) u = true ∧ True) → FrameEnd s (.returned v) u (Jvm.fieldLocs frame_1_writes args s ++ Jvm.arrayLocs frame_1_arrays args s ++ Jvm.staticLocs frame_1_statics s) 16 128 → Post tb e args s (.returned v) u) :
    ArmFor flags0 classFile x code maxLocals ret World_1 tables_1 room_1 Calls_1 rest_1 Pre_1 Post := by
  intro l hfl _ _ p e ha hc hk s m args below hf hA hF happ hP
  obtain ⟨hcalls, hrest, hpre⟩ := hP
  obtain ⟨-, -, -, hnamed, -, -, -, hat⟩ := (Spec.applies_iff hf).mp happ
  obtain ⟨hg, hn⟩ := and_e (Cond.before_iff.mp (show (Jvm.Cond.and given_1 narrow_1).before args s = true from hpre))
  obtain ⟨hg0, hgr0⟩ := and_e hg
  obtain ⟨hg1, hgr1⟩ := and_e hgr0
  obtain ⟨hg2, hgr2⟩ := and_e hgr1
  obtain ⟨hg3, hgr3⟩ := and_e hgr2
  obtain ⟨hg4, hgr4⟩ := and_e hgr3
  obtain ⟨hg5, hgr5⟩ := and_e hgr4
  obtain ⟨w0, w1, w2, w3, w4, w5, rfl⟩ : ∃ w0 w1 w2 w3 w4 w5 : Value, args = #[w0, w1, w2, w3, w4, w5] := by
    have hs : args.size = 6 := by simpa [Cond.value, given_1] using hg0
    obtain ⟨L⟩ := args
    match L, hs with
    | [w0, w1, w2, w3, w4, w5], _ => exact ⟨w0, w1, w2, w3, w4, w5, rfl⟩
  have hw := fun d (hd : d ∈ tables_1) => atoms_spec (ws := Jvm.Cond.code x code maxLocals ret :: tables_1) hat d (List.mem_cons_of_mem _ hd)
  have hfit : Fit s := fun {y c} hc i hi => by
    obtain ⟨ha, rfl⟩ := Array.getElem?_eq_some_iff.mp hc
    have q := List.all_eq_true.mp ((Array.all_eq_true_iff_forall_mem.mp hF) _ (Array.getElem_mem ha)) i (List.mem_range.mpr hi)
    simpa [Array.getElem?_eq_getElem hi] using q
  obtain ⟨i0, ei0⟩ := isL_v hg1
  obtain rfl : w0 = (.long i0) := Option.some.inj ei0
  obtain ⟨i1, ei1⟩ := isL_v hg2
  obtain rfl : w1 = (.long i1) := Option.some.inj ei1
  obtain ⟨i2, ei2⟩ := isL_v hg3
  obtain rfl : w2 = (.long i2) := Option.some.inj ei2
  obtain ⟨i3, ei3⟩ := isL_v hg4
  obtain rfl : w3 = (.long i3) := Option.some.inj ei3
  obtain ⟨i4, ei4⟩ := is_v hg5
  obtain rfl : w4 = (.int i4) := Option.some.inj ei4
  obtain ⟨i5, ei5⟩ := isL_v hgr5
  obtain rfl : w5 = (.long i5) := Option.some.inj ei5
  have hs := atoms_of jdkStatics_1 (show (jdkStatics_1.foldr Jvm.Cond.and restOwn_1).before _ s = true from hrest)
  obtain ⟨ca, cc, CS, CA, CN, CE⟩ := cacheStart (Or.inl (hs.1 _ (List.mem_of_getElem? (i := 1) rfl))) (hs.1 _ (List.mem_of_getElem? (i := 2) rfl)) (hs.1 _ (List.mem_of_getElem? (i := 3) rfl)) (hs.1 _ (List.mem_of_getElem? (i := 4) rfl)) (hs.1 _ (List.mem_of_getElem? (i := 5) rfl))
  obtain ⟨n, o, h1, h2, h3, _, L, rfl, ⟨rfl, N⟩, hq⟩ := rm0 l s _ hw tables_1 i0 i1 i2 i3 i4 i5 ca cc s.heap s.heap.size (Nat.le_refl _) (Old.start s) CS CA CN CE p e ha hc hk s m _ below hf ((Spec.applies_iff_loose hf).mp happ).1 ⟨rfl, State.Warmed39.refl s, rfl⟩ trivial
  refine ⟨n, _, h1, h2, h3, hpost _ _ _ _ _ _ ⟨Cond.after_iff.mpr rfl, Cond.after_iff.mpr (eq_i res_at (Term.int_eval (1)) rfl), trivial⟩ ⟨hq.1, hq.2.1, (hq.2.2.sift fun y hy => Or.inr (N y hy)).mono (by decide) (by decide)⟩⟩
theorem main_1_1 : Claimed_1_1 := comes_1 fun _ _ _ _ _ _ h hF => ⟨h.1, hF⟩
theorem main_1_2 : Claimed_1_2 := comes_1 fun _ _ _ _ _ _ h hF => ⟨h.2.1, hF⟩
end Jvm.Pilot.@@N@@
namespace Jvm.Pilot.@@N@@
open Jvm Jvm.ClassFile Sem Op Lib Jvm.Free Jvm.Stand Jvm.Pilot.@@N@@.Jvm.D
/-! MADE BY PROGRAM (witnessworld.py) out of the Statement's table words and the real class files: 16 classes; the members and pool entries that the words name. The judged class is class 1, her method 1. -/
namespace start1
open Jvm.ClassFile
def u (s : String) : CpInfo := .utf8 (stringToUtf16 s)
/-- a pool by its gaps: so many unusable entries, then the entry; so many at the end -/
def gap : Nat → List CpInfo → List CpInfo
  | 0, r => r
  | n + 1, r => .unusable :: gap n r
def poolList (es : List (Nat × CpInfo)) (last : Nat) : List CpInfo := es.foldr (fun e r => gap e.1 (e.2 :: r)) (gap last [])
def pool (es : List (Nat × CpInfo)) (last : Nat) : Array CpInfo := ⟨poolList es last⟩
def fileOf (pool : Array CpInfo) (this : Nat) (attrs : Array Attribute := #[]) (ms : Array MethodInfo := #[]) (fl : Nat := 33) (sup : Nat := 0) (ifs : Array Nat := #[]) (fds : Array FieldInfo := #[]) : ClassFile where
  minorVersion := 0
  majorVersion := 65
  constantPool := pool
  accessFlags := fl
  thisClass := this
  superClass := sup
  interfaces := ifs
  fields := fds
  methods := ms
  attributes := attrs
def plain (name : String) (sup : Option ClassId) : Class where
  name := name
  kind := .ordinary
  loader := none
  accessFlags := 33
  super := sup
  interfaces := #[]
  cf := none
  fields := #[]
  methods := #[]
  instanceTypes := #[]
  staticTypes := #[]
  resolved := #[]
  callSites := []
  init := .initialized
  statics := none
  mirror := none

def pool0 : Array CpInfo := pool [(5, u "<init>"), (0, u "()V"), (1, .class_ 10), (1, u "java/lang/Object")] 113

def k0c0 : Code := { maxStack := 0, maxLocals := 1, code := object_method_1_code, exceptionTable := #[], attributes := #[] }
def k0m0 : Method := { name := "<init>", desc := "()V", sig := { parameters := [], returnType := none }, accessFlags := 1, code := some k0c0 }
/-- java/lang/Object -/
def k0 : Class := { plain "java/lang/Object" none with
  accessFlags := 33
  interfaces := #[]
  cf := some (fileOf pool0 8 #[] #[{ accessFlags := 1, nameIndex := 5, descriptorIndex := 6, attributes := #[] }] 33 0 #[] #[])
  fields := #[]
  methods := #[k0m0]
  instanceTypes := #[]
  staticTypes := #[]
  resolved := Array.replicate 124 none
  statics := none }

def pool1 : Array CpInfo := pool [(2, .class_ 4), (1, u "java/lang/Object"), (0, u "<init>"), (0, u "()V"), (0, .class_ 8), (0, u "com/example/outbox/outbox/QueueCounts"), (0, .methodref 7 10), (0, .nameAndType 5 11), (0, u "(JJJJ)V"), (0, .methodref 7 13), (0, .nameAndType 14 15), (0, u "equals"), (0, u "(Ljava/lang/Object;)Z"), (0, .methodref 17 18), (0, .class_ 19), (0, .nameAndType 20 21), (0, u "java/lang/Long"), (0, u "valueOf"), (0, u "(J)Ljava/lang/Long;"), (0, .class_ 23), (0, u "com/example/outbox/outbox/QueueCountsEqualsPinLaw"), (2, u "law"), (0, u "(JJJJIJ)Z")] 3

def k1m0 : Method := { name := "<init>", desc := "()V", sig := { parameters := [], returnType := none }, accessFlags := 1, code := none }
def k1c1 : Code := { maxStack := 10, maxLocals := 23, code := code, exceptionTable := #[], attributes := #[] }
def k1m1 : Method := { name := "law", desc := "(JJJJIJ)Z", sig := { parameters := [.long, .long, .long, .long, .int, .long], returnType := some .boolean }, accessFlags := 9, code := some k1c1 }
/-- com/example/outbox/outbox/QueueCountsEqualsPinLaw -/
def k1 : Class := { plain "com/example/outbox/outbox/QueueCountsEqualsPinLaw" (some 0) with
  accessFlags := 49
  interfaces := #[]
  cf := some (fileOf pool1 22 #[] #[{ accessFlags := 1, nameIndex := 5, descriptorIndex := 6, attributes := #[] }, { accessFlags := 9, nameIndex := 26, descriptorIndex := 27, attributes := #[] }] 49 2 #[] #[])
  fields := #[]
  methods := #[k1m0, k1m1]
  instanceTypes := #[]
  staticTypes := #[]
  resolved := Array.replicate 31 none
  statics := none }

def pool2 : Array CpInfo := pool [(1, .methodref 2 3), (0, .class_ 4), (0, .nameAndType 5 6), (0, u "java/lang/Object"), (0, u "<init>"), (0, u "()V"), (0, .fieldref 8 9), (0, .class_ 10), (0, .nameAndType 11 12), (0, u "com/example/outbox/outbox/QueueCounts"), (0, u "ready"), (0, u "J"), (0, .fieldref 8 14), (0, .nameAndType 15 12), (0, u "inflight"), (0, .fieldref 8 17), (0, .nameAndType 18 12), (0, u "delayed"), (0, .fieldref 8 20), (0, .nameAndType 21 12), (0, u "dead"), (16, u "(JJJJ)V"), (3, u "equals"), (0, u "(Ljava/lang/Object;)Z")] 22

def k2c0 : Code := { maxStack := 3, maxLocals := 9, code := prog_5_method_1_code, exceptionTable := #[], attributes := #[] }
def k2m0 : Method := { name := "<init>", desc := "(JJJJ)V", sig := { parameters := [.long, .long, .long, .long], returnType := none }, accessFlags := 1, code := some k2c0 }
def k2c1 : Code := { maxStack := 4, maxLocals := 3, code := prog_5_method_6_code, exceptionTable := #[], attributes := #[] }
def k2m1 : Method := { name := "equals", desc := "(Ljava/lang/Object;)Z", sig := { parameters := [(.object "java/lang/Object")], returnType := some .boolean }, accessFlags := 1, code := some k2c1 }
/-- com/example/outbox/outbox/QueueCounts -/
def k2 : Class := { plain "com/example/outbox/outbox/QueueCounts" (some 0) with
  accessFlags := 49
  interfaces := #[]
  cf := some (fileOf pool2 8 #[] #[{ accessFlags := 1, nameIndex := 5, descriptorIndex := 38, attributes := #[] }, { accessFlags := 1, nameIndex := 42, descriptorIndex := 43, attributes := #[] }] 49 2 #[] #[{ accessFlags := 18, nameIndex := 11, descriptorIndex := 12, attributes := #[] }, { accessFlags := 18, nameIndex := 15, descriptorIndex := 12, attributes := #[] }, { accessFlags := 18, nameIndex := 18, descriptorIndex := 12, attributes := #[] }, { accessFlags := 18, nameIndex := 21, descriptorIndex := 12, attributes := #[] }])
  fields := #[{ name := "ready", type := .long, accessFlags := 18, slot := 0, constantValue := 0 }, { name := "inflight", type := .long, accessFlags := 18, slot := 1, constantValue := 0 }, { name := "delayed", type := .long, accessFlags := 18, slot := 2, constantValue := 0 }, { name := "dead", type := .long, accessFlags := 18, slot := 3, constantValue := 0 }]
  methods := #[k2m0, k2m1]
  instanceTypes := #[.long, .long, .long, .long]
  staticTypes := #[]
  resolved := Array.replicate 66 none
  statics := none }

def pool3 : Array CpInfo := pool [(1, .class_ 2), (0, u "java/io/Serializable"), (0, .class_ 4), (0, u "java/lang/Object")] 2

/-- java/io/Serializable -/
def k3 : Class := { plain "java/io/Serializable" (some 0) with
  accessFlags := 1537
  interfaces := #[]
  cf := some (fileOf pool3 1 #[] #[] 1537 3 #[] #[])
  fields := #[]
  methods := #[]
  instanceTypes := #[]
  staticTypes := #[]
  resolved := Array.replicate 7 none
  statics := none }

def pool4 : Array CpInfo := pool [(1, .methodref 2 3), (0, .class_ 4), (0, .nameAndType 5 6), (0, u "java/lang/Object"), (0, u "<init>"), (0, u "()V"), (1, .class_ 10), (1, u "java/lang/Number"), (2, .class_ 14), (0, u "java/io/Serializable"), (0, u "serialVersionUID"), (0, u "J")] 20

def k4c0 : Code := { maxStack := 1, maxLocals := 1, code := jdk_18_method_1_code, exceptionTable := #[], attributes := #[] }
def k4m0 : Method := { name := "<init>", desc := "()V", sig := { parameters := [], returnType := none }, accessFlags := 1, code := some k4c0 }
/-- java/lang/Number -/
def k4 : Class := { plain "java/lang/Number" (some 0) with
  accessFlags := 1057
  interfaces := #[3]
  cf := some (fileOf pool4 8 #[] #[{ accessFlags := 1, nameIndex := 5, descriptorIndex := 6, attributes := #[] }] 1057 2 #[13] #[{ accessFlags := 26, nameIndex := 15, descriptorIndex := 16, attributes := #[] }])
  fields := #[{ name := "serialVersionUID", type := .long, accessFlags := 26, slot := 0, constantValue := 0 }]
  methods := #[k4m0]
  instanceTypes := #[]
  staticTypes := #[.long]
  resolved := Array.replicate 37 none
  statics := none }

def pool5 : Array CpInfo := pool [(1, .class_ 2), (0, u "java/lang/Comparable"), (0, .class_ 4), (0, u "java/lang/Object")] 7

/-- java/lang/Comparable -/
def k5 : Class := { plain "java/lang/Comparable" (some 0) with
  accessFlags := 1537
  interfaces := #[]
  cf := some (fileOf pool5 1 #[] #[] 1537 3 #[] #[])
  fields := #[]
  methods := #[]
  instanceTypes := #[]
  staticTypes := #[]
  resolved := Array.replicate 12 none
  statics := none }

def pool6 : Array CpInfo := pool [(1, .class_ 2), (0, u "java/lang/constant/Constable"), (0, .class_ 4), (0, u "java/lang/Object")] 6

/-- java/lang/constant/Constable -/
def k6 : Class := { plain "java/lang/constant/Constable" (some 0) with
  accessFlags := 1537
  interfaces := #[]
  cf := some (fileOf pool6 1 #[] #[] 1537 3 #[] #[])
  fields := #[]
  methods := #[]
  instanceTypes := #[]
  staticTypes := #[]
  resolved := Array.replicate 11 none
  statics := none }

def pool7 : Array CpInfo := pool [(1, .class_ 2), (0, u "java/lang/constant/ConstantDesc"), (0, .class_ 4), (0, u "java/lang/Object")] 32

/-- java/lang/constant/ConstantDesc -/
def k7 : Class := { plain "java/lang/constant/ConstantDesc" (some 0) with
  accessFlags := 1537
  interfaces := #[]
  cf := some (fileOf pool7 1 #[] #[] 1537 3 #[] #[])
  fields := #[]
  methods := #[]
  instanceTypes := #[]
  staticTypes := #[]
  resolved := Array.replicate 37 none
  statics := none }

def pool8 : Array CpInfo := pool [(1, .class_ 2), (0, u "java/lang/Long"), (55, .nameAndType 59 60), (0, u "<init>"), (0, u "()V"), (24, u "valueOf"), (143, u "(J)Ljava/lang/Long;"), (0, .long 18446744073709551488), (1, .long 127), (1, .fieldref 235 236), (0, .class_ 237), (0, .nameAndType 238 239), (0, u "java/lang/Long$LongCache"), (0, u "cache"), (0, u "[Ljava/lang/Long;"), (0, .methodref 1 241), (0, .nameAndType 59 242), (0, u "(J)V"), (27, .methodref 271 58), (0, .class_ 272), (0, u "java/lang/Number"), (0, .fieldref 1 274), (0, .nameAndType 275 276), (0, u "value"), (0, u "J"), (84, u "TYPE"), (0, u "Ljava/lang/Class;"), (0, .class_ 364), (0, u "java/lang/Comparable"), (0, .class_ 366), (0, u "java/lang/constant/Constable"), (0, .class_ 368), (0, u "java/lang/constant/ConstantDesc"), (0, u "MIN_VALUE"), (1, u "MAX_VALUE"), (4, u "SIZE"), (0, u "I"), (1, u "BYTES"), (1, u "serialVersionUID")] 142

def k8c0 : Code := { maxStack := 4, maxLocals := 3, code := jdk_35_method_24_code, exceptionTable := #[], attributes := #[] }
def k8m0 : Method := { name := "valueOf", desc := "(J)Ljava/lang/Long;", sig := { parameters := [.long], returnType := some (.object "java/lang/Long") }, accessFlags := 9, code := some k8c0 }
def k8c1 : Code := { maxStack := 3, maxLocals := 3, code := jdk_35_method_26_code, exceptionTable := #[], attributes := #[] }
def k8m1 : Method := { name := "<init>", desc := "(J)V", sig := { parameters := [.long], returnType := none }, accessFlags := 1, code := some k8c1 }
/-- java/lang/Long -/
def k8 : Class := { plain "java/lang/Long" (some 4) with
  accessFlags := 49
  interfaces := #[5, 6, 7]
  cf := some (fileOf pool8 1 #[.nestMembers #[235]] #[{ accessFlags := 9, nameIndex := 85, descriptorIndex := 229, attributes := #[] }, { accessFlags := 1, nameIndex := 59, descriptorIndex := 242, attributes := #[] }] 49 271 #[363, 365, 367] #[{ accessFlags := 25, nameIndex := 369, descriptorIndex := 276, attributes := #[] }, { accessFlags := 25, nameIndex := 371, descriptorIndex := 276, attributes := #[] }, { accessFlags := 25, nameIndex := 361, descriptorIndex := 362, attributes := #[] }, { accessFlags := 18, nameIndex := 275, descriptorIndex := 276, attributes := #[] }, { accessFlags := 25, nameIndex := 376, descriptorIndex := 377, attributes := #[] }, { accessFlags := 25, nameIndex := 379, descriptorIndex := 377, attributes := #[] }, { accessFlags := 26, nameIndex := 381, descriptorIndex := 276, attributes := #[] }])
  fields := #[{ name := "MIN_VALUE", type := .long, accessFlags := 25, slot := 0, constantValue := 0 }, { name := "MAX_VALUE", type := .long, accessFlags := 25, slot := 1, constantValue := 0 }, { name := "TYPE", type := (.object "java/lang/Class"), accessFlags := 25, slot := 2, constantValue := 0 }, { name := "value", type := .long, accessFlags := 18, slot := 0, constantValue := 0 }, { name := "SIZE", type := .int, accessFlags := 25, slot := 3, constantValue := 0 }, { name := "BYTES", type := .int, accessFlags := 25, slot := 4, constantValue := 0 }, { name := "serialVersionUID", type := .long, accessFlags := 26, slot := 5, constantValue := 0 }]
  methods := #[k8m0, k8m1]
  instanceTypes := #[.long]
  staticTypes := #[.long, .long, (.object "java/lang/Class"), .int, .int, .long]
  resolved := Array.replicate 524 none
  statics := none }

def pool9 : Array CpInfo := pool [(2, .class_ 4), (1, u "java/lang/Object"), (0, u "<init>"), (0, u "()V"), (0, .class_ 8), (0, u "java/lang/Long"), (7, .class_ 18), (1, u "java/lang/Long$LongCache"), (0, u "$assertionsDisabled"), (0, u "Z"), (8, u "archivedCache"), (0, u "[Ljava/lang/Long;"), (7, u "cache")] 24

def k9m0 : Method := { name := "<init>", desc := "()V", sig := { parameters := [], returnType := none }, accessFlags := 2, code := none }
/-- java/lang/Long$LongCache -/
def k9 : Class := { plain "java/lang/Long$LongCache" (some 0) with
  accessFlags := 48
  interfaces := #[]
  cf := some (fileOf pool9 16 #[.nestHost 7] #[{ accessFlags := 2, nameIndex := 5, descriptorIndex := 6, attributes := #[] }] 48 2 #[] #[{ accessFlags := 24, nameIndex := 38, descriptorIndex := 30, attributes := #[] }, { accessFlags := 8, nameIndex := 29, descriptorIndex := 30, attributes := #[] }, { accessFlags := 4120, nameIndex := 19, descriptorIndex := 20, attributes := #[] }])
  fields := #[{ name := "cache", type := (.array (.object "java/lang/Long")), accessFlags := 24, slot := 0, constantValue := 0 }, { name := "archivedCache", type := (.array (.object "java/lang/Long")), accessFlags := 8, slot := 1, constantValue := 0 }, { name := "$assertionsDisabled", type := .boolean, accessFlags := 4120, slot := 2, constantValue := 0 }]
  methods := #[k9m0]
  instanceTypes := #[]
  staticTypes := #[(.array (.object "java/lang/Long")), (.array (.object "java/lang/Long")), .boolean]
  resolved := Array.replicate 63 none
  statics := some 0 }

def pool10 : Array CpInfo := pool [(1, u "java/lang/Cloneable"), (0, .class_ 1), (0, u "java/lang/Object"), (0, .class_ 3)] 3

/-- java/lang/Cloneable -/
def k10 : Class := { plain "java/lang/Cloneable" (some 0) with
  accessFlags := 1537
  interfaces := #[]
  cf := some (fileOf pool10 2 #[] #[] 1537 4 #[] #[])
  fields := #[]
  methods := #[]
  instanceTypes := #[]
  staticTypes := #[]
  resolved := Array.replicate 8 none
  statics := none }

/-- the primitive byte -/
def k11 : Class := { plain "byte" none with kind := .primitive 'B', accessFlags := 0x411 }
/-- [B -/
def k12 : Class := { plain "[B" (some 0) with kind := .array 11 .byte, interfaces := #[10, 3], accessFlags := 1041 }

/-- the primitive int -/
def k13 : Class := { plain "int" none with kind := .primitive 'I', accessFlags := 0x411 }
/-- [I -/
def k14 : Class := { plain "[I" (some 0) with kind := .array 13 .int, interfaces := #[10, 3], accessFlags := 1041 }

/-- [Ljava/lang/Long; -/
def k15 : Class := { plain "[Ljava/lang/Long;" (some 0) with kind := .array 8 (.object "java/lang/Long"), interfaces := #[10, 3], accessFlags := 1041 }

def heap : Heap := #[{ cls := 9, slots := #[.ref 1, .null, .int 0], vm := .statics 9 },
  { cls := 15, slots := #[.ref 2, .ref 3, .ref 4, .ref 5, .ref 6, .ref 7, .ref 8, .ref 9, .ref 10, .ref 11, .ref 12, .ref 13, .ref 14, .ref 15, .ref 16, .ref 17, .ref 18, .ref 19, .ref 20, .ref 21, .ref 22, .ref 23, .ref 24, .ref 25, .ref 26, .ref 27, .ref 28, .ref 29, .ref 30, .ref 31, .ref 32, .ref 33, .ref 34, .ref 35, .ref 36, .ref 37, .ref 38, .ref 39, .ref 40, .ref 41, .ref 42, .ref 43, .ref 44, .ref 45, .ref 46, .ref 47, .ref 48, .ref 49, .ref 50, .ref 51, .ref 52, .ref 53, .ref 54, .ref 55, .ref 56, .ref 57, .ref 58, .ref 59, .ref 60, .ref 61, .ref 62, .ref 63, .ref 64, .ref 65, .ref 66, .ref 67, .ref 68, .ref 69, .ref 70, .ref 71, .ref 72, .ref 73, .ref 74, .ref 75, .ref 76, .ref 77, .ref 78, .ref 79, .ref 80, .ref 81, .ref 82, .ref 83, .ref 84, .ref 85, .ref 86, .ref 87, .ref 88, .ref 89, .ref 90, .ref 91, .ref 92, .ref 93, .ref 94, .ref 95, .ref 96, .ref 97, .ref 98, .ref 99, .ref 100, .ref 101, .ref 102, .ref 103, .ref 104, .ref 105, .ref 106, .ref 107, .ref 108, .ref 109, .ref 110, .ref 111, .ref 112, .ref 113, .ref 114, .ref 115, .ref 116, .ref 117, .ref 118, .ref 119, .ref 120, .ref 121, .ref 122, .ref 123, .ref 124, .ref 125, .ref 126, .ref 127, .ref 128, .ref 129, .ref 130, .ref 131, .ref 132, .ref 133, .ref 134, .ref 135, .ref 136, .ref 137, .ref 138, .ref 139, .ref 140, .ref 141, .ref 142, .ref 143, .ref 144, .ref 145, .ref 146, .ref 147, .ref 148, .ref 149, .ref 150, .ref 151, .ref 152, .ref 153, .ref 154, .ref 155, .ref 156, .ref 157, .ref 158, .ref 159, .ref 160, .ref 161, .ref 162, .ref 163, .ref 164, .ref 165, .ref 166, .ref 167, .ref 168, .ref 169, .ref 170, .ref 171, .ref 172, .ref 173, .ref 174, .ref 175, .ref 176, .ref 177, .ref 178, .ref 179, .ref 180, .ref 181, .ref 182, .ref 183, .ref 184, .ref 185, .ref 186, .ref 187, .ref 188, .ref 189, .ref 190, .ref 191, .ref 192, .ref 193, .ref 194, .ref 195, .ref 196, .ref 197, .ref 198, .ref 199, .ref 200, .ref 201, .ref 202, .ref 203, .ref 204, .ref 205, .ref 206, .ref 207, .ref 208, .ref 209, .ref 210, .ref 211, .ref 212, .ref 213, .ref 214, .ref 215, .ref 216, .ref 217, .ref 218, .ref 219, .ref 220, .ref 221, .ref 222, .ref 223, .ref 224, .ref 225, .ref 226, .ref 227, .ref 228, .ref 229, .ref 230, .ref 231, .ref 232, .ref 233, .ref 234, .ref 235, .ref 236, .ref 237, .ref 238, .ref 239, .ref 240, .ref 241, .ref 242, .ref 243, .ref 244, .ref 245, .ref 246, .ref 247, .ref 248, .ref 249, .ref 250, .ref 251, .ref 252, .ref 253, .ref 254, .ref 255, .ref 256, .ref 257], vm := .none },
  { cls := 8, slots := #[.long (-128)], vm := .none },
  { cls := 8, slots := #[.long (-127)], vm := .none },
  { cls := 8, slots := #[.long (-126)], vm := .none },
  { cls := 8, slots := #[.long (-125)], vm := .none },
  { cls := 8, slots := #[.long (-124)], vm := .none },
  { cls := 8, slots := #[.long (-123)], vm := .none },
  { cls := 8, slots := #[.long (-122)], vm := .none },
  { cls := 8, slots := #[.long (-121)], vm := .none },
  { cls := 8, slots := #[.long (-120)], vm := .none },
  { cls := 8, slots := #[.long (-119)], vm := .none },
  { cls := 8, slots := #[.long (-118)], vm := .none },
  { cls := 8, slots := #[.long (-117)], vm := .none },
  { cls := 8, slots := #[.long (-116)], vm := .none },
  { cls := 8, slots := #[.long (-115)], vm := .none },
  { cls := 8, slots := #[.long (-114)], vm := .none },
  { cls := 8, slots := #[.long (-113)], vm := .none },
  { cls := 8, slots := #[.long (-112)], vm := .none },
  { cls := 8, slots := #[.long (-111)], vm := .none },
  { cls := 8, slots := #[.long (-110)], vm := .none },
  { cls := 8, slots := #[.long (-109)], vm := .none },
  { cls := 8, slots := #[.long (-108)], vm := .none },
  { cls := 8, slots := #[.long (-107)], vm := .none },
  { cls := 8, slots := #[.long (-106)], vm := .none },
  { cls := 8, slots := #[.long (-105)], vm := .none },
  { cls := 8, slots := #[.long (-104)], vm := .none },
  { cls := 8, slots := #[.long (-103)], vm := .none },
  { cls := 8, slots := #[.long (-102)], vm := .none },
  { cls := 8, slots := #[.long (-101)], vm := .none },
  { cls := 8, slots := #[.long (-100)], vm := .none },
  { cls := 8, slots := #[.long (-99)], vm := .none },
  { cls := 8, slots := #[.long (-98)], vm := .none },
  { cls := 8, slots := #[.long (-97)], vm := .none },
  { cls := 8, slots := #[.long (-96)], vm := .none },
  { cls := 8, slots := #[.long (-95)], vm := .none },
  { cls := 8, slots := #[.long (-94)], vm := .none },
  { cls := 8, slots := #[.long (-93)], vm := .none },
  { cls := 8, slots := #[.long (-92)], vm := .none },
  { cls := 8, slots := #[.long (-91)], vm := .none },
  { cls := 8, slots := #[.long (-90)], vm := .none },
  { cls := 8, slots := #[.long (-89)], vm := .none },
  { cls := 8, slots := #[.long (-88)], vm := .none },
  { cls := 8, slots := #[.long (-87)], vm := .none },
  { cls := 8, slots := #[.long (-86)], vm := .none },
  { cls := 8, slots := #[.long (-85)], vm := .none },
  { cls := 8, slots := #[.long (-84)], vm := .none },
  { cls := 8, slots := #[.long (-83)], vm := .none },
  { cls := 8, slots := #[.long (-82)], vm := .none },
  { cls := 8, slots := #[.long (-81)], vm := .none },
  { cls := 8, slots := #[.long (-80)], vm := .none },
  { cls := 8, slots := #[.long (-79)], vm := .none },
  { cls := 8, slots := #[.long (-78)], vm := .none },
  { cls := 8, slots := #[.long (-77)], vm := .none },
  { cls := 8, slots := #[.long (-76)], vm := .none },
  { cls := 8, slots := #[.long (-75)], vm := .none },
  { cls := 8, slots := #[.long (-74)], vm := .none },
  { cls := 8, slots := #[.long (-73)], vm := .none },
  { cls := 8, slots := #[.long (-72)], vm := .none },
  { cls := 8, slots := #[.long (-71)], vm := .none },
  { cls := 8, slots := #[.long (-70)], vm := .none },
  { cls := 8, slots := #[.long (-69)], vm := .none },
  { cls := 8, slots := #[.long (-68)], vm := .none },
  { cls := 8, slots := #[.long (-67)], vm := .none },
  { cls := 8, slots := #[.long (-66)], vm := .none },
  { cls := 8, slots := #[.long (-65)], vm := .none },
  { cls := 8, slots := #[.long (-64)], vm := .none },
  { cls := 8, slots := #[.long (-63)], vm := .none },
  { cls := 8, slots := #[.long (-62)], vm := .none },
  { cls := 8, slots := #[.long (-61)], vm := .none },
  { cls := 8, slots := #[.long (-60)], vm := .none },
  { cls := 8, slots := #[.long (-59)], vm := .none },
  { cls := 8, slots := #[.long (-58)], vm := .none },
  { cls := 8, slots := #[.long (-57)], vm := .none },
  { cls := 8, slots := #[.long (-56)], vm := .none },
  { cls := 8, slots := #[.long (-55)], vm := .none },
  { cls := 8, slots := #[.long (-54)], vm := .none },
  { cls := 8, slots := #[.long (-53)], vm := .none },
  { cls := 8, slots := #[.long (-52)], vm := .none },
  { cls := 8, slots := #[.long (-51)], vm := .none },
  { cls := 8, slots := #[.long (-50)], vm := .none },
  { cls := 8, slots := #[.long (-49)], vm := .none },
  { cls := 8, slots := #[.long (-48)], vm := .none },
  { cls := 8, slots := #[.long (-47)], vm := .none },
  { cls := 8, slots := #[.long (-46)], vm := .none },
  { cls := 8, slots := #[.long (-45)], vm := .none },
  { cls := 8, slots := #[.long (-44)], vm := .none },
  { cls := 8, slots := #[.long (-43)], vm := .none },
  { cls := 8, slots := #[.long (-42)], vm := .none },
  { cls := 8, slots := #[.long (-41)], vm := .none },
  { cls := 8, slots := #[.long (-40)], vm := .none },
  { cls := 8, slots := #[.long (-39)], vm := .none },
  { cls := 8, slots := #[.long (-38)], vm := .none },
  { cls := 8, slots := #[.long (-37)], vm := .none },
  { cls := 8, slots := #[.long (-36)], vm := .none },
  { cls := 8, slots := #[.long (-35)], vm := .none },
  { cls := 8, slots := #[.long (-34)], vm := .none },
  { cls := 8, slots := #[.long (-33)], vm := .none },
  { cls := 8, slots := #[.long (-32)], vm := .none },
  { cls := 8, slots := #[.long (-31)], vm := .none },
  { cls := 8, slots := #[.long (-30)], vm := .none },
  { cls := 8, slots := #[.long (-29)], vm := .none },
  { cls := 8, slots := #[.long (-28)], vm := .none },
  { cls := 8, slots := #[.long (-27)], vm := .none },
  { cls := 8, slots := #[.long (-26)], vm := .none },
  { cls := 8, slots := #[.long (-25)], vm := .none },
  { cls := 8, slots := #[.long (-24)], vm := .none },
  { cls := 8, slots := #[.long (-23)], vm := .none },
  { cls := 8, slots := #[.long (-22)], vm := .none },
  { cls := 8, slots := #[.long (-21)], vm := .none },
  { cls := 8, slots := #[.long (-20)], vm := .none },
  { cls := 8, slots := #[.long (-19)], vm := .none },
  { cls := 8, slots := #[.long (-18)], vm := .none },
  { cls := 8, slots := #[.long (-17)], vm := .none },
  { cls := 8, slots := #[.long (-16)], vm := .none },
  { cls := 8, slots := #[.long (-15)], vm := .none },
  { cls := 8, slots := #[.long (-14)], vm := .none },
  { cls := 8, slots := #[.long (-13)], vm := .none },
  { cls := 8, slots := #[.long (-12)], vm := .none },
  { cls := 8, slots := #[.long (-11)], vm := .none },
  { cls := 8, slots := #[.long (-10)], vm := .none },
  { cls := 8, slots := #[.long (-9)], vm := .none },
  { cls := 8, slots := #[.long (-8)], vm := .none },
  { cls := 8, slots := #[.long (-7)], vm := .none },
  { cls := 8, slots := #[.long (-6)], vm := .none },
  { cls := 8, slots := #[.long (-5)], vm := .none },
  { cls := 8, slots := #[.long (-4)], vm := .none },
  { cls := 8, slots := #[.long (-3)], vm := .none },
  { cls := 8, slots := #[.long (-2)], vm := .none },
  { cls := 8, slots := #[.long (-1)], vm := .none },
  { cls := 8, slots := #[.long 0], vm := .none },
  { cls := 8, slots := #[.long 1], vm := .none },
  { cls := 8, slots := #[.long 2], vm := .none },
  { cls := 8, slots := #[.long 3], vm := .none },
  { cls := 8, slots := #[.long 4], vm := .none },
  { cls := 8, slots := #[.long 5], vm := .none },
  { cls := 8, slots := #[.long 6], vm := .none },
  { cls := 8, slots := #[.long 7], vm := .none },
  { cls := 8, slots := #[.long 8], vm := .none },
  { cls := 8, slots := #[.long 9], vm := .none },
  { cls := 8, slots := #[.long 10], vm := .none },
  { cls := 8, slots := #[.long 11], vm := .none },
  { cls := 8, slots := #[.long 12], vm := .none },
  { cls := 8, slots := #[.long 13], vm := .none },
  { cls := 8, slots := #[.long 14], vm := .none },
  { cls := 8, slots := #[.long 15], vm := .none },
  { cls := 8, slots := #[.long 16], vm := .none },
  { cls := 8, slots := #[.long 17], vm := .none },
  { cls := 8, slots := #[.long 18], vm := .none },
  { cls := 8, slots := #[.long 19], vm := .none },
  { cls := 8, slots := #[.long 20], vm := .none },
  { cls := 8, slots := #[.long 21], vm := .none },
  { cls := 8, slots := #[.long 22], vm := .none },
  { cls := 8, slots := #[.long 23], vm := .none },
  { cls := 8, slots := #[.long 24], vm := .none },
  { cls := 8, slots := #[.long 25], vm := .none },
  { cls := 8, slots := #[.long 26], vm := .none },
  { cls := 8, slots := #[.long 27], vm := .none },
  { cls := 8, slots := #[.long 28], vm := .none },
  { cls := 8, slots := #[.long 29], vm := .none },
  { cls := 8, slots := #[.long 30], vm := .none },
  { cls := 8, slots := #[.long 31], vm := .none },
  { cls := 8, slots := #[.long 32], vm := .none },
  { cls := 8, slots := #[.long 33], vm := .none },
  { cls := 8, slots := #[.long 34], vm := .none },
  { cls := 8, slots := #[.long 35], vm := .none },
  { cls := 8, slots := #[.long 36], vm := .none },
  { cls := 8, slots := #[.long 37], vm := .none },
  { cls := 8, slots := #[.long 38], vm := .none },
  { cls := 8, slots := #[.long 39], vm := .none },
  { cls := 8, slots := #[.long 40], vm := .none },
  { cls := 8, slots := #[.long 41], vm := .none },
  { cls := 8, slots := #[.long 42], vm := .none },
  { cls := 8, slots := #[.long 43], vm := .none },
  { cls := 8, slots := #[.long 44], vm := .none },
  { cls := 8, slots := #[.long 45], vm := .none },
  { cls := 8, slots := #[.long 46], vm := .none },
  { cls := 8, slots := #[.long 47], vm := .none },
  { cls := 8, slots := #[.long 48], vm := .none },
  { cls := 8, slots := #[.long 49], vm := .none },
  { cls := 8, slots := #[.long 50], vm := .none },
  { cls := 8, slots := #[.long 51], vm := .none },
  { cls := 8, slots := #[.long 52], vm := .none },
  { cls := 8, slots := #[.long 53], vm := .none },
  { cls := 8, slots := #[.long 54], vm := .none },
  { cls := 8, slots := #[.long 55], vm := .none },
  { cls := 8, slots := #[.long 56], vm := .none },
  { cls := 8, slots := #[.long 57], vm := .none },
  { cls := 8, slots := #[.long 58], vm := .none },
  { cls := 8, slots := #[.long 59], vm := .none },
  { cls := 8, slots := #[.long 60], vm := .none },
  { cls := 8, slots := #[.long 61], vm := .none },
  { cls := 8, slots := #[.long 62], vm := .none },
  { cls := 8, slots := #[.long 63], vm := .none },
  { cls := 8, slots := #[.long 64], vm := .none },
  { cls := 8, slots := #[.long 65], vm := .none },
  { cls := 8, slots := #[.long 66], vm := .none },
  { cls := 8, slots := #[.long 67], vm := .none },
  { cls := 8, slots := #[.long 68], vm := .none },
  { cls := 8, slots := #[.long 69], vm := .none },
  { cls := 8, slots := #[.long 70], vm := .none },
  { cls := 8, slots := #[.long 71], vm := .none },
  { cls := 8, slots := #[.long 72], vm := .none },
  { cls := 8, slots := #[.long 73], vm := .none },
  { cls := 8, slots := #[.long 74], vm := .none },
  { cls := 8, slots := #[.long 75], vm := .none },
  { cls := 8, slots := #[.long 76], vm := .none },
  { cls := 8, slots := #[.long 77], vm := .none },
  { cls := 8, slots := #[.long 78], vm := .none },
  { cls := 8, slots := #[.long 79], vm := .none },
  { cls := 8, slots := #[.long 80], vm := .none },
  { cls := 8, slots := #[.long 81], vm := .none },
  { cls := 8, slots := #[.long 82], vm := .none },
  { cls := 8, slots := #[.long 83], vm := .none },
  { cls := 8, slots := #[.long 84], vm := .none },
  { cls := 8, slots := #[.long 85], vm := .none },
  { cls := 8, slots := #[.long 86], vm := .none },
  { cls := 8, slots := #[.long 87], vm := .none },
  { cls := 8, slots := #[.long 88], vm := .none },
  { cls := 8, slots := #[.long 89], vm := .none },
  { cls := 8, slots := #[.long 90], vm := .none },
  { cls := 8, slots := #[.long 91], vm := .none },
  { cls := 8, slots := #[.long 92], vm := .none },
  { cls := 8, slots := #[.long 93], vm := .none },
  { cls := 8, slots := #[.long 94], vm := .none },
  { cls := 8, slots := #[.long 95], vm := .none },
  { cls := 8, slots := #[.long 96], vm := .none },
  { cls := 8, slots := #[.long 97], vm := .none },
  { cls := 8, slots := #[.long 98], vm := .none },
  { cls := 8, slots := #[.long 99], vm := .none },
  { cls := 8, slots := #[.long 100], vm := .none },
  { cls := 8, slots := #[.long 101], vm := .none },
  { cls := 8, slots := #[.long 102], vm := .none },
  { cls := 8, slots := #[.long 103], vm := .none },
  { cls := 8, slots := #[.long 104], vm := .none },
  { cls := 8, slots := #[.long 105], vm := .none },
  { cls := 8, slots := #[.long 106], vm := .none },
  { cls := 8, slots := #[.long 107], vm := .none },
  { cls := 8, slots := #[.long 108], vm := .none },
  { cls := 8, slots := #[.long 109], vm := .none },
  { cls := 8, slots := #[.long 110], vm := .none },
  { cls := 8, slots := #[.long 111], vm := .none },
  { cls := 8, slots := #[.long 112], vm := .none },
  { cls := 8, slots := #[.long 113], vm := .none },
  { cls := 8, slots := #[.long 114], vm := .none },
  { cls := 8, slots := #[.long 115], vm := .none },
  { cls := 8, slots := #[.long 116], vm := .none },
  { cls := 8, slots := #[.long 117], vm := .none },
  { cls := 8, slots := #[.long 118], vm := .none },
  { cls := 8, slots := #[.long 119], vm := .none },
  { cls := 8, slots := #[.long 120], vm := .none },
  { cls := 8, slots := #[.long 121], vm := .none },
  { cls := 8, slots := #[.long 122], vm := .none },
  { cls := 8, slots := #[.long 123], vm := .none },
  { cls := 8, slots := #[.long 124], vm := .none },
  { cls := 8, slots := #[.long 125], vm := .none },
  { cls := 8, slots := #[.long 126], vm := .none },
  { cls := 8, slots := #[.long 127], vm := .none }]
def classes : Array Class := #[k0, k1, k2, k3, k4, k5, k6, k7, k8, k9, k10, k11, k12, k13, k14, k15]
def interned : List (Array UInt16 × Addr) := []
def slotsUsed : Nat := 515
def theMethod : MethodId := ⟨1, 1⟩
def args0 : Array Value := #[.long 5, .long 6, .long 7, .long 8, .int 4, .long 1]
def aboutOver (below : List Frame) : State where
  vm := { classes := classes, interned := interned.toArray }
  heap := heap
  slotsUsed := slotsUsed
  threads := #[{ frames := .invoking theMethod args0 :: below }]
def below0 : List Frame := [.native { method := ⟨0, 0⟩, args := #[] }]
def about1 : State := aboutOver below0
def p0 : Program := .bare "" "" ""
def e0 : Env := launch0.env 0 0 0
theorem w_frames : about1.frames = Frame.invoking theMethod args0 :: below0 := rfl
set_option maxRecDepth 65536 in
theorem w_args : argsFit about1.vm theMethod args0 = true := by decide +kernel
set_option maxRecDepth 65536 in
theorem w_heap : heapFits about1 = true := by decide +kernel
set_option maxRecDepth 65536 in
theorem w_runnable : about1.curStatus? = some .runnable := by decide +kernel
set_option maxRecDepth 65536 in
theorem w_alone : about1.alone = true := by decide +kernel
set_option maxRecDepth 65536 in
theorem w_named : about1.methodNamed? x = some theMethod := by decide +kernel
set_option maxRecDepth 65536 in
theorem w_hears : about1.hears theMethod below0 = true := by decide +kernel
set_option maxRecDepth 65536 in
theorem w_ripe : about1.ripe theMethod args0 below0 = true := by decide +kernel
theorem w_running : about1.status = .running := rfl
set_option maxRecDepth 65536 in
theorem w_room : about1.hasRoom e0.platform room_1 = true :=
  launch0.hasRoom_least _ room_1 (by decide +kernel) (by decide +kernel) (by decide +kernel) (by decide +kernel) (by decide +kernel) (by decide +kernel)
theorem allAtoms_all (ts : List Jvm.Cond) (a : Array Jvm.Value) (st : Jvm.State) : (allAtoms ts).before a st = ts.all (fun c => c.before a st) := by
  induction ts with
  | nil => rfl
  | cons c t ih =>
    show (Jvm.Cond.and c (allAtoms t)).before a st = _
    rw [Jvm.Cond.before_and, ih, List.all_cons]
def words1 : List Jvm.Cond := Jvm.Cond.code x code maxLocals ret :: tables_1
/-- a 'code' word, met by the world's own term for the bytes: nothing is compared byte by byte -/
theorem code_word {y : MethodName} {bytes : ByteArray} {mx : Nat} {rt : Option FieldType} {a : Array Value} {s : State} {m : MethodId} {meth : Method} {c : Code} (h1 : s.methodNamed? y = some m) (h2 : s.vm.method? m = some meth) (h3 : meth.code = some c) (h4 : c.code = bytes)
    (h5 : (c.maxLocals == mx && c.exceptionTable.isEmpty && decide (c.maxStack ≤ mostOperands) && decide (meth.sig.returnType = rt) && !meth.locks && decide (parseMethodDescriptor y.desc = some meth.sig)) = true) : (Jvm.Cond.code y bytes mx rt).before a s = true := by
  simp only [Bool.and_eq_true, beq_iff_eq, Bool.not_eq_true', decide_eq_true_eq] at h5
  obtain ⟨⟨⟨⟨⟨g1, g2⟩, g3⟩, g4⟩, g5⟩, g6⟩ := h5
  simp [Cond.before, Cond.holds, Cond.value, h1, h2, h3, h4, g1, g2, g3, g4, g5, g6]
def isCode : Jvm.Cond → Bool
  | .code _ _ _ _ => true
  | _ => false
theorem all_split {L : List Jvm.Cond} {P : Jvm.Cond → Bool} (h1 : L.all (fun c => isCode c || P c) = true) (h2 : ∀ c ∈ L.filter isCode, P c = true) : L.all P = true := by
  refine List.all_eq_true.mpr fun c hc => ?_
  have h := List.all_eq_true.mp h1 c hc
  rcases Bool.eq_false_or_eq_true (isCode c) with hi | hi
  · exact h2 c (List.mem_filter.mpr ⟨hc, hi⟩)
  · simpa [hi] using h
set_option maxRecDepth 65536 in
theorem w_c0 : (Jvm.Cond.code x code maxLocals ret).before args0 about1 = true := code_word (m := ⟨1, 1⟩) (meth := k1m1) (c := k1c1) (by decide +kernel) rfl rfl rfl (by decide +kernel)
set_option maxRecDepth 65536 in
theorem w_c1 : (Jvm.Cond.code ({ cls := "com/example/outbox/outbox/QueueCounts", name := "<init>", desc := "(JJJJ)V" } : Jvm.MethodName) prog_5_method_1_code (9 : Nat) (Option.none : Option Jvm.ClassFile.FieldType)).before args0 about1 = true := code_word (m := ⟨2, 0⟩) (meth := k2m0) (c := k2c0) (by decide +kernel) rfl rfl rfl (by decide +kernel)
set_option maxRecDepth 65536 in
theorem w_c2 : (Jvm.Cond.code ({ cls := "java/lang/Object", name := "<init>", desc := "()V" } : Jvm.MethodName) object_method_1_code (1 : Nat) (Option.none : Option Jvm.ClassFile.FieldType)).before args0 about1 = true := code_word (m := ⟨0, 0⟩) (meth := k0m0) (c := k0c0) (by decide +kernel) rfl rfl rfl (by decide +kernel)
set_option maxRecDepth 65536 in
theorem w_c3 : (Jvm.Cond.code ({ cls := "com/example/outbox/outbox/QueueCounts", name := "equals", desc := "(Ljava/lang/Object;)Z" } : Jvm.MethodName) prog_5_method_6_code (3 : Nat) (Option.some Jvm.ClassFile.FieldType.boolean)).before args0 about1 = true := code_word (m := ⟨2, 1⟩) (meth := k2m1) (c := k2c1) (by decide +kernel) rfl rfl rfl (by decide +kernel)
set_option maxRecDepth 65536 in
theorem w_c4 : (Jvm.Cond.code ({ cls := "java/lang/Long", name := "valueOf", desc := "(J)Ljava/lang/Long;" } : Jvm.MethodName) jdk_35_method_24_code (3 : Nat) (Option.some (Jvm.ClassFile.FieldType.object "java/lang/Long"))).before args0 about1 = true := code_word (m := ⟨8, 0⟩) (meth := k8m0) (c := k8c0) (by decide +kernel) rfl rfl rfl (by decide +kernel)
set_option maxRecDepth 65536 in
theorem w_c5 : (Jvm.Cond.code ({ cls := "java/lang/Long", name := "<init>", desc := "(J)V" } : Jvm.MethodName) jdk_35_method_26_code (3 : Nat) (Option.none : Option Jvm.ClassFile.FieldType)).before args0 about1 = true := code_word (m := ⟨8, 1⟩) (meth := k8m1) (c := k8c1) (by decide +kernel) rfl rfl rfl (by decide +kernel)
set_option maxRecDepth 65536 in
theorem w_c6 : (Jvm.Cond.code ({ cls := "java/lang/Number", name := "<init>", desc := "()V" } : Jvm.MethodName) jdk_18_method_1_code (1 : Nat) (Option.none : Option Jvm.ClassFile.FieldType)).before args0 about1 = true := code_word (m := ⟨4, 0⟩) (meth := k4m0) (c := k4c0) (by decide +kernel) rfl rfl rfl (by decide +kernel)
def codes1 : List Jvm.Cond := [Jvm.Cond.code x code maxLocals ret, Jvm.Cond.code ({ cls := "com/example/outbox/outbox/QueueCounts", name := "<init>", desc := "(JJJJ)V" } : Jvm.MethodName) prog_5_method_1_code (9 : Nat) (Option.none : Option Jvm.ClassFile.FieldType), Jvm.Cond.code ({ cls := "java/lang/Object", name := "<init>", desc := "()V" } : Jvm.MethodName) object_method_1_code (1 : Nat) (Option.none : Option Jvm.ClassFile.FieldType), Jvm.Cond.code ({ cls := "com/example/outbox/outbox/QueueCounts", name := "equals", desc := "(Ljava/lang/Object;)Z" } : Jvm.MethodName) prog_5_method_6_code (3 : Nat) (Option.some Jvm.ClassFile.FieldType.boolean), Jvm.Cond.code ({ cls := "java/lang/Long", name := "valueOf", desc := "(J)Ljava/lang/Long;" } : Jvm.MethodName) jdk_35_method_24_code (3 : Nat) (Option.some (Jvm.ClassFile.FieldType.object "java/lang/Long")), Jvm.Cond.code ({ cls := "java/lang/Long", name := "<init>", desc := "(J)V" } : Jvm.MethodName) jdk_35_method_26_code (3 : Nat) (Option.none : Option Jvm.ClassFile.FieldType), Jvm.Cond.code ({ cls := "java/lang/Number", name := "<init>", desc := "()V" } : Jvm.MethodName) jdk_18_method_1_code (1 : Nat) (Option.none : Option Jvm.ClassFile.FieldType)]
set_option maxRecDepth 65536 in
theorem codes_eq : words1.filter isCode = codes1 := rfl
theorem w_codes : ∀ c ∈ words1.filter isCode, c.before args0 about1 = true := by
  rw [codes_eq]
  intro c hc
  simp only [codes1, List.mem_cons, List.not_mem_nil, or_false] at hc
  rcases hc with rfl | rfl | rfl | rfl | rfl | rfl | rfl
  · exact w_c0
  · exact w_c1
  · exact w_c2
  · exact w_c3
  · exact w_c4
  · exact w_c5
  · exact w_c6
set_option maxRecDepth 65536 in
theorem w_t1 : (words1.take 24).all (fun c => isCode c || c.before args0 about1) = true := by decide +kernel
set_option maxRecDepth 65536 in
theorem w_t2 : ((words1.drop 24).take 24).all (fun c => isCode c || c.before args0 about1) = true := by decide +kernel
set_option maxRecDepth 65536 in
theorem w_t3 : ((words1.drop 24).drop 24).all (fun c => isCode c || c.before args0 about1) = true := by decide +kernel
theorem w_tables : (allAtoms (Jvm.Cond.code x code maxLocals ret :: tables_1)).before args0 about1 = true := by
  rw [allAtoms_all]
  show words1.all (fun c => c.before args0 about1) = true
  refine all_split ?_ w_codes
  rw [← List.take_append_drop 24 words1, List.all_append, w_t1, ← List.take_append_drop 24 (words1.drop 24), List.all_append, w_t2, w_t3]
  rfl
set_option maxRecDepth 65536 in
theorem w_rest : rest_1_c.before args0 about1 = true := by decide +kernel
set_option maxRecDepth 65536 in
theorem w_case : (Jvm.Cond.and given_1 narrow_1).before args0 about1 = true := by decide +kernel
theorem w_applies : (headSpec (Jvm.Cond.code x code maxLocals ret :: tables_1) room_1).applies x e0.platform about1 = true :=
  (Spec.applies_iff w_frames).mpr ⟨w_running, w_runnable, w_alone, w_named, w_hears, w_ripe, w_room, w_tables⟩
theorem atStart : AtStart classFile x code maxLocals ret World_1 tables_1 room_1 Calls_1 rest_1 Pre_1 launch0 p0 e0 about1 theMethod args0 below0 :=
  ⟨lists_1, trivial, launch0.admits_env _ _ _, launch0.least_env, fairChoices_fair.cas, fairChoices_fair.clock, w_frames, w_args, w_heap, w_applies, trivial, w_rest, w_case⟩
end start1
theorem witness_1 : WitnessClaimed_1 := ⟨start1.p0, start1.e0, start1.about1, start1.theMethod, start1.args0, start1.below0, start1.atStart⟩
end Jvm.Pilot.@@N@@
