import JvmDerived
import JvmDerived.Pilot.@@N@@Statement
import JvmDerived.Pilot.@@N@@Code
set_option linter.unusedVariables false
set_option linter.unusedSimpArgs false
namespace Jvm.RoadKit
open Sem ClassFile Op Lib Jvm.Stand Jvm.Free Jvm.LawKit
section Own
variable {p : Program} {l : Launch} {e : Env} {R : Room} {s : State} {m : MethodId} {args : Array Value} {below : List Frame} {meth : Method} {c : Code} {T : State} {locs : List Loc} {cells slots : Nat}
theorem retI (X : Stand p l e R s m args below meth c T locs cells slots) (hx : p.tables.exec = Jvm.exec) {pc : Nat} {Ls : Array Slot} {z : Int32} {rest : List Value} (hret : meth.sig.returnType = some .int) (hd : decode c.code pc = .ok (.ireturn, 1)) {fs : List Frame}
    (hl : ∀ (f : JFrame) (acts : List Action), f.method = m → f.locked = none → f.entered = [] → (doReturn e (T.setTop f) acts (some (.int z))).1 = T.setFrames fs) : Steps p.tables e below (T.setTop (mkF m pc Ls (.int z :: rest))) (T.setFrames fs) := by
  have hm' : T.vm.method? m = some meth := X.method'
  have hn : narrow .int (.int z) = .int z := rfl
  show Steps p.tables e below (T.setTop { method := m, pc := pc, locals := Ls, stack := _ :: rest, locked := none }) _
  jvm_step X.here [X.here.top, hx, hd, hm', hret, hn]
  first | (intro acts; rw [hl _ acts rfl rfl rfl]) | rw [hl _ _ rfl rfl rfl]
  exact Steps.refl _
/-- the walk from S ends as K says -/
def Way (tb : Tables) (e : Env) (below : List Frame) (K : Outcome → State → Prop) (S : State) : Prop := ∃ s₂ o, Steps tb e below S s₂ ∧ s₂.status = .running ∧ Ended s₂ below o ∧ K o s₂
theorem Way.by {tb : Tables} {K : Outcome → State → Prop} {A B : State} (st : ∀ t, Steps tb e below B t → Steps tb e below A t) (h : Way tb e below K B) : Way tb e below K A := by
  obtain ⟨s₂, o, h1, h2⟩ := h; exact ⟨s₂, o, st _ h1, h2⟩
theorem Way.to {tb : Tables} {K : Outcome → State → Prop} {A B : State} (st : Steps tb e below A B) (h : Way tb e below K B) : Way tb e below K A := by
  obtain ⟨s₂, o, h1, h2⟩ := h; exact ⟨s₂, o, st.trans h1, h2⟩
abbrev KQ (s : State) (Q : Option Value → Heap → List Loc → Prop) (C S : Nat) : Outcome → State → Prop := fun o s₂ => ∃ v L, o = .returned v ∧ Q v s₂.heap L ∧ FrameEnd s o s₂ L C S
theorem Way.ret {Q : Option Value → Heap → List Loc → Prop} {C S : Nat} {A : State} {v : Option Value} (X : Stand p l e R s m args below meth c T locs cells slots) (hlk : meth.locks = false) (hv : meth.sig.returnType = none → v = none)
    (hret : ∀ fs, (∀ (f : JFrame) (acts : List Action), f.method = m → f.locked = none → f.entered = [] → (doReturn e (T.setTop f) acts v).1 = T.setFrames fs) → Steps p.tables e below A (T.setFrames fs))
    (hQ : Q v T.heap locs) (hc : cells ≤ C) (hs : slots ≤ S) : Way p.tables e below (KQ s Q C S) A := by
  obtain ⟨fs, hr, hrun, hended, hW, hsame⟩ := X.leave hv hlk
  exact ⟨_, _, hret fs hr, hrun, hended, _, _, rfl, hQ, ⟨_, rfl⟩, hW, hsame.mono hc hs⟩
abbrev KQW (s : State) (Q : Option Value → Heap → List Loc → Prop) (C S : Nat) : Outcome → State → Prop := fun o s₂ => ∃ v L, o = .returned v ∧ Q v s₂.heap L ∧ ReturnedEndW s o s₂ L C S
theorem Way.retW {Q : Option Value → Heap → List Loc → Prop} {C S : Nat} {A : State} {v : Option Value} {vm1 : Vm} {n : Nat} (X : Stand p l e R (s.setVm vm1) m args below meth c T locs cells slots) (hS : s.Since vm1 n) (hn : n ≤ T.heap.size) (hlk : meth.locks = false) (hv : meth.sig.returnType = none → v = none)
    (hret : ∀ fs, (∀ (f : JFrame) (acts : List Action), f.method = m → f.locked = none → f.entered = [] → (doReturn e (T.setTop f) acts v).1 = T.setFrames fs) → Steps p.tables e below A (T.setFrames fs))
    (hQ : Q v T.heap locs) (hc : cells ≤ C) (hs : slots ≤ S) : Way p.tables e below (KQW s Q C S) A := by
  obtain ⟨fs, hr, hrun, hended, h1, h2, h3, h4⟩ := X.leaveW hS hn hv hlk
  exact ⟨_, _, hret fs hr, hrun, hended, _, _, rfl, hQ, h1, h2, h3, h4.mono hc hs⟩
abbrev KQH (s Z : State) (EL : List (String × Nat)) (Q : Option Value → Heap → List Loc → Prop) (C S : Nat) : Outcome → State → Prop := fun o s₂ => ∃ v L, o = .returned v ∧ Q v s₂.heap L ∧ CHr Z EL s.vm s.heap s₂.vm s₂.heap ∧ ReturnedEndW s o s₂ L C S
theorem Way.retH {Z : State} {a0 : Array Value} {EL : List (String × Nat)} {Q : Option Value → Heap → List Loc → Prop} {C S : Nat} {A : State} {v : Option Value} {vm1 : Vm} {n : Nat} {h h0 : Heap} (X : Stand p l e R (s.setVm vm1) m args below meth c T locs cells slots) (hS : s.Since vm1 n) (hn : n ≤ T.heap.size) (hZ : Z.Warmed39 vm1) (hEL : EW Z a0 EL) (hh : s.heap = h0) (eT : T.heap = h) (H : CHv Z EL vm1 h) (CH : CHr Z EL s.vm h0 vm1 h) (hlk : meth.locks = false) (hv : meth.sig.returnType = none → v = none)
    (hret : ∀ fs, (∀ (f : JFrame) (acts : List Action), f.method = m → f.locked = none → f.entered = [] → (doReturn e (T.setTop f) acts v).1 = T.setFrames fs) → Steps p.tables e below A (T.setFrames fs))
    (hQ : Q v T.heap locs) (hc : cells ≤ C) (hs : slots ≤ S) : Way p.tables e below (KQH s Z EL Q C S) A := by
  obtain ⟨fs, hr, hrun, hended, h1, h2, h3, h4⟩ := X.leaveW hS hn hv hlk
  refine ⟨_, _, hret fs hr, hrun, hended, _, _, rfl, hQ, ?_, h1, h2, h3, h4.mono hc hs⟩
  have B := CHv.at X hZ hEL H
  show CHr Z EL s.vm s.heap T.vm T.heap
  rw [hh, eT]; exact CH.trans B
theorem fldStart {Z : State} {args : Array Value} {t : Term} {a : Addr} {C n d : String} {k : Int32} (ev : t.eval args Z none [] Z = some (.ref a)) (h : (Cond.eq (.field t C n d) (.int k)).value args Z none Z [] = some true) : Fld Z Z.heap a C n d (.int k) := by
  refine Fld.start ?_
  have e1 : (Term.field t C n d).eval args Z none [] Z = Z.fieldOf? a C n d := fld_at ev
  simp only [Cond.value] at h
  rw [e1, show (Term.int k).eval args Z none [] Z = some (.int k) from rfl] at h
  cases hf : Z.fieldOf? a C n d with
  | none => simp [hf] at h
  | some w => cases w <;> simp [hf] at h ⊢; exact h
theorem envNe {Z : State} {args : Array Value} {t : Term} {v : Int32} (ev : t.eval args Z none [] Z = some (.int v)) (h : (Cond.not (.eq t (.int 0))).before args Z = true) : v ≠ 0 := by
  have h2 := Cond.before_iff.mp h
  intro q; subst q
  simp only [Cond.value] at h2
  rw [ev] at h2
  simp [Term.eval] at h2
theorem envRef {Z : State} {args : Array Value} {t : Term} (h : (Cond.isRef t).before args Z = true) : ∃ G, t.eval args Z none [] Z = some G ∧ G.isRef = true := by
  have h2 := Cond.before_iff.mp h
  cases ht : t.eval args Z none [] Z with
  | none => simp [Cond.value, ht] at h2
  | some w => exact ⟨w, rfl, by cases w <;> simp [Cond.value, ht] at h2 <;> rfl⟩
theorem own_getD {α : Type} {u : List α} {i : Nat} (d : α) (h : i < u.length) : u.getD i d = u[i] := by rw [List.getD_eq_getElem?_getD, List.getElem?_eq_getElem h]; rfl
theorem hpE {T : State} {h : Heap} {a : Addr} {c : Cell} (e : T.heap = h) (A : h[a]? = some c) : T.heap[a]? = some c := by rw [e]; exact A
theorem remB (x d : Int32) (D : Int) (hd : d.toInt = D) (h0 : 0 < D) : 0 ≤ ((x &&& 2147483647) % d).toInt ∧ ((x &&& 2147483647) % d).toInt < D := by
  have h1 := c_and x 2147483647 (by decide)
  rw [(c_irem (x &&& 2147483647) d D hd).1 h1.1]
  exact ⟨Int.emod_nonneg _ (by omega), Int.emod_lt_of_pos _ h0⟩
theorem cases3 {k : Int32} (h : 0 ≤ k.toInt ∧ k.toInt < 3) : k = 0 ∨ k = 1 ∨ k = 2 := by
  have q : k.toInt = 0 ∨ k.toInt = 1 ∨ k.toInt = 2 := by omega
  rcases q with q | q | q
  · exact Or.inl (Int32.toInt_inj.mp q)
  · exact Or.inr (Or.inl (Int32.toInt_inj.mp q))
  · exact Or.inr (Or.inr (Int32.toInt_inj.mp q))
theorem cases5 {k : Int32} (h : 0 ≤ k.toInt ∧ k.toInt < 5) : k = 0 ∨ k = 1 ∨ k = 2 ∨ k = 3 ∨ k = 4 := by
  have q : k.toInt = 0 ∨ k.toInt = 1 ∨ k.toInt = 2 ∨ k.toInt = 3 ∨ k.toInt = 4 := by omega
  rcases q with q | q | q | q | q
  · exact Or.inl (Int32.toInt_inj.mp q)
  · exact Or.inr (Or.inl (Int32.toInt_inj.mp q))
  · exact Or.inr (Or.inr (Or.inl (Int32.toInt_inj.mp q)))
  · exact Or.inr (Or.inr (Or.inr (Or.inl (Int32.toInt_inj.mp q))))
  · exact Or.inr (Or.inr (Or.inr (Or.inr (Int32.toInt_inj.mp q))))
theorem nfSel {s : State} {args : Array Value} {C : String} {y z : MethodName} (hyz : z.cls = y.cls) (hsel : (Cond.selects C z z).before args s = true) : NotFace s y := fun r0 h0 => by
  obtain ⟨c, r, m, -, -, hn, -, mk, hk, hni⟩ := Cond.selects_spec hsel
  have e1 := findClass_of_methodNamed h0
  have e2 := findClass_of_methodNamed hn
  rw [hyz, e1] at e2
  refine ⟨mk, ?_, hni⟩
  first | (rw [Option.some.inj e2]; exact hk) | (rw [← Option.some.inj e2]; exact hk)
theorem sameOwn {s : State} {args : Array Value} {C : String} {y z : MethodName} (hyz : z.cls = y.cls) (hsel : (Cond.selects C z z).before args s = true) (hinst : (Cond.instanceMethod y).before args s = true) (hy : y.cls ≠ "java/lang/invoke/MethodHandle" ∧ y.cls ≠ "java/lang/invoke/VarHandle") : (Cond.sameMethod y.cls y.cls y.name y.desc).before args s = true := by
  obtain ⟨mk, methM, hnamed, -⟩ := Cond.instanceMethod_spec hinst
  obtain ⟨kr, hk, hni⟩ := nfSel hyz hsel mk hnamed
  have hf := State.methodFound?_of_named hnamed hy
  have hc := findClass_of_methodNamed hnamed
  have hn2 : s.methodNamed? ⟨y.cls, y.name, y.desc⟩ = some mk := hnamed
  simp [Cond.before, Cond.holds, Cond.value, hc, hf, hn2, hk, hni]
theorem selPriv {s : State} {args : Array Value} {C : String} {y z : MethodName} (hyz : z.cls = y.cls) (hsel : (Cond.selects C z z).before args s = true) (hpriv : s.PrivateAt y) (hinst : (Cond.instanceMethod y).before args s = true) (hy : y.cls ≠ "java/lang/invoke/MethodHandle" ∧ y.cls ≠ "java/lang/invoke/VarHandle") : (Cond.selects y.cls y y).before args s = true := by
  obtain ⟨c, r, m, -, -, hn, -, mk, hk, hni⟩ := Cond.selects_spec hsel
  exact selects_self_of_private (by rw [← hyz]; exact findClass_of_methodNamed hn) hk hni hpriv hinst hy
theorem arrS {Z s : State} {h : Heap} {a : Addr} {cl : Cell} {ty : FieldType} (hZ : Z.Warmed39 s.vm) (A : Arr Z h a cl ty) : s.isArrayOf cl ty := State.isArrayOf_alike hZ.alike A.2.1
end Own
end Jvm.RoadKit
namespace Jvm.Stand
open ClassFile Sem Op Lib Bundle Jvm.Free Jvm.Free.SB Jvm.Free.SBG
section OwnWide
variable {p : Program} {l : Launch} {e : Env} {R : Room} {s T U : State} {m : MethodId} {args : Array Value} {below : List Frame} {meth : Method} {c : Code} {locs : List Loc} {cells slots ix n : Nat} {text own : String} {us : Array UInt16} {g : JFrame} {k : Class} {a : Addr}
/-- the pool of k says, at ix: the String constant text, written us -/
def own_Ent (k : Class) (ix : Nat) (text : String) (us : Array UInt16) : Prop := ∃ cf i, k.cf = some cf ∧ cf.constantPool[ix]? = some (.string i) ∧ cf.constantPool[i]? = some (.utf8 us) ∧ namesOf? cf.constantPool ix = some (.string text)
theorem own_Ent.noted (E : own_Ent k ix text us) {vm : Vm} {d : Nat} (W : s.Warmed39 vm) (hk : s.vm.classes[d]? = some k) (ho : k.resolved[ix]? = some none) (hf : vm.interned.find? (fun q => q.1 == us) = some (us, a)) : s.Warmed39 (vm.noted d ix (.string a)) := by
  obtain ⟨cf, i, e1, e2, e3, e4⟩ := E
  refine W.notedString (si := i) (text := text) hk (Or.inl ho) ?_ ?_ ?_ hf <;> simp [e1, e2, e3, e4, ConstantPool.utf8?]
/-- what one ldc_w of the entry ix leaves behind: the String's address, the state -/
def own_Left (p : Program) (l : Launch) (e : Env) (R : Room) (s T : State) (m : MethodId) (args : Array Value) (below : List Frame) (meth : Method) (c : Code) (locs : List Loc) (cells slots ix : Nat) (g : JFrame) (a : Addr) (T' : State) : Prop :=
  Stand p l e R (s.setVm T'.vm) m args below meth c T' locs cells slots ∧ s.Since T'.vm T'.heap.size ∧ (∃ z, T'.vm.classes[m.cls]? = some z ∧ z.resolved[ix]? = some (some (.string a))) ∧ (∀ b, b < T.heap.size → T'.heap[b]? = T.heap[b]?) ∧ T.Warmed39 T'.vm ∧
  (T'.vm.interned = T.vm.interned ∨ ∃ us, T'.vm.interned = T.vm.interned.push (us, a) ∧ T.vm.interned.find? (fun q => q.1 == us) = none ∧ (us.all (· < 256) = true → SlIn 0 T.heap.size T' a us)) ∧
  ∀ t, Steps p.tables e below (T'.setTop { g with pc := g.pc + 3, stack := .ref a :: g.stack }) t → Steps p.tables e below (T.setTop g) t
/-- a grown state with later tables stands, since the start -/
theorem own_stands {cs ss : Nat} (X : Stand p l e R s m args below meth c T locs cells slots) (Y : Stand p l e R s m args below meth c U locs cs ss) {vm : Vm} (W : s.Warmed39 vm) (one : T.Interned1 (U.setVm vm)) :
    Stand p l e R (s.setVm vm) m args below meth c (U.setVm vm) locs cs ss ∧ s.Since vm (U.setVm vm).heap.size := ⟨Y.retabled W, W, State.Booked.step (X.warmed.no_new_pair _) X.same.2.1 one⟩
theorem own_known (X : Stand p l e R s m args below meth c T locs cells slots) (hx : p.tables.exec = Jvm.exec) (hg : g.method = m) (hd : decode c.code g.pc = .ok (.ldc_w ix, 3)) (hk : T.vm.classes[m.cls]? = some k) (E : own_Ent k ix text us) (hr : k.resolved[ix]? = some (some (.string a))) :
    own_Left p l e R s T m args below meth c locs cells slots ix g a T := by
  subst hg
  obtain ⟨cf, i, e1, e2, -⟩ := E
  obtain ⟨Y, Z⟩ := own_stands X X (U := T) X.warmed.wide ⟨Nat.le_refl _, Or.inl rfl⟩
  refine ⟨Y, Z, ⟨k, hk, hr⟩, fun _ _ => rfl, State.Warmed39.refl T, Or.inl rfl, fun t q => ?_⟩
  jvm_step X.here [hx, hd, ldc_w.wp_string (e := e) (s := T) (f := g) X.here.top hk e1 e2 hr]
  exact q
theorem own_found {k0 : Class} (X : Stand p l e R s m args below meth c T locs cells slots) (hx : p.tables.exec = Jvm.exec) (hg : g.method = m) (hd : decode c.code g.pc = .ok (.ldc_w ix, 3)) (hk0 : s.vm.classes[m.cls]? = some k0) (hk : T.vm.classes[m.cls]? = some k) (E0 : own_Ent k0 ix text us) (E : own_Ent k ix text us)
    (o0 : k0.resolved[ix]? = some none) (o1 : k.resolved[ix]? = some none) (hf : T.vm.interned.find? (fun q => q.1 == us) = some (us, a)) : own_Left p l e R s T m args below meth c locs cells slots ix g a (T.setVm (T.vm.noted m.cls ix (.string a))) := by
  subst hg
  obtain ⟨Y, Z⟩ := own_stands X X (U := T) (E0.noted X.warmed.wide hk0 o0 hf) ⟨Nat.le_refl _, Or.inl rfl⟩
  refine ⟨Y, Z, ⟨_, Vm.classes_note_self ix _ hk, Class.resolved_note_self _ o1⟩, fun _ _ => rfl, E.noted (State.Warmed39.refl T) hk o1 hf, Or.inl rfl, fun t q => ?_⟩
  obtain ⟨cf, i, e1, e2, e3, -⟩ := E
  jvm_step X.here [hx, hd, ldc_w.wp_string_found (e := e) (s := T) (f := g) X.here.top hk e1 e2 e3 o1 hf]
  exact q
theorem own_twoCells (T : State) (cB cS : ClassId) (kS : Class) (fv fc : Field) (us : Array UInt16) : (withString T cB cS kS fv fc us).heap.size = T.heap.size + 2 ∧ (∀ b, b < T.heap.size → (withString T cB cS kS fv fc us).heap[b]? = T.heap[b]?) ∧ (withString T cB cS kS fv fc us).heap[T.heap.size]? = some (bytesOf cB us) ∧ (withString T cB cS kS fv fc us).heap[T.heap.size + 1]? = some (stringAt cS kS fv fc us T.heap.size) := by
  have H : (withString T cB cS kS fv fc us).heap = (T.heap.push (bytesOf cB us)).push (stringAt cS kS fv fc us T.heap.size) := by rw [withString_eq]; rfl
  rw [H]
  refine ⟨by simp, fun b hb => ?_, ?_, ?_⟩
  · have h1 : ¬ b = T.heap.size + 1 := by omega
    have h2 : ¬ b = T.heap.size := by omega
    simp [Array.getElem?_push, h1, h2]
  · simp [Array.getElem?_push]
  · have h3 : T.heap.size + 1 = (T.heap.push (bytesOf cB us)).size := by simp
    rw [h3]
    exact Array.getElem?_push_size
set_option maxHeartbeats 4000000 in
theorem own_made {k0 : Class} (X : Stand p l e R s m args below meth c T locs cells slots) (hx : p.tables.exec = Jvm.exec) (hS : ∀ w ∈ Bundle.stringAtoms, w.before args s = true) (hg : g.method = m) (hd : decode c.code g.pc = .ok (.ldc_w ix, 3)) (hk0 : s.vm.classes[m.cls]? = some k0) (hk : T.vm.classes[m.cls]? = some k) (E0 : own_Ent k0 ix text us) (E : own_Ent k ix text us)
    (o0 : k0.resolved[ix]? = some none) (o1 : k.resolved[ix]? = some none) (hf : T.vm.interned.find? (fun q => q.1 == us) = none) (hb : (stringBytes us).size ≤ n) (hn : n ≤ 536870912) (hc : cells + 2 ≤ R.cells) (hs : slots + (n + 4) ≤ R.slots) :
    ∃ T', own_Left p l e R s T m args below meth c locs (cells + 2) (slots + (n + 4)) ix g (T.heap.size + 1) T' := by
  subst hg
  obtain ⟨St, L0, four, fv, fc⟩ := StringT.of_atoms (args := args) hS
  obtain ⟨kS, kB, L, ty⟩ := L0.warmer X.warmed.alike
  obtain ⟨w1, w2, w3, w4⟩ := own_twoCells T St.cB St.cS kS St.fv St.fc us
  have hf2 : ({ T.vm with interned := T.vm.interned.push (us, T.heap.size + 1) } : Vm).interned.find? (fun q => q.1 == us) = some (us, T.heap.size + 1) := by simp [Array.find?_push, hf]
  have W := E0.noted (X.warmed.wide.interns us (T.heap.size + 1)) hk0 o0 hf2
  have Y := (X.pushed (bytesOf St.cB us)).pushed (stringAt St.cS kS St.fv St.fc us T.heap.size)
  have n1 : (bytesOf St.cB us).slots.size = (stringBytes us).size := (Cell.writeAll_facts _ _).2.2.trans (by simp [bytes0])
  have n2 : (stringAt St.cS kS St.fv St.fc us T.heap.size).slots.size = 4 := by simp [string0, Cell.setSlot, ty, four]
  rw [← withString_eq, n1, n2] at Y
  obtain ⟨Y, Z⟩ := own_stands X (Y.mono (show _ ≤ cells + 2 by omega) (show _ ≤ slots + (n + 4) by omega)) W ⟨Nat.le_trans (Nat.le_add_right _ 2) (Nat.le_of_eq w1.symm), Or.inr ⟨us, T.heap.size + 1, rfl, Nat.le_succ _, Nat.lt_of_lt_of_eq (Nat.lt_succ_self _) w1.symm⟩⟩
  have hfit : T.fitsSlot = s.fitsSlot := State.fitsSlot_setVm (s := s) X.warmed.alike
  refine ⟨(withString T St.cB St.cS kS St.fv St.fc us).setVm (({ T.vm with interned := T.vm.interned.push (us, T.heap.size + 1) } : Vm).noted g.method.cls ix (.string (T.heap.size + 1))), ⟨Y, Z, ⟨_, Vm.classes_note_self (vm := { T.vm with interned := T.vm.interned.push (us, T.heap.size + 1) }) ix _ hk, Class.resolved_note_self _ o1⟩, w2, E.noted ((State.Warmed39.refl T).interns us _) hk o1 hf2, Or.inr ⟨us, rfl, hf, fun lat => ?_⟩, fun t q => ?_⟩⟩
  · exact made_sl (W := (withString T St.cB St.cS kS St.fv St.fc us).setVm _) hS L0 four ty W.alike w3 w4 lat (by omega) 0
  · obtain ⟨cf, i, e1, e2, e3, -⟩ := E
    have top : (withString T St.cB St.cS kS St.fv St.fc us).topJava?.isSome := by simpa [withString] using X.here.top
    have lim := Launch.admits_arrayLengthLimit X.admits
    have mem := Launch.admits_maxHeapBytes X.admits
    have room := X.slotsAbove hs
    refine Steps.instr (c := _) (by simpa using X.here) ?_
    simp [jvm, wpRun, exec, hx, hd]
    apply ldc_w.wp_string_new (e := e) (s := T) (f := g) X.here.top hk e1 e2 e3 o1 hf L.found L.cls L.initialized L.ordinary L.foundB L.clsB L.kindB L.value L.coder
    · omega
    · simp only [componentBytes]; omega
    · exact X.cellsAbove hc
    · have t4 : kS.instanceTypes.size = 4 := by rw [ty]; exact four
      exact Nat.le_trans (Nat.add_le_add (Nat.add_le_add_left hb _) (Nat.le_of_eq t4)) (by omega)
    · exact stringBytes_fit L.clsB L.kindB us
    · exact L.valueSlot
    · exact L.coderSlot
    · rw [hfit]; exact fv _
    · rw [hfit]; exact fc _
    · intro d' a1 a2
      simp [jvm, afterInstr, top]
      rw [State.modifyTopJava_setTop]
      exact q
/-- the three together -/
theorem own_left (X : Stand p l e R s m args below meth c T locs cells slots) (hx : p.tables.exec = Jvm.exec) (ho : s.vm.findClass own = some m.cls) (hw : (Cond.stringLink own ix text).before args s = true) (hS : ∀ w ∈ Bundle.stringAtoms, w.before args s = true) (hg : g.method = m) (hd : decode c.code g.pc = .ok (.ldc_w ix, 3))
    (hn : 4 * text.toList.length ≤ n) (hbig : n ≤ 536870912) (hc : cells + 2 ≤ R.cells) (hs : slots + (n + 4) ≤ R.slots) : ∃ a T', own_Left p l e R s T m args below meth c locs (cells + 2) (slots + (n + 4)) ix g a T' := by
  obtain ⟨k0, cf, i, us, hk0, e1, e2, e3, e4, e5, res⟩ := Cond.stringLink_spec ho hw
  obtain ⟨k, hk, same⟩ := X.warmed.alike.2.2 _ _ hk0
  have E0 : own_Ent k0 ix text us := ⟨cf, i, e1, e2, e3, e4⟩
  have E : own_Ent k ix text us := ⟨cf, i, by rw [same]; exact e1, e2, e3, e4⟩
  have big : ∀ {b T'}, own_Left p l e R s T m args below meth c locs cells slots ix g b T' → own_Left p l e R s T m args below meth c locs (cells + 2) (slots + (n + 4)) ix g b T' := fun F => ⟨F.1.mono (Nat.le_add_right _ _) (Nat.le_add_right _ _), F.2⟩
  have late := X.warmed.wide.entry hk0 hk ix
  cases h1 : k.resolved[ix]? with
  | none =>
    rcases late with q | ⟨-, r, q, -⟩
    · rw [h1] at q; rcases res with z | ⟨b, z⟩ <;> (rw [z] at q; cases q)
    · rw [h1] at q; cases q
  | some r =>
    cases r with
    | some r =>
      have isStr : ∃ b, r = .string b := by
        rcases late with q | ⟨-, r', q, q2⟩
        · rcases res with z | ⟨b, z⟩
          · rw [h1, z] at q; simp at q
          · rw [h1, z] at q; simp at q; exact ⟨b, q⟩
        · rw [h1] at q; simp at q; subst q
          rcases q2 with q2 | ⟨b, t, q2, -⟩
          · cases r <;> simp [State.rightAt, hk0, e1, e4] at q2
          · exact ⟨b, q2⟩
      obtain ⟨b, rfl⟩ := isStr
      exact ⟨b, T, big (own_known X hx hg hd hk E h1)⟩
    | none =>
      have o0 : k0.resolved[ix]? = some none := by
        rcases late with q | ⟨-, r', q, -⟩
        · rw [← q]; exact h1
        · rw [h1] at q; simp at q
      cases hf : T.vm.interned.find? (fun q => q.1 == us) with
      | none => obtain ⟨T', F⟩ := own_made X hx hS hg hd hk0 hk E0 E o0 h1 hf (Nat.le_trans (text_bytes_le e5) hn) hbig hc hs; exact ⟨_, T', F⟩
      | some pr =>
        obtain ⟨u, b⟩ := pr
        have : u = us := by simpa using Array.find?_some hf
        subst this
        exact ⟨b, _, big (own_found X hx hg hd hk0 hk E0 E o0 h1 hf)⟩
end OwnWide
end Jvm.Stand
namespace Jvm.RoadKit
open Sem ClassFile Op Lib Bundle Jvm.Stand Jvm.Free Jvm.LawKit Jvm.Free.SB Jvm.Free.SBG
section OwnWide2
variable {Z : State} {EL : List (String × Nat)} {vm : Vm} {h : Heap} {Q : SQ} {us : Array UInt16}
theorem own_fld {C n d : String} {a : Addr} {cell : Cell} {f : Field} {v : Value} (al : Z.vm.Alike vm) (at_ : h[a]? = some cell) (nu : cell.vm ≠ .unknown) (ns : cell.vm.isStatics = false) (ff : ∃ cf k i, (Wst Z vm h).fieldFound? C n d = some (cf, k, i, f) ∧ (Wst Z vm h).vm.assignable cell.cls cf = true) (fs : f.isStatic = false) (val : cell.slots[f.slot]? = some v) : Fld Z h a C n d v := by
  obtain ⟨cf, k, i, q1, q2⟩ := ff
  obtain ⟨k', q3⟩ := ff_back (U := Wst Z vm h) al q1
  exact ⟨cell, cf, k', i, f, at_, q3, fs, nu, ns, by rw [← al.assignable]; exact q2, val⟩
theorem own_exa {a : Addr} {cell : Cell} {d : ClassId} {k' : Class} (al : Z.vm.Alike vm) (at_ : h[a]? = some cell) (ns : cell.vm.isStatics = false) (fc : vm.findClass "java/lang/String" = some d) (hc : cell.cls = d) (hk : vm.classes[d]? = some k') (sz : cell.slots.size = k'.instanceTypes.size) : Exa Z h a "java/lang/String" := by
  subst hc
  have fz : Z.vm.findClass "java/lang/String" = some cell.cls := by rw [← al.findClass]; exact fc
  obtain ⟨k, q1, -⟩ := Vm.findClass_spec fz
  obtain ⟨k2, q2, q3⟩ := al.2.2 _ _ q1
  cases hk.symm.trans q2
  exact ⟨cell, k, at_, fz, q1, ns, fun _ => by rw [q3] at sz; exact sz⟩
theorem own_isA {A : Cell} (al : Z.vm.Alike vm) (fb : vm.findClass "[B" = some A.cls) (isA : (Wst Z vm h).isArrayOf A .byte) : Z.isArrayOf A .byte := by
  obtain ⟨st, k9, q9, comp, kd⟩ := isA
  have fz : Z.vm.findClass "[B" = some A.cls := by rw [← al.findClass]; exact fb
  obtain ⟨k, q1, -⟩ := Vm.findClass_spec fz
  obtain ⟨k2, q2, q3⟩ := al.2.2 _ _ q1
  cases (show vm.classes[A.cls]? = some k9 from q9).symm.trans q2
  exact ⟨st, k, q1, comp, by rw [q3] at kd; exact kd⟩
theorem own_arv {b : Addr} {A : Cell} {z : Int32} {vs : List Value} (at_ : h[b]? = some A) (isA : Z.isArrayOf A .byte) (nu : A.vm ≠ .unknown) (sl : A.slots.toList = vs) (hz : ¬ z < 0) (hl : z.toNatClampNeg = vs.length) (ft : ∀ i, i < A.slots.size → fits .byte (A.slots.getD i .null) = true) : Arv Z h b A.cls .byte z vs (.int 0) := by
  subst sl
  have get : ∀ i, (hi : i < A.slots.size) → A.slots.toList.getD i (.int 0) = A.slots[i] := fun i hi => by rw [List.getD_eq_getElem?_getD, Array.getElem?_toList, Array.getElem?_eq_getElem hi]; rfl
  refine ⟨A, ⟨at_, isA, nu⟩, rfl, by simpa using hl.symm, hz, fun i hi => by rw [get i hi, Array.getElem?_eq_getElem hi], fun i hi => ?_⟩
  have q := ft i hi
  rw [get i hi]
  simpa [Array.getD, hi] using q
/-- what the invariant says of a booked constant's String -/
theorem own_read {own text : String} {ix : Nat} {a : Addr} (al : Z.vm.Alike vm) (H : CHv Z EL vm h) (mem : (own, ix) ∈ EL) (B : Booksv vm own ix us a) (tx : utf16ToString? us = some text) {vs : List Value} {z : Int32}
    (ht : (∀ c ∈ text.toList, c.toNat < 256) ∧ text.toList.map (fun c => Value.int (Jvm.Lit.byteI c.toNat.toUInt16)) = vs) (hz : ¬ z < 0) (hl : z.toNatClampNeg = vs.length) :
    ∃ (b : Addr) (kb : ClassId), (Exa Z h a "java/lang/String" ∧ Fld Z h a "java/lang/String" "coder" "B" (.int 0) ∧ Fld Z h a "java/lang/String" "value" "[B" (.ref b) ∧ Arv Z h b kb .byte z vs (.int 0)) ∧ ∀ x, Safe Z EL vm h x → x ≠ a ∧ x ≠ b := by
  obtain ⟨q, hq, F⟩ := SlB.of (H _ mem us a B)
  have far : ∀ x, Safe Z EL vm h x → ¬ (x = q.sa ∨ x = q.sd) := fun x S y => S ⟨(own, ix), mem, us, a, B, q, hq, F, y⟩
  subst hq
  obtain ⟨cS, ⟨L, fS, hc⟩, ⟨kS, g1, -, g3⟩, fB, sl⟩ := F
  obtain ⟨l1, l2, l3, l4, l5, l6, l7, l8, l9, l10, l11, l12, -, -, -, l16⟩ := L
  have e1 : us.toList = _ := Jvm.ClassFile.units_of_text tx ht.1
  have e2 : stringBytes us = us.map fun w => Value.int (Jvm.Lit.byteI w) := SBG.stringBytes_lat (Jvm.ClassFile.lat_of_text tx ht.1)
  have list : q.SA.slots.toList = vs := by rw [sl, e2, Array.toList_map, e1, List.map_map, ← ht.2]; rfl
  exact ⟨q.sd, q.SA.cls, ⟨own_exa al l1 l3 fS hc g1 g3, own_fld al l1 l2 l3 l5 l7 l9, own_fld al l1 l2 l3 l4 l6 l8, own_arv l10 (own_isA al fB l11) l12 list hz hl l16⟩, fun x S => ⟨fun y => far x S (Or.inl y), fun y => far x S (Or.inr y)⟩⟩
end OwnWide2
section OwnWide3
variable {p : Program} {l : Launch} {e : Env} {R : Room} {s : State} {m : MethodId} {args : Array Value} {below : List Frame} {meth : Method} {c : Code} {T : State} {locs : List Loc} {cells slots : Nat} {Z : State} {a0 : Array Value} {EL : List (String × Nat)} {h : Heap} {vm0 : Vm} {own text : String} {index : Nat}
theorem own_atoms (hZ : Z.Warmed39 vm0) (wS : ∀ w ∈ Bundle.stringAtoms, w.before a0 Z = true) : ∀ w ∈ Bundle.stringAtoms, w.before args (s.setVm vm0) = true := by
  have g1 := fun w hw => wS w hw
  simp only [Bundle.stringAtoms, List.forall_mem_cons, List.not_mem_nil, false_implies, implies_true, and_true] at g1 ⊢
  obtain ⟨q1, q2, q3, q4, q5, q6, q7⟩ := g1
  exact ⟨mv (s := s.setVm vm0) hZ q1, mv (s := s.setVm vm0) hZ q2, mvA (s := s.setVm vm0) hZ q3, mv (s := s.setVm vm0) hZ q4, mv (s := s.setVm vm0) hZ q5, mv (s := s.setVm vm0) hZ q6, mv (s := s.setVm vm0) hZ q7⟩
/-- ldc_w of a constant of EL, read -/
theorem own_ldcWC (X : Stand p l e R (s.setVm vm0) m args below meth c T locs cells slots) (hx : p.tables.exec = Jvm.exec) (hZ : Z.Warmed39 vm0) (hown : vm0.findClass own = some m.cls) (w : (Cond.stringLink own index text).before a0 Z = true) (wS : ∀ a ∈ Bundle.stringAtoms, a.before a0 Z = true)
    (eT : T.heap = h) {k0 : Nat} (hS : s.Since vm0 k0) (hk : k0 ≤ h.size) (hEL : EW Z a0 EL) (hmem : (own, index) ∈ EL) (H : CHv Z EL vm0 h) {vs : List Value} {z : Int32}
    (ht : (∀ c ∈ text.toList, c.toNat < 256) ∧ text.toList.map (fun c => Value.int (Jvm.Lit.byteI c.toNat.toUInt16)) = vs) (hz : ¬ z < 0) (hl : z.toNatClampNeg = vs.length) {g : JFrame} (hg : g.method = m) (hd : decode c.code g.pc = .ok (.ldc_w index, 3)) {n : Nat} (hn : 4 * text.toList.length ≤ n) (hbig : n ≤ 536870912) (hc : cells + 2 ≤ R.cells) (hl' : slots + (n + 4) ≤ R.slots) :
    ∃ (a : Addr) (T' : State) (h' : Heap) (k1 : Nat) (b : Addr) (k : ClassId), Stand p l e R (s.setVm T'.vm) m args below meth c T' locs (cells + 2) (slots + (n + 4)) ∧ T'.heap = h' ∧ Ext h h' ∧ s.Since T'.vm k1 ∧ k1 ≤ h'.size ∧ Z.Warmed39 (s.setVm T'.vm).vm ∧ (s.setVm T'.vm).vm.findClass own = some m.cls ∧
      Exa Z h' a "java/lang/String" ∧ Fld Z h' a "java/lang/String" "coder" "B" (.int 0) ∧ Fld Z h' a "java/lang/String" "value" "[B" (.ref b) ∧ Arv Z h' b k .byte z vs (.int 0) ∧ True ∧ True ∧ CHr Z EL vm0 h T'.vm h' ∧ True ∧ (∀ x, Safe Z EL T'.vm h' x → x ≠ a ∧ x ≠ b) ∧
      ∀ t, Steps p.tables e below (T'.setTop { g with pc := g.pc + 3, stack := .ref a :: g.stack }) t → Steps p.tables e below (T.setTop g) t := by
  obtain ⟨a, T', F⟩ := own_left X hx (own := own) hown (mvS hZ w) (own_atoms hZ wS) hg hd hn hbig hc hl'
  subst eT
  have grown := ext_of F.2.2.2.1
  have now : CHr Z EL vm0 T.heap T.vm T.heap := CHv.at X hZ hEL H
  have old : Z.Warmed39 T.vm := wtrans (s := s.setVm vm0) hZ X.warmed
  have new : Z.Warmed39 T'.vm := State.Warmed39.trans (t := s.setVm vm0) hZ F.2.1.1
  have step := CHv.later (h' := T'.heap) old (show (Wst Z T.vm T.heap).Warmed39 T'.vm from F.2.2.2.2.1) hEL grown (by
    rcases F.2.2.2.2.2.1 with q | ⟨us, q1, q2, q3⟩
    · exact Or.inl q
    · refine Or.inr ⟨us, a, q1, q2, fun lat => ?_⟩
      obtain ⟨o, cS, r0, r1, r2, r3, r4, r5 | r5⟩ := q3 lat
      · exact absurd r5.1 (Nat.not_lt_zero _)
      · have G : SlB T' o us := ⟨cS, r1, r2, r3, r4⟩
        exact ⟨o, r0, G.carry (V := Wst Z T'.vm T'.heap) (Vm.Alike.refl _) G.ha G.hd, r5⟩) now.1
  have whole : CHr Z EL vm0 T.heap T'.vm T'.heap := now.trans ⟨step.1, grown.1, step.2⟩
  have own' : T'.vm.findClass own = some m.cls := (F.2.1.1.alike.findClass own _).trans hown
  have link : (Cond.stringLink own index text).before a0 (Wst Z T'.vm T'.heap) = true := mvS (s := { Z with heap := T'.heap }) new w
  obtain ⟨k9, cf, i, us, z1, z2, z3, z4, -, z6, -⟩ := Cond.stringLink_spec (s := Wst Z T'.vm T'.heap) own' link
  obtain ⟨k8, y1, y2⟩ := F.2.2.1
  cases (show T'.vm.classes[m.cls]? = some k9 from z1).symm.trans y1
  obtain ⟨b, kb, ⟨c1, c2, c3, c4⟩, far⟩ := own_read new.alike whole.1 hmem ⟨m.cls, k9, cf, i, own', z1, z2, z3, z4, Or.inl y2⟩ z6 ht hz hl
  exact ⟨a, T', _, _, b, kb, F.1, rfl, grown, hS.trans F.2.1 (Nat.le_trans hk grown.1), Nat.le_refl _, new, own', c1, c2, c3, c4, trivial, trivial, whole, trivial, far, F.2.2.2.2.2.2⟩
end OwnWide3
end Jvm.RoadKit
/- laws to paste: Road.backV, Road.chN, Road.eqW, Road.codOf (cut by pick.py; bodies as the Statement names them) -/
namespace Jvm.Pilot.@@N@@
namespace StrChars
open Jvm Sem ClassFile Op Lib Jvm.Stand Jvm.Free.XT Jvm.Free.ALB Jvm.Free.JM Jvm.Free
open Jvm.Lib.Cold (StaticIs)
/-- a char array whose places are chars -/
def Ch (a : Addr) (A : Cell) (U : State) : Prop := Arr .char a A U ∧ Typed .char A
theorem Ch.mv {a : Addr} {A : Cell} {U U' : State} (h : Ch a A U) (hal : U.vm.Alike U'.vm) (hh : U'.heap = U.heap) : Ch a A U' := ⟨h.1.mv hal hh, h.2⟩
theorem Ch.keep {a : Addr} {A : Cell} {U U' : State} (h : Ch a A U) (hal : U.vm.Alike U'.vm) (hk : U'.heap[a]? = some A) : Ch a A U' := ⟨h.1.keep hal hk, h.2⟩
/-- what place i of a char[]'s cell holds -/
def cv (A : Cell) (i : Nat) : Int32 := match A.slots[i]? with | some (.int x) => x | _ => 0
theorem Ch.get {a : Addr} {A : Cell} {U : State} (h : Ch a A U) {i : Nat} (hi : i < A.slots.size) : A.slots[i]? = some (.int (cv A i)) := by
  have e := Array.getElem?_eq_getElem hi
  have f := h.2 i _ e
  unfold cv; rw [e]
  generalize A.slots[i] = v at f
  cases v <;> simp [fits] at f ⊢
/-- the byte that i2b leaves of a char -/
def lo8 (x : Int32) : Int32 := x.toInt8.toInt32
theorem fits_lo8 (y : Int32) : fits .byte (.int (lo8 y)) = true := by
  have h1 := y.toInt8.le_toInt
  have h2 := y.toInt8.toInt_lt
  simp only [lo8, fits, Bool.and_eq_true, decide_eq_true_eq, Int32.le_iff_toInt_le, Int8.toInt_toInt32, show (-128 : Int32).toInt = -128 from by decide, show (127 : Int32).toInt = 127 from by decide]
  omega
/-- A' is A but that each place j of lo .. hi - 1 holds f j -/
def Laid (A A' : Cell) (lo hi : Nat) (f : Nat → Value) : Prop := A'.cls = A.cls ∧ A'.vm = A.vm ∧ A'.slots.size = A.slots.size ∧ ∀ i, A'.slots[i]? = if lo ≤ i ∧ i < hi then some (f i) else A.slots[i]?
theorem Laid.zero (A : Cell) (lo : Nat) (f : Nat → Value) : Laid A A lo (lo + 0) f := ⟨rfl, rfl, rfl, fun i => by rw [if_neg (by omega)]⟩
theorem Laid.step {A Ak : Cell} {lo k : Nat} {f : Nat → Value} {v : Value} (h : Laid A Ak lo k f) (hlo : lo ≤ k) (hk : k < Ak.slots.size) (hv : v = f k) : Laid A (Ak.setSlot k v) lo (k + 1) f := by
  refine ⟨h.1, h.2.1, by simpa [Cell.setSlot] using h.2.2.1, fun i => ?_⟩
  by_cases e : k = i
  · subst e; rw [Cell.slots_setSlot_self v hk, if_pos (by omega), hv]
  · rw [Cell.slots_setSlot_ne v e, h.2.2.2 i]
    by_cases q : lo ≤ i ∧ i < k
    · rw [if_pos q, if_pos (by omega)]
    · rw [if_neg q, if_neg (by omega)]
def U16 : String := "java/lang/StringUTF16"
namespace Cmp5
def yN : MethodName := ⟨"java/lang/StringUTF16", "compress", "([CI[BII)I"⟩
abbrev yB : ByteArray := jdk_52_method_21_code
theorem d0 : decode yB 0 = .ok (.iconst 0, 1) := by decide +kernel
theorem d1 : decode yB 1 = .ok (.istore 5, 2) := by decide +kernel
theorem d3 : decode yB 3 = .ok (.iload 5, 2) := by decide +kernel
theorem d5 : decode yB 5 = .ok (.iload 4, 2) := by decide +kernel
theorem d7 : decode yB 7 = .ok (.if_icmp (.ge) 37, 3) := by decide +kernel
theorem d10 : decode yB 10 = .ok (.aload_n 0, 1) := by decide +kernel
theorem d11 : decode yB 11 = .ok (.iload_n 1, 1) := by decide +kernel
theorem d12 : decode yB 12 = .ok (.caload, 1) := by decide +kernel
theorem d13 : decode yB 13 = .ok (.istore 6, 2) := by decide +kernel
theorem d15 : decode yB 15 = .ok (.iload 6, 2) := by decide +kernel
theorem d17 : decode yB 17 = .ok (.sipush 255, 3) := by decide +kernel
theorem d20 : decode yB 20 = .ok (.if_icmp (.le) 6, 3) := by decide +kernel
theorem d26 : decode yB 26 = .ok (.aload_n 2, 1) := by decide +kernel
theorem d27 : decode yB 27 = .ok (.iload_n 3, 1) := by decide +kernel
theorem d28 : decode yB 28 = .ok (.iload 6, 2) := by decide +kernel
theorem d30 : decode yB 30 = .ok (.i2b, 1) := by decide +kernel
theorem d31 : decode yB 31 = .ok (.bastore, 1) := by decide +kernel
theorem d32 : decode yB 32 = .ok (.iinc 1 1, 3) := by decide +kernel
theorem d35 : decode yB 35 = .ok (.iinc 3 1, 3) := by decide +kernel
theorem d38 : decode yB 38 = .ok (.iinc 5 1, 3) := by decide +kernel
theorem d41 : decode yB 41 = .ok (.goto (-38), 3) := by decide +kernel
theorem d44 : decode yB 44 = .ok (.iload 4, 2) := by decide +kernel
theorem d46 : decode yB 46 = .ok (.ireturn, 1) := by decide +kernel
def site : List Cond := []
def tab : Cond := tabOf yN yB 7 (some .int) site
def P (b : Addr) (A : Cell) (d : Addr) (B : Cell) (o q len : Nat) (args : Array Value) (s : State) : Prop := args = #[.ref b, .int (Int32.ofNat o), .ref d, .int (Int32.ofNat q), .int (Int32.ofNat len)] ∧ Ch b A s ∧ Arr .byte d B s ∧ b ≠ d ∧ o + len ≤ A.slots.size ∧ q + len ≤ B.slots.size ∧ ∀ i, i < len → ¬ 255 < cv A (o + i)
def E (b : Addr) (A : Cell) (d : Addr) (B : Cell) (o q len : Nat) (r : Option Value) (s u : State) : Prop := r = some (.int (Int32.ofNat len)) ∧ ∃ B', Put d B' s u ∧ Laid B B' q (q + len) (fun j => Value.int (lo8 (cv A (o + (j - q)))))
/-- no char of the range above 255: len; the places written hold each char's low byte -/
theorem law (l : Launch) (b : Addr) (A : Cell) (d : Addr) (B : Cell) (o q len : Nat) : Law l yN 5 5 0 0 yB 7 (some .int) site (P b A d B o q len) (E b A d B o q len) (copyLocs d q len) 0 0 := by
  refine Law.of_walk (plainFor_of_name (by decide +kernel)) (by decide +kernel) (by decide +kernel) (by decide) (fun _ _ h => by rw [h.1]; rfl) (fun _ U U' hal hh h => ⟨h.1, h.2.1.mv hal hh, h.2.2.1.mv hal hh, h.2.2.2⟩) (fun r U U' V V' h1 hal h2 h => ⟨h.1, h.2.elim fun B' q => ⟨B', q.1.mv h1 h2, q.2⟩⟩) ?_
  intro p e s m args below meth c s₁ X0 hexec hbytes hml hret hlk hnm hown hh0 W hP
  obtain ⟨rfl, hA, hB, hne, l1, l2, hp⟩ := hP
  have c1 : Steps p.tables e below (s₁.setTop (entryFrame m #[.ref b, .int (Int32.ofNat o), .ref d, .int (Int32.ofNat q), .int (Int32.ofNat len)] 7)) (s₁.setTop (mkF m 0 #[.val (.ref b), .val (.int (Int32.ofNat o)), .val (.ref d), .val (.int (Int32.ofNat q)), .val (.int (Int32.ofNat len)), .unset, .unset] [])) := entry rfl
  have hA0 := hA.1.mv X0.warmed.alike hh0
  have hB0 := hB.mv X0.warmed.alike hh0
  have a31 := hA.1.2.2.2
  have c2 : Steps p.tables e below (s₁.setTop (entryFrame m #[.ref b, .int (Int32.ofNat o), .ref d, .int (Int32.ofNat q), .int (Int32.ofNat len)] 7)) (s₁.setTop (mkF m 3 #[.val (.ref b), .val (.int (Int32.ofNat o)), .val (.ref d), .val (.int (Int32.ofNat q)), .val (.int (Int32.ofNat len)), .val (.int 0), .unset] [])) := c1.trans (by
    refine iconstV X0.here hexec rfl 0 (hb hbytes d0) (by decide) ?_
    refine XS.istore X0.here hexec rfl (hb hbytes d1) rfl rfl ?_
    exact Steps.refl _)
  have loop : ∀ (r i : Nat), i + r = len → ∀ (z : Slot), (z = .unset ∨ ∃ w, z = .val w ∧ w.category = 1) → ∀ (Tl : State) (Bk : Cell), Stand p l e { frames := 0, locals := 0, cells := 0, slots := 0 } s m #[.ref b, .int (Int32.ofNat o), .ref d, .int (Int32.ofNat q), .int (Int32.ofNat len)] below meth c Tl ([] ++ copyLocs d q i) 0 0 → Put d Bk s₁ Tl → Laid B Bk q (q + i) (fun j => Value.int (lo8 (cv A (o + (j - q))))) →
      Steps p.tables e below (s₁.setTop (entryFrame m #[.ref b, .int (Int32.ofNat o), .ref d, .int (Int32.ofNat q), .int (Int32.ofNat len)] 7)) (Tl.setTop (mkF m 3 #[.val (.ref b), .val (.int (Int32.ofNat (o + i))), .val (.ref d), .val (.int (Int32.ofNat (q + i))), .val (.int (Int32.ofNat len)), .val (.int (Int32.ofNat i)), z] [])) → ∃ (T' : State) (B' : Cell) (z' : Slot), Stand p l e { frames := 0, locals := 0, cells := 0, slots := 0 } s m #[.ref b, .int (Int32.ofNat o), .ref d, .int (Int32.ofNat q), .int (Int32.ofNat len)] below meth c T' ([] ++ copyLocs d q len) 0 0 ∧ Put d B' s₁ T' ∧ Laid B B' q (q + len) (fun j => Value.int (lo8 (cv A (o + (j - q))))) ∧
      Steps p.tables e below (s₁.setTop (entryFrame m #[.ref b, .int (Int32.ofNat o), .ref d, .int (Int32.ofNat q), .int (Int32.ofNat len)] 7)) (T'.setTop (mkF m 3 #[.val (.ref b), .val (.int (Int32.ofNat (o + len))), .val (.ref d), .val (.int (Int32.ofNat (q + len))), .val (.int (Int32.ofNat len)), .val (.int (Int32.ofNat len)), z'] [])) := by
    intro r
    induction r with
    | zero =>
      intro i hi z hz Tl Bk Xl pl fl cl
      have hil : i = len := by omega
      rw [hil] at Xl fl cl
      exact ⟨Tl, Bk, z, Xl, pl, fl, cl⟩
    | succ r ih =>
      intro i hi z hz Tl Bk Xl pl fl cl
      have all := X0.warmed.alike.symm.trans Xl.warmed.alike
      have hAl := hA0.keep all (pl.other hne hA0.1)
      have hBk := hB0.like all pl.1 fl.1 fl.2.1 fl.2.2.1
      have hlt : q + i < Bk.slots.size := by rw [fl.2.2.1]; omega
      have c3 : Steps p.tables e below (s₁.setTop (entryFrame m #[.ref b, .int (Int32.ofNat o), .ref d, .int (Int32.ofNat q), .int (Int32.ofNat len)] 7)) (Tl.setTop (mkF m 12 #[.val (.ref b), .val (.int (Int32.ofNat (o + i))), .val (.ref d), .val (.int (Int32.ofNat (q + i))), .val (.int (Int32.ofNat len)), .val (.int (Int32.ofNat i)), z] [.int (Int32.ofNat (o + i)), .ref b])) := cl.trans (by
        refine XS.iload Xl.here hexec rfl (hb hbytes d3) rfl ?_
        refine XS.iload Xl.here hexec rfl (hb hbytes d5) rfl ?_
        refine XS.icmpNo Xl.here hexec rfl (hb hbytes d7) rfl (ii_ge_f (lt32 (by omega) (by omega))) ?_
        refine XS.aloadN Xl.here hexec rfl (hb hbytes d10) rfl rfl ?_
        refine XS.iloadN Xl.here hexec rfl (hb hbytes d11) rfl ?_
        exact Steps.refl _)
      have c4 : Steps p.tables e below (s₁.setTop (entryFrame m #[.ref b, .int (Int32.ofNat o), .ref d, .int (Int32.ofNat q), .int (Int32.ofNat len)] 7)) (Tl.setTop (mkF m 13 #[.val (.ref b), .val (.int (Int32.ofNat (o + i))), .val (.ref d), .val (.int (Int32.ofNat (q + i))), .val (.int (Int32.ofNat len)), .val (.int (Int32.ofNat i)), z] [.int (cv A (o + i))])) := c3.trans (by
        refine Xl.aget hexec hAl rfl (hA.get (i := o + i) (by omega)) rfl rfl (hb hbytes d12) ?_
        exact Steps.refl _)
      have c5 : Steps p.tables e below (s₁.setTop (entryFrame m #[.ref b, .int (Int32.ofNat o), .ref d, .int (Int32.ofNat q), .int (Int32.ofNat len)] 7)) (Tl.setTop (mkF m 15 #[.val (.ref b), .val (.int (Int32.ofNat (o + i))), .val (.ref d), .val (.int (Int32.ofNat (q + i))), .val (.int (Int32.ofNat len)), .val (.int (Int32.ofNat i)), .val (.int (cv A (o + i)))] [])) := c4.trans (by
        refine XS.istoreS Xl.here hexec rfl (hb hbytes d13) rfl rfl hz ?_
        exact Steps.refl _)
      have c6 : Steps p.tables e below (s₁.setTop (entryFrame m #[.ref b, .int (Int32.ofNat o), .ref d, .int (Int32.ofNat q), .int (Int32.ofNat len)] 7)) (Tl.setTop (mkF m 31 #[.val (.ref b), .val (.int (Int32.ofNat (o + i))), .val (.ref d), .val (.int (Int32.ofNat (q + i))), .val (.int (Int32.ofNat len)), .val (.int (Int32.ofNat i)), .val (.int (cv A (o + i)))] [.int (lo8 (cv A (o + i))), .int (Int32.ofNat (q + i)), .ref d])) := c5.trans (by
        refine XS.iload Xl.here hexec rfl (hb hbytes d15) rfl ?_
        refine sipushV Xl.here hexec rfl 255 (hb hbytes d17) (by decide) ?_
        refine XS.icmpYes Xl.here hexec rfl (pc0 := 20) rfl (hb hbytes d20) rfl (ii_le_t (hp i (by omega))) (by decide) rfl ?_
        refine XS.aloadN Xl.here hexec rfl (hb hbytes d26) rfl rfl ?_
        refine XS.iloadN Xl.here hexec rfl (hb hbytes d27) rfl ?_
        refine XS.iload Xl.here hexec rfl (hb hbytes d28) rfl ?_
        refine i2b Xl.here hexec rfl (hb hbytes d30) rfl ?_
        exact Steps.refl _)
      obtain ⟨T7, X7, p7, st7⟩ := Xl.aput hexec hBk rfl hlt rfl (fits_lo8 (cv A (o + i))) (g := (mkF m 31 #[.val (.ref b), .val (.int (Int32.ofNat (o + i))), .val (.ref d), .val (.int (Int32.ofNat (q + i))), .val (.int (Int32.ofNat len)), .val (.int (Int32.ofNat i)), .val (.int (cv A (o + i)))] [.int (lo8 (cv A (o + i))), .int (Int32.ofNat (q + i)), .ref d])) rfl (rest := []) rfl (hb hbytes d31)
      have c8 : Steps p.tables e below (s₁.setTop (entryFrame m #[.ref b, .int (Int32.ofNat o), .ref d, .int (Int32.ofNat q), .int (Int32.ofNat len)] 7)) (T7.setTop (mkF m 32 #[.val (.ref b), .val (.int (Int32.ofNat (o + i))), .val (.ref d), .val (.int (Int32.ofNat (q + i))), .val (.int (Int32.ofNat len)), .val (.int (Int32.ofNat i)), .val (.int (cv A (o + i)))] [])) := c6.trans (st7 _ (Steps.refl _))
      have c9 : Steps p.tables e below (s₁.setTop (entryFrame m #[.ref b, .int (Int32.ofNat o), .ref d, .int (Int32.ofNat q), .int (Int32.ofNat len)] 7)) (T7.setTop (mkF m 3 #[.val (.ref b), .val (.int (Int32.ofNat (o + i) + 1)), .val (.ref d), .val (.int (Int32.ofNat (q + i) + 1)), .val (.int (Int32.ofNat len)), .val (.int (Int32.ofNat i + 1)), .val (.int (cv A (o + i)))] [])) := c8.trans (by
        refine iincV X7.here hexec rfl 1 (hb hbytes d32) (by decide) rfl rfl ?_
        refine iincV X7.here hexec rfl 1 (hb hbytes d35) (by decide) rfl rfl ?_
        refine iincV X7.here hexec rfl 1 (hb hbytes d38) (by decide) rfl rfl ?_
        refine XS.goto X7.here hexec rfl (pc0 := 41) rfl (hb hbytes d41) (by decide) rfl ?_
        exact Steps.refl _)
      have c10 : Steps p.tables e below (s₁.setTop (entryFrame m #[.ref b, .int (Int32.ofNat o), .ref d, .int (Int32.ofNat q), .int (Int32.ofNat len)] 7)) (T7.setTop (mkF m 3 #[.val (.ref b), .val (.int (Int32.ofNat (o + (i + 1)))), .val (.ref d), .val (.int (Int32.ofNat (q + (i + 1)))), .val (.int (Int32.ofNat len)), .val (.int (Int32.ofNat (i + 1))), .val (.int (cv A (o + i)))] [])) := by
        have := c9
        rw [succ32, succ32, succ32] at this
        exact this
      exact ih (i + 1) (by omega) _ (Or.inr ⟨_, rfl, rfl⟩) T7 _ (by rw [copyLocs_step, ← List.append_assoc]; exact X7) (pl.trans p7) (fl.step (by omega) hlt (by simp)) c10
  obtain ⟨T9, B9, z9, X9, p9, f9, g9⟩ := loop len 0 (by omega) .unset (Or.inl rfl) s₁ B (by simpa [copyLocs] using X0) ⟨hB0.1, fun _ _ => rfl, rfl⟩ (Laid.zero _ _ _) c2
  have c11 : Steps p.tables e below (s₁.setTop (entryFrame m #[.ref b, .int (Int32.ofNat o), .ref d, .int (Int32.ofNat q), .int (Int32.ofNat len)] 7)) (T9.setTop (mkF m 46 #[.val (.ref b), .val (.int (Int32.ofNat (o + len))), .val (.ref d), .val (.int (Int32.ofNat (q + len))), .val (.int (Int32.ofNat len)), .val (.int (Int32.ofNat len)), z9] [.int (Int32.ofNat len)])) := g9.trans (by
    refine XS.iload X9.here hexec rfl (hb hbytes d3) rfl ?_
    refine XS.iload X9.here hexec rfl (hb hbytes d5) rfl ?_
    refine XS.icmpYes X9.here hexec rfl (pc0 := 7) rfl (hb hbytes d7) rfl (ii_ge_t (nlt32 (by omega) (Nat.le_refl _))) (by decide) rfl ?_
    refine XS.iload X9.here hexec rfl (hb hbytes d44) rfl ?_
    exact Steps.refl _)
  exact ⟨T9, some (.int (Int32.ofNat len)), _, _, _, X9, by simp, rfl, rfl, (fun h => by cases h), ⟨rfl, B9, p9.from hh0, f9⟩, fun fs hl => c11.trans (X9.ireturnOut hexec hret rfl (Or.inl rfl) (hb hbytes d46) hl)⟩
end Cmp5
namespace Cmp3
def yN : MethodName := ⟨"java/lang/StringUTF16", "compress", "([CII)[B"⟩
abbrev yB : ByteArray := jdk_52_method_16_code
theorem d0 : decode yB 0 = .ok (.iload_n 2, 1) := by decide +kernel
theorem d1 : decode yB 1 = .ok (.newarray .byte, 2) := by decide +kernel
theorem d3 : decode yB 3 = .ok (.astore_n 3, 1) := by decide +kernel
theorem d4 : decode yB 4 = .ok (.aload_n 0, 1) := by decide +kernel
theorem d5 : decode yB 5 = .ok (.iload_n 1, 1) := by decide +kernel
theorem d6 : decode yB 6 = .ok (.aload_n 3, 1) := by decide +kernel
theorem d7 : decode yB 7 = .ok (.iconst 0, 1) := by decide +kernel
theorem d8 : decode yB 8 = .ok (.iload_n 2, 1) := by decide +kernel
theorem d9 : decode yB 9 = .ok (.invokestatic 115, 3) := by decide +kernel
theorem d12 : decode yB 12 = .ok (.istore 4, 2) := by decide +kernel
theorem d14 : decode yB 14 = .ok (.iload 4, 2) := by decide +kernel
theorem d16 : decode yB 16 = .ok (.iload_n 2, 1) := by decide +kernel
theorem d17 : decode yB 17 = .ok (.if_icmp (.eq) 40, 3) := by decide +kernel
theorem d57 : decode yB 57 = .ok (.aload_n 3, 1) := by decide +kernel
theorem d58 : decode yB 58 = .ok (.areturn, 1) := by decide +kernel
def site : List Cond := [.arrayClass .byte, Cmp5.tab] ++ staticW U16 115 Cmp5.yN
def tab : Cond := tabOf yN yB 6 (some (.array .byte)) site
def P (b : Addr) (A : Cell) (o len : Nat) (args : Array Value) (s : State) : Prop := args = #[.ref b, .int (Int32.ofNat o), .int (Int32.ofNat len)] ∧ Ch b A s ∧ o + len ≤ A.slots.size ∧ len ≤ 536870912 ∧ ∀ i, i < len → ¬ 255 < cv A (o + i)
def E (b : Addr) (A : Cell) (o len : Nat) (r : Option Value) (s u : State) : Prop := NewArr .byte "[B" len (fun j => .int (lo8 (cv A (o + j)))) r s u ∧ u.heap.size = s.heap.size + 1
/-- no char of the range above 255: a new byte[] of their low bytes -/
theorem law (l : Launch) (b : Addr) (A : Cell) (o len : Nat) : Law l yN 3 3 1 18 yB 6 (some (.array .byte)) site (P b A o len) (E b A o len) [] 1 len := by
  refine Law.of_walk (plainFor_of_name (by decide +kernel)) (by decide +kernel) (by decide +kernel) (by decide) (fun _ _ h => by rw [h.1]; rfl) (fun _ U U' hal hh h => ⟨h.1, h.2.1.mv hal hh, h.2.2⟩) (fun r U U' V V' h1 hal h2 h => ⟨NewArr.mv r U U' V V' h1 hal h2 h.1, by rw [h1, h2]; exact h.2⟩) ?_
  intro p e s m args below meth c s₁ X0 hexec hbytes hml hret hlk hnm hown hh0 W hP
  obtain ⟨rfl, hA, l1, l2, hp⟩ := hP
  have a31 := hA.1.2.2.2
  have c1 : Steps p.tables e below (s₁.setTop (entryFrame m #[.ref b, .int (Int32.ofNat o), .int (Int32.ofNat len)] 6)) (s₁.setTop (mkF m 0 #[.val (.ref b), .val (.int (Int32.ofNat o)), .val (.int (Int32.ofNat len)), .unset, .unset, .unset] [])) := entry rfl
  have c2 : Steps p.tables e below (s₁.setTop (entryFrame m #[.ref b, .int (Int32.ofNat o), .int (Int32.ofNat len)] 6)) (s₁.setTop (mkF m 1 #[.val (.ref b), .val (.int (Int32.ofNat o)), .val (.int (Int32.ofNat len)), .unset, .unset, .unset] [.int (Int32.ofNat len)])) := c1.trans (by
    refine XS.iloadN X0.here hexec rfl (hb hbytes d0) rfl ?_
    exact Steps.refl _)
  obtain ⟨T3, B3, X3, ba3, bs3, bv3, bh3, bf3, st3⟩ := X0.anew hexec (atype := .byte) (wk W (.arrayClass .byte)) rfl (by show len * 1 ≤ _; omega) (by omega) (g := (mkF m 1 #[.val (.ref b), .val (.int (Int32.ofNat o)), .val (.int (Int32.ofNat len)), .unset, .unset, .unset] [.int (Int32.ofNat len)])) rfl (hb hbytes d1) (rest := []) rfl (Nat.le_refl _) (by show 0 + len ≤ len; omega)
  rw [hh0] at ba3 st3
  have kp3 : XT.Kept s T3 := (XT.Kept.of_eq hh0).push bh3
  have hA3 := hA.keep X3.warmed.alike (kp3 _ _ hA.1.1)
  have hne : b ≠ s.heap.size := hA.1.ne
  have c4 : Steps p.tables e below (s₁.setTop (entryFrame m #[.ref b, .int (Int32.ofNat o), .int (Int32.ofNat len)] 6)) (T3.setTop (mkF m 3 #[.val (.ref b), .val (.int (Int32.ofNat o)), .val (.int (Int32.ofNat len)), .unset, .unset, .unset] [.ref s.heap.size])) := c2.trans (st3 _ (Steps.refl _))
  have c5 : Steps p.tables e below (s₁.setTop (entryFrame m #[.ref b, .int (Int32.ofNat o), .int (Int32.ofNat len)] 6)) (T3.setTop (mkF m 9 #[.val (.ref b), .val (.int (Int32.ofNat o)), .val (.int (Int32.ofNat len)), .val (.ref s.heap.size), .unset, .unset] [.int (Int32.ofNat len), .int 0, .ref s.heap.size, .int (Int32.ofNat o), .ref b])) := c4.trans (by
    refine XS.astoreN X3.here hexec rfl (hb hbytes d3) rfl rfl rfl ?_
    refine XS.aloadN X3.here hexec rfl (hb hbytes d4) rfl rfl ?_
    refine XS.iloadN X3.here hexec rfl (hb hbytes d5) rfl ?_
    refine XS.aloadN X3.here hexec rfl (hb hbytes d6) rfl rfl ?_
    refine iconstV X3.here hexec rfl 0 (hb hbytes d7) (by decide) ?_
    refine XS.iloadN X3.here hexec rfl (hb hbytes d8) rfl ?_
    exact Steps.refl _)
  obtain ⟨v6, T6, X6, E6, g6⟩ := X3.callS hexec (Cmp5.law l b A s.heap.size B3 o 0 len) hown (wks W (staticW U16 115 Cmp5.yN)) (wk W Cmp5.tab) (W := 0) (Nat.le_of_ble_eq_true rfl) (Nat.le_of_ble_eq_true rfl) (Nat.le_refl _) (by show 0 + len + 0 ≤ len; omega) (g := (mkF m 9 #[.val (.ref b), .val (.int (Int32.ofNat o)), .val (.int (Int32.ofNat len)), .val (.ref s.heap.size), .unset, .unset] [.int (Int32.ofNat len), .int (Int32.ofNat 0), .ref s.heap.size, .int (Int32.ofNat o), .ref b])) rfl (by rw [hml]; rfl) c5 (argsL := [.ref b, .int (Int32.ofNat o), .ref s.heap.size, .int (Int32.ofNat 0), .int (Int32.ofNat len)]) (rest := []) rfl rfl (by show 2 * 0 + 0 ≤ _; decide) (hb hbytes d9) (⟨rfl, hA3, ba3, hne, l1, by rw [bs3]; simp, hp⟩)
  obtain ⟨rfl, B6, p6, f6⟩ := E6
  have c7 : Steps p.tables e below (s₁.setTop (entryFrame m #[.ref b, .int (Int32.ofNat o), .int (Int32.ofNat len)] 6)) (T6.setTop (mkF m 12 #[.val (.ref b), .val (.int (Int32.ofNat o)), .val (.int (Int32.ofNat len)), .val (.ref s.heap.size), .unset, .unset] [.int (Int32.ofNat len)])) := g6
  have c8 : Steps p.tables e below (s₁.setTop (entryFrame m #[.ref b, .int (Int32.ofNat o), .int (Int32.ofNat len)] 6)) (T6.setTop (mkF m 58 #[.val (.ref b), .val (.int (Int32.ofNat o)), .val (.int (Int32.ofNat len)), .val (.ref s.heap.size), .val (.int (Int32.ofNat len)), .unset] [.ref s.heap.size])) := c7.trans (by
    refine XS.istore X6.here hexec rfl (hb hbytes d12) rfl rfl ?_
    refine XS.iload X6.here hexec rfl (hb hbytes d14) rfl ?_
    refine XS.iloadN X6.here hexec rfl (hb hbytes d16) rfl ?_
    refine XS.icmpYes X6.here hexec rfl (pc0 := 17) rfl (hb hbytes d17) rfl (ii_eq_t rfl) (by decide) rfl ?_
    refine XS.aloadN X6.here hexec rfl (hb hbytes d57) rfl rfl ?_
    exact Steps.refl _)
  have X8 := X6.wide (L' := []) (cells' := 1) (slots' := len) (fun x hx hlt => by
    simp only [List.nil_append, copyLocs, List.mem_map, List.mem_range] at hx
    obtain ⟨i, -, rfl⟩ := hx
    exact absurd hlt (Nat.lt_irrefl _)) (Nat.le_refl _) (by omega)
  exact ⟨T6, some (.ref s.heap.size), _, _, _, X8, rfl, rfl, rfl, (fun h => by cases h), ⟨⟨rfl, B6, ba3.like (X3.warmed.alike.symm.trans X6.warmed.alike) p6.1 f6.1 f6.2.1 f6.2.2.1, f6.2.1.trans bv3, by rw [X6.warmed.alike.findClass, f6.1]; exact bf3, by rw [f6.2.2.1, bs3]; simp, fun j hj => by rw [f6.2.2.2 j, if_pos (by omega)]; rfl, kp3.put p6 (Nat.le_refl _)⟩, by rw [p6.2.2, bh3, hh0]; simp⟩, fun fs hl => c8.trans (X8.areturnOut hexec rfl hret rfl (hb hbytes d58) hl)⟩
end Cmp3
namespace CodL
def yN : MethodName := ⟨"java/lang/StringUTF16", "coderFromArrayLen", "([BI)B"⟩
abbrev yB : ByteArray := jdk_52_method_15_code
theorem d0 : decode yB 0 = .ok (.iload_n 1, 1) := by decide +kernel
theorem d1 : decode yB 1 = .ok (.aload_n 0, 1) := by decide +kernel
theorem d2 : decode yB 2 = .ok (.arraylength, 1) := by decide +kernel
theorem d3 : decode yB 3 = .ok (.isub, 1) := by decide +kernel
theorem d4 : decode yB 4 = .ok (.bipush 31, 2) := by decide +kernel
theorem d6 : decode yB 6 = .ok (.iushr, 1) := by decide +kernel
theorem d7 : decode yB 7 = .ok (.i2b, 1) := by decide +kernel
theorem d8 : decode yB 8 = .ok (.ireturn, 1) := by decide +kernel
def site : List Cond := []
def tab : Cond := tabOf yN yB 2 (some .byte) site
def P (d : Addr) (B : Cell) (args : Array Value) (s : State) : Prop := args = #[.ref d, .int (Int32.ofNat B.slots.size)] ∧ Arr .byte d B s
def E (r : Option Value) (s u : State) : Prop := XT.PureE (some (.int 0)) r s u
/-- an array as long as the number of chars: LATIN1 -/
theorem law (l : Launch) (d : Addr) (B : Cell) : Law l yN 2 2 0 0 yB 2 (some .byte) site (P d B) E [] 0 0 := by
  refine Law.of_walk (plainFor_of_name (by decide +kernel)) (by decide +kernel) (by decide +kernel) (by decide) (fun _ _ h => by rw [h.1]; rfl) (fun _ U U' hal hh h => ⟨h.1, h.2.mv hal hh⟩) (fun r U U' V V' h1 hal h2 h => XT.PureE.mv r U U' V V' h1 hal h2 h) ?_
  intro p e s m args below meth c s₁ X0 hexec hbytes hml hret hlk hnm hown hh0 W hP
  obtain ⟨rfl, hB⟩ := hP
  have hB0 := hB.mv X0.warmed.alike hh0
  have c1 : Steps p.tables e below (s₁.setTop (entryFrame m #[.ref d, .int (Int32.ofNat B.slots.size)] 2)) (s₁.setTop (mkF m 0 #[.val (.ref d), .val (.int (Int32.ofNat B.slots.size))] [])) := entry rfl
  have c2 : Steps p.tables e below (s₁.setTop (entryFrame m #[.ref d, .int (Int32.ofNat B.slots.size)] 2)) (s₁.setTop (mkF m 2 #[.val (.ref d), .val (.int (Int32.ofNat B.slots.size))] [.ref d, .int (Int32.ofNat B.slots.size)])) := c1.trans (by
    refine XS.iloadN X0.here hexec rfl (hb hbytes d0) rfl ?_
    refine XS.aloadN X0.here hexec rfl (hb hbytes d1) rfl rfl ?_
    exact Steps.refl _)
  have c3 : Steps p.tables e below (s₁.setTop (entryFrame m #[.ref d, .int (Int32.ofNat B.slots.size)] 2)) (s₁.setTop (mkF m 8 #[.val (.ref d), .val (.int (Int32.ofNat B.slots.size))] [.int (lo8 (ushr (Int32.ofNat B.slots.size - Int32.ofNat B.slots.size) 31))])) := c2.trans (by
    refine X0.alen hexec hB0 rfl rfl (hb hbytes d2) ?_
    refine XS.isub X0.here hexec rfl (hb hbytes d3) rfl ?_
    refine bipushV X0.here hexec rfl 31 (hb hbytes d4) (by decide) ?_
    refine iushr X0.here hexec rfl (hb hbytes d6) rfl ?_
    refine i2b X0.here hexec rfl (hb hbytes d7) rfl ?_
    exact Steps.refl _)
  have e0 : lo8 (ushr (Int32.ofNat B.slots.size - Int32.ofNat B.slots.size) 31) = 0 := by rw [Int32.sub_self]; decide
  rw [e0] at c3
  exact ⟨s₁, some (.int 0), _, _, _, X0, rfl, rfl, rfl, (fun h => by cases h), ⟨rfl, hh0⟩, fun fs hl => c3.trans (X0.ireturnOut hexec hret rfl (Or.inr (Or.inr (Or.inl rfl))) (hb hbytes d8) hl)⟩
end CodL
/-- the String at a is Latin-1 over a new byte[] (the heap's one new cell): the low bytes of the len chars of A from o on; every cell but a is kept -/
def Got (a : Addr) (D : Cell) (fV fC : Field) (A : Cell) (o len : Nat) (r : Option Value) (s u : State) : Prop := r = none ∧ ∃ D' V : Cell, Blank "java/lang/String" a D' u ∧ Same D D' [fV.slot, fC.slot] ∧ D'.slots[fV.slot]? = some (.ref s.heap.size) ∧ D'.slots[fC.slot]? = some (.int 0) ∧ Arr .byte s.heap.size V u ∧ V.vm = .none ∧ u.vm.findClass "[B" = some V.cls ∧ V.slots.size = len ∧ (∀ j, j < len → V.slots[j]? = some (.int (lo8 (cv A (o + j))))) ∧ (∀ (y : Addr) (c : Cell), y ≠ a → s.heap[y]? = some c → u.heap[y]? = some c) ∧ u.heap.size = s.heap.size + 1
theorem Got.mv {a : Addr} {D A : Cell} {fV fC : Field} {o len : Nat} : ∀ r (U U' V V' : State), U'.heap = U.heap → V.vm.Alike V'.vm → V'.heap = V.heap → Got a D fV fC A o len r U V → Got a D fV fC A o len r U' V' :=
  fun r U U' V V' h1 hal h2 ⟨e0, D', X, a1, a2, a3, a4, a5, a6, a7, a8, a9, a10, a11⟩ => ⟨e0, D', X, a1.mv hal h2, a2, by rw [h1]; exact a3, a4, by rw [h1]; exact a5.mv hal h2, a6, by rw [hal.findClass]; exact a7, a8, a9, by rw [h1, h2]; exact a10, by rw [h1, h2]; exact a11⟩
namespace New4
def yN : MethodName := ⟨"java/lang/String", "<init>", "([CIILjava/lang/Void;)V"⟩
abbrev yB : ByteArray := jdk_42_method_149_code
theorem d0 : decode yB 0 = .ok (.aload_n 0, 1) := by decide +kernel
theorem d1 : decode yB 1 = .ok (.invokespecial 1, 3) := by decide +kernel
theorem d4 : decode yB 4 = .ok (.iload_n 3, 1) := by decide +kernel
theorem d5 : decode yB 5 = .ok (.ifCond (.ne) 22, 3) := by decide +kernel
theorem d27 : decode yB 27 = .ok (.getstatic 38, 3) := by decide +kernel
theorem d30 : decode yB 30 = .ok (.ifCond (.eq) 28, 3) := by decide +kernel
theorem d33 : decode yB 33 = .ok (.aload_n 1, 1) := by decide +kernel
theorem d34 : decode yB 34 = .ok (.iload_n 2, 1) := by decide +kernel
theorem d35 : decode yB 35 = .ok (.iload_n 3, 1) := by decide +kernel
theorem d36 : decode yB 36 = .ok (.invokestatic 177, 3) := by decide +kernel
theorem d39 : decode yB 39 = .ok (.astore 5, 2) := by decide +kernel
theorem d41 : decode yB 41 = .ok (.aload_n 0, 1) := by decide +kernel
theorem d42 : decode yB 42 = .ok (.aload 5, 2) := by decide +kernel
theorem d44 : decode yB 44 = .ok (.iload_n 3, 1) := by decide +kernel
theorem d45 : decode yB 45 = .ok (.invokestatic 47, 3) := by decide +kernel
theorem d48 : decode yB 48 = .ok (.putfield 15, 3) := by decide +kernel
theorem d51 : decode yB 51 = .ok (.aload_n 0, 1) := by decide +kernel
theorem d52 : decode yB 52 = .ok (.aload 5, 2) := by decide +kernel
theorem d54 : decode yB 54 = .ok (.putfield 9, 3) := by decide +kernel
theorem d57 : decode yB 57 = .ok (.return_, 1) := by decide +kernel
def site : List Cond := [.fieldLink "java/lang/String" 38 "java/lang/String" "COMPACT_STRINGS" "Z", Cmp3.tab, CodL.tab, .laysFinal "java/lang/String" "java/lang/String" "value" "[B", .fieldLink "java/lang/String" 9 "java/lang/String" "value" "[B", .laysFinal "java/lang/String" "java/lang/String" "coder" "B", .fieldLink "java/lang/String" 15 "java/lang/String" "coder" "B"] ++ objW "java/lang/String" 1 ++ staticW "java/lang/String" 177 Cmp3.yN ++ staticW "java/lang/String" 47 CodL.yN
def tab : Cond := tabOf yN yB 6 none site
def P (a : Addr) (D : Cell) (fV fC : Field) (b : Addr) (A : Cell) (z : Int32) (o len : Nat) (args : Array Value) (s : State) : Prop := args = #[.ref a, .ref b, .int (Int32.ofNat o), .int (Int32.ofNat len), .null] ∧ Blank "java/lang/String" a D s ∧ Found "java/lang/String" "value" "[B" fV s ∧ Found "java/lang/String" "coder" "B" fC s ∧ Ch b A s ∧ StaticIs s "java/lang/String" "COMPACT_STRINGS" "Z" (.int z) ∧ ¬ z = 0 ∧ 0 < len ∧ o + len ≤ A.slots.size ∧ len ≤ 536870912 ∧ ∀ i, i < len → ¬ 255 < cv A (o + i)
def E (a : Addr) (D : Cell) (fV fC : Field) (A : Cell) (o len : Nat) (r : Option Value) (s u : State) : Prop := Got a D fV fC A o len r s u
/-- len > 0, no char of the range above 255: a Latin-1 String of their low bytes -/
theorem law (l : Launch) (a : Addr) (D : Cell) (fV fC : Field) (b : Addr) (A : Cell) (z : Int32) (o len : Nat) : Law l yN 5 4 2 35 yB 6 none site (P a D fV fC b A z o len) (E a D fV fC A o len) [⟨a, fC.slot⟩, ⟨a, fV.slot⟩] 1 len := by
  refine Law.of_walk (plainFor_of_name (by decide +kernel)) (by decide +kernel) (by decide +kernel) (by decide) (fun _ _ h => by rw [h.1]; rfl) (fun _ U U' hal hh h => ⟨h.1, h.2.1.mv hal hh, h.2.2.1.al hal, h.2.2.2.1.al hal, h.2.2.2.2.1.mv hal hh, h.2.2.2.2.2.1.there hal hh, h.2.2.2.2.2.2⟩) (fun r U U' V V' h1 hal h2 h => Got.mv r U U' V V' h1 hal h2 h) ?_
  intro p e s m args below meth c s₁ X0 hexec hbytes hml hret hlk hnm hown hh0 W hP
  obtain ⟨rfl, hB, f1, f2, hA, s1, hz, l0, l1, l2, hp⟩ := hP
  have a31 := hA.1.2.2.2
  have c1 : Steps p.tables e below (s₁.setTop (entryFrame m #[.ref a, .ref b, .int (Int32.ofNat o), .int (Int32.ofNat len), .null] 6)) (s₁.setTop (mkF m 0 #[.val (.ref a), .val (.ref b), .val (.int (Int32.ofNat o)), .val (.int (Int32.ofNat len)), .val .null, .unset] [])) := entry rfl
  have c2 : Steps p.tables e below (s₁.setTop (entryFrame m #[.ref a, .ref b, .int (Int32.ofNat o), .int (Int32.ofNat len), .null] 6)) (s₁.setTop (mkF m 1 #[.val (.ref a), .val (.ref b), .val (.int (Int32.ofNat o)), .val (.int (Int32.ofNat len)), .val .null, .unset] [.ref a])) := c1.trans (by
    refine XS.aloadN X0.here hexec rfl (hb hbytes d0) rfl rfl ?_
    exact Steps.refl _)
  obtain ⟨T3, X3, q3, st3⟩ := X0.oinit hexec hown (wks W (objW "java/lang/String" 1)) (g := (mkF m 1 #[.val (.ref a), .val (.ref b), .val (.int (Int32.ofNat o)), .val (.int (Int32.ofNat len)), .val .null, .unset] [.ref a])) rfl (by rw [hml]; rfl) (rest := []) rfl (hb hbytes d1) (W := 0) (by show 2 * 0 + 0 ≤ _; decide) (Nat.le_of_ble_eq_true rfl) (Nat.le_of_ble_eq_true rfl)
  have hh3 := q3.trans hh0
  have c4 : Steps p.tables e below (s₁.setTop (entryFrame m #[.ref a, .ref b, .int (Int32.ofNat o), .int (Int32.ofNat len), .null] 6)) (T3.setTop (mkF m 27 #[.val (.ref a), .val (.ref b), .val (.int (Int32.ofNat o)), .val (.int (Int32.ofNat len)), .val .null, .unset] [])) := (c2.trans (st3 _ (Steps.refl _))).trans (by
    refine XS.iloadN X3.here hexec rfl (hb hbytes d4) rfl ?_
    refine XS.ifYes X3.here hexec rfl (pc0 := 5) rfl (hb hbytes d5) rfl (i0_ne_t (nz32 (by omega) l0)) (by decide) rfl ?_
    exact Steps.refl _)
  obtain ⟨T5, X5, q5, st5⟩ := X3.sget hexec hown (wk W (.fieldLink "java/lang/String" 38 "java/lang/String" "COMPACT_STRINGS" "Z")) s1 (fun _ _ h => by rw [hh3]; exact h) (g := (mkF m 27 #[.val (.ref a), .val (.ref b), .val (.int (Int32.ofNat o)), .val (.int (Int32.ofNat len)), .val .null, .unset] [])) rfl (hb hbytes d27)
  have hh5 := q5.trans hh3
  have c6 : Steps p.tables e below (s₁.setTop (entryFrame m #[.ref a, .ref b, .int (Int32.ofNat o), .int (Int32.ofNat len), .null] 6)) (T5.setTop (mkF m 30 #[.val (.ref a), .val (.ref b), .val (.int (Int32.ofNat o)), .val (.int (Int32.ofNat len)), .val .null, .unset] [.int z])) := c4.trans (st5 _ (Steps.refl _))
  have c7 : Steps p.tables e below (s₁.setTop (entryFrame m #[.ref a, .ref b, .int (Int32.ofNat o), .int (Int32.ofNat len), .null] 6)) (T5.setTop (mkF m 36 #[.val (.ref a), .val (.ref b), .val (.int (Int32.ofNat o)), .val (.int (Int32.ofNat len)), .val .null, .unset] [.int (Int32.ofNat len), .int (Int32.ofNat o), .ref b])) := c6.trans (by
    refine XS.ifNo X5.here hexec rfl (hb hbytes d30) rfl (i0_eq_f hz) ?_
    refine XS.aloadN X5.here hexec rfl (hb hbytes d33) rfl rfl ?_
    refine XS.iloadN X5.here hexec rfl (hb hbytes d34) rfl ?_
    refine XS.iloadN X5.here hexec rfl (hb hbytes d35) rfl ?_
    exact Steps.refl _)
  obtain ⟨v8, T8, X8, E8, g8⟩ := X5.callS hexec (Cmp3.law l b A o len) hown (wks W (staticW "java/lang/String" 177 Cmp3.yN)) (wk W Cmp3.tab) (W := 0) (Nat.le_of_ble_eq_true rfl) (Nat.le_of_ble_eq_true rfl) (Nat.le_refl _) (by show 0 + len ≤ len; omega) (g := (mkF m 36 #[.val (.ref a), .val (.ref b), .val (.int (Int32.ofNat o)), .val (.int (Int32.ofNat len)), .val .null, .unset] [.int (Int32.ofNat len), .int (Int32.ofNat o), .ref b])) rfl (by rw [hml]; rfl) c7 (argsL := [.ref b, .int (Int32.ofNat o), .int (Int32.ofNat len)]) (rest := []) rfl rfl (by show 2 * 0 + 0 ≤ _; decide) (hb hbytes d36) (⟨rfl, hA.mv X5.warmed.alike hh5, l1, l2, hp⟩)
  obtain ⟨e8, z8⟩ := E8
  obtain ⟨rfl, N, n1, n2, n3, n4, n5, n6⟩ := NewArr.mv _ T5 s _ _ hh5.symm (Vm.Alike.refl _) rfl e8
  rw [hh5] at z8
  have hB1 := hB.keep X8.warmed.alike (n6 _ _ hB.1)
  have hne : s.heap.size ≠ a := (Nat.ne_of_lt (Array.getElem?_eq_some_iff.mp hB.1).1).symm
  have c9 : Steps p.tables e below (s₁.setTop (entryFrame m #[.ref a, .ref b, .int (Int32.ofNat o), .int (Int32.ofNat len), .null] 6)) (T8.setTop (mkF m 39 #[.val (.ref a), .val (.ref b), .val (.int (Int32.ofNat o)), .val (.int (Int32.ofNat len)), .val .null, .unset] [.ref s.heap.size])) := g8
  have c10 : Steps p.tables e below (s₁.setTop (entryFrame m #[.ref a, .ref b, .int (Int32.ofNat o), .int (Int32.ofNat len), .null] 6)) (T8.setTop (mkF m 45 #[.val (.ref a), .val (.ref b), .val (.int (Int32.ofNat o)), .val (.int (Int32.ofNat len)), .val .null, .val (.ref s.heap.size)] [.int (Int32.ofNat N.slots.size), .ref s.heap.size, .ref a])) := by
    have hc : Steps p.tables e below (s₁.setTop (entryFrame m #[.ref a, .ref b, .int (Int32.ofNat o), .int (Int32.ofNat len), .null] 6)) (T8.setTop (mkF m 45 #[.val (.ref a), .val (.ref b), .val (.int (Int32.ofNat o)), .val (.int (Int32.ofNat len)), .val .null, .val (.ref s.heap.size)] [.int (Int32.ofNat len), .ref s.heap.size, .ref a])) := c9.trans (by
      refine XS.astore X8.here hexec rfl (hb hbytes d39) rfl rfl rfl ?_
      refine XS.aloadN X8.here hexec rfl (hb hbytes d41) rfl rfl ?_
      refine XS.aload X8.here hexec rfl (hb hbytes d42) rfl rfl ?_
      refine XS.iloadN X8.here hexec rfl (hb hbytes d44) rfl ?_
      exact Steps.refl _)
    rw [n4]; exact hc
  obtain ⟨v11, T11, X11, E11, g11⟩ := X8.callS hexec (CodL.law l s.heap.size N) hown (wks W (staticW "java/lang/String" 47 CodL.yN)) (wk W CodL.tab) (W := 1) (Nat.le_of_ble_eq_true rfl) (Nat.le_of_ble_eq_true rfl) (Nat.le_refl _) (by show 0 + len + 0 ≤ len; omega) (g := (mkF m 45 #[.val (.ref a), .val (.ref b), .val (.int (Int32.ofNat o)), .val (.int (Int32.ofNat len)), .val .null, .val (.ref s.heap.size)] [.int (Int32.ofNat N.slots.size), .ref s.heap.size, .ref a])) rfl (by rw [hml]; rfl) c10 (argsL := [.ref s.heap.size, .int (Int32.ofNat N.slots.size)]) (rest := [.ref a]) rfl rfl (by show 2 * 0 + (1 + 0) ≤ _; decide) (hb hbytes d45) (⟨rfl, n1⟩)
  obtain ⟨rfl, q11⟩ := E11
  have hB11 := hB1.mv (X8.warmed.alike.symm.trans X11.warmed.alike) q11
  have c12 : Steps p.tables e below (s₁.setTop (entryFrame m #[.ref a, .ref b, .int (Int32.ofNat o), .int (Int32.ofNat len), .null] 6)) (T11.setTop (mkF m 48 #[.val (.ref a), .val (.ref b), .val (.int (Int32.ofNat o)), .val (.int (Int32.ofNat len)), .val .null, .val (.ref s.heap.size)] [.int 0, .ref a])) := g11
  obtain ⟨T13, X13, p13, bl13, sl13, st13⟩ := X11.finit hexec hown (wk W (.fieldLink "java/lang/String" 15 "java/lang/String" "coder" "B")) (Or.inr ⟨_, (wk W (.laysFinal "java/lang/String" "java/lang/String" "coder" "B"))⟩) (Or.inl ⟨rfl, hnm⟩) f2 (Or.inl rfl) hB11 (t := .byte) (by decide +kernel) rfl (g := (mkF m 48 #[.val (.ref a), .val (.ref b), .val (.int (Int32.ofNat o)), .val (.int (Int32.ofNat len)), .val .null, .val (.ref s.heap.size)] [.int 0, .ref a])) rfl (rest := []) rfl (hb hbytes d48)
  have c14 : Steps p.tables e below (s₁.setTop (entryFrame m #[.ref a, .ref b, .int (Int32.ofNat o), .int (Int32.ofNat len), .null] 6)) (T13.setTop (mkF m 54 #[.val (.ref a), .val (.ref b), .val (.int (Int32.ofNat o)), .val (.int (Int32.ofNat len)), .val .null, .val (.ref s.heap.size)] [.ref s.heap.size, .ref a])) := (c12.trans (st13 _ (Steps.refl _))).trans (by
    refine XS.aloadN X13.here hexec rfl (hb hbytes d51) rfl rfl ?_
    refine XS.aload X13.here hexec rfl (hb hbytes d52) rfl rfl ?_
    exact Steps.refl _)
  obtain ⟨T15, X15, p15, bl15, sl15, st15⟩ := X13.finit hexec hown (wk W (.fieldLink "java/lang/String" 9 "java/lang/String" "value" "[B")) (Or.inr ⟨_, (wk W (.laysFinal "java/lang/String" "java/lang/String" "value" "[B"))⟩) (Or.inl ⟨rfl, hnm⟩) f1 (Or.inl rfl) bl13 (t := (.array .byte)) (by decide +kernel) rfl (g := (mkF m 54 #[.val (.ref a), .val (.ref b), .val (.int (Int32.ofNat o)), .val (.int (Int32.ofNat len)), .val .null, .val (.ref s.heap.size)] [.ref s.heap.size, .ref a])) rfl (rest := []) rfl (hb hbytes d54)
  have c16 : Steps p.tables e below (s₁.setTop (entryFrame m #[.ref a, .ref b, .int (Int32.ofNat o), .int (Int32.ofNat len), .null] 6)) (T15.setTop (mkF m 57 #[.val (.ref a), .val (.ref b), .val (.int (Int32.ofNat o)), .val (.int (Int32.ofNat len)), .val .null, .val (.ref s.heap.size)] [])) := c14.trans (st15 _ (Steps.refl _))
  have ap := apart (Or.inr ⟨_, (wk W (.laysFinal "java/lang/String" "java/lang/String" "value" "[B"))⟩) (Or.inr ⟨_, (wk W (.laysFinal "java/lang/String" "java/lang/String" "coder" "B"))⟩) f1 f2 (t₁ := .array .byte) (t₂ := .byte) (by decide +kernel) (by decide +kernel) (by decide)
  have al := X8.warmed.alike.symm.trans X15.warmed.alike
  have n7 : T11.heap[s.heap.size]? = some N := by rw [q11]; exact n1.1
  exact ⟨T15, none, _, _, _, X15, by simp, rfl, by omega, (fun _ => rfl), ⟨rfl, _, N, bl15, ((Same.refl D _).set _ (by simp)).set _ (by simp), sl15, (Cell.slots_setSlot_ne _ ap).trans sl13, n1.keep al (p15.other hne (p13.other hne n7)), n2, by rw [al.findClass]; exact n3, n4, n5, fun y c h1 h2 => p15.other h1 (p13.other h1 (by rw [q11]; exact n6 y c h2)), by rw [p15.2.2, p13.2.2, q11]; exact z8⟩, fun fs hl => c16.trans (X15.returnOut hexec hret (hb hbytes d57) hl)⟩
end New4
namespace New1
def yN : MethodName := ⟨"java/lang/String", "<init>", "([C)V"⟩
abbrev yB : ByteArray := jdk_42_method_3_code
theorem d0 : decode yB 0 = .ok (.aload_n 0, 1) := by decide +kernel
theorem d1 : decode yB 1 = .ok (.aload_n 1, 1) := by decide +kernel
theorem d2 : decode yB 2 = .ok (.iconst 0, 1) := by decide +kernel
theorem d3 : decode yB 3 = .ok (.aload_n 1, 1) := by decide +kernel
theorem d4 : decode yB 4 = .ok (.arraylength, 1) := by decide +kernel
theorem d5 : decode yB 5 = .ok (.aconst_null, 1) := by decide +kernel
theorem d6 : decode yB 6 = .ok (.invokespecial 27, 3) := by decide +kernel
theorem d9 : decode yB 9 = .ok (.return_, 1) := by decide +kernel
def site : List Cond := [New4.tab] ++ initW "java/lang/String" 27 New4.yN
def tab : Cond := tabOf yN yB 2 none site
def P (a : Addr) (D : Cell) (fV fC : Field) (b : Addr) (A : Cell) (z : Int32) (args : Array Value) (s : State) : Prop := args = #[.ref a, .ref b] ∧ Blank "java/lang/String" a D s ∧ Found "java/lang/String" "value" "[B" fV s ∧ Found "java/lang/String" "coder" "B" fC s ∧ Ch b A s ∧ StaticIs s "java/lang/String" "COMPACT_STRINGS" "Z" (.int z) ∧ ¬ z = 0 ∧ 0 < A.slots.size ∧ A.slots.size ≤ 536870912 ∧ ∀ i, i < A.slots.size → ¬ 255 < cv A i
def E (a : Addr) (D : Cell) (fV fC : Field) (A : Cell) (r : Option Value) (s u : State) : Prop := Got a D fV fC A 0 A.slots.size r s u
/-- new String(chars), not empty, no char above 255: a Latin-1 String of their low bytes -/
theorem law (l : Launch) (a : Addr) (D : Cell) (fV fC : Field) (b : Addr) (A : Cell) (z : Int32) : Law l yN 2 1 3 52 yB 2 none site (P a D fV fC b A z) (E a D fV fC A) [⟨a, fC.slot⟩, ⟨a, fV.slot⟩] 1 A.slots.size := by
  refine Law.of_walk (plainFor_of_name (by decide +kernel)) (by decide +kernel) (by decide +kernel) (by decide) (fun _ _ h => by rw [h.1]; rfl) (fun _ U U' hal hh h => ⟨h.1, h.2.1.mv hal hh, h.2.2.1.al hal, h.2.2.2.1.al hal, h.2.2.2.2.1.mv hal hh, h.2.2.2.2.2.1.there hal hh, h.2.2.2.2.2.2⟩) (fun r U U' V V' h1 hal h2 h => Got.mv r U U' V V' h1 hal h2 h) ?_
  intro p e s m args below meth c s₁ X0 hexec hbytes hml hret hlk hnm hown hh0 W hP
  obtain ⟨rfl, hB, f1, f2, hA, s1, hz, l0, l2, hp⟩ := hP
  have c1 : Steps p.tables e below (s₁.setTop (entryFrame m #[.ref a, .ref b] 2)) (s₁.setTop (mkF m 0 #[.val (.ref a), .val (.ref b)] [])) := entry rfl
  have c2 : Steps p.tables e below (s₁.setTop (entryFrame m #[.ref a, .ref b] 2)) (s₁.setTop (mkF m 6 #[.val (.ref a), .val (.ref b)] [.null, .int (Int32.ofNat A.slots.size), .int 0, .ref b, .ref a])) := c1.trans (by
    refine XS.aloadN X0.here hexec rfl (hb hbytes d0) rfl rfl ?_
    refine XS.aloadN X0.here hexec rfl (hb hbytes d1) rfl rfl ?_
    refine iconstV X0.here hexec rfl 0 (hb hbytes d2) (by decide) ?_
    refine XS.aloadN X0.here hexec rfl (hb hbytes d3) rfl rfl ?_
    refine X0.alen hexec (hA.1.mv X0.warmed.alike hh0) rfl rfl (hb hbytes d4) ?_
    refine XS.aconstNull X0.here hexec rfl (hb hbytes d5) ?_
    exact Steps.refl _)
  obtain ⟨v3, T3, X3, E3, g3⟩ := X0.callN hexec (New4.law l a D fV fC b A z 0 A.slots.size) rfl hown (wks W (initW "java/lang/String" 27 New4.yN)) (W New4.tab (by simp only [site, List.mem_cons, List.mem_append, true_or, or_true])) (W := 0) (Nat.le_of_ble_eq_true rfl) (Nat.le_of_ble_eq_true rfl) (Nat.le_refl _) (by show 0 + A.slots.size ≤ A.slots.size; omega) (g := (mkF m 6 #[.val (.ref a), .val (.ref b)] [.null, .int (Int32.ofNat A.slots.size), .int (Int32.ofNat 0), .ref b, .ref a])) rfl (by rw [hml]; rfl) c2 (argsL := [.ref b, .int (Int32.ofNat 0), .int (Int32.ofNat A.slots.size), .null]) (rest := []) rfl rfl (by show 2 * 0 + 0 ≤ _; decide) (hb hbytes d6) (⟨rfl, hB.mv X0.warmed.alike hh0, f1.al X0.warmed.alike, f2.al X0.warmed.alike, hA.mv X0.warmed.alike hh0, s1.there X0.warmed.alike hh0, hz, l0, by omega, l2, fun i hi => by rw [Nat.zero_add]; exact hp i hi⟩)
  have e0 := Got.mv _ s₁ s _ _ hh0.symm (Vm.Alike.refl _) rfl E3
  obtain rfl := e0.1
  have c4 : Steps p.tables e below (s₁.setTop (entryFrame m #[.ref a, .ref b] 2)) (T3.setTop (mkF m 9 #[.val (.ref a), .val (.ref b)] [])) := g3
  exact ⟨T3, none, _, _, _, X3, by simp, rfl, by omega, (fun _ => rfl), e0, fun fs hl => c4.trans (X3.returnOut hexec hret (hb hbytes d9) hl)⟩
theorem pays {l : Launch} {R : Room} {p : Program} {e : Env} {below : List Frame} {s : State} {sargs : Array Value} {len W : Nat} (a : Addr) (D : Cell) (fV fC : Field) (b : Addr) (A : Cell) (z : Int32) (htab : tab.before sargs s = true) (hfr : 4 ≤ R.frames) (hlo : W + 65 ≤ R.locals) :
    Back l R p e below s sargs yN len W (fun A₁ a₁ => A₁.cells + 1 ≤ R.cells ∧ A₁.slots + A.slots.size ≤ R.slots ∧ P a D fV fC b A z a₁ A₁.U) (fun A₁ _ v₁ B₁ => E a D fV fC A v₁ A₁.U B₁.U ∧ B₁.locs = A₁.locs ++ [⟨a, fC.slot⟩, ⟨a, fV.slot⟩] ∧ B₁.cells = A₁.cells + 1 ∧ B₁.slots = A₁.slots + A.slots.size) :=
  (law l a D fV fC b A z).pays htab hfr (by omega)
end New1
/-- the byte, read back as charAt reads it, is the char -/
theorem lo8_mask {x : Int32} (h0 : ¬ x < 0) (h1 : ¬ 255 < x) : lo8 x &&& 255 = x := by
  have t : ∀ k : Fin 256, lo8 (Int32.ofNat k.val) &&& 255 = Int32.ofNat k.val := by decide +kernel
  rw [Int32.lt_iff_toInt_lt] at h0 h1
  have e0 : (0 : Int32).toInt = 0 := rfl
  have e1 : (255 : Int32).toInt = 255 := rfl
  obtain ⟨k, hk⟩ : ∃ k : Nat, x.toInt = k := ⟨x.toInt.toNat, by omega⟩
  have hx : x = Int32.ofNat k := Int32.toInt_inj.mp (by rw [hk, Int32.toInt_ofNat_small (by omega)])
  rw [hx]
  exact t ⟨k, by omega⟩
end StrChars
namespace StrChars.Road
open Jvm Sem ClassFile Op Lib Jvm.Stand Jvm.Free Jvm.Free.XT
open Jvm.Lib.Cold (StaticIs)
abbrev ST : String := "java/lang/String"
/-- every table word that New1's law asks, flat -/
abbrev words : List Jvm.Cond := [.code New1.yN New1.yB 2 none, .initialized ST, .methodLink ST 27 New4.yN, .instanceMethod New4.yN,
  .code New4.yN New4.yB 6 none, .fieldLink ST 38 ST "COMPACT_STRINGS" "Z", .laysFinal ST ST "value" "[B", .fieldLink ST 9 ST "value" "[B", .laysFinal ST ST "coder" "B", .fieldLink ST 15 ST "coder" "B",
  .methodLink ST 1 Lib.objectInit, .instanceMethod Lib.objectInit, .code Lib.objectInit ⟨#[0xb1]⟩ 1 none, .methodLink ST 177 Cmp3.yN, .static Cmp3.yN, .methodLink ST 47 CodL.yN, .static CodL.yN,
  .code Cmp3.yN Cmp3.yB 6 (some (.array .byte)), .initialized U16, .arrayClass .byte, .methodLink U16 115 Cmp5.yN, .static Cmp5.yN, .code Cmp5.yN Cmp5.yB 7 (some .int), .code CodL.yN CodL.yB 2 (some .byte)]
theorem tab_of {a : Array Value} {s : State} (h : ∀ w ∈ words, w.before a s = true) : New1.tab.before a s = true := by
  have h5 : Cmp5.tab.before a s = true := unparts (wk h (.code Cmp5.yN Cmp5.yB 7 (some .int))) (wks h (.initialized Cmp5.yN.cls :: Cmp5.site))
  have hc : CodL.tab.before a s = true := unparts (wk h (.code CodL.yN CodL.yB 2 (some .byte))) (wks h (.initialized CodL.yN.cls :: CodL.site))
  have q5 : ∀ w ∈ Cmp5.tab :: words, w.before a s = true := fun w hw => (List.mem_cons.mp hw).elim (fun e => e ▸ h5) (h w)
  have h3 : Cmp3.tab.before a s = true := unparts (wk q5 (.code Cmp3.yN Cmp3.yB 6 (some (.array .byte)))) (wks q5 (.initialized Cmp3.yN.cls :: Cmp3.site))
  have q3 : ∀ w ∈ Cmp3.tab :: CodL.tab :: words, w.before a s = true := fun w hw => (List.mem_cons.mp hw).elim (fun e => e ▸ h3) fun hw => (List.mem_cons.mp hw).elim (fun e => e ▸ hc) (h w)
  have h4 : New4.tab.before a s = true := unparts (wk q3 (.code New4.yN New4.yB 6 none)) (wks q3 (.initialized New4.yN.cls :: New4.site))
  have q4 : ∀ w ∈ New4.tab :: words, w.before a s = true := fun w hw => (List.mem_cons.mp hw).elim (fun e => e ▸ h4) (h w)
  exact unparts (wk q4 (.code New1.yN New1.yB 2 none)) (wks q4 (.initialized New1.yN.cls :: New1.site))
/-- the words ride from the start Z to the walk's own state -/
theorem moved {Z s : State} {a0 args : Array Value} (hZ : Z.Warmed39 s.vm) (hw : ∀ d ∈ words, d.before a0 Z = true) : ∀ d ∈ words, d.before args s = true := fun d hd => by
  have q := hw d hd
  have t : ∀ d ∈ words, d = .arrayClass .byte ∨ (d.onTables && d.keepsFace) = true := by decide +kernel
  rcases t d hd with rfl | t
  · exact RoadKit.mvA hZ q
  · exact RoadKit.mv hZ q t
/-- WHAT COMES BACK, over the tables of the start Z: h the heap at the call, h' behind it -/
def Q (Z : State) (x : Addr) (A : Cell) (h : Heap) (v : Option Value) (h' : Heap) (L : List Loc) : Prop := v = none ∧ (∀ y ∈ L, y.base = x) ∧ RoadKit.Keep h h' [x] ∧ h'.size = h.size + 1 ∧ RoadKit.Exa Z h' x ST ∧ RoadKit.Fld Z h' x ST "value" "[B" (.ref h.size) ∧ RoadKit.Fld Z h' x ST "coder" "B" (.int 0) ∧
  (∃ V : Cell, RoadKit.Arr Z h' h.size V .byte ∧ V.vm = .none ∧ Z.vm.findClass "[B" = some V.cls ∧ V.slots.size = A.slots.size ∧ ∀ j, j < A.slots.size → V.slots[j]? = some (.int (lo8 (cv A j)))) ∧
  ∀ (O n d : String) (w : Value), RoadKit.Fld Z h x O n d w → RoadKit.slotOf Z O n d ≠ RoadKit.slotOf Z ST "value" "[B" → RoadKit.slotOf Z O n d ≠ RoadKit.slotOf Z ST "coder" "B" → RoadKit.Fld Z h' x O n d w
/-- **new String(chars) AT A CALL, IN THE ROAD'S FORM**: for specialBack behind newO: x the fresh String, b the char[] with the cell A -/
theorem back {p : Program} {l : Launch} {e : Env} {R : Room} {s : State} {args : Array Value} {below : List Frame} {len W : Nat} {Z : State} {a0 : Array Value} {h : Heap} (hZ : Z.Warmed39 s.vm) (hw : ∀ d ∈ words, d.before a0 Z = true) {kI : Nat} (wi : (Jvm.Cond.instantiable ST kI).before a0 Z = true)
    {x b : Addr} {A : Cell} {z : Int32} {v0 c0 : Value} (E : RoadKit.Exa Z h x ST) (V : RoadKit.Fld Z h x ST "value" "[B" v0) (C : RoadKit.Fld Z h x ST "coder" "B" c0) (K : RoadKit.Arr Z h b A .char) (hty : Typed .char A) (S : RoadKit.Sta Z h ST "COMPACT_STRINGS" "Z" (.int z)) (hz : ¬ z = 0)
    (l0 : 0 < A.slots.size) (l2 : A.slots.size ≤ 536870912) (hp : ∀ i, i < A.slots.size → ¬ 255 < cv A i) (hfr : 4 ≤ R.frames) (hlo : W + 65 ≤ R.locals) :
    Back l R p e below s args New1.yN len W (fun P a => a = #[.ref x, .ref b] ∧ P.U.heap = h ∧ P.cells + 1 ≤ R.cells ∧ P.slots + A.slots.size ≤ R.slots)
      (fun P _ v B => ∃ L, Q Z x A h v B.U.heap L ∧ B.locs = P.locs ++ L ∧ B.cells = P.cells + 1 ∧ B.slots = P.slots + A.slots.size) := by
  intro m meth c P g ig mk a X hg hsize hdg hW hn hp'
  obtain ⟨rfl, rfl, r1, r2⟩ := hp'
  have al : Z.vm.Alike P.U.vm := hZ.alike.trans X.warmed.alike
  obtain ⟨D, cfV, kV, iV, fV, hD, gV, stV, knV, obV, asV, slV⟩ := id V
  obtain ⟨D', cfC, kC, iC, fC, hD', gC, stC, -, -, asC, slC⟩ := id C
  cases hD.symm.trans hD'
  obtain ⟨D2, kD, e1, e2, e3, e4, e5⟩ := id E
  cases hD.symm.trans e1
  obtain ⟨c2, k2, i1, i2, i3, -⟩ := Cond.instantiable_spec wi
  cases e2.symm.trans i1
  cases e3.symm.trans i2
  obtain ⟨kU, u1, u2⟩ := al.2.2 _ _ e3
  have hB : Blank ST x D P.U := ⟨hD, ⟨knV, fun q hq => by rw [hq] at obV; cases obV⟩, by rw [al.findClass]; exact e2, kU, u1, by rw [u2]; exact i3, by rw [u2]; exact e5 i3⟩
  have F1 : Found ST "value" "[B" fV P.U := ⟨SBG.found_only al ⟨cfV, kV, iV, gV⟩, stV⟩
  have F2 : Found ST "coder" "B" fC P.U := ⟨SBG.found_only al ⟨cfC, kC, iC, gC⟩, stC⟩
  have hA : Ch b A P.U := ⟨⟨K.1, State.isArrayOf_alike al K.2.1, K.2.2, by omega⟩, hty⟩
  have hS : StaticIs P.U ST "COMPACT_STRINGS" "Z" (.int z) := by
    obtain ⟨cfS, iS, kS, fS, st, cS, t1, t2, t3, t4, t5, t6, t7⟩ := S
    exact StaticIs.there (s := { Z with heap := P.U.heap }) ⟨cfS, iS, kS, fS, st, cS, t1, t2, t3, t4, t5, (fun q => by rw [q] at t6; cases t6), t7⟩ al rfl
  obtain ⟨v, B, X', ⟨⟨hv, E', V', q1, q2, q3, q4, q5, q6, q7, q8, q9, q10, q11⟩, hl, hc, hs⟩, st⟩ := New1.pays x D fV fC b A z (tab_of (moved hZ hw)) hfr hlo m meth c P g ig mk _ X hg hsize hdg hW hn ⟨r1, r2, rfl, hB, F1, F2, hA, hS, hz, l0, l2, hp⟩
  have al' : Z.vm.Alike B.U.vm := hZ.alike.trans X'.warmed.alike
  have hsz : E'.slots.size = D.slots.size := by
    obtain ⟨-, -, -, kB, w1, w2, w3⟩ := q1
    obtain ⟨kB', y1, y2⟩ := al'.2.2 _ _ e3
    rw [q2.2.1] at w1
    cases w1.symm.trans y1
    rw [w3, e5 i3, y2]
  refine ⟨v, B, X', ⟨_, ⟨hv, ?_, ⟨by omega, fun y cy hy hn' => q10 y cy (by simpa using hn') hy, fun y cy hy => ?_⟩, q11, ⟨E', _, q1.1, by rw [q2.2.1]; exact e2, by rw [q2.2.1]; exact e3, by rw [q2.1]; exact obV, fun _ => by rw [hsz]; exact e5 i3⟩,
    ⟨E', cfV, kV, iV, fV, q1.1, gV, stV, by rw [q2.1]; exact knV, by rw [q2.1]; exact obV, by rw [q2.2.1]; exact asV, q3⟩, ⟨E', cfC, kC, iC, fC, q1.1, gC, stC, by rw [q2.1]; exact knV, by rw [q2.1]; exact obV, by rw [q2.2.1]; exact asC, q4⟩,
    ⟨V', ⟨q5.1, State.isArrayOf_alike al'.symm q5.2.1, q5.2.2.1⟩, q6, by rw [← al'.findClass]; exact q7, q8, fun j hj => by have := q9 j hj; rwa [Nat.zero_add] at this⟩, fun O n d w F n1 n2 => ?_⟩, hl, hc, hs⟩, st⟩
  · intro y hy
    simp only [List.mem_cons, List.not_mem_nil, or_false] at hy
    rcases hy with rfl | rfl <;> rfl
  · by_cases q : y = x
    · subst q
      cases hD.symm.trans hy
      exact ⟨E', q1.1, q2.2.1, q2.1, hsz⟩
    · exact ⟨cy, q10 y cy q hy, rfl, rfl, rfl⟩
  · obtain ⟨D3, cf, k, i, f, g1, g2, g3, g4, g5, g6, g7⟩ := F
    cases hD.symm.trans g1
    simp only [RoadKit.slotOf, g2, gV, gC, Option.map_some, Option.getD_some] at n1 n2
    exact ⟨E', cf, k, i, f, q1.1, g2, g3, by rw [q2.1]; exact g4, by rw [q2.1]; exact g5, by rw [q2.2.1]; exact g6, by rw [q2.2.2 f.slot (by simp [n1, n2])]; exact g7⟩
end StrChars.Road
namespace StrChars.Road
open Jvm Sem ClassFile Op Lib Jvm.Stand Jvm.Free Jvm.Free.XT
/-- WHAT COMES BACK, the byte[] as a list of values -/
def QA (Z : State) (x : Addr) (zn : Int32) (cs : List Int32) (h : Heap) (v : Option Value) (h' : Heap) (L : List Loc) : Prop := v = none ∧ (∀ y ∈ L, y.base = x) ∧ RoadKit.Keep h h' [x] ∧ h'.size = h.size + 1 ∧ RoadKit.Exa Z h' x ST ∧ RoadKit.Fld Z h' x ST "value" "[B" (.ref h.size) ∧ RoadKit.Fld Z h' x ST "coder" "B" (.int 0) ∧
  (∃ kb, Z.vm.findClass "[B" = some kb ∧ RoadKit.Arv Z h' h.size kb .byte zn (cs.map fun c => .int (lo8 c)) (.int 0)) ∧
  ∀ (O n d : String) (w : Value), RoadKit.Fld Z h x O n d w → RoadKit.slotOf Z O n d ≠ RoadKit.slotOf Z ST "value" "[B" → RoadKit.slotOf Z O n d ≠ RoadKit.slotOf Z ST "coder" "B" → RoadKit.Fld Z h' x O n d w
/-- **new String(chars) AT A CALL, THE ARRAYS AS LISTS**: the char[] at b holds cs, not empty, no char above 255 -/
theorem backArv {p : Program} {l : Launch} {e : Env} {R : Room} {s : State} {args : Array Value} {below : List Frame} {len W : Nat} {Z : State} {a0 : Array Value} {h : Heap} (hZ : Z.Warmed39 s.vm) (hw : ∀ d ∈ words, d.before a0 Z = true) {kI : Nat} (wi : (Jvm.Cond.instantiable ST kI).before a0 Z = true)
    {x b : Addr} {k : ClassId} {zn z : Int32} {cs : List Int32} {dv v0 c0 : Value} (E : RoadKit.Exa Z h x ST) (V : RoadKit.Fld Z h x ST "value" "[B" v0) (C : RoadKit.Fld Z h x ST "coder" "B" c0) (K : RoadKit.Arv Z h b k .char zn (cs.map Value.int) dv) (S : RoadKit.Sta Z h ST "COMPACT_STRINGS" "Z" (.int z)) (hz : ¬ z = 0)
    (hlen : zn.toNatClampNeg = cs.length) (h0 : 0 < cs.length) (hbig : cs.length ≤ 536870912) (hall : ∀ c ∈ cs, ¬ 255 < c) (hfr : 4 ≤ R.frames) (hlo : W + 65 ≤ R.locals) :
    Back l R p e below s args New1.yN len W (fun P a => a = #[.ref x, .ref b] ∧ P.U.heap = h ∧ P.cells + 1 ≤ R.cells ∧ P.slots + cs.length ≤ R.slots)
      (fun P _ v B => ∃ L, QA Z x zn cs h v B.U.heap L ∧ B.locs = P.locs ++ L ∧ B.cells = P.cells + 1 ∧ B.slots = P.slots + cs.length) := by
  obtain ⟨A, K1, K2, K3, K4, K5, K6⟩ := K
  have e : A.slots.size = cs.length := K3.trans hlen
  have hat : ∀ (i : Nat) (hi : i < cs.length), A.slots[i]? = some (.int cs[i]) := fun i hi => by rw [K5 i (by omega)]; simp [List.getD_eq_getElem?_getD, hi]
  have hcv : ∀ (i : Nat) (hi : i < cs.length), cv A i = cs[i] := fun i hi => by unfold cv; rw [hat i hi]
  have hty : Typed .char A := fun i v hv => by
    have hi : i < A.slots.size := (Array.getElem?_eq_some_iff.mp hv).1
    have q := K5 i hi
    rw [hv] at q
    rw [Option.some.inj q]
    exact K6 i hi
  refine Back.mono (back hZ hw wi E V C K1 hty S hz (by omega) (by omega) (fun i hi => by rw [hcv i (by omega)]; exact hall _ (List.getElem_mem _)) hfr hlo) (fun P a hp => ⟨hp.1, hp.2.1, hp.2.2.1, by rw [e]; exact hp.2.2.2⟩) (fun P a v B hp hq => ?_)
  obtain ⟨L, ⟨q1, q2, q3, q4, q5, q6, q7, ⟨V', v1, v2, v3, v4, v5⟩, q9⟩, hl, hc, hs⟩ := hq
  refine ⟨L, ⟨q1, q2, q3, q4, q5, q6, q7, ⟨V'.cls, v3, V', v1, rfl, by rw [v4, e, hlen], K4, fun i hi => ?_, fun i hi => ?_⟩, q9⟩, hl, hc, by rw [hs, e]⟩
  · have hi' : i < cs.length := by omega
    rw [v5 i (by omega), hcv i hi']; simp [List.getD_eq_getElem?_getD, hi']
  · have hi' : i < cs.length := by omega
    simp only [List.getD_eq_getElem?_getD, List.getElem?_map, List.getElem?_eq_getElem hi', Option.map_some, Option.getD_some]
    exact fits_lo8 _
end StrChars.Road
namespace StrChars.Road
open Jvm Sem ClassFile Op Lib Jvm.Stand Jvm.Free Jvm.Free.XT
/-- WHAT COMES BACK, in the writer's own shape -/
def QV (Z : State) (x : Addr) (N : Int32) (bs : List Int32) (h : Heap) (n0 : Nat) (v : Option Value) (h' : Heap) (L : List Loc) : Prop := v = none ∧ RoadKit.Fr n0 L ∧ RoadKit.Keep h h' [x] ∧ RoadKit.Exa Z h' x ST ∧ RoadKit.Fld Z h' x ST "coder" "B" (.int 0) ∧
  ∃ (t : Addr) (kb : ClassId), n0 ≤ t ∧ h.size ≤ t ∧ ¬ t = x ∧ RoadKit.Fld Z h' x ST "value" "[B" (.ref t) ∧ RoadKit.Arv Z h' t kb .byte N (bs.map Value.int) (.int 0)
/-- **new String(chars) AT A CALL, FOR THE WRITER**: a char[] of n known ints, each 0 to 255 -/
theorem backV {p : Program} {l : Launch} {e : Env} {R : Room} {s : State} {args : Array Value} {below : List Frame} {len W : Nat} {Z : State} {a0 : Array Value} {h : Heap} (hZ : Z.Warmed39 s.vm) (hw : ∀ d ∈ words, d.before a0 Z = true) {kI : Nat} (wi : (Jvm.Cond.instantiable ST kI).before a0 Z = true)
    {x b : Addr} {kC : ClassId} {cs bs : List Int32} {d v0 c0 : Value} {z N : Int32} {n n0 : Nat} (hx0 : n0 ≤ x) (hh0 : n0 ≤ h.size) (E : RoadKit.Exa Z h x ST) (V : RoadKit.Fld Z h x ST "value" "[B" v0) (C : RoadKit.Fld Z h x ST "coder" "B" c0) (K : RoadKit.Arv Z h b kC .char N (cs.map Value.int) d) (S : RoadKit.Sta Z h ST "COMPACT_STRINGS" "Z" (.int z)) (hz : ¬ z = 0)
    (hn : cs.length = n) (hN : N = Int32.ofNat n) (l0 : 0 < n) (l2 : n ≤ 4000) (hp : ∀ c ∈ cs, ¬ c < 0 ∧ ¬ (255 : Int32) < c) (hb : bs = cs.map (fun c => c.toInt8.toInt32)) (hfr : 4 ≤ R.frames) (hlo : W + 65 ≤ R.locals) :
    Back l R p e below s args (⟨"java/lang/String", "<init>", "([C)V"⟩ : MethodName) len W (fun P a => a = #[.ref x, .ref b] ∧ P.U.heap = h ∧ P.cells + 1 ≤ R.cells ∧ P.slots + n ≤ R.slots)
      (fun P _ v B => ∃ L, QV Z x N bs h n0 v B.U.heap L ∧ B.locs = P.locs ++ L ∧ B.cells = P.cells + 1 ∧ B.slots = P.slots + n) := by
  subst hn hN hb
  refine Back.mono (backArv hZ hw wi E V C K S hz (n32 (by omega)) l0 (by omega) (fun c hc => (hp c hc).2) hfr hlo) (fun P a hp => hp) (fun P a v B hp hq => ?_)
  obtain ⟨L, ⟨q1, q2, q3, q4, q5, q6, q7, ⟨kb, v1, v2⟩, q9⟩, hl, hc, hs⟩ := hq
  exact ⟨L, ⟨q1, fun y hy => by rw [q2 y hy]; exact hx0, q3, q5, q7, h.size, kb, hh0, Nat.le_refl _, Nat.ne_of_gt E.lt, q6, by rw [List.map_map]; exact v2⟩, hl, hc, hs⟩
end StrChars.Road
namespace StrChars
open Jvm Sem ClassFile Op Lib Jvm.Stand Jvm.Free.XT Jvm.Free.ALB Jvm.Free.JM Jvm.Free
open Jvm.Lib.Cold (StaticIs)
def hi8 (x : Int32) : Int32 := lo8 (x >>> ((8 : Int32) &&& 31))
/-- what StringUTF16.getChar makes of two bytes -/
def pairCh (u v : Int32) : Int32 := (((u &&& 255) <<< ((0 : Int32) &&& 31)) ||| ((v &&& 255) <<< ((8 : Int32) &&& 31))).toUInt32.toUInt16.toUInt32.toInt32
theorem lo8_and (x : Int32) : (lo8 x &&& 255).toBitVec.toNat = x.toBitVec.toNat % 256 := by
  have h : (lo8 x).toBitVec = (x.toBitVec.signExtend 8).signExtend 32 := by rw [lo8, Int8.toBitVec_toInt32, Int32.toBitVec_toInt8]
  rw [Int32.toBitVec_and, BitVec.toNat_and, h]
  have e : ((x.toBitVec.signExtend 8).signExtend 32).toNat % 256 = x.toBitVec.toNat % 256 := by
    rw [BitVec.toNat_signExtend]
    have hlt := x.toBitVec.isLt
    simp only [BitVec.toNat_setWidth, BitVec.toNat_signExtend]
    split <;> split <;> omega
  rw [← e]
  exact Nat.and_two_pow_sub_one_eq_mod _ 8
theorem pair_says {c : Int32} (h0 : ¬ c < 0) (h1 : ¬ 65535 < c) : pairCh (lo8 c) (hi8 c) = c := by
  rw [Int32.lt_iff_toInt_lt] at h0 h1
  have e0 : (0 : Int32).toInt = 0 := rfl
  have e1 : (65535 : Int32).toInt = 65535 := rfl
  have hc : c.toInt = c.toBitVec.toNat := by
    have := c.toBitVec.isLt
    have e : c.toInt = c.toBitVec.toInt := rfl
    rw [e] at h0 h1
    rw [e]
    rw [BitVec.toInt_eq_toNat_cond] at h0 h1 ⊢
    split at h0 <;> split <;> omega
  have hn : c.toBitVec.toNat < 65536 := by omega
  have a1 := lo8_and c
  have a2 : (hi8 c &&& 255).toBitVec.toNat = c.toBitVec.toNat / 256 := by
    rw [hi8, lo8_and]
    have e : ((8 : Int32) &&& 31) = 8 := by decide
    rw [e, Int32.toBitVec_shiftRight]
    have e2 : ((8 : Int32).toBitVec.smod 32) = 8#32 := by decide
    rw [e2, BitVec.sshiftRight_eq', BitVec.toNat_sshiftRight_of_msb_false (by rw [BitVec.msb_eq_false_iff_two_mul_lt]; omega)]
    show c.toBitVec.toNat >>> 8 % 256 = _
    rw [Nat.shiftRight_eq_div_pow]
    omega
  unfold pairCh
  apply Int32.toBitVec_inj.mp
  apply BitVec.eq_of_toNat_eq
  have f0 : ((0 : Int32) &&& 31) = 0 := by decide
  have f8 : ((8 : Int32) &&& 31) = 8 := by decide
  rw [f0, f8]
  have g : (((lo8 c &&& 255) <<< (0 : Int32)) ||| ((hi8 c &&& 255) <<< (8 : Int32))).toBitVec.toNat = c.toBitVec.toNat := by
    rw [Int32.toBitVec_or, Int32.toBitVec_shiftLeft, Int32.toBitVec_shiftLeft]
    have s0 : ((0 : Int32).toBitVec.smod 32) = 0#32 := by decide
    have s8 : ((8 : Int32).toBitVec.smod 32) = 8#32 := by decide
    rw [s0, s8, BitVec.toNat_or]
    simp only [BitVec.shiftLeft_eq', BitVec.toNat_shiftLeft, a1, a2]
    show (c.toBitVec.toNat % 256) <<< 0 % 2 ^ 32 ||| (c.toBitVec.toNat / 256) <<< 8 % 2 ^ 32 = _
    rw [Nat.shiftLeft_zero, Nat.mod_eq_of_lt (show c.toBitVec.toNat % 256 < 2 ^ 32 by omega), Nat.mod_eq_of_lt (show (c.toBitVec.toNat / 256) <<< 8 < 2 ^ 32 by rw [Nat.shiftLeft_eq]; omega), Nat.or_comm, ← Nat.shiftLeft_add_eq_or_of_lt (by omega), Nat.shiftLeft_eq]
    omega
  show BitVec.toNat (((((lo8 c &&& 255) <<< (0 : Int32)) ||| ((hi8 c &&& 255) <<< (8 : Int32))).toBitVec.setWidth 16).setWidth 32) = _
  rw [BitVec.toNat_setWidth, BitVec.toNat_setWidth, g]
  omega
end StrChars
namespace StrChars
open Jvm Sem ClassFile Op Lib Jvm.Stand Jvm.Free.XT Jvm.Free.ALB Jvm.Free.JM Jvm.Free
open Jvm.Lib.Cold (StaticIs)
/-- charAt's cast of a byte read back -/
def chr8 (u : Int32) : Int32 := (u &&& 255).toUInt32.toUInt16.toUInt32.toInt32
theorem chr8_lo8 {c : Int32} (h0 : ¬ c < 0) (h1 : ¬ 255 < c) : chr8 (lo8 c) = c := by
  have t : ∀ k : Fin 256, (Int32.ofNat k.val).toUInt32.toUInt16.toUInt32.toInt32 = Int32.ofNat k.val := by decide +kernel
  unfold chr8
  rw [lo8_mask h0 h1]
  rw [Int32.lt_iff_toInt_lt] at h0 h1
  have e0 : (0 : Int32).toInt = 0 := rfl
  have e1 : (255 : Int32).toInt = 255 := rfl
  obtain ⟨k, hk⟩ : ∃ k : Nat, c.toInt = k := ⟨c.toInt.toNat, by omega⟩
  have hx : c = Int32.ofNat k := Int32.toInt_inj.mp (by rw [hk, Int32.toInt_ofNat_small (by omega)])
  rw [hx]
  exact t ⟨k, by omega⟩
theorem narrow_ch {c : Int32} (h0 : ¬ c < 0) (h1 : ¬ 65535 < c) : narrow .char (.int c) = .int c := by
  have q : narrow .char (.int (pairCh (lo8 c) (hi8 c))) = .int (pairCh (lo8 c) (hi8 c)) := narrow_c _
  rwa [pair_says h0 h1] at q
/-- the array's cell V codes the n chars f 0 .. f (n - 1) by the coder cd, as the JDK does: coder 1 just where some char is above 255 -/
def Cod (cd : Int32) (n : Nat) (f : Nat → Int32) (V : Cell) : Prop := (cd = 0 ∧ V.slots.size = n ∧ ∀ j, j < n → V.slots[j]? = some (.int (lo8 (f j))) ∧ ¬ 255 < f j) ∨ (cd = 1 ∧ V.slots.size = 2 * n ∧ (∀ j, j < n → V.slots[2 * j]? = some (.int (lo8 (f j))) ∧ V.slots[2 * j + 1]? = some (.int (hi8 (f j)))) ∧ ∃ j, j < n ∧ 255 < f j)
theorem Cod.cd {cd : Int32} {n : Nat} {f : Nat → Int32} {V : Cell} (h : Cod cd n f V) : cd = 0 ∨ cd = 1 := h.imp (fun q => q.1) fun q => q.1
/-- **x is a String of the n chars f 0 .. f (n - 1)**, Latin-1 or UTF-16; its array at t has the cell V -/
def Txt (x t : Addr) (V : Cell) (cd : Int32) (n : Nat) (f : Nat → Int32) (U : State) : Prop := Exact "java/lang/String" x U ∧ Has x "java/lang/String" "value" "[B" (.ref t) U ∧ Has x "java/lang/String" "coder" "B" (.int cd) U ∧ XT.Arr .byte t V U ∧ Cod cd n f V ∧ ∀ j, j < n → ¬ f j < 0 ∧ ¬ 65535 < f j
theorem Txt.mv {x t : Addr} {V : Cell} {cd : Int32} {n : Nat} {f : Nat → Int32} {U U' : State} (h : Txt x t V cd n f U) (hal : U.vm.Alike U'.vm) (hh : U'.heap = U.heap) : Txt x t V cd n f U' := ⟨h.1.mv hal hh, h.2.1.mv hal hh, h.2.2.1.mv hal hh, h.2.2.2.1.mv hal hh, h.2.2.2.2⟩
namespace IsL
def yN : MethodName := ⟨"java/lang/String", "isLatin1", "()Z"⟩
abbrev yB : ByteArray := jdk_42_method_154_code
theorem d0 : decode yB 0 = .ok (.getstatic 38, 3) := by decide +kernel
theorem d3 : decode yB 3 = .ok (.ifCond (.eq) 14, 3) := by decide +kernel
theorem d6 : decode yB 6 = .ok (.aload_n 0, 1) := by decide +kernel
theorem d7 : decode yB 7 = .ok (.getfield 15, 3) := by decide +kernel
theorem d10 : decode yB 10 = .ok (.ifCond (.ne) 7, 3) := by decide +kernel
theorem d13 : decode yB 13 = .ok (.iconst 1, 1) := by decide +kernel
theorem d14 : decode yB 14 = .ok (.goto 4, 3) := by decide +kernel
theorem d17 : decode yB 17 = .ok (.iconst 0, 1) := by decide +kernel
theorem d18 : decode yB 18 = .ok (.ireturn, 1) := by decide +kernel
def site : List Cond := [.fieldLink "java/lang/String" 38 "java/lang/String" "COMPACT_STRINGS" "Z", .fieldLink "java/lang/String" 15 "java/lang/String" "coder" "B"]
def tab : Cond := tabOf yN yB 1 (some .boolean) site
def P (x : Addr) (cd z : Int32) (args : Array Value) (s : State) : Prop := args = #[.ref x] ∧ Has x "java/lang/String" "coder" "B" (.int cd) s ∧ (cd = 0 ∨ cd = 1) ∧ StaticIs s "java/lang/String" "COMPACT_STRINGS" "Z" (.int z) ∧ ¬ z = 0
def E (cd : Int32) (r : Option Value) (s u : State) : Prop := XT.PureE (some (.int (1 - cd))) r s u
theorem law (l : Launch) (x : Addr) (cd z : Int32) : Law l yN 1 0 0 0 yB 1 (some .boolean) site (P x cd z) (E cd) [] 0 0 := by
  refine Law.of_walk (plainFor_of_name (by decide +kernel)) (by decide +kernel) (by decide +kernel) (by decide) (fun _ _ h => by rw [h.1]; rfl) (fun _ U U' hal hh h => ⟨h.1, h.2.1.mv hal hh, h.2.2.1, h.2.2.2.1.there hal hh, h.2.2.2.2⟩) (fun r U U' V V' h1 hal h2 h => XT.PureE.mv r U U' V V' h1 hal h2 h) ?_
  intro p e s m args below meth c s₁ X0 hexec hbytes hml hret hlk hnm hown hh0 W hP
  obtain ⟨rfl, hx, hc, s1, hz⟩ := hP
  have c1 : Steps p.tables e below (s₁.setTop (entryFrame m #[.ref x] 1)) (s₁.setTop (mkF m 0 #[.val (.ref x)] [])) := entry rfl
  obtain ⟨T2, X2, q2, st2⟩ := X0.sget hexec hown (wk W (.fieldLink "java/lang/String" 38 "java/lang/String" "COMPACT_STRINGS" "Z")) s1 (fun _ _ h => by rw [hh0]; exact h) (g := (mkF m 0 #[.val (.ref x)] [])) rfl (hb hbytes d0)
  have hh2 := q2.trans hh0
  have c3 : Steps p.tables e below (s₁.setTop (entryFrame m #[.ref x] 1)) (T2.setTop (mkF m 7 #[.val (.ref x)] [.ref x])) := (c1.trans (st2 _ (Steps.refl _))).trans (by
    refine XS.ifNo X2.here hexec rfl (hb hbytes d3) rfl (i0_eq_f hz) ?_
    refine XS.aloadN X2.here hexec rfl (hb hbytes d6) rfl rfl ?_
    exact Steps.refl _)
  obtain ⟨T4, X4, q4, st4⟩ := X2.hget hexec hown (wk W (.fieldLink "java/lang/String" 15 "java/lang/String" "coder" "B")) (hx.mv X2.warmed.alike hh2) (g := (mkF m 7 #[.val (.ref x)] [.ref x])) rfl (rest := []) rfl (hb hbytes d7)
  have c5 : Steps p.tables e below (s₁.setTop (entryFrame m #[.ref x] 1)) (T4.setTop (mkF m 10 #[.val (.ref x)] [.int cd])) := c3.trans (st4 _ (Steps.refl _))
  have c6 : Steps p.tables e below (s₁.setTop (entryFrame m #[.ref x] 1)) (T4.setTop (mkF m 18 #[.val (.ref x)] [.int (1 - cd)])) := by
    rcases hc with rfl | rfl
    · exact c5.trans (by
        refine XS.ifNo X4.here hexec rfl (hb hbytes d10) rfl (i0_ne_f rfl) ?_
        refine iconstV X4.here hexec rfl 1 (hb hbytes d13) (by decide) ?_
        refine XS.goto X4.here hexec rfl (pc0 := 14) rfl (hb hbytes d14) (by decide) rfl ?_
        exact Steps.refl _)
    · exact c5.trans (by
        refine XS.ifYes X4.here hexec rfl (pc0 := 10) rfl (hb hbytes d10) rfl (i0_ne_t (by decide)) (by decide) rfl ?_
        refine iconstV X4.here hexec rfl 0 (hb hbytes d17) (by decide) ?_
        exact Steps.refl _)
  exact ⟨T4, some (.int (1 - cd)), _, _, _, X4, rfl, rfl, rfl, (fun h => by cases h), ⟨rfl, q4.trans hh2⟩, fun fs hl => c6.trans (X4.ireturnOut hexec hret (by rcases hc with rfl | rfl <;> rfl) (Or.inr (Or.inl rfl)) (hb hbytes d18) hl)⟩
end IsL
namespace LChA
def yN : MethodName := ⟨"java/lang/StringLatin1", "charAt", "([BI)C"⟩
abbrev yB : ByteArray := jdk_43_method_2_code
theorem d0 : decode yB 0 = .ok (.iload_n 1, 1) := by decide +kernel
theorem d1 : decode yB 1 = .ok (.aload_n 0, 1) := by decide +kernel
theorem d2 : decode yB 2 = .ok (.arraylength, 1) := by decide +kernel
theorem d3 : decode yB 3 = .ok (.invokestatic 9, 3) := by decide +kernel
theorem d6 : decode yB 6 = .ok (.aload_n 0, 1) := by decide +kernel
theorem d7 : decode yB 7 = .ok (.iload_n 1, 1) := by decide +kernel
theorem d8 : decode yB 8 = .ok (.baload, 1) := by decide +kernel
theorem d9 : decode yB 9 = .ok (.sipush 255, 3) := by decide +kernel
theorem d12 : decode yB 12 = .ok (.iand, 1) := by decide +kernel
theorem d13 : decode yB 13 = .ok (.i2c, 1) := by decide +kernel
theorem d14 : decode yB 14 = .ok (.ireturn, 1) := by decide +kernel
def site : List Cond := [JO.Str_checkIndex.tab] ++ staticW "java/lang/StringLatin1" 9 JO.Str_checkIndex.yN
def tab : Cond := tabOf yN yB 2 (some .char) site
def P (t : Addr) (V : Cell) (i : Nat) (u : Int32) (fm : Value) (args : Array Value) (s : State) : Prop := args = #[.ref t, .int (Int32.ofNat i)] ∧ XT.Arr .byte t V s ∧ V.slots[i]? = some (.int u) ∧ (StaticIs s "jdk/internal/util/Preconditions" "SIOOBE_FORMATTER" "Ljava/util/function/BiFunction;" fm ∧ fm.isRef = true)
def E (u : Int32) (r : Option Value) (s w : State) : Prop := XT.PureE (some (.int (chr8 u))) r s w
theorem law (l : Launch) (t : Addr) (V : Cell) (i : Nat) (u : Int32) (fm : Value) : Law l yN 2 2 2 27 yB 2 (some .char) site (P t V i u fm) (E u) [] 0 0 := by
  refine Law.of_walk (plainFor_of_name (by decide +kernel)) (by decide +kernel) (by decide +kernel) (by decide) (fun _ _ h => by rw [h.1]; rfl) (fun _ U U' hal hh h => ⟨h.1, h.2.1.mv hal hh, h.2.2.1, h.2.2.2.1.there hal hh, h.2.2.2.2⟩) (fun r U U' V V' h1 hal h2 h => XT.PureE.mv r U U' V V' h1 hal h2 h) ?_
  intro p e s m args below meth c s₁ X0 hexec hbytes hml hret hlk hnm hown hh0 W hP
  obtain ⟨rfl, hV, hu, s1, rf⟩ := hP
  have v31 := hV.2.2.2
  have hi : i < V.slots.size := (Array.getElem?_eq_some_iff.mp hu).1
  have c1 : Steps p.tables e below (s₁.setTop (entryFrame m #[.ref t, .int (Int32.ofNat i)] 2)) (s₁.setTop (mkF m 0 #[.val (.ref t), .val (.int (Int32.ofNat i))] [])) := entry rfl
  have c2 : Steps p.tables e below (s₁.setTop (entryFrame m #[.ref t, .int (Int32.ofNat i)] 2)) (s₁.setTop (mkF m 3 #[.val (.ref t), .val (.int (Int32.ofNat i))] [.int (Int32.ofNat V.slots.size), .int (Int32.ofNat i)])) := c1.trans (by
    refine XS.iloadN X0.here hexec rfl (hb hbytes d0) rfl ?_
    refine XS.aloadN X0.here hexec rfl (hb hbytes d1) rfl rfl ?_
    refine X0.alen hexec (hV.mv X0.warmed.alike hh0) rfl rfl (hb hbytes d2) ?_
    exact Steps.refl _)
  obtain ⟨v3, T3, X3, E3, g3⟩ := X0.callS hexec (JO.Str_checkIndex.law l (Int32.ofNat i) (Int32.ofNat V.slots.size) fm) hown (wks W (staticW "java/lang/StringLatin1" 9 JO.Str_checkIndex.yN)) (wk W JO.Str_checkIndex.tab) (W := 0) (Nat.le_of_ble_eq_true rfl) (Nat.le_of_ble_eq_true rfl) (Nat.le_refl _) (Nat.le_refl _) (g := (mkF m 3 #[.val (.ref t), .val (.int (Int32.ofNat i))] [.int (Int32.ofNat V.slots.size), .int (Int32.ofNat i)])) rfl (by rw [hml]; rfl) c2 (argsL := [.int (Int32.ofNat i), .int (Int32.ofNat V.slots.size)]) (rest := []) rfl rfl (by show 2 * 0 + 0 ≤ _; decide) (hb hbytes d3) (⟨rfl, rf, s1.there X0.warmed.alike hh0, Int32.ofNat_not_neg (by omega), lt32 v31 hi⟩)
  obtain ⟨rfl, q3⟩ := E3
  have hh3 := q3.trans hh0
  have c4 : Steps p.tables e below (s₁.setTop (entryFrame m #[.ref t, .int (Int32.ofNat i)] 2)) (T3.setTop (mkF m 14 #[.val (.ref t), .val (.int (Int32.ofNat i))] [.int (chr8 u)])) := Steps.trans g3 (by
    refine XS.aloadN X3.here hexec rfl (hb hbytes d6) rfl rfl ?_
    refine XS.iloadN X3.here hexec rfl (hb hbytes d7) rfl ?_
    refine X3.aget hexec (hV.mv X3.warmed.alike hh3) rfl hu rfl rfl (hb hbytes d8) ?_
    refine sipushV X3.here hexec rfl 255 (hb hbytes d9) (by decide) ?_
    refine XS.iand X3.here hexec rfl (hb hbytes d12) rfl ?_
    refine i2c X3.here hexec rfl (hb hbytes d13) rfl ?_
    exact Steps.refl _)
  exact ⟨T3, some (.int (chr8 u)), _, _, _, X3, rfl, rfl, rfl, (fun h => by cases h), ⟨rfl, hh3⟩, fun fs hl => c4.trans (X3.ireturnOut hexec hret (narrow_c _) (Or.inr (Or.inr (Or.inr (Or.inl rfl)))) (hb hbytes d14) hl)⟩
end LChA
end StrChars
namespace StrChars.Road
open Jvm Sem ClassFile Op Lib Jvm.Stand Jvm.Free Jvm.Free.XT
open Jvm.Lib.Cold (StaticIs)
theorem consq {a : Array Value} {s : State} {c : Jvm.Cond} {L : List Jvm.Cond} (h0 : c.before a s = true) (h : ∀ w ∈ L, w.before a s = true) : ∀ w ∈ c :: L, w.before a s = true := fun w hw => (List.mem_cons.mp hw).elim (fun e => e ▸ h0) (h w)
/-- the bytes of the chars cs, low before high -/
def wideBytes : List Int32 → List Value
  | [] => []
  | c :: cs => .int (lo8 c) :: .int (hi8 c) :: wideBytes cs
theorem wide_lo (d : Value) : ∀ (cs : List Int32) (j : Nat), j < cs.length → (wideBytes cs).getD (2 * j) d = .int (lo8 (cs.getD j 0))
  | [], j, h => absurd h (Nat.not_lt_zero j)
  | c :: cs, 0, _ => rfl
  | c :: cs, j + 1, h => by
    have q := wide_lo d cs j (by simpa using h)
    rw [show 2 * (j + 1) = 2 * j + 1 + 1 from by omega]
    simpa [wideBytes] using q
theorem wide_hi (d : Value) : ∀ (cs : List Int32) (j : Nat), j < cs.length → (wideBytes cs).getD (2 * j + 1) d = .int (hi8 (cs.getD j 0))
  | [], j, h => absurd h (Nat.not_lt_zero j)
  | c :: cs, 0, _ => rfl
  | c :: cs, j + 1, h => by
    have q := wide_hi d cs j (by simpa using h)
    rw [show 2 * (j + 1) + 1 = 2 * j + 1 + 1 + 1 from by omega]
    simpa [wideBytes] using q
theorem low_at (d : Value) (cs : List Int32) (j : Nat) (h : j < cs.length) : (cs.map fun c => Value.int (lo8 c)).getD j d = .int (lo8 (cs.getD j 0)) := by
  simp [List.getD_eq_getElem?_getD, h]
/-- an array of N2 bytes vs codes the chars cs by the coder cd -/
def CodA (cs : List Int32) (cd N2 : Int32) (vs : List Value) : Prop := (cd = 0 ∧ N2 = Int32.ofNat cs.length ∧ vs = (cs.map fun c => Value.int (lo8 c)) ∧ ∀ c ∈ cs, ¬ 255 < c) ∨ (cd = 1 ∧ N2 = Int32.ofNat (2 * cs.length) ∧ vs = wideBytes cs ∧ ∃ c ∈ cs, 255 < c)
theorem CodA.cod {cs : List Int32} {cd N2 : Int32} {vs : List Value} {V : Cell} (h : CodA cs cd N2 vs) (hn : 2 * cs.length < 2 ^ 31) (hs : V.slots.size = N2.toNatClampNeg) (hv : RoadKit.Has V vs (.int 0)) : Cod cd cs.length (fun j => cs.getD j 0) V := by
  rcases h with ⟨rfl, rfl, rfl, h⟩ | ⟨rfl, rfl, rfl, c, hc, hw⟩
  · rw [n32 (by omega)] at hs
    exact Or.inl ⟨rfl, hs, fun j hj => ⟨by rw [hv j (by omega), low_at _ _ _ hj], by
      have e : cs.getD j 0 = cs[j] := by simp [List.getD_eq_getElem?_getD, hj]
      show ¬ 255 < cs.getD j 0
      rw [e]; exact h _ (List.getElem_mem _)⟩⟩
  · rw [n32 (by omega)] at hs
    obtain ⟨j, hj, rfl⟩ := List.getElem_of_mem hc
    exact Or.inr ⟨rfl, hs, fun j hj => ⟨by rw [hv _ (by omega), wide_lo _ _ _ hj], by rw [hv _ (by omega), wide_hi _ _ _ hj]⟩, j, hj, by
      have e : cs.getD j 0 = cs[j] := by simp [List.getD_eq_getElem?_getD, hj]
      show 255 < cs.getD j 0
      rw [e]; exact hw⟩
/-- an object of exactly java/lang/String, its two fields found: as the laws ask it -/
theorem strObj {Z U : State} {a0 : Array Value} {kI : Nat} (wi : (Jvm.Cond.instantiable ST kI).before a0 Z = true) (al : Z.vm.Alike U.vm) {x : Addr} {v0 c0 : Value} (E : RoadKit.Exa Z U.heap x ST) (V : RoadKit.Fld Z U.heap x ST "value" "[B" v0) (C : RoadKit.Fld Z U.heap x ST "coder" "B" c0) :
    ∃ (D : Cell) (fV fC : Field), Blank ST x D U ∧ Found ST "value" "[B" fV U ∧ Found ST "coder" "B" fC U ∧ D.slots[fV.slot]? = some v0 ∧ D.slots[fC.slot]? = some c0 ∧ RoadKit.slotOf Z ST "value" "[B" = fV.slot ∧ RoadKit.slotOf Z ST "coder" "B" = fC.slot := by
  obtain ⟨D, cfV, kV, iV, fV, hD, gV, stV, knV, obV, asV, slV⟩ := V
  obtain ⟨D', cfC, kC, iC, fC, hD', gC, stC, -, -, asC, slC⟩ := C
  cases hD.symm.trans hD'
  obtain ⟨D2, kD, e1, e2, e3, e4, e5⟩ := E
  cases hD.symm.trans e1
  obtain ⟨c2, k2, i1, i2, i3, -⟩ := Cond.instantiable_spec wi
  cases e2.symm.trans i1
  cases e3.symm.trans i2
  obtain ⟨kU, u1, u2⟩ := al.2.2 _ _ e3
  exact ⟨D, fV, fC, ⟨hD, ⟨knV, fun q hq => by rw [hq] at obV; cases obV⟩, by rw [al.findClass]; exact e2, kU, u1, by rw [u2]; exact i3, by rw [u2]; exact e5 i3⟩, ⟨SBG.found_only al ⟨cfV, kV, iV, gV⟩, stV⟩, ⟨SBG.found_only al ⟨cfC, kC, iC, gC⟩, stC⟩, slV, slC, by simp [RoadKit.slotOf, gV], by simp [RoadKit.slotOf, gC]⟩
theorem sta_is {Z U : State} (al : Z.vm.Alike U.vm) {C n d : String} {v : Value} (S : RoadKit.Sta Z U.heap C n d v) : StaticIs U C n d v := by
  obtain ⟨cfS, iS, kS, fS, st, cS, t1, t2, t3, t4, t5, t6, t7⟩ := S
  exact StaticIs.there (s := { Z with heap := U.heap }) ⟨cfS, iS, kS, fS, st, cS, t1, t2, t3, t4, t5, (fun q => by rw [q] at t6; cases t6), t7⟩ al rfl
end StrChars.Road
namespace StrChars
open Jvm Sem ClassFile Op Lib Jvm.Stand Jvm.Free.XT Jvm.Free.ALB Jvm.Free.JM Jvm.Free
open Jvm.Lib.Cold (StaticIs)
/-- what place i of a byte[]'s cell holds -/
def yv (A : Cell) (i : Nat) : Int32 := match A.slots[i]? with | some (.int x) => x | _ => 0
theorem yv_get {a : Addr} {A : Cell} {U : State} (h : XT.Arr .byte a A U) (ht : Typed .byte A) {i : Nat} (hi : i < A.slots.size) : A.slots[i]? = some (.int (yv A i)) := by
  have e := Array.getElem?_eq_getElem hi
  have f := ht i _ e
  unfold yv; rw [e]
  generalize A.slots[i] = v at f
  cases v <;> simp [fits] at f ⊢
/-- the two arrays are equal, place for place -/
def EqC (A B : Cell) : Prop := A.slots.size = B.slots.size ∧ ∀ i, i < A.slots.size → yv A i = yv B i
/-- a boolean that says whether p -/
def Says01 (q : Prop) (r : Option Value) (s u : State) : Prop := ∃ v : Int32, r = some (.int v) ∧ u.heap = s.heap ∧ ((v = 1 ∧ q) ∨ (v = 0 ∧ ¬ q))
theorem Says01.mv {q : Prop} : ∀ r (U U' V V' : State), U'.heap = U.heap → V.vm.Alike V'.vm → V'.heap = V.heap → Says01 q r U V → Says01 q r U' V' :=
  fun r U U' V V' h1 _ h2 ⟨v, a, b, c⟩ => ⟨v, a, by rw [h1, h2]; exact b, c⟩
namespace LEq
def yN : MethodName := ⟨"java/lang/StringLatin1", "equals", "([B[B)Z"⟩
abbrev yB : ByteArray := jdk_43_method_13_code
theorem d0 : decode yB 0 = .ok (.aload_n 0, 1) := by decide +kernel
theorem d1 : decode yB 1 = .ok (.arraylength, 1) := by decide +kernel
theorem d2 : decode yB 2 = .ok (.aload_n 1, 1) := by decide +kernel
theorem d3 : decode yB 3 = .ok (.arraylength, 1) := by decide +kernel
theorem d4 : decode yB 4 = .ok (.if_icmp (.ne) 30, 3) := by decide +kernel
theorem d7 : decode yB 7 = .ok (.iconst 0, 1) := by decide +kernel
theorem d8 : decode yB 8 = .ok (.istore_n 2, 1) := by decide +kernel
theorem d9 : decode yB 9 = .ok (.iload_n 2, 1) := by decide +kernel
theorem d10 : decode yB 10 = .ok (.aload_n 0, 1) := by decide +kernel
theorem d11 : decode yB 11 = .ok (.arraylength, 1) := by decide +kernel
theorem d12 : decode yB 12 = .ok (.if_icmp (.ge) 20, 3) := by decide +kernel
theorem d15 : decode yB 15 = .ok (.aload_n 0, 1) := by decide +kernel
theorem d16 : decode yB 16 = .ok (.iload_n 2, 1) := by decide +kernel
theorem d17 : decode yB 17 = .ok (.baload, 1) := by decide +kernel
theorem d18 : decode yB 18 = .ok (.aload_n 1, 1) := by decide +kernel
theorem d19 : decode yB 19 = .ok (.iload_n 2, 1) := by decide +kernel
theorem d20 : decode yB 20 = .ok (.baload, 1) := by decide +kernel
theorem d21 : decode yB 21 = .ok (.if_icmp (.eq) 5, 3) := by decide +kernel
theorem d24 : decode yB 24 = .ok (.iconst 0, 1) := by decide +kernel
theorem d25 : decode yB 25 = .ok (.ireturn, 1) := by decide +kernel
theorem d26 : decode yB 26 = .ok (.iinc 2 1, 3) := by decide +kernel
theorem d29 : decode yB 29 = .ok (.goto (-20), 3) := by decide +kernel
theorem d32 : decode yB 32 = .ok (.iconst 1, 1) := by decide +kernel
theorem d33 : decode yB 33 = .ok (.ireturn, 1) := by decide +kernel
theorem d34 : decode yB 34 = .ok (.iconst 0, 1) := by decide +kernel
theorem d35 : decode yB 35 = .ok (.ireturn, 1) := by decide +kernel
def site : List Cond := []
def tab : Cond := tabOf yN yB 3 (some .boolean) site
def P (a : Addr) (A : Cell) (b : Addr) (B : Cell) (args : Array Value) (s : State) : Prop := args = #[.ref a, .ref b] ∧ XT.Arr .byte a A s ∧ Typed .byte A ∧ XT.Arr .byte b B s ∧ Typed .byte B
/-- whether two byte[] are equal, place for place -/
theorem law (l : Launch) (a : Addr) (A : Cell) (b : Addr) (B : Cell) : Law l yN 2 2 0 0 yB 3 (some .boolean) site (P a A b B) (Says01 (EqC A B)) [] 0 0 := by
  refine Law.of_walk (plainFor_of_name (by decide +kernel)) (by decide +kernel) (by decide +kernel) (by decide) (fun _ _ h => by rw [h.1]; rfl) (fun _ U U' hal hh h => ⟨h.1, h.2.1.mv hal hh, h.2.2.1, h.2.2.2.1.mv hal hh, h.2.2.2.2⟩) (fun r U U' V V' h1 hal h2 h => Says01.mv r U U' V V' h1 hal h2 h) ?_
  intro p e s m args below meth c s₁ X0 hexec hbytes hml hret hlk hnm hown hh0 W hP
  obtain ⟨rfl, hA, tA, hB, tB⟩ := hP
  have a31 := hA.2.2.2
  have b31 := hB.2.2.2
  have hA0 := hA.mv X0.warmed.alike hh0
  have hB0 := hB.mv X0.warmed.alike hh0
  have c1 : Steps p.tables e below (s₁.setTop (entryFrame m #[.ref a, .ref b] 3)) (s₁.setTop (mkF m 0 #[.val (.ref a), .val (.ref b), .unset] [])) := entry rfl
  have c2 : Steps p.tables e below (s₁.setTop (entryFrame m #[.ref a, .ref b] 3)) (s₁.setTop (mkF m 4 #[.val (.ref a), .val (.ref b), .unset] [.int (Int32.ofNat B.slots.size), .int (Int32.ofNat A.slots.size)])) := c1.trans (by
    refine XS.aloadN X0.here hexec rfl (hb hbytes d0) rfl rfl ?_
    refine X0.alen hexec hA0 rfl rfl (hb hbytes d1) ?_
    refine XS.aloadN X0.here hexec rfl (hb hbytes d2) rfl rfl ?_
    refine X0.alen hexec hB0 rfl rfl (hb hbytes d3) ?_
    exact Steps.refl _)
  by_cases hs : A.slots.size = B.slots.size
  · have c3 : Steps p.tables e below (s₁.setTop (entryFrame m #[.ref a, .ref b] 3)) (s₁.setTop (mkF m 9 #[.val (.ref a), .val (.ref b), .val (.int 0)] [])) := c2.trans (by
      refine XS.icmpNo X0.here hexec rfl (hb hbytes d4) rfl (ii_ne_f (by rw [hs])) ?_
      refine iconstV X0.here hexec rfl 0 (hb hbytes d7) (by decide) ?_
      refine XS.istoreN X0.here hexec rfl (hb hbytes d8) rfl rfl ?_
      exact Steps.refl _)
    have loop : ∀ (r i : Nat), i + r = A.slots.size → (∀ j, j < i → yv A j = yv B j) → Steps p.tables e below (s₁.setTop (entryFrame m #[.ref a, .ref b] 3)) (s₁.setTop (mkF m 9 #[.val (.ref a), .val (.ref b), .val (.int (Int32.ofNat i))] [])) → ∃ (pc : Nat) (Ls : Array Slot) (v : Int32), (pc = 25 ∨ pc = 33) ∧ ((v = 1 ∧ EqC A B) ∨ (v = 0 ∧ ¬ EqC A B)) ∧ Steps p.tables e below (s₁.setTop (entryFrame m #[.ref a, .ref b] 3)) (s₁.setTop (mkF m pc Ls [.int v])) := by
      intro r
      induction r with
      | zero =>
        intro i hi he cl
        exact ⟨33, _, 1, Or.inr rfl, Or.inl ⟨rfl, hs, fun j hj => he j (by omega)⟩, cl.trans (by
          refine XS.iloadN X0.here hexec rfl (hb hbytes d9) rfl ?_
          refine XS.aloadN X0.here hexec rfl (hb hbytes d10) rfl rfl ?_
          refine X0.alen hexec hA0 rfl rfl (hb hbytes d11) ?_
          refine XS.icmpYes X0.here hexec rfl (pc0 := 12) rfl (hb hbytes d12) rfl (ii_ge_t (nlt32 (by omega) (by omega))) (by decide) rfl ?_
          refine iconstV X0.here hexec rfl 1 (hb hbytes d32) (by decide) ?_
          exact Steps.refl _)⟩
      | succ r ih =>
        intro i hi he cl
        have c4 : Steps p.tables e below (s₁.setTop (entryFrame m #[.ref a, .ref b] 3)) (s₁.setTop (mkF m 21 #[.val (.ref a), .val (.ref b), .val (.int (Int32.ofNat i))] [.int (yv B i), .int (yv A i)])) := cl.trans (by
          refine XS.iloadN X0.here hexec rfl (hb hbytes d9) rfl ?_
          refine XS.aloadN X0.here hexec rfl (hb hbytes d10) rfl rfl ?_
          refine X0.alen hexec hA0 rfl rfl (hb hbytes d11) ?_
          refine XS.icmpNo X0.here hexec rfl (hb hbytes d12) rfl (ii_ge_f (lt32 (by omega) (by omega))) ?_
          refine XS.aloadN X0.here hexec rfl (hb hbytes d15) rfl rfl ?_
          refine XS.iloadN X0.here hexec rfl (hb hbytes d16) rfl ?_
          refine X0.aget hexec hA0 rfl (yv_get hA tA (i := i) (by omega)) rfl rfl (hb hbytes d17) ?_
          refine XS.aloadN X0.here hexec rfl (hb hbytes d18) rfl rfl ?_
          refine XS.iloadN X0.here hexec rfl (hb hbytes d19) rfl ?_
          refine X0.aget hexec hB0 rfl (yv_get hB tB (i := i) (by omega)) rfl rfl (hb hbytes d20) ?_
          exact Steps.refl _)
        by_cases hv : yv A i = yv B i
        · have c5 : Steps p.tables e below (s₁.setTop (entryFrame m #[.ref a, .ref b] 3)) (s₁.setTop (mkF m 9 #[.val (.ref a), .val (.ref b), .val (.int (Int32.ofNat i + 1))] [])) := c4.trans (by
            refine XS.icmpYes X0.here hexec rfl (pc0 := 21) rfl (hb hbytes d21) rfl (ii_eq_t hv) (by decide) rfl ?_
            refine iincV X0.here hexec rfl 1 (hb hbytes d26) (by decide) rfl rfl ?_
            refine XS.goto X0.here hexec rfl (pc0 := 29) rfl (hb hbytes d29) (by decide) rfl ?_
            exact Steps.refl _)
          rw [succ32] at c5
          exact ih (i + 1) (by omega) (fun j hj => by
            by_cases e : j = i
            · rw [e]; exact hv
            · exact he j (by omega)) c5
        · exact ⟨25, _, 0, Or.inl rfl, Or.inr ⟨rfl, fun q => hv (q.2 i (by omega))⟩, c4.trans (by
            refine XS.icmpNo X0.here hexec rfl (hb hbytes d21) rfl (ii_eq_f hv) ?_
            refine iconstV X0.here hexec rfl 0 (hb hbytes d24) (by decide) ?_
            exact Steps.refl _)⟩
    obtain ⟨pc, Ls, v, hpc, hv, cz⟩ := loop A.slots.size 0 (by omega) (fun j hj => absurd hj (Nat.not_lt_zero j)) c3
    have nv : narrow .boolean (.int v) = .int v := by rcases hv with ⟨rfl, -⟩ | ⟨rfl, -⟩ <;> rfl
    rcases hpc with rfl | rfl
    · exact ⟨s₁, some (.int v), _, _, _, X0, rfl, rfl, rfl, (fun h => by cases h), ⟨v, rfl, hh0, hv⟩, fun fs hl => cz.trans (X0.ireturnOut hexec hret nv (Or.inr (Or.inl rfl)) (hb hbytes d25) hl)⟩
    · exact ⟨s₁, some (.int v), _, _, _, X0, rfl, rfl, rfl, (fun h => by cases h), ⟨v, rfl, hh0, hv⟩, fun fs hl => cz.trans (X0.ireturnOut hexec hret nv (Or.inr (Or.inl rfl)) (hb hbytes d33) hl)⟩
  · have c3 : Steps p.tables e below (s₁.setTop (entryFrame m #[.ref a, .ref b] 3)) (s₁.setTop (mkF m 35 #[.val (.ref a), .val (.ref b), .unset] [.int 0])) := c2.trans (by
      refine XS.icmpYes X0.here hexec rfl (pc0 := 4) rfl (hb hbytes d4) rfl (ii_ne_t (ne32 a31 b31 hs)) (by decide) rfl ?_
      refine iconstV X0.here hexec rfl 0 (hb hbytes d34) (by decide) ?_
      exact Steps.refl _)
    exact ⟨s₁, some (.int 0), _, _, _, X0, rfl, rfl, rfl, (fun h => by cases h), ⟨0, rfl, hh0, Or.inr ⟨rfl, fun q => hs q.1⟩⟩, fun fs hl => c3.trans (X0.ireturnOut hexec hret rfl (Or.inr (Or.inl rfl)) (hb hbytes d35) hl)⟩
end LEq
theorem Cod.ty {cd : Int32} {n : Nat} {f : Nat → Int32} {V : Cell} (h : Cod cd n f V) : Typed .byte V := fun i v hv => by
  have hi : i < V.slots.size := (Array.getElem?_eq_some_iff.mp hv).1
  rcases h with ⟨-, k1, k2⟩ | ⟨-, k1, k2, -⟩
  · rw [(k2 i (by omega)).1] at hv; cases hv; exact fits_lo8 _
  · rcases Nat.mod_two_eq_zero_or_one i with e | e
    · obtain ⟨j, rfl⟩ : ∃ j, i = 2 * j := ⟨i / 2, by omega⟩
      rw [(k2 j (by omega)).1] at hv; cases hv; exact fits_lo8 _
    · obtain ⟨j, rfl⟩ : ∃ j, i = 2 * j + 1 := ⟨i / 2, by omega⟩
      rw [(k2 j (by omega)).2] at hv; cases hv; exact fits_lo8 _
/-- the same text -/
def SameT (n : Nat) (f : Nat → Int32) (k : Nat) (g : Nat → Int32) : Prop := n = k ∧ ∀ j, j < n → f j = g j
theorem lo8_inj {x y : Int32} (h0 : ¬ x < 0) (h1 : ¬ 255 < x) (k0 : ¬ y < 0) (k1 : ¬ 255 < y) (h : lo8 x = lo8 y) : x = y := by
  rw [← lo8_mask h0 h1, ← lo8_mask k0 k1, h]
/-- arrays coded by one coder are equal just where the texts are -/
theorem Cod.eqv {cd : Int32} {n k : Nat} {f g : Nat → Int32} {V V' : Cell} (h : Cod cd n f V) (h' : Cod cd k g V') (hf : ∀ j, j < n → ¬ f j < 0 ∧ ¬ 65535 < f j) (hg : ∀ j, j < k → ¬ g j < 0 ∧ ¬ 65535 < g j) : EqC V V' ↔ SameT n f k g := by
  have yvv : ∀ {W : Cell} {i : Nat} {x : Int32}, W.slots[i]? = some (.int x) → yv W i = x := fun q => by unfold yv; rw [q]
  rcases h with ⟨rfl, k1, k2⟩ | ⟨rfl, k1, k2, -⟩
  · rcases h' with ⟨-, m1, m2⟩ | ⟨e, -⟩
    · constructor
      · rintro ⟨e1, e2⟩
        refine ⟨by omega, fun j hj => ?_⟩
        have q := e2 j (by omega)
        rw [yvv (k2 j hj).1, yvv (m2 j (by omega)).1] at q
        exact lo8_inj (hf j hj).1 (k2 j hj).2 (hg j (by omega)).1 (m2 j (by omega)).2 q
      · rintro ⟨rfl, e2⟩
        refine ⟨by omega, fun j hj => ?_⟩
        rw [yvv (k2 j (by omega)).1, yvv (m2 j (by omega)).1, e2 j (by omega)]
    · exact absurd e (by decide)
  · rcases h' with ⟨e, -⟩ | ⟨-, m1, m2, -⟩
    · exact absurd e (by decide)
    · constructor
      · rintro ⟨e1, e2⟩
        refine ⟨by omega, fun j hj => ?_⟩
        have q1 := e2 (2 * j) (by omega)
        have q2 := e2 (2 * j + 1) (by omega)
        rw [yvv (k2 j hj).1, yvv (m2 j (by omega)).1] at q1
        rw [yvv (k2 j hj).2, yvv (m2 j (by omega)).2] at q2
        rw [← pair_says (hf j hj).1 (hf j hj).2, ← pair_says (hg j (by omega)).1 (hg j (by omega)).2, q1, q2]
      · rintro ⟨rfl, e2⟩
        refine ⟨by omega, fun i hi => ?_⟩
        rcases Nat.mod_two_eq_zero_or_one i with e | e
        · obtain ⟨j, rfl⟩ : ∃ j, i = 2 * j := ⟨i / 2, by omega⟩
          rw [yvv (k2 j (by omega)).1, yvv (m2 j (by omega)).1, e2 j (by omega)]
        · obtain ⟨j, rfl⟩ : ∃ j, i = 2 * j + 1 := ⟨i / 2, by omega⟩
          rw [yvv (k2 j (by omega)).2, yvv (m2 j (by omega)).2, e2 j (by omega)]
/-- two codings differ: so do the texts -/
theorem Cod.dif {cd cd' : Int32} {n k : Nat} {f g : Nat → Int32} {V V' : Cell} (h : Cod cd n f V) (h' : Cod cd' k g V') (hne : ¬ cd = cd') : ¬ SameT n f k g := by
  rintro ⟨rfl, e⟩
  rcases h with ⟨rfl, -, k2⟩ | ⟨rfl, -, -, j, hj, hw⟩
  · rcases h' with ⟨rfl, -⟩ | ⟨-, -, -, j, hj, hw⟩
    · exact hne rfl
    · exact (k2 j hj).2 (by rw [e j hj]; exact hw)
  · rcases h' with ⟨-, -, m2⟩ | ⟨rfl, -⟩
    · exact (m2 j hj).2 (by rw [← e j hj]; exact hw)
    · exact hne rfl
/-- an object of exactly C is an instance of C -/
theorem cinst {p : Program} {l : Launch} {e : Env} {R : Room} {s : State} {m : MethodId} {args : Array Value} {below : List Frame} {meth : Method} {c : Code} {T : State} {locs : List Loc} {cells slots : Nat} (X : Stand p l e R s m args below meth c T locs cells slots) (hexec : p.tables.exec = Jvm.exec) {own C : String} {index : Nat} (hown : s.vm.findClass own = some m.cls) (hlink : (Cond.classLink own index C).before args s = true) {a : Addr} (hE : Exact C a T)
    {g : JFrame} (hg : g.method = m) {rest : List Value} (hstack : g.stack = .ref a :: rest) (hdg : decode c.code g.pc = .ok (.instanceof index, 3)) :
    ∃ T', Stand p l e R s m args below meth c T' locs cells slots ∧ T'.heap = T.heap ∧ ∀ target, Steps p.tables e below (T'.setTop { g with pc := g.pc + 3, stack := .int 1 :: rest }) target → Steps p.tables e below (T.setTop g) target := by
  obtain ⟨cB, h1, D, h2, h3, h4⟩ := hE
  have h1' : s.vm.findClass C = some cB := by rw [← X.warmed.alike.findClass]; exact h1
  obtain ⟨vm', X', st⟩ := X.instanceofYes hexec hown hlink h2 h4 h1' (by rw [h3]; exact Jvm.Free.SB.assignable_self _ _) hg hstack hdg
  exact ⟨_, X', rfl, st⟩
theorem cself {p : Program} {l : Launch} {e : Env} {R : Room} {s : State} {m : MethodId} {args : Array Value} {below : List Frame} {meth : Method} {c : Code} {T : State} {locs : List Loc} {cells slots : Nat} (X : Stand p l e R s m args below meth c T locs cells slots) (hexec : p.tables.exec = Jvm.exec) {own C : String} {index : Nat} (hown : s.vm.findClass own = some m.cls) (hlink : (Cond.classLink own index C).before args s = true) {a : Addr} (hE : Exact C a T)
    {g : JFrame} (hg : g.method = m) {rest : List Value} (hstack : g.stack = .ref a :: rest) (hdg : decode c.code g.pc = .ok (.checkcast index, 3)) :
    ∃ T', Stand p l e R s m args below meth c T' locs cells slots ∧ T'.heap = T.heap ∧ ∀ target, Steps p.tables e below (T'.setTop { g with pc := g.pc + 3, stack := .ref a :: rest }) target → Steps p.tables e below (T.setTop g) target := by
  obtain ⟨cB, h1, D, h2, h3, h4⟩ := hE
  have h1' : s.vm.findClass C = some cB := by rw [← X.warmed.alike.findClass]; exact h1
  obtain ⟨vm', X', st⟩ := X.checkcastYes hexec hown hlink h2 h4 h1' (by rw [h3]; exact Jvm.Free.SB.assignable_self _ _) hg hstack hdg
  exact ⟨_, X', rfl, fun t h => st t (by rw [← hstack] at h; exact h)⟩
namespace SEq
def yN : MethodName := ⟨"java/lang/String", "equals", "(Ljava/lang/Object;)Z"⟩
abbrev yB : ByteArray := jdk_42_method_66_code
theorem d0 : decode yB 0 = .ok (.aload_n 0, 1) := by decide +kernel
theorem d1 : decode yB 1 = .ok (.aload_n 1, 1) := by decide +kernel
theorem d2 : decode yB 2 = .ok (.if_acmp (.ne) 5, 3) := by decide +kernel
theorem d5 : decode yB 5 = .ok (.iconst 1, 1) := by decide +kernel
theorem d6 : decode yB 6 = .ok (.ireturn, 1) := by decide +kernel
theorem d7 : decode yB 7 = .ok (.aload_n 1, 1) := by decide +kernel
theorem d8 : decode yB 8 = .ok (.instanceof 10, 3) := by decide +kernel
theorem d11 : decode yB 11 = .ok (.ifCond (.eq) 43, 3) := by decide +kernel
theorem d14 : decode yB 14 = .ok (.aload_n 1, 1) := by decide +kernel
theorem d15 : decode yB 15 = .ok (.checkcast 10, 3) := by decide +kernel
theorem d18 : decode yB 18 = .ok (.astore_n 2, 1) := by decide +kernel
theorem d19 : decode yB 19 = .ok (.getstatic 38, 3) := by decide +kernel
theorem d22 : decode yB 22 = .ok (.ifCond (.eq) 14, 3) := by decide +kernel
theorem d25 : decode yB 25 = .ok (.aload_n 0, 1) := by decide +kernel
theorem d26 : decode yB 26 = .ok (.getfield 15, 3) := by decide +kernel
theorem d29 : decode yB 29 = .ok (.aload_n 2, 1) := by decide +kernel
theorem d30 : decode yB 30 = .ok (.getfield 15, 3) := by decide +kernel
theorem d33 : decode yB 33 = .ok (.if_icmp (.ne) 21, 3) := by decide +kernel
theorem d36 : decode yB 36 = .ok (.aload_n 0, 1) := by decide +kernel
theorem d37 : decode yB 37 = .ok (.getfield 9, 3) := by decide +kernel
theorem d40 : decode yB 40 = .ok (.aload_n 2, 1) := by decide +kernel
theorem d41 : decode yB 41 = .ok (.getfield 9, 3) := by decide +kernel
theorem d44 : decode yB 44 = .ok (.invokestatic 541, 3) := by decide +kernel
theorem d47 : decode yB 47 = .ok (.ifCond (.eq) 7, 3) := by decide +kernel
theorem d50 : decode yB 50 = .ok (.iconst 1, 1) := by decide +kernel
theorem d51 : decode yB 51 = .ok (.goto 4, 3) := by decide +kernel
theorem d54 : decode yB 54 = .ok (.iconst 0, 1) := by decide +kernel
theorem d55 : decode yB 55 = .ok (.ireturn, 1) := by decide +kernel
def site : List Cond := [.classLink "java/lang/String" 10 "java/lang/String", .fieldLink "java/lang/String" 38 "java/lang/String" "COMPACT_STRINGS" "Z", .fieldLink "java/lang/String" 15 "java/lang/String" "coder" "B", .fieldLink "java/lang/String" 9 "java/lang/String" "value" "[B", LEq.tab] ++ staticW "java/lang/String" 541 LEq.yN
def tab : Cond := tabOf yN yB 3 (some .boolean) site
def P (x t : Addr) (V : Cell) (cd : Int32) (n : Nat) (f : Nat → Int32) (y t' : Addr) (V' : Cell) (cd' : Int32) (k : Nat) (g : Nat → Int32) (z : Int32) (args : Array Value) (s : State) : Prop := args = #[.ref x, .ref y] ∧ Txt x t V cd n f s ∧ Txt y t' V' cd' k g s ∧ StaticIs s "java/lang/String" "COMPACT_STRINGS" "Z" (.int z) ∧ ¬ z = 0
/-- equals(Object) of two Strings: whether the texts are the same -/
theorem law (l : Launch) (x t : Addr) (V : Cell) (cd : Int32) (n : Nat) (f : Nat → Int32) (y t' : Addr) (V' : Cell) (cd' : Int32) (k : Nat) (g : Nat → Int32) (z : Int32) : Law l yN 2 1 1 14 yB 3 (some .boolean) site (P x t V cd n f y t' V' cd' k g z) (Says01 (SameT n f k g)) [] 0 0 := by
  refine Law.of_walk (plainFor_of_name (by decide +kernel)) (by decide +kernel) (by decide +kernel) (by decide) (fun _ _ h => by rw [h.1]; rfl) (fun _ U U' hal hh h => ⟨h.1, h.2.1.mv hal hh, h.2.2.1.mv hal hh, h.2.2.2.1.there hal hh, h.2.2.2.2⟩) (fun r U U' V V' h1 hal h2 h => Says01.mv r U U' V V' h1 hal h2 h) ?_
  intro p e s m args below meth c s₁ X0 hexec hbytes hml hret hlk hnm hown hh0 W hP
  obtain ⟨rfl, hx, hy, s1, hz⟩ := hP
  have c1 : Steps p.tables e below (s₁.setTop (entryFrame m #[.ref x, .ref y] 3)) (s₁.setTop (mkF m 2 #[.val (.ref x), .val (.ref y), .unset] [.ref y, .ref x])) := Steps.trans (entry rfl) (by
    show Steps p.tables e below (s₁.setTop (mkF m 0 #[.val (.ref x), .val (.ref y), .unset] [])) _
    refine XS.aloadN X0.here hexec rfl (hb hbytes d0) rfl rfl ?_
    refine XS.aloadN X0.here hexec rfl (hb hbytes d1) rfl rfl ?_
    exact Steps.refl _)
  by_cases hxy : x = y
  · have c2 : Steps p.tables e below (s₁.setTop (entryFrame m #[.ref x, .ref y] 3)) (s₁.setTop (mkF m 6 #[.val (.ref x), .val (.ref y), .unset] [.int 1])) := c1.trans (by
      refine acmpNo X0.here hexec rfl (hb hbytes d2) rfl rfl rfl (by simp [acmp, hxy]) ?_
      refine iconstV X0.here hexec rfl 1 (hb hbytes d5) (by decide) ?_
      exact Steps.refl _)
    subst hxy
    have ec : cd = cd' := by
      obtain ⟨D, fd, a1, a2, a3⟩ := hx.2.2.1
      obtain ⟨D', fd', b1, b2, b3⟩ := hy.2.2.1
      cases a1.symm.trans b1
      obtain ⟨q1, q2, q3, q4⟩ := a2.1
      obtain ⟨r1, r2, r3, r4⟩ := b2.1
      cases q4.symm.trans r4
      cases a3.symm.trans b3; rfl
    have et : t = t' := by
      obtain ⟨D, fd, a1, a2, a3⟩ := hx.2.1
      obtain ⟨D', fd', b1, b2, b3⟩ := hy.2.1
      cases a1.symm.trans b1
      obtain ⟨q1, q2, q3, q4⟩ := a2.1
      obtain ⟨r1, r2, r3, r4⟩ := b2.1
      cases q4.symm.trans r4
      cases a3.symm.trans b3; rfl
    subst ec et
    have ev : V = V' := by cases hx.2.2.2.1.1.symm.trans hy.2.2.2.1.1; rfl
    subst ev
    have hs : SameT n f k g := (Cod.eqv hx.2.2.2.2.1 hy.2.2.2.2.1 hx.2.2.2.2.2 hy.2.2.2.2.2).mp ⟨rfl, fun _ _ => rfl⟩
    exact ⟨s₁, some (.int 1), _, _, _, X0, rfl, rfl, rfl, (fun h => by cases h), ⟨1, rfl, hh0, Or.inl ⟨rfl, hs⟩⟩, fun fs hl => c2.trans (X0.ireturnOut hexec hret rfl (Or.inr (Or.inl rfl)) (hb hbytes d6) hl)⟩
  · have c2 : Steps p.tables e below (s₁.setTop (entryFrame m #[.ref x, .ref y] 3)) (s₁.setTop (mkF m 8 #[.val (.ref x), .val (.ref y), .unset] [.ref y])) := c1.trans (by
      refine acmpYes X0.here hexec rfl (pc0 := 2) rfl (hb hbytes d2) rfl rfl rfl (by simp [acmp, hxy]) (by decide) rfl ?_
      refine XS.aloadN X0.here hexec rfl (hb hbytes d7) rfl rfl ?_
      exact Steps.refl _)
    obtain ⟨T3, X3, q3, st3⟩ := cinst X0 hexec hown (wk W (.classLink "java/lang/String" 10 "java/lang/String")) (hy.mv X0.warmed.alike hh0).1 (g := (mkF m 8 #[.val (.ref x), .val (.ref y), .unset] [.ref y])) rfl (rest := []) rfl (hb hbytes d8)
    have hh3 := q3.trans hh0
    have c4 : Steps p.tables e below (s₁.setTop (entryFrame m #[.ref x, .ref y] 3)) (T3.setTop (mkF m 15 #[.val (.ref x), .val (.ref y), .unset] [.ref y])) := (c2.trans (st3 _ (Steps.refl _))).trans (by
      refine XS.ifNo X3.here hexec rfl (hb hbytes d11) rfl (i0_eq_f (by decide)) ?_
      refine XS.aloadN X3.here hexec rfl (hb hbytes d14) rfl rfl ?_
      exact Steps.refl _)
    obtain ⟨T5, X5, q5, st5⟩ := cself X3 hexec hown (wk W (.classLink "java/lang/String" 10 "java/lang/String")) (hy.mv X3.warmed.alike hh3).1 (g := (mkF m 15 #[.val (.ref x), .val (.ref y), .unset] [.ref y])) rfl (rest := []) rfl (hb hbytes d15)
    have hh5 := q5.trans hh3
    have c6 : Steps p.tables e below (s₁.setTop (entryFrame m #[.ref x, .ref y] 3)) (T5.setTop (mkF m 19 #[.val (.ref x), .val (.ref y), .val (.ref y)] [])) := (c4.trans (st5 _ (Steps.refl _))).trans (by
      refine XS.astoreN X5.here hexec rfl (hb hbytes d18) rfl rfl rfl ?_
      exact Steps.refl _)
    obtain ⟨T7, X7, q7, st7⟩ := X5.sget hexec hown (wk W (.fieldLink "java/lang/String" 38 "java/lang/String" "COMPACT_STRINGS" "Z")) s1 (fun _ _ h => by rw [hh5]; exact h) (g := (mkF m 19 #[.val (.ref x), .val (.ref y), .val (.ref y)] [])) rfl (hb hbytes d19)
    have hh7 := q7.trans hh5
    have c8 : Steps p.tables e below (s₁.setTop (entryFrame m #[.ref x, .ref y] 3)) (T7.setTop (mkF m 26 #[.val (.ref x), .val (.ref y), .val (.ref y)] [.ref x])) := (c6.trans (st7 _ (Steps.refl _))).trans (by
      refine XS.ifNo X7.here hexec rfl (hb hbytes d22) rfl (i0_eq_f hz) ?_
      refine XS.aloadN X7.here hexec rfl (hb hbytes d25) rfl rfl ?_
      exact Steps.refl _)
    obtain ⟨T9, X9, q9, st9⟩ := X7.hget hexec hown (wk W (.fieldLink "java/lang/String" 15 "java/lang/String" "coder" "B")) (hx.mv X7.warmed.alike hh7).2.2.1 (g := (mkF m 26 #[.val (.ref x), .val (.ref y), .val (.ref y)] [.ref x])) rfl (rest := []) rfl (hb hbytes d26)
    have hh9 := q9.trans hh7
    have c10 : Steps p.tables e below (s₁.setTop (entryFrame m #[.ref x, .ref y] 3)) (T9.setTop (mkF m 30 #[.val (.ref x), .val (.ref y), .val (.ref y)] [.ref y, .int cd])) := (c8.trans (st9 _ (Steps.refl _))).trans (by
      refine XS.aloadN X9.here hexec rfl (hb hbytes d29) rfl rfl ?_
      exact Steps.refl _)
    obtain ⟨T11, X11, q11, st11⟩ := X9.hget hexec hown (wk W (.fieldLink "java/lang/String" 15 "java/lang/String" "coder" "B")) (hy.mv X9.warmed.alike hh9).2.2.1 (g := (mkF m 30 #[.val (.ref x), .val (.ref y), .val (.ref y)] [.ref y, .int cd])) rfl (rest := [.int cd]) rfl (hb hbytes d30)
    have hh11 := q11.trans hh9
    have c12 : Steps p.tables e below (s₁.setTop (entryFrame m #[.ref x, .ref y] 3)) (T11.setTop (mkF m 33 #[.val (.ref x), .val (.ref y), .val (.ref y)] [.int cd', .int cd])) := c10.trans (st11 _ (Steps.refl _))
    by_cases hcd : cd = cd'
    · subst hcd
      have c13 : Steps p.tables e below (s₁.setTop (entryFrame m #[.ref x, .ref y] 3)) (T11.setTop (mkF m 37 #[.val (.ref x), .val (.ref y), .val (.ref y)] [.ref x])) := c12.trans (by
        refine XS.icmpNo X11.here hexec rfl (hb hbytes d33) rfl (ii_ne_f rfl) ?_
        refine XS.aloadN X11.here hexec rfl (hb hbytes d36) rfl rfl ?_
        exact Steps.refl _)
      obtain ⟨T14, X14, q14, st14⟩ := X11.hget hexec hown (wk W (.fieldLink "java/lang/String" 9 "java/lang/String" "value" "[B")) (hx.mv X11.warmed.alike hh11).2.1 (g := (mkF m 37 #[.val (.ref x), .val (.ref y), .val (.ref y)] [.ref x])) rfl (rest := []) rfl (hb hbytes d37)
      have hh14 := q14.trans hh11
      have c15 : Steps p.tables e below (s₁.setTop (entryFrame m #[.ref x, .ref y] 3)) (T14.setTop (mkF m 41 #[.val (.ref x), .val (.ref y), .val (.ref y)] [.ref y, .ref t])) := (c13.trans (st14 _ (Steps.refl _))).trans (by
        refine XS.aloadN X14.here hexec rfl (hb hbytes d40) rfl rfl ?_
        exact Steps.refl _)
      obtain ⟨T16, X16, q16, st16⟩ := X14.hget hexec hown (wk W (.fieldLink "java/lang/String" 9 "java/lang/String" "value" "[B")) (hy.mv X14.warmed.alike hh14).2.1 (g := (mkF m 41 #[.val (.ref x), .val (.ref y), .val (.ref y)] [.ref y, .ref t])) rfl (rest := [.ref t]) rfl (hb hbytes d41)
      have hh16 := q16.trans hh14
      have c17 : Steps p.tables e below (s₁.setTop (entryFrame m #[.ref x, .ref y] 3)) (T16.setTop (mkF m 44 #[.val (.ref x), .val (.ref y), .val (.ref y)] [.ref t', .ref t])) := c15.trans (st16 _ (Steps.refl _))
      obtain ⟨v18, T18, X18, E18, g18⟩ := X16.callS hexec (LEq.law l t V t' V') hown (wks W (staticW "java/lang/String" 541 LEq.yN)) (wk W LEq.tab) (W := 0) (Nat.le_of_ble_eq_true rfl) (Nat.le_of_ble_eq_true rfl) (Nat.le_refl _) (Nat.le_refl _) (g := (mkF m 44 #[.val (.ref x), .val (.ref y), .val (.ref y)] [.ref t', .ref t])) rfl (by rw [hml]; rfl) c17 (argsL := [.ref t, .ref t']) (rest := []) rfl rfl (by show 2 * 0 + 0 ≤ _; decide) (hb hbytes d44) (⟨rfl, hx.2.2.2.1.mv X16.warmed.alike hh16, hx.2.2.2.2.1.ty, hy.2.2.2.1.mv X16.warmed.alike hh16, hy.2.2.2.2.1.ty⟩)
      obtain ⟨v, rfl, q18, hv⟩ := E18
      have iff := Cod.eqv hx.2.2.2.2.1 hy.2.2.2.2.1 hx.2.2.2.2.2 hy.2.2.2.2.2
      rcases hv with ⟨rfl, he⟩ | ⟨rfl, he⟩
      · have c19 : Steps p.tables e below (s₁.setTop (entryFrame m #[.ref x, .ref y] 3)) (T18.setTop (mkF m 55 #[.val (.ref x), .val (.ref y), .val (.ref y)] [.int 1])) := Steps.trans g18 (by
          refine XS.ifNo X18.here hexec rfl (hb hbytes d47) rfl (i0_eq_f (by decide)) ?_
          refine iconstV X18.here hexec rfl 1 (hb hbytes d50) (by decide) ?_
          refine XS.goto X18.here hexec rfl (pc0 := 51) rfl (hb hbytes d51) (by decide) rfl ?_
          exact Steps.refl _)
        exact ⟨T18, some (.int 1), _, _, _, X18, rfl, rfl, rfl, (fun h => by cases h), ⟨1, rfl, q18.trans hh16, Or.inl ⟨rfl, iff.mp he⟩⟩, fun fs hl => c19.trans (X18.ireturnOut hexec hret rfl (Or.inr (Or.inl rfl)) (hb hbytes d55) hl)⟩
      · have c19 : Steps p.tables e below (s₁.setTop (entryFrame m #[.ref x, .ref y] 3)) (T18.setTop (mkF m 55 #[.val (.ref x), .val (.ref y), .val (.ref y)] [.int 0])) := Steps.trans g18 (by
          refine XS.ifYes X18.here hexec rfl (pc0 := 47) rfl (hb hbytes d47) rfl (i0_eq_t rfl) (by decide) rfl ?_
          refine iconstV X18.here hexec rfl 0 (hb hbytes d54) (by decide) ?_
          exact Steps.refl _)
        exact ⟨T18, some (.int 0), _, _, _, X18, rfl, rfl, rfl, (fun h => by cases h), ⟨0, rfl, q18.trans hh16, Or.inr ⟨rfl, fun q => he (iff.mpr q)⟩⟩, fun fs hl => c19.trans (X18.ireturnOut hexec hret rfl (Or.inr (Or.inl rfl)) (hb hbytes d55) hl)⟩
    · have c13 : Steps p.tables e below (s₁.setTop (entryFrame m #[.ref x, .ref y] 3)) (T11.setTop (mkF m 55 #[.val (.ref x), .val (.ref y), .val (.ref y)] [.int 0])) := c12.trans (by
        refine XS.icmpYes X11.here hexec rfl (pc0 := 33) rfl (hb hbytes d33) rfl (ii_ne_t hcd) (by decide) rfl ?_
        refine iconstV X11.here hexec rfl 0 (hb hbytes d54) (by decide) ?_
        exact Steps.refl _)
      exact ⟨T11, some (.int 0), _, _, _, X11, rfl, rfl, rfl, (fun h => by cases h), ⟨0, rfl, hh11, Or.inr ⟨rfl, Cod.dif hx.2.2.2.2.1 hy.2.2.2.2.1 hcd⟩⟩, fun fs hl => c13.trans (X11.ireturnOut hexec hret rfl (Or.inr (Or.inl rfl)) (hb hbytes d55) hl)⟩
theorem pays {l : Launch} {R : Room} {p : Program} {e : Env} {below : List Frame} {s : State} {sargs : Array Value} {len W : Nat} (x t : Addr) (V : Cell) (cd : Int32) (n : Nat) (f : Nat → Int32) (y t' : Addr) (V' : Cell) (cd' : Int32) (k : Nat) (g : Nat → Int32) (z : Int32) (htab : tab.before sargs s = true) (hfr : 2 ≤ R.frames) (hlo : W + 28 ≤ R.locals) :
    Back l R p e below s sargs yN len W (fun A₁ a₁ => A₁.cells + 0 ≤ R.cells ∧ A₁.slots + 0 ≤ R.slots ∧ P x t V cd n f y t' V' cd' k g z a₁ A₁.U) (fun A₁ _ v₁ B₁ => Says01 (SameT n f k g) v₁ A₁.U B₁.U ∧ B₁.locs = A₁.locs ++ [] ∧ B₁.cells = A₁.cells + 0 ∧ B₁.slots = A₁.slots + 0) :=
  (law l x t V cd n f y t' V' cd' k g z).pays htab hfr (by omega)
end SEq
end StrChars
namespace StrChars.Road
open Jvm Sem ClassFile Op Lib Jvm.Stand Jvm.Free Jvm.Free.XT
open Jvm.Lib.Cold (StaticIs)
/-- the words of String.equals(Object) -/
abbrev wordsEq : List Jvm.Cond := [.code SEq.yN SEq.yB 3 (some .boolean), .initialized ST, .classLink ST 10 ST, .fieldLink ST 38 ST "COMPACT_STRINGS" "Z", .fieldLink ST 15 ST "coder" "B", .fieldLink ST 9 ST "value" "[B", .methodLink ST 541 LEq.yN, .static LEq.yN, .code LEq.yN LEq.yB 3 (some .boolean), .initialized "java/lang/StringLatin1"]
theorem tabEq_of {a : Array Value} {s : State} (h : ∀ w ∈ wordsEq, w.before a s = true) : SEq.tab.before a s = true := by
  have hl : LEq.tab.before a s = true := unparts (wk h (.code LEq.yN LEq.yB 3 (some .boolean))) (wks h (.initialized LEq.yN.cls :: LEq.site))
  have q := consq hl h
  exact unparts (wk q (.code SEq.yN SEq.yB 3 (some .boolean))) (wks q (.initialized SEq.yN.cls :: SEq.site))
theorem movedEq {Z s : State} {a0 args : Array Value} (hZ : Z.Warmed39 s.vm) (hw : ∀ d ∈ wordsEq, d.before a0 Z = true) : ∀ d ∈ wordsEq, d.before args s = true := fun d hd => by
  have t : ∀ d ∈ wordsEq, (d.onTables && d.keepsFace) = true := by decide +kernel
  exact RoadKit.mv hZ (hw d hd) (t d hd)
/-- the road's facts of a String, as the laws ask it -/
theorem txt_of {Z U : State} {a0 : Array Value} {kI : Nat} (wi : (Jvm.Cond.instantiable ST kI).before a0 Z = true) (al : Z.vm.Alike U.vm) {x t : Addr} {kb : ClassId} {cs : List Int32} {cd N2 : Int32} {vs : List Value} (E : RoadKit.Exa Z U.heap x ST) (V : RoadKit.Fld Z U.heap x ST "value" "[B" (.ref t)) (C : RoadKit.Fld Z U.heap x ST "coder" "B" (.int cd)) (K : RoadKit.Arv Z U.heap t kb .byte N2 vs (.int 0)) (hc : CodA cs cd N2 vs) (hb : ∀ c ∈ cs, ¬ c < 0 ∧ ¬ (65535 : Int32) < c) (l2 : cs.length ≤ 4000) :
    ∃ A, Txt x t A cd cs.length (fun j => cs.getD j 0) U := by
  obtain ⟨A, K1, K2, K3, K4, K5, K6⟩ := K
  have hcod := hc.cod (by omega) K3 K5
  obtain ⟨D, fV, fC, hB, F1, F2, g1, g2, -, -⟩ := strObj wi al E V C
  exact ⟨A, ⟨_, hB.2.2.1, D, hB.1, rfl, by cases q : D.vm <;> first | rfl | exact absurd q (hB.2.1.2 _)⟩, Has.of hB F1 g1, Has.of hB F2 g2, ⟨K1.1, State.isArrayOf_alike al K1.2.1, K1.2.2, by rcases hcod with ⟨-, q, -⟩ | ⟨-, q, -⟩ <;> omega⟩, hcod, fun j hj => by
    have e : cs.getD j 0 = cs[j] := by simp [List.getD_eq_getElem?_getD, hj]
    show ¬ cs.getD j 0 < 0 ∧ ¬ 65535 < cs.getD j 0
    rw [e]; exact hb _ (List.getElem_mem _)⟩
theorem same_list (cs ds : List Int32) : SameT cs.length (fun j => cs.getD j 0) ds.length (fun j => ds.getD j 0) ↔ cs = ds := by
  constructor
  · rintro ⟨e, q⟩
    refine List.ext_getElem e fun j h1 h2 => ?_
    have := q j h1
    simpa [List.getD_eq_getElem?_getD, h1, h2] using this
  · rintro rfl
    exact ⟨rfl, fun _ _ => rfl⟩
/-- **equals(Object) OF TWO SUCH STRINGS**: 1 just where the chars are the same -/
theorem eqW {p : Program} {l : Launch} {e : Env} {R : Room} {s : State} {args : Array Value} {below : List Frame} {len W : Nat} {Z : State} {a0 : Array Value} {h : Heap} (hZ : Z.Warmed39 s.vm) (hw : ∀ d ∈ wordsEq, d.before a0 Z = true) {kI : Nat} (wi : (Jvm.Cond.instantiable ST kI).before a0 Z = true)
    {x t : Addr} {kb : ClassId} {cs : List Int32} {cd N2 : Int32} {vs : List Value} (E : RoadKit.Exa Z h x ST) (V : RoadKit.Fld Z h x ST "value" "[B" (.ref t)) (C : RoadKit.Fld Z h x ST "coder" "B" (.int cd)) (K : RoadKit.Arv Z h t kb .byte N2 vs (.int 0)) (hc : CodA cs cd N2 vs) (hb : ∀ c ∈ cs, ¬ c < 0 ∧ ¬ (65535 : Int32) < c) (l2 : cs.length ≤ 4000)
    {y t' : Addr} {kb' : ClassId} {ds : List Int32} {cd' N2' : Int32} {vs' : List Value} (E' : RoadKit.Exa Z h y ST) (V' : RoadKit.Fld Z h y ST "value" "[B" (.ref t')) (C' : RoadKit.Fld Z h y ST "coder" "B" (.int cd')) (K' : RoadKit.Arv Z h t' kb' .byte N2' vs' (.int 0)) (hc' : CodA ds cd' N2' vs') (hb' : ∀ c ∈ ds, ¬ c < 0 ∧ ¬ (65535 : Int32) < c) (l2' : ds.length ≤ 4000)
    {z : Int32} (S : RoadKit.Sta Z h ST "COMPACT_STRINGS" "Z" (.int z)) (hz : ¬ z = 0) (hfr : 2 ≤ R.frames) (hlo : W + 28 ≤ R.locals) :
    Back l R p e below s args (⟨"java/lang/String", "equals", "(Ljava/lang/Object;)Z"⟩ : MethodName) len W (fun P a => a = #[.ref x, .ref y] ∧ P.U.heap = h ∧ P.cells + 0 ≤ R.cells ∧ P.slots + 0 ≤ R.slots)
      (fun P _ v B => ∃ L, (((v = some (.int 1) ∧ cs = ds) ∨ (v = some (.int 0) ∧ ¬ cs = ds)) ∧ L = [] ∧ B.U.heap = h) ∧ B.locs = P.locs ++ L ∧ B.cells = P.cells + 0 ∧ B.slots = P.slots + 0) := by
  intro m meth c P g ig mk a X hg hsize hdg hW hn hp'
  obtain ⟨rfl, rfl, r1, r2⟩ := hp'
  have al : Z.vm.Alike P.U.vm := hZ.alike.trans X.warmed.alike
  obtain ⟨A, hx⟩ := txt_of wi al E V C K hc hb l2
  obtain ⟨A', hy⟩ := txt_of wi al E' V' C' K' hc' hb' l2'
  obtain ⟨v, B, X', ⟨⟨w, hv, hh, hq⟩, hl, hk, hs⟩, st⟩ := SEq.pays x t A cd cs.length (fun j => cs.getD j 0) y t' A' cd' ds.length (fun j => ds.getD j 0) z (tabEq_of (movedEq hZ hw)) hfr hlo m meth c P g ig mk _ X hg hsize hdg hW hn ⟨r1, r2, rfl, hx, hy, sta_is al S, hz⟩
  refine ⟨v, B, X', ⟨[], ⟨?_, rfl, hh⟩, hl, hk, hs⟩, st⟩
  rcases hq with ⟨rfl, q⟩ | ⟨rfl, q⟩
  · exact Or.inl ⟨hv, (same_list cs ds).mp q⟩
  · exact Or.inr ⟨hv, fun e => q ((same_list cs ds).mpr e)⟩
end StrChars.Road
namespace StrChars
open Jvm Sem ClassFile Op Lib Jvm.Stand Jvm.Free.XT Jvm.Free.ALB Jvm.Free.JM Jvm.Free
open Jvm.Lib.Cold (StaticIs)
namespace ChN
def yN : MethodName := ⟨"java/lang/String", "charAt", "(I)C"⟩
abbrev yB : ByteArray := jdk_42_method_56_code
theorem d0 : decode yB 0 = .ok (.aload_n 0, 1) := by decide +kernel
theorem d1 : decode yB 1 = .ok (.invokevirtual 492, 3) := by decide +kernel
theorem d4 : decode yB 4 = .ok (.ifCond (.eq) 12, 3) := by decide +kernel
theorem d7 : decode yB 7 = .ok (.aload_n 0, 1) := by decide +kernel
theorem d8 : decode yB 8 = .ok (.getfield 9, 3) := by decide +kernel
theorem d11 : decode yB 11 = .ok (.iload_n 1, 1) := by decide +kernel
theorem d12 : decode yB 12 = .ok (.invokestatic 495, 3) := by decide +kernel
theorem d15 : decode yB 15 = .ok (.ireturn, 1) := by decide +kernel
def site : List Cond := [.fieldLink "java/lang/String" 9 "java/lang/String" "value" "[B", IsL.tab, LChA.tab] ++ virtW "java/lang/String" 492 "java/lang/String" IsL.yN IsL.yN ++ staticW "java/lang/String" 495 LChA.yN
def tab : Cond := tabOf yN yB 2 (some .char) site
def P (x t : Addr) (V : Cell) (n : Nat) (f : Nat → Int32) (z : Int32) (fm : Value) (i : Nat) (args : Array Value) (s : State) : Prop := args = #[.ref x, .int (Int32.ofNat i)] ∧ Txt x t V 0 n f s ∧ i < n ∧ StaticIs s "java/lang/String" "COMPACT_STRINGS" "Z" (.int z) ∧ ¬ z = 0 ∧ StaticIs s "jdk/internal/util/Preconditions" "SIOOBE_FORMATTER" "Ljava/util/function/BiFunction;" fm ∧ fm.isRef = true
def E (f : Nat → Int32) (i : Nat) (r : Option Value) (s u : State) : Prop := XT.PureE (some (.int (f i))) r s u
/-- charAt(i) of a Latin-1 String of n chars, i < n: f i -/
theorem law (l : Launch) (x t : Addr) (V : Cell) (n : Nat) (f : Nat → Int32) (z : Int32) (fm : Value) (i : Nat) : Law l yN 2 1 3 40 yB 2 (some .char) site (P x t V n f z fm i) (E f i) [] 0 0 := by
  refine Law.of_walk (plainFor_of_name (by decide +kernel)) (by decide +kernel) (by decide +kernel) (by decide) (fun _ _ h => by rw [h.1]; rfl) (fun _ U U' hal hh h => ⟨h.1, h.2.1.mv hal hh, h.2.2.1, h.2.2.2.1.there hal hh, h.2.2.2.2.1, h.2.2.2.2.2.1.there hal hh, h.2.2.2.2.2.2⟩) (fun r U U' V V' h1 hal h2 h => XT.PureE.mv r U U' V V' h1 hal h2 h) ?_
  intro p e s m args below meth c s₁ X0 hexec hbytes hml hret hlk hnm hown hh0 W hP
  obtain ⟨rfl, hx, hi, s1, hz, s3, rf⟩ := hP
  have v31 := hx.2.2.2.1.2.2.2
  have hr := hx.2.2.2.2.2 i hi
  have hx0 := hx.mv X0.warmed.alike hh0
  have c1 : Steps p.tables e below (s₁.setTop (entryFrame m #[.ref x, .int (Int32.ofNat i)] 2)) (s₁.setTop (mkF m 1 #[.val (.ref x), .val (.int (Int32.ofNat i))] [.ref x])) := Steps.trans (entry rfl) (by
    show Steps p.tables e below (s₁.setTop (mkF m 0 #[.val (.ref x), .val (.int (Int32.ofNat i))] [])) _
    refine XS.aloadN X0.here hexec rfl (hb hbytes d0) rfl rfl ?_
    exact Steps.refl _)
  obtain ⟨v2, T2, X2, E2, g2⟩ := X0.callV hexec (IsL.law l x 0 z) hown (wks W (virtW "java/lang/String" 492 "java/lang/String" IsL.yN IsL.yN)) rfl (by decide) (wk W IsL.tab) (W := 0) (Nat.le_of_ble_eq_true rfl) (Nat.le_of_ble_eq_true rfl) (Nat.le_refl _) (Nat.le_refl _) (hx0.1.fc X0.warmed.alike) hx0.1.is (g := (mkF m 1 #[.val (.ref x), .val (.int (Int32.ofNat i))] [.ref x])) rfl (by rw [hml]; rfl) c1 (argsL := []) (rest := []) rfl rfl (by show 2 * 0 + 0 ≤ _; decide) (hb hbytes d1) (⟨rfl, hx0.2.2.1, hx.2.2.2.2.1.cd, s1.there X0.warmed.alike hh0, hz⟩)
  obtain ⟨rfl, q2⟩ := E2
  have hh2 := q2.trans hh0
  have hx2 := hx.mv X2.warmed.alike hh2
  obtain ⟨-, k1, k2⟩ | ⟨k0, -⟩ := hx.2.2.2.2.1
  · have c3 : Steps p.tables e below (s₁.setTop (entryFrame m #[.ref x, .int (Int32.ofNat i)] 2)) (T2.setTop (mkF m 8 #[.val (.ref x), .val (.int (Int32.ofNat i))] [.ref x])) := Steps.trans g2 (by
      refine XS.ifNo X2.here hexec rfl (hb hbytes d4) rfl (i0_eq_f (by decide)) ?_
      refine XS.aloadN X2.here hexec rfl (hb hbytes d7) rfl rfl ?_
      exact Steps.refl _)
    obtain ⟨T4, X4, q4, st4⟩ := X2.hget hexec hown (wk W (.fieldLink "java/lang/String" 9 "java/lang/String" "value" "[B")) hx2.2.1 (g := (mkF m 8 #[.val (.ref x), .val (.int (Int32.ofNat i))] [.ref x])) rfl (rest := []) rfl (hb hbytes d8)
    have hh4 := q4.trans hh2
    have c5 : Steps p.tables e below (s₁.setTop (entryFrame m #[.ref x, .int (Int32.ofNat i)] 2)) (T4.setTop (mkF m 12 #[.val (.ref x), .val (.int (Int32.ofNat i))] [.int (Int32.ofNat i), .ref t])) := (c3.trans (st4 _ (Steps.refl _))).trans (by
      refine XS.iloadN X4.here hexec rfl (hb hbytes d11) rfl ?_
      exact Steps.refl _)
    obtain ⟨v6, T6, X6, E6, g6⟩ := X4.callS hexec (LChA.law l t V i (lo8 (f i)) fm) hown (wks W (staticW "java/lang/String" 495 LChA.yN)) (wk W LChA.tab) (W := 0) (Nat.le_of_ble_eq_true rfl) (Nat.le_of_ble_eq_true rfl) (Nat.le_refl _) (Nat.le_refl _) (g := (mkF m 12 #[.val (.ref x), .val (.int (Int32.ofNat i))] [.int (Int32.ofNat i), .ref t])) rfl (by rw [hml]; rfl) c5 (argsL := [.ref t, .int (Int32.ofNat i)]) (rest := []) rfl rfl (by show 2 * 0 + 0 ≤ _; decide) (hb hbytes d12) (⟨rfl, hx.2.2.2.1.mv X4.warmed.alike hh4, (k2 i hi).1, s3.there X4.warmed.alike hh4, rf⟩)
    obtain ⟨rfl, q6⟩ := E6
    rw [chr8_lo8 hr.1 (k2 i hi).2] at g6
    exact ⟨T6, some (.int (f i)), _, _, _, X6, rfl, rfl, rfl, (fun h => by cases h), ⟨rfl, q6.trans hh4⟩, fun fs hl => Steps.trans g6 (X6.ireturnOut hexec hret (narrow_ch hr.1 hr.2) (Or.inr (Or.inr (Or.inr (Or.inl rfl)))) (hb hbytes d15) hl)⟩
  · exact absurd k0 (by decide)
theorem pays {l : Launch} {R : Room} {p : Program} {e : Env} {below : List Frame} {s : State} {sargs : Array Value} {len W : Nat} (x t : Addr) (V : Cell) (n : Nat) (f : Nat → Int32) (z : Int32) (fm : Value) (i : Nat) (htab : tab.before sargs s = true) (hfr : 4 ≤ R.frames) (hlo : W + 53 ≤ R.locals) :
    Back l R p e below s sargs yN len W (fun A₁ a₁ => A₁.cells + 0 ≤ R.cells ∧ A₁.slots + 0 ≤ R.slots ∧ P x t V n f z fm i a₁ A₁.U) (fun A₁ _ v₁ B₁ => E f i v₁ A₁.U B₁.U ∧ B₁.locs = A₁.locs ++ [] ∧ B₁.cells = A₁.cells + 0 ∧ B₁.slots = A₁.slots + 0) :=
  (law l x t V n f z fm i).pays htab hfr (by omega)
end ChN
end StrChars
namespace StrChars.Road
open Jvm Sem ClassFile Op Lib Jvm.Stand Jvm.Free Jvm.Free.XT
open Jvm.Lib.Cold (StaticIs)
/-- the words of String.charAt(int), the Latin-1 road alone -/
abbrev wordsChN : List Jvm.Cond := [.code ChN.yN ChN.yB 2 (some .char), .initialized ST, .fieldLink ST 9 ST "value" "[B", .fieldLink ST 38 ST "COMPACT_STRINGS" "Z", .fieldLink ST 15 ST "coder" "B", .code IsL.yN IsL.yB 1 (some .boolean), .methodLink ST 492 IsL.yN, .declares IsL.yN, .selects ST IsL.yN IsL.yN, .instanceMethod IsL.yN,
  .methodLink ST 495 LChA.yN, .static LChA.yN, .code LChA.yN LChA.yB 2 (some .char), .initialized "java/lang/StringLatin1", .methodLink "java/lang/StringLatin1" 9 JO.Str_checkIndex.yN, .static JO.Str_checkIndex.yN, .code JO.Str_checkIndex.yN JO.Str_checkIndex.yB 2 none,
  .fieldLink ST 1053 "jdk/internal/util/Preconditions" "SIOOBE_FORMATTER" "Ljava/util/function/BiFunction;", .methodLink ST 1059 JC.PreCheck.yN, .static JC.PreCheck.yN, .code JC.PreCheck.yN JC.PreCheck.yB 3 (some .int), .initialized "jdk/internal/util/Preconditions"]
theorem tabChN_of {a : Array Value} {s : State} (h : ∀ w ∈ wordsChN, w.before a s = true) : ChN.tab.before a s = true := by
  have hp : JC.PreCheck.tab.before a s = true := unparts (wk h (.code JC.PreCheck.yN JC.PreCheck.yB 3 (some .int))) (wks h (.initialized JC.PreCheck.yN.cls :: JC.PreCheck.site))
  have qk := consq hp h
  have hk : JO.Str_checkIndex.tab.before a s = true := unparts (wk qk (.code JO.Str_checkIndex.yN JO.Str_checkIndex.yB 2 none)) (wks qk (.initialized JO.Str_checkIndex.yN.cls :: JO.Str_checkIndex.site))
  have ql := consq hk h
  have hl : LChA.tab.before a s = true := unparts (wk ql (.code LChA.yN LChA.yB 2 (some .char))) (wks ql (.initialized LChA.yN.cls :: LChA.site))
  have hi : IsL.tab.before a s = true := unparts (wk h (.code IsL.yN IsL.yB 1 (some .boolean))) (wks h (.initialized IsL.yN.cls :: IsL.site))
  have q := consq hi (consq hl h)
  exact unparts (wk q (.code ChN.yN ChN.yB 2 (some .char))) (wks q (.initialized ChN.yN.cls :: ChN.site))
theorem movedChN {Z s : State} {a0 args : Array Value} (hZ : Z.Warmed39 s.vm) (hw : ∀ d ∈ wordsChN, d.before a0 Z = true) : ∀ d ∈ wordsChN, d.before args s = true := fun d hd => by
  have t : ∀ d ∈ wordsChN, (d.onTables && d.keepsFace) = true := by decide +kernel
  exact RoadKit.mv hZ (hw d hd) (t d hd)
/-- **charAt(i) OF A LATIN-1 STRING**, i < n: the char -/
theorem chN {p : Program} {l : Launch} {e : Env} {R : Room} {s : State} {args : Array Value} {below : List Frame} {len W : Nat} {Z : State} {a0 : Array Value} {h : Heap} (hZ : Z.Warmed39 s.vm) (hw : ∀ d ∈ wordsChN, d.before a0 Z = true) {kI : Nat} (wi : (Jvm.Cond.instantiable ST kI).before a0 Z = true)
    {x t : Addr} {kb : ClassId} {cs : List Int32} {N2 z : Int32} {vs : List Value} {fm : Value} {i : Nat} {j : Int32} (E : RoadKit.Exa Z h x ST) (V : RoadKit.Fld Z h x ST "value" "[B" (.ref t)) (C : RoadKit.Fld Z h x ST "coder" "B" (.int 0)) (K : RoadKit.Arv Z h t kb .byte N2 vs (.int 0)) (hc : CodA cs 0 N2 vs) (hb : ∀ c ∈ cs, ¬ c < 0 ∧ ¬ (65535 : Int32) < c)
    (S : RoadKit.Sta Z h ST "COMPACT_STRINGS" "Z" (.int z)) (hz : ¬ z = 0) (F : RoadKit.Sta Z h "jdk/internal/util/Preconditions" "SIOOBE_FORMATTER" "Ljava/util/function/BiFunction;" fm) (rf : fm.isRef = true) (l2 : cs.length ≤ 4000) (hi : i < cs.length) (hj : j = Int32.ofNat i) (hfr : 4 ≤ R.frames) (hlo : W + 53 ≤ R.locals) :
    Back l R p e below s args (⟨"java/lang/String", "charAt", "(I)C"⟩ : MethodName) len W (fun P a => a = #[.ref x, .int j] ∧ P.U.heap = h ∧ P.cells + 0 ≤ R.cells ∧ P.slots + 0 ≤ R.slots)
      (fun P _ v B => ∃ L, (v = some (.int (cs.getD i 0)) ∧ L = [] ∧ B.U.heap = h) ∧ B.locs = P.locs ++ L ∧ B.cells = P.cells + 0 ∧ B.slots = P.slots + 0) := by
  subst hj
  intro m meth c P g ig mk a X hg hsize hdg hW hn hp'
  obtain ⟨rfl, rfl, r1, r2⟩ := hp'
  have al : Z.vm.Alike P.U.vm := hZ.alike.trans X.warmed.alike
  obtain ⟨A, hx⟩ := txt_of wi al E V C K hc hb l2
  obtain ⟨v, B, X', ⟨⟨hv, hh⟩, hl, hk, hs⟩, st⟩ := ChN.pays x t A cs.length (fun j => cs.getD j 0) z fm i (tabChN_of (movedChN hZ hw)) hfr hlo m meth c P g ig mk _ X hg hsize hdg hW hn ⟨r1, r2, rfl, hx, hi, sta_is al S, hz, sta_is al F, rf⟩
  exact ⟨v, B, X', ⟨[], ⟨hv, rfl, hh⟩, hl, hk, hs⟩, st⟩
/-- what backV says of its String, as the contracts of this text ask it: cs's low bytes, coder 0 -/
theorem codOf {cs : List Int32} {n : Nat} (hn : cs.length = n) (hb : ∀ c ∈ cs, ¬ 255 < c) : CodA cs 0 (Int32.ofNat n) ((cs.map lo8).map Value.int) := Or.inl ⟨rfl, by rw [hn], by simp [List.map_map, Function.comp_def], hb⟩
end StrChars.Road
end Jvm.Pilot.@@N@@
namespace Jvm.Pilot.@@N@@
open Jvm Jvm.ClassFile Sem Op Lib Jvm.Free Jvm.Stand Jvm.LawKit Jvm.RoadKit Bundle Jvm.Pilot.@@N@@.Jvm.D
theorem tw {Z : State} {a0 : Array Value} (hw : ∀ d ∈ tables_1, d.before a0 Z = true) (i : Nat) {d : Jvm.Cond} (h : tables_1[i]? = some d) : d.before a0 Z = true := hw _ (List.mem_of_getElem? h)
theorem leW {a b : Nat} (h : 2 * 0 + a = b) : 2 * 0 + a ≤ b := Nat.le_of_eq h
theorem leB {a b : Nat} (h : Nat.ble a b = true) : a ≤ b := Nat.le_of_ble_eq_true h
theorem own_wS : ∀ d ∈ Bundle.stringAtoms, d ∈ tables_1 := by decide +kernel
def own_Env (Z : State) : Prop := (∃ G : Int32, Sta Z Z.heap "java/lang/String" "COMPACT_STRINGS" "Z" (.int G) ∧ ¬ G = 0) ∧ ∃ G : Value, Sta Z Z.heap "jdk/internal/util/Preconditions" "SIOOBE_FORMATTER" "Ljava/util/function/BiFunction;" G ∧ G.isRef = true
def own_Str (Z : State) (h : Heap) (x t : Addr) (cs : List Int32) : Prop := Exa Z h x "java/lang/String" ∧ Fld Z h x "java/lang/String" "value" "[B" (.ref t) ∧ Fld Z h x "java/lang/String" "coder" "B" (.int 0) ∧ (∃ (kb : ClassId) (N2 : Int32) (vs : List Value), Arv Z h t kb .byte N2 vs (.int 0) ∧ StrChars.Road.CodA cs 0 N2 vs) ∧ (∀ c ∈ cs, ¬ c < 0 ∧ ¬ (255 : Int32) < c) ∧ cs.length ≤ 4000
section OwnStr
variable {Z : State} {h h' : Heap} {x t : Addr} {cs : List Int32}
theorem own_Str.ext (F : own_Str Z h x t cs) (E : Ext h h') : own_Str Z h' x t cs := by
  obtain ⟨f1, f2, f3, ⟨kb, N2, vs, f4, f5⟩, f6⟩ := F
  exact ⟨Exa.ext E f1, Fld.ext E f2, Fld.ext E f3, ⟨kb, N2, vs, f4.ext E, f5⟩, f6⟩
theorem own_Str.other {a : Addr} {sl : Nat} {v : Value} (F : own_Str Z h x t cs) (W : Wr h h' a sl v) (n1 : x ≠ a) (n2 : t ≠ a) : own_Str Z h' x t cs := by
  obtain ⟨f1, f2, f3, ⟨kb, N2, vs, f4, f5⟩, f6⟩ := F
  exact ⟨Exa.wr W f1, f2.other W (Or.inl n1), f3.other W (Or.inl n1), ⟨kb, N2, vs, f4.other W n2, f5⟩, f6⟩
theorem own_Str.keep {ws : List Addr} (F : own_Str Z h x t cs) (K : Keep h h' ws) (n1 : x ∉ ws) (n2 : t ∉ ws) : own_Str Z h' x t cs := by
  obtain ⟨f1, f2, f3, ⟨kb, N2, vs, f4, f5⟩, f6⟩ := F
  exact ⟨f1.keep K, f2.keep K n1, f3.keep K n1, ⟨kb, N2, vs, f4.keep K n2, f5⟩, f6⟩
theorem own_Str.lt1 (F : own_Str Z h x t cs) : x < h.size := F.1.lt
theorem own_Str.lt2 (F : own_Str Z h x t cs) : t < h.size := by obtain ⟨-, -, -, ⟨kb, N2, vs, f4, -⟩, -⟩ := F; exact f4.lt
theorem own_up (F : ∀ c ∈ cs, ¬ c < 0 ∧ ¬ (255 : Int32) < c) : ∀ c ∈ cs, ¬ c < 0 ∧ ¬ (65535 : Int32) < c := fun c hc => ⟨(F c hc).1, fun q => (F c hc).2 (by rw [Int32.lt_iff_toInt_lt] at q ⊢; have e1 : (65535 : Int32).toInt = 65535 := rfl; have e2 : (255 : Int32).toInt = 255 := rfl; omega)⟩
end OwnStr
theorem own_pdNew : parseMethodDescriptor "([C)V" = some ⟨[(.array .char)], none⟩ := by decide +kernel
theorem own_pdLen : parseMethodDescriptor "()I" = some ⟨[], some .int⟩ := by decide +kernel
theorem own_pdChr : parseMethodDescriptor "(I)C" = some ⟨[.int], some .char⟩ := by decide +kernel
theorem own_pdEq : parseMethodDescriptor "(Ljava/lang/Object;)Z" = some ⟨[(.object "java/lang/Object")], some .boolean⟩ := by decide +kernel
theorem own_pdEmp : parseMethodDescriptor "()Z" = some ⟨[], some .boolean⟩ := by decide +kernel
section OwnCalls
variable {p : Program} {l : Launch} {e : Env} {R : Room} {s : State} {args : Array Value} {below : List Frame} {len W : Nat} {Z : State} {a0 : Array Value} {h : Heap} {n0 : Nat}
theorem own_wNew : ∀ d ∈ StrChars.Road.words, d ∈ tables_1 := by decide +kernel
theorem own_new (hZ : Z.Warmed39 s.vm) (hw : ∀ d ∈ tables_1, d.before a0 Z = true) (SV : own_Env Z) (O : Old Z n0 h) {x b : Addr} {kC : ClassId} {cs : List Int32} {d v0 c0 : Value} {N : Int32} {n : Nat} (hx0 : n0 ≤ x) (hh0 : n0 ≤ h.size) (E : Exa Z h x "java/lang/String") (V : Fld Z h x "java/lang/String" "value" "[B" v0) (C : Fld Z h x "java/lang/String" "coder" "B" c0) (K : Arv Z h b kC .char N (cs.map Value.int) d)
    (hn : cs.length = n) (hN : N = Int32.ofNat n) (l0 : 0 < n) (l2 : n ≤ 4000) (hp : ∀ c ∈ cs, ¬ c < 0 ∧ ¬ (255 : Int32) < c) (hfr : 4 ≤ R.frames) (hlo : W + 65 ≤ R.locals) :
    Back l R p e below s args (⟨"java/lang/String", "<init>", "([C)V"⟩ : MethodName) len W (fun P a => a = #[.ref x, .ref b] ∧ P.U.heap = h ∧ P.cells + 1 ≤ R.cells ∧ P.slots + n ≤ R.slots)
      (fun P _ v B => ∃ L, (v = none ∧ Fr n0 L ∧ Keep h B.U.heap [x] ∧ ∃ t, h.size ≤ t ∧ own_Str Z B.U.heap x t cs) ∧ B.locs = P.locs ++ L ∧ B.cells = P.cells + 1 ∧ B.slots = P.slots + n) := by
  obtain ⟨⟨G1, S1, S2⟩, -⟩ := SV
  refine Back.mono (StrChars.Road.backV hZ (fun d hd => hw d (own_wNew d hd)) (kI := 4) (tw hw 19 rfl) (bs := cs.map (fun c => c.toInt8.toInt32)) hx0 hh0 E V C K (Sta.ext O.2 S1) S2 hn hN l0 l2 hp rfl hfr hlo) (fun _ _ q => q) ?_
  rintro P a v B hq ⟨L, ⟨q1, q2, q3, q4, q5, t, kb, q6, q7, q8, q9, q10⟩, r⟩
  subst hn hN
  exact ⟨L, ⟨q1, q2, q3, t, q7, q4, q9, q5, ⟨kb, _, _, q10, StrChars.Road.codOf rfl (fun c hc => (hp c hc).2)⟩, hp, l2⟩, r⟩
theorem own_wChr : ∀ d ∈ StrChars.Road.wordsChN, d ∈ tables_1 := by decide +kernel
theorem own_chr (hZ : Z.Warmed39 s.vm) (hw : ∀ d ∈ tables_1, d.before a0 Z = true) (SV : own_Env Z) (O : Old Z n0 h) {x t : Addr} {cs : List Int32} {i : Nat} {j : Int32} (F : own_Str Z h x t cs) (hi : i < cs.length) (hj : j = Int32.ofNat i) (hfr : 4 ≤ R.frames) (hlo : W + 53 ≤ R.locals) :
    Back l R p e below s args (⟨"java/lang/String", "charAt", "(I)C"⟩ : MethodName) len W (fun P a => a = #[.ref x, .int j] ∧ P.U.heap = h ∧ P.cells + 0 ≤ R.cells ∧ P.slots + 0 ≤ R.slots)
      (fun P _ v B => ∃ L, (v = some (.int (cs.getD i 0)) ∧ Fr n0 L ∧ B.U.heap = h) ∧ B.locs = P.locs ++ L ∧ B.cells = P.cells + 0 ∧ B.slots = P.slots + 0) := by
  obtain ⟨⟨G1, S1, S2⟩, G3, S3, S4⟩ := SV
  obtain ⟨f1, f2, f3, ⟨kb, N2, vs, f4, f5⟩, f6, f7⟩ := F
  refine Back.mono (StrChars.Road.chN hZ (fun d hd => hw d (own_wChr d hd)) (kI := 4) (tw hw 19 rfl) f1 f2 f3 f4 f5 (own_up f6) (Sta.ext O.2 S1) S2 (Sta.ext O.2 S3) S4 f7 hi hj hfr hlo) (fun _ _ q => q) ?_
  rintro P a v B hq ⟨L, ⟨q1, rfl, q3⟩, r⟩
  exact ⟨[], ⟨q1, Fr.nil n0, q3⟩, r⟩
theorem own_wEq : ∀ d ∈ StrChars.Road.wordsEq, d ∈ tables_1 := by decide +kernel
theorem own_eqs (hZ : Z.Warmed39 s.vm) (hw : ∀ d ∈ tables_1, d.before a0 Z = true) (SV : own_Env Z) (O : Old Z n0 h) {x t y u : Addr} {cs ds : List Int32} (F : own_Str Z h x t cs) (G : own_Str Z h y u ds) (hfr : 2 ≤ R.frames) (hlo : W + 28 ≤ R.locals) :
    Back l R p e below s args (⟨"java/lang/String", "equals", "(Ljava/lang/Object;)Z"⟩ : MethodName) len W (fun P a => a = #[.ref x, .ref y] ∧ P.U.heap = h ∧ P.cells + 0 ≤ R.cells ∧ P.slots + 0 ≤ R.slots)
      (fun P _ v B => ∃ L, (v = some (.int (if cs = ds then 1 else 0)) ∧ Fr n0 L ∧ B.U.heap = h) ∧ B.locs = P.locs ++ L ∧ B.cells = P.cells + 0 ∧ B.slots = P.slots + 0) := by
  obtain ⟨⟨G1, S1, S2⟩, -⟩ := SV
  obtain ⟨f1, f2, f3, ⟨kb, N2, vs, f4, f5⟩, f6, f7⟩ := F
  obtain ⟨g1, g2, g3, ⟨kb', N2', vs', g4, g5⟩, g6, g7⟩ := G
  refine Back.mono (StrChars.Road.eqW hZ (fun d hd => hw d (own_wEq d hd)) (kI := 4) (tw hw 19 rfl) f1 f2 f3 f4 f5 (own_up f6) f7 g1 g2 g3 g4 g5 (own_up g6) g7 (Sta.ext O.2 S1) S2 hfr hlo) (fun _ _ q => q) ?_
  rintro P a v B hq ⟨L, ⟨q1, rfl, q3⟩, r⟩
  refine ⟨[], ⟨?_, Fr.nil n0, q3⟩, r⟩
  rcases q1 with ⟨q1, q2⟩ | ⟨q1, q2⟩
  · rw [q1, if_pos q2]
  · rw [q1, if_neg q2]
end OwnCalls
def own_ok (c : Int32) : Prop := (65 ≤ c.toInt ∧ c.toInt ≤ 90) ∨ (97 ≤ c.toInt ∧ c.toInt ≤ 122) ∨ (48 ≤ c.toInt ∧ c.toInt ≤ 57) ∨ c = 46 ∨ c = 95 ∨ c = 45
theorem own_ok.rng {c : Int32} (h : own_ok c) : 0 ≤ c.toInt ∧ c.toInt ≤ 255 := by
  rcases h with h | h | h | rfl | rfl | rfl <;> first | decide | omega
theorem own_ok.b {c : Int32} (h : own_ok c) : ¬ c < 0 ∧ ¬ (255 : Int32) < c := by
  have q := h.rng
  rw [Int32.lt_iff_toInt_lt, Int32.lt_iff_toInt_lt]
  have e1 : (255 : Int32).toInt = 255 := by decide
  have e2 : (0 : Int32).toInt = 0 := by decide
  omega
theorem own_i2c {y : Int32} (h : 0 ≤ y.toInt ∧ y.toInt < 65536) : y.toUInt32.toUInt16.toUInt32.toInt32 = y := by
  have q := c_i2c y
  apply Int32.toInt_inj.mp
  omega
theorem own_nar {y : Int32} (h : 0 ≤ y.toInt ∧ y.toInt < 65536) : nar .char y = y := own_i2c h
theorem own_nn {y : Int32} (h : 0 ≤ y.toInt ∧ y.toInt < 65536) : nar .char y.toUInt32.toUInt16.toUInt32.toInt32 = y := by rw [own_i2c h]; exact own_nar h
theorem own_ok.nar {c : Int32} (h : own_ok c) : nar .char c = c := own_nar (by have q := h.rng; omega)
theorem own_ltI (x y : Int32) : x < y ↔ x.toInt < y.toInt := Int32.lt_iff_toInt_lt
theorem own_Str.arv {Z : State} {h : Heap} {x t : Addr} {cs : List Int32} (F : own_Str Z h x t cs) : ∃ kb : ClassId, Arv Z h t kb .byte (Int32.ofNat cs.length) (cs.map fun c => Value.int (StrChars.lo8 c)) (.int 0) := by
  obtain ⟨-, -, -, ⟨kb, N2, vs, f4, f5⟩, -⟩ := F
  rcases f5 with ⟨-, rfl, rfl, -⟩ | ⟨q, -⟩
  · exact ⟨kb, f4⟩
  · exact absurd q (by decide)
theorem own_low {cs : List Int32} {i : Nat} (hi : i < cs.length) : (cs.map fun c => Value.int (StrChars.lo8 c)).getD i (.int 0) = .int (StrChars.lo8 (cs.getD i 0)) := by
  rw [own_getD _ (by simpa using hi), own_getD _ hi, List.getElem_map]
theorem own_lo8 {c : Int32} (h : ¬ c < 0 ∧ ¬ (255 : Int32) < c) : (StrChars.lo8 c &&& (255 : Int32)) = c := by
  apply Int32.toInt_inj.mp
  rw [c_mask _ 255 8 (by decide) (by decide)]
  have q : ((StrChars.lo8 c).toInt - c.toInt) % 256 = 0 ∧ -128 ≤ (StrChars.lo8 c).toInt ∧ (StrChars.lo8 c).toInt < 128 := c_i2b c
  rw [Int32.lt_iff_toInt_lt, Int32.lt_iff_toInt_lt] at h
  have e1 : (255 : Int32).toInt = 255 := by decide
  have e2 : (0 : Int32).toInt = 0 := by decide
  have e3 : ((2 ^ 8 : Nat) : Int) = 256 := by decide
  omega
theorem own_ofNat_toInt {n : Nat} (h : n < 2147483648) : (Int32.ofNat n).toInt = n := Int32.toInt_ofNat_small (n := n) (by omega)
theorem own_clamp {n : Nat} (h : n < 2147483648) : (Int32.ofNat n).toNatClampNeg = n := by
  show (Int32.ofNat n).toInt.toNat = n
  rw [own_ofNat_toInt h]; rfl
theorem own_ofNat_lt {i n : Nat} (hn : n < 2147483648) (hi : i < 2147483648) : Int32.ofNat i < Int32.ofNat n ↔ i < n := by
  rw [own_ltI, own_ofNat_toInt hn, own_ofNat_toInt hi]; omega
theorem own_ofNat_nn {i : Nat} (hi : i < 2147483648) : ¬ Int32.ofNat i < 0 := by
  rw [own_ltI, own_ofNat_toInt hi]
  have e2 : (0 : Int32).toInt = 0 := by decide
  omega
theorem own_mem_getD {cs : List Int32} {i : Nat} (hi : i < cs.length) : cs.getD i 0 ∈ cs := by
  rw [own_getD _ hi]; exact List.getElem_mem hi
theorem own_safeNull {Z : State} {EL : List (String × Nat)} {vm : Vm} {h : Heap} {x : Addr} (hal : Z.vm.Alike vm) (E : Exa Z h x "java/lang/String") (F : Fld Z h x "java/lang/String" "value" "[B" .null) : Safe Z EL vm h x := fun B => by
  obtain ⟨cell, cf, k, i, f, e1, e2, e3, e4, e5, e6, e7⟩ := F
  obtain ⟨p, -, u, a, -, q, -, G, rfl | rfl⟩ := B
  · cases (show h[q.sa]? = some q.sC from G.ha).symm.trans e1
    obtain ⟨cS, ⟨⟨-, -, -, ⟨c1, k1, i1, f1, -⟩, -, -, -, v1, -⟩, -⟩, -⟩ := G
    obtain ⟨k3, g3, -⟩ := State.fieldFound?_setVm (s := Z) hal e2
    have g4 := (show (Wst Z vm h).fieldFound? "java/lang/String" "value" "[B" = _ from g3).symm.trans f1
    simp only [Option.some.injEq, Prod.mk.injEq] at g4
    rw [g4.2.2.2, v1] at e7
    cases e7
  · obtain ⟨cell', k', a1, a2, -⟩ := E
    cases (show h[q.sd]? = some q.SA from G.hd).symm.trans a1
    obtain ⟨cS, -, -, g, -⟩ := G
    have g' : Z.vm.findClass "[B" = some q.SA.cls := by rw [← hal.findClass]; exact g
    exact ids_ne a2 g' (by decide) rfl
def own_tf (cs : List Int32) (uF uT : Addr) : Value := if cs = [102, 97, 108, 115, 101] then .ref uF else if cs = [116, 114, 117, 101] then .ref uT else .null
theorem own_tfF {cs : List Int32} {uF uT : Addr} (h : cs = [102, 97, 108, 115, 101]) : own_tf cs uF uT = .ref uF := if_pos h
theorem own_tfT {cs : List Int32} {uF uT : Addr} (h1 : ¬ cs = [102, 97, 108, 115, 101]) (h : cs = [116, 114, 117, 101]) : own_tf cs uF uT = .ref uT := (if_neg h1).trans (if_pos h)
theorem own_tfN {cs : List Int32} {uF uT : Addr} (h1 : ¬ cs = [102, 97, 108, 115, 101]) (h : ¬ cs = [116, 114, 117, 101]) : own_tf cs uF uT = .null := (if_neg h1).trans (if_neg h)
theorem own_tfref {cs : List Int32} {uF uT : Addr} : (own_tf cs uF uT).isRef = true := by
  unfold own_tf; repeat' split
  all_goals rfl
theorem own_tfcat {cs : List Int32} {uF uT : Addr} : (own_tf cs uF uT).category = 1 := by
  unfold own_tf; repeat' split
  all_goals rfl
theorem own_if0 {P : Prop} [Decidable P] (h : (if P then (1 : Int32) else 0) = 0) : ¬ P := fun q => by rw [if_pos q] at h; exact absurd h (by decide)
theorem own_if1 {P : Prop} [Decidable P] (h : ¬ (if P then (1 : Int32) else 0) = 0) : P := Classical.byContradiction fun q => h (if_neg q)
theorem own_b1 {c : Int32} (h : ¬ c < 0 ∧ ¬ (255 : Int32) < c) : 0 ≤ c.toInt ∧ c.toInt < 65536 := by
  rw [own_ltI, own_ltI] at h
  have e1 : (255 : Int32).toInt = 255 := by decide
  have e2 : (0 : Int32).toInt = 0 := by decide
  omega
theorem own_nb {c : Int32} (h : ¬ c < 0 ∧ ¬ (255 : Int32) < c) : nar .char c = c := own_nar (own_b1 h)
theorem own_n255 {c : Int32} (h : ¬ c < 0 ∧ ¬ (255 : Int32) < c) : ¬ nar .char c < 0 ∧ ¬ (255 : Int32) < nar .char c := by rw [own_nb h]; exact h
theorem own_255 (x : Int32) : ¬ nar .char ((x &&& (255 : Int32)).toUInt32.toUInt16.toUInt32.toInt32) < 0 ∧ ¬ (255 : Int32) < nar .char ((x &&& (255 : Int32)).toUInt32.toUInt16.toUInt32.toInt32) := by
  have h := c_and x 255 (by decide)
  have e1 : (255 : Int32).toInt = 255 := by decide
  have e2 : (0 : Int32).toInt = 0 := by decide
  rw [own_nn (by omega), own_ltI, own_ltI]
  omega
theorem rem7 (y : Int32) : 0 ≤ ((y &&& 7) % 6).toInt ∧ ((y &&& 7) % 6).toInt < 6 := by
  have h1 := c_and y 7 (by decide)
  rw [(c_irem (y &&& 7) 6 6 (by decide)).1 h1.1]
  exact ⟨Int.emod_nonneg _ (by omega), Int.emod_lt_of_pos _ (by decide)⟩
theorem cases6 {k : Int32} (h : 0 ≤ k.toInt ∧ k.toInt < 6) : k = 0 ∨ k = 1 ∨ k = 2 ∨ k = 3 ∨ k = 4 ∨ k = 5 := by
  have q : k.toInt = 0 ∨ k.toInt = 1 ∨ k.toInt = 2 ∨ k.toInt = 3 ∨ k.toInt = 4 ∨ k.toInt = 5 := by omega
  rcases q with q | q | q | q | q | q
  · exact Or.inl (Int32.toInt_inj.mp q)
  · exact Or.inr (Or.inl (Int32.toInt_inj.mp q))
  · exact Or.inr (Or.inr (Or.inl (Int32.toInt_inj.mp q)))
  · exact Or.inr (Or.inr (Or.inr (Or.inl (Int32.toInt_inj.mp q))))
  · exact Or.inr (Or.inr (Or.inr (Or.inr (Or.inl (Int32.toInt_inj.mp q)))))
  · exact Or.inr (Or.inr (Or.inr (Or.inr (Or.inr (Int32.toInt_inj.mp q)))))
abbrev own_EL : List (String × Nat) := [("com/example/bare_orm/bareorm/MappingReader", 373), ("com/example/bare_orm/bareorm/MappingReader", 430), ("com/example/bare_orm/bareorm/MappingReaderTrueOrFalsePinLaw", 34), ("com/example/bare_orm/bareorm/MappingReaderTrueOrFalsePinLaw", 40), ("java/lang/String", 7)]
theorem own_EW {Z : State} {a0 : Array Value} (hw : ∀ d ∈ tables_1, d.before a0 Z = true) : EW Z a0 own_EL := (EW.cons (tw hw 76 rfl) (by decide) (EW.cons (tw hw 66 rfl) (by decide) (EW.cons (tw hw 77 rfl) (by decide) (EW.cons (tw hw 17 rfl) (by decide) (EW.cons (tw hw 65 rfl) (by decide) EW.nil)))))
def QPK (Z : State) (px : Int32) (pz : Int32) (i : Nat) (h0 : Heap) (n0 : Nat) (v : Option Value) (h : Heap) (L : List Loc) : Prop := ∃ (pv : Int32), v = some (.int pv) ∧ Fr n0 L ∧ Keep h0 h [] ∧ ¬ pv < 0 ∧ ¬ (255 : Int32) < pv
theorem dPK_0 : decode method_3_code 0 = .ok (.iload_n 0, 1) := by decide +kernel
theorem dPK_1 : decode method_3_code 1 = .ok (.iconst 1, 1) := by decide +kernel
theorem dPK_2 : decode method_3_code 2 = .ok (.iand, 1) := by decide +kernel
theorem dPK_3 : decode method_3_code 3 = .ok (.ifCond .ne 23, 3) := by decide +kernel
theorem dPK_6 : decode method_3_code 6 = .ok (.iload_n 1, 1) := by decide +kernel
theorem dPK_7 : decode method_3_code 7 = .ok (.ifCond .eq 12, 3) := by decide +kernel
theorem dPK_10 : decode method_3_code 10 = .ok (.ldc 34, 2) := by decide +kernel
theorem dPK_12 : decode method_3_code 12 = .ok (.iload_n 2, 1) := by decide +kernel
theorem dPK_13 : decode method_3_code 13 = .ok (.invokevirtual 36, 3) := by decide +kernel
theorem dPK_16 : decode method_3_code 16 = .ok (.goto 9, 3) := by decide +kernel
theorem dPK_19 : decode method_3_code 19 = .ok (.ldc 40, 2) := by decide +kernel
theorem dPK_21 : decode method_3_code 21 = .ok (.iload_n 2, 1) := by decide +kernel
theorem dPK_22 : decode method_3_code 22 = .ok (.invokevirtual 36, 3) := by decide +kernel
theorem dPK_25 : decode method_3_code 25 = .ok (.ireturn, 1) := by decide +kernel
theorem dPK_26 : decode method_3_code 26 = .ok (.iload_n 0, 1) := by decide +kernel
theorem dPK_27 : decode method_3_code 27 = .ok (.iconst 1, 1) := by decide +kernel
theorem dPK_28 : decode method_3_code 28 = .ok (.iushr, 1) := by decide +kernel
theorem dPK_29 : decode method_3_code 29 = .ok (.sipush 255, 3) := by decide +kernel
theorem dPK_32 : decode method_3_code 32 = .ok (.iand, 1) := by decide +kernel
theorem dPK_33 : decode method_3_code 33 = .ok (.i2c, 1) := by decide +kernel
theorem dPK_34 : decode method_3_code 34 = .ok (.ireturn, 1) := by decide +kernel
theorem pnPK : plainName "com/example/bare_orm/bareorm/MappingReaderTrueOrFalsePinLaw" = true := by first | (simp [plainName, overriddenIn]; done) | decide +kernel
theorem pdPK : parseMethodDescriptor "(IZI)C" = some ⟨[.int, .boolean, .int], some .char⟩ := by decide +kernel
set_option maxRecDepth 65536 in
set_option maxHeartbeats 40000000 in
theorem rmPK (l : Launch) (Z : State) (a0 : Array Value) (hw : ∀ d ∈ tables_1, d.before a0 Z = true) (ws : List Jvm.Cond) (px : Int32) (pz : Int32) (i : Nat) (h0 : Heap) (n0 : Nat) (Z0 : n0 ≤ h0.size) (hi : i < 5) (O0 : Old Z n0 h0) (SV : own_Env Z) :
    MetFree l (⟨"com/example/bare_orm/bareorm/MappingReaderTrueOrFalsePinLaw", "pick", "(IZI)C"⟩ : MethodName) (head1 (Jvm.Cond.code (⟨"com/example/bare_orm/bareorm/MappingReaderTrueOrFalsePinLaw", "pick", "(IZI)C"⟩ : MethodName) method_3_code 3 (some .char) :: ws) ({ frames := 4, cells := 2, slots := 24, locals := 53 } : Room)) (fun aa U => aa = #[(.int px), (.int pz), (.int (Int32.ofNat i))] ∧ Z.Warmed39 U.vm ∧ U.heap = h0 ∧ CHv Z own_EL U.vm h0) (fun _ _ _ _ _ => True) (fun _ U oo U' => ∃ v L, oo = .returned v ∧ QPK Z px pz i h0 n0 v U'.heap L ∧ CHr Z own_EL U.vm U.heap U'.vm U'.heap ∧ ReturnedEndW U oo U' L ({ frames := 4, cells := 2, slots := 24, locals := 53 } : Room).cells ({ frames := 4, cells := 2, slots := 24, locals := 53 } : Room).slots) := by
  refine MetFree.of_bodySF (plainFor_of_name pnPK) hisR ?_
  intro p e s m args below meth c s₁ Bd hml0 hP hK
  obtain ⟨rfl, hZ, hh, HV0⟩ := hP
  have hx := Bd.exec
  have hby := Bd.bytes
  have hlk : meth.locks = false := BodyLoose.notSynchronized Bd
  have hml : c.maxLocals = 3 := hml0
  have hown : s.vm.findClass "com/example/bare_orm/bareorm/MappingReaderTrueOrFalsePinLaw" = some m.cls := findClass_of_methodNamed Bd.named
  have hnm := (name_of_methodNamed Bd.named Bd.method).1
  have X0 : Stand p l e ({ frames := 4, cells := 2, slots := 24, locals := 53 } : Room) s m #[(.int px), (.int pz), (.int (Int32.ofNat i))] below meth c s₁ [] 0 0 := Stand.of_body Bd
  have e0 : s₁.heap = h0 := by rw [← hh, Bd.state]; rfl
  have N0 := Fr.nil n0
  have ef : entryFrame m #[(.int px), (.int pz), (.int (Int32.ofNat i))] 3 = mkF m 0 #[iv px, iv pz, iv (Int32.ofNat i)] [] := by first | (simp [entryFrame, mkF, argsToLocals, Value.category, maxLocals]; done) | rfl
  have XW : Stand p l e ({ frames := 4, cells := 2, slots := 24, locals := 53 } : Room) (s.setVm s.vm) m #[(.int px), (.int pz), (.int (Int32.ofNat i))] below meth c s₁ [] 0 0 := X0
  have hS0 : s.Since s.vm 0 := (State.WarmedH.refl s).since 0
  have hZ0 : Z.Warmed39 (s.setVm s.vm).vm := hZ
  have hown0 : (s.setVm s.vm).vm.findClass "com/example/bare_orm/bareorm/MappingReaderTrueOrFalsePinLaw" = some m.cls := hown
  have wS : ∀ d ∈ Bundle.stringAtoms, d.before a0 Z = true := fun d hd => hw d (own_wS d hd)
  have hEL : EW Z a0 own_EL := own_EW hw
  have CH0 : CHr Z own_EL s.vm h0 s.vm h0 := CHr.refl HV0
  show Way p.tables e below (KQH s Z own_EL (QPK Z px pz i h0 n0) ({ frames := 4, cells := 2, slots := 24, locals := 53 } : Room).cells ({ frames := 4, cells := 2, slots := 24, locals := 53 } : Room).slots) (s₁.setTop (entryFrame m #[(.int px), (.int pz), (.int (Int32.ofNat i))] 3))
  rw [ef]
  refine Way.by (fun _ k => XS.iloadN XW.here hx rfl (hb hby dPK_0) rfl k) ?_
  show Way _ _ _ _ (s₁.setTop (mkF m 1 #[iv px, iv pz, iv (Int32.ofNat i)] [(.int px)]))
  refine Way.by (fun _ k => XS.iconst XW.here hx rfl (hb hby dPK_1) k) ?_
  show Way _ _ _ _ (s₁.setTop (mkF m 2 #[iv px, iv pz, iv (Int32.ofNat i)] [(.int 1), (.int px)]))
  refine Way.by (fun _ k => XS.iand XW.here hx rfl (hb hby dPK_2) rfl k) ?_
  show Way _ _ _ _ (s₁.setTop (mkF m 3 #[iv px, iv pz, iv (Int32.ofNat i)] [(.int (px &&& (1 : Int32)))]))
  by_cases b1 : (px &&& (1 : Int32)) = (0 : Int32)
  · skip
    refine Way.by (fun _ k => XS.ifNo XW.here hx rfl (hb hby dPK_3) rfl ((if0 .ne _).trans (teq b1).2) k) ?_
    show Way _ _ _ _ (s₁.setTop (mkF m 6 #[iv px, iv pz, iv (Int32.ofNat i)] []))
    refine Way.by (fun _ k => XS.iloadN XW.here hx rfl (hb hby dPK_6) rfl k) ?_
    show Way _ _ _ _ (s₁.setTop (mkF m 7 #[iv px, iv pz, iv (Int32.ofNat i)] [(.int pz)]))
    by_cases b2 : pz = (0 : Int32)
    · skip
      refine Way.by (fun _ k => XS.ifYes XW.here hx rfl (pc0 := 7) (pc' := 19) rfl (hb hby dPK_7) rfl ((if0 .eq _).trans (teq b2).1) (by decide) (by decide) k) ?_
      show Way _ _ _ _ (s₁.setTop (mkF m 19 #[iv px, iv pz, iv (Int32.ofNat i)] []))
      obtain ⟨a3, T4, h5, k6, bd7, kc8, X9, e10, E11, hS12, hk13, hZ14, hown15, Ex16, Co17, Va18, Ar19, la20, lb21, hr22, lit23, sfn24, st25⟩ := ldcCH XW hx hZ0 hown0 (tw hw 17 rfl) wS e0 hS0 (Nat.zero_le _) hEL (by decide) HV0 (vs := ([116, 114, 117, 101, 101] : List Int32).map fun c => Value.int (StrChars.lo8 c)) (z := (5 : Int32)) ⟨by decide, by decide⟩ (by decide) rfl (g := (mkF m 19 #[iv px, iv pz, iv (Int32.ofNat i)] [])) rfl (hb hby dPK_19) (n := 20) (by decide) (by decide) (by decide) (by decide)
      have H26 := hr22.1
      have CH27 := CH0.trans hr22
      have Z29 := Nat.le_trans Z0 E11.1
      have O30 := O0.ext E11
      have K31 := (Keep.refl h0 []).ext E11
      have hz32 := Nat.le_trans (Nat.le_refl h0.size) E11.1
      have F33 : own_Str Z h5 a3 bd7 [116, 114, 117, 101, 101] := ⟨Ex16, Va18, Co17, ⟨_, _, _, Ar19, Or.inl ⟨rfl, rfl, rfl, by decide⟩⟩, by decide, by decide⟩
      refine Way.by st25 ?_
      show Way _ _ _ _ (T4.setTop (mkF m 21 #[iv px, iv pz, iv (Int32.ofNat i)] [(.ref a3)]))
      refine Way.by (fun _ k => XS.iloadN X9.here hx rfl (hb hby dPK_21) rfl k) ?_
      show Way _ _ _ _ (T4.setTop (mkF m 22 #[iv px, iv pz, iv (Int32.ofNat i)] [(.int (Int32.ofNat i)), (.ref a3)]))
      obtain ⟨cq50, kq51, qa52, qb53, qc54⟩ := isOf hZ14 e10 F33.1
      obtain ⟨_, _, ⟨T34, L36, k37, n38⟩, -, X35, ⟨Lc39, hQ40, l41, y42, z43⟩, st44⟩ := X9.virtualBack hx (y := (⟨"java/lang/String", "charAt", "(I)C"⟩ : MethodName)) (z := (⟨"java/lang/String", "charAt", "(I)C"⟩ : MethodName)) hown15 (mvT hZ14 (tw hw 25 rfl)) (mvT hZ14 (tw hw 26 rfl)) (notFace_of_selects (args := #[]) (mvT hZ14 (tw hw 28 rfl))) (mvT hZ14 (tw hw 28 rfl)) (mvT hZ14 (tw hw 27 rfl)) (by decide) (own_chr (W := 0) (n0 := n0) hZ14 hw SV O30 (cs := [116, 114, 117, 101, 101]) (i := i) F33 hi rfl (by decide) (by decide)) qa52 qc54 (g := (mkF m 22 #[iv px, iv pz, iv (Int32.ofNat i)] [(.int (Int32.ofNat i)), (.ref a3)])) rfl (by rw [hml]; rfl) (Steps.refl _) (argsL := [(.int (Int32.ofNat i))]) (rest := []) (lenOf own_pdChr rfl) rfl (leW rfl) (hb hby dPK_22) (fun _ _ => ⟨rfl, e10, (leB rfl), (leB rfl)⟩)
      dsimp only [Pt.U, Pt.locs, Pt.cells, Pt.slots] at X35 l41 y42 z43 st44 hQ40
      subst y42 z43
      obtain ⟨rfl, N55, e46⟩ := hQ40
      have N45 : Fr n0 L36 := by rw [l41]; exact Fr.app N0 N55
      refine Way.to st44 ?_
      show Way _ _ _ _ (T34.setTop (mkF m 25 #[iv px, iv pz, iv (Int32.ofNat i)] [(.int ([116, 114, 117, 101, 101].getD i 0))]))
      refine Way.retH (v := (some (.int (nar .char ([116, 114, 117, 101, 101].getD i 0))))) X35 hS12 (by rw [e46]; exact hk13) hZ14 hEL hh e46 H26 CH27 hlk (fun h => by rw [Bd.returns] at h; cases h) (fun fs hr => retN X35 hx (t := .char) Bd.returns (by simp) (hb hby dPK_25) hr) ?_ (by decide) (by decide)
      show QPK Z px pz i h0 n0 _ T34.heap _
      rw [e46]
      exact ⟨(nar .char ([116, 114, 117, 101, 101].getD i 0)), rfl, N45, K31, own_n255 ((show ∀ c ∈ ([116, 114, 117, 101, 101] : List Int32), ¬ c < 0 ∧ ¬ (255 : Int32) < c by decide) _ (own_mem_getD hi))⟩
    · skip
      refine Way.by (fun _ k => XS.ifNo XW.here hx rfl (hb hby dPK_7) rfl ((if0 .eq _).trans (feq b2).1) k) ?_
      show Way _ _ _ _ (s₁.setTop (mkF m 10 #[iv px, iv pz, iv (Int32.ofNat i)] []))
      obtain ⟨a57, T58, h59, k60, bd61, kc62, X63, e64, E65, hS66, hk67, hZ68, hown69, Ex70, Co71, Va72, Ar73, la74, lb75, hr76, lit77, sfn78, st79⟩ := ldcCH XW hx hZ0 hown0 (tw hw 77 rfl) wS e0 hS0 (Nat.zero_le _) hEL (by decide) HV0 (vs := ([102, 97, 108, 115, 101] : List Int32).map fun c => Value.int (StrChars.lo8 c)) (z := (5 : Int32)) ⟨by decide, by decide⟩ (by decide) rfl (g := (mkF m 10 #[iv px, iv pz, iv (Int32.ofNat i)] [])) rfl (hb hby dPK_10) (n := 20) (by decide) (by decide) (by decide) (by decide)
      have H80 := hr76.1
      have CH81 := CH0.trans hr76
      have Z83 := Nat.le_trans Z0 E65.1
      have O84 := O0.ext E65
      have K85 := (Keep.refl h0 []).ext E65
      have hz86 := Nat.le_trans (Nat.le_refl h0.size) E65.1
      have F87 : own_Str Z h59 a57 bd61 [102, 97, 108, 115, 101] := ⟨Ex70, Va72, Co71, ⟨_, _, _, Ar73, Or.inl ⟨rfl, rfl, rfl, by decide⟩⟩, by decide, by decide⟩
      refine Way.by st79 ?_
      show Way _ _ _ _ (T58.setTop (mkF m 12 #[iv px, iv pz, iv (Int32.ofNat i)] [(.ref a57)]))
      refine Way.by (fun _ k => XS.iloadN X63.here hx rfl (hb hby dPK_12) rfl k) ?_
      show Way _ _ _ _ (T58.setTop (mkF m 13 #[iv px, iv pz, iv (Int32.ofNat i)] [(.int (Int32.ofNat i)), (.ref a57)]))
      obtain ⟨cq104, kq105, qa106, qb107, qc108⟩ := isOf hZ68 e64 F87.1
      obtain ⟨_, _, ⟨T88, L90, k91, n92⟩, -, X89, ⟨Lc93, hQ94, l95, y96, z97⟩, st98⟩ := X63.virtualBack hx (y := (⟨"java/lang/String", "charAt", "(I)C"⟩ : MethodName)) (z := (⟨"java/lang/String", "charAt", "(I)C"⟩ : MethodName)) hown69 (mvT hZ68 (tw hw 25 rfl)) (mvT hZ68 (tw hw 26 rfl)) (notFace_of_selects (args := #[]) (mvT hZ68 (tw hw 28 rfl))) (mvT hZ68 (tw hw 28 rfl)) (mvT hZ68 (tw hw 27 rfl)) (by decide) (own_chr (W := 0) (n0 := n0) hZ68 hw SV O84 (cs := [102, 97, 108, 115, 101]) (i := i) F87 hi rfl (by decide) (by decide)) qa106 qc108 (g := (mkF m 13 #[iv px, iv pz, iv (Int32.ofNat i)] [(.int (Int32.ofNat i)), (.ref a57)])) rfl (by rw [hml]; rfl) (Steps.refl _) (argsL := [(.int (Int32.ofNat i))]) (rest := []) (lenOf own_pdChr rfl) rfl (leW rfl) (hb hby dPK_13) (fun _ _ => ⟨rfl, e64, (leB rfl), (leB rfl)⟩)
      dsimp only [Pt.U, Pt.locs, Pt.cells, Pt.slots] at X89 l95 y96 z97 st98 hQ94
      subst y96 z97
      obtain ⟨rfl, N109, e100⟩ := hQ94
      have N99 : Fr n0 L90 := by rw [l95]; exact Fr.app N0 N109
      refine Way.to st98 ?_
      show Way _ _ _ _ (T88.setTop (mkF m 16 #[iv px, iv pz, iv (Int32.ofNat i)] [(.int ([102, 97, 108, 115, 101].getD i 0))]))
      refine Way.by (fun _ k => XS.goto X89.here hx rfl (pc0 := 16) (pc' := 25) rfl (hb hby dPK_16) (by decide) (by decide) k) ?_
      show Way _ _ _ _ (T88.setTop (mkF m 25 #[iv px, iv pz, iv (Int32.ofNat i)] [(.int ([102, 97, 108, 115, 101].getD i 0))]))
      refine Way.retH (v := (some (.int (nar .char ([102, 97, 108, 115, 101].getD i 0))))) X89 hS66 (by rw [e100]; exact hk67) hZ68 hEL hh e100 H80 CH81 hlk (fun h => by rw [Bd.returns] at h; cases h) (fun fs hr => retN X89 hx (t := .char) Bd.returns (by simp) (hb hby dPK_25) hr) ?_ (by decide) (by decide)
      show QPK Z px pz i h0 n0 _ T88.heap _
      rw [e100]
      exact ⟨(nar .char ([102, 97, 108, 115, 101].getD i 0)), rfl, N99, K85, own_n255 ((show ∀ c ∈ ([102, 97, 108, 115, 101] : List Int32), ¬ c < 0 ∧ ¬ (255 : Int32) < c by decide) _ (own_mem_getD hi))⟩
  · skip
    refine Way.by (fun _ k => XS.ifYes XW.here hx rfl (pc0 := 3) (pc' := 26) rfl (hb hby dPK_3) rfl ((if0 .ne _).trans (feq b1).2) (by decide) (by decide) k) ?_
    show Way _ _ _ _ (s₁.setTop (mkF m 26 #[iv px, iv pz, iv (Int32.ofNat i)] []))
    refine Way.by (fun _ k => XS.iloadN XW.here hx rfl (hb hby dPK_26) rfl k) ?_
    show Way _ _ _ _ (s₁.setTop (mkF m 27 #[iv px, iv pz, iv (Int32.ofNat i)] [(.int px)]))
    refine Way.by (fun _ k => XS.iconst XW.here hx rfl (hb hby dPK_27) k) ?_
    show Way _ _ _ _ (s₁.setTop (mkF m 28 #[iv px, iv pz, iv (Int32.ofNat i)] [(.int 1), (.int px)]))
    refine Way.by (fun _ k => XT.iushr XW.here hx rfl (hb hby dPK_28) rfl k) ?_
    show Way _ _ _ _ (s₁.setTop (mkF m 29 #[iv px, iv pz, iv (Int32.ofNat i)] [(.int (XT.ushr px (1 : Int32)))]))
    refine Way.by (fun _ k => XS.sipush XW.here hx rfl (hb hby dPK_29) k) ?_
    show Way _ _ _ _ (s₁.setTop (mkF m 32 #[iv px, iv pz, iv (Int32.ofNat i)] [(.int 255), (.int (XT.ushr px (1 : Int32)))]))
    refine Way.by (fun _ k => XS.iand XW.here hx rfl (hb hby dPK_32) rfl k) ?_
    show Way _ _ _ _ (s₁.setTop (mkF m 33 #[iv px, iv pz, iv (Int32.ofNat i)] [(.int ((XT.ushr px (1 : Int32)) &&& (255 : Int32)))]))
    refine Way.by (fun _ k => XT.i2c XW.here hx rfl (hb hby dPK_33) rfl k) ?_
    show Way _ _ _ _ (s₁.setTop (mkF m 34 #[iv px, iv pz, iv (Int32.ofNat i)] [(.int ((XT.ushr px (1 : Int32)) &&& (255 : Int32)).toUInt32.toUInt16.toUInt32.toInt32)]))
    refine Way.retH (v := (some (.int (nar .char ((XT.ushr px (1 : Int32)) &&& (255 : Int32)).toUInt32.toUInt16.toUInt32.toInt32)))) XW hS0 (by rw [e0]; exact (Nat.zero_le _)) hZ0 hEL hh e0 HV0 CH0 hlk (fun h => by rw [Bd.returns] at h; cases h) (fun fs hr => retN XW hx (t := .char) Bd.returns (by simp) (hb hby dPK_34) hr) ?_ (by decide) (by decide)
    show QPK Z px pz i h0 n0 _ s₁.heap _
    rw [e0]
    exact ⟨(nar .char ((XT.ushr px (1 : Int32)) &&& (255 : Int32)).toUInt32.toUInt16.toUInt32.toInt32), rfl, N0, (Keep.refl h0 []), own_255 _⟩
def QCH0 (Z : State) (cc0 : Int32) (cc1 : Int32) (cc2 : Int32) (cc3 : Int32) (cc4 : Int32) (h0 : Heap) (n0 : Nat) (v : Option Value) (h : Heap) (L : List Loc) : Prop := ∃ (pe : Addr) (kk : ClassId), v = some (.ref pe) ∧ Fr n0 L ∧ Keep h0 h [] ∧ h0.size ≤ pe ∧ Arv Z h pe kk .char (0 : Int32) [] (.int 0)
theorem dCH0_0 : decode method_4_code 0 = .ok (.iload_n 0, 1) := by decide +kernel
theorem dCH0_1 : decode method_4_code 1 = .ok (.ifCond .ne 7, 3) := by decide +kernel
theorem dCH0_4 : decode method_4_code 4 = .ok (.iconst 0, 1) := by decide +kernel
theorem dCH0_5 : decode method_4_code 5 = .ok (.newarray .char, 2) := by decide +kernel
theorem dCH0_7 : decode method_4_code 7 = .ok (.areturn, 1) := by decide +kernel
theorem pdCH0 : parseMethodDescriptor "(ICCCCC)[C" = some ⟨[.int, .char, .char, .char, .char, .char], some (.array .char)⟩ := by decide +kernel
set_option maxRecDepth 65536 in
set_option maxHeartbeats 40000000 in
theorem rmCH0 (l : Launch) (Z : State) (a0 : Array Value) (hw : ∀ d ∈ tables_1, d.before a0 Z = true) (ws : List Jvm.Cond) (cc0 : Int32) (cc1 : Int32) (cc2 : Int32) (cc3 : Int32) (cc4 : Int32) (h0 : Heap) (n0 : Nat) (Z0 : n0 ≤ h0.size) (hb0 : ¬ cc0 < 0 ∧ ¬ (255 : Int32) < cc0) (hb1 : ¬ cc1 < 0 ∧ ¬ (255 : Int32) < cc1) (hb2 : ¬ cc2 < 0 ∧ ¬ (255 : Int32) < cc2) (hb3 : ¬ cc3 < 0 ∧ ¬ (255 : Int32) < cc3) (hb4 : ¬ cc4 < 0 ∧ ¬ (255 : Int32) < cc4) :
    MetFree l (⟨"com/example/bare_orm/bareorm/MappingReaderTrueOrFalsePinLaw", "chars", "(ICCCCC)[C"⟩ : MethodName) (head1 (Jvm.Cond.code (⟨"com/example/bare_orm/bareorm/MappingReaderTrueOrFalsePinLaw", "chars", "(ICCCCC)[C"⟩ : MethodName) method_4_code 6 (some (.array .char)) :: ws) ({ frames := 0, cells := 1, slots := 0, locals := 0 } : Room)) (fun aa U => aa = #[(.int 0), (.int cc0), (.int cc1), (.int cc2), (.int cc3), (.int cc4)] ∧ Z.Warmed39 U.vm ∧ U.heap = h0) (fun _ _ _ _ _ => True) (fun _ U oo U' => ∃ v L, oo = .returned v ∧ QCH0 Z cc0 cc1 cc2 cc3 cc4 h0 n0 v U'.heap L ∧ FrameEnd U oo U' L ({ frames := 0, cells := 1, slots := 0, locals := 0 } : Room).cells ({ frames := 0, cells := 1, slots := 0, locals := 0 } : Room).slots) := by
  refine MetFree.of_bodySF (plainFor_of_name pnPK) hisR ?_
  intro p e s m args below meth c s₁ Bd hml0 hP hK
  obtain ⟨rfl, hZ, hh⟩ := hP
  have hx := Bd.exec
  have hby := Bd.bytes
  have hlk : meth.locks = false := BodyLoose.notSynchronized Bd
  have hml : c.maxLocals = 6 := hml0
  have hown : s.vm.findClass "com/example/bare_orm/bareorm/MappingReaderTrueOrFalsePinLaw" = some m.cls := findClass_of_methodNamed Bd.named
  have hnm := (name_of_methodNamed Bd.named Bd.method).1
  have X0 : Stand p l e ({ frames := 0, cells := 1, slots := 0, locals := 0 } : Room) s m #[(.int 0), (.int cc0), (.int cc1), (.int cc2), (.int cc3), (.int cc4)] below meth c s₁ [] 0 0 := Stand.of_body Bd
  have e0 : s₁.heap = h0 := by rw [← hh, Bd.state]; rfl
  have N0 := Fr.nil n0
  have ef : entryFrame m #[(.int 0), (.int cc0), (.int cc1), (.int cc2), (.int cc3), (.int cc4)] 6 = mkF m 0 #[iv 0, iv cc0, iv cc1, iv cc2, iv cc3, iv cc4] [] := by first | (simp [entryFrame, mkF, argsToLocals, Value.category, maxLocals]; done) | rfl
  show Way p.tables e below (KQ s (QCH0 Z cc0 cc1 cc2 cc3 cc4 h0 n0) ({ frames := 0, cells := 1, slots := 0, locals := 0 } : Room).cells ({ frames := 0, cells := 1, slots := 0, locals := 0 } : Room).slots) (s₁.setTop (entryFrame m #[(.int 0), (.int cc0), (.int cc1), (.int cc2), (.int cc3), (.int cc4)] 6))
  rw [ef]
  refine Way.by (fun _ k => XS.iloadN X0.here hx rfl (hb hby dCH0_0) rfl k) ?_
  show Way _ _ _ _ (s₁.setTop (mkF m 1 #[iv 0, iv cc0, iv cc1, iv cc2, iv cc3, iv cc4] [(.int 0)]))
  have b1 : (0 : Int32) = (0 : Int32) := by decide
  refine Way.by (fun _ k => XS.ifNo X0.here hx rfl (hb hby dCH0_1) rfl ((if0 .ne _).trans (teq b1).2) k) ?_
  show Way _ _ _ _ (s₁.setTop (mkF m 4 #[iv 0, iv cc0, iv cc1, iv cc2, iv cc3, iv cc4] []))
  refine Way.by (fun _ k => XS.iconst X0.here hx rfl (hb hby dCH0_4) k) ?_
  show Way _ _ _ _ (s₁.setTop (mkF m 5 #[iv 0, iv cc0, iv cc1, iv cc2, iv cc3, iv cc4] [(.int 0)]))
  obtain ⟨T2, h3, kc4, X5, e6, E7, A8, st9⟩ := newP X0 hx hZ (tw hw 54 rfl) e0 (g := (mkF m 5 #[iv 0, iv cc0, iv cc1, iv cc2, iv cc3, iv cc4] [(.int 0)])) rfl (hb hby dCH0_5) rfl (by decide) (cap := 0) (by decide) (by decide) (by decide) (by decide)
  obtain ⟨a10, g11⟩ : ∃ z, z = h0.size := ⟨_, rfl⟩
  rw [← g11] at A8 st9
  have nw13 : n0 ≤ a10 := Nat.le_trans Z0 (Nat.le_of_eq g11.symm)
  have hk14 : h0.size ≤ a10 := Nat.le_trans (Nat.le_refl h0.size) (Nat.le_of_eq g11.symm)
  have Z15 := Nat.le_trans Z0 E7.1
  have K16 := (Keep.refl h0 []).ext E7
  have hz17 := Nat.le_trans (Nat.le_refl h0.size) E7.1
  have V12 : Arv Z h3 a10 kc4 .char (0 : Int32) [] (.int 0) := Arv.new A8 (by decide)
  refine Way.by st9 ?_
  show Way _ _ _ _ (T2.setTop (mkF m 7 #[iv 0, iv cc0, iv cc1, iv cc2, iv cc3, iv cc4] [(.ref a10)]))
  refine Way.ret (v := (some (.ref a10))) X5 hlk (fun h => by rw [Bd.returns] at h; cases h) (fun fs hr => retOut X5 hx Bd.returns rfl (Or.inr (Or.inr (Or.inr (Or.inr ⟨rfl, rfl, rfl⟩)))) (hb hby dCH0_7) hr) ?_ (by decide) (by decide)
  show QCH0 Z cc0 cc1 cc2 cc3 cc4 h0 n0 _ T2.heap _
  rw [e6]
  exact ⟨a10, kc4, rfl, N0, K16, hk14, V12⟩
def QCH1 (Z : State) (cc0 : Int32) (cc1 : Int32) (cc2 : Int32) (cc3 : Int32) (cc4 : Int32) (h0 : Heap) (n0 : Nat) (v : Option Value) (h : Heap) (L : List Loc) : Prop := ∃ (pe : Addr) (kk : ClassId), v = some (.ref pe) ∧ Fr n0 L ∧ Keep h0 h [] ∧ h0.size ≤ pe ∧ Arv Z h pe kk .char (1 : Int32) [(.int cc0)] (.int 0)
theorem dCH1_8 : decode method_4_code 8 = .ok (.iload_n 0, 1) := by decide +kernel
theorem dCH1_9 : decode method_4_code 9 = .ok (.iconst 1, 1) := by decide +kernel
theorem dCH1_10 : decode method_4_code 10 = .ok (.if_icmp .ne 11, 3) := by decide +kernel
theorem dCH1_13 : decode method_4_code 13 = .ok (.iconst 1, 1) := by decide +kernel
theorem dCH1_14 : decode method_4_code 14 = .ok (.newarray .char, 2) := by decide +kernel
theorem dCH1_16 : decode method_4_code 16 = .ok (.dup, 1) := by decide +kernel
theorem dCH1_17 : decode method_4_code 17 = .ok (.iconst 0, 1) := by decide +kernel
theorem dCH1_18 : decode method_4_code 18 = .ok (.iload_n 1, 1) := by decide +kernel
theorem dCH1_19 : decode method_4_code 19 = .ok (.castore, 1) := by decide +kernel
theorem dCH1_20 : decode method_4_code 20 = .ok (.areturn, 1) := by decide +kernel
set_option maxRecDepth 65536 in
set_option maxHeartbeats 40000000 in
theorem rmCH1 (l : Launch) (Z : State) (a0 : Array Value) (hw : ∀ d ∈ tables_1, d.before a0 Z = true) (ws : List Jvm.Cond) (cc0 : Int32) (cc1 : Int32) (cc2 : Int32) (cc3 : Int32) (cc4 : Int32) (h0 : Heap) (n0 : Nat) (Z0 : n0 ≤ h0.size) (hb0 : ¬ cc0 < 0 ∧ ¬ (255 : Int32) < cc0) (hb1 : ¬ cc1 < 0 ∧ ¬ (255 : Int32) < cc1) (hb2 : ¬ cc2 < 0 ∧ ¬ (255 : Int32) < cc2) (hb3 : ¬ cc3 < 0 ∧ ¬ (255 : Int32) < cc3) (hb4 : ¬ cc4 < 0 ∧ ¬ (255 : Int32) < cc4) :
    MetFree l (⟨"com/example/bare_orm/bareorm/MappingReaderTrueOrFalsePinLaw", "chars", "(ICCCCC)[C"⟩ : MethodName) (head1 (Jvm.Cond.code (⟨"com/example/bare_orm/bareorm/MappingReaderTrueOrFalsePinLaw", "chars", "(ICCCCC)[C"⟩ : MethodName) method_4_code 6 (some (.array .char)) :: ws) ({ frames := 0, cells := 1, slots := 1, locals := 0 } : Room)) (fun aa U => aa = #[(.int 1), (.int cc0), (.int cc1), (.int cc2), (.int cc3), (.int cc4)] ∧ Z.Warmed39 U.vm ∧ U.heap = h0) (fun _ _ _ _ _ => True) (fun _ U oo U' => ∃ v L, oo = .returned v ∧ QCH1 Z cc0 cc1 cc2 cc3 cc4 h0 n0 v U'.heap L ∧ FrameEnd U oo U' L ({ frames := 0, cells := 1, slots := 1, locals := 0 } : Room).cells ({ frames := 0, cells := 1, slots := 1, locals := 0 } : Room).slots) := by
  refine MetFree.of_bodySF (plainFor_of_name pnPK) hisR ?_
  intro p e s m args below meth c s₁ Bd hml0 hP hK
  obtain ⟨rfl, hZ, hh⟩ := hP
  have hx := Bd.exec
  have hby := Bd.bytes
  have hlk : meth.locks = false := BodyLoose.notSynchronized Bd
  have hml : c.maxLocals = 6 := hml0
  have hown : s.vm.findClass "com/example/bare_orm/bareorm/MappingReaderTrueOrFalsePinLaw" = some m.cls := findClass_of_methodNamed Bd.named
  have hnm := (name_of_methodNamed Bd.named Bd.method).1
  have X0 : Stand p l e ({ frames := 0, cells := 1, slots := 1, locals := 0 } : Room) s m #[(.int 1), (.int cc0), (.int cc1), (.int cc2), (.int cc3), (.int cc4)] below meth c s₁ [] 0 0 := Stand.of_body Bd
  have e0 : s₁.heap = h0 := by rw [← hh, Bd.state]; rfl
  have N0 := Fr.nil n0
  have ef : entryFrame m #[(.int 1), (.int cc0), (.int cc1), (.int cc2), (.int cc3), (.int cc4)] 6 = mkF m 0 #[iv 1, iv cc0, iv cc1, iv cc2, iv cc3, iv cc4] [] := by first | (simp [entryFrame, mkF, argsToLocals, Value.category, maxLocals]; done) | rfl
  show Way p.tables e below (KQ s (QCH1 Z cc0 cc1 cc2 cc3 cc4 h0 n0) ({ frames := 0, cells := 1, slots := 1, locals := 0 } : Room).cells ({ frames := 0, cells := 1, slots := 1, locals := 0 } : Room).slots) (s₁.setTop (entryFrame m #[(.int 1), (.int cc0), (.int cc1), (.int cc2), (.int cc3), (.int cc4)] 6))
  rw [ef]
  refine Way.by (fun _ k => XS.iloadN X0.here hx rfl (hb hby dCH0_0) rfl k) ?_
  show Way _ _ _ _ (s₁.setTop (mkF m 1 #[iv 1, iv cc0, iv cc1, iv cc2, iv cc3, iv cc4] [(.int 1)]))
  have b1 : ¬ (1 : Int32) = (0 : Int32) := by decide
  refine Way.by (fun _ k => XS.ifYes X0.here hx rfl (pc0 := 1) (pc' := 8) rfl (hb hby dCH0_1) rfl ((if0 .ne _).trans (feq b1).2) (by decide) (by decide) k) ?_
  show Way _ _ _ _ (s₁.setTop (mkF m 8 #[iv 1, iv cc0, iv cc1, iv cc2, iv cc3, iv cc4] []))
  refine Way.by (fun _ k => XS.iloadN X0.here hx rfl (hb hby dCH1_8) rfl k) ?_
  show Way _ _ _ _ (s₁.setTop (mkF m 9 #[iv 1, iv cc0, iv cc1, iv cc2, iv cc3, iv cc4] [(.int 1)]))
  refine Way.by (fun _ k => XS.iconst X0.here hx rfl (hb hby dCH1_9) k) ?_
  show Way _ _ _ _ (s₁.setTop (mkF m 10 #[iv 1, iv cc0, iv cc1, iv cc2, iv cc3, iv cc4] [(.int 1), (.int 1)]))
  have b2 : (1 : Int32) = (1 : Int32) := by decide
  refine Way.by (fun _ k => XS.icmpNo X0.here hx rfl (hb hby dCH1_10) rfl (teq b2).2 k) ?_
  show Way _ _ _ _ (s₁.setTop (mkF m 13 #[iv 1, iv cc0, iv cc1, iv cc2, iv cc3, iv cc4] []))
  refine Way.by (fun _ k => XS.iconst X0.here hx rfl (hb hby dCH1_13) k) ?_
  show Way _ _ _ _ (s₁.setTop (mkF m 14 #[iv 1, iv cc0, iv cc1, iv cc2, iv cc3, iv cc4] [(.int 1)]))
  obtain ⟨T3, h4, kc5, X6, e7, E8, A9, st10⟩ := newP X0 hx hZ (tw hw 54 rfl) e0 (g := (mkF m 14 #[iv 1, iv cc0, iv cc1, iv cc2, iv cc3, iv cc4] [(.int 1)])) rfl (hb hby dCH1_14) rfl (by decide) (cap := 1) (by decide) (by decide) (by decide) (by decide)
  obtain ⟨a11, g12⟩ : ∃ z, z = h0.size := ⟨_, rfl⟩
  rw [← g12] at A9 st10
  have nw14 : n0 ≤ a11 := Nat.le_trans Z0 (Nat.le_of_eq g12.symm)
  have hk15 : h0.size ≤ a11 := Nat.le_trans (Nat.le_refl h0.size) (Nat.le_of_eq g12.symm)
  have Z16 := Nat.le_trans Z0 E8.1
  have K17 := (Keep.refl h0 []).ext E8
  have hz18 := Nat.le_trans (Nat.le_refl h0.size) E8.1
  have V13 : Arv Z h4 a11 kc5 .char (1 : Int32) [] (.int 0) := Arv.new A9 (by decide)
  refine Way.by st10 ?_
  show Way _ _ _ _ (T3.setTop (mkF m 16 #[iv 1, iv cc0, iv cc1, iv cc2, iv cc3, iv cc4] [(.ref a11)]))
  refine Way.by (fun _ k => XS.dup X6.here hx rfl (hb hby dCH1_16) rfl rfl k) ?_
  show Way _ _ _ _ (T3.setTop (mkF m 17 #[iv 1, iv cc0, iv cc1, iv cc2, iv cc3, iv cc4] [(.ref a11), (.ref a11)]))
  refine Way.by (fun _ k => XS.iconst X6.here hx rfl (hb hby dCH1_17) k) ?_
  show Way _ _ _ _ (T3.setTop (mkF m 18 #[iv 1, iv cc0, iv cc1, iv cc2, iv cc3, iv cc4] [(.int 0), (.ref a11), (.ref a11)]))
  refine Way.by (fun _ k => XS.iloadN X6.here hx rfl (hb hby dCH1_18) rfl k) ?_
  show Way _ _ _ _ (T3.setTop (mkF m 19 #[iv 1, iv cc0, iv cc1, iv cc2, iv cc3, iv cc4] [(.int cc0), (.int 0), (.ref a11), (.ref a11)]))
  have V19 : Arv Z h4 a11 kc5 .char (1 : Int32) [(.int 0)] (.int 0) := V13.pad (pad_rep [] (.int 0) 1)
  obtain ⟨c20, A21, q22, S23, M24, H25, U26⟩ := id V19
  obtain ⟨T27, h28, X29, e30, W31, st32⟩ := stC X6 hx hZ e7 A21 (j := (0 : Int32)) (inb_of S23 ⟨(by decide), (by decide)⟩) (g := (mkF m 19 #[iv 1, iv cc0, iv cc1, iv cc2, iv cc3, iv cc4] [(.int cc0), (.int 0), (.ref a11), (.ref a11)])) rfl rfl (hb hby dCH1_19)
  have N33 := Fr.snoc X29 N0 nw14
  have V34 : Arv Z h28 a11 kc5 .char (1 : Int32) [(.int (nar .char cc0))] (.int 0) := Arv.set A21 q22 S23 M24 H25 U26 (fits_nar_char _) W31 0 rfl (leB rfl)
  have nq36 : nar .char cc0 = cc0 := own_nb hb0
  have V35 : Arv Z h28 a11 kc5 .char (1 : Int32) [(.int cc0)] (.int 0) := by rw [nq36] at V34; exact V34
  have Z37 : n0 ≤ h28.size := by rw [W31.size]; exact Z16
  have K38 := K17.wr W31 (Or.inr hk15)
  have hz39 : h0.size ≤ h28.size := by rw [W31.size]; exact hz18
  refine Way.by st32 ?_
  show Way _ _ _ _ (T27.setTop (mkF m 20 #[iv 1, iv cc0, iv cc1, iv cc2, iv cc3, iv cc4] [(.ref a11)]))
  refine Way.ret (v := (some (.ref a11))) X29 hlk (fun h => by rw [Bd.returns] at h; cases h) (fun fs hr => retOut X29 hx Bd.returns rfl (Or.inr (Or.inr (Or.inr (Or.inr ⟨rfl, rfl, rfl⟩)))) (hb hby dCH1_20) hr) ?_ (by decide) (by decide)
  show QCH1 Z cc0 cc1 cc2 cc3 cc4 h0 n0 _ T27.heap _
  rw [e30]
  exact ⟨a11, kc5, rfl, N33, K38, hk15, V35⟩
def QCH2 (Z : State) (cc0 : Int32) (cc1 : Int32) (cc2 : Int32) (cc3 : Int32) (cc4 : Int32) (h0 : Heap) (n0 : Nat) (v : Option Value) (h : Heap) (L : List Loc) : Prop := ∃ (pe : Addr) (kk : ClassId), v = some (.ref pe) ∧ Fr n0 L ∧ Keep h0 h [] ∧ h0.size ≤ pe ∧ Arv Z h pe kk .char (2 : Int32) [(.int cc0), (.int cc1)] (.int 0)
theorem dCH2_21 : decode method_4_code 21 = .ok (.iload_n 0, 1) := by decide +kernel
theorem dCH2_22 : decode method_4_code 22 = .ok (.iconst 2, 1) := by decide +kernel
theorem dCH2_23 : decode method_4_code 23 = .ok (.if_icmp .ne 15, 3) := by decide +kernel
theorem dCH2_26 : decode method_4_code 26 = .ok (.iconst 2, 1) := by decide +kernel
theorem dCH2_27 : decode method_4_code 27 = .ok (.newarray .char, 2) := by decide +kernel
theorem dCH2_29 : decode method_4_code 29 = .ok (.dup, 1) := by decide +kernel
theorem dCH2_30 : decode method_4_code 30 = .ok (.iconst 0, 1) := by decide +kernel
theorem dCH2_31 : decode method_4_code 31 = .ok (.iload_n 1, 1) := by decide +kernel
theorem dCH2_32 : decode method_4_code 32 = .ok (.castore, 1) := by decide +kernel
theorem dCH2_33 : decode method_4_code 33 = .ok (.dup, 1) := by decide +kernel
theorem dCH2_34 : decode method_4_code 34 = .ok (.iconst 1, 1) := by decide +kernel
theorem dCH2_35 : decode method_4_code 35 = .ok (.iload_n 2, 1) := by decide +kernel
theorem dCH2_36 : decode method_4_code 36 = .ok (.castore, 1) := by decide +kernel
theorem dCH2_37 : decode method_4_code 37 = .ok (.areturn, 1) := by decide +kernel
set_option maxRecDepth 65536 in
set_option maxHeartbeats 40000000 in
theorem rmCH2 (l : Launch) (Z : State) (a0 : Array Value) (hw : ∀ d ∈ tables_1, d.before a0 Z = true) (ws : List Jvm.Cond) (cc0 : Int32) (cc1 : Int32) (cc2 : Int32) (cc3 : Int32) (cc4 : Int32) (h0 : Heap) (n0 : Nat) (Z0 : n0 ≤ h0.size) (hb0 : ¬ cc0 < 0 ∧ ¬ (255 : Int32) < cc0) (hb1 : ¬ cc1 < 0 ∧ ¬ (255 : Int32) < cc1) (hb2 : ¬ cc2 < 0 ∧ ¬ (255 : Int32) < cc2) (hb3 : ¬ cc3 < 0 ∧ ¬ (255 : Int32) < cc3) (hb4 : ¬ cc4 < 0 ∧ ¬ (255 : Int32) < cc4) :
    MetFree l (⟨"com/example/bare_orm/bareorm/MappingReaderTrueOrFalsePinLaw", "chars", "(ICCCCC)[C"⟩ : MethodName) (head1 (Jvm.Cond.code (⟨"com/example/bare_orm/bareorm/MappingReaderTrueOrFalsePinLaw", "chars", "(ICCCCC)[C"⟩ : MethodName) method_4_code 6 (some (.array .char)) :: ws) ({ frames := 0, cells := 1, slots := 2, locals := 0 } : Room)) (fun aa U => aa = #[(.int 2), (.int cc0), (.int cc1), (.int cc2), (.int cc3), (.int cc4)] ∧ Z.Warmed39 U.vm ∧ U.heap = h0) (fun _ _ _ _ _ => True) (fun _ U oo U' => ∃ v L, oo = .returned v ∧ QCH2 Z cc0 cc1 cc2 cc3 cc4 h0 n0 v U'.heap L ∧ FrameEnd U oo U' L ({ frames := 0, cells := 1, slots := 2, locals := 0 } : Room).cells ({ frames := 0, cells := 1, slots := 2, locals := 0 } : Room).slots) := by
  refine MetFree.of_bodySF (plainFor_of_name pnPK) hisR ?_
  intro p e s m args below meth c s₁ Bd hml0 hP hK
  obtain ⟨rfl, hZ, hh⟩ := hP
  have hx := Bd.exec
  have hby := Bd.bytes
  have hlk : meth.locks = false := BodyLoose.notSynchronized Bd
  have hml : c.maxLocals = 6 := hml0
  have hown : s.vm.findClass "com/example/bare_orm/bareorm/MappingReaderTrueOrFalsePinLaw" = some m.cls := findClass_of_methodNamed Bd.named
  have hnm := (name_of_methodNamed Bd.named Bd.method).1
  have X0 : Stand p l e ({ frames := 0, cells := 1, slots := 2, locals := 0 } : Room) s m #[(.int 2), (.int cc0), (.int cc1), (.int cc2), (.int cc3), (.int cc4)] below meth c s₁ [] 0 0 := Stand.of_body Bd
  have e0 : s₁.heap = h0 := by rw [← hh, Bd.state]; rfl
  have N0 := Fr.nil n0
  have ef : entryFrame m #[(.int 2), (.int cc0), (.int cc1), (.int cc2), (.int cc3), (.int cc4)] 6 = mkF m 0 #[iv 2, iv cc0, iv cc1, iv cc2, iv cc3, iv cc4] [] := by first | (simp [entryFrame, mkF, argsToLocals, Value.category, maxLocals]; done) | rfl
  show Way p.tables e below (KQ s (QCH2 Z cc0 cc1 cc2 cc3 cc4 h0 n0) ({ frames := 0, cells := 1, slots := 2, locals := 0 } : Room).cells ({ frames := 0, cells := 1, slots := 2, locals := 0 } : Room).slots) (s₁.setTop (entryFrame m #[(.int 2), (.int cc0), (.int cc1), (.int cc2), (.int cc3), (.int cc4)] 6))
  rw [ef]
  refine Way.by (fun _ k => XS.iloadN X0.here hx rfl (hb hby dCH0_0) rfl k) ?_
  show Way _ _ _ _ (s₁.setTop (mkF m 1 #[iv 2, iv cc0, iv cc1, iv cc2, iv cc3, iv cc4] [(.int 2)]))
  have b1 : ¬ (2 : Int32) = (0 : Int32) := by decide
  refine Way.by (fun _ k => XS.ifYes X0.here hx rfl (pc0 := 1) (pc' := 8) rfl (hb hby dCH0_1) rfl ((if0 .ne _).trans (feq b1).2) (by decide) (by decide) k) ?_
  show Way _ _ _ _ (s₁.setTop (mkF m 8 #[iv 2, iv cc0, iv cc1, iv cc2, iv cc3, iv cc4] []))
  refine Way.by (fun _ k => XS.iloadN X0.here hx rfl (hb hby dCH1_8) rfl k) ?_
  show Way _ _ _ _ (s₁.setTop (mkF m 9 #[iv 2, iv cc0, iv cc1, iv cc2, iv cc3, iv cc4] [(.int 2)]))
  refine Way.by (fun _ k => XS.iconst X0.here hx rfl (hb hby dCH1_9) k) ?_
  show Way _ _ _ _ (s₁.setTop (mkF m 10 #[iv 2, iv cc0, iv cc1, iv cc2, iv cc3, iv cc4] [(.int 1), (.int 2)]))
  have b2 : ¬ (2 : Int32) = (1 : Int32) := by decide
  refine Way.by (fun _ k => XS.icmpYes X0.here hx rfl (pc0 := 10) (pc' := 21) rfl (hb hby dCH1_10) rfl (feq b2).2 (by decide) (by decide) k) ?_
  show Way _ _ _ _ (s₁.setTop (mkF m 21 #[iv 2, iv cc0, iv cc1, iv cc2, iv cc3, iv cc4] []))
  refine Way.by (fun _ k => XS.iloadN X0.here hx rfl (hb hby dCH2_21) rfl k) ?_
  show Way _ _ _ _ (s₁.setTop (mkF m 22 #[iv 2, iv cc0, iv cc1, iv cc2, iv cc3, iv cc4] [(.int 2)]))
  refine Way.by (fun _ k => XS.iconst X0.here hx rfl (hb hby dCH2_22) k) ?_
  show Way _ _ _ _ (s₁.setTop (mkF m 23 #[iv 2, iv cc0, iv cc1, iv cc2, iv cc3, iv cc4] [(.int 2), (.int 2)]))
  have b3 : (2 : Int32) = (2 : Int32) := by decide
  refine Way.by (fun _ k => XS.icmpNo X0.here hx rfl (hb hby dCH2_23) rfl (teq b3).2 k) ?_
  show Way _ _ _ _ (s₁.setTop (mkF m 26 #[iv 2, iv cc0, iv cc1, iv cc2, iv cc3, iv cc4] []))
  refine Way.by (fun _ k => XS.iconst X0.here hx rfl (hb hby dCH2_26) k) ?_
  show Way _ _ _ _ (s₁.setTop (mkF m 27 #[iv 2, iv cc0, iv cc1, iv cc2, iv cc3, iv cc4] [(.int 2)]))
  obtain ⟨T4, h5, kc6, X7, e8, E9, A10, st11⟩ := newP X0 hx hZ (tw hw 54 rfl) e0 (g := (mkF m 27 #[iv 2, iv cc0, iv cc1, iv cc2, iv cc3, iv cc4] [(.int 2)])) rfl (hb hby dCH2_27) rfl (by decide) (cap := 2) (by decide) (by decide) (by decide) (by decide)
  obtain ⟨a12, g13⟩ : ∃ z, z = h0.size := ⟨_, rfl⟩
  rw [← g13] at A10 st11
  have nw15 : n0 ≤ a12 := Nat.le_trans Z0 (Nat.le_of_eq g13.symm)
  have hk16 : h0.size ≤ a12 := Nat.le_trans (Nat.le_refl h0.size) (Nat.le_of_eq g13.symm)
  have Z17 := Nat.le_trans Z0 E9.1
  have K18 := (Keep.refl h0 []).ext E9
  have hz19 := Nat.le_trans (Nat.le_refl h0.size) E9.1
  have V14 : Arv Z h5 a12 kc6 .char (2 : Int32) [] (.int 0) := Arv.new A10 (by decide)
  refine Way.by st11 ?_
  show Way _ _ _ _ (T4.setTop (mkF m 29 #[iv 2, iv cc0, iv cc1, iv cc2, iv cc3, iv cc4] [(.ref a12)]))
  refine Way.by (fun _ k => XS.dup X7.here hx rfl (hb hby dCH2_29) rfl rfl k) ?_
  show Way _ _ _ _ (T4.setTop (mkF m 30 #[iv 2, iv cc0, iv cc1, iv cc2, iv cc3, iv cc4] [(.ref a12), (.ref a12)]))
  refine Way.by (fun _ k => XS.iconst X7.here hx rfl (hb hby dCH2_30) k) ?_
  show Way _ _ _ _ (T4.setTop (mkF m 31 #[iv 2, iv cc0, iv cc1, iv cc2, iv cc3, iv cc4] [(.int 0), (.ref a12), (.ref a12)]))
  refine Way.by (fun _ k => XS.iloadN X7.here hx rfl (hb hby dCH2_31) rfl k) ?_
  show Way _ _ _ _ (T4.setTop (mkF m 32 #[iv 2, iv cc0, iv cc1, iv cc2, iv cc3, iv cc4] [(.int cc0), (.int 0), (.ref a12), (.ref a12)]))
  have V20 : Arv Z h5 a12 kc6 .char (2 : Int32) [(.int 0)] (.int 0) := V14.pad (pad_rep [] (.int 0) 1)
  obtain ⟨c21, A22, q23, S24, M25, H26, U27⟩ := id V20
  obtain ⟨T28, h29, X30, e31, W32, st33⟩ := stC X7 hx hZ e8 A22 (j := (0 : Int32)) (inb_of S24 ⟨(by decide), (by decide)⟩) (g := (mkF m 32 #[iv 2, iv cc0, iv cc1, iv cc2, iv cc3, iv cc4] [(.int cc0), (.int 0), (.ref a12), (.ref a12)])) rfl rfl (hb hby dCH2_32)
  have N34 := Fr.snoc X30 N0 nw15
  have V35 : Arv Z h29 a12 kc6 .char (2 : Int32) [(.int (nar .char cc0))] (.int 0) := Arv.set A22 q23 S24 M25 H26 U27 (fits_nar_char _) W32 0 rfl (leB rfl)
  have nq37 : nar .char cc0 = cc0 := own_nb hb0
  have V36 : Arv Z h29 a12 kc6 .char (2 : Int32) [(.int cc0)] (.int 0) := by rw [nq37] at V35; exact V35
  have Z38 : n0 ≤ h29.size := by rw [W32.size]; exact Z17
  have K39 := K18.wr W32 (Or.inr hk16)
  have hz40 : h0.size ≤ h29.size := by rw [W32.size]; exact hz19
  refine Way.by st33 ?_
  show Way _ _ _ _ (T28.setTop (mkF m 33 #[iv 2, iv cc0, iv cc1, iv cc2, iv cc3, iv cc4] [(.ref a12)]))
  refine Way.by (fun _ k => XS.dup X30.here hx rfl (hb hby dCH2_33) rfl rfl k) ?_
  show Way _ _ _ _ (T28.setTop (mkF m 34 #[iv 2, iv cc0, iv cc1, iv cc2, iv cc3, iv cc4] [(.ref a12), (.ref a12)]))
  refine Way.by (fun _ k => XS.iconst X30.here hx rfl (hb hby dCH2_34) k) ?_
  show Way _ _ _ _ (T28.setTop (mkF m 35 #[iv 2, iv cc0, iv cc1, iv cc2, iv cc3, iv cc4] [(.int 1), (.ref a12), (.ref a12)]))
  refine Way.by (fun _ k => XS.iloadN X30.here hx rfl (hb hby dCH2_35) rfl k) ?_
  show Way _ _ _ _ (T28.setTop (mkF m 36 #[iv 2, iv cc0, iv cc1, iv cc2, iv cc3, iv cc4] [(.int cc1), (.int 1), (.ref a12), (.ref a12)]))
  have V41 : Arv Z h29 a12 kc6 .char (2 : Int32) [(.int cc0), (.int 0)] (.int 0) := V36.pad (pad_rep [(.int cc0)] (.int 0) 1)
  obtain ⟨c42, A43, q44, S45, M46, H47, U48⟩ := id V41
  obtain ⟨T49, h50, X51, e52, W53, st54⟩ := stC X30 hx hZ e31 A43 (j := (1 : Int32)) (inb_of S45 ⟨(by decide), (by decide)⟩) (g := (mkF m 36 #[iv 2, iv cc0, iv cc1, iv cc2, iv cc3, iv cc4] [(.int cc1), (.int 1), (.ref a12), (.ref a12)])) rfl rfl (hb hby dCH2_36)
  have N55 := Fr.snoc X51 N34 nw15
  have V56 : Arv Z h50 a12 kc6 .char (2 : Int32) [(.int cc0), (.int (nar .char cc1))] (.int 0) := Arv.set A43 q44 S45 M46 H47 U48 (fits_nar_char _) W53 1 rfl (leB rfl)
  have nq58 : nar .char cc1 = cc1 := own_nb hb1
  have V57 : Arv Z h50 a12 kc6 .char (2 : Int32) [(.int cc0), (.int cc1)] (.int 0) := by rw [nq58] at V56; exact V56
  have Z59 : n0 ≤ h50.size := by rw [W53.size]; exact Z38
  have K60 := K39.wr W53 (Or.inr hk16)
  have hz61 : h0.size ≤ h50.size := by rw [W53.size]; exact hz40
  refine Way.by st54 ?_
  show Way _ _ _ _ (T49.setTop (mkF m 37 #[iv 2, iv cc0, iv cc1, iv cc2, iv cc3, iv cc4] [(.ref a12)]))
  refine Way.ret (v := (some (.ref a12))) X51 hlk (fun h => by rw [Bd.returns] at h; cases h) (fun fs hr => retOut X51 hx Bd.returns rfl (Or.inr (Or.inr (Or.inr (Or.inr ⟨rfl, rfl, rfl⟩)))) (hb hby dCH2_37) hr) ?_ (by decide) (by decide)
  show QCH2 Z cc0 cc1 cc2 cc3 cc4 h0 n0 _ T49.heap _
  rw [e52]
  exact ⟨a12, kc6, rfl, N55, K60, hk16, V57⟩
def QCH3 (Z : State) (cc0 : Int32) (cc1 : Int32) (cc2 : Int32) (cc3 : Int32) (cc4 : Int32) (h0 : Heap) (n0 : Nat) (v : Option Value) (h : Heap) (L : List Loc) : Prop := ∃ (pe : Addr) (kk : ClassId), v = some (.ref pe) ∧ Fr n0 L ∧ Keep h0 h [] ∧ h0.size ≤ pe ∧ Arv Z h pe kk .char (3 : Int32) [(.int cc0), (.int cc1), (.int cc2)] (.int 0)
theorem dCH3_38 : decode method_4_code 38 = .ok (.iload_n 0, 1) := by decide +kernel
theorem dCH3_39 : decode method_4_code 39 = .ok (.iconst 3, 1) := by decide +kernel
theorem dCH3_40 : decode method_4_code 40 = .ok (.if_icmp .ne 19, 3) := by decide +kernel
theorem dCH3_43 : decode method_4_code 43 = .ok (.iconst 3, 1) := by decide +kernel
theorem dCH3_44 : decode method_4_code 44 = .ok (.newarray .char, 2) := by decide +kernel
theorem dCH3_46 : decode method_4_code 46 = .ok (.dup, 1) := by decide +kernel
theorem dCH3_47 : decode method_4_code 47 = .ok (.iconst 0, 1) := by decide +kernel
theorem dCH3_48 : decode method_4_code 48 = .ok (.iload_n 1, 1) := by decide +kernel
theorem dCH3_49 : decode method_4_code 49 = .ok (.castore, 1) := by decide +kernel
theorem dCH3_50 : decode method_4_code 50 = .ok (.dup, 1) := by decide +kernel
theorem dCH3_51 : decode method_4_code 51 = .ok (.iconst 1, 1) := by decide +kernel
theorem dCH3_52 : decode method_4_code 52 = .ok (.iload_n 2, 1) := by decide +kernel
theorem dCH3_53 : decode method_4_code 53 = .ok (.castore, 1) := by decide +kernel
theorem dCH3_54 : decode method_4_code 54 = .ok (.dup, 1) := by decide +kernel
theorem dCH3_55 : decode method_4_code 55 = .ok (.iconst 2, 1) := by decide +kernel
theorem dCH3_56 : decode method_4_code 56 = .ok (.iload_n 3, 1) := by decide +kernel
theorem dCH3_57 : decode method_4_code 57 = .ok (.castore, 1) := by decide +kernel
theorem dCH3_58 : decode method_4_code 58 = .ok (.areturn, 1) := by decide +kernel
set_option maxRecDepth 65536 in
set_option maxHeartbeats 40000000 in
theorem rmCH3 (l : Launch) (Z : State) (a0 : Array Value) (hw : ∀ d ∈ tables_1, d.before a0 Z = true) (ws : List Jvm.Cond) (cc0 : Int32) (cc1 : Int32) (cc2 : Int32) (cc3 : Int32) (cc4 : Int32) (h0 : Heap) (n0 : Nat) (Z0 : n0 ≤ h0.size) (hb0 : ¬ cc0 < 0 ∧ ¬ (255 : Int32) < cc0) (hb1 : ¬ cc1 < 0 ∧ ¬ (255 : Int32) < cc1) (hb2 : ¬ cc2 < 0 ∧ ¬ (255 : Int32) < cc2) (hb3 : ¬ cc3 < 0 ∧ ¬ (255 : Int32) < cc3) (hb4 : ¬ cc4 < 0 ∧ ¬ (255 : Int32) < cc4) :
    MetFree l (⟨"com/example/bare_orm/bareorm/MappingReaderTrueOrFalsePinLaw", "chars", "(ICCCCC)[C"⟩ : MethodName) (head1 (Jvm.Cond.code (⟨"com/example/bare_orm/bareorm/MappingReaderTrueOrFalsePinLaw", "chars", "(ICCCCC)[C"⟩ : MethodName) method_4_code 6 (some (.array .char)) :: ws) ({ frames := 0, cells := 1, slots := 3, locals := 0 } : Room)) (fun aa U => aa = #[(.int 3), (.int cc0), (.int cc1), (.int cc2), (.int cc3), (.int cc4)] ∧ Z.Warmed39 U.vm ∧ U.heap = h0) (fun _ _ _ _ _ => True) (fun _ U oo U' => ∃ v L, oo = .returned v ∧ QCH3 Z cc0 cc1 cc2 cc3 cc4 h0 n0 v U'.heap L ∧ FrameEnd U oo U' L ({ frames := 0, cells := 1, slots := 3, locals := 0 } : Room).cells ({ frames := 0, cells := 1, slots := 3, locals := 0 } : Room).slots) := by
  refine MetFree.of_bodySF (plainFor_of_name pnPK) hisR ?_
  intro p e s m args below meth c s₁ Bd hml0 hP hK
  obtain ⟨rfl, hZ, hh⟩ := hP
  have hx := Bd.exec
  have hby := Bd.bytes
  have hlk : meth.locks = false := BodyLoose.notSynchronized Bd
  have hml : c.maxLocals = 6 := hml0
  have hown : s.vm.findClass "com/example/bare_orm/bareorm/MappingReaderTrueOrFalsePinLaw" = some m.cls := findClass_of_methodNamed Bd.named
  have hnm := (name_of_methodNamed Bd.named Bd.method).1
  have X0 : Stand p l e ({ frames := 0, cells := 1, slots := 3, locals := 0 } : Room) s m #[(.int 3), (.int cc0), (.int cc1), (.int cc2), (.int cc3), (.int cc4)] below meth c s₁ [] 0 0 := Stand.of_body Bd
  have e0 : s₁.heap = h0 := by rw [← hh, Bd.state]; rfl
  have N0 := Fr.nil n0
  have ef : entryFrame m #[(.int 3), (.int cc0), (.int cc1), (.int cc2), (.int cc3), (.int cc4)] 6 = mkF m 0 #[iv 3, iv cc0, iv cc1, iv cc2, iv cc3, iv cc4] [] := by first | (simp [entryFrame, mkF, argsToLocals, Value.category, maxLocals]; done) | rfl
  show Way p.tables e below (KQ s (QCH3 Z cc0 cc1 cc2 cc3 cc4 h0 n0) ({ frames := 0, cells := 1, slots := 3, locals := 0 } : Room).cells ({ frames := 0, cells := 1, slots := 3, locals := 0 } : Room).slots) (s₁.setTop (entryFrame m #[(.int 3), (.int cc0), (.int cc1), (.int cc2), (.int cc3), (.int cc4)] 6))
  rw [ef]
  refine Way.by (fun _ k => XS.iloadN X0.here hx rfl (hb hby dCH0_0) rfl k) ?_
  show Way _ _ _ _ (s₁.setTop (mkF m 1 #[iv 3, iv cc0, iv cc1, iv cc2, iv cc3, iv cc4] [(.int 3)]))
  have b1 : ¬ (3 : Int32) = (0 : Int32) := by decide
  refine Way.by (fun _ k => XS.ifYes X0.here hx rfl (pc0 := 1) (pc' := 8) rfl (hb hby dCH0_1) rfl ((if0 .ne _).trans (feq b1).2) (by decide) (by decide) k) ?_
  show Way _ _ _ _ (s₁.setTop (mkF m 8 #[iv 3, iv cc0, iv cc1, iv cc2, iv cc3, iv cc4] []))
  refine Way.by (fun _ k => XS.iloadN X0.here hx rfl (hb hby dCH1_8) rfl k) ?_
  show Way _ _ _ _ (s₁.setTop (mkF m 9 #[iv 3, iv cc0, iv cc1, iv cc2, iv cc3, iv cc4] [(.int 3)]))
  refine Way.by (fun _ k => XS.iconst X0.here hx rfl (hb hby dCH1_9) k) ?_
  show Way _ _ _ _ (s₁.setTop (mkF m 10 #[iv 3, iv cc0, iv cc1, iv cc2, iv cc3, iv cc4] [(.int 1), (.int 3)]))
  have b2 : ¬ (3 : Int32) = (1 : Int32) := by decide
  refine Way.by (fun _ k => XS.icmpYes X0.here hx rfl (pc0 := 10) (pc' := 21) rfl (hb hby dCH1_10) rfl (feq b2).2 (by decide) (by decide) k) ?_
  show Way _ _ _ _ (s₁.setTop (mkF m 21 #[iv 3, iv cc0, iv cc1, iv cc2, iv cc3, iv cc4] []))
  refine Way.by (fun _ k => XS.iloadN X0.here hx rfl (hb hby dCH2_21) rfl k) ?_
  show Way _ _ _ _ (s₁.setTop (mkF m 22 #[iv 3, iv cc0, iv cc1, iv cc2, iv cc3, iv cc4] [(.int 3)]))
  refine Way.by (fun _ k => XS.iconst X0.here hx rfl (hb hby dCH2_22) k) ?_
  show Way _ _ _ _ (s₁.setTop (mkF m 23 #[iv 3, iv cc0, iv cc1, iv cc2, iv cc3, iv cc4] [(.int 2), (.int 3)]))
  have b3 : ¬ (3 : Int32) = (2 : Int32) := by decide
  refine Way.by (fun _ k => XS.icmpYes X0.here hx rfl (pc0 := 23) (pc' := 38) rfl (hb hby dCH2_23) rfl (feq b3).2 (by decide) (by decide) k) ?_
  show Way _ _ _ _ (s₁.setTop (mkF m 38 #[iv 3, iv cc0, iv cc1, iv cc2, iv cc3, iv cc4] []))
  refine Way.by (fun _ k => XS.iloadN X0.here hx rfl (hb hby dCH3_38) rfl k) ?_
  show Way _ _ _ _ (s₁.setTop (mkF m 39 #[iv 3, iv cc0, iv cc1, iv cc2, iv cc3, iv cc4] [(.int 3)]))
  refine Way.by (fun _ k => XS.iconst X0.here hx rfl (hb hby dCH3_39) k) ?_
  show Way _ _ _ _ (s₁.setTop (mkF m 40 #[iv 3, iv cc0, iv cc1, iv cc2, iv cc3, iv cc4] [(.int 3), (.int 3)]))
  have b4 : (3 : Int32) = (3 : Int32) := by decide
  refine Way.by (fun _ k => XS.icmpNo X0.here hx rfl (hb hby dCH3_40) rfl (teq b4).2 k) ?_
  show Way _ _ _ _ (s₁.setTop (mkF m 43 #[iv 3, iv cc0, iv cc1, iv cc2, iv cc3, iv cc4] []))
  refine Way.by (fun _ k => XS.iconst X0.here hx rfl (hb hby dCH3_43) k) ?_
  show Way _ _ _ _ (s₁.setTop (mkF m 44 #[iv 3, iv cc0, iv cc1, iv cc2, iv cc3, iv cc4] [(.int 3)]))
  obtain ⟨T5, h6, kc7, X8, e9, E10, A11, st12⟩ := newP X0 hx hZ (tw hw 54 rfl) e0 (g := (mkF m 44 #[iv 3, iv cc0, iv cc1, iv cc2, iv cc3, iv cc4] [(.int 3)])) rfl (hb hby dCH3_44) rfl (by decide) (cap := 3) (by decide) (by decide) (by decide) (by decide)
  obtain ⟨a13, g14⟩ : ∃ z, z = h0.size := ⟨_, rfl⟩
  rw [← g14] at A11 st12
  have nw16 : n0 ≤ a13 := Nat.le_trans Z0 (Nat.le_of_eq g14.symm)
  have hk17 : h0.size ≤ a13 := Nat.le_trans (Nat.le_refl h0.size) (Nat.le_of_eq g14.symm)
  have Z18 := Nat.le_trans Z0 E10.1
  have K19 := (Keep.refl h0 []).ext E10
  have hz20 := Nat.le_trans (Nat.le_refl h0.size) E10.1
  have V15 : Arv Z h6 a13 kc7 .char (3 : Int32) [] (.int 0) := Arv.new A11 (by decide)
  refine Way.by st12 ?_
  show Way _ _ _ _ (T5.setTop (mkF m 46 #[iv 3, iv cc0, iv cc1, iv cc2, iv cc3, iv cc4] [(.ref a13)]))
  refine Way.by (fun _ k => XS.dup X8.here hx rfl (hb hby dCH3_46) rfl rfl k) ?_
  show Way _ _ _ _ (T5.setTop (mkF m 47 #[iv 3, iv cc0, iv cc1, iv cc2, iv cc3, iv cc4] [(.ref a13), (.ref a13)]))
  refine Way.by (fun _ k => XS.iconst X8.here hx rfl (hb hby dCH3_47) k) ?_
  show Way _ _ _ _ (T5.setTop (mkF m 48 #[iv 3, iv cc0, iv cc1, iv cc2, iv cc3, iv cc4] [(.int 0), (.ref a13), (.ref a13)]))
  refine Way.by (fun _ k => XS.iloadN X8.here hx rfl (hb hby dCH3_48) rfl k) ?_
  show Way _ _ _ _ (T5.setTop (mkF m 49 #[iv 3, iv cc0, iv cc1, iv cc2, iv cc3, iv cc4] [(.int cc0), (.int 0), (.ref a13), (.ref a13)]))
  have V21 : Arv Z h6 a13 kc7 .char (3 : Int32) [(.int 0)] (.int 0) := V15.pad (pad_rep [] (.int 0) 1)
  obtain ⟨c22, A23, q24, S25, M26, H27, U28⟩ := id V21
  obtain ⟨T29, h30, X31, e32, W33, st34⟩ := stC X8 hx hZ e9 A23 (j := (0 : Int32)) (inb_of S25 ⟨(by decide), (by decide)⟩) (g := (mkF m 49 #[iv 3, iv cc0, iv cc1, iv cc2, iv cc3, iv cc4] [(.int cc0), (.int 0), (.ref a13), (.ref a13)])) rfl rfl (hb hby dCH3_49)
  have N35 := Fr.snoc X31 N0 nw16
  have V36 : Arv Z h30 a13 kc7 .char (3 : Int32) [(.int (nar .char cc0))] (.int 0) := Arv.set A23 q24 S25 M26 H27 U28 (fits_nar_char _) W33 0 rfl (leB rfl)
  have nq38 : nar .char cc0 = cc0 := own_nb hb0
  have V37 : Arv Z h30 a13 kc7 .char (3 : Int32) [(.int cc0)] (.int 0) := by rw [nq38] at V36; exact V36
  have Z39 : n0 ≤ h30.size := by rw [W33.size]; exact Z18
  have K40 := K19.wr W33 (Or.inr hk17)
  have hz41 : h0.size ≤ h30.size := by rw [W33.size]; exact hz20
  refine Way.by st34 ?_
  show Way _ _ _ _ (T29.setTop (mkF m 50 #[iv 3, iv cc0, iv cc1, iv cc2, iv cc3, iv cc4] [(.ref a13)]))
  refine Way.by (fun _ k => XS.dup X31.here hx rfl (hb hby dCH3_50) rfl rfl k) ?_
  show Way _ _ _ _ (T29.setTop (mkF m 51 #[iv 3, iv cc0, iv cc1, iv cc2, iv cc3, iv cc4] [(.ref a13), (.ref a13)]))
  refine Way.by (fun _ k => XS.iconst X31.here hx rfl (hb hby dCH3_51) k) ?_
  show Way _ _ _ _ (T29.setTop (mkF m 52 #[iv 3, iv cc0, iv cc1, iv cc2, iv cc3, iv cc4] [(.int 1), (.ref a13), (.ref a13)]))
  refine Way.by (fun _ k => XS.iloadN X31.here hx rfl (hb hby dCH3_52) rfl k) ?_
  show Way _ _ _ _ (T29.setTop (mkF m 53 #[iv 3, iv cc0, iv cc1, iv cc2, iv cc3, iv cc4] [(.int cc1), (.int 1), (.ref a13), (.ref a13)]))
  have V42 : Arv Z h30 a13 kc7 .char (3 : Int32) [(.int cc0), (.int 0)] (.int 0) := V37.pad (pad_rep [(.int cc0)] (.int 0) 1)
  obtain ⟨c43, A44, q45, S46, M47, H48, U49⟩ := id V42
  obtain ⟨T50, h51, X52, e53, W54, st55⟩ := stC X31 hx hZ e32 A44 (j := (1 : Int32)) (inb_of S46 ⟨(by decide), (by decide)⟩) (g := (mkF m 53 #[iv 3, iv cc0, iv cc1, iv cc2, iv cc3, iv cc4] [(.int cc1), (.int 1), (.ref a13), (.ref a13)])) rfl rfl (hb hby dCH3_53)
  have N56 := Fr.snoc X52 N35 nw16
  have V57 : Arv Z h51 a13 kc7 .char (3 : Int32) [(.int cc0), (.int (nar .char cc1))] (.int 0) := Arv.set A44 q45 S46 M47 H48 U49 (fits_nar_char _) W54 1 rfl (leB rfl)
  have nq59 : nar .char cc1 = cc1 := own_nb hb1
  have V58 : Arv Z h51 a13 kc7 .char (3 : Int32) [(.int cc0), (.int cc1)] (.int 0) := by rw [nq59] at V57; exact V57
  have Z60 : n0 ≤ h51.size := by rw [W54.size]; exact Z39
  have K61 := K40.wr W54 (Or.inr hk17)
  have hz62 : h0.size ≤ h51.size := by rw [W54.size]; exact hz41
  refine Way.by st55 ?_
  show Way _ _ _ _ (T50.setTop (mkF m 54 #[iv 3, iv cc0, iv cc1, iv cc2, iv cc3, iv cc4] [(.ref a13)]))
  refine Way.by (fun _ k => XS.dup X52.here hx rfl (hb hby dCH3_54) rfl rfl k) ?_
  show Way _ _ _ _ (T50.setTop (mkF m 55 #[iv 3, iv cc0, iv cc1, iv cc2, iv cc3, iv cc4] [(.ref a13), (.ref a13)]))
  refine Way.by (fun _ k => XS.iconst X52.here hx rfl (hb hby dCH3_55) k) ?_
  show Way _ _ _ _ (T50.setTop (mkF m 56 #[iv 3, iv cc0, iv cc1, iv cc2, iv cc3, iv cc4] [(.int 2), (.ref a13), (.ref a13)]))
  refine Way.by (fun _ k => XS.iloadN X52.here hx rfl (hb hby dCH3_56) rfl k) ?_
  show Way _ _ _ _ (T50.setTop (mkF m 57 #[iv 3, iv cc0, iv cc1, iv cc2, iv cc3, iv cc4] [(.int cc2), (.int 2), (.ref a13), (.ref a13)]))
  have V63 : Arv Z h51 a13 kc7 .char (3 : Int32) [(.int cc0), (.int cc1), (.int 0)] (.int 0) := V58.pad (pad_rep [(.int cc0), (.int cc1)] (.int 0) 1)
  obtain ⟨c64, A65, q66, S67, M68, H69, U70⟩ := id V63
  obtain ⟨T71, h72, X73, e74, W75, st76⟩ := stC X52 hx hZ e53 A65 (j := (2 : Int32)) (inb_of S67 ⟨(by decide), (by decide)⟩) (g := (mkF m 57 #[iv 3, iv cc0, iv cc1, iv cc2, iv cc3, iv cc4] [(.int cc2), (.int 2), (.ref a13), (.ref a13)])) rfl rfl (hb hby dCH3_57)
  have N77 := Fr.snoc X73 N56 nw16
  have V78 : Arv Z h72 a13 kc7 .char (3 : Int32) [(.int cc0), (.int cc1), (.int (nar .char cc2))] (.int 0) := Arv.set A65 q66 S67 M68 H69 U70 (fits_nar_char _) W75 2 rfl (leB rfl)
  have nq80 : nar .char cc2 = cc2 := own_nb hb2
  have V79 : Arv Z h72 a13 kc7 .char (3 : Int32) [(.int cc0), (.int cc1), (.int cc2)] (.int 0) := by rw [nq80] at V78; exact V78
  have Z81 : n0 ≤ h72.size := by rw [W75.size]; exact Z60
  have K82 := K61.wr W75 (Or.inr hk17)
  have hz83 : h0.size ≤ h72.size := by rw [W75.size]; exact hz62
  refine Way.by st76 ?_
  show Way _ _ _ _ (T71.setTop (mkF m 58 #[iv 3, iv cc0, iv cc1, iv cc2, iv cc3, iv cc4] [(.ref a13)]))
  refine Way.ret (v := (some (.ref a13))) X73 hlk (fun h => by rw [Bd.returns] at h; cases h) (fun fs hr => retOut X73 hx Bd.returns rfl (Or.inr (Or.inr (Or.inr (Or.inr ⟨rfl, rfl, rfl⟩)))) (hb hby dCH3_58) hr) ?_ (by decide) (by decide)
  show QCH3 Z cc0 cc1 cc2 cc3 cc4 h0 n0 _ T71.heap _
  rw [e74]
  exact ⟨a13, kc7, rfl, N77, K82, hk17, V79⟩
def QCH4 (Z : State) (cc0 : Int32) (cc1 : Int32) (cc2 : Int32) (cc3 : Int32) (cc4 : Int32) (h0 : Heap) (n0 : Nat) (v : Option Value) (h : Heap) (L : List Loc) : Prop := ∃ (pe : Addr) (kk : ClassId), v = some (.ref pe) ∧ Fr n0 L ∧ Keep h0 h [] ∧ h0.size ≤ pe ∧ Arv Z h pe kk .char (4 : Int32) [(.int cc0), (.int cc1), (.int cc2), (.int cc3)] (.int 0)
theorem dCH4_59 : decode method_4_code 59 = .ok (.iload_n 0, 1) := by decide +kernel
theorem dCH4_60 : decode method_4_code 60 = .ok (.iconst 4, 1) := by decide +kernel
theorem dCH4_61 : decode method_4_code 61 = .ok (.if_icmp .ne 24, 3) := by decide +kernel
theorem dCH4_64 : decode method_4_code 64 = .ok (.iconst 4, 1) := by decide +kernel
theorem dCH4_65 : decode method_4_code 65 = .ok (.newarray .char, 2) := by decide +kernel
theorem dCH4_67 : decode method_4_code 67 = .ok (.dup, 1) := by decide +kernel
theorem dCH4_68 : decode method_4_code 68 = .ok (.iconst 0, 1) := by decide +kernel
theorem dCH4_69 : decode method_4_code 69 = .ok (.iload_n 1, 1) := by decide +kernel
theorem dCH4_70 : decode method_4_code 70 = .ok (.castore, 1) := by decide +kernel
theorem dCH4_71 : decode method_4_code 71 = .ok (.dup, 1) := by decide +kernel
theorem dCH4_72 : decode method_4_code 72 = .ok (.iconst 1, 1) := by decide +kernel
theorem dCH4_73 : decode method_4_code 73 = .ok (.iload_n 2, 1) := by decide +kernel
theorem dCH4_74 : decode method_4_code 74 = .ok (.castore, 1) := by decide +kernel
theorem dCH4_75 : decode method_4_code 75 = .ok (.dup, 1) := by decide +kernel
theorem dCH4_76 : decode method_4_code 76 = .ok (.iconst 2, 1) := by decide +kernel
theorem dCH4_77 : decode method_4_code 77 = .ok (.iload_n 3, 1) := by decide +kernel
theorem dCH4_78 : decode method_4_code 78 = .ok (.castore, 1) := by decide +kernel
theorem dCH4_79 : decode method_4_code 79 = .ok (.dup, 1) := by decide +kernel
theorem dCH4_80 : decode method_4_code 80 = .ok (.iconst 3, 1) := by decide +kernel
theorem dCH4_81 : decode method_4_code 81 = .ok (.iload 4, 2) := by decide +kernel
theorem dCH4_83 : decode method_4_code 83 = .ok (.castore, 1) := by decide +kernel
theorem dCH4_84 : decode method_4_code 84 = .ok (.areturn, 1) := by decide +kernel
set_option maxRecDepth 65536 in
set_option maxHeartbeats 40000000 in
theorem rmCH4 (l : Launch) (Z : State) (a0 : Array Value) (hw : ∀ d ∈ tables_1, d.before a0 Z = true) (ws : List Jvm.Cond) (cc0 : Int32) (cc1 : Int32) (cc2 : Int32) (cc3 : Int32) (cc4 : Int32) (h0 : Heap) (n0 : Nat) (Z0 : n0 ≤ h0.size) (hb0 : ¬ cc0 < 0 ∧ ¬ (255 : Int32) < cc0) (hb1 : ¬ cc1 < 0 ∧ ¬ (255 : Int32) < cc1) (hb2 : ¬ cc2 < 0 ∧ ¬ (255 : Int32) < cc2) (hb3 : ¬ cc3 < 0 ∧ ¬ (255 : Int32) < cc3) (hb4 : ¬ cc4 < 0 ∧ ¬ (255 : Int32) < cc4) :
    MetFree l (⟨"com/example/bare_orm/bareorm/MappingReaderTrueOrFalsePinLaw", "chars", "(ICCCCC)[C"⟩ : MethodName) (head1 (Jvm.Cond.code (⟨"com/example/bare_orm/bareorm/MappingReaderTrueOrFalsePinLaw", "chars", "(ICCCCC)[C"⟩ : MethodName) method_4_code 6 (some (.array .char)) :: ws) ({ frames := 0, cells := 1, slots := 4, locals := 0 } : Room)) (fun aa U => aa = #[(.int 4), (.int cc0), (.int cc1), (.int cc2), (.int cc3), (.int cc4)] ∧ Z.Warmed39 U.vm ∧ U.heap = h0) (fun _ _ _ _ _ => True) (fun _ U oo U' => ∃ v L, oo = .returned v ∧ QCH4 Z cc0 cc1 cc2 cc3 cc4 h0 n0 v U'.heap L ∧ FrameEnd U oo U' L ({ frames := 0, cells := 1, slots := 4, locals := 0 } : Room).cells ({ frames := 0, cells := 1, slots := 4, locals := 0 } : Room).slots) := by
  refine MetFree.of_bodySF (plainFor_of_name pnPK) hisR ?_
  intro p e s m args below meth c s₁ Bd hml0 hP hK
  obtain ⟨rfl, hZ, hh⟩ := hP
  have hx := Bd.exec
  have hby := Bd.bytes
  have hlk : meth.locks = false := BodyLoose.notSynchronized Bd
  have hml : c.maxLocals = 6 := hml0
  have hown : s.vm.findClass "com/example/bare_orm/bareorm/MappingReaderTrueOrFalsePinLaw" = some m.cls := findClass_of_methodNamed Bd.named
  have hnm := (name_of_methodNamed Bd.named Bd.method).1
  have X0 : Stand p l e ({ frames := 0, cells := 1, slots := 4, locals := 0 } : Room) s m #[(.int 4), (.int cc0), (.int cc1), (.int cc2), (.int cc3), (.int cc4)] below meth c s₁ [] 0 0 := Stand.of_body Bd
  have e0 : s₁.heap = h0 := by rw [← hh, Bd.state]; rfl
  have N0 := Fr.nil n0
  have ef : entryFrame m #[(.int 4), (.int cc0), (.int cc1), (.int cc2), (.int cc3), (.int cc4)] 6 = mkF m 0 #[iv 4, iv cc0, iv cc1, iv cc2, iv cc3, iv cc4] [] := by first | (simp [entryFrame, mkF, argsToLocals, Value.category, maxLocals]; done) | rfl
  show Way p.tables e below (KQ s (QCH4 Z cc0 cc1 cc2 cc3 cc4 h0 n0) ({ frames := 0, cells := 1, slots := 4, locals := 0 } : Room).cells ({ frames := 0, cells := 1, slots := 4, locals := 0 } : Room).slots) (s₁.setTop (entryFrame m #[(.int 4), (.int cc0), (.int cc1), (.int cc2), (.int cc3), (.int cc4)] 6))
  rw [ef]
  refine Way.by (fun _ k => XS.iloadN X0.here hx rfl (hb hby dCH0_0) rfl k) ?_
  show Way _ _ _ _ (s₁.setTop (mkF m 1 #[iv 4, iv cc0, iv cc1, iv cc2, iv cc3, iv cc4] [(.int 4)]))
  have b1 : ¬ (4 : Int32) = (0 : Int32) := by decide
  refine Way.by (fun _ k => XS.ifYes X0.here hx rfl (pc0 := 1) (pc' := 8) rfl (hb hby dCH0_1) rfl ((if0 .ne _).trans (feq b1).2) (by decide) (by decide) k) ?_
  show Way _ _ _ _ (s₁.setTop (mkF m 8 #[iv 4, iv cc0, iv cc1, iv cc2, iv cc3, iv cc4] []))
  refine Way.by (fun _ k => XS.iloadN X0.here hx rfl (hb hby dCH1_8) rfl k) ?_
  show Way _ _ _ _ (s₁.setTop (mkF m 9 #[iv 4, iv cc0, iv cc1, iv cc2, iv cc3, iv cc4] [(.int 4)]))
  refine Way.by (fun _ k => XS.iconst X0.here hx rfl (hb hby dCH1_9) k) ?_
  show Way _ _ _ _ (s₁.setTop (mkF m 10 #[iv 4, iv cc0, iv cc1, iv cc2, iv cc3, iv cc4] [(.int 1), (.int 4)]))
  have b2 : ¬ (4 : Int32) = (1 : Int32) := by decide
  refine Way.by (fun _ k => XS.icmpYes X0.here hx rfl (pc0 := 10) (pc' := 21) rfl (hb hby dCH1_10) rfl (feq b2).2 (by decide) (by decide) k) ?_
  show Way _ _ _ _ (s₁.setTop (mkF m 21 #[iv 4, iv cc0, iv cc1, iv cc2, iv cc3, iv cc4] []))
  refine Way.by (fun _ k => XS.iloadN X0.here hx rfl (hb hby dCH2_21) rfl k) ?_
  show Way _ _ _ _ (s₁.setTop (mkF m 22 #[iv 4, iv cc0, iv cc1, iv cc2, iv cc3, iv cc4] [(.int 4)]))
  refine Way.by (fun _ k => XS.iconst X0.here hx rfl (hb hby dCH2_22) k) ?_
  show Way _ _ _ _ (s₁.setTop (mkF m 23 #[iv 4, iv cc0, iv cc1, iv cc2, iv cc3, iv cc4] [(.int 2), (.int 4)]))
  have b3 : ¬ (4 : Int32) = (2 : Int32) := by decide
  refine Way.by (fun _ k => XS.icmpYes X0.here hx rfl (pc0 := 23) (pc' := 38) rfl (hb hby dCH2_23) rfl (feq b3).2 (by decide) (by decide) k) ?_
  show Way _ _ _ _ (s₁.setTop (mkF m 38 #[iv 4, iv cc0, iv cc1, iv cc2, iv cc3, iv cc4] []))
  refine Way.by (fun _ k => XS.iloadN X0.here hx rfl (hb hby dCH3_38) rfl k) ?_
  show Way _ _ _ _ (s₁.setTop (mkF m 39 #[iv 4, iv cc0, iv cc1, iv cc2, iv cc3, iv cc4] [(.int 4)]))
  refine Way.by (fun _ k => XS.iconst X0.here hx rfl (hb hby dCH3_39) k) ?_
  show Way _ _ _ _ (s₁.setTop (mkF m 40 #[iv 4, iv cc0, iv cc1, iv cc2, iv cc3, iv cc4] [(.int 3), (.int 4)]))
  have b4 : ¬ (4 : Int32) = (3 : Int32) := by decide
  refine Way.by (fun _ k => XS.icmpYes X0.here hx rfl (pc0 := 40) (pc' := 59) rfl (hb hby dCH3_40) rfl (feq b4).2 (by decide) (by decide) k) ?_
  show Way _ _ _ _ (s₁.setTop (mkF m 59 #[iv 4, iv cc0, iv cc1, iv cc2, iv cc3, iv cc4] []))
  refine Way.by (fun _ k => XS.iloadN X0.here hx rfl (hb hby dCH4_59) rfl k) ?_
  show Way _ _ _ _ (s₁.setTop (mkF m 60 #[iv 4, iv cc0, iv cc1, iv cc2, iv cc3, iv cc4] [(.int 4)]))
  refine Way.by (fun _ k => XS.iconst X0.here hx rfl (hb hby dCH4_60) k) ?_
  show Way _ _ _ _ (s₁.setTop (mkF m 61 #[iv 4, iv cc0, iv cc1, iv cc2, iv cc3, iv cc4] [(.int 4), (.int 4)]))
  have b5 : (4 : Int32) = (4 : Int32) := by decide
  refine Way.by (fun _ k => XS.icmpNo X0.here hx rfl (hb hby dCH4_61) rfl (teq b5).2 k) ?_
  show Way _ _ _ _ (s₁.setTop (mkF m 64 #[iv 4, iv cc0, iv cc1, iv cc2, iv cc3, iv cc4] []))
  refine Way.by (fun _ k => XS.iconst X0.here hx rfl (hb hby dCH4_64) k) ?_
  show Way _ _ _ _ (s₁.setTop (mkF m 65 #[iv 4, iv cc0, iv cc1, iv cc2, iv cc3, iv cc4] [(.int 4)]))
  obtain ⟨T6, h7, kc8, X9, e10, E11, A12, st13⟩ := newP X0 hx hZ (tw hw 54 rfl) e0 (g := (mkF m 65 #[iv 4, iv cc0, iv cc1, iv cc2, iv cc3, iv cc4] [(.int 4)])) rfl (hb hby dCH4_65) rfl (by decide) (cap := 4) (by decide) (by decide) (by decide) (by decide)
  obtain ⟨a14, g15⟩ : ∃ z, z = h0.size := ⟨_, rfl⟩
  rw [← g15] at A12 st13
  have nw17 : n0 ≤ a14 := Nat.le_trans Z0 (Nat.le_of_eq g15.symm)
  have hk18 : h0.size ≤ a14 := Nat.le_trans (Nat.le_refl h0.size) (Nat.le_of_eq g15.symm)
  have Z19 := Nat.le_trans Z0 E11.1
  have K20 := (Keep.refl h0 []).ext E11
  have hz21 := Nat.le_trans (Nat.le_refl h0.size) E11.1
  have V16 : Arv Z h7 a14 kc8 .char (4 : Int32) [] (.int 0) := Arv.new A12 (by decide)
  refine Way.by st13 ?_
  show Way _ _ _ _ (T6.setTop (mkF m 67 #[iv 4, iv cc0, iv cc1, iv cc2, iv cc3, iv cc4] [(.ref a14)]))
  refine Way.by (fun _ k => XS.dup X9.here hx rfl (hb hby dCH4_67) rfl rfl k) ?_
  show Way _ _ _ _ (T6.setTop (mkF m 68 #[iv 4, iv cc0, iv cc1, iv cc2, iv cc3, iv cc4] [(.ref a14), (.ref a14)]))
  refine Way.by (fun _ k => XS.iconst X9.here hx rfl (hb hby dCH4_68) k) ?_
  show Way _ _ _ _ (T6.setTop (mkF m 69 #[iv 4, iv cc0, iv cc1, iv cc2, iv cc3, iv cc4] [(.int 0), (.ref a14), (.ref a14)]))
  refine Way.by (fun _ k => XS.iloadN X9.here hx rfl (hb hby dCH4_69) rfl k) ?_
  show Way _ _ _ _ (T6.setTop (mkF m 70 #[iv 4, iv cc0, iv cc1, iv cc2, iv cc3, iv cc4] [(.int cc0), (.int 0), (.ref a14), (.ref a14)]))
  have V22 : Arv Z h7 a14 kc8 .char (4 : Int32) [(.int 0)] (.int 0) := V16.pad (pad_rep [] (.int 0) 1)
  obtain ⟨c23, A24, q25, S26, M27, H28, U29⟩ := id V22
  obtain ⟨T30, h31, X32, e33, W34, st35⟩ := stC X9 hx hZ e10 A24 (j := (0 : Int32)) (inb_of S26 ⟨(by decide), (by decide)⟩) (g := (mkF m 70 #[iv 4, iv cc0, iv cc1, iv cc2, iv cc3, iv cc4] [(.int cc0), (.int 0), (.ref a14), (.ref a14)])) rfl rfl (hb hby dCH4_70)
  have N36 := Fr.snoc X32 N0 nw17
  have V37 : Arv Z h31 a14 kc8 .char (4 : Int32) [(.int (nar .char cc0))] (.int 0) := Arv.set A24 q25 S26 M27 H28 U29 (fits_nar_char _) W34 0 rfl (leB rfl)
  have nq39 : nar .char cc0 = cc0 := own_nb hb0
  have V38 : Arv Z h31 a14 kc8 .char (4 : Int32) [(.int cc0)] (.int 0) := by rw [nq39] at V37; exact V37
  have Z40 : n0 ≤ h31.size := by rw [W34.size]; exact Z19
  have K41 := K20.wr W34 (Or.inr hk18)
  have hz42 : h0.size ≤ h31.size := by rw [W34.size]; exact hz21
  refine Way.by st35 ?_
  show Way _ _ _ _ (T30.setTop (mkF m 71 #[iv 4, iv cc0, iv cc1, iv cc2, iv cc3, iv cc4] [(.ref a14)]))
  refine Way.by (fun _ k => XS.dup X32.here hx rfl (hb hby dCH4_71) rfl rfl k) ?_
  show Way _ _ _ _ (T30.setTop (mkF m 72 #[iv 4, iv cc0, iv cc1, iv cc2, iv cc3, iv cc4] [(.ref a14), (.ref a14)]))
  refine Way.by (fun _ k => XS.iconst X32.here hx rfl (hb hby dCH4_72) k) ?_
  show Way _ _ _ _ (T30.setTop (mkF m 73 #[iv 4, iv cc0, iv cc1, iv cc2, iv cc3, iv cc4] [(.int 1), (.ref a14), (.ref a14)]))
  refine Way.by (fun _ k => XS.iloadN X32.here hx rfl (hb hby dCH4_73) rfl k) ?_
  show Way _ _ _ _ (T30.setTop (mkF m 74 #[iv 4, iv cc0, iv cc1, iv cc2, iv cc3, iv cc4] [(.int cc1), (.int 1), (.ref a14), (.ref a14)]))
  have V43 : Arv Z h31 a14 kc8 .char (4 : Int32) [(.int cc0), (.int 0)] (.int 0) := V38.pad (pad_rep [(.int cc0)] (.int 0) 1)
  obtain ⟨c44, A45, q46, S47, M48, H49, U50⟩ := id V43
  obtain ⟨T51, h52, X53, e54, W55, st56⟩ := stC X32 hx hZ e33 A45 (j := (1 : Int32)) (inb_of S47 ⟨(by decide), (by decide)⟩) (g := (mkF m 74 #[iv 4, iv cc0, iv cc1, iv cc2, iv cc3, iv cc4] [(.int cc1), (.int 1), (.ref a14), (.ref a14)])) rfl rfl (hb hby dCH4_74)
  have N57 := Fr.snoc X53 N36 nw17
  have V58 : Arv Z h52 a14 kc8 .char (4 : Int32) [(.int cc0), (.int (nar .char cc1))] (.int 0) := Arv.set A45 q46 S47 M48 H49 U50 (fits_nar_char _) W55 1 rfl (leB rfl)
  have nq60 : nar .char cc1 = cc1 := own_nb hb1
  have V59 : Arv Z h52 a14 kc8 .char (4 : Int32) [(.int cc0), (.int cc1)] (.int 0) := by rw [nq60] at V58; exact V58
  have Z61 : n0 ≤ h52.size := by rw [W55.size]; exact Z40
  have K62 := K41.wr W55 (Or.inr hk18)
  have hz63 : h0.size ≤ h52.size := by rw [W55.size]; exact hz42
  refine Way.by st56 ?_
  show Way _ _ _ _ (T51.setTop (mkF m 75 #[iv 4, iv cc0, iv cc1, iv cc2, iv cc3, iv cc4] [(.ref a14)]))
  refine Way.by (fun _ k => XS.dup X53.here hx rfl (hb hby dCH4_75) rfl rfl k) ?_
  show Way _ _ _ _ (T51.setTop (mkF m 76 #[iv 4, iv cc0, iv cc1, iv cc2, iv cc3, iv cc4] [(.ref a14), (.ref a14)]))
  refine Way.by (fun _ k => XS.iconst X53.here hx rfl (hb hby dCH4_76) k) ?_
  show Way _ _ _ _ (T51.setTop (mkF m 77 #[iv 4, iv cc0, iv cc1, iv cc2, iv cc3, iv cc4] [(.int 2), (.ref a14), (.ref a14)]))
  refine Way.by (fun _ k => XS.iloadN X53.here hx rfl (hb hby dCH4_77) rfl k) ?_
  show Way _ _ _ _ (T51.setTop (mkF m 78 #[iv 4, iv cc0, iv cc1, iv cc2, iv cc3, iv cc4] [(.int cc2), (.int 2), (.ref a14), (.ref a14)]))
  have V64 : Arv Z h52 a14 kc8 .char (4 : Int32) [(.int cc0), (.int cc1), (.int 0)] (.int 0) := V59.pad (pad_rep [(.int cc0), (.int cc1)] (.int 0) 1)
  obtain ⟨c65, A66, q67, S68, M69, H70, U71⟩ := id V64
  obtain ⟨T72, h73, X74, e75, W76, st77⟩ := stC X53 hx hZ e54 A66 (j := (2 : Int32)) (inb_of S68 ⟨(by decide), (by decide)⟩) (g := (mkF m 78 #[iv 4, iv cc0, iv cc1, iv cc2, iv cc3, iv cc4] [(.int cc2), (.int 2), (.ref a14), (.ref a14)])) rfl rfl (hb hby dCH4_78)
  have N78 := Fr.snoc X74 N57 nw17
  have V79 : Arv Z h73 a14 kc8 .char (4 : Int32) [(.int cc0), (.int cc1), (.int (nar .char cc2))] (.int 0) := Arv.set A66 q67 S68 M69 H70 U71 (fits_nar_char _) W76 2 rfl (leB rfl)
  have nq81 : nar .char cc2 = cc2 := own_nb hb2
  have V80 : Arv Z h73 a14 kc8 .char (4 : Int32) [(.int cc0), (.int cc1), (.int cc2)] (.int 0) := by rw [nq81] at V79; exact V79
  have Z82 : n0 ≤ h73.size := by rw [W76.size]; exact Z61
  have K83 := K62.wr W76 (Or.inr hk18)
  have hz84 : h0.size ≤ h73.size := by rw [W76.size]; exact hz63
  refine Way.by st77 ?_
  show Way _ _ _ _ (T72.setTop (mkF m 79 #[iv 4, iv cc0, iv cc1, iv cc2, iv cc3, iv cc4] [(.ref a14)]))
  refine Way.by (fun _ k => XS.dup X74.here hx rfl (hb hby dCH4_79) rfl rfl k) ?_
  show Way _ _ _ _ (T72.setTop (mkF m 80 #[iv 4, iv cc0, iv cc1, iv cc2, iv cc3, iv cc4] [(.ref a14), (.ref a14)]))
  refine Way.by (fun _ k => XS.iconst X74.here hx rfl (hb hby dCH4_80) k) ?_
  show Way _ _ _ _ (T72.setTop (mkF m 81 #[iv 4, iv cc0, iv cc1, iv cc2, iv cc3, iv cc4] [(.int 3), (.ref a14), (.ref a14)]))
  refine Way.by (fun _ k => XS.iload X74.here hx rfl (hb hby dCH4_81) rfl k) ?_
  show Way _ _ _ _ (T72.setTop (mkF m 83 #[iv 4, iv cc0, iv cc1, iv cc2, iv cc3, iv cc4] [(.int cc3), (.int 3), (.ref a14), (.ref a14)]))
  have V85 : Arv Z h73 a14 kc8 .char (4 : Int32) [(.int cc0), (.int cc1), (.int cc2), (.int 0)] (.int 0) := V80.pad (pad_rep [(.int cc0), (.int cc1), (.int cc2)] (.int 0) 1)
  obtain ⟨c86, A87, q88, S89, M90, H91, U92⟩ := id V85
  obtain ⟨T93, h94, X95, e96, W97, st98⟩ := stC X74 hx hZ e75 A87 (j := (3 : Int32)) (inb_of S89 ⟨(by decide), (by decide)⟩) (g := (mkF m 83 #[iv 4, iv cc0, iv cc1, iv cc2, iv cc3, iv cc4] [(.int cc3), (.int 3), (.ref a14), (.ref a14)])) rfl rfl (hb hby dCH4_83)
  have N99 := Fr.snoc X95 N78 nw17
  have V100 : Arv Z h94 a14 kc8 .char (4 : Int32) [(.int cc0), (.int cc1), (.int cc2), (.int (nar .char cc3))] (.int 0) := Arv.set A87 q88 S89 M90 H91 U92 (fits_nar_char _) W97 3 rfl (leB rfl)
  have nq102 : nar .char cc3 = cc3 := own_nb hb3
  have V101 : Arv Z h94 a14 kc8 .char (4 : Int32) [(.int cc0), (.int cc1), (.int cc2), (.int cc3)] (.int 0) := by rw [nq102] at V100; exact V100
  have Z103 : n0 ≤ h94.size := by rw [W97.size]; exact Z82
  have K104 := K83.wr W97 (Or.inr hk18)
  have hz105 : h0.size ≤ h94.size := by rw [W97.size]; exact hz84
  refine Way.by st98 ?_
  show Way _ _ _ _ (T93.setTop (mkF m 84 #[iv 4, iv cc0, iv cc1, iv cc2, iv cc3, iv cc4] [(.ref a14)]))
  refine Way.ret (v := (some (.ref a14))) X95 hlk (fun h => by rw [Bd.returns] at h; cases h) (fun fs hr => retOut X95 hx Bd.returns rfl (Or.inr (Or.inr (Or.inr (Or.inr ⟨rfl, rfl, rfl⟩)))) (hb hby dCH4_84) hr) ?_ (by decide) (by decide)
  show QCH4 Z cc0 cc1 cc2 cc3 cc4 h0 n0 _ T93.heap _
  rw [e96]
  exact ⟨a14, kc8, rfl, N99, K104, hk18, V101⟩
def QCH5 (Z : State) (cc0 : Int32) (cc1 : Int32) (cc2 : Int32) (cc3 : Int32) (cc4 : Int32) (h0 : Heap) (n0 : Nat) (v : Option Value) (h : Heap) (L : List Loc) : Prop := ∃ (pe : Addr) (kk : ClassId), v = some (.ref pe) ∧ Fr n0 L ∧ Keep h0 h [] ∧ h0.size ≤ pe ∧ Arv Z h pe kk .char (5 : Int32) [(.int cc0), (.int cc1), (.int cc2), (.int cc3), (.int cc4)] (.int 0)
theorem dCH5_85 : decode method_4_code 85 = .ok (.iconst 5, 1) := by decide +kernel
theorem dCH5_86 : decode method_4_code 86 = .ok (.newarray .char, 2) := by decide +kernel
theorem dCH5_88 : decode method_4_code 88 = .ok (.dup, 1) := by decide +kernel
theorem dCH5_89 : decode method_4_code 89 = .ok (.iconst 0, 1) := by decide +kernel
theorem dCH5_90 : decode method_4_code 90 = .ok (.iload_n 1, 1) := by decide +kernel
theorem dCH5_91 : decode method_4_code 91 = .ok (.castore, 1) := by decide +kernel
theorem dCH5_92 : decode method_4_code 92 = .ok (.dup, 1) := by decide +kernel
theorem dCH5_93 : decode method_4_code 93 = .ok (.iconst 1, 1) := by decide +kernel
theorem dCH5_94 : decode method_4_code 94 = .ok (.iload_n 2, 1) := by decide +kernel
theorem dCH5_95 : decode method_4_code 95 = .ok (.castore, 1) := by decide +kernel
theorem dCH5_96 : decode method_4_code 96 = .ok (.dup, 1) := by decide +kernel
theorem dCH5_97 : decode method_4_code 97 = .ok (.iconst 2, 1) := by decide +kernel
theorem dCH5_98 : decode method_4_code 98 = .ok (.iload_n 3, 1) := by decide +kernel
theorem dCH5_99 : decode method_4_code 99 = .ok (.castore, 1) := by decide +kernel
theorem dCH5_100 : decode method_4_code 100 = .ok (.dup, 1) := by decide +kernel
theorem dCH5_101 : decode method_4_code 101 = .ok (.iconst 3, 1) := by decide +kernel
theorem dCH5_102 : decode method_4_code 102 = .ok (.iload 4, 2) := by decide +kernel
theorem dCH5_104 : decode method_4_code 104 = .ok (.castore, 1) := by decide +kernel
theorem dCH5_105 : decode method_4_code 105 = .ok (.dup, 1) := by decide +kernel
theorem dCH5_106 : decode method_4_code 106 = .ok (.iconst 4, 1) := by decide +kernel
theorem dCH5_107 : decode method_4_code 107 = .ok (.iload 5, 2) := by decide +kernel
theorem dCH5_109 : decode method_4_code 109 = .ok (.castore, 1) := by decide +kernel
theorem dCH5_110 : decode method_4_code 110 = .ok (.areturn, 1) := by decide +kernel
set_option maxRecDepth 65536 in
set_option maxHeartbeats 40000000 in
theorem rmCH5 (l : Launch) (Z : State) (a0 : Array Value) (hw : ∀ d ∈ tables_1, d.before a0 Z = true) (ws : List Jvm.Cond) (cc0 : Int32) (cc1 : Int32) (cc2 : Int32) (cc3 : Int32) (cc4 : Int32) (h0 : Heap) (n0 : Nat) (Z0 : n0 ≤ h0.size) (hb0 : ¬ cc0 < 0 ∧ ¬ (255 : Int32) < cc0) (hb1 : ¬ cc1 < 0 ∧ ¬ (255 : Int32) < cc1) (hb2 : ¬ cc2 < 0 ∧ ¬ (255 : Int32) < cc2) (hb3 : ¬ cc3 < 0 ∧ ¬ (255 : Int32) < cc3) (hb4 : ¬ cc4 < 0 ∧ ¬ (255 : Int32) < cc4) :
    MetFree l (⟨"com/example/bare_orm/bareorm/MappingReaderTrueOrFalsePinLaw", "chars", "(ICCCCC)[C"⟩ : MethodName) (head1 (Jvm.Cond.code (⟨"com/example/bare_orm/bareorm/MappingReaderTrueOrFalsePinLaw", "chars", "(ICCCCC)[C"⟩ : MethodName) method_4_code 6 (some (.array .char)) :: ws) ({ frames := 0, cells := 1, slots := 5, locals := 0 } : Room)) (fun aa U => aa = #[(.int 5), (.int cc0), (.int cc1), (.int cc2), (.int cc3), (.int cc4)] ∧ Z.Warmed39 U.vm ∧ U.heap = h0) (fun _ _ _ _ _ => True) (fun _ U oo U' => ∃ v L, oo = .returned v ∧ QCH5 Z cc0 cc1 cc2 cc3 cc4 h0 n0 v U'.heap L ∧ FrameEnd U oo U' L ({ frames := 0, cells := 1, slots := 5, locals := 0 } : Room).cells ({ frames := 0, cells := 1, slots := 5, locals := 0 } : Room).slots) := by
  refine MetFree.of_bodySF (plainFor_of_name pnPK) hisR ?_
  intro p e s m args below meth c s₁ Bd hml0 hP hK
  obtain ⟨rfl, hZ, hh⟩ := hP
  have hx := Bd.exec
  have hby := Bd.bytes
  have hlk : meth.locks = false := BodyLoose.notSynchronized Bd
  have hml : c.maxLocals = 6 := hml0
  have hown : s.vm.findClass "com/example/bare_orm/bareorm/MappingReaderTrueOrFalsePinLaw" = some m.cls := findClass_of_methodNamed Bd.named
  have hnm := (name_of_methodNamed Bd.named Bd.method).1
  have X0 : Stand p l e ({ frames := 0, cells := 1, slots := 5, locals := 0 } : Room) s m #[(.int 5), (.int cc0), (.int cc1), (.int cc2), (.int cc3), (.int cc4)] below meth c s₁ [] 0 0 := Stand.of_body Bd
  have e0 : s₁.heap = h0 := by rw [← hh, Bd.state]; rfl
  have N0 := Fr.nil n0
  have ef : entryFrame m #[(.int 5), (.int cc0), (.int cc1), (.int cc2), (.int cc3), (.int cc4)] 6 = mkF m 0 #[iv 5, iv cc0, iv cc1, iv cc2, iv cc3, iv cc4] [] := by first | (simp [entryFrame, mkF, argsToLocals, Value.category, maxLocals]; done) | rfl
  show Way p.tables e below (KQ s (QCH5 Z cc0 cc1 cc2 cc3 cc4 h0 n0) ({ frames := 0, cells := 1, slots := 5, locals := 0 } : Room).cells ({ frames := 0, cells := 1, slots := 5, locals := 0 } : Room).slots) (s₁.setTop (entryFrame m #[(.int 5), (.int cc0), (.int cc1), (.int cc2), (.int cc3), (.int cc4)] 6))
  rw [ef]
  refine Way.by (fun _ k => XS.iloadN X0.here hx rfl (hb hby dCH0_0) rfl k) ?_
  show Way _ _ _ _ (s₁.setTop (mkF m 1 #[iv 5, iv cc0, iv cc1, iv cc2, iv cc3, iv cc4] [(.int 5)]))
  have b1 : ¬ (5 : Int32) = (0 : Int32) := by decide
  refine Way.by (fun _ k => XS.ifYes X0.here hx rfl (pc0 := 1) (pc' := 8) rfl (hb hby dCH0_1) rfl ((if0 .ne _).trans (feq b1).2) (by decide) (by decide) k) ?_
  show Way _ _ _ _ (s₁.setTop (mkF m 8 #[iv 5, iv cc0, iv cc1, iv cc2, iv cc3, iv cc4] []))
  refine Way.by (fun _ k => XS.iloadN X0.here hx rfl (hb hby dCH1_8) rfl k) ?_
  show Way _ _ _ _ (s₁.setTop (mkF m 9 #[iv 5, iv cc0, iv cc1, iv cc2, iv cc3, iv cc4] [(.int 5)]))
  refine Way.by (fun _ k => XS.iconst X0.here hx rfl (hb hby dCH1_9) k) ?_
  show Way _ _ _ _ (s₁.setTop (mkF m 10 #[iv 5, iv cc0, iv cc1, iv cc2, iv cc3, iv cc4] [(.int 1), (.int 5)]))
  have b2 : ¬ (5 : Int32) = (1 : Int32) := by decide
  refine Way.by (fun _ k => XS.icmpYes X0.here hx rfl (pc0 := 10) (pc' := 21) rfl (hb hby dCH1_10) rfl (feq b2).2 (by decide) (by decide) k) ?_
  show Way _ _ _ _ (s₁.setTop (mkF m 21 #[iv 5, iv cc0, iv cc1, iv cc2, iv cc3, iv cc4] []))
  refine Way.by (fun _ k => XS.iloadN X0.here hx rfl (hb hby dCH2_21) rfl k) ?_
  show Way _ _ _ _ (s₁.setTop (mkF m 22 #[iv 5, iv cc0, iv cc1, iv cc2, iv cc3, iv cc4] [(.int 5)]))
  refine Way.by (fun _ k => XS.iconst X0.here hx rfl (hb hby dCH2_22) k) ?_
  show Way _ _ _ _ (s₁.setTop (mkF m 23 #[iv 5, iv cc0, iv cc1, iv cc2, iv cc3, iv cc4] [(.int 2), (.int 5)]))
  have b3 : ¬ (5 : Int32) = (2 : Int32) := by decide
  refine Way.by (fun _ k => XS.icmpYes X0.here hx rfl (pc0 := 23) (pc' := 38) rfl (hb hby dCH2_23) rfl (feq b3).2 (by decide) (by decide) k) ?_
  show Way _ _ _ _ (s₁.setTop (mkF m 38 #[iv 5, iv cc0, iv cc1, iv cc2, iv cc3, iv cc4] []))
  refine Way.by (fun _ k => XS.iloadN X0.here hx rfl (hb hby dCH3_38) rfl k) ?_
  show Way _ _ _ _ (s₁.setTop (mkF m 39 #[iv 5, iv cc0, iv cc1, iv cc2, iv cc3, iv cc4] [(.int 5)]))
  refine Way.by (fun _ k => XS.iconst X0.here hx rfl (hb hby dCH3_39) k) ?_
  show Way _ _ _ _ (s₁.setTop (mkF m 40 #[iv 5, iv cc0, iv cc1, iv cc2, iv cc3, iv cc4] [(.int 3), (.int 5)]))
  have b4 : ¬ (5 : Int32) = (3 : Int32) := by decide
  refine Way.by (fun _ k => XS.icmpYes X0.here hx rfl (pc0 := 40) (pc' := 59) rfl (hb hby dCH3_40) rfl (feq b4).2 (by decide) (by decide) k) ?_
  show Way _ _ _ _ (s₁.setTop (mkF m 59 #[iv 5, iv cc0, iv cc1, iv cc2, iv cc3, iv cc4] []))
  refine Way.by (fun _ k => XS.iloadN X0.here hx rfl (hb hby dCH4_59) rfl k) ?_
  show Way _ _ _ _ (s₁.setTop (mkF m 60 #[iv 5, iv cc0, iv cc1, iv cc2, iv cc3, iv cc4] [(.int 5)]))
  refine Way.by (fun _ k => XS.iconst X0.here hx rfl (hb hby dCH4_60) k) ?_
  show Way _ _ _ _ (s₁.setTop (mkF m 61 #[iv 5, iv cc0, iv cc1, iv cc2, iv cc3, iv cc4] [(.int 4), (.int 5)]))
  have b5 : ¬ (5 : Int32) = (4 : Int32) := by decide
  refine Way.by (fun _ k => XS.icmpYes X0.here hx rfl (pc0 := 61) (pc' := 85) rfl (hb hby dCH4_61) rfl (feq b5).2 (by decide) (by decide) k) ?_
  show Way _ _ _ _ (s₁.setTop (mkF m 85 #[iv 5, iv cc0, iv cc1, iv cc2, iv cc3, iv cc4] []))
  refine Way.by (fun _ k => XS.iconst X0.here hx rfl (hb hby dCH5_85) k) ?_
  show Way _ _ _ _ (s₁.setTop (mkF m 86 #[iv 5, iv cc0, iv cc1, iv cc2, iv cc3, iv cc4] [(.int 5)]))
  obtain ⟨T6, h7, kc8, X9, e10, E11, A12, st13⟩ := newP X0 hx hZ (tw hw 54 rfl) e0 (g := (mkF m 86 #[iv 5, iv cc0, iv cc1, iv cc2, iv cc3, iv cc4] [(.int 5)])) rfl (hb hby dCH5_86) rfl (by decide) (cap := 5) (by decide) (by decide) (by decide) (by decide)
  obtain ⟨a14, g15⟩ : ∃ z, z = h0.size := ⟨_, rfl⟩
  rw [← g15] at A12 st13
  have nw17 : n0 ≤ a14 := Nat.le_trans Z0 (Nat.le_of_eq g15.symm)
  have hk18 : h0.size ≤ a14 := Nat.le_trans (Nat.le_refl h0.size) (Nat.le_of_eq g15.symm)
  have Z19 := Nat.le_trans Z0 E11.1
  have K20 := (Keep.refl h0 []).ext E11
  have hz21 := Nat.le_trans (Nat.le_refl h0.size) E11.1
  have V16 : Arv Z h7 a14 kc8 .char (5 : Int32) [] (.int 0) := Arv.new A12 (by decide)
  refine Way.by st13 ?_
  show Way _ _ _ _ (T6.setTop (mkF m 88 #[iv 5, iv cc0, iv cc1, iv cc2, iv cc3, iv cc4] [(.ref a14)]))
  refine Way.by (fun _ k => XS.dup X9.here hx rfl (hb hby dCH5_88) rfl rfl k) ?_
  show Way _ _ _ _ (T6.setTop (mkF m 89 #[iv 5, iv cc0, iv cc1, iv cc2, iv cc3, iv cc4] [(.ref a14), (.ref a14)]))
  refine Way.by (fun _ k => XS.iconst X9.here hx rfl (hb hby dCH5_89) k) ?_
  show Way _ _ _ _ (T6.setTop (mkF m 90 #[iv 5, iv cc0, iv cc1, iv cc2, iv cc3, iv cc4] [(.int 0), (.ref a14), (.ref a14)]))
  refine Way.by (fun _ k => XS.iloadN X9.here hx rfl (hb hby dCH5_90) rfl k) ?_
  show Way _ _ _ _ (T6.setTop (mkF m 91 #[iv 5, iv cc0, iv cc1, iv cc2, iv cc3, iv cc4] [(.int cc0), (.int 0), (.ref a14), (.ref a14)]))
  have V22 : Arv Z h7 a14 kc8 .char (5 : Int32) [(.int 0)] (.int 0) := V16.pad (pad_rep [] (.int 0) 1)
  obtain ⟨c23, A24, q25, S26, M27, H28, U29⟩ := id V22
  obtain ⟨T30, h31, X32, e33, W34, st35⟩ := stC X9 hx hZ e10 A24 (j := (0 : Int32)) (inb_of S26 ⟨(by decide), (by decide)⟩) (g := (mkF m 91 #[iv 5, iv cc0, iv cc1, iv cc2, iv cc3, iv cc4] [(.int cc0), (.int 0), (.ref a14), (.ref a14)])) rfl rfl (hb hby dCH5_91)
  have N36 := Fr.snoc X32 N0 nw17
  have V37 : Arv Z h31 a14 kc8 .char (5 : Int32) [(.int (nar .char cc0))] (.int 0) := Arv.set A24 q25 S26 M27 H28 U29 (fits_nar_char _) W34 0 rfl (leB rfl)
  have nq39 : nar .char cc0 = cc0 := own_nb hb0
  have V38 : Arv Z h31 a14 kc8 .char (5 : Int32) [(.int cc0)] (.int 0) := by rw [nq39] at V37; exact V37
  have Z40 : n0 ≤ h31.size := by rw [W34.size]; exact Z19
  have K41 := K20.wr W34 (Or.inr hk18)
  have hz42 : h0.size ≤ h31.size := by rw [W34.size]; exact hz21
  refine Way.by st35 ?_
  show Way _ _ _ _ (T30.setTop (mkF m 92 #[iv 5, iv cc0, iv cc1, iv cc2, iv cc3, iv cc4] [(.ref a14)]))
  refine Way.by (fun _ k => XS.dup X32.here hx rfl (hb hby dCH5_92) rfl rfl k) ?_
  show Way _ _ _ _ (T30.setTop (mkF m 93 #[iv 5, iv cc0, iv cc1, iv cc2, iv cc3, iv cc4] [(.ref a14), (.ref a14)]))
  refine Way.by (fun _ k => XS.iconst X32.here hx rfl (hb hby dCH5_93) k) ?_
  show Way _ _ _ _ (T30.setTop (mkF m 94 #[iv 5, iv cc0, iv cc1, iv cc2, iv cc3, iv cc4] [(.int 1), (.ref a14), (.ref a14)]))
  refine Way.by (fun _ k => XS.iloadN X32.here hx rfl (hb hby dCH5_94) rfl k) ?_
  show Way _ _ _ _ (T30.setTop (mkF m 95 #[iv 5, iv cc0, iv cc1, iv cc2, iv cc3, iv cc4] [(.int cc1), (.int 1), (.ref a14), (.ref a14)]))
  have V43 : Arv Z h31 a14 kc8 .char (5 : Int32) [(.int cc0), (.int 0)] (.int 0) := V38.pad (pad_rep [(.int cc0)] (.int 0) 1)
  obtain ⟨c44, A45, q46, S47, M48, H49, U50⟩ := id V43
  obtain ⟨T51, h52, X53, e54, W55, st56⟩ := stC X32 hx hZ e33 A45 (j := (1 : Int32)) (inb_of S47 ⟨(by decide), (by decide)⟩) (g := (mkF m 95 #[iv 5, iv cc0, iv cc1, iv cc2, iv cc3, iv cc4] [(.int cc1), (.int 1), (.ref a14), (.ref a14)])) rfl rfl (hb hby dCH5_95)
  have N57 := Fr.snoc X53 N36 nw17
  have V58 : Arv Z h52 a14 kc8 .char (5 : Int32) [(.int cc0), (.int (nar .char cc1))] (.int 0) := Arv.set A45 q46 S47 M48 H49 U50 (fits_nar_char _) W55 1 rfl (leB rfl)
  have nq60 : nar .char cc1 = cc1 := own_nb hb1
  have V59 : Arv Z h52 a14 kc8 .char (5 : Int32) [(.int cc0), (.int cc1)] (.int 0) := by rw [nq60] at V58; exact V58
  have Z61 : n0 ≤ h52.size := by rw [W55.size]; exact Z40
  have K62 := K41.wr W55 (Or.inr hk18)
  have hz63 : h0.size ≤ h52.size := by rw [W55.size]; exact hz42
  refine Way.by st56 ?_
  show Way _ _ _ _ (T51.setTop (mkF m 96 #[iv 5, iv cc0, iv cc1, iv cc2, iv cc3, iv cc4] [(.ref a14)]))
  refine Way.by (fun _ k => XS.dup X53.here hx rfl (hb hby dCH5_96) rfl rfl k) ?_
  show Way _ _ _ _ (T51.setTop (mkF m 97 #[iv 5, iv cc0, iv cc1, iv cc2, iv cc3, iv cc4] [(.ref a14), (.ref a14)]))
  refine Way.by (fun _ k => XS.iconst X53.here hx rfl (hb hby dCH5_97) k) ?_
  show Way _ _ _ _ (T51.setTop (mkF m 98 #[iv 5, iv cc0, iv cc1, iv cc2, iv cc3, iv cc4] [(.int 2), (.ref a14), (.ref a14)]))
  refine Way.by (fun _ k => XS.iloadN X53.here hx rfl (hb hby dCH5_98) rfl k) ?_
  show Way _ _ _ _ (T51.setTop (mkF m 99 #[iv 5, iv cc0, iv cc1, iv cc2, iv cc3, iv cc4] [(.int cc2), (.int 2), (.ref a14), (.ref a14)]))
  have V64 : Arv Z h52 a14 kc8 .char (5 : Int32) [(.int cc0), (.int cc1), (.int 0)] (.int 0) := V59.pad (pad_rep [(.int cc0), (.int cc1)] (.int 0) 1)
  obtain ⟨c65, A66, q67, S68, M69, H70, U71⟩ := id V64
  obtain ⟨T72, h73, X74, e75, W76, st77⟩ := stC X53 hx hZ e54 A66 (j := (2 : Int32)) (inb_of S68 ⟨(by decide), (by decide)⟩) (g := (mkF m 99 #[iv 5, iv cc0, iv cc1, iv cc2, iv cc3, iv cc4] [(.int cc2), (.int 2), (.ref a14), (.ref a14)])) rfl rfl (hb hby dCH5_99)
  have N78 := Fr.snoc X74 N57 nw17
  have V79 : Arv Z h73 a14 kc8 .char (5 : Int32) [(.int cc0), (.int cc1), (.int (nar .char cc2))] (.int 0) := Arv.set A66 q67 S68 M69 H70 U71 (fits_nar_char _) W76 2 rfl (leB rfl)
  have nq81 : nar .char cc2 = cc2 := own_nb hb2
  have V80 : Arv Z h73 a14 kc8 .char (5 : Int32) [(.int cc0), (.int cc1), (.int cc2)] (.int 0) := by rw [nq81] at V79; exact V79
  have Z82 : n0 ≤ h73.size := by rw [W76.size]; exact Z61
  have K83 := K62.wr W76 (Or.inr hk18)
  have hz84 : h0.size ≤ h73.size := by rw [W76.size]; exact hz63
  refine Way.by st77 ?_
  show Way _ _ _ _ (T72.setTop (mkF m 100 #[iv 5, iv cc0, iv cc1, iv cc2, iv cc3, iv cc4] [(.ref a14)]))
  refine Way.by (fun _ k => XS.dup X74.here hx rfl (hb hby dCH5_100) rfl rfl k) ?_
  show Way _ _ _ _ (T72.setTop (mkF m 101 #[iv 5, iv cc0, iv cc1, iv cc2, iv cc3, iv cc4] [(.ref a14), (.ref a14)]))
  refine Way.by (fun _ k => XS.iconst X74.here hx rfl (hb hby dCH5_101) k) ?_
  show Way _ _ _ _ (T72.setTop (mkF m 102 #[iv 5, iv cc0, iv cc1, iv cc2, iv cc3, iv cc4] [(.int 3), (.ref a14), (.ref a14)]))
  refine Way.by (fun _ k => XS.iload X74.here hx rfl (hb hby dCH5_102) rfl k) ?_
  show Way _ _ _ _ (T72.setTop (mkF m 104 #[iv 5, iv cc0, iv cc1, iv cc2, iv cc3, iv cc4] [(.int cc3), (.int 3), (.ref a14), (.ref a14)]))
  have V85 : Arv Z h73 a14 kc8 .char (5 : Int32) [(.int cc0), (.int cc1), (.int cc2), (.int 0)] (.int 0) := V80.pad (pad_rep [(.int cc0), (.int cc1), (.int cc2)] (.int 0) 1)
  obtain ⟨c86, A87, q88, S89, M90, H91, U92⟩ := id V85
  obtain ⟨T93, h94, X95, e96, W97, st98⟩ := stC X74 hx hZ e75 A87 (j := (3 : Int32)) (inb_of S89 ⟨(by decide), (by decide)⟩) (g := (mkF m 104 #[iv 5, iv cc0, iv cc1, iv cc2, iv cc3, iv cc4] [(.int cc3), (.int 3), (.ref a14), (.ref a14)])) rfl rfl (hb hby dCH5_104)
  have N99 := Fr.snoc X95 N78 nw17
  have V100 : Arv Z h94 a14 kc8 .char (5 : Int32) [(.int cc0), (.int cc1), (.int cc2), (.int (nar .char cc3))] (.int 0) := Arv.set A87 q88 S89 M90 H91 U92 (fits_nar_char _) W97 3 rfl (leB rfl)
  have nq102 : nar .char cc3 = cc3 := own_nb hb3
  have V101 : Arv Z h94 a14 kc8 .char (5 : Int32) [(.int cc0), (.int cc1), (.int cc2), (.int cc3)] (.int 0) := by rw [nq102] at V100; exact V100
  have Z103 : n0 ≤ h94.size := by rw [W97.size]; exact Z82
  have K104 := K83.wr W97 (Or.inr hk18)
  have hz105 : h0.size ≤ h94.size := by rw [W97.size]; exact hz84
  refine Way.by st98 ?_
  show Way _ _ _ _ (T93.setTop (mkF m 105 #[iv 5, iv cc0, iv cc1, iv cc2, iv cc3, iv cc4] [(.ref a14)]))
  refine Way.by (fun _ k => XS.dup X95.here hx rfl (hb hby dCH5_105) rfl rfl k) ?_
  show Way _ _ _ _ (T93.setTop (mkF m 106 #[iv 5, iv cc0, iv cc1, iv cc2, iv cc3, iv cc4] [(.ref a14), (.ref a14)]))
  refine Way.by (fun _ k => XS.iconst X95.here hx rfl (hb hby dCH5_106) k) ?_
  show Way _ _ _ _ (T93.setTop (mkF m 107 #[iv 5, iv cc0, iv cc1, iv cc2, iv cc3, iv cc4] [(.int 4), (.ref a14), (.ref a14)]))
  refine Way.by (fun _ k => XS.iload X95.here hx rfl (hb hby dCH5_107) rfl k) ?_
  show Way _ _ _ _ (T93.setTop (mkF m 109 #[iv 5, iv cc0, iv cc1, iv cc2, iv cc3, iv cc4] [(.int cc4), (.int 4), (.ref a14), (.ref a14)]))
  have V106 : Arv Z h94 a14 kc8 .char (5 : Int32) [(.int cc0), (.int cc1), (.int cc2), (.int cc3), (.int 0)] (.int 0) := V101.pad (pad_rep [(.int cc0), (.int cc1), (.int cc2), (.int cc3)] (.int 0) 1)
  obtain ⟨c107, A108, q109, S110, M111, H112, U113⟩ := id V106
  obtain ⟨T114, h115, X116, e117, W118, st119⟩ := stC X95 hx hZ e96 A108 (j := (4 : Int32)) (inb_of S110 ⟨(by decide), (by decide)⟩) (g := (mkF m 109 #[iv 5, iv cc0, iv cc1, iv cc2, iv cc3, iv cc4] [(.int cc4), (.int 4), (.ref a14), (.ref a14)])) rfl rfl (hb hby dCH5_109)
  have N120 := Fr.snoc X116 N99 nw17
  have V121 : Arv Z h115 a14 kc8 .char (5 : Int32) [(.int cc0), (.int cc1), (.int cc2), (.int cc3), (.int (nar .char cc4))] (.int 0) := Arv.set A108 q109 S110 M111 H112 U113 (fits_nar_char _) W118 4 rfl (leB rfl)
  have nq123 : nar .char cc4 = cc4 := own_nb hb4
  have V122 : Arv Z h115 a14 kc8 .char (5 : Int32) [(.int cc0), (.int cc1), (.int cc2), (.int cc3), (.int cc4)] (.int 0) := by rw [nq123] at V121; exact V121
  have Z124 : n0 ≤ h115.size := by rw [W118.size]; exact Z103
  have K125 := K104.wr W118 (Or.inr hk18)
  have hz126 : h0.size ≤ h115.size := by rw [W118.size]; exact hz105
  refine Way.by st119 ?_
  show Way _ _ _ _ (T114.setTop (mkF m 110 #[iv 5, iv cc0, iv cc1, iv cc2, iv cc3, iv cc4] [(.ref a14)]))
  refine Way.ret (v := (some (.ref a14))) X116 hlk (fun h => by rw [Bd.returns] at h; cases h) (fun fs hr => retOut X116 hx Bd.returns rfl (Or.inr (Or.inr (Or.inr (Or.inr ⟨rfl, rfl, rfl⟩)))) (hb hby dCH5_110) hr) ?_ (by decide) (by decide)
  show QCH5 Z cc0 cc1 cc2 cc3 cc4 h0 n0 _ T114.heap _
  rw [e117]
  exact ⟨a14, kc8, rfl, N120, K125, hk18, V122⟩
def QTN (Z : State) (uF : Addr) (uT : Addr) (h0 : Heap) (n0 : Nat) (v : Option Value) (h : Heap) (L : List Loc) : Prop := v = some (.ref uF) ∧ Fr n0 L ∧ h = h0
theorem dTN_0 : decode prog_24_method_10_code 0 = .ok (.aconst_null, 1) := by decide +kernel
theorem dTN_1 : decode prog_24_method_10_code 1 = .ok (.astore_n 1, 1) := by decide +kernel
theorem dTN_2 : decode prog_24_method_10_code 2 = .ok (.aload_n 0, 1) := by decide +kernel
theorem dTN_3 : decode prog_24_method_10_code 3 = .ok (.ifnull 13, 3) := by decide +kernel
theorem dTN_16 : decode prog_24_method_10_code 16 = .ok (.getstatic 432, 3) := by decide +kernel
theorem dTN_19 : decode prog_24_method_10_code 19 = .ok (.astore_n 1, 1) := by decide +kernel
theorem dTN_20 : decode prog_24_method_10_code 20 = .ok (.goto 17, 3) := by decide +kernel
theorem dTN_37 : decode prog_24_method_10_code 37 = .ok (.aload_n 1, 1) := by decide +kernel
theorem dTN_38 : decode prog_24_method_10_code 38 = .ok (.areturn, 1) := by decide +kernel
theorem pnTN : plainName "com/example/bare_orm/bareorm/MappingReader" = true := by first | (simp [plainName, overriddenIn]; done) | decide +kernel
theorem pdTN : parseMethodDescriptor "(Ljava/lang/String;)Ljava/lang/Boolean;" = some ⟨[(.object "java/lang/String")], some (.object "java/lang/Boolean")⟩ := by decide +kernel
set_option maxRecDepth 65536 in
set_option maxHeartbeats 40000000 in
theorem rmTN (l : Launch) (Z : State) (a0 : Array Value) (hw : ∀ d ∈ tables_1, d.before a0 Z = true) (ws : List Jvm.Cond) (uF : Addr) (uT : Addr) (h0 : Heap) (n0 : Nat) (Z0 : n0 ≤ h0.size) (O0 : Old Z n0 h0) (SV : own_Env Z) (SF : Sta Z Z.heap "java/lang/Boolean" "FALSE" "Ljava/lang/Boolean;" (.ref uF)) (STR : Sta Z Z.heap "java/lang/Boolean" "TRUE" "Ljava/lang/Boolean;" (.ref uT)) :
    MetFree l (⟨"com/example/bare_orm/bareorm/MappingReader", "trueOrFalse", "(Ljava/lang/String;)Ljava/lang/Boolean;"⟩ : MethodName) (head1 (Jvm.Cond.code (⟨"com/example/bare_orm/bareorm/MappingReader", "trueOrFalse", "(Ljava/lang/String;)Ljava/lang/Boolean;"⟩ : MethodName) prog_24_method_10_code 2 (some (.object "java/lang/Boolean")) :: ws) ({ frames := 0, cells := 0, slots := 0, locals := 0 } : Room)) (fun aa U => aa = #[.null] ∧ Z.Warmed39 U.vm ∧ U.heap = h0) (fun _ _ _ _ _ => True) (fun _ U oo U' => ∃ v L, oo = .returned v ∧ QTN Z uF uT h0 n0 v U'.heap L ∧ FrameEnd U oo U' L ({ frames := 0, cells := 0, slots := 0, locals := 0 } : Room).cells ({ frames := 0, cells := 0, slots := 0, locals := 0 } : Room).slots) := by
  refine MetFree.of_bodySF (plainFor_of_name pnTN) hisR ?_
  intro p e s m args below meth c s₁ Bd hml0 hP hK
  obtain ⟨rfl, hZ, hh⟩ := hP
  have hx := Bd.exec
  have hby := Bd.bytes
  have hlk : meth.locks = false := BodyLoose.notSynchronized Bd
  have hml : c.maxLocals = 2 := hml0
  have hown : s.vm.findClass "com/example/bare_orm/bareorm/MappingReader" = some m.cls := findClass_of_methodNamed Bd.named
  have hnm := (name_of_methodNamed Bd.named Bd.method).1
  have X0 : Stand p l e ({ frames := 0, cells := 0, slots := 0, locals := 0 } : Room) s m #[.null] below meth c s₁ [] 0 0 := Stand.of_body Bd
  have e0 : s₁.heap = h0 := by rw [← hh, Bd.state]; rfl
  have N0 := Fr.nil n0
  have ef : entryFrame m #[.null] 2 = mkF m 0 #[.val .null, .unset] [] := by first | (simp [entryFrame, mkF, argsToLocals, Value.category, maxLocals]; done) | rfl
  show Way p.tables e below (KQ s (QTN Z uF uT h0 n0) ({ frames := 0, cells := 0, slots := 0, locals := 0 } : Room).cells ({ frames := 0, cells := 0, slots := 0, locals := 0 } : Room).slots) (s₁.setTop (entryFrame m #[.null] 2))
  rw [ef]
  refine Way.by (fun _ k => XS.aconstNull X0.here hx rfl (hb hby dTN_0) k) ?_
  show Way _ _ _ _ (s₁.setTop (mkF m 1 #[.val .null, .unset] [.null]))
  refine Way.by (fun _ k => XS.astoreN X0.here hx rfl (hb hby dTN_1) rfl rfl (l' := #[.val .null, .val .null]) rfl k) ?_
  show Way _ _ _ _ (s₁.setTop (mkF m 2 #[.val .null, .val .null] []))
  refine Way.by (fun _ k => XS.aloadN X0.here hx rfl (hb hby dTN_2) rfl rfl k) ?_
  show Way _ _ _ _ (s₁.setTop (mkF m 3 #[.val .null, .val .null] [.null]))
  refine Way.by (fun _ k => XS.ifnullYes X0.here hx rfl (pc0 := 3) (pc' := 16) rfl (hb hby dTN_3) rfl (by decide) (by decide) k) ?_
  show Way _ _ _ _ (s₁.setTop (mkF m 16 #[.val .null, .val .null] []))
  obtain ⟨T1, X2, e3, st4⟩ := getS X0 hx hZ hown (host := "") (tw hw 4 rfl) Via.refl e0 (Sta.ext O0.2 SF) (g := (mkF m 16 #[.val .null, .val .null] [])) rfl (hb hby dTN_16)
  refine Way.by st4 ?_
  show Way _ _ _ _ (T1.setTop (mkF m 19 #[.val .null, .val .null] [(.ref uF)]))
  refine Way.by (fun _ k => XS.astoreN X2.here hx rfl (hb hby dTN_19) rfl rfl (l' := #[.val .null, rv uF]) rfl k) ?_
  show Way _ _ _ _ (T1.setTop (mkF m 20 #[.val .null, rv uF] []))
  refine Way.by (fun _ k => XS.goto X2.here hx rfl (pc0 := 20) (pc' := 37) rfl (hb hby dTN_20) (by decide) (by decide) k) ?_
  show Way _ _ _ _ (T1.setTop (mkF m 37 #[.val .null, rv uF] []))
  refine Way.by (fun _ k => XS.aloadN X2.here hx rfl (hb hby dTN_37) rfl rfl k) ?_
  show Way _ _ _ _ (T1.setTop (mkF m 38 #[.val .null, rv uF] [(.ref uF)]))
  refine Way.ret (v := (some (.ref uF))) X2 hlk (fun h => by rw [Bd.returns] at h; cases h) (fun fs hr => retOut X2 hx Bd.returns rfl (Or.inr (Or.inr (Or.inr (Or.inr ⟨rfl, rfl, rfl⟩)))) (hb hby dTN_38) hr) ?_ (by decide) (by decide)
  show QTN Z uF uT h0 n0 _ T1.heap _
  rw [e3]
  exact ⟨rfl, N0, rfl⟩
def QTF (Z : State) (px : Addr) (pt : Addr) (cs : List Int32) (uF : Addr) (uT : Addr) (h0 : Heap) (n0 : Nat) (v : Option Value) (h : Heap) (L : List Loc) : Prop := v = some (own_tf cs uF uT) ∧ Fr n0 L ∧ Keep h0 h []
theorem dTF_6 : decode prog_24_method_10_code 6 = .ok (.aload_n 0, 1) := by decide +kernel
theorem dTF_7 : decode prog_24_method_10_code 7 = .ok (.ldc_w 430, 3) := by decide +kernel
theorem dTF_10 : decode prog_24_method_10_code 10 = .ok (.invokevirtual 122, 3) := by decide +kernel
theorem dTF_13 : decode prog_24_method_10_code 13 = .ok (.ifCond .eq 10, 3) := by decide +kernel
theorem dTF_23 : decode prog_24_method_10_code 23 = .ok (.aload_n 0, 1) := by decide +kernel
theorem dTF_24 : decode prog_24_method_10_code 24 = .ok (.ldc_w 373, 3) := by decide +kernel
theorem dTF_27 : decode prog_24_method_10_code 27 = .ok (.invokevirtual 122, 3) := by decide +kernel
theorem dTF_30 : decode prog_24_method_10_code 30 = .ok (.ifCond .eq 7, 3) := by decide +kernel
theorem dTF_33 : decode prog_24_method_10_code 33 = .ok (.getstatic 436, 3) := by decide +kernel
theorem dTF_36 : decode prog_24_method_10_code 36 = .ok (.astore_n 1, 1) := by decide +kernel
set_option maxRecDepth 65536 in
set_option maxHeartbeats 40000000 in
theorem rmTF (l : Launch) (Z : State) (a0 : Array Value) (hw : ∀ d ∈ tables_1, d.before a0 Z = true) (ws : List Jvm.Cond) (px : Addr) (pt : Addr) (cs : List Int32) (uF : Addr) (uT : Addr) (h0 : Heap) (n0 : Nat) (Z0 : n0 ≤ h0.size) (H0 : own_Str Z h0 px pt cs) (O0 : Old Z n0 h0) (SV : own_Env Z) (SF : Sta Z Z.heap "java/lang/Boolean" "FALSE" "Ljava/lang/Boolean;" (.ref uF)) (STR : Sta Z Z.heap "java/lang/Boolean" "TRUE" "Ljava/lang/Boolean;" (.ref uT)) :
    MetFree l (⟨"com/example/bare_orm/bareorm/MappingReader", "trueOrFalse", "(Ljava/lang/String;)Ljava/lang/Boolean;"⟩ : MethodName) (head1 (Jvm.Cond.code (⟨"com/example/bare_orm/bareorm/MappingReader", "trueOrFalse", "(Ljava/lang/String;)Ljava/lang/Boolean;"⟩ : MethodName) prog_24_method_10_code 2 (some (.object "java/lang/Boolean")) :: ws) ({ frames := 2, cells := 4, slots := 44, locals := 28 } : Room)) (fun aa U => aa = #[(.ref px)] ∧ Z.Warmed39 U.vm ∧ U.heap = h0 ∧ CHv Z own_EL U.vm h0) (fun _ _ _ _ _ => True) (fun _ U oo U' => ∃ v L, oo = .returned v ∧ QTF Z px pt cs uF uT h0 n0 v U'.heap L ∧ CHr Z own_EL U.vm U.heap U'.vm U'.heap ∧ ReturnedEndW U oo U' L ({ frames := 2, cells := 4, slots := 44, locals := 28 } : Room).cells ({ frames := 2, cells := 4, slots := 44, locals := 28 } : Room).slots) := by
  refine MetFree.of_bodySF (plainFor_of_name pnTN) hisR ?_
  intro p e s m args below meth c s₁ Bd hml0 hP hK
  obtain ⟨rfl, hZ, hh, HV0⟩ := hP
  have hx := Bd.exec
  have hby := Bd.bytes
  have hlk : meth.locks = false := BodyLoose.notSynchronized Bd
  have hml : c.maxLocals = 2 := hml0
  have hown : s.vm.findClass "com/example/bare_orm/bareorm/MappingReader" = some m.cls := findClass_of_methodNamed Bd.named
  have hnm := (name_of_methodNamed Bd.named Bd.method).1
  have X0 : Stand p l e ({ frames := 2, cells := 4, slots := 44, locals := 28 } : Room) s m #[(.ref px)] below meth c s₁ [] 0 0 := Stand.of_body Bd
  have e0 : s₁.heap = h0 := by rw [← hh, Bd.state]; rfl
  have N0 := Fr.nil n0
  have ef : entryFrame m #[(.ref px)] 2 = mkF m 0 #[rv px, .unset] [] := by first | (simp [entryFrame, mkF, argsToLocals, Value.category, maxLocals]; done) | rfl
  have XW : Stand p l e ({ frames := 2, cells := 4, slots := 44, locals := 28 } : Room) (s.setVm s.vm) m #[(.ref px)] below meth c s₁ [] 0 0 := X0
  have hS0 : s.Since s.vm 0 := (State.WarmedH.refl s).since 0
  have hZ0 : Z.Warmed39 (s.setVm s.vm).vm := hZ
  have hown0 : (s.setVm s.vm).vm.findClass "com/example/bare_orm/bareorm/MappingReader" = some m.cls := hown
  have wS : ∀ d ∈ Bundle.stringAtoms, d.before a0 Z = true := fun d hd => hw d (own_wS d hd)
  have hEL : EW Z a0 own_EL := own_EW hw
  have CH0 : CHr Z own_EL s.vm h0 s.vm h0 := CHr.refl HV0
  show Way p.tables e below (KQH s Z own_EL (QTF Z px pt cs uF uT h0 n0) ({ frames := 2, cells := 4, slots := 44, locals := 28 } : Room).cells ({ frames := 2, cells := 4, slots := 44, locals := 28 } : Room).slots) (s₁.setTop (entryFrame m #[(.ref px)] 2))
  rw [ef]
  refine Way.by (fun _ k => XS.aconstNull XW.here hx rfl (hb hby dTN_0) k) ?_
  show Way _ _ _ _ (s₁.setTop (mkF m 1 #[rv px, .unset] [.null]))
  refine Way.by (fun _ k => XS.astoreN XW.here hx rfl (hb hby dTN_1) rfl rfl (l' := #[rv px, .val .null]) rfl k) ?_
  show Way _ _ _ _ (s₁.setTop (mkF m 2 #[rv px, .val .null] []))
  refine Way.by (fun _ k => XS.aloadN XW.here hx rfl (hb hby dTN_2) rfl rfl k) ?_
  show Way _ _ _ _ (s₁.setTop (mkF m 3 #[rv px, .val .null] [(.ref px)]))
  refine Way.by (fun _ k => XS.ifnullNo XW.here hx rfl (hb hby dTN_3) rfl k) ?_
  show Way _ _ _ _ (s₁.setTop (mkF m 6 #[rv px, .val .null] []))
  refine Way.by (fun _ k => XS.aloadN XW.here hx rfl (hb hby dTF_6) rfl rfl k) ?_
  show Way _ _ _ _ (s₁.setTop (mkF m 7 #[rv px, .val .null] [(.ref px)]))
  obtain ⟨a1, T2, h3, k4, bd5, kc6, X7, e8, E9, hS10, hk11, hZ12, hown13, Ex14, Co15, Va16, Ar17, la18, lb19, hr20, lit21, sfn22, st23⟩ := own_ldcWC XW hx hZ0 hown0 (tw hw 66 rfl) wS e0 hS0 (Nat.zero_le _) hEL (by decide) HV0 (vs := ([102, 97, 108, 115, 101] : List Int32).map fun c => Value.int (StrChars.lo8 c)) (z := (5 : Int32)) ⟨by decide, by decide⟩ (by decide) rfl (g := (mkF m 7 #[rv px, .val .null] [(.ref px)])) rfl (hb hby dTF_7) (n := 20) (by decide) (by decide) (by decide) (by decide)
  have H24 := hr20.1
  have CH25 := CH0.trans hr20
  have S27 := H0.ext E9
  have Z28 := Nat.le_trans Z0 E9.1
  have O29 := O0.ext E9
  have K30 := (Keep.refl h0 []).ext E9
  have hz31 := Nat.le_trans (Nat.le_refl h0.size) E9.1
  have F32 : own_Str Z h3 a1 bd5 [102, 97, 108, 115, 101] := ⟨Ex14, Va16, Co15, ⟨_, _, _, Ar17, Or.inl ⟨rfl, rfl, rfl, by decide⟩⟩, by decide, by decide⟩
  refine Way.by st23 ?_
  show Way _ _ _ _ (T2.setTop (mkF m 10 #[rv px, .val .null] [(.ref a1), (.ref px)]))
  obtain ⟨cq49, kq50, qa51, qb52, qc53⟩ := isOf hZ12 e8 S27.1
  obtain ⟨_, _, ⟨T33, L35, k36, n37⟩, -, X34, ⟨Lc38, hQ39, l40, y41, z42⟩, st43⟩ := X7.virtualBack hx (y := (⟨"java/lang/String", "equals", "(Ljava/lang/Object;)Z"⟩ : MethodName)) (z := (⟨"java/lang/String", "equals", "(Ljava/lang/Object;)Z"⟩ : MethodName)) hown13 (mvT hZ12 (tw hw 67 rfl)) (mvT hZ12 (tw hw 68 rfl)) (notFace_of_selects (args := #[]) (mvT hZ12 (tw hw 70 rfl))) (mvT hZ12 (tw hw 70 rfl)) (mvT hZ12 (tw hw 69 rfl)) (by decide) (own_eqs (W := 0) (n0 := n0) hZ12 hw SV O29 (cs := cs) (ds := [102, 97, 108, 115, 101]) S27 F32 (by decide) (by decide)) qa51 qc53 (g := (mkF m 10 #[rv px, .val .null] [(.ref a1), (.ref px)])) rfl (by rw [hml]; rfl) (Steps.refl _) (argsL := [(.ref a1)]) (rest := []) (lenOf own_pdEq rfl) rfl (leW rfl) (hb hby dTF_10) (fun _ _ => ⟨rfl, e8, (leB rfl), (leB rfl)⟩)
  dsimp only [Pt.U, Pt.locs, Pt.cells, Pt.slots] at X34 l40 y41 z42 st43 hQ39
  subst y41 z42
  obtain ⟨rfl, N54, e45⟩ := hQ39
  have N44 : Fr n0 L35 := by rw [l40]; exact Fr.app N0 N54
  refine Way.to st43 ?_
  show Way _ _ _ _ (T33.setTop (mkF m 13 #[rv px, .val .null] [(.int (if (cs : List Int32) = [102, 97, 108, 115, 101] then (1 : Int32) else 0))]))
  by_cases hq13 : (if (cs : List Int32) = [102, 97, 108, 115, 101] then (1 : Int32) else 0) = (0 : Int32)
  · skip
    refine Way.by (fun _ k => XS.ifYes X34.here hx rfl (pc0 := 13) (pc' := 23) rfl (hb hby dTF_13) rfl ((if0 .eq _).trans (teq hq13).1) (by decide) (by decide) k) ?_
    show Way _ _ _ _ (T33.setTop (mkF m 23 #[rv px, .val .null] []))
    refine Way.by (fun _ k => XS.aloadN X34.here hx rfl (hb hby dTF_23) rfl rfl k) ?_
    show Way _ _ _ _ (T33.setTop (mkF m 24 #[rv px, .val .null] [(.ref px)]))
    obtain ⟨a56, T57, h58, k59, bd60, kc61, X62, e63, E64, hS65, hk66, hZ67, hown68, Ex69, Co70, Va71, Ar72, la73, lb74, hr75, lit76, sfn77, st78⟩ := own_ldcWC X34 hx hZ12 hown13 (tw hw 76 rfl) wS e45 hS10 hk11 hEL (by decide) H24 (vs := ([116, 114, 117, 101] : List Int32).map fun c => Value.int (StrChars.lo8 c)) (z := (4 : Int32)) ⟨by decide, by decide⟩ (by decide) rfl (g := (mkF m 24 #[rv px, .val .null] [(.ref px)])) rfl (hb hby dTF_24) (n := 16) (by decide) (by decide) (by decide) (by decide)
    have H79 := hr75.1
    have CH80 := CH25.trans hr75
    have S82 := S27.ext E64
    have S83 := F32.ext E64
    have Z84 := Nat.le_trans Z28 E64.1
    have O85 := O29.ext E64
    have K86 := K30.ext E64
    have hz87 := Nat.le_trans hz31 E64.1
    have F88 : own_Str Z h58 a56 bd60 [116, 114, 117, 101] := ⟨Ex69, Va71, Co70, ⟨_, _, _, Ar72, Or.inl ⟨rfl, rfl, rfl, by decide⟩⟩, by decide, by decide⟩
    refine Way.by st78 ?_
    show Way _ _ _ _ (T57.setTop (mkF m 27 #[rv px, .val .null] [(.ref a56), (.ref px)]))
    obtain ⟨cq105, kq106, qa107, qb108, qc109⟩ := isOf hZ67 e63 S82.1
    obtain ⟨_, _, ⟨T89, L91, k92, n93⟩, -, X90, ⟨Lc94, hQ95, l96, y97, z98⟩, st99⟩ := X62.virtualBack hx (y := (⟨"java/lang/String", "equals", "(Ljava/lang/Object;)Z"⟩ : MethodName)) (z := (⟨"java/lang/String", "equals", "(Ljava/lang/Object;)Z"⟩ : MethodName)) hown68 (mvT hZ67 (tw hw 67 rfl)) (mvT hZ67 (tw hw 68 rfl)) (notFace_of_selects (args := #[]) (mvT hZ67 (tw hw 70 rfl))) (mvT hZ67 (tw hw 70 rfl)) (mvT hZ67 (tw hw 69 rfl)) (by decide) (own_eqs (W := 0) (n0 := n0) hZ67 hw SV O85 (cs := cs) (ds := [116, 114, 117, 101]) S82 F88 (by decide) (by decide)) qa107 qc109 (g := (mkF m 27 #[rv px, .val .null] [(.ref a56), (.ref px)])) rfl (by rw [hml]; rfl) (Steps.refl _) (argsL := [(.ref a56)]) (rest := []) (lenOf own_pdEq rfl) rfl (leW rfl) (hb hby dTF_27) (fun _ _ => ⟨rfl, e63, (leB rfl), (leB rfl)⟩)
    dsimp only [Pt.U, Pt.locs, Pt.cells, Pt.slots] at X90 l96 y97 z98 st99 hQ95
    subst y97 z98
    obtain ⟨rfl, N110, e101⟩ := hQ95
    have N100 : Fr n0 L91 := by rw [l96]; exact Fr.app N44 N110
    refine Way.to st99 ?_
    show Way _ _ _ _ (T89.setTop (mkF m 30 #[rv px, .val .null] [(.int (if (cs : List Int32) = [116, 114, 117, 101] then (1 : Int32) else 0))]))
    by_cases hq30 : (if (cs : List Int32) = [116, 114, 117, 101] then (1 : Int32) else 0) = (0 : Int32)
    · skip
      refine Way.by (fun _ k => XS.ifYes X90.here hx rfl (pc0 := 30) (pc' := 37) rfl (hb hby dTF_30) rfl ((if0 .eq _).trans (teq hq30).1) (by decide) (by decide) k) ?_
      show Way _ _ _ _ (T89.setTop (mkF m 37 #[rv px, .val .null] []))
      refine Way.by (fun _ k => XS.aloadN X90.here hx rfl (hb hby dTN_37) rfl rfl k) ?_
      show Way _ _ _ _ (T89.setTop (mkF m 38 #[rv px, .val .null] [.null]))
      refine Way.retH (v := (some .null)) X90 hS65 (by rw [e101]; exact hk66) hZ67 hEL hh e101 H79 CH80 hlk (fun h => by rw [Bd.returns] at h; cases h) (fun fs hr => retOut X90 hx Bd.returns rfl (Or.inr (Or.inr (Or.inr (Or.inr ⟨rfl, rfl, rfl⟩)))) (hb hby dTN_38) hr) ?_ (by decide) (by decide)
      show QTF Z px pt cs uF uT h0 n0 _ T89.heap _
      rw [e101]
      exact ⟨congrArg some (own_tfN (own_if0 hq13) (own_if0 hq30)).symm, N100, K86⟩
    · skip
      refine Way.by (fun _ k => XS.ifNo X90.here hx rfl (hb hby dTF_30) rfl ((if0 .eq _).trans (feq hq30).1) k) ?_
      show Way _ _ _ _ (T89.setTop (mkF m 33 #[rv px, .val .null] []))
      obtain ⟨T112, X113, e114, st115⟩ := getS X90 hx hZ67 hown68 (host := "") (tw hw 88 rfl) Via.refl e101 (Sta.ext O85.2 STR) (g := (mkF m 33 #[rv px, .val .null] [])) rfl (hb hby dTF_33)
      refine Way.by st115 ?_
      show Way _ _ _ _ (T112.setTop (mkF m 36 #[rv px, .val .null] [(.ref uT)]))
      refine Way.by (fun _ k => XS.astoreN X113.here hx rfl (hb hby dTF_36) rfl rfl (l' := #[rv px, rv uT]) rfl k) ?_
      show Way _ _ _ _ (T112.setTop (mkF m 37 #[rv px, rv uT] []))
      refine Way.by (fun _ k => XS.aloadN X113.here hx rfl (hb hby dTN_37) rfl rfl k) ?_
      show Way _ _ _ _ (T112.setTop (mkF m 38 #[rv px, rv uT] [(.ref uT)]))
      refine Way.retH (v := (some (.ref uT))) X113 hS65 (by rw [e114]; exact hk66) hZ67 hEL hh e114 H79 CH80 hlk (fun h => by rw [Bd.returns] at h; cases h) (fun fs hr => retOut X113 hx Bd.returns rfl (Or.inr (Or.inr (Or.inr (Or.inr ⟨rfl, rfl, rfl⟩)))) (hb hby dTN_38) hr) ?_ (by decide) (by decide)
      show QTF Z px pt cs uF uT h0 n0 _ T112.heap _
      rw [e114]
      exact ⟨congrArg some (own_tfT (own_if0 hq13) (own_if1 hq30)).symm, N100, K86⟩
  · skip
    refine Way.by (fun _ k => XS.ifNo X34.here hx rfl (hb hby dTF_13) rfl ((if0 .eq _).trans (feq hq13).1) k) ?_
    show Way _ _ _ _ (T33.setTop (mkF m 16 #[rv px, .val .null] []))
    obtain ⟨T116, X117, e118, st119⟩ := getS X34 hx hZ12 hown13 (host := "") (tw hw 4 rfl) Via.refl e45 (Sta.ext O29.2 SF) (g := (mkF m 16 #[rv px, .val .null] [])) rfl (hb hby dTN_16)
    refine Way.by st119 ?_
    show Way _ _ _ _ (T116.setTop (mkF m 19 #[rv px, .val .null] [(.ref uF)]))
    refine Way.by (fun _ k => XS.astoreN X117.here hx rfl (hb hby dTN_19) rfl rfl (l' := #[rv px, rv uF]) rfl k) ?_
    show Way _ _ _ _ (T116.setTop (mkF m 20 #[rv px, rv uF] []))
    refine Way.by (fun _ k => XS.goto X117.here hx rfl (pc0 := 20) (pc' := 37) rfl (hb hby dTN_20) (by decide) (by decide) k) ?_
    show Way _ _ _ _ (T116.setTop (mkF m 37 #[rv px, rv uF] []))
    refine Way.by (fun _ k => XS.aloadN X117.here hx rfl (hb hby dTN_37) rfl rfl k) ?_
    show Way _ _ _ _ (T116.setTop (mkF m 38 #[rv px, rv uF] [(.ref uF)]))
    refine Way.retH (v := (some (.ref uF))) X117 hS10 (by rw [e118]; exact hk11) hZ12 hEL hh e118 H24 CH25 hlk (fun h => by rw [Bd.returns] at h; cases h) (fun fs hr => retOut X117 hx Bd.returns rfl (Or.inr (Or.inr (Or.inr (Or.inr ⟨rfl, rfl, rfl⟩)))) (hb hby dTN_38) hr) ?_ (by decide) (by decide)
    show QTF Z px pt cs uF uT h0 n0 _ T116.heap _
    rw [e118]
    exact ⟨congrArg some (own_tfF (own_if1 hq13)).symm, N44, K30⟩
def QBV0 (Z : State) (pa : Addr) (h0 : Heap) (n0 : Nat) (v : Option Value) (h : Heap) (L : List Loc) : Prop := v = some (.int 0) ∧ Fr n0 L ∧ h = h0
theorem dBV0_0 : decode jdk_2055_method_4_code 0 = .ok (.aload_n 0, 1) := by decide +kernel
theorem dBV0_1 : decode jdk_2055_method_4_code 1 = .ok (.getfield 7, 3) := by decide +kernel
theorem dBV0_4 : decode jdk_2055_method_4_code 4 = .ok (.ireturn, 1) := by decide +kernel
theorem pnBV0 : plainName "java/lang/Boolean" = true := by first | (simp [plainName, overriddenIn]; done) | decide +kernel
theorem pdBV0 : parseMethodDescriptor "()Z" = some ⟨[], some .boolean⟩ := by decide +kernel
set_option maxRecDepth 65536 in
set_option maxHeartbeats 40000000 in
theorem rmBV0 (l : Launch) (Z : State) (a0 : Array Value) (hw : ∀ d ∈ tables_1, d.before a0 Z = true) (ws : List Jvm.Cond) (pa : Addr) (h0 : Heap) (n0 : Nat) (Z0 : n0 ≤ h0.size) (H0 : Fld Z h0 pa "java/lang/Boolean" "value" "Z" (.int 0)) :
    MetFree l (⟨"java/lang/Boolean", "booleanValue", "()Z"⟩ : MethodName) (head1 (Jvm.Cond.code (⟨"java/lang/Boolean", "booleanValue", "()Z"⟩ : MethodName) jdk_2055_method_4_code 1 (some .boolean) :: ws) ({ frames := 0, cells := 0, slots := 0, locals := 0 } : Room)) (fun aa U => aa = #[(.ref pa)] ∧ Z.Warmed39 U.vm ∧ U.heap = h0) (fun _ _ _ _ _ => True) (fun _ U oo U' => ∃ v L, oo = .returned v ∧ QBV0 Z pa h0 n0 v U'.heap L ∧ FrameEnd U oo U' L ({ frames := 0, cells := 0, slots := 0, locals := 0 } : Room).cells ({ frames := 0, cells := 0, slots := 0, locals := 0 } : Room).slots) := by
  refine MetFree.of_bodySF (plainFor_of_name pnBV0) hisR ?_
  intro p e s m args below meth c s₁ Bd hml0 hP hK
  obtain ⟨rfl, hZ, hh⟩ := hP
  have hx := Bd.exec
  have hby := Bd.bytes
  have hlk : meth.locks = false := BodyLoose.notSynchronized Bd
  have hml : c.maxLocals = 1 := hml0
  have hown : s.vm.findClass "java/lang/Boolean" = some m.cls := findClass_of_methodNamed Bd.named
  have hnm := (name_of_methodNamed Bd.named Bd.method).1
  have X0 : Stand p l e ({ frames := 0, cells := 0, slots := 0, locals := 0 } : Room) s m #[(.ref pa)] below meth c s₁ [] 0 0 := Stand.of_body Bd
  have e0 : s₁.heap = h0 := by rw [← hh, Bd.state]; rfl
  have N0 := Fr.nil n0
  have ef : entryFrame m #[(.ref pa)] 1 = mkF m 0 #[rv pa] [] := by first | (simp [entryFrame, mkF, argsToLocals, Value.category, maxLocals]; done) | rfl
  show Way p.tables e below (KQ s (QBV0 Z pa h0 n0) ({ frames := 0, cells := 0, slots := 0, locals := 0 } : Room).cells ({ frames := 0, cells := 0, slots := 0, locals := 0 } : Room).slots) (s₁.setTop (entryFrame m #[(.ref pa)] 1))
  rw [ef]
  refine Way.by (fun _ k => XS.aloadN X0.here hx rfl (hb hby dBV0_0) rfl rfl k) ?_
  show Way _ _ _ _ (s₁.setTop (mkF m 1 #[rv pa] [(.ref pa)]))
  obtain ⟨T1, X2, e3, st4⟩ := getF X0 hx hZ hown (host := "") (Or.inl (tw hw 11 rfl)) Via.refl e0 H0 (g := (mkF m 1 #[rv pa] [(.ref pa)])) rfl rfl (hb hby dBV0_1)
  refine Way.by st4 ?_
  show Way _ _ _ _ (T1.setTop (mkF m 4 #[rv pa] [(.int 0)]))
  refine Way.ret (v := (some (.int (nar .boolean (0 : Int32))))) X2 hlk (fun h => by rw [Bd.returns] at h; cases h) (fun fs hr => retN X2 hx (t := .boolean) Bd.returns (by simp) (hb hby dBV0_4) hr) ?_ (by decide) (by decide)
  show QBV0 Z pa h0 n0 _ T1.heap _
  rw [e3]
  exact ⟨rfl, N0, rfl⟩
def QBV1 (Z : State) (pa : Addr) (h0 : Heap) (n0 : Nat) (v : Option Value) (h : Heap) (L : List Loc) : Prop := v = some (.int 1) ∧ Fr n0 L ∧ h = h0
set_option maxRecDepth 65536 in
set_option maxHeartbeats 40000000 in
theorem rmBV1 (l : Launch) (Z : State) (a0 : Array Value) (hw : ∀ d ∈ tables_1, d.before a0 Z = true) (ws : List Jvm.Cond) (pa : Addr) (h0 : Heap) (n0 : Nat) (Z0 : n0 ≤ h0.size) (H0 : Fld Z h0 pa "java/lang/Boolean" "value" "Z" (.int 1)) :
    MetFree l (⟨"java/lang/Boolean", "booleanValue", "()Z"⟩ : MethodName) (head1 (Jvm.Cond.code (⟨"java/lang/Boolean", "booleanValue", "()Z"⟩ : MethodName) jdk_2055_method_4_code 1 (some .boolean) :: ws) ({ frames := 0, cells := 0, slots := 0, locals := 0 } : Room)) (fun aa U => aa = #[(.ref pa)] ∧ Z.Warmed39 U.vm ∧ U.heap = h0) (fun _ _ _ _ _ => True) (fun _ U oo U' => ∃ v L, oo = .returned v ∧ QBV1 Z pa h0 n0 v U'.heap L ∧ FrameEnd U oo U' L ({ frames := 0, cells := 0, slots := 0, locals := 0 } : Room).cells ({ frames := 0, cells := 0, slots := 0, locals := 0 } : Room).slots) := by
  refine MetFree.of_bodySF (plainFor_of_name pnBV0) hisR ?_
  intro p e s m args below meth c s₁ Bd hml0 hP hK
  obtain ⟨rfl, hZ, hh⟩ := hP
  have hx := Bd.exec
  have hby := Bd.bytes
  have hlk : meth.locks = false := BodyLoose.notSynchronized Bd
  have hml : c.maxLocals = 1 := hml0
  have hown : s.vm.findClass "java/lang/Boolean" = some m.cls := findClass_of_methodNamed Bd.named
  have hnm := (name_of_methodNamed Bd.named Bd.method).1
  have X0 : Stand p l e ({ frames := 0, cells := 0, slots := 0, locals := 0 } : Room) s m #[(.ref pa)] below meth c s₁ [] 0 0 := Stand.of_body Bd
  have e0 : s₁.heap = h0 := by rw [← hh, Bd.state]; rfl
  have N0 := Fr.nil n0
  have ef : entryFrame m #[(.ref pa)] 1 = mkF m 0 #[rv pa] [] := by first | (simp [entryFrame, mkF, argsToLocals, Value.category, maxLocals]; done) | rfl
  show Way p.tables e below (KQ s (QBV1 Z pa h0 n0) ({ frames := 0, cells := 0, slots := 0, locals := 0 } : Room).cells ({ frames := 0, cells := 0, slots := 0, locals := 0 } : Room).slots) (s₁.setTop (entryFrame m #[(.ref pa)] 1))
  rw [ef]
  refine Way.by (fun _ k => XS.aloadN X0.here hx rfl (hb hby dBV0_0) rfl rfl k) ?_
  show Way _ _ _ _ (s₁.setTop (mkF m 1 #[rv pa] [(.ref pa)]))
  obtain ⟨T1, X2, e3, st4⟩ := getF X0 hx hZ hown (host := "") (Or.inl (tw hw 11 rfl)) Via.refl e0 H0 (g := (mkF m 1 #[rv pa] [(.ref pa)])) rfl rfl (hb hby dBV0_1)
  refine Way.by st4 ?_
  show Way _ _ _ _ (T1.setTop (mkF m 4 #[rv pa] [(.int 1)]))
  refine Way.ret (v := (some (.int (nar .boolean (1 : Int32))))) X2 hlk (fun h => by rw [Bd.returns] at h; cases h) (fun fs hr => retN X2 hx (t := .boolean) Bd.returns (by simp) (hb hby dBV0_4) hr) ?_ (by decide) (by decide)
  show QBV1 Z pa h0 n0 _ T1.heap _
  rw [e3]
  exact ⟨rfl, N0, rfl⟩
def QN4 (Z : State) (pa : Addr) (pb : Addr) (kb : ClassId) (h0 : Heap) (n0 : Nat) (v : Option Value) (h : Heap) (L : List Loc) : Prop := ∃ (pt : Addr), v = none ∧ Fr n0 L ∧ Keep h0 h [pa] ∧ own_Str Z h pa pt []
theorem dN4_0 : decode jdk_42_method_149_code 0 = .ok (.aload_n 0, 1) := by decide +kernel
theorem dN4_1 : decode jdk_42_method_149_code 1 = .ok (.invokespecial 1, 3) := by decide +kernel
theorem dN4_4 : decode jdk_42_method_149_code 4 = .ok (.iload_n 3, 1) := by decide +kernel
theorem dN4_5 : decode jdk_42_method_149_code 5 = .ok (.ifCond .ne 22, 3) := by decide +kernel
theorem dN4_8 : decode jdk_42_method_149_code 8 = .ok (.aload_n 0, 1) := by decide +kernel
theorem dN4_9 : decode jdk_42_method_149_code 9 = .ok (.ldc 7, 2) := by decide +kernel
theorem dN4_11 : decode jdk_42_method_149_code 11 = .ok (.getfield 9, 3) := by decide +kernel
theorem dN4_14 : decode jdk_42_method_149_code 14 = .ok (.putfield 9, 3) := by decide +kernel
theorem dN4_17 : decode jdk_42_method_149_code 17 = .ok (.aload_n 0, 1) := by decide +kernel
theorem dN4_18 : decode jdk_42_method_149_code 18 = .ok (.ldc 7, 2) := by decide +kernel
theorem dN4_20 : decode jdk_42_method_149_code 20 = .ok (.getfield 15, 3) := by decide +kernel
theorem dN4_23 : decode jdk_42_method_149_code 23 = .ok (.putfield 15, 3) := by decide +kernel
theorem dN4_26 : decode jdk_42_method_149_code 26 = .ok (.return_, 1) := by decide +kernel
theorem pnN4 : plainName "java/lang/String" = true := by first | (simp [plainName, overriddenIn]; done) | decide +kernel
theorem pdN4 : parseMethodDescriptor "([CIILjava/lang/Void;)V" = some ⟨[(.array .char), .int, .int, (.object "java/lang/Void")], none⟩ := by decide +kernel
set_option maxRecDepth 65536 in
set_option maxHeartbeats 40000000 in
theorem rmN4 (l : Launch) (Z : State) (a0 : Array Value) (hw : ∀ d ∈ tables_1, d.before a0 Z = true) (ws : List Jvm.Cond) (pa : Addr) (pb : Addr) (kb : ClassId) (h0 : Heap) (n0 : Nat) (Z0 : n0 ≤ h0.size) (H0 : Exa Z h0 pa "java/lang/String") (H1 : Fld Z h0 pa "java/lang/String" "value" "[B" .null) (H2 : Fld Z h0 pa "java/lang/String" "coder" "B" (.int 0)) (H3 : Arv Z h0 pb kb .char (0 : Int32) [] (.int 0)) (ne_pb_pa : pb ≠ pa) (nw_pa : n0 ≤ pa) :
    MetFree l (⟨"java/lang/String", "<init>", "([CIILjava/lang/Void;)V"⟩ : MethodName) (head1 (Jvm.Cond.code (⟨"java/lang/String", "<init>", "([CIILjava/lang/Void;)V"⟩ : MethodName) jdk_42_method_149_code 6 none :: ws) ({ frames := 1, cells := 4, slots := 8, locals := 12 } : Room)) (fun aa U => aa = #[(.ref pa), (.ref pb), (.int 0), (.int 0), .null] ∧ Z.Warmed39 U.vm ∧ U.heap = h0 ∧ CHv Z own_EL U.vm h0) (fun _ _ _ _ _ => True) (fun _ U oo U' => ∃ v L, oo = .returned v ∧ QN4 Z pa pb kb h0 n0 v U'.heap L ∧ CHr Z own_EL U.vm U.heap U'.vm U'.heap ∧ ReturnedEndW U oo U' L ({ frames := 1, cells := 4, slots := 8, locals := 12 } : Room).cells ({ frames := 1, cells := 4, slots := 8, locals := 12 } : Room).slots) := by
  refine MetFree.of_bodySF (plainFor_of_name pnN4) hisR ?_
  intro p e s m args below meth c s₁ Bd hml0 hP hK
  obtain ⟨rfl, hZ, hh, HV0⟩ := hP
  have hx := Bd.exec
  have hby := Bd.bytes
  have hlk : meth.locks = false := BodyLoose.notSynchronized Bd
  have hml : c.maxLocals = 6 := hml0
  have hown : s.vm.findClass "java/lang/String" = some m.cls := findClass_of_methodNamed Bd.named
  have hnm := (name_of_methodNamed Bd.named Bd.method).1
  have X0 : Stand p l e ({ frames := 1, cells := 4, slots := 8, locals := 12 } : Room) s m #[(.ref pa), (.ref pb), (.int 0), (.int 0), .null] below meth c s₁ [] 0 0 := Stand.of_body Bd
  have e0 : s₁.heap = h0 := by rw [← hh, Bd.state]; rfl
  have N0 := Fr.nil n0
  have ef : entryFrame m #[(.ref pa), (.ref pb), (.int 0), (.int 0), .null] 6 = mkF m 0 #[rv pa, rv pb, iv 0, iv 0, .val .null, .unset] [] := by first | (simp [entryFrame, mkF, argsToLocals, Value.category, maxLocals]; done) | rfl
  have XW : Stand p l e ({ frames := 1, cells := 4, slots := 8, locals := 12 } : Room) (s.setVm s.vm) m #[(.ref pa), (.ref pb), (.int 0), (.int 0), .null] below meth c s₁ [] 0 0 := X0
  have hS0 : s.Since s.vm 0 := (State.WarmedH.refl s).since 0
  have hZ0 : Z.Warmed39 (s.setVm s.vm).vm := hZ
  have hown0 : (s.setVm s.vm).vm.findClass "java/lang/String" = some m.cls := hown
  have wS : ∀ d ∈ Bundle.stringAtoms, d.before a0 Z = true := fun d hd => hw d (own_wS d hd)
  have hEL : EW Z a0 own_EL := own_EW hw
  have CH0 : CHr Z own_EL s.vm h0 s.vm h0 := CHr.refl HV0
  show Way p.tables e below (KQH s Z own_EL (QN4 Z pa pb kb h0 n0) ({ frames := 1, cells := 4, slots := 8, locals := 12 } : Room).cells ({ frames := 1, cells := 4, slots := 8, locals := 12 } : Room).slots) (s₁.setTop (entryFrame m #[(.ref pa), (.ref pb), (.int 0), (.int 0), .null] 6))
  rw [ef]
  have sfa := own_safeNull (EL := own_EL) hZ.alike H0 H1
  refine Way.by (fun _ k => XS.aloadN XW.here hx rfl (hb hby dN4_0) rfl rfl k) ?_
  show Way _ _ _ _ (s₁.setTop (mkF m 1 #[rv pa, rv pb, iv 0, iv 0, .val .null, .unset] [(.ref pa)]))
  obtain ⟨T1, X2, e3, st4⟩ := initO XW hx hZ0 hown0 (tw hw 62 rfl) (tw hw 63 rfl) (tw hw 64 rfl) e0 (g := (mkF m 1 #[rv pa, rv pb, iv 0, iv 0, .val .null, .unset] [(.ref pa)])) rfl (by rw [hml]; rfl) rfl (hb hby dN4_1) (by decide) (W := 0) (leW rfl) (by decide)
  refine Way.by st4 ?_
  show Way _ _ _ _ (T1.setTop (mkF m 4 #[rv pa, rv pb, iv 0, iv 0, .val .null, .unset] []))
  refine Way.by (fun _ k => XS.iloadN X2.here hx rfl (hb hby dN4_4) rfl k) ?_
  show Way _ _ _ _ (T1.setTop (mkF m 5 #[rv pa, rv pb, iv 0, iv 0, .val .null, .unset] [(.int 0)]))
  have b5 : (0 : Int32) = (0 : Int32) := by decide
  refine Way.by (fun _ k => XS.ifNo X2.here hx rfl (hb hby dN4_5) rfl ((if0 .ne _).trans (teq b5).2) k) ?_
  show Way _ _ _ _ (T1.setTop (mkF m 8 #[rv pa, rv pb, iv 0, iv 0, .val .null, .unset] []))
  refine Way.by (fun _ k => XS.aloadN X2.here hx rfl (hb hby dN4_8) rfl rfl k) ?_
  show Way _ _ _ _ (T1.setTop (mkF m 9 #[rv pa, rv pb, iv 0, iv 0, .val .null, .unset] [(.ref pa)]))
  obtain ⟨a6, T7, h8, k9, bd10, kc11, X12, e13, E14, hS15, hk16, hZ17, hown18, Ex19, Co20, Va21, Ar22, la23, lb24, hr25, lit26, sfn27, st28⟩ := ldcCH X2 hx hZ0 hown0 (tw hw 65 rfl) wS e3 hS0 (Nat.zero_le _) hEL (by decide) HV0 (vs := ([] : List Int32).map fun c => Value.int (StrChars.lo8 c)) (z := (0 : Int32)) ⟨by decide, by decide⟩ (by decide) rfl (g := (mkF m 9 #[rv pa, rv pb, iv 0, iv 0, .val .null, .unset] [(.ref pa)])) rfl (hb hby dN4_9) (n := 0) (by decide) (by decide) (by decide) (by decide)
  have Sf32 := CHr.safe hr25 H0.lt sfa
  have H29 := hr25.1
  have CH30 := CH0.trans hr25
  have E33 := Exa.ext E14 H0
  have F34 := Fld.ext E14 H1
  have F35 := Fld.ext E14 H2
  have A36 := H3.ext E14
  have Z37 := Nat.le_trans Z0 E14.1
  have K38 := (Keep.refl h0 [pa]).ext E14
  have hz39 := Nat.le_trans (Nat.le_refl h0.size) E14.1
  have F40 : own_Str Z h8 a6 bd10 [] := ⟨Ex19, Va21, Co20, ⟨_, _, _, Ar22, Or.inl ⟨rfl, rfl, rfl, by decide⟩⟩, by decide, by decide⟩
  have ne41 := sfn27 pa Sf32
  have ne42 := sfn27 pb (Safe.arv hZ17.alike A36 (by decide))
  refine Way.by st28 ?_
  show Way _ _ _ _ (T7.setTop (mkF m 11 #[rv pa, rv pb, iv 0, iv 0, .val .null, .unset] [(.ref a6), (.ref pa)]))
  obtain ⟨T43, X44, e45, st46⟩ := getF X12 hx hZ17 hown18 (host := "") (Or.inl (tw hw 37 rfl)) Via.refl e13 F40.2.1 (g := (mkF m 11 #[rv pa, rv pb, iv 0, iv 0, .val .null, .unset] [(.ref a6), (.ref pa)])) rfl rfl (hb hby dN4_11)
  refine Way.by st46 ?_
  show Way _ _ _ _ (T43.setTop (mkF m 14 #[rv pa, rv pb, iv 0, iv 0, .val .null, .unset] [(.ref bd10), (.ref pa)]))
  obtain ⟨T47, h48, X49, e50, W51, st52⟩ := putF X44 hx hZ17 hown18 (host := "") (Or.inl (tw hw 37 rfl)) Via.refl e45 F34 E33 (Or.inr ⟨(tw hw 21 rfl), rfl, hnm⟩) (tw hw 19 rfl) (ty := (.array .byte)) (by decide) rfl rfl (g := (mkF m 14 #[rv pa, rv pb, iv 0, iv 0, .val .null, .unset] [(.ref bd10), (.ref pa)])) rfl rfl (hb hby dN4_14)
  have N53 := Fr.snoc X49 N0 nw_pa
  have hr56 := CHr.wr W51 Sf32 H29
  have Sf57 := Safe.wr W51 Sf32 H29 Sf32
  have H54 := hr56.1
  have CH55 := CH30.trans hr56
  have E58 := Exa.wr W51 E33
  have F59 : Fld Z h48 pa "java/lang/String" "value" "[B" (.ref bd10) := F34.same W51
  have F60 := F35.other W51 (Or.inr (slot_ne (Or.inr (tw hw 22 rfl)) (Or.inr (tw hw 21 rfl)) (by decide) (t := .byte) (t' := (.array .byte)) (by decide) (by decide)))
  have A61 := A36.other W51 ne_pb_pa
  have S62 := F40.other W51 ne41.1.symm ne41.2.symm
  have Z63 : n0 ≤ h48.size := by rw [W51.size]; exact Z37
  have hk64 := Nat.le_trans hk16 (Nat.le_of_eq W51.size.symm)
  have K65 := K38.wr W51 (Or.inl (List.mem_of_getElem? (i := 0) rfl))
  have hz66 : h0.size ≤ h48.size := by rw [W51.size]; exact hz39
  refine Way.by st52 ?_
  show Way _ _ _ _ (T47.setTop (mkF m 17 #[rv pa, rv pb, iv 0, iv 0, .val .null, .unset] []))
  refine Way.by (fun _ k => XS.aloadN X49.here hx rfl (hb hby dN4_17) rfl rfl k) ?_
  show Way _ _ _ _ (T47.setTop (mkF m 18 #[rv pa, rv pb, iv 0, iv 0, .val .null, .unset] [(.ref pa)]))
  obtain ⟨a67, T68, h69, k70, bd71, kc72, X73, e74, E75, hS76, hk77, hZ78, hown79, Ex80, Co81, Va82, Ar83, la84, lb85, hr86, lit87, sfn88, st89⟩ := ldcCH X49 hx hZ17 hown18 (tw hw 65 rfl) wS e50 hS15 hk64 hEL (by decide) H54 (vs := ([] : List Int32).map fun c => Value.int (StrChars.lo8 c)) (z := (0 : Int32)) ⟨by decide, by decide⟩ (by decide) rfl (g := (mkF m 18 #[rv pa, rv pb, iv 0, iv 0, .val .null, .unset] [(.ref pa)])) rfl (hb hby dN4_18) (n := 0) (by decide) (by decide) (by decide) (by decide)
  have Sf93 := CHr.safe hr86 E58.lt Sf57
  have H90 := hr86.1
  have CH91 := CH55.trans hr86
  have E94 := Exa.ext E75 E58
  have F95 := Fld.ext E75 F59
  have F96 := Fld.ext E75 F60
  have A97 := A61.ext E75
  have S98 := S62.ext E75
  have Z99 := Nat.le_trans Z63 E75.1
  have K100 := K65.ext E75
  have hz101 := Nat.le_trans hz66 E75.1
  have F102 : own_Str Z h69 a67 bd71 [] := ⟨Ex80, Va82, Co81, ⟨_, _, _, Ar83, Or.inl ⟨rfl, rfl, rfl, by decide⟩⟩, by decide, by decide⟩
  have ne103 := sfn88 pa Sf93
  have ne104 := sfn88 pb (Safe.arv hZ78.alike A97 (by decide))
  refine Way.by st89 ?_
  show Way _ _ _ _ (T68.setTop (mkF m 20 #[rv pa, rv pb, iv 0, iv 0, .val .null, .unset] [(.ref a67), (.ref pa)]))
  obtain ⟨T105, X106, e107, st108⟩ := getF X73 hx hZ78 hown79 (host := "") (Or.inl (tw hw 36 rfl)) Via.refl e74 F102.2.2.1 (g := (mkF m 20 #[rv pa, rv pb, iv 0, iv 0, .val .null, .unset] [(.ref a67), (.ref pa)])) rfl rfl (hb hby dN4_20)
  refine Way.by st108 ?_
  show Way _ _ _ _ (T105.setTop (mkF m 23 #[rv pa, rv pb, iv 0, iv 0, .val .null, .unset] [(.int 0), (.ref pa)]))
  obtain ⟨T109, h110, X111, e112, W113, st114⟩ := putF X106 hx hZ78 hown79 (host := "") (Or.inl (tw hw 36 rfl)) Via.refl e107 F96 E94 (Or.inr ⟨(tw hw 22 rfl), rfl, hnm⟩) (tw hw 19 rfl) (ty := .byte) (by decide) rfl rfl (g := (mkF m 23 #[rv pa, rv pb, iv 0, iv 0, .val .null, .unset] [(.int 0), (.ref pa)])) rfl rfl (hb hby dN4_23)
  have N115 := Fr.snoc X111 N53 nw_pa
  have hr118 := CHr.wr W113 Sf93 H90
  have Sf119 := Safe.wr W113 Sf93 H90 Sf93
  have H116 := hr118.1
  have CH117 := CH91.trans hr118
  have E120 := Exa.wr W113 E94
  have F121 := F95.other W113 (Or.inr (slot_ne (Or.inr (tw hw 21 rfl)) (Or.inr (tw hw 22 rfl)) (by decide) (t := (.array .byte)) (t' := .byte) (by decide) (by decide)))
  have F122 : Fld Z h110 pa "java/lang/String" "coder" "B" (.int 0) := F96.same W113
  have A123 := A97.other W113 ne_pb_pa
  have S124 := S98.other W113 ne41.1.symm ne41.2.symm
  have S125 := F102.other W113 ne103.1.symm ne103.2.symm
  have Z126 : n0 ≤ h110.size := by rw [W113.size]; exact Z99
  have hk127 := Nat.le_trans hk77 (Nat.le_of_eq W113.size.symm)
  have K128 := K100.wr W113 (Or.inl (List.mem_of_getElem? (i := 0) rfl))
  have hz129 : h0.size ≤ h110.size := by rw [W113.size]; exact hz101
  refine Way.by st114 ?_
  show Way _ _ _ _ (T109.setTop (mkF m 26 #[rv pa, rv pb, iv 0, iv 0, .val .null, .unset] []))
  refine Way.retH (v := none) X111 hS76 (by rw [e112]; exact hk127) hZ78 hEL hh e112 H116 CH117 hlk (fun _ => rfl) (fun fs hr => X111.returnOut hx Bd.returns (hb hby dN4_26) hr) ?_ (by decide) (by decide)
  show QN4 Z pa pb kb h0 n0 _ T109.heap _
  rw [e112]
  have STR : own_Str Z h110 pa bd10 [] := ⟨E120, F121, F122, S124.2.2.2⟩
  exact ⟨bd10, rfl, N115, K128, STR⟩
def QN1 (Z : State) (pa : Addr) (pb : Addr) (kb : ClassId) (h0 : Heap) (n0 : Nat) (v : Option Value) (h : Heap) (L : List Loc) : Prop := ∃ (pt : Addr), v = none ∧ Fr n0 L ∧ Keep h0 h [pa] ∧ own_Str Z h pa pt []
theorem dN1_0 : decode jdk_42_method_3_code 0 = .ok (.aload_n 0, 1) := by decide +kernel
theorem dN1_1 : decode jdk_42_method_3_code 1 = .ok (.aload_n 1, 1) := by decide +kernel
theorem dN1_2 : decode jdk_42_method_3_code 2 = .ok (.iconst 0, 1) := by decide +kernel
theorem dN1_3 : decode jdk_42_method_3_code 3 = .ok (.aload_n 1, 1) := by decide +kernel
theorem dN1_4 : decode jdk_42_method_3_code 4 = .ok (.arraylength, 1) := by decide +kernel
theorem dN1_5 : decode jdk_42_method_3_code 5 = .ok (.aconst_null, 1) := by decide +kernel
theorem dN1_6 : decode jdk_42_method_3_code 6 = .ok (.invokespecial 27, 3) := by decide +kernel
theorem dN1_9 : decode jdk_42_method_3_code 9 = .ok (.return_, 1) := by decide +kernel
theorem pdN1 : parseMethodDescriptor "([C)V" = some ⟨[(.array .char)], none⟩ := by decide +kernel
set_option maxRecDepth 65536 in
set_option maxHeartbeats 40000000 in
theorem rmN1 (l : Launch) (Z : State) (a0 : Array Value) (hw : ∀ d ∈ tables_1, d.before a0 Z = true) (ws : List Jvm.Cond) (pa : Addr) (pb : Addr) (kb : ClassId) (h0 : Heap) (n0 : Nat) (Z0 : n0 ≤ h0.size) (H0 : Exa Z h0 pa "java/lang/String") (H1 : Fld Z h0 pa "java/lang/String" "value" "[B" .null) (H2 : Fld Z h0 pa "java/lang/String" "coder" "B" (.int 0)) (H3 : Arv Z h0 pb kb .char (0 : Int32) [] (.int 0)) (ne_pb_pa : pb ≠ pa) (nw_pa : n0 ≤ pa) :
    MetFree l (⟨"java/lang/String", "<init>", "([C)V"⟩ : MethodName) (head1 (Jvm.Cond.code (⟨"java/lang/String", "<init>", "([C)V"⟩ : MethodName) jdk_42_method_3_code 2 none :: ws) ({ frames := 2, cells := 4, slots := 8, locals := 29 } : Room)) (fun aa U => aa = #[(.ref pa), (.ref pb)] ∧ Z.Warmed39 U.vm ∧ U.heap = h0 ∧ CHv Z own_EL U.vm h0) (fun _ _ _ _ _ => True) (fun _ U oo U' => ∃ v L, oo = .returned v ∧ QN1 Z pa pb kb h0 n0 v U'.heap L ∧ CHr Z own_EL U.vm U.heap U'.vm U'.heap ∧ ReturnedEndW U oo U' L ({ frames := 2, cells := 4, slots := 8, locals := 29 } : Room).cells ({ frames := 2, cells := 4, slots := 8, locals := 29 } : Room).slots) := by
  refine MetFree.of_bodySF (plainFor_of_name pnN4) hisR ?_
  intro p e s m args below meth c s₁ Bd hml0 hP hK
  obtain ⟨rfl, hZ, hh, HV0⟩ := hP
  have hx := Bd.exec
  have hby := Bd.bytes
  have hlk : meth.locks = false := BodyLoose.notSynchronized Bd
  have hml : c.maxLocals = 2 := hml0
  have hown : s.vm.findClass "java/lang/String" = some m.cls := findClass_of_methodNamed Bd.named
  have hnm := (name_of_methodNamed Bd.named Bd.method).1
  have X0 : Stand p l e ({ frames := 2, cells := 4, slots := 8, locals := 29 } : Room) s m #[(.ref pa), (.ref pb)] below meth c s₁ [] 0 0 := Stand.of_body Bd
  have e0 : s₁.heap = h0 := by rw [← hh, Bd.state]; rfl
  have N0 := Fr.nil n0
  have ef : entryFrame m #[(.ref pa), (.ref pb)] 2 = mkF m 0 #[rv pa, rv pb] [] := by first | (simp [entryFrame, mkF, argsToLocals, Value.category, maxLocals]; done) | rfl
  have XW : Stand p l e ({ frames := 2, cells := 4, slots := 8, locals := 29 } : Room) (s.setVm s.vm) m #[(.ref pa), (.ref pb)] below meth c s₁ [] 0 0 := X0
  have hS0 : s.Since s.vm 0 := (State.WarmedH.refl s).since 0
  have hZ0 : Z.Warmed39 (s.setVm s.vm).vm := hZ
  have hown0 : (s.setVm s.vm).vm.findClass "java/lang/String" = some m.cls := hown
  have wS : ∀ d ∈ Bundle.stringAtoms, d.before a0 Z = true := fun d hd => hw d (own_wS d hd)
  have hEL : EW Z a0 own_EL := own_EW hw
  have CH0 : CHr Z own_EL s.vm h0 s.vm h0 := CHr.refl HV0
  show Way p.tables e below (KQH s Z own_EL (QN1 Z pa pb kb h0 n0) ({ frames := 2, cells := 4, slots := 8, locals := 29 } : Room).cells ({ frames := 2, cells := 4, slots := 8, locals := 29 } : Room).slots) (s₁.setTop (entryFrame m #[(.ref pa), (.ref pb)] 2))
  rw [ef]
  have sfa := own_safeNull (EL := own_EL) hZ.alike H0 H1
  refine Way.by (fun _ k => XS.aloadN XW.here hx rfl (hb hby dN1_0) rfl rfl k) ?_
  show Way _ _ _ _ (s₁.setTop (mkF m 1 #[rv pa, rv pb] [(.ref pa)]))
  refine Way.by (fun _ k => XS.aloadN XW.here hx rfl (hb hby dN1_1) rfl rfl k) ?_
  show Way _ _ _ _ (s₁.setTop (mkF m 2 #[rv pa, rv pb] [(.ref pb), (.ref pa)]))
  refine Way.by (fun _ k => XS.iconst XW.here hx rfl (hb hby dN1_2) k) ?_
  show Way _ _ _ _ (s₁.setTop (mkF m 3 #[rv pa, rv pb] [(.int 0), (.ref pb), (.ref pa)]))
  refine Way.by (fun _ k => XS.aloadN XW.here hx rfl (hb hby dN1_3) rfl rfl k) ?_
  show Way _ _ _ _ (s₁.setTop (mkF m 4 #[rv pa, rv pb] [(.ref pb), (.int 0), (.ref pb), (.ref pa)]))
  obtain ⟨c1, A2, q3, S4, M5, H6, U7⟩ := id H3
  refine Way.by (fun t k => Stand.arraylength XW hx (hpE e0 A2.1) (arrS hZ0 A2) (g := (mkF m 4 #[rv pa, rv pb] [(.ref pb), (.int 0), (.ref pb), (.ref pa)])) rfl rfl (hb hby dN1_4) t k) ?_
  rw [len_of S4 M5]
  show Way _ _ _ _ (s₁.setTop (mkF m 5 #[rv pa, rv pb] [(.int 0), (.int 0), (.ref pb), (.ref pa)]))
  refine Way.by (fun _ k => XS.aconstNull XW.here hx rfl (hb hby dN1_5) k) ?_
  show Way _ _ _ _ (s₁.setTop (mkF m 6 #[rv pa, rv pb] [.null, (.int 0), (.int 0), (.ref pb), (.ref pa)]))
  obtain ⟨_, _, ⟨T8, L10, k11, n12⟩, -, X9, hS21, hg22, ⟨Lc13, hQ14, l15, y16, z17, hr23⟩, st18⟩ := XW.specialBackS hx (y := (⟨"java/lang/String", "<init>", "([CIILjava/lang/Void;)V"⟩ : MethodName)) rfl hown0 (mvT hZ0 (tw hw 58 rfl)) (mvT hZ0 (tw hw 59 rfl)) (mvT hZ0 (tw hw 61 rfl)) (by decide) (backOfSH (W := 0) (rmN4 l Z a0 hw [] pa pb kb h0 n0 Z0 H0 H1 H2 H3 ne_pb_pa nw_pa) hZ0 (tw hw 61 rfl) (tw hw 18 rfl) (by decide) (by decide) hEL HV0) (g := (mkF m 6 #[rv pa, rv pb] [.null, (.int 0), (.int 0), (.ref pb), (.ref pa)])) rfl (by rw [hml]; rfl) (Steps.refl _) (a := pa) (argsL := [(.ref pb), (.int 0), (.int 0), .null]) (rest := []) (lenOf pdN4 rfl) rfl (leW rfl) (hb hby dN1_6) (fun _ _ => ⟨rfl, e0, (leB rfl), (leB rfl)⟩)
  dsimp only [Pt.U, Pt.locs, Pt.cells, Pt.slots] at X9 l15 y16 z17 st18 hQ14 hS21 hg22 hr23
  subst y16 z17
  obtain ⟨X24, hS25, hZ26, hown27⟩ := rebS hS0 (by rw [e0]; exact (Nat.zero_le _)) X9 hS21 hg22 hZ0 hown0
  obtain ⟨x_pt31, rfl, N28, K29, F_030⟩ := hQ14
  have N19 : Fr n0 L10 := by rw [l15]; exact Fr.app N0 N28
  have Sf35 := CHr.safe hr23 H0.lt sfa
  have H32 := hr23.1
  have CH33 := CH0.trans hr23
  have E36 := H0.keep K29
  have A37 := H3.keep K29 (ninS ne_pb_pa nin0)
  have Z38 := Nat.le_trans Z0 K29.1
  have K39 := (Keep.refl h0 [pa]).trans K29 (allS (Or.inl (List.mem_of_getElem? (i := 0) rfl)) all0)
  have hz40 := Nat.le_trans (Nat.le_refl h0.size) K29.1
  refine Way.to st18 ?_
  show Way _ _ _ _ (T8.setTop (mkF m 9 #[rv pa, rv pb] []))
  refine Way.retH (v := none) X24 hS25 (by exact (Nat.le_refl _)) hZ26 hEL hh rfl H32 CH33 hlk (fun _ => rfl) (fun fs hr => X24.returnOut hx Bd.returns (hb hby dN1_9) hr) ?_ (by decide) (by decide)
  show QN1 Z pa pb kb h0 n0 _ T8.heap _
  skip
  exact ⟨x_pt31, rfl, N19, K39, F_030⟩
def Q0 (n0 : Nat) (v : Option Value) (h : Heap) (L : List Loc) : Prop := v = some (.int 1) ∧ Fr n0 L
set_option maxRecDepth 65536 in
set_option maxHeartbeats 40000000 in
theorem seg137n0 (l : Launch) (Z : State) (a0 : Array Value) (hw : ∀ d ∈ tables_1, d.before a0 Z = true) (ws : List Jvm.Cond) (p0 p1 p2 p3 p4 p5 : Int32) (uF uT : Addr) (h0 : Heap) (n0 : Nat) (Z0 : n0 ≤ h0.size) (O0 : Old Z n0 h0) (SV : own_Env Z) (SF : Sta Z Z.heap "java/lang/Boolean" "FALSE" "Ljava/lang/Boolean;" (.ref uF)) (STR : Sta Z Z.heap "java/lang/Boolean" "TRUE" "Ljava/lang/Boolean;" (.ref uT)) (EF : Exa Z Z.heap uF "java/lang/Boolean") (FF : Fld Z Z.heap uF "java/lang/Boolean" "value" "Z" (.int 0)) (ET : Exa Z Z.heap uT "java/lang/Boolean") (FT : Fld Z Z.heap uT "java/lang/Boolean" "value" "Z" (.int 1))
    (p : Program) (e : Env) (s : State) (m : MethodId) (below : List Frame) (meth : Method) (c : Code) (s₁ : State) (Bd : BodyLoose p l x (head1 (Jvm.Cond.code x code maxLocals ret :: ws) room_1) code maxLocals ret e s m #[(.int p0), (.int p1), (.int p2), (.int p3), (.int p4), (.int p5)] below meth c s₁) (hml : c.maxLocals = 17)
    (vm0 : Vm) (hZ : Z.Warmed39 (s.setVm vm0).vm) (hown : (s.setVm vm0).vm.findClass "com/example/bare_orm/bareorm/MappingReaderTrueOrFalsePinLaw" = some m.cls) (k0 : Nat) (hS : s.Since vm0 k0) (hh : s.heap = h0)
    (T : State) (h : Heap) (locs : List Loc) (X : Stand p l e room_1 (s.setVm vm0) m #[(.int p0), (.int p1), (.int p2), (.int p3), (.int p4), (.int p5)] below meth c T locs 20 300) (eT : T.heap = h) (N : Fr n0 locs) (Zh : n0 ≤ h.size) (hk : k0 ≤ h.size) (H : CHv Z own_EL vm0 h) (CH : CHr Z own_EL s.vm h0 vm0 h) (O : Old Z n0 h) (z : Int32) (cc0 : Int32) (cc1 : Int32) (cc2 : Int32) (cc3 : Int32) (cc4 : Int32) (px : Addr)  :
    Way p.tables e below (KQH s Z own_EL (Q0 n0) room_1.cells room_1.slots) (T.setTop (mkF m 137 #[iv p0, iv p1, iv p2, iv p3, iv p4, iv p5, iv z, iv 0, iv cc0, iv cc1, iv cc2, iv cc3, iv cc4, rv px, .val (own_tf [] uF uT), .unset, .unset] [])) := by
  have hx := Bd.exec
  have hby := Bd.bytes
  have hlk : meth.locks = false := BodyLoose.notSynchronized Bd
  have hnm := (name_of_methodNamed Bd.named Bd.method).1
  have wS : ∀ d ∈ Bundle.stringAtoms, d.before a0 Z = true := fun d hd => hw d (own_wS d hd)
  have hEL : EW Z a0 own_EL := own_EW hw
  have hF : ¬ ([] : List Int32) = [102, 97, 108, 115, 101] := by simp
  have hT : ¬ ([] : List Int32) = [116, 114, 117, 101] := by simp
  rw [own_tfN hF hT]
  show Way _ _ _ _ (T.setTop (mkF m 137 #[iv p0, iv p1, iv p2, iv p3, iv p4, iv p5, iv z, iv 0, iv cc0, iv cc1, iv cc2, iv cc3, iv cc4, rv px, .val .null, .unset, .unset] []))
  refine Way.by (fun _ k => XS.iload X.here hx rfl (hb hby at_137) rfl k) ?_
  show Way _ _ _ _ (T.setTop (mkF m 139 #[iv p0, iv p1, iv p2, iv p3, iv p4, iv p5, iv z, iv 0, iv cc0, iv cc1, iv cc2, iv cc3, iv cc4, rv px, .val .null, .unset, .unset] [(.int 0)]))
  refine Way.by (fun _ k => XS.iconst X.here hx rfl (hb hby at_139) k) ?_
  show Way _ _ _ _ (T.setTop (mkF m 140 #[iv p0, iv p1, iv p2, iv p3, iv p4, iv p5, iv z, iv 0, iv cc0, iv cc1, iv cc2, iv cc3, iv cc4, rv px, .val .null, .unset, .unset] [(.int 4), (.int 0)]))
  have b1 : ¬ (0 : Int32) = (4 : Int32) := by decide
  refine Way.by (fun _ k => XS.icmpYes X.here hx rfl (pc0 := 140) (pc' := 175) rfl (hb hby at_140) rfl (feq b1).2 (by decide) (by decide) k) ?_
  show Way _ _ _ _ (T.setTop (mkF m 175 #[iv p0, iv p1, iv p2, iv p3, iv p4, iv p5, iv z, iv 0, iv cc0, iv cc1, iv cc2, iv cc3, iv cc4, rv px, .val .null, .unset, .unset] []))
  refine Way.by (fun _ k => XS.iconst X.here hx rfl (hb hby at_175) k) ?_
  show Way _ _ _ _ (T.setTop (mkF m 176 #[iv p0, iv p1, iv p2, iv p3, iv p4, iv p5, iv z, iv 0, iv cc0, iv cc1, iv cc2, iv cc3, iv cc4, rv px, .val .null, .unset, .unset] [(.int 0)]))
  refine Way.by (fun _ k => XS.istore X.here hx rfl (hb hby at_176) rfl (l' := #[iv p0, iv p1, iv p2, iv p3, iv p4, iv p5, iv z, iv 0, iv cc0, iv cc1, iv cc2, iv cc3, iv cc4, rv px, .val .null, iv 0, .unset]) rfl k) ?_
  show Way _ _ _ _ (T.setTop (mkF m 178 #[iv p0, iv p1, iv p2, iv p3, iv p4, iv p5, iv z, iv 0, iv cc0, iv cc1, iv cc2, iv cc3, iv cc4, rv px, .val .null, iv 0, .unset] []))
  refine Way.by (fun _ k => XS.iload X.here hx rfl (hb hby at_178) rfl k) ?_
  show Way _ _ _ _ (T.setTop (mkF m 180 #[iv p0, iv p1, iv p2, iv p3, iv p4, iv p5, iv z, iv 0, iv cc0, iv cc1, iv cc2, iv cc3, iv cc4, rv px, .val .null, iv 0, .unset] [(.int 0)]))
  refine Way.by (fun _ k => XS.iconst X.here hx rfl (hb hby at_180) k) ?_
  show Way _ _ _ _ (T.setTop (mkF m 181 #[iv p0, iv p1, iv p2, iv p3, iv p4, iv p5, iv z, iv 0, iv cc0, iv cc1, iv cc2, iv cc3, iv cc4, rv px, .val .null, iv 0, .unset] [(.int 5), (.int 0)]))
  have b2 : ¬ (0 : Int32) = (5 : Int32) := by decide
  refine Way.by (fun _ k => XS.icmpYes X.here hx rfl (pc0 := 181) (pc' := 223) rfl (hb hby at_181) rfl (feq b2).2 (by decide) (by decide) k) ?_
  show Way _ _ _ _ (T.setTop (mkF m 223 #[iv p0, iv p1, iv p2, iv p3, iv p4, iv p5, iv z, iv 0, iv cc0, iv cc1, iv cc2, iv cc3, iv cc4, rv px, .val .null, iv 0, .unset] []))
  refine Way.by (fun _ k => XS.iconst X.here hx rfl (hb hby at_223) k) ?_
  show Way _ _ _ _ (T.setTop (mkF m 224 #[iv p0, iv p1, iv p2, iv p3, iv p4, iv p5, iv z, iv 0, iv cc0, iv cc1, iv cc2, iv cc3, iv cc4, rv px, .val .null, iv 0, .unset] [(.int 0)]))
  refine Way.by (fun _ k => XS.istore X.here hx rfl (hb hby at_224) rfl (l' := #[iv p0, iv p1, iv p2, iv p3, iv p4, iv p5, iv z, iv 0, iv cc0, iv cc1, iv cc2, iv cc3, iv cc4, rv px, .val .null, iv 0, iv 0]) rfl k) ?_
  show Way _ _ _ _ (T.setTop (mkF m 226 #[iv p0, iv p1, iv p2, iv p3, iv p4, iv p5, iv z, iv 0, iv cc0, iv cc1, iv cc2, iv cc3, iv cc4, rv px, .val .null, iv 0, iv 0] []))
  refine Way.by (fun _ k => XS.iload X.here hx rfl (hb hby at_226) rfl k) ?_
  show Way _ _ _ _ (T.setTop (mkF m 228 #[iv p0, iv p1, iv p2, iv p3, iv p4, iv p5, iv z, iv 0, iv cc0, iv cc1, iv cc2, iv cc3, iv cc4, rv px, .val .null, iv 0, iv 0] [(.int 0)]))
  have b3 : (0 : Int32) = (0 : Int32) := by decide
  refine Way.by (fun _ k => XS.ifYes X.here hx rfl (pc0 := 228) (pc' := 250) rfl (hb hby at_228) rfl ((if0 .eq _).trans (teq b3).1) (by decide) (by decide) k) ?_
  show Way _ _ _ _ (T.setTop (mkF m 250 #[iv p0, iv p1, iv p2, iv p3, iv p4, iv p5, iv z, iv 0, iv cc0, iv cc1, iv cc2, iv cc3, iv cc4, rv px, .val .null, iv 0, iv 0] []))
  refine Way.by (fun _ k => XS.iload X.here hx rfl (hb hby at_250) rfl k) ?_
  show Way _ _ _ _ (T.setTop (mkF m 252 #[iv p0, iv p1, iv p2, iv p3, iv p4, iv p5, iv z, iv 0, iv cc0, iv cc1, iv cc2, iv cc3, iv cc4, rv px, .val .null, iv 0, iv 0] [(.int 0)]))
  have b4 : (0 : Int32) = (0 : Int32) := by decide
  refine Way.by (fun _ k => XS.ifYes X.here hx rfl (pc0 := 252) (pc' := 274) rfl (hb hby at_252) rfl ((if0 .eq _).trans (teq b4).1) (by decide) (by decide) k) ?_
  show Way _ _ _ _ (T.setTop (mkF m 274 #[iv p0, iv p1, iv p2, iv p3, iv p4, iv p5, iv z, iv 0, iv cc0, iv cc1, iv cc2, iv cc3, iv cc4, rv px, .val .null, iv 0, iv 0] []))
  refine Way.by (fun _ k => XS.aload X.here hx rfl (hb hby at_274) rfl rfl k) ?_
  show Way _ _ _ _ (T.setTop (mkF m 276 #[iv p0, iv p1, iv p2, iv p3, iv p4, iv p5, iv z, iv 0, iv cc0, iv cc1, iv cc2, iv cc3, iv cc4, rv px, .val .null, iv 0, iv 0] [.null]))
  refine Way.by (fun _ k => XT.ifnonnullNo X.here hx rfl (hb hby at_276) rfl k) ?_
  show Way _ _ _ _ (T.setTop (mkF m 279 #[iv p0, iv p1, iv p2, iv p3, iv p4, iv p5, iv z, iv 0, iv cc0, iv cc1, iv cc2, iv cc3, iv cc4, rv px, .val .null, iv 0, iv 0] []))
  refine Way.by (fun _ k => XS.iconst X.here hx rfl (hb hby at_279) k) ?_
  show Way _ _ _ _ (T.setTop (mkF m 280 #[iv p0, iv p1, iv p2, iv p3, iv p4, iv p5, iv z, iv 0, iv cc0, iv cc1, iv cc2, iv cc3, iv cc4, rv px, .val .null, iv 0, iv 0] [(.int 1)]))
  refine Way.by (fun _ k => XS.goto X.here hx rfl (pc0 := 280) (pc' := 284) rfl (hb hby at_280) (by decide) (by decide) k) ?_
  show Way _ _ _ _ (T.setTop (mkF m 284 #[iv p0, iv p1, iv p2, iv p3, iv p4, iv p5, iv z, iv 0, iv cc0, iv cc1, iv cc2, iv cc3, iv cc4, rv px, .val .null, iv 0, iv 0] [(.int 1)]))
  refine Way.retH (v := (some (.int (nar .boolean (1 : Int32))))) X hS (by rw [eT]; exact hk) hZ hEL hh eT H CH hlk (fun h => by rw [Bd.returns] at h; cases h) (fun fs hr => retN X hx (t := .boolean) Bd.returns (by simp) (hb hby at_284) hr) ?_ (by decide) (by decide)
  show Q0 n0 _ T.heap _
  rw [eT]
  exact ⟨rfl, N⟩
set_option maxRecDepth 65536 in
set_option maxHeartbeats 40000000 in
theorem seg137n1 (l : Launch) (Z : State) (a0 : Array Value) (hw : ∀ d ∈ tables_1, d.before a0 Z = true) (ws : List Jvm.Cond) (p0 p1 p2 p3 p4 p5 : Int32) (uF uT : Addr) (h0 : Heap) (n0 : Nat) (Z0 : n0 ≤ h0.size) (O0 : Old Z n0 h0) (SV : own_Env Z) (SF : Sta Z Z.heap "java/lang/Boolean" "FALSE" "Ljava/lang/Boolean;" (.ref uF)) (STR : Sta Z Z.heap "java/lang/Boolean" "TRUE" "Ljava/lang/Boolean;" (.ref uT)) (EF : Exa Z Z.heap uF "java/lang/Boolean") (FF : Fld Z Z.heap uF "java/lang/Boolean" "value" "Z" (.int 0)) (ET : Exa Z Z.heap uT "java/lang/Boolean") (FT : Fld Z Z.heap uT "java/lang/Boolean" "value" "Z" (.int 1))
    (p : Program) (e : Env) (s : State) (m : MethodId) (below : List Frame) (meth : Method) (c : Code) (s₁ : State) (Bd : BodyLoose p l x (head1 (Jvm.Cond.code x code maxLocals ret :: ws) room_1) code maxLocals ret e s m #[(.int p0), (.int p1), (.int p2), (.int p3), (.int p4), (.int p5)] below meth c s₁) (hml : c.maxLocals = 17)
    (vm0 : Vm) (hZ : Z.Warmed39 (s.setVm vm0).vm) (hown : (s.setVm vm0).vm.findClass "com/example/bare_orm/bareorm/MappingReaderTrueOrFalsePinLaw" = some m.cls) (k0 : Nat) (hS : s.Since vm0 k0) (hh : s.heap = h0)
    (T : State) (h : Heap) (locs : List Loc) (X : Stand p l e room_1 (s.setVm vm0) m #[(.int p0), (.int p1), (.int p2), (.int p3), (.int p4), (.int p5)] below meth c T locs 20 300) (eT : T.heap = h) (N : Fr n0 locs) (Zh : n0 ≤ h.size) (hk : k0 ≤ h.size) (H : CHv Z own_EL vm0 h) (CH : CHr Z own_EL s.vm h0 vm0 h) (O : Old Z n0 h) (z : Int32) (cc0 : Int32) (cc1 : Int32) (cc2 : Int32) (cc3 : Int32) (cc4 : Int32) (px : Addr)  :
    Way p.tables e below (KQH s Z own_EL (Q0 n0) room_1.cells room_1.slots) (T.setTop (mkF m 137 #[iv p0, iv p1, iv p2, iv p3, iv p4, iv p5, iv z, iv 1, iv cc0, iv cc1, iv cc2, iv cc3, iv cc4, rv px, .val (own_tf [cc0] uF uT), .unset, .unset] [])) := by
  have hx := Bd.exec
  have hby := Bd.bytes
  have hlk : meth.locks = false := BodyLoose.notSynchronized Bd
  have hnm := (name_of_methodNamed Bd.named Bd.method).1
  have wS : ∀ d ∈ Bundle.stringAtoms, d.before a0 Z = true := fun d hd => hw d (own_wS d hd)
  have hEL : EW Z a0 own_EL := own_EW hw
  have hF : ¬ ([cc0] : List Int32) = [102, 97, 108, 115, 101] := by simp
  have hT : ¬ ([cc0] : List Int32) = [116, 114, 117, 101] := by simp
  rw [own_tfN hF hT]
  show Way _ _ _ _ (T.setTop (mkF m 137 #[iv p0, iv p1, iv p2, iv p3, iv p4, iv p5, iv z, iv 1, iv cc0, iv cc1, iv cc2, iv cc3, iv cc4, rv px, .val .null, .unset, .unset] []))
  refine Way.by (fun _ k => XS.iload X.here hx rfl (hb hby at_137) rfl k) ?_
  show Way _ _ _ _ (T.setTop (mkF m 139 #[iv p0, iv p1, iv p2, iv p3, iv p4, iv p5, iv z, iv 1, iv cc0, iv cc1, iv cc2, iv cc3, iv cc4, rv px, .val .null, .unset, .unset] [(.int 1)]))
  refine Way.by (fun _ k => XS.iconst X.here hx rfl (hb hby at_139) k) ?_
  show Way _ _ _ _ (T.setTop (mkF m 140 #[iv p0, iv p1, iv p2, iv p3, iv p4, iv p5, iv z, iv 1, iv cc0, iv cc1, iv cc2, iv cc3, iv cc4, rv px, .val .null, .unset, .unset] [(.int 4), (.int 1)]))
  have b1 : ¬ (1 : Int32) = (4 : Int32) := by decide
  refine Way.by (fun _ k => XS.icmpYes X.here hx rfl (pc0 := 140) (pc' := 175) rfl (hb hby at_140) rfl (feq b1).2 (by decide) (by decide) k) ?_
  show Way _ _ _ _ (T.setTop (mkF m 175 #[iv p0, iv p1, iv p2, iv p3, iv p4, iv p5, iv z, iv 1, iv cc0, iv cc1, iv cc2, iv cc3, iv cc4, rv px, .val .null, .unset, .unset] []))
  refine Way.by (fun _ k => XS.iconst X.here hx rfl (hb hby at_175) k) ?_
  show Way _ _ _ _ (T.setTop (mkF m 176 #[iv p0, iv p1, iv p2, iv p3, iv p4, iv p5, iv z, iv 1, iv cc0, iv cc1, iv cc2, iv cc3, iv cc4, rv px, .val .null, .unset, .unset] [(.int 0)]))
  refine Way.by (fun _ k => XS.istore X.here hx rfl (hb hby at_176) rfl (l' := #[iv p0, iv p1, iv p2, iv p3, iv p4, iv p5, iv z, iv 1, iv cc0, iv cc1, iv cc2, iv cc3, iv cc4, rv px, .val .null, iv 0, .unset]) rfl k) ?_
  show Way _ _ _ _ (T.setTop (mkF m 178 #[iv p0, iv p1, iv p2, iv p3, iv p4, iv p5, iv z, iv 1, iv cc0, iv cc1, iv cc2, iv cc3, iv cc4, rv px, .val .null, iv 0, .unset] []))
  refine Way.by (fun _ k => XS.iload X.here hx rfl (hb hby at_178) rfl k) ?_
  show Way _ _ _ _ (T.setTop (mkF m 180 #[iv p0, iv p1, iv p2, iv p3, iv p4, iv p5, iv z, iv 1, iv cc0, iv cc1, iv cc2, iv cc3, iv cc4, rv px, .val .null, iv 0, .unset] [(.int 1)]))
  refine Way.by (fun _ k => XS.iconst X.here hx rfl (hb hby at_180) k) ?_
  show Way _ _ _ _ (T.setTop (mkF m 181 #[iv p0, iv p1, iv p2, iv p3, iv p4, iv p5, iv z, iv 1, iv cc0, iv cc1, iv cc2, iv cc3, iv cc4, rv px, .val .null, iv 0, .unset] [(.int 5), (.int 1)]))
  have b2 : ¬ (1 : Int32) = (5 : Int32) := by decide
  refine Way.by (fun _ k => XS.icmpYes X.here hx rfl (pc0 := 181) (pc' := 223) rfl (hb hby at_181) rfl (feq b2).2 (by decide) (by decide) k) ?_
  show Way _ _ _ _ (T.setTop (mkF m 223 #[iv p0, iv p1, iv p2, iv p3, iv p4, iv p5, iv z, iv 1, iv cc0, iv cc1, iv cc2, iv cc3, iv cc4, rv px, .val .null, iv 0, .unset] []))
  refine Way.by (fun _ k => XS.iconst X.here hx rfl (hb hby at_223) k) ?_
  show Way _ _ _ _ (T.setTop (mkF m 224 #[iv p0, iv p1, iv p2, iv p3, iv p4, iv p5, iv z, iv 1, iv cc0, iv cc1, iv cc2, iv cc3, iv cc4, rv px, .val .null, iv 0, .unset] [(.int 0)]))
  refine Way.by (fun _ k => XS.istore X.here hx rfl (hb hby at_224) rfl (l' := #[iv p0, iv p1, iv p2, iv p3, iv p4, iv p5, iv z, iv 1, iv cc0, iv cc1, iv cc2, iv cc3, iv cc4, rv px, .val .null, iv 0, iv 0]) rfl k) ?_
  show Way _ _ _ _ (T.setTop (mkF m 226 #[iv p0, iv p1, iv p2, iv p3, iv p4, iv p5, iv z, iv 1, iv cc0, iv cc1, iv cc2, iv cc3, iv cc4, rv px, .val .null, iv 0, iv 0] []))
  refine Way.by (fun _ k => XS.iload X.here hx rfl (hb hby at_226) rfl k) ?_
  show Way _ _ _ _ (T.setTop (mkF m 228 #[iv p0, iv p1, iv p2, iv p3, iv p4, iv p5, iv z, iv 1, iv cc0, iv cc1, iv cc2, iv cc3, iv cc4, rv px, .val .null, iv 0, iv 0] [(.int 0)]))
  have b3 : (0 : Int32) = (0 : Int32) := by decide
  refine Way.by (fun _ k => XS.ifYes X.here hx rfl (pc0 := 228) (pc' := 250) rfl (hb hby at_228) rfl ((if0 .eq _).trans (teq b3).1) (by decide) (by decide) k) ?_
  show Way _ _ _ _ (T.setTop (mkF m 250 #[iv p0, iv p1, iv p2, iv p3, iv p4, iv p5, iv z, iv 1, iv cc0, iv cc1, iv cc2, iv cc3, iv cc4, rv px, .val .null, iv 0, iv 0] []))
  refine Way.by (fun _ k => XS.iload X.here hx rfl (hb hby at_250) rfl k) ?_
  show Way _ _ _ _ (T.setTop (mkF m 252 #[iv p0, iv p1, iv p2, iv p3, iv p4, iv p5, iv z, iv 1, iv cc0, iv cc1, iv cc2, iv cc3, iv cc4, rv px, .val .null, iv 0, iv 0] [(.int 0)]))
  have b4 : (0 : Int32) = (0 : Int32) := by decide
  refine Way.by (fun _ k => XS.ifYes X.here hx rfl (pc0 := 252) (pc' := 274) rfl (hb hby at_252) rfl ((if0 .eq _).trans (teq b4).1) (by decide) (by decide) k) ?_
  show Way _ _ _ _ (T.setTop (mkF m 274 #[iv p0, iv p1, iv p2, iv p3, iv p4, iv p5, iv z, iv 1, iv cc0, iv cc1, iv cc2, iv cc3, iv cc4, rv px, .val .null, iv 0, iv 0] []))
  refine Way.by (fun _ k => XS.aload X.here hx rfl (hb hby at_274) rfl rfl k) ?_
  show Way _ _ _ _ (T.setTop (mkF m 276 #[iv p0, iv p1, iv p2, iv p3, iv p4, iv p5, iv z, iv 1, iv cc0, iv cc1, iv cc2, iv cc3, iv cc4, rv px, .val .null, iv 0, iv 0] [.null]))
  refine Way.by (fun _ k => XT.ifnonnullNo X.here hx rfl (hb hby at_276) rfl k) ?_
  show Way _ _ _ _ (T.setTop (mkF m 279 #[iv p0, iv p1, iv p2, iv p3, iv p4, iv p5, iv z, iv 1, iv cc0, iv cc1, iv cc2, iv cc3, iv cc4, rv px, .val .null, iv 0, iv 0] []))
  refine Way.by (fun _ k => XS.iconst X.here hx rfl (hb hby at_279) k) ?_
  show Way _ _ _ _ (T.setTop (mkF m 280 #[iv p0, iv p1, iv p2, iv p3, iv p4, iv p5, iv z, iv 1, iv cc0, iv cc1, iv cc2, iv cc3, iv cc4, rv px, .val .null, iv 0, iv 0] [(.int 1)]))
  refine Way.by (fun _ k => XS.goto X.here hx rfl (pc0 := 280) (pc' := 284) rfl (hb hby at_280) (by decide) (by decide) k) ?_
  show Way _ _ _ _ (T.setTop (mkF m 284 #[iv p0, iv p1, iv p2, iv p3, iv p4, iv p5, iv z, iv 1, iv cc0, iv cc1, iv cc2, iv cc3, iv cc4, rv px, .val .null, iv 0, iv 0] [(.int 1)]))
  refine Way.retH (v := (some (.int (nar .boolean (1 : Int32))))) X hS (by rw [eT]; exact hk) hZ hEL hh eT H CH hlk (fun h => by rw [Bd.returns] at h; cases h) (fun fs hr => retN X hx (t := .boolean) Bd.returns (by simp) (hb hby at_284) hr) ?_ (by decide) (by decide)
  show Q0 n0 _ T.heap _
  rw [eT]
  exact ⟨rfl, N⟩
set_option maxRecDepth 65536 in
set_option maxHeartbeats 40000000 in
theorem seg137n2 (l : Launch) (Z : State) (a0 : Array Value) (hw : ∀ d ∈ tables_1, d.before a0 Z = true) (ws : List Jvm.Cond) (p0 p1 p2 p3 p4 p5 : Int32) (uF uT : Addr) (h0 : Heap) (n0 : Nat) (Z0 : n0 ≤ h0.size) (O0 : Old Z n0 h0) (SV : own_Env Z) (SF : Sta Z Z.heap "java/lang/Boolean" "FALSE" "Ljava/lang/Boolean;" (.ref uF)) (STR : Sta Z Z.heap "java/lang/Boolean" "TRUE" "Ljava/lang/Boolean;" (.ref uT)) (EF : Exa Z Z.heap uF "java/lang/Boolean") (FF : Fld Z Z.heap uF "java/lang/Boolean" "value" "Z" (.int 0)) (ET : Exa Z Z.heap uT "java/lang/Boolean") (FT : Fld Z Z.heap uT "java/lang/Boolean" "value" "Z" (.int 1))
    (p : Program) (e : Env) (s : State) (m : MethodId) (below : List Frame) (meth : Method) (c : Code) (s₁ : State) (Bd : BodyLoose p l x (head1 (Jvm.Cond.code x code maxLocals ret :: ws) room_1) code maxLocals ret e s m #[(.int p0), (.int p1), (.int p2), (.int p3), (.int p4), (.int p5)] below meth c s₁) (hml : c.maxLocals = 17)
    (vm0 : Vm) (hZ : Z.Warmed39 (s.setVm vm0).vm) (hown : (s.setVm vm0).vm.findClass "com/example/bare_orm/bareorm/MappingReaderTrueOrFalsePinLaw" = some m.cls) (k0 : Nat) (hS : s.Since vm0 k0) (hh : s.heap = h0)
    (T : State) (h : Heap) (locs : List Loc) (X : Stand p l e room_1 (s.setVm vm0) m #[(.int p0), (.int p1), (.int p2), (.int p3), (.int p4), (.int p5)] below meth c T locs 20 300) (eT : T.heap = h) (N : Fr n0 locs) (Zh : n0 ≤ h.size) (hk : k0 ≤ h.size) (H : CHv Z own_EL vm0 h) (CH : CHr Z own_EL s.vm h0 vm0 h) (O : Old Z n0 h) (z : Int32) (cc0 : Int32) (cc1 : Int32) (cc2 : Int32) (cc3 : Int32) (cc4 : Int32) (px : Addr)  :
    Way p.tables e below (KQH s Z own_EL (Q0 n0) room_1.cells room_1.slots) (T.setTop (mkF m 137 #[iv p0, iv p1, iv p2, iv p3, iv p4, iv p5, iv z, iv 2, iv cc0, iv cc1, iv cc2, iv cc3, iv cc4, rv px, .val (own_tf [cc0, cc1] uF uT), .unset, .unset] [])) := by
  have hx := Bd.exec
  have hby := Bd.bytes
  have hlk : meth.locks = false := BodyLoose.notSynchronized Bd
  have hnm := (name_of_methodNamed Bd.named Bd.method).1
  have wS : ∀ d ∈ Bundle.stringAtoms, d.before a0 Z = true := fun d hd => hw d (own_wS d hd)
  have hEL : EW Z a0 own_EL := own_EW hw
  have hF : ¬ ([cc0, cc1] : List Int32) = [102, 97, 108, 115, 101] := by simp
  have hT : ¬ ([cc0, cc1] : List Int32) = [116, 114, 117, 101] := by simp
  rw [own_tfN hF hT]
  show Way _ _ _ _ (T.setTop (mkF m 137 #[iv p0, iv p1, iv p2, iv p3, iv p4, iv p5, iv z, iv 2, iv cc0, iv cc1, iv cc2, iv cc3, iv cc4, rv px, .val .null, .unset, .unset] []))
  refine Way.by (fun _ k => XS.iload X.here hx rfl (hb hby at_137) rfl k) ?_
  show Way _ _ _ _ (T.setTop (mkF m 139 #[iv p0, iv p1, iv p2, iv p3, iv p4, iv p5, iv z, iv 2, iv cc0, iv cc1, iv cc2, iv cc3, iv cc4, rv px, .val .null, .unset, .unset] [(.int 2)]))
  refine Way.by (fun _ k => XS.iconst X.here hx rfl (hb hby at_139) k) ?_
  show Way _ _ _ _ (T.setTop (mkF m 140 #[iv p0, iv p1, iv p2, iv p3, iv p4, iv p5, iv z, iv 2, iv cc0, iv cc1, iv cc2, iv cc3, iv cc4, rv px, .val .null, .unset, .unset] [(.int 4), (.int 2)]))
  have b1 : ¬ (2 : Int32) = (4 : Int32) := by decide
  refine Way.by (fun _ k => XS.icmpYes X.here hx rfl (pc0 := 140) (pc' := 175) rfl (hb hby at_140) rfl (feq b1).2 (by decide) (by decide) k) ?_
  show Way _ _ _ _ (T.setTop (mkF m 175 #[iv p0, iv p1, iv p2, iv p3, iv p4, iv p5, iv z, iv 2, iv cc0, iv cc1, iv cc2, iv cc3, iv cc4, rv px, .val .null, .unset, .unset] []))
  refine Way.by (fun _ k => XS.iconst X.here hx rfl (hb hby at_175) k) ?_
  show Way _ _ _ _ (T.setTop (mkF m 176 #[iv p0, iv p1, iv p2, iv p3, iv p4, iv p5, iv z, iv 2, iv cc0, iv cc1, iv cc2, iv cc3, iv cc4, rv px, .val .null, .unset, .unset] [(.int 0)]))
  refine Way.by (fun _ k => XS.istore X.here hx rfl (hb hby at_176) rfl (l' := #[iv p0, iv p1, iv p2, iv p3, iv p4, iv p5, iv z, iv 2, iv cc0, iv cc1, iv cc2, iv cc3, iv cc4, rv px, .val .null, iv 0, .unset]) rfl k) ?_
  show Way _ _ _ _ (T.setTop (mkF m 178 #[iv p0, iv p1, iv p2, iv p3, iv p4, iv p5, iv z, iv 2, iv cc0, iv cc1, iv cc2, iv cc3, iv cc4, rv px, .val .null, iv 0, .unset] []))
  refine Way.by (fun _ k => XS.iload X.here hx rfl (hb hby at_178) rfl k) ?_
  show Way _ _ _ _ (T.setTop (mkF m 180 #[iv p0, iv p1, iv p2, iv p3, iv p4, iv p5, iv z, iv 2, iv cc0, iv cc1, iv cc2, iv cc3, iv cc4, rv px, .val .null, iv 0, .unset] [(.int 2)]))
  refine Way.by (fun _ k => XS.iconst X.here hx rfl (hb hby at_180) k) ?_
  show Way _ _ _ _ (T.setTop (mkF m 181 #[iv p0, iv p1, iv p2, iv p3, iv p4, iv p5, iv z, iv 2, iv cc0, iv cc1, iv cc2, iv cc3, iv cc4, rv px, .val .null, iv 0, .unset] [(.int 5), (.int 2)]))
  have b2 : ¬ (2 : Int32) = (5 : Int32) := by decide
  refine Way.by (fun _ k => XS.icmpYes X.here hx rfl (pc0 := 181) (pc' := 223) rfl (hb hby at_181) rfl (feq b2).2 (by decide) (by decide) k) ?_
  show Way _ _ _ _ (T.setTop (mkF m 223 #[iv p0, iv p1, iv p2, iv p3, iv p4, iv p5, iv z, iv 2, iv cc0, iv cc1, iv cc2, iv cc3, iv cc4, rv px, .val .null, iv 0, .unset] []))
  refine Way.by (fun _ k => XS.iconst X.here hx rfl (hb hby at_223) k) ?_
  show Way _ _ _ _ (T.setTop (mkF m 224 #[iv p0, iv p1, iv p2, iv p3, iv p4, iv p5, iv z, iv 2, iv cc0, iv cc1, iv cc2, iv cc3, iv cc4, rv px, .val .null, iv 0, .unset] [(.int 0)]))
  refine Way.by (fun _ k => XS.istore X.here hx rfl (hb hby at_224) rfl (l' := #[iv p0, iv p1, iv p2, iv p3, iv p4, iv p5, iv z, iv 2, iv cc0, iv cc1, iv cc2, iv cc3, iv cc4, rv px, .val .null, iv 0, iv 0]) rfl k) ?_
  show Way _ _ _ _ (T.setTop (mkF m 226 #[iv p0, iv p1, iv p2, iv p3, iv p4, iv p5, iv z, iv 2, iv cc0, iv cc1, iv cc2, iv cc3, iv cc4, rv px, .val .null, iv 0, iv 0] []))
  refine Way.by (fun _ k => XS.iload X.here hx rfl (hb hby at_226) rfl k) ?_
  show Way _ _ _ _ (T.setTop (mkF m 228 #[iv p0, iv p1, iv p2, iv p3, iv p4, iv p5, iv z, iv 2, iv cc0, iv cc1, iv cc2, iv cc3, iv cc4, rv px, .val .null, iv 0, iv 0] [(.int 0)]))
  have b3 : (0 : Int32) = (0 : Int32) := by decide
  refine Way.by (fun _ k => XS.ifYes X.here hx rfl (pc0 := 228) (pc' := 250) rfl (hb hby at_228) rfl ((if0 .eq _).trans (teq b3).1) (by decide) (by decide) k) ?_
  show Way _ _ _ _ (T.setTop (mkF m 250 #[iv p0, iv p1, iv p2, iv p3, iv p4, iv p5, iv z, iv 2, iv cc0, iv cc1, iv cc2, iv cc3, iv cc4, rv px, .val .null, iv 0, iv 0] []))
  refine Way.by (fun _ k => XS.iload X.here hx rfl (hb hby at_250) rfl k) ?_
  show Way _ _ _ _ (T.setTop (mkF m 252 #[iv p0, iv p1, iv p2, iv p3, iv p4, iv p5, iv z, iv 2, iv cc0, iv cc1, iv cc2, iv cc3, iv cc4, rv px, .val .null, iv 0, iv 0] [(.int 0)]))
  have b4 : (0 : Int32) = (0 : Int32) := by decide
  refine Way.by (fun _ k => XS.ifYes X.here hx rfl (pc0 := 252) (pc' := 274) rfl (hb hby at_252) rfl ((if0 .eq _).trans (teq b4).1) (by decide) (by decide) k) ?_
  show Way _ _ _ _ (T.setTop (mkF m 274 #[iv p0, iv p1, iv p2, iv p3, iv p4, iv p5, iv z, iv 2, iv cc0, iv cc1, iv cc2, iv cc3, iv cc4, rv px, .val .null, iv 0, iv 0] []))
  refine Way.by (fun _ k => XS.aload X.here hx rfl (hb hby at_274) rfl rfl k) ?_
  show Way _ _ _ _ (T.setTop (mkF m 276 #[iv p0, iv p1, iv p2, iv p3, iv p4, iv p5, iv z, iv 2, iv cc0, iv cc1, iv cc2, iv cc3, iv cc4, rv px, .val .null, iv 0, iv 0] [.null]))
  refine Way.by (fun _ k => XT.ifnonnullNo X.here hx rfl (hb hby at_276) rfl k) ?_
  show Way _ _ _ _ (T.setTop (mkF m 279 #[iv p0, iv p1, iv p2, iv p3, iv p4, iv p5, iv z, iv 2, iv cc0, iv cc1, iv cc2, iv cc3, iv cc4, rv px, .val .null, iv 0, iv 0] []))
  refine Way.by (fun _ k => XS.iconst X.here hx rfl (hb hby at_279) k) ?_
  show Way _ _ _ _ (T.setTop (mkF m 280 #[iv p0, iv p1, iv p2, iv p3, iv p4, iv p5, iv z, iv 2, iv cc0, iv cc1, iv cc2, iv cc3, iv cc4, rv px, .val .null, iv 0, iv 0] [(.int 1)]))
  refine Way.by (fun _ k => XS.goto X.here hx rfl (pc0 := 280) (pc' := 284) rfl (hb hby at_280) (by decide) (by decide) k) ?_
  show Way _ _ _ _ (T.setTop (mkF m 284 #[iv p0, iv p1, iv p2, iv p3, iv p4, iv p5, iv z, iv 2, iv cc0, iv cc1, iv cc2, iv cc3, iv cc4, rv px, .val .null, iv 0, iv 0] [(.int 1)]))
  refine Way.retH (v := (some (.int (nar .boolean (1 : Int32))))) X hS (by rw [eT]; exact hk) hZ hEL hh eT H CH hlk (fun h => by rw [Bd.returns] at h; cases h) (fun fs hr => retN X hx (t := .boolean) Bd.returns (by simp) (hb hby at_284) hr) ?_ (by decide) (by decide)
  show Q0 n0 _ T.heap _
  rw [eT]
  exact ⟨rfl, N⟩
set_option maxRecDepth 65536 in
set_option maxHeartbeats 40000000 in
theorem seg137n3 (l : Launch) (Z : State) (a0 : Array Value) (hw : ∀ d ∈ tables_1, d.before a0 Z = true) (ws : List Jvm.Cond) (p0 p1 p2 p3 p4 p5 : Int32) (uF uT : Addr) (h0 : Heap) (n0 : Nat) (Z0 : n0 ≤ h0.size) (O0 : Old Z n0 h0) (SV : own_Env Z) (SF : Sta Z Z.heap "java/lang/Boolean" "FALSE" "Ljava/lang/Boolean;" (.ref uF)) (STR : Sta Z Z.heap "java/lang/Boolean" "TRUE" "Ljava/lang/Boolean;" (.ref uT)) (EF : Exa Z Z.heap uF "java/lang/Boolean") (FF : Fld Z Z.heap uF "java/lang/Boolean" "value" "Z" (.int 0)) (ET : Exa Z Z.heap uT "java/lang/Boolean") (FT : Fld Z Z.heap uT "java/lang/Boolean" "value" "Z" (.int 1))
    (p : Program) (e : Env) (s : State) (m : MethodId) (below : List Frame) (meth : Method) (c : Code) (s₁ : State) (Bd : BodyLoose p l x (head1 (Jvm.Cond.code x code maxLocals ret :: ws) room_1) code maxLocals ret e s m #[(.int p0), (.int p1), (.int p2), (.int p3), (.int p4), (.int p5)] below meth c s₁) (hml : c.maxLocals = 17)
    (vm0 : Vm) (hZ : Z.Warmed39 (s.setVm vm0).vm) (hown : (s.setVm vm0).vm.findClass "com/example/bare_orm/bareorm/MappingReaderTrueOrFalsePinLaw" = some m.cls) (k0 : Nat) (hS : s.Since vm0 k0) (hh : s.heap = h0)
    (T : State) (h : Heap) (locs : List Loc) (X : Stand p l e room_1 (s.setVm vm0) m #[(.int p0), (.int p1), (.int p2), (.int p3), (.int p4), (.int p5)] below meth c T locs 20 300) (eT : T.heap = h) (N : Fr n0 locs) (Zh : n0 ≤ h.size) (hk : k0 ≤ h.size) (H : CHv Z own_EL vm0 h) (CH : CHr Z own_EL s.vm h0 vm0 h) (O : Old Z n0 h) (z : Int32) (cc0 : Int32) (cc1 : Int32) (cc2 : Int32) (cc3 : Int32) (cc4 : Int32) (px : Addr)  :
    Way p.tables e below (KQH s Z own_EL (Q0 n0) room_1.cells room_1.slots) (T.setTop (mkF m 137 #[iv p0, iv p1, iv p2, iv p3, iv p4, iv p5, iv z, iv 3, iv cc0, iv cc1, iv cc2, iv cc3, iv cc4, rv px, .val (own_tf [cc0, cc1, cc2] uF uT), .unset, .unset] [])) := by
  have hx := Bd.exec
  have hby := Bd.bytes
  have hlk : meth.locks = false := BodyLoose.notSynchronized Bd
  have hnm := (name_of_methodNamed Bd.named Bd.method).1
  have wS : ∀ d ∈ Bundle.stringAtoms, d.before a0 Z = true := fun d hd => hw d (own_wS d hd)
  have hEL : EW Z a0 own_EL := own_EW hw
  have hF : ¬ ([cc0, cc1, cc2] : List Int32) = [102, 97, 108, 115, 101] := by simp
  have hT : ¬ ([cc0, cc1, cc2] : List Int32) = [116, 114, 117, 101] := by simp
  rw [own_tfN hF hT]
  show Way _ _ _ _ (T.setTop (mkF m 137 #[iv p0, iv p1, iv p2, iv p3, iv p4, iv p5, iv z, iv 3, iv cc0, iv cc1, iv cc2, iv cc3, iv cc4, rv px, .val .null, .unset, .unset] []))
  refine Way.by (fun _ k => XS.iload X.here hx rfl (hb hby at_137) rfl k) ?_
  show Way _ _ _ _ (T.setTop (mkF m 139 #[iv p0, iv p1, iv p2, iv p3, iv p4, iv p5, iv z, iv 3, iv cc0, iv cc1, iv cc2, iv cc3, iv cc4, rv px, .val .null, .unset, .unset] [(.int 3)]))
  refine Way.by (fun _ k => XS.iconst X.here hx rfl (hb hby at_139) k) ?_
  show Way _ _ _ _ (T.setTop (mkF m 140 #[iv p0, iv p1, iv p2, iv p3, iv p4, iv p5, iv z, iv 3, iv cc0, iv cc1, iv cc2, iv cc3, iv cc4, rv px, .val .null, .unset, .unset] [(.int 4), (.int 3)]))
  have b1 : ¬ (3 : Int32) = (4 : Int32) := by decide
  refine Way.by (fun _ k => XS.icmpYes X.here hx rfl (pc0 := 140) (pc' := 175) rfl (hb hby at_140) rfl (feq b1).2 (by decide) (by decide) k) ?_
  show Way _ _ _ _ (T.setTop (mkF m 175 #[iv p0, iv p1, iv p2, iv p3, iv p4, iv p5, iv z, iv 3, iv cc0, iv cc1, iv cc2, iv cc3, iv cc4, rv px, .val .null, .unset, .unset] []))
  refine Way.by (fun _ k => XS.iconst X.here hx rfl (hb hby at_175) k) ?_
  show Way _ _ _ _ (T.setTop (mkF m 176 #[iv p0, iv p1, iv p2, iv p3, iv p4, iv p5, iv z, iv 3, iv cc0, iv cc1, iv cc2, iv cc3, iv cc4, rv px, .val .null, .unset, .unset] [(.int 0)]))
  refine Way.by (fun _ k => XS.istore X.here hx rfl (hb hby at_176) rfl (l' := #[iv p0, iv p1, iv p2, iv p3, iv p4, iv p5, iv z, iv 3, iv cc0, iv cc1, iv cc2, iv cc3, iv cc4, rv px, .val .null, iv 0, .unset]) rfl k) ?_
  show Way _ _ _ _ (T.setTop (mkF m 178 #[iv p0, iv p1, iv p2, iv p3, iv p4, iv p5, iv z, iv 3, iv cc0, iv cc1, iv cc2, iv cc3, iv cc4, rv px, .val .null, iv 0, .unset] []))
  refine Way.by (fun _ k => XS.iload X.here hx rfl (hb hby at_178) rfl k) ?_
  show Way _ _ _ _ (T.setTop (mkF m 180 #[iv p0, iv p1, iv p2, iv p3, iv p4, iv p5, iv z, iv 3, iv cc0, iv cc1, iv cc2, iv cc3, iv cc4, rv px, .val .null, iv 0, .unset] [(.int 3)]))
  refine Way.by (fun _ k => XS.iconst X.here hx rfl (hb hby at_180) k) ?_
  show Way _ _ _ _ (T.setTop (mkF m 181 #[iv p0, iv p1, iv p2, iv p3, iv p4, iv p5, iv z, iv 3, iv cc0, iv cc1, iv cc2, iv cc3, iv cc4, rv px, .val .null, iv 0, .unset] [(.int 5), (.int 3)]))
  have b2 : ¬ (3 : Int32) = (5 : Int32) := by decide
  refine Way.by (fun _ k => XS.icmpYes X.here hx rfl (pc0 := 181) (pc' := 223) rfl (hb hby at_181) rfl (feq b2).2 (by decide) (by decide) k) ?_
  show Way _ _ _ _ (T.setTop (mkF m 223 #[iv p0, iv p1, iv p2, iv p3, iv p4, iv p5, iv z, iv 3, iv cc0, iv cc1, iv cc2, iv cc3, iv cc4, rv px, .val .null, iv 0, .unset] []))
  refine Way.by (fun _ k => XS.iconst X.here hx rfl (hb hby at_223) k) ?_
  show Way _ _ _ _ (T.setTop (mkF m 224 #[iv p0, iv p1, iv p2, iv p3, iv p4, iv p5, iv z, iv 3, iv cc0, iv cc1, iv cc2, iv cc3, iv cc4, rv px, .val .null, iv 0, .unset] [(.int 0)]))
  refine Way.by (fun _ k => XS.istore X.here hx rfl (hb hby at_224) rfl (l' := #[iv p0, iv p1, iv p2, iv p3, iv p4, iv p5, iv z, iv 3, iv cc0, iv cc1, iv cc2, iv cc3, iv cc4, rv px, .val .null, iv 0, iv 0]) rfl k) ?_
  show Way _ _ _ _ (T.setTop (mkF m 226 #[iv p0, iv p1, iv p2, iv p3, iv p4, iv p5, iv z, iv 3, iv cc0, iv cc1, iv cc2, iv cc3, iv cc4, rv px, .val .null, iv 0, iv 0] []))
  refine Way.by (fun _ k => XS.iload X.here hx rfl (hb hby at_226) rfl k) ?_
  show Way _ _ _ _ (T.setTop (mkF m 228 #[iv p0, iv p1, iv p2, iv p3, iv p4, iv p5, iv z, iv 3, iv cc0, iv cc1, iv cc2, iv cc3, iv cc4, rv px, .val .null, iv 0, iv 0] [(.int 0)]))
  have b3 : (0 : Int32) = (0 : Int32) := by decide
  refine Way.by (fun _ k => XS.ifYes X.here hx rfl (pc0 := 228) (pc' := 250) rfl (hb hby at_228) rfl ((if0 .eq _).trans (teq b3).1) (by decide) (by decide) k) ?_
  show Way _ _ _ _ (T.setTop (mkF m 250 #[iv p0, iv p1, iv p2, iv p3, iv p4, iv p5, iv z, iv 3, iv cc0, iv cc1, iv cc2, iv cc3, iv cc4, rv px, .val .null, iv 0, iv 0] []))
  refine Way.by (fun _ k => XS.iload X.here hx rfl (hb hby at_250) rfl k) ?_
  show Way _ _ _ _ (T.setTop (mkF m 252 #[iv p0, iv p1, iv p2, iv p3, iv p4, iv p5, iv z, iv 3, iv cc0, iv cc1, iv cc2, iv cc3, iv cc4, rv px, .val .null, iv 0, iv 0] [(.int 0)]))
  have b4 : (0 : Int32) = (0 : Int32) := by decide
  refine Way.by (fun _ k => XS.ifYes X.here hx rfl (pc0 := 252) (pc' := 274) rfl (hb hby at_252) rfl ((if0 .eq _).trans (teq b4).1) (by decide) (by decide) k) ?_
  show Way _ _ _ _ (T.setTop (mkF m 274 #[iv p0, iv p1, iv p2, iv p3, iv p4, iv p5, iv z, iv 3, iv cc0, iv cc1, iv cc2, iv cc3, iv cc4, rv px, .val .null, iv 0, iv 0] []))
  refine Way.by (fun _ k => XS.aload X.here hx rfl (hb hby at_274) rfl rfl k) ?_
  show Way _ _ _ _ (T.setTop (mkF m 276 #[iv p0, iv p1, iv p2, iv p3, iv p4, iv p5, iv z, iv 3, iv cc0, iv cc1, iv cc2, iv cc3, iv cc4, rv px, .val .null, iv 0, iv 0] [.null]))
  refine Way.by (fun _ k => XT.ifnonnullNo X.here hx rfl (hb hby at_276) rfl k) ?_
  show Way _ _ _ _ (T.setTop (mkF m 279 #[iv p0, iv p1, iv p2, iv p3, iv p4, iv p5, iv z, iv 3, iv cc0, iv cc1, iv cc2, iv cc3, iv cc4, rv px, .val .null, iv 0, iv 0] []))
  refine Way.by (fun _ k => XS.iconst X.here hx rfl (hb hby at_279) k) ?_
  show Way _ _ _ _ (T.setTop (mkF m 280 #[iv p0, iv p1, iv p2, iv p3, iv p4, iv p5, iv z, iv 3, iv cc0, iv cc1, iv cc2, iv cc3, iv cc4, rv px, .val .null, iv 0, iv 0] [(.int 1)]))
  refine Way.by (fun _ k => XS.goto X.here hx rfl (pc0 := 280) (pc' := 284) rfl (hb hby at_280) (by decide) (by decide) k) ?_
  show Way _ _ _ _ (T.setTop (mkF m 284 #[iv p0, iv p1, iv p2, iv p3, iv p4, iv p5, iv z, iv 3, iv cc0, iv cc1, iv cc2, iv cc3, iv cc4, rv px, .val .null, iv 0, iv 0] [(.int 1)]))
  refine Way.retH (v := (some (.int (nar .boolean (1 : Int32))))) X hS (by rw [eT]; exact hk) hZ hEL hh eT H CH hlk (fun h => by rw [Bd.returns] at h; cases h) (fun fs hr => retN X hx (t := .boolean) Bd.returns (by simp) (hb hby at_284) hr) ?_ (by decide) (by decide)
  show Q0 n0 _ T.heap _
  rw [eT]
  exact ⟨rfl, N⟩
set_option maxRecDepth 65536 in
set_option maxHeartbeats 40000000 in
theorem seg137n4 (l : Launch) (Z : State) (a0 : Array Value) (hw : ∀ d ∈ tables_1, d.before a0 Z = true) (ws : List Jvm.Cond) (p0 p1 p2 p3 p4 p5 : Int32) (uF uT : Addr) (h0 : Heap) (n0 : Nat) (Z0 : n0 ≤ h0.size) (O0 : Old Z n0 h0) (SV : own_Env Z) (SF : Sta Z Z.heap "java/lang/Boolean" "FALSE" "Ljava/lang/Boolean;" (.ref uF)) (STR : Sta Z Z.heap "java/lang/Boolean" "TRUE" "Ljava/lang/Boolean;" (.ref uT)) (EF : Exa Z Z.heap uF "java/lang/Boolean") (FF : Fld Z Z.heap uF "java/lang/Boolean" "value" "Z" (.int 0)) (ET : Exa Z Z.heap uT "java/lang/Boolean") (FT : Fld Z Z.heap uT "java/lang/Boolean" "value" "Z" (.int 1))
    (p : Program) (e : Env) (s : State) (m : MethodId) (below : List Frame) (meth : Method) (c : Code) (s₁ : State) (Bd : BodyLoose p l x (head1 (Jvm.Cond.code x code maxLocals ret :: ws) room_1) code maxLocals ret e s m #[(.int p0), (.int p1), (.int p2), (.int p3), (.int p4), (.int p5)] below meth c s₁) (hml : c.maxLocals = 17)
    (vm0 : Vm) (hZ : Z.Warmed39 (s.setVm vm0).vm) (hown : (s.setVm vm0).vm.findClass "com/example/bare_orm/bareorm/MappingReaderTrueOrFalsePinLaw" = some m.cls) (k0 : Nat) (hS : s.Since vm0 k0) (hh : s.heap = h0)
    (T : State) (h : Heap) (locs : List Loc) (X : Stand p l e room_1 (s.setVm vm0) m #[(.int p0), (.int p1), (.int p2), (.int p3), (.int p4), (.int p5)] below meth c T locs 20 300) (eT : T.heap = h) (N : Fr n0 locs) (Zh : n0 ≤ h.size) (hk : k0 ≤ h.size) (H : CHv Z own_EL vm0 h) (CH : CHr Z own_EL s.vm h0 vm0 h) (O : Old Z n0 h) (z : Int32) (cc0 : Int32) (cc1 : Int32) (cc2 : Int32) (cc3 : Int32) (cc4 : Int32) (px : Addr)  :
    Way p.tables e below (KQH s Z own_EL (Q0 n0) room_1.cells room_1.slots) (T.setTop (mkF m 137 #[iv p0, iv p1, iv p2, iv p3, iv p4, iv p5, iv z, iv 4, iv cc0, iv cc1, iv cc2, iv cc3, iv cc4, rv px, .val (own_tf [cc0, cc1, cc2, cc3] uF uT), .unset, .unset] [])) := by
  have hx := Bd.exec
  have hby := Bd.bytes
  have hlk : meth.locks = false := BodyLoose.notSynchronized Bd
  have hnm := (name_of_methodNamed Bd.named Bd.method).1
  have wS : ∀ d ∈ Bundle.stringAtoms, d.before a0 Z = true := fun d hd => hw d (own_wS d hd)
  have hEL : EW Z a0 own_EL := own_EW hw
  have hF : ¬ ([cc0, cc1, cc2, cc3] : List Int32) = [102, 97, 108, 115, 101] := by simp
  by_cases hT : ([cc0, cc1, cc2, cc3] : List Int32) = [116, 114, 117, 101]
  · skip
    rw [own_tfT hF hT]
    clear hF
    simp only [List.cons.injEq, and_true] at hT
    obtain ⟨rfl, rfl, rfl, rfl⟩ := hT
    show Way _ _ _ _ (T.setTop (mkF m 137 #[iv p0, iv p1, iv p2, iv p3, iv p4, iv p5, iv z, iv 4, iv 116, iv 114, iv 117, iv 101, iv cc4, rv px, rv uT, .unset, .unset] []))
    refine Way.by (fun _ k => XS.iload X.here hx rfl (hb hby at_137) rfl k) ?_
    show Way _ _ _ _ (T.setTop (mkF m 139 #[iv p0, iv p1, iv p2, iv p3, iv p4, iv p5, iv z, iv 4, iv 116, iv 114, iv 117, iv 101, iv cc4, rv px, rv uT, .unset, .unset] [(.int 4)]))
    refine Way.by (fun _ k => XS.iconst X.here hx rfl (hb hby at_139) k) ?_
    show Way _ _ _ _ (T.setTop (mkF m 140 #[iv p0, iv p1, iv p2, iv p3, iv p4, iv p5, iv z, iv 4, iv 116, iv 114, iv 117, iv 101, iv cc4, rv px, rv uT, .unset, .unset] [(.int 4), (.int 4)]))
    have b1 : (4 : Int32) = (4 : Int32) := by decide
    refine Way.by (fun _ k => XS.icmpNo X.here hx rfl (hb hby at_140) rfl (teq b1).2 k) ?_
    show Way _ _ _ _ (T.setTop (mkF m 143 #[iv p0, iv p1, iv p2, iv p3, iv p4, iv p5, iv z, iv 4, iv 116, iv 114, iv 117, iv 101, iv cc4, rv px, rv uT, .unset, .unset] []))
    refine Way.by (fun _ k => XS.iload X.here hx rfl (hb hby at_143) rfl k) ?_
    show Way _ _ _ _ (T.setTop (mkF m 145 #[iv p0, iv p1, iv p2, iv p3, iv p4, iv p5, iv z, iv 4, iv 116, iv 114, iv 117, iv 101, iv cc4, rv px, rv uT, .unset, .unset] [(.int 116)]))
    refine Way.by (fun _ k => XS.bipush X.here hx rfl (hb hby at_145) k) ?_
    show Way _ _ _ _ (T.setTop (mkF m 147 #[iv p0, iv p1, iv p2, iv p3, iv p4, iv p5, iv z, iv 4, iv 116, iv 114, iv 117, iv 101, iv cc4, rv px, rv uT, .unset, .unset] [(.int 116), (.int 116)]))
    have b2 : (116 : Int32) = (116 : Int32) := by decide
    refine Way.by (fun _ k => XS.icmpNo X.here hx rfl (hb hby at_147) rfl (teq b2).2 k) ?_
    show Way _ _ _ _ (T.setTop (mkF m 150 #[iv p0, iv p1, iv p2, iv p3, iv p4, iv p5, iv z, iv 4, iv 116, iv 114, iv 117, iv 101, iv cc4, rv px, rv uT, .unset, .unset] []))
    refine Way.by (fun _ k => XS.iload X.here hx rfl (hb hby at_150) rfl k) ?_
    show Way _ _ _ _ (T.setTop (mkF m 152 #[iv p0, iv p1, iv p2, iv p3, iv p4, iv p5, iv z, iv 4, iv 116, iv 114, iv 117, iv 101, iv cc4, rv px, rv uT, .unset, .unset] [(.int 114)]))
    refine Way.by (fun _ k => XS.bipush X.here hx rfl (hb hby at_152) k) ?_
    show Way _ _ _ _ (T.setTop (mkF m 154 #[iv p0, iv p1, iv p2, iv p3, iv p4, iv p5, iv z, iv 4, iv 116, iv 114, iv 117, iv 101, iv cc4, rv px, rv uT, .unset, .unset] [(.int 114), (.int 114)]))
    have b3 : (114 : Int32) = (114 : Int32) := by decide
    refine Way.by (fun _ k => XS.icmpNo X.here hx rfl (hb hby at_154) rfl (teq b3).2 k) ?_
    show Way _ _ _ _ (T.setTop (mkF m 157 #[iv p0, iv p1, iv p2, iv p3, iv p4, iv p5, iv z, iv 4, iv 116, iv 114, iv 117, iv 101, iv cc4, rv px, rv uT, .unset, .unset] []))
    refine Way.by (fun _ k => XS.iload X.here hx rfl (hb hby at_157) rfl k) ?_
    show Way _ _ _ _ (T.setTop (mkF m 159 #[iv p0, iv p1, iv p2, iv p3, iv p4, iv p5, iv z, iv 4, iv 116, iv 114, iv 117, iv 101, iv cc4, rv px, rv uT, .unset, .unset] [(.int 117)]))
    refine Way.by (fun _ k => XS.bipush X.here hx rfl (hb hby at_159) k) ?_
    show Way _ _ _ _ (T.setTop (mkF m 161 #[iv p0, iv p1, iv p2, iv p3, iv p4, iv p5, iv z, iv 4, iv 116, iv 114, iv 117, iv 101, iv cc4, rv px, rv uT, .unset, .unset] [(.int 117), (.int 117)]))
    have b4 : (117 : Int32) = (117 : Int32) := by decide
    refine Way.by (fun _ k => XS.icmpNo X.here hx rfl (hb hby at_161) rfl (teq b4).2 k) ?_
    show Way _ _ _ _ (T.setTop (mkF m 164 #[iv p0, iv p1, iv p2, iv p3, iv p4, iv p5, iv z, iv 4, iv 116, iv 114, iv 117, iv 101, iv cc4, rv px, rv uT, .unset, .unset] []))
    refine Way.by (fun _ k => XS.iload X.here hx rfl (hb hby at_164) rfl k) ?_
    show Way _ _ _ _ (T.setTop (mkF m 166 #[iv p0, iv p1, iv p2, iv p3, iv p4, iv p5, iv z, iv 4, iv 116, iv 114, iv 117, iv 101, iv cc4, rv px, rv uT, .unset, .unset] [(.int 101)]))
    refine Way.by (fun _ k => XS.bipush X.here hx rfl (hb hby at_166) k) ?_
    show Way _ _ _ _ (T.setTop (mkF m 168 #[iv p0, iv p1, iv p2, iv p3, iv p4, iv p5, iv z, iv 4, iv 116, iv 114, iv 117, iv 101, iv cc4, rv px, rv uT, .unset, .unset] [(.int 101), (.int 101)]))
    have b5 : (101 : Int32) = (101 : Int32) := by decide
    refine Way.by (fun _ k => XS.icmpNo X.here hx rfl (hb hby at_168) rfl (teq b5).2 k) ?_
    show Way _ _ _ _ (T.setTop (mkF m 171 #[iv p0, iv p1, iv p2, iv p3, iv p4, iv p5, iv z, iv 4, iv 116, iv 114, iv 117, iv 101, iv cc4, rv px, rv uT, .unset, .unset] []))
    refine Way.by (fun _ k => XS.iconst X.here hx rfl (hb hby at_171) k) ?_
    show Way _ _ _ _ (T.setTop (mkF m 172 #[iv p0, iv p1, iv p2, iv p3, iv p4, iv p5, iv z, iv 4, iv 116, iv 114, iv 117, iv 101, iv cc4, rv px, rv uT, .unset, .unset] [(.int 1)]))
    refine Way.by (fun _ k => XS.goto X.here hx rfl (pc0 := 172) (pc' := 176) rfl (hb hby at_172) (by decide) (by decide) k) ?_
    show Way _ _ _ _ (T.setTop (mkF m 176 #[iv p0, iv p1, iv p2, iv p3, iv p4, iv p5, iv z, iv 4, iv 116, iv 114, iv 117, iv 101, iv cc4, rv px, rv uT, .unset, .unset] [(.int 1)]))
    refine Way.by (fun _ k => XS.istore X.here hx rfl (hb hby at_176) rfl (l' := #[iv p0, iv p1, iv p2, iv p3, iv p4, iv p5, iv z, iv 4, iv 116, iv 114, iv 117, iv 101, iv cc4, rv px, rv uT, iv 1, .unset]) rfl k) ?_
    show Way _ _ _ _ (T.setTop (mkF m 178 #[iv p0, iv p1, iv p2, iv p3, iv p4, iv p5, iv z, iv 4, iv 116, iv 114, iv 117, iv 101, iv cc4, rv px, rv uT, iv 1, .unset] []))
    refine Way.by (fun _ k => XS.iload X.here hx rfl (hb hby at_178) rfl k) ?_
    show Way _ _ _ _ (T.setTop (mkF m 180 #[iv p0, iv p1, iv p2, iv p3, iv p4, iv p5, iv z, iv 4, iv 116, iv 114, iv 117, iv 101, iv cc4, rv px, rv uT, iv 1, .unset] [(.int 4)]))
    refine Way.by (fun _ k => XS.iconst X.here hx rfl (hb hby at_180) k) ?_
    show Way _ _ _ _ (T.setTop (mkF m 181 #[iv p0, iv p1, iv p2, iv p3, iv p4, iv p5, iv z, iv 4, iv 116, iv 114, iv 117, iv 101, iv cc4, rv px, rv uT, iv 1, .unset] [(.int 5), (.int 4)]))
    have b6 : ¬ (4 : Int32) = (5 : Int32) := by decide
    refine Way.by (fun _ k => XS.icmpYes X.here hx rfl (pc0 := 181) (pc' := 223) rfl (hb hby at_181) rfl (feq b6).2 (by decide) (by decide) k) ?_
    show Way _ _ _ _ (T.setTop (mkF m 223 #[iv p0, iv p1, iv p2, iv p3, iv p4, iv p5, iv z, iv 4, iv 116, iv 114, iv 117, iv 101, iv cc4, rv px, rv uT, iv 1, .unset] []))
    refine Way.by (fun _ k => XS.iconst X.here hx rfl (hb hby at_223) k) ?_
    show Way _ _ _ _ (T.setTop (mkF m 224 #[iv p0, iv p1, iv p2, iv p3, iv p4, iv p5, iv z, iv 4, iv 116, iv 114, iv 117, iv 101, iv cc4, rv px, rv uT, iv 1, .unset] [(.int 0)]))
    refine Way.by (fun _ k => XS.istore X.here hx rfl (hb hby at_224) rfl (l' := #[iv p0, iv p1, iv p2, iv p3, iv p4, iv p5, iv z, iv 4, iv 116, iv 114, iv 117, iv 101, iv cc4, rv px, rv uT, iv 1, iv 0]) rfl k) ?_
    show Way _ _ _ _ (T.setTop (mkF m 226 #[iv p0, iv p1, iv p2, iv p3, iv p4, iv p5, iv z, iv 4, iv 116, iv 114, iv 117, iv 101, iv cc4, rv px, rv uT, iv 1, iv 0] []))
    refine Way.by (fun _ k => XS.iload X.here hx rfl (hb hby at_226) rfl k) ?_
    show Way _ _ _ _ (T.setTop (mkF m 228 #[iv p0, iv p1, iv p2, iv p3, iv p4, iv p5, iv z, iv 4, iv 116, iv 114, iv 117, iv 101, iv cc4, rv px, rv uT, iv 1, iv 0] [(.int 1)]))
    have b7 : ¬ (1 : Int32) = (0 : Int32) := by decide
    refine Way.by (fun _ k => XS.ifNo X.here hx rfl (hb hby at_228) rfl ((if0 .eq _).trans (feq b7).1) k) ?_
    show Way _ _ _ _ (T.setTop (mkF m 231 #[iv p0, iv p1, iv p2, iv p3, iv p4, iv p5, iv z, iv 4, iv 116, iv 114, iv 117, iv 101, iv cc4, rv px, rv uT, iv 1, iv 0] []))
    refine Way.by (fun _ k => XS.aload X.here hx rfl (hb hby at_231) rfl rfl k) ?_
    show Way _ _ _ _ (T.setTop (mkF m 233 #[iv p0, iv p1, iv p2, iv p3, iv p4, iv p5, iv z, iv 4, iv 116, iv 114, iv 117, iv 101, iv cc4, rv px, rv uT, iv 1, iv 0] [(.ref uT)]))
    refine Way.by (fun _ k => XS.ifnullNo X.here hx rfl (hb hby at_233) rfl k) ?_
    show Way _ _ _ _ (T.setTop (mkF m 236 #[iv p0, iv p1, iv p2, iv p3, iv p4, iv p5, iv z, iv 4, iv 116, iv 114, iv 117, iv 101, iv cc4, rv px, rv uT, iv 1, iv 0] []))
    refine Way.by (fun _ k => XS.aload X.here hx rfl (hb hby at_236) rfl rfl k) ?_
    show Way _ _ _ _ (T.setTop (mkF m 238 #[iv p0, iv p1, iv p2, iv p3, iv p4, iv p5, iv z, iv 4, iv 116, iv 114, iv 117, iv 101, iv cc4, rv px, rv uT, iv 1, iv 0] [(.ref uT)]))
    have Eb8 := Exa.ext O.2 ET
    have Fb9 := Fld.ext O.2 FT
    obtain ⟨cq26, kq27, qa28, qb29, qc30⟩ := isOf hZ eT Eb8
    obtain ⟨_, _, ⟨T10, L12, k13, n14⟩, -, X11, ⟨Lc15, hQ16, l17, y18, z19⟩, st20⟩ := X.virtualBack hx (y := (⟨"java/lang/Boolean", "booleanValue", "()Z"⟩ : MethodName)) (z := (⟨"java/lang/Boolean", "booleanValue", "()Z"⟩ : MethodName)) hown (mvT hZ (tw hw 6 rfl)) (mvT hZ (tw hw 7 rfl)) (notFace_of_selects (args := #[]) (mvT hZ (tw hw 9 rfl))) (mvT hZ (tw hw 9 rfl)) (mvT hZ (tw hw 8 rfl)) (by decide) (backOf (W := 0) (rmBV1 l Z a0 hw [] uT h n0 Zh Fb9) hZ (tw hw 10 rfl) (tw hw 5 rfl) (by decide) (by decide)) qa28 qc30 (g := (mkF m 238 #[iv p0, iv p1, iv p2, iv p3, iv p4, iv p5, iv z, iv 4, iv 116, iv 114, iv 117, iv 101, iv cc4, rv px, rv uT, iv 1, iv 0] [(.ref uT)])) rfl (by rw [hml]; rfl) (Steps.refl _) (argsL := []) (rest := []) (lenOf pdBV0 rfl) rfl (leW rfl) (hb hby at_238) (fun _ _ => ⟨rfl, eT, (leB rfl), (leB rfl)⟩)
    dsimp only [Pt.U, Pt.locs, Pt.cells, Pt.slots] at X11 l17 y18 z19 st20 hQ16
    subst y18 z19
    obtain ⟨rfl, N31, e22⟩ := hQ16
    have N21 : Fr n0 L12 := by rw [l17]; exact Fr.app N N31
    refine Way.to st20 ?_
    show Way _ _ _ _ (T10.setTop (mkF m 241 #[iv p0, iv p1, iv p2, iv p3, iv p4, iv p5, iv z, iv 4, iv 116, iv 114, iv 117, iv 101, iv cc4, rv px, rv uT, iv 1, iv 0] [(.int 1)]))
    have b33 : ¬ (1 : Int32) = (0 : Int32) := by decide
    refine Way.by (fun _ k => XS.ifNo X11.here hx rfl (hb hby at_241) rfl ((if0 .eq _).trans (feq b33).1) k) ?_
    show Way _ _ _ _ (T10.setTop (mkF m 244 #[iv p0, iv p1, iv p2, iv p3, iv p4, iv p5, iv z, iv 4, iv 116, iv 114, iv 117, iv 101, iv cc4, rv px, rv uT, iv 1, iv 0] []))
    refine Way.by (fun _ k => XS.iconst X11.here hx rfl (hb hby at_244) k) ?_
    show Way _ _ _ _ (T10.setTop (mkF m 245 #[iv p0, iv p1, iv p2, iv p3, iv p4, iv p5, iv z, iv 4, iv 116, iv 114, iv 117, iv 101, iv cc4, rv px, rv uT, iv 1, iv 0] [(.int 1)]))
    refine Way.by (fun _ k => XS.goto X11.here hx rfl (pc0 := 245) (pc' := 249) rfl (hb hby at_245) (by decide) (by decide) k) ?_
    show Way _ _ _ _ (T10.setTop (mkF m 249 #[iv p0, iv p1, iv p2, iv p3, iv p4, iv p5, iv z, iv 4, iv 116, iv 114, iv 117, iv 101, iv cc4, rv px, rv uT, iv 1, iv 0] [(.int 1)]))
    refine Way.retH (v := (some (.int (nar .boolean (1 : Int32))))) X11 hS (by rw [e22]; exact hk) hZ hEL hh e22 H CH hlk (fun h => by rw [Bd.returns] at h; cases h) (fun fs hr => retN X11 hx (t := .boolean) Bd.returns (by simp) (hb hby at_249) hr) ?_ (by decide) (by decide)
    show Q0 n0 _ T10.heap _
    rw [e22]
    exact ⟨rfl, N21⟩
  · skip
    rw [own_tfN hF hT]
    show Way _ _ _ _ (T.setTop (mkF m 137 #[iv p0, iv p1, iv p2, iv p3, iv p4, iv p5, iv z, iv 4, iv cc0, iv cc1, iv cc2, iv cc3, iv cc4, rv px, .val .null, .unset, .unset] []))
    refine Way.by (fun _ k => XS.iload X.here hx rfl (hb hby at_137) rfl k) ?_
    show Way _ _ _ _ (T.setTop (mkF m 139 #[iv p0, iv p1, iv p2, iv p3, iv p4, iv p5, iv z, iv 4, iv cc0, iv cc1, iv cc2, iv cc3, iv cc4, rv px, .val .null, .unset, .unset] [(.int 4)]))
    refine Way.by (fun _ k => XS.iconst X.here hx rfl (hb hby at_139) k) ?_
    show Way _ _ _ _ (T.setTop (mkF m 140 #[iv p0, iv p1, iv p2, iv p3, iv p4, iv p5, iv z, iv 4, iv cc0, iv cc1, iv cc2, iv cc3, iv cc4, rv px, .val .null, .unset, .unset] [(.int 4), (.int 4)]))
    have b34 : (4 : Int32) = (4 : Int32) := by decide
    refine Way.by (fun _ k => XS.icmpNo X.here hx rfl (hb hby at_140) rfl (teq b34).2 k) ?_
    show Way _ _ _ _ (T.setTop (mkF m 143 #[iv p0, iv p1, iv p2, iv p3, iv p4, iv p5, iv z, iv 4, iv cc0, iv cc1, iv cc2, iv cc3, iv cc4, rv px, .val .null, .unset, .unset] []))
    refine Way.by (fun _ k => XS.iload X.here hx rfl (hb hby at_143) rfl k) ?_
    show Way _ _ _ _ (T.setTop (mkF m 145 #[iv p0, iv p1, iv p2, iv p3, iv p4, iv p5, iv z, iv 4, iv cc0, iv cc1, iv cc2, iv cc3, iv cc4, rv px, .val .null, .unset, .unset] [(.int cc0)]))
    refine Way.by (fun _ k => XS.bipush X.here hx rfl (hb hby at_145) k) ?_
    show Way _ _ _ _ (T.setTop (mkF m 147 #[iv p0, iv p1, iv p2, iv p3, iv p4, iv p5, iv z, iv 4, iv cc0, iv cc1, iv cc2, iv cc3, iv cc4, rv px, .val .null, .unset, .unset] [(.int 116), (.int cc0)]))
    by_cases hq147 : cc0 = (116 : Int32)
    · skip
      refine Way.by (fun _ k => XS.icmpNo X.here hx rfl (hb hby at_147) rfl (teq hq147).2 k) ?_
      show Way _ _ _ _ (T.setTop (mkF m 150 #[iv p0, iv p1, iv p2, iv p3, iv p4, iv p5, iv z, iv 4, iv cc0, iv cc1, iv cc2, iv cc3, iv cc4, rv px, .val .null, .unset, .unset] []))
      refine Way.by (fun _ k => XS.iload X.here hx rfl (hb hby at_150) rfl k) ?_
      show Way _ _ _ _ (T.setTop (mkF m 152 #[iv p0, iv p1, iv p2, iv p3, iv p4, iv p5, iv z, iv 4, iv cc0, iv cc1, iv cc2, iv cc3, iv cc4, rv px, .val .null, .unset, .unset] [(.int cc1)]))
      refine Way.by (fun _ k => XS.bipush X.here hx rfl (hb hby at_152) k) ?_
      show Way _ _ _ _ (T.setTop (mkF m 154 #[iv p0, iv p1, iv p2, iv p3, iv p4, iv p5, iv z, iv 4, iv cc0, iv cc1, iv cc2, iv cc3, iv cc4, rv px, .val .null, .unset, .unset] [(.int 114), (.int cc1)]))
      by_cases hq154 : cc1 = (114 : Int32)
      · skip
        refine Way.by (fun _ k => XS.icmpNo X.here hx rfl (hb hby at_154) rfl (teq hq154).2 k) ?_
        show Way _ _ _ _ (T.setTop (mkF m 157 #[iv p0, iv p1, iv p2, iv p3, iv p4, iv p5, iv z, iv 4, iv cc0, iv cc1, iv cc2, iv cc3, iv cc4, rv px, .val .null, .unset, .unset] []))
        refine Way.by (fun _ k => XS.iload X.here hx rfl (hb hby at_157) rfl k) ?_
        show Way _ _ _ _ (T.setTop (mkF m 159 #[iv p0, iv p1, iv p2, iv p3, iv p4, iv p5, iv z, iv 4, iv cc0, iv cc1, iv cc2, iv cc3, iv cc4, rv px, .val .null, .unset, .unset] [(.int cc2)]))
        refine Way.by (fun _ k => XS.bipush X.here hx rfl (hb hby at_159) k) ?_
        show Way _ _ _ _ (T.setTop (mkF m 161 #[iv p0, iv p1, iv p2, iv p3, iv p4, iv p5, iv z, iv 4, iv cc0, iv cc1, iv cc2, iv cc3, iv cc4, rv px, .val .null, .unset, .unset] [(.int 117), (.int cc2)]))
        by_cases hq161 : cc2 = (117 : Int32)
        · skip
          refine Way.by (fun _ k => XS.icmpNo X.here hx rfl (hb hby at_161) rfl (teq hq161).2 k) ?_
          show Way _ _ _ _ (T.setTop (mkF m 164 #[iv p0, iv p1, iv p2, iv p3, iv p4, iv p5, iv z, iv 4, iv cc0, iv cc1, iv cc2, iv cc3, iv cc4, rv px, .val .null, .unset, .unset] []))
          refine Way.by (fun _ k => XS.iload X.here hx rfl (hb hby at_164) rfl k) ?_
          show Way _ _ _ _ (T.setTop (mkF m 166 #[iv p0, iv p1, iv p2, iv p3, iv p4, iv p5, iv z, iv 4, iv cc0, iv cc1, iv cc2, iv cc3, iv cc4, rv px, .val .null, .unset, .unset] [(.int cc3)]))
          refine Way.by (fun _ k => XS.bipush X.here hx rfl (hb hby at_166) k) ?_
          show Way _ _ _ _ (T.setTop (mkF m 168 #[iv p0, iv p1, iv p2, iv p3, iv p4, iv p5, iv z, iv 4, iv cc0, iv cc1, iv cc2, iv cc3, iv cc4, rv px, .val .null, .unset, .unset] [(.int 101), (.int cc3)]))
          by_cases hq168 : cc3 = (101 : Int32)
          · skip
            exact absurd (by rw [hq147, hq154, hq161, hq168]) hT
          · skip
            refine Way.by (fun _ k => XS.icmpYes X.here hx rfl (pc0 := 168) (pc' := 175) rfl (hb hby at_168) rfl (feq hq168).2 (by decide) (by decide) k) ?_
            show Way _ _ _ _ (T.setTop (mkF m 175 #[iv p0, iv p1, iv p2, iv p3, iv p4, iv p5, iv z, iv 4, iv cc0, iv cc1, iv cc2, iv cc3, iv cc4, rv px, .val .null, .unset, .unset] []))
            refine Way.by (fun _ k => XS.iconst X.here hx rfl (hb hby at_175) k) ?_
            show Way _ _ _ _ (T.setTop (mkF m 176 #[iv p0, iv p1, iv p2, iv p3, iv p4, iv p5, iv z, iv 4, iv cc0, iv cc1, iv cc2, iv cc3, iv cc4, rv px, .val .null, .unset, .unset] [(.int 0)]))
            refine Way.by (fun _ k => XS.istore X.here hx rfl (hb hby at_176) rfl (l' := #[iv p0, iv p1, iv p2, iv p3, iv p4, iv p5, iv z, iv 4, iv cc0, iv cc1, iv cc2, iv cc3, iv cc4, rv px, .val .null, iv 0, .unset]) rfl k) ?_
            show Way _ _ _ _ (T.setTop (mkF m 178 #[iv p0, iv p1, iv p2, iv p3, iv p4, iv p5, iv z, iv 4, iv cc0, iv cc1, iv cc2, iv cc3, iv cc4, rv px, .val .null, iv 0, .unset] []))
            refine Way.by (fun _ k => XS.iload X.here hx rfl (hb hby at_178) rfl k) ?_
            show Way _ _ _ _ (T.setTop (mkF m 180 #[iv p0, iv p1, iv p2, iv p3, iv p4, iv p5, iv z, iv 4, iv cc0, iv cc1, iv cc2, iv cc3, iv cc4, rv px, .val .null, iv 0, .unset] [(.int 4)]))
            refine Way.by (fun _ k => XS.iconst X.here hx rfl (hb hby at_180) k) ?_
            show Way _ _ _ _ (T.setTop (mkF m 181 #[iv p0, iv p1, iv p2, iv p3, iv p4, iv p5, iv z, iv 4, iv cc0, iv cc1, iv cc2, iv cc3, iv cc4, rv px, .val .null, iv 0, .unset] [(.int 5), (.int 4)]))
            have b35 : ¬ (4 : Int32) = (5 : Int32) := by decide
            refine Way.by (fun _ k => XS.icmpYes X.here hx rfl (pc0 := 181) (pc' := 223) rfl (hb hby at_181) rfl (feq b35).2 (by decide) (by decide) k) ?_
            show Way _ _ _ _ (T.setTop (mkF m 223 #[iv p0, iv p1, iv p2, iv p3, iv p4, iv p5, iv z, iv 4, iv cc0, iv cc1, iv cc2, iv cc3, iv cc4, rv px, .val .null, iv 0, .unset] []))
            refine Way.by (fun _ k => XS.iconst X.here hx rfl (hb hby at_223) k) ?_
            show Way _ _ _ _ (T.setTop (mkF m 224 #[iv p0, iv p1, iv p2, iv p3, iv p4, iv p5, iv z, iv 4, iv cc0, iv cc1, iv cc2, iv cc3, iv cc4, rv px, .val .null, iv 0, .unset] [(.int 0)]))
            refine Way.by (fun _ k => XS.istore X.here hx rfl (hb hby at_224) rfl (l' := #[iv p0, iv p1, iv p2, iv p3, iv p4, iv p5, iv z, iv 4, iv cc0, iv cc1, iv cc2, iv cc3, iv cc4, rv px, .val .null, iv 0, iv 0]) rfl k) ?_
            show Way _ _ _ _ (T.setTop (mkF m 226 #[iv p0, iv p1, iv p2, iv p3, iv p4, iv p5, iv z, iv 4, iv cc0, iv cc1, iv cc2, iv cc3, iv cc4, rv px, .val .null, iv 0, iv 0] []))
            refine Way.by (fun _ k => XS.iload X.here hx rfl (hb hby at_226) rfl k) ?_
            show Way _ _ _ _ (T.setTop (mkF m 228 #[iv p0, iv p1, iv p2, iv p3, iv p4, iv p5, iv z, iv 4, iv cc0, iv cc1, iv cc2, iv cc3, iv cc4, rv px, .val .null, iv 0, iv 0] [(.int 0)]))
            have b36 : (0 : Int32) = (0 : Int32) := by decide
            refine Way.by (fun _ k => XS.ifYes X.here hx rfl (pc0 := 228) (pc' := 250) rfl (hb hby at_228) rfl ((if0 .eq _).trans (teq b36).1) (by decide) (by decide) k) ?_
            show Way _ _ _ _ (T.setTop (mkF m 250 #[iv p0, iv p1, iv p2, iv p3, iv p4, iv p5, iv z, iv 4, iv cc0, iv cc1, iv cc2, iv cc3, iv cc4, rv px, .val .null, iv 0, iv 0] []))
            refine Way.by (fun _ k => XS.iload X.here hx rfl (hb hby at_250) rfl k) ?_
            show Way _ _ _ _ (T.setTop (mkF m 252 #[iv p0, iv p1, iv p2, iv p3, iv p4, iv p5, iv z, iv 4, iv cc0, iv cc1, iv cc2, iv cc3, iv cc4, rv px, .val .null, iv 0, iv 0] [(.int 0)]))
            have b37 : (0 : Int32) = (0 : Int32) := by decide
            refine Way.by (fun _ k => XS.ifYes X.here hx rfl (pc0 := 252) (pc' := 274) rfl (hb hby at_252) rfl ((if0 .eq _).trans (teq b37).1) (by decide) (by decide) k) ?_
            show Way _ _ _ _ (T.setTop (mkF m 274 #[iv p0, iv p1, iv p2, iv p3, iv p4, iv p5, iv z, iv 4, iv cc0, iv cc1, iv cc2, iv cc3, iv cc4, rv px, .val .null, iv 0, iv 0] []))
            refine Way.by (fun _ k => XS.aload X.here hx rfl (hb hby at_274) rfl rfl k) ?_
            show Way _ _ _ _ (T.setTop (mkF m 276 #[iv p0, iv p1, iv p2, iv p3, iv p4, iv p5, iv z, iv 4, iv cc0, iv cc1, iv cc2, iv cc3, iv cc4, rv px, .val .null, iv 0, iv 0] [.null]))
            refine Way.by (fun _ k => XT.ifnonnullNo X.here hx rfl (hb hby at_276) rfl k) ?_
            show Way _ _ _ _ (T.setTop (mkF m 279 #[iv p0, iv p1, iv p2, iv p3, iv p4, iv p5, iv z, iv 4, iv cc0, iv cc1, iv cc2, iv cc3, iv cc4, rv px, .val .null, iv 0, iv 0] []))
            refine Way.by (fun _ k => XS.iconst X.here hx rfl (hb hby at_279) k) ?_
            show Way _ _ _ _ (T.setTop (mkF m 280 #[iv p0, iv p1, iv p2, iv p3, iv p4, iv p5, iv z, iv 4, iv cc0, iv cc1, iv cc2, iv cc3, iv cc4, rv px, .val .null, iv 0, iv 0] [(.int 1)]))
            refine Way.by (fun _ k => XS.goto X.here hx rfl (pc0 := 280) (pc' := 284) rfl (hb hby at_280) (by decide) (by decide) k) ?_
            show Way _ _ _ _ (T.setTop (mkF m 284 #[iv p0, iv p1, iv p2, iv p3, iv p4, iv p5, iv z, iv 4, iv cc0, iv cc1, iv cc2, iv cc3, iv cc4, rv px, .val .null, iv 0, iv 0] [(.int 1)]))
            refine Way.retH (v := (some (.int (nar .boolean (1 : Int32))))) X hS (by rw [eT]; exact hk) hZ hEL hh eT H CH hlk (fun h => by rw [Bd.returns] at h; cases h) (fun fs hr => retN X hx (t := .boolean) Bd.returns (by simp) (hb hby at_284) hr) ?_ (by decide) (by decide)
            show Q0 n0 _ T.heap _
            rw [eT]
            exact ⟨rfl, N⟩
        · skip
          refine Way.by (fun _ k => XS.icmpYes X.here hx rfl (pc0 := 161) (pc' := 175) rfl (hb hby at_161) rfl (feq hq161).2 (by decide) (by decide) k) ?_
          show Way _ _ _ _ (T.setTop (mkF m 175 #[iv p0, iv p1, iv p2, iv p3, iv p4, iv p5, iv z, iv 4, iv cc0, iv cc1, iv cc2, iv cc3, iv cc4, rv px, .val .null, .unset, .unset] []))
          refine Way.by (fun _ k => XS.iconst X.here hx rfl (hb hby at_175) k) ?_
          show Way _ _ _ _ (T.setTop (mkF m 176 #[iv p0, iv p1, iv p2, iv p3, iv p4, iv p5, iv z, iv 4, iv cc0, iv cc1, iv cc2, iv cc3, iv cc4, rv px, .val .null, .unset, .unset] [(.int 0)]))
          refine Way.by (fun _ k => XS.istore X.here hx rfl (hb hby at_176) rfl (l' := #[iv p0, iv p1, iv p2, iv p3, iv p4, iv p5, iv z, iv 4, iv cc0, iv cc1, iv cc2, iv cc3, iv cc4, rv px, .val .null, iv 0, .unset]) rfl k) ?_
          show Way _ _ _ _ (T.setTop (mkF m 178 #[iv p0, iv p1, iv p2, iv p3, iv p4, iv p5, iv z, iv 4, iv cc0, iv cc1, iv cc2, iv cc3, iv cc4, rv px, .val .null, iv 0, .unset] []))
          refine Way.by (fun _ k => XS.iload X.here hx rfl (hb hby at_178) rfl k) ?_
          show Way _ _ _ _ (T.setTop (mkF m 180 #[iv p0, iv p1, iv p2, iv p3, iv p4, iv p5, iv z, iv 4, iv cc0, iv cc1, iv cc2, iv cc3, iv cc4, rv px, .val .null, iv 0, .unset] [(.int 4)]))
          refine Way.by (fun _ k => XS.iconst X.here hx rfl (hb hby at_180) k) ?_
          show Way _ _ _ _ (T.setTop (mkF m 181 #[iv p0, iv p1, iv p2, iv p3, iv p4, iv p5, iv z, iv 4, iv cc0, iv cc1, iv cc2, iv cc3, iv cc4, rv px, .val .null, iv 0, .unset] [(.int 5), (.int 4)]))
          have b38 : ¬ (4 : Int32) = (5 : Int32) := by decide
          refine Way.by (fun _ k => XS.icmpYes X.here hx rfl (pc0 := 181) (pc' := 223) rfl (hb hby at_181) rfl (feq b38).2 (by decide) (by decide) k) ?_
          show Way _ _ _ _ (T.setTop (mkF m 223 #[iv p0, iv p1, iv p2, iv p3, iv p4, iv p5, iv z, iv 4, iv cc0, iv cc1, iv cc2, iv cc3, iv cc4, rv px, .val .null, iv 0, .unset] []))
          refine Way.by (fun _ k => XS.iconst X.here hx rfl (hb hby at_223) k) ?_
          show Way _ _ _ _ (T.setTop (mkF m 224 #[iv p0, iv p1, iv p2, iv p3, iv p4, iv p5, iv z, iv 4, iv cc0, iv cc1, iv cc2, iv cc3, iv cc4, rv px, .val .null, iv 0, .unset] [(.int 0)]))
          refine Way.by (fun _ k => XS.istore X.here hx rfl (hb hby at_224) rfl (l' := #[iv p0, iv p1, iv p2, iv p3, iv p4, iv p5, iv z, iv 4, iv cc0, iv cc1, iv cc2, iv cc3, iv cc4, rv px, .val .null, iv 0, iv 0]) rfl k) ?_
          show Way _ _ _ _ (T.setTop (mkF m 226 #[iv p0, iv p1, iv p2, iv p3, iv p4, iv p5, iv z, iv 4, iv cc0, iv cc1, iv cc2, iv cc3, iv cc4, rv px, .val .null, iv 0, iv 0] []))
          refine Way.by (fun _ k => XS.iload X.here hx rfl (hb hby at_226) rfl k) ?_
          show Way _ _ _ _ (T.setTop (mkF m 228 #[iv p0, iv p1, iv p2, iv p3, iv p4, iv p5, iv z, iv 4, iv cc0, iv cc1, iv cc2, iv cc3, iv cc4, rv px, .val .null, iv 0, iv 0] [(.int 0)]))
          have b39 : (0 : Int32) = (0 : Int32) := by decide
          refine Way.by (fun _ k => XS.ifYes X.here hx rfl (pc0 := 228) (pc' := 250) rfl (hb hby at_228) rfl ((if0 .eq _).trans (teq b39).1) (by decide) (by decide) k) ?_
          show Way _ _ _ _ (T.setTop (mkF m 250 #[iv p0, iv p1, iv p2, iv p3, iv p4, iv p5, iv z, iv 4, iv cc0, iv cc1, iv cc2, iv cc3, iv cc4, rv px, .val .null, iv 0, iv 0] []))
          refine Way.by (fun _ k => XS.iload X.here hx rfl (hb hby at_250) rfl k) ?_
          show Way _ _ _ _ (T.setTop (mkF m 252 #[iv p0, iv p1, iv p2, iv p3, iv p4, iv p5, iv z, iv 4, iv cc0, iv cc1, iv cc2, iv cc3, iv cc4, rv px, .val .null, iv 0, iv 0] [(.int 0)]))
          have b40 : (0 : Int32) = (0 : Int32) := by decide
          refine Way.by (fun _ k => XS.ifYes X.here hx rfl (pc0 := 252) (pc' := 274) rfl (hb hby at_252) rfl ((if0 .eq _).trans (teq b40).1) (by decide) (by decide) k) ?_
          show Way _ _ _ _ (T.setTop (mkF m 274 #[iv p0, iv p1, iv p2, iv p3, iv p4, iv p5, iv z, iv 4, iv cc0, iv cc1, iv cc2, iv cc3, iv cc4, rv px, .val .null, iv 0, iv 0] []))
          refine Way.by (fun _ k => XS.aload X.here hx rfl (hb hby at_274) rfl rfl k) ?_
          show Way _ _ _ _ (T.setTop (mkF m 276 #[iv p0, iv p1, iv p2, iv p3, iv p4, iv p5, iv z, iv 4, iv cc0, iv cc1, iv cc2, iv cc3, iv cc4, rv px, .val .null, iv 0, iv 0] [.null]))
          refine Way.by (fun _ k => XT.ifnonnullNo X.here hx rfl (hb hby at_276) rfl k) ?_
          show Way _ _ _ _ (T.setTop (mkF m 279 #[iv p0, iv p1, iv p2, iv p3, iv p4, iv p5, iv z, iv 4, iv cc0, iv cc1, iv cc2, iv cc3, iv cc4, rv px, .val .null, iv 0, iv 0] []))
          refine Way.by (fun _ k => XS.iconst X.here hx rfl (hb hby at_279) k) ?_
          show Way _ _ _ _ (T.setTop (mkF m 280 #[iv p0, iv p1, iv p2, iv p3, iv p4, iv p5, iv z, iv 4, iv cc0, iv cc1, iv cc2, iv cc3, iv cc4, rv px, .val .null, iv 0, iv 0] [(.int 1)]))
          refine Way.by (fun _ k => XS.goto X.here hx rfl (pc0 := 280) (pc' := 284) rfl (hb hby at_280) (by decide) (by decide) k) ?_
          show Way _ _ _ _ (T.setTop (mkF m 284 #[iv p0, iv p1, iv p2, iv p3, iv p4, iv p5, iv z, iv 4, iv cc0, iv cc1, iv cc2, iv cc3, iv cc4, rv px, .val .null, iv 0, iv 0] [(.int 1)]))
          refine Way.retH (v := (some (.int (nar .boolean (1 : Int32))))) X hS (by rw [eT]; exact hk) hZ hEL hh eT H CH hlk (fun h => by rw [Bd.returns] at h; cases h) (fun fs hr => retN X hx (t := .boolean) Bd.returns (by simp) (hb hby at_284) hr) ?_ (by decide) (by decide)
          show Q0 n0 _ T.heap _
          rw [eT]
          exact ⟨rfl, N⟩
      · skip
        refine Way.by (fun _ k => XS.icmpYes X.here hx rfl (pc0 := 154) (pc' := 175) rfl (hb hby at_154) rfl (feq hq154).2 (by decide) (by decide) k) ?_
        show Way _ _ _ _ (T.setTop (mkF m 175 #[iv p0, iv p1, iv p2, iv p3, iv p4, iv p5, iv z, iv 4, iv cc0, iv cc1, iv cc2, iv cc3, iv cc4, rv px, .val .null, .unset, .unset] []))
        refine Way.by (fun _ k => XS.iconst X.here hx rfl (hb hby at_175) k) ?_
        show Way _ _ _ _ (T.setTop (mkF m 176 #[iv p0, iv p1, iv p2, iv p3, iv p4, iv p5, iv z, iv 4, iv cc0, iv cc1, iv cc2, iv cc3, iv cc4, rv px, .val .null, .unset, .unset] [(.int 0)]))
        refine Way.by (fun _ k => XS.istore X.here hx rfl (hb hby at_176) rfl (l' := #[iv p0, iv p1, iv p2, iv p3, iv p4, iv p5, iv z, iv 4, iv cc0, iv cc1, iv cc2, iv cc3, iv cc4, rv px, .val .null, iv 0, .unset]) rfl k) ?_
        show Way _ _ _ _ (T.setTop (mkF m 178 #[iv p0, iv p1, iv p2, iv p3, iv p4, iv p5, iv z, iv 4, iv cc0, iv cc1, iv cc2, iv cc3, iv cc4, rv px, .val .null, iv 0, .unset] []))
        refine Way.by (fun _ k => XS.iload X.here hx rfl (hb hby at_178) rfl k) ?_
        show Way _ _ _ _ (T.setTop (mkF m 180 #[iv p0, iv p1, iv p2, iv p3, iv p4, iv p5, iv z, iv 4, iv cc0, iv cc1, iv cc2, iv cc3, iv cc4, rv px, .val .null, iv 0, .unset] [(.int 4)]))
        refine Way.by (fun _ k => XS.iconst X.here hx rfl (hb hby at_180) k) ?_
        show Way _ _ _ _ (T.setTop (mkF m 181 #[iv p0, iv p1, iv p2, iv p3, iv p4, iv p5, iv z, iv 4, iv cc0, iv cc1, iv cc2, iv cc3, iv cc4, rv px, .val .null, iv 0, .unset] [(.int 5), (.int 4)]))
        have b41 : ¬ (4 : Int32) = (5 : Int32) := by decide
        refine Way.by (fun _ k => XS.icmpYes X.here hx rfl (pc0 := 181) (pc' := 223) rfl (hb hby at_181) rfl (feq b41).2 (by decide) (by decide) k) ?_
        show Way _ _ _ _ (T.setTop (mkF m 223 #[iv p0, iv p1, iv p2, iv p3, iv p4, iv p5, iv z, iv 4, iv cc0, iv cc1, iv cc2, iv cc3, iv cc4, rv px, .val .null, iv 0, .unset] []))
        refine Way.by (fun _ k => XS.iconst X.here hx rfl (hb hby at_223) k) ?_
        show Way _ _ _ _ (T.setTop (mkF m 224 #[iv p0, iv p1, iv p2, iv p3, iv p4, iv p5, iv z, iv 4, iv cc0, iv cc1, iv cc2, iv cc3, iv cc4, rv px, .val .null, iv 0, .unset] [(.int 0)]))
        refine Way.by (fun _ k => XS.istore X.here hx rfl (hb hby at_224) rfl (l' := #[iv p0, iv p1, iv p2, iv p3, iv p4, iv p5, iv z, iv 4, iv cc0, iv cc1, iv cc2, iv cc3, iv cc4, rv px, .val .null, iv 0, iv 0]) rfl k) ?_
        show Way _ _ _ _ (T.setTop (mkF m 226 #[iv p0, iv p1, iv p2, iv p3, iv p4, iv p5, iv z, iv 4, iv cc0, iv cc1, iv cc2, iv cc3, iv cc4, rv px, .val .null, iv 0, iv 0] []))
        refine Way.by (fun _ k => XS.iload X.here hx rfl (hb hby at_226) rfl k) ?_
        show Way _ _ _ _ (T.setTop (mkF m 228 #[iv p0, iv p1, iv p2, iv p3, iv p4, iv p5, iv z, iv 4, iv cc0, iv cc1, iv cc2, iv cc3, iv cc4, rv px, .val .null, iv 0, iv 0] [(.int 0)]))
        have b42 : (0 : Int32) = (0 : Int32) := by decide
        refine Way.by (fun _ k => XS.ifYes X.here hx rfl (pc0 := 228) (pc' := 250) rfl (hb hby at_228) rfl ((if0 .eq _).trans (teq b42).1) (by decide) (by decide) k) ?_
        show Way _ _ _ _ (T.setTop (mkF m 250 #[iv p0, iv p1, iv p2, iv p3, iv p4, iv p5, iv z, iv 4, iv cc0, iv cc1, iv cc2, iv cc3, iv cc4, rv px, .val .null, iv 0, iv 0] []))
        refine Way.by (fun _ k => XS.iload X.here hx rfl (hb hby at_250) rfl k) ?_
        show Way _ _ _ _ (T.setTop (mkF m 252 #[iv p0, iv p1, iv p2, iv p3, iv p4, iv p5, iv z, iv 4, iv cc0, iv cc1, iv cc2, iv cc3, iv cc4, rv px, .val .null, iv 0, iv 0] [(.int 0)]))
        have b43 : (0 : Int32) = (0 : Int32) := by decide
        refine Way.by (fun _ k => XS.ifYes X.here hx rfl (pc0 := 252) (pc' := 274) rfl (hb hby at_252) rfl ((if0 .eq _).trans (teq b43).1) (by decide) (by decide) k) ?_
        show Way _ _ _ _ (T.setTop (mkF m 274 #[iv p0, iv p1, iv p2, iv p3, iv p4, iv p5, iv z, iv 4, iv cc0, iv cc1, iv cc2, iv cc3, iv cc4, rv px, .val .null, iv 0, iv 0] []))
        refine Way.by (fun _ k => XS.aload X.here hx rfl (hb hby at_274) rfl rfl k) ?_
        show Way _ _ _ _ (T.setTop (mkF m 276 #[iv p0, iv p1, iv p2, iv p3, iv p4, iv p5, iv z, iv 4, iv cc0, iv cc1, iv cc2, iv cc3, iv cc4, rv px, .val .null, iv 0, iv 0] [.null]))
        refine Way.by (fun _ k => XT.ifnonnullNo X.here hx rfl (hb hby at_276) rfl k) ?_
        show Way _ _ _ _ (T.setTop (mkF m 279 #[iv p0, iv p1, iv p2, iv p3, iv p4, iv p5, iv z, iv 4, iv cc0, iv cc1, iv cc2, iv cc3, iv cc4, rv px, .val .null, iv 0, iv 0] []))
        refine Way.by (fun _ k => XS.iconst X.here hx rfl (hb hby at_279) k) ?_
        show Way _ _ _ _ (T.setTop (mkF m 280 #[iv p0, iv p1, iv p2, iv p3, iv p4, iv p5, iv z, iv 4, iv cc0, iv cc1, iv cc2, iv cc3, iv cc4, rv px, .val .null, iv 0, iv 0] [(.int 1)]))
        refine Way.by (fun _ k => XS.goto X.here hx rfl (pc0 := 280) (pc' := 284) rfl (hb hby at_280) (by decide) (by decide) k) ?_
        show Way _ _ _ _ (T.setTop (mkF m 284 #[iv p0, iv p1, iv p2, iv p3, iv p4, iv p5, iv z, iv 4, iv cc0, iv cc1, iv cc2, iv cc3, iv cc4, rv px, .val .null, iv 0, iv 0] [(.int 1)]))
        refine Way.retH (v := (some (.int (nar .boolean (1 : Int32))))) X hS (by rw [eT]; exact hk) hZ hEL hh eT H CH hlk (fun h => by rw [Bd.returns] at h; cases h) (fun fs hr => retN X hx (t := .boolean) Bd.returns (by simp) (hb hby at_284) hr) ?_ (by decide) (by decide)
        show Q0 n0 _ T.heap _
        rw [eT]
        exact ⟨rfl, N⟩
    · skip
      refine Way.by (fun _ k => XS.icmpYes X.here hx rfl (pc0 := 147) (pc' := 175) rfl (hb hby at_147) rfl (feq hq147).2 (by decide) (by decide) k) ?_
      show Way _ _ _ _ (T.setTop (mkF m 175 #[iv p0, iv p1, iv p2, iv p3, iv p4, iv p5, iv z, iv 4, iv cc0, iv cc1, iv cc2, iv cc3, iv cc4, rv px, .val .null, .unset, .unset] []))
      refine Way.by (fun _ k => XS.iconst X.here hx rfl (hb hby at_175) k) ?_
      show Way _ _ _ _ (T.setTop (mkF m 176 #[iv p0, iv p1, iv p2, iv p3, iv p4, iv p5, iv z, iv 4, iv cc0, iv cc1, iv cc2, iv cc3, iv cc4, rv px, .val .null, .unset, .unset] [(.int 0)]))
      refine Way.by (fun _ k => XS.istore X.here hx rfl (hb hby at_176) rfl (l' := #[iv p0, iv p1, iv p2, iv p3, iv p4, iv p5, iv z, iv 4, iv cc0, iv cc1, iv cc2, iv cc3, iv cc4, rv px, .val .null, iv 0, .unset]) rfl k) ?_
      show Way _ _ _ _ (T.setTop (mkF m 178 #[iv p0, iv p1, iv p2, iv p3, iv p4, iv p5, iv z, iv 4, iv cc0, iv cc1, iv cc2, iv cc3, iv cc4, rv px, .val .null, iv 0, .unset] []))
      refine Way.by (fun _ k => XS.iload X.here hx rfl (hb hby at_178) rfl k) ?_
      show Way _ _ _ _ (T.setTop (mkF m 180 #[iv p0, iv p1, iv p2, iv p3, iv p4, iv p5, iv z, iv 4, iv cc0, iv cc1, iv cc2, iv cc3, iv cc4, rv px, .val .null, iv 0, .unset] [(.int 4)]))
      refine Way.by (fun _ k => XS.iconst X.here hx rfl (hb hby at_180) k) ?_
      show Way _ _ _ _ (T.setTop (mkF m 181 #[iv p0, iv p1, iv p2, iv p3, iv p4, iv p5, iv z, iv 4, iv cc0, iv cc1, iv cc2, iv cc3, iv cc4, rv px, .val .null, iv 0, .unset] [(.int 5), (.int 4)]))
      have b44 : ¬ (4 : Int32) = (5 : Int32) := by decide
      refine Way.by (fun _ k => XS.icmpYes X.here hx rfl (pc0 := 181) (pc' := 223) rfl (hb hby at_181) rfl (feq b44).2 (by decide) (by decide) k) ?_
      show Way _ _ _ _ (T.setTop (mkF m 223 #[iv p0, iv p1, iv p2, iv p3, iv p4, iv p5, iv z, iv 4, iv cc0, iv cc1, iv cc2, iv cc3, iv cc4, rv px, .val .null, iv 0, .unset] []))
      refine Way.by (fun _ k => XS.iconst X.here hx rfl (hb hby at_223) k) ?_
      show Way _ _ _ _ (T.setTop (mkF m 224 #[iv p0, iv p1, iv p2, iv p3, iv p4, iv p5, iv z, iv 4, iv cc0, iv cc1, iv cc2, iv cc3, iv cc4, rv px, .val .null, iv 0, .unset] [(.int 0)]))
      refine Way.by (fun _ k => XS.istore X.here hx rfl (hb hby at_224) rfl (l' := #[iv p0, iv p1, iv p2, iv p3, iv p4, iv p5, iv z, iv 4, iv cc0, iv cc1, iv cc2, iv cc3, iv cc4, rv px, .val .null, iv 0, iv 0]) rfl k) ?_
      show Way _ _ _ _ (T.setTop (mkF m 226 #[iv p0, iv p1, iv p2, iv p3, iv p4, iv p5, iv z, iv 4, iv cc0, iv cc1, iv cc2, iv cc3, iv cc4, rv px, .val .null, iv 0, iv 0] []))
      refine Way.by (fun _ k => XS.iload X.here hx rfl (hb hby at_226) rfl k) ?_
      show Way _ _ _ _ (T.setTop (mkF m 228 #[iv p0, iv p1, iv p2, iv p3, iv p4, iv p5, iv z, iv 4, iv cc0, iv cc1, iv cc2, iv cc3, iv cc4, rv px, .val .null, iv 0, iv 0] [(.int 0)]))
      have b45 : (0 : Int32) = (0 : Int32) := by decide
      refine Way.by (fun _ k => XS.ifYes X.here hx rfl (pc0 := 228) (pc' := 250) rfl (hb hby at_228) rfl ((if0 .eq _).trans (teq b45).1) (by decide) (by decide) k) ?_
      show Way _ _ _ _ (T.setTop (mkF m 250 #[iv p0, iv p1, iv p2, iv p3, iv p4, iv p5, iv z, iv 4, iv cc0, iv cc1, iv cc2, iv cc3, iv cc4, rv px, .val .null, iv 0, iv 0] []))
      refine Way.by (fun _ k => XS.iload X.here hx rfl (hb hby at_250) rfl k) ?_
      show Way _ _ _ _ (T.setTop (mkF m 252 #[iv p0, iv p1, iv p2, iv p3, iv p4, iv p5, iv z, iv 4, iv cc0, iv cc1, iv cc2, iv cc3, iv cc4, rv px, .val .null, iv 0, iv 0] [(.int 0)]))
      have b46 : (0 : Int32) = (0 : Int32) := by decide
      refine Way.by (fun _ k => XS.ifYes X.here hx rfl (pc0 := 252) (pc' := 274) rfl (hb hby at_252) rfl ((if0 .eq _).trans (teq b46).1) (by decide) (by decide) k) ?_
      show Way _ _ _ _ (T.setTop (mkF m 274 #[iv p0, iv p1, iv p2, iv p3, iv p4, iv p5, iv z, iv 4, iv cc0, iv cc1, iv cc2, iv cc3, iv cc4, rv px, .val .null, iv 0, iv 0] []))
      refine Way.by (fun _ k => XS.aload X.here hx rfl (hb hby at_274) rfl rfl k) ?_
      show Way _ _ _ _ (T.setTop (mkF m 276 #[iv p0, iv p1, iv p2, iv p3, iv p4, iv p5, iv z, iv 4, iv cc0, iv cc1, iv cc2, iv cc3, iv cc4, rv px, .val .null, iv 0, iv 0] [.null]))
      refine Way.by (fun _ k => XT.ifnonnullNo X.here hx rfl (hb hby at_276) rfl k) ?_
      show Way _ _ _ _ (T.setTop (mkF m 279 #[iv p0, iv p1, iv p2, iv p3, iv p4, iv p5, iv z, iv 4, iv cc0, iv cc1, iv cc2, iv cc3, iv cc4, rv px, .val .null, iv 0, iv 0] []))
      refine Way.by (fun _ k => XS.iconst X.here hx rfl (hb hby at_279) k) ?_
      show Way _ _ _ _ (T.setTop (mkF m 280 #[iv p0, iv p1, iv p2, iv p3, iv p4, iv p5, iv z, iv 4, iv cc0, iv cc1, iv cc2, iv cc3, iv cc4, rv px, .val .null, iv 0, iv 0] [(.int 1)]))
      refine Way.by (fun _ k => XS.goto X.here hx rfl (pc0 := 280) (pc' := 284) rfl (hb hby at_280) (by decide) (by decide) k) ?_
      show Way _ _ _ _ (T.setTop (mkF m 284 #[iv p0, iv p1, iv p2, iv p3, iv p4, iv p5, iv z, iv 4, iv cc0, iv cc1, iv cc2, iv cc3, iv cc4, rv px, .val .null, iv 0, iv 0] [(.int 1)]))
      refine Way.retH (v := (some (.int (nar .boolean (1 : Int32))))) X hS (by rw [eT]; exact hk) hZ hEL hh eT H CH hlk (fun h => by rw [Bd.returns] at h; cases h) (fun fs hr => retN X hx (t := .boolean) Bd.returns (by simp) (hb hby at_284) hr) ?_ (by decide) (by decide)
      show Q0 n0 _ T.heap _
      rw [eT]
      exact ⟨rfl, N⟩
set_option maxRecDepth 65536 in
set_option maxHeartbeats 40000000 in
theorem seg137n5 (l : Launch) (Z : State) (a0 : Array Value) (hw : ∀ d ∈ tables_1, d.before a0 Z = true) (ws : List Jvm.Cond) (p0 p1 p2 p3 p4 p5 : Int32) (uF uT : Addr) (h0 : Heap) (n0 : Nat) (Z0 : n0 ≤ h0.size) (O0 : Old Z n0 h0) (SV : own_Env Z) (SF : Sta Z Z.heap "java/lang/Boolean" "FALSE" "Ljava/lang/Boolean;" (.ref uF)) (STR : Sta Z Z.heap "java/lang/Boolean" "TRUE" "Ljava/lang/Boolean;" (.ref uT)) (EF : Exa Z Z.heap uF "java/lang/Boolean") (FF : Fld Z Z.heap uF "java/lang/Boolean" "value" "Z" (.int 0)) (ET : Exa Z Z.heap uT "java/lang/Boolean") (FT : Fld Z Z.heap uT "java/lang/Boolean" "value" "Z" (.int 1))
    (p : Program) (e : Env) (s : State) (m : MethodId) (below : List Frame) (meth : Method) (c : Code) (s₁ : State) (Bd : BodyLoose p l x (head1 (Jvm.Cond.code x code maxLocals ret :: ws) room_1) code maxLocals ret e s m #[(.int p0), (.int p1), (.int p2), (.int p3), (.int p4), (.int p5)] below meth c s₁) (hml : c.maxLocals = 17)
    (vm0 : Vm) (hZ : Z.Warmed39 (s.setVm vm0).vm) (hown : (s.setVm vm0).vm.findClass "com/example/bare_orm/bareorm/MappingReaderTrueOrFalsePinLaw" = some m.cls) (k0 : Nat) (hS : s.Since vm0 k0) (hh : s.heap = h0)
    (T : State) (h : Heap) (locs : List Loc) (X : Stand p l e room_1 (s.setVm vm0) m #[(.int p0), (.int p1), (.int p2), (.int p3), (.int p4), (.int p5)] below meth c T locs 20 300) (eT : T.heap = h) (N : Fr n0 locs) (Zh : n0 ≤ h.size) (hk : k0 ≤ h.size) (H : CHv Z own_EL vm0 h) (CH : CHr Z own_EL s.vm h0 vm0 h) (O : Old Z n0 h) (z : Int32) (cc0 : Int32) (cc1 : Int32) (cc2 : Int32) (cc3 : Int32) (cc4 : Int32) (px : Addr)  :
    Way p.tables e below (KQH s Z own_EL (Q0 n0) room_1.cells room_1.slots) (T.setTop (mkF m 137 #[iv p0, iv p1, iv p2, iv p3, iv p4, iv p5, iv z, iv 5, iv cc0, iv cc1, iv cc2, iv cc3, iv cc4, rv px, .val (own_tf [cc0, cc1, cc2, cc3, cc4] uF uT), .unset, .unset] [])) := by
  have hx := Bd.exec
  have hby := Bd.bytes
  have hlk : meth.locks = false := BodyLoose.notSynchronized Bd
  have hnm := (name_of_methodNamed Bd.named Bd.method).1
  have wS : ∀ d ∈ Bundle.stringAtoms, d.before a0 Z = true := fun d hd => hw d (own_wS d hd)
  have hEL : EW Z a0 own_EL := own_EW hw
  have hT : ¬ ([cc0, cc1, cc2, cc3, cc4] : List Int32) = [116, 114, 117, 101] := by simp
  by_cases hF : ([cc0, cc1, cc2, cc3, cc4] : List Int32) = [102, 97, 108, 115, 101]
  · skip
    rw [own_tfF hF]
    simp only [List.cons.injEq, and_true] at hF
    obtain ⟨rfl, rfl, rfl, rfl, rfl⟩ := hF
    show Way _ _ _ _ (T.setTop (mkF m 137 #[iv p0, iv p1, iv p2, iv p3, iv p4, iv p5, iv z, iv 5, iv 102, iv 97, iv 108, iv 115, iv 101, rv px, rv uF, .unset, .unset] []))
    refine Way.by (fun _ k => XS.iload X.here hx rfl (hb hby at_137) rfl k) ?_
    show Way _ _ _ _ (T.setTop (mkF m 139 #[iv p0, iv p1, iv p2, iv p3, iv p4, iv p5, iv z, iv 5, iv 102, iv 97, iv 108, iv 115, iv 101, rv px, rv uF, .unset, .unset] [(.int 5)]))
    refine Way.by (fun _ k => XS.iconst X.here hx rfl (hb hby at_139) k) ?_
    show Way _ _ _ _ (T.setTop (mkF m 140 #[iv p0, iv p1, iv p2, iv p3, iv p4, iv p5, iv z, iv 5, iv 102, iv 97, iv 108, iv 115, iv 101, rv px, rv uF, .unset, .unset] [(.int 4), (.int 5)]))
    have b1 : ¬ (5 : Int32) = (4 : Int32) := by decide
    refine Way.by (fun _ k => XS.icmpYes X.here hx rfl (pc0 := 140) (pc' := 175) rfl (hb hby at_140) rfl (feq b1).2 (by decide) (by decide) k) ?_
    show Way _ _ _ _ (T.setTop (mkF m 175 #[iv p0, iv p1, iv p2, iv p3, iv p4, iv p5, iv z, iv 5, iv 102, iv 97, iv 108, iv 115, iv 101, rv px, rv uF, .unset, .unset] []))
    refine Way.by (fun _ k => XS.iconst X.here hx rfl (hb hby at_175) k) ?_
    show Way _ _ _ _ (T.setTop (mkF m 176 #[iv p0, iv p1, iv p2, iv p3, iv p4, iv p5, iv z, iv 5, iv 102, iv 97, iv 108, iv 115, iv 101, rv px, rv uF, .unset, .unset] [(.int 0)]))
    refine Way.by (fun _ k => XS.istore X.here hx rfl (hb hby at_176) rfl (l' := #[iv p0, iv p1, iv p2, iv p3, iv p4, iv p5, iv z, iv 5, iv 102, iv 97, iv 108, iv 115, iv 101, rv px, rv uF, iv 0, .unset]) rfl k) ?_
    show Way _ _ _ _ (T.setTop (mkF m 178 #[iv p0, iv p1, iv p2, iv p3, iv p4, iv p5, iv z, iv 5, iv 102, iv 97, iv 108, iv 115, iv 101, rv px, rv uF, iv 0, .unset] []))
    refine Way.by (fun _ k => XS.iload X.here hx rfl (hb hby at_178) rfl k) ?_
    show Way _ _ _ _ (T.setTop (mkF m 180 #[iv p0, iv p1, iv p2, iv p3, iv p4, iv p5, iv z, iv 5, iv 102, iv 97, iv 108, iv 115, iv 101, rv px, rv uF, iv 0, .unset] [(.int 5)]))
    refine Way.by (fun _ k => XS.iconst X.here hx rfl (hb hby at_180) k) ?_
    show Way _ _ _ _ (T.setTop (mkF m 181 #[iv p0, iv p1, iv p2, iv p3, iv p4, iv p5, iv z, iv 5, iv 102, iv 97, iv 108, iv 115, iv 101, rv px, rv uF, iv 0, .unset] [(.int 5), (.int 5)]))
    have b2 : (5 : Int32) = (5 : Int32) := by decide
    refine Way.by (fun _ k => XS.icmpNo X.here hx rfl (hb hby at_181) rfl (teq b2).2 k) ?_
    show Way _ _ _ _ (T.setTop (mkF m 184 #[iv p0, iv p1, iv p2, iv p3, iv p4, iv p5, iv z, iv 5, iv 102, iv 97, iv 108, iv 115, iv 101, rv px, rv uF, iv 0, .unset] []))
    refine Way.by (fun _ k => XS.iload X.here hx rfl (hb hby at_184) rfl k) ?_
    show Way _ _ _ _ (T.setTop (mkF m 186 #[iv p0, iv p1, iv p2, iv p3, iv p4, iv p5, iv z, iv 5, iv 102, iv 97, iv 108, iv 115, iv 101, rv px, rv uF, iv 0, .unset] [(.int 102)]))
    refine Way.by (fun _ k => XS.bipush X.here hx rfl (hb hby at_186) k) ?_
    show Way _ _ _ _ (T.setTop (mkF m 188 #[iv p0, iv p1, iv p2, iv p3, iv p4, iv p5, iv z, iv 5, iv 102, iv 97, iv 108, iv 115, iv 101, rv px, rv uF, iv 0, .unset] [(.int 102), (.int 102)]))
    have b3 : (102 : Int32) = (102 : Int32) := by decide
    refine Way.by (fun _ k => XS.icmpNo X.here hx rfl (hb hby at_188) rfl (teq b3).2 k) ?_
    show Way _ _ _ _ (T.setTop (mkF m 191 #[iv p0, iv p1, iv p2, iv p3, iv p4, iv p5, iv z, iv 5, iv 102, iv 97, iv 108, iv 115, iv 101, rv px, rv uF, iv 0, .unset] []))
    refine Way.by (fun _ k => XS.iload X.here hx rfl (hb hby at_191) rfl k) ?_
    show Way _ _ _ _ (T.setTop (mkF m 193 #[iv p0, iv p1, iv p2, iv p3, iv p4, iv p5, iv z, iv 5, iv 102, iv 97, iv 108, iv 115, iv 101, rv px, rv uF, iv 0, .unset] [(.int 97)]))
    refine Way.by (fun _ k => XS.bipush X.here hx rfl (hb hby at_193) k) ?_
    show Way _ _ _ _ (T.setTop (mkF m 195 #[iv p0, iv p1, iv p2, iv p3, iv p4, iv p5, iv z, iv 5, iv 102, iv 97, iv 108, iv 115, iv 101, rv px, rv uF, iv 0, .unset] [(.int 97), (.int 97)]))
    have b4 : (97 : Int32) = (97 : Int32) := by decide
    refine Way.by (fun _ k => XS.icmpNo X.here hx rfl (hb hby at_195) rfl (teq b4).2 k) ?_
    show Way _ _ _ _ (T.setTop (mkF m 198 #[iv p0, iv p1, iv p2, iv p3, iv p4, iv p5, iv z, iv 5, iv 102, iv 97, iv 108, iv 115, iv 101, rv px, rv uF, iv 0, .unset] []))
    refine Way.by (fun _ k => XS.iload X.here hx rfl (hb hby at_198) rfl k) ?_
    show Way _ _ _ _ (T.setTop (mkF m 200 #[iv p0, iv p1, iv p2, iv p3, iv p4, iv p5, iv z, iv 5, iv 102, iv 97, iv 108, iv 115, iv 101, rv px, rv uF, iv 0, .unset] [(.int 108)]))
    refine Way.by (fun _ k => XS.bipush X.here hx rfl (hb hby at_200) k) ?_
    show Way _ _ _ _ (T.setTop (mkF m 202 #[iv p0, iv p1, iv p2, iv p3, iv p4, iv p5, iv z, iv 5, iv 102, iv 97, iv 108, iv 115, iv 101, rv px, rv uF, iv 0, .unset] [(.int 108), (.int 108)]))
    have b5 : (108 : Int32) = (108 : Int32) := by decide
    refine Way.by (fun _ k => XS.icmpNo X.here hx rfl (hb hby at_202) rfl (teq b5).2 k) ?_
    show Way _ _ _ _ (T.setTop (mkF m 205 #[iv p0, iv p1, iv p2, iv p3, iv p4, iv p5, iv z, iv 5, iv 102, iv 97, iv 108, iv 115, iv 101, rv px, rv uF, iv 0, .unset] []))
    refine Way.by (fun _ k => XS.iload X.here hx rfl (hb hby at_205) rfl k) ?_
    show Way _ _ _ _ (T.setTop (mkF m 207 #[iv p0, iv p1, iv p2, iv p3, iv p4, iv p5, iv z, iv 5, iv 102, iv 97, iv 108, iv 115, iv 101, rv px, rv uF, iv 0, .unset] [(.int 115)]))
    refine Way.by (fun _ k => XS.bipush X.here hx rfl (hb hby at_207) k) ?_
    show Way _ _ _ _ (T.setTop (mkF m 209 #[iv p0, iv p1, iv p2, iv p3, iv p4, iv p5, iv z, iv 5, iv 102, iv 97, iv 108, iv 115, iv 101, rv px, rv uF, iv 0, .unset] [(.int 115), (.int 115)]))
    have b6 : (115 : Int32) = (115 : Int32) := by decide
    refine Way.by (fun _ k => XS.icmpNo X.here hx rfl (hb hby at_209) rfl (teq b6).2 k) ?_
    show Way _ _ _ _ (T.setTop (mkF m 212 #[iv p0, iv p1, iv p2, iv p3, iv p4, iv p5, iv z, iv 5, iv 102, iv 97, iv 108, iv 115, iv 101, rv px, rv uF, iv 0, .unset] []))
    refine Way.by (fun _ k => XS.iload X.here hx rfl (hb hby at_212) rfl k) ?_
    show Way _ _ _ _ (T.setTop (mkF m 214 #[iv p0, iv p1, iv p2, iv p3, iv p4, iv p5, iv z, iv 5, iv 102, iv 97, iv 108, iv 115, iv 101, rv px, rv uF, iv 0, .unset] [(.int 101)]))
    refine Way.by (fun _ k => XS.bipush X.here hx rfl (hb hby at_214) k) ?_
    show Way _ _ _ _ (T.setTop (mkF m 216 #[iv p0, iv p1, iv p2, iv p3, iv p4, iv p5, iv z, iv 5, iv 102, iv 97, iv 108, iv 115, iv 101, rv px, rv uF, iv 0, .unset] [(.int 101), (.int 101)]))
    have b7 : (101 : Int32) = (101 : Int32) := by decide
    refine Way.by (fun _ k => XS.icmpNo X.here hx rfl (hb hby at_216) rfl (teq b7).2 k) ?_
    show Way _ _ _ _ (T.setTop (mkF m 219 #[iv p0, iv p1, iv p2, iv p3, iv p4, iv p5, iv z, iv 5, iv 102, iv 97, iv 108, iv 115, iv 101, rv px, rv uF, iv 0, .unset] []))
    refine Way.by (fun _ k => XS.iconst X.here hx rfl (hb hby at_219) k) ?_
    show Way _ _ _ _ (T.setTop (mkF m 220 #[iv p0, iv p1, iv p2, iv p3, iv p4, iv p5, iv z, iv 5, iv 102, iv 97, iv 108, iv 115, iv 101, rv px, rv uF, iv 0, .unset] [(.int 1)]))
    refine Way.by (fun _ k => XS.goto X.here hx rfl (pc0 := 220) (pc' := 224) rfl (hb hby at_220) (by decide) (by decide) k) ?_
    show Way _ _ _ _ (T.setTop (mkF m 224 #[iv p0, iv p1, iv p2, iv p3, iv p4, iv p5, iv z, iv 5, iv 102, iv 97, iv 108, iv 115, iv 101, rv px, rv uF, iv 0, .unset] [(.int 1)]))
    refine Way.by (fun _ k => XS.istore X.here hx rfl (hb hby at_224) rfl (l' := #[iv p0, iv p1, iv p2, iv p3, iv p4, iv p5, iv z, iv 5, iv 102, iv 97, iv 108, iv 115, iv 101, rv px, rv uF, iv 0, iv 1]) rfl k) ?_
    show Way _ _ _ _ (T.setTop (mkF m 226 #[iv p0, iv p1, iv p2, iv p3, iv p4, iv p5, iv z, iv 5, iv 102, iv 97, iv 108, iv 115, iv 101, rv px, rv uF, iv 0, iv 1] []))
    refine Way.by (fun _ k => XS.iload X.here hx rfl (hb hby at_226) rfl k) ?_
    show Way _ _ _ _ (T.setTop (mkF m 228 #[iv p0, iv p1, iv p2, iv p3, iv p4, iv p5, iv z, iv 5, iv 102, iv 97, iv 108, iv 115, iv 101, rv px, rv uF, iv 0, iv 1] [(.int 0)]))
    have b8 : (0 : Int32) = (0 : Int32) := by decide
    refine Way.by (fun _ k => XS.ifYes X.here hx rfl (pc0 := 228) (pc' := 250) rfl (hb hby at_228) rfl ((if0 .eq _).trans (teq b8).1) (by decide) (by decide) k) ?_
    show Way _ _ _ _ (T.setTop (mkF m 250 #[iv p0, iv p1, iv p2, iv p3, iv p4, iv p5, iv z, iv 5, iv 102, iv 97, iv 108, iv 115, iv 101, rv px, rv uF, iv 0, iv 1] []))
    refine Way.by (fun _ k => XS.iload X.here hx rfl (hb hby at_250) rfl k) ?_
    show Way _ _ _ _ (T.setTop (mkF m 252 #[iv p0, iv p1, iv p2, iv p3, iv p4, iv p5, iv z, iv 5, iv 102, iv 97, iv 108, iv 115, iv 101, rv px, rv uF, iv 0, iv 1] [(.int 1)]))
    have b9 : ¬ (1 : Int32) = (0 : Int32) := by decide
    refine Way.by (fun _ k => XS.ifNo X.here hx rfl (hb hby at_252) rfl ((if0 .eq _).trans (feq b9).1) k) ?_
    show Way _ _ _ _ (T.setTop (mkF m 255 #[iv p0, iv p1, iv p2, iv p3, iv p4, iv p5, iv z, iv 5, iv 102, iv 97, iv 108, iv 115, iv 101, rv px, rv uF, iv 0, iv 1] []))
    refine Way.by (fun _ k => XS.aload X.here hx rfl (hb hby at_255) rfl rfl k) ?_
    show Way _ _ _ _ (T.setTop (mkF m 257 #[iv p0, iv p1, iv p2, iv p3, iv p4, iv p5, iv z, iv 5, iv 102, iv 97, iv 108, iv 115, iv 101, rv px, rv uF, iv 0, iv 1] [(.ref uF)]))
    refine Way.by (fun _ k => XS.ifnullNo X.here hx rfl (hb hby at_257) rfl k) ?_
    show Way _ _ _ _ (T.setTop (mkF m 260 #[iv p0, iv p1, iv p2, iv p3, iv p4, iv p5, iv z, iv 5, iv 102, iv 97, iv 108, iv 115, iv 101, rv px, rv uF, iv 0, iv 1] []))
    refine Way.by (fun _ k => XS.aload X.here hx rfl (hb hby at_260) rfl rfl k) ?_
    show Way _ _ _ _ (T.setTop (mkF m 262 #[iv p0, iv p1, iv p2, iv p3, iv p4, iv p5, iv z, iv 5, iv 102, iv 97, iv 108, iv 115, iv 101, rv px, rv uF, iv 0, iv 1] [(.ref uF)]))
    have Eb10 := Exa.ext O.2 EF
    have Fb11 := Fld.ext O.2 FF
    obtain ⟨cq28, kq29, qa30, qb31, qc32⟩ := isOf hZ eT Eb10
    obtain ⟨_, _, ⟨T12, L14, k15, n16⟩, -, X13, ⟨Lc17, hQ18, l19, y20, z21⟩, st22⟩ := X.virtualBack hx (y := (⟨"java/lang/Boolean", "booleanValue", "()Z"⟩ : MethodName)) (z := (⟨"java/lang/Boolean", "booleanValue", "()Z"⟩ : MethodName)) hown (mvT hZ (tw hw 6 rfl)) (mvT hZ (tw hw 7 rfl)) (notFace_of_selects (args := #[]) (mvT hZ (tw hw 9 rfl))) (mvT hZ (tw hw 9 rfl)) (mvT hZ (tw hw 8 rfl)) (by decide) (backOf (W := 0) (rmBV0 l Z a0 hw [] uF h n0 Zh Fb11) hZ (tw hw 10 rfl) (tw hw 5 rfl) (by decide) (by decide)) qa30 qc32 (g := (mkF m 262 #[iv p0, iv p1, iv p2, iv p3, iv p4, iv p5, iv z, iv 5, iv 102, iv 97, iv 108, iv 115, iv 101, rv px, rv uF, iv 0, iv 1] [(.ref uF)])) rfl (by rw [hml]; rfl) (Steps.refl _) (argsL := []) (rest := []) (lenOf pdBV0 rfl) rfl (leW rfl) (hb hby at_262) (fun _ _ => ⟨rfl, eT, (leB rfl), (leB rfl)⟩)
    dsimp only [Pt.U, Pt.locs, Pt.cells, Pt.slots] at X13 l19 y20 z21 st22 hQ18
    subst y20 z21
    obtain ⟨rfl, N33, e24⟩ := hQ18
    have N23 : Fr n0 L14 := by rw [l19]; exact Fr.app N N33
    refine Way.to st22 ?_
    show Way _ _ _ _ (T12.setTop (mkF m 265 #[iv p0, iv p1, iv p2, iv p3, iv p4, iv p5, iv z, iv 5, iv 102, iv 97, iv 108, iv 115, iv 101, rv px, rv uF, iv 0, iv 1] [(.int 0)]))
    have b35 : (0 : Int32) = (0 : Int32) := by decide
    refine Way.by (fun _ k => XS.ifNo X13.here hx rfl (hb hby at_265) rfl ((if0 .ne _).trans (teq b35).2) k) ?_
    show Way _ _ _ _ (T12.setTop (mkF m 268 #[iv p0, iv p1, iv p2, iv p3, iv p4, iv p5, iv z, iv 5, iv 102, iv 97, iv 108, iv 115, iv 101, rv px, rv uF, iv 0, iv 1] []))
    refine Way.by (fun _ k => XS.iconst X13.here hx rfl (hb hby at_268) k) ?_
    show Way _ _ _ _ (T12.setTop (mkF m 269 #[iv p0, iv p1, iv p2, iv p3, iv p4, iv p5, iv z, iv 5, iv 102, iv 97, iv 108, iv 115, iv 101, rv px, rv uF, iv 0, iv 1] [(.int 1)]))
    refine Way.by (fun _ k => XS.goto X13.here hx rfl (pc0 := 269) (pc' := 273) rfl (hb hby at_269) (by decide) (by decide) k) ?_
    show Way _ _ _ _ (T12.setTop (mkF m 273 #[iv p0, iv p1, iv p2, iv p3, iv p4, iv p5, iv z, iv 5, iv 102, iv 97, iv 108, iv 115, iv 101, rv px, rv uF, iv 0, iv 1] [(.int 1)]))
    refine Way.retH (v := (some (.int (nar .boolean (1 : Int32))))) X13 hS (by rw [e24]; exact hk) hZ hEL hh e24 H CH hlk (fun h => by rw [Bd.returns] at h; cases h) (fun fs hr => retN X13 hx (t := .boolean) Bd.returns (by simp) (hb hby at_273) hr) ?_ (by decide) (by decide)
    show Q0 n0 _ T12.heap _
    rw [e24]
    exact ⟨rfl, N23⟩
  · skip
    rw [own_tfN hF hT]
    show Way _ _ _ _ (T.setTop (mkF m 137 #[iv p0, iv p1, iv p2, iv p3, iv p4, iv p5, iv z, iv 5, iv cc0, iv cc1, iv cc2, iv cc3, iv cc4, rv px, .val .null, .unset, .unset] []))
    refine Way.by (fun _ k => XS.iload X.here hx rfl (hb hby at_137) rfl k) ?_
    show Way _ _ _ _ (T.setTop (mkF m 139 #[iv p0, iv p1, iv p2, iv p3, iv p4, iv p5, iv z, iv 5, iv cc0, iv cc1, iv cc2, iv cc3, iv cc4, rv px, .val .null, .unset, .unset] [(.int 5)]))
    refine Way.by (fun _ k => XS.iconst X.here hx rfl (hb hby at_139) k) ?_
    show Way _ _ _ _ (T.setTop (mkF m 140 #[iv p0, iv p1, iv p2, iv p3, iv p4, iv p5, iv z, iv 5, iv cc0, iv cc1, iv cc2, iv cc3, iv cc4, rv px, .val .null, .unset, .unset] [(.int 4), (.int 5)]))
    have b36 : ¬ (5 : Int32) = (4 : Int32) := by decide
    refine Way.by (fun _ k => XS.icmpYes X.here hx rfl (pc0 := 140) (pc' := 175) rfl (hb hby at_140) rfl (feq b36).2 (by decide) (by decide) k) ?_
    show Way _ _ _ _ (T.setTop (mkF m 175 #[iv p0, iv p1, iv p2, iv p3, iv p4, iv p5, iv z, iv 5, iv cc0, iv cc1, iv cc2, iv cc3, iv cc4, rv px, .val .null, .unset, .unset] []))
    refine Way.by (fun _ k => XS.iconst X.here hx rfl (hb hby at_175) k) ?_
    show Way _ _ _ _ (T.setTop (mkF m 176 #[iv p0, iv p1, iv p2, iv p3, iv p4, iv p5, iv z, iv 5, iv cc0, iv cc1, iv cc2, iv cc3, iv cc4, rv px, .val .null, .unset, .unset] [(.int 0)]))
    refine Way.by (fun _ k => XS.istore X.here hx rfl (hb hby at_176) rfl (l' := #[iv p0, iv p1, iv p2, iv p3, iv p4, iv p5, iv z, iv 5, iv cc0, iv cc1, iv cc2, iv cc3, iv cc4, rv px, .val .null, iv 0, .unset]) rfl k) ?_
    show Way _ _ _ _ (T.setTop (mkF m 178 #[iv p0, iv p1, iv p2, iv p3, iv p4, iv p5, iv z, iv 5, iv cc0, iv cc1, iv cc2, iv cc3, iv cc4, rv px, .val .null, iv 0, .unset] []))
    refine Way.by (fun _ k => XS.iload X.here hx rfl (hb hby at_178) rfl k) ?_
    show Way _ _ _ _ (T.setTop (mkF m 180 #[iv p0, iv p1, iv p2, iv p3, iv p4, iv p5, iv z, iv 5, iv cc0, iv cc1, iv cc2, iv cc3, iv cc4, rv px, .val .null, iv 0, .unset] [(.int 5)]))
    refine Way.by (fun _ k => XS.iconst X.here hx rfl (hb hby at_180) k) ?_
    show Way _ _ _ _ (T.setTop (mkF m 181 #[iv p0, iv p1, iv p2, iv p3, iv p4, iv p5, iv z, iv 5, iv cc0, iv cc1, iv cc2, iv cc3, iv cc4, rv px, .val .null, iv 0, .unset] [(.int 5), (.int 5)]))
    have b37 : (5 : Int32) = (5 : Int32) := by decide
    refine Way.by (fun _ k => XS.icmpNo X.here hx rfl (hb hby at_181) rfl (teq b37).2 k) ?_
    show Way _ _ _ _ (T.setTop (mkF m 184 #[iv p0, iv p1, iv p2, iv p3, iv p4, iv p5, iv z, iv 5, iv cc0, iv cc1, iv cc2, iv cc3, iv cc4, rv px, .val .null, iv 0, .unset] []))
    refine Way.by (fun _ k => XS.iload X.here hx rfl (hb hby at_184) rfl k) ?_
    show Way _ _ _ _ (T.setTop (mkF m 186 #[iv p0, iv p1, iv p2, iv p3, iv p4, iv p5, iv z, iv 5, iv cc0, iv cc1, iv cc2, iv cc3, iv cc4, rv px, .val .null, iv 0, .unset] [(.int cc0)]))
    refine Way.by (fun _ k => XS.bipush X.here hx rfl (hb hby at_186) k) ?_
    show Way _ _ _ _ (T.setTop (mkF m 188 #[iv p0, iv p1, iv p2, iv p3, iv p4, iv p5, iv z, iv 5, iv cc0, iv cc1, iv cc2, iv cc3, iv cc4, rv px, .val .null, iv 0, .unset] [(.int 102), (.int cc0)]))
    by_cases hq188 : cc0 = (102 : Int32)
    · skip
      refine Way.by (fun _ k => XS.icmpNo X.here hx rfl (hb hby at_188) rfl (teq hq188).2 k) ?_
      show Way _ _ _ _ (T.setTop (mkF m 191 #[iv p0, iv p1, iv p2, iv p3, iv p4, iv p5, iv z, iv 5, iv cc0, iv cc1, iv cc2, iv cc3, iv cc4, rv px, .val .null, iv 0, .unset] []))
      refine Way.by (fun _ k => XS.iload X.here hx rfl (hb hby at_191) rfl k) ?_
      show Way _ _ _ _ (T.setTop (mkF m 193 #[iv p0, iv p1, iv p2, iv p3, iv p4, iv p5, iv z, iv 5, iv cc0, iv cc1, iv cc2, iv cc3, iv cc4, rv px, .val .null, iv 0, .unset] [(.int cc1)]))
      refine Way.by (fun _ k => XS.bipush X.here hx rfl (hb hby at_193) k) ?_
      show Way _ _ _ _ (T.setTop (mkF m 195 #[iv p0, iv p1, iv p2, iv p3, iv p4, iv p5, iv z, iv 5, iv cc0, iv cc1, iv cc2, iv cc3, iv cc4, rv px, .val .null, iv 0, .unset] [(.int 97), (.int cc1)]))
      by_cases hq195 : cc1 = (97 : Int32)
      · skip
        refine Way.by (fun _ k => XS.icmpNo X.here hx rfl (hb hby at_195) rfl (teq hq195).2 k) ?_
        show Way _ _ _ _ (T.setTop (mkF m 198 #[iv p0, iv p1, iv p2, iv p3, iv p4, iv p5, iv z, iv 5, iv cc0, iv cc1, iv cc2, iv cc3, iv cc4, rv px, .val .null, iv 0, .unset] []))
        refine Way.by (fun _ k => XS.iload X.here hx rfl (hb hby at_198) rfl k) ?_
        show Way _ _ _ _ (T.setTop (mkF m 200 #[iv p0, iv p1, iv p2, iv p3, iv p4, iv p5, iv z, iv 5, iv cc0, iv cc1, iv cc2, iv cc3, iv cc4, rv px, .val .null, iv 0, .unset] [(.int cc2)]))
        refine Way.by (fun _ k => XS.bipush X.here hx rfl (hb hby at_200) k) ?_
        show Way _ _ _ _ (T.setTop (mkF m 202 #[iv p0, iv p1, iv p2, iv p3, iv p4, iv p5, iv z, iv 5, iv cc0, iv cc1, iv cc2, iv cc3, iv cc4, rv px, .val .null, iv 0, .unset] [(.int 108), (.int cc2)]))
        by_cases hq202 : cc2 = (108 : Int32)
        · skip
          refine Way.by (fun _ k => XS.icmpNo X.here hx rfl (hb hby at_202) rfl (teq hq202).2 k) ?_
          show Way _ _ _ _ (T.setTop (mkF m 205 #[iv p0, iv p1, iv p2, iv p3, iv p4, iv p5, iv z, iv 5, iv cc0, iv cc1, iv cc2, iv cc3, iv cc4, rv px, .val .null, iv 0, .unset] []))
          refine Way.by (fun _ k => XS.iload X.here hx rfl (hb hby at_205) rfl k) ?_
          show Way _ _ _ _ (T.setTop (mkF m 207 #[iv p0, iv p1, iv p2, iv p3, iv p4, iv p5, iv z, iv 5, iv cc0, iv cc1, iv cc2, iv cc3, iv cc4, rv px, .val .null, iv 0, .unset] [(.int cc3)]))
          refine Way.by (fun _ k => XS.bipush X.here hx rfl (hb hby at_207) k) ?_
          show Way _ _ _ _ (T.setTop (mkF m 209 #[iv p0, iv p1, iv p2, iv p3, iv p4, iv p5, iv z, iv 5, iv cc0, iv cc1, iv cc2, iv cc3, iv cc4, rv px, .val .null, iv 0, .unset] [(.int 115), (.int cc3)]))
          by_cases hq209 : cc3 = (115 : Int32)
          · skip
            refine Way.by (fun _ k => XS.icmpNo X.here hx rfl (hb hby at_209) rfl (teq hq209).2 k) ?_
            show Way _ _ _ _ (T.setTop (mkF m 212 #[iv p0, iv p1, iv p2, iv p3, iv p4, iv p5, iv z, iv 5, iv cc0, iv cc1, iv cc2, iv cc3, iv cc4, rv px, .val .null, iv 0, .unset] []))
            refine Way.by (fun _ k => XS.iload X.here hx rfl (hb hby at_212) rfl k) ?_
            show Way _ _ _ _ (T.setTop (mkF m 214 #[iv p0, iv p1, iv p2, iv p3, iv p4, iv p5, iv z, iv 5, iv cc0, iv cc1, iv cc2, iv cc3, iv cc4, rv px, .val .null, iv 0, .unset] [(.int cc4)]))
            refine Way.by (fun _ k => XS.bipush X.here hx rfl (hb hby at_214) k) ?_
            show Way _ _ _ _ (T.setTop (mkF m 216 #[iv p0, iv p1, iv p2, iv p3, iv p4, iv p5, iv z, iv 5, iv cc0, iv cc1, iv cc2, iv cc3, iv cc4, rv px, .val .null, iv 0, .unset] [(.int 101), (.int cc4)]))
            by_cases hq216 : cc4 = (101 : Int32)
            · skip
              exact absurd (by rw [hq188, hq195, hq202, hq209, hq216]) hF
            · skip
              refine Way.by (fun _ k => XS.icmpYes X.here hx rfl (pc0 := 216) (pc' := 223) rfl (hb hby at_216) rfl (feq hq216).2 (by decide) (by decide) k) ?_
              show Way _ _ _ _ (T.setTop (mkF m 223 #[iv p0, iv p1, iv p2, iv p3, iv p4, iv p5, iv z, iv 5, iv cc0, iv cc1, iv cc2, iv cc3, iv cc4, rv px, .val .null, iv 0, .unset] []))
              refine Way.by (fun _ k => XS.iconst X.here hx rfl (hb hby at_223) k) ?_
              show Way _ _ _ _ (T.setTop (mkF m 224 #[iv p0, iv p1, iv p2, iv p3, iv p4, iv p5, iv z, iv 5, iv cc0, iv cc1, iv cc2, iv cc3, iv cc4, rv px, .val .null, iv 0, .unset] [(.int 0)]))
              refine Way.by (fun _ k => XS.istore X.here hx rfl (hb hby at_224) rfl (l' := #[iv p0, iv p1, iv p2, iv p3, iv p4, iv p5, iv z, iv 5, iv cc0, iv cc1, iv cc2, iv cc3, iv cc4, rv px, .val .null, iv 0, iv 0]) rfl k) ?_
              show Way _ _ _ _ (T.setTop (mkF m 226 #[iv p0, iv p1, iv p2, iv p3, iv p4, iv p5, iv z, iv 5, iv cc0, iv cc1, iv cc2, iv cc3, iv cc4, rv px, .val .null, iv 0, iv 0] []))
              refine Way.by (fun _ k => XS.iload X.here hx rfl (hb hby at_226) rfl k) ?_
              show Way _ _ _ _ (T.setTop (mkF m 228 #[iv p0, iv p1, iv p2, iv p3, iv p4, iv p5, iv z, iv 5, iv cc0, iv cc1, iv cc2, iv cc3, iv cc4, rv px, .val .null, iv 0, iv 0] [(.int 0)]))
              have b38 : (0 : Int32) = (0 : Int32) := by decide
              refine Way.by (fun _ k => XS.ifYes X.here hx rfl (pc0 := 228) (pc' := 250) rfl (hb hby at_228) rfl ((if0 .eq _).trans (teq b38).1) (by decide) (by decide) k) ?_
              show Way _ _ _ _ (T.setTop (mkF m 250 #[iv p0, iv p1, iv p2, iv p3, iv p4, iv p5, iv z, iv 5, iv cc0, iv cc1, iv cc2, iv cc3, iv cc4, rv px, .val .null, iv 0, iv 0] []))
              refine Way.by (fun _ k => XS.iload X.here hx rfl (hb hby at_250) rfl k) ?_
              show Way _ _ _ _ (T.setTop (mkF m 252 #[iv p0, iv p1, iv p2, iv p3, iv p4, iv p5, iv z, iv 5, iv cc0, iv cc1, iv cc2, iv cc3, iv cc4, rv px, .val .null, iv 0, iv 0] [(.int 0)]))
              have b39 : (0 : Int32) = (0 : Int32) := by decide
              refine Way.by (fun _ k => XS.ifYes X.here hx rfl (pc0 := 252) (pc' := 274) rfl (hb hby at_252) rfl ((if0 .eq _).trans (teq b39).1) (by decide) (by decide) k) ?_
              show Way _ _ _ _ (T.setTop (mkF m 274 #[iv p0, iv p1, iv p2, iv p3, iv p4, iv p5, iv z, iv 5, iv cc0, iv cc1, iv cc2, iv cc3, iv cc4, rv px, .val .null, iv 0, iv 0] []))
              refine Way.by (fun _ k => XS.aload X.here hx rfl (hb hby at_274) rfl rfl k) ?_
              show Way _ _ _ _ (T.setTop (mkF m 276 #[iv p0, iv p1, iv p2, iv p3, iv p4, iv p5, iv z, iv 5, iv cc0, iv cc1, iv cc2, iv cc3, iv cc4, rv px, .val .null, iv 0, iv 0] [.null]))
              refine Way.by (fun _ k => XT.ifnonnullNo X.here hx rfl (hb hby at_276) rfl k) ?_
              show Way _ _ _ _ (T.setTop (mkF m 279 #[iv p0, iv p1, iv p2, iv p3, iv p4, iv p5, iv z, iv 5, iv cc0, iv cc1, iv cc2, iv cc3, iv cc4, rv px, .val .null, iv 0, iv 0] []))
              refine Way.by (fun _ k => XS.iconst X.here hx rfl (hb hby at_279) k) ?_
              show Way _ _ _ _ (T.setTop (mkF m 280 #[iv p0, iv p1, iv p2, iv p3, iv p4, iv p5, iv z, iv 5, iv cc0, iv cc1, iv cc2, iv cc3, iv cc4, rv px, .val .null, iv 0, iv 0] [(.int 1)]))
              refine Way.by (fun _ k => XS.goto X.here hx rfl (pc0 := 280) (pc' := 284) rfl (hb hby at_280) (by decide) (by decide) k) ?_
              show Way _ _ _ _ (T.setTop (mkF m 284 #[iv p0, iv p1, iv p2, iv p3, iv p4, iv p5, iv z, iv 5, iv cc0, iv cc1, iv cc2, iv cc3, iv cc4, rv px, .val .null, iv 0, iv 0] [(.int 1)]))
              refine Way.retH (v := (some (.int (nar .boolean (1 : Int32))))) X hS (by rw [eT]; exact hk) hZ hEL hh eT H CH hlk (fun h => by rw [Bd.returns] at h; cases h) (fun fs hr => retN X hx (t := .boolean) Bd.returns (by simp) (hb hby at_284) hr) ?_ (by decide) (by decide)
              show Q0 n0 _ T.heap _
              rw [eT]
              exact ⟨rfl, N⟩
          · skip
            refine Way.by (fun _ k => XS.icmpYes X.here hx rfl (pc0 := 209) (pc' := 223) rfl (hb hby at_209) rfl (feq hq209).2 (by decide) (by decide) k) ?_
            show Way _ _ _ _ (T.setTop (mkF m 223 #[iv p0, iv p1, iv p2, iv p3, iv p4, iv p5, iv z, iv 5, iv cc0, iv cc1, iv cc2, iv cc3, iv cc4, rv px, .val .null, iv 0, .unset] []))
            refine Way.by (fun _ k => XS.iconst X.here hx rfl (hb hby at_223) k) ?_
            show Way _ _ _ _ (T.setTop (mkF m 224 #[iv p0, iv p1, iv p2, iv p3, iv p4, iv p5, iv z, iv 5, iv cc0, iv cc1, iv cc2, iv cc3, iv cc4, rv px, .val .null, iv 0, .unset] [(.int 0)]))
            refine Way.by (fun _ k => XS.istore X.here hx rfl (hb hby at_224) rfl (l' := #[iv p0, iv p1, iv p2, iv p3, iv p4, iv p5, iv z, iv 5, iv cc0, iv cc1, iv cc2, iv cc3, iv cc4, rv px, .val .null, iv 0, iv 0]) rfl k) ?_
            show Way _ _ _ _ (T.setTop (mkF m 226 #[iv p0, iv p1, iv p2, iv p3, iv p4, iv p5, iv z, iv 5, iv cc0, iv cc1, iv cc2, iv cc3, iv cc4, rv px, .val .null, iv 0, iv 0] []))
            refine Way.by (fun _ k => XS.iload X.here hx rfl (hb hby at_226) rfl k) ?_
            show Way _ _ _ _ (T.setTop (mkF m 228 #[iv p0, iv p1, iv p2, iv p3, iv p4, iv p5, iv z, iv 5, iv cc0, iv cc1, iv cc2, iv cc3, iv cc4, rv px, .val .null, iv 0, iv 0] [(.int 0)]))
            have b40 : (0 : Int32) = (0 : Int32) := by decide
            refine Way.by (fun _ k => XS.ifYes X.here hx rfl (pc0 := 228) (pc' := 250) rfl (hb hby at_228) rfl ((if0 .eq _).trans (teq b40).1) (by decide) (by decide) k) ?_
            show Way _ _ _ _ (T.setTop (mkF m 250 #[iv p0, iv p1, iv p2, iv p3, iv p4, iv p5, iv z, iv 5, iv cc0, iv cc1, iv cc2, iv cc3, iv cc4, rv px, .val .null, iv 0, iv 0] []))
            refine Way.by (fun _ k => XS.iload X.here hx rfl (hb hby at_250) rfl k) ?_
            show Way _ _ _ _ (T.setTop (mkF m 252 #[iv p0, iv p1, iv p2, iv p3, iv p4, iv p5, iv z, iv 5, iv cc0, iv cc1, iv cc2, iv cc3, iv cc4, rv px, .val .null, iv 0, iv 0] [(.int 0)]))
            have b41 : (0 : Int32) = (0 : Int32) := by decide
            refine Way.by (fun _ k => XS.ifYes X.here hx rfl (pc0 := 252) (pc' := 274) rfl (hb hby at_252) rfl ((if0 .eq _).trans (teq b41).1) (by decide) (by decide) k) ?_
            show Way _ _ _ _ (T.setTop (mkF m 274 #[iv p0, iv p1, iv p2, iv p3, iv p4, iv p5, iv z, iv 5, iv cc0, iv cc1, iv cc2, iv cc3, iv cc4, rv px, .val .null, iv 0, iv 0] []))
            refine Way.by (fun _ k => XS.aload X.here hx rfl (hb hby at_274) rfl rfl k) ?_
            show Way _ _ _ _ (T.setTop (mkF m 276 #[iv p0, iv p1, iv p2, iv p3, iv p4, iv p5, iv z, iv 5, iv cc0, iv cc1, iv cc2, iv cc3, iv cc4, rv px, .val .null, iv 0, iv 0] [.null]))
            refine Way.by (fun _ k => XT.ifnonnullNo X.here hx rfl (hb hby at_276) rfl k) ?_
            show Way _ _ _ _ (T.setTop (mkF m 279 #[iv p0, iv p1, iv p2, iv p3, iv p4, iv p5, iv z, iv 5, iv cc0, iv cc1, iv cc2, iv cc3, iv cc4, rv px, .val .null, iv 0, iv 0] []))
            refine Way.by (fun _ k => XS.iconst X.here hx rfl (hb hby at_279) k) ?_
            show Way _ _ _ _ (T.setTop (mkF m 280 #[iv p0, iv p1, iv p2, iv p3, iv p4, iv p5, iv z, iv 5, iv cc0, iv cc1, iv cc2, iv cc3, iv cc4, rv px, .val .null, iv 0, iv 0] [(.int 1)]))
            refine Way.by (fun _ k => XS.goto X.here hx rfl (pc0 := 280) (pc' := 284) rfl (hb hby at_280) (by decide) (by decide) k) ?_
            show Way _ _ _ _ (T.setTop (mkF m 284 #[iv p0, iv p1, iv p2, iv p3, iv p4, iv p5, iv z, iv 5, iv cc0, iv cc1, iv cc2, iv cc3, iv cc4, rv px, .val .null, iv 0, iv 0] [(.int 1)]))
            refine Way.retH (v := (some (.int (nar .boolean (1 : Int32))))) X hS (by rw [eT]; exact hk) hZ hEL hh eT H CH hlk (fun h => by rw [Bd.returns] at h; cases h) (fun fs hr => retN X hx (t := .boolean) Bd.returns (by simp) (hb hby at_284) hr) ?_ (by decide) (by decide)
            show Q0 n0 _ T.heap _
            rw [eT]
            exact ⟨rfl, N⟩
        · skip
          refine Way.by (fun _ k => XS.icmpYes X.here hx rfl (pc0 := 202) (pc' := 223) rfl (hb hby at_202) rfl (feq hq202).2 (by decide) (by decide) k) ?_
          show Way _ _ _ _ (T.setTop (mkF m 223 #[iv p0, iv p1, iv p2, iv p3, iv p4, iv p5, iv z, iv 5, iv cc0, iv cc1, iv cc2, iv cc3, iv cc4, rv px, .val .null, iv 0, .unset] []))
          refine Way.by (fun _ k => XS.iconst X.here hx rfl (hb hby at_223) k) ?_
          show Way _ _ _ _ (T.setTop (mkF m 224 #[iv p0, iv p1, iv p2, iv p3, iv p4, iv p5, iv z, iv 5, iv cc0, iv cc1, iv cc2, iv cc3, iv cc4, rv px, .val .null, iv 0, .unset] [(.int 0)]))
          refine Way.by (fun _ k => XS.istore X.here hx rfl (hb hby at_224) rfl (l' := #[iv p0, iv p1, iv p2, iv p3, iv p4, iv p5, iv z, iv 5, iv cc0, iv cc1, iv cc2, iv cc3, iv cc4, rv px, .val .null, iv 0, iv 0]) rfl k) ?_
          show Way _ _ _ _ (T.setTop (mkF m 226 #[iv p0, iv p1, iv p2, iv p3, iv p4, iv p5, iv z, iv 5, iv cc0, iv cc1, iv cc2, iv cc3, iv cc4, rv px, .val .null, iv 0, iv 0] []))
          refine Way.by (fun _ k => XS.iload X.here hx rfl (hb hby at_226) rfl k) ?_
          show Way _ _ _ _ (T.setTop (mkF m 228 #[iv p0, iv p1, iv p2, iv p3, iv p4, iv p5, iv z, iv 5, iv cc0, iv cc1, iv cc2, iv cc3, iv cc4, rv px, .val .null, iv 0, iv 0] [(.int 0)]))
          have b42 : (0 : Int32) = (0 : Int32) := by decide
          refine Way.by (fun _ k => XS.ifYes X.here hx rfl (pc0 := 228) (pc' := 250) rfl (hb hby at_228) rfl ((if0 .eq _).trans (teq b42).1) (by decide) (by decide) k) ?_
          show Way _ _ _ _ (T.setTop (mkF m 250 #[iv p0, iv p1, iv p2, iv p3, iv p4, iv p5, iv z, iv 5, iv cc0, iv cc1, iv cc2, iv cc3, iv cc4, rv px, .val .null, iv 0, iv 0] []))
          refine Way.by (fun _ k => XS.iload X.here hx rfl (hb hby at_250) rfl k) ?_
          show Way _ _ _ _ (T.setTop (mkF m 252 #[iv p0, iv p1, iv p2, iv p3, iv p4, iv p5, iv z, iv 5, iv cc0, iv cc1, iv cc2, iv cc3, iv cc4, rv px, .val .null, iv 0, iv 0] [(.int 0)]))
          have b43 : (0 : Int32) = (0 : Int32) := by decide
          refine Way.by (fun _ k => XS.ifYes X.here hx rfl (pc0 := 252) (pc' := 274) rfl (hb hby at_252) rfl ((if0 .eq _).trans (teq b43).1) (by decide) (by decide) k) ?_
          show Way _ _ _ _ (T.setTop (mkF m 274 #[iv p0, iv p1, iv p2, iv p3, iv p4, iv p5, iv z, iv 5, iv cc0, iv cc1, iv cc2, iv cc3, iv cc4, rv px, .val .null, iv 0, iv 0] []))
          refine Way.by (fun _ k => XS.aload X.here hx rfl (hb hby at_274) rfl rfl k) ?_
          show Way _ _ _ _ (T.setTop (mkF m 276 #[iv p0, iv p1, iv p2, iv p3, iv p4, iv p5, iv z, iv 5, iv cc0, iv cc1, iv cc2, iv cc3, iv cc4, rv px, .val .null, iv 0, iv 0] [.null]))
          refine Way.by (fun _ k => XT.ifnonnullNo X.here hx rfl (hb hby at_276) rfl k) ?_
          show Way _ _ _ _ (T.setTop (mkF m 279 #[iv p0, iv p1, iv p2, iv p3, iv p4, iv p5, iv z, iv 5, iv cc0, iv cc1, iv cc2, iv cc3, iv cc4, rv px, .val .null, iv 0, iv 0] []))
          refine Way.by (fun _ k => XS.iconst X.here hx rfl (hb hby at_279) k) ?_
          show Way _ _ _ _ (T.setTop (mkF m 280 #[iv p0, iv p1, iv p2, iv p3, iv p4, iv p5, iv z, iv 5, iv cc0, iv cc1, iv cc2, iv cc3, iv cc4, rv px, .val .null, iv 0, iv 0] [(.int 1)]))
          refine Way.by (fun _ k => XS.goto X.here hx rfl (pc0 := 280) (pc' := 284) rfl (hb hby at_280) (by decide) (by decide) k) ?_
          show Way _ _ _ _ (T.setTop (mkF m 284 #[iv p0, iv p1, iv p2, iv p3, iv p4, iv p5, iv z, iv 5, iv cc0, iv cc1, iv cc2, iv cc3, iv cc4, rv px, .val .null, iv 0, iv 0] [(.int 1)]))
          refine Way.retH (v := (some (.int (nar .boolean (1 : Int32))))) X hS (by rw [eT]; exact hk) hZ hEL hh eT H CH hlk (fun h => by rw [Bd.returns] at h; cases h) (fun fs hr => retN X hx (t := .boolean) Bd.returns (by simp) (hb hby at_284) hr) ?_ (by decide) (by decide)
          show Q0 n0 _ T.heap _
          rw [eT]
          exact ⟨rfl, N⟩
      · skip
        refine Way.by (fun _ k => XS.icmpYes X.here hx rfl (pc0 := 195) (pc' := 223) rfl (hb hby at_195) rfl (feq hq195).2 (by decide) (by decide) k) ?_
        show Way _ _ _ _ (T.setTop (mkF m 223 #[iv p0, iv p1, iv p2, iv p3, iv p4, iv p5, iv z, iv 5, iv cc0, iv cc1, iv cc2, iv cc3, iv cc4, rv px, .val .null, iv 0, .unset] []))
        refine Way.by (fun _ k => XS.iconst X.here hx rfl (hb hby at_223) k) ?_
        show Way _ _ _ _ (T.setTop (mkF m 224 #[iv p0, iv p1, iv p2, iv p3, iv p4, iv p5, iv z, iv 5, iv cc0, iv cc1, iv cc2, iv cc3, iv cc4, rv px, .val .null, iv 0, .unset] [(.int 0)]))
        refine Way.by (fun _ k => XS.istore X.here hx rfl (hb hby at_224) rfl (l' := #[iv p0, iv p1, iv p2, iv p3, iv p4, iv p5, iv z, iv 5, iv cc0, iv cc1, iv cc2, iv cc3, iv cc4, rv px, .val .null, iv 0, iv 0]) rfl k) ?_
        show Way _ _ _ _ (T.setTop (mkF m 226 #[iv p0, iv p1, iv p2, iv p3, iv p4, iv p5, iv z, iv 5, iv cc0, iv cc1, iv cc2, iv cc3, iv cc4, rv px, .val .null, iv 0, iv 0] []))
        refine Way.by (fun _ k => XS.iload X.here hx rfl (hb hby at_226) rfl k) ?_
        show Way _ _ _ _ (T.setTop (mkF m 228 #[iv p0, iv p1, iv p2, iv p3, iv p4, iv p5, iv z, iv 5, iv cc0, iv cc1, iv cc2, iv cc3, iv cc4, rv px, .val .null, iv 0, iv 0] [(.int 0)]))
        have b44 : (0 : Int32) = (0 : Int32) := by decide
        refine Way.by (fun _ k => XS.ifYes X.here hx rfl (pc0 := 228) (pc' := 250) rfl (hb hby at_228) rfl ((if0 .eq _).trans (teq b44).1) (by decide) (by decide) k) ?_
        show Way _ _ _ _ (T.setTop (mkF m 250 #[iv p0, iv p1, iv p2, iv p3, iv p4, iv p5, iv z, iv 5, iv cc0, iv cc1, iv cc2, iv cc3, iv cc4, rv px, .val .null, iv 0, iv 0] []))
        refine Way.by (fun _ k => XS.iload X.here hx rfl (hb hby at_250) rfl k) ?_
        show Way _ _ _ _ (T.setTop (mkF m 252 #[iv p0, iv p1, iv p2, iv p3, iv p4, iv p5, iv z, iv 5, iv cc0, iv cc1, iv cc2, iv cc3, iv cc4, rv px, .val .null, iv 0, iv 0] [(.int 0)]))
        have b45 : (0 : Int32) = (0 : Int32) := by decide
        refine Way.by (fun _ k => XS.ifYes X.here hx rfl (pc0 := 252) (pc' := 274) rfl (hb hby at_252) rfl ((if0 .eq _).trans (teq b45).1) (by decide) (by decide) k) ?_
        show Way _ _ _ _ (T.setTop (mkF m 274 #[iv p0, iv p1, iv p2, iv p3, iv p4, iv p5, iv z, iv 5, iv cc0, iv cc1, iv cc2, iv cc3, iv cc4, rv px, .val .null, iv 0, iv 0] []))
        refine Way.by (fun _ k => XS.aload X.here hx rfl (hb hby at_274) rfl rfl k) ?_
        show Way _ _ _ _ (T.setTop (mkF m 276 #[iv p0, iv p1, iv p2, iv p3, iv p4, iv p5, iv z, iv 5, iv cc0, iv cc1, iv cc2, iv cc3, iv cc4, rv px, .val .null, iv 0, iv 0] [.null]))
        refine Way.by (fun _ k => XT.ifnonnullNo X.here hx rfl (hb hby at_276) rfl k) ?_
        show Way _ _ _ _ (T.setTop (mkF m 279 #[iv p0, iv p1, iv p2, iv p3, iv p4, iv p5, iv z, iv 5, iv cc0, iv cc1, iv cc2, iv cc3, iv cc4, rv px, .val .null, iv 0, iv 0] []))
        refine Way.by (fun _ k => XS.iconst X.here hx rfl (hb hby at_279) k) ?_
        show Way _ _ _ _ (T.setTop (mkF m 280 #[iv p0, iv p1, iv p2, iv p3, iv p4, iv p5, iv z, iv 5, iv cc0, iv cc1, iv cc2, iv cc3, iv cc4, rv px, .val .null, iv 0, iv 0] [(.int 1)]))
        refine Way.by (fun _ k => XS.goto X.here hx rfl (pc0 := 280) (pc' := 284) rfl (hb hby at_280) (by decide) (by decide) k) ?_
        show Way _ _ _ _ (T.setTop (mkF m 284 #[iv p0, iv p1, iv p2, iv p3, iv p4, iv p5, iv z, iv 5, iv cc0, iv cc1, iv cc2, iv cc3, iv cc4, rv px, .val .null, iv 0, iv 0] [(.int 1)]))
        refine Way.retH (v := (some (.int (nar .boolean (1 : Int32))))) X hS (by rw [eT]; exact hk) hZ hEL hh eT H CH hlk (fun h => by rw [Bd.returns] at h; cases h) (fun fs hr => retN X hx (t := .boolean) Bd.returns (by simp) (hb hby at_284) hr) ?_ (by decide) (by decide)
        show Q0 n0 _ T.heap _
        rw [eT]
        exact ⟨rfl, N⟩
    · skip
      refine Way.by (fun _ k => XS.icmpYes X.here hx rfl (pc0 := 188) (pc' := 223) rfl (hb hby at_188) rfl (feq hq188).2 (by decide) (by decide) k) ?_
      show Way _ _ _ _ (T.setTop (mkF m 223 #[iv p0, iv p1, iv p2, iv p3, iv p4, iv p5, iv z, iv 5, iv cc0, iv cc1, iv cc2, iv cc3, iv cc4, rv px, .val .null, iv 0, .unset] []))
      refine Way.by (fun _ k => XS.iconst X.here hx rfl (hb hby at_223) k) ?_
      show Way _ _ _ _ (T.setTop (mkF m 224 #[iv p0, iv p1, iv p2, iv p3, iv p4, iv p5, iv z, iv 5, iv cc0, iv cc1, iv cc2, iv cc3, iv cc4, rv px, .val .null, iv 0, .unset] [(.int 0)]))
      refine Way.by (fun _ k => XS.istore X.here hx rfl (hb hby at_224) rfl (l' := #[iv p0, iv p1, iv p2, iv p3, iv p4, iv p5, iv z, iv 5, iv cc0, iv cc1, iv cc2, iv cc3, iv cc4, rv px, .val .null, iv 0, iv 0]) rfl k) ?_
      show Way _ _ _ _ (T.setTop (mkF m 226 #[iv p0, iv p1, iv p2, iv p3, iv p4, iv p5, iv z, iv 5, iv cc0, iv cc1, iv cc2, iv cc3, iv cc4, rv px, .val .null, iv 0, iv 0] []))
      refine Way.by (fun _ k => XS.iload X.here hx rfl (hb hby at_226) rfl k) ?_
      show Way _ _ _ _ (T.setTop (mkF m 228 #[iv p0, iv p1, iv p2, iv p3, iv p4, iv p5, iv z, iv 5, iv cc0, iv cc1, iv cc2, iv cc3, iv cc4, rv px, .val .null, iv 0, iv 0] [(.int 0)]))
      have b46 : (0 : Int32) = (0 : Int32) := by decide
      refine Way.by (fun _ k => XS.ifYes X.here hx rfl (pc0 := 228) (pc' := 250) rfl (hb hby at_228) rfl ((if0 .eq _).trans (teq b46).1) (by decide) (by decide) k) ?_
      show Way _ _ _ _ (T.setTop (mkF m 250 #[iv p0, iv p1, iv p2, iv p3, iv p4, iv p5, iv z, iv 5, iv cc0, iv cc1, iv cc2, iv cc3, iv cc4, rv px, .val .null, iv 0, iv 0] []))
      refine Way.by (fun _ k => XS.iload X.here hx rfl (hb hby at_250) rfl k) ?_
      show Way _ _ _ _ (T.setTop (mkF m 252 #[iv p0, iv p1, iv p2, iv p3, iv p4, iv p5, iv z, iv 5, iv cc0, iv cc1, iv cc2, iv cc3, iv cc4, rv px, .val .null, iv 0, iv 0] [(.int 0)]))
      have b47 : (0 : Int32) = (0 : Int32) := by decide
      refine Way.by (fun _ k => XS.ifYes X.here hx rfl (pc0 := 252) (pc' := 274) rfl (hb hby at_252) rfl ((if0 .eq _).trans (teq b47).1) (by decide) (by decide) k) ?_
      show Way _ _ _ _ (T.setTop (mkF m 274 #[iv p0, iv p1, iv p2, iv p3, iv p4, iv p5, iv z, iv 5, iv cc0, iv cc1, iv cc2, iv cc3, iv cc4, rv px, .val .null, iv 0, iv 0] []))
      refine Way.by (fun _ k => XS.aload X.here hx rfl (hb hby at_274) rfl rfl k) ?_
      show Way _ _ _ _ (T.setTop (mkF m 276 #[iv p0, iv p1, iv p2, iv p3, iv p4, iv p5, iv z, iv 5, iv cc0, iv cc1, iv cc2, iv cc3, iv cc4, rv px, .val .null, iv 0, iv 0] [.null]))
      refine Way.by (fun _ k => XT.ifnonnullNo X.here hx rfl (hb hby at_276) rfl k) ?_
      show Way _ _ _ _ (T.setTop (mkF m 279 #[iv p0, iv p1, iv p2, iv p3, iv p4, iv p5, iv z, iv 5, iv cc0, iv cc1, iv cc2, iv cc3, iv cc4, rv px, .val .null, iv 0, iv 0] []))
      refine Way.by (fun _ k => XS.iconst X.here hx rfl (hb hby at_279) k) ?_
      show Way _ _ _ _ (T.setTop (mkF m 280 #[iv p0, iv p1, iv p2, iv p3, iv p4, iv p5, iv z, iv 5, iv cc0, iv cc1, iv cc2, iv cc3, iv cc4, rv px, .val .null, iv 0, iv 0] [(.int 1)]))
      refine Way.by (fun _ k => XS.goto X.here hx rfl (pc0 := 280) (pc' := 284) rfl (hb hby at_280) (by decide) (by decide) k) ?_
      show Way _ _ _ _ (T.setTop (mkF m 284 #[iv p0, iv p1, iv p2, iv p3, iv p4, iv p5, iv z, iv 5, iv cc0, iv cc1, iv cc2, iv cc3, iv cc4, rv px, .val .null, iv 0, iv 0] [(.int 1)]))
      refine Way.retH (v := (some (.int (nar .boolean (1 : Int32))))) X hS (by rw [eT]; exact hk) hZ hEL hh eT H CH hlk (fun h => by rw [Bd.returns] at h; cases h) (fun fs hr => retN X hx (t := .boolean) Bd.returns (by simp) (hb hby at_284) hr) ?_ (by decide) (by decide)
      show Q0 n0 _ T.heap _
      rw [eT]
      exact ⟨rfl, N⟩
set_option maxRecDepth 65536 in
set_option maxHeartbeats 40000000 in
theorem seg48 (l : Launch) (Z : State) (a0 : Array Value) (hw : ∀ d ∈ tables_1, d.before a0 Z = true) (ws : List Jvm.Cond) (p0 p1 p2 p3 p4 p5 : Int32) (uF uT : Addr) (h0 : Heap) (n0 : Nat) (Z0 : n0 ≤ h0.size) (O0 : Old Z n0 h0) (SV : own_Env Z) (SF : Sta Z Z.heap "java/lang/Boolean" "FALSE" "Ljava/lang/Boolean;" (.ref uF)) (STR : Sta Z Z.heap "java/lang/Boolean" "TRUE" "Ljava/lang/Boolean;" (.ref uT)) (EF : Exa Z Z.heap uF "java/lang/Boolean") (FF : Fld Z Z.heap uF "java/lang/Boolean" "value" "Z" (.int 0)) (ET : Exa Z Z.heap uT "java/lang/Boolean") (FT : Fld Z Z.heap uT "java/lang/Boolean" "value" "Z" (.int 1))
    (p : Program) (e : Env) (s : State) (m : MethodId) (below : List Frame) (meth : Method) (c : Code) (s₁ : State) (Bd : BodyLoose p l x (head1 (Jvm.Cond.code x code maxLocals ret :: ws) room_1) code maxLocals ret e s m #[(.int p0), (.int p1), (.int p2), (.int p3), (.int p4), (.int p5)] below meth c s₁) (hml : c.maxLocals = 17)
    (vm0 : Vm) (hZ : Z.Warmed39 (s.setVm vm0).vm) (hown : (s.setVm vm0).vm.findClass "com/example/bare_orm/bareorm/MappingReaderTrueOrFalsePinLaw" = some m.cls) (k0 : Nat) (hS : s.Since vm0 k0) (hh : s.heap = h0)
    (T : State) (h : Heap) (locs : List Loc) (X : Stand p l e room_1 (s.setVm vm0) m #[(.int p0), (.int p1), (.int p2), (.int p3), (.int p4), (.int p5)] below meth c T locs 0 0) (eT : T.heap = h) (N : Fr n0 locs) (Zh : n0 ≤ h.size) (hk : k0 ≤ h.size) (H : CHv Z own_EL vm0 h) (CH : CHr Z own_EL s.vm h0 vm0 h) (O : Old Z n0 h) (z : Int32)  :
    Way p.tables e below (KQH s Z own_EL (Q0 n0) room_1.cells room_1.slots) (T.setTop (mkF m 48 #[iv p0, iv p1, iv p2, iv p3, iv p4, iv p5, iv z, .unset, .unset, .unset, .unset, .unset, .unset, .unset, .unset, .unset, .unset] [])) := by
  have hx := Bd.exec
  have hby := Bd.bytes
  have hlk : meth.locks = false := BodyLoose.notSynchronized Bd
  have hnm := (name_of_methodNamed Bd.named Bd.method).1
  have wS : ∀ d ∈ Bundle.stringAtoms, d.before a0 Z = true := fun d hd => hw d (own_wS d hd)
  have hEL : EW Z a0 own_EL := own_EW hw
  refine Way.by (fun _ k => XS.iloadN X.here hx rfl (hb hby at_48) rfl k) ?_
  show Way _ _ _ _ (T.setTop (mkF m 49 #[iv p0, iv p1, iv p2, iv p3, iv p4, iv p5, iv z, .unset, .unset, .unset, .unset, .unset, .unset, .unset, .unset, .unset, .unset] [(.int p0)]))
  refine Way.by (fun _ k => XS.iconst X.here hx rfl (hb hby at_49) k) ?_
  show Way _ _ _ _ (T.setTop (mkF m 50 #[iv p0, iv p1, iv p2, iv p3, iv p4, iv p5, iv z, .unset, .unset, .unset, .unset, .unset, .unset, .unset, .unset, .unset, .unset] [(.int 3), (.int p0)]))
  refine Way.by (fun _ k => XT.iushr X.here hx rfl (hb hby at_50) rfl k) ?_
  show Way _ _ _ _ (T.setTop (mkF m 51 #[iv p0, iv p1, iv p2, iv p3, iv p4, iv p5, iv z, .unset, .unset, .unset, .unset, .unset, .unset, .unset, .unset, .unset, .unset] [(.int (XT.ushr p0 (3 : Int32)))]))
  refine Way.by (fun _ k => XS.bipush X.here hx rfl (hb hby at_51) k) ?_
  show Way _ _ _ _ (T.setTop (mkF m 53 #[iv p0, iv p1, iv p2, iv p3, iv p4, iv p5, iv z, .unset, .unset, .unset, .unset, .unset, .unset, .unset, .unset, .unset, .unset] [(.int 7), (.int (XT.ushr p0 (3 : Int32)))]))
  refine Way.by (fun _ k => XS.iand X.here hx rfl (hb hby at_53) rfl k) ?_
  show Way _ _ _ _ (T.setTop (mkF m 54 #[iv p0, iv p1, iv p2, iv p3, iv p4, iv p5, iv z, .unset, .unset, .unset, .unset, .unset, .unset, .unset, .unset, .unset, .unset] [(.int ((XT.ushr p0 (3 : Int32)) &&& (7 : Int32)))]))
  refine Way.by (fun _ k => XS.bipush X.here hx rfl (hb hby at_54) k) ?_
  show Way _ _ _ _ (T.setTop (mkF m 56 #[iv p0, iv p1, iv p2, iv p3, iv p4, iv p5, iv z, .unset, .unset, .unset, .unset, .unset, .unset, .unset, .unset, .unset, .unset] [(.int 6), (.int ((XT.ushr p0 (3 : Int32)) &&& (7 : Int32)))]))
  refine Way.by (fun _ k => iremM X hx rfl (hb hby at_56) rfl (by decide) k) ?_
  show Way _ _ _ _ (T.setTop (mkF m 57 #[iv p0, iv p1, iv p2, iv p3, iv p4, iv p5, iv z, .unset, .unset, .unset, .unset, .unset, .unset, .unset, .unset, .unset, .unset] [(.int (((XT.ushr p0 (3 : Int32)) &&& (7 : Int32)) % (6 : Int32)))]))
  refine Way.by (fun _ k => XS.istore X.here hx rfl (hb hby at_57) rfl (l' := #[iv p0, iv p1, iv p2, iv p3, iv p4, iv p5, iv z, iv (((XT.ushr p0 (3 : Int32)) &&& (7 : Int32)) % (6 : Int32)), .unset, .unset, .unset, .unset, .unset, .unset, .unset, .unset, .unset]) rfl k) ?_
  show Way _ _ _ _ (T.setTop (mkF m 59 #[iv p0, iv p1, iv p2, iv p3, iv p4, iv p5, iv z, iv (((XT.ushr p0 (3 : Int32)) &&& (7 : Int32)) % (6 : Int32)), .unset, .unset, .unset, .unset, .unset, .unset, .unset, .unset, .unset] []))
  refine Way.by (fun _ k => XS.iloadN X.here hx rfl (hb hby at_59) rfl k) ?_
  show Way _ _ _ _ (T.setTop (mkF m 60 #[iv p0, iv p1, iv p2, iv p3, iv p4, iv p5, iv z, iv (((XT.ushr p0 (3 : Int32)) &&& (7 : Int32)) % (6 : Int32)), .unset, .unset, .unset, .unset, .unset, .unset, .unset, .unset, .unset] [(.int p1)]))
  refine Way.by (fun _ k => XS.iload X.here hx rfl (hb hby at_60) rfl k) ?_
  show Way _ _ _ _ (T.setTop (mkF m 62 #[iv p0, iv p1, iv p2, iv p3, iv p4, iv p5, iv z, iv (((XT.ushr p0 (3 : Int32)) &&& (7 : Int32)) % (6 : Int32)), .unset, .unset, .unset, .unset, .unset, .unset, .unset, .unset, .unset] [(.int z), (.int p1)]))
  refine Way.by (fun _ k => XS.iconst X.here hx rfl (hb hby at_62) k) ?_
  show Way _ _ _ _ (T.setTop (mkF m 63 #[iv p0, iv p1, iv p2, iv p3, iv p4, iv p5, iv z, iv (((XT.ushr p0 (3 : Int32)) &&& (7 : Int32)) % (6 : Int32)), .unset, .unset, .unset, .unset, .unset, .unset, .unset, .unset, .unset] [(.int 0), (.int z), (.int p1)]))
  obtain ⟨_, _, ⟨T1, L3, k4, n5⟩, -, X2, hS14, hg15, ⟨Lc6, hQ7, l8, y9, z10, hr16⟩, st11⟩ := callSS X hx (y := (⟨"com/example/bare_orm/bareorm/MappingReaderTrueOrFalsePinLaw", "pick", "(IZI)C"⟩ : MethodName)) hown (mvT hZ (tw hw 13 rfl)) (mvT hZ (tw hw 14 rfl)) (mvT hZ (tw hw 15 rfl)) (mvT hZ (tw hw 16 rfl)) (by decide) (backOfSH (W := 0) (rmPK l Z a0 hw [] p1 z 0 h n0 Zh (by decide) O SV) hZ (tw hw 16 rfl) (tw hw 15 rfl) (by decide) (by decide) hEL H) (g := (mkF m 63 #[iv p0, iv p1, iv p2, iv p3, iv p4, iv p5, iv z, iv (((XT.ushr p0 (3 : Int32)) &&& (7 : Int32)) % (6 : Int32)), .unset, .unset, .unset, .unset, .unset, .unset, .unset, .unset, .unset] [(.int 0), (.int z), (.int p1)])) rfl (by rw [hml]; rfl) (argsL := [(.int p1), (.int z), (.int 0)]) (rest := []) (lenOf pdPK rfl) rfl (leW rfl) (hb hby at_63) (fun _ _ => ⟨rfl, eT, (leB rfl), (leB rfl)⟩)
  dsimp only [Pt.U, Pt.locs, Pt.cells, Pt.slots] at X2 l8 y9 z10 st11 hQ7 hS14 hg15 hr16
  subst y9 z10
  obtain ⟨X17, hS18, hZ19, hown20⟩ := rebS hS (by rw [eT]; exact hk) X2 hS14 hg15 hZ hown
  obtain ⟨x_pv24, rfl, N21, K22, pu_OK23⟩ := hQ7
  have N12 : Fr n0 L3 := by rw [l8]; exact Fr.app N N21
  have H25 := hr16.1
  have CH26 := CH.trans hr16
  have Z28 := Nat.le_trans Zh K22.1
  have O29 := O.keep K22 all0
  refine Way.to st11 ?_
  show Way _ _ _ _ (T1.setTop (mkF m 66 #[iv p0, iv p1, iv p2, iv p3, iv p4, iv p5, iv z, iv (((XT.ushr p0 (3 : Int32)) &&& (7 : Int32)) % (6 : Int32)), .unset, .unset, .unset, .unset, .unset, .unset, .unset, .unset, .unset] [(.int x_pv24)]))
  refine Way.by (fun _ k => XS.istore X17.here hx rfl (hb hby at_66) rfl (l' := #[iv p0, iv p1, iv p2, iv p3, iv p4, iv p5, iv z, iv (((XT.ushr p0 (3 : Int32)) &&& (7 : Int32)) % (6 : Int32)), iv x_pv24, .unset, .unset, .unset, .unset, .unset, .unset, .unset, .unset]) rfl k) ?_
  show Way _ _ _ _ (T1.setTop (mkF m 68 #[iv p0, iv p1, iv p2, iv p3, iv p4, iv p5, iv z, iv (((XT.ushr p0 (3 : Int32)) &&& (7 : Int32)) % (6 : Int32)), iv x_pv24, .unset, .unset, .unset, .unset, .unset, .unset, .unset, .unset] []))
  refine Way.by (fun _ k => XS.iloadN X17.here hx rfl (hb hby at_68) rfl k) ?_
  show Way _ _ _ _ (T1.setTop (mkF m 69 #[iv p0, iv p1, iv p2, iv p3, iv p4, iv p5, iv z, iv (((XT.ushr p0 (3 : Int32)) &&& (7 : Int32)) % (6 : Int32)), iv x_pv24, .unset, .unset, .unset, .unset, .unset, .unset, .unset, .unset] [(.int p2)]))
  refine Way.by (fun _ k => XS.iload X17.here hx rfl (hb hby at_69) rfl k) ?_
  show Way _ _ _ _ (T1.setTop (mkF m 71 #[iv p0, iv p1, iv p2, iv p3, iv p4, iv p5, iv z, iv (((XT.ushr p0 (3 : Int32)) &&& (7 : Int32)) % (6 : Int32)), iv x_pv24, .unset, .unset, .unset, .unset, .unset, .unset, .unset, .unset] [(.int z), (.int p2)]))
  refine Way.by (fun _ k => XS.iconst X17.here hx rfl (hb hby at_71) k) ?_
  show Way _ _ _ _ (T1.setTop (mkF m 72 #[iv p0, iv p1, iv p2, iv p3, iv p4, iv p5, iv z, iv (((XT.ushr p0 (3 : Int32)) &&& (7 : Int32)) % (6 : Int32)), iv x_pv24, .unset, .unset, .unset, .unset, .unset, .unset, .unset, .unset] [(.int 1), (.int z), (.int p2)]))
  obtain ⟨_, _, ⟨T30, L32, k33, n34⟩, -, X31, hS43, hg44, ⟨Lc35, hQ36, l37, y38, z39, hr45⟩, st40⟩ := callSS X17 hx (y := (⟨"com/example/bare_orm/bareorm/MappingReaderTrueOrFalsePinLaw", "pick", "(IZI)C"⟩ : MethodName)) hown20 (mvT hZ19 (tw hw 13 rfl)) (mvT hZ19 (tw hw 14 rfl)) (mvT hZ19 (tw hw 15 rfl)) (mvT hZ19 (tw hw 16 rfl)) (by decide) (backOfSH (W := 0) (rmPK l Z a0 hw [] p2 z 1 T1.heap n0 Z28 (by decide) O29 SV) hZ19 (tw hw 16 rfl) (tw hw 15 rfl) (by decide) (by decide) hEL H25) (g := (mkF m 72 #[iv p0, iv p1, iv p2, iv p3, iv p4, iv p5, iv z, iv (((XT.ushr p0 (3 : Int32)) &&& (7 : Int32)) % (6 : Int32)), iv x_pv24, .unset, .unset, .unset, .unset, .unset, .unset, .unset, .unset] [(.int 1), (.int z), (.int p2)])) rfl (by rw [hml]; rfl) (argsL := [(.int p2), (.int z), (.int 1)]) (rest := []) (lenOf pdPK rfl) rfl (leW rfl) (hb hby at_72) (fun _ _ => ⟨rfl, rfl, (leB rfl), (leB rfl)⟩)
  dsimp only [Pt.U, Pt.locs, Pt.cells, Pt.slots] at X31 l37 y38 z39 st40 hQ36 hS43 hg44 hr45
  subst y38 z39
  obtain ⟨X46, hS47, hZ48, hown49⟩ := rebS hS18 (by exact (Nat.le_refl _)) X31 hS43 hg44 hZ19 hown20
  obtain ⟨x_pv53, rfl, N50, K51, pu_OK52⟩ := hQ36
  have N41 : Fr n0 L32 := by rw [l37]; exact Fr.app N12 N50
  have H54 := hr45.1
  have CH55 := CH26.trans hr45
  have Z57 := Nat.le_trans Z28 K51.1
  have O58 := O29.keep K51 all0
  refine Way.to st40 ?_
  show Way _ _ _ _ (T30.setTop (mkF m 75 #[iv p0, iv p1, iv p2, iv p3, iv p4, iv p5, iv z, iv (((XT.ushr p0 (3 : Int32)) &&& (7 : Int32)) % (6 : Int32)), iv x_pv24, .unset, .unset, .unset, .unset, .unset, .unset, .unset, .unset] [(.int x_pv53)]))
  refine Way.by (fun _ k => XS.istore X46.here hx rfl (hb hby at_75) rfl (l' := #[iv p0, iv p1, iv p2, iv p3, iv p4, iv p5, iv z, iv (((XT.ushr p0 (3 : Int32)) &&& (7 : Int32)) % (6 : Int32)), iv x_pv24, iv x_pv53, .unset, .unset, .unset, .unset, .unset, .unset, .unset]) rfl k) ?_
  show Way _ _ _ _ (T30.setTop (mkF m 77 #[iv p0, iv p1, iv p2, iv p3, iv p4, iv p5, iv z, iv (((XT.ushr p0 (3 : Int32)) &&& (7 : Int32)) % (6 : Int32)), iv x_pv24, iv x_pv53, .unset, .unset, .unset, .unset, .unset, .unset, .unset] []))
  refine Way.by (fun _ k => XS.iloadN X46.here hx rfl (hb hby at_77) rfl k) ?_
  show Way _ _ _ _ (T30.setTop (mkF m 78 #[iv p0, iv p1, iv p2, iv p3, iv p4, iv p5, iv z, iv (((XT.ushr p0 (3 : Int32)) &&& (7 : Int32)) % (6 : Int32)), iv x_pv24, iv x_pv53, .unset, .unset, .unset, .unset, .unset, .unset, .unset] [(.int p3)]))
  refine Way.by (fun _ k => XS.iload X46.here hx rfl (hb hby at_78) rfl k) ?_
  show Way _ _ _ _ (T30.setTop (mkF m 80 #[iv p0, iv p1, iv p2, iv p3, iv p4, iv p5, iv z, iv (((XT.ushr p0 (3 : Int32)) &&& (7 : Int32)) % (6 : Int32)), iv x_pv24, iv x_pv53, .unset, .unset, .unset, .unset, .unset, .unset, .unset] [(.int z), (.int p3)]))
  refine Way.by (fun _ k => XS.iconst X46.here hx rfl (hb hby at_80) k) ?_
  show Way _ _ _ _ (T30.setTop (mkF m 81 #[iv p0, iv p1, iv p2, iv p3, iv p4, iv p5, iv z, iv (((XT.ushr p0 (3 : Int32)) &&& (7 : Int32)) % (6 : Int32)), iv x_pv24, iv x_pv53, .unset, .unset, .unset, .unset, .unset, .unset, .unset] [(.int 2), (.int z), (.int p3)]))
  obtain ⟨_, _, ⟨T59, L61, k62, n63⟩, -, X60, hS72, hg73, ⟨Lc64, hQ65, l66, y67, z68, hr74⟩, st69⟩ := callSS X46 hx (y := (⟨"com/example/bare_orm/bareorm/MappingReaderTrueOrFalsePinLaw", "pick", "(IZI)C"⟩ : MethodName)) hown49 (mvT hZ48 (tw hw 13 rfl)) (mvT hZ48 (tw hw 14 rfl)) (mvT hZ48 (tw hw 15 rfl)) (mvT hZ48 (tw hw 16 rfl)) (by decide) (backOfSH (W := 0) (rmPK l Z a0 hw [] p3 z 2 T30.heap n0 Z57 (by decide) O58 SV) hZ48 (tw hw 16 rfl) (tw hw 15 rfl) (by decide) (by decide) hEL H54) (g := (mkF m 81 #[iv p0, iv p1, iv p2, iv p3, iv p4, iv p5, iv z, iv (((XT.ushr p0 (3 : Int32)) &&& (7 : Int32)) % (6 : Int32)), iv x_pv24, iv x_pv53, .unset, .unset, .unset, .unset, .unset, .unset, .unset] [(.int 2), (.int z), (.int p3)])) rfl (by rw [hml]; rfl) (argsL := [(.int p3), (.int z), (.int 2)]) (rest := []) (lenOf pdPK rfl) rfl (leW rfl) (hb hby at_81) (fun _ _ => ⟨rfl, rfl, (leB rfl), (leB rfl)⟩)
  dsimp only [Pt.U, Pt.locs, Pt.cells, Pt.slots] at X60 l66 y67 z68 st69 hQ65 hS72 hg73 hr74
  subst y67 z68
  obtain ⟨X75, hS76, hZ77, hown78⟩ := rebS hS47 (by exact (Nat.le_refl _)) X60 hS72 hg73 hZ48 hown49
  obtain ⟨x_pv82, rfl, N79, K80, pu_OK81⟩ := hQ65
  have N70 : Fr n0 L61 := by rw [l66]; exact Fr.app N41 N79
  have H83 := hr74.1
  have CH84 := CH55.trans hr74
  have Z86 := Nat.le_trans Z57 K80.1
  have O87 := O58.keep K80 all0
  refine Way.to st69 ?_
  show Way _ _ _ _ (T59.setTop (mkF m 84 #[iv p0, iv p1, iv p2, iv p3, iv p4, iv p5, iv z, iv (((XT.ushr p0 (3 : Int32)) &&& (7 : Int32)) % (6 : Int32)), iv x_pv24, iv x_pv53, .unset, .unset, .unset, .unset, .unset, .unset, .unset] [(.int x_pv82)]))
  refine Way.by (fun _ k => XS.istore X75.here hx rfl (hb hby at_84) rfl (l' := #[iv p0, iv p1, iv p2, iv p3, iv p4, iv p5, iv z, iv (((XT.ushr p0 (3 : Int32)) &&& (7 : Int32)) % (6 : Int32)), iv x_pv24, iv x_pv53, iv x_pv82, .unset, .unset, .unset, .unset, .unset, .unset]) rfl k) ?_
  show Way _ _ _ _ (T59.setTop (mkF m 86 #[iv p0, iv p1, iv p2, iv p3, iv p4, iv p5, iv z, iv (((XT.ushr p0 (3 : Int32)) &&& (7 : Int32)) % (6 : Int32)), iv x_pv24, iv x_pv53, iv x_pv82, .unset, .unset, .unset, .unset, .unset, .unset] []))
  refine Way.by (fun _ k => XS.iload X75.here hx rfl (hb hby at_86) rfl k) ?_
  show Way _ _ _ _ (T59.setTop (mkF m 88 #[iv p0, iv p1, iv p2, iv p3, iv p4, iv p5, iv z, iv (((XT.ushr p0 (3 : Int32)) &&& (7 : Int32)) % (6 : Int32)), iv x_pv24, iv x_pv53, iv x_pv82, .unset, .unset, .unset, .unset, .unset, .unset] [(.int p4)]))
  refine Way.by (fun _ k => XS.iload X75.here hx rfl (hb hby at_88) rfl k) ?_
  show Way _ _ _ _ (T59.setTop (mkF m 90 #[iv p0, iv p1, iv p2, iv p3, iv p4, iv p5, iv z, iv (((XT.ushr p0 (3 : Int32)) &&& (7 : Int32)) % (6 : Int32)), iv x_pv24, iv x_pv53, iv x_pv82, .unset, .unset, .unset, .unset, .unset, .unset] [(.int z), (.int p4)]))
  refine Way.by (fun _ k => XS.iconst X75.here hx rfl (hb hby at_90) k) ?_
  show Way _ _ _ _ (T59.setTop (mkF m 91 #[iv p0, iv p1, iv p2, iv p3, iv p4, iv p5, iv z, iv (((XT.ushr p0 (3 : Int32)) &&& (7 : Int32)) % (6 : Int32)), iv x_pv24, iv x_pv53, iv x_pv82, .unset, .unset, .unset, .unset, .unset, .unset] [(.int 3), (.int z), (.int p4)]))
  obtain ⟨_, _, ⟨T88, L90, k91, n92⟩, -, X89, hS101, hg102, ⟨Lc93, hQ94, l95, y96, z97, hr103⟩, st98⟩ := callSS X75 hx (y := (⟨"com/example/bare_orm/bareorm/MappingReaderTrueOrFalsePinLaw", "pick", "(IZI)C"⟩ : MethodName)) hown78 (mvT hZ77 (tw hw 13 rfl)) (mvT hZ77 (tw hw 14 rfl)) (mvT hZ77 (tw hw 15 rfl)) (mvT hZ77 (tw hw 16 rfl)) (by decide) (backOfSH (W := 0) (rmPK l Z a0 hw [] p4 z 3 T59.heap n0 Z86 (by decide) O87 SV) hZ77 (tw hw 16 rfl) (tw hw 15 rfl) (by decide) (by decide) hEL H83) (g := (mkF m 91 #[iv p0, iv p1, iv p2, iv p3, iv p4, iv p5, iv z, iv (((XT.ushr p0 (3 : Int32)) &&& (7 : Int32)) % (6 : Int32)), iv x_pv24, iv x_pv53, iv x_pv82, .unset, .unset, .unset, .unset, .unset, .unset] [(.int 3), (.int z), (.int p4)])) rfl (by rw [hml]; rfl) (argsL := [(.int p4), (.int z), (.int 3)]) (rest := []) (lenOf pdPK rfl) rfl (leW rfl) (hb hby at_91) (fun _ _ => ⟨rfl, rfl, (leB rfl), (leB rfl)⟩)
  dsimp only [Pt.U, Pt.locs, Pt.cells, Pt.slots] at X89 l95 y96 z97 st98 hQ94 hS101 hg102 hr103
  subst y96 z97
  obtain ⟨X104, hS105, hZ106, hown107⟩ := rebS hS76 (by exact (Nat.le_refl _)) X89 hS101 hg102 hZ77 hown78
  obtain ⟨x_pv111, rfl, N108, K109, pu_OK110⟩ := hQ94
  have N99 : Fr n0 L90 := by rw [l95]; exact Fr.app N70 N108
  have H112 := hr103.1
  have CH113 := CH84.trans hr103
  have Z115 := Nat.le_trans Z86 K109.1
  have O116 := O87.keep K109 all0
  refine Way.to st98 ?_
  show Way _ _ _ _ (T88.setTop (mkF m 94 #[iv p0, iv p1, iv p2, iv p3, iv p4, iv p5, iv z, iv (((XT.ushr p0 (3 : Int32)) &&& (7 : Int32)) % (6 : Int32)), iv x_pv24, iv x_pv53, iv x_pv82, .unset, .unset, .unset, .unset, .unset, .unset] [(.int x_pv111)]))
  refine Way.by (fun _ k => XS.istore X104.here hx rfl (hb hby at_94) rfl (l' := #[iv p0, iv p1, iv p2, iv p3, iv p4, iv p5, iv z, iv (((XT.ushr p0 (3 : Int32)) &&& (7 : Int32)) % (6 : Int32)), iv x_pv24, iv x_pv53, iv x_pv82, iv x_pv111, .unset, .unset, .unset, .unset, .unset]) rfl k) ?_
  show Way _ _ _ _ (T88.setTop (mkF m 96 #[iv p0, iv p1, iv p2, iv p3, iv p4, iv p5, iv z, iv (((XT.ushr p0 (3 : Int32)) &&& (7 : Int32)) % (6 : Int32)), iv x_pv24, iv x_pv53, iv x_pv82, iv x_pv111, .unset, .unset, .unset, .unset, .unset] []))
  refine Way.by (fun _ k => XS.iload X104.here hx rfl (hb hby at_96) rfl k) ?_
  show Way _ _ _ _ (T88.setTop (mkF m 98 #[iv p0, iv p1, iv p2, iv p3, iv p4, iv p5, iv z, iv (((XT.ushr p0 (3 : Int32)) &&& (7 : Int32)) % (6 : Int32)), iv x_pv24, iv x_pv53, iv x_pv82, iv x_pv111, .unset, .unset, .unset, .unset, .unset] [(.int p5)]))
  refine Way.by (fun _ k => XS.iload X104.here hx rfl (hb hby at_98) rfl k) ?_
  show Way _ _ _ _ (T88.setTop (mkF m 100 #[iv p0, iv p1, iv p2, iv p3, iv p4, iv p5, iv z, iv (((XT.ushr p0 (3 : Int32)) &&& (7 : Int32)) % (6 : Int32)), iv x_pv24, iv x_pv53, iv x_pv82, iv x_pv111, .unset, .unset, .unset, .unset, .unset] [(.int z), (.int p5)]))
  refine Way.by (fun _ k => XS.iconst X104.here hx rfl (hb hby at_100) k) ?_
  show Way _ _ _ _ (T88.setTop (mkF m 101 #[iv p0, iv p1, iv p2, iv p3, iv p4, iv p5, iv z, iv (((XT.ushr p0 (3 : Int32)) &&& (7 : Int32)) % (6 : Int32)), iv x_pv24, iv x_pv53, iv x_pv82, iv x_pv111, .unset, .unset, .unset, .unset, .unset] [(.int 4), (.int z), (.int p5)]))
  obtain ⟨_, _, ⟨T117, L119, k120, n121⟩, -, X118, hS130, hg131, ⟨Lc122, hQ123, l124, y125, z126, hr132⟩, st127⟩ := callSS X104 hx (y := (⟨"com/example/bare_orm/bareorm/MappingReaderTrueOrFalsePinLaw", "pick", "(IZI)C"⟩ : MethodName)) hown107 (mvT hZ106 (tw hw 13 rfl)) (mvT hZ106 (tw hw 14 rfl)) (mvT hZ106 (tw hw 15 rfl)) (mvT hZ106 (tw hw 16 rfl)) (by decide) (backOfSH (W := 0) (rmPK l Z a0 hw [] p5 z 4 T88.heap n0 Z115 (by decide) O116 SV) hZ106 (tw hw 16 rfl) (tw hw 15 rfl) (by decide) (by decide) hEL H112) (g := (mkF m 101 #[iv p0, iv p1, iv p2, iv p3, iv p4, iv p5, iv z, iv (((XT.ushr p0 (3 : Int32)) &&& (7 : Int32)) % (6 : Int32)), iv x_pv24, iv x_pv53, iv x_pv82, iv x_pv111, .unset, .unset, .unset, .unset, .unset] [(.int 4), (.int z), (.int p5)])) rfl (by rw [hml]; rfl) (argsL := [(.int p5), (.int z), (.int 4)]) (rest := []) (lenOf pdPK rfl) rfl (leW rfl) (hb hby at_101) (fun _ _ => ⟨rfl, rfl, (leB rfl), (leB rfl)⟩)
  dsimp only [Pt.U, Pt.locs, Pt.cells, Pt.slots] at X118 l124 y125 z126 st127 hQ123 hS130 hg131 hr132
  subst y125 z126
  obtain ⟨X133, hS134, hZ135, hown136⟩ := rebS hS105 (by exact (Nat.le_refl _)) X118 hS130 hg131 hZ106 hown107
  obtain ⟨x_pv140, rfl, N137, K138, pu_OK139⟩ := hQ123
  have N128 : Fr n0 L119 := by rw [l124]; exact Fr.app N99 N137
  have H141 := hr132.1
  have CH142 := CH113.trans hr132
  have Z144 := Nat.le_trans Z115 K138.1
  have O145 := O116.keep K138 all0
  refine Way.to st127 ?_
  show Way _ _ _ _ (T117.setTop (mkF m 104 #[iv p0, iv p1, iv p2, iv p3, iv p4, iv p5, iv z, iv (((XT.ushr p0 (3 : Int32)) &&& (7 : Int32)) % (6 : Int32)), iv x_pv24, iv x_pv53, iv x_pv82, iv x_pv111, .unset, .unset, .unset, .unset, .unset] [(.int x_pv140)]))
  refine Way.by (fun _ k => XS.istore X133.here hx rfl (hb hby at_104) rfl (l' := #[iv p0, iv p1, iv p2, iv p3, iv p4, iv p5, iv z, iv (((XT.ushr p0 (3 : Int32)) &&& (7 : Int32)) % (6 : Int32)), iv x_pv24, iv x_pv53, iv x_pv82, iv x_pv111, iv x_pv140, .unset, .unset, .unset, .unset]) rfl k) ?_
  show Way _ _ _ _ (T117.setTop (mkF m 106 #[iv p0, iv p1, iv p2, iv p3, iv p4, iv p5, iv z, iv (((XT.ushr p0 (3 : Int32)) &&& (7 : Int32)) % (6 : Int32)), iv x_pv24, iv x_pv53, iv x_pv82, iv x_pv111, iv x_pv140, .unset, .unset, .unset, .unset] []))
  obtain ⟨k, qk⟩ : ∃ y, y = (((XT.ushr p0 (3 : Int32)) &&& (7 : Int32)) % (6 : Int32)) := ⟨_, rfl⟩
  rw [← qk]
  have hk : 0 ≤ k.toInt ∧ k.toInt < 6 := by rw [qk]; exact rem7 _
  rcases cases6 hk with rfl | rfl | rfl | rfl | rfl | rfl
  · skip
    show Way _ _ _ _ (T117.setTop (mkF m 106 #[iv p0, iv p1, iv p2, iv p3, iv p4, iv p5, iv z, iv 0, iv x_pv24, iv x_pv53, iv x_pv82, iv x_pv111, iv x_pv140, .unset, .unset, .unset, .unset] []))
    obtain ⟨T146, h147, X148, e149, E150, A151, D152, -, st153⟩ := newO X133 hx hZ135 hown136 (tw hw 50 rfl) (tw hw 19 rfl) (tw hw 18 rfl) rfl (g := (mkF m 106 #[iv p0, iv p1, iv p2, iv p3, iv p4, iv p5, iv z, iv 0, iv x_pv24, iv x_pv53, iv x_pv82, iv x_pv111, iv x_pv140, .unset, .unset, .unset, .unset] [])) rfl (hb hby at_106) (by decide) (by decide)
    obtain ⟨a154, g155⟩ : ∃ z, z = T117.heap.size := ⟨_, rfl⟩
    rw [← g155] at A151 D152 st153
    have nw156 : n0 ≤ a154 := Nat.le_trans Z144 (Nat.le_of_eq g155.symm)
    have Sf157 : Safe Z own_EL T117.vm T117.heap a154 := Safe.new (Nat.le_of_eq g155.symm)
    have hr160 := CHr.ext E150 H141
    have Sf161 := Safe.ext E150 H141 Sf157
    have H158 := hr160.1
    have CH159 := CH142.trans hr160
    have Z162 := Nat.le_trans Z144 E150.1
    have hk163 := Nat.le_trans (Nat.le_refl _) E150.1
    have O164 := O145.ext E150
    have F165 : Fld Z h147 a154 "java/lang/String" "value" "[B" .null := D152 (Or.inr (tw hw 21 rfl)) (ty := (.array .byte)) (by decide)
    have F166 : Fld Z h147 a154 "java/lang/String" "coder" "B" (.int 0) := D152 (Or.inr (tw hw 22 rfl)) (ty := .byte) (by decide)
    refine Way.by st153 ?_
    show Way _ _ _ _ (T146.setTop (mkF m 109 #[iv p0, iv p1, iv p2, iv p3, iv p4, iv p5, iv z, iv 0, iv x_pv24, iv x_pv53, iv x_pv82, iv x_pv111, iv x_pv140, .unset, .unset, .unset, .unset] [(.ref a154)]))
    refine Way.by (fun _ k => XS.dup X148.here hx rfl (hb hby at_109) rfl rfl k) ?_
    show Way _ _ _ _ (T146.setTop (mkF m 110 #[iv p0, iv p1, iv p2, iv p3, iv p4, iv p5, iv z, iv 0, iv x_pv24, iv x_pv53, iv x_pv82, iv x_pv111, iv x_pv140, .unset, .unset, .unset, .unset] [(.ref a154), (.ref a154)]))
    refine Way.by (fun _ k => XS.iload X148.here hx rfl (hb hby at_110) rfl k) ?_
    show Way _ _ _ _ (T146.setTop (mkF m 112 #[iv p0, iv p1, iv p2, iv p3, iv p4, iv p5, iv z, iv 0, iv x_pv24, iv x_pv53, iv x_pv82, iv x_pv111, iv x_pv140, .unset, .unset, .unset, .unset] [(.int 0), (.ref a154), (.ref a154)]))
    refine Way.by (fun _ k => XS.iload X148.here hx rfl (hb hby at_112) rfl k) ?_
    show Way _ _ _ _ (T146.setTop (mkF m 114 #[iv p0, iv p1, iv p2, iv p3, iv p4, iv p5, iv z, iv 0, iv x_pv24, iv x_pv53, iv x_pv82, iv x_pv111, iv x_pv140, .unset, .unset, .unset, .unset] [(.int x_pv24), (.int 0), (.ref a154), (.ref a154)]))
    refine Way.by (fun _ k => XS.iload X148.here hx rfl (hb hby at_114) rfl k) ?_
    show Way _ _ _ _ (T146.setTop (mkF m 116 #[iv p0, iv p1, iv p2, iv p3, iv p4, iv p5, iv z, iv 0, iv x_pv24, iv x_pv53, iv x_pv82, iv x_pv111, iv x_pv140, .unset, .unset, .unset, .unset] [(.int x_pv53), (.int x_pv24), (.int 0), (.ref a154), (.ref a154)]))
    refine Way.by (fun _ k => XS.iload X148.here hx rfl (hb hby at_116) rfl k) ?_
    show Way _ _ _ _ (T146.setTop (mkF m 118 #[iv p0, iv p1, iv p2, iv p3, iv p4, iv p5, iv z, iv 0, iv x_pv24, iv x_pv53, iv x_pv82, iv x_pv111, iv x_pv140, .unset, .unset, .unset, .unset] [(.int x_pv82), (.int x_pv53), (.int x_pv24), (.int 0), (.ref a154), (.ref a154)]))
    refine Way.by (fun _ k => XS.iload X148.here hx rfl (hb hby at_118) rfl k) ?_
    show Way _ _ _ _ (T146.setTop (mkF m 120 #[iv p0, iv p1, iv p2, iv p3, iv p4, iv p5, iv z, iv 0, iv x_pv24, iv x_pv53, iv x_pv82, iv x_pv111, iv x_pv140, .unset, .unset, .unset, .unset] [(.int x_pv111), (.int x_pv82), (.int x_pv53), (.int x_pv24), (.int 0), (.ref a154), (.ref a154)]))
    refine Way.by (fun _ k => XS.iload X148.here hx rfl (hb hby at_120) rfl k) ?_
    show Way _ _ _ _ (T146.setTop (mkF m 122 #[iv p0, iv p1, iv p2, iv p3, iv p4, iv p5, iv z, iv 0, iv x_pv24, iv x_pv53, iv x_pv82, iv x_pv111, iv x_pv140, .unset, .unset, .unset, .unset] [(.int x_pv140), (.int x_pv111), (.int x_pv82), (.int x_pv53), (.int x_pv24), (.int 0), (.ref a154), (.ref a154)]))
    obtain ⟨_, _, ⟨T167, L169, k170, n171⟩, -, X168, ⟨Lc172, hQ173, l174, y175, z176⟩, st177⟩ := Jvm.LawKit.callS X148 hx (y := (⟨"com/example/bare_orm/bareorm/MappingReaderTrueOrFalsePinLaw", "chars", "(ICCCCC)[C"⟩ : MethodName)) hown136 (mvT hZ135 (tw hw 51 rfl)) (mvT hZ135 (tw hw 52 rfl)) (mvT hZ135 (tw hw 15 rfl)) (mvT hZ135 (tw hw 53 rfl)) (by decide) (backOf (W := 2) (rmCH0 l Z a0 hw [] x_pv24 x_pv53 x_pv82 x_pv111 x_pv140 h147 n0 Z162 pu_OK23 pu_OK52 pu_OK81 pu_OK110 pu_OK139) hZ135 (tw hw 53 rfl) (tw hw 15 rfl) (by decide) (by decide)) (g := (mkF m 122 #[iv p0, iv p1, iv p2, iv p3, iv p4, iv p5, iv z, iv 0, iv x_pv24, iv x_pv53, iv x_pv82, iv x_pv111, iv x_pv140, .unset, .unset, .unset, .unset] [(.int x_pv140), (.int x_pv111), (.int x_pv82), (.int x_pv53), (.int x_pv24), (.int 0), (.ref a154), (.ref a154)])) rfl (by rw [hml]; rfl) (argsL := [(.int 0), (.int x_pv24), (.int x_pv53), (.int x_pv82), (.int x_pv111), (.int x_pv140)]) (rest := [(.ref a154), (.ref a154)]) (lenOf pdCH0 rfl) rfl (leW rfl) (hb hby at_122) (fun _ _ => ⟨rfl, e149, (leB rfl), (leB rfl)⟩)
    dsimp only [Pt.U, Pt.locs, Pt.cells, Pt.slots] at X168 l174 y175 z176 st177 hQ173
    subst y175 z176
    obtain ⟨x_pe188, x_kk187, rfl, N183, K184, fr_pe186, F_0185⟩ := hQ173
    have N178 : Fr n0 L169 := by rw [l174]; exact Fr.app N128 N183
    have ne189 : a154 ≠ x_pe188 := Nat.ne_of_lt (Nat.lt_of_lt_of_le A151.lt fr_pe186)
    have nw190 : n0 ≤ x_pe188 := Nat.le_trans Z162 fr_pe186
    have Sf191 : Safe Z own_EL T117.vm h147 x_pe188 := Safe.new fr_pe186
    have hr194 := CHr.keep K184 sf0 H158
    have Sf195 := Safe.keep K184 sf0 H158 Sf161
    have Sf196 := Safe.keep K184 sf0 H158 Sf191
    have H192 := hr194.1
    have CH193 := CH159.trans hr194
    have E197 := A151.keep K184
    have F198 := F165.keep K184 nin0
    have F199 := F166.keep K184 nin0
    have Z200 := Nat.le_trans Z162 K184.1
    have hk201 := Nat.le_trans hk163 K184.1
    have O202 := O164.keep K184 all0
    refine Way.by st177 ?_
    show Way _ _ _ _ (T167.setTop (mkF m 125 #[iv p0, iv p1, iv p2, iv p3, iv p4, iv p5, iv z, iv 0, iv x_pv24, iv x_pv53, iv x_pv82, iv x_pv111, iv x_pv140, .unset, .unset, .unset, .unset] [(.ref x_pe188), (.ref a154), (.ref a154)]))
    obtain ⟨_, _, ⟨T203, L205, k206, n207⟩, -, X204, hS216, hg217, ⟨Lc208, hQ209, l210, y211, z212, hr218⟩, st213⟩ := X168.specialBackS hx (y := (⟨"java/lang/String", "<init>", "([C)V"⟩ : MethodName)) rfl hown136 (mvT hZ135 (tw hw 55 rfl)) (mvT hZ135 (tw hw 56 rfl)) (mvT hZ135 (tw hw 57 rfl)) (by decide) (backOfSH (W := 1) (rmN1 l Z a0 hw [] a154 x_pe188 x_kk187 T167.heap n0 Z200 E197 F198 F199 F_0185 ne189.symm nw156) hZ135 (tw hw 57 rfl) (tw hw 18 rfl) (by decide) (by decide) hEL H192) (g := (mkF m 125 #[iv p0, iv p1, iv p2, iv p3, iv p4, iv p5, iv z, iv 0, iv x_pv24, iv x_pv53, iv x_pv82, iv x_pv111, iv x_pv140, .unset, .unset, .unset, .unset] [(.ref x_pe188), (.ref a154), (.ref a154)])) rfl (by rw [hml]; rfl) (Steps.refl _) (a := a154) (argsL := [(.ref x_pe188)]) (rest := [(.ref a154)]) (lenOf pdN1 rfl) rfl (leW rfl) (hb hby at_125) (fun _ _ => ⟨rfl, rfl, (leB rfl), (leB rfl)⟩)
    dsimp only [Pt.U, Pt.locs, Pt.cells, Pt.slots] at X204 l210 y211 z212 st213 hQ209 hS216 hg217 hr218
    subst y211 z212
    obtain ⟨X219, hS220, hZ221, hown222⟩ := rebS hS134 (by exact hk201) X204 hS216 hg217 hZ135 hown136
    obtain ⟨x_pt226, rfl, N223, K224, F_0225⟩ := hQ209
    have N214 : Fr n0 L205 := by rw [l210]; exact Fr.app N178 N223
    have Sf230 := CHr.safe hr218 E197.lt Sf195
    have Sf231 := CHr.safe hr218 F_0185.lt Sf196
    have H227 := hr218.1
    have CH228 := CH193.trans hr218
    have E232 := E197.keep K224
    have A233 := F_0185.keep K224 (ninS ne189.symm nin0)
    have Z234 := Nat.le_trans Z200 K224.1
    have O235 := O202.keep K224 (allS nw156 all0)
    refine Way.to st213 ?_
    show Way _ _ _ _ (T203.setTop (mkF m 128 #[iv p0, iv p1, iv p2, iv p3, iv p4, iv p5, iv z, iv 0, iv x_pv24, iv x_pv53, iv x_pv82, iv x_pv111, iv x_pv140, .unset, .unset, .unset, .unset] [(.ref a154)]))
    refine Way.by (fun _ k => XS.astore X219.here hx rfl (hb hby at_128) rfl rfl (l' := #[iv p0, iv p1, iv p2, iv p3, iv p4, iv p5, iv z, iv 0, iv x_pv24, iv x_pv53, iv x_pv82, iv x_pv111, iv x_pv140, rv a154, .unset, .unset, .unset]) rfl k) ?_
    show Way _ _ _ _ (T203.setTop (mkF m 130 #[iv p0, iv p1, iv p2, iv p3, iv p4, iv p5, iv z, iv 0, iv x_pv24, iv x_pv53, iv x_pv82, iv x_pv111, iv x_pv140, rv a154, .unset, .unset, .unset] []))
    refine Way.by (fun _ k => XS.aload X219.here hx rfl (hb hby at_130) rfl rfl k) ?_
    show Way _ _ _ _ (T203.setTop (mkF m 132 #[iv p0, iv p1, iv p2, iv p3, iv p4, iv p5, iv z, iv 0, iv x_pv24, iv x_pv53, iv x_pv82, iv x_pv111, iv x_pv140, rv a154, .unset, .unset, .unset] [(.ref a154)]))
    obtain ⟨_, _, ⟨T236, L238, k239, n240⟩, -, X237, hS249, hg250, ⟨Lc241, hQ242, l243, y244, z245, hr251⟩, st246⟩ := callSS X219 hx (y := (⟨"com/example/bare_orm/bareorm/MappingReader", "trueOrFalse", "(Ljava/lang/String;)Ljava/lang/Boolean;"⟩ : MethodName)) hown222 (mvT hZ221 (tw hw 0 rfl)) (mvT hZ221 (tw hw 1 rfl)) (mvT hZ221 (tw hw 2 rfl)) (mvT hZ221 (tw hw 3 rfl)) (by decide) (backOfSH (W := 0) (rmTF l Z a0 hw [] a154 x_pt226 [] uF uT T203.heap n0 Z234 F_0225 O235 SV SF STR) hZ221 (tw hw 3 rfl) (tw hw 2 rfl) (by decide) (by decide) hEL H227) (g := (mkF m 132 #[iv p0, iv p1, iv p2, iv p3, iv p4, iv p5, iv z, iv 0, iv x_pv24, iv x_pv53, iv x_pv82, iv x_pv111, iv x_pv140, rv a154, .unset, .unset, .unset] [(.ref a154)])) rfl (by rw [hml]; rfl) (argsL := [(.ref a154)]) (rest := []) (lenOf pdTN rfl) rfl (leW rfl) (hb hby at_132) (fun _ _ => ⟨rfl, rfl, (leB rfl), (leB rfl)⟩)
    dsimp only [Pt.U, Pt.locs, Pt.cells, Pt.slots] at X237 l243 y244 z245 st246 hQ242 hS249 hg250 hr251
    subst y244 z245
    obtain ⟨X252, hS253, hZ254, hown255⟩ := rebS hS220 (by exact (Nat.le_refl _)) X237 hS249 hg250 hZ221 hown222
    obtain ⟨rfl, N256, K257⟩ := hQ242
    have N247 : Fr n0 L238 := by rw [l243]; exact Fr.app N214 N256
    have Sf261 := CHr.safe hr251 E232.lt Sf230
    have Sf262 := CHr.safe hr251 A233.lt Sf231
    have H258 := hr251.1
    have CH259 := CH228.trans hr251
    have E263 := E232.keep K257
    have A264 := A233.keep K257 nin0
    have S265 := F_0225.keep K257 nin0 nin0
    have Z266 := Nat.le_trans Z234 K257.1
    have O267 := O235.keep K257 all0
    refine Way.to st246 ?_
    show Way _ _ _ _ (T236.setTop (mkF m 135 #[iv p0, iv p1, iv p2, iv p3, iv p4, iv p5, iv z, iv 0, iv x_pv24, iv x_pv53, iv x_pv82, iv x_pv111, iv x_pv140, rv a154, .unset, .unset, .unset] [(own_tf [] uF uT)]))
    refine Way.by (fun _ k => XS.astoreS X252.here hx rfl (hb hby at_135) rfl own_tfref own_tfcat rfl (Or.inl rfl) k) ?_
    show Way _ _ _ _ (T236.setTop (mkF m 137 #[iv p0, iv p1, iv p2, iv p3, iv p4, iv p5, iv z, iv 0, iv x_pv24, iv x_pv53, iv x_pv82, iv x_pv111, iv x_pv140, rv a154, .val (own_tf [] uF uT), .unset, .unset] []))
    exact seg137n0 l Z a0 hw ws p0 p1 p2 p3 p4 p5 uF uT h0 n0 Z0 O0 SV SF STR EF FF ET FT p e s m below meth c s₁ Bd hml _ hZ254 hown255 _ hS253 hh T236 T236.heap _ (X252.mono (by decide) (by decide)) rfl N247 Z266 (Nat.le_refl _) H258 CH259 O267 z x_pv24 x_pv53 x_pv82 x_pv111 x_pv140 a154 
  · skip
    show Way _ _ _ _ (T117.setTop (mkF m 106 #[iv p0, iv p1, iv p2, iv p3, iv p4, iv p5, iv z, iv 1, iv x_pv24, iv x_pv53, iv x_pv82, iv x_pv111, iv x_pv140, .unset, .unset, .unset, .unset] []))
    obtain ⟨T268, h269, X270, e271, E272, A273, D274, -, st275⟩ := newO X133 hx hZ135 hown136 (tw hw 50 rfl) (tw hw 19 rfl) (tw hw 18 rfl) rfl (g := (mkF m 106 #[iv p0, iv p1, iv p2, iv p3, iv p4, iv p5, iv z, iv 1, iv x_pv24, iv x_pv53, iv x_pv82, iv x_pv111, iv x_pv140, .unset, .unset, .unset, .unset] [])) rfl (hb hby at_106) (by decide) (by decide)
    obtain ⟨a276, g277⟩ : ∃ z, z = T117.heap.size := ⟨_, rfl⟩
    rw [← g277] at A273 D274 st275
    have nw278 : n0 ≤ a276 := Nat.le_trans Z144 (Nat.le_of_eq g277.symm)
    have Sf279 : Safe Z own_EL T117.vm T117.heap a276 := Safe.new (Nat.le_of_eq g277.symm)
    have hr282 := CHr.ext E272 H141
    have Sf283 := Safe.ext E272 H141 Sf279
    have H280 := hr282.1
    have CH281 := CH142.trans hr282
    have Z284 := Nat.le_trans Z144 E272.1
    have hk285 := Nat.le_trans (Nat.le_refl _) E272.1
    have O286 := O145.ext E272
    have F287 : Fld Z h269 a276 "java/lang/String" "value" "[B" .null := D274 (Or.inr (tw hw 21 rfl)) (ty := (.array .byte)) (by decide)
    have F288 : Fld Z h269 a276 "java/lang/String" "coder" "B" (.int 0) := D274 (Or.inr (tw hw 22 rfl)) (ty := .byte) (by decide)
    refine Way.by st275 ?_
    show Way _ _ _ _ (T268.setTop (mkF m 109 #[iv p0, iv p1, iv p2, iv p3, iv p4, iv p5, iv z, iv 1, iv x_pv24, iv x_pv53, iv x_pv82, iv x_pv111, iv x_pv140, .unset, .unset, .unset, .unset] [(.ref a276)]))
    refine Way.by (fun _ k => XS.dup X270.here hx rfl (hb hby at_109) rfl rfl k) ?_
    show Way _ _ _ _ (T268.setTop (mkF m 110 #[iv p0, iv p1, iv p2, iv p3, iv p4, iv p5, iv z, iv 1, iv x_pv24, iv x_pv53, iv x_pv82, iv x_pv111, iv x_pv140, .unset, .unset, .unset, .unset] [(.ref a276), (.ref a276)]))
    refine Way.by (fun _ k => XS.iload X270.here hx rfl (hb hby at_110) rfl k) ?_
    show Way _ _ _ _ (T268.setTop (mkF m 112 #[iv p0, iv p1, iv p2, iv p3, iv p4, iv p5, iv z, iv 1, iv x_pv24, iv x_pv53, iv x_pv82, iv x_pv111, iv x_pv140, .unset, .unset, .unset, .unset] [(.int 1), (.ref a276), (.ref a276)]))
    refine Way.by (fun _ k => XS.iload X270.here hx rfl (hb hby at_112) rfl k) ?_
    show Way _ _ _ _ (T268.setTop (mkF m 114 #[iv p0, iv p1, iv p2, iv p3, iv p4, iv p5, iv z, iv 1, iv x_pv24, iv x_pv53, iv x_pv82, iv x_pv111, iv x_pv140, .unset, .unset, .unset, .unset] [(.int x_pv24), (.int 1), (.ref a276), (.ref a276)]))
    refine Way.by (fun _ k => XS.iload X270.here hx rfl (hb hby at_114) rfl k) ?_
    show Way _ _ _ _ (T268.setTop (mkF m 116 #[iv p0, iv p1, iv p2, iv p3, iv p4, iv p5, iv z, iv 1, iv x_pv24, iv x_pv53, iv x_pv82, iv x_pv111, iv x_pv140, .unset, .unset, .unset, .unset] [(.int x_pv53), (.int x_pv24), (.int 1), (.ref a276), (.ref a276)]))
    refine Way.by (fun _ k => XS.iload X270.here hx rfl (hb hby at_116) rfl k) ?_
    show Way _ _ _ _ (T268.setTop (mkF m 118 #[iv p0, iv p1, iv p2, iv p3, iv p4, iv p5, iv z, iv 1, iv x_pv24, iv x_pv53, iv x_pv82, iv x_pv111, iv x_pv140, .unset, .unset, .unset, .unset] [(.int x_pv82), (.int x_pv53), (.int x_pv24), (.int 1), (.ref a276), (.ref a276)]))
    refine Way.by (fun _ k => XS.iload X270.here hx rfl (hb hby at_118) rfl k) ?_
    show Way _ _ _ _ (T268.setTop (mkF m 120 #[iv p0, iv p1, iv p2, iv p3, iv p4, iv p5, iv z, iv 1, iv x_pv24, iv x_pv53, iv x_pv82, iv x_pv111, iv x_pv140, .unset, .unset, .unset, .unset] [(.int x_pv111), (.int x_pv82), (.int x_pv53), (.int x_pv24), (.int 1), (.ref a276), (.ref a276)]))
    refine Way.by (fun _ k => XS.iload X270.here hx rfl (hb hby at_120) rfl k) ?_
    show Way _ _ _ _ (T268.setTop (mkF m 122 #[iv p0, iv p1, iv p2, iv p3, iv p4, iv p5, iv z, iv 1, iv x_pv24, iv x_pv53, iv x_pv82, iv x_pv111, iv x_pv140, .unset, .unset, .unset, .unset] [(.int x_pv140), (.int x_pv111), (.int x_pv82), (.int x_pv53), (.int x_pv24), (.int 1), (.ref a276), (.ref a276)]))
    obtain ⟨_, _, ⟨T289, L291, k292, n293⟩, -, X290, ⟨Lc294, hQ295, l296, y297, z298⟩, st299⟩ := Jvm.LawKit.callS X270 hx (y := (⟨"com/example/bare_orm/bareorm/MappingReaderTrueOrFalsePinLaw", "chars", "(ICCCCC)[C"⟩ : MethodName)) hown136 (mvT hZ135 (tw hw 51 rfl)) (mvT hZ135 (tw hw 52 rfl)) (mvT hZ135 (tw hw 15 rfl)) (mvT hZ135 (tw hw 53 rfl)) (by decide) (backOf (W := 2) (rmCH1 l Z a0 hw [] x_pv24 x_pv53 x_pv82 x_pv111 x_pv140 h269 n0 Z284 pu_OK23 pu_OK52 pu_OK81 pu_OK110 pu_OK139) hZ135 (tw hw 53 rfl) (tw hw 15 rfl) (by decide) (by decide)) (g := (mkF m 122 #[iv p0, iv p1, iv p2, iv p3, iv p4, iv p5, iv z, iv 1, iv x_pv24, iv x_pv53, iv x_pv82, iv x_pv111, iv x_pv140, .unset, .unset, .unset, .unset] [(.int x_pv140), (.int x_pv111), (.int x_pv82), (.int x_pv53), (.int x_pv24), (.int 1), (.ref a276), (.ref a276)])) rfl (by rw [hml]; rfl) (argsL := [(.int 1), (.int x_pv24), (.int x_pv53), (.int x_pv82), (.int x_pv111), (.int x_pv140)]) (rest := [(.ref a276), (.ref a276)]) (lenOf pdCH0 rfl) rfl (leW rfl) (hb hby at_122) (fun _ _ => ⟨rfl, e271, (leB rfl), (leB rfl)⟩)
    dsimp only [Pt.U, Pt.locs, Pt.cells, Pt.slots] at X290 l296 y297 z298 st299 hQ295
    subst y297 z298
    obtain ⟨x_pe310, x_kk309, rfl, N305, K306, fr_pe308, F_0307⟩ := hQ295
    have N300 : Fr n0 L291 := by rw [l296]; exact Fr.app N128 N305
    have ne311 : a276 ≠ x_pe310 := Nat.ne_of_lt (Nat.lt_of_lt_of_le A273.lt fr_pe308)
    have nw312 : n0 ≤ x_pe310 := Nat.le_trans Z284 fr_pe308
    have Sf313 : Safe Z own_EL T117.vm h269 x_pe310 := Safe.new fr_pe308
    have hr316 := CHr.keep K306 sf0 H280
    have Sf317 := Safe.keep K306 sf0 H280 Sf283
    have Sf318 := Safe.keep K306 sf0 H280 Sf313
    have H314 := hr316.1
    have CH315 := CH281.trans hr316
    have E319 := A273.keep K306
    have F320 := F287.keep K306 nin0
    have F321 := F288.keep K306 nin0
    have Z322 := Nat.le_trans Z284 K306.1
    have hk323 := Nat.le_trans hk285 K306.1
    have O324 := O286.keep K306 all0
    refine Way.by st299 ?_
    show Way _ _ _ _ (T289.setTop (mkF m 125 #[iv p0, iv p1, iv p2, iv p3, iv p4, iv p5, iv z, iv 1, iv x_pv24, iv x_pv53, iv x_pv82, iv x_pv111, iv x_pv140, .unset, .unset, .unset, .unset] [(.ref x_pe310), (.ref a276), (.ref a276)]))
    have hp325 : ∀ c ∈ ([x_pv24] : List Int32), ¬ c < 0 ∧ ¬ (255 : Int32) < c := by intro c hc; simp only [List.mem_cons, List.not_mem_nil, or_false] at hc; rcases hc with rfl <;> assumption
    obtain ⟨_, _, ⟨T326, L328, k329, n330⟩, -, X327, ⟨Lc331, hQ332, l333, y334, z335⟩, st336⟩ := X290.specialBack hx (y := (⟨"java/lang/String", "<init>", "([C)V"⟩ : MethodName)) rfl hown136 (mvT hZ135 (tw hw 55 rfl)) (mvT hZ135 (tw hw 56 rfl)) (mvT hZ135 (tw hw 57 rfl)) (by decide) (own_new (W := 1) (n0 := n0) hZ135 hw SV O324 (cs := [x_pv24]) (n := 1) nw278 Z322 E319 F320 F321 F_0307 rfl rfl (by decide) (by decide) hp325 (by decide) (by decide)) (g := (mkF m 125 #[iv p0, iv p1, iv p2, iv p3, iv p4, iv p5, iv z, iv 1, iv x_pv24, iv x_pv53, iv x_pv82, iv x_pv111, iv x_pv140, .unset, .unset, .unset, .unset] [(.ref x_pe310), (.ref a276), (.ref a276)])) rfl (by rw [hml]; rfl) (Steps.refl _) (a := a276) (argsL := [(.ref x_pe310)]) (rest := [(.ref a276)]) (lenOf own_pdNew rfl) rfl (leW rfl) (hb hby at_125) (fun _ _ => ⟨rfl, rfl, (leB rfl), (leB rfl)⟩)
    dsimp only [Pt.U, Pt.locs, Pt.cells, Pt.slots] at X327 l333 y334 z335 st336 hQ332
    subst y334 z335
    obtain ⟨rfl, N342, K343, x_t346, fr_t345, F344⟩ := hQ332
    have N337 : Fr n0 L328 := by rw [l333]; exact Fr.app N300 N342
    have ne347 : a276 ≠ x_t346 := Nat.ne_of_lt (Nat.lt_of_lt_of_le E319.lt fr_t345)
    have ne348 : x_pe310 ≠ x_t346 := Nat.ne_of_lt (Nat.lt_of_lt_of_le F_0307.lt fr_t345)
    have nw349 : n0 ≤ x_t346 := Nat.le_trans Z322 fr_t345
    have Sf350 : Safe Z own_EL T117.vm T289.heap x_t346 := Safe.new fr_t345
    have hr353 := CHr.keep K343 (sfS Sf317 sf0) H314
    have Sf354 := Safe.keep K343 (sfS Sf317 sf0) H314 Sf317
    have Sf355 := Safe.keep K343 (sfS Sf317 sf0) H314 Sf318
    have Sf356 := Safe.keep K343 (sfS Sf317 sf0) H314 Sf350
    have H351 := hr353.1
    have CH352 := CH315.trans hr353
    have E357 := E319.keep K343
    have A358 := F_0307.keep K343 (ninS ne311.symm nin0)
    have Z359 := Nat.le_trans Z322 K343.1
    have hk360 := Nat.le_trans hk323 K343.1
    have O361 := O324.keep K343 (allS nw278 all0)
    refine Way.to st336 ?_
    show Way _ _ _ _ (T326.setTop (mkF m 128 #[iv p0, iv p1, iv p2, iv p3, iv p4, iv p5, iv z, iv 1, iv x_pv24, iv x_pv53, iv x_pv82, iv x_pv111, iv x_pv140, .unset, .unset, .unset, .unset] [(.ref a276)]))
    refine Way.by (fun _ k => XS.astore X327.here hx rfl (hb hby at_128) rfl rfl (l' := #[iv p0, iv p1, iv p2, iv p3, iv p4, iv p5, iv z, iv 1, iv x_pv24, iv x_pv53, iv x_pv82, iv x_pv111, iv x_pv140, rv a276, .unset, .unset, .unset]) rfl k) ?_
    show Way _ _ _ _ (T326.setTop (mkF m 130 #[iv p0, iv p1, iv p2, iv p3, iv p4, iv p5, iv z, iv 1, iv x_pv24, iv x_pv53, iv x_pv82, iv x_pv111, iv x_pv140, rv a276, .unset, .unset, .unset] []))
    refine Way.by (fun _ k => XS.aload X327.here hx rfl (hb hby at_130) rfl rfl k) ?_
    show Way _ _ _ _ (T326.setTop (mkF m 132 #[iv p0, iv p1, iv p2, iv p3, iv p4, iv p5, iv z, iv 1, iv x_pv24, iv x_pv53, iv x_pv82, iv x_pv111, iv x_pv140, rv a276, .unset, .unset, .unset] [(.ref a276)]))
    obtain ⟨_, _, ⟨T362, L364, k365, n366⟩, -, X363, hS375, hg376, ⟨Lc367, hQ368, l369, y370, z371, hr377⟩, st372⟩ := callSS X327 hx (y := (⟨"com/example/bare_orm/bareorm/MappingReader", "trueOrFalse", "(Ljava/lang/String;)Ljava/lang/Boolean;"⟩ : MethodName)) hown136 (mvT hZ135 (tw hw 0 rfl)) (mvT hZ135 (tw hw 1 rfl)) (mvT hZ135 (tw hw 2 rfl)) (mvT hZ135 (tw hw 3 rfl)) (by decide) (backOfSH (W := 0) (rmTF l Z a0 hw [] a276 x_t346 [x_pv24] uF uT T326.heap n0 Z359 F344 O361 SV SF STR) hZ135 (tw hw 3 rfl) (tw hw 2 rfl) (by decide) (by decide) hEL H351) (g := (mkF m 132 #[iv p0, iv p1, iv p2, iv p3, iv p4, iv p5, iv z, iv 1, iv x_pv24, iv x_pv53, iv x_pv82, iv x_pv111, iv x_pv140, rv a276, .unset, .unset, .unset] [(.ref a276)])) rfl (by rw [hml]; rfl) (argsL := [(.ref a276)]) (rest := []) (lenOf pdTN rfl) rfl (leW rfl) (hb hby at_132) (fun _ _ => ⟨rfl, rfl, (leB rfl), (leB rfl)⟩)
    dsimp only [Pt.U, Pt.locs, Pt.cells, Pt.slots] at X363 l369 y370 z371 st372 hQ368 hS375 hg376 hr377
    subst y370 z371
    obtain ⟨X378, hS379, hZ380, hown381⟩ := rebS hS134 (by exact hk360) X363 hS375 hg376 hZ135 hown136
    obtain ⟨rfl, N382, K383⟩ := hQ368
    have N373 : Fr n0 L364 := by rw [l369]; exact Fr.app N337 N382
    have Sf387 := CHr.safe hr377 E357.lt Sf354
    have Sf388 := CHr.safe hr377 A358.lt Sf355
    have Sf389 := CHr.safe hr377 F344.lt2 Sf356
    have H384 := hr377.1
    have CH385 := CH352.trans hr377
    have E390 := E357.keep K383
    have A391 := A358.keep K383 nin0
    have S392 := F344.keep K383 nin0 nin0
    have Z393 := Nat.le_trans Z359 K383.1
    have O394 := O361.keep K383 all0
    refine Way.to st372 ?_
    show Way _ _ _ _ (T362.setTop (mkF m 135 #[iv p0, iv p1, iv p2, iv p3, iv p4, iv p5, iv z, iv 1, iv x_pv24, iv x_pv53, iv x_pv82, iv x_pv111, iv x_pv140, rv a276, .unset, .unset, .unset] [(own_tf [x_pv24] uF uT)]))
    refine Way.by (fun _ k => XS.astoreS X378.here hx rfl (hb hby at_135) rfl own_tfref own_tfcat rfl (Or.inl rfl) k) ?_
    show Way _ _ _ _ (T362.setTop (mkF m 137 #[iv p0, iv p1, iv p2, iv p3, iv p4, iv p5, iv z, iv 1, iv x_pv24, iv x_pv53, iv x_pv82, iv x_pv111, iv x_pv140, rv a276, .val (own_tf [x_pv24] uF uT), .unset, .unset] []))
    exact seg137n1 l Z a0 hw ws p0 p1 p2 p3 p4 p5 uF uT h0 n0 Z0 O0 SV SF STR EF FF ET FT p e s m below meth c s₁ Bd hml _ hZ380 hown381 _ hS379 hh T362 T362.heap _ (X378.mono (by decide) (by decide)) rfl N373 Z393 (Nat.le_refl _) H384 CH385 O394 z x_pv24 x_pv53 x_pv82 x_pv111 x_pv140 a276 
  · skip
    show Way _ _ _ _ (T117.setTop (mkF m 106 #[iv p0, iv p1, iv p2, iv p3, iv p4, iv p5, iv z, iv 2, iv x_pv24, iv x_pv53, iv x_pv82, iv x_pv111, iv x_pv140, .unset, .unset, .unset, .unset] []))
    obtain ⟨T395, h396, X397, e398, E399, A400, D401, -, st402⟩ := newO X133 hx hZ135 hown136 (tw hw 50 rfl) (tw hw 19 rfl) (tw hw 18 rfl) rfl (g := (mkF m 106 #[iv p0, iv p1, iv p2, iv p3, iv p4, iv p5, iv z, iv 2, iv x_pv24, iv x_pv53, iv x_pv82, iv x_pv111, iv x_pv140, .unset, .unset, .unset, .unset] [])) rfl (hb hby at_106) (by decide) (by decide)
    obtain ⟨a403, g404⟩ : ∃ z, z = T117.heap.size := ⟨_, rfl⟩
    rw [← g404] at A400 D401 st402
    have nw405 : n0 ≤ a403 := Nat.le_trans Z144 (Nat.le_of_eq g404.symm)
    have Sf406 : Safe Z own_EL T117.vm T117.heap a403 := Safe.new (Nat.le_of_eq g404.symm)
    have hr409 := CHr.ext E399 H141
    have Sf410 := Safe.ext E399 H141 Sf406
    have H407 := hr409.1
    have CH408 := CH142.trans hr409
    have Z411 := Nat.le_trans Z144 E399.1
    have hk412 := Nat.le_trans (Nat.le_refl _) E399.1
    have O413 := O145.ext E399
    have F414 : Fld Z h396 a403 "java/lang/String" "value" "[B" .null := D401 (Or.inr (tw hw 21 rfl)) (ty := (.array .byte)) (by decide)
    have F415 : Fld Z h396 a403 "java/lang/String" "coder" "B" (.int 0) := D401 (Or.inr (tw hw 22 rfl)) (ty := .byte) (by decide)
    refine Way.by st402 ?_
    show Way _ _ _ _ (T395.setTop (mkF m 109 #[iv p0, iv p1, iv p2, iv p3, iv p4, iv p5, iv z, iv 2, iv x_pv24, iv x_pv53, iv x_pv82, iv x_pv111, iv x_pv140, .unset, .unset, .unset, .unset] [(.ref a403)]))
    refine Way.by (fun _ k => XS.dup X397.here hx rfl (hb hby at_109) rfl rfl k) ?_
    show Way _ _ _ _ (T395.setTop (mkF m 110 #[iv p0, iv p1, iv p2, iv p3, iv p4, iv p5, iv z, iv 2, iv x_pv24, iv x_pv53, iv x_pv82, iv x_pv111, iv x_pv140, .unset, .unset, .unset, .unset] [(.ref a403), (.ref a403)]))
    refine Way.by (fun _ k => XS.iload X397.here hx rfl (hb hby at_110) rfl k) ?_
    show Way _ _ _ _ (T395.setTop (mkF m 112 #[iv p0, iv p1, iv p2, iv p3, iv p4, iv p5, iv z, iv 2, iv x_pv24, iv x_pv53, iv x_pv82, iv x_pv111, iv x_pv140, .unset, .unset, .unset, .unset] [(.int 2), (.ref a403), (.ref a403)]))
    refine Way.by (fun _ k => XS.iload X397.here hx rfl (hb hby at_112) rfl k) ?_
    show Way _ _ _ _ (T395.setTop (mkF m 114 #[iv p0, iv p1, iv p2, iv p3, iv p4, iv p5, iv z, iv 2, iv x_pv24, iv x_pv53, iv x_pv82, iv x_pv111, iv x_pv140, .unset, .unset, .unset, .unset] [(.int x_pv24), (.int 2), (.ref a403), (.ref a403)]))
    refine Way.by (fun _ k => XS.iload X397.here hx rfl (hb hby at_114) rfl k) ?_
    show Way _ _ _ _ (T395.setTop (mkF m 116 #[iv p0, iv p1, iv p2, iv p3, iv p4, iv p5, iv z, iv 2, iv x_pv24, iv x_pv53, iv x_pv82, iv x_pv111, iv x_pv140, .unset, .unset, .unset, .unset] [(.int x_pv53), (.int x_pv24), (.int 2), (.ref a403), (.ref a403)]))
    refine Way.by (fun _ k => XS.iload X397.here hx rfl (hb hby at_116) rfl k) ?_
    show Way _ _ _ _ (T395.setTop (mkF m 118 #[iv p0, iv p1, iv p2, iv p3, iv p4, iv p5, iv z, iv 2, iv x_pv24, iv x_pv53, iv x_pv82, iv x_pv111, iv x_pv140, .unset, .unset, .unset, .unset] [(.int x_pv82), (.int x_pv53), (.int x_pv24), (.int 2), (.ref a403), (.ref a403)]))
    refine Way.by (fun _ k => XS.iload X397.here hx rfl (hb hby at_118) rfl k) ?_
    show Way _ _ _ _ (T395.setTop (mkF m 120 #[iv p0, iv p1, iv p2, iv p3, iv p4, iv p5, iv z, iv 2, iv x_pv24, iv x_pv53, iv x_pv82, iv x_pv111, iv x_pv140, .unset, .unset, .unset, .unset] [(.int x_pv111), (.int x_pv82), (.int x_pv53), (.int x_pv24), (.int 2), (.ref a403), (.ref a403)]))
    refine Way.by (fun _ k => XS.iload X397.here hx rfl (hb hby at_120) rfl k) ?_
    show Way _ _ _ _ (T395.setTop (mkF m 122 #[iv p0, iv p1, iv p2, iv p3, iv p4, iv p5, iv z, iv 2, iv x_pv24, iv x_pv53, iv x_pv82, iv x_pv111, iv x_pv140, .unset, .unset, .unset, .unset] [(.int x_pv140), (.int x_pv111), (.int x_pv82), (.int x_pv53), (.int x_pv24), (.int 2), (.ref a403), (.ref a403)]))
    obtain ⟨_, _, ⟨T416, L418, k419, n420⟩, -, X417, ⟨Lc421, hQ422, l423, y424, z425⟩, st426⟩ := Jvm.LawKit.callS X397 hx (y := (⟨"com/example/bare_orm/bareorm/MappingReaderTrueOrFalsePinLaw", "chars", "(ICCCCC)[C"⟩ : MethodName)) hown136 (mvT hZ135 (tw hw 51 rfl)) (mvT hZ135 (tw hw 52 rfl)) (mvT hZ135 (tw hw 15 rfl)) (mvT hZ135 (tw hw 53 rfl)) (by decide) (backOf (W := 2) (rmCH2 l Z a0 hw [] x_pv24 x_pv53 x_pv82 x_pv111 x_pv140 h396 n0 Z411 pu_OK23 pu_OK52 pu_OK81 pu_OK110 pu_OK139) hZ135 (tw hw 53 rfl) (tw hw 15 rfl) (by decide) (by decide)) (g := (mkF m 122 #[iv p0, iv p1, iv p2, iv p3, iv p4, iv p5, iv z, iv 2, iv x_pv24, iv x_pv53, iv x_pv82, iv x_pv111, iv x_pv140, .unset, .unset, .unset, .unset] [(.int x_pv140), (.int x_pv111), (.int x_pv82), (.int x_pv53), (.int x_pv24), (.int 2), (.ref a403), (.ref a403)])) rfl (by rw [hml]; rfl) (argsL := [(.int 2), (.int x_pv24), (.int x_pv53), (.int x_pv82), (.int x_pv111), (.int x_pv140)]) (rest := [(.ref a403), (.ref a403)]) (lenOf pdCH0 rfl) rfl (leW rfl) (hb hby at_122) (fun _ _ => ⟨rfl, e398, (leB rfl), (leB rfl)⟩)
    dsimp only [Pt.U, Pt.locs, Pt.cells, Pt.slots] at X417 l423 y424 z425 st426 hQ422
    subst y424 z425
    obtain ⟨x_pe437, x_kk436, rfl, N432, K433, fr_pe435, F_0434⟩ := hQ422
    have N427 : Fr n0 L418 := by rw [l423]; exact Fr.app N128 N432
    have ne438 : a403 ≠ x_pe437 := Nat.ne_of_lt (Nat.lt_of_lt_of_le A400.lt fr_pe435)
    have nw439 : n0 ≤ x_pe437 := Nat.le_trans Z411 fr_pe435
    have Sf440 : Safe Z own_EL T117.vm h396 x_pe437 := Safe.new fr_pe435
    have hr443 := CHr.keep K433 sf0 H407
    have Sf444 := Safe.keep K433 sf0 H407 Sf410
    have Sf445 := Safe.keep K433 sf0 H407 Sf440
    have H441 := hr443.1
    have CH442 := CH408.trans hr443
    have E446 := A400.keep K433
    have F447 := F414.keep K433 nin0
    have F448 := F415.keep K433 nin0
    have Z449 := Nat.le_trans Z411 K433.1
    have hk450 := Nat.le_trans hk412 K433.1
    have O451 := O413.keep K433 all0
    refine Way.by st426 ?_
    show Way _ _ _ _ (T416.setTop (mkF m 125 #[iv p0, iv p1, iv p2, iv p3, iv p4, iv p5, iv z, iv 2, iv x_pv24, iv x_pv53, iv x_pv82, iv x_pv111, iv x_pv140, .unset, .unset, .unset, .unset] [(.ref x_pe437), (.ref a403), (.ref a403)]))
    have hp452 : ∀ c ∈ ([x_pv24, x_pv53] : List Int32), ¬ c < 0 ∧ ¬ (255 : Int32) < c := by intro c hc; simp only [List.mem_cons, List.not_mem_nil, or_false] at hc; rcases hc with rfl | rfl <;> assumption
    obtain ⟨_, _, ⟨T453, L455, k456, n457⟩, -, X454, ⟨Lc458, hQ459, l460, y461, z462⟩, st463⟩ := X417.specialBack hx (y := (⟨"java/lang/String", "<init>", "([C)V"⟩ : MethodName)) rfl hown136 (mvT hZ135 (tw hw 55 rfl)) (mvT hZ135 (tw hw 56 rfl)) (mvT hZ135 (tw hw 57 rfl)) (by decide) (own_new (W := 1) (n0 := n0) hZ135 hw SV O451 (cs := [x_pv24, x_pv53]) (n := 2) nw405 Z449 E446 F447 F448 F_0434 rfl rfl (by decide) (by decide) hp452 (by decide) (by decide)) (g := (mkF m 125 #[iv p0, iv p1, iv p2, iv p3, iv p4, iv p5, iv z, iv 2, iv x_pv24, iv x_pv53, iv x_pv82, iv x_pv111, iv x_pv140, .unset, .unset, .unset, .unset] [(.ref x_pe437), (.ref a403), (.ref a403)])) rfl (by rw [hml]; rfl) (Steps.refl _) (a := a403) (argsL := [(.ref x_pe437)]) (rest := [(.ref a403)]) (lenOf own_pdNew rfl) rfl (leW rfl) (hb hby at_125) (fun _ _ => ⟨rfl, rfl, (leB rfl), (leB rfl)⟩)
    dsimp only [Pt.U, Pt.locs, Pt.cells, Pt.slots] at X454 l460 y461 z462 st463 hQ459
    subst y461 z462
    obtain ⟨rfl, N469, K470, x_t473, fr_t472, F471⟩ := hQ459
    have N464 : Fr n0 L455 := by rw [l460]; exact Fr.app N427 N469
    have ne474 : a403 ≠ x_t473 := Nat.ne_of_lt (Nat.lt_of_lt_of_le E446.lt fr_t472)
    have ne475 : x_pe437 ≠ x_t473 := Nat.ne_of_lt (Nat.lt_of_lt_of_le F_0434.lt fr_t472)
    have nw476 : n0 ≤ x_t473 := Nat.le_trans Z449 fr_t472
    have Sf477 : Safe Z own_EL T117.vm T416.heap x_t473 := Safe.new fr_t472
    have hr480 := CHr.keep K470 (sfS Sf444 sf0) H441
    have Sf481 := Safe.keep K470 (sfS Sf444 sf0) H441 Sf444
    have Sf482 := Safe.keep K470 (sfS Sf444 sf0) H441 Sf445
    have Sf483 := Safe.keep K470 (sfS Sf444 sf0) H441 Sf477
    have H478 := hr480.1
    have CH479 := CH442.trans hr480
    have E484 := E446.keep K470
    have A485 := F_0434.keep K470 (ninS ne438.symm nin0)
    have Z486 := Nat.le_trans Z449 K470.1
    have hk487 := Nat.le_trans hk450 K470.1
    have O488 := O451.keep K470 (allS nw405 all0)
    refine Way.to st463 ?_
    show Way _ _ _ _ (T453.setTop (mkF m 128 #[iv p0, iv p1, iv p2, iv p3, iv p4, iv p5, iv z, iv 2, iv x_pv24, iv x_pv53, iv x_pv82, iv x_pv111, iv x_pv140, .unset, .unset, .unset, .unset] [(.ref a403)]))
    refine Way.by (fun _ k => XS.astore X454.here hx rfl (hb hby at_128) rfl rfl (l' := #[iv p0, iv p1, iv p2, iv p3, iv p4, iv p5, iv z, iv 2, iv x_pv24, iv x_pv53, iv x_pv82, iv x_pv111, iv x_pv140, rv a403, .unset, .unset, .unset]) rfl k) ?_
    show Way _ _ _ _ (T453.setTop (mkF m 130 #[iv p0, iv p1, iv p2, iv p3, iv p4, iv p5, iv z, iv 2, iv x_pv24, iv x_pv53, iv x_pv82, iv x_pv111, iv x_pv140, rv a403, .unset, .unset, .unset] []))
    refine Way.by (fun _ k => XS.aload X454.here hx rfl (hb hby at_130) rfl rfl k) ?_
    show Way _ _ _ _ (T453.setTop (mkF m 132 #[iv p0, iv p1, iv p2, iv p3, iv p4, iv p5, iv z, iv 2, iv x_pv24, iv x_pv53, iv x_pv82, iv x_pv111, iv x_pv140, rv a403, .unset, .unset, .unset] [(.ref a403)]))
    obtain ⟨_, _, ⟨T489, L491, k492, n493⟩, -, X490, hS502, hg503, ⟨Lc494, hQ495, l496, y497, z498, hr504⟩, st499⟩ := callSS X454 hx (y := (⟨"com/example/bare_orm/bareorm/MappingReader", "trueOrFalse", "(Ljava/lang/String;)Ljava/lang/Boolean;"⟩ : MethodName)) hown136 (mvT hZ135 (tw hw 0 rfl)) (mvT hZ135 (tw hw 1 rfl)) (mvT hZ135 (tw hw 2 rfl)) (mvT hZ135 (tw hw 3 rfl)) (by decide) (backOfSH (W := 0) (rmTF l Z a0 hw [] a403 x_t473 [x_pv24, x_pv53] uF uT T453.heap n0 Z486 F471 O488 SV SF STR) hZ135 (tw hw 3 rfl) (tw hw 2 rfl) (by decide) (by decide) hEL H478) (g := (mkF m 132 #[iv p0, iv p1, iv p2, iv p3, iv p4, iv p5, iv z, iv 2, iv x_pv24, iv x_pv53, iv x_pv82, iv x_pv111, iv x_pv140, rv a403, .unset, .unset, .unset] [(.ref a403)])) rfl (by rw [hml]; rfl) (argsL := [(.ref a403)]) (rest := []) (lenOf pdTN rfl) rfl (leW rfl) (hb hby at_132) (fun _ _ => ⟨rfl, rfl, (leB rfl), (leB rfl)⟩)
    dsimp only [Pt.U, Pt.locs, Pt.cells, Pt.slots] at X490 l496 y497 z498 st499 hQ495 hS502 hg503 hr504
    subst y497 z498
    obtain ⟨X505, hS506, hZ507, hown508⟩ := rebS hS134 (by exact hk487) X490 hS502 hg503 hZ135 hown136
    obtain ⟨rfl, N509, K510⟩ := hQ495
    have N500 : Fr n0 L491 := by rw [l496]; exact Fr.app N464 N509
    have Sf514 := CHr.safe hr504 E484.lt Sf481
    have Sf515 := CHr.safe hr504 A485.lt Sf482
    have Sf516 := CHr.safe hr504 F471.lt2 Sf483
    have H511 := hr504.1
    have CH512 := CH479.trans hr504
    have E517 := E484.keep K510
    have A518 := A485.keep K510 nin0
    have S519 := F471.keep K510 nin0 nin0
    have Z520 := Nat.le_trans Z486 K510.1
    have O521 := O488.keep K510 all0
    refine Way.to st499 ?_
    show Way _ _ _ _ (T489.setTop (mkF m 135 #[iv p0, iv p1, iv p2, iv p3, iv p4, iv p5, iv z, iv 2, iv x_pv24, iv x_pv53, iv x_pv82, iv x_pv111, iv x_pv140, rv a403, .unset, .unset, .unset] [(own_tf [x_pv24, x_pv53] uF uT)]))
    refine Way.by (fun _ k => XS.astoreS X505.here hx rfl (hb hby at_135) rfl own_tfref own_tfcat rfl (Or.inl rfl) k) ?_
    show Way _ _ _ _ (T489.setTop (mkF m 137 #[iv p0, iv p1, iv p2, iv p3, iv p4, iv p5, iv z, iv 2, iv x_pv24, iv x_pv53, iv x_pv82, iv x_pv111, iv x_pv140, rv a403, .val (own_tf [x_pv24, x_pv53] uF uT), .unset, .unset] []))
    exact seg137n2 l Z a0 hw ws p0 p1 p2 p3 p4 p5 uF uT h0 n0 Z0 O0 SV SF STR EF FF ET FT p e s m below meth c s₁ Bd hml _ hZ507 hown508 _ hS506 hh T489 T489.heap _ (X505.mono (by decide) (by decide)) rfl N500 Z520 (Nat.le_refl _) H511 CH512 O521 z x_pv24 x_pv53 x_pv82 x_pv111 x_pv140 a403 
  · skip
    show Way _ _ _ _ (T117.setTop (mkF m 106 #[iv p0, iv p1, iv p2, iv p3, iv p4, iv p5, iv z, iv 3, iv x_pv24, iv x_pv53, iv x_pv82, iv x_pv111, iv x_pv140, .unset, .unset, .unset, .unset] []))
    obtain ⟨T522, h523, X524, e525, E526, A527, D528, -, st529⟩ := newO X133 hx hZ135 hown136 (tw hw 50 rfl) (tw hw 19 rfl) (tw hw 18 rfl) rfl (g := (mkF m 106 #[iv p0, iv p1, iv p2, iv p3, iv p4, iv p5, iv z, iv 3, iv x_pv24, iv x_pv53, iv x_pv82, iv x_pv111, iv x_pv140, .unset, .unset, .unset, .unset] [])) rfl (hb hby at_106) (by decide) (by decide)
    obtain ⟨a530, g531⟩ : ∃ z, z = T117.heap.size := ⟨_, rfl⟩
    rw [← g531] at A527 D528 st529
    have nw532 : n0 ≤ a530 := Nat.le_trans Z144 (Nat.le_of_eq g531.symm)
    have Sf533 : Safe Z own_EL T117.vm T117.heap a530 := Safe.new (Nat.le_of_eq g531.symm)
    have hr536 := CHr.ext E526 H141
    have Sf537 := Safe.ext E526 H141 Sf533
    have H534 := hr536.1
    have CH535 := CH142.trans hr536
    have Z538 := Nat.le_trans Z144 E526.1
    have hk539 := Nat.le_trans (Nat.le_refl _) E526.1
    have O540 := O145.ext E526
    have F541 : Fld Z h523 a530 "java/lang/String" "value" "[B" .null := D528 (Or.inr (tw hw 21 rfl)) (ty := (.array .byte)) (by decide)
    have F542 : Fld Z h523 a530 "java/lang/String" "coder" "B" (.int 0) := D528 (Or.inr (tw hw 22 rfl)) (ty := .byte) (by decide)
    refine Way.by st529 ?_
    show Way _ _ _ _ (T522.setTop (mkF m 109 #[iv p0, iv p1, iv p2, iv p3, iv p4, iv p5, iv z, iv 3, iv x_pv24, iv x_pv53, iv x_pv82, iv x_pv111, iv x_pv140, .unset, .unset, .unset, .unset] [(.ref a530)]))
    refine Way.by (fun _ k => XS.dup X524.here hx rfl (hb hby at_109) rfl rfl k) ?_
    show Way _ _ _ _ (T522.setTop (mkF m 110 #[iv p0, iv p1, iv p2, iv p3, iv p4, iv p5, iv z, iv 3, iv x_pv24, iv x_pv53, iv x_pv82, iv x_pv111, iv x_pv140, .unset, .unset, .unset, .unset] [(.ref a530), (.ref a530)]))
    refine Way.by (fun _ k => XS.iload X524.here hx rfl (hb hby at_110) rfl k) ?_
    show Way _ _ _ _ (T522.setTop (mkF m 112 #[iv p0, iv p1, iv p2, iv p3, iv p4, iv p5, iv z, iv 3, iv x_pv24, iv x_pv53, iv x_pv82, iv x_pv111, iv x_pv140, .unset, .unset, .unset, .unset] [(.int 3), (.ref a530), (.ref a530)]))
    refine Way.by (fun _ k => XS.iload X524.here hx rfl (hb hby at_112) rfl k) ?_
    show Way _ _ _ _ (T522.setTop (mkF m 114 #[iv p0, iv p1, iv p2, iv p3, iv p4, iv p5, iv z, iv 3, iv x_pv24, iv x_pv53, iv x_pv82, iv x_pv111, iv x_pv140, .unset, .unset, .unset, .unset] [(.int x_pv24), (.int 3), (.ref a530), (.ref a530)]))
    refine Way.by (fun _ k => XS.iload X524.here hx rfl (hb hby at_114) rfl k) ?_
    show Way _ _ _ _ (T522.setTop (mkF m 116 #[iv p0, iv p1, iv p2, iv p3, iv p4, iv p5, iv z, iv 3, iv x_pv24, iv x_pv53, iv x_pv82, iv x_pv111, iv x_pv140, .unset, .unset, .unset, .unset] [(.int x_pv53), (.int x_pv24), (.int 3), (.ref a530), (.ref a530)]))
    refine Way.by (fun _ k => XS.iload X524.here hx rfl (hb hby at_116) rfl k) ?_
    show Way _ _ _ _ (T522.setTop (mkF m 118 #[iv p0, iv p1, iv p2, iv p3, iv p4, iv p5, iv z, iv 3, iv x_pv24, iv x_pv53, iv x_pv82, iv x_pv111, iv x_pv140, .unset, .unset, .unset, .unset] [(.int x_pv82), (.int x_pv53), (.int x_pv24), (.int 3), (.ref a530), (.ref a530)]))
    refine Way.by (fun _ k => XS.iload X524.here hx rfl (hb hby at_118) rfl k) ?_
    show Way _ _ _ _ (T522.setTop (mkF m 120 #[iv p0, iv p1, iv p2, iv p3, iv p4, iv p5, iv z, iv 3, iv x_pv24, iv x_pv53, iv x_pv82, iv x_pv111, iv x_pv140, .unset, .unset, .unset, .unset] [(.int x_pv111), (.int x_pv82), (.int x_pv53), (.int x_pv24), (.int 3), (.ref a530), (.ref a530)]))
    refine Way.by (fun _ k => XS.iload X524.here hx rfl (hb hby at_120) rfl k) ?_
    show Way _ _ _ _ (T522.setTop (mkF m 122 #[iv p0, iv p1, iv p2, iv p3, iv p4, iv p5, iv z, iv 3, iv x_pv24, iv x_pv53, iv x_pv82, iv x_pv111, iv x_pv140, .unset, .unset, .unset, .unset] [(.int x_pv140), (.int x_pv111), (.int x_pv82), (.int x_pv53), (.int x_pv24), (.int 3), (.ref a530), (.ref a530)]))
    obtain ⟨_, _, ⟨T543, L545, k546, n547⟩, -, X544, ⟨Lc548, hQ549, l550, y551, z552⟩, st553⟩ := Jvm.LawKit.callS X524 hx (y := (⟨"com/example/bare_orm/bareorm/MappingReaderTrueOrFalsePinLaw", "chars", "(ICCCCC)[C"⟩ : MethodName)) hown136 (mvT hZ135 (tw hw 51 rfl)) (mvT hZ135 (tw hw 52 rfl)) (mvT hZ135 (tw hw 15 rfl)) (mvT hZ135 (tw hw 53 rfl)) (by decide) (backOf (W := 2) (rmCH3 l Z a0 hw [] x_pv24 x_pv53 x_pv82 x_pv111 x_pv140 h523 n0 Z538 pu_OK23 pu_OK52 pu_OK81 pu_OK110 pu_OK139) hZ135 (tw hw 53 rfl) (tw hw 15 rfl) (by decide) (by decide)) (g := (mkF m 122 #[iv p0, iv p1, iv p2, iv p3, iv p4, iv p5, iv z, iv 3, iv x_pv24, iv x_pv53, iv x_pv82, iv x_pv111, iv x_pv140, .unset, .unset, .unset, .unset] [(.int x_pv140), (.int x_pv111), (.int x_pv82), (.int x_pv53), (.int x_pv24), (.int 3), (.ref a530), (.ref a530)])) rfl (by rw [hml]; rfl) (argsL := [(.int 3), (.int x_pv24), (.int x_pv53), (.int x_pv82), (.int x_pv111), (.int x_pv140)]) (rest := [(.ref a530), (.ref a530)]) (lenOf pdCH0 rfl) rfl (leW rfl) (hb hby at_122) (fun _ _ => ⟨rfl, e525, (leB rfl), (leB rfl)⟩)
    dsimp only [Pt.U, Pt.locs, Pt.cells, Pt.slots] at X544 l550 y551 z552 st553 hQ549
    subst y551 z552
    obtain ⟨x_pe564, x_kk563, rfl, N559, K560, fr_pe562, F_0561⟩ := hQ549
    have N554 : Fr n0 L545 := by rw [l550]; exact Fr.app N128 N559
    have ne565 : a530 ≠ x_pe564 := Nat.ne_of_lt (Nat.lt_of_lt_of_le A527.lt fr_pe562)
    have nw566 : n0 ≤ x_pe564 := Nat.le_trans Z538 fr_pe562
    have Sf567 : Safe Z own_EL T117.vm h523 x_pe564 := Safe.new fr_pe562
    have hr570 := CHr.keep K560 sf0 H534
    have Sf571 := Safe.keep K560 sf0 H534 Sf537
    have Sf572 := Safe.keep K560 sf0 H534 Sf567
    have H568 := hr570.1
    have CH569 := CH535.trans hr570
    have E573 := A527.keep K560
    have F574 := F541.keep K560 nin0
    have F575 := F542.keep K560 nin0
    have Z576 := Nat.le_trans Z538 K560.1
    have hk577 := Nat.le_trans hk539 K560.1
    have O578 := O540.keep K560 all0
    refine Way.by st553 ?_
    show Way _ _ _ _ (T543.setTop (mkF m 125 #[iv p0, iv p1, iv p2, iv p3, iv p4, iv p5, iv z, iv 3, iv x_pv24, iv x_pv53, iv x_pv82, iv x_pv111, iv x_pv140, .unset, .unset, .unset, .unset] [(.ref x_pe564), (.ref a530), (.ref a530)]))
    have hp579 : ∀ c ∈ ([x_pv24, x_pv53, x_pv82] : List Int32), ¬ c < 0 ∧ ¬ (255 : Int32) < c := by intro c hc; simp only [List.mem_cons, List.not_mem_nil, or_false] at hc; rcases hc with rfl | rfl | rfl <;> assumption
    obtain ⟨_, _, ⟨T580, L582, k583, n584⟩, -, X581, ⟨Lc585, hQ586, l587, y588, z589⟩, st590⟩ := X544.specialBack hx (y := (⟨"java/lang/String", "<init>", "([C)V"⟩ : MethodName)) rfl hown136 (mvT hZ135 (tw hw 55 rfl)) (mvT hZ135 (tw hw 56 rfl)) (mvT hZ135 (tw hw 57 rfl)) (by decide) (own_new (W := 1) (n0 := n0) hZ135 hw SV O578 (cs := [x_pv24, x_pv53, x_pv82]) (n := 3) nw532 Z576 E573 F574 F575 F_0561 rfl rfl (by decide) (by decide) hp579 (by decide) (by decide)) (g := (mkF m 125 #[iv p0, iv p1, iv p2, iv p3, iv p4, iv p5, iv z, iv 3, iv x_pv24, iv x_pv53, iv x_pv82, iv x_pv111, iv x_pv140, .unset, .unset, .unset, .unset] [(.ref x_pe564), (.ref a530), (.ref a530)])) rfl (by rw [hml]; rfl) (Steps.refl _) (a := a530) (argsL := [(.ref x_pe564)]) (rest := [(.ref a530)]) (lenOf own_pdNew rfl) rfl (leW rfl) (hb hby at_125) (fun _ _ => ⟨rfl, rfl, (leB rfl), (leB rfl)⟩)
    dsimp only [Pt.U, Pt.locs, Pt.cells, Pt.slots] at X581 l587 y588 z589 st590 hQ586
    subst y588 z589
    obtain ⟨rfl, N596, K597, x_t600, fr_t599, F598⟩ := hQ586
    have N591 : Fr n0 L582 := by rw [l587]; exact Fr.app N554 N596
    have ne601 : a530 ≠ x_t600 := Nat.ne_of_lt (Nat.lt_of_lt_of_le E573.lt fr_t599)
    have ne602 : x_pe564 ≠ x_t600 := Nat.ne_of_lt (Nat.lt_of_lt_of_le F_0561.lt fr_t599)
    have nw603 : n0 ≤ x_t600 := Nat.le_trans Z576 fr_t599
    have Sf604 : Safe Z own_EL T117.vm T543.heap x_t600 := Safe.new fr_t599
    have hr607 := CHr.keep K597 (sfS Sf571 sf0) H568
    have Sf608 := Safe.keep K597 (sfS Sf571 sf0) H568 Sf571
    have Sf609 := Safe.keep K597 (sfS Sf571 sf0) H568 Sf572
    have Sf610 := Safe.keep K597 (sfS Sf571 sf0) H568 Sf604
    have H605 := hr607.1
    have CH606 := CH569.trans hr607
    have E611 := E573.keep K597
    have A612 := F_0561.keep K597 (ninS ne565.symm nin0)
    have Z613 := Nat.le_trans Z576 K597.1
    have hk614 := Nat.le_trans hk577 K597.1
    have O615 := O578.keep K597 (allS nw532 all0)
    refine Way.to st590 ?_
    show Way _ _ _ _ (T580.setTop (mkF m 128 #[iv p0, iv p1, iv p2, iv p3, iv p4, iv p5, iv z, iv 3, iv x_pv24, iv x_pv53, iv x_pv82, iv x_pv111, iv x_pv140, .unset, .unset, .unset, .unset] [(.ref a530)]))
    refine Way.by (fun _ k => XS.astore X581.here hx rfl (hb hby at_128) rfl rfl (l' := #[iv p0, iv p1, iv p2, iv p3, iv p4, iv p5, iv z, iv 3, iv x_pv24, iv x_pv53, iv x_pv82, iv x_pv111, iv x_pv140, rv a530, .unset, .unset, .unset]) rfl k) ?_
    show Way _ _ _ _ (T580.setTop (mkF m 130 #[iv p0, iv p1, iv p2, iv p3, iv p4, iv p5, iv z, iv 3, iv x_pv24, iv x_pv53, iv x_pv82, iv x_pv111, iv x_pv140, rv a530, .unset, .unset, .unset] []))
    refine Way.by (fun _ k => XS.aload X581.here hx rfl (hb hby at_130) rfl rfl k) ?_
    show Way _ _ _ _ (T580.setTop (mkF m 132 #[iv p0, iv p1, iv p2, iv p3, iv p4, iv p5, iv z, iv 3, iv x_pv24, iv x_pv53, iv x_pv82, iv x_pv111, iv x_pv140, rv a530, .unset, .unset, .unset] [(.ref a530)]))
    obtain ⟨_, _, ⟨T616, L618, k619, n620⟩, -, X617, hS629, hg630, ⟨Lc621, hQ622, l623, y624, z625, hr631⟩, st626⟩ := callSS X581 hx (y := (⟨"com/example/bare_orm/bareorm/MappingReader", "trueOrFalse", "(Ljava/lang/String;)Ljava/lang/Boolean;"⟩ : MethodName)) hown136 (mvT hZ135 (tw hw 0 rfl)) (mvT hZ135 (tw hw 1 rfl)) (mvT hZ135 (tw hw 2 rfl)) (mvT hZ135 (tw hw 3 rfl)) (by decide) (backOfSH (W := 0) (rmTF l Z a0 hw [] a530 x_t600 [x_pv24, x_pv53, x_pv82] uF uT T580.heap n0 Z613 F598 O615 SV SF STR) hZ135 (tw hw 3 rfl) (tw hw 2 rfl) (by decide) (by decide) hEL H605) (g := (mkF m 132 #[iv p0, iv p1, iv p2, iv p3, iv p4, iv p5, iv z, iv 3, iv x_pv24, iv x_pv53, iv x_pv82, iv x_pv111, iv x_pv140, rv a530, .unset, .unset, .unset] [(.ref a530)])) rfl (by rw [hml]; rfl) (argsL := [(.ref a530)]) (rest := []) (lenOf pdTN rfl) rfl (leW rfl) (hb hby at_132) (fun _ _ => ⟨rfl, rfl, (leB rfl), (leB rfl)⟩)
    dsimp only [Pt.U, Pt.locs, Pt.cells, Pt.slots] at X617 l623 y624 z625 st626 hQ622 hS629 hg630 hr631
    subst y624 z625
    obtain ⟨X632, hS633, hZ634, hown635⟩ := rebS hS134 (by exact hk614) X617 hS629 hg630 hZ135 hown136
    obtain ⟨rfl, N636, K637⟩ := hQ622
    have N627 : Fr n0 L618 := by rw [l623]; exact Fr.app N591 N636
    have Sf641 := CHr.safe hr631 E611.lt Sf608
    have Sf642 := CHr.safe hr631 A612.lt Sf609
    have Sf643 := CHr.safe hr631 F598.lt2 Sf610
    have H638 := hr631.1
    have CH639 := CH606.trans hr631
    have E644 := E611.keep K637
    have A645 := A612.keep K637 nin0
    have S646 := F598.keep K637 nin0 nin0
    have Z647 := Nat.le_trans Z613 K637.1
    have O648 := O615.keep K637 all0
    refine Way.to st626 ?_
    show Way _ _ _ _ (T616.setTop (mkF m 135 #[iv p0, iv p1, iv p2, iv p3, iv p4, iv p5, iv z, iv 3, iv x_pv24, iv x_pv53, iv x_pv82, iv x_pv111, iv x_pv140, rv a530, .unset, .unset, .unset] [(own_tf [x_pv24, x_pv53, x_pv82] uF uT)]))
    refine Way.by (fun _ k => XS.astoreS X632.here hx rfl (hb hby at_135) rfl own_tfref own_tfcat rfl (Or.inl rfl) k) ?_
    show Way _ _ _ _ (T616.setTop (mkF m 137 #[iv p0, iv p1, iv p2, iv p3, iv p4, iv p5, iv z, iv 3, iv x_pv24, iv x_pv53, iv x_pv82, iv x_pv111, iv x_pv140, rv a530, .val (own_tf [x_pv24, x_pv53, x_pv82] uF uT), .unset, .unset] []))
    exact seg137n3 l Z a0 hw ws p0 p1 p2 p3 p4 p5 uF uT h0 n0 Z0 O0 SV SF STR EF FF ET FT p e s m below meth c s₁ Bd hml _ hZ634 hown635 _ hS633 hh T616 T616.heap _ (X632.mono (by decide) (by decide)) rfl N627 Z647 (Nat.le_refl _) H638 CH639 O648 z x_pv24 x_pv53 x_pv82 x_pv111 x_pv140 a530 
  · skip
    show Way _ _ _ _ (T117.setTop (mkF m 106 #[iv p0, iv p1, iv p2, iv p3, iv p4, iv p5, iv z, iv 4, iv x_pv24, iv x_pv53, iv x_pv82, iv x_pv111, iv x_pv140, .unset, .unset, .unset, .unset] []))
    obtain ⟨T649, h650, X651, e652, E653, A654, D655, -, st656⟩ := newO X133 hx hZ135 hown136 (tw hw 50 rfl) (tw hw 19 rfl) (tw hw 18 rfl) rfl (g := (mkF m 106 #[iv p0, iv p1, iv p2, iv p3, iv p4, iv p5, iv z, iv 4, iv x_pv24, iv x_pv53, iv x_pv82, iv x_pv111, iv x_pv140, .unset, .unset, .unset, .unset] [])) rfl (hb hby at_106) (by decide) (by decide)
    obtain ⟨a657, g658⟩ : ∃ z, z = T117.heap.size := ⟨_, rfl⟩
    rw [← g658] at A654 D655 st656
    have nw659 : n0 ≤ a657 := Nat.le_trans Z144 (Nat.le_of_eq g658.symm)
    have Sf660 : Safe Z own_EL T117.vm T117.heap a657 := Safe.new (Nat.le_of_eq g658.symm)
    have hr663 := CHr.ext E653 H141
    have Sf664 := Safe.ext E653 H141 Sf660
    have H661 := hr663.1
    have CH662 := CH142.trans hr663
    have Z665 := Nat.le_trans Z144 E653.1
    have hk666 := Nat.le_trans (Nat.le_refl _) E653.1
    have O667 := O145.ext E653
    have F668 : Fld Z h650 a657 "java/lang/String" "value" "[B" .null := D655 (Or.inr (tw hw 21 rfl)) (ty := (.array .byte)) (by decide)
    have F669 : Fld Z h650 a657 "java/lang/String" "coder" "B" (.int 0) := D655 (Or.inr (tw hw 22 rfl)) (ty := .byte) (by decide)
    refine Way.by st656 ?_
    show Way _ _ _ _ (T649.setTop (mkF m 109 #[iv p0, iv p1, iv p2, iv p3, iv p4, iv p5, iv z, iv 4, iv x_pv24, iv x_pv53, iv x_pv82, iv x_pv111, iv x_pv140, .unset, .unset, .unset, .unset] [(.ref a657)]))
    refine Way.by (fun _ k => XS.dup X651.here hx rfl (hb hby at_109) rfl rfl k) ?_
    show Way _ _ _ _ (T649.setTop (mkF m 110 #[iv p0, iv p1, iv p2, iv p3, iv p4, iv p5, iv z, iv 4, iv x_pv24, iv x_pv53, iv x_pv82, iv x_pv111, iv x_pv140, .unset, .unset, .unset, .unset] [(.ref a657), (.ref a657)]))
    refine Way.by (fun _ k => XS.iload X651.here hx rfl (hb hby at_110) rfl k) ?_
    show Way _ _ _ _ (T649.setTop (mkF m 112 #[iv p0, iv p1, iv p2, iv p3, iv p4, iv p5, iv z, iv 4, iv x_pv24, iv x_pv53, iv x_pv82, iv x_pv111, iv x_pv140, .unset, .unset, .unset, .unset] [(.int 4), (.ref a657), (.ref a657)]))
    refine Way.by (fun _ k => XS.iload X651.here hx rfl (hb hby at_112) rfl k) ?_
    show Way _ _ _ _ (T649.setTop (mkF m 114 #[iv p0, iv p1, iv p2, iv p3, iv p4, iv p5, iv z, iv 4, iv x_pv24, iv x_pv53, iv x_pv82, iv x_pv111, iv x_pv140, .unset, .unset, .unset, .unset] [(.int x_pv24), (.int 4), (.ref a657), (.ref a657)]))
    refine Way.by (fun _ k => XS.iload X651.here hx rfl (hb hby at_114) rfl k) ?_
    show Way _ _ _ _ (T649.setTop (mkF m 116 #[iv p0, iv p1, iv p2, iv p3, iv p4, iv p5, iv z, iv 4, iv x_pv24, iv x_pv53, iv x_pv82, iv x_pv111, iv x_pv140, .unset, .unset, .unset, .unset] [(.int x_pv53), (.int x_pv24), (.int 4), (.ref a657), (.ref a657)]))
    refine Way.by (fun _ k => XS.iload X651.here hx rfl (hb hby at_116) rfl k) ?_
    show Way _ _ _ _ (T649.setTop (mkF m 118 #[iv p0, iv p1, iv p2, iv p3, iv p4, iv p5, iv z, iv 4, iv x_pv24, iv x_pv53, iv x_pv82, iv x_pv111, iv x_pv140, .unset, .unset, .unset, .unset] [(.int x_pv82), (.int x_pv53), (.int x_pv24), (.int 4), (.ref a657), (.ref a657)]))
    refine Way.by (fun _ k => XS.iload X651.here hx rfl (hb hby at_118) rfl k) ?_
    show Way _ _ _ _ (T649.setTop (mkF m 120 #[iv p0, iv p1, iv p2, iv p3, iv p4, iv p5, iv z, iv 4, iv x_pv24, iv x_pv53, iv x_pv82, iv x_pv111, iv x_pv140, .unset, .unset, .unset, .unset] [(.int x_pv111), (.int x_pv82), (.int x_pv53), (.int x_pv24), (.int 4), (.ref a657), (.ref a657)]))
    refine Way.by (fun _ k => XS.iload X651.here hx rfl (hb hby at_120) rfl k) ?_
    show Way _ _ _ _ (T649.setTop (mkF m 122 #[iv p0, iv p1, iv p2, iv p3, iv p4, iv p5, iv z, iv 4, iv x_pv24, iv x_pv53, iv x_pv82, iv x_pv111, iv x_pv140, .unset, .unset, .unset, .unset] [(.int x_pv140), (.int x_pv111), (.int x_pv82), (.int x_pv53), (.int x_pv24), (.int 4), (.ref a657), (.ref a657)]))
    obtain ⟨_, _, ⟨T670, L672, k673, n674⟩, -, X671, ⟨Lc675, hQ676, l677, y678, z679⟩, st680⟩ := Jvm.LawKit.callS X651 hx (y := (⟨"com/example/bare_orm/bareorm/MappingReaderTrueOrFalsePinLaw", "chars", "(ICCCCC)[C"⟩ : MethodName)) hown136 (mvT hZ135 (tw hw 51 rfl)) (mvT hZ135 (tw hw 52 rfl)) (mvT hZ135 (tw hw 15 rfl)) (mvT hZ135 (tw hw 53 rfl)) (by decide) (backOf (W := 2) (rmCH4 l Z a0 hw [] x_pv24 x_pv53 x_pv82 x_pv111 x_pv140 h650 n0 Z665 pu_OK23 pu_OK52 pu_OK81 pu_OK110 pu_OK139) hZ135 (tw hw 53 rfl) (tw hw 15 rfl) (by decide) (by decide)) (g := (mkF m 122 #[iv p0, iv p1, iv p2, iv p3, iv p4, iv p5, iv z, iv 4, iv x_pv24, iv x_pv53, iv x_pv82, iv x_pv111, iv x_pv140, .unset, .unset, .unset, .unset] [(.int x_pv140), (.int x_pv111), (.int x_pv82), (.int x_pv53), (.int x_pv24), (.int 4), (.ref a657), (.ref a657)])) rfl (by rw [hml]; rfl) (argsL := [(.int 4), (.int x_pv24), (.int x_pv53), (.int x_pv82), (.int x_pv111), (.int x_pv140)]) (rest := [(.ref a657), (.ref a657)]) (lenOf pdCH0 rfl) rfl (leW rfl) (hb hby at_122) (fun _ _ => ⟨rfl, e652, (leB rfl), (leB rfl)⟩)
    dsimp only [Pt.U, Pt.locs, Pt.cells, Pt.slots] at X671 l677 y678 z679 st680 hQ676
    subst y678 z679
    obtain ⟨x_pe691, x_kk690, rfl, N686, K687, fr_pe689, F_0688⟩ := hQ676
    have N681 : Fr n0 L672 := by rw [l677]; exact Fr.app N128 N686
    have ne692 : a657 ≠ x_pe691 := Nat.ne_of_lt (Nat.lt_of_lt_of_le A654.lt fr_pe689)
    have nw693 : n0 ≤ x_pe691 := Nat.le_trans Z665 fr_pe689
    have Sf694 : Safe Z own_EL T117.vm h650 x_pe691 := Safe.new fr_pe689
    have hr697 := CHr.keep K687 sf0 H661
    have Sf698 := Safe.keep K687 sf0 H661 Sf664
    have Sf699 := Safe.keep K687 sf0 H661 Sf694
    have H695 := hr697.1
    have CH696 := CH662.trans hr697
    have E700 := A654.keep K687
    have F701 := F668.keep K687 nin0
    have F702 := F669.keep K687 nin0
    have Z703 := Nat.le_trans Z665 K687.1
    have hk704 := Nat.le_trans hk666 K687.1
    have O705 := O667.keep K687 all0
    refine Way.by st680 ?_
    show Way _ _ _ _ (T670.setTop (mkF m 125 #[iv p0, iv p1, iv p2, iv p3, iv p4, iv p5, iv z, iv 4, iv x_pv24, iv x_pv53, iv x_pv82, iv x_pv111, iv x_pv140, .unset, .unset, .unset, .unset] [(.ref x_pe691), (.ref a657), (.ref a657)]))
    have hp706 : ∀ c ∈ ([x_pv24, x_pv53, x_pv82, x_pv111] : List Int32), ¬ c < 0 ∧ ¬ (255 : Int32) < c := by intro c hc; simp only [List.mem_cons, List.not_mem_nil, or_false] at hc; rcases hc with rfl | rfl | rfl | rfl <;> assumption
    obtain ⟨_, _, ⟨T707, L709, k710, n711⟩, -, X708, ⟨Lc712, hQ713, l714, y715, z716⟩, st717⟩ := X671.specialBack hx (y := (⟨"java/lang/String", "<init>", "([C)V"⟩ : MethodName)) rfl hown136 (mvT hZ135 (tw hw 55 rfl)) (mvT hZ135 (tw hw 56 rfl)) (mvT hZ135 (tw hw 57 rfl)) (by decide) (own_new (W := 1) (n0 := n0) hZ135 hw SV O705 (cs := [x_pv24, x_pv53, x_pv82, x_pv111]) (n := 4) nw659 Z703 E700 F701 F702 F_0688 rfl rfl (by decide) (by decide) hp706 (by decide) (by decide)) (g := (mkF m 125 #[iv p0, iv p1, iv p2, iv p3, iv p4, iv p5, iv z, iv 4, iv x_pv24, iv x_pv53, iv x_pv82, iv x_pv111, iv x_pv140, .unset, .unset, .unset, .unset] [(.ref x_pe691), (.ref a657), (.ref a657)])) rfl (by rw [hml]; rfl) (Steps.refl _) (a := a657) (argsL := [(.ref x_pe691)]) (rest := [(.ref a657)]) (lenOf own_pdNew rfl) rfl (leW rfl) (hb hby at_125) (fun _ _ => ⟨rfl, rfl, (leB rfl), (leB rfl)⟩)
    dsimp only [Pt.U, Pt.locs, Pt.cells, Pt.slots] at X708 l714 y715 z716 st717 hQ713
    subst y715 z716
    obtain ⟨rfl, N723, K724, x_t727, fr_t726, F725⟩ := hQ713
    have N718 : Fr n0 L709 := by rw [l714]; exact Fr.app N681 N723
    have ne728 : a657 ≠ x_t727 := Nat.ne_of_lt (Nat.lt_of_lt_of_le E700.lt fr_t726)
    have ne729 : x_pe691 ≠ x_t727 := Nat.ne_of_lt (Nat.lt_of_lt_of_le F_0688.lt fr_t726)
    have nw730 : n0 ≤ x_t727 := Nat.le_trans Z703 fr_t726
    have Sf731 : Safe Z own_EL T117.vm T670.heap x_t727 := Safe.new fr_t726
    have hr734 := CHr.keep K724 (sfS Sf698 sf0) H695
    have Sf735 := Safe.keep K724 (sfS Sf698 sf0) H695 Sf698
    have Sf736 := Safe.keep K724 (sfS Sf698 sf0) H695 Sf699
    have Sf737 := Safe.keep K724 (sfS Sf698 sf0) H695 Sf731
    have H732 := hr734.1
    have CH733 := CH696.trans hr734
    have E738 := E700.keep K724
    have A739 := F_0688.keep K724 (ninS ne692.symm nin0)
    have Z740 := Nat.le_trans Z703 K724.1
    have hk741 := Nat.le_trans hk704 K724.1
    have O742 := O705.keep K724 (allS nw659 all0)
    refine Way.to st717 ?_
    show Way _ _ _ _ (T707.setTop (mkF m 128 #[iv p0, iv p1, iv p2, iv p3, iv p4, iv p5, iv z, iv 4, iv x_pv24, iv x_pv53, iv x_pv82, iv x_pv111, iv x_pv140, .unset, .unset, .unset, .unset] [(.ref a657)]))
    refine Way.by (fun _ k => XS.astore X708.here hx rfl (hb hby at_128) rfl rfl (l' := #[iv p0, iv p1, iv p2, iv p3, iv p4, iv p5, iv z, iv 4, iv x_pv24, iv x_pv53, iv x_pv82, iv x_pv111, iv x_pv140, rv a657, .unset, .unset, .unset]) rfl k) ?_
    show Way _ _ _ _ (T707.setTop (mkF m 130 #[iv p0, iv p1, iv p2, iv p3, iv p4, iv p5, iv z, iv 4, iv x_pv24, iv x_pv53, iv x_pv82, iv x_pv111, iv x_pv140, rv a657, .unset, .unset, .unset] []))
    refine Way.by (fun _ k => XS.aload X708.here hx rfl (hb hby at_130) rfl rfl k) ?_
    show Way _ _ _ _ (T707.setTop (mkF m 132 #[iv p0, iv p1, iv p2, iv p3, iv p4, iv p5, iv z, iv 4, iv x_pv24, iv x_pv53, iv x_pv82, iv x_pv111, iv x_pv140, rv a657, .unset, .unset, .unset] [(.ref a657)]))
    obtain ⟨_, _, ⟨T743, L745, k746, n747⟩, -, X744, hS756, hg757, ⟨Lc748, hQ749, l750, y751, z752, hr758⟩, st753⟩ := callSS X708 hx (y := (⟨"com/example/bare_orm/bareorm/MappingReader", "trueOrFalse", "(Ljava/lang/String;)Ljava/lang/Boolean;"⟩ : MethodName)) hown136 (mvT hZ135 (tw hw 0 rfl)) (mvT hZ135 (tw hw 1 rfl)) (mvT hZ135 (tw hw 2 rfl)) (mvT hZ135 (tw hw 3 rfl)) (by decide) (backOfSH (W := 0) (rmTF l Z a0 hw [] a657 x_t727 [x_pv24, x_pv53, x_pv82, x_pv111] uF uT T707.heap n0 Z740 F725 O742 SV SF STR) hZ135 (tw hw 3 rfl) (tw hw 2 rfl) (by decide) (by decide) hEL H732) (g := (mkF m 132 #[iv p0, iv p1, iv p2, iv p3, iv p4, iv p5, iv z, iv 4, iv x_pv24, iv x_pv53, iv x_pv82, iv x_pv111, iv x_pv140, rv a657, .unset, .unset, .unset] [(.ref a657)])) rfl (by rw [hml]; rfl) (argsL := [(.ref a657)]) (rest := []) (lenOf pdTN rfl) rfl (leW rfl) (hb hby at_132) (fun _ _ => ⟨rfl, rfl, (leB rfl), (leB rfl)⟩)
    dsimp only [Pt.U, Pt.locs, Pt.cells, Pt.slots] at X744 l750 y751 z752 st753 hQ749 hS756 hg757 hr758
    subst y751 z752
    obtain ⟨X759, hS760, hZ761, hown762⟩ := rebS hS134 (by exact hk741) X744 hS756 hg757 hZ135 hown136
    obtain ⟨rfl, N763, K764⟩ := hQ749
    have N754 : Fr n0 L745 := by rw [l750]; exact Fr.app N718 N763
    have Sf768 := CHr.safe hr758 E738.lt Sf735
    have Sf769 := CHr.safe hr758 A739.lt Sf736
    have Sf770 := CHr.safe hr758 F725.lt2 Sf737
    have H765 := hr758.1
    have CH766 := CH733.trans hr758
    have E771 := E738.keep K764
    have A772 := A739.keep K764 nin0
    have S773 := F725.keep K764 nin0 nin0
    have Z774 := Nat.le_trans Z740 K764.1
    have O775 := O742.keep K764 all0
    refine Way.to st753 ?_
    show Way _ _ _ _ (T743.setTop (mkF m 135 #[iv p0, iv p1, iv p2, iv p3, iv p4, iv p5, iv z, iv 4, iv x_pv24, iv x_pv53, iv x_pv82, iv x_pv111, iv x_pv140, rv a657, .unset, .unset, .unset] [(own_tf [x_pv24, x_pv53, x_pv82, x_pv111] uF uT)]))
    refine Way.by (fun _ k => XS.astoreS X759.here hx rfl (hb hby at_135) rfl own_tfref own_tfcat rfl (Or.inl rfl) k) ?_
    show Way _ _ _ _ (T743.setTop (mkF m 137 #[iv p0, iv p1, iv p2, iv p3, iv p4, iv p5, iv z, iv 4, iv x_pv24, iv x_pv53, iv x_pv82, iv x_pv111, iv x_pv140, rv a657, .val (own_tf [x_pv24, x_pv53, x_pv82, x_pv111] uF uT), .unset, .unset] []))
    exact seg137n4 l Z a0 hw ws p0 p1 p2 p3 p4 p5 uF uT h0 n0 Z0 O0 SV SF STR EF FF ET FT p e s m below meth c s₁ Bd hml _ hZ761 hown762 _ hS760 hh T743 T743.heap _ (X759.mono (by decide) (by decide)) rfl N754 Z774 (Nat.le_refl _) H765 CH766 O775 z x_pv24 x_pv53 x_pv82 x_pv111 x_pv140 a657 
  · skip
    show Way _ _ _ _ (T117.setTop (mkF m 106 #[iv p0, iv p1, iv p2, iv p3, iv p4, iv p5, iv z, iv 5, iv x_pv24, iv x_pv53, iv x_pv82, iv x_pv111, iv x_pv140, .unset, .unset, .unset, .unset] []))
    obtain ⟨T776, h777, X778, e779, E780, A781, D782, -, st783⟩ := newO X133 hx hZ135 hown136 (tw hw 50 rfl) (tw hw 19 rfl) (tw hw 18 rfl) rfl (g := (mkF m 106 #[iv p0, iv p1, iv p2, iv p3, iv p4, iv p5, iv z, iv 5, iv x_pv24, iv x_pv53, iv x_pv82, iv x_pv111, iv x_pv140, .unset, .unset, .unset, .unset] [])) rfl (hb hby at_106) (by decide) (by decide)
    obtain ⟨a784, g785⟩ : ∃ z, z = T117.heap.size := ⟨_, rfl⟩
    rw [← g785] at A781 D782 st783
    have nw786 : n0 ≤ a784 := Nat.le_trans Z144 (Nat.le_of_eq g785.symm)
    have Sf787 : Safe Z own_EL T117.vm T117.heap a784 := Safe.new (Nat.le_of_eq g785.symm)
    have hr790 := CHr.ext E780 H141
    have Sf791 := Safe.ext E780 H141 Sf787
    have H788 := hr790.1
    have CH789 := CH142.trans hr790
    have Z792 := Nat.le_trans Z144 E780.1
    have hk793 := Nat.le_trans (Nat.le_refl _) E780.1
    have O794 := O145.ext E780
    have F795 : Fld Z h777 a784 "java/lang/String" "value" "[B" .null := D782 (Or.inr (tw hw 21 rfl)) (ty := (.array .byte)) (by decide)
    have F796 : Fld Z h777 a784 "java/lang/String" "coder" "B" (.int 0) := D782 (Or.inr (tw hw 22 rfl)) (ty := .byte) (by decide)
    refine Way.by st783 ?_
    show Way _ _ _ _ (T776.setTop (mkF m 109 #[iv p0, iv p1, iv p2, iv p3, iv p4, iv p5, iv z, iv 5, iv x_pv24, iv x_pv53, iv x_pv82, iv x_pv111, iv x_pv140, .unset, .unset, .unset, .unset] [(.ref a784)]))
    refine Way.by (fun _ k => XS.dup X778.here hx rfl (hb hby at_109) rfl rfl k) ?_
    show Way _ _ _ _ (T776.setTop (mkF m 110 #[iv p0, iv p1, iv p2, iv p3, iv p4, iv p5, iv z, iv 5, iv x_pv24, iv x_pv53, iv x_pv82, iv x_pv111, iv x_pv140, .unset, .unset, .unset, .unset] [(.ref a784), (.ref a784)]))
    refine Way.by (fun _ k => XS.iload X778.here hx rfl (hb hby at_110) rfl k) ?_
    show Way _ _ _ _ (T776.setTop (mkF m 112 #[iv p0, iv p1, iv p2, iv p3, iv p4, iv p5, iv z, iv 5, iv x_pv24, iv x_pv53, iv x_pv82, iv x_pv111, iv x_pv140, .unset, .unset, .unset, .unset] [(.int 5), (.ref a784), (.ref a784)]))
    refine Way.by (fun _ k => XS.iload X778.here hx rfl (hb hby at_112) rfl k) ?_
    show Way _ _ _ _ (T776.setTop (mkF m 114 #[iv p0, iv p1, iv p2, iv p3, iv p4, iv p5, iv z, iv 5, iv x_pv24, iv x_pv53, iv x_pv82, iv x_pv111, iv x_pv140, .unset, .unset, .unset, .unset] [(.int x_pv24), (.int 5), (.ref a784), (.ref a784)]))
    refine Way.by (fun _ k => XS.iload X778.here hx rfl (hb hby at_114) rfl k) ?_
    show Way _ _ _ _ (T776.setTop (mkF m 116 #[iv p0, iv p1, iv p2, iv p3, iv p4, iv p5, iv z, iv 5, iv x_pv24, iv x_pv53, iv x_pv82, iv x_pv111, iv x_pv140, .unset, .unset, .unset, .unset] [(.int x_pv53), (.int x_pv24), (.int 5), (.ref a784), (.ref a784)]))
    refine Way.by (fun _ k => XS.iload X778.here hx rfl (hb hby at_116) rfl k) ?_
    show Way _ _ _ _ (T776.setTop (mkF m 118 #[iv p0, iv p1, iv p2, iv p3, iv p4, iv p5, iv z, iv 5, iv x_pv24, iv x_pv53, iv x_pv82, iv x_pv111, iv x_pv140, .unset, .unset, .unset, .unset] [(.int x_pv82), (.int x_pv53), (.int x_pv24), (.int 5), (.ref a784), (.ref a784)]))
    refine Way.by (fun _ k => XS.iload X778.here hx rfl (hb hby at_118) rfl k) ?_
    show Way _ _ _ _ (T776.setTop (mkF m 120 #[iv p0, iv p1, iv p2, iv p3, iv p4, iv p5, iv z, iv 5, iv x_pv24, iv x_pv53, iv x_pv82, iv x_pv111, iv x_pv140, .unset, .unset, .unset, .unset] [(.int x_pv111), (.int x_pv82), (.int x_pv53), (.int x_pv24), (.int 5), (.ref a784), (.ref a784)]))
    refine Way.by (fun _ k => XS.iload X778.here hx rfl (hb hby at_120) rfl k) ?_
    show Way _ _ _ _ (T776.setTop (mkF m 122 #[iv p0, iv p1, iv p2, iv p3, iv p4, iv p5, iv z, iv 5, iv x_pv24, iv x_pv53, iv x_pv82, iv x_pv111, iv x_pv140, .unset, .unset, .unset, .unset] [(.int x_pv140), (.int x_pv111), (.int x_pv82), (.int x_pv53), (.int x_pv24), (.int 5), (.ref a784), (.ref a784)]))
    obtain ⟨_, _, ⟨T797, L799, k800, n801⟩, -, X798, ⟨Lc802, hQ803, l804, y805, z806⟩, st807⟩ := Jvm.LawKit.callS X778 hx (y := (⟨"com/example/bare_orm/bareorm/MappingReaderTrueOrFalsePinLaw", "chars", "(ICCCCC)[C"⟩ : MethodName)) hown136 (mvT hZ135 (tw hw 51 rfl)) (mvT hZ135 (tw hw 52 rfl)) (mvT hZ135 (tw hw 15 rfl)) (mvT hZ135 (tw hw 53 rfl)) (by decide) (backOf (W := 2) (rmCH5 l Z a0 hw [] x_pv24 x_pv53 x_pv82 x_pv111 x_pv140 h777 n0 Z792 pu_OK23 pu_OK52 pu_OK81 pu_OK110 pu_OK139) hZ135 (tw hw 53 rfl) (tw hw 15 rfl) (by decide) (by decide)) (g := (mkF m 122 #[iv p0, iv p1, iv p2, iv p3, iv p4, iv p5, iv z, iv 5, iv x_pv24, iv x_pv53, iv x_pv82, iv x_pv111, iv x_pv140, .unset, .unset, .unset, .unset] [(.int x_pv140), (.int x_pv111), (.int x_pv82), (.int x_pv53), (.int x_pv24), (.int 5), (.ref a784), (.ref a784)])) rfl (by rw [hml]; rfl) (argsL := [(.int 5), (.int x_pv24), (.int x_pv53), (.int x_pv82), (.int x_pv111), (.int x_pv140)]) (rest := [(.ref a784), (.ref a784)]) (lenOf pdCH0 rfl) rfl (leW rfl) (hb hby at_122) (fun _ _ => ⟨rfl, e779, (leB rfl), (leB rfl)⟩)
    dsimp only [Pt.U, Pt.locs, Pt.cells, Pt.slots] at X798 l804 y805 z806 st807 hQ803
    subst y805 z806
    obtain ⟨x_pe818, x_kk817, rfl, N813, K814, fr_pe816, F_0815⟩ := hQ803
    have N808 : Fr n0 L799 := by rw [l804]; exact Fr.app N128 N813
    have ne819 : a784 ≠ x_pe818 := Nat.ne_of_lt (Nat.lt_of_lt_of_le A781.lt fr_pe816)
    have nw820 : n0 ≤ x_pe818 := Nat.le_trans Z792 fr_pe816
    have Sf821 : Safe Z own_EL T117.vm h777 x_pe818 := Safe.new fr_pe816
    have hr824 := CHr.keep K814 sf0 H788
    have Sf825 := Safe.keep K814 sf0 H788 Sf791
    have Sf826 := Safe.keep K814 sf0 H788 Sf821
    have H822 := hr824.1
    have CH823 := CH789.trans hr824
    have E827 := A781.keep K814
    have F828 := F795.keep K814 nin0
    have F829 := F796.keep K814 nin0
    have Z830 := Nat.le_trans Z792 K814.1
    have hk831 := Nat.le_trans hk793 K814.1
    have O832 := O794.keep K814 all0
    refine Way.by st807 ?_
    show Way _ _ _ _ (T797.setTop (mkF m 125 #[iv p0, iv p1, iv p2, iv p3, iv p4, iv p5, iv z, iv 5, iv x_pv24, iv x_pv53, iv x_pv82, iv x_pv111, iv x_pv140, .unset, .unset, .unset, .unset] [(.ref x_pe818), (.ref a784), (.ref a784)]))
    have hp833 : ∀ c ∈ ([x_pv24, x_pv53, x_pv82, x_pv111, x_pv140] : List Int32), ¬ c < 0 ∧ ¬ (255 : Int32) < c := by intro c hc; simp only [List.mem_cons, List.not_mem_nil, or_false] at hc; rcases hc with rfl | rfl | rfl | rfl | rfl <;> assumption
    obtain ⟨_, _, ⟨T834, L836, k837, n838⟩, -, X835, ⟨Lc839, hQ840, l841, y842, z843⟩, st844⟩ := X798.specialBack hx (y := (⟨"java/lang/String", "<init>", "([C)V"⟩ : MethodName)) rfl hown136 (mvT hZ135 (tw hw 55 rfl)) (mvT hZ135 (tw hw 56 rfl)) (mvT hZ135 (tw hw 57 rfl)) (by decide) (own_new (W := 1) (n0 := n0) hZ135 hw SV O832 (cs := [x_pv24, x_pv53, x_pv82, x_pv111, x_pv140]) (n := 5) nw786 Z830 E827 F828 F829 F_0815 rfl rfl (by decide) (by decide) hp833 (by decide) (by decide)) (g := (mkF m 125 #[iv p0, iv p1, iv p2, iv p3, iv p4, iv p5, iv z, iv 5, iv x_pv24, iv x_pv53, iv x_pv82, iv x_pv111, iv x_pv140, .unset, .unset, .unset, .unset] [(.ref x_pe818), (.ref a784), (.ref a784)])) rfl (by rw [hml]; rfl) (Steps.refl _) (a := a784) (argsL := [(.ref x_pe818)]) (rest := [(.ref a784)]) (lenOf own_pdNew rfl) rfl (leW rfl) (hb hby at_125) (fun _ _ => ⟨rfl, rfl, (leB rfl), (leB rfl)⟩)
    dsimp only [Pt.U, Pt.locs, Pt.cells, Pt.slots] at X835 l841 y842 z843 st844 hQ840
    subst y842 z843
    obtain ⟨rfl, N850, K851, x_t854, fr_t853, F852⟩ := hQ840
    have N845 : Fr n0 L836 := by rw [l841]; exact Fr.app N808 N850
    have ne855 : a784 ≠ x_t854 := Nat.ne_of_lt (Nat.lt_of_lt_of_le E827.lt fr_t853)
    have ne856 : x_pe818 ≠ x_t854 := Nat.ne_of_lt (Nat.lt_of_lt_of_le F_0815.lt fr_t853)
    have nw857 : n0 ≤ x_t854 := Nat.le_trans Z830 fr_t853
    have Sf858 : Safe Z own_EL T117.vm T797.heap x_t854 := Safe.new fr_t853
    have hr861 := CHr.keep K851 (sfS Sf825 sf0) H822
    have Sf862 := Safe.keep K851 (sfS Sf825 sf0) H822 Sf825
    have Sf863 := Safe.keep K851 (sfS Sf825 sf0) H822 Sf826
    have Sf864 := Safe.keep K851 (sfS Sf825 sf0) H822 Sf858
    have H859 := hr861.1
    have CH860 := CH823.trans hr861
    have E865 := E827.keep K851
    have A866 := F_0815.keep K851 (ninS ne819.symm nin0)
    have Z867 := Nat.le_trans Z830 K851.1
    have hk868 := Nat.le_trans hk831 K851.1
    have O869 := O832.keep K851 (allS nw786 all0)
    refine Way.to st844 ?_
    show Way _ _ _ _ (T834.setTop (mkF m 128 #[iv p0, iv p1, iv p2, iv p3, iv p4, iv p5, iv z, iv 5, iv x_pv24, iv x_pv53, iv x_pv82, iv x_pv111, iv x_pv140, .unset, .unset, .unset, .unset] [(.ref a784)]))
    refine Way.by (fun _ k => XS.astore X835.here hx rfl (hb hby at_128) rfl rfl (l' := #[iv p0, iv p1, iv p2, iv p3, iv p4, iv p5, iv z, iv 5, iv x_pv24, iv x_pv53, iv x_pv82, iv x_pv111, iv x_pv140, rv a784, .unset, .unset, .unset]) rfl k) ?_
    show Way _ _ _ _ (T834.setTop (mkF m 130 #[iv p0, iv p1, iv p2, iv p3, iv p4, iv p5, iv z, iv 5, iv x_pv24, iv x_pv53, iv x_pv82, iv x_pv111, iv x_pv140, rv a784, .unset, .unset, .unset] []))
    refine Way.by (fun _ k => XS.aload X835.here hx rfl (hb hby at_130) rfl rfl k) ?_
    show Way _ _ _ _ (T834.setTop (mkF m 132 #[iv p0, iv p1, iv p2, iv p3, iv p4, iv p5, iv z, iv 5, iv x_pv24, iv x_pv53, iv x_pv82, iv x_pv111, iv x_pv140, rv a784, .unset, .unset, .unset] [(.ref a784)]))
    obtain ⟨_, _, ⟨T870, L872, k873, n874⟩, -, X871, hS883, hg884, ⟨Lc875, hQ876, l877, y878, z879, hr885⟩, st880⟩ := callSS X835 hx (y := (⟨"com/example/bare_orm/bareorm/MappingReader", "trueOrFalse", "(Ljava/lang/String;)Ljava/lang/Boolean;"⟩ : MethodName)) hown136 (mvT hZ135 (tw hw 0 rfl)) (mvT hZ135 (tw hw 1 rfl)) (mvT hZ135 (tw hw 2 rfl)) (mvT hZ135 (tw hw 3 rfl)) (by decide) (backOfSH (W := 0) (rmTF l Z a0 hw [] a784 x_t854 [x_pv24, x_pv53, x_pv82, x_pv111, x_pv140] uF uT T834.heap n0 Z867 F852 O869 SV SF STR) hZ135 (tw hw 3 rfl) (tw hw 2 rfl) (by decide) (by decide) hEL H859) (g := (mkF m 132 #[iv p0, iv p1, iv p2, iv p3, iv p4, iv p5, iv z, iv 5, iv x_pv24, iv x_pv53, iv x_pv82, iv x_pv111, iv x_pv140, rv a784, .unset, .unset, .unset] [(.ref a784)])) rfl (by rw [hml]; rfl) (argsL := [(.ref a784)]) (rest := []) (lenOf pdTN rfl) rfl (leW rfl) (hb hby at_132) (fun _ _ => ⟨rfl, rfl, (leB rfl), (leB rfl)⟩)
    dsimp only [Pt.U, Pt.locs, Pt.cells, Pt.slots] at X871 l877 y878 z879 st880 hQ876 hS883 hg884 hr885
    subst y878 z879
    obtain ⟨X886, hS887, hZ888, hown889⟩ := rebS hS134 (by exact hk868) X871 hS883 hg884 hZ135 hown136
    obtain ⟨rfl, N890, K891⟩ := hQ876
    have N881 : Fr n0 L872 := by rw [l877]; exact Fr.app N845 N890
    have Sf895 := CHr.safe hr885 E865.lt Sf862
    have Sf896 := CHr.safe hr885 A866.lt Sf863
    have Sf897 := CHr.safe hr885 F852.lt2 Sf864
    have H892 := hr885.1
    have CH893 := CH860.trans hr885
    have E898 := E865.keep K891
    have A899 := A866.keep K891 nin0
    have S900 := F852.keep K891 nin0 nin0
    have Z901 := Nat.le_trans Z867 K891.1
    have O902 := O869.keep K891 all0
    refine Way.to st880 ?_
    show Way _ _ _ _ (T870.setTop (mkF m 135 #[iv p0, iv p1, iv p2, iv p3, iv p4, iv p5, iv z, iv 5, iv x_pv24, iv x_pv53, iv x_pv82, iv x_pv111, iv x_pv140, rv a784, .unset, .unset, .unset] [(own_tf [x_pv24, x_pv53, x_pv82, x_pv111, x_pv140] uF uT)]))
    refine Way.by (fun _ k => XS.astoreS X886.here hx rfl (hb hby at_135) rfl own_tfref own_tfcat rfl (Or.inl rfl) k) ?_
    show Way _ _ _ _ (T870.setTop (mkF m 137 #[iv p0, iv p1, iv p2, iv p3, iv p4, iv p5, iv z, iv 5, iv x_pv24, iv x_pv53, iv x_pv82, iv x_pv111, iv x_pv140, rv a784, .val (own_tf [x_pv24, x_pv53, x_pv82, x_pv111, x_pv140] uF uT), .unset, .unset] []))
    exact seg137n5 l Z a0 hw ws p0 p1 p2 p3 p4 p5 uF uT h0 n0 Z0 O0 SV SF STR EF FF ET FT p e s m below meth c s₁ Bd hml _ hZ888 hown889 _ hS887 hh T870 T870.heap _ (X886.mono (by decide) (by decide)) rfl N881 Z901 (Nat.le_refl _) H892 CH893 O902 z x_pv24 x_pv53 x_pv82 x_pv111 x_pv140 a784 
theorem pd0 : parseMethodDescriptor "(IIIIII)Z" = some ⟨[.int, .int, .int, .int, .int, .int], some .boolean⟩ := by decide +kernel
set_option maxRecDepth 65536 in
set_option maxHeartbeats 40000000 in
theorem rm0 (l : Launch) (Z : State) (a0 : Array Value) (hw : ∀ d ∈ tables_1, d.before a0 Z = true) (ws : List Jvm.Cond) (p0 p1 p2 p3 p4 p5 : Int32) (uF uT : Addr) (h0 : Heap) (n0 : Nat) (Z0 : n0 ≤ h0.size) (O0 : Old Z n0 h0) (SV : own_Env Z) (SF : Sta Z Z.heap "java/lang/Boolean" "FALSE" "Ljava/lang/Boolean;" (.ref uF)) (STR : Sta Z Z.heap "java/lang/Boolean" "TRUE" "Ljava/lang/Boolean;" (.ref uT)) (EF : Exa Z Z.heap uF "java/lang/Boolean") (FF : Fld Z Z.heap uF "java/lang/Boolean" "value" "Z" (.int 0)) (ET : Exa Z Z.heap uT "java/lang/Boolean") (FT : Fld Z Z.heap uT "java/lang/Boolean" "value" "Z" (.int 1)) :
    MetFree l x (head1 (Jvm.Cond.code x code maxLocals ret :: ws) room_1) (fun aa U => aa = #[(.int p0), (.int p1), (.int p2), (.int p3), (.int p4), (.int p5)] ∧ Z.Warmed39 U.vm ∧ U.heap = h0 ∧ CHv Z own_EL U.vm h0) (fun _ _ _ _ _ => True) (fun _ U oo U' => ∃ v L, oo = .returned v ∧ Q0 n0 v U'.heap L ∧ CHr Z own_EL U.vm U.heap U'.vm U'.heap ∧ ReturnedEndW U oo U' L room_1.cells room_1.slots) := by
  refine MetFree.of_bodySF (plainFor_of_name pnPK) hisR ?_
  intro p e s m args below meth c s₁ Bd hml0 hP hK
  obtain ⟨rfl, hZ, hh, HV0⟩ := hP
  have hx := Bd.exec
  have hby := Bd.bytes
  have hlk : meth.locks = false := BodyLoose.notSynchronized Bd
  have hml : c.maxLocals = 17 := hml0
  have hown : s.vm.findClass "com/example/bare_orm/bareorm/MappingReaderTrueOrFalsePinLaw" = some m.cls := findClass_of_methodNamed Bd.named
  have hnm := (name_of_methodNamed Bd.named Bd.method).1
  have X0 : Stand p l e room_1 s m #[(.int p0), (.int p1), (.int p2), (.int p3), (.int p4), (.int p5)] below meth c s₁ [] 0 0 := Stand.of_body Bd
  have e0 : s₁.heap = h0 := by rw [← hh, Bd.state]; rfl
  have N0 := Fr.nil n0
  have ef : entryFrame m #[(.int p0), (.int p1), (.int p2), (.int p3), (.int p4), (.int p5)] maxLocals = mkF m 0 #[iv p0, iv p1, iv p2, iv p3, iv p4, iv p5, .unset, .unset, .unset, .unset, .unset, .unset, .unset, .unset, .unset, .unset, .unset] [] := by first | (simp [entryFrame, mkF, argsToLocals, Value.category, maxLocals]; done) | rfl
  have XW : Stand p l e room_1 (s.setVm s.vm) m #[(.int p0), (.int p1), (.int p2), (.int p3), (.int p4), (.int p5)] below meth c s₁ [] 0 0 := X0
  have hS0 : s.Since s.vm 0 := (State.WarmedH.refl s).since 0
  have hZ0 : Z.Warmed39 (s.setVm s.vm).vm := hZ
  have hown0 : (s.setVm s.vm).vm.findClass "com/example/bare_orm/bareorm/MappingReaderTrueOrFalsePinLaw" = some m.cls := hown
  have wS : ∀ d ∈ Bundle.stringAtoms, d.before a0 Z = true := fun d hd => hw d (own_wS d hd)
  have hEL : EW Z a0 own_EL := own_EW hw
  have CH0 : CHr Z own_EL s.vm h0 s.vm h0 := CHr.refl HV0
  show Way p.tables e below (KQH s Z own_EL (Q0 n0) room_1.cells room_1.slots) (s₁.setTop (entryFrame m #[(.int p0), (.int p1), (.int p2), (.int p3), (.int p4), (.int p5)] maxLocals))
  rw [ef]
  refine Way.by (fun _ k => XS.iloadN XW.here hx rfl (hb hby at_0) rfl k) ?_
  show Way _ _ _ _ (s₁.setTop (mkF m 1 #[iv p0, iv p1, iv p2, iv p3, iv p4, iv p5, .unset, .unset, .unset, .unset, .unset, .unset, .unset, .unset, .unset, .unset, .unset] [(.int p0)]))
  refine Way.by (fun _ k => XS.bipush XW.here hx rfl (hb hby at_1) k) ?_
  show Way _ _ _ _ (s₁.setTop (mkF m 3 #[iv p0, iv p1, iv p2, iv p3, iv p4, iv p5, .unset, .unset, .unset, .unset, .unset, .unset, .unset, .unset, .unset, .unset, .unset] [(.int 7), (.int p0)]))
  refine Way.by (fun _ k => XS.iand XW.here hx rfl (hb hby at_3) rfl k) ?_
  show Way _ _ _ _ (s₁.setTop (mkF m 4 #[iv p0, iv p1, iv p2, iv p3, iv p4, iv p5, .unset, .unset, .unset, .unset, .unset, .unset, .unset, .unset, .unset, .unset, .unset] [(.int (p0 &&& (7 : Int32)))]))
  by_cases b1 : (p0 &&& (7 : Int32)) = (0 : Int32)
  · skip
    refine Way.by (fun _ k => XS.ifNo XW.here hx rfl (hb hby at_4) rfl ((if0 .ne _).trans (teq b1).2) k) ?_
    show Way _ _ _ _ (s₁.setTop (mkF m 7 #[iv p0, iv p1, iv p2, iv p3, iv p4, iv p5, .unset, .unset, .unset, .unset, .unset, .unset, .unset, .unset, .unset, .unset, .unset] []))
    refine Way.by (fun _ k => XS.aconstNull XW.here hx rfl (hb hby at_7) k) ?_
    show Way _ _ _ _ (s₁.setTop (mkF m 8 #[iv p0, iv p1, iv p2, iv p3, iv p4, iv p5, .unset, .unset, .unset, .unset, .unset, .unset, .unset, .unset, .unset, .unset, .unset] [.null]))
    obtain ⟨_, _, ⟨T2, L4, k5, n6⟩, -, X3, ⟨Lc7, hQ8, l9, y10, z11⟩, st12⟩ := Jvm.LawKit.callS XW hx (y := (⟨"com/example/bare_orm/bareorm/MappingReader", "trueOrFalse", "(Ljava/lang/String;)Ljava/lang/Boolean;"⟩ : MethodName)) hown0 (mvT hZ0 (tw hw 0 rfl)) (mvT hZ0 (tw hw 1 rfl)) (mvT hZ0 (tw hw 2 rfl)) (mvT hZ0 (tw hw 3 rfl)) (by decide) (backOf (W := 0) (rmTN l Z a0 hw [] uF uT h0 n0 Z0 O0 SV SF STR) hZ0 (tw hw 3 rfl) (tw hw 2 rfl) (by decide) (by decide)) (g := (mkF m 8 #[iv p0, iv p1, iv p2, iv p3, iv p4, iv p5, .unset, .unset, .unset, .unset, .unset, .unset, .unset, .unset, .unset, .unset, .unset] [.null])) rfl (by rw [hml]; rfl) (argsL := [.null]) (rest := []) (lenOf pdTN rfl) rfl (leW rfl) (hb hby at_8) (fun _ _ => ⟨rfl, e0, (leB rfl), (leB rfl)⟩)
    dsimp only [Pt.U, Pt.locs, Pt.cells, Pt.slots] at X3 l9 y10 z11 st12 hQ8
    subst y10 z11
    obtain ⟨rfl, N18, e14⟩ := hQ8
    have N13 : Fr n0 L4 := by rw [l9]; exact Fr.app N0 N18
    refine Way.by st12 ?_
    show Way _ _ _ _ (T2.setTop (mkF m 11 #[iv p0, iv p1, iv p2, iv p3, iv p4, iv p5, .unset, .unset, .unset, .unset, .unset, .unset, .unset, .unset, .unset, .unset, .unset] [(.ref uF)]))
    refine Way.by (fun _ k => XS.astore X3.here hx rfl (hb hby at_11) rfl rfl (l' := #[iv p0, iv p1, iv p2, iv p3, iv p4, iv p5, rv uF, .unset, .unset, .unset, .unset, .unset, .unset, .unset, .unset, .unset, .unset]) rfl k) ?_
    show Way _ _ _ _ (T2.setTop (mkF m 13 #[iv p0, iv p1, iv p2, iv p3, iv p4, iv p5, rv uF, .unset, .unset, .unset, .unset, .unset, .unset, .unset, .unset, .unset, .unset] []))
    refine Way.by (fun _ k => XS.aload X3.here hx rfl (hb hby at_13) rfl rfl k) ?_
    show Way _ _ _ _ (T2.setTop (mkF m 15 #[iv p0, iv p1, iv p2, iv p3, iv p4, iv p5, rv uF, .unset, .unset, .unset, .unset, .unset, .unset, .unset, .unset, .unset, .unset] [(.ref uF)]))
    refine Way.by (fun _ k => XS.ifnullNo X3.here hx rfl (hb hby at_15) rfl k) ?_
    show Way _ _ _ _ (T2.setTop (mkF m 18 #[iv p0, iv p1, iv p2, iv p3, iv p4, iv p5, rv uF, .unset, .unset, .unset, .unset, .unset, .unset, .unset, .unset, .unset, .unset] []))
    refine Way.by (fun _ k => XS.aload X3.here hx rfl (hb hby at_18) rfl rfl k) ?_
    show Way _ _ _ _ (T2.setTop (mkF m 20 #[iv p0, iv p1, iv p2, iv p3, iv p4, iv p5, rv uF, .unset, .unset, .unset, .unset, .unset, .unset, .unset, .unset, .unset, .unset] [(.ref uF)]))
    have Eb20 := Exa.ext O0.2 EF
    have Fb21 := Fld.ext O0.2 FF
    obtain ⟨cq38, kq39, qa40, qb41, qc42⟩ := isOf hZ0 e14 Eb20
    obtain ⟨_, _, ⟨T22, L24, k25, n26⟩, -, X23, ⟨Lc27, hQ28, l29, y30, z31⟩, st32⟩ := X3.virtualBack hx (y := (⟨"java/lang/Boolean", "booleanValue", "()Z"⟩ : MethodName)) (z := (⟨"java/lang/Boolean", "booleanValue", "()Z"⟩ : MethodName)) hown0 (mvT hZ0 (tw hw 6 rfl)) (mvT hZ0 (tw hw 7 rfl)) (notFace_of_selects (args := #[]) (mvT hZ0 (tw hw 9 rfl))) (mvT hZ0 (tw hw 9 rfl)) (mvT hZ0 (tw hw 8 rfl)) (by decide) (backOf (W := 0) (rmBV0 l Z a0 hw [] uF h0 n0 Z0 Fb21) hZ0 (tw hw 10 rfl) (tw hw 5 rfl) (by decide) (by decide)) qa40 qc42 (g := (mkF m 20 #[iv p0, iv p1, iv p2, iv p3, iv p4, iv p5, rv uF, .unset, .unset, .unset, .unset, .unset, .unset, .unset, .unset, .unset, .unset] [(.ref uF)])) rfl (by rw [hml]; rfl) (Steps.refl _) (argsL := []) (rest := []) (lenOf pdBV0 rfl) rfl (leW rfl) (hb hby at_20) (fun _ _ => ⟨rfl, e14, (leB rfl), (leB rfl)⟩)
    dsimp only [Pt.U, Pt.locs, Pt.cells, Pt.slots] at X23 l29 y30 z31 st32 hQ28
    subst y30 z31
    obtain ⟨rfl, N43, e34⟩ := hQ28
    have N33 : Fr n0 L24 := by rw [l29]; exact Fr.app N13 N43
    refine Way.to st32 ?_
    show Way _ _ _ _ (T22.setTop (mkF m 23 #[iv p0, iv p1, iv p2, iv p3, iv p4, iv p5, rv uF, .unset, .unset, .unset, .unset, .unset, .unset, .unset, .unset, .unset, .unset] [(.int 0)]))
    have b45 : (0 : Int32) = (0 : Int32) := by decide
    refine Way.by (fun _ k => XS.ifNo X23.here hx rfl (hb hby at_23) rfl ((if0 .ne _).trans (teq b45).2) k) ?_
    show Way _ _ _ _ (T22.setTop (mkF m 26 #[iv p0, iv p1, iv p2, iv p3, iv p4, iv p5, rv uF, .unset, .unset, .unset, .unset, .unset, .unset, .unset, .unset, .unset, .unset] []))
    refine Way.by (fun _ k => XS.iconst X23.here hx rfl (hb hby at_26) k) ?_
    show Way _ _ _ _ (T22.setTop (mkF m 27 #[iv p0, iv p1, iv p2, iv p3, iv p4, iv p5, rv uF, .unset, .unset, .unset, .unset, .unset, .unset, .unset, .unset, .unset, .unset] [(.int 1)]))
    refine Way.by (fun _ k => XS.goto X23.here hx rfl (pc0 := 27) (pc' := 31) rfl (hb hby at_27) (by decide) (by decide) k) ?_
    show Way _ _ _ _ (T22.setTop (mkF m 31 #[iv p0, iv p1, iv p2, iv p3, iv p4, iv p5, rv uF, .unset, .unset, .unset, .unset, .unset, .unset, .unset, .unset, .unset, .unset] [(.int 1)]))
    refine Way.retH (v := (some (.int (nar .boolean (1 : Int32))))) X23 hS0 (by rw [e34]; exact (Nat.zero_le _)) hZ0 hEL hh e34 HV0 CH0 hlk (fun h => by rw [Bd.returns] at h; cases h) (fun fs hr => retN X23 hx (t := .boolean) Bd.returns (by simp) (hb hby at_31) hr) ?_ (by decide) (by decide)
    show Q0 n0 _ T22.heap _
    rw [e34]
    exact ⟨rfl, N33⟩
  · skip
    refine Way.by (fun _ k => XS.ifYes XW.here hx rfl (pc0 := 4) (pc' := 32) rfl (hb hby at_4) rfl ((if0 .ne _).trans (feq b1).2) (by decide) (by decide) k) ?_
    show Way _ _ _ _ (s₁.setTop (mkF m 32 #[iv p0, iv p1, iv p2, iv p3, iv p4, iv p5, .unset, .unset, .unset, .unset, .unset, .unset, .unset, .unset, .unset, .unset, .unset] []))
    refine Way.by (fun _ k => XS.iloadN XW.here hx rfl (hb hby at_32) rfl k) ?_
    show Way _ _ _ _ (s₁.setTop (mkF m 33 #[iv p0, iv p1, iv p2, iv p3, iv p4, iv p5, .unset, .unset, .unset, .unset, .unset, .unset, .unset, .unset, .unset, .unset, .unset] [(.int p0)]))
    refine Way.by (fun _ k => XS.bipush XW.here hx rfl (hb hby at_33) k) ?_
    show Way _ _ _ _ (s₁.setTop (mkF m 35 #[iv p0, iv p1, iv p2, iv p3, iv p4, iv p5, .unset, .unset, .unset, .unset, .unset, .unset, .unset, .unset, .unset, .unset, .unset] [(.int 6), (.int p0)]))
    refine Way.by (fun _ k => XT.iushr XW.here hx rfl (hb hby at_35) rfl k) ?_
    show Way _ _ _ _ (s₁.setTop (mkF m 36 #[iv p0, iv p1, iv p2, iv p3, iv p4, iv p5, .unset, .unset, .unset, .unset, .unset, .unset, .unset, .unset, .unset, .unset, .unset] [(.int (XT.ushr p0 (6 : Int32)))]))
    refine Way.by (fun _ k => XS.iconst XW.here hx rfl (hb hby at_36) k) ?_
    show Way _ _ _ _ (s₁.setTop (mkF m 37 #[iv p0, iv p1, iv p2, iv p3, iv p4, iv p5, .unset, .unset, .unset, .unset, .unset, .unset, .unset, .unset, .unset, .unset, .unset] [(.int 1), (.int (XT.ushr p0 (6 : Int32)))]))
    refine Way.by (fun _ k => XS.iand XW.here hx rfl (hb hby at_37) rfl k) ?_
    show Way _ _ _ _ (s₁.setTop (mkF m 38 #[iv p0, iv p1, iv p2, iv p3, iv p4, iv p5, .unset, .unset, .unset, .unset, .unset, .unset, .unset, .unset, .unset, .unset, .unset] [(.int ((XT.ushr p0 (6 : Int32)) &&& (1 : Int32)))]))
    by_cases b46 : ((XT.ushr p0 (6 : Int32)) &&& (1 : Int32)) = (0 : Int32)
    · skip
      refine Way.by (fun _ k => XS.ifYes XW.here hx rfl (pc0 := 38) (pc' := 45) rfl (hb hby at_38) rfl ((if0 .eq _).trans (teq b46).1) (by decide) (by decide) k) ?_
      show Way _ _ _ _ (s₁.setTop (mkF m 45 #[iv p0, iv p1, iv p2, iv p3, iv p4, iv p5, .unset, .unset, .unset, .unset, .unset, .unset, .unset, .unset, .unset, .unset, .unset] []))
      refine Way.by (fun _ k => XS.iconst XW.here hx rfl (hb hby at_45) k) ?_
      show Way _ _ _ _ (s₁.setTop (mkF m 46 #[iv p0, iv p1, iv p2, iv p3, iv p4, iv p5, .unset, .unset, .unset, .unset, .unset, .unset, .unset, .unset, .unset, .unset, .unset] [(.int 0)]))
      refine Way.by (fun _ k => XS.istore XW.here hx rfl (hb hby at_46) rfl (l' := #[iv p0, iv p1, iv p2, iv p3, iv p4, iv p5, iv 0, .unset, .unset, .unset, .unset, .unset, .unset, .unset, .unset, .unset, .unset]) rfl k) ?_
      show Way _ _ _ _ (s₁.setTop (mkF m 48 #[iv p0, iv p1, iv p2, iv p3, iv p4, iv p5, iv 0, .unset, .unset, .unset, .unset, .unset, .unset, .unset, .unset, .unset, .unset] []))
      exact seg48 l Z a0 hw ws p0 p1 p2 p3 p4 p5 uF uT h0 n0 Z0 O0 SV SF STR EF FF ET FT p e s m below meth c s₁ Bd hml _ hZ0 hown0 _ hS0 hh s₁ h0 _ XW e0 N0 Z0 (Nat.zero_le _) HV0 CH0 O0 (0 : Int32) 
    · skip
      refine Way.by (fun _ k => XS.ifNo XW.here hx rfl (hb hby at_38) rfl ((if0 .eq _).trans (feq b46).1) k) ?_
      show Way _ _ _ _ (s₁.setTop (mkF m 41 #[iv p0, iv p1, iv p2, iv p3, iv p4, iv p5, .unset, .unset, .unset, .unset, .unset, .unset, .unset, .unset, .unset, .unset, .unset] []))
      refine Way.by (fun _ k => XS.iconst XW.here hx rfl (hb hby at_41) k) ?_
      show Way _ _ _ _ (s₁.setTop (mkF m 42 #[iv p0, iv p1, iv p2, iv p3, iv p4, iv p5, .unset, .unset, .unset, .unset, .unset, .unset, .unset, .unset, .unset, .unset, .unset] [(.int 1)]))
      refine Way.by (fun _ k => XS.goto XW.here hx rfl (pc0 := 42) (pc' := 46) rfl (hb hby at_42) (by decide) (by decide) k) ?_
      show Way _ _ _ _ (s₁.setTop (mkF m 46 #[iv p0, iv p1, iv p2, iv p3, iv p4, iv p5, .unset, .unset, .unset, .unset, .unset, .unset, .unset, .unset, .unset, .unset, .unset] [(.int 1)]))
      refine Way.by (fun _ k => XS.istore XW.here hx rfl (hb hby at_46) rfl (l' := #[iv p0, iv p1, iv p2, iv p3, iv p4, iv p5, iv 1, .unset, .unset, .unset, .unset, .unset, .unset, .unset, .unset, .unset, .unset]) rfl k) ?_
      show Way _ _ _ _ (s₁.setTop (mkF m 48 #[iv p0, iv p1, iv p2, iv p3, iv p4, iv p5, iv 1, .unset, .unset, .unset, .unset, .unset, .unset, .unset, .unset, .unset, .unset] []))
      exact seg48 l Z a0 hw ws p0 p1 p2 p3 p4 p5 uF uT h0 n0 Z0 O0 SV SF STR EF FF ET FT p e s m below meth c s₁ Bd hml _ hZ0 hown0 _ hS0 hh s₁ h0 _ XW e0 N0 Z0 (Nat.zero_le _) HV0 CH0 O0 (1 : Int32) 
set_option maxRecDepth 65536 in
set_option maxHeartbeats 40000000 in
theorem comes_1 {Post : Tables → Env → Array Value → State → Outcome → State → Prop} (hpost : ∀ tb e args s v u, (limb_1_1.after args s (.returned v) u = true ∧ limb_1_2.after args s (.returned v) u = true ∧ True) → ReturnedEndW s (.returned v) u (Jvm.fieldLocs frame_1_writes args s ++ Jvm.arrayLocs frame_1_arrays args s ++ Jvm.staticLocs frame_1_statics s) 24 5248 → Post tb e args s (.returned v) u) :
    ArmFor flags0 classFile x code maxLocals ret World_1 tables_1 room_1 Calls_1 rest_1 Pre_1 Post := by
  intro l hfl _ _ p e ha hc hk s m args below hf hA hF happ hP
  obtain ⟨hcalls, hrest, hpre⟩ := hP
  obtain ⟨-, -, -, hnamed, -, -, -, hat⟩ := (Spec.applies_iff hf).mp happ
  obtain ⟨hg, hn⟩ := and_e (Cond.before_iff.mp (show (Jvm.Cond.and given_1 narrow_1).before args s = true from hpre))
  obtain ⟨hg0, hgr0⟩ := and_e hg
  obtain ⟨hg1, hgr1⟩ := and_e hgr0
  obtain ⟨hg2, hgr2⟩ := and_e hgr1
  obtain ⟨hg3, hgr3⟩ := and_e hgr2
  obtain ⟨hg4, hgr4⟩ := and_e hgr3
  obtain ⟨hg5, hgr5⟩ := and_e hgr4
  obtain ⟨w0, w1, w2, w3, w4, w5, rfl⟩ : ∃ w0 w1 w2 w3 w4 w5 : Value, args = #[w0, w1, w2, w3, w4, w5] := by
    have hs : args.size = 6 := by simpa [Cond.value, given_1] using hg0
    obtain ⟨L⟩ := args
    match L, hs with
    | [w0, w1, w2, w3, w4, w5], _ => exact ⟨w0, w1, w2, w3, w4, w5, rfl⟩
  have hw := fun d (hd : d ∈ tables_1) => atoms_spec (ws := Jvm.Cond.code x code maxLocals ret :: tables_1) hat d (List.mem_cons_of_mem _ hd)
  have hfit : Fit s := fun {y c} hc i hi => by
    obtain ⟨ha, rfl⟩ := Array.getElem?_eq_some_iff.mp hc
    have q := List.all_eq_true.mp ((Array.all_eq_true_iff_forall_mem.mp hF) _ (Array.getElem_mem ha)) i (List.mem_range.mpr hi)
    simpa [Array.getElem?_eq_getElem hi] using q
  obtain ⟨i0, ei0⟩ := is_v hg1
  obtain rfl : w0 = (.int i0) := Option.some.inj ei0
  obtain ⟨i1, ei1⟩ := is_v hg2
  obtain rfl : w1 = (.int i1) := Option.some.inj ei1
  obtain ⟨i2, ei2⟩ := is_v hg3
  obtain rfl : w2 = (.int i2) := Option.some.inj ei2
  obtain ⟨i3, ei3⟩ := is_v hg4
  obtain rfl : w3 = (.int i3) := Option.some.inj ei3
  obtain ⟨i4, ei4⟩ := is_v hg5
  obtain rfl : w4 = (.int i4) := Option.some.inj ei4
  obtain ⟨i5, ei5⟩ := is_v hgr5
  obtain rfl : w5 = (.int i5) := Option.some.inj ei5
  have hs := atoms_of jdkStatics_1 (show (jdkStatics_1.foldr Jvm.Cond.and restOwn_1).before _ s = true from hrest)
  have SV : own_Env s := by
    refine ⟨?_, ?_⟩
    · obtain ⟨G1, ev⟩ := is_v (Cond.before_iff.mp (hs.1 _ (List.mem_of_getElem? (i := 5) rfl)))
      exact ⟨G1, Sta.start ev (Or.inl (hs.1 _ (List.mem_of_getElem? (i := 4) rfl))), envNe ev (hs.1 _ (List.mem_of_getElem? (i := 6) rfl))⟩
    · obtain ⟨G3, ev, rG⟩ := envRef (hs.1 _ (List.mem_of_getElem? (i := 12) rfl))
      exact ⟨G3, Sta.start ev (Or.inl (hs.1 _ (List.mem_of_getElem? (i := 11) rfl))), rG⟩

  have HC : CHv s own_EL s.vm s.heap := CHv.start (own_EW hw) (fun q hq => hcalls.1 q hq) (hs.1 _ (List.mem_of_getElem? (i := 6) rfl)) (tw hw 20 rfl) (tw hw 19 rfl)
  obtain ⟨uF, _, _, _, evF, -⟩ := Cond.exactly_spec (hs.1 _ (List.mem_of_getElem? (i := 2) rfl))
  have SF := Sta.start evF (Or.inl (hs.1 _ (List.mem_of_getElem? (i := 1) rfl)))
  have EF := Exa.start evF (Cond.before_iff.mp (hs.1 _ (List.mem_of_getElem? (i := 2) rfl)))
  have FF := fldStart evF (Cond.before_iff.mp (hs.1 _ (List.mem_of_getElem? (i := 3) rfl)))
  obtain ⟨uT, _, _, _, evT, -⟩ := Cond.exactly_spec (hs.1 _ (List.mem_of_getElem? (i := 15) rfl))
  have STR := Sta.start evT (Or.inl (hs.1 _ (List.mem_of_getElem? (i := 14) rfl)))
  have ET := Exa.start evT (Cond.before_iff.mp (hs.1 _ (List.mem_of_getElem? (i := 15) rfl)))
  have FT := fldStart evT (Cond.before_iff.mp (hs.1 _ (List.mem_of_getElem? (i := 16) rfl)))
  obtain ⟨n, o, h1, h2, h3, _, L, rfl, ⟨rfl, N⟩, -, hq⟩ := rm0 l s _ hw tables_1 i0 i1 i2 i3 i4 i5 uF uT s.heap s.heap.size (Nat.le_refl _) (Old.start s) SV SF STR EF FF ET FT p e ha hc hk s m _ below hf ((Spec.applies_iff_loose hf).mp happ).1 ⟨rfl, State.Warmed39.refl s, rfl, HC⟩ trivial
  refine ⟨n, _, h1, h2, h3, hpost _ _ _ _ _ _ ⟨Cond.after_iff.mpr rfl, Cond.after_iff.mpr (eq_i res_at (Term.int_eval (1)) rfl), trivial⟩ ⟨hq.1, hq.2.1, hq.2.2.1, (hq.2.2.2.sift fun y hy => Or.inr (N y hy)).mono (by decide) (by decide)⟩⟩
theorem main_1_1 : Claimed_1_1 := comes_1 fun _ _ _ _ _ _ h hF => ⟨h.1, hF⟩
theorem main_1_2 : Claimed_1_2 := comes_1 fun _ _ _ _ _ _ h hF => ⟨h.2.1, hF⟩
end Jvm.Pilot.@@N@@
namespace Jvm.Pilot.@@N@@
open Jvm Jvm.ClassFile Sem Op Lib Jvm.Free Jvm.Stand Jvm.Pilot.@@N@@.Jvm.D
/-! MADE BY PROGRAM (witnessworld.py) out of the Statement's table words and the real class files: 21 classes; the members and pool entries that the words name. The judged class is class 1, her method 1. -/
namespace start1
open Jvm.ClassFile
def u (s : String) : CpInfo := .utf8 (stringToUtf16 s)
/-- a pool by its gaps: so many unusable entries, then the entry; so many at the end -/
def gap : Nat → List CpInfo → List CpInfo
  | 0, r => r
  | n + 1, r => .unusable :: gap n r
def poolList (es : List (Nat × CpInfo)) (last : Nat) : List CpInfo := es.foldr (fun e r => gap e.1 (e.2 :: r)) (gap last [])
def pool (es : List (Nat × CpInfo)) (last : Nat) : Array CpInfo := ⟨poolList es last⟩
def fileOf (pool : Array CpInfo) (this : Nat) (attrs : Array Attribute := #[]) (ms : Array MethodInfo := #[]) (fl : Nat := 33) (sup : Nat := 0) (ifs : Array Nat := #[]) (fds : Array FieldInfo := #[]) : ClassFile where
  minorVersion := 0
  majorVersion := 65
  constantPool := pool
  accessFlags := fl
  thisClass := this
  superClass := sup
  interfaces := ifs
  fields := fds
  methods := ms
  attributes := attrs
def plain (name : String) (sup : Option ClassId) : Class where
  name := name
  kind := .ordinary
  loader := none
  accessFlags := 33
  super := sup
  interfaces := #[]
  cf := none
  fields := #[]
  methods := #[]
  instanceTypes := #[]
  staticTypes := #[]
  resolved := #[]
  callSites := []
  init := .initialized
  statics := none
  mirror := none

def pool0 : Array CpInfo := pool [(5, u "<init>"), (0, u "()V"), (1, .class_ 10), (1, u "java/lang/Object")] 113

def k0c0 : Code := { maxStack := 0, maxLocals := 1, code := object_method_1_code, exceptionTable := #[], attributes := #[] }
def k0m0 : Method := { name := "<init>", desc := "()V", sig := { parameters := [], returnType := none }, accessFlags := 1, code := some k0c0 }
/-- java/lang/Object -/
def k0 : Class := { plain "java/lang/Object" none with
  accessFlags := 33
  interfaces := #[]
  cf := some (fileOf pool0 8 #[] #[{ accessFlags := 1, nameIndex := 5, descriptorIndex := 6, attributes := #[] }] 33 0 #[] #[])
  fields := #[]
  methods := #[k0m0]
  instanceTypes := #[]
  staticTypes := #[]
  resolved := Array.replicate 124 none
  statics := none }

def pool1 : Array CpInfo := pool [(2, .class_ 4), (1, u "java/lang/Object"), (0, u "<init>"), (0, u "()V"), (0, .methodref 8 9), (0, .class_ 10), (0, .nameAndType 11 12), (0, u "com/example/bare_orm/bareorm/MappingReader"), (0, u "trueOrFalse"), (0, u "(Ljava/lang/String;)Ljava/lang/Boolean;"), (0, .methodref 14 15), (0, .class_ 16), (0, .nameAndType 17 18), (0, u "java/lang/Boolean"), (0, u "booleanValue"), (0, u "()Z"), (0, .methodref 20 21), (0, .class_ 22), (0, .nameAndType 23 24), (0, u "com/example/bare_orm/bareorm/MappingReaderTrueOrFalsePinLaw"), (0, u "pick"), (0, u "(IZI)C"), (0, .class_ 26), (0, u "java/lang/String"), (0, .methodref 20 28), (0, .nameAndType 29 30), (0, u "chars"), (0, u "(ICCCCC)[C"), (0, .methodref 25 32), (0, .nameAndType 5 33), (0, u "([C)V"), (0, .string 35), (0, u "false"), (0, .methodref 25 37), (0, .nameAndType 38 39), (0, u "charAt"), (0, u "(I)C"), (0, .string 41), (0, u "truee"), (2, u "law"), (0, u "(IIIIII)Z")] 3

def k1m0 : Method := { name := "<init>", desc := "()V", sig := { parameters := [], returnType := none }, accessFlags := 1, code := none }
def k1c1 : Code := { maxStack := 8, maxLocals := 17, code := code, exceptionTable := #[], attributes := #[] }
def k1m1 : Method := { name := "law", desc := "(IIIIII)Z", sig := { parameters := [.int, .int, .int, .int, .int, .int], returnType := some .boolean }, accessFlags := 9, code := some k1c1 }
def k1c2 : Code := { maxStack := 2, maxLocals := 3, code := method_3_code, exceptionTable := #[], attributes := #[] }
def k1m2 : Method := { name := "pick", desc := "(IZI)C", sig := { parameters := [.int, .boolean, .int], returnType := some .char }, accessFlags := 10, code := some k1c2 }
def k1c3 : Code := { maxStack := 4, maxLocals := 6, code := method_4_code, exceptionTable := #[], attributes := #[] }
def k1m3 : Method := { name := "chars", desc := "(ICCCCC)[C", sig := { parameters := [.int, .char, .char, .char, .char, .char], returnType := some (.array .char) }, accessFlags := 10, code := some k1c3 }
/-- com/example/bare_orm/bareorm/MappingReaderTrueOrFalsePinLaw -/
def k1 : Class := { plain "com/example/bare_orm/bareorm/MappingReaderTrueOrFalsePinLaw" (some 0) with
  accessFlags := 49
  interfaces := #[]
  cf := some (fileOf pool1 20 #[] #[{ accessFlags := 1, nameIndex := 5, descriptorIndex := 6, attributes := #[] }, { accessFlags := 9, nameIndex := 44, descriptorIndex := 45, attributes := #[] }, { accessFlags := 10, nameIndex := 23, descriptorIndex := 24, attributes := #[] }, { accessFlags := 10, nameIndex := 29, descriptorIndex := 30, attributes := #[] }] 49 2 #[] #[])
  fields := #[]
  methods := #[k1m0, k1m1, k1m2, k1m3]
  instanceTypes := #[]
  staticTypes := #[]
  resolved := Array.replicate 49 none
  statics := none }

def pool2 : Array CpInfo := pool [(2, .class_ 4), (1, u "java/lang/Object"), (3, .class_ 10), (1, u "com/example/bare_orm/bareorm/MappingReader"), (0, u "source"), (0, u "Ljava/lang/String;"), (2, u "packageName"), (2, u "defaultLazy"), (2, u "defaultCascades"), (0, u "Ljava/util/Set;"), (2, u "classLoader"), (0, u "Ljava/lang/ClassLoader;"), (32, u "ROOT_CHILDREN"), (29, u "(Ljava/lang/Object;)Z"), (18, u "CLASS_CHILDREN"), (13, .methodref 123 124), (0, .class_ 125), (0, .nameAndType 126 89), (0, u "java/lang/String"), (0, u "equals"), (10, u "ID_CHILDREN"), (48, u "COLUMN_CHILDREN"), (72, u "GENERATOR_CHILDREN"), (2, u "NO_CHILDREN"), (47, .class_ 312), (1, u "com/example/bare_orm/bareorm/MappingReader$ColumnAttributes"), (60, .string 374), (0, u "true"), (3, u "SET_CHILDREN"), (43, u "trueOrFalse"), (0, u "(Ljava/lang/String;)Ljava/lang/Boolean;"), (2, .class_ 428), (1, u "java/lang/Boolean"), (1, .string 431), (0, u "false"), (0, .fieldref 426 433), (0, .nameAndType 434 435), (0, u "FALSE"), (0, u "Ljava/lang/Boolean;"), (0, .fieldref 426 437), (0, .nameAndType 438 435), (0, u "TRUE")] 251

def k2c0 : Code := { maxStack := 2, maxLocals := 2, code := prog_24_method_10_code, exceptionTable := #[], attributes := #[] }
def k2m0 : Method := { name := "trueOrFalse", desc := "(Ljava/lang/String;)Ljava/lang/Boolean;", sig := { parameters := [(.object "java/lang/String")], returnType := some (.object "java/lang/Boolean") }, accessFlags := 8, code := some k2c0 }
/-- com/example/bare_orm/bareorm/MappingReader -/
def k2 : Class := { plain "com/example/bare_orm/bareorm/MappingReader" (some 0) with
  accessFlags := 48
  interfaces := #[]
  cf := some (fileOf pool2 8 #[.nestMembers #[310]] #[{ accessFlags := 8, nameIndex := 422, descriptorIndex := 423, attributes := #[] }] 48 2 #[] #[{ accessFlags := 26, nameIndex := 59, descriptorIndex := 22, attributes := #[] }, { accessFlags := 26, nameIndex := 108, descriptorIndex := 22, attributes := #[] }, { accessFlags := 26, nameIndex := 137, descriptorIndex := 22, attributes := #[] }, { accessFlags := 26, nameIndex := 259, descriptorIndex := 22, attributes := #[] }, { accessFlags := 26, nameIndex := 378, descriptorIndex := 22, attributes := #[] }, { accessFlags := 26, nameIndex := 186, descriptorIndex := 22, attributes := #[] }, { accessFlags := 26, nameIndex := 262, descriptorIndex := 22, attributes := #[] }, { accessFlags := 18, nameIndex := 11, descriptorIndex := 12, attributes := #[] }, { accessFlags := 18, nameIndex := 15, descriptorIndex := 12, attributes := #[] }, { accessFlags := 18, nameIndex := 18, descriptorIndex := 12, attributes := #[] }, { accessFlags := 18, nameIndex := 21, descriptorIndex := 22, attributes := #[] }, { accessFlags := 18, nameIndex := 25, descriptorIndex := 26, attributes := #[] }])
  fields := #[{ name := "ROOT_CHILDREN", type := (.object "java/util/Set"), accessFlags := 26, slot := 0, constantValue := 0 }, { name := "CLASS_CHILDREN", type := (.object "java/util/Set"), accessFlags := 26, slot := 1, constantValue := 0 }, { name := "ID_CHILDREN", type := (.object "java/util/Set"), accessFlags := 26, slot := 2, constantValue := 0 }, { name := "GENERATOR_CHILDREN", type := (.object "java/util/Set"), accessFlags := 26, slot := 3, constantValue := 0 }, { name := "SET_CHILDREN", type := (.object "java/util/Set"), accessFlags := 26, slot := 4, constantValue := 0 }, { name := "COLUMN_CHILDREN", type := (.object "java/util/Set"), accessFlags := 26, slot := 5, constantValue := 0 }, { name := "NO_CHILDREN", type := (.object "java/util/Set"), accessFlags := 26, slot := 6, constantValue := 0 }, { name := "source", type := (.object "java/lang/String"), accessFlags := 18, slot := 0, constantValue := 0 }, { name := "packageName", type := (.object "java/lang/String"), accessFlags := 18, slot := 1, constantValue := 0 }, { name := "defaultLazy", type := (.object "java/lang/String"), accessFlags := 18, slot := 2, constantValue := 0 }, { name := "defaultCascades", type := (.object "java/util/Set"), accessFlags := 18, slot := 3, constantValue := 0 }, { name := "classLoader", type := (.object "java/lang/ClassLoader"), accessFlags := 18, slot := 4, constantValue := 0 }]
  methods := #[k2m0]
  instanceTypes := #[(.object "java/lang/String"), (.object "java/lang/String"), (.object "java/lang/String"), (.object "java/util/Set"), (.object "java/lang/ClassLoader")]
  staticTypes := #[(.object "java/util/Set"), (.object "java/util/Set"), (.object "java/util/Set"), (.object "java/util/Set"), (.object "java/util/Set"), (.object "java/util/Set"), (.object "java/util/Set")]
  resolved := Array.replicate 690 none
  statics := none }

def pool3 : Array CpInfo := pool [(1, .class_ 2), (0, u "java/io/Serializable"), (0, .class_ 4), (0, u "java/lang/Object")] 2

/-- java/io/Serializable -/
def k3 : Class := { plain "java/io/Serializable" (some 0) with
  accessFlags := 1537
  interfaces := #[]
  cf := some (fileOf pool3 1 #[] #[] 1537 3 #[] #[])
  fields := #[]
  methods := #[]
  instanceTypes := #[]
  staticTypes := #[]
  resolved := Array.replicate 7 none
  statics := none }

def pool4 : Array CpInfo := pool [(1, .class_ 2), (0, u "java/lang/Comparable"), (0, .class_ 4), (0, u "java/lang/Object")] 7

/-- java/lang/Comparable -/
def k4 : Class := { plain "java/lang/Comparable" (some 0) with
  accessFlags := 1537
  interfaces := #[]
  cf := some (fileOf pool4 1 #[] #[] 1537 3 #[] #[])
  fields := #[]
  methods := #[]
  instanceTypes := #[]
  staticTypes := #[]
  resolved := Array.replicate 12 none
  statics := none }

def pool5 : Array CpInfo := pool [(1, .class_ 2), (0, u "java/lang/constant/Constable"), (0, .class_ 4), (0, u "java/lang/Object")] 6

/-- java/lang/constant/Constable -/
def k5 : Class := { plain "java/lang/constant/Constable" (some 0) with
  accessFlags := 1537
  interfaces := #[]
  cf := some (fileOf pool5 1 #[] #[] 1537 3 #[] #[])
  fields := #[]
  methods := #[]
  instanceTypes := #[]
  staticTypes := #[]
  resolved := Array.replicate 11 none
  statics := none }

def pool6 : Array CpInfo := pool [(2, .class_ 4), (1, u "java/lang/Object"), (2, .fieldref 8 9), (0, .class_ 10), (0, .nameAndType 11 12), (0, u "java/lang/Boolean"), (0, u "value"), (0, u "Z"), (16, u "TRUE"), (0, u "Ljava/lang/Boolean;"), (2, u "FALSE"), (10, u "booleanValue"), (0, u "()Z"), (41, u "TYPE"), (0, u "Ljava/lang/Class;"), (0, .class_ 90), (0, u "java/io/Serializable"), (0, .class_ 92), (0, u "java/lang/Comparable"), (0, .class_ 94), (0, u "java/lang/constant/Constable"), (2, u "serialVersionUID"), (0, u "J")] 53

def k6c0 : Code := { maxStack := 1, maxLocals := 1, code := jdk_2055_method_4_code, exceptionTable := #[], attributes := #[] }
def k6m0 : Method := { name := "booleanValue", desc := "()Z", sig := { parameters := [], returnType := some .boolean }, accessFlags := 1, code := some k6c0 }
/-- java/lang/Boolean -/
def k6 : Class := { plain "java/lang/Boolean" (some 0) with
  accessFlags := 49
  interfaces := #[3, 4, 5]
  cf := some (fileOf pool6 8 #[] #[{ accessFlags := 1, nameIndex := 44, descriptorIndex := 45, attributes := #[] }] 49 2 #[89, 91, 93] #[{ accessFlags := 25, nameIndex := 29, descriptorIndex := 30, attributes := #[] }, { accessFlags := 25, nameIndex := 33, descriptorIndex := 30, attributes := #[] }, { accessFlags := 25, nameIndex := 87, descriptorIndex := 88, attributes := #[] }, { accessFlags := 18, nameIndex := 11, descriptorIndex := 12, attributes := #[] }, { accessFlags := 26, nameIndex := 97, descriptorIndex := 98, attributes := #[] }])
  fields := #[{ name := "TRUE", type := (.object "java/lang/Boolean"), accessFlags := 25, slot := 0, constantValue := 0 }, { name := "FALSE", type := (.object "java/lang/Boolean"), accessFlags := 25, slot := 1, constantValue := 0 }, { name := "TYPE", type := (.object "java/lang/Class"), accessFlags := 25, slot := 2, constantValue := 0 }, { name := "value", type := .boolean, accessFlags := 18, slot := 0, constantValue := 0 }, { name := "serialVersionUID", type := .long, accessFlags := 26, slot := 3, constantValue := 0 }]
  methods := #[k6m0]
  instanceTypes := #[.boolean]
  staticTypes := #[(.object "java/lang/Boolean"), (.object "java/lang/Boolean"), (.object "java/lang/Class"), .long]
  resolved := Array.replicate 152 none
  statics := some 0 }

def pool7 : Array CpInfo := pool [(2, .class_ 4), (1, u "java/lang/CharSequence"), (42, .class_ 48), (0, u "java/lang/CharSequence$1CodePointIterator"), (10, .class_ 60), (0, u "java/lang/CharSequence$1CharIterator"), (5, .class_ 67), (0, u "java/lang/Object")] 63

/-- java/lang/CharSequence -/
def k7 : Class := { plain "java/lang/CharSequence" (some 0) with
  accessFlags := 1537
  interfaces := #[]
  cf := some (fileOf pool7 2 #[.nestMembers #[47, 59]] #[] 1537 66 #[] #[])
  fields := #[]
  methods := #[]
  instanceTypes := #[]
  staticTypes := #[]
  resolved := Array.replicate 131 none
  statics := none }

def pool8 : Array CpInfo := pool [(1, .class_ 2), (0, u "java/lang/constant/ConstantDesc"), (0, .class_ 4), (0, u "java/lang/Object")] 32

/-- java/lang/constant/ConstantDesc -/
def k8 : Class := { plain "java/lang/constant/ConstantDesc" (some 0) with
  accessFlags := 1537
  interfaces := #[]
  cf := some (fileOf pool8 1 #[] #[] 1537 3 #[] #[])
  fields := #[]
  methods := #[]
  instanceTypes := #[]
  staticTypes := #[]
  resolved := Array.replicate 37 none
  statics := none }

def pool9 : Array CpInfo := pool [(1, .methodref 2 3), (0, .class_ 4), (0, .nameAndType 5 6), (0, u "java/lang/Object"), (0, u "<init>"), (0, u "()V"), (0, .string 8), (0, u ""), (0, .fieldref 10 11), (0, .class_ 12), (0, .nameAndType 13 14), (0, u "java/lang/String"), (0, u "value"), (0, u "[B"), (0, .fieldref 10 16), (0, .nameAndType 17 18), (0, u "coder"), (0, u "B"), (2, u "hash"), (0, u "I"), (2, u "hashIsZero"), (0, u "Z"), (0, .methodref 10 28), (0, .nameAndType 5 29), (0, u "([CIILjava/lang/Void;)V"), (8, .fieldref 10 39), (0, .nameAndType 40 26), (0, u "COMPACT_STRINGS"), (1, .class_ 44), (1, u "java/lang/StringUTF16"), (0, u "compress"), (1, .methodref 42 48), (0, .nameAndType 49 50), (0, u "coderFromArrayLen"), (0, u "([BI)B"), (56, .class_ 109), (1, u "java/lang/StringLatin1"), (32, u "()Z"), (34, .methodref 42 178), (0, .nameAndType 45 179), (0, u "([CII)[B"), (183, u "([BI)C"), (27, u "(II)V"), (35, u "(I)C"), (64, .methodref 10 493), (0, .nameAndType 494 142), (0, u "isLatin1"), (0, .methodref 107 496), (0, .nameAndType 497 363), (0, u "charAt"), (3, u "checkIndex"), (39, .methodref 107 542), (0, .nameAndType 543 544), (0, u "equals"), (0, u "([B[B)Z"), (28, u "(Ljava/lang/Object;)Z"), (1, .class_ 576), (0, u "java/lang/CharSequence"), (22, u "CASE_INSENSITIVE_ORDER"), (0, u "Ljava/util/Comparator;"), (409, u "([C)V"), (42, .fieldref 1054 1055), (0, .class_ 1056), (0, .nameAndType 1057 1058), (0, u "jdk/internal/util/Preconditions"), (0, u "SIOOBE_FORMATTER"), (0, u "Ljava/util/function/BiFunction;"), (0, .methodref 1054 1060), (0, .nameAndType 501 1061), (0, u "(IILjava/util/function/BiFunction;)I"), (39, u "serialPersistentFields"), (0, u "[Ljava/io/ObjectStreamField;"), (0, .class_ 1104), (0, u "java/lang/String$CaseInsensitiveComparator"), (1, .class_ 1107), (0, u "java/io/Serializable"), (0, .class_ 1109), (0, u "java/lang/Comparable"), (0, .class_ 1111), (0, u "java/lang/constant/Constable"), (0, .class_ 1113), (0, u "java/lang/constant/ConstantDesc"), (2, u "serialVersionUID"), (0, u "J"), (3, u "REPL"), (0, u "C"), (2, u "LATIN1"), (1, u "UTF16")] 323

def k9m0 : Method := { name := "<init>", desc := "()V", sig := { parameters := [], returnType := none }, accessFlags := 1, code := none }
def k9c1 : Code := { maxStack := 5, maxLocals := 2, code := jdk_42_method_3_code, exceptionTable := #[], attributes := #[] }
def k9m1 : Method := { name := "<init>", desc := "([C)V", sig := { parameters := [(.array .char)], returnType := none }, accessFlags := 1, code := some k9c1 }
def k9c2 : Code := { maxStack := 2, maxLocals := 2, code := jdk_42_method_56_code, exceptionTable := #[], attributes := #[] }
def k9m2 : Method := { name := "charAt", desc := "(I)C", sig := { parameters := [.int], returnType := some .char }, accessFlags := 1, code := some k9c2 }
def k9c3 : Code := { maxStack := 2, maxLocals := 3, code := jdk_42_method_66_code, exceptionTable := #[], attributes := #[] }
def k9m3 : Method := { name := "equals", desc := "(Ljava/lang/Object;)Z", sig := { parameters := [(.object "java/lang/Object")], returnType := some .boolean }, accessFlags := 1, code := some k9c3 }
def k9c4 : Code := { maxStack := 4, maxLocals := 6, code := jdk_42_method_149_code, exceptionTable := #[], attributes := #[] }
def k9m4 : Method := { name := "<init>", desc := "([CIILjava/lang/Void;)V", sig := { parameters := [(.array .char), .int, .int, (.object "java/lang/Void")], returnType := none }, accessFlags := 2, code := some k9c4 }
def k9c5 : Code := { maxStack := 1, maxLocals := 1, code := jdk_42_method_154_code, exceptionTable := #[], attributes := #[] }
def k9m5 : Method := { name := "isLatin1", desc := "()Z", sig := { parameters := [], returnType := some .boolean }, accessFlags := 0, code := some k9c5 }
def k9c6 : Code := { maxStack := 3, maxLocals := 2, code := jdk_42_method_155_code, exceptionTable := #[], attributes := #[] }
def k9m6 : Method := { name := "checkIndex", desc := "(II)V", sig := { parameters := [.int, .int], returnType := none }, accessFlags := 8, code := some k9c6 }
/-- java/lang/String -/
def k9 : Class := { plain "java/lang/String" (some 0) with
  accessFlags := 49
  interfaces := #[3, 4, 7, 5, 8]
  cf := some (fileOf pool9 10 #[.nestMembers #[1103]] #[{ accessFlags := 1, nameIndex := 5, descriptorIndex := 6, attributes := #[] }, { accessFlags := 1, nameIndex := 5, descriptorIndex := 1010, attributes := #[] }, { accessFlags := 1, nameIndex := 497, descriptorIndex := 427, attributes := #[] }, { accessFlags := 1, nameIndex := 543, descriptorIndex := 573, attributes := #[] }, { accessFlags := 2, nameIndex := 5, descriptorIndex := 29, attributes := #[] }, { accessFlags := 0, nameIndex := 494, descriptorIndex := 142, attributes := #[] }, { accessFlags := 8, nameIndex := 501, descriptorIndex := 391, attributes := #[] }] 49 2 #[1106, 1108, 575, 1110, 1112] #[{ accessFlags := 18, nameIndex := 13, descriptorIndex := 14, attributes := #[] }, { accessFlags := 18, nameIndex := 17, descriptorIndex := 18, attributes := #[] }, { accessFlags := 2, nameIndex := 21, descriptorIndex := 22, attributes := #[] }, { accessFlags := 2, nameIndex := 25, descriptorIndex := 26, attributes := #[] }, { accessFlags := 26, nameIndex := 1116, descriptorIndex := 1117, attributes := #[] }, { accessFlags := 24, nameIndex := 40, descriptorIndex := 26, attributes := #[] }, { accessFlags := 26, nameIndex := 1101, descriptorIndex := 1102, attributes := #[] }, { accessFlags := 26, nameIndex := 1121, descriptorIndex := 1122, attributes := #[] }, { accessFlags := 25, nameIndex := 599, descriptorIndex := 600, attributes := #[] }, { accessFlags := 24, nameIndex := 1125, descriptorIndex := 18, attributes := #[] }, { accessFlags := 24, nameIndex := 1127, descriptorIndex := 18, attributes := #[] }])
  fields := #[{ name := "value", type := (.array .byte), accessFlags := 18, slot := 0, constantValue := 0 }, { name := "coder", type := .byte, accessFlags := 18, slot := 1, constantValue := 0 }, { name := "hash", type := .int, accessFlags := 2, slot := 2, constantValue := 0 }, { name := "hashIsZero", type := .boolean, accessFlags := 2, slot := 3, constantValue := 0 }, { name := "serialVersionUID", type := .long, accessFlags := 26, slot := 0, constantValue := 0 }, { name := "COMPACT_STRINGS", type := .boolean, accessFlags := 24, slot := 1, constantValue := 0 }, { name := "serialPersistentFields", type := (.array (.object "java/io/ObjectStreamField")), accessFlags := 26, slot := 2, constantValue := 0 }, { name := "REPL", type := .char, accessFlags := 26, slot := 3, constantValue := 0 }, { name := "CASE_INSENSITIVE_ORDER", type := (.object "java/util/Comparator"), accessFlags := 25, slot := 4, constantValue := 0 }, { name := "LATIN1", type := .byte, accessFlags := 24, slot := 5, constantValue := 0 }, { name := "UTF16", type := .byte, accessFlags := 24, slot := 6, constantValue := 0 }]
  methods := #[k9m0, k9m1, k9m2, k9m3, k9m4, k9m5, k9m6]
  instanceTypes := #[(.array .byte), .byte, .int, .boolean]
  staticTypes := #[.long, .boolean, (.array (.object "java/io/ObjectStreamField")), .char, (.object "java/util/Comparator"), .byte, .byte]
  resolved := Array.replicate 1451 none
  statics := some 1 }

def pool10 : Array CpInfo := pool [(1, .class_ 2), (0, u "java/lang/String"), (1, .class_ 6), (1, u "java/lang/Object"), (0, u "<init>"), (0, u "()V"), (0, .methodref 1 10), (0, .nameAndType 11 12), (0, u "checkIndex"), (0, u "(II)V"), (1, .class_ 16), (1, u "java/lang/StringLatin1"), (36, u "([BI)C"), (67, u "$assertionsDisabled"), (0, u "Z"), (98, .class_ 223), (1, u "java/lang/StringLatin1$LinesSpliterator"), (28, u "charAt"), (28, u "equals"), (0, u "([B[B)Z"), (107, .class_ 391), (0, u "java/lang/StringLatin1$CharsSpliterator")] 3

def k10m0 : Method := { name := "<init>", desc := "()V", sig := { parameters := [], returnType := none }, accessFlags := 0, code := none }
def k10c1 : Code := { maxStack := 2, maxLocals := 2, code := jdk_43_method_2_code, exceptionTable := #[], attributes := #[] }
def k10m1 : Method := { name := "charAt", desc := "([BI)C", sig := { parameters := [(.array .byte), .int], returnType := some .char }, accessFlags := 9, code := some k10c1 }
def k10c2 : Code := { maxStack := 3, maxLocals := 3, code := jdk_43_method_13_code, exceptionTable := #[], attributes := #[] }
def k10m2 : Method := { name := "equals", desc := "([B[B)Z", sig := { parameters := [(.array .byte), (.array .byte)], returnType := some .boolean }, accessFlags := 9, code := some k10c2 }
/-- java/lang/StringLatin1 -/
def k10 : Class := { plain "java/lang/StringLatin1" (some 0) with
  accessFlags := 48
  interfaces := #[]
  cf := some (fileOf pool10 14 #[.nestMembers #[390, 221]] #[{ accessFlags := 0, nameIndex := 7, descriptorIndex := 8, attributes := #[] }, { accessFlags := 9, nameIndex := 252, descriptorIndex := 53, attributes := #[] }, { accessFlags := 9, nameIndex := 281, descriptorIndex := 282, attributes := #[] }] 48 4 #[] #[{ accessFlags := 4120, nameIndex := 121, descriptorIndex := 122, attributes := #[] }])
  fields := #[{ name := "$assertionsDisabled", type := .boolean, accessFlags := 4120, slot := 0, constantValue := 0 }]
  methods := #[k10m0, k10m1, k10m2]
  instanceTypes := #[]
  staticTypes := #[.boolean]
  resolved := Array.replicate 395 none
  statics := none }

def pool11 : Array CpInfo := pool [(2, .class_ 4), (1, u "java/lang/Object"), (0, u "<init>"), (0, u "()V"), (17, .class_ 26), (1, u "jdk/internal/util/Preconditions"), (6, u "checkIndex"), (21, .class_ 56), (0, u "jdk/internal/util/Preconditions$4"), (57, .class_ 115), (0, u "jdk/internal/util/Preconditions$1"), (7, u "SIOOBE_FORMATTER"), (0, u "Ljava/util/function/BiFunction;"), (0, .class_ 126), (0, u "jdk/internal/util/Preconditions$2"), (3, u "AIOOBE_FORMATTER"), (0, .class_ 132), (0, u "jdk/internal/util/Preconditions$3"), (3, u "IOOBE_FORMATTER"), (41, u "(IILjava/util/function/BiFunction;)I")] 15

def k11m0 : Method := { name := "<init>", desc := "()V", sig := { parameters := [], returnType := none }, accessFlags := 1, code := none }
def k11c1 : Code := { maxStack := 3, maxLocals := 3, code := jdk_41_method_11_code, exceptionTable := #[], attributes := #[] }
def k11m1 : Method := { name := "checkIndex", desc := "(IILjava/util/function/BiFunction;)I", sig := { parameters := [.int, .int, (.object "java/util/function/BiFunction")], returnType := some .int }, accessFlags := 9, code := some k11c1 }
/-- jdk/internal/util/Preconditions -/
def k11 : Class := { plain "jdk/internal/util/Preconditions" (some 0) with
  accessFlags := 33
  interfaces := #[]
  cf := some (fileOf pool11 24 #[.nestMembers #[55, 131, 125, 114]] #[{ accessFlags := 1, nameIndex := 5, descriptorIndex := 6, attributes := #[] }, { accessFlags := 9, nameIndex := 33, descriptorIndex := 178, attributes := #[] }] 33 2 #[] #[{ accessFlags := 25, nameIndex := 123, descriptorIndex := 124, attributes := #[] }, { accessFlags := 25, nameIndex := 130, descriptorIndex := 124, attributes := #[] }, { accessFlags := 25, nameIndex := 136, descriptorIndex := 124, attributes := #[] }])
  fields := #[{ name := "SIOOBE_FORMATTER", type := (.object "java/util/function/BiFunction"), accessFlags := 25, slot := 0, constantValue := 0 }, { name := "AIOOBE_FORMATTER", type := (.object "java/util/function/BiFunction"), accessFlags := 25, slot := 1, constantValue := 0 }, { name := "IOOBE_FORMATTER", type := (.object "java/util/function/BiFunction"), accessFlags := 25, slot := 2, constantValue := 0 }]
  methods := #[k11m0, k11m1]
  instanceTypes := #[]
  staticTypes := #[(.object "java/util/function/BiFunction"), (.object "java/util/function/BiFunction"), (.object "java/util/function/BiFunction")]
  resolved := Array.replicate 194 none
  statics := some 2 }

def pool12 : Array CpInfo := pool [(6, .class_ 8), (1, u "java/lang/Object"), (0, u "<init>"), (0, u "()V"), (1, .class_ 14), (1, u "java/lang/StringUTF16"), (31, u "$assertionsDisabled"), (0, u "Z"), (13, u "HI_BYTE_SHIFT"), (0, u "I"), (2, u "LO_BYTE_SHIFT"), (49, .methodref 12 116), (0, .nameAndType 117 118), (0, u "compress"), (0, u "([CI[BII)I"), (3, u "([CII)[B"), (138, u "coderFromArrayLen"), (0, u "([BI)B"), (106, .class_ 371), (1, u "java/lang/StringUTF16$LinesSpliterator"), (58, u "MAX_LENGTH"), (196, .class_ 628), (0, u "java/lang/StringUTF16$CodePointsSpliterator"), (0, .class_ 630), (0, u "java/lang/StringUTF16$CharsSpliterator")] 4

def k12m0 : Method := { name := "<init>", desc := "()V", sig := { parameters := [], returnType := none }, accessFlags := 0, code := none }
def k12c1 : Code := { maxStack := 2, maxLocals := 2, code := jdk_52_method_15_code, exceptionTable := #[], attributes := #[] }
def k12m1 : Method := { name := "coderFromArrayLen", desc := "([BI)B", sig := { parameters := [(.array .byte), .int], returnType := some .byte }, accessFlags := 8, code := some k12c1 }
def k12c2 : Code := { maxStack := 5, maxLocals := 6, code := jdk_52_method_16_code, exceptionTable := #[], attributes := #[] }
def k12m2 : Method := { name := "compress", desc := "([CII)[B", sig := { parameters := [(.array .char), .int, .int], returnType := some (.array .byte) }, accessFlags := 9, code := some k12c2 }
def k12c3 : Code := { maxStack := 3, maxLocals := 7, code := jdk_52_method_21_code, exceptionTable := #[], attributes := #[] }
def k12m3 : Method := { name := "compress", desc := "([CI[BII)I", sig := { parameters := [(.array .char), .int, (.array .byte), .int, .int], returnType := some .int }, accessFlags := 9, code := some k12c3 }
/-- java/lang/StringUTF16 -/
def k12 : Class := { plain "java/lang/StringUTF16" (some 0) with
  accessFlags := 48
  interfaces := #[]
  cf := some (fileOf pool12 12 #[.nestMembers #[627, 629, 369]] #[{ accessFlags := 0, nameIndex := 9, descriptorIndex := 10, attributes := #[] }, { accessFlags := 8, nameIndex := 261, descriptorIndex := 262, attributes := #[] }, { accessFlags := 9, nameIndex := 117, descriptorIndex := 122, attributes := #[] }, { accessFlags := 9, nameIndex := 117, descriptorIndex := 118, attributes := #[] }] 48 6 #[] #[{ accessFlags := 26, nameIndex := 61, descriptorIndex := 62, attributes := #[] }, { accessFlags := 26, nameIndex := 65, descriptorIndex := 62, attributes := #[] }, { accessFlags := 24, nameIndex := 430, descriptorIndex := 62, attributes := #[] }, { accessFlags := 4120, nameIndex := 46, descriptorIndex := 47, attributes := #[] }])
  fields := #[{ name := "HI_BYTE_SHIFT", type := .int, accessFlags := 26, slot := 0, constantValue := 0 }, { name := "LO_BYTE_SHIFT", type := .int, accessFlags := 26, slot := 1, constantValue := 0 }, { name := "MAX_LENGTH", type := .int, accessFlags := 24, slot := 2, constantValue := 0 }, { name := "$assertionsDisabled", type := .boolean, accessFlags := 4120, slot := 3, constantValue := 0 }]
  methods := #[k12m0, k12m1, k12m2, k12m3]
  instanceTypes := #[]
  staticTypes := #[.int, .int, .int, .boolean]
  resolved := Array.replicate 635 none
  statics := none }

def pool13 : Array CpInfo := pool [(9, u "<init>"), (6, .class_ 18), (1, u "java/lang/Object"), (0, u "()V"), (1, .class_ 23), (1, u "jdk/internal/util/ArraysSupport"), (0, u "LOG2_ARRAY_LONG_INDEX_SCALE"), (0, u "I"), (2, u "U"), (0, u "Ljdk/internal/misc/Unsafe;"), (8, u "BIG_ENDIAN"), (0, u "Z"), (8, u "LOG2_BYTE_BIT_SIZE"), (4, u "LOG2_ARRAY_INT_INDEX_SCALE"), (54, u "JLA"), (0, u "Ljdk/internal/access/JavaLangAccess;"), (11, u "LOG2_ARRAY_BOOLEAN_INDEX_SCALE"), (9, u "LOG2_ARRAY_BYTE_INDEX_SCALE"), (5, u "LOG2_ARRAY_CHAR_INDEX_SCALE"), (5, u "LOG2_ARRAY_SHORT_INDEX_SCALE"), (18, u "LOG2_ARRAY_FLOAT_INDEX_SCALE"), (24, u "LOG2_ARRAY_DOUBLE_INDEX_SCALE"), (89, u "T_BOOLEAN"), (2, u "T_CHAR"), (1, u "T_FLOAT"), (1, u "T_DOUBLE"), (1, u "T_BYTE"), (1, u "T_SHORT"), (1, u "T_INT"), (1, u "T_LONG"), (1, u "SOFT_MAX_ARRAY_LENGTH")] 83

def k13m0 : Method := { name := "<init>", desc := "()V", sig := { parameters := [], returnType := none }, accessFlags := 2, code := none }
/-- jdk/internal/util/ArraysSupport -/
def k13 : Class := { plain "jdk/internal/util/ArraysSupport" (some 0) with
  accessFlags := 33
  interfaces := #[]
  cf := some (fileOf pool13 21 #[] #[{ accessFlags := 2, nameIndex := 9, descriptorIndex := 19, attributes := #[] }] 33 16 #[] #[{ accessFlags := 24, nameIndex := 28, descriptorIndex := 29, attributes := #[] }, { accessFlags := 26, nameIndex := 38, descriptorIndex := 39, attributes := #[] }, { accessFlags := 25, nameIndex := 121, descriptorIndex := 25, attributes := #[] }, { accessFlags := 25, nameIndex := 131, descriptorIndex := 25, attributes := #[] }, { accessFlags := 25, nameIndex := 137, descriptorIndex := 25, attributes := #[] }, { accessFlags := 25, nameIndex := 143, descriptorIndex := 25, attributes := #[] }, { accessFlags := 25, nameIndex := 53, descriptorIndex := 25, attributes := #[] }, { accessFlags := 25, nameIndex := 24, descriptorIndex := 25, attributes := #[] }, { accessFlags := 25, nameIndex := 162, descriptorIndex := 25, attributes := #[] }, { accessFlags := 25, nameIndex := 187, descriptorIndex := 25, attributes := #[] }, { accessFlags := 26, nameIndex := 48, descriptorIndex := 25, attributes := #[] }, { accessFlags := 25, nameIndex := 277, descriptorIndex := 25, attributes := #[] }, { accessFlags := 25, nameIndex := 280, descriptorIndex := 25, attributes := #[] }, { accessFlags := 25, nameIndex := 282, descriptorIndex := 25, attributes := #[] }, { accessFlags := 25, nameIndex := 284, descriptorIndex := 25, attributes := #[] }, { accessFlags := 25, nameIndex := 286, descriptorIndex := 25, attributes := #[] }, { accessFlags := 25, nameIndex := 288, descriptorIndex := 25, attributes := #[] }, { accessFlags := 25, nameIndex := 290, descriptorIndex := 25, attributes := #[] }, { accessFlags := 25, nameIndex := 292, descriptorIndex := 25, attributes := #[] }, { accessFlags := 26, nameIndex := 108, descriptorIndex := 109, attributes := #[] }, { accessFlags := 25, nameIndex := 294, descriptorIndex := 25, attributes := #[] }])
  fields := #[{ name := "U", type := (.object "jdk/internal/misc/Unsafe"), accessFlags := 24, slot := 0, constantValue := 0 }, { name := "BIG_ENDIAN", type := .boolean, accessFlags := 26, slot := 1, constantValue := 0 }, { name := "LOG2_ARRAY_BOOLEAN_INDEX_SCALE", type := .int, accessFlags := 25, slot := 2, constantValue := 0 }, { name := "LOG2_ARRAY_BYTE_INDEX_SCALE", type := .int, accessFlags := 25, slot := 3, constantValue := 0 }, { name := "LOG2_ARRAY_CHAR_INDEX_SCALE", type := .int, accessFlags := 25, slot := 4, constantValue := 0 }, { name := "LOG2_ARRAY_SHORT_INDEX_SCALE", type := .int, accessFlags := 25, slot := 5, constantValue := 0 }, { name := "LOG2_ARRAY_INT_INDEX_SCALE", type := .int, accessFlags := 25, slot := 6, constantValue := 0 }, { name := "LOG2_ARRAY_LONG_INDEX_SCALE", type := .int, accessFlags := 25, slot := 7, constantValue := 0 }, { name := "LOG2_ARRAY_FLOAT_INDEX_SCALE", type := .int, accessFlags := 25, slot := 8, constantValue := 0 }, { name := "LOG2_ARRAY_DOUBLE_INDEX_SCALE", type := .int, accessFlags := 25, slot := 9, constantValue := 0 }, { name := "LOG2_BYTE_BIT_SIZE", type := .int, accessFlags := 26, slot := 10, constantValue := 0 }, { name := "T_BOOLEAN", type := .int, accessFlags := 25, slot := 11, constantValue := 0 }, { name := "T_CHAR", type := .int, accessFlags := 25, slot := 12, constantValue := 0 }, { name := "T_FLOAT", type := .int, accessFlags := 25, slot := 13, constantValue := 0 }, { name := "T_DOUBLE", type := .int, accessFlags := 25, slot := 14, constantValue := 0 }, { name := "T_BYTE", type := .int, accessFlags := 25, slot := 15, constantValue := 0 }, { name := "T_SHORT", type := .int, accessFlags := 25, slot := 16, constantValue := 0 }, { name := "T_INT", type := .int, accessFlags := 25, slot := 17, constantValue := 0 }, { name := "T_LONG", type := .int, accessFlags := 25, slot := 18, constantValue := 0 }, { name := "JLA", type := (.object "jdk/internal/access/JavaLangAccess"), accessFlags := 26, slot := 19, constantValue := 0 }, { name := "SOFT_MAX_ARRAY_LENGTH", type := .int, accessFlags := 25, slot := 20, constantValue := 0 }]
  methods := #[k13m0]
  instanceTypes := #[]
  staticTypes := #[(.object "jdk/internal/misc/Unsafe"), .boolean, .int, .int, .int, .int, .int, .int, .int, .int, .int, .int, .int, .int, .int, .int, .int, .int, .int, (.object "jdk/internal/access/JavaLangAccess"), .int]
  resolved := Array.replicate 378 none
  statics := none }

def pool14 : Array CpInfo := pool [(1, u "java/lang/Cloneable"), (0, .class_ 1), (0, u "java/lang/Object"), (0, .class_ 3)] 3

/-- java/lang/Cloneable -/
def k14 : Class := { plain "java/lang/Cloneable" (some 0) with
  accessFlags := 1537
  interfaces := #[]
  cf := some (fileOf pool14 2 #[] #[] 1537 4 #[] #[])
  fields := #[]
  methods := #[]
  instanceTypes := #[]
  staticTypes := #[]
  resolved := Array.replicate 8 none
  statics := none }

/-- the primitive byte -/
def k15 : Class := { plain "byte" none with kind := .primitive 'B', accessFlags := 0x411 }
/-- [B -/
def k16 : Class := { plain "[B" (some 0) with kind := .array 15 .byte, interfaces := #[14, 3], accessFlags := 1041 }

/-- the primitive char -/
def k17 : Class := { plain "char" none with kind := .primitive 'C', accessFlags := 0x411 }
/-- [C -/
def k18 : Class := { plain "[C" (some 0) with kind := .array 17 .char, interfaces := #[14, 3], accessFlags := 1041 }

/-- the primitive int -/
def k19 : Class := { plain "int" none with kind := .primitive 'I', accessFlags := 0x411 }
/-- [I -/
def k20 : Class := { plain "[I" (some 0) with kind := .array 19 .int, interfaces := #[14, 3], accessFlags := 1041 }

def heap : Heap := #[{ cls := 6, slots := #[.ref 4, .ref 3, .null, .long 0], vm := .statics 6 },
  { cls := 9, slots := #[.long 0, .int 1, .null, .int 0, .null, .int 0, .int 0], vm := .statics 9 },
  { cls := 11, slots := #[.null, .null, .null], vm := .statics 11 },
  { cls := 6, slots := #[.int 0], vm := .none },
  { cls := 6, slots := #[.int 1], vm := .none }]
def classes : Array Class := #[k0, k1, k2, k3, k4, k5, k6, k7, k8, k9, k10, k11, k12, k13, k14, k15, k16, k17, k18, k19, k20]
def interned : List (Array UInt16 × Addr) := []
def slotsUsed : Nat := 16
def theMethod : MethodId := ⟨1, 1⟩
def args0 : Array Value := #[.int 4, .int 7, .int 8, .int 9, .int 0, .int 3]
def aboutOver (below : List Frame) : State where
  vm := { classes := classes, interned := interned.toArray }
  heap := heap
  slotsUsed := slotsUsed
  threads := #[{ frames := .invoking theMethod args0 :: below }]
def below0 : List Frame := [.native { method := ⟨0, 0⟩, args := #[] }]
def about1 : State := aboutOver below0
def p0 : Program := .bare "" "" ""
def e0 : Env := launch0.env 0 0 0
theorem w_frames : about1.frames = Frame.invoking theMethod args0 :: below0 := rfl
set_option maxRecDepth 65536 in
theorem w_args : argsFit about1.vm theMethod args0 = true := by decide +kernel
set_option maxRecDepth 65536 in
theorem w_heap : heapFits about1 = true := by decide +kernel
set_option maxRecDepth 65536 in
theorem w_runnable : about1.curStatus? = some .runnable := by decide +kernel
set_option maxRecDepth 65536 in
theorem w_alone : about1.alone = true := by decide +kernel
set_option maxRecDepth 65536 in
theorem w_named : about1.methodNamed? x = some theMethod := by decide +kernel
set_option maxRecDepth 65536 in
theorem w_hears : about1.hears theMethod below0 = true := by decide +kernel
set_option maxRecDepth 65536 in
theorem w_ripe : about1.ripe theMethod args0 below0 = true := by decide +kernel
theorem w_running : about1.status = .running := rfl
set_option maxRecDepth 65536 in
theorem w_room : about1.hasRoom e0.platform room_1 = true :=
  launch0.hasRoom_least _ room_1 (by decide +kernel) (by decide +kernel) (by decide +kernel) (by decide +kernel) (by decide +kernel) (by decide +kernel)
theorem allAtoms_all (ts : List Jvm.Cond) (a : Array Jvm.Value) (st : Jvm.State) : (allAtoms ts).before a st = ts.all (fun c => c.before a st) := by
  induction ts with
  | nil => rfl
  | cons c t ih =>
    show (Jvm.Cond.and c (allAtoms t)).before a st = _
    rw [Jvm.Cond.before_and, ih, List.all_cons]
def words1 : List Jvm.Cond := Jvm.Cond.code x code maxLocals ret :: tables_1
/-- a 'code' word, met by the world's own term for the bytes: nothing is compared byte by byte -/
theorem code_word {y : MethodName} {bytes : ByteArray} {mx : Nat} {rt : Option FieldType} {a : Array Value} {s : State} {m : MethodId} {meth : Method} {c : Code} (h1 : s.methodNamed? y = some m) (h2 : s.vm.method? m = some meth) (h3 : meth.code = some c) (h4 : c.code = bytes)
    (h5 : (c.maxLocals == mx && c.exceptionTable.isEmpty && decide (c.maxStack ≤ mostOperands) && decide (meth.sig.returnType = rt) && !meth.locks && decide (parseMethodDescriptor y.desc = some meth.sig)) = true) : (Jvm.Cond.code y bytes mx rt).before a s = true := by
  simp only [Bool.and_eq_true, beq_iff_eq, Bool.not_eq_true', decide_eq_true_eq] at h5
  obtain ⟨⟨⟨⟨⟨g1, g2⟩, g3⟩, g4⟩, g5⟩, g6⟩ := h5
  simp [Cond.before, Cond.holds, Cond.value, h1, h2, h3, h4, g1, g2, g3, g4, g5, g6]
def isCode : Jvm.Cond → Bool
  | .code _ _ _ _ => true
  | _ => false
theorem all_split {L : List Jvm.Cond} {P : Jvm.Cond → Bool} (h1 : L.all (fun c => isCode c || P c) = true) (h2 : ∀ c ∈ L.filter isCode, P c = true) : L.all P = true := by
  refine List.all_eq_true.mpr fun c hc => ?_
  have h := List.all_eq_true.mp h1 c hc
  rcases Bool.eq_false_or_eq_true (isCode c) with hi | hi
  · exact h2 c (List.mem_filter.mpr ⟨hc, hi⟩)
  · simpa [hi] using h
set_option maxRecDepth 65536 in
theorem w_c0 : (Jvm.Cond.code x code maxLocals ret).before args0 about1 = true := code_word (m := ⟨1, 1⟩) (meth := k1m1) (c := k1c1) (by decide +kernel) rfl rfl rfl (by decide +kernel)
set_option maxRecDepth 65536 in
theorem w_c1 : (Jvm.Cond.code ({ cls := "com/example/bare_orm/bareorm/MappingReader", name := "trueOrFalse", desc := "(Ljava/lang/String;)Ljava/lang/Boolean;" } : Jvm.MethodName) prog_24_method_10_code (2 : Nat) (Option.some (Jvm.ClassFile.FieldType.object "java/lang/Boolean"))).before args0 about1 = true := code_word (m := ⟨2, 0⟩) (meth := k2m0) (c := k2c0) (by decide +kernel) rfl rfl rfl (by decide +kernel)
set_option maxRecDepth 65536 in
theorem w_c2 : (Jvm.Cond.code ({ cls := "java/lang/Boolean", name := "booleanValue", desc := "()Z" } : Jvm.MethodName) jdk_2055_method_4_code (1 : Nat) (Option.some Jvm.ClassFile.FieldType.boolean)).before args0 about1 = true := code_word (m := ⟨6, 0⟩) (meth := k6m0) (c := k6c0) (by decide +kernel) rfl rfl rfl (by decide +kernel)
set_option maxRecDepth 65536 in
theorem w_c3 : (Jvm.Cond.code ({ cls := "com/example/bare_orm/bareorm/MappingReaderTrueOrFalsePinLaw", name := "pick", desc := "(IZI)C" } : Jvm.MethodName) method_3_code (3 : Nat) (Option.some Jvm.ClassFile.FieldType.char)).before args0 about1 = true := code_word (m := ⟨1, 2⟩) (meth := k1m2) (c := k1c2) (by decide +kernel) rfl rfl rfl (by decide +kernel)
set_option maxRecDepth 65536 in
theorem w_c4 : (Jvm.Cond.code ({ cls := "java/lang/String", name := "charAt", desc := "(I)C" } : Jvm.MethodName) jdk_42_method_56_code (2 : Nat) (Option.some Jvm.ClassFile.FieldType.char)).before args0 about1 = true := code_word (m := ⟨9, 2⟩) (meth := k9m2) (c := k9c2) (by decide +kernel) rfl rfl rfl (by decide +kernel)
set_option maxRecDepth 65536 in
theorem w_c5 : (Jvm.Cond.code ({ cls := "java/lang/String", name := "isLatin1", desc := "()Z" } : Jvm.MethodName) jdk_42_method_154_code (1 : Nat) (Option.some Jvm.ClassFile.FieldType.boolean)).before args0 about1 = true := code_word (m := ⟨9, 5⟩) (meth := k9m5) (c := k9c5) (by decide +kernel) rfl rfl rfl (by decide +kernel)
set_option maxRecDepth 65536 in
theorem w_c6 : (Jvm.Cond.code ({ cls := "java/lang/StringLatin1", name := "charAt", desc := "([BI)C" } : Jvm.MethodName) jdk_43_method_2_code (2 : Nat) (Option.some Jvm.ClassFile.FieldType.char)).before args0 about1 = true := code_word (m := ⟨10, 1⟩) (meth := k10m1) (c := k10c1) (by decide +kernel) rfl rfl rfl (by decide +kernel)
set_option maxRecDepth 65536 in
theorem w_c7 : (Jvm.Cond.code ({ cls := "java/lang/String", name := "checkIndex", desc := "(II)V" } : Jvm.MethodName) jdk_42_method_155_code (2 : Nat) (Option.none : Option Jvm.ClassFile.FieldType)).before args0 about1 = true := code_word (m := ⟨9, 6⟩) (meth := k9m6) (c := k9c6) (by decide +kernel) rfl rfl rfl (by decide +kernel)
set_option maxRecDepth 65536 in
theorem w_c8 : (Jvm.Cond.code ({ cls := "jdk/internal/util/Preconditions", name := "checkIndex", desc := "(IILjava/util/function/BiFunction;)I" } : Jvm.MethodName) jdk_41_method_11_code (3 : Nat) (Option.some Jvm.ClassFile.FieldType.int)).before args0 about1 = true := code_word (m := ⟨11, 1⟩) (meth := k11m1) (c := k11c1) (by decide +kernel) rfl rfl rfl (by decide +kernel)
set_option maxRecDepth 65536 in
theorem w_c9 : (Jvm.Cond.code ({ cls := "com/example/bare_orm/bareorm/MappingReaderTrueOrFalsePinLaw", name := "chars", desc := "(ICCCCC)[C" } : Jvm.MethodName) method_4_code (6 : Nat) (Option.some (Jvm.ClassFile.FieldType.array Jvm.ClassFile.FieldType.char))).before args0 about1 = true := code_word (m := ⟨1, 3⟩) (meth := k1m3) (c := k1c3) (by decide +kernel) rfl rfl rfl (by decide +kernel)
set_option maxRecDepth 65536 in
theorem w_c10 : (Jvm.Cond.code ({ cls := "java/lang/String", name := "<init>", desc := "([C)V" } : Jvm.MethodName) jdk_42_method_3_code (2 : Nat) (Option.none : Option Jvm.ClassFile.FieldType)).before args0 about1 = true := code_word (m := ⟨9, 1⟩) (meth := k9m1) (c := k9c1) (by decide +kernel) rfl rfl rfl (by decide +kernel)
set_option maxRecDepth 65536 in
theorem w_c11 : (Jvm.Cond.code ({ cls := "java/lang/String", name := "<init>", desc := "([CIILjava/lang/Void;)V" } : Jvm.MethodName) jdk_42_method_149_code (6 : Nat) (Option.none : Option Jvm.ClassFile.FieldType)).before args0 about1 = true := code_word (m := ⟨9, 4⟩) (meth := k9m4) (c := k9c4) (by decide +kernel) rfl rfl rfl (by decide +kernel)
set_option maxRecDepth 65536 in
theorem w_c12 : (Jvm.Cond.code ({ cls := "java/lang/Object", name := "<init>", desc := "()V" } : Jvm.MethodName) object_method_1_code (1 : Nat) (Option.none : Option Jvm.ClassFile.FieldType)).before args0 about1 = true := code_word (m := ⟨0, 0⟩) (meth := k0m0) (c := k0c0) (by decide +kernel) rfl rfl rfl (by decide +kernel)
set_option maxRecDepth 65536 in
theorem w_c13 : (Jvm.Cond.code ({ cls := "java/lang/String", name := "equals", desc := "(Ljava/lang/Object;)Z" } : Jvm.MethodName) jdk_42_method_66_code (3 : Nat) (Option.some Jvm.ClassFile.FieldType.boolean)).before args0 about1 = true := code_word (m := ⟨9, 3⟩) (meth := k9m3) (c := k9c3) (by decide +kernel) rfl rfl rfl (by decide +kernel)
set_option maxRecDepth 65536 in
theorem w_c14 : (Jvm.Cond.code ({ cls := "java/lang/StringLatin1", name := "equals", desc := "([B[B)Z" } : Jvm.MethodName) jdk_43_method_13_code (3 : Nat) (Option.some Jvm.ClassFile.FieldType.boolean)).before args0 about1 = true := code_word (m := ⟨10, 2⟩) (meth := k10m2) (c := k10c2) (by decide +kernel) rfl rfl rfl (by decide +kernel)
set_option maxRecDepth 65536 in
theorem w_c15 : (Jvm.Cond.code ({ cls := "java/lang/StringUTF16", name := "compress", desc := "([CII)[B" } : Jvm.MethodName) jdk_52_method_16_code (6 : Nat) (Option.some (Jvm.ClassFile.FieldType.array Jvm.ClassFile.FieldType.byte))).before args0 about1 = true := code_word (m := ⟨12, 2⟩) (meth := k12m2) (c := k12c2) (by decide +kernel) rfl rfl rfl (by decide +kernel)
set_option maxRecDepth 65536 in
theorem w_c16 : (Jvm.Cond.code ({ cls := "java/lang/StringUTF16", name := "compress", desc := "([CI[BII)I" } : Jvm.MethodName) jdk_52_method_21_code (7 : Nat) (Option.some Jvm.ClassFile.FieldType.int)).before args0 about1 = true := code_word (m := ⟨12, 3⟩) (meth := k12m3) (c := k12c3) (by decide +kernel) rfl rfl rfl (by decide +kernel)
set_option maxRecDepth 65536 in
theorem w_c17 : (Jvm.Cond.code ({ cls := "java/lang/StringUTF16", name := "coderFromArrayLen", desc := "([BI)B" } : Jvm.MethodName) jdk_52_method_15_code (2 : Nat) (Option.some Jvm.ClassFile.FieldType.byte)).before args0 about1 = true := code_word (m := ⟨12, 1⟩) (meth := k12m1) (c := k12c1) (by decide +kernel) rfl rfl rfl (by decide +kernel)
def codes1 : List Jvm.Cond := [Jvm.Cond.code x code maxLocals ret, Jvm.Cond.code ({ cls := "com/example/bare_orm/bareorm/MappingReader", name := "trueOrFalse", desc := "(Ljava/lang/String;)Ljava/lang/Boolean;" } : Jvm.MethodName) prog_24_method_10_code (2 : Nat) (Option.some (Jvm.ClassFile.FieldType.object "java/lang/Boolean")), Jvm.Cond.code ({ cls := "java/lang/Boolean", name := "booleanValue", desc := "()Z" } : Jvm.MethodName) jdk_2055_method_4_code (1 : Nat) (Option.some Jvm.ClassFile.FieldType.boolean), Jvm.Cond.code ({ cls := "com/example/bare_orm/bareorm/MappingReaderTrueOrFalsePinLaw", name := "pick", desc := "(IZI)C" } : Jvm.MethodName) method_3_code (3 : Nat) (Option.some Jvm.ClassFile.FieldType.char), Jvm.Cond.code ({ cls := "java/lang/String", name := "charAt", desc := "(I)C" } : Jvm.MethodName) jdk_42_method_56_code (2 : Nat) (Option.some Jvm.ClassFile.FieldType.char), Jvm.Cond.code ({ cls := "java/lang/String", name := "isLatin1", desc := "()Z" } : Jvm.MethodName) jdk_42_method_154_code (1 : Nat) (Option.some Jvm.ClassFile.FieldType.boolean), Jvm.Cond.code ({ cls := "java/lang/StringLatin1", name := "charAt", desc := "([BI)C" } : Jvm.MethodName) jdk_43_method_2_code (2 : Nat) (Option.some Jvm.ClassFile.FieldType.char), Jvm.Cond.code ({ cls := "java/lang/String", name := "checkIndex", desc := "(II)V" } : Jvm.MethodName) jdk_42_method_155_code (2 : Nat) (Option.none : Option Jvm.ClassFile.FieldType), Jvm.Cond.code ({ cls := "jdk/internal/util/Preconditions", name := "checkIndex", desc := "(IILjava/util/function/BiFunction;)I" } : Jvm.MethodName) jdk_41_method_11_code (3 : Nat) (Option.some Jvm.ClassFile.FieldType.int), Jvm.Cond.code ({ cls := "com/example/bare_orm/bareorm/MappingReaderTrueOrFalsePinLaw", name := "chars", desc := "(ICCCCC)[C" } : Jvm.MethodName) method_4_code (6 : Nat) (Option.some (Jvm.ClassFile.FieldType.array Jvm.ClassFile.FieldType.char)), Jvm.Cond.code ({ cls := "java/lang/String", name := "<init>", desc := "([C)V" } : Jvm.MethodName) jdk_42_method_3_code (2 : Nat) (Option.none : Option Jvm.ClassFile.FieldType), Jvm.Cond.code ({ cls := "java/lang/String", name := "<init>", desc := "([CIILjava/lang/Void;)V" } : Jvm.MethodName) jdk_42_method_149_code (6 : Nat) (Option.none : Option Jvm.ClassFile.FieldType), Jvm.Cond.code ({ cls := "java/lang/Object", name := "<init>", desc := "()V" } : Jvm.MethodName) object_method_1_code (1 : Nat) (Option.none : Option Jvm.ClassFile.FieldType), Jvm.Cond.code ({ cls := "java/lang/String", name := "equals", desc := "(Ljava/lang/Object;)Z" } : Jvm.MethodName) jdk_42_method_66_code (3 : Nat) (Option.some Jvm.ClassFile.FieldType.boolean), Jvm.Cond.code ({ cls := "java/lang/StringLatin1", name := "equals", desc := "([B[B)Z" } : Jvm.MethodName) jdk_43_method_13_code (3 : Nat) (Option.some Jvm.ClassFile.FieldType.boolean), Jvm.Cond.code ({ cls := "java/lang/StringUTF16", name := "compress", desc := "([CII)[B" } : Jvm.MethodName) jdk_52_method_16_code (6 : Nat) (Option.some (Jvm.ClassFile.FieldType.array Jvm.ClassFile.FieldType.byte)), Jvm.Cond.code ({ cls := "java/lang/StringUTF16", name := "compress", desc := "([CI[BII)I" } : Jvm.MethodName) jdk_52_method_21_code (7 : Nat) (Option.some Jvm.ClassFile.FieldType.int), Jvm.Cond.code ({ cls := "java/lang/StringUTF16", name := "coderFromArrayLen", desc := "([BI)B" } : Jvm.MethodName) jdk_52_method_15_code (2 : Nat) (Option.some Jvm.ClassFile.FieldType.byte)]
set_option maxRecDepth 65536 in
theorem codes_eq : words1.filter isCode = codes1 := rfl
theorem w_codes : ∀ c ∈ words1.filter isCode, c.before args0 about1 = true := by
  rw [codes_eq]
  intro c hc
  simp only [codes1, List.mem_cons, List.not_mem_nil, or_false] at hc
  rcases hc with rfl | rfl | rfl | rfl | rfl | rfl | rfl | rfl | rfl | rfl | rfl | rfl | rfl | rfl | rfl | rfl | rfl | rfl
  · exact w_c0
  · exact w_c1
  · exact w_c2
  · exact w_c3
  · exact w_c4
  · exact w_c5
  · exact w_c6
  · exact w_c7
  · exact w_c8
  · exact w_c9
  · exact w_c10
  · exact w_c11
  · exact w_c12
  · exact w_c13
  · exact w_c14
  · exact w_c15
  · exact w_c16
  · exact w_c17
set_option maxRecDepth 65536 in
theorem w_t1 : (words1.take 24).all (fun c => isCode c || c.before args0 about1) = true := by decide +kernel
set_option maxRecDepth 65536 in
theorem w_t2 : ((words1.drop 24).take 24).all (fun c => isCode c || c.before args0 about1) = true := by decide +kernel
set_option maxRecDepth 65536 in
theorem w_t3 : (((words1.drop 24).drop 24).take 24).all (fun c => isCode c || c.before args0 about1) = true := by decide +kernel
set_option maxRecDepth 65536 in
theorem w_t4 : (((words1.drop 24).drop 24).drop 24).all (fun c => isCode c || c.before args0 about1) = true := by decide +kernel
theorem w_tables : (allAtoms (Jvm.Cond.code x code maxLocals ret :: tables_1)).before args0 about1 = true := by
  rw [allAtoms_all]
  show words1.all (fun c => c.before args0 about1) = true
  refine all_split ?_ w_codes
  rw [← List.take_append_drop 24 words1, List.all_append, w_t1, ← List.take_append_drop 24 (words1.drop 24), List.all_append, w_t2, ← List.take_append_drop 24 ((words1.drop 24).drop 24), List.all_append, w_t3, w_t4]
  rfl
set_option maxRecDepth 65536 in
theorem w_rest : rest_1_c.before args0 about1 = true := by decide +kernel
set_option maxRecDepth 65536 in
theorem w_case : (Jvm.Cond.and given_1 narrow_1).before args0 about1 = true := by decide +kernel
set_option maxRecDepth 65536 in
theorem w_consts : constsHeld consts_1 about1 := Jvm.Lit.constsHeldB_iff.mp (by decide +kernel)
theorem w_applies : (headSpec (Jvm.Cond.code x code maxLocals ret :: tables_1) room_1).applies x e0.platform about1 = true :=
  (Spec.applies_iff w_frames).mpr ⟨w_running, w_runnable, w_alone, w_named, w_hears, w_ripe, w_room, w_tables⟩
theorem atStart : AtStart classFile x code maxLocals ret World_1 tables_1 room_1 Calls_1 rest_1 Pre_1 launch0 p0 e0 about1 theMethod args0 below0 :=
  ⟨lists_1, trivial, launch0.admits_env _ _ _, launch0.least_env, fairChoices_fair.cas, fairChoices_fair.clock, w_frames, w_args, w_heap, w_applies, ⟨w_consts, trivial⟩, w_rest, w_case⟩
end start1
theorem witness_1 : WitnessClaimed_1 := ⟨start1.p0, start1.e0, start1.about1, start1.theMethod, start1.args0, start1.below0, start1.atStart⟩
end Jvm.Pilot.@@N@@
