import JvmDerived
import JvmDerived.Pilot.@@N@@Statement
import JvmDerived.Pilot.@@N@@Code
set_option linter.unusedVariables false
set_option linter.unusedSimpArgs false
namespace Jvm.RoadKit
open Sem ClassFile Op Lib Jvm.Stand Jvm.Free Jvm.LawKit
section Own
variable {p : Program} {l : Launch} {e : Env} {R : Room} {s : State} {m : MethodId} {args : Array Value} {below : List Frame} {meth : Method} {c : Code} {T : State} {locs : List Loc} {cells slots : Nat}
theorem retI (X : Stand p l e R s m args below meth c T locs cells slots) (hx : p.tables.exec = Jvm.exec) {pc : Nat} {Ls : Array Slot} {z : Int32} {rest : List Value} (hret : meth.sig.returnType = some .int) (hd : decode c.code pc = .ok (.ireturn, 1)) {fs : List Frame}
    (hl : ∀ (f : JFrame) (acts : List Action), f.method = m → f.locked = none → f.entered = [] → (doReturn e (T.setTop f) acts (some (.int z))).1 = T.setFrames fs) : Steps p.tables e below (T.setTop (mkF m pc Ls (.int z :: rest))) (T.setFrames fs) := by
  have hm' : T.vm.method? m = some meth := X.method'
  have hn : narrow .int (.int z) = .int z := rfl
  show Steps p.tables e below (T.setTop { method := m, pc := pc, locals := Ls, stack := _ :: rest, locked := none }) _
  jvm_step X.here [X.here.top, hx, hd, hm', hret, hn]
  first | (intro acts; rw [hl _ acts rfl rfl rfl]) | rw [hl _ _ rfl rfl rfl]
  exact Steps.refl _
/-- the walk from S ends as K says -/
def Way (tb : Tables) (e : Env) (below : List Frame) (K : Outcome → State → Prop) (S : State) : Prop := ∃ s₂ o, Steps tb e below S s₂ ∧ s₂.status = .running ∧ Ended s₂ below o ∧ K o s₂
theorem Way.by {tb : Tables} {K : Outcome → State → Prop} {A B : State} (st : ∀ t, Steps tb e below B t → Steps tb e below A t) (h : Way tb e below K B) : Way tb e below K A := by
  obtain ⟨s₂, o, h1, h2⟩ := h; exact ⟨s₂, o, st _ h1, h2⟩
theorem Way.to {tb : Tables} {K : Outcome → State → Prop} {A B : State} (st : Steps tb e below A B) (h : Way tb e below K B) : Way tb e below K A := by
  obtain ⟨s₂, o, h1, h2⟩ := h; exact ⟨s₂, o, st.trans h1, h2⟩
abbrev KQ (s : State) (Q : Option Value → Heap → List Loc → Prop) (C S : Nat) : Outcome → State → Prop := fun o s₂ => ∃ v L, o = .returned v ∧ Q v s₂.heap L ∧ FrameEnd s o s₂ L C S
theorem Way.ret {Q : Option Value → Heap → List Loc → Prop} {C S : Nat} {A : State} {v : Option Value} (X : Stand p l e R s m args below meth c T locs cells slots) (hlk : meth.locks = false) (hv : meth.sig.returnType = none → v = none)
    (hret : ∀ fs, (∀ (f : JFrame) (acts : List Action), f.method = m → f.locked = none → f.entered = [] → (doReturn e (T.setTop f) acts v).1 = T.setFrames fs) → Steps p.tables e below A (T.setFrames fs))
    (hQ : Q v T.heap locs) (hc : cells ≤ C) (hs : slots ≤ S) : Way p.tables e below (KQ s Q C S) A := by
  obtain ⟨fs, hr, hrun, hended, hW, hsame⟩ := X.leave hv hlk
  exact ⟨_, _, hret fs hr, hrun, hended, _, _, rfl, hQ, ⟨_, rfl⟩, hW, hsame.mono hc hs⟩
abbrev KQW (s : State) (Q : Option Value → Heap → List Loc → Prop) (C S : Nat) : Outcome → State → Prop := fun o s₂ => ∃ v L, o = .returned v ∧ Q v s₂.heap L ∧ ReturnedEndW s o s₂ L C S
theorem Way.retW {Q : Option Value → Heap → List Loc → Prop} {C S : Nat} {A : State} {v : Option Value} {vm1 : Vm} {n : Nat} (X : Stand p l e R (s.setVm vm1) m args below meth c T locs cells slots) (hS : s.Since vm1 n) (hn : n ≤ T.heap.size) (hlk : meth.locks = false) (hv : meth.sig.returnType = none → v = none)
    (hret : ∀ fs, (∀ (f : JFrame) (acts : List Action), f.method = m → f.locked = none → f.entered = [] → (doReturn e (T.setTop f) acts v).1 = T.setFrames fs) → Steps p.tables e below A (T.setFrames fs))
    (hQ : Q v T.heap locs) (hc : cells ≤ C) (hs : slots ≤ S) : Way p.tables e below (KQW s Q C S) A := by
  obtain ⟨fs, hr, hrun, hended, h1, h2, h3, h4⟩ := X.leaveW hS hn hv hlk
  exact ⟨_, _, hret fs hr, hrun, hended, _, _, rfl, hQ, h1, h2, h3, h4.mono hc hs⟩
abbrev KQH (s Z : State) (EL : List (String × Nat)) (Q : Option Value → Heap → List Loc → Prop) (C S : Nat) : Outcome → State → Prop := fun o s₂ => ∃ v L, o = .returned v ∧ Q v s₂.heap L ∧ CHr Z EL s.vm s.heap s₂.vm s₂.heap ∧ ReturnedEndW s o s₂ L C S
theorem Way.retH {Z : State} {a0 : Array Value} {EL : List (String × Nat)} {Q : Option Value → Heap → List Loc → Prop} {C S : Nat} {A : State} {v : Option Value} {vm1 : Vm} {n : Nat} {h h0 : Heap} (X : Stand p l e R (s.setVm vm1) m args below meth c T locs cells slots) (hS : s.Since vm1 n) (hn : n ≤ T.heap.size) (hZ : Z.Warmed39 vm1) (hEL : EW Z a0 EL) (hh : s.heap = h0) (eT : T.heap = h) (H : CHv Z EL vm1 h) (CH : CHr Z EL s.vm h0 vm1 h) (hlk : meth.locks = false) (hv : meth.sig.returnType = none → v = none)
    (hret : ∀ fs, (∀ (f : JFrame) (acts : List Action), f.method = m → f.locked = none → f.entered = [] → (doReturn e (T.setTop f) acts v).1 = T.setFrames fs) → Steps p.tables e below A (T.setFrames fs))
    (hQ : Q v T.heap locs) (hc : cells ≤ C) (hs : slots ≤ S) : Way p.tables e below (KQH s Z EL Q C S) A := by
  obtain ⟨fs, hr, hrun, hended, h1, h2, h3, h4⟩ := X.leaveW hS hn hv hlk
  refine ⟨_, _, hret fs hr, hrun, hended, _, _, rfl, hQ, ?_, h1, h2, h3, h4.mono hc hs⟩
  have B := CHv.at X hZ hEL H
  show CHr Z EL s.vm s.heap T.vm T.heap
  rw [hh, eT]; exact CH.trans B
theorem fldStart {Z : State} {args : Array Value} {t : Term} {a : Addr} {C n d : String} {k : Int32} (ev : t.eval args Z none [] Z = some (.ref a)) (h : (Cond.eq (.field t C n d) (.int k)).value args Z none Z [] = some true) : Fld Z Z.heap a C n d (.int k) := by
  refine Fld.start ?_
  have e1 : (Term.field t C n d).eval args Z none [] Z = Z.fieldOf? a C n d := fld_at ev
  simp only [Cond.value] at h
  rw [e1, show (Term.int k).eval args Z none [] Z = some (.int k) from rfl] at h
  cases hf : Z.fieldOf? a C n d with
  | none => simp [hf] at h
  | some w => cases w <;> simp [hf] at h ⊢; exact h
theorem envNe {Z : State} {args : Array Value} {t : Term} {v : Int32} (ev : t.eval args Z none [] Z = some (.int v)) (h : (Cond.not (.eq t (.int 0))).before args Z = true) : v ≠ 0 := by
  have h2 := Cond.before_iff.mp h
  intro q; subst q
  simp only [Cond.value] at h2
  rw [ev] at h2
  simp [Term.eval] at h2
theorem envRef {Z : State} {args : Array Value} {t : Term} (h : (Cond.isRef t).before args Z = true) : ∃ G, t.eval args Z none [] Z = some G ∧ G.isRef = true := by
  have h2 := Cond.before_iff.mp h
  cases ht : t.eval args Z none [] Z with
  | none => simp [Cond.value, ht] at h2
  | some w => exact ⟨w, rfl, by cases w <;> simp [Cond.value, ht] at h2 <;> rfl⟩
theorem own_getD {α : Type} {u : List α} {i : Nat} (d : α) (h : i < u.length) : u.getD i d = u[i] := by rw [List.getD_eq_getElem?_getD, List.getElem?_eq_getElem h]; rfl
theorem hpE {T : State} {h : Heap} {a : Addr} {c : Cell} (e : T.heap = h) (A : h[a]? = some c) : T.heap[a]? = some c := by rw [e]; exact A
theorem remB (x d : Int32) (D : Int) (hd : d.toInt = D) (h0 : 0 < D) : 0 ≤ ((x &&& 2147483647) % d).toInt ∧ ((x &&& 2147483647) % d).toInt < D := by
  have h1 := c_and x 2147483647 (by decide)
  rw [(c_irem (x &&& 2147483647) d D hd).1 h1.1]
  exact ⟨Int.emod_nonneg _ (by omega), Int.emod_lt_of_pos _ h0⟩
theorem cases3 {k : Int32} (h : 0 ≤ k.toInt ∧ k.toInt < 3) : k = 0 ∨ k = 1 ∨ k = 2 := by
  have q : k.toInt = 0 ∨ k.toInt = 1 ∨ k.toInt = 2 := by omega
  rcases q with q | q | q
  · exact Or.inl (Int32.toInt_inj.mp q)
  · exact Or.inr (Or.inl (Int32.toInt_inj.mp q))
  · exact Or.inr (Or.inr (Int32.toInt_inj.mp q))
theorem cases5 {k : Int32} (h : 0 ≤ k.toInt ∧ k.toInt < 5) : k = 0 ∨ k = 1 ∨ k = 2 ∨ k = 3 ∨ k = 4 := by
  have q : k.toInt = 0 ∨ k.toInt = 1 ∨ k.toInt = 2 ∨ k.toInt = 3 ∨ k.toInt = 4 := by omega
  rcases q with q | q | q | q | q
  · exact Or.inl (Int32.toInt_inj.mp q)
  · exact Or.inr (Or.inl (Int32.toInt_inj.mp q))
  · exact Or.inr (Or.inr (Or.inl (Int32.toInt_inj.mp q)))
  · exact Or.inr (Or.inr (Or.inr (Or.inl (Int32.toInt_inj.mp q))))
  · exact Or.inr (Or.inr (Or.inr (Or.inr (Int32.toInt_inj.mp q))))
theorem nfSel {s : State} {args : Array Value} {C : String} {y z : MethodName} (hyz : z.cls = y.cls) (hsel : (Cond.selects C z z).before args s = true) : NotFace s y := fun r0 h0 => by
  obtain ⟨c, r, m, -, -, hn, -, mk, hk, hni⟩ := Cond.selects_spec hsel
  have e1 := findClass_of_methodNamed h0
  have e2 := findClass_of_methodNamed hn
  rw [hyz, e1] at e2
  refine ⟨mk, ?_, hni⟩
  first | (rw [Option.some.inj e2]; exact hk) | (rw [← Option.some.inj e2]; exact hk)
theorem sameOwn {s : State} {args : Array Value} {C : String} {y z : MethodName} (hyz : z.cls = y.cls) (hsel : (Cond.selects C z z).before args s = true) (hinst : (Cond.instanceMethod y).before args s = true) (hy : y.cls ≠ "java/lang/invoke/MethodHandle" ∧ y.cls ≠ "java/lang/invoke/VarHandle") : (Cond.sameMethod y.cls y.cls y.name y.desc).before args s = true := by
  obtain ⟨mk, methM, hnamed, -⟩ := Cond.instanceMethod_spec hinst
  obtain ⟨kr, hk, hni⟩ := nfSel hyz hsel mk hnamed
  have hf := State.methodFound?_of_named hnamed hy
  have hc := findClass_of_methodNamed hnamed
  have hn2 : s.methodNamed? ⟨y.cls, y.name, y.desc⟩ = some mk := hnamed
  simp [Cond.before, Cond.holds, Cond.value, hc, hf, hn2, hk, hni]
theorem selPriv {s : State} {args : Array Value} {C : String} {y z : MethodName} (hyz : z.cls = y.cls) (hsel : (Cond.selects C z z).before args s = true) (hpriv : s.PrivateAt y) (hinst : (Cond.instanceMethod y).before args s = true) (hy : y.cls ≠ "java/lang/invoke/MethodHandle" ∧ y.cls ≠ "java/lang/invoke/VarHandle") : (Cond.selects y.cls y y).before args s = true := by
  obtain ⟨c, r, m, -, -, hn, -, mk, hk, hni⟩ := Cond.selects_spec hsel
  exact selects_self_of_private (by rw [← hyz]; exact findClass_of_methodNamed hn) hk hni hpriv hinst hy
theorem nsRoot {Z : State} {a0 : Array Value} {O K : String} {n : Nat} (w : (Cond.noSuperclass O).before a0 Z = true) (wk : (Cond.instantiable K n).before a0 Z = true) (hn : O ≠ K) : NS Z O K := by
  obtain ⟨c, k, h1, h2, h3, -, -⟩ := Cond.noSuperclass_spec w
  obtain ⟨t, kt, g1, -⟩ := Cond.instantiable_spec wk
  have ne := ids_ne h1 g1 hn
  refine ⟨c, t, h1, g1, fun fuel => ?_⟩
  cases fuel with
  | zero => rfl
  | succ f => simp [Vm.isSubclassAux, ne, h2, h3]
theorem nsNo {Z : State} {a0 : Array Value} {C S K : String} {n : Nat} (w : (Cond.superclass C S).before a0 Z = true) (wk : (Cond.instantiable K n).before a0 Z = true) (q : NS Z C K) (hn : C ≠ K) : ∃ c t, Z.vm.findClass C = some c ∧ Z.vm.findClass K = some t ∧ Z.vm.assignable c t = false := by
  obtain ⟨c, t, h0, g0, n3⟩ := q
  obtain ⟨p, k, kp, h1, h2, h3, h4, h5, -, h7⟩ := Cond.superclass_spec h0 w
  obtain ⟨t', kt, g1, g2, g3, g4, -⟩ := Cond.instantiable_spec wk
  cases g0.symm.trans g1
  have g5 : kt.isInterface = false := (Bool.or_eq_false_iff.mp g4).1
  have ne := ids_ne h0 g0 hn
  refine ⟨c, t, h0, g0, ?_⟩
  show Z.vm.assignableAux (255 + 1) c t = false
  simp [Vm.assignableAux, ne, h2, g2, h5, g3, g5, Vm.isSubclass, n3]
theorem arrS {Z s : State} {h : Heap} {a : Addr} {cl : Cell} {ty : FieldType} (hZ : Z.Warmed39 s.vm) (A : Arr Z h a cl ty) : s.isArrayOf cl ty := State.isArrayOf_alike hZ.alike A.2.1
theorem evInt {Z : State} {args : Array Value} {t : Term} {k : Int32} (h : (Cond.eq t (.int k)).value args Z none Z [] = some true) : t.eval args Z none [] Z = some (.int k) := by
  cases ht : t.eval args Z none [] Z with
  | none => simp [Cond.value, ht] at h
  | some w => cases w <;> simp [Cond.value, ht, Term.eval] at h ⊢; exact h
end Own
end Jvm.RoadKit
/- laws to paste: Road.backV, Road.lenW, Road.chN, Road.eqW, Road.empW, Road.codOf (cut by pick.py; bodies as the Statement names them) -/
namespace Jvm.Pilot.@@N@@
namespace StrChars
open Jvm Sem ClassFile Op Lib Jvm.Stand Jvm.Free.XT Jvm.Free.ALB Jvm.Free.JM Jvm.Free
open Jvm.Lib.Cold (StaticIs)
/-- a char array whose places are chars -/
def Ch (a : Addr) (A : Cell) (U : State) : Prop := Arr .char a A U ∧ Typed .char A
theorem Ch.mv {a : Addr} {A : Cell} {U U' : State} (h : Ch a A U) (hal : U.vm.Alike U'.vm) (hh : U'.heap = U.heap) : Ch a A U' := ⟨h.1.mv hal hh, h.2⟩
theorem Ch.keep {a : Addr} {A : Cell} {U U' : State} (h : Ch a A U) (hal : U.vm.Alike U'.vm) (hk : U'.heap[a]? = some A) : Ch a A U' := ⟨h.1.keep hal hk, h.2⟩
/-- what place i of a char[]'s cell holds -/
def cv (A : Cell) (i : Nat) : Int32 := match A.slots[i]? with | some (.int x) => x | _ => 0
theorem Ch.get {a : Addr} {A : Cell} {U : State} (h : Ch a A U) {i : Nat} (hi : i < A.slots.size) : A.slots[i]? = some (.int (cv A i)) := by
  have e := Array.getElem?_eq_getElem hi
  have f := h.2 i _ e
  unfold cv; rw [e]
  generalize A.slots[i] = v at f
  cases v <;> simp [fits] at f ⊢
/-- the byte that i2b leaves of a char -/
def lo8 (x : Int32) : Int32 := x.toInt8.toInt32
theorem fits_lo8 (y : Int32) : fits .byte (.int (lo8 y)) = true := by
  have h1 := y.toInt8.le_toInt
  have h2 := y.toInt8.toInt_lt
  simp only [lo8, fits, Bool.and_eq_true, decide_eq_true_eq, Int32.le_iff_toInt_le, Int8.toInt_toInt32, show (-128 : Int32).toInt = -128 from by decide, show (127 : Int32).toInt = 127 from by decide]
  omega
/-- A' is A but that each place j of lo .. hi - 1 holds f j -/
def Laid (A A' : Cell) (lo hi : Nat) (f : Nat → Value) : Prop := A'.cls = A.cls ∧ A'.vm = A.vm ∧ A'.slots.size = A.slots.size ∧ ∀ i, A'.slots[i]? = if lo ≤ i ∧ i < hi then some (f i) else A.slots[i]?
theorem Laid.zero (A : Cell) (lo : Nat) (f : Nat → Value) : Laid A A lo (lo + 0) f := ⟨rfl, rfl, rfl, fun i => by rw [if_neg (by omega)]⟩
theorem Laid.step {A Ak : Cell} {lo k : Nat} {f : Nat → Value} {v : Value} (h : Laid A Ak lo k f) (hlo : lo ≤ k) (hk : k < Ak.slots.size) (hv : v = f k) : Laid A (Ak.setSlot k v) lo (k + 1) f := by
  refine ⟨h.1, h.2.1, by simpa [Cell.setSlot] using h.2.2.1, fun i => ?_⟩
  by_cases e : k = i
  · subst e; rw [Cell.slots_setSlot_self v hk, if_pos (by omega), hv]
  · rw [Cell.slots_setSlot_ne v e, h.2.2.2 i]
    by_cases q : lo ≤ i ∧ i < k
    · rw [if_pos q, if_pos (by omega)]
    · rw [if_neg q, if_neg (by omega)]
def U16 : String := "java/lang/StringUTF16"
namespace Cmp5
def yN : MethodName := ⟨"java/lang/StringUTF16", "compress", "([CI[BII)I"⟩
abbrev yB : ByteArray := jdk_52_method_21_code
theorem d0 : decode yB 0 = .ok (.iconst 0, 1) := by decide +kernel
theorem d1 : decode yB 1 = .ok (.istore 5, 2) := by decide +kernel
theorem d3 : decode yB 3 = .ok (.iload 5, 2) := by decide +kernel
theorem d5 : decode yB 5 = .ok (.iload 4, 2) := by decide +kernel
theorem d7 : decode yB 7 = .ok (.if_icmp (.ge) 37, 3) := by decide +kernel
theorem d10 : decode yB 10 = .ok (.aload_n 0, 1) := by decide +kernel
theorem d11 : decode yB 11 = .ok (.iload_n 1, 1) := by decide +kernel
theorem d12 : decode yB 12 = .ok (.caload, 1) := by decide +kernel
theorem d13 : decode yB 13 = .ok (.istore 6, 2) := by decide +kernel
theorem d15 : decode yB 15 = .ok (.iload 6, 2) := by decide +kernel
theorem d17 : decode yB 17 = .ok (.sipush 255, 3) := by decide +kernel
theorem d20 : decode yB 20 = .ok (.if_icmp (.le) 6, 3) := by decide +kernel
theorem d26 : decode yB 26 = .ok (.aload_n 2, 1) := by decide +kernel
theorem d27 : decode yB 27 = .ok (.iload_n 3, 1) := by decide +kernel
theorem d28 : decode yB 28 = .ok (.iload 6, 2) := by decide +kernel
theorem d30 : decode yB 30 = .ok (.i2b, 1) := by decide +kernel
theorem d31 : decode yB 31 = .ok (.bastore, 1) := by decide +kernel
theorem d32 : decode yB 32 = .ok (.iinc 1 1, 3) := by decide +kernel
theorem d35 : decode yB 35 = .ok (.iinc 3 1, 3) := by decide +kernel
theorem d38 : decode yB 38 = .ok (.iinc 5 1, 3) := by decide +kernel
theorem d41 : decode yB 41 = .ok (.goto (-38), 3) := by decide +kernel
theorem d44 : decode yB 44 = .ok (.iload 4, 2) := by decide +kernel
theorem d46 : decode yB 46 = .ok (.ireturn, 1) := by decide +kernel
def site : List Cond := []
def tab : Cond := tabOf yN yB 7 (some .int) site
def P (b : Addr) (A : Cell) (d : Addr) (B : Cell) (o q len : Nat) (args : Array Value) (s : State) : Prop := args = #[.ref b, .int (Int32.ofNat o), .ref d, .int (Int32.ofNat q), .int (Int32.ofNat len)] ∧ Ch b A s ∧ Arr .byte d B s ∧ b ≠ d ∧ o + len ≤ A.slots.size ∧ q + len ≤ B.slots.size ∧ ∀ i, i < len → ¬ 255 < cv A (o + i)
def E (b : Addr) (A : Cell) (d : Addr) (B : Cell) (o q len : Nat) (r : Option Value) (s u : State) : Prop := r = some (.int (Int32.ofNat len)) ∧ ∃ B', Put d B' s u ∧ Laid B B' q (q + len) (fun j => Value.int (lo8 (cv A (o + (j - q)))))
/-- no char of the range above 255: len; the places written hold each char's low byte -/
theorem law (l : Launch) (b : Addr) (A : Cell) (d : Addr) (B : Cell) (o q len : Nat) : Law l yN 5 5 0 0 yB 7 (some .int) site (P b A d B o q len) (E b A d B o q len) (copyLocs d q len) 0 0 := by
  refine Law.of_walk (plainFor_of_name (by decide +kernel)) (by decide +kernel) (by decide +kernel) (by decide) (fun _ _ h => by rw [h.1]; rfl) (fun _ U U' hal hh h => ⟨h.1, h.2.1.mv hal hh, h.2.2.1.mv hal hh, h.2.2.2⟩) (fun r U U' V V' h1 hal h2 h => ⟨h.1, h.2.elim fun B' q => ⟨B', q.1.mv h1 h2, q.2⟩⟩) ?_
  intro p e s m args below meth c s₁ X0 hexec hbytes hml hret hlk hnm hown hh0 W hP
  obtain ⟨rfl, hA, hB, hne, l1, l2, hp⟩ := hP
  have c1 : Steps p.tables e below (s₁.setTop (entryFrame m #[.ref b, .int (Int32.ofNat o), .ref d, .int (Int32.ofNat q), .int (Int32.ofNat len)] 7)) (s₁.setTop (mkF m 0 #[.val (.ref b), .val (.int (Int32.ofNat o)), .val (.ref d), .val (.int (Int32.ofNat q)), .val (.int (Int32.ofNat len)), .unset, .unset] [])) := entry rfl
  have hA0 := hA.1.mv X0.warmed.alike hh0
  have hB0 := hB.mv X0.warmed.alike hh0
  have a31 := hA.1.2.2.2
  have c2 : Steps p.tables e below (s₁.setTop (entryFrame m #[.ref b, .int (Int32.ofNat o), .ref d, .int (Int32.ofNat q), .int (Int32.ofNat len)] 7)) (s₁.setTop (mkF m 3 #[.val (.ref b), .val (.int (Int32.ofNat o)), .val (.ref d), .val (.int (Int32.ofNat q)), .val (.int (Int32.ofNat len)), .val (.int 0), .unset] [])) := c1.trans (by
    refine iconstV X0.here hexec rfl 0 (hb hbytes d0) (by decide) ?_
    refine XS.istore X0.here hexec rfl (hb hbytes d1) rfl rfl ?_
    exact Steps.refl _)
  have loop : ∀ (r i : Nat), i + r = len → ∀ (z : Slot), (z = .unset ∨ ∃ w, z = .val w ∧ w.category = 1) → ∀ (Tl : State) (Bk : Cell), Stand p l e { frames := 0, locals := 0, cells := 0, slots := 0 } s m #[.ref b, .int (Int32.ofNat o), .ref d, .int (Int32.ofNat q), .int (Int32.ofNat len)] below meth c Tl ([] ++ copyLocs d q i) 0 0 → Put d Bk s₁ Tl → Laid B Bk q (q + i) (fun j => Value.int (lo8 (cv A (o + (j - q))))) →
      Steps p.tables e below (s₁.setTop (entryFrame m #[.ref b, .int (Int32.ofNat o), .ref d, .int (Int32.ofNat q), .int (Int32.ofNat len)] 7)) (Tl.setTop (mkF m 3 #[.val (.ref b), .val (.int (Int32.ofNat (o + i))), .val (.ref d), .val (.int (Int32.ofNat (q + i))), .val (.int (Int32.ofNat len)), .val (.int (Int32.ofNat i)), z] [])) → ∃ (T' : State) (B' : Cell) (z' : Slot), Stand p l e { frames := 0, locals := 0, cells := 0, slots := 0 } s m #[.ref b, .int (Int32.ofNat o), .ref d, .int (Int32.ofNat q), .int (Int32.ofNat len)] below meth c T' ([] ++ copyLocs d q len) 0 0 ∧ Put d B' s₁ T' ∧ Laid B B' q (q + len) (fun j => Value.int (lo8 (cv A (o + (j - q))))) ∧
      Steps p.tables e below (s₁.setTop (entryFrame m #[.ref b, .int (Int32.ofNat o), .ref d, .int (Int32.ofNat q), .int (Int32.ofNat len)] 7)) (T'.setTop (mkF m 3 #[.val (.ref b), .val (.int (Int32.ofNat (o + len))), .val (.ref d), .val (.int (Int32.ofNat (q + len))), .val (.int (Int32.ofNat len)), .val (.int (Int32.ofNat len)), z'] [])) := by
    intro r
    induction r with
    | zero =>
      intro i hi z hz Tl Bk Xl pl fl cl
      have hil : i = len := by omega
      rw [hil] at Xl fl cl
      exact ⟨Tl, Bk, z, Xl, pl, fl, cl⟩
    | succ r ih =>
      intro i hi z hz Tl Bk Xl pl fl cl
      have all := X0.warmed.alike.symm.trans Xl.warmed.alike
      have hAl := hA0.keep all (pl.other hne hA0.1)
      have hBk := hB0.like all pl.1 fl.1 fl.2.1 fl.2.2.1
      have hlt : q + i < Bk.slots.size := by rw [fl.2.2.1]; omega
      have c3 : Steps p.tables e below (s₁.setTop (entryFrame m #[.ref b, .int (Int32.ofNat o), .ref d, .int (Int32.ofNat q), .int (Int32.ofNat len)] 7)) (Tl.setTop (mkF m 12 #[.val (.ref b), .val (.int (Int32.ofNat (o + i))), .val (.ref d), .val (.int (Int32.ofNat (q + i))), .val (.int (Int32.ofNat len)), .val (.int (Int32.ofNat i)), z] [.int (Int32.ofNat (o + i)), .ref b])) := cl.trans (by
        refine XS.iload Xl.here hexec rfl (hb hbytes d3) rfl ?_
        refine XS.iload Xl.here hexec rfl (hb hbytes d5) rfl ?_
        refine XS.icmpNo Xl.here hexec rfl (hb hbytes d7) rfl (ii_ge_f (lt32 (by omega) (by omega))) ?_
        refine XS.aloadN Xl.here hexec rfl (hb hbytes d10) rfl rfl ?_
        refine XS.iloadN Xl.here hexec rfl (hb hbytes d11) rfl ?_
        exact Steps.refl _)
      have c4 : Steps p.tables e below (s₁.setTop (entryFrame m #[.ref b, .int (Int32.ofNat o), .ref d, .int (Int32.ofNat q), .int (Int32.ofNat len)] 7)) (Tl.setTop (mkF m 13 #[.val (.ref b), .val (.int (Int32.ofNat (o + i))), .val (.ref d), .val (.int (Int32.ofNat (q + i))), .val (.int (Int32.ofNat len)), .val (.int (Int32.ofNat i)), z] [.int (cv A (o + i))])) := c3.trans (by
        refine Xl.aget hexec hAl rfl (hA.get (i := o + i) (by omega)) rfl rfl (hb hbytes d12) ?_
        exact Steps.refl _)
      have c5 : Steps p.tables e below (s₁.setTop (entryFrame m #[.ref b, .int (Int32.ofNat o), .ref d, .int (Int32.ofNat q), .int (Int32.ofNat len)] 7)) (Tl.setTop (mkF m 15 #[.val (.ref b), .val (.int (Int32.ofNat (o + i))), .val (.ref d), .val (.int (Int32.ofNat (q + i))), .val (.int (Int32.ofNat len)), .val (.int (Int32.ofNat i)), .val (.int (cv A (o + i)))] [])) := c4.trans (by
        refine XS.istoreS Xl.here hexec rfl (hb hbytes d13) rfl rfl hz ?_
        exact Steps.refl _)
      have c6 : Steps p.tables e below (s₁.setTop (entryFrame m #[.ref b, .int (Int32.ofNat o), .ref d, .int (Int32.ofNat q), .int (Int32.ofNat len)] 7)) (Tl.setTop (mkF m 31 #[.val (.ref b), .val (.int (Int32.ofNat (o + i))), .val (.ref d), .val (.int (Int32.ofNat (q + i))), .val (.int (Int32.ofNat len)), .val (.int (Int32.ofNat i)), .val (.int (cv A (o + i)))] [.int (lo8 (cv A (o + i))), .int (Int32.ofNat (q + i)), .ref d])) := c5.trans (by
        refine XS.iload Xl.here hexec rfl (hb hbytes d15) rfl ?_
        refine sipushV Xl.here hexec rfl 255 (hb hbytes d17) (by decide) ?_
        refine XS.icmpYes Xl.here hexec rfl (pc0 := 20) rfl (hb hbytes d20) rfl (ii_le_t (hp i (by omega))) (by decide) rfl ?_
        refine XS.aloadN Xl.here hexec rfl (hb hbytes d26) rfl rfl ?_
        refine XS.iloadN Xl.here hexec rfl (hb hbytes d27) rfl ?_
        refine XS.iload Xl.here hexec rfl (hb hbytes d28) rfl ?_
        refine i2b Xl.here hexec rfl (hb hbytes d30) rfl ?_
        exact Steps.refl _)
      obtain ⟨T7, X7, p7, st7⟩ := Xl.aput hexec hBk rfl hlt rfl (fits_lo8 (cv A (o + i))) (g := (mkF m 31 #[.val (.ref b), .val (.int (Int32.ofNat (o + i))), .val (.ref d), .val (.int (Int32.ofNat (q + i))), .val (.int (Int32.ofNat len)), .val (.int (Int32.ofNat i)), .val (.int (cv A (o + i)))] [.int (lo8 (cv A (o + i))), .int (Int32.ofNat (q + i)), .ref d])) rfl (rest := []) rfl (hb hbytes d31)
      have c8 : Steps p.tables e below (s₁.setTop (entryFrame m #[.ref b, .int (Int32.ofNat o), .ref d, .int (Int32.ofNat q), .int (Int32.ofNat len)] 7)) (T7.setTop (mkF m 32 #[.val (.ref b), .val (.int (Int32.ofNat (o + i))), .val (.ref d), .val (.int (Int32.ofNat (q + i))), .val (.int (Int32.ofNat len)), .val (.int (Int32.ofNat i)), .val (.int (cv A (o + i)))] [])) := c6.trans (st7 _ (Steps.refl _))
      have c9 : Steps p.tables e below (s₁.setTop (entryFrame m #[.ref b, .int (Int32.ofNat o), .ref d, .int (Int32.ofNat q), .int (Int32.ofNat len)] 7)) (T7.setTop (mkF m 3 #[.val (.ref b), .val (.int (Int32.ofNat (o + i) + 1)), .val (.ref d), .val (.int (Int32.ofNat (q + i) + 1)), .val (.int (Int32.ofNat len)), .val (.int (Int32.ofNat i + 1)), .val (.int (cv A (o + i)))] [])) := c8.trans (by
        refine iincV X7.here hexec rfl 1 (hb hbytes d32) (by decide) rfl rfl ?_
        refine iincV X7.here hexec rfl 1 (hb hbytes d35) (by decide) rfl rfl ?_
        refine iincV X7.here hexec rfl 1 (hb hbytes d38) (by decide) rfl rfl ?_
        refine XS.goto X7.here hexec rfl (pc0 := 41) rfl (hb hbytes d41) (by decide) rfl ?_
        exact Steps.refl _)
      have c10 : Steps p.tables e below (s₁.setTop (entryFrame m #[.ref b, .int (Int32.ofNat o), .ref d, .int (Int32.ofNat q), .int (Int32.ofNat len)] 7)) (T7.setTop (mkF m 3 #[.val (.ref b), .val (.int (Int32.ofNat (o + (i + 1)))), .val (.ref d), .val (.int (Int32.ofNat (q + (i + 1)))), .val (.int (Int32.ofNat len)), .val (.int (Int32.ofNat (i + 1))), .val (.int (cv A (o + i)))] [])) := by
        have := c9
        rw [succ32, succ32, succ32] at this
        exact this
      exact ih (i + 1) (by omega) _ (Or.inr ⟨_, rfl, rfl⟩) T7 _ (by rw [copyLocs_step, ← List.append_assoc]; exact X7) (pl.trans p7) (fl.step (by omega) hlt (by simp)) c10
  obtain ⟨T9, B9, z9, X9, p9, f9, g9⟩ := loop len 0 (by omega) .unset (Or.inl rfl) s₁ B (by simpa [copyLocs] using X0) ⟨hB0.1, fun _ _ => rfl, rfl⟩ (Laid.zero _ _ _) c2
  have c11 : Steps p.tables e below (s₁.setTop (entryFrame m #[.ref b, .int (Int32.ofNat o), .ref d, .int (Int32.ofNat q), .int (Int32.ofNat len)] 7)) (T9.setTop (mkF m 46 #[.val (.ref b), .val (.int (Int32.ofNat (o + len))), .val (.ref d), .val (.int (Int32.ofNat (q + len))), .val (.int (Int32.ofNat len)), .val (.int (Int32.ofNat len)), z9] [.int (Int32.ofNat len)])) := g9.trans (by
    refine XS.iload X9.here hexec rfl (hb hbytes d3) rfl ?_
    refine XS.iload X9.here hexec rfl (hb hbytes d5) rfl ?_
    refine XS.icmpYes X9.here hexec rfl (pc0 := 7) rfl (hb hbytes d7) rfl (ii_ge_t (nlt32 (by omega) (Nat.le_refl _))) (by decide) rfl ?_
    refine XS.iload X9.here hexec rfl (hb hbytes d44) rfl ?_
    exact Steps.refl _)
  exact ⟨T9, some (.int (Int32.ofNat len)), _, _, _, X9, by simp, rfl, rfl, (fun h => by cases h), ⟨rfl, B9, p9.from hh0, f9⟩, fun fs hl => c11.trans (X9.ireturnOut hexec hret rfl (Or.inl rfl) (hb hbytes d46) hl)⟩
end Cmp5
namespace Cmp3
def yN : MethodName := ⟨"java/lang/StringUTF16", "compress", "([CII)[B"⟩
abbrev yB : ByteArray := jdk_52_method_16_code
theorem d0 : decode yB 0 = .ok (.iload_n 2, 1) := by decide +kernel
theorem d1 : decode yB 1 = .ok (.newarray .byte, 2) := by decide +kernel
theorem d3 : decode yB 3 = .ok (.astore_n 3, 1) := by decide +kernel
theorem d4 : decode yB 4 = .ok (.aload_n 0, 1) := by decide +kernel
theorem d5 : decode yB 5 = .ok (.iload_n 1, 1) := by decide +kernel
theorem d6 : decode yB 6 = .ok (.aload_n 3, 1) := by decide +kernel
theorem d7 : decode yB 7 = .ok (.iconst 0, 1) := by decide +kernel
theorem d8 : decode yB 8 = .ok (.iload_n 2, 1) := by decide +kernel
theorem d9 : decode yB 9 = .ok (.invokestatic 115, 3) := by decide +kernel
theorem d12 : decode yB 12 = .ok (.istore 4, 2) := by decide +kernel
theorem d14 : decode yB 14 = .ok (.iload 4, 2) := by decide +kernel
theorem d16 : decode yB 16 = .ok (.iload_n 2, 1) := by decide +kernel
theorem d17 : decode yB 17 = .ok (.if_icmp (.eq) 40, 3) := by decide +kernel
theorem d57 : decode yB 57 = .ok (.aload_n 3, 1) := by decide +kernel
theorem d58 : decode yB 58 = .ok (.areturn, 1) := by decide +kernel
def site : List Cond := [.arrayClass .byte, Cmp5.tab] ++ staticW U16 115 Cmp5.yN
def tab : Cond := tabOf yN yB 6 (some (.array .byte)) site
def P (b : Addr) (A : Cell) (o len : Nat) (args : Array Value) (s : State) : Prop := args = #[.ref b, .int (Int32.ofNat o), .int (Int32.ofNat len)] ∧ Ch b A s ∧ o + len ≤ A.slots.size ∧ len ≤ 536870912 ∧ ∀ i, i < len → ¬ 255 < cv A (o + i)
def E (b : Addr) (A : Cell) (o len : Nat) (r : Option Value) (s u : State) : Prop := NewArr .byte "[B" len (fun j => .int (lo8 (cv A (o + j)))) r s u ∧ u.heap.size = s.heap.size + 1
/-- no char of the range above 255: a new byte[] of their low bytes -/
theorem law (l : Launch) (b : Addr) (A : Cell) (o len : Nat) : Law l yN 3 3 1 18 yB 6 (some (.array .byte)) site (P b A o len) (E b A o len) [] 1 len := by
  refine Law.of_walk (plainFor_of_name (by decide +kernel)) (by decide +kernel) (by decide +kernel) (by decide) (fun _ _ h => by rw [h.1]; rfl) (fun _ U U' hal hh h => ⟨h.1, h.2.1.mv hal hh, h.2.2⟩) (fun r U U' V V' h1 hal h2 h => ⟨NewArr.mv r U U' V V' h1 hal h2 h.1, by rw [h1, h2]; exact h.2⟩) ?_
  intro p e s m args below meth c s₁ X0 hexec hbytes hml hret hlk hnm hown hh0 W hP
  obtain ⟨rfl, hA, l1, l2, hp⟩ := hP
  have a31 := hA.1.2.2.2
  have c1 : Steps p.tables e below (s₁.setTop (entryFrame m #[.ref b, .int (Int32.ofNat o), .int (Int32.ofNat len)] 6)) (s₁.setTop (mkF m 0 #[.val (.ref b), .val (.int (Int32.ofNat o)), .val (.int (Int32.ofNat len)), .unset, .unset, .unset] [])) := entry rfl
  have c2 : Steps p.tables e below (s₁.setTop (entryFrame m #[.ref b, .int (Int32.ofNat o), .int (Int32.ofNat len)] 6)) (s₁.setTop (mkF m 1 #[.val (.ref b), .val (.int (Int32.ofNat o)), .val (.int (Int32.ofNat len)), .unset, .unset, .unset] [.int (Int32.ofNat len)])) := c1.trans (by
    refine XS.iloadN X0.here hexec rfl (hb hbytes d0) rfl ?_
    exact Steps.refl _)
  obtain ⟨T3, B3, X3, ba3, bs3, bv3, bh3, bf3, st3⟩ := X0.anew hexec (atype := .byte) (wk W (.arrayClass .byte)) rfl (by show len * 1 ≤ _; omega) (by omega) (g := (mkF m 1 #[.val (.ref b), .val (.int (Int32.ofNat o)), .val (.int (Int32.ofNat len)), .unset, .unset, .unset] [.int (Int32.ofNat len)])) rfl (hb hbytes d1) (rest := []) rfl (Nat.le_refl _) (by show 0 + len ≤ len; omega)
  rw [hh0] at ba3 st3
  have kp3 : XT.Kept s T3 := (XT.Kept.of_eq hh0).push bh3
  have hA3 := hA.keep X3.warmed.alike (kp3 _ _ hA.1.1)
  have hne : b ≠ s.heap.size := hA.1.ne
  have c4 : Steps p.tables e below (s₁.setTop (entryFrame m #[.ref b, .int (Int32.ofNat o), .int (Int32.ofNat len)] 6)) (T3.setTop (mkF m 3 #[.val (.ref b), .val (.int (Int32.ofNat o)), .val (.int (Int32.ofNat len)), .unset, .unset, .unset] [.ref s.heap.size])) := c2.trans (st3 _ (Steps.refl _))
  have c5 : Steps p.tables e below (s₁.setTop (entryFrame m #[.ref b, .int (Int32.ofNat o), .int (Int32.ofNat len)] 6)) (T3.setTop (mkF m 9 #[.val (.ref b), .val (.int (Int32.ofNat o)), .val (.int (Int32.ofNat len)), .val (.ref s.heap.size), .unset, .unset] [.int (Int32.ofNat len), .int 0, .ref s.heap.size, .int (Int32.ofNat o), .ref b])) := c4.trans (by
    refine XS.astoreN X3.here hexec rfl (hb hbytes d3) rfl rfl rfl ?_
    refine XS.aloadN X3.here hexec rfl (hb hbytes d4) rfl rfl ?_
    refine XS.iloadN X3.here hexec rfl (hb hbytes d5) rfl ?_
    refine XS.aloadN X3.here hexec rfl (hb hbytes d6) rfl rfl ?_
    refine iconstV X3.here hexec rfl 0 (hb hbytes d7) (by decide) ?_
    refine XS.iloadN X3.here hexec rfl (hb hbytes d8) rfl ?_
    exact Steps.refl _)
  obtain ⟨v6, T6, X6, E6, g6⟩ := X3.callS hexec (Cmp5.law l b A s.heap.size B3 o 0 len) hown (wks W (staticW U16 115 Cmp5.yN)) (wk W Cmp5.tab) (W := 0) (Nat.le_of_ble_eq_true rfl) (Nat.le_of_ble_eq_true rfl) (Nat.le_refl _) (by show 0 + len + 0 ≤ len; omega) (g := (mkF m 9 #[.val (.ref b), .val (.int (Int32.ofNat o)), .val (.int (Int32.ofNat len)), .val (.ref s.heap.size), .unset, .unset] [.int (Int32.ofNat len), .int (Int32.ofNat 0), .ref s.heap.size, .int (Int32.ofNat o), .ref b])) rfl (by rw [hml]; rfl) c5 (argsL := [.ref b, .int (Int32.ofNat o), .ref s.heap.size, .int (Int32.ofNat 0), .int (Int32.ofNat len)]) (rest := []) rfl rfl (by show 2 * 0 + 0 ≤ _; decide) (hb hbytes d9) (⟨rfl, hA3, ba3, hne, l1, by rw [bs3]; simp, hp⟩)
  obtain ⟨rfl, B6, p6, f6⟩ := E6
  have c7 : Steps p.tables e below (s₁.setTop (entryFrame m #[.ref b, .int (Int32.ofNat o), .int (Int32.ofNat len)] 6)) (T6.setTop (mkF m 12 #[.val (.ref b), .val (.int (Int32.ofNat o)), .val (.int (Int32.ofNat len)), .val (.ref s.heap.size), .unset, .unset] [.int (Int32.ofNat len)])) := g6
  have c8 : Steps p.tables e below (s₁.setTop (entryFrame m #[.ref b, .int (Int32.ofNat o), .int (Int32.ofNat len)] 6)) (T6.setTop (mkF m 58 #[.val (.ref b), .val (.int (Int32.ofNat o)), .val (.int (Int32.ofNat len)), .val (.ref s.heap.size), .val (.int (Int32.ofNat len)), .unset] [.ref s.heap.size])) := c7.trans (by
    refine XS.istore X6.here hexec rfl (hb hbytes d12) rfl rfl ?_
    refine XS.iload X6.here hexec rfl (hb hbytes d14) rfl ?_
    refine XS.iloadN X6.here hexec rfl (hb hbytes d16) rfl ?_
    refine XS.icmpYes X6.here hexec rfl (pc0 := 17) rfl (hb hbytes d17) rfl (ii_eq_t rfl) (by decide) rfl ?_
    refine XS.aloadN X6.here hexec rfl (hb hbytes d57) rfl rfl ?_
    exact Steps.refl _)
  have X8 := X6.wide (L' := []) (cells' := 1) (slots' := len) (fun x hx hlt => by
    simp only [List.nil_append, copyLocs, List.mem_map, List.mem_range] at hx
    obtain ⟨i, -, rfl⟩ := hx
    exact absurd hlt (Nat.lt_irrefl _)) (Nat.le_refl _) (by omega)
  exact ⟨T6, some (.ref s.heap.size), _, _, _, X8, rfl, rfl, rfl, (fun h => by cases h), ⟨⟨rfl, B6, ba3.like (X3.warmed.alike.symm.trans X6.warmed.alike) p6.1 f6.1 f6.2.1 f6.2.2.1, f6.2.1.trans bv3, by rw [X6.warmed.alike.findClass, f6.1]; exact bf3, by rw [f6.2.2.1, bs3]; simp, fun j hj => by rw [f6.2.2.2 j, if_pos (by omega)]; rfl, kp3.put p6 (Nat.le_refl _)⟩, by rw [p6.2.2, bh3, hh0]; simp⟩, fun fs hl => c8.trans (X8.areturnOut hexec rfl hret rfl (hb hbytes d58) hl)⟩
end Cmp3
namespace CodL
def yN : MethodName := ⟨"java/lang/StringUTF16", "coderFromArrayLen", "([BI)B"⟩
abbrev yB : ByteArray := jdk_52_method_15_code
theorem d0 : decode yB 0 = .ok (.iload_n 1, 1) := by decide +kernel
theorem d1 : decode yB 1 = .ok (.aload_n 0, 1) := by decide +kernel
theorem d2 : decode yB 2 = .ok (.arraylength, 1) := by decide +kernel
theorem d3 : decode yB 3 = .ok (.isub, 1) := by decide +kernel
theorem d4 : decode yB 4 = .ok (.bipush 31, 2) := by decide +kernel
theorem d6 : decode yB 6 = .ok (.iushr, 1) := by decide +kernel
theorem d7 : decode yB 7 = .ok (.i2b, 1) := by decide +kernel
theorem d8 : decode yB 8 = .ok (.ireturn, 1) := by decide +kernel
def site : List Cond := []
def tab : Cond := tabOf yN yB 2 (some .byte) site
def P (d : Addr) (B : Cell) (args : Array Value) (s : State) : Prop := args = #[.ref d, .int (Int32.ofNat B.slots.size)] ∧ Arr .byte d B s
def E (r : Option Value) (s u : State) : Prop := XT.PureE (some (.int 0)) r s u
/-- an array as long as the number of chars: LATIN1 -/
theorem law (l : Launch) (d : Addr) (B : Cell) : Law l yN 2 2 0 0 yB 2 (some .byte) site (P d B) E [] 0 0 := by
  refine Law.of_walk (plainFor_of_name (by decide +kernel)) (by decide +kernel) (by decide +kernel) (by decide) (fun _ _ h => by rw [h.1]; rfl) (fun _ U U' hal hh h => ⟨h.1, h.2.mv hal hh⟩) (fun r U U' V V' h1 hal h2 h => XT.PureE.mv r U U' V V' h1 hal h2 h) ?_
  intro p e s m args below meth c s₁ X0 hexec hbytes hml hret hlk hnm hown hh0 W hP
  obtain ⟨rfl, hB⟩ := hP
  have hB0 := hB.mv X0.warmed.alike hh0
  have c1 : Steps p.tables e below (s₁.setTop (entryFrame m #[.ref d, .int (Int32.ofNat B.slots.size)] 2)) (s₁.setTop (mkF m 0 #[.val (.ref d), .val (.int (Int32.ofNat B.slots.size))] [])) := entry rfl
  have c2 : Steps p.tables e below (s₁.setTop (entryFrame m #[.ref d, .int (Int32.ofNat B.slots.size)] 2)) (s₁.setTop (mkF m 2 #[.val (.ref d), .val (.int (Int32.ofNat B.slots.size))] [.ref d, .int (Int32.ofNat B.slots.size)])) := c1.trans (by
    refine XS.iloadN X0.here hexec rfl (hb hbytes d0) rfl ?_
    refine XS.aloadN X0.here hexec rfl (hb hbytes d1) rfl rfl ?_
    exact Steps.refl _)
  have c3 : Steps p.tables e below (s₁.setTop (entryFrame m #[.ref d, .int (Int32.ofNat B.slots.size)] 2)) (s₁.setTop (mkF m 8 #[.val (.ref d), .val (.int (Int32.ofNat B.slots.size))] [.int (lo8 (ushr (Int32.ofNat B.slots.size - Int32.ofNat B.slots.size) 31))])) := c2.trans (by
    refine X0.alen hexec hB0 rfl rfl (hb hbytes d2) ?_
    refine XS.isub X0.here hexec rfl (hb hbytes d3) rfl ?_
    refine bipushV X0.here hexec rfl 31 (hb hbytes d4) (by decide) ?_
    refine iushr X0.here hexec rfl (hb hbytes d6) rfl ?_
    refine i2b X0.here hexec rfl (hb hbytes d7) rfl ?_
    exact Steps.refl _)
  have e0 : lo8 (ushr (Int32.ofNat B.slots.size - Int32.ofNat B.slots.size) 31) = 0 := by rw [Int32.sub_self]; decide
  rw [e0] at c3
  exact ⟨s₁, some (.int 0), _, _, _, X0, rfl, rfl, rfl, (fun h => by cases h), ⟨rfl, hh0⟩, fun fs hl => c3.trans (X0.ireturnOut hexec hret rfl (Or.inr (Or.inr (Or.inl rfl))) (hb hbytes d8) hl)⟩
end CodL
/-- the String at a is Latin-1 over a new byte[] (the heap's one new cell): the low bytes of the len chars of A from o on; every cell but a is kept -/
def Got (a : Addr) (D : Cell) (fV fC : Field) (A : Cell) (o len : Nat) (r : Option Value) (s u : State) : Prop := r = none ∧ ∃ D' V : Cell, Blank "java/lang/String" a D' u ∧ Same D D' [fV.slot, fC.slot] ∧ D'.slots[fV.slot]? = some (.ref s.heap.size) ∧ D'.slots[fC.slot]? = some (.int 0) ∧ Arr .byte s.heap.size V u ∧ V.vm = .none ∧ u.vm.findClass "[B" = some V.cls ∧ V.slots.size = len ∧ (∀ j, j < len → V.slots[j]? = some (.int (lo8 (cv A (o + j))))) ∧ (∀ (y : Addr) (c : Cell), y ≠ a → s.heap[y]? = some c → u.heap[y]? = some c) ∧ u.heap.size = s.heap.size + 1
theorem Got.mv {a : Addr} {D A : Cell} {fV fC : Field} {o len : Nat} : ∀ r (U U' V V' : State), U'.heap = U.heap → V.vm.Alike V'.vm → V'.heap = V.heap → Got a D fV fC A o len r U V → Got a D fV fC A o len r U' V' :=
  fun r U U' V V' h1 hal h2 ⟨e0, D', X, a1, a2, a3, a4, a5, a6, a7, a8, a9, a10, a11⟩ => ⟨e0, D', X, a1.mv hal h2, a2, by rw [h1]; exact a3, a4, by rw [h1]; exact a5.mv hal h2, a6, by rw [hal.findClass]; exact a7, a8, a9, by rw [h1, h2]; exact a10, by rw [h1, h2]; exact a11⟩
namespace New4
def yN : MethodName := ⟨"java/lang/String", "<init>", "([CIILjava/lang/Void;)V"⟩
abbrev yB : ByteArray := jdk_42_method_149_code
theorem d0 : decode yB 0 = .ok (.aload_n 0, 1) := by decide +kernel
theorem d1 : decode yB 1 = .ok (.invokespecial 1, 3) := by decide +kernel
theorem d4 : decode yB 4 = .ok (.iload_n 3, 1) := by decide +kernel
theorem d5 : decode yB 5 = .ok (.ifCond (.ne) 22, 3) := by decide +kernel
theorem d27 : decode yB 27 = .ok (.getstatic 38, 3) := by decide +kernel
theorem d30 : decode yB 30 = .ok (.ifCond (.eq) 28, 3) := by decide +kernel
theorem d33 : decode yB 33 = .ok (.aload_n 1, 1) := by decide +kernel
theorem d34 : decode yB 34 = .ok (.iload_n 2, 1) := by decide +kernel
theorem d35 : decode yB 35 = .ok (.iload_n 3, 1) := by decide +kernel
theorem d36 : decode yB 36 = .ok (.invokestatic 177, 3) := by decide +kernel
theorem d39 : decode yB 39 = .ok (.astore 5, 2) := by decide +kernel
theorem d41 : decode yB 41 = .ok (.aload_n 0, 1) := by decide +kernel
theorem d42 : decode yB 42 = .ok (.aload 5, 2) := by decide +kernel
theorem d44 : decode yB 44 = .ok (.iload_n 3, 1) := by decide +kernel
theorem d45 : decode yB 45 = .ok (.invokestatic 47, 3) := by decide +kernel
theorem d48 : decode yB 48 = .ok (.putfield 15, 3) := by decide +kernel
theorem d51 : decode yB 51 = .ok (.aload_n 0, 1) := by decide +kernel
theorem d52 : decode yB 52 = .ok (.aload 5, 2) := by decide +kernel
theorem d54 : decode yB 54 = .ok (.putfield 9, 3) := by decide +kernel
theorem d57 : decode yB 57 = .ok (.return_, 1) := by decide +kernel
def site : List Cond := [.fieldLink "java/lang/String" 38 "java/lang/String" "COMPACT_STRINGS" "Z", Cmp3.tab, CodL.tab, .laysFinal "java/lang/String" "java/lang/String" "value" "[B", .fieldLink "java/lang/String" 9 "java/lang/String" "value" "[B", .laysFinal "java/lang/String" "java/lang/String" "coder" "B", .fieldLink "java/lang/String" 15 "java/lang/String" "coder" "B"] ++ objW "java/lang/String" 1 ++ staticW "java/lang/String" 177 Cmp3.yN ++ staticW "java/lang/String" 47 CodL.yN
def tab : Cond := tabOf yN yB 6 none site
def P (a : Addr) (D : Cell) (fV fC : Field) (b : Addr) (A : Cell) (z : Int32) (o len : Nat) (args : Array Value) (s : State) : Prop := args = #[.ref a, .ref b, .int (Int32.ofNat o), .int (Int32.ofNat len), .null] ∧ Blank "java/lang/String" a D s ∧ Found "java/lang/String" "value" "[B" fV s ∧ Found "java/lang/String" "coder" "B" fC s ∧ Ch b A s ∧ StaticIs s "java/lang/String" "COMPACT_STRINGS" "Z" (.int z) ∧ ¬ z = 0 ∧ 0 < len ∧ o + len ≤ A.slots.size ∧ len ≤ 536870912 ∧ ∀ i, i < len → ¬ 255 < cv A (o + i)
def E (a : Addr) (D : Cell) (fV fC : Field) (A : Cell) (o len : Nat) (r : Option Value) (s u : State) : Prop := Got a D fV fC A o len r s u
/-- len > 0, no char of the range above 255: a Latin-1 String of their low bytes -/
theorem law (l : Launch) (a : Addr) (D : Cell) (fV fC : Field) (b : Addr) (A : Cell) (z : Int32) (o len : Nat) : Law l yN 5 4 2 35 yB 6 none site (P a D fV fC b A z o len) (E a D fV fC A o len) [⟨a, fC.slot⟩, ⟨a, fV.slot⟩] 1 len := by
  refine Law.of_walk (plainFor_of_name (by decide +kernel)) (by decide +kernel) (by decide +kernel) (by decide) (fun _ _ h => by rw [h.1]; rfl) (fun _ U U' hal hh h => ⟨h.1, h.2.1.mv hal hh, h.2.2.1.al hal, h.2.2.2.1.al hal, h.2.2.2.2.1.mv hal hh, h.2.2.2.2.2.1.there hal hh, h.2.2.2.2.2.2⟩) (fun r U U' V V' h1 hal h2 h => Got.mv r U U' V V' h1 hal h2 h) ?_
  intro p e s m args below meth c s₁ X0 hexec hbytes hml hret hlk hnm hown hh0 W hP
  obtain ⟨rfl, hB, f1, f2, hA, s1, hz, l0, l1, l2, hp⟩ := hP
  have a31 := hA.1.2.2.2
  have c1 : Steps p.tables e below (s₁.setTop (entryFrame m #[.ref a, .ref b, .int (Int32.ofNat o), .int (Int32.ofNat len), .null] 6)) (s₁.setTop (mkF m 0 #[.val (.ref a), .val (.ref b), .val (.int (Int32.ofNat o)), .val (.int (Int32.ofNat len)), .val .null, .unset] [])) := entry rfl
  have c2 : Steps p.tables e below (s₁.setTop (entryFrame m #[.ref a, .ref b, .int (Int32.ofNat o), .int (Int32.ofNat len), .null] 6)) (s₁.setTop (mkF m 1 #[.val (.ref a), .val (.ref b), .val (.int (Int32.ofNat o)), .val (.int (Int32.ofNat len)), .val .null, .unset] [.ref a])) := c1.trans (by
    refine XS.aloadN X0.here hexec rfl (hb hbytes d0) rfl rfl ?_
    exact Steps.refl _)
  obtain ⟨T3, X3, q3, st3⟩ := X0.oinit hexec hown (wks W (objW "java/lang/String" 1)) (g := (mkF m 1 #[.val (.ref a), .val (.ref b), .val (.int (Int32.ofNat o)), .val (.int (Int32.ofNat len)), .val .null, .unset] [.ref a])) rfl (by rw [hml]; rfl) (rest := []) rfl (hb hbytes d1) (W := 0) (by show 2 * 0 + 0 ≤ _; decide) (Nat.le_of_ble_eq_true rfl) (Nat.le_of_ble_eq_true rfl)
  have hh3 := q3.trans hh0
  have c4 : Steps p.tables e below (s₁.setTop (entryFrame m #[.ref a, .ref b, .int (Int32.ofNat o), .int (Int32.ofNat len), .null] 6)) (T3.setTop (mkF m 27 #[.val (.ref a), .val (.ref b), .val (.int (Int32.ofNat o)), .val (.int (Int32.ofNat len)), .val .null, .unset] [])) := (c2.trans (st3 _ (Steps.refl _))).trans (by
    refine XS.iloadN X3.here hexec rfl (hb hbytes d4) rfl ?_
    refine XS.ifYes X3.here hexec rfl (pc0 := 5) rfl (hb hbytes d5) rfl (i0_ne_t (nz32 (by omega) l0)) (by decide) rfl ?_
    exact Steps.refl _)
  obtain ⟨T5, X5, q5, st5⟩ := X3.sget hexec hown (wk W (.fieldLink "java/lang/String" 38 "java/lang/String" "COMPACT_STRINGS" "Z")) s1 (fun _ _ h => by rw [hh3]; exact h) (g := (mkF m 27 #[.val (.ref a), .val (.ref b), .val (.int (Int32.ofNat o)), .val (.int (Int32.ofNat len)), .val .null, .unset] [])) rfl (hb hbytes d27)
  have hh5 := q5.trans hh3
  have c6 : Steps p.tables e below (s₁.setTop (entryFrame m #[.ref a, .ref b, .int (Int32.ofNat o), .int (Int32.ofNat len), .null] 6)) (T5.setTop (mkF m 30 #[.val (.ref a), .val (.ref b), .val (.int (Int32.ofNat o)), .val (.int (Int32.ofNat len)), .val .null, .unset] [.int z])) := c4.trans (st5 _ (Steps.refl _))
  have c7 : Steps p.tables e below (s₁.setTop (entryFrame m #[.ref a, .ref b, .int (Int32.ofNat o), .int (Int32.ofNat len), .null] 6)) (T5.setTop (mkF m 36 #[.val (.ref a), .val (.ref b), .val (.int (Int32.ofNat o)), .val (.int (Int32.ofNat len)), .val .null, .unset] [.int (Int32.ofNat len), .int (Int32.ofNat o), .ref b])) := c6.trans (by
    refine XS.ifNo X5.here hexec rfl (hb hbytes d30) rfl (i0_eq_f hz) ?_
    refine XS.aloadN X5.here hexec rfl (hb hbytes d33) rfl rfl ?_
    refine XS.iloadN X5.here hexec rfl (hb hbytes d34) rfl ?_
    refine XS.iloadN X5.here hexec rfl (hb hbytes d35) rfl ?_
    exact Steps.refl _)
  obtain ⟨v8, T8, X8, E8, g8⟩ := X5.callS hexec (Cmp3.law l b A o len) hown (wks W (staticW "java/lang/String" 177 Cmp3.yN)) (wk W Cmp3.tab) (W := 0) (Nat.le_of_ble_eq_true rfl) (Nat.le_of_ble_eq_true rfl) (Nat.le_refl _) (by show 0 + len ≤ len; omega) (g := (mkF m 36 #[.val (.ref a), .val (.ref b), .val (.int (Int32.ofNat o)), .val (.int (Int32.ofNat len)), .val .null, .unset] [.int (Int32.ofNat len), .int (Int32.ofNat o), .ref b])) rfl (by rw [hml]; rfl) c7 (argsL := [.ref b, .int (Int32.ofNat o), .int (Int32.ofNat len)]) (rest := []) rfl rfl (by show 2 * 0 + 0 ≤ _; decide) (hb hbytes d36) (⟨rfl, hA.mv X5.warmed.alike hh5, l1, l2, hp⟩)
  obtain ⟨e8, z8⟩ := E8
  obtain ⟨rfl, N, n1, n2, n3, n4, n5, n6⟩ := NewArr.mv _ T5 s _ _ hh5.symm (Vm.Alike.refl _) rfl e8
  rw [hh5] at z8
  have hB1 := hB.keep X8.warmed.alike (n6 _ _ hB.1)
  have hne : s.heap.size ≠ a := (Nat.ne_of_lt (Array.getElem?_eq_some_iff.mp hB.1).1).symm
  have c9 : Steps p.tables e below (s₁.setTop (entryFrame m #[.ref a, .ref b, .int (Int32.ofNat o), .int (Int32.ofNat len), .null] 6)) (T8.setTop (mkF m 39 #[.val (.ref a), .val (.ref b), .val (.int (Int32.ofNat o)), .val (.int (Int32.ofNat len)), .val .null, .unset] [.ref s.heap.size])) := g8
  have c10 : Steps p.tables e below (s₁.setTop (entryFrame m #[.ref a, .ref b, .int (Int32.ofNat o), .int (Int32.ofNat len), .null] 6)) (T8.setTop (mkF m 45 #[.val (.ref a), .val (.ref b), .val (.int (Int32.ofNat o)), .val (.int (Int32.ofNat len)), .val .null, .val (.ref s.heap.size)] [.int (Int32.ofNat N.slots.size), .ref s.heap.size, .ref a])) := by
    have hc : Steps p.tables e below (s₁.setTop (entryFrame m #[.ref a, .ref b, .int (Int32.ofNat o), .int (Int32.ofNat len), .null] 6)) (T8.setTop (mkF m 45 #[.val (.ref a), .val (.ref b), .val (.int (Int32.ofNat o)), .val (.int (Int32.ofNat len)), .val .null, .val (.ref s.heap.size)] [.int (Int32.ofNat len), .ref s.heap.size, .ref a])) := c9.trans (by
      refine XS.astore X8.here hexec rfl (hb hbytes d39) rfl rfl rfl ?_
      refine XS.aloadN X8.here hexec rfl (hb hbytes d41) rfl rfl ?_
      refine XS.aload X8.here hexec rfl (hb hbytes d42) rfl rfl ?_
      refine XS.iloadN X8.here hexec rfl (hb hbytes d44) rfl ?_
      exact Steps.refl _)
    rw [n4]; exact hc
  obtain ⟨v11, T11, X11, E11, g11⟩ := X8.callS hexec (CodL.law l s.heap.size N) hown (wks W (staticW "java/lang/String" 47 CodL.yN)) (wk W CodL.tab) (W := 1) (Nat.le_of_ble_eq_true rfl) (Nat.le_of_ble_eq_true rfl) (Nat.le_refl _) (by show 0 + len + 0 ≤ len; omega) (g := (mkF m 45 #[.val (.ref a), .val (.ref b), .val (.int (Int32.ofNat o)), .val (.int (Int32.ofNat len)), .val .null, .val (.ref s.heap.size)] [.int (Int32.ofNat N.slots.size), .ref s.heap.size, .ref a])) rfl (by rw [hml]; rfl) c10 (argsL := [.ref s.heap.size, .int (Int32.ofNat N.slots.size)]) (rest := [.ref a]) rfl rfl (by show 2 * 0 + (1 + 0) ≤ _; decide) (hb hbytes d45) (⟨rfl, n1⟩)
  obtain ⟨rfl, q11⟩ := E11
  have hB11 := hB1.mv (X8.warmed.alike.symm.trans X11.warmed.alike) q11
  have c12 : Steps p.tables e below (s₁.setTop (entryFrame m #[.ref a, .ref b, .int (Int32.ofNat o), .int (Int32.ofNat len), .null] 6)) (T11.setTop (mkF m 48 #[.val (.ref a), .val (.ref b), .val (.int (Int32.ofNat o)), .val (.int (Int32.ofNat len)), .val .null, .val (.ref s.heap.size)] [.int 0, .ref a])) := g11
  obtain ⟨T13, X13, p13, bl13, sl13, st13⟩ := X11.finit hexec hown (wk W (.fieldLink "java/lang/String" 15 "java/lang/String" "coder" "B")) (Or.inr ⟨_, (wk W (.laysFinal "java/lang/String" "java/lang/String" "coder" "B"))⟩) (Or.inl ⟨rfl, hnm⟩) f2 (Or.inl rfl) hB11 (t := .byte) (by decide +kernel) rfl (g := (mkF m 48 #[.val (.ref a), .val (.ref b), .val (.int (Int32.ofNat o)), .val (.int (Int32.ofNat len)), .val .null, .val (.ref s.heap.size)] [.int 0, .ref a])) rfl (rest := []) rfl (hb hbytes d48)
  have c14 : Steps p.tables e below (s₁.setTop (entryFrame m #[.ref a, .ref b, .int (Int32.ofNat o), .int (Int32.ofNat len), .null] 6)) (T13.setTop (mkF m 54 #[.val (.ref a), .val (.ref b), .val (.int (Int32.ofNat o)), .val (.int (Int32.ofNat len)), .val .null, .val (.ref s.heap.size)] [.ref s.heap.size, .ref a])) := (c12.trans (st13 _ (Steps.refl _))).trans (by
    refine XS.aloadN X13.here hexec rfl (hb hbytes d51) rfl rfl ?_
    refine XS.aload X13.here hexec rfl (hb hbytes d52) rfl rfl ?_
    exact Steps.refl _)
  obtain ⟨T15, X15, p15, bl15, sl15, st15⟩ := X13.finit hexec hown (wk W (.fieldLink "java/lang/String" 9 "java/lang/String" "value" "[B")) (Or.inr ⟨_, (wk W (.laysFinal "java/lang/String" "java/lang/String" "value" "[B"))⟩) (Or.inl ⟨rfl, hnm⟩) f1 (Or.inl rfl) bl13 (t := (.array .byte)) (by decide +kernel) rfl (g := (mkF m 54 #[.val (.ref a), .val (.ref b), .val (.int (Int32.ofNat o)), .val (.int (Int32.ofNat len)), .val .null, .val (.ref s.heap.size)] [.ref s.heap.size, .ref a])) rfl (rest := []) rfl (hb hbytes d54)
  have c16 : Steps p.tables e below (s₁.setTop (entryFrame m #[.ref a, .ref b, .int (Int32.ofNat o), .int (Int32.ofNat len), .null] 6)) (T15.setTop (mkF m 57 #[.val (.ref a), .val (.ref b), .val (.int (Int32.ofNat o)), .val (.int (Int32.ofNat len)), .val .null, .val (.ref s.heap.size)] [])) := c14.trans (st15 _ (Steps.refl _))
  have ap := apart (Or.inr ⟨_, (wk W (.laysFinal "java/lang/String" "java/lang/String" "value" "[B"))⟩) (Or.inr ⟨_, (wk W (.laysFinal "java/lang/String" "java/lang/String" "coder" "B"))⟩) f1 f2 (t₁ := .array .byte) (t₂ := .byte) (by decide +kernel) (by decide +kernel) (by decide)
  have al := X8.warmed.alike.symm.trans X15.warmed.alike
  have n7 : T11.heap[s.heap.size]? = some N := by rw [q11]; exact n1.1
  exact ⟨T15, none, _, _, _, X15, by simp, rfl, by omega, (fun _ => rfl), ⟨rfl, _, N, bl15, ((Same.refl D _).set _ (by simp)).set _ (by simp), sl15, (Cell.slots_setSlot_ne _ ap).trans sl13, n1.keep al (p15.other hne (p13.other hne n7)), n2, by rw [al.findClass]; exact n3, n4, n5, fun y c h1 h2 => p15.other h1 (p13.other h1 (by rw [q11]; exact n6 y c h2)), by rw [p15.2.2, p13.2.2, q11]; exact z8⟩, fun fs hl => c16.trans (X15.returnOut hexec hret (hb hbytes d57) hl)⟩
end New4
namespace New1
def yN : MethodName := ⟨"java/lang/String", "<init>", "([C)V"⟩
abbrev yB : ByteArray := jdk_42_method_3_code
theorem d0 : decode yB 0 = .ok (.aload_n 0, 1) := by decide +kernel
theorem d1 : decode yB 1 = .ok (.aload_n 1, 1) := by decide +kernel
theorem d2 : decode yB 2 = .ok (.iconst 0, 1) := by decide +kernel
theorem d3 : decode yB 3 = .ok (.aload_n 1, 1) := by decide +kernel
theorem d4 : decode yB 4 = .ok (.arraylength, 1) := by decide +kernel
theorem d5 : decode yB 5 = .ok (.aconst_null, 1) := by decide +kernel
theorem d6 : decode yB 6 = .ok (.invokespecial 27, 3) := by decide +kernel
theorem d9 : decode yB 9 = .ok (.return_, 1) := by decide +kernel
def site : List Cond := [New4.tab] ++ initW "java/lang/String" 27 New4.yN
def tab : Cond := tabOf yN yB 2 none site
def P (a : Addr) (D : Cell) (fV fC : Field) (b : Addr) (A : Cell) (z : Int32) (args : Array Value) (s : State) : Prop := args = #[.ref a, .ref b] ∧ Blank "java/lang/String" a D s ∧ Found "java/lang/String" "value" "[B" fV s ∧ Found "java/lang/String" "coder" "B" fC s ∧ Ch b A s ∧ StaticIs s "java/lang/String" "COMPACT_STRINGS" "Z" (.int z) ∧ ¬ z = 0 ∧ 0 < A.slots.size ∧ A.slots.size ≤ 536870912 ∧ ∀ i, i < A.slots.size → ¬ 255 < cv A i
def E (a : Addr) (D : Cell) (fV fC : Field) (A : Cell) (r : Option Value) (s u : State) : Prop := Got a D fV fC A 0 A.slots.size r s u
/-- new String(chars), not empty, no char above 255: a Latin-1 String of their low bytes -/
theorem law (l : Launch) (a : Addr) (D : Cell) (fV fC : Field) (b : Addr) (A : Cell) (z : Int32) : Law l yN 2 1 3 52 yB 2 none site (P a D fV fC b A z) (E a D fV fC A) [⟨a, fC.slot⟩, ⟨a, fV.slot⟩] 1 A.slots.size := by
  refine Law.of_walk (plainFor_of_name (by decide +kernel)) (by decide +kernel) (by decide +kernel) (by decide) (fun _ _ h => by rw [h.1]; rfl) (fun _ U U' hal hh h => ⟨h.1, h.2.1.mv hal hh, h.2.2.1.al hal, h.2.2.2.1.al hal, h.2.2.2.2.1.mv hal hh, h.2.2.2.2.2.1.there hal hh, h.2.2.2.2.2.2⟩) (fun r U U' V V' h1 hal h2 h => Got.mv r U U' V V' h1 hal h2 h) ?_
  intro p e s m args below meth c s₁ X0 hexec hbytes hml hret hlk hnm hown hh0 W hP
  obtain ⟨rfl, hB, f1, f2, hA, s1, hz, l0, l2, hp⟩ := hP
  have c1 : Steps p.tables e below (s₁.setTop (entryFrame m #[.ref a, .ref b] 2)) (s₁.setTop (mkF m 0 #[.val (.ref a), .val (.ref b)] [])) := entry rfl
  have c2 : Steps p.tables e below (s₁.setTop (entryFrame m #[.ref a, .ref b] 2)) (s₁.setTop (mkF m 6 #[.val (.ref a), .val (.ref b)] [.null, .int (Int32.ofNat A.slots.size), .int 0, .ref b, .ref a])) := c1.trans (by
    refine XS.aloadN X0.here hexec rfl (hb hbytes d0) rfl rfl ?_
    refine XS.aloadN X0.here hexec rfl (hb hbytes d1) rfl rfl ?_
    refine iconstV X0.here hexec rfl 0 (hb hbytes d2) (by decide) ?_
    refine XS.aloadN X0.here hexec rfl (hb hbytes d3) rfl rfl ?_
    refine X0.alen hexec (hA.1.mv X0.warmed.alike hh0) rfl rfl (hb hbytes d4) ?_
    refine XS.aconstNull X0.here hexec rfl (hb hbytes d5) ?_
    exact Steps.refl _)
  obtain ⟨v3, T3, X3, E3, g3⟩ := X0.callN hexec (New4.law l a D fV fC b A z 0 A.slots.size) rfl hown (wks W (initW "java/lang/String" 27 New4.yN)) (W New4.tab (by simp only [site, List.mem_cons, List.mem_append, true_or, or_true])) (W := 0) (Nat.le_of_ble_eq_true rfl) (Nat.le_of_ble_eq_true rfl) (Nat.le_refl _) (by show 0 + A.slots.size ≤ A.slots.size; omega) (g := (mkF m 6 #[.val (.ref a), .val (.ref b)] [.null, .int (Int32.ofNat A.slots.size), .int (Int32.ofNat 0), .ref b, .ref a])) rfl (by rw [hml]; rfl) c2 (argsL := [.ref b, .int (Int32.ofNat 0), .int (Int32.ofNat A.slots.size), .null]) (rest := []) rfl rfl (by show 2 * 0 + 0 ≤ _; decide) (hb hbytes d6) (⟨rfl, hB.mv X0.warmed.alike hh0, f1.al X0.warmed.alike, f2.al X0.warmed.alike, hA.mv X0.warmed.alike hh0, s1.there X0.warmed.alike hh0, hz, l0, by omega, l2, fun i hi => by rw [Nat.zero_add]; exact hp i hi⟩)
  have e0 := Got.mv _ s₁ s _ _ hh0.symm (Vm.Alike.refl _) rfl E3
  obtain rfl := e0.1
  have c4 : Steps p.tables e below (s₁.setTop (entryFrame m #[.ref a, .ref b] 2)) (T3.setTop (mkF m 9 #[.val (.ref a), .val (.ref b)] [])) := g3
  exact ⟨T3, none, _, _, _, X3, by simp, rfl, by omega, (fun _ => rfl), e0, fun fs hl => c4.trans (X3.returnOut hexec hret (hb hbytes d9) hl)⟩
theorem pays {l : Launch} {R : Room} {p : Program} {e : Env} {below : List Frame} {s : State} {sargs : Array Value} {len W : Nat} (a : Addr) (D : Cell) (fV fC : Field) (b : Addr) (A : Cell) (z : Int32) (htab : tab.before sargs s = true) (hfr : 4 ≤ R.frames) (hlo : W + 65 ≤ R.locals) :
    Back l R p e below s sargs yN len W (fun A₁ a₁ => A₁.cells + 1 ≤ R.cells ∧ A₁.slots + A.slots.size ≤ R.slots ∧ P a D fV fC b A z a₁ A₁.U) (fun A₁ _ v₁ B₁ => E a D fV fC A v₁ A₁.U B₁.U ∧ B₁.locs = A₁.locs ++ [⟨a, fC.slot⟩, ⟨a, fV.slot⟩] ∧ B₁.cells = A₁.cells + 1 ∧ B₁.slots = A₁.slots + A.slots.size) :=
  (law l a D fV fC b A z).pays htab hfr (by omega)
end New1
/-- the byte, read back as charAt reads it, is the char -/
theorem lo8_mask {x : Int32} (h0 : ¬ x < 0) (h1 : ¬ 255 < x) : lo8 x &&& 255 = x := by
  have t : ∀ k : Fin 256, lo8 (Int32.ofNat k.val) &&& 255 = Int32.ofNat k.val := by decide +kernel
  rw [Int32.lt_iff_toInt_lt] at h0 h1
  have e0 : (0 : Int32).toInt = 0 := rfl
  have e1 : (255 : Int32).toInt = 255 := rfl
  obtain ⟨k, hk⟩ : ∃ k : Nat, x.toInt = k := ⟨x.toInt.toNat, by omega⟩
  have hx : x = Int32.ofNat k := Int32.toInt_inj.mp (by rw [hk, Int32.toInt_ofNat_small (by omega)])
  rw [hx]
  exact t ⟨k, by omega⟩
end StrChars
namespace StrChars.Road
open Jvm Sem ClassFile Op Lib Jvm.Stand Jvm.Free Jvm.Free.XT
open Jvm.Lib.Cold (StaticIs)
abbrev ST : String := "java/lang/String"
/-- every table word that New1's law asks, flat -/
abbrev words : List Jvm.Cond := [.code New1.yN New1.yB 2 none, .initialized ST, .methodLink ST 27 New4.yN, .instanceMethod New4.yN,
  .code New4.yN New4.yB 6 none, .fieldLink ST 38 ST "COMPACT_STRINGS" "Z", .laysFinal ST ST "value" "[B", .fieldLink ST 9 ST "value" "[B", .laysFinal ST ST "coder" "B", .fieldLink ST 15 ST "coder" "B",
  .methodLink ST 1 Lib.objectInit, .instanceMethod Lib.objectInit, .code Lib.objectInit ⟨#[0xb1]⟩ 1 none, .methodLink ST 177 Cmp3.yN, .static Cmp3.yN, .methodLink ST 47 CodL.yN, .static CodL.yN,
  .code Cmp3.yN Cmp3.yB 6 (some (.array .byte)), .initialized U16, .arrayClass .byte, .methodLink U16 115 Cmp5.yN, .static Cmp5.yN, .code Cmp5.yN Cmp5.yB 7 (some .int), .code CodL.yN CodL.yB 2 (some .byte)]
theorem tab_of {a : Array Value} {s : State} (h : ∀ w ∈ words, w.before a s = true) : New1.tab.before a s = true := by
  have h5 : Cmp5.tab.before a s = true := unparts (wk h (.code Cmp5.yN Cmp5.yB 7 (some .int))) (wks h (.initialized Cmp5.yN.cls :: Cmp5.site))
  have hc : CodL.tab.before a s = true := unparts (wk h (.code CodL.yN CodL.yB 2 (some .byte))) (wks h (.initialized CodL.yN.cls :: CodL.site))
  have q5 : ∀ w ∈ Cmp5.tab :: words, w.before a s = true := fun w hw => (List.mem_cons.mp hw).elim (fun e => e ▸ h5) (h w)
  have h3 : Cmp3.tab.before a s = true := unparts (wk q5 (.code Cmp3.yN Cmp3.yB 6 (some (.array .byte)))) (wks q5 (.initialized Cmp3.yN.cls :: Cmp3.site))
  have q3 : ∀ w ∈ Cmp3.tab :: CodL.tab :: words, w.before a s = true := fun w hw => (List.mem_cons.mp hw).elim (fun e => e ▸ h3) fun hw => (List.mem_cons.mp hw).elim (fun e => e ▸ hc) (h w)
  have h4 : New4.tab.before a s = true := unparts (wk q3 (.code New4.yN New4.yB 6 none)) (wks q3 (.initialized New4.yN.cls :: New4.site))
  have q4 : ∀ w ∈ New4.tab :: words, w.before a s = true := fun w hw => (List.mem_cons.mp hw).elim (fun e => e ▸ h4) (h w)
  exact unparts (wk q4 (.code New1.yN New1.yB 2 none)) (wks q4 (.initialized New1.yN.cls :: New1.site))
/-- the words ride from the start Z to the walk's own state -/
theorem moved {Z s : State} {a0 args : Array Value} (hZ : Z.Warmed39 s.vm) (hw : ∀ d ∈ words, d.before a0 Z = true) : ∀ d ∈ words, d.before args s = true := fun d hd => by
  have q := hw d hd
  have t : ∀ d ∈ words, d = .arrayClass .byte ∨ (d.onTables && d.keepsFace) = true := by decide +kernel
  rcases t d hd with rfl | t
  · exact RoadKit.mvA hZ q
  · exact RoadKit.mv hZ q t
/-- WHAT COMES BACK, over the tables of the start Z: h the heap at the call, h' behind it -/
def Q (Z : State) (x : Addr) (A : Cell) (h : Heap) (v : Option Value) (h' : Heap) (L : List Loc) : Prop := v = none ∧ (∀ y ∈ L, y.base = x) ∧ RoadKit.Keep h h' [x] ∧ h'.size = h.size + 1 ∧ RoadKit.Exa Z h' x ST ∧ RoadKit.Fld Z h' x ST "value" "[B" (.ref h.size) ∧ RoadKit.Fld Z h' x ST "coder" "B" (.int 0) ∧
  (∃ V : Cell, RoadKit.Arr Z h' h.size V .byte ∧ V.vm = .none ∧ Z.vm.findClass "[B" = some V.cls ∧ V.slots.size = A.slots.size ∧ ∀ j, j < A.slots.size → V.slots[j]? = some (.int (lo8 (cv A j)))) ∧
  ∀ (O n d : String) (w : Value), RoadKit.Fld Z h x O n d w → RoadKit.slotOf Z O n d ≠ RoadKit.slotOf Z ST "value" "[B" → RoadKit.slotOf Z O n d ≠ RoadKit.slotOf Z ST "coder" "B" → RoadKit.Fld Z h' x O n d w
/-- **new String(chars) AT A CALL, IN THE ROAD'S FORM**: for specialBack behind newO: x the fresh String, b the char[] with the cell A -/
theorem back {p : Program} {l : Launch} {e : Env} {R : Room} {s : State} {args : Array Value} {below : List Frame} {len W : Nat} {Z : State} {a0 : Array Value} {h : Heap} (hZ : Z.Warmed39 s.vm) (hw : ∀ d ∈ words, d.before a0 Z = true) {kI : Nat} (wi : (Jvm.Cond.instantiable ST kI).before a0 Z = true)
    {x b : Addr} {A : Cell} {z : Int32} {v0 c0 : Value} (E : RoadKit.Exa Z h x ST) (V : RoadKit.Fld Z h x ST "value" "[B" v0) (C : RoadKit.Fld Z h x ST "coder" "B" c0) (K : RoadKit.Arr Z h b A .char) (hty : Typed .char A) (S : RoadKit.Sta Z h ST "COMPACT_STRINGS" "Z" (.int z)) (hz : ¬ z = 0)
    (l0 : 0 < A.slots.size) (l2 : A.slots.size ≤ 536870912) (hp : ∀ i, i < A.slots.size → ¬ 255 < cv A i) (hfr : 4 ≤ R.frames) (hlo : W + 65 ≤ R.locals) :
    Back l R p e below s args New1.yN len W (fun P a => a = #[.ref x, .ref b] ∧ P.U.heap = h ∧ P.cells + 1 ≤ R.cells ∧ P.slots + A.slots.size ≤ R.slots)
      (fun P _ v B => ∃ L, Q Z x A h v B.U.heap L ∧ B.locs = P.locs ++ L ∧ B.cells = P.cells + 1 ∧ B.slots = P.slots + A.slots.size) := by
  intro m meth c P g ig mk a X hg hsize hdg hW hn hp'
  obtain ⟨rfl, rfl, r1, r2⟩ := hp'
  have al : Z.vm.Alike P.U.vm := hZ.alike.trans X.warmed.alike
  obtain ⟨D, cfV, kV, iV, fV, hD, gV, stV, knV, obV, asV, slV⟩ := id V
  obtain ⟨D', cfC, kC, iC, fC, hD', gC, stC, -, -, asC, slC⟩ := id C
  cases hD.symm.trans hD'
  obtain ⟨D2, kD, e1, e2, e3, e4, e5⟩ := id E
  cases hD.symm.trans e1
  obtain ⟨c2, k2, i1, i2, i3, -⟩ := Cond.instantiable_spec wi
  cases e2.symm.trans i1
  cases e3.symm.trans i2
  obtain ⟨kU, u1, u2⟩ := al.2.2 _ _ e3
  have hB : Blank ST x D P.U := ⟨hD, ⟨knV, fun q hq => by rw [hq] at obV; cases obV⟩, by rw [al.findClass]; exact e2, kU, u1, by rw [u2]; exact i3, by rw [u2]; exact e5 i3⟩
  have F1 : Found ST "value" "[B" fV P.U := ⟨SBG.found_only al ⟨cfV, kV, iV, gV⟩, stV⟩
  have F2 : Found ST "coder" "B" fC P.U := ⟨SBG.found_only al ⟨cfC, kC, iC, gC⟩, stC⟩
  have hA : Ch b A P.U := ⟨⟨K.1, State.isArrayOf_alike al K.2.1, K.2.2, by omega⟩, hty⟩
  have hS : StaticIs P.U ST "COMPACT_STRINGS" "Z" (.int z) := by
    obtain ⟨cfS, iS, kS, fS, st, cS, t1, t2, t3, t4, t5, t6, t7⟩ := S
    exact StaticIs.there (s := { Z with heap := P.U.heap }) ⟨cfS, iS, kS, fS, st, cS, t1, t2, t3, t4, t5, (fun q => by rw [q] at t6; cases t6), t7⟩ al rfl
  obtain ⟨v, B, X', ⟨⟨hv, E', V', q1, q2, q3, q4, q5, q6, q7, q8, q9, q10, q11⟩, hl, hc, hs⟩, st⟩ := New1.pays x D fV fC b A z (tab_of (moved hZ hw)) hfr hlo m meth c P g ig mk _ X hg hsize hdg hW hn ⟨r1, r2, rfl, hB, F1, F2, hA, hS, hz, l0, l2, hp⟩
  have al' : Z.vm.Alike B.U.vm := hZ.alike.trans X'.warmed.alike
  have hsz : E'.slots.size = D.slots.size := by
    obtain ⟨-, -, -, kB, w1, w2, w3⟩ := q1
    obtain ⟨kB', y1, y2⟩ := al'.2.2 _ _ e3
    rw [q2.2.1] at w1
    cases w1.symm.trans y1
    rw [w3, e5 i3, y2]
  refine ⟨v, B, X', ⟨_, ⟨hv, ?_, ⟨by omega, fun y cy hy hn' => q10 y cy (by simpa using hn') hy, fun y cy hy => ?_⟩, q11, ⟨E', _, q1.1, by rw [q2.2.1]; exact e2, by rw [q2.2.1]; exact e3, by rw [q2.1]; exact obV, fun _ => by rw [hsz]; exact e5 i3⟩,
    ⟨E', cfV, kV, iV, fV, q1.1, gV, stV, by rw [q2.1]; exact knV, by rw [q2.1]; exact obV, by rw [q2.2.1]; exact asV, q3⟩, ⟨E', cfC, kC, iC, fC, q1.1, gC, stC, by rw [q2.1]; exact knV, by rw [q2.1]; exact obV, by rw [q2.2.1]; exact asC, q4⟩,
    ⟨V', ⟨q5.1, State.isArrayOf_alike al'.symm q5.2.1, q5.2.2.1⟩, q6, by rw [← al'.findClass]; exact q7, q8, fun j hj => by have := q9 j hj; rwa [Nat.zero_add] at this⟩, fun O n d w F n1 n2 => ?_⟩, hl, hc, hs⟩, st⟩
  · intro y hy
    simp only [List.mem_cons, List.not_mem_nil, or_false] at hy
    rcases hy with rfl | rfl <;> rfl
  · by_cases q : y = x
    · subst q
      cases hD.symm.trans hy
      exact ⟨E', q1.1, q2.2.1, q2.1, hsz⟩
    · exact ⟨cy, q10 y cy q hy, rfl, rfl, rfl⟩
  · obtain ⟨D3, cf, k, i, f, g1, g2, g3, g4, g5, g6, g7⟩ := F
    cases hD.symm.trans g1
    simp only [RoadKit.slotOf, g2, gV, gC, Option.map_some, Option.getD_some] at n1 n2
    exact ⟨E', cf, k, i, f, q1.1, g2, g3, by rw [q2.1]; exact g4, by rw [q2.1]; exact g5, by rw [q2.2.1]; exact g6, by rw [q2.2.2 f.slot (by simp [n1, n2])]; exact g7⟩
end StrChars.Road
namespace StrChars.Road
open Jvm Sem ClassFile Op Lib Jvm.Stand Jvm.Free Jvm.Free.XT
/-- WHAT COMES BACK, the byte[] as a list of values -/
def QA (Z : State) (x : Addr) (zn : Int32) (cs : List Int32) (h : Heap) (v : Option Value) (h' : Heap) (L : List Loc) : Prop := v = none ∧ (∀ y ∈ L, y.base = x) ∧ RoadKit.Keep h h' [x] ∧ h'.size = h.size + 1 ∧ RoadKit.Exa Z h' x ST ∧ RoadKit.Fld Z h' x ST "value" "[B" (.ref h.size) ∧ RoadKit.Fld Z h' x ST "coder" "B" (.int 0) ∧
  (∃ kb, Z.vm.findClass "[B" = some kb ∧ RoadKit.Arv Z h' h.size kb .byte zn (cs.map fun c => .int (lo8 c)) (.int 0)) ∧
  ∀ (O n d : String) (w : Value), RoadKit.Fld Z h x O n d w → RoadKit.slotOf Z O n d ≠ RoadKit.slotOf Z ST "value" "[B" → RoadKit.slotOf Z O n d ≠ RoadKit.slotOf Z ST "coder" "B" → RoadKit.Fld Z h' x O n d w
/-- **new String(chars) AT A CALL, THE ARRAYS AS LISTS**: the char[] at b holds cs, not empty, no char above 255 -/
theorem backArv {p : Program} {l : Launch} {e : Env} {R : Room} {s : State} {args : Array Value} {below : List Frame} {len W : Nat} {Z : State} {a0 : Array Value} {h : Heap} (hZ : Z.Warmed39 s.vm) (hw : ∀ d ∈ words, d.before a0 Z = true) {kI : Nat} (wi : (Jvm.Cond.instantiable ST kI).before a0 Z = true)
    {x b : Addr} {k : ClassId} {zn z : Int32} {cs : List Int32} {dv v0 c0 : Value} (E : RoadKit.Exa Z h x ST) (V : RoadKit.Fld Z h x ST "value" "[B" v0) (C : RoadKit.Fld Z h x ST "coder" "B" c0) (K : RoadKit.Arv Z h b k .char zn (cs.map Value.int) dv) (S : RoadKit.Sta Z h ST "COMPACT_STRINGS" "Z" (.int z)) (hz : ¬ z = 0)
    (hlen : zn.toNatClampNeg = cs.length) (h0 : 0 < cs.length) (hbig : cs.length ≤ 536870912) (hall : ∀ c ∈ cs, ¬ 255 < c) (hfr : 4 ≤ R.frames) (hlo : W + 65 ≤ R.locals) :
    Back l R p e below s args New1.yN len W (fun P a => a = #[.ref x, .ref b] ∧ P.U.heap = h ∧ P.cells + 1 ≤ R.cells ∧ P.slots + cs.length ≤ R.slots)
      (fun P _ v B => ∃ L, QA Z x zn cs h v B.U.heap L ∧ B.locs = P.locs ++ L ∧ B.cells = P.cells + 1 ∧ B.slots = P.slots + cs.length) := by
  obtain ⟨A, K1, K2, K3, K4, K5, K6⟩ := K
  have e : A.slots.size = cs.length := K3.trans hlen
  have hat : ∀ (i : Nat) (hi : i < cs.length), A.slots[i]? = some (.int cs[i]) := fun i hi => by rw [K5 i (by omega)]; simp [List.getD_eq_getElem?_getD, hi]
  have hcv : ∀ (i : Nat) (hi : i < cs.length), cv A i = cs[i] := fun i hi => by unfold cv; rw [hat i hi]
  have hty : Typed .char A := fun i v hv => by
    have hi : i < A.slots.size := (Array.getElem?_eq_some_iff.mp hv).1
    have q := K5 i hi
    rw [hv] at q
    rw [Option.some.inj q]
    exact K6 i hi
  refine Back.mono (back hZ hw wi E V C K1 hty S hz (by omega) (by omega) (fun i hi => by rw [hcv i (by omega)]; exact hall _ (List.getElem_mem _)) hfr hlo) (fun P a hp => ⟨hp.1, hp.2.1, hp.2.2.1, by rw [e]; exact hp.2.2.2⟩) (fun P a v B hp hq => ?_)
  obtain ⟨L, ⟨q1, q2, q3, q4, q5, q6, q7, ⟨V', v1, v2, v3, v4, v5⟩, q9⟩, hl, hc, hs⟩ := hq
  refine ⟨L, ⟨q1, q2, q3, q4, q5, q6, q7, ⟨V'.cls, v3, V', v1, rfl, by rw [v4, e, hlen], K4, fun i hi => ?_, fun i hi => ?_⟩, q9⟩, hl, hc, by rw [hs, e]⟩
  · have hi' : i < cs.length := by omega
    rw [v5 i (by omega), hcv i hi']; simp [List.getD_eq_getElem?_getD, hi']
  · have hi' : i < cs.length := by omega
    simp only [List.getD_eq_getElem?_getD, List.getElem?_map, List.getElem?_eq_getElem hi', Option.map_some, Option.getD_some]
    exact fits_lo8 _
end StrChars.Road
namespace StrChars.Road
open Jvm Sem ClassFile Op Lib Jvm.Stand Jvm.Free Jvm.Free.XT
/-- WHAT COMES BACK, in the writer's own shape -/
def QV (Z : State) (x : Addr) (N : Int32) (bs : List Int32) (h : Heap) (n0 : Nat) (v : Option Value) (h' : Heap) (L : List Loc) : Prop := v = none ∧ RoadKit.Fr n0 L ∧ RoadKit.Keep h h' [x] ∧ RoadKit.Exa Z h' x ST ∧ RoadKit.Fld Z h' x ST "coder" "B" (.int 0) ∧
  ∃ (t : Addr) (kb : ClassId), n0 ≤ t ∧ h.size ≤ t ∧ ¬ t = x ∧ RoadKit.Fld Z h' x ST "value" "[B" (.ref t) ∧ RoadKit.Arv Z h' t kb .byte N (bs.map Value.int) (.int 0)
/-- **new String(chars) AT A CALL, FOR THE WRITER**: a char[] of n known ints, each 0 to 255 -/
theorem backV {p : Program} {l : Launch} {e : Env} {R : Room} {s : State} {args : Array Value} {below : List Frame} {len W : Nat} {Z : State} {a0 : Array Value} {h : Heap} (hZ : Z.Warmed39 s.vm) (hw : ∀ d ∈ words, d.before a0 Z = true) {kI : Nat} (wi : (Jvm.Cond.instantiable ST kI).before a0 Z = true)
    {x b : Addr} {kC : ClassId} {cs bs : List Int32} {d v0 c0 : Value} {z N : Int32} {n n0 : Nat} (hx0 : n0 ≤ x) (hh0 : n0 ≤ h.size) (E : RoadKit.Exa Z h x ST) (V : RoadKit.Fld Z h x ST "value" "[B" v0) (C : RoadKit.Fld Z h x ST "coder" "B" c0) (K : RoadKit.Arv Z h b kC .char N (cs.map Value.int) d) (S : RoadKit.Sta Z h ST "COMPACT_STRINGS" "Z" (.int z)) (hz : ¬ z = 0)
    (hn : cs.length = n) (hN : N = Int32.ofNat n) (l0 : 0 < n) (l2 : n ≤ 4000) (hp : ∀ c ∈ cs, ¬ c < 0 ∧ ¬ (255 : Int32) < c) (hb : bs = cs.map (fun c => c.toInt8.toInt32)) (hfr : 4 ≤ R.frames) (hlo : W + 65 ≤ R.locals) :
    Back l R p e below s args (⟨"java/lang/String", "<init>", "([C)V"⟩ : MethodName) len W (fun P a => a = #[.ref x, .ref b] ∧ P.U.heap = h ∧ P.cells + 1 ≤ R.cells ∧ P.slots + n ≤ R.slots)
      (fun P _ v B => ∃ L, QV Z x N bs h n0 v B.U.heap L ∧ B.locs = P.locs ++ L ∧ B.cells = P.cells + 1 ∧ B.slots = P.slots + n) := by
  subst hn hN hb
  refine Back.mono (backArv hZ hw wi E V C K S hz (n32 (by omega)) l0 (by omega) (fun c hc => (hp c hc).2) hfr hlo) (fun P a hp => hp) (fun P a v B hp hq => ?_)
  obtain ⟨L, ⟨q1, q2, q3, q4, q5, q6, q7, ⟨kb, v1, v2⟩, q9⟩, hl, hc, hs⟩ := hq
  exact ⟨L, ⟨q1, fun y hy => by rw [q2 y hy]; exact hx0, q3, q5, q7, h.size, kb, hh0, Nat.le_refl _, Nat.ne_of_gt E.lt, q6, by rw [List.map_map]; exact v2⟩, hl, hc, hs⟩
end StrChars.Road
namespace StrChars
open Jvm Sem ClassFile Op Lib Jvm.Stand Jvm.Free.XT Jvm.Free.ALB Jvm.Free.JM Jvm.Free
open Jvm.Lib.Cold (StaticIs)
def hi8 (x : Int32) : Int32 := lo8 (x >>> ((8 : Int32) &&& 31))
/-- what StringUTF16.getChar makes of two bytes -/
def pairCh (u v : Int32) : Int32 := (((u &&& 255) <<< ((0 : Int32) &&& 31)) ||| ((v &&& 255) <<< ((8 : Int32) &&& 31))).toUInt32.toUInt16.toUInt32.toInt32
theorem shr0 (c : Int32) : c >>> ((0 : Int32) &&& 31) = c := by
  have e : ((0 : Int32) &&& 31) = 0 := by decide
  rw [e]
  apply Int32.toBitVec_inj.mp
  rw [Int32.toBitVec_shiftRight]
  have e1 : ((0 : Int32).toBitVec.smod 32) = 0#32 := by decide
  rw [e1, BitVec.sshiftRight_eq']
  exact BitVec.sshiftRight_zero
theorem lo8_and (x : Int32) : (lo8 x &&& 255).toBitVec.toNat = x.toBitVec.toNat % 256 := by
  have h : (lo8 x).toBitVec = (x.toBitVec.signExtend 8).signExtend 32 := by rw [lo8, Int8.toBitVec_toInt32, Int32.toBitVec_toInt8]
  rw [Int32.toBitVec_and, BitVec.toNat_and, h]
  have e : ((x.toBitVec.signExtend 8).signExtend 32).toNat % 256 = x.toBitVec.toNat % 256 := by
    rw [BitVec.toNat_signExtend]
    have hlt := x.toBitVec.isLt
    simp only [BitVec.toNat_setWidth, BitVec.toNat_signExtend]
    split <;> split <;> omega
  rw [← e]
  exact Nat.and_two_pow_sub_one_eq_mod _ 8
theorem pair_says {c : Int32} (h0 : ¬ c < 0) (h1 : ¬ 65535 < c) : pairCh (lo8 c) (hi8 c) = c := by
  rw [Int32.lt_iff_toInt_lt] at h0 h1
  have e0 : (0 : Int32).toInt = 0 := rfl
  have e1 : (65535 : Int32).toInt = 65535 := rfl
  have hc : c.toInt = c.toBitVec.toNat := by
    have := c.toBitVec.isLt
    have e : c.toInt = c.toBitVec.toInt := rfl
    rw [e] at h0 h1
    rw [e]
    rw [BitVec.toInt_eq_toNat_cond] at h0 h1 ⊢
    split at h0 <;> split <;> omega
  have hn : c.toBitVec.toNat < 65536 := by omega
  have a1 := lo8_and c
  have a2 : (hi8 c &&& 255).toBitVec.toNat = c.toBitVec.toNat / 256 := by
    rw [hi8, lo8_and]
    have e : ((8 : Int32) &&& 31) = 8 := by decide
    rw [e, Int32.toBitVec_shiftRight]
    have e2 : ((8 : Int32).toBitVec.smod 32) = 8#32 := by decide
    rw [e2, BitVec.sshiftRight_eq', BitVec.toNat_sshiftRight_of_msb_false (by rw [BitVec.msb_eq_false_iff_two_mul_lt]; omega)]
    show c.toBitVec.toNat >>> 8 % 256 = _
    rw [Nat.shiftRight_eq_div_pow]
    omega
  unfold pairCh
  apply Int32.toBitVec_inj.mp
  apply BitVec.eq_of_toNat_eq
  have f0 : ((0 : Int32) &&& 31) = 0 := by decide
  have f8 : ((8 : Int32) &&& 31) = 8 := by decide
  rw [f0, f8]
  have g : (((lo8 c &&& 255) <<< (0 : Int32)) ||| ((hi8 c &&& 255) <<< (8 : Int32))).toBitVec.toNat = c.toBitVec.toNat := by
    rw [Int32.toBitVec_or, Int32.toBitVec_shiftLeft, Int32.toBitVec_shiftLeft]
    have s0 : ((0 : Int32).toBitVec.smod 32) = 0#32 := by decide
    have s8 : ((8 : Int32).toBitVec.smod 32) = 8#32 := by decide
    rw [s0, s8, BitVec.toNat_or]
    simp only [BitVec.shiftLeft_eq', BitVec.toNat_shiftLeft, a1, a2]
    show (c.toBitVec.toNat % 256) <<< 0 % 2 ^ 32 ||| (c.toBitVec.toNat / 256) <<< 8 % 2 ^ 32 = _
    rw [Nat.shiftLeft_zero, Nat.mod_eq_of_lt (show c.toBitVec.toNat % 256 < 2 ^ 32 by omega), Nat.mod_eq_of_lt (show (c.toBitVec.toNat / 256) <<< 8 < 2 ^ 32 by rw [Nat.shiftLeft_eq]; omega), Nat.or_comm, ← Nat.shiftLeft_add_eq_or_of_lt (by omega), Nat.shiftLeft_eq]
    omega
  show BitVec.toNat (((((lo8 c &&& 255) <<< (0 : Int32)) ||| ((hi8 c &&& 255) <<< (8 : Int32))).toBitVec.setWidth 16).setWidth 32) = _
  rw [BitVec.toNat_setWidth, BitVec.toNat_setWidth, g]
  omega
end StrChars
namespace StrChars
open Jvm Sem ClassFile Op Lib Jvm.Stand Jvm.Free.XT Jvm.Free.ALB Jvm.Free.JM Jvm.Free
open Jvm.Lib.Cold (StaticIs)
theorem shr1 {n : Nat} (h : 2 * n < 2 ^ 31) : Int32.ofNat (2 * n) >>> ((1 : Int32) &&& 31) = Int32.ofNat n := by
  have e : ((1 : Int32) &&& 31) = 1 := by decide
  rw [e]
  apply Int32.toBitVec_inj.mp
  rw [Int32.toBitVec_shiftRight]
  have e1 : ((1 : Int32).toBitVec.smod 32) = 1#32 := by decide
  have hm : (BitVec.ofNat 32 (2 * n)).toNat = 2 * n := by rw [BitVec.toNat_ofNat, Nat.mod_eq_of_lt (by omega)]
  rw [e1, BitVec.sshiftRight_eq']
  apply BitVec.eq_of_toNat_eq
  show ((BitVec.ofNat 32 (2 * n)).sshiftRight 1).toNat = (BitVec.ofNat 32 n).toNat
  rw [BitVec.toNat_sshiftRight_of_msb_false (by rw [BitVec.msb_eq_false_iff_two_mul_lt, hm]; omega), hm, BitVec.toNat_ofNat, Nat.shiftRight_eq_div_pow]
  omega
/-- charAt's cast of a byte read back -/
def chr8 (u : Int32) : Int32 := (u &&& 255).toUInt32.toUInt16.toUInt32.toInt32
theorem chr8_lo8 {c : Int32} (h0 : ¬ c < 0) (h1 : ¬ 255 < c) : chr8 (lo8 c) = c := by
  have t : ∀ k : Fin 256, (Int32.ofNat k.val).toUInt32.toUInt16.toUInt32.toInt32 = Int32.ofNat k.val := by decide +kernel
  unfold chr8
  rw [lo8_mask h0 h1]
  rw [Int32.lt_iff_toInt_lt] at h0 h1
  have e0 : (0 : Int32).toInt = 0 := rfl
  have e1 : (255 : Int32).toInt = 255 := rfl
  obtain ⟨k, hk⟩ : ∃ k : Nat, c.toInt = k := ⟨c.toInt.toNat, by omega⟩
  have hx : c = Int32.ofNat k := Int32.toInt_inj.mp (by rw [hk, Int32.toInt_ofNat_small (by omega)])
  rw [hx]
  exact t ⟨k, by omega⟩
theorem narrow_ch {c : Int32} (h0 : ¬ c < 0) (h1 : ¬ 65535 < c) : narrow .char (.int c) = .int c := by
  have q : narrow .char (.int (pairCh (lo8 c) (hi8 c))) = .int (pairCh (lo8 c) (hi8 c)) := narrow_c _
  rwa [pair_says h0 h1] at q
/-- the array's cell V codes the n chars f 0 .. f (n - 1) by the coder cd, as the JDK does: coder 1 just where some char is above 255 -/
def Cod (cd : Int32) (n : Nat) (f : Nat → Int32) (V : Cell) : Prop := (cd = 0 ∧ V.slots.size = n ∧ ∀ j, j < n → V.slots[j]? = some (.int (lo8 (f j))) ∧ ¬ 255 < f j) ∨ (cd = 1 ∧ V.slots.size = 2 * n ∧ (∀ j, j < n → V.slots[2 * j]? = some (.int (lo8 (f j))) ∧ V.slots[2 * j + 1]? = some (.int (hi8 (f j)))) ∧ ∃ j, j < n ∧ 255 < f j)
theorem Cod.cd {cd : Int32} {n : Nat} {f : Nat → Int32} {V : Cell} (h : Cod cd n f V) : cd = 0 ∨ cd = 1 := h.imp (fun q => q.1) fun q => q.1
theorem Cod.len {cd : Int32} {n : Nat} {f : Nat → Int32} {V : Cell} (h : Cod cd n f V) (hs : V.slots.size < 2 ^ 31) : Int32.ofNat V.slots.size >>> (cd &&& 31) = Int32.ofNat n := by
  rcases h with ⟨rfl, h, -⟩ | ⟨rfl, h, -⟩
  · rw [shr0, h]
  · rw [h, shr1 (by omega)]
/-- **x is a String of the n chars f 0 .. f (n - 1)**, Latin-1 or UTF-16; its array at t has the cell V -/
def Txt (x t : Addr) (V : Cell) (cd : Int32) (n : Nat) (f : Nat → Int32) (U : State) : Prop := Exact "java/lang/String" x U ∧ Has x "java/lang/String" "value" "[B" (.ref t) U ∧ Has x "java/lang/String" "coder" "B" (.int cd) U ∧ XT.Arr .byte t V U ∧ Cod cd n f V ∧ ∀ j, j < n → ¬ f j < 0 ∧ ¬ 65535 < f j
theorem Txt.mv {x t : Addr} {V : Cell} {cd : Int32} {n : Nat} {f : Nat → Int32} {U U' : State} (h : Txt x t V cd n f U) (hal : U.vm.Alike U'.vm) (hh : U'.heap = U.heap) : Txt x t V cd n f U' := ⟨h.1.mv hal hh, h.2.1.mv hal hh, h.2.2.1.mv hal hh, h.2.2.2.1.mv hal hh, h.2.2.2.2⟩
namespace Cdr
def yN : MethodName := ⟨"java/lang/String", "coder", "()B"⟩
abbrev yB : ByteArray := jdk_42_method_152_code
theorem d0 : decode yB 0 = .ok (.getstatic 38, 3) := by decide +kernel
theorem d3 : decode yB 3 = .ok (.ifCond (.eq) 10, 3) := by decide +kernel
theorem d6 : decode yB 6 = .ok (.aload_n 0, 1) := by decide +kernel
theorem d7 : decode yB 7 = .ok (.getfield 15, 3) := by decide +kernel
theorem d10 : decode yB 10 = .ok (.goto 4, 3) := by decide +kernel
theorem d14 : decode yB 14 = .ok (.ireturn, 1) := by decide +kernel
def site : List Cond := [.fieldLink "java/lang/String" 38 "java/lang/String" "COMPACT_STRINGS" "Z", .fieldLink "java/lang/String" 15 "java/lang/String" "coder" "B"]
def tab : Cond := tabOf yN yB 1 (some .byte) site
def P (x : Addr) (cd z : Int32) (args : Array Value) (s : State) : Prop := args = #[.ref x] ∧ Has x "java/lang/String" "coder" "B" (.int cd) s ∧ (cd = 0 ∨ cd = 1) ∧ StaticIs s "java/lang/String" "COMPACT_STRINGS" "Z" (.int z) ∧ ¬ z = 0
def E (cd : Int32) (r : Option Value) (s u : State) : Prop := XT.PureE (some (.int cd)) r s u
theorem law (l : Launch) (x : Addr) (cd z : Int32) : Law l yN 1 0 0 0 yB 1 (some .byte) site (P x cd z) (E cd) [] 0 0 := by
  refine Law.of_walk (plainFor_of_name (by decide +kernel)) (by decide +kernel) (by decide +kernel) (by decide) (fun _ _ h => by rw [h.1]; rfl) (fun _ U U' hal hh h => ⟨h.1, h.2.1.mv hal hh, h.2.2.1, h.2.2.2.1.there hal hh, h.2.2.2.2⟩) (fun r U U' V V' h1 hal h2 h => XT.PureE.mv r U U' V V' h1 hal h2 h) ?_
  intro p e s m args below meth c s₁ X0 hexec hbytes hml hret hlk hnm hown hh0 W hP
  obtain ⟨rfl, hx, hc, s1, hz⟩ := hP
  have c1 : Steps p.tables e below (s₁.setTop (entryFrame m #[.ref x] 1)) (s₁.setTop (mkF m 0 #[.val (.ref x)] [])) := entry rfl
  obtain ⟨T2, X2, q2, st2⟩ := X0.sget hexec hown (wk W (.fieldLink "java/lang/String" 38 "java/lang/String" "COMPACT_STRINGS" "Z")) s1 (fun _ _ h => by rw [hh0]; exact h) (g := (mkF m 0 #[.val (.ref x)] [])) rfl (hb hbytes d0)
  have hh2 := q2.trans hh0
  have c3 : Steps p.tables e below (s₁.setTop (entryFrame m #[.ref x] 1)) (T2.setTop (mkF m 7 #[.val (.ref x)] [.ref x])) := (c1.trans (st2 _ (Steps.refl _))).trans (by
    refine XS.ifNo X2.here hexec rfl (hb hbytes d3) rfl (i0_eq_f hz) ?_
    refine XS.aloadN X2.here hexec rfl (hb hbytes d6) rfl rfl ?_
    exact Steps.refl _)
  obtain ⟨T4, X4, q4, st4⟩ := X2.hget hexec hown (wk W (.fieldLink "java/lang/String" 15 "java/lang/String" "coder" "B")) (hx.mv X2.warmed.alike hh2) (g := (mkF m 7 #[.val (.ref x)] [.ref x])) rfl (rest := []) rfl (hb hbytes d7)
  have c5 : Steps p.tables e below (s₁.setTop (entryFrame m #[.ref x] 1)) (T4.setTop (mkF m 14 #[.val (.ref x)] [.int cd])) := (c3.trans (st4 _ (Steps.refl _))).trans (by
    refine XS.goto X4.here hexec rfl (pc0 := 10) rfl (hb hbytes d10) (by decide) rfl ?_
    exact Steps.refl _)
  exact ⟨T4, some (.int cd), _, _, _, X4, rfl, rfl, rfl, (fun h => by cases h), ⟨rfl, q4.trans hh2⟩, fun fs hl => c5.trans (X4.ireturnOut hexec hret (by rcases hc with rfl | rfl <;> rfl) (Or.inr (Or.inr (Or.inl rfl))) (hb hbytes d14) hl)⟩
end Cdr
namespace Len
def yN : MethodName := ⟨"java/lang/String", "length", "()I"⟩
abbrev yB : ByteArray := jdk_42_method_54_code
theorem d0 : decode yB 0 = .ok (.aload_n 0, 1) := by decide +kernel
theorem d1 : decode yB 1 = .ok (.getfield 9, 3) := by decide +kernel
theorem d4 : decode yB 4 = .ok (.arraylength, 1) := by decide +kernel
theorem d5 : decode yB 5 = .ok (.aload_n 0, 1) := by decide +kernel
theorem d6 : decode yB 6 = .ok (.invokevirtual 335, 3) := by decide +kernel
theorem d9 : decode yB 9 = .ok (.ishr, 1) := by decide +kernel
theorem d10 : decode yB 10 = .ok (.ireturn, 1) := by decide +kernel
def site : List Cond := [.fieldLink "java/lang/String" 9 "java/lang/String" "value" "[B", Cdr.tab] ++ virtW "java/lang/String" 335 "java/lang/String" Cdr.yN Cdr.yN
def tab : Cond := tabOf yN yB 1 (some .int) site
def P (x t : Addr) (V : Cell) (cd : Int32) (n : Nat) (f : Nat → Int32) (z : Int32) (args : Array Value) (s : State) : Prop := args = #[.ref x] ∧ Txt x t V cd n f s ∧ StaticIs s "java/lang/String" "COMPACT_STRINGS" "Z" (.int z) ∧ ¬ z = 0
def E (n : Nat) (r : Option Value) (s u : State) : Prop := XT.PureE (some (.int (Int32.ofNat n))) r s u
/-- length() of a String of n chars, in either coding -/
theorem law (l : Launch) (x t : Addr) (V : Cell) (cd : Int32) (n : Nat) (f : Nat → Int32) (z : Int32) : Law l yN 1 0 1 13 yB 1 (some .int) site (P x t V cd n f z) (E n) [] 0 0 := by
  refine Law.of_walk (plainFor_of_name (by decide +kernel)) (by decide +kernel) (by decide +kernel) (by decide) (fun _ _ h => by rw [h.1]; rfl) (fun _ U U' hal hh h => ⟨h.1, h.2.1.mv hal hh, h.2.2.1.there hal hh, h.2.2.2⟩) (fun r U U' V V' h1 hal h2 h => XT.PureE.mv r U U' V V' h1 hal h2 h) ?_
  intro p e s m args below meth c s₁ X0 hexec hbytes hml hret hlk hnm hown hh0 W hP
  obtain ⟨rfl, hx, s1, hz⟩ := hP
  have v31 := hx.2.2.2.1.2.2.2
  have c1 : Steps p.tables e below (s₁.setTop (entryFrame m #[.ref x] 1)) (s₁.setTop (mkF m 1 #[.val (.ref x)] [.ref x])) := Steps.trans (entry rfl) (by
    show Steps p.tables e below (s₁.setTop (mkF m 0 #[.val (.ref x)] [])) _
    refine XS.aloadN X0.here hexec rfl (hb hbytes d0) rfl rfl ?_
    exact Steps.refl _)
  obtain ⟨T2, X2, q2, st2⟩ := X0.hget hexec hown (wk W (.fieldLink "java/lang/String" 9 "java/lang/String" "value" "[B")) (hx.mv X0.warmed.alike hh0).2.1 (g := (mkF m 1 #[.val (.ref x)] [.ref x])) rfl (rest := []) rfl (hb hbytes d1)
  have hh2 := q2.trans hh0
  have hx2 := hx.mv X2.warmed.alike hh2
  have c3 : Steps p.tables e below (s₁.setTop (entryFrame m #[.ref x] 1)) (T2.setTop (mkF m 6 #[.val (.ref x)] [.ref x, .int (Int32.ofNat V.slots.size)])) := (c1.trans (st2 _ (Steps.refl _))).trans (by
    refine X2.alen hexec hx2.2.2.2.1 rfl rfl (hb hbytes d4) ?_
    refine XS.aloadN X2.here hexec rfl (hb hbytes d5) rfl rfl ?_
    exact Steps.refl _)
  obtain ⟨v4, T4, X4, E4, g4⟩ := X2.callV hexec (Cdr.law l x cd z) hown (wks W (virtW "java/lang/String" 335 "java/lang/String" Cdr.yN Cdr.yN)) rfl (by decide) (wk W Cdr.tab) (W := 1) (Nat.le_of_ble_eq_true rfl) (Nat.le_of_ble_eq_true rfl) (Nat.le_refl _) (Nat.le_refl _) (hx2.1.fc X2.warmed.alike) hx2.1.is (g := (mkF m 6 #[.val (.ref x)] [.ref x, .int (Int32.ofNat V.slots.size)])) rfl (by rw [hml]; rfl) c3 (argsL := []) (rest := [.int (Int32.ofNat V.slots.size)]) rfl rfl (by show 2 * 0 + (1 + 0) ≤ _; decide) (hb hbytes d6) (⟨rfl, hx2.2.2.1, hx.2.2.2.2.1.cd, s1.there X2.warmed.alike hh2, hz⟩)
  obtain ⟨rfl, q4⟩ := E4
  have c5 : Steps p.tables e below (s₁.setTop (entryFrame m #[.ref x] 1)) (T4.setTop (mkF m 10 #[.val (.ref x)] [.int (Int32.ofNat V.slots.size >>> (cd &&& 31))])) := Steps.trans g4 (by
    refine ishr X4.here hexec rfl (hb hbytes d9) rfl ?_
    exact Steps.refl _)
  rw [hx.2.2.2.2.1.len v31] at c5
  exact ⟨T4, some (.int (Int32.ofNat n)), _, _, _, X4, rfl, rfl, rfl, (fun h => by cases h), ⟨rfl, q4.trans hh2⟩, fun fs hl => c5.trans (X4.ireturnOut hexec hret rfl (Or.inl rfl) (hb hbytes d10) hl)⟩
theorem pays {l : Launch} {R : Room} {p : Program} {e : Env} {below : List Frame} {s : State} {sargs : Array Value} {len W : Nat} (x t : Addr) (V : Cell) (cd : Int32) (n : Nat) (f : Nat → Int32) (z : Int32) (htab : tab.before sargs s = true) (hfr : 2 ≤ R.frames) (hlo : W + 25 ≤ R.locals) :
    Back l R p e below s sargs yN len W (fun A₁ a₁ => A₁.cells + 0 ≤ R.cells ∧ A₁.slots + 0 ≤ R.slots ∧ P x t V cd n f z a₁ A₁.U) (fun A₁ _ v₁ B₁ => E n v₁ A₁.U B₁.U ∧ B₁.locs = A₁.locs ++ [] ∧ B₁.cells = A₁.cells + 0 ∧ B₁.slots = A₁.slots + 0) :=
  (law l x t V cd n f z).pays htab hfr (by omega)
end Len
namespace IsL
def yN : MethodName := ⟨"java/lang/String", "isLatin1", "()Z"⟩
abbrev yB : ByteArray := jdk_42_method_154_code
theorem d0 : decode yB 0 = .ok (.getstatic 38, 3) := by decide +kernel
theorem d3 : decode yB 3 = .ok (.ifCond (.eq) 14, 3) := by decide +kernel
theorem d6 : decode yB 6 = .ok (.aload_n 0, 1) := by decide +kernel
theorem d7 : decode yB 7 = .ok (.getfield 15, 3) := by decide +kernel
theorem d10 : decode yB 10 = .ok (.ifCond (.ne) 7, 3) := by decide +kernel
theorem d13 : decode yB 13 = .ok (.iconst 1, 1) := by decide +kernel
theorem d14 : decode yB 14 = .ok (.goto 4, 3) := by decide +kernel
theorem d17 : decode yB 17 = .ok (.iconst 0, 1) := by decide +kernel
theorem d18 : decode yB 18 = .ok (.ireturn, 1) := by decide +kernel
def site : List Cond := [.fieldLink "java/lang/String" 38 "java/lang/String" "COMPACT_STRINGS" "Z", .fieldLink "java/lang/String" 15 "java/lang/String" "coder" "B"]
def tab : Cond := tabOf yN yB 1 (some .boolean) site
def P (x : Addr) (cd z : Int32) (args : Array Value) (s : State) : Prop := args = #[.ref x] ∧ Has x "java/lang/String" "coder" "B" (.int cd) s ∧ (cd = 0 ∨ cd = 1) ∧ StaticIs s "java/lang/String" "COMPACT_STRINGS" "Z" (.int z) ∧ ¬ z = 0
def E (cd : Int32) (r : Option Value) (s u : State) : Prop := XT.PureE (some (.int (1 - cd))) r s u
theorem law (l : Launch) (x : Addr) (cd z : Int32) : Law l yN 1 0 0 0 yB 1 (some .boolean) site (P x cd z) (E cd) [] 0 0 := by
  refine Law.of_walk (plainFor_of_name (by decide +kernel)) (by decide +kernel) (by decide +kernel) (by decide) (fun _ _ h => by rw [h.1]; rfl) (fun _ U U' hal hh h => ⟨h.1, h.2.1.mv hal hh, h.2.2.1, h.2.2.2.1.there hal hh, h.2.2.2.2⟩) (fun r U U' V V' h1 hal h2 h => XT.PureE.mv r U U' V V' h1 hal h2 h) ?_
  intro p e s m args below meth c s₁ X0 hexec hbytes hml hret hlk hnm hown hh0 W hP
  obtain ⟨rfl, hx, hc, s1, hz⟩ := hP
  have c1 : Steps p.tables e below (s₁.setTop (entryFrame m #[.ref x] 1)) (s₁.setTop (mkF m 0 #[.val (.ref x)] [])) := entry rfl
  obtain ⟨T2, X2, q2, st2⟩ := X0.sget hexec hown (wk W (.fieldLink "java/lang/String" 38 "java/lang/String" "COMPACT_STRINGS" "Z")) s1 (fun _ _ h => by rw [hh0]; exact h) (g := (mkF m 0 #[.val (.ref x)] [])) rfl (hb hbytes d0)
  have hh2 := q2.trans hh0
  have c3 : Steps p.tables e below (s₁.setTop (entryFrame m #[.ref x] 1)) (T2.setTop (mkF m 7 #[.val (.ref x)] [.ref x])) := (c1.trans (st2 _ (Steps.refl _))).trans (by
    refine XS.ifNo X2.here hexec rfl (hb hbytes d3) rfl (i0_eq_f hz) ?_
    refine XS.aloadN X2.here hexec rfl (hb hbytes d6) rfl rfl ?_
    exact Steps.refl _)
  obtain ⟨T4, X4, q4, st4⟩ := X2.hget hexec hown (wk W (.fieldLink "java/lang/String" 15 "java/lang/String" "coder" "B")) (hx.mv X2.warmed.alike hh2) (g := (mkF m 7 #[.val (.ref x)] [.ref x])) rfl (rest := []) rfl (hb hbytes d7)
  have c5 : Steps p.tables e below (s₁.setTop (entryFrame m #[.ref x] 1)) (T4.setTop (mkF m 10 #[.val (.ref x)] [.int cd])) := c3.trans (st4 _ (Steps.refl _))
  have c6 : Steps p.tables e below (s₁.setTop (entryFrame m #[.ref x] 1)) (T4.setTop (mkF m 18 #[.val (.ref x)] [.int (1 - cd)])) := by
    rcases hc with rfl | rfl
    · exact c5.trans (by
        refine XS.ifNo X4.here hexec rfl (hb hbytes d10) rfl (i0_ne_f rfl) ?_
        refine iconstV X4.here hexec rfl 1 (hb hbytes d13) (by decide) ?_
        refine XS.goto X4.here hexec rfl (pc0 := 14) rfl (hb hbytes d14) (by decide) rfl ?_
        exact Steps.refl _)
    · exact c5.trans (by
        refine XS.ifYes X4.here hexec rfl (pc0 := 10) rfl (hb hbytes d10) rfl (i0_ne_t (by decide)) (by decide) rfl ?_
        refine iconstV X4.here hexec rfl 0 (hb hbytes d17) (by decide) ?_
        exact Steps.refl _)
  exact ⟨T4, some (.int (1 - cd)), _, _, _, X4, rfl, rfl, rfl, (fun h => by cases h), ⟨rfl, q4.trans hh2⟩, fun fs hl => c6.trans (X4.ireturnOut hexec hret (by rcases hc with rfl | rfl <;> rfl) (Or.inr (Or.inl rfl)) (hb hbytes d18) hl)⟩
end IsL
namespace LChA
def yN : MethodName := ⟨"java/lang/StringLatin1", "charAt", "([BI)C"⟩
abbrev yB : ByteArray := jdk_43_method_2_code
theorem d0 : decode yB 0 = .ok (.iload_n 1, 1) := by decide +kernel
theorem d1 : decode yB 1 = .ok (.aload_n 0, 1) := by decide +kernel
theorem d2 : decode yB 2 = .ok (.arraylength, 1) := by decide +kernel
theorem d3 : decode yB 3 = .ok (.invokestatic 9, 3) := by decide +kernel
theorem d6 : decode yB 6 = .ok (.aload_n 0, 1) := by decide +kernel
theorem d7 : decode yB 7 = .ok (.iload_n 1, 1) := by decide +kernel
theorem d8 : decode yB 8 = .ok (.baload, 1) := by decide +kernel
theorem d9 : decode yB 9 = .ok (.sipush 255, 3) := by decide +kernel
theorem d12 : decode yB 12 = .ok (.iand, 1) := by decide +kernel
theorem d13 : decode yB 13 = .ok (.i2c, 1) := by decide +kernel
theorem d14 : decode yB 14 = .ok (.ireturn, 1) := by decide +kernel
def site : List Cond := [JO.Str_checkIndex.tab] ++ staticW "java/lang/StringLatin1" 9 JO.Str_checkIndex.yN
def tab : Cond := tabOf yN yB 2 (some .char) site
def P (t : Addr) (V : Cell) (i : Nat) (u : Int32) (fm : Value) (args : Array Value) (s : State) : Prop := args = #[.ref t, .int (Int32.ofNat i)] ∧ XT.Arr .byte t V s ∧ V.slots[i]? = some (.int u) ∧ (StaticIs s "jdk/internal/util/Preconditions" "SIOOBE_FORMATTER" "Ljava/util/function/BiFunction;" fm ∧ fm.isRef = true)
def E (u : Int32) (r : Option Value) (s w : State) : Prop := XT.PureE (some (.int (chr8 u))) r s w
theorem law (l : Launch) (t : Addr) (V : Cell) (i : Nat) (u : Int32) (fm : Value) : Law l yN 2 2 2 27 yB 2 (some .char) site (P t V i u fm) (E u) [] 0 0 := by
  refine Law.of_walk (plainFor_of_name (by decide +kernel)) (by decide +kernel) (by decide +kernel) (by decide) (fun _ _ h => by rw [h.1]; rfl) (fun _ U U' hal hh h => ⟨h.1, h.2.1.mv hal hh, h.2.2.1, h.2.2.2.1.there hal hh, h.2.2.2.2⟩) (fun r U U' V V' h1 hal h2 h => XT.PureE.mv r U U' V V' h1 hal h2 h) ?_
  intro p e s m args below meth c s₁ X0 hexec hbytes hml hret hlk hnm hown hh0 W hP
  obtain ⟨rfl, hV, hu, s1, rf⟩ := hP
  have v31 := hV.2.2.2
  have hi : i < V.slots.size := (Array.getElem?_eq_some_iff.mp hu).1
  have c1 : Steps p.tables e below (s₁.setTop (entryFrame m #[.ref t, .int (Int32.ofNat i)] 2)) (s₁.setTop (mkF m 0 #[.val (.ref t), .val (.int (Int32.ofNat i))] [])) := entry rfl
  have c2 : Steps p.tables e below (s₁.setTop (entryFrame m #[.ref t, .int (Int32.ofNat i)] 2)) (s₁.setTop (mkF m 3 #[.val (.ref t), .val (.int (Int32.ofNat i))] [.int (Int32.ofNat V.slots.size), .int (Int32.ofNat i)])) := c1.trans (by
    refine XS.iloadN X0.here hexec rfl (hb hbytes d0) rfl ?_
    refine XS.aloadN X0.here hexec rfl (hb hbytes d1) rfl rfl ?_
    refine X0.alen hexec (hV.mv X0.warmed.alike hh0) rfl rfl (hb hbytes d2) ?_
    exact Steps.refl _)
  obtain ⟨v3, T3, X3, E3, g3⟩ := X0.callS hexec (JO.Str_checkIndex.law l (Int32.ofNat i) (Int32.ofNat V.slots.size) fm) hown (wks W (staticW "java/lang/StringLatin1" 9 JO.Str_checkIndex.yN)) (wk W JO.Str_checkIndex.tab) (W := 0) (Nat.le_of_ble_eq_true rfl) (Nat.le_of_ble_eq_true rfl) (Nat.le_refl _) (Nat.le_refl _) (g := (mkF m 3 #[.val (.ref t), .val (.int (Int32.ofNat i))] [.int (Int32.ofNat V.slots.size), .int (Int32.ofNat i)])) rfl (by rw [hml]; rfl) c2 (argsL := [.int (Int32.ofNat i), .int (Int32.ofNat V.slots.size)]) (rest := []) rfl rfl (by show 2 * 0 + 0 ≤ _; decide) (hb hbytes d3) (⟨rfl, rf, s1.there X0.warmed.alike hh0, Int32.ofNat_not_neg (by omega), lt32 v31 hi⟩)
  obtain ⟨rfl, q3⟩ := E3
  have hh3 := q3.trans hh0
  have c4 : Steps p.tables e below (s₁.setTop (entryFrame m #[.ref t, .int (Int32.ofNat i)] 2)) (T3.setTop (mkF m 14 #[.val (.ref t), .val (.int (Int32.ofNat i))] [.int (chr8 u)])) := Steps.trans g3 (by
    refine XS.aloadN X3.here hexec rfl (hb hbytes d6) rfl rfl ?_
    refine XS.iloadN X3.here hexec rfl (hb hbytes d7) rfl ?_
    refine X3.aget hexec (hV.mv X3.warmed.alike hh3) rfl hu rfl rfl (hb hbytes d8) ?_
    refine sipushV X3.here hexec rfl 255 (hb hbytes d9) (by decide) ?_
    refine XS.iand X3.here hexec rfl (hb hbytes d12) rfl ?_
    refine i2c X3.here hexec rfl (hb hbytes d13) rfl ?_
    exact Steps.refl _)
  exact ⟨T3, some (.int (chr8 u)), _, _, _, X3, rfl, rfl, rfl, (fun h => by cases h), ⟨rfl, hh3⟩, fun fs hl => c4.trans (X3.ireturnOut hexec hret (narrow_c _) (Or.inr (Or.inr (Or.inr (Or.inl rfl)))) (hb hbytes d14) hl)⟩
end LChA
end StrChars
namespace StrChars.Road
open Jvm Sem ClassFile Op Lib Jvm.Stand Jvm.Free Jvm.Free.XT
open Jvm.Lib.Cold (StaticIs)
theorem consq {a : Array Value} {s : State} {c : Jvm.Cond} {L : List Jvm.Cond} (h0 : c.before a s = true) (h : ∀ w ∈ L, w.before a s = true) : ∀ w ∈ c :: L, w.before a s = true := fun w hw => (List.mem_cons.mp hw).elim (fun e => e ▸ h0) (h w)
/-- the words of String.length(), either coding -/
abbrev wordsLen : List Jvm.Cond := [.code Len.yN Len.yB 1 (some .int), .initialized ST, .fieldLink ST 9 ST "value" "[B", .fieldLink ST 38 ST "COMPACT_STRINGS" "Z", .fieldLink ST 15 ST "coder" "B", .code Cdr.yN Cdr.yB 1 (some .byte), .methodLink ST 335 Cdr.yN, .declares Cdr.yN, .selects ST Cdr.yN Cdr.yN, .instanceMethod Cdr.yN]
theorem tabLen_of {a : Array Value} {s : State} (h : ∀ w ∈ wordsLen, w.before a s = true) : Len.tab.before a s = true := by
  have hc : Cdr.tab.before a s = true := unparts (wk h (.code Cdr.yN Cdr.yB 1 (some .byte))) (wks h (.initialized Cdr.yN.cls :: Cdr.site))
  have q := consq hc h
  exact unparts (wk q (.code Len.yN Len.yB 1 (some .int))) (wks q (.initialized Len.yN.cls :: Len.site))
theorem movedLen {Z s : State} {a0 args : Array Value} (hZ : Z.Warmed39 s.vm) (hw : ∀ d ∈ wordsLen, d.before a0 Z = true) : ∀ d ∈ wordsLen, d.before args s = true := fun d hd => by
  have q := hw d hd
  have t : ∀ d ∈ wordsLen, d = .arrayClass .byte ∨ (d.onTables && d.keepsFace) = true := by decide +kernel
  rcases t d hd with rfl | t
  · exact RoadKit.mvA hZ q
  · exact RoadKit.mv hZ q t
/-- the bytes of the chars cs, low before high -/
def wideBytes : List Int32 → List Value
  | [] => []
  | c :: cs => .int (lo8 c) :: .int (hi8 c) :: wideBytes cs
theorem wide_lo (d : Value) : ∀ (cs : List Int32) (j : Nat), j < cs.length → (wideBytes cs).getD (2 * j) d = .int (lo8 (cs.getD j 0))
  | [], j, h => absurd h (Nat.not_lt_zero j)
  | c :: cs, 0, _ => rfl
  | c :: cs, j + 1, h => by
    have q := wide_lo d cs j (by simpa using h)
    rw [show 2 * (j + 1) = 2 * j + 1 + 1 from by omega]
    simpa [wideBytes] using q
theorem wide_hi (d : Value) : ∀ (cs : List Int32) (j : Nat), j < cs.length → (wideBytes cs).getD (2 * j + 1) d = .int (hi8 (cs.getD j 0))
  | [], j, h => absurd h (Nat.not_lt_zero j)
  | c :: cs, 0, _ => rfl
  | c :: cs, j + 1, h => by
    have q := wide_hi d cs j (by simpa using h)
    rw [show 2 * (j + 1) + 1 = 2 * j + 1 + 1 + 1 from by omega]
    simpa [wideBytes] using q
theorem low_at (d : Value) (cs : List Int32) (j : Nat) (h : j < cs.length) : (cs.map fun c => Value.int (lo8 c)).getD j d = .int (lo8 (cs.getD j 0)) := by
  simp [List.getD_eq_getElem?_getD, h]
/-- an array of N2 bytes vs codes the chars cs by the coder cd -/
def CodA (cs : List Int32) (cd N2 : Int32) (vs : List Value) : Prop := (cd = 0 ∧ N2 = Int32.ofNat cs.length ∧ vs = (cs.map fun c => Value.int (lo8 c)) ∧ ∀ c ∈ cs, ¬ 255 < c) ∨ (cd = 1 ∧ N2 = Int32.ofNat (2 * cs.length) ∧ vs = wideBytes cs ∧ ∃ c ∈ cs, 255 < c)
theorem CodA.cod {cs : List Int32} {cd N2 : Int32} {vs : List Value} {V : Cell} (h : CodA cs cd N2 vs) (hn : 2 * cs.length < 2 ^ 31) (hs : V.slots.size = N2.toNatClampNeg) (hv : RoadKit.Has V vs (.int 0)) : Cod cd cs.length (fun j => cs.getD j 0) V := by
  rcases h with ⟨rfl, rfl, rfl, h⟩ | ⟨rfl, rfl, rfl, c, hc, hw⟩
  · rw [n32 (by omega)] at hs
    exact Or.inl ⟨rfl, hs, fun j hj => ⟨by rw [hv j (by omega), low_at _ _ _ hj], by
      have e : cs.getD j 0 = cs[j] := by simp [List.getD_eq_getElem?_getD, hj]
      show ¬ 255 < cs.getD j 0
      rw [e]; exact h _ (List.getElem_mem _)⟩⟩
  · rw [n32 (by omega)] at hs
    obtain ⟨j, hj, rfl⟩ := List.getElem_of_mem hc
    exact Or.inr ⟨rfl, hs, fun j hj => ⟨by rw [hv _ (by omega), wide_lo _ _ _ hj], by rw [hv _ (by omega), wide_hi _ _ _ hj]⟩, j, hj, by
      have e : cs.getD j 0 = cs[j] := by simp [List.getD_eq_getElem?_getD, hj]
      show 255 < cs.getD j 0
      rw [e]; exact hw⟩
/-- an object of exactly java/lang/String, its two fields found: as the laws ask it -/
theorem strObj {Z U : State} {a0 : Array Value} {kI : Nat} (wi : (Jvm.Cond.instantiable ST kI).before a0 Z = true) (al : Z.vm.Alike U.vm) {x : Addr} {v0 c0 : Value} (E : RoadKit.Exa Z U.heap x ST) (V : RoadKit.Fld Z U.heap x ST "value" "[B" v0) (C : RoadKit.Fld Z U.heap x ST "coder" "B" c0) :
    ∃ (D : Cell) (fV fC : Field), Blank ST x D U ∧ Found ST "value" "[B" fV U ∧ Found ST "coder" "B" fC U ∧ D.slots[fV.slot]? = some v0 ∧ D.slots[fC.slot]? = some c0 ∧ RoadKit.slotOf Z ST "value" "[B" = fV.slot ∧ RoadKit.slotOf Z ST "coder" "B" = fC.slot := by
  obtain ⟨D, cfV, kV, iV, fV, hD, gV, stV, knV, obV, asV, slV⟩ := V
  obtain ⟨D', cfC, kC, iC, fC, hD', gC, stC, -, -, asC, slC⟩ := C
  cases hD.symm.trans hD'
  obtain ⟨D2, kD, e1, e2, e3, e4, e5⟩ := E
  cases hD.symm.trans e1
  obtain ⟨c2, k2, i1, i2, i3, -⟩ := Cond.instantiable_spec wi
  cases e2.symm.trans i1
  cases e3.symm.trans i2
  obtain ⟨kU, u1, u2⟩ := al.2.2 _ _ e3
  exact ⟨D, fV, fC, ⟨hD, ⟨knV, fun q hq => by rw [hq] at obV; cases obV⟩, by rw [al.findClass]; exact e2, kU, u1, by rw [u2]; exact i3, by rw [u2]; exact e5 i3⟩, ⟨SBG.found_only al ⟨cfV, kV, iV, gV⟩, stV⟩, ⟨SBG.found_only al ⟨cfC, kC, iC, gC⟩, stC⟩, slV, slC, by simp [RoadKit.slotOf, gV], by simp [RoadKit.slotOf, gC]⟩
theorem sta_is {Z U : State} (al : Z.vm.Alike U.vm) {C n d : String} {v : Value} (S : RoadKit.Sta Z U.heap C n d v) : StaticIs U C n d v := by
  obtain ⟨cfS, iS, kS, fS, st, cS, t1, t2, t3, t4, t5, t6, t7⟩ := S
  exact StaticIs.there (s := { Z with heap := U.heap }) ⟨cfS, iS, kS, fS, st, cS, t1, t2, t3, t4, t5, (fun q => by rw [q] at t6; cases t6), t7⟩ al rfl
/-- **length() OF SUCH A STRING** -/
theorem lenW {p : Program} {l : Launch} {e : Env} {R : Room} {s : State} {args : Array Value} {below : List Frame} {len W : Nat} {Z : State} {a0 : Array Value} {h : Heap} (hZ : Z.Warmed39 s.vm) (hw : ∀ d ∈ wordsLen, d.before a0 Z = true) {kI : Nat} (wi : (Jvm.Cond.instantiable ST kI).before a0 Z = true)
    {x t : Addr} {kb : ClassId} {cs : List Int32} {cd N2 z : Int32} {vs : List Value} (E : RoadKit.Exa Z h x ST) (V : RoadKit.Fld Z h x ST "value" "[B" (.ref t)) (C : RoadKit.Fld Z h x ST "coder" "B" (.int cd)) (K : RoadKit.Arv Z h t kb .byte N2 vs (.int 0)) (hc : CodA cs cd N2 vs) (hb : ∀ c ∈ cs, ¬ c < 0 ∧ ¬ (65535 : Int32) < c)
    (S : RoadKit.Sta Z h ST "COMPACT_STRINGS" "Z" (.int z)) (hz : ¬ z = 0) (l2 : cs.length ≤ 4000) (hfr : 2 ≤ R.frames) (hlo : W + 25 ≤ R.locals) :
    Back l R p e below s args (⟨"java/lang/String", "length", "()I"⟩ : MethodName) len W (fun P a => a = #[.ref x] ∧ P.U.heap = h ∧ P.cells + 0 ≤ R.cells ∧ P.slots + 0 ≤ R.slots)
      (fun P _ v B => ∃ L, (v = some (.int (Int32.ofNat cs.length)) ∧ L = [] ∧ B.U.heap = h) ∧ B.locs = P.locs ++ L ∧ B.cells = P.cells + 0 ∧ B.slots = P.slots + 0) := by
  obtain ⟨A, K1, K2, K3, K4, K5, K6⟩ := K
  have hcod := hc.cod (by omega) K3 K5
  intro m meth c P g ig mk a X hg hsize hdg hW hn hp'
  obtain ⟨rfl, rfl, r1, r2⟩ := hp'
  have al : Z.vm.Alike P.U.vm := hZ.alike.trans X.warmed.alike
  obtain ⟨D, fV, fC, hB, F1, F2, g1, g2, -, -⟩ := strObj wi al E V C
  have hx : Txt x t A cd cs.length (fun j => cs.getD j 0) P.U := ⟨⟨_, hB.2.2.1, D, hB.1, rfl, by cases q : D.vm <;> first | rfl | exact absurd q (hB.2.1.2 _)⟩, Has.of hB F1 g1, Has.of hB F2 g2, ⟨K1.1, State.isArrayOf_alike al K1.2.1, K1.2.2, by rcases hcod with ⟨-, q, -⟩ | ⟨-, q, -⟩ <;> omega⟩, hcod, fun j hj => by
    have e : cs.getD j 0 = cs[j] := by simp [List.getD_eq_getElem?_getD, hj]
    show ¬ cs.getD j 0 < 0 ∧ ¬ 65535 < cs.getD j 0
    rw [e]; exact hb _ (List.getElem_mem _)⟩
  obtain ⟨v, B, X', ⟨⟨hv, hh⟩, hl, hk, hs⟩, st⟩ := Len.pays x t A cd cs.length (fun j => cs.getD j 0) z (tabLen_of (movedLen hZ hw)) hfr hlo m meth c P g ig mk _ X hg hsize hdg hW hn ⟨r1, r2, rfl, hx, sta_is al S, hz⟩
  exact ⟨v, B, X', ⟨[], ⟨hv, rfl, hh⟩, hl, hk, hs⟩, st⟩
end StrChars.Road
namespace StrChars
open Jvm Sem ClassFile Op Lib Jvm.Stand Jvm.Free.XT Jvm.Free.ALB Jvm.Free.JM Jvm.Free
open Jvm.Lib.Cold (StaticIs)
namespace Emp
def yN : MethodName := ⟨"java/lang/String", "isEmpty", "()Z"⟩
abbrev yB : ByteArray := jdk_42_method_55_code
theorem d0 : decode yB 0 = .ok (.aload_n 0, 1) := by decide +kernel
theorem d1 : decode yB 1 = .ok (.getfield 9, 3) := by decide +kernel
theorem d4 : decode yB 4 = .ok (.arraylength, 1) := by decide +kernel
theorem d5 : decode yB 5 = .ok (.ifCond (.ne) 7, 3) := by decide +kernel
theorem d8 : decode yB 8 = .ok (.iconst 1, 1) := by decide +kernel
theorem d9 : decode yB 9 = .ok (.goto 4, 3) := by decide +kernel
theorem d12 : decode yB 12 = .ok (.iconst 0, 1) := by decide +kernel
theorem d13 : decode yB 13 = .ok (.ireturn, 1) := by decide +kernel
def site : List Cond := [.fieldLink "java/lang/String" 9 "java/lang/String" "value" "[B"]
def tab : Cond := tabOf yN yB 1 (some .boolean) site
def P (x t : Addr) (V : Cell) (cd : Int32) (n : Nat) (f : Nat → Int32) (args : Array Value) (s : State) : Prop := args = #[.ref x] ∧ Txt x t V cd n f s
def E (n : Nat) (r : Option Value) (s u : State) : Prop := XT.PureE (some (.int (if n = 0 then 1 else 0))) r s u
/-- isEmpty() of a String of n chars -/
theorem law (l : Launch) (x t : Addr) (V : Cell) (cd : Int32) (n : Nat) (f : Nat → Int32) : Law l yN 1 0 0 0 yB 1 (some .boolean) site (P x t V cd n f) (E n) [] 0 0 := by
  refine Law.of_walk (plainFor_of_name (by decide +kernel)) (by decide +kernel) (by decide +kernel) (by decide) (fun _ _ h => by rw [h.1]; rfl) (fun _ U U' hal hh h => ⟨h.1, h.2.mv hal hh⟩) (fun r U U' V V' h1 hal h2 h => XT.PureE.mv r U U' V V' h1 hal h2 h) ?_
  intro p e s m args below meth c s₁ X0 hexec hbytes hml hret hlk hnm hown hh0 W hP
  obtain ⟨rfl, hx⟩ := hP
  have v31 := hx.2.2.2.1.2.2.2
  have c1 : Steps p.tables e below (s₁.setTop (entryFrame m #[.ref x] 1)) (s₁.setTop (mkF m 1 #[.val (.ref x)] [.ref x])) := Steps.trans (entry rfl) (by
    show Steps p.tables e below (s₁.setTop (mkF m 0 #[.val (.ref x)] [])) _
    refine XS.aloadN X0.here hexec rfl (hb hbytes d0) rfl rfl ?_
    exact Steps.refl _)
  obtain ⟨T2, X2, q2, st2⟩ := X0.hget hexec hown (wk W (.fieldLink "java/lang/String" 9 "java/lang/String" "value" "[B")) (hx.mv X0.warmed.alike hh0).2.1 (g := (mkF m 1 #[.val (.ref x)] [.ref x])) rfl (rest := []) rfl (hb hbytes d1)
  have hh2 := q2.trans hh0
  have hx2 := hx.mv X2.warmed.alike hh2
  have c3 : Steps p.tables e below (s₁.setTop (entryFrame m #[.ref x] 1)) (T2.setTop (mkF m 5 #[.val (.ref x)] [.int (Int32.ofNat V.slots.size)])) := (c1.trans (st2 _ (Steps.refl _))).trans (by
    refine X2.alen hexec hx2.2.2.2.1 rfl rfl (hb hbytes d4) ?_
    exact Steps.refl _)
  have hz : V.slots.size = 0 ↔ n = 0 := by
    rcases hx.2.2.2.2.1 with ⟨-, q, -⟩ | ⟨-, q, -⟩ <;> omega
  by_cases h0 : n = 0
  · have c4 : Steps p.tables e below (s₁.setTop (entryFrame m #[.ref x] 1)) (T2.setTop (mkF m 13 #[.val (.ref x)] [.int 1])) := c3.trans (by
      refine XS.ifNo X2.here hexec rfl (hb hbytes d5) rfl (i0_ne_f (by rw [hz.mpr h0]; rfl)) ?_
      refine iconstV X2.here hexec rfl 1 (hb hbytes d8) (by decide) ?_
      refine XS.goto X2.here hexec rfl (pc0 := 9) rfl (hb hbytes d9) (by decide) rfl ?_
      exact Steps.refl _)
    exact ⟨T2, some (.int 1), _, _, _, X2, rfl, rfl, rfl, (fun h => by cases h), ⟨by rw [if_pos h0], hh2⟩, fun fs hl => c4.trans (X2.ireturnOut hexec hret rfl (Or.inr (Or.inl rfl)) (hb hbytes d13) hl)⟩
  · have c4 : Steps p.tables e below (s₁.setTop (entryFrame m #[.ref x] 1)) (T2.setTop (mkF m 13 #[.val (.ref x)] [.int 0])) := c3.trans (by
      refine XS.ifYes X2.here hexec rfl (pc0 := 5) rfl (hb hbytes d5) rfl (i0_ne_t (nz32 v31 (by omega))) (by decide) rfl ?_
      refine iconstV X2.here hexec rfl 0 (hb hbytes d12) (by decide) ?_
      exact Steps.refl _)
    exact ⟨T2, some (.int 0), _, _, _, X2, rfl, rfl, rfl, (fun h => by cases h), ⟨by rw [if_neg h0], hh2⟩, fun fs hl => c4.trans (X2.ireturnOut hexec hret rfl (Or.inr (Or.inl rfl)) (hb hbytes d13) hl)⟩
theorem pays {l : Launch} {R : Room} {p : Program} {e : Env} {below : List Frame} {s : State} {sargs : Array Value} {len W : Nat} (x t : Addr) (V : Cell) (cd : Int32) (n : Nat) (f : Nat → Int32) (htab : tab.before sargs s = true) (hfr : 1 ≤ R.frames) (hlo : W + 12 ≤ R.locals) :
    Back l R p e below s sargs yN len W (fun A₁ a₁ => A₁.cells + 0 ≤ R.cells ∧ A₁.slots + 0 ≤ R.slots ∧ P x t V cd n f a₁ A₁.U) (fun A₁ _ v₁ B₁ => E n v₁ A₁.U B₁.U ∧ B₁.locs = A₁.locs ++ [] ∧ B₁.cells = A₁.cells + 0 ∧ B₁.slots = A₁.slots + 0) :=
  (law l x t V cd n f).pays htab hfr (by omega)
end Emp
/-- what place i of a byte[]'s cell holds -/
def yv (A : Cell) (i : Nat) : Int32 := match A.slots[i]? with | some (.int x) => x | _ => 0
theorem yv_get {a : Addr} {A : Cell} {U : State} (h : XT.Arr .byte a A U) (ht : Typed .byte A) {i : Nat} (hi : i < A.slots.size) : A.slots[i]? = some (.int (yv A i)) := by
  have e := Array.getElem?_eq_getElem hi
  have f := ht i _ e
  unfold yv; rw [e]
  generalize A.slots[i] = v at f
  cases v <;> simp [fits] at f ⊢
/-- the two arrays are equal, place for place -/
def EqC (A B : Cell) : Prop := A.slots.size = B.slots.size ∧ ∀ i, i < A.slots.size → yv A i = yv B i
/-- a boolean that says whether p -/
def Says01 (q : Prop) (r : Option Value) (s u : State) : Prop := ∃ v : Int32, r = some (.int v) ∧ u.heap = s.heap ∧ ((v = 1 ∧ q) ∨ (v = 0 ∧ ¬ q))
theorem Says01.mv {q : Prop} : ∀ r (U U' V V' : State), U'.heap = U.heap → V.vm.Alike V'.vm → V'.heap = V.heap → Says01 q r U V → Says01 q r U' V' :=
  fun r U U' V V' h1 _ h2 ⟨v, a, b, c⟩ => ⟨v, a, by rw [h1, h2]; exact b, c⟩
namespace LEq
def yN : MethodName := ⟨"java/lang/StringLatin1", "equals", "([B[B)Z"⟩
abbrev yB : ByteArray := jdk_43_method_13_code
theorem d0 : decode yB 0 = .ok (.aload_n 0, 1) := by decide +kernel
theorem d1 : decode yB 1 = .ok (.arraylength, 1) := by decide +kernel
theorem d2 : decode yB 2 = .ok (.aload_n 1, 1) := by decide +kernel
theorem d3 : decode yB 3 = .ok (.arraylength, 1) := by decide +kernel
theorem d4 : decode yB 4 = .ok (.if_icmp (.ne) 30, 3) := by decide +kernel
theorem d7 : decode yB 7 = .ok (.iconst 0, 1) := by decide +kernel
theorem d8 : decode yB 8 = .ok (.istore_n 2, 1) := by decide +kernel
theorem d9 : decode yB 9 = .ok (.iload_n 2, 1) := by decide +kernel
theorem d10 : decode yB 10 = .ok (.aload_n 0, 1) := by decide +kernel
theorem d11 : decode yB 11 = .ok (.arraylength, 1) := by decide +kernel
theorem d12 : decode yB 12 = .ok (.if_icmp (.ge) 20, 3) := by decide +kernel
theorem d15 : decode yB 15 = .ok (.aload_n 0, 1) := by decide +kernel
theorem d16 : decode yB 16 = .ok (.iload_n 2, 1) := by decide +kernel
theorem d17 : decode yB 17 = .ok (.baload, 1) := by decide +kernel
theorem d18 : decode yB 18 = .ok (.aload_n 1, 1) := by decide +kernel
theorem d19 : decode yB 19 = .ok (.iload_n 2, 1) := by decide +kernel
theorem d20 : decode yB 20 = .ok (.baload, 1) := by decide +kernel
theorem d21 : decode yB 21 = .ok (.if_icmp (.eq) 5, 3) := by decide +kernel
theorem d24 : decode yB 24 = .ok (.iconst 0, 1) := by decide +kernel
theorem d25 : decode yB 25 = .ok (.ireturn, 1) := by decide +kernel
theorem d26 : decode yB 26 = .ok (.iinc 2 1, 3) := by decide +kernel
theorem d29 : decode yB 29 = .ok (.goto (-20), 3) := by decide +kernel
theorem d32 : decode yB 32 = .ok (.iconst 1, 1) := by decide +kernel
theorem d33 : decode yB 33 = .ok (.ireturn, 1) := by decide +kernel
theorem d34 : decode yB 34 = .ok (.iconst 0, 1) := by decide +kernel
theorem d35 : decode yB 35 = .ok (.ireturn, 1) := by decide +kernel
def site : List Cond := []
def tab : Cond := tabOf yN yB 3 (some .boolean) site
def P (a : Addr) (A : Cell) (b : Addr) (B : Cell) (args : Array Value) (s : State) : Prop := args = #[.ref a, .ref b] ∧ XT.Arr .byte a A s ∧ Typed .byte A ∧ XT.Arr .byte b B s ∧ Typed .byte B
/-- whether two byte[] are equal, place for place -/
theorem law (l : Launch) (a : Addr) (A : Cell) (b : Addr) (B : Cell) : Law l yN 2 2 0 0 yB 3 (some .boolean) site (P a A b B) (Says01 (EqC A B)) [] 0 0 := by
  refine Law.of_walk (plainFor_of_name (by decide +kernel)) (by decide +kernel) (by decide +kernel) (by decide) (fun _ _ h => by rw [h.1]; rfl) (fun _ U U' hal hh h => ⟨h.1, h.2.1.mv hal hh, h.2.2.1, h.2.2.2.1.mv hal hh, h.2.2.2.2⟩) (fun r U U' V V' h1 hal h2 h => Says01.mv r U U' V V' h1 hal h2 h) ?_
  intro p e s m args below meth c s₁ X0 hexec hbytes hml hret hlk hnm hown hh0 W hP
  obtain ⟨rfl, hA, tA, hB, tB⟩ := hP
  have a31 := hA.2.2.2
  have b31 := hB.2.2.2
  have hA0 := hA.mv X0.warmed.alike hh0
  have hB0 := hB.mv X0.warmed.alike hh0
  have c1 : Steps p.tables e below (s₁.setTop (entryFrame m #[.ref a, .ref b] 3)) (s₁.setTop (mkF m 0 #[.val (.ref a), .val (.ref b), .unset] [])) := entry rfl
  have c2 : Steps p.tables e below (s₁.setTop (entryFrame m #[.ref a, .ref b] 3)) (s₁.setTop (mkF m 4 #[.val (.ref a), .val (.ref b), .unset] [.int (Int32.ofNat B.slots.size), .int (Int32.ofNat A.slots.size)])) := c1.trans (by
    refine XS.aloadN X0.here hexec rfl (hb hbytes d0) rfl rfl ?_
    refine X0.alen hexec hA0 rfl rfl (hb hbytes d1) ?_
    refine XS.aloadN X0.here hexec rfl (hb hbytes d2) rfl rfl ?_
    refine X0.alen hexec hB0 rfl rfl (hb hbytes d3) ?_
    exact Steps.refl _)
  by_cases hs : A.slots.size = B.slots.size
  · have c3 : Steps p.tables e below (s₁.setTop (entryFrame m #[.ref a, .ref b] 3)) (s₁.setTop (mkF m 9 #[.val (.ref a), .val (.ref b), .val (.int 0)] [])) := c2.trans (by
      refine XS.icmpNo X0.here hexec rfl (hb hbytes d4) rfl (ii_ne_f (by rw [hs])) ?_
      refine iconstV X0.here hexec rfl 0 (hb hbytes d7) (by decide) ?_
      refine XS.istoreN X0.here hexec rfl (hb hbytes d8) rfl rfl ?_
      exact Steps.refl _)
    have loop : ∀ (r i : Nat), i + r = A.slots.size → (∀ j, j < i → yv A j = yv B j) → Steps p.tables e below (s₁.setTop (entryFrame m #[.ref a, .ref b] 3)) (s₁.setTop (mkF m 9 #[.val (.ref a), .val (.ref b), .val (.int (Int32.ofNat i))] [])) → ∃ (pc : Nat) (Ls : Array Slot) (v : Int32), (pc = 25 ∨ pc = 33) ∧ ((v = 1 ∧ EqC A B) ∨ (v = 0 ∧ ¬ EqC A B)) ∧ Steps p.tables e below (s₁.setTop (entryFrame m #[.ref a, .ref b] 3)) (s₁.setTop (mkF m pc Ls [.int v])) := by
      intro r
      induction r with
      | zero =>
        intro i hi he cl
        exact ⟨33, _, 1, Or.inr rfl, Or.inl ⟨rfl, hs, fun j hj => he j (by omega)⟩, cl.trans (by
          refine XS.iloadN X0.here hexec rfl (hb hbytes d9) rfl ?_
          refine XS.aloadN X0.here hexec rfl (hb hbytes d10) rfl rfl ?_
          refine X0.alen hexec hA0 rfl rfl (hb hbytes d11) ?_
          refine XS.icmpYes X0.here hexec rfl (pc0 := 12) rfl (hb hbytes d12) rfl (ii_ge_t (nlt32 (by omega) (by omega))) (by decide) rfl ?_
          refine iconstV X0.here hexec rfl 1 (hb hbytes d32) (by decide) ?_
          exact Steps.refl _)⟩
      | succ r ih =>
        intro i hi he cl
        have c4 : Steps p.tables e below (s₁.setTop (entryFrame m #[.ref a, .ref b] 3)) (s₁.setTop (mkF m 21 #[.val (.ref a), .val (.ref b), .val (.int (Int32.ofNat i))] [.int (yv B i), .int (yv A i)])) := cl.trans (by
          refine XS.iloadN X0.here hexec rfl (hb hbytes d9) rfl ?_
          refine XS.aloadN X0.here hexec rfl (hb hbytes d10) rfl rfl ?_
          refine X0.alen hexec hA0 rfl rfl (hb hbytes d11) ?_
          refine XS.icmpNo X0.here hexec rfl (hb hbytes d12) rfl (ii_ge_f (lt32 (by omega) (by omega))) ?_
          refine XS.aloadN X0.here hexec rfl (hb hbytes d15) rfl rfl ?_
          refine XS.iloadN X0.here hexec rfl (hb hbytes d16) rfl ?_
          refine X0.aget hexec hA0 rfl (yv_get hA tA (i := i) (by omega)) rfl rfl (hb hbytes d17) ?_
          refine XS.aloadN X0.here hexec rfl (hb hbytes d18) rfl rfl ?_
          refine XS.iloadN X0.here hexec rfl (hb hbytes d19) rfl ?_
          refine X0.aget hexec hB0 rfl (yv_get hB tB (i := i) (by omega)) rfl rfl (hb hbytes d20) ?_
          exact Steps.refl _)
        by_cases hv : yv A i = yv B i
        · have c5 : Steps p.tables e below (s₁.setTop (entryFrame m #[.ref a, .ref b] 3)) (s₁.setTop (mkF m 9 #[.val (.ref a), .val (.ref b), .val (.int (Int32.ofNat i + 1))] [])) := c4.trans (by
            refine XS.icmpYes X0.here hexec rfl (pc0 := 21) rfl (hb hbytes d21) rfl (ii_eq_t hv) (by decide) rfl ?_
            refine iincV X0.here hexec rfl 1 (hb hbytes d26) (by decide) rfl rfl ?_
            refine XS.goto X0.here hexec rfl (pc0 := 29) rfl (hb hbytes d29) (by decide) rfl ?_
            exact Steps.refl _)
          rw [succ32] at c5
          exact ih (i + 1) (by omega) (fun j hj => by
            by_cases e : j = i
            · rw [e]; exact hv
            · exact he j (by omega)) c5
        · exact ⟨25, _, 0, Or.inl rfl, Or.inr ⟨rfl, fun q => hv (q.2 i (by omega))⟩, c4.trans (by
            refine XS.icmpNo X0.here hexec rfl (hb hbytes d21) rfl (ii_eq_f hv) ?_
            refine iconstV X0.here hexec rfl 0 (hb hbytes d24) (by decide) ?_
            exact Steps.refl _)⟩
    obtain ⟨pc, Ls, v, hpc, hv, cz⟩ := loop A.slots.size 0 (by omega) (fun j hj => absurd hj (Nat.not_lt_zero j)) c3
    have nv : narrow .boolean (.int v) = .int v := by rcases hv with ⟨rfl, -⟩ | ⟨rfl, -⟩ <;> rfl
    rcases hpc with rfl | rfl
    · exact ⟨s₁, some (.int v), _, _, _, X0, rfl, rfl, rfl, (fun h => by cases h), ⟨v, rfl, hh0, hv⟩, fun fs hl => cz.trans (X0.ireturnOut hexec hret nv (Or.inr (Or.inl rfl)) (hb hbytes d25) hl)⟩
    · exact ⟨s₁, some (.int v), _, _, _, X0, rfl, rfl, rfl, (fun h => by cases h), ⟨v, rfl, hh0, hv⟩, fun fs hl => cz.trans (X0.ireturnOut hexec hret nv (Or.inr (Or.inl rfl)) (hb hbytes d33) hl)⟩
  · have c3 : Steps p.tables e below (s₁.setTop (entryFrame m #[.ref a, .ref b] 3)) (s₁.setTop (mkF m 35 #[.val (.ref a), .val (.ref b), .unset] [.int 0])) := c2.trans (by
      refine XS.icmpYes X0.here hexec rfl (pc0 := 4) rfl (hb hbytes d4) rfl (ii_ne_t (ne32 a31 b31 hs)) (by decide) rfl ?_
      refine iconstV X0.here hexec rfl 0 (hb hbytes d34) (by decide) ?_
      exact Steps.refl _)
    exact ⟨s₁, some (.int 0), _, _, _, X0, rfl, rfl, rfl, (fun h => by cases h), ⟨0, rfl, hh0, Or.inr ⟨rfl, fun q => hs q.1⟩⟩, fun fs hl => c3.trans (X0.ireturnOut hexec hret rfl (Or.inr (Or.inl rfl)) (hb hbytes d35) hl)⟩
end LEq
theorem Cod.ty {cd : Int32} {n : Nat} {f : Nat → Int32} {V : Cell} (h : Cod cd n f V) : Typed .byte V := fun i v hv => by
  have hi : i < V.slots.size := (Array.getElem?_eq_some_iff.mp hv).1
  rcases h with ⟨-, k1, k2⟩ | ⟨-, k1, k2, -⟩
  · rw [(k2 i (by omega)).1] at hv; cases hv; exact fits_lo8 _
  · rcases Nat.mod_two_eq_zero_or_one i with e | e
    · obtain ⟨j, rfl⟩ : ∃ j, i = 2 * j := ⟨i / 2, by omega⟩
      rw [(k2 j (by omega)).1] at hv; cases hv; exact fits_lo8 _
    · obtain ⟨j, rfl⟩ : ∃ j, i = 2 * j + 1 := ⟨i / 2, by omega⟩
      rw [(k2 j (by omega)).2] at hv; cases hv; exact fits_lo8 _
/-- the same text -/
def SameT (n : Nat) (f : Nat → Int32) (k : Nat) (g : Nat → Int32) : Prop := n = k ∧ ∀ j, j < n → f j = g j
theorem lo8_inj {x y : Int32} (h0 : ¬ x < 0) (h1 : ¬ 255 < x) (k0 : ¬ y < 0) (k1 : ¬ 255 < y) (h : lo8 x = lo8 y) : x = y := by
  rw [← lo8_mask h0 h1, ← lo8_mask k0 k1, h]
/-- arrays coded by one coder are equal just where the texts are -/
theorem Cod.eqv {cd : Int32} {n k : Nat} {f g : Nat → Int32} {V V' : Cell} (h : Cod cd n f V) (h' : Cod cd k g V') (hf : ∀ j, j < n → ¬ f j < 0 ∧ ¬ 65535 < f j) (hg : ∀ j, j < k → ¬ g j < 0 ∧ ¬ 65535 < g j) : EqC V V' ↔ SameT n f k g := by
  have yvv : ∀ {W : Cell} {i : Nat} {x : Int32}, W.slots[i]? = some (.int x) → yv W i = x := fun q => by unfold yv; rw [q]
  rcases h with ⟨rfl, k1, k2⟩ | ⟨rfl, k1, k2, -⟩
  · rcases h' with ⟨-, m1, m2⟩ | ⟨e, -⟩
    · constructor
      · rintro ⟨e1, e2⟩
        refine ⟨by omega, fun j hj => ?_⟩
        have q := e2 j (by omega)
        rw [yvv (k2 j hj).1, yvv (m2 j (by omega)).1] at q
        exact lo8_inj (hf j hj).1 (k2 j hj).2 (hg j (by omega)).1 (m2 j (by omega)).2 q
      · rintro ⟨rfl, e2⟩
        refine ⟨by omega, fun j hj => ?_⟩
        rw [yvv (k2 j (by omega)).1, yvv (m2 j (by omega)).1, e2 j (by omega)]
    · exact absurd e (by decide)
  · rcases h' with ⟨e, -⟩ | ⟨-, m1, m2, -⟩
    · exact absurd e (by decide)
    · constructor
      · rintro ⟨e1, e2⟩
        refine ⟨by omega, fun j hj => ?_⟩
        have q1 := e2 (2 * j) (by omega)
        have q2 := e2 (2 * j + 1) (by omega)
        rw [yvv (k2 j hj).1, yvv (m2 j (by omega)).1] at q1
        rw [yvv (k2 j hj).2, yvv (m2 j (by omega)).2] at q2
        rw [← pair_says (hf j hj).1 (hf j hj).2, ← pair_says (hg j (by omega)).1 (hg j (by omega)).2, q1, q2]
      · rintro ⟨rfl, e2⟩
        refine ⟨by omega, fun i hi => ?_⟩
        rcases Nat.mod_two_eq_zero_or_one i with e | e
        · obtain ⟨j, rfl⟩ : ∃ j, i = 2 * j := ⟨i / 2, by omega⟩
          rw [yvv (k2 j (by omega)).1, yvv (m2 j (by omega)).1, e2 j (by omega)]
        · obtain ⟨j, rfl⟩ : ∃ j, i = 2 * j + 1 := ⟨i / 2, by omega⟩
          rw [yvv (k2 j (by omega)).2, yvv (m2 j (by omega)).2, e2 j (by omega)]
/-- two codings differ: so do the texts -/
theorem Cod.dif {cd cd' : Int32} {n k : Nat} {f g : Nat → Int32} {V V' : Cell} (h : Cod cd n f V) (h' : Cod cd' k g V') (hne : ¬ cd = cd') : ¬ SameT n f k g := by
  rintro ⟨rfl, e⟩
  rcases h with ⟨rfl, -, k2⟩ | ⟨rfl, -, -, j, hj, hw⟩
  · rcases h' with ⟨rfl, -⟩ | ⟨-, -, -, j, hj, hw⟩
    · exact hne rfl
    · exact (k2 j hj).2 (by rw [e j hj]; exact hw)
  · rcases h' with ⟨-, -, m2⟩ | ⟨rfl, -⟩
    · exact (m2 j hj).2 (by rw [← e j hj]; exact hw)
    · exact hne rfl
/-- an object of exactly C is an instance of C -/
theorem cinst {p : Program} {l : Launch} {e : Env} {R : Room} {s : State} {m : MethodId} {args : Array Value} {below : List Frame} {meth : Method} {c : Code} {T : State} {locs : List Loc} {cells slots : Nat} (X : Stand p l e R s m args below meth c T locs cells slots) (hexec : p.tables.exec = Jvm.exec) {own C : String} {index : Nat} (hown : s.vm.findClass own = some m.cls) (hlink : (Cond.classLink own index C).before args s = true) {a : Addr} (hE : Exact C a T)
    {g : JFrame} (hg : g.method = m) {rest : List Value} (hstack : g.stack = .ref a :: rest) (hdg : decode c.code g.pc = .ok (.instanceof index, 3)) :
    ∃ T', Stand p l e R s m args below meth c T' locs cells slots ∧ T'.heap = T.heap ∧ ∀ target, Steps p.tables e below (T'.setTop { g with pc := g.pc + 3, stack := .int 1 :: rest }) target → Steps p.tables e below (T.setTop g) target := by
  obtain ⟨cB, h1, D, h2, h3, h4⟩ := hE
  have h1' : s.vm.findClass C = some cB := by rw [← X.warmed.alike.findClass]; exact h1
  obtain ⟨vm', X', st⟩ := X.instanceofYes hexec hown hlink h2 h4 h1' (by rw [h3]; exact Jvm.Free.SB.assignable_self _ _) hg hstack hdg
  exact ⟨_, X', rfl, st⟩
theorem cself {p : Program} {l : Launch} {e : Env} {R : Room} {s : State} {m : MethodId} {args : Array Value} {below : List Frame} {meth : Method} {c : Code} {T : State} {locs : List Loc} {cells slots : Nat} (X : Stand p l e R s m args below meth c T locs cells slots) (hexec : p.tables.exec = Jvm.exec) {own C : String} {index : Nat} (hown : s.vm.findClass own = some m.cls) (hlink : (Cond.classLink own index C).before args s = true) {a : Addr} (hE : Exact C a T)
    {g : JFrame} (hg : g.method = m) {rest : List Value} (hstack : g.stack = .ref a :: rest) (hdg : decode c.code g.pc = .ok (.checkcast index, 3)) :
    ∃ T', Stand p l e R s m args below meth c T' locs cells slots ∧ T'.heap = T.heap ∧ ∀ target, Steps p.tables e below (T'.setTop { g with pc := g.pc + 3, stack := .ref a :: rest }) target → Steps p.tables e below (T.setTop g) target := by
  obtain ⟨cB, h1, D, h2, h3, h4⟩ := hE
  have h1' : s.vm.findClass C = some cB := by rw [← X.warmed.alike.findClass]; exact h1
  obtain ⟨vm', X', st⟩ := X.checkcastYes hexec hown hlink h2 h4 h1' (by rw [h3]; exact Jvm.Free.SB.assignable_self _ _) hg hstack hdg
  exact ⟨_, X', rfl, fun t h => st t (by rw [← hstack] at h; exact h)⟩
namespace SEq
def yN : MethodName := ⟨"java/lang/String", "equals", "(Ljava/lang/Object;)Z"⟩
abbrev yB : ByteArray := jdk_42_method_66_code
theorem d0 : decode yB 0 = .ok (.aload_n 0, 1) := by decide +kernel
theorem d1 : decode yB 1 = .ok (.aload_n 1, 1) := by decide +kernel
theorem d2 : decode yB 2 = .ok (.if_acmp (.ne) 5, 3) := by decide +kernel
theorem d5 : decode yB 5 = .ok (.iconst 1, 1) := by decide +kernel
theorem d6 : decode yB 6 = .ok (.ireturn, 1) := by decide +kernel
theorem d7 : decode yB 7 = .ok (.aload_n 1, 1) := by decide +kernel
theorem d8 : decode yB 8 = .ok (.instanceof 10, 3) := by decide +kernel
theorem d11 : decode yB 11 = .ok (.ifCond (.eq) 43, 3) := by decide +kernel
theorem d14 : decode yB 14 = .ok (.aload_n 1, 1) := by decide +kernel
theorem d15 : decode yB 15 = .ok (.checkcast 10, 3) := by decide +kernel
theorem d18 : decode yB 18 = .ok (.astore_n 2, 1) := by decide +kernel
theorem d19 : decode yB 19 = .ok (.getstatic 38, 3) := by decide +kernel
theorem d22 : decode yB 22 = .ok (.ifCond (.eq) 14, 3) := by decide +kernel
theorem d25 : decode yB 25 = .ok (.aload_n 0, 1) := by decide +kernel
theorem d26 : decode yB 26 = .ok (.getfield 15, 3) := by decide +kernel
theorem d29 : decode yB 29 = .ok (.aload_n 2, 1) := by decide +kernel
theorem d30 : decode yB 30 = .ok (.getfield 15, 3) := by decide +kernel
theorem d33 : decode yB 33 = .ok (.if_icmp (.ne) 21, 3) := by decide +kernel
theorem d36 : decode yB 36 = .ok (.aload_n 0, 1) := by decide +kernel
theorem d37 : decode yB 37 = .ok (.getfield 9, 3) := by decide +kernel
theorem d40 : decode yB 40 = .ok (.aload_n 2, 1) := by decide +kernel
theorem d41 : decode yB 41 = .ok (.getfield 9, 3) := by decide +kernel
theorem d44 : decode yB 44 = .ok (.invokestatic 541, 3) := by decide +kernel
theorem d47 : decode yB 47 = .ok (.ifCond (.eq) 7, 3) := by decide +kernel
theorem d50 : decode yB 50 = .ok (.iconst 1, 1) := by decide +kernel
theorem d51 : decode yB 51 = .ok (.goto 4, 3) := by decide +kernel
theorem d54 : decode yB 54 = .ok (.iconst 0, 1) := by decide +kernel
theorem d55 : decode yB 55 = .ok (.ireturn, 1) := by decide +kernel
def site : List Cond := [.classLink "java/lang/String" 10 "java/lang/String", .fieldLink "java/lang/String" 38 "java/lang/String" "COMPACT_STRINGS" "Z", .fieldLink "java/lang/String" 15 "java/lang/String" "coder" "B", .fieldLink "java/lang/String" 9 "java/lang/String" "value" "[B", LEq.tab] ++ staticW "java/lang/String" 541 LEq.yN
def tab : Cond := tabOf yN yB 3 (some .boolean) site
def P (x t : Addr) (V : Cell) (cd : Int32) (n : Nat) (f : Nat → Int32) (y t' : Addr) (V' : Cell) (cd' : Int32) (k : Nat) (g : Nat → Int32) (z : Int32) (args : Array Value) (s : State) : Prop := args = #[.ref x, .ref y] ∧ Txt x t V cd n f s ∧ Txt y t' V' cd' k g s ∧ StaticIs s "java/lang/String" "COMPACT_STRINGS" "Z" (.int z) ∧ ¬ z = 0
/-- equals(Object) of two Strings: whether the texts are the same -/
theorem law (l : Launch) (x t : Addr) (V : Cell) (cd : Int32) (n : Nat) (f : Nat → Int32) (y t' : Addr) (V' : Cell) (cd' : Int32) (k : Nat) (g : Nat → Int32) (z : Int32) : Law l yN 2 1 1 14 yB 3 (some .boolean) site (P x t V cd n f y t' V' cd' k g z) (Says01 (SameT n f k g)) [] 0 0 := by
  refine Law.of_walk (plainFor_of_name (by decide +kernel)) (by decide +kernel) (by decide +kernel) (by decide) (fun _ _ h => by rw [h.1]; rfl) (fun _ U U' hal hh h => ⟨h.1, h.2.1.mv hal hh, h.2.2.1.mv hal hh, h.2.2.2.1.there hal hh, h.2.2.2.2⟩) (fun r U U' V V' h1 hal h2 h => Says01.mv r U U' V V' h1 hal h2 h) ?_
  intro p e s m args below meth c s₁ X0 hexec hbytes hml hret hlk hnm hown hh0 W hP
  obtain ⟨rfl, hx, hy, s1, hz⟩ := hP
  have c1 : Steps p.tables e below (s₁.setTop (entryFrame m #[.ref x, .ref y] 3)) (s₁.setTop (mkF m 2 #[.val (.ref x), .val (.ref y), .unset] [.ref y, .ref x])) := Steps.trans (entry rfl) (by
    show Steps p.tables e below (s₁.setTop (mkF m 0 #[.val (.ref x), .val (.ref y), .unset] [])) _
    refine XS.aloadN X0.here hexec rfl (hb hbytes d0) rfl rfl ?_
    refine XS.aloadN X0.here hexec rfl (hb hbytes d1) rfl rfl ?_
    exact Steps.refl _)
  by_cases hxy : x = y
  · have c2 : Steps p.tables e below (s₁.setTop (entryFrame m #[.ref x, .ref y] 3)) (s₁.setTop (mkF m 6 #[.val (.ref x), .val (.ref y), .unset] [.int 1])) := c1.trans (by
      refine acmpNo X0.here hexec rfl (hb hbytes d2) rfl rfl rfl (by simp [acmp, hxy]) ?_
      refine iconstV X0.here hexec rfl 1 (hb hbytes d5) (by decide) ?_
      exact Steps.refl _)
    subst hxy
    have ec : cd = cd' := by
      obtain ⟨D, fd, a1, a2, a3⟩ := hx.2.2.1
      obtain ⟨D', fd', b1, b2, b3⟩ := hy.2.2.1
      cases a1.symm.trans b1
      obtain ⟨q1, q2, q3, q4⟩ := a2.1
      obtain ⟨r1, r2, r3, r4⟩ := b2.1
      cases q4.symm.trans r4
      cases a3.symm.trans b3; rfl
    have et : t = t' := by
      obtain ⟨D, fd, a1, a2, a3⟩ := hx.2.1
      obtain ⟨D', fd', b1, b2, b3⟩ := hy.2.1
      cases a1.symm.trans b1
      obtain ⟨q1, q2, q3, q4⟩ := a2.1
      obtain ⟨r1, r2, r3, r4⟩ := b2.1
      cases q4.symm.trans r4
      cases a3.symm.trans b3; rfl
    subst ec et
    have ev : V = V' := by cases hx.2.2.2.1.1.symm.trans hy.2.2.2.1.1; rfl
    subst ev
    have hs : SameT n f k g := (Cod.eqv hx.2.2.2.2.1 hy.2.2.2.2.1 hx.2.2.2.2.2 hy.2.2.2.2.2).mp ⟨rfl, fun _ _ => rfl⟩
    exact ⟨s₁, some (.int 1), _, _, _, X0, rfl, rfl, rfl, (fun h => by cases h), ⟨1, rfl, hh0, Or.inl ⟨rfl, hs⟩⟩, fun fs hl => c2.trans (X0.ireturnOut hexec hret rfl (Or.inr (Or.inl rfl)) (hb hbytes d6) hl)⟩
  · have c2 : Steps p.tables e below (s₁.setTop (entryFrame m #[.ref x, .ref y] 3)) (s₁.setTop (mkF m 8 #[.val (.ref x), .val (.ref y), .unset] [.ref y])) := c1.trans (by
      refine acmpYes X0.here hexec rfl (pc0 := 2) rfl (hb hbytes d2) rfl rfl rfl (by simp [acmp, hxy]) (by decide) rfl ?_
      refine XS.aloadN X0.here hexec rfl (hb hbytes d7) rfl rfl ?_
      exact Steps.refl _)
    obtain ⟨T3, X3, q3, st3⟩ := cinst X0 hexec hown (wk W (.classLink "java/lang/String" 10 "java/lang/String")) (hy.mv X0.warmed.alike hh0).1 (g := (mkF m 8 #[.val (.ref x), .val (.ref y), .unset] [.ref y])) rfl (rest := []) rfl (hb hbytes d8)
    have hh3 := q3.trans hh0
    have c4 : Steps p.tables e below (s₁.setTop (entryFrame m #[.ref x, .ref y] 3)) (T3.setTop (mkF m 15 #[.val (.ref x), .val (.ref y), .unset] [.ref y])) := (c2.trans (st3 _ (Steps.refl _))).trans (by
      refine XS.ifNo X3.here hexec rfl (hb hbytes d11) rfl (i0_eq_f (by decide)) ?_
      refine XS.aloadN X3.here hexec rfl (hb hbytes d14) rfl rfl ?_
      exact Steps.refl _)
    obtain ⟨T5, X5, q5, st5⟩ := cself X3 hexec hown (wk W (.classLink "java/lang/String" 10 "java/lang/String")) (hy.mv X3.warmed.alike hh3).1 (g := (mkF m 15 #[.val (.ref x), .val (.ref y), .unset] [.ref y])) rfl (rest := []) rfl (hb hbytes d15)
    have hh5 := q5.trans hh3
    have c6 : Steps p.tables e below (s₁.setTop (entryFrame m #[.ref x, .ref y] 3)) (T5.setTop (mkF m 19 #[.val (.ref x), .val (.ref y), .val (.ref y)] [])) := (c4.trans (st5 _ (Steps.refl _))).trans (by
      refine XS.astoreN X5.here hexec rfl (hb hbytes d18) rfl rfl rfl ?_
      exact Steps.refl _)
    obtain ⟨T7, X7, q7, st7⟩ := X5.sget hexec hown (wk W (.fieldLink "java/lang/String" 38 "java/lang/String" "COMPACT_STRINGS" "Z")) s1 (fun _ _ h => by rw [hh5]; exact h) (g := (mkF m 19 #[.val (.ref x), .val (.ref y), .val (.ref y)] [])) rfl (hb hbytes d19)
    have hh7 := q7.trans hh5
    have c8 : Steps p.tables e below (s₁.setTop (entryFrame m #[.ref x, .ref y] 3)) (T7.setTop (mkF m 26 #[.val (.ref x), .val (.ref y), .val (.ref y)] [.ref x])) := (c6.trans (st7 _ (Steps.refl _))).trans (by
      refine XS.ifNo X7.here hexec rfl (hb hbytes d22) rfl (i0_eq_f hz) ?_
      refine XS.aloadN X7.here hexec rfl (hb hbytes d25) rfl rfl ?_
      exact Steps.refl _)
    obtain ⟨T9, X9, q9, st9⟩ := X7.hget hexec hown (wk W (.fieldLink "java/lang/String" 15 "java/lang/String" "coder" "B")) (hx.mv X7.warmed.alike hh7).2.2.1 (g := (mkF m 26 #[.val (.ref x), .val (.ref y), .val (.ref y)] [.ref x])) rfl (rest := []) rfl (hb hbytes d26)
    have hh9 := q9.trans hh7
    have c10 : Steps p.tables e below (s₁.setTop (entryFrame m #[.ref x, .ref y] 3)) (T9.setTop (mkF m 30 #[.val (.ref x), .val (.ref y), .val (.ref y)] [.ref y, .int cd])) := (c8.trans (st9 _ (Steps.refl _))).trans (by
      refine XS.aloadN X9.here hexec rfl (hb hbytes d29) rfl rfl ?_
      exact Steps.refl _)
    obtain ⟨T11, X11, q11, st11⟩ := X9.hget hexec hown (wk W (.fieldLink "java/lang/String" 15 "java/lang/String" "coder" "B")) (hy.mv X9.warmed.alike hh9).2.2.1 (g := (mkF m 30 #[.val (.ref x), .val (.ref y), .val (.ref y)] [.ref y, .int cd])) rfl (rest := [.int cd]) rfl (hb hbytes d30)
    have hh11 := q11.trans hh9
    have c12 : Steps p.tables e below (s₁.setTop (entryFrame m #[.ref x, .ref y] 3)) (T11.setTop (mkF m 33 #[.val (.ref x), .val (.ref y), .val (.ref y)] [.int cd', .int cd])) := c10.trans (st11 _ (Steps.refl _))
    by_cases hcd : cd = cd'
    · subst hcd
      have c13 : Steps p.tables e below (s₁.setTop (entryFrame m #[.ref x, .ref y] 3)) (T11.setTop (mkF m 37 #[.val (.ref x), .val (.ref y), .val (.ref y)] [.ref x])) := c12.trans (by
        refine XS.icmpNo X11.here hexec rfl (hb hbytes d33) rfl (ii_ne_f rfl) ?_
        refine XS.aloadN X11.here hexec rfl (hb hbytes d36) rfl rfl ?_
        exact Steps.refl _)
      obtain ⟨T14, X14, q14, st14⟩ := X11.hget hexec hown (wk W (.fieldLink "java/lang/String" 9 "java/lang/String" "value" "[B")) (hx.mv X11.warmed.alike hh11).2.1 (g := (mkF m 37 #[.val (.ref x), .val (.ref y), .val (.ref y)] [.ref x])) rfl (rest := []) rfl (hb hbytes d37)
      have hh14 := q14.trans hh11
      have c15 : Steps p.tables e below (s₁.setTop (entryFrame m #[.ref x, .ref y] 3)) (T14.setTop (mkF m 41 #[.val (.ref x), .val (.ref y), .val (.ref y)] [.ref y, .ref t])) := (c13.trans (st14 _ (Steps.refl _))).trans (by
        refine XS.aloadN X14.here hexec rfl (hb hbytes d40) rfl rfl ?_
        exact Steps.refl _)
      obtain ⟨T16, X16, q16, st16⟩ := X14.hget hexec hown (wk W (.fieldLink "java/lang/String" 9 "java/lang/String" "value" "[B")) (hy.mv X14.warmed.alike hh14).2.1 (g := (mkF m 41 #[.val (.ref x), .val (.ref y), .val (.ref y)] [.ref y, .ref t])) rfl (rest := [.ref t]) rfl (hb hbytes d41)
      have hh16 := q16.trans hh14
      have c17 : Steps p.tables e below (s₁.setTop (entryFrame m #[.ref x, .ref y] 3)) (T16.setTop (mkF m 44 #[.val (.ref x), .val (.ref y), .val (.ref y)] [.ref t', .ref t])) := c15.trans (st16 _ (Steps.refl _))
      obtain ⟨v18, T18, X18, E18, g18⟩ := X16.callS hexec (LEq.law l t V t' V') hown (wks W (staticW "java/lang/String" 541 LEq.yN)) (wk W LEq.tab) (W := 0) (Nat.le_of_ble_eq_true rfl) (Nat.le_of_ble_eq_true rfl) (Nat.le_refl _) (Nat.le_refl _) (g := (mkF m 44 #[.val (.ref x), .val (.ref y), .val (.ref y)] [.ref t', .ref t])) rfl (by rw [hml]; rfl) c17 (argsL := [.ref t, .ref t']) (rest := []) rfl rfl (by show 2 * 0 + 0 ≤ _; decide) (hb hbytes d44) (⟨rfl, hx.2.2.2.1.mv X16.warmed.alike hh16, hx.2.2.2.2.1.ty, hy.2.2.2.1.mv X16.warmed.alike hh16, hy.2.2.2.2.1.ty⟩)
      obtain ⟨v, rfl, q18, hv⟩ := E18
      have iff := Cod.eqv hx.2.2.2.2.1 hy.2.2.2.2.1 hx.2.2.2.2.2 hy.2.2.2.2.2
      rcases hv with ⟨rfl, he⟩ | ⟨rfl, he⟩
      · have c19 : Steps p.tables e below (s₁.setTop (entryFrame m #[.ref x, .ref y] 3)) (T18.setTop (mkF m 55 #[.val (.ref x), .val (.ref y), .val (.ref y)] [.int 1])) := Steps.trans g18 (by
          refine XS.ifNo X18.here hexec rfl (hb hbytes d47) rfl (i0_eq_f (by decide)) ?_
          refine iconstV X18.here hexec rfl 1 (hb hbytes d50) (by decide) ?_
          refine XS.goto X18.here hexec rfl (pc0 := 51) rfl (hb hbytes d51) (by decide) rfl ?_
          exact Steps.refl _)
        exact ⟨T18, some (.int 1), _, _, _, X18, rfl, rfl, rfl, (fun h => by cases h), ⟨1, rfl, q18.trans hh16, Or.inl ⟨rfl, iff.mp he⟩⟩, fun fs hl => c19.trans (X18.ireturnOut hexec hret rfl (Or.inr (Or.inl rfl)) (hb hbytes d55) hl)⟩
      · have c19 : Steps p.tables e below (s₁.setTop (entryFrame m #[.ref x, .ref y] 3)) (T18.setTop (mkF m 55 #[.val (.ref x), .val (.ref y), .val (.ref y)] [.int 0])) := Steps.trans g18 (by
          refine XS.ifYes X18.here hexec rfl (pc0 := 47) rfl (hb hbytes d47) rfl (i0_eq_t rfl) (by decide) rfl ?_
          refine iconstV X18.here hexec rfl 0 (hb hbytes d54) (by decide) ?_
          exact Steps.refl _)
        exact ⟨T18, some (.int 0), _, _, _, X18, rfl, rfl, rfl, (fun h => by cases h), ⟨0, rfl, q18.trans hh16, Or.inr ⟨rfl, fun q => he (iff.mpr q)⟩⟩, fun fs hl => c19.trans (X18.ireturnOut hexec hret rfl (Or.inr (Or.inl rfl)) (hb hbytes d55) hl)⟩
    · have c13 : Steps p.tables e below (s₁.setTop (entryFrame m #[.ref x, .ref y] 3)) (T11.setTop (mkF m 55 #[.val (.ref x), .val (.ref y), .val (.ref y)] [.int 0])) := c12.trans (by
        refine XS.icmpYes X11.here hexec rfl (pc0 := 33) rfl (hb hbytes d33) rfl (ii_ne_t hcd) (by decide) rfl ?_
        refine iconstV X11.here hexec rfl 0 (hb hbytes d54) (by decide) ?_
        exact Steps.refl _)
      exact ⟨T11, some (.int 0), _, _, _, X11, rfl, rfl, rfl, (fun h => by cases h), ⟨0, rfl, hh11, Or.inr ⟨rfl, Cod.dif hx.2.2.2.2.1 hy.2.2.2.2.1 hcd⟩⟩, fun fs hl => c13.trans (X11.ireturnOut hexec hret rfl (Or.inr (Or.inl rfl)) (hb hbytes d55) hl)⟩
theorem pays {l : Launch} {R : Room} {p : Program} {e : Env} {below : List Frame} {s : State} {sargs : Array Value} {len W : Nat} (x t : Addr) (V : Cell) (cd : Int32) (n : Nat) (f : Nat → Int32) (y t' : Addr) (V' : Cell) (cd' : Int32) (k : Nat) (g : Nat → Int32) (z : Int32) (htab : tab.before sargs s = true) (hfr : 2 ≤ R.frames) (hlo : W + 28 ≤ R.locals) :
    Back l R p e below s sargs yN len W (fun A₁ a₁ => A₁.cells + 0 ≤ R.cells ∧ A₁.slots + 0 ≤ R.slots ∧ P x t V cd n f y t' V' cd' k g z a₁ A₁.U) (fun A₁ _ v₁ B₁ => Says01 (SameT n f k g) v₁ A₁.U B₁.U ∧ B₁.locs = A₁.locs ++ [] ∧ B₁.cells = A₁.cells + 0 ∧ B₁.slots = A₁.slots + 0) :=
  (law l x t V cd n f y t' V' cd' k g z).pays htab hfr (by omega)
end SEq
end StrChars
namespace StrChars.Road
open Jvm Sem ClassFile Op Lib Jvm.Stand Jvm.Free Jvm.Free.XT
open Jvm.Lib.Cold (StaticIs)
/-- the words of String.isEmpty() -/
abbrev wordsEmp : List Jvm.Cond := [.code Emp.yN Emp.yB 1 (some .boolean), .initialized ST, .fieldLink ST 9 ST "value" "[B"]
theorem tabEmp_of {a : Array Value} {s : State} (h : ∀ w ∈ wordsEmp, w.before a s = true) : Emp.tab.before a s = true := unparts (wk h (.code Emp.yN Emp.yB 1 (some .boolean))) (wks h (.initialized Emp.yN.cls :: Emp.site))
theorem movedEmp {Z s : State} {a0 args : Array Value} (hZ : Z.Warmed39 s.vm) (hw : ∀ d ∈ wordsEmp, d.before a0 Z = true) : ∀ d ∈ wordsEmp, d.before args s = true := fun d hd => by
  have t : ∀ d ∈ wordsEmp, (d.onTables && d.keepsFace) = true := by decide +kernel
  exact RoadKit.mv hZ (hw d hd) (t d hd)
/-- the words of String.equals(Object) -/
abbrev wordsEq : List Jvm.Cond := [.code SEq.yN SEq.yB 3 (some .boolean), .initialized ST, .classLink ST 10 ST, .fieldLink ST 38 ST "COMPACT_STRINGS" "Z", .fieldLink ST 15 ST "coder" "B", .fieldLink ST 9 ST "value" "[B", .methodLink ST 541 LEq.yN, .static LEq.yN, .code LEq.yN LEq.yB 3 (some .boolean), .initialized "java/lang/StringLatin1"]
theorem tabEq_of {a : Array Value} {s : State} (h : ∀ w ∈ wordsEq, w.before a s = true) : SEq.tab.before a s = true := by
  have hl : LEq.tab.before a s = true := unparts (wk h (.code LEq.yN LEq.yB 3 (some .boolean))) (wks h (.initialized LEq.yN.cls :: LEq.site))
  have q := consq hl h
  exact unparts (wk q (.code SEq.yN SEq.yB 3 (some .boolean))) (wks q (.initialized SEq.yN.cls :: SEq.site))
theorem movedEq {Z s : State} {a0 args : Array Value} (hZ : Z.Warmed39 s.vm) (hw : ∀ d ∈ wordsEq, d.before a0 Z = true) : ∀ d ∈ wordsEq, d.before args s = true := fun d hd => by
  have t : ∀ d ∈ wordsEq, (d.onTables && d.keepsFace) = true := by decide +kernel
  exact RoadKit.mv hZ (hw d hd) (t d hd)
/-- the road's facts of a String, as the laws ask it -/
theorem txt_of {Z U : State} {a0 : Array Value} {kI : Nat} (wi : (Jvm.Cond.instantiable ST kI).before a0 Z = true) (al : Z.vm.Alike U.vm) {x t : Addr} {kb : ClassId} {cs : List Int32} {cd N2 : Int32} {vs : List Value} (E : RoadKit.Exa Z U.heap x ST) (V : RoadKit.Fld Z U.heap x ST "value" "[B" (.ref t)) (C : RoadKit.Fld Z U.heap x ST "coder" "B" (.int cd)) (K : RoadKit.Arv Z U.heap t kb .byte N2 vs (.int 0)) (hc : CodA cs cd N2 vs) (hb : ∀ c ∈ cs, ¬ c < 0 ∧ ¬ (65535 : Int32) < c) (l2 : cs.length ≤ 4000) :
    ∃ A, Txt x t A cd cs.length (fun j => cs.getD j 0) U := by
  obtain ⟨A, K1, K2, K3, K4, K5, K6⟩ := K
  have hcod := hc.cod (by omega) K3 K5
  obtain ⟨D, fV, fC, hB, F1, F2, g1, g2, -, -⟩ := strObj wi al E V C
  exact ⟨A, ⟨_, hB.2.2.1, D, hB.1, rfl, by cases q : D.vm <;> first | rfl | exact absurd q (hB.2.1.2 _)⟩, Has.of hB F1 g1, Has.of hB F2 g2, ⟨K1.1, State.isArrayOf_alike al K1.2.1, K1.2.2, by rcases hcod with ⟨-, q, -⟩ | ⟨-, q, -⟩ <;> omega⟩, hcod, fun j hj => by
    have e : cs.getD j 0 = cs[j] := by simp [List.getD_eq_getElem?_getD, hj]
    show ¬ cs.getD j 0 < 0 ∧ ¬ 65535 < cs.getD j 0
    rw [e]; exact hb _ (List.getElem_mem _)⟩
theorem same_list (cs ds : List Int32) : SameT cs.length (fun j => cs.getD j 0) ds.length (fun j => ds.getD j 0) ↔ cs = ds := by
  constructor
  · rintro ⟨e, q⟩
    refine List.ext_getElem e fun j h1 h2 => ?_
    have := q j h1
    simpa [List.getD_eq_getElem?_getD, h1, h2] using this
  · rintro rfl
    exact ⟨rfl, fun _ _ => rfl⟩
/-- **isEmpty() OF SUCH A STRING** -/
theorem empW {p : Program} {l : Launch} {e : Env} {R : Room} {s : State} {args : Array Value} {below : List Frame} {len W : Nat} {Z : State} {a0 : Array Value} {h : Heap} (hZ : Z.Warmed39 s.vm) (hw : ∀ d ∈ wordsEmp, d.before a0 Z = true) {kI : Nat} (wi : (Jvm.Cond.instantiable ST kI).before a0 Z = true)
    {x t : Addr} {kb : ClassId} {cs : List Int32} {cd N2 : Int32} {vs : List Value} (E : RoadKit.Exa Z h x ST) (V : RoadKit.Fld Z h x ST "value" "[B" (.ref t)) (C : RoadKit.Fld Z h x ST "coder" "B" (.int cd)) (K : RoadKit.Arv Z h t kb .byte N2 vs (.int 0)) (hc : CodA cs cd N2 vs) (hb : ∀ c ∈ cs, ¬ c < 0 ∧ ¬ (65535 : Int32) < c) (l2 : cs.length ≤ 4000) (hfr : 1 ≤ R.frames) (hlo : W + 12 ≤ R.locals) :
    Back l R p e below s args (⟨"java/lang/String", "isEmpty", "()Z"⟩ : MethodName) len W (fun P a => a = #[.ref x] ∧ P.U.heap = h ∧ P.cells + 0 ≤ R.cells ∧ P.slots + 0 ≤ R.slots)
      (fun P _ v B => ∃ L, (v = some (.int (if cs.length = 0 then 1 else 0)) ∧ L = [] ∧ B.U.heap = h) ∧ B.locs = P.locs ++ L ∧ B.cells = P.cells + 0 ∧ B.slots = P.slots + 0) := by
  intro m meth c P g ig mk a X hg hsize hdg hW hn hp'
  obtain ⟨rfl, rfl, r1, r2⟩ := hp'
  have al : Z.vm.Alike P.U.vm := hZ.alike.trans X.warmed.alike
  obtain ⟨A, hx⟩ := txt_of wi al E V C K hc hb l2
  obtain ⟨v, B, X', ⟨⟨hv, hh⟩, hl, hk, hs⟩, st⟩ := Emp.pays x t A cd cs.length (fun j => cs.getD j 0) (tabEmp_of (movedEmp hZ hw)) hfr hlo m meth c P g ig mk _ X hg hsize hdg hW hn ⟨r1, r2, rfl, hx⟩
  exact ⟨v, B, X', ⟨[], ⟨hv, rfl, hh⟩, hl, hk, hs⟩, st⟩
/-- **equals(Object) OF TWO SUCH STRINGS**: 1 just where the chars are the same -/
theorem eqW {p : Program} {l : Launch} {e : Env} {R : Room} {s : State} {args : Array Value} {below : List Frame} {len W : Nat} {Z : State} {a0 : Array Value} {h : Heap} (hZ : Z.Warmed39 s.vm) (hw : ∀ d ∈ wordsEq, d.before a0 Z = true) {kI : Nat} (wi : (Jvm.Cond.instantiable ST kI).before a0 Z = true)
    {x t : Addr} {kb : ClassId} {cs : List Int32} {cd N2 : Int32} {vs : List Value} (E : RoadKit.Exa Z h x ST) (V : RoadKit.Fld Z h x ST "value" "[B" (.ref t)) (C : RoadKit.Fld Z h x ST "coder" "B" (.int cd)) (K : RoadKit.Arv Z h t kb .byte N2 vs (.int 0)) (hc : CodA cs cd N2 vs) (hb : ∀ c ∈ cs, ¬ c < 0 ∧ ¬ (65535 : Int32) < c) (l2 : cs.length ≤ 4000)
    {y t' : Addr} {kb' : ClassId} {ds : List Int32} {cd' N2' : Int32} {vs' : List Value} (E' : RoadKit.Exa Z h y ST) (V' : RoadKit.Fld Z h y ST "value" "[B" (.ref t')) (C' : RoadKit.Fld Z h y ST "coder" "B" (.int cd')) (K' : RoadKit.Arv Z h t' kb' .byte N2' vs' (.int 0)) (hc' : CodA ds cd' N2' vs') (hb' : ∀ c ∈ ds, ¬ c < 0 ∧ ¬ (65535 : Int32) < c) (l2' : ds.length ≤ 4000)
    {z : Int32} (S : RoadKit.Sta Z h ST "COMPACT_STRINGS" "Z" (.int z)) (hz : ¬ z = 0) (hfr : 2 ≤ R.frames) (hlo : W + 28 ≤ R.locals) :
    Back l R p e below s args (⟨"java/lang/String", "equals", "(Ljava/lang/Object;)Z"⟩ : MethodName) len W (fun P a => a = #[.ref x, .ref y] ∧ P.U.heap = h ∧ P.cells + 0 ≤ R.cells ∧ P.slots + 0 ≤ R.slots)
      (fun P _ v B => ∃ L, (((v = some (.int 1) ∧ cs = ds) ∨ (v = some (.int 0) ∧ ¬ cs = ds)) ∧ L = [] ∧ B.U.heap = h) ∧ B.locs = P.locs ++ L ∧ B.cells = P.cells + 0 ∧ B.slots = P.slots + 0) := by
  intro m meth c P g ig mk a X hg hsize hdg hW hn hp'
  obtain ⟨rfl, rfl, r1, r2⟩ := hp'
  have al : Z.vm.Alike P.U.vm := hZ.alike.trans X.warmed.alike
  obtain ⟨A, hx⟩ := txt_of wi al E V C K hc hb l2
  obtain ⟨A', hy⟩ := txt_of wi al E' V' C' K' hc' hb' l2'
  obtain ⟨v, B, X', ⟨⟨w, hv, hh, hq⟩, hl, hk, hs⟩, st⟩ := SEq.pays x t A cd cs.length (fun j => cs.getD j 0) y t' A' cd' ds.length (fun j => ds.getD j 0) z (tabEq_of (movedEq hZ hw)) hfr hlo m meth c P g ig mk _ X hg hsize hdg hW hn ⟨r1, r2, rfl, hx, hy, sta_is al S, hz⟩
  refine ⟨v, B, X', ⟨[], ⟨?_, rfl, hh⟩, hl, hk, hs⟩, st⟩
  rcases hq with ⟨rfl, q⟩ | ⟨rfl, q⟩
  · exact Or.inl ⟨hv, (same_list cs ds).mp q⟩
  · exact Or.inr ⟨hv, fun e => q ((same_list cs ds).mpr e)⟩
end StrChars.Road
namespace StrChars
open Jvm Sem ClassFile Op Lib Jvm.Stand Jvm.Free.XT Jvm.Free.ALB Jvm.Free.JM Jvm.Free
open Jvm.Lib.Cold (StaticIs)
namespace ChN
def yN : MethodName := ⟨"java/lang/String", "charAt", "(I)C"⟩
abbrev yB : ByteArray := jdk_42_method_56_code
theorem d0 : decode yB 0 = .ok (.aload_n 0, 1) := by decide +kernel
theorem d1 : decode yB 1 = .ok (.invokevirtual 492, 3) := by decide +kernel
theorem d4 : decode yB 4 = .ok (.ifCond (.eq) 12, 3) := by decide +kernel
theorem d7 : decode yB 7 = .ok (.aload_n 0, 1) := by decide +kernel
theorem d8 : decode yB 8 = .ok (.getfield 9, 3) := by decide +kernel
theorem d11 : decode yB 11 = .ok (.iload_n 1, 1) := by decide +kernel
theorem d12 : decode yB 12 = .ok (.invokestatic 495, 3) := by decide +kernel
theorem d15 : decode yB 15 = .ok (.ireturn, 1) := by decide +kernel
def site : List Cond := [.fieldLink "java/lang/String" 9 "java/lang/String" "value" "[B", IsL.tab, LChA.tab] ++ virtW "java/lang/String" 492 "java/lang/String" IsL.yN IsL.yN ++ staticW "java/lang/String" 495 LChA.yN
def tab : Cond := tabOf yN yB 2 (some .char) site
def P (x t : Addr) (V : Cell) (n : Nat) (f : Nat → Int32) (z : Int32) (fm : Value) (i : Nat) (args : Array Value) (s : State) : Prop := args = #[.ref x, .int (Int32.ofNat i)] ∧ Txt x t V 0 n f s ∧ i < n ∧ StaticIs s "java/lang/String" "COMPACT_STRINGS" "Z" (.int z) ∧ ¬ z = 0 ∧ StaticIs s "jdk/internal/util/Preconditions" "SIOOBE_FORMATTER" "Ljava/util/function/BiFunction;" fm ∧ fm.isRef = true
def E (f : Nat → Int32) (i : Nat) (r : Option Value) (s u : State) : Prop := XT.PureE (some (.int (f i))) r s u
/-- charAt(i) of a Latin-1 String of n chars, i < n: f i -/
theorem law (l : Launch) (x t : Addr) (V : Cell) (n : Nat) (f : Nat → Int32) (z : Int32) (fm : Value) (i : Nat) : Law l yN 2 1 3 40 yB 2 (some .char) site (P x t V n f z fm i) (E f i) [] 0 0 := by
  refine Law.of_walk (plainFor_of_name (by decide +kernel)) (by decide +kernel) (by decide +kernel) (by decide) (fun _ _ h => by rw [h.1]; rfl) (fun _ U U' hal hh h => ⟨h.1, h.2.1.mv hal hh, h.2.2.1, h.2.2.2.1.there hal hh, h.2.2.2.2.1, h.2.2.2.2.2.1.there hal hh, h.2.2.2.2.2.2⟩) (fun r U U' V V' h1 hal h2 h => XT.PureE.mv r U U' V V' h1 hal h2 h) ?_
  intro p e s m args below meth c s₁ X0 hexec hbytes hml hret hlk hnm hown hh0 W hP
  obtain ⟨rfl, hx, hi, s1, hz, s3, rf⟩ := hP
  have v31 := hx.2.2.2.1.2.2.2
  have hr := hx.2.2.2.2.2 i hi
  have hx0 := hx.mv X0.warmed.alike hh0
  have c1 : Steps p.tables e below (s₁.setTop (entryFrame m #[.ref x, .int (Int32.ofNat i)] 2)) (s₁.setTop (mkF m 1 #[.val (.ref x), .val (.int (Int32.ofNat i))] [.ref x])) := Steps.trans (entry rfl) (by
    show Steps p.tables e below (s₁.setTop (mkF m 0 #[.val (.ref x), .val (.int (Int32.ofNat i))] [])) _
    refine XS.aloadN X0.here hexec rfl (hb hbytes d0) rfl rfl ?_
    exact Steps.refl _)
  obtain ⟨v2, T2, X2, E2, g2⟩ := X0.callV hexec (IsL.law l x 0 z) hown (wks W (virtW "java/lang/String" 492 "java/lang/String" IsL.yN IsL.yN)) rfl (by decide) (wk W IsL.tab) (W := 0) (Nat.le_of_ble_eq_true rfl) (Nat.le_of_ble_eq_true rfl) (Nat.le_refl _) (Nat.le_refl _) (hx0.1.fc X0.warmed.alike) hx0.1.is (g := (mkF m 1 #[.val (.ref x), .val (.int (Int32.ofNat i))] [.ref x])) rfl (by rw [hml]; rfl) c1 (argsL := []) (rest := []) rfl rfl (by show 2 * 0 + 0 ≤ _; decide) (hb hbytes d1) (⟨rfl, hx0.2.2.1, hx.2.2.2.2.1.cd, s1.there X0.warmed.alike hh0, hz⟩)
  obtain ⟨rfl, q2⟩ := E2
  have hh2 := q2.trans hh0
  have hx2 := hx.mv X2.warmed.alike hh2
  obtain ⟨-, k1, k2⟩ | ⟨k0, -⟩ := hx.2.2.2.2.1
  · have c3 : Steps p.tables e below (s₁.setTop (entryFrame m #[.ref x, .int (Int32.ofNat i)] 2)) (T2.setTop (mkF m 8 #[.val (.ref x), .val (.int (Int32.ofNat i))] [.ref x])) := Steps.trans g2 (by
      refine XS.ifNo X2.here hexec rfl (hb hbytes d4) rfl (i0_eq_f (by decide)) ?_
      refine XS.aloadN X2.here hexec rfl (hb hbytes d7) rfl rfl ?_
      exact Steps.refl _)
    obtain ⟨T4, X4, q4, st4⟩ := X2.hget hexec hown (wk W (.fieldLink "java/lang/String" 9 "java/lang/String" "value" "[B")) hx2.2.1 (g := (mkF m 8 #[.val (.ref x), .val (.int (Int32.ofNat i))] [.ref x])) rfl (rest := []) rfl (hb hbytes d8)
    have hh4 := q4.trans hh2
    have c5 : Steps p.tables e below (s₁.setTop (entryFrame m #[.ref x, .int (Int32.ofNat i)] 2)) (T4.setTop (mkF m 12 #[.val (.ref x), .val (.int (Int32.ofNat i))] [.int (Int32.ofNat i), .ref t])) := (c3.trans (st4 _ (Steps.refl _))).trans (by
      refine XS.iloadN X4.here hexec rfl (hb hbytes d11) rfl ?_
      exact Steps.refl _)
    obtain ⟨v6, T6, X6, E6, g6⟩ := X4.callS hexec (LChA.law l t V i (lo8 (f i)) fm) hown (wks W (staticW "java/lang/String" 495 LChA.yN)) (wk W LChA.tab) (W := 0) (Nat.le_of_ble_eq_true rfl) (Nat.le_of_ble_eq_true rfl) (Nat.le_refl _) (Nat.le_refl _) (g := (mkF m 12 #[.val (.ref x), .val (.int (Int32.ofNat i))] [.int (Int32.ofNat i), .ref t])) rfl (by rw [hml]; rfl) c5 (argsL := [.ref t, .int (Int32.ofNat i)]) (rest := []) rfl rfl (by show 2 * 0 + 0 ≤ _; decide) (hb hbytes d12) (⟨rfl, hx.2.2.2.1.mv X4.warmed.alike hh4, (k2 i hi).1, s3.there X4.warmed.alike hh4, rf⟩)
    obtain ⟨rfl, q6⟩ := E6
    rw [chr8_lo8 hr.1 (k2 i hi).2] at g6
    exact ⟨T6, some (.int (f i)), _, _, _, X6, rfl, rfl, rfl, (fun h => by cases h), ⟨rfl, q6.trans hh4⟩, fun fs hl => Steps.trans g6 (X6.ireturnOut hexec hret (narrow_ch hr.1 hr.2) (Or.inr (Or.inr (Or.inr (Or.inl rfl)))) (hb hbytes d15) hl)⟩
  · exact absurd k0 (by decide)
theorem pays {l : Launch} {R : Room} {p : Program} {e : Env} {below : List Frame} {s : State} {sargs : Array Value} {len W : Nat} (x t : Addr) (V : Cell) (n : Nat) (f : Nat → Int32) (z : Int32) (fm : Value) (i : Nat) (htab : tab.before sargs s = true) (hfr : 4 ≤ R.frames) (hlo : W + 53 ≤ R.locals) :
    Back l R p e below s sargs yN len W (fun A₁ a₁ => A₁.cells + 0 ≤ R.cells ∧ A₁.slots + 0 ≤ R.slots ∧ P x t V n f z fm i a₁ A₁.U) (fun A₁ _ v₁ B₁ => E f i v₁ A₁.U B₁.U ∧ B₁.locs = A₁.locs ++ [] ∧ B₁.cells = A₁.cells + 0 ∧ B₁.slots = A₁.slots + 0) :=
  (law l x t V n f z fm i).pays htab hfr (by omega)
end ChN
end StrChars
namespace StrChars.Road
open Jvm Sem ClassFile Op Lib Jvm.Stand Jvm.Free Jvm.Free.XT
open Jvm.Lib.Cold (StaticIs)
/-- the words of String.charAt(int), the Latin-1 road alone -/
abbrev wordsChN : List Jvm.Cond := [.code ChN.yN ChN.yB 2 (some .char), .initialized ST, .fieldLink ST 9 ST "value" "[B", .fieldLink ST 38 ST "COMPACT_STRINGS" "Z", .fieldLink ST 15 ST "coder" "B", .code IsL.yN IsL.yB 1 (some .boolean), .methodLink ST 492 IsL.yN, .declares IsL.yN, .selects ST IsL.yN IsL.yN, .instanceMethod IsL.yN,
  .methodLink ST 495 LChA.yN, .static LChA.yN, .code LChA.yN LChA.yB 2 (some .char), .initialized "java/lang/StringLatin1", .methodLink "java/lang/StringLatin1" 9 JO.Str_checkIndex.yN, .static JO.Str_checkIndex.yN, .code JO.Str_checkIndex.yN JO.Str_checkIndex.yB 2 none,
  .fieldLink ST 1053 "jdk/internal/util/Preconditions" "SIOOBE_FORMATTER" "Ljava/util/function/BiFunction;", .methodLink ST 1059 JC.PreCheck.yN, .static JC.PreCheck.yN, .code JC.PreCheck.yN JC.PreCheck.yB 3 (some .int), .initialized "jdk/internal/util/Preconditions"]
theorem tabChN_of {a : Array Value} {s : State} (h : ∀ w ∈ wordsChN, w.before a s = true) : ChN.tab.before a s = true := by
  have hp : JC.PreCheck.tab.before a s = true := unparts (wk h (.code JC.PreCheck.yN JC.PreCheck.yB 3 (some .int))) (wks h (.initialized JC.PreCheck.yN.cls :: JC.PreCheck.site))
  have qk := consq hp h
  have hk : JO.Str_checkIndex.tab.before a s = true := unparts (wk qk (.code JO.Str_checkIndex.yN JO.Str_checkIndex.yB 2 none)) (wks qk (.initialized JO.Str_checkIndex.yN.cls :: JO.Str_checkIndex.site))
  have ql := consq hk h
  have hl : LChA.tab.before a s = true := unparts (wk ql (.code LChA.yN LChA.yB 2 (some .char))) (wks ql (.initialized LChA.yN.cls :: LChA.site))
  have hi : IsL.tab.before a s = true := unparts (wk h (.code IsL.yN IsL.yB 1 (some .boolean))) (wks h (.initialized IsL.yN.cls :: IsL.site))
  have q := consq hi (consq hl h)
  exact unparts (wk q (.code ChN.yN ChN.yB 2 (some .char))) (wks q (.initialized ChN.yN.cls :: ChN.site))
theorem movedChN {Z s : State} {a0 args : Array Value} (hZ : Z.Warmed39 s.vm) (hw : ∀ d ∈ wordsChN, d.before a0 Z = true) : ∀ d ∈ wordsChN, d.before args s = true := fun d hd => by
  have t : ∀ d ∈ wordsChN, (d.onTables && d.keepsFace) = true := by decide +kernel
  exact RoadKit.mv hZ (hw d hd) (t d hd)
/-- **charAt(i) OF A LATIN-1 STRING**, i < n: the char -/
theorem chN {p : Program} {l : Launch} {e : Env} {R : Room} {s : State} {args : Array Value} {below : List Frame} {len W : Nat} {Z : State} {a0 : Array Value} {h : Heap} (hZ : Z.Warmed39 s.vm) (hw : ∀ d ∈ wordsChN, d.before a0 Z = true) {kI : Nat} (wi : (Jvm.Cond.instantiable ST kI).before a0 Z = true)
    {x t : Addr} {kb : ClassId} {cs : List Int32} {N2 z : Int32} {vs : List Value} {fm : Value} {i : Nat} {j : Int32} (E : RoadKit.Exa Z h x ST) (V : RoadKit.Fld Z h x ST "value" "[B" (.ref t)) (C : RoadKit.Fld Z h x ST "coder" "B" (.int 0)) (K : RoadKit.Arv Z h t kb .byte N2 vs (.int 0)) (hc : CodA cs 0 N2 vs) (hb : ∀ c ∈ cs, ¬ c < 0 ∧ ¬ (65535 : Int32) < c)
    (S : RoadKit.Sta Z h ST "COMPACT_STRINGS" "Z" (.int z)) (hz : ¬ z = 0) (F : RoadKit.Sta Z h "jdk/internal/util/Preconditions" "SIOOBE_FORMATTER" "Ljava/util/function/BiFunction;" fm) (rf : fm.isRef = true) (l2 : cs.length ≤ 4000) (hi : i < cs.length) (hj : j = Int32.ofNat i) (hfr : 4 ≤ R.frames) (hlo : W + 53 ≤ R.locals) :
    Back l R p e below s args (⟨"java/lang/String", "charAt", "(I)C"⟩ : MethodName) len W (fun P a => a = #[.ref x, .int j] ∧ P.U.heap = h ∧ P.cells + 0 ≤ R.cells ∧ P.slots + 0 ≤ R.slots)
      (fun P _ v B => ∃ L, (v = some (.int (cs.getD i 0)) ∧ L = [] ∧ B.U.heap = h) ∧ B.locs = P.locs ++ L ∧ B.cells = P.cells + 0 ∧ B.slots = P.slots + 0) := by
  subst hj
  intro m meth c P g ig mk a X hg hsize hdg hW hn hp'
  obtain ⟨rfl, rfl, r1, r2⟩ := hp'
  have al : Z.vm.Alike P.U.vm := hZ.alike.trans X.warmed.alike
  obtain ⟨A, hx⟩ := txt_of wi al E V C K hc hb l2
  obtain ⟨v, B, X', ⟨⟨hv, hh⟩, hl, hk, hs⟩, st⟩ := ChN.pays x t A cs.length (fun j => cs.getD j 0) z fm i (tabChN_of (movedChN hZ hw)) hfr hlo m meth c P g ig mk _ X hg hsize hdg hW hn ⟨r1, r2, rfl, hx, hi, sta_is al S, hz, sta_is al F, rf⟩
  exact ⟨v, B, X', ⟨[], ⟨hv, rfl, hh⟩, hl, hk, hs⟩, st⟩
/-- what backV says of its String, as the contracts of this text ask it: cs's low bytes, coder 0 -/
theorem codOf {cs : List Int32} {n : Nat} (hn : cs.length = n) (hb : ∀ c ∈ cs, ¬ 255 < c) : CodA cs 0 (Int32.ofNat n) ((cs.map lo8).map Value.int) := Or.inl ⟨rfl, by rw [hn], by simp [List.map_map, Function.comp_def], hb⟩
end StrChars.Road
end Jvm.Pilot.@@N@@
namespace Jvm.Pilot.@@N@@
open Jvm Jvm.ClassFile Sem Op Lib Jvm.Free Jvm.Stand Jvm.LawKit Jvm.RoadKit Bundle Jvm.Pilot.@@N@@.Jvm.D
theorem tw {Z : State} {a0 : Array Value} (hw : ∀ d ∈ tables_1, d.before a0 Z = true) (i : Nat) {d : Jvm.Cond} (h : tables_1[i]? = some d) : d.before a0 Z = true := hw _ (List.mem_of_getElem? h)
theorem leW {a b : Nat} (h : 2 * 0 + a = b) : 2 * 0 + a ≤ b := Nat.le_of_eq h
theorem leB {a b : Nat} (h : Nat.ble a b = true) : a ≤ b := Nat.le_of_ble_eq_true h
theorem own_wS : ∀ d ∈ Bundle.stringAtoms, d ∈ tables_1 := by decide +kernel
def own_Env (Z : State) : Prop := (∃ G : Int32, Sta Z Z.heap "java/lang/String" "COMPACT_STRINGS" "Z" (.int G) ∧ ¬ G = 0) ∧ ∃ G : Value, Sta Z Z.heap "jdk/internal/util/Preconditions" "SIOOBE_FORMATTER" "Ljava/util/function/BiFunction;" G ∧ G.isRef = true
def own_Str (Z : State) (h : Heap) (x t : Addr) (cs : List Int32) : Prop := Exa Z h x "java/lang/String" ∧ Fld Z h x "java/lang/String" "value" "[B" (.ref t) ∧ Fld Z h x "java/lang/String" "coder" "B" (.int 0) ∧ (∃ (kb : ClassId) (N2 : Int32) (vs : List Value), Arv Z h t kb .byte N2 vs (.int 0) ∧ StrChars.Road.CodA cs 0 N2 vs) ∧ (∀ c ∈ cs, ¬ c < 0 ∧ ¬ (255 : Int32) < c) ∧ cs.length ≤ 4000
section OwnStr
variable {Z : State} {h h' : Heap} {x t : Addr} {cs : List Int32}
theorem own_Str.ext (F : own_Str Z h x t cs) (E : Ext h h') : own_Str Z h' x t cs := by
  obtain ⟨f1, f2, f3, ⟨kb, N2, vs, f4, f5⟩, f6⟩ := F
  exact ⟨Exa.ext E f1, Fld.ext E f2, Fld.ext E f3, ⟨kb, N2, vs, f4.ext E, f5⟩, f6⟩
theorem own_Str.other {a : Addr} {sl : Nat} {v : Value} (F : own_Str Z h x t cs) (W : Wr h h' a sl v) (n1 : x ≠ a) (n2 : t ≠ a) : own_Str Z h' x t cs := by
  obtain ⟨f1, f2, f3, ⟨kb, N2, vs, f4, f5⟩, f6⟩ := F
  exact ⟨Exa.wr W f1, f2.other W (Or.inl n1), f3.other W (Or.inl n1), ⟨kb, N2, vs, f4.other W n2, f5⟩, f6⟩
theorem own_Str.keep {ws : List Addr} (F : own_Str Z h x t cs) (K : Keep h h' ws) (n1 : x ∉ ws) (n2 : t ∉ ws) : own_Str Z h' x t cs := by
  obtain ⟨f1, f2, f3, ⟨kb, N2, vs, f4, f5⟩, f6⟩ := F
  exact ⟨f1.keep K, f2.keep K n1, f3.keep K n1, ⟨kb, N2, vs, f4.keep K n2, f5⟩, f6⟩
theorem own_Str.lt1 (F : own_Str Z h x t cs) : x < h.size := F.1.lt
theorem own_Str.lt2 (F : own_Str Z h x t cs) : t < h.size := by obtain ⟨-, -, -, ⟨kb, N2, vs, f4, -⟩, -⟩ := F; exact f4.lt
theorem own_up (F : ∀ c ∈ cs, ¬ c < 0 ∧ ¬ (255 : Int32) < c) : ∀ c ∈ cs, ¬ c < 0 ∧ ¬ (65535 : Int32) < c := fun c hc => ⟨(F c hc).1, fun q => (F c hc).2 (by rw [Int32.lt_iff_toInt_lt] at q ⊢; have e1 : (65535 : Int32).toInt = 65535 := rfl; have e2 : (255 : Int32).toInt = 255 := rfl; omega)⟩
end OwnStr
theorem own_pdNew : parseMethodDescriptor "([C)V" = some ⟨[(.array .char)], none⟩ := by decide +kernel
theorem own_pdLen : parseMethodDescriptor "()I" = some ⟨[], some .int⟩ := by decide +kernel
theorem own_pdChr : parseMethodDescriptor "(I)C" = some ⟨[.int], some .char⟩ := by decide +kernel
theorem own_pdEq : parseMethodDescriptor "(Ljava/lang/Object;)Z" = some ⟨[(.object "java/lang/Object")], some .boolean⟩ := by decide +kernel
theorem own_pdEmp : parseMethodDescriptor "()Z" = some ⟨[], some .boolean⟩ := by decide +kernel
section OwnCalls
variable {p : Program} {l : Launch} {e : Env} {R : Room} {s : State} {args : Array Value} {below : List Frame} {len W : Nat} {Z : State} {a0 : Array Value} {h : Heap} {n0 : Nat}
theorem own_wNew : ∀ d ∈ StrChars.Road.words, d ∈ tables_1 := by decide +kernel
theorem own_new (hZ : Z.Warmed39 s.vm) (hw : ∀ d ∈ tables_1, d.before a0 Z = true) (SV : own_Env Z) (O : Old Z n0 h) {x b : Addr} {kC : ClassId} {cs : List Int32} {d v0 c0 : Value} {N : Int32} {n : Nat} (hx0 : n0 ≤ x) (hh0 : n0 ≤ h.size) (E : Exa Z h x "java/lang/String") (V : Fld Z h x "java/lang/String" "value" "[B" v0) (C : Fld Z h x "java/lang/String" "coder" "B" c0) (K : Arv Z h b kC .char N (cs.map Value.int) d)
    (hn : cs.length = n) (hN : N = Int32.ofNat n) (l0 : 0 < n) (l2 : n ≤ 4000) (hp : ∀ c ∈ cs, ¬ c < 0 ∧ ¬ (255 : Int32) < c) (hfr : 4 ≤ R.frames) (hlo : W + 65 ≤ R.locals) :
    Back l R p e below s args (⟨"java/lang/String", "<init>", "([C)V"⟩ : MethodName) len W (fun P a => a = #[.ref x, .ref b] ∧ P.U.heap = h ∧ P.cells + 1 ≤ R.cells ∧ P.slots + n ≤ R.slots)
      (fun P _ v B => ∃ L, (v = none ∧ Fr n0 L ∧ Keep h B.U.heap [x] ∧ ∃ t, h.size ≤ t ∧ own_Str Z B.U.heap x t cs) ∧ B.locs = P.locs ++ L ∧ B.cells = P.cells + 1 ∧ B.slots = P.slots + n) := by
  obtain ⟨⟨G1, S1, S2⟩, -⟩ := SV
  refine Back.mono (StrChars.Road.backV hZ (fun d hd => hw d (own_wNew d hd)) (kI := 4) (tw hw 10 rfl) (bs := cs.map (fun c => c.toInt8.toInt32)) hx0 hh0 E V C K (Sta.ext O.2 S1) S2 hn hN l0 l2 hp rfl hfr hlo) (fun _ _ q => q) ?_
  rintro P a v B hq ⟨L, ⟨q1, q2, q3, q4, q5, t, kb, q6, q7, q8, q9, q10⟩, r⟩
  subst hn hN
  exact ⟨L, ⟨q1, q2, q3, t, q7, q4, q9, q5, ⟨kb, _, _, q10, StrChars.Road.codOf rfl (fun c hc => (hp c hc).2)⟩, hp, l2⟩, r⟩
theorem own_wLen : ∀ d ∈ StrChars.Road.wordsLen, d ∈ tables_1 := by decide +kernel
theorem own_len (hZ : Z.Warmed39 s.vm) (hw : ∀ d ∈ tables_1, d.before a0 Z = true) (SV : own_Env Z) (O : Old Z n0 h) {x t : Addr} {cs : List Int32} (F : own_Str Z h x t cs) (hfr : 2 ≤ R.frames) (hlo : W + 25 ≤ R.locals) :
    Back l R p e below s args (⟨"java/lang/String", "length", "()I"⟩ : MethodName) len W (fun P a => a = #[.ref x] ∧ P.U.heap = h ∧ P.cells + 0 ≤ R.cells ∧ P.slots + 0 ≤ R.slots)
      (fun P _ v B => ∃ L, (v = some (.int (Int32.ofNat cs.length)) ∧ Fr n0 L ∧ B.U.heap = h) ∧ B.locs = P.locs ++ L ∧ B.cells = P.cells + 0 ∧ B.slots = P.slots + 0) := by
  obtain ⟨⟨G1, S1, S2⟩, -⟩ := SV
  obtain ⟨f1, f2, f3, ⟨kb, N2, vs, f4, f5⟩, f6, f7⟩ := F
  refine Back.mono (StrChars.Road.lenW hZ (fun d hd => hw d (own_wLen d hd)) (kI := 4) (tw hw 10 rfl) f1 f2 f3 f4 f5 (own_up f6) (Sta.ext O.2 S1) S2 f7 hfr hlo) (fun _ _ q => q) ?_
  rintro P a v B hq ⟨L, ⟨q1, rfl, q3⟩, r⟩
  exact ⟨[], ⟨q1, Fr.nil n0, q3⟩, r⟩
theorem own_wChr : ∀ d ∈ StrChars.Road.wordsChN, d ∈ tables_1 := by decide +kernel
theorem own_chr (hZ : Z.Warmed39 s.vm) (hw : ∀ d ∈ tables_1, d.before a0 Z = true) (SV : own_Env Z) (O : Old Z n0 h) {x t : Addr} {cs : List Int32} {i : Nat} {j : Int32} (F : own_Str Z h x t cs) (hi : i < cs.length) (hj : j = Int32.ofNat i) (hfr : 4 ≤ R.frames) (hlo : W + 53 ≤ R.locals) :
    Back l R p e below s args (⟨"java/lang/String", "charAt", "(I)C"⟩ : MethodName) len W (fun P a => a = #[.ref x, .int j] ∧ P.U.heap = h ∧ P.cells + 0 ≤ R.cells ∧ P.slots + 0 ≤ R.slots)
      (fun P _ v B => ∃ L, (v = some (.int (cs.getD i 0)) ∧ Fr n0 L ∧ B.U.heap = h) ∧ B.locs = P.locs ++ L ∧ B.cells = P.cells + 0 ∧ B.slots = P.slots + 0) := by
  obtain ⟨⟨G1, S1, S2⟩, G3, S3, S4⟩ := SV
  obtain ⟨f1, f2, f3, ⟨kb, N2, vs, f4, f5⟩, f6, f7⟩ := F
  refine Back.mono (StrChars.Road.chN hZ (fun d hd => hw d (own_wChr d hd)) (kI := 4) (tw hw 10 rfl) f1 f2 f3 f4 f5 (own_up f6) (Sta.ext O.2 S1) S2 (Sta.ext O.2 S3) S4 f7 hi hj hfr hlo) (fun _ _ q => q) ?_
  rintro P a v B hq ⟨L, ⟨q1, rfl, q3⟩, r⟩
  exact ⟨[], ⟨q1, Fr.nil n0, q3⟩, r⟩
theorem own_wEq : ∀ d ∈ StrChars.Road.wordsEq, d ∈ tables_1 := by decide +kernel
theorem own_eqs (hZ : Z.Warmed39 s.vm) (hw : ∀ d ∈ tables_1, d.before a0 Z = true) (SV : own_Env Z) (O : Old Z n0 h) {x t y u : Addr} {cs ds : List Int32} (F : own_Str Z h x t cs) (G : own_Str Z h y u ds) (hfr : 2 ≤ R.frames) (hlo : W + 28 ≤ R.locals) :
    Back l R p e below s args (⟨"java/lang/String", "equals", "(Ljava/lang/Object;)Z"⟩ : MethodName) len W (fun P a => a = #[.ref x, .ref y] ∧ P.U.heap = h ∧ P.cells + 0 ≤ R.cells ∧ P.slots + 0 ≤ R.slots)
      (fun P _ v B => ∃ L, (v = some (.int (if cs = ds then 1 else 0)) ∧ Fr n0 L ∧ B.U.heap = h) ∧ B.locs = P.locs ++ L ∧ B.cells = P.cells + 0 ∧ B.slots = P.slots + 0) := by
  obtain ⟨⟨G1, S1, S2⟩, -⟩ := SV
  obtain ⟨f1, f2, f3, ⟨kb, N2, vs, f4, f5⟩, f6, f7⟩ := F
  obtain ⟨g1, g2, g3, ⟨kb', N2', vs', g4, g5⟩, g6, g7⟩ := G
  refine Back.mono (StrChars.Road.eqW hZ (fun d hd => hw d (own_wEq d hd)) (kI := 4) (tw hw 10 rfl) f1 f2 f3 f4 f5 (own_up f6) f7 g1 g2 g3 g4 g5 (own_up g6) g7 (Sta.ext O.2 S1) S2 hfr hlo) (fun _ _ q => q) ?_
  rintro P a v B hq ⟨L, ⟨q1, rfl, q3⟩, r⟩
  refine ⟨[], ⟨?_, Fr.nil n0, q3⟩, r⟩
  rcases q1 with ⟨q1, q2⟩ | ⟨q1, q2⟩
  · rw [q1, if_pos q2]
  · rw [q1, if_neg q2]
theorem own_wEmp : ∀ d ∈ StrChars.Road.wordsEmp, d ∈ tables_1 := by decide +kernel
theorem own_emp (hZ : Z.Warmed39 s.vm) (hw : ∀ d ∈ tables_1, d.before a0 Z = true) {x t : Addr} {cs : List Int32} (F : own_Str Z h x t cs) (hfr : 1 ≤ R.frames) (hlo : W + 12 ≤ R.locals) :
    Back l R p e below s args (⟨"java/lang/String", "isEmpty", "()Z"⟩ : MethodName) len W (fun P a => a = #[.ref x] ∧ P.U.heap = h ∧ P.cells + 0 ≤ R.cells ∧ P.slots + 0 ≤ R.slots)
      (fun P _ v B => ∃ L, (v = some (.int (if cs.length = 0 then 1 else 0)) ∧ Fr n0 L ∧ B.U.heap = h) ∧ B.locs = P.locs ++ L ∧ B.cells = P.cells + 0 ∧ B.slots = P.slots + 0) := by
  obtain ⟨f1, f2, f3, ⟨kb, N2, vs, f4, f5⟩, f6, f7⟩ := F
  refine Back.mono (StrChars.Road.empW hZ (fun d hd => hw d (own_wEmp d hd)) (kI := 4) (tw hw 10 rfl) f1 f2 f3 f4 f5 (own_up f6) f7 hfr hlo) (fun _ _ q => q) ?_
  rintro P a v B hq ⟨L, ⟨q1, rfl, q3⟩, r⟩
  exact ⟨[], ⟨q1, Fr.nil n0, q3⟩, r⟩
end OwnCalls
def own_ok (c : Int32) : Prop := (65 ≤ c.toInt ∧ c.toInt ≤ 90) ∨ (97 ≤ c.toInt ∧ c.toInt ≤ 122) ∨ (48 ≤ c.toInt ∧ c.toInt ≤ 57) ∨ c = 46 ∨ c = 95 ∨ c = 45
theorem own_ok.rng {c : Int32} (h : own_ok c) : 0 ≤ c.toInt ∧ c.toInt ≤ 255 := by
  rcases h with h | h | h | rfl | rfl | rfl <;> first | decide | omega
theorem own_ok.b {c : Int32} (h : own_ok c) : ¬ c < 0 ∧ ¬ (255 : Int32) < c := by
  have q := h.rng
  rw [Int32.lt_iff_toInt_lt, Int32.lt_iff_toInt_lt]
  have e1 : (255 : Int32).toInt = 255 := by decide
  have e2 : (0 : Int32).toInt = 0 := by decide
  omega
theorem own_i2c {y : Int32} (h : 0 ≤ y.toInt ∧ y.toInt < 65536) : y.toUInt32.toUInt16.toUInt32.toInt32 = y := by
  have q := c_i2c y
  apply Int32.toInt_inj.mp
  omega
theorem own_nar {y : Int32} (h : 0 ≤ y.toInt ∧ y.toInt < 65536) : nar .char y = y := own_i2c h
theorem own_nn {y : Int32} (h : 0 ≤ y.toInt ∧ y.toInt < 65536) : nar .char y.toUInt32.toUInt16.toUInt32.toInt32 = y := by rw [own_i2c h]; exact own_nar h
theorem own_ltI (x y : Int32) : x < y ↔ x.toInt < y.toInt := Int32.lt_iff_toInt_lt
theorem own_Str.arv {Z : State} {h : Heap} {x t : Addr} {cs : List Int32} (F : own_Str Z h x t cs) : ∃ kb : ClassId, Arv Z h t kb .byte (Int32.ofNat cs.length) (cs.map fun c => Value.int (StrChars.lo8 c)) (.int 0) := by
  obtain ⟨-, -, -, ⟨kb, N2, vs, f4, f5⟩, -⟩ := F
  rcases f5 with ⟨-, rfl, rfl, -⟩ | ⟨q, -⟩
  · exact ⟨kb, f4⟩
  · exact absurd q (by decide)
def QK (Z : State) (px : Int32) (h0 : Heap) (n0 : Nat) (v : Option Value) (h : Heap) (L : List Loc) : Prop := ∃ (pv : Int32), v = some (.int pv) ∧ Fr n0 L ∧ h = h0 ∧ own_ok pv
theorem dK_0 : decode method_2_code 0 = .ok (.iload_n 0, 1) := by decide +kernel
theorem dK_1 : decode method_2_code 1 = .ok (.ldc 7, 2) := by decide +kernel
theorem dK_3 : decode method_2_code 3 = .ok (.iand, 1) := by decide +kernel
theorem dK_4 : decode method_2_code 4 = .ok (.bipush 65, 2) := by decide +kernel
theorem dK_6 : decode method_2_code 6 = .ok (.irem, 1) := by decide +kernel
theorem dK_7 : decode method_2_code 7 = .ok (.istore_n 1, 1) := by decide +kernel
theorem dK_8 : decode method_2_code 8 = .ok (.iload_n 1, 1) := by decide +kernel
theorem dK_9 : decode method_2_code 9 = .ok (.bipush 26, 2) := by decide +kernel
theorem dK_11 : decode method_2_code 11 = .ok (.if_icmp .ge 9, 3) := by decide +kernel
theorem dK_14 : decode method_2_code 14 = .ok (.bipush 65, 2) := by decide +kernel
theorem dK_16 : decode method_2_code 16 = .ok (.iload_n 1, 1) := by decide +kernel
theorem dK_17 : decode method_2_code 17 = .ok (.iadd, 1) := by decide +kernel
theorem dK_18 : decode method_2_code 18 = .ok (.i2c, 1) := by decide +kernel
theorem dK_19 : decode method_2_code 19 = .ok (.ireturn, 1) := by decide +kernel
theorem dK_20 : decode method_2_code 20 = .ok (.iload_n 1, 1) := by decide +kernel
theorem dK_21 : decode method_2_code 21 = .ok (.bipush 52, 2) := by decide +kernel
theorem dK_23 : decode method_2_code 23 = .ok (.if_icmp .ge 12, 3) := by decide +kernel
theorem dK_26 : decode method_2_code 26 = .ok (.bipush 97, 2) := by decide +kernel
theorem dK_28 : decode method_2_code 28 = .ok (.iload_n 1, 1) := by decide +kernel
theorem dK_29 : decode method_2_code 29 = .ok (.bipush 26, 2) := by decide +kernel
theorem dK_31 : decode method_2_code 31 = .ok (.isub, 1) := by decide +kernel
theorem dK_32 : decode method_2_code 32 = .ok (.iadd, 1) := by decide +kernel
theorem dK_33 : decode method_2_code 33 = .ok (.i2c, 1) := by decide +kernel
theorem dK_34 : decode method_2_code 34 = .ok (.ireturn, 1) := by decide +kernel
theorem dK_35 : decode method_2_code 35 = .ok (.iload_n 1, 1) := by decide +kernel
theorem dK_36 : decode method_2_code 36 = .ok (.bipush 62, 2) := by decide +kernel
theorem dK_38 : decode method_2_code 38 = .ok (.if_icmp .ge 12, 3) := by decide +kernel
theorem dK_41 : decode method_2_code 41 = .ok (.bipush 48, 2) := by decide +kernel
theorem dK_43 : decode method_2_code 43 = .ok (.iload_n 1, 1) := by decide +kernel
theorem dK_44 : decode method_2_code 44 = .ok (.bipush 52, 2) := by decide +kernel
theorem dK_46 : decode method_2_code 46 = .ok (.isub, 1) := by decide +kernel
theorem dK_47 : decode method_2_code 47 = .ok (.iadd, 1) := by decide +kernel
theorem dK_48 : decode method_2_code 48 = .ok (.i2c, 1) := by decide +kernel
theorem dK_49 : decode method_2_code 49 = .ok (.ireturn, 1) := by decide +kernel
theorem dK_50 : decode method_2_code 50 = .ok (.iload_n 1, 1) := by decide +kernel
theorem dK_51 : decode method_2_code 51 = .ok (.bipush 62, 2) := by decide +kernel
theorem dK_53 : decode method_2_code 53 = .ok (.if_icmp .ne 6, 3) := by decide +kernel
theorem dK_56 : decode method_2_code 56 = .ok (.bipush 46, 2) := by decide +kernel
theorem dK_58 : decode method_2_code 58 = .ok (.ireturn, 1) := by decide +kernel
theorem dK_59 : decode method_2_code 59 = .ok (.iload_n 1, 1) := by decide +kernel
theorem dK_60 : decode method_2_code 60 = .ok (.bipush 63, 2) := by decide +kernel
theorem dK_62 : decode method_2_code 62 = .ok (.if_icmp .ne 6, 3) := by decide +kernel
theorem dK_65 : decode method_2_code 65 = .ok (.bipush 95, 2) := by decide +kernel
theorem dK_67 : decode method_2_code 67 = .ok (.ireturn, 1) := by decide +kernel
theorem dK_68 : decode method_2_code 68 = .ok (.bipush 45, 2) := by decide +kernel
theorem dK_70 : decode method_2_code 70 = .ok (.ireturn, 1) := by decide +kernel
theorem pnK : plainName "com/example/deduct/deduct/model/ItemIdEqualsPinLaw" = true := by first | (simp [plainName, overriddenIn]; done) | decide +kernel
theorem pdK : parseMethodDescriptor "(I)C" = some ⟨[.int], some .char⟩ := by decide +kernel
set_option maxRecDepth 65536 in
set_option maxHeartbeats 40000000 in
theorem rmK (l : Launch) (Z : State) (a0 : Array Value) (hw : ∀ d ∈ tables_1, d.before a0 Z = true) (ws : List Jvm.Cond) (px : Int32) (h0 : Heap) (n0 : Nat) (Z0 : n0 ≤ h0.size)  :
    MetFree l (⟨"com/example/deduct/deduct/model/ItemIdEqualsPinLaw", "pick", "(I)C"⟩ : MethodName) (head1 (Jvm.Cond.code (⟨"com/example/deduct/deduct/model/ItemIdEqualsPinLaw", "pick", "(I)C"⟩ : MethodName) method_2_code 2 (some .char) :: ws) ({ frames := 0, cells := 0, slots := 0, locals := 0 } : Room)) (fun aa U => aa = #[(.int px)] ∧ Z.Warmed39 U.vm ∧ U.heap = h0) (fun _ _ _ _ _ => True) (fun _ U o U' => ∃ v L, o = .returned v ∧ QK Z px h0 n0 v U'.heap L ∧ FrameEnd U o U' L ({ frames := 0, cells := 0, slots := 0, locals := 0 } : Room).cells ({ frames := 0, cells := 0, slots := 0, locals := 0 } : Room).slots) := by
  refine MetFree.of_bodySF (plainFor_of_name pnK) hisR ?_
  intro p e s m args below meth c s₁ Bd hml0 hP hK
  obtain ⟨rfl, hZ, hh⟩ := hP
  have hx := Bd.exec
  have hby := Bd.bytes
  have hlk : meth.locks = false := BodyLoose.notSynchronized Bd
  have hml : c.maxLocals = 2 := hml0
  have hown : s.vm.findClass "com/example/deduct/deduct/model/ItemIdEqualsPinLaw" = some m.cls := findClass_of_methodNamed Bd.named
  have hnm := (name_of_methodNamed Bd.named Bd.method).1
  have X0 : Stand p l e ({ frames := 0, cells := 0, slots := 0, locals := 0 } : Room) s m #[(.int px)] below meth c s₁ [] 0 0 := Stand.of_body Bd
  have e0 : s₁.heap = h0 := by rw [← hh, Bd.state]; rfl
  have N0 := Fr.nil n0
  have ef : entryFrame m #[(.int px)] 2 = mkF m 0 #[iv px, .unset] [] := by first | (simp [entryFrame, mkF, argsToLocals, Value.category, maxLocals]; done) | rfl
  show Way p.tables e below (KQ s (QK Z px h0 n0) ({ frames := 0, cells := 0, slots := 0, locals := 0 } : Room).cells ({ frames := 0, cells := 0, slots := 0, locals := 0 } : Room).slots) (s₁.setTop (entryFrame m #[(.int px)] 2))
  rw [ef]
  refine Way.by (fun _ k => XS.iloadN X0.here hx rfl (hb hby dK_0) rfl k) ?_
  show Way _ _ _ _ (s₁.setTop (mkF m 1 #[iv px, .unset] [(.int px)]))
  refine Way.by (Stand.ldcInt X0 hx hown (mvT hZ (tw hw 4 rfl)) rfl (hb hby dK_1)) ?_
  show Way _ _ _ _ (s₁.setTop (mkF m 3 #[iv px, .unset] [(.int 2147483647), (.int px)]))
  refine Way.by (fun _ k => XS.iand X0.here hx rfl (hb hby dK_3) rfl k) ?_
  show Way _ _ _ _ (s₁.setTop (mkF m 4 #[iv px, .unset] [(.int (px &&& (2147483647 : Int32)))]))
  refine Way.by (fun _ k => XS.bipush X0.here hx rfl (hb hby dK_4) k) ?_
  show Way _ _ _ _ (s₁.setTop (mkF m 6 #[iv px, .unset] [(.int 65), (.int (px &&& (2147483647 : Int32)))]))
  refine Way.by (fun _ k => iremM X0 hx rfl (hb hby dK_6) rfl (by decide) k) ?_
  show Way _ _ _ _ (s₁.setTop (mkF m 7 #[iv px, .unset] [(.int ((px &&& (2147483647 : Int32)) % (65 : Int32)))]))
  refine Way.by (fun _ k => XS.istoreN X0.here hx rfl (hb hby dK_7) rfl (l' := #[iv px, iv ((px &&& (2147483647 : Int32)) % (65 : Int32))]) rfl k) ?_
  show Way _ _ _ _ (s₁.setTop (mkF m 8 #[iv px, iv ((px &&& (2147483647 : Int32)) % (65 : Int32))] []))
  obtain ⟨k, qk⟩ : ∃ z, z = (px &&& (2147483647 : Int32)) % (65 : Int32) := ⟨_, rfl⟩
  rw [← qk]
  have hk : 0 ≤ k.toInt ∧ k.toInt < 65 := by rw [qk]; exact remB px 65 65 rfl (by decide)
  show Way _ _ _ _ (s₁.setTop (mkF m 8 #[iv px, iv k] []))
  refine Way.by (fun _ k => XS.iloadN X0.here hx rfl (hb hby dK_8) rfl k) ?_
  show Way _ _ _ _ (s₁.setTop (mkF m 9 #[iv px, iv k] [(.int k)]))
  refine Way.by (fun _ k => XS.bipush X0.here hx rfl (hb hby dK_9) k) ?_
  show Way _ _ _ _ (s₁.setTop (mkF m 11 #[iv px, iv k] [(.int 26), (.int k)]))
  by_cases hq11 : k < (26 : Int32)
  · skip
    refine Way.by (fun _ k => XS.icmpNo X0.here hx rfl (hb hby dK_11) rfl (tlt hq11).2.1 k) ?_
    show Way _ _ _ _ (s₁.setTop (mkF m 14 #[iv px, iv k] []))
    refine Way.by (fun _ k => XS.bipush X0.here hx rfl (hb hby dK_14) k) ?_
    show Way _ _ _ _ (s₁.setTop (mkF m 16 #[iv px, iv k] [(.int 65)]))
    refine Way.by (fun _ k => XS.iloadN X0.here hx rfl (hb hby dK_16) rfl k) ?_
    show Way _ _ _ _ (s₁.setTop (mkF m 17 #[iv px, iv k] [(.int k), (.int 65)]))
    refine Way.by (fun _ k => XS.iadd X0.here hx rfl (hb hby dK_17) rfl k) ?_
    show Way _ _ _ _ (s₁.setTop (mkF m 18 #[iv px, iv k] [(.int ((65 : Int32) + k))]))
    refine Way.by (fun _ k => XT.i2c X0.here hx rfl (hb hby dK_18) rfl k) ?_
    show Way _ _ _ _ (s₁.setTop (mkF m 19 #[iv px, iv k] [(.int ((65 : Int32) + k).toUInt32.toUInt16.toUInt32.toInt32)]))
    refine Way.ret (v := (some (.int (nar .char ((65 : Int32) + k).toUInt32.toUInt16.toUInt32.toInt32)))) X0 hlk (fun h => by rw [Bd.returns] at h; cases h) (fun fs hr => retN X0 hx (t := .char) Bd.returns (by simp) (hb hby dK_19) hr) ?_ (by decide) (by decide)
    show QK Z px h0 n0 _ s₁.heap _
    rw [e0]
    have e65 : (65 : Int32).toInt = 65 := by decide
    have e97 : (97 : Int32).toInt = 97 := by decide
    have e48 : (48 : Int32).toInt = 48 := by decide
    have e26 : (26 : Int32).toInt = 26 := by decide
    have e52 : (52 : Int32).toInt = 52 := by decide
    have e62 : (62 : Int32).toInt = 62 := by decide
    simp only [own_ltI] at hq11
    have c1 := c_iadd (65 : Int32) k
    have r1 := rng32 ((65 : Int32) + k)
    have hy : 0 ≤ ((65 : Int32) + k).toInt ∧ ((65 : Int32) + k).toInt < 65536 := by omega
    exact ⟨((65 : Int32) + k), by rw [own_nn hy], N0, rfl, by unfold own_ok; omega⟩
  · skip
    refine Way.by (fun _ k => XS.icmpYes X0.here hx rfl (pc0 := 11) (pc' := 20) rfl (hb hby dK_11) rfl (flt hq11).2.1 (by decide) (by decide) k) ?_
    show Way _ _ _ _ (s₁.setTop (mkF m 20 #[iv px, iv k] []))
    refine Way.by (fun _ k => XS.iloadN X0.here hx rfl (hb hby dK_20) rfl k) ?_
    show Way _ _ _ _ (s₁.setTop (mkF m 21 #[iv px, iv k] [(.int k)]))
    refine Way.by (fun _ k => XS.bipush X0.here hx rfl (hb hby dK_21) k) ?_
    show Way _ _ _ _ (s₁.setTop (mkF m 23 #[iv px, iv k] [(.int 52), (.int k)]))
    by_cases hq23 : k < (52 : Int32)
    · skip
      refine Way.by (fun _ k => XS.icmpNo X0.here hx rfl (hb hby dK_23) rfl (tlt hq23).2.1 k) ?_
      show Way _ _ _ _ (s₁.setTop (mkF m 26 #[iv px, iv k] []))
      refine Way.by (fun _ k => XS.bipush X0.here hx rfl (hb hby dK_26) k) ?_
      show Way _ _ _ _ (s₁.setTop (mkF m 28 #[iv px, iv k] [(.int 97)]))
      refine Way.by (fun _ k => XS.iloadN X0.here hx rfl (hb hby dK_28) rfl k) ?_
      show Way _ _ _ _ (s₁.setTop (mkF m 29 #[iv px, iv k] [(.int k), (.int 97)]))
      refine Way.by (fun _ k => XS.bipush X0.here hx rfl (hb hby dK_29) k) ?_
      show Way _ _ _ _ (s₁.setTop (mkF m 31 #[iv px, iv k] [(.int 26), (.int k), (.int 97)]))
      refine Way.by (fun _ k => XS.isub X0.here hx rfl (hb hby dK_31) rfl k) ?_
      show Way _ _ _ _ (s₁.setTop (mkF m 32 #[iv px, iv k] [(.int (k - (26 : Int32))), (.int 97)]))
      refine Way.by (fun _ k => XS.iadd X0.here hx rfl (hb hby dK_32) rfl k) ?_
      show Way _ _ _ _ (s₁.setTop (mkF m 33 #[iv px, iv k] [(.int ((97 : Int32) + (k - (26 : Int32))))]))
      refine Way.by (fun _ k => XT.i2c X0.here hx rfl (hb hby dK_33) rfl k) ?_
      show Way _ _ _ _ (s₁.setTop (mkF m 34 #[iv px, iv k] [(.int ((97 : Int32) + (k - (26 : Int32))).toUInt32.toUInt16.toUInt32.toInt32)]))
      refine Way.ret (v := (some (.int (nar .char ((97 : Int32) + (k - (26 : Int32))).toUInt32.toUInt16.toUInt32.toInt32)))) X0 hlk (fun h => by rw [Bd.returns] at h; cases h) (fun fs hr => retN X0 hx (t := .char) Bd.returns (by simp) (hb hby dK_34) hr) ?_ (by decide) (by decide)
      show QK Z px h0 n0 _ s₁.heap _
      rw [e0]
      have e65 : (65 : Int32).toInt = 65 := by decide
      have e97 : (97 : Int32).toInt = 97 := by decide
      have e48 : (48 : Int32).toInt = 48 := by decide
      have e26 : (26 : Int32).toInt = 26 := by decide
      have e52 : (52 : Int32).toInt = 52 := by decide
      have e62 : (62 : Int32).toInt = 62 := by decide
      simp only [own_ltI] at hq11 hq23
      have c0 := c_isub k (26 : Int32)
      have c1 := c_iadd (97 : Int32) (k - (26 : Int32))
      have r0 := rng32 (k - (26 : Int32))
      have r1 := rng32 ((97 : Int32) + (k - (26 : Int32)))
      have hy : 0 ≤ ((97 : Int32) + (k - (26 : Int32))).toInt ∧ ((97 : Int32) + (k - (26 : Int32))).toInt < 65536 := by omega
      exact ⟨((97 : Int32) + (k - (26 : Int32))), by rw [own_nn hy], N0, rfl, by unfold own_ok; omega⟩
    · skip
      refine Way.by (fun _ k => XS.icmpYes X0.here hx rfl (pc0 := 23) (pc' := 35) rfl (hb hby dK_23) rfl (flt hq23).2.1 (by decide) (by decide) k) ?_
      show Way _ _ _ _ (s₁.setTop (mkF m 35 #[iv px, iv k] []))
      refine Way.by (fun _ k => XS.iloadN X0.here hx rfl (hb hby dK_35) rfl k) ?_
      show Way _ _ _ _ (s₁.setTop (mkF m 36 #[iv px, iv k] [(.int k)]))
      refine Way.by (fun _ k => XS.bipush X0.here hx rfl (hb hby dK_36) k) ?_
      show Way _ _ _ _ (s₁.setTop (mkF m 38 #[iv px, iv k] [(.int 62), (.int k)]))
      by_cases hq38 : k < (62 : Int32)
      · skip
        refine Way.by (fun _ k => XS.icmpNo X0.here hx rfl (hb hby dK_38) rfl (tlt hq38).2.1 k) ?_
        show Way _ _ _ _ (s₁.setTop (mkF m 41 #[iv px, iv k] []))
        refine Way.by (fun _ k => XS.bipush X0.here hx rfl (hb hby dK_41) k) ?_
        show Way _ _ _ _ (s₁.setTop (mkF m 43 #[iv px, iv k] [(.int 48)]))
        refine Way.by (fun _ k => XS.iloadN X0.here hx rfl (hb hby dK_43) rfl k) ?_
        show Way _ _ _ _ (s₁.setTop (mkF m 44 #[iv px, iv k] [(.int k), (.int 48)]))
        refine Way.by (fun _ k => XS.bipush X0.here hx rfl (hb hby dK_44) k) ?_
        show Way _ _ _ _ (s₁.setTop (mkF m 46 #[iv px, iv k] [(.int 52), (.int k), (.int 48)]))
        refine Way.by (fun _ k => XS.isub X0.here hx rfl (hb hby dK_46) rfl k) ?_
        show Way _ _ _ _ (s₁.setTop (mkF m 47 #[iv px, iv k] [(.int (k - (52 : Int32))), (.int 48)]))
        refine Way.by (fun _ k => XS.iadd X0.here hx rfl (hb hby dK_47) rfl k) ?_
        show Way _ _ _ _ (s₁.setTop (mkF m 48 #[iv px, iv k] [(.int ((48 : Int32) + (k - (52 : Int32))))]))
        refine Way.by (fun _ k => XT.i2c X0.here hx rfl (hb hby dK_48) rfl k) ?_
        show Way _ _ _ _ (s₁.setTop (mkF m 49 #[iv px, iv k] [(.int ((48 : Int32) + (k - (52 : Int32))).toUInt32.toUInt16.toUInt32.toInt32)]))
        refine Way.ret (v := (some (.int (nar .char ((48 : Int32) + (k - (52 : Int32))).toUInt32.toUInt16.toUInt32.toInt32)))) X0 hlk (fun h => by rw [Bd.returns] at h; cases h) (fun fs hr => retN X0 hx (t := .char) Bd.returns (by simp) (hb hby dK_49) hr) ?_ (by decide) (by decide)
        show QK Z px h0 n0 _ s₁.heap _
        rw [e0]
        have e65 : (65 : Int32).toInt = 65 := by decide
        have e97 : (97 : Int32).toInt = 97 := by decide
        have e48 : (48 : Int32).toInt = 48 := by decide
        have e26 : (26 : Int32).toInt = 26 := by decide
        have e52 : (52 : Int32).toInt = 52 := by decide
        have e62 : (62 : Int32).toInt = 62 := by decide
        simp only [own_ltI] at hq11 hq23 hq38
        have c0 := c_isub k (52 : Int32)
        have c1 := c_iadd (48 : Int32) (k - (52 : Int32))
        have r0 := rng32 (k - (52 : Int32))
        have r1 := rng32 ((48 : Int32) + (k - (52 : Int32)))
        have hy : 0 ≤ ((48 : Int32) + (k - (52 : Int32))).toInt ∧ ((48 : Int32) + (k - (52 : Int32))).toInt < 65536 := by omega
        exact ⟨((48 : Int32) + (k - (52 : Int32))), by rw [own_nn hy], N0, rfl, by unfold own_ok; omega⟩
      · skip
        refine Way.by (fun _ k => XS.icmpYes X0.here hx rfl (pc0 := 38) (pc' := 50) rfl (hb hby dK_38) rfl (flt hq38).2.1 (by decide) (by decide) k) ?_
        show Way _ _ _ _ (s₁.setTop (mkF m 50 #[iv px, iv k] []))
        refine Way.by (fun _ k => XS.iloadN X0.here hx rfl (hb hby dK_50) rfl k) ?_
        show Way _ _ _ _ (s₁.setTop (mkF m 51 #[iv px, iv k] [(.int k)]))
        refine Way.by (fun _ k => XS.bipush X0.here hx rfl (hb hby dK_51) k) ?_
        show Way _ _ _ _ (s₁.setTop (mkF m 53 #[iv px, iv k] [(.int 62), (.int k)]))
        by_cases hq53 : k = (62 : Int32)
        · skip
          refine Way.by (fun _ k => XS.icmpNo X0.here hx rfl (hb hby dK_53) rfl (teq hq53).2 k) ?_
          show Way _ _ _ _ (s₁.setTop (mkF m 56 #[iv px, iv k] []))
          refine Way.by (fun _ k => XS.bipush X0.here hx rfl (hb hby dK_56) k) ?_
          show Way _ _ _ _ (s₁.setTop (mkF m 58 #[iv px, iv k] [(.int 46)]))
          refine Way.ret (v := (some (.int (nar .char (46 : Int32))))) X0 hlk (fun h => by rw [Bd.returns] at h; cases h) (fun fs hr => retN X0 hx (t := .char) Bd.returns (by simp) (hb hby dK_58) hr) ?_ (by decide) (by decide)
          show QK Z px h0 n0 _ s₁.heap _
          rw [e0]
          exact ⟨(46 : Int32), rfl, N0, rfl, by unfold own_ok; decide⟩
        · skip
          refine Way.by (fun _ k => XS.icmpYes X0.here hx rfl (pc0 := 53) (pc' := 59) rfl (hb hby dK_53) rfl (feq hq53).2 (by decide) (by decide) k) ?_
          show Way _ _ _ _ (s₁.setTop (mkF m 59 #[iv px, iv k] []))
          refine Way.by (fun _ k => XS.iloadN X0.here hx rfl (hb hby dK_59) rfl k) ?_
          show Way _ _ _ _ (s₁.setTop (mkF m 60 #[iv px, iv k] [(.int k)]))
          refine Way.by (fun _ k => XS.bipush X0.here hx rfl (hb hby dK_60) k) ?_
          show Way _ _ _ _ (s₁.setTop (mkF m 62 #[iv px, iv k] [(.int 63), (.int k)]))
          by_cases hq62 : k = (63 : Int32)
          · skip
            refine Way.by (fun _ k => XS.icmpNo X0.here hx rfl (hb hby dK_62) rfl (teq hq62).2 k) ?_
            show Way _ _ _ _ (s₁.setTop (mkF m 65 #[iv px, iv k] []))
            refine Way.by (fun _ k => XS.bipush X0.here hx rfl (hb hby dK_65) k) ?_
            show Way _ _ _ _ (s₁.setTop (mkF m 67 #[iv px, iv k] [(.int 95)]))
            refine Way.ret (v := (some (.int (nar .char (95 : Int32))))) X0 hlk (fun h => by rw [Bd.returns] at h; cases h) (fun fs hr => retN X0 hx (t := .char) Bd.returns (by simp) (hb hby dK_67) hr) ?_ (by decide) (by decide)
            show QK Z px h0 n0 _ s₁.heap _
            rw [e0]
            exact ⟨(95 : Int32), rfl, N0, rfl, by unfold own_ok; decide⟩
          · skip
            refine Way.by (fun _ k => XS.icmpYes X0.here hx rfl (pc0 := 62) (pc' := 68) rfl (hb hby dK_62) rfl (feq hq62).2 (by decide) (by decide) k) ?_
            show Way _ _ _ _ (s₁.setTop (mkF m 68 #[iv px, iv k] []))
            refine Way.by (fun _ k => XS.bipush X0.here hx rfl (hb hby dK_68) k) ?_
            show Way _ _ _ _ (s₁.setTop (mkF m 70 #[iv px, iv k] [(.int 45)]))
            refine Way.ret (v := (some (.int (nar .char (45 : Int32))))) X0 hlk (fun h => by rw [Bd.returns] at h; cases h) (fun fs hr => retN X0 hx (t := .char) Bd.returns (by simp) (hb hby dK_70) hr) ?_ (by decide) (by decide)
            show QK Z px h0 n0 _ s₁.heap _
            rw [e0]
            exact ⟨(45 : Int32), rfl, N0, rfl, by unfold own_ok; decide⟩
def QR (Z : State) (pa : Addr) (pb : Addr) (h0 : Heap) (n0 : Nat) (v : Option Value) (h : Heap) (L : List Loc) : Prop := v = some (.ref pa) ∧ Fr n0 L ∧ h = h0
theorem dR_0 : decode jdk_31_method_11_code 0 = .ok (.aload_n 0, 1) := by decide +kernel
theorem dR_1 : decode jdk_31_method_11_code 1 = .ok (.ifnonnull 12, 3) := by decide +kernel
theorem dR_13 : decode jdk_31_method_11_code 13 = .ok (.aload_n 0, 1) := by decide +kernel
theorem dR_14 : decode jdk_31_method_11_code 14 = .ok (.areturn, 1) := by decide +kernel
theorem pnR : plainName "java/util/Objects" = true := by first | (simp [plainName, overriddenIn]; done) | decide +kernel
theorem pdR : parseMethodDescriptor "(Ljava/lang/Object;Ljava/lang/String;)Ljava/lang/Object;" = some ⟨[(.object "java/lang/Object"), (.object "java/lang/String")], some (.object "java/lang/Object")⟩ := by decide +kernel
set_option maxRecDepth 65536 in
set_option maxHeartbeats 40000000 in
theorem rmR (l : Launch) (Z : State) (a0 : Array Value) (hw : ∀ d ∈ tables_1, d.before a0 Z = true) (ws : List Jvm.Cond) (pa : Addr) (pb : Addr) (h0 : Heap) (n0 : Nat) (Z0 : n0 ≤ h0.size)  :
    MetFree l (⟨"java/util/Objects", "requireNonNull", "(Ljava/lang/Object;Ljava/lang/String;)Ljava/lang/Object;"⟩ : MethodName) (head1 (Jvm.Cond.code (⟨"java/util/Objects", "requireNonNull", "(Ljava/lang/Object;Ljava/lang/String;)Ljava/lang/Object;"⟩ : MethodName) jdk_31_method_11_code 2 (some (.object "java/lang/Object")) :: ws) ({ frames := 0, cells := 0, slots := 0, locals := 0 } : Room)) (fun aa U => aa = #[(.ref pa), (.ref pb)] ∧ Z.Warmed39 U.vm ∧ U.heap = h0) (fun _ _ _ _ _ => True) (fun _ U o U' => ∃ v L, o = .returned v ∧ QR Z pa pb h0 n0 v U'.heap L ∧ FrameEnd U o U' L ({ frames := 0, cells := 0, slots := 0, locals := 0 } : Room).cells ({ frames := 0, cells := 0, slots := 0, locals := 0 } : Room).slots) := by
  refine MetFree.of_bodySF (plainFor_of_name pnR) hisR ?_
  intro p e s m args below meth c s₁ Bd hml0 hP hK
  obtain ⟨rfl, hZ, hh⟩ := hP
  have hx := Bd.exec
  have hby := Bd.bytes
  have hlk : meth.locks = false := BodyLoose.notSynchronized Bd
  have hml : c.maxLocals = 2 := hml0
  have hown : s.vm.findClass "java/util/Objects" = some m.cls := findClass_of_methodNamed Bd.named
  have hnm := (name_of_methodNamed Bd.named Bd.method).1
  have X0 : Stand p l e ({ frames := 0, cells := 0, slots := 0, locals := 0 } : Room) s m #[(.ref pa), (.ref pb)] below meth c s₁ [] 0 0 := Stand.of_body Bd
  have e0 : s₁.heap = h0 := by rw [← hh, Bd.state]; rfl
  have N0 := Fr.nil n0
  have ef : entryFrame m #[(.ref pa), (.ref pb)] 2 = mkF m 0 #[rv pa, rv pb] [] := by first | (simp [entryFrame, mkF, argsToLocals, Value.category, maxLocals]; done) | rfl
  show Way p.tables e below (KQ s (QR Z pa pb h0 n0) ({ frames := 0, cells := 0, slots := 0, locals := 0 } : Room).cells ({ frames := 0, cells := 0, slots := 0, locals := 0 } : Room).slots) (s₁.setTop (entryFrame m #[(.ref pa), (.ref pb)] 2))
  rw [ef]
  refine Way.by (fun _ k => XS.aloadN X0.here hx rfl (hb hby dR_0) rfl rfl k) ?_
  show Way _ _ _ _ (s₁.setTop (mkF m 1 #[rv pa, rv pb] [(.ref pa)]))
  refine Way.by (fun _ k => XT.ifnonnullYes X0.here hx rfl (pc0 := 1) (pc' := 13) rfl (hb hby dR_1) rfl (by decide) (by decide) k) ?_
  show Way _ _ _ _ (s₁.setTop (mkF m 13 #[rv pa, rv pb] []))
  refine Way.by (fun _ k => XS.aloadN X0.here hx rfl (hb hby dR_13) rfl rfl k) ?_
  show Way _ _ _ _ (s₁.setTop (mkF m 14 #[rv pa, rv pb] [(.ref pa)]))
  refine Way.ret (v := (some (.ref pa))) X0 hlk (fun h => by rw [Bd.returns] at h; cases h) (fun fs hr => retOut X0 hx Bd.returns rfl (Or.inr (Or.inr (Or.inr (Or.inr ⟨rfl, rfl, rfl⟩)))) (hb hby dR_14) hr) ?_ (by decide) (by decide)
  show QR Z pa pb h0 n0 _ s₁.heap _
  rw [e0]
  exact ⟨rfl, N0, rfl⟩
def QIL (Z : State) (pa : Addr) (h0 : Heap) (n0 : Nat) (v : Option Value) (h : Heap) (L : List Loc) : Prop := v = some (.int 1) ∧ Fr n0 L ∧ h = h0
theorem dIL_0 : decode jdk_42_method_154_code 0 = .ok (.getstatic 38, 3) := by decide +kernel
theorem dIL_3 : decode jdk_42_method_154_code 3 = .ok (.ifCond .eq 14, 3) := by decide +kernel
theorem dIL_6 : decode jdk_42_method_154_code 6 = .ok (.aload_n 0, 1) := by decide +kernel
theorem dIL_7 : decode jdk_42_method_154_code 7 = .ok (.getfield 15, 3) := by decide +kernel
theorem dIL_10 : decode jdk_42_method_154_code 10 = .ok (.ifCond .ne 7, 3) := by decide +kernel
theorem dIL_13 : decode jdk_42_method_154_code 13 = .ok (.iconst 1, 1) := by decide +kernel
theorem dIL_14 : decode jdk_42_method_154_code 14 = .ok (.goto 4, 3) := by decide +kernel
theorem dIL_18 : decode jdk_42_method_154_code 18 = .ok (.ireturn, 1) := by decide +kernel
theorem pnIL : plainName "java/lang/String" = true := by first | (simp [plainName, overriddenIn]; done) | decide +kernel
theorem pdIL : parseMethodDescriptor "()Z" = some ⟨[], some .boolean⟩ := by decide +kernel
set_option maxRecDepth 65536 in
set_option maxHeartbeats 40000000 in
theorem rmIL (l : Launch) (Z : State) (a0 : Array Value) (hw : ∀ d ∈ tables_1, d.before a0 Z = true) (ws : List Jvm.Cond) (pa : Addr) (h0 : Heap) (n0 : Nat) (Z0 : n0 ≤ h0.size) (H0 : Fld Z h0 pa "java/lang/String" "coder" "B" (.int 0)) (O0 : Old Z n0 h0) (SV : own_Env Z) :
    MetFree l (⟨"java/lang/String", "isLatin1", "()Z"⟩ : MethodName) (head1 (Jvm.Cond.code (⟨"java/lang/String", "isLatin1", "()Z"⟩ : MethodName) jdk_42_method_154_code 1 (some .boolean) :: ws) ({ frames := 0, cells := 0, slots := 0, locals := 0 } : Room)) (fun aa U => aa = #[(.ref pa)] ∧ Z.Warmed39 U.vm ∧ U.heap = h0) (fun _ _ _ _ _ => True) (fun _ U o U' => ∃ v L, o = .returned v ∧ QIL Z pa h0 n0 v U'.heap L ∧ FrameEnd U o U' L ({ frames := 0, cells := 0, slots := 0, locals := 0 } : Room).cells ({ frames := 0, cells := 0, slots := 0, locals := 0 } : Room).slots) := by
  refine MetFree.of_bodySF (plainFor_of_name pnIL) hisR ?_
  intro p e s m args below meth c s₁ Bd hml0 hP hK
  obtain ⟨rfl, hZ, hh⟩ := hP
  have hx := Bd.exec
  have hby := Bd.bytes
  have hlk : meth.locks = false := BodyLoose.notSynchronized Bd
  have hml : c.maxLocals = 1 := hml0
  have hown : s.vm.findClass "java/lang/String" = some m.cls := findClass_of_methodNamed Bd.named
  have hnm := (name_of_methodNamed Bd.named Bd.method).1
  have X0 : Stand p l e ({ frames := 0, cells := 0, slots := 0, locals := 0 } : Room) s m #[(.ref pa)] below meth c s₁ [] 0 0 := Stand.of_body Bd
  have e0 : s₁.heap = h0 := by rw [← hh, Bd.state]; rfl
  have N0 := Fr.nil n0
  have ef : entryFrame m #[(.ref pa)] 1 = mkF m 0 #[rv pa] [] := by first | (simp [entryFrame, mkF, argsToLocals, Value.category, maxLocals]; done) | rfl
  show Way p.tables e below (KQ s (QIL Z pa h0 n0) ({ frames := 0, cells := 0, slots := 0, locals := 0 } : Room).cells ({ frames := 0, cells := 0, slots := 0, locals := 0 } : Room).slots) (s₁.setTop (entryFrame m #[(.ref pa)] 1))
  rw [ef]
  obtain ⟨⟨G1, SG1, hG1⟩, G3, SG3, rG3⟩ := id SV
  obtain ⟨T1, X2, e3, st4⟩ := getS X0 hx hZ hown (host := "") (tw hw 22 rfl) Via.refl e0 (Sta.ext O0.2 SG1) (g := (mkF m 0 #[rv pa] [])) rfl (hb hby dIL_0)
  refine Way.by st4 ?_
  show Way _ _ _ _ (T1.setTop (mkF m 3 #[rv pa] [(.int G1)]))
  have b5 : ¬ G1 = (0 : Int32) := hG1
  refine Way.by (fun _ k => XS.ifNo X2.here hx rfl (hb hby dIL_3) rfl ((if0 .eq _).trans (feq b5).1) k) ?_
  show Way _ _ _ _ (T1.setTop (mkF m 6 #[rv pa] []))
  refine Way.by (fun _ k => XS.aloadN X2.here hx rfl (hb hby dIL_6) rfl rfl k) ?_
  show Way _ _ _ _ (T1.setTop (mkF m 7 #[rv pa] [(.ref pa)]))
  obtain ⟨T6, X7, e8, st9⟩ := getF X2 hx hZ hown (host := "") (Or.inl (tw hw 34 rfl)) Via.refl e3 H0 (g := (mkF m 7 #[rv pa] [(.ref pa)])) rfl rfl (hb hby dIL_7)
  refine Way.by st9 ?_
  show Way _ _ _ _ (T6.setTop (mkF m 10 #[rv pa] [(.int 0)]))
  have b10 : (0 : Int32) = (0 : Int32) := by decide
  refine Way.by (fun _ k => XS.ifNo X7.here hx rfl (hb hby dIL_10) rfl ((if0 .ne _).trans (teq b10).2) k) ?_
  show Way _ _ _ _ (T6.setTop (mkF m 13 #[rv pa] []))
  refine Way.by (fun _ k => XS.iconst X7.here hx rfl (hb hby dIL_13) k) ?_
  show Way _ _ _ _ (T6.setTop (mkF m 14 #[rv pa] [(.int 1)]))
  refine Way.by (fun _ k => XS.goto X7.here hx rfl (pc0 := 14) (pc' := 18) rfl (hb hby dIL_14) (by decide) (by decide) k) ?_
  show Way _ _ _ _ (T6.setTop (mkF m 18 #[rv pa] [(.int 1)]))
  refine Way.ret (v := (some (.int (nar .boolean (1 : Int32))))) X7 hlk (fun h => by rw [Bd.returns] at h; cases h) (fun fs hr => retN X7 hx (t := .boolean) Bd.returns (by simp) (hb hby dIL_18) hr) ?_ (by decide) (by decide)
  show QIL Z pa h0 n0 _ T6.heap _
  rw [e8]
  exact ⟨rfl, N0, rfl⟩
def QMX (Z : State) (px : Int32) (py : Int32) (pr : Int32) (h0 : Heap) (n0 : Nat) (v : Option Value) (h : Heap) (L : List Loc) : Prop := v = some (.int pr) ∧ Fr n0 L ∧ h = h0
theorem dMX_0 : decode jdk_29_method_65_code 0 = .ok (.iload_n 0, 1) := by decide +kernel
theorem dMX_1 : decode jdk_29_method_65_code 1 = .ok (.iload_n 1, 1) := by decide +kernel
theorem dMX_2 : decode jdk_29_method_65_code 2 = .ok (.if_icmp .lt 7, 3) := by decide +kernel
theorem dMX_5 : decode jdk_29_method_65_code 5 = .ok (.iload_n 0, 1) := by decide +kernel
theorem dMX_6 : decode jdk_29_method_65_code 6 = .ok (.goto 4, 3) := by decide +kernel
theorem dMX_9 : decode jdk_29_method_65_code 9 = .ok (.iload_n 1, 1) := by decide +kernel
theorem dMX_10 : decode jdk_29_method_65_code 10 = .ok (.ireturn, 1) := by decide +kernel
theorem pnMX : plainFor (⟨"java/lang/Math", "max", "(II)I"⟩ : MethodName) = true := by decide +kernel
theorem pdMX : parseMethodDescriptor "(II)I" = some ⟨[.int, .int], some .int⟩ := by decide +kernel
set_option maxRecDepth 65536 in
set_option maxHeartbeats 40000000 in
theorem rmMX (l : Launch) (Z : State) (a0 : Array Value) (hw : ∀ d ∈ tables_1, d.before a0 Z = true) (ws : List Jvm.Cond) (px : Int32) (py : Int32) (pr : Int32) (h0 : Heap) (n0 : Nat) (Z0 : n0 ≤ h0.size) (hr : pr = if px < py then py else px) :
    MetFree l (⟨"java/lang/Math", "max", "(II)I"⟩ : MethodName) (head1 (Jvm.Cond.code (⟨"java/lang/Math", "max", "(II)I"⟩ : MethodName) jdk_29_method_65_code 2 (some .int) :: ws) ({ frames := 0, cells := 0, slots := 0, locals := 0 } : Room)) (fun aa U => aa = #[(.int px), (.int py)] ∧ Z.Warmed39 U.vm ∧ U.heap = h0) (fun _ _ _ _ _ => True) (fun _ U o U' => ∃ v L, o = .returned v ∧ QMX Z px py pr h0 n0 v U'.heap L ∧ FrameEnd U o U' L ({ frames := 0, cells := 0, slots := 0, locals := 0 } : Room).cells ({ frames := 0, cells := 0, slots := 0, locals := 0 } : Room).slots) := by
  refine MetFree.of_bodySF pnMX hisR ?_
  intro p e s m args below meth c s₁ Bd hml0 hP hK
  obtain ⟨rfl, hZ, hh⟩ := hP
  have hx := Bd.exec
  have hby := Bd.bytes
  have hlk : meth.locks = false := BodyLoose.notSynchronized Bd
  have hml : c.maxLocals = 2 := hml0
  have hown : s.vm.findClass "java/lang/Math" = some m.cls := findClass_of_methodNamed Bd.named
  have hnm := (name_of_methodNamed Bd.named Bd.method).1
  have X0 : Stand p l e ({ frames := 0, cells := 0, slots := 0, locals := 0 } : Room) s m #[(.int px), (.int py)] below meth c s₁ [] 0 0 := Stand.of_body Bd
  have e0 : s₁.heap = h0 := by rw [← hh, Bd.state]; rfl
  have N0 := Fr.nil n0
  have ef : entryFrame m #[(.int px), (.int py)] 2 = mkF m 0 #[iv px, iv py] [] := by first | (simp [entryFrame, mkF, argsToLocals, Value.category, maxLocals]; done) | rfl
  show Way p.tables e below (KQ s (QMX Z px py pr h0 n0) ({ frames := 0, cells := 0, slots := 0, locals := 0 } : Room).cells ({ frames := 0, cells := 0, slots := 0, locals := 0 } : Room).slots) (s₁.setTop (entryFrame m #[(.int px), (.int py)] 2))
  rw [ef]
  refine Way.by (fun _ k => XS.iloadN X0.here hx rfl (hb hby dMX_0) rfl k) ?_
  show Way _ _ _ _ (s₁.setTop (mkF m 1 #[iv px, iv py] [(.int px)]))
  refine Way.by (fun _ k => XS.iloadN X0.here hx rfl (hb hby dMX_1) rfl k) ?_
  show Way _ _ _ _ (s₁.setTop (mkF m 2 #[iv px, iv py] [(.int py), (.int px)]))
  by_cases hq : px < py
  · skip
    refine Way.by (fun _ k => XS.icmpYes X0.here hx rfl (pc0 := 2) (pc' := 9) rfl (hb hby dMX_2) rfl (tlt hq).1 (by decide) (by decide) k) ?_
    show Way _ _ _ _ (s₁.setTop (mkF m 9 #[iv px, iv py] []))
    refine Way.by (fun _ k => XS.iloadN X0.here hx rfl (hb hby dMX_9) rfl k) ?_
    show Way _ _ _ _ (s₁.setTop (mkF m 10 #[iv px, iv py] [(.int py)]))
    refine Way.ret (v := (some (.int py))) X0 hlk (fun h => by rw [Bd.returns] at h; cases h) (fun fs hr => retI X0 hx Bd.returns (hb hby dMX_10) hr) ?_ (by decide) (by decide)
    show QMX Z px py pr h0 n0 _ s₁.heap _
    rw [e0]
    exact ⟨by rw [hr]; simp [hq], N0, rfl⟩
  · skip
    refine Way.by (fun _ k => XS.icmpNo X0.here hx rfl (hb hby dMX_2) rfl (flt hq).1 k) ?_
    show Way _ _ _ _ (s₁.setTop (mkF m 5 #[iv px, iv py] []))
    refine Way.by (fun _ k => XS.iloadN X0.here hx rfl (hb hby dMX_5) rfl k) ?_
    show Way _ _ _ _ (s₁.setTop (mkF m 6 #[iv px, iv py] [(.int px)]))
    refine Way.by (fun _ k => XS.goto X0.here hx rfl (pc0 := 6) (pc' := 10) rfl (hb hby dMX_6) (by decide) (by decide) k) ?_
    show Way _ _ _ _ (s₁.setTop (mkF m 10 #[iv px, iv py] [(.int px)]))
    refine Way.ret (v := (some (.int px))) X0 hlk (fun h => by rw [Bd.returns] at h; cases h) (fun fs hr => retI X0 hx Bd.returns (hb hby dMX_10) hr) ?_ (by decide) (by decide)
    show QMX Z px py pr h0 n0 _ s₁.heap _
    rw [e0]
    exact ⟨by rw [hr]; simp [hq], N0, rfl⟩
def QMN (Z : State) (px : Int32) (py : Int32) (pr : Int32) (h0 : Heap) (n0 : Nat) (v : Option Value) (h : Heap) (L : List Loc) : Prop := v = some (.int pr) ∧ Fr n0 L ∧ h = h0
theorem dMN_0 : decode jdk_29_method_69_code 0 = .ok (.iload_n 0, 1) := by decide +kernel
theorem dMN_1 : decode jdk_29_method_69_code 1 = .ok (.iload_n 1, 1) := by decide +kernel
theorem dMN_2 : decode jdk_29_method_69_code 2 = .ok (.if_icmp .gt 7, 3) := by decide +kernel
theorem dMN_5 : decode jdk_29_method_69_code 5 = .ok (.iload_n 0, 1) := by decide +kernel
theorem dMN_6 : decode jdk_29_method_69_code 6 = .ok (.goto 4, 3) := by decide +kernel
theorem dMN_9 : decode jdk_29_method_69_code 9 = .ok (.iload_n 1, 1) := by decide +kernel
theorem dMN_10 : decode jdk_29_method_69_code 10 = .ok (.ireturn, 1) := by decide +kernel
theorem pnMN : plainFor (⟨"java/lang/Math", "min", "(II)I"⟩ : MethodName) = true := by decide +kernel
set_option maxRecDepth 65536 in
set_option maxHeartbeats 40000000 in
theorem rmMN (l : Launch) (Z : State) (a0 : Array Value) (hw : ∀ d ∈ tables_1, d.before a0 Z = true) (ws : List Jvm.Cond) (px : Int32) (py : Int32) (pr : Int32) (h0 : Heap) (n0 : Nat) (Z0 : n0 ≤ h0.size) (hr : pr = if py < px then py else px) :
    MetFree l (⟨"java/lang/Math", "min", "(II)I"⟩ : MethodName) (head1 (Jvm.Cond.code (⟨"java/lang/Math", "min", "(II)I"⟩ : MethodName) jdk_29_method_69_code 2 (some .int) :: ws) ({ frames := 0, cells := 0, slots := 0, locals := 0 } : Room)) (fun aa U => aa = #[(.int px), (.int py)] ∧ Z.Warmed39 U.vm ∧ U.heap = h0) (fun _ _ _ _ _ => True) (fun _ U o U' => ∃ v L, o = .returned v ∧ QMN Z px py pr h0 n0 v U'.heap L ∧ FrameEnd U o U' L ({ frames := 0, cells := 0, slots := 0, locals := 0 } : Room).cells ({ frames := 0, cells := 0, slots := 0, locals := 0 } : Room).slots) := by
  refine MetFree.of_bodySF pnMN hisR ?_
  intro p e s m args below meth c s₁ Bd hml0 hP hK
  obtain ⟨rfl, hZ, hh⟩ := hP
  have hx := Bd.exec
  have hby := Bd.bytes
  have hlk : meth.locks = false := BodyLoose.notSynchronized Bd
  have hml : c.maxLocals = 2 := hml0
  have hown : s.vm.findClass "java/lang/Math" = some m.cls := findClass_of_methodNamed Bd.named
  have hnm := (name_of_methodNamed Bd.named Bd.method).1
  have X0 : Stand p l e ({ frames := 0, cells := 0, slots := 0, locals := 0 } : Room) s m #[(.int px), (.int py)] below meth c s₁ [] 0 0 := Stand.of_body Bd
  have e0 : s₁.heap = h0 := by rw [← hh, Bd.state]; rfl
  have N0 := Fr.nil n0
  have ef : entryFrame m #[(.int px), (.int py)] 2 = mkF m 0 #[iv px, iv py] [] := by first | (simp [entryFrame, mkF, argsToLocals, Value.category, maxLocals]; done) | rfl
  show Way p.tables e below (KQ s (QMN Z px py pr h0 n0) ({ frames := 0, cells := 0, slots := 0, locals := 0 } : Room).cells ({ frames := 0, cells := 0, slots := 0, locals := 0 } : Room).slots) (s₁.setTop (entryFrame m #[(.int px), (.int py)] 2))
  rw [ef]
  refine Way.by (fun _ k => XS.iloadN X0.here hx rfl (hb hby dMN_0) rfl k) ?_
  show Way _ _ _ _ (s₁.setTop (mkF m 1 #[iv px, iv py] [(.int px)]))
  refine Way.by (fun _ k => XS.iloadN X0.here hx rfl (hb hby dMN_1) rfl k) ?_
  show Way _ _ _ _ (s₁.setTop (mkF m 2 #[iv px, iv py] [(.int py), (.int px)]))
  by_cases hq : py < px
  · skip
    refine Way.by (fun _ k => XS.icmpYes X0.here hx rfl (pc0 := 2) (pc' := 9) rfl (hb hby dMN_2) rfl (tlt hq).2.2.1 (by decide) (by decide) k) ?_
    show Way _ _ _ _ (s₁.setTop (mkF m 9 #[iv px, iv py] []))
    refine Way.by (fun _ k => XS.iloadN X0.here hx rfl (hb hby dMN_9) rfl k) ?_
    show Way _ _ _ _ (s₁.setTop (mkF m 10 #[iv px, iv py] [(.int py)]))
    refine Way.ret (v := (some (.int py))) X0 hlk (fun h => by rw [Bd.returns] at h; cases h) (fun fs hr => retI X0 hx Bd.returns (hb hby dMN_10) hr) ?_ (by decide) (by decide)
    show QMN Z px py pr h0 n0 _ s₁.heap _
    rw [e0]
    exact ⟨by rw [hr]; simp [hq], N0, rfl⟩
  · skip
    refine Way.by (fun _ k => XS.icmpNo X0.here hx rfl (hb hby dMN_2) rfl (flt hq).2.2.1 k) ?_
    show Way _ _ _ _ (s₁.setTop (mkF m 5 #[iv px, iv py] []))
    refine Way.by (fun _ k => XS.iloadN X0.here hx rfl (hb hby dMN_5) rfl k) ?_
    show Way _ _ _ _ (s₁.setTop (mkF m 6 #[iv px, iv py] [(.int px)]))
    refine Way.by (fun _ k => XS.goto X0.here hx rfl (pc0 := 6) (pc' := 10) rfl (hb hby dMN_6) (by decide) (by decide) k) ?_
    show Way _ _ _ _ (s₁.setTop (mkF m 10 #[iv px, iv py] [(.int px)]))
    refine Way.ret (v := (some (.int px))) X0 hlk (fun h => by rw [Bd.returns] at h; cases h) (fun fs hr => retI X0 hx Bd.returns (hb hby dMN_10) hr) ?_ (by decide) (by decide)
    show QMN Z px py pr h0 n0 _ s₁.heap _
    rw [e0]
    exact ⟨by rw [hr]; simp [hq], N0, rfl⟩
def QCE46 (Z : State)  (h0 : Heap) (n0 : Nat) (v : Option Value) (h : Heap) (L : List Loc) : Prop := v = some (.int 1) ∧ Fr n0 L ∧ h = h0
theorem dCE46_0 : decode jdk_43_method_4_code 0 = .ok (.iload_n 0, 1) := by decide +kernel
theorem dCE46_1 : decode jdk_43_method_4_code 1 = .ok (.ifCond .lt 14, 3) := by decide +kernel
theorem dCE46_4 : decode jdk_43_method_4_code 4 = .ok (.iload_n 0, 1) := by decide +kernel
theorem dCE46_5 : decode jdk_43_method_4_code 5 = .ok (.sipush 255, 3) := by decide +kernel
theorem dCE46_8 : decode jdk_43_method_4_code 8 = .ok (.if_icmp .gt 7, 3) := by decide +kernel
theorem dCE46_11 : decode jdk_43_method_4_code 11 = .ok (.iconst 1, 1) := by decide +kernel
theorem dCE46_12 : decode jdk_43_method_4_code 12 = .ok (.goto 4, 3) := by decide +kernel
theorem dCE46_16 : decode jdk_43_method_4_code 16 = .ok (.ireturn, 1) := by decide +kernel
theorem pnCE46 : plainName "java/lang/StringLatin1" = true := by first | (simp [plainName, overriddenIn]; done) | decide +kernel
theorem pdCE46 : parseMethodDescriptor "(I)Z" = some ⟨[.int], some .boolean⟩ := by decide +kernel
set_option maxRecDepth 65536 in
set_option maxHeartbeats 40000000 in
theorem rmCE46 (l : Launch) (Z : State) (a0 : Array Value) (hw : ∀ d ∈ tables_1, d.before a0 Z = true) (ws : List Jvm.Cond)  (h0 : Heap) (n0 : Nat) (Z0 : n0 ≤ h0.size)  :
    MetFree l (⟨"java/lang/StringLatin1", "canEncode", "(I)Z"⟩ : MethodName) (head1 (Jvm.Cond.code (⟨"java/lang/StringLatin1", "canEncode", "(I)Z"⟩ : MethodName) jdk_43_method_4_code 1 (some .boolean) :: ws) ({ frames := 0, cells := 0, slots := 0, locals := 0 } : Room)) (fun aa U => aa = #[(.int 46)] ∧ Z.Warmed39 U.vm ∧ U.heap = h0) (fun _ _ _ _ _ => True) (fun _ U o U' => ∃ v L, o = .returned v ∧ QCE46 Z  h0 n0 v U'.heap L ∧ FrameEnd U o U' L ({ frames := 0, cells := 0, slots := 0, locals := 0 } : Room).cells ({ frames := 0, cells := 0, slots := 0, locals := 0 } : Room).slots) := by
  refine MetFree.of_bodySF (plainFor_of_name pnCE46) hisR ?_
  intro p e s m args below meth c s₁ Bd hml0 hP hK
  obtain ⟨rfl, hZ, hh⟩ := hP
  have hx := Bd.exec
  have hby := Bd.bytes
  have hlk : meth.locks = false := BodyLoose.notSynchronized Bd
  have hml : c.maxLocals = 1 := hml0
  have hown : s.vm.findClass "java/lang/StringLatin1" = some m.cls := findClass_of_methodNamed Bd.named
  have hnm := (name_of_methodNamed Bd.named Bd.method).1
  have X0 : Stand p l e ({ frames := 0, cells := 0, slots := 0, locals := 0 } : Room) s m #[(.int 46)] below meth c s₁ [] 0 0 := Stand.of_body Bd
  have e0 : s₁.heap = h0 := by rw [← hh, Bd.state]; rfl
  have N0 := Fr.nil n0
  have ef : entryFrame m #[(.int 46)] 1 = mkF m 0 #[iv 46] [] := by first | (simp [entryFrame, mkF, argsToLocals, Value.category, maxLocals]; done) | rfl
  show Way p.tables e below (KQ s (QCE46 Z  h0 n0) ({ frames := 0, cells := 0, slots := 0, locals := 0 } : Room).cells ({ frames := 0, cells := 0, slots := 0, locals := 0 } : Room).slots) (s₁.setTop (entryFrame m #[(.int 46)] 1))
  rw [ef]
  refine Way.by (fun _ k => XS.iloadN X0.here hx rfl (hb hby dCE46_0) rfl k) ?_
  show Way _ _ _ _ (s₁.setTop (mkF m 1 #[iv 46] [(.int 46)]))
  have b1 : ¬ (46 : Int32) < (0 : Int32) := by decide
  refine Way.by (fun _ k => XS.ifNo X0.here hx rfl (hb hby dCE46_1) rfl ((if0 .lt _).trans (flt b1).1) k) ?_
  show Way _ _ _ _ (s₁.setTop (mkF m 4 #[iv 46] []))
  refine Way.by (fun _ k => XS.iloadN X0.here hx rfl (hb hby dCE46_4) rfl k) ?_
  show Way _ _ _ _ (s₁.setTop (mkF m 5 #[iv 46] [(.int 46)]))
  refine Way.by (fun _ k => XS.sipush X0.here hx rfl (hb hby dCE46_5) k) ?_
  show Way _ _ _ _ (s₁.setTop (mkF m 8 #[iv 46] [(.int 255), (.int 46)]))
  have b2 : ¬ (255 : Int32) < (46 : Int32) := by decide
  refine Way.by (fun _ k => XS.icmpNo X0.here hx rfl (hb hby dCE46_8) rfl (flt b2).2.2.1 k) ?_
  show Way _ _ _ _ (s₁.setTop (mkF m 11 #[iv 46] []))
  refine Way.by (fun _ k => XS.iconst X0.here hx rfl (hb hby dCE46_11) k) ?_
  show Way _ _ _ _ (s₁.setTop (mkF m 12 #[iv 46] [(.int 1)]))
  refine Way.by (fun _ k => XS.goto X0.here hx rfl (pc0 := 12) (pc' := 16) rfl (hb hby dCE46_12) (by decide) (by decide) k) ?_
  show Way _ _ _ _ (s₁.setTop (mkF m 16 #[iv 46] [(.int 1)]))
  refine Way.ret (v := (some (.int (nar .boolean (1 : Int32))))) X0 hlk (fun h => by rw [Bd.returns] at h; cases h) (fun fs hr => retN X0 hx (t := .boolean) Bd.returns (by simp) (hb hby dCE46_16) hr) ?_ (by decide) (by decide)
  show QCE46 Z  h0 n0 _ s₁.heap _
  rw [e0]
  exact ⟨rfl, N0, rfl⟩
def QIC46 (Z : State) (ut : Addr) (kb : ClassId) (h0 : Heap) (n0 : Nat) (v : Option Value) (h : Heap) (L : List Loc) : Prop := v = some (.int 0) ∧ Fr n0 L ∧ h = h0
theorem dIC46_0 : decode jdk_43_method_23_code 0 = .ok (.iload_n 1, 1) := by decide +kernel
theorem dIC46_1 : decode jdk_43_method_23_code 1 = .ok (.i2b, 1) := by decide +kernel
theorem dIC46_2 : decode jdk_43_method_23_code 2 = .ok (.istore 4, 2) := by decide +kernel
theorem dIC46_4 : decode jdk_43_method_23_code 4 = .ok (.iload_n 2, 1) := by decide +kernel
theorem dIC46_5 : decode jdk_43_method_23_code 5 = .ok (.istore 5, 2) := by decide +kernel
theorem dIC46_7 : decode jdk_43_method_23_code 7 = .ok (.iload 5, 2) := by decide +kernel
theorem dIC46_9 : decode jdk_43_method_23_code 9 = .ok (.iload_n 3, 1) := by decide +kernel
theorem dIC46_10 : decode jdk_43_method_23_code 10 = .ok (.if_icmp .ge 21, 3) := by decide +kernel
theorem dIC46_13 : decode jdk_43_method_23_code 13 = .ok (.aload_n 0, 1) := by decide +kernel
theorem dIC46_14 : decode jdk_43_method_23_code 14 = .ok (.iload 5, 2) := by decide +kernel
theorem dIC46_16 : decode jdk_43_method_23_code 16 = .ok (.baload, 1) := by decide +kernel
theorem dIC46_17 : decode jdk_43_method_23_code 17 = .ok (.iload 4, 2) := by decide +kernel
theorem dIC46_19 : decode jdk_43_method_23_code 19 = .ok (.if_icmp .ne 6, 3) := by decide +kernel
theorem dIC46_22 : decode jdk_43_method_23_code 22 = .ok (.iload 5, 2) := by decide +kernel
theorem dIC46_24 : decode jdk_43_method_23_code 24 = .ok (.ireturn, 1) := by decide +kernel
theorem pdIC46 : parseMethodDescriptor "([BIII)I" = some ⟨[(.array .byte), .int, .int, .int], some .int⟩ := by decide +kernel
set_option maxRecDepth 65536 in
set_option maxHeartbeats 40000000 in
theorem rmIC46 (l : Launch) (Z : State) (a0 : Array Value) (hw : ∀ d ∈ tables_1, d.before a0 Z = true) (ws : List Jvm.Cond) (ut : Addr) (kb : ClassId) (h0 : Heap) (n0 : Nat) (Z0 : n0 ≤ h0.size) (H0 : Arv Z h0 ut kb .byte (3 : Int32) [(.int 46), (.int 95), (.int 45)] (.int 0)) :
    MetFree l (⟨"java/lang/StringLatin1", "indexOfChar", "([BIII)I"⟩ : MethodName) (head1 (Jvm.Cond.code (⟨"java/lang/StringLatin1", "indexOfChar", "([BIII)I"⟩ : MethodName) jdk_43_method_23_code 6 (some .int) :: ws) ({ frames := 0, cells := 0, slots := 0, locals := 0 } : Room)) (fun aa U => aa = #[(.ref ut), (.int 46), (.int 0), (.int 3)] ∧ Z.Warmed39 U.vm ∧ U.heap = h0) (fun _ _ _ _ _ => True) (fun _ U o U' => ∃ v L, o = .returned v ∧ QIC46 Z ut kb h0 n0 v U'.heap L ∧ FrameEnd U o U' L ({ frames := 0, cells := 0, slots := 0, locals := 0 } : Room).cells ({ frames := 0, cells := 0, slots := 0, locals := 0 } : Room).slots) := by
  refine MetFree.of_bodySF (plainFor_of_name pnCE46) hisR ?_
  intro p e s m args below meth c s₁ Bd hml0 hP hK
  obtain ⟨rfl, hZ, hh⟩ := hP
  have hx := Bd.exec
  have hby := Bd.bytes
  have hlk : meth.locks = false := BodyLoose.notSynchronized Bd
  have hml : c.maxLocals = 6 := hml0
  have hown : s.vm.findClass "java/lang/StringLatin1" = some m.cls := findClass_of_methodNamed Bd.named
  have hnm := (name_of_methodNamed Bd.named Bd.method).1
  have X0 : Stand p l e ({ frames := 0, cells := 0, slots := 0, locals := 0 } : Room) s m #[(.ref ut), (.int 46), (.int 0), (.int 3)] below meth c s₁ [] 0 0 := Stand.of_body Bd
  have e0 : s₁.heap = h0 := by rw [← hh, Bd.state]; rfl
  have N0 := Fr.nil n0
  have ef : entryFrame m #[(.ref ut), (.int 46), (.int 0), (.int 3)] 6 = mkF m 0 #[rv ut, iv 46, iv 0, iv 3, .unset, .unset] [] := by first | (simp [entryFrame, mkF, argsToLocals, Value.category, maxLocals]; done) | rfl
  show Way p.tables e below (KQ s (QIC46 Z ut kb h0 n0) ({ frames := 0, cells := 0, slots := 0, locals := 0 } : Room).cells ({ frames := 0, cells := 0, slots := 0, locals := 0 } : Room).slots) (s₁.setTop (entryFrame m #[(.ref ut), (.int 46), (.int 0), (.int 3)] 6))
  rw [ef]
  refine Way.by (fun _ k => XS.iloadN X0.here hx rfl (hb hby dIC46_0) rfl k) ?_
  show Way _ _ _ _ (s₁.setTop (mkF m 1 #[rv ut, iv 46, iv 0, iv 3, .unset, .unset] [(.int 46)]))
  refine Way.by (fun _ k => XT.i2b X0.here hx rfl (hb hby dIC46_1) rfl k) ?_
  show Way _ _ _ _ (s₁.setTop (mkF m 2 #[rv ut, iv 46, iv 0, iv 3, .unset, .unset] [(.int 46)]))
  refine Way.by (fun _ k => XS.istore X0.here hx rfl (hb hby dIC46_2) rfl (l' := #[rv ut, iv 46, iv 0, iv 3, iv 46, .unset]) rfl k) ?_
  show Way _ _ _ _ (s₁.setTop (mkF m 4 #[rv ut, iv 46, iv 0, iv 3, iv 46, .unset] []))
  refine Way.by (fun _ k => XS.iloadN X0.here hx rfl (hb hby dIC46_4) rfl k) ?_
  show Way _ _ _ _ (s₁.setTop (mkF m 5 #[rv ut, iv 46, iv 0, iv 3, iv 46, .unset] [(.int 0)]))
  refine Way.by (fun _ k => XS.istore X0.here hx rfl (hb hby dIC46_5) rfl (l' := #[rv ut, iv 46, iv 0, iv 3, iv 46, iv 0]) rfl k) ?_
  show Way _ _ _ _ (s₁.setTop (mkF m 7 #[rv ut, iv 46, iv 0, iv 3, iv 46, iv 0] []))
  refine Way.by (fun _ k => XS.iload X0.here hx rfl (hb hby dIC46_7) rfl k) ?_
  show Way _ _ _ _ (s₁.setTop (mkF m 9 #[rv ut, iv 46, iv 0, iv 3, iv 46, iv 0] [(.int 0)]))
  refine Way.by (fun _ k => XS.iloadN X0.here hx rfl (hb hby dIC46_9) rfl k) ?_
  show Way _ _ _ _ (s₁.setTop (mkF m 10 #[rv ut, iv 46, iv 0, iv 3, iv 46, iv 0] [(.int 3), (.int 0)]))
  have b1 : (0 : Int32) < (3 : Int32) := by decide
  refine Way.by (fun _ k => XS.icmpNo X0.here hx rfl (hb hby dIC46_10) rfl (tlt b1).2.1 k) ?_
  show Way _ _ _ _ (s₁.setTop (mkF m 13 #[rv ut, iv 46, iv 0, iv 3, iv 46, iv 0] []))
  refine Way.by (fun _ k => XS.aloadN X0.here hx rfl (hb hby dIC46_13) rfl rfl k) ?_
  show Way _ _ _ _ (s₁.setTop (mkF m 14 #[rv ut, iv 46, iv 0, iv 3, iv 46, iv 0] [(.ref ut)]))
  refine Way.by (fun _ k => XS.iload X0.here hx rfl (hb hby dIC46_14) rfl k) ?_
  show Way _ _ _ _ (s₁.setTop (mkF m 16 #[rv ut, iv 46, iv 0, iv 3, iv 46, iv 0] [(.int 0), (.ref ut)]))
  obtain ⟨c2, A3, q4, S5, M6, H7, U8⟩ := id H0
  refine Way.by (fun t k => Stand.baloadBytes X0 hx (hpE e0 A3.1) (arrS hZ A3) A3.2.2 (inb_of S5 ⟨(by decide), (by decide)⟩) (Has.at H7 (inb_of S5 ⟨(by decide), (by decide)⟩) rfl) (g := (mkF m 16 #[rv ut, iv 46, iv 0, iv 3, iv 46, iv 0] [(.int 0), (.ref ut)])) rfl rfl (hb hby dIC46_16) t k) ?_
  show Way _ _ _ _ (s₁.setTop (mkF m 17 #[rv ut, iv 46, iv 0, iv 3, iv 46, iv 0] [(.int 46)]))
  refine Way.by (fun _ k => XS.iload X0.here hx rfl (hb hby dIC46_17) rfl k) ?_
  show Way _ _ _ _ (s₁.setTop (mkF m 19 #[rv ut, iv 46, iv 0, iv 3, iv 46, iv 0] [(.int 46), (.int 46)]))
  have b9 : (46 : Int32) = (46 : Int32) := by decide
  refine Way.by (fun _ k => XS.icmpNo X0.here hx rfl (hb hby dIC46_19) rfl (teq b9).2 k) ?_
  show Way _ _ _ _ (s₁.setTop (mkF m 22 #[rv ut, iv 46, iv 0, iv 3, iv 46, iv 0] []))
  refine Way.by (fun _ k => XS.iload X0.here hx rfl (hb hby dIC46_22) rfl k) ?_
  show Way _ _ _ _ (s₁.setTop (mkF m 24 #[rv ut, iv 46, iv 0, iv 3, iv 46, iv 0] [(.int 0)]))
  refine Way.ret (v := (some (.int 0))) X0 hlk (fun h => by rw [Bd.returns] at h; cases h) (fun fs hr => retI X0 hx Bd.returns (hb hby dIC46_24) hr) ?_ (by decide) (by decide)
  show QIC46 Z ut kb h0 n0 _ s₁.heap _
  rw [e0]
  exact ⟨rfl, N0, rfl⟩
def QLI46 (Z : State) (ut : Addr) (kb : ClassId) (h0 : Heap) (n0 : Nat) (v : Option Value) (h : Heap) (L : List Loc) : Prop := v = some (.int 0) ∧ Fr n0 L ∧ h = h0
theorem dLI46_0 : decode jdk_43_method_22_code 0 = .ok (.iload_n 1, 1) := by decide +kernel
theorem dLI46_1 : decode jdk_43_method_22_code 1 = .ok (.invokestatic 88, 3) := by decide +kernel
theorem dLI46_4 : decode jdk_43_method_22_code 4 = .ok (.ifCond .ne 5, 3) := by decide +kernel
theorem dLI46_9 : decode jdk_43_method_22_code 9 = .ok (.iload_n 2, 1) := by decide +kernel
theorem dLI46_10 : decode jdk_43_method_22_code 10 = .ok (.iconst 0, 1) := by decide +kernel
theorem dLI46_11 : decode jdk_43_method_22_code 11 = .ok (.invokestatic 92, 3) := by decide +kernel
theorem dLI46_14 : decode jdk_43_method_22_code 14 = .ok (.istore_n 2, 1) := by decide +kernel
theorem dLI46_15 : decode jdk_43_method_22_code 15 = .ok (.iload_n 3, 1) := by decide +kernel
theorem dLI46_16 : decode jdk_43_method_22_code 16 = .ok (.aload_n 0, 1) := by decide +kernel
theorem dLI46_17 : decode jdk_43_method_22_code 17 = .ok (.arraylength, 1) := by decide +kernel
theorem dLI46_18 : decode jdk_43_method_22_code 18 = .ok (.invokestatic 38, 3) := by decide +kernel
theorem dLI46_21 : decode jdk_43_method_22_code 21 = .ok (.istore_n 3, 1) := by decide +kernel
theorem dLI46_22 : decode jdk_43_method_22_code 22 = .ok (.iload_n 2, 1) := by decide +kernel
theorem dLI46_23 : decode jdk_43_method_22_code 23 = .ok (.iload_n 3, 1) := by decide +kernel
theorem dLI46_24 : decode jdk_43_method_22_code 24 = .ok (.if_icmp .lt 5, 3) := by decide +kernel
theorem dLI46_29 : decode jdk_43_method_22_code 29 = .ok (.aload_n 0, 1) := by decide +kernel
theorem dLI46_30 : decode jdk_43_method_22_code 30 = .ok (.iload_n 1, 1) := by decide +kernel
theorem dLI46_31 : decode jdk_43_method_22_code 31 = .ok (.iload_n 2, 1) := by decide +kernel
theorem dLI46_32 : decode jdk_43_method_22_code 32 = .ok (.iload_n 3, 1) := by decide +kernel
theorem dLI46_33 : decode jdk_43_method_22_code 33 = .ok (.invokestatic 95, 3) := by decide +kernel
theorem dLI46_36 : decode jdk_43_method_22_code 36 = .ok (.ireturn, 1) := by decide +kernel
set_option maxRecDepth 65536 in
set_option maxHeartbeats 40000000 in
theorem rmLI46 (l : Launch) (Z : State) (a0 : Array Value) (hw : ∀ d ∈ tables_1, d.before a0 Z = true) (ws : List Jvm.Cond) (ut : Addr) (kb : ClassId) (h0 : Heap) (n0 : Nat) (Z0 : n0 ≤ h0.size) (H0 : Arv Z h0 ut kb .byte (3 : Int32) [(.int 46), (.int 95), (.int 45)] (.int 0)) :
    MetFree l (⟨"java/lang/StringLatin1", "indexOf", "([BIII)I"⟩ : MethodName) (head1 (Jvm.Cond.code (⟨"java/lang/StringLatin1", "indexOf", "([BIII)I"⟩ : MethodName) jdk_43_method_22_code 4 (some .int) :: ws) ({ frames := 1, cells := 0, slots := 0, locals := 17 } : Room)) (fun aa U => aa = #[(.ref ut), (.int 46), (.int 0), (.int 3)] ∧ Z.Warmed39 U.vm ∧ U.heap = h0) (fun _ _ _ _ _ => True) (fun _ U o U' => ∃ v L, o = .returned v ∧ QLI46 Z ut kb h0 n0 v U'.heap L ∧ FrameEnd U o U' L ({ frames := 1, cells := 0, slots := 0, locals := 17 } : Room).cells ({ frames := 1, cells := 0, slots := 0, locals := 17 } : Room).slots) := by
  refine MetFree.of_bodySF (plainFor_of_name pnCE46) hisR ?_
  intro p e s m args below meth c s₁ Bd hml0 hP hK
  obtain ⟨rfl, hZ, hh⟩ := hP
  have hx := Bd.exec
  have hby := Bd.bytes
  have hlk : meth.locks = false := BodyLoose.notSynchronized Bd
  have hml : c.maxLocals = 4 := hml0
  have hown : s.vm.findClass "java/lang/StringLatin1" = some m.cls := findClass_of_methodNamed Bd.named
  have hnm := (name_of_methodNamed Bd.named Bd.method).1
  have X0 : Stand p l e ({ frames := 1, cells := 0, slots := 0, locals := 17 } : Room) s m #[(.ref ut), (.int 46), (.int 0), (.int 3)] below meth c s₁ [] 0 0 := Stand.of_body Bd
  have e0 : s₁.heap = h0 := by rw [← hh, Bd.state]; rfl
  have N0 := Fr.nil n0
  have ef : entryFrame m #[(.ref ut), (.int 46), (.int 0), (.int 3)] 4 = mkF m 0 #[rv ut, iv 46, iv 0, iv 3] [] := by first | (simp [entryFrame, mkF, argsToLocals, Value.category, maxLocals]; done) | rfl
  show Way p.tables e below (KQ s (QLI46 Z ut kb h0 n0) ({ frames := 1, cells := 0, slots := 0, locals := 17 } : Room).cells ({ frames := 1, cells := 0, slots := 0, locals := 17 } : Room).slots) (s₁.setTop (entryFrame m #[(.ref ut), (.int 46), (.int 0), (.int 3)] 4))
  rw [ef]
  refine Way.by (fun _ k => XS.iloadN X0.here hx rfl (hb hby dLI46_0) rfl k) ?_
  show Way _ _ _ _ (s₁.setTop (mkF m 1 #[rv ut, iv 46, iv 0, iv 3] [(.int 46)]))
  obtain ⟨_, _, ⟨T1, L3, k4, n5⟩, -, X2, ⟨Lc6, hQ7, l8, y9, z10⟩, st11⟩ := Jvm.LawKit.callS X0 hx (y := (⟨"java/lang/StringLatin1", "canEncode", "(I)Z"⟩ : MethodName)) hown (mvT hZ (tw hw 135 rfl)) (mvT hZ (tw hw 136 rfl)) (mvT hZ (tw hw 89 rfl)) (mvT hZ (tw hw 137 rfl)) (by decide) (backOf (W := 0) (rmCE46 l Z a0 hw []  h0 n0 Z0 ) hZ (tw hw 137 rfl) (tw hw 89 rfl) (by decide) (by decide)) (g := (mkF m 1 #[rv ut, iv 46, iv 0, iv 3] [(.int 46)])) rfl (by rw [hml]; rfl) (argsL := [(.int 46)]) (rest := []) (lenOf pdCE46 rfl) rfl (leW rfl) (hb hby dLI46_1) (fun _ _ => ⟨rfl, e0, (leB rfl), (leB rfl)⟩)
  dsimp only [Pt.U, Pt.locs, Pt.cells, Pt.slots] at X2 l8 y9 z10 st11 hQ7
  subst l8 y9 z10
  obtain ⟨rfl, N17, e13⟩ := hQ7
  have N12 := Fr.app N0 N17
  refine Way.by st11 ?_
  show Way _ _ _ _ (T1.setTop (mkF m 4 #[rv ut, iv 46, iv 0, iv 3] [(.int 1)]))
  have b19 : ¬ (1 : Int32) = (0 : Int32) := by decide
  refine Way.by (fun _ k => XS.ifYes X2.here hx rfl (pc0 := 4) (pc' := 9) rfl (hb hby dLI46_4) rfl ((if0 .ne _).trans (feq b19).2) (by decide) (by decide) k) ?_
  show Way _ _ _ _ (T1.setTop (mkF m 9 #[rv ut, iv 46, iv 0, iv 3] []))
  refine Way.by (fun _ k => XS.iloadN X2.here hx rfl (hb hby dLI46_9) rfl k) ?_
  show Way _ _ _ _ (T1.setTop (mkF m 10 #[rv ut, iv 46, iv 0, iv 3] [(.int 0)]))
  refine Way.by (fun _ k => XS.iconst X2.here hx rfl (hb hby dLI46_10) k) ?_
  show Way _ _ _ _ (T1.setTop (mkF m 11 #[rv ut, iv 46, iv 0, iv 3] [(.int 0), (.int 0)]))
  obtain ⟨_, _, ⟨T20, L22, k23, n24⟩, -, X21, ⟨Lc25, hQ26, l27, y28, z29⟩, st30⟩ := Jvm.LawKit.callS X2 hx (y := (⟨"java/lang/Math", "max", "(II)I"⟩ : MethodName)) hown (mvT hZ (tw hw 138 rfl)) (mvT hZ (tw hw 139 rfl)) (mvT hZ (tw hw 140 rfl)) (mvT hZ (tw hw 141 rfl)) (by decide) (backOf (W := 0) (rmMX l Z a0 hw [] (0 : Int32) (0 : Int32) (0 : Int32) h0 n0 Z0 (by decide)) hZ (tw hw 141 rfl) (tw hw 140 rfl) (by decide) (by decide)) (g := (mkF m 11 #[rv ut, iv 46, iv 0, iv 3] [(.int 0), (.int 0)])) rfl (by rw [hml]; rfl) (argsL := [(.int 0), (.int 0)]) (rest := []) (lenOf pdMX rfl) rfl (leW rfl) (hb hby dLI46_11) (fun _ _ => ⟨rfl, e13, (leB rfl), (leB rfl)⟩)
  dsimp only [Pt.U, Pt.locs, Pt.cells, Pt.slots] at X21 l27 y28 z29 st30 hQ26
  subst l27 y28 z29
  obtain ⟨rfl, N36, e32⟩ := hQ26
  have N31 := Fr.app N12 N36
  refine Way.by st30 ?_
  show Way _ _ _ _ (T20.setTop (mkF m 14 #[rv ut, iv 46, iv 0, iv 3] [(.int 0)]))
  refine Way.by (fun _ k => XS.istoreN X21.here hx rfl (hb hby dLI46_14) rfl (l' := #[rv ut, iv 46, iv 0, iv 3]) rfl k) ?_
  show Way _ _ _ _ (T20.setTop (mkF m 15 #[rv ut, iv 46, iv 0, iv 3] []))
  refine Way.by (fun _ k => XS.iloadN X21.here hx rfl (hb hby dLI46_15) rfl k) ?_
  show Way _ _ _ _ (T20.setTop (mkF m 16 #[rv ut, iv 46, iv 0, iv 3] [(.int 3)]))
  refine Way.by (fun _ k => XS.aloadN X21.here hx rfl (hb hby dLI46_16) rfl rfl k) ?_
  show Way _ _ _ _ (T20.setTop (mkF m 17 #[rv ut, iv 46, iv 0, iv 3] [(.ref ut), (.int 3)]))
  obtain ⟨c38, A39, q40, S41, M42, H43, U44⟩ := id H0
  refine Way.by (fun t k => Stand.arraylength X21 hx (hpE e32 A39.1) (arrS hZ A39) (g := (mkF m 17 #[rv ut, iv 46, iv 0, iv 3] [(.ref ut), (.int 3)])) rfl rfl (hb hby dLI46_17) t k) ?_
  rw [len_of S41 M42]
  show Way _ _ _ _ (T20.setTop (mkF m 18 #[rv ut, iv 46, iv 0, iv 3] [(.int 3), (.int 3)]))
  obtain ⟨_, _, ⟨T45, L47, k48, n49⟩, -, X46, ⟨Lc50, hQ51, l52, y53, z54⟩, st55⟩ := Jvm.LawKit.callS X21 hx (y := (⟨"java/lang/Math", "min", "(II)I"⟩ : MethodName)) hown (mvT hZ (tw hw 142 rfl)) (mvT hZ (tw hw 143 rfl)) (mvT hZ (tw hw 140 rfl)) (mvT hZ (tw hw 144 rfl)) (by decide) (backOf (W := 0) (rmMN l Z a0 hw [] (3 : Int32) (3 : Int32) (3 : Int32) h0 n0 Z0 (by decide)) hZ (tw hw 144 rfl) (tw hw 140 rfl) (by decide) (by decide)) (g := (mkF m 18 #[rv ut, iv 46, iv 0, iv 3] [(.int 3), (.int 3)])) rfl (by rw [hml]; rfl) (argsL := [(.int 3), (.int 3)]) (rest := []) (lenOf pdMX rfl) rfl (leW rfl) (hb hby dLI46_18) (fun _ _ => ⟨rfl, e32, (leB rfl), (leB rfl)⟩)
  dsimp only [Pt.U, Pt.locs, Pt.cells, Pt.slots] at X46 l52 y53 z54 st55 hQ51
  subst l52 y53 z54
  obtain ⟨rfl, N61, e57⟩ := hQ51
  have N56 := Fr.app N31 N61
  refine Way.by st55 ?_
  show Way _ _ _ _ (T45.setTop (mkF m 21 #[rv ut, iv 46, iv 0, iv 3] [(.int 3)]))
  refine Way.by (fun _ k => XS.istoreN X46.here hx rfl (hb hby dLI46_21) rfl (l' := #[rv ut, iv 46, iv 0, iv 3]) rfl k) ?_
  show Way _ _ _ _ (T45.setTop (mkF m 22 #[rv ut, iv 46, iv 0, iv 3] []))
  refine Way.by (fun _ k => XS.iloadN X46.here hx rfl (hb hby dLI46_22) rfl k) ?_
  show Way _ _ _ _ (T45.setTop (mkF m 23 #[rv ut, iv 46, iv 0, iv 3] [(.int 0)]))
  refine Way.by (fun _ k => XS.iloadN X46.here hx rfl (hb hby dLI46_23) rfl k) ?_
  show Way _ _ _ _ (T45.setTop (mkF m 24 #[rv ut, iv 46, iv 0, iv 3] [(.int 3), (.int 0)]))
  have b63 : (0 : Int32) < (3 : Int32) := by decide
  refine Way.by (fun _ k => XS.icmpYes X46.here hx rfl (pc0 := 24) (pc' := 29) rfl (hb hby dLI46_24) rfl (tlt b63).1 (by decide) (by decide) k) ?_
  show Way _ _ _ _ (T45.setTop (mkF m 29 #[rv ut, iv 46, iv 0, iv 3] []))
  refine Way.by (fun _ k => XS.aloadN X46.here hx rfl (hb hby dLI46_29) rfl rfl k) ?_
  show Way _ _ _ _ (T45.setTop (mkF m 30 #[rv ut, iv 46, iv 0, iv 3] [(.ref ut)]))
  refine Way.by (fun _ k => XS.iloadN X46.here hx rfl (hb hby dLI46_30) rfl k) ?_
  show Way _ _ _ _ (T45.setTop (mkF m 31 #[rv ut, iv 46, iv 0, iv 3] [(.int 46), (.ref ut)]))
  refine Way.by (fun _ k => XS.iloadN X46.here hx rfl (hb hby dLI46_31) rfl k) ?_
  show Way _ _ _ _ (T45.setTop (mkF m 32 #[rv ut, iv 46, iv 0, iv 3] [(.int 0), (.int 46), (.ref ut)]))
  refine Way.by (fun _ k => XS.iloadN X46.here hx rfl (hb hby dLI46_32) rfl k) ?_
  show Way _ _ _ _ (T45.setTop (mkF m 33 #[rv ut, iv 46, iv 0, iv 3] [(.int 3), (.int 0), (.int 46), (.ref ut)]))
  obtain ⟨_, _, ⟨T64, L66, k67, n68⟩, -, X65, ⟨Lc69, hQ70, l71, y72, z73⟩, st74⟩ := Jvm.LawKit.callS X46 hx (y := (⟨"java/lang/StringLatin1", "indexOfChar", "([BIII)I"⟩ : MethodName)) hown (mvT hZ (tw hw 145 rfl)) (mvT hZ (tw hw 146 rfl)) (mvT hZ (tw hw 89 rfl)) (mvT hZ (tw hw 147 rfl)) (by decide) (backOf (W := 0) (rmIC46 l Z a0 hw [] ut kb h0 n0 Z0 H0) hZ (tw hw 147 rfl) (tw hw 89 rfl) (by decide) (by decide)) (g := (mkF m 33 #[rv ut, iv 46, iv 0, iv 3] [(.int 3), (.int 0), (.int 46), (.ref ut)])) rfl (by rw [hml]; rfl) (argsL := [(.ref ut), (.int 46), (.int 0), (.int 3)]) (rest := []) (lenOf pdIC46 rfl) rfl (leW rfl) (hb hby dLI46_33) (fun _ _ => ⟨rfl, e57, (leB rfl), (leB rfl)⟩)
  dsimp only [Pt.U, Pt.locs, Pt.cells, Pt.slots] at X65 l71 y72 z73 st74 hQ70
  subst l71 y72 z73
  obtain ⟨rfl, N80, e76⟩ := hQ70
  have N75 := Fr.app N56 N80
  refine Way.by st74 ?_
  show Way _ _ _ _ (T64.setTop (mkF m 36 #[rv ut, iv 46, iv 0, iv 3] [(.int 0)]))
  refine Way.ret (v := (some (.int 0))) X65 hlk (fun h => by rw [Bd.returns] at h; cases h) (fun fs hr => retI X65 hx Bd.returns (hb hby dLI46_36) hr) ?_ (by decide) (by decide)
  show QLI46 Z ut kb h0 n0 _ T64.heap _
  rw [e76]
  exact ⟨rfl, N75, rfl⟩
def QI246 (Z : State) (up : Addr) (ut : Addr) (h0 : Heap) (n0 : Nat) (v : Option Value) (h : Heap) (L : List Loc) : Prop := v = some (.int 0) ∧ Fr n0 L ∧ h = h0
theorem dI246_0 : decode jdk_42_method_80_code 0 = .ok (.aload_n 0, 1) := by decide +kernel
theorem dI246_1 : decode jdk_42_method_80_code 1 = .ok (.invokevirtual 492, 3) := by decide +kernel
theorem dI246_4 : decode jdk_42_method_80_code 4 = .ok (.ifCond .eq 19, 3) := by decide +kernel
theorem dI246_7 : decode jdk_42_method_80_code 7 = .ok (.aload_n 0, 1) := by decide +kernel
theorem dI246_8 : decode jdk_42_method_80_code 8 = .ok (.getfield 9, 3) := by decide +kernel
theorem dI246_11 : decode jdk_42_method_80_code 11 = .ok (.iload_n 1, 1) := by decide +kernel
theorem dI246_12 : decode jdk_42_method_80_code 12 = .ok (.iload_n 2, 1) := by decide +kernel
theorem dI246_13 : decode jdk_42_method_80_code 13 = .ok (.aload_n 0, 1) := by decide +kernel
theorem dI246_14 : decode jdk_42_method_80_code 14 = .ok (.invokevirtual 505, 3) := by decide +kernel
theorem dI246_17 : decode jdk_42_method_80_code 17 = .ok (.invokestatic 637, 3) := by decide +kernel
theorem dI246_20 : decode jdk_42_method_80_code 20 = .ok (.goto 16, 3) := by decide +kernel
theorem dI246_36 : decode jdk_42_method_80_code 36 = .ok (.ireturn, 1) := by decide +kernel
set_option maxRecDepth 65536 in
set_option maxHeartbeats 40000000 in
theorem rmI246 (l : Launch) (Z : State) (a0 : Array Value) (hw : ∀ d ∈ tables_1, d.before a0 Z = true) (ws : List Jvm.Cond) (up : Addr) (ut : Addr) (h0 : Heap) (n0 : Nat) (Z0 : n0 ≤ h0.size) (H0 : own_Str Z h0 up ut [46, 95, 45]) (O0 : Old Z n0 h0) (SV : own_Env Z) :
    MetFree l (⟨"java/lang/String", "indexOf", "(II)I"⟩ : MethodName) (head1 (Jvm.Cond.code (⟨"java/lang/String", "indexOf", "(II)I"⟩ : MethodName) jdk_42_method_80_code 3 (some .int) :: ws) ({ frames := 2, cells := 0, slots := 0, locals := 32 } : Room)) (fun aa U => aa = #[(.ref up), (.int 46), (.int 0)] ∧ Z.Warmed39 U.vm ∧ U.heap = h0) (fun _ _ _ _ _ => True) (fun _ U o U' => ∃ v L, o = .returned v ∧ QI246 Z up ut h0 n0 v U'.heap L ∧ FrameEnd U o U' L ({ frames := 2, cells := 0, slots := 0, locals := 32 } : Room).cells ({ frames := 2, cells := 0, slots := 0, locals := 32 } : Room).slots) := by
  refine MetFree.of_bodySF (plainFor_of_name pnIL) hisR ?_
  intro p e s m args below meth c s₁ Bd hml0 hP hK
  obtain ⟨rfl, hZ, hh⟩ := hP
  have hx := Bd.exec
  have hby := Bd.bytes
  have hlk : meth.locks = false := BodyLoose.notSynchronized Bd
  have hml : c.maxLocals = 3 := hml0
  have hown : s.vm.findClass "java/lang/String" = some m.cls := findClass_of_methodNamed Bd.named
  have hnm := (name_of_methodNamed Bd.named Bd.method).1
  have X0 : Stand p l e ({ frames := 2, cells := 0, slots := 0, locals := 32 } : Room) s m #[(.ref up), (.int 46), (.int 0)] below meth c s₁ [] 0 0 := Stand.of_body Bd
  have e0 : s₁.heap = h0 := by rw [← hh, Bd.state]; rfl
  have N0 := Fr.nil n0
  have ef : entryFrame m #[(.ref up), (.int 46), (.int 0)] 3 = mkF m 0 #[rv up, iv 46, iv 0] [] := by first | (simp [entryFrame, mkF, argsToLocals, Value.category, maxLocals]; done) | rfl
  show Way p.tables e below (KQ s (QI246 Z up ut h0 n0) ({ frames := 2, cells := 0, slots := 0, locals := 32 } : Room).cells ({ frames := 2, cells := 0, slots := 0, locals := 32 } : Room).slots) (s₁.setTop (entryFrame m #[(.ref up), (.int 46), (.int 0)] 3))
  rw [ef]
  obtain ⟨H0E, H0V, H0C, -, H0B, H0Ln⟩ := id H0
  obtain ⟨H0kb, H0A0⟩ := H0.arv
  have H0A : Arv Z h0 ut H0kb .byte (3 : Int32) [(.int 46), (.int 95), (.int 45)] (.int 0) := H0A0
  refine Way.by (fun _ k => XS.aloadN X0.here hx rfl (hb hby dI246_0) rfl rfl k) ?_
  show Way _ _ _ _ (s₁.setTop (mkF m 1 #[rv up, iv 46, iv 0] [(.ref up)]))
  obtain ⟨cq17, kq18, qa19, qb20, qc21⟩ := isOf hZ e0 H0E
  obtain ⟨_, _, ⟨T1, L3, k4, n5⟩, -, X2, ⟨Lc6, hQ7, l8, y9, z10⟩, st11⟩ := X0.virtualBack hx (y := (⟨"java/lang/String", "isLatin1", "()Z"⟩ : MethodName)) (z := (⟨"java/lang/String", "isLatin1", "()Z"⟩ : MethodName)) hown (mvT hZ (tw hw 82 rfl)) (mvT hZ (tw hw 83 rfl)) (notFace_of_selects (args := #[]) (mvT hZ (tw hw 85 rfl))) (mvT hZ (tw hw 85 rfl)) (mvT hZ (tw hw 84 rfl)) (by decide) (backOf (W := 0) (rmIL l Z a0 hw [] up h0 n0 Z0 H0C O0 SV) hZ (tw hw 86 rfl) (tw hw 11 rfl) (by decide) (by decide)) qa19 qc21 (g := (mkF m 1 #[rv up, iv 46, iv 0] [(.ref up)])) rfl (by rw [hml]; rfl) (Steps.refl _) (argsL := []) (rest := []) (lenOf pdIL rfl) rfl (leW rfl) (hb hby dI246_1) (fun _ _ => ⟨rfl, e0, (leB rfl), (leB rfl)⟩)
  dsimp only [Pt.U, Pt.locs, Pt.cells, Pt.slots] at X2 l8 y9 z10 st11 hQ7
  subst l8 y9 z10
  obtain ⟨rfl, N22, e13⟩ := hQ7
  have N12 := Fr.app N0 N22
  refine Way.to st11 ?_
  show Way _ _ _ _ (T1.setTop (mkF m 4 #[rv up, iv 46, iv 0] [(.int 1)]))
  have b24 : ¬ (1 : Int32) = (0 : Int32) := by decide
  refine Way.by (fun _ k => XS.ifNo X2.here hx rfl (hb hby dI246_4) rfl ((if0 .eq _).trans (feq b24).1) k) ?_
  show Way _ _ _ _ (T1.setTop (mkF m 7 #[rv up, iv 46, iv 0] []))
  refine Way.by (fun _ k => XS.aloadN X2.here hx rfl (hb hby dI246_7) rfl rfl k) ?_
  show Way _ _ _ _ (T1.setTop (mkF m 8 #[rv up, iv 46, iv 0] [(.ref up)]))
  obtain ⟨T25, X26, e27, st28⟩ := getF X2 hx hZ hown (host := "") (Or.inl (tw hw 36 rfl)) Via.refl e13 H0V (g := (mkF m 8 #[rv up, iv 46, iv 0] [(.ref up)])) rfl rfl (hb hby dI246_8)
  refine Way.by st28 ?_
  show Way _ _ _ _ (T25.setTop (mkF m 11 #[rv up, iv 46, iv 0] [(.ref ut)]))
  refine Way.by (fun _ k => XS.iloadN X26.here hx rfl (hb hby dI246_11) rfl k) ?_
  show Way _ _ _ _ (T25.setTop (mkF m 12 #[rv up, iv 46, iv 0] [(.int 46), (.ref ut)]))
  refine Way.by (fun _ k => XS.iloadN X26.here hx rfl (hb hby dI246_12) rfl k) ?_
  show Way _ _ _ _ (T25.setTop (mkF m 13 #[rv up, iv 46, iv 0] [(.int 0), (.int 46), (.ref ut)]))
  refine Way.by (fun _ k => XS.aloadN X26.here hx rfl (hb hby dI246_13) rfl rfl k) ?_
  show Way _ _ _ _ (T25.setTop (mkF m 14 #[rv up, iv 46, iv 0] [(.ref up), (.int 0), (.int 46), (.ref ut)]))
  obtain ⟨cq45, kq46, qa47, qb48, qc49⟩ := isOf hZ e27 H0.1
  obtain ⟨_, _, ⟨T29, L31, k32, n33⟩, -, X30, ⟨Lc34, hQ35, l36, y37, z38⟩, st39⟩ := X26.virtualBack hx (y := (⟨"java/lang/String", "length", "()I"⟩ : MethodName)) (z := (⟨"java/lang/String", "length", "()I"⟩ : MethodName)) hown (mvT hZ (tw hw 131 rfl)) (mvT hZ (tw hw 64 rfl)) (notFace_of_selects (args := #[]) (mvT hZ (tw hw 66 rfl))) (mvT hZ (tw hw 66 rfl)) (mvT hZ (tw hw 65 rfl)) (by decide) (own_len (W := 3) (n0 := n0) hZ hw SV O0 (cs := [46, 95, 45]) H0 (by decide) (by decide)) qa47 qc49 (g := (mkF m 14 #[rv up, iv 46, iv 0] [(.ref up), (.int 0), (.int 46), (.ref ut)])) rfl (by rw [hml]; rfl) (Steps.refl _) (argsL := []) (rest := [(.int 0), (.int 46), (.ref ut)]) (lenOf own_pdLen rfl) rfl (leW rfl) (hb hby dI246_14) (fun _ _ => ⟨rfl, e27, (leB rfl), (leB rfl)⟩)
  dsimp only [Pt.U, Pt.locs, Pt.cells, Pt.slots] at X30 l36 y37 z38 st39 hQ35
  subst l36 y37 z38
  obtain ⟨rfl, N50, e41⟩ := hQ35
  have N40 := Fr.app N12 N50
  refine Way.to st39 ?_
  show Way _ _ _ _ (T29.setTop (mkF m 17 #[rv up, iv 46, iv 0] [(.int 3), (.int 0), (.int 46), (.ref ut)]))
  obtain ⟨_, _, ⟨T52, L54, k55, n56⟩, -, X53, ⟨Lc57, hQ58, l59, y60, z61⟩, st62⟩ := Jvm.LawKit.callS X30 hx (y := (⟨"java/lang/StringLatin1", "indexOf", "([BIII)I"⟩ : MethodName)) hown (mvT hZ (tw hw 132 rfl)) (mvT hZ (tw hw 133 rfl)) (mvT hZ (tw hw 89 rfl)) (mvT hZ (tw hw 134 rfl)) (by decide) (backOf (W := 0) (rmLI46 l Z a0 hw [] ut H0kb h0 n0 Z0 H0A) hZ (tw hw 134 rfl) (tw hw 89 rfl) (by decide) (by decide)) (g := (mkF m 17 #[rv up, iv 46, iv 0] [(.int 3), (.int 0), (.int 46), (.ref ut)])) rfl (by rw [hml]; rfl) (argsL := [(.ref ut), (.int 46), (.int 0), (.int 3)]) (rest := []) (lenOf pdIC46 rfl) rfl (leW rfl) (hb hby dI246_17) (fun _ _ => ⟨rfl, e41, (leB rfl), (leB rfl)⟩)
  dsimp only [Pt.U, Pt.locs, Pt.cells, Pt.slots] at X53 l59 y60 z61 st62 hQ58
  subst l59 y60 z61
  obtain ⟨rfl, N68, e64⟩ := hQ58
  have N63 := Fr.app N40 N68
  refine Way.by st62 ?_
  show Way _ _ _ _ (T52.setTop (mkF m 20 #[rv up, iv 46, iv 0] [(.int 0)]))
  refine Way.by (fun _ k => XS.goto X53.here hx rfl (pc0 := 20) (pc' := 36) rfl (hb hby dI246_20) (by decide) (by decide) k) ?_
  show Way _ _ _ _ (T52.setTop (mkF m 36 #[rv up, iv 46, iv 0] [(.int 0)]))
  refine Way.ret (v := (some (.int 0))) X53 hlk (fun h => by rw [Bd.returns] at h; cases h) (fun fs hr => retI X53 hx Bd.returns (hb hby dI246_36) hr) ?_ (by decide) (by decide)
  show QI246 Z up ut h0 n0 _ T52.heap _
  rw [e64]
  exact ⟨rfl, N63, rfl⟩
def QI146 (Z : State) (up : Addr) (ut : Addr) (h0 : Heap) (n0 : Nat) (v : Option Value) (h : Heap) (L : List Loc) : Prop := v = some (.int 0) ∧ Fr n0 L ∧ h = h0
theorem dI146_0 : decode jdk_42_method_79_code 0 = .ok (.aload_n 0, 1) := by decide +kernel
theorem dI146_1 : decode jdk_42_method_79_code 1 = .ok (.iload_n 1, 1) := by decide +kernel
theorem dI146_2 : decode jdk_42_method_79_code 2 = .ok (.iconst 0, 1) := by decide +kernel
theorem dI146_3 : decode jdk_42_method_79_code 3 = .ok (.invokevirtual 633, 3) := by decide +kernel
theorem dI146_6 : decode jdk_42_method_79_code 6 = .ok (.ireturn, 1) := by decide +kernel
theorem pdI146 : parseMethodDescriptor "(I)I" = some ⟨[.int], some .int⟩ := by decide +kernel
set_option maxRecDepth 65536 in
set_option maxHeartbeats 40000000 in
theorem rmI146 (l : Launch) (Z : State) (a0 : Array Value) (hw : ∀ d ∈ tables_1, d.before a0 Z = true) (ws : List Jvm.Cond) (up : Addr) (ut : Addr) (h0 : Heap) (n0 : Nat) (Z0 : n0 ≤ h0.size) (H0 : own_Str Z h0 up ut [46, 95, 45]) (O0 : Old Z n0 h0) (SV : own_Env Z) :
    MetFree l (⟨"java/lang/String", "indexOf", "(I)I"⟩ : MethodName) (head1 (Jvm.Cond.code (⟨"java/lang/String", "indexOf", "(I)I"⟩ : MethodName) jdk_42_method_79_code 2 (some .int) :: ws) ({ frames := 3, cells := 0, slots := 0, locals := 46 } : Room)) (fun aa U => aa = #[(.ref up), (.int 46)] ∧ Z.Warmed39 U.vm ∧ U.heap = h0) (fun _ _ _ _ _ => True) (fun _ U o U' => ∃ v L, o = .returned v ∧ QI146 Z up ut h0 n0 v U'.heap L ∧ FrameEnd U o U' L ({ frames := 3, cells := 0, slots := 0, locals := 46 } : Room).cells ({ frames := 3, cells := 0, slots := 0, locals := 46 } : Room).slots) := by
  refine MetFree.of_bodySF (plainFor_of_name pnIL) hisR ?_
  intro p e s m args below meth c s₁ Bd hml0 hP hK
  obtain ⟨rfl, hZ, hh⟩ := hP
  have hx := Bd.exec
  have hby := Bd.bytes
  have hlk : meth.locks = false := BodyLoose.notSynchronized Bd
  have hml : c.maxLocals = 2 := hml0
  have hown : s.vm.findClass "java/lang/String" = some m.cls := findClass_of_methodNamed Bd.named
  have hnm := (name_of_methodNamed Bd.named Bd.method).1
  have X0 : Stand p l e ({ frames := 3, cells := 0, slots := 0, locals := 46 } : Room) s m #[(.ref up), (.int 46)] below meth c s₁ [] 0 0 := Stand.of_body Bd
  have e0 : s₁.heap = h0 := by rw [← hh, Bd.state]; rfl
  have N0 := Fr.nil n0
  have ef : entryFrame m #[(.ref up), (.int 46)] 2 = mkF m 0 #[rv up, iv 46] [] := by first | (simp [entryFrame, mkF, argsToLocals, Value.category, maxLocals]; done) | rfl
  show Way p.tables e below (KQ s (QI146 Z up ut h0 n0) ({ frames := 3, cells := 0, slots := 0, locals := 46 } : Room).cells ({ frames := 3, cells := 0, slots := 0, locals := 46 } : Room).slots) (s₁.setTop (entryFrame m #[(.ref up), (.int 46)] 2))
  rw [ef]
  refine Way.by (fun _ k => XS.aloadN X0.here hx rfl (hb hby dI146_0) rfl rfl k) ?_
  show Way _ _ _ _ (s₁.setTop (mkF m 1 #[rv up, iv 46] [(.ref up)]))
  refine Way.by (fun _ k => XS.iloadN X0.here hx rfl (hb hby dI146_1) rfl k) ?_
  show Way _ _ _ _ (s₁.setTop (mkF m 2 #[rv up, iv 46] [(.int 46), (.ref up)]))
  refine Way.by (fun _ k => XS.iconst X0.here hx rfl (hb hby dI146_2) k) ?_
  show Way _ _ _ _ (s₁.setTop (mkF m 3 #[rv up, iv 46] [(.int 0), (.int 46), (.ref up)]))
  obtain ⟨cq17, kq18, qa19, qb20, qc21⟩ := isOf hZ e0 H0.1
  obtain ⟨_, _, ⟨T1, L3, k4, n5⟩, -, X2, ⟨Lc6, hQ7, l8, y9, z10⟩, st11⟩ := X0.virtualBack hx (y := (⟨"java/lang/String", "indexOf", "(II)I"⟩ : MethodName)) (z := (⟨"java/lang/String", "indexOf", "(II)I"⟩ : MethodName)) hown (mvT hZ (tw hw 126 rfl)) (mvT hZ (tw hw 127 rfl)) (notFace_of_selects (args := #[]) (mvT hZ (tw hw 129 rfl))) (mvT hZ (tw hw 129 rfl)) (mvT hZ (tw hw 128 rfl)) (by decide) (backOf (W := 0) (rmI246 l Z a0 hw [] up ut h0 n0 Z0 H0 O0 SV) hZ (tw hw 130 rfl) (tw hw 11 rfl) (by decide) (by decide)) qa19 qc21 (g := (mkF m 3 #[rv up, iv 46] [(.int 0), (.int 46), (.ref up)])) rfl (by rw [hml]; rfl) (Steps.refl _) (argsL := [(.int 46), (.int 0)]) (rest := []) (lenOf pdMX rfl) rfl (leW rfl) (hb hby dI146_3) (fun _ _ => ⟨rfl, e0, (leB rfl), (leB rfl)⟩)
  dsimp only [Pt.U, Pt.locs, Pt.cells, Pt.slots] at X2 l8 y9 z10 st11 hQ7
  subst l8 y9 z10
  obtain ⟨rfl, N22, e13⟩ := hQ7
  have N12 := Fr.app N0 N22
  refine Way.to st11 ?_
  show Way _ _ _ _ (T1.setTop (mkF m 6 #[rv up, iv 46] [(.int 0)]))
  refine Way.ret (v := (some (.int 0))) X2 hlk (fun h => by rw [Bd.returns] at h; cases h) (fun fs hr => retI X2 hx Bd.returns (hb hby dI146_6) hr) ?_ (by decide) (by decide)
  show QI146 Z up ut h0 n0 _ T1.heap _
  rw [e13]
  exact ⟨rfl, N12, rfl⟩
def QCE95 (Z : State)  (h0 : Heap) (n0 : Nat) (v : Option Value) (h : Heap) (L : List Loc) : Prop := v = some (.int 1) ∧ Fr n0 L ∧ h = h0
set_option maxRecDepth 65536 in
set_option maxHeartbeats 40000000 in
theorem rmCE95 (l : Launch) (Z : State) (a0 : Array Value) (hw : ∀ d ∈ tables_1, d.before a0 Z = true) (ws : List Jvm.Cond)  (h0 : Heap) (n0 : Nat) (Z0 : n0 ≤ h0.size)  :
    MetFree l (⟨"java/lang/StringLatin1", "canEncode", "(I)Z"⟩ : MethodName) (head1 (Jvm.Cond.code (⟨"java/lang/StringLatin1", "canEncode", "(I)Z"⟩ : MethodName) jdk_43_method_4_code 1 (some .boolean) :: ws) ({ frames := 0, cells := 0, slots := 0, locals := 0 } : Room)) (fun aa U => aa = #[(.int 95)] ∧ Z.Warmed39 U.vm ∧ U.heap = h0) (fun _ _ _ _ _ => True) (fun _ U o U' => ∃ v L, o = .returned v ∧ QCE95 Z  h0 n0 v U'.heap L ∧ FrameEnd U o U' L ({ frames := 0, cells := 0, slots := 0, locals := 0 } : Room).cells ({ frames := 0, cells := 0, slots := 0, locals := 0 } : Room).slots) := by
  refine MetFree.of_bodySF (plainFor_of_name pnCE46) hisR ?_
  intro p e s m args below meth c s₁ Bd hml0 hP hK
  obtain ⟨rfl, hZ, hh⟩ := hP
  have hx := Bd.exec
  have hby := Bd.bytes
  have hlk : meth.locks = false := BodyLoose.notSynchronized Bd
  have hml : c.maxLocals = 1 := hml0
  have hown : s.vm.findClass "java/lang/StringLatin1" = some m.cls := findClass_of_methodNamed Bd.named
  have hnm := (name_of_methodNamed Bd.named Bd.method).1
  have X0 : Stand p l e ({ frames := 0, cells := 0, slots := 0, locals := 0 } : Room) s m #[(.int 95)] below meth c s₁ [] 0 0 := Stand.of_body Bd
  have e0 : s₁.heap = h0 := by rw [← hh, Bd.state]; rfl
  have N0 := Fr.nil n0
  have ef : entryFrame m #[(.int 95)] 1 = mkF m 0 #[iv 95] [] := by first | (simp [entryFrame, mkF, argsToLocals, Value.category, maxLocals]; done) | rfl
  show Way p.tables e below (KQ s (QCE95 Z  h0 n0) ({ frames := 0, cells := 0, slots := 0, locals := 0 } : Room).cells ({ frames := 0, cells := 0, slots := 0, locals := 0 } : Room).slots) (s₁.setTop (entryFrame m #[(.int 95)] 1))
  rw [ef]
  refine Way.by (fun _ k => XS.iloadN X0.here hx rfl (hb hby dCE46_0) rfl k) ?_
  show Way _ _ _ _ (s₁.setTop (mkF m 1 #[iv 95] [(.int 95)]))
  have b1 : ¬ (95 : Int32) < (0 : Int32) := by decide
  refine Way.by (fun _ k => XS.ifNo X0.here hx rfl (hb hby dCE46_1) rfl ((if0 .lt _).trans (flt b1).1) k) ?_
  show Way _ _ _ _ (s₁.setTop (mkF m 4 #[iv 95] []))
  refine Way.by (fun _ k => XS.iloadN X0.here hx rfl (hb hby dCE46_4) rfl k) ?_
  show Way _ _ _ _ (s₁.setTop (mkF m 5 #[iv 95] [(.int 95)]))
  refine Way.by (fun _ k => XS.sipush X0.here hx rfl (hb hby dCE46_5) k) ?_
  show Way _ _ _ _ (s₁.setTop (mkF m 8 #[iv 95] [(.int 255), (.int 95)]))
  have b2 : ¬ (255 : Int32) < (95 : Int32) := by decide
  refine Way.by (fun _ k => XS.icmpNo X0.here hx rfl (hb hby dCE46_8) rfl (flt b2).2.2.1 k) ?_
  show Way _ _ _ _ (s₁.setTop (mkF m 11 #[iv 95] []))
  refine Way.by (fun _ k => XS.iconst X0.here hx rfl (hb hby dCE46_11) k) ?_
  show Way _ _ _ _ (s₁.setTop (mkF m 12 #[iv 95] [(.int 1)]))
  refine Way.by (fun _ k => XS.goto X0.here hx rfl (pc0 := 12) (pc' := 16) rfl (hb hby dCE46_12) (by decide) (by decide) k) ?_
  show Way _ _ _ _ (s₁.setTop (mkF m 16 #[iv 95] [(.int 1)]))
  refine Way.ret (v := (some (.int (nar .boolean (1 : Int32))))) X0 hlk (fun h => by rw [Bd.returns] at h; cases h) (fun fs hr => retN X0 hx (t := .boolean) Bd.returns (by simp) (hb hby dCE46_16) hr) ?_ (by decide) (by decide)
  show QCE95 Z  h0 n0 _ s₁.heap _
  rw [e0]
  exact ⟨rfl, N0, rfl⟩
def QIC95 (Z : State) (ut : Addr) (kb : ClassId) (h0 : Heap) (n0 : Nat) (v : Option Value) (h : Heap) (L : List Loc) : Prop := v = some (.int 1) ∧ Fr n0 L ∧ h = h0
theorem dIC95_25 : decode jdk_43_method_23_code 25 = .ok (.iinc 5 1, 3) := by decide +kernel
theorem dIC95_28 : decode jdk_43_method_23_code 28 = .ok (.goto (-21), 3) := by decide +kernel
set_option maxRecDepth 65536 in
set_option maxHeartbeats 40000000 in
theorem rmIC95 (l : Launch) (Z : State) (a0 : Array Value) (hw : ∀ d ∈ tables_1, d.before a0 Z = true) (ws : List Jvm.Cond) (ut : Addr) (kb : ClassId) (h0 : Heap) (n0 : Nat) (Z0 : n0 ≤ h0.size) (H0 : Arv Z h0 ut kb .byte (3 : Int32) [(.int 46), (.int 95), (.int 45)] (.int 0)) :
    MetFree l (⟨"java/lang/StringLatin1", "indexOfChar", "([BIII)I"⟩ : MethodName) (head1 (Jvm.Cond.code (⟨"java/lang/StringLatin1", "indexOfChar", "([BIII)I"⟩ : MethodName) jdk_43_method_23_code 6 (some .int) :: ws) ({ frames := 0, cells := 0, slots := 0, locals := 0 } : Room)) (fun aa U => aa = #[(.ref ut), (.int 95), (.int 0), (.int 3)] ∧ Z.Warmed39 U.vm ∧ U.heap = h0) (fun _ _ _ _ _ => True) (fun _ U o U' => ∃ v L, o = .returned v ∧ QIC95 Z ut kb h0 n0 v U'.heap L ∧ FrameEnd U o U' L ({ frames := 0, cells := 0, slots := 0, locals := 0 } : Room).cells ({ frames := 0, cells := 0, slots := 0, locals := 0 } : Room).slots) := by
  refine MetFree.of_bodySF (plainFor_of_name pnCE46) hisR ?_
  intro p e s m args below meth c s₁ Bd hml0 hP hK
  obtain ⟨rfl, hZ, hh⟩ := hP
  have hx := Bd.exec
  have hby := Bd.bytes
  have hlk : meth.locks = false := BodyLoose.notSynchronized Bd
  have hml : c.maxLocals = 6 := hml0
  have hown : s.vm.findClass "java/lang/StringLatin1" = some m.cls := findClass_of_methodNamed Bd.named
  have hnm := (name_of_methodNamed Bd.named Bd.method).1
  have X0 : Stand p l e ({ frames := 0, cells := 0, slots := 0, locals := 0 } : Room) s m #[(.ref ut), (.int 95), (.int 0), (.int 3)] below meth c s₁ [] 0 0 := Stand.of_body Bd
  have e0 : s₁.heap = h0 := by rw [← hh, Bd.state]; rfl
  have N0 := Fr.nil n0
  have ef : entryFrame m #[(.ref ut), (.int 95), (.int 0), (.int 3)] 6 = mkF m 0 #[rv ut, iv 95, iv 0, iv 3, .unset, .unset] [] := by first | (simp [entryFrame, mkF, argsToLocals, Value.category, maxLocals]; done) | rfl
  show Way p.tables e below (KQ s (QIC95 Z ut kb h0 n0) ({ frames := 0, cells := 0, slots := 0, locals := 0 } : Room).cells ({ frames := 0, cells := 0, slots := 0, locals := 0 } : Room).slots) (s₁.setTop (entryFrame m #[(.ref ut), (.int 95), (.int 0), (.int 3)] 6))
  rw [ef]
  refine Way.by (fun _ k => XS.iloadN X0.here hx rfl (hb hby dIC46_0) rfl k) ?_
  show Way _ _ _ _ (s₁.setTop (mkF m 1 #[rv ut, iv 95, iv 0, iv 3, .unset, .unset] [(.int 95)]))
  refine Way.by (fun _ k => XT.i2b X0.here hx rfl (hb hby dIC46_1) rfl k) ?_
  show Way _ _ _ _ (s₁.setTop (mkF m 2 #[rv ut, iv 95, iv 0, iv 3, .unset, .unset] [(.int 95)]))
  refine Way.by (fun _ k => XS.istore X0.here hx rfl (hb hby dIC46_2) rfl (l' := #[rv ut, iv 95, iv 0, iv 3, iv 95, .unset]) rfl k) ?_
  show Way _ _ _ _ (s₁.setTop (mkF m 4 #[rv ut, iv 95, iv 0, iv 3, iv 95, .unset] []))
  refine Way.by (fun _ k => XS.iloadN X0.here hx rfl (hb hby dIC46_4) rfl k) ?_
  show Way _ _ _ _ (s₁.setTop (mkF m 5 #[rv ut, iv 95, iv 0, iv 3, iv 95, .unset] [(.int 0)]))
  refine Way.by (fun _ k => XS.istore X0.here hx rfl (hb hby dIC46_5) rfl (l' := #[rv ut, iv 95, iv 0, iv 3, iv 95, iv 0]) rfl k) ?_
  show Way _ _ _ _ (s₁.setTop (mkF m 7 #[rv ut, iv 95, iv 0, iv 3, iv 95, iv 0] []))
  refine Way.by (fun _ k => XS.iload X0.here hx rfl (hb hby dIC46_7) rfl k) ?_
  show Way _ _ _ _ (s₁.setTop (mkF m 9 #[rv ut, iv 95, iv 0, iv 3, iv 95, iv 0] [(.int 0)]))
  refine Way.by (fun _ k => XS.iloadN X0.here hx rfl (hb hby dIC46_9) rfl k) ?_
  show Way _ _ _ _ (s₁.setTop (mkF m 10 #[rv ut, iv 95, iv 0, iv 3, iv 95, iv 0] [(.int 3), (.int 0)]))
  have b1 : (0 : Int32) < (3 : Int32) := by decide
  refine Way.by (fun _ k => XS.icmpNo X0.here hx rfl (hb hby dIC46_10) rfl (tlt b1).2.1 k) ?_
  show Way _ _ _ _ (s₁.setTop (mkF m 13 #[rv ut, iv 95, iv 0, iv 3, iv 95, iv 0] []))
  refine Way.by (fun _ k => XS.aloadN X0.here hx rfl (hb hby dIC46_13) rfl rfl k) ?_
  show Way _ _ _ _ (s₁.setTop (mkF m 14 #[rv ut, iv 95, iv 0, iv 3, iv 95, iv 0] [(.ref ut)]))
  refine Way.by (fun _ k => XS.iload X0.here hx rfl (hb hby dIC46_14) rfl k) ?_
  show Way _ _ _ _ (s₁.setTop (mkF m 16 #[rv ut, iv 95, iv 0, iv 3, iv 95, iv 0] [(.int 0), (.ref ut)]))
  obtain ⟨c2, A3, q4, S5, M6, H7, U8⟩ := id H0
  refine Way.by (fun t k => Stand.baloadBytes X0 hx (hpE e0 A3.1) (arrS hZ A3) A3.2.2 (inb_of S5 ⟨(by decide), (by decide)⟩) (Has.at H7 (inb_of S5 ⟨(by decide), (by decide)⟩) rfl) (g := (mkF m 16 #[rv ut, iv 95, iv 0, iv 3, iv 95, iv 0] [(.int 0), (.ref ut)])) rfl rfl (hb hby dIC46_16) t k) ?_
  show Way _ _ _ _ (s₁.setTop (mkF m 17 #[rv ut, iv 95, iv 0, iv 3, iv 95, iv 0] [(.int 46)]))
  refine Way.by (fun _ k => XS.iload X0.here hx rfl (hb hby dIC46_17) rfl k) ?_
  show Way _ _ _ _ (s₁.setTop (mkF m 19 #[rv ut, iv 95, iv 0, iv 3, iv 95, iv 0] [(.int 95), (.int 46)]))
  have b9 : ¬ (46 : Int32) = (95 : Int32) := by decide
  refine Way.by (fun _ k => XS.icmpYes X0.here hx rfl (pc0 := 19) (pc' := 25) rfl (hb hby dIC46_19) rfl (feq b9).2 (by decide) (by decide) k) ?_
  show Way _ _ _ _ (s₁.setTop (mkF m 25 #[rv ut, iv 95, iv 0, iv 3, iv 95, iv 0] []))
  refine Way.by (fun _ k => XS.iinc X0.here hx rfl (hb hby dIC95_25) rfl (l' := #[rv ut, iv 95, iv 0, iv 3, iv 95, iv 1]) rfl k) ?_
  show Way _ _ _ _ (s₁.setTop (mkF m 28 #[rv ut, iv 95, iv 0, iv 3, iv 95, iv 1] []))
  refine Way.by (fun _ k => XS.goto X0.here hx rfl (pc0 := 28) (pc' := 7) rfl (hb hby dIC95_28) (by decide) (by decide) k) ?_
  show Way _ _ _ _ (s₁.setTop (mkF m 7 #[rv ut, iv 95, iv 0, iv 3, iv 95, iv 1] []))
  refine Way.by (fun _ k => XS.iload X0.here hx rfl (hb hby dIC46_7) rfl k) ?_
  show Way _ _ _ _ (s₁.setTop (mkF m 9 #[rv ut, iv 95, iv 0, iv 3, iv 95, iv 1] [(.int 1)]))
  refine Way.by (fun _ k => XS.iloadN X0.here hx rfl (hb hby dIC46_9) rfl k) ?_
  show Way _ _ _ _ (s₁.setTop (mkF m 10 #[rv ut, iv 95, iv 0, iv 3, iv 95, iv 1] [(.int 3), (.int 1)]))
  have b10 : (1 : Int32) < (3 : Int32) := by decide
  refine Way.by (fun _ k => XS.icmpNo X0.here hx rfl (hb hby dIC46_10) rfl (tlt b10).2.1 k) ?_
  show Way _ _ _ _ (s₁.setTop (mkF m 13 #[rv ut, iv 95, iv 0, iv 3, iv 95, iv 1] []))
  refine Way.by (fun _ k => XS.aloadN X0.here hx rfl (hb hby dIC46_13) rfl rfl k) ?_
  show Way _ _ _ _ (s₁.setTop (mkF m 14 #[rv ut, iv 95, iv 0, iv 3, iv 95, iv 1] [(.ref ut)]))
  refine Way.by (fun _ k => XS.iload X0.here hx rfl (hb hby dIC46_14) rfl k) ?_
  show Way _ _ _ _ (s₁.setTop (mkF m 16 #[rv ut, iv 95, iv 0, iv 3, iv 95, iv 1] [(.int 1), (.ref ut)]))
  obtain ⟨c11, A12, q13, S14, M15, H16, U17⟩ := id H0
  refine Way.by (fun t k => Stand.baloadBytes X0 hx (hpE e0 A12.1) (arrS hZ A12) A12.2.2 (inb_of S14 ⟨(by decide), (by decide)⟩) (Has.at H16 (inb_of S14 ⟨(by decide), (by decide)⟩) rfl) (g := (mkF m 16 #[rv ut, iv 95, iv 0, iv 3, iv 95, iv 1] [(.int 1), (.ref ut)])) rfl rfl (hb hby dIC46_16) t k) ?_
  show Way _ _ _ _ (s₁.setTop (mkF m 17 #[rv ut, iv 95, iv 0, iv 3, iv 95, iv 1] [(.int 95)]))
  refine Way.by (fun _ k => XS.iload X0.here hx rfl (hb hby dIC46_17) rfl k) ?_
  show Way _ _ _ _ (s₁.setTop (mkF m 19 #[rv ut, iv 95, iv 0, iv 3, iv 95, iv 1] [(.int 95), (.int 95)]))
  have b18 : (95 : Int32) = (95 : Int32) := by decide
  refine Way.by (fun _ k => XS.icmpNo X0.here hx rfl (hb hby dIC46_19) rfl (teq b18).2 k) ?_
  show Way _ _ _ _ (s₁.setTop (mkF m 22 #[rv ut, iv 95, iv 0, iv 3, iv 95, iv 1] []))
  refine Way.by (fun _ k => XS.iload X0.here hx rfl (hb hby dIC46_22) rfl k) ?_
  show Way _ _ _ _ (s₁.setTop (mkF m 24 #[rv ut, iv 95, iv 0, iv 3, iv 95, iv 1] [(.int 1)]))
  refine Way.ret (v := (some (.int 1))) X0 hlk (fun h => by rw [Bd.returns] at h; cases h) (fun fs hr => retI X0 hx Bd.returns (hb hby dIC46_24) hr) ?_ (by decide) (by decide)
  show QIC95 Z ut kb h0 n0 _ s₁.heap _
  rw [e0]
  exact ⟨rfl, N0, rfl⟩
def QLI95 (Z : State) (ut : Addr) (kb : ClassId) (h0 : Heap) (n0 : Nat) (v : Option Value) (h : Heap) (L : List Loc) : Prop := v = some (.int 1) ∧ Fr n0 L ∧ h = h0
set_option maxRecDepth 65536 in
set_option maxHeartbeats 40000000 in
theorem rmLI95 (l : Launch) (Z : State) (a0 : Array Value) (hw : ∀ d ∈ tables_1, d.before a0 Z = true) (ws : List Jvm.Cond) (ut : Addr) (kb : ClassId) (h0 : Heap) (n0 : Nat) (Z0 : n0 ≤ h0.size) (H0 : Arv Z h0 ut kb .byte (3 : Int32) [(.int 46), (.int 95), (.int 45)] (.int 0)) :
    MetFree l (⟨"java/lang/StringLatin1", "indexOf", "([BIII)I"⟩ : MethodName) (head1 (Jvm.Cond.code (⟨"java/lang/StringLatin1", "indexOf", "([BIII)I"⟩ : MethodName) jdk_43_method_22_code 4 (some .int) :: ws) ({ frames := 1, cells := 0, slots := 0, locals := 17 } : Room)) (fun aa U => aa = #[(.ref ut), (.int 95), (.int 0), (.int 3)] ∧ Z.Warmed39 U.vm ∧ U.heap = h0) (fun _ _ _ _ _ => True) (fun _ U o U' => ∃ v L, o = .returned v ∧ QLI95 Z ut kb h0 n0 v U'.heap L ∧ FrameEnd U o U' L ({ frames := 1, cells := 0, slots := 0, locals := 17 } : Room).cells ({ frames := 1, cells := 0, slots := 0, locals := 17 } : Room).slots) := by
  refine MetFree.of_bodySF (plainFor_of_name pnCE46) hisR ?_
  intro p e s m args below meth c s₁ Bd hml0 hP hK
  obtain ⟨rfl, hZ, hh⟩ := hP
  have hx := Bd.exec
  have hby := Bd.bytes
  have hlk : meth.locks = false := BodyLoose.notSynchronized Bd
  have hml : c.maxLocals = 4 := hml0
  have hown : s.vm.findClass "java/lang/StringLatin1" = some m.cls := findClass_of_methodNamed Bd.named
  have hnm := (name_of_methodNamed Bd.named Bd.method).1
  have X0 : Stand p l e ({ frames := 1, cells := 0, slots := 0, locals := 17 } : Room) s m #[(.ref ut), (.int 95), (.int 0), (.int 3)] below meth c s₁ [] 0 0 := Stand.of_body Bd
  have e0 : s₁.heap = h0 := by rw [← hh, Bd.state]; rfl
  have N0 := Fr.nil n0
  have ef : entryFrame m #[(.ref ut), (.int 95), (.int 0), (.int 3)] 4 = mkF m 0 #[rv ut, iv 95, iv 0, iv 3] [] := by first | (simp [entryFrame, mkF, argsToLocals, Value.category, maxLocals]; done) | rfl
  show Way p.tables e below (KQ s (QLI95 Z ut kb h0 n0) ({ frames := 1, cells := 0, slots := 0, locals := 17 } : Room).cells ({ frames := 1, cells := 0, slots := 0, locals := 17 } : Room).slots) (s₁.setTop (entryFrame m #[(.ref ut), (.int 95), (.int 0), (.int 3)] 4))
  rw [ef]
  refine Way.by (fun _ k => XS.iloadN X0.here hx rfl (hb hby dLI46_0) rfl k) ?_
  show Way _ _ _ _ (s₁.setTop (mkF m 1 #[rv ut, iv 95, iv 0, iv 3] [(.int 95)]))
  obtain ⟨_, _, ⟨T1, L3, k4, n5⟩, -, X2, ⟨Lc6, hQ7, l8, y9, z10⟩, st11⟩ := Jvm.LawKit.callS X0 hx (y := (⟨"java/lang/StringLatin1", "canEncode", "(I)Z"⟩ : MethodName)) hown (mvT hZ (tw hw 135 rfl)) (mvT hZ (tw hw 136 rfl)) (mvT hZ (tw hw 89 rfl)) (mvT hZ (tw hw 137 rfl)) (by decide) (backOf (W := 0) (rmCE95 l Z a0 hw []  h0 n0 Z0 ) hZ (tw hw 137 rfl) (tw hw 89 rfl) (by decide) (by decide)) (g := (mkF m 1 #[rv ut, iv 95, iv 0, iv 3] [(.int 95)])) rfl (by rw [hml]; rfl) (argsL := [(.int 95)]) (rest := []) (lenOf pdCE46 rfl) rfl (leW rfl) (hb hby dLI46_1) (fun _ _ => ⟨rfl, e0, (leB rfl), (leB rfl)⟩)
  dsimp only [Pt.U, Pt.locs, Pt.cells, Pt.slots] at X2 l8 y9 z10 st11 hQ7
  subst l8 y9 z10
  obtain ⟨rfl, N17, e13⟩ := hQ7
  have N12 := Fr.app N0 N17
  refine Way.by st11 ?_
  show Way _ _ _ _ (T1.setTop (mkF m 4 #[rv ut, iv 95, iv 0, iv 3] [(.int 1)]))
  have b19 : ¬ (1 : Int32) = (0 : Int32) := by decide
  refine Way.by (fun _ k => XS.ifYes X2.here hx rfl (pc0 := 4) (pc' := 9) rfl (hb hby dLI46_4) rfl ((if0 .ne _).trans (feq b19).2) (by decide) (by decide) k) ?_
  show Way _ _ _ _ (T1.setTop (mkF m 9 #[rv ut, iv 95, iv 0, iv 3] []))
  refine Way.by (fun _ k => XS.iloadN X2.here hx rfl (hb hby dLI46_9) rfl k) ?_
  show Way _ _ _ _ (T1.setTop (mkF m 10 #[rv ut, iv 95, iv 0, iv 3] [(.int 0)]))
  refine Way.by (fun _ k => XS.iconst X2.here hx rfl (hb hby dLI46_10) k) ?_
  show Way _ _ _ _ (T1.setTop (mkF m 11 #[rv ut, iv 95, iv 0, iv 3] [(.int 0), (.int 0)]))
  obtain ⟨_, _, ⟨T20, L22, k23, n24⟩, -, X21, ⟨Lc25, hQ26, l27, y28, z29⟩, st30⟩ := Jvm.LawKit.callS X2 hx (y := (⟨"java/lang/Math", "max", "(II)I"⟩ : MethodName)) hown (mvT hZ (tw hw 138 rfl)) (mvT hZ (tw hw 139 rfl)) (mvT hZ (tw hw 140 rfl)) (mvT hZ (tw hw 141 rfl)) (by decide) (backOf (W := 0) (rmMX l Z a0 hw [] (0 : Int32) (0 : Int32) (0 : Int32) h0 n0 Z0 (by decide)) hZ (tw hw 141 rfl) (tw hw 140 rfl) (by decide) (by decide)) (g := (mkF m 11 #[rv ut, iv 95, iv 0, iv 3] [(.int 0), (.int 0)])) rfl (by rw [hml]; rfl) (argsL := [(.int 0), (.int 0)]) (rest := []) (lenOf pdMX rfl) rfl (leW rfl) (hb hby dLI46_11) (fun _ _ => ⟨rfl, e13, (leB rfl), (leB rfl)⟩)
  dsimp only [Pt.U, Pt.locs, Pt.cells, Pt.slots] at X21 l27 y28 z29 st30 hQ26
  subst l27 y28 z29
  obtain ⟨rfl, N36, e32⟩ := hQ26
  have N31 := Fr.app N12 N36
  refine Way.by st30 ?_
  show Way _ _ _ _ (T20.setTop (mkF m 14 #[rv ut, iv 95, iv 0, iv 3] [(.int 0)]))
  refine Way.by (fun _ k => XS.istoreN X21.here hx rfl (hb hby dLI46_14) rfl (l' := #[rv ut, iv 95, iv 0, iv 3]) rfl k) ?_
  show Way _ _ _ _ (T20.setTop (mkF m 15 #[rv ut, iv 95, iv 0, iv 3] []))
  refine Way.by (fun _ k => XS.iloadN X21.here hx rfl (hb hby dLI46_15) rfl k) ?_
  show Way _ _ _ _ (T20.setTop (mkF m 16 #[rv ut, iv 95, iv 0, iv 3] [(.int 3)]))
  refine Way.by (fun _ k => XS.aloadN X21.here hx rfl (hb hby dLI46_16) rfl rfl k) ?_
  show Way _ _ _ _ (T20.setTop (mkF m 17 #[rv ut, iv 95, iv 0, iv 3] [(.ref ut), (.int 3)]))
  obtain ⟨c38, A39, q40, S41, M42, H43, U44⟩ := id H0
  refine Way.by (fun t k => Stand.arraylength X21 hx (hpE e32 A39.1) (arrS hZ A39) (g := (mkF m 17 #[rv ut, iv 95, iv 0, iv 3] [(.ref ut), (.int 3)])) rfl rfl (hb hby dLI46_17) t k) ?_
  rw [len_of S41 M42]
  show Way _ _ _ _ (T20.setTop (mkF m 18 #[rv ut, iv 95, iv 0, iv 3] [(.int 3), (.int 3)]))
  obtain ⟨_, _, ⟨T45, L47, k48, n49⟩, -, X46, ⟨Lc50, hQ51, l52, y53, z54⟩, st55⟩ := Jvm.LawKit.callS X21 hx (y := (⟨"java/lang/Math", "min", "(II)I"⟩ : MethodName)) hown (mvT hZ (tw hw 142 rfl)) (mvT hZ (tw hw 143 rfl)) (mvT hZ (tw hw 140 rfl)) (mvT hZ (tw hw 144 rfl)) (by decide) (backOf (W := 0) (rmMN l Z a0 hw [] (3 : Int32) (3 : Int32) (3 : Int32) h0 n0 Z0 (by decide)) hZ (tw hw 144 rfl) (tw hw 140 rfl) (by decide) (by decide)) (g := (mkF m 18 #[rv ut, iv 95, iv 0, iv 3] [(.int 3), (.int 3)])) rfl (by rw [hml]; rfl) (argsL := [(.int 3), (.int 3)]) (rest := []) (lenOf pdMX rfl) rfl (leW rfl) (hb hby dLI46_18) (fun _ _ => ⟨rfl, e32, (leB rfl), (leB rfl)⟩)
  dsimp only [Pt.U, Pt.locs, Pt.cells, Pt.slots] at X46 l52 y53 z54 st55 hQ51
  subst l52 y53 z54
  obtain ⟨rfl, N61, e57⟩ := hQ51
  have N56 := Fr.app N31 N61
  refine Way.by st55 ?_
  show Way _ _ _ _ (T45.setTop (mkF m 21 #[rv ut, iv 95, iv 0, iv 3] [(.int 3)]))
  refine Way.by (fun _ k => XS.istoreN X46.here hx rfl (hb hby dLI46_21) rfl (l' := #[rv ut, iv 95, iv 0, iv 3]) rfl k) ?_
  show Way _ _ _ _ (T45.setTop (mkF m 22 #[rv ut, iv 95, iv 0, iv 3] []))
  refine Way.by (fun _ k => XS.iloadN X46.here hx rfl (hb hby dLI46_22) rfl k) ?_
  show Way _ _ _ _ (T45.setTop (mkF m 23 #[rv ut, iv 95, iv 0, iv 3] [(.int 0)]))
  refine Way.by (fun _ k => XS.iloadN X46.here hx rfl (hb hby dLI46_23) rfl k) ?_
  show Way _ _ _ _ (T45.setTop (mkF m 24 #[rv ut, iv 95, iv 0, iv 3] [(.int 3), (.int 0)]))
  have b63 : (0 : Int32) < (3 : Int32) := by decide
  refine Way.by (fun _ k => XS.icmpYes X46.here hx rfl (pc0 := 24) (pc' := 29) rfl (hb hby dLI46_24) rfl (tlt b63).1 (by decide) (by decide) k) ?_
  show Way _ _ _ _ (T45.setTop (mkF m 29 #[rv ut, iv 95, iv 0, iv 3] []))
  refine Way.by (fun _ k => XS.aloadN X46.here hx rfl (hb hby dLI46_29) rfl rfl k) ?_
  show Way _ _ _ _ (T45.setTop (mkF m 30 #[rv ut, iv 95, iv 0, iv 3] [(.ref ut)]))
  refine Way.by (fun _ k => XS.iloadN X46.here hx rfl (hb hby dLI46_30) rfl k) ?_
  show Way _ _ _ _ (T45.setTop (mkF m 31 #[rv ut, iv 95, iv 0, iv 3] [(.int 95), (.ref ut)]))
  refine Way.by (fun _ k => XS.iloadN X46.here hx rfl (hb hby dLI46_31) rfl k) ?_
  show Way _ _ _ _ (T45.setTop (mkF m 32 #[rv ut, iv 95, iv 0, iv 3] [(.int 0), (.int 95), (.ref ut)]))
  refine Way.by (fun _ k => XS.iloadN X46.here hx rfl (hb hby dLI46_32) rfl k) ?_
  show Way _ _ _ _ (T45.setTop (mkF m 33 #[rv ut, iv 95, iv 0, iv 3] [(.int 3), (.int 0), (.int 95), (.ref ut)]))
  obtain ⟨_, _, ⟨T64, L66, k67, n68⟩, -, X65, ⟨Lc69, hQ70, l71, y72, z73⟩, st74⟩ := Jvm.LawKit.callS X46 hx (y := (⟨"java/lang/StringLatin1", "indexOfChar", "([BIII)I"⟩ : MethodName)) hown (mvT hZ (tw hw 145 rfl)) (mvT hZ (tw hw 146 rfl)) (mvT hZ (tw hw 89 rfl)) (mvT hZ (tw hw 147 rfl)) (by decide) (backOf (W := 0) (rmIC95 l Z a0 hw [] ut kb h0 n0 Z0 H0) hZ (tw hw 147 rfl) (tw hw 89 rfl) (by decide) (by decide)) (g := (mkF m 33 #[rv ut, iv 95, iv 0, iv 3] [(.int 3), (.int 0), (.int 95), (.ref ut)])) rfl (by rw [hml]; rfl) (argsL := [(.ref ut), (.int 95), (.int 0), (.int 3)]) (rest := []) (lenOf pdIC46 rfl) rfl (leW rfl) (hb hby dLI46_33) (fun _ _ => ⟨rfl, e57, (leB rfl), (leB rfl)⟩)
  dsimp only [Pt.U, Pt.locs, Pt.cells, Pt.slots] at X65 l71 y72 z73 st74 hQ70
  subst l71 y72 z73
  obtain ⟨rfl, N80, e76⟩ := hQ70
  have N75 := Fr.app N56 N80
  refine Way.by st74 ?_
  show Way _ _ _ _ (T64.setTop (mkF m 36 #[rv ut, iv 95, iv 0, iv 3] [(.int 1)]))
  refine Way.ret (v := (some (.int 1))) X65 hlk (fun h => by rw [Bd.returns] at h; cases h) (fun fs hr => retI X65 hx Bd.returns (hb hby dLI46_36) hr) ?_ (by decide) (by decide)
  show QLI95 Z ut kb h0 n0 _ T64.heap _
  rw [e76]
  exact ⟨rfl, N75, rfl⟩
def QI295 (Z : State) (up : Addr) (ut : Addr) (h0 : Heap) (n0 : Nat) (v : Option Value) (h : Heap) (L : List Loc) : Prop := v = some (.int 1) ∧ Fr n0 L ∧ h = h0
set_option maxRecDepth 65536 in
set_option maxHeartbeats 40000000 in
theorem rmI295 (l : Launch) (Z : State) (a0 : Array Value) (hw : ∀ d ∈ tables_1, d.before a0 Z = true) (ws : List Jvm.Cond) (up : Addr) (ut : Addr) (h0 : Heap) (n0 : Nat) (Z0 : n0 ≤ h0.size) (H0 : own_Str Z h0 up ut [46, 95, 45]) (O0 : Old Z n0 h0) (SV : own_Env Z) :
    MetFree l (⟨"java/lang/String", "indexOf", "(II)I"⟩ : MethodName) (head1 (Jvm.Cond.code (⟨"java/lang/String", "indexOf", "(II)I"⟩ : MethodName) jdk_42_method_80_code 3 (some .int) :: ws) ({ frames := 2, cells := 0, slots := 0, locals := 32 } : Room)) (fun aa U => aa = #[(.ref up), (.int 95), (.int 0)] ∧ Z.Warmed39 U.vm ∧ U.heap = h0) (fun _ _ _ _ _ => True) (fun _ U o U' => ∃ v L, o = .returned v ∧ QI295 Z up ut h0 n0 v U'.heap L ∧ FrameEnd U o U' L ({ frames := 2, cells := 0, slots := 0, locals := 32 } : Room).cells ({ frames := 2, cells := 0, slots := 0, locals := 32 } : Room).slots) := by
  refine MetFree.of_bodySF (plainFor_of_name pnIL) hisR ?_
  intro p e s m args below meth c s₁ Bd hml0 hP hK
  obtain ⟨rfl, hZ, hh⟩ := hP
  have hx := Bd.exec
  have hby := Bd.bytes
  have hlk : meth.locks = false := BodyLoose.notSynchronized Bd
  have hml : c.maxLocals = 3 := hml0
  have hown : s.vm.findClass "java/lang/String" = some m.cls := findClass_of_methodNamed Bd.named
  have hnm := (name_of_methodNamed Bd.named Bd.method).1
  have X0 : Stand p l e ({ frames := 2, cells := 0, slots := 0, locals := 32 } : Room) s m #[(.ref up), (.int 95), (.int 0)] below meth c s₁ [] 0 0 := Stand.of_body Bd
  have e0 : s₁.heap = h0 := by rw [← hh, Bd.state]; rfl
  have N0 := Fr.nil n0
  have ef : entryFrame m #[(.ref up), (.int 95), (.int 0)] 3 = mkF m 0 #[rv up, iv 95, iv 0] [] := by first | (simp [entryFrame, mkF, argsToLocals, Value.category, maxLocals]; done) | rfl
  show Way p.tables e below (KQ s (QI295 Z up ut h0 n0) ({ frames := 2, cells := 0, slots := 0, locals := 32 } : Room).cells ({ frames := 2, cells := 0, slots := 0, locals := 32 } : Room).slots) (s₁.setTop (entryFrame m #[(.ref up), (.int 95), (.int 0)] 3))
  rw [ef]
  obtain ⟨H0E, H0V, H0C, -, H0B, H0Ln⟩ := id H0
  obtain ⟨H0kb, H0A0⟩ := H0.arv
  have H0A : Arv Z h0 ut H0kb .byte (3 : Int32) [(.int 46), (.int 95), (.int 45)] (.int 0) := H0A0
  refine Way.by (fun _ k => XS.aloadN X0.here hx rfl (hb hby dI246_0) rfl rfl k) ?_
  show Way _ _ _ _ (s₁.setTop (mkF m 1 #[rv up, iv 95, iv 0] [(.ref up)]))
  obtain ⟨cq17, kq18, qa19, qb20, qc21⟩ := isOf hZ e0 H0E
  obtain ⟨_, _, ⟨T1, L3, k4, n5⟩, -, X2, ⟨Lc6, hQ7, l8, y9, z10⟩, st11⟩ := X0.virtualBack hx (y := (⟨"java/lang/String", "isLatin1", "()Z"⟩ : MethodName)) (z := (⟨"java/lang/String", "isLatin1", "()Z"⟩ : MethodName)) hown (mvT hZ (tw hw 82 rfl)) (mvT hZ (tw hw 83 rfl)) (notFace_of_selects (args := #[]) (mvT hZ (tw hw 85 rfl))) (mvT hZ (tw hw 85 rfl)) (mvT hZ (tw hw 84 rfl)) (by decide) (backOf (W := 0) (rmIL l Z a0 hw [] up h0 n0 Z0 H0C O0 SV) hZ (tw hw 86 rfl) (tw hw 11 rfl) (by decide) (by decide)) qa19 qc21 (g := (mkF m 1 #[rv up, iv 95, iv 0] [(.ref up)])) rfl (by rw [hml]; rfl) (Steps.refl _) (argsL := []) (rest := []) (lenOf pdIL rfl) rfl (leW rfl) (hb hby dI246_1) (fun _ _ => ⟨rfl, e0, (leB rfl), (leB rfl)⟩)
  dsimp only [Pt.U, Pt.locs, Pt.cells, Pt.slots] at X2 l8 y9 z10 st11 hQ7
  subst l8 y9 z10
  obtain ⟨rfl, N22, e13⟩ := hQ7
  have N12 := Fr.app N0 N22
  refine Way.to st11 ?_
  show Way _ _ _ _ (T1.setTop (mkF m 4 #[rv up, iv 95, iv 0] [(.int 1)]))
  have b24 : ¬ (1 : Int32) = (0 : Int32) := by decide
  refine Way.by (fun _ k => XS.ifNo X2.here hx rfl (hb hby dI246_4) rfl ((if0 .eq _).trans (feq b24).1) k) ?_
  show Way _ _ _ _ (T1.setTop (mkF m 7 #[rv up, iv 95, iv 0] []))
  refine Way.by (fun _ k => XS.aloadN X2.here hx rfl (hb hby dI246_7) rfl rfl k) ?_
  show Way _ _ _ _ (T1.setTop (mkF m 8 #[rv up, iv 95, iv 0] [(.ref up)]))
  obtain ⟨T25, X26, e27, st28⟩ := getF X2 hx hZ hown (host := "") (Or.inl (tw hw 36 rfl)) Via.refl e13 H0V (g := (mkF m 8 #[rv up, iv 95, iv 0] [(.ref up)])) rfl rfl (hb hby dI246_8)
  refine Way.by st28 ?_
  show Way _ _ _ _ (T25.setTop (mkF m 11 #[rv up, iv 95, iv 0] [(.ref ut)]))
  refine Way.by (fun _ k => XS.iloadN X26.here hx rfl (hb hby dI246_11) rfl k) ?_
  show Way _ _ _ _ (T25.setTop (mkF m 12 #[rv up, iv 95, iv 0] [(.int 95), (.ref ut)]))
  refine Way.by (fun _ k => XS.iloadN X26.here hx rfl (hb hby dI246_12) rfl k) ?_
  show Way _ _ _ _ (T25.setTop (mkF m 13 #[rv up, iv 95, iv 0] [(.int 0), (.int 95), (.ref ut)]))
  refine Way.by (fun _ k => XS.aloadN X26.here hx rfl (hb hby dI246_13) rfl rfl k) ?_
  show Way _ _ _ _ (T25.setTop (mkF m 14 #[rv up, iv 95, iv 0] [(.ref up), (.int 0), (.int 95), (.ref ut)]))
  obtain ⟨cq45, kq46, qa47, qb48, qc49⟩ := isOf hZ e27 H0.1
  obtain ⟨_, _, ⟨T29, L31, k32, n33⟩, -, X30, ⟨Lc34, hQ35, l36, y37, z38⟩, st39⟩ := X26.virtualBack hx (y := (⟨"java/lang/String", "length", "()I"⟩ : MethodName)) (z := (⟨"java/lang/String", "length", "()I"⟩ : MethodName)) hown (mvT hZ (tw hw 131 rfl)) (mvT hZ (tw hw 64 rfl)) (notFace_of_selects (args := #[]) (mvT hZ (tw hw 66 rfl))) (mvT hZ (tw hw 66 rfl)) (mvT hZ (tw hw 65 rfl)) (by decide) (own_len (W := 3) (n0 := n0) hZ hw SV O0 (cs := [46, 95, 45]) H0 (by decide) (by decide)) qa47 qc49 (g := (mkF m 14 #[rv up, iv 95, iv 0] [(.ref up), (.int 0), (.int 95), (.ref ut)])) rfl (by rw [hml]; rfl) (Steps.refl _) (argsL := []) (rest := [(.int 0), (.int 95), (.ref ut)]) (lenOf own_pdLen rfl) rfl (leW rfl) (hb hby dI246_14) (fun _ _ => ⟨rfl, e27, (leB rfl), (leB rfl)⟩)
  dsimp only [Pt.U, Pt.locs, Pt.cells, Pt.slots] at X30 l36 y37 z38 st39 hQ35
  subst l36 y37 z38
  obtain ⟨rfl, N50, e41⟩ := hQ35
  have N40 := Fr.app N12 N50
  refine Way.to st39 ?_
  show Way _ _ _ _ (T29.setTop (mkF m 17 #[rv up, iv 95, iv 0] [(.int 3), (.int 0), (.int 95), (.ref ut)]))
  obtain ⟨_, _, ⟨T52, L54, k55, n56⟩, -, X53, ⟨Lc57, hQ58, l59, y60, z61⟩, st62⟩ := Jvm.LawKit.callS X30 hx (y := (⟨"java/lang/StringLatin1", "indexOf", "([BIII)I"⟩ : MethodName)) hown (mvT hZ (tw hw 132 rfl)) (mvT hZ (tw hw 133 rfl)) (mvT hZ (tw hw 89 rfl)) (mvT hZ (tw hw 134 rfl)) (by decide) (backOf (W := 0) (rmLI95 l Z a0 hw [] ut H0kb h0 n0 Z0 H0A) hZ (tw hw 134 rfl) (tw hw 89 rfl) (by decide) (by decide)) (g := (mkF m 17 #[rv up, iv 95, iv 0] [(.int 3), (.int 0), (.int 95), (.ref ut)])) rfl (by rw [hml]; rfl) (argsL := [(.ref ut), (.int 95), (.int 0), (.int 3)]) (rest := []) (lenOf pdIC46 rfl) rfl (leW rfl) (hb hby dI246_17) (fun _ _ => ⟨rfl, e41, (leB rfl), (leB rfl)⟩)
  dsimp only [Pt.U, Pt.locs, Pt.cells, Pt.slots] at X53 l59 y60 z61 st62 hQ58
  subst l59 y60 z61
  obtain ⟨rfl, N68, e64⟩ := hQ58
  have N63 := Fr.app N40 N68
  refine Way.by st62 ?_
  show Way _ _ _ _ (T52.setTop (mkF m 20 #[rv up, iv 95, iv 0] [(.int 1)]))
  refine Way.by (fun _ k => XS.goto X53.here hx rfl (pc0 := 20) (pc' := 36) rfl (hb hby dI246_20) (by decide) (by decide) k) ?_
  show Way _ _ _ _ (T52.setTop (mkF m 36 #[rv up, iv 95, iv 0] [(.int 1)]))
  refine Way.ret (v := (some (.int 1))) X53 hlk (fun h => by rw [Bd.returns] at h; cases h) (fun fs hr => retI X53 hx Bd.returns (hb hby dI246_36) hr) ?_ (by decide) (by decide)
  show QI295 Z up ut h0 n0 _ T52.heap _
  rw [e64]
  exact ⟨rfl, N63, rfl⟩
def QI195 (Z : State) (up : Addr) (ut : Addr) (h0 : Heap) (n0 : Nat) (v : Option Value) (h : Heap) (L : List Loc) : Prop := v = some (.int 1) ∧ Fr n0 L ∧ h = h0
set_option maxRecDepth 65536 in
set_option maxHeartbeats 40000000 in
theorem rmI195 (l : Launch) (Z : State) (a0 : Array Value) (hw : ∀ d ∈ tables_1, d.before a0 Z = true) (ws : List Jvm.Cond) (up : Addr) (ut : Addr) (h0 : Heap) (n0 : Nat) (Z0 : n0 ≤ h0.size) (H0 : own_Str Z h0 up ut [46, 95, 45]) (O0 : Old Z n0 h0) (SV : own_Env Z) :
    MetFree l (⟨"java/lang/String", "indexOf", "(I)I"⟩ : MethodName) (head1 (Jvm.Cond.code (⟨"java/lang/String", "indexOf", "(I)I"⟩ : MethodName) jdk_42_method_79_code 2 (some .int) :: ws) ({ frames := 3, cells := 0, slots := 0, locals := 46 } : Room)) (fun aa U => aa = #[(.ref up), (.int 95)] ∧ Z.Warmed39 U.vm ∧ U.heap = h0) (fun _ _ _ _ _ => True) (fun _ U o U' => ∃ v L, o = .returned v ∧ QI195 Z up ut h0 n0 v U'.heap L ∧ FrameEnd U o U' L ({ frames := 3, cells := 0, slots := 0, locals := 46 } : Room).cells ({ frames := 3, cells := 0, slots := 0, locals := 46 } : Room).slots) := by
  refine MetFree.of_bodySF (plainFor_of_name pnIL) hisR ?_
  intro p e s m args below meth c s₁ Bd hml0 hP hK
  obtain ⟨rfl, hZ, hh⟩ := hP
  have hx := Bd.exec
  have hby := Bd.bytes
  have hlk : meth.locks = false := BodyLoose.notSynchronized Bd
  have hml : c.maxLocals = 2 := hml0
  have hown : s.vm.findClass "java/lang/String" = some m.cls := findClass_of_methodNamed Bd.named
  have hnm := (name_of_methodNamed Bd.named Bd.method).1
  have X0 : Stand p l e ({ frames := 3, cells := 0, slots := 0, locals := 46 } : Room) s m #[(.ref up), (.int 95)] below meth c s₁ [] 0 0 := Stand.of_body Bd
  have e0 : s₁.heap = h0 := by rw [← hh, Bd.state]; rfl
  have N0 := Fr.nil n0
  have ef : entryFrame m #[(.ref up), (.int 95)] 2 = mkF m 0 #[rv up, iv 95] [] := by first | (simp [entryFrame, mkF, argsToLocals, Value.category, maxLocals]; done) | rfl
  show Way p.tables e below (KQ s (QI195 Z up ut h0 n0) ({ frames := 3, cells := 0, slots := 0, locals := 46 } : Room).cells ({ frames := 3, cells := 0, slots := 0, locals := 46 } : Room).slots) (s₁.setTop (entryFrame m #[(.ref up), (.int 95)] 2))
  rw [ef]
  refine Way.by (fun _ k => XS.aloadN X0.here hx rfl (hb hby dI146_0) rfl rfl k) ?_
  show Way _ _ _ _ (s₁.setTop (mkF m 1 #[rv up, iv 95] [(.ref up)]))
  refine Way.by (fun _ k => XS.iloadN X0.here hx rfl (hb hby dI146_1) rfl k) ?_
  show Way _ _ _ _ (s₁.setTop (mkF m 2 #[rv up, iv 95] [(.int 95), (.ref up)]))
  refine Way.by (fun _ k => XS.iconst X0.here hx rfl (hb hby dI146_2) k) ?_
  show Way _ _ _ _ (s₁.setTop (mkF m 3 #[rv up, iv 95] [(.int 0), (.int 95), (.ref up)]))
  obtain ⟨cq17, kq18, qa19, qb20, qc21⟩ := isOf hZ e0 H0.1
  obtain ⟨_, _, ⟨T1, L3, k4, n5⟩, -, X2, ⟨Lc6, hQ7, l8, y9, z10⟩, st11⟩ := X0.virtualBack hx (y := (⟨"java/lang/String", "indexOf", "(II)I"⟩ : MethodName)) (z := (⟨"java/lang/String", "indexOf", "(II)I"⟩ : MethodName)) hown (mvT hZ (tw hw 126 rfl)) (mvT hZ (tw hw 127 rfl)) (notFace_of_selects (args := #[]) (mvT hZ (tw hw 129 rfl))) (mvT hZ (tw hw 129 rfl)) (mvT hZ (tw hw 128 rfl)) (by decide) (backOf (W := 0) (rmI295 l Z a0 hw [] up ut h0 n0 Z0 H0 O0 SV) hZ (tw hw 130 rfl) (tw hw 11 rfl) (by decide) (by decide)) qa19 qc21 (g := (mkF m 3 #[rv up, iv 95] [(.int 0), (.int 95), (.ref up)])) rfl (by rw [hml]; rfl) (Steps.refl _) (argsL := [(.int 95), (.int 0)]) (rest := []) (lenOf pdMX rfl) rfl (leW rfl) (hb hby dI146_3) (fun _ _ => ⟨rfl, e0, (leB rfl), (leB rfl)⟩)
  dsimp only [Pt.U, Pt.locs, Pt.cells, Pt.slots] at X2 l8 y9 z10 st11 hQ7
  subst l8 y9 z10
  obtain ⟨rfl, N22, e13⟩ := hQ7
  have N12 := Fr.app N0 N22
  refine Way.to st11 ?_
  show Way _ _ _ _ (T1.setTop (mkF m 6 #[rv up, iv 95] [(.int 1)]))
  refine Way.ret (v := (some (.int 1))) X2 hlk (fun h => by rw [Bd.returns] at h; cases h) (fun fs hr => retI X2 hx Bd.returns (hb hby dI146_6) hr) ?_ (by decide) (by decide)
  show QI195 Z up ut h0 n0 _ T1.heap _
  rw [e13]
  exact ⟨rfl, N12, rfl⟩
def QCE45 (Z : State)  (h0 : Heap) (n0 : Nat) (v : Option Value) (h : Heap) (L : List Loc) : Prop := v = some (.int 1) ∧ Fr n0 L ∧ h = h0
set_option maxRecDepth 65536 in
set_option maxHeartbeats 40000000 in
theorem rmCE45 (l : Launch) (Z : State) (a0 : Array Value) (hw : ∀ d ∈ tables_1, d.before a0 Z = true) (ws : List Jvm.Cond)  (h0 : Heap) (n0 : Nat) (Z0 : n0 ≤ h0.size)  :
    MetFree l (⟨"java/lang/StringLatin1", "canEncode", "(I)Z"⟩ : MethodName) (head1 (Jvm.Cond.code (⟨"java/lang/StringLatin1", "canEncode", "(I)Z"⟩ : MethodName) jdk_43_method_4_code 1 (some .boolean) :: ws) ({ frames := 0, cells := 0, slots := 0, locals := 0 } : Room)) (fun aa U => aa = #[(.int 45)] ∧ Z.Warmed39 U.vm ∧ U.heap = h0) (fun _ _ _ _ _ => True) (fun _ U o U' => ∃ v L, o = .returned v ∧ QCE45 Z  h0 n0 v U'.heap L ∧ FrameEnd U o U' L ({ frames := 0, cells := 0, slots := 0, locals := 0 } : Room).cells ({ frames := 0, cells := 0, slots := 0, locals := 0 } : Room).slots) := by
  refine MetFree.of_bodySF (plainFor_of_name pnCE46) hisR ?_
  intro p e s m args below meth c s₁ Bd hml0 hP hK
  obtain ⟨rfl, hZ, hh⟩ := hP
  have hx := Bd.exec
  have hby := Bd.bytes
  have hlk : meth.locks = false := BodyLoose.notSynchronized Bd
  have hml : c.maxLocals = 1 := hml0
  have hown : s.vm.findClass "java/lang/StringLatin1" = some m.cls := findClass_of_methodNamed Bd.named
  have hnm := (name_of_methodNamed Bd.named Bd.method).1
  have X0 : Stand p l e ({ frames := 0, cells := 0, slots := 0, locals := 0 } : Room) s m #[(.int 45)] below meth c s₁ [] 0 0 := Stand.of_body Bd
  have e0 : s₁.heap = h0 := by rw [← hh, Bd.state]; rfl
  have N0 := Fr.nil n0
  have ef : entryFrame m #[(.int 45)] 1 = mkF m 0 #[iv 45] [] := by first | (simp [entryFrame, mkF, argsToLocals, Value.category, maxLocals]; done) | rfl
  show Way p.tables e below (KQ s (QCE45 Z  h0 n0) ({ frames := 0, cells := 0, slots := 0, locals := 0 } : Room).cells ({ frames := 0, cells := 0, slots := 0, locals := 0 } : Room).slots) (s₁.setTop (entryFrame m #[(.int 45)] 1))
  rw [ef]
  refine Way.by (fun _ k => XS.iloadN X0.here hx rfl (hb hby dCE46_0) rfl k) ?_
  show Way _ _ _ _ (s₁.setTop (mkF m 1 #[iv 45] [(.int 45)]))
  have b1 : ¬ (45 : Int32) < (0 : Int32) := by decide
  refine Way.by (fun _ k => XS.ifNo X0.here hx rfl (hb hby dCE46_1) rfl ((if0 .lt _).trans (flt b1).1) k) ?_
  show Way _ _ _ _ (s₁.setTop (mkF m 4 #[iv 45] []))
  refine Way.by (fun _ k => XS.iloadN X0.here hx rfl (hb hby dCE46_4) rfl k) ?_
  show Way _ _ _ _ (s₁.setTop (mkF m 5 #[iv 45] [(.int 45)]))
  refine Way.by (fun _ k => XS.sipush X0.here hx rfl (hb hby dCE46_5) k) ?_
  show Way _ _ _ _ (s₁.setTop (mkF m 8 #[iv 45] [(.int 255), (.int 45)]))
  have b2 : ¬ (255 : Int32) < (45 : Int32) := by decide
  refine Way.by (fun _ k => XS.icmpNo X0.here hx rfl (hb hby dCE46_8) rfl (flt b2).2.2.1 k) ?_
  show Way _ _ _ _ (s₁.setTop (mkF m 11 #[iv 45] []))
  refine Way.by (fun _ k => XS.iconst X0.here hx rfl (hb hby dCE46_11) k) ?_
  show Way _ _ _ _ (s₁.setTop (mkF m 12 #[iv 45] [(.int 1)]))
  refine Way.by (fun _ k => XS.goto X0.here hx rfl (pc0 := 12) (pc' := 16) rfl (hb hby dCE46_12) (by decide) (by decide) k) ?_
  show Way _ _ _ _ (s₁.setTop (mkF m 16 #[iv 45] [(.int 1)]))
  refine Way.ret (v := (some (.int (nar .boolean (1 : Int32))))) X0 hlk (fun h => by rw [Bd.returns] at h; cases h) (fun fs hr => retN X0 hx (t := .boolean) Bd.returns (by simp) (hb hby dCE46_16) hr) ?_ (by decide) (by decide)
  show QCE45 Z  h0 n0 _ s₁.heap _
  rw [e0]
  exact ⟨rfl, N0, rfl⟩
def QIC45 (Z : State) (ut : Addr) (kb : ClassId) (h0 : Heap) (n0 : Nat) (v : Option Value) (h : Heap) (L : List Loc) : Prop := v = some (.int 2) ∧ Fr n0 L ∧ h = h0
set_option maxRecDepth 65536 in
set_option maxHeartbeats 40000000 in
theorem rmIC45 (l : Launch) (Z : State) (a0 : Array Value) (hw : ∀ d ∈ tables_1, d.before a0 Z = true) (ws : List Jvm.Cond) (ut : Addr) (kb : ClassId) (h0 : Heap) (n0 : Nat) (Z0 : n0 ≤ h0.size) (H0 : Arv Z h0 ut kb .byte (3 : Int32) [(.int 46), (.int 95), (.int 45)] (.int 0)) :
    MetFree l (⟨"java/lang/StringLatin1", "indexOfChar", "([BIII)I"⟩ : MethodName) (head1 (Jvm.Cond.code (⟨"java/lang/StringLatin1", "indexOfChar", "([BIII)I"⟩ : MethodName) jdk_43_method_23_code 6 (some .int) :: ws) ({ frames := 0, cells := 0, slots := 0, locals := 0 } : Room)) (fun aa U => aa = #[(.ref ut), (.int 45), (.int 0), (.int 3)] ∧ Z.Warmed39 U.vm ∧ U.heap = h0) (fun _ _ _ _ _ => True) (fun _ U o U' => ∃ v L, o = .returned v ∧ QIC45 Z ut kb h0 n0 v U'.heap L ∧ FrameEnd U o U' L ({ frames := 0, cells := 0, slots := 0, locals := 0 } : Room).cells ({ frames := 0, cells := 0, slots := 0, locals := 0 } : Room).slots) := by
  refine MetFree.of_bodySF (plainFor_of_name pnCE46) hisR ?_
  intro p e s m args below meth c s₁ Bd hml0 hP hK
  obtain ⟨rfl, hZ, hh⟩ := hP
  have hx := Bd.exec
  have hby := Bd.bytes
  have hlk : meth.locks = false := BodyLoose.notSynchronized Bd
  have hml : c.maxLocals = 6 := hml0
  have hown : s.vm.findClass "java/lang/StringLatin1" = some m.cls := findClass_of_methodNamed Bd.named
  have hnm := (name_of_methodNamed Bd.named Bd.method).1
  have X0 : Stand p l e ({ frames := 0, cells := 0, slots := 0, locals := 0 } : Room) s m #[(.ref ut), (.int 45), (.int 0), (.int 3)] below meth c s₁ [] 0 0 := Stand.of_body Bd
  have e0 : s₁.heap = h0 := by rw [← hh, Bd.state]; rfl
  have N0 := Fr.nil n0
  have ef : entryFrame m #[(.ref ut), (.int 45), (.int 0), (.int 3)] 6 = mkF m 0 #[rv ut, iv 45, iv 0, iv 3, .unset, .unset] [] := by first | (simp [entryFrame, mkF, argsToLocals, Value.category, maxLocals]; done) | rfl
  show Way p.tables e below (KQ s (QIC45 Z ut kb h0 n0) ({ frames := 0, cells := 0, slots := 0, locals := 0 } : Room).cells ({ frames := 0, cells := 0, slots := 0, locals := 0 } : Room).slots) (s₁.setTop (entryFrame m #[(.ref ut), (.int 45), (.int 0), (.int 3)] 6))
  rw [ef]
  refine Way.by (fun _ k => XS.iloadN X0.here hx rfl (hb hby dIC46_0) rfl k) ?_
  show Way _ _ _ _ (s₁.setTop (mkF m 1 #[rv ut, iv 45, iv 0, iv 3, .unset, .unset] [(.int 45)]))
  refine Way.by (fun _ k => XT.i2b X0.here hx rfl (hb hby dIC46_1) rfl k) ?_
  show Way _ _ _ _ (s₁.setTop (mkF m 2 #[rv ut, iv 45, iv 0, iv 3, .unset, .unset] [(.int 45)]))
  refine Way.by (fun _ k => XS.istore X0.here hx rfl (hb hby dIC46_2) rfl (l' := #[rv ut, iv 45, iv 0, iv 3, iv 45, .unset]) rfl k) ?_
  show Way _ _ _ _ (s₁.setTop (mkF m 4 #[rv ut, iv 45, iv 0, iv 3, iv 45, .unset] []))
  refine Way.by (fun _ k => XS.iloadN X0.here hx rfl (hb hby dIC46_4) rfl k) ?_
  show Way _ _ _ _ (s₁.setTop (mkF m 5 #[rv ut, iv 45, iv 0, iv 3, iv 45, .unset] [(.int 0)]))
  refine Way.by (fun _ k => XS.istore X0.here hx rfl (hb hby dIC46_5) rfl (l' := #[rv ut, iv 45, iv 0, iv 3, iv 45, iv 0]) rfl k) ?_
  show Way _ _ _ _ (s₁.setTop (mkF m 7 #[rv ut, iv 45, iv 0, iv 3, iv 45, iv 0] []))
  refine Way.by (fun _ k => XS.iload X0.here hx rfl (hb hby dIC46_7) rfl k) ?_
  show Way _ _ _ _ (s₁.setTop (mkF m 9 #[rv ut, iv 45, iv 0, iv 3, iv 45, iv 0] [(.int 0)]))
  refine Way.by (fun _ k => XS.iloadN X0.here hx rfl (hb hby dIC46_9) rfl k) ?_
  show Way _ _ _ _ (s₁.setTop (mkF m 10 #[rv ut, iv 45, iv 0, iv 3, iv 45, iv 0] [(.int 3), (.int 0)]))
  have b1 : (0 : Int32) < (3 : Int32) := by decide
  refine Way.by (fun _ k => XS.icmpNo X0.here hx rfl (hb hby dIC46_10) rfl (tlt b1).2.1 k) ?_
  show Way _ _ _ _ (s₁.setTop (mkF m 13 #[rv ut, iv 45, iv 0, iv 3, iv 45, iv 0] []))
  refine Way.by (fun _ k => XS.aloadN X0.here hx rfl (hb hby dIC46_13) rfl rfl k) ?_
  show Way _ _ _ _ (s₁.setTop (mkF m 14 #[rv ut, iv 45, iv 0, iv 3, iv 45, iv 0] [(.ref ut)]))
  refine Way.by (fun _ k => XS.iload X0.here hx rfl (hb hby dIC46_14) rfl k) ?_
  show Way _ _ _ _ (s₁.setTop (mkF m 16 #[rv ut, iv 45, iv 0, iv 3, iv 45, iv 0] [(.int 0), (.ref ut)]))
  obtain ⟨c2, A3, q4, S5, M6, H7, U8⟩ := id H0
  refine Way.by (fun t k => Stand.baloadBytes X0 hx (hpE e0 A3.1) (arrS hZ A3) A3.2.2 (inb_of S5 ⟨(by decide), (by decide)⟩) (Has.at H7 (inb_of S5 ⟨(by decide), (by decide)⟩) rfl) (g := (mkF m 16 #[rv ut, iv 45, iv 0, iv 3, iv 45, iv 0] [(.int 0), (.ref ut)])) rfl rfl (hb hby dIC46_16) t k) ?_
  show Way _ _ _ _ (s₁.setTop (mkF m 17 #[rv ut, iv 45, iv 0, iv 3, iv 45, iv 0] [(.int 46)]))
  refine Way.by (fun _ k => XS.iload X0.here hx rfl (hb hby dIC46_17) rfl k) ?_
  show Way _ _ _ _ (s₁.setTop (mkF m 19 #[rv ut, iv 45, iv 0, iv 3, iv 45, iv 0] [(.int 45), (.int 46)]))
  have b9 : ¬ (46 : Int32) = (45 : Int32) := by decide
  refine Way.by (fun _ k => XS.icmpYes X0.here hx rfl (pc0 := 19) (pc' := 25) rfl (hb hby dIC46_19) rfl (feq b9).2 (by decide) (by decide) k) ?_
  show Way _ _ _ _ (s₁.setTop (mkF m 25 #[rv ut, iv 45, iv 0, iv 3, iv 45, iv 0] []))
  refine Way.by (fun _ k => XS.iinc X0.here hx rfl (hb hby dIC95_25) rfl (l' := #[rv ut, iv 45, iv 0, iv 3, iv 45, iv 1]) rfl k) ?_
  show Way _ _ _ _ (s₁.setTop (mkF m 28 #[rv ut, iv 45, iv 0, iv 3, iv 45, iv 1] []))
  refine Way.by (fun _ k => XS.goto X0.here hx rfl (pc0 := 28) (pc' := 7) rfl (hb hby dIC95_28) (by decide) (by decide) k) ?_
  show Way _ _ _ _ (s₁.setTop (mkF m 7 #[rv ut, iv 45, iv 0, iv 3, iv 45, iv 1] []))
  refine Way.by (fun _ k => XS.iload X0.here hx rfl (hb hby dIC46_7) rfl k) ?_
  show Way _ _ _ _ (s₁.setTop (mkF m 9 #[rv ut, iv 45, iv 0, iv 3, iv 45, iv 1] [(.int 1)]))
  refine Way.by (fun _ k => XS.iloadN X0.here hx rfl (hb hby dIC46_9) rfl k) ?_
  show Way _ _ _ _ (s₁.setTop (mkF m 10 #[rv ut, iv 45, iv 0, iv 3, iv 45, iv 1] [(.int 3), (.int 1)]))
  have b10 : (1 : Int32) < (3 : Int32) := by decide
  refine Way.by (fun _ k => XS.icmpNo X0.here hx rfl (hb hby dIC46_10) rfl (tlt b10).2.1 k) ?_
  show Way _ _ _ _ (s₁.setTop (mkF m 13 #[rv ut, iv 45, iv 0, iv 3, iv 45, iv 1] []))
  refine Way.by (fun _ k => XS.aloadN X0.here hx rfl (hb hby dIC46_13) rfl rfl k) ?_
  show Way _ _ _ _ (s₁.setTop (mkF m 14 #[rv ut, iv 45, iv 0, iv 3, iv 45, iv 1] [(.ref ut)]))
  refine Way.by (fun _ k => XS.iload X0.here hx rfl (hb hby dIC46_14) rfl k) ?_
  show Way _ _ _ _ (s₁.setTop (mkF m 16 #[rv ut, iv 45, iv 0, iv 3, iv 45, iv 1] [(.int 1), (.ref ut)]))
  obtain ⟨c11, A12, q13, S14, M15, H16, U17⟩ := id H0
  refine Way.by (fun t k => Stand.baloadBytes X0 hx (hpE e0 A12.1) (arrS hZ A12) A12.2.2 (inb_of S14 ⟨(by decide), (by decide)⟩) (Has.at H16 (inb_of S14 ⟨(by decide), (by decide)⟩) rfl) (g := (mkF m 16 #[rv ut, iv 45, iv 0, iv 3, iv 45, iv 1] [(.int 1), (.ref ut)])) rfl rfl (hb hby dIC46_16) t k) ?_
  show Way _ _ _ _ (s₁.setTop (mkF m 17 #[rv ut, iv 45, iv 0, iv 3, iv 45, iv 1] [(.int 95)]))
  refine Way.by (fun _ k => XS.iload X0.here hx rfl (hb hby dIC46_17) rfl k) ?_
  show Way _ _ _ _ (s₁.setTop (mkF m 19 #[rv ut, iv 45, iv 0, iv 3, iv 45, iv 1] [(.int 45), (.int 95)]))
  have b18 : ¬ (95 : Int32) = (45 : Int32) := by decide
  refine Way.by (fun _ k => XS.icmpYes X0.here hx rfl (pc0 := 19) (pc' := 25) rfl (hb hby dIC46_19) rfl (feq b18).2 (by decide) (by decide) k) ?_
  show Way _ _ _ _ (s₁.setTop (mkF m 25 #[rv ut, iv 45, iv 0, iv 3, iv 45, iv 1] []))
  refine Way.by (fun _ k => XS.iinc X0.here hx rfl (hb hby dIC95_25) rfl (l' := #[rv ut, iv 45, iv 0, iv 3, iv 45, iv 2]) rfl k) ?_
  show Way _ _ _ _ (s₁.setTop (mkF m 28 #[rv ut, iv 45, iv 0, iv 3, iv 45, iv 2] []))
  refine Way.by (fun _ k => XS.goto X0.here hx rfl (pc0 := 28) (pc' := 7) rfl (hb hby dIC95_28) (by decide) (by decide) k) ?_
  show Way _ _ _ _ (s₁.setTop (mkF m 7 #[rv ut, iv 45, iv 0, iv 3, iv 45, iv 2] []))
  refine Way.by (fun _ k => XS.iload X0.here hx rfl (hb hby dIC46_7) rfl k) ?_
  show Way _ _ _ _ (s₁.setTop (mkF m 9 #[rv ut, iv 45, iv 0, iv 3, iv 45, iv 2] [(.int 2)]))
  refine Way.by (fun _ k => XS.iloadN X0.here hx rfl (hb hby dIC46_9) rfl k) ?_
  show Way _ _ _ _ (s₁.setTop (mkF m 10 #[rv ut, iv 45, iv 0, iv 3, iv 45, iv 2] [(.int 3), (.int 2)]))
  have b19 : (2 : Int32) < (3 : Int32) := by decide
  refine Way.by (fun _ k => XS.icmpNo X0.here hx rfl (hb hby dIC46_10) rfl (tlt b19).2.1 k) ?_
  show Way _ _ _ _ (s₁.setTop (mkF m 13 #[rv ut, iv 45, iv 0, iv 3, iv 45, iv 2] []))
  refine Way.by (fun _ k => XS.aloadN X0.here hx rfl (hb hby dIC46_13) rfl rfl k) ?_
  show Way _ _ _ _ (s₁.setTop (mkF m 14 #[rv ut, iv 45, iv 0, iv 3, iv 45, iv 2] [(.ref ut)]))
  refine Way.by (fun _ k => XS.iload X0.here hx rfl (hb hby dIC46_14) rfl k) ?_
  show Way _ _ _ _ (s₁.setTop (mkF m 16 #[rv ut, iv 45, iv 0, iv 3, iv 45, iv 2] [(.int 2), (.ref ut)]))
  obtain ⟨c20, A21, q22, S23, M24, H25, U26⟩ := id H0
  refine Way.by (fun t k => Stand.baloadBytes X0 hx (hpE e0 A21.1) (arrS hZ A21) A21.2.2 (inb_of S23 ⟨(by decide), (by decide)⟩) (Has.at H25 (inb_of S23 ⟨(by decide), (by decide)⟩) rfl) (g := (mkF m 16 #[rv ut, iv 45, iv 0, iv 3, iv 45, iv 2] [(.int 2), (.ref ut)])) rfl rfl (hb hby dIC46_16) t k) ?_
  show Way _ _ _ _ (s₁.setTop (mkF m 17 #[rv ut, iv 45, iv 0, iv 3, iv 45, iv 2] [(.int 45)]))
  refine Way.by (fun _ k => XS.iload X0.here hx rfl (hb hby dIC46_17) rfl k) ?_
  show Way _ _ _ _ (s₁.setTop (mkF m 19 #[rv ut, iv 45, iv 0, iv 3, iv 45, iv 2] [(.int 45), (.int 45)]))
  have b27 : (45 : Int32) = (45 : Int32) := by decide
  refine Way.by (fun _ k => XS.icmpNo X0.here hx rfl (hb hby dIC46_19) rfl (teq b27).2 k) ?_
  show Way _ _ _ _ (s₁.setTop (mkF m 22 #[rv ut, iv 45, iv 0, iv 3, iv 45, iv 2] []))
  refine Way.by (fun _ k => XS.iload X0.here hx rfl (hb hby dIC46_22) rfl k) ?_
  show Way _ _ _ _ (s₁.setTop (mkF m 24 #[rv ut, iv 45, iv 0, iv 3, iv 45, iv 2] [(.int 2)]))
  refine Way.ret (v := (some (.int 2))) X0 hlk (fun h => by rw [Bd.returns] at h; cases h) (fun fs hr => retI X0 hx Bd.returns (hb hby dIC46_24) hr) ?_ (by decide) (by decide)
  show QIC45 Z ut kb h0 n0 _ s₁.heap _
  rw [e0]
  exact ⟨rfl, N0, rfl⟩
def QLI45 (Z : State) (ut : Addr) (kb : ClassId) (h0 : Heap) (n0 : Nat) (v : Option Value) (h : Heap) (L : List Loc) : Prop := v = some (.int 2) ∧ Fr n0 L ∧ h = h0
set_option maxRecDepth 65536 in
set_option maxHeartbeats 40000000 in
theorem rmLI45 (l : Launch) (Z : State) (a0 : Array Value) (hw : ∀ d ∈ tables_1, d.before a0 Z = true) (ws : List Jvm.Cond) (ut : Addr) (kb : ClassId) (h0 : Heap) (n0 : Nat) (Z0 : n0 ≤ h0.size) (H0 : Arv Z h0 ut kb .byte (3 : Int32) [(.int 46), (.int 95), (.int 45)] (.int 0)) :
    MetFree l (⟨"java/lang/StringLatin1", "indexOf", "([BIII)I"⟩ : MethodName) (head1 (Jvm.Cond.code (⟨"java/lang/StringLatin1", "indexOf", "([BIII)I"⟩ : MethodName) jdk_43_method_22_code 4 (some .int) :: ws) ({ frames := 1, cells := 0, slots := 0, locals := 17 } : Room)) (fun aa U => aa = #[(.ref ut), (.int 45), (.int 0), (.int 3)] ∧ Z.Warmed39 U.vm ∧ U.heap = h0) (fun _ _ _ _ _ => True) (fun _ U o U' => ∃ v L, o = .returned v ∧ QLI45 Z ut kb h0 n0 v U'.heap L ∧ FrameEnd U o U' L ({ frames := 1, cells := 0, slots := 0, locals := 17 } : Room).cells ({ frames := 1, cells := 0, slots := 0, locals := 17 } : Room).slots) := by
  refine MetFree.of_bodySF (plainFor_of_name pnCE46) hisR ?_
  intro p e s m args below meth c s₁ Bd hml0 hP hK
  obtain ⟨rfl, hZ, hh⟩ := hP
  have hx := Bd.exec
  have hby := Bd.bytes
  have hlk : meth.locks = false := BodyLoose.notSynchronized Bd
  have hml : c.maxLocals = 4 := hml0
  have hown : s.vm.findClass "java/lang/StringLatin1" = some m.cls := findClass_of_methodNamed Bd.named
  have hnm := (name_of_methodNamed Bd.named Bd.method).1
  have X0 : Stand p l e ({ frames := 1, cells := 0, slots := 0, locals := 17 } : Room) s m #[(.ref ut), (.int 45), (.int 0), (.int 3)] below meth c s₁ [] 0 0 := Stand.of_body Bd
  have e0 : s₁.heap = h0 := by rw [← hh, Bd.state]; rfl
  have N0 := Fr.nil n0
  have ef : entryFrame m #[(.ref ut), (.int 45), (.int 0), (.int 3)] 4 = mkF m 0 #[rv ut, iv 45, iv 0, iv 3] [] := by first | (simp [entryFrame, mkF, argsToLocals, Value.category, maxLocals]; done) | rfl
  show Way p.tables e below (KQ s (QLI45 Z ut kb h0 n0) ({ frames := 1, cells := 0, slots := 0, locals := 17 } : Room).cells ({ frames := 1, cells := 0, slots := 0, locals := 17 } : Room).slots) (s₁.setTop (entryFrame m #[(.ref ut), (.int 45), (.int 0), (.int 3)] 4))
  rw [ef]
  refine Way.by (fun _ k => XS.iloadN X0.here hx rfl (hb hby dLI46_0) rfl k) ?_
  show Way _ _ _ _ (s₁.setTop (mkF m 1 #[rv ut, iv 45, iv 0, iv 3] [(.int 45)]))
  obtain ⟨_, _, ⟨T1, L3, k4, n5⟩, -, X2, ⟨Lc6, hQ7, l8, y9, z10⟩, st11⟩ := Jvm.LawKit.callS X0 hx (y := (⟨"java/lang/StringLatin1", "canEncode", "(I)Z"⟩ : MethodName)) hown (mvT hZ (tw hw 135 rfl)) (mvT hZ (tw hw 136 rfl)) (mvT hZ (tw hw 89 rfl)) (mvT hZ (tw hw 137 rfl)) (by decide) (backOf (W := 0) (rmCE45 l Z a0 hw []  h0 n0 Z0 ) hZ (tw hw 137 rfl) (tw hw 89 rfl) (by decide) (by decide)) (g := (mkF m 1 #[rv ut, iv 45, iv 0, iv 3] [(.int 45)])) rfl (by rw [hml]; rfl) (argsL := [(.int 45)]) (rest := []) (lenOf pdCE46 rfl) rfl (leW rfl) (hb hby dLI46_1) (fun _ _ => ⟨rfl, e0, (leB rfl), (leB rfl)⟩)
  dsimp only [Pt.U, Pt.locs, Pt.cells, Pt.slots] at X2 l8 y9 z10 st11 hQ7
  subst l8 y9 z10
  obtain ⟨rfl, N17, e13⟩ := hQ7
  have N12 := Fr.app N0 N17
  refine Way.by st11 ?_
  show Way _ _ _ _ (T1.setTop (mkF m 4 #[rv ut, iv 45, iv 0, iv 3] [(.int 1)]))
  have b19 : ¬ (1 : Int32) = (0 : Int32) := by decide
  refine Way.by (fun _ k => XS.ifYes X2.here hx rfl (pc0 := 4) (pc' := 9) rfl (hb hby dLI46_4) rfl ((if0 .ne _).trans (feq b19).2) (by decide) (by decide) k) ?_
  show Way _ _ _ _ (T1.setTop (mkF m 9 #[rv ut, iv 45, iv 0, iv 3] []))
  refine Way.by (fun _ k => XS.iloadN X2.here hx rfl (hb hby dLI46_9) rfl k) ?_
  show Way _ _ _ _ (T1.setTop (mkF m 10 #[rv ut, iv 45, iv 0, iv 3] [(.int 0)]))
  refine Way.by (fun _ k => XS.iconst X2.here hx rfl (hb hby dLI46_10) k) ?_
  show Way _ _ _ _ (T1.setTop (mkF m 11 #[rv ut, iv 45, iv 0, iv 3] [(.int 0), (.int 0)]))
  obtain ⟨_, _, ⟨T20, L22, k23, n24⟩, -, X21, ⟨Lc25, hQ26, l27, y28, z29⟩, st30⟩ := Jvm.LawKit.callS X2 hx (y := (⟨"java/lang/Math", "max", "(II)I"⟩ : MethodName)) hown (mvT hZ (tw hw 138 rfl)) (mvT hZ (tw hw 139 rfl)) (mvT hZ (tw hw 140 rfl)) (mvT hZ (tw hw 141 rfl)) (by decide) (backOf (W := 0) (rmMX l Z a0 hw [] (0 : Int32) (0 : Int32) (0 : Int32) h0 n0 Z0 (by decide)) hZ (tw hw 141 rfl) (tw hw 140 rfl) (by decide) (by decide)) (g := (mkF m 11 #[rv ut, iv 45, iv 0, iv 3] [(.int 0), (.int 0)])) rfl (by rw [hml]; rfl) (argsL := [(.int 0), (.int 0)]) (rest := []) (lenOf pdMX rfl) rfl (leW rfl) (hb hby dLI46_11) (fun _ _ => ⟨rfl, e13, (leB rfl), (leB rfl)⟩)
  dsimp only [Pt.U, Pt.locs, Pt.cells, Pt.slots] at X21 l27 y28 z29 st30 hQ26
  subst l27 y28 z29
  obtain ⟨rfl, N36, e32⟩ := hQ26
  have N31 := Fr.app N12 N36
  refine Way.by st30 ?_
  show Way _ _ _ _ (T20.setTop (mkF m 14 #[rv ut, iv 45, iv 0, iv 3] [(.int 0)]))
  refine Way.by (fun _ k => XS.istoreN X21.here hx rfl (hb hby dLI46_14) rfl (l' := #[rv ut, iv 45, iv 0, iv 3]) rfl k) ?_
  show Way _ _ _ _ (T20.setTop (mkF m 15 #[rv ut, iv 45, iv 0, iv 3] []))
  refine Way.by (fun _ k => XS.iloadN X21.here hx rfl (hb hby dLI46_15) rfl k) ?_
  show Way _ _ _ _ (T20.setTop (mkF m 16 #[rv ut, iv 45, iv 0, iv 3] [(.int 3)]))
  refine Way.by (fun _ k => XS.aloadN X21.here hx rfl (hb hby dLI46_16) rfl rfl k) ?_
  show Way _ _ _ _ (T20.setTop (mkF m 17 #[rv ut, iv 45, iv 0, iv 3] [(.ref ut), (.int 3)]))
  obtain ⟨c38, A39, q40, S41, M42, H43, U44⟩ := id H0
  refine Way.by (fun t k => Stand.arraylength X21 hx (hpE e32 A39.1) (arrS hZ A39) (g := (mkF m 17 #[rv ut, iv 45, iv 0, iv 3] [(.ref ut), (.int 3)])) rfl rfl (hb hby dLI46_17) t k) ?_
  rw [len_of S41 M42]
  show Way _ _ _ _ (T20.setTop (mkF m 18 #[rv ut, iv 45, iv 0, iv 3] [(.int 3), (.int 3)]))
  obtain ⟨_, _, ⟨T45, L47, k48, n49⟩, -, X46, ⟨Lc50, hQ51, l52, y53, z54⟩, st55⟩ := Jvm.LawKit.callS X21 hx (y := (⟨"java/lang/Math", "min", "(II)I"⟩ : MethodName)) hown (mvT hZ (tw hw 142 rfl)) (mvT hZ (tw hw 143 rfl)) (mvT hZ (tw hw 140 rfl)) (mvT hZ (tw hw 144 rfl)) (by decide) (backOf (W := 0) (rmMN l Z a0 hw [] (3 : Int32) (3 : Int32) (3 : Int32) h0 n0 Z0 (by decide)) hZ (tw hw 144 rfl) (tw hw 140 rfl) (by decide) (by decide)) (g := (mkF m 18 #[rv ut, iv 45, iv 0, iv 3] [(.int 3), (.int 3)])) rfl (by rw [hml]; rfl) (argsL := [(.int 3), (.int 3)]) (rest := []) (lenOf pdMX rfl) rfl (leW rfl) (hb hby dLI46_18) (fun _ _ => ⟨rfl, e32, (leB rfl), (leB rfl)⟩)
  dsimp only [Pt.U, Pt.locs, Pt.cells, Pt.slots] at X46 l52 y53 z54 st55 hQ51
  subst l52 y53 z54
  obtain ⟨rfl, N61, e57⟩ := hQ51
  have N56 := Fr.app N31 N61
  refine Way.by st55 ?_
  show Way _ _ _ _ (T45.setTop (mkF m 21 #[rv ut, iv 45, iv 0, iv 3] [(.int 3)]))
  refine Way.by (fun _ k => XS.istoreN X46.here hx rfl (hb hby dLI46_21) rfl (l' := #[rv ut, iv 45, iv 0, iv 3]) rfl k) ?_
  show Way _ _ _ _ (T45.setTop (mkF m 22 #[rv ut, iv 45, iv 0, iv 3] []))
  refine Way.by (fun _ k => XS.iloadN X46.here hx rfl (hb hby dLI46_22) rfl k) ?_
  show Way _ _ _ _ (T45.setTop (mkF m 23 #[rv ut, iv 45, iv 0, iv 3] [(.int 0)]))
  refine Way.by (fun _ k => XS.iloadN X46.here hx rfl (hb hby dLI46_23) rfl k) ?_
  show Way _ _ _ _ (T45.setTop (mkF m 24 #[rv ut, iv 45, iv 0, iv 3] [(.int 3), (.int 0)]))
  have b63 : (0 : Int32) < (3 : Int32) := by decide
  refine Way.by (fun _ k => XS.icmpYes X46.here hx rfl (pc0 := 24) (pc' := 29) rfl (hb hby dLI46_24) rfl (tlt b63).1 (by decide) (by decide) k) ?_
  show Way _ _ _ _ (T45.setTop (mkF m 29 #[rv ut, iv 45, iv 0, iv 3] []))
  refine Way.by (fun _ k => XS.aloadN X46.here hx rfl (hb hby dLI46_29) rfl rfl k) ?_
  show Way _ _ _ _ (T45.setTop (mkF m 30 #[rv ut, iv 45, iv 0, iv 3] [(.ref ut)]))
  refine Way.by (fun _ k => XS.iloadN X46.here hx rfl (hb hby dLI46_30) rfl k) ?_
  show Way _ _ _ _ (T45.setTop (mkF m 31 #[rv ut, iv 45, iv 0, iv 3] [(.int 45), (.ref ut)]))
  refine Way.by (fun _ k => XS.iloadN X46.here hx rfl (hb hby dLI46_31) rfl k) ?_
  show Way _ _ _ _ (T45.setTop (mkF m 32 #[rv ut, iv 45, iv 0, iv 3] [(.int 0), (.int 45), (.ref ut)]))
  refine Way.by (fun _ k => XS.iloadN X46.here hx rfl (hb hby dLI46_32) rfl k) ?_
  show Way _ _ _ _ (T45.setTop (mkF m 33 #[rv ut, iv 45, iv 0, iv 3] [(.int 3), (.int 0), (.int 45), (.ref ut)]))
  obtain ⟨_, _, ⟨T64, L66, k67, n68⟩, -, X65, ⟨Lc69, hQ70, l71, y72, z73⟩, st74⟩ := Jvm.LawKit.callS X46 hx (y := (⟨"java/lang/StringLatin1", "indexOfChar", "([BIII)I"⟩ : MethodName)) hown (mvT hZ (tw hw 145 rfl)) (mvT hZ (tw hw 146 rfl)) (mvT hZ (tw hw 89 rfl)) (mvT hZ (tw hw 147 rfl)) (by decide) (backOf (W := 0) (rmIC45 l Z a0 hw [] ut kb h0 n0 Z0 H0) hZ (tw hw 147 rfl) (tw hw 89 rfl) (by decide) (by decide)) (g := (mkF m 33 #[rv ut, iv 45, iv 0, iv 3] [(.int 3), (.int 0), (.int 45), (.ref ut)])) rfl (by rw [hml]; rfl) (argsL := [(.ref ut), (.int 45), (.int 0), (.int 3)]) (rest := []) (lenOf pdIC46 rfl) rfl (leW rfl) (hb hby dLI46_33) (fun _ _ => ⟨rfl, e57, (leB rfl), (leB rfl)⟩)
  dsimp only [Pt.U, Pt.locs, Pt.cells, Pt.slots] at X65 l71 y72 z73 st74 hQ70
  subst l71 y72 z73
  obtain ⟨rfl, N80, e76⟩ := hQ70
  have N75 := Fr.app N56 N80
  refine Way.by st74 ?_
  show Way _ _ _ _ (T64.setTop (mkF m 36 #[rv ut, iv 45, iv 0, iv 3] [(.int 2)]))
  refine Way.ret (v := (some (.int 2))) X65 hlk (fun h => by rw [Bd.returns] at h; cases h) (fun fs hr => retI X65 hx Bd.returns (hb hby dLI46_36) hr) ?_ (by decide) (by decide)
  show QLI45 Z ut kb h0 n0 _ T64.heap _
  rw [e76]
  exact ⟨rfl, N75, rfl⟩
def QI245 (Z : State) (up : Addr) (ut : Addr) (h0 : Heap) (n0 : Nat) (v : Option Value) (h : Heap) (L : List Loc) : Prop := v = some (.int 2) ∧ Fr n0 L ∧ h = h0
set_option maxRecDepth 65536 in
set_option maxHeartbeats 40000000 in
theorem rmI245 (l : Launch) (Z : State) (a0 : Array Value) (hw : ∀ d ∈ tables_1, d.before a0 Z = true) (ws : List Jvm.Cond) (up : Addr) (ut : Addr) (h0 : Heap) (n0 : Nat) (Z0 : n0 ≤ h0.size) (H0 : own_Str Z h0 up ut [46, 95, 45]) (O0 : Old Z n0 h0) (SV : own_Env Z) :
    MetFree l (⟨"java/lang/String", "indexOf", "(II)I"⟩ : MethodName) (head1 (Jvm.Cond.code (⟨"java/lang/String", "indexOf", "(II)I"⟩ : MethodName) jdk_42_method_80_code 3 (some .int) :: ws) ({ frames := 2, cells := 0, slots := 0, locals := 32 } : Room)) (fun aa U => aa = #[(.ref up), (.int 45), (.int 0)] ∧ Z.Warmed39 U.vm ∧ U.heap = h0) (fun _ _ _ _ _ => True) (fun _ U o U' => ∃ v L, o = .returned v ∧ QI245 Z up ut h0 n0 v U'.heap L ∧ FrameEnd U o U' L ({ frames := 2, cells := 0, slots := 0, locals := 32 } : Room).cells ({ frames := 2, cells := 0, slots := 0, locals := 32 } : Room).slots) := by
  refine MetFree.of_bodySF (plainFor_of_name pnIL) hisR ?_
  intro p e s m args below meth c s₁ Bd hml0 hP hK
  obtain ⟨rfl, hZ, hh⟩ := hP
  have hx := Bd.exec
  have hby := Bd.bytes
  have hlk : meth.locks = false := BodyLoose.notSynchronized Bd
  have hml : c.maxLocals = 3 := hml0
  have hown : s.vm.findClass "java/lang/String" = some m.cls := findClass_of_methodNamed Bd.named
  have hnm := (name_of_methodNamed Bd.named Bd.method).1
  have X0 : Stand p l e ({ frames := 2, cells := 0, slots := 0, locals := 32 } : Room) s m #[(.ref up), (.int 45), (.int 0)] below meth c s₁ [] 0 0 := Stand.of_body Bd
  have e0 : s₁.heap = h0 := by rw [← hh, Bd.state]; rfl
  have N0 := Fr.nil n0
  have ef : entryFrame m #[(.ref up), (.int 45), (.int 0)] 3 = mkF m 0 #[rv up, iv 45, iv 0] [] := by first | (simp [entryFrame, mkF, argsToLocals, Value.category, maxLocals]; done) | rfl
  show Way p.tables e below (KQ s (QI245 Z up ut h0 n0) ({ frames := 2, cells := 0, slots := 0, locals := 32 } : Room).cells ({ frames := 2, cells := 0, slots := 0, locals := 32 } : Room).slots) (s₁.setTop (entryFrame m #[(.ref up), (.int 45), (.int 0)] 3))
  rw [ef]
  obtain ⟨H0E, H0V, H0C, -, H0B, H0Ln⟩ := id H0
  obtain ⟨H0kb, H0A0⟩ := H0.arv
  have H0A : Arv Z h0 ut H0kb .byte (3 : Int32) [(.int 46), (.int 95), (.int 45)] (.int 0) := H0A0
  refine Way.by (fun _ k => XS.aloadN X0.here hx rfl (hb hby dI246_0) rfl rfl k) ?_
  show Way _ _ _ _ (s₁.setTop (mkF m 1 #[rv up, iv 45, iv 0] [(.ref up)]))
  obtain ⟨cq17, kq18, qa19, qb20, qc21⟩ := isOf hZ e0 H0E
  obtain ⟨_, _, ⟨T1, L3, k4, n5⟩, -, X2, ⟨Lc6, hQ7, l8, y9, z10⟩, st11⟩ := X0.virtualBack hx (y := (⟨"java/lang/String", "isLatin1", "()Z"⟩ : MethodName)) (z := (⟨"java/lang/String", "isLatin1", "()Z"⟩ : MethodName)) hown (mvT hZ (tw hw 82 rfl)) (mvT hZ (tw hw 83 rfl)) (notFace_of_selects (args := #[]) (mvT hZ (tw hw 85 rfl))) (mvT hZ (tw hw 85 rfl)) (mvT hZ (tw hw 84 rfl)) (by decide) (backOf (W := 0) (rmIL l Z a0 hw [] up h0 n0 Z0 H0C O0 SV) hZ (tw hw 86 rfl) (tw hw 11 rfl) (by decide) (by decide)) qa19 qc21 (g := (mkF m 1 #[rv up, iv 45, iv 0] [(.ref up)])) rfl (by rw [hml]; rfl) (Steps.refl _) (argsL := []) (rest := []) (lenOf pdIL rfl) rfl (leW rfl) (hb hby dI246_1) (fun _ _ => ⟨rfl, e0, (leB rfl), (leB rfl)⟩)
  dsimp only [Pt.U, Pt.locs, Pt.cells, Pt.slots] at X2 l8 y9 z10 st11 hQ7
  subst l8 y9 z10
  obtain ⟨rfl, N22, e13⟩ := hQ7
  have N12 := Fr.app N0 N22
  refine Way.to st11 ?_
  show Way _ _ _ _ (T1.setTop (mkF m 4 #[rv up, iv 45, iv 0] [(.int 1)]))
  have b24 : ¬ (1 : Int32) = (0 : Int32) := by decide
  refine Way.by (fun _ k => XS.ifNo X2.here hx rfl (hb hby dI246_4) rfl ((if0 .eq _).trans (feq b24).1) k) ?_
  show Way _ _ _ _ (T1.setTop (mkF m 7 #[rv up, iv 45, iv 0] []))
  refine Way.by (fun _ k => XS.aloadN X2.here hx rfl (hb hby dI246_7) rfl rfl k) ?_
  show Way _ _ _ _ (T1.setTop (mkF m 8 #[rv up, iv 45, iv 0] [(.ref up)]))
  obtain ⟨T25, X26, e27, st28⟩ := getF X2 hx hZ hown (host := "") (Or.inl (tw hw 36 rfl)) Via.refl e13 H0V (g := (mkF m 8 #[rv up, iv 45, iv 0] [(.ref up)])) rfl rfl (hb hby dI246_8)
  refine Way.by st28 ?_
  show Way _ _ _ _ (T25.setTop (mkF m 11 #[rv up, iv 45, iv 0] [(.ref ut)]))
  refine Way.by (fun _ k => XS.iloadN X26.here hx rfl (hb hby dI246_11) rfl k) ?_
  show Way _ _ _ _ (T25.setTop (mkF m 12 #[rv up, iv 45, iv 0] [(.int 45), (.ref ut)]))
  refine Way.by (fun _ k => XS.iloadN X26.here hx rfl (hb hby dI246_12) rfl k) ?_
  show Way _ _ _ _ (T25.setTop (mkF m 13 #[rv up, iv 45, iv 0] [(.int 0), (.int 45), (.ref ut)]))
  refine Way.by (fun _ k => XS.aloadN X26.here hx rfl (hb hby dI246_13) rfl rfl k) ?_
  show Way _ _ _ _ (T25.setTop (mkF m 14 #[rv up, iv 45, iv 0] [(.ref up), (.int 0), (.int 45), (.ref ut)]))
  obtain ⟨cq45, kq46, qa47, qb48, qc49⟩ := isOf hZ e27 H0.1
  obtain ⟨_, _, ⟨T29, L31, k32, n33⟩, -, X30, ⟨Lc34, hQ35, l36, y37, z38⟩, st39⟩ := X26.virtualBack hx (y := (⟨"java/lang/String", "length", "()I"⟩ : MethodName)) (z := (⟨"java/lang/String", "length", "()I"⟩ : MethodName)) hown (mvT hZ (tw hw 131 rfl)) (mvT hZ (tw hw 64 rfl)) (notFace_of_selects (args := #[]) (mvT hZ (tw hw 66 rfl))) (mvT hZ (tw hw 66 rfl)) (mvT hZ (tw hw 65 rfl)) (by decide) (own_len (W := 3) (n0 := n0) hZ hw SV O0 (cs := [46, 95, 45]) H0 (by decide) (by decide)) qa47 qc49 (g := (mkF m 14 #[rv up, iv 45, iv 0] [(.ref up), (.int 0), (.int 45), (.ref ut)])) rfl (by rw [hml]; rfl) (Steps.refl _) (argsL := []) (rest := [(.int 0), (.int 45), (.ref ut)]) (lenOf own_pdLen rfl) rfl (leW rfl) (hb hby dI246_14) (fun _ _ => ⟨rfl, e27, (leB rfl), (leB rfl)⟩)
  dsimp only [Pt.U, Pt.locs, Pt.cells, Pt.slots] at X30 l36 y37 z38 st39 hQ35
  subst l36 y37 z38
  obtain ⟨rfl, N50, e41⟩ := hQ35
  have N40 := Fr.app N12 N50
  refine Way.to st39 ?_
  show Way _ _ _ _ (T29.setTop (mkF m 17 #[rv up, iv 45, iv 0] [(.int 3), (.int 0), (.int 45), (.ref ut)]))
  obtain ⟨_, _, ⟨T52, L54, k55, n56⟩, -, X53, ⟨Lc57, hQ58, l59, y60, z61⟩, st62⟩ := Jvm.LawKit.callS X30 hx (y := (⟨"java/lang/StringLatin1", "indexOf", "([BIII)I"⟩ : MethodName)) hown (mvT hZ (tw hw 132 rfl)) (mvT hZ (tw hw 133 rfl)) (mvT hZ (tw hw 89 rfl)) (mvT hZ (tw hw 134 rfl)) (by decide) (backOf (W := 0) (rmLI45 l Z a0 hw [] ut H0kb h0 n0 Z0 H0A) hZ (tw hw 134 rfl) (tw hw 89 rfl) (by decide) (by decide)) (g := (mkF m 17 #[rv up, iv 45, iv 0] [(.int 3), (.int 0), (.int 45), (.ref ut)])) rfl (by rw [hml]; rfl) (argsL := [(.ref ut), (.int 45), (.int 0), (.int 3)]) (rest := []) (lenOf pdIC46 rfl) rfl (leW rfl) (hb hby dI246_17) (fun _ _ => ⟨rfl, e41, (leB rfl), (leB rfl)⟩)
  dsimp only [Pt.U, Pt.locs, Pt.cells, Pt.slots] at X53 l59 y60 z61 st62 hQ58
  subst l59 y60 z61
  obtain ⟨rfl, N68, e64⟩ := hQ58
  have N63 := Fr.app N40 N68
  refine Way.by st62 ?_
  show Way _ _ _ _ (T52.setTop (mkF m 20 #[rv up, iv 45, iv 0] [(.int 2)]))
  refine Way.by (fun _ k => XS.goto X53.here hx rfl (pc0 := 20) (pc' := 36) rfl (hb hby dI246_20) (by decide) (by decide) k) ?_
  show Way _ _ _ _ (T52.setTop (mkF m 36 #[rv up, iv 45, iv 0] [(.int 2)]))
  refine Way.ret (v := (some (.int 2))) X53 hlk (fun h => by rw [Bd.returns] at h; cases h) (fun fs hr => retI X53 hx Bd.returns (hb hby dI246_36) hr) ?_ (by decide) (by decide)
  show QI245 Z up ut h0 n0 _ T52.heap _
  rw [e64]
  exact ⟨rfl, N63, rfl⟩
def QI145 (Z : State) (up : Addr) (ut : Addr) (h0 : Heap) (n0 : Nat) (v : Option Value) (h : Heap) (L : List Loc) : Prop := v = some (.int 2) ∧ Fr n0 L ∧ h = h0
set_option maxRecDepth 65536 in
set_option maxHeartbeats 40000000 in
theorem rmI145 (l : Launch) (Z : State) (a0 : Array Value) (hw : ∀ d ∈ tables_1, d.before a0 Z = true) (ws : List Jvm.Cond) (up : Addr) (ut : Addr) (h0 : Heap) (n0 : Nat) (Z0 : n0 ≤ h0.size) (H0 : own_Str Z h0 up ut [46, 95, 45]) (O0 : Old Z n0 h0) (SV : own_Env Z) :
    MetFree l (⟨"java/lang/String", "indexOf", "(I)I"⟩ : MethodName) (head1 (Jvm.Cond.code (⟨"java/lang/String", "indexOf", "(I)I"⟩ : MethodName) jdk_42_method_79_code 2 (some .int) :: ws) ({ frames := 3, cells := 0, slots := 0, locals := 46 } : Room)) (fun aa U => aa = #[(.ref up), (.int 45)] ∧ Z.Warmed39 U.vm ∧ U.heap = h0) (fun _ _ _ _ _ => True) (fun _ U o U' => ∃ v L, o = .returned v ∧ QI145 Z up ut h0 n0 v U'.heap L ∧ FrameEnd U o U' L ({ frames := 3, cells := 0, slots := 0, locals := 46 } : Room).cells ({ frames := 3, cells := 0, slots := 0, locals := 46 } : Room).slots) := by
  refine MetFree.of_bodySF (plainFor_of_name pnIL) hisR ?_
  intro p e s m args below meth c s₁ Bd hml0 hP hK
  obtain ⟨rfl, hZ, hh⟩ := hP
  have hx := Bd.exec
  have hby := Bd.bytes
  have hlk : meth.locks = false := BodyLoose.notSynchronized Bd
  have hml : c.maxLocals = 2 := hml0
  have hown : s.vm.findClass "java/lang/String" = some m.cls := findClass_of_methodNamed Bd.named
  have hnm := (name_of_methodNamed Bd.named Bd.method).1
  have X0 : Stand p l e ({ frames := 3, cells := 0, slots := 0, locals := 46 } : Room) s m #[(.ref up), (.int 45)] below meth c s₁ [] 0 0 := Stand.of_body Bd
  have e0 : s₁.heap = h0 := by rw [← hh, Bd.state]; rfl
  have N0 := Fr.nil n0
  have ef : entryFrame m #[(.ref up), (.int 45)] 2 = mkF m 0 #[rv up, iv 45] [] := by first | (simp [entryFrame, mkF, argsToLocals, Value.category, maxLocals]; done) | rfl
  show Way p.tables e below (KQ s (QI145 Z up ut h0 n0) ({ frames := 3, cells := 0, slots := 0, locals := 46 } : Room).cells ({ frames := 3, cells := 0, slots := 0, locals := 46 } : Room).slots) (s₁.setTop (entryFrame m #[(.ref up), (.int 45)] 2))
  rw [ef]
  refine Way.by (fun _ k => XS.aloadN X0.here hx rfl (hb hby dI146_0) rfl rfl k) ?_
  show Way _ _ _ _ (s₁.setTop (mkF m 1 #[rv up, iv 45] [(.ref up)]))
  refine Way.by (fun _ k => XS.iloadN X0.here hx rfl (hb hby dI146_1) rfl k) ?_
  show Way _ _ _ _ (s₁.setTop (mkF m 2 #[rv up, iv 45] [(.int 45), (.ref up)]))
  refine Way.by (fun _ k => XS.iconst X0.here hx rfl (hb hby dI146_2) k) ?_
  show Way _ _ _ _ (s₁.setTop (mkF m 3 #[rv up, iv 45] [(.int 0), (.int 45), (.ref up)]))
  obtain ⟨cq17, kq18, qa19, qb20, qc21⟩ := isOf hZ e0 H0.1
  obtain ⟨_, _, ⟨T1, L3, k4, n5⟩, -, X2, ⟨Lc6, hQ7, l8, y9, z10⟩, st11⟩ := X0.virtualBack hx (y := (⟨"java/lang/String", "indexOf", "(II)I"⟩ : MethodName)) (z := (⟨"java/lang/String", "indexOf", "(II)I"⟩ : MethodName)) hown (mvT hZ (tw hw 126 rfl)) (mvT hZ (tw hw 127 rfl)) (notFace_of_selects (args := #[]) (mvT hZ (tw hw 129 rfl))) (mvT hZ (tw hw 129 rfl)) (mvT hZ (tw hw 128 rfl)) (by decide) (backOf (W := 0) (rmI245 l Z a0 hw [] up ut h0 n0 Z0 H0 O0 SV) hZ (tw hw 130 rfl) (tw hw 11 rfl) (by decide) (by decide)) qa19 qc21 (g := (mkF m 3 #[rv up, iv 45] [(.int 0), (.int 45), (.ref up)])) rfl (by rw [hml]; rfl) (Steps.refl _) (argsL := [(.int 45), (.int 0)]) (rest := []) (lenOf pdMX rfl) rfl (leW rfl) (hb hby dI146_3) (fun _ _ => ⟨rfl, e0, (leB rfl), (leB rfl)⟩)
  dsimp only [Pt.U, Pt.locs, Pt.cells, Pt.slots] at X2 l8 y9 z10 st11 hQ7
  subst l8 y9 z10
  obtain ⟨rfl, N22, e13⟩ := hQ7
  have N12 := Fr.app N0 N22
  refine Way.to st11 ?_
  show Way _ _ _ _ (T1.setTop (mkF m 6 #[rv up, iv 45] [(.int 2)]))
  refine Way.ret (v := (some (.int 2))) X2 hlk (fun h => by rw [Bd.returns] at h; cases h) (fun fs hr => retI X2 hx Bd.returns (hb hby dI146_6) hr) ?_ (by decide) (by decide)
  show QI145 Z up ut h0 n0 _ T1.heap _
  rw [e13]
  exact ⟨rfl, N12, rfl⟩
def QAL (Z : State) (ur : Addr) (up : Addr) (ut : Addr) (px : Addr) (pt : Addr) (cs : List Int32) (h0 : Heap) (n0 : Nat) (v : Option Value) (h : Heap) (L : List Loc) : Prop := v = some (.int 1) ∧ Fr n0 L ∧ h = h0
theorem dAL_0 : decode prog_11_method_3_code 0 = .ok (.iconst 0, 1) := by decide +kernel
theorem dAL_1 : decode prog_11_method_3_code 1 = .ok (.istore_n 2, 1) := by decide +kernel
theorem dAL_2 : decode prog_11_method_3_code 2 = .ok (.iload_n 2, 1) := by decide +kernel
theorem dAL_3 : decode prog_11_method_3_code 3 = .ok (.aload_n 1, 1) := by decide +kernel
theorem dAL_4 : decode prog_11_method_3_code 4 = .ok (.invokevirtual 30, 3) := by decide +kernel
theorem dAL_7 : decode prog_11_method_3_code 7 = .ok (.if_icmp .ge 76, 3) := by decide +kernel
theorem dAL_10 : decode prog_11_method_3_code 10 = .ok (.aload_n 1, 1) := by decide +kernel
theorem dAL_11 : decode prog_11_method_3_code 11 = .ok (.iload_n 2, 1) := by decide +kernel
theorem dAL_12 : decode prog_11_method_3_code 12 = .ok (.invokevirtual 47, 3) := by decide +kernel
theorem dAL_15 : decode prog_11_method_3_code 15 = .ok (.istore_n 3, 1) := by decide +kernel
theorem dAL_16 : decode prog_11_method_3_code 16 = .ok (.iload_n 3, 1) := by decide +kernel
theorem dAL_17 : decode prog_11_method_3_code 17 = .ok (.bipush 65, 2) := by decide +kernel
theorem dAL_19 : decode prog_11_method_3_code 19 = .ok (.if_icmp .lt 9, 3) := by decide +kernel
theorem dAL_22 : decode prog_11_method_3_code 22 = .ok (.iload_n 3, 1) := by decide +kernel
theorem dAL_23 : decode prog_11_method_3_code 23 = .ok (.bipush 90, 2) := by decide +kernel
theorem dAL_25 : decode prog_11_method_3_code 25 = .ok (.if_icmp .le 27, 3) := by decide +kernel
theorem dAL_28 : decode prog_11_method_3_code 28 = .ok (.iload_n 3, 1) := by decide +kernel
theorem dAL_29 : decode prog_11_method_3_code 29 = .ok (.bipush 97, 2) := by decide +kernel
theorem dAL_31 : decode prog_11_method_3_code 31 = .ok (.if_icmp .lt 9, 3) := by decide +kernel
theorem dAL_34 : decode prog_11_method_3_code 34 = .ok (.iload_n 3, 1) := by decide +kernel
theorem dAL_35 : decode prog_11_method_3_code 35 = .ok (.bipush 122, 2) := by decide +kernel
theorem dAL_37 : decode prog_11_method_3_code 37 = .ok (.if_icmp .le 15, 3) := by decide +kernel
theorem dAL_40 : decode prog_11_method_3_code 40 = .ok (.iload_n 3, 1) := by decide +kernel
theorem dAL_41 : decode prog_11_method_3_code 41 = .ok (.bipush 48, 2) := by decide +kernel
theorem dAL_43 : decode prog_11_method_3_code 43 = .ok (.if_icmp .lt 13, 3) := by decide +kernel
theorem dAL_46 : decode prog_11_method_3_code 46 = .ok (.iload_n 3, 1) := by decide +kernel
theorem dAL_47 : decode prog_11_method_3_code 47 = .ok (.bipush 57, 2) := by decide +kernel
theorem dAL_49 : decode prog_11_method_3_code 49 = .ok (.if_icmp .gt 7, 3) := by decide +kernel
theorem dAL_52 : decode prog_11_method_3_code 52 = .ok (.iconst 1, 1) := by decide +kernel
theorem dAL_53 : decode prog_11_method_3_code 53 = .ok (.goto 4, 3) := by decide +kernel
theorem dAL_56 : decode prog_11_method_3_code 56 = .ok (.iconst 0, 1) := by decide +kernel
theorem dAL_57 : decode prog_11_method_3_code 57 = .ok (.istore 4, 2) := by decide +kernel
theorem dAL_59 : decode prog_11_method_3_code 59 = .ok (.iload 4, 2) := by decide +kernel
theorem dAL_61 : decode prog_11_method_3_code 61 = .ok (.ifCond .ne 16, 3) := by decide +kernel
theorem dAL_64 : decode prog_11_method_3_code 64 = .ok (.aload_n 0, 1) := by decide +kernel
theorem dAL_65 : decode prog_11_method_3_code 65 = .ok (.getfield 7, 3) := by decide +kernel
theorem dAL_68 : decode prog_11_method_3_code 68 = .ok (.iload_n 3, 1) := by decide +kernel
theorem dAL_69 : decode prog_11_method_3_code 69 = .ok (.invokevirtual 51, 3) := by decide +kernel
theorem dAL_72 : decode prog_11_method_3_code 72 = .ok (.ifCond .ge 5, 3) := by decide +kernel
theorem dAL_77 : decode prog_11_method_3_code 77 = .ok (.iinc 2 1, 3) := by decide +kernel
theorem dAL_80 : decode prog_11_method_3_code 80 = .ok (.goto (-78), 3) := by decide +kernel
theorem dAL_83 : decode prog_11_method_3_code 83 = .ok (.iconst 1, 1) := by decide +kernel
theorem dAL_84 : decode prog_11_method_3_code 84 = .ok (.ireturn, 1) := by decide +kernel
theorem pnAL : plainName "com/example/deduct/deduct/model/NameRule" = true := by first | (simp [plainName, overriddenIn]; done) | decide +kernel
theorem pdAL : parseMethodDescriptor "(Ljava/lang/String;)Z" = some ⟨[(.object "java/lang/String")], some .boolean⟩ := by decide +kernel
theorem own_ofNat_lt {i n : Nat} (hn : n < 2147483648) (hi : i < 2147483648) (h : Int32.ofNat i < Int32.ofNat n) : i < n := by
  rw [own_ltI] at h
  have e1 := Int32.toInt_ofNat_small (n := i) (by omega)
  have e2 := Int32.toInt_ofNat_small (n := n) (by omega)
  omega
set_option maxRecDepth 65536 in
set_option maxHeartbeats 40000000 in
theorem segAL2 (l : Launch) (Z : State) (a0 : Array Value) (hw : ∀ d ∈ tables_1, d.before a0 Z = true) (ws : List Jvm.Cond) (ur : Addr) (up : Addr) (ut : Addr) (px : Addr) (pt : Addr) (cs : List Int32) (h0 : Heap) (n0 : Nat) (Z0 : n0 ≤ h0.size) (H0 : Fld Z h0 ur "com/example/deduct/deduct/model/NameRule" "punctuation" "Ljava/lang/String;" (.ref up)) (H1 : own_Str Z h0 up ut [46, 95, 45]) (H2 : own_Str Z h0 px pt cs) (hok : ∀ c ∈ cs, own_ok c) (O0 : Old Z n0 h0) (SV : own_Env Z)
    (p : Program) (e : Env) (s : State) (m : MethodId) (below : List Frame) (meth : Method) (c : Code) (s₁ : State) (Bd : BodyLoose p l (⟨"com/example/deduct/deduct/model/NameRule", "allowed", "(Ljava/lang/String;)Z"⟩ : MethodName) (head1 (Jvm.Cond.code (⟨"com/example/deduct/deduct/model/NameRule", "allowed", "(Ljava/lang/String;)Z"⟩ : MethodName) prog_11_method_3_code 5 (some .boolean) :: ws) ({ frames := 4, cells := 0, slots := 0, locals := 60 } : Room)) prog_11_method_3_code 5 (some .boolean) e s m #[(.ref ur), (.ref px)] below meth c s₁) (hml : c.maxLocals = 5)
    (hZ : Z.Warmed39 s.vm) (hown : s.vm.findClass "com/example/deduct/deduct/model/NameRule" = some m.cls)
    (T : State) (h : Heap) (locs : List Loc) (X : Stand p l e ({ frames := 4, cells := 0, slots := 0, locals := 60 } : Room) s m #[(.ref ur), (.ref px)] below meth c T locs 0 0) (eT : T.heap = h) (N : Fr n0 locs) (Zh : n0 ≤ h.size) (O : Old Z n0 h) (i : Nat) (q3 : Slot) (q4 : Slot) (J0 : Fld Z h ur "com/example/deduct/deduct/model/NameRule" "punctuation" "Ljava/lang/String;" (.ref up)) (J1 : own_Str Z h up ut [46, 95, 45]) (J2 : own_Str Z h px pt cs) (hsz : cs.length < 2147483648) (hi : i ≤ cs.length) (Eh : h = h0) (hq3 : q3 = .unset ∨ ∃ w, q3 = .val w ∧ w.category = 1) (hq4 : q4 = .unset ∨ ∃ w, q4 = .val w ∧ w.category = 1) :
    Way p.tables e below (KQ s (QAL Z ur up ut px pt cs h0 n0) ({ frames := 4, cells := 0, slots := 0, locals := 60 } : Room).cells ({ frames := 4, cells := 0, slots := 0, locals := 60 } : Room).slots) (T.setTop (mkF m 2 #[rv ur, rv px, iv (Int32.ofNat i), q3, q4] [])) := by
  have hx := Bd.exec
  have hby := Bd.bytes
  have hlk : meth.locks = false := BodyLoose.notSynchronized Bd
  have hnm := (name_of_methodNamed Bd.named Bd.method).1
  refine Way.by (fun _ k => XS.iloadN X.here hx rfl (hb hby dAL_2) rfl k) ?_
  show Way _ _ _ _ (T.setTop (mkF m 3 #[rv ur, rv px, iv (Int32.ofNat i), q3, q4] [(.int (Int32.ofNat i))]))
  refine Way.by (fun _ k => XS.aloadN X.here hx rfl (hb hby dAL_3) rfl rfl k) ?_
  show Way _ _ _ _ (T.setTop (mkF m 4 #[rv ur, rv px, iv (Int32.ofNat i), q3, q4] [(.ref px), (.int (Int32.ofNat i))]))
  obtain ⟨cq17, kq18, qa19, qb20, qc21⟩ := isOf hZ eT J2.1
  obtain ⟨_, _, ⟨T1, L3, k4, n5⟩, -, X2, ⟨Lc6, hQ7, l8, y9, z10⟩, st11⟩ := X.virtualBack hx (y := (⟨"java/lang/String", "length", "()I"⟩ : MethodName)) (z := (⟨"java/lang/String", "length", "()I"⟩ : MethodName)) hown (mvT hZ (tw hw 63 rfl)) (mvT hZ (tw hw 64 rfl)) (notFace_of_selects (args := #[]) (mvT hZ (tw hw 66 rfl))) (mvT hZ (tw hw 66 rfl)) (mvT hZ (tw hw 65 rfl)) (by decide) (own_len (W := 1) (n0 := n0) hZ hw SV O (cs := cs) J2 (by decide) (by decide)) qa19 qc21 (g := (mkF m 4 #[rv ur, rv px, iv (Int32.ofNat i), q3, q4] [(.ref px), (.int (Int32.ofNat i))])) rfl (by rw [hml]; rfl) (Steps.refl _) (argsL := []) (rest := [(.int (Int32.ofNat i))]) (lenOf own_pdLen rfl) rfl (leW rfl) (hb hby dAL_4) (fun _ _ => ⟨rfl, eT, (leB rfl), (leB rfl)⟩)
  dsimp only [Pt.U, Pt.locs, Pt.cells, Pt.slots] at X2 l8 y9 z10 st11 hQ7
  subst l8 y9 z10
  obtain ⟨rfl, N22, e13⟩ := hQ7
  have N12 := Fr.app N N22
  refine Way.to st11 ?_
  show Way _ _ _ _ (T1.setTop (mkF m 7 #[rv ur, rv px, iv (Int32.ofNat i), q3, q4] [(.int (Int32.ofNat cs.length)), (.int (Int32.ofNat i))]))
  by_cases hlt : (Int32.ofNat i) < (Int32.ofNat cs.length)
  · skip
    have hi2 : i < cs.length := own_ofNat_lt hsz (by omega) hlt
    refine Way.by (fun _ k => XS.icmpNo X2.here hx rfl (hb hby dAL_7) rfl (tlt hlt).2.1 k) ?_
    show Way _ _ _ _ (T1.setTop (mkF m 10 #[rv ur, rv px, iv (Int32.ofNat i), q3, q4] []))
    refine Way.by (fun _ k => XS.aloadN X2.here hx rfl (hb hby dAL_10) rfl rfl k) ?_
    show Way _ _ _ _ (T1.setTop (mkF m 11 #[rv ur, rv px, iv (Int32.ofNat i), q3, q4] [(.ref px)]))
    refine Way.by (fun _ k => XS.iloadN X2.here hx rfl (hb hby dAL_11) rfl k) ?_
    show Way _ _ _ _ (T1.setTop (mkF m 12 #[rv ur, rv px, iv (Int32.ofNat i), q3, q4] [(.int (Int32.ofNat i)), (.ref px)]))
    obtain ⟨cq40, kq41, qa42, qb43, qc44⟩ := isOf hZ e13 J2.1
    obtain ⟨_, _, ⟨T24, L26, k27, n28⟩, -, X25, ⟨Lc29, hQ30, l31, y32, z33⟩, st34⟩ := X2.virtualBack hx (y := (⟨"java/lang/String", "charAt", "(I)C"⟩ : MethodName)) (z := (⟨"java/lang/String", "charAt", "(I)C"⟩ : MethodName)) hown (mvT hZ (tw hw 77 rfl)) (mvT hZ (tw hw 78 rfl)) (notFace_of_selects (args := #[]) (mvT hZ (tw hw 80 rfl))) (mvT hZ (tw hw 80 rfl)) (mvT hZ (tw hw 79 rfl)) (by decide) (own_chr (W := 0) (n0 := n0) hZ hw SV O (cs := cs) (i := i) J2 hi2 rfl (by decide) (by decide)) qa42 qc44 (g := (mkF m 12 #[rv ur, rv px, iv (Int32.ofNat i), q3, q4] [(.int (Int32.ofNat i)), (.ref px)])) rfl (by rw [hml]; rfl) (Steps.refl _) (argsL := [(.int (Int32.ofNat i))]) (rest := []) (lenOf own_pdChr rfl) rfl (leW rfl) (hb hby dAL_12) (fun _ _ => ⟨rfl, e13, (leB rfl), (leB rfl)⟩)
    dsimp only [Pt.U, Pt.locs, Pt.cells, Pt.slots] at X25 l31 y32 z33 st34 hQ30
    subst l31 y32 z33
    obtain ⟨rfl, N45, e36⟩ := hQ30
    have N35 := Fr.app N12 N45
    refine Way.to st34 ?_
    show Way _ _ _ _ (T24.setTop (mkF m 15 #[rv ur, rv px, iv (Int32.ofNat i), q3, q4] [(.int (cs.getD i 0))]))
    have hc0 : own_ok (cs.getD i 0) := hok _ (by rw [own_getD _ hi2]; exact List.getElem_mem hi2)
    generalize cs.getD i 0 = ch at hc0 ⊢
    rcases hc0 with hc0 | hc0 | hc0 | rfl | rfl | rfl
    · skip
      show Way _ _ _ _ (T24.setTop (mkF m 15 #[rv ur, rv px, iv (Int32.ofNat i), q3, q4] [(.int ch)]))
      refine Way.by (fun _ k => XS.istoreNS X25.here hx rfl (hb hby dAL_15) rfl rfl hq3 k) ?_
      show Way _ _ _ _ (T24.setTop (mkF m 16 #[rv ur, rv px, iv (Int32.ofNat i), iv ch, q4] []))
      refine Way.by (fun _ k => XS.iloadN X25.here hx rfl (hb hby dAL_16) rfl k) ?_
      show Way _ _ _ _ (T24.setTop (mkF m 17 #[rv ur, rv px, iv (Int32.ofNat i), iv ch, q4] [(.int ch)]))
      refine Way.by (fun _ k => XS.bipush X25.here hx rfl (hb hby dAL_17) k) ?_
      show Way _ _ _ _ (T24.setTop (mkF m 19 #[rv ur, rv px, iv (Int32.ofNat i), iv ch, q4] [(.int 65), (.int ch)]))
      have b47 : ¬ ch < (65 : Int32) := by rw [own_ltI]; have e := (by decide : (65 : Int32).toInt = 65); omega
      refine Way.by (fun _ k => XS.icmpNo X25.here hx rfl (hb hby dAL_19) rfl (flt b47).1 k) ?_
      show Way _ _ _ _ (T24.setTop (mkF m 22 #[rv ur, rv px, iv (Int32.ofNat i), iv ch, q4] []))
      refine Way.by (fun _ k => XS.iloadN X25.here hx rfl (hb hby dAL_22) rfl k) ?_
      show Way _ _ _ _ (T24.setTop (mkF m 23 #[rv ur, rv px, iv (Int32.ofNat i), iv ch, q4] [(.int ch)]))
      refine Way.by (fun _ k => XS.bipush X25.here hx rfl (hb hby dAL_23) k) ?_
      show Way _ _ _ _ (T24.setTop (mkF m 25 #[rv ur, rv px, iv (Int32.ofNat i), iv ch, q4] [(.int 90), (.int ch)]))
      have b48 : ¬ (90 : Int32) < ch := by rw [own_ltI]; have e := (by decide : (90 : Int32).toInt = 90); omega
      refine Way.by (fun _ k => XS.icmpYes X25.here hx rfl (pc0 := 25) (pc' := 52) rfl (hb hby dAL_25) rfl (flt b48).2.2.2 (by decide) (by decide) k) ?_
      show Way _ _ _ _ (T24.setTop (mkF m 52 #[rv ur, rv px, iv (Int32.ofNat i), iv ch, q4] []))
      refine Way.by (fun _ k => XS.iconst X25.here hx rfl (hb hby dAL_52) k) ?_
      show Way _ _ _ _ (T24.setTop (mkF m 53 #[rv ur, rv px, iv (Int32.ofNat i), iv ch, q4] [(.int 1)]))
      refine Way.by (fun _ k => XS.goto X25.here hx rfl (pc0 := 53) (pc' := 57) rfl (hb hby dAL_53) (by decide) (by decide) k) ?_
      show Way _ _ _ _ (T24.setTop (mkF m 57 #[rv ur, rv px, iv (Int32.ofNat i), iv ch, q4] [(.int 1)]))
      refine Way.by (fun _ k => XS.istoreS X25.here hx rfl (hb hby dAL_57) rfl rfl hq4 k) ?_
      show Way _ _ _ _ (T24.setTop (mkF m 59 #[rv ur, rv px, iv (Int32.ofNat i), iv ch, iv 1] []))
      refine Way.by (fun _ k => XS.iload X25.here hx rfl (hb hby dAL_59) rfl k) ?_
      show Way _ _ _ _ (T24.setTop (mkF m 61 #[rv ur, rv px, iv (Int32.ofNat i), iv ch, iv 1] [(.int 1)]))
      have b49 : ¬ (1 : Int32) = (0 : Int32) := by decide
      refine Way.by (fun _ k => XS.ifYes X25.here hx rfl (pc0 := 61) (pc' := 77) rfl (hb hby dAL_61) rfl ((if0 .ne _).trans (feq b49).2) (by decide) (by decide) k) ?_
      show Way _ _ _ _ (T24.setTop (mkF m 77 #[rv ur, rv px, iv (Int32.ofNat i), iv ch, iv 1] []))
      refine Way.by (fun _ k => XS.iinc X25.here hx rfl (hb hby dAL_77) rfl (l' := #[rv ur, rv px, iv ((Int32.ofNat i) + (1 : Int32)), iv ch, iv 1]) rfl k) ?_
      show Way _ _ _ _ (T24.setTop (mkF m 80 #[rv ur, rv px, iv ((Int32.ofNat i) + (1 : Int32)), iv ch, iv 1] []))
      rw [← inc_ofNat i]
      show Way _ _ _ _ (T24.setTop (mkF m 80 #[rv ur, rv px, iv (Int32.ofNat (i + 1)), iv ch, iv 1] []))
      refine Way.by (fun _ k => XS.goto X25.here hx rfl (pc0 := 80) (pc' := 2) rfl (hb hby dAL_80) (by decide) (by decide) k) ?_
      show Way _ _ _ _ (T24.setTop (mkF m 2 #[rv ur, rv px, iv (Int32.ofNat (i + 1)), iv ch, iv 1] []))
      exact segAL2 l Z a0 hw ws ur up ut px pt cs h0 n0 Z0 H0 H1 H2 hok O0 SV p e s m below meth c s₁ Bd hml hZ hown T24 h _ X25 e36 N35 Zh O (i + 1) (iv ch) (iv 1) J0 J1 J2 hsz hi2 Eh (Or.inr ⟨_, rfl, rfl⟩) (Or.inr ⟨_, rfl, rfl⟩)
    · skip
      show Way _ _ _ _ (T24.setTop (mkF m 15 #[rv ur, rv px, iv (Int32.ofNat i), q3, q4] [(.int ch)]))
      refine Way.by (fun _ k => XS.istoreNS X25.here hx rfl (hb hby dAL_15) rfl rfl hq3 k) ?_
      show Way _ _ _ _ (T24.setTop (mkF m 16 #[rv ur, rv px, iv (Int32.ofNat i), iv ch, q4] []))
      refine Way.by (fun _ k => XS.iloadN X25.here hx rfl (hb hby dAL_16) rfl k) ?_
      show Way _ _ _ _ (T24.setTop (mkF m 17 #[rv ur, rv px, iv (Int32.ofNat i), iv ch, q4] [(.int ch)]))
      refine Way.by (fun _ k => XS.bipush X25.here hx rfl (hb hby dAL_17) k) ?_
      show Way _ _ _ _ (T24.setTop (mkF m 19 #[rv ur, rv px, iv (Int32.ofNat i), iv ch, q4] [(.int 65), (.int ch)]))
      have b50 : ¬ ch < (65 : Int32) := by rw [own_ltI]; have e := (by decide : (65 : Int32).toInt = 65); omega
      refine Way.by (fun _ k => XS.icmpNo X25.here hx rfl (hb hby dAL_19) rfl (flt b50).1 k) ?_
      show Way _ _ _ _ (T24.setTop (mkF m 22 #[rv ur, rv px, iv (Int32.ofNat i), iv ch, q4] []))
      refine Way.by (fun _ k => XS.iloadN X25.here hx rfl (hb hby dAL_22) rfl k) ?_
      show Way _ _ _ _ (T24.setTop (mkF m 23 #[rv ur, rv px, iv (Int32.ofNat i), iv ch, q4] [(.int ch)]))
      refine Way.by (fun _ k => XS.bipush X25.here hx rfl (hb hby dAL_23) k) ?_
      show Way _ _ _ _ (T24.setTop (mkF m 25 #[rv ur, rv px, iv (Int32.ofNat i), iv ch, q4] [(.int 90), (.int ch)]))
      have b51 : (90 : Int32) < ch := by rw [own_ltI]; have e := (by decide : (90 : Int32).toInt = 90); omega
      refine Way.by (fun _ k => XS.icmpNo X25.here hx rfl (hb hby dAL_25) rfl (tlt b51).2.2.2 k) ?_
      show Way _ _ _ _ (T24.setTop (mkF m 28 #[rv ur, rv px, iv (Int32.ofNat i), iv ch, q4] []))
      refine Way.by (fun _ k => XS.iloadN X25.here hx rfl (hb hby dAL_28) rfl k) ?_
      show Way _ _ _ _ (T24.setTop (mkF m 29 #[rv ur, rv px, iv (Int32.ofNat i), iv ch, q4] [(.int ch)]))
      refine Way.by (fun _ k => XS.bipush X25.here hx rfl (hb hby dAL_29) k) ?_
      show Way _ _ _ _ (T24.setTop (mkF m 31 #[rv ur, rv px, iv (Int32.ofNat i), iv ch, q4] [(.int 97), (.int ch)]))
      have b52 : ¬ ch < (97 : Int32) := by rw [own_ltI]; have e := (by decide : (97 : Int32).toInt = 97); omega
      refine Way.by (fun _ k => XS.icmpNo X25.here hx rfl (hb hby dAL_31) rfl (flt b52).1 k) ?_
      show Way _ _ _ _ (T24.setTop (mkF m 34 #[rv ur, rv px, iv (Int32.ofNat i), iv ch, q4] []))
      refine Way.by (fun _ k => XS.iloadN X25.here hx rfl (hb hby dAL_34) rfl k) ?_
      show Way _ _ _ _ (T24.setTop (mkF m 35 #[rv ur, rv px, iv (Int32.ofNat i), iv ch, q4] [(.int ch)]))
      refine Way.by (fun _ k => XS.bipush X25.here hx rfl (hb hby dAL_35) k) ?_
      show Way _ _ _ _ (T24.setTop (mkF m 37 #[rv ur, rv px, iv (Int32.ofNat i), iv ch, q4] [(.int 122), (.int ch)]))
      have b53 : ¬ (122 : Int32) < ch := by rw [own_ltI]; have e := (by decide : (122 : Int32).toInt = 122); omega
      refine Way.by (fun _ k => XS.icmpYes X25.here hx rfl (pc0 := 37) (pc' := 52) rfl (hb hby dAL_37) rfl (flt b53).2.2.2 (by decide) (by decide) k) ?_
      show Way _ _ _ _ (T24.setTop (mkF m 52 #[rv ur, rv px, iv (Int32.ofNat i), iv ch, q4] []))
      refine Way.by (fun _ k => XS.iconst X25.here hx rfl (hb hby dAL_52) k) ?_
      show Way _ _ _ _ (T24.setTop (mkF m 53 #[rv ur, rv px, iv (Int32.ofNat i), iv ch, q4] [(.int 1)]))
      refine Way.by (fun _ k => XS.goto X25.here hx rfl (pc0 := 53) (pc' := 57) rfl (hb hby dAL_53) (by decide) (by decide) k) ?_
      show Way _ _ _ _ (T24.setTop (mkF m 57 #[rv ur, rv px, iv (Int32.ofNat i), iv ch, q4] [(.int 1)]))
      refine Way.by (fun _ k => XS.istoreS X25.here hx rfl (hb hby dAL_57) rfl rfl hq4 k) ?_
      show Way _ _ _ _ (T24.setTop (mkF m 59 #[rv ur, rv px, iv (Int32.ofNat i), iv ch, iv 1] []))
      refine Way.by (fun _ k => XS.iload X25.here hx rfl (hb hby dAL_59) rfl k) ?_
      show Way _ _ _ _ (T24.setTop (mkF m 61 #[rv ur, rv px, iv (Int32.ofNat i), iv ch, iv 1] [(.int 1)]))
      have b54 : ¬ (1 : Int32) = (0 : Int32) := by decide
      refine Way.by (fun _ k => XS.ifYes X25.here hx rfl (pc0 := 61) (pc' := 77) rfl (hb hby dAL_61) rfl ((if0 .ne _).trans (feq b54).2) (by decide) (by decide) k) ?_
      show Way _ _ _ _ (T24.setTop (mkF m 77 #[rv ur, rv px, iv (Int32.ofNat i), iv ch, iv 1] []))
      refine Way.by (fun _ k => XS.iinc X25.here hx rfl (hb hby dAL_77) rfl (l' := #[rv ur, rv px, iv ((Int32.ofNat i) + (1 : Int32)), iv ch, iv 1]) rfl k) ?_
      show Way _ _ _ _ (T24.setTop (mkF m 80 #[rv ur, rv px, iv ((Int32.ofNat i) + (1 : Int32)), iv ch, iv 1] []))
      rw [← inc_ofNat i]
      show Way _ _ _ _ (T24.setTop (mkF m 80 #[rv ur, rv px, iv (Int32.ofNat (i + 1)), iv ch, iv 1] []))
      refine Way.by (fun _ k => XS.goto X25.here hx rfl (pc0 := 80) (pc' := 2) rfl (hb hby dAL_80) (by decide) (by decide) k) ?_
      show Way _ _ _ _ (T24.setTop (mkF m 2 #[rv ur, rv px, iv (Int32.ofNat (i + 1)), iv ch, iv 1] []))
      exact segAL2 l Z a0 hw ws ur up ut px pt cs h0 n0 Z0 H0 H1 H2 hok O0 SV p e s m below meth c s₁ Bd hml hZ hown T24 h _ X25 e36 N35 Zh O (i + 1) (iv ch) (iv 1) J0 J1 J2 hsz hi2 Eh (Or.inr ⟨_, rfl, rfl⟩) (Or.inr ⟨_, rfl, rfl⟩)
    · skip
      show Way _ _ _ _ (T24.setTop (mkF m 15 #[rv ur, rv px, iv (Int32.ofNat i), q3, q4] [(.int ch)]))
      refine Way.by (fun _ k => XS.istoreNS X25.here hx rfl (hb hby dAL_15) rfl rfl hq3 k) ?_
      show Way _ _ _ _ (T24.setTop (mkF m 16 #[rv ur, rv px, iv (Int32.ofNat i), iv ch, q4] []))
      refine Way.by (fun _ k => XS.iloadN X25.here hx rfl (hb hby dAL_16) rfl k) ?_
      show Way _ _ _ _ (T24.setTop (mkF m 17 #[rv ur, rv px, iv (Int32.ofNat i), iv ch, q4] [(.int ch)]))
      refine Way.by (fun _ k => XS.bipush X25.here hx rfl (hb hby dAL_17) k) ?_
      show Way _ _ _ _ (T24.setTop (mkF m 19 #[rv ur, rv px, iv (Int32.ofNat i), iv ch, q4] [(.int 65), (.int ch)]))
      have b55 : ch < (65 : Int32) := by rw [own_ltI]; have e := (by decide : (65 : Int32).toInt = 65); omega
      refine Way.by (fun _ k => XS.icmpYes X25.here hx rfl (pc0 := 19) (pc' := 28) rfl (hb hby dAL_19) rfl (tlt b55).1 (by decide) (by decide) k) ?_
      show Way _ _ _ _ (T24.setTop (mkF m 28 #[rv ur, rv px, iv (Int32.ofNat i), iv ch, q4] []))
      refine Way.by (fun _ k => XS.iloadN X25.here hx rfl (hb hby dAL_28) rfl k) ?_
      show Way _ _ _ _ (T24.setTop (mkF m 29 #[rv ur, rv px, iv (Int32.ofNat i), iv ch, q4] [(.int ch)]))
      refine Way.by (fun _ k => XS.bipush X25.here hx rfl (hb hby dAL_29) k) ?_
      show Way _ _ _ _ (T24.setTop (mkF m 31 #[rv ur, rv px, iv (Int32.ofNat i), iv ch, q4] [(.int 97), (.int ch)]))
      have b56 : ch < (97 : Int32) := by rw [own_ltI]; have e := (by decide : (97 : Int32).toInt = 97); omega
      refine Way.by (fun _ k => XS.icmpYes X25.here hx rfl (pc0 := 31) (pc' := 40) rfl (hb hby dAL_31) rfl (tlt b56).1 (by decide) (by decide) k) ?_
      show Way _ _ _ _ (T24.setTop (mkF m 40 #[rv ur, rv px, iv (Int32.ofNat i), iv ch, q4] []))
      refine Way.by (fun _ k => XS.iloadN X25.here hx rfl (hb hby dAL_40) rfl k) ?_
      show Way _ _ _ _ (T24.setTop (mkF m 41 #[rv ur, rv px, iv (Int32.ofNat i), iv ch, q4] [(.int ch)]))
      refine Way.by (fun _ k => XS.bipush X25.here hx rfl (hb hby dAL_41) k) ?_
      show Way _ _ _ _ (T24.setTop (mkF m 43 #[rv ur, rv px, iv (Int32.ofNat i), iv ch, q4] [(.int 48), (.int ch)]))
      have b57 : ¬ ch < (48 : Int32) := by rw [own_ltI]; have e := (by decide : (48 : Int32).toInt = 48); omega
      refine Way.by (fun _ k => XS.icmpNo X25.here hx rfl (hb hby dAL_43) rfl (flt b57).1 k) ?_
      show Way _ _ _ _ (T24.setTop (mkF m 46 #[rv ur, rv px, iv (Int32.ofNat i), iv ch, q4] []))
      refine Way.by (fun _ k => XS.iloadN X25.here hx rfl (hb hby dAL_46) rfl k) ?_
      show Way _ _ _ _ (T24.setTop (mkF m 47 #[rv ur, rv px, iv (Int32.ofNat i), iv ch, q4] [(.int ch)]))
      refine Way.by (fun _ k => XS.bipush X25.here hx rfl (hb hby dAL_47) k) ?_
      show Way _ _ _ _ (T24.setTop (mkF m 49 #[rv ur, rv px, iv (Int32.ofNat i), iv ch, q4] [(.int 57), (.int ch)]))
      have b58 : ¬ (57 : Int32) < ch := by rw [own_ltI]; have e := (by decide : (57 : Int32).toInt = 57); omega
      refine Way.by (fun _ k => XS.icmpNo X25.here hx rfl (hb hby dAL_49) rfl (flt b58).2.2.1 k) ?_
      show Way _ _ _ _ (T24.setTop (mkF m 52 #[rv ur, rv px, iv (Int32.ofNat i), iv ch, q4] []))
      refine Way.by (fun _ k => XS.iconst X25.here hx rfl (hb hby dAL_52) k) ?_
      show Way _ _ _ _ (T24.setTop (mkF m 53 #[rv ur, rv px, iv (Int32.ofNat i), iv ch, q4] [(.int 1)]))
      refine Way.by (fun _ k => XS.goto X25.here hx rfl (pc0 := 53) (pc' := 57) rfl (hb hby dAL_53) (by decide) (by decide) k) ?_
      show Way _ _ _ _ (T24.setTop (mkF m 57 #[rv ur, rv px, iv (Int32.ofNat i), iv ch, q4] [(.int 1)]))
      refine Way.by (fun _ k => XS.istoreS X25.here hx rfl (hb hby dAL_57) rfl rfl hq4 k) ?_
      show Way _ _ _ _ (T24.setTop (mkF m 59 #[rv ur, rv px, iv (Int32.ofNat i), iv ch, iv 1] []))
      refine Way.by (fun _ k => XS.iload X25.here hx rfl (hb hby dAL_59) rfl k) ?_
      show Way _ _ _ _ (T24.setTop (mkF m 61 #[rv ur, rv px, iv (Int32.ofNat i), iv ch, iv 1] [(.int 1)]))
      have b59 : ¬ (1 : Int32) = (0 : Int32) := by decide
      refine Way.by (fun _ k => XS.ifYes X25.here hx rfl (pc0 := 61) (pc' := 77) rfl (hb hby dAL_61) rfl ((if0 .ne _).trans (feq b59).2) (by decide) (by decide) k) ?_
      show Way _ _ _ _ (T24.setTop (mkF m 77 #[rv ur, rv px, iv (Int32.ofNat i), iv ch, iv 1] []))
      refine Way.by (fun _ k => XS.iinc X25.here hx rfl (hb hby dAL_77) rfl (l' := #[rv ur, rv px, iv ((Int32.ofNat i) + (1 : Int32)), iv ch, iv 1]) rfl k) ?_
      show Way _ _ _ _ (T24.setTop (mkF m 80 #[rv ur, rv px, iv ((Int32.ofNat i) + (1 : Int32)), iv ch, iv 1] []))
      rw [← inc_ofNat i]
      show Way _ _ _ _ (T24.setTop (mkF m 80 #[rv ur, rv px, iv (Int32.ofNat (i + 1)), iv ch, iv 1] []))
      refine Way.by (fun _ k => XS.goto X25.here hx rfl (pc0 := 80) (pc' := 2) rfl (hb hby dAL_80) (by decide) (by decide) k) ?_
      show Way _ _ _ _ (T24.setTop (mkF m 2 #[rv ur, rv px, iv (Int32.ofNat (i + 1)), iv ch, iv 1] []))
      exact segAL2 l Z a0 hw ws ur up ut px pt cs h0 n0 Z0 H0 H1 H2 hok O0 SV p e s m below meth c s₁ Bd hml hZ hown T24 h _ X25 e36 N35 Zh O (i + 1) (iv ch) (iv 1) J0 J1 J2 hsz hi2 Eh (Or.inr ⟨_, rfl, rfl⟩) (Or.inr ⟨_, rfl, rfl⟩)
    · skip
      show Way _ _ _ _ (T24.setTop (mkF m 15 #[rv ur, rv px, iv (Int32.ofNat i), q3, q4] [(.int 46)]))
      refine Way.by (fun _ k => XS.istoreNS X25.here hx rfl (hb hby dAL_15) rfl rfl hq3 k) ?_
      show Way _ _ _ _ (T24.setTop (mkF m 16 #[rv ur, rv px, iv (Int32.ofNat i), iv 46, q4] []))
      refine Way.by (fun _ k => XS.iloadN X25.here hx rfl (hb hby dAL_16) rfl k) ?_
      show Way _ _ _ _ (T24.setTop (mkF m 17 #[rv ur, rv px, iv (Int32.ofNat i), iv 46, q4] [(.int 46)]))
      refine Way.by (fun _ k => XS.bipush X25.here hx rfl (hb hby dAL_17) k) ?_
      show Way _ _ _ _ (T24.setTop (mkF m 19 #[rv ur, rv px, iv (Int32.ofNat i), iv 46, q4] [(.int 65), (.int 46)]))
      have b60 : (46 : Int32) < (65 : Int32) := by decide
      refine Way.by (fun _ k => XS.icmpYes X25.here hx rfl (pc0 := 19) (pc' := 28) rfl (hb hby dAL_19) rfl (tlt b60).1 (by decide) (by decide) k) ?_
      show Way _ _ _ _ (T24.setTop (mkF m 28 #[rv ur, rv px, iv (Int32.ofNat i), iv 46, q4] []))
      refine Way.by (fun _ k => XS.iloadN X25.here hx rfl (hb hby dAL_28) rfl k) ?_
      show Way _ _ _ _ (T24.setTop (mkF m 29 #[rv ur, rv px, iv (Int32.ofNat i), iv 46, q4] [(.int 46)]))
      refine Way.by (fun _ k => XS.bipush X25.here hx rfl (hb hby dAL_29) k) ?_
      show Way _ _ _ _ (T24.setTop (mkF m 31 #[rv ur, rv px, iv (Int32.ofNat i), iv 46, q4] [(.int 97), (.int 46)]))
      have b61 : (46 : Int32) < (97 : Int32) := by decide
      refine Way.by (fun _ k => XS.icmpYes X25.here hx rfl (pc0 := 31) (pc' := 40) rfl (hb hby dAL_31) rfl (tlt b61).1 (by decide) (by decide) k) ?_
      show Way _ _ _ _ (T24.setTop (mkF m 40 #[rv ur, rv px, iv (Int32.ofNat i), iv 46, q4] []))
      refine Way.by (fun _ k => XS.iloadN X25.here hx rfl (hb hby dAL_40) rfl k) ?_
      show Way _ _ _ _ (T24.setTop (mkF m 41 #[rv ur, rv px, iv (Int32.ofNat i), iv 46, q4] [(.int 46)]))
      refine Way.by (fun _ k => XS.bipush X25.here hx rfl (hb hby dAL_41) k) ?_
      show Way _ _ _ _ (T24.setTop (mkF m 43 #[rv ur, rv px, iv (Int32.ofNat i), iv 46, q4] [(.int 48), (.int 46)]))
      have b62 : (46 : Int32) < (48 : Int32) := by decide
      refine Way.by (fun _ k => XS.icmpYes X25.here hx rfl (pc0 := 43) (pc' := 56) rfl (hb hby dAL_43) rfl (tlt b62).1 (by decide) (by decide) k) ?_
      show Way _ _ _ _ (T24.setTop (mkF m 56 #[rv ur, rv px, iv (Int32.ofNat i), iv 46, q4] []))
      refine Way.by (fun _ k => XS.iconst X25.here hx rfl (hb hby dAL_56) k) ?_
      show Way _ _ _ _ (T24.setTop (mkF m 57 #[rv ur, rv px, iv (Int32.ofNat i), iv 46, q4] [(.int 0)]))
      refine Way.by (fun _ k => XS.istoreS X25.here hx rfl (hb hby dAL_57) rfl rfl hq4 k) ?_
      show Way _ _ _ _ (T24.setTop (mkF m 59 #[rv ur, rv px, iv (Int32.ofNat i), iv 46, iv 0] []))
      refine Way.by (fun _ k => XS.iload X25.here hx rfl (hb hby dAL_59) rfl k) ?_
      show Way _ _ _ _ (T24.setTop (mkF m 61 #[rv ur, rv px, iv (Int32.ofNat i), iv 46, iv 0] [(.int 0)]))
      have b63 : (0 : Int32) = (0 : Int32) := by decide
      refine Way.by (fun _ k => XS.ifNo X25.here hx rfl (hb hby dAL_61) rfl ((if0 .ne _).trans (teq b63).2) k) ?_
      show Way _ _ _ _ (T24.setTop (mkF m 64 #[rv ur, rv px, iv (Int32.ofNat i), iv 46, iv 0] []))
      refine Way.by (fun _ k => XS.aloadN X25.here hx rfl (hb hby dAL_64) rfl rfl k) ?_
      show Way _ _ _ _ (T24.setTop (mkF m 65 #[rv ur, rv px, iv (Int32.ofNat i), iv 46, iv 0] [(.ref ur)]))
      obtain ⟨T64, X65, e66, st67⟩ := getF X25 hx hZ hown (host := "") (Or.inl (tw hw 119 rfl)) Via.refl e36 J0 (g := (mkF m 65 #[rv ur, rv px, iv (Int32.ofNat i), iv 46, iv 0] [(.ref ur)])) rfl rfl (hb hby dAL_65)
      refine Way.by st67 ?_
      show Way _ _ _ _ (T64.setTop (mkF m 68 #[rv ur, rv px, iv (Int32.ofNat i), iv 46, iv 0] [(.ref up)]))
      refine Way.by (fun _ k => XS.iloadN X65.here hx rfl (hb hby dAL_68) rfl k) ?_
      show Way _ _ _ _ (T64.setTop (mkF m 69 #[rv ur, rv px, iv (Int32.ofNat i), iv 46, iv 0] [(.int 46), (.ref up)]))
      obtain ⟨cq84, kq85, qa86, qb87, qc88⟩ := isOf hZ e66 J1.1
      obtain ⟨_, _, ⟨T68, L70, k71, n72⟩, -, X69, ⟨Lc73, hQ74, l75, y76, z77⟩, st78⟩ := X65.virtualBack hx (y := (⟨"java/lang/String", "indexOf", "(I)I"⟩ : MethodName)) (z := (⟨"java/lang/String", "indexOf", "(I)I"⟩ : MethodName)) hown (mvT hZ (tw hw 121 rfl)) (mvT hZ (tw hw 122 rfl)) (notFace_of_selects (args := #[]) (mvT hZ (tw hw 124 rfl))) (mvT hZ (tw hw 124 rfl)) (mvT hZ (tw hw 123 rfl)) (by decide) (backOf (W := 0) (rmI146 l Z a0 hw [] up ut h n0 Zh J1 O SV) hZ (tw hw 125 rfl) (tw hw 11 rfl) (by decide) (by decide)) qa86 qc88 (g := (mkF m 69 #[rv ur, rv px, iv (Int32.ofNat i), iv 46, iv 0] [(.int 46), (.ref up)])) rfl (by rw [hml]; rfl) (Steps.refl _) (argsL := [(.int 46)]) (rest := []) (lenOf pdI146 rfl) rfl (leW rfl) (hb hby dAL_69) (fun _ _ => ⟨rfl, e66, (leB rfl), (leB rfl)⟩)
      dsimp only [Pt.U, Pt.locs, Pt.cells, Pt.slots] at X69 l75 y76 z77 st78 hQ74
      subst l75 y76 z77
      obtain ⟨rfl, N89, e80⟩ := hQ74
      have N79 := Fr.app N35 N89
      refine Way.to st78 ?_
      show Way _ _ _ _ (T68.setTop (mkF m 72 #[rv ur, rv px, iv (Int32.ofNat i), iv 46, iv 0] [(.int 0)]))
      have b91 : ¬ (0 : Int32) < (0 : Int32) := by decide
      refine Way.by (fun _ k => XS.ifYes X69.here hx rfl (pc0 := 72) (pc' := 77) rfl (hb hby dAL_72) rfl ((if0 .ge _).trans (flt b91).2.1) (by decide) (by decide) k) ?_
      show Way _ _ _ _ (T68.setTop (mkF m 77 #[rv ur, rv px, iv (Int32.ofNat i), iv 46, iv 0] []))
      refine Way.by (fun _ k => XS.iinc X69.here hx rfl (hb hby dAL_77) rfl (l' := #[rv ur, rv px, iv ((Int32.ofNat i) + (1 : Int32)), iv 46, iv 0]) rfl k) ?_
      show Way _ _ _ _ (T68.setTop (mkF m 80 #[rv ur, rv px, iv ((Int32.ofNat i) + (1 : Int32)), iv 46, iv 0] []))
      rw [← inc_ofNat i]
      show Way _ _ _ _ (T68.setTop (mkF m 80 #[rv ur, rv px, iv (Int32.ofNat (i + 1)), iv 46, iv 0] []))
      refine Way.by (fun _ k => XS.goto X69.here hx rfl (pc0 := 80) (pc' := 2) rfl (hb hby dAL_80) (by decide) (by decide) k) ?_
      show Way _ _ _ _ (T68.setTop (mkF m 2 #[rv ur, rv px, iv (Int32.ofNat (i + 1)), iv 46, iv 0] []))
      exact segAL2 l Z a0 hw ws ur up ut px pt cs h0 n0 Z0 H0 H1 H2 hok O0 SV p e s m below meth c s₁ Bd hml hZ hown T68 h _ X69 e80 N79 Zh O (i + 1) (iv 46) (iv 0) J0 J1 J2 hsz hi2 Eh (Or.inr ⟨_, rfl, rfl⟩) (Or.inr ⟨_, rfl, rfl⟩)
    · skip
      show Way _ _ _ _ (T24.setTop (mkF m 15 #[rv ur, rv px, iv (Int32.ofNat i), q3, q4] [(.int 95)]))
      refine Way.by (fun _ k => XS.istoreNS X25.here hx rfl (hb hby dAL_15) rfl rfl hq3 k) ?_
      show Way _ _ _ _ (T24.setTop (mkF m 16 #[rv ur, rv px, iv (Int32.ofNat i), iv 95, q4] []))
      refine Way.by (fun _ k => XS.iloadN X25.here hx rfl (hb hby dAL_16) rfl k) ?_
      show Way _ _ _ _ (T24.setTop (mkF m 17 #[rv ur, rv px, iv (Int32.ofNat i), iv 95, q4] [(.int 95)]))
      refine Way.by (fun _ k => XS.bipush X25.here hx rfl (hb hby dAL_17) k) ?_
      show Way _ _ _ _ (T24.setTop (mkF m 19 #[rv ur, rv px, iv (Int32.ofNat i), iv 95, q4] [(.int 65), (.int 95)]))
      have b92 : ¬ (95 : Int32) < (65 : Int32) := by decide
      refine Way.by (fun _ k => XS.icmpNo X25.here hx rfl (hb hby dAL_19) rfl (flt b92).1 k) ?_
      show Way _ _ _ _ (T24.setTop (mkF m 22 #[rv ur, rv px, iv (Int32.ofNat i), iv 95, q4] []))
      refine Way.by (fun _ k => XS.iloadN X25.here hx rfl (hb hby dAL_22) rfl k) ?_
      show Way _ _ _ _ (T24.setTop (mkF m 23 #[rv ur, rv px, iv (Int32.ofNat i), iv 95, q4] [(.int 95)]))
      refine Way.by (fun _ k => XS.bipush X25.here hx rfl (hb hby dAL_23) k) ?_
      show Way _ _ _ _ (T24.setTop (mkF m 25 #[rv ur, rv px, iv (Int32.ofNat i), iv 95, q4] [(.int 90), (.int 95)]))
      have b93 : (90 : Int32) < (95 : Int32) := by decide
      refine Way.by (fun _ k => XS.icmpNo X25.here hx rfl (hb hby dAL_25) rfl (tlt b93).2.2.2 k) ?_
      show Way _ _ _ _ (T24.setTop (mkF m 28 #[rv ur, rv px, iv (Int32.ofNat i), iv 95, q4] []))
      refine Way.by (fun _ k => XS.iloadN X25.here hx rfl (hb hby dAL_28) rfl k) ?_
      show Way _ _ _ _ (T24.setTop (mkF m 29 #[rv ur, rv px, iv (Int32.ofNat i), iv 95, q4] [(.int 95)]))
      refine Way.by (fun _ k => XS.bipush X25.here hx rfl (hb hby dAL_29) k) ?_
      show Way _ _ _ _ (T24.setTop (mkF m 31 #[rv ur, rv px, iv (Int32.ofNat i), iv 95, q4] [(.int 97), (.int 95)]))
      have b94 : (95 : Int32) < (97 : Int32) := by decide
      refine Way.by (fun _ k => XS.icmpYes X25.here hx rfl (pc0 := 31) (pc' := 40) rfl (hb hby dAL_31) rfl (tlt b94).1 (by decide) (by decide) k) ?_
      show Way _ _ _ _ (T24.setTop (mkF m 40 #[rv ur, rv px, iv (Int32.ofNat i), iv 95, q4] []))
      refine Way.by (fun _ k => XS.iloadN X25.here hx rfl (hb hby dAL_40) rfl k) ?_
      show Way _ _ _ _ (T24.setTop (mkF m 41 #[rv ur, rv px, iv (Int32.ofNat i), iv 95, q4] [(.int 95)]))
      refine Way.by (fun _ k => XS.bipush X25.here hx rfl (hb hby dAL_41) k) ?_
      show Way _ _ _ _ (T24.setTop (mkF m 43 #[rv ur, rv px, iv (Int32.ofNat i), iv 95, q4] [(.int 48), (.int 95)]))
      have b95 : ¬ (95 : Int32) < (48 : Int32) := by decide
      refine Way.by (fun _ k => XS.icmpNo X25.here hx rfl (hb hby dAL_43) rfl (flt b95).1 k) ?_
      show Way _ _ _ _ (T24.setTop (mkF m 46 #[rv ur, rv px, iv (Int32.ofNat i), iv 95, q4] []))
      refine Way.by (fun _ k => XS.iloadN X25.here hx rfl (hb hby dAL_46) rfl k) ?_
      show Way _ _ _ _ (T24.setTop (mkF m 47 #[rv ur, rv px, iv (Int32.ofNat i), iv 95, q4] [(.int 95)]))
      refine Way.by (fun _ k => XS.bipush X25.here hx rfl (hb hby dAL_47) k) ?_
      show Way _ _ _ _ (T24.setTop (mkF m 49 #[rv ur, rv px, iv (Int32.ofNat i), iv 95, q4] [(.int 57), (.int 95)]))
      have b96 : (57 : Int32) < (95 : Int32) := by decide
      refine Way.by (fun _ k => XS.icmpYes X25.here hx rfl (pc0 := 49) (pc' := 56) rfl (hb hby dAL_49) rfl (tlt b96).2.2.1 (by decide) (by decide) k) ?_
      show Way _ _ _ _ (T24.setTop (mkF m 56 #[rv ur, rv px, iv (Int32.ofNat i), iv 95, q4] []))
      refine Way.by (fun _ k => XS.iconst X25.here hx rfl (hb hby dAL_56) k) ?_
      show Way _ _ _ _ (T24.setTop (mkF m 57 #[rv ur, rv px, iv (Int32.ofNat i), iv 95, q4] [(.int 0)]))
      refine Way.by (fun _ k => XS.istoreS X25.here hx rfl (hb hby dAL_57) rfl rfl hq4 k) ?_
      show Way _ _ _ _ (T24.setTop (mkF m 59 #[rv ur, rv px, iv (Int32.ofNat i), iv 95, iv 0] []))
      refine Way.by (fun _ k => XS.iload X25.here hx rfl (hb hby dAL_59) rfl k) ?_
      show Way _ _ _ _ (T24.setTop (mkF m 61 #[rv ur, rv px, iv (Int32.ofNat i), iv 95, iv 0] [(.int 0)]))
      have b97 : (0 : Int32) = (0 : Int32) := by decide
      refine Way.by (fun _ k => XS.ifNo X25.here hx rfl (hb hby dAL_61) rfl ((if0 .ne _).trans (teq b97).2) k) ?_
      show Way _ _ _ _ (T24.setTop (mkF m 64 #[rv ur, rv px, iv (Int32.ofNat i), iv 95, iv 0] []))
      refine Way.by (fun _ k => XS.aloadN X25.here hx rfl (hb hby dAL_64) rfl rfl k) ?_
      show Way _ _ _ _ (T24.setTop (mkF m 65 #[rv ur, rv px, iv (Int32.ofNat i), iv 95, iv 0] [(.ref ur)]))
      obtain ⟨T98, X99, e100, st101⟩ := getF X25 hx hZ hown (host := "") (Or.inl (tw hw 119 rfl)) Via.refl e36 J0 (g := (mkF m 65 #[rv ur, rv px, iv (Int32.ofNat i), iv 95, iv 0] [(.ref ur)])) rfl rfl (hb hby dAL_65)
      refine Way.by st101 ?_
      show Way _ _ _ _ (T98.setTop (mkF m 68 #[rv ur, rv px, iv (Int32.ofNat i), iv 95, iv 0] [(.ref up)]))
      refine Way.by (fun _ k => XS.iloadN X99.here hx rfl (hb hby dAL_68) rfl k) ?_
      show Way _ _ _ _ (T98.setTop (mkF m 69 #[rv ur, rv px, iv (Int32.ofNat i), iv 95, iv 0] [(.int 95), (.ref up)]))
      obtain ⟨cq118, kq119, qa120, qb121, qc122⟩ := isOf hZ e100 J1.1
      obtain ⟨_, _, ⟨T102, L104, k105, n106⟩, -, X103, ⟨Lc107, hQ108, l109, y110, z111⟩, st112⟩ := X99.virtualBack hx (y := (⟨"java/lang/String", "indexOf", "(I)I"⟩ : MethodName)) (z := (⟨"java/lang/String", "indexOf", "(I)I"⟩ : MethodName)) hown (mvT hZ (tw hw 121 rfl)) (mvT hZ (tw hw 122 rfl)) (notFace_of_selects (args := #[]) (mvT hZ (tw hw 124 rfl))) (mvT hZ (tw hw 124 rfl)) (mvT hZ (tw hw 123 rfl)) (by decide) (backOf (W := 0) (rmI195 l Z a0 hw [] up ut h n0 Zh J1 O SV) hZ (tw hw 125 rfl) (tw hw 11 rfl) (by decide) (by decide)) qa120 qc122 (g := (mkF m 69 #[rv ur, rv px, iv (Int32.ofNat i), iv 95, iv 0] [(.int 95), (.ref up)])) rfl (by rw [hml]; rfl) (Steps.refl _) (argsL := [(.int 95)]) (rest := []) (lenOf pdI146 rfl) rfl (leW rfl) (hb hby dAL_69) (fun _ _ => ⟨rfl, e100, (leB rfl), (leB rfl)⟩)
      dsimp only [Pt.U, Pt.locs, Pt.cells, Pt.slots] at X103 l109 y110 z111 st112 hQ108
      subst l109 y110 z111
      obtain ⟨rfl, N123, e114⟩ := hQ108
      have N113 := Fr.app N35 N123
      refine Way.to st112 ?_
      show Way _ _ _ _ (T102.setTop (mkF m 72 #[rv ur, rv px, iv (Int32.ofNat i), iv 95, iv 0] [(.int 1)]))
      have b125 : ¬ (1 : Int32) < (0 : Int32) := by decide
      refine Way.by (fun _ k => XS.ifYes X103.here hx rfl (pc0 := 72) (pc' := 77) rfl (hb hby dAL_72) rfl ((if0 .ge _).trans (flt b125).2.1) (by decide) (by decide) k) ?_
      show Way _ _ _ _ (T102.setTop (mkF m 77 #[rv ur, rv px, iv (Int32.ofNat i), iv 95, iv 0] []))
      refine Way.by (fun _ k => XS.iinc X103.here hx rfl (hb hby dAL_77) rfl (l' := #[rv ur, rv px, iv ((Int32.ofNat i) + (1 : Int32)), iv 95, iv 0]) rfl k) ?_
      show Way _ _ _ _ (T102.setTop (mkF m 80 #[rv ur, rv px, iv ((Int32.ofNat i) + (1 : Int32)), iv 95, iv 0] []))
      rw [← inc_ofNat i]
      show Way _ _ _ _ (T102.setTop (mkF m 80 #[rv ur, rv px, iv (Int32.ofNat (i + 1)), iv 95, iv 0] []))
      refine Way.by (fun _ k => XS.goto X103.here hx rfl (pc0 := 80) (pc' := 2) rfl (hb hby dAL_80) (by decide) (by decide) k) ?_
      show Way _ _ _ _ (T102.setTop (mkF m 2 #[rv ur, rv px, iv (Int32.ofNat (i + 1)), iv 95, iv 0] []))
      exact segAL2 l Z a0 hw ws ur up ut px pt cs h0 n0 Z0 H0 H1 H2 hok O0 SV p e s m below meth c s₁ Bd hml hZ hown T102 h _ X103 e114 N113 Zh O (i + 1) (iv 95) (iv 0) J0 J1 J2 hsz hi2 Eh (Or.inr ⟨_, rfl, rfl⟩) (Or.inr ⟨_, rfl, rfl⟩)
    · skip
      show Way _ _ _ _ (T24.setTop (mkF m 15 #[rv ur, rv px, iv (Int32.ofNat i), q3, q4] [(.int 45)]))
      refine Way.by (fun _ k => XS.istoreNS X25.here hx rfl (hb hby dAL_15) rfl rfl hq3 k) ?_
      show Way _ _ _ _ (T24.setTop (mkF m 16 #[rv ur, rv px, iv (Int32.ofNat i), iv 45, q4] []))
      refine Way.by (fun _ k => XS.iloadN X25.here hx rfl (hb hby dAL_16) rfl k) ?_
      show Way _ _ _ _ (T24.setTop (mkF m 17 #[rv ur, rv px, iv (Int32.ofNat i), iv 45, q4] [(.int 45)]))
      refine Way.by (fun _ k => XS.bipush X25.here hx rfl (hb hby dAL_17) k) ?_
      show Way _ _ _ _ (T24.setTop (mkF m 19 #[rv ur, rv px, iv (Int32.ofNat i), iv 45, q4] [(.int 65), (.int 45)]))
      have b126 : (45 : Int32) < (65 : Int32) := by decide
      refine Way.by (fun _ k => XS.icmpYes X25.here hx rfl (pc0 := 19) (pc' := 28) rfl (hb hby dAL_19) rfl (tlt b126).1 (by decide) (by decide) k) ?_
      show Way _ _ _ _ (T24.setTop (mkF m 28 #[rv ur, rv px, iv (Int32.ofNat i), iv 45, q4] []))
      refine Way.by (fun _ k => XS.iloadN X25.here hx rfl (hb hby dAL_28) rfl k) ?_
      show Way _ _ _ _ (T24.setTop (mkF m 29 #[rv ur, rv px, iv (Int32.ofNat i), iv 45, q4] [(.int 45)]))
      refine Way.by (fun _ k => XS.bipush X25.here hx rfl (hb hby dAL_29) k) ?_
      show Way _ _ _ _ (T24.setTop (mkF m 31 #[rv ur, rv px, iv (Int32.ofNat i), iv 45, q4] [(.int 97), (.int 45)]))
      have b127 : (45 : Int32) < (97 : Int32) := by decide
      refine Way.by (fun _ k => XS.icmpYes X25.here hx rfl (pc0 := 31) (pc' := 40) rfl (hb hby dAL_31) rfl (tlt b127).1 (by decide) (by decide) k) ?_
      show Way _ _ _ _ (T24.setTop (mkF m 40 #[rv ur, rv px, iv (Int32.ofNat i), iv 45, q4] []))
      refine Way.by (fun _ k => XS.iloadN X25.here hx rfl (hb hby dAL_40) rfl k) ?_
      show Way _ _ _ _ (T24.setTop (mkF m 41 #[rv ur, rv px, iv (Int32.ofNat i), iv 45, q4] [(.int 45)]))
      refine Way.by (fun _ k => XS.bipush X25.here hx rfl (hb hby dAL_41) k) ?_
      show Way _ _ _ _ (T24.setTop (mkF m 43 #[rv ur, rv px, iv (Int32.ofNat i), iv 45, q4] [(.int 48), (.int 45)]))
      have b128 : (45 : Int32) < (48 : Int32) := by decide
      refine Way.by (fun _ k => XS.icmpYes X25.here hx rfl (pc0 := 43) (pc' := 56) rfl (hb hby dAL_43) rfl (tlt b128).1 (by decide) (by decide) k) ?_
      show Way _ _ _ _ (T24.setTop (mkF m 56 #[rv ur, rv px, iv (Int32.ofNat i), iv 45, q4] []))
      refine Way.by (fun _ k => XS.iconst X25.here hx rfl (hb hby dAL_56) k) ?_
      show Way _ _ _ _ (T24.setTop (mkF m 57 #[rv ur, rv px, iv (Int32.ofNat i), iv 45, q4] [(.int 0)]))
      refine Way.by (fun _ k => XS.istoreS X25.here hx rfl (hb hby dAL_57) rfl rfl hq4 k) ?_
      show Way _ _ _ _ (T24.setTop (mkF m 59 #[rv ur, rv px, iv (Int32.ofNat i), iv 45, iv 0] []))
      refine Way.by (fun _ k => XS.iload X25.here hx rfl (hb hby dAL_59) rfl k) ?_
      show Way _ _ _ _ (T24.setTop (mkF m 61 #[rv ur, rv px, iv (Int32.ofNat i), iv 45, iv 0] [(.int 0)]))
      have b129 : (0 : Int32) = (0 : Int32) := by decide
      refine Way.by (fun _ k => XS.ifNo X25.here hx rfl (hb hby dAL_61) rfl ((if0 .ne _).trans (teq b129).2) k) ?_
      show Way _ _ _ _ (T24.setTop (mkF m 64 #[rv ur, rv px, iv (Int32.ofNat i), iv 45, iv 0] []))
      refine Way.by (fun _ k => XS.aloadN X25.here hx rfl (hb hby dAL_64) rfl rfl k) ?_
      show Way _ _ _ _ (T24.setTop (mkF m 65 #[rv ur, rv px, iv (Int32.ofNat i), iv 45, iv 0] [(.ref ur)]))
      obtain ⟨T130, X131, e132, st133⟩ := getF X25 hx hZ hown (host := "") (Or.inl (tw hw 119 rfl)) Via.refl e36 J0 (g := (mkF m 65 #[rv ur, rv px, iv (Int32.ofNat i), iv 45, iv 0] [(.ref ur)])) rfl rfl (hb hby dAL_65)
      refine Way.by st133 ?_
      show Way _ _ _ _ (T130.setTop (mkF m 68 #[rv ur, rv px, iv (Int32.ofNat i), iv 45, iv 0] [(.ref up)]))
      refine Way.by (fun _ k => XS.iloadN X131.here hx rfl (hb hby dAL_68) rfl k) ?_
      show Way _ _ _ _ (T130.setTop (mkF m 69 #[rv ur, rv px, iv (Int32.ofNat i), iv 45, iv 0] [(.int 45), (.ref up)]))
      obtain ⟨cq150, kq151, qa152, qb153, qc154⟩ := isOf hZ e132 J1.1
      obtain ⟨_, _, ⟨T134, L136, k137, n138⟩, -, X135, ⟨Lc139, hQ140, l141, y142, z143⟩, st144⟩ := X131.virtualBack hx (y := (⟨"java/lang/String", "indexOf", "(I)I"⟩ : MethodName)) (z := (⟨"java/lang/String", "indexOf", "(I)I"⟩ : MethodName)) hown (mvT hZ (tw hw 121 rfl)) (mvT hZ (tw hw 122 rfl)) (notFace_of_selects (args := #[]) (mvT hZ (tw hw 124 rfl))) (mvT hZ (tw hw 124 rfl)) (mvT hZ (tw hw 123 rfl)) (by decide) (backOf (W := 0) (rmI145 l Z a0 hw [] up ut h n0 Zh J1 O SV) hZ (tw hw 125 rfl) (tw hw 11 rfl) (by decide) (by decide)) qa152 qc154 (g := (mkF m 69 #[rv ur, rv px, iv (Int32.ofNat i), iv 45, iv 0] [(.int 45), (.ref up)])) rfl (by rw [hml]; rfl) (Steps.refl _) (argsL := [(.int 45)]) (rest := []) (lenOf pdI146 rfl) rfl (leW rfl) (hb hby dAL_69) (fun _ _ => ⟨rfl, e132, (leB rfl), (leB rfl)⟩)
      dsimp only [Pt.U, Pt.locs, Pt.cells, Pt.slots] at X135 l141 y142 z143 st144 hQ140
      subst l141 y142 z143
      obtain ⟨rfl, N155, e146⟩ := hQ140
      have N145 := Fr.app N35 N155
      refine Way.to st144 ?_
      show Way _ _ _ _ (T134.setTop (mkF m 72 #[rv ur, rv px, iv (Int32.ofNat i), iv 45, iv 0] [(.int 2)]))
      have b157 : ¬ (2 : Int32) < (0 : Int32) := by decide
      refine Way.by (fun _ k => XS.ifYes X135.here hx rfl (pc0 := 72) (pc' := 77) rfl (hb hby dAL_72) rfl ((if0 .ge _).trans (flt b157).2.1) (by decide) (by decide) k) ?_
      show Way _ _ _ _ (T134.setTop (mkF m 77 #[rv ur, rv px, iv (Int32.ofNat i), iv 45, iv 0] []))
      refine Way.by (fun _ k => XS.iinc X135.here hx rfl (hb hby dAL_77) rfl (l' := #[rv ur, rv px, iv ((Int32.ofNat i) + (1 : Int32)), iv 45, iv 0]) rfl k) ?_
      show Way _ _ _ _ (T134.setTop (mkF m 80 #[rv ur, rv px, iv ((Int32.ofNat i) + (1 : Int32)), iv 45, iv 0] []))
      rw [← inc_ofNat i]
      show Way _ _ _ _ (T134.setTop (mkF m 80 #[rv ur, rv px, iv (Int32.ofNat (i + 1)), iv 45, iv 0] []))
      refine Way.by (fun _ k => XS.goto X135.here hx rfl (pc0 := 80) (pc' := 2) rfl (hb hby dAL_80) (by decide) (by decide) k) ?_
      show Way _ _ _ _ (T134.setTop (mkF m 2 #[rv ur, rv px, iv (Int32.ofNat (i + 1)), iv 45, iv 0] []))
      exact segAL2 l Z a0 hw ws ur up ut px pt cs h0 n0 Z0 H0 H1 H2 hok O0 SV p e s m below meth c s₁ Bd hml hZ hown T134 h _ X135 e146 N145 Zh O (i + 1) (iv 45) (iv 0) J0 J1 J2 hsz hi2 Eh (Or.inr ⟨_, rfl, rfl⟩) (Or.inr ⟨_, rfl, rfl⟩)
  · skip
    refine Way.by (fun _ k => XS.icmpYes X2.here hx rfl (pc0 := 7) (pc' := 83) rfl (hb hby dAL_7) rfl (flt hlt).2.1 (by decide) (by decide) k) ?_
    show Way _ _ _ _ (T1.setTop (mkF m 83 #[rv ur, rv px, iv (Int32.ofNat i), q3, q4] []))
    refine Way.by (fun _ k => XS.iconst X2.here hx rfl (hb hby dAL_83) k) ?_
    show Way _ _ _ _ (T1.setTop (mkF m 84 #[rv ur, rv px, iv (Int32.ofNat i), q3, q4] [(.int 1)]))
    refine Way.ret (v := (some (.int (nar .boolean (1 : Int32))))) X2 hlk (fun h => by rw [Bd.returns] at h; cases h) (fun fs hr => retN X2 hx (t := .boolean) Bd.returns (by simp) (hb hby dAL_84) hr) ?_ (by decide) (by decide)
    show QAL Z ur up ut px pt cs h0 n0 _ T1.heap _
    rw [e13]
    exact ⟨rfl, N12, Eh⟩
termination_by cs.length - i
decreasing_by all_goals omega
set_option maxRecDepth 65536 in
set_option maxHeartbeats 40000000 in
theorem rmAL (l : Launch) (Z : State) (a0 : Array Value) (hw : ∀ d ∈ tables_1, d.before a0 Z = true) (ws : List Jvm.Cond) (ur : Addr) (up : Addr) (ut : Addr) (px : Addr) (pt : Addr) (cs : List Int32) (h0 : Heap) (n0 : Nat) (Z0 : n0 ≤ h0.size) (H0 : Fld Z h0 ur "com/example/deduct/deduct/model/NameRule" "punctuation" "Ljava/lang/String;" (.ref up)) (H1 : own_Str Z h0 up ut [46, 95, 45]) (H2 : own_Str Z h0 px pt cs) (hok : ∀ c ∈ cs, own_ok c) (O0 : Old Z n0 h0) (SV : own_Env Z) :
    MetFree l (⟨"com/example/deduct/deduct/model/NameRule", "allowed", "(Ljava/lang/String;)Z"⟩ : MethodName) (head1 (Jvm.Cond.code (⟨"com/example/deduct/deduct/model/NameRule", "allowed", "(Ljava/lang/String;)Z"⟩ : MethodName) prog_11_method_3_code 5 (some .boolean) :: ws) ({ frames := 4, cells := 0, slots := 0, locals := 60 } : Room)) (fun aa U => aa = #[(.ref ur), (.ref px)] ∧ Z.Warmed39 U.vm ∧ U.heap = h0) (fun _ _ _ _ _ => True) (fun _ U o U' => ∃ v L, o = .returned v ∧ QAL Z ur up ut px pt cs h0 n0 v U'.heap L ∧ FrameEnd U o U' L ({ frames := 4, cells := 0, slots := 0, locals := 60 } : Room).cells ({ frames := 4, cells := 0, slots := 0, locals := 60 } : Room).slots) := by
  refine MetFree.of_bodySF (plainFor_of_name pnAL) hisR ?_
  intro p e s m args below meth c s₁ Bd hml0 hP hK
  obtain ⟨rfl, hZ, hh⟩ := hP
  have hx := Bd.exec
  have hby := Bd.bytes
  have hlk : meth.locks = false := BodyLoose.notSynchronized Bd
  have hml : c.maxLocals = 5 := hml0
  have hown : s.vm.findClass "com/example/deduct/deduct/model/NameRule" = some m.cls := findClass_of_methodNamed Bd.named
  have hnm := (name_of_methodNamed Bd.named Bd.method).1
  have X0 : Stand p l e ({ frames := 4, cells := 0, slots := 0, locals := 60 } : Room) s m #[(.ref ur), (.ref px)] below meth c s₁ [] 0 0 := Stand.of_body Bd
  have e0 : s₁.heap = h0 := by rw [← hh, Bd.state]; rfl
  have N0 := Fr.nil n0
  have ef : entryFrame m #[(.ref ur), (.ref px)] 5 = mkF m 0 #[rv ur, rv px, .unset, .unset, .unset] [] := by first | (simp [entryFrame, mkF, argsToLocals, Value.category, maxLocals]; done) | rfl
  show Way p.tables e below (KQ s (QAL Z ur up ut px pt cs h0 n0) ({ frames := 4, cells := 0, slots := 0, locals := 60 } : Room).cells ({ frames := 4, cells := 0, slots := 0, locals := 60 } : Room).slots) (s₁.setTop (entryFrame m #[(.ref ur), (.ref px)] 5))
  rw [ef]
  refine Way.by (fun _ k => XS.iconst X0.here hx rfl (hb hby dAL_0) k) ?_
  show Way _ _ _ _ (s₁.setTop (mkF m 1 #[rv ur, rv px, .unset, .unset, .unset] [(.int 0)]))
  refine Way.by (fun _ k => XS.istoreN X0.here hx rfl (hb hby dAL_1) rfl (l' := #[rv ur, rv px, iv 0, .unset, .unset]) rfl k) ?_
  show Way _ _ _ _ (s₁.setTop (mkF m 2 #[rv ur, rv px, iv 0, .unset, .unset] []))
  have hsz : cs.length < 2147483648 := Nat.lt_of_le_of_lt H2.2.2.2.2.2 (by decide)
  exact segAL2 l Z a0 hw ws ur up ut px pt cs h0 n0 Z0 H0 H1 H2 hok O0 SV p e s m below meth c s₁ Bd hml hZ hown s₁ h0 _ X0 e0 N0 Z0 O0 0 .unset .unset H0 H1 H2 hsz (Nat.zero_le _) rfl (Or.inl rfl) (Or.inl rfl)
theorem own_le64 {n : Nat} (h : n ≤ 64) : ¬ (64 : Int32) < Int32.ofNat n := by
  rw [own_ltI]
  have e1 := Int32.toInt_ofNat_small (n := n) (by omega)
  have e4 : (64 : Int32).toInt = 64 := by decide
  omega
def QCK (Z : State) (ur : Addr) (up : Addr) (ut : Addr) (px : Addr) (pt : Addr) (cs : List Int32) (pw : Addr) (h0 : Heap) (n0 : Nat) (v : Option Value) (h : Heap) (L : List Loc) : Prop := v = some (.ref px) ∧ Fr n0 L ∧ Keep h0 h []
theorem dCK_0 : decode prog_11_method_2_code 0 = .ok (.aload_n 1, 1) := by decide +kernel
theorem dCK_1 : decode prog_11_method_2_code 1 = .ok (.ldc 16, 2) := by decide +kernel
theorem dCK_3 : decode prog_11_method_2_code 3 = .ok (.invokestatic 18, 3) := by decide +kernel
theorem dCK_6 : decode prog_11_method_2_code 6 = .ok (.pop, 1) := by decide +kernel
theorem dCK_7 : decode prog_11_method_2_code 7 = .ok (.aload_n 1, 1) := by decide +kernel
theorem dCK_8 : decode prog_11_method_2_code 8 = .ok (.invokevirtual 24, 3) := by decide +kernel
theorem dCK_11 : decode prog_11_method_2_code 11 = .ok (.ifCond .ne 20, 3) := by decide +kernel
theorem dCK_14 : decode prog_11_method_2_code 14 = .ok (.aload_n 1, 1) := by decide +kernel
theorem dCK_15 : decode prog_11_method_2_code 15 = .ok (.invokevirtual 30, 3) := by decide +kernel
theorem dCK_18 : decode prog_11_method_2_code 18 = .ok (.bipush 64, 2) := by decide +kernel
theorem dCK_20 : decode prog_11_method_2_code 20 = .ok (.if_icmp .gt 11, 3) := by decide +kernel
theorem dCK_23 : decode prog_11_method_2_code 23 = .ok (.aload_n 0, 1) := by decide +kernel
theorem dCK_24 : decode prog_11_method_2_code 24 = .ok (.aload_n 1, 1) := by decide +kernel
theorem dCK_25 : decode prog_11_method_2_code 25 = .ok (.invokevirtual 34, 3) := by decide +kernel
theorem dCK_28 : decode prog_11_method_2_code 28 = .ok (.ifCond .ne 21, 3) := by decide +kernel
theorem dCK_49 : decode prog_11_method_2_code 49 = .ok (.aload_n 1, 1) := by decide +kernel
theorem dCK_50 : decode prog_11_method_2_code 50 = .ok (.areturn, 1) := by decide +kernel
theorem pdCK : parseMethodDescriptor "(Ljava/lang/String;Ljava/lang/String;)Ljava/lang/String;" = some ⟨[(.object "java/lang/String"), (.object "java/lang/String")], some (.object "java/lang/String")⟩ := by decide +kernel
set_option maxRecDepth 65536 in
set_option maxHeartbeats 40000000 in
theorem rmCK (l : Launch) (Z : State) (a0 : Array Value) (hw : ∀ d ∈ tables_1, d.before a0 Z = true) (ws : List Jvm.Cond) (ur : Addr) (up : Addr) (ut : Addr) (px : Addr) (pt : Addr) (cs : List Int32) (pw : Addr) (h0 : Heap) (n0 : Nat) (Z0 : n0 ≤ h0.size) (H0 : Fld Z h0 ur "com/example/deduct/deduct/model/NameRule" "punctuation" "Ljava/lang/String;" (.ref up)) (H1 : own_Str Z h0 up ut [46, 95, 45]) (H2 : own_Str Z h0 px pt cs) (H3 : Exa Z h0 ur "com/example/deduct/deduct/model/NameRule") (hok : ∀ c ∈ cs, own_ok c) (hln : 0 < cs.length ∧ cs.length ≤ 64) (O0 : Old Z n0 h0) (SV : own_Env Z) :
    MetFree l (⟨"com/example/deduct/deduct/model/NameRule", "check", "(Ljava/lang/String;Ljava/lang/String;)Ljava/lang/String;"⟩ : MethodName) (head1 (Jvm.Cond.code (⟨"com/example/deduct/deduct/model/NameRule", "check", "(Ljava/lang/String;Ljava/lang/String;)Ljava/lang/String;"⟩ : MethodName) prog_11_method_2_code 3 (some (.object "java/lang/String")) :: ws) ({ frames := 5, cells := 2, slots := 24, locals := 78 } : Room)) (fun aa U => aa = #[(.ref ur), (.ref px), (.ref pw)] ∧ Z.Warmed39 U.vm ∧ U.heap = h0) (fun _ _ _ _ _ => True) (fun _ U o U' => ∃ v L, o = .returned v ∧ QCK Z ur up ut px pt cs pw h0 n0 v U'.heap L ∧ ReturnedEndW U o U' L ({ frames := 5, cells := 2, slots := 24, locals := 78 } : Room).cells ({ frames := 5, cells := 2, slots := 24, locals := 78 } : Room).slots) := by
  refine MetFree.of_bodySF (plainFor_of_name pnAL) hisR ?_
  intro p e s m args below meth c s₁ Bd hml0 hP hK
  obtain ⟨rfl, hZ, hh⟩ := hP
  have hx := Bd.exec
  have hby := Bd.bytes
  have hlk : meth.locks = false := BodyLoose.notSynchronized Bd
  have hml : c.maxLocals = 3 := hml0
  have hown : s.vm.findClass "com/example/deduct/deduct/model/NameRule" = some m.cls := findClass_of_methodNamed Bd.named
  have hnm := (name_of_methodNamed Bd.named Bd.method).1
  have X0 : Stand p l e ({ frames := 5, cells := 2, slots := 24, locals := 78 } : Room) s m #[(.ref ur), (.ref px), (.ref pw)] below meth c s₁ [] 0 0 := Stand.of_body Bd
  have e0 : s₁.heap = h0 := by rw [← hh, Bd.state]; rfl
  have N0 := Fr.nil n0
  have ef : entryFrame m #[(.ref ur), (.ref px), (.ref pw)] 3 = mkF m 0 #[rv ur, rv px, rv pw] [] := by first | (simp [entryFrame, mkF, argsToLocals, Value.category, maxLocals]; done) | rfl
  have XW : Stand p l e ({ frames := 5, cells := 2, slots := 24, locals := 78 } : Room) (s.setVm s.vm) m #[(.ref ur), (.ref px), (.ref pw)] below meth c s₁ [] 0 0 := X0
  have hS0 : s.Since s.vm 0 := (State.WarmedH.refl s).since 0
  have hZ0 : Z.Warmed39 (s.setVm s.vm).vm := hZ
  have hown0 : (s.setVm s.vm).vm.findClass "com/example/deduct/deduct/model/NameRule" = some m.cls := hown
  have wS : ∀ d ∈ Bundle.stringAtoms, d.before a0 Z = true := fun d hd => hw d (own_wS d hd)
  show Way p.tables e below (KQW s (QCK Z ur up ut px pt cs pw h0 n0) ({ frames := 5, cells := 2, slots := 24, locals := 78 } : Room).cells ({ frames := 5, cells := 2, slots := 24, locals := 78 } : Room).slots) (s₁.setTop (entryFrame m #[(.ref ur), (.ref px), (.ref pw)] 3))
  rw [ef]
  refine Way.by (fun _ k => XS.aloadN XW.here hx rfl (hb hby dCK_0) rfl rfl k) ?_
  show Way _ _ _ _ (s₁.setTop (mkF m 1 #[rv ur, rv px, rv pw] [(.ref px)]))
  obtain ⟨a1, T2, h3, k4, X5, e6, E7, hS8, hk9, hZ10, hown11, st12⟩ := ldcS XW hx hZ0 hown0 (tw hw 53 rfl) wS e0 hS0 (Nat.zero_le _) (g := (mkF m 1 #[rv ur, rv px, rv pw] [(.ref px)])) rfl (hb hby dCK_1) (n := 20) (by decide) (by decide) (by decide) (by decide)
  have F13 := Fld.ext E7 H0
  have S14 := H1.ext E7
  have S15 := H2.ext E7
  have E16 := Exa.ext E7 H3
  have Z17 := Nat.le_trans Z0 E7.1
  have O18 := O0.ext E7
  have K19 := (Keep.refl h0 []).ext E7
  have hz20 := Nat.le_trans (Nat.le_refl h0.size) E7.1
  refine Way.by st12 ?_
  show Way _ _ _ _ (T2.setTop (mkF m 3 #[rv ur, rv px, rv pw] [(.ref a1), (.ref px)]))
  obtain ⟨_, _, ⟨T21, L23, k24, n25⟩, -, X22, ⟨Lc26, hQ27, l28, y29, z30⟩, st31⟩ := Jvm.LawKit.callS X5 hx (y := (⟨"java/util/Objects", "requireNonNull", "(Ljava/lang/Object;Ljava/lang/String;)Ljava/lang/Object;"⟩ : MethodName)) hown11 (mvT hZ10 (tw hw 54 rfl)) (mvT hZ10 (tw hw 55 rfl)) (mvT hZ10 (tw hw 56 rfl)) (mvT hZ10 (tw hw 57 rfl)) (by decide) (backOf (W := 0) (rmR l Z a0 hw [] px a1 h3 n0 Z17 ) hZ10 (tw hw 57 rfl) (tw hw 56 rfl) (by decide) (by decide)) (g := (mkF m 3 #[rv ur, rv px, rv pw] [(.ref a1), (.ref px)])) rfl (by rw [hml]; rfl) (argsL := [(.ref px), (.ref a1)]) (rest := []) (lenOf pdR rfl) rfl (leW rfl) (hb hby dCK_3) (fun _ _ => ⟨rfl, e6, (leB rfl), (leB rfl)⟩)
  dsimp only [Pt.U, Pt.locs, Pt.cells, Pt.slots] at X22 l28 y29 z30 st31 hQ27
  subst l28 y29 z30
  obtain ⟨rfl, N37, e33⟩ := hQ27
  have N32 := Fr.app N0 N37
  refine Way.by st31 ?_
  show Way _ _ _ _ (T21.setTop (mkF m 6 #[rv ur, rv px, rv pw] [(.ref px)]))
  refine Way.by (fun _ k => XT.pop X22.here hx rfl (hb hby dCK_6) rfl rfl k) ?_
  show Way _ _ _ _ (T21.setTop (mkF m 7 #[rv ur, rv px, rv pw] []))
  refine Way.by (fun _ k => XS.aloadN X22.here hx rfl (hb hby dCK_7) rfl rfl k) ?_
  show Way _ _ _ _ (T21.setTop (mkF m 8 #[rv ur, rv px, rv pw] [(.ref px)]))
  obtain ⟨cq55, kq56, qa57, qb58, qc59⟩ := isOf hZ10 e33 S15.1
  obtain ⟨_, _, ⟨T39, L41, k42, n43⟩, -, X40, ⟨Lc44, hQ45, l46, y47, z48⟩, st49⟩ := X22.virtualBack hx (y := (⟨"java/lang/String", "isEmpty", "()Z"⟩ : MethodName)) (z := (⟨"java/lang/String", "isEmpty", "()Z"⟩ : MethodName)) hown11 (mvT hZ10 (tw hw 58 rfl)) (mvT hZ10 (tw hw 59 rfl)) (notFace_of_selects (args := #[]) (mvT hZ10 (tw hw 61 rfl))) (mvT hZ10 (tw hw 61 rfl)) (mvT hZ10 (tw hw 60 rfl)) (by decide) (own_emp (W := 0) (n0 := n0) hZ10 hw (cs := cs) S15 (by decide) (by decide)) qa57 qc59 (g := (mkF m 8 #[rv ur, rv px, rv pw] [(.ref px)])) rfl (by rw [hml]; rfl) (Steps.refl _) (argsL := []) (rest := []) (lenOf own_pdEmp rfl) rfl (leW rfl) (hb hby dCK_8) (fun _ _ => ⟨rfl, e33, (leB rfl), (leB rfl)⟩)
  dsimp only [Pt.U, Pt.locs, Pt.cells, Pt.slots] at X40 l46 y47 z48 st49 hQ45
  subst l46 y47 z48
  obtain ⟨rfl, N60, e51⟩ := hQ45
  have N50 := Fr.app N32 N60
  refine Way.to st49 ?_
  show Way _ _ _ _ (T39.setTop (mkF m 11 #[rv ur, rv px, rv pw] [(.int (if cs.length = 0 then (1 : Int32) else 0))]))
  have b62 : (if cs.length = 0 then (1 : Int32) else 0) = (0 : Int32) := if_neg (by omega)
  refine Way.by (fun _ k => XS.ifNo X40.here hx rfl (hb hby dCK_11) rfl ((if0 .ne _).trans (teq b62).2) k) ?_
  show Way _ _ _ _ (T39.setTop (mkF m 14 #[rv ur, rv px, rv pw] []))
  refine Way.by (fun _ k => XS.aloadN X40.here hx rfl (hb hby dCK_14) rfl rfl k) ?_
  show Way _ _ _ _ (T39.setTop (mkF m 15 #[rv ur, rv px, rv pw] [(.ref px)]))
  obtain ⟨cq79, kq80, qa81, qb82, qc83⟩ := isOf hZ10 e51 S15.1
  obtain ⟨_, _, ⟨T63, L65, k66, n67⟩, -, X64, ⟨Lc68, hQ69, l70, y71, z72⟩, st73⟩ := X40.virtualBack hx (y := (⟨"java/lang/String", "length", "()I"⟩ : MethodName)) (z := (⟨"java/lang/String", "length", "()I"⟩ : MethodName)) hown11 (mvT hZ10 (tw hw 63 rfl)) (mvT hZ10 (tw hw 64 rfl)) (notFace_of_selects (args := #[]) (mvT hZ10 (tw hw 66 rfl))) (mvT hZ10 (tw hw 66 rfl)) (mvT hZ10 (tw hw 65 rfl)) (by decide) (own_len (W := 0) (n0 := n0) hZ10 hw SV O18 (cs := cs) S15 (by decide) (by decide)) qa81 qc83 (g := (mkF m 15 #[rv ur, rv px, rv pw] [(.ref px)])) rfl (by rw [hml]; rfl) (Steps.refl _) (argsL := []) (rest := []) (lenOf own_pdLen rfl) rfl (leW rfl) (hb hby dCK_15) (fun _ _ => ⟨rfl, e51, (leB rfl), (leB rfl)⟩)
  dsimp only [Pt.U, Pt.locs, Pt.cells, Pt.slots] at X64 l70 y71 z72 st73 hQ69
  subst l70 y71 z72
  obtain ⟨rfl, N84, e75⟩ := hQ69
  have N74 := Fr.app N50 N84
  refine Way.to st73 ?_
  show Way _ _ _ _ (T63.setTop (mkF m 18 #[rv ur, rv px, rv pw] [(.int (Int32.ofNat cs.length))]))
  refine Way.by (fun _ k => XS.bipush X64.here hx rfl (hb hby dCK_18) k) ?_
  show Way _ _ _ _ (T63.setTop (mkF m 20 #[rv ur, rv px, rv pw] [(.int 64), (.int (Int32.ofNat cs.length))]))
  have b86 : ¬ (64 : Int32) < (Int32.ofNat cs.length) := own_le64 hln.2
  refine Way.by (fun _ k => XS.icmpNo X64.here hx rfl (hb hby dCK_20) rfl (flt b86).2.2.1 k) ?_
  show Way _ _ _ _ (T63.setTop (mkF m 23 #[rv ur, rv px, rv pw] []))
  refine Way.by (fun _ k => XS.aloadN X64.here hx rfl (hb hby dCK_23) rfl rfl k) ?_
  show Way _ _ _ _ (T63.setTop (mkF m 24 #[rv ur, rv px, rv pw] [(.ref ur)]))
  refine Way.by (fun _ k => XS.aloadN X64.here hx rfl (hb hby dCK_24) rfl rfl k) ?_
  show Way _ _ _ _ (T63.setTop (mkF m 25 #[rv ur, rv px, rv pw] [(.ref px), (.ref ur)]))
  obtain ⟨cq103, qa104, qb105⟩ := E16.cell
  obtain ⟨_, _, ⟨T87, L89, k90, n91⟩, -, X88, ⟨Lc92, hQ93, l94, y95, z96⟩, st97⟩ := X64.privateBack hx (y := (⟨"com/example/deduct/deduct/model/NameRule", "allowed", "(Ljava/lang/String;)Z"⟩ : MethodName)) hown11 (mvT hZ10 (tw hw 73 rfl)) (mvT hZ10 (tw hw 74 rfl)) (selPriv (z := (⟨"com/example/deduct/deduct/model/NameRule", "check", "(Ljava/lang/String;Ljava/lang/String;)Ljava/lang/String;"⟩ : MethodName)) rfl (mvT hZ10 (tw hw 50 rfl)) (Cond.privateMethod_at (mvP hZ10 (tw hw 75 rfl) (args := #[]))) (mvT hZ10 (tw hw 74 rfl)) (by decide)) (Cond.privateMethod_at (mvP hZ10 (tw hw 75 rfl) (args := #[]))) (mvT hZ10 (tw hw 76 rfl)) (by decide) (backOf (W := 0) (rmAL l Z a0 hw [] ur up ut px pt cs h3 n0 Z17 F13 S14 S15 hok O18 SV) hZ10 (tw hw 76 rfl) (tw hw 51 rfl) (by decide) (by decide)) (g := (mkF m 25 #[rv ur, rv px, rv pw] [(.ref px), (.ref ur)])) rfl (by rw [hml]; rfl) (Steps.refl _) (a := ur) (by rw [e75]; exact qa104) qb105 (argsL := [(.ref px)]) (rest := []) (lenOf pdAL rfl) rfl (leW rfl) (hb hby dCK_25) (fun _ _ => ⟨rfl, e75, (leB rfl), (leB rfl)⟩)
  dsimp only [Pt.U, Pt.locs, Pt.cells, Pt.slots] at X88 l94 y95 z96 st97 hQ93
  subst l94 y95 z96
  obtain ⟨rfl, N106, e99⟩ := hQ93
  have N98 := Fr.app N74 N106
  refine Way.to st97 ?_
  show Way _ _ _ _ (T87.setTop (mkF m 28 #[rv ur, rv px, rv pw] [(.int 1)]))
  have b108 : ¬ (1 : Int32) = (0 : Int32) := by decide
  refine Way.by (fun _ k => XS.ifYes X88.here hx rfl (pc0 := 28) (pc' := 49) rfl (hb hby dCK_28) rfl ((if0 .ne _).trans (feq b108).2) (by decide) (by decide) k) ?_
  show Way _ _ _ _ (T87.setTop (mkF m 49 #[rv ur, rv px, rv pw] []))
  refine Way.by (fun _ k => XS.aloadN X88.here hx rfl (hb hby dCK_49) rfl rfl k) ?_
  show Way _ _ _ _ (T87.setTop (mkF m 50 #[rv ur, rv px, rv pw] [(.ref px)]))
  refine Way.retW (v := (some (.ref px))) X88 hS8 (by rw [e99]; exact hk9) hlk (fun h => by rw [Bd.returns] at h; cases h) (fun fs hr => retOut X88 hx Bd.returns rfl (Or.inr (Or.inr (Or.inr (Or.inr ⟨rfl, rfl, rfl⟩)))) (hb hby dCK_50) hr) ?_ (by decide) (by decide)
  show QCK Z ur up ut px pt cs pw h0 n0 _ T87.heap _
  rw [e99]
  exact ⟨rfl, N98, K19⟩
def QII (Z : State) (pa : Addr) (px : Addr) (pt : Addr) (cs : List Int32) (ur : Addr) (up : Addr) (ut : Addr) (h0 : Heap) (n0 : Nat) (v : Option Value) (h : Heap) (L : List Loc) : Prop := v = none ∧ Fr n0 L ∧ Keep h0 h [pa] ∧ Exa Z h pa "com/example/deduct/deduct/model/ItemId" ∧ Fld Z h pa "com/example/deduct/deduct/model/ItemId" "value" "Ljava/lang/String;" (.ref px)
theorem dII_0 : decode prog_8_method_1_code 0 = .ok (.aload_n 0, 1) := by decide +kernel
theorem dII_1 : decode prog_8_method_1_code 1 = .ok (.invokespecial 3, 3) := by decide +kernel
theorem dII_4 : decode prog_8_method_1_code 4 = .ok (.aload_n 0, 1) := by decide +kernel
theorem dII_5 : decode prog_8_method_1_code 5 = .ok (.getstatic 9, 3) := by decide +kernel
theorem dII_8 : decode prog_8_method_1_code 8 = .ok (.aload_n 1, 1) := by decide +kernel
theorem dII_9 : decode prog_8_method_1_code 9 = .ok (.ldc 15, 2) := by decide +kernel
theorem dII_11 : decode prog_8_method_1_code 11 = .ok (.invokevirtual 17, 3) := by decide +kernel
theorem dII_14 : decode prog_8_method_1_code 14 = .ok (.putfield 21, 3) := by decide +kernel
theorem dII_17 : decode prog_8_method_1_code 17 = .ok (.return_, 1) := by decide +kernel
theorem pnII : plainName "com/example/deduct/deduct/model/ItemId" = true := by first | (simp [plainName, overriddenIn]; done) | decide +kernel
theorem pdII : parseMethodDescriptor "(Ljava/lang/String;)V" = some ⟨[(.object "java/lang/String")], none⟩ := by decide +kernel
set_option maxRecDepth 65536 in
set_option maxHeartbeats 40000000 in
theorem rmII (l : Launch) (Z : State) (a0 : Array Value) (hw : ∀ d ∈ tables_1, d.before a0 Z = true) (ws : List Jvm.Cond) (pa : Addr) (px : Addr) (pt : Addr) (cs : List Int32) (ur : Addr) (up : Addr) (ut : Addr) (h0 : Heap) (n0 : Nat) (Z0 : n0 ≤ h0.size) (H0 : Exa Z h0 pa "com/example/deduct/deduct/model/ItemId") (H1 : Fld Z h0 pa "com/example/deduct/deduct/model/ItemId" "value" "Ljava/lang/String;" .null) (H2 : own_Str Z h0 px pt cs) (hok : ∀ c ∈ cs, own_ok c) (hln : 0 < cs.length ∧ cs.length ≤ 64) (ne_px_pa : px ≠ pa) (ne_pt_pa : pt ≠ pa) (nw_pa : n0 ≤ pa) (O0 : Old Z n0 h0) (SV : own_Env Z) (SRULE : Sta Z Z.heap "com/example/deduct/deduct/model/ItemId" "RULE" "Lcom/example/deduct/deduct/model/NameRule;" (.ref ur)) (ERULE : Exa Z Z.heap ur "com/example/deduct/deduct/model/NameRule") (FPU : Fld Z Z.heap ur "com/example/deduct/deduct/model/NameRule" "punctuation" "Ljava/lang/String;" (.ref up)) (SPU : own_Str Z Z.heap up ut [46, 95, 45]) :
    MetFree l (⟨"com/example/deduct/deduct/model/ItemId", "<init>", "(Ljava/lang/String;)V"⟩ : MethodName) (head1 (Jvm.Cond.code (⟨"com/example/deduct/deduct/model/ItemId", "<init>", "(Ljava/lang/String;)V"⟩ : MethodName) prog_8_method_1_code 2 none :: ws) ({ frames := 6, cells := 4, slots := 56, locals := 93 } : Room)) (fun aa U => aa = #[(.ref pa), (.ref px)] ∧ Z.Warmed39 U.vm ∧ U.heap = h0) (fun _ _ _ _ _ => True) (fun _ U o U' => ∃ v L, o = .returned v ∧ QII Z pa px pt cs ur up ut h0 n0 v U'.heap L ∧ ReturnedEndW U o U' L ({ frames := 6, cells := 4, slots := 56, locals := 93 } : Room).cells ({ frames := 6, cells := 4, slots := 56, locals := 93 } : Room).slots) := by
  refine MetFree.of_bodySF (plainFor_of_name pnII) hisR ?_
  intro p e s m args below meth c s₁ Bd hml0 hP hK
  obtain ⟨rfl, hZ, hh⟩ := hP
  have hx := Bd.exec
  have hby := Bd.bytes
  have hlk : meth.locks = false := BodyLoose.notSynchronized Bd
  have hml : c.maxLocals = 2 := hml0
  have hown : s.vm.findClass "com/example/deduct/deduct/model/ItemId" = some m.cls := findClass_of_methodNamed Bd.named
  have hnm := (name_of_methodNamed Bd.named Bd.method).1
  have X0 : Stand p l e ({ frames := 6, cells := 4, slots := 56, locals := 93 } : Room) s m #[(.ref pa), (.ref px)] below meth c s₁ [] 0 0 := Stand.of_body Bd
  have e0 : s₁.heap = h0 := by rw [← hh, Bd.state]; rfl
  have N0 := Fr.nil n0
  have ef : entryFrame m #[(.ref pa), (.ref px)] 2 = mkF m 0 #[rv pa, rv px] [] := by first | (simp [entryFrame, mkF, argsToLocals, Value.category, maxLocals]; done) | rfl
  have XW : Stand p l e ({ frames := 6, cells := 4, slots := 56, locals := 93 } : Room) (s.setVm s.vm) m #[(.ref pa), (.ref px)] below meth c s₁ [] 0 0 := X0
  have hS0 : s.Since s.vm 0 := (State.WarmedH.refl s).since 0
  have hZ0 : Z.Warmed39 (s.setVm s.vm).vm := hZ
  have hown0 : (s.setVm s.vm).vm.findClass "com/example/deduct/deduct/model/ItemId" = some m.cls := hown
  have wS : ∀ d ∈ Bundle.stringAtoms, d.before a0 Z = true := fun d hd => hw d (own_wS d hd)
  show Way p.tables e below (KQW s (QII Z pa px pt cs ur up ut h0 n0) ({ frames := 6, cells := 4, slots := 56, locals := 93 } : Room).cells ({ frames := 6, cells := 4, slots := 56, locals := 93 } : Room).slots) (s₁.setTop (entryFrame m #[(.ref pa), (.ref px)] 2))
  rw [ef]
  have ER0 := Exa.ext O0.2 ERULE
  have FP0 := Fld.ext O0.2 FPU
  have SP0 := SPU.ext O0.2
  have ne_ur : ur ≠ pa := Old.ne O0 ERULE.lt nw_pa
  have ne_up : up ≠ pa := Old.ne O0 SPU.lt1 nw_pa
  have ne_ut : ut ≠ pa := Old.ne O0 SPU.lt2 nw_pa
  refine Way.by (fun _ k => XS.aloadN XW.here hx rfl (hb hby dII_0) rfl rfl k) ?_
  show Way _ _ _ _ (s₁.setTop (mkF m 1 #[rv pa, rv px] [(.ref pa)]))
  obtain ⟨T1, X2, e3, st4⟩ := initO XW hx hZ0 hown0 (tw hw 41 rfl) (tw hw 20 rfl) (tw hw 21 rfl) e0 (g := (mkF m 1 #[rv pa, rv px] [(.ref pa)])) rfl (by rw [hml]; rfl) rfl (hb hby dII_1) (by decide) (W := 0) (leW rfl) (by decide)
  refine Way.by st4 ?_
  show Way _ _ _ _ (T1.setTop (mkF m 4 #[rv pa, rv px] []))
  refine Way.by (fun _ k => XS.aloadN X2.here hx rfl (hb hby dII_4) rfl rfl k) ?_
  show Way _ _ _ _ (T1.setTop (mkF m 5 #[rv pa, rv px] [(.ref pa)]))
  obtain ⟨T5, X6, e7, st8⟩ := getS X2 hx hZ0 hown0 (host := "") (tw hw 42 rfl) Via.refl e3 (Sta.ext O0.2 SRULE) (g := (mkF m 5 #[rv pa, rv px] [(.ref pa)])) rfl (hb hby dII_5)
  refine Way.by st8 ?_
  show Way _ _ _ _ (T5.setTop (mkF m 8 #[rv pa, rv px] [(.ref ur), (.ref pa)]))
  refine Way.by (fun _ k => XS.aloadN X6.here hx rfl (hb hby dII_8) rfl rfl k) ?_
  show Way _ _ _ _ (T5.setTop (mkF m 9 #[rv pa, rv px] [(.ref px), (.ref ur), (.ref pa)]))
  obtain ⟨a9, T10, h11, k12, X13, e14, E15, hS16, hk17, hZ18, hown19, st20⟩ := ldcS X6 hx hZ0 hown0 (tw hw 44 rfl) wS e7 hS0 (Nat.zero_le _) (g := (mkF m 9 #[rv pa, rv px] [(.ref px), (.ref ur), (.ref pa)])) rfl (hb hby dII_9) (n := 28) (by decide) (by decide) (by decide) (by decide)
  have E21 := Exa.ext E15 H0
  have F22 := Fld.ext E15 H1
  have S23 := H2.ext E15
  have E24 := Exa.ext E15 ER0
  have F25 := Fld.ext E15 FP0
  have S26 := SP0.ext E15
  have Z27 := Nat.le_trans Z0 E15.1
  have O28 := O0.ext E15
  have K29 := (Keep.refl h0 [pa]).ext E15
  have hz30 := Nat.le_trans (Nat.le_refl h0.size) E15.1
  refine Way.by st20 ?_
  show Way _ _ _ _ (T10.setTop (mkF m 11 #[rv pa, rv px] [(.ref a9), (.ref px), (.ref ur), (.ref pa)]))
  obtain ⟨cq47, kq48, qa49, qb50, qc51⟩ := isOf hZ18 e14 E24
  obtain ⟨_, _, ⟨T31, L33, k34, n35⟩, -, X32, hS44, hg45, ⟨Lc36, hQ37, l38, y39, z40⟩, st41⟩ := X13.virtualBackS hx (y := (⟨"com/example/deduct/deduct/model/NameRule", "check", "(Ljava/lang/String;Ljava/lang/String;)Ljava/lang/String;"⟩ : MethodName)) (z := (⟨"com/example/deduct/deduct/model/NameRule", "check", "(Ljava/lang/String;Ljava/lang/String;)Ljava/lang/String;"⟩ : MethodName)) hown19 (mvT hZ18 (tw hw 47 rfl)) (mvT hZ18 (tw hw 48 rfl)) (notFace_of_selects (args := #[]) (mvT hZ18 (tw hw 50 rfl))) (mvT hZ18 (tw hw 50 rfl)) (mvT hZ18 (tw hw 49 rfl)) (by decide) (backOfS (W := 1) (rmCK l Z a0 hw [] ur up ut px pt cs a9 h11 n0 Z27 F25 S26 S23 E24 hok hln O28 SV) hZ18 (tw hw 52 rfl) (tw hw 51 rfl) (by decide) (by decide)) qa49 qc51 (g := (mkF m 11 #[rv pa, rv px] [(.ref a9), (.ref px), (.ref ur), (.ref pa)])) rfl (by rw [hml]; rfl) (Steps.refl _) (argsL := [(.ref px), (.ref a9)]) (rest := [(.ref pa)]) (lenOf pdCK rfl) rfl (leW rfl) (hb hby dII_11) (fun _ _ => ⟨rfl, e14, (leB rfl), (leB rfl)⟩)
  dsimp only [Pt.U, Pt.locs, Pt.cells, Pt.slots] at X32 l38 y39 z40 st41 hQ37 hS44 hg45
  subst l38 y39 z40
  obtain ⟨X52, hS53, hZ54, hown55⟩ := rebS hS16 (by rw [e14]; exact hk17) X32 hS44 hg45 hZ18 hown19
  obtain ⟨rfl, N56, K57⟩ := hQ37
  have N42 := Fr.app N0 N56
  have E58 := E21.keep K57
  have F59 := F22.keep K57 nin0
  have S60 := S23.keep K57 nin0 nin0
  have E61 := E24.keep K57
  have F62 := F25.keep K57 nin0
  have S63 := S26.keep K57 nin0 nin0
  have Z64 := Nat.le_trans Z27 K57.1
  have O65 := O28.keep K57 all0
  have K66 := K29.trans K57 all0
  have hz67 := Nat.le_trans hz30 K57.1
  refine Way.to st41 ?_
  show Way _ _ _ _ (T31.setTop (mkF m 14 #[rv pa, rv px] [(.ref px), (.ref pa)]))
  obtain ⟨T68, h69, X70, e71, W72, st73⟩ := putF X52 hx hZ54 hown55 (host := "") (Or.inl (tw hw 99 rfl)) Via.refl rfl F59 E58 (Or.inr ⟨(tw hw 100 rfl), rfl, hnm⟩) (tw hw 7 rfl) (ty := (.object "java/lang/String")) (by decide) rfl rfl (g := (mkF m 14 #[rv pa, rv px] [(.ref px), (.ref pa)])) rfl rfl (hb hby dII_14)
  have N74 := Fr.snoc X70 N42 nw_pa
  have E75 := Exa.wr W72 E58
  have F76 : Fld Z h69 pa "com/example/deduct/deduct/model/ItemId" "value" "Ljava/lang/String;" (.ref px) := F59.same W72
  have S77 := S60.other W72 ne_px_pa ne_pt_pa
  have E78 := Exa.wr W72 E61
  have F79 := F62.other W72 (Or.inl ne_ur)
  have S80 := S63.other W72 ne_up ne_ut
  have Z81 : n0 ≤ h69.size := by rw [W72.size]; exact Z64
  have hk82 := Nat.le_trans (Nat.le_refl _) (Nat.le_of_eq W72.size.symm)
  have O83 := O65.wr W72 nw_pa
  have K84 := K66.wr W72 (Or.inl (List.mem_of_getElem? (i := 0) rfl))
  have hz85 : h0.size ≤ h69.size := by rw [W72.size]; exact hz67
  refine Way.by st73 ?_
  show Way _ _ _ _ (T68.setTop (mkF m 17 #[rv pa, rv px] []))
  refine Way.retW (v := none) X70 hS53 (by rw [e71]; exact hk82) hlk (fun _ => rfl) (fun fs hr => X70.returnOut hx Bd.returns (hb hby dII_17) hr) ?_ (by decide) (by decide)
  show QII Z pa px pt cs ur up ut h0 n0 _ T68.heap _
  rw [e71]
  exact ⟨rfl, N74, K84, E75, F76⟩
theorem own_eqfin {a b : List Int32} {r : Int32} (hr : r = if a = b then 1 else 0) (hq : ¬ (if a = b then (1 : Int32) else 0) = 0) : some (Value.int (nar .boolean (1 : Int32))) = some (Value.int r) := by
  by_cases h : a = b
  · rw [hr, if_pos h]; rfl
  · exact absurd (if_neg h) hq
theorem own_eqfin0 {a b : List Int32} {r : Int32} (hr : r = if a = b then 1 else 0) (hq : (if a = b then (1 : Int32) else 0) = 0) : some (Value.int (nar .boolean (0 : Int32))) = some (Value.int r) := by
  rw [hr, hq]; rfl
def QEI (Z : State) (pa : Addr) (pb : Addr) (xa : Addr) (ta : Addr) (xb : Addr) (tb : Addr) (ca : List Int32) (cb : List Int32) (pr : Int32) (h0 : Heap) (n0 : Nat) (v : Option Value) (h : Heap) (L : List Loc) : Prop := v = some (.int pr) ∧ Fr n0 L ∧ h = h0
theorem dEI_0 : decode prog_8_method_3_code 0 = .ok (.aload_n 1, 1) := by decide +kernel
theorem dEI_1 : decode prog_8_method_3_code 1 = .ok (.instanceof 10, 3) := by decide +kernel
theorem dEI_4 : decode prog_8_method_3_code 4 = .ok (.ifCond .eq 24, 3) := by decide +kernel
theorem dEI_7 : decode prog_8_method_3_code 7 = .ok (.aload_n 1, 1) := by decide +kernel
theorem dEI_8 : decode prog_8_method_3_code 8 = .ok (.checkcast 10, 3) := by decide +kernel
theorem dEI_11 : decode prog_8_method_3_code 11 = .ok (.getfield 21, 3) := by decide +kernel
theorem dEI_14 : decode prog_8_method_3_code 14 = .ok (.aload_n 0, 1) := by decide +kernel
theorem dEI_15 : decode prog_8_method_3_code 15 = .ok (.getfield 21, 3) := by decide +kernel
theorem dEI_18 : decode prog_8_method_3_code 18 = .ok (.invokevirtual 25, 3) := by decide +kernel
theorem dEI_21 : decode prog_8_method_3_code 21 = .ok (.ifCond .eq 7, 3) := by decide +kernel
theorem dEI_24 : decode prog_8_method_3_code 24 = .ok (.iconst 1, 1) := by decide +kernel
theorem dEI_25 : decode prog_8_method_3_code 25 = .ok (.goto 4, 3) := by decide +kernel
theorem dEI_28 : decode prog_8_method_3_code 28 = .ok (.iconst 0, 1) := by decide +kernel
theorem dEI_29 : decode prog_8_method_3_code 29 = .ok (.ireturn, 1) := by decide +kernel
theorem pdEI : parseMethodDescriptor "(Ljava/lang/Object;)Z" = some ⟨[(.object "java/lang/Object")], some .boolean⟩ := by decide +kernel
set_option maxRecDepth 65536 in
set_option maxHeartbeats 40000000 in
theorem rmEI (l : Launch) (Z : State) (a0 : Array Value) (hw : ∀ d ∈ tables_1, d.before a0 Z = true) (ws : List Jvm.Cond) (pa : Addr) (pb : Addr) (xa : Addr) (ta : Addr) (xb : Addr) (tb : Addr) (ca : List Int32) (cb : List Int32) (pr : Int32) (h0 : Heap) (n0 : Nat) (Z0 : n0 ≤ h0.size) (H0 : Exa Z h0 pb "com/example/deduct/deduct/model/ItemId") (H1 : Fld Z h0 pa "com/example/deduct/deduct/model/ItemId" "value" "Ljava/lang/String;" (.ref xa)) (H2 : Fld Z h0 pb "com/example/deduct/deduct/model/ItemId" "value" "Ljava/lang/String;" (.ref xb)) (H3 : own_Str Z h0 xa ta ca) (H4 : own_Str Z h0 xb tb cb) (hr : pr = if cb = ca then 1 else 0) (O0 : Old Z n0 h0) (SV : own_Env Z) :
    MetFree l (⟨"com/example/deduct/deduct/model/ItemId", "equals", "(Ljava/lang/Object;)Z"⟩ : MethodName) (head1 (Jvm.Cond.code (⟨"com/example/deduct/deduct/model/ItemId", "equals", "(Ljava/lang/Object;)Z"⟩ : MethodName) prog_8_method_3_code 2 (some .boolean) :: ws) ({ frames := 3, cells := 0, slots := 0, locals := 42 } : Room)) (fun aa U => aa = #[(.ref pa), (.ref pb)] ∧ Z.Warmed39 U.vm ∧ U.heap = h0) (fun _ _ _ _ _ => True) (fun _ U o U' => ∃ v L, o = .returned v ∧ QEI Z pa pb xa ta xb tb ca cb pr h0 n0 v U'.heap L ∧ FrameEnd U o U' L ({ frames := 3, cells := 0, slots := 0, locals := 42 } : Room).cells ({ frames := 3, cells := 0, slots := 0, locals := 42 } : Room).slots) := by
  refine MetFree.of_bodySF (plainFor_of_name pnII) hisR ?_
  intro p e s m args below meth c s₁ Bd hml0 hP hK
  obtain ⟨rfl, hZ, hh⟩ := hP
  have hx := Bd.exec
  have hby := Bd.bytes
  have hlk : meth.locks = false := BodyLoose.notSynchronized Bd
  have hml : c.maxLocals = 2 := hml0
  have hown : s.vm.findClass "com/example/deduct/deduct/model/ItemId" = some m.cls := findClass_of_methodNamed Bd.named
  have hnm := (name_of_methodNamed Bd.named Bd.method).1
  have X0 : Stand p l e ({ frames := 3, cells := 0, slots := 0, locals := 42 } : Room) s m #[(.ref pa), (.ref pb)] below meth c s₁ [] 0 0 := Stand.of_body Bd
  have e0 : s₁.heap = h0 := by rw [← hh, Bd.state]; rfl
  have N0 := Fr.nil n0
  have ef : entryFrame m #[(.ref pa), (.ref pb)] 2 = mkF m 0 #[rv pa, rv pb] [] := by first | (simp [entryFrame, mkF, argsToLocals, Value.category, maxLocals]; done) | rfl
  show Way p.tables e below (KQ s (QEI Z pa pb xa ta xb tb ca cb pr h0 n0) ({ frames := 3, cells := 0, slots := 0, locals := 42 } : Room).cells ({ frames := 3, cells := 0, slots := 0, locals := 42 } : Room).slots) (s₁.setTop (entryFrame m #[(.ref pa), (.ref pb)] 2))
  rw [ef]
  refine Way.by (fun _ k => XS.aloadN X0.here hx rfl (hb hby dEI_0) rfl rfl k) ?_
  show Way _ _ _ _ (s₁.setTop (mkF m 1 #[rv pa, rv pb] [(.ref pb)]))
  obtain ⟨T1, X2, e3, st4⟩ := instY X0 hx hZ hown (tw hw 106 rfl) e0 (Ins.self H0) (g := (mkF m 1 #[rv pa, rv pb] [(.ref pb)])) rfl rfl (hb hby dEI_1)
  refine Way.by st4 ?_
  show Way _ _ _ _ (T1.setTop (mkF m 4 #[rv pa, rv pb] [(.int 1)]))
  have b5 : ¬ (1 : Int32) = (0 : Int32) := by decide
  refine Way.by (fun _ k => XS.ifNo X2.here hx rfl (hb hby dEI_4) rfl ((if0 .eq _).trans (feq b5).1) k) ?_
  show Way _ _ _ _ (T1.setTop (mkF m 7 #[rv pa, rv pb] []))
  refine Way.by (fun _ k => XS.aloadN X2.here hx rfl (hb hby dEI_7) rfl rfl k) ?_
  show Way _ _ _ _ (T1.setTop (mkF m 8 #[rv pa, rv pb] [(.ref pb)]))
  obtain ⟨T6, X7, e8, st9⟩ := castY X2 hx hZ hown (tw hw 106 rfl) e3 (Ins.self H0) (g := (mkF m 8 #[rv pa, rv pb] [(.ref pb)])) rfl rfl (hb hby dEI_8)
  refine Way.by st9 ?_
  show Way _ _ _ _ (T6.setTop (mkF m 11 #[rv pa, rv pb] [(.ref pb)]))
  obtain ⟨T10, X11, e12, st13⟩ := getF X7 hx hZ hown (host := "") (Or.inl (tw hw 99 rfl)) Via.refl e8 H2 (g := (mkF m 11 #[rv pa, rv pb] [(.ref pb)])) rfl rfl (hb hby dEI_11)
  refine Way.by st13 ?_
  show Way _ _ _ _ (T10.setTop (mkF m 14 #[rv pa, rv pb] [(.ref xb)]))
  refine Way.by (fun _ k => XS.aloadN X11.here hx rfl (hb hby dEI_14) rfl rfl k) ?_
  show Way _ _ _ _ (T10.setTop (mkF m 15 #[rv pa, rv pb] [(.ref pa), (.ref xb)]))
  obtain ⟨T14, X15, e16, st17⟩ := getF X11 hx hZ hown (host := "") (Or.inl (tw hw 99 rfl)) Via.refl e12 H1 (g := (mkF m 15 #[rv pa, rv pb] [(.ref pa), (.ref xb)])) rfl rfl (hb hby dEI_15)
  refine Way.by st17 ?_
  show Way _ _ _ _ (T14.setTop (mkF m 18 #[rv pa, rv pb] [(.ref xa), (.ref xb)]))
  obtain ⟨cq34, kq35, qa36, qb37, qc38⟩ := isOf hZ e16 H4.1
  obtain ⟨_, _, ⟨T18, L20, k21, n22⟩, -, X19, ⟨Lc23, hQ24, l25, y26, z27⟩, st28⟩ := X15.virtualBack hx (y := (⟨"java/lang/String", "equals", "(Ljava/lang/Object;)Z"⟩ : MethodName)) (z := (⟨"java/lang/String", "equals", "(Ljava/lang/Object;)Z"⟩ : MethodName)) hown (mvT hZ (tw hw 108 rfl)) (mvT hZ (tw hw 109 rfl)) (notFace_of_selects (args := #[]) (mvT hZ (tw hw 111 rfl))) (mvT hZ (tw hw 111 rfl)) (mvT hZ (tw hw 110 rfl)) (by decide) (own_eqs (W := 0) (n0 := n0) hZ hw SV O0 (cs := cb) (ds := ca) H4 H3 (by decide) (by decide)) qa36 qc38 (g := (mkF m 18 #[rv pa, rv pb] [(.ref xa), (.ref xb)])) rfl (by rw [hml]; rfl) (Steps.refl _) (argsL := [(.ref xa)]) (rest := []) (lenOf own_pdEq rfl) rfl (leW rfl) (hb hby dEI_18) (fun _ _ => ⟨rfl, e16, (leB rfl), (leB rfl)⟩)
  dsimp only [Pt.U, Pt.locs, Pt.cells, Pt.slots] at X19 l25 y26 z27 st28 hQ24
  subst l25 y26 z27
  obtain ⟨rfl, N39, e30⟩ := hQ24
  have N29 := Fr.app N0 N39
  refine Way.to st28 ?_
  show Way _ _ _ _ (T18.setTop (mkF m 21 #[rv pa, rv pb] [(.int (if (cb : List Int32) = ca then (1 : Int32) else 0))]))
  by_cases hq : (if (cb : List Int32) = ca then (1 : Int32) else 0) = (0 : Int32)
  · skip
    refine Way.by (fun _ k => XS.ifYes X19.here hx rfl (pc0 := 21) (pc' := 28) rfl (hb hby dEI_21) rfl ((if0 .eq _).trans (teq hq).1) (by decide) (by decide) k) ?_
    show Way _ _ _ _ (T18.setTop (mkF m 28 #[rv pa, rv pb] []))
    refine Way.by (fun _ k => XS.iconst X19.here hx rfl (hb hby dEI_28) k) ?_
    show Way _ _ _ _ (T18.setTop (mkF m 29 #[rv pa, rv pb] [(.int 0)]))
    refine Way.ret (v := (some (.int (nar .boolean (0 : Int32))))) X19 hlk (fun h => by rw [Bd.returns] at h; cases h) (fun fs hr => retN X19 hx (t := .boolean) Bd.returns (by simp) (hb hby dEI_29) hr) ?_ (by decide) (by decide)
    show QEI Z pa pb xa ta xb tb ca cb pr h0 n0 _ T18.heap _
    rw [e30]
    exact ⟨own_eqfin0 hr hq, N29, rfl⟩
  · skip
    refine Way.by (fun _ k => XS.ifNo X19.here hx rfl (hb hby dEI_21) rfl ((if0 .eq _).trans (feq hq).1) k) ?_
    show Way _ _ _ _ (T18.setTop (mkF m 24 #[rv pa, rv pb] []))
    refine Way.by (fun _ k => XS.iconst X19.here hx rfl (hb hby dEI_24) k) ?_
    show Way _ _ _ _ (T18.setTop (mkF m 25 #[rv pa, rv pb] [(.int 1)]))
    refine Way.by (fun _ k => XS.goto X19.here hx rfl (pc0 := 25) (pc' := 29) rfl (hb hby dEI_25) (by decide) (by decide) k) ?_
    show Way _ _ _ _ (T18.setTop (mkF m 29 #[rv pa, rv pb] [(.int 1)]))
    refine Way.ret (v := (some (.int (nar .boolean (1 : Int32))))) X19 hlk (fun h => by rw [Bd.returns] at h; cases h) (fun fs hr => retN X19 hx (t := .boolean) Bd.returns (by simp) (hb hby dEI_29) hr) ?_ (by decide) (by decide)
    show QEI Z pa pb xa ta xb tb ca cb pr h0 n0 _ T18.heap _
    rw [e30]
    exact ⟨own_eqfin hr hq, N29, rfl⟩
def QEN (Z : State) (pa : Addr) (h0 : Heap) (n0 : Nat) (v : Option Value) (h : Heap) (L : List Loc) : Prop := v = some (.int 0) ∧ Fr n0 L ∧ h = h0
set_option maxRecDepth 65536 in
set_option maxHeartbeats 40000000 in
theorem rmEN (l : Launch) (Z : State) (a0 : Array Value) (hw : ∀ d ∈ tables_1, d.before a0 Z = true) (ws : List Jvm.Cond) (pa : Addr) (h0 : Heap) (n0 : Nat) (Z0 : n0 ≤ h0.size)  :
    MetFree l (⟨"com/example/deduct/deduct/model/ItemId", "equals", "(Ljava/lang/Object;)Z"⟩ : MethodName) (head1 (Jvm.Cond.code (⟨"com/example/deduct/deduct/model/ItemId", "equals", "(Ljava/lang/Object;)Z"⟩ : MethodName) prog_8_method_3_code 2 (some .boolean) :: ws) ({ frames := 0, cells := 0, slots := 0, locals := 0 } : Room)) (fun aa U => aa = #[(.ref pa), .null] ∧ Z.Warmed39 U.vm ∧ U.heap = h0) (fun _ _ _ _ _ => True) (fun _ U o U' => ∃ v L, o = .returned v ∧ QEN Z pa h0 n0 v U'.heap L ∧ FrameEnd U o U' L ({ frames := 0, cells := 0, slots := 0, locals := 0 } : Room).cells ({ frames := 0, cells := 0, slots := 0, locals := 0 } : Room).slots) := by
  refine MetFree.of_bodySF (plainFor_of_name pnII) hisR ?_
  intro p e s m args below meth c s₁ Bd hml0 hP hK
  obtain ⟨rfl, hZ, hh⟩ := hP
  have hx := Bd.exec
  have hby := Bd.bytes
  have hlk : meth.locks = false := BodyLoose.notSynchronized Bd
  have hml : c.maxLocals = 2 := hml0
  have hown : s.vm.findClass "com/example/deduct/deduct/model/ItemId" = some m.cls := findClass_of_methodNamed Bd.named
  have hnm := (name_of_methodNamed Bd.named Bd.method).1
  have X0 : Stand p l e ({ frames := 0, cells := 0, slots := 0, locals := 0 } : Room) s m #[(.ref pa), .null] below meth c s₁ [] 0 0 := Stand.of_body Bd
  have e0 : s₁.heap = h0 := by rw [← hh, Bd.state]; rfl
  have N0 := Fr.nil n0
  have ef : entryFrame m #[(.ref pa), .null] 2 = mkF m 0 #[rv pa, .val .null] [] := by first | (simp [entryFrame, mkF, argsToLocals, Value.category, maxLocals]; done) | rfl
  show Way p.tables e below (KQ s (QEN Z pa h0 n0) ({ frames := 0, cells := 0, slots := 0, locals := 0 } : Room).cells ({ frames := 0, cells := 0, slots := 0, locals := 0 } : Room).slots) (s₁.setTop (entryFrame m #[(.ref pa), .null] 2))
  rw [ef]
  refine Way.by (fun _ k => XS.aloadN X0.here hx rfl (hb hby dEI_0) rfl rfl k) ?_
  show Way _ _ _ _ (s₁.setTop (mkF m 1 #[rv pa, .val .null] [.null]))
  refine Way.by (Stand.instanceofNull X0 hx rfl rfl (hb hby dEI_1)) ?_
  show Way _ _ _ _ (s₁.setTop (mkF m 4 #[rv pa, .val .null] [(.int 0)]))
  have b1 : (0 : Int32) = (0 : Int32) := by decide
  refine Way.by (fun _ k => XS.ifYes X0.here hx rfl (pc0 := 4) (pc' := 28) rfl (hb hby dEI_4) rfl ((if0 .eq _).trans (teq b1).1) (by decide) (by decide) k) ?_
  show Way _ _ _ _ (s₁.setTop (mkF m 28 #[rv pa, .val .null] []))
  refine Way.by (fun _ k => XS.iconst X0.here hx rfl (hb hby dEI_28) k) ?_
  show Way _ _ _ _ (s₁.setTop (mkF m 29 #[rv pa, .val .null] [(.int 0)]))
  refine Way.ret (v := (some (.int (nar .boolean (0 : Int32))))) X0 hlk (fun h => by rw [Bd.returns] at h; cases h) (fun fs hr => retN X0 hx (t := .boolean) Bd.returns (by simp) (hb hby dEI_29) hr) ?_ (by decide) (by decide)
  show QEN Z pa h0 n0 _ s₁.heap _
  rw [e0]
  exact ⟨rfl, N0, rfl⟩
def QES (Z : State) (pa : Addr) (pb : Addr) (h0 : Heap) (n0 : Nat) (v : Option Value) (h : Heap) (L : List Loc) : Prop := v = some (.int 0) ∧ Fr n0 L ∧ h = h0
set_option maxRecDepth 65536 in
set_option maxHeartbeats 40000000 in
theorem rmES (l : Launch) (Z : State) (a0 : Array Value) (hw : ∀ d ∈ tables_1, d.before a0 Z = true) (ws : List Jvm.Cond) (pa : Addr) (pb : Addr) (h0 : Heap) (n0 : Nat) (Z0 : n0 ≤ h0.size) (H0 : Exa Z h0 pb "java/lang/String") :
    MetFree l (⟨"com/example/deduct/deduct/model/ItemId", "equals", "(Ljava/lang/Object;)Z"⟩ : MethodName) (head1 (Jvm.Cond.code (⟨"com/example/deduct/deduct/model/ItemId", "equals", "(Ljava/lang/Object;)Z"⟩ : MethodName) prog_8_method_3_code 2 (some .boolean) :: ws) ({ frames := 0, cells := 0, slots := 0, locals := 0 } : Room)) (fun aa U => aa = #[(.ref pa), (.ref pb)] ∧ Z.Warmed39 U.vm ∧ U.heap = h0) (fun _ _ _ _ _ => True) (fun _ U o U' => ∃ v L, o = .returned v ∧ QES Z pa pb h0 n0 v U'.heap L ∧ FrameEnd U o U' L ({ frames := 0, cells := 0, slots := 0, locals := 0 } : Room).cells ({ frames := 0, cells := 0, slots := 0, locals := 0 } : Room).slots) := by
  refine MetFree.of_bodySF (plainFor_of_name pnII) hisR ?_
  intro p e s m args below meth c s₁ Bd hml0 hP hK
  obtain ⟨rfl, hZ, hh⟩ := hP
  have hx := Bd.exec
  have hby := Bd.bytes
  have hlk : meth.locks = false := BodyLoose.notSynchronized Bd
  have hml : c.maxLocals = 2 := hml0
  have hown : s.vm.findClass "com/example/deduct/deduct/model/ItemId" = some m.cls := findClass_of_methodNamed Bd.named
  have hnm := (name_of_methodNamed Bd.named Bd.method).1
  have X0 : Stand p l e ({ frames := 0, cells := 0, slots := 0, locals := 0 } : Room) s m #[(.ref pa), (.ref pb)] below meth c s₁ [] 0 0 := Stand.of_body Bd
  have e0 : s₁.heap = h0 := by rw [← hh, Bd.state]; rfl
  have N0 := Fr.nil n0
  have ef : entryFrame m #[(.ref pa), (.ref pb)] 2 = mkF m 0 #[rv pa, rv pb] [] := by first | (simp [entryFrame, mkF, argsToLocals, Value.category, maxLocals]; done) | rfl
  show Way p.tables e below (KQ s (QES Z pa pb h0 n0) ({ frames := 0, cells := 0, slots := 0, locals := 0 } : Room).cells ({ frames := 0, cells := 0, slots := 0, locals := 0 } : Room).slots) (s₁.setTop (entryFrame m #[(.ref pa), (.ref pb)] 2))
  rw [ef]
  refine Way.by (fun _ k => XS.aloadN X0.here hx rfl (hb hby dEI_0) rfl rfl k) ?_
  show Way _ _ _ _ (s₁.setTop (mkF m 1 #[rv pa, rv pb] [(.ref pb)]))
  obtain ⟨T1, X2, e3, st4⟩ := instNo X0 hx hZ hown (tw hw 106 rfl) e0 H0 (nsNo (tw hw 117 rfl) (tw hw 7 rfl) (NS.step (tw hw 117 rfl) (nsRoot (tw hw 118 rfl) (tw hw 7 rfl) (by decide)) (by decide)) (by decide)) (g := (mkF m 1 #[rv pa, rv pb] [(.ref pb)])) rfl rfl (hb hby dEI_1)
  refine Way.by st4 ?_
  show Way _ _ _ _ (T1.setTop (mkF m 4 #[rv pa, rv pb] [(.int 0)]))
  have b5 : (0 : Int32) = (0 : Int32) := by decide
  refine Way.by (fun _ k => XS.ifYes X2.here hx rfl (pc0 := 4) (pc' := 28) rfl (hb hby dEI_4) rfl ((if0 .eq _).trans (teq b5).1) (by decide) (by decide) k) ?_
  show Way _ _ _ _ (T1.setTop (mkF m 28 #[rv pa, rv pb] []))
  refine Way.by (fun _ k => XS.iconst X2.here hx rfl (hb hby dEI_28) k) ?_
  show Way _ _ _ _ (T1.setTop (mkF m 29 #[rv pa, rv pb] [(.int 0)]))
  refine Way.ret (v := (some (.int (nar .boolean (0 : Int32))))) X2 hlk (fun h => by rw [Bd.returns] at h; cases h) (fun fs hr => retN X2 hx (t := .boolean) Bd.returns (by simp) (hb hby dEI_29) hr) ?_ (by decide) (by decide)
  show QES Z pa pb h0 n0 _ T1.heap _
  rw [e3]
  exact ⟨rfl, N0, rfl⟩
def Q0 (n0 : Nat) (v : Option Value) (h : Heap) (L : List Loc) : Prop := v = some (.int 1) ∧ Fr n0 L
set_option maxRecDepth 65536 in
set_option maxHeartbeats 40000000 in
theorem seg152 (l : Launch) (Z : State) (a0 : Array Value) (hw : ∀ d ∈ tables_1, d.before a0 Z = true) (ws : List Jvm.Cond) (p0 p1 p2 p3 p4 : Int32) (ur up ut : Addr) (h0 : Heap) (n0 : Nat) (Z0 : n0 ≤ h0.size) (O0 : Old Z n0 h0) (SV : own_Env Z) (SRULE : Sta Z Z.heap "com/example/deduct/deduct/model/ItemId" "RULE" "Lcom/example/deduct/deduct/model/NameRule;" (.ref ur)) (ERULE : Exa Z Z.heap ur "com/example/deduct/deduct/model/NameRule") (FPU : Fld Z Z.heap ur "com/example/deduct/deduct/model/NameRule" "punctuation" "Ljava/lang/String;" (.ref up)) (SPU : own_Str Z Z.heap up ut [46, 95, 45])
    (p : Program) (e : Env) (s : State) (m : MethodId) (below : List Frame) (meth : Method) (c : Code) (s₁ : State) (Bd : BodyLoose p l x (head1 (Jvm.Cond.code x code maxLocals ret :: ws) room_1) code maxLocals ret e s m #[(.int p0), (.int p1), (.int p2), (.int p3), (.int p4)] below meth c s₁) (hml : c.maxLocals = 19)
    (vm0 : Vm) (hZ : Z.Warmed39 (s.setVm vm0).vm) (hown : (s.setVm vm0).vm.findClass "com/example/deduct/deduct/model/ItemIdEqualsPinLaw" = some m.cls) (k0 : Nat) (hS : s.Since vm0 k0)
    (T : State) (h : Heap) (locs : List Loc) (X : Stand p l e room_1 (s.setVm vm0) m #[(.int p0), (.int p1), (.int p2), (.int p3), (.int p4)] below meth c T locs 2 4) (eT : T.heap = h) (N : Fr n0 locs) (Zh : n0 ≤ h.size) (hk : k0 ≤ h.size) (O : Old Z n0 h) (la : Int32) (lb : Int32) (x0 : Int32) (x1 : Int32) (y0 : Int32) (y1 : Int32) (cp : Int32) (ca : Addr) (cb : Addr) (kA : ClassId) (kB : ClassId) (A : List Int32) (B : List Int32) (J0 : Arv Z h ca kA .char (Int32.ofNat A.length) (A.map Value.int) (.int 0)) (J1 : Arv Z h cb kB .char (Int32.ofNat B.length) (B.map Value.int) (.int 0)) (hA : ∀ c ∈ A, own_ok c) (hB : ∀ c ∈ B, own_ok c) (lA : 0 < A.length ∧ A.length ≤ 2) (lB : 0 < B.length ∧ B.length ≤ 2) (eA : (la = 1 ∧ A = [x0]) ∨ (la = 2 ∧ A = [x0, x1])) (eB : (lb = 1 ∧ B = [y0]) ∨ (lb = 2 ∧ B = [y0, y1])) (ne_ca_cb : ca ≠ cb) :
    Way p.tables e below (KQW s (Q0 n0) room_1.cells room_1.slots) (T.setTop (mkF m 152 #[iv p0, iv p1, iv p2, iv p3, iv p4, iv la, iv cp, iv lb, iv x0, iv x1, iv y0, iv y1, rv ca, rv cb, .unset, .unset, .unset, .unset, .unset] [])) := by
  have hx := Bd.exec
  have hby := Bd.bytes
  have hlk : meth.locks = false := BodyLoose.notSynchronized Bd
  have hnm := (name_of_methodNamed Bd.named Bd.method).1
  have wS : ∀ d ∈ Bundle.stringAtoms, d.before a0 Z = true := fun d hd => hw d (own_wS d hd)
  have ER0 := Exa.ext O.2 ERULE
  have FP0 := Fld.ext O.2 FPU
  have SP0 := SPU.ext O.2
  obtain ⟨T1, h2, X3, e4, E5, A6, D7, -, st8⟩ := newO X hx hZ hown (tw hw 6 rfl) (tw hw 7 rfl) (tw hw 8 rfl) eT (g := (mkF m 152 #[iv p0, iv p1, iv p2, iv p3, iv p4, iv la, iv cp, iv lb, iv x0, iv x1, iv y0, iv y1, rv ca, rv cb, .unset, .unset, .unset, .unset, .unset] [])) rfl (hb hby at_152) (by decide) (by decide)
  obtain ⟨a9, g10⟩ : ∃ z, z = h.size := ⟨_, rfl⟩
  rw [← g10] at A6 D7 st8
  have ne11 : ca ≠ a9 := Nat.ne_of_lt (Nat.lt_of_lt_of_eq J0.lt g10.symm)
  have ne12 : cb ≠ a9 := Nat.ne_of_lt (Nat.lt_of_lt_of_eq J1.lt g10.symm)
  have ne13 : ur ≠ a9 := Nat.ne_of_lt (Nat.lt_of_lt_of_eq ER0.lt g10.symm)
  have ne14 : up ≠ a9 := Nat.ne_of_lt (Nat.lt_of_lt_of_eq SP0.lt1 g10.symm)
  have ne15 : ut ≠ a9 := Nat.ne_of_lt (Nat.lt_of_lt_of_eq SP0.lt2 g10.symm)
  have nw16 : n0 ≤ a9 := Nat.le_trans Zh (Nat.le_of_eq g10.symm)
  have A17 := J0.ext E5
  have A18 := J1.ext E5
  have E19 := Exa.ext E5 ER0
  have F20 := Fld.ext E5 FP0
  have S21 := SP0.ext E5
  have Z22 := Nat.le_trans Zh E5.1
  have hk23 := Nat.le_trans hk E5.1
  have O24 := O.ext E5
  have F25 : Fld Z h2 a9 "com/example/deduct/deduct/model/ItemId" "value" "Ljava/lang/String;" .null := D7 (Or.inr (tw hw 100 rfl)) (ty := (.object "java/lang/String")) (by decide)
  refine Way.by st8 ?_
  show Way _ _ _ _ (T1.setTop (mkF m 155 #[iv p0, iv p1, iv p2, iv p3, iv p4, iv la, iv cp, iv lb, iv x0, iv x1, iv y0, iv y1, rv ca, rv cb, .unset, .unset, .unset, .unset, .unset] [(.ref a9)]))
  refine Way.by (fun _ k => XS.dup X3.here hx rfl (hb hby at_155) rfl rfl k) ?_
  show Way _ _ _ _ (T1.setTop (mkF m 156 #[iv p0, iv p1, iv p2, iv p3, iv p4, iv la, iv cp, iv lb, iv x0, iv x1, iv y0, iv y1, rv ca, rv cb, .unset, .unset, .unset, .unset, .unset] [(.ref a9), (.ref a9)]))
  obtain ⟨T26, h27, X28, e29, E30, A31, D32, -, st33⟩ := newO X3 hx hZ hown (tw hw 9 rfl) (tw hw 10 rfl) (tw hw 11 rfl) e4 (g := (mkF m 156 #[iv p0, iv p1, iv p2, iv p3, iv p4, iv la, iv cp, iv lb, iv x0, iv x1, iv y0, iv y1, rv ca, rv cb, .unset, .unset, .unset, .unset, .unset] [(.ref a9), (.ref a9)])) rfl (hb hby at_156) (by decide) (by decide)
  obtain ⟨a34, g35⟩ : ∃ z, z = h2.size := ⟨_, rfl⟩
  rw [← g35] at A31 D32 st33
  have ne36 : ca ≠ a34 := Nat.ne_of_lt (Nat.lt_of_lt_of_eq A17.lt g35.symm)
  have ne37 : cb ≠ a34 := Nat.ne_of_lt (Nat.lt_of_lt_of_eq A18.lt g35.symm)
  have ne38 : ur ≠ a34 := Nat.ne_of_lt (Nat.lt_of_lt_of_eq E19.lt g35.symm)
  have ne39 : up ≠ a34 := Nat.ne_of_lt (Nat.lt_of_lt_of_eq S21.lt1 g35.symm)
  have ne40 : ut ≠ a34 := Nat.ne_of_lt (Nat.lt_of_lt_of_eq S21.lt2 g35.symm)
  have ne41 : a9 ≠ a34 := Nat.ne_of_lt (Nat.lt_of_lt_of_eq A6.lt g35.symm)
  have nw42 : n0 ≤ a34 := Nat.le_trans Z22 (Nat.le_of_eq g35.symm)
  have A43 := A17.ext E30
  have A44 := A18.ext E30
  have E45 := Exa.ext E30 E19
  have F46 := Fld.ext E30 F20
  have S47 := S21.ext E30
  have E48 := Exa.ext E30 A6
  have F49 := Fld.ext E30 F25
  have Z50 := Nat.le_trans Z22 E30.1
  have hk51 := Nat.le_trans hk23 E30.1
  have O52 := O24.ext E30
  have F53 : Fld Z h27 a34 "java/lang/String" "coder" "B" (.int 0) := D32 (Or.inr (tw hw 35 rfl)) (ty := .byte) (by decide)
  have F54 : Fld Z h27 a34 "java/lang/String" "value" "[B" .null := D32 (Or.inr (tw hw 37 rfl)) (ty := (.array .byte)) (by decide)
  refine Way.by st33 ?_
  show Way _ _ _ _ (T26.setTop (mkF m 159 #[iv p0, iv p1, iv p2, iv p3, iv p4, iv la, iv cp, iv lb, iv x0, iv x1, iv y0, iv y1, rv ca, rv cb, .unset, .unset, .unset, .unset, .unset] [(.ref a34), (.ref a9), (.ref a9)]))
  refine Way.by (fun _ k => XS.dup X28.here hx rfl (hb hby at_159) rfl rfl k) ?_
  show Way _ _ _ _ (T26.setTop (mkF m 160 #[iv p0, iv p1, iv p2, iv p3, iv p4, iv la, iv cp, iv lb, iv x0, iv x1, iv y0, iv y1, rv ca, rv cb, .unset, .unset, .unset, .unset, .unset] [(.ref a34), (.ref a34), (.ref a9), (.ref a9)]))
  refine Way.by (fun _ k => XS.aload X28.here hx rfl (hb hby at_160) rfl rfl k) ?_
  show Way _ _ _ _ (T26.setTop (mkF m 162 #[iv p0, iv p1, iv p2, iv p3, iv p4, iv la, iv cp, iv lb, iv x0, iv x1, iv y0, iv y1, rv ca, rv cb, .unset, .unset, .unset, .unset, .unset] [(.ref ca), (.ref a34), (.ref a34), (.ref a9), (.ref a9)]))
  obtain ⟨_, _, ⟨T55, L57, k58, n59⟩, -, X56, ⟨Lc60, hQ61, l62, y63, z64⟩, st65⟩ := X28.specialBack hx (y := (⟨"java/lang/String", "<init>", "([C)V"⟩ : MethodName)) rfl hown (mvT hZ (tw hw 12 rfl)) (mvT hZ (tw hw 13 rfl)) (mvT hZ (tw hw 14 rfl)) (by decide) (own_new (W := 3) (n0 := n0) hZ hw SV O52 (cs := A) (n := A.length) nw42 Z50 A31 F54 F53 A43 rfl rfl (by omega) (by omega) (fun c hc => (hA c hc).b) (by decide) (by decide)) (g := (mkF m 162 #[iv p0, iv p1, iv p2, iv p3, iv p4, iv la, iv cp, iv lb, iv x0, iv x1, iv y0, iv y1, rv ca, rv cb, .unset, .unset, .unset, .unset, .unset] [(.ref ca), (.ref a34), (.ref a34), (.ref a9), (.ref a9)])) rfl (by rw [hml]; rfl) (Steps.refl _) (a := a34) (argsL := [(.ref ca)]) (rest := [(.ref a34), (.ref a9), (.ref a9)]) (lenOf own_pdNew rfl) rfl (leW rfl) (hb hby at_162) (fun _ _ => ⟨rfl, e29, (leB rfl), (by dsimp only [Pt.slots]; show _ ≤ 2176; omega)⟩)
  dsimp only [Pt.U, Pt.locs, Pt.cells, Pt.slots] at X56 l62 y63 z64 st65 hQ61
  subst l62 y63 z64
  obtain ⟨rfl, N71, K72, x_t75, fr_t74, F73⟩ := hQ61
  have N66 := Fr.app N N71
  have ne76 : ca ≠ x_t75 := Nat.ne_of_lt (Nat.lt_of_lt_of_le A43.lt fr_t74)
  have ne77 : cb ≠ x_t75 := Nat.ne_of_lt (Nat.lt_of_lt_of_le A44.lt fr_t74)
  have ne78 : ur ≠ x_t75 := Nat.ne_of_lt (Nat.lt_of_lt_of_le E45.lt fr_t74)
  have ne79 : up ≠ x_t75 := Nat.ne_of_lt (Nat.lt_of_lt_of_le S47.lt1 fr_t74)
  have ne80 : ut ≠ x_t75 := Nat.ne_of_lt (Nat.lt_of_lt_of_le S47.lt2 fr_t74)
  have ne81 : a9 ≠ x_t75 := Nat.ne_of_lt (Nat.lt_of_lt_of_le E48.lt fr_t74)
  have ne82 : a34 ≠ x_t75 := Nat.ne_of_lt (Nat.lt_of_lt_of_le A31.lt fr_t74)
  have nw83 : n0 ≤ x_t75 := Nat.le_trans Z50 fr_t74
  have A84 := A43.keep K72 (ninS ne36 nin0)
  have A85 := A44.keep K72 (ninS ne37 nin0)
  have E86 := E45.keep K72
  have F87 := F46.keep K72 (ninS ne38 nin0)
  have S88 := S47.keep K72 (ninS ne39 nin0) (ninS ne40 nin0)
  have E89 := E48.keep K72
  have F90 := F49.keep K72 (ninS ne41 nin0)
  have E91 := A31.keep K72
  have Z92 := Nat.le_trans Z50 K72.1
  have hk93 := Nat.le_trans hk51 K72.1
  have O94 := O52.keep K72 (allS nw42 all0)
  have X95 := X56.mono (cells' := 5) (slots' := 11) (by decide) (by omega)
  refine Way.to st65 ?_
  show Way _ _ _ _ (T55.setTop (mkF m 165 #[iv p0, iv p1, iv p2, iv p3, iv p4, iv la, iv cp, iv lb, iv x0, iv x1, iv y0, iv y1, rv ca, rv cb, .unset, .unset, .unset, .unset, .unset] [(.ref a34), (.ref a9), (.ref a9)]))
  obtain ⟨_, _, ⟨T96, L98, k99, n100⟩, -, X97, hS109, hg110, ⟨Lc101, hQ102, l103, y104, z105⟩, st106⟩ := X95.specialBackS hx (y := (⟨"com/example/deduct/deduct/model/ItemId", "<init>", "(Ljava/lang/String;)V"⟩ : MethodName)) rfl hown (mvT hZ (tw hw 38 rfl)) (mvT hZ (tw hw 39 rfl)) (mvT hZ (tw hw 40 rfl)) (by decide) (backOfS (W := 1) (rmII l Z a0 hw [] a9 a34 x_t75 A ur up ut T55.heap n0 Z92 E89 F90 F73 hA ⟨lA.1, by omega⟩ ne41.symm ne81.symm nw16 O94 SV SRULE ERULE FPU SPU) hZ (tw hw 40 rfl) (tw hw 8 rfl) (by decide) (by decide)) (g := (mkF m 165 #[iv p0, iv p1, iv p2, iv p3, iv p4, iv la, iv cp, iv lb, iv x0, iv x1, iv y0, iv y1, rv ca, rv cb, .unset, .unset, .unset, .unset, .unset] [(.ref a34), (.ref a9), (.ref a9)])) rfl (by rw [hml]; rfl) (Steps.refl _) (a := a9) (argsL := [(.ref a34)]) (rest := [(.ref a9)]) (lenOf pdII rfl) rfl (leW rfl) (hb hby at_165) (fun _ _ => ⟨rfl, rfl, (leB rfl), (leB rfl)⟩)
  dsimp only [Pt.U, Pt.locs, Pt.cells, Pt.slots] at X97 l103 y104 z105 st106 hQ102 hS109 hg110
  subst l103 y104 z105
  obtain ⟨X112, hS113, hZ114, hown115⟩ := rebS hS (by exact hk93) X97 hS109 hg110 hZ hown
  obtain ⟨rfl, N116, K117, F_0118, F_1119⟩ := hQ102
  have N107 := Fr.app N66 N116
  have A120 := A84.keep K117 (ninS ne11 nin0)
  have A121 := A85.keep K117 (ninS ne12 nin0)
  have E122 := E86.keep K117
  have F123 := F87.keep K117 (ninS ne13 nin0)
  have S124 := S88.keep K117 (ninS ne14 nin0) (ninS ne15 nin0)
  have E125 := E89.keep K117
  have E126 := E91.keep K117
  have S127 := F73.keep K117 (ninS ne41.symm nin0) (ninS ne81.symm nin0)
  have Z128 := Nat.le_trans Z92 K117.1
  have O129 := O94.keep K117 (allS nw16 all0)
  refine Way.to st106 ?_
  show Way _ _ _ _ (T96.setTop (mkF m 168 #[iv p0, iv p1, iv p2, iv p3, iv p4, iv la, iv cp, iv lb, iv x0, iv x1, iv y0, iv y1, rv ca, rv cb, .unset, .unset, .unset, .unset, .unset] [(.ref a9)]))
  refine Way.by (fun _ k => XS.astore X112.here hx rfl (hb hby at_168) rfl rfl (l' := #[iv p0, iv p1, iv p2, iv p3, iv p4, iv la, iv cp, iv lb, iv x0, iv x1, iv y0, iv y1, rv ca, rv cb, rv a9, .unset, .unset, .unset, .unset]) rfl k) ?_
  show Way _ _ _ _ (T96.setTop (mkF m 170 #[iv p0, iv p1, iv p2, iv p3, iv p4, iv la, iv cp, iv lb, iv x0, iv x1, iv y0, iv y1, rv ca, rv cb, rv a9, .unset, .unset, .unset, .unset] []))
  obtain ⟨T130, h131, X132, e133, E134, A135, D136, -, st137⟩ := newO X112 hx hZ114 hown115 (tw hw 9 rfl) (tw hw 10 rfl) (tw hw 11 rfl) rfl (g := (mkF m 170 #[iv p0, iv p1, iv p2, iv p3, iv p4, iv la, iv cp, iv lb, iv x0, iv x1, iv y0, iv y1, rv ca, rv cb, rv a9, .unset, .unset, .unset, .unset] [])) rfl (hb hby at_170) (by decide) (by decide)
  obtain ⟨a138, g139⟩ : ∃ z, z = T96.heap.size := ⟨_, rfl⟩
  rw [← g139] at A135 D136 st137
  have ne140 : ca ≠ a138 := Nat.ne_of_lt (Nat.lt_of_lt_of_eq A120.lt g139.symm)
  have ne141 : cb ≠ a138 := Nat.ne_of_lt (Nat.lt_of_lt_of_eq A121.lt g139.symm)
  have ne142 : ur ≠ a138 := Nat.ne_of_lt (Nat.lt_of_lt_of_eq E122.lt g139.symm)
  have ne143 : up ≠ a138 := Nat.ne_of_lt (Nat.lt_of_lt_of_eq S124.lt1 g139.symm)
  have ne144 : ut ≠ a138 := Nat.ne_of_lt (Nat.lt_of_lt_of_eq S124.lt2 g139.symm)
  have ne145 : a9 ≠ a138 := Nat.ne_of_lt (Nat.lt_of_lt_of_eq F_0118.lt g139.symm)
  have ne146 : a34 ≠ a138 := Nat.ne_of_lt (Nat.lt_of_lt_of_eq E126.lt g139.symm)
  have ne147 : x_t75 ≠ a138 := Nat.ne_of_lt (Nat.lt_of_lt_of_eq S127.lt2 g139.symm)
  have nw148 : n0 ≤ a138 := Nat.le_trans Z128 (Nat.le_of_eq g139.symm)
  have A149 := A120.ext E134
  have A150 := A121.ext E134
  have E151 := Exa.ext E134 E122
  have F152 := Fld.ext E134 F123
  have S153 := S124.ext E134
  have E154 := Exa.ext E134 F_0118
  have E155 := Exa.ext E134 E126
  have S156 := S127.ext E134
  have F157 := Fld.ext E134 F_1119
  have Z158 := Nat.le_trans Z128 E134.1
  have hk159 := Nat.le_trans (Nat.le_refl _) E134.1
  have O160 := O129.ext E134
  have F161 : Fld Z h131 a138 "java/lang/String" "coder" "B" (.int 0) := D136 (Or.inr (tw hw 35 rfl)) (ty := .byte) (by decide)
  have F162 : Fld Z h131 a138 "java/lang/String" "value" "[B" .null := D136 (Or.inr (tw hw 37 rfl)) (ty := (.array .byte)) (by decide)
  refine Way.by st137 ?_
  show Way _ _ _ _ (T130.setTop (mkF m 173 #[iv p0, iv p1, iv p2, iv p3, iv p4, iv la, iv cp, iv lb, iv x0, iv x1, iv y0, iv y1, rv ca, rv cb, rv a9, .unset, .unset, .unset, .unset] [(.ref a138)]))
  refine Way.by (fun _ k => XS.dup X132.here hx rfl (hb hby at_173) rfl rfl k) ?_
  show Way _ _ _ _ (T130.setTop (mkF m 174 #[iv p0, iv p1, iv p2, iv p3, iv p4, iv la, iv cp, iv lb, iv x0, iv x1, iv y0, iv y1, rv ca, rv cb, rv a9, .unset, .unset, .unset, .unset] [(.ref a138), (.ref a138)]))
  refine Way.by (fun _ k => XS.aload X132.here hx rfl (hb hby at_174) rfl rfl k) ?_
  show Way _ _ _ _ (T130.setTop (mkF m 176 #[iv p0, iv p1, iv p2, iv p3, iv p4, iv la, iv cp, iv lb, iv x0, iv x1, iv y0, iv y1, rv ca, rv cb, rv a9, .unset, .unset, .unset, .unset] [(.ref cb), (.ref a138), (.ref a138)]))
  obtain ⟨_, _, ⟨T163, L165, k166, n167⟩, -, X164, ⟨Lc168, hQ169, l170, y171, z172⟩, st173⟩ := X132.specialBack hx (y := (⟨"java/lang/String", "<init>", "([C)V"⟩ : MethodName)) rfl hown115 (mvT hZ114 (tw hw 12 rfl)) (mvT hZ114 (tw hw 13 rfl)) (mvT hZ114 (tw hw 14 rfl)) (by decide) (own_new (W := 1) (n0 := n0) hZ114 hw SV O160 (cs := B) (n := B.length) nw148 Z158 A135 F162 F161 A150 rfl rfl (by omega) (by omega) (fun c hc => (hB c hc).b) (by decide) (by decide)) (g := (mkF m 176 #[iv p0, iv p1, iv p2, iv p3, iv p4, iv la, iv cp, iv lb, iv x0, iv x1, iv y0, iv y1, rv ca, rv cb, rv a9, .unset, .unset, .unset, .unset] [(.ref cb), (.ref a138), (.ref a138)])) rfl (by rw [hml]; rfl) (Steps.refl _) (a := a138) (argsL := [(.ref cb)]) (rest := [(.ref a138)]) (lenOf own_pdNew rfl) rfl (leW rfl) (hb hby at_176) (fun _ _ => ⟨rfl, e133, (leB rfl), (by dsimp only [Pt.slots]; show _ ≤ 2176; omega)⟩)
  dsimp only [Pt.U, Pt.locs, Pt.cells, Pt.slots] at X164 l170 y171 z172 st173 hQ169
  subst l170 y171 z172
  obtain ⟨rfl, N179, K180, x_t183, fr_t182, F181⟩ := hQ169
  have N174 := Fr.app N107 N179
  have ne184 : ca ≠ x_t183 := Nat.ne_of_lt (Nat.lt_of_lt_of_le A149.lt fr_t182)
  have ne185 : cb ≠ x_t183 := Nat.ne_of_lt (Nat.lt_of_lt_of_le A150.lt fr_t182)
  have ne186 : ur ≠ x_t183 := Nat.ne_of_lt (Nat.lt_of_lt_of_le E151.lt fr_t182)
  have ne187 : up ≠ x_t183 := Nat.ne_of_lt (Nat.lt_of_lt_of_le S153.lt1 fr_t182)
  have ne188 : ut ≠ x_t183 := Nat.ne_of_lt (Nat.lt_of_lt_of_le S153.lt2 fr_t182)
  have ne189 : a9 ≠ x_t183 := Nat.ne_of_lt (Nat.lt_of_lt_of_le E154.lt fr_t182)
  have ne190 : a34 ≠ x_t183 := Nat.ne_of_lt (Nat.lt_of_lt_of_le E155.lt fr_t182)
  have ne191 : x_t75 ≠ x_t183 := Nat.ne_of_lt (Nat.lt_of_lt_of_le S156.lt2 fr_t182)
  have ne192 : a138 ≠ x_t183 := Nat.ne_of_lt (Nat.lt_of_lt_of_le A135.lt fr_t182)
  have nw193 : n0 ≤ x_t183 := Nat.le_trans Z158 fr_t182
  have A194 := A149.keep K180 (ninS ne140 nin0)
  have A195 := A150.keep K180 (ninS ne141 nin0)
  have E196 := E151.keep K180
  have F197 := F152.keep K180 (ninS ne142 nin0)
  have S198 := S153.keep K180 (ninS ne143 nin0) (ninS ne144 nin0)
  have E199 := E154.keep K180
  have E200 := E155.keep K180
  have S201 := S156.keep K180 (ninS ne146 nin0) (ninS ne147 nin0)
  have F202 := F157.keep K180 (ninS ne145 nin0)
  have E203 := A135.keep K180
  have Z204 := Nat.le_trans Z158 K180.1
  have hk205 := Nat.le_trans hk159 K180.1
  have O206 := O160.keep K180 (allS nw148 all0)
  have X207 := X164.mono (cells' := 11) (slots' := 73) (by decide) (by omega)
  refine Way.to st173 ?_
  show Way _ _ _ _ (T163.setTop (mkF m 179 #[iv p0, iv p1, iv p2, iv p3, iv p4, iv la, iv cp, iv lb, iv x0, iv x1, iv y0, iv y1, rv ca, rv cb, rv a9, .unset, .unset, .unset, .unset] [(.ref a138)]))
  refine Way.by (fun _ k => XS.astore X207.here hx rfl (hb hby at_179) rfl rfl (l' := #[iv p0, iv p1, iv p2, iv p3, iv p4, iv la, iv cp, iv lb, iv x0, iv x1, iv y0, iv y1, rv ca, rv cb, rv a9, rv a138, .unset, .unset, .unset]) rfl k) ?_
  show Way _ _ _ _ (T163.setTop (mkF m 181 #[iv p0, iv p1, iv p2, iv p3, iv p4, iv la, iv cp, iv lb, iv x0, iv x1, iv y0, iv y1, rv ca, rv cb, rv a9, rv a138, .unset, .unset, .unset] []))
  refine Way.by (fun _ k => XS.iload X207.here hx rfl (hb hby at_181) rfl k) ?_
  show Way _ _ _ _ (T163.setTop (mkF m 183 #[iv p0, iv p1, iv p2, iv p3, iv p4, iv la, iv cp, iv lb, iv x0, iv x1, iv y0, iv y1, rv ca, rv cb, rv a9, rv a138, .unset, .unset, .unset] [(.int p4)]))
  refine Way.by (fun _ k => XS.iconst X207.here hx rfl (hb hby at_183) k) ?_
  show Way _ _ _ _ (T163.setTop (mkF m 184 #[iv p0, iv p1, iv p2, iv p3, iv p4, iv la, iv cp, iv lb, iv x0, iv x1, iv y0, iv y1, rv ca, rv cb, rv a9, rv a138, .unset, .unset, .unset] [(.int 3), (.int p4)]))
  refine Way.by (fun _ k => XT.ishr X207.here hx rfl (hb hby at_184) rfl k) ?_
  show Way _ _ _ _ (T163.setTop (mkF m 185 #[iv p0, iv p1, iv p2, iv p3, iv p4, iv la, iv cp, iv lb, iv x0, iv x1, iv y0, iv y1, rv ca, rv cb, rv a9, rv a138, .unset, .unset, .unset] [(.int (p4 >>> ((3 : Int32) &&& 31)))]))
  refine Way.by (fun _ k => XS.iconst X207.here hx rfl (hb hby at_185) k) ?_
  show Way _ _ _ _ (T163.setTop (mkF m 186 #[iv p0, iv p1, iv p2, iv p3, iv p4, iv la, iv cp, iv lb, iv x0, iv x1, iv y0, iv y1, rv ca, rv cb, rv a9, rv a138, .unset, .unset, .unset] [(.int 3), (.int (p4 >>> ((3 : Int32) &&& 31)))]))
  refine Way.by (fun _ k => XS.iand X207.here hx rfl (hb hby at_186) rfl k) ?_
  show Way _ _ _ _ (T163.setTop (mkF m 187 #[iv p0, iv p1, iv p2, iv p3, iv p4, iv la, iv cp, iv lb, iv x0, iv x1, iv y0, iv y1, rv ca, rv cb, rv a9, rv a138, .unset, .unset, .unset] [(.int ((p4 >>> ((3 : Int32) &&& 31)) &&& (3 : Int32)))]))
  refine Way.by (fun _ k => XS.istore X207.here hx rfl (hb hby at_187) rfl (l' := #[iv p0, iv p1, iv p2, iv p3, iv p4, iv la, iv cp, iv lb, iv x0, iv x1, iv y0, iv y1, rv ca, rv cb, rv a9, rv a138, iv ((p4 >>> ((3 : Int32) &&& 31)) &&& (3 : Int32)), .unset, .unset]) rfl k) ?_
  show Way _ _ _ _ (T163.setTop (mkF m 189 #[iv p0, iv p1, iv p2, iv p3, iv p4, iv la, iv cp, iv lb, iv x0, iv x1, iv y0, iv y1, rv ca, rv cb, rv a9, rv a138, iv ((p4 >>> ((3 : Int32) &&& 31)) &&& (3 : Int32)), .unset, .unset] []))
  obtain ⟨kd, qkd⟩ : ∃ z, z = ((p4 >>> ((3 : Int32) &&& 31)) &&& (3 : Int32)) := ⟨_, rfl⟩
  rw [← qkd]
  show Way _ _ _ _ (T163.setTop (mkF m 189 #[iv p0, iv p1, iv p2, iv p3, iv p4, iv la, iv cp, iv lb, iv x0, iv x1, iv y0, iv y1, rv ca, rv cb, rv a9, rv a138, iv kd, .unset, .unset] []))
  refine Way.by (fun _ k => XS.iload X207.here hx rfl (hb hby at_189) rfl k) ?_
  show Way _ _ _ _ (T163.setTop (mkF m 191 #[iv p0, iv p1, iv p2, iv p3, iv p4, iv la, iv cp, iv lb, iv x0, iv x1, iv y0, iv y1, rv ca, rv cb, rv a9, rv a138, iv kd, .unset, .unset] [(.int kd)]))
  refine Way.by (fun _ k => XS.iconst X207.here hx rfl (hb hby at_191) k) ?_
  show Way _ _ _ _ (T163.setTop (mkF m 192 #[iv p0, iv p1, iv p2, iv p3, iv p4, iv la, iv cp, iv lb, iv x0, iv x1, iv y0, iv y1, rv ca, rv cb, rv a9, rv a138, iv kd, .unset, .unset] [(.int 1), (.int kd)]))
  by_cases b208 : kd = (1 : Int32)
  · skip
    refine Way.by (fun _ k => XS.icmpNo X207.here hx rfl (hb hby at_192) rfl (teq b208).2 k) ?_
    show Way _ _ _ _ (T163.setTop (mkF m 195 #[iv p0, iv p1, iv p2, iv p3, iv p4, iv la, iv cp, iv lb, iv x0, iv x1, iv y0, iv y1, rv ca, rv cb, rv a9, rv a138, iv kd, .unset, .unset] []))
    refine Way.by (fun _ k => XS.aload X207.here hx rfl (hb hby at_195) rfl rfl k) ?_
    show Way _ _ _ _ (T163.setTop (mkF m 197 #[iv p0, iv p1, iv p2, iv p3, iv p4, iv la, iv cp, iv lb, iv x0, iv x1, iv y0, iv y1, rv ca, rv cb, rv a9, rv a138, iv kd, .unset, .unset] [(.ref a9)]))
    refine Way.by (fun _ k => XS.aconstNull X207.here hx rfl (hb hby at_197) k) ?_
    show Way _ _ _ _ (T163.setTop (mkF m 198 #[iv p0, iv p1, iv p2, iv p3, iv p4, iv la, iv cp, iv lb, iv x0, iv x1, iv y0, iv y1, rv ca, rv cb, rv a9, rv a138, iv kd, .unset, .unset] [.null, (.ref a9)]))
    obtain ⟨cq225, kq226, qa227, qb228, qc229⟩ := isOf hZ114 rfl E199
    obtain ⟨_, _, ⟨T209, L211, k212, n213⟩, -, X210, ⟨Lc214, hQ215, l216, y217, z218⟩, st219⟩ := X207.virtualBack hx (y := (⟨"com/example/deduct/deduct/model/ItemId", "equals", "(Ljava/lang/Object;)Z"⟩ : MethodName)) (z := (⟨"com/example/deduct/deduct/model/ItemId", "equals", "(Ljava/lang/Object;)Z"⟩ : MethodName)) hown115 (mvT hZ114 (tw hw 101 rfl)) (mvT hZ114 (tw hw 102 rfl)) (notFace_of_selects (args := #[]) (mvT hZ114 (tw hw 104 rfl))) (mvT hZ114 (tw hw 104 rfl)) (mvT hZ114 (tw hw 103 rfl)) (by decide) (backOf (W := 0) (rmEN l Z a0 hw [] a9 T163.heap n0 Z204 ) hZ114 (tw hw 105 rfl) (tw hw 8 rfl) (by decide) (by decide)) qa227 qc229 (g := (mkF m 198 #[iv p0, iv p1, iv p2, iv p3, iv p4, iv la, iv cp, iv lb, iv x0, iv x1, iv y0, iv y1, rv ca, rv cb, rv a9, rv a138, iv kd, .unset, .unset] [.null, (.ref a9)])) rfl (by rw [hml]; rfl) (Steps.refl _) (argsL := [.null]) (rest := []) (lenOf pdEI rfl) rfl (leW rfl) (hb hby at_198) (fun _ _ => ⟨rfl, rfl, (leB rfl), (leB rfl)⟩)
    dsimp only [Pt.U, Pt.locs, Pt.cells, Pt.slots] at X210 l216 y217 z218 st219 hQ215
    subst l216 y217 z218
    obtain ⟨rfl, N230, e221⟩ := hQ215
    have N220 := Fr.app N174 N230
    refine Way.to st219 ?_
    show Way _ _ _ _ (T209.setTop (mkF m 201 #[iv p0, iv p1, iv p2, iv p3, iv p4, iv la, iv cp, iv lb, iv x0, iv x1, iv y0, iv y1, rv ca, rv cb, rv a9, rv a138, iv kd, .unset, .unset] [(.int 0)]))
    have b232 : (0 : Int32) = (0 : Int32) := by decide
    refine Way.by (fun _ k => XS.ifNo X210.here hx rfl (hb hby at_201) rfl ((if0 .ne _).trans (teq b232).2) k) ?_
    show Way _ _ _ _ (T209.setTop (mkF m 204 #[iv p0, iv p1, iv p2, iv p3, iv p4, iv la, iv cp, iv lb, iv x0, iv x1, iv y0, iv y1, rv ca, rv cb, rv a9, rv a138, iv kd, .unset, .unset] []))
    refine Way.by (fun _ k => XS.iconst X210.here hx rfl (hb hby at_204) k) ?_
    show Way _ _ _ _ (T209.setTop (mkF m 205 #[iv p0, iv p1, iv p2, iv p3, iv p4, iv la, iv cp, iv lb, iv x0, iv x1, iv y0, iv y1, rv ca, rv cb, rv a9, rv a138, iv kd, .unset, .unset] [(.int 1)]))
    refine Way.by (fun _ k => XS.goto X210.here hx rfl (pc0 := 205) (pc' := 209) rfl (hb hby at_205) (by decide) (by decide) k) ?_
    show Way _ _ _ _ (T209.setTop (mkF m 209 #[iv p0, iv p1, iv p2, iv p3, iv p4, iv la, iv cp, iv lb, iv x0, iv x1, iv y0, iv y1, rv ca, rv cb, rv a9, rv a138, iv kd, .unset, .unset] [(.int 1)]))
    refine Way.retW (v := (some (.int (nar .boolean (1 : Int32))))) X210 hS113 (by rw [e221]; exact hk205) hlk (fun h => by rw [Bd.returns] at h; cases h) (fun fs hr => retN X210 hx (t := .boolean) Bd.returns (by simp) (hb hby at_209) hr) ?_ (by decide) (by decide)
    show Q0 n0 _ T209.heap _
    rw [e221]
    exact ⟨rfl, N220⟩
  · skip
    refine Way.by (fun _ k => XS.icmpYes X207.here hx rfl (pc0 := 192) (pc' := 210) rfl (hb hby at_192) rfl (feq b208).2 (by decide) (by decide) k) ?_
    show Way _ _ _ _ (T163.setTop (mkF m 210 #[iv p0, iv p1, iv p2, iv p3, iv p4, iv la, iv cp, iv lb, iv x0, iv x1, iv y0, iv y1, rv ca, rv cb, rv a9, rv a138, iv kd, .unset, .unset] []))
    refine Way.by (fun _ k => XS.iload X207.here hx rfl (hb hby at_210) rfl k) ?_
    show Way _ _ _ _ (T163.setTop (mkF m 212 #[iv p0, iv p1, iv p2, iv p3, iv p4, iv la, iv cp, iv lb, iv x0, iv x1, iv y0, iv y1, rv ca, rv cb, rv a9, rv a138, iv kd, .unset, .unset] [(.int kd)]))
    refine Way.by (fun _ k => XS.iconst X207.here hx rfl (hb hby at_212) k) ?_
    show Way _ _ _ _ (T163.setTop (mkF m 213 #[iv p0, iv p1, iv p2, iv p3, iv p4, iv la, iv cp, iv lb, iv x0, iv x1, iv y0, iv y1, rv ca, rv cb, rv a9, rv a138, iv kd, .unset, .unset] [(.int 2), (.int kd)]))
    by_cases b233 : kd = (2 : Int32)
    · skip
      refine Way.by (fun _ k => XS.icmpNo X207.here hx rfl (hb hby at_213) rfl (teq b233).2 k) ?_
      show Way _ _ _ _ (T163.setTop (mkF m 216 #[iv p0, iv p1, iv p2, iv p3, iv p4, iv la, iv cp, iv lb, iv x0, iv x1, iv y0, iv y1, rv ca, rv cb, rv a9, rv a138, iv kd, .unset, .unset] []))
      refine Way.by (fun _ k => XS.aload X207.here hx rfl (hb hby at_216) rfl rfl k) ?_
      show Way _ _ _ _ (T163.setTop (mkF m 218 #[iv p0, iv p1, iv p2, iv p3, iv p4, iv la, iv cp, iv lb, iv x0, iv x1, iv y0, iv y1, rv ca, rv cb, rv a9, rv a138, iv kd, .unset, .unset] [(.ref a9)]))
      refine Way.by (fun _ k => XS.aload X207.here hx rfl (hb hby at_218) rfl rfl k) ?_
      show Way _ _ _ _ (T163.setTop (mkF m 220 #[iv p0, iv p1, iv p2, iv p3, iv p4, iv la, iv cp, iv lb, iv x0, iv x1, iv y0, iv y1, rv ca, rv cb, rv a9, rv a138, iv kd, .unset, .unset] [(.ref a138), (.ref a9)]))
      obtain ⟨cq250, kq251, qa252, qb253, qc254⟩ := isOf hZ114 rfl E199
      obtain ⟨_, _, ⟨T234, L236, k237, n238⟩, -, X235, ⟨Lc239, hQ240, l241, y242, z243⟩, st244⟩ := X207.virtualBack hx (y := (⟨"com/example/deduct/deduct/model/ItemId", "equals", "(Ljava/lang/Object;)Z"⟩ : MethodName)) (z := (⟨"com/example/deduct/deduct/model/ItemId", "equals", "(Ljava/lang/Object;)Z"⟩ : MethodName)) hown115 (mvT hZ114 (tw hw 101 rfl)) (mvT hZ114 (tw hw 102 rfl)) (notFace_of_selects (args := #[]) (mvT hZ114 (tw hw 104 rfl))) (mvT hZ114 (tw hw 104 rfl)) (mvT hZ114 (tw hw 103 rfl)) (by decide) (backOf (W := 0) (rmES l Z a0 hw [] a9 a138 T163.heap n0 Z204 F181.1) hZ114 (tw hw 105 rfl) (tw hw 8 rfl) (by decide) (by decide)) qa252 qc254 (g := (mkF m 220 #[iv p0, iv p1, iv p2, iv p3, iv p4, iv la, iv cp, iv lb, iv x0, iv x1, iv y0, iv y1, rv ca, rv cb, rv a9, rv a138, iv kd, .unset, .unset] [(.ref a138), (.ref a9)])) rfl (by rw [hml]; rfl) (Steps.refl _) (argsL := [(.ref a138)]) (rest := []) (lenOf pdEI rfl) rfl (leW rfl) (hb hby at_220) (fun _ _ => ⟨rfl, rfl, (leB rfl), (leB rfl)⟩)
      dsimp only [Pt.U, Pt.locs, Pt.cells, Pt.slots] at X235 l241 y242 z243 st244 hQ240
      subst l241 y242 z243
      obtain ⟨rfl, N255, e246⟩ := hQ240
      have N245 := Fr.app N174 N255
      refine Way.to st244 ?_
      show Way _ _ _ _ (T234.setTop (mkF m 223 #[iv p0, iv p1, iv p2, iv p3, iv p4, iv la, iv cp, iv lb, iv x0, iv x1, iv y0, iv y1, rv ca, rv cb, rv a9, rv a138, iv kd, .unset, .unset] [(.int 0)]))
      have b257 : (0 : Int32) = (0 : Int32) := by decide
      refine Way.by (fun _ k => XS.ifNo X235.here hx rfl (hb hby at_223) rfl ((if0 .ne _).trans (teq b257).2) k) ?_
      show Way _ _ _ _ (T234.setTop (mkF m 226 #[iv p0, iv p1, iv p2, iv p3, iv p4, iv la, iv cp, iv lb, iv x0, iv x1, iv y0, iv y1, rv ca, rv cb, rv a9, rv a138, iv kd, .unset, .unset] []))
      refine Way.by (fun _ k => XS.iconst X235.here hx rfl (hb hby at_226) k) ?_
      show Way _ _ _ _ (T234.setTop (mkF m 227 #[iv p0, iv p1, iv p2, iv p3, iv p4, iv la, iv cp, iv lb, iv x0, iv x1, iv y0, iv y1, rv ca, rv cb, rv a9, rv a138, iv kd, .unset, .unset] [(.int 1)]))
      refine Way.by (fun _ k => XS.goto X235.here hx rfl (pc0 := 227) (pc' := 231) rfl (hb hby at_227) (by decide) (by decide) k) ?_
      show Way _ _ _ _ (T234.setTop (mkF m 231 #[iv p0, iv p1, iv p2, iv p3, iv p4, iv la, iv cp, iv lb, iv x0, iv x1, iv y0, iv y1, rv ca, rv cb, rv a9, rv a138, iv kd, .unset, .unset] [(.int 1)]))
      refine Way.retW (v := (some (.int (nar .boolean (1 : Int32))))) X235 hS113 (by rw [e246]; exact hk205) hlk (fun h => by rw [Bd.returns] at h; cases h) (fun fs hr => retN X235 hx (t := .boolean) Bd.returns (by simp) (hb hby at_231) hr) ?_ (by decide) (by decide)
      show Q0 n0 _ T234.heap _
      rw [e246]
      exact ⟨rfl, N245⟩
    · skip
      refine Way.by (fun _ k => XS.icmpYes X207.here hx rfl (pc0 := 213) (pc' := 232) rfl (hb hby at_213) rfl (feq b233).2 (by decide) (by decide) k) ?_
      show Way _ _ _ _ (T163.setTop (mkF m 232 #[iv p0, iv p1, iv p2, iv p3, iv p4, iv la, iv cp, iv lb, iv x0, iv x1, iv y0, iv y1, rv ca, rv cb, rv a9, rv a138, iv kd, .unset, .unset] []))
      refine Way.by (fun _ k => XS.iload X207.here hx rfl (hb hby at_232) rfl k) ?_
      show Way _ _ _ _ (T163.setTop (mkF m 234 #[iv p0, iv p1, iv p2, iv p3, iv p4, iv la, iv cp, iv lb, iv x0, iv x1, iv y0, iv y1, rv ca, rv cb, rv a9, rv a138, iv kd, .unset, .unset] [(.int kd)]))
      refine Way.by (fun _ k => XS.iconst X207.here hx rfl (hb hby at_234) k) ?_
      show Way _ _ _ _ (T163.setTop (mkF m 235 #[iv p0, iv p1, iv p2, iv p3, iv p4, iv la, iv cp, iv lb, iv x0, iv x1, iv y0, iv y1, rv ca, rv cb, rv a9, rv a138, iv kd, .unset, .unset] [(.int 3), (.int kd)]))
      by_cases b258 : kd = (3 : Int32)
      · skip
        refine Way.by (fun _ k => XS.icmpNo X207.here hx rfl (hb hby at_235) rfl (teq b258).2 k) ?_
        show Way _ _ _ _ (T163.setTop (mkF m 238 #[iv p0, iv p1, iv p2, iv p3, iv p4, iv la, iv cp, iv lb, iv x0, iv x1, iv y0, iv y1, rv ca, rv cb, rv a9, rv a138, iv kd, .unset, .unset] []))
        refine Way.by (fun _ k => XS.aload X207.here hx rfl (hb hby at_238) rfl rfl k) ?_
        show Way _ _ _ _ (T163.setTop (mkF m 240 #[iv p0, iv p1, iv p2, iv p3, iv p4, iv la, iv cp, iv lb, iv x0, iv x1, iv y0, iv y1, rv ca, rv cb, rv a9, rv a138, iv kd, .unset, .unset] [(.ref a9)]))
        refine Way.by (fun _ k => XS.aload X207.here hx rfl (hb hby at_240) rfl rfl k) ?_
        show Way _ _ _ _ (T163.setTop (mkF m 242 #[iv p0, iv p1, iv p2, iv p3, iv p4, iv la, iv cp, iv lb, iv x0, iv x1, iv y0, iv y1, rv ca, rv cb, rv a9, rv a138, iv kd, .unset, .unset] [(.ref a9), (.ref a9)]))
        obtain ⟨cq275, kq276, qa277, qb278, qc279⟩ := isOf hZ114 rfl E199
        obtain ⟨_, _, ⟨T259, L261, k262, n263⟩, -, X260, ⟨Lc264, hQ265, l266, y267, z268⟩, st269⟩ := X207.virtualBack hx (y := (⟨"com/example/deduct/deduct/model/ItemId", "equals", "(Ljava/lang/Object;)Z"⟩ : MethodName)) (z := (⟨"com/example/deduct/deduct/model/ItemId", "equals", "(Ljava/lang/Object;)Z"⟩ : MethodName)) hown115 (mvT hZ114 (tw hw 101 rfl)) (mvT hZ114 (tw hw 102 rfl)) (notFace_of_selects (args := #[]) (mvT hZ114 (tw hw 104 rfl))) (mvT hZ114 (tw hw 104 rfl)) (mvT hZ114 (tw hw 103 rfl)) (by decide) (backOf (W := 0) (rmEI l Z a0 hw [] a9 a9 a34 x_t75 a34 x_t75 A A (1 : Int32) T163.heap n0 Z204 E199 F202 F202 S201 S201 (by simp) O206 SV) hZ114 (tw hw 105 rfl) (tw hw 8 rfl) (by decide) (by decide)) qa277 qc279 (g := (mkF m 242 #[iv p0, iv p1, iv p2, iv p3, iv p4, iv la, iv cp, iv lb, iv x0, iv x1, iv y0, iv y1, rv ca, rv cb, rv a9, rv a138, iv kd, .unset, .unset] [(.ref a9), (.ref a9)])) rfl (by rw [hml]; rfl) (Steps.refl _) (argsL := [(.ref a9)]) (rest := []) (lenOf pdEI rfl) rfl (leW rfl) (hb hby at_242) (fun _ _ => ⟨rfl, rfl, (leB rfl), (leB rfl)⟩)
        dsimp only [Pt.U, Pt.locs, Pt.cells, Pt.slots] at X260 l266 y267 z268 st269 hQ265
        subst l266 y267 z268
        obtain ⟨rfl, N280, e271⟩ := hQ265
        have N270 := Fr.app N174 N280
        refine Way.to st269 ?_
        show Way _ _ _ _ (T259.setTop (mkF m 245 #[iv p0, iv p1, iv p2, iv p3, iv p4, iv la, iv cp, iv lb, iv x0, iv x1, iv y0, iv y1, rv ca, rv cb, rv a9, rv a138, iv kd, .unset, .unset] [(.int 1)]))
        refine Way.retW (v := (some (.int (nar .boolean (1 : Int32))))) X260 hS113 (by rw [e271]; exact hk205) hlk (fun h => by rw [Bd.returns] at h; cases h) (fun fs hr => retN X260 hx (t := .boolean) Bd.returns (by simp) (hb hby at_245) hr) ?_ (by decide) (by decide)
        show Q0 n0 _ T259.heap _
        rw [e271]
        exact ⟨rfl, N270⟩
      · skip
        refine Way.by (fun _ k => XS.icmpYes X207.here hx rfl (pc0 := 235) (pc' := 246) rfl (hb hby at_235) rfl (feq b258).2 (by decide) (by decide) k) ?_
        show Way _ _ _ _ (T163.setTop (mkF m 246 #[iv p0, iv p1, iv p2, iv p3, iv p4, iv la, iv cp, iv lb, iv x0, iv x1, iv y0, iv y1, rv ca, rv cb, rv a9, rv a138, iv kd, .unset, .unset] []))
        obtain ⟨T282, h283, X284, e285, E286, A287, D288, -, st289⟩ := newO X207 hx hZ114 hown115 (tw hw 6 rfl) (tw hw 7 rfl) (tw hw 8 rfl) rfl (g := (mkF m 246 #[iv p0, iv p1, iv p2, iv p3, iv p4, iv la, iv cp, iv lb, iv x0, iv x1, iv y0, iv y1, rv ca, rv cb, rv a9, rv a138, iv kd, .unset, .unset] [])) rfl (hb hby at_246) (by decide) (by decide)
        obtain ⟨a290, g291⟩ : ∃ z, z = T163.heap.size := ⟨_, rfl⟩
        rw [← g291] at A287 D288 st289
        have ne292 : ca ≠ a290 := Nat.ne_of_lt (Nat.lt_of_lt_of_eq A194.lt g291.symm)
        have ne293 : cb ≠ a290 := Nat.ne_of_lt (Nat.lt_of_lt_of_eq A195.lt g291.symm)
        have ne294 : ur ≠ a290 := Nat.ne_of_lt (Nat.lt_of_lt_of_eq E196.lt g291.symm)
        have ne295 : up ≠ a290 := Nat.ne_of_lt (Nat.lt_of_lt_of_eq S198.lt1 g291.symm)
        have ne296 : ut ≠ a290 := Nat.ne_of_lt (Nat.lt_of_lt_of_eq S198.lt2 g291.symm)
        have ne297 : a9 ≠ a290 := Nat.ne_of_lt (Nat.lt_of_lt_of_eq E199.lt g291.symm)
        have ne298 : a34 ≠ a290 := Nat.ne_of_lt (Nat.lt_of_lt_of_eq E200.lt g291.symm)
        have ne299 : x_t75 ≠ a290 := Nat.ne_of_lt (Nat.lt_of_lt_of_eq S201.lt2 g291.symm)
        have ne300 : a138 ≠ a290 := Nat.ne_of_lt (Nat.lt_of_lt_of_eq E203.lt g291.symm)
        have ne301 : x_t183 ≠ a290 := Nat.ne_of_lt (Nat.lt_of_lt_of_eq F181.lt2 g291.symm)
        have nw302 : n0 ≤ a290 := Nat.le_trans Z204 (Nat.le_of_eq g291.symm)
        have A303 := A194.ext E286
        have A304 := A195.ext E286
        have E305 := Exa.ext E286 E196
        have F306 := Fld.ext E286 F197
        have S307 := S198.ext E286
        have E308 := Exa.ext E286 E199
        have E309 := Exa.ext E286 E200
        have S310 := S201.ext E286
        have F311 := Fld.ext E286 F202
        have E312 := Exa.ext E286 E203
        have S313 := F181.ext E286
        have Z314 := Nat.le_trans Z204 E286.1
        have hk315 := Nat.le_trans hk205 E286.1
        have O316 := O206.ext E286
        have F317 : Fld Z h283 a290 "com/example/deduct/deduct/model/ItemId" "value" "Ljava/lang/String;" .null := D288 (Or.inr (tw hw 100 rfl)) (ty := (.object "java/lang/String")) (by decide)
        refine Way.by st289 ?_
        show Way _ _ _ _ (T282.setTop (mkF m 249 #[iv p0, iv p1, iv p2, iv p3, iv p4, iv la, iv cp, iv lb, iv x0, iv x1, iv y0, iv y1, rv ca, rv cb, rv a9, rv a138, iv kd, .unset, .unset] [(.ref a290)]))
        refine Way.by (fun _ k => XS.dup X284.here hx rfl (hb hby at_249) rfl rfl k) ?_
        show Way _ _ _ _ (T282.setTop (mkF m 250 #[iv p0, iv p1, iv p2, iv p3, iv p4, iv la, iv cp, iv lb, iv x0, iv x1, iv y0, iv y1, rv ca, rv cb, rv a9, rv a138, iv kd, .unset, .unset] [(.ref a290), (.ref a290)]))
        refine Way.by (fun _ k => XS.aload X284.here hx rfl (hb hby at_250) rfl rfl k) ?_
        show Way _ _ _ _ (T282.setTop (mkF m 252 #[iv p0, iv p1, iv p2, iv p3, iv p4, iv la, iv cp, iv lb, iv x0, iv x1, iv y0, iv y1, rv ca, rv cb, rv a9, rv a138, iv kd, .unset, .unset] [(.ref a138), (.ref a290), (.ref a290)]))
        obtain ⟨_, _, ⟨T318, L320, k321, n322⟩, -, X319, hS331, hg332, ⟨Lc323, hQ324, l325, y326, z327⟩, st328⟩ := X284.specialBackS hx (y := (⟨"com/example/deduct/deduct/model/ItemId", "<init>", "(Ljava/lang/String;)V"⟩ : MethodName)) rfl hown115 (mvT hZ114 (tw hw 38 rfl)) (mvT hZ114 (tw hw 39 rfl)) (mvT hZ114 (tw hw 40 rfl)) (by decide) (backOfS (W := 1) (rmII l Z a0 hw [] a290 a138 x_t183 B ur up ut h283 n0 Z314 A287 F317 S313 hB ⟨lB.1, by omega⟩ ne300 ne301 nw302 O316 SV SRULE ERULE FPU SPU) hZ114 (tw hw 40 rfl) (tw hw 8 rfl) (by decide) (by decide)) (g := (mkF m 252 #[iv p0, iv p1, iv p2, iv p3, iv p4, iv la, iv cp, iv lb, iv x0, iv x1, iv y0, iv y1, rv ca, rv cb, rv a9, rv a138, iv kd, .unset, .unset] [(.ref a138), (.ref a290), (.ref a290)])) rfl (by rw [hml]; rfl) (Steps.refl _) (a := a290) (argsL := [(.ref a138)]) (rest := [(.ref a290)]) (lenOf pdII rfl) rfl (leW rfl) (hb hby at_252) (fun _ _ => ⟨rfl, e285, (leB rfl), (leB rfl)⟩)
        dsimp only [Pt.U, Pt.locs, Pt.cells, Pt.slots] at X319 l325 y326 z327 st328 hQ324 hS331 hg332
        subst l325 y326 z327
        obtain ⟨X334, hS335, hZ336, hown337⟩ := rebS hS113 (by rw [e285]; exact hk315) X319 hS331 hg332 hZ114 hown115
        obtain ⟨rfl, N338, K339, F_0340, F_1341⟩ := hQ324
        have N329 := Fr.app N174 N338
        have A342 := A303.keep K339 (ninS ne292 nin0)
        have A343 := A304.keep K339 (ninS ne293 nin0)
        have E344 := E305.keep K339
        have F345 := F306.keep K339 (ninS ne294 nin0)
        have S346 := S307.keep K339 (ninS ne295 nin0) (ninS ne296 nin0)
        have E347 := E308.keep K339
        have E348 := E309.keep K339
        have S349 := S310.keep K339 (ninS ne298 nin0) (ninS ne299 nin0)
        have F350 := F311.keep K339 (ninS ne297 nin0)
        have E351 := E312.keep K339
        have S352 := S313.keep K339 (ninS ne300 nin0) (ninS ne301 nin0)
        have E353 := A287.keep K339
        have Z354 := Nat.le_trans Z314 K339.1
        have O355 := O316.keep K339 (allS nw302 all0)
        refine Way.to st328 ?_
        show Way _ _ _ _ (T318.setTop (mkF m 255 #[iv p0, iv p1, iv p2, iv p3, iv p4, iv la, iv cp, iv lb, iv x0, iv x1, iv y0, iv y1, rv ca, rv cb, rv a9, rv a138, iv kd, .unset, .unset] [(.ref a290)]))
        refine Way.by (fun _ k => XS.astore X334.here hx rfl (hb hby at_255) rfl rfl (l' := #[iv p0, iv p1, iv p2, iv p3, iv p4, iv la, iv cp, iv lb, iv x0, iv x1, iv y0, iv y1, rv ca, rv cb, rv a9, rv a138, iv kd, rv a290, .unset]) rfl k) ?_
        show Way _ _ _ _ (T318.setTop (mkF m 257 #[iv p0, iv p1, iv p2, iv p3, iv p4, iv la, iv cp, iv lb, iv x0, iv x1, iv y0, iv y1, rv ca, rv cb, rv a9, rv a138, iv kd, rv a290, .unset] []))
        rcases eA with ⟨rfl, qA⟩ | ⟨rfl, qA⟩ <;> rcases eB with ⟨rfl, qB⟩ | ⟨rfl, qB⟩
        · skip
          show Way _ _ _ _ (T318.setTop (mkF m 257 #[iv p0, iv p1, iv p2, iv p3, iv p4, iv 1, iv cp, iv 1, iv x0, iv x1, iv y0, iv y1, rv ca, rv cb, rv a9, rv a138, iv kd, rv a290, .unset] []))
          by_cases h0 : x0 = y0
          · skip
            show Way _ _ _ _ (T318.setTop (mkF m 257 #[iv p0, iv p1, iv p2, iv p3, iv p4, iv 1, iv cp, iv 1, iv x0, iv x1, iv y0, iv y1, rv ca, rv cb, rv a9, rv a138, iv kd, rv a290, .unset] []))
            refine Way.by (fun _ k => XS.iload X334.here hx rfl (hb hby at_257) rfl k) ?_
            show Way _ _ _ _ (T318.setTop (mkF m 259 #[iv p0, iv p1, iv p2, iv p3, iv p4, iv 1, iv cp, iv 1, iv x0, iv x1, iv y0, iv y1, rv ca, rv cb, rv a9, rv a138, iv kd, rv a290, .unset] [(.int 1)]))
            refine Way.by (fun _ k => XS.iload X334.here hx rfl (hb hby at_259) rfl k) ?_
            show Way _ _ _ _ (T318.setTop (mkF m 261 #[iv p0, iv p1, iv p2, iv p3, iv p4, iv 1, iv cp, iv 1, iv x0, iv x1, iv y0, iv y1, rv ca, rv cb, rv a9, rv a138, iv kd, rv a290, .unset] [(.int 1), (.int 1)]))
            have b356 : (1 : Int32) = (1 : Int32) := by decide
            refine Way.by (fun _ k => XS.icmpNo X334.here hx rfl (hb hby at_261) rfl (teq b356).2 k) ?_
            show Way _ _ _ _ (T318.setTop (mkF m 264 #[iv p0, iv p1, iv p2, iv p3, iv p4, iv 1, iv cp, iv 1, iv x0, iv x1, iv y0, iv y1, rv ca, rv cb, rv a9, rv a138, iv kd, rv a290, .unset] []))
            refine Way.by (fun _ k => XS.iload X334.here hx rfl (hb hby at_264) rfl k) ?_
            show Way _ _ _ _ (T318.setTop (mkF m 266 #[iv p0, iv p1, iv p2, iv p3, iv p4, iv 1, iv cp, iv 1, iv x0, iv x1, iv y0, iv y1, rv ca, rv cb, rv a9, rv a138, iv kd, rv a290, .unset] [(.int x0)]))
            refine Way.by (fun _ k => XS.iload X334.here hx rfl (hb hby at_266) rfl k) ?_
            show Way _ _ _ _ (T318.setTop (mkF m 268 #[iv p0, iv p1, iv p2, iv p3, iv p4, iv 1, iv cp, iv 1, iv x0, iv x1, iv y0, iv y1, rv ca, rv cb, rv a9, rv a138, iv kd, rv a290, .unset] [(.int y0), (.int x0)]))
            have b357 : x0 = y0 := h0
            refine Way.by (fun _ k => XS.icmpNo X334.here hx rfl (hb hby at_268) rfl (teq b357).2 k) ?_
            show Way _ _ _ _ (T318.setTop (mkF m 271 #[iv p0, iv p1, iv p2, iv p3, iv p4, iv 1, iv cp, iv 1, iv x0, iv x1, iv y0, iv y1, rv ca, rv cb, rv a9, rv a138, iv kd, rv a290, .unset] []))
            refine Way.by (fun _ k => XS.iload X334.here hx rfl (hb hby at_271) rfl k) ?_
            show Way _ _ _ _ (T318.setTop (mkF m 273 #[iv p0, iv p1, iv p2, iv p3, iv p4, iv 1, iv cp, iv 1, iv x0, iv x1, iv y0, iv y1, rv ca, rv cb, rv a9, rv a138, iv kd, rv a290, .unset] [(.int 1)]))
            refine Way.by (fun _ k => XS.iconst X334.here hx rfl (hb hby at_273) k) ?_
            show Way _ _ _ _ (T318.setTop (mkF m 274 #[iv p0, iv p1, iv p2, iv p3, iv p4, iv 1, iv cp, iv 1, iv x0, iv x1, iv y0, iv y1, rv ca, rv cb, rv a9, rv a138, iv kd, rv a290, .unset] [(.int 1), (.int 1)]))
            have b358 : (1 : Int32) = (1 : Int32) := by decide
            refine Way.by (fun _ k => XS.icmpYes X334.here hx rfl (pc0 := 274) (pc' := 284) rfl (hb hby at_274) rfl (teq b358).1 (by decide) (by decide) k) ?_
            show Way _ _ _ _ (T318.setTop (mkF m 284 #[iv p0, iv p1, iv p2, iv p3, iv p4, iv 1, iv cp, iv 1, iv x0, iv x1, iv y0, iv y1, rv ca, rv cb, rv a9, rv a138, iv kd, rv a290, .unset] []))
            refine Way.by (fun _ k => XS.iconst X334.here hx rfl (hb hby at_284) k) ?_
            show Way _ _ _ _ (T318.setTop (mkF m 285 #[iv p0, iv p1, iv p2, iv p3, iv p4, iv 1, iv cp, iv 1, iv x0, iv x1, iv y0, iv y1, rv ca, rv cb, rv a9, rv a138, iv kd, rv a290, .unset] [(.int 1)]))
            refine Way.by (fun _ k => XS.goto X334.here hx rfl (pc0 := 285) (pc' := 289) rfl (hb hby at_285) (by decide) (by decide) k) ?_
            show Way _ _ _ _ (T318.setTop (mkF m 289 #[iv p0, iv p1, iv p2, iv p3, iv p4, iv 1, iv cp, iv 1, iv x0, iv x1, iv y0, iv y1, rv ca, rv cb, rv a9, rv a138, iv kd, rv a290, .unset] [(.int 1)]))
            refine Way.by (fun _ k => XS.istore X334.here hx rfl (hb hby at_289) rfl (l' := #[iv p0, iv p1, iv p2, iv p3, iv p4, iv 1, iv cp, iv 1, iv x0, iv x1, iv y0, iv y1, rv ca, rv cb, rv a9, rv a138, iv kd, rv a290, iv 1]) rfl k) ?_
            show Way _ _ _ _ (T318.setTop (mkF m 291 #[iv p0, iv p1, iv p2, iv p3, iv p4, iv 1, iv cp, iv 1, iv x0, iv x1, iv y0, iv y1, rv ca, rv cb, rv a9, rv a138, iv kd, rv a290, iv 1] []))
            refine Way.by (fun _ k => XS.aload X334.here hx rfl (hb hby at_291) rfl rfl k) ?_
            show Way _ _ _ _ (T318.setTop (mkF m 293 #[iv p0, iv p1, iv p2, iv p3, iv p4, iv 1, iv cp, iv 1, iv x0, iv x1, iv y0, iv y1, rv ca, rv cb, rv a9, rv a138, iv kd, rv a290, iv 1] [(.ref a9)]))
            refine Way.by (fun _ k => XS.aload X334.here hx rfl (hb hby at_293) rfl rfl k) ?_
            show Way _ _ _ _ (T318.setTop (mkF m 295 #[iv p0, iv p1, iv p2, iv p3, iv p4, iv 1, iv cp, iv 1, iv x0, iv x1, iv y0, iv y1, rv ca, rv cb, rv a9, rv a138, iv kd, rv a290, iv 1] [(.ref a290), (.ref a9)]))
            obtain ⟨cq375, kq376, qa377, qb378, qc379⟩ := isOf hZ336 rfl E347
            obtain ⟨_, _, ⟨T359, L361, k362, n363⟩, -, X360, ⟨Lc364, hQ365, l366, y367, z368⟩, st369⟩ := X334.virtualBack hx (y := (⟨"com/example/deduct/deduct/model/ItemId", "equals", "(Ljava/lang/Object;)Z"⟩ : MethodName)) (z := (⟨"com/example/deduct/deduct/model/ItemId", "equals", "(Ljava/lang/Object;)Z"⟩ : MethodName)) hown337 (mvT hZ336 (tw hw 101 rfl)) (mvT hZ336 (tw hw 102 rfl)) (notFace_of_selects (args := #[]) (mvT hZ336 (tw hw 104 rfl))) (mvT hZ336 (tw hw 104 rfl)) (mvT hZ336 (tw hw 103 rfl)) (by decide) (backOf (W := 0) (rmEI l Z a0 hw [] a9 a290 a34 x_t75 a138 x_t183 A B (1 : Int32) T318.heap n0 Z354 F_0340 F350 F_1341 S349 S352 (by rw [qA, qB]; simp [h0]) O355 SV) hZ336 (tw hw 105 rfl) (tw hw 8 rfl) (by decide) (by decide)) qa377 qc379 (g := (mkF m 295 #[iv p0, iv p1, iv p2, iv p3, iv p4, iv 1, iv cp, iv 1, iv x0, iv x1, iv y0, iv y1, rv ca, rv cb, rv a9, rv a138, iv kd, rv a290, iv 1] [(.ref a290), (.ref a9)])) rfl (by rw [hml]; rfl) (Steps.refl _) (argsL := [(.ref a290)]) (rest := []) (lenOf pdEI rfl) rfl (leW rfl) (hb hby at_295) (fun _ _ => ⟨rfl, rfl, (leB rfl), (leB rfl)⟩)
            dsimp only [Pt.U, Pt.locs, Pt.cells, Pt.slots] at X360 l366 y367 z368 st369 hQ365
            subst l366 y367 z368
            obtain ⟨rfl, N380, e371⟩ := hQ365
            have N370 := Fr.app N329 N380
            refine Way.to st369 ?_
            show Way _ _ _ _ (T359.setTop (mkF m 298 #[iv p0, iv p1, iv p2, iv p3, iv p4, iv 1, iv cp, iv 1, iv x0, iv x1, iv y0, iv y1, rv ca, rv cb, rv a9, rv a138, iv kd, rv a290, iv 1] [(.int 1)]))
            refine Way.by (fun _ k => XS.iload X360.here hx rfl (hb hby at_298) rfl k) ?_
            show Way _ _ _ _ (T359.setTop (mkF m 300 #[iv p0, iv p1, iv p2, iv p3, iv p4, iv 1, iv cp, iv 1, iv x0, iv x1, iv y0, iv y1, rv ca, rv cb, rv a9, rv a138, iv kd, rv a290, iv 1] [(.int 1), (.int 1)]))
            have b382 : (1 : Int32) = (1 : Int32) := by decide
            refine Way.by (fun _ k => XS.icmpNo X360.here hx rfl (hb hby at_300) rfl (teq b382).2 k) ?_
            show Way _ _ _ _ (T359.setTop (mkF m 303 #[iv p0, iv p1, iv p2, iv p3, iv p4, iv 1, iv cp, iv 1, iv x0, iv x1, iv y0, iv y1, rv ca, rv cb, rv a9, rv a138, iv kd, rv a290, iv 1] []))
            refine Way.by (fun _ k => XS.aload X360.here hx rfl (hb hby at_303) rfl rfl k) ?_
            show Way _ _ _ _ (T359.setTop (mkF m 305 #[iv p0, iv p1, iv p2, iv p3, iv p4, iv 1, iv cp, iv 1, iv x0, iv x1, iv y0, iv y1, rv ca, rv cb, rv a9, rv a138, iv kd, rv a290, iv 1] [(.ref a290)]))
            refine Way.by (fun _ k => XS.aload X360.here hx rfl (hb hby at_305) rfl rfl k) ?_
            show Way _ _ _ _ (T359.setTop (mkF m 307 #[iv p0, iv p1, iv p2, iv p3, iv p4, iv 1, iv cp, iv 1, iv x0, iv x1, iv y0, iv y1, rv ca, rv cb, rv a9, rv a138, iv kd, rv a290, iv 1] [(.ref a9), (.ref a290)]))
            obtain ⟨cq399, kq400, qa401, qb402, qc403⟩ := isOf hZ336 e371 F_0340
            obtain ⟨_, _, ⟨T383, L385, k386, n387⟩, -, X384, ⟨Lc388, hQ389, l390, y391, z392⟩, st393⟩ := X360.virtualBack hx (y := (⟨"com/example/deduct/deduct/model/ItemId", "equals", "(Ljava/lang/Object;)Z"⟩ : MethodName)) (z := (⟨"com/example/deduct/deduct/model/ItemId", "equals", "(Ljava/lang/Object;)Z"⟩ : MethodName)) hown337 (mvT hZ336 (tw hw 101 rfl)) (mvT hZ336 (tw hw 102 rfl)) (notFace_of_selects (args := #[]) (mvT hZ336 (tw hw 104 rfl))) (mvT hZ336 (tw hw 104 rfl)) (mvT hZ336 (tw hw 103 rfl)) (by decide) (backOf (W := 0) (rmEI l Z a0 hw [] a290 a9 a138 x_t183 a34 x_t75 B A (1 : Int32) T318.heap n0 Z354 E347 F_1341 F350 S352 S349 (by rw [qA, qB]; simp [h0]) O355 SV) hZ336 (tw hw 105 rfl) (tw hw 8 rfl) (by decide) (by decide)) qa401 qc403 (g := (mkF m 307 #[iv p0, iv p1, iv p2, iv p3, iv p4, iv 1, iv cp, iv 1, iv x0, iv x1, iv y0, iv y1, rv ca, rv cb, rv a9, rv a138, iv kd, rv a290, iv 1] [(.ref a9), (.ref a290)])) rfl (by rw [hml]; rfl) (Steps.refl _) (argsL := [(.ref a9)]) (rest := []) (lenOf pdEI rfl) rfl (leW rfl) (hb hby at_307) (fun _ _ => ⟨rfl, e371, (leB rfl), (leB rfl)⟩)
            dsimp only [Pt.U, Pt.locs, Pt.cells, Pt.slots] at X384 l390 y391 z392 st393 hQ389
            subst l390 y391 z392
            obtain ⟨rfl, N404, e395⟩ := hQ389
            have N394 := Fr.app N370 N404
            refine Way.to st393 ?_
            show Way _ _ _ _ (T383.setTop (mkF m 310 #[iv p0, iv p1, iv p2, iv p3, iv p4, iv 1, iv cp, iv 1, iv x0, iv x1, iv y0, iv y1, rv ca, rv cb, rv a9, rv a138, iv kd, rv a290, iv 1] [(.int 1)]))
            refine Way.by (fun _ k => XS.iload X384.here hx rfl (hb hby at_310) rfl k) ?_
            show Way _ _ _ _ (T383.setTop (mkF m 312 #[iv p0, iv p1, iv p2, iv p3, iv p4, iv 1, iv cp, iv 1, iv x0, iv x1, iv y0, iv y1, rv ca, rv cb, rv a9, rv a138, iv kd, rv a290, iv 1] [(.int 1), (.int 1)]))
            have b406 : (1 : Int32) = (1 : Int32) := by decide
            refine Way.by (fun _ k => XS.icmpNo X384.here hx rfl (hb hby at_312) rfl (teq b406).2 k) ?_
            show Way _ _ _ _ (T383.setTop (mkF m 315 #[iv p0, iv p1, iv p2, iv p3, iv p4, iv 1, iv cp, iv 1, iv x0, iv x1, iv y0, iv y1, rv ca, rv cb, rv a9, rv a138, iv kd, rv a290, iv 1] []))
            refine Way.by (fun _ k => XS.iconst X384.here hx rfl (hb hby at_315) k) ?_
            show Way _ _ _ _ (T383.setTop (mkF m 316 #[iv p0, iv p1, iv p2, iv p3, iv p4, iv 1, iv cp, iv 1, iv x0, iv x1, iv y0, iv y1, rv ca, rv cb, rv a9, rv a138, iv kd, rv a290, iv 1] [(.int 1)]))
            refine Way.by (fun _ k => XS.goto X384.here hx rfl (pc0 := 316) (pc' := 320) rfl (hb hby at_316) (by decide) (by decide) k) ?_
            show Way _ _ _ _ (T383.setTop (mkF m 320 #[iv p0, iv p1, iv p2, iv p3, iv p4, iv 1, iv cp, iv 1, iv x0, iv x1, iv y0, iv y1, rv ca, rv cb, rv a9, rv a138, iv kd, rv a290, iv 1] [(.int 1)]))
            refine Way.retW (v := (some (.int (nar .boolean (1 : Int32))))) X384 hS335 (by rw [e395]; exact (Nat.le_refl _)) hlk (fun h => by rw [Bd.returns] at h; cases h) (fun fs hr => retN X384 hx (t := .boolean) Bd.returns (by simp) (hb hby at_320) hr) ?_ (by decide) (by decide)
            show Q0 n0 _ T383.heap _
            rw [e395]
            exact ⟨rfl, N394⟩
          · skip
            show Way _ _ _ _ (T318.setTop (mkF m 257 #[iv p0, iv p1, iv p2, iv p3, iv p4, iv 1, iv cp, iv 1, iv x0, iv x1, iv y0, iv y1, rv ca, rv cb, rv a9, rv a138, iv kd, rv a290, .unset] []))
            refine Way.by (fun _ k => XS.iload X334.here hx rfl (hb hby at_257) rfl k) ?_
            show Way _ _ _ _ (T318.setTop (mkF m 259 #[iv p0, iv p1, iv p2, iv p3, iv p4, iv 1, iv cp, iv 1, iv x0, iv x1, iv y0, iv y1, rv ca, rv cb, rv a9, rv a138, iv kd, rv a290, .unset] [(.int 1)]))
            refine Way.by (fun _ k => XS.iload X334.here hx rfl (hb hby at_259) rfl k) ?_
            show Way _ _ _ _ (T318.setTop (mkF m 261 #[iv p0, iv p1, iv p2, iv p3, iv p4, iv 1, iv cp, iv 1, iv x0, iv x1, iv y0, iv y1, rv ca, rv cb, rv a9, rv a138, iv kd, rv a290, .unset] [(.int 1), (.int 1)]))
            have b407 : (1 : Int32) = (1 : Int32) := by decide
            refine Way.by (fun _ k => XS.icmpNo X334.here hx rfl (hb hby at_261) rfl (teq b407).2 k) ?_
            show Way _ _ _ _ (T318.setTop (mkF m 264 #[iv p0, iv p1, iv p2, iv p3, iv p4, iv 1, iv cp, iv 1, iv x0, iv x1, iv y0, iv y1, rv ca, rv cb, rv a9, rv a138, iv kd, rv a290, .unset] []))
            refine Way.by (fun _ k => XS.iload X334.here hx rfl (hb hby at_264) rfl k) ?_
            show Way _ _ _ _ (T318.setTop (mkF m 266 #[iv p0, iv p1, iv p2, iv p3, iv p4, iv 1, iv cp, iv 1, iv x0, iv x1, iv y0, iv y1, rv ca, rv cb, rv a9, rv a138, iv kd, rv a290, .unset] [(.int x0)]))
            refine Way.by (fun _ k => XS.iload X334.here hx rfl (hb hby at_266) rfl k) ?_
            show Way _ _ _ _ (T318.setTop (mkF m 268 #[iv p0, iv p1, iv p2, iv p3, iv p4, iv 1, iv cp, iv 1, iv x0, iv x1, iv y0, iv y1, rv ca, rv cb, rv a9, rv a138, iv kd, rv a290, .unset] [(.int y0), (.int x0)]))
            have b408 : ¬ x0 = y0 := h0
            refine Way.by (fun _ k => XS.icmpYes X334.here hx rfl (pc0 := 268) (pc' := 288) rfl (hb hby at_268) rfl (feq b408).2 (by decide) (by decide) k) ?_
            show Way _ _ _ _ (T318.setTop (mkF m 288 #[iv p0, iv p1, iv p2, iv p3, iv p4, iv 1, iv cp, iv 1, iv x0, iv x1, iv y0, iv y1, rv ca, rv cb, rv a9, rv a138, iv kd, rv a290, .unset] []))
            refine Way.by (fun _ k => XS.iconst X334.here hx rfl (hb hby at_288) k) ?_
            show Way _ _ _ _ (T318.setTop (mkF m 289 #[iv p0, iv p1, iv p2, iv p3, iv p4, iv 1, iv cp, iv 1, iv x0, iv x1, iv y0, iv y1, rv ca, rv cb, rv a9, rv a138, iv kd, rv a290, .unset] [(.int 0)]))
            refine Way.by (fun _ k => XS.istore X334.here hx rfl (hb hby at_289) rfl (l' := #[iv p0, iv p1, iv p2, iv p3, iv p4, iv 1, iv cp, iv 1, iv x0, iv x1, iv y0, iv y1, rv ca, rv cb, rv a9, rv a138, iv kd, rv a290, iv 0]) rfl k) ?_
            show Way _ _ _ _ (T318.setTop (mkF m 291 #[iv p0, iv p1, iv p2, iv p3, iv p4, iv 1, iv cp, iv 1, iv x0, iv x1, iv y0, iv y1, rv ca, rv cb, rv a9, rv a138, iv kd, rv a290, iv 0] []))
            refine Way.by (fun _ k => XS.aload X334.here hx rfl (hb hby at_291) rfl rfl k) ?_
            show Way _ _ _ _ (T318.setTop (mkF m 293 #[iv p0, iv p1, iv p2, iv p3, iv p4, iv 1, iv cp, iv 1, iv x0, iv x1, iv y0, iv y1, rv ca, rv cb, rv a9, rv a138, iv kd, rv a290, iv 0] [(.ref a9)]))
            refine Way.by (fun _ k => XS.aload X334.here hx rfl (hb hby at_293) rfl rfl k) ?_
            show Way _ _ _ _ (T318.setTop (mkF m 295 #[iv p0, iv p1, iv p2, iv p3, iv p4, iv 1, iv cp, iv 1, iv x0, iv x1, iv y0, iv y1, rv ca, rv cb, rv a9, rv a138, iv kd, rv a290, iv 0] [(.ref a290), (.ref a9)]))
            obtain ⟨cq425, kq426, qa427, qb428, qc429⟩ := isOf hZ336 rfl E347
            obtain ⟨_, _, ⟨T409, L411, k412, n413⟩, -, X410, ⟨Lc414, hQ415, l416, y417, z418⟩, st419⟩ := X334.virtualBack hx (y := (⟨"com/example/deduct/deduct/model/ItemId", "equals", "(Ljava/lang/Object;)Z"⟩ : MethodName)) (z := (⟨"com/example/deduct/deduct/model/ItemId", "equals", "(Ljava/lang/Object;)Z"⟩ : MethodName)) hown337 (mvT hZ336 (tw hw 101 rfl)) (mvT hZ336 (tw hw 102 rfl)) (notFace_of_selects (args := #[]) (mvT hZ336 (tw hw 104 rfl))) (mvT hZ336 (tw hw 104 rfl)) (mvT hZ336 (tw hw 103 rfl)) (by decide) (backOf (W := 0) (rmEI l Z a0 hw [] a9 a290 a34 x_t75 a138 x_t183 A B (0 : Int32) T318.heap n0 Z354 F_0340 F350 F_1341 S349 S352 (by rw [qA, qB]; simp [h0, Ne.symm h0]) O355 SV) hZ336 (tw hw 105 rfl) (tw hw 8 rfl) (by decide) (by decide)) qa427 qc429 (g := (mkF m 295 #[iv p0, iv p1, iv p2, iv p3, iv p4, iv 1, iv cp, iv 1, iv x0, iv x1, iv y0, iv y1, rv ca, rv cb, rv a9, rv a138, iv kd, rv a290, iv 0] [(.ref a290), (.ref a9)])) rfl (by rw [hml]; rfl) (Steps.refl _) (argsL := [(.ref a290)]) (rest := []) (lenOf pdEI rfl) rfl (leW rfl) (hb hby at_295) (fun _ _ => ⟨rfl, rfl, (leB rfl), (leB rfl)⟩)
            dsimp only [Pt.U, Pt.locs, Pt.cells, Pt.slots] at X410 l416 y417 z418 st419 hQ415
            subst l416 y417 z418
            obtain ⟨rfl, N430, e421⟩ := hQ415
            have N420 := Fr.app N329 N430
            refine Way.to st419 ?_
            show Way _ _ _ _ (T409.setTop (mkF m 298 #[iv p0, iv p1, iv p2, iv p3, iv p4, iv 1, iv cp, iv 1, iv x0, iv x1, iv y0, iv y1, rv ca, rv cb, rv a9, rv a138, iv kd, rv a290, iv 0] [(.int 0)]))
            refine Way.by (fun _ k => XS.iload X410.here hx rfl (hb hby at_298) rfl k) ?_
            show Way _ _ _ _ (T409.setTop (mkF m 300 #[iv p0, iv p1, iv p2, iv p3, iv p4, iv 1, iv cp, iv 1, iv x0, iv x1, iv y0, iv y1, rv ca, rv cb, rv a9, rv a138, iv kd, rv a290, iv 0] [(.int 0), (.int 0)]))
            have b432 : (0 : Int32) = (0 : Int32) := by decide
            refine Way.by (fun _ k => XS.icmpNo X410.here hx rfl (hb hby at_300) rfl (teq b432).2 k) ?_
            show Way _ _ _ _ (T409.setTop (mkF m 303 #[iv p0, iv p1, iv p2, iv p3, iv p4, iv 1, iv cp, iv 1, iv x0, iv x1, iv y0, iv y1, rv ca, rv cb, rv a9, rv a138, iv kd, rv a290, iv 0] []))
            refine Way.by (fun _ k => XS.aload X410.here hx rfl (hb hby at_303) rfl rfl k) ?_
            show Way _ _ _ _ (T409.setTop (mkF m 305 #[iv p0, iv p1, iv p2, iv p3, iv p4, iv 1, iv cp, iv 1, iv x0, iv x1, iv y0, iv y1, rv ca, rv cb, rv a9, rv a138, iv kd, rv a290, iv 0] [(.ref a290)]))
            refine Way.by (fun _ k => XS.aload X410.here hx rfl (hb hby at_305) rfl rfl k) ?_
            show Way _ _ _ _ (T409.setTop (mkF m 307 #[iv p0, iv p1, iv p2, iv p3, iv p4, iv 1, iv cp, iv 1, iv x0, iv x1, iv y0, iv y1, rv ca, rv cb, rv a9, rv a138, iv kd, rv a290, iv 0] [(.ref a9), (.ref a290)]))
            obtain ⟨cq449, kq450, qa451, qb452, qc453⟩ := isOf hZ336 e421 F_0340
            obtain ⟨_, _, ⟨T433, L435, k436, n437⟩, -, X434, ⟨Lc438, hQ439, l440, y441, z442⟩, st443⟩ := X410.virtualBack hx (y := (⟨"com/example/deduct/deduct/model/ItemId", "equals", "(Ljava/lang/Object;)Z"⟩ : MethodName)) (z := (⟨"com/example/deduct/deduct/model/ItemId", "equals", "(Ljava/lang/Object;)Z"⟩ : MethodName)) hown337 (mvT hZ336 (tw hw 101 rfl)) (mvT hZ336 (tw hw 102 rfl)) (notFace_of_selects (args := #[]) (mvT hZ336 (tw hw 104 rfl))) (mvT hZ336 (tw hw 104 rfl)) (mvT hZ336 (tw hw 103 rfl)) (by decide) (backOf (W := 0) (rmEI l Z a0 hw [] a290 a9 a138 x_t183 a34 x_t75 B A (0 : Int32) T318.heap n0 Z354 E347 F_1341 F350 S352 S349 (by rw [qA, qB]; simp [h0, Ne.symm h0]) O355 SV) hZ336 (tw hw 105 rfl) (tw hw 8 rfl) (by decide) (by decide)) qa451 qc453 (g := (mkF m 307 #[iv p0, iv p1, iv p2, iv p3, iv p4, iv 1, iv cp, iv 1, iv x0, iv x1, iv y0, iv y1, rv ca, rv cb, rv a9, rv a138, iv kd, rv a290, iv 0] [(.ref a9), (.ref a290)])) rfl (by rw [hml]; rfl) (Steps.refl _) (argsL := [(.ref a9)]) (rest := []) (lenOf pdEI rfl) rfl (leW rfl) (hb hby at_307) (fun _ _ => ⟨rfl, e421, (leB rfl), (leB rfl)⟩)
            dsimp only [Pt.U, Pt.locs, Pt.cells, Pt.slots] at X434 l440 y441 z442 st443 hQ439
            subst l440 y441 z442
            obtain ⟨rfl, N454, e445⟩ := hQ439
            have N444 := Fr.app N420 N454
            refine Way.to st443 ?_
            show Way _ _ _ _ (T433.setTop (mkF m 310 #[iv p0, iv p1, iv p2, iv p3, iv p4, iv 1, iv cp, iv 1, iv x0, iv x1, iv y0, iv y1, rv ca, rv cb, rv a9, rv a138, iv kd, rv a290, iv 0] [(.int 0)]))
            refine Way.by (fun _ k => XS.iload X434.here hx rfl (hb hby at_310) rfl k) ?_
            show Way _ _ _ _ (T433.setTop (mkF m 312 #[iv p0, iv p1, iv p2, iv p3, iv p4, iv 1, iv cp, iv 1, iv x0, iv x1, iv y0, iv y1, rv ca, rv cb, rv a9, rv a138, iv kd, rv a290, iv 0] [(.int 0), (.int 0)]))
            have b456 : (0 : Int32) = (0 : Int32) := by decide
            refine Way.by (fun _ k => XS.icmpNo X434.here hx rfl (hb hby at_312) rfl (teq b456).2 k) ?_
            show Way _ _ _ _ (T433.setTop (mkF m 315 #[iv p0, iv p1, iv p2, iv p3, iv p4, iv 1, iv cp, iv 1, iv x0, iv x1, iv y0, iv y1, rv ca, rv cb, rv a9, rv a138, iv kd, rv a290, iv 0] []))
            refine Way.by (fun _ k => XS.iconst X434.here hx rfl (hb hby at_315) k) ?_
            show Way _ _ _ _ (T433.setTop (mkF m 316 #[iv p0, iv p1, iv p2, iv p3, iv p4, iv 1, iv cp, iv 1, iv x0, iv x1, iv y0, iv y1, rv ca, rv cb, rv a9, rv a138, iv kd, rv a290, iv 0] [(.int 1)]))
            refine Way.by (fun _ k => XS.goto X434.here hx rfl (pc0 := 316) (pc' := 320) rfl (hb hby at_316) (by decide) (by decide) k) ?_
            show Way _ _ _ _ (T433.setTop (mkF m 320 #[iv p0, iv p1, iv p2, iv p3, iv p4, iv 1, iv cp, iv 1, iv x0, iv x1, iv y0, iv y1, rv ca, rv cb, rv a9, rv a138, iv kd, rv a290, iv 0] [(.int 1)]))
            refine Way.retW (v := (some (.int (nar .boolean (1 : Int32))))) X434 hS335 (by rw [e445]; exact (Nat.le_refl _)) hlk (fun h => by rw [Bd.returns] at h; cases h) (fun fs hr => retN X434 hx (t := .boolean) Bd.returns (by simp) (hb hby at_320) hr) ?_ (by decide) (by decide)
            show Q0 n0 _ T433.heap _
            rw [e445]
            exact ⟨rfl, N444⟩
        · skip
          show Way _ _ _ _ (T318.setTop (mkF m 257 #[iv p0, iv p1, iv p2, iv p3, iv p4, iv 1, iv cp, iv 2, iv x0, iv x1, iv y0, iv y1, rv ca, rv cb, rv a9, rv a138, iv kd, rv a290, .unset] []))
          show Way _ _ _ _ (T318.setTop (mkF m 257 #[iv p0, iv p1, iv p2, iv p3, iv p4, iv 1, iv cp, iv 2, iv x0, iv x1, iv y0, iv y1, rv ca, rv cb, rv a9, rv a138, iv kd, rv a290, .unset] []))
          refine Way.by (fun _ k => XS.iload X334.here hx rfl (hb hby at_257) rfl k) ?_
          show Way _ _ _ _ (T318.setTop (mkF m 259 #[iv p0, iv p1, iv p2, iv p3, iv p4, iv 1, iv cp, iv 2, iv x0, iv x1, iv y0, iv y1, rv ca, rv cb, rv a9, rv a138, iv kd, rv a290, .unset] [(.int 1)]))
          refine Way.by (fun _ k => XS.iload X334.here hx rfl (hb hby at_259) rfl k) ?_
          show Way _ _ _ _ (T318.setTop (mkF m 261 #[iv p0, iv p1, iv p2, iv p3, iv p4, iv 1, iv cp, iv 2, iv x0, iv x1, iv y0, iv y1, rv ca, rv cb, rv a9, rv a138, iv kd, rv a290, .unset] [(.int 2), (.int 1)]))
          have b457 : ¬ (1 : Int32) = (2 : Int32) := by decide
          refine Way.by (fun _ k => XS.icmpYes X334.here hx rfl (pc0 := 261) (pc' := 288) rfl (hb hby at_261) rfl (feq b457).2 (by decide) (by decide) k) ?_
          show Way _ _ _ _ (T318.setTop (mkF m 288 #[iv p0, iv p1, iv p2, iv p3, iv p4, iv 1, iv cp, iv 2, iv x0, iv x1, iv y0, iv y1, rv ca, rv cb, rv a9, rv a138, iv kd, rv a290, .unset] []))
          refine Way.by (fun _ k => XS.iconst X334.here hx rfl (hb hby at_288) k) ?_
          show Way _ _ _ _ (T318.setTop (mkF m 289 #[iv p0, iv p1, iv p2, iv p3, iv p4, iv 1, iv cp, iv 2, iv x0, iv x1, iv y0, iv y1, rv ca, rv cb, rv a9, rv a138, iv kd, rv a290, .unset] [(.int 0)]))
          refine Way.by (fun _ k => XS.istore X334.here hx rfl (hb hby at_289) rfl (l' := #[iv p0, iv p1, iv p2, iv p3, iv p4, iv 1, iv cp, iv 2, iv x0, iv x1, iv y0, iv y1, rv ca, rv cb, rv a9, rv a138, iv kd, rv a290, iv 0]) rfl k) ?_
          show Way _ _ _ _ (T318.setTop (mkF m 291 #[iv p0, iv p1, iv p2, iv p3, iv p4, iv 1, iv cp, iv 2, iv x0, iv x1, iv y0, iv y1, rv ca, rv cb, rv a9, rv a138, iv kd, rv a290, iv 0] []))
          refine Way.by (fun _ k => XS.aload X334.here hx rfl (hb hby at_291) rfl rfl k) ?_
          show Way _ _ _ _ (T318.setTop (mkF m 293 #[iv p0, iv p1, iv p2, iv p3, iv p4, iv 1, iv cp, iv 2, iv x0, iv x1, iv y0, iv y1, rv ca, rv cb, rv a9, rv a138, iv kd, rv a290, iv 0] [(.ref a9)]))
          refine Way.by (fun _ k => XS.aload X334.here hx rfl (hb hby at_293) rfl rfl k) ?_
          show Way _ _ _ _ (T318.setTop (mkF m 295 #[iv p0, iv p1, iv p2, iv p3, iv p4, iv 1, iv cp, iv 2, iv x0, iv x1, iv y0, iv y1, rv ca, rv cb, rv a9, rv a138, iv kd, rv a290, iv 0] [(.ref a290), (.ref a9)]))
          obtain ⟨cq474, kq475, qa476, qb477, qc478⟩ := isOf hZ336 rfl E347
          obtain ⟨_, _, ⟨T458, L460, k461, n462⟩, -, X459, ⟨Lc463, hQ464, l465, y466, z467⟩, st468⟩ := X334.virtualBack hx (y := (⟨"com/example/deduct/deduct/model/ItemId", "equals", "(Ljava/lang/Object;)Z"⟩ : MethodName)) (z := (⟨"com/example/deduct/deduct/model/ItemId", "equals", "(Ljava/lang/Object;)Z"⟩ : MethodName)) hown337 (mvT hZ336 (tw hw 101 rfl)) (mvT hZ336 (tw hw 102 rfl)) (notFace_of_selects (args := #[]) (mvT hZ336 (tw hw 104 rfl))) (mvT hZ336 (tw hw 104 rfl)) (mvT hZ336 (tw hw 103 rfl)) (by decide) (backOf (W := 0) (rmEI l Z a0 hw [] a9 a290 a34 x_t75 a138 x_t183 A B (0 : Int32) T318.heap n0 Z354 F_0340 F350 F_1341 S349 S352 (by rw [qA, qB]; simp) O355 SV) hZ336 (tw hw 105 rfl) (tw hw 8 rfl) (by decide) (by decide)) qa476 qc478 (g := (mkF m 295 #[iv p0, iv p1, iv p2, iv p3, iv p4, iv 1, iv cp, iv 2, iv x0, iv x1, iv y0, iv y1, rv ca, rv cb, rv a9, rv a138, iv kd, rv a290, iv 0] [(.ref a290), (.ref a9)])) rfl (by rw [hml]; rfl) (Steps.refl _) (argsL := [(.ref a290)]) (rest := []) (lenOf pdEI rfl) rfl (leW rfl) (hb hby at_295) (fun _ _ => ⟨rfl, rfl, (leB rfl), (leB rfl)⟩)
          dsimp only [Pt.U, Pt.locs, Pt.cells, Pt.slots] at X459 l465 y466 z467 st468 hQ464
          subst l465 y466 z467
          obtain ⟨rfl, N479, e470⟩ := hQ464
          have N469 := Fr.app N329 N479
          refine Way.to st468 ?_
          show Way _ _ _ _ (T458.setTop (mkF m 298 #[iv p0, iv p1, iv p2, iv p3, iv p4, iv 1, iv cp, iv 2, iv x0, iv x1, iv y0, iv y1, rv ca, rv cb, rv a9, rv a138, iv kd, rv a290, iv 0] [(.int 0)]))
          refine Way.by (fun _ k => XS.iload X459.here hx rfl (hb hby at_298) rfl k) ?_
          show Way _ _ _ _ (T458.setTop (mkF m 300 #[iv p0, iv p1, iv p2, iv p3, iv p4, iv 1, iv cp, iv 2, iv x0, iv x1, iv y0, iv y1, rv ca, rv cb, rv a9, rv a138, iv kd, rv a290, iv 0] [(.int 0), (.int 0)]))
          have b481 : (0 : Int32) = (0 : Int32) := by decide
          refine Way.by (fun _ k => XS.icmpNo X459.here hx rfl (hb hby at_300) rfl (teq b481).2 k) ?_
          show Way _ _ _ _ (T458.setTop (mkF m 303 #[iv p0, iv p1, iv p2, iv p3, iv p4, iv 1, iv cp, iv 2, iv x0, iv x1, iv y0, iv y1, rv ca, rv cb, rv a9, rv a138, iv kd, rv a290, iv 0] []))
          refine Way.by (fun _ k => XS.aload X459.here hx rfl (hb hby at_303) rfl rfl k) ?_
          show Way _ _ _ _ (T458.setTop (mkF m 305 #[iv p0, iv p1, iv p2, iv p3, iv p4, iv 1, iv cp, iv 2, iv x0, iv x1, iv y0, iv y1, rv ca, rv cb, rv a9, rv a138, iv kd, rv a290, iv 0] [(.ref a290)]))
          refine Way.by (fun _ k => XS.aload X459.here hx rfl (hb hby at_305) rfl rfl k) ?_
          show Way _ _ _ _ (T458.setTop (mkF m 307 #[iv p0, iv p1, iv p2, iv p3, iv p4, iv 1, iv cp, iv 2, iv x0, iv x1, iv y0, iv y1, rv ca, rv cb, rv a9, rv a138, iv kd, rv a290, iv 0] [(.ref a9), (.ref a290)]))
          obtain ⟨cq498, kq499, qa500, qb501, qc502⟩ := isOf hZ336 e470 F_0340
          obtain ⟨_, _, ⟨T482, L484, k485, n486⟩, -, X483, ⟨Lc487, hQ488, l489, y490, z491⟩, st492⟩ := X459.virtualBack hx (y := (⟨"com/example/deduct/deduct/model/ItemId", "equals", "(Ljava/lang/Object;)Z"⟩ : MethodName)) (z := (⟨"com/example/deduct/deduct/model/ItemId", "equals", "(Ljava/lang/Object;)Z"⟩ : MethodName)) hown337 (mvT hZ336 (tw hw 101 rfl)) (mvT hZ336 (tw hw 102 rfl)) (notFace_of_selects (args := #[]) (mvT hZ336 (tw hw 104 rfl))) (mvT hZ336 (tw hw 104 rfl)) (mvT hZ336 (tw hw 103 rfl)) (by decide) (backOf (W := 0) (rmEI l Z a0 hw [] a290 a9 a138 x_t183 a34 x_t75 B A (0 : Int32) T318.heap n0 Z354 E347 F_1341 F350 S352 S349 (by rw [qA, qB]; simp) O355 SV) hZ336 (tw hw 105 rfl) (tw hw 8 rfl) (by decide) (by decide)) qa500 qc502 (g := (mkF m 307 #[iv p0, iv p1, iv p2, iv p3, iv p4, iv 1, iv cp, iv 2, iv x0, iv x1, iv y0, iv y1, rv ca, rv cb, rv a9, rv a138, iv kd, rv a290, iv 0] [(.ref a9), (.ref a290)])) rfl (by rw [hml]; rfl) (Steps.refl _) (argsL := [(.ref a9)]) (rest := []) (lenOf pdEI rfl) rfl (leW rfl) (hb hby at_307) (fun _ _ => ⟨rfl, e470, (leB rfl), (leB rfl)⟩)
          dsimp only [Pt.U, Pt.locs, Pt.cells, Pt.slots] at X483 l489 y490 z491 st492 hQ488
          subst l489 y490 z491
          obtain ⟨rfl, N503, e494⟩ := hQ488
          have N493 := Fr.app N469 N503
          refine Way.to st492 ?_
          show Way _ _ _ _ (T482.setTop (mkF m 310 #[iv p0, iv p1, iv p2, iv p3, iv p4, iv 1, iv cp, iv 2, iv x0, iv x1, iv y0, iv y1, rv ca, rv cb, rv a9, rv a138, iv kd, rv a290, iv 0] [(.int 0)]))
          refine Way.by (fun _ k => XS.iload X483.here hx rfl (hb hby at_310) rfl k) ?_
          show Way _ _ _ _ (T482.setTop (mkF m 312 #[iv p0, iv p1, iv p2, iv p3, iv p4, iv 1, iv cp, iv 2, iv x0, iv x1, iv y0, iv y1, rv ca, rv cb, rv a9, rv a138, iv kd, rv a290, iv 0] [(.int 0), (.int 0)]))
          have b505 : (0 : Int32) = (0 : Int32) := by decide
          refine Way.by (fun _ k => XS.icmpNo X483.here hx rfl (hb hby at_312) rfl (teq b505).2 k) ?_
          show Way _ _ _ _ (T482.setTop (mkF m 315 #[iv p0, iv p1, iv p2, iv p3, iv p4, iv 1, iv cp, iv 2, iv x0, iv x1, iv y0, iv y1, rv ca, rv cb, rv a9, rv a138, iv kd, rv a290, iv 0] []))
          refine Way.by (fun _ k => XS.iconst X483.here hx rfl (hb hby at_315) k) ?_
          show Way _ _ _ _ (T482.setTop (mkF m 316 #[iv p0, iv p1, iv p2, iv p3, iv p4, iv 1, iv cp, iv 2, iv x0, iv x1, iv y0, iv y1, rv ca, rv cb, rv a9, rv a138, iv kd, rv a290, iv 0] [(.int 1)]))
          refine Way.by (fun _ k => XS.goto X483.here hx rfl (pc0 := 316) (pc' := 320) rfl (hb hby at_316) (by decide) (by decide) k) ?_
          show Way _ _ _ _ (T482.setTop (mkF m 320 #[iv p0, iv p1, iv p2, iv p3, iv p4, iv 1, iv cp, iv 2, iv x0, iv x1, iv y0, iv y1, rv ca, rv cb, rv a9, rv a138, iv kd, rv a290, iv 0] [(.int 1)]))
          refine Way.retW (v := (some (.int (nar .boolean (1 : Int32))))) X483 hS335 (by rw [e494]; exact (Nat.le_refl _)) hlk (fun h => by rw [Bd.returns] at h; cases h) (fun fs hr => retN X483 hx (t := .boolean) Bd.returns (by simp) (hb hby at_320) hr) ?_ (by decide) (by decide)
          show Q0 n0 _ T482.heap _
          rw [e494]
          exact ⟨rfl, N493⟩
        · skip
          show Way _ _ _ _ (T318.setTop (mkF m 257 #[iv p0, iv p1, iv p2, iv p3, iv p4, iv 2, iv cp, iv 1, iv x0, iv x1, iv y0, iv y1, rv ca, rv cb, rv a9, rv a138, iv kd, rv a290, .unset] []))
          show Way _ _ _ _ (T318.setTop (mkF m 257 #[iv p0, iv p1, iv p2, iv p3, iv p4, iv 2, iv cp, iv 1, iv x0, iv x1, iv y0, iv y1, rv ca, rv cb, rv a9, rv a138, iv kd, rv a290, .unset] []))
          refine Way.by (fun _ k => XS.iload X334.here hx rfl (hb hby at_257) rfl k) ?_
          show Way _ _ _ _ (T318.setTop (mkF m 259 #[iv p0, iv p1, iv p2, iv p3, iv p4, iv 2, iv cp, iv 1, iv x0, iv x1, iv y0, iv y1, rv ca, rv cb, rv a9, rv a138, iv kd, rv a290, .unset] [(.int 2)]))
          refine Way.by (fun _ k => XS.iload X334.here hx rfl (hb hby at_259) rfl k) ?_
          show Way _ _ _ _ (T318.setTop (mkF m 261 #[iv p0, iv p1, iv p2, iv p3, iv p4, iv 2, iv cp, iv 1, iv x0, iv x1, iv y0, iv y1, rv ca, rv cb, rv a9, rv a138, iv kd, rv a290, .unset] [(.int 1), (.int 2)]))
          have b506 : ¬ (2 : Int32) = (1 : Int32) := by decide
          refine Way.by (fun _ k => XS.icmpYes X334.here hx rfl (pc0 := 261) (pc' := 288) rfl (hb hby at_261) rfl (feq b506).2 (by decide) (by decide) k) ?_
          show Way _ _ _ _ (T318.setTop (mkF m 288 #[iv p0, iv p1, iv p2, iv p3, iv p4, iv 2, iv cp, iv 1, iv x0, iv x1, iv y0, iv y1, rv ca, rv cb, rv a9, rv a138, iv kd, rv a290, .unset] []))
          refine Way.by (fun _ k => XS.iconst X334.here hx rfl (hb hby at_288) k) ?_
          show Way _ _ _ _ (T318.setTop (mkF m 289 #[iv p0, iv p1, iv p2, iv p3, iv p4, iv 2, iv cp, iv 1, iv x0, iv x1, iv y0, iv y1, rv ca, rv cb, rv a9, rv a138, iv kd, rv a290, .unset] [(.int 0)]))
          refine Way.by (fun _ k => XS.istore X334.here hx rfl (hb hby at_289) rfl (l' := #[iv p0, iv p1, iv p2, iv p3, iv p4, iv 2, iv cp, iv 1, iv x0, iv x1, iv y0, iv y1, rv ca, rv cb, rv a9, rv a138, iv kd, rv a290, iv 0]) rfl k) ?_
          show Way _ _ _ _ (T318.setTop (mkF m 291 #[iv p0, iv p1, iv p2, iv p3, iv p4, iv 2, iv cp, iv 1, iv x0, iv x1, iv y0, iv y1, rv ca, rv cb, rv a9, rv a138, iv kd, rv a290, iv 0] []))
          refine Way.by (fun _ k => XS.aload X334.here hx rfl (hb hby at_291) rfl rfl k) ?_
          show Way _ _ _ _ (T318.setTop (mkF m 293 #[iv p0, iv p1, iv p2, iv p3, iv p4, iv 2, iv cp, iv 1, iv x0, iv x1, iv y0, iv y1, rv ca, rv cb, rv a9, rv a138, iv kd, rv a290, iv 0] [(.ref a9)]))
          refine Way.by (fun _ k => XS.aload X334.here hx rfl (hb hby at_293) rfl rfl k) ?_
          show Way _ _ _ _ (T318.setTop (mkF m 295 #[iv p0, iv p1, iv p2, iv p3, iv p4, iv 2, iv cp, iv 1, iv x0, iv x1, iv y0, iv y1, rv ca, rv cb, rv a9, rv a138, iv kd, rv a290, iv 0] [(.ref a290), (.ref a9)]))
          obtain ⟨cq523, kq524, qa525, qb526, qc527⟩ := isOf hZ336 rfl E347
          obtain ⟨_, _, ⟨T507, L509, k510, n511⟩, -, X508, ⟨Lc512, hQ513, l514, y515, z516⟩, st517⟩ := X334.virtualBack hx (y := (⟨"com/example/deduct/deduct/model/ItemId", "equals", "(Ljava/lang/Object;)Z"⟩ : MethodName)) (z := (⟨"com/example/deduct/deduct/model/ItemId", "equals", "(Ljava/lang/Object;)Z"⟩ : MethodName)) hown337 (mvT hZ336 (tw hw 101 rfl)) (mvT hZ336 (tw hw 102 rfl)) (notFace_of_selects (args := #[]) (mvT hZ336 (tw hw 104 rfl))) (mvT hZ336 (tw hw 104 rfl)) (mvT hZ336 (tw hw 103 rfl)) (by decide) (backOf (W := 0) (rmEI l Z a0 hw [] a9 a290 a34 x_t75 a138 x_t183 A B (0 : Int32) T318.heap n0 Z354 F_0340 F350 F_1341 S349 S352 (by rw [qA, qB]; simp) O355 SV) hZ336 (tw hw 105 rfl) (tw hw 8 rfl) (by decide) (by decide)) qa525 qc527 (g := (mkF m 295 #[iv p0, iv p1, iv p2, iv p3, iv p4, iv 2, iv cp, iv 1, iv x0, iv x1, iv y0, iv y1, rv ca, rv cb, rv a9, rv a138, iv kd, rv a290, iv 0] [(.ref a290), (.ref a9)])) rfl (by rw [hml]; rfl) (Steps.refl _) (argsL := [(.ref a290)]) (rest := []) (lenOf pdEI rfl) rfl (leW rfl) (hb hby at_295) (fun _ _ => ⟨rfl, rfl, (leB rfl), (leB rfl)⟩)
          dsimp only [Pt.U, Pt.locs, Pt.cells, Pt.slots] at X508 l514 y515 z516 st517 hQ513
          subst l514 y515 z516
          obtain ⟨rfl, N528, e519⟩ := hQ513
          have N518 := Fr.app N329 N528
          refine Way.to st517 ?_
          show Way _ _ _ _ (T507.setTop (mkF m 298 #[iv p0, iv p1, iv p2, iv p3, iv p4, iv 2, iv cp, iv 1, iv x0, iv x1, iv y0, iv y1, rv ca, rv cb, rv a9, rv a138, iv kd, rv a290, iv 0] [(.int 0)]))
          refine Way.by (fun _ k => XS.iload X508.here hx rfl (hb hby at_298) rfl k) ?_
          show Way _ _ _ _ (T507.setTop (mkF m 300 #[iv p0, iv p1, iv p2, iv p3, iv p4, iv 2, iv cp, iv 1, iv x0, iv x1, iv y0, iv y1, rv ca, rv cb, rv a9, rv a138, iv kd, rv a290, iv 0] [(.int 0), (.int 0)]))
          have b530 : (0 : Int32) = (0 : Int32) := by decide
          refine Way.by (fun _ k => XS.icmpNo X508.here hx rfl (hb hby at_300) rfl (teq b530).2 k) ?_
          show Way _ _ _ _ (T507.setTop (mkF m 303 #[iv p0, iv p1, iv p2, iv p3, iv p4, iv 2, iv cp, iv 1, iv x0, iv x1, iv y0, iv y1, rv ca, rv cb, rv a9, rv a138, iv kd, rv a290, iv 0] []))
          refine Way.by (fun _ k => XS.aload X508.here hx rfl (hb hby at_303) rfl rfl k) ?_
          show Way _ _ _ _ (T507.setTop (mkF m 305 #[iv p0, iv p1, iv p2, iv p3, iv p4, iv 2, iv cp, iv 1, iv x0, iv x1, iv y0, iv y1, rv ca, rv cb, rv a9, rv a138, iv kd, rv a290, iv 0] [(.ref a290)]))
          refine Way.by (fun _ k => XS.aload X508.here hx rfl (hb hby at_305) rfl rfl k) ?_
          show Way _ _ _ _ (T507.setTop (mkF m 307 #[iv p0, iv p1, iv p2, iv p3, iv p4, iv 2, iv cp, iv 1, iv x0, iv x1, iv y0, iv y1, rv ca, rv cb, rv a9, rv a138, iv kd, rv a290, iv 0] [(.ref a9), (.ref a290)]))
          obtain ⟨cq547, kq548, qa549, qb550, qc551⟩ := isOf hZ336 e519 F_0340
          obtain ⟨_, _, ⟨T531, L533, k534, n535⟩, -, X532, ⟨Lc536, hQ537, l538, y539, z540⟩, st541⟩ := X508.virtualBack hx (y := (⟨"com/example/deduct/deduct/model/ItemId", "equals", "(Ljava/lang/Object;)Z"⟩ : MethodName)) (z := (⟨"com/example/deduct/deduct/model/ItemId", "equals", "(Ljava/lang/Object;)Z"⟩ : MethodName)) hown337 (mvT hZ336 (tw hw 101 rfl)) (mvT hZ336 (tw hw 102 rfl)) (notFace_of_selects (args := #[]) (mvT hZ336 (tw hw 104 rfl))) (mvT hZ336 (tw hw 104 rfl)) (mvT hZ336 (tw hw 103 rfl)) (by decide) (backOf (W := 0) (rmEI l Z a0 hw [] a290 a9 a138 x_t183 a34 x_t75 B A (0 : Int32) T318.heap n0 Z354 E347 F_1341 F350 S352 S349 (by rw [qA, qB]; simp) O355 SV) hZ336 (tw hw 105 rfl) (tw hw 8 rfl) (by decide) (by decide)) qa549 qc551 (g := (mkF m 307 #[iv p0, iv p1, iv p2, iv p3, iv p4, iv 2, iv cp, iv 1, iv x0, iv x1, iv y0, iv y1, rv ca, rv cb, rv a9, rv a138, iv kd, rv a290, iv 0] [(.ref a9), (.ref a290)])) rfl (by rw [hml]; rfl) (Steps.refl _) (argsL := [(.ref a9)]) (rest := []) (lenOf pdEI rfl) rfl (leW rfl) (hb hby at_307) (fun _ _ => ⟨rfl, e519, (leB rfl), (leB rfl)⟩)
          dsimp only [Pt.U, Pt.locs, Pt.cells, Pt.slots] at X532 l538 y539 z540 st541 hQ537
          subst l538 y539 z540
          obtain ⟨rfl, N552, e543⟩ := hQ537
          have N542 := Fr.app N518 N552
          refine Way.to st541 ?_
          show Way _ _ _ _ (T531.setTop (mkF m 310 #[iv p0, iv p1, iv p2, iv p3, iv p4, iv 2, iv cp, iv 1, iv x0, iv x1, iv y0, iv y1, rv ca, rv cb, rv a9, rv a138, iv kd, rv a290, iv 0] [(.int 0)]))
          refine Way.by (fun _ k => XS.iload X532.here hx rfl (hb hby at_310) rfl k) ?_
          show Way _ _ _ _ (T531.setTop (mkF m 312 #[iv p0, iv p1, iv p2, iv p3, iv p4, iv 2, iv cp, iv 1, iv x0, iv x1, iv y0, iv y1, rv ca, rv cb, rv a9, rv a138, iv kd, rv a290, iv 0] [(.int 0), (.int 0)]))
          have b554 : (0 : Int32) = (0 : Int32) := by decide
          refine Way.by (fun _ k => XS.icmpNo X532.here hx rfl (hb hby at_312) rfl (teq b554).2 k) ?_
          show Way _ _ _ _ (T531.setTop (mkF m 315 #[iv p0, iv p1, iv p2, iv p3, iv p4, iv 2, iv cp, iv 1, iv x0, iv x1, iv y0, iv y1, rv ca, rv cb, rv a9, rv a138, iv kd, rv a290, iv 0] []))
          refine Way.by (fun _ k => XS.iconst X532.here hx rfl (hb hby at_315) k) ?_
          show Way _ _ _ _ (T531.setTop (mkF m 316 #[iv p0, iv p1, iv p2, iv p3, iv p4, iv 2, iv cp, iv 1, iv x0, iv x1, iv y0, iv y1, rv ca, rv cb, rv a9, rv a138, iv kd, rv a290, iv 0] [(.int 1)]))
          refine Way.by (fun _ k => XS.goto X532.here hx rfl (pc0 := 316) (pc' := 320) rfl (hb hby at_316) (by decide) (by decide) k) ?_
          show Way _ _ _ _ (T531.setTop (mkF m 320 #[iv p0, iv p1, iv p2, iv p3, iv p4, iv 2, iv cp, iv 1, iv x0, iv x1, iv y0, iv y1, rv ca, rv cb, rv a9, rv a138, iv kd, rv a290, iv 0] [(.int 1)]))
          refine Way.retW (v := (some (.int (nar .boolean (1 : Int32))))) X532 hS335 (by rw [e543]; exact (Nat.le_refl _)) hlk (fun h => by rw [Bd.returns] at h; cases h) (fun fs hr => retN X532 hx (t := .boolean) Bd.returns (by simp) (hb hby at_320) hr) ?_ (by decide) (by decide)
          show Q0 n0 _ T531.heap _
          rw [e543]
          exact ⟨rfl, N542⟩
        · skip
          show Way _ _ _ _ (T318.setTop (mkF m 257 #[iv p0, iv p1, iv p2, iv p3, iv p4, iv 2, iv cp, iv 2, iv x0, iv x1, iv y0, iv y1, rv ca, rv cb, rv a9, rv a138, iv kd, rv a290, .unset] []))
          by_cases h0 : x0 = y0
          · skip
            by_cases h1 : x1 = y1
            · skip
              show Way _ _ _ _ (T318.setTop (mkF m 257 #[iv p0, iv p1, iv p2, iv p3, iv p4, iv 2, iv cp, iv 2, iv x0, iv x1, iv y0, iv y1, rv ca, rv cb, rv a9, rv a138, iv kd, rv a290, .unset] []))
              refine Way.by (fun _ k => XS.iload X334.here hx rfl (hb hby at_257) rfl k) ?_
              show Way _ _ _ _ (T318.setTop (mkF m 259 #[iv p0, iv p1, iv p2, iv p3, iv p4, iv 2, iv cp, iv 2, iv x0, iv x1, iv y0, iv y1, rv ca, rv cb, rv a9, rv a138, iv kd, rv a290, .unset] [(.int 2)]))
              refine Way.by (fun _ k => XS.iload X334.here hx rfl (hb hby at_259) rfl k) ?_
              show Way _ _ _ _ (T318.setTop (mkF m 261 #[iv p0, iv p1, iv p2, iv p3, iv p4, iv 2, iv cp, iv 2, iv x0, iv x1, iv y0, iv y1, rv ca, rv cb, rv a9, rv a138, iv kd, rv a290, .unset] [(.int 2), (.int 2)]))
              have b555 : (2 : Int32) = (2 : Int32) := by decide
              refine Way.by (fun _ k => XS.icmpNo X334.here hx rfl (hb hby at_261) rfl (teq b555).2 k) ?_
              show Way _ _ _ _ (T318.setTop (mkF m 264 #[iv p0, iv p1, iv p2, iv p3, iv p4, iv 2, iv cp, iv 2, iv x0, iv x1, iv y0, iv y1, rv ca, rv cb, rv a9, rv a138, iv kd, rv a290, .unset] []))
              refine Way.by (fun _ k => XS.iload X334.here hx rfl (hb hby at_264) rfl k) ?_
              show Way _ _ _ _ (T318.setTop (mkF m 266 #[iv p0, iv p1, iv p2, iv p3, iv p4, iv 2, iv cp, iv 2, iv x0, iv x1, iv y0, iv y1, rv ca, rv cb, rv a9, rv a138, iv kd, rv a290, .unset] [(.int x0)]))
              refine Way.by (fun _ k => XS.iload X334.here hx rfl (hb hby at_266) rfl k) ?_
              show Way _ _ _ _ (T318.setTop (mkF m 268 #[iv p0, iv p1, iv p2, iv p3, iv p4, iv 2, iv cp, iv 2, iv x0, iv x1, iv y0, iv y1, rv ca, rv cb, rv a9, rv a138, iv kd, rv a290, .unset] [(.int y0), (.int x0)]))
              have b556 : x0 = y0 := h0
              refine Way.by (fun _ k => XS.icmpNo X334.here hx rfl (hb hby at_268) rfl (teq b556).2 k) ?_
              show Way _ _ _ _ (T318.setTop (mkF m 271 #[iv p0, iv p1, iv p2, iv p3, iv p4, iv 2, iv cp, iv 2, iv x0, iv x1, iv y0, iv y1, rv ca, rv cb, rv a9, rv a138, iv kd, rv a290, .unset] []))
              refine Way.by (fun _ k => XS.iload X334.here hx rfl (hb hby at_271) rfl k) ?_
              show Way _ _ _ _ (T318.setTop (mkF m 273 #[iv p0, iv p1, iv p2, iv p3, iv p4, iv 2, iv cp, iv 2, iv x0, iv x1, iv y0, iv y1, rv ca, rv cb, rv a9, rv a138, iv kd, rv a290, .unset] [(.int 2)]))
              refine Way.by (fun _ k => XS.iconst X334.here hx rfl (hb hby at_273) k) ?_
              show Way _ _ _ _ (T318.setTop (mkF m 274 #[iv p0, iv p1, iv p2, iv p3, iv p4, iv 2, iv cp, iv 2, iv x0, iv x1, iv y0, iv y1, rv ca, rv cb, rv a9, rv a138, iv kd, rv a290, .unset] [(.int 1), (.int 2)]))
              have b557 : ¬ (2 : Int32) = (1 : Int32) := by decide
              refine Way.by (fun _ k => XS.icmpNo X334.here hx rfl (hb hby at_274) rfl (feq b557).1 k) ?_
              show Way _ _ _ _ (T318.setTop (mkF m 277 #[iv p0, iv p1, iv p2, iv p3, iv p4, iv 2, iv cp, iv 2, iv x0, iv x1, iv y0, iv y1, rv ca, rv cb, rv a9, rv a138, iv kd, rv a290, .unset] []))
              refine Way.by (fun _ k => XS.iload X334.here hx rfl (hb hby at_277) rfl k) ?_
              show Way _ _ _ _ (T318.setTop (mkF m 279 #[iv p0, iv p1, iv p2, iv p3, iv p4, iv 2, iv cp, iv 2, iv x0, iv x1, iv y0, iv y1, rv ca, rv cb, rv a9, rv a138, iv kd, rv a290, .unset] [(.int x1)]))
              refine Way.by (fun _ k => XS.iload X334.here hx rfl (hb hby at_279) rfl k) ?_
              show Way _ _ _ _ (T318.setTop (mkF m 281 #[iv p0, iv p1, iv p2, iv p3, iv p4, iv 2, iv cp, iv 2, iv x0, iv x1, iv y0, iv y1, rv ca, rv cb, rv a9, rv a138, iv kd, rv a290, .unset] [(.int y1), (.int x1)]))
              have b558 : x1 = y1 := h1
              refine Way.by (fun _ k => XS.icmpNo X334.here hx rfl (hb hby at_281) rfl (teq b558).2 k) ?_
              show Way _ _ _ _ (T318.setTop (mkF m 284 #[iv p0, iv p1, iv p2, iv p3, iv p4, iv 2, iv cp, iv 2, iv x0, iv x1, iv y0, iv y1, rv ca, rv cb, rv a9, rv a138, iv kd, rv a290, .unset] []))
              refine Way.by (fun _ k => XS.iconst X334.here hx rfl (hb hby at_284) k) ?_
              show Way _ _ _ _ (T318.setTop (mkF m 285 #[iv p0, iv p1, iv p2, iv p3, iv p4, iv 2, iv cp, iv 2, iv x0, iv x1, iv y0, iv y1, rv ca, rv cb, rv a9, rv a138, iv kd, rv a290, .unset] [(.int 1)]))
              refine Way.by (fun _ k => XS.goto X334.here hx rfl (pc0 := 285) (pc' := 289) rfl (hb hby at_285) (by decide) (by decide) k) ?_
              show Way _ _ _ _ (T318.setTop (mkF m 289 #[iv p0, iv p1, iv p2, iv p3, iv p4, iv 2, iv cp, iv 2, iv x0, iv x1, iv y0, iv y1, rv ca, rv cb, rv a9, rv a138, iv kd, rv a290, .unset] [(.int 1)]))
              refine Way.by (fun _ k => XS.istore X334.here hx rfl (hb hby at_289) rfl (l' := #[iv p0, iv p1, iv p2, iv p3, iv p4, iv 2, iv cp, iv 2, iv x0, iv x1, iv y0, iv y1, rv ca, rv cb, rv a9, rv a138, iv kd, rv a290, iv 1]) rfl k) ?_
              show Way _ _ _ _ (T318.setTop (mkF m 291 #[iv p0, iv p1, iv p2, iv p3, iv p4, iv 2, iv cp, iv 2, iv x0, iv x1, iv y0, iv y1, rv ca, rv cb, rv a9, rv a138, iv kd, rv a290, iv 1] []))
              refine Way.by (fun _ k => XS.aload X334.here hx rfl (hb hby at_291) rfl rfl k) ?_
              show Way _ _ _ _ (T318.setTop (mkF m 293 #[iv p0, iv p1, iv p2, iv p3, iv p4, iv 2, iv cp, iv 2, iv x0, iv x1, iv y0, iv y1, rv ca, rv cb, rv a9, rv a138, iv kd, rv a290, iv 1] [(.ref a9)]))
              refine Way.by (fun _ k => XS.aload X334.here hx rfl (hb hby at_293) rfl rfl k) ?_
              show Way _ _ _ _ (T318.setTop (mkF m 295 #[iv p0, iv p1, iv p2, iv p3, iv p4, iv 2, iv cp, iv 2, iv x0, iv x1, iv y0, iv y1, rv ca, rv cb, rv a9, rv a138, iv kd, rv a290, iv 1] [(.ref a290), (.ref a9)]))
              obtain ⟨cq575, kq576, qa577, qb578, qc579⟩ := isOf hZ336 rfl E347
              obtain ⟨_, _, ⟨T559, L561, k562, n563⟩, -, X560, ⟨Lc564, hQ565, l566, y567, z568⟩, st569⟩ := X334.virtualBack hx (y := (⟨"com/example/deduct/deduct/model/ItemId", "equals", "(Ljava/lang/Object;)Z"⟩ : MethodName)) (z := (⟨"com/example/deduct/deduct/model/ItemId", "equals", "(Ljava/lang/Object;)Z"⟩ : MethodName)) hown337 (mvT hZ336 (tw hw 101 rfl)) (mvT hZ336 (tw hw 102 rfl)) (notFace_of_selects (args := #[]) (mvT hZ336 (tw hw 104 rfl))) (mvT hZ336 (tw hw 104 rfl)) (mvT hZ336 (tw hw 103 rfl)) (by decide) (backOf (W := 0) (rmEI l Z a0 hw [] a9 a290 a34 x_t75 a138 x_t183 A B (1 : Int32) T318.heap n0 Z354 F_0340 F350 F_1341 S349 S352 (by rw [qA, qB]; simp [h0, h1]) O355 SV) hZ336 (tw hw 105 rfl) (tw hw 8 rfl) (by decide) (by decide)) qa577 qc579 (g := (mkF m 295 #[iv p0, iv p1, iv p2, iv p3, iv p4, iv 2, iv cp, iv 2, iv x0, iv x1, iv y0, iv y1, rv ca, rv cb, rv a9, rv a138, iv kd, rv a290, iv 1] [(.ref a290), (.ref a9)])) rfl (by rw [hml]; rfl) (Steps.refl _) (argsL := [(.ref a290)]) (rest := []) (lenOf pdEI rfl) rfl (leW rfl) (hb hby at_295) (fun _ _ => ⟨rfl, rfl, (leB rfl), (leB rfl)⟩)
              dsimp only [Pt.U, Pt.locs, Pt.cells, Pt.slots] at X560 l566 y567 z568 st569 hQ565
              subst l566 y567 z568
              obtain ⟨rfl, N580, e571⟩ := hQ565
              have N570 := Fr.app N329 N580
              refine Way.to st569 ?_
              show Way _ _ _ _ (T559.setTop (mkF m 298 #[iv p0, iv p1, iv p2, iv p3, iv p4, iv 2, iv cp, iv 2, iv x0, iv x1, iv y0, iv y1, rv ca, rv cb, rv a9, rv a138, iv kd, rv a290, iv 1] [(.int 1)]))
              refine Way.by (fun _ k => XS.iload X560.here hx rfl (hb hby at_298) rfl k) ?_
              show Way _ _ _ _ (T559.setTop (mkF m 300 #[iv p0, iv p1, iv p2, iv p3, iv p4, iv 2, iv cp, iv 2, iv x0, iv x1, iv y0, iv y1, rv ca, rv cb, rv a9, rv a138, iv kd, rv a290, iv 1] [(.int 1), (.int 1)]))
              have b582 : (1 : Int32) = (1 : Int32) := by decide
              refine Way.by (fun _ k => XS.icmpNo X560.here hx rfl (hb hby at_300) rfl (teq b582).2 k) ?_
              show Way _ _ _ _ (T559.setTop (mkF m 303 #[iv p0, iv p1, iv p2, iv p3, iv p4, iv 2, iv cp, iv 2, iv x0, iv x1, iv y0, iv y1, rv ca, rv cb, rv a9, rv a138, iv kd, rv a290, iv 1] []))
              refine Way.by (fun _ k => XS.aload X560.here hx rfl (hb hby at_303) rfl rfl k) ?_
              show Way _ _ _ _ (T559.setTop (mkF m 305 #[iv p0, iv p1, iv p2, iv p3, iv p4, iv 2, iv cp, iv 2, iv x0, iv x1, iv y0, iv y1, rv ca, rv cb, rv a9, rv a138, iv kd, rv a290, iv 1] [(.ref a290)]))
              refine Way.by (fun _ k => XS.aload X560.here hx rfl (hb hby at_305) rfl rfl k) ?_
              show Way _ _ _ _ (T559.setTop (mkF m 307 #[iv p0, iv p1, iv p2, iv p3, iv p4, iv 2, iv cp, iv 2, iv x0, iv x1, iv y0, iv y1, rv ca, rv cb, rv a9, rv a138, iv kd, rv a290, iv 1] [(.ref a9), (.ref a290)]))
              obtain ⟨cq599, kq600, qa601, qb602, qc603⟩ := isOf hZ336 e571 F_0340
              obtain ⟨_, _, ⟨T583, L585, k586, n587⟩, -, X584, ⟨Lc588, hQ589, l590, y591, z592⟩, st593⟩ := X560.virtualBack hx (y := (⟨"com/example/deduct/deduct/model/ItemId", "equals", "(Ljava/lang/Object;)Z"⟩ : MethodName)) (z := (⟨"com/example/deduct/deduct/model/ItemId", "equals", "(Ljava/lang/Object;)Z"⟩ : MethodName)) hown337 (mvT hZ336 (tw hw 101 rfl)) (mvT hZ336 (tw hw 102 rfl)) (notFace_of_selects (args := #[]) (mvT hZ336 (tw hw 104 rfl))) (mvT hZ336 (tw hw 104 rfl)) (mvT hZ336 (tw hw 103 rfl)) (by decide) (backOf (W := 0) (rmEI l Z a0 hw [] a290 a9 a138 x_t183 a34 x_t75 B A (1 : Int32) T318.heap n0 Z354 E347 F_1341 F350 S352 S349 (by rw [qA, qB]; simp [h0, h1]) O355 SV) hZ336 (tw hw 105 rfl) (tw hw 8 rfl) (by decide) (by decide)) qa601 qc603 (g := (mkF m 307 #[iv p0, iv p1, iv p2, iv p3, iv p4, iv 2, iv cp, iv 2, iv x0, iv x1, iv y0, iv y1, rv ca, rv cb, rv a9, rv a138, iv kd, rv a290, iv 1] [(.ref a9), (.ref a290)])) rfl (by rw [hml]; rfl) (Steps.refl _) (argsL := [(.ref a9)]) (rest := []) (lenOf pdEI rfl) rfl (leW rfl) (hb hby at_307) (fun _ _ => ⟨rfl, e571, (leB rfl), (leB rfl)⟩)
              dsimp only [Pt.U, Pt.locs, Pt.cells, Pt.slots] at X584 l590 y591 z592 st593 hQ589
              subst l590 y591 z592
              obtain ⟨rfl, N604, e595⟩ := hQ589
              have N594 := Fr.app N570 N604
              refine Way.to st593 ?_
              show Way _ _ _ _ (T583.setTop (mkF m 310 #[iv p0, iv p1, iv p2, iv p3, iv p4, iv 2, iv cp, iv 2, iv x0, iv x1, iv y0, iv y1, rv ca, rv cb, rv a9, rv a138, iv kd, rv a290, iv 1] [(.int 1)]))
              refine Way.by (fun _ k => XS.iload X584.here hx rfl (hb hby at_310) rfl k) ?_
              show Way _ _ _ _ (T583.setTop (mkF m 312 #[iv p0, iv p1, iv p2, iv p3, iv p4, iv 2, iv cp, iv 2, iv x0, iv x1, iv y0, iv y1, rv ca, rv cb, rv a9, rv a138, iv kd, rv a290, iv 1] [(.int 1), (.int 1)]))
              have b606 : (1 : Int32) = (1 : Int32) := by decide
              refine Way.by (fun _ k => XS.icmpNo X584.here hx rfl (hb hby at_312) rfl (teq b606).2 k) ?_
              show Way _ _ _ _ (T583.setTop (mkF m 315 #[iv p0, iv p1, iv p2, iv p3, iv p4, iv 2, iv cp, iv 2, iv x0, iv x1, iv y0, iv y1, rv ca, rv cb, rv a9, rv a138, iv kd, rv a290, iv 1] []))
              refine Way.by (fun _ k => XS.iconst X584.here hx rfl (hb hby at_315) k) ?_
              show Way _ _ _ _ (T583.setTop (mkF m 316 #[iv p0, iv p1, iv p2, iv p3, iv p4, iv 2, iv cp, iv 2, iv x0, iv x1, iv y0, iv y1, rv ca, rv cb, rv a9, rv a138, iv kd, rv a290, iv 1] [(.int 1)]))
              refine Way.by (fun _ k => XS.goto X584.here hx rfl (pc0 := 316) (pc' := 320) rfl (hb hby at_316) (by decide) (by decide) k) ?_
              show Way _ _ _ _ (T583.setTop (mkF m 320 #[iv p0, iv p1, iv p2, iv p3, iv p4, iv 2, iv cp, iv 2, iv x0, iv x1, iv y0, iv y1, rv ca, rv cb, rv a9, rv a138, iv kd, rv a290, iv 1] [(.int 1)]))
              refine Way.retW (v := (some (.int (nar .boolean (1 : Int32))))) X584 hS335 (by rw [e595]; exact (Nat.le_refl _)) hlk (fun h => by rw [Bd.returns] at h; cases h) (fun fs hr => retN X584 hx (t := .boolean) Bd.returns (by simp) (hb hby at_320) hr) ?_ (by decide) (by decide)
              show Q0 n0 _ T583.heap _
              rw [e595]
              exact ⟨rfl, N594⟩
            · skip
              show Way _ _ _ _ (T318.setTop (mkF m 257 #[iv p0, iv p1, iv p2, iv p3, iv p4, iv 2, iv cp, iv 2, iv x0, iv x1, iv y0, iv y1, rv ca, rv cb, rv a9, rv a138, iv kd, rv a290, .unset] []))
              refine Way.by (fun _ k => XS.iload X334.here hx rfl (hb hby at_257) rfl k) ?_
              show Way _ _ _ _ (T318.setTop (mkF m 259 #[iv p0, iv p1, iv p2, iv p3, iv p4, iv 2, iv cp, iv 2, iv x0, iv x1, iv y0, iv y1, rv ca, rv cb, rv a9, rv a138, iv kd, rv a290, .unset] [(.int 2)]))
              refine Way.by (fun _ k => XS.iload X334.here hx rfl (hb hby at_259) rfl k) ?_
              show Way _ _ _ _ (T318.setTop (mkF m 261 #[iv p0, iv p1, iv p2, iv p3, iv p4, iv 2, iv cp, iv 2, iv x0, iv x1, iv y0, iv y1, rv ca, rv cb, rv a9, rv a138, iv kd, rv a290, .unset] [(.int 2), (.int 2)]))
              have b607 : (2 : Int32) = (2 : Int32) := by decide
              refine Way.by (fun _ k => XS.icmpNo X334.here hx rfl (hb hby at_261) rfl (teq b607).2 k) ?_
              show Way _ _ _ _ (T318.setTop (mkF m 264 #[iv p0, iv p1, iv p2, iv p3, iv p4, iv 2, iv cp, iv 2, iv x0, iv x1, iv y0, iv y1, rv ca, rv cb, rv a9, rv a138, iv kd, rv a290, .unset] []))
              refine Way.by (fun _ k => XS.iload X334.here hx rfl (hb hby at_264) rfl k) ?_
              show Way _ _ _ _ (T318.setTop (mkF m 266 #[iv p0, iv p1, iv p2, iv p3, iv p4, iv 2, iv cp, iv 2, iv x0, iv x1, iv y0, iv y1, rv ca, rv cb, rv a9, rv a138, iv kd, rv a290, .unset] [(.int x0)]))
              refine Way.by (fun _ k => XS.iload X334.here hx rfl (hb hby at_266) rfl k) ?_
              show Way _ _ _ _ (T318.setTop (mkF m 268 #[iv p0, iv p1, iv p2, iv p3, iv p4, iv 2, iv cp, iv 2, iv x0, iv x1, iv y0, iv y1, rv ca, rv cb, rv a9, rv a138, iv kd, rv a290, .unset] [(.int y0), (.int x0)]))
              have b608 : x0 = y0 := h0
              refine Way.by (fun _ k => XS.icmpNo X334.here hx rfl (hb hby at_268) rfl (teq b608).2 k) ?_
              show Way _ _ _ _ (T318.setTop (mkF m 271 #[iv p0, iv p1, iv p2, iv p3, iv p4, iv 2, iv cp, iv 2, iv x0, iv x1, iv y0, iv y1, rv ca, rv cb, rv a9, rv a138, iv kd, rv a290, .unset] []))
              refine Way.by (fun _ k => XS.iload X334.here hx rfl (hb hby at_271) rfl k) ?_
              show Way _ _ _ _ (T318.setTop (mkF m 273 #[iv p0, iv p1, iv p2, iv p3, iv p4, iv 2, iv cp, iv 2, iv x0, iv x1, iv y0, iv y1, rv ca, rv cb, rv a9, rv a138, iv kd, rv a290, .unset] [(.int 2)]))
              refine Way.by (fun _ k => XS.iconst X334.here hx rfl (hb hby at_273) k) ?_
              show Way _ _ _ _ (T318.setTop (mkF m 274 #[iv p0, iv p1, iv p2, iv p3, iv p4, iv 2, iv cp, iv 2, iv x0, iv x1, iv y0, iv y1, rv ca, rv cb, rv a9, rv a138, iv kd, rv a290, .unset] [(.int 1), (.int 2)]))
              have b609 : ¬ (2 : Int32) = (1 : Int32) := by decide
              refine Way.by (fun _ k => XS.icmpNo X334.here hx rfl (hb hby at_274) rfl (feq b609).1 k) ?_
              show Way _ _ _ _ (T318.setTop (mkF m 277 #[iv p0, iv p1, iv p2, iv p3, iv p4, iv 2, iv cp, iv 2, iv x0, iv x1, iv y0, iv y1, rv ca, rv cb, rv a9, rv a138, iv kd, rv a290, .unset] []))
              refine Way.by (fun _ k => XS.iload X334.here hx rfl (hb hby at_277) rfl k) ?_
              show Way _ _ _ _ (T318.setTop (mkF m 279 #[iv p0, iv p1, iv p2, iv p3, iv p4, iv 2, iv cp, iv 2, iv x0, iv x1, iv y0, iv y1, rv ca, rv cb, rv a9, rv a138, iv kd, rv a290, .unset] [(.int x1)]))
              refine Way.by (fun _ k => XS.iload X334.here hx rfl (hb hby at_279) rfl k) ?_
              show Way _ _ _ _ (T318.setTop (mkF m 281 #[iv p0, iv p1, iv p2, iv p3, iv p4, iv 2, iv cp, iv 2, iv x0, iv x1, iv y0, iv y1, rv ca, rv cb, rv a9, rv a138, iv kd, rv a290, .unset] [(.int y1), (.int x1)]))
              have b610 : ¬ x1 = y1 := h1
              refine Way.by (fun _ k => XS.icmpYes X334.here hx rfl (pc0 := 281) (pc' := 288) rfl (hb hby at_281) rfl (feq b610).2 (by decide) (by decide) k) ?_
              show Way _ _ _ _ (T318.setTop (mkF m 288 #[iv p0, iv p1, iv p2, iv p3, iv p4, iv 2, iv cp, iv 2, iv x0, iv x1, iv y0, iv y1, rv ca, rv cb, rv a9, rv a138, iv kd, rv a290, .unset] []))
              refine Way.by (fun _ k => XS.iconst X334.here hx rfl (hb hby at_288) k) ?_
              show Way _ _ _ _ (T318.setTop (mkF m 289 #[iv p0, iv p1, iv p2, iv p3, iv p4, iv 2, iv cp, iv 2, iv x0, iv x1, iv y0, iv y1, rv ca, rv cb, rv a9, rv a138, iv kd, rv a290, .unset] [(.int 0)]))
              refine Way.by (fun _ k => XS.istore X334.here hx rfl (hb hby at_289) rfl (l' := #[iv p0, iv p1, iv p2, iv p3, iv p4, iv 2, iv cp, iv 2, iv x0, iv x1, iv y0, iv y1, rv ca, rv cb, rv a9, rv a138, iv kd, rv a290, iv 0]) rfl k) ?_
              show Way _ _ _ _ (T318.setTop (mkF m 291 #[iv p0, iv p1, iv p2, iv p3, iv p4, iv 2, iv cp, iv 2, iv x0, iv x1, iv y0, iv y1, rv ca, rv cb, rv a9, rv a138, iv kd, rv a290, iv 0] []))
              refine Way.by (fun _ k => XS.aload X334.here hx rfl (hb hby at_291) rfl rfl k) ?_
              show Way _ _ _ _ (T318.setTop (mkF m 293 #[iv p0, iv p1, iv p2, iv p3, iv p4, iv 2, iv cp, iv 2, iv x0, iv x1, iv y0, iv y1, rv ca, rv cb, rv a9, rv a138, iv kd, rv a290, iv 0] [(.ref a9)]))
              refine Way.by (fun _ k => XS.aload X334.here hx rfl (hb hby at_293) rfl rfl k) ?_
              show Way _ _ _ _ (T318.setTop (mkF m 295 #[iv p0, iv p1, iv p2, iv p3, iv p4, iv 2, iv cp, iv 2, iv x0, iv x1, iv y0, iv y1, rv ca, rv cb, rv a9, rv a138, iv kd, rv a290, iv 0] [(.ref a290), (.ref a9)]))
              obtain ⟨cq627, kq628, qa629, qb630, qc631⟩ := isOf hZ336 rfl E347
              obtain ⟨_, _, ⟨T611, L613, k614, n615⟩, -, X612, ⟨Lc616, hQ617, l618, y619, z620⟩, st621⟩ := X334.virtualBack hx (y := (⟨"com/example/deduct/deduct/model/ItemId", "equals", "(Ljava/lang/Object;)Z"⟩ : MethodName)) (z := (⟨"com/example/deduct/deduct/model/ItemId", "equals", "(Ljava/lang/Object;)Z"⟩ : MethodName)) hown337 (mvT hZ336 (tw hw 101 rfl)) (mvT hZ336 (tw hw 102 rfl)) (notFace_of_selects (args := #[]) (mvT hZ336 (tw hw 104 rfl))) (mvT hZ336 (tw hw 104 rfl)) (mvT hZ336 (tw hw 103 rfl)) (by decide) (backOf (W := 0) (rmEI l Z a0 hw [] a9 a290 a34 x_t75 a138 x_t183 A B (0 : Int32) T318.heap n0 Z354 F_0340 F350 F_1341 S349 S352 (by rw [qA, qB]; simp [h1, Ne.symm h1]) O355 SV) hZ336 (tw hw 105 rfl) (tw hw 8 rfl) (by decide) (by decide)) qa629 qc631 (g := (mkF m 295 #[iv p0, iv p1, iv p2, iv p3, iv p4, iv 2, iv cp, iv 2, iv x0, iv x1, iv y0, iv y1, rv ca, rv cb, rv a9, rv a138, iv kd, rv a290, iv 0] [(.ref a290), (.ref a9)])) rfl (by rw [hml]; rfl) (Steps.refl _) (argsL := [(.ref a290)]) (rest := []) (lenOf pdEI rfl) rfl (leW rfl) (hb hby at_295) (fun _ _ => ⟨rfl, rfl, (leB rfl), (leB rfl)⟩)
              dsimp only [Pt.U, Pt.locs, Pt.cells, Pt.slots] at X612 l618 y619 z620 st621 hQ617
              subst l618 y619 z620
              obtain ⟨rfl, N632, e623⟩ := hQ617
              have N622 := Fr.app N329 N632
              refine Way.to st621 ?_
              show Way _ _ _ _ (T611.setTop (mkF m 298 #[iv p0, iv p1, iv p2, iv p3, iv p4, iv 2, iv cp, iv 2, iv x0, iv x1, iv y0, iv y1, rv ca, rv cb, rv a9, rv a138, iv kd, rv a290, iv 0] [(.int 0)]))
              refine Way.by (fun _ k => XS.iload X612.here hx rfl (hb hby at_298) rfl k) ?_
              show Way _ _ _ _ (T611.setTop (mkF m 300 #[iv p0, iv p1, iv p2, iv p3, iv p4, iv 2, iv cp, iv 2, iv x0, iv x1, iv y0, iv y1, rv ca, rv cb, rv a9, rv a138, iv kd, rv a290, iv 0] [(.int 0), (.int 0)]))
              have b634 : (0 : Int32) = (0 : Int32) := by decide
              refine Way.by (fun _ k => XS.icmpNo X612.here hx rfl (hb hby at_300) rfl (teq b634).2 k) ?_
              show Way _ _ _ _ (T611.setTop (mkF m 303 #[iv p0, iv p1, iv p2, iv p3, iv p4, iv 2, iv cp, iv 2, iv x0, iv x1, iv y0, iv y1, rv ca, rv cb, rv a9, rv a138, iv kd, rv a290, iv 0] []))
              refine Way.by (fun _ k => XS.aload X612.here hx rfl (hb hby at_303) rfl rfl k) ?_
              show Way _ _ _ _ (T611.setTop (mkF m 305 #[iv p0, iv p1, iv p2, iv p3, iv p4, iv 2, iv cp, iv 2, iv x0, iv x1, iv y0, iv y1, rv ca, rv cb, rv a9, rv a138, iv kd, rv a290, iv 0] [(.ref a290)]))
              refine Way.by (fun _ k => XS.aload X612.here hx rfl (hb hby at_305) rfl rfl k) ?_
              show Way _ _ _ _ (T611.setTop (mkF m 307 #[iv p0, iv p1, iv p2, iv p3, iv p4, iv 2, iv cp, iv 2, iv x0, iv x1, iv y0, iv y1, rv ca, rv cb, rv a9, rv a138, iv kd, rv a290, iv 0] [(.ref a9), (.ref a290)]))
              obtain ⟨cq651, kq652, qa653, qb654, qc655⟩ := isOf hZ336 e623 F_0340
              obtain ⟨_, _, ⟨T635, L637, k638, n639⟩, -, X636, ⟨Lc640, hQ641, l642, y643, z644⟩, st645⟩ := X612.virtualBack hx (y := (⟨"com/example/deduct/deduct/model/ItemId", "equals", "(Ljava/lang/Object;)Z"⟩ : MethodName)) (z := (⟨"com/example/deduct/deduct/model/ItemId", "equals", "(Ljava/lang/Object;)Z"⟩ : MethodName)) hown337 (mvT hZ336 (tw hw 101 rfl)) (mvT hZ336 (tw hw 102 rfl)) (notFace_of_selects (args := #[]) (mvT hZ336 (tw hw 104 rfl))) (mvT hZ336 (tw hw 104 rfl)) (mvT hZ336 (tw hw 103 rfl)) (by decide) (backOf (W := 0) (rmEI l Z a0 hw [] a290 a9 a138 x_t183 a34 x_t75 B A (0 : Int32) T318.heap n0 Z354 E347 F_1341 F350 S352 S349 (by rw [qA, qB]; simp [h1, Ne.symm h1]) O355 SV) hZ336 (tw hw 105 rfl) (tw hw 8 rfl) (by decide) (by decide)) qa653 qc655 (g := (mkF m 307 #[iv p0, iv p1, iv p2, iv p3, iv p4, iv 2, iv cp, iv 2, iv x0, iv x1, iv y0, iv y1, rv ca, rv cb, rv a9, rv a138, iv kd, rv a290, iv 0] [(.ref a9), (.ref a290)])) rfl (by rw [hml]; rfl) (Steps.refl _) (argsL := [(.ref a9)]) (rest := []) (lenOf pdEI rfl) rfl (leW rfl) (hb hby at_307) (fun _ _ => ⟨rfl, e623, (leB rfl), (leB rfl)⟩)
              dsimp only [Pt.U, Pt.locs, Pt.cells, Pt.slots] at X636 l642 y643 z644 st645 hQ641
              subst l642 y643 z644
              obtain ⟨rfl, N656, e647⟩ := hQ641
              have N646 := Fr.app N622 N656
              refine Way.to st645 ?_
              show Way _ _ _ _ (T635.setTop (mkF m 310 #[iv p0, iv p1, iv p2, iv p3, iv p4, iv 2, iv cp, iv 2, iv x0, iv x1, iv y0, iv y1, rv ca, rv cb, rv a9, rv a138, iv kd, rv a290, iv 0] [(.int 0)]))
              refine Way.by (fun _ k => XS.iload X636.here hx rfl (hb hby at_310) rfl k) ?_
              show Way _ _ _ _ (T635.setTop (mkF m 312 #[iv p0, iv p1, iv p2, iv p3, iv p4, iv 2, iv cp, iv 2, iv x0, iv x1, iv y0, iv y1, rv ca, rv cb, rv a9, rv a138, iv kd, rv a290, iv 0] [(.int 0), (.int 0)]))
              have b658 : (0 : Int32) = (0 : Int32) := by decide
              refine Way.by (fun _ k => XS.icmpNo X636.here hx rfl (hb hby at_312) rfl (teq b658).2 k) ?_
              show Way _ _ _ _ (T635.setTop (mkF m 315 #[iv p0, iv p1, iv p2, iv p3, iv p4, iv 2, iv cp, iv 2, iv x0, iv x1, iv y0, iv y1, rv ca, rv cb, rv a9, rv a138, iv kd, rv a290, iv 0] []))
              refine Way.by (fun _ k => XS.iconst X636.here hx rfl (hb hby at_315) k) ?_
              show Way _ _ _ _ (T635.setTop (mkF m 316 #[iv p0, iv p1, iv p2, iv p3, iv p4, iv 2, iv cp, iv 2, iv x0, iv x1, iv y0, iv y1, rv ca, rv cb, rv a9, rv a138, iv kd, rv a290, iv 0] [(.int 1)]))
              refine Way.by (fun _ k => XS.goto X636.here hx rfl (pc0 := 316) (pc' := 320) rfl (hb hby at_316) (by decide) (by decide) k) ?_
              show Way _ _ _ _ (T635.setTop (mkF m 320 #[iv p0, iv p1, iv p2, iv p3, iv p4, iv 2, iv cp, iv 2, iv x0, iv x1, iv y0, iv y1, rv ca, rv cb, rv a9, rv a138, iv kd, rv a290, iv 0] [(.int 1)]))
              refine Way.retW (v := (some (.int (nar .boolean (1 : Int32))))) X636 hS335 (by rw [e647]; exact (Nat.le_refl _)) hlk (fun h => by rw [Bd.returns] at h; cases h) (fun fs hr => retN X636 hx (t := .boolean) Bd.returns (by simp) (hb hby at_320) hr) ?_ (by decide) (by decide)
              show Q0 n0 _ T635.heap _
              rw [e647]
              exact ⟨rfl, N646⟩
          · skip
            show Way _ _ _ _ (T318.setTop (mkF m 257 #[iv p0, iv p1, iv p2, iv p3, iv p4, iv 2, iv cp, iv 2, iv x0, iv x1, iv y0, iv y1, rv ca, rv cb, rv a9, rv a138, iv kd, rv a290, .unset] []))
            refine Way.by (fun _ k => XS.iload X334.here hx rfl (hb hby at_257) rfl k) ?_
            show Way _ _ _ _ (T318.setTop (mkF m 259 #[iv p0, iv p1, iv p2, iv p3, iv p4, iv 2, iv cp, iv 2, iv x0, iv x1, iv y0, iv y1, rv ca, rv cb, rv a9, rv a138, iv kd, rv a290, .unset] [(.int 2)]))
            refine Way.by (fun _ k => XS.iload X334.here hx rfl (hb hby at_259) rfl k) ?_
            show Way _ _ _ _ (T318.setTop (mkF m 261 #[iv p0, iv p1, iv p2, iv p3, iv p4, iv 2, iv cp, iv 2, iv x0, iv x1, iv y0, iv y1, rv ca, rv cb, rv a9, rv a138, iv kd, rv a290, .unset] [(.int 2), (.int 2)]))
            have b659 : (2 : Int32) = (2 : Int32) := by decide
            refine Way.by (fun _ k => XS.icmpNo X334.here hx rfl (hb hby at_261) rfl (teq b659).2 k) ?_
            show Way _ _ _ _ (T318.setTop (mkF m 264 #[iv p0, iv p1, iv p2, iv p3, iv p4, iv 2, iv cp, iv 2, iv x0, iv x1, iv y0, iv y1, rv ca, rv cb, rv a9, rv a138, iv kd, rv a290, .unset] []))
            refine Way.by (fun _ k => XS.iload X334.here hx rfl (hb hby at_264) rfl k) ?_
            show Way _ _ _ _ (T318.setTop (mkF m 266 #[iv p0, iv p1, iv p2, iv p3, iv p4, iv 2, iv cp, iv 2, iv x0, iv x1, iv y0, iv y1, rv ca, rv cb, rv a9, rv a138, iv kd, rv a290, .unset] [(.int x0)]))
            refine Way.by (fun _ k => XS.iload X334.here hx rfl (hb hby at_266) rfl k) ?_
            show Way _ _ _ _ (T318.setTop (mkF m 268 #[iv p0, iv p1, iv p2, iv p3, iv p4, iv 2, iv cp, iv 2, iv x0, iv x1, iv y0, iv y1, rv ca, rv cb, rv a9, rv a138, iv kd, rv a290, .unset] [(.int y0), (.int x0)]))
            have b660 : ¬ x0 = y0 := h0
            refine Way.by (fun _ k => XS.icmpYes X334.here hx rfl (pc0 := 268) (pc' := 288) rfl (hb hby at_268) rfl (feq b660).2 (by decide) (by decide) k) ?_
            show Way _ _ _ _ (T318.setTop (mkF m 288 #[iv p0, iv p1, iv p2, iv p3, iv p4, iv 2, iv cp, iv 2, iv x0, iv x1, iv y0, iv y1, rv ca, rv cb, rv a9, rv a138, iv kd, rv a290, .unset] []))
            refine Way.by (fun _ k => XS.iconst X334.here hx rfl (hb hby at_288) k) ?_
            show Way _ _ _ _ (T318.setTop (mkF m 289 #[iv p0, iv p1, iv p2, iv p3, iv p4, iv 2, iv cp, iv 2, iv x0, iv x1, iv y0, iv y1, rv ca, rv cb, rv a9, rv a138, iv kd, rv a290, .unset] [(.int 0)]))
            refine Way.by (fun _ k => XS.istore X334.here hx rfl (hb hby at_289) rfl (l' := #[iv p0, iv p1, iv p2, iv p3, iv p4, iv 2, iv cp, iv 2, iv x0, iv x1, iv y0, iv y1, rv ca, rv cb, rv a9, rv a138, iv kd, rv a290, iv 0]) rfl k) ?_
            show Way _ _ _ _ (T318.setTop (mkF m 291 #[iv p0, iv p1, iv p2, iv p3, iv p4, iv 2, iv cp, iv 2, iv x0, iv x1, iv y0, iv y1, rv ca, rv cb, rv a9, rv a138, iv kd, rv a290, iv 0] []))
            refine Way.by (fun _ k => XS.aload X334.here hx rfl (hb hby at_291) rfl rfl k) ?_
            show Way _ _ _ _ (T318.setTop (mkF m 293 #[iv p0, iv p1, iv p2, iv p3, iv p4, iv 2, iv cp, iv 2, iv x0, iv x1, iv y0, iv y1, rv ca, rv cb, rv a9, rv a138, iv kd, rv a290, iv 0] [(.ref a9)]))
            refine Way.by (fun _ k => XS.aload X334.here hx rfl (hb hby at_293) rfl rfl k) ?_
            show Way _ _ _ _ (T318.setTop (mkF m 295 #[iv p0, iv p1, iv p2, iv p3, iv p4, iv 2, iv cp, iv 2, iv x0, iv x1, iv y0, iv y1, rv ca, rv cb, rv a9, rv a138, iv kd, rv a290, iv 0] [(.ref a290), (.ref a9)]))
            obtain ⟨cq677, kq678, qa679, qb680, qc681⟩ := isOf hZ336 rfl E347
            obtain ⟨_, _, ⟨T661, L663, k664, n665⟩, -, X662, ⟨Lc666, hQ667, l668, y669, z670⟩, st671⟩ := X334.virtualBack hx (y := (⟨"com/example/deduct/deduct/model/ItemId", "equals", "(Ljava/lang/Object;)Z"⟩ : MethodName)) (z := (⟨"com/example/deduct/deduct/model/ItemId", "equals", "(Ljava/lang/Object;)Z"⟩ : MethodName)) hown337 (mvT hZ336 (tw hw 101 rfl)) (mvT hZ336 (tw hw 102 rfl)) (notFace_of_selects (args := #[]) (mvT hZ336 (tw hw 104 rfl))) (mvT hZ336 (tw hw 104 rfl)) (mvT hZ336 (tw hw 103 rfl)) (by decide) (backOf (W := 0) (rmEI l Z a0 hw [] a9 a290 a34 x_t75 a138 x_t183 A B (0 : Int32) T318.heap n0 Z354 F_0340 F350 F_1341 S349 S352 (by rw [qA, qB]; simp [h0, Ne.symm h0]) O355 SV) hZ336 (tw hw 105 rfl) (tw hw 8 rfl) (by decide) (by decide)) qa679 qc681 (g := (mkF m 295 #[iv p0, iv p1, iv p2, iv p3, iv p4, iv 2, iv cp, iv 2, iv x0, iv x1, iv y0, iv y1, rv ca, rv cb, rv a9, rv a138, iv kd, rv a290, iv 0] [(.ref a290), (.ref a9)])) rfl (by rw [hml]; rfl) (Steps.refl _) (argsL := [(.ref a290)]) (rest := []) (lenOf pdEI rfl) rfl (leW rfl) (hb hby at_295) (fun _ _ => ⟨rfl, rfl, (leB rfl), (leB rfl)⟩)
            dsimp only [Pt.U, Pt.locs, Pt.cells, Pt.slots] at X662 l668 y669 z670 st671 hQ667
            subst l668 y669 z670
            obtain ⟨rfl, N682, e673⟩ := hQ667
            have N672 := Fr.app N329 N682
            refine Way.to st671 ?_
            show Way _ _ _ _ (T661.setTop (mkF m 298 #[iv p0, iv p1, iv p2, iv p3, iv p4, iv 2, iv cp, iv 2, iv x0, iv x1, iv y0, iv y1, rv ca, rv cb, rv a9, rv a138, iv kd, rv a290, iv 0] [(.int 0)]))
            refine Way.by (fun _ k => XS.iload X662.here hx rfl (hb hby at_298) rfl k) ?_
            show Way _ _ _ _ (T661.setTop (mkF m 300 #[iv p0, iv p1, iv p2, iv p3, iv p4, iv 2, iv cp, iv 2, iv x0, iv x1, iv y0, iv y1, rv ca, rv cb, rv a9, rv a138, iv kd, rv a290, iv 0] [(.int 0), (.int 0)]))
            have b684 : (0 : Int32) = (0 : Int32) := by decide
            refine Way.by (fun _ k => XS.icmpNo X662.here hx rfl (hb hby at_300) rfl (teq b684).2 k) ?_
            show Way _ _ _ _ (T661.setTop (mkF m 303 #[iv p0, iv p1, iv p2, iv p3, iv p4, iv 2, iv cp, iv 2, iv x0, iv x1, iv y0, iv y1, rv ca, rv cb, rv a9, rv a138, iv kd, rv a290, iv 0] []))
            refine Way.by (fun _ k => XS.aload X662.here hx rfl (hb hby at_303) rfl rfl k) ?_
            show Way _ _ _ _ (T661.setTop (mkF m 305 #[iv p0, iv p1, iv p2, iv p3, iv p4, iv 2, iv cp, iv 2, iv x0, iv x1, iv y0, iv y1, rv ca, rv cb, rv a9, rv a138, iv kd, rv a290, iv 0] [(.ref a290)]))
            refine Way.by (fun _ k => XS.aload X662.here hx rfl (hb hby at_305) rfl rfl k) ?_
            show Way _ _ _ _ (T661.setTop (mkF m 307 #[iv p0, iv p1, iv p2, iv p3, iv p4, iv 2, iv cp, iv 2, iv x0, iv x1, iv y0, iv y1, rv ca, rv cb, rv a9, rv a138, iv kd, rv a290, iv 0] [(.ref a9), (.ref a290)]))
            obtain ⟨cq701, kq702, qa703, qb704, qc705⟩ := isOf hZ336 e673 F_0340
            obtain ⟨_, _, ⟨T685, L687, k688, n689⟩, -, X686, ⟨Lc690, hQ691, l692, y693, z694⟩, st695⟩ := X662.virtualBack hx (y := (⟨"com/example/deduct/deduct/model/ItemId", "equals", "(Ljava/lang/Object;)Z"⟩ : MethodName)) (z := (⟨"com/example/deduct/deduct/model/ItemId", "equals", "(Ljava/lang/Object;)Z"⟩ : MethodName)) hown337 (mvT hZ336 (tw hw 101 rfl)) (mvT hZ336 (tw hw 102 rfl)) (notFace_of_selects (args := #[]) (mvT hZ336 (tw hw 104 rfl))) (mvT hZ336 (tw hw 104 rfl)) (mvT hZ336 (tw hw 103 rfl)) (by decide) (backOf (W := 0) (rmEI l Z a0 hw [] a290 a9 a138 x_t183 a34 x_t75 B A (0 : Int32) T318.heap n0 Z354 E347 F_1341 F350 S352 S349 (by rw [qA, qB]; simp [h0, Ne.symm h0]) O355 SV) hZ336 (tw hw 105 rfl) (tw hw 8 rfl) (by decide) (by decide)) qa703 qc705 (g := (mkF m 307 #[iv p0, iv p1, iv p2, iv p3, iv p4, iv 2, iv cp, iv 2, iv x0, iv x1, iv y0, iv y1, rv ca, rv cb, rv a9, rv a138, iv kd, rv a290, iv 0] [(.ref a9), (.ref a290)])) rfl (by rw [hml]; rfl) (Steps.refl _) (argsL := [(.ref a9)]) (rest := []) (lenOf pdEI rfl) rfl (leW rfl) (hb hby at_307) (fun _ _ => ⟨rfl, e673, (leB rfl), (leB rfl)⟩)
            dsimp only [Pt.U, Pt.locs, Pt.cells, Pt.slots] at X686 l692 y693 z694 st695 hQ691
            subst l692 y693 z694
            obtain ⟨rfl, N706, e697⟩ := hQ691
            have N696 := Fr.app N672 N706
            refine Way.to st695 ?_
            show Way _ _ _ _ (T685.setTop (mkF m 310 #[iv p0, iv p1, iv p2, iv p3, iv p4, iv 2, iv cp, iv 2, iv x0, iv x1, iv y0, iv y1, rv ca, rv cb, rv a9, rv a138, iv kd, rv a290, iv 0] [(.int 0)]))
            refine Way.by (fun _ k => XS.iload X686.here hx rfl (hb hby at_310) rfl k) ?_
            show Way _ _ _ _ (T685.setTop (mkF m 312 #[iv p0, iv p1, iv p2, iv p3, iv p4, iv 2, iv cp, iv 2, iv x0, iv x1, iv y0, iv y1, rv ca, rv cb, rv a9, rv a138, iv kd, rv a290, iv 0] [(.int 0), (.int 0)]))
            have b708 : (0 : Int32) = (0 : Int32) := by decide
            refine Way.by (fun _ k => XS.icmpNo X686.here hx rfl (hb hby at_312) rfl (teq b708).2 k) ?_
            show Way _ _ _ _ (T685.setTop (mkF m 315 #[iv p0, iv p1, iv p2, iv p3, iv p4, iv 2, iv cp, iv 2, iv x0, iv x1, iv y0, iv y1, rv ca, rv cb, rv a9, rv a138, iv kd, rv a290, iv 0] []))
            refine Way.by (fun _ k => XS.iconst X686.here hx rfl (hb hby at_315) k) ?_
            show Way _ _ _ _ (T685.setTop (mkF m 316 #[iv p0, iv p1, iv p2, iv p3, iv p4, iv 2, iv cp, iv 2, iv x0, iv x1, iv y0, iv y1, rv ca, rv cb, rv a9, rv a138, iv kd, rv a290, iv 0] [(.int 1)]))
            refine Way.by (fun _ k => XS.goto X686.here hx rfl (pc0 := 316) (pc' := 320) rfl (hb hby at_316) (by decide) (by decide) k) ?_
            show Way _ _ _ _ (T685.setTop (mkF m 320 #[iv p0, iv p1, iv p2, iv p3, iv p4, iv 2, iv cp, iv 2, iv x0, iv x1, iv y0, iv y1, rv ca, rv cb, rv a9, rv a138, iv kd, rv a290, iv 0] [(.int 1)]))
            refine Way.retW (v := (some (.int (nar .boolean (1 : Int32))))) X686 hS335 (by rw [e697]; exact (Nat.le_refl _)) hlk (fun h => by rw [Bd.returns] at h; cases h) (fun fs hr => retN X686 hx (t := .boolean) Bd.returns (by simp) (hb hby at_320) hr) ?_ (by decide) (by decide)
            show Q0 n0 _ T685.heap _
            rw [e697]
            exact ⟨rfl, N696⟩
theorem pd0 : parseMethodDescriptor "(IIIII)Z" = some ⟨[.int, .int, .int, .int, .int], some .boolean⟩ := by decide +kernel
set_option maxRecDepth 65536 in
set_option maxHeartbeats 40000000 in
theorem rm0 (l : Launch) (Z : State) (a0 : Array Value) (hw : ∀ d ∈ tables_1, d.before a0 Z = true) (ws : List Jvm.Cond) (p0 p1 p2 p3 p4 : Int32) (ur up ut : Addr) (h0 : Heap) (n0 : Nat) (Z0 : n0 ≤ h0.size) (O0 : Old Z n0 h0) (SV : own_Env Z) (SRULE : Sta Z Z.heap "com/example/deduct/deduct/model/ItemId" "RULE" "Lcom/example/deduct/deduct/model/NameRule;" (.ref ur)) (ERULE : Exa Z Z.heap ur "com/example/deduct/deduct/model/NameRule") (FPU : Fld Z Z.heap ur "com/example/deduct/deduct/model/NameRule" "punctuation" "Ljava/lang/String;" (.ref up)) (SPU : own_Str Z Z.heap up ut [46, 95, 45]) :
    MetFree l x (head1 (Jvm.Cond.code x code maxLocals ret :: ws) room_1) (fun aa U => aa = #[(.int p0), (.int p1), (.int p2), (.int p3), (.int p4)] ∧ Z.Warmed39 U.vm ∧ U.heap = h0) (fun _ _ _ _ _ => True) (fun _ U o U' => ∃ v L, o = .returned v ∧ Q0 n0 v U'.heap L ∧ ReturnedEndW U o U' L room_1.cells room_1.slots) := by
  refine MetFree.of_bodySF (plainFor_of_name pnK) hisR ?_
  intro p e s m args below meth c s₁ Bd hml0 hP hK
  obtain ⟨rfl, hZ, hh⟩ := hP
  have hx := Bd.exec
  have hby := Bd.bytes
  have hlk : meth.locks = false := BodyLoose.notSynchronized Bd
  have hml : c.maxLocals = 19 := hml0
  have hown : s.vm.findClass "com/example/deduct/deduct/model/ItemIdEqualsPinLaw" = some m.cls := findClass_of_methodNamed Bd.named
  have hnm := (name_of_methodNamed Bd.named Bd.method).1
  have X0 : Stand p l e room_1 s m #[(.int p0), (.int p1), (.int p2), (.int p3), (.int p4)] below meth c s₁ [] 0 0 := Stand.of_body Bd
  have e0 : s₁.heap = h0 := by rw [← hh, Bd.state]; rfl
  have N0 := Fr.nil n0
  have ef : entryFrame m #[(.int p0), (.int p1), (.int p2), (.int p3), (.int p4)] maxLocals = mkF m 0 #[iv p0, iv p1, iv p2, iv p3, iv p4, .unset, .unset, .unset, .unset, .unset, .unset, .unset, .unset, .unset, .unset, .unset, .unset, .unset, .unset] [] := by first | (simp [entryFrame, mkF, argsToLocals, Value.category, maxLocals]; done) | rfl
  have XW : Stand p l e room_1 (s.setVm s.vm) m #[(.int p0), (.int p1), (.int p2), (.int p3), (.int p4)] below meth c s₁ [] 0 0 := X0
  have hS0 : s.Since s.vm 0 := (State.WarmedH.refl s).since 0
  have hZ0 : Z.Warmed39 (s.setVm s.vm).vm := hZ
  have hown0 : (s.setVm s.vm).vm.findClass "com/example/deduct/deduct/model/ItemIdEqualsPinLaw" = some m.cls := hown
  have wS : ∀ d ∈ Bundle.stringAtoms, d.before a0 Z = true := fun d hd => hw d (own_wS d hd)
  show Way p.tables e below (KQW s (Q0 n0) room_1.cells room_1.slots) (s₁.setTop (entryFrame m #[(.int p0), (.int p1), (.int p2), (.int p3), (.int p4)] maxLocals))
  rw [ef]
  refine Way.by (fun _ k => XS.iconst XW.here hx rfl (hb hby at_0) k) ?_
  show Way _ _ _ _ (s₁.setTop (mkF m 1 #[iv p0, iv p1, iv p2, iv p3, iv p4, .unset, .unset, .unset, .unset, .unset, .unset, .unset, .unset, .unset, .unset, .unset, .unset, .unset, .unset] [(.int 1)]))
  refine Way.by (fun _ k => XS.iload XW.here hx rfl (hb hby at_1) rfl k) ?_
  show Way _ _ _ _ (s₁.setTop (mkF m 3 #[iv p0, iv p1, iv p2, iv p3, iv p4, .unset, .unset, .unset, .unset, .unset, .unset, .unset, .unset, .unset, .unset, .unset, .unset, .unset, .unset] [(.int p4), (.int 1)]))
  refine Way.by (fun _ k => XS.iconst XW.here hx rfl (hb hby at_3) k) ?_
  show Way _ _ _ _ (s₁.setTop (mkF m 4 #[iv p0, iv p1, iv p2, iv p3, iv p4, .unset, .unset, .unset, .unset, .unset, .unset, .unset, .unset, .unset, .unset, .unset, .unset, .unset, .unset] [(.int 1), (.int p4), (.int 1)]))
  refine Way.by (fun _ k => XS.iand XW.here hx rfl (hb hby at_4) rfl k) ?_
  show Way _ _ _ _ (s₁.setTop (mkF m 5 #[iv p0, iv p1, iv p2, iv p3, iv p4, .unset, .unset, .unset, .unset, .unset, .unset, .unset, .unset, .unset, .unset, .unset, .unset, .unset, .unset] [(.int (p4 &&& (1 : Int32))), (.int 1)]))
  refine Way.by (fun _ k => XS.iadd XW.here hx rfl (hb hby at_5) rfl k) ?_
  show Way _ _ _ _ (s₁.setTop (mkF m 6 #[iv p0, iv p1, iv p2, iv p3, iv p4, .unset, .unset, .unset, .unset, .unset, .unset, .unset, .unset, .unset, .unset, .unset, .unset, .unset, .unset] [(.int ((1 : Int32) + (p4 &&& (1 : Int32))))]))
  rcases and_one p4 with q1 | q1
  all_goals rw [q1]
  · skip
    show Way _ _ _ _ (s₁.setTop (mkF m 6 #[iv p0, iv p1, iv p2, iv p3, iv p4, .unset, .unset, .unset, .unset, .unset, .unset, .unset, .unset, .unset, .unset, .unset, .unset, .unset, .unset] [(.int 1)]))
    refine Way.by (fun _ k => XS.istore XW.here hx rfl (hb hby at_6) rfl (l' := #[iv p0, iv p1, iv p2, iv p3, iv p4, iv 1, .unset, .unset, .unset, .unset, .unset, .unset, .unset, .unset, .unset, .unset, .unset, .unset, .unset]) rfl k) ?_
    show Way _ _ _ _ (s₁.setTop (mkF m 8 #[iv p0, iv p1, iv p2, iv p3, iv p4, iv 1, .unset, .unset, .unset, .unset, .unset, .unset, .unset, .unset, .unset, .unset, .unset, .unset, .unset] []))
    refine Way.by (fun _ k => XS.iload XW.here hx rfl (hb hby at_8) rfl k) ?_
    show Way _ _ _ _ (s₁.setTop (mkF m 10 #[iv p0, iv p1, iv p2, iv p3, iv p4, iv 1, .unset, .unset, .unset, .unset, .unset, .unset, .unset, .unset, .unset, .unset, .unset, .unset, .unset] [(.int p4)]))
    refine Way.by (fun _ k => XS.iconst XW.here hx rfl (hb hby at_10) k) ?_
    show Way _ _ _ _ (s₁.setTop (mkF m 11 #[iv p0, iv p1, iv p2, iv p3, iv p4, iv 1, .unset, .unset, .unset, .unset, .unset, .unset, .unset, .unset, .unset, .unset, .unset, .unset, .unset] [(.int 2), (.int p4)]))
    refine Way.by (fun _ k => XT.ishr XW.here hx rfl (hb hby at_11) rfl k) ?_
    show Way _ _ _ _ (s₁.setTop (mkF m 12 #[iv p0, iv p1, iv p2, iv p3, iv p4, iv 1, .unset, .unset, .unset, .unset, .unset, .unset, .unset, .unset, .unset, .unset, .unset, .unset, .unset] [(.int (p4 >>> ((2 : Int32) &&& 31)))]))
    refine Way.by (fun _ k => XS.iconst XW.here hx rfl (hb hby at_12) k) ?_
    show Way _ _ _ _ (s₁.setTop (mkF m 13 #[iv p0, iv p1, iv p2, iv p3, iv p4, iv 1, .unset, .unset, .unset, .unset, .unset, .unset, .unset, .unset, .unset, .unset, .unset, .unset, .unset] [(.int 1), (.int (p4 >>> ((2 : Int32) &&& 31)))]))
    refine Way.by (fun _ k => XS.iand XW.here hx rfl (hb hby at_13) rfl k) ?_
    show Way _ _ _ _ (s₁.setTop (mkF m 14 #[iv p0, iv p1, iv p2, iv p3, iv p4, iv 1, .unset, .unset, .unset, .unset, .unset, .unset, .unset, .unset, .unset, .unset, .unset, .unset, .unset] [(.int ((p4 >>> ((2 : Int32) &&& 31)) &&& (1 : Int32)))]))
    by_cases b1 : ((p4 >>> ((2 : Int32) &&& 31)) &&& (1 : Int32)) = (0 : Int32)
    · skip
      refine Way.by (fun _ k => XS.ifYes XW.here hx rfl (pc0 := 14) (pc' := 21) rfl (hb hby at_14) rfl ((if0 .eq _).trans (teq b1).1) (by decide) (by decide) k) ?_
      show Way _ _ _ _ (s₁.setTop (mkF m 21 #[iv p0, iv p1, iv p2, iv p3, iv p4, iv 1, .unset, .unset, .unset, .unset, .unset, .unset, .unset, .unset, .unset, .unset, .unset, .unset, .unset] []))
      refine Way.by (fun _ k => XS.iconst XW.here hx rfl (hb hby at_21) k) ?_
      show Way _ _ _ _ (s₁.setTop (mkF m 22 #[iv p0, iv p1, iv p2, iv p3, iv p4, iv 1, .unset, .unset, .unset, .unset, .unset, .unset, .unset, .unset, .unset, .unset, .unset, .unset, .unset] [(.int 0)]))
      refine Way.by (fun _ k => XS.istore XW.here hx rfl (hb hby at_22) rfl (l' := #[iv p0, iv p1, iv p2, iv p3, iv p4, iv 1, iv 0, .unset, .unset, .unset, .unset, .unset, .unset, .unset, .unset, .unset, .unset, .unset, .unset]) rfl k) ?_
      show Way _ _ _ _ (s₁.setTop (mkF m 24 #[iv p0, iv p1, iv p2, iv p3, iv p4, iv 1, iv 0, .unset, .unset, .unset, .unset, .unset, .unset, .unset, .unset, .unset, .unset, .unset, .unset] []))
      refine Way.by (fun _ k => XS.iload XW.here hx rfl (hb hby at_24) rfl k) ?_
      show Way _ _ _ _ (s₁.setTop (mkF m 26 #[iv p0, iv p1, iv p2, iv p3, iv p4, iv 1, iv 0, .unset, .unset, .unset, .unset, .unset, .unset, .unset, .unset, .unset, .unset, .unset, .unset] [(.int 0)]))
      have b2 : (0 : Int32) = (0 : Int32) := by decide
      refine Way.by (fun _ k => XS.ifYes XW.here hx rfl (pc0 := 26) (pc' := 34) rfl (hb hby at_26) rfl ((if0 .eq _).trans (teq b2).1) (by decide) (by decide) k) ?_
      show Way _ _ _ _ (s₁.setTop (mkF m 34 #[iv p0, iv p1, iv p2, iv p3, iv p4, iv 1, iv 0, .unset, .unset, .unset, .unset, .unset, .unset, .unset, .unset, .unset, .unset, .unset, .unset] []))
      refine Way.by (fun _ k => XS.iconst XW.here hx rfl (hb hby at_34) k) ?_
      show Way _ _ _ _ (s₁.setTop (mkF m 35 #[iv p0, iv p1, iv p2, iv p3, iv p4, iv 1, iv 0, .unset, .unset, .unset, .unset, .unset, .unset, .unset, .unset, .unset, .unset, .unset, .unset] [(.int 1)]))
      refine Way.by (fun _ k => XS.iload XW.here hx rfl (hb hby at_35) rfl k) ?_
      show Way _ _ _ _ (s₁.setTop (mkF m 37 #[iv p0, iv p1, iv p2, iv p3, iv p4, iv 1, iv 0, .unset, .unset, .unset, .unset, .unset, .unset, .unset, .unset, .unset, .unset, .unset, .unset] [(.int p4), (.int 1)]))
      refine Way.by (fun _ k => XS.iconst XW.here hx rfl (hb hby at_37) k) ?_
      show Way _ _ _ _ (s₁.setTop (mkF m 38 #[iv p0, iv p1, iv p2, iv p3, iv p4, iv 1, iv 0, .unset, .unset, .unset, .unset, .unset, .unset, .unset, .unset, .unset, .unset, .unset, .unset] [(.int 1), (.int p4), (.int 1)]))
      refine Way.by (fun _ k => XT.ishr XW.here hx rfl (hb hby at_38) rfl k) ?_
      show Way _ _ _ _ (s₁.setTop (mkF m 39 #[iv p0, iv p1, iv p2, iv p3, iv p4, iv 1, iv 0, .unset, .unset, .unset, .unset, .unset, .unset, .unset, .unset, .unset, .unset, .unset, .unset] [(.int (p4 >>> ((1 : Int32) &&& 31))), (.int 1)]))
      refine Way.by (fun _ k => XS.iconst XW.here hx rfl (hb hby at_39) k) ?_
      show Way _ _ _ _ (s₁.setTop (mkF m 40 #[iv p0, iv p1, iv p2, iv p3, iv p4, iv 1, iv 0, .unset, .unset, .unset, .unset, .unset, .unset, .unset, .unset, .unset, .unset, .unset, .unset] [(.int 1), (.int (p4 >>> ((1 : Int32) &&& 31))), (.int 1)]))
      refine Way.by (fun _ k => XS.iand XW.here hx rfl (hb hby at_40) rfl k) ?_
      show Way _ _ _ _ (s₁.setTop (mkF m 41 #[iv p0, iv p1, iv p2, iv p3, iv p4, iv 1, iv 0, .unset, .unset, .unset, .unset, .unset, .unset, .unset, .unset, .unset, .unset, .unset, .unset] [(.int ((p4 >>> ((1 : Int32) &&& 31)) &&& (1 : Int32))), (.int 1)]))
      refine Way.by (fun _ k => XS.iadd XW.here hx rfl (hb hby at_41) rfl k) ?_
      show Way _ _ _ _ (s₁.setTop (mkF m 42 #[iv p0, iv p1, iv p2, iv p3, iv p4, iv 1, iv 0, .unset, .unset, .unset, .unset, .unset, .unset, .unset, .unset, .unset, .unset, .unset, .unset] [(.int ((1 : Int32) + ((p4 >>> ((1 : Int32) &&& 31)) &&& (1 : Int32))))]))
      rcases and_one (p4 >>> ((1 : Int32) &&& 31)) with q2 | q2
      all_goals rw [q2]
      · skip
        show Way _ _ _ _ (s₁.setTop (mkF m 42 #[iv p0, iv p1, iv p2, iv p3, iv p4, iv 1, iv 0, .unset, .unset, .unset, .unset, .unset, .unset, .unset, .unset, .unset, .unset, .unset, .unset] [(.int 1)]))
        refine Way.by (fun _ k => XS.istore XW.here hx rfl (hb hby at_42) rfl (l' := #[iv p0, iv p1, iv p2, iv p3, iv p4, iv 1, iv 0, iv 1, .unset, .unset, .unset, .unset, .unset, .unset, .unset, .unset, .unset, .unset, .unset]) rfl k) ?_
        show Way _ _ _ _ (s₁.setTop (mkF m 44 #[iv p0, iv p1, iv p2, iv p3, iv p4, iv 1, iv 0, iv 1, .unset, .unset, .unset, .unset, .unset, .unset, .unset, .unset, .unset, .unset, .unset] []))
        refine Way.by (fun _ k => XS.iloadN XW.here hx rfl (hb hby at_44) rfl k) ?_
        show Way _ _ _ _ (s₁.setTop (mkF m 45 #[iv p0, iv p1, iv p2, iv p3, iv p4, iv 1, iv 0, iv 1, .unset, .unset, .unset, .unset, .unset, .unset, .unset, .unset, .unset, .unset, .unset] [(.int p0)]))
        obtain ⟨_, _, ⟨T3, L5, k6, n7⟩, -, X4, ⟨Lc8, hQ9, l10, y11, z12⟩, st13⟩ := Jvm.LawKit.callS XW hx (y := (⟨"com/example/deduct/deduct/model/ItemIdEqualsPinLaw", "pick", "(I)C"⟩ : MethodName)) hown0 (mvT hZ0 (tw hw 0 rfl)) (mvT hZ0 (tw hw 1 rfl)) (mvT hZ0 (tw hw 2 rfl)) (mvT hZ0 (tw hw 3 rfl)) (by decide) (backOf (W := 0) (rmK l Z a0 hw [] p0 h0 n0 Z0 ) hZ0 (tw hw 3 rfl) (tw hw 2 rfl) (by decide) (by decide)) (g := (mkF m 45 #[iv p0, iv p1, iv p2, iv p3, iv p4, iv 1, iv 0, iv 1, .unset, .unset, .unset, .unset, .unset, .unset, .unset, .unset, .unset, .unset, .unset] [(.int p0)])) rfl (by rw [hml]; rfl) (argsL := [(.int p0)]) (rest := []) (lenOf pdK rfl) rfl (leW rfl) (hb hby at_45) (fun _ _ => ⟨rfl, e0, (leB rfl), (leB rfl)⟩)
        dsimp only [Pt.U, Pt.locs, Pt.cells, Pt.slots] at X4 l10 y11 z12 st13 hQ9
        subst l10 y11 z12
        obtain ⟨x_pv22, rfl, N19, e15, pu_OK21⟩ := hQ9
        have N14 := Fr.app N0 N19
        refine Way.by st13 ?_
        show Way _ _ _ _ (T3.setTop (mkF m 48 #[iv p0, iv p1, iv p2, iv p3, iv p4, iv 1, iv 0, iv 1, .unset, .unset, .unset, .unset, .unset, .unset, .unset, .unset, .unset, .unset, .unset] [(.int x_pv22)]))
        refine Way.by (fun _ k => XS.istore X4.here hx rfl (hb hby at_48) rfl (l' := #[iv p0, iv p1, iv p2, iv p3, iv p4, iv 1, iv 0, iv 1, iv x_pv22, .unset, .unset, .unset, .unset, .unset, .unset, .unset, .unset, .unset, .unset]) rfl k) ?_
        show Way _ _ _ _ (T3.setTop (mkF m 50 #[iv p0, iv p1, iv p2, iv p3, iv p4, iv 1, iv 0, iv 1, iv x_pv22, .unset, .unset, .unset, .unset, .unset, .unset, .unset, .unset, .unset, .unset] []))
        refine Way.by (fun _ k => XS.iloadN X4.here hx rfl (hb hby at_50) rfl k) ?_
        show Way _ _ _ _ (T3.setTop (mkF m 51 #[iv p0, iv p1, iv p2, iv p3, iv p4, iv 1, iv 0, iv 1, iv x_pv22, .unset, .unset, .unset, .unset, .unset, .unset, .unset, .unset, .unset, .unset] [(.int p1)]))
        obtain ⟨_, _, ⟨T23, L25, k26, n27⟩, -, X24, ⟨Lc28, hQ29, l30, y31, z32⟩, st33⟩ := Jvm.LawKit.callS X4 hx (y := (⟨"com/example/deduct/deduct/model/ItemIdEqualsPinLaw", "pick", "(I)C"⟩ : MethodName)) hown0 (mvT hZ0 (tw hw 0 rfl)) (mvT hZ0 (tw hw 1 rfl)) (mvT hZ0 (tw hw 2 rfl)) (mvT hZ0 (tw hw 3 rfl)) (by decide) (backOf (W := 0) (rmK l Z a0 hw [] p1 h0 n0 Z0 ) hZ0 (tw hw 3 rfl) (tw hw 2 rfl) (by decide) (by decide)) (g := (mkF m 51 #[iv p0, iv p1, iv p2, iv p3, iv p4, iv 1, iv 0, iv 1, iv x_pv22, .unset, .unset, .unset, .unset, .unset, .unset, .unset, .unset, .unset, .unset] [(.int p1)])) rfl (by rw [hml]; rfl) (argsL := [(.int p1)]) (rest := []) (lenOf pdK rfl) rfl (leW rfl) (hb hby at_51) (fun _ _ => ⟨rfl, e15, (leB rfl), (leB rfl)⟩)
        dsimp only [Pt.U, Pt.locs, Pt.cells, Pt.slots] at X24 l30 y31 z32 st33 hQ29
        subst l30 y31 z32
        obtain ⟨x_pv42, rfl, N39, e35, pu_OK41⟩ := hQ29
        have N34 := Fr.app N14 N39
        refine Way.by st33 ?_
        show Way _ _ _ _ (T23.setTop (mkF m 54 #[iv p0, iv p1, iv p2, iv p3, iv p4, iv 1, iv 0, iv 1, iv x_pv22, .unset, .unset, .unset, .unset, .unset, .unset, .unset, .unset, .unset, .unset] [(.int x_pv42)]))
        refine Way.by (fun _ k => XS.istore X24.here hx rfl (hb hby at_54) rfl (l' := #[iv p0, iv p1, iv p2, iv p3, iv p4, iv 1, iv 0, iv 1, iv x_pv22, iv x_pv42, .unset, .unset, .unset, .unset, .unset, .unset, .unset, .unset, .unset]) rfl k) ?_
        show Way _ _ _ _ (T23.setTop (mkF m 56 #[iv p0, iv p1, iv p2, iv p3, iv p4, iv 1, iv 0, iv 1, iv x_pv22, iv x_pv42, .unset, .unset, .unset, .unset, .unset, .unset, .unset, .unset, .unset] []))
        refine Way.by (fun _ k => XS.iload X24.here hx rfl (hb hby at_56) rfl k) ?_
        show Way _ _ _ _ (T23.setTop (mkF m 58 #[iv p0, iv p1, iv p2, iv p3, iv p4, iv 1, iv 0, iv 1, iv x_pv22, iv x_pv42, .unset, .unset, .unset, .unset, .unset, .unset, .unset, .unset, .unset] [(.int 0)]))
        have b43 : (0 : Int32) = (0 : Int32) := by decide
        refine Way.by (fun _ k => XS.ifYes X24.here hx rfl (pc0 := 58) (pc' := 66) rfl (hb hby at_58) rfl ((if0 .eq _).trans (teq b43).1) (by decide) (by decide) k) ?_
        show Way _ _ _ _ (T23.setTop (mkF m 66 #[iv p0, iv p1, iv p2, iv p3, iv p4, iv 1, iv 0, iv 1, iv x_pv22, iv x_pv42, .unset, .unset, .unset, .unset, .unset, .unset, .unset, .unset, .unset] []))
        refine Way.by (fun _ k => XS.iloadN X24.here hx rfl (hb hby at_66) rfl k) ?_
        show Way _ _ _ _ (T23.setTop (mkF m 67 #[iv p0, iv p1, iv p2, iv p3, iv p4, iv 1, iv 0, iv 1, iv x_pv22, iv x_pv42, .unset, .unset, .unset, .unset, .unset, .unset, .unset, .unset, .unset] [(.int p2)]))
        obtain ⟨_, _, ⟨T44, L46, k47, n48⟩, -, X45, ⟨Lc49, hQ50, l51, y52, z53⟩, st54⟩ := Jvm.LawKit.callS X24 hx (y := (⟨"com/example/deduct/deduct/model/ItemIdEqualsPinLaw", "pick", "(I)C"⟩ : MethodName)) hown0 (mvT hZ0 (tw hw 0 rfl)) (mvT hZ0 (tw hw 1 rfl)) (mvT hZ0 (tw hw 2 rfl)) (mvT hZ0 (tw hw 3 rfl)) (by decide) (backOf (W := 0) (rmK l Z a0 hw [] p2 h0 n0 Z0 ) hZ0 (tw hw 3 rfl) (tw hw 2 rfl) (by decide) (by decide)) (g := (mkF m 67 #[iv p0, iv p1, iv p2, iv p3, iv p4, iv 1, iv 0, iv 1, iv x_pv22, iv x_pv42, .unset, .unset, .unset, .unset, .unset, .unset, .unset, .unset, .unset] [(.int p2)])) rfl (by rw [hml]; rfl) (argsL := [(.int p2)]) (rest := []) (lenOf pdK rfl) rfl (leW rfl) (hb hby at_67) (fun _ _ => ⟨rfl, e35, (leB rfl), (leB rfl)⟩)
        dsimp only [Pt.U, Pt.locs, Pt.cells, Pt.slots] at X45 l51 y52 z53 st54 hQ50
        subst l51 y52 z53
        obtain ⟨x_pv63, rfl, N60, e56, pu_OK62⟩ := hQ50
        have N55 := Fr.app N34 N60
        refine Way.by st54 ?_
        show Way _ _ _ _ (T44.setTop (mkF m 70 #[iv p0, iv p1, iv p2, iv p3, iv p4, iv 1, iv 0, iv 1, iv x_pv22, iv x_pv42, .unset, .unset, .unset, .unset, .unset, .unset, .unset, .unset, .unset] [(.int x_pv63)]))
        refine Way.by (fun _ k => XS.istore X45.here hx rfl (hb hby at_70) rfl (l' := #[iv p0, iv p1, iv p2, iv p3, iv p4, iv 1, iv 0, iv 1, iv x_pv22, iv x_pv42, iv x_pv63, .unset, .unset, .unset, .unset, .unset, .unset, .unset, .unset]) rfl k) ?_
        show Way _ _ _ _ (T44.setTop (mkF m 72 #[iv p0, iv p1, iv p2, iv p3, iv p4, iv 1, iv 0, iv 1, iv x_pv22, iv x_pv42, iv x_pv63, .unset, .unset, .unset, .unset, .unset, .unset, .unset, .unset] []))
        refine Way.by (fun _ k => XS.iload X45.here hx rfl (hb hby at_72) rfl k) ?_
        show Way _ _ _ _ (T44.setTop (mkF m 74 #[iv p0, iv p1, iv p2, iv p3, iv p4, iv 1, iv 0, iv 1, iv x_pv22, iv x_pv42, iv x_pv63, .unset, .unset, .unset, .unset, .unset, .unset, .unset, .unset] [(.int 0)]))
        have b64 : (0 : Int32) = (0 : Int32) := by decide
        refine Way.by (fun _ k => XS.ifYes X45.here hx rfl (pc0 := 74) (pc' := 82) rfl (hb hby at_74) rfl ((if0 .eq _).trans (teq b64).1) (by decide) (by decide) k) ?_
        show Way _ _ _ _ (T44.setTop (mkF m 82 #[iv p0, iv p1, iv p2, iv p3, iv p4, iv 1, iv 0, iv 1, iv x_pv22, iv x_pv42, iv x_pv63, .unset, .unset, .unset, .unset, .unset, .unset, .unset, .unset] []))
        refine Way.by (fun _ k => XS.iloadN X45.here hx rfl (hb hby at_82) rfl k) ?_
        show Way _ _ _ _ (T44.setTop (mkF m 83 #[iv p0, iv p1, iv p2, iv p3, iv p4, iv 1, iv 0, iv 1, iv x_pv22, iv x_pv42, iv x_pv63, .unset, .unset, .unset, .unset, .unset, .unset, .unset, .unset] [(.int p3)]))
        obtain ⟨_, _, ⟨T65, L67, k68, n69⟩, -, X66, ⟨Lc70, hQ71, l72, y73, z74⟩, st75⟩ := Jvm.LawKit.callS X45 hx (y := (⟨"com/example/deduct/deduct/model/ItemIdEqualsPinLaw", "pick", "(I)C"⟩ : MethodName)) hown0 (mvT hZ0 (tw hw 0 rfl)) (mvT hZ0 (tw hw 1 rfl)) (mvT hZ0 (tw hw 2 rfl)) (mvT hZ0 (tw hw 3 rfl)) (by decide) (backOf (W := 0) (rmK l Z a0 hw [] p3 h0 n0 Z0 ) hZ0 (tw hw 3 rfl) (tw hw 2 rfl) (by decide) (by decide)) (g := (mkF m 83 #[iv p0, iv p1, iv p2, iv p3, iv p4, iv 1, iv 0, iv 1, iv x_pv22, iv x_pv42, iv x_pv63, .unset, .unset, .unset, .unset, .unset, .unset, .unset, .unset] [(.int p3)])) rfl (by rw [hml]; rfl) (argsL := [(.int p3)]) (rest := []) (lenOf pdK rfl) rfl (leW rfl) (hb hby at_83) (fun _ _ => ⟨rfl, e56, (leB rfl), (leB rfl)⟩)
        dsimp only [Pt.U, Pt.locs, Pt.cells, Pt.slots] at X66 l72 y73 z74 st75 hQ71
        subst l72 y73 z74
        obtain ⟨x_pv84, rfl, N81, e77, pu_OK83⟩ := hQ71
        have N76 := Fr.app N55 N81
        refine Way.by st75 ?_
        show Way _ _ _ _ (T65.setTop (mkF m 86 #[iv p0, iv p1, iv p2, iv p3, iv p4, iv 1, iv 0, iv 1, iv x_pv22, iv x_pv42, iv x_pv63, .unset, .unset, .unset, .unset, .unset, .unset, .unset, .unset] [(.int x_pv84)]))
        refine Way.by (fun _ k => XS.istore X66.here hx rfl (hb hby at_86) rfl (l' := #[iv p0, iv p1, iv p2, iv p3, iv p4, iv 1, iv 0, iv 1, iv x_pv22, iv x_pv42, iv x_pv63, iv x_pv84, .unset, .unset, .unset, .unset, .unset, .unset, .unset]) rfl k) ?_
        show Way _ _ _ _ (T65.setTop (mkF m 88 #[iv p0, iv p1, iv p2, iv p3, iv p4, iv 1, iv 0, iv 1, iv x_pv22, iv x_pv42, iv x_pv63, iv x_pv84, .unset, .unset, .unset, .unset, .unset, .unset, .unset] []))
        refine Way.by (fun _ k => XS.iload X66.here hx rfl (hb hby at_88) rfl k) ?_
        show Way _ _ _ _ (T65.setTop (mkF m 90 #[iv p0, iv p1, iv p2, iv p3, iv p4, iv 1, iv 0, iv 1, iv x_pv22, iv x_pv42, iv x_pv63, iv x_pv84, .unset, .unset, .unset, .unset, .unset, .unset, .unset] [(.int 1)]))
        refine Way.by (fun _ k => XS.iconst X66.here hx rfl (hb hby at_90) k) ?_
        show Way _ _ _ _ (T65.setTop (mkF m 91 #[iv p0, iv p1, iv p2, iv p3, iv p4, iv 1, iv 0, iv 1, iv x_pv22, iv x_pv42, iv x_pv63, iv x_pv84, .unset, .unset, .unset, .unset, .unset, .unset, .unset] [(.int 1), (.int 1)]))
        have b85 : (1 : Int32) = (1 : Int32) := by decide
        refine Way.by (fun _ k => XS.icmpNo X66.here hx rfl (hb hby at_91) rfl (teq b85).2 k) ?_
        show Way _ _ _ _ (T65.setTop (mkF m 94 #[iv p0, iv p1, iv p2, iv p3, iv p4, iv 1, iv 0, iv 1, iv x_pv22, iv x_pv42, iv x_pv63, iv x_pv84, .unset, .unset, .unset, .unset, .unset, .unset, .unset] []))
        refine Way.by (fun _ k => XS.iconst X66.here hx rfl (hb hby at_94) k) ?_
        show Way _ _ _ _ (T65.setTop (mkF m 95 #[iv p0, iv p1, iv p2, iv p3, iv p4, iv 1, iv 0, iv 1, iv x_pv22, iv x_pv42, iv x_pv63, iv x_pv84, .unset, .unset, .unset, .unset, .unset, .unset, .unset] [(.int 1)]))
        obtain ⟨T86, h87, kc88, X89, e90, E91, A92, st93⟩ := newP X66 hx hZ0 (tw hw 5 rfl) e77 (g := (mkF m 95 #[iv p0, iv p1, iv p2, iv p3, iv p4, iv 1, iv 0, iv 1, iv x_pv22, iv x_pv42, iv x_pv63, iv x_pv84, .unset, .unset, .unset, .unset, .unset, .unset, .unset] [(.int 1)])) rfl (hb hby at_95) rfl (by decide) (cap := 1) (by decide) (by decide) (by decide) (by decide)
        obtain ⟨a94, g95⟩ : ∃ z, z = h0.size := ⟨_, rfl⟩
        rw [← g95] at A92 st93
        have nw97 : n0 ≤ a94 := Nat.le_trans Z0 (Nat.le_of_eq g95.symm)
        have Z98 := Nat.le_trans Z0 E91.1
        have hk99 := Nat.le_trans (Nat.zero_le _) E91.1
        have O100 := O0.ext E91
        have V96 : Arv Z h87 a94 kc88 .char (1 : Int32) [] (.int 0) := Arv.new A92 (by decide)
        refine Way.by st93 ?_
        show Way _ _ _ _ (T86.setTop (mkF m 97 #[iv p0, iv p1, iv p2, iv p3, iv p4, iv 1, iv 0, iv 1, iv x_pv22, iv x_pv42, iv x_pv63, iv x_pv84, .unset, .unset, .unset, .unset, .unset, .unset, .unset] [(.ref a94)]))
        refine Way.by (fun _ k => XS.dup X89.here hx rfl (hb hby at_97) rfl rfl k) ?_
        show Way _ _ _ _ (T86.setTop (mkF m 98 #[iv p0, iv p1, iv p2, iv p3, iv p4, iv 1, iv 0, iv 1, iv x_pv22, iv x_pv42, iv x_pv63, iv x_pv84, .unset, .unset, .unset, .unset, .unset, .unset, .unset] [(.ref a94), (.ref a94)]))
        refine Way.by (fun _ k => XS.iconst X89.here hx rfl (hb hby at_98) k) ?_
        show Way _ _ _ _ (T86.setTop (mkF m 99 #[iv p0, iv p1, iv p2, iv p3, iv p4, iv 1, iv 0, iv 1, iv x_pv22, iv x_pv42, iv x_pv63, iv x_pv84, .unset, .unset, .unset, .unset, .unset, .unset, .unset] [(.int 0), (.ref a94), (.ref a94)]))
        refine Way.by (fun _ k => XS.iload X89.here hx rfl (hb hby at_99) rfl k) ?_
        show Way _ _ _ _ (T86.setTop (mkF m 101 #[iv p0, iv p1, iv p2, iv p3, iv p4, iv 1, iv 0, iv 1, iv x_pv22, iv x_pv42, iv x_pv63, iv x_pv84, .unset, .unset, .unset, .unset, .unset, .unset, .unset] [(.int x_pv22), (.int 0), (.ref a94), (.ref a94)]))
        have V101 : Arv Z h87 a94 kc88 .char (1 : Int32) [(.int 0)] (.int 0) := V96.pad (pad_rep [] (.int 0) 1)
        obtain ⟨c102, A103, q104, S105, M106, H107, U108⟩ := id V101
        obtain ⟨T109, h110, X111, e112, W113, st114⟩ := stC X89 hx hZ0 e90 A103 (j := (0 : Int32)) (inb_of S105 ⟨(by decide), (by decide)⟩) (g := (mkF m 101 #[iv p0, iv p1, iv p2, iv p3, iv p4, iv 1, iv 0, iv 1, iv x_pv22, iv x_pv42, iv x_pv63, iv x_pv84, .unset, .unset, .unset, .unset, .unset, .unset, .unset] [(.int x_pv22), (.int 0), (.ref a94), (.ref a94)])) rfl rfl (hb hby at_101)
        have N115 := Fr.snoc X111 N76 nw97
        have V116 : Arv Z h110 a94 kc88 .char (1 : Int32) [(.int (nar .char x_pv22))] (.int 0) := Arv.set A103 q104 S105 M106 H107 U108 (fits_nar_char _) W113 0 rfl (leB rfl)
        have nq118 : nar .char x_pv22 = x_pv22 := own_nar (by have q := pu_OK21.rng; omega)
        have V117 : Arv Z h110 a94 kc88 .char (1 : Int32) [(.int x_pv22)] (.int 0) := by rw [nq118] at V116; exact V116
        have Z119 : n0 ≤ h110.size := by rw [W113.size]; exact Z98
        have hk120 := Nat.le_trans hk99 (Nat.le_of_eq W113.size.symm)
        have O121 := O100.wr W113 nw97
        refine Way.by st114 ?_
        show Way _ _ _ _ (T109.setTop (mkF m 102 #[iv p0, iv p1, iv p2, iv p3, iv p4, iv 1, iv 0, iv 1, iv x_pv22, iv x_pv42, iv x_pv63, iv x_pv84, .unset, .unset, .unset, .unset, .unset, .unset, .unset] [(.ref a94)]))
        refine Way.by (fun _ k => XS.goto X111.here hx rfl (pc0 := 102) (pc' := 118) rfl (hb hby at_102) (by decide) (by decide) k) ?_
        show Way _ _ _ _ (T109.setTop (mkF m 118 #[iv p0, iv p1, iv p2, iv p3, iv p4, iv 1, iv 0, iv 1, iv x_pv22, iv x_pv42, iv x_pv63, iv x_pv84, .unset, .unset, .unset, .unset, .unset, .unset, .unset] [(.ref a94)]))
        refine Way.by (fun _ k => XS.astore X111.here hx rfl (hb hby at_118) rfl rfl (l' := #[iv p0, iv p1, iv p2, iv p3, iv p4, iv 1, iv 0, iv 1, iv x_pv22, iv x_pv42, iv x_pv63, iv x_pv84, rv a94, .unset, .unset, .unset, .unset, .unset, .unset]) rfl k) ?_
        show Way _ _ _ _ (T109.setTop (mkF m 120 #[iv p0, iv p1, iv p2, iv p3, iv p4, iv 1, iv 0, iv 1, iv x_pv22, iv x_pv42, iv x_pv63, iv x_pv84, rv a94, .unset, .unset, .unset, .unset, .unset, .unset] []))
        refine Way.by (fun _ k => XS.iload X111.here hx rfl (hb hby at_120) rfl k) ?_
        show Way _ _ _ _ (T109.setTop (mkF m 122 #[iv p0, iv p1, iv p2, iv p3, iv p4, iv 1, iv 0, iv 1, iv x_pv22, iv x_pv42, iv x_pv63, iv x_pv84, rv a94, .unset, .unset, .unset, .unset, .unset, .unset] [(.int 1)]))
        refine Way.by (fun _ k => XS.iconst X111.here hx rfl (hb hby at_122) k) ?_
        show Way _ _ _ _ (T109.setTop (mkF m 123 #[iv p0, iv p1, iv p2, iv p3, iv p4, iv 1, iv 0, iv 1, iv x_pv22, iv x_pv42, iv x_pv63, iv x_pv84, rv a94, .unset, .unset, .unset, .unset, .unset, .unset] [(.int 1), (.int 1)]))
        have b122 : (1 : Int32) = (1 : Int32) := by decide
        refine Way.by (fun _ k => XS.icmpNo X111.here hx rfl (hb hby at_123) rfl (teq b122).2 k) ?_
        show Way _ _ _ _ (T109.setTop (mkF m 126 #[iv p0, iv p1, iv p2, iv p3, iv p4, iv 1, iv 0, iv 1, iv x_pv22, iv x_pv42, iv x_pv63, iv x_pv84, rv a94, .unset, .unset, .unset, .unset, .unset, .unset] []))
        refine Way.by (fun _ k => XS.iconst X111.here hx rfl (hb hby at_126) k) ?_
        show Way _ _ _ _ (T109.setTop (mkF m 127 #[iv p0, iv p1, iv p2, iv p3, iv p4, iv 1, iv 0, iv 1, iv x_pv22, iv x_pv42, iv x_pv63, iv x_pv84, rv a94, .unset, .unset, .unset, .unset, .unset, .unset] [(.int 1)]))
        obtain ⟨T123, h124, kc125, X126, e127, E128, A129, st130⟩ := newP X111 hx hZ0 (tw hw 5 rfl) e112 (g := (mkF m 127 #[iv p0, iv p1, iv p2, iv p3, iv p4, iv 1, iv 0, iv 1, iv x_pv22, iv x_pv42, iv x_pv63, iv x_pv84, rv a94, .unset, .unset, .unset, .unset, .unset, .unset] [(.int 1)])) rfl (hb hby at_127) rfl (by decide) (cap := 1) (by decide) (by decide) (by decide) (by decide)
        obtain ⟨a131, g132⟩ : ∃ z, z = h110.size := ⟨_, rfl⟩
        rw [← g132] at A129 st130
        have ne134 : a94 ≠ a131 := Nat.ne_of_lt (Nat.lt_of_lt_of_eq V117.lt g132.symm)
        have nw135 : n0 ≤ a131 := Nat.le_trans Z119 (Nat.le_of_eq g132.symm)
        have A136 := V117.ext E128
        have Z137 := Nat.le_trans Z119 E128.1
        have hk138 := Nat.le_trans hk120 E128.1
        have O139 := O121.ext E128
        have V133 : Arv Z h124 a131 kc125 .char (1 : Int32) [] (.int 0) := Arv.new A129 (by decide)
        refine Way.by st130 ?_
        show Way _ _ _ _ (T123.setTop (mkF m 129 #[iv p0, iv p1, iv p2, iv p3, iv p4, iv 1, iv 0, iv 1, iv x_pv22, iv x_pv42, iv x_pv63, iv x_pv84, rv a94, .unset, .unset, .unset, .unset, .unset, .unset] [(.ref a131)]))
        refine Way.by (fun _ k => XS.dup X126.here hx rfl (hb hby at_129) rfl rfl k) ?_
        show Way _ _ _ _ (T123.setTop (mkF m 130 #[iv p0, iv p1, iv p2, iv p3, iv p4, iv 1, iv 0, iv 1, iv x_pv22, iv x_pv42, iv x_pv63, iv x_pv84, rv a94, .unset, .unset, .unset, .unset, .unset, .unset] [(.ref a131), (.ref a131)]))
        refine Way.by (fun _ k => XS.iconst X126.here hx rfl (hb hby at_130) k) ?_
        show Way _ _ _ _ (T123.setTop (mkF m 131 #[iv p0, iv p1, iv p2, iv p3, iv p4, iv 1, iv 0, iv 1, iv x_pv22, iv x_pv42, iv x_pv63, iv x_pv84, rv a94, .unset, .unset, .unset, .unset, .unset, .unset] [(.int 0), (.ref a131), (.ref a131)]))
        refine Way.by (fun _ k => XS.iload X126.here hx rfl (hb hby at_131) rfl k) ?_
        show Way _ _ _ _ (T123.setTop (mkF m 133 #[iv p0, iv p1, iv p2, iv p3, iv p4, iv 1, iv 0, iv 1, iv x_pv22, iv x_pv42, iv x_pv63, iv x_pv84, rv a94, .unset, .unset, .unset, .unset, .unset, .unset] [(.int x_pv63), (.int 0), (.ref a131), (.ref a131)]))
        have V140 : Arv Z h124 a131 kc125 .char (1 : Int32) [(.int 0)] (.int 0) := V133.pad (pad_rep [] (.int 0) 1)
        obtain ⟨c141, A142, q143, S144, M145, H146, U147⟩ := id V140
        obtain ⟨T148, h149, X150, e151, W152, st153⟩ := stC X126 hx hZ0 e127 A142 (j := (0 : Int32)) (inb_of S144 ⟨(by decide), (by decide)⟩) (g := (mkF m 133 #[iv p0, iv p1, iv p2, iv p3, iv p4, iv 1, iv 0, iv 1, iv x_pv22, iv x_pv42, iv x_pv63, iv x_pv84, rv a94, .unset, .unset, .unset, .unset, .unset, .unset] [(.int x_pv63), (.int 0), (.ref a131), (.ref a131)])) rfl rfl (hb hby at_133)
        have N154 := Fr.snoc X150 N115 nw135
        have V155 : Arv Z h149 a131 kc125 .char (1 : Int32) [(.int (nar .char x_pv63))] (.int 0) := Arv.set A142 q143 S144 M145 H146 U147 (fits_nar_char _) W152 0 rfl (leB rfl)
        have nq157 : nar .char x_pv63 = x_pv63 := own_nar (by have q := pu_OK62.rng; omega)
        have V156 : Arv Z h149 a131 kc125 .char (1 : Int32) [(.int x_pv63)] (.int 0) := by rw [nq157] at V155; exact V155
        have A158 := A136.other W152 ne134
        have Z159 : n0 ≤ h149.size := by rw [W152.size]; exact Z137
        have hk160 := Nat.le_trans hk138 (Nat.le_of_eq W152.size.symm)
        have O161 := O139.wr W152 nw135
        refine Way.by st153 ?_
        show Way _ _ _ _ (T148.setTop (mkF m 134 #[iv p0, iv p1, iv p2, iv p3, iv p4, iv 1, iv 0, iv 1, iv x_pv22, iv x_pv42, iv x_pv63, iv x_pv84, rv a94, .unset, .unset, .unset, .unset, .unset, .unset] [(.ref a131)]))
        refine Way.by (fun _ k => XS.goto X150.here hx rfl (pc0 := 134) (pc' := 150) rfl (hb hby at_134) (by decide) (by decide) k) ?_
        show Way _ _ _ _ (T148.setTop (mkF m 150 #[iv p0, iv p1, iv p2, iv p3, iv p4, iv 1, iv 0, iv 1, iv x_pv22, iv x_pv42, iv x_pv63, iv x_pv84, rv a94, .unset, .unset, .unset, .unset, .unset, .unset] [(.ref a131)]))
        refine Way.by (fun _ k => XS.astore X150.here hx rfl (hb hby at_150) rfl rfl (l' := #[iv p0, iv p1, iv p2, iv p3, iv p4, iv 1, iv 0, iv 1, iv x_pv22, iv x_pv42, iv x_pv63, iv x_pv84, rv a94, rv a131, .unset, .unset, .unset, .unset, .unset]) rfl k) ?_
        show Way _ _ _ _ (T148.setTop (mkF m 152 #[iv p0, iv p1, iv p2, iv p3, iv p4, iv 1, iv 0, iv 1, iv x_pv22, iv x_pv42, iv x_pv63, iv x_pv84, rv a94, rv a131, .unset, .unset, .unset, .unset, .unset] []))
        exact seg152 l Z a0 hw ws p0 p1 p2 p3 p4 ur up ut h0 n0 Z0 O0 SV SRULE ERULE FPU SPU p e s m below meth c s₁ Bd hml _ hZ0 hown0 _ hS0 T148 h149 _ (X150.mono (by decide) (by decide)) e151 N154 Z159 hk160 O161 (1 : Int32) (1 : Int32) x_pv22 x_pv42 x_pv63 x_pv84 (0 : Int32) a94 a131 kc88 kc125 [x_pv22] [x_pv63] A158 V156 (by intro c hc; simp only [List.mem_cons, List.not_mem_nil, or_false] at hc; rcases hc with rfl <;> assumption) (by intro c hc; simp only [List.mem_cons, List.not_mem_nil, or_false] at hc; rcases hc with rfl <;> assumption) (by simp) (by simp) (Or.inl ⟨rfl, rfl⟩) (Or.inl ⟨rfl, rfl⟩) ne134
      · skip
        show Way _ _ _ _ (s₁.setTop (mkF m 42 #[iv p0, iv p1, iv p2, iv p3, iv p4, iv 1, iv 0, .unset, .unset, .unset, .unset, .unset, .unset, .unset, .unset, .unset, .unset, .unset, .unset] [(.int 2)]))
        refine Way.by (fun _ k => XS.istore XW.here hx rfl (hb hby at_42) rfl (l' := #[iv p0, iv p1, iv p2, iv p3, iv p4, iv 1, iv 0, iv 2, .unset, .unset, .unset, .unset, .unset, .unset, .unset, .unset, .unset, .unset, .unset]) rfl k) ?_
        show Way _ _ _ _ (s₁.setTop (mkF m 44 #[iv p0, iv p1, iv p2, iv p3, iv p4, iv 1, iv 0, iv 2, .unset, .unset, .unset, .unset, .unset, .unset, .unset, .unset, .unset, .unset, .unset] []))
        refine Way.by (fun _ k => XS.iloadN XW.here hx rfl (hb hby at_44) rfl k) ?_
        show Way _ _ _ _ (s₁.setTop (mkF m 45 #[iv p0, iv p1, iv p2, iv p3, iv p4, iv 1, iv 0, iv 2, .unset, .unset, .unset, .unset, .unset, .unset, .unset, .unset, .unset, .unset, .unset] [(.int p0)]))
        obtain ⟨_, _, ⟨T162, L164, k165, n166⟩, -, X163, ⟨Lc167, hQ168, l169, y170, z171⟩, st172⟩ := Jvm.LawKit.callS XW hx (y := (⟨"com/example/deduct/deduct/model/ItemIdEqualsPinLaw", "pick", "(I)C"⟩ : MethodName)) hown0 (mvT hZ0 (tw hw 0 rfl)) (mvT hZ0 (tw hw 1 rfl)) (mvT hZ0 (tw hw 2 rfl)) (mvT hZ0 (tw hw 3 rfl)) (by decide) (backOf (W := 0) (rmK l Z a0 hw [] p0 h0 n0 Z0 ) hZ0 (tw hw 3 rfl) (tw hw 2 rfl) (by decide) (by decide)) (g := (mkF m 45 #[iv p0, iv p1, iv p2, iv p3, iv p4, iv 1, iv 0, iv 2, .unset, .unset, .unset, .unset, .unset, .unset, .unset, .unset, .unset, .unset, .unset] [(.int p0)])) rfl (by rw [hml]; rfl) (argsL := [(.int p0)]) (rest := []) (lenOf pdK rfl) rfl (leW rfl) (hb hby at_45) (fun _ _ => ⟨rfl, e0, (leB rfl), (leB rfl)⟩)
        dsimp only [Pt.U, Pt.locs, Pt.cells, Pt.slots] at X163 l169 y170 z171 st172 hQ168
        subst l169 y170 z171
        obtain ⟨x_pv181, rfl, N178, e174, pu_OK180⟩ := hQ168
        have N173 := Fr.app N0 N178
        refine Way.by st172 ?_
        show Way _ _ _ _ (T162.setTop (mkF m 48 #[iv p0, iv p1, iv p2, iv p3, iv p4, iv 1, iv 0, iv 2, .unset, .unset, .unset, .unset, .unset, .unset, .unset, .unset, .unset, .unset, .unset] [(.int x_pv181)]))
        refine Way.by (fun _ k => XS.istore X163.here hx rfl (hb hby at_48) rfl (l' := #[iv p0, iv p1, iv p2, iv p3, iv p4, iv 1, iv 0, iv 2, iv x_pv181, .unset, .unset, .unset, .unset, .unset, .unset, .unset, .unset, .unset, .unset]) rfl k) ?_
        show Way _ _ _ _ (T162.setTop (mkF m 50 #[iv p0, iv p1, iv p2, iv p3, iv p4, iv 1, iv 0, iv 2, iv x_pv181, .unset, .unset, .unset, .unset, .unset, .unset, .unset, .unset, .unset, .unset] []))
        refine Way.by (fun _ k => XS.iloadN X163.here hx rfl (hb hby at_50) rfl k) ?_
        show Way _ _ _ _ (T162.setTop (mkF m 51 #[iv p0, iv p1, iv p2, iv p3, iv p4, iv 1, iv 0, iv 2, iv x_pv181, .unset, .unset, .unset, .unset, .unset, .unset, .unset, .unset, .unset, .unset] [(.int p1)]))
        obtain ⟨_, _, ⟨T182, L184, k185, n186⟩, -, X183, ⟨Lc187, hQ188, l189, y190, z191⟩, st192⟩ := Jvm.LawKit.callS X163 hx (y := (⟨"com/example/deduct/deduct/model/ItemIdEqualsPinLaw", "pick", "(I)C"⟩ : MethodName)) hown0 (mvT hZ0 (tw hw 0 rfl)) (mvT hZ0 (tw hw 1 rfl)) (mvT hZ0 (tw hw 2 rfl)) (mvT hZ0 (tw hw 3 rfl)) (by decide) (backOf (W := 0) (rmK l Z a0 hw [] p1 h0 n0 Z0 ) hZ0 (tw hw 3 rfl) (tw hw 2 rfl) (by decide) (by decide)) (g := (mkF m 51 #[iv p0, iv p1, iv p2, iv p3, iv p4, iv 1, iv 0, iv 2, iv x_pv181, .unset, .unset, .unset, .unset, .unset, .unset, .unset, .unset, .unset, .unset] [(.int p1)])) rfl (by rw [hml]; rfl) (argsL := [(.int p1)]) (rest := []) (lenOf pdK rfl) rfl (leW rfl) (hb hby at_51) (fun _ _ => ⟨rfl, e174, (leB rfl), (leB rfl)⟩)
        dsimp only [Pt.U, Pt.locs, Pt.cells, Pt.slots] at X183 l189 y190 z191 st192 hQ188
        subst l189 y190 z191
        obtain ⟨x_pv201, rfl, N198, e194, pu_OK200⟩ := hQ188
        have N193 := Fr.app N173 N198
        refine Way.by st192 ?_
        show Way _ _ _ _ (T182.setTop (mkF m 54 #[iv p0, iv p1, iv p2, iv p3, iv p4, iv 1, iv 0, iv 2, iv x_pv181, .unset, .unset, .unset, .unset, .unset, .unset, .unset, .unset, .unset, .unset] [(.int x_pv201)]))
        refine Way.by (fun _ k => XS.istore X183.here hx rfl (hb hby at_54) rfl (l' := #[iv p0, iv p1, iv p2, iv p3, iv p4, iv 1, iv 0, iv 2, iv x_pv181, iv x_pv201, .unset, .unset, .unset, .unset, .unset, .unset, .unset, .unset, .unset]) rfl k) ?_
        show Way _ _ _ _ (T182.setTop (mkF m 56 #[iv p0, iv p1, iv p2, iv p3, iv p4, iv 1, iv 0, iv 2, iv x_pv181, iv x_pv201, .unset, .unset, .unset, .unset, .unset, .unset, .unset, .unset, .unset] []))
        refine Way.by (fun _ k => XS.iload X183.here hx rfl (hb hby at_56) rfl k) ?_
        show Way _ _ _ _ (T182.setTop (mkF m 58 #[iv p0, iv p1, iv p2, iv p3, iv p4, iv 1, iv 0, iv 2, iv x_pv181, iv x_pv201, .unset, .unset, .unset, .unset, .unset, .unset, .unset, .unset, .unset] [(.int 0)]))
        have b202 : (0 : Int32) = (0 : Int32) := by decide
        refine Way.by (fun _ k => XS.ifYes X183.here hx rfl (pc0 := 58) (pc' := 66) rfl (hb hby at_58) rfl ((if0 .eq _).trans (teq b202).1) (by decide) (by decide) k) ?_
        show Way _ _ _ _ (T182.setTop (mkF m 66 #[iv p0, iv p1, iv p2, iv p3, iv p4, iv 1, iv 0, iv 2, iv x_pv181, iv x_pv201, .unset, .unset, .unset, .unset, .unset, .unset, .unset, .unset, .unset] []))
        refine Way.by (fun _ k => XS.iloadN X183.here hx rfl (hb hby at_66) rfl k) ?_
        show Way _ _ _ _ (T182.setTop (mkF m 67 #[iv p0, iv p1, iv p2, iv p3, iv p4, iv 1, iv 0, iv 2, iv x_pv181, iv x_pv201, .unset, .unset, .unset, .unset, .unset, .unset, .unset, .unset, .unset] [(.int p2)]))
        obtain ⟨_, _, ⟨T203, L205, k206, n207⟩, -, X204, ⟨Lc208, hQ209, l210, y211, z212⟩, st213⟩ := Jvm.LawKit.callS X183 hx (y := (⟨"com/example/deduct/deduct/model/ItemIdEqualsPinLaw", "pick", "(I)C"⟩ : MethodName)) hown0 (mvT hZ0 (tw hw 0 rfl)) (mvT hZ0 (tw hw 1 rfl)) (mvT hZ0 (tw hw 2 rfl)) (mvT hZ0 (tw hw 3 rfl)) (by decide) (backOf (W := 0) (rmK l Z a0 hw [] p2 h0 n0 Z0 ) hZ0 (tw hw 3 rfl) (tw hw 2 rfl) (by decide) (by decide)) (g := (mkF m 67 #[iv p0, iv p1, iv p2, iv p3, iv p4, iv 1, iv 0, iv 2, iv x_pv181, iv x_pv201, .unset, .unset, .unset, .unset, .unset, .unset, .unset, .unset, .unset] [(.int p2)])) rfl (by rw [hml]; rfl) (argsL := [(.int p2)]) (rest := []) (lenOf pdK rfl) rfl (leW rfl) (hb hby at_67) (fun _ _ => ⟨rfl, e194, (leB rfl), (leB rfl)⟩)
        dsimp only [Pt.U, Pt.locs, Pt.cells, Pt.slots] at X204 l210 y211 z212 st213 hQ209
        subst l210 y211 z212
        obtain ⟨x_pv222, rfl, N219, e215, pu_OK221⟩ := hQ209
        have N214 := Fr.app N193 N219
        refine Way.by st213 ?_
        show Way _ _ _ _ (T203.setTop (mkF m 70 #[iv p0, iv p1, iv p2, iv p3, iv p4, iv 1, iv 0, iv 2, iv x_pv181, iv x_pv201, .unset, .unset, .unset, .unset, .unset, .unset, .unset, .unset, .unset] [(.int x_pv222)]))
        refine Way.by (fun _ k => XS.istore X204.here hx rfl (hb hby at_70) rfl (l' := #[iv p0, iv p1, iv p2, iv p3, iv p4, iv 1, iv 0, iv 2, iv x_pv181, iv x_pv201, iv x_pv222, .unset, .unset, .unset, .unset, .unset, .unset, .unset, .unset]) rfl k) ?_
        show Way _ _ _ _ (T203.setTop (mkF m 72 #[iv p0, iv p1, iv p2, iv p3, iv p4, iv 1, iv 0, iv 2, iv x_pv181, iv x_pv201, iv x_pv222, .unset, .unset, .unset, .unset, .unset, .unset, .unset, .unset] []))
        refine Way.by (fun _ k => XS.iload X204.here hx rfl (hb hby at_72) rfl k) ?_
        show Way _ _ _ _ (T203.setTop (mkF m 74 #[iv p0, iv p1, iv p2, iv p3, iv p4, iv 1, iv 0, iv 2, iv x_pv181, iv x_pv201, iv x_pv222, .unset, .unset, .unset, .unset, .unset, .unset, .unset, .unset] [(.int 0)]))
        have b223 : (0 : Int32) = (0 : Int32) := by decide
        refine Way.by (fun _ k => XS.ifYes X204.here hx rfl (pc0 := 74) (pc' := 82) rfl (hb hby at_74) rfl ((if0 .eq _).trans (teq b223).1) (by decide) (by decide) k) ?_
        show Way _ _ _ _ (T203.setTop (mkF m 82 #[iv p0, iv p1, iv p2, iv p3, iv p4, iv 1, iv 0, iv 2, iv x_pv181, iv x_pv201, iv x_pv222, .unset, .unset, .unset, .unset, .unset, .unset, .unset, .unset] []))
        refine Way.by (fun _ k => XS.iloadN X204.here hx rfl (hb hby at_82) rfl k) ?_
        show Way _ _ _ _ (T203.setTop (mkF m 83 #[iv p0, iv p1, iv p2, iv p3, iv p4, iv 1, iv 0, iv 2, iv x_pv181, iv x_pv201, iv x_pv222, .unset, .unset, .unset, .unset, .unset, .unset, .unset, .unset] [(.int p3)]))
        obtain ⟨_, _, ⟨T224, L226, k227, n228⟩, -, X225, ⟨Lc229, hQ230, l231, y232, z233⟩, st234⟩ := Jvm.LawKit.callS X204 hx (y := (⟨"com/example/deduct/deduct/model/ItemIdEqualsPinLaw", "pick", "(I)C"⟩ : MethodName)) hown0 (mvT hZ0 (tw hw 0 rfl)) (mvT hZ0 (tw hw 1 rfl)) (mvT hZ0 (tw hw 2 rfl)) (mvT hZ0 (tw hw 3 rfl)) (by decide) (backOf (W := 0) (rmK l Z a0 hw [] p3 h0 n0 Z0 ) hZ0 (tw hw 3 rfl) (tw hw 2 rfl) (by decide) (by decide)) (g := (mkF m 83 #[iv p0, iv p1, iv p2, iv p3, iv p4, iv 1, iv 0, iv 2, iv x_pv181, iv x_pv201, iv x_pv222, .unset, .unset, .unset, .unset, .unset, .unset, .unset, .unset] [(.int p3)])) rfl (by rw [hml]; rfl) (argsL := [(.int p3)]) (rest := []) (lenOf pdK rfl) rfl (leW rfl) (hb hby at_83) (fun _ _ => ⟨rfl, e215, (leB rfl), (leB rfl)⟩)
        dsimp only [Pt.U, Pt.locs, Pt.cells, Pt.slots] at X225 l231 y232 z233 st234 hQ230
        subst l231 y232 z233
        obtain ⟨x_pv243, rfl, N240, e236, pu_OK242⟩ := hQ230
        have N235 := Fr.app N214 N240
        refine Way.by st234 ?_
        show Way _ _ _ _ (T224.setTop (mkF m 86 #[iv p0, iv p1, iv p2, iv p3, iv p4, iv 1, iv 0, iv 2, iv x_pv181, iv x_pv201, iv x_pv222, .unset, .unset, .unset, .unset, .unset, .unset, .unset, .unset] [(.int x_pv243)]))
        refine Way.by (fun _ k => XS.istore X225.here hx rfl (hb hby at_86) rfl (l' := #[iv p0, iv p1, iv p2, iv p3, iv p4, iv 1, iv 0, iv 2, iv x_pv181, iv x_pv201, iv x_pv222, iv x_pv243, .unset, .unset, .unset, .unset, .unset, .unset, .unset]) rfl k) ?_
        show Way _ _ _ _ (T224.setTop (mkF m 88 #[iv p0, iv p1, iv p2, iv p3, iv p4, iv 1, iv 0, iv 2, iv x_pv181, iv x_pv201, iv x_pv222, iv x_pv243, .unset, .unset, .unset, .unset, .unset, .unset, .unset] []))
        refine Way.by (fun _ k => XS.iload X225.here hx rfl (hb hby at_88) rfl k) ?_
        show Way _ _ _ _ (T224.setTop (mkF m 90 #[iv p0, iv p1, iv p2, iv p3, iv p4, iv 1, iv 0, iv 2, iv x_pv181, iv x_pv201, iv x_pv222, iv x_pv243, .unset, .unset, .unset, .unset, .unset, .unset, .unset] [(.int 1)]))
        refine Way.by (fun _ k => XS.iconst X225.here hx rfl (hb hby at_90) k) ?_
        show Way _ _ _ _ (T224.setTop (mkF m 91 #[iv p0, iv p1, iv p2, iv p3, iv p4, iv 1, iv 0, iv 2, iv x_pv181, iv x_pv201, iv x_pv222, iv x_pv243, .unset, .unset, .unset, .unset, .unset, .unset, .unset] [(.int 1), (.int 1)]))
        have b244 : (1 : Int32) = (1 : Int32) := by decide
        refine Way.by (fun _ k => XS.icmpNo X225.here hx rfl (hb hby at_91) rfl (teq b244).2 k) ?_
        show Way _ _ _ _ (T224.setTop (mkF m 94 #[iv p0, iv p1, iv p2, iv p3, iv p4, iv 1, iv 0, iv 2, iv x_pv181, iv x_pv201, iv x_pv222, iv x_pv243, .unset, .unset, .unset, .unset, .unset, .unset, .unset] []))
        refine Way.by (fun _ k => XS.iconst X225.here hx rfl (hb hby at_94) k) ?_
        show Way _ _ _ _ (T224.setTop (mkF m 95 #[iv p0, iv p1, iv p2, iv p3, iv p4, iv 1, iv 0, iv 2, iv x_pv181, iv x_pv201, iv x_pv222, iv x_pv243, .unset, .unset, .unset, .unset, .unset, .unset, .unset] [(.int 1)]))
        obtain ⟨T245, h246, kc247, X248, e249, E250, A251, st252⟩ := newP X225 hx hZ0 (tw hw 5 rfl) e236 (g := (mkF m 95 #[iv p0, iv p1, iv p2, iv p3, iv p4, iv 1, iv 0, iv 2, iv x_pv181, iv x_pv201, iv x_pv222, iv x_pv243, .unset, .unset, .unset, .unset, .unset, .unset, .unset] [(.int 1)])) rfl (hb hby at_95) rfl (by decide) (cap := 1) (by decide) (by decide) (by decide) (by decide)
        obtain ⟨a253, g254⟩ : ∃ z, z = h0.size := ⟨_, rfl⟩
        rw [← g254] at A251 st252
        have nw256 : n0 ≤ a253 := Nat.le_trans Z0 (Nat.le_of_eq g254.symm)
        have Z257 := Nat.le_trans Z0 E250.1
        have hk258 := Nat.le_trans (Nat.zero_le _) E250.1
        have O259 := O0.ext E250
        have V255 : Arv Z h246 a253 kc247 .char (1 : Int32) [] (.int 0) := Arv.new A251 (by decide)
        refine Way.by st252 ?_
        show Way _ _ _ _ (T245.setTop (mkF m 97 #[iv p0, iv p1, iv p2, iv p3, iv p4, iv 1, iv 0, iv 2, iv x_pv181, iv x_pv201, iv x_pv222, iv x_pv243, .unset, .unset, .unset, .unset, .unset, .unset, .unset] [(.ref a253)]))
        refine Way.by (fun _ k => XS.dup X248.here hx rfl (hb hby at_97) rfl rfl k) ?_
        show Way _ _ _ _ (T245.setTop (mkF m 98 #[iv p0, iv p1, iv p2, iv p3, iv p4, iv 1, iv 0, iv 2, iv x_pv181, iv x_pv201, iv x_pv222, iv x_pv243, .unset, .unset, .unset, .unset, .unset, .unset, .unset] [(.ref a253), (.ref a253)]))
        refine Way.by (fun _ k => XS.iconst X248.here hx rfl (hb hby at_98) k) ?_
        show Way _ _ _ _ (T245.setTop (mkF m 99 #[iv p0, iv p1, iv p2, iv p3, iv p4, iv 1, iv 0, iv 2, iv x_pv181, iv x_pv201, iv x_pv222, iv x_pv243, .unset, .unset, .unset, .unset, .unset, .unset, .unset] [(.int 0), (.ref a253), (.ref a253)]))
        refine Way.by (fun _ k => XS.iload X248.here hx rfl (hb hby at_99) rfl k) ?_
        show Way _ _ _ _ (T245.setTop (mkF m 101 #[iv p0, iv p1, iv p2, iv p3, iv p4, iv 1, iv 0, iv 2, iv x_pv181, iv x_pv201, iv x_pv222, iv x_pv243, .unset, .unset, .unset, .unset, .unset, .unset, .unset] [(.int x_pv181), (.int 0), (.ref a253), (.ref a253)]))
        have V260 : Arv Z h246 a253 kc247 .char (1 : Int32) [(.int 0)] (.int 0) := V255.pad (pad_rep [] (.int 0) 1)
        obtain ⟨c261, A262, q263, S264, M265, H266, U267⟩ := id V260
        obtain ⟨T268, h269, X270, e271, W272, st273⟩ := stC X248 hx hZ0 e249 A262 (j := (0 : Int32)) (inb_of S264 ⟨(by decide), (by decide)⟩) (g := (mkF m 101 #[iv p0, iv p1, iv p2, iv p3, iv p4, iv 1, iv 0, iv 2, iv x_pv181, iv x_pv201, iv x_pv222, iv x_pv243, .unset, .unset, .unset, .unset, .unset, .unset, .unset] [(.int x_pv181), (.int 0), (.ref a253), (.ref a253)])) rfl rfl (hb hby at_101)
        have N274 := Fr.snoc X270 N235 nw256
        have V275 : Arv Z h269 a253 kc247 .char (1 : Int32) [(.int (nar .char x_pv181))] (.int 0) := Arv.set A262 q263 S264 M265 H266 U267 (fits_nar_char _) W272 0 rfl (leB rfl)
        have nq277 : nar .char x_pv181 = x_pv181 := own_nar (by have q := pu_OK180.rng; omega)
        have V276 : Arv Z h269 a253 kc247 .char (1 : Int32) [(.int x_pv181)] (.int 0) := by rw [nq277] at V275; exact V275
        have Z278 : n0 ≤ h269.size := by rw [W272.size]; exact Z257
        have hk279 := Nat.le_trans hk258 (Nat.le_of_eq W272.size.symm)
        have O280 := O259.wr W272 nw256
        refine Way.by st273 ?_
        show Way _ _ _ _ (T268.setTop (mkF m 102 #[iv p0, iv p1, iv p2, iv p3, iv p4, iv 1, iv 0, iv 2, iv x_pv181, iv x_pv201, iv x_pv222, iv x_pv243, .unset, .unset, .unset, .unset, .unset, .unset, .unset] [(.ref a253)]))
        refine Way.by (fun _ k => XS.goto X270.here hx rfl (pc0 := 102) (pc' := 118) rfl (hb hby at_102) (by decide) (by decide) k) ?_
        show Way _ _ _ _ (T268.setTop (mkF m 118 #[iv p0, iv p1, iv p2, iv p3, iv p4, iv 1, iv 0, iv 2, iv x_pv181, iv x_pv201, iv x_pv222, iv x_pv243, .unset, .unset, .unset, .unset, .unset, .unset, .unset] [(.ref a253)]))
        refine Way.by (fun _ k => XS.astore X270.here hx rfl (hb hby at_118) rfl rfl (l' := #[iv p0, iv p1, iv p2, iv p3, iv p4, iv 1, iv 0, iv 2, iv x_pv181, iv x_pv201, iv x_pv222, iv x_pv243, rv a253, .unset, .unset, .unset, .unset, .unset, .unset]) rfl k) ?_
        show Way _ _ _ _ (T268.setTop (mkF m 120 #[iv p0, iv p1, iv p2, iv p3, iv p4, iv 1, iv 0, iv 2, iv x_pv181, iv x_pv201, iv x_pv222, iv x_pv243, rv a253, .unset, .unset, .unset, .unset, .unset, .unset] []))
        refine Way.by (fun _ k => XS.iload X270.here hx rfl (hb hby at_120) rfl k) ?_
        show Way _ _ _ _ (T268.setTop (mkF m 122 #[iv p0, iv p1, iv p2, iv p3, iv p4, iv 1, iv 0, iv 2, iv x_pv181, iv x_pv201, iv x_pv222, iv x_pv243, rv a253, .unset, .unset, .unset, .unset, .unset, .unset] [(.int 2)]))
        refine Way.by (fun _ k => XS.iconst X270.here hx rfl (hb hby at_122) k) ?_
        show Way _ _ _ _ (T268.setTop (mkF m 123 #[iv p0, iv p1, iv p2, iv p3, iv p4, iv 1, iv 0, iv 2, iv x_pv181, iv x_pv201, iv x_pv222, iv x_pv243, rv a253, .unset, .unset, .unset, .unset, .unset, .unset] [(.int 1), (.int 2)]))
        have b281 : ¬ (2 : Int32) = (1 : Int32) := by decide
        refine Way.by (fun _ k => XS.icmpYes X270.here hx rfl (pc0 := 123) (pc' := 137) rfl (hb hby at_123) rfl (feq b281).2 (by decide) (by decide) k) ?_
        show Way _ _ _ _ (T268.setTop (mkF m 137 #[iv p0, iv p1, iv p2, iv p3, iv p4, iv 1, iv 0, iv 2, iv x_pv181, iv x_pv201, iv x_pv222, iv x_pv243, rv a253, .unset, .unset, .unset, .unset, .unset, .unset] []))
        refine Way.by (fun _ k => XS.iconst X270.here hx rfl (hb hby at_137) k) ?_
        show Way _ _ _ _ (T268.setTop (mkF m 138 #[iv p0, iv p1, iv p2, iv p3, iv p4, iv 1, iv 0, iv 2, iv x_pv181, iv x_pv201, iv x_pv222, iv x_pv243, rv a253, .unset, .unset, .unset, .unset, .unset, .unset] [(.int 2)]))
        obtain ⟨T282, h283, kc284, X285, e286, E287, A288, st289⟩ := newP X270 hx hZ0 (tw hw 5 rfl) e271 (g := (mkF m 138 #[iv p0, iv p1, iv p2, iv p3, iv p4, iv 1, iv 0, iv 2, iv x_pv181, iv x_pv201, iv x_pv222, iv x_pv243, rv a253, .unset, .unset, .unset, .unset, .unset, .unset] [(.int 2)])) rfl (hb hby at_138) rfl (by decide) (cap := 2) (by decide) (by decide) (by decide) (by decide)
        obtain ⟨a290, g291⟩ : ∃ z, z = h269.size := ⟨_, rfl⟩
        rw [← g291] at A288 st289
        have ne293 : a253 ≠ a290 := Nat.ne_of_lt (Nat.lt_of_lt_of_eq V276.lt g291.symm)
        have nw294 : n0 ≤ a290 := Nat.le_trans Z278 (Nat.le_of_eq g291.symm)
        have A295 := V276.ext E287
        have Z296 := Nat.le_trans Z278 E287.1
        have hk297 := Nat.le_trans hk279 E287.1
        have O298 := O280.ext E287
        have V292 : Arv Z h283 a290 kc284 .char (2 : Int32) [] (.int 0) := Arv.new A288 (by decide)
        refine Way.by st289 ?_
        show Way _ _ _ _ (T282.setTop (mkF m 140 #[iv p0, iv p1, iv p2, iv p3, iv p4, iv 1, iv 0, iv 2, iv x_pv181, iv x_pv201, iv x_pv222, iv x_pv243, rv a253, .unset, .unset, .unset, .unset, .unset, .unset] [(.ref a290)]))
        refine Way.by (fun _ k => XS.dup X285.here hx rfl (hb hby at_140) rfl rfl k) ?_
        show Way _ _ _ _ (T282.setTop (mkF m 141 #[iv p0, iv p1, iv p2, iv p3, iv p4, iv 1, iv 0, iv 2, iv x_pv181, iv x_pv201, iv x_pv222, iv x_pv243, rv a253, .unset, .unset, .unset, .unset, .unset, .unset] [(.ref a290), (.ref a290)]))
        refine Way.by (fun _ k => XS.iconst X285.here hx rfl (hb hby at_141) k) ?_
        show Way _ _ _ _ (T282.setTop (mkF m 142 #[iv p0, iv p1, iv p2, iv p3, iv p4, iv 1, iv 0, iv 2, iv x_pv181, iv x_pv201, iv x_pv222, iv x_pv243, rv a253, .unset, .unset, .unset, .unset, .unset, .unset] [(.int 0), (.ref a290), (.ref a290)]))
        refine Way.by (fun _ k => XS.iload X285.here hx rfl (hb hby at_142) rfl k) ?_
        show Way _ _ _ _ (T282.setTop (mkF m 144 #[iv p0, iv p1, iv p2, iv p3, iv p4, iv 1, iv 0, iv 2, iv x_pv181, iv x_pv201, iv x_pv222, iv x_pv243, rv a253, .unset, .unset, .unset, .unset, .unset, .unset] [(.int x_pv222), (.int 0), (.ref a290), (.ref a290)]))
        have V299 : Arv Z h283 a290 kc284 .char (2 : Int32) [(.int 0)] (.int 0) := V292.pad (pad_rep [] (.int 0) 1)
        obtain ⟨c300, A301, q302, S303, M304, H305, U306⟩ := id V299
        obtain ⟨T307, h308, X309, e310, W311, st312⟩ := stC X285 hx hZ0 e286 A301 (j := (0 : Int32)) (inb_of S303 ⟨(by decide), (by decide)⟩) (g := (mkF m 144 #[iv p0, iv p1, iv p2, iv p3, iv p4, iv 1, iv 0, iv 2, iv x_pv181, iv x_pv201, iv x_pv222, iv x_pv243, rv a253, .unset, .unset, .unset, .unset, .unset, .unset] [(.int x_pv222), (.int 0), (.ref a290), (.ref a290)])) rfl rfl (hb hby at_144)
        have N313 := Fr.snoc X309 N274 nw294
        have V314 : Arv Z h308 a290 kc284 .char (2 : Int32) [(.int (nar .char x_pv222))] (.int 0) := Arv.set A301 q302 S303 M304 H305 U306 (fits_nar_char _) W311 0 rfl (leB rfl)
        have nq316 : nar .char x_pv222 = x_pv222 := own_nar (by have q := pu_OK221.rng; omega)
        have V315 : Arv Z h308 a290 kc284 .char (2 : Int32) [(.int x_pv222)] (.int 0) := by rw [nq316] at V314; exact V314
        have A317 := A295.other W311 ne293
        have Z318 : n0 ≤ h308.size := by rw [W311.size]; exact Z296
        have hk319 := Nat.le_trans hk297 (Nat.le_of_eq W311.size.symm)
        have O320 := O298.wr W311 nw294
        refine Way.by st312 ?_
        show Way _ _ _ _ (T307.setTop (mkF m 145 #[iv p0, iv p1, iv p2, iv p3, iv p4, iv 1, iv 0, iv 2, iv x_pv181, iv x_pv201, iv x_pv222, iv x_pv243, rv a253, .unset, .unset, .unset, .unset, .unset, .unset] [(.ref a290)]))
        refine Way.by (fun _ k => XS.dup X309.here hx rfl (hb hby at_145) rfl rfl k) ?_
        show Way _ _ _ _ (T307.setTop (mkF m 146 #[iv p0, iv p1, iv p2, iv p3, iv p4, iv 1, iv 0, iv 2, iv x_pv181, iv x_pv201, iv x_pv222, iv x_pv243, rv a253, .unset, .unset, .unset, .unset, .unset, .unset] [(.ref a290), (.ref a290)]))
        refine Way.by (fun _ k => XS.iconst X309.here hx rfl (hb hby at_146) k) ?_
        show Way _ _ _ _ (T307.setTop (mkF m 147 #[iv p0, iv p1, iv p2, iv p3, iv p4, iv 1, iv 0, iv 2, iv x_pv181, iv x_pv201, iv x_pv222, iv x_pv243, rv a253, .unset, .unset, .unset, .unset, .unset, .unset] [(.int 1), (.ref a290), (.ref a290)]))
        refine Way.by (fun _ k => XS.iload X309.here hx rfl (hb hby at_147) rfl k) ?_
        show Way _ _ _ _ (T307.setTop (mkF m 149 #[iv p0, iv p1, iv p2, iv p3, iv p4, iv 1, iv 0, iv 2, iv x_pv181, iv x_pv201, iv x_pv222, iv x_pv243, rv a253, .unset, .unset, .unset, .unset, .unset, .unset] [(.int x_pv243), (.int 1), (.ref a290), (.ref a290)]))
        have V321 : Arv Z h308 a290 kc284 .char (2 : Int32) [(.int x_pv222), (.int 0)] (.int 0) := V315.pad (pad_rep [(.int x_pv222)] (.int 0) 1)
        obtain ⟨c322, A323, q324, S325, M326, H327, U328⟩ := id V321
        obtain ⟨T329, h330, X331, e332, W333, st334⟩ := stC X309 hx hZ0 e310 A323 (j := (1 : Int32)) (inb_of S325 ⟨(by decide), (by decide)⟩) (g := (mkF m 149 #[iv p0, iv p1, iv p2, iv p3, iv p4, iv 1, iv 0, iv 2, iv x_pv181, iv x_pv201, iv x_pv222, iv x_pv243, rv a253, .unset, .unset, .unset, .unset, .unset, .unset] [(.int x_pv243), (.int 1), (.ref a290), (.ref a290)])) rfl rfl (hb hby at_149)
        have N335 := Fr.snoc X331 N313 nw294
        have V336 : Arv Z h330 a290 kc284 .char (2 : Int32) [(.int x_pv222), (.int (nar .char x_pv243))] (.int 0) := Arv.set A323 q324 S325 M326 H327 U328 (fits_nar_char _) W333 1 rfl (leB rfl)
        have nq338 : nar .char x_pv243 = x_pv243 := own_nar (by have q := pu_OK242.rng; omega)
        have V337 : Arv Z h330 a290 kc284 .char (2 : Int32) [(.int x_pv222), (.int x_pv243)] (.int 0) := by rw [nq338] at V336; exact V336
        have A339 := A317.other W333 ne293
        have Z340 : n0 ≤ h330.size := by rw [W333.size]; exact Z318
        have hk341 := Nat.le_trans hk319 (Nat.le_of_eq W333.size.symm)
        have O342 := O320.wr W333 nw294
        refine Way.by st334 ?_
        show Way _ _ _ _ (T329.setTop (mkF m 150 #[iv p0, iv p1, iv p2, iv p3, iv p4, iv 1, iv 0, iv 2, iv x_pv181, iv x_pv201, iv x_pv222, iv x_pv243, rv a253, .unset, .unset, .unset, .unset, .unset, .unset] [(.ref a290)]))
        refine Way.by (fun _ k => XS.astore X331.here hx rfl (hb hby at_150) rfl rfl (l' := #[iv p0, iv p1, iv p2, iv p3, iv p4, iv 1, iv 0, iv 2, iv x_pv181, iv x_pv201, iv x_pv222, iv x_pv243, rv a253, rv a290, .unset, .unset, .unset, .unset, .unset]) rfl k) ?_
        show Way _ _ _ _ (T329.setTop (mkF m 152 #[iv p0, iv p1, iv p2, iv p3, iv p4, iv 1, iv 0, iv 2, iv x_pv181, iv x_pv201, iv x_pv222, iv x_pv243, rv a253, rv a290, .unset, .unset, .unset, .unset, .unset] []))
        exact seg152 l Z a0 hw ws p0 p1 p2 p3 p4 ur up ut h0 n0 Z0 O0 SV SRULE ERULE FPU SPU p e s m below meth c s₁ Bd hml _ hZ0 hown0 _ hS0 T329 h330 _ (X331.mono (by decide) (by decide)) e332 N335 Z340 hk341 O342 (1 : Int32) (2 : Int32) x_pv181 x_pv201 x_pv222 x_pv243 (0 : Int32) a253 a290 kc247 kc284 [x_pv181] [x_pv222, x_pv243] A339 V337 (by intro c hc; simp only [List.mem_cons, List.not_mem_nil, or_false] at hc; rcases hc with rfl <;> assumption) (by intro c hc; simp only [List.mem_cons, List.not_mem_nil, or_false] at hc; rcases hc with rfl | rfl <;> assumption) (by simp) (by simp) (Or.inl ⟨rfl, rfl⟩) (Or.inr ⟨rfl, rfl⟩) ne293
    · skip
      refine Way.by (fun _ k => XS.ifNo XW.here hx rfl (hb hby at_14) rfl ((if0 .eq _).trans (feq b1).1) k) ?_
      show Way _ _ _ _ (s₁.setTop (mkF m 17 #[iv p0, iv p1, iv p2, iv p3, iv p4, iv 1, .unset, .unset, .unset, .unset, .unset, .unset, .unset, .unset, .unset, .unset, .unset, .unset, .unset] []))
      refine Way.by (fun _ k => XS.iconst XW.here hx rfl (hb hby at_17) k) ?_
      show Way _ _ _ _ (s₁.setTop (mkF m 18 #[iv p0, iv p1, iv p2, iv p3, iv p4, iv 1, .unset, .unset, .unset, .unset, .unset, .unset, .unset, .unset, .unset, .unset, .unset, .unset, .unset] [(.int 1)]))
      refine Way.by (fun _ k => XS.goto XW.here hx rfl (pc0 := 18) (pc' := 22) rfl (hb hby at_18) (by decide) (by decide) k) ?_
      show Way _ _ _ _ (s₁.setTop (mkF m 22 #[iv p0, iv p1, iv p2, iv p3, iv p4, iv 1, .unset, .unset, .unset, .unset, .unset, .unset, .unset, .unset, .unset, .unset, .unset, .unset, .unset] [(.int 1)]))
      refine Way.by (fun _ k => XS.istore XW.here hx rfl (hb hby at_22) rfl (l' := #[iv p0, iv p1, iv p2, iv p3, iv p4, iv 1, iv 1, .unset, .unset, .unset, .unset, .unset, .unset, .unset, .unset, .unset, .unset, .unset, .unset]) rfl k) ?_
      show Way _ _ _ _ (s₁.setTop (mkF m 24 #[iv p0, iv p1, iv p2, iv p3, iv p4, iv 1, iv 1, .unset, .unset, .unset, .unset, .unset, .unset, .unset, .unset, .unset, .unset, .unset, .unset] []))
      refine Way.by (fun _ k => XS.iload XW.here hx rfl (hb hby at_24) rfl k) ?_
      show Way _ _ _ _ (s₁.setTop (mkF m 26 #[iv p0, iv p1, iv p2, iv p3, iv p4, iv 1, iv 1, .unset, .unset, .unset, .unset, .unset, .unset, .unset, .unset, .unset, .unset, .unset, .unset] [(.int 1)]))
      have b343 : ¬ (1 : Int32) = (0 : Int32) := by decide
      refine Way.by (fun _ k => XS.ifNo XW.here hx rfl (hb hby at_26) rfl ((if0 .eq _).trans (feq b343).1) k) ?_
      show Way _ _ _ _ (s₁.setTop (mkF m 29 #[iv p0, iv p1, iv p2, iv p3, iv p4, iv 1, iv 1, .unset, .unset, .unset, .unset, .unset, .unset, .unset, .unset, .unset, .unset, .unset, .unset] []))
      refine Way.by (fun _ k => XS.iload XW.here hx rfl (hb hby at_29) rfl k) ?_
      show Way _ _ _ _ (s₁.setTop (mkF m 31 #[iv p0, iv p1, iv p2, iv p3, iv p4, iv 1, iv 1, .unset, .unset, .unset, .unset, .unset, .unset, .unset, .unset, .unset, .unset, .unset, .unset] [(.int 1)]))
      refine Way.by (fun _ k => XS.goto XW.here hx rfl (pc0 := 31) (pc' := 42) rfl (hb hby at_31) (by decide) (by decide) k) ?_
      show Way _ _ _ _ (s₁.setTop (mkF m 42 #[iv p0, iv p1, iv p2, iv p3, iv p4, iv 1, iv 1, .unset, .unset, .unset, .unset, .unset, .unset, .unset, .unset, .unset, .unset, .unset, .unset] [(.int 1)]))
      refine Way.by (fun _ k => XS.istore XW.here hx rfl (hb hby at_42) rfl (l' := #[iv p0, iv p1, iv p2, iv p3, iv p4, iv 1, iv 1, iv 1, .unset, .unset, .unset, .unset, .unset, .unset, .unset, .unset, .unset, .unset, .unset]) rfl k) ?_
      show Way _ _ _ _ (s₁.setTop (mkF m 44 #[iv p0, iv p1, iv p2, iv p3, iv p4, iv 1, iv 1, iv 1, .unset, .unset, .unset, .unset, .unset, .unset, .unset, .unset, .unset, .unset, .unset] []))
      refine Way.by (fun _ k => XS.iloadN XW.here hx rfl (hb hby at_44) rfl k) ?_
      show Way _ _ _ _ (s₁.setTop (mkF m 45 #[iv p0, iv p1, iv p2, iv p3, iv p4, iv 1, iv 1, iv 1, .unset, .unset, .unset, .unset, .unset, .unset, .unset, .unset, .unset, .unset, .unset] [(.int p0)]))
      obtain ⟨_, _, ⟨T344, L346, k347, n348⟩, -, X345, ⟨Lc349, hQ350, l351, y352, z353⟩, st354⟩ := Jvm.LawKit.callS XW hx (y := (⟨"com/example/deduct/deduct/model/ItemIdEqualsPinLaw", "pick", "(I)C"⟩ : MethodName)) hown0 (mvT hZ0 (tw hw 0 rfl)) (mvT hZ0 (tw hw 1 rfl)) (mvT hZ0 (tw hw 2 rfl)) (mvT hZ0 (tw hw 3 rfl)) (by decide) (backOf (W := 0) (rmK l Z a0 hw [] p0 h0 n0 Z0 ) hZ0 (tw hw 3 rfl) (tw hw 2 rfl) (by decide) (by decide)) (g := (mkF m 45 #[iv p0, iv p1, iv p2, iv p3, iv p4, iv 1, iv 1, iv 1, .unset, .unset, .unset, .unset, .unset, .unset, .unset, .unset, .unset, .unset, .unset] [(.int p0)])) rfl (by rw [hml]; rfl) (argsL := [(.int p0)]) (rest := []) (lenOf pdK rfl) rfl (leW rfl) (hb hby at_45) (fun _ _ => ⟨rfl, e0, (leB rfl), (leB rfl)⟩)
      dsimp only [Pt.U, Pt.locs, Pt.cells, Pt.slots] at X345 l351 y352 z353 st354 hQ350
      subst l351 y352 z353
      obtain ⟨x_pv363, rfl, N360, e356, pu_OK362⟩ := hQ350
      have N355 := Fr.app N0 N360
      refine Way.by st354 ?_
      show Way _ _ _ _ (T344.setTop (mkF m 48 #[iv p0, iv p1, iv p2, iv p3, iv p4, iv 1, iv 1, iv 1, .unset, .unset, .unset, .unset, .unset, .unset, .unset, .unset, .unset, .unset, .unset] [(.int x_pv363)]))
      refine Way.by (fun _ k => XS.istore X345.here hx rfl (hb hby at_48) rfl (l' := #[iv p0, iv p1, iv p2, iv p3, iv p4, iv 1, iv 1, iv 1, iv x_pv363, .unset, .unset, .unset, .unset, .unset, .unset, .unset, .unset, .unset, .unset]) rfl k) ?_
      show Way _ _ _ _ (T344.setTop (mkF m 50 #[iv p0, iv p1, iv p2, iv p3, iv p4, iv 1, iv 1, iv 1, iv x_pv363, .unset, .unset, .unset, .unset, .unset, .unset, .unset, .unset, .unset, .unset] []))
      refine Way.by (fun _ k => XS.iloadN X345.here hx rfl (hb hby at_50) rfl k) ?_
      show Way _ _ _ _ (T344.setTop (mkF m 51 #[iv p0, iv p1, iv p2, iv p3, iv p4, iv 1, iv 1, iv 1, iv x_pv363, .unset, .unset, .unset, .unset, .unset, .unset, .unset, .unset, .unset, .unset] [(.int p1)]))
      obtain ⟨_, _, ⟨T364, L366, k367, n368⟩, -, X365, ⟨Lc369, hQ370, l371, y372, z373⟩, st374⟩ := Jvm.LawKit.callS X345 hx (y := (⟨"com/example/deduct/deduct/model/ItemIdEqualsPinLaw", "pick", "(I)C"⟩ : MethodName)) hown0 (mvT hZ0 (tw hw 0 rfl)) (mvT hZ0 (tw hw 1 rfl)) (mvT hZ0 (tw hw 2 rfl)) (mvT hZ0 (tw hw 3 rfl)) (by decide) (backOf (W := 0) (rmK l Z a0 hw [] p1 h0 n0 Z0 ) hZ0 (tw hw 3 rfl) (tw hw 2 rfl) (by decide) (by decide)) (g := (mkF m 51 #[iv p0, iv p1, iv p2, iv p3, iv p4, iv 1, iv 1, iv 1, iv x_pv363, .unset, .unset, .unset, .unset, .unset, .unset, .unset, .unset, .unset, .unset] [(.int p1)])) rfl (by rw [hml]; rfl) (argsL := [(.int p1)]) (rest := []) (lenOf pdK rfl) rfl (leW rfl) (hb hby at_51) (fun _ _ => ⟨rfl, e356, (leB rfl), (leB rfl)⟩)
      dsimp only [Pt.U, Pt.locs, Pt.cells, Pt.slots] at X365 l371 y372 z373 st374 hQ370
      subst l371 y372 z373
      obtain ⟨x_pv383, rfl, N380, e376, pu_OK382⟩ := hQ370
      have N375 := Fr.app N355 N380
      refine Way.by st374 ?_
      show Way _ _ _ _ (T364.setTop (mkF m 54 #[iv p0, iv p1, iv p2, iv p3, iv p4, iv 1, iv 1, iv 1, iv x_pv363, .unset, .unset, .unset, .unset, .unset, .unset, .unset, .unset, .unset, .unset] [(.int x_pv383)]))
      refine Way.by (fun _ k => XS.istore X365.here hx rfl (hb hby at_54) rfl (l' := #[iv p0, iv p1, iv p2, iv p3, iv p4, iv 1, iv 1, iv 1, iv x_pv363, iv x_pv383, .unset, .unset, .unset, .unset, .unset, .unset, .unset, .unset, .unset]) rfl k) ?_
      show Way _ _ _ _ (T364.setTop (mkF m 56 #[iv p0, iv p1, iv p2, iv p3, iv p4, iv 1, iv 1, iv 1, iv x_pv363, iv x_pv383, .unset, .unset, .unset, .unset, .unset, .unset, .unset, .unset, .unset] []))
      refine Way.by (fun _ k => XS.iload X365.here hx rfl (hb hby at_56) rfl k) ?_
      show Way _ _ _ _ (T364.setTop (mkF m 58 #[iv p0, iv p1, iv p2, iv p3, iv p4, iv 1, iv 1, iv 1, iv x_pv363, iv x_pv383, .unset, .unset, .unset, .unset, .unset, .unset, .unset, .unset, .unset] [(.int 1)]))
      have b384 : ¬ (1 : Int32) = (0 : Int32) := by decide
      refine Way.by (fun _ k => XS.ifNo X365.here hx rfl (hb hby at_58) rfl ((if0 .eq _).trans (feq b384).1) k) ?_
      show Way _ _ _ _ (T364.setTop (mkF m 61 #[iv p0, iv p1, iv p2, iv p3, iv p4, iv 1, iv 1, iv 1, iv x_pv363, iv x_pv383, .unset, .unset, .unset, .unset, .unset, .unset, .unset, .unset, .unset] []))
      refine Way.by (fun _ k => XS.iload X365.here hx rfl (hb hby at_61) rfl k) ?_
      show Way _ _ _ _ (T364.setTop (mkF m 63 #[iv p0, iv p1, iv p2, iv p3, iv p4, iv 1, iv 1, iv 1, iv x_pv363, iv x_pv383, .unset, .unset, .unset, .unset, .unset, .unset, .unset, .unset, .unset] [(.int x_pv363)]))
      refine Way.by (fun _ k => XS.goto X365.here hx rfl (pc0 := 63) (pc' := 70) rfl (hb hby at_63) (by decide) (by decide) k) ?_
      show Way _ _ _ _ (T364.setTop (mkF m 70 #[iv p0, iv p1, iv p2, iv p3, iv p4, iv 1, iv 1, iv 1, iv x_pv363, iv x_pv383, .unset, .unset, .unset, .unset, .unset, .unset, .unset, .unset, .unset] [(.int x_pv363)]))
      refine Way.by (fun _ k => XS.istore X365.here hx rfl (hb hby at_70) rfl (l' := #[iv p0, iv p1, iv p2, iv p3, iv p4, iv 1, iv 1, iv 1, iv x_pv363, iv x_pv383, iv x_pv363, .unset, .unset, .unset, .unset, .unset, .unset, .unset, .unset]) rfl k) ?_
      show Way _ _ _ _ (T364.setTop (mkF m 72 #[iv p0, iv p1, iv p2, iv p3, iv p4, iv 1, iv 1, iv 1, iv x_pv363, iv x_pv383, iv x_pv363, .unset, .unset, .unset, .unset, .unset, .unset, .unset, .unset] []))
      refine Way.by (fun _ k => XS.iload X365.here hx rfl (hb hby at_72) rfl k) ?_
      show Way _ _ _ _ (T364.setTop (mkF m 74 #[iv p0, iv p1, iv p2, iv p3, iv p4, iv 1, iv 1, iv 1, iv x_pv363, iv x_pv383, iv x_pv363, .unset, .unset, .unset, .unset, .unset, .unset, .unset, .unset] [(.int 1)]))
      have b385 : ¬ (1 : Int32) = (0 : Int32) := by decide
      refine Way.by (fun _ k => XS.ifNo X365.here hx rfl (hb hby at_74) rfl ((if0 .eq _).trans (feq b385).1) k) ?_
      show Way _ _ _ _ (T364.setTop (mkF m 77 #[iv p0, iv p1, iv p2, iv p3, iv p4, iv 1, iv 1, iv 1, iv x_pv363, iv x_pv383, iv x_pv363, .unset, .unset, .unset, .unset, .unset, .unset, .unset, .unset] []))
      refine Way.by (fun _ k => XS.iload X365.here hx rfl (hb hby at_77) rfl k) ?_
      show Way _ _ _ _ (T364.setTop (mkF m 79 #[iv p0, iv p1, iv p2, iv p3, iv p4, iv 1, iv 1, iv 1, iv x_pv363, iv x_pv383, iv x_pv363, .unset, .unset, .unset, .unset, .unset, .unset, .unset, .unset] [(.int x_pv383)]))
      refine Way.by (fun _ k => XS.goto X365.here hx rfl (pc0 := 79) (pc' := 86) rfl (hb hby at_79) (by decide) (by decide) k) ?_
      show Way _ _ _ _ (T364.setTop (mkF m 86 #[iv p0, iv p1, iv p2, iv p3, iv p4, iv 1, iv 1, iv 1, iv x_pv363, iv x_pv383, iv x_pv363, .unset, .unset, .unset, .unset, .unset, .unset, .unset, .unset] [(.int x_pv383)]))
      refine Way.by (fun _ k => XS.istore X365.here hx rfl (hb hby at_86) rfl (l' := #[iv p0, iv p1, iv p2, iv p3, iv p4, iv 1, iv 1, iv 1, iv x_pv363, iv x_pv383, iv x_pv363, iv x_pv383, .unset, .unset, .unset, .unset, .unset, .unset, .unset]) rfl k) ?_
      show Way _ _ _ _ (T364.setTop (mkF m 88 #[iv p0, iv p1, iv p2, iv p3, iv p4, iv 1, iv 1, iv 1, iv x_pv363, iv x_pv383, iv x_pv363, iv x_pv383, .unset, .unset, .unset, .unset, .unset, .unset, .unset] []))
      refine Way.by (fun _ k => XS.iload X365.here hx rfl (hb hby at_88) rfl k) ?_
      show Way _ _ _ _ (T364.setTop (mkF m 90 #[iv p0, iv p1, iv p2, iv p3, iv p4, iv 1, iv 1, iv 1, iv x_pv363, iv x_pv383, iv x_pv363, iv x_pv383, .unset, .unset, .unset, .unset, .unset, .unset, .unset] [(.int 1)]))
      refine Way.by (fun _ k => XS.iconst X365.here hx rfl (hb hby at_90) k) ?_
      show Way _ _ _ _ (T364.setTop (mkF m 91 #[iv p0, iv p1, iv p2, iv p3, iv p4, iv 1, iv 1, iv 1, iv x_pv363, iv x_pv383, iv x_pv363, iv x_pv383, .unset, .unset, .unset, .unset, .unset, .unset, .unset] [(.int 1), (.int 1)]))
      have b386 : (1 : Int32) = (1 : Int32) := by decide
      refine Way.by (fun _ k => XS.icmpNo X365.here hx rfl (hb hby at_91) rfl (teq b386).2 k) ?_
      show Way _ _ _ _ (T364.setTop (mkF m 94 #[iv p0, iv p1, iv p2, iv p3, iv p4, iv 1, iv 1, iv 1, iv x_pv363, iv x_pv383, iv x_pv363, iv x_pv383, .unset, .unset, .unset, .unset, .unset, .unset, .unset] []))
      refine Way.by (fun _ k => XS.iconst X365.here hx rfl (hb hby at_94) k) ?_
      show Way _ _ _ _ (T364.setTop (mkF m 95 #[iv p0, iv p1, iv p2, iv p3, iv p4, iv 1, iv 1, iv 1, iv x_pv363, iv x_pv383, iv x_pv363, iv x_pv383, .unset, .unset, .unset, .unset, .unset, .unset, .unset] [(.int 1)]))
      obtain ⟨T387, h388, kc389, X390, e391, E392, A393, st394⟩ := newP X365 hx hZ0 (tw hw 5 rfl) e376 (g := (mkF m 95 #[iv p0, iv p1, iv p2, iv p3, iv p4, iv 1, iv 1, iv 1, iv x_pv363, iv x_pv383, iv x_pv363, iv x_pv383, .unset, .unset, .unset, .unset, .unset, .unset, .unset] [(.int 1)])) rfl (hb hby at_95) rfl (by decide) (cap := 1) (by decide) (by decide) (by decide) (by decide)
      obtain ⟨a395, g396⟩ : ∃ z, z = h0.size := ⟨_, rfl⟩
      rw [← g396] at A393 st394
      have nw398 : n0 ≤ a395 := Nat.le_trans Z0 (Nat.le_of_eq g396.symm)
      have Z399 := Nat.le_trans Z0 E392.1
      have hk400 := Nat.le_trans (Nat.zero_le _) E392.1
      have O401 := O0.ext E392
      have V397 : Arv Z h388 a395 kc389 .char (1 : Int32) [] (.int 0) := Arv.new A393 (by decide)
      refine Way.by st394 ?_
      show Way _ _ _ _ (T387.setTop (mkF m 97 #[iv p0, iv p1, iv p2, iv p3, iv p4, iv 1, iv 1, iv 1, iv x_pv363, iv x_pv383, iv x_pv363, iv x_pv383, .unset, .unset, .unset, .unset, .unset, .unset, .unset] [(.ref a395)]))
      refine Way.by (fun _ k => XS.dup X390.here hx rfl (hb hby at_97) rfl rfl k) ?_
      show Way _ _ _ _ (T387.setTop (mkF m 98 #[iv p0, iv p1, iv p2, iv p3, iv p4, iv 1, iv 1, iv 1, iv x_pv363, iv x_pv383, iv x_pv363, iv x_pv383, .unset, .unset, .unset, .unset, .unset, .unset, .unset] [(.ref a395), (.ref a395)]))
      refine Way.by (fun _ k => XS.iconst X390.here hx rfl (hb hby at_98) k) ?_
      show Way _ _ _ _ (T387.setTop (mkF m 99 #[iv p0, iv p1, iv p2, iv p3, iv p4, iv 1, iv 1, iv 1, iv x_pv363, iv x_pv383, iv x_pv363, iv x_pv383, .unset, .unset, .unset, .unset, .unset, .unset, .unset] [(.int 0), (.ref a395), (.ref a395)]))
      refine Way.by (fun _ k => XS.iload X390.here hx rfl (hb hby at_99) rfl k) ?_
      show Way _ _ _ _ (T387.setTop (mkF m 101 #[iv p0, iv p1, iv p2, iv p3, iv p4, iv 1, iv 1, iv 1, iv x_pv363, iv x_pv383, iv x_pv363, iv x_pv383, .unset, .unset, .unset, .unset, .unset, .unset, .unset] [(.int x_pv363), (.int 0), (.ref a395), (.ref a395)]))
      have V402 : Arv Z h388 a395 kc389 .char (1 : Int32) [(.int 0)] (.int 0) := V397.pad (pad_rep [] (.int 0) 1)
      obtain ⟨c403, A404, q405, S406, M407, H408, U409⟩ := id V402
      obtain ⟨T410, h411, X412, e413, W414, st415⟩ := stC X390 hx hZ0 e391 A404 (j := (0 : Int32)) (inb_of S406 ⟨(by decide), (by decide)⟩) (g := (mkF m 101 #[iv p0, iv p1, iv p2, iv p3, iv p4, iv 1, iv 1, iv 1, iv x_pv363, iv x_pv383, iv x_pv363, iv x_pv383, .unset, .unset, .unset, .unset, .unset, .unset, .unset] [(.int x_pv363), (.int 0), (.ref a395), (.ref a395)])) rfl rfl (hb hby at_101)
      have N416 := Fr.snoc X412 N375 nw398
      have V417 : Arv Z h411 a395 kc389 .char (1 : Int32) [(.int (nar .char x_pv363))] (.int 0) := Arv.set A404 q405 S406 M407 H408 U409 (fits_nar_char _) W414 0 rfl (leB rfl)
      have nq419 : nar .char x_pv363 = x_pv363 := own_nar (by have q := pu_OK362.rng; omega)
      have V418 : Arv Z h411 a395 kc389 .char (1 : Int32) [(.int x_pv363)] (.int 0) := by rw [nq419] at V417; exact V417
      have Z420 : n0 ≤ h411.size := by rw [W414.size]; exact Z399
      have hk421 := Nat.le_trans hk400 (Nat.le_of_eq W414.size.symm)
      have O422 := O401.wr W414 nw398
      refine Way.by st415 ?_
      show Way _ _ _ _ (T410.setTop (mkF m 102 #[iv p0, iv p1, iv p2, iv p3, iv p4, iv 1, iv 1, iv 1, iv x_pv363, iv x_pv383, iv x_pv363, iv x_pv383, .unset, .unset, .unset, .unset, .unset, .unset, .unset] [(.ref a395)]))
      refine Way.by (fun _ k => XS.goto X412.here hx rfl (pc0 := 102) (pc' := 118) rfl (hb hby at_102) (by decide) (by decide) k) ?_
      show Way _ _ _ _ (T410.setTop (mkF m 118 #[iv p0, iv p1, iv p2, iv p3, iv p4, iv 1, iv 1, iv 1, iv x_pv363, iv x_pv383, iv x_pv363, iv x_pv383, .unset, .unset, .unset, .unset, .unset, .unset, .unset] [(.ref a395)]))
      refine Way.by (fun _ k => XS.astore X412.here hx rfl (hb hby at_118) rfl rfl (l' := #[iv p0, iv p1, iv p2, iv p3, iv p4, iv 1, iv 1, iv 1, iv x_pv363, iv x_pv383, iv x_pv363, iv x_pv383, rv a395, .unset, .unset, .unset, .unset, .unset, .unset]) rfl k) ?_
      show Way _ _ _ _ (T410.setTop (mkF m 120 #[iv p0, iv p1, iv p2, iv p3, iv p4, iv 1, iv 1, iv 1, iv x_pv363, iv x_pv383, iv x_pv363, iv x_pv383, rv a395, .unset, .unset, .unset, .unset, .unset, .unset] []))
      refine Way.by (fun _ k => XS.iload X412.here hx rfl (hb hby at_120) rfl k) ?_
      show Way _ _ _ _ (T410.setTop (mkF m 122 #[iv p0, iv p1, iv p2, iv p3, iv p4, iv 1, iv 1, iv 1, iv x_pv363, iv x_pv383, iv x_pv363, iv x_pv383, rv a395, .unset, .unset, .unset, .unset, .unset, .unset] [(.int 1)]))
      refine Way.by (fun _ k => XS.iconst X412.here hx rfl (hb hby at_122) k) ?_
      show Way _ _ _ _ (T410.setTop (mkF m 123 #[iv p0, iv p1, iv p2, iv p3, iv p4, iv 1, iv 1, iv 1, iv x_pv363, iv x_pv383, iv x_pv363, iv x_pv383, rv a395, .unset, .unset, .unset, .unset, .unset, .unset] [(.int 1), (.int 1)]))
      have b423 : (1 : Int32) = (1 : Int32) := by decide
      refine Way.by (fun _ k => XS.icmpNo X412.here hx rfl (hb hby at_123) rfl (teq b423).2 k) ?_
      show Way _ _ _ _ (T410.setTop (mkF m 126 #[iv p0, iv p1, iv p2, iv p3, iv p4, iv 1, iv 1, iv 1, iv x_pv363, iv x_pv383, iv x_pv363, iv x_pv383, rv a395, .unset, .unset, .unset, .unset, .unset, .unset] []))
      refine Way.by (fun _ k => XS.iconst X412.here hx rfl (hb hby at_126) k) ?_
      show Way _ _ _ _ (T410.setTop (mkF m 127 #[iv p0, iv p1, iv p2, iv p3, iv p4, iv 1, iv 1, iv 1, iv x_pv363, iv x_pv383, iv x_pv363, iv x_pv383, rv a395, .unset, .unset, .unset, .unset, .unset, .unset] [(.int 1)]))
      obtain ⟨T424, h425, kc426, X427, e428, E429, A430, st431⟩ := newP X412 hx hZ0 (tw hw 5 rfl) e413 (g := (mkF m 127 #[iv p0, iv p1, iv p2, iv p3, iv p4, iv 1, iv 1, iv 1, iv x_pv363, iv x_pv383, iv x_pv363, iv x_pv383, rv a395, .unset, .unset, .unset, .unset, .unset, .unset] [(.int 1)])) rfl (hb hby at_127) rfl (by decide) (cap := 1) (by decide) (by decide) (by decide) (by decide)
      obtain ⟨a432, g433⟩ : ∃ z, z = h411.size := ⟨_, rfl⟩
      rw [← g433] at A430 st431
      have ne435 : a395 ≠ a432 := Nat.ne_of_lt (Nat.lt_of_lt_of_eq V418.lt g433.symm)
      have nw436 : n0 ≤ a432 := Nat.le_trans Z420 (Nat.le_of_eq g433.symm)
      have A437 := V418.ext E429
      have Z438 := Nat.le_trans Z420 E429.1
      have hk439 := Nat.le_trans hk421 E429.1
      have O440 := O422.ext E429
      have V434 : Arv Z h425 a432 kc426 .char (1 : Int32) [] (.int 0) := Arv.new A430 (by decide)
      refine Way.by st431 ?_
      show Way _ _ _ _ (T424.setTop (mkF m 129 #[iv p0, iv p1, iv p2, iv p3, iv p4, iv 1, iv 1, iv 1, iv x_pv363, iv x_pv383, iv x_pv363, iv x_pv383, rv a395, .unset, .unset, .unset, .unset, .unset, .unset] [(.ref a432)]))
      refine Way.by (fun _ k => XS.dup X427.here hx rfl (hb hby at_129) rfl rfl k) ?_
      show Way _ _ _ _ (T424.setTop (mkF m 130 #[iv p0, iv p1, iv p2, iv p3, iv p4, iv 1, iv 1, iv 1, iv x_pv363, iv x_pv383, iv x_pv363, iv x_pv383, rv a395, .unset, .unset, .unset, .unset, .unset, .unset] [(.ref a432), (.ref a432)]))
      refine Way.by (fun _ k => XS.iconst X427.here hx rfl (hb hby at_130) k) ?_
      show Way _ _ _ _ (T424.setTop (mkF m 131 #[iv p0, iv p1, iv p2, iv p3, iv p4, iv 1, iv 1, iv 1, iv x_pv363, iv x_pv383, iv x_pv363, iv x_pv383, rv a395, .unset, .unset, .unset, .unset, .unset, .unset] [(.int 0), (.ref a432), (.ref a432)]))
      refine Way.by (fun _ k => XS.iload X427.here hx rfl (hb hby at_131) rfl k) ?_
      show Way _ _ _ _ (T424.setTop (mkF m 133 #[iv p0, iv p1, iv p2, iv p3, iv p4, iv 1, iv 1, iv 1, iv x_pv363, iv x_pv383, iv x_pv363, iv x_pv383, rv a395, .unset, .unset, .unset, .unset, .unset, .unset] [(.int x_pv363), (.int 0), (.ref a432), (.ref a432)]))
      have V441 : Arv Z h425 a432 kc426 .char (1 : Int32) [(.int 0)] (.int 0) := V434.pad (pad_rep [] (.int 0) 1)
      obtain ⟨c442, A443, q444, S445, M446, H447, U448⟩ := id V441
      obtain ⟨T449, h450, X451, e452, W453, st454⟩ := stC X427 hx hZ0 e428 A443 (j := (0 : Int32)) (inb_of S445 ⟨(by decide), (by decide)⟩) (g := (mkF m 133 #[iv p0, iv p1, iv p2, iv p3, iv p4, iv 1, iv 1, iv 1, iv x_pv363, iv x_pv383, iv x_pv363, iv x_pv383, rv a395, .unset, .unset, .unset, .unset, .unset, .unset] [(.int x_pv363), (.int 0), (.ref a432), (.ref a432)])) rfl rfl (hb hby at_133)
      have N455 := Fr.snoc X451 N416 nw436
      have V456 : Arv Z h450 a432 kc426 .char (1 : Int32) [(.int (nar .char x_pv363))] (.int 0) := Arv.set A443 q444 S445 M446 H447 U448 (fits_nar_char _) W453 0 rfl (leB rfl)
      have nq458 : nar .char x_pv363 = x_pv363 := own_nar (by have q := pu_OK362.rng; omega)
      have V457 : Arv Z h450 a432 kc426 .char (1 : Int32) [(.int x_pv363)] (.int 0) := by rw [nq458] at V456; exact V456
      have A459 := A437.other W453 ne435
      have Z460 : n0 ≤ h450.size := by rw [W453.size]; exact Z438
      have hk461 := Nat.le_trans hk439 (Nat.le_of_eq W453.size.symm)
      have O462 := O440.wr W453 nw436
      refine Way.by st454 ?_
      show Way _ _ _ _ (T449.setTop (mkF m 134 #[iv p0, iv p1, iv p2, iv p3, iv p4, iv 1, iv 1, iv 1, iv x_pv363, iv x_pv383, iv x_pv363, iv x_pv383, rv a395, .unset, .unset, .unset, .unset, .unset, .unset] [(.ref a432)]))
      refine Way.by (fun _ k => XS.goto X451.here hx rfl (pc0 := 134) (pc' := 150) rfl (hb hby at_134) (by decide) (by decide) k) ?_
      show Way _ _ _ _ (T449.setTop (mkF m 150 #[iv p0, iv p1, iv p2, iv p3, iv p4, iv 1, iv 1, iv 1, iv x_pv363, iv x_pv383, iv x_pv363, iv x_pv383, rv a395, .unset, .unset, .unset, .unset, .unset, .unset] [(.ref a432)]))
      refine Way.by (fun _ k => XS.astore X451.here hx rfl (hb hby at_150) rfl rfl (l' := #[iv p0, iv p1, iv p2, iv p3, iv p4, iv 1, iv 1, iv 1, iv x_pv363, iv x_pv383, iv x_pv363, iv x_pv383, rv a395, rv a432, .unset, .unset, .unset, .unset, .unset]) rfl k) ?_
      show Way _ _ _ _ (T449.setTop (mkF m 152 #[iv p0, iv p1, iv p2, iv p3, iv p4, iv 1, iv 1, iv 1, iv x_pv363, iv x_pv383, iv x_pv363, iv x_pv383, rv a395, rv a432, .unset, .unset, .unset, .unset, .unset] []))
      exact seg152 l Z a0 hw ws p0 p1 p2 p3 p4 ur up ut h0 n0 Z0 O0 SV SRULE ERULE FPU SPU p e s m below meth c s₁ Bd hml _ hZ0 hown0 _ hS0 T449 h450 _ (X451.mono (by decide) (by decide)) e452 N455 Z460 hk461 O462 (1 : Int32) (1 : Int32) x_pv363 x_pv383 x_pv363 x_pv383 (1 : Int32) a395 a432 kc389 kc426 [x_pv363] [x_pv363] A459 V457 (by intro c hc; simp only [List.mem_cons, List.not_mem_nil, or_false] at hc; rcases hc with rfl <;> assumption) (by intro c hc; simp only [List.mem_cons, List.not_mem_nil, or_false] at hc; rcases hc with rfl <;> assumption) (by simp) (by simp) (Or.inl ⟨rfl, rfl⟩) (Or.inl ⟨rfl, rfl⟩) ne435
  · skip
    show Way _ _ _ _ (s₁.setTop (mkF m 6 #[iv p0, iv p1, iv p2, iv p3, iv p4, .unset, .unset, .unset, .unset, .unset, .unset, .unset, .unset, .unset, .unset, .unset, .unset, .unset, .unset] [(.int 2)]))
    refine Way.by (fun _ k => XS.istore XW.here hx rfl (hb hby at_6) rfl (l' := #[iv p0, iv p1, iv p2, iv p3, iv p4, iv 2, .unset, .unset, .unset, .unset, .unset, .unset, .unset, .unset, .unset, .unset, .unset, .unset, .unset]) rfl k) ?_
    show Way _ _ _ _ (s₁.setTop (mkF m 8 #[iv p0, iv p1, iv p2, iv p3, iv p4, iv 2, .unset, .unset, .unset, .unset, .unset, .unset, .unset, .unset, .unset, .unset, .unset, .unset, .unset] []))
    refine Way.by (fun _ k => XS.iload XW.here hx rfl (hb hby at_8) rfl k) ?_
    show Way _ _ _ _ (s₁.setTop (mkF m 10 #[iv p0, iv p1, iv p2, iv p3, iv p4, iv 2, .unset, .unset, .unset, .unset, .unset, .unset, .unset, .unset, .unset, .unset, .unset, .unset, .unset] [(.int p4)]))
    refine Way.by (fun _ k => XS.iconst XW.here hx rfl (hb hby at_10) k) ?_
    show Way _ _ _ _ (s₁.setTop (mkF m 11 #[iv p0, iv p1, iv p2, iv p3, iv p4, iv 2, .unset, .unset, .unset, .unset, .unset, .unset, .unset, .unset, .unset, .unset, .unset, .unset, .unset] [(.int 2), (.int p4)]))
    refine Way.by (fun _ k => XT.ishr XW.here hx rfl (hb hby at_11) rfl k) ?_
    show Way _ _ _ _ (s₁.setTop (mkF m 12 #[iv p0, iv p1, iv p2, iv p3, iv p4, iv 2, .unset, .unset, .unset, .unset, .unset, .unset, .unset, .unset, .unset, .unset, .unset, .unset, .unset] [(.int (p4 >>> ((2 : Int32) &&& 31)))]))
    refine Way.by (fun _ k => XS.iconst XW.here hx rfl (hb hby at_12) k) ?_
    show Way _ _ _ _ (s₁.setTop (mkF m 13 #[iv p0, iv p1, iv p2, iv p3, iv p4, iv 2, .unset, .unset, .unset, .unset, .unset, .unset, .unset, .unset, .unset, .unset, .unset, .unset, .unset] [(.int 1), (.int (p4 >>> ((2 : Int32) &&& 31)))]))
    refine Way.by (fun _ k => XS.iand XW.here hx rfl (hb hby at_13) rfl k) ?_
    show Way _ _ _ _ (s₁.setTop (mkF m 14 #[iv p0, iv p1, iv p2, iv p3, iv p4, iv 2, .unset, .unset, .unset, .unset, .unset, .unset, .unset, .unset, .unset, .unset, .unset, .unset, .unset] [(.int ((p4 >>> ((2 : Int32) &&& 31)) &&& (1 : Int32)))]))
    by_cases b463 : ((p4 >>> ((2 : Int32) &&& 31)) &&& (1 : Int32)) = (0 : Int32)
    · skip
      refine Way.by (fun _ k => XS.ifYes XW.here hx rfl (pc0 := 14) (pc' := 21) rfl (hb hby at_14) rfl ((if0 .eq _).trans (teq b463).1) (by decide) (by decide) k) ?_
      show Way _ _ _ _ (s₁.setTop (mkF m 21 #[iv p0, iv p1, iv p2, iv p3, iv p4, iv 2, .unset, .unset, .unset, .unset, .unset, .unset, .unset, .unset, .unset, .unset, .unset, .unset, .unset] []))
      refine Way.by (fun _ k => XS.iconst XW.here hx rfl (hb hby at_21) k) ?_
      show Way _ _ _ _ (s₁.setTop (mkF m 22 #[iv p0, iv p1, iv p2, iv p3, iv p4, iv 2, .unset, .unset, .unset, .unset, .unset, .unset, .unset, .unset, .unset, .unset, .unset, .unset, .unset] [(.int 0)]))
      refine Way.by (fun _ k => XS.istore XW.here hx rfl (hb hby at_22) rfl (l' := #[iv p0, iv p1, iv p2, iv p3, iv p4, iv 2, iv 0, .unset, .unset, .unset, .unset, .unset, .unset, .unset, .unset, .unset, .unset, .unset, .unset]) rfl k) ?_
      show Way _ _ _ _ (s₁.setTop (mkF m 24 #[iv p0, iv p1, iv p2, iv p3, iv p4, iv 2, iv 0, .unset, .unset, .unset, .unset, .unset, .unset, .unset, .unset, .unset, .unset, .unset, .unset] []))
      refine Way.by (fun _ k => XS.iload XW.here hx rfl (hb hby at_24) rfl k) ?_
      show Way _ _ _ _ (s₁.setTop (mkF m 26 #[iv p0, iv p1, iv p2, iv p3, iv p4, iv 2, iv 0, .unset, .unset, .unset, .unset, .unset, .unset, .unset, .unset, .unset, .unset, .unset, .unset] [(.int 0)]))
      have b464 : (0 : Int32) = (0 : Int32) := by decide
      refine Way.by (fun _ k => XS.ifYes XW.here hx rfl (pc0 := 26) (pc' := 34) rfl (hb hby at_26) rfl ((if0 .eq _).trans (teq b464).1) (by decide) (by decide) k) ?_
      show Way _ _ _ _ (s₁.setTop (mkF m 34 #[iv p0, iv p1, iv p2, iv p3, iv p4, iv 2, iv 0, .unset, .unset, .unset, .unset, .unset, .unset, .unset, .unset, .unset, .unset, .unset, .unset] []))
      refine Way.by (fun _ k => XS.iconst XW.here hx rfl (hb hby at_34) k) ?_
      show Way _ _ _ _ (s₁.setTop (mkF m 35 #[iv p0, iv p1, iv p2, iv p3, iv p4, iv 2, iv 0, .unset, .unset, .unset, .unset, .unset, .unset, .unset, .unset, .unset, .unset, .unset, .unset] [(.int 1)]))
      refine Way.by (fun _ k => XS.iload XW.here hx rfl (hb hby at_35) rfl k) ?_
      show Way _ _ _ _ (s₁.setTop (mkF m 37 #[iv p0, iv p1, iv p2, iv p3, iv p4, iv 2, iv 0, .unset, .unset, .unset, .unset, .unset, .unset, .unset, .unset, .unset, .unset, .unset, .unset] [(.int p4), (.int 1)]))
      refine Way.by (fun _ k => XS.iconst XW.here hx rfl (hb hby at_37) k) ?_
      show Way _ _ _ _ (s₁.setTop (mkF m 38 #[iv p0, iv p1, iv p2, iv p3, iv p4, iv 2, iv 0, .unset, .unset, .unset, .unset, .unset, .unset, .unset, .unset, .unset, .unset, .unset, .unset] [(.int 1), (.int p4), (.int 1)]))
      refine Way.by (fun _ k => XT.ishr XW.here hx rfl (hb hby at_38) rfl k) ?_
      show Way _ _ _ _ (s₁.setTop (mkF m 39 #[iv p0, iv p1, iv p2, iv p3, iv p4, iv 2, iv 0, .unset, .unset, .unset, .unset, .unset, .unset, .unset, .unset, .unset, .unset, .unset, .unset] [(.int (p4 >>> ((1 : Int32) &&& 31))), (.int 1)]))
      refine Way.by (fun _ k => XS.iconst XW.here hx rfl (hb hby at_39) k) ?_
      show Way _ _ _ _ (s₁.setTop (mkF m 40 #[iv p0, iv p1, iv p2, iv p3, iv p4, iv 2, iv 0, .unset, .unset, .unset, .unset, .unset, .unset, .unset, .unset, .unset, .unset, .unset, .unset] [(.int 1), (.int (p4 >>> ((1 : Int32) &&& 31))), (.int 1)]))
      refine Way.by (fun _ k => XS.iand XW.here hx rfl (hb hby at_40) rfl k) ?_
      show Way _ _ _ _ (s₁.setTop (mkF m 41 #[iv p0, iv p1, iv p2, iv p3, iv p4, iv 2, iv 0, .unset, .unset, .unset, .unset, .unset, .unset, .unset, .unset, .unset, .unset, .unset, .unset] [(.int ((p4 >>> ((1 : Int32) &&& 31)) &&& (1 : Int32))), (.int 1)]))
      refine Way.by (fun _ k => XS.iadd XW.here hx rfl (hb hby at_41) rfl k) ?_
      show Way _ _ _ _ (s₁.setTop (mkF m 42 #[iv p0, iv p1, iv p2, iv p3, iv p4, iv 2, iv 0, .unset, .unset, .unset, .unset, .unset, .unset, .unset, .unset, .unset, .unset, .unset, .unset] [(.int ((1 : Int32) + ((p4 >>> ((1 : Int32) &&& 31)) &&& (1 : Int32))))]))
      rcases and_one (p4 >>> ((1 : Int32) &&& 31)) with q2 | q2
      all_goals rw [q2]
      · skip
        show Way _ _ _ _ (s₁.setTop (mkF m 42 #[iv p0, iv p1, iv p2, iv p3, iv p4, iv 2, iv 0, .unset, .unset, .unset, .unset, .unset, .unset, .unset, .unset, .unset, .unset, .unset, .unset] [(.int 1)]))
        refine Way.by (fun _ k => XS.istore XW.here hx rfl (hb hby at_42) rfl (l' := #[iv p0, iv p1, iv p2, iv p3, iv p4, iv 2, iv 0, iv 1, .unset, .unset, .unset, .unset, .unset, .unset, .unset, .unset, .unset, .unset, .unset]) rfl k) ?_
        show Way _ _ _ _ (s₁.setTop (mkF m 44 #[iv p0, iv p1, iv p2, iv p3, iv p4, iv 2, iv 0, iv 1, .unset, .unset, .unset, .unset, .unset, .unset, .unset, .unset, .unset, .unset, .unset] []))
        refine Way.by (fun _ k => XS.iloadN XW.here hx rfl (hb hby at_44) rfl k) ?_
        show Way _ _ _ _ (s₁.setTop (mkF m 45 #[iv p0, iv p1, iv p2, iv p3, iv p4, iv 2, iv 0, iv 1, .unset, .unset, .unset, .unset, .unset, .unset, .unset, .unset, .unset, .unset, .unset] [(.int p0)]))
        obtain ⟨_, _, ⟨T465, L467, k468, n469⟩, -, X466, ⟨Lc470, hQ471, l472, y473, z474⟩, st475⟩ := Jvm.LawKit.callS XW hx (y := (⟨"com/example/deduct/deduct/model/ItemIdEqualsPinLaw", "pick", "(I)C"⟩ : MethodName)) hown0 (mvT hZ0 (tw hw 0 rfl)) (mvT hZ0 (tw hw 1 rfl)) (mvT hZ0 (tw hw 2 rfl)) (mvT hZ0 (tw hw 3 rfl)) (by decide) (backOf (W := 0) (rmK l Z a0 hw [] p0 h0 n0 Z0 ) hZ0 (tw hw 3 rfl) (tw hw 2 rfl) (by decide) (by decide)) (g := (mkF m 45 #[iv p0, iv p1, iv p2, iv p3, iv p4, iv 2, iv 0, iv 1, .unset, .unset, .unset, .unset, .unset, .unset, .unset, .unset, .unset, .unset, .unset] [(.int p0)])) rfl (by rw [hml]; rfl) (argsL := [(.int p0)]) (rest := []) (lenOf pdK rfl) rfl (leW rfl) (hb hby at_45) (fun _ _ => ⟨rfl, e0, (leB rfl), (leB rfl)⟩)
        dsimp only [Pt.U, Pt.locs, Pt.cells, Pt.slots] at X466 l472 y473 z474 st475 hQ471
        subst l472 y473 z474
        obtain ⟨x_pv484, rfl, N481, e477, pu_OK483⟩ := hQ471
        have N476 := Fr.app N0 N481
        refine Way.by st475 ?_
        show Way _ _ _ _ (T465.setTop (mkF m 48 #[iv p0, iv p1, iv p2, iv p3, iv p4, iv 2, iv 0, iv 1, .unset, .unset, .unset, .unset, .unset, .unset, .unset, .unset, .unset, .unset, .unset] [(.int x_pv484)]))
        refine Way.by (fun _ k => XS.istore X466.here hx rfl (hb hby at_48) rfl (l' := #[iv p0, iv p1, iv p2, iv p3, iv p4, iv 2, iv 0, iv 1, iv x_pv484, .unset, .unset, .unset, .unset, .unset, .unset, .unset, .unset, .unset, .unset]) rfl k) ?_
        show Way _ _ _ _ (T465.setTop (mkF m 50 #[iv p0, iv p1, iv p2, iv p3, iv p4, iv 2, iv 0, iv 1, iv x_pv484, .unset, .unset, .unset, .unset, .unset, .unset, .unset, .unset, .unset, .unset] []))
        refine Way.by (fun _ k => XS.iloadN X466.here hx rfl (hb hby at_50) rfl k) ?_
        show Way _ _ _ _ (T465.setTop (mkF m 51 #[iv p0, iv p1, iv p2, iv p3, iv p4, iv 2, iv 0, iv 1, iv x_pv484, .unset, .unset, .unset, .unset, .unset, .unset, .unset, .unset, .unset, .unset] [(.int p1)]))
        obtain ⟨_, _, ⟨T485, L487, k488, n489⟩, -, X486, ⟨Lc490, hQ491, l492, y493, z494⟩, st495⟩ := Jvm.LawKit.callS X466 hx (y := (⟨"com/example/deduct/deduct/model/ItemIdEqualsPinLaw", "pick", "(I)C"⟩ : MethodName)) hown0 (mvT hZ0 (tw hw 0 rfl)) (mvT hZ0 (tw hw 1 rfl)) (mvT hZ0 (tw hw 2 rfl)) (mvT hZ0 (tw hw 3 rfl)) (by decide) (backOf (W := 0) (rmK l Z a0 hw [] p1 h0 n0 Z0 ) hZ0 (tw hw 3 rfl) (tw hw 2 rfl) (by decide) (by decide)) (g := (mkF m 51 #[iv p0, iv p1, iv p2, iv p3, iv p4, iv 2, iv 0, iv 1, iv x_pv484, .unset, .unset, .unset, .unset, .unset, .unset, .unset, .unset, .unset, .unset] [(.int p1)])) rfl (by rw [hml]; rfl) (argsL := [(.int p1)]) (rest := []) (lenOf pdK rfl) rfl (leW rfl) (hb hby at_51) (fun _ _ => ⟨rfl, e477, (leB rfl), (leB rfl)⟩)
        dsimp only [Pt.U, Pt.locs, Pt.cells, Pt.slots] at X486 l492 y493 z494 st495 hQ491
        subst l492 y493 z494
        obtain ⟨x_pv504, rfl, N501, e497, pu_OK503⟩ := hQ491
        have N496 := Fr.app N476 N501
        refine Way.by st495 ?_
        show Way _ _ _ _ (T485.setTop (mkF m 54 #[iv p0, iv p1, iv p2, iv p3, iv p4, iv 2, iv 0, iv 1, iv x_pv484, .unset, .unset, .unset, .unset, .unset, .unset, .unset, .unset, .unset, .unset] [(.int x_pv504)]))
        refine Way.by (fun _ k => XS.istore X486.here hx rfl (hb hby at_54) rfl (l' := #[iv p0, iv p1, iv p2, iv p3, iv p4, iv 2, iv 0, iv 1, iv x_pv484, iv x_pv504, .unset, .unset, .unset, .unset, .unset, .unset, .unset, .unset, .unset]) rfl k) ?_
        show Way _ _ _ _ (T485.setTop (mkF m 56 #[iv p0, iv p1, iv p2, iv p3, iv p4, iv 2, iv 0, iv 1, iv x_pv484, iv x_pv504, .unset, .unset, .unset, .unset, .unset, .unset, .unset, .unset, .unset] []))
        refine Way.by (fun _ k => XS.iload X486.here hx rfl (hb hby at_56) rfl k) ?_
        show Way _ _ _ _ (T485.setTop (mkF m 58 #[iv p0, iv p1, iv p2, iv p3, iv p4, iv 2, iv 0, iv 1, iv x_pv484, iv x_pv504, .unset, .unset, .unset, .unset, .unset, .unset, .unset, .unset, .unset] [(.int 0)]))
        have b505 : (0 : Int32) = (0 : Int32) := by decide
        refine Way.by (fun _ k => XS.ifYes X486.here hx rfl (pc0 := 58) (pc' := 66) rfl (hb hby at_58) rfl ((if0 .eq _).trans (teq b505).1) (by decide) (by decide) k) ?_
        show Way _ _ _ _ (T485.setTop (mkF m 66 #[iv p0, iv p1, iv p2, iv p3, iv p4, iv 2, iv 0, iv 1, iv x_pv484, iv x_pv504, .unset, .unset, .unset, .unset, .unset, .unset, .unset, .unset, .unset] []))
        refine Way.by (fun _ k => XS.iloadN X486.here hx rfl (hb hby at_66) rfl k) ?_
        show Way _ _ _ _ (T485.setTop (mkF m 67 #[iv p0, iv p1, iv p2, iv p3, iv p4, iv 2, iv 0, iv 1, iv x_pv484, iv x_pv504, .unset, .unset, .unset, .unset, .unset, .unset, .unset, .unset, .unset] [(.int p2)]))
        obtain ⟨_, _, ⟨T506, L508, k509, n510⟩, -, X507, ⟨Lc511, hQ512, l513, y514, z515⟩, st516⟩ := Jvm.LawKit.callS X486 hx (y := (⟨"com/example/deduct/deduct/model/ItemIdEqualsPinLaw", "pick", "(I)C"⟩ : MethodName)) hown0 (mvT hZ0 (tw hw 0 rfl)) (mvT hZ0 (tw hw 1 rfl)) (mvT hZ0 (tw hw 2 rfl)) (mvT hZ0 (tw hw 3 rfl)) (by decide) (backOf (W := 0) (rmK l Z a0 hw [] p2 h0 n0 Z0 ) hZ0 (tw hw 3 rfl) (tw hw 2 rfl) (by decide) (by decide)) (g := (mkF m 67 #[iv p0, iv p1, iv p2, iv p3, iv p4, iv 2, iv 0, iv 1, iv x_pv484, iv x_pv504, .unset, .unset, .unset, .unset, .unset, .unset, .unset, .unset, .unset] [(.int p2)])) rfl (by rw [hml]; rfl) (argsL := [(.int p2)]) (rest := []) (lenOf pdK rfl) rfl (leW rfl) (hb hby at_67) (fun _ _ => ⟨rfl, e497, (leB rfl), (leB rfl)⟩)
        dsimp only [Pt.U, Pt.locs, Pt.cells, Pt.slots] at X507 l513 y514 z515 st516 hQ512
        subst l513 y514 z515
        obtain ⟨x_pv525, rfl, N522, e518, pu_OK524⟩ := hQ512
        have N517 := Fr.app N496 N522
        refine Way.by st516 ?_
        show Way _ _ _ _ (T506.setTop (mkF m 70 #[iv p0, iv p1, iv p2, iv p3, iv p4, iv 2, iv 0, iv 1, iv x_pv484, iv x_pv504, .unset, .unset, .unset, .unset, .unset, .unset, .unset, .unset, .unset] [(.int x_pv525)]))
        refine Way.by (fun _ k => XS.istore X507.here hx rfl (hb hby at_70) rfl (l' := #[iv p0, iv p1, iv p2, iv p3, iv p4, iv 2, iv 0, iv 1, iv x_pv484, iv x_pv504, iv x_pv525, .unset, .unset, .unset, .unset, .unset, .unset, .unset, .unset]) rfl k) ?_
        show Way _ _ _ _ (T506.setTop (mkF m 72 #[iv p0, iv p1, iv p2, iv p3, iv p4, iv 2, iv 0, iv 1, iv x_pv484, iv x_pv504, iv x_pv525, .unset, .unset, .unset, .unset, .unset, .unset, .unset, .unset] []))
        refine Way.by (fun _ k => XS.iload X507.here hx rfl (hb hby at_72) rfl k) ?_
        show Way _ _ _ _ (T506.setTop (mkF m 74 #[iv p0, iv p1, iv p2, iv p3, iv p4, iv 2, iv 0, iv 1, iv x_pv484, iv x_pv504, iv x_pv525, .unset, .unset, .unset, .unset, .unset, .unset, .unset, .unset] [(.int 0)]))
        have b526 : (0 : Int32) = (0 : Int32) := by decide
        refine Way.by (fun _ k => XS.ifYes X507.here hx rfl (pc0 := 74) (pc' := 82) rfl (hb hby at_74) rfl ((if0 .eq _).trans (teq b526).1) (by decide) (by decide) k) ?_
        show Way _ _ _ _ (T506.setTop (mkF m 82 #[iv p0, iv p1, iv p2, iv p3, iv p4, iv 2, iv 0, iv 1, iv x_pv484, iv x_pv504, iv x_pv525, .unset, .unset, .unset, .unset, .unset, .unset, .unset, .unset] []))
        refine Way.by (fun _ k => XS.iloadN X507.here hx rfl (hb hby at_82) rfl k) ?_
        show Way _ _ _ _ (T506.setTop (mkF m 83 #[iv p0, iv p1, iv p2, iv p3, iv p4, iv 2, iv 0, iv 1, iv x_pv484, iv x_pv504, iv x_pv525, .unset, .unset, .unset, .unset, .unset, .unset, .unset, .unset] [(.int p3)]))
        obtain ⟨_, _, ⟨T527, L529, k530, n531⟩, -, X528, ⟨Lc532, hQ533, l534, y535, z536⟩, st537⟩ := Jvm.LawKit.callS X507 hx (y := (⟨"com/example/deduct/deduct/model/ItemIdEqualsPinLaw", "pick", "(I)C"⟩ : MethodName)) hown0 (mvT hZ0 (tw hw 0 rfl)) (mvT hZ0 (tw hw 1 rfl)) (mvT hZ0 (tw hw 2 rfl)) (mvT hZ0 (tw hw 3 rfl)) (by decide) (backOf (W := 0) (rmK l Z a0 hw [] p3 h0 n0 Z0 ) hZ0 (tw hw 3 rfl) (tw hw 2 rfl) (by decide) (by decide)) (g := (mkF m 83 #[iv p0, iv p1, iv p2, iv p3, iv p4, iv 2, iv 0, iv 1, iv x_pv484, iv x_pv504, iv x_pv525, .unset, .unset, .unset, .unset, .unset, .unset, .unset, .unset] [(.int p3)])) rfl (by rw [hml]; rfl) (argsL := [(.int p3)]) (rest := []) (lenOf pdK rfl) rfl (leW rfl) (hb hby at_83) (fun _ _ => ⟨rfl, e518, (leB rfl), (leB rfl)⟩)
        dsimp only [Pt.U, Pt.locs, Pt.cells, Pt.slots] at X528 l534 y535 z536 st537 hQ533
        subst l534 y535 z536
        obtain ⟨x_pv546, rfl, N543, e539, pu_OK545⟩ := hQ533
        have N538 := Fr.app N517 N543
        refine Way.by st537 ?_
        show Way _ _ _ _ (T527.setTop (mkF m 86 #[iv p0, iv p1, iv p2, iv p3, iv p4, iv 2, iv 0, iv 1, iv x_pv484, iv x_pv504, iv x_pv525, .unset, .unset, .unset, .unset, .unset, .unset, .unset, .unset] [(.int x_pv546)]))
        refine Way.by (fun _ k => XS.istore X528.here hx rfl (hb hby at_86) rfl (l' := #[iv p0, iv p1, iv p2, iv p3, iv p4, iv 2, iv 0, iv 1, iv x_pv484, iv x_pv504, iv x_pv525, iv x_pv546, .unset, .unset, .unset, .unset, .unset, .unset, .unset]) rfl k) ?_
        show Way _ _ _ _ (T527.setTop (mkF m 88 #[iv p0, iv p1, iv p2, iv p3, iv p4, iv 2, iv 0, iv 1, iv x_pv484, iv x_pv504, iv x_pv525, iv x_pv546, .unset, .unset, .unset, .unset, .unset, .unset, .unset] []))
        refine Way.by (fun _ k => XS.iload X528.here hx rfl (hb hby at_88) rfl k) ?_
        show Way _ _ _ _ (T527.setTop (mkF m 90 #[iv p0, iv p1, iv p2, iv p3, iv p4, iv 2, iv 0, iv 1, iv x_pv484, iv x_pv504, iv x_pv525, iv x_pv546, .unset, .unset, .unset, .unset, .unset, .unset, .unset] [(.int 2)]))
        refine Way.by (fun _ k => XS.iconst X528.here hx rfl (hb hby at_90) k) ?_
        show Way _ _ _ _ (T527.setTop (mkF m 91 #[iv p0, iv p1, iv p2, iv p3, iv p4, iv 2, iv 0, iv 1, iv x_pv484, iv x_pv504, iv x_pv525, iv x_pv546, .unset, .unset, .unset, .unset, .unset, .unset, .unset] [(.int 1), (.int 2)]))
        have b547 : ¬ (2 : Int32) = (1 : Int32) := by decide
        refine Way.by (fun _ k => XS.icmpYes X528.here hx rfl (pc0 := 91) (pc' := 105) rfl (hb hby at_91) rfl (feq b547).2 (by decide) (by decide) k) ?_
        show Way _ _ _ _ (T527.setTop (mkF m 105 #[iv p0, iv p1, iv p2, iv p3, iv p4, iv 2, iv 0, iv 1, iv x_pv484, iv x_pv504, iv x_pv525, iv x_pv546, .unset, .unset, .unset, .unset, .unset, .unset, .unset] []))
        refine Way.by (fun _ k => XS.iconst X528.here hx rfl (hb hby at_105) k) ?_
        show Way _ _ _ _ (T527.setTop (mkF m 106 #[iv p0, iv p1, iv p2, iv p3, iv p4, iv 2, iv 0, iv 1, iv x_pv484, iv x_pv504, iv x_pv525, iv x_pv546, .unset, .unset, .unset, .unset, .unset, .unset, .unset] [(.int 2)]))
        obtain ⟨T548, h549, kc550, X551, e552, E553, A554, st555⟩ := newP X528 hx hZ0 (tw hw 5 rfl) e539 (g := (mkF m 106 #[iv p0, iv p1, iv p2, iv p3, iv p4, iv 2, iv 0, iv 1, iv x_pv484, iv x_pv504, iv x_pv525, iv x_pv546, .unset, .unset, .unset, .unset, .unset, .unset, .unset] [(.int 2)])) rfl (hb hby at_106) rfl (by decide) (cap := 2) (by decide) (by decide) (by decide) (by decide)
        obtain ⟨a556, g557⟩ : ∃ z, z = h0.size := ⟨_, rfl⟩
        rw [← g557] at A554 st555
        have nw559 : n0 ≤ a556 := Nat.le_trans Z0 (Nat.le_of_eq g557.symm)
        have Z560 := Nat.le_trans Z0 E553.1
        have hk561 := Nat.le_trans (Nat.zero_le _) E553.1
        have O562 := O0.ext E553
        have V558 : Arv Z h549 a556 kc550 .char (2 : Int32) [] (.int 0) := Arv.new A554 (by decide)
        refine Way.by st555 ?_
        show Way _ _ _ _ (T548.setTop (mkF m 108 #[iv p0, iv p1, iv p2, iv p3, iv p4, iv 2, iv 0, iv 1, iv x_pv484, iv x_pv504, iv x_pv525, iv x_pv546, .unset, .unset, .unset, .unset, .unset, .unset, .unset] [(.ref a556)]))
        refine Way.by (fun _ k => XS.dup X551.here hx rfl (hb hby at_108) rfl rfl k) ?_
        show Way _ _ _ _ (T548.setTop (mkF m 109 #[iv p0, iv p1, iv p2, iv p3, iv p4, iv 2, iv 0, iv 1, iv x_pv484, iv x_pv504, iv x_pv525, iv x_pv546, .unset, .unset, .unset, .unset, .unset, .unset, .unset] [(.ref a556), (.ref a556)]))
        refine Way.by (fun _ k => XS.iconst X551.here hx rfl (hb hby at_109) k) ?_
        show Way _ _ _ _ (T548.setTop (mkF m 110 #[iv p0, iv p1, iv p2, iv p3, iv p4, iv 2, iv 0, iv 1, iv x_pv484, iv x_pv504, iv x_pv525, iv x_pv546, .unset, .unset, .unset, .unset, .unset, .unset, .unset] [(.int 0), (.ref a556), (.ref a556)]))
        refine Way.by (fun _ k => XS.iload X551.here hx rfl (hb hby at_110) rfl k) ?_
        show Way _ _ _ _ (T548.setTop (mkF m 112 #[iv p0, iv p1, iv p2, iv p3, iv p4, iv 2, iv 0, iv 1, iv x_pv484, iv x_pv504, iv x_pv525, iv x_pv546, .unset, .unset, .unset, .unset, .unset, .unset, .unset] [(.int x_pv484), (.int 0), (.ref a556), (.ref a556)]))
        have V563 : Arv Z h549 a556 kc550 .char (2 : Int32) [(.int 0)] (.int 0) := V558.pad (pad_rep [] (.int 0) 1)
        obtain ⟨c564, A565, q566, S567, M568, H569, U570⟩ := id V563
        obtain ⟨T571, h572, X573, e574, W575, st576⟩ := stC X551 hx hZ0 e552 A565 (j := (0 : Int32)) (inb_of S567 ⟨(by decide), (by decide)⟩) (g := (mkF m 112 #[iv p0, iv p1, iv p2, iv p3, iv p4, iv 2, iv 0, iv 1, iv x_pv484, iv x_pv504, iv x_pv525, iv x_pv546, .unset, .unset, .unset, .unset, .unset, .unset, .unset] [(.int x_pv484), (.int 0), (.ref a556), (.ref a556)])) rfl rfl (hb hby at_112)
        have N577 := Fr.snoc X573 N538 nw559
        have V578 : Arv Z h572 a556 kc550 .char (2 : Int32) [(.int (nar .char x_pv484))] (.int 0) := Arv.set A565 q566 S567 M568 H569 U570 (fits_nar_char _) W575 0 rfl (leB rfl)
        have nq580 : nar .char x_pv484 = x_pv484 := own_nar (by have q := pu_OK483.rng; omega)
        have V579 : Arv Z h572 a556 kc550 .char (2 : Int32) [(.int x_pv484)] (.int 0) := by rw [nq580] at V578; exact V578
        have Z581 : n0 ≤ h572.size := by rw [W575.size]; exact Z560
        have hk582 := Nat.le_trans hk561 (Nat.le_of_eq W575.size.symm)
        have O583 := O562.wr W575 nw559
        refine Way.by st576 ?_
        show Way _ _ _ _ (T571.setTop (mkF m 113 #[iv p0, iv p1, iv p2, iv p3, iv p4, iv 2, iv 0, iv 1, iv x_pv484, iv x_pv504, iv x_pv525, iv x_pv546, .unset, .unset, .unset, .unset, .unset, .unset, .unset] [(.ref a556)]))
        refine Way.by (fun _ k => XS.dup X573.here hx rfl (hb hby at_113) rfl rfl k) ?_
        show Way _ _ _ _ (T571.setTop (mkF m 114 #[iv p0, iv p1, iv p2, iv p3, iv p4, iv 2, iv 0, iv 1, iv x_pv484, iv x_pv504, iv x_pv525, iv x_pv546, .unset, .unset, .unset, .unset, .unset, .unset, .unset] [(.ref a556), (.ref a556)]))
        refine Way.by (fun _ k => XS.iconst X573.here hx rfl (hb hby at_114) k) ?_
        show Way _ _ _ _ (T571.setTop (mkF m 115 #[iv p0, iv p1, iv p2, iv p3, iv p4, iv 2, iv 0, iv 1, iv x_pv484, iv x_pv504, iv x_pv525, iv x_pv546, .unset, .unset, .unset, .unset, .unset, .unset, .unset] [(.int 1), (.ref a556), (.ref a556)]))
        refine Way.by (fun _ k => XS.iload X573.here hx rfl (hb hby at_115) rfl k) ?_
        show Way _ _ _ _ (T571.setTop (mkF m 117 #[iv p0, iv p1, iv p2, iv p3, iv p4, iv 2, iv 0, iv 1, iv x_pv484, iv x_pv504, iv x_pv525, iv x_pv546, .unset, .unset, .unset, .unset, .unset, .unset, .unset] [(.int x_pv504), (.int 1), (.ref a556), (.ref a556)]))
        have V584 : Arv Z h572 a556 kc550 .char (2 : Int32) [(.int x_pv484), (.int 0)] (.int 0) := V579.pad (pad_rep [(.int x_pv484)] (.int 0) 1)
        obtain ⟨c585, A586, q587, S588, M589, H590, U591⟩ := id V584
        obtain ⟨T592, h593, X594, e595, W596, st597⟩ := stC X573 hx hZ0 e574 A586 (j := (1 : Int32)) (inb_of S588 ⟨(by decide), (by decide)⟩) (g := (mkF m 117 #[iv p0, iv p1, iv p2, iv p3, iv p4, iv 2, iv 0, iv 1, iv x_pv484, iv x_pv504, iv x_pv525, iv x_pv546, .unset, .unset, .unset, .unset, .unset, .unset, .unset] [(.int x_pv504), (.int 1), (.ref a556), (.ref a556)])) rfl rfl (hb hby at_117)
        have N598 := Fr.snoc X594 N577 nw559
        have V599 : Arv Z h593 a556 kc550 .char (2 : Int32) [(.int x_pv484), (.int (nar .char x_pv504))] (.int 0) := Arv.set A586 q587 S588 M589 H590 U591 (fits_nar_char _) W596 1 rfl (leB rfl)
        have nq601 : nar .char x_pv504 = x_pv504 := own_nar (by have q := pu_OK503.rng; omega)
        have V600 : Arv Z h593 a556 kc550 .char (2 : Int32) [(.int x_pv484), (.int x_pv504)] (.int 0) := by rw [nq601] at V599; exact V599
        have Z602 : n0 ≤ h593.size := by rw [W596.size]; exact Z581
        have hk603 := Nat.le_trans hk582 (Nat.le_of_eq W596.size.symm)
        have O604 := O583.wr W596 nw559
        refine Way.by st597 ?_
        show Way _ _ _ _ (T592.setTop (mkF m 118 #[iv p0, iv p1, iv p2, iv p3, iv p4, iv 2, iv 0, iv 1, iv x_pv484, iv x_pv504, iv x_pv525, iv x_pv546, .unset, .unset, .unset, .unset, .unset, .unset, .unset] [(.ref a556)]))
        refine Way.by (fun _ k => XS.astore X594.here hx rfl (hb hby at_118) rfl rfl (l' := #[iv p0, iv p1, iv p2, iv p3, iv p4, iv 2, iv 0, iv 1, iv x_pv484, iv x_pv504, iv x_pv525, iv x_pv546, rv a556, .unset, .unset, .unset, .unset, .unset, .unset]) rfl k) ?_
        show Way _ _ _ _ (T592.setTop (mkF m 120 #[iv p0, iv p1, iv p2, iv p3, iv p4, iv 2, iv 0, iv 1, iv x_pv484, iv x_pv504, iv x_pv525, iv x_pv546, rv a556, .unset, .unset, .unset, .unset, .unset, .unset] []))
        refine Way.by (fun _ k => XS.iload X594.here hx rfl (hb hby at_120) rfl k) ?_
        show Way _ _ _ _ (T592.setTop (mkF m 122 #[iv p0, iv p1, iv p2, iv p3, iv p4, iv 2, iv 0, iv 1, iv x_pv484, iv x_pv504, iv x_pv525, iv x_pv546, rv a556, .unset, .unset, .unset, .unset, .unset, .unset] [(.int 1)]))
        refine Way.by (fun _ k => XS.iconst X594.here hx rfl (hb hby at_122) k) ?_
        show Way _ _ _ _ (T592.setTop (mkF m 123 #[iv p0, iv p1, iv p2, iv p3, iv p4, iv 2, iv 0, iv 1, iv x_pv484, iv x_pv504, iv x_pv525, iv x_pv546, rv a556, .unset, .unset, .unset, .unset, .unset, .unset] [(.int 1), (.int 1)]))
        have b605 : (1 : Int32) = (1 : Int32) := by decide
        refine Way.by (fun _ k => XS.icmpNo X594.here hx rfl (hb hby at_123) rfl (teq b605).2 k) ?_
        show Way _ _ _ _ (T592.setTop (mkF m 126 #[iv p0, iv p1, iv p2, iv p3, iv p4, iv 2, iv 0, iv 1, iv x_pv484, iv x_pv504, iv x_pv525, iv x_pv546, rv a556, .unset, .unset, .unset, .unset, .unset, .unset] []))
        refine Way.by (fun _ k => XS.iconst X594.here hx rfl (hb hby at_126) k) ?_
        show Way _ _ _ _ (T592.setTop (mkF m 127 #[iv p0, iv p1, iv p2, iv p3, iv p4, iv 2, iv 0, iv 1, iv x_pv484, iv x_pv504, iv x_pv525, iv x_pv546, rv a556, .unset, .unset, .unset, .unset, .unset, .unset] [(.int 1)]))
        obtain ⟨T606, h607, kc608, X609, e610, E611, A612, st613⟩ := newP X594 hx hZ0 (tw hw 5 rfl) e595 (g := (mkF m 127 #[iv p0, iv p1, iv p2, iv p3, iv p4, iv 2, iv 0, iv 1, iv x_pv484, iv x_pv504, iv x_pv525, iv x_pv546, rv a556, .unset, .unset, .unset, .unset, .unset, .unset] [(.int 1)])) rfl (hb hby at_127) rfl (by decide) (cap := 1) (by decide) (by decide) (by decide) (by decide)
        obtain ⟨a614, g615⟩ : ∃ z, z = h593.size := ⟨_, rfl⟩
        rw [← g615] at A612 st613
        have ne617 : a556 ≠ a614 := Nat.ne_of_lt (Nat.lt_of_lt_of_eq V600.lt g615.symm)
        have nw618 : n0 ≤ a614 := Nat.le_trans Z602 (Nat.le_of_eq g615.symm)
        have A619 := V600.ext E611
        have Z620 := Nat.le_trans Z602 E611.1
        have hk621 := Nat.le_trans hk603 E611.1
        have O622 := O604.ext E611
        have V616 : Arv Z h607 a614 kc608 .char (1 : Int32) [] (.int 0) := Arv.new A612 (by decide)
        refine Way.by st613 ?_
        show Way _ _ _ _ (T606.setTop (mkF m 129 #[iv p0, iv p1, iv p2, iv p3, iv p4, iv 2, iv 0, iv 1, iv x_pv484, iv x_pv504, iv x_pv525, iv x_pv546, rv a556, .unset, .unset, .unset, .unset, .unset, .unset] [(.ref a614)]))
        refine Way.by (fun _ k => XS.dup X609.here hx rfl (hb hby at_129) rfl rfl k) ?_
        show Way _ _ _ _ (T606.setTop (mkF m 130 #[iv p0, iv p1, iv p2, iv p3, iv p4, iv 2, iv 0, iv 1, iv x_pv484, iv x_pv504, iv x_pv525, iv x_pv546, rv a556, .unset, .unset, .unset, .unset, .unset, .unset] [(.ref a614), (.ref a614)]))
        refine Way.by (fun _ k => XS.iconst X609.here hx rfl (hb hby at_130) k) ?_
        show Way _ _ _ _ (T606.setTop (mkF m 131 #[iv p0, iv p1, iv p2, iv p3, iv p4, iv 2, iv 0, iv 1, iv x_pv484, iv x_pv504, iv x_pv525, iv x_pv546, rv a556, .unset, .unset, .unset, .unset, .unset, .unset] [(.int 0), (.ref a614), (.ref a614)]))
        refine Way.by (fun _ k => XS.iload X609.here hx rfl (hb hby at_131) rfl k) ?_
        show Way _ _ _ _ (T606.setTop (mkF m 133 #[iv p0, iv p1, iv p2, iv p3, iv p4, iv 2, iv 0, iv 1, iv x_pv484, iv x_pv504, iv x_pv525, iv x_pv546, rv a556, .unset, .unset, .unset, .unset, .unset, .unset] [(.int x_pv525), (.int 0), (.ref a614), (.ref a614)]))
        have V623 : Arv Z h607 a614 kc608 .char (1 : Int32) [(.int 0)] (.int 0) := V616.pad (pad_rep [] (.int 0) 1)
        obtain ⟨c624, A625, q626, S627, M628, H629, U630⟩ := id V623
        obtain ⟨T631, h632, X633, e634, W635, st636⟩ := stC X609 hx hZ0 e610 A625 (j := (0 : Int32)) (inb_of S627 ⟨(by decide), (by decide)⟩) (g := (mkF m 133 #[iv p0, iv p1, iv p2, iv p3, iv p4, iv 2, iv 0, iv 1, iv x_pv484, iv x_pv504, iv x_pv525, iv x_pv546, rv a556, .unset, .unset, .unset, .unset, .unset, .unset] [(.int x_pv525), (.int 0), (.ref a614), (.ref a614)])) rfl rfl (hb hby at_133)
        have N637 := Fr.snoc X633 N598 nw618
        have V638 : Arv Z h632 a614 kc608 .char (1 : Int32) [(.int (nar .char x_pv525))] (.int 0) := Arv.set A625 q626 S627 M628 H629 U630 (fits_nar_char _) W635 0 rfl (leB rfl)
        have nq640 : nar .char x_pv525 = x_pv525 := own_nar (by have q := pu_OK524.rng; omega)
        have V639 : Arv Z h632 a614 kc608 .char (1 : Int32) [(.int x_pv525)] (.int 0) := by rw [nq640] at V638; exact V638
        have A641 := A619.other W635 ne617
        have Z642 : n0 ≤ h632.size := by rw [W635.size]; exact Z620
        have hk643 := Nat.le_trans hk621 (Nat.le_of_eq W635.size.symm)
        have O644 := O622.wr W635 nw618
        refine Way.by st636 ?_
        show Way _ _ _ _ (T631.setTop (mkF m 134 #[iv p0, iv p1, iv p2, iv p3, iv p4, iv 2, iv 0, iv 1, iv x_pv484, iv x_pv504, iv x_pv525, iv x_pv546, rv a556, .unset, .unset, .unset, .unset, .unset, .unset] [(.ref a614)]))
        refine Way.by (fun _ k => XS.goto X633.here hx rfl (pc0 := 134) (pc' := 150) rfl (hb hby at_134) (by decide) (by decide) k) ?_
        show Way _ _ _ _ (T631.setTop (mkF m 150 #[iv p0, iv p1, iv p2, iv p3, iv p4, iv 2, iv 0, iv 1, iv x_pv484, iv x_pv504, iv x_pv525, iv x_pv546, rv a556, .unset, .unset, .unset, .unset, .unset, .unset] [(.ref a614)]))
        refine Way.by (fun _ k => XS.astore X633.here hx rfl (hb hby at_150) rfl rfl (l' := #[iv p0, iv p1, iv p2, iv p3, iv p4, iv 2, iv 0, iv 1, iv x_pv484, iv x_pv504, iv x_pv525, iv x_pv546, rv a556, rv a614, .unset, .unset, .unset, .unset, .unset]) rfl k) ?_
        show Way _ _ _ _ (T631.setTop (mkF m 152 #[iv p0, iv p1, iv p2, iv p3, iv p4, iv 2, iv 0, iv 1, iv x_pv484, iv x_pv504, iv x_pv525, iv x_pv546, rv a556, rv a614, .unset, .unset, .unset, .unset, .unset] []))
        exact seg152 l Z a0 hw ws p0 p1 p2 p3 p4 ur up ut h0 n0 Z0 O0 SV SRULE ERULE FPU SPU p e s m below meth c s₁ Bd hml _ hZ0 hown0 _ hS0 T631 h632 _ (X633.mono (by decide) (by decide)) e634 N637 Z642 hk643 O644 (2 : Int32) (1 : Int32) x_pv484 x_pv504 x_pv525 x_pv546 (0 : Int32) a556 a614 kc550 kc608 [x_pv484, x_pv504] [x_pv525] A641 V639 (by intro c hc; simp only [List.mem_cons, List.not_mem_nil, or_false] at hc; rcases hc with rfl | rfl <;> assumption) (by intro c hc; simp only [List.mem_cons, List.not_mem_nil, or_false] at hc; rcases hc with rfl <;> assumption) (by simp) (by simp) (Or.inr ⟨rfl, rfl⟩) (Or.inl ⟨rfl, rfl⟩) ne617
      · skip
        show Way _ _ _ _ (s₁.setTop (mkF m 42 #[iv p0, iv p1, iv p2, iv p3, iv p4, iv 2, iv 0, .unset, .unset, .unset, .unset, .unset, .unset, .unset, .unset, .unset, .unset, .unset, .unset] [(.int 2)]))
        refine Way.by (fun _ k => XS.istore XW.here hx rfl (hb hby at_42) rfl (l' := #[iv p0, iv p1, iv p2, iv p3, iv p4, iv 2, iv 0, iv 2, .unset, .unset, .unset, .unset, .unset, .unset, .unset, .unset, .unset, .unset, .unset]) rfl k) ?_
        show Way _ _ _ _ (s₁.setTop (mkF m 44 #[iv p0, iv p1, iv p2, iv p3, iv p4, iv 2, iv 0, iv 2, .unset, .unset, .unset, .unset, .unset, .unset, .unset, .unset, .unset, .unset, .unset] []))
        refine Way.by (fun _ k => XS.iloadN XW.here hx rfl (hb hby at_44) rfl k) ?_
        show Way _ _ _ _ (s₁.setTop (mkF m 45 #[iv p0, iv p1, iv p2, iv p3, iv p4, iv 2, iv 0, iv 2, .unset, .unset, .unset, .unset, .unset, .unset, .unset, .unset, .unset, .unset, .unset] [(.int p0)]))
        obtain ⟨_, _, ⟨T645, L647, k648, n649⟩, -, X646, ⟨Lc650, hQ651, l652, y653, z654⟩, st655⟩ := Jvm.LawKit.callS XW hx (y := (⟨"com/example/deduct/deduct/model/ItemIdEqualsPinLaw", "pick", "(I)C"⟩ : MethodName)) hown0 (mvT hZ0 (tw hw 0 rfl)) (mvT hZ0 (tw hw 1 rfl)) (mvT hZ0 (tw hw 2 rfl)) (mvT hZ0 (tw hw 3 rfl)) (by decide) (backOf (W := 0) (rmK l Z a0 hw [] p0 h0 n0 Z0 ) hZ0 (tw hw 3 rfl) (tw hw 2 rfl) (by decide) (by decide)) (g := (mkF m 45 #[iv p0, iv p1, iv p2, iv p3, iv p4, iv 2, iv 0, iv 2, .unset, .unset, .unset, .unset, .unset, .unset, .unset, .unset, .unset, .unset, .unset] [(.int p0)])) rfl (by rw [hml]; rfl) (argsL := [(.int p0)]) (rest := []) (lenOf pdK rfl) rfl (leW rfl) (hb hby at_45) (fun _ _ => ⟨rfl, e0, (leB rfl), (leB rfl)⟩)
        dsimp only [Pt.U, Pt.locs, Pt.cells, Pt.slots] at X646 l652 y653 z654 st655 hQ651
        subst l652 y653 z654
        obtain ⟨x_pv664, rfl, N661, e657, pu_OK663⟩ := hQ651
        have N656 := Fr.app N0 N661
        refine Way.by st655 ?_
        show Way _ _ _ _ (T645.setTop (mkF m 48 #[iv p0, iv p1, iv p2, iv p3, iv p4, iv 2, iv 0, iv 2, .unset, .unset, .unset, .unset, .unset, .unset, .unset, .unset, .unset, .unset, .unset] [(.int x_pv664)]))
        refine Way.by (fun _ k => XS.istore X646.here hx rfl (hb hby at_48) rfl (l' := #[iv p0, iv p1, iv p2, iv p3, iv p4, iv 2, iv 0, iv 2, iv x_pv664, .unset, .unset, .unset, .unset, .unset, .unset, .unset, .unset, .unset, .unset]) rfl k) ?_
        show Way _ _ _ _ (T645.setTop (mkF m 50 #[iv p0, iv p1, iv p2, iv p3, iv p4, iv 2, iv 0, iv 2, iv x_pv664, .unset, .unset, .unset, .unset, .unset, .unset, .unset, .unset, .unset, .unset] []))
        refine Way.by (fun _ k => XS.iloadN X646.here hx rfl (hb hby at_50) rfl k) ?_
        show Way _ _ _ _ (T645.setTop (mkF m 51 #[iv p0, iv p1, iv p2, iv p3, iv p4, iv 2, iv 0, iv 2, iv x_pv664, .unset, .unset, .unset, .unset, .unset, .unset, .unset, .unset, .unset, .unset] [(.int p1)]))
        obtain ⟨_, _, ⟨T665, L667, k668, n669⟩, -, X666, ⟨Lc670, hQ671, l672, y673, z674⟩, st675⟩ := Jvm.LawKit.callS X646 hx (y := (⟨"com/example/deduct/deduct/model/ItemIdEqualsPinLaw", "pick", "(I)C"⟩ : MethodName)) hown0 (mvT hZ0 (tw hw 0 rfl)) (mvT hZ0 (tw hw 1 rfl)) (mvT hZ0 (tw hw 2 rfl)) (mvT hZ0 (tw hw 3 rfl)) (by decide) (backOf (W := 0) (rmK l Z a0 hw [] p1 h0 n0 Z0 ) hZ0 (tw hw 3 rfl) (tw hw 2 rfl) (by decide) (by decide)) (g := (mkF m 51 #[iv p0, iv p1, iv p2, iv p3, iv p4, iv 2, iv 0, iv 2, iv x_pv664, .unset, .unset, .unset, .unset, .unset, .unset, .unset, .unset, .unset, .unset] [(.int p1)])) rfl (by rw [hml]; rfl) (argsL := [(.int p1)]) (rest := []) (lenOf pdK rfl) rfl (leW rfl) (hb hby at_51) (fun _ _ => ⟨rfl, e657, (leB rfl), (leB rfl)⟩)
        dsimp only [Pt.U, Pt.locs, Pt.cells, Pt.slots] at X666 l672 y673 z674 st675 hQ671
        subst l672 y673 z674
        obtain ⟨x_pv684, rfl, N681, e677, pu_OK683⟩ := hQ671
        have N676 := Fr.app N656 N681
        refine Way.by st675 ?_
        show Way _ _ _ _ (T665.setTop (mkF m 54 #[iv p0, iv p1, iv p2, iv p3, iv p4, iv 2, iv 0, iv 2, iv x_pv664, .unset, .unset, .unset, .unset, .unset, .unset, .unset, .unset, .unset, .unset] [(.int x_pv684)]))
        refine Way.by (fun _ k => XS.istore X666.here hx rfl (hb hby at_54) rfl (l' := #[iv p0, iv p1, iv p2, iv p3, iv p4, iv 2, iv 0, iv 2, iv x_pv664, iv x_pv684, .unset, .unset, .unset, .unset, .unset, .unset, .unset, .unset, .unset]) rfl k) ?_
        show Way _ _ _ _ (T665.setTop (mkF m 56 #[iv p0, iv p1, iv p2, iv p3, iv p4, iv 2, iv 0, iv 2, iv x_pv664, iv x_pv684, .unset, .unset, .unset, .unset, .unset, .unset, .unset, .unset, .unset] []))
        refine Way.by (fun _ k => XS.iload X666.here hx rfl (hb hby at_56) rfl k) ?_
        show Way _ _ _ _ (T665.setTop (mkF m 58 #[iv p0, iv p1, iv p2, iv p3, iv p4, iv 2, iv 0, iv 2, iv x_pv664, iv x_pv684, .unset, .unset, .unset, .unset, .unset, .unset, .unset, .unset, .unset] [(.int 0)]))
        have b685 : (0 : Int32) = (0 : Int32) := by decide
        refine Way.by (fun _ k => XS.ifYes X666.here hx rfl (pc0 := 58) (pc' := 66) rfl (hb hby at_58) rfl ((if0 .eq _).trans (teq b685).1) (by decide) (by decide) k) ?_
        show Way _ _ _ _ (T665.setTop (mkF m 66 #[iv p0, iv p1, iv p2, iv p3, iv p4, iv 2, iv 0, iv 2, iv x_pv664, iv x_pv684, .unset, .unset, .unset, .unset, .unset, .unset, .unset, .unset, .unset] []))
        refine Way.by (fun _ k => XS.iloadN X666.here hx rfl (hb hby at_66) rfl k) ?_
        show Way _ _ _ _ (T665.setTop (mkF m 67 #[iv p0, iv p1, iv p2, iv p3, iv p4, iv 2, iv 0, iv 2, iv x_pv664, iv x_pv684, .unset, .unset, .unset, .unset, .unset, .unset, .unset, .unset, .unset] [(.int p2)]))
        obtain ⟨_, _, ⟨T686, L688, k689, n690⟩, -, X687, ⟨Lc691, hQ692, l693, y694, z695⟩, st696⟩ := Jvm.LawKit.callS X666 hx (y := (⟨"com/example/deduct/deduct/model/ItemIdEqualsPinLaw", "pick", "(I)C"⟩ : MethodName)) hown0 (mvT hZ0 (tw hw 0 rfl)) (mvT hZ0 (tw hw 1 rfl)) (mvT hZ0 (tw hw 2 rfl)) (mvT hZ0 (tw hw 3 rfl)) (by decide) (backOf (W := 0) (rmK l Z a0 hw [] p2 h0 n0 Z0 ) hZ0 (tw hw 3 rfl) (tw hw 2 rfl) (by decide) (by decide)) (g := (mkF m 67 #[iv p0, iv p1, iv p2, iv p3, iv p4, iv 2, iv 0, iv 2, iv x_pv664, iv x_pv684, .unset, .unset, .unset, .unset, .unset, .unset, .unset, .unset, .unset] [(.int p2)])) rfl (by rw [hml]; rfl) (argsL := [(.int p2)]) (rest := []) (lenOf pdK rfl) rfl (leW rfl) (hb hby at_67) (fun _ _ => ⟨rfl, e677, (leB rfl), (leB rfl)⟩)
        dsimp only [Pt.U, Pt.locs, Pt.cells, Pt.slots] at X687 l693 y694 z695 st696 hQ692
        subst l693 y694 z695
        obtain ⟨x_pv705, rfl, N702, e698, pu_OK704⟩ := hQ692
        have N697 := Fr.app N676 N702
        refine Way.by st696 ?_
        show Way _ _ _ _ (T686.setTop (mkF m 70 #[iv p0, iv p1, iv p2, iv p3, iv p4, iv 2, iv 0, iv 2, iv x_pv664, iv x_pv684, .unset, .unset, .unset, .unset, .unset, .unset, .unset, .unset, .unset] [(.int x_pv705)]))
        refine Way.by (fun _ k => XS.istore X687.here hx rfl (hb hby at_70) rfl (l' := #[iv p0, iv p1, iv p2, iv p3, iv p4, iv 2, iv 0, iv 2, iv x_pv664, iv x_pv684, iv x_pv705, .unset, .unset, .unset, .unset, .unset, .unset, .unset, .unset]) rfl k) ?_
        show Way _ _ _ _ (T686.setTop (mkF m 72 #[iv p0, iv p1, iv p2, iv p3, iv p4, iv 2, iv 0, iv 2, iv x_pv664, iv x_pv684, iv x_pv705, .unset, .unset, .unset, .unset, .unset, .unset, .unset, .unset] []))
        refine Way.by (fun _ k => XS.iload X687.here hx rfl (hb hby at_72) rfl k) ?_
        show Way _ _ _ _ (T686.setTop (mkF m 74 #[iv p0, iv p1, iv p2, iv p3, iv p4, iv 2, iv 0, iv 2, iv x_pv664, iv x_pv684, iv x_pv705, .unset, .unset, .unset, .unset, .unset, .unset, .unset, .unset] [(.int 0)]))
        have b706 : (0 : Int32) = (0 : Int32) := by decide
        refine Way.by (fun _ k => XS.ifYes X687.here hx rfl (pc0 := 74) (pc' := 82) rfl (hb hby at_74) rfl ((if0 .eq _).trans (teq b706).1) (by decide) (by decide) k) ?_
        show Way _ _ _ _ (T686.setTop (mkF m 82 #[iv p0, iv p1, iv p2, iv p3, iv p4, iv 2, iv 0, iv 2, iv x_pv664, iv x_pv684, iv x_pv705, .unset, .unset, .unset, .unset, .unset, .unset, .unset, .unset] []))
        refine Way.by (fun _ k => XS.iloadN X687.here hx rfl (hb hby at_82) rfl k) ?_
        show Way _ _ _ _ (T686.setTop (mkF m 83 #[iv p0, iv p1, iv p2, iv p3, iv p4, iv 2, iv 0, iv 2, iv x_pv664, iv x_pv684, iv x_pv705, .unset, .unset, .unset, .unset, .unset, .unset, .unset, .unset] [(.int p3)]))
        obtain ⟨_, _, ⟨T707, L709, k710, n711⟩, -, X708, ⟨Lc712, hQ713, l714, y715, z716⟩, st717⟩ := Jvm.LawKit.callS X687 hx (y := (⟨"com/example/deduct/deduct/model/ItemIdEqualsPinLaw", "pick", "(I)C"⟩ : MethodName)) hown0 (mvT hZ0 (tw hw 0 rfl)) (mvT hZ0 (tw hw 1 rfl)) (mvT hZ0 (tw hw 2 rfl)) (mvT hZ0 (tw hw 3 rfl)) (by decide) (backOf (W := 0) (rmK l Z a0 hw [] p3 h0 n0 Z0 ) hZ0 (tw hw 3 rfl) (tw hw 2 rfl) (by decide) (by decide)) (g := (mkF m 83 #[iv p0, iv p1, iv p2, iv p3, iv p4, iv 2, iv 0, iv 2, iv x_pv664, iv x_pv684, iv x_pv705, .unset, .unset, .unset, .unset, .unset, .unset, .unset, .unset] [(.int p3)])) rfl (by rw [hml]; rfl) (argsL := [(.int p3)]) (rest := []) (lenOf pdK rfl) rfl (leW rfl) (hb hby at_83) (fun _ _ => ⟨rfl, e698, (leB rfl), (leB rfl)⟩)
        dsimp only [Pt.U, Pt.locs, Pt.cells, Pt.slots] at X708 l714 y715 z716 st717 hQ713
        subst l714 y715 z716
        obtain ⟨x_pv726, rfl, N723, e719, pu_OK725⟩ := hQ713
        have N718 := Fr.app N697 N723
        refine Way.by st717 ?_
        show Way _ _ _ _ (T707.setTop (mkF m 86 #[iv p0, iv p1, iv p2, iv p3, iv p4, iv 2, iv 0, iv 2, iv x_pv664, iv x_pv684, iv x_pv705, .unset, .unset, .unset, .unset, .unset, .unset, .unset, .unset] [(.int x_pv726)]))
        refine Way.by (fun _ k => XS.istore X708.here hx rfl (hb hby at_86) rfl (l' := #[iv p0, iv p1, iv p2, iv p3, iv p4, iv 2, iv 0, iv 2, iv x_pv664, iv x_pv684, iv x_pv705, iv x_pv726, .unset, .unset, .unset, .unset, .unset, .unset, .unset]) rfl k) ?_
        show Way _ _ _ _ (T707.setTop (mkF m 88 #[iv p0, iv p1, iv p2, iv p3, iv p4, iv 2, iv 0, iv 2, iv x_pv664, iv x_pv684, iv x_pv705, iv x_pv726, .unset, .unset, .unset, .unset, .unset, .unset, .unset] []))
        refine Way.by (fun _ k => XS.iload X708.here hx rfl (hb hby at_88) rfl k) ?_
        show Way _ _ _ _ (T707.setTop (mkF m 90 #[iv p0, iv p1, iv p2, iv p3, iv p4, iv 2, iv 0, iv 2, iv x_pv664, iv x_pv684, iv x_pv705, iv x_pv726, .unset, .unset, .unset, .unset, .unset, .unset, .unset] [(.int 2)]))
        refine Way.by (fun _ k => XS.iconst X708.here hx rfl (hb hby at_90) k) ?_
        show Way _ _ _ _ (T707.setTop (mkF m 91 #[iv p0, iv p1, iv p2, iv p3, iv p4, iv 2, iv 0, iv 2, iv x_pv664, iv x_pv684, iv x_pv705, iv x_pv726, .unset, .unset, .unset, .unset, .unset, .unset, .unset] [(.int 1), (.int 2)]))
        have b727 : ¬ (2 : Int32) = (1 : Int32) := by decide
        refine Way.by (fun _ k => XS.icmpYes X708.here hx rfl (pc0 := 91) (pc' := 105) rfl (hb hby at_91) rfl (feq b727).2 (by decide) (by decide) k) ?_
        show Way _ _ _ _ (T707.setTop (mkF m 105 #[iv p0, iv p1, iv p2, iv p3, iv p4, iv 2, iv 0, iv 2, iv x_pv664, iv x_pv684, iv x_pv705, iv x_pv726, .unset, .unset, .unset, .unset, .unset, .unset, .unset] []))
        refine Way.by (fun _ k => XS.iconst X708.here hx rfl (hb hby at_105) k) ?_
        show Way _ _ _ _ (T707.setTop (mkF m 106 #[iv p0, iv p1, iv p2, iv p3, iv p4, iv 2, iv 0, iv 2, iv x_pv664, iv x_pv684, iv x_pv705, iv x_pv726, .unset, .unset, .unset, .unset, .unset, .unset, .unset] [(.int 2)]))
        obtain ⟨T728, h729, kc730, X731, e732, E733, A734, st735⟩ := newP X708 hx hZ0 (tw hw 5 rfl) e719 (g := (mkF m 106 #[iv p0, iv p1, iv p2, iv p3, iv p4, iv 2, iv 0, iv 2, iv x_pv664, iv x_pv684, iv x_pv705, iv x_pv726, .unset, .unset, .unset, .unset, .unset, .unset, .unset] [(.int 2)])) rfl (hb hby at_106) rfl (by decide) (cap := 2) (by decide) (by decide) (by decide) (by decide)
        obtain ⟨a736, g737⟩ : ∃ z, z = h0.size := ⟨_, rfl⟩
        rw [← g737] at A734 st735
        have nw739 : n0 ≤ a736 := Nat.le_trans Z0 (Nat.le_of_eq g737.symm)
        have Z740 := Nat.le_trans Z0 E733.1
        have hk741 := Nat.le_trans (Nat.zero_le _) E733.1
        have O742 := O0.ext E733
        have V738 : Arv Z h729 a736 kc730 .char (2 : Int32) [] (.int 0) := Arv.new A734 (by decide)
        refine Way.by st735 ?_
        show Way _ _ _ _ (T728.setTop (mkF m 108 #[iv p0, iv p1, iv p2, iv p3, iv p4, iv 2, iv 0, iv 2, iv x_pv664, iv x_pv684, iv x_pv705, iv x_pv726, .unset, .unset, .unset, .unset, .unset, .unset, .unset] [(.ref a736)]))
        refine Way.by (fun _ k => XS.dup X731.here hx rfl (hb hby at_108) rfl rfl k) ?_
        show Way _ _ _ _ (T728.setTop (mkF m 109 #[iv p0, iv p1, iv p2, iv p3, iv p4, iv 2, iv 0, iv 2, iv x_pv664, iv x_pv684, iv x_pv705, iv x_pv726, .unset, .unset, .unset, .unset, .unset, .unset, .unset] [(.ref a736), (.ref a736)]))
        refine Way.by (fun _ k => XS.iconst X731.here hx rfl (hb hby at_109) k) ?_
        show Way _ _ _ _ (T728.setTop (mkF m 110 #[iv p0, iv p1, iv p2, iv p3, iv p4, iv 2, iv 0, iv 2, iv x_pv664, iv x_pv684, iv x_pv705, iv x_pv726, .unset, .unset, .unset, .unset, .unset, .unset, .unset] [(.int 0), (.ref a736), (.ref a736)]))
        refine Way.by (fun _ k => XS.iload X731.here hx rfl (hb hby at_110) rfl k) ?_
        show Way _ _ _ _ (T728.setTop (mkF m 112 #[iv p0, iv p1, iv p2, iv p3, iv p4, iv 2, iv 0, iv 2, iv x_pv664, iv x_pv684, iv x_pv705, iv x_pv726, .unset, .unset, .unset, .unset, .unset, .unset, .unset] [(.int x_pv664), (.int 0), (.ref a736), (.ref a736)]))
        have V743 : Arv Z h729 a736 kc730 .char (2 : Int32) [(.int 0)] (.int 0) := V738.pad (pad_rep [] (.int 0) 1)
        obtain ⟨c744, A745, q746, S747, M748, H749, U750⟩ := id V743
        obtain ⟨T751, h752, X753, e754, W755, st756⟩ := stC X731 hx hZ0 e732 A745 (j := (0 : Int32)) (inb_of S747 ⟨(by decide), (by decide)⟩) (g := (mkF m 112 #[iv p0, iv p1, iv p2, iv p3, iv p4, iv 2, iv 0, iv 2, iv x_pv664, iv x_pv684, iv x_pv705, iv x_pv726, .unset, .unset, .unset, .unset, .unset, .unset, .unset] [(.int x_pv664), (.int 0), (.ref a736), (.ref a736)])) rfl rfl (hb hby at_112)
        have N757 := Fr.snoc X753 N718 nw739
        have V758 : Arv Z h752 a736 kc730 .char (2 : Int32) [(.int (nar .char x_pv664))] (.int 0) := Arv.set A745 q746 S747 M748 H749 U750 (fits_nar_char _) W755 0 rfl (leB rfl)
        have nq760 : nar .char x_pv664 = x_pv664 := own_nar (by have q := pu_OK663.rng; omega)
        have V759 : Arv Z h752 a736 kc730 .char (2 : Int32) [(.int x_pv664)] (.int 0) := by rw [nq760] at V758; exact V758
        have Z761 : n0 ≤ h752.size := by rw [W755.size]; exact Z740
        have hk762 := Nat.le_trans hk741 (Nat.le_of_eq W755.size.symm)
        have O763 := O742.wr W755 nw739
        refine Way.by st756 ?_
        show Way _ _ _ _ (T751.setTop (mkF m 113 #[iv p0, iv p1, iv p2, iv p3, iv p4, iv 2, iv 0, iv 2, iv x_pv664, iv x_pv684, iv x_pv705, iv x_pv726, .unset, .unset, .unset, .unset, .unset, .unset, .unset] [(.ref a736)]))
        refine Way.by (fun _ k => XS.dup X753.here hx rfl (hb hby at_113) rfl rfl k) ?_
        show Way _ _ _ _ (T751.setTop (mkF m 114 #[iv p0, iv p1, iv p2, iv p3, iv p4, iv 2, iv 0, iv 2, iv x_pv664, iv x_pv684, iv x_pv705, iv x_pv726, .unset, .unset, .unset, .unset, .unset, .unset, .unset] [(.ref a736), (.ref a736)]))
        refine Way.by (fun _ k => XS.iconst X753.here hx rfl (hb hby at_114) k) ?_
        show Way _ _ _ _ (T751.setTop (mkF m 115 #[iv p0, iv p1, iv p2, iv p3, iv p4, iv 2, iv 0, iv 2, iv x_pv664, iv x_pv684, iv x_pv705, iv x_pv726, .unset, .unset, .unset, .unset, .unset, .unset, .unset] [(.int 1), (.ref a736), (.ref a736)]))
        refine Way.by (fun _ k => XS.iload X753.here hx rfl (hb hby at_115) rfl k) ?_
        show Way _ _ _ _ (T751.setTop (mkF m 117 #[iv p0, iv p1, iv p2, iv p3, iv p4, iv 2, iv 0, iv 2, iv x_pv664, iv x_pv684, iv x_pv705, iv x_pv726, .unset, .unset, .unset, .unset, .unset, .unset, .unset] [(.int x_pv684), (.int 1), (.ref a736), (.ref a736)]))
        have V764 : Arv Z h752 a736 kc730 .char (2 : Int32) [(.int x_pv664), (.int 0)] (.int 0) := V759.pad (pad_rep [(.int x_pv664)] (.int 0) 1)
        obtain ⟨c765, A766, q767, S768, M769, H770, U771⟩ := id V764
        obtain ⟨T772, h773, X774, e775, W776, st777⟩ := stC X753 hx hZ0 e754 A766 (j := (1 : Int32)) (inb_of S768 ⟨(by decide), (by decide)⟩) (g := (mkF m 117 #[iv p0, iv p1, iv p2, iv p3, iv p4, iv 2, iv 0, iv 2, iv x_pv664, iv x_pv684, iv x_pv705, iv x_pv726, .unset, .unset, .unset, .unset, .unset, .unset, .unset] [(.int x_pv684), (.int 1), (.ref a736), (.ref a736)])) rfl rfl (hb hby at_117)
        have N778 := Fr.snoc X774 N757 nw739
        have V779 : Arv Z h773 a736 kc730 .char (2 : Int32) [(.int x_pv664), (.int (nar .char x_pv684))] (.int 0) := Arv.set A766 q767 S768 M769 H770 U771 (fits_nar_char _) W776 1 rfl (leB rfl)
        have nq781 : nar .char x_pv684 = x_pv684 := own_nar (by have q := pu_OK683.rng; omega)
        have V780 : Arv Z h773 a736 kc730 .char (2 : Int32) [(.int x_pv664), (.int x_pv684)] (.int 0) := by rw [nq781] at V779; exact V779
        have Z782 : n0 ≤ h773.size := by rw [W776.size]; exact Z761
        have hk783 := Nat.le_trans hk762 (Nat.le_of_eq W776.size.symm)
        have O784 := O763.wr W776 nw739
        refine Way.by st777 ?_
        show Way _ _ _ _ (T772.setTop (mkF m 118 #[iv p0, iv p1, iv p2, iv p3, iv p4, iv 2, iv 0, iv 2, iv x_pv664, iv x_pv684, iv x_pv705, iv x_pv726, .unset, .unset, .unset, .unset, .unset, .unset, .unset] [(.ref a736)]))
        refine Way.by (fun _ k => XS.astore X774.here hx rfl (hb hby at_118) rfl rfl (l' := #[iv p0, iv p1, iv p2, iv p3, iv p4, iv 2, iv 0, iv 2, iv x_pv664, iv x_pv684, iv x_pv705, iv x_pv726, rv a736, .unset, .unset, .unset, .unset, .unset, .unset]) rfl k) ?_
        show Way _ _ _ _ (T772.setTop (mkF m 120 #[iv p0, iv p1, iv p2, iv p3, iv p4, iv 2, iv 0, iv 2, iv x_pv664, iv x_pv684, iv x_pv705, iv x_pv726, rv a736, .unset, .unset, .unset, .unset, .unset, .unset] []))
        refine Way.by (fun _ k => XS.iload X774.here hx rfl (hb hby at_120) rfl k) ?_
        show Way _ _ _ _ (T772.setTop (mkF m 122 #[iv p0, iv p1, iv p2, iv p3, iv p4, iv 2, iv 0, iv 2, iv x_pv664, iv x_pv684, iv x_pv705, iv x_pv726, rv a736, .unset, .unset, .unset, .unset, .unset, .unset] [(.int 2)]))
        refine Way.by (fun _ k => XS.iconst X774.here hx rfl (hb hby at_122) k) ?_
        show Way _ _ _ _ (T772.setTop (mkF m 123 #[iv p0, iv p1, iv p2, iv p3, iv p4, iv 2, iv 0, iv 2, iv x_pv664, iv x_pv684, iv x_pv705, iv x_pv726, rv a736, .unset, .unset, .unset, .unset, .unset, .unset] [(.int 1), (.int 2)]))
        have b785 : ¬ (2 : Int32) = (1 : Int32) := by decide
        refine Way.by (fun _ k => XS.icmpYes X774.here hx rfl (pc0 := 123) (pc' := 137) rfl (hb hby at_123) rfl (feq b785).2 (by decide) (by decide) k) ?_
        show Way _ _ _ _ (T772.setTop (mkF m 137 #[iv p0, iv p1, iv p2, iv p3, iv p4, iv 2, iv 0, iv 2, iv x_pv664, iv x_pv684, iv x_pv705, iv x_pv726, rv a736, .unset, .unset, .unset, .unset, .unset, .unset] []))
        refine Way.by (fun _ k => XS.iconst X774.here hx rfl (hb hby at_137) k) ?_
        show Way _ _ _ _ (T772.setTop (mkF m 138 #[iv p0, iv p1, iv p2, iv p3, iv p4, iv 2, iv 0, iv 2, iv x_pv664, iv x_pv684, iv x_pv705, iv x_pv726, rv a736, .unset, .unset, .unset, .unset, .unset, .unset] [(.int 2)]))
        obtain ⟨T786, h787, kc788, X789, e790, E791, A792, st793⟩ := newP X774 hx hZ0 (tw hw 5 rfl) e775 (g := (mkF m 138 #[iv p0, iv p1, iv p2, iv p3, iv p4, iv 2, iv 0, iv 2, iv x_pv664, iv x_pv684, iv x_pv705, iv x_pv726, rv a736, .unset, .unset, .unset, .unset, .unset, .unset] [(.int 2)])) rfl (hb hby at_138) rfl (by decide) (cap := 2) (by decide) (by decide) (by decide) (by decide)
        obtain ⟨a794, g795⟩ : ∃ z, z = h773.size := ⟨_, rfl⟩
        rw [← g795] at A792 st793
        have ne797 : a736 ≠ a794 := Nat.ne_of_lt (Nat.lt_of_lt_of_eq V780.lt g795.symm)
        have nw798 : n0 ≤ a794 := Nat.le_trans Z782 (Nat.le_of_eq g795.symm)
        have A799 := V780.ext E791
        have Z800 := Nat.le_trans Z782 E791.1
        have hk801 := Nat.le_trans hk783 E791.1
        have O802 := O784.ext E791
        have V796 : Arv Z h787 a794 kc788 .char (2 : Int32) [] (.int 0) := Arv.new A792 (by decide)
        refine Way.by st793 ?_
        show Way _ _ _ _ (T786.setTop (mkF m 140 #[iv p0, iv p1, iv p2, iv p3, iv p4, iv 2, iv 0, iv 2, iv x_pv664, iv x_pv684, iv x_pv705, iv x_pv726, rv a736, .unset, .unset, .unset, .unset, .unset, .unset] [(.ref a794)]))
        refine Way.by (fun _ k => XS.dup X789.here hx rfl (hb hby at_140) rfl rfl k) ?_
        show Way _ _ _ _ (T786.setTop (mkF m 141 #[iv p0, iv p1, iv p2, iv p3, iv p4, iv 2, iv 0, iv 2, iv x_pv664, iv x_pv684, iv x_pv705, iv x_pv726, rv a736, .unset, .unset, .unset, .unset, .unset, .unset] [(.ref a794), (.ref a794)]))
        refine Way.by (fun _ k => XS.iconst X789.here hx rfl (hb hby at_141) k) ?_
        show Way _ _ _ _ (T786.setTop (mkF m 142 #[iv p0, iv p1, iv p2, iv p3, iv p4, iv 2, iv 0, iv 2, iv x_pv664, iv x_pv684, iv x_pv705, iv x_pv726, rv a736, .unset, .unset, .unset, .unset, .unset, .unset] [(.int 0), (.ref a794), (.ref a794)]))
        refine Way.by (fun _ k => XS.iload X789.here hx rfl (hb hby at_142) rfl k) ?_
        show Way _ _ _ _ (T786.setTop (mkF m 144 #[iv p0, iv p1, iv p2, iv p3, iv p4, iv 2, iv 0, iv 2, iv x_pv664, iv x_pv684, iv x_pv705, iv x_pv726, rv a736, .unset, .unset, .unset, .unset, .unset, .unset] [(.int x_pv705), (.int 0), (.ref a794), (.ref a794)]))
        have V803 : Arv Z h787 a794 kc788 .char (2 : Int32) [(.int 0)] (.int 0) := V796.pad (pad_rep [] (.int 0) 1)
        obtain ⟨c804, A805, q806, S807, M808, H809, U810⟩ := id V803
        obtain ⟨T811, h812, X813, e814, W815, st816⟩ := stC X789 hx hZ0 e790 A805 (j := (0 : Int32)) (inb_of S807 ⟨(by decide), (by decide)⟩) (g := (mkF m 144 #[iv p0, iv p1, iv p2, iv p3, iv p4, iv 2, iv 0, iv 2, iv x_pv664, iv x_pv684, iv x_pv705, iv x_pv726, rv a736, .unset, .unset, .unset, .unset, .unset, .unset] [(.int x_pv705), (.int 0), (.ref a794), (.ref a794)])) rfl rfl (hb hby at_144)
        have N817 := Fr.snoc X813 N778 nw798
        have V818 : Arv Z h812 a794 kc788 .char (2 : Int32) [(.int (nar .char x_pv705))] (.int 0) := Arv.set A805 q806 S807 M808 H809 U810 (fits_nar_char _) W815 0 rfl (leB rfl)
        have nq820 : nar .char x_pv705 = x_pv705 := own_nar (by have q := pu_OK704.rng; omega)
        have V819 : Arv Z h812 a794 kc788 .char (2 : Int32) [(.int x_pv705)] (.int 0) := by rw [nq820] at V818; exact V818
        have A821 := A799.other W815 ne797
        have Z822 : n0 ≤ h812.size := by rw [W815.size]; exact Z800
        have hk823 := Nat.le_trans hk801 (Nat.le_of_eq W815.size.symm)
        have O824 := O802.wr W815 nw798
        refine Way.by st816 ?_
        show Way _ _ _ _ (T811.setTop (mkF m 145 #[iv p0, iv p1, iv p2, iv p3, iv p4, iv 2, iv 0, iv 2, iv x_pv664, iv x_pv684, iv x_pv705, iv x_pv726, rv a736, .unset, .unset, .unset, .unset, .unset, .unset] [(.ref a794)]))
        refine Way.by (fun _ k => XS.dup X813.here hx rfl (hb hby at_145) rfl rfl k) ?_
        show Way _ _ _ _ (T811.setTop (mkF m 146 #[iv p0, iv p1, iv p2, iv p3, iv p4, iv 2, iv 0, iv 2, iv x_pv664, iv x_pv684, iv x_pv705, iv x_pv726, rv a736, .unset, .unset, .unset, .unset, .unset, .unset] [(.ref a794), (.ref a794)]))
        refine Way.by (fun _ k => XS.iconst X813.here hx rfl (hb hby at_146) k) ?_
        show Way _ _ _ _ (T811.setTop (mkF m 147 #[iv p0, iv p1, iv p2, iv p3, iv p4, iv 2, iv 0, iv 2, iv x_pv664, iv x_pv684, iv x_pv705, iv x_pv726, rv a736, .unset, .unset, .unset, .unset, .unset, .unset] [(.int 1), (.ref a794), (.ref a794)]))
        refine Way.by (fun _ k => XS.iload X813.here hx rfl (hb hby at_147) rfl k) ?_
        show Way _ _ _ _ (T811.setTop (mkF m 149 #[iv p0, iv p1, iv p2, iv p3, iv p4, iv 2, iv 0, iv 2, iv x_pv664, iv x_pv684, iv x_pv705, iv x_pv726, rv a736, .unset, .unset, .unset, .unset, .unset, .unset] [(.int x_pv726), (.int 1), (.ref a794), (.ref a794)]))
        have V825 : Arv Z h812 a794 kc788 .char (2 : Int32) [(.int x_pv705), (.int 0)] (.int 0) := V819.pad (pad_rep [(.int x_pv705)] (.int 0) 1)
        obtain ⟨c826, A827, q828, S829, M830, H831, U832⟩ := id V825
        obtain ⟨T833, h834, X835, e836, W837, st838⟩ := stC X813 hx hZ0 e814 A827 (j := (1 : Int32)) (inb_of S829 ⟨(by decide), (by decide)⟩) (g := (mkF m 149 #[iv p0, iv p1, iv p2, iv p3, iv p4, iv 2, iv 0, iv 2, iv x_pv664, iv x_pv684, iv x_pv705, iv x_pv726, rv a736, .unset, .unset, .unset, .unset, .unset, .unset] [(.int x_pv726), (.int 1), (.ref a794), (.ref a794)])) rfl rfl (hb hby at_149)
        have N839 := Fr.snoc X835 N817 nw798
        have V840 : Arv Z h834 a794 kc788 .char (2 : Int32) [(.int x_pv705), (.int (nar .char x_pv726))] (.int 0) := Arv.set A827 q828 S829 M830 H831 U832 (fits_nar_char _) W837 1 rfl (leB rfl)
        have nq842 : nar .char x_pv726 = x_pv726 := own_nar (by have q := pu_OK725.rng; omega)
        have V841 : Arv Z h834 a794 kc788 .char (2 : Int32) [(.int x_pv705), (.int x_pv726)] (.int 0) := by rw [nq842] at V840; exact V840
        have A843 := A821.other W837 ne797
        have Z844 : n0 ≤ h834.size := by rw [W837.size]; exact Z822
        have hk845 := Nat.le_trans hk823 (Nat.le_of_eq W837.size.symm)
        have O846 := O824.wr W837 nw798
        refine Way.by st838 ?_
        show Way _ _ _ _ (T833.setTop (mkF m 150 #[iv p0, iv p1, iv p2, iv p3, iv p4, iv 2, iv 0, iv 2, iv x_pv664, iv x_pv684, iv x_pv705, iv x_pv726, rv a736, .unset, .unset, .unset, .unset, .unset, .unset] [(.ref a794)]))
        refine Way.by (fun _ k => XS.astore X835.here hx rfl (hb hby at_150) rfl rfl (l' := #[iv p0, iv p1, iv p2, iv p3, iv p4, iv 2, iv 0, iv 2, iv x_pv664, iv x_pv684, iv x_pv705, iv x_pv726, rv a736, rv a794, .unset, .unset, .unset, .unset, .unset]) rfl k) ?_
        show Way _ _ _ _ (T833.setTop (mkF m 152 #[iv p0, iv p1, iv p2, iv p3, iv p4, iv 2, iv 0, iv 2, iv x_pv664, iv x_pv684, iv x_pv705, iv x_pv726, rv a736, rv a794, .unset, .unset, .unset, .unset, .unset] []))
        exact seg152 l Z a0 hw ws p0 p1 p2 p3 p4 ur up ut h0 n0 Z0 O0 SV SRULE ERULE FPU SPU p e s m below meth c s₁ Bd hml _ hZ0 hown0 _ hS0 T833 h834 _ X835 e836 N839 Z844 hk845 O846 (2 : Int32) (2 : Int32) x_pv664 x_pv684 x_pv705 x_pv726 (0 : Int32) a736 a794 kc730 kc788 [x_pv664, x_pv684] [x_pv705, x_pv726] A843 V841 (by intro c hc; simp only [List.mem_cons, List.not_mem_nil, or_false] at hc; rcases hc with rfl | rfl <;> assumption) (by intro c hc; simp only [List.mem_cons, List.not_mem_nil, or_false] at hc; rcases hc with rfl | rfl <;> assumption) (by simp) (by simp) (Or.inr ⟨rfl, rfl⟩) (Or.inr ⟨rfl, rfl⟩) ne797
    · skip
      refine Way.by (fun _ k => XS.ifNo XW.here hx rfl (hb hby at_14) rfl ((if0 .eq _).trans (feq b463).1) k) ?_
      show Way _ _ _ _ (s₁.setTop (mkF m 17 #[iv p0, iv p1, iv p2, iv p3, iv p4, iv 2, .unset, .unset, .unset, .unset, .unset, .unset, .unset, .unset, .unset, .unset, .unset, .unset, .unset] []))
      refine Way.by (fun _ k => XS.iconst XW.here hx rfl (hb hby at_17) k) ?_
      show Way _ _ _ _ (s₁.setTop (mkF m 18 #[iv p0, iv p1, iv p2, iv p3, iv p4, iv 2, .unset, .unset, .unset, .unset, .unset, .unset, .unset, .unset, .unset, .unset, .unset, .unset, .unset] [(.int 1)]))
      refine Way.by (fun _ k => XS.goto XW.here hx rfl (pc0 := 18) (pc' := 22) rfl (hb hby at_18) (by decide) (by decide) k) ?_
      show Way _ _ _ _ (s₁.setTop (mkF m 22 #[iv p0, iv p1, iv p2, iv p3, iv p4, iv 2, .unset, .unset, .unset, .unset, .unset, .unset, .unset, .unset, .unset, .unset, .unset, .unset, .unset] [(.int 1)]))
      refine Way.by (fun _ k => XS.istore XW.here hx rfl (hb hby at_22) rfl (l' := #[iv p0, iv p1, iv p2, iv p3, iv p4, iv 2, iv 1, .unset, .unset, .unset, .unset, .unset, .unset, .unset, .unset, .unset, .unset, .unset, .unset]) rfl k) ?_
      show Way _ _ _ _ (s₁.setTop (mkF m 24 #[iv p0, iv p1, iv p2, iv p3, iv p4, iv 2, iv 1, .unset, .unset, .unset, .unset, .unset, .unset, .unset, .unset, .unset, .unset, .unset, .unset] []))
      refine Way.by (fun _ k => XS.iload XW.here hx rfl (hb hby at_24) rfl k) ?_
      show Way _ _ _ _ (s₁.setTop (mkF m 26 #[iv p0, iv p1, iv p2, iv p3, iv p4, iv 2, iv 1, .unset, .unset, .unset, .unset, .unset, .unset, .unset, .unset, .unset, .unset, .unset, .unset] [(.int 1)]))
      have b847 : ¬ (1 : Int32) = (0 : Int32) := by decide
      refine Way.by (fun _ k => XS.ifNo XW.here hx rfl (hb hby at_26) rfl ((if0 .eq _).trans (feq b847).1) k) ?_
      show Way _ _ _ _ (s₁.setTop (mkF m 29 #[iv p0, iv p1, iv p2, iv p3, iv p4, iv 2, iv 1, .unset, .unset, .unset, .unset, .unset, .unset, .unset, .unset, .unset, .unset, .unset, .unset] []))
      refine Way.by (fun _ k => XS.iload XW.here hx rfl (hb hby at_29) rfl k) ?_
      show Way _ _ _ _ (s₁.setTop (mkF m 31 #[iv p0, iv p1, iv p2, iv p3, iv p4, iv 2, iv 1, .unset, .unset, .unset, .unset, .unset, .unset, .unset, .unset, .unset, .unset, .unset, .unset] [(.int 2)]))
      refine Way.by (fun _ k => XS.goto XW.here hx rfl (pc0 := 31) (pc' := 42) rfl (hb hby at_31) (by decide) (by decide) k) ?_
      show Way _ _ _ _ (s₁.setTop (mkF m 42 #[iv p0, iv p1, iv p2, iv p3, iv p4, iv 2, iv 1, .unset, .unset, .unset, .unset, .unset, .unset, .unset, .unset, .unset, .unset, .unset, .unset] [(.int 2)]))
      refine Way.by (fun _ k => XS.istore XW.here hx rfl (hb hby at_42) rfl (l' := #[iv p0, iv p1, iv p2, iv p3, iv p4, iv 2, iv 1, iv 2, .unset, .unset, .unset, .unset, .unset, .unset, .unset, .unset, .unset, .unset, .unset]) rfl k) ?_
      show Way _ _ _ _ (s₁.setTop (mkF m 44 #[iv p0, iv p1, iv p2, iv p3, iv p4, iv 2, iv 1, iv 2, .unset, .unset, .unset, .unset, .unset, .unset, .unset, .unset, .unset, .unset, .unset] []))
      refine Way.by (fun _ k => XS.iloadN XW.here hx rfl (hb hby at_44) rfl k) ?_
      show Way _ _ _ _ (s₁.setTop (mkF m 45 #[iv p0, iv p1, iv p2, iv p3, iv p4, iv 2, iv 1, iv 2, .unset, .unset, .unset, .unset, .unset, .unset, .unset, .unset, .unset, .unset, .unset] [(.int p0)]))
      obtain ⟨_, _, ⟨T848, L850, k851, n852⟩, -, X849, ⟨Lc853, hQ854, l855, y856, z857⟩, st858⟩ := Jvm.LawKit.callS XW hx (y := (⟨"com/example/deduct/deduct/model/ItemIdEqualsPinLaw", "pick", "(I)C"⟩ : MethodName)) hown0 (mvT hZ0 (tw hw 0 rfl)) (mvT hZ0 (tw hw 1 rfl)) (mvT hZ0 (tw hw 2 rfl)) (mvT hZ0 (tw hw 3 rfl)) (by decide) (backOf (W := 0) (rmK l Z a0 hw [] p0 h0 n0 Z0 ) hZ0 (tw hw 3 rfl) (tw hw 2 rfl) (by decide) (by decide)) (g := (mkF m 45 #[iv p0, iv p1, iv p2, iv p3, iv p4, iv 2, iv 1, iv 2, .unset, .unset, .unset, .unset, .unset, .unset, .unset, .unset, .unset, .unset, .unset] [(.int p0)])) rfl (by rw [hml]; rfl) (argsL := [(.int p0)]) (rest := []) (lenOf pdK rfl) rfl (leW rfl) (hb hby at_45) (fun _ _ => ⟨rfl, e0, (leB rfl), (leB rfl)⟩)
      dsimp only [Pt.U, Pt.locs, Pt.cells, Pt.slots] at X849 l855 y856 z857 st858 hQ854
      subst l855 y856 z857
      obtain ⟨x_pv867, rfl, N864, e860, pu_OK866⟩ := hQ854
      have N859 := Fr.app N0 N864
      refine Way.by st858 ?_
      show Way _ _ _ _ (T848.setTop (mkF m 48 #[iv p0, iv p1, iv p2, iv p3, iv p4, iv 2, iv 1, iv 2, .unset, .unset, .unset, .unset, .unset, .unset, .unset, .unset, .unset, .unset, .unset] [(.int x_pv867)]))
      refine Way.by (fun _ k => XS.istore X849.here hx rfl (hb hby at_48) rfl (l' := #[iv p0, iv p1, iv p2, iv p3, iv p4, iv 2, iv 1, iv 2, iv x_pv867, .unset, .unset, .unset, .unset, .unset, .unset, .unset, .unset, .unset, .unset]) rfl k) ?_
      show Way _ _ _ _ (T848.setTop (mkF m 50 #[iv p0, iv p1, iv p2, iv p3, iv p4, iv 2, iv 1, iv 2, iv x_pv867, .unset, .unset, .unset, .unset, .unset, .unset, .unset, .unset, .unset, .unset] []))
      refine Way.by (fun _ k => XS.iloadN X849.here hx rfl (hb hby at_50) rfl k) ?_
      show Way _ _ _ _ (T848.setTop (mkF m 51 #[iv p0, iv p1, iv p2, iv p3, iv p4, iv 2, iv 1, iv 2, iv x_pv867, .unset, .unset, .unset, .unset, .unset, .unset, .unset, .unset, .unset, .unset] [(.int p1)]))
      obtain ⟨_, _, ⟨T868, L870, k871, n872⟩, -, X869, ⟨Lc873, hQ874, l875, y876, z877⟩, st878⟩ := Jvm.LawKit.callS X849 hx (y := (⟨"com/example/deduct/deduct/model/ItemIdEqualsPinLaw", "pick", "(I)C"⟩ : MethodName)) hown0 (mvT hZ0 (tw hw 0 rfl)) (mvT hZ0 (tw hw 1 rfl)) (mvT hZ0 (tw hw 2 rfl)) (mvT hZ0 (tw hw 3 rfl)) (by decide) (backOf (W := 0) (rmK l Z a0 hw [] p1 h0 n0 Z0 ) hZ0 (tw hw 3 rfl) (tw hw 2 rfl) (by decide) (by decide)) (g := (mkF m 51 #[iv p0, iv p1, iv p2, iv p3, iv p4, iv 2, iv 1, iv 2, iv x_pv867, .unset, .unset, .unset, .unset, .unset, .unset, .unset, .unset, .unset, .unset] [(.int p1)])) rfl (by rw [hml]; rfl) (argsL := [(.int p1)]) (rest := []) (lenOf pdK rfl) rfl (leW rfl) (hb hby at_51) (fun _ _ => ⟨rfl, e860, (leB rfl), (leB rfl)⟩)
      dsimp only [Pt.U, Pt.locs, Pt.cells, Pt.slots] at X869 l875 y876 z877 st878 hQ874
      subst l875 y876 z877
      obtain ⟨x_pv887, rfl, N884, e880, pu_OK886⟩ := hQ874
      have N879 := Fr.app N859 N884
      refine Way.by st878 ?_
      show Way _ _ _ _ (T868.setTop (mkF m 54 #[iv p0, iv p1, iv p2, iv p3, iv p4, iv 2, iv 1, iv 2, iv x_pv867, .unset, .unset, .unset, .unset, .unset, .unset, .unset, .unset, .unset, .unset] [(.int x_pv887)]))
      refine Way.by (fun _ k => XS.istore X869.here hx rfl (hb hby at_54) rfl (l' := #[iv p0, iv p1, iv p2, iv p3, iv p4, iv 2, iv 1, iv 2, iv x_pv867, iv x_pv887, .unset, .unset, .unset, .unset, .unset, .unset, .unset, .unset, .unset]) rfl k) ?_
      show Way _ _ _ _ (T868.setTop (mkF m 56 #[iv p0, iv p1, iv p2, iv p3, iv p4, iv 2, iv 1, iv 2, iv x_pv867, iv x_pv887, .unset, .unset, .unset, .unset, .unset, .unset, .unset, .unset, .unset] []))
      refine Way.by (fun _ k => XS.iload X869.here hx rfl (hb hby at_56) rfl k) ?_
      show Way _ _ _ _ (T868.setTop (mkF m 58 #[iv p0, iv p1, iv p2, iv p3, iv p4, iv 2, iv 1, iv 2, iv x_pv867, iv x_pv887, .unset, .unset, .unset, .unset, .unset, .unset, .unset, .unset, .unset] [(.int 1)]))
      have b888 : ¬ (1 : Int32) = (0 : Int32) := by decide
      refine Way.by (fun _ k => XS.ifNo X869.here hx rfl (hb hby at_58) rfl ((if0 .eq _).trans (feq b888).1) k) ?_
      show Way _ _ _ _ (T868.setTop (mkF m 61 #[iv p0, iv p1, iv p2, iv p3, iv p4, iv 2, iv 1, iv 2, iv x_pv867, iv x_pv887, .unset, .unset, .unset, .unset, .unset, .unset, .unset, .unset, .unset] []))
      refine Way.by (fun _ k => XS.iload X869.here hx rfl (hb hby at_61) rfl k) ?_
      show Way _ _ _ _ (T868.setTop (mkF m 63 #[iv p0, iv p1, iv p2, iv p3, iv p4, iv 2, iv 1, iv 2, iv x_pv867, iv x_pv887, .unset, .unset, .unset, .unset, .unset, .unset, .unset, .unset, .unset] [(.int x_pv867)]))
      refine Way.by (fun _ k => XS.goto X869.here hx rfl (pc0 := 63) (pc' := 70) rfl (hb hby at_63) (by decide) (by decide) k) ?_
      show Way _ _ _ _ (T868.setTop (mkF m 70 #[iv p0, iv p1, iv p2, iv p3, iv p4, iv 2, iv 1, iv 2, iv x_pv867, iv x_pv887, .unset, .unset, .unset, .unset, .unset, .unset, .unset, .unset, .unset] [(.int x_pv867)]))
      refine Way.by (fun _ k => XS.istore X869.here hx rfl (hb hby at_70) rfl (l' := #[iv p0, iv p1, iv p2, iv p3, iv p4, iv 2, iv 1, iv 2, iv x_pv867, iv x_pv887, iv x_pv867, .unset, .unset, .unset, .unset, .unset, .unset, .unset, .unset]) rfl k) ?_
      show Way _ _ _ _ (T868.setTop (mkF m 72 #[iv p0, iv p1, iv p2, iv p3, iv p4, iv 2, iv 1, iv 2, iv x_pv867, iv x_pv887, iv x_pv867, .unset, .unset, .unset, .unset, .unset, .unset, .unset, .unset] []))
      refine Way.by (fun _ k => XS.iload X869.here hx rfl (hb hby at_72) rfl k) ?_
      show Way _ _ _ _ (T868.setTop (mkF m 74 #[iv p0, iv p1, iv p2, iv p3, iv p4, iv 2, iv 1, iv 2, iv x_pv867, iv x_pv887, iv x_pv867, .unset, .unset, .unset, .unset, .unset, .unset, .unset, .unset] [(.int 1)]))
      have b889 : ¬ (1 : Int32) = (0 : Int32) := by decide
      refine Way.by (fun _ k => XS.ifNo X869.here hx rfl (hb hby at_74) rfl ((if0 .eq _).trans (feq b889).1) k) ?_
      show Way _ _ _ _ (T868.setTop (mkF m 77 #[iv p0, iv p1, iv p2, iv p3, iv p4, iv 2, iv 1, iv 2, iv x_pv867, iv x_pv887, iv x_pv867, .unset, .unset, .unset, .unset, .unset, .unset, .unset, .unset] []))
      refine Way.by (fun _ k => XS.iload X869.here hx rfl (hb hby at_77) rfl k) ?_
      show Way _ _ _ _ (T868.setTop (mkF m 79 #[iv p0, iv p1, iv p2, iv p3, iv p4, iv 2, iv 1, iv 2, iv x_pv867, iv x_pv887, iv x_pv867, .unset, .unset, .unset, .unset, .unset, .unset, .unset, .unset] [(.int x_pv887)]))
      refine Way.by (fun _ k => XS.goto X869.here hx rfl (pc0 := 79) (pc' := 86) rfl (hb hby at_79) (by decide) (by decide) k) ?_
      show Way _ _ _ _ (T868.setTop (mkF m 86 #[iv p0, iv p1, iv p2, iv p3, iv p4, iv 2, iv 1, iv 2, iv x_pv867, iv x_pv887, iv x_pv867, .unset, .unset, .unset, .unset, .unset, .unset, .unset, .unset] [(.int x_pv887)]))
      refine Way.by (fun _ k => XS.istore X869.here hx rfl (hb hby at_86) rfl (l' := #[iv p0, iv p1, iv p2, iv p3, iv p4, iv 2, iv 1, iv 2, iv x_pv867, iv x_pv887, iv x_pv867, iv x_pv887, .unset, .unset, .unset, .unset, .unset, .unset, .unset]) rfl k) ?_
      show Way _ _ _ _ (T868.setTop (mkF m 88 #[iv p0, iv p1, iv p2, iv p3, iv p4, iv 2, iv 1, iv 2, iv x_pv867, iv x_pv887, iv x_pv867, iv x_pv887, .unset, .unset, .unset, .unset, .unset, .unset, .unset] []))
      refine Way.by (fun _ k => XS.iload X869.here hx rfl (hb hby at_88) rfl k) ?_
      show Way _ _ _ _ (T868.setTop (mkF m 90 #[iv p0, iv p1, iv p2, iv p3, iv p4, iv 2, iv 1, iv 2, iv x_pv867, iv x_pv887, iv x_pv867, iv x_pv887, .unset, .unset, .unset, .unset, .unset, .unset, .unset] [(.int 2)]))
      refine Way.by (fun _ k => XS.iconst X869.here hx rfl (hb hby at_90) k) ?_
      show Way _ _ _ _ (T868.setTop (mkF m 91 #[iv p0, iv p1, iv p2, iv p3, iv p4, iv 2, iv 1, iv 2, iv x_pv867, iv x_pv887, iv x_pv867, iv x_pv887, .unset, .unset, .unset, .unset, .unset, .unset, .unset] [(.int 1), (.int 2)]))
      have b890 : ¬ (2 : Int32) = (1 : Int32) := by decide
      refine Way.by (fun _ k => XS.icmpYes X869.here hx rfl (pc0 := 91) (pc' := 105) rfl (hb hby at_91) rfl (feq b890).2 (by decide) (by decide) k) ?_
      show Way _ _ _ _ (T868.setTop (mkF m 105 #[iv p0, iv p1, iv p2, iv p3, iv p4, iv 2, iv 1, iv 2, iv x_pv867, iv x_pv887, iv x_pv867, iv x_pv887, .unset, .unset, .unset, .unset, .unset, .unset, .unset] []))
      refine Way.by (fun _ k => XS.iconst X869.here hx rfl (hb hby at_105) k) ?_
      show Way _ _ _ _ (T868.setTop (mkF m 106 #[iv p0, iv p1, iv p2, iv p3, iv p4, iv 2, iv 1, iv 2, iv x_pv867, iv x_pv887, iv x_pv867, iv x_pv887, .unset, .unset, .unset, .unset, .unset, .unset, .unset] [(.int 2)]))
      obtain ⟨T891, h892, kc893, X894, e895, E896, A897, st898⟩ := newP X869 hx hZ0 (tw hw 5 rfl) e880 (g := (mkF m 106 #[iv p0, iv p1, iv p2, iv p3, iv p4, iv 2, iv 1, iv 2, iv x_pv867, iv x_pv887, iv x_pv867, iv x_pv887, .unset, .unset, .unset, .unset, .unset, .unset, .unset] [(.int 2)])) rfl (hb hby at_106) rfl (by decide) (cap := 2) (by decide) (by decide) (by decide) (by decide)
      obtain ⟨a899, g900⟩ : ∃ z, z = h0.size := ⟨_, rfl⟩
      rw [← g900] at A897 st898
      have nw902 : n0 ≤ a899 := Nat.le_trans Z0 (Nat.le_of_eq g900.symm)
      have Z903 := Nat.le_trans Z0 E896.1
      have hk904 := Nat.le_trans (Nat.zero_le _) E896.1
      have O905 := O0.ext E896
      have V901 : Arv Z h892 a899 kc893 .char (2 : Int32) [] (.int 0) := Arv.new A897 (by decide)
      refine Way.by st898 ?_
      show Way _ _ _ _ (T891.setTop (mkF m 108 #[iv p0, iv p1, iv p2, iv p3, iv p4, iv 2, iv 1, iv 2, iv x_pv867, iv x_pv887, iv x_pv867, iv x_pv887, .unset, .unset, .unset, .unset, .unset, .unset, .unset] [(.ref a899)]))
      refine Way.by (fun _ k => XS.dup X894.here hx rfl (hb hby at_108) rfl rfl k) ?_
      show Way _ _ _ _ (T891.setTop (mkF m 109 #[iv p0, iv p1, iv p2, iv p3, iv p4, iv 2, iv 1, iv 2, iv x_pv867, iv x_pv887, iv x_pv867, iv x_pv887, .unset, .unset, .unset, .unset, .unset, .unset, .unset] [(.ref a899), (.ref a899)]))
      refine Way.by (fun _ k => XS.iconst X894.here hx rfl (hb hby at_109) k) ?_
      show Way _ _ _ _ (T891.setTop (mkF m 110 #[iv p0, iv p1, iv p2, iv p3, iv p4, iv 2, iv 1, iv 2, iv x_pv867, iv x_pv887, iv x_pv867, iv x_pv887, .unset, .unset, .unset, .unset, .unset, .unset, .unset] [(.int 0), (.ref a899), (.ref a899)]))
      refine Way.by (fun _ k => XS.iload X894.here hx rfl (hb hby at_110) rfl k) ?_
      show Way _ _ _ _ (T891.setTop (mkF m 112 #[iv p0, iv p1, iv p2, iv p3, iv p4, iv 2, iv 1, iv 2, iv x_pv867, iv x_pv887, iv x_pv867, iv x_pv887, .unset, .unset, .unset, .unset, .unset, .unset, .unset] [(.int x_pv867), (.int 0), (.ref a899), (.ref a899)]))
      have V906 : Arv Z h892 a899 kc893 .char (2 : Int32) [(.int 0)] (.int 0) := V901.pad (pad_rep [] (.int 0) 1)
      obtain ⟨c907, A908, q909, S910, M911, H912, U913⟩ := id V906
      obtain ⟨T914, h915, X916, e917, W918, st919⟩ := stC X894 hx hZ0 e895 A908 (j := (0 : Int32)) (inb_of S910 ⟨(by decide), (by decide)⟩) (g := (mkF m 112 #[iv p0, iv p1, iv p2, iv p3, iv p4, iv 2, iv 1, iv 2, iv x_pv867, iv x_pv887, iv x_pv867, iv x_pv887, .unset, .unset, .unset, .unset, .unset, .unset, .unset] [(.int x_pv867), (.int 0), (.ref a899), (.ref a899)])) rfl rfl (hb hby at_112)
      have N920 := Fr.snoc X916 N879 nw902
      have V921 : Arv Z h915 a899 kc893 .char (2 : Int32) [(.int (nar .char x_pv867))] (.int 0) := Arv.set A908 q909 S910 M911 H912 U913 (fits_nar_char _) W918 0 rfl (leB rfl)
      have nq923 : nar .char x_pv867 = x_pv867 := own_nar (by have q := pu_OK866.rng; omega)
      have V922 : Arv Z h915 a899 kc893 .char (2 : Int32) [(.int x_pv867)] (.int 0) := by rw [nq923] at V921; exact V921
      have Z924 : n0 ≤ h915.size := by rw [W918.size]; exact Z903
      have hk925 := Nat.le_trans hk904 (Nat.le_of_eq W918.size.symm)
      have O926 := O905.wr W918 nw902
      refine Way.by st919 ?_
      show Way _ _ _ _ (T914.setTop (mkF m 113 #[iv p0, iv p1, iv p2, iv p3, iv p4, iv 2, iv 1, iv 2, iv x_pv867, iv x_pv887, iv x_pv867, iv x_pv887, .unset, .unset, .unset, .unset, .unset, .unset, .unset] [(.ref a899)]))
      refine Way.by (fun _ k => XS.dup X916.here hx rfl (hb hby at_113) rfl rfl k) ?_
      show Way _ _ _ _ (T914.setTop (mkF m 114 #[iv p0, iv p1, iv p2, iv p3, iv p4, iv 2, iv 1, iv 2, iv x_pv867, iv x_pv887, iv x_pv867, iv x_pv887, .unset, .unset, .unset, .unset, .unset, .unset, .unset] [(.ref a899), (.ref a899)]))
      refine Way.by (fun _ k => XS.iconst X916.here hx rfl (hb hby at_114) k) ?_
      show Way _ _ _ _ (T914.setTop (mkF m 115 #[iv p0, iv p1, iv p2, iv p3, iv p4, iv 2, iv 1, iv 2, iv x_pv867, iv x_pv887, iv x_pv867, iv x_pv887, .unset, .unset, .unset, .unset, .unset, .unset, .unset] [(.int 1), (.ref a899), (.ref a899)]))
      refine Way.by (fun _ k => XS.iload X916.here hx rfl (hb hby at_115) rfl k) ?_
      show Way _ _ _ _ (T914.setTop (mkF m 117 #[iv p0, iv p1, iv p2, iv p3, iv p4, iv 2, iv 1, iv 2, iv x_pv867, iv x_pv887, iv x_pv867, iv x_pv887, .unset, .unset, .unset, .unset, .unset, .unset, .unset] [(.int x_pv887), (.int 1), (.ref a899), (.ref a899)]))
      have V927 : Arv Z h915 a899 kc893 .char (2 : Int32) [(.int x_pv867), (.int 0)] (.int 0) := V922.pad (pad_rep [(.int x_pv867)] (.int 0) 1)
      obtain ⟨c928, A929, q930, S931, M932, H933, U934⟩ := id V927
      obtain ⟨T935, h936, X937, e938, W939, st940⟩ := stC X916 hx hZ0 e917 A929 (j := (1 : Int32)) (inb_of S931 ⟨(by decide), (by decide)⟩) (g := (mkF m 117 #[iv p0, iv p1, iv p2, iv p3, iv p4, iv 2, iv 1, iv 2, iv x_pv867, iv x_pv887, iv x_pv867, iv x_pv887, .unset, .unset, .unset, .unset, .unset, .unset, .unset] [(.int x_pv887), (.int 1), (.ref a899), (.ref a899)])) rfl rfl (hb hby at_117)
      have N941 := Fr.snoc X937 N920 nw902
      have V942 : Arv Z h936 a899 kc893 .char (2 : Int32) [(.int x_pv867), (.int (nar .char x_pv887))] (.int 0) := Arv.set A929 q930 S931 M932 H933 U934 (fits_nar_char _) W939 1 rfl (leB rfl)
      have nq944 : nar .char x_pv887 = x_pv887 := own_nar (by have q := pu_OK886.rng; omega)
      have V943 : Arv Z h936 a899 kc893 .char (2 : Int32) [(.int x_pv867), (.int x_pv887)] (.int 0) := by rw [nq944] at V942; exact V942
      have Z945 : n0 ≤ h936.size := by rw [W939.size]; exact Z924
      have hk946 := Nat.le_trans hk925 (Nat.le_of_eq W939.size.symm)
      have O947 := O926.wr W939 nw902
      refine Way.by st940 ?_
      show Way _ _ _ _ (T935.setTop (mkF m 118 #[iv p0, iv p1, iv p2, iv p3, iv p4, iv 2, iv 1, iv 2, iv x_pv867, iv x_pv887, iv x_pv867, iv x_pv887, .unset, .unset, .unset, .unset, .unset, .unset, .unset] [(.ref a899)]))
      refine Way.by (fun _ k => XS.astore X937.here hx rfl (hb hby at_118) rfl rfl (l' := #[iv p0, iv p1, iv p2, iv p3, iv p4, iv 2, iv 1, iv 2, iv x_pv867, iv x_pv887, iv x_pv867, iv x_pv887, rv a899, .unset, .unset, .unset, .unset, .unset, .unset]) rfl k) ?_
      show Way _ _ _ _ (T935.setTop (mkF m 120 #[iv p0, iv p1, iv p2, iv p3, iv p4, iv 2, iv 1, iv 2, iv x_pv867, iv x_pv887, iv x_pv867, iv x_pv887, rv a899, .unset, .unset, .unset, .unset, .unset, .unset] []))
      refine Way.by (fun _ k => XS.iload X937.here hx rfl (hb hby at_120) rfl k) ?_
      show Way _ _ _ _ (T935.setTop (mkF m 122 #[iv p0, iv p1, iv p2, iv p3, iv p4, iv 2, iv 1, iv 2, iv x_pv867, iv x_pv887, iv x_pv867, iv x_pv887, rv a899, .unset, .unset, .unset, .unset, .unset, .unset] [(.int 2)]))
      refine Way.by (fun _ k => XS.iconst X937.here hx rfl (hb hby at_122) k) ?_
      show Way _ _ _ _ (T935.setTop (mkF m 123 #[iv p0, iv p1, iv p2, iv p3, iv p4, iv 2, iv 1, iv 2, iv x_pv867, iv x_pv887, iv x_pv867, iv x_pv887, rv a899, .unset, .unset, .unset, .unset, .unset, .unset] [(.int 1), (.int 2)]))
      have b948 : ¬ (2 : Int32) = (1 : Int32) := by decide
      refine Way.by (fun _ k => XS.icmpYes X937.here hx rfl (pc0 := 123) (pc' := 137) rfl (hb hby at_123) rfl (feq b948).2 (by decide) (by decide) k) ?_
      show Way _ _ _ _ (T935.setTop (mkF m 137 #[iv p0, iv p1, iv p2, iv p3, iv p4, iv 2, iv 1, iv 2, iv x_pv867, iv x_pv887, iv x_pv867, iv x_pv887, rv a899, .unset, .unset, .unset, .unset, .unset, .unset] []))
      refine Way.by (fun _ k => XS.iconst X937.here hx rfl (hb hby at_137) k) ?_
      show Way _ _ _ _ (T935.setTop (mkF m 138 #[iv p0, iv p1, iv p2, iv p3, iv p4, iv 2, iv 1, iv 2, iv x_pv867, iv x_pv887, iv x_pv867, iv x_pv887, rv a899, .unset, .unset, .unset, .unset, .unset, .unset] [(.int 2)]))
      obtain ⟨T949, h950, kc951, X952, e953, E954, A955, st956⟩ := newP X937 hx hZ0 (tw hw 5 rfl) e938 (g := (mkF m 138 #[iv p0, iv p1, iv p2, iv p3, iv p4, iv 2, iv 1, iv 2, iv x_pv867, iv x_pv887, iv x_pv867, iv x_pv887, rv a899, .unset, .unset, .unset, .unset, .unset, .unset] [(.int 2)])) rfl (hb hby at_138) rfl (by decide) (cap := 2) (by decide) (by decide) (by decide) (by decide)
      obtain ⟨a957, g958⟩ : ∃ z, z = h936.size := ⟨_, rfl⟩
      rw [← g958] at A955 st956
      have ne960 : a899 ≠ a957 := Nat.ne_of_lt (Nat.lt_of_lt_of_eq V943.lt g958.symm)
      have nw961 : n0 ≤ a957 := Nat.le_trans Z945 (Nat.le_of_eq g958.symm)
      have A962 := V943.ext E954
      have Z963 := Nat.le_trans Z945 E954.1
      have hk964 := Nat.le_trans hk946 E954.1
      have O965 := O947.ext E954
      have V959 : Arv Z h950 a957 kc951 .char (2 : Int32) [] (.int 0) := Arv.new A955 (by decide)
      refine Way.by st956 ?_
      show Way _ _ _ _ (T949.setTop (mkF m 140 #[iv p0, iv p1, iv p2, iv p3, iv p4, iv 2, iv 1, iv 2, iv x_pv867, iv x_pv887, iv x_pv867, iv x_pv887, rv a899, .unset, .unset, .unset, .unset, .unset, .unset] [(.ref a957)]))
      refine Way.by (fun _ k => XS.dup X952.here hx rfl (hb hby at_140) rfl rfl k) ?_
      show Way _ _ _ _ (T949.setTop (mkF m 141 #[iv p0, iv p1, iv p2, iv p3, iv p4, iv 2, iv 1, iv 2, iv x_pv867, iv x_pv887, iv x_pv867, iv x_pv887, rv a899, .unset, .unset, .unset, .unset, .unset, .unset] [(.ref a957), (.ref a957)]))
      refine Way.by (fun _ k => XS.iconst X952.here hx rfl (hb hby at_141) k) ?_
      show Way _ _ _ _ (T949.setTop (mkF m 142 #[iv p0, iv p1, iv p2, iv p3, iv p4, iv 2, iv 1, iv 2, iv x_pv867, iv x_pv887, iv x_pv867, iv x_pv887, rv a899, .unset, .unset, .unset, .unset, .unset, .unset] [(.int 0), (.ref a957), (.ref a957)]))
      refine Way.by (fun _ k => XS.iload X952.here hx rfl (hb hby at_142) rfl k) ?_
      show Way _ _ _ _ (T949.setTop (mkF m 144 #[iv p0, iv p1, iv p2, iv p3, iv p4, iv 2, iv 1, iv 2, iv x_pv867, iv x_pv887, iv x_pv867, iv x_pv887, rv a899, .unset, .unset, .unset, .unset, .unset, .unset] [(.int x_pv867), (.int 0), (.ref a957), (.ref a957)]))
      have V966 : Arv Z h950 a957 kc951 .char (2 : Int32) [(.int 0)] (.int 0) := V959.pad (pad_rep [] (.int 0) 1)
      obtain ⟨c967, A968, q969, S970, M971, H972, U973⟩ := id V966
      obtain ⟨T974, h975, X976, e977, W978, st979⟩ := stC X952 hx hZ0 e953 A968 (j := (0 : Int32)) (inb_of S970 ⟨(by decide), (by decide)⟩) (g := (mkF m 144 #[iv p0, iv p1, iv p2, iv p3, iv p4, iv 2, iv 1, iv 2, iv x_pv867, iv x_pv887, iv x_pv867, iv x_pv887, rv a899, .unset, .unset, .unset, .unset, .unset, .unset] [(.int x_pv867), (.int 0), (.ref a957), (.ref a957)])) rfl rfl (hb hby at_144)
      have N980 := Fr.snoc X976 N941 nw961
      have V981 : Arv Z h975 a957 kc951 .char (2 : Int32) [(.int (nar .char x_pv867))] (.int 0) := Arv.set A968 q969 S970 M971 H972 U973 (fits_nar_char _) W978 0 rfl (leB rfl)
      have nq983 : nar .char x_pv867 = x_pv867 := own_nar (by have q := pu_OK866.rng; omega)
      have V982 : Arv Z h975 a957 kc951 .char (2 : Int32) [(.int x_pv867)] (.int 0) := by rw [nq983] at V981; exact V981
      have A984 := A962.other W978 ne960
      have Z985 : n0 ≤ h975.size := by rw [W978.size]; exact Z963
      have hk986 := Nat.le_trans hk964 (Nat.le_of_eq W978.size.symm)
      have O987 := O965.wr W978 nw961
      refine Way.by st979 ?_
      show Way _ _ _ _ (T974.setTop (mkF m 145 #[iv p0, iv p1, iv p2, iv p3, iv p4, iv 2, iv 1, iv 2, iv x_pv867, iv x_pv887, iv x_pv867, iv x_pv887, rv a899, .unset, .unset, .unset, .unset, .unset, .unset] [(.ref a957)]))
      refine Way.by (fun _ k => XS.dup X976.here hx rfl (hb hby at_145) rfl rfl k) ?_
      show Way _ _ _ _ (T974.setTop (mkF m 146 #[iv p0, iv p1, iv p2, iv p3, iv p4, iv 2, iv 1, iv 2, iv x_pv867, iv x_pv887, iv x_pv867, iv x_pv887, rv a899, .unset, .unset, .unset, .unset, .unset, .unset] [(.ref a957), (.ref a957)]))
      refine Way.by (fun _ k => XS.iconst X976.here hx rfl (hb hby at_146) k) ?_
      show Way _ _ _ _ (T974.setTop (mkF m 147 #[iv p0, iv p1, iv p2, iv p3, iv p4, iv 2, iv 1, iv 2, iv x_pv867, iv x_pv887, iv x_pv867, iv x_pv887, rv a899, .unset, .unset, .unset, .unset, .unset, .unset] [(.int 1), (.ref a957), (.ref a957)]))
      refine Way.by (fun _ k => XS.iload X976.here hx rfl (hb hby at_147) rfl k) ?_
      show Way _ _ _ _ (T974.setTop (mkF m 149 #[iv p0, iv p1, iv p2, iv p3, iv p4, iv 2, iv 1, iv 2, iv x_pv867, iv x_pv887, iv x_pv867, iv x_pv887, rv a899, .unset, .unset, .unset, .unset, .unset, .unset] [(.int x_pv887), (.int 1), (.ref a957), (.ref a957)]))
      have V988 : Arv Z h975 a957 kc951 .char (2 : Int32) [(.int x_pv867), (.int 0)] (.int 0) := V982.pad (pad_rep [(.int x_pv867)] (.int 0) 1)
      obtain ⟨c989, A990, q991, S992, M993, H994, U995⟩ := id V988
      obtain ⟨T996, h997, X998, e999, W1000, st1001⟩ := stC X976 hx hZ0 e977 A990 (j := (1 : Int32)) (inb_of S992 ⟨(by decide), (by decide)⟩) (g := (mkF m 149 #[iv p0, iv p1, iv p2, iv p3, iv p4, iv 2, iv 1, iv 2, iv x_pv867, iv x_pv887, iv x_pv867, iv x_pv887, rv a899, .unset, .unset, .unset, .unset, .unset, .unset] [(.int x_pv887), (.int 1), (.ref a957), (.ref a957)])) rfl rfl (hb hby at_149)
      have N1002 := Fr.snoc X998 N980 nw961
      have V1003 : Arv Z h997 a957 kc951 .char (2 : Int32) [(.int x_pv867), (.int (nar .char x_pv887))] (.int 0) := Arv.set A990 q991 S992 M993 H994 U995 (fits_nar_char _) W1000 1 rfl (leB rfl)
      have nq1005 : nar .char x_pv887 = x_pv887 := own_nar (by have q := pu_OK886.rng; omega)
      have V1004 : Arv Z h997 a957 kc951 .char (2 : Int32) [(.int x_pv867), (.int x_pv887)] (.int 0) := by rw [nq1005] at V1003; exact V1003
      have A1006 := A984.other W1000 ne960
      have Z1007 : n0 ≤ h997.size := by rw [W1000.size]; exact Z985
      have hk1008 := Nat.le_trans hk986 (Nat.le_of_eq W1000.size.symm)
      have O1009 := O987.wr W1000 nw961
      refine Way.by st1001 ?_
      show Way _ _ _ _ (T996.setTop (mkF m 150 #[iv p0, iv p1, iv p2, iv p3, iv p4, iv 2, iv 1, iv 2, iv x_pv867, iv x_pv887, iv x_pv867, iv x_pv887, rv a899, .unset, .unset, .unset, .unset, .unset, .unset] [(.ref a957)]))
      refine Way.by (fun _ k => XS.astore X998.here hx rfl (hb hby at_150) rfl rfl (l' := #[iv p0, iv p1, iv p2, iv p3, iv p4, iv 2, iv 1, iv 2, iv x_pv867, iv x_pv887, iv x_pv867, iv x_pv887, rv a899, rv a957, .unset, .unset, .unset, .unset, .unset]) rfl k) ?_
      show Way _ _ _ _ (T996.setTop (mkF m 152 #[iv p0, iv p1, iv p2, iv p3, iv p4, iv 2, iv 1, iv 2, iv x_pv867, iv x_pv887, iv x_pv867, iv x_pv887, rv a899, rv a957, .unset, .unset, .unset, .unset, .unset] []))
      exact seg152 l Z a0 hw ws p0 p1 p2 p3 p4 ur up ut h0 n0 Z0 O0 SV SRULE ERULE FPU SPU p e s m below meth c s₁ Bd hml _ hZ0 hown0 _ hS0 T996 h997 _ X998 e999 N1002 Z1007 hk1008 O1009 (2 : Int32) (2 : Int32) x_pv867 x_pv887 x_pv867 x_pv887 (1 : Int32) a899 a957 kc893 kc951 [x_pv867, x_pv887] [x_pv867, x_pv887] A1006 V1004 (by intro c hc; simp only [List.mem_cons, List.not_mem_nil, or_false] at hc; rcases hc with rfl | rfl <;> assumption) (by intro c hc; simp only [List.mem_cons, List.not_mem_nil, or_false] at hc; rcases hc with rfl | rfl <;> assumption) (by simp) (by simp) (Or.inr ⟨rfl, rfl⟩) (Or.inr ⟨rfl, rfl⟩) ne960
set_option maxRecDepth 65536 in
set_option maxHeartbeats 40000000 in
theorem comes_1 {Post : Tables → Env → Array Value → State → Outcome → State → Prop} (hpost : ∀ tb e args s v u, (limb_1_1.after args s (.returned v) u = true ∧ limb_1_2.after args s (.returned v) u = true ∧ True) → ReturnedEndW s (.returned v) u (Jvm.fieldLocs frame_1_writes args s ++ Jvm.arrayLocs frame_1_arrays args s ++ Jvm.staticLocs frame_1_statics s) 32 2176 → Post tb e args s (.returned v) u) :
    ArmFor flags0 classFile x code maxLocals ret World_1 tables_1 room_1 Calls_1 rest_1 Pre_1 Post := by
  intro l hfl _ _ p e ha hc hk s m args below hf hA hF happ hP
  obtain ⟨hcalls, hrest, hpre⟩ := hP
  obtain ⟨-, -, -, hnamed, -, -, -, hat⟩ := (Spec.applies_iff hf).mp happ
  obtain ⟨hg, hn⟩ := and_e (Cond.before_iff.mp (show (Jvm.Cond.and given_1 narrow_1).before args s = true from hpre))
  obtain ⟨hg0, hgr0⟩ := and_e hg
  obtain ⟨hg1, hgr1⟩ := and_e hgr0
  obtain ⟨hg2, hgr2⟩ := and_e hgr1
  obtain ⟨hg3, hgr3⟩ := and_e hgr2
  obtain ⟨hg4, hgr4⟩ := and_e hgr3
  obtain ⟨w0, w1, w2, w3, w4, rfl⟩ : ∃ w0 w1 w2 w3 w4 : Value, args = #[w0, w1, w2, w3, w4] := by
    have hs : args.size = 5 := by simpa [Cond.value, given_1] using hg0
    obtain ⟨L⟩ := args
    match L, hs with
    | [w0, w1, w2, w3, w4], _ => exact ⟨w0, w1, w2, w3, w4, rfl⟩
  have hw := fun d (hd : d ∈ tables_1) => atoms_spec (ws := Jvm.Cond.code x code maxLocals ret :: tables_1) hat d (List.mem_cons_of_mem _ hd)
  have hfit : Fit s := fun {y c} hc i hi => by
    obtain ⟨ha, rfl⟩ := Array.getElem?_eq_some_iff.mp hc
    have q := List.all_eq_true.mp ((Array.all_eq_true_iff_forall_mem.mp hF) _ (Array.getElem_mem ha)) i (List.mem_range.mpr hi)
    simpa [Array.getElem?_eq_getElem hi] using q
  obtain ⟨i0, ei0⟩ := is_v hg1
  obtain rfl : w0 = (.int i0) := Option.some.inj ei0
  obtain ⟨i1, ei1⟩ := is_v hg2
  obtain rfl : w1 = (.int i1) := Option.some.inj ei1
  obtain ⟨i2, ei2⟩ := is_v hg3
  obtain rfl : w2 = (.int i2) := Option.some.inj ei2
  obtain ⟨i3, ei3⟩ := is_v hg4
  obtain rfl : w3 = (.int i3) := Option.some.inj ei3
  obtain ⟨i4, ei4⟩ := is_v hgr4
  obtain rfl : w4 = (.int i4) := Option.some.inj ei4
  obtain ⟨hn0, hnr0⟩ := and_e hn
  obtain ⟨hn1, hnr1⟩ := and_e hnr0
  obtain ⟨hn2, hnr2⟩ := and_e hnr1
  obtain ⟨hn3, hnr3⟩ := and_e hnr2
  obtain ⟨hn4, hnr4⟩ := and_e hnr3
  obtain ⟨hn5, hnr5⟩ := and_e hnr4
  obtain ⟨hn6, hnr6⟩ := and_e hnr5
  obtain ⟨uRULE, _, _, _, evRULE, -⟩ := Cond.exactly_spec (Cond.before_iff.mpr hn0)
  have SRULE := Sta.start evRULE (Or.inr ⟨(tw hw 8 rfl), (tw hw 43 rfl)⟩)
  have ERULE := Exa.start evRULE hn0
  have hs := atoms_of jdkStatics_1 (show (jdkStatics_1.foldr Jvm.Cond.and restOwn_1).before _ s = true from hrest)
  have SV : own_Env s := by
    refine ⟨?_, ?_⟩
    · obtain ⟨G1, ev⟩ := is_v (Cond.before_iff.mp (hs.1 _ (List.mem_of_getElem? (i := 1) rfl)))
      exact ⟨G1, Sta.start ev (Or.inl (hs.1 _ (List.mem_of_getElem? (i := 0) rfl))), envNe ev (hs.1 _ (List.mem_of_getElem? (i := 2) rfl))⟩
    · obtain ⟨G3, ev, rG⟩ := envRef (hs.1 _ (List.mem_of_getElem? (i := 8) rfl))
      exact ⟨G3, Sta.start ev (Or.inl (hs.1 _ (List.mem_of_getElem? (i := 7) rfl))), rG⟩

  obtain ⟨up, _, _, _, evP, -⟩ := Cond.exactly_spec (Cond.before_iff.mpr hn1)
  have FPU : Fld s s.heap uRULE "com/example/deduct/deduct/model/NameRule" "punctuation" "Ljava/lang/String;" (.ref up) := Fld.start ((fld_at evRULE).symm.trans evP)
  have EP := Exa.start evP hn1
  have CP := fldStart evP hn2
  obtain ⟨xv, yv, e1, -, -⟩ := cmp_v (Or.inl hn4)
  obtain ⟨ut, evV⟩ := len_v e1
  obtain ⟨cl, AV⟩ := Arr.start evV hn3
  have FV : Fld s s.heap up "java/lang/String" "value" "[B" (.ref ut) := Fld.start ((fld_at evP).symm.trans evV)
  obtain ⟨hszV, hlenV⟩ := Jvm.Free.IntBox.length_fwd (Cond.before_iff.mpr hn4) evV AV.1 AV.2.1 AV.2.2
  have q0 := (elem_in (evInt hn5) evV (Term.int_eval 0) AV.1).2
  have q1 := (elem_in (evInt hn6) evV (Term.int_eval 1) AV.1).2
  have q2 := (elem_in (evInt hnr6) evV (Term.int_eval 2) AV.1).2
  have VV : Arv s s.heap ut cl.cls .byte (3 : Int32) [(.int 46), (.int 95), (.int 45)] (.int 0) := Arv.start hfit AV hszV hlenV (by decide) rfl ⟨q0, q1, q2, trivial⟩
  have SPU : own_Str s s.heap up ut [46, 95, 45] := ⟨EP, FV, CP, ⟨_, _, _, VV, Or.inl ⟨rfl, rfl, rfl, by decide⟩⟩, by decide, by decide⟩
  obtain ⟨n, o, h1, h2, h3, _, L, rfl, ⟨rfl, N⟩, hq⟩ := rm0 l s _ hw tables_1 i0 i1 i2 i3 i4 uRULE up ut s.heap s.heap.size (Nat.le_refl _) (Old.start s) SV SRULE ERULE FPU SPU p e ha hc hk s m _ below hf ((Spec.applies_iff_loose hf).mp happ).1 ⟨rfl, State.Warmed39.refl s, rfl⟩ trivial
  refine ⟨n, _, h1, h2, h3, hpost _ _ _ _ _ _ ⟨Cond.after_iff.mpr rfl, Cond.after_iff.mpr (eq_i res_at (Term.int_eval (1)) rfl), trivial⟩ ⟨hq.1, hq.2.1, hq.2.2.1, (hq.2.2.2.sift fun y hy => Or.inr (N y hy)).mono (by decide) (by decide)⟩⟩
theorem main_1_1 : Claimed_1_1 := comes_1 fun _ _ _ _ _ _ h hF => ⟨h.1, hF⟩
theorem main_1_2 : Claimed_1_2 := comes_1 fun _ _ _ _ _ _ h hF => ⟨h.2.1, hF⟩
end Jvm.Pilot.@@N@@
namespace Jvm.Pilot.@@N@@
open Jvm Jvm.ClassFile Sem Op Lib Jvm.Free Jvm.Stand Jvm.Pilot.@@N@@.Jvm.D
/-! MADE BY PROGRAM (witnessworld.py) out of the Statement's table words and the real class files: 23 classes; the members and pool entries that the words name. The judged class is class 1, her method 2. -/
namespace start1
open Jvm.ClassFile
def u (s : String) : CpInfo := .utf8 (stringToUtf16 s)
/-- a pool by its gaps: so many unusable entries, then the entry; so many at the end -/
def gap : Nat → List CpInfo → List CpInfo
  | 0, r => r
  | n + 1, r => .unusable :: gap n r
def poolList (es : List (Nat × CpInfo)) (last : Nat) : List CpInfo := es.foldr (fun e r => gap e.1 (e.2 :: r)) (gap last [])
def pool (es : List (Nat × CpInfo)) (last : Nat) : Array CpInfo := ⟨poolList es last⟩
def fileOf (pool : Array CpInfo) (this : Nat) (attrs : Array Attribute := #[]) (ms : Array MethodInfo := #[]) (fl : Nat := 33) (sup : Nat := 0) (ifs : Array Nat := #[]) (fds : Array FieldInfo := #[]) : ClassFile where
  minorVersion := 0
  majorVersion := 65
  constantPool := pool
  accessFlags := fl
  thisClass := this
  superClass := sup
  interfaces := ifs
  fields := fds
  methods := ms
  attributes := attrs
def plain (name : String) (sup : Option ClassId) : Class where
  name := name
  kind := .ordinary
  loader := none
  accessFlags := 33
  super := sup
  interfaces := #[]
  cf := none
  fields := #[]
  methods := #[]
  instanceTypes := #[]
  staticTypes := #[]
  resolved := #[]
  callSites := []
  init := .initialized
  statics := none
  mirror := none

def pool0 : Array CpInfo := pool [(5, u "<init>"), (0, u "()V"), (1, .class_ 10), (1, u "java/lang/Object")] 113

def k0c0 : Code := { maxStack := 0, maxLocals := 1, code := object_method_1_code, exceptionTable := #[], attributes := #[] }
def k0m0 : Method := { name := "<init>", desc := "()V", sig := { parameters := [], returnType := none }, accessFlags := 1, code := some k0c0 }
/-- java/lang/Object -/
def k0 : Class := { plain "java/lang/Object" none with
  accessFlags := 33
  interfaces := #[]
  cf := some (fileOf pool0 8 #[] #[{ accessFlags := 1, nameIndex := 5, descriptorIndex := 6, attributes := #[] }] 33 0 #[] #[])
  fields := #[]
  methods := #[k0m0]
  instanceTypes := #[]
  staticTypes := #[]
  resolved := Array.replicate 124 none
  statics := none }

def pool1 : Array CpInfo := pool [(2, .class_ 4), (1, u "java/lang/Object"), (0, u "<init>"), (0, u "()V"), (0, .integer 2147483647), (0, .methodref 9 10), (0, .class_ 11), (0, .nameAndType 12 13), (0, u "com/example/deduct/deduct/model/ItemIdEqualsPinLaw"), (0, u "pick"), (0, u "(I)C"), (0, .class_ 15), (0, u "com/example/deduct/deduct/model/ItemId"), (0, .class_ 17), (0, u "java/lang/String"), (0, .methodref 16 19), (0, .nameAndType 5 20), (0, u "([C)V"), (0, .methodref 14 22), (0, .nameAndType 5 23), (0, u "(Ljava/lang/String;)V"), (0, .methodref 14 25), (0, .nameAndType 26 27), (0, u "equals"), (0, u "(Ljava/lang/Object;)Z"), (3, u "law"), (0, u "(IIIII)Z")] 4

def k1m0 : Method := { name := "<init>", desc := "()V", sig := { parameters := [], returnType := none }, accessFlags := 1, code := none }
def k1c1 : Code := { maxStack := 3, maxLocals := 2, code := method_2_code, exceptionTable := #[], attributes := #[] }
def k1m1 : Method := { name := "pick", desc := "(I)C", sig := { parameters := [.int], returnType := some .char }, accessFlags := 10, code := some k1c1 }
def k1c2 : Code := { maxStack := 5, maxLocals := 19, code := code, exceptionTable := #[], attributes := #[] }
def k1m2 : Method := { name := "law", desc := "(IIIII)Z", sig := { parameters := [.int, .int, .int, .int, .int], returnType := some .boolean }, accessFlags := 9, code := some k1c2 }
/-- com/example/deduct/deduct/model/ItemIdEqualsPinLaw -/
def k1 : Class := { plain "com/example/deduct/deduct/model/ItemIdEqualsPinLaw" (some 0) with
  accessFlags := 49
  interfaces := #[]
  cf := some (fileOf pool1 9 #[] #[{ accessFlags := 1, nameIndex := 5, descriptorIndex := 6, attributes := #[] }, { accessFlags := 10, nameIndex := 12, descriptorIndex := 13, attributes := #[] }, { accessFlags := 9, nameIndex := 31, descriptorIndex := 32, attributes := #[] }] 49 2 #[] #[])
  fields := #[]
  methods := #[k1m0, k1m1, k1m2]
  instanceTypes := #[]
  staticTypes := #[]
  resolved := Array.replicate 37 none
  statics := none }

def pool2 : Array CpInfo := pool [(1, .class_ 2), (0, u "com/example/deduct/deduct/model/NameRule"), (0, .methodref 4 5), (0, .class_ 6), (0, .nameAndType 7 8), (0, u "java/lang/Object"), (0, u "<init>"), (0, u "()V"), (0, .fieldref 10 11), (0, .class_ 12), (0, .nameAndType 13 14), (0, u "com/example/deduct/deduct/model/ItemId"), (0, u "RULE"), (0, u "Lcom/example/deduct/deduct/model/NameRule;"), (0, .string 16), (0, u "item id"), (0, .methodref 1 18), (0, .nameAndType 19 20), (0, u "check"), (0, u "(Ljava/lang/String;Ljava/lang/String;)Ljava/lang/String;"), (0, .fieldref 10 22), (0, .nameAndType 23 24), (0, u "value"), (0, u "Ljava/lang/String;"), (0, .methodref 26 27), (0, .class_ 28), (0, .nameAndType 29 30), (0, u "java/lang/String"), (0, u "equals"), (0, u "(Ljava/lang/Object;)Z"), (11, u "MAX_LENGTH"), (0, u "I"), (2, u "(Ljava/lang/String;)V")] 8

def k2c0 : Code := { maxStack := 4, maxLocals := 2, code := prog_8_method_1_code, exceptionTable := #[], attributes := #[] }
def k2m0 : Method := { name := "<init>", desc := "(Ljava/lang/String;)V", sig := { parameters := [(.object "java/lang/String")], returnType := none }, accessFlags := 1, code := some k2c0 }
def k2c1 : Code := { maxStack := 2, maxLocals := 2, code := prog_8_method_3_code, exceptionTable := #[], attributes := #[] }
def k2m1 : Method := { name := "equals", desc := "(Ljava/lang/Object;)Z", sig := { parameters := [(.object "java/lang/Object")], returnType := some .boolean }, accessFlags := 1, code := some k2c1 }
/-- com/example/deduct/deduct/model/ItemId -/
def k2 : Class := { plain "com/example/deduct/deduct/model/ItemId" (some 0) with
  accessFlags := 49
  interfaces := #[]
  cf := some (fileOf pool2 10 #[] #[{ accessFlags := 1, nameIndex := 7, descriptorIndex := 46, attributes := #[] }, { accessFlags := 1, nameIndex := 29, descriptorIndex := 30, attributes := #[] }] 49 4 #[] #[{ accessFlags := 25, nameIndex := 42, descriptorIndex := 43, attributes := #[] }, { accessFlags := 24, nameIndex := 13, descriptorIndex := 14, attributes := #[] }, { accessFlags := 18, nameIndex := 23, descriptorIndex := 24, attributes := #[] }])
  fields := #[{ name := "MAX_LENGTH", type := .int, accessFlags := 25, slot := 0, constantValue := 0 }, { name := "RULE", type := (.object "com/example/deduct/deduct/model/NameRule"), accessFlags := 24, slot := 1, constantValue := 0 }, { name := "value", type := (.object "java/lang/String"), accessFlags := 18, slot := 0, constantValue := 0 }]
  methods := #[k2m0, k2m1]
  instanceTypes := #[(.object "java/lang/String")]
  staticTypes := #[.int, (.object "com/example/deduct/deduct/model/NameRule")]
  resolved := Array.replicate 55 none
  statics := some 0 }

def pool3 : Array CpInfo := pool [(1, .class_ 2), (0, u "java/io/Serializable"), (0, .class_ 4), (0, u "java/lang/Object")] 2

/-- java/io/Serializable -/
def k3 : Class := { plain "java/io/Serializable" (some 0) with
  accessFlags := 1537
  interfaces := #[]
  cf := some (fileOf pool3 1 #[] #[] 1537 3 #[] #[])
  fields := #[]
  methods := #[]
  instanceTypes := #[]
  staticTypes := #[]
  resolved := Array.replicate 7 none
  statics := none }

def pool4 : Array CpInfo := pool [(1, .class_ 2), (0, u "java/lang/Comparable"), (0, .class_ 4), (0, u "java/lang/Object")] 7

/-- java/lang/Comparable -/
def k4 : Class := { plain "java/lang/Comparable" (some 0) with
  accessFlags := 1537
  interfaces := #[]
  cf := some (fileOf pool4 1 #[] #[] 1537 3 #[] #[])
  fields := #[]
  methods := #[]
  instanceTypes := #[]
  staticTypes := #[]
  resolved := Array.replicate 12 none
  statics := none }

def pool5 : Array CpInfo := pool [(2, .class_ 4), (1, u "java/lang/CharSequence"), (42, .class_ 48), (0, u "java/lang/CharSequence$1CodePointIterator"), (10, .class_ 60), (0, u "java/lang/CharSequence$1CharIterator"), (5, .class_ 67), (0, u "java/lang/Object")] 63

/-- java/lang/CharSequence -/
def k5 : Class := { plain "java/lang/CharSequence" (some 0) with
  accessFlags := 1537
  interfaces := #[]
  cf := some (fileOf pool5 2 #[.nestMembers #[47, 59]] #[] 1537 66 #[] #[])
  fields := #[]
  methods := #[]
  instanceTypes := #[]
  staticTypes := #[]
  resolved := Array.replicate 131 none
  statics := none }

def pool6 : Array CpInfo := pool [(1, .class_ 2), (0, u "java/lang/constant/Constable"), (0, .class_ 4), (0, u "java/lang/Object")] 6

/-- java/lang/constant/Constable -/
def k6 : Class := { plain "java/lang/constant/Constable" (some 0) with
  accessFlags := 1537
  interfaces := #[]
  cf := some (fileOf pool6 1 #[] #[] 1537 3 #[] #[])
  fields := #[]
  methods := #[]
  instanceTypes := #[]
  staticTypes := #[]
  resolved := Array.replicate 11 none
  statics := none }

def pool7 : Array CpInfo := pool [(1, .class_ 2), (0, u "java/lang/constant/ConstantDesc"), (0, .class_ 4), (0, u "java/lang/Object")] 32

/-- java/lang/constant/ConstantDesc -/
def k7 : Class := { plain "java/lang/constant/ConstantDesc" (some 0) with
  accessFlags := 1537
  interfaces := #[]
  cf := some (fileOf pool7 1 #[] #[] 1537 3 #[] #[])
  fields := #[]
  methods := #[]
  instanceTypes := #[]
  staticTypes := #[]
  resolved := Array.replicate 37 none
  statics := none }

def pool8 : Array CpInfo := pool [(1, .methodref 2 3), (0, .class_ 4), (0, .nameAndType 5 6), (0, u "java/lang/Object"), (0, u "<init>"), (0, u "()V"), (2, .fieldref 10 11), (0, .class_ 12), (0, .nameAndType 13 14), (0, u "java/lang/String"), (0, u "value"), (0, u "[B"), (0, .fieldref 10 16), (0, .nameAndType 17 18), (0, u "coder"), (0, u "B"), (2, u "hash"), (0, u "I"), (2, u "hashIsZero"), (0, u "Z"), (0, .methodref 10 28), (0, .nameAndType 5 29), (0, u "([CIILjava/lang/Void;)V"), (8, .fieldref 10 39), (0, .nameAndType 40 26), (0, u "COMPACT_STRINGS"), (1, .class_ 44), (1, u "java/lang/StringUTF16"), (0, u "compress"), (1, .methodref 42 48), (0, .nameAndType 49 50), (0, u "coderFromArrayLen"), (0, u "([BI)B"), (56, .class_ 109), (1, u "java/lang/StringLatin1"), (32, u "()Z"), (34, .methodref 42 178), (0, .nameAndType 45 179), (0, u "([CII)[B"), (154, u "()I"), (0, .methodref 10 336), (0, .nameAndType 17 337), (0, u "()B"), (25, u "([BI)C"), (27, u "(II)V"), (35, u "(I)C"), (64, .methodref 10 493), (0, .nameAndType 494 142), (0, u "isLatin1"), (0, .methodref 107 496), (0, .nameAndType 497 363), (0, u "charAt"), (3, u "checkIndex"), (3, .methodref 10 506), (0, .nameAndType 507 334), (0, u "length"), (33, .methodref 107 542), (0, .nameAndType 543 544), (0, u "equals"), (0, u "([B[B)Z"), (28, u "(Ljava/lang/Object;)Z"), (1, .class_ 576), (0, u "java/lang/CharSequence"), (22, u "CASE_INSENSITIVE_ORDER"), (0, u "Ljava/util/Comparator;"), (32, .methodref 10 634), (0, .nameAndType 635 636), (0, u "indexOf"), (0, u "(II)I"), (0, .methodref 107 638), (0, .nameAndType 635 639), (0, u "([BIII)I"), (52, u "isEmpty"), (72, u "(I)I"), (244, u "([C)V"), (42, .fieldref 1054 1055), (0, .class_ 1056), (0, .nameAndType 1057 1058), (0, u "jdk/internal/util/Preconditions"), (0, u "SIOOBE_FORMATTER"), (0, u "Ljava/util/function/BiFunction;"), (0, .methodref 1054 1060), (0, .nameAndType 501 1061), (0, u "(IILjava/util/function/BiFunction;)I"), (39, u "serialPersistentFields"), (0, u "[Ljava/io/ObjectStreamField;"), (0, .class_ 1104), (0, u "java/lang/String$CaseInsensitiveComparator"), (1, .class_ 1107), (0, u "java/io/Serializable"), (0, .class_ 1109), (0, u "java/lang/Comparable"), (0, .class_ 1111), (0, u "java/lang/constant/Constable"), (0, .class_ 1113), (0, u "java/lang/constant/ConstantDesc"), (2, u "serialVersionUID"), (0, u "J"), (3, u "REPL"), (0, u "C"), (2, u "LATIN1"), (1, u "UTF16")] 323

def k8m0 : Method := { name := "<init>", desc := "()V", sig := { parameters := [], returnType := none }, accessFlags := 1, code := none }
def k8c1 : Code := { maxStack := 5, maxLocals := 2, code := jdk_42_method_3_code, exceptionTable := #[], attributes := #[] }
def k8m1 : Method := { name := "<init>", desc := "([C)V", sig := { parameters := [(.array .char)], returnType := none }, accessFlags := 1, code := some k8c1 }
def k8c2 : Code := { maxStack := 2, maxLocals := 1, code := jdk_42_method_54_code, exceptionTable := #[], attributes := #[] }
def k8m2 : Method := { name := "length", desc := "()I", sig := { parameters := [], returnType := some .int }, accessFlags := 1, code := some k8c2 }
def k8c3 : Code := { maxStack := 1, maxLocals := 1, code := jdk_42_method_55_code, exceptionTable := #[], attributes := #[] }
def k8m3 : Method := { name := "isEmpty", desc := "()Z", sig := { parameters := [], returnType := some .boolean }, accessFlags := 1, code := some k8c3 }
def k8c4 : Code := { maxStack := 2, maxLocals := 2, code := jdk_42_method_56_code, exceptionTable := #[], attributes := #[] }
def k8m4 : Method := { name := "charAt", desc := "(I)C", sig := { parameters := [.int], returnType := some .char }, accessFlags := 1, code := some k8c4 }
def k8c5 : Code := { maxStack := 2, maxLocals := 3, code := jdk_42_method_66_code, exceptionTable := #[], attributes := #[] }
def k8m5 : Method := { name := "equals", desc := "(Ljava/lang/Object;)Z", sig := { parameters := [(.object "java/lang/Object")], returnType := some .boolean }, accessFlags := 1, code := some k8c5 }
def k8c6 : Code := { maxStack := 3, maxLocals := 2, code := jdk_42_method_79_code, exceptionTable := #[], attributes := #[] }
def k8m6 : Method := { name := "indexOf", desc := "(I)I", sig := { parameters := [.int], returnType := some .int }, accessFlags := 1, code := some k8c6 }
def k8c7 : Code := { maxStack := 4, maxLocals := 3, code := jdk_42_method_80_code, exceptionTable := #[], attributes := #[] }
def k8m7 : Method := { name := "indexOf", desc := "(II)I", sig := { parameters := [.int, .int], returnType := some .int }, accessFlags := 1, code := some k8c7 }
def k8c8 : Code := { maxStack := 4, maxLocals := 6, code := jdk_42_method_149_code, exceptionTable := #[], attributes := #[] }
def k8m8 : Method := { name := "<init>", desc := "([CIILjava/lang/Void;)V", sig := { parameters := [(.array .char), .int, .int, (.object "java/lang/Void")], returnType := none }, accessFlags := 2, code := some k8c8 }
def k8c9 : Code := { maxStack := 1, maxLocals := 1, code := jdk_42_method_152_code, exceptionTable := #[], attributes := #[] }
def k8m9 : Method := { name := "coder", desc := "()B", sig := { parameters := [], returnType := some .byte }, accessFlags := 0, code := some k8c9 }
def k8c10 : Code := { maxStack := 1, maxLocals := 1, code := jdk_42_method_154_code, exceptionTable := #[], attributes := #[] }
def k8m10 : Method := { name := "isLatin1", desc := "()Z", sig := { parameters := [], returnType := some .boolean }, accessFlags := 0, code := some k8c10 }
def k8c11 : Code := { maxStack := 3, maxLocals := 2, code := jdk_42_method_155_code, exceptionTable := #[], attributes := #[] }
def k8m11 : Method := { name := "checkIndex", desc := "(II)V", sig := { parameters := [.int, .int], returnType := none }, accessFlags := 8, code := some k8c11 }
/-- java/lang/String -/
def k8 : Class := { plain "java/lang/String" (some 0) with
  accessFlags := 49
  interfaces := #[3, 4, 5, 6, 7]
  cf := some (fileOf pool8 10 #[.nestMembers #[1103]] #[{ accessFlags := 1, nameIndex := 5, descriptorIndex := 6, attributes := #[] }, { accessFlags := 1, nameIndex := 5, descriptorIndex := 1010, attributes := #[] }, { accessFlags := 1, nameIndex := 507, descriptorIndex := 334, attributes := #[] }, { accessFlags := 1, nameIndex := 692, descriptorIndex := 142, attributes := #[] }, { accessFlags := 1, nameIndex := 497, descriptorIndex := 427, attributes := #[] }, { accessFlags := 1, nameIndex := 543, descriptorIndex := 573, attributes := #[] }, { accessFlags := 1, nameIndex := 635, descriptorIndex := 765, attributes := #[] }, { accessFlags := 1, nameIndex := 635, descriptorIndex := 636, attributes := #[] }, { accessFlags := 2, nameIndex := 5, descriptorIndex := 29, attributes := #[] }, { accessFlags := 0, nameIndex := 17, descriptorIndex := 337, attributes := #[] }, { accessFlags := 0, nameIndex := 494, descriptorIndex := 142, attributes := #[] }, { accessFlags := 8, nameIndex := 501, descriptorIndex := 391, attributes := #[] }] 49 2 #[1106, 1108, 575, 1110, 1112] #[{ accessFlags := 18, nameIndex := 13, descriptorIndex := 14, attributes := #[] }, { accessFlags := 18, nameIndex := 17, descriptorIndex := 18, attributes := #[] }, { accessFlags := 2, nameIndex := 21, descriptorIndex := 22, attributes := #[] }, { accessFlags := 2, nameIndex := 25, descriptorIndex := 26, attributes := #[] }, { accessFlags := 26, nameIndex := 1116, descriptorIndex := 1117, attributes := #[] }, { accessFlags := 24, nameIndex := 40, descriptorIndex := 26, attributes := #[] }, { accessFlags := 26, nameIndex := 1101, descriptorIndex := 1102, attributes := #[] }, { accessFlags := 26, nameIndex := 1121, descriptorIndex := 1122, attributes := #[] }, { accessFlags := 25, nameIndex := 599, descriptorIndex := 600, attributes := #[] }, { accessFlags := 24, nameIndex := 1125, descriptorIndex := 18, attributes := #[] }, { accessFlags := 24, nameIndex := 1127, descriptorIndex := 18, attributes := #[] }])
  fields := #[{ name := "value", type := (.array .byte), accessFlags := 18, slot := 0, constantValue := 0 }, { name := "coder", type := .byte, accessFlags := 18, slot := 1, constantValue := 0 }, { name := "hash", type := .int, accessFlags := 2, slot := 2, constantValue := 0 }, { name := "hashIsZero", type := .boolean, accessFlags := 2, slot := 3, constantValue := 0 }, { name := "serialVersionUID", type := .long, accessFlags := 26, slot := 0, constantValue := 0 }, { name := "COMPACT_STRINGS", type := .boolean, accessFlags := 24, slot := 1, constantValue := 0 }, { name := "serialPersistentFields", type := (.array (.object "java/io/ObjectStreamField")), accessFlags := 26, slot := 2, constantValue := 0 }, { name := "REPL", type := .char, accessFlags := 26, slot := 3, constantValue := 0 }, { name := "CASE_INSENSITIVE_ORDER", type := (.object "java/util/Comparator"), accessFlags := 25, slot := 4, constantValue := 0 }, { name := "LATIN1", type := .byte, accessFlags := 24, slot := 5, constantValue := 0 }, { name := "UTF16", type := .byte, accessFlags := 24, slot := 6, constantValue := 0 }]
  methods := #[k8m0, k8m1, k8m2, k8m3, k8m4, k8m5, k8m6, k8m7, k8m8, k8m9, k8m10, k8m11]
  instanceTypes := #[(.array .byte), .byte, .int, .boolean]
  staticTypes := #[.long, .boolean, (.array (.object "java/io/ObjectStreamField")), .char, (.object "java/util/Comparator"), .byte, .byte]
  resolved := Array.replicate 1451 none
  statics := some 1 }

def pool9 : Array CpInfo := pool [(6, .class_ 8), (1, u "java/lang/Object"), (0, u "<init>"), (0, u "()V"), (1, .class_ 14), (1, u "java/lang/StringUTF16"), (31, u "$assertionsDisabled"), (0, u "Z"), (13, u "HI_BYTE_SHIFT"), (0, u "I"), (2, u "LO_BYTE_SHIFT"), (49, .methodref 12 116), (0, .nameAndType 117 118), (0, u "compress"), (0, u "([CI[BII)I"), (3, u "([CII)[B"), (138, u "coderFromArrayLen"), (0, u "([BI)B"), (106, .class_ 371), (1, u "java/lang/StringUTF16$LinesSpliterator"), (58, u "MAX_LENGTH"), (196, .class_ 628), (0, u "java/lang/StringUTF16$CodePointsSpliterator"), (0, .class_ 630), (0, u "java/lang/StringUTF16$CharsSpliterator")] 4

def k9m0 : Method := { name := "<init>", desc := "()V", sig := { parameters := [], returnType := none }, accessFlags := 0, code := none }
def k9c1 : Code := { maxStack := 2, maxLocals := 2, code := jdk_52_method_15_code, exceptionTable := #[], attributes := #[] }
def k9m1 : Method := { name := "coderFromArrayLen", desc := "([BI)B", sig := { parameters := [(.array .byte), .int], returnType := some .byte }, accessFlags := 8, code := some k9c1 }
def k9c2 : Code := { maxStack := 5, maxLocals := 6, code := jdk_52_method_16_code, exceptionTable := #[], attributes := #[] }
def k9m2 : Method := { name := "compress", desc := "([CII)[B", sig := { parameters := [(.array .char), .int, .int], returnType := some (.array .byte) }, accessFlags := 9, code := some k9c2 }
def k9c3 : Code := { maxStack := 3, maxLocals := 7, code := jdk_52_method_21_code, exceptionTable := #[], attributes := #[] }
def k9m3 : Method := { name := "compress", desc := "([CI[BII)I", sig := { parameters := [(.array .char), .int, (.array .byte), .int, .int], returnType := some .int }, accessFlags := 9, code := some k9c3 }
/-- java/lang/StringUTF16 -/
def k9 : Class := { plain "java/lang/StringUTF16" (some 0) with
  accessFlags := 48
  interfaces := #[]
  cf := some (fileOf pool9 12 #[.nestMembers #[627, 629, 369]] #[{ accessFlags := 0, nameIndex := 9, descriptorIndex := 10, attributes := #[] }, { accessFlags := 8, nameIndex := 261, descriptorIndex := 262, attributes := #[] }, { accessFlags := 9, nameIndex := 117, descriptorIndex := 122, attributes := #[] }, { accessFlags := 9, nameIndex := 117, descriptorIndex := 118, attributes := #[] }] 48 6 #[] #[{ accessFlags := 26, nameIndex := 61, descriptorIndex := 62, attributes := #[] }, { accessFlags := 26, nameIndex := 65, descriptorIndex := 62, attributes := #[] }, { accessFlags := 24, nameIndex := 430, descriptorIndex := 62, attributes := #[] }, { accessFlags := 4120, nameIndex := 46, descriptorIndex := 47, attributes := #[] }])
  fields := #[{ name := "HI_BYTE_SHIFT", type := .int, accessFlags := 26, slot := 0, constantValue := 0 }, { name := "LO_BYTE_SHIFT", type := .int, accessFlags := 26, slot := 1, constantValue := 0 }, { name := "MAX_LENGTH", type := .int, accessFlags := 24, slot := 2, constantValue := 0 }, { name := "$assertionsDisabled", type := .boolean, accessFlags := 4120, slot := 3, constantValue := 0 }]
  methods := #[k9m0, k9m1, k9m2, k9m3]
  instanceTypes := #[]
  staticTypes := #[.int, .int, .int, .boolean]
  resolved := Array.replicate 635 none
  statics := none }

def pool10 : Array CpInfo := pool [(2, .class_ 4), (1, u "java/lang/Object"), (2, .fieldref 8 9), (0, .class_ 10), (0, .nameAndType 11 12), (0, u "com/example/deduct/deduct/model/NameRule"), (0, u "punctuation"), (0, u "Ljava/lang/String;"), (2, u "shown"), (0, .string 17), (0, u "value"), (0, .methodref 19 20), (0, .class_ 21), (0, .nameAndType 22 23), (0, u "java/util/Objects"), (0, u "requireNonNull"), (0, u "(Ljava/lang/Object;Ljava/lang/String;)Ljava/lang/Object;"), (0, .methodref 25 26), (0, .class_ 27), (0, .nameAndType 28 29), (0, u "java/lang/String"), (0, u "isEmpty"), (0, u "()Z"), (0, .methodref 25 31), (0, .nameAndType 32 33), (0, u "length"), (0, u "()I"), (0, .methodref 8 35), (0, .nameAndType 36 37), (0, u "allowed"), (0, u "(Ljava/lang/String;)Z"), (5, u "(Ljava/lang/String;Ljava/lang/String;)Ljava/lang/String;"), (3, .methodref 25 48), (0, .nameAndType 49 50), (0, u "charAt"), (0, u "(I)C"), (0, .methodref 25 52), (0, .nameAndType 53 54), (0, u "indexOf"), (0, u "(I)I"), (0, u "MAX_LENGTH"), (0, u "I"), (5, u "check")] 18

def k10c0 : Code := { maxStack := 4, maxLocals := 3, code := prog_11_method_2_code, exceptionTable := #[], attributes := #[] }
def k10m0 : Method := { name := "check", desc := "(Ljava/lang/String;Ljava/lang/String;)Ljava/lang/String;", sig := { parameters := [(.object "java/lang/String"), (.object "java/lang/String")], returnType := some (.object "java/lang/String") }, accessFlags := 0, code := some k10c0 }
def k10c1 : Code := { maxStack := 2, maxLocals := 5, code := prog_11_method_3_code, exceptionTable := #[], attributes := #[] }
def k10m1 : Method := { name := "allowed", desc := "(Ljava/lang/String;)Z", sig := { parameters := [(.object "java/lang/String")], returnType := some .boolean }, accessFlags := 2, code := some k10c1 }
/-- com/example/deduct/deduct/model/NameRule -/
def k10 : Class := { plain "com/example/deduct/deduct/model/NameRule" (some 0) with
  accessFlags := 48
  interfaces := #[]
  cf := some (fileOf pool10 8 #[] #[{ accessFlags := 0, nameIndex := 62, descriptorIndex := 43, attributes := #[] }, { accessFlags := 2, nameIndex := 36, descriptorIndex := 37, attributes := #[] }] 48 2 #[] #[{ accessFlags := 24, nameIndex := 55, descriptorIndex := 56, attributes := #[] }, { accessFlags := 18, nameIndex := 11, descriptorIndex := 12, attributes := #[] }, { accessFlags := 18, nameIndex := 15, descriptorIndex := 12, attributes := #[] }])
  fields := #[{ name := "MAX_LENGTH", type := .int, accessFlags := 24, slot := 0, constantValue := 0 }, { name := "punctuation", type := (.object "java/lang/String"), accessFlags := 18, slot := 0, constantValue := 0 }, { name := "shown", type := (.object "java/lang/String"), accessFlags := 18, slot := 1, constantValue := 0 }]
  methods := #[k10m0, k10m1]
  instanceTypes := #[(.object "java/lang/String"), (.object "java/lang/String")]
  staticTypes := #[.int]
  resolved := Array.replicate 81 none
  statics := none }

def pool11 : Array CpInfo := pool [(2, .class_ 4), (1, u "java/lang/Object"), (0, u "<init>"), (0, u "()V"), (35, .class_ 44), (1, u "java/util/Objects"), (0, u "requireNonNull"), (48, u "(Ljava/lang/Object;Ljava/lang/String;)Ljava/lang/Object;")] 89

def k11m0 : Method := { name := "<init>", desc := "()V", sig := { parameters := [], returnType := none }, accessFlags := 2, code := none }
def k11c1 : Code := { maxStack := 3, maxLocals := 2, code := jdk_31_method_11_code, exceptionTable := #[], attributes := #[] }
def k11m1 : Method := { name := "requireNonNull", desc := "(Ljava/lang/Object;Ljava/lang/String;)Ljava/lang/Object;", sig := { parameters := [(.object "java/lang/Object"), (.object "java/lang/String")], returnType := some (.object "java/lang/Object") }, accessFlags := 9, code := some k11c1 }
/-- java/util/Objects -/
def k11 : Class := { plain "java/util/Objects" (some 0) with
  accessFlags := 49
  interfaces := #[]
  cf := some (fileOf pool11 42 #[] #[{ accessFlags := 2, nameIndex := 5, descriptorIndex := 6, attributes := #[] }, { accessFlags := 9, nameIndex := 45, descriptorIndex := 94, attributes := #[] }] 49 2 #[] #[])
  fields := #[]
  methods := #[k11m0, k11m1]
  instanceTypes := #[]
  staticTypes := #[]
  resolved := Array.replicate 184 none
  statics := none }

def pool12 : Array CpInfo := pool [(1, .class_ 2), (0, u "java/lang/String"), (1, .class_ 6), (1, u "java/lang/Object"), (0, u "<init>"), (0, u "()V"), (0, .methodref 1 10), (0, .nameAndType 11 12), (0, u "checkIndex"), (0, u "(II)V"), (1, .class_ 16), (1, u "java/lang/StringLatin1"), (21, .methodref 39 40), (0, .class_ 41), (0, .nameAndType 42 43), (0, u "java/lang/Math"), (0, u "min"), (0, u "(II)I"), (9, u "([BI)C"), (34, .methodref 14 89), (0, .nameAndType 90 91), (0, u "canEncode"), (0, u "(I)Z"), (0, .methodref 39 93), (0, .nameAndType 94 43), (0, u "max"), (0, .methodref 14 96), (0, .nameAndType 97 98), (0, u "indexOfChar"), (0, u "([BIII)I"), (2, u "indexOf"), (19, u "$assertionsDisabled"), (0, u "Z"), (98, .class_ 223), (1, u "java/lang/StringLatin1$LinesSpliterator"), (28, u "charAt"), (28, u "equals"), (0, u "([B[B)Z"), (107, .class_ 391), (0, u "java/lang/StringLatin1$CharsSpliterator")] 3

def k12m0 : Method := { name := "<init>", desc := "()V", sig := { parameters := [], returnType := none }, accessFlags := 0, code := none }
def k12c1 : Code := { maxStack := 2, maxLocals := 2, code := jdk_43_method_2_code, exceptionTable := #[], attributes := #[] }
def k12m1 : Method := { name := "charAt", desc := "([BI)C", sig := { parameters := [(.array .byte), .int], returnType := some .char }, accessFlags := 9, code := some k12c1 }
def k12c2 : Code := { maxStack := 2, maxLocals := 1, code := jdk_43_method_4_code, exceptionTable := #[], attributes := #[] }
def k12m2 : Method := { name := "canEncode", desc := "(I)Z", sig := { parameters := [.int], returnType := some .boolean }, accessFlags := 9, code := some k12c2 }
def k12c3 : Code := { maxStack := 3, maxLocals := 3, code := jdk_43_method_13_code, exceptionTable := #[], attributes := #[] }
def k12m3 : Method := { name := "equals", desc := "([B[B)Z", sig := { parameters := [(.array .byte), (.array .byte)], returnType := some .boolean }, accessFlags := 9, code := some k12c3 }
def k12c4 : Code := { maxStack := 4, maxLocals := 4, code := jdk_43_method_22_code, exceptionTable := #[], attributes := #[] }
def k12m4 : Method := { name := "indexOf", desc := "([BIII)I", sig := { parameters := [(.array .byte), .int, .int, .int], returnType := some .int }, accessFlags := 9, code := some k12c4 }
def k12c5 : Code := { maxStack := 2, maxLocals := 6, code := jdk_43_method_23_code, exceptionTable := #[], attributes := #[] }
def k12m5 : Method := { name := "indexOfChar", desc := "([BIII)I", sig := { parameters := [(.array .byte), .int, .int, .int], returnType := some .int }, accessFlags := 10, code := some k12c5 }
/-- java/lang/StringLatin1 -/
def k12 : Class := { plain "java/lang/StringLatin1" (some 0) with
  accessFlags := 48
  interfaces := #[]
  cf := some (fileOf pool12 14 #[.nestMembers #[390, 221]] #[{ accessFlags := 0, nameIndex := 7, descriptorIndex := 8, attributes := #[] }, { accessFlags := 9, nameIndex := 252, descriptorIndex := 53, attributes := #[] }, { accessFlags := 9, nameIndex := 90, descriptorIndex := 91, attributes := #[] }, { accessFlags := 9, nameIndex := 281, descriptorIndex := 282, attributes := #[] }, { accessFlags := 9, nameIndex := 101, descriptorIndex := 98, attributes := #[] }, { accessFlags := 10, nameIndex := 97, descriptorIndex := 98, attributes := #[] }] 48 4 #[] #[{ accessFlags := 4120, nameIndex := 121, descriptorIndex := 122, attributes := #[] }])
  fields := #[{ name := "$assertionsDisabled", type := .boolean, accessFlags := 4120, slot := 0, constantValue := 0 }]
  methods := #[k12m0, k12m1, k12m2, k12m3, k12m4, k12m5]
  instanceTypes := #[]
  staticTypes := #[.boolean]
  resolved := Array.replicate 395 none
  statics := none }

def pool13 : Array CpInfo := pool [(2, .class_ 4), (1, u "java/lang/Object"), (0, u "<init>"), (0, u "()V"), (17, .class_ 26), (1, u "jdk/internal/util/Preconditions"), (6, u "checkIndex"), (21, .class_ 56), (0, u "jdk/internal/util/Preconditions$4"), (57, .class_ 115), (0, u "jdk/internal/util/Preconditions$1"), (7, u "SIOOBE_FORMATTER"), (0, u "Ljava/util/function/BiFunction;"), (0, .class_ 126), (0, u "jdk/internal/util/Preconditions$2"), (3, u "AIOOBE_FORMATTER"), (0, .class_ 132), (0, u "jdk/internal/util/Preconditions$3"), (3, u "IOOBE_FORMATTER"), (41, u "(IILjava/util/function/BiFunction;)I")] 15

def k13m0 : Method := { name := "<init>", desc := "()V", sig := { parameters := [], returnType := none }, accessFlags := 1, code := none }
def k13c1 : Code := { maxStack := 3, maxLocals := 3, code := jdk_41_method_11_code, exceptionTable := #[], attributes := #[] }
def k13m1 : Method := { name := "checkIndex", desc := "(IILjava/util/function/BiFunction;)I", sig := { parameters := [.int, .int, (.object "java/util/function/BiFunction")], returnType := some .int }, accessFlags := 9, code := some k13c1 }
/-- jdk/internal/util/Preconditions -/
def k13 : Class := { plain "jdk/internal/util/Preconditions" (some 0) with
  accessFlags := 33
  interfaces := #[]
  cf := some (fileOf pool13 24 #[.nestMembers #[55, 131, 125, 114]] #[{ accessFlags := 1, nameIndex := 5, descriptorIndex := 6, attributes := #[] }, { accessFlags := 9, nameIndex := 33, descriptorIndex := 178, attributes := #[] }] 33 2 #[] #[{ accessFlags := 25, nameIndex := 123, descriptorIndex := 124, attributes := #[] }, { accessFlags := 25, nameIndex := 130, descriptorIndex := 124, attributes := #[] }, { accessFlags := 25, nameIndex := 136, descriptorIndex := 124, attributes := #[] }])
  fields := #[{ name := "SIOOBE_FORMATTER", type := (.object "java/util/function/BiFunction"), accessFlags := 25, slot := 0, constantValue := 0 }, { name := "AIOOBE_FORMATTER", type := (.object "java/util/function/BiFunction"), accessFlags := 25, slot := 1, constantValue := 0 }, { name := "IOOBE_FORMATTER", type := (.object "java/util/function/BiFunction"), accessFlags := 25, slot := 2, constantValue := 0 }]
  methods := #[k13m0, k13m1]
  instanceTypes := #[]
  staticTypes := #[(.object "java/util/function/BiFunction"), (.object "java/util/function/BiFunction"), (.object "java/util/function/BiFunction")]
  resolved := Array.replicate 194 none
  statics := some 2 }

def pool14 : Array CpInfo := pool [(1, .class_ 2), (0, u "java/lang/Math"), (1, .class_ 6), (1, u "java/lang/Object"), (0, u "<init>"), (0, u "()V"), (89, .class_ 100), (1, u "java/lang/Math$RandomNumberGeneratorHolder"), (71, u "negativeZeroFloatBits"), (0, u "J"), (2, u "negativeZeroDoubleBits"), (21, u "max"), (2, u "min"), (43, u "$assertionsDisabled"), (0, u "Z"), (88, u "(II)I"), (2, u "twoToTheDoubleScaleDown"), (0, u "D"), (4, u "twoToTheDoubleScaleUp"), (9, u "E"), (3, u "PI"), (2, u "TAU"), (2, u "DEGREES_TO_RADIANS"), (0, u "RADIANS_TO_DEGREES")] 94

def k14m0 : Method := { name := "<init>", desc := "()V", sig := { parameters := [], returnType := none }, accessFlags := 2, code := none }
def k14c1 : Code := { maxStack := 2, maxLocals := 2, code := jdk_29_method_65_code, exceptionTable := #[], attributes := #[] }
def k14m1 : Method := { name := "max", desc := "(II)I", sig := { parameters := [.int, .int], returnType := some .int }, accessFlags := 9, code := some k14c1 }
def k14c2 : Code := { maxStack := 2, maxLocals := 2, code := jdk_29_method_69_code, exceptionTable := #[], attributes := #[] }
def k14m2 : Method := { name := "min", desc := "(II)I", sig := { parameters := [.int, .int], returnType := some .int }, accessFlags := 9, code := some k14c2 }
/-- java/lang/Math -/
def k14 : Class := { plain "java/lang/Math" (some 0) with
  accessFlags := 49
  interfaces := #[]
  cf := some (fileOf pool14 1 #[.nestMembers #[98]] #[{ accessFlags := 2, nameIndex := 7, descriptorIndex := 8, attributes := #[] }, { accessFlags := 9, nameIndex := 198, descriptorIndex := 335, attributes := #[] }, { accessFlags := 9, nameIndex := 201, descriptorIndex := 335, attributes := #[] }] 49 4 #[] #[{ accessFlags := 25, nameIndex := 354, descriptorIndex := 339, attributes := #[] }, { accessFlags := 25, nameIndex := 358, descriptorIndex := 339, attributes := #[] }, { accessFlags := 25, nameIndex := 361, descriptorIndex := 339, attributes := #[] }, { accessFlags := 26, nameIndex := 364, descriptorIndex := 339, attributes := #[] }, { accessFlags := 26, nameIndex := 365, descriptorIndex := 339, attributes := #[] }, { accessFlags := 26, nameIndex := 172, descriptorIndex := 173, attributes := #[] }, { accessFlags := 26, nameIndex := 176, descriptorIndex := 173, attributes := #[] }, { accessFlags := 8, nameIndex := 344, descriptorIndex := 339, attributes := #[] }, { accessFlags := 8, nameIndex := 338, descriptorIndex := 339, attributes := #[] }, { accessFlags := 4120, nameIndex := 245, descriptorIndex := 246, attributes := #[] }])
  fields := #[{ name := "E", type := .double, accessFlags := 25, slot := 0, constantValue := 0 }, { name := "PI", type := .double, accessFlags := 25, slot := 1, constantValue := 0 }, { name := "TAU", type := .double, accessFlags := 25, slot := 2, constantValue := 0 }, { name := "DEGREES_TO_RADIANS", type := .double, accessFlags := 26, slot := 3, constantValue := 0 }, { name := "RADIANS_TO_DEGREES", type := .double, accessFlags := 26, slot := 4, constantValue := 0 }, { name := "negativeZeroFloatBits", type := .long, accessFlags := 26, slot := 5, constantValue := 0 }, { name := "negativeZeroDoubleBits", type := .long, accessFlags := 26, slot := 6, constantValue := 0 }, { name := "twoToTheDoubleScaleUp", type := .double, accessFlags := 8, slot := 7, constantValue := 0 }, { name := "twoToTheDoubleScaleDown", type := .double, accessFlags := 8, slot := 8, constantValue := 0 }, { name := "$assertionsDisabled", type := .boolean, accessFlags := 4120, slot := 9, constantValue := 0 }]
  methods := #[k14m0, k14m1, k14m2]
  instanceTypes := #[]
  staticTypes := #[.double, .double, .double, .double, .double, .long, .long, .double, .double, .boolean]
  resolved := Array.replicate 460 none
  statics := none }

def pool15 : Array CpInfo := pool [(9, u "<init>"), (6, .class_ 18), (1, u "java/lang/Object"), (0, u "()V"), (1, .class_ 23), (1, u "jdk/internal/util/ArraysSupport"), (0, u "LOG2_ARRAY_LONG_INDEX_SCALE"), (0, u "I"), (2, u "U"), (0, u "Ljdk/internal/misc/Unsafe;"), (8, u "BIG_ENDIAN"), (0, u "Z"), (8, u "LOG2_BYTE_BIT_SIZE"), (4, u "LOG2_ARRAY_INT_INDEX_SCALE"), (54, u "JLA"), (0, u "Ljdk/internal/access/JavaLangAccess;"), (11, u "LOG2_ARRAY_BOOLEAN_INDEX_SCALE"), (9, u "LOG2_ARRAY_BYTE_INDEX_SCALE"), (5, u "LOG2_ARRAY_CHAR_INDEX_SCALE"), (5, u "LOG2_ARRAY_SHORT_INDEX_SCALE"), (18, u "LOG2_ARRAY_FLOAT_INDEX_SCALE"), (24, u "LOG2_ARRAY_DOUBLE_INDEX_SCALE"), (89, u "T_BOOLEAN"), (2, u "T_CHAR"), (1, u "T_FLOAT"), (1, u "T_DOUBLE"), (1, u "T_BYTE"), (1, u "T_SHORT"), (1, u "T_INT"), (1, u "T_LONG"), (1, u "SOFT_MAX_ARRAY_LENGTH")] 83

def k15m0 : Method := { name := "<init>", desc := "()V", sig := { parameters := [], returnType := none }, accessFlags := 2, code := none }
/-- jdk/internal/util/ArraysSupport -/
def k15 : Class := { plain "jdk/internal/util/ArraysSupport" (some 0) with
  accessFlags := 33
  interfaces := #[]
  cf := some (fileOf pool15 21 #[] #[{ accessFlags := 2, nameIndex := 9, descriptorIndex := 19, attributes := #[] }] 33 16 #[] #[{ accessFlags := 24, nameIndex := 28, descriptorIndex := 29, attributes := #[] }, { accessFlags := 26, nameIndex := 38, descriptorIndex := 39, attributes := #[] }, { accessFlags := 25, nameIndex := 121, descriptorIndex := 25, attributes := #[] }, { accessFlags := 25, nameIndex := 131, descriptorIndex := 25, attributes := #[] }, { accessFlags := 25, nameIndex := 137, descriptorIndex := 25, attributes := #[] }, { accessFlags := 25, nameIndex := 143, descriptorIndex := 25, attributes := #[] }, { accessFlags := 25, nameIndex := 53, descriptorIndex := 25, attributes := #[] }, { accessFlags := 25, nameIndex := 24, descriptorIndex := 25, attributes := #[] }, { accessFlags := 25, nameIndex := 162, descriptorIndex := 25, attributes := #[] }, { accessFlags := 25, nameIndex := 187, descriptorIndex := 25, attributes := #[] }, { accessFlags := 26, nameIndex := 48, descriptorIndex := 25, attributes := #[] }, { accessFlags := 25, nameIndex := 277, descriptorIndex := 25, attributes := #[] }, { accessFlags := 25, nameIndex := 280, descriptorIndex := 25, attributes := #[] }, { accessFlags := 25, nameIndex := 282, descriptorIndex := 25, attributes := #[] }, { accessFlags := 25, nameIndex := 284, descriptorIndex := 25, attributes := #[] }, { accessFlags := 25, nameIndex := 286, descriptorIndex := 25, attributes := #[] }, { accessFlags := 25, nameIndex := 288, descriptorIndex := 25, attributes := #[] }, { accessFlags := 25, nameIndex := 290, descriptorIndex := 25, attributes := #[] }, { accessFlags := 25, nameIndex := 292, descriptorIndex := 25, attributes := #[] }, { accessFlags := 26, nameIndex := 108, descriptorIndex := 109, attributes := #[] }, { accessFlags := 25, nameIndex := 294, descriptorIndex := 25, attributes := #[] }])
  fields := #[{ name := "U", type := (.object "jdk/internal/misc/Unsafe"), accessFlags := 24, slot := 0, constantValue := 0 }, { name := "BIG_ENDIAN", type := .boolean, accessFlags := 26, slot := 1, constantValue := 0 }, { name := "LOG2_ARRAY_BOOLEAN_INDEX_SCALE", type := .int, accessFlags := 25, slot := 2, constantValue := 0 }, { name := "LOG2_ARRAY_BYTE_INDEX_SCALE", type := .int, accessFlags := 25, slot := 3, constantValue := 0 }, { name := "LOG2_ARRAY_CHAR_INDEX_SCALE", type := .int, accessFlags := 25, slot := 4, constantValue := 0 }, { name := "LOG2_ARRAY_SHORT_INDEX_SCALE", type := .int, accessFlags := 25, slot := 5, constantValue := 0 }, { name := "LOG2_ARRAY_INT_INDEX_SCALE", type := .int, accessFlags := 25, slot := 6, constantValue := 0 }, { name := "LOG2_ARRAY_LONG_INDEX_SCALE", type := .int, accessFlags := 25, slot := 7, constantValue := 0 }, { name := "LOG2_ARRAY_FLOAT_INDEX_SCALE", type := .int, accessFlags := 25, slot := 8, constantValue := 0 }, { name := "LOG2_ARRAY_DOUBLE_INDEX_SCALE", type := .int, accessFlags := 25, slot := 9, constantValue := 0 }, { name := "LOG2_BYTE_BIT_SIZE", type := .int, accessFlags := 26, slot := 10, constantValue := 0 }, { name := "T_BOOLEAN", type := .int, accessFlags := 25, slot := 11, constantValue := 0 }, { name := "T_CHAR", type := .int, accessFlags := 25, slot := 12, constantValue := 0 }, { name := "T_FLOAT", type := .int, accessFlags := 25, slot := 13, constantValue := 0 }, { name := "T_DOUBLE", type := .int, accessFlags := 25, slot := 14, constantValue := 0 }, { name := "T_BYTE", type := .int, accessFlags := 25, slot := 15, constantValue := 0 }, { name := "T_SHORT", type := .int, accessFlags := 25, slot := 16, constantValue := 0 }, { name := "T_INT", type := .int, accessFlags := 25, slot := 17, constantValue := 0 }, { name := "T_LONG", type := .int, accessFlags := 25, slot := 18, constantValue := 0 }, { name := "JLA", type := (.object "jdk/internal/access/JavaLangAccess"), accessFlags := 26, slot := 19, constantValue := 0 }, { name := "SOFT_MAX_ARRAY_LENGTH", type := .int, accessFlags := 25, slot := 20, constantValue := 0 }]
  methods := #[k15m0]
  instanceTypes := #[]
  staticTypes := #[(.object "jdk/internal/misc/Unsafe"), .boolean, .int, .int, .int, .int, .int, .int, .int, .int, .int, .int, .int, .int, .int, .int, .int, .int, .int, (.object "jdk/internal/access/JavaLangAccess"), .int]
  resolved := Array.replicate 378 none
  statics := none }

def pool16 : Array CpInfo := pool [(1, u "java/lang/Cloneable"), (0, .class_ 1), (0, u "java/lang/Object"), (0, .class_ 3)] 3

/-- java/lang/Cloneable -/
def k16 : Class := { plain "java/lang/Cloneable" (some 0) with
  accessFlags := 1537
  interfaces := #[]
  cf := some (fileOf pool16 2 #[] #[] 1537 4 #[] #[])
  fields := #[]
  methods := #[]
  instanceTypes := #[]
  staticTypes := #[]
  resolved := Array.replicate 8 none
  statics := none }

/-- the primitive byte -/
def k17 : Class := { plain "byte" none with kind := .primitive 'B', accessFlags := 0x411 }
/-- [B -/
def k18 : Class := { plain "[B" (some 0) with kind := .array 17 .byte, interfaces := #[16, 3], accessFlags := 1041 }

/-- the primitive char -/
def k19 : Class := { plain "char" none with kind := .primitive 'C', accessFlags := 0x411 }
/-- [C -/
def k20 : Class := { plain "[C" (some 0) with kind := .array 19 .char, interfaces := #[16, 3], accessFlags := 1041 }

/-- the primitive int -/
def k21 : Class := { plain "int" none with kind := .primitive 'I', accessFlags := 0x411 }
/-- [I -/
def k22 : Class := { plain "[I" (some 0) with kind := .array 21 .int, interfaces := #[16, 3], accessFlags := 1041 }

def heap : Heap := #[{ cls := 2, slots := #[.int 0, .ref 3], vm := .statics 2 },
  { cls := 8, slots := #[.long 0, .int 1, .null, .int 0, .null, .int 0, .int 0], vm := .statics 8 },
  { cls := 13, slots := #[.null, .null, .null], vm := .statics 13 },
  { cls := 10, slots := #[.ref 4, .null], vm := .none },
  { cls := 8, slots := #[.ref 5, .int 0, .int 0, .int 0], vm := .none },
  { cls := 18, slots := #[.int 46, .int 95, .int 45], vm := .none }]
def classes : Array Class := #[k0, k1, k2, k3, k4, k5, k6, k7, k8, k9, k10, k11, k12, k13, k14, k15, k16, k17, k18, k19, k20, k21, k22]
def interned : List (Array UInt16 × Addr) := []
def slotsUsed : Nat := 21
def theMethod : MethodId := ⟨1, 2⟩
def args0 : Array Value := #[.int 4, .int 7, .int 8, .int 9, .int 0]
def aboutOver (below : List Frame) : State where
  vm := { classes := classes, interned := interned.toArray }
  heap := heap
  slotsUsed := slotsUsed
  threads := #[{ frames := .invoking theMethod args0 :: below }]
def below0 : List Frame := [.native { method := ⟨0, 0⟩, args := #[] }]
def about1 : State := aboutOver below0
def p0 : Program := .bare "" "" ""
def e0 : Env := launch0.env 0 0 0
theorem w_frames : about1.frames = Frame.invoking theMethod args0 :: below0 := rfl
set_option maxRecDepth 65536 in
theorem w_args : argsFit about1.vm theMethod args0 = true := by decide +kernel
set_option maxRecDepth 65536 in
theorem w_heap : heapFits about1 = true := by decide +kernel
set_option maxRecDepth 65536 in
theorem w_runnable : about1.curStatus? = some .runnable := by decide +kernel
set_option maxRecDepth 65536 in
theorem w_alone : about1.alone = true := by decide +kernel
set_option maxRecDepth 65536 in
theorem w_named : about1.methodNamed? x = some theMethod := by decide +kernel
set_option maxRecDepth 65536 in
theorem w_hears : about1.hears theMethod below0 = true := by decide +kernel
set_option maxRecDepth 65536 in
theorem w_ripe : about1.ripe theMethod args0 below0 = true := by decide +kernel
theorem w_running : about1.status = .running := rfl
set_option maxRecDepth 65536 in
theorem w_room : about1.hasRoom e0.platform room_1 = true :=
  launch0.hasRoom_least _ room_1 (by decide +kernel) (by decide +kernel) (by decide +kernel) (by decide +kernel) (by decide +kernel) (by decide +kernel)
theorem allAtoms_all (ts : List Jvm.Cond) (a : Array Jvm.Value) (st : Jvm.State) : (allAtoms ts).before a st = ts.all (fun c => c.before a st) := by
  induction ts with
  | nil => rfl
  | cons c t ih =>
    show (Jvm.Cond.and c (allAtoms t)).before a st = _
    rw [Jvm.Cond.before_and, ih, List.all_cons]
def words1 : List Jvm.Cond := Jvm.Cond.code x code maxLocals ret :: tables_1
/-- a 'code' word, met by the world's own term for the bytes: nothing is compared byte by byte -/
theorem code_word {y : MethodName} {bytes : ByteArray} {mx : Nat} {rt : Option FieldType} {a : Array Value} {s : State} {m : MethodId} {meth : Method} {c : Code} (h1 : s.methodNamed? y = some m) (h2 : s.vm.method? m = some meth) (h3 : meth.code = some c) (h4 : c.code = bytes)
    (h5 : (c.maxLocals == mx && c.exceptionTable.isEmpty && decide (c.maxStack ≤ mostOperands) && decide (meth.sig.returnType = rt) && !meth.locks && decide (parseMethodDescriptor y.desc = some meth.sig)) = true) : (Jvm.Cond.code y bytes mx rt).before a s = true := by
  simp only [Bool.and_eq_true, beq_iff_eq, Bool.not_eq_true', decide_eq_true_eq] at h5
  obtain ⟨⟨⟨⟨⟨g1, g2⟩, g3⟩, g4⟩, g5⟩, g6⟩ := h5
  simp [Cond.before, Cond.holds, Cond.value, h1, h2, h3, h4, g1, g2, g3, g4, g5, g6]
def isCode : Jvm.Cond → Bool
  | .code _ _ _ _ => true
  | _ => false
theorem all_split {L : List Jvm.Cond} {P : Jvm.Cond → Bool} (h1 : L.all (fun c => isCode c || P c) = true) (h2 : ∀ c ∈ L.filter isCode, P c = true) : L.all P = true := by
  refine List.all_eq_true.mpr fun c hc => ?_
  have h := List.all_eq_true.mp h1 c hc
  rcases Bool.eq_false_or_eq_true (isCode c) with hi | hi
  · exact h2 c (List.mem_filter.mpr ⟨hc, hi⟩)
  · simpa [hi] using h
set_option maxRecDepth 65536 in
theorem w_c0 : (Jvm.Cond.code x code maxLocals ret).before args0 about1 = true := code_word (m := ⟨1, 2⟩) (meth := k1m2) (c := k1c2) (by decide +kernel) rfl rfl rfl (by decide +kernel)
set_option maxRecDepth 65536 in
theorem w_c1 : (Jvm.Cond.code ({ cls := "com/example/deduct/deduct/model/ItemIdEqualsPinLaw", name := "pick", desc := "(I)C" } : Jvm.MethodName) method_2_code (2 : Nat) (Option.some Jvm.ClassFile.FieldType.char)).before args0 about1 = true := code_word (m := ⟨1, 1⟩) (meth := k1m1) (c := k1c1) (by decide +kernel) rfl rfl rfl (by decide +kernel)
set_option maxRecDepth 65536 in
theorem w_c2 : (Jvm.Cond.code ({ cls := "java/lang/String", name := "<init>", desc := "([C)V" } : Jvm.MethodName) jdk_42_method_3_code (2 : Nat) (Option.none : Option Jvm.ClassFile.FieldType)).before args0 about1 = true := code_word (m := ⟨8, 1⟩) (meth := k8m1) (c := k8c1) (by decide +kernel) rfl rfl rfl (by decide +kernel)
set_option maxRecDepth 65536 in
theorem w_c3 : (Jvm.Cond.code ({ cls := "java/lang/String", name := "<init>", desc := "([CIILjava/lang/Void;)V" } : Jvm.MethodName) jdk_42_method_149_code (6 : Nat) (Option.none : Option Jvm.ClassFile.FieldType)).before args0 about1 = true := code_word (m := ⟨8, 8⟩) (meth := k8m8) (c := k8c8) (by decide +kernel) rfl rfl rfl (by decide +kernel)
set_option maxRecDepth 65536 in
theorem w_c4 : (Jvm.Cond.code ({ cls := "java/lang/Object", name := "<init>", desc := "()V" } : Jvm.MethodName) object_method_1_code (1 : Nat) (Option.none : Option Jvm.ClassFile.FieldType)).before args0 about1 = true := code_word (m := ⟨0, 0⟩) (meth := k0m0) (c := k0c0) (by decide +kernel) rfl rfl rfl (by decide +kernel)
set_option maxRecDepth 65536 in
theorem w_c5 : (Jvm.Cond.code ({ cls := "java/lang/StringUTF16", name := "compress", desc := "([CII)[B" } : Jvm.MethodName) jdk_52_method_16_code (6 : Nat) (Option.some (Jvm.ClassFile.FieldType.array Jvm.ClassFile.FieldType.byte))).before args0 about1 = true := code_word (m := ⟨9, 2⟩) (meth := k9m2) (c := k9c2) (by decide +kernel) rfl rfl rfl (by decide +kernel)
set_option maxRecDepth 65536 in
theorem w_c6 : (Jvm.Cond.code ({ cls := "java/lang/StringUTF16", name := "compress", desc := "([CI[BII)I" } : Jvm.MethodName) jdk_52_method_21_code (7 : Nat) (Option.some Jvm.ClassFile.FieldType.int)).before args0 about1 = true := code_word (m := ⟨9, 3⟩) (meth := k9m3) (c := k9c3) (by decide +kernel) rfl rfl rfl (by decide +kernel)
set_option maxRecDepth 65536 in
theorem w_c7 : (Jvm.Cond.code ({ cls := "java/lang/StringUTF16", name := "coderFromArrayLen", desc := "([BI)B" } : Jvm.MethodName) jdk_52_method_15_code (2 : Nat) (Option.some Jvm.ClassFile.FieldType.byte)).before args0 about1 = true := code_word (m := ⟨9, 1⟩) (meth := k9m1) (c := k9c1) (by decide +kernel) rfl rfl rfl (by decide +kernel)
set_option maxRecDepth 65536 in
theorem w_c8 : (Jvm.Cond.code ({ cls := "com/example/deduct/deduct/model/ItemId", name := "<init>", desc := "(Ljava/lang/String;)V" } : Jvm.MethodName) prog_8_method_1_code (2 : Nat) (Option.none : Option Jvm.ClassFile.FieldType)).before args0 about1 = true := code_word (m := ⟨2, 0⟩) (meth := k2m0) (c := k2c0) (by decide +kernel) rfl rfl rfl (by decide +kernel)
set_option maxRecDepth 65536 in
theorem w_c9 : (Jvm.Cond.code ({ cls := "com/example/deduct/deduct/model/NameRule", name := "check", desc := "(Ljava/lang/String;Ljava/lang/String;)Ljava/lang/String;" } : Jvm.MethodName) prog_11_method_2_code (3 : Nat) (Option.some (Jvm.ClassFile.FieldType.object "java/lang/String"))).before args0 about1 = true := code_word (m := ⟨10, 0⟩) (meth := k10m0) (c := k10c0) (by decide +kernel) rfl rfl rfl (by decide +kernel)
set_option maxRecDepth 65536 in
theorem w_c10 : (Jvm.Cond.code ({ cls := "java/util/Objects", name := "requireNonNull", desc := "(Ljava/lang/Object;Ljava/lang/String;)Ljava/lang/Object;" } : Jvm.MethodName) jdk_31_method_11_code (2 : Nat) (Option.some (Jvm.ClassFile.FieldType.object "java/lang/Object"))).before args0 about1 = true := code_word (m := ⟨11, 1⟩) (meth := k11m1) (c := k11c1) (by decide +kernel) rfl rfl rfl (by decide +kernel)
set_option maxRecDepth 65536 in
theorem w_c11 : (Jvm.Cond.code ({ cls := "java/lang/String", name := "isEmpty", desc := "()Z" } : Jvm.MethodName) jdk_42_method_55_code (1 : Nat) (Option.some Jvm.ClassFile.FieldType.boolean)).before args0 about1 = true := code_word (m := ⟨8, 3⟩) (meth := k8m3) (c := k8c3) (by decide +kernel) rfl rfl rfl (by decide +kernel)
set_option maxRecDepth 65536 in
theorem w_c12 : (Jvm.Cond.code ({ cls := "java/lang/String", name := "length", desc := "()I" } : Jvm.MethodName) jdk_42_method_54_code (1 : Nat) (Option.some Jvm.ClassFile.FieldType.int)).before args0 about1 = true := code_word (m := ⟨8, 2⟩) (meth := k8m2) (c := k8c2) (by decide +kernel) rfl rfl rfl (by decide +kernel)
set_option maxRecDepth 65536 in
theorem w_c13 : (Jvm.Cond.code ({ cls := "java/lang/String", name := "coder", desc := "()B" } : Jvm.MethodName) jdk_42_method_152_code (1 : Nat) (Option.some Jvm.ClassFile.FieldType.byte)).before args0 about1 = true := code_word (m := ⟨8, 9⟩) (meth := k8m9) (c := k8c9) (by decide +kernel) rfl rfl rfl (by decide +kernel)
set_option maxRecDepth 65536 in
theorem w_c14 : (Jvm.Cond.code ({ cls := "com/example/deduct/deduct/model/NameRule", name := "allowed", desc := "(Ljava/lang/String;)Z" } : Jvm.MethodName) prog_11_method_3_code (5 : Nat) (Option.some Jvm.ClassFile.FieldType.boolean)).before args0 about1 = true := code_word (m := ⟨10, 1⟩) (meth := k10m1) (c := k10c1) (by decide +kernel) rfl rfl rfl (by decide +kernel)
set_option maxRecDepth 65536 in
theorem w_c15 : (Jvm.Cond.code ({ cls := "java/lang/String", name := "charAt", desc := "(I)C" } : Jvm.MethodName) jdk_42_method_56_code (2 : Nat) (Option.some Jvm.ClassFile.FieldType.char)).before args0 about1 = true := code_word (m := ⟨8, 4⟩) (meth := k8m4) (c := k8c4) (by decide +kernel) rfl rfl rfl (by decide +kernel)
set_option maxRecDepth 65536 in
theorem w_c16 : (Jvm.Cond.code ({ cls := "java/lang/String", name := "isLatin1", desc := "()Z" } : Jvm.MethodName) jdk_42_method_154_code (1 : Nat) (Option.some Jvm.ClassFile.FieldType.boolean)).before args0 about1 = true := code_word (m := ⟨8, 10⟩) (meth := k8m10) (c := k8c10) (by decide +kernel) rfl rfl rfl (by decide +kernel)
set_option maxRecDepth 65536 in
theorem w_c17 : (Jvm.Cond.code ({ cls := "java/lang/StringLatin1", name := "charAt", desc := "([BI)C" } : Jvm.MethodName) jdk_43_method_2_code (2 : Nat) (Option.some Jvm.ClassFile.FieldType.char)).before args0 about1 = true := code_word (m := ⟨12, 1⟩) (meth := k12m1) (c := k12c1) (by decide +kernel) rfl rfl rfl (by decide +kernel)
set_option maxRecDepth 65536 in
theorem w_c18 : (Jvm.Cond.code ({ cls := "java/lang/String", name := "checkIndex", desc := "(II)V" } : Jvm.MethodName) jdk_42_method_155_code (2 : Nat) (Option.none : Option Jvm.ClassFile.FieldType)).before args0 about1 = true := code_word (m := ⟨8, 11⟩) (meth := k8m11) (c := k8c11) (by decide +kernel) rfl rfl rfl (by decide +kernel)
set_option maxRecDepth 65536 in
theorem w_c19 : (Jvm.Cond.code ({ cls := "jdk/internal/util/Preconditions", name := "checkIndex", desc := "(IILjava/util/function/BiFunction;)I" } : Jvm.MethodName) jdk_41_method_11_code (3 : Nat) (Option.some Jvm.ClassFile.FieldType.int)).before args0 about1 = true := code_word (m := ⟨13, 1⟩) (meth := k13m1) (c := k13c1) (by decide +kernel) rfl rfl rfl (by decide +kernel)
set_option maxRecDepth 65536 in
theorem w_c20 : (Jvm.Cond.code ({ cls := "com/example/deduct/deduct/model/ItemId", name := "equals", desc := "(Ljava/lang/Object;)Z" } : Jvm.MethodName) prog_8_method_3_code (2 : Nat) (Option.some Jvm.ClassFile.FieldType.boolean)).before args0 about1 = true := code_word (m := ⟨2, 1⟩) (meth := k2m1) (c := k2c1) (by decide +kernel) rfl rfl rfl (by decide +kernel)
set_option maxRecDepth 65536 in
theorem w_c21 : (Jvm.Cond.code ({ cls := "java/lang/String", name := "equals", desc := "(Ljava/lang/Object;)Z" } : Jvm.MethodName) jdk_42_method_66_code (3 : Nat) (Option.some Jvm.ClassFile.FieldType.boolean)).before args0 about1 = true := code_word (m := ⟨8, 5⟩) (meth := k8m5) (c := k8c5) (by decide +kernel) rfl rfl rfl (by decide +kernel)
set_option maxRecDepth 65536 in
theorem w_c22 : (Jvm.Cond.code ({ cls := "java/lang/StringLatin1", name := "equals", desc := "([B[B)Z" } : Jvm.MethodName) jdk_43_method_13_code (3 : Nat) (Option.some Jvm.ClassFile.FieldType.boolean)).before args0 about1 = true := code_word (m := ⟨12, 3⟩) (meth := k12m3) (c := k12c3) (by decide +kernel) rfl rfl rfl (by decide +kernel)
set_option maxRecDepth 65536 in
theorem w_c23 : (Jvm.Cond.code ({ cls := "java/lang/String", name := "indexOf", desc := "(I)I" } : Jvm.MethodName) jdk_42_method_79_code (2 : Nat) (Option.some Jvm.ClassFile.FieldType.int)).before args0 about1 = true := code_word (m := ⟨8, 6⟩) (meth := k8m6) (c := k8c6) (by decide +kernel) rfl rfl rfl (by decide +kernel)
set_option maxRecDepth 65536 in
theorem w_c24 : (Jvm.Cond.code ({ cls := "java/lang/String", name := "indexOf", desc := "(II)I" } : Jvm.MethodName) jdk_42_method_80_code (3 : Nat) (Option.some Jvm.ClassFile.FieldType.int)).before args0 about1 = true := code_word (m := ⟨8, 7⟩) (meth := k8m7) (c := k8c7) (by decide +kernel) rfl rfl rfl (by decide +kernel)
set_option maxRecDepth 65536 in
theorem w_c25 : (Jvm.Cond.code ({ cls := "java/lang/StringLatin1", name := "indexOf", desc := "([BIII)I" } : Jvm.MethodName) jdk_43_method_22_code (4 : Nat) (Option.some Jvm.ClassFile.FieldType.int)).before args0 about1 = true := code_word (m := ⟨12, 4⟩) (meth := k12m4) (c := k12c4) (by decide +kernel) rfl rfl rfl (by decide +kernel)
set_option maxRecDepth 65536 in
theorem w_c26 : (Jvm.Cond.code ({ cls := "java/lang/StringLatin1", name := "canEncode", desc := "(I)Z" } : Jvm.MethodName) jdk_43_method_4_code (1 : Nat) (Option.some Jvm.ClassFile.FieldType.boolean)).before args0 about1 = true := code_word (m := ⟨12, 2⟩) (meth := k12m2) (c := k12c2) (by decide +kernel) rfl rfl rfl (by decide +kernel)
set_option maxRecDepth 65536 in
theorem w_c27 : (Jvm.Cond.code ({ cls := "java/lang/Math", name := "max", desc := "(II)I" } : Jvm.MethodName) jdk_29_method_65_code (2 : Nat) (Option.some Jvm.ClassFile.FieldType.int)).before args0 about1 = true := code_word (m := ⟨14, 1⟩) (meth := k14m1) (c := k14c1) (by decide +kernel) rfl rfl rfl (by decide +kernel)
set_option maxRecDepth 65536 in
theorem w_c28 : (Jvm.Cond.code ({ cls := "java/lang/Math", name := "min", desc := "(II)I" } : Jvm.MethodName) jdk_29_method_69_code (2 : Nat) (Option.some Jvm.ClassFile.FieldType.int)).before args0 about1 = true := code_word (m := ⟨14, 2⟩) (meth := k14m2) (c := k14c2) (by decide +kernel) rfl rfl rfl (by decide +kernel)
set_option maxRecDepth 65536 in
theorem w_c29 : (Jvm.Cond.code ({ cls := "java/lang/StringLatin1", name := "indexOfChar", desc := "([BIII)I" } : Jvm.MethodName) jdk_43_method_23_code (6 : Nat) (Option.some Jvm.ClassFile.FieldType.int)).before args0 about1 = true := code_word (m := ⟨12, 5⟩) (meth := k12m5) (c := k12c5) (by decide +kernel) rfl rfl rfl (by decide +kernel)
def codes1 : List Jvm.Cond := [Jvm.Cond.code x code maxLocals ret, Jvm.Cond.code ({ cls := "com/example/deduct/deduct/model/ItemIdEqualsPinLaw", name := "pick", desc := "(I)C" } : Jvm.MethodName) method_2_code (2 : Nat) (Option.some Jvm.ClassFile.FieldType.char), Jvm.Cond.code ({ cls := "java/lang/String", name := "<init>", desc := "([C)V" } : Jvm.MethodName) jdk_42_method_3_code (2 : Nat) (Option.none : Option Jvm.ClassFile.FieldType), Jvm.Cond.code ({ cls := "java/lang/String", name := "<init>", desc := "([CIILjava/lang/Void;)V" } : Jvm.MethodName) jdk_42_method_149_code (6 : Nat) (Option.none : Option Jvm.ClassFile.FieldType), Jvm.Cond.code ({ cls := "java/lang/Object", name := "<init>", desc := "()V" } : Jvm.MethodName) object_method_1_code (1 : Nat) (Option.none : Option Jvm.ClassFile.FieldType), Jvm.Cond.code ({ cls := "java/lang/StringUTF16", name := "compress", desc := "([CII)[B" } : Jvm.MethodName) jdk_52_method_16_code (6 : Nat) (Option.some (Jvm.ClassFile.FieldType.array Jvm.ClassFile.FieldType.byte)), Jvm.Cond.code ({ cls := "java/lang/StringUTF16", name := "compress", desc := "([CI[BII)I" } : Jvm.MethodName) jdk_52_method_21_code (7 : Nat) (Option.some Jvm.ClassFile.FieldType.int), Jvm.Cond.code ({ cls := "java/lang/StringUTF16", name := "coderFromArrayLen", desc := "([BI)B" } : Jvm.MethodName) jdk_52_method_15_code (2 : Nat) (Option.some Jvm.ClassFile.FieldType.byte), Jvm.Cond.code ({ cls := "com/example/deduct/deduct/model/ItemId", name := "<init>", desc := "(Ljava/lang/String;)V" } : Jvm.MethodName) prog_8_method_1_code (2 : Nat) (Option.none : Option Jvm.ClassFile.FieldType), Jvm.Cond.code ({ cls := "com/example/deduct/deduct/model/NameRule", name := "check", desc := "(Ljava/lang/String;Ljava/lang/String;)Ljava/lang/String;" } : Jvm.MethodName) prog_11_method_2_code (3 : Nat) (Option.some (Jvm.ClassFile.FieldType.object "java/lang/String")), Jvm.Cond.code ({ cls := "java/util/Objects", name := "requireNonNull", desc := "(Ljava/lang/Object;Ljava/lang/String;)Ljava/lang/Object;" } : Jvm.MethodName) jdk_31_method_11_code (2 : Nat) (Option.some (Jvm.ClassFile.FieldType.object "java/lang/Object")), Jvm.Cond.code ({ cls := "java/lang/String", name := "isEmpty", desc := "()Z" } : Jvm.MethodName) jdk_42_method_55_code (1 : Nat) (Option.some Jvm.ClassFile.FieldType.boolean), Jvm.Cond.code ({ cls := "java/lang/String", name := "length", desc := "()I" } : Jvm.MethodName) jdk_42_method_54_code (1 : Nat) (Option.some Jvm.ClassFile.FieldType.int), Jvm.Cond.code ({ cls := "java/lang/String", name := "coder", desc := "()B" } : Jvm.MethodName) jdk_42_method_152_code (1 : Nat) (Option.some Jvm.ClassFile.FieldType.byte), Jvm.Cond.code ({ cls := "com/example/deduct/deduct/model/NameRule", name := "allowed", desc := "(Ljava/lang/String;)Z" } : Jvm.MethodName) prog_11_method_3_code (5 : Nat) (Option.some Jvm.ClassFile.FieldType.boolean), Jvm.Cond.code ({ cls := "java/lang/String", name := "charAt", desc := "(I)C" } : Jvm.MethodName) jdk_42_method_56_code (2 : Nat) (Option.some Jvm.ClassFile.FieldType.char), Jvm.Cond.code ({ cls := "java/lang/String", name := "isLatin1", desc := "()Z" } : Jvm.MethodName) jdk_42_method_154_code (1 : Nat) (Option.some Jvm.ClassFile.FieldType.boolean), Jvm.Cond.code ({ cls := "java/lang/StringLatin1", name := "charAt", desc := "([BI)C" } : Jvm.MethodName) jdk_43_method_2_code (2 : Nat) (Option.some Jvm.ClassFile.FieldType.char), Jvm.Cond.code ({ cls := "java/lang/String", name := "checkIndex", desc := "(II)V" } : Jvm.MethodName) jdk_42_method_155_code (2 : Nat) (Option.none : Option Jvm.ClassFile.FieldType), Jvm.Cond.code ({ cls := "jdk/internal/util/Preconditions", name := "checkIndex", desc := "(IILjava/util/function/BiFunction;)I" } : Jvm.MethodName) jdk_41_method_11_code (3 : Nat) (Option.some Jvm.ClassFile.FieldType.int), Jvm.Cond.code ({ cls := "com/example/deduct/deduct/model/ItemId", name := "equals", desc := "(Ljava/lang/Object;)Z" } : Jvm.MethodName) prog_8_method_3_code (2 : Nat) (Option.some Jvm.ClassFile.FieldType.boolean), Jvm.Cond.code ({ cls := "java/lang/String", name := "equals", desc := "(Ljava/lang/Object;)Z" } : Jvm.MethodName) jdk_42_method_66_code (3 : Nat) (Option.some Jvm.ClassFile.FieldType.boolean), Jvm.Cond.code ({ cls := "java/lang/StringLatin1", name := "equals", desc := "([B[B)Z" } : Jvm.MethodName) jdk_43_method_13_code (3 : Nat) (Option.some Jvm.ClassFile.FieldType.boolean), Jvm.Cond.code ({ cls := "java/lang/String", name := "indexOf", desc := "(I)I" } : Jvm.MethodName) jdk_42_method_79_code (2 : Nat) (Option.some Jvm.ClassFile.FieldType.int), Jvm.Cond.code ({ cls := "java/lang/String", name := "indexOf", desc := "(II)I" } : Jvm.MethodName) jdk_42_method_80_code (3 : Nat) (Option.some Jvm.ClassFile.FieldType.int), Jvm.Cond.code ({ cls := "java/lang/StringLatin1", name := "indexOf", desc := "([BIII)I" } : Jvm.MethodName) jdk_43_method_22_code (4 : Nat) (Option.some Jvm.ClassFile.FieldType.int), Jvm.Cond.code ({ cls := "java/lang/StringLatin1", name := "canEncode", desc := "(I)Z" } : Jvm.MethodName) jdk_43_method_4_code (1 : Nat) (Option.some Jvm.ClassFile.FieldType.boolean), Jvm.Cond.code ({ cls := "java/lang/Math", name := "max", desc := "(II)I" } : Jvm.MethodName) jdk_29_method_65_code (2 : Nat) (Option.some Jvm.ClassFile.FieldType.int), Jvm.Cond.code ({ cls := "java/lang/Math", name := "min", desc := "(II)I" } : Jvm.MethodName) jdk_29_method_69_code (2 : Nat) (Option.some Jvm.ClassFile.FieldType.int), Jvm.Cond.code ({ cls := "java/lang/StringLatin1", name := "indexOfChar", desc := "([BIII)I" } : Jvm.MethodName) jdk_43_method_23_code (6 : Nat) (Option.some Jvm.ClassFile.FieldType.int)]
set_option maxRecDepth 65536 in
theorem codes_eq : words1.filter isCode = codes1 := rfl
theorem w_codes : ∀ c ∈ words1.filter isCode, c.before args0 about1 = true := by
  rw [codes_eq]
  intro c hc
  simp only [codes1, List.mem_cons, List.not_mem_nil, or_false] at hc
  rcases hc with rfl | rfl | rfl | rfl | rfl | rfl | rfl | rfl | rfl | rfl | rfl | rfl | rfl | rfl | rfl | rfl | rfl | rfl | rfl | rfl | rfl | rfl | rfl | rfl | rfl | rfl | rfl | rfl | rfl | rfl
  · exact w_c0
  · exact w_c1
  · exact w_c2
  · exact w_c3
  · exact w_c4
  · exact w_c5
  · exact w_c6
  · exact w_c7
  · exact w_c8
  · exact w_c9
  · exact w_c10
  · exact w_c11
  · exact w_c12
  · exact w_c13
  · exact w_c14
  · exact w_c15
  · exact w_c16
  · exact w_c17
  · exact w_c18
  · exact w_c19
  · exact w_c20
  · exact w_c21
  · exact w_c22
  · exact w_c23
  · exact w_c24
  · exact w_c25
  · exact w_c26
  · exact w_c27
  · exact w_c28
  · exact w_c29
set_option maxRecDepth 65536 in
theorem w_t1 : (words1.take 24).all (fun c => isCode c || c.before args0 about1) = true := by decide +kernel
set_option maxRecDepth 65536 in
theorem w_t2 : ((words1.drop 24).take 24).all (fun c => isCode c || c.before args0 about1) = true := by decide +kernel
set_option maxRecDepth 65536 in
theorem w_t3 : (((words1.drop 24).drop 24).take 24).all (fun c => isCode c || c.before args0 about1) = true := by decide +kernel
set_option maxRecDepth 65536 in
theorem w_t4 : ((((words1.drop 24).drop 24).drop 24).take 24).all (fun c => isCode c || c.before args0 about1) = true := by decide +kernel
set_option maxRecDepth 65536 in
theorem w_t5 : (((((words1.drop 24).drop 24).drop 24).drop 24).take 24).all (fun c => isCode c || c.before args0 about1) = true := by decide +kernel
set_option maxRecDepth 65536 in
theorem w_t6 : ((((((words1.drop 24).drop 24).drop 24).drop 24).drop 24).take 24).all (fun c => isCode c || c.before args0 about1) = true := by decide +kernel
set_option maxRecDepth 65536 in
theorem w_t7 : ((((((words1.drop 24).drop 24).drop 24).drop 24).drop 24).drop 24).all (fun c => isCode c || c.before args0 about1) = true := by decide +kernel
theorem w_tables : (allAtoms (Jvm.Cond.code x code maxLocals ret :: tables_1)).before args0 about1 = true := by
  rw [allAtoms_all]
  show words1.all (fun c => c.before args0 about1) = true
  refine all_split ?_ w_codes
  rw [← List.take_append_drop 24 words1, List.all_append, w_t1, ← List.take_append_drop 24 (words1.drop 24), List.all_append, w_t2, ← List.take_append_drop 24 ((words1.drop 24).drop 24), List.all_append, w_t3, ← List.take_append_drop 24 (((words1.drop 24).drop 24).drop 24), List.all_append, w_t4, ← List.take_append_drop 24 ((((words1.drop 24).drop 24).drop 24).drop 24), List.all_append, w_t5, ← List.take_append_drop 24 (((((words1.drop 24).drop 24).drop 24).drop 24).drop 24), List.all_append, w_t6, w_t7]
  rfl
set_option maxRecDepth 65536 in
theorem w_rest : rest_1_c.before args0 about1 = true := by decide +kernel
set_option maxRecDepth 65536 in
theorem w_case : (Jvm.Cond.and given_1 narrow_1).before args0 about1 = true := by decide +kernel
theorem w_applies : (headSpec (Jvm.Cond.code x code maxLocals ret :: tables_1) room_1).applies x e0.platform about1 = true :=
  (Spec.applies_iff w_frames).mpr ⟨w_running, w_runnable, w_alone, w_named, w_hears, w_ripe, w_room, w_tables⟩
theorem atStart : AtStart classFile x code maxLocals ret World_1 tables_1 room_1 Calls_1 rest_1 Pre_1 launch0 p0 e0 about1 theMethod args0 below0 :=
  ⟨lists_1, trivial, launch0.admits_env _ _ _, launch0.least_env, fairChoices_fair.cas, fairChoices_fair.clock, w_frames, w_args, w_heap, w_applies, trivial, w_rest, w_case⟩
end start1
theorem witness_1 : WitnessClaimed_1 := ⟨start1.p0, start1.e0, start1.about1, start1.theMethod, start1.args0, start1.below0, start1.atStart⟩
end Jvm.Pilot.@@N@@
