import JvmDerived
import JvmDerived.Pilot.@@N@@Statement
import JvmDerived.Pilot.@@N@@Code
set_option linter.unusedVariables false
set_option linter.unusedSimpArgs false
namespace Jvm.RoadKit
open Sem ClassFile Op Lib Jvm.Stand Jvm.Free Jvm.LawKit
section Own
variable {p : Program} {l : Launch} {e : Env} {R : Room} {s : State} {m : MethodId} {args : Array Value} {below : List Frame} {meth : Method} {c : Code} {T : State} {locs : List Loc} {cells slots : Nat}
theorem retI (X : Stand p l e R s m args below meth c T locs cells slots) (hx : p.tables.exec = Jvm.exec) {pc : Nat} {Ls : Array Slot} {z : Int32} {rest : List Value} (hret : meth.sig.returnType = some .int) (hd : decode c.code pc = .ok (.ireturn, 1)) {fs : List Frame}
    (hl : ∀ (f : JFrame) (acts : List Action), f.method = m → f.locked = none → f.entered = [] → (doReturn e (T.setTop f) acts (some (.int z))).1 = T.setFrames fs) : Steps p.tables e below (T.setTop (mkF m pc Ls (.int z :: rest))) (T.setFrames fs) := by
  have hm' : T.vm.method? m = some meth := X.method'
  have hn : narrow .int (.int z) = .int z := rfl
  show Steps p.tables e below (T.setTop { method := m, pc := pc, locals := Ls, stack := _ :: rest, locked := none }) _
  jvm_step X.here [X.here.top, hx, hd, hm', hret, hn]
  first | (intro acts; rw [hl _ acts rfl rfl rfl]) | rw [hl _ _ rfl rfl rfl]
  exact Steps.refl _
/-- the walk from S ends as K says -/
def Way (tb : Tables) (e : Env) (below : List Frame) (K : Outcome → State → Prop) (S : State) : Prop := ∃ s₂ o, Steps tb e below S s₂ ∧ s₂.status = .running ∧ Ended s₂ below o ∧ K o s₂
theorem Way.by {tb : Tables} {K : Outcome → State → Prop} {A B : State} (st : ∀ t, Steps tb e below B t → Steps tb e below A t) (h : Way tb e below K B) : Way tb e below K A := by
  obtain ⟨s₂, o, h1, h2⟩ := h; exact ⟨s₂, o, st _ h1, h2⟩
theorem Way.to {tb : Tables} {K : Outcome → State → Prop} {A B : State} (st : Steps tb e below A B) (h : Way tb e below K B) : Way tb e below K A := by
  obtain ⟨s₂, o, h1, h2⟩ := h; exact ⟨s₂, o, st.trans h1, h2⟩
abbrev KQ (s : State) (Q : Option Value → Heap → List Loc → Prop) (C S : Nat) : Outcome → State → Prop := fun o s₂ => ∃ v L, o = .returned v ∧ Q v s₂.heap L ∧ FrameEnd s o s₂ L C S
theorem Way.ret {Q : Option Value → Heap → List Loc → Prop} {C S : Nat} {A : State} {v : Option Value} (X : Stand p l e R s m args below meth c T locs cells slots) (hlk : meth.locks = false) (hv : meth.sig.returnType = none → v = none)
    (hret : ∀ fs, (∀ (f : JFrame) (acts : List Action), f.method = m → f.locked = none → f.entered = [] → (doReturn e (T.setTop f) acts v).1 = T.setFrames fs) → Steps p.tables e below A (T.setFrames fs))
    (hQ : Q v T.heap locs) (hc : cells ≤ C) (hs : slots ≤ S) : Way p.tables e below (KQ s Q C S) A := by
  obtain ⟨fs, hr, hrun, hended, hW, hsame⟩ := X.leave hv hlk
  exact ⟨_, _, hret fs hr, hrun, hended, _, _, rfl, hQ, ⟨_, rfl⟩, hW, hsame.mono hc hs⟩
abbrev KQW (s : State) (Q : Option Value → Heap → List Loc → Prop) (C S : Nat) : Outcome → State → Prop := fun o s₂ => ∃ v L, o = .returned v ∧ Q v s₂.heap L ∧ ReturnedEndW s o s₂ L C S
theorem Way.retW {Q : Option Value → Heap → List Loc → Prop} {C S : Nat} {A : State} {v : Option Value} {vm1 : Vm} {n : Nat} (X : Stand p l e R (s.setVm vm1) m args below meth c T locs cells slots) (hS : s.Since vm1 n) (hn : n ≤ T.heap.size) (hlk : meth.locks = false) (hv : meth.sig.returnType = none → v = none)
    (hret : ∀ fs, (∀ (f : JFrame) (acts : List Action), f.method = m → f.locked = none → f.entered = [] → (doReturn e (T.setTop f) acts v).1 = T.setFrames fs) → Steps p.tables e below A (T.setFrames fs))
    (hQ : Q v T.heap locs) (hc : cells ≤ C) (hs : slots ≤ S) : Way p.tables e below (KQW s Q C S) A := by
  obtain ⟨fs, hr, hrun, hended, h1, h2, h3, h4⟩ := X.leaveW hS hn hv hlk
  exact ⟨_, _, hret fs hr, hrun, hended, _, _, rfl, hQ, h1, h2, h3, h4.mono hc hs⟩
abbrev KQH (s Z : State) (EL : List (String × Nat)) (Q : Option Value → Heap → List Loc → Prop) (C S : Nat) : Outcome → State → Prop := fun o s₂ => ∃ v L, o = .returned v ∧ Q v s₂.heap L ∧ CHr Z EL s.vm s.heap s₂.vm s₂.heap ∧ ReturnedEndW s o s₂ L C S
theorem Way.retH {Z : State} {a0 : Array Value} {EL : List (String × Nat)} {Q : Option Value → Heap → List Loc → Prop} {C S : Nat} {A : State} {v : Option Value} {vm1 : Vm} {n : Nat} {h h0 : Heap} (X : Stand p l e R (s.setVm vm1) m args below meth c T locs cells slots) (hS : s.Since vm1 n) (hn : n ≤ T.heap.size) (hZ : Z.Warmed39 vm1) (hEL : EW Z a0 EL) (hh : s.heap = h0) (eT : T.heap = h) (H : CHv Z EL vm1 h) (CH : CHr Z EL s.vm h0 vm1 h) (hlk : meth.locks = false) (hv : meth.sig.returnType = none → v = none)
    (hret : ∀ fs, (∀ (f : JFrame) (acts : List Action), f.method = m → f.locked = none → f.entered = [] → (doReturn e (T.setTop f) acts v).1 = T.setFrames fs) → Steps p.tables e below A (T.setFrames fs))
    (hQ : Q v T.heap locs) (hc : cells ≤ C) (hs : slots ≤ S) : Way p.tables e below (KQH s Z EL Q C S) A := by
  obtain ⟨fs, hr, hrun, hended, h1, h2, h3, h4⟩ := X.leaveW hS hn hv hlk
  refine ⟨_, _, hret fs hr, hrun, hended, _, _, rfl, hQ, ?_, h1, h2, h3, h4.mono hc hs⟩
  have B := CHv.at X hZ hEL H
  show CHr Z EL s.vm s.heap T.vm T.heap
  rw [hh, eT]; exact CH.trans B
theorem fldStart {Z : State} {args : Array Value} {t : Term} {a : Addr} {C n d : String} {k : Int32} (ev : t.eval args Z none [] Z = some (.ref a)) (h : (Cond.eq (.field t C n d) (.int k)).value args Z none Z [] = some true) : Fld Z Z.heap a C n d (.int k) := by
  refine Fld.start ?_
  have e1 : (Term.field t C n d).eval args Z none [] Z = Z.fieldOf? a C n d := fld_at ev
  simp only [Cond.value] at h
  rw [e1, show (Term.int k).eval args Z none [] Z = some (.int k) from rfl] at h
  cases hf : Z.fieldOf? a C n d with
  | none => simp [hf] at h
  | some w => cases w <;> simp [hf] at h ⊢; exact h
theorem envNe {Z : State} {args : Array Value} {t : Term} {v : Int32} (ev : t.eval args Z none [] Z = some (.int v)) (h : (Cond.not (.eq t (.int 0))).before args Z = true) : v ≠ 0 := by
  have h2 := Cond.before_iff.mp h
  intro q; subst q
  simp only [Cond.value] at h2
  rw [ev] at h2
  simp [Term.eval] at h2
theorem envRef {Z : State} {args : Array Value} {t : Term} (h : (Cond.isRef t).before args Z = true) : ∃ G, t.eval args Z none [] Z = some G ∧ G.isRef = true := by
  have h2 := Cond.before_iff.mp h
  cases ht : t.eval args Z none [] Z with
  | none => simp [Cond.value, ht] at h2
  | some w => exact ⟨w, rfl, by cases w <;> simp [Cond.value, ht] at h2 <;> rfl⟩
theorem hpE {T : State} {h : Heap} {a : Addr} {c : Cell} (e : T.heap = h) (A : h[a]? = some c) : T.heap[a]? = some c := by rw [e]; exact A
theorem remB (x d : Int32) (D : Int) (hd : d.toInt = D) (h0 : 0 < D) : 0 ≤ ((x &&& 2147483647) % d).toInt ∧ ((x &&& 2147483647) % d).toInt < D := by
  have h1 := c_and x 2147483647 (by decide)
  rw [(c_irem (x &&& 2147483647) d D hd).1 h1.1]
  exact ⟨Int.emod_nonneg _ (by omega), Int.emod_lt_of_pos _ h0⟩
theorem cases3 {k : Int32} (h : 0 ≤ k.toInt ∧ k.toInt < 3) : k = 0 ∨ k = 1 ∨ k = 2 := by
  have q : k.toInt = 0 ∨ k.toInt = 1 ∨ k.toInt = 2 := by omega
  rcases q with q | q | q
  · exact Or.inl (Int32.toInt_inj.mp q)
  · exact Or.inr (Or.inl (Int32.toInt_inj.mp q))
  · exact Or.inr (Or.inr (Int32.toInt_inj.mp q))
theorem cases5 {k : Int32} (h : 0 ≤ k.toInt ∧ k.toInt < 5) : k = 0 ∨ k = 1 ∨ k = 2 ∨ k = 3 ∨ k = 4 := by
  have q : k.toInt = 0 ∨ k.toInt = 1 ∨ k.toInt = 2 ∨ k.toInt = 3 ∨ k.toInt = 4 := by omega
  rcases q with q | q | q | q | q
  · exact Or.inl (Int32.toInt_inj.mp q)
  · exact Or.inr (Or.inl (Int32.toInt_inj.mp q))
  · exact Or.inr (Or.inr (Or.inl (Int32.toInt_inj.mp q)))
  · exact Or.inr (Or.inr (Or.inr (Or.inl (Int32.toInt_inj.mp q))))
  · exact Or.inr (Or.inr (Or.inr (Or.inr (Int32.toInt_inj.mp q))))
theorem nfSel {s : State} {args : Array Value} {C : String} {y z : MethodName} (hyz : z.cls = y.cls) (hsel : (Cond.selects C z z).before args s = true) : NotFace s y := fun r0 h0 => by
  obtain ⟨c, r, m, -, -, hn, -, mk, hk, hni⟩ := Cond.selects_spec hsel
  have e1 := findClass_of_methodNamed h0
  have e2 := findClass_of_methodNamed hn
  rw [hyz, e1] at e2
  refine ⟨mk, ?_, hni⟩
  first | (rw [Option.some.inj e2]; exact hk) | (rw [← Option.some.inj e2]; exact hk)
theorem sameOwn {s : State} {args : Array Value} {C : String} {y z : MethodName} (hyz : z.cls = y.cls) (hsel : (Cond.selects C z z).before args s = true) (hinst : (Cond.instanceMethod y).before args s = true) (hy : y.cls ≠ "java/lang/invoke/MethodHandle" ∧ y.cls ≠ "java/lang/invoke/VarHandle") : (Cond.sameMethod y.cls y.cls y.name y.desc).before args s = true := by
  obtain ⟨mk, methM, hnamed, -⟩ := Cond.instanceMethod_spec hinst
  obtain ⟨kr, hk, hni⟩ := nfSel hyz hsel mk hnamed
  have hf := State.methodFound?_of_named hnamed hy
  have hc := findClass_of_methodNamed hnamed
  have hn2 : s.methodNamed? ⟨y.cls, y.name, y.desc⟩ = some mk := hnamed
  simp [Cond.before, Cond.holds, Cond.value, hc, hf, hn2, hk, hni]
theorem selPriv {s : State} {args : Array Value} {C : String} {y z : MethodName} (hyz : z.cls = y.cls) (hsel : (Cond.selects C z z).before args s = true) (hpriv : s.PrivateAt y) (hinst : (Cond.instanceMethod y).before args s = true) (hy : y.cls ≠ "java/lang/invoke/MethodHandle" ∧ y.cls ≠ "java/lang/invoke/VarHandle") : (Cond.selects y.cls y y).before args s = true := by
  obtain ⟨c, r, m, -, -, hn, -, mk, hk, hni⟩ := Cond.selects_spec hsel
  exact selects_self_of_private (by rw [← hyz]; exact findClass_of_methodNamed hn) hk hni hpriv hinst hy
theorem staRef {Z : State} {args : Array Value} {C n d K : String} (h : (Cond.exactly (.static C n d) K).before args Z = true) (hi : (Cond.initializedFor C n d).before args Z = true ∨ ((Cond.initialized C).before args Z = true ∧ (Cond.laysStatic C n d).before args Z = true)) : ∃ a, Sta Z Z.heap C n d (.ref a) ∧ Exa Z Z.heap a K := by
  obtain ⟨a, _, _, _, ev, -⟩ := Cond.exactly_spec h
  exact ⟨a, Sta.start ev hi, Exa.start ev (Cond.before_iff.mp h)⟩
theorem arrS {Z s : State} {h : Heap} {a : Addr} {cl : Cell} {ty : FieldType} (hZ : Z.Warmed39 s.vm) (A : Arr Z h a cl ty) : s.isArrayOf cl ty := State.isArrayOf_alike hZ.alike A.2.1
theorem arrSta {Z : State} {args : Array Value} {C n d : String} {ty : FieldType} {k : Int32} (wi : (Cond.initializedFor C n d).before args Z = true ∨ ((Cond.initialized C).before args Z = true ∧ (Cond.laysStatic C n d).before args Z = true)) (wx : (Cond.exactly (.static C n d) d).before args Z = true)
    (w2 : (Cond.arrayOf (.static C n d) ty).before args Z = true) (w3 : (Cond.eq (.length (.static C n d)) (.int k)).before args Z = true) : ∃ (a : Addr) (cl : Cell), Sta Z Z.heap C n d (.ref a) ∧ Arr Z Z.heap a cl ty ∧ cl.slots.size.toInt32 = k := by
  obtain ⟨a, _, _, _, ev, -⟩ := Cond.exactly_spec wx
  obtain ⟨cl, A⟩ := Arr.start ev (Cond.before_iff.mp w2)
  exact ⟨a, cl, Sta.start ev wi, A, (Jvm.Free.IntBox.length_fwd w3 ev A.1 A.2.1 A.2.2).2⟩
end Own
end Jvm.RoadKit
/- laws to paste: Road.backV, Road.codOf (cut by pick.py; bodies as the Statement names them) -/
namespace Jvm.Pilot.@@N@@
namespace StrChars
open Jvm Sem ClassFile Op Lib Jvm.Stand Jvm.Free.XT Jvm.Free.ALB Jvm.Free.JM Jvm.Free
open Jvm.Lib.Cold (StaticIs)
/-- a char array whose places are chars -/
def Ch (a : Addr) (A : Cell) (U : State) : Prop := Arr .char a A U ∧ Typed .char A
theorem Ch.mv {a : Addr} {A : Cell} {U U' : State} (h : Ch a A U) (hal : U.vm.Alike U'.vm) (hh : U'.heap = U.heap) : Ch a A U' := ⟨h.1.mv hal hh, h.2⟩
theorem Ch.keep {a : Addr} {A : Cell} {U U' : State} (h : Ch a A U) (hal : U.vm.Alike U'.vm) (hk : U'.heap[a]? = some A) : Ch a A U' := ⟨h.1.keep hal hk, h.2⟩
/-- what place i of a char[]'s cell holds -/
def cv (A : Cell) (i : Nat) : Int32 := match A.slots[i]? with | some (.int x) => x | _ => 0
theorem Ch.get {a : Addr} {A : Cell} {U : State} (h : Ch a A U) {i : Nat} (hi : i < A.slots.size) : A.slots[i]? = some (.int (cv A i)) := by
  have e := Array.getElem?_eq_getElem hi
  have f := h.2 i _ e
  unfold cv; rw [e]
  generalize A.slots[i] = v at f
  cases v <;> simp [fits] at f ⊢
/-- the byte that i2b leaves of a char -/
def lo8 (x : Int32) : Int32 := x.toInt8.toInt32
theorem fits_lo8 (y : Int32) : fits .byte (.int (lo8 y)) = true := by
  have h1 := y.toInt8.le_toInt
  have h2 := y.toInt8.toInt_lt
  simp only [lo8, fits, Bool.and_eq_true, decide_eq_true_eq, Int32.le_iff_toInt_le, Int8.toInt_toInt32, show (-128 : Int32).toInt = -128 from by decide, show (127 : Int32).toInt = 127 from by decide]
  omega
/-- A' is A but that each place j of lo .. hi - 1 holds f j -/
def Laid (A A' : Cell) (lo hi : Nat) (f : Nat → Value) : Prop := A'.cls = A.cls ∧ A'.vm = A.vm ∧ A'.slots.size = A.slots.size ∧ ∀ i, A'.slots[i]? = if lo ≤ i ∧ i < hi then some (f i) else A.slots[i]?
theorem Laid.zero (A : Cell) (lo : Nat) (f : Nat → Value) : Laid A A lo (lo + 0) f := ⟨rfl, rfl, rfl, fun i => by rw [if_neg (by omega)]⟩
theorem Laid.step {A Ak : Cell} {lo k : Nat} {f : Nat → Value} {v : Value} (h : Laid A Ak lo k f) (hlo : lo ≤ k) (hk : k < Ak.slots.size) (hv : v = f k) : Laid A (Ak.setSlot k v) lo (k + 1) f := by
  refine ⟨h.1, h.2.1, by simpa [Cell.setSlot] using h.2.2.1, fun i => ?_⟩
  by_cases e : k = i
  · subst e; rw [Cell.slots_setSlot_self v hk, if_pos (by omega), hv]
  · rw [Cell.slots_setSlot_ne v e, h.2.2.2 i]
    by_cases q : lo ≤ i ∧ i < k
    · rw [if_pos q, if_pos (by omega)]
    · rw [if_neg q, if_neg (by omega)]
def U16 : String := "java/lang/StringUTF16"
namespace Cmp5
def yN : MethodName := ⟨"java/lang/StringUTF16", "compress", "([CI[BII)I"⟩
abbrev yB : ByteArray := jdk_52_method_21_code
theorem d0 : decode yB 0 = .ok (.iconst 0, 1) := by decide +kernel
theorem d1 : decode yB 1 = .ok (.istore 5, 2) := by decide +kernel
theorem d3 : decode yB 3 = .ok (.iload 5, 2) := by decide +kernel
theorem d5 : decode yB 5 = .ok (.iload 4, 2) := by decide +kernel
theorem d7 : decode yB 7 = .ok (.if_icmp (.ge) 37, 3) := by decide +kernel
theorem d10 : decode yB 10 = .ok (.aload_n 0, 1) := by decide +kernel
theorem d11 : decode yB 11 = .ok (.iload_n 1, 1) := by decide +kernel
theorem d12 : decode yB 12 = .ok (.caload, 1) := by decide +kernel
theorem d13 : decode yB 13 = .ok (.istore 6, 2) := by decide +kernel
theorem d15 : decode yB 15 = .ok (.iload 6, 2) := by decide +kernel
theorem d17 : decode yB 17 = .ok (.sipush 255, 3) := by decide +kernel
theorem d20 : decode yB 20 = .ok (.if_icmp (.le) 6, 3) := by decide +kernel
theorem d26 : decode yB 26 = .ok (.aload_n 2, 1) := by decide +kernel
theorem d27 : decode yB 27 = .ok (.iload_n 3, 1) := by decide +kernel
theorem d28 : decode yB 28 = .ok (.iload 6, 2) := by decide +kernel
theorem d30 : decode yB 30 = .ok (.i2b, 1) := by decide +kernel
theorem d31 : decode yB 31 = .ok (.bastore, 1) := by decide +kernel
theorem d32 : decode yB 32 = .ok (.iinc 1 1, 3) := by decide +kernel
theorem d35 : decode yB 35 = .ok (.iinc 3 1, 3) := by decide +kernel
theorem d38 : decode yB 38 = .ok (.iinc 5 1, 3) := by decide +kernel
theorem d41 : decode yB 41 = .ok (.goto (-38), 3) := by decide +kernel
theorem d44 : decode yB 44 = .ok (.iload 4, 2) := by decide +kernel
theorem d46 : decode yB 46 = .ok (.ireturn, 1) := by decide +kernel
def site : List Cond := []
def tab : Cond := tabOf yN yB 7 (some .int) site
def P (b : Addr) (A : Cell) (d : Addr) (B : Cell) (o q len : Nat) (args : Array Value) (s : State) : Prop := args = #[.ref b, .int (Int32.ofNat o), .ref d, .int (Int32.ofNat q), .int (Int32.ofNat len)] ∧ Ch b A s ∧ Arr .byte d B s ∧ b ≠ d ∧ o + len ≤ A.slots.size ∧ q + len ≤ B.slots.size ∧ ∀ i, i < len → ¬ 255 < cv A (o + i)
def E (b : Addr) (A : Cell) (d : Addr) (B : Cell) (o q len : Nat) (r : Option Value) (s u : State) : Prop := r = some (.int (Int32.ofNat len)) ∧ ∃ B', Put d B' s u ∧ Laid B B' q (q + len) (fun j => Value.int (lo8 (cv A (o + (j - q)))))
/-- no char of the range above 255: len; the places written hold each char's low byte -/
theorem law (l : Launch) (b : Addr) (A : Cell) (d : Addr) (B : Cell) (o q len : Nat) : Law l yN 5 5 0 0 yB 7 (some .int) site (P b A d B o q len) (E b A d B o q len) (copyLocs d q len) 0 0 := by
  refine Law.of_walk (plainFor_of_name (by decide +kernel)) (by decide +kernel) (by decide +kernel) (by decide) (fun _ _ h => by rw [h.1]; rfl) (fun _ U U' hal hh h => ⟨h.1, h.2.1.mv hal hh, h.2.2.1.mv hal hh, h.2.2.2⟩) (fun r U U' V V' h1 hal h2 h => ⟨h.1, h.2.elim fun B' q => ⟨B', q.1.mv h1 h2, q.2⟩⟩) ?_
  intro p e s m args below meth c s₁ X0 hexec hbytes hml hret hlk hnm hown hh0 W hP
  obtain ⟨rfl, hA, hB, hne, l1, l2, hp⟩ := hP
  have c1 : Steps p.tables e below (s₁.setTop (entryFrame m #[.ref b, .int (Int32.ofNat o), .ref d, .int (Int32.ofNat q), .int (Int32.ofNat len)] 7)) (s₁.setTop (mkF m 0 #[.val (.ref b), .val (.int (Int32.ofNat o)), .val (.ref d), .val (.int (Int32.ofNat q)), .val (.int (Int32.ofNat len)), .unset, .unset] [])) := entry rfl
  have hA0 := hA.1.mv X0.warmed.alike hh0
  have hB0 := hB.mv X0.warmed.alike hh0
  have a31 := hA.1.2.2.2
  have c2 : Steps p.tables e below (s₁.setTop (entryFrame m #[.ref b, .int (Int32.ofNat o), .ref d, .int (Int32.ofNat q), .int (Int32.ofNat len)] 7)) (s₁.setTop (mkF m 3 #[.val (.ref b), .val (.int (Int32.ofNat o)), .val (.ref d), .val (.int (Int32.ofNat q)), .val (.int (Int32.ofNat len)), .val (.int 0), .unset] [])) := c1.trans (by
    refine iconstV X0.here hexec rfl 0 (hb hbytes d0) (by decide) ?_
    refine XS.istore X0.here hexec rfl (hb hbytes d1) rfl rfl ?_
    exact Steps.refl _)
  have loop : ∀ (r i : Nat), i + r = len → ∀ (z : Slot), (z = .unset ∨ ∃ w, z = .val w ∧ w.category = 1) → ∀ (Tl : State) (Bk : Cell), Stand p l e { frames := 0, locals := 0, cells := 0, slots := 0 } s m #[.ref b, .int (Int32.ofNat o), .ref d, .int (Int32.ofNat q), .int (Int32.ofNat len)] below meth c Tl ([] ++ copyLocs d q i) 0 0 → Put d Bk s₁ Tl → Laid B Bk q (q + i) (fun j => Value.int (lo8 (cv A (o + (j - q))))) →
      Steps p.tables e below (s₁.setTop (entryFrame m #[.ref b, .int (Int32.ofNat o), .ref d, .int (Int32.ofNat q), .int (Int32.ofNat len)] 7)) (Tl.setTop (mkF m 3 #[.val (.ref b), .val (.int (Int32.ofNat (o + i))), .val (.ref d), .val (.int (Int32.ofNat (q + i))), .val (.int (Int32.ofNat len)), .val (.int (Int32.ofNat i)), z] [])) → ∃ (T' : State) (B' : Cell) (z' : Slot), Stand p l e { frames := 0, locals := 0, cells := 0, slots := 0 } s m #[.ref b, .int (Int32.ofNat o), .ref d, .int (Int32.ofNat q), .int (Int32.ofNat len)] below meth c T' ([] ++ copyLocs d q len) 0 0 ∧ Put d B' s₁ T' ∧ Laid B B' q (q + len) (fun j => Value.int (lo8 (cv A (o + (j - q))))) ∧
      Steps p.tables e below (s₁.setTop (entryFrame m #[.ref b, .int (Int32.ofNat o), .ref d, .int (Int32.ofNat q), .int (Int32.ofNat len)] 7)) (T'.setTop (mkF m 3 #[.val (.ref b), .val (.int (Int32.ofNat (o + len))), .val (.ref d), .val (.int (Int32.ofNat (q + len))), .val (.int (Int32.ofNat len)), .val (.int (Int32.ofNat len)), z'] [])) := by
    intro r
    induction r with
    | zero =>
      intro i hi z hz Tl Bk Xl pl fl cl
      have hil : i = len := by omega
      rw [hil] at Xl fl cl
      exact ⟨Tl, Bk, z, Xl, pl, fl, cl⟩
    | succ r ih =>
      intro i hi z hz Tl Bk Xl pl fl cl
      have all := X0.warmed.alike.symm.trans Xl.warmed.alike
      have hAl := hA0.keep all (pl.other hne hA0.1)
      have hBk := hB0.like all pl.1 fl.1 fl.2.1 fl.2.2.1
      have hlt : q + i < Bk.slots.size := by rw [fl.2.2.1]; omega
      have c3 : Steps p.tables e below (s₁.setTop (entryFrame m #[.ref b, .int (Int32.ofNat o), .ref d, .int (Int32.ofNat q), .int (Int32.ofNat len)] 7)) (Tl.setTop (mkF m 12 #[.val (.ref b), .val (.int (Int32.ofNat (o + i))), .val (.ref d), .val (.int (Int32.ofNat (q + i))), .val (.int (Int32.ofNat len)), .val (.int (Int32.ofNat i)), z] [.int (Int32.ofNat (o + i)), .ref b])) := cl.trans (by
        refine XS.iload Xl.here hexec rfl (hb hbytes d3) rfl ?_
        refine XS.iload Xl.here hexec rfl (hb hbytes d5) rfl ?_
        refine XS.icmpNo Xl.here hexec rfl (hb hbytes d7) rfl (ii_ge_f (lt32 (by omega) (by omega))) ?_
        refine XS.aloadN Xl.here hexec rfl (hb hbytes d10) rfl rfl ?_
        refine XS.iloadN Xl.here hexec rfl (hb hbytes d11) rfl ?_
        exact Steps.refl _)
      have c4 : Steps p.tables e below (s₁.setTop (entryFrame m #[.ref b, .int (Int32.ofNat o), .ref d, .int (Int32.ofNat q), .int (Int32.ofNat len)] 7)) (Tl.setTop (mkF m 13 #[.val (.ref b), .val (.int (Int32.ofNat (o + i))), .val (.ref d), .val (.int (Int32.ofNat (q + i))), .val (.int (Int32.ofNat len)), .val (.int (Int32.ofNat i)), z] [.int (cv A (o + i))])) := c3.trans (by
        refine Xl.aget hexec hAl rfl (hA.get (i := o + i) (by omega)) rfl rfl (hb hbytes d12) ?_
        exact Steps.refl _)
      have c5 : Steps p.tables e below (s₁.setTop (entryFrame m #[.ref b, .int (Int32.ofNat o), .ref d, .int (Int32.ofNat q), .int (Int32.ofNat len)] 7)) (Tl.setTop (mkF m 15 #[.val (.ref b), .val (.int (Int32.ofNat (o + i))), .val (.ref d), .val (.int (Int32.ofNat (q + i))), .val (.int (Int32.ofNat len)), .val (.int (Int32.ofNat i)), .val (.int (cv A (o + i)))] [])) := c4.trans (by
        refine XS.istoreS Xl.here hexec rfl (hb hbytes d13) rfl rfl hz ?_
        exact Steps.refl _)
      have c6 : Steps p.tables e below (s₁.setTop (entryFrame m #[.ref b, .int (Int32.ofNat o), .ref d, .int (Int32.ofNat q), .int (Int32.ofNat len)] 7)) (Tl.setTop (mkF m 31 #[.val (.ref b), .val (.int (Int32.ofNat (o + i))), .val (.ref d), .val (.int (Int32.ofNat (q + i))), .val (.int (Int32.ofNat len)), .val (.int (Int32.ofNat i)), .val (.int (cv A (o + i)))] [.int (lo8 (cv A (o + i))), .int (Int32.ofNat (q + i)), .ref d])) := c5.trans (by
        refine XS.iload Xl.here hexec rfl (hb hbytes d15) rfl ?_
        refine sipushV Xl.here hexec rfl 255 (hb hbytes d17) (by decide) ?_
        refine XS.icmpYes Xl.here hexec rfl (pc0 := 20) rfl (hb hbytes d20) rfl (ii_le_t (hp i (by omega))) (by decide) rfl ?_
        refine XS.aloadN Xl.here hexec rfl (hb hbytes d26) rfl rfl ?_
        refine XS.iloadN Xl.here hexec rfl (hb hbytes d27) rfl ?_
        refine XS.iload Xl.here hexec rfl (hb hbytes d28) rfl ?_
        refine i2b Xl.here hexec rfl (hb hbytes d30) rfl ?_
        exact Steps.refl _)
      obtain ⟨T7, X7, p7, st7⟩ := Xl.aput hexec hBk rfl hlt rfl (fits_lo8 (cv A (o + i))) (g := (mkF m 31 #[.val (.ref b), .val (.int (Int32.ofNat (o + i))), .val (.ref d), .val (.int (Int32.ofNat (q + i))), .val (.int (Int32.ofNat len)), .val (.int (Int32.ofNat i)), .val (.int (cv A (o + i)))] [.int (lo8 (cv A (o + i))), .int (Int32.ofNat (q + i)), .ref d])) rfl (rest := []) rfl (hb hbytes d31)
      have c8 : Steps p.tables e below (s₁.setTop (entryFrame m #[.ref b, .int (Int32.ofNat o), .ref d, .int (Int32.ofNat q), .int (Int32.ofNat len)] 7)) (T7.setTop (mkF m 32 #[.val (.ref b), .val (.int (Int32.ofNat (o + i))), .val (.ref d), .val (.int (Int32.ofNat (q + i))), .val (.int (Int32.ofNat len)), .val (.int (Int32.ofNat i)), .val (.int (cv A (o + i)))] [])) := c6.trans (st7 _ (Steps.refl _))
      have c9 : Steps p.tables e below (s₁.setTop (entryFrame m #[.ref b, .int (Int32.ofNat o), .ref d, .int (Int32.ofNat q), .int (Int32.ofNat len)] 7)) (T7.setTop (mkF m 3 #[.val (.ref b), .val (.int (Int32.ofNat (o + i) + 1)), .val (.ref d), .val (.int (Int32.ofNat (q + i) + 1)), .val (.int (Int32.ofNat len)), .val (.int (Int32.ofNat i + 1)), .val (.int (cv A (o + i)))] [])) := c8.trans (by
        refine iincV X7.here hexec rfl 1 (hb hbytes d32) (by decide) rfl rfl ?_
        refine iincV X7.here hexec rfl 1 (hb hbytes d35) (by decide) rfl rfl ?_
        refine iincV X7.here hexec rfl 1 (hb hbytes d38) (by decide) rfl rfl ?_
        refine XS.goto X7.here hexec rfl (pc0 := 41) rfl (hb hbytes d41) (by decide) rfl ?_
        exact Steps.refl _)
      have c10 : Steps p.tables e below (s₁.setTop (entryFrame m #[.ref b, .int (Int32.ofNat o), .ref d, .int (Int32.ofNat q), .int (Int32.ofNat len)] 7)) (T7.setTop (mkF m 3 #[.val (.ref b), .val (.int (Int32.ofNat (o + (i + 1)))), .val (.ref d), .val (.int (Int32.ofNat (q + (i + 1)))), .val (.int (Int32.ofNat len)), .val (.int (Int32.ofNat (i + 1))), .val (.int (cv A (o + i)))] [])) := by
        have := c9
        rw [succ32, succ32, succ32] at this
        exact this
      exact ih (i + 1) (by omega) _ (Or.inr ⟨_, rfl, rfl⟩) T7 _ (by rw [copyLocs_step, ← List.append_assoc]; exact X7) (pl.trans p7) (fl.step (by omega) hlt (by simp)) c10
  obtain ⟨T9, B9, z9, X9, p9, f9, g9⟩ := loop len 0 (by omega) .unset (Or.inl rfl) s₁ B (by simpa [copyLocs] using X0) ⟨hB0.1, fun _ _ => rfl, rfl⟩ (Laid.zero _ _ _) c2
  have c11 : Steps p.tables e below (s₁.setTop (entryFrame m #[.ref b, .int (Int32.ofNat o), .ref d, .int (Int32.ofNat q), .int (Int32.ofNat len)] 7)) (T9.setTop (mkF m 46 #[.val (.ref b), .val (.int (Int32.ofNat (o + len))), .val (.ref d), .val (.int (Int32.ofNat (q + len))), .val (.int (Int32.ofNat len)), .val (.int (Int32.ofNat len)), z9] [.int (Int32.ofNat len)])) := g9.trans (by
    refine XS.iload X9.here hexec rfl (hb hbytes d3) rfl ?_
    refine XS.iload X9.here hexec rfl (hb hbytes d5) rfl ?_
    refine XS.icmpYes X9.here hexec rfl (pc0 := 7) rfl (hb hbytes d7) rfl (ii_ge_t (nlt32 (by omega) (Nat.le_refl _))) (by decide) rfl ?_
    refine XS.iload X9.here hexec rfl (hb hbytes d44) rfl ?_
    exact Steps.refl _)
  exact ⟨T9, some (.int (Int32.ofNat len)), _, _, _, X9, by simp, rfl, rfl, (fun h => by cases h), ⟨rfl, B9, p9.from hh0, f9⟩, fun fs hl => c11.trans (X9.ireturnOut hexec hret rfl (Or.inl rfl) (hb hbytes d46) hl)⟩
end Cmp5
namespace Cmp3
def yN : MethodName := ⟨"java/lang/StringUTF16", "compress", "([CII)[B"⟩
abbrev yB : ByteArray := jdk_52_method_16_code
theorem d0 : decode yB 0 = .ok (.iload_n 2, 1) := by decide +kernel
theorem d1 : decode yB 1 = .ok (.newarray .byte, 2) := by decide +kernel
theorem d3 : decode yB 3 = .ok (.astore_n 3, 1) := by decide +kernel
theorem d4 : decode yB 4 = .ok (.aload_n 0, 1) := by decide +kernel
theorem d5 : decode yB 5 = .ok (.iload_n 1, 1) := by decide +kernel
theorem d6 : decode yB 6 = .ok (.aload_n 3, 1) := by decide +kernel
theorem d7 : decode yB 7 = .ok (.iconst 0, 1) := by decide +kernel
theorem d8 : decode yB 8 = .ok (.iload_n 2, 1) := by decide +kernel
theorem d9 : decode yB 9 = .ok (.invokestatic 115, 3) := by decide +kernel
theorem d12 : decode yB 12 = .ok (.istore 4, 2) := by decide +kernel
theorem d14 : decode yB 14 = .ok (.iload 4, 2) := by decide +kernel
theorem d16 : decode yB 16 = .ok (.iload_n 2, 1) := by decide +kernel
theorem d17 : decode yB 17 = .ok (.if_icmp (.eq) 40, 3) := by decide +kernel
theorem d57 : decode yB 57 = .ok (.aload_n 3, 1) := by decide +kernel
theorem d58 : decode yB 58 = .ok (.areturn, 1) := by decide +kernel
def site : List Cond := [.arrayClass .byte, Cmp5.tab] ++ staticW U16 115 Cmp5.yN
def tab : Cond := tabOf yN yB 6 (some (.array .byte)) site
def P (b : Addr) (A : Cell) (o len : Nat) (args : Array Value) (s : State) : Prop := args = #[.ref b, .int (Int32.ofNat o), .int (Int32.ofNat len)] ∧ Ch b A s ∧ o + len ≤ A.slots.size ∧ len ≤ 536870912 ∧ ∀ i, i < len → ¬ 255 < cv A (o + i)
def E (b : Addr) (A : Cell) (o len : Nat) (r : Option Value) (s u : State) : Prop := NewArr .byte "[B" len (fun j => .int (lo8 (cv A (o + j)))) r s u ∧ u.heap.size = s.heap.size + 1
/-- no char of the range above 255: a new byte[] of their low bytes -/
theorem law (l : Launch) (b : Addr) (A : Cell) (o len : Nat) : Law l yN 3 3 1 18 yB 6 (some (.array .byte)) site (P b A o len) (E b A o len) [] 1 len := by
  refine Law.of_walk (plainFor_of_name (by decide +kernel)) (by decide +kernel) (by decide +kernel) (by decide) (fun _ _ h => by rw [h.1]; rfl) (fun _ U U' hal hh h => ⟨h.1, h.2.1.mv hal hh, h.2.2⟩) (fun r U U' V V' h1 hal h2 h => ⟨NewArr.mv r U U' V V' h1 hal h2 h.1, by rw [h1, h2]; exact h.2⟩) ?_
  intro p e s m args below meth c s₁ X0 hexec hbytes hml hret hlk hnm hown hh0 W hP
  obtain ⟨rfl, hA, l1, l2, hp⟩ := hP
  have a31 := hA.1.2.2.2
  have c1 : Steps p.tables e below (s₁.setTop (entryFrame m #[.ref b, .int (Int32.ofNat o), .int (Int32.ofNat len)] 6)) (s₁.setTop (mkF m 0 #[.val (.ref b), .val (.int (Int32.ofNat o)), .val (.int (Int32.ofNat len)), .unset, .unset, .unset] [])) := entry rfl
  have c2 : Steps p.tables e below (s₁.setTop (entryFrame m #[.ref b, .int (Int32.ofNat o), .int (Int32.ofNat len)] 6)) (s₁.setTop (mkF m 1 #[.val (.ref b), .val (.int (Int32.ofNat o)), .val (.int (Int32.ofNat len)), .unset, .unset, .unset] [.int (Int32.ofNat len)])) := c1.trans (by
    refine XS.iloadN X0.here hexec rfl (hb hbytes d0) rfl ?_
    exact Steps.refl _)
  obtain ⟨T3, B3, X3, ba3, bs3, bv3, bh3, bf3, st3⟩ := X0.anew hexec (atype := .byte) (wk W (.arrayClass .byte)) rfl (by show len * 1 ≤ _; omega) (by omega) (g := (mkF m 1 #[.val (.ref b), .val (.int (Int32.ofNat o)), .val (.int (Int32.ofNat len)), .unset, .unset, .unset] [.int (Int32.ofNat len)])) rfl (hb hbytes d1) (rest := []) rfl (Nat.le_refl _) (by show 0 + len ≤ len; omega)
  rw [hh0] at ba3 st3
  have kp3 : XT.Kept s T3 := (XT.Kept.of_eq hh0).push bh3
  have hA3 := hA.keep X3.warmed.alike (kp3 _ _ hA.1.1)
  have hne : b ≠ s.heap.size := hA.1.ne
  have c4 : Steps p.tables e below (s₁.setTop (entryFrame m #[.ref b, .int (Int32.ofNat o), .int (Int32.ofNat len)] 6)) (T3.setTop (mkF m 3 #[.val (.ref b), .val (.int (Int32.ofNat o)), .val (.int (Int32.ofNat len)), .unset, .unset, .unset] [.ref s.heap.size])) := c2.trans (st3 _ (Steps.refl _))
  have c5 : Steps p.tables e below (s₁.setTop (entryFrame m #[.ref b, .int (Int32.ofNat o), .int (Int32.ofNat len)] 6)) (T3.setTop (mkF m 9 #[.val (.ref b), .val (.int (Int32.ofNat o)), .val (.int (Int32.ofNat len)), .val (.ref s.heap.size), .unset, .unset] [.int (Int32.ofNat len), .int 0, .ref s.heap.size, .int (Int32.ofNat o), .ref b])) := c4.trans (by
    refine XS.astoreN X3.here hexec rfl (hb hbytes d3) rfl rfl rfl ?_
    refine XS.aloadN X3.here hexec rfl (hb hbytes d4) rfl rfl ?_
    refine XS.iloadN X3.here hexec rfl (hb hbytes d5) rfl ?_
    refine XS.aloadN X3.here hexec rfl (hb hbytes d6) rfl rfl ?_
    refine iconstV X3.here hexec rfl 0 (hb hbytes d7) (by decide) ?_
    refine XS.iloadN X3.here hexec rfl (hb hbytes d8) rfl ?_
    exact Steps.refl _)
  obtain ⟨v6, T6, X6, E6, g6⟩ := X3.callS hexec (Cmp5.law l b A s.heap.size B3 o 0 len) hown (wks W (staticW U16 115 Cmp5.yN)) (wk W Cmp5.tab) (W := 0) (Nat.le_of_ble_eq_true rfl) (Nat.le_of_ble_eq_true rfl) (Nat.le_refl _) (by show 0 + len + 0 ≤ len; omega) (g := (mkF m 9 #[.val (.ref b), .val (.int (Int32.ofNat o)), .val (.int (Int32.ofNat len)), .val (.ref s.heap.size), .unset, .unset] [.int (Int32.ofNat len), .int (Int32.ofNat 0), .ref s.heap.size, .int (Int32.ofNat o), .ref b])) rfl (by rw [hml]; rfl) c5 (argsL := [.ref b, .int (Int32.ofNat o), .ref s.heap.size, .int (Int32.ofNat 0), .int (Int32.ofNat len)]) (rest := []) rfl rfl (by show 2 * 0 + 0 ≤ _; decide) (hb hbytes d9) (⟨rfl, hA3, ba3, hne, l1, by rw [bs3]; simp, hp⟩)
  obtain ⟨rfl, B6, p6, f6⟩ := E6
  have c7 : Steps p.tables e below (s₁.setTop (entryFrame m #[.ref b, .int (Int32.ofNat o), .int (Int32.ofNat len)] 6)) (T6.setTop (mkF m 12 #[.val (.ref b), .val (.int (Int32.ofNat o)), .val (.int (Int32.ofNat len)), .val (.ref s.heap.size), .unset, .unset] [.int (Int32.ofNat len)])) := g6
  have c8 : Steps p.tables e below (s₁.setTop (entryFrame m #[.ref b, .int (Int32.ofNat o), .int (Int32.ofNat len)] 6)) (T6.setTop (mkF m 58 #[.val (.ref b), .val (.int (Int32.ofNat o)), .val (.int (Int32.ofNat len)), .val (.ref s.heap.size), .val (.int (Int32.ofNat len)), .unset] [.ref s.heap.size])) := c7.trans (by
    refine XS.istore X6.here hexec rfl (hb hbytes d12) rfl rfl ?_
    refine XS.iload X6.here hexec rfl (hb hbytes d14) rfl ?_
    refine XS.iloadN X6.here hexec rfl (hb hbytes d16) rfl ?_
    refine XS.icmpYes X6.here hexec rfl (pc0 := 17) rfl (hb hbytes d17) rfl (ii_eq_t rfl) (by decide) rfl ?_
    refine XS.aloadN X6.here hexec rfl (hb hbytes d57) rfl rfl ?_
    exact Steps.refl _)
  have X8 := X6.wide (L' := []) (cells' := 1) (slots' := len) (fun x hx hlt => by
    simp only [List.nil_append, copyLocs, List.mem_map, List.mem_range] at hx
    obtain ⟨i, -, rfl⟩ := hx
    exact absurd hlt (Nat.lt_irrefl _)) (Nat.le_refl _) (by omega)
  exact ⟨T6, some (.ref s.heap.size), _, _, _, X8, rfl, rfl, rfl, (fun h => by cases h), ⟨⟨rfl, B6, ba3.like (X3.warmed.alike.symm.trans X6.warmed.alike) p6.1 f6.1 f6.2.1 f6.2.2.1, f6.2.1.trans bv3, by rw [X6.warmed.alike.findClass, f6.1]; exact bf3, by rw [f6.2.2.1, bs3]; simp, fun j hj => by rw [f6.2.2.2 j, if_pos (by omega)]; rfl, kp3.put p6 (Nat.le_refl _)⟩, by rw [p6.2.2, bh3, hh0]; simp⟩, fun fs hl => c8.trans (X8.areturnOut hexec rfl hret rfl (hb hbytes d58) hl)⟩
end Cmp3
namespace CodL
def yN : MethodName := ⟨"java/lang/StringUTF16", "coderFromArrayLen", "([BI)B"⟩
abbrev yB : ByteArray := jdk_52_method_15_code
theorem d0 : decode yB 0 = .ok (.iload_n 1, 1) := by decide +kernel
theorem d1 : decode yB 1 = .ok (.aload_n 0, 1) := by decide +kernel
theorem d2 : decode yB 2 = .ok (.arraylength, 1) := by decide +kernel
theorem d3 : decode yB 3 = .ok (.isub, 1) := by decide +kernel
theorem d4 : decode yB 4 = .ok (.bipush 31, 2) := by decide +kernel
theorem d6 : decode yB 6 = .ok (.iushr, 1) := by decide +kernel
theorem d7 : decode yB 7 = .ok (.i2b, 1) := by decide +kernel
theorem d8 : decode yB 8 = .ok (.ireturn, 1) := by decide +kernel
def site : List Cond := []
def tab : Cond := tabOf yN yB 2 (some .byte) site
def P (d : Addr) (B : Cell) (args : Array Value) (s : State) : Prop := args = #[.ref d, .int (Int32.ofNat B.slots.size)] ∧ Arr .byte d B s
def E (r : Option Value) (s u : State) : Prop := XT.PureE (some (.int 0)) r s u
/-- an array as long as the number of chars: LATIN1 -/
theorem law (l : Launch) (d : Addr) (B : Cell) : Law l yN 2 2 0 0 yB 2 (some .byte) site (P d B) E [] 0 0 := by
  refine Law.of_walk (plainFor_of_name (by decide +kernel)) (by decide +kernel) (by decide +kernel) (by decide) (fun _ _ h => by rw [h.1]; rfl) (fun _ U U' hal hh h => ⟨h.1, h.2.mv hal hh⟩) (fun r U U' V V' h1 hal h2 h => XT.PureE.mv r U U' V V' h1 hal h2 h) ?_
  intro p e s m args below meth c s₁ X0 hexec hbytes hml hret hlk hnm hown hh0 W hP
  obtain ⟨rfl, hB⟩ := hP
  have hB0 := hB.mv X0.warmed.alike hh0
  have c1 : Steps p.tables e below (s₁.setTop (entryFrame m #[.ref d, .int (Int32.ofNat B.slots.size)] 2)) (s₁.setTop (mkF m 0 #[.val (.ref d), .val (.int (Int32.ofNat B.slots.size))] [])) := entry rfl
  have c2 : Steps p.tables e below (s₁.setTop (entryFrame m #[.ref d, .int (Int32.ofNat B.slots.size)] 2)) (s₁.setTop (mkF m 2 #[.val (.ref d), .val (.int (Int32.ofNat B.slots.size))] [.ref d, .int (Int32.ofNat B.slots.size)])) := c1.trans (by
    refine XS.iloadN X0.here hexec rfl (hb hbytes d0) rfl ?_
    refine XS.aloadN X0.here hexec rfl (hb hbytes d1) rfl rfl ?_
    exact Steps.refl _)
  have c3 : Steps p.tables e below (s₁.setTop (entryFrame m #[.ref d, .int (Int32.ofNat B.slots.size)] 2)) (s₁.setTop (mkF m 8 #[.val (.ref d), .val (.int (Int32.ofNat B.slots.size))] [.int (lo8 (ushr (Int32.ofNat B.slots.size - Int32.ofNat B.slots.size) 31))])) := c2.trans (by
    refine X0.alen hexec hB0 rfl rfl (hb hbytes d2) ?_
    refine XS.isub X0.here hexec rfl (hb hbytes d3) rfl ?_
    refine bipushV X0.here hexec rfl 31 (hb hbytes d4) (by decide) ?_
    refine iushr X0.here hexec rfl (hb hbytes d6) rfl ?_
    refine i2b X0.here hexec rfl (hb hbytes d7) rfl ?_
    exact Steps.refl _)
  have e0 : lo8 (ushr (Int32.ofNat B.slots.size - Int32.ofNat B.slots.size) 31) = 0 := by rw [Int32.sub_self]; decide
  rw [e0] at c3
  exact ⟨s₁, some (.int 0), _, _, _, X0, rfl, rfl, rfl, (fun h => by cases h), ⟨rfl, hh0⟩, fun fs hl => c3.trans (X0.ireturnOut hexec hret rfl (Or.inr (Or.inr (Or.inl rfl))) (hb hbytes d8) hl)⟩
end CodL
/-- the String at a is Latin-1 over a new byte[] (the heap's one new cell): the low bytes of the len chars of A from o on; every cell but a is kept -/
def Got (a : Addr) (D : Cell) (fV fC : Field) (A : Cell) (o len : Nat) (r : Option Value) (s u : State) : Prop := r = none ∧ ∃ D' V : Cell, Blank "java/lang/String" a D' u ∧ Same D D' [fV.slot, fC.slot] ∧ D'.slots[fV.slot]? = some (.ref s.heap.size) ∧ D'.slots[fC.slot]? = some (.int 0) ∧ Arr .byte s.heap.size V u ∧ V.vm = .none ∧ u.vm.findClass "[B" = some V.cls ∧ V.slots.size = len ∧ (∀ j, j < len → V.slots[j]? = some (.int (lo8 (cv A (o + j))))) ∧ (∀ (y : Addr) (c : Cell), y ≠ a → s.heap[y]? = some c → u.heap[y]? = some c) ∧ u.heap.size = s.heap.size + 1
theorem Got.mv {a : Addr} {D A : Cell} {fV fC : Field} {o len : Nat} : ∀ r (U U' V V' : State), U'.heap = U.heap → V.vm.Alike V'.vm → V'.heap = V.heap → Got a D fV fC A o len r U V → Got a D fV fC A o len r U' V' :=
  fun r U U' V V' h1 hal h2 ⟨e0, D', X, a1, a2, a3, a4, a5, a6, a7, a8, a9, a10, a11⟩ => ⟨e0, D', X, a1.mv hal h2, a2, by rw [h1]; exact a3, a4, by rw [h1]; exact a5.mv hal h2, a6, by rw [hal.findClass]; exact a7, a8, a9, by rw [h1, h2]; exact a10, by rw [h1, h2]; exact a11⟩
namespace New4
def yN : MethodName := ⟨"java/lang/String", "<init>", "([CIILjava/lang/Void;)V"⟩
abbrev yB : ByteArray := jdk_42_method_149_code
theorem d0 : decode yB 0 = .ok (.aload_n 0, 1) := by decide +kernel
theorem d1 : decode yB 1 = .ok (.invokespecial 1, 3) := by decide +kernel
theorem d4 : decode yB 4 = .ok (.iload_n 3, 1) := by decide +kernel
theorem d5 : decode yB 5 = .ok (.ifCond (.ne) 22, 3) := by decide +kernel
theorem d27 : decode yB 27 = .ok (.getstatic 38, 3) := by decide +kernel
theorem d30 : decode yB 30 = .ok (.ifCond (.eq) 28, 3) := by decide +kernel
theorem d33 : decode yB 33 = .ok (.aload_n 1, 1) := by decide +kernel
theorem d34 : decode yB 34 = .ok (.iload_n 2, 1) := by decide +kernel
theorem d35 : decode yB 35 = .ok (.iload_n 3, 1) := by decide +kernel
theorem d36 : decode yB 36 = .ok (.invokestatic 177, 3) := by decide +kernel
theorem d39 : decode yB 39 = .ok (.astore 5, 2) := by decide +kernel
theorem d41 : decode yB 41 = .ok (.aload_n 0, 1) := by decide +kernel
theorem d42 : decode yB 42 = .ok (.aload 5, 2) := by decide +kernel
theorem d44 : decode yB 44 = .ok (.iload_n 3, 1) := by decide +kernel
theorem d45 : decode yB 45 = .ok (.invokestatic 47, 3) := by decide +kernel
theorem d48 : decode yB 48 = .ok (.putfield 15, 3) := by decide +kernel
theorem d51 : decode yB 51 = .ok (.aload_n 0, 1) := by decide +kernel
theorem d52 : decode yB 52 = .ok (.aload 5, 2) := by decide +kernel
theorem d54 : decode yB 54 = .ok (.putfield 9, 3) := by decide +kernel
theorem d57 : decode yB 57 = .ok (.return_, 1) := by decide +kernel
def site : List Cond := [.fieldLink "java/lang/String" 38 "java/lang/String" "COMPACT_STRINGS" "Z", Cmp3.tab, CodL.tab, .laysFinal "java/lang/String" "java/lang/String" "value" "[B", .fieldLink "java/lang/String" 9 "java/lang/String" "value" "[B", .laysFinal "java/lang/String" "java/lang/String" "coder" "B", .fieldLink "java/lang/String" 15 "java/lang/String" "coder" "B"] ++ objW "java/lang/String" 1 ++ staticW "java/lang/String" 177 Cmp3.yN ++ staticW "java/lang/String" 47 CodL.yN
def tab : Cond := tabOf yN yB 6 none site
def P (a : Addr) (D : Cell) (fV fC : Field) (b : Addr) (A : Cell) (z : Int32) (o len : Nat) (args : Array Value) (s : State) : Prop := args = #[.ref a, .ref b, .int (Int32.ofNat o), .int (Int32.ofNat len), .null] ∧ Blank "java/lang/String" a D s ∧ Found "java/lang/String" "value" "[B" fV s ∧ Found "java/lang/String" "coder" "B" fC s ∧ Ch b A s ∧ StaticIs s "java/lang/String" "COMPACT_STRINGS" "Z" (.int z) ∧ ¬ z = 0 ∧ 0 < len ∧ o + len ≤ A.slots.size ∧ len ≤ 536870912 ∧ ∀ i, i < len → ¬ 255 < cv A (o + i)
def E (a : Addr) (D : Cell) (fV fC : Field) (A : Cell) (o len : Nat) (r : Option Value) (s u : State) : Prop := Got a D fV fC A o len r s u
/-- len > 0, no char of the range above 255: a Latin-1 String of their low bytes -/
theorem law (l : Launch) (a : Addr) (D : Cell) (fV fC : Field) (b : Addr) (A : Cell) (z : Int32) (o len : Nat) : Law l yN 5 4 2 35 yB 6 none site (P a D fV fC b A z o len) (E a D fV fC A o len) [⟨a, fC.slot⟩, ⟨a, fV.slot⟩] 1 len := by
  refine Law.of_walk (plainFor_of_name (by decide +kernel)) (by decide +kernel) (by decide +kernel) (by decide) (fun _ _ h => by rw [h.1]; rfl) (fun _ U U' hal hh h => ⟨h.1, h.2.1.mv hal hh, h.2.2.1.al hal, h.2.2.2.1.al hal, h.2.2.2.2.1.mv hal hh, h.2.2.2.2.2.1.there hal hh, h.2.2.2.2.2.2⟩) (fun r U U' V V' h1 hal h2 h => Got.mv r U U' V V' h1 hal h2 h) ?_
  intro p e s m args below meth c s₁ X0 hexec hbytes hml hret hlk hnm hown hh0 W hP
  obtain ⟨rfl, hB, f1, f2, hA, s1, hz, l0, l1, l2, hp⟩ := hP
  have a31 := hA.1.2.2.2
  have c1 : Steps p.tables e below (s₁.setTop (entryFrame m #[.ref a, .ref b, .int (Int32.ofNat o), .int (Int32.ofNat len), .null] 6)) (s₁.setTop (mkF m 0 #[.val (.ref a), .val (.ref b), .val (.int (Int32.ofNat o)), .val (.int (Int32.ofNat len)), .val .null, .unset] [])) := entry rfl
  have c2 : Steps p.tables e below (s₁.setTop (entryFrame m #[.ref a, .ref b, .int (Int32.ofNat o), .int (Int32.ofNat len), .null] 6)) (s₁.setTop (mkF m 1 #[.val (.ref a), .val (.ref b), .val (.int (Int32.ofNat o)), .val (.int (Int32.ofNat len)), .val .null, .unset] [.ref a])) := c1.trans (by
    refine XS.aloadN X0.here hexec rfl (hb hbytes d0) rfl rfl ?_
    exact Steps.refl _)
  obtain ⟨T3, X3, q3, st3⟩ := X0.oinit hexec hown (wks W (objW "java/lang/String" 1)) (g := (mkF m 1 #[.val (.ref a), .val (.ref b), .val (.int (Int32.ofNat o)), .val (.int (Int32.ofNat len)), .val .null, .unset] [.ref a])) rfl (by rw [hml]; rfl) (rest := []) rfl (hb hbytes d1) (W := 0) (by show 2 * 0 + 0 ≤ _; decide) (Nat.le_of_ble_eq_true rfl) (Nat.le_of_ble_eq_true rfl)
  have hh3 := q3.trans hh0
  have c4 : Steps p.tables e below (s₁.setTop (entryFrame m #[.ref a, .ref b, .int (Int32.ofNat o), .int (Int32.ofNat len), .null] 6)) (T3.setTop (mkF m 27 #[.val (.ref a), .val (.ref b), .val (.int (Int32.ofNat o)), .val (.int (Int32.ofNat len)), .val .null, .unset] [])) := (c2.trans (st3 _ (Steps.refl _))).trans (by
    refine XS.iloadN X3.here hexec rfl (hb hbytes d4) rfl ?_
    refine XS.ifYes X3.here hexec rfl (pc0 := 5) rfl (hb hbytes d5) rfl (i0_ne_t (nz32 (by omega) l0)) (by decide) rfl ?_
    exact Steps.refl _)
  obtain ⟨T5, X5, q5, st5⟩ := X3.sget hexec hown (wk W (.fieldLink "java/lang/String" 38 "java/lang/String" "COMPACT_STRINGS" "Z")) s1 (fun _ _ h => by rw [hh3]; exact h) (g := (mkF m 27 #[.val (.ref a), .val (.ref b), .val (.int (Int32.ofNat o)), .val (.int (Int32.ofNat len)), .val .null, .unset] [])) rfl (hb hbytes d27)
  have hh5 := q5.trans hh3
  have c6 : Steps p.tables e below (s₁.setTop (entryFrame m #[.ref a, .ref b, .int (Int32.ofNat o), .int (Int32.ofNat len), .null] 6)) (T5.setTop (mkF m 30 #[.val (.ref a), .val (.ref b), .val (.int (Int32.ofNat o)), .val (.int (Int32.ofNat len)), .val .null, .unset] [.int z])) := c4.trans (st5 _ (Steps.refl _))
  have c7 : Steps p.tables e below (s₁.setTop (entryFrame m #[.ref a, .ref b, .int (Int32.ofNat o), .int (Int32.ofNat len), .null] 6)) (T5.setTop (mkF m 36 #[.val (.ref a), .val (.ref b), .val (.int (Int32.ofNat o)), .val (.int (Int32.ofNat len)), .val .null, .unset] [.int (Int32.ofNat len), .int (Int32.ofNat o), .ref b])) := c6.trans (by
    refine XS.ifNo X5.here hexec rfl (hb hbytes d30) rfl (i0_eq_f hz) ?_
    refine XS.aloadN X5.here hexec rfl (hb hbytes d33) rfl rfl ?_
    refine XS.iloadN X5.here hexec rfl (hb hbytes d34) rfl ?_
    refine XS.iloadN X5.here hexec rfl (hb hbytes d35) rfl ?_
    exact Steps.refl _)
  obtain ⟨v8, T8, X8, E8, g8⟩ := X5.callS hexec (Cmp3.law l b A o len) hown (wks W (staticW "java/lang/String" 177 Cmp3.yN)) (wk W Cmp3.tab) (W := 0) (Nat.le_of_ble_eq_true rfl) (Nat.le_of_ble_eq_true rfl) (Nat.le_refl _) (by show 0 + len ≤ len; omega) (g := (mkF m 36 #[.val (.ref a), .val (.ref b), .val (.int (Int32.ofNat o)), .val (.int (Int32.ofNat len)), .val .null, .unset] [.int (Int32.ofNat len), .int (Int32.ofNat o), .ref b])) rfl (by rw [hml]; rfl) c7 (argsL := [.ref b, .int (Int32.ofNat o), .int (Int32.ofNat len)]) (rest := []) rfl rfl (by show 2 * 0 + 0 ≤ _; decide) (hb hbytes d36) (⟨rfl, hA.mv X5.warmed.alike hh5, l1, l2, hp⟩)
  obtain ⟨e8, z8⟩ := E8
  obtain ⟨rfl, N, n1, n2, n3, n4, n5, n6⟩ := NewArr.mv _ T5 s _ _ hh5.symm (Vm.Alike.refl _) rfl e8
  rw [hh5] at z8
  have hB1 := hB.keep X8.warmed.alike (n6 _ _ hB.1)
  have hne : s.heap.size ≠ a := (Nat.ne_of_lt (Array.getElem?_eq_some_iff.mp hB.1).1).symm
  have c9 : Steps p.tables e below (s₁.setTop (entryFrame m #[.ref a, .ref b, .int (Int32.ofNat o), .int (Int32.ofNat len), .null] 6)) (T8.setTop (mkF m 39 #[.val (.ref a), .val (.ref b), .val (.int (Int32.ofNat o)), .val (.int (Int32.ofNat len)), .val .null, .unset] [.ref s.heap.size])) := g8
  have c10 : Steps p.tables e below (s₁.setTop (entryFrame m #[.ref a, .ref b, .int (Int32.ofNat o), .int (Int32.ofNat len), .null] 6)) (T8.setTop (mkF m 45 #[.val (.ref a), .val (.ref b), .val (.int (Int32.ofNat o)), .val (.int (Int32.ofNat len)), .val .null, .val (.ref s.heap.size)] [.int (Int32.ofNat N.slots.size), .ref s.heap.size, .ref a])) := by
    have hc : Steps p.tables e below (s₁.setTop (entryFrame m #[.ref a, .ref b, .int (Int32.ofNat o), .int (Int32.ofNat len), .null] 6)) (T8.setTop (mkF m 45 #[.val (.ref a), .val (.ref b), .val (.int (Int32.ofNat o)), .val (.int (Int32.ofNat len)), .val .null, .val (.ref s.heap.size)] [.int (Int32.ofNat len), .ref s.heap.size, .ref a])) := c9.trans (by
      refine XS.astore X8.here hexec rfl (hb hbytes d39) rfl rfl rfl ?_
      refine XS.aloadN X8.here hexec rfl (hb hbytes d41) rfl rfl ?_
      refine XS.aload X8.here hexec rfl (hb hbytes d42) rfl rfl ?_
      refine XS.iloadN X8.here hexec rfl (hb hbytes d44) rfl ?_
      exact Steps.refl _)
    rw [n4]; exact hc
  obtain ⟨v11, T11, X11, E11, g11⟩ := X8.callS hexec (CodL.law l s.heap.size N) hown (wks W (staticW "java/lang/String" 47 CodL.yN)) (wk W CodL.tab) (W := 1) (Nat.le_of_ble_eq_true rfl) (Nat.le_of_ble_eq_true rfl) (Nat.le_refl _) (by show 0 + len + 0 ≤ len; omega) (g := (mkF m 45 #[.val (.ref a), .val (.ref b), .val (.int (Int32.ofNat o)), .val (.int (Int32.ofNat len)), .val .null, .val (.ref s.heap.size)] [.int (Int32.ofNat N.slots.size), .ref s.heap.size, .ref a])) rfl (by rw [hml]; rfl) c10 (argsL := [.ref s.heap.size, .int (Int32.ofNat N.slots.size)]) (rest := [.ref a]) rfl rfl (by show 2 * 0 + (1 + 0) ≤ _; decide) (hb hbytes d45) (⟨rfl, n1⟩)
  obtain ⟨rfl, q11⟩ := E11
  have hB11 := hB1.mv (X8.warmed.alike.symm.trans X11.warmed.alike) q11
  have c12 : Steps p.tables e below (s₁.setTop (entryFrame m #[.ref a, .ref b, .int (Int32.ofNat o), .int (Int32.ofNat len), .null] 6)) (T11.setTop (mkF m 48 #[.val (.ref a), .val (.ref b), .val (.int (Int32.ofNat o)), .val (.int (Int32.ofNat len)), .val .null, .val (.ref s.heap.size)] [.int 0, .ref a])) := g11
  obtain ⟨T13, X13, p13, bl13, sl13, st13⟩ := X11.finit hexec hown (wk W (.fieldLink "java/lang/String" 15 "java/lang/String" "coder" "B")) (Or.inr ⟨_, (wk W (.laysFinal "java/lang/String" "java/lang/String" "coder" "B"))⟩) (Or.inl ⟨rfl, hnm⟩) f2 (Or.inl rfl) hB11 (t := .byte) (by decide +kernel) rfl (g := (mkF m 48 #[.val (.ref a), .val (.ref b), .val (.int (Int32.ofNat o)), .val (.int (Int32.ofNat len)), .val .null, .val (.ref s.heap.size)] [.int 0, .ref a])) rfl (rest := []) rfl (hb hbytes d48)
  have c14 : Steps p.tables e below (s₁.setTop (entryFrame m #[.ref a, .ref b, .int (Int32.ofNat o), .int (Int32.ofNat len), .null] 6)) (T13.setTop (mkF m 54 #[.val (.ref a), .val (.ref b), .val (.int (Int32.ofNat o)), .val (.int (Int32.ofNat len)), .val .null, .val (.ref s.heap.size)] [.ref s.heap.size, .ref a])) := (c12.trans (st13 _ (Steps.refl _))).trans (by
    refine XS.aloadN X13.here hexec rfl (hb hbytes d51) rfl rfl ?_
    refine XS.aload X13.here hexec rfl (hb hbytes d52) rfl rfl ?_
    exact Steps.refl _)
  obtain ⟨T15, X15, p15, bl15, sl15, st15⟩ := X13.finit hexec hown (wk W (.fieldLink "java/lang/String" 9 "java/lang/String" "value" "[B")) (Or.inr ⟨_, (wk W (.laysFinal "java/lang/String" "java/lang/String" "value" "[B"))⟩) (Or.inl ⟨rfl, hnm⟩) f1 (Or.inl rfl) bl13 (t := (.array .byte)) (by decide +kernel) rfl (g := (mkF m 54 #[.val (.ref a), .val (.ref b), .val (.int (Int32.ofNat o)), .val (.int (Int32.ofNat len)), .val .null, .val (.ref s.heap.size)] [.ref s.heap.size, .ref a])) rfl (rest := []) rfl (hb hbytes d54)
  have c16 : Steps p.tables e below (s₁.setTop (entryFrame m #[.ref a, .ref b, .int (Int32.ofNat o), .int (Int32.ofNat len), .null] 6)) (T15.setTop (mkF m 57 #[.val (.ref a), .val (.ref b), .val (.int (Int32.ofNat o)), .val (.int (Int32.ofNat len)), .val .null, .val (.ref s.heap.size)] [])) := c14.trans (st15 _ (Steps.refl _))
  have ap := apart (Or.inr ⟨_, (wk W (.laysFinal "java/lang/String" "java/lang/String" "value" "[B"))⟩) (Or.inr ⟨_, (wk W (.laysFinal "java/lang/String" "java/lang/String" "coder" "B"))⟩) f1 f2 (t₁ := .array .byte) (t₂ := .byte) (by decide +kernel) (by decide +kernel) (by decide)
  have al := X8.warmed.alike.symm.trans X15.warmed.alike
  have n7 : T11.heap[s.heap.size]? = some N := by rw [q11]; exact n1.1
  exact ⟨T15, none, _, _, _, X15, by simp, rfl, by omega, (fun _ => rfl), ⟨rfl, _, N, bl15, ((Same.refl D _).set _ (by simp)).set _ (by simp), sl15, (Cell.slots_setSlot_ne _ ap).trans sl13, n1.keep al (p15.other hne (p13.other hne n7)), n2, by rw [al.findClass]; exact n3, n4, n5, fun y c h1 h2 => p15.other h1 (p13.other h1 (by rw [q11]; exact n6 y c h2)), by rw [p15.2.2, p13.2.2, q11]; exact z8⟩, fun fs hl => c16.trans (X15.returnOut hexec hret (hb hbytes d57) hl)⟩
end New4
namespace New1
def yN : MethodName := ⟨"java/lang/String", "<init>", "([C)V"⟩
abbrev yB : ByteArray := jdk_42_method_3_code
theorem d0 : decode yB 0 = .ok (.aload_n 0, 1) := by decide +kernel
theorem d1 : decode yB 1 = .ok (.aload_n 1, 1) := by decide +kernel
theorem d2 : decode yB 2 = .ok (.iconst 0, 1) := by decide +kernel
theorem d3 : decode yB 3 = .ok (.aload_n 1, 1) := by decide +kernel
theorem d4 : decode yB 4 = .ok (.arraylength, 1) := by decide +kernel
theorem d5 : decode yB 5 = .ok (.aconst_null, 1) := by decide +kernel
theorem d6 : decode yB 6 = .ok (.invokespecial 27, 3) := by decide +kernel
theorem d9 : decode yB 9 = .ok (.return_, 1) := by decide +kernel
def site : List Cond := [New4.tab] ++ initW "java/lang/String" 27 New4.yN
def tab : Cond := tabOf yN yB 2 none site
def P (a : Addr) (D : Cell) (fV fC : Field) (b : Addr) (A : Cell) (z : Int32) (args : Array Value) (s : State) : Prop := args = #[.ref a, .ref b] ∧ Blank "java/lang/String" a D s ∧ Found "java/lang/String" "value" "[B" fV s ∧ Found "java/lang/String" "coder" "B" fC s ∧ Ch b A s ∧ StaticIs s "java/lang/String" "COMPACT_STRINGS" "Z" (.int z) ∧ ¬ z = 0 ∧ 0 < A.slots.size ∧ A.slots.size ≤ 536870912 ∧ ∀ i, i < A.slots.size → ¬ 255 < cv A i
def E (a : Addr) (D : Cell) (fV fC : Field) (A : Cell) (r : Option Value) (s u : State) : Prop := Got a D fV fC A 0 A.slots.size r s u
/-- new String(chars), not empty, no char above 255: a Latin-1 String of their low bytes -/
theorem law (l : Launch) (a : Addr) (D : Cell) (fV fC : Field) (b : Addr) (A : Cell) (z : Int32) : Law l yN 2 1 3 52 yB 2 none site (P a D fV fC b A z) (E a D fV fC A) [⟨a, fC.slot⟩, ⟨a, fV.slot⟩] 1 A.slots.size := by
  refine Law.of_walk (plainFor_of_name (by decide +kernel)) (by decide +kernel) (by decide +kernel) (by decide) (fun _ _ h => by rw [h.1]; rfl) (fun _ U U' hal hh h => ⟨h.1, h.2.1.mv hal hh, h.2.2.1.al hal, h.2.2.2.1.al hal, h.2.2.2.2.1.mv hal hh, h.2.2.2.2.2.1.there hal hh, h.2.2.2.2.2.2⟩) (fun r U U' V V' h1 hal h2 h => Got.mv r U U' V V' h1 hal h2 h) ?_
  intro p e s m args below meth c s₁ X0 hexec hbytes hml hret hlk hnm hown hh0 W hP
  obtain ⟨rfl, hB, f1, f2, hA, s1, hz, l0, l2, hp⟩ := hP
  have c1 : Steps p.tables e below (s₁.setTop (entryFrame m #[.ref a, .ref b] 2)) (s₁.setTop (mkF m 0 #[.val (.ref a), .val (.ref b)] [])) := entry rfl
  have c2 : Steps p.tables e below (s₁.setTop (entryFrame m #[.ref a, .ref b] 2)) (s₁.setTop (mkF m 6 #[.val (.ref a), .val (.ref b)] [.null, .int (Int32.ofNat A.slots.size), .int 0, .ref b, .ref a])) := c1.trans (by
    refine XS.aloadN X0.here hexec rfl (hb hbytes d0) rfl rfl ?_
    refine XS.aloadN X0.here hexec rfl (hb hbytes d1) rfl rfl ?_
    refine iconstV X0.here hexec rfl 0 (hb hbytes d2) (by decide) ?_
    refine XS.aloadN X0.here hexec rfl (hb hbytes d3) rfl rfl ?_
    refine X0.alen hexec (hA.1.mv X0.warmed.alike hh0) rfl rfl (hb hbytes d4) ?_
    refine XS.aconstNull X0.here hexec rfl (hb hbytes d5) ?_
    exact Steps.refl _)
  obtain ⟨v3, T3, X3, E3, g3⟩ := X0.callN hexec (New4.law l a D fV fC b A z 0 A.slots.size) rfl hown (wks W (initW "java/lang/String" 27 New4.yN)) (W New4.tab (by simp only [site, List.mem_cons, List.mem_append, true_or, or_true])) (W := 0) (Nat.le_of_ble_eq_true rfl) (Nat.le_of_ble_eq_true rfl) (Nat.le_refl _) (by show 0 + A.slots.size ≤ A.slots.size; omega) (g := (mkF m 6 #[.val (.ref a), .val (.ref b)] [.null, .int (Int32.ofNat A.slots.size), .int (Int32.ofNat 0), .ref b, .ref a])) rfl (by rw [hml]; rfl) c2 (argsL := [.ref b, .int (Int32.ofNat 0), .int (Int32.ofNat A.slots.size), .null]) (rest := []) rfl rfl (by show 2 * 0 + 0 ≤ _; decide) (hb hbytes d6) (⟨rfl, hB.mv X0.warmed.alike hh0, f1.al X0.warmed.alike, f2.al X0.warmed.alike, hA.mv X0.warmed.alike hh0, s1.there X0.warmed.alike hh0, hz, l0, by omega, l2, fun i hi => by rw [Nat.zero_add]; exact hp i hi⟩)
  have e0 := Got.mv _ s₁ s _ _ hh0.symm (Vm.Alike.refl _) rfl E3
  obtain rfl := e0.1
  have c4 : Steps p.tables e below (s₁.setTop (entryFrame m #[.ref a, .ref b] 2)) (T3.setTop (mkF m 9 #[.val (.ref a), .val (.ref b)] [])) := g3
  exact ⟨T3, none, _, _, _, X3, by simp, rfl, by omega, (fun _ => rfl), e0, fun fs hl => c4.trans (X3.returnOut hexec hret (hb hbytes d9) hl)⟩
theorem pays {l : Launch} {R : Room} {p : Program} {e : Env} {below : List Frame} {s : State} {sargs : Array Value} {len W : Nat} (a : Addr) (D : Cell) (fV fC : Field) (b : Addr) (A : Cell) (z : Int32) (htab : tab.before sargs s = true) (hfr : 4 ≤ R.frames) (hlo : W + 65 ≤ R.locals) :
    Back l R p e below s sargs yN len W (fun A₁ a₁ => A₁.cells + 1 ≤ R.cells ∧ A₁.slots + A.slots.size ≤ R.slots ∧ P a D fV fC b A z a₁ A₁.U) (fun A₁ _ v₁ B₁ => E a D fV fC A v₁ A₁.U B₁.U ∧ B₁.locs = A₁.locs ++ [⟨a, fC.slot⟩, ⟨a, fV.slot⟩] ∧ B₁.cells = A₁.cells + 1 ∧ B₁.slots = A₁.slots + A.slots.size) :=
  (law l a D fV fC b A z).pays htab hfr (by omega)
end New1
end StrChars
namespace StrChars.Road
open Jvm Sem ClassFile Op Lib Jvm.Stand Jvm.Free Jvm.Free.XT
open Jvm.Lib.Cold (StaticIs)
abbrev ST : String := "java/lang/String"
/-- every table word that New1's law asks, flat -/
abbrev words : List Jvm.Cond := [.code New1.yN New1.yB 2 none, .initialized ST, .methodLink ST 27 New4.yN, .instanceMethod New4.yN,
  .code New4.yN New4.yB 6 none, .fieldLink ST 38 ST "COMPACT_STRINGS" "Z", .laysFinal ST ST "value" "[B", .fieldLink ST 9 ST "value" "[B", .laysFinal ST ST "coder" "B", .fieldLink ST 15 ST "coder" "B",
  .methodLink ST 1 Lib.objectInit, .instanceMethod Lib.objectInit, .code Lib.objectInit ⟨#[0xb1]⟩ 1 none, .methodLink ST 177 Cmp3.yN, .static Cmp3.yN, .methodLink ST 47 CodL.yN, .static CodL.yN,
  .code Cmp3.yN Cmp3.yB 6 (some (.array .byte)), .initialized U16, .arrayClass .byte, .methodLink U16 115 Cmp5.yN, .static Cmp5.yN, .code Cmp5.yN Cmp5.yB 7 (some .int), .code CodL.yN CodL.yB 2 (some .byte)]
theorem tab_of {a : Array Value} {s : State} (h : ∀ w ∈ words, w.before a s = true) : New1.tab.before a s = true := by
  have h5 : Cmp5.tab.before a s = true := unparts (wk h (.code Cmp5.yN Cmp5.yB 7 (some .int))) (wks h (.initialized Cmp5.yN.cls :: Cmp5.site))
  have hc : CodL.tab.before a s = true := unparts (wk h (.code CodL.yN CodL.yB 2 (some .byte))) (wks h (.initialized CodL.yN.cls :: CodL.site))
  have q5 : ∀ w ∈ Cmp5.tab :: words, w.before a s = true := fun w hw => (List.mem_cons.mp hw).elim (fun e => e ▸ h5) (h w)
  have h3 : Cmp3.tab.before a s = true := unparts (wk q5 (.code Cmp3.yN Cmp3.yB 6 (some (.array .byte)))) (wks q5 (.initialized Cmp3.yN.cls :: Cmp3.site))
  have q3 : ∀ w ∈ Cmp3.tab :: CodL.tab :: words, w.before a s = true := fun w hw => (List.mem_cons.mp hw).elim (fun e => e ▸ h3) fun hw => (List.mem_cons.mp hw).elim (fun e => e ▸ hc) (h w)
  have h4 : New4.tab.before a s = true := unparts (wk q3 (.code New4.yN New4.yB 6 none)) (wks q3 (.initialized New4.yN.cls :: New4.site))
  have q4 : ∀ w ∈ New4.tab :: words, w.before a s = true := fun w hw => (List.mem_cons.mp hw).elim (fun e => e ▸ h4) (h w)
  exact unparts (wk q4 (.code New1.yN New1.yB 2 none)) (wks q4 (.initialized New1.yN.cls :: New1.site))
/-- the words ride from the start Z to the walk's own state -/
theorem moved {Z s : State} {a0 args : Array Value} (hZ : Z.Warmed39 s.vm) (hw : ∀ d ∈ words, d.before a0 Z = true) : ∀ d ∈ words, d.before args s = true := fun d hd => by
  have q := hw d hd
  have t : ∀ d ∈ words, d = .arrayClass .byte ∨ (d.onTables && d.keepsFace) = true := by decide +kernel
  rcases t d hd with rfl | t
  · exact RoadKit.mvA hZ q
  · exact RoadKit.mv hZ q t
/-- WHAT COMES BACK, over the tables of the start Z: h the heap at the call, h' behind it -/
def Q (Z : State) (x : Addr) (A : Cell) (h : Heap) (v : Option Value) (h' : Heap) (L : List Loc) : Prop := v = none ∧ (∀ y ∈ L, y.base = x) ∧ RoadKit.Keep h h' [x] ∧ h'.size = h.size + 1 ∧ RoadKit.Exa Z h' x ST ∧ RoadKit.Fld Z h' x ST "value" "[B" (.ref h.size) ∧ RoadKit.Fld Z h' x ST "coder" "B" (.int 0) ∧
  (∃ V : Cell, RoadKit.Arr Z h' h.size V .byte ∧ V.vm = .none ∧ Z.vm.findClass "[B" = some V.cls ∧ V.slots.size = A.slots.size ∧ ∀ j, j < A.slots.size → V.slots[j]? = some (.int (lo8 (cv A j)))) ∧
  ∀ (O n d : String) (w : Value), RoadKit.Fld Z h x O n d w → RoadKit.slotOf Z O n d ≠ RoadKit.slotOf Z ST "value" "[B" → RoadKit.slotOf Z O n d ≠ RoadKit.slotOf Z ST "coder" "B" → RoadKit.Fld Z h' x O n d w
/-- **new String(chars) AT A CALL, IN THE ROAD'S FORM**: for specialBack behind newO: x the fresh String, b the char[] with the cell A -/
theorem back {p : Program} {l : Launch} {e : Env} {R : Room} {s : State} {args : Array Value} {below : List Frame} {len W : Nat} {Z : State} {a0 : Array Value} {h : Heap} (hZ : Z.Warmed39 s.vm) (hw : ∀ d ∈ words, d.before a0 Z = true) {kI : Nat} (wi : (Jvm.Cond.instantiable ST kI).before a0 Z = true)
    {x b : Addr} {A : Cell} {z : Int32} {v0 c0 : Value} (E : RoadKit.Exa Z h x ST) (V : RoadKit.Fld Z h x ST "value" "[B" v0) (C : RoadKit.Fld Z h x ST "coder" "B" c0) (K : RoadKit.Arr Z h b A .char) (hty : Typed .char A) (S : RoadKit.Sta Z h ST "COMPACT_STRINGS" "Z" (.int z)) (hz : ¬ z = 0)
    (l0 : 0 < A.slots.size) (l2 : A.slots.size ≤ 536870912) (hp : ∀ i, i < A.slots.size → ¬ 255 < cv A i) (hfr : 4 ≤ R.frames) (hlo : W + 65 ≤ R.locals) :
    Back l R p e below s args New1.yN len W (fun P a => a = #[.ref x, .ref b] ∧ P.U.heap = h ∧ P.cells + 1 ≤ R.cells ∧ P.slots + A.slots.size ≤ R.slots)
      (fun P _ v B => ∃ L, Q Z x A h v B.U.heap L ∧ B.locs = P.locs ++ L ∧ B.cells = P.cells + 1 ∧ B.slots = P.slots + A.slots.size) := by
  intro m meth c P g ig mk a X hg hsize hdg hW hn hp'
  obtain ⟨rfl, rfl, r1, r2⟩ := hp'
  have al : Z.vm.Alike P.U.vm := hZ.alike.trans X.warmed.alike
  obtain ⟨D, cfV, kV, iV, fV, hD, gV, stV, knV, obV, asV, slV⟩ := id V
  obtain ⟨D', cfC, kC, iC, fC, hD', gC, stC, -, -, asC, slC⟩ := id C
  cases hD.symm.trans hD'
  obtain ⟨D2, kD, e1, e2, e3, e4, e5⟩ := id E
  cases hD.symm.trans e1
  obtain ⟨c2, k2, i1, i2, i3, -⟩ := Cond.instantiable_spec wi
  cases e2.symm.trans i1
  cases e3.symm.trans i2
  obtain ⟨kU, u1, u2⟩ := al.2.2 _ _ e3
  have hB : Blank ST x D P.U := ⟨hD, ⟨knV, fun q hq => by rw [hq] at obV; cases obV⟩, by rw [al.findClass]; exact e2, kU, u1, by rw [u2]; exact i3, by rw [u2]; exact e5 i3⟩
  have F1 : Found ST "value" "[B" fV P.U := ⟨SBG.found_only al ⟨cfV, kV, iV, gV⟩, stV⟩
  have F2 : Found ST "coder" "B" fC P.U := ⟨SBG.found_only al ⟨cfC, kC, iC, gC⟩, stC⟩
  have hA : Ch b A P.U := ⟨⟨K.1, State.isArrayOf_alike al K.2.1, K.2.2, by omega⟩, hty⟩
  have hS : StaticIs P.U ST "COMPACT_STRINGS" "Z" (.int z) := by
    obtain ⟨cfS, iS, kS, fS, st, cS, t1, t2, t3, t4, t5, t6, t7⟩ := S
    exact StaticIs.there (s := { Z with heap := P.U.heap }) ⟨cfS, iS, kS, fS, st, cS, t1, t2, t3, t4, t5, (fun q => by rw [q] at t6; cases t6), t7⟩ al rfl
  obtain ⟨v, B, X', ⟨⟨hv, E', V', q1, q2, q3, q4, q5, q6, q7, q8, q9, q10, q11⟩, hl, hc, hs⟩, st⟩ := New1.pays x D fV fC b A z (tab_of (moved hZ hw)) hfr hlo m meth c P g ig mk _ X hg hsize hdg hW hn ⟨r1, r2, rfl, hB, F1, F2, hA, hS, hz, l0, l2, hp⟩
  have al' : Z.vm.Alike B.U.vm := hZ.alike.trans X'.warmed.alike
  have hsz : E'.slots.size = D.slots.size := by
    obtain ⟨-, -, -, kB, w1, w2, w3⟩ := q1
    obtain ⟨kB', y1, y2⟩ := al'.2.2 _ _ e3
    rw [q2.2.1] at w1
    cases w1.symm.trans y1
    rw [w3, e5 i3, y2]
  refine ⟨v, B, X', ⟨_, ⟨hv, ?_, ⟨by omega, fun y cy hy hn' => q10 y cy (by simpa using hn') hy, fun y cy hy => ?_⟩, q11, ⟨E', _, q1.1, by rw [q2.2.1]; exact e2, by rw [q2.2.1]; exact e3, by rw [q2.1]; exact obV, fun _ => by rw [hsz]; exact e5 i3⟩,
    ⟨E', cfV, kV, iV, fV, q1.1, gV, stV, by rw [q2.1]; exact knV, by rw [q2.1]; exact obV, by rw [q2.2.1]; exact asV, q3⟩, ⟨E', cfC, kC, iC, fC, q1.1, gC, stC, by rw [q2.1]; exact knV, by rw [q2.1]; exact obV, by rw [q2.2.1]; exact asC, q4⟩,
    ⟨V', ⟨q5.1, State.isArrayOf_alike al'.symm q5.2.1, q5.2.2.1⟩, q6, by rw [← al'.findClass]; exact q7, q8, fun j hj => by have := q9 j hj; rwa [Nat.zero_add] at this⟩, fun O n d w F n1 n2 => ?_⟩, hl, hc, hs⟩, st⟩
  · intro y hy
    simp only [List.mem_cons, List.not_mem_nil, or_false] at hy
    rcases hy with rfl | rfl <;> rfl
  · by_cases q : y = x
    · subst q
      cases hD.symm.trans hy
      exact ⟨E', q1.1, q2.2.1, q2.1, hsz⟩
    · exact ⟨cy, q10 y cy q hy, rfl, rfl, rfl⟩
  · obtain ⟨D3, cf, k, i, f, g1, g2, g3, g4, g5, g6, g7⟩ := F
    cases hD.symm.trans g1
    simp only [RoadKit.slotOf, g2, gV, gC, Option.map_some, Option.getD_some] at n1 n2
    exact ⟨E', cf, k, i, f, q1.1, g2, g3, by rw [q2.1]; exact g4, by rw [q2.1]; exact g5, by rw [q2.2.1]; exact g6, by rw [q2.2.2 f.slot (by simp [n1, n2])]; exact g7⟩
end StrChars.Road
namespace StrChars.Road
open Jvm Sem ClassFile Op Lib Jvm.Stand Jvm.Free Jvm.Free.XT
/-- WHAT COMES BACK, the byte[] as a list of values -/
def QA (Z : State) (x : Addr) (zn : Int32) (cs : List Int32) (h : Heap) (v : Option Value) (h' : Heap) (L : List Loc) : Prop := v = none ∧ (∀ y ∈ L, y.base = x) ∧ RoadKit.Keep h h' [x] ∧ h'.size = h.size + 1 ∧ RoadKit.Exa Z h' x ST ∧ RoadKit.Fld Z h' x ST "value" "[B" (.ref h.size) ∧ RoadKit.Fld Z h' x ST "coder" "B" (.int 0) ∧
  (∃ kb, Z.vm.findClass "[B" = some kb ∧ RoadKit.Arv Z h' h.size kb .byte zn (cs.map fun c => .int (lo8 c)) (.int 0)) ∧
  ∀ (O n d : String) (w : Value), RoadKit.Fld Z h x O n d w → RoadKit.slotOf Z O n d ≠ RoadKit.slotOf Z ST "value" "[B" → RoadKit.slotOf Z O n d ≠ RoadKit.slotOf Z ST "coder" "B" → RoadKit.Fld Z h' x O n d w
/-- **new String(chars) AT A CALL, THE ARRAYS AS LISTS**: the char[] at b holds cs, not empty, no char above 255 -/
theorem backArv {p : Program} {l : Launch} {e : Env} {R : Room} {s : State} {args : Array Value} {below : List Frame} {len W : Nat} {Z : State} {a0 : Array Value} {h : Heap} (hZ : Z.Warmed39 s.vm) (hw : ∀ d ∈ words, d.before a0 Z = true) {kI : Nat} (wi : (Jvm.Cond.instantiable ST kI).before a0 Z = true)
    {x b : Addr} {k : ClassId} {zn z : Int32} {cs : List Int32} {dv v0 c0 : Value} (E : RoadKit.Exa Z h x ST) (V : RoadKit.Fld Z h x ST "value" "[B" v0) (C : RoadKit.Fld Z h x ST "coder" "B" c0) (K : RoadKit.Arv Z h b k .char zn (cs.map Value.int) dv) (S : RoadKit.Sta Z h ST "COMPACT_STRINGS" "Z" (.int z)) (hz : ¬ z = 0)
    (hlen : zn.toNatClampNeg = cs.length) (h0 : 0 < cs.length) (hbig : cs.length ≤ 536870912) (hall : ∀ c ∈ cs, ¬ 255 < c) (hfr : 4 ≤ R.frames) (hlo : W + 65 ≤ R.locals) :
    Back l R p e below s args New1.yN len W (fun P a => a = #[.ref x, .ref b] ∧ P.U.heap = h ∧ P.cells + 1 ≤ R.cells ∧ P.slots + cs.length ≤ R.slots)
      (fun P _ v B => ∃ L, QA Z x zn cs h v B.U.heap L ∧ B.locs = P.locs ++ L ∧ B.cells = P.cells + 1 ∧ B.slots = P.slots + cs.length) := by
  obtain ⟨A, K1, K2, K3, K4, K5, K6⟩ := K
  have e : A.slots.size = cs.length := K3.trans hlen
  have hat : ∀ (i : Nat) (hi : i < cs.length), A.slots[i]? = some (.int cs[i]) := fun i hi => by rw [K5 i (by omega)]; simp [List.getD_eq_getElem?_getD, hi]
  have hcv : ∀ (i : Nat) (hi : i < cs.length), cv A i = cs[i] := fun i hi => by unfold cv; rw [hat i hi]
  have hty : Typed .char A := fun i v hv => by
    have hi : i < A.slots.size := (Array.getElem?_eq_some_iff.mp hv).1
    have q := K5 i hi
    rw [hv] at q
    rw [Option.some.inj q]
    exact K6 i hi
  refine Back.mono (back hZ hw wi E V C K1 hty S hz (by omega) (by omega) (fun i hi => by rw [hcv i (by omega)]; exact hall _ (List.getElem_mem _)) hfr hlo) (fun P a hp => ⟨hp.1, hp.2.1, hp.2.2.1, by rw [e]; exact hp.2.2.2⟩) (fun P a v B hp hq => ?_)
  obtain ⟨L, ⟨q1, q2, q3, q4, q5, q6, q7, ⟨V', v1, v2, v3, v4, v5⟩, q9⟩, hl, hc, hs⟩ := hq
  refine ⟨L, ⟨q1, q2, q3, q4, q5, q6, q7, ⟨V'.cls, v3, V', v1, rfl, by rw [v4, e, hlen], K4, fun i hi => ?_, fun i hi => ?_⟩, q9⟩, hl, hc, by rw [hs, e]⟩
  · have hi' : i < cs.length := by omega
    rw [v5 i (by omega), hcv i hi']; simp [List.getD_eq_getElem?_getD, hi']
  · have hi' : i < cs.length := by omega
    simp only [List.getD_eq_getElem?_getD, List.getElem?_map, List.getElem?_eq_getElem hi', Option.map_some, Option.getD_some]
    exact fits_lo8 _
end StrChars.Road
namespace StrChars.Road
open Jvm Sem ClassFile Op Lib Jvm.Stand Jvm.Free Jvm.Free.XT
/-- WHAT COMES BACK, in the writer's own shape -/
def QV (Z : State) (x : Addr) (N : Int32) (bs : List Int32) (h : Heap) (n0 : Nat) (v : Option Value) (h' : Heap) (L : List Loc) : Prop := v = none ∧ RoadKit.Fr n0 L ∧ RoadKit.Keep h h' [x] ∧ RoadKit.Exa Z h' x ST ∧ RoadKit.Fld Z h' x ST "coder" "B" (.int 0) ∧
  ∃ (t : Addr) (kb : ClassId), n0 ≤ t ∧ h.size ≤ t ∧ ¬ t = x ∧ RoadKit.Fld Z h' x ST "value" "[B" (.ref t) ∧ RoadKit.Arv Z h' t kb .byte N (bs.map Value.int) (.int 0)
/-- **new String(chars) AT A CALL, FOR THE WRITER**: a char[] of n known ints, each 0 to 255 -/
theorem backV {p : Program} {l : Launch} {e : Env} {R : Room} {s : State} {args : Array Value} {below : List Frame} {len W : Nat} {Z : State} {a0 : Array Value} {h : Heap} (hZ : Z.Warmed39 s.vm) (hw : ∀ d ∈ words, d.before a0 Z = true) {kI : Nat} (wi : (Jvm.Cond.instantiable ST kI).before a0 Z = true)
    {x b : Addr} {kC : ClassId} {cs bs : List Int32} {d v0 c0 : Value} {z N : Int32} {n n0 : Nat} (hx0 : n0 ≤ x) (hh0 : n0 ≤ h.size) (E : RoadKit.Exa Z h x ST) (V : RoadKit.Fld Z h x ST "value" "[B" v0) (C : RoadKit.Fld Z h x ST "coder" "B" c0) (K : RoadKit.Arv Z h b kC .char N (cs.map Value.int) d) (S : RoadKit.Sta Z h ST "COMPACT_STRINGS" "Z" (.int z)) (hz : ¬ z = 0)
    (hn : cs.length = n) (hN : N = Int32.ofNat n) (l0 : 0 < n) (l2 : n ≤ 4000) (hp : ∀ c ∈ cs, ¬ c < 0 ∧ ¬ (255 : Int32) < c) (hb : bs = cs.map (fun c => c.toInt8.toInt32)) (hfr : 4 ≤ R.frames) (hlo : W + 65 ≤ R.locals) :
    Back l R p e below s args (⟨"java/lang/String", "<init>", "([C)V"⟩ : MethodName) len W (fun P a => a = #[.ref x, .ref b] ∧ P.U.heap = h ∧ P.cells + 1 ≤ R.cells ∧ P.slots + n ≤ R.slots)
      (fun P _ v B => ∃ L, QV Z x N bs h n0 v B.U.heap L ∧ B.locs = P.locs ++ L ∧ B.cells = P.cells + 1 ∧ B.slots = P.slots + n) := by
  subst hn hN hb
  refine Back.mono (backArv hZ hw wi E V C K S hz (n32 (by omega)) l0 (by omega) (fun c hc => (hp c hc).2) hfr hlo) (fun P a hp => hp) (fun P a v B hp hq => ?_)
  obtain ⟨L, ⟨q1, q2, q3, q4, q5, q6, q7, ⟨kb, v1, v2⟩, q9⟩, hl, hc, hs⟩ := hq
  exact ⟨L, ⟨q1, fun y hy => by rw [q2 y hy]; exact hx0, q3, q5, q7, h.size, kb, hh0, Nat.le_refl _, Nat.ne_of_gt E.lt, q6, by rw [List.map_map]; exact v2⟩, hl, hc, hs⟩
end StrChars.Road
namespace StrChars
open Jvm Sem ClassFile Op Lib Jvm.Stand Jvm.Free.XT Jvm.Free.ALB Jvm.Free.JM Jvm.Free
open Jvm.Lib.Cold (StaticIs)
def hi8 (x : Int32) : Int32 := lo8 (x >>> ((8 : Int32) &&& 31))
end StrChars
namespace StrChars.Road
open Jvm Sem ClassFile Op Lib Jvm.Stand Jvm.Free Jvm.Free.XT
open Jvm.Lib.Cold (StaticIs)
/-- the bytes of the chars cs, low before high -/
def wideBytes : List Int32 → List Value
  | [] => []
  | c :: cs => .int (lo8 c) :: .int (hi8 c) :: wideBytes cs
/-- an array of N2 bytes vs codes the chars cs by the coder cd -/
def CodA (cs : List Int32) (cd N2 : Int32) (vs : List Value) : Prop := (cd = 0 ∧ N2 = Int32.ofNat cs.length ∧ vs = (cs.map fun c => Value.int (lo8 c)) ∧ ∀ c ∈ cs, ¬ 255 < c) ∨ (cd = 1 ∧ N2 = Int32.ofNat (2 * cs.length) ∧ vs = wideBytes cs ∧ ∃ c ∈ cs, 255 < c)
end StrChars.Road
namespace StrChars.Road
open Jvm Sem ClassFile Op Lib Jvm.Stand Jvm.Free Jvm.Free.XT
open Jvm.Lib.Cold (StaticIs)
/-- what backV says of its String, as the contracts of this text ask it: cs's low bytes, coder 0 -/
theorem codOf {cs : List Int32} {n : Nat} (hn : cs.length = n) (hb : ∀ c ∈ cs, ¬ 255 < c) : CodA cs 0 (Int32.ofNat n) ((cs.map lo8).map Value.int) := Or.inl ⟨rfl, by rw [hn], by simp [List.map_map, Function.comp_def], hb⟩
end StrChars.Road
end Jvm.Pilot.@@N@@
namespace Jvm.Pilot.@@N@@
open Jvm Jvm.ClassFile Sem Op Lib Jvm.Free Jvm.Stand Jvm.LawKit Jvm.RoadKit Bundle Jvm.Pilot.@@N@@.Jvm.D
theorem tw {Z : State} {a0 : Array Value} (hw : ∀ d ∈ tables_1, d.before a0 Z = true) (i : Nat) {d : Jvm.Cond} (h : tables_1[i]? = some d) : d.before a0 Z = true := hw _ (List.mem_of_getElem? h)
theorem leW {a b : Nat} (h : 2 * 0 + a = b) : 2 * 0 + a ≤ b := Nat.le_of_eq h
theorem leB {a b : Nat} (h : Nat.ble a b = true) : a ≤ b := Nat.le_of_ble_eq_true h
def own_Env (Z : State) : Prop := (∃ G : Int32, Sta Z Z.heap "java/lang/String" "COMPACT_STRINGS" "Z" (.int G) ∧ ¬ G = 0) ∧ ∃ G : Value, Sta Z Z.heap "jdk/internal/util/Preconditions" "SIOOBE_FORMATTER" "Ljava/util/function/BiFunction;" G ∧ G.isRef = true
def own_Str (Z : State) (h : Heap) (x t : Addr) (cs : List Int32) : Prop := Exa Z h x "java/lang/String" ∧ Fld Z h x "java/lang/String" "value" "[B" (.ref t) ∧ Fld Z h x "java/lang/String" "coder" "B" (.int 0) ∧ (∃ (kb : ClassId) (N2 : Int32) (vs : List Value), Arv Z h t kb .byte N2 vs (.int 0) ∧ StrChars.Road.CodA cs 0 N2 vs) ∧ (∀ c ∈ cs, ¬ c < 0 ∧ ¬ (255 : Int32) < c) ∧ cs.length ≤ 4000
section OwnStr
variable {Z : State} {h h' : Heap} {x t : Addr} {cs : List Int32}
theorem own_Str.ext (F : own_Str Z h x t cs) (E : Ext h h') : own_Str Z h' x t cs := by
  obtain ⟨f1, f2, f3, ⟨kb, N2, vs, f4, f5⟩, f6⟩ := F
  exact ⟨Exa.ext E f1, Fld.ext E f2, Fld.ext E f3, ⟨kb, N2, vs, f4.ext E, f5⟩, f6⟩
theorem own_Str.other {a : Addr} {sl : Nat} {v : Value} (F : own_Str Z h x t cs) (W : Wr h h' a sl v) (n1 : x ≠ a) (n2 : t ≠ a) : own_Str Z h' x t cs := by
  obtain ⟨f1, f2, f3, ⟨kb, N2, vs, f4, f5⟩, f6⟩ := F
  exact ⟨Exa.wr W f1, f2.other W (Or.inl n1), f3.other W (Or.inl n1), ⟨kb, N2, vs, f4.other W n2, f5⟩, f6⟩
theorem own_Str.keep {ws : List Addr} (F : own_Str Z h x t cs) (K : Keep h h' ws) (n1 : x ∉ ws) (n2 : t ∉ ws) : own_Str Z h' x t cs := by
  obtain ⟨f1, f2, f3, ⟨kb, N2, vs, f4, f5⟩, f6⟩ := F
  exact ⟨f1.keep K, f2.keep K n1, f3.keep K n1, ⟨kb, N2, vs, f4.keep K n2, f5⟩, f6⟩
theorem own_Str.lt1 (F : own_Str Z h x t cs) : x < h.size := F.1.lt
theorem own_Str.lt2 (F : own_Str Z h x t cs) : t < h.size := by obtain ⟨-, -, -, ⟨kb, N2, vs, f4, -⟩, -⟩ := F; exact f4.lt
theorem own_up (F : ∀ c ∈ cs, ¬ c < 0 ∧ ¬ (255 : Int32) < c) : ∀ c ∈ cs, ¬ c < 0 ∧ ¬ (65535 : Int32) < c := fun c hc => ⟨(F c hc).1, fun q => (F c hc).2 (by rw [Int32.lt_iff_toInt_lt] at q ⊢; have e1 : (65535 : Int32).toInt = 65535 := rfl; have e2 : (255 : Int32).toInt = 255 := rfl; omega)⟩
end OwnStr
theorem own_pdNew : parseMethodDescriptor "([C)V" = some ⟨[(.array .char)], none⟩ := by decide +kernel
theorem own_pdLen : parseMethodDescriptor "()I" = some ⟨[], some .int⟩ := by decide +kernel
theorem own_pdChr : parseMethodDescriptor "(I)C" = some ⟨[.int], some .char⟩ := by decide +kernel
theorem own_pdEq : parseMethodDescriptor "(Ljava/lang/Object;)Z" = some ⟨[(.object "java/lang/Object")], some .boolean⟩ := by decide +kernel
theorem own_pdEmp : parseMethodDescriptor "()Z" = some ⟨[], some .boolean⟩ := by decide +kernel
section OwnCalls
variable {p : Program} {l : Launch} {e : Env} {R : Room} {s : State} {args : Array Value} {below : List Frame} {len W : Nat} {Z : State} {a0 : Array Value} {h : Heap} {n0 : Nat}
theorem own_wNew : ∀ d ∈ StrChars.Road.words, d ∈ tables_1 := by decide +kernel
theorem own_new (hZ : Z.Warmed39 s.vm) (hw : ∀ d ∈ tables_1, d.before a0 Z = true) (SV : own_Env Z) (O : Old Z n0 h) {x b : Addr} {kC : ClassId} {cs : List Int32} {d v0 c0 : Value} {N : Int32} {n : Nat} (hx0 : n0 ≤ x) (hh0 : n0 ≤ h.size) (E : Exa Z h x "java/lang/String") (V : Fld Z h x "java/lang/String" "value" "[B" v0) (C : Fld Z h x "java/lang/String" "coder" "B" c0) (K : Arv Z h b kC .char N (cs.map Value.int) d)
    (hn : cs.length = n) (hN : N = Int32.ofNat n) (l0 : 0 < n) (l2 : n ≤ 4000) (hp : ∀ c ∈ cs, ¬ c < 0 ∧ ¬ (255 : Int32) < c) (hfr : 4 ≤ R.frames) (hlo : W + 65 ≤ R.locals) :
    Back l R p e below s args (⟨"java/lang/String", "<init>", "([C)V"⟩ : MethodName) len W (fun P a => a = #[.ref x, .ref b] ∧ P.U.heap = h ∧ P.cells + 1 ≤ R.cells ∧ P.slots + n ≤ R.slots)
      (fun P _ v B => ∃ L, (v = none ∧ Fr n0 L ∧ Keep h B.U.heap [x] ∧ ∃ t, h.size ≤ t ∧ own_Str Z B.U.heap x t cs) ∧ B.locs = P.locs ++ L ∧ B.cells = P.cells + 1 ∧ B.slots = P.slots + n) := by
  obtain ⟨⟨G1, S1, S2⟩, -⟩ := SV
  refine Back.mono (StrChars.Road.backV hZ (fun d hd => hw d (own_wNew d hd)) (kI := 4) (tw hw 6 rfl) (bs := cs.map (fun c => c.toInt8.toInt32)) hx0 hh0 E V C K (Sta.ext O.2 S1) S2 hn hN l0 l2 hp rfl hfr hlo) (fun _ _ q => q) ?_
  rintro P a v B hq ⟨L, ⟨q1, q2, q3, q4, q5, t, kb, q6, q7, q8, q9, q10⟩, r⟩
  subst hn hN
  exact ⟨L, ⟨q1, q2, q3, t, q7, q4, q9, q5, ⟨kb, _, _, q10, StrChars.Road.codOf rfl (fun c hc => (hp c hc).2)⟩, hp, l2⟩, r⟩
end OwnCalls
theorem own_255 (x : Int32) : ¬ nar .char ((x &&& (255 : Int32)).toUInt32.toUInt16.toUInt32.toInt32) < 0 ∧ ¬ (255 : Int32) < nar .char ((x &&& (255 : Int32)).toUInt32.toUInt16.toUInt32.toInt32) := by
  rw [i2c_mask]
  show ¬ (x &&& (255 : Int32)).toUInt32.toUInt16.toUInt32.toInt32 < 0 ∧ ¬ (255 : Int32) < (x &&& (255 : Int32)).toUInt32.toUInt16.toUInt32.toInt32
  rw [i2c_mask]
  have h := c_and x 255 (by decide)
  rw [Int32.lt_iff_toInt_lt, Int32.lt_iff_toInt_lt]
  have e1 : (255 : Int32).toInt = 255 := by decide
  have e2 : (0 : Int32).toInt = 0 := by decide
  omega
def QW (Z : State) (px : Int32) (h0 : Heap) (n0 : Nat) (v : Option Value) (h : Heap) (L : List Loc) : Prop := ∃ (bx : Addr), v = some (.ref bx) ∧ Fr n0 L ∧ Keep h0 h [] ∧ Exa Z h bx "java/lang/String"
theorem dW_0 : decode method_2_code 0 = .ok (.iconst 2, 1) := by decide +kernel
theorem dW_1 : decode method_2_code 1 = .ok (.newarray .char, 2) := by decide +kernel
theorem dW_3 : decode method_2_code 3 = .ok (.astore_n 1, 1) := by decide +kernel
theorem dW_4 : decode method_2_code 4 = .ok (.aload_n 1, 1) := by decide +kernel
theorem dW_5 : decode method_2_code 5 = .ok (.iconst 0, 1) := by decide +kernel
theorem dW_6 : decode method_2_code 6 = .ok (.iload_n 0, 1) := by decide +kernel
theorem dW_7 : decode method_2_code 7 = .ok (.sipush 255, 3) := by decide +kernel
theorem dW_10 : decode method_2_code 10 = .ok (.iand, 1) := by decide +kernel
theorem dW_11 : decode method_2_code 11 = .ok (.i2c, 1) := by decide +kernel
theorem dW_12 : decode method_2_code 12 = .ok (.castore, 1) := by decide +kernel
theorem dW_13 : decode method_2_code 13 = .ok (.aload_n 1, 1) := by decide +kernel
theorem dW_14 : decode method_2_code 14 = .ok (.iconst 1, 1) := by decide +kernel
theorem dW_15 : decode method_2_code 15 = .ok (.iload_n 0, 1) := by decide +kernel
theorem dW_16 : decode method_2_code 16 = .ok (.bipush 8, 2) := by decide +kernel
theorem dW_18 : decode method_2_code 18 = .ok (.iushr, 1) := by decide +kernel
theorem dW_19 : decode method_2_code 19 = .ok (.sipush 255, 3) := by decide +kernel
theorem dW_22 : decode method_2_code 22 = .ok (.iand, 1) := by decide +kernel
theorem dW_23 : decode method_2_code 23 = .ok (.i2c, 1) := by decide +kernel
theorem dW_24 : decode method_2_code 24 = .ok (.castore, 1) := by decide +kernel
theorem dW_25 : decode method_2_code 25 = .ok (.new 7, 3) := by decide +kernel
theorem dW_28 : decode method_2_code 28 = .ok (.dup, 1) := by decide +kernel
theorem dW_29 : decode method_2_code 29 = .ok (.aload_n 1, 1) := by decide +kernel
theorem dW_30 : decode method_2_code 30 = .ok (.invokespecial 9, 3) := by decide +kernel
theorem dW_33 : decode method_2_code 33 = .ok (.areturn, 1) := by decide +kernel
theorem pnW : plainName "com/example/forward_horizon/forwardhorizon/engine/EventFieldPinLaw" = true := by first | (simp [plainName, overriddenIn]; done) | decide +kernel
theorem pdW : parseMethodDescriptor "(I)Ljava/lang/String;" = some ⟨[.int], some (.object "java/lang/String")⟩ := by decide +kernel
set_option maxRecDepth 65536 in
set_option maxHeartbeats 40000000 in
theorem rmW (l : Launch) (Z : State) (a0 : Array Value) (hw : ∀ d ∈ tables_1, d.before a0 Z = true) (ws : List Jvm.Cond) (px : Int32) (h0 : Heap) (n0 : Nat) (Z0 : n0 ≤ h0.size) (O0 : Old Z n0 h0) (SV : own_Env Z) :
    MetFree l (⟨"com/example/forward_horizon/forwardhorizon/engine/EventFieldPinLaw", "two", "(I)Ljava/lang/String;"⟩ : MethodName) (head1 (Jvm.Cond.code (⟨"com/example/forward_horizon/forwardhorizon/engine/EventFieldPinLaw", "two", "(I)Ljava/lang/String;"⟩ : MethodName) method_2_code 2 (some (.object "java/lang/String")) :: ws) ({ frames := 4, cells := 3, slots := 8, locals := 66 } : Room)) (fun aa U => aa = #[(.int px)] ∧ Z.Warmed39 U.vm ∧ U.heap = h0) (fun _ _ _ _ _ => True) (fun _ U o U' => ∃ v L, o = .returned v ∧ QW Z px h0 n0 v U'.heap L ∧ FrameEnd U o U' L ({ frames := 4, cells := 3, slots := 8, locals := 66 } : Room).cells ({ frames := 4, cells := 3, slots := 8, locals := 66 } : Room).slots) := by
  refine MetFree.of_bodySF (plainFor_of_name pnW) hisR ?_
  intro p e s m args below meth c s₁ Bd hml0 hP hK
  obtain ⟨rfl, hZ, hh⟩ := hP
  have hx := Bd.exec
  have hby := Bd.bytes
  have hlk : meth.locks = false := BodyLoose.notSynchronized Bd
  have hml : c.maxLocals = 2 := hml0
  have hown : s.vm.findClass "com/example/forward_horizon/forwardhorizon/engine/EventFieldPinLaw" = some m.cls := findClass_of_methodNamed Bd.named
  have hnm := (name_of_methodNamed Bd.named Bd.method).1
  have X0 : Stand p l e ({ frames := 4, cells := 3, slots := 8, locals := 66 } : Room) s m #[(.int px)] below meth c s₁ [] 0 0 := Stand.of_body Bd
  have e0 : s₁.heap = h0 := by rw [← hh, Bd.state]; rfl
  have N0 := Fr.nil n0
  have ef : entryFrame m #[(.int px)] 2 = mkF m 0 #[iv px, .unset] [] := by first | (simp [entryFrame, mkF, argsToLocals, Value.category, maxLocals]; done) | rfl
  show Way p.tables e below (KQ s (QW Z px h0 n0) ({ frames := 4, cells := 3, slots := 8, locals := 66 } : Room).cells ({ frames := 4, cells := 3, slots := 8, locals := 66 } : Room).slots) (s₁.setTop (entryFrame m #[(.int px)] 2))
  rw [ef]
  refine Way.by (fun _ k => XS.iconst X0.here hx rfl (hb hby dW_0) k) ?_
  show Way _ _ _ _ (s₁.setTop (mkF m 1 #[iv px, .unset] [(.int 2)]))
  obtain ⟨T1, h2, kc3, X4, e5, E6, A7, st8⟩ := newP X0 hx hZ (tw hw 4 rfl) e0 (g := (mkF m 1 #[iv px, .unset] [(.int 2)])) rfl (hb hby dW_1) rfl (by decide) (cap := 2) (by decide) (by decide) (by decide) (by decide)
  obtain ⟨a9, g10⟩ : ∃ z, z = h0.size := ⟨_, rfl⟩
  rw [← g10] at A7 st8
  have nw12 : n0 ≤ a9 := Nat.le_trans Z0 (Nat.le_of_eq g10.symm)
  have hk13 : h0.size ≤ a9 := Nat.le_trans (Nat.le_refl h0.size) (Nat.le_of_eq g10.symm)
  have Z14 := Nat.le_trans Z0 E6.1
  have O15 := O0.ext E6
  have K16 := (Keep.refl h0 []).ext E6
  have hz17 := Nat.le_trans (Nat.le_refl h0.size) E6.1
  have V11 : Arv Z h2 a9 kc3 .char (2 : Int32) [] (.int 0) := Arv.new A7 (by decide)
  refine Way.by st8 ?_
  show Way _ _ _ _ (T1.setTop (mkF m 3 #[iv px, .unset] [(.ref a9)]))
  refine Way.by (fun _ k => XS.astoreN X4.here hx rfl (hb hby dW_3) rfl rfl (l' := #[iv px, rv a9]) rfl k) ?_
  show Way _ _ _ _ (T1.setTop (mkF m 4 #[iv px, rv a9] []))
  refine Way.by (fun _ k => XS.aloadN X4.here hx rfl (hb hby dW_4) rfl rfl k) ?_
  show Way _ _ _ _ (T1.setTop (mkF m 5 #[iv px, rv a9] [(.ref a9)]))
  refine Way.by (fun _ k => XS.iconst X4.here hx rfl (hb hby dW_5) k) ?_
  show Way _ _ _ _ (T1.setTop (mkF m 6 #[iv px, rv a9] [(.int 0), (.ref a9)]))
  refine Way.by (fun _ k => XS.iloadN X4.here hx rfl (hb hby dW_6) rfl k) ?_
  show Way _ _ _ _ (T1.setTop (mkF m 7 #[iv px, rv a9] [(.int px), (.int 0), (.ref a9)]))
  refine Way.by (fun _ k => XS.sipush X4.here hx rfl (hb hby dW_7) k) ?_
  show Way _ _ _ _ (T1.setTop (mkF m 10 #[iv px, rv a9] [(.int 255), (.int px), (.int 0), (.ref a9)]))
  refine Way.by (fun _ k => XS.iand X4.here hx rfl (hb hby dW_10) rfl k) ?_
  show Way _ _ _ _ (T1.setTop (mkF m 11 #[iv px, rv a9] [(.int (px &&& (255 : Int32))), (.int 0), (.ref a9)]))
  refine Way.by (fun _ k => XT.i2c X4.here hx rfl (hb hby dW_11) rfl k) ?_
  show Way _ _ _ _ (T1.setTop (mkF m 12 #[iv px, rv a9] [(.int (px &&& (255 : Int32)).toUInt32.toUInt16.toUInt32.toInt32), (.int 0), (.ref a9)]))
  have V18 : Arv Z h2 a9 kc3 .char (2 : Int32) [(.int 0)] (.int 0) := V11.pad (pad_rep [] (.int 0) 1)
  obtain ⟨c19, A20, q21, S22, M23, H24, U25⟩ := id V18
  obtain ⟨T26, h27, X28, e29, W30, st31⟩ := stC X4 hx hZ e5 A20 (j := (0 : Int32)) (inb_of S22 ⟨(by decide), (by decide)⟩) (g := (mkF m 12 #[iv px, rv a9] [(.int (px &&& (255 : Int32)).toUInt32.toUInt16.toUInt32.toInt32), (.int 0), (.ref a9)])) rfl rfl (hb hby dW_12)
  have N32 := Fr.snoc X28 N0 nw12
  have V33 : Arv Z h27 a9 kc3 .char (2 : Int32) [(.int (nar .char (px &&& (255 : Int32)).toUInt32.toUInt16.toUInt32.toInt32))] (.int 0) := Arv.set A20 q21 S22 M23 H24 U25 (fits_nar_char _) W30 0 rfl (leB rfl)
  have Z34 : n0 ≤ h27.size := by rw [W30.size]; exact Z14
  have O35 := O15.wr W30 nw12
  have K36 := K16.wr W30 (Or.inr hk13)
  have hz37 : h0.size ≤ h27.size := by rw [W30.size]; exact hz17
  refine Way.by st31 ?_
  show Way _ _ _ _ (T26.setTop (mkF m 13 #[iv px, rv a9] []))
  refine Way.by (fun _ k => XS.aloadN X28.here hx rfl (hb hby dW_13) rfl rfl k) ?_
  show Way _ _ _ _ (T26.setTop (mkF m 14 #[iv px, rv a9] [(.ref a9)]))
  refine Way.by (fun _ k => XS.iconst X28.here hx rfl (hb hby dW_14) k) ?_
  show Way _ _ _ _ (T26.setTop (mkF m 15 #[iv px, rv a9] [(.int 1), (.ref a9)]))
  refine Way.by (fun _ k => XS.iloadN X28.here hx rfl (hb hby dW_15) rfl k) ?_
  show Way _ _ _ _ (T26.setTop (mkF m 16 #[iv px, rv a9] [(.int px), (.int 1), (.ref a9)]))
  refine Way.by (fun _ k => XS.bipush X28.here hx rfl (hb hby dW_16) k) ?_
  show Way _ _ _ _ (T26.setTop (mkF m 18 #[iv px, rv a9] [(.int 8), (.int px), (.int 1), (.ref a9)]))
  refine Way.by (fun _ k => XT.iushr X28.here hx rfl (hb hby dW_18) rfl k) ?_
  show Way _ _ _ _ (T26.setTop (mkF m 19 #[iv px, rv a9] [(.int (XT.ushr px (8 : Int32))), (.int 1), (.ref a9)]))
  refine Way.by (fun _ k => XS.sipush X28.here hx rfl (hb hby dW_19) k) ?_
  show Way _ _ _ _ (T26.setTop (mkF m 22 #[iv px, rv a9] [(.int 255), (.int (XT.ushr px (8 : Int32))), (.int 1), (.ref a9)]))
  refine Way.by (fun _ k => XS.iand X28.here hx rfl (hb hby dW_22) rfl k) ?_
  show Way _ _ _ _ (T26.setTop (mkF m 23 #[iv px, rv a9] [(.int ((XT.ushr px (8 : Int32)) &&& (255 : Int32))), (.int 1), (.ref a9)]))
  refine Way.by (fun _ k => XT.i2c X28.here hx rfl (hb hby dW_23) rfl k) ?_
  show Way _ _ _ _ (T26.setTop (mkF m 24 #[iv px, rv a9] [(.int ((XT.ushr px (8 : Int32)) &&& (255 : Int32)).toUInt32.toUInt16.toUInt32.toInt32), (.int 1), (.ref a9)]))
  have V38 : Arv Z h27 a9 kc3 .char (2 : Int32) [(.int (nar .char (px &&& (255 : Int32)).toUInt32.toUInt16.toUInt32.toInt32)), (.int 0)] (.int 0) := V33.pad (pad_rep [(.int (nar .char (px &&& (255 : Int32)).toUInt32.toUInt16.toUInt32.toInt32))] (.int 0) 1)
  obtain ⟨c39, A40, q41, S42, M43, H44, U45⟩ := id V38
  obtain ⟨T46, h47, X48, e49, W50, st51⟩ := stC X28 hx hZ e29 A40 (j := (1 : Int32)) (inb_of S42 ⟨(by decide), (by decide)⟩) (g := (mkF m 24 #[iv px, rv a9] [(.int ((XT.ushr px (8 : Int32)) &&& (255 : Int32)).toUInt32.toUInt16.toUInt32.toInt32), (.int 1), (.ref a9)])) rfl rfl (hb hby dW_24)
  have N52 := Fr.snoc X48 N32 nw12
  have V53 : Arv Z h47 a9 kc3 .char (2 : Int32) [(.int (nar .char (px &&& (255 : Int32)).toUInt32.toUInt16.toUInt32.toInt32)), (.int (nar .char ((XT.ushr px (8 : Int32)) &&& (255 : Int32)).toUInt32.toUInt16.toUInt32.toInt32))] (.int 0) := Arv.set A40 q41 S42 M43 H44 U45 (fits_nar_char _) W50 1 rfl (leB rfl)
  have Z54 : n0 ≤ h47.size := by rw [W50.size]; exact Z34
  have O55 := O35.wr W50 nw12
  have K56 := K36.wr W50 (Or.inr hk13)
  have hz57 : h0.size ≤ h47.size := by rw [W50.size]; exact hz37
  refine Way.by st51 ?_
  show Way _ _ _ _ (T46.setTop (mkF m 25 #[iv px, rv a9] []))
  obtain ⟨T58, h59, X60, e61, E62, A63, D64, -, st65⟩ := newO X48 hx hZ hown (tw hw 5 rfl) (tw hw 6 rfl) (tw hw 7 rfl) e49 (g := (mkF m 25 #[iv px, rv a9] [])) rfl (hb hby dW_25) (by decide) (by decide)
  obtain ⟨a66, g67⟩ : ∃ z, z = h47.size := ⟨_, rfl⟩
  rw [← g67] at A63 D64 st65
  have ne68 : a9 ≠ a66 := Nat.ne_of_lt (Nat.lt_of_lt_of_eq V53.lt g67.symm)
  have nw69 : n0 ≤ a66 := Nat.le_trans Z54 (Nat.le_of_eq g67.symm)
  have hk70 : h0.size ≤ a66 := Nat.le_trans hz57 (Nat.le_of_eq g67.symm)
  have A71 := V53.ext E62
  have Z72 := Nat.le_trans Z54 E62.1
  have O73 := O55.ext E62
  have K74 := K56.ext E62
  have hz75 := Nat.le_trans hz57 E62.1
  have F76 : Fld Z h59 a66 "java/lang/String" "coder" "B" (.int 0) := D64 (Or.inr (tw hw 31 rfl)) (ty := .byte) (by decide)
  have F77 : Fld Z h59 a66 "java/lang/String" "value" "[B" .null := D64 (Or.inr (tw hw 33 rfl)) (ty := (.array .byte)) (by decide)
  refine Way.by st65 ?_
  show Way _ _ _ _ (T58.setTop (mkF m 28 #[iv px, rv a9] [(.ref a66)]))
  refine Way.by (fun _ k => XS.dup X60.here hx rfl (hb hby dW_28) rfl rfl k) ?_
  show Way _ _ _ _ (T58.setTop (mkF m 29 #[iv px, rv a9] [(.ref a66), (.ref a66)]))
  refine Way.by (fun _ k => XS.aloadN X60.here hx rfl (hb hby dW_29) rfl rfl k) ?_
  show Way _ _ _ _ (T58.setTop (mkF m 30 #[iv px, rv a9] [(.ref a9), (.ref a66), (.ref a66)]))
  have hp78 : ∀ c ∈ ([(nar .char (px &&& (255 : Int32)).toUInt32.toUInt16.toUInt32.toInt32), (nar .char ((XT.ushr px (8 : Int32)) &&& (255 : Int32)).toUInt32.toUInt16.toUInt32.toInt32)] : List Int32), ¬ c < 0 ∧ ¬ (255 : Int32) < c := by intro c hc; simp only [List.mem_cons, List.not_mem_nil, or_false] at hc; rcases hc with rfl | rfl <;> exact own_255 _
  obtain ⟨_, _, ⟨T79, L81, k82, n83⟩, -, X80, ⟨Lc84, hQ85, l86, y87, z88⟩, st89⟩ := X60.specialBack hx (y := (⟨"java/lang/String", "<init>", "([C)V"⟩ : MethodName)) rfl hown (mvT hZ (tw hw 8 rfl)) (mvT hZ (tw hw 9 rfl)) (mvT hZ (tw hw 10 rfl)) (by decide) (own_new (W := 1) (n0 := n0) hZ hw SV O73 (cs := [(nar .char (px &&& (255 : Int32)).toUInt32.toUInt16.toUInt32.toInt32), (nar .char ((XT.ushr px (8 : Int32)) &&& (255 : Int32)).toUInt32.toUInt16.toUInt32.toInt32)]) (n := 2) nw69 Z72 A63 F77 F76 A71 rfl rfl (by decide) (by decide) hp78 (by decide) (by decide)) (g := (mkF m 30 #[iv px, rv a9] [(.ref a9), (.ref a66), (.ref a66)])) rfl (by rw [hml]; rfl) (Steps.refl _) (a := a66) (argsL := [(.ref a9)]) (rest := [(.ref a66)]) (lenOf own_pdNew rfl) rfl (leW rfl) (hb hby dW_30) (fun _ _ => ⟨rfl, e61, (leB rfl), (leB rfl)⟩)
  dsimp only [Pt.U, Pt.locs, Pt.cells, Pt.slots] at X80 l86 y87 z88 st89 hQ85
  subst l86 y87 z88
  obtain ⟨rfl, N95, K96, x_t99, fr_t98, F97⟩ := hQ85
  have N90 := Fr.app N52 N95
  have ne100 : a9 ≠ x_t99 := Nat.ne_of_lt (Nat.lt_of_lt_of_le A71.lt fr_t98)
  have ne101 : a66 ≠ x_t99 := Nat.ne_of_lt (Nat.lt_of_lt_of_le A63.lt fr_t98)
  have nw102 : n0 ≤ x_t99 := Nat.le_trans Z72 fr_t98
  have hk103 : h0.size ≤ x_t99 := Nat.le_trans hz75 fr_t98
  have A104 := A71.keep K96 (ninS ne68 nin0)
  have E105 := A63.keep K96
  have Z106 := Nat.le_trans Z72 K96.1
  have O107 := O73.keep K96 (allS nw69 all0)
  have K108 := K74.trans K96 (allS (Or.inr hk70) all0)
  have hz109 := Nat.le_trans hz75 K96.1
  refine Way.to st89 ?_
  show Way _ _ _ _ (T79.setTop (mkF m 33 #[iv px, rv a9] [(.ref a66)]))
  refine Way.ret (v := (some (.ref a66))) X80 hlk (fun h => by rw [Bd.returns] at h; cases h) (fun fs hr => retOut X80 hx Bd.returns rfl (Or.inr (Or.inr (Or.inr (Or.inr ⟨rfl, rfl, rfl⟩)))) (hb hby dW_33) hr) ?_ (by decide) (by decide)
  show QW Z px h0 n0 _ T79.heap _
  skip
  exact ⟨a66, rfl, N90, K108, F97.1⟩
def QA2 (Z : State) (pa : Addr) (h0 : Heap) (n0 : Nat) (v : Option Value) (h : Heap) (L : List Loc) : Prop := v = none ∧ Fr n0 L ∧ h = h0
theorem dA2_0 : decode jdk_22_method_1_code 0 = .ok (.aload_n 0, 1) := by decide +kernel
theorem dA2_1 : decode jdk_22_method_1_code 1 = .ok (.invokespecial 1, 3) := by decide +kernel
theorem dA2_4 : decode jdk_22_method_1_code 4 = .ok (.return_, 1) := by decide +kernel
theorem pnA2 : plainName "java/util/AbstractCollection" = true := by first | (simp [plainName, overriddenIn]; done) | decide +kernel
theorem pdA2 : parseMethodDescriptor "()V" = some ⟨[], none⟩ := by decide +kernel
set_option maxRecDepth 65536 in
set_option maxHeartbeats 40000000 in
theorem rmA2 (l : Launch) (Z : State) (a0 : Array Value) (hw : ∀ d ∈ tables_1, d.before a0 Z = true) (ws : List Jvm.Cond) (pa : Addr) (h0 : Heap) (n0 : Nat) (Z0 : n0 ≤ h0.size)  :
    MetFree l (⟨"java/util/AbstractCollection", "<init>", "()V"⟩ : MethodName) (head1 (Jvm.Cond.code (⟨"java/util/AbstractCollection", "<init>", "()V"⟩ : MethodName) jdk_22_method_1_code 1 none :: ws) ({ frames := 1, cells := 0, slots := 0, locals := 12 } : Room)) (fun aa U => aa = #[(.ref pa)] ∧ Z.Warmed39 U.vm ∧ U.heap = h0) (fun _ _ _ _ _ => True) (fun _ U o U' => ∃ v L, o = .returned v ∧ QA2 Z pa h0 n0 v U'.heap L ∧ FrameEnd U o U' L ({ frames := 1, cells := 0, slots := 0, locals := 12 } : Room).cells ({ frames := 1, cells := 0, slots := 0, locals := 12 } : Room).slots) := by
  refine MetFree.of_bodySF (plainFor_of_name pnA2) hisR ?_
  intro p e s m args below meth c s₁ Bd hml0 hP hK
  obtain ⟨rfl, hZ, hh⟩ := hP
  have hx := Bd.exec
  have hby := Bd.bytes
  have hlk : meth.locks = false := BodyLoose.notSynchronized Bd
  have hml : c.maxLocals = 1 := hml0
  have hown : s.vm.findClass "java/util/AbstractCollection" = some m.cls := findClass_of_methodNamed Bd.named
  have hnm := (name_of_methodNamed Bd.named Bd.method).1
  have X0 : Stand p l e ({ frames := 1, cells := 0, slots := 0, locals := 12 } : Room) s m #[(.ref pa)] below meth c s₁ [] 0 0 := Stand.of_body Bd
  have e0 : s₁.heap = h0 := by rw [← hh, Bd.state]; rfl
  have N0 := Fr.nil n0
  have ef : entryFrame m #[(.ref pa)] 1 = mkF m 0 #[rv pa] [] := by first | (simp [entryFrame, mkF, argsToLocals, Value.category, maxLocals]; done) | rfl
  show Way p.tables e below (KQ s (QA2 Z pa h0 n0) ({ frames := 1, cells := 0, slots := 0, locals := 12 } : Room).cells ({ frames := 1, cells := 0, slots := 0, locals := 12 } : Room).slots) (s₁.setTop (entryFrame m #[(.ref pa)] 1))
  rw [ef]
  refine Way.by (fun _ k => XS.aloadN X0.here hx rfl (hb hby dA2_0) rfl rfl k) ?_
  show Way _ _ _ _ (s₁.setTop (mkF m 1 #[rv pa] [(.ref pa)]))
  obtain ⟨T1, X2, e3, st4⟩ := initO X0 hx hZ hown (tw hw 52 rfl) (tw hw 16 rfl) (tw hw 17 rfl) e0 (g := (mkF m 1 #[rv pa] [(.ref pa)])) rfl (by rw [hml]; rfl) rfl (hb hby dA2_1) (by decide) (W := 0) (leW rfl) (by decide)
  refine Way.by st4 ?_
  show Way _ _ _ _ (T1.setTop (mkF m 4 #[rv pa] []))
  refine Way.ret (v := none) X2 hlk (fun _ => rfl) (fun fs hr => X2.returnOut hx Bd.returns (hb hby dA2_4) hr) ?_ (by decide) (by decide)
  show QA2 Z pa h0 n0 _ T1.heap _
  rw [e3]
  exact ⟨rfl, N0, rfl⟩
def QA1 (Z : State) (pa : Addr) (h0 : Heap) (n0 : Nat) (v : Option Value) (h : Heap) (L : List Loc) : Prop := v = none ∧ Fr n0 L ∧ Keep h0 h [pa] ∧ Exa Z h pa "java/util/ArrayList" ∧ Fld Z h pa "java/util/AbstractList" "modCount" "I" (.int 0) ∧ Fld Z h pa "java/util/ArrayList" "elementData" "[Ljava/lang/Object;" .null ∧ Fld Z h pa "java/util/ArrayList" "size" "I" (.int 0)
theorem dA1_0 : decode jdk_39_method_1_code 0 = .ok (.aload_n 0, 1) := by decide +kernel
theorem dA1_1 : decode jdk_39_method_1_code 1 = .ok (.invokespecial 1, 3) := by decide +kernel
theorem dA1_4 : decode jdk_39_method_1_code 4 = .ok (.aload_n 0, 1) := by decide +kernel
theorem dA1_5 : decode jdk_39_method_1_code 5 = .ok (.iconst 0, 1) := by decide +kernel
theorem dA1_6 : decode jdk_39_method_1_code 6 = .ok (.putfield 7, 3) := by decide +kernel
theorem dA1_9 : decode jdk_39_method_1_code 9 = .ok (.return_, 1) := by decide +kernel
theorem pnA1 : plainName "java/util/AbstractList" = true := by first | (simp [plainName, overriddenIn]; done) | decide +kernel
set_option maxRecDepth 65536 in
set_option maxHeartbeats 40000000 in
theorem rmA1 (l : Launch) (Z : State) (a0 : Array Value) (hw : ∀ d ∈ tables_1, d.before a0 Z = true) (ws : List Jvm.Cond) (pa : Addr) (h0 : Heap) (n0 : Nat) (Z0 : n0 ≤ h0.size) (H0 : Exa Z h0 pa "java/util/ArrayList") (H1 : Fld Z h0 pa "java/util/AbstractList" "modCount" "I" (.int 0)) (H2 : Fld Z h0 pa "java/util/ArrayList" "elementData" "[Ljava/lang/Object;" .null) (H3 : Fld Z h0 pa "java/util/ArrayList" "size" "I" (.int 0)) (nw_pa : n0 ≤ pa) :
    MetFree l (⟨"java/util/AbstractList", "<init>", "()V"⟩ : MethodName) (head1 (Jvm.Cond.code (⟨"java/util/AbstractList", "<init>", "()V"⟩ : MethodName) jdk_39_method_1_code 1 none :: ws) ({ frames := 2, cells := 0, slots := 0, locals := 24 } : Room)) (fun aa U => aa = #[(.ref pa)] ∧ Z.Warmed39 U.vm ∧ U.heap = h0) (fun _ _ _ _ _ => True) (fun _ U o U' => ∃ v L, o = .returned v ∧ QA1 Z pa h0 n0 v U'.heap L ∧ FrameEnd U o U' L ({ frames := 2, cells := 0, slots := 0, locals := 24 } : Room).cells ({ frames := 2, cells := 0, slots := 0, locals := 24 } : Room).slots) := by
  refine MetFree.of_bodySF (plainFor_of_name pnA1) hisR ?_
  intro p e s m args below meth c s₁ Bd hml0 hP hK
  obtain ⟨rfl, hZ, hh⟩ := hP
  have hx := Bd.exec
  have hby := Bd.bytes
  have hlk : meth.locks = false := BodyLoose.notSynchronized Bd
  have hml : c.maxLocals = 1 := hml0
  have hown : s.vm.findClass "java/util/AbstractList" = some m.cls := findClass_of_methodNamed Bd.named
  have hnm := (name_of_methodNamed Bd.named Bd.method).1
  have X0 : Stand p l e ({ frames := 2, cells := 0, slots := 0, locals := 24 } : Room) s m #[(.ref pa)] below meth c s₁ [] 0 0 := Stand.of_body Bd
  have e0 : s₁.heap = h0 := by rw [← hh, Bd.state]; rfl
  have N0 := Fr.nil n0
  have ef : entryFrame m #[(.ref pa)] 1 = mkF m 0 #[rv pa] [] := by first | (simp [entryFrame, mkF, argsToLocals, Value.category, maxLocals]; done) | rfl
  show Way p.tables e below (KQ s (QA1 Z pa h0 n0) ({ frames := 2, cells := 0, slots := 0, locals := 24 } : Room).cells ({ frames := 2, cells := 0, slots := 0, locals := 24 } : Room).slots) (s₁.setTop (entryFrame m #[(.ref pa)] 1))
  rw [ef]
  refine Way.by (fun _ k => XS.aloadN X0.here hx rfl (hb hby dA1_0) rfl rfl k) ?_
  show Way _ _ _ _ (s₁.setTop (mkF m 1 #[rv pa] [(.ref pa)]))
  obtain ⟨_, _, ⟨T1, L3, k4, n5⟩, -, X2, ⟨Lc6, hQ7, l8, y9, z10⟩, st11⟩ := X0.specialBack hx (y := (⟨"java/util/AbstractCollection", "<init>", "()V"⟩ : MethodName)) rfl hown (mvT hZ (tw hw 46 rfl)) (mvT hZ (tw hw 47 rfl)) (mvT hZ (tw hw 51 rfl)) (by decide) (backOf (W := 0) (rmA2 l Z a0 hw [] pa h0 n0 Z0 ) hZ (tw hw 51 rfl) (tw hw 50 rfl) (by decide) (by decide)) (g := (mkF m 1 #[rv pa] [(.ref pa)])) rfl (by rw [hml]; rfl) (Steps.refl _) (a := pa) (argsL := []) (rest := []) (lenOf pdA2 rfl) rfl (leW rfl) (hb hby dA1_1) (fun _ _ => ⟨rfl, e0, (leB rfl), (leB rfl)⟩)
  dsimp only [Pt.U, Pt.locs, Pt.cells, Pt.slots] at X2 l8 y9 z10 st11 hQ7
  subst l8 y9 z10
  obtain ⟨rfl, N17, e13⟩ := hQ7
  have N12 := Fr.app N0 N17
  refine Way.to st11 ?_
  show Way _ _ _ _ (T1.setTop (mkF m 4 #[rv pa] []))
  refine Way.by (fun _ k => XS.aloadN X2.here hx rfl (hb hby dA1_4) rfl rfl k) ?_
  show Way _ _ _ _ (T1.setTop (mkF m 5 #[rv pa] [(.ref pa)]))
  refine Way.by (fun _ k => XS.iconst X2.here hx rfl (hb hby dA1_5) k) ?_
  show Way _ _ _ _ (T1.setTop (mkF m 6 #[rv pa] [(.int 0), (.ref pa)]))
  obtain ⟨T19, h20, X21, e22, W23, st24⟩ := putF X2 hx hZ hown (host := "") (Or.inl (tw hw 53 rfl)) Via.refl e13 H1 H0 (Or.inl (tw hw 54 rfl)) (tw hw 35 rfl) (ty := .int) (by decide) rfl rfl (g := (mkF m 6 #[rv pa] [(.int 0), (.ref pa)])) rfl rfl (hb hby dA1_6)
  have N25 := Fr.snoc X21 N12 nw_pa
  have E26 := Exa.wr W23 H0
  have F27 : Fld Z h20 pa "java/util/AbstractList" "modCount" "I" (.int 0) := H1.same W23
  have F28 := H2.other W23 (Or.inr (slot_ne (Or.inl (tw hw 57 rfl)) (Or.inl (tw hw 54 rfl)) (by decide) (t := (.array (.object "java/lang/Object"))) (t' := .int) (by decide) (by decide)))
  have F29 := H3.other W23 (Or.inr (slot_ne (Or.inl (tw hw 66 rfl)) (Or.inl (tw hw 54 rfl)) (by decide) (t := .int) (t' := .int) (by decide) (by decide)))
  have Z30 : n0 ≤ h20.size := by rw [W23.size]; exact Z0
  have K31 := (Keep.refl h0 [pa]).wr W23 (Or.inl (List.mem_of_getElem? (i := 0) rfl))
  have hz32 : h0.size ≤ h20.size := by rw [W23.size]; exact (Nat.le_refl h0.size)
  refine Way.by st24 ?_
  show Way _ _ _ _ (T19.setTop (mkF m 9 #[rv pa] []))
  refine Way.ret (v := none) X21 hlk (fun _ => rfl) (fun fs hr => X21.returnOut hx Bd.returns (hb hby dA1_9) hr) ?_ (by decide) (by decide)
  show QA1 Z pa h0 n0 _ T19.heap _
  rw [e22]
  exact ⟨rfl, N25, K31, E26, F27, F28, F29⟩
def QA0 (Z : State) (pa : Addr) (pd : Addr) (h0 : Heap) (n0 : Nat) (v : Option Value) (h : Heap) (L : List Loc) : Prop := v = none ∧ Fr n0 L ∧ Keep h0 h [pa] ∧ Exa Z h pa "java/util/ArrayList" ∧ Fld Z h pa "java/util/AbstractList" "modCount" "I" (.int 0) ∧ Fld Z h pa "java/util/ArrayList" "elementData" "[Ljava/lang/Object;" (.ref pd) ∧ Fld Z h pa "java/util/ArrayList" "size" "I" (.int 0)
theorem dA0_0 : decode jdk_38_method_2_code 0 = .ok (.aload_n 0, 1) := by decide +kernel
theorem dA0_1 : decode jdk_38_method_2_code 1 = .ok (.invokespecial 1, 3) := by decide +kernel
theorem dA0_4 : decode jdk_38_method_2_code 4 = .ok (.aload_n 0, 1) := by decide +kernel
theorem dA0_5 : decode jdk_38_method_2_code 5 = .ok (.getstatic 39, 3) := by decide +kernel
theorem dA0_8 : decode jdk_38_method_2_code 8 = .ok (.putfield 9, 3) := by decide +kernel
theorem dA0_11 : decode jdk_38_method_2_code 11 = .ok (.return_, 1) := by decide +kernel
theorem pnA0 : plainName "java/util/ArrayList" = true := by first | (simp [plainName, overriddenIn]; done) | decide +kernel
set_option maxRecDepth 65536 in
set_option maxHeartbeats 40000000 in
theorem rmA0 (l : Launch) (Z : State) (a0 : Array Value) (hw : ∀ d ∈ tables_1, d.before a0 Z = true) (ws : List Jvm.Cond) (pa : Addr) (pd : Addr) (h0 : Heap) (n0 : Nat) (Z0 : n0 ≤ h0.size) (H0 : Exa Z h0 pa "java/util/ArrayList") (H1 : Fld Z h0 pa "java/util/AbstractList" "modCount" "I" (.int 0)) (H2 : Fld Z h0 pa "java/util/ArrayList" "elementData" "[Ljava/lang/Object;" .null) (H3 : Fld Z h0 pa "java/util/ArrayList" "size" "I" (.int 0)) (nw_pa : n0 ≤ pa) (O0 : Old Z n0 h0) (SDE : Sta Z Z.heap "java/util/ArrayList" "DEFAULTCAPACITY_EMPTY_ELEMENTDATA" "[Ljava/lang/Object;" (.ref pd)) :
    MetFree l (⟨"java/util/ArrayList", "<init>", "()V"⟩ : MethodName) (head1 (Jvm.Cond.code (⟨"java/util/ArrayList", "<init>", "()V"⟩ : MethodName) jdk_38_method_2_code 1 none :: ws) ({ frames := 3, cells := 0, slots := 0, locals := 36 } : Room)) (fun aa U => aa = #[(.ref pa)] ∧ Z.Warmed39 U.vm ∧ U.heap = h0) (fun _ _ _ _ _ => True) (fun _ U o U' => ∃ v L, o = .returned v ∧ QA0 Z pa pd h0 n0 v U'.heap L ∧ FrameEnd U o U' L ({ frames := 3, cells := 0, slots := 0, locals := 36 } : Room).cells ({ frames := 3, cells := 0, slots := 0, locals := 36 } : Room).slots) := by
  refine MetFree.of_bodySF (plainFor_of_name pnA0) hisR ?_
  intro p e s m args below meth c s₁ Bd hml0 hP hK
  obtain ⟨rfl, hZ, hh⟩ := hP
  have hx := Bd.exec
  have hby := Bd.bytes
  have hlk : meth.locks = false := BodyLoose.notSynchronized Bd
  have hml : c.maxLocals = 1 := hml0
  have hown : s.vm.findClass "java/util/ArrayList" = some m.cls := findClass_of_methodNamed Bd.named
  have hnm := (name_of_methodNamed Bd.named Bd.method).1
  have X0 : Stand p l e ({ frames := 3, cells := 0, slots := 0, locals := 36 } : Room) s m #[(.ref pa)] below meth c s₁ [] 0 0 := Stand.of_body Bd
  have e0 : s₁.heap = h0 := by rw [← hh, Bd.state]; rfl
  have N0 := Fr.nil n0
  have ef : entryFrame m #[(.ref pa)] 1 = mkF m 0 #[rv pa] [] := by first | (simp [entryFrame, mkF, argsToLocals, Value.category, maxLocals]; done) | rfl
  show Way p.tables e below (KQ s (QA0 Z pa pd h0 n0) ({ frames := 3, cells := 0, slots := 0, locals := 36 } : Room).cells ({ frames := 3, cells := 0, slots := 0, locals := 36 } : Room).slots) (s₁.setTop (entryFrame m #[(.ref pa)] 1))
  rw [ef]
  refine Way.by (fun _ k => XS.aloadN X0.here hx rfl (hb hby dA0_0) rfl rfl k) ?_
  show Way _ _ _ _ (s₁.setTop (mkF m 1 #[rv pa] [(.ref pa)]))
  obtain ⟨_, _, ⟨T1, L3, k4, n5⟩, -, X2, ⟨Lc6, hQ7, l8, y9, z10⟩, st11⟩ := X0.specialBack hx (y := (⟨"java/util/AbstractList", "<init>", "()V"⟩ : MethodName)) rfl hown (mvT hZ (tw hw 40 rfl)) (mvT hZ (tw hw 41 rfl)) (mvT hZ (tw hw 45 rfl)) (by decide) (backOf (W := 0) (rmA1 l Z a0 hw [] pa h0 n0 Z0 H0 H1 H2 H3 nw_pa) hZ (tw hw 45 rfl) (tw hw 44 rfl) (by decide) (by decide)) (g := (mkF m 1 #[rv pa] [(.ref pa)])) rfl (by rw [hml]; rfl) (Steps.refl _) (a := pa) (argsL := []) (rest := []) (lenOf pdA2 rfl) rfl (leW rfl) (hb hby dA0_1) (fun _ _ => ⟨rfl, e0, (leB rfl), (leB rfl)⟩)
  dsimp only [Pt.U, Pt.locs, Pt.cells, Pt.slots] at X2 l8 y9 z10 st11 hQ7
  subst l8 y9 z10
  obtain ⟨rfl, N17, K18, F_019, F_120, F_221, F_322⟩ := hQ7
  have N12 := Fr.app N0 N17
  have E23 := H0.keep K18
  have Z24 := Nat.le_trans Z0 K18.1
  have O25 := O0.keep K18 (allS nw_pa all0)
  have K26 := (Keep.refl h0 [pa]).trans K18 (allS (Or.inl (List.mem_of_getElem? (i := 0) rfl)) all0)
  have hz27 := Nat.le_trans (Nat.le_refl h0.size) K18.1
  refine Way.to st11 ?_
  show Way _ _ _ _ (T1.setTop (mkF m 4 #[rv pa] []))
  refine Way.by (fun _ k => XS.aloadN X2.here hx rfl (hb hby dA0_4) rfl rfl k) ?_
  show Way _ _ _ _ (T1.setTop (mkF m 5 #[rv pa] [(.ref pa)]))
  obtain ⟨T28, X29, e30, st31⟩ := getS X2 hx hZ hown (host := "") (tw hw 55 rfl) Via.refl rfl (Sta.ext O25.2 SDE) (g := (mkF m 5 #[rv pa] [(.ref pa)])) rfl (hb hby dA0_5)
  refine Way.by st31 ?_
  show Way _ _ _ _ (T28.setTop (mkF m 8 #[rv pa] [(.ref pd), (.ref pa)]))
  obtain ⟨T32, h33, X34, e35, W36, st37⟩ := putF X29 hx hZ hown (host := "") (Or.inl (tw hw 56 rfl)) Via.refl e30 F_221 F_019 (Or.inl (tw hw 57 rfl)) (tw hw 35 rfl) (ty := (.array (.object "java/lang/Object"))) (by decide) rfl rfl (g := (mkF m 8 #[rv pa] [(.ref pd), (.ref pa)])) rfl rfl (hb hby dA0_8)
  have N38 := Fr.snoc X34 N12 nw_pa
  have E39 := Exa.wr W36 F_019
  have F40 := F_120.other W36 (Or.inr (slot_ne (Or.inl (tw hw 54 rfl)) (Or.inl (tw hw 57 rfl)) (by decide) (t := .int) (t' := (.array (.object "java/lang/Object"))) (by decide) (by decide)))
  have F41 : Fld Z h33 pa "java/util/ArrayList" "elementData" "[Ljava/lang/Object;" (.ref pd) := F_221.same W36
  have F42 := F_322.other W36 (Or.inr (slot_ne (Or.inl (tw hw 66 rfl)) (Or.inl (tw hw 57 rfl)) (by decide) (t := .int) (t' := (.array (.object "java/lang/Object"))) (by decide) (by decide)))
  have Z43 : n0 ≤ h33.size := by rw [W36.size]; exact Z24
  have O44 := O25.wr W36 nw_pa
  have K45 := K26.wr W36 (Or.inl (List.mem_of_getElem? (i := 0) rfl))
  have hz46 : h0.size ≤ h33.size := by rw [W36.size]; exact hz27
  refine Way.by st37 ?_
  show Way _ _ _ _ (T32.setTop (mkF m 11 #[rv pa] []))
  refine Way.ret (v := none) X34 hlk (fun _ => rfl) (fun fs hr => X34.returnOut hx Bd.returns (hb hby dA0_11) hr) ?_ (by decide) (by decide)
  show QA0 Z pa pd h0 n0 _ T32.heap _
  rw [e35]
  exact ⟨rfl, N38, K45, E39, F40, F41, F42⟩
def QX (Z : State) (px : Int32) (py : Int32) (pr : Int32) (h0 : Heap) (n0 : Nat) (v : Option Value) (h : Heap) (L : List Loc) : Prop := v = some (.int pr) ∧ Fr n0 L ∧ h = h0
theorem dX_0 : decode jdk_29_method_65_code 0 = .ok (.iload_n 0, 1) := by decide +kernel
theorem dX_1 : decode jdk_29_method_65_code 1 = .ok (.iload_n 1, 1) := by decide +kernel
theorem dX_2 : decode jdk_29_method_65_code 2 = .ok (.if_icmp .lt 7, 3) := by decide +kernel
theorem dX_5 : decode jdk_29_method_65_code 5 = .ok (.iload_n 0, 1) := by decide +kernel
theorem dX_6 : decode jdk_29_method_65_code 6 = .ok (.goto 4, 3) := by decide +kernel
theorem dX_9 : decode jdk_29_method_65_code 9 = .ok (.iload_n 1, 1) := by decide +kernel
theorem dX_10 : decode jdk_29_method_65_code 10 = .ok (.ireturn, 1) := by decide +kernel
theorem pnX : plainFor (⟨"java/lang/Math", "max", "(II)I"⟩ : MethodName) = true := by decide +kernel
theorem pdX : parseMethodDescriptor "(II)I" = some ⟨[.int, .int], some .int⟩ := by decide +kernel
set_option maxRecDepth 65536 in
set_option maxHeartbeats 40000000 in
theorem rmX (l : Launch) (Z : State) (a0 : Array Value) (hw : ∀ d ∈ tables_1, d.before a0 Z = true) (ws : List Jvm.Cond) (px : Int32) (py : Int32) (pr : Int32) (h0 : Heap) (n0 : Nat) (Z0 : n0 ≤ h0.size) (hr : pr = if px < py then py else px) :
    MetFree l (⟨"java/lang/Math", "max", "(II)I"⟩ : MethodName) (head1 (Jvm.Cond.code (⟨"java/lang/Math", "max", "(II)I"⟩ : MethodName) jdk_29_method_65_code 2 (some .int) :: ws) ({ frames := 0, cells := 0, slots := 0, locals := 0 } : Room)) (fun aa U => aa = #[(.int px), (.int py)] ∧ Z.Warmed39 U.vm ∧ U.heap = h0) (fun _ _ _ _ _ => True) (fun _ U o U' => ∃ v L, o = .returned v ∧ QX Z px py pr h0 n0 v U'.heap L ∧ FrameEnd U o U' L ({ frames := 0, cells := 0, slots := 0, locals := 0 } : Room).cells ({ frames := 0, cells := 0, slots := 0, locals := 0 } : Room).slots) := by
  refine MetFree.of_bodySF pnX hisR ?_
  intro p e s m args below meth c s₁ Bd hml0 hP hK
  obtain ⟨rfl, hZ, hh⟩ := hP
  have hx := Bd.exec
  have hby := Bd.bytes
  have hlk : meth.locks = false := BodyLoose.notSynchronized Bd
  have hml : c.maxLocals = 2 := hml0
  have hown : s.vm.findClass "java/lang/Math" = some m.cls := findClass_of_methodNamed Bd.named
  have hnm := (name_of_methodNamed Bd.named Bd.method).1
  have X0 : Stand p l e ({ frames := 0, cells := 0, slots := 0, locals := 0 } : Room) s m #[(.int px), (.int py)] below meth c s₁ [] 0 0 := Stand.of_body Bd
  have e0 : s₁.heap = h0 := by rw [← hh, Bd.state]; rfl
  have N0 := Fr.nil n0
  have ef : entryFrame m #[(.int px), (.int py)] 2 = mkF m 0 #[iv px, iv py] [] := by first | (simp [entryFrame, mkF, argsToLocals, Value.category, maxLocals]; done) | rfl
  show Way p.tables e below (KQ s (QX Z px py pr h0 n0) ({ frames := 0, cells := 0, slots := 0, locals := 0 } : Room).cells ({ frames := 0, cells := 0, slots := 0, locals := 0 } : Room).slots) (s₁.setTop (entryFrame m #[(.int px), (.int py)] 2))
  rw [ef]
  refine Way.by (fun _ k => XS.iloadN X0.here hx rfl (hb hby dX_0) rfl k) ?_
  show Way _ _ _ _ (s₁.setTop (mkF m 1 #[iv px, iv py] [(.int px)]))
  refine Way.by (fun _ k => XS.iloadN X0.here hx rfl (hb hby dX_1) rfl k) ?_
  show Way _ _ _ _ (s₁.setTop (mkF m 2 #[iv px, iv py] [(.int py), (.int px)]))
  by_cases hq : px < py
  · skip
    refine Way.by (fun _ k => XS.icmpYes X0.here hx rfl (pc0 := 2) (pc' := 9) rfl (hb hby dX_2) rfl (tlt hq).1 (by decide) (by decide) k) ?_
    show Way _ _ _ _ (s₁.setTop (mkF m 9 #[iv px, iv py] []))
    refine Way.by (fun _ k => XS.iloadN X0.here hx rfl (hb hby dX_9) rfl k) ?_
    show Way _ _ _ _ (s₁.setTop (mkF m 10 #[iv px, iv py] [(.int py)]))
    refine Way.ret (v := (some (.int py))) X0 hlk (fun h => by rw [Bd.returns] at h; cases h) (fun fs hr => retI X0 hx Bd.returns (hb hby dX_10) hr) ?_ (by decide) (by decide)
    show QX Z px py pr h0 n0 _ s₁.heap _
    rw [e0]
    exact ⟨by rw [hr]; simp [hq], N0, rfl⟩
  · skip
    refine Way.by (fun _ k => XS.icmpNo X0.here hx rfl (hb hby dX_2) rfl (flt hq).1 k) ?_
    show Way _ _ _ _ (s₁.setTop (mkF m 5 #[iv px, iv py] []))
    refine Way.by (fun _ k => XS.iloadN X0.here hx rfl (hb hby dX_5) rfl k) ?_
    show Way _ _ _ _ (s₁.setTop (mkF m 6 #[iv px, iv py] [(.int px)]))
    refine Way.by (fun _ k => XS.goto X0.here hx rfl (pc0 := 6) (pc' := 10) rfl (hb hby dX_6) (by decide) (by decide) k) ?_
    show Way _ _ _ _ (s₁.setTop (mkF m 10 #[iv px, iv py] [(.int px)]))
    refine Way.ret (v := (some (.int px))) X0 hlk (fun h => by rw [Bd.returns] at h; cases h) (fun fs hr => retI X0 hx Bd.returns (hb hby dX_10) hr) ?_ (by decide) (by decide)
    show QX Z px py pr h0 n0 _ s₁.heap _
    rw [e0]
    exact ⟨by rw [hr]; simp [hq], N0, rfl⟩
def QGI (Z : State) (pa : Addr) (pd : Addr) (dcl : Cell) (h0 : Heap) (n0 : Nat) (v : Option Value) (h : Heap) (L : List Loc) : Prop := ∃ (pe : Addr) (kk : ClassId), v = some (.ref pe) ∧ Fr n0 L ∧ Keep h0 h [pa] ∧ h0.size ≤ pe ∧ Ovr Z kk "java/lang/Object" ∧ Exa Z h pa "java/util/ArrayList" ∧ Fld Z h pa "java/util/ArrayList" "elementData" "[Ljava/lang/Object;" (.ref pe) ∧ Fld Z h pa "java/util/ArrayList" "size" "I" (.int 0) ∧ Fld Z h pa "java/util/AbstractList" "modCount" "I" (.int 1) ∧ Arv Z h pe kk (.object "java/lang/Object") (10 : Int32) [] .null
theorem dGI_0 : decode jdk_38_method_6_code 0 = .ok (.aload_n 0, 1) := by decide +kernel
theorem dGI_1 : decode jdk_38_method_6_code 1 = .ok (.getfield 9, 3) := by decide +kernel
theorem dGI_4 : decode jdk_38_method_6_code 4 = .ok (.arraylength, 1) := by decide +kernel
theorem dGI_5 : decode jdk_38_method_6_code 5 = .ok (.istore_n 2, 1) := by decide +kernel
theorem dGI_6 : decode jdk_38_method_6_code 6 = .ok (.iload_n 2, 1) := by decide +kernel
theorem dGI_7 : decode jdk_38_method_6_code 7 = .ok (.ifCond .gt 13, 3) := by decide +kernel
theorem dGI_10 : decode jdk_38_method_6_code 10 = .ok (.aload_n 0, 1) := by decide +kernel
theorem dGI_11 : decode jdk_38_method_6_code 11 = .ok (.getfield 9, 3) := by decide +kernel
theorem dGI_14 : decode jdk_38_method_6_code 14 = .ok (.getstatic 39, 3) := by decide +kernel
theorem dGI_17 : decode jdk_38_method_6_code 17 = .ok (.if_acmp .eq 28, 3) := by decide +kernel
theorem dGI_45 : decode jdk_38_method_6_code 45 = .ok (.aload_n 0, 1) := by decide +kernel
theorem dGI_46 : decode jdk_38_method_6_code 46 = .ok (.bipush 10, 2) := by decide +kernel
theorem dGI_48 : decode jdk_38_method_6_code 48 = .ok (.iload_n 1, 1) := by decide +kernel
theorem dGI_49 : decode jdk_38_method_6_code 49 = .ok (.invokestatic 79, 3) := by decide +kernel
theorem dGI_52 : decode jdk_38_method_6_code 52 = .ok (.anewarray 7, 3) := by decide +kernel
theorem dGI_55 : decode jdk_38_method_6_code 55 = .ok (.dup_x1, 1) := by decide +kernel
theorem dGI_56 : decode jdk_38_method_6_code 56 = .ok (.putfield 9, 3) := by decide +kernel
theorem dGI_59 : decode jdk_38_method_6_code 59 = .ok (.areturn, 1) := by decide +kernel
theorem pdGI : parseMethodDescriptor "(I)[Ljava/lang/Object;" = some ⟨[.int], some (.array (.object "java/lang/Object"))⟩ := by decide +kernel
set_option maxRecDepth 65536 in
set_option maxHeartbeats 40000000 in
theorem rmGI (l : Launch) (Z : State) (a0 : Array Value) (hw : ∀ d ∈ tables_1, d.before a0 Z = true) (ws : List Jvm.Cond) (pa : Addr) (pd : Addr) (dcl : Cell) (h0 : Heap) (n0 : Nat) (Z0 : n0 ≤ h0.size) (H0 : Exa Z h0 pa "java/util/ArrayList") (H1 : Fld Z h0 pa "java/util/ArrayList" "elementData" "[Ljava/lang/Object;" (.ref pd)) (H2 : Fld Z h0 pa "java/util/ArrayList" "size" "I" (.int 0)) (H3 : Fld Z h0 pa "java/util/AbstractList" "modCount" "I" (.int 1)) (nw_pa : n0 ≤ pa) (O0 : Old Z n0 h0) (SDE : Sta Z Z.heap "java/util/ArrayList" "DEFAULTCAPACITY_EMPTY_ELEMENTDATA" "[Ljava/lang/Object;" (.ref pd)) (ADE : Arr Z Z.heap pd dcl (.object "java/lang/Object")) (NDE : dcl.slots.size.toInt32 = (0 : Int32)) :
    MetFree l (⟨"java/util/ArrayList", "grow", "(I)[Ljava/lang/Object;"⟩ : MethodName) (head1 (Jvm.Cond.code (⟨"java/util/ArrayList", "grow", "(I)[Ljava/lang/Object;"⟩ : MethodName) jdk_38_method_6_code 4 (some (.array (.object "java/lang/Object"))) :: ws) ({ frames := 1, cells := 1, slots := 10, locals := 14 } : Room)) (fun aa U => aa = #[(.ref pa), (.int 1)] ∧ Z.Warmed39 U.vm ∧ U.heap = h0) (fun _ _ _ _ _ => True) (fun _ U o U' => ∃ v L, o = .returned v ∧ QGI Z pa pd dcl h0 n0 v U'.heap L ∧ FrameEnd U o U' L ({ frames := 1, cells := 1, slots := 10, locals := 14 } : Room).cells ({ frames := 1, cells := 1, slots := 10, locals := 14 } : Room).slots) := by
  refine MetFree.of_bodySF (plainFor_of_name pnA0) hisR ?_
  intro p e s m args below meth c s₁ Bd hml0 hP hK
  obtain ⟨rfl, hZ, hh⟩ := hP
  have hx := Bd.exec
  have hby := Bd.bytes
  have hlk : meth.locks = false := BodyLoose.notSynchronized Bd
  have hml : c.maxLocals = 4 := hml0
  have hown : s.vm.findClass "java/util/ArrayList" = some m.cls := findClass_of_methodNamed Bd.named
  have hnm := (name_of_methodNamed Bd.named Bd.method).1
  have X0 : Stand p l e ({ frames := 1, cells := 1, slots := 10, locals := 14 } : Room) s m #[(.ref pa), (.int 1)] below meth c s₁ [] 0 0 := Stand.of_body Bd
  have e0 : s₁.heap = h0 := by rw [← hh, Bd.state]; rfl
  have N0 := Fr.nil n0
  have ef : entryFrame m #[(.ref pa), (.int 1)] 4 = mkF m 0 #[rv pa, iv 1, .unset, .unset] [] := by first | (simp [entryFrame, mkF, argsToLocals, Value.category, maxLocals]; done) | rfl
  show Way p.tables e below (KQ s (QGI Z pa pd dcl h0 n0) ({ frames := 1, cells := 1, slots := 10, locals := 14 } : Room).cells ({ frames := 1, cells := 1, slots := 10, locals := 14 } : Room).slots) (s₁.setTop (entryFrame m #[(.ref pa), (.int 1)] 4))
  rw [ef]
  refine Way.by (fun _ k => XS.aloadN X0.here hx rfl (hb hby dGI_0) rfl rfl k) ?_
  show Way _ _ _ _ (s₁.setTop (mkF m 1 #[rv pa, iv 1, .unset, .unset] [(.ref pa)]))
  obtain ⟨T1, X2, e3, st4⟩ := getF X0 hx hZ hown (host := "") (Or.inl (tw hw 56 rfl)) Via.refl e0 H1 (g := (mkF m 1 #[rv pa, iv 1, .unset, .unset] [(.ref pa)])) rfl rfl (hb hby dGI_1)
  refine Way.by st4 ?_
  show Way _ _ _ _ (T1.setTop (mkF m 4 #[rv pa, iv 1, .unset, .unset] [(.ref pd)]))
  have ADE2 := Arr.ext O0.2 ADE
  refine Way.by (fun t k => Stand.arraylength X2 hx (hpE e3 ADE2.1) (arrS hZ ADE2) (g := (mkF m 4 #[rv pa, iv 1, .unset, .unset] [(.ref pd)])) rfl rfl (hb hby dGI_4) t k) ?_
  rw [NDE]
  show Way _ _ _ _ (T1.setTop (mkF m 5 #[rv pa, iv 1, .unset, .unset] [(.int 0)]))
  refine Way.by (fun _ k => XS.istoreN X2.here hx rfl (hb hby dGI_5) rfl (l' := #[rv pa, iv 1, iv 0, .unset]) rfl k) ?_
  show Way _ _ _ _ (T1.setTop (mkF m 6 #[rv pa, iv 1, iv 0, .unset] []))
  refine Way.by (fun _ k => XS.iloadN X2.here hx rfl (hb hby dGI_6) rfl k) ?_
  show Way _ _ _ _ (T1.setTop (mkF m 7 #[rv pa, iv 1, iv 0, .unset] [(.int 0)]))
  have b5 : ¬ (0 : Int32) < (0 : Int32) := by decide
  refine Way.by (fun _ k => XS.ifNo X2.here hx rfl (hb hby dGI_7) rfl ((if0 .gt _).trans (flt b5).2.2.1) k) ?_
  show Way _ _ _ _ (T1.setTop (mkF m 10 #[rv pa, iv 1, iv 0, .unset] []))
  refine Way.by (fun _ k => XS.aloadN X2.here hx rfl (hb hby dGI_10) rfl rfl k) ?_
  show Way _ _ _ _ (T1.setTop (mkF m 11 #[rv pa, iv 1, iv 0, .unset] [(.ref pa)]))
  obtain ⟨T6, X7, e8, st9⟩ := getF X2 hx hZ hown (host := "") (Or.inl (tw hw 56 rfl)) Via.refl e3 H1 (g := (mkF m 11 #[rv pa, iv 1, iv 0, .unset] [(.ref pa)])) rfl rfl (hb hby dGI_11)
  refine Way.by st9 ?_
  show Way _ _ _ _ (T6.setTop (mkF m 14 #[rv pa, iv 1, iv 0, .unset] [(.ref pd)]))
  obtain ⟨T10, X11, e12, st13⟩ := getS X7 hx hZ hown (host := "") (tw hw 55 rfl) Via.refl e8 (Sta.ext O0.2 SDE) (g := (mkF m 14 #[rv pa, iv 1, iv 0, .unset] [(.ref pd)])) rfl (hb hby dGI_14)
  refine Way.by st13 ?_
  show Way _ _ _ _ (T10.setTop (mkF m 17 #[rv pa, iv 1, iv 0, .unset] [(.ref pd), (.ref pd)]))
  have b14 : pd = pd := rfl
  refine Way.by (fun _ k => acmp X11 hx rfl rfl rfl (pc0 := 17) (pc' := 45) (same := true) rfl (hb hby dGI_17) rfl (by simp [b14]) (by decide) (by decide) k) ?_
  show Way _ _ _ _ (T10.setTop (mkF m 45 #[rv pa, iv 1, iv 0, .unset] []))
  refine Way.by (fun _ k => XS.aloadN X11.here hx rfl (hb hby dGI_45) rfl rfl k) ?_
  show Way _ _ _ _ (T10.setTop (mkF m 46 #[rv pa, iv 1, iv 0, .unset] [(.ref pa)]))
  refine Way.by (fun _ k => XS.bipush X11.here hx rfl (hb hby dGI_46) k) ?_
  show Way _ _ _ _ (T10.setTop (mkF m 48 #[rv pa, iv 1, iv 0, .unset] [(.int 10), (.ref pa)]))
  refine Way.by (fun _ k => XS.iloadN X11.here hx rfl (hb hby dGI_48) rfl k) ?_
  show Way _ _ _ _ (T10.setTop (mkF m 49 #[rv pa, iv 1, iv 0, .unset] [(.int 1), (.int 10), (.ref pa)]))
  obtain ⟨_, _, ⟨T15, L17, k18, n19⟩, -, X16, ⟨Lc20, hQ21, l22, y23, z24⟩, st25⟩ := Jvm.LawKit.callS X11 hx (y := (⟨"java/lang/Math", "max", "(II)I"⟩ : MethodName)) hown (mvT hZ (tw hw 82 rfl)) (mvT hZ (tw hw 83 rfl)) (mvT hZ (tw hw 84 rfl)) (mvT hZ (tw hw 85 rfl)) (by decide) (backOf (W := 1) (rmX l Z a0 hw [] (10 : Int32) (1 : Int32) (10 : Int32) h0 n0 Z0 (by decide)) hZ (tw hw 85 rfl) (tw hw 84 rfl) (by decide) (by decide)) (g := (mkF m 49 #[rv pa, iv 1, iv 0, .unset] [(.int 1), (.int 10), (.ref pa)])) rfl (by rw [hml]; rfl) (argsL := [(.int 10), (.int 1)]) (rest := [(.ref pa)]) (lenOf pdX rfl) rfl (leW rfl) (hb hby dGI_49) (fun _ _ => ⟨rfl, e12, (leB rfl), (leB rfl)⟩)
  dsimp only [Pt.U, Pt.locs, Pt.cells, Pt.slots] at X16 l22 y23 z24 st25 hQ21
  subst l22 y23 z24
  obtain ⟨rfl, N31, e27⟩ := hQ21
  have N26 := Fr.app N0 N31
  refine Way.by st25 ?_
  show Way _ _ _ _ (T15.setTop (mkF m 52 #[rv pa, iv 1, iv 0, .unset] [(.int 10), (.ref pa)]))
  obtain ⟨T33, h34, kc35, X36, e37, E38, A39, Ov40, st41⟩ := newR X16 hx hZ hown (tw hw 86 rfl) (tw hw 87 rfl) e27 (g := (mkF m 52 #[rv pa, iv 1, iv 0, .unset] [(.int 10), (.ref pa)])) rfl (hb hby dGI_52) rfl (by decide) (cap := 10) (by decide) (by decide) (by decide) (by decide)
  obtain ⟨a42, g43⟩ : ∃ z, z = h0.size := ⟨_, rfl⟩
  rw [← g43] at A39 st41
  have ne45 : pa ≠ a42 := Nat.ne_of_lt (Nat.lt_of_lt_of_eq H0.lt g43.symm)
  have nw46 : n0 ≤ a42 := Nat.le_trans Z0 (Nat.le_of_eq g43.symm)
  have hk47 : h0.size ≤ a42 := Nat.le_trans (Nat.le_refl h0.size) (Nat.le_of_eq g43.symm)
  have E48 := Exa.ext E38 H0
  have F49 := Fld.ext E38 H1
  have F50 := Fld.ext E38 H2
  have F51 := Fld.ext E38 H3
  have Z52 := Nat.le_trans Z0 E38.1
  have O53 := O0.ext E38
  have K54 := (Keep.refl h0 [pa]).ext E38
  have hz55 := Nat.le_trans (Nat.le_refl h0.size) E38.1
  have V44 : Arv Z h34 a42 kc35 (.object "java/lang/Object") (10 : Int32) [] .null := Arv.new A39 (by decide)
  refine Way.by st41 ?_
  show Way _ _ _ _ (T33.setTop (mkF m 55 #[rv pa, iv 1, iv 0, .unset] [(.ref a42), (.ref pa)]))
  refine Way.by (fun _ k => XT.dupX1 X36.here hx rfl (hb hby dGI_55) rfl rfl rfl k) ?_
  show Way _ _ _ _ (T33.setTop (mkF m 56 #[rv pa, iv 1, iv 0, .unset] [(.ref a42), (.ref pa), (.ref a42)]))
  obtain ⟨T56, h57, X58, e59, W60, st61⟩ := putF X36 hx hZ hown (host := "") (Or.inl (tw hw 56 rfl)) Via.refl e37 F49 E48 (Or.inl (tw hw 57 rfl)) (tw hw 35 rfl) (ty := (.array (.object "java/lang/Object"))) (by decide) rfl rfl (g := (mkF m 56 #[rv pa, iv 1, iv 0, .unset] [(.ref a42), (.ref pa), (.ref a42)])) rfl rfl (hb hby dGI_56)
  have N62 := Fr.snoc X58 N26 nw_pa
  have E63 := Exa.wr W60 E48
  have F64 : Fld Z h57 pa "java/util/ArrayList" "elementData" "[Ljava/lang/Object;" (.ref a42) := F49.same W60
  have F65 := F50.other W60 (Or.inr (slot_ne (Or.inl (tw hw 66 rfl)) (Or.inl (tw hw 57 rfl)) (by decide) (t := .int) (t' := (.array (.object "java/lang/Object"))) (by decide) (by decide)))
  have F66 := F51.other W60 (Or.inr (slot_ne (Or.inl (tw hw 54 rfl)) (Or.inl (tw hw 57 rfl)) (by decide) (t := .int) (t' := (.array (.object "java/lang/Object"))) (by decide) (by decide)))
  have A67 := V44.other W60 ne45.symm
  have Z68 : n0 ≤ h57.size := by rw [W60.size]; exact Z52
  have O69 := O53.wr W60 nw_pa
  have K70 := K54.wr W60 (Or.inl (List.mem_of_getElem? (i := 0) rfl))
  have hz71 : h0.size ≤ h57.size := by rw [W60.size]; exact hz55
  refine Way.by st61 ?_
  show Way _ _ _ _ (T56.setTop (mkF m 59 #[rv pa, iv 1, iv 0, .unset] [(.ref a42)]))
  refine Way.ret (v := (some (.ref a42))) X58 hlk (fun h => by rw [Bd.returns] at h; cases h) (fun fs hr => retOut X58 hx Bd.returns rfl (Or.inr (Or.inr (Or.inr (Or.inr ⟨rfl, rfl, rfl⟩)))) (hb hby dGI_59) hr) ?_ (by decide) (by decide)
  show QGI Z pa pd dcl h0 n0 _ T56.heap _
  rw [e59]
  exact ⟨a42, kc35, rfl, N62, K70, hk47, Ov40, E63, F64, F65, F66, A67⟩
def QG0 (Z : State) (pa : Addr) (pd : Addr) (dcl : Cell) (h0 : Heap) (n0 : Nat) (v : Option Value) (h : Heap) (L : List Loc) : Prop := ∃ (pe : Addr) (kk : ClassId), v = some (.ref pe) ∧ Fr n0 L ∧ Keep h0 h [pa] ∧ h0.size ≤ pe ∧ Ovr Z kk "java/lang/Object" ∧ Exa Z h pa "java/util/ArrayList" ∧ Fld Z h pa "java/util/ArrayList" "elementData" "[Ljava/lang/Object;" (.ref pe) ∧ Fld Z h pa "java/util/ArrayList" "size" "I" (.int 0) ∧ Fld Z h pa "java/util/AbstractList" "modCount" "I" (.int 1) ∧ Arv Z h pe kk (.object "java/lang/Object") (10 : Int32) [] .null
theorem dG0_0 : decode jdk_38_method_7_code 0 = .ok (.aload_n 0, 1) := by decide +kernel
theorem dG0_1 : decode jdk_38_method_7_code 1 = .ok (.aload_n 0, 1) := by decide +kernel
theorem dG0_2 : decode jdk_38_method_7_code 2 = .ok (.getfield 48, 3) := by decide +kernel
theorem dG0_5 : decode jdk_38_method_7_code 5 = .ok (.iconst 1, 1) := by decide +kernel
theorem dG0_6 : decode jdk_38_method_7_code 6 = .ok (.iadd, 1) := by decide +kernel
theorem dG0_7 : decode jdk_38_method_7_code 7 = .ok (.invokevirtual 69, 3) := by decide +kernel
theorem dG0_10 : decode jdk_38_method_7_code 10 = .ok (.areturn, 1) := by decide +kernel
theorem pdG0 : parseMethodDescriptor "()[Ljava/lang/Object;" = some ⟨[], some (.array (.object "java/lang/Object"))⟩ := by decide +kernel
set_option maxRecDepth 65536 in
set_option maxHeartbeats 40000000 in
theorem rmG0 (l : Launch) (Z : State) (a0 : Array Value) (hw : ∀ d ∈ tables_1, d.before a0 Z = true) (ws : List Jvm.Cond) (pa : Addr) (pd : Addr) (dcl : Cell) (h0 : Heap) (n0 : Nat) (Z0 : n0 ≤ h0.size) (H0 : Exa Z h0 pa "java/util/ArrayList") (H1 : Fld Z h0 pa "java/util/ArrayList" "elementData" "[Ljava/lang/Object;" (.ref pd)) (H2 : Fld Z h0 pa "java/util/ArrayList" "size" "I" (.int 0)) (H3 : Fld Z h0 pa "java/util/AbstractList" "modCount" "I" (.int 1)) (nw_pa : n0 ≤ pa) (O0 : Old Z n0 h0) (SDE : Sta Z Z.heap "java/util/ArrayList" "DEFAULTCAPACITY_EMPTY_ELEMENTDATA" "[Ljava/lang/Object;" (.ref pd)) (ADE : Arr Z Z.heap pd dcl (.object "java/lang/Object")) (NDE : dcl.slots.size.toInt32 = (0 : Int32)) :
    MetFree l (⟨"java/util/ArrayList", "grow", "()[Ljava/lang/Object;"⟩ : MethodName) (head1 (Jvm.Cond.code (⟨"java/util/ArrayList", "grow", "()[Ljava/lang/Object;"⟩ : MethodName) jdk_38_method_7_code 1 (some (.array (.object "java/lang/Object"))) :: ws) ({ frames := 2, cells := 1, slots := 10, locals := 30 } : Room)) (fun aa U => aa = #[(.ref pa)] ∧ Z.Warmed39 U.vm ∧ U.heap = h0) (fun _ _ _ _ _ => True) (fun _ U o U' => ∃ v L, o = .returned v ∧ QG0 Z pa pd dcl h0 n0 v U'.heap L ∧ FrameEnd U o U' L ({ frames := 2, cells := 1, slots := 10, locals := 30 } : Room).cells ({ frames := 2, cells := 1, slots := 10, locals := 30 } : Room).slots) := by
  refine MetFree.of_bodySF (plainFor_of_name pnA0) hisR ?_
  intro p e s m args below meth c s₁ Bd hml0 hP hK
  obtain ⟨rfl, hZ, hh⟩ := hP
  have hx := Bd.exec
  have hby := Bd.bytes
  have hlk : meth.locks = false := BodyLoose.notSynchronized Bd
  have hml : c.maxLocals = 1 := hml0
  have hown : s.vm.findClass "java/util/ArrayList" = some m.cls := findClass_of_methodNamed Bd.named
  have hnm := (name_of_methodNamed Bd.named Bd.method).1
  have X0 : Stand p l e ({ frames := 2, cells := 1, slots := 10, locals := 30 } : Room) s m #[(.ref pa)] below meth c s₁ [] 0 0 := Stand.of_body Bd
  have e0 : s₁.heap = h0 := by rw [← hh, Bd.state]; rfl
  have N0 := Fr.nil n0
  have ef : entryFrame m #[(.ref pa)] 1 = mkF m 0 #[rv pa] [] := by first | (simp [entryFrame, mkF, argsToLocals, Value.category, maxLocals]; done) | rfl
  show Way p.tables e below (KQ s (QG0 Z pa pd dcl h0 n0) ({ frames := 2, cells := 1, slots := 10, locals := 30 } : Room).cells ({ frames := 2, cells := 1, slots := 10, locals := 30 } : Room).slots) (s₁.setTop (entryFrame m #[(.ref pa)] 1))
  rw [ef]
  refine Way.by (fun _ k => XS.aloadN X0.here hx rfl (hb hby dG0_0) rfl rfl k) ?_
  show Way _ _ _ _ (s₁.setTop (mkF m 1 #[rv pa] [(.ref pa)]))
  refine Way.by (fun _ k => XS.aloadN X0.here hx rfl (hb hby dG0_1) rfl rfl k) ?_
  show Way _ _ _ _ (s₁.setTop (mkF m 2 #[rv pa] [(.ref pa), (.ref pa)]))
  obtain ⟨T1, X2, e3, st4⟩ := getF X0 hx hZ hown (host := "") (Or.inl (tw hw 65 rfl)) Via.refl e0 H2 (g := (mkF m 2 #[rv pa] [(.ref pa), (.ref pa)])) rfl rfl (hb hby dG0_2)
  refine Way.by st4 ?_
  show Way _ _ _ _ (T1.setTop (mkF m 5 #[rv pa] [(.int 0), (.ref pa)]))
  refine Way.by (fun _ k => XS.iconst X2.here hx rfl (hb hby dG0_5) k) ?_
  show Way _ _ _ _ (T1.setTop (mkF m 6 #[rv pa] [(.int 1), (.int 0), (.ref pa)]))
  refine Way.by (fun _ k => XS.iadd X2.here hx rfl (hb hby dG0_6) rfl k) ?_
  show Way _ _ _ _ (T1.setTop (mkF m 7 #[rv pa] [(.int 1), (.ref pa)]))
  obtain ⟨cq21, qa22, qb23⟩ := H0.cell
  obtain ⟨_, _, ⟨T5, L7, k8, n9⟩, -, X6, ⟨Lc10, hQ11, l12, y13, z14⟩, st15⟩ := X2.privateBack hx (y := (⟨"java/util/ArrayList", "grow", "(I)[Ljava/lang/Object;"⟩ : MethodName)) hown (mvT hZ (tw hw 77 rfl)) (mvT hZ (tw hw 78 rfl)) (mvT hZ (tw hw 80 rfl)) (Cond.privateMethod_at (mvP hZ (tw hw 79 rfl) (args := #[]))) (mvT hZ (tw hw 81 rfl)) (by decide) (backOf (W := 0) (rmGI l Z a0 hw [] pa pd dcl h0 n0 Z0 H0 H1 H2 H3 nw_pa O0 SDE ADE NDE) hZ (tw hw 81 rfl) (tw hw 36 rfl) (by decide) (by decide)) (g := (mkF m 7 #[rv pa] [(.int 1), (.ref pa)])) rfl (by rw [hml]; rfl) (Steps.refl _) (a := pa) (by rw [e3]; exact qa22) qb23 (argsL := [(.int 1)]) (rest := []) (lenOf pdGI rfl) rfl (leW rfl) (hb hby dG0_7) (fun _ _ => ⟨rfl, e3, (leB rfl), (leB rfl)⟩)
  dsimp only [Pt.U, Pt.locs, Pt.cells, Pt.slots] at X6 l12 y13 z14 st15 hQ11
  subst l12 y13 z14
  obtain ⟨x_pe34, x_kk33, rfl, N24, K25, fr_pe31, pu_OV32, F_026, F_127, F_228, F_329, F_430⟩ := hQ11
  have N16 := Fr.app N0 N24
  have ne35 : pa ≠ x_pe34 := Nat.ne_of_lt (Nat.lt_of_lt_of_le H0.lt fr_pe31)
  have nw36 : n0 ≤ x_pe34 := Nat.le_trans Z0 fr_pe31
  have hk37 : h0.size ≤ x_pe34 := Nat.le_trans (Nat.le_refl h0.size) fr_pe31
  have E38 := H0.keep K25
  have Z39 := Nat.le_trans Z0 K25.1
  have O40 := O0.keep K25 (allS nw_pa all0)
  have K41 := (Keep.refl h0 [pa]).trans K25 (allS (Or.inl (List.mem_of_getElem? (i := 0) rfl)) all0)
  have hz42 := Nat.le_trans (Nat.le_refl h0.size) K25.1
  refine Way.to st15 ?_
  show Way _ _ _ _ (T5.setTop (mkF m 10 #[rv pa] [(.ref x_pe34)]))
  refine Way.ret (v := (some (.ref x_pe34))) X6 hlk (fun h => by rw [Bd.returns] at h; cases h) (fun fs hr => retOut X6 hx Bd.returns rfl (Or.inr (Or.inr (Or.inr (Or.inr ⟨rfl, rfl, rfl⟩)))) (hb hby dG0_10) hr) ?_ (by decide) (by decide)
  show QG0 Z pa pd dcl h0 n0 _ T5.heap _
  skip
  exact ⟨x_pe34, x_kk33, rfl, N16, K41, hk37, pu_OV32, F_026, F_127, F_228, F_329, F_430⟩
def QJ0 (Z : State) (pa : Addr) (pd : Addr) (dcl : Cell) (px : Addr) (h0 : Heap) (n0 : Nat) (v : Option Value) (h : Heap) (L : List Loc) : Prop := ∃ (pe : Addr) (kk : ClassId), v = none ∧ Fr n0 L ∧ Keep h0 h [pa] ∧ h0.size ≤ pe ∧ Ovr Z kk "java/lang/Object" ∧ Exa Z h pa "java/util/ArrayList" ∧ Fld Z h pa "java/util/ArrayList" "elementData" "[Ljava/lang/Object;" (.ref pe) ∧ Fld Z h pa "java/util/ArrayList" "size" "I" (.int 1) ∧ Fld Z h pa "java/util/AbstractList" "modCount" "I" (.int 1) ∧ Arv Z h pe kk (.object "java/lang/Object") (10 : Int32) [(.ref px)] .null
theorem dJ0_0 : decode jdk_38_method_24_code 0 = .ok (.iload_n 3, 1) := by decide +kernel
theorem dJ0_1 : decode jdk_38_method_24_code 1 = .ok (.aload_n 2, 1) := by decide +kernel
theorem dJ0_2 : decode jdk_38_method_24_code 2 = .ok (.arraylength, 1) := by decide +kernel
theorem dJ0_3 : decode jdk_38_method_24_code 3 = .ok (.if_icmp .ne 8, 3) := by decide +kernel
theorem dJ0_6 : decode jdk_38_method_24_code 6 = .ok (.aload_n 0, 1) := by decide +kernel
theorem dJ0_7 : decode jdk_38_method_24_code 7 = .ok (.invokevirtual 129, 3) := by decide +kernel
theorem dJ0_10 : decode jdk_38_method_24_code 10 = .ok (.astore_n 2, 1) := by decide +kernel
theorem dJ0_11 : decode jdk_38_method_24_code 11 = .ok (.aload_n 2, 1) := by decide +kernel
theorem dJ0_12 : decode jdk_38_method_24_code 12 = .ok (.iload_n 3, 1) := by decide +kernel
theorem dJ0_13 : decode jdk_38_method_24_code 13 = .ok (.aload_n 1, 1) := by decide +kernel
theorem dJ0_14 : decode jdk_38_method_24_code 14 = .ok (.aastore, 1) := by decide +kernel
theorem dJ0_15 : decode jdk_38_method_24_code 15 = .ok (.aload_n 0, 1) := by decide +kernel
theorem dJ0_16 : decode jdk_38_method_24_code 16 = .ok (.iload_n 3, 1) := by decide +kernel
theorem dJ0_17 : decode jdk_38_method_24_code 17 = .ok (.iconst 1, 1) := by decide +kernel
theorem dJ0_18 : decode jdk_38_method_24_code 18 = .ok (.iadd, 1) := by decide +kernel
theorem dJ0_19 : decode jdk_38_method_24_code 19 = .ok (.putfield 48, 3) := by decide +kernel
theorem dJ0_22 : decode jdk_38_method_24_code 22 = .ok (.return_, 1) := by decide +kernel
theorem pdJ0 : parseMethodDescriptor "(Ljava/lang/Object;[Ljava/lang/Object;I)V" = some ⟨[(.object "java/lang/Object"), (.array (.object "java/lang/Object")), .int], none⟩ := by decide +kernel
set_option maxRecDepth 65536 in
set_option maxHeartbeats 40000000 in
theorem rmJ0 (l : Launch) (Z : State) (a0 : Array Value) (hw : ∀ d ∈ tables_1, d.before a0 Z = true) (ws : List Jvm.Cond) (pa : Addr) (pd : Addr) (dcl : Cell) (px : Addr) (h0 : Heap) (n0 : Nat) (Z0 : n0 ≤ h0.size) (H0 : Exa Z h0 pa "java/util/ArrayList") (H1 : Fld Z h0 pa "java/util/ArrayList" "elementData" "[Ljava/lang/Object;" (.ref pd)) (H2 : Fld Z h0 pa "java/util/ArrayList" "size" "I" (.int 0)) (H3 : Fld Z h0 pa "java/util/AbstractList" "modCount" "I" (.int 1)) (H4 : Exa Z h0 px "java/lang/String") (nw_pa : n0 ≤ pa) (O0 : Old Z n0 h0) (SDE : Sta Z Z.heap "java/util/ArrayList" "DEFAULTCAPACITY_EMPTY_ELEMENTDATA" "[Ljava/lang/Object;" (.ref pd)) (ADE : Arr Z Z.heap pd dcl (.object "java/lang/Object")) (NDE : dcl.slots.size.toInt32 = (0 : Int32)) :
    MetFree l (⟨"java/util/ArrayList", "add", "(Ljava/lang/Object;[Ljava/lang/Object;I)V"⟩ : MethodName) (head1 (Jvm.Cond.code (⟨"java/util/ArrayList", "add", "(Ljava/lang/Object;[Ljava/lang/Object;I)V"⟩ : MethodName) jdk_38_method_24_code 4 none :: ws) ({ frames := 3, cells := 1, slots := 10, locals := 42 } : Room)) (fun aa U => aa = #[(.ref pa), (.ref px), (.ref pd), (.int 0)] ∧ Z.Warmed39 U.vm ∧ U.heap = h0) (fun _ _ _ _ _ => True) (fun _ U o U' => ∃ v L, o = .returned v ∧ QJ0 Z pa pd dcl px h0 n0 v U'.heap L ∧ FrameEnd U o U' L ({ frames := 3, cells := 1, slots := 10, locals := 42 } : Room).cells ({ frames := 3, cells := 1, slots := 10, locals := 42 } : Room).slots) := by
  refine MetFree.of_bodySF (plainFor_of_name pnA0) hisR ?_
  intro p e s m args below meth c s₁ Bd hml0 hP hK
  obtain ⟨rfl, hZ, hh⟩ := hP
  have hx := Bd.exec
  have hby := Bd.bytes
  have hlk : meth.locks = false := BodyLoose.notSynchronized Bd
  have hml : c.maxLocals = 4 := hml0
  have hown : s.vm.findClass "java/util/ArrayList" = some m.cls := findClass_of_methodNamed Bd.named
  have hnm := (name_of_methodNamed Bd.named Bd.method).1
  have X0 : Stand p l e ({ frames := 3, cells := 1, slots := 10, locals := 42 } : Room) s m #[(.ref pa), (.ref px), (.ref pd), (.int 0)] below meth c s₁ [] 0 0 := Stand.of_body Bd
  have e0 : s₁.heap = h0 := by rw [← hh, Bd.state]; rfl
  have N0 := Fr.nil n0
  have ef : entryFrame m #[(.ref pa), (.ref px), (.ref pd), (.int 0)] 4 = mkF m 0 #[rv pa, rv px, rv pd, iv 0] [] := by first | (simp [entryFrame, mkF, argsToLocals, Value.category, maxLocals]; done) | rfl
  show Way p.tables e below (KQ s (QJ0 Z pa pd dcl px h0 n0) ({ frames := 3, cells := 1, slots := 10, locals := 42 } : Room).cells ({ frames := 3, cells := 1, slots := 10, locals := 42 } : Room).slots) (s₁.setTop (entryFrame m #[(.ref pa), (.ref px), (.ref pd), (.int 0)] 4))
  rw [ef]
  refine Way.by (fun _ k => XS.iloadN X0.here hx rfl (hb hby dJ0_0) rfl k) ?_
  show Way _ _ _ _ (s₁.setTop (mkF m 1 #[rv pa, rv px, rv pd, iv 0] [(.int 0)]))
  refine Way.by (fun _ k => XS.aloadN X0.here hx rfl (hb hby dJ0_1) rfl rfl k) ?_
  show Way _ _ _ _ (s₁.setTop (mkF m 2 #[rv pa, rv px, rv pd, iv 0] [(.ref pd), (.int 0)]))
  have ADE2 := Arr.ext O0.2 ADE
  refine Way.by (fun t k => Stand.arraylength X0 hx (hpE e0 ADE2.1) (arrS hZ ADE2) (g := (mkF m 2 #[rv pa, rv px, rv pd, iv 0] [(.ref pd), (.int 0)])) rfl rfl (hb hby dJ0_2) t k) ?_
  rw [NDE]
  show Way _ _ _ _ (s₁.setTop (mkF m 3 #[rv pa, rv px, rv pd, iv 0] [(.int 0), (.int 0)]))
  have b1 : (0 : Int32) = (0 : Int32) := by decide
  refine Way.by (fun _ k => XS.icmpNo X0.here hx rfl (hb hby dJ0_3) rfl (teq b1).2 k) ?_
  show Way _ _ _ _ (s₁.setTop (mkF m 6 #[rv pa, rv px, rv pd, iv 0] []))
  refine Way.by (fun _ k => XS.aloadN X0.here hx rfl (hb hby dJ0_6) rfl rfl k) ?_
  show Way _ _ _ _ (s₁.setTop (mkF m 7 #[rv pa, rv px, rv pd, iv 0] [(.ref pa)]))
  obtain ⟨cq18, qa19, qb20⟩ := H0.cell
  obtain ⟨_, _, ⟨T2, L4, k5, n6⟩, -, X3, ⟨Lc7, hQ8, l9, y10, z11⟩, st12⟩ := X0.privateBack hx (y := (⟨"java/util/ArrayList", "grow", "()[Ljava/lang/Object;"⟩ : MethodName)) hown (mvT hZ (tw hw 72 rfl)) (mvT hZ (tw hw 73 rfl)) (mvT hZ (tw hw 75 rfl)) (Cond.privateMethod_at (mvP hZ (tw hw 74 rfl) (args := #[]))) (mvT hZ (tw hw 76 rfl)) (by decide) (backOf (W := 0) (rmG0 l Z a0 hw [] pa pd dcl h0 n0 Z0 H0 H1 H2 H3 nw_pa O0 SDE ADE NDE) hZ (tw hw 76 rfl) (tw hw 36 rfl) (by decide) (by decide)) (g := (mkF m 7 #[rv pa, rv px, rv pd, iv 0] [(.ref pa)])) rfl (by rw [hml]; rfl) (Steps.refl _) (a := pa) (by rw [e0]; exact qa19) qb20 (argsL := []) (rest := []) (lenOf pdG0 rfl) rfl (leW rfl) (hb hby dJ0_7) (fun _ _ => ⟨rfl, e0, (leB rfl), (leB rfl)⟩)
  dsimp only [Pt.U, Pt.locs, Pt.cells, Pt.slots] at X3 l9 y10 z11 st12 hQ8
  subst l9 y10 z11
  obtain ⟨x_pe31, x_kk30, rfl, N21, K22, fr_pe28, pu_OV29, F_023, F_124, F_225, F_326, F_427⟩ := hQ8
  have N13 := Fr.app N0 N21
  have ne32 : pa ≠ x_pe31 := Nat.ne_of_lt (Nat.lt_of_lt_of_le H0.lt fr_pe28)
  have ne33 : px ≠ x_pe31 := Nat.ne_of_lt (Nat.lt_of_lt_of_le H4.lt fr_pe28)
  have nw34 : n0 ≤ x_pe31 := Nat.le_trans Z0 fr_pe28
  have hk35 : h0.size ≤ x_pe31 := Nat.le_trans (Nat.le_refl h0.size) fr_pe28
  have E36 := H0.keep K22
  have E37 := H4.keep K22
  have Z38 := Nat.le_trans Z0 K22.1
  have O39 := O0.keep K22 (allS nw_pa all0)
  have K40 := (Keep.refl h0 [pa]).trans K22 (allS (Or.inl (List.mem_of_getElem? (i := 0) rfl)) all0)
  have hz41 := Nat.le_trans (Nat.le_refl h0.size) K22.1
  refine Way.to st12 ?_
  show Way _ _ _ _ (T2.setTop (mkF m 10 #[rv pa, rv px, rv pd, iv 0] [(.ref x_pe31)]))
  refine Way.by (fun _ k => XS.astoreN X3.here hx rfl (hb hby dJ0_10) rfl rfl (l' := #[rv pa, rv px, rv x_pe31, iv 0]) rfl k) ?_
  show Way _ _ _ _ (T2.setTop (mkF m 11 #[rv pa, rv px, rv x_pe31, iv 0] []))
  refine Way.by (fun _ k => XS.aloadN X3.here hx rfl (hb hby dJ0_11) rfl rfl k) ?_
  show Way _ _ _ _ (T2.setTop (mkF m 12 #[rv pa, rv px, rv x_pe31, iv 0] [(.ref x_pe31)]))
  refine Way.by (fun _ k => XS.iloadN X3.here hx rfl (hb hby dJ0_12) rfl k) ?_
  show Way _ _ _ _ (T2.setTop (mkF m 13 #[rv pa, rv px, rv x_pe31, iv 0] [(.int 0), (.ref x_pe31)]))
  refine Way.by (fun _ k => XS.aloadN X3.here hx rfl (hb hby dJ0_13) rfl rfl k) ?_
  show Way _ _ _ _ (T2.setTop (mkF m 14 #[rv pa, rv px, rv x_pe31, iv 0] [(.ref px), (.int 0), (.ref x_pe31)]))
  have V42 : Arv Z T2.heap x_pe31 x_kk30 (.object "java/lang/Object") (10 : Int32) [.null] .null := F_427.pad (pad_rep [] .null 1)
  obtain ⟨c43, A44, q45, S46, M47, H48, U49⟩ := id V42
  obtain ⟨T50, h51, X52, e53, W54, st55⟩ := stR X3 hx hZ rfl A44 (j := (0 : Int32)) (inb_of S46 ⟨(by decide), (by decide)⟩) rfl (Sto.ofV A44 q45 pu_OV29 (Ins.of_exa E37 (tw hw 88 rfl))) (g := (mkF m 14 #[rv pa, rv px, rv x_pe31, iv 0] [(.ref px), (.int 0), (.ref x_pe31)])) rfl rfl (hb hby dJ0_14)
  have N56 := Fr.snoc X52 N13 nw34
  have V57 : Arv Z h51 x_pe31 x_kk30 (.object "java/lang/Object") (10 : Int32) [(.ref px)] .null := Arv.set A44 q45 S46 M47 H48 U49 rfl W54 0 rfl (leB rfl)
  have E58 := Exa.wr W54 F_023
  have E59 := Exa.wr W54 E37
  have F60 := F_124.other W54 (Or.inl ne32)
  have F61 := F_225.other W54 (Or.inl ne32)
  have F62 := F_326.other W54 (Or.inl ne32)
  have Z63 : n0 ≤ h51.size := by rw [W54.size]; exact Z38
  have O64 := O39.wr W54 nw34
  have K65 := K40.wr W54 (Or.inr hk35)
  have hz66 : h0.size ≤ h51.size := by rw [W54.size]; exact hz41
  refine Way.by st55 ?_
  show Way _ _ _ _ (T50.setTop (mkF m 15 #[rv pa, rv px, rv x_pe31, iv 0] []))
  refine Way.by (fun _ k => XS.aloadN X52.here hx rfl (hb hby dJ0_15) rfl rfl k) ?_
  show Way _ _ _ _ (T50.setTop (mkF m 16 #[rv pa, rv px, rv x_pe31, iv 0] [(.ref pa)]))
  refine Way.by (fun _ k => XS.iloadN X52.here hx rfl (hb hby dJ0_16) rfl k) ?_
  show Way _ _ _ _ (T50.setTop (mkF m 17 #[rv pa, rv px, rv x_pe31, iv 0] [(.int 0), (.ref pa)]))
  refine Way.by (fun _ k => XS.iconst X52.here hx rfl (hb hby dJ0_17) k) ?_
  show Way _ _ _ _ (T50.setTop (mkF m 18 #[rv pa, rv px, rv x_pe31, iv 0] [(.int 1), (.int 0), (.ref pa)]))
  refine Way.by (fun _ k => XS.iadd X52.here hx rfl (hb hby dJ0_18) rfl k) ?_
  show Way _ _ _ _ (T50.setTop (mkF m 19 #[rv pa, rv px, rv x_pe31, iv 0] [(.int 1), (.ref pa)]))
  obtain ⟨T67, h68, X69, e70, W71, st72⟩ := putF X52 hx hZ hown (host := "") (Or.inl (tw hw 65 rfl)) Via.refl e53 F61 E58 (Or.inl (tw hw 66 rfl)) (tw hw 35 rfl) (ty := .int) (by decide) rfl rfl (g := (mkF m 19 #[rv pa, rv px, rv x_pe31, iv 0] [(.int 1), (.ref pa)])) rfl rfl (hb hby dJ0_19)
  have N73 := Fr.snoc X69 N56 nw_pa
  have E74 := Exa.wr W71 E58
  have E75 := Exa.wr W71 E59
  have F76 := F60.other W71 (Or.inr (slot_ne (Or.inl (tw hw 57 rfl)) (Or.inl (tw hw 66 rfl)) (by decide) (t := (.array (.object "java/lang/Object"))) (t' := .int) (by decide) (by decide)))
  have F77 : Fld Z h68 pa "java/util/ArrayList" "size" "I" (.int 1) := F61.same W71
  have F78 := F62.other W71 (Or.inr (slot_ne (Or.inl (tw hw 54 rfl)) (Or.inl (tw hw 66 rfl)) (by decide) (t := .int) (t' := .int) (by decide) (by decide)))
  have A79 := V57.other W71 ne32.symm
  have Z80 : n0 ≤ h68.size := by rw [W71.size]; exact Z63
  have O81 := O64.wr W71 nw_pa
  have K82 := K65.wr W71 (Or.inl (List.mem_of_getElem? (i := 0) rfl))
  have hz83 : h0.size ≤ h68.size := by rw [W71.size]; exact hz66
  refine Way.by st72 ?_
  show Way _ _ _ _ (T67.setTop (mkF m 22 #[rv pa, rv px, rv x_pe31, iv 0] []))
  refine Way.ret (v := none) X69 hlk (fun _ => rfl) (fun fs hr => X69.returnOut hx Bd.returns (hb hby dJ0_22) hr) ?_ (by decide) (by decide)
  show QJ0 Z pa pd dcl px h0 n0 _ T67.heap _
  rw [e70]
  exact ⟨x_pe31, x_kk30, rfl, N73, K82, hk35, pu_OV29, E74, F76, F77, F78, A79⟩
def QAD0 (Z : State) (pa : Addr) (pd : Addr) (dcl : Cell) (px : Addr) (h0 : Heap) (n0 : Nat) (v : Option Value) (h : Heap) (L : List Loc) : Prop := ∃ (pe : Addr) (kk : ClassId), v = some (.int 1) ∧ Fr n0 L ∧ Keep h0 h [pa] ∧ h0.size ≤ pe ∧ Ovr Z kk "java/lang/Object" ∧ Exa Z h pa "java/util/ArrayList" ∧ Fld Z h pa "java/util/ArrayList" "elementData" "[Ljava/lang/Object;" (.ref pe) ∧ Fld Z h pa "java/util/ArrayList" "size" "I" (.int 1) ∧ Fld Z h pa "java/util/AbstractList" "modCount" "I" (.int 1) ∧ Arv Z h pe kk (.object "java/lang/Object") (10 : Int32) [(.ref px)] .null
theorem dAD0_0 : decode jdk_38_method_25_code 0 = .ok (.aload_n 0, 1) := by decide +kernel
theorem dAD0_1 : decode jdk_38_method_25_code 1 = .ok (.dup, 1) := by decide +kernel
theorem dAD0_2 : decode jdk_38_method_25_code 2 = .ok (.getfield 63, 3) := by decide +kernel
theorem dAD0_5 : decode jdk_38_method_25_code 5 = .ok (.iconst 1, 1) := by decide +kernel
theorem dAD0_6 : decode jdk_38_method_25_code 6 = .ok (.iadd, 1) := by decide +kernel
theorem dAD0_7 : decode jdk_38_method_25_code 7 = .ok (.putfield 63, 3) := by decide +kernel
theorem dAD0_10 : decode jdk_38_method_25_code 10 = .ok (.aload_n 0, 1) := by decide +kernel
theorem dAD0_11 : decode jdk_38_method_25_code 11 = .ok (.aload_n 1, 1) := by decide +kernel
theorem dAD0_12 : decode jdk_38_method_25_code 12 = .ok (.aload_n 0, 1) := by decide +kernel
theorem dAD0_13 : decode jdk_38_method_25_code 13 = .ok (.getfield 9, 3) := by decide +kernel
theorem dAD0_16 : decode jdk_38_method_25_code 16 = .ok (.aload_n 0, 1) := by decide +kernel
theorem dAD0_17 : decode jdk_38_method_25_code 17 = .ok (.getfield 48, 3) := by decide +kernel
theorem dAD0_20 : decode jdk_38_method_25_code 20 = .ok (.invokevirtual 131, 3) := by decide +kernel
theorem dAD0_23 : decode jdk_38_method_25_code 23 = .ok (.iconst 1, 1) := by decide +kernel
theorem dAD0_24 : decode jdk_38_method_25_code 24 = .ok (.ireturn, 1) := by decide +kernel
theorem pdAD0 : parseMethodDescriptor "(Ljava/lang/Object;)Z" = some ⟨[(.object "java/lang/Object")], some .boolean⟩ := by decide +kernel
set_option maxRecDepth 65536 in
set_option maxHeartbeats 40000000 in
theorem rmAD0 (l : Launch) (Z : State) (a0 : Array Value) (hw : ∀ d ∈ tables_1, d.before a0 Z = true) (ws : List Jvm.Cond) (pa : Addr) (pd : Addr) (dcl : Cell) (px : Addr) (h0 : Heap) (n0 : Nat) (Z0 : n0 ≤ h0.size) (H0 : Exa Z h0 pa "java/util/ArrayList") (H1 : Fld Z h0 pa "java/util/ArrayList" "elementData" "[Ljava/lang/Object;" (.ref pd)) (H2 : Fld Z h0 pa "java/util/ArrayList" "size" "I" (.int 0)) (H3 : Fld Z h0 pa "java/util/AbstractList" "modCount" "I" (.int 0)) (H4 : Exa Z h0 px "java/lang/String") (nw_pa : n0 ≤ pa) (O0 : Old Z n0 h0) (SDE : Sta Z Z.heap "java/util/ArrayList" "DEFAULTCAPACITY_EMPTY_ELEMENTDATA" "[Ljava/lang/Object;" (.ref pd)) (ADE : Arr Z Z.heap pd dcl (.object "java/lang/Object")) (NDE : dcl.slots.size.toInt32 = (0 : Int32)) :
    MetFree l (⟨"java/util/ArrayList", "add", "(Ljava/lang/Object;)Z"⟩ : MethodName) (head1 (Jvm.Cond.code (⟨"java/util/ArrayList", "add", "(Ljava/lang/Object;)Z"⟩ : MethodName) jdk_38_method_25_code 2 (some .boolean) :: ws) ({ frames := 4, cells := 1, slots := 10, locals := 57 } : Room)) (fun aa U => aa = #[(.ref pa), (.ref px)] ∧ Z.Warmed39 U.vm ∧ U.heap = h0) (fun _ _ _ _ _ => True) (fun _ U o U' => ∃ v L, o = .returned v ∧ QAD0 Z pa pd dcl px h0 n0 v U'.heap L ∧ FrameEnd U o U' L ({ frames := 4, cells := 1, slots := 10, locals := 57 } : Room).cells ({ frames := 4, cells := 1, slots := 10, locals := 57 } : Room).slots) := by
  refine MetFree.of_bodySF (plainFor_of_name pnA0) hisR ?_
  intro p e s m args below meth c s₁ Bd hml0 hP hK
  obtain ⟨rfl, hZ, hh⟩ := hP
  have hx := Bd.exec
  have hby := Bd.bytes
  have hlk : meth.locks = false := BodyLoose.notSynchronized Bd
  have hml : c.maxLocals = 2 := hml0
  have hown : s.vm.findClass "java/util/ArrayList" = some m.cls := findClass_of_methodNamed Bd.named
  have hnm := (name_of_methodNamed Bd.named Bd.method).1
  have X0 : Stand p l e ({ frames := 4, cells := 1, slots := 10, locals := 57 } : Room) s m #[(.ref pa), (.ref px)] below meth c s₁ [] 0 0 := Stand.of_body Bd
  have e0 : s₁.heap = h0 := by rw [← hh, Bd.state]; rfl
  have N0 := Fr.nil n0
  have ef : entryFrame m #[(.ref pa), (.ref px)] 2 = mkF m 0 #[rv pa, rv px] [] := by first | (simp [entryFrame, mkF, argsToLocals, Value.category, maxLocals]; done) | rfl
  show Way p.tables e below (KQ s (QAD0 Z pa pd dcl px h0 n0) ({ frames := 4, cells := 1, slots := 10, locals := 57 } : Room).cells ({ frames := 4, cells := 1, slots := 10, locals := 57 } : Room).slots) (s₁.setTop (entryFrame m #[(.ref pa), (.ref px)] 2))
  rw [ef]
  refine Way.by (fun _ k => XS.aloadN X0.here hx rfl (hb hby dAD0_0) rfl rfl k) ?_
  show Way _ _ _ _ (s₁.setTop (mkF m 1 #[rv pa, rv px] [(.ref pa)]))
  refine Way.by (fun _ k => XS.dup X0.here hx rfl (hb hby dAD0_1) rfl rfl k) ?_
  show Way _ _ _ _ (s₁.setTop (mkF m 2 #[rv pa, rv px] [(.ref pa), (.ref pa)]))
  obtain ⟨T1, X2, e3, st4⟩ := getF X0 hx hZ hown (host := "") (Or.inl (tw hw 63 rfl)) (Via.of (tw hw 64 rfl)) e0 H3 (g := (mkF m 2 #[rv pa, rv px] [(.ref pa), (.ref pa)])) rfl rfl (hb hby dAD0_2)
  refine Way.by st4 ?_
  show Way _ _ _ _ (T1.setTop (mkF m 5 #[rv pa, rv px] [(.int 0), (.ref pa)]))
  refine Way.by (fun _ k => XS.iconst X2.here hx rfl (hb hby dAD0_5) k) ?_
  show Way _ _ _ _ (T1.setTop (mkF m 6 #[rv pa, rv px] [(.int 1), (.int 0), (.ref pa)]))
  refine Way.by (fun _ k => XS.iadd X2.here hx rfl (hb hby dAD0_6) rfl k) ?_
  show Way _ _ _ _ (T1.setTop (mkF m 7 #[rv pa, rv px] [(.int 1), (.ref pa)]))
  obtain ⟨T5, h6, X7, e8, W9, st10⟩ := putF X2 hx hZ hown (host := "") (Or.inl (tw hw 63 rfl)) (Via.of (tw hw 64 rfl)) e3 H3 H0 (Or.inl (tw hw 54 rfl)) (tw hw 35 rfl) (ty := .int) (by decide) rfl rfl (g := (mkF m 7 #[rv pa, rv px] [(.int 1), (.ref pa)])) rfl rfl (hb hby dAD0_7)
  have N11 := Fr.snoc X7 N0 nw_pa
  have E12 := Exa.wr W9 H0
  have F13 := H1.other W9 (Or.inr (slot_ne (Or.inl (tw hw 57 rfl)) (Or.inl (tw hw 54 rfl)) (by decide) (t := (.array (.object "java/lang/Object"))) (t' := .int) (by decide) (by decide)))
  have F14 := H2.other W9 (Or.inr (slot_ne (Or.inl (tw hw 66 rfl)) (Or.inl (tw hw 54 rfl)) (by decide) (t := .int) (t' := .int) (by decide) (by decide)))
  have F15 : Fld Z h6 pa "java/util/AbstractList" "modCount" "I" (.int 1) := H3.same W9
  have E16 := Exa.wr W9 H4
  have Z17 : n0 ≤ h6.size := by rw [W9.size]; exact Z0
  have O18 := O0.wr W9 nw_pa
  have K19 := (Keep.refl h0 [pa]).wr W9 (Or.inl (List.mem_of_getElem? (i := 0) rfl))
  have hz20 : h0.size ≤ h6.size := by rw [W9.size]; exact (Nat.le_refl h0.size)
  refine Way.by st10 ?_
  show Way _ _ _ _ (T5.setTop (mkF m 10 #[rv pa, rv px] []))
  refine Way.by (fun _ k => XS.aloadN X7.here hx rfl (hb hby dAD0_10) rfl rfl k) ?_
  show Way _ _ _ _ (T5.setTop (mkF m 11 #[rv pa, rv px] [(.ref pa)]))
  refine Way.by (fun _ k => XS.aloadN X7.here hx rfl (hb hby dAD0_11) rfl rfl k) ?_
  show Way _ _ _ _ (T5.setTop (mkF m 12 #[rv pa, rv px] [(.ref px), (.ref pa)]))
  refine Way.by (fun _ k => XS.aloadN X7.here hx rfl (hb hby dAD0_12) rfl rfl k) ?_
  show Way _ _ _ _ (T5.setTop (mkF m 13 #[rv pa, rv px] [(.ref pa), (.ref px), (.ref pa)]))
  obtain ⟨T21, X22, e23, st24⟩ := getF X7 hx hZ hown (host := "") (Or.inl (tw hw 56 rfl)) Via.refl e8 F13 (g := (mkF m 13 #[rv pa, rv px] [(.ref pa), (.ref px), (.ref pa)])) rfl rfl (hb hby dAD0_13)
  refine Way.by st24 ?_
  show Way _ _ _ _ (T21.setTop (mkF m 16 #[rv pa, rv px] [(.ref pd), (.ref px), (.ref pa)]))
  refine Way.by (fun _ k => XS.aloadN X22.here hx rfl (hb hby dAD0_16) rfl rfl k) ?_
  show Way _ _ _ _ (T21.setTop (mkF m 17 #[rv pa, rv px] [(.ref pa), (.ref pd), (.ref px), (.ref pa)]))
  obtain ⟨T25, X26, e27, st28⟩ := getF X22 hx hZ hown (host := "") (Or.inl (tw hw 65 rfl)) Via.refl e23 F14 (g := (mkF m 17 #[rv pa, rv px] [(.ref pa), (.ref pd), (.ref px), (.ref pa)])) rfl rfl (hb hby dAD0_17)
  refine Way.by st28 ?_
  show Way _ _ _ _ (T25.setTop (mkF m 20 #[rv pa, rv px] [(.int 0), (.ref pd), (.ref px), (.ref pa)]))
  obtain ⟨cq45, qa46, qb47⟩ := E12.cell
  obtain ⟨_, _, ⟨T29, L31, k32, n33⟩, -, X30, ⟨Lc34, hQ35, l36, y37, z38⟩, st39⟩ := X26.privateBack hx (y := (⟨"java/util/ArrayList", "add", "(Ljava/lang/Object;[Ljava/lang/Object;I)V"⟩ : MethodName)) hown (mvT hZ (tw hw 67 rfl)) (mvT hZ (tw hw 68 rfl)) (mvT hZ (tw hw 70 rfl)) (Cond.privateMethod_at (mvP hZ (tw hw 69 rfl) (args := #[]))) (mvT hZ (tw hw 71 rfl)) (by decide) (backOf (W := 0) (rmJ0 l Z a0 hw [] pa pd dcl px h6 n0 Z17 E12 F13 F14 F15 E16 nw_pa O18 SDE ADE NDE) hZ (tw hw 71 rfl) (tw hw 36 rfl) (by decide) (by decide)) (g := (mkF m 20 #[rv pa, rv px] [(.int 0), (.ref pd), (.ref px), (.ref pa)])) rfl (by rw [hml]; rfl) (Steps.refl _) (a := pa) (by rw [e27]; exact qa46) qb47 (argsL := [(.ref px), (.ref pd), (.int 0)]) (rest := []) (lenOf pdJ0 rfl) rfl (leW rfl) (hb hby dAD0_20) (fun _ _ => ⟨rfl, e27, (leB rfl), (leB rfl)⟩)
  dsimp only [Pt.U, Pt.locs, Pt.cells, Pt.slots] at X30 l36 y37 z38 st39 hQ35
  subst l36 y37 z38
  obtain ⟨x_pe58, x_kk57, rfl, N48, K49, fr_pe55, pu_OV56, F_050, F_151, F_252, F_353, F_454⟩ := hQ35
  have N40 := Fr.app N11 N48
  have ne59 : pa ≠ x_pe58 := Nat.ne_of_lt (Nat.lt_of_lt_of_le E12.lt fr_pe55)
  have ne60 : px ≠ x_pe58 := Nat.ne_of_lt (Nat.lt_of_lt_of_le E16.lt fr_pe55)
  have nw61 : n0 ≤ x_pe58 := Nat.le_trans Z17 fr_pe55
  have hk62 : h0.size ≤ x_pe58 := Nat.le_trans hz20 fr_pe55
  have E63 := E12.keep K49
  have E64 := E16.keep K49
  have Z65 := Nat.le_trans Z17 K49.1
  have O66 := O18.keep K49 (allS nw_pa all0)
  have K67 := K19.trans K49 (allS (Or.inl (List.mem_of_getElem? (i := 0) rfl)) all0)
  have hz68 := Nat.le_trans hz20 K49.1
  refine Way.to st39 ?_
  show Way _ _ _ _ (T29.setTop (mkF m 23 #[rv pa, rv px] []))
  refine Way.by (fun _ k => XS.iconst X30.here hx rfl (hb hby dAD0_23) k) ?_
  show Way _ _ _ _ (T29.setTop (mkF m 24 #[rv pa, rv px] [(.int 1)]))
  refine Way.ret (v := (some (.int (nar .boolean (1 : Int32))))) X30 hlk (fun h => by rw [Bd.returns] at h; cases h) (fun fs hr => retN X30 hx (t := .boolean) Bd.returns (by simp) (hb hby dAD0_24) hr) ?_ (by decide) (by decide)
  show QAD0 Z pa pd dcl px h0 n0 _ T29.heap _
  skip
  exact ⟨x_pe58, x_kk57, rfl, N40, K67, hk62, pu_OV56, F_050, F_151, F_252, F_353, F_454⟩
def QJ1 (Z : State) (pa : Addr) (pe : Addr) (kk : ClassId) (px : Addr) (x0 : Addr) (h0 : Heap) (n0 : Nat) (v : Option Value) (h : Heap) (L : List Loc) : Prop := v = none ∧ Fr n0 L ∧ Keep h0 h [pa, pe] ∧ Exa Z h pa "java/util/ArrayList" ∧ Fld Z h pa "java/util/ArrayList" "elementData" "[Ljava/lang/Object;" (.ref pe) ∧ Fld Z h pa "java/util/ArrayList" "size" "I" (.int 2) ∧ Fld Z h pa "java/util/AbstractList" "modCount" "I" (.int 2) ∧ Arv Z h pe kk (.object "java/lang/Object") (10 : Int32) [(.ref x0), (.ref px)] .null
set_option maxRecDepth 65536 in
set_option maxHeartbeats 40000000 in
theorem rmJ1 (l : Launch) (Z : State) (a0 : Array Value) (hw : ∀ d ∈ tables_1, d.before a0 Z = true) (ws : List Jvm.Cond) (pa : Addr) (pe : Addr) (kk : ClassId) (px : Addr) (x0 : Addr) (h0 : Heap) (n0 : Nat) (Z0 : n0 ≤ h0.size) (H0 : Exa Z h0 pa "java/util/ArrayList") (H1 : Fld Z h0 pa "java/util/ArrayList" "elementData" "[Ljava/lang/Object;" (.ref pe)) (H2 : Fld Z h0 pa "java/util/ArrayList" "size" "I" (.int 1)) (H3 : Fld Z h0 pa "java/util/AbstractList" "modCount" "I" (.int 2)) (H4 : Arv Z h0 pe kk (.object "java/lang/Object") (10 : Int32) [(.ref x0)] .null) (H5 : Exa Z h0 px "java/lang/String") (OV : Ovr Z kk "java/lang/Object") (ne_pa_pe : pa ≠ pe) (nw_pa : n0 ≤ pa) (nw_pe : n0 ≤ pe) :
    MetFree l (⟨"java/util/ArrayList", "add", "(Ljava/lang/Object;[Ljava/lang/Object;I)V"⟩ : MethodName) (head1 (Jvm.Cond.code (⟨"java/util/ArrayList", "add", "(Ljava/lang/Object;[Ljava/lang/Object;I)V"⟩ : MethodName) jdk_38_method_24_code 4 none :: ws) ({ frames := 0, cells := 0, slots := 0, locals := 0 } : Room)) (fun aa U => aa = #[(.ref pa), (.ref px), (.ref pe), (.int 1)] ∧ Z.Warmed39 U.vm ∧ U.heap = h0) (fun _ _ _ _ _ => True) (fun _ U o U' => ∃ v L, o = .returned v ∧ QJ1 Z pa pe kk px x0 h0 n0 v U'.heap L ∧ FrameEnd U o U' L ({ frames := 0, cells := 0, slots := 0, locals := 0 } : Room).cells ({ frames := 0, cells := 0, slots := 0, locals := 0 } : Room).slots) := by
  refine MetFree.of_bodySF (plainFor_of_name pnA0) hisR ?_
  intro p e s m args below meth c s₁ Bd hml0 hP hK
  obtain ⟨rfl, hZ, hh⟩ := hP
  have hx := Bd.exec
  have hby := Bd.bytes
  have hlk : meth.locks = false := BodyLoose.notSynchronized Bd
  have hml : c.maxLocals = 4 := hml0
  have hown : s.vm.findClass "java/util/ArrayList" = some m.cls := findClass_of_methodNamed Bd.named
  have hnm := (name_of_methodNamed Bd.named Bd.method).1
  have X0 : Stand p l e ({ frames := 0, cells := 0, slots := 0, locals := 0 } : Room) s m #[(.ref pa), (.ref px), (.ref pe), (.int 1)] below meth c s₁ [] 0 0 := Stand.of_body Bd
  have e0 : s₁.heap = h0 := by rw [← hh, Bd.state]; rfl
  have N0 := Fr.nil n0
  have ef : entryFrame m #[(.ref pa), (.ref px), (.ref pe), (.int 1)] 4 = mkF m 0 #[rv pa, rv px, rv pe, iv 1] [] := by first | (simp [entryFrame, mkF, argsToLocals, Value.category, maxLocals]; done) | rfl
  show Way p.tables e below (KQ s (QJ1 Z pa pe kk px x0 h0 n0) ({ frames := 0, cells := 0, slots := 0, locals := 0 } : Room).cells ({ frames := 0, cells := 0, slots := 0, locals := 0 } : Room).slots) (s₁.setTop (entryFrame m #[(.ref pa), (.ref px), (.ref pe), (.int 1)] 4))
  rw [ef]
  refine Way.by (fun _ k => XS.iloadN X0.here hx rfl (hb hby dJ0_0) rfl k) ?_
  show Way _ _ _ _ (s₁.setTop (mkF m 1 #[rv pa, rv px, rv pe, iv 1] [(.int 1)]))
  refine Way.by (fun _ k => XS.aloadN X0.here hx rfl (hb hby dJ0_1) rfl rfl k) ?_
  show Way _ _ _ _ (s₁.setTop (mkF m 2 #[rv pa, rv px, rv pe, iv 1] [(.ref pe), (.int 1)]))
  obtain ⟨c1, A2, q3, S4, M5, H6, U7⟩ := id H4
  refine Way.by (fun t k => Stand.arraylength X0 hx (hpE e0 A2.1) (arrS hZ A2) (g := (mkF m 2 #[rv pa, rv px, rv pe, iv 1] [(.ref pe), (.int 1)])) rfl rfl (hb hby dJ0_2) t k) ?_
  rw [len_of S4 M5]
  show Way _ _ _ _ (s₁.setTop (mkF m 3 #[rv pa, rv px, rv pe, iv 1] [(.int 10), (.int 1)]))
  have b8 : ¬ (1 : Int32) = (10 : Int32) := by decide
  refine Way.by (fun _ k => XS.icmpYes X0.here hx rfl (pc0 := 3) (pc' := 11) rfl (hb hby dJ0_3) rfl (feq b8).2 (by decide) (by decide) k) ?_
  show Way _ _ _ _ (s₁.setTop (mkF m 11 #[rv pa, rv px, rv pe, iv 1] []))
  refine Way.by (fun _ k => XS.aloadN X0.here hx rfl (hb hby dJ0_11) rfl rfl k) ?_
  show Way _ _ _ _ (s₁.setTop (mkF m 12 #[rv pa, rv px, rv pe, iv 1] [(.ref pe)]))
  refine Way.by (fun _ k => XS.iloadN X0.here hx rfl (hb hby dJ0_12) rfl k) ?_
  show Way _ _ _ _ (s₁.setTop (mkF m 13 #[rv pa, rv px, rv pe, iv 1] [(.int 1), (.ref pe)]))
  refine Way.by (fun _ k => XS.aloadN X0.here hx rfl (hb hby dJ0_13) rfl rfl k) ?_
  show Way _ _ _ _ (s₁.setTop (mkF m 14 #[rv pa, rv px, rv pe, iv 1] [(.ref px), (.int 1), (.ref pe)]))
  have V9 : Arv Z h0 pe kk (.object "java/lang/Object") (10 : Int32) [(.ref x0), .null] .null := H4.pad (pad_rep [(.ref x0)] .null 1)
  obtain ⟨c10, A11, q12, S13, M14, H15, U16⟩ := id V9
  obtain ⟨T17, h18, X19, e20, W21, st22⟩ := stR X0 hx hZ e0 A11 (j := (1 : Int32)) (inb_of S13 ⟨(by decide), (by decide)⟩) rfl (Sto.ofV A11 q12 OV (Ins.of_exa H5 (tw hw 88 rfl))) (g := (mkF m 14 #[rv pa, rv px, rv pe, iv 1] [(.ref px), (.int 1), (.ref pe)])) rfl rfl (hb hby dJ0_14)
  have N23 := Fr.snoc X19 N0 nw_pe
  have V24 : Arv Z h18 pe kk (.object "java/lang/Object") (10 : Int32) [(.ref x0), (.ref px)] .null := Arv.set A11 q12 S13 M14 H15 U16 rfl W21 1 rfl (leB rfl)
  have E25 := Exa.wr W21 H0
  have F26 := H1.other W21 (Or.inl ne_pa_pe)
  have F27 := H2.other W21 (Or.inl ne_pa_pe)
  have F28 := H3.other W21 (Or.inl ne_pa_pe)
  have E29 := Exa.wr W21 H5
  have Z30 : n0 ≤ h18.size := by rw [W21.size]; exact Z0
  have K31 := (Keep.refl h0 [pa, pe]).wr W21 (Or.inl (List.mem_of_getElem? (i := 1) rfl))
  have hz32 : h0.size ≤ h18.size := by rw [W21.size]; exact (Nat.le_refl h0.size)
  refine Way.by st22 ?_
  show Way _ _ _ _ (T17.setTop (mkF m 15 #[rv pa, rv px, rv pe, iv 1] []))
  refine Way.by (fun _ k => XS.aloadN X19.here hx rfl (hb hby dJ0_15) rfl rfl k) ?_
  show Way _ _ _ _ (T17.setTop (mkF m 16 #[rv pa, rv px, rv pe, iv 1] [(.ref pa)]))
  refine Way.by (fun _ k => XS.iloadN X19.here hx rfl (hb hby dJ0_16) rfl k) ?_
  show Way _ _ _ _ (T17.setTop (mkF m 17 #[rv pa, rv px, rv pe, iv 1] [(.int 1), (.ref pa)]))
  refine Way.by (fun _ k => XS.iconst X19.here hx rfl (hb hby dJ0_17) k) ?_
  show Way _ _ _ _ (T17.setTop (mkF m 18 #[rv pa, rv px, rv pe, iv 1] [(.int 1), (.int 1), (.ref pa)]))
  refine Way.by (fun _ k => XS.iadd X19.here hx rfl (hb hby dJ0_18) rfl k) ?_
  show Way _ _ _ _ (T17.setTop (mkF m 19 #[rv pa, rv px, rv pe, iv 1] [(.int 2), (.ref pa)]))
  obtain ⟨T33, h34, X35, e36, W37, st38⟩ := putF X19 hx hZ hown (host := "") (Or.inl (tw hw 65 rfl)) Via.refl e20 F27 E25 (Or.inl (tw hw 66 rfl)) (tw hw 35 rfl) (ty := .int) (by decide) rfl rfl (g := (mkF m 19 #[rv pa, rv px, rv pe, iv 1] [(.int 2), (.ref pa)])) rfl rfl (hb hby dJ0_19)
  have N39 := Fr.snoc X35 N23 nw_pa
  have E40 := Exa.wr W37 E25
  have F41 := F26.other W37 (Or.inr (slot_ne (Or.inl (tw hw 57 rfl)) (Or.inl (tw hw 66 rfl)) (by decide) (t := (.array (.object "java/lang/Object"))) (t' := .int) (by decide) (by decide)))
  have F42 : Fld Z h34 pa "java/util/ArrayList" "size" "I" (.int 2) := F27.same W37
  have F43 := F28.other W37 (Or.inr (slot_ne (Or.inl (tw hw 54 rfl)) (Or.inl (tw hw 66 rfl)) (by decide) (t := .int) (t' := .int) (by decide) (by decide)))
  have E44 := Exa.wr W37 E29
  have A45 := V24.other W37 ne_pa_pe.symm
  have Z46 : n0 ≤ h34.size := by rw [W37.size]; exact Z30
  have K47 := K31.wr W37 (Or.inl (List.mem_of_getElem? (i := 0) rfl))
  have hz48 : h0.size ≤ h34.size := by rw [W37.size]; exact hz32
  refine Way.by st38 ?_
  show Way _ _ _ _ (T33.setTop (mkF m 22 #[rv pa, rv px, rv pe, iv 1] []))
  refine Way.ret (v := none) X35 hlk (fun _ => rfl) (fun fs hr => X35.returnOut hx Bd.returns (hb hby dJ0_22) hr) ?_ (by decide) (by decide)
  show QJ1 Z pa pe kk px x0 h0 n0 _ T33.heap _
  rw [e36]
  exact ⟨rfl, N39, K47, E40, F41, F42, F43, A45⟩
def QAD1 (Z : State) (pa : Addr) (pe : Addr) (kk : ClassId) (px : Addr) (x0 : Addr) (h0 : Heap) (n0 : Nat) (v : Option Value) (h : Heap) (L : List Loc) : Prop := v = some (.int 1) ∧ Fr n0 L ∧ Keep h0 h [pa, pe] ∧ Exa Z h pa "java/util/ArrayList" ∧ Fld Z h pa "java/util/ArrayList" "elementData" "[Ljava/lang/Object;" (.ref pe) ∧ Fld Z h pa "java/util/ArrayList" "size" "I" (.int 2) ∧ Fld Z h pa "java/util/AbstractList" "modCount" "I" (.int 2) ∧ Arv Z h pe kk (.object "java/lang/Object") (10 : Int32) [(.ref x0), (.ref px)] .null
set_option maxRecDepth 65536 in
set_option maxHeartbeats 40000000 in
theorem rmAD1 (l : Launch) (Z : State) (a0 : Array Value) (hw : ∀ d ∈ tables_1, d.before a0 Z = true) (ws : List Jvm.Cond) (pa : Addr) (pe : Addr) (kk : ClassId) (px : Addr) (x0 : Addr) (h0 : Heap) (n0 : Nat) (Z0 : n0 ≤ h0.size) (H0 : Exa Z h0 pa "java/util/ArrayList") (H1 : Fld Z h0 pa "java/util/ArrayList" "elementData" "[Ljava/lang/Object;" (.ref pe)) (H2 : Fld Z h0 pa "java/util/ArrayList" "size" "I" (.int 1)) (H3 : Fld Z h0 pa "java/util/AbstractList" "modCount" "I" (.int 1)) (H4 : Arv Z h0 pe kk (.object "java/lang/Object") (10 : Int32) [(.ref x0)] .null) (H5 : Exa Z h0 px "java/lang/String") (OV : Ovr Z kk "java/lang/Object") (ne_pa_pe : pa ≠ pe) (nw_pa : n0 ≤ pa) (nw_pe : n0 ≤ pe) :
    MetFree l (⟨"java/util/ArrayList", "add", "(Ljava/lang/Object;)Z"⟩ : MethodName) (head1 (Jvm.Cond.code (⟨"java/util/ArrayList", "add", "(Ljava/lang/Object;)Z"⟩ : MethodName) jdk_38_method_25_code 2 (some .boolean) :: ws) ({ frames := 1, cells := 0, slots := 0, locals := 15 } : Room)) (fun aa U => aa = #[(.ref pa), (.ref px)] ∧ Z.Warmed39 U.vm ∧ U.heap = h0) (fun _ _ _ _ _ => True) (fun _ U o U' => ∃ v L, o = .returned v ∧ QAD1 Z pa pe kk px x0 h0 n0 v U'.heap L ∧ FrameEnd U o U' L ({ frames := 1, cells := 0, slots := 0, locals := 15 } : Room).cells ({ frames := 1, cells := 0, slots := 0, locals := 15 } : Room).slots) := by
  refine MetFree.of_bodySF (plainFor_of_name pnA0) hisR ?_
  intro p e s m args below meth c s₁ Bd hml0 hP hK
  obtain ⟨rfl, hZ, hh⟩ := hP
  have hx := Bd.exec
  have hby := Bd.bytes
  have hlk : meth.locks = false := BodyLoose.notSynchronized Bd
  have hml : c.maxLocals = 2 := hml0
  have hown : s.vm.findClass "java/util/ArrayList" = some m.cls := findClass_of_methodNamed Bd.named
  have hnm := (name_of_methodNamed Bd.named Bd.method).1
  have X0 : Stand p l e ({ frames := 1, cells := 0, slots := 0, locals := 15 } : Room) s m #[(.ref pa), (.ref px)] below meth c s₁ [] 0 0 := Stand.of_body Bd
  have e0 : s₁.heap = h0 := by rw [← hh, Bd.state]; rfl
  have N0 := Fr.nil n0
  have ef : entryFrame m #[(.ref pa), (.ref px)] 2 = mkF m 0 #[rv pa, rv px] [] := by first | (simp [entryFrame, mkF, argsToLocals, Value.category, maxLocals]; done) | rfl
  show Way p.tables e below (KQ s (QAD1 Z pa pe kk px x0 h0 n0) ({ frames := 1, cells := 0, slots := 0, locals := 15 } : Room).cells ({ frames := 1, cells := 0, slots := 0, locals := 15 } : Room).slots) (s₁.setTop (entryFrame m #[(.ref pa), (.ref px)] 2))
  rw [ef]
  refine Way.by (fun _ k => XS.aloadN X0.here hx rfl (hb hby dAD0_0) rfl rfl k) ?_
  show Way _ _ _ _ (s₁.setTop (mkF m 1 #[rv pa, rv px] [(.ref pa)]))
  refine Way.by (fun _ k => XS.dup X0.here hx rfl (hb hby dAD0_1) rfl rfl k) ?_
  show Way _ _ _ _ (s₁.setTop (mkF m 2 #[rv pa, rv px] [(.ref pa), (.ref pa)]))
  obtain ⟨T1, X2, e3, st4⟩ := getF X0 hx hZ hown (host := "") (Or.inl (tw hw 63 rfl)) (Via.of (tw hw 64 rfl)) e0 H3 (g := (mkF m 2 #[rv pa, rv px] [(.ref pa), (.ref pa)])) rfl rfl (hb hby dAD0_2)
  refine Way.by st4 ?_
  show Way _ _ _ _ (T1.setTop (mkF m 5 #[rv pa, rv px] [(.int 1), (.ref pa)]))
  refine Way.by (fun _ k => XS.iconst X2.here hx rfl (hb hby dAD0_5) k) ?_
  show Way _ _ _ _ (T1.setTop (mkF m 6 #[rv pa, rv px] [(.int 1), (.int 1), (.ref pa)]))
  refine Way.by (fun _ k => XS.iadd X2.here hx rfl (hb hby dAD0_6) rfl k) ?_
  show Way _ _ _ _ (T1.setTop (mkF m 7 #[rv pa, rv px] [(.int 2), (.ref pa)]))
  obtain ⟨T5, h6, X7, e8, W9, st10⟩ := putF X2 hx hZ hown (host := "") (Or.inl (tw hw 63 rfl)) (Via.of (tw hw 64 rfl)) e3 H3 H0 (Or.inl (tw hw 54 rfl)) (tw hw 35 rfl) (ty := .int) (by decide) rfl rfl (g := (mkF m 7 #[rv pa, rv px] [(.int 2), (.ref pa)])) rfl rfl (hb hby dAD0_7)
  have N11 := Fr.snoc X7 N0 nw_pa
  have E12 := Exa.wr W9 H0
  have F13 := H1.other W9 (Or.inr (slot_ne (Or.inl (tw hw 57 rfl)) (Or.inl (tw hw 54 rfl)) (by decide) (t := (.array (.object "java/lang/Object"))) (t' := .int) (by decide) (by decide)))
  have F14 := H2.other W9 (Or.inr (slot_ne (Or.inl (tw hw 66 rfl)) (Or.inl (tw hw 54 rfl)) (by decide) (t := .int) (t' := .int) (by decide) (by decide)))
  have F15 : Fld Z h6 pa "java/util/AbstractList" "modCount" "I" (.int 2) := H3.same W9
  have A16 := H4.other W9 ne_pa_pe.symm
  have E17 := Exa.wr W9 H5
  have Z18 : n0 ≤ h6.size := by rw [W9.size]; exact Z0
  have K19 := (Keep.refl h0 [pa, pe]).wr W9 (Or.inl (List.mem_of_getElem? (i := 0) rfl))
  have hz20 : h0.size ≤ h6.size := by rw [W9.size]; exact (Nat.le_refl h0.size)
  refine Way.by st10 ?_
  show Way _ _ _ _ (T5.setTop (mkF m 10 #[rv pa, rv px] []))
  refine Way.by (fun _ k => XS.aloadN X7.here hx rfl (hb hby dAD0_10) rfl rfl k) ?_
  show Way _ _ _ _ (T5.setTop (mkF m 11 #[rv pa, rv px] [(.ref pa)]))
  refine Way.by (fun _ k => XS.aloadN X7.here hx rfl (hb hby dAD0_11) rfl rfl k) ?_
  show Way _ _ _ _ (T5.setTop (mkF m 12 #[rv pa, rv px] [(.ref px), (.ref pa)]))
  refine Way.by (fun _ k => XS.aloadN X7.here hx rfl (hb hby dAD0_12) rfl rfl k) ?_
  show Way _ _ _ _ (T5.setTop (mkF m 13 #[rv pa, rv px] [(.ref pa), (.ref px), (.ref pa)]))
  obtain ⟨T21, X22, e23, st24⟩ := getF X7 hx hZ hown (host := "") (Or.inl (tw hw 56 rfl)) Via.refl e8 F13 (g := (mkF m 13 #[rv pa, rv px] [(.ref pa), (.ref px), (.ref pa)])) rfl rfl (hb hby dAD0_13)
  refine Way.by st24 ?_
  show Way _ _ _ _ (T21.setTop (mkF m 16 #[rv pa, rv px] [(.ref pe), (.ref px), (.ref pa)]))
  refine Way.by (fun _ k => XS.aloadN X22.here hx rfl (hb hby dAD0_16) rfl rfl k) ?_
  show Way _ _ _ _ (T21.setTop (mkF m 17 #[rv pa, rv px] [(.ref pa), (.ref pe), (.ref px), (.ref pa)]))
  obtain ⟨T25, X26, e27, st28⟩ := getF X22 hx hZ hown (host := "") (Or.inl (tw hw 65 rfl)) Via.refl e23 F14 (g := (mkF m 17 #[rv pa, rv px] [(.ref pa), (.ref pe), (.ref px), (.ref pa)])) rfl rfl (hb hby dAD0_17)
  refine Way.by st28 ?_
  show Way _ _ _ _ (T25.setTop (mkF m 20 #[rv pa, rv px] [(.int 1), (.ref pe), (.ref px), (.ref pa)]))
  obtain ⟨cq45, qa46, qb47⟩ := E12.cell
  obtain ⟨_, _, ⟨T29, L31, k32, n33⟩, -, X30, ⟨Lc34, hQ35, l36, y37, z38⟩, st39⟩ := X26.privateBack hx (y := (⟨"java/util/ArrayList", "add", "(Ljava/lang/Object;[Ljava/lang/Object;I)V"⟩ : MethodName)) hown (mvT hZ (tw hw 67 rfl)) (mvT hZ (tw hw 68 rfl)) (mvT hZ (tw hw 70 rfl)) (Cond.privateMethod_at (mvP hZ (tw hw 69 rfl) (args := #[]))) (mvT hZ (tw hw 71 rfl)) (by decide) (backOf (W := 0) (rmJ1 l Z a0 hw [] pa pe kk px x0 h6 n0 Z18 E12 F13 F14 F15 A16 E17 OV ne_pa_pe nw_pa nw_pe) hZ (tw hw 71 rfl) (tw hw 36 rfl) (by decide) (by decide)) (g := (mkF m 20 #[rv pa, rv px] [(.int 1), (.ref pe), (.ref px), (.ref pa)])) rfl (by rw [hml]; rfl) (Steps.refl _) (a := pa) (by rw [e27]; exact qa46) qb47 (argsL := [(.ref px), (.ref pe), (.int 1)]) (rest := []) (lenOf pdJ0 rfl) rfl (leW rfl) (hb hby dAD0_20) (fun _ _ => ⟨rfl, e27, (leB rfl), (leB rfl)⟩)
  dsimp only [Pt.U, Pt.locs, Pt.cells, Pt.slots] at X30 l36 y37 z38 st39 hQ35
  subst l36 y37 z38
  obtain ⟨rfl, N48, K49, F_050, F_151, F_252, F_353, F_454⟩ := hQ35
  have N40 := Fr.app N11 N48
  have E55 := E12.keep K49
  have E56 := E17.keep K49
  have Z57 := Nat.le_trans Z18 K49.1
  have K58 := K19.trans K49 (allS (Or.inl (List.mem_of_getElem? (i := 0) rfl)) (allS (Or.inl (List.mem_of_getElem? (i := 1) rfl)) all0))
  have hz59 := Nat.le_trans hz20 K49.1
  refine Way.to st39 ?_
  show Way _ _ _ _ (T29.setTop (mkF m 23 #[rv pa, rv px] []))
  refine Way.by (fun _ k => XS.iconst X30.here hx rfl (hb hby dAD0_23) k) ?_
  show Way _ _ _ _ (T29.setTop (mkF m 24 #[rv pa, rv px] [(.int 1)]))
  refine Way.ret (v := (some (.int (nar .boolean (1 : Int32))))) X30 hlk (fun h => by rw [Bd.returns] at h; cases h) (fun fs hr => retN X30 hx (t := .boolean) Bd.returns (by simp) (hb hby dAD0_24) hr) ?_ (by decide) (by decide)
  show QAD1 Z pa pe kk px x0 h0 n0 _ T29.heap _
  skip
  exact ⟨rfl, N40, K58, F_050, F_151, F_252, F_353, F_454⟩
def QJ2 (Z : State) (pa : Addr) (pe : Addr) (kk : ClassId) (px : Addr) (x0 : Addr) (x1 : Addr) (h0 : Heap) (n0 : Nat) (v : Option Value) (h : Heap) (L : List Loc) : Prop := v = none ∧ Fr n0 L ∧ Keep h0 h [pa, pe] ∧ Exa Z h pa "java/util/ArrayList" ∧ Fld Z h pa "java/util/ArrayList" "elementData" "[Ljava/lang/Object;" (.ref pe) ∧ Fld Z h pa "java/util/ArrayList" "size" "I" (.int 3) ∧ Fld Z h pa "java/util/AbstractList" "modCount" "I" (.int 3) ∧ Arv Z h pe kk (.object "java/lang/Object") (10 : Int32) [(.ref x0), (.ref x1), (.ref px)] .null
set_option maxRecDepth 65536 in
set_option maxHeartbeats 40000000 in
theorem rmJ2 (l : Launch) (Z : State) (a0 : Array Value) (hw : ∀ d ∈ tables_1, d.before a0 Z = true) (ws : List Jvm.Cond) (pa : Addr) (pe : Addr) (kk : ClassId) (px : Addr) (x0 : Addr) (x1 : Addr) (h0 : Heap) (n0 : Nat) (Z0 : n0 ≤ h0.size) (H0 : Exa Z h0 pa "java/util/ArrayList") (H1 : Fld Z h0 pa "java/util/ArrayList" "elementData" "[Ljava/lang/Object;" (.ref pe)) (H2 : Fld Z h0 pa "java/util/ArrayList" "size" "I" (.int 2)) (H3 : Fld Z h0 pa "java/util/AbstractList" "modCount" "I" (.int 3)) (H4 : Arv Z h0 pe kk (.object "java/lang/Object") (10 : Int32) [(.ref x0), (.ref x1)] .null) (H5 : Exa Z h0 px "java/lang/String") (OV : Ovr Z kk "java/lang/Object") (ne_pa_pe : pa ≠ pe) (nw_pa : n0 ≤ pa) (nw_pe : n0 ≤ pe) :
    MetFree l (⟨"java/util/ArrayList", "add", "(Ljava/lang/Object;[Ljava/lang/Object;I)V"⟩ : MethodName) (head1 (Jvm.Cond.code (⟨"java/util/ArrayList", "add", "(Ljava/lang/Object;[Ljava/lang/Object;I)V"⟩ : MethodName) jdk_38_method_24_code 4 none :: ws) ({ frames := 0, cells := 0, slots := 0, locals := 0 } : Room)) (fun aa U => aa = #[(.ref pa), (.ref px), (.ref pe), (.int 2)] ∧ Z.Warmed39 U.vm ∧ U.heap = h0) (fun _ _ _ _ _ => True) (fun _ U o U' => ∃ v L, o = .returned v ∧ QJ2 Z pa pe kk px x0 x1 h0 n0 v U'.heap L ∧ FrameEnd U o U' L ({ frames := 0, cells := 0, slots := 0, locals := 0 } : Room).cells ({ frames := 0, cells := 0, slots := 0, locals := 0 } : Room).slots) := by
  refine MetFree.of_bodySF (plainFor_of_name pnA0) hisR ?_
  intro p e s m args below meth c s₁ Bd hml0 hP hK
  obtain ⟨rfl, hZ, hh⟩ := hP
  have hx := Bd.exec
  have hby := Bd.bytes
  have hlk : meth.locks = false := BodyLoose.notSynchronized Bd
  have hml : c.maxLocals = 4 := hml0
  have hown : s.vm.findClass "java/util/ArrayList" = some m.cls := findClass_of_methodNamed Bd.named
  have hnm := (name_of_methodNamed Bd.named Bd.method).1
  have X0 : Stand p l e ({ frames := 0, cells := 0, slots := 0, locals := 0 } : Room) s m #[(.ref pa), (.ref px), (.ref pe), (.int 2)] below meth c s₁ [] 0 0 := Stand.of_body Bd
  have e0 : s₁.heap = h0 := by rw [← hh, Bd.state]; rfl
  have N0 := Fr.nil n0
  have ef : entryFrame m #[(.ref pa), (.ref px), (.ref pe), (.int 2)] 4 = mkF m 0 #[rv pa, rv px, rv pe, iv 2] [] := by first | (simp [entryFrame, mkF, argsToLocals, Value.category, maxLocals]; done) | rfl
  show Way p.tables e below (KQ s (QJ2 Z pa pe kk px x0 x1 h0 n0) ({ frames := 0, cells := 0, slots := 0, locals := 0 } : Room).cells ({ frames := 0, cells := 0, slots := 0, locals := 0 } : Room).slots) (s₁.setTop (entryFrame m #[(.ref pa), (.ref px), (.ref pe), (.int 2)] 4))
  rw [ef]
  refine Way.by (fun _ k => XS.iloadN X0.here hx rfl (hb hby dJ0_0) rfl k) ?_
  show Way _ _ _ _ (s₁.setTop (mkF m 1 #[rv pa, rv px, rv pe, iv 2] [(.int 2)]))
  refine Way.by (fun _ k => XS.aloadN X0.here hx rfl (hb hby dJ0_1) rfl rfl k) ?_
  show Way _ _ _ _ (s₁.setTop (mkF m 2 #[rv pa, rv px, rv pe, iv 2] [(.ref pe), (.int 2)]))
  obtain ⟨c1, A2, q3, S4, M5, H6, U7⟩ := id H4
  refine Way.by (fun t k => Stand.arraylength X0 hx (hpE e0 A2.1) (arrS hZ A2) (g := (mkF m 2 #[rv pa, rv px, rv pe, iv 2] [(.ref pe), (.int 2)])) rfl rfl (hb hby dJ0_2) t k) ?_
  rw [len_of S4 M5]
  show Way _ _ _ _ (s₁.setTop (mkF m 3 #[rv pa, rv px, rv pe, iv 2] [(.int 10), (.int 2)]))
  have b8 : ¬ (2 : Int32) = (10 : Int32) := by decide
  refine Way.by (fun _ k => XS.icmpYes X0.here hx rfl (pc0 := 3) (pc' := 11) rfl (hb hby dJ0_3) rfl (feq b8).2 (by decide) (by decide) k) ?_
  show Way _ _ _ _ (s₁.setTop (mkF m 11 #[rv pa, rv px, rv pe, iv 2] []))
  refine Way.by (fun _ k => XS.aloadN X0.here hx rfl (hb hby dJ0_11) rfl rfl k) ?_
  show Way _ _ _ _ (s₁.setTop (mkF m 12 #[rv pa, rv px, rv pe, iv 2] [(.ref pe)]))
  refine Way.by (fun _ k => XS.iloadN X0.here hx rfl (hb hby dJ0_12) rfl k) ?_
  show Way _ _ _ _ (s₁.setTop (mkF m 13 #[rv pa, rv px, rv pe, iv 2] [(.int 2), (.ref pe)]))
  refine Way.by (fun _ k => XS.aloadN X0.here hx rfl (hb hby dJ0_13) rfl rfl k) ?_
  show Way _ _ _ _ (s₁.setTop (mkF m 14 #[rv pa, rv px, rv pe, iv 2] [(.ref px), (.int 2), (.ref pe)]))
  have V9 : Arv Z h0 pe kk (.object "java/lang/Object") (10 : Int32) [(.ref x0), (.ref x1), .null] .null := H4.pad (pad_rep [(.ref x0), (.ref x1)] .null 1)
  obtain ⟨c10, A11, q12, S13, M14, H15, U16⟩ := id V9
  obtain ⟨T17, h18, X19, e20, W21, st22⟩ := stR X0 hx hZ e0 A11 (j := (2 : Int32)) (inb_of S13 ⟨(by decide), (by decide)⟩) rfl (Sto.ofV A11 q12 OV (Ins.of_exa H5 (tw hw 88 rfl))) (g := (mkF m 14 #[rv pa, rv px, rv pe, iv 2] [(.ref px), (.int 2), (.ref pe)])) rfl rfl (hb hby dJ0_14)
  have N23 := Fr.snoc X19 N0 nw_pe
  have V24 : Arv Z h18 pe kk (.object "java/lang/Object") (10 : Int32) [(.ref x0), (.ref x1), (.ref px)] .null := Arv.set A11 q12 S13 M14 H15 U16 rfl W21 2 rfl (leB rfl)
  have E25 := Exa.wr W21 H0
  have F26 := H1.other W21 (Or.inl ne_pa_pe)
  have F27 := H2.other W21 (Or.inl ne_pa_pe)
  have F28 := H3.other W21 (Or.inl ne_pa_pe)
  have E29 := Exa.wr W21 H5
  have Z30 : n0 ≤ h18.size := by rw [W21.size]; exact Z0
  have K31 := (Keep.refl h0 [pa, pe]).wr W21 (Or.inl (List.mem_of_getElem? (i := 1) rfl))
  have hz32 : h0.size ≤ h18.size := by rw [W21.size]; exact (Nat.le_refl h0.size)
  refine Way.by st22 ?_
  show Way _ _ _ _ (T17.setTop (mkF m 15 #[rv pa, rv px, rv pe, iv 2] []))
  refine Way.by (fun _ k => XS.aloadN X19.here hx rfl (hb hby dJ0_15) rfl rfl k) ?_
  show Way _ _ _ _ (T17.setTop (mkF m 16 #[rv pa, rv px, rv pe, iv 2] [(.ref pa)]))
  refine Way.by (fun _ k => XS.iloadN X19.here hx rfl (hb hby dJ0_16) rfl k) ?_
  show Way _ _ _ _ (T17.setTop (mkF m 17 #[rv pa, rv px, rv pe, iv 2] [(.int 2), (.ref pa)]))
  refine Way.by (fun _ k => XS.iconst X19.here hx rfl (hb hby dJ0_17) k) ?_
  show Way _ _ _ _ (T17.setTop (mkF m 18 #[rv pa, rv px, rv pe, iv 2] [(.int 1), (.int 2), (.ref pa)]))
  refine Way.by (fun _ k => XS.iadd X19.here hx rfl (hb hby dJ0_18) rfl k) ?_
  show Way _ _ _ _ (T17.setTop (mkF m 19 #[rv pa, rv px, rv pe, iv 2] [(.int 3), (.ref pa)]))
  obtain ⟨T33, h34, X35, e36, W37, st38⟩ := putF X19 hx hZ hown (host := "") (Or.inl (tw hw 65 rfl)) Via.refl e20 F27 E25 (Or.inl (tw hw 66 rfl)) (tw hw 35 rfl) (ty := .int) (by decide) rfl rfl (g := (mkF m 19 #[rv pa, rv px, rv pe, iv 2] [(.int 3), (.ref pa)])) rfl rfl (hb hby dJ0_19)
  have N39 := Fr.snoc X35 N23 nw_pa
  have E40 := Exa.wr W37 E25
  have F41 := F26.other W37 (Or.inr (slot_ne (Or.inl (tw hw 57 rfl)) (Or.inl (tw hw 66 rfl)) (by decide) (t := (.array (.object "java/lang/Object"))) (t' := .int) (by decide) (by decide)))
  have F42 : Fld Z h34 pa "java/util/ArrayList" "size" "I" (.int 3) := F27.same W37
  have F43 := F28.other W37 (Or.inr (slot_ne (Or.inl (tw hw 54 rfl)) (Or.inl (tw hw 66 rfl)) (by decide) (t := .int) (t' := .int) (by decide) (by decide)))
  have E44 := Exa.wr W37 E29
  have A45 := V24.other W37 ne_pa_pe.symm
  have Z46 : n0 ≤ h34.size := by rw [W37.size]; exact Z30
  have K47 := K31.wr W37 (Or.inl (List.mem_of_getElem? (i := 0) rfl))
  have hz48 : h0.size ≤ h34.size := by rw [W37.size]; exact hz32
  refine Way.by st38 ?_
  show Way _ _ _ _ (T33.setTop (mkF m 22 #[rv pa, rv px, rv pe, iv 2] []))
  refine Way.ret (v := none) X35 hlk (fun _ => rfl) (fun fs hr => X35.returnOut hx Bd.returns (hb hby dJ0_22) hr) ?_ (by decide) (by decide)
  show QJ2 Z pa pe kk px x0 x1 h0 n0 _ T33.heap _
  rw [e36]
  exact ⟨rfl, N39, K47, E40, F41, F42, F43, A45⟩
def QAD2 (Z : State) (pa : Addr) (pe : Addr) (kk : ClassId) (px : Addr) (x0 : Addr) (x1 : Addr) (h0 : Heap) (n0 : Nat) (v : Option Value) (h : Heap) (L : List Loc) : Prop := v = some (.int 1) ∧ Fr n0 L ∧ Keep h0 h [pa, pe] ∧ Exa Z h pa "java/util/ArrayList" ∧ Fld Z h pa "java/util/ArrayList" "elementData" "[Ljava/lang/Object;" (.ref pe) ∧ Fld Z h pa "java/util/ArrayList" "size" "I" (.int 3) ∧ Fld Z h pa "java/util/AbstractList" "modCount" "I" (.int 3) ∧ Arv Z h pe kk (.object "java/lang/Object") (10 : Int32) [(.ref x0), (.ref x1), (.ref px)] .null
set_option maxRecDepth 65536 in
set_option maxHeartbeats 40000000 in
theorem rmAD2 (l : Launch) (Z : State) (a0 : Array Value) (hw : ∀ d ∈ tables_1, d.before a0 Z = true) (ws : List Jvm.Cond) (pa : Addr) (pe : Addr) (kk : ClassId) (px : Addr) (x0 : Addr) (x1 : Addr) (h0 : Heap) (n0 : Nat) (Z0 : n0 ≤ h0.size) (H0 : Exa Z h0 pa "java/util/ArrayList") (H1 : Fld Z h0 pa "java/util/ArrayList" "elementData" "[Ljava/lang/Object;" (.ref pe)) (H2 : Fld Z h0 pa "java/util/ArrayList" "size" "I" (.int 2)) (H3 : Fld Z h0 pa "java/util/AbstractList" "modCount" "I" (.int 2)) (H4 : Arv Z h0 pe kk (.object "java/lang/Object") (10 : Int32) [(.ref x0), (.ref x1)] .null) (H5 : Exa Z h0 px "java/lang/String") (OV : Ovr Z kk "java/lang/Object") (ne_pa_pe : pa ≠ pe) (nw_pa : n0 ≤ pa) (nw_pe : n0 ≤ pe) :
    MetFree l (⟨"java/util/ArrayList", "add", "(Ljava/lang/Object;)Z"⟩ : MethodName) (head1 (Jvm.Cond.code (⟨"java/util/ArrayList", "add", "(Ljava/lang/Object;)Z"⟩ : MethodName) jdk_38_method_25_code 2 (some .boolean) :: ws) ({ frames := 1, cells := 0, slots := 0, locals := 15 } : Room)) (fun aa U => aa = #[(.ref pa), (.ref px)] ∧ Z.Warmed39 U.vm ∧ U.heap = h0) (fun _ _ _ _ _ => True) (fun _ U o U' => ∃ v L, o = .returned v ∧ QAD2 Z pa pe kk px x0 x1 h0 n0 v U'.heap L ∧ FrameEnd U o U' L ({ frames := 1, cells := 0, slots := 0, locals := 15 } : Room).cells ({ frames := 1, cells := 0, slots := 0, locals := 15 } : Room).slots) := by
  refine MetFree.of_bodySF (plainFor_of_name pnA0) hisR ?_
  intro p e s m args below meth c s₁ Bd hml0 hP hK
  obtain ⟨rfl, hZ, hh⟩ := hP
  have hx := Bd.exec
  have hby := Bd.bytes
  have hlk : meth.locks = false := BodyLoose.notSynchronized Bd
  have hml : c.maxLocals = 2 := hml0
  have hown : s.vm.findClass "java/util/ArrayList" = some m.cls := findClass_of_methodNamed Bd.named
  have hnm := (name_of_methodNamed Bd.named Bd.method).1
  have X0 : Stand p l e ({ frames := 1, cells := 0, slots := 0, locals := 15 } : Room) s m #[(.ref pa), (.ref px)] below meth c s₁ [] 0 0 := Stand.of_body Bd
  have e0 : s₁.heap = h0 := by rw [← hh, Bd.state]; rfl
  have N0 := Fr.nil n0
  have ef : entryFrame m #[(.ref pa), (.ref px)] 2 = mkF m 0 #[rv pa, rv px] [] := by first | (simp [entryFrame, mkF, argsToLocals, Value.category, maxLocals]; done) | rfl
  show Way p.tables e below (KQ s (QAD2 Z pa pe kk px x0 x1 h0 n0) ({ frames := 1, cells := 0, slots := 0, locals := 15 } : Room).cells ({ frames := 1, cells := 0, slots := 0, locals := 15 } : Room).slots) (s₁.setTop (entryFrame m #[(.ref pa), (.ref px)] 2))
  rw [ef]
  refine Way.by (fun _ k => XS.aloadN X0.here hx rfl (hb hby dAD0_0) rfl rfl k) ?_
  show Way _ _ _ _ (s₁.setTop (mkF m 1 #[rv pa, rv px] [(.ref pa)]))
  refine Way.by (fun _ k => XS.dup X0.here hx rfl (hb hby dAD0_1) rfl rfl k) ?_
  show Way _ _ _ _ (s₁.setTop (mkF m 2 #[rv pa, rv px] [(.ref pa), (.ref pa)]))
  obtain ⟨T1, X2, e3, st4⟩ := getF X0 hx hZ hown (host := "") (Or.inl (tw hw 63 rfl)) (Via.of (tw hw 64 rfl)) e0 H3 (g := (mkF m 2 #[rv pa, rv px] [(.ref pa), (.ref pa)])) rfl rfl (hb hby dAD0_2)
  refine Way.by st4 ?_
  show Way _ _ _ _ (T1.setTop (mkF m 5 #[rv pa, rv px] [(.int 2), (.ref pa)]))
  refine Way.by (fun _ k => XS.iconst X2.here hx rfl (hb hby dAD0_5) k) ?_
  show Way _ _ _ _ (T1.setTop (mkF m 6 #[rv pa, rv px] [(.int 1), (.int 2), (.ref pa)]))
  refine Way.by (fun _ k => XS.iadd X2.here hx rfl (hb hby dAD0_6) rfl k) ?_
  show Way _ _ _ _ (T1.setTop (mkF m 7 #[rv pa, rv px] [(.int 3), (.ref pa)]))
  obtain ⟨T5, h6, X7, e8, W9, st10⟩ := putF X2 hx hZ hown (host := "") (Or.inl (tw hw 63 rfl)) (Via.of (tw hw 64 rfl)) e3 H3 H0 (Or.inl (tw hw 54 rfl)) (tw hw 35 rfl) (ty := .int) (by decide) rfl rfl (g := (mkF m 7 #[rv pa, rv px] [(.int 3), (.ref pa)])) rfl rfl (hb hby dAD0_7)
  have N11 := Fr.snoc X7 N0 nw_pa
  have E12 := Exa.wr W9 H0
  have F13 := H1.other W9 (Or.inr (slot_ne (Or.inl (tw hw 57 rfl)) (Or.inl (tw hw 54 rfl)) (by decide) (t := (.array (.object "java/lang/Object"))) (t' := .int) (by decide) (by decide)))
  have F14 := H2.other W9 (Or.inr (slot_ne (Or.inl (tw hw 66 rfl)) (Or.inl (tw hw 54 rfl)) (by decide) (t := .int) (t' := .int) (by decide) (by decide)))
  have F15 : Fld Z h6 pa "java/util/AbstractList" "modCount" "I" (.int 3) := H3.same W9
  have A16 := H4.other W9 ne_pa_pe.symm
  have E17 := Exa.wr W9 H5
  have Z18 : n0 ≤ h6.size := by rw [W9.size]; exact Z0
  have K19 := (Keep.refl h0 [pa, pe]).wr W9 (Or.inl (List.mem_of_getElem? (i := 0) rfl))
  have hz20 : h0.size ≤ h6.size := by rw [W9.size]; exact (Nat.le_refl h0.size)
  refine Way.by st10 ?_
  show Way _ _ _ _ (T5.setTop (mkF m 10 #[rv pa, rv px] []))
  refine Way.by (fun _ k => XS.aloadN X7.here hx rfl (hb hby dAD0_10) rfl rfl k) ?_
  show Way _ _ _ _ (T5.setTop (mkF m 11 #[rv pa, rv px] [(.ref pa)]))
  refine Way.by (fun _ k => XS.aloadN X7.here hx rfl (hb hby dAD0_11) rfl rfl k) ?_
  show Way _ _ _ _ (T5.setTop (mkF m 12 #[rv pa, rv px] [(.ref px), (.ref pa)]))
  refine Way.by (fun _ k => XS.aloadN X7.here hx rfl (hb hby dAD0_12) rfl rfl k) ?_
  show Way _ _ _ _ (T5.setTop (mkF m 13 #[rv pa, rv px] [(.ref pa), (.ref px), (.ref pa)]))
  obtain ⟨T21, X22, e23, st24⟩ := getF X7 hx hZ hown (host := "") (Or.inl (tw hw 56 rfl)) Via.refl e8 F13 (g := (mkF m 13 #[rv pa, rv px] [(.ref pa), (.ref px), (.ref pa)])) rfl rfl (hb hby dAD0_13)
  refine Way.by st24 ?_
  show Way _ _ _ _ (T21.setTop (mkF m 16 #[rv pa, rv px] [(.ref pe), (.ref px), (.ref pa)]))
  refine Way.by (fun _ k => XS.aloadN X22.here hx rfl (hb hby dAD0_16) rfl rfl k) ?_
  show Way _ _ _ _ (T21.setTop (mkF m 17 #[rv pa, rv px] [(.ref pa), (.ref pe), (.ref px), (.ref pa)]))
  obtain ⟨T25, X26, e27, st28⟩ := getF X22 hx hZ hown (host := "") (Or.inl (tw hw 65 rfl)) Via.refl e23 F14 (g := (mkF m 17 #[rv pa, rv px] [(.ref pa), (.ref pe), (.ref px), (.ref pa)])) rfl rfl (hb hby dAD0_17)
  refine Way.by st28 ?_
  show Way _ _ _ _ (T25.setTop (mkF m 20 #[rv pa, rv px] [(.int 2), (.ref pe), (.ref px), (.ref pa)]))
  obtain ⟨cq45, qa46, qb47⟩ := E12.cell
  obtain ⟨_, _, ⟨T29, L31, k32, n33⟩, -, X30, ⟨Lc34, hQ35, l36, y37, z38⟩, st39⟩ := X26.privateBack hx (y := (⟨"java/util/ArrayList", "add", "(Ljava/lang/Object;[Ljava/lang/Object;I)V"⟩ : MethodName)) hown (mvT hZ (tw hw 67 rfl)) (mvT hZ (tw hw 68 rfl)) (mvT hZ (tw hw 70 rfl)) (Cond.privateMethod_at (mvP hZ (tw hw 69 rfl) (args := #[]))) (mvT hZ (tw hw 71 rfl)) (by decide) (backOf (W := 0) (rmJ2 l Z a0 hw [] pa pe kk px x0 x1 h6 n0 Z18 E12 F13 F14 F15 A16 E17 OV ne_pa_pe nw_pa nw_pe) hZ (tw hw 71 rfl) (tw hw 36 rfl) (by decide) (by decide)) (g := (mkF m 20 #[rv pa, rv px] [(.int 2), (.ref pe), (.ref px), (.ref pa)])) rfl (by rw [hml]; rfl) (Steps.refl _) (a := pa) (by rw [e27]; exact qa46) qb47 (argsL := [(.ref px), (.ref pe), (.int 2)]) (rest := []) (lenOf pdJ0 rfl) rfl (leW rfl) (hb hby dAD0_20) (fun _ _ => ⟨rfl, e27, (leB rfl), (leB rfl)⟩)
  dsimp only [Pt.U, Pt.locs, Pt.cells, Pt.slots] at X30 l36 y37 z38 st39 hQ35
  subst l36 y37 z38
  obtain ⟨rfl, N48, K49, F_050, F_151, F_252, F_353, F_454⟩ := hQ35
  have N40 := Fr.app N11 N48
  have E55 := E12.keep K49
  have E56 := E17.keep K49
  have Z57 := Nat.le_trans Z18 K49.1
  have K58 := K19.trans K49 (allS (Or.inl (List.mem_of_getElem? (i := 0) rfl)) (allS (Or.inl (List.mem_of_getElem? (i := 1) rfl)) all0))
  have hz59 := Nat.le_trans hz20 K49.1
  refine Way.to st39 ?_
  show Way _ _ _ _ (T29.setTop (mkF m 23 #[rv pa, rv px] []))
  refine Way.by (fun _ k => XS.iconst X30.here hx rfl (hb hby dAD0_23) k) ?_
  show Way _ _ _ _ (T29.setTop (mkF m 24 #[rv pa, rv px] [(.int 1)]))
  refine Way.ret (v := (some (.int (nar .boolean (1 : Int32))))) X30 hlk (fun h => by rw [Bd.returns] at h; cases h) (fun fs hr => retN X30 hx (t := .boolean) Bd.returns (by simp) (hb hby dAD0_24) hr) ?_ (by decide) (by decide)
  show QAD2 Z pa pe kk px x0 x1 h0 n0 _ T29.heap _
  skip
  exact ⟨rfl, N40, K58, F_050, F_151, F_252, F_353, F_454⟩
def QU (Z : State) (pa : Addr) (h0 : Heap) (n0 : Nat) (v : Option Value) (h : Heap) (L : List Loc) : Prop := v = none ∧ Fr n0 L ∧ h = h0
theorem dU_0 : decode jdk_18_method_1_code 0 = .ok (.aload_n 0, 1) := by decide +kernel
theorem dU_1 : decode jdk_18_method_1_code 1 = .ok (.invokespecial 1, 3) := by decide +kernel
theorem dU_4 : decode jdk_18_method_1_code 4 = .ok (.return_, 1) := by decide +kernel
theorem pnU : plainName "java/lang/Number" = true := by first | (simp [plainName, overriddenIn]; done) | decide +kernel
set_option maxRecDepth 65536 in
set_option maxHeartbeats 40000000 in
theorem rmU (l : Launch) (Z : State) (a0 : Array Value) (hw : ∀ d ∈ tables_1, d.before a0 Z = true) (ws : List Jvm.Cond) (pa : Addr) (h0 : Heap) (n0 : Nat) (Z0 : n0 ≤ h0.size)  :
    MetFree l (⟨"java/lang/Number", "<init>", "()V"⟩ : MethodName) (head1 (Jvm.Cond.code (⟨"java/lang/Number", "<init>", "()V"⟩ : MethodName) jdk_18_method_1_code 1 none :: ws) ({ frames := 1, cells := 0, slots := 0, locals := 12 } : Room)) (fun aa U => aa = #[(.ref pa)] ∧ Z.Warmed39 U.vm ∧ U.heap = h0) (fun _ _ _ _ _ => True) (fun _ U o U' => ∃ v L, o = .returned v ∧ QU Z pa h0 n0 v U'.heap L ∧ FrameEnd U o U' L ({ frames := 1, cells := 0, slots := 0, locals := 12 } : Room).cells ({ frames := 1, cells := 0, slots := 0, locals := 12 } : Room).slots) := by
  refine MetFree.of_bodySF (plainFor_of_name pnU) hisR ?_
  intro p e s m args below meth c s₁ Bd hml0 hP hK
  obtain ⟨rfl, hZ, hh⟩ := hP
  have hx := Bd.exec
  have hby := Bd.bytes
  have hlk : meth.locks = false := BodyLoose.notSynchronized Bd
  have hml : c.maxLocals = 1 := hml0
  have hown : s.vm.findClass "java/lang/Number" = some m.cls := findClass_of_methodNamed Bd.named
  have hnm := (name_of_methodNamed Bd.named Bd.method).1
  have X0 : Stand p l e ({ frames := 1, cells := 0, slots := 0, locals := 12 } : Room) s m #[(.ref pa)] below meth c s₁ [] 0 0 := Stand.of_body Bd
  have e0 : s₁.heap = h0 := by rw [← hh, Bd.state]; rfl
  have N0 := Fr.nil n0
  have ef : entryFrame m #[(.ref pa)] 1 = mkF m 0 #[rv pa] [] := by first | (simp [entryFrame, mkF, argsToLocals, Value.category, maxLocals]; done) | rfl
  show Way p.tables e below (KQ s (QU Z pa h0 n0) ({ frames := 1, cells := 0, slots := 0, locals := 12 } : Room).cells ({ frames := 1, cells := 0, slots := 0, locals := 12 } : Room).slots) (s₁.setTop (entryFrame m #[(.ref pa)] 1))
  rw [ef]
  refine Way.by (fun _ k => XS.aloadN X0.here hx rfl (hb hby dU_0) rfl rfl k) ?_
  show Way _ _ _ _ (s₁.setTop (mkF m 1 #[rv pa] [(.ref pa)]))
  obtain ⟨T1, X2, e3, st4⟩ := initO X0 hx hZ hown (tw hw 108 rfl) (tw hw 16 rfl) (tw hw 17 rfl) e0 (g := (mkF m 1 #[rv pa] [(.ref pa)])) rfl (by rw [hml]; rfl) rfl (hb hby dU_1) (by decide) (W := 0) (leW rfl) (by decide)
  refine Way.by st4 ?_
  show Way _ _ _ _ (T1.setTop (mkF m 4 #[rv pa] []))
  refine Way.ret (v := none) X2 hlk (fun _ => rfl) (fun fs hr => X2.returnOut hx Bd.returns (hb hby dU_4) hr) ?_ (by decide) (by decide)
  show QU Z pa h0 n0 _ T1.heap _
  rw [e3]
  exact ⟨rfl, N0, rfl⟩
def QI (Z : State) (pa : Addr) (pz : Int32) (h0 : Heap) (n0 : Nat) (v : Option Value) (h : Heap) (L : List Loc) : Prop := v = none ∧ Fr n0 L ∧ Keep h0 h [pa] ∧ Exa Z h pa "java/util/concurrent/atomic/AtomicInteger" ∧ Fld Z h pa "java/util/concurrent/atomic/AtomicInteger" "value" "I" (.int pz)
theorem dI_0 : decode jdk_2803_method_1_code 0 = .ok (.aload_n 0, 1) := by decide +kernel
theorem dI_1 : decode jdk_2803_method_1_code 1 = .ok (.invokespecial 1, 3) := by decide +kernel
theorem dI_4 : decode jdk_2803_method_1_code 4 = .ok (.aload_n 0, 1) := by decide +kernel
theorem dI_5 : decode jdk_2803_method_1_code 5 = .ok (.iload_n 1, 1) := by decide +kernel
theorem dI_6 : decode jdk_2803_method_1_code 6 = .ok (.putfield 7, 3) := by decide +kernel
theorem dI_9 : decode jdk_2803_method_1_code 9 = .ok (.return_, 1) := by decide +kernel
theorem pnI : plainName "java/util/concurrent/atomic/AtomicInteger" = true := by first | (simp [plainName, overriddenIn]; done) | decide +kernel
theorem pdI : parseMethodDescriptor "(I)V" = some ⟨[.int], none⟩ := by decide +kernel
set_option maxRecDepth 65536 in
set_option maxHeartbeats 40000000 in
theorem rmI (l : Launch) (Z : State) (a0 : Array Value) (hw : ∀ d ∈ tables_1, d.before a0 Z = true) (ws : List Jvm.Cond) (pa : Addr) (pz : Int32) (h0 : Heap) (n0 : Nat) (Z0 : n0 ≤ h0.size) (H0 : Exa Z h0 pa "java/util/concurrent/atomic/AtomicInteger") (H1 : Fld Z h0 pa "java/util/concurrent/atomic/AtomicInteger" "value" "I" (.int 0)) (nw_pa : n0 ≤ pa) :
    MetFree l (⟨"java/util/concurrent/atomic/AtomicInteger", "<init>", "(I)V"⟩ : MethodName) (head1 (Jvm.Cond.code (⟨"java/util/concurrent/atomic/AtomicInteger", "<init>", "(I)V"⟩ : MethodName) jdk_2803_method_1_code 2 none :: ws) ({ frames := 2, cells := 0, slots := 0, locals := 24 } : Room)) (fun aa U => aa = #[(.ref pa), (.int pz)] ∧ Z.Warmed39 U.vm ∧ U.heap = h0) (fun _ _ _ _ _ => True) (fun _ U o U' => ∃ v L, o = .returned v ∧ QI Z pa pz h0 n0 v U'.heap L ∧ FrameEnd U o U' L ({ frames := 2, cells := 0, slots := 0, locals := 24 } : Room).cells ({ frames := 2, cells := 0, slots := 0, locals := 24 } : Room).slots) := by
  refine MetFree.of_bodySF (plainFor_of_name pnI) hisR ?_
  intro p e s m args below meth c s₁ Bd hml0 hP hK
  obtain ⟨rfl, hZ, hh⟩ := hP
  have hx := Bd.exec
  have hby := Bd.bytes
  have hlk : meth.locks = false := BodyLoose.notSynchronized Bd
  have hml : c.maxLocals = 2 := hml0
  have hown : s.vm.findClass "java/util/concurrent/atomic/AtomicInteger" = some m.cls := findClass_of_methodNamed Bd.named
  have hnm := (name_of_methodNamed Bd.named Bd.method).1
  have X0 : Stand p l e ({ frames := 2, cells := 0, slots := 0, locals := 24 } : Room) s m #[(.ref pa), (.int pz)] below meth c s₁ [] 0 0 := Stand.of_body Bd
  have e0 : s₁.heap = h0 := by rw [← hh, Bd.state]; rfl
  have N0 := Fr.nil n0
  have ef : entryFrame m #[(.ref pa), (.int pz)] 2 = mkF m 0 #[rv pa, iv pz] [] := by first | (simp [entryFrame, mkF, argsToLocals, Value.category, maxLocals]; done) | rfl
  show Way p.tables e below (KQ s (QI Z pa pz h0 n0) ({ frames := 2, cells := 0, slots := 0, locals := 24 } : Room).cells ({ frames := 2, cells := 0, slots := 0, locals := 24 } : Room).slots) (s₁.setTop (entryFrame m #[(.ref pa), (.int pz)] 2))
  rw [ef]
  refine Way.by (fun _ k => XS.aloadN X0.here hx rfl (hb hby dI_0) rfl rfl k) ?_
  show Way _ _ _ _ (s₁.setTop (mkF m 1 #[rv pa, iv pz] [(.ref pa)]))
  obtain ⟨_, _, ⟨T1, L3, k4, n5⟩, -, X2, ⟨Lc6, hQ7, l8, y9, z10⟩, st11⟩ := X0.specialBack hx (y := (⟨"java/lang/Number", "<init>", "()V"⟩ : MethodName)) rfl hown (mvT hZ (tw hw 102 rfl)) (mvT hZ (tw hw 103 rfl)) (mvT hZ (tw hw 107 rfl)) (by decide) (backOf (W := 0) (rmU l Z a0 hw [] pa h0 n0 Z0 ) hZ (tw hw 107 rfl) (tw hw 106 rfl) (by decide) (by decide)) (g := (mkF m 1 #[rv pa, iv pz] [(.ref pa)])) rfl (by rw [hml]; rfl) (Steps.refl _) (a := pa) (argsL := []) (rest := []) (lenOf pdA2 rfl) rfl (leW rfl) (hb hby dI_1) (fun _ _ => ⟨rfl, e0, (leB rfl), (leB rfl)⟩)
  dsimp only [Pt.U, Pt.locs, Pt.cells, Pt.slots] at X2 l8 y9 z10 st11 hQ7
  subst l8 y9 z10
  obtain ⟨rfl, N17, e13⟩ := hQ7
  have N12 := Fr.app N0 N17
  refine Way.to st11 ?_
  show Way _ _ _ _ (T1.setTop (mkF m 4 #[rv pa, iv pz] []))
  refine Way.by (fun _ k => XS.aloadN X2.here hx rfl (hb hby dI_4) rfl rfl k) ?_
  show Way _ _ _ _ (T1.setTop (mkF m 5 #[rv pa, iv pz] [(.ref pa)]))
  refine Way.by (fun _ k => XS.iloadN X2.here hx rfl (hb hby dI_5) rfl k) ?_
  show Way _ _ _ _ (T1.setTop (mkF m 6 #[rv pa, iv pz] [(.int pz), (.ref pa)]))
  obtain ⟨T19, h20, X21, e22, W23, st24⟩ := putF X2 hx hZ hown (host := "") (Or.inl (tw hw 109 rfl)) Via.refl e13 H1 H0 (Or.inl (tw hw 110 rfl)) (tw hw 97 rfl) (ty := .int) (by decide) rfl rfl (g := (mkF m 6 #[rv pa, iv pz] [(.int pz), (.ref pa)])) rfl rfl (hb hby dI_6)
  have N25 := Fr.snoc X21 N12 nw_pa
  have E26 := Exa.wr W23 H0
  have F27 : Fld Z h20 pa "java/util/concurrent/atomic/AtomicInteger" "value" "I" (.int pz) := H1.same W23
  have Z28 : n0 ≤ h20.size := by rw [W23.size]; exact Z0
  have K29 := (Keep.refl h0 [pa]).wr W23 (Or.inl (List.mem_of_getElem? (i := 0) rfl))
  have hz30 : h0.size ≤ h20.size := by rw [W23.size]; exact (Nat.le_refl h0.size)
  refine Way.by st24 ?_
  show Way _ _ _ _ (T19.setTop (mkF m 9 #[rv pa, iv pz] []))
  refine Way.ret (v := none) X21 hlk (fun _ => rfl) (fun fs hr => X21.returnOut hx Bd.returns (hb hby dI_9) hr) ?_ (by decide) (by decide)
  show QI Z pa pz h0 n0 _ T19.heap _
  rw [e22]
  exact ⟨rfl, N25, K29, E26, F27⟩
def QG (Z : State) (pa : Addr) (pz : Int64) (h0 : Heap) (n0 : Nat) (v : Option Value) (h : Heap) (L : List Loc) : Prop := v = none ∧ Fr n0 L ∧ Keep h0 h [pa] ∧ Exa Z h pa "java/util/concurrent/atomic/AtomicLong" ∧ Fld Z h pa "java/util/concurrent/atomic/AtomicLong" "value" "J" (.long pz)
theorem dG_0 : decode jdk_2805_method_2_code 0 = .ok (.aload_n 0, 1) := by decide +kernel
theorem dG_1 : decode jdk_2805_method_2_code 1 = .ok (.invokespecial 1, 3) := by decide +kernel
theorem dG_4 : decode jdk_2805_method_2_code 4 = .ok (.aload_n 0, 1) := by decide +kernel
theorem dG_5 : decode jdk_2805_method_2_code 5 = .ok (.lload_n 1, 1) := by decide +kernel
theorem dG_6 : decode jdk_2805_method_2_code 6 = .ok (.putfield 7, 3) := by decide +kernel
theorem dG_9 : decode jdk_2805_method_2_code 9 = .ok (.return_, 1) := by decide +kernel
theorem pnG : plainName "java/util/concurrent/atomic/AtomicLong" = true := by first | (simp [plainName, overriddenIn]; done) | decide +kernel
theorem pdG : parseMethodDescriptor "(J)V" = some ⟨[.long], none⟩ := by decide +kernel
set_option maxRecDepth 65536 in
set_option maxHeartbeats 40000000 in
theorem rmG (l : Launch) (Z : State) (a0 : Array Value) (hw : ∀ d ∈ tables_1, d.before a0 Z = true) (ws : List Jvm.Cond) (pa : Addr) (pz : Int64) (h0 : Heap) (n0 : Nat) (Z0 : n0 ≤ h0.size) (H0 : Exa Z h0 pa "java/util/concurrent/atomic/AtomicLong") (H1 : Fld Z h0 pa "java/util/concurrent/atomic/AtomicLong" "value" "J" (.long (0 : Int64))) (nw_pa : n0 ≤ pa) :
    MetFree l (⟨"java/util/concurrent/atomic/AtomicLong", "<init>", "(J)V"⟩ : MethodName) (head1 (Jvm.Cond.code (⟨"java/util/concurrent/atomic/AtomicLong", "<init>", "(J)V"⟩ : MethodName) jdk_2805_method_2_code 3 none :: ws) ({ frames := 2, cells := 0, slots := 0, locals := 24 } : Room)) (fun aa U => aa = #[(.ref pa), (.long pz)] ∧ Z.Warmed39 U.vm ∧ U.heap = h0) (fun _ _ _ _ _ => True) (fun _ U o U' => ∃ v L, o = .returned v ∧ QG Z pa pz h0 n0 v U'.heap L ∧ FrameEnd U o U' L ({ frames := 2, cells := 0, slots := 0, locals := 24 } : Room).cells ({ frames := 2, cells := 0, slots := 0, locals := 24 } : Room).slots) := by
  refine MetFree.of_bodySF (plainFor_of_name pnG) hisR ?_
  intro p e s m args below meth c s₁ Bd hml0 hP hK
  obtain ⟨rfl, hZ, hh⟩ := hP
  have hx := Bd.exec
  have hby := Bd.bytes
  have hlk : meth.locks = false := BodyLoose.notSynchronized Bd
  have hml : c.maxLocals = 3 := hml0
  have hown : s.vm.findClass "java/util/concurrent/atomic/AtomicLong" = some m.cls := findClass_of_methodNamed Bd.named
  have hnm := (name_of_methodNamed Bd.named Bd.method).1
  have X0 : Stand p l e ({ frames := 2, cells := 0, slots := 0, locals := 24 } : Room) s m #[(.ref pa), (.long pz)] below meth c s₁ [] 0 0 := Stand.of_body Bd
  have e0 : s₁.heap = h0 := by rw [← hh, Bd.state]; rfl
  have N0 := Fr.nil n0
  have ef : entryFrame m #[(.ref pa), (.long pz)] 3 = mkF m 0 #[rv pa, .val (.long pz), .second] [] := by first | (simp [entryFrame, mkF, argsToLocals, Value.category, maxLocals]; done) | rfl
  show Way p.tables e below (KQ s (QG Z pa pz h0 n0) ({ frames := 2, cells := 0, slots := 0, locals := 24 } : Room).cells ({ frames := 2, cells := 0, slots := 0, locals := 24 } : Room).slots) (s₁.setTop (entryFrame m #[(.ref pa), (.long pz)] 3))
  rw [ef]
  refine Way.by (fun _ k => XS.aloadN X0.here hx rfl (hb hby dG_0) rfl rfl k) ?_
  show Way _ _ _ _ (s₁.setTop (mkF m 1 #[rv pa, .val (.long pz), .second] [(.ref pa)]))
  obtain ⟨_, _, ⟨T1, L3, k4, n5⟩, -, X2, ⟨Lc6, hQ7, l8, y9, z10⟩, st11⟩ := X0.specialBack hx (y := (⟨"java/lang/Number", "<init>", "()V"⟩ : MethodName)) rfl hown (mvT hZ (tw hw 123 rfl)) (mvT hZ (tw hw 103 rfl)) (mvT hZ (tw hw 107 rfl)) (by decide) (backOf (W := 0) (rmU l Z a0 hw [] pa h0 n0 Z0 ) hZ (tw hw 107 rfl) (tw hw 106 rfl) (by decide) (by decide)) (g := (mkF m 1 #[rv pa, .val (.long pz), .second] [(.ref pa)])) rfl (by rw [hml]; rfl) (Steps.refl _) (a := pa) (argsL := []) (rest := []) (lenOf pdA2 rfl) rfl (leW rfl) (hb hby dG_1) (fun _ _ => ⟨rfl, e0, (leB rfl), (leB rfl)⟩)
  dsimp only [Pt.U, Pt.locs, Pt.cells, Pt.slots] at X2 l8 y9 z10 st11 hQ7
  subst l8 y9 z10
  obtain ⟨rfl, N17, e13⟩ := hQ7
  have N12 := Fr.app N0 N17
  refine Way.to st11 ?_
  show Way _ _ _ _ (T1.setTop (mkF m 4 #[rv pa, .val (.long pz), .second] []))
  refine Way.by (fun _ k => XS.aloadN X2.here hx rfl (hb hby dG_4) rfl rfl k) ?_
  show Way _ _ _ _ (T1.setTop (mkF m 5 #[rv pa, .val (.long pz), .second] [(.ref pa)]))
  refine Way.by (fun _ k => XT.lloadN X2.here hx rfl (hb hby dG_5) rfl k) ?_
  show Way _ _ _ _ (T1.setTop (mkF m 6 #[rv pa, .val (.long pz), .second] [(.long pz), (.ref pa)]))
  obtain ⟨T19, h20, X21, e22, W23, st24⟩ := putF X2 hx hZ hown (host := "") (Or.inl (tw hw 125 rfl)) Via.refl e13 H1 H0 (Or.inl (tw hw 126 rfl)) (tw hw 118 rfl) (ty := .long) (by decide) rfl rfl (g := (mkF m 6 #[rv pa, .val (.long pz), .second] [(.long pz), (.ref pa)])) rfl rfl (hb hby dG_6)
  have N25 := Fr.snoc X21 N12 nw_pa
  have E26 := Exa.wr W23 H0
  have F27 : Fld Z h20 pa "java/util/concurrent/atomic/AtomicLong" "value" "J" (.long pz) := H1.same W23
  have Z28 : n0 ≤ h20.size := by rw [W23.size]; exact Z0
  have K29 := (Keep.refl h0 [pa]).wr W23 (Or.inl (List.mem_of_getElem? (i := 0) rfl))
  have hz30 : h0.size ≤ h20.size := by rw [W23.size]; exact (Nat.le_refl h0.size)
  refine Way.by st24 ?_
  show Way _ _ _ _ (T19.setTop (mkF m 9 #[rv pa, .val (.long pz), .second] []))
  refine Way.ret (v := none) X21 hlk (fun _ => rfl) (fun fs hr => X21.returnOut hx Bd.returns (hb hby dG_9) hr) ?_ (by decide) (by decide)
  show QG Z pa pz h0 n0 _ T19.heap _
  rw [e22]
  exact ⟨rfl, N25, K29, E26, F27⟩
def QT (Z : State) (pa : Addr) (pl : Addr) (pz : Int64) (h0 : Heap) (n0 : Nat) (v : Option Value) (h : Heap) (L : List Loc) : Prop := v = none ∧ Fr n0 L ∧ Keep h0 h [pa] ∧ Exa Z h pa "com/example/forward_horizon/forwardhorizon/engine/Event" ∧ Fld Z h pa "com/example/forward_horizon/forwardhorizon/engine/Event" "fields" "Ljava/util/List;" (.ref pl)
theorem dT_0 : decode prog_4_method_1_code 0 = .ok (.aload_n 0, 1) := by decide +kernel
theorem dT_1 : decode prog_4_method_1_code 1 = .ok (.invokespecial 1, 3) := by decide +kernel
theorem dT_4 : decode prog_4_method_1_code 4 = .ok (.aload_n 0, 1) := by decide +kernel
theorem dT_5 : decode prog_4_method_1_code 5 = .ok (.new 7, 3) := by decide +kernel
theorem dT_8 : decode prog_4_method_1_code 8 = .ok (.dup, 1) := by decide +kernel
theorem dT_9 : decode prog_4_method_1_code 9 = .ok (.iconst 1, 1) := by decide +kernel
theorem dT_10 : decode prog_4_method_1_code 10 = .ok (.invokespecial 9, 3) := by decide +kernel
theorem dT_13 : decode prog_4_method_1_code 13 = .ok (.putfield 12, 3) := by decide +kernel
theorem dT_16 : decode prog_4_method_1_code 16 = .ok (.aload_n 0, 1) := by decide +kernel
theorem dT_17 : decode prog_4_method_1_code 17 = .ok (.aload_n 1, 1) := by decide +kernel
theorem dT_18 : decode prog_4_method_1_code 18 = .ok (.putfield 18, 3) := by decide +kernel
theorem dT_21 : decode prog_4_method_1_code 21 = .ok (.aload_n 0, 1) := by decide +kernel
theorem dT_22 : decode prog_4_method_1_code 22 = .ok (.lload_n 2, 1) := by decide +kernel
theorem dT_23 : decode prog_4_method_1_code 23 = .ok (.putfield 22, 3) := by decide +kernel
theorem dT_26 : decode prog_4_method_1_code 26 = .ok (.aload_n 0, 1) := by decide +kernel
theorem dT_27 : decode prog_4_method_1_code 27 = .ok (.new 26, 3) := by decide +kernel
theorem dT_30 : decode prog_4_method_1_code 30 = .ok (.dup, 1) := by decide +kernel
theorem dT_31 : decode prog_4_method_1_code 31 = .ok (.lload_n 2, 1) := by decide +kernel
theorem dT_32 : decode prog_4_method_1_code 32 = .ok (.invokespecial 28, 3) := by decide +kernel
theorem dT_35 : decode prog_4_method_1_code 35 = .ok (.putfield 31, 3) := by decide +kernel
theorem dT_38 : decode prog_4_method_1_code 38 = .ok (.return_, 1) := by decide +kernel
theorem pnT : plainName "com/example/forward_horizon/forwardhorizon/engine/Event" = true := by first | (simp [plainName, overriddenIn]; done) | decide +kernel
theorem pdT : parseMethodDescriptor "(Ljava/util/List;J)V" = some ⟨[(.object "java/util/List"), .long], none⟩ := by decide +kernel
set_option maxRecDepth 65536 in
set_option maxHeartbeats 40000000 in
theorem rmT (l : Launch) (Z : State) (a0 : Array Value) (hw : ∀ d ∈ tables_1, d.before a0 Z = true) (ws : List Jvm.Cond) (pa : Addr) (pl : Addr) (pz : Int64) (h0 : Heap) (n0 : Nat) (Z0 : n0 ≤ h0.size) (H0 : Exa Z h0 pa "com/example/forward_horizon/forwardhorizon/engine/Event") (H1 : Fld Z h0 pa "com/example/forward_horizon/forwardhorizon/engine/Event" "holds" "Ljava/util/concurrent/atomic/AtomicInteger;" .null) (H2 : Fld Z h0 pa "com/example/forward_horizon/forwardhorizon/engine/Event" "fields" "Ljava/util/List;" .null) (H3 : Fld Z h0 pa "com/example/forward_horizon/forwardhorizon/engine/Event" "releaseNanos" "J" (.long (0 : Int64))) (H4 : Fld Z h0 pa "com/example/forward_horizon/forwardhorizon/engine/Event" "lastEndNanos" "Ljava/util/concurrent/atomic/AtomicLong;" .null) (nw_pa : n0 ≤ pa) :
    MetFree l (⟨"com/example/forward_horizon/forwardhorizon/engine/Event", "<init>", "(Ljava/util/List;J)V"⟩ : MethodName) (head1 (Jvm.Cond.code (⟨"com/example/forward_horizon/forwardhorizon/engine/Event", "<init>", "(Ljava/util/List;J)V"⟩ : MethodName) prog_4_method_1_code 4 none :: ws) ({ frames := 3, cells := 2, slots := 2, locals := 40 } : Room)) (fun aa U => aa = #[(.ref pa), (.ref pl), (.long pz)] ∧ Z.Warmed39 U.vm ∧ U.heap = h0) (fun _ _ _ _ _ => True) (fun _ U o U' => ∃ v L, o = .returned v ∧ QT Z pa pl pz h0 n0 v U'.heap L ∧ FrameEnd U o U' L ({ frames := 3, cells := 2, slots := 2, locals := 40 } : Room).cells ({ frames := 3, cells := 2, slots := 2, locals := 40 } : Room).slots) := by
  refine MetFree.of_bodySF (plainFor_of_name pnT) hisR ?_
  intro p e s m args below meth c s₁ Bd hml0 hP hK
  obtain ⟨rfl, hZ, hh⟩ := hP
  have hx := Bd.exec
  have hby := Bd.bytes
  have hlk : meth.locks = false := BodyLoose.notSynchronized Bd
  have hml : c.maxLocals = 4 := hml0
  have hown : s.vm.findClass "com/example/forward_horizon/forwardhorizon/engine/Event" = some m.cls := findClass_of_methodNamed Bd.named
  have hnm := (name_of_methodNamed Bd.named Bd.method).1
  have X0 : Stand p l e ({ frames := 3, cells := 2, slots := 2, locals := 40 } : Room) s m #[(.ref pa), (.ref pl), (.long pz)] below meth c s₁ [] 0 0 := Stand.of_body Bd
  have e0 : s₁.heap = h0 := by rw [← hh, Bd.state]; rfl
  have N0 := Fr.nil n0
  have ef : entryFrame m #[(.ref pa), (.ref pl), (.long pz)] 4 = mkF m 0 #[rv pa, rv pl, .val (.long pz), .second] [] := by first | (simp [entryFrame, mkF, argsToLocals, Value.category, maxLocals]; done) | rfl
  show Way p.tables e below (KQ s (QT Z pa pl pz h0 n0) ({ frames := 3, cells := 2, slots := 2, locals := 40 } : Room).cells ({ frames := 3, cells := 2, slots := 2, locals := 40 } : Room).slots) (s₁.setTop (entryFrame m #[(.ref pa), (.ref pl), (.long pz)] 4))
  rw [ef]
  refine Way.by (fun _ k => XS.aloadN X0.here hx rfl (hb hby dT_0) rfl rfl k) ?_
  show Way _ _ _ _ (s₁.setTop (mkF m 1 #[rv pa, rv pl, .val (.long pz), .second] [(.ref pa)]))
  obtain ⟨T1, X2, e3, st4⟩ := initO X0 hx hZ hown (tw hw 95 rfl) (tw hw 16 rfl) (tw hw 17 rfl) e0 (g := (mkF m 1 #[rv pa, rv pl, .val (.long pz), .second] [(.ref pa)])) rfl (by rw [hml]; rfl) rfl (hb hby dT_1) (by decide) (W := 0) (leW rfl) (by decide)
  refine Way.by st4 ?_
  show Way _ _ _ _ (T1.setTop (mkF m 4 #[rv pa, rv pl, .val (.long pz), .second] []))
  refine Way.by (fun _ k => XS.aloadN X2.here hx rfl (hb hby dT_4) rfl rfl k) ?_
  show Way _ _ _ _ (T1.setTop (mkF m 5 #[rv pa, rv pl, .val (.long pz), .second] [(.ref pa)]))
  obtain ⟨T5, h6, X7, e8, E9, A10, D11, -, st12⟩ := newO X2 hx hZ hown (tw hw 96 rfl) (tw hw 97 rfl) (tw hw 98 rfl) e3 (g := (mkF m 5 #[rv pa, rv pl, .val (.long pz), .second] [(.ref pa)])) rfl (hb hby dT_5) (by decide) (by decide)
  obtain ⟨a13, g14⟩ : ∃ z, z = h0.size := ⟨_, rfl⟩
  rw [← g14] at A10 D11 st12
  have ne15 : pa ≠ a13 := Nat.ne_of_lt (Nat.lt_of_lt_of_eq H0.lt g14.symm)
  have nw16 : n0 ≤ a13 := Nat.le_trans Z0 (Nat.le_of_eq g14.symm)
  have hk17 : h0.size ≤ a13 := Nat.le_trans (Nat.le_refl h0.size) (Nat.le_of_eq g14.symm)
  have E18 := Exa.ext E9 H0
  have F19 := Fld.ext E9 H1
  have F20 := Fld.ext E9 H2
  have F21 := Fld.ext E9 H3
  have F22 := Fld.ext E9 H4
  have Z23 := Nat.le_trans Z0 E9.1
  have K24 := (Keep.refl h0 [pa]).ext E9
  have hz25 := Nat.le_trans (Nat.le_refl h0.size) E9.1
  have F26 : Fld Z h6 a13 "java/util/concurrent/atomic/AtomicInteger" "value" "I" (.int 0) := D11 (Or.inl (tw hw 110 rfl)) (ty := .int) (by decide)
  refine Way.by st12 ?_
  show Way _ _ _ _ (T5.setTop (mkF m 8 #[rv pa, rv pl, .val (.long pz), .second] [(.ref a13), (.ref pa)]))
  refine Way.by (fun _ k => XS.dup X7.here hx rfl (hb hby dT_8) rfl rfl k) ?_
  show Way _ _ _ _ (T5.setTop (mkF m 9 #[rv pa, rv pl, .val (.long pz), .second] [(.ref a13), (.ref a13), (.ref pa)]))
  refine Way.by (fun _ k => XS.iconst X7.here hx rfl (hb hby dT_9) k) ?_
  show Way _ _ _ _ (T5.setTop (mkF m 10 #[rv pa, rv pl, .val (.long pz), .second] [(.int 1), (.ref a13), (.ref a13), (.ref pa)]))
  obtain ⟨_, _, ⟨T27, L29, k30, n31⟩, -, X28, ⟨Lc32, hQ33, l34, y35, z36⟩, st37⟩ := X7.specialBack hx (y := (⟨"java/util/concurrent/atomic/AtomicInteger", "<init>", "(I)V"⟩ : MethodName)) rfl hown (mvT hZ (tw hw 99 rfl)) (mvT hZ (tw hw 100 rfl)) (mvT hZ (tw hw 101 rfl)) (by decide) (backOf (W := 2) (rmI l Z a0 hw [] a13 (1 : Int32) h6 n0 Z23 A10 F26 nw16) hZ (tw hw 101 rfl) (tw hw 98 rfl) (by decide) (by decide)) (g := (mkF m 10 #[rv pa, rv pl, .val (.long pz), .second] [(.int 1), (.ref a13), (.ref a13), (.ref pa)])) rfl (by rw [hml]; rfl) (Steps.refl _) (a := a13) (argsL := [(.int 1)]) (rest := [(.ref a13), (.ref pa)]) (lenOf pdI rfl) rfl (leW rfl) (hb hby dT_10) (fun _ _ => ⟨rfl, e8, (leB rfl), (leB rfl)⟩)
  dsimp only [Pt.U, Pt.locs, Pt.cells, Pt.slots] at X28 l34 y35 z36 st37 hQ33
  subst l34 y35 z36
  obtain ⟨rfl, N43, K44, F_045, F_146⟩ := hQ33
  have N38 := Fr.app N0 N43
  have E47 := E18.keep K44
  have F48 := F19.keep K44 (ninS ne15 nin0)
  have F49 := F20.keep K44 (ninS ne15 nin0)
  have F50 := F21.keep K44 (ninS ne15 nin0)
  have F51 := F22.keep K44 (ninS ne15 nin0)
  have E52 := A10.keep K44
  have Z53 := Nat.le_trans Z23 K44.1
  have K54 := K24.trans K44 (allS (Or.inr hk17) all0)
  have hz55 := Nat.le_trans hz25 K44.1
  refine Way.to st37 ?_
  show Way _ _ _ _ (T27.setTop (mkF m 13 #[rv pa, rv pl, .val (.long pz), .second] [(.ref a13), (.ref pa)]))
  obtain ⟨T56, h57, X58, e59, W60, st61⟩ := putF X28 hx hZ hown (host := "") (Or.inl (tw hw 111 rfl)) Via.refl rfl F48 E47 (Or.inr ⟨(tw hw 112 rfl), rfl, hnm⟩) (tw hw 90 rfl) (ty := (.object "java/util/concurrent/atomic/AtomicInteger")) (by decide) rfl rfl (g := (mkF m 13 #[rv pa, rv pl, .val (.long pz), .second] [(.ref a13), (.ref pa)])) rfl rfl (hb hby dT_13)
  have N62 := Fr.snoc X58 N38 nw_pa
  have E63 := Exa.wr W60 E47
  have F64 : Fld Z h57 pa "com/example/forward_horizon/forwardhorizon/engine/Event" "holds" "Ljava/util/concurrent/atomic/AtomicInteger;" (.ref a13) := F48.same W60
  have F65 := F49.other W60 (Or.inr (slot_ne (Or.inr (tw hw 114 rfl)) (Or.inr (tw hw 112 rfl)) (by decide) (t := (.object "java/util/List")) (t' := (.object "java/util/concurrent/atomic/AtomicInteger")) (by decide) (by decide)))
  have F66 := F50.other W60 (Or.inr (slot_ne (Or.inr (tw hw 116 rfl)) (Or.inr (tw hw 112 rfl)) (by decide) (t := .long) (t' := (.object "java/util/concurrent/atomic/AtomicInteger")) (by decide) (by decide)))
  have F67 := F51.other W60 (Or.inr (slot_ne (Or.inr (tw hw 128 rfl)) (Or.inr (tw hw 112 rfl)) (by decide) (t := (.object "java/util/concurrent/atomic/AtomicLong")) (t' := (.object "java/util/concurrent/atomic/AtomicInteger")) (by decide) (by decide)))
  have E68 := Exa.wr W60 F_045
  have F69 := F_146.other W60 (Or.inl ne15.symm)
  have Z70 : n0 ≤ h57.size := by rw [W60.size]; exact Z53
  have K71 := K54.wr W60 (Or.inl (List.mem_of_getElem? (i := 0) rfl))
  have hz72 : h0.size ≤ h57.size := by rw [W60.size]; exact hz55
  refine Way.by st61 ?_
  show Way _ _ _ _ (T56.setTop (mkF m 16 #[rv pa, rv pl, .val (.long pz), .second] []))
  refine Way.by (fun _ k => XS.aloadN X58.here hx rfl (hb hby dT_16) rfl rfl k) ?_
  show Way _ _ _ _ (T56.setTop (mkF m 17 #[rv pa, rv pl, .val (.long pz), .second] [(.ref pa)]))
  refine Way.by (fun _ k => XS.aloadN X58.here hx rfl (hb hby dT_17) rfl rfl k) ?_
  show Way _ _ _ _ (T56.setTop (mkF m 18 #[rv pa, rv pl, .val (.long pz), .second] [(.ref pl), (.ref pa)]))
  obtain ⟨T73, h74, X75, e76, W77, st78⟩ := putF X58 hx hZ hown (host := "") (Or.inl (tw hw 113 rfl)) Via.refl e59 F65 E63 (Or.inr ⟨(tw hw 114 rfl), rfl, hnm⟩) (tw hw 90 rfl) (ty := (.object "java/util/List")) (by decide) rfl rfl (g := (mkF m 18 #[rv pa, rv pl, .val (.long pz), .second] [(.ref pl), (.ref pa)])) rfl rfl (hb hby dT_18)
  have N79 := Fr.snoc X75 N62 nw_pa
  have E80 := Exa.wr W77 E63
  have F81 := F64.other W77 (Or.inr (slot_ne (Or.inr (tw hw 112 rfl)) (Or.inr (tw hw 114 rfl)) (by decide) (t := (.object "java/util/concurrent/atomic/AtomicInteger")) (t' := (.object "java/util/List")) (by decide) (by decide)))
  have F82 : Fld Z h74 pa "com/example/forward_horizon/forwardhorizon/engine/Event" "fields" "Ljava/util/List;" (.ref pl) := F65.same W77
  have F83 := F66.other W77 (Or.inr (slot_ne (Or.inr (tw hw 116 rfl)) (Or.inr (tw hw 114 rfl)) (by decide) (t := .long) (t' := (.object "java/util/List")) (by decide) (by decide)))
  have F84 := F67.other W77 (Or.inr (slot_ne (Or.inr (tw hw 128 rfl)) (Or.inr (tw hw 114 rfl)) (by decide) (t := (.object "java/util/concurrent/atomic/AtomicLong")) (t' := (.object "java/util/List")) (by decide) (by decide)))
  have E85 := Exa.wr W77 E68
  have F86 := F69.other W77 (Or.inl ne15.symm)
  have Z87 : n0 ≤ h74.size := by rw [W77.size]; exact Z70
  have K88 := K71.wr W77 (Or.inl (List.mem_of_getElem? (i := 0) rfl))
  have hz89 : h0.size ≤ h74.size := by rw [W77.size]; exact hz72
  refine Way.by st78 ?_
  show Way _ _ _ _ (T73.setTop (mkF m 21 #[rv pa, rv pl, .val (.long pz), .second] []))
  refine Way.by (fun _ k => XS.aloadN X75.here hx rfl (hb hby dT_21) rfl rfl k) ?_
  show Way _ _ _ _ (T73.setTop (mkF m 22 #[rv pa, rv pl, .val (.long pz), .second] [(.ref pa)]))
  refine Way.by (fun _ k => XT.lloadN X75.here hx rfl (hb hby dT_22) rfl k) ?_
  show Way _ _ _ _ (T73.setTop (mkF m 23 #[rv pa, rv pl, .val (.long pz), .second] [(.long pz), (.ref pa)]))
  obtain ⟨T90, h91, X92, e93, W94, st95⟩ := putF X75 hx hZ hown (host := "") (Or.inl (tw hw 115 rfl)) Via.refl e76 F83 E80 (Or.inr ⟨(tw hw 116 rfl), rfl, hnm⟩) (tw hw 90 rfl) (ty := .long) (by decide) rfl rfl (g := (mkF m 23 #[rv pa, rv pl, .val (.long pz), .second] [(.long pz), (.ref pa)])) rfl rfl (hb hby dT_23)
  have N96 := Fr.snoc X92 N79 nw_pa
  have E97 := Exa.wr W94 E80
  have F98 := F81.other W94 (Or.inr (slot_ne (Or.inr (tw hw 112 rfl)) (Or.inr (tw hw 116 rfl)) (by decide) (t := (.object "java/util/concurrent/atomic/AtomicInteger")) (t' := .long) (by decide) (by decide)))
  have F99 := F82.other W94 (Or.inr (slot_ne (Or.inr (tw hw 114 rfl)) (Or.inr (tw hw 116 rfl)) (by decide) (t := (.object "java/util/List")) (t' := .long) (by decide) (by decide)))
  have F100 : Fld Z h91 pa "com/example/forward_horizon/forwardhorizon/engine/Event" "releaseNanos" "J" (.long pz) := F83.same W94
  have F101 := F84.other W94 (Or.inr (slot_ne (Or.inr (tw hw 128 rfl)) (Or.inr (tw hw 116 rfl)) (by decide) (t := (.object "java/util/concurrent/atomic/AtomicLong")) (t' := .long) (by decide) (by decide)))
  have E102 := Exa.wr W94 E85
  have F103 := F86.other W94 (Or.inl ne15.symm)
  have Z104 : n0 ≤ h91.size := by rw [W94.size]; exact Z87
  have K105 := K88.wr W94 (Or.inl (List.mem_of_getElem? (i := 0) rfl))
  have hz106 : h0.size ≤ h91.size := by rw [W94.size]; exact hz89
  refine Way.by st95 ?_
  show Way _ _ _ _ (T90.setTop (mkF m 26 #[rv pa, rv pl, .val (.long pz), .second] []))
  refine Way.by (fun _ k => XS.aloadN X92.here hx rfl (hb hby dT_26) rfl rfl k) ?_
  show Way _ _ _ _ (T90.setTop (mkF m 27 #[rv pa, rv pl, .val (.long pz), .second] [(.ref pa)]))
  obtain ⟨T107, h108, X109, e110, E111, A112, D113, -, st114⟩ := newO X92 hx hZ hown (tw hw 117 rfl) (tw hw 118 rfl) (tw hw 119 rfl) e93 (g := (mkF m 27 #[rv pa, rv pl, .val (.long pz), .second] [(.ref pa)])) rfl (hb hby dT_27) (by decide) (by decide)
  obtain ⟨a115, g116⟩ : ∃ z, z = h91.size := ⟨_, rfl⟩
  rw [← g116] at A112 D113 st114
  have ne117 : pa ≠ a115 := Nat.ne_of_lt (Nat.lt_of_lt_of_eq E97.lt g116.symm)
  have ne118 : a13 ≠ a115 := Nat.ne_of_lt (Nat.lt_of_lt_of_eq E102.lt g116.symm)
  have nw119 : n0 ≤ a115 := Nat.le_trans Z104 (Nat.le_of_eq g116.symm)
  have hk120 : h0.size ≤ a115 := Nat.le_trans hz106 (Nat.le_of_eq g116.symm)
  have E121 := Exa.ext E111 E97
  have F122 := Fld.ext E111 F98
  have F123 := Fld.ext E111 F99
  have F124 := Fld.ext E111 F100
  have F125 := Fld.ext E111 F101
  have E126 := Exa.ext E111 E102
  have F127 := Fld.ext E111 F103
  have Z128 := Nat.le_trans Z104 E111.1
  have K129 := K105.ext E111
  have hz130 := Nat.le_trans hz106 E111.1
  have F131 : Fld Z h108 a115 "java/util/concurrent/atomic/AtomicLong" "value" "J" (.long (0 : Int64)) := D113 (Or.inl (tw hw 126 rfl)) (ty := .long) (by decide)
  refine Way.by st114 ?_
  show Way _ _ _ _ (T107.setTop (mkF m 30 #[rv pa, rv pl, .val (.long pz), .second] [(.ref a115), (.ref pa)]))
  refine Way.by (fun _ k => XS.dup X109.here hx rfl (hb hby dT_30) rfl rfl k) ?_
  show Way _ _ _ _ (T107.setTop (mkF m 31 #[rv pa, rv pl, .val (.long pz), .second] [(.ref a115), (.ref a115), (.ref pa)]))
  refine Way.by (fun _ k => XT.lloadN X109.here hx rfl (hb hby dT_31) rfl k) ?_
  show Way _ _ _ _ (T107.setTop (mkF m 32 #[rv pa, rv pl, .val (.long pz), .second] [(.long pz), (.ref a115), (.ref a115), (.ref pa)]))
  obtain ⟨_, _, ⟨T132, L134, k135, n136⟩, -, X133, ⟨Lc137, hQ138, l139, y140, z141⟩, st142⟩ := X109.specialBack hx (y := (⟨"java/util/concurrent/atomic/AtomicLong", "<init>", "(J)V"⟩ : MethodName)) rfl hown (mvT hZ (tw hw 120 rfl)) (mvT hZ (tw hw 121 rfl)) (mvT hZ (tw hw 122 rfl)) (by decide) (backOf (W := 2) (rmG l Z a0 hw [] a115 pz h108 n0 Z128 A112 F131 nw119) hZ (tw hw 122 rfl) (tw hw 119 rfl) (by decide) (by decide)) (g := (mkF m 32 #[rv pa, rv pl, .val (.long pz), .second] [(.long pz), (.ref a115), (.ref a115), (.ref pa)])) rfl (by rw [hml]; rfl) (Steps.refl _) (a := a115) (argsL := [(.long pz)]) (rest := [(.ref a115), (.ref pa)]) (lenOf pdG rfl) rfl (leW rfl) (hb hby dT_32) (fun _ _ => ⟨rfl, e110, (leB rfl), (leB rfl)⟩)
  dsimp only [Pt.U, Pt.locs, Pt.cells, Pt.slots] at X133 l139 y140 z141 st142 hQ138
  subst l139 y140 z141
  obtain ⟨rfl, N148, K149, F_0150, F_1151⟩ := hQ138
  have N143 := Fr.app N96 N148
  have E152 := E121.keep K149
  have F153 := F122.keep K149 (ninS ne117 nin0)
  have F154 := F123.keep K149 (ninS ne117 nin0)
  have F155 := F124.keep K149 (ninS ne117 nin0)
  have F156 := F125.keep K149 (ninS ne117 nin0)
  have E157 := E126.keep K149
  have F158 := F127.keep K149 (ninS ne118 nin0)
  have E159 := A112.keep K149
  have Z160 := Nat.le_trans Z128 K149.1
  have K161 := K129.trans K149 (allS (Or.inr hk120) all0)
  have hz162 := Nat.le_trans hz130 K149.1
  refine Way.to st142 ?_
  show Way _ _ _ _ (T132.setTop (mkF m 35 #[rv pa, rv pl, .val (.long pz), .second] [(.ref a115), (.ref pa)]))
  obtain ⟨T163, h164, X165, e166, W167, st168⟩ := putF X133 hx hZ hown (host := "") (Or.inl (tw hw 127 rfl)) Via.refl rfl F156 E152 (Or.inr ⟨(tw hw 128 rfl), rfl, hnm⟩) (tw hw 90 rfl) (ty := (.object "java/util/concurrent/atomic/AtomicLong")) (by decide) rfl rfl (g := (mkF m 35 #[rv pa, rv pl, .val (.long pz), .second] [(.ref a115), (.ref pa)])) rfl rfl (hb hby dT_35)
  have N169 := Fr.snoc X165 N143 nw_pa
  have E170 := Exa.wr W167 E152
  have F171 := F153.other W167 (Or.inr (slot_ne (Or.inr (tw hw 112 rfl)) (Or.inr (tw hw 128 rfl)) (by decide) (t := (.object "java/util/concurrent/atomic/AtomicInteger")) (t' := (.object "java/util/concurrent/atomic/AtomicLong")) (by decide) (by decide)))
  have F172 := F154.other W167 (Or.inr (slot_ne (Or.inr (tw hw 114 rfl)) (Or.inr (tw hw 128 rfl)) (by decide) (t := (.object "java/util/List")) (t' := (.object "java/util/concurrent/atomic/AtomicLong")) (by decide) (by decide)))
  have F173 := F155.other W167 (Or.inr (slot_ne (Or.inr (tw hw 116 rfl)) (Or.inr (tw hw 128 rfl)) (by decide) (t := .long) (t' := (.object "java/util/concurrent/atomic/AtomicLong")) (by decide) (by decide)))
  have F174 : Fld Z h164 pa "com/example/forward_horizon/forwardhorizon/engine/Event" "lastEndNanos" "Ljava/util/concurrent/atomic/AtomicLong;" (.ref a115) := F156.same W167
  have E175 := Exa.wr W167 E157
  have F176 := F158.other W167 (Or.inl ne15.symm)
  have E177 := Exa.wr W167 F_0150
  have F178 := F_1151.other W167 (Or.inl ne117.symm)
  have Z179 : n0 ≤ h164.size := by rw [W167.size]; exact Z160
  have K180 := K161.wr W167 (Or.inl (List.mem_of_getElem? (i := 0) rfl))
  have hz181 : h0.size ≤ h164.size := by rw [W167.size]; exact hz162
  refine Way.by st168 ?_
  show Way _ _ _ _ (T163.setTop (mkF m 38 #[rv pa, rv pl, .val (.long pz), .second] []))
  refine Way.ret (v := none) X165 hlk (fun _ => rfl) (fun fs hr => X165.returnOut hx Bd.returns (hb hby dT_38) hr) ?_ (by decide) (by decide)
  show QT Z pa pl pz h0 n0 _ T163.heap _
  rw [e166]
  exact ⟨rfl, N169, K180, E170, F172⟩
def QCK (Z : State) (pi : Int32) (pn : Int32) (h0 : Heap) (n0 : Nat) (v : Option Value) (h : Heap) (L : List Loc) : Prop := v = some (.int pi) ∧ Fr n0 L ∧ h = h0
theorem dCK_0 : decode jdk_41_method_11_code 0 = .ok (.iload_n 0, 1) := by decide +kernel
theorem dCK_1 : decode jdk_41_method_11_code 1 = .ok (.ifCond .lt 8, 3) := by decide +kernel
theorem dCK_4 : decode jdk_41_method_11_code 4 = .ok (.iload_n 0, 1) := by decide +kernel
theorem dCK_5 : decode jdk_41_method_11_code 5 = .ok (.iload_n 1, 1) := by decide +kernel
theorem dCK_6 : decode jdk_41_method_11_code 6 = .ok (.if_icmp .lt 10, 3) := by decide +kernel
theorem dCK_16 : decode jdk_41_method_11_code 16 = .ok (.iload_n 0, 1) := by decide +kernel
theorem dCK_17 : decode jdk_41_method_11_code 17 = .ok (.ireturn, 1) := by decide +kernel
theorem pnCK : plainName "jdk/internal/util/Preconditions" = true := by first | (simp [plainName, overriddenIn]; done) | decide +kernel
theorem pdCK : parseMethodDescriptor "(IILjava/util/function/BiFunction;)I" = some ⟨[.int, .int, (.object "java/util/function/BiFunction")], some .int⟩ := by decide +kernel
set_option maxRecDepth 65536 in
set_option maxHeartbeats 40000000 in
theorem rmCK (l : Launch) (Z : State) (a0 : Array Value) (hw : ∀ d ∈ tables_1, d.before a0 Z = true) (ws : List Jvm.Cond) (pi : Int32) (pn : Int32) (h0 : Heap) (n0 : Nat) (Z0 : n0 ≤ h0.size) (hk : ¬ pi < 0 ∧ pi < pn) :
    MetFree l (⟨"jdk/internal/util/Preconditions", "checkIndex", "(IILjava/util/function/BiFunction;)I"⟩ : MethodName) (head1 (Jvm.Cond.code (⟨"jdk/internal/util/Preconditions", "checkIndex", "(IILjava/util/function/BiFunction;)I"⟩ : MethodName) jdk_41_method_11_code 3 (some .int) :: ws) ({ frames := 0, cells := 0, slots := 0, locals := 0 } : Room)) (fun aa U => aa = #[(.int pi), (.int pn), .null] ∧ Z.Warmed39 U.vm ∧ U.heap = h0) (fun _ _ _ _ _ => True) (fun _ U o U' => ∃ v L, o = .returned v ∧ QCK Z pi pn h0 n0 v U'.heap L ∧ FrameEnd U o U' L ({ frames := 0, cells := 0, slots := 0, locals := 0 } : Room).cells ({ frames := 0, cells := 0, slots := 0, locals := 0 } : Room).slots) := by
  refine MetFree.of_bodySF (plainFor_of_name pnCK) hisR ?_
  intro p e s m args below meth c s₁ Bd hml0 hP hK
  obtain ⟨rfl, hZ, hh⟩ := hP
  have hx := Bd.exec
  have hby := Bd.bytes
  have hlk : meth.locks = false := BodyLoose.notSynchronized Bd
  have hml : c.maxLocals = 3 := hml0
  have hown : s.vm.findClass "jdk/internal/util/Preconditions" = some m.cls := findClass_of_methodNamed Bd.named
  have hnm := (name_of_methodNamed Bd.named Bd.method).1
  have X0 : Stand p l e ({ frames := 0, cells := 0, slots := 0, locals := 0 } : Room) s m #[(.int pi), (.int pn), .null] below meth c s₁ [] 0 0 := Stand.of_body Bd
  have e0 : s₁.heap = h0 := by rw [← hh, Bd.state]; rfl
  have N0 := Fr.nil n0
  have ef : entryFrame m #[(.int pi), (.int pn), .null] 3 = mkF m 0 #[iv pi, iv pn, .val .null] [] := by first | (simp [entryFrame, mkF, argsToLocals, Value.category, maxLocals]; done) | rfl
  show Way p.tables e below (KQ s (QCK Z pi pn h0 n0) ({ frames := 0, cells := 0, slots := 0, locals := 0 } : Room).cells ({ frames := 0, cells := 0, slots := 0, locals := 0 } : Room).slots) (s₁.setTop (entryFrame m #[(.int pi), (.int pn), .null] 3))
  rw [ef]
  refine Way.by (fun _ k => XS.iloadN X0.here hx rfl (hb hby dCK_0) rfl k) ?_
  show Way _ _ _ _ (s₁.setTop (mkF m 1 #[iv pi, iv pn, .val .null] [(.int pi)]))
  have b1 : ¬ pi < (0 : Int32) := hk.1
  refine Way.by (fun _ k => XS.ifNo X0.here hx rfl (hb hby dCK_1) rfl ((if0 .lt _).trans (flt b1).1) k) ?_
  show Way _ _ _ _ (s₁.setTop (mkF m 4 #[iv pi, iv pn, .val .null] []))
  refine Way.by (fun _ k => XS.iloadN X0.here hx rfl (hb hby dCK_4) rfl k) ?_
  show Way _ _ _ _ (s₁.setTop (mkF m 5 #[iv pi, iv pn, .val .null] [(.int pi)]))
  refine Way.by (fun _ k => XS.iloadN X0.here hx rfl (hb hby dCK_5) rfl k) ?_
  show Way _ _ _ _ (s₁.setTop (mkF m 6 #[iv pi, iv pn, .val .null] [(.int pn), (.int pi)]))
  have b2 : pi < pn := hk.2
  refine Way.by (fun _ k => XS.icmpYes X0.here hx rfl (pc0 := 6) (pc' := 16) rfl (hb hby dCK_6) rfl (tlt b2).1 (by decide) (by decide) k) ?_
  show Way _ _ _ _ (s₁.setTop (mkF m 16 #[iv pi, iv pn, .val .null] []))
  refine Way.by (fun _ k => XS.iloadN X0.here hx rfl (hb hby dCK_16) rfl k) ?_
  show Way _ _ _ _ (s₁.setTop (mkF m 17 #[iv pi, iv pn, .val .null] [(.int pi)]))
  refine Way.ret (v := (some (.int pi))) X0 hlk (fun h => by rw [Bd.returns] at h; cases h) (fun fs hr => retI X0 hx Bd.returns (hb hby dCK_17) hr) ?_ (by decide) (by decide)
  show QCK Z pi pn h0 n0 _ s₁.heap _
  rw [e0]
  exact ⟨rfl, N0, rfl⟩
def QOC (Z : State) (pi : Int32) (pn : Int32) (h0 : Heap) (n0 : Nat) (v : Option Value) (h : Heap) (L : List Loc) : Prop := v = some (.int pi) ∧ Fr n0 L ∧ h = h0
theorem dOC_0 : decode jdk_31_method_17_code 0 = .ok (.iload_n 0, 1) := by decide +kernel
theorem dOC_1 : decode jdk_31_method_17_code 1 = .ok (.iload_n 1, 1) := by decide +kernel
theorem dOC_2 : decode jdk_31_method_17_code 2 = .ok (.aconst_null, 1) := by decide +kernel
theorem dOC_3 : decode jdk_31_method_17_code 3 = .ok (.invokestatic 105, 3) := by decide +kernel
theorem dOC_6 : decode jdk_31_method_17_code 6 = .ok (.ireturn, 1) := by decide +kernel
theorem pnOC : plainName "java/util/Objects" = true := by first | (simp [plainName, overriddenIn]; done) | decide +kernel
set_option maxRecDepth 65536 in
set_option maxHeartbeats 40000000 in
theorem rmOC (l : Launch) (Z : State) (a0 : Array Value) (hw : ∀ d ∈ tables_1, d.before a0 Z = true) (ws : List Jvm.Cond) (pi : Int32) (pn : Int32) (h0 : Heap) (n0 : Nat) (Z0 : n0 ≤ h0.size) (hk : ¬ pi < 0 ∧ pi < pn) :
    MetFree l (⟨"java/util/Objects", "checkIndex", "(II)I"⟩ : MethodName) (head1 (Jvm.Cond.code (⟨"java/util/Objects", "checkIndex", "(II)I"⟩ : MethodName) jdk_31_method_17_code 2 (some .int) :: ws) ({ frames := 1, cells := 0, slots := 0, locals := 14 } : Room)) (fun aa U => aa = #[(.int pi), (.int pn)] ∧ Z.Warmed39 U.vm ∧ U.heap = h0) (fun _ _ _ _ _ => True) (fun _ U o U' => ∃ v L, o = .returned v ∧ QOC Z pi pn h0 n0 v U'.heap L ∧ FrameEnd U o U' L ({ frames := 1, cells := 0, slots := 0, locals := 14 } : Room).cells ({ frames := 1, cells := 0, slots := 0, locals := 14 } : Room).slots) := by
  refine MetFree.of_bodySF (plainFor_of_name pnOC) hisR ?_
  intro p e s m args below meth c s₁ Bd hml0 hP hK
  obtain ⟨rfl, hZ, hh⟩ := hP
  have hx := Bd.exec
  have hby := Bd.bytes
  have hlk : meth.locks = false := BodyLoose.notSynchronized Bd
  have hml : c.maxLocals = 2 := hml0
  have hown : s.vm.findClass "java/util/Objects" = some m.cls := findClass_of_methodNamed Bd.named
  have hnm := (name_of_methodNamed Bd.named Bd.method).1
  have X0 : Stand p l e ({ frames := 1, cells := 0, slots := 0, locals := 14 } : Room) s m #[(.int pi), (.int pn)] below meth c s₁ [] 0 0 := Stand.of_body Bd
  have e0 : s₁.heap = h0 := by rw [← hh, Bd.state]; rfl
  have N0 := Fr.nil n0
  have ef : entryFrame m #[(.int pi), (.int pn)] 2 = mkF m 0 #[iv pi, iv pn] [] := by first | (simp [entryFrame, mkF, argsToLocals, Value.category, maxLocals]; done) | rfl
  show Way p.tables e below (KQ s (QOC Z pi pn h0 n0) ({ frames := 1, cells := 0, slots := 0, locals := 14 } : Room).cells ({ frames := 1, cells := 0, slots := 0, locals := 14 } : Room).slots) (s₁.setTop (entryFrame m #[(.int pi), (.int pn)] 2))
  rw [ef]
  refine Way.by (fun _ k => XS.iloadN X0.here hx rfl (hb hby dOC_0) rfl k) ?_
  show Way _ _ _ _ (s₁.setTop (mkF m 1 #[iv pi, iv pn] [(.int pi)]))
  refine Way.by (fun _ k => XS.iloadN X0.here hx rfl (hb hby dOC_1) rfl k) ?_
  show Way _ _ _ _ (s₁.setTop (mkF m 2 #[iv pi, iv pn] [(.int pn), (.int pi)]))
  refine Way.by (fun _ k => XS.aconstNull X0.here hx rfl (hb hby dOC_2) k) ?_
  show Way _ _ _ _ (s₁.setTop (mkF m 3 #[iv pi, iv pn] [.null, (.int pn), (.int pi)]))
  obtain ⟨_, _, ⟨T1, L3, k4, n5⟩, -, X2, ⟨Lc6, hQ7, l8, y9, z10⟩, st11⟩ := Jvm.LawKit.callS X0 hx (y := (⟨"jdk/internal/util/Preconditions", "checkIndex", "(IILjava/util/function/BiFunction;)I"⟩ : MethodName)) hown (mvT hZ (tw hw 148 rfl)) (mvT hZ (tw hw 149 rfl)) (mvT hZ (tw hw 150 rfl)) (mvT hZ (tw hw 151 rfl)) (by decide) (backOf (W := 0) (rmCK l Z a0 hw [] pi pn h0 n0 Z0 hk) hZ (tw hw 151 rfl) (tw hw 150 rfl) (by decide) (by decide)) (g := (mkF m 3 #[iv pi, iv pn] [.null, (.int pn), (.int pi)])) rfl (by rw [hml]; rfl) (argsL := [(.int pi), (.int pn), .null]) (rest := []) (lenOf pdCK rfl) rfl (leW rfl) (hb hby dOC_3) (fun _ _ => ⟨rfl, e0, (leB rfl), (leB rfl)⟩)
  dsimp only [Pt.U, Pt.locs, Pt.cells, Pt.slots] at X2 l8 y9 z10 st11 hQ7
  subst l8 y9 z10
  obtain ⟨rfl, N17, e13⟩ := hQ7
  have N12 := Fr.app N0 N17
  refine Way.by st11 ?_
  show Way _ _ _ _ (T1.setTop (mkF m 6 #[iv pi, iv pn] [(.int pi)]))
  refine Way.ret (v := (some (.int pi))) X2 hlk (fun h => by rw [Bd.returns] at h; cases h) (fun fs hr => retI X2 hx Bd.returns (hb hby dOC_6) hr) ?_ (by decide) (by decide)
  show QOC Z pi pn h0 n0 _ T1.heap _
  rw [e13]
  exact ⟨rfl, N12, rfl⟩
def QED0 (Z : State) (pa : Addr) (pe : Addr) (kk : ClassId) (x0 : Addr) (x1 : Addr) (x2 : Addr) (h0 : Heap) (n0 : Nat) (v : Option Value) (h : Heap) (L : List Loc) : Prop := v = some (.ref x0) ∧ Fr n0 L ∧ h = h0
theorem dED0_0 : decode jdk_38_method_18_code 0 = .ok (.aload_n 0, 1) := by decide +kernel
theorem dED0_1 : decode jdk_38_method_18_code 1 = .ok (.getfield 9, 3) := by decide +kernel
theorem dED0_4 : decode jdk_38_method_18_code 4 = .ok (.iload_n 1, 1) := by decide +kernel
theorem dED0_5 : decode jdk_38_method_18_code 5 = .ok (.aaload, 1) := by decide +kernel
theorem dED0_6 : decode jdk_38_method_18_code 6 = .ok (.areturn, 1) := by decide +kernel
theorem pdED0 : parseMethodDescriptor "(I)Ljava/lang/Object;" = some ⟨[.int], some (.object "java/lang/Object")⟩ := by decide +kernel
set_option maxRecDepth 65536 in
set_option maxHeartbeats 40000000 in
theorem rmED0 (l : Launch) (Z : State) (a0 : Array Value) (hw : ∀ d ∈ tables_1, d.before a0 Z = true) (ws : List Jvm.Cond) (pa : Addr) (pe : Addr) (kk : ClassId) (x0 : Addr) (x1 : Addr) (x2 : Addr) (h0 : Heap) (n0 : Nat) (Z0 : n0 ≤ h0.size) (H0 : Exa Z h0 pa "java/util/ArrayList") (H1 : Fld Z h0 pa "java/util/ArrayList" "elementData" "[Ljava/lang/Object;" (.ref pe)) (H2 : Arv Z h0 pe kk (.object "java/lang/Object") (10 : Int32) [(.ref x0), (.ref x1), (.ref x2)] .null) :
    MetFree l (⟨"java/util/ArrayList", "elementData", "(I)Ljava/lang/Object;"⟩ : MethodName) (head1 (Jvm.Cond.code (⟨"java/util/ArrayList", "elementData", "(I)Ljava/lang/Object;"⟩ : MethodName) jdk_38_method_18_code 2 (some (.object "java/lang/Object")) :: ws) ({ frames := 0, cells := 0, slots := 0, locals := 0 } : Room)) (fun aa U => aa = #[(.ref pa), (.int 0)] ∧ Z.Warmed39 U.vm ∧ U.heap = h0) (fun _ _ _ _ _ => True) (fun _ U o U' => ∃ v L, o = .returned v ∧ QED0 Z pa pe kk x0 x1 x2 h0 n0 v U'.heap L ∧ FrameEnd U o U' L ({ frames := 0, cells := 0, slots := 0, locals := 0 } : Room).cells ({ frames := 0, cells := 0, slots := 0, locals := 0 } : Room).slots) := by
  refine MetFree.of_bodySF (plainFor_of_name pnA0) hisR ?_
  intro p e s m args below meth c s₁ Bd hml0 hP hK
  obtain ⟨rfl, hZ, hh⟩ := hP
  have hx := Bd.exec
  have hby := Bd.bytes
  have hlk : meth.locks = false := BodyLoose.notSynchronized Bd
  have hml : c.maxLocals = 2 := hml0
  have hown : s.vm.findClass "java/util/ArrayList" = some m.cls := findClass_of_methodNamed Bd.named
  have hnm := (name_of_methodNamed Bd.named Bd.method).1
  have X0 : Stand p l e ({ frames := 0, cells := 0, slots := 0, locals := 0 } : Room) s m #[(.ref pa), (.int 0)] below meth c s₁ [] 0 0 := Stand.of_body Bd
  have e0 : s₁.heap = h0 := by rw [← hh, Bd.state]; rfl
  have N0 := Fr.nil n0
  have ef : entryFrame m #[(.ref pa), (.int 0)] 2 = mkF m 0 #[rv pa, iv 0] [] := by first | (simp [entryFrame, mkF, argsToLocals, Value.category, maxLocals]; done) | rfl
  show Way p.tables e below (KQ s (QED0 Z pa pe kk x0 x1 x2 h0 n0) ({ frames := 0, cells := 0, slots := 0, locals := 0 } : Room).cells ({ frames := 0, cells := 0, slots := 0, locals := 0 } : Room).slots) (s₁.setTop (entryFrame m #[(.ref pa), (.int 0)] 2))
  rw [ef]
  refine Way.by (fun _ k => XS.aloadN X0.here hx rfl (hb hby dED0_0) rfl rfl k) ?_
  show Way _ _ _ _ (s₁.setTop (mkF m 1 #[rv pa, iv 0] [(.ref pa)]))
  obtain ⟨T1, X2, e3, st4⟩ := getF X0 hx hZ hown (host := "") (Or.inl (tw hw 56 rfl)) Via.refl e0 H1 (g := (mkF m 1 #[rv pa, iv 0] [(.ref pa)])) rfl rfl (hb hby dED0_1)
  refine Way.by st4 ?_
  show Way _ _ _ _ (T1.setTop (mkF m 4 #[rv pa, iv 0] [(.ref pe)]))
  refine Way.by (fun _ k => XS.iloadN X2.here hx rfl (hb hby dED0_4) rfl k) ?_
  show Way _ _ _ _ (T1.setTop (mkF m 5 #[rv pa, iv 0] [(.int 0), (.ref pe)]))
  obtain ⟨c5, A6, q7, S8, M9, H10, U11⟩ := id H2
  refine Way.by (fun t k => Stand.aaload X2 hx (hpE e3 A6.1) (arrS hZ A6) rfl A6.2.2 (inb_of S8 ⟨(by decide), (by decide)⟩) (Has.at H10 (inb_of S8 ⟨(by decide), (by decide)⟩) rfl) (g := (mkF m 5 #[rv pa, iv 0] [(.int 0), (.ref pe)])) rfl rfl (hb hby dED0_5) t k) ?_
  show Way _ _ _ _ (T1.setTop (mkF m 6 #[rv pa, iv 0] [(.ref x0)]))
  refine Way.ret (v := (some (.ref x0))) X2 hlk (fun h => by rw [Bd.returns] at h; cases h) (fun fs hr => retOut X2 hx Bd.returns rfl (Or.inr (Or.inr (Or.inr (Or.inr ⟨rfl, rfl, rfl⟩)))) (hb hby dED0_6) hr) ?_ (by decide) (by decide)
  show QED0 Z pa pe kk x0 x1 x2 h0 n0 _ T1.heap _
  rw [e3]
  exact ⟨rfl, N0, rfl⟩
def QGT0 (Z : State) (pa : Addr) (pe : Addr) (kk : ClassId) (x0 : Addr) (x1 : Addr) (x2 : Addr) (h0 : Heap) (n0 : Nat) (v : Option Value) (h : Heap) (L : List Loc) : Prop := v = some (.ref x0) ∧ Fr n0 L ∧ h = h0
theorem dGT0_0 : decode jdk_38_method_20_code 0 = .ok (.iload_n 1, 1) := by decide +kernel
theorem dGT0_1 : decode jdk_38_method_20_code 1 = .ok (.aload_n 0, 1) := by decide +kernel
theorem dGT0_2 : decode jdk_38_method_20_code 2 = .ok (.getfield 48, 3) := by decide +kernel
theorem dGT0_5 : decode jdk_38_method_20_code 5 = .ok (.invokestatic 118, 3) := by decide +kernel
theorem dGT0_8 : decode jdk_38_method_20_code 8 = .ok (.pop, 1) := by decide +kernel
theorem dGT0_9 : decode jdk_38_method_20_code 9 = .ok (.aload_n 0, 1) := by decide +kernel
theorem dGT0_10 : decode jdk_38_method_20_code 10 = .ok (.iload_n 1, 1) := by decide +kernel
theorem dGT0_11 : decode jdk_38_method_20_code 11 = .ok (.invokevirtual 123, 3) := by decide +kernel
theorem dGT0_14 : decode jdk_38_method_20_code 14 = .ok (.areturn, 1) := by decide +kernel
set_option maxRecDepth 65536 in
set_option maxHeartbeats 40000000 in
theorem rmGT0 (l : Launch) (Z : State) (a0 : Array Value) (hw : ∀ d ∈ tables_1, d.before a0 Z = true) (ws : List Jvm.Cond) (pa : Addr) (pe : Addr) (kk : ClassId) (x0 : Addr) (x1 : Addr) (x2 : Addr) (h0 : Heap) (n0 : Nat) (Z0 : n0 ≤ h0.size) (H0 : Exa Z h0 pa "java/util/ArrayList") (H1 : Fld Z h0 pa "java/util/ArrayList" "elementData" "[Ljava/lang/Object;" (.ref pe)) (H2 : Arv Z h0 pe kk (.object "java/lang/Object") (10 : Int32) [(.ref x0), (.ref x1), (.ref x2)] .null) (H3 : Fld Z h0 pa "java/util/ArrayList" "size" "I" (.int 3)) :
    MetFree l (⟨"java/util/ArrayList", "get", "(I)Ljava/lang/Object;"⟩ : MethodName) (head1 (Jvm.Cond.code (⟨"java/util/ArrayList", "get", "(I)Ljava/lang/Object;"⟩ : MethodName) jdk_38_method_20_code 2 (some (.object "java/lang/Object")) :: ws) ({ frames := 2, cells := 0, slots := 0, locals := 27 } : Room)) (fun aa U => aa = #[(.ref pa), (.int 0)] ∧ Z.Warmed39 U.vm ∧ U.heap = h0) (fun _ _ _ _ _ => True) (fun _ U o U' => ∃ v L, o = .returned v ∧ QGT0 Z pa pe kk x0 x1 x2 h0 n0 v U'.heap L ∧ FrameEnd U o U' L ({ frames := 2, cells := 0, slots := 0, locals := 27 } : Room).cells ({ frames := 2, cells := 0, slots := 0, locals := 27 } : Room).slots) := by
  refine MetFree.of_bodySF (plainFor_of_name pnA0) hisR ?_
  intro p e s m args below meth c s₁ Bd hml0 hP hK
  obtain ⟨rfl, hZ, hh⟩ := hP
  have hx := Bd.exec
  have hby := Bd.bytes
  have hlk : meth.locks = false := BodyLoose.notSynchronized Bd
  have hml : c.maxLocals = 2 := hml0
  have hown : s.vm.findClass "java/util/ArrayList" = some m.cls := findClass_of_methodNamed Bd.named
  have hnm := (name_of_methodNamed Bd.named Bd.method).1
  have X0 : Stand p l e ({ frames := 2, cells := 0, slots := 0, locals := 27 } : Room) s m #[(.ref pa), (.int 0)] below meth c s₁ [] 0 0 := Stand.of_body Bd
  have e0 : s₁.heap = h0 := by rw [← hh, Bd.state]; rfl
  have N0 := Fr.nil n0
  have ef : entryFrame m #[(.ref pa), (.int 0)] 2 = mkF m 0 #[rv pa, iv 0] [] := by first | (simp [entryFrame, mkF, argsToLocals, Value.category, maxLocals]; done) | rfl
  show Way p.tables e below (KQ s (QGT0 Z pa pe kk x0 x1 x2 h0 n0) ({ frames := 2, cells := 0, slots := 0, locals := 27 } : Room).cells ({ frames := 2, cells := 0, slots := 0, locals := 27 } : Room).slots) (s₁.setTop (entryFrame m #[(.ref pa), (.int 0)] 2))
  rw [ef]
  refine Way.by (fun _ k => XS.iloadN X0.here hx rfl (hb hby dGT0_0) rfl k) ?_
  show Way _ _ _ _ (s₁.setTop (mkF m 1 #[rv pa, iv 0] [(.int 0)]))
  refine Way.by (fun _ k => XS.aloadN X0.here hx rfl (hb hby dGT0_1) rfl rfl k) ?_
  show Way _ _ _ _ (s₁.setTop (mkF m 2 #[rv pa, iv 0] [(.ref pa), (.int 0)]))
  obtain ⟨T1, X2, e3, st4⟩ := getF X0 hx hZ hown (host := "") (Or.inl (tw hw 65 rfl)) Via.refl e0 H3 (g := (mkF m 2 #[rv pa, iv 0] [(.ref pa), (.int 0)])) rfl rfl (hb hby dGT0_2)
  refine Way.by st4 ?_
  show Way _ _ _ _ (T1.setTop (mkF m 5 #[rv pa, iv 0] [(.int 3), (.int 0)]))
  obtain ⟨_, _, ⟨T5, L7, k8, n9⟩, -, X6, ⟨Lc10, hQ11, l12, y13, z14⟩, st15⟩ := Jvm.LawKit.callS X2 hx (y := (⟨"java/util/Objects", "checkIndex", "(II)I"⟩ : MethodName)) hown (mvT hZ (tw hw 144 rfl)) (mvT hZ (tw hw 145 rfl)) (mvT hZ (tw hw 146 rfl)) (mvT hZ (tw hw 147 rfl)) (by decide) (backOf (W := 0) (rmOC l Z a0 hw [] (0 : Int32) (3 : Int32) h0 n0 Z0 (by decide)) hZ (tw hw 147 rfl) (tw hw 146 rfl) (by decide) (by decide)) (g := (mkF m 5 #[rv pa, iv 0] [(.int 3), (.int 0)])) rfl (by rw [hml]; rfl) (argsL := [(.int 0), (.int 3)]) (rest := []) (lenOf pdX rfl) rfl (leW rfl) (hb hby dGT0_5) (fun _ _ => ⟨rfl, e3, (leB rfl), (leB rfl)⟩)
  dsimp only [Pt.U, Pt.locs, Pt.cells, Pt.slots] at X6 l12 y13 z14 st15 hQ11
  subst l12 y13 z14
  obtain ⟨rfl, N21, e17⟩ := hQ11
  have N16 := Fr.app N0 N21
  refine Way.by st15 ?_
  show Way _ _ _ _ (T5.setTop (mkF m 8 #[rv pa, iv 0] [(.int 0)]))
  refine Way.by (fun _ k => XT.pop X6.here hx rfl (hb hby dGT0_8) rfl rfl k) ?_
  show Way _ _ _ _ (T5.setTop (mkF m 9 #[rv pa, iv 0] []))
  refine Way.by (fun _ k => XS.aloadN X6.here hx rfl (hb hby dGT0_9) rfl rfl k) ?_
  show Way _ _ _ _ (T5.setTop (mkF m 10 #[rv pa, iv 0] [(.ref pa)]))
  refine Way.by (fun _ k => XS.iloadN X6.here hx rfl (hb hby dGT0_10) rfl k) ?_
  show Way _ _ _ _ (T5.setTop (mkF m 11 #[rv pa, iv 0] [(.int 0), (.ref pa)]))
  obtain ⟨cq39, kq40, qa41, qb42, qc43⟩ := isOf hZ e17 H0
  obtain ⟨_, _, ⟨T23, L25, k26, n27⟩, -, X24, ⟨Lc28, hQ29, l30, y31, z32⟩, st33⟩ := X6.virtualBack hx (y := (⟨"java/util/ArrayList", "elementData", "(I)Ljava/lang/Object;"⟩ : MethodName)) (z := (⟨"java/util/ArrayList", "elementData", "(I)Ljava/lang/Object;"⟩ : MethodName)) hown (mvT hZ (tw hw 152 rfl)) (mvT hZ (tw hw 153 rfl)) (notFace_of_selects (args := #[]) (mvT hZ (tw hw 155 rfl))) (mvT hZ (tw hw 155 rfl)) (mvT hZ (tw hw 154 rfl)) (by decide) (backOf (W := 0) (rmED0 l Z a0 hw [] pa pe kk x0 x1 x2 h0 n0 Z0 H0 H1 H2) hZ (tw hw 156 rfl) (tw hw 36 rfl) (by decide) (by decide)) qa41 qc43 (g := (mkF m 11 #[rv pa, iv 0] [(.int 0), (.ref pa)])) rfl (by rw [hml]; rfl) (Steps.refl _) (argsL := [(.int 0)]) (rest := []) (lenOf pdED0 rfl) rfl (leW rfl) (hb hby dGT0_11) (fun _ _ => ⟨rfl, e17, (leB rfl), (leB rfl)⟩)
  dsimp only [Pt.U, Pt.locs, Pt.cells, Pt.slots] at X24 l30 y31 z32 st33 hQ29
  subst l30 y31 z32
  obtain ⟨rfl, N44, e35⟩ := hQ29
  have N34 := Fr.app N16 N44
  refine Way.to st33 ?_
  show Way _ _ _ _ (T23.setTop (mkF m 14 #[rv pa, iv 0] [(.ref x0)]))
  refine Way.ret (v := (some (.ref x0))) X24 hlk (fun h => by rw [Bd.returns] at h; cases h) (fun fs hr => retOut X24 hx Bd.returns rfl (Or.inr (Or.inr (Or.inr (Or.inr ⟨rfl, rfl, rfl⟩)))) (hb hby dGT0_14) hr) ?_ (by decide) (by decide)
  show QGT0 Z pa pe kk x0 x1 x2 h0 n0 _ T23.heap _
  rw [e35]
  exact ⟨rfl, N34, rfl⟩
def QEF0 (Z : State) (pv : Addr) (pa : Addr) (pe : Addr) (kk : ClassId) (x0 : Addr) (x1 : Addr) (x2 : Addr) (h0 : Heap) (n0 : Nat) (v : Option Value) (h : Heap) (L : List Loc) : Prop := v = some (.ref x0) ∧ Fr n0 L ∧ h = h0
theorem dEF0_0 : decode prog_4_method_2_code 0 = .ok (.aload_n 0, 1) := by decide +kernel
theorem dEF0_1 : decode prog_4_method_2_code 1 = .ok (.getfield 18, 3) := by decide +kernel
theorem dEF0_4 : decode prog_4_method_2_code 4 = .ok (.iload_n 1, 1) := by decide +kernel
theorem dEF0_5 : decode prog_4_method_2_code 5 = .ok (.invokeinterface 35 2, 5) := by decide +kernel
theorem dEF0_10 : decode prog_4_method_2_code 10 = .ok (.checkcast 41, 3) := by decide +kernel
theorem dEF0_13 : decode prog_4_method_2_code 13 = .ok (.areturn, 1) := by decide +kernel
set_option maxRecDepth 65536 in
set_option maxHeartbeats 40000000 in
theorem rmEF0 (l : Launch) (Z : State) (a0 : Array Value) (hw : ∀ d ∈ tables_1, d.before a0 Z = true) (ws : List Jvm.Cond) (pv : Addr) (pa : Addr) (pe : Addr) (kk : ClassId) (x0 : Addr) (x1 : Addr) (x2 : Addr) (h0 : Heap) (n0 : Nat) (Z0 : n0 ≤ h0.size) (H0 : Exa Z h0 pa "java/util/ArrayList") (H1 : Fld Z h0 pa "java/util/ArrayList" "elementData" "[Ljava/lang/Object;" (.ref pe)) (H2 : Arv Z h0 pe kk (.object "java/lang/Object") (10 : Int32) [(.ref x0), (.ref x1), (.ref x2)] .null) (H3 : Fld Z h0 pa "java/util/ArrayList" "size" "I" (.int 3)) (H4 : Fld Z h0 pv "com/example/forward_horizon/forwardhorizon/engine/Event" "fields" "Ljava/util/List;" (.ref pa)) (H5 : Exa Z h0 x0 "java/lang/String") :
    MetFree l (⟨"com/example/forward_horizon/forwardhorizon/engine/Event", "field", "(I)Ljava/lang/String;"⟩ : MethodName) (head1 (Jvm.Cond.code (⟨"com/example/forward_horizon/forwardhorizon/engine/Event", "field", "(I)Ljava/lang/String;"⟩ : MethodName) prog_4_method_2_code 2 (some (.object "java/lang/String")) :: ws) ({ frames := 3, cells := 0, slots := 0, locals := 40 } : Room)) (fun aa U => aa = #[(.ref pv), (.int 0)] ∧ Z.Warmed39 U.vm ∧ U.heap = h0) (fun _ _ _ _ _ => True) (fun _ U o U' => ∃ v L, o = .returned v ∧ QEF0 Z pv pa pe kk x0 x1 x2 h0 n0 v U'.heap L ∧ FrameEnd U o U' L ({ frames := 3, cells := 0, slots := 0, locals := 40 } : Room).cells ({ frames := 3, cells := 0, slots := 0, locals := 40 } : Room).slots) := by
  refine MetFree.of_bodySF (plainFor_of_name pnT) hisR ?_
  intro p e s m args below meth c s₁ Bd hml0 hP hK
  obtain ⟨rfl, hZ, hh⟩ := hP
  have hx := Bd.exec
  have hby := Bd.bytes
  have hlk : meth.locks = false := BodyLoose.notSynchronized Bd
  have hml : c.maxLocals = 2 := hml0
  have hown : s.vm.findClass "com/example/forward_horizon/forwardhorizon/engine/Event" = some m.cls := findClass_of_methodNamed Bd.named
  have hnm := (name_of_methodNamed Bd.named Bd.method).1
  have X0 : Stand p l e ({ frames := 3, cells := 0, slots := 0, locals := 40 } : Room) s m #[(.ref pv), (.int 0)] below meth c s₁ [] 0 0 := Stand.of_body Bd
  have e0 : s₁.heap = h0 := by rw [← hh, Bd.state]; rfl
  have N0 := Fr.nil n0
  have ef : entryFrame m #[(.ref pv), (.int 0)] 2 = mkF m 0 #[rv pv, iv 0] [] := by first | (simp [entryFrame, mkF, argsToLocals, Value.category, maxLocals]; done) | rfl
  show Way p.tables e below (KQ s (QEF0 Z pv pa pe kk x0 x1 x2 h0 n0) ({ frames := 3, cells := 0, slots := 0, locals := 40 } : Room).cells ({ frames := 3, cells := 0, slots := 0, locals := 40 } : Room).slots) (s₁.setTop (entryFrame m #[(.ref pv), (.int 0)] 2))
  rw [ef]
  refine Way.by (fun _ k => XS.aloadN X0.here hx rfl (hb hby dEF0_0) rfl rfl k) ?_
  show Way _ _ _ _ (s₁.setTop (mkF m 1 #[rv pv, iv 0] [(.ref pv)]))
  obtain ⟨T1, X2, e3, st4⟩ := getF X0 hx hZ hown (host := "") (Or.inl (tw hw 113 rfl)) Via.refl e0 H4 (g := (mkF m 1 #[rv pv, iv 0] [(.ref pv)])) rfl rfl (hb hby dEF0_1)
  refine Way.by st4 ?_
  show Way _ _ _ _ (T1.setTop (mkF m 4 #[rv pv, iv 0] [(.ref pa)]))
  refine Way.by (fun _ k => XS.iloadN X2.here hx rfl (hb hby dEF0_4) rfl k) ?_
  show Way _ _ _ _ (T1.setTop (mkF m 5 #[rv pv, iv 0] [(.int 0), (.ref pa)]))
  obtain ⟨cq21, kq22, qa23, qb24, qc25⟩ := isOf hZ e3 H0
  obtain ⟨_, _, ⟨T5, L7, k8, n9⟩, -, X6, ⟨Lc10, hQ11, l12, y13, z14⟩, st15⟩ := X2.interfaceBack hx (xi := (⟨"java/util/List", "get", "(I)Ljava/lang/Object;"⟩ : MethodName)) (y := (⟨"java/util/ArrayList", "get", "(I)Ljava/lang/Object;"⟩ : MethodName)) hown (mvT hZ (tw hw 135 rfl)) (mvT hZ (tw hw 136 rfl)) (mvT hZ (tw hw 137 rfl)) (mvT hZ (tw hw 138 rfl)) (mvT hZ (tw hw 139 rfl)) (mvT hZ (tw hw 140 rfl)) (mvT hZ (tw hw 141 rfl)) (mvT hZ (tw hw 142 rfl)) (by decide) (backOf (W := 0) (rmGT0 l Z a0 hw [] pa pe kk x0 x1 x2 h0 n0 Z0 H0 H1 H2 H3) hZ (tw hw 143 rfl) (tw hw 36 rfl) (by decide) (by decide)) qa23 qb24 qc25 (g := (mkF m 5 #[rv pv, iv 0] [(.int 0), (.ref pa)])) rfl (by rw [hml]; rfl) (Steps.refl _) (argsL := [(.int 0)]) (rest := []) (lenOf pdED0 rfl) rfl (leW rfl) (hb hby dEF0_5) (fun _ _ => ⟨rfl, e3, (leB rfl), (leB rfl)⟩)
  dsimp only [Pt.U, Pt.locs, Pt.cells, Pt.slots] at X6 l12 y13 z14 st15 hQ11
  subst l12 y13 z14
  obtain ⟨rfl, N26, e17⟩ := hQ11
  have N16 := Fr.app N0 N26
  refine Way.to st15 ?_
  show Way _ _ _ _ (T5.setTop (mkF m 10 #[rv pv, iv 0] [(.ref x0)]))
  obtain ⟨T28, X29, e30, st31⟩ := castY X6 hx hZ hown (tw hw 157 rfl) e17 (Ins.self H5) (g := (mkF m 10 #[rv pv, iv 0] [(.ref x0)])) rfl rfl (hb hby dEF0_10)
  refine Way.by st31 ?_
  show Way _ _ _ _ (T28.setTop (mkF m 13 #[rv pv, iv 0] [(.ref x0)]))
  refine Way.ret (v := (some (.ref x0))) X29 hlk (fun h => by rw [Bd.returns] at h; cases h) (fun fs hr => retOut X29 hx Bd.returns rfl (Or.inr (Or.inr (Or.inr (Or.inr ⟨rfl, rfl, rfl⟩)))) (hb hby dEF0_13) hr) ?_ (by decide) (by decide)
  show QEF0 Z pv pa pe kk x0 x1 x2 h0 n0 _ T28.heap _
  rw [e30]
  exact ⟨rfl, N16, rfl⟩
def QED1 (Z : State) (pa : Addr) (pe : Addr) (kk : ClassId) (x0 : Addr) (x1 : Addr) (x2 : Addr) (h0 : Heap) (n0 : Nat) (v : Option Value) (h : Heap) (L : List Loc) : Prop := v = some (.ref x1) ∧ Fr n0 L ∧ h = h0
set_option maxRecDepth 65536 in
set_option maxHeartbeats 40000000 in
theorem rmED1 (l : Launch) (Z : State) (a0 : Array Value) (hw : ∀ d ∈ tables_1, d.before a0 Z = true) (ws : List Jvm.Cond) (pa : Addr) (pe : Addr) (kk : ClassId) (x0 : Addr) (x1 : Addr) (x2 : Addr) (h0 : Heap) (n0 : Nat) (Z0 : n0 ≤ h0.size) (H0 : Exa Z h0 pa "java/util/ArrayList") (H1 : Fld Z h0 pa "java/util/ArrayList" "elementData" "[Ljava/lang/Object;" (.ref pe)) (H2 : Arv Z h0 pe kk (.object "java/lang/Object") (10 : Int32) [(.ref x0), (.ref x1), (.ref x2)] .null) :
    MetFree l (⟨"java/util/ArrayList", "elementData", "(I)Ljava/lang/Object;"⟩ : MethodName) (head1 (Jvm.Cond.code (⟨"java/util/ArrayList", "elementData", "(I)Ljava/lang/Object;"⟩ : MethodName) jdk_38_method_18_code 2 (some (.object "java/lang/Object")) :: ws) ({ frames := 0, cells := 0, slots := 0, locals := 0 } : Room)) (fun aa U => aa = #[(.ref pa), (.int 1)] ∧ Z.Warmed39 U.vm ∧ U.heap = h0) (fun _ _ _ _ _ => True) (fun _ U o U' => ∃ v L, o = .returned v ∧ QED1 Z pa pe kk x0 x1 x2 h0 n0 v U'.heap L ∧ FrameEnd U o U' L ({ frames := 0, cells := 0, slots := 0, locals := 0 } : Room).cells ({ frames := 0, cells := 0, slots := 0, locals := 0 } : Room).slots) := by
  refine MetFree.of_bodySF (plainFor_of_name pnA0) hisR ?_
  intro p e s m args below meth c s₁ Bd hml0 hP hK
  obtain ⟨rfl, hZ, hh⟩ := hP
  have hx := Bd.exec
  have hby := Bd.bytes
  have hlk : meth.locks = false := BodyLoose.notSynchronized Bd
  have hml : c.maxLocals = 2 := hml0
  have hown : s.vm.findClass "java/util/ArrayList" = some m.cls := findClass_of_methodNamed Bd.named
  have hnm := (name_of_methodNamed Bd.named Bd.method).1
  have X0 : Stand p l e ({ frames := 0, cells := 0, slots := 0, locals := 0 } : Room) s m #[(.ref pa), (.int 1)] below meth c s₁ [] 0 0 := Stand.of_body Bd
  have e0 : s₁.heap = h0 := by rw [← hh, Bd.state]; rfl
  have N0 := Fr.nil n0
  have ef : entryFrame m #[(.ref pa), (.int 1)] 2 = mkF m 0 #[rv pa, iv 1] [] := by first | (simp [entryFrame, mkF, argsToLocals, Value.category, maxLocals]; done) | rfl
  show Way p.tables e below (KQ s (QED1 Z pa pe kk x0 x1 x2 h0 n0) ({ frames := 0, cells := 0, slots := 0, locals := 0 } : Room).cells ({ frames := 0, cells := 0, slots := 0, locals := 0 } : Room).slots) (s₁.setTop (entryFrame m #[(.ref pa), (.int 1)] 2))
  rw [ef]
  refine Way.by (fun _ k => XS.aloadN X0.here hx rfl (hb hby dED0_0) rfl rfl k) ?_
  show Way _ _ _ _ (s₁.setTop (mkF m 1 #[rv pa, iv 1] [(.ref pa)]))
  obtain ⟨T1, X2, e3, st4⟩ := getF X0 hx hZ hown (host := "") (Or.inl (tw hw 56 rfl)) Via.refl e0 H1 (g := (mkF m 1 #[rv pa, iv 1] [(.ref pa)])) rfl rfl (hb hby dED0_1)
  refine Way.by st4 ?_
  show Way _ _ _ _ (T1.setTop (mkF m 4 #[rv pa, iv 1] [(.ref pe)]))
  refine Way.by (fun _ k => XS.iloadN X2.here hx rfl (hb hby dED0_4) rfl k) ?_
  show Way _ _ _ _ (T1.setTop (mkF m 5 #[rv pa, iv 1] [(.int 1), (.ref pe)]))
  obtain ⟨c5, A6, q7, S8, M9, H10, U11⟩ := id H2
  refine Way.by (fun t k => Stand.aaload X2 hx (hpE e3 A6.1) (arrS hZ A6) rfl A6.2.2 (inb_of S8 ⟨(by decide), (by decide)⟩) (Has.at H10 (inb_of S8 ⟨(by decide), (by decide)⟩) rfl) (g := (mkF m 5 #[rv pa, iv 1] [(.int 1), (.ref pe)])) rfl rfl (hb hby dED0_5) t k) ?_
  show Way _ _ _ _ (T1.setTop (mkF m 6 #[rv pa, iv 1] [(.ref x1)]))
  refine Way.ret (v := (some (.ref x1))) X2 hlk (fun h => by rw [Bd.returns] at h; cases h) (fun fs hr => retOut X2 hx Bd.returns rfl (Or.inr (Or.inr (Or.inr (Or.inr ⟨rfl, rfl, rfl⟩)))) (hb hby dED0_6) hr) ?_ (by decide) (by decide)
  show QED1 Z pa pe kk x0 x1 x2 h0 n0 _ T1.heap _
  rw [e3]
  exact ⟨rfl, N0, rfl⟩
def QGT1 (Z : State) (pa : Addr) (pe : Addr) (kk : ClassId) (x0 : Addr) (x1 : Addr) (x2 : Addr) (h0 : Heap) (n0 : Nat) (v : Option Value) (h : Heap) (L : List Loc) : Prop := v = some (.ref x1) ∧ Fr n0 L ∧ h = h0
set_option maxRecDepth 65536 in
set_option maxHeartbeats 40000000 in
theorem rmGT1 (l : Launch) (Z : State) (a0 : Array Value) (hw : ∀ d ∈ tables_1, d.before a0 Z = true) (ws : List Jvm.Cond) (pa : Addr) (pe : Addr) (kk : ClassId) (x0 : Addr) (x1 : Addr) (x2 : Addr) (h0 : Heap) (n0 : Nat) (Z0 : n0 ≤ h0.size) (H0 : Exa Z h0 pa "java/util/ArrayList") (H1 : Fld Z h0 pa "java/util/ArrayList" "elementData" "[Ljava/lang/Object;" (.ref pe)) (H2 : Arv Z h0 pe kk (.object "java/lang/Object") (10 : Int32) [(.ref x0), (.ref x1), (.ref x2)] .null) (H3 : Fld Z h0 pa "java/util/ArrayList" "size" "I" (.int 3)) :
    MetFree l (⟨"java/util/ArrayList", "get", "(I)Ljava/lang/Object;"⟩ : MethodName) (head1 (Jvm.Cond.code (⟨"java/util/ArrayList", "get", "(I)Ljava/lang/Object;"⟩ : MethodName) jdk_38_method_20_code 2 (some (.object "java/lang/Object")) :: ws) ({ frames := 2, cells := 0, slots := 0, locals := 27 } : Room)) (fun aa U => aa = #[(.ref pa), (.int 1)] ∧ Z.Warmed39 U.vm ∧ U.heap = h0) (fun _ _ _ _ _ => True) (fun _ U o U' => ∃ v L, o = .returned v ∧ QGT1 Z pa pe kk x0 x1 x2 h0 n0 v U'.heap L ∧ FrameEnd U o U' L ({ frames := 2, cells := 0, slots := 0, locals := 27 } : Room).cells ({ frames := 2, cells := 0, slots := 0, locals := 27 } : Room).slots) := by
  refine MetFree.of_bodySF (plainFor_of_name pnA0) hisR ?_
  intro p e s m args below meth c s₁ Bd hml0 hP hK
  obtain ⟨rfl, hZ, hh⟩ := hP
  have hx := Bd.exec
  have hby := Bd.bytes
  have hlk : meth.locks = false := BodyLoose.notSynchronized Bd
  have hml : c.maxLocals = 2 := hml0
  have hown : s.vm.findClass "java/util/ArrayList" = some m.cls := findClass_of_methodNamed Bd.named
  have hnm := (name_of_methodNamed Bd.named Bd.method).1
  have X0 : Stand p l e ({ frames := 2, cells := 0, slots := 0, locals := 27 } : Room) s m #[(.ref pa), (.int 1)] below meth c s₁ [] 0 0 := Stand.of_body Bd
  have e0 : s₁.heap = h0 := by rw [← hh, Bd.state]; rfl
  have N0 := Fr.nil n0
  have ef : entryFrame m #[(.ref pa), (.int 1)] 2 = mkF m 0 #[rv pa, iv 1] [] := by first | (simp [entryFrame, mkF, argsToLocals, Value.category, maxLocals]; done) | rfl
  show Way p.tables e below (KQ s (QGT1 Z pa pe kk x0 x1 x2 h0 n0) ({ frames := 2, cells := 0, slots := 0, locals := 27 } : Room).cells ({ frames := 2, cells := 0, slots := 0, locals := 27 } : Room).slots) (s₁.setTop (entryFrame m #[(.ref pa), (.int 1)] 2))
  rw [ef]
  refine Way.by (fun _ k => XS.iloadN X0.here hx rfl (hb hby dGT0_0) rfl k) ?_
  show Way _ _ _ _ (s₁.setTop (mkF m 1 #[rv pa, iv 1] [(.int 1)]))
  refine Way.by (fun _ k => XS.aloadN X0.here hx rfl (hb hby dGT0_1) rfl rfl k) ?_
  show Way _ _ _ _ (s₁.setTop (mkF m 2 #[rv pa, iv 1] [(.ref pa), (.int 1)]))
  obtain ⟨T1, X2, e3, st4⟩ := getF X0 hx hZ hown (host := "") (Or.inl (tw hw 65 rfl)) Via.refl e0 H3 (g := (mkF m 2 #[rv pa, iv 1] [(.ref pa), (.int 1)])) rfl rfl (hb hby dGT0_2)
  refine Way.by st4 ?_
  show Way _ _ _ _ (T1.setTop (mkF m 5 #[rv pa, iv 1] [(.int 3), (.int 1)]))
  obtain ⟨_, _, ⟨T5, L7, k8, n9⟩, -, X6, ⟨Lc10, hQ11, l12, y13, z14⟩, st15⟩ := Jvm.LawKit.callS X2 hx (y := (⟨"java/util/Objects", "checkIndex", "(II)I"⟩ : MethodName)) hown (mvT hZ (tw hw 144 rfl)) (mvT hZ (tw hw 145 rfl)) (mvT hZ (tw hw 146 rfl)) (mvT hZ (tw hw 147 rfl)) (by decide) (backOf (W := 0) (rmOC l Z a0 hw [] (1 : Int32) (3 : Int32) h0 n0 Z0 (by decide)) hZ (tw hw 147 rfl) (tw hw 146 rfl) (by decide) (by decide)) (g := (mkF m 5 #[rv pa, iv 1] [(.int 3), (.int 1)])) rfl (by rw [hml]; rfl) (argsL := [(.int 1), (.int 3)]) (rest := []) (lenOf pdX rfl) rfl (leW rfl) (hb hby dGT0_5) (fun _ _ => ⟨rfl, e3, (leB rfl), (leB rfl)⟩)
  dsimp only [Pt.U, Pt.locs, Pt.cells, Pt.slots] at X6 l12 y13 z14 st15 hQ11
  subst l12 y13 z14
  obtain ⟨rfl, N21, e17⟩ := hQ11
  have N16 := Fr.app N0 N21
  refine Way.by st15 ?_
  show Way _ _ _ _ (T5.setTop (mkF m 8 #[rv pa, iv 1] [(.int 1)]))
  refine Way.by (fun _ k => XT.pop X6.here hx rfl (hb hby dGT0_8) rfl rfl k) ?_
  show Way _ _ _ _ (T5.setTop (mkF m 9 #[rv pa, iv 1] []))
  refine Way.by (fun _ k => XS.aloadN X6.here hx rfl (hb hby dGT0_9) rfl rfl k) ?_
  show Way _ _ _ _ (T5.setTop (mkF m 10 #[rv pa, iv 1] [(.ref pa)]))
  refine Way.by (fun _ k => XS.iloadN X6.here hx rfl (hb hby dGT0_10) rfl k) ?_
  show Way _ _ _ _ (T5.setTop (mkF m 11 #[rv pa, iv 1] [(.int 1), (.ref pa)]))
  obtain ⟨cq39, kq40, qa41, qb42, qc43⟩ := isOf hZ e17 H0
  obtain ⟨_, _, ⟨T23, L25, k26, n27⟩, -, X24, ⟨Lc28, hQ29, l30, y31, z32⟩, st33⟩ := X6.virtualBack hx (y := (⟨"java/util/ArrayList", "elementData", "(I)Ljava/lang/Object;"⟩ : MethodName)) (z := (⟨"java/util/ArrayList", "elementData", "(I)Ljava/lang/Object;"⟩ : MethodName)) hown (mvT hZ (tw hw 152 rfl)) (mvT hZ (tw hw 153 rfl)) (notFace_of_selects (args := #[]) (mvT hZ (tw hw 155 rfl))) (mvT hZ (tw hw 155 rfl)) (mvT hZ (tw hw 154 rfl)) (by decide) (backOf (W := 0) (rmED1 l Z a0 hw [] pa pe kk x0 x1 x2 h0 n0 Z0 H0 H1 H2) hZ (tw hw 156 rfl) (tw hw 36 rfl) (by decide) (by decide)) qa41 qc43 (g := (mkF m 11 #[rv pa, iv 1] [(.int 1), (.ref pa)])) rfl (by rw [hml]; rfl) (Steps.refl _) (argsL := [(.int 1)]) (rest := []) (lenOf pdED0 rfl) rfl (leW rfl) (hb hby dGT0_11) (fun _ _ => ⟨rfl, e17, (leB rfl), (leB rfl)⟩)
  dsimp only [Pt.U, Pt.locs, Pt.cells, Pt.slots] at X24 l30 y31 z32 st33 hQ29
  subst l30 y31 z32
  obtain ⟨rfl, N44, e35⟩ := hQ29
  have N34 := Fr.app N16 N44
  refine Way.to st33 ?_
  show Way _ _ _ _ (T23.setTop (mkF m 14 #[rv pa, iv 1] [(.ref x1)]))
  refine Way.ret (v := (some (.ref x1))) X24 hlk (fun h => by rw [Bd.returns] at h; cases h) (fun fs hr => retOut X24 hx Bd.returns rfl (Or.inr (Or.inr (Or.inr (Or.inr ⟨rfl, rfl, rfl⟩)))) (hb hby dGT0_14) hr) ?_ (by decide) (by decide)
  show QGT1 Z pa pe kk x0 x1 x2 h0 n0 _ T23.heap _
  rw [e35]
  exact ⟨rfl, N34, rfl⟩
def QEF1 (Z : State) (pv : Addr) (pa : Addr) (pe : Addr) (kk : ClassId) (x0 : Addr) (x1 : Addr) (x2 : Addr) (h0 : Heap) (n0 : Nat) (v : Option Value) (h : Heap) (L : List Loc) : Prop := v = some (.ref x1) ∧ Fr n0 L ∧ h = h0
set_option maxRecDepth 65536 in
set_option maxHeartbeats 40000000 in
theorem rmEF1 (l : Launch) (Z : State) (a0 : Array Value) (hw : ∀ d ∈ tables_1, d.before a0 Z = true) (ws : List Jvm.Cond) (pv : Addr) (pa : Addr) (pe : Addr) (kk : ClassId) (x0 : Addr) (x1 : Addr) (x2 : Addr) (h0 : Heap) (n0 : Nat) (Z0 : n0 ≤ h0.size) (H0 : Exa Z h0 pa "java/util/ArrayList") (H1 : Fld Z h0 pa "java/util/ArrayList" "elementData" "[Ljava/lang/Object;" (.ref pe)) (H2 : Arv Z h0 pe kk (.object "java/lang/Object") (10 : Int32) [(.ref x0), (.ref x1), (.ref x2)] .null) (H3 : Fld Z h0 pa "java/util/ArrayList" "size" "I" (.int 3)) (H4 : Fld Z h0 pv "com/example/forward_horizon/forwardhorizon/engine/Event" "fields" "Ljava/util/List;" (.ref pa)) (H5 : Exa Z h0 x1 "java/lang/String") :
    MetFree l (⟨"com/example/forward_horizon/forwardhorizon/engine/Event", "field", "(I)Ljava/lang/String;"⟩ : MethodName) (head1 (Jvm.Cond.code (⟨"com/example/forward_horizon/forwardhorizon/engine/Event", "field", "(I)Ljava/lang/String;"⟩ : MethodName) prog_4_method_2_code 2 (some (.object "java/lang/String")) :: ws) ({ frames := 3, cells := 0, slots := 0, locals := 40 } : Room)) (fun aa U => aa = #[(.ref pv), (.int 1)] ∧ Z.Warmed39 U.vm ∧ U.heap = h0) (fun _ _ _ _ _ => True) (fun _ U o U' => ∃ v L, o = .returned v ∧ QEF1 Z pv pa pe kk x0 x1 x2 h0 n0 v U'.heap L ∧ FrameEnd U o U' L ({ frames := 3, cells := 0, slots := 0, locals := 40 } : Room).cells ({ frames := 3, cells := 0, slots := 0, locals := 40 } : Room).slots) := by
  refine MetFree.of_bodySF (plainFor_of_name pnT) hisR ?_
  intro p e s m args below meth c s₁ Bd hml0 hP hK
  obtain ⟨rfl, hZ, hh⟩ := hP
  have hx := Bd.exec
  have hby := Bd.bytes
  have hlk : meth.locks = false := BodyLoose.notSynchronized Bd
  have hml : c.maxLocals = 2 := hml0
  have hown : s.vm.findClass "com/example/forward_horizon/forwardhorizon/engine/Event" = some m.cls := findClass_of_methodNamed Bd.named
  have hnm := (name_of_methodNamed Bd.named Bd.method).1
  have X0 : Stand p l e ({ frames := 3, cells := 0, slots := 0, locals := 40 } : Room) s m #[(.ref pv), (.int 1)] below meth c s₁ [] 0 0 := Stand.of_body Bd
  have e0 : s₁.heap = h0 := by rw [← hh, Bd.state]; rfl
  have N0 := Fr.nil n0
  have ef : entryFrame m #[(.ref pv), (.int 1)] 2 = mkF m 0 #[rv pv, iv 1] [] := by first | (simp [entryFrame, mkF, argsToLocals, Value.category, maxLocals]; done) | rfl
  show Way p.tables e below (KQ s (QEF1 Z pv pa pe kk x0 x1 x2 h0 n0) ({ frames := 3, cells := 0, slots := 0, locals := 40 } : Room).cells ({ frames := 3, cells := 0, slots := 0, locals := 40 } : Room).slots) (s₁.setTop (entryFrame m #[(.ref pv), (.int 1)] 2))
  rw [ef]
  refine Way.by (fun _ k => XS.aloadN X0.here hx rfl (hb hby dEF0_0) rfl rfl k) ?_
  show Way _ _ _ _ (s₁.setTop (mkF m 1 #[rv pv, iv 1] [(.ref pv)]))
  obtain ⟨T1, X2, e3, st4⟩ := getF X0 hx hZ hown (host := "") (Or.inl (tw hw 113 rfl)) Via.refl e0 H4 (g := (mkF m 1 #[rv pv, iv 1] [(.ref pv)])) rfl rfl (hb hby dEF0_1)
  refine Way.by st4 ?_
  show Way _ _ _ _ (T1.setTop (mkF m 4 #[rv pv, iv 1] [(.ref pa)]))
  refine Way.by (fun _ k => XS.iloadN X2.here hx rfl (hb hby dEF0_4) rfl k) ?_
  show Way _ _ _ _ (T1.setTop (mkF m 5 #[rv pv, iv 1] [(.int 1), (.ref pa)]))
  obtain ⟨cq21, kq22, qa23, qb24, qc25⟩ := isOf hZ e3 H0
  obtain ⟨_, _, ⟨T5, L7, k8, n9⟩, -, X6, ⟨Lc10, hQ11, l12, y13, z14⟩, st15⟩ := X2.interfaceBack hx (xi := (⟨"java/util/List", "get", "(I)Ljava/lang/Object;"⟩ : MethodName)) (y := (⟨"java/util/ArrayList", "get", "(I)Ljava/lang/Object;"⟩ : MethodName)) hown (mvT hZ (tw hw 135 rfl)) (mvT hZ (tw hw 136 rfl)) (mvT hZ (tw hw 137 rfl)) (mvT hZ (tw hw 138 rfl)) (mvT hZ (tw hw 139 rfl)) (mvT hZ (tw hw 140 rfl)) (mvT hZ (tw hw 141 rfl)) (mvT hZ (tw hw 142 rfl)) (by decide) (backOf (W := 0) (rmGT1 l Z a0 hw [] pa pe kk x0 x1 x2 h0 n0 Z0 H0 H1 H2 H3) hZ (tw hw 143 rfl) (tw hw 36 rfl) (by decide) (by decide)) qa23 qb24 qc25 (g := (mkF m 5 #[rv pv, iv 1] [(.int 1), (.ref pa)])) rfl (by rw [hml]; rfl) (Steps.refl _) (argsL := [(.int 1)]) (rest := []) (lenOf pdED0 rfl) rfl (leW rfl) (hb hby dEF0_5) (fun _ _ => ⟨rfl, e3, (leB rfl), (leB rfl)⟩)
  dsimp only [Pt.U, Pt.locs, Pt.cells, Pt.slots] at X6 l12 y13 z14 st15 hQ11
  subst l12 y13 z14
  obtain ⟨rfl, N26, e17⟩ := hQ11
  have N16 := Fr.app N0 N26
  refine Way.to st15 ?_
  show Way _ _ _ _ (T5.setTop (mkF m 10 #[rv pv, iv 1] [(.ref x1)]))
  obtain ⟨T28, X29, e30, st31⟩ := castY X6 hx hZ hown (tw hw 157 rfl) e17 (Ins.self H5) (g := (mkF m 10 #[rv pv, iv 1] [(.ref x1)])) rfl rfl (hb hby dEF0_10)
  refine Way.by st31 ?_
  show Way _ _ _ _ (T28.setTop (mkF m 13 #[rv pv, iv 1] [(.ref x1)]))
  refine Way.ret (v := (some (.ref x1))) X29 hlk (fun h => by rw [Bd.returns] at h; cases h) (fun fs hr => retOut X29 hx Bd.returns rfl (Or.inr (Or.inr (Or.inr (Or.inr ⟨rfl, rfl, rfl⟩)))) (hb hby dEF0_13) hr) ?_ (by decide) (by decide)
  show QEF1 Z pv pa pe kk x0 x1 x2 h0 n0 _ T28.heap _
  rw [e30]
  exact ⟨rfl, N16, rfl⟩
def QED2 (Z : State) (pa : Addr) (pe : Addr) (kk : ClassId) (x0 : Addr) (x1 : Addr) (x2 : Addr) (h0 : Heap) (n0 : Nat) (v : Option Value) (h : Heap) (L : List Loc) : Prop := v = some (.ref x2) ∧ Fr n0 L ∧ h = h0
set_option maxRecDepth 65536 in
set_option maxHeartbeats 40000000 in
theorem rmED2 (l : Launch) (Z : State) (a0 : Array Value) (hw : ∀ d ∈ tables_1, d.before a0 Z = true) (ws : List Jvm.Cond) (pa : Addr) (pe : Addr) (kk : ClassId) (x0 : Addr) (x1 : Addr) (x2 : Addr) (h0 : Heap) (n0 : Nat) (Z0 : n0 ≤ h0.size) (H0 : Exa Z h0 pa "java/util/ArrayList") (H1 : Fld Z h0 pa "java/util/ArrayList" "elementData" "[Ljava/lang/Object;" (.ref pe)) (H2 : Arv Z h0 pe kk (.object "java/lang/Object") (10 : Int32) [(.ref x0), (.ref x1), (.ref x2)] .null) :
    MetFree l (⟨"java/util/ArrayList", "elementData", "(I)Ljava/lang/Object;"⟩ : MethodName) (head1 (Jvm.Cond.code (⟨"java/util/ArrayList", "elementData", "(I)Ljava/lang/Object;"⟩ : MethodName) jdk_38_method_18_code 2 (some (.object "java/lang/Object")) :: ws) ({ frames := 0, cells := 0, slots := 0, locals := 0 } : Room)) (fun aa U => aa = #[(.ref pa), (.int 2)] ∧ Z.Warmed39 U.vm ∧ U.heap = h0) (fun _ _ _ _ _ => True) (fun _ U o U' => ∃ v L, o = .returned v ∧ QED2 Z pa pe kk x0 x1 x2 h0 n0 v U'.heap L ∧ FrameEnd U o U' L ({ frames := 0, cells := 0, slots := 0, locals := 0 } : Room).cells ({ frames := 0, cells := 0, slots := 0, locals := 0 } : Room).slots) := by
  refine MetFree.of_bodySF (plainFor_of_name pnA0) hisR ?_
  intro p e s m args below meth c s₁ Bd hml0 hP hK
  obtain ⟨rfl, hZ, hh⟩ := hP
  have hx := Bd.exec
  have hby := Bd.bytes
  have hlk : meth.locks = false := BodyLoose.notSynchronized Bd
  have hml : c.maxLocals = 2 := hml0
  have hown : s.vm.findClass "java/util/ArrayList" = some m.cls := findClass_of_methodNamed Bd.named
  have hnm := (name_of_methodNamed Bd.named Bd.method).1
  have X0 : Stand p l e ({ frames := 0, cells := 0, slots := 0, locals := 0 } : Room) s m #[(.ref pa), (.int 2)] below meth c s₁ [] 0 0 := Stand.of_body Bd
  have e0 : s₁.heap = h0 := by rw [← hh, Bd.state]; rfl
  have N0 := Fr.nil n0
  have ef : entryFrame m #[(.ref pa), (.int 2)] 2 = mkF m 0 #[rv pa, iv 2] [] := by first | (simp [entryFrame, mkF, argsToLocals, Value.category, maxLocals]; done) | rfl
  show Way p.tables e below (KQ s (QED2 Z pa pe kk x0 x1 x2 h0 n0) ({ frames := 0, cells := 0, slots := 0, locals := 0 } : Room).cells ({ frames := 0, cells := 0, slots := 0, locals := 0 } : Room).slots) (s₁.setTop (entryFrame m #[(.ref pa), (.int 2)] 2))
  rw [ef]
  refine Way.by (fun _ k => XS.aloadN X0.here hx rfl (hb hby dED0_0) rfl rfl k) ?_
  show Way _ _ _ _ (s₁.setTop (mkF m 1 #[rv pa, iv 2] [(.ref pa)]))
  obtain ⟨T1, X2, e3, st4⟩ := getF X0 hx hZ hown (host := "") (Or.inl (tw hw 56 rfl)) Via.refl e0 H1 (g := (mkF m 1 #[rv pa, iv 2] [(.ref pa)])) rfl rfl (hb hby dED0_1)
  refine Way.by st4 ?_
  show Way _ _ _ _ (T1.setTop (mkF m 4 #[rv pa, iv 2] [(.ref pe)]))
  refine Way.by (fun _ k => XS.iloadN X2.here hx rfl (hb hby dED0_4) rfl k) ?_
  show Way _ _ _ _ (T1.setTop (mkF m 5 #[rv pa, iv 2] [(.int 2), (.ref pe)]))
  obtain ⟨c5, A6, q7, S8, M9, H10, U11⟩ := id H2
  refine Way.by (fun t k => Stand.aaload X2 hx (hpE e3 A6.1) (arrS hZ A6) rfl A6.2.2 (inb_of S8 ⟨(by decide), (by decide)⟩) (Has.at H10 (inb_of S8 ⟨(by decide), (by decide)⟩) rfl) (g := (mkF m 5 #[rv pa, iv 2] [(.int 2), (.ref pe)])) rfl rfl (hb hby dED0_5) t k) ?_
  show Way _ _ _ _ (T1.setTop (mkF m 6 #[rv pa, iv 2] [(.ref x2)]))
  refine Way.ret (v := (some (.ref x2))) X2 hlk (fun h => by rw [Bd.returns] at h; cases h) (fun fs hr => retOut X2 hx Bd.returns rfl (Or.inr (Or.inr (Or.inr (Or.inr ⟨rfl, rfl, rfl⟩)))) (hb hby dED0_6) hr) ?_ (by decide) (by decide)
  show QED2 Z pa pe kk x0 x1 x2 h0 n0 _ T1.heap _
  rw [e3]
  exact ⟨rfl, N0, rfl⟩
def QGT2 (Z : State) (pa : Addr) (pe : Addr) (kk : ClassId) (x0 : Addr) (x1 : Addr) (x2 : Addr) (h0 : Heap) (n0 : Nat) (v : Option Value) (h : Heap) (L : List Loc) : Prop := v = some (.ref x2) ∧ Fr n0 L ∧ h = h0
set_option maxRecDepth 65536 in
set_option maxHeartbeats 40000000 in
theorem rmGT2 (l : Launch) (Z : State) (a0 : Array Value) (hw : ∀ d ∈ tables_1, d.before a0 Z = true) (ws : List Jvm.Cond) (pa : Addr) (pe : Addr) (kk : ClassId) (x0 : Addr) (x1 : Addr) (x2 : Addr) (h0 : Heap) (n0 : Nat) (Z0 : n0 ≤ h0.size) (H0 : Exa Z h0 pa "java/util/ArrayList") (H1 : Fld Z h0 pa "java/util/ArrayList" "elementData" "[Ljava/lang/Object;" (.ref pe)) (H2 : Arv Z h0 pe kk (.object "java/lang/Object") (10 : Int32) [(.ref x0), (.ref x1), (.ref x2)] .null) (H3 : Fld Z h0 pa "java/util/ArrayList" "size" "I" (.int 3)) :
    MetFree l (⟨"java/util/ArrayList", "get", "(I)Ljava/lang/Object;"⟩ : MethodName) (head1 (Jvm.Cond.code (⟨"java/util/ArrayList", "get", "(I)Ljava/lang/Object;"⟩ : MethodName) jdk_38_method_20_code 2 (some (.object "java/lang/Object")) :: ws) ({ frames := 2, cells := 0, slots := 0, locals := 27 } : Room)) (fun aa U => aa = #[(.ref pa), (.int 2)] ∧ Z.Warmed39 U.vm ∧ U.heap = h0) (fun _ _ _ _ _ => True) (fun _ U o U' => ∃ v L, o = .returned v ∧ QGT2 Z pa pe kk x0 x1 x2 h0 n0 v U'.heap L ∧ FrameEnd U o U' L ({ frames := 2, cells := 0, slots := 0, locals := 27 } : Room).cells ({ frames := 2, cells := 0, slots := 0, locals := 27 } : Room).slots) := by
  refine MetFree.of_bodySF (plainFor_of_name pnA0) hisR ?_
  intro p e s m args below meth c s₁ Bd hml0 hP hK
  obtain ⟨rfl, hZ, hh⟩ := hP
  have hx := Bd.exec
  have hby := Bd.bytes
  have hlk : meth.locks = false := BodyLoose.notSynchronized Bd
  have hml : c.maxLocals = 2 := hml0
  have hown : s.vm.findClass "java/util/ArrayList" = some m.cls := findClass_of_methodNamed Bd.named
  have hnm := (name_of_methodNamed Bd.named Bd.method).1
  have X0 : Stand p l e ({ frames := 2, cells := 0, slots := 0, locals := 27 } : Room) s m #[(.ref pa), (.int 2)] below meth c s₁ [] 0 0 := Stand.of_body Bd
  have e0 : s₁.heap = h0 := by rw [← hh, Bd.state]; rfl
  have N0 := Fr.nil n0
  have ef : entryFrame m #[(.ref pa), (.int 2)] 2 = mkF m 0 #[rv pa, iv 2] [] := by first | (simp [entryFrame, mkF, argsToLocals, Value.category, maxLocals]; done) | rfl
  show Way p.tables e below (KQ s (QGT2 Z pa pe kk x0 x1 x2 h0 n0) ({ frames := 2, cells := 0, slots := 0, locals := 27 } : Room).cells ({ frames := 2, cells := 0, slots := 0, locals := 27 } : Room).slots) (s₁.setTop (entryFrame m #[(.ref pa), (.int 2)] 2))
  rw [ef]
  refine Way.by (fun _ k => XS.iloadN X0.here hx rfl (hb hby dGT0_0) rfl k) ?_
  show Way _ _ _ _ (s₁.setTop (mkF m 1 #[rv pa, iv 2] [(.int 2)]))
  refine Way.by (fun _ k => XS.aloadN X0.here hx rfl (hb hby dGT0_1) rfl rfl k) ?_
  show Way _ _ _ _ (s₁.setTop (mkF m 2 #[rv pa, iv 2] [(.ref pa), (.int 2)]))
  obtain ⟨T1, X2, e3, st4⟩ := getF X0 hx hZ hown (host := "") (Or.inl (tw hw 65 rfl)) Via.refl e0 H3 (g := (mkF m 2 #[rv pa, iv 2] [(.ref pa), (.int 2)])) rfl rfl (hb hby dGT0_2)
  refine Way.by st4 ?_
  show Way _ _ _ _ (T1.setTop (mkF m 5 #[rv pa, iv 2] [(.int 3), (.int 2)]))
  obtain ⟨_, _, ⟨T5, L7, k8, n9⟩, -, X6, ⟨Lc10, hQ11, l12, y13, z14⟩, st15⟩ := Jvm.LawKit.callS X2 hx (y := (⟨"java/util/Objects", "checkIndex", "(II)I"⟩ : MethodName)) hown (mvT hZ (tw hw 144 rfl)) (mvT hZ (tw hw 145 rfl)) (mvT hZ (tw hw 146 rfl)) (mvT hZ (tw hw 147 rfl)) (by decide) (backOf (W := 0) (rmOC l Z a0 hw [] (2 : Int32) (3 : Int32) h0 n0 Z0 (by decide)) hZ (tw hw 147 rfl) (tw hw 146 rfl) (by decide) (by decide)) (g := (mkF m 5 #[rv pa, iv 2] [(.int 3), (.int 2)])) rfl (by rw [hml]; rfl) (argsL := [(.int 2), (.int 3)]) (rest := []) (lenOf pdX rfl) rfl (leW rfl) (hb hby dGT0_5) (fun _ _ => ⟨rfl, e3, (leB rfl), (leB rfl)⟩)
  dsimp only [Pt.U, Pt.locs, Pt.cells, Pt.slots] at X6 l12 y13 z14 st15 hQ11
  subst l12 y13 z14
  obtain ⟨rfl, N21, e17⟩ := hQ11
  have N16 := Fr.app N0 N21
  refine Way.by st15 ?_
  show Way _ _ _ _ (T5.setTop (mkF m 8 #[rv pa, iv 2] [(.int 2)]))
  refine Way.by (fun _ k => XT.pop X6.here hx rfl (hb hby dGT0_8) rfl rfl k) ?_
  show Way _ _ _ _ (T5.setTop (mkF m 9 #[rv pa, iv 2] []))
  refine Way.by (fun _ k => XS.aloadN X6.here hx rfl (hb hby dGT0_9) rfl rfl k) ?_
  show Way _ _ _ _ (T5.setTop (mkF m 10 #[rv pa, iv 2] [(.ref pa)]))
  refine Way.by (fun _ k => XS.iloadN X6.here hx rfl (hb hby dGT0_10) rfl k) ?_
  show Way _ _ _ _ (T5.setTop (mkF m 11 #[rv pa, iv 2] [(.int 2), (.ref pa)]))
  obtain ⟨cq39, kq40, qa41, qb42, qc43⟩ := isOf hZ e17 H0
  obtain ⟨_, _, ⟨T23, L25, k26, n27⟩, -, X24, ⟨Lc28, hQ29, l30, y31, z32⟩, st33⟩ := X6.virtualBack hx (y := (⟨"java/util/ArrayList", "elementData", "(I)Ljava/lang/Object;"⟩ : MethodName)) (z := (⟨"java/util/ArrayList", "elementData", "(I)Ljava/lang/Object;"⟩ : MethodName)) hown (mvT hZ (tw hw 152 rfl)) (mvT hZ (tw hw 153 rfl)) (notFace_of_selects (args := #[]) (mvT hZ (tw hw 155 rfl))) (mvT hZ (tw hw 155 rfl)) (mvT hZ (tw hw 154 rfl)) (by decide) (backOf (W := 0) (rmED2 l Z a0 hw [] pa pe kk x0 x1 x2 h0 n0 Z0 H0 H1 H2) hZ (tw hw 156 rfl) (tw hw 36 rfl) (by decide) (by decide)) qa41 qc43 (g := (mkF m 11 #[rv pa, iv 2] [(.int 2), (.ref pa)])) rfl (by rw [hml]; rfl) (Steps.refl _) (argsL := [(.int 2)]) (rest := []) (lenOf pdED0 rfl) rfl (leW rfl) (hb hby dGT0_11) (fun _ _ => ⟨rfl, e17, (leB rfl), (leB rfl)⟩)
  dsimp only [Pt.U, Pt.locs, Pt.cells, Pt.slots] at X24 l30 y31 z32 st33 hQ29
  subst l30 y31 z32
  obtain ⟨rfl, N44, e35⟩ := hQ29
  have N34 := Fr.app N16 N44
  refine Way.to st33 ?_
  show Way _ _ _ _ (T23.setTop (mkF m 14 #[rv pa, iv 2] [(.ref x2)]))
  refine Way.ret (v := (some (.ref x2))) X24 hlk (fun h => by rw [Bd.returns] at h; cases h) (fun fs hr => retOut X24 hx Bd.returns rfl (Or.inr (Or.inr (Or.inr (Or.inr ⟨rfl, rfl, rfl⟩)))) (hb hby dGT0_14) hr) ?_ (by decide) (by decide)
  show QGT2 Z pa pe kk x0 x1 x2 h0 n0 _ T23.heap _
  rw [e35]
  exact ⟨rfl, N34, rfl⟩
def QEF2 (Z : State) (pv : Addr) (pa : Addr) (pe : Addr) (kk : ClassId) (x0 : Addr) (x1 : Addr) (x2 : Addr) (h0 : Heap) (n0 : Nat) (v : Option Value) (h : Heap) (L : List Loc) : Prop := v = some (.ref x2) ∧ Fr n0 L ∧ h = h0
set_option maxRecDepth 65536 in
set_option maxHeartbeats 40000000 in
theorem rmEF2 (l : Launch) (Z : State) (a0 : Array Value) (hw : ∀ d ∈ tables_1, d.before a0 Z = true) (ws : List Jvm.Cond) (pv : Addr) (pa : Addr) (pe : Addr) (kk : ClassId) (x0 : Addr) (x1 : Addr) (x2 : Addr) (h0 : Heap) (n0 : Nat) (Z0 : n0 ≤ h0.size) (H0 : Exa Z h0 pa "java/util/ArrayList") (H1 : Fld Z h0 pa "java/util/ArrayList" "elementData" "[Ljava/lang/Object;" (.ref pe)) (H2 : Arv Z h0 pe kk (.object "java/lang/Object") (10 : Int32) [(.ref x0), (.ref x1), (.ref x2)] .null) (H3 : Fld Z h0 pa "java/util/ArrayList" "size" "I" (.int 3)) (H4 : Fld Z h0 pv "com/example/forward_horizon/forwardhorizon/engine/Event" "fields" "Ljava/util/List;" (.ref pa)) (H5 : Exa Z h0 x2 "java/lang/String") :
    MetFree l (⟨"com/example/forward_horizon/forwardhorizon/engine/Event", "field", "(I)Ljava/lang/String;"⟩ : MethodName) (head1 (Jvm.Cond.code (⟨"com/example/forward_horizon/forwardhorizon/engine/Event", "field", "(I)Ljava/lang/String;"⟩ : MethodName) prog_4_method_2_code 2 (some (.object "java/lang/String")) :: ws) ({ frames := 3, cells := 0, slots := 0, locals := 40 } : Room)) (fun aa U => aa = #[(.ref pv), (.int 2)] ∧ Z.Warmed39 U.vm ∧ U.heap = h0) (fun _ _ _ _ _ => True) (fun _ U o U' => ∃ v L, o = .returned v ∧ QEF2 Z pv pa pe kk x0 x1 x2 h0 n0 v U'.heap L ∧ FrameEnd U o U' L ({ frames := 3, cells := 0, slots := 0, locals := 40 } : Room).cells ({ frames := 3, cells := 0, slots := 0, locals := 40 } : Room).slots) := by
  refine MetFree.of_bodySF (plainFor_of_name pnT) hisR ?_
  intro p e s m args below meth c s₁ Bd hml0 hP hK
  obtain ⟨rfl, hZ, hh⟩ := hP
  have hx := Bd.exec
  have hby := Bd.bytes
  have hlk : meth.locks = false := BodyLoose.notSynchronized Bd
  have hml : c.maxLocals = 2 := hml0
  have hown : s.vm.findClass "com/example/forward_horizon/forwardhorizon/engine/Event" = some m.cls := findClass_of_methodNamed Bd.named
  have hnm := (name_of_methodNamed Bd.named Bd.method).1
  have X0 : Stand p l e ({ frames := 3, cells := 0, slots := 0, locals := 40 } : Room) s m #[(.ref pv), (.int 2)] below meth c s₁ [] 0 0 := Stand.of_body Bd
  have e0 : s₁.heap = h0 := by rw [← hh, Bd.state]; rfl
  have N0 := Fr.nil n0
  have ef : entryFrame m #[(.ref pv), (.int 2)] 2 = mkF m 0 #[rv pv, iv 2] [] := by first | (simp [entryFrame, mkF, argsToLocals, Value.category, maxLocals]; done) | rfl
  show Way p.tables e below (KQ s (QEF2 Z pv pa pe kk x0 x1 x2 h0 n0) ({ frames := 3, cells := 0, slots := 0, locals := 40 } : Room).cells ({ frames := 3, cells := 0, slots := 0, locals := 40 } : Room).slots) (s₁.setTop (entryFrame m #[(.ref pv), (.int 2)] 2))
  rw [ef]
  refine Way.by (fun _ k => XS.aloadN X0.here hx rfl (hb hby dEF0_0) rfl rfl k) ?_
  show Way _ _ _ _ (s₁.setTop (mkF m 1 #[rv pv, iv 2] [(.ref pv)]))
  obtain ⟨T1, X2, e3, st4⟩ := getF X0 hx hZ hown (host := "") (Or.inl (tw hw 113 rfl)) Via.refl e0 H4 (g := (mkF m 1 #[rv pv, iv 2] [(.ref pv)])) rfl rfl (hb hby dEF0_1)
  refine Way.by st4 ?_
  show Way _ _ _ _ (T1.setTop (mkF m 4 #[rv pv, iv 2] [(.ref pa)]))
  refine Way.by (fun _ k => XS.iloadN X2.here hx rfl (hb hby dEF0_4) rfl k) ?_
  show Way _ _ _ _ (T1.setTop (mkF m 5 #[rv pv, iv 2] [(.int 2), (.ref pa)]))
  obtain ⟨cq21, kq22, qa23, qb24, qc25⟩ := isOf hZ e3 H0
  obtain ⟨_, _, ⟨T5, L7, k8, n9⟩, -, X6, ⟨Lc10, hQ11, l12, y13, z14⟩, st15⟩ := X2.interfaceBack hx (xi := (⟨"java/util/List", "get", "(I)Ljava/lang/Object;"⟩ : MethodName)) (y := (⟨"java/util/ArrayList", "get", "(I)Ljava/lang/Object;"⟩ : MethodName)) hown (mvT hZ (tw hw 135 rfl)) (mvT hZ (tw hw 136 rfl)) (mvT hZ (tw hw 137 rfl)) (mvT hZ (tw hw 138 rfl)) (mvT hZ (tw hw 139 rfl)) (mvT hZ (tw hw 140 rfl)) (mvT hZ (tw hw 141 rfl)) (mvT hZ (tw hw 142 rfl)) (by decide) (backOf (W := 0) (rmGT2 l Z a0 hw [] pa pe kk x0 x1 x2 h0 n0 Z0 H0 H1 H2 H3) hZ (tw hw 143 rfl) (tw hw 36 rfl) (by decide) (by decide)) qa23 qb24 qc25 (g := (mkF m 5 #[rv pv, iv 2] [(.int 2), (.ref pa)])) rfl (by rw [hml]; rfl) (Steps.refl _) (argsL := [(.int 2)]) (rest := []) (lenOf pdED0 rfl) rfl (leW rfl) (hb hby dEF0_5) (fun _ _ => ⟨rfl, e3, (leB rfl), (leB rfl)⟩)
  dsimp only [Pt.U, Pt.locs, Pt.cells, Pt.slots] at X6 l12 y13 z14 st15 hQ11
  subst l12 y13 z14
  obtain ⟨rfl, N26, e17⟩ := hQ11
  have N16 := Fr.app N0 N26
  refine Way.to st15 ?_
  show Way _ _ _ _ (T5.setTop (mkF m 10 #[rv pv, iv 2] [(.ref x2)]))
  obtain ⟨T28, X29, e30, st31⟩ := castY X6 hx hZ hown (tw hw 157 rfl) e17 (Ins.self H5) (g := (mkF m 10 #[rv pv, iv 2] [(.ref x2)])) rfl rfl (hb hby dEF0_10)
  refine Way.by st31 ?_
  show Way _ _ _ _ (T28.setTop (mkF m 13 #[rv pv, iv 2] [(.ref x2)]))
  refine Way.ret (v := (some (.ref x2))) X29 hlk (fun h => by rw [Bd.returns] at h; cases h) (fun fs hr => retOut X29 hx Bd.returns rfl (Or.inr (Or.inr (Or.inr (Or.inr ⟨rfl, rfl, rfl⟩)))) (hb hby dEF0_13) hr) ?_ (by decide) (by decide)
  show QEF2 Z pv pa pe kk x0 x1 x2 h0 n0 _ T28.heap _
  rw [e30]
  exact ⟨rfl, N16, rfl⟩
def QEQ (Z : State) (pa : Addr) (h0 : Heap) (n0 : Nat) (v : Option Value) (h : Heap) (L : List Loc) : Prop := v = some (.int 1) ∧ Fr n0 L ∧ h = h0
theorem dEQ_0 : decode jdk_42_method_66_code 0 = .ok (.aload_n 0, 1) := by decide +kernel
theorem dEQ_1 : decode jdk_42_method_66_code 1 = .ok (.aload_n 1, 1) := by decide +kernel
theorem dEQ_2 : decode jdk_42_method_66_code 2 = .ok (.if_acmp .ne 5, 3) := by decide +kernel
theorem dEQ_5 : decode jdk_42_method_66_code 5 = .ok (.iconst 1, 1) := by decide +kernel
theorem dEQ_6 : decode jdk_42_method_66_code 6 = .ok (.ireturn, 1) := by decide +kernel
theorem pnEQ : plainName "java/lang/String" = true := by first | (simp [plainName, overriddenIn]; done) | decide +kernel
set_option maxRecDepth 65536 in
set_option maxHeartbeats 40000000 in
theorem rmEQ (l : Launch) (Z : State) (a0 : Array Value) (hw : ∀ d ∈ tables_1, d.before a0 Z = true) (ws : List Jvm.Cond) (pa : Addr) (h0 : Heap) (n0 : Nat) (Z0 : n0 ≤ h0.size)  :
    MetFree l (⟨"java/lang/String", "equals", "(Ljava/lang/Object;)Z"⟩ : MethodName) (head1 (Jvm.Cond.code (⟨"java/lang/String", "equals", "(Ljava/lang/Object;)Z"⟩ : MethodName) jdk_42_method_66_code 3 (some .boolean) :: ws) ({ frames := 0, cells := 0, slots := 0, locals := 0 } : Room)) (fun aa U => aa = #[(.ref pa), (.ref pa)] ∧ Z.Warmed39 U.vm ∧ U.heap = h0) (fun _ _ _ _ _ => True) (fun _ U o U' => ∃ v L, o = .returned v ∧ QEQ Z pa h0 n0 v U'.heap L ∧ FrameEnd U o U' L ({ frames := 0, cells := 0, slots := 0, locals := 0 } : Room).cells ({ frames := 0, cells := 0, slots := 0, locals := 0 } : Room).slots) := by
  refine MetFree.of_bodySF (plainFor_of_name pnEQ) hisR ?_
  intro p e s m args below meth c s₁ Bd hml0 hP hK
  obtain ⟨rfl, hZ, hh⟩ := hP
  have hx := Bd.exec
  have hby := Bd.bytes
  have hlk : meth.locks = false := BodyLoose.notSynchronized Bd
  have hml : c.maxLocals = 3 := hml0
  have hown : s.vm.findClass "java/lang/String" = some m.cls := findClass_of_methodNamed Bd.named
  have hnm := (name_of_methodNamed Bd.named Bd.method).1
  have X0 : Stand p l e ({ frames := 0, cells := 0, slots := 0, locals := 0 } : Room) s m #[(.ref pa), (.ref pa)] below meth c s₁ [] 0 0 := Stand.of_body Bd
  have e0 : s₁.heap = h0 := by rw [← hh, Bd.state]; rfl
  have N0 := Fr.nil n0
  have ef : entryFrame m #[(.ref pa), (.ref pa)] 3 = mkF m 0 #[rv pa, rv pa, .unset] [] := by first | (simp [entryFrame, mkF, argsToLocals, Value.category, maxLocals]; done) | rfl
  show Way p.tables e below (KQ s (QEQ Z pa h0 n0) ({ frames := 0, cells := 0, slots := 0, locals := 0 } : Room).cells ({ frames := 0, cells := 0, slots := 0, locals := 0 } : Room).slots) (s₁.setTop (entryFrame m #[(.ref pa), (.ref pa)] 3))
  rw [ef]
  refine Way.by (fun _ k => XS.aloadN X0.here hx rfl (hb hby dEQ_0) rfl rfl k) ?_
  show Way _ _ _ _ (s₁.setTop (mkF m 1 #[rv pa, rv pa, .unset] [(.ref pa)]))
  refine Way.by (fun _ k => XS.aloadN X0.here hx rfl (hb hby dEQ_1) rfl rfl k) ?_
  show Way _ _ _ _ (s₁.setTop (mkF m 2 #[rv pa, rv pa, .unset] [(.ref pa), (.ref pa)]))
  have b1 : pa = pa := rfl
  refine Way.by (fun _ k => acmp X0 hx rfl rfl rfl (pc0 := 2) (pc' := 5) (same := true) rfl (hb hby dEQ_2) rfl (by simp [b1]) (by decide) (by decide) k) ?_
  show Way _ _ _ _ (s₁.setTop (mkF m 5 #[rv pa, rv pa, .unset] []))
  refine Way.by (fun _ k => XS.iconst X0.here hx rfl (hb hby dEQ_5) k) ?_
  show Way _ _ _ _ (s₁.setTop (mkF m 6 #[rv pa, rv pa, .unset] [(.int 1)]))
  refine Way.ret (v := (some (.int (nar .boolean (1 : Int32))))) X0 hlk (fun h => by rw [Bd.returns] at h; cases h) (fun fs hr => retN X0 hx (t := .boolean) Bd.returns (by simp) (hb hby dEQ_6) hr) ?_ (by decide) (by decide)
  show QEQ Z pa h0 n0 _ s₁.heap _
  rw [e0]
  exact ⟨rfl, N0, rfl⟩
def Q0 (n0 : Nat) (v : Option Value) (h : Heap) (L : List Loc) : Prop := v = some (.int 1) ∧ Fr n0 L
theorem pd0 : parseMethodDescriptor "(IIIIJ)Z" = some ⟨[.int, .int, .int, .int, .long], some .boolean⟩ := by decide +kernel
set_option maxRecDepth 65536 in
set_option maxHeartbeats 40000000 in
theorem rm0 (l : Launch) (Z : State) (a0 : Array Value) (hw : ∀ d ∈ tables_1, d.before a0 Z = true) (ws : List Jvm.Cond) (p1 p2 p3 p4 : Int32) (p5 : Int64) (pd : Addr) (dcl : Cell) (h0 : Heap) (n0 : Nat) (Z0 : n0 ≤ h0.size) (O0 : Old Z n0 h0) (SV : own_Env Z) (SDE : Sta Z Z.heap "java/util/ArrayList" "DEFAULTCAPACITY_EMPTY_ELEMENTDATA" "[Ljava/lang/Object;" (.ref pd)) (ADE : Arr Z Z.heap pd dcl (.object "java/lang/Object")) (NDE : dcl.slots.size.toInt32 = (0 : Int32)) :
    MetFree l x (head1 (Jvm.Cond.code x code maxLocals ret :: ws) room_1) (fun aa U => aa = #[(.int p1), (.int p2), (.int p3), (.int p4), (.long p5)] ∧ Z.Warmed39 U.vm ∧ U.heap = h0) (fun _ _ _ _ _ => True) (fun _ U o U' => ∃ v L, o = .returned v ∧ Q0 n0 v U'.heap L ∧ FrameEnd U o U' L room_1.cells room_1.slots) := by
  refine MetFree.of_bodySF (plainFor_of_name pnW) hisR ?_
  intro p e s m args below meth c s₁ Bd hml0 hP hK
  obtain ⟨rfl, hZ, hh⟩ := hP
  have hx := Bd.exec
  have hby := Bd.bytes
  have hlk : meth.locks = false := BodyLoose.notSynchronized Bd
  have hml : c.maxLocals = 14 := hml0
  have hown : s.vm.findClass "com/example/forward_horizon/forwardhorizon/engine/EventFieldPinLaw" = some m.cls := findClass_of_methodNamed Bd.named
  have hnm := (name_of_methodNamed Bd.named Bd.method).1
  have X0 : Stand p l e room_1 s m #[(.int p1), (.int p2), (.int p3), (.int p4), (.long p5)] below meth c s₁ [] 0 0 := Stand.of_body Bd
  have e0 : s₁.heap = h0 := by rw [← hh, Bd.state]; rfl
  have N0 := Fr.nil n0
  have ef : entryFrame m #[(.int p1), (.int p2), (.int p3), (.int p4), (.long p5)] maxLocals = mkF m 0 #[iv p1, iv p2, iv p3, iv p4, .val (.long p5), .second, .unset, .unset, .unset, .unset, .unset, .unset, .unset, .unset] [] := by first | (simp [entryFrame, mkF, argsToLocals, Value.category, maxLocals]; done) | rfl
  show Way p.tables e below (KQ s (Q0 n0) room_1.cells room_1.slots) (s₁.setTop (entryFrame m #[(.int p1), (.int p2), (.int p3), (.int p4), (.long p5)] maxLocals))
  rw [ef]
  refine Way.by (fun _ k => XS.iloadN X0.here hx rfl (hb hby at_0) rfl k) ?_
  show Way _ _ _ _ (s₁.setTop (mkF m 1 #[iv p1, iv p2, iv p3, iv p4, .val (.long p5), .second, .unset, .unset, .unset, .unset, .unset, .unset, .unset, .unset] [(.int p1)]))
  obtain ⟨_, _, ⟨T1, L3, k4, n5⟩, -, X2, ⟨Lc6, hQ7, l8, y9, z10⟩, st11⟩ := Jvm.LawKit.callS X0 hx (y := (⟨"com/example/forward_horizon/forwardhorizon/engine/EventFieldPinLaw", "two", "(I)Ljava/lang/String;"⟩ : MethodName)) hown (mvT hZ (tw hw 0 rfl)) (mvT hZ (tw hw 1 rfl)) (mvT hZ (tw hw 2 rfl)) (mvT hZ (tw hw 3 rfl)) (by decide) (backOf (W := 0) (rmW l Z a0 hw [] p1 h0 n0 Z0 O0 SV) hZ (tw hw 3 rfl) (tw hw 2 rfl) (by decide) (by decide)) (g := (mkF m 1 #[iv p1, iv p2, iv p3, iv p4, .val (.long p5), .second, .unset, .unset, .unset, .unset, .unset, .unset, .unset, .unset] [(.int p1)])) rfl (by rw [hml]; rfl) (argsL := [(.int p1)]) (rest := []) (lenOf pdW rfl) rfl (leW rfl) (hb hby at_1) (fun _ _ => ⟨rfl, e0, (leB rfl), (leB rfl)⟩)
  dsimp only [Pt.U, Pt.locs, Pt.cells, Pt.slots] at X2 l8 y9 z10 st11 hQ7
  subst l8 y9 z10
  obtain ⟨x_bx20, rfl, N17, K18, F_019⟩ := hQ7
  have N12 := Fr.app N0 N17
  have Z21 := Nat.le_trans Z0 K18.1
  have O22 := O0.keep K18 all0
  refine Way.by st11 ?_
  show Way _ _ _ _ (T1.setTop (mkF m 4 #[iv p1, iv p2, iv p3, iv p4, .val (.long p5), .second, .unset, .unset, .unset, .unset, .unset, .unset, .unset, .unset] [(.ref x_bx20)]))
  refine Way.by (fun _ k => XS.astore X2.here hx rfl (hb hby at_4) rfl rfl (l' := #[iv p1, iv p2, iv p3, iv p4, .val (.long p5), .second, rv x_bx20, .unset, .unset, .unset, .unset, .unset, .unset, .unset]) rfl k) ?_
  show Way _ _ _ _ (T1.setTop (mkF m 6 #[iv p1, iv p2, iv p3, iv p4, .val (.long p5), .second, rv x_bx20, .unset, .unset, .unset, .unset, .unset, .unset, .unset] []))
  refine Way.by (fun _ k => XS.iloadN X2.here hx rfl (hb hby at_6) rfl k) ?_
  show Way _ _ _ _ (T1.setTop (mkF m 7 #[iv p1, iv p2, iv p3, iv p4, .val (.long p5), .second, rv x_bx20, .unset, .unset, .unset, .unset, .unset, .unset, .unset] [(.int p2)]))
  obtain ⟨_, _, ⟨T23, L25, k26, n27⟩, -, X24, ⟨Lc28, hQ29, l30, y31, z32⟩, st33⟩ := Jvm.LawKit.callS X2 hx (y := (⟨"com/example/forward_horizon/forwardhorizon/engine/EventFieldPinLaw", "two", "(I)Ljava/lang/String;"⟩ : MethodName)) hown (mvT hZ (tw hw 0 rfl)) (mvT hZ (tw hw 1 rfl)) (mvT hZ (tw hw 2 rfl)) (mvT hZ (tw hw 3 rfl)) (by decide) (backOf (W := 0) (rmW l Z a0 hw [] p2 T1.heap n0 Z21 O22 SV) hZ (tw hw 3 rfl) (tw hw 2 rfl) (by decide) (by decide)) (g := (mkF m 7 #[iv p1, iv p2, iv p3, iv p4, .val (.long p5), .second, rv x_bx20, .unset, .unset, .unset, .unset, .unset, .unset, .unset] [(.int p2)])) rfl (by rw [hml]; rfl) (argsL := [(.int p2)]) (rest := []) (lenOf pdW rfl) rfl (leW rfl) (hb hby at_7) (fun _ _ => ⟨rfl, rfl, (leB rfl), (leB rfl)⟩)
  dsimp only [Pt.U, Pt.locs, Pt.cells, Pt.slots] at X24 l30 y31 z32 st33 hQ29
  subst l30 y31 z32
  obtain ⟨x_bx42, rfl, N39, K40, F_041⟩ := hQ29
  have N34 := Fr.app N12 N39
  have E43 := F_019.keep K40
  have Z44 := Nat.le_trans Z21 K40.1
  have O45 := O22.keep K40 all0
  refine Way.by st33 ?_
  show Way _ _ _ _ (T23.setTop (mkF m 10 #[iv p1, iv p2, iv p3, iv p4, .val (.long p5), .second, rv x_bx20, .unset, .unset, .unset, .unset, .unset, .unset, .unset] [(.ref x_bx42)]))
  refine Way.by (fun _ k => XS.astore X24.here hx rfl (hb hby at_10) rfl rfl (l' := #[iv p1, iv p2, iv p3, iv p4, .val (.long p5), .second, rv x_bx20, rv x_bx42, .unset, .unset, .unset, .unset, .unset, .unset]) rfl k) ?_
  show Way _ _ _ _ (T23.setTop (mkF m 12 #[iv p1, iv p2, iv p3, iv p4, .val (.long p5), .second, rv x_bx20, rv x_bx42, .unset, .unset, .unset, .unset, .unset, .unset] []))
  refine Way.by (fun _ k => XS.iloadN X24.here hx rfl (hb hby at_12) rfl k) ?_
  show Way _ _ _ _ (T23.setTop (mkF m 13 #[iv p1, iv p2, iv p3, iv p4, .val (.long p5), .second, rv x_bx20, rv x_bx42, .unset, .unset, .unset, .unset, .unset, .unset] [(.int p3)]))
  obtain ⟨_, _, ⟨T46, L48, k49, n50⟩, -, X47, ⟨Lc51, hQ52, l53, y54, z55⟩, st56⟩ := Jvm.LawKit.callS X24 hx (y := (⟨"com/example/forward_horizon/forwardhorizon/engine/EventFieldPinLaw", "two", "(I)Ljava/lang/String;"⟩ : MethodName)) hown (mvT hZ (tw hw 0 rfl)) (mvT hZ (tw hw 1 rfl)) (mvT hZ (tw hw 2 rfl)) (mvT hZ (tw hw 3 rfl)) (by decide) (backOf (W := 0) (rmW l Z a0 hw [] p3 T23.heap n0 Z44 O45 SV) hZ (tw hw 3 rfl) (tw hw 2 rfl) (by decide) (by decide)) (g := (mkF m 13 #[iv p1, iv p2, iv p3, iv p4, .val (.long p5), .second, rv x_bx20, rv x_bx42, .unset, .unset, .unset, .unset, .unset, .unset] [(.int p3)])) rfl (by rw [hml]; rfl) (argsL := [(.int p3)]) (rest := []) (lenOf pdW rfl) rfl (leW rfl) (hb hby at_13) (fun _ _ => ⟨rfl, rfl, (leB rfl), (leB rfl)⟩)
  dsimp only [Pt.U, Pt.locs, Pt.cells, Pt.slots] at X47 l53 y54 z55 st56 hQ52
  subst l53 y54 z55
  obtain ⟨x_bx65, rfl, N62, K63, F_064⟩ := hQ52
  have N57 := Fr.app N34 N62
  have E66 := E43.keep K63
  have E67 := F_041.keep K63
  have Z68 := Nat.le_trans Z44 K63.1
  have O69 := O45.keep K63 all0
  refine Way.by st56 ?_
  show Way _ _ _ _ (T46.setTop (mkF m 16 #[iv p1, iv p2, iv p3, iv p4, .val (.long p5), .second, rv x_bx20, rv x_bx42, .unset, .unset, .unset, .unset, .unset, .unset] [(.ref x_bx65)]))
  refine Way.by (fun _ k => XS.astore X47.here hx rfl (hb hby at_16) rfl rfl (l' := #[iv p1, iv p2, iv p3, iv p4, .val (.long p5), .second, rv x_bx20, rv x_bx42, rv x_bx65, .unset, .unset, .unset, .unset, .unset]) rfl k) ?_
  show Way _ _ _ _ (T46.setTop (mkF m 18 #[iv p1, iv p2, iv p3, iv p4, .val (.long p5), .second, rv x_bx20, rv x_bx42, rv x_bx65, .unset, .unset, .unset, .unset, .unset] []))
  obtain ⟨T70, h71, X72, e73, E74, A75, D76, -, st77⟩ := newO X47 hx hZ hown (tw hw 34 rfl) (tw hw 35 rfl) (tw hw 36 rfl) rfl (g := (mkF m 18 #[iv p1, iv p2, iv p3, iv p4, .val (.long p5), .second, rv x_bx20, rv x_bx42, rv x_bx65, .unset, .unset, .unset, .unset, .unset] [])) rfl (hb hby at_18) (by decide) (by decide)
  obtain ⟨a78, g79⟩ : ∃ z, z = T46.heap.size := ⟨_, rfl⟩
  rw [← g79] at A75 D76 st77
  have ne80 : x_bx20 ≠ a78 := Nat.ne_of_lt (Nat.lt_of_lt_of_eq E66.lt g79.symm)
  have ne81 : x_bx42 ≠ a78 := Nat.ne_of_lt (Nat.lt_of_lt_of_eq E67.lt g79.symm)
  have ne82 : x_bx65 ≠ a78 := Nat.ne_of_lt (Nat.lt_of_lt_of_eq F_064.lt g79.symm)
  have nw83 : n0 ≤ a78 := Nat.le_trans Z68 (Nat.le_of_eq g79.symm)
  have E84 := Exa.ext E74 E66
  have E85 := Exa.ext E74 E67
  have E86 := Exa.ext E74 F_064
  have Z87 := Nat.le_trans Z68 E74.1
  have O88 := O69.ext E74
  have F89 : Fld Z h71 a78 "java/util/AbstractList" "modCount" "I" (.int 0) := D76 (Or.inl (tw hw 54 rfl)) (ty := .int) (by decide)
  have F90 : Fld Z h71 a78 "java/util/ArrayList" "elementData" "[Ljava/lang/Object;" .null := D76 (Or.inl (tw hw 57 rfl)) (ty := (.array (.object "java/lang/Object"))) (by decide)
  have F91 : Fld Z h71 a78 "java/util/ArrayList" "size" "I" (.int 0) := D76 (Or.inl (tw hw 66 rfl)) (ty := .int) (by decide)
  refine Way.by st77 ?_
  show Way _ _ _ _ (T70.setTop (mkF m 21 #[iv p1, iv p2, iv p3, iv p4, .val (.long p5), .second, rv x_bx20, rv x_bx42, rv x_bx65, .unset, .unset, .unset, .unset, .unset] [(.ref a78)]))
  refine Way.by (fun _ k => XS.dup X72.here hx rfl (hb hby at_21) rfl rfl k) ?_
  show Way _ _ _ _ (T70.setTop (mkF m 22 #[iv p1, iv p2, iv p3, iv p4, .val (.long p5), .second, rv x_bx20, rv x_bx42, rv x_bx65, .unset, .unset, .unset, .unset, .unset] [(.ref a78), (.ref a78)]))
  obtain ⟨_, _, ⟨T92, L94, k95, n96⟩, -, X93, ⟨Lc97, hQ98, l99, y100, z101⟩, st102⟩ := X72.specialBack hx (y := (⟨"java/util/ArrayList", "<init>", "()V"⟩ : MethodName)) rfl hown (mvT hZ (tw hw 37 rfl)) (mvT hZ (tw hw 38 rfl)) (mvT hZ (tw hw 39 rfl)) (by decide) (backOf (W := 1) (rmA0 l Z a0 hw [] a78 pd h71 n0 Z87 A75 F89 F90 F91 nw83 O88 SDE) hZ (tw hw 39 rfl) (tw hw 36 rfl) (by decide) (by decide)) (g := (mkF m 22 #[iv p1, iv p2, iv p3, iv p4, .val (.long p5), .second, rv x_bx20, rv x_bx42, rv x_bx65, .unset, .unset, .unset, .unset, .unset] [(.ref a78), (.ref a78)])) rfl (by rw [hml]; rfl) (Steps.refl _) (a := a78) (argsL := []) (rest := [(.ref a78)]) (lenOf pdA2 rfl) rfl (leW rfl) (hb hby at_22) (fun _ _ => ⟨rfl, e73, (leB rfl), (leB rfl)⟩)
  dsimp only [Pt.U, Pt.locs, Pt.cells, Pt.slots] at X93 l99 y100 z101 st102 hQ98
  subst l99 y100 z101
  obtain ⟨rfl, N108, K109, F_0110, F_1111, F_2112, F_3113⟩ := hQ98
  have N103 := Fr.app N57 N108
  have E114 := E84.keep K109
  have E115 := E85.keep K109
  have E116 := E86.keep K109
  have E117 := A75.keep K109
  have Z118 := Nat.le_trans Z87 K109.1
  have O119 := O88.keep K109 (allS nw83 all0)
  refine Way.to st102 ?_
  show Way _ _ _ _ (T92.setTop (mkF m 25 #[iv p1, iv p2, iv p3, iv p4, .val (.long p5), .second, rv x_bx20, rv x_bx42, rv x_bx65, .unset, .unset, .unset, .unset, .unset] [(.ref a78)]))
  refine Way.by (fun _ k => XS.astore X93.here hx rfl (hb hby at_25) rfl rfl (l' := #[iv p1, iv p2, iv p3, iv p4, .val (.long p5), .second, rv x_bx20, rv x_bx42, rv x_bx65, rv a78, .unset, .unset, .unset, .unset]) rfl k) ?_
  show Way _ _ _ _ (T92.setTop (mkF m 27 #[iv p1, iv p2, iv p3, iv p4, .val (.long p5), .second, rv x_bx20, rv x_bx42, rv x_bx65, rv a78, .unset, .unset, .unset, .unset] []))
  refine Way.by (fun _ k => XS.aload X93.here hx rfl (hb hby at_27) rfl rfl k) ?_
  show Way _ _ _ _ (T92.setTop (mkF m 29 #[iv p1, iv p2, iv p3, iv p4, .val (.long p5), .second, rv x_bx20, rv x_bx42, rv x_bx65, rv a78, .unset, .unset, .unset, .unset] [(.ref a78)]))
  refine Way.by (fun _ k => XS.aload X93.here hx rfl (hb hby at_29) rfl rfl k) ?_
  show Way _ _ _ _ (T92.setTop (mkF m 31 #[iv p1, iv p2, iv p3, iv p4, .val (.long p5), .second, rv x_bx20, rv x_bx42, rv x_bx65, rv a78, .unset, .unset, .unset, .unset] [(.ref x_bx20), (.ref a78)]))
  obtain ⟨cq136, kq137, qa138, qb139, qc140⟩ := isOf hZ rfl F_0110
  obtain ⟨_, _, ⟨T120, L122, k123, n124⟩, -, X121, ⟨Lc125, hQ126, l127, y128, z129⟩, st130⟩ := X93.virtualBack hx (y := (⟨"java/util/ArrayList", "add", "(Ljava/lang/Object;)Z"⟩ : MethodName)) (z := (⟨"java/util/ArrayList", "add", "(Ljava/lang/Object;)Z"⟩ : MethodName)) hown (mvT hZ (tw hw 58 rfl)) (mvT hZ (tw hw 59 rfl)) (notFace_of_selects (args := #[]) (mvT hZ (tw hw 61 rfl))) (mvT hZ (tw hw 61 rfl)) (mvT hZ (tw hw 60 rfl)) (by decide) (backOf (W := 0) (rmAD0 l Z a0 hw [] a78 pd dcl x_bx20 T92.heap n0 Z118 F_0110 F_2112 F_3113 F_1111 E114 nw83 O119 SDE ADE NDE) hZ (tw hw 62 rfl) (tw hw 36 rfl) (by decide) (by decide)) qa138 qc140 (g := (mkF m 31 #[iv p1, iv p2, iv p3, iv p4, .val (.long p5), .second, rv x_bx20, rv x_bx42, rv x_bx65, rv a78, .unset, .unset, .unset, .unset] [(.ref x_bx20), (.ref a78)])) rfl (by rw [hml]; rfl) (Steps.refl _) (argsL := [(.ref x_bx20)]) (rest := []) (lenOf pdAD0 rfl) rfl (leW rfl) (hb hby at_31) (fun _ _ => ⟨rfl, rfl, (leB rfl), (leB rfl)⟩)
  dsimp only [Pt.U, Pt.locs, Pt.cells, Pt.slots] at X121 l127 y128 z129 st130 hQ126
  subst l127 y128 z129
  obtain ⟨x_pe151, x_kk150, rfl, N141, K142, fr_pe148, pu_OV149, F_0143, F_1144, F_2145, F_3146, F_4147⟩ := hQ126
  have N131 := Fr.app N103 N141
  have ne152 : x_bx20 ≠ x_pe151 := Nat.ne_of_lt (Nat.lt_of_lt_of_le E114.lt fr_pe148)
  have ne153 : x_bx42 ≠ x_pe151 := Nat.ne_of_lt (Nat.lt_of_lt_of_le E115.lt fr_pe148)
  have ne154 : x_bx65 ≠ x_pe151 := Nat.ne_of_lt (Nat.lt_of_lt_of_le E116.lt fr_pe148)
  have ne155 : a78 ≠ x_pe151 := Nat.ne_of_lt (Nat.lt_of_lt_of_le F_0110.lt fr_pe148)
  have nw156 : n0 ≤ x_pe151 := Nat.le_trans Z118 fr_pe148
  have E157 := E114.keep K142
  have E158 := E115.keep K142
  have E159 := E116.keep K142
  have E160 := F_0110.keep K142
  have Z161 := Nat.le_trans Z118 K142.1
  have O162 := O119.keep K142 (allS nw83 all0)
  refine Way.to st130 ?_
  show Way _ _ _ _ (T120.setTop (mkF m 34 #[iv p1, iv p2, iv p3, iv p4, .val (.long p5), .second, rv x_bx20, rv x_bx42, rv x_bx65, rv a78, .unset, .unset, .unset, .unset] [(.int 1)]))
  refine Way.by (fun _ k => XT.pop X121.here hx rfl (hb hby at_34) rfl rfl k) ?_
  show Way _ _ _ _ (T120.setTop (mkF m 35 #[iv p1, iv p2, iv p3, iv p4, .val (.long p5), .second, rv x_bx20, rv x_bx42, rv x_bx65, rv a78, .unset, .unset, .unset, .unset] []))
  refine Way.by (fun _ k => XS.aload X121.here hx rfl (hb hby at_35) rfl rfl k) ?_
  show Way _ _ _ _ (T120.setTop (mkF m 37 #[iv p1, iv p2, iv p3, iv p4, .val (.long p5), .second, rv x_bx20, rv x_bx42, rv x_bx65, rv a78, .unset, .unset, .unset, .unset] [(.ref a78)]))
  refine Way.by (fun _ k => XS.aload X121.here hx rfl (hb hby at_37) rfl rfl k) ?_
  show Way _ _ _ _ (T120.setTop (mkF m 39 #[iv p1, iv p2, iv p3, iv p4, .val (.long p5), .second, rv x_bx20, rv x_bx42, rv x_bx65, rv a78, .unset, .unset, .unset, .unset] [(.ref x_bx42), (.ref a78)]))
  obtain ⟨cq179, kq180, qa181, qb182, qc183⟩ := isOf hZ rfl F_0143
  obtain ⟨_, _, ⟨T163, L165, k166, n167⟩, -, X164, ⟨Lc168, hQ169, l170, y171, z172⟩, st173⟩ := X121.virtualBack hx (y := (⟨"java/util/ArrayList", "add", "(Ljava/lang/Object;)Z"⟩ : MethodName)) (z := (⟨"java/util/ArrayList", "add", "(Ljava/lang/Object;)Z"⟩ : MethodName)) hown (mvT hZ (tw hw 58 rfl)) (mvT hZ (tw hw 59 rfl)) (notFace_of_selects (args := #[]) (mvT hZ (tw hw 61 rfl))) (mvT hZ (tw hw 61 rfl)) (mvT hZ (tw hw 60 rfl)) (by decide) (backOf (W := 0) (rmAD1 l Z a0 hw [] a78 x_pe151 x_kk150 x_bx42 x_bx20 T120.heap n0 Z161 F_0143 F_1144 F_2145 F_3146 F_4147 E158 pu_OV149 ne155 nw83 nw156) hZ (tw hw 62 rfl) (tw hw 36 rfl) (by decide) (by decide)) qa181 qc183 (g := (mkF m 39 #[iv p1, iv p2, iv p3, iv p4, .val (.long p5), .second, rv x_bx20, rv x_bx42, rv x_bx65, rv a78, .unset, .unset, .unset, .unset] [(.ref x_bx42), (.ref a78)])) rfl (by rw [hml]; rfl) (Steps.refl _) (argsL := [(.ref x_bx42)]) (rest := []) (lenOf pdAD0 rfl) rfl (leW rfl) (hb hby at_39) (fun _ _ => ⟨rfl, rfl, (leB rfl), (leB rfl)⟩)
  dsimp only [Pt.U, Pt.locs, Pt.cells, Pt.slots] at X164 l170 y171 z172 st173 hQ169
  subst l170 y171 z172
  obtain ⟨rfl, N184, K185, F_0186, F_1187, F_2188, F_3189, F_4190⟩ := hQ169
  have N174 := Fr.app N131 N184
  have E191 := E157.keep K185
  have E192 := E158.keep K185
  have E193 := E159.keep K185
  have E194 := F_0143.keep K185
  have Z195 := Nat.le_trans Z161 K185.1
  have O196 := O162.keep K185 (allS nw83 (allS nw156 all0))
  refine Way.to st173 ?_
  show Way _ _ _ _ (T163.setTop (mkF m 42 #[iv p1, iv p2, iv p3, iv p4, .val (.long p5), .second, rv x_bx20, rv x_bx42, rv x_bx65, rv a78, .unset, .unset, .unset, .unset] [(.int 1)]))
  refine Way.by (fun _ k => XT.pop X164.here hx rfl (hb hby at_42) rfl rfl k) ?_
  show Way _ _ _ _ (T163.setTop (mkF m 43 #[iv p1, iv p2, iv p3, iv p4, .val (.long p5), .second, rv x_bx20, rv x_bx42, rv x_bx65, rv a78, .unset, .unset, .unset, .unset] []))
  refine Way.by (fun _ k => XS.aload X164.here hx rfl (hb hby at_43) rfl rfl k) ?_
  show Way _ _ _ _ (T163.setTop (mkF m 45 #[iv p1, iv p2, iv p3, iv p4, .val (.long p5), .second, rv x_bx20, rv x_bx42, rv x_bx65, rv a78, .unset, .unset, .unset, .unset] [(.ref a78)]))
  refine Way.by (fun _ k => XS.aload X164.here hx rfl (hb hby at_45) rfl rfl k) ?_
  show Way _ _ _ _ (T163.setTop (mkF m 47 #[iv p1, iv p2, iv p3, iv p4, .val (.long p5), .second, rv x_bx20, rv x_bx42, rv x_bx65, rv a78, .unset, .unset, .unset, .unset] [(.ref x_bx65), (.ref a78)]))
  obtain ⟨cq213, kq214, qa215, qb216, qc217⟩ := isOf hZ rfl F_0186
  obtain ⟨_, _, ⟨T197, L199, k200, n201⟩, -, X198, ⟨Lc202, hQ203, l204, y205, z206⟩, st207⟩ := X164.virtualBack hx (y := (⟨"java/util/ArrayList", "add", "(Ljava/lang/Object;)Z"⟩ : MethodName)) (z := (⟨"java/util/ArrayList", "add", "(Ljava/lang/Object;)Z"⟩ : MethodName)) hown (mvT hZ (tw hw 58 rfl)) (mvT hZ (tw hw 59 rfl)) (notFace_of_selects (args := #[]) (mvT hZ (tw hw 61 rfl))) (mvT hZ (tw hw 61 rfl)) (mvT hZ (tw hw 60 rfl)) (by decide) (backOf (W := 0) (rmAD2 l Z a0 hw [] a78 x_pe151 x_kk150 x_bx65 x_bx20 x_bx42 T163.heap n0 Z195 F_0186 F_1187 F_2188 F_3189 F_4190 E193 pu_OV149 ne155 nw83 nw156) hZ (tw hw 62 rfl) (tw hw 36 rfl) (by decide) (by decide)) qa215 qc217 (g := (mkF m 47 #[iv p1, iv p2, iv p3, iv p4, .val (.long p5), .second, rv x_bx20, rv x_bx42, rv x_bx65, rv a78, .unset, .unset, .unset, .unset] [(.ref x_bx65), (.ref a78)])) rfl (by rw [hml]; rfl) (Steps.refl _) (argsL := [(.ref x_bx65)]) (rest := []) (lenOf pdAD0 rfl) rfl (leW rfl) (hb hby at_47) (fun _ _ => ⟨rfl, rfl, (leB rfl), (leB rfl)⟩)
  dsimp only [Pt.U, Pt.locs, Pt.cells, Pt.slots] at X198 l204 y205 z206 st207 hQ203
  subst l204 y205 z206
  obtain ⟨rfl, N218, K219, F_0220, F_1221, F_2222, F_3223, F_4224⟩ := hQ203
  have N208 := Fr.app N174 N218
  have E225 := E191.keep K219
  have E226 := E192.keep K219
  have E227 := E193.keep K219
  have E228 := F_0186.keep K219
  have Z229 := Nat.le_trans Z195 K219.1
  have O230 := O196.keep K219 (allS nw83 (allS nw156 all0))
  refine Way.to st207 ?_
  show Way _ _ _ _ (T197.setTop (mkF m 50 #[iv p1, iv p2, iv p3, iv p4, .val (.long p5), .second, rv x_bx20, rv x_bx42, rv x_bx65, rv a78, .unset, .unset, .unset, .unset] [(.int 1)]))
  refine Way.by (fun _ k => XT.pop X198.here hx rfl (hb hby at_50) rfl rfl k) ?_
  show Way _ _ _ _ (T197.setTop (mkF m 51 #[iv p1, iv p2, iv p3, iv p4, .val (.long p5), .second, rv x_bx20, rv x_bx42, rv x_bx65, rv a78, .unset, .unset, .unset, .unset] []))
  obtain ⟨T231, h232, X233, e234, E235, A236, D237, -, st238⟩ := newO X198 hx hZ hown (tw hw 89 rfl) (tw hw 90 rfl) (tw hw 91 rfl) rfl (g := (mkF m 51 #[iv p1, iv p2, iv p3, iv p4, .val (.long p5), .second, rv x_bx20, rv x_bx42, rv x_bx65, rv a78, .unset, .unset, .unset, .unset] [])) rfl (hb hby at_51) (by decide) (by decide)
  obtain ⟨a239, g240⟩ : ∃ z, z = T197.heap.size := ⟨_, rfl⟩
  rw [← g240] at A236 D237 st238
  have ne241 : x_bx20 ≠ a239 := Nat.ne_of_lt (Nat.lt_of_lt_of_eq E225.lt g240.symm)
  have ne242 : x_bx42 ≠ a239 := Nat.ne_of_lt (Nat.lt_of_lt_of_eq E226.lt g240.symm)
  have ne243 : x_bx65 ≠ a239 := Nat.ne_of_lt (Nat.lt_of_lt_of_eq E227.lt g240.symm)
  have ne244 : a78 ≠ a239 := Nat.ne_of_lt (Nat.lt_of_lt_of_eq F_0220.lt g240.symm)
  have ne245 : x_pe151 ≠ a239 := Nat.ne_of_lt (Nat.lt_of_lt_of_eq F_4224.lt g240.symm)
  have nw246 : n0 ≤ a239 := Nat.le_trans Z229 (Nat.le_of_eq g240.symm)
  have E247 := Exa.ext E235 E225
  have E248 := Exa.ext E235 E226
  have E249 := Exa.ext E235 E227
  have E250 := Exa.ext E235 F_0220
  have F251 := Fld.ext E235 F_1221
  have F252 := Fld.ext E235 F_2222
  have F253 := Fld.ext E235 F_3223
  have A254 := F_4224.ext E235
  have Z255 := Nat.le_trans Z229 E235.1
  have O256 := O230.ext E235
  have F257 : Fld Z h232 a239 "com/example/forward_horizon/forwardhorizon/engine/Event" "holds" "Ljava/util/concurrent/atomic/AtomicInteger;" .null := D237 (Or.inr (tw hw 112 rfl)) (ty := (.object "java/util/concurrent/atomic/AtomicInteger")) (by decide)
  have F258 : Fld Z h232 a239 "com/example/forward_horizon/forwardhorizon/engine/Event" "fields" "Ljava/util/List;" .null := D237 (Or.inr (tw hw 114 rfl)) (ty := (.object "java/util/List")) (by decide)
  have F259 : Fld Z h232 a239 "com/example/forward_horizon/forwardhorizon/engine/Event" "releaseNanos" "J" (.long (0 : Int64)) := D237 (Or.inr (tw hw 116 rfl)) (ty := .long) (by decide)
  have F260 : Fld Z h232 a239 "com/example/forward_horizon/forwardhorizon/engine/Event" "lastEndNanos" "Ljava/util/concurrent/atomic/AtomicLong;" .null := D237 (Or.inr (tw hw 128 rfl)) (ty := (.object "java/util/concurrent/atomic/AtomicLong")) (by decide)
  refine Way.by st238 ?_
  show Way _ _ _ _ (T231.setTop (mkF m 54 #[iv p1, iv p2, iv p3, iv p4, .val (.long p5), .second, rv x_bx20, rv x_bx42, rv x_bx65, rv a78, .unset, .unset, .unset, .unset] [(.ref a239)]))
  refine Way.by (fun _ k => XS.dup X233.here hx rfl (hb hby at_54) rfl rfl k) ?_
  show Way _ _ _ _ (T231.setTop (mkF m 55 #[iv p1, iv p2, iv p3, iv p4, .val (.long p5), .second, rv x_bx20, rv x_bx42, rv x_bx65, rv a78, .unset, .unset, .unset, .unset] [(.ref a239), (.ref a239)]))
  refine Way.by (fun _ k => XS.aload X233.here hx rfl (hb hby at_55) rfl rfl k) ?_
  show Way _ _ _ _ (T231.setTop (mkF m 57 #[iv p1, iv p2, iv p3, iv p4, .val (.long p5), .second, rv x_bx20, rv x_bx42, rv x_bx65, rv a78, .unset, .unset, .unset, .unset] [(.ref a78), (.ref a239), (.ref a239)]))
  refine Way.by (fun _ k => XT.lload X233.here hx rfl (hb hby at_57) rfl k) ?_
  show Way _ _ _ _ (T231.setTop (mkF m 59 #[iv p1, iv p2, iv p3, iv p4, .val (.long p5), .second, rv x_bx20, rv x_bx42, rv x_bx65, rv a78, .unset, .unset, .unset, .unset] [(.long p5), (.ref a78), (.ref a239), (.ref a239)]))
  obtain ⟨_, _, ⟨T261, L263, k264, n265⟩, -, X262, ⟨Lc266, hQ267, l268, y269, z270⟩, st271⟩ := X233.specialBack hx (y := (⟨"com/example/forward_horizon/forwardhorizon/engine/Event", "<init>", "(Ljava/util/List;J)V"⟩ : MethodName)) rfl hown (mvT hZ (tw hw 92 rfl)) (mvT hZ (tw hw 93 rfl)) (mvT hZ (tw hw 94 rfl)) (by decide) (backOf (W := 1) (rmT l Z a0 hw [] a239 a78 p5 h232 n0 Z255 A236 F257 F258 F259 F260 nw246) hZ (tw hw 94 rfl) (tw hw 91 rfl) (by decide) (by decide)) (g := (mkF m 59 #[iv p1, iv p2, iv p3, iv p4, .val (.long p5), .second, rv x_bx20, rv x_bx42, rv x_bx65, rv a78, .unset, .unset, .unset, .unset] [(.long p5), (.ref a78), (.ref a239), (.ref a239)])) rfl (by rw [hml]; rfl) (Steps.refl _) (a := a239) (argsL := [(.ref a78), (.long p5)]) (rest := [(.ref a239)]) (lenOf pdT rfl) rfl (leW rfl) (hb hby at_59) (fun _ _ => ⟨rfl, e234, (leB rfl), (leB rfl)⟩)
  dsimp only [Pt.U, Pt.locs, Pt.cells, Pt.slots] at X262 l268 y269 z270 st271 hQ267
  subst l268 y269 z270
  obtain ⟨rfl, N277, K278, F_0279, F_1280⟩ := hQ267
  have N272 := Fr.app N208 N277
  have E281 := E247.keep K278
  have E282 := E248.keep K278
  have E283 := E249.keep K278
  have E284 := E250.keep K278
  have F285 := F251.keep K278 (ninS ne244 nin0)
  have F286 := F252.keep K278 (ninS ne244 nin0)
  have F287 := F253.keep K278 (ninS ne244 nin0)
  have A288 := A254.keep K278 (ninS ne245 nin0)
  have E289 := A236.keep K278
  have Z290 := Nat.le_trans Z255 K278.1
  have O291 := O256.keep K278 (allS nw246 all0)
  refine Way.to st271 ?_
  show Way _ _ _ _ (T261.setTop (mkF m 62 #[iv p1, iv p2, iv p3, iv p4, .val (.long p5), .second, rv x_bx20, rv x_bx42, rv x_bx65, rv a78, .unset, .unset, .unset, .unset] [(.ref a239)]))
  refine Way.by (fun _ k => XS.astore X262.here hx rfl (hb hby at_62) rfl rfl (l' := #[iv p1, iv p2, iv p3, iv p4, .val (.long p5), .second, rv x_bx20, rv x_bx42, rv x_bx65, rv a78, rv a239, .unset, .unset, .unset]) rfl k) ?_
  show Way _ _ _ _ (T261.setTop (mkF m 64 #[iv p1, iv p2, iv p3, iv p4, .val (.long p5), .second, rv x_bx20, rv x_bx42, rv x_bx65, rv a78, rv a239, .unset, .unset, .unset] []))
  refine Way.by (fun _ k => XS.iloadN X262.here hx rfl (hb hby at_64) rfl k) ?_
  show Way _ _ _ _ (T261.setTop (mkF m 65 #[iv p1, iv p2, iv p3, iv p4, .val (.long p5), .second, rv x_bx20, rv x_bx42, rv x_bx65, rv a78, rv a239, .unset, .unset, .unset] [(.int p4)]))
  refine Way.by (Stand.ldcInt X262 hx hown (mvT hZ (tw hw 129 rfl)) rfl (hb hby at_65)) ?_
  show Way _ _ _ _ (T261.setTop (mkF m 67 #[iv p1, iv p2, iv p3, iv p4, .val (.long p5), .second, rv x_bx20, rv x_bx42, rv x_bx65, rv a78, rv a239, .unset, .unset, .unset] [(.int 2147483647), (.int p4)]))
  refine Way.by (fun _ k => XS.iand X262.here hx rfl (hb hby at_67) rfl k) ?_
  show Way _ _ _ _ (T261.setTop (mkF m 68 #[iv p1, iv p2, iv p3, iv p4, .val (.long p5), .second, rv x_bx20, rv x_bx42, rv x_bx65, rv a78, rv a239, .unset, .unset, .unset] [(.int (p4 &&& (2147483647 : Int32)))]))
  refine Way.by (fun _ k => XS.iconst X262.here hx rfl (hb hby at_68) k) ?_
  show Way _ _ _ _ (T261.setTop (mkF m 69 #[iv p1, iv p2, iv p3, iv p4, .val (.long p5), .second, rv x_bx20, rv x_bx42, rv x_bx65, rv a78, rv a239, .unset, .unset, .unset] [(.int 3), (.int (p4 &&& (2147483647 : Int32)))]))
  refine Way.by (fun _ k => iremM X262 hx rfl (hb hby at_69) rfl (by decide) k) ?_
  show Way _ _ _ _ (T261.setTop (mkF m 70 #[iv p1, iv p2, iv p3, iv p4, .val (.long p5), .second, rv x_bx20, rv x_bx42, rv x_bx65, rv a78, rv a239, .unset, .unset, .unset] [(.int ((p4 &&& (2147483647 : Int32)) % (3 : Int32)))]))
  refine Way.by (fun _ k => XS.istore X262.here hx rfl (hb hby at_70) rfl (l' := #[iv p1, iv p2, iv p3, iv p4, .val (.long p5), .second, rv x_bx20, rv x_bx42, rv x_bx65, rv a78, rv a239, iv ((p4 &&& (2147483647 : Int32)) % (3 : Int32)), .unset, .unset]) rfl k) ?_
  show Way _ _ _ _ (T261.setTop (mkF m 72 #[iv p1, iv p2, iv p3, iv p4, .val (.long p5), .second, rv x_bx20, rv x_bx42, rv x_bx65, rv a78, rv a239, iv ((p4 &&& (2147483647 : Int32)) % (3 : Int32)), .unset, .unset] []))
  obtain ⟨k, qk⟩ : ∃ z, z = (p4 &&& (2147483647 : Int32)) % (3 : Int32) := ⟨_, rfl⟩
  rw [← qk]
  have hk : 0 ≤ k.toInt ∧ k.toInt < 3 := by rw [qk]; exact remB p4 3 3 rfl (by decide)
  rcases cases3 hk with rfl | rfl | rfl
  · skip
    show Way _ _ _ _ (T261.setTop (mkF m 72 #[iv p1, iv p2, iv p3, iv p4, .val (.long p5), .second, rv x_bx20, rv x_bx42, rv x_bx65, rv a78, rv a239, iv 0, .unset, .unset] []))
    refine Way.by (fun _ k => XS.iload X262.here hx rfl (hb hby at_72) rfl k) ?_
    show Way _ _ _ _ (T261.setTop (mkF m 74 #[iv p1, iv p2, iv p3, iv p4, .val (.long p5), .second, rv x_bx20, rv x_bx42, rv x_bx65, rv a78, rv a239, iv 0, .unset, .unset] [(.int 0)]))
    have b292 : (0 : Int32) = (0 : Int32) := by decide
    refine Way.by (fun _ k => XS.ifNo X262.here hx rfl (hb hby at_74) rfl ((if0 .ne _).trans (teq b292).2) k) ?_
    show Way _ _ _ _ (T261.setTop (mkF m 77 #[iv p1, iv p2, iv p3, iv p4, .val (.long p5), .second, rv x_bx20, rv x_bx42, rv x_bx65, rv a78, rv a239, iv 0, .unset, .unset] []))
    refine Way.by (fun _ k => XS.aload X262.here hx rfl (hb hby at_77) rfl rfl k) ?_
    show Way _ _ _ _ (T261.setTop (mkF m 79 #[iv p1, iv p2, iv p3, iv p4, .val (.long p5), .second, rv x_bx20, rv x_bx42, rv x_bx65, rv a78, rv a239, iv 0, .unset, .unset] [(.ref x_bx20)]))
    refine Way.by (fun _ k => XS.astore X262.here hx rfl (hb hby at_79) rfl rfl (l' := #[iv p1, iv p2, iv p3, iv p4, .val (.long p5), .second, rv x_bx20, rv x_bx42, rv x_bx65, rv a78, rv a239, iv 0, rv x_bx20, .unset]) rfl k) ?_
    show Way _ _ _ _ (T261.setTop (mkF m 81 #[iv p1, iv p2, iv p3, iv p4, .val (.long p5), .second, rv x_bx20, rv x_bx42, rv x_bx65, rv a78, rv a239, iv 0, rv x_bx20, .unset] []))
    refine Way.by (fun _ k => XS.goto X262.here hx rfl (pc0 := 81) (pc' := 101) rfl (hb hby at_81) (by decide) (by decide) k) ?_
    show Way _ _ _ _ (T261.setTop (mkF m 101 #[iv p1, iv p2, iv p3, iv p4, .val (.long p5), .second, rv x_bx20, rv x_bx42, rv x_bx65, rv a78, rv a239, iv 0, rv x_bx20, .unset] []))
    refine Way.by (fun _ k => XS.aload X262.here hx rfl (hb hby at_101) rfl rfl k) ?_
    show Way _ _ _ _ (T261.setTop (mkF m 103 #[iv p1, iv p2, iv p3, iv p4, .val (.long p5), .second, rv x_bx20, rv x_bx42, rv x_bx65, rv a78, rv a239, iv 0, rv x_bx20, .unset] [(.ref a239)]))
    refine Way.by (fun _ k => XS.iload X262.here hx rfl (hb hby at_103) rfl k) ?_
    show Way _ _ _ _ (T261.setTop (mkF m 105 #[iv p1, iv p2, iv p3, iv p4, .val (.long p5), .second, rv x_bx20, rv x_bx42, rv x_bx65, rv a78, rv a239, iv 0, rv x_bx20, .unset] [(.int 0), (.ref a239)]))
    obtain ⟨cq309, kq310, qa311, qb312, qc313⟩ := isOf hZ rfl F_0279
    obtain ⟨_, _, ⟨T293, L295, k296, n297⟩, -, X294, ⟨Lc298, hQ299, l300, y301, z302⟩, st303⟩ := X262.virtualBack hx (y := (⟨"com/example/forward_horizon/forwardhorizon/engine/Event", "field", "(I)Ljava/lang/String;"⟩ : MethodName)) (z := (⟨"com/example/forward_horizon/forwardhorizon/engine/Event", "field", "(I)Ljava/lang/String;"⟩ : MethodName)) hown (mvT hZ (tw hw 130 rfl)) (mvT hZ (tw hw 131 rfl)) (notFace_of_selects (args := #[]) (mvT hZ (tw hw 133 rfl))) (mvT hZ (tw hw 133 rfl)) (mvT hZ (tw hw 132 rfl)) (by decide) (backOf (W := 0) (rmEF0 l Z a0 hw [] a239 a78 x_pe151 x_kk150 x_bx20 x_bx42 x_bx65 T261.heap n0 Z290 E284 F285 A288 F286 F_1280 E281) hZ (tw hw 134 rfl) (tw hw 91 rfl) (by decide) (by decide)) qa311 qc313 (g := (mkF m 105 #[iv p1, iv p2, iv p3, iv p4, .val (.long p5), .second, rv x_bx20, rv x_bx42, rv x_bx65, rv a78, rv a239, iv 0, rv x_bx20, .unset] [(.int 0), (.ref a239)])) rfl (by rw [hml]; rfl) (Steps.refl _) (argsL := [(.int 0)]) (rest := []) (lenOf pdW rfl) rfl (leW rfl) (hb hby at_105) (fun _ _ => ⟨rfl, rfl, (leB rfl), (leB rfl)⟩)
    dsimp only [Pt.U, Pt.locs, Pt.cells, Pt.slots] at X294 l300 y301 z302 st303 hQ299
    subst l300 y301 z302
    obtain ⟨rfl, N314, e305⟩ := hQ299
    have N304 := Fr.app N272 N314
    refine Way.to st303 ?_
    show Way _ _ _ _ (T293.setTop (mkF m 108 #[iv p1, iv p2, iv p3, iv p4, .val (.long p5), .second, rv x_bx20, rv x_bx42, rv x_bx65, rv a78, rv a239, iv 0, rv x_bx20, .unset] [(.ref x_bx20)]))
    refine Way.by (fun _ k => XS.astore X294.here hx rfl (hb hby at_108) rfl rfl (l' := #[iv p1, iv p2, iv p3, iv p4, .val (.long p5), .second, rv x_bx20, rv x_bx42, rv x_bx65, rv a78, rv a239, iv 0, rv x_bx20, rv x_bx20]) rfl k) ?_
    show Way _ _ _ _ (T293.setTop (mkF m 110 #[iv p1, iv p2, iv p3, iv p4, .val (.long p5), .second, rv x_bx20, rv x_bx42, rv x_bx65, rv a78, rv a239, iv 0, rv x_bx20, rv x_bx20] []))
    refine Way.by (fun _ k => XS.aload X294.here hx rfl (hb hby at_110) rfl rfl k) ?_
    show Way _ _ _ _ (T293.setTop (mkF m 112 #[iv p1, iv p2, iv p3, iv p4, .val (.long p5), .second, rv x_bx20, rv x_bx42, rv x_bx65, rv a78, rv a239, iv 0, rv x_bx20, rv x_bx20] [(.ref x_bx20)]))
    refine Way.by (fun _ k => XS.aload X294.here hx rfl (hb hby at_112) rfl rfl k) ?_
    show Way _ _ _ _ (T293.setTop (mkF m 114 #[iv p1, iv p2, iv p3, iv p4, .val (.long p5), .second, rv x_bx20, rv x_bx42, rv x_bx65, rv a78, rv a239, iv 0, rv x_bx20, rv x_bx20] [(.ref x_bx20), (.ref x_bx20)]))
    obtain ⟨cq332, kq333, qa334, qb335, qc336⟩ := isOf hZ e305 E281
    obtain ⟨_, _, ⟨T316, L318, k319, n320⟩, -, X317, ⟨Lc321, hQ322, l323, y324, z325⟩, st326⟩ := X294.virtualBack hx (y := (⟨"java/lang/String", "equals", "(Ljava/lang/Object;)Z"⟩ : MethodName)) (z := (⟨"java/lang/String", "equals", "(Ljava/lang/Object;)Z"⟩ : MethodName)) hown (mvT hZ (tw hw 158 rfl)) (mvT hZ (tw hw 159 rfl)) (notFace_of_selects (args := #[]) (mvT hZ (tw hw 161 rfl))) (mvT hZ (tw hw 161 rfl)) (mvT hZ (tw hw 160 rfl)) (by decide) (backOf (W := 0) (rmEQ l Z a0 hw [] x_bx20 T261.heap n0 Z290 ) hZ (tw hw 162 rfl) (tw hw 7 rfl) (by decide) (by decide)) qa334 qc336 (g := (mkF m 114 #[iv p1, iv p2, iv p3, iv p4, .val (.long p5), .second, rv x_bx20, rv x_bx42, rv x_bx65, rv a78, rv a239, iv 0, rv x_bx20, rv x_bx20] [(.ref x_bx20), (.ref x_bx20)])) rfl (by rw [hml]; rfl) (Steps.refl _) (argsL := [(.ref x_bx20)]) (rest := []) (lenOf pdAD0 rfl) rfl (leW rfl) (hb hby at_114) (fun _ _ => ⟨rfl, e305, (leB rfl), (leB rfl)⟩)
    dsimp only [Pt.U, Pt.locs, Pt.cells, Pt.slots] at X317 l323 y324 z325 st326 hQ322
    subst l323 y324 z325
    obtain ⟨rfl, N337, e328⟩ := hQ322
    have N327 := Fr.app N304 N337
    refine Way.to st326 ?_
    show Way _ _ _ _ (T316.setTop (mkF m 117 #[iv p1, iv p2, iv p3, iv p4, .val (.long p5), .second, rv x_bx20, rv x_bx42, rv x_bx65, rv a78, rv a239, iv 0, rv x_bx20, rv x_bx20] [(.int 1)]))
    refine Way.ret (v := (some (.int (nar .boolean (1 : Int32))))) X317 hlk (fun h => by rw [Bd.returns] at h; cases h) (fun fs hr => retN X317 hx (t := .boolean) Bd.returns (by simp) (hb hby at_117) hr) ?_ (by decide) (by decide)
    show Q0 n0 _ T316.heap _
    rw [e328]
    exact ⟨rfl, N327⟩
  · skip
    show Way _ _ _ _ (T261.setTop (mkF m 72 #[iv p1, iv p2, iv p3, iv p4, .val (.long p5), .second, rv x_bx20, rv x_bx42, rv x_bx65, rv a78, rv a239, iv 1, .unset, .unset] []))
    refine Way.by (fun _ k => XS.iload X262.here hx rfl (hb hby at_72) rfl k) ?_
    show Way _ _ _ _ (T261.setTop (mkF m 74 #[iv p1, iv p2, iv p3, iv p4, .val (.long p5), .second, rv x_bx20, rv x_bx42, rv x_bx65, rv a78, rv a239, iv 1, .unset, .unset] [(.int 1)]))
    have b339 : ¬ (1 : Int32) = (0 : Int32) := by decide
    refine Way.by (fun _ k => XS.ifYes X262.here hx rfl (pc0 := 74) (pc' := 84) rfl (hb hby at_74) rfl ((if0 .ne _).trans (feq b339).2) (by decide) (by decide) k) ?_
    show Way _ _ _ _ (T261.setTop (mkF m 84 #[iv p1, iv p2, iv p3, iv p4, .val (.long p5), .second, rv x_bx20, rv x_bx42, rv x_bx65, rv a78, rv a239, iv 1, .unset, .unset] []))
    refine Way.by (fun _ k => XS.iload X262.here hx rfl (hb hby at_84) rfl k) ?_
    show Way _ _ _ _ (T261.setTop (mkF m 86 #[iv p1, iv p2, iv p3, iv p4, .val (.long p5), .second, rv x_bx20, rv x_bx42, rv x_bx65, rv a78, rv a239, iv 1, .unset, .unset] [(.int 1)]))
    refine Way.by (fun _ k => XS.iconst X262.here hx rfl (hb hby at_86) k) ?_
    show Way _ _ _ _ (T261.setTop (mkF m 87 #[iv p1, iv p2, iv p3, iv p4, .val (.long p5), .second, rv x_bx20, rv x_bx42, rv x_bx65, rv a78, rv a239, iv 1, .unset, .unset] [(.int 1), (.int 1)]))
    have b340 : (1 : Int32) = (1 : Int32) := by decide
    refine Way.by (fun _ k => XS.icmpNo X262.here hx rfl (hb hby at_87) rfl (teq b340).2 k) ?_
    show Way _ _ _ _ (T261.setTop (mkF m 90 #[iv p1, iv p2, iv p3, iv p4, .val (.long p5), .second, rv x_bx20, rv x_bx42, rv x_bx65, rv a78, rv a239, iv 1, .unset, .unset] []))
    refine Way.by (fun _ k => XS.aload X262.here hx rfl (hb hby at_90) rfl rfl k) ?_
    show Way _ _ _ _ (T261.setTop (mkF m 92 #[iv p1, iv p2, iv p3, iv p4, .val (.long p5), .second, rv x_bx20, rv x_bx42, rv x_bx65, rv a78, rv a239, iv 1, .unset, .unset] [(.ref x_bx42)]))
    refine Way.by (fun _ k => XS.astore X262.here hx rfl (hb hby at_92) rfl rfl (l' := #[iv p1, iv p2, iv p3, iv p4, .val (.long p5), .second, rv x_bx20, rv x_bx42, rv x_bx65, rv a78, rv a239, iv 1, rv x_bx42, .unset]) rfl k) ?_
    show Way _ _ _ _ (T261.setTop (mkF m 94 #[iv p1, iv p2, iv p3, iv p4, .val (.long p5), .second, rv x_bx20, rv x_bx42, rv x_bx65, rv a78, rv a239, iv 1, rv x_bx42, .unset] []))
    refine Way.by (fun _ k => XS.goto X262.here hx rfl (pc0 := 94) (pc' := 101) rfl (hb hby at_94) (by decide) (by decide) k) ?_
    show Way _ _ _ _ (T261.setTop (mkF m 101 #[iv p1, iv p2, iv p3, iv p4, .val (.long p5), .second, rv x_bx20, rv x_bx42, rv x_bx65, rv a78, rv a239, iv 1, rv x_bx42, .unset] []))
    refine Way.by (fun _ k => XS.aload X262.here hx rfl (hb hby at_101) rfl rfl k) ?_
    show Way _ _ _ _ (T261.setTop (mkF m 103 #[iv p1, iv p2, iv p3, iv p4, .val (.long p5), .second, rv x_bx20, rv x_bx42, rv x_bx65, rv a78, rv a239, iv 1, rv x_bx42, .unset] [(.ref a239)]))
    refine Way.by (fun _ k => XS.iload X262.here hx rfl (hb hby at_103) rfl k) ?_
    show Way _ _ _ _ (T261.setTop (mkF m 105 #[iv p1, iv p2, iv p3, iv p4, .val (.long p5), .second, rv x_bx20, rv x_bx42, rv x_bx65, rv a78, rv a239, iv 1, rv x_bx42, .unset] [(.int 1), (.ref a239)]))
    obtain ⟨cq357, kq358, qa359, qb360, qc361⟩ := isOf hZ rfl F_0279
    obtain ⟨_, _, ⟨T341, L343, k344, n345⟩, -, X342, ⟨Lc346, hQ347, l348, y349, z350⟩, st351⟩ := X262.virtualBack hx (y := (⟨"com/example/forward_horizon/forwardhorizon/engine/Event", "field", "(I)Ljava/lang/String;"⟩ : MethodName)) (z := (⟨"com/example/forward_horizon/forwardhorizon/engine/Event", "field", "(I)Ljava/lang/String;"⟩ : MethodName)) hown (mvT hZ (tw hw 130 rfl)) (mvT hZ (tw hw 131 rfl)) (notFace_of_selects (args := #[]) (mvT hZ (tw hw 133 rfl))) (mvT hZ (tw hw 133 rfl)) (mvT hZ (tw hw 132 rfl)) (by decide) (backOf (W := 0) (rmEF1 l Z a0 hw [] a239 a78 x_pe151 x_kk150 x_bx20 x_bx42 x_bx65 T261.heap n0 Z290 E284 F285 A288 F286 F_1280 E282) hZ (tw hw 134 rfl) (tw hw 91 rfl) (by decide) (by decide)) qa359 qc361 (g := (mkF m 105 #[iv p1, iv p2, iv p3, iv p4, .val (.long p5), .second, rv x_bx20, rv x_bx42, rv x_bx65, rv a78, rv a239, iv 1, rv x_bx42, .unset] [(.int 1), (.ref a239)])) rfl (by rw [hml]; rfl) (Steps.refl _) (argsL := [(.int 1)]) (rest := []) (lenOf pdW rfl) rfl (leW rfl) (hb hby at_105) (fun _ _ => ⟨rfl, rfl, (leB rfl), (leB rfl)⟩)
    dsimp only [Pt.U, Pt.locs, Pt.cells, Pt.slots] at X342 l348 y349 z350 st351 hQ347
    subst l348 y349 z350
    obtain ⟨rfl, N362, e353⟩ := hQ347
    have N352 := Fr.app N272 N362
    refine Way.to st351 ?_
    show Way _ _ _ _ (T341.setTop (mkF m 108 #[iv p1, iv p2, iv p3, iv p4, .val (.long p5), .second, rv x_bx20, rv x_bx42, rv x_bx65, rv a78, rv a239, iv 1, rv x_bx42, .unset] [(.ref x_bx42)]))
    refine Way.by (fun _ k => XS.astore X342.here hx rfl (hb hby at_108) rfl rfl (l' := #[iv p1, iv p2, iv p3, iv p4, .val (.long p5), .second, rv x_bx20, rv x_bx42, rv x_bx65, rv a78, rv a239, iv 1, rv x_bx42, rv x_bx42]) rfl k) ?_
    show Way _ _ _ _ (T341.setTop (mkF m 110 #[iv p1, iv p2, iv p3, iv p4, .val (.long p5), .second, rv x_bx20, rv x_bx42, rv x_bx65, rv a78, rv a239, iv 1, rv x_bx42, rv x_bx42] []))
    refine Way.by (fun _ k => XS.aload X342.here hx rfl (hb hby at_110) rfl rfl k) ?_
    show Way _ _ _ _ (T341.setTop (mkF m 112 #[iv p1, iv p2, iv p3, iv p4, .val (.long p5), .second, rv x_bx20, rv x_bx42, rv x_bx65, rv a78, rv a239, iv 1, rv x_bx42, rv x_bx42] [(.ref x_bx42)]))
    refine Way.by (fun _ k => XS.aload X342.here hx rfl (hb hby at_112) rfl rfl k) ?_
    show Way _ _ _ _ (T341.setTop (mkF m 114 #[iv p1, iv p2, iv p3, iv p4, .val (.long p5), .second, rv x_bx20, rv x_bx42, rv x_bx65, rv a78, rv a239, iv 1, rv x_bx42, rv x_bx42] [(.ref x_bx42), (.ref x_bx42)]))
    obtain ⟨cq380, kq381, qa382, qb383, qc384⟩ := isOf hZ e353 E282
    obtain ⟨_, _, ⟨T364, L366, k367, n368⟩, -, X365, ⟨Lc369, hQ370, l371, y372, z373⟩, st374⟩ := X342.virtualBack hx (y := (⟨"java/lang/String", "equals", "(Ljava/lang/Object;)Z"⟩ : MethodName)) (z := (⟨"java/lang/String", "equals", "(Ljava/lang/Object;)Z"⟩ : MethodName)) hown (mvT hZ (tw hw 158 rfl)) (mvT hZ (tw hw 159 rfl)) (notFace_of_selects (args := #[]) (mvT hZ (tw hw 161 rfl))) (mvT hZ (tw hw 161 rfl)) (mvT hZ (tw hw 160 rfl)) (by decide) (backOf (W := 0) (rmEQ l Z a0 hw [] x_bx42 T261.heap n0 Z290 ) hZ (tw hw 162 rfl) (tw hw 7 rfl) (by decide) (by decide)) qa382 qc384 (g := (mkF m 114 #[iv p1, iv p2, iv p3, iv p4, .val (.long p5), .second, rv x_bx20, rv x_bx42, rv x_bx65, rv a78, rv a239, iv 1, rv x_bx42, rv x_bx42] [(.ref x_bx42), (.ref x_bx42)])) rfl (by rw [hml]; rfl) (Steps.refl _) (argsL := [(.ref x_bx42)]) (rest := []) (lenOf pdAD0 rfl) rfl (leW rfl) (hb hby at_114) (fun _ _ => ⟨rfl, e353, (leB rfl), (leB rfl)⟩)
    dsimp only [Pt.U, Pt.locs, Pt.cells, Pt.slots] at X365 l371 y372 z373 st374 hQ370
    subst l371 y372 z373
    obtain ⟨rfl, N385, e376⟩ := hQ370
    have N375 := Fr.app N352 N385
    refine Way.to st374 ?_
    show Way _ _ _ _ (T364.setTop (mkF m 117 #[iv p1, iv p2, iv p3, iv p4, .val (.long p5), .second, rv x_bx20, rv x_bx42, rv x_bx65, rv a78, rv a239, iv 1, rv x_bx42, rv x_bx42] [(.int 1)]))
    refine Way.ret (v := (some (.int (nar .boolean (1 : Int32))))) X365 hlk (fun h => by rw [Bd.returns] at h; cases h) (fun fs hr => retN X365 hx (t := .boolean) Bd.returns (by simp) (hb hby at_117) hr) ?_ (by decide) (by decide)
    show Q0 n0 _ T364.heap _
    rw [e376]
    exact ⟨rfl, N375⟩
  · skip
    show Way _ _ _ _ (T261.setTop (mkF m 72 #[iv p1, iv p2, iv p3, iv p4, .val (.long p5), .second, rv x_bx20, rv x_bx42, rv x_bx65, rv a78, rv a239, iv 2, .unset, .unset] []))
    refine Way.by (fun _ k => XS.iload X262.here hx rfl (hb hby at_72) rfl k) ?_
    show Way _ _ _ _ (T261.setTop (mkF m 74 #[iv p1, iv p2, iv p3, iv p4, .val (.long p5), .second, rv x_bx20, rv x_bx42, rv x_bx65, rv a78, rv a239, iv 2, .unset, .unset] [(.int 2)]))
    have b387 : ¬ (2 : Int32) = (0 : Int32) := by decide
    refine Way.by (fun _ k => XS.ifYes X262.here hx rfl (pc0 := 74) (pc' := 84) rfl (hb hby at_74) rfl ((if0 .ne _).trans (feq b387).2) (by decide) (by decide) k) ?_
    show Way _ _ _ _ (T261.setTop (mkF m 84 #[iv p1, iv p2, iv p3, iv p4, .val (.long p5), .second, rv x_bx20, rv x_bx42, rv x_bx65, rv a78, rv a239, iv 2, .unset, .unset] []))
    refine Way.by (fun _ k => XS.iload X262.here hx rfl (hb hby at_84) rfl k) ?_
    show Way _ _ _ _ (T261.setTop (mkF m 86 #[iv p1, iv p2, iv p3, iv p4, .val (.long p5), .second, rv x_bx20, rv x_bx42, rv x_bx65, rv a78, rv a239, iv 2, .unset, .unset] [(.int 2)]))
    refine Way.by (fun _ k => XS.iconst X262.here hx rfl (hb hby at_86) k) ?_
    show Way _ _ _ _ (T261.setTop (mkF m 87 #[iv p1, iv p2, iv p3, iv p4, .val (.long p5), .second, rv x_bx20, rv x_bx42, rv x_bx65, rv a78, rv a239, iv 2, .unset, .unset] [(.int 1), (.int 2)]))
    have b388 : ¬ (2 : Int32) = (1 : Int32) := by decide
    refine Way.by (fun _ k => XS.icmpYes X262.here hx rfl (pc0 := 87) (pc' := 97) rfl (hb hby at_87) rfl (feq b388).2 (by decide) (by decide) k) ?_
    show Way _ _ _ _ (T261.setTop (mkF m 97 #[iv p1, iv p2, iv p3, iv p4, .val (.long p5), .second, rv x_bx20, rv x_bx42, rv x_bx65, rv a78, rv a239, iv 2, .unset, .unset] []))
    refine Way.by (fun _ k => XS.aload X262.here hx rfl (hb hby at_97) rfl rfl k) ?_
    show Way _ _ _ _ (T261.setTop (mkF m 99 #[iv p1, iv p2, iv p3, iv p4, .val (.long p5), .second, rv x_bx20, rv x_bx42, rv x_bx65, rv a78, rv a239, iv 2, .unset, .unset] [(.ref x_bx65)]))
    refine Way.by (fun _ k => XS.astore X262.here hx rfl (hb hby at_99) rfl rfl (l' := #[iv p1, iv p2, iv p3, iv p4, .val (.long p5), .second, rv x_bx20, rv x_bx42, rv x_bx65, rv a78, rv a239, iv 2, rv x_bx65, .unset]) rfl k) ?_
    show Way _ _ _ _ (T261.setTop (mkF m 101 #[iv p1, iv p2, iv p3, iv p4, .val (.long p5), .second, rv x_bx20, rv x_bx42, rv x_bx65, rv a78, rv a239, iv 2, rv x_bx65, .unset] []))
    refine Way.by (fun _ k => XS.aload X262.here hx rfl (hb hby at_101) rfl rfl k) ?_
    show Way _ _ _ _ (T261.setTop (mkF m 103 #[iv p1, iv p2, iv p3, iv p4, .val (.long p5), .second, rv x_bx20, rv x_bx42, rv x_bx65, rv a78, rv a239, iv 2, rv x_bx65, .unset] [(.ref a239)]))
    refine Way.by (fun _ k => XS.iload X262.here hx rfl (hb hby at_103) rfl k) ?_
    show Way _ _ _ _ (T261.setTop (mkF m 105 #[iv p1, iv p2, iv p3, iv p4, .val (.long p5), .second, rv x_bx20, rv x_bx42, rv x_bx65, rv a78, rv a239, iv 2, rv x_bx65, .unset] [(.int 2), (.ref a239)]))
    obtain ⟨cq405, kq406, qa407, qb408, qc409⟩ := isOf hZ rfl F_0279
    obtain ⟨_, _, ⟨T389, L391, k392, n393⟩, -, X390, ⟨Lc394, hQ395, l396, y397, z398⟩, st399⟩ := X262.virtualBack hx (y := (⟨"com/example/forward_horizon/forwardhorizon/engine/Event", "field", "(I)Ljava/lang/String;"⟩ : MethodName)) (z := (⟨"com/example/forward_horizon/forwardhorizon/engine/Event", "field", "(I)Ljava/lang/String;"⟩ : MethodName)) hown (mvT hZ (tw hw 130 rfl)) (mvT hZ (tw hw 131 rfl)) (notFace_of_selects (args := #[]) (mvT hZ (tw hw 133 rfl))) (mvT hZ (tw hw 133 rfl)) (mvT hZ (tw hw 132 rfl)) (by decide) (backOf (W := 0) (rmEF2 l Z a0 hw [] a239 a78 x_pe151 x_kk150 x_bx20 x_bx42 x_bx65 T261.heap n0 Z290 E284 F285 A288 F286 F_1280 E283) hZ (tw hw 134 rfl) (tw hw 91 rfl) (by decide) (by decide)) qa407 qc409 (g := (mkF m 105 #[iv p1, iv p2, iv p3, iv p4, .val (.long p5), .second, rv x_bx20, rv x_bx42, rv x_bx65, rv a78, rv a239, iv 2, rv x_bx65, .unset] [(.int 2), (.ref a239)])) rfl (by rw [hml]; rfl) (Steps.refl _) (argsL := [(.int 2)]) (rest := []) (lenOf pdW rfl) rfl (leW rfl) (hb hby at_105) (fun _ _ => ⟨rfl, rfl, (leB rfl), (leB rfl)⟩)
    dsimp only [Pt.U, Pt.locs, Pt.cells, Pt.slots] at X390 l396 y397 z398 st399 hQ395
    subst l396 y397 z398
    obtain ⟨rfl, N410, e401⟩ := hQ395
    have N400 := Fr.app N272 N410
    refine Way.to st399 ?_
    show Way _ _ _ _ (T389.setTop (mkF m 108 #[iv p1, iv p2, iv p3, iv p4, .val (.long p5), .second, rv x_bx20, rv x_bx42, rv x_bx65, rv a78, rv a239, iv 2, rv x_bx65, .unset] [(.ref x_bx65)]))
    refine Way.by (fun _ k => XS.astore X390.here hx rfl (hb hby at_108) rfl rfl (l' := #[iv p1, iv p2, iv p3, iv p4, .val (.long p5), .second, rv x_bx20, rv x_bx42, rv x_bx65, rv a78, rv a239, iv 2, rv x_bx65, rv x_bx65]) rfl k) ?_
    show Way _ _ _ _ (T389.setTop (mkF m 110 #[iv p1, iv p2, iv p3, iv p4, .val (.long p5), .second, rv x_bx20, rv x_bx42, rv x_bx65, rv a78, rv a239, iv 2, rv x_bx65, rv x_bx65] []))
    refine Way.by (fun _ k => XS.aload X390.here hx rfl (hb hby at_110) rfl rfl k) ?_
    show Way _ _ _ _ (T389.setTop (mkF m 112 #[iv p1, iv p2, iv p3, iv p4, .val (.long p5), .second, rv x_bx20, rv x_bx42, rv x_bx65, rv a78, rv a239, iv 2, rv x_bx65, rv x_bx65] [(.ref x_bx65)]))
    refine Way.by (fun _ k => XS.aload X390.here hx rfl (hb hby at_112) rfl rfl k) ?_
    show Way _ _ _ _ (T389.setTop (mkF m 114 #[iv p1, iv p2, iv p3, iv p4, .val (.long p5), .second, rv x_bx20, rv x_bx42, rv x_bx65, rv a78, rv a239, iv 2, rv x_bx65, rv x_bx65] [(.ref x_bx65), (.ref x_bx65)]))
    obtain ⟨cq428, kq429, qa430, qb431, qc432⟩ := isOf hZ e401 E283
    obtain ⟨_, _, ⟨T412, L414, k415, n416⟩, -, X413, ⟨Lc417, hQ418, l419, y420, z421⟩, st422⟩ := X390.virtualBack hx (y := (⟨"java/lang/String", "equals", "(Ljava/lang/Object;)Z"⟩ : MethodName)) (z := (⟨"java/lang/String", "equals", "(Ljava/lang/Object;)Z"⟩ : MethodName)) hown (mvT hZ (tw hw 158 rfl)) (mvT hZ (tw hw 159 rfl)) (notFace_of_selects (args := #[]) (mvT hZ (tw hw 161 rfl))) (mvT hZ (tw hw 161 rfl)) (mvT hZ (tw hw 160 rfl)) (by decide) (backOf (W := 0) (rmEQ l Z a0 hw [] x_bx65 T261.heap n0 Z290 ) hZ (tw hw 162 rfl) (tw hw 7 rfl) (by decide) (by decide)) qa430 qc432 (g := (mkF m 114 #[iv p1, iv p2, iv p3, iv p4, .val (.long p5), .second, rv x_bx20, rv x_bx42, rv x_bx65, rv a78, rv a239, iv 2, rv x_bx65, rv x_bx65] [(.ref x_bx65), (.ref x_bx65)])) rfl (by rw [hml]; rfl) (Steps.refl _) (argsL := [(.ref x_bx65)]) (rest := []) (lenOf pdAD0 rfl) rfl (leW rfl) (hb hby at_114) (fun _ _ => ⟨rfl, e401, (leB rfl), (leB rfl)⟩)
    dsimp only [Pt.U, Pt.locs, Pt.cells, Pt.slots] at X413 l419 y420 z421 st422 hQ418
    subst l419 y420 z421
    obtain ⟨rfl, N433, e424⟩ := hQ418
    have N423 := Fr.app N400 N433
    refine Way.to st422 ?_
    show Way _ _ _ _ (T412.setTop (mkF m 117 #[iv p1, iv p2, iv p3, iv p4, .val (.long p5), .second, rv x_bx20, rv x_bx42, rv x_bx65, rv a78, rv a239, iv 2, rv x_bx65, rv x_bx65] [(.int 1)]))
    refine Way.ret (v := (some (.int (nar .boolean (1 : Int32))))) X413 hlk (fun h => by rw [Bd.returns] at h; cases h) (fun fs hr => retN X413 hx (t := .boolean) Bd.returns (by simp) (hb hby at_117) hr) ?_ (by decide) (by decide)
    show Q0 n0 _ T412.heap _
    rw [e424]
    exact ⟨rfl, N423⟩
set_option maxRecDepth 65536 in
set_option maxHeartbeats 40000000 in
theorem comes_1 {Post : Tables → Env → Array Value → State → Outcome → State → Prop} (hpost : ∀ tb e args s v u, (limb_1_1.after args s (.returned v) u = true ∧ limb_1_2.after args s (.returned v) u = true ∧ True) → FrameEnd s (.returned v) u (Jvm.fieldLocs frame_1_writes args s ++ Jvm.arrayLocs frame_1_arrays args s ++ Jvm.staticLocs frame_1_statics s) 40 192 → Post tb e args s (.returned v) u) :
    ArmFor flags0 classFile x code maxLocals ret World_1 tables_1 room_1 Calls_1 rest_1 Pre_1 Post := by
  intro l hfl _ _ p e ha hc hk s m args below hf hA hF happ hP
  obtain ⟨hcalls, hrest, hpre⟩ := hP
  obtain ⟨-, -, -, hnamed, -, -, -, hat⟩ := (Spec.applies_iff hf).mp happ
  obtain ⟨hg, hn⟩ := and_e (Cond.before_iff.mp (show (Jvm.Cond.and given_1 narrow_1).before args s = true from hpre))
  obtain ⟨hg0, hgr0⟩ := and_e hg
  obtain ⟨hg1, hgr1⟩ := and_e hgr0
  obtain ⟨hg2, hgr2⟩ := and_e hgr1
  obtain ⟨hg3, hgr3⟩ := and_e hgr2
  obtain ⟨hg4, hgr4⟩ := and_e hgr3
  obtain ⟨w0, w1, w2, w3, w4, rfl⟩ : ∃ w0 w1 w2 w3 w4 : Value, args = #[w0, w1, w2, w3, w4] := by
    have hs : args.size = 5 := by simpa [Cond.value, given_1] using hg0
    obtain ⟨L⟩ := args
    match L, hs with
    | [w0, w1, w2, w3, w4], _ => exact ⟨w0, w1, w2, w3, w4, rfl⟩
  have hw := fun d (hd : d ∈ tables_1) => atoms_spec (ws := Jvm.Cond.code x code maxLocals ret :: tables_1) hat d (List.mem_cons_of_mem _ hd)
  have hfit : Fit s := fun {y c} hc i hi => by
    obtain ⟨ha, rfl⟩ := Array.getElem?_eq_some_iff.mp hc
    have q := List.all_eq_true.mp ((Array.all_eq_true_iff_forall_mem.mp hF) _ (Array.getElem_mem ha)) i (List.mem_range.mpr hi)
    simpa [Array.getElem?_eq_getElem hi] using q
  obtain ⟨i0, ei0⟩ := is_v hg1
  obtain rfl : w0 = (.int i0) := Option.some.inj ei0
  obtain ⟨i1, ei1⟩ := is_v hg2
  obtain rfl : w1 = (.int i1) := Option.some.inj ei1
  obtain ⟨i2, ei2⟩ := is_v hg3
  obtain rfl : w2 = (.int i2) := Option.some.inj ei2
  obtain ⟨i3, ei3⟩ := is_v hg4
  obtain rfl : w3 = (.int i3) := Option.some.inj ei3
  obtain ⟨i4, ei4⟩ := isL_v hgr4
  obtain rfl : w4 = (.long i4) := Option.some.inj ei4
  have hs := atoms_of jdkStatics_1 (show (jdkStatics_1.foldr Jvm.Cond.and restOwn_1).before _ s = true from hrest)
  have SV : own_Env s := by
    refine ⟨?_, ?_⟩
    · obtain ⟨G1, ev⟩ := is_v (Cond.before_iff.mp (hs.1 _ (List.mem_of_getElem? (i := 1) rfl)))
      exact ⟨G1, Sta.start ev (Or.inl (hs.1 _ (List.mem_of_getElem? (i := 0) rfl))), envNe ev (hs.1 _ (List.mem_of_getElem? (i := 2) rfl))⟩
    · obtain ⟨G3, ev, rG⟩ := envRef (hs.1 _ (List.mem_of_getElem? (i := 8) rfl))
      exact ⟨G3, Sta.start ev (Or.inl (hs.1 _ (List.mem_of_getElem? (i := 7) rfl))), rG⟩

  obtain ⟨pd, dcl, SDE, ADE, NDE⟩ := arrSta (Or.inr ⟨(tw hw 36 rfl), (hs.1 _ (List.mem_of_getElem? (i := 11) rfl))⟩) (hs.1 _ (List.mem_of_getElem? (i := 16) rfl)) (hs.1 _ (List.mem_of_getElem? (i := 15) rfl)) (hs.1 _ (List.mem_of_getElem? (i := 17) rfl))
  obtain ⟨n, o, h1, h2, h3, _, L, rfl, ⟨rfl, N⟩, hq⟩ := rm0 l s _ hw tables_1 i0 i1 i2 i3 i4 pd dcl s.heap s.heap.size (Nat.le_refl _) (Old.start s) SV SDE ADE NDE p e ha hc hk s m _ below hf ((Spec.applies_iff_loose hf).mp happ).1 ⟨rfl, State.Warmed39.refl s, rfl⟩ trivial
  refine ⟨n, _, h1, h2, h3, hpost _ _ _ _ _ _ ⟨Cond.after_iff.mpr rfl, Cond.after_iff.mpr (eq_i res_at (Term.int_eval (1)) rfl), trivial⟩ ⟨hq.1, hq.2.1, (hq.2.2.sift fun y hy => Or.inr (N y hy)).mono (by decide) (by decide)⟩⟩
theorem main_1_1 : Claimed_1_1 := comes_1 fun _ _ _ _ _ _ h hF => ⟨h.1, hF⟩
theorem main_1_2 : Claimed_1_2 := comes_1 fun _ _ _ _ _ _ h hF => ⟨h.2.1, hF⟩
end Jvm.Pilot.@@N@@
namespace Jvm.Pilot.@@N@@
open Jvm Jvm.ClassFile Sem Op Lib Jvm.Free Jvm.Stand Jvm.Pilot.@@N@@.Jvm.D
/-! MADE BY PROGRAM (witnessworld.py) out of the Statement's table words and the real class files: 34 classes; the members and pool entries that the words name. The judged class is class 1, her method 2. -/
namespace start1
open Jvm.ClassFile
def u (s : String) : CpInfo := .utf8 (stringToUtf16 s)
/-- a pool by its gaps: so many unusable entries, then the entry; so many at the end -/
def gap : Nat → List CpInfo → List CpInfo
  | 0, r => r
  | n + 1, r => .unusable :: gap n r
def poolList (es : List (Nat × CpInfo)) (last : Nat) : List CpInfo := es.foldr (fun e r => gap e.1 (e.2 :: r)) (gap last [])
def pool (es : List (Nat × CpInfo)) (last : Nat) : Array CpInfo := ⟨poolList es last⟩
def fileOf (pool : Array CpInfo) (this : Nat) (attrs : Array Attribute := #[]) (ms : Array MethodInfo := #[]) (fl : Nat := 33) (sup : Nat := 0) (ifs : Array Nat := #[]) (fds : Array FieldInfo := #[]) : ClassFile where
  minorVersion := 0
  majorVersion := 65
  constantPool := pool
  accessFlags := fl
  thisClass := this
  superClass := sup
  interfaces := ifs
  fields := fds
  methods := ms
  attributes := attrs
def plain (name : String) (sup : Option ClassId) : Class where
  name := name
  kind := .ordinary
  loader := none
  accessFlags := 33
  super := sup
  interfaces := #[]
  cf := none
  fields := #[]
  methods := #[]
  instanceTypes := #[]
  staticTypes := #[]
  resolved := #[]
  callSites := []
  init := .initialized
  statics := none
  mirror := none

def pool0 : Array CpInfo := pool [(5, u "<init>"), (0, u "()V"), (1, .class_ 10), (1, u "java/lang/Object")] 113

def k0c0 : Code := { maxStack := 0, maxLocals := 1, code := object_method_1_code, exceptionTable := #[], attributes := #[] }
def k0m0 : Method := { name := "<init>", desc := "()V", sig := { parameters := [], returnType := none }, accessFlags := 1, code := some k0c0 }
/-- java/lang/Object -/
def k0 : Class := { plain "java/lang/Object" none with
  accessFlags := 33
  interfaces := #[]
  cf := some (fileOf pool0 8 #[] #[{ accessFlags := 1, nameIndex := 5, descriptorIndex := 6, attributes := #[] }] 33 0 #[] #[])
  fields := #[]
  methods := #[k0m0]
  instanceTypes := #[]
  staticTypes := #[]
  resolved := Array.replicate 124 none
  statics := none }

def pool1 : Array CpInfo := pool [(2, .class_ 4), (0, .nameAndType 5 6), (0, u "java/lang/Object"), (0, u "<init>"), (0, u "()V"), (0, .class_ 8), (0, u "java/lang/String"), (0, .methodref 7 10), (0, .nameAndType 5 11), (0, u "([C)V"), (0, .methodref 13 14), (0, .class_ 15), (0, .nameAndType 16 17), (0, u "com/example/forward_horizon/forwardhorizon/engine/EventFieldPinLaw"), (0, u "two"), (0, u "(I)Ljava/lang/String;"), (0, .class_ 19), (0, u "java/util/ArrayList"), (0, .methodref 18 3), (0, .methodref 18 22), (0, .nameAndType 23 24), (0, u "add"), (0, u "(Ljava/lang/Object;)Z"), (0, .class_ 26), (0, u "com/example/forward_horizon/forwardhorizon/engine/Event"), (0, .methodref 25 28), (0, .nameAndType 5 29), (0, u "(Ljava/util/List;J)V"), (0, .integer 2147483647), (0, .methodref 25 32), (0, .nameAndType 33 17), (0, u "field"), (0, .methodref 7 35), (0, .nameAndType 36 24), (0, u "equals"), (2, u "law"), (0, u "(IIIIJ)Z")] 3

def k1m0 : Method := { name := "<init>", desc := "()V", sig := { parameters := [], returnType := none }, accessFlags := 1, code := none }
def k1c1 : Code := { maxStack := 4, maxLocals := 2, code := method_2_code, exceptionTable := #[], attributes := #[] }
def k1m1 : Method := { name := "two", desc := "(I)Ljava/lang/String;", sig := { parameters := [.int], returnType := some (.object "java/lang/String") }, accessFlags := 10, code := some k1c1 }
def k1c2 : Code := { maxStack := 5, maxLocals := 14, code := code, exceptionTable := #[], attributes := #[] }
def k1m2 : Method := { name := "law", desc := "(IIIIJ)Z", sig := { parameters := [.int, .int, .int, .int, .long], returnType := some .boolean }, accessFlags := 9, code := some k1c2 }
/-- com/example/forward_horizon/forwardhorizon/engine/EventFieldPinLaw -/
def k1 : Class := { plain "com/example/forward_horizon/forwardhorizon/engine/EventFieldPinLaw" (some 0) with
  accessFlags := 49
  interfaces := #[]
  cf := some (fileOf pool1 13 #[] #[{ accessFlags := 1, nameIndex := 5, descriptorIndex := 6, attributes := #[] }, { accessFlags := 10, nameIndex := 16, descriptorIndex := 17, attributes := #[] }, { accessFlags := 9, nameIndex := 39, descriptorIndex := 40, attributes := #[] }] 49 2 #[] #[])
  fields := #[]
  methods := #[k1m0, k1m1, k1m2]
  instanceTypes := #[]
  staticTypes := #[]
  resolved := Array.replicate 44 none
  statics := none }

def pool2 : Array CpInfo := pool [(1, .class_ 2), (0, u "java/io/Serializable"), (0, .class_ 4), (0, u "java/lang/Object")] 2

/-- java/io/Serializable -/
def k2 : Class := { plain "java/io/Serializable" (some 0) with
  accessFlags := 1537
  interfaces := #[]
  cf := some (fileOf pool2 1 #[] #[] 1537 3 #[] #[])
  fields := #[]
  methods := #[]
  instanceTypes := #[]
  staticTypes := #[]
  resolved := Array.replicate 7 none
  statics := none }

def pool3 : Array CpInfo := pool [(1, .class_ 2), (0, u "java/lang/Comparable"), (0, .class_ 4), (0, u "java/lang/Object")] 7

/-- java/lang/Comparable -/
def k3 : Class := { plain "java/lang/Comparable" (some 0) with
  accessFlags := 1537
  interfaces := #[]
  cf := some (fileOf pool3 1 #[] #[] 1537 3 #[] #[])
  fields := #[]
  methods := #[]
  instanceTypes := #[]
  staticTypes := #[]
  resolved := Array.replicate 12 none
  statics := none }

def pool4 : Array CpInfo := pool [(2, .class_ 4), (1, u "java/lang/CharSequence"), (42, .class_ 48), (0, u "java/lang/CharSequence$1CodePointIterator"), (10, .class_ 60), (0, u "java/lang/CharSequence$1CharIterator"), (5, .class_ 67), (0, u "java/lang/Object")] 63

/-- java/lang/CharSequence -/
def k4 : Class := { plain "java/lang/CharSequence" (some 0) with
  accessFlags := 1537
  interfaces := #[]
  cf := some (fileOf pool4 2 #[.nestMembers #[47, 59]] #[] 1537 66 #[] #[])
  fields := #[]
  methods := #[]
  instanceTypes := #[]
  staticTypes := #[]
  resolved := Array.replicate 131 none
  statics := none }

def pool5 : Array CpInfo := pool [(1, .class_ 2), (0, u "java/lang/constant/Constable"), (0, .class_ 4), (0, u "java/lang/Object")] 6

/-- java/lang/constant/Constable -/
def k5 : Class := { plain "java/lang/constant/Constable" (some 0) with
  accessFlags := 1537
  interfaces := #[]
  cf := some (fileOf pool5 1 #[] #[] 1537 3 #[] #[])
  fields := #[]
  methods := #[]
  instanceTypes := #[]
  staticTypes := #[]
  resolved := Array.replicate 11 none
  statics := none }

def pool6 : Array CpInfo := pool [(1, .class_ 2), (0, u "java/lang/constant/ConstantDesc"), (0, .class_ 4), (0, u "java/lang/Object")] 32

/-- java/lang/constant/ConstantDesc -/
def k6 : Class := { plain "java/lang/constant/ConstantDesc" (some 0) with
  accessFlags := 1537
  interfaces := #[]
  cf := some (fileOf pool6 1 #[] #[] 1537 3 #[] #[])
  fields := #[]
  methods := #[]
  instanceTypes := #[]
  staticTypes := #[]
  resolved := Array.replicate 37 none
  statics := none }

def pool7 : Array CpInfo := pool [(1, .methodref 2 3), (0, .class_ 4), (0, .nameAndType 5 6), (0, u "java/lang/Object"), (0, u "<init>"), (0, u "()V"), (2, .fieldref 10 11), (0, .class_ 12), (0, .nameAndType 13 14), (0, u "java/lang/String"), (0, u "value"), (0, u "[B"), (0, .fieldref 10 16), (0, .nameAndType 17 18), (0, u "coder"), (0, u "B"), (2, u "hash"), (0, u "I"), (2, u "hashIsZero"), (0, u "Z"), (0, .methodref 10 28), (0, .nameAndType 5 29), (0, u "([CIILjava/lang/Void;)V"), (8, .fieldref 10 39), (0, .nameAndType 40 26), (0, u "COMPACT_STRINGS"), (1, .class_ 44), (1, u "java/lang/StringUTF16"), (0, u "compress"), (1, .methodref 42 48), (0, .nameAndType 49 50), (0, u "coderFromArrayLen"), (0, u "([BI)B"), (126, .methodref 42 178), (0, .nameAndType 45 179), (0, u "([CII)[B"), (363, u "equals"), (29, u "(Ljava/lang/Object;)Z"), (1, .class_ 576), (0, u "java/lang/CharSequence"), (22, u "CASE_INSENSITIVE_ORDER"), (0, u "Ljava/util/Comparator;"), (409, u "([C)V"), (90, u "serialPersistentFields"), (0, u "[Ljava/io/ObjectStreamField;"), (0, .class_ 1104), (0, u "java/lang/String$CaseInsensitiveComparator"), (1, .class_ 1107), (0, u "java/io/Serializable"), (0, .class_ 1109), (0, u "java/lang/Comparable"), (0, .class_ 1111), (0, u "java/lang/constant/Constable"), (0, .class_ 1113), (0, u "java/lang/constant/ConstantDesc"), (2, u "serialVersionUID"), (0, u "J"), (3, u "REPL"), (0, u "C"), (2, u "LATIN1"), (1, u "UTF16")] 323

def k7m0 : Method := { name := "<init>", desc := "()V", sig := { parameters := [], returnType := none }, accessFlags := 1, code := none }
def k7c1 : Code := { maxStack := 5, maxLocals := 2, code := jdk_42_method_3_code, exceptionTable := #[], attributes := #[] }
def k7m1 : Method := { name := "<init>", desc := "([C)V", sig := { parameters := [(.array .char)], returnType := none }, accessFlags := 1, code := some k7c1 }
def k7c2 : Code := { maxStack := 2, maxLocals := 3, code := jdk_42_method_66_code, exceptionTable := #[], attributes := #[] }
def k7m2 : Method := { name := "equals", desc := "(Ljava/lang/Object;)Z", sig := { parameters := [(.object "java/lang/Object")], returnType := some .boolean }, accessFlags := 1, code := some k7c2 }
def k7c3 : Code := { maxStack := 4, maxLocals := 6, code := jdk_42_method_149_code, exceptionTable := #[], attributes := #[] }
def k7m3 : Method := { name := "<init>", desc := "([CIILjava/lang/Void;)V", sig := { parameters := [(.array .char), .int, .int, (.object "java/lang/Void")], returnType := none }, accessFlags := 2, code := some k7c3 }
/-- java/lang/String -/
def k7 : Class := { plain "java/lang/String" (some 0) with
  accessFlags := 49
  interfaces := #[2, 3, 4, 5, 6]
  cf := some (fileOf pool7 10 #[.nestMembers #[1103]] #[{ accessFlags := 1, nameIndex := 5, descriptorIndex := 6, attributes := #[] }, { accessFlags := 1, nameIndex := 5, descriptorIndex := 1010, attributes := #[] }, { accessFlags := 1, nameIndex := 543, descriptorIndex := 573, attributes := #[] }, { accessFlags := 2, nameIndex := 5, descriptorIndex := 29, attributes := #[] }] 49 2 #[1106, 1108, 575, 1110, 1112] #[{ accessFlags := 18, nameIndex := 13, descriptorIndex := 14, attributes := #[] }, { accessFlags := 18, nameIndex := 17, descriptorIndex := 18, attributes := #[] }, { accessFlags := 2, nameIndex := 21, descriptorIndex := 22, attributes := #[] }, { accessFlags := 2, nameIndex := 25, descriptorIndex := 26, attributes := #[] }, { accessFlags := 26, nameIndex := 1116, descriptorIndex := 1117, attributes := #[] }, { accessFlags := 24, nameIndex := 40, descriptorIndex := 26, attributes := #[] }, { accessFlags := 26, nameIndex := 1101, descriptorIndex := 1102, attributes := #[] }, { accessFlags := 26, nameIndex := 1121, descriptorIndex := 1122, attributes := #[] }, { accessFlags := 25, nameIndex := 599, descriptorIndex := 600, attributes := #[] }, { accessFlags := 24, nameIndex := 1125, descriptorIndex := 18, attributes := #[] }, { accessFlags := 24, nameIndex := 1127, descriptorIndex := 18, attributes := #[] }])
  fields := #[{ name := "value", type := (.array .byte), accessFlags := 18, slot := 0, constantValue := 0 }, { name := "coder", type := .byte, accessFlags := 18, slot := 1, constantValue := 0 }, { name := "hash", type := .int, accessFlags := 2, slot := 2, constantValue := 0 }, { name := "hashIsZero", type := .boolean, accessFlags := 2, slot := 3, constantValue := 0 }, { name := "serialVersionUID", type := .long, accessFlags := 26, slot := 0, constantValue := 0 }, { name := "COMPACT_STRINGS", type := .boolean, accessFlags := 24, slot := 1, constantValue := 0 }, { name := "serialPersistentFields", type := (.array (.object "java/io/ObjectStreamField")), accessFlags := 26, slot := 2, constantValue := 0 }, { name := "REPL", type := .char, accessFlags := 26, slot := 3, constantValue := 0 }, { name := "CASE_INSENSITIVE_ORDER", type := (.object "java/util/Comparator"), accessFlags := 25, slot := 4, constantValue := 0 }, { name := "LATIN1", type := .byte, accessFlags := 24, slot := 5, constantValue := 0 }, { name := "UTF16", type := .byte, accessFlags := 24, slot := 6, constantValue := 0 }]
  methods := #[k7m0, k7m1, k7m2, k7m3]
  instanceTypes := #[(.array .byte), .byte, .int, .boolean]
  staticTypes := #[.long, .boolean, (.array (.object "java/io/ObjectStreamField")), .char, (.object "java/util/Comparator"), .byte, .byte]
  resolved := Array.replicate 1451 none
  statics := some 0 }

def pool8 : Array CpInfo := pool [(6, .class_ 8), (1, u "java/lang/Object"), (0, u "<init>"), (0, u "()V"), (1, .class_ 14), (1, u "java/lang/StringUTF16"), (31, u "$assertionsDisabled"), (0, u "Z"), (13, u "HI_BYTE_SHIFT"), (0, u "I"), (2, u "LO_BYTE_SHIFT"), (49, .methodref 12 116), (0, .nameAndType 117 118), (0, u "compress"), (0, u "([CI[BII)I"), (3, u "([CII)[B"), (138, u "coderFromArrayLen"), (0, u "([BI)B"), (106, .class_ 371), (1, u "java/lang/StringUTF16$LinesSpliterator"), (58, u "MAX_LENGTH"), (196, .class_ 628), (0, u "java/lang/StringUTF16$CodePointsSpliterator"), (0, .class_ 630), (0, u "java/lang/StringUTF16$CharsSpliterator")] 4

def k8m0 : Method := { name := "<init>", desc := "()V", sig := { parameters := [], returnType := none }, accessFlags := 0, code := none }
def k8c1 : Code := { maxStack := 2, maxLocals := 2, code := jdk_52_method_15_code, exceptionTable := #[], attributes := #[] }
def k8m1 : Method := { name := "coderFromArrayLen", desc := "([BI)B", sig := { parameters := [(.array .byte), .int], returnType := some .byte }, accessFlags := 8, code := some k8c1 }
def k8c2 : Code := { maxStack := 5, maxLocals := 6, code := jdk_52_method_16_code, exceptionTable := #[], attributes := #[] }
def k8m2 : Method := { name := "compress", desc := "([CII)[B", sig := { parameters := [(.array .char), .int, .int], returnType := some (.array .byte) }, accessFlags := 9, code := some k8c2 }
def k8c3 : Code := { maxStack := 3, maxLocals := 7, code := jdk_52_method_21_code, exceptionTable := #[], attributes := #[] }
def k8m3 : Method := { name := "compress", desc := "([CI[BII)I", sig := { parameters := [(.array .char), .int, (.array .byte), .int, .int], returnType := some .int }, accessFlags := 9, code := some k8c3 }
/-- java/lang/StringUTF16 -/
def k8 : Class := { plain "java/lang/StringUTF16" (some 0) with
  accessFlags := 48
  interfaces := #[]
  cf := some (fileOf pool8 12 #[.nestMembers #[627, 629, 369]] #[{ accessFlags := 0, nameIndex := 9, descriptorIndex := 10, attributes := #[] }, { accessFlags := 8, nameIndex := 261, descriptorIndex := 262, attributes := #[] }, { accessFlags := 9, nameIndex := 117, descriptorIndex := 122, attributes := #[] }, { accessFlags := 9, nameIndex := 117, descriptorIndex := 118, attributes := #[] }] 48 6 #[] #[{ accessFlags := 26, nameIndex := 61, descriptorIndex := 62, attributes := #[] }, { accessFlags := 26, nameIndex := 65, descriptorIndex := 62, attributes := #[] }, { accessFlags := 24, nameIndex := 430, descriptorIndex := 62, attributes := #[] }, { accessFlags := 4120, nameIndex := 46, descriptorIndex := 47, attributes := #[] }])
  fields := #[{ name := "HI_BYTE_SHIFT", type := .int, accessFlags := 26, slot := 0, constantValue := 0 }, { name := "LO_BYTE_SHIFT", type := .int, accessFlags := 26, slot := 1, constantValue := 0 }, { name := "MAX_LENGTH", type := .int, accessFlags := 24, slot := 2, constantValue := 0 }, { name := "$assertionsDisabled", type := .boolean, accessFlags := 4120, slot := 3, constantValue := 0 }]
  methods := #[k8m0, k8m1, k8m2, k8m3]
  instanceTypes := #[]
  staticTypes := #[.int, .int, .int, .boolean]
  resolved := Array.replicate 635 none
  statics := none }

def pool9 : Array CpInfo := pool [(8, .class_ 10), (1, u "java/lang/Iterable"), (24, .class_ 36), (0, u "java/lang/Object")] 25

/-- java/lang/Iterable -/
def k9 : Class := { plain "java/lang/Iterable" (some 0) with
  accessFlags := 1537
  interfaces := #[]
  cf := some (fileOf pool9 8 #[] #[] 1537 35 #[] #[])
  fields := #[]
  methods := #[]
  instanceTypes := #[]
  staticTypes := #[]
  resolved := Array.replicate 62 none
  statics := none }

def pool10 : Array CpInfo := pool [(10, .class_ 12), (1, u "java/util/Collection"), (47, .class_ 61), (0, u "java/lang/Object"), (0, .class_ 63), (0, u "java/lang/Iterable")] 51

/-- java/util/Collection -/
def k10 : Class := { plain "java/util/Collection" (some 0) with
  accessFlags := 1537
  interfaces := #[9]
  cf := some (fileOf pool10 10 #[] #[] 1537 60 #[62] #[])
  fields := #[]
  methods := #[]
  instanceTypes := #[]
  staticTypes := #[]
  resolved := Array.replicate 115 none
  statics := none }

def pool11 : Array CpInfo := pool [(1, .methodref 2 3), (0, .class_ 4), (0, .nameAndType 5 6), (0, u "java/lang/Object"), (0, u "<init>"), (0, u "()V"), (1, .class_ 10), (1, u "java/util/AbstractCollection"), (66, .class_ 78), (0, u "java/util/Collection")] 81

def k11c0 : Code := { maxStack := 1, maxLocals := 1, code := jdk_22_method_1_code, exceptionTable := #[], attributes := #[] }
def k11m0 : Method := { name := "<init>", desc := "()V", sig := { parameters := [], returnType := none }, accessFlags := 4, code := some k11c0 }
/-- java/util/AbstractCollection -/
def k11 : Class := { plain "java/util/AbstractCollection" (some 0) with
  accessFlags := 1057
  interfaces := #[10]
  cf := some (fileOf pool11 8 #[] #[{ accessFlags := 4, nameIndex := 5, descriptorIndex := 6, attributes := #[] }] 1057 2 #[77] #[])
  fields := #[]
  methods := #[k11m0]
  instanceTypes := #[]
  staticTypes := #[]
  resolved := Array.replicate 160 none
  statics := none }

def pool12 : Array CpInfo := pool [(8, .class_ 10), (1, u "java/util/SequencedCollection"), (15, .class_ 27), (0, u "java/lang/Object"), (0, .class_ 29), (0, u "java/util/Collection")] 27

/-- java/util/SequencedCollection -/
def k12 : Class := { plain "java/util/SequencedCollection" (some 0) with
  accessFlags := 1537
  interfaces := #[10]
  cf := some (fileOf pool12 8 #[] #[] 1537 26 #[28] #[])
  fields := #[]
  methods := #[]
  instanceTypes := #[]
  staticTypes := #[]
  resolved := Array.replicate 57 none
  statics := none }

def pool13 : Array CpInfo := pool [(8, .class_ 10), (1, u "java/util/List"), (64, u "get"), (0, u "(I)Ljava/lang/Object;"), (26, .class_ 104), (0, u "java/lang/Object"), (15, .class_ 121), (0, u "java/util/SequencedCollection")] 129

def k13m0 : Method := { name := "get", desc := "(I)Ljava/lang/Object;", sig := { parameters := [.int], returnType := some (.object "java/lang/Object") }, accessFlags := 1025, code := none }
/-- java/util/List -/
def k13 : Class := { plain "java/util/List" (some 0) with
  accessFlags := 1537
  interfaces := #[12]
  cf := some (fileOf pool13 8 #[] #[{ accessFlags := 1025, nameIndex := 75, descriptorIndex := 76, attributes := #[] }] 1537 103 #[120] #[])
  fields := #[]
  methods := #[k13m0]
  instanceTypes := #[]
  staticTypes := #[]
  resolved := Array.replicate 251 none
  statics := none }

def pool14 : Array CpInfo := pool [(1, .methodref 2 3), (0, .class_ 4), (0, .nameAndType 5 6), (0, u "java/util/AbstractCollection"), (0, u "<init>"), (0, u "()V"), (0, .fieldref 8 9), (0, .class_ 10), (0, .nameAndType 11 12), (0, u "java/util/AbstractList"), (0, u "modCount"), (0, u "I"), (64, .class_ 78), (0, u "java/util/AbstractList$Itr"), (3, .class_ 83), (0, u "java/util/AbstractList$ListItr"), (9, .class_ 94), (0, u "java/util/AbstractList$RandomAccessSubList"), (3, .class_ 99), (0, u "java/util/AbstractList$SubList"), (33, .class_ 134), (0, u "java/util/List"), (73, .class_ 209), (0, u "java/util/AbstractList$SubList$1"), (0, .class_ 211), (0, u "java/util/AbstractList$RandomAccessSpliterator")] 6

def k14c0 : Code := { maxStack := 2, maxLocals := 1, code := jdk_39_method_1_code, exceptionTable := #[], attributes := #[] }
def k14m0 : Method := { name := "<init>", desc := "()V", sig := { parameters := [], returnType := none }, accessFlags := 4, code := some k14c0 }
/-- java/util/AbstractList -/
def k14 : Class := { plain "java/util/AbstractList" (some 11) with
  accessFlags := 1057
  interfaces := #[13]
  cf := some (fileOf pool14 8 #[.nestMembers #[93, 98, 208, 210, 82, 77]] #[{ accessFlags := 4, nameIndex := 5, descriptorIndex := 6, attributes := #[] }] 1057 2 #[133] #[{ accessFlags := 132, nameIndex := 11, descriptorIndex := 12, attributes := #[] }])
  fields := #[{ name := "modCount", type := .int, accessFlags := 132, slot := 0, constantValue := 0 }]
  methods := #[k14m0]
  instanceTypes := #[.int]
  staticTypes := #[]
  resolved := Array.replicate 218 none
  statics := none }

def pool15 : Array CpInfo := pool [(1, .class_ 2), (0, u "java/util/RandomAccess"), (0, .class_ 4), (0, u "java/lang/Object")] 2

/-- java/util/RandomAccess -/
def k15 : Class := { plain "java/util/RandomAccess" (some 0) with
  accessFlags := 1537
  interfaces := #[]
  cf := some (fileOf pool15 1 #[] #[] 1537 3 #[] #[])
  fields := #[]
  methods := #[]
  instanceTypes := #[]
  staticTypes := #[]
  resolved := Array.replicate 7 none
  statics := none }

def pool16 : Array CpInfo := pool [(1, .class_ 2), (0, u "java/lang/Cloneable"), (0, .class_ 4), (0, u "java/lang/Object")] 2

/-- java/lang/Cloneable -/
def k16 : Class := { plain "java/lang/Cloneable" (some 0) with
  accessFlags := 1537
  interfaces := #[]
  cf := some (fileOf pool16 1 #[] #[] 1537 3 #[] #[])
  fields := #[]
  methods := #[]
  instanceTypes := #[]
  staticTypes := #[]
  resolved := Array.replicate 7 none
  statics := none }

def pool17 : Array CpInfo := pool [(1, .methodref 2 3), (0, .class_ 4), (0, .nameAndType 5 6), (0, u "java/util/AbstractList"), (0, u "<init>"), (0, u "()V"), (0, .class_ 8), (0, u "java/lang/Object"), (0, .fieldref 10 11), (0, .class_ 12), (0, .nameAndType 13 14), (0, u "java/util/ArrayList"), (0, u "elementData"), (0, u "[Ljava/lang/Object;"), (2, u "EMPTY_ELEMENTDATA"), (21, .fieldref 10 40), (0, .nameAndType 41 14), (0, u "DEFAULTCAPACITY_EMPTY_ELEMENTDATA"), (5, u "()[Ljava/lang/Object;"), (0, .fieldref 10 49), (0, .nameAndType 50 51), (0, u "size"), (0, u "I"), (11, .fieldref 10 64), (0, .nameAndType 65 51), (0, u "modCount"), (3, .methodref 10 70), (0, .nameAndType 71 72), (0, u "grow"), (0, u "(I)[Ljava/lang/Object;"), (6, .methodref 80 81), (0, .class_ 82), (0, .nameAndType 83 84), (0, u "java/lang/Math"), (0, u "max"), (0, u "(II)I"), (11, u "(Ljava/lang/Object;)Z"), (21, .methodref 119 120), (0, .class_ 121), (0, .nameAndType 122 84), (0, u "java/util/Objects"), (0, u "checkIndex"), (0, .methodref 10 124), (0, .nameAndType 13 125), (0, u "(I)Ljava/lang/Object;"), (3, .methodref 10 130), (0, .nameAndType 71 47), (0, .methodref 10 132), (0, .nameAndType 133 134), (0, u "add"), (0, u "(Ljava/lang/Object;[Ljava/lang/Object;I)V"), (13, .class_ 149), (0, u "java/util/List"), (112, .class_ 263), (0, u "java/util/ArrayList$ListItr"), (3, .class_ 268), (0, u "java/util/ArrayList$Itr"), (7, .class_ 277), (0, u "java/util/ArrayList$SubList"), (12, .class_ 291), (0, u "java/util/ArrayList$ArrayListSpliterator"), (37, .class_ 330), (0, u "java/util/RandomAccess"), (0, .class_ 332), (0, u "java/lang/Cloneable"), (0, .class_ 334), (0, u "java/io/Serializable"), (0, u "serialVersionUID"), (0, u "J"), (3, u "DEFAULT_CAPACITY"), (40, u "get"), (118, .class_ 501), (0, u "java/util/ArrayList$SubList$2"), (0, .class_ 503), (0, u "java/util/ArrayList$SubList$1")] 5

def k17c0 : Code := { maxStack := 2, maxLocals := 1, code := jdk_38_method_2_code, exceptionTable := #[], attributes := #[] }
def k17m0 : Method := { name := "<init>", desc := "()V", sig := { parameters := [], returnType := none }, accessFlags := 1, code := some k17c0 }
def k17c1 : Code := { maxStack := 4, maxLocals := 4, code := jdk_38_method_6_code, exceptionTable := #[], attributes := #[] }
def k17m1 : Method := { name := "grow", desc := "(I)[Ljava/lang/Object;", sig := { parameters := [.int], returnType := some (.array (.object "java/lang/Object")) }, accessFlags := 2, code := some k17c1 }
def k17c2 : Code := { maxStack := 3, maxLocals := 1, code := jdk_38_method_7_code, exceptionTable := #[], attributes := #[] }
def k17m2 : Method := { name := "grow", desc := "()[Ljava/lang/Object;", sig := { parameters := [], returnType := some (.array (.object "java/lang/Object")) }, accessFlags := 2, code := some k17c2 }
def k17c3 : Code := { maxStack := 2, maxLocals := 2, code := jdk_38_method_18_code, exceptionTable := #[], attributes := #[] }
def k17m3 : Method := { name := "elementData", desc := "(I)Ljava/lang/Object;", sig := { parameters := [.int], returnType := some (.object "java/lang/Object") }, accessFlags := 0, code := some k17c3 }
def k17c4 : Code := { maxStack := 2, maxLocals := 2, code := jdk_38_method_20_code, exceptionTable := #[], attributes := #[] }
def k17m4 : Method := { name := "get", desc := "(I)Ljava/lang/Object;", sig := { parameters := [.int], returnType := some (.object "java/lang/Object") }, accessFlags := 1, code := some k17c4 }
def k17c5 : Code := { maxStack := 3, maxLocals := 4, code := jdk_38_method_24_code, exceptionTable := #[], attributes := #[] }
def k17m5 : Method := { name := "add", desc := "(Ljava/lang/Object;[Ljava/lang/Object;I)V", sig := { parameters := [(.object "java/lang/Object"), (.array (.object "java/lang/Object")), .int], returnType := none }, accessFlags := 2, code := some k17c5 }
def k17c6 : Code := { maxStack := 4, maxLocals := 2, code := jdk_38_method_25_code, exceptionTable := #[], attributes := #[] }
def k17m6 : Method := { name := "add", desc := "(Ljava/lang/Object;)Z", sig := { parameters := [(.object "java/lang/Object")], returnType := some .boolean }, accessFlags := 1, code := some k17c6 }
/-- java/util/ArrayList -/
def k17 : Class := { plain "java/util/ArrayList" (some 14) with
  accessFlags := 33
  interfaces := #[13, 15, 16, 2]
  cf := some (fileOf pool17 10 #[.nestMembers #[290, 276, 500, 502, 262, 267]] #[{ accessFlags := 1, nameIndex := 5, descriptorIndex := 6, attributes := #[] }, { accessFlags := 2, nameIndex := 71, descriptorIndex := 72, attributes := #[] }, { accessFlags := 2, nameIndex := 71, descriptorIndex := 47, attributes := #[] }, { accessFlags := 0, nameIndex := 13, descriptorIndex := 125, attributes := #[] }, { accessFlags := 1, nameIndex := 381, descriptorIndex := 125, attributes := #[] }, { accessFlags := 2, nameIndex := 133, descriptorIndex := 134, attributes := #[] }, { accessFlags := 1, nameIndex := 133, descriptorIndex := 96, attributes := #[] }] 33 2 #[148, 329, 331, 333] #[{ accessFlags := 26, nameIndex := 335, descriptorIndex := 336, attributes := #[] }, { accessFlags := 26, nameIndex := 340, descriptorIndex := 51, attributes := #[] }, { accessFlags := 26, nameIndex := 17, descriptorIndex := 14, attributes := #[] }, { accessFlags := 26, nameIndex := 41, descriptorIndex := 14, attributes := #[] }, { accessFlags := 128, nameIndex := 13, descriptorIndex := 14, attributes := #[] }, { accessFlags := 2, nameIndex := 50, descriptorIndex := 51, attributes := #[] }])
  fields := #[{ name := "serialVersionUID", type := .long, accessFlags := 26, slot := 0, constantValue := 0 }, { name := "DEFAULT_CAPACITY", type := .int, accessFlags := 26, slot := 1, constantValue := 0 }, { name := "EMPTY_ELEMENTDATA", type := (.array (.object "java/lang/Object")), accessFlags := 26, slot := 2, constantValue := 0 }, { name := "DEFAULTCAPACITY_EMPTY_ELEMENTDATA", type := (.array (.object "java/lang/Object")), accessFlags := 26, slot := 3, constantValue := 0 }, { name := "elementData", type := (.array (.object "java/lang/Object")), accessFlags := 128, slot := 1, constantValue := 0 }, { name := "size", type := .int, accessFlags := 2, slot := 2, constantValue := 0 }]
  methods := #[k17m0, k17m1, k17m2, k17m3, k17m4, k17m5, k17m6]
  instanceTypes := #[.int, (.array (.object "java/lang/Object")), .int]
  staticTypes := #[.long, .int, (.array (.object "java/lang/Object")), (.array (.object "java/lang/Object"))]
  resolved := Array.replicate 509 none
  statics := some 1 }

def pool18 : Array CpInfo := pool [(1, .class_ 2), (0, u "java/lang/Math"), (1, .class_ 6), (1, u "java/lang/Object"), (0, u "<init>"), (0, u "()V"), (89, .class_ 100), (1, u "java/lang/Math$RandomNumberGeneratorHolder"), (71, u "negativeZeroFloatBits"), (0, u "J"), (2, u "negativeZeroDoubleBits"), (21, u "max"), (46, u "$assertionsDisabled"), (0, u "Z"), (88, u "(II)I"), (2, u "twoToTheDoubleScaleDown"), (0, u "D"), (4, u "twoToTheDoubleScaleUp"), (9, u "E"), (3, u "PI"), (2, u "TAU"), (2, u "DEGREES_TO_RADIANS"), (0, u "RADIANS_TO_DEGREES")] 94

def k18m0 : Method := { name := "<init>", desc := "()V", sig := { parameters := [], returnType := none }, accessFlags := 2, code := none }
def k18c1 : Code := { maxStack := 2, maxLocals := 2, code := jdk_29_method_65_code, exceptionTable := #[], attributes := #[] }
def k18m1 : Method := { name := "max", desc := "(II)I", sig := { parameters := [.int, .int], returnType := some .int }, accessFlags := 9, code := some k18c1 }
/-- java/lang/Math -/
def k18 : Class := { plain "java/lang/Math" (some 0) with
  accessFlags := 49
  interfaces := #[]
  cf := some (fileOf pool18 1 #[.nestMembers #[98]] #[{ accessFlags := 2, nameIndex := 7, descriptorIndex := 8, attributes := #[] }, { accessFlags := 9, nameIndex := 198, descriptorIndex := 335, attributes := #[] }] 49 4 #[] #[{ accessFlags := 25, nameIndex := 354, descriptorIndex := 339, attributes := #[] }, { accessFlags := 25, nameIndex := 358, descriptorIndex := 339, attributes := #[] }, { accessFlags := 25, nameIndex := 361, descriptorIndex := 339, attributes := #[] }, { accessFlags := 26, nameIndex := 364, descriptorIndex := 339, attributes := #[] }, { accessFlags := 26, nameIndex := 365, descriptorIndex := 339, attributes := #[] }, { accessFlags := 26, nameIndex := 172, descriptorIndex := 173, attributes := #[] }, { accessFlags := 26, nameIndex := 176, descriptorIndex := 173, attributes := #[] }, { accessFlags := 8, nameIndex := 344, descriptorIndex := 339, attributes := #[] }, { accessFlags := 8, nameIndex := 338, descriptorIndex := 339, attributes := #[] }, { accessFlags := 4120, nameIndex := 245, descriptorIndex := 246, attributes := #[] }])
  fields := #[{ name := "E", type := .double, accessFlags := 25, slot := 0, constantValue := 0 }, { name := "PI", type := .double, accessFlags := 25, slot := 1, constantValue := 0 }, { name := "TAU", type := .double, accessFlags := 25, slot := 2, constantValue := 0 }, { name := "DEGREES_TO_RADIANS", type := .double, accessFlags := 26, slot := 3, constantValue := 0 }, { name := "RADIANS_TO_DEGREES", type := .double, accessFlags := 26, slot := 4, constantValue := 0 }, { name := "negativeZeroFloatBits", type := .long, accessFlags := 26, slot := 5, constantValue := 0 }, { name := "negativeZeroDoubleBits", type := .long, accessFlags := 26, slot := 6, constantValue := 0 }, { name := "twoToTheDoubleScaleUp", type := .double, accessFlags := 8, slot := 7, constantValue := 0 }, { name := "twoToTheDoubleScaleDown", type := .double, accessFlags := 8, slot := 8, constantValue := 0 }, { name := "$assertionsDisabled", type := .boolean, accessFlags := 4120, slot := 9, constantValue := 0 }]
  methods := #[k18m0, k18m1]
  instanceTypes := #[]
  staticTypes := #[.double, .double, .double, .double, .double, .long, .long, .double, .double, .boolean]
  resolved := Array.replicate 460 none
  statics := none }

def pool19 : Array CpInfo := pool [(1, .methodref 2 3), (0, .class_ 4), (0, .nameAndType 5 6), (0, u "java/lang/Object"), (0, u "<init>"), (0, u "()V"), (0, .class_ 8), (0, u "java/util/concurrent/atomic/AtomicInteger"), (0, .methodref 7 10), (0, .nameAndType 5 11), (0, u "(I)V"), (0, .fieldref 13 14), (0, .class_ 15), (0, .nameAndType 16 17), (0, u "com/example/forward_horizon/forwardhorizon/engine/Event"), (0, u "holds"), (0, u "Ljava/util/concurrent/atomic/AtomicInteger;"), (0, .fieldref 13 19), (0, .nameAndType 20 21), (0, u "fields"), (0, u "Ljava/util/List;"), (0, .fieldref 13 23), (0, .nameAndType 24 25), (0, u "releaseNanos"), (0, u "J"), (0, .class_ 27), (0, u "java/util/concurrent/atomic/AtomicLong"), (0, .methodref 26 29), (0, .nameAndType 5 30), (0, u "(J)V"), (0, .fieldref 13 32), (0, .nameAndType 33 34), (0, u "lastEndNanos"), (0, u "Ljava/util/concurrent/atomic/AtomicLong;"), (0, .interfaceMethodref 36 37), (0, .class_ 38), (0, .nameAndType 39 40), (0, u "java/util/List"), (0, u "get"), (0, u "(I)Ljava/lang/Object;"), (0, .class_ 42), (0, u "java/lang/String"), (6, u "failed"), (0, u "Z"), (2, u "dropped"), (28, u "(Ljava/util/List;J)V"), (3, u "field"), (0, u "(I)Ljava/lang/String;")] 32

def k19c0 : Code := { maxStack := 5, maxLocals := 4, code := prog_4_method_1_code, exceptionTable := #[], attributes := #[] }
def k19m0 : Method := { name := "<init>", desc := "(Ljava/util/List;J)V", sig := { parameters := [(.object "java/util/List"), .long], returnType := none }, accessFlags := 0, code := some k19c0 }
def k19c1 : Code := { maxStack := 2, maxLocals := 2, code := prog_4_method_2_code, exceptionTable := #[], attributes := #[] }
def k19m1 : Method := { name := "field", desc := "(I)Ljava/lang/String;", sig := { parameters := [.int], returnType := some (.object "java/lang/String") }, accessFlags := 0, code := some k19c1 }
/-- com/example/forward_horizon/forwardhorizon/engine/Event -/
def k19 : Class := { plain "com/example/forward_horizon/forwardhorizon/engine/Event" (some 0) with
  accessFlags := 32
  interfaces := #[]
  cf := some (fileOf pool19 13 #[] #[{ accessFlags := 0, nameIndex := 5, descriptorIndex := 82, attributes := #[] }, { accessFlags := 0, nameIndex := 86, descriptorIndex := 87, attributes := #[] }] 32 2 #[] #[{ accessFlags := 18, nameIndex := 20, descriptorIndex := 21, attributes := #[] }, { accessFlags := 18, nameIndex := 24, descriptorIndex := 25, attributes := #[] }, { accessFlags := 18, nameIndex := 16, descriptorIndex := 17, attributes := #[] }, { accessFlags := 18, nameIndex := 33, descriptorIndex := 34, attributes := #[] }, { accessFlags := 66, nameIndex := 49, descriptorIndex := 50, attributes := #[] }, { accessFlags := 66, nameIndex := 53, descriptorIndex := 50, attributes := #[] }])
  fields := #[{ name := "fields", type := (.object "java/util/List"), accessFlags := 18, slot := 0, constantValue := 0 }, { name := "releaseNanos", type := .long, accessFlags := 18, slot := 1, constantValue := 0 }, { name := "holds", type := (.object "java/util/concurrent/atomic/AtomicInteger"), accessFlags := 18, slot := 2, constantValue := 0 }, { name := "lastEndNanos", type := (.object "java/util/concurrent/atomic/AtomicLong"), accessFlags := 18, slot := 3, constantValue := 0 }, { name := "failed", type := .boolean, accessFlags := 66, slot := 4, constantValue := 0 }, { name := "dropped", type := .boolean, accessFlags := 66, slot := 5, constantValue := 0 }]
  methods := #[k19m0, k19m1]
  instanceTypes := #[(.object "java/util/List"), .long, (.object "java/util/concurrent/atomic/AtomicInteger"), (.object "java/util/concurrent/atomic/AtomicLong"), .boolean, .boolean]
  staticTypes := #[]
  resolved := Array.replicate 120 none
  statics := none }

def pool20 : Array CpInfo := pool [(1, .methodref 2 3), (0, .class_ 4), (0, .nameAndType 5 6), (0, u "java/lang/Object"), (0, u "<init>"), (0, u "()V"), (1, .class_ 10), (1, u "java/lang/Number"), (2, .class_ 14), (0, u "java/io/Serializable"), (0, u "serialVersionUID"), (0, u "J")] 20

def k20c0 : Code := { maxStack := 1, maxLocals := 1, code := jdk_18_method_1_code, exceptionTable := #[], attributes := #[] }
def k20m0 : Method := { name := "<init>", desc := "()V", sig := { parameters := [], returnType := none }, accessFlags := 1, code := some k20c0 }
/-- java/lang/Number -/
def k20 : Class := { plain "java/lang/Number" (some 0) with
  accessFlags := 1057
  interfaces := #[2]
  cf := some (fileOf pool20 8 #[] #[{ accessFlags := 1, nameIndex := 5, descriptorIndex := 6, attributes := #[] }] 1057 2 #[13] #[{ accessFlags := 26, nameIndex := 15, descriptorIndex := 16, attributes := #[] }])
  fields := #[{ name := "serialVersionUID", type := .long, accessFlags := 26, slot := 0, constantValue := 0 }]
  methods := #[k20m0]
  instanceTypes := #[]
  staticTypes := #[.long]
  resolved := Array.replicate 37 none
  statics := none }

def pool21 : Array CpInfo := pool [(1, .methodref 2 3), (0, .class_ 4), (0, .nameAndType 5 6), (0, u "java/lang/Number"), (0, u "<init>"), (0, u "()V"), (0, .fieldref 8 9), (0, .class_ 10), (0, .nameAndType 11 12), (0, u "java/util/concurrent/atomic/AtomicInteger"), (0, u "value"), (0, u "I"), (2, u "U"), (0, u "Ljdk/internal/misc/Unsafe;"), (2, u "VALUE"), (0, u "J"), (89, .class_ 111), (0, u "java/io/Serializable"), (0, u "serialVersionUID"), (3, u "(I)V")] 64

def k21c0 : Code := { maxStack := 2, maxLocals := 2, code := jdk_2803_method_1_code, exceptionTable := #[], attributes := #[] }
def k21m0 : Method := { name := "<init>", desc := "(I)V", sig := { parameters := [.int], returnType := none }, accessFlags := 1, code := some k21c0 }
def k21m1 : Method := { name := "<init>", desc := "()V", sig := { parameters := [], returnType := none }, accessFlags := 1, code := none }
/-- java/util/concurrent/atomic/AtomicInteger -/
def k21 : Class := { plain "java/util/concurrent/atomic/AtomicInteger" (some 20) with
  accessFlags := 33
  interfaces := #[2]
  cf := some (fileOf pool21 8 #[] #[{ accessFlags := 1, nameIndex := 5, descriptorIndex := 116, attributes := #[] }, { accessFlags := 1, nameIndex := 5, descriptorIndex := 6, attributes := #[] }] 33 2 #[110] #[{ accessFlags := 26, nameIndex := 112, descriptorIndex := 20, attributes := #[] }, { accessFlags := 26, nameIndex := 15, descriptorIndex := 16, attributes := #[] }, { accessFlags := 26, nameIndex := 19, descriptorIndex := 20, attributes := #[] }, { accessFlags := 66, nameIndex := 11, descriptorIndex := 12, attributes := #[] }])
  fields := #[{ name := "serialVersionUID", type := .long, accessFlags := 26, slot := 0, constantValue := 0 }, { name := "U", type := (.object "jdk/internal/misc/Unsafe"), accessFlags := 26, slot := 1, constantValue := 0 }, { name := "VALUE", type := .long, accessFlags := 26, slot := 2, constantValue := 0 }, { name := "value", type := .int, accessFlags := 66, slot := 0, constantValue := 0 }]
  methods := #[k21m0, k21m1]
  instanceTypes := #[.int]
  staticTypes := #[.long, (.object "jdk/internal/misc/Unsafe"), .long]
  resolved := Array.replicate 181 none
  statics := none }

def pool22 : Array CpInfo := pool [(1, .methodref 2 3), (0, .class_ 4), (0, .nameAndType 5 6), (0, u "java/lang/Number"), (0, u "<init>"), (0, u "()V"), (0, .fieldref 8 9), (0, .class_ 10), (0, .nameAndType 11 12), (0, u "java/util/concurrent/atomic/AtomicLong"), (0, u "value"), (0, u "J"), (2, u "U"), (0, u "Ljdk/internal/misc/Unsafe;"), (2, u "VALUE"), (91, u "VM_SUPPORTS_LONG_CAS"), (0, u "Z"), (9, .class_ 123), (0, u "java/io/Serializable"), (0, u "serialVersionUID"), (3, u "(J)V")] 63

def k22c0 : Code := { maxStack := 3, maxLocals := 3, code := jdk_2805_method_2_code, exceptionTable := #[], attributes := #[] }
def k22m0 : Method := { name := "<init>", desc := "(J)V", sig := { parameters := [.long], returnType := none }, accessFlags := 1, code := some k22c0 }
def k22m1 : Method := { name := "<init>", desc := "()V", sig := { parameters := [], returnType := none }, accessFlags := 1, code := none }
/-- java/util/concurrent/atomic/AtomicLong -/
def k22 : Class := { plain "java/util/concurrent/atomic/AtomicLong" (some 20) with
  accessFlags := 33
  interfaces := #[2]
  cf := some (fileOf pool22 8 #[] #[{ accessFlags := 1, nameIndex := 5, descriptorIndex := 128, attributes := #[] }, { accessFlags := 1, nameIndex := 5, descriptorIndex := 6, attributes := #[] }] 33 2 #[122] #[{ accessFlags := 26, nameIndex := 124, descriptorIndex := 12, attributes := #[] }, { accessFlags := 24, nameIndex := 111, descriptorIndex := 112, attributes := #[] }, { accessFlags := 26, nameIndex := 15, descriptorIndex := 16, attributes := #[] }, { accessFlags := 26, nameIndex := 19, descriptorIndex := 12, attributes := #[] }, { accessFlags := 66, nameIndex := 11, descriptorIndex := 12, attributes := #[] }])
  fields := #[{ name := "serialVersionUID", type := .long, accessFlags := 26, slot := 0, constantValue := 0 }, { name := "VM_SUPPORTS_LONG_CAS", type := .boolean, accessFlags := 24, slot := 1, constantValue := 0 }, { name := "U", type := (.object "jdk/internal/misc/Unsafe"), accessFlags := 26, slot := 2, constantValue := 0 }, { name := "VALUE", type := .long, accessFlags := 26, slot := 3, constantValue := 0 }, { name := "value", type := .long, accessFlags := 66, slot := 0, constantValue := 0 }]
  methods := #[k22m0, k22m1]
  instanceTypes := #[.long]
  staticTypes := #[.long, .boolean, (.object "jdk/internal/misc/Unsafe"), .long]
  resolved := Array.replicate 192 none
  statics := none }

def pool23 : Array CpInfo := pool [(2, .class_ 4), (1, u "java/lang/Object"), (0, u "<init>"), (0, u "()V"), (35, .class_ 44), (1, u "java/util/Objects"), (60, .methodref 106 107), (0, .class_ 108), (0, .nameAndType 109 110), (0, u "jdk/internal/util/Preconditions"), (0, u "checkIndex"), (0, u "(IILjava/util/function/BiFunction;)I"), (60, u "(II)I")] 12

def k23m0 : Method := { name := "<init>", desc := "()V", sig := { parameters := [], returnType := none }, accessFlags := 2, code := none }
def k23c1 : Code := { maxStack := 3, maxLocals := 2, code := jdk_31_method_17_code, exceptionTable := #[], attributes := #[] }
def k23m1 : Method := { name := "checkIndex", desc := "(II)I", sig := { parameters := [.int, .int], returnType := some .int }, accessFlags := 9, code := some k23c1 }
/-- java/util/Objects -/
def k23 : Class := { plain "java/util/Objects" (some 0) with
  accessFlags := 49
  interfaces := #[]
  cf := some (fileOf pool23 42 #[] #[{ accessFlags := 2, nameIndex := 5, descriptorIndex := 6, attributes := #[] }, { accessFlags := 9, nameIndex := 109, descriptorIndex := 171, attributes := #[] }] 49 2 #[] #[])
  fields := #[]
  methods := #[k23m0, k23m1]
  instanceTypes := #[]
  staticTypes := #[]
  resolved := Array.replicate 184 none
  statics := none }

def pool24 : Array CpInfo := pool [(2, .class_ 4), (1, u "java/lang/Object"), (0, u "<init>"), (0, u "()V"), (17, .class_ 26), (1, u "jdk/internal/util/Preconditions"), (6, u "checkIndex"), (21, .class_ 56), (0, u "jdk/internal/util/Preconditions$4"), (57, .class_ 115), (0, u "jdk/internal/util/Preconditions$1"), (7, u "SIOOBE_FORMATTER"), (0, u "Ljava/util/function/BiFunction;"), (0, .class_ 126), (0, u "jdk/internal/util/Preconditions$2"), (3, u "AIOOBE_FORMATTER"), (0, .class_ 132), (0, u "jdk/internal/util/Preconditions$3"), (3, u "IOOBE_FORMATTER"), (41, u "(IILjava/util/function/BiFunction;)I")] 15

def k24m0 : Method := { name := "<init>", desc := "()V", sig := { parameters := [], returnType := none }, accessFlags := 1, code := none }
def k24c1 : Code := { maxStack := 3, maxLocals := 3, code := jdk_41_method_11_code, exceptionTable := #[], attributes := #[] }
def k24m1 : Method := { name := "checkIndex", desc := "(IILjava/util/function/BiFunction;)I", sig := { parameters := [.int, .int, (.object "java/util/function/BiFunction")], returnType := some .int }, accessFlags := 9, code := some k24c1 }
/-- jdk/internal/util/Preconditions -/
def k24 : Class := { plain "jdk/internal/util/Preconditions" (some 0) with
  accessFlags := 33
  interfaces := #[]
  cf := some (fileOf pool24 24 #[.nestMembers #[55, 131, 125, 114]] #[{ accessFlags := 1, nameIndex := 5, descriptorIndex := 6, attributes := #[] }, { accessFlags := 9, nameIndex := 33, descriptorIndex := 178, attributes := #[] }] 33 2 #[] #[{ accessFlags := 25, nameIndex := 123, descriptorIndex := 124, attributes := #[] }, { accessFlags := 25, nameIndex := 130, descriptorIndex := 124, attributes := #[] }, { accessFlags := 25, nameIndex := 136, descriptorIndex := 124, attributes := #[] }])
  fields := #[{ name := "SIOOBE_FORMATTER", type := (.object "java/util/function/BiFunction"), accessFlags := 25, slot := 0, constantValue := 0 }, { name := "AIOOBE_FORMATTER", type := (.object "java/util/function/BiFunction"), accessFlags := 25, slot := 1, constantValue := 0 }, { name := "IOOBE_FORMATTER", type := (.object "java/util/function/BiFunction"), accessFlags := 25, slot := 2, constantValue := 0 }]
  methods := #[k24m0, k24m1]
  instanceTypes := #[]
  staticTypes := #[(.object "java/util/function/BiFunction"), (.object "java/util/function/BiFunction"), (.object "java/util/function/BiFunction")]
  resolved := Array.replicate 194 none
  statics := some 2 }

def pool25 : Array CpInfo := pool [(4, .class_ 6), (1, u "java/lang/Object"), (0, u "<init>"), (0, u "()V"), (5, .class_ 16), (1, u "java/lang/StringLatin1"), (104, u "$assertionsDisabled"), (0, u "Z"), (98, .class_ 223), (1, u "java/lang/StringLatin1$LinesSpliterator"), (166, .class_ 391), (0, u "java/lang/StringLatin1$CharsSpliterator")] 3

def k25m0 : Method := { name := "<init>", desc := "()V", sig := { parameters := [], returnType := none }, accessFlags := 0, code := none }
/-- java/lang/StringLatin1 -/
def k25 : Class := { plain "java/lang/StringLatin1" (some 0) with
  accessFlags := 48
  interfaces := #[]
  cf := some (fileOf pool25 14 #[.nestMembers #[390, 221]] #[{ accessFlags := 0, nameIndex := 7, descriptorIndex := 8, attributes := #[] }] 48 4 #[] #[{ accessFlags := 4120, nameIndex := 121, descriptorIndex := 122, attributes := #[] }])
  fields := #[{ name := "$assertionsDisabled", type := .boolean, accessFlags := 4120, slot := 0, constantValue := 0 }]
  methods := #[k25m0]
  instanceTypes := #[]
  staticTypes := #[.boolean]
  resolved := Array.replicate 395 none
  statics := none }

def pool26 : Array CpInfo := pool [(9, u "<init>"), (6, .class_ 18), (1, u "java/lang/Object"), (0, u "()V"), (1, .class_ 23), (1, u "jdk/internal/util/ArraysSupport"), (0, u "LOG2_ARRAY_LONG_INDEX_SCALE"), (0, u "I"), (2, u "U"), (0, u "Ljdk/internal/misc/Unsafe;"), (8, u "BIG_ENDIAN"), (0, u "Z"), (8, u "LOG2_BYTE_BIT_SIZE"), (4, u "LOG2_ARRAY_INT_INDEX_SCALE"), (54, u "JLA"), (0, u "Ljdk/internal/access/JavaLangAccess;"), (11, u "LOG2_ARRAY_BOOLEAN_INDEX_SCALE"), (9, u "LOG2_ARRAY_BYTE_INDEX_SCALE"), (5, u "LOG2_ARRAY_CHAR_INDEX_SCALE"), (5, u "LOG2_ARRAY_SHORT_INDEX_SCALE"), (18, u "LOG2_ARRAY_FLOAT_INDEX_SCALE"), (24, u "LOG2_ARRAY_DOUBLE_INDEX_SCALE"), (89, u "T_BOOLEAN"), (2, u "T_CHAR"), (1, u "T_FLOAT"), (1, u "T_DOUBLE"), (1, u "T_BYTE"), (1, u "T_SHORT"), (1, u "T_INT"), (1, u "T_LONG"), (1, u "SOFT_MAX_ARRAY_LENGTH")] 83

def k26m0 : Method := { name := "<init>", desc := "()V", sig := { parameters := [], returnType := none }, accessFlags := 2, code := none }
/-- jdk/internal/util/ArraysSupport -/
def k26 : Class := { plain "jdk/internal/util/ArraysSupport" (some 0) with
  accessFlags := 33
  interfaces := #[]
  cf := some (fileOf pool26 21 #[] #[{ accessFlags := 2, nameIndex := 9, descriptorIndex := 19, attributes := #[] }] 33 16 #[] #[{ accessFlags := 24, nameIndex := 28, descriptorIndex := 29, attributes := #[] }, { accessFlags := 26, nameIndex := 38, descriptorIndex := 39, attributes := #[] }, { accessFlags := 25, nameIndex := 121, descriptorIndex := 25, attributes := #[] }, { accessFlags := 25, nameIndex := 131, descriptorIndex := 25, attributes := #[] }, { accessFlags := 25, nameIndex := 137, descriptorIndex := 25, attributes := #[] }, { accessFlags := 25, nameIndex := 143, descriptorIndex := 25, attributes := #[] }, { accessFlags := 25, nameIndex := 53, descriptorIndex := 25, attributes := #[] }, { accessFlags := 25, nameIndex := 24, descriptorIndex := 25, attributes := #[] }, { accessFlags := 25, nameIndex := 162, descriptorIndex := 25, attributes := #[] }, { accessFlags := 25, nameIndex := 187, descriptorIndex := 25, attributes := #[] }, { accessFlags := 26, nameIndex := 48, descriptorIndex := 25, attributes := #[] }, { accessFlags := 25, nameIndex := 277, descriptorIndex := 25, attributes := #[] }, { accessFlags := 25, nameIndex := 280, descriptorIndex := 25, attributes := #[] }, { accessFlags := 25, nameIndex := 282, descriptorIndex := 25, attributes := #[] }, { accessFlags := 25, nameIndex := 284, descriptorIndex := 25, attributes := #[] }, { accessFlags := 25, nameIndex := 286, descriptorIndex := 25, attributes := #[] }, { accessFlags := 25, nameIndex := 288, descriptorIndex := 25, attributes := #[] }, { accessFlags := 25, nameIndex := 290, descriptorIndex := 25, attributes := #[] }, { accessFlags := 25, nameIndex := 292, descriptorIndex := 25, attributes := #[] }, { accessFlags := 26, nameIndex := 108, descriptorIndex := 109, attributes := #[] }, { accessFlags := 25, nameIndex := 294, descriptorIndex := 25, attributes := #[] }])
  fields := #[{ name := "U", type := (.object "jdk/internal/misc/Unsafe"), accessFlags := 24, slot := 0, constantValue := 0 }, { name := "BIG_ENDIAN", type := .boolean, accessFlags := 26, slot := 1, constantValue := 0 }, { name := "LOG2_ARRAY_BOOLEAN_INDEX_SCALE", type := .int, accessFlags := 25, slot := 2, constantValue := 0 }, { name := "LOG2_ARRAY_BYTE_INDEX_SCALE", type := .int, accessFlags := 25, slot := 3, constantValue := 0 }, { name := "LOG2_ARRAY_CHAR_INDEX_SCALE", type := .int, accessFlags := 25, slot := 4, constantValue := 0 }, { name := "LOG2_ARRAY_SHORT_INDEX_SCALE", type := .int, accessFlags := 25, slot := 5, constantValue := 0 }, { name := "LOG2_ARRAY_INT_INDEX_SCALE", type := .int, accessFlags := 25, slot := 6, constantValue := 0 }, { name := "LOG2_ARRAY_LONG_INDEX_SCALE", type := .int, accessFlags := 25, slot := 7, constantValue := 0 }, { name := "LOG2_ARRAY_FLOAT_INDEX_SCALE", type := .int, accessFlags := 25, slot := 8, constantValue := 0 }, { name := "LOG2_ARRAY_DOUBLE_INDEX_SCALE", type := .int, accessFlags := 25, slot := 9, constantValue := 0 }, { name := "LOG2_BYTE_BIT_SIZE", type := .int, accessFlags := 26, slot := 10, constantValue := 0 }, { name := "T_BOOLEAN", type := .int, accessFlags := 25, slot := 11, constantValue := 0 }, { name := "T_CHAR", type := .int, accessFlags := 25, slot := 12, constantValue := 0 }, { name := "T_FLOAT", type := .int, accessFlags := 25, slot := 13, constantValue := 0 }, { name := "T_DOUBLE", type := .int, accessFlags := 25, slot := 14, constantValue := 0 }, { name := "T_BYTE", type := .int, accessFlags := 25, slot := 15, constantValue := 0 }, { name := "T_SHORT", type := .int, accessFlags := 25, slot := 16, constantValue := 0 }, { name := "T_INT", type := .int, accessFlags := 25, slot := 17, constantValue := 0 }, { name := "T_LONG", type := .int, accessFlags := 25, slot := 18, constantValue := 0 }, { name := "JLA", type := (.object "jdk/internal/access/JavaLangAccess"), accessFlags := 26, slot := 19, constantValue := 0 }, { name := "SOFT_MAX_ARRAY_LENGTH", type := .int, accessFlags := 25, slot := 20, constantValue := 0 }]
  methods := #[k26m0]
  instanceTypes := #[]
  staticTypes := #[(.object "jdk/internal/misc/Unsafe"), .boolean, .int, .int, .int, .int, .int, .int, .int, .int, .int, .int, .int, .int, .int, .int, .int, .int, .int, (.object "jdk/internal/access/JavaLangAccess"), .int]
  resolved := Array.replicate 378 none
  statics := none }

/-- the primitive byte -/
def k27 : Class := { plain "byte" none with kind := .primitive 'B', accessFlags := 0x411 }
/-- [B -/
def k28 : Class := { plain "[B" (some 0) with kind := .array 27 .byte, interfaces := #[16, 2], accessFlags := 1041 }

/-- the primitive char -/
def k29 : Class := { plain "char" none with kind := .primitive 'C', accessFlags := 0x411 }
/-- [C -/
def k30 : Class := { plain "[C" (some 0) with kind := .array 29 .char, interfaces := #[16, 2], accessFlags := 1041 }

/-- the primitive int -/
def k31 : Class := { plain "int" none with kind := .primitive 'I', accessFlags := 0x411 }
/-- [I -/
def k32 : Class := { plain "[I" (some 0) with kind := .array 31 .int, interfaces := #[16, 2], accessFlags := 1041 }

/-- [Ljava/lang/Object; -/
def k33 : Class := { plain "[Ljava/lang/Object;" (some 0) with kind := .array 0 (.object "java/lang/Object"), interfaces := #[16, 2], accessFlags := 1041 }

def heap : Heap := #[{ cls := 7, slots := #[.long 0, .int 1, .null, .int 0, .null, .int 0, .int 0], vm := .statics 7 },
  { cls := 17, slots := #[.long 0, .int 0, .ref 3, .ref 4], vm := .statics 17 },
  { cls := 24, slots := #[.null, .null, .null], vm := .statics 24 },
  { cls := 33, slots := #[], vm := .none },
  { cls := 33, slots := #[], vm := .none }]
def classes : Array Class := #[k0, k1, k2, k3, k4, k5, k6, k7, k8, k9, k10, k11, k12, k13, k14, k15, k16, k17, k18, k19, k20, k21, k22, k23, k24, k25, k26, k27, k28, k29, k30, k31, k32, k33]
def interned : List (Array UInt16 × Addr) := []
def slotsUsed : Nat := 14
def theMethod : MethodId := ⟨1, 2⟩
def args0 : Array Value := #[.int 4, .int 7, .int 8, .int 9, .long 7]
def aboutOver (below : List Frame) : State where
  vm := { classes := classes, interned := interned.toArray }
  heap := heap
  slotsUsed := slotsUsed
  threads := #[{ frames := .invoking theMethod args0 :: below }]
def below0 : List Frame := [.native { method := ⟨0, 0⟩, args := #[] }]
def about1 : State := aboutOver below0
def p0 : Program := .bare "" "" ""
def e0 : Env := launch0.env 0 0 0
theorem w_frames : about1.frames = Frame.invoking theMethod args0 :: below0 := rfl
set_option maxRecDepth 65536 in
theorem w_args : argsFit about1.vm theMethod args0 = true := by decide +kernel
set_option maxRecDepth 65536 in
theorem w_heap : heapFits about1 = true := by decide +kernel
set_option maxRecDepth 65536 in
theorem w_runnable : about1.curStatus? = some .runnable := by decide +kernel
set_option maxRecDepth 65536 in
theorem w_alone : about1.alone = true := by decide +kernel
set_option maxRecDepth 65536 in
theorem w_named : about1.methodNamed? x = some theMethod := by decide +kernel
set_option maxRecDepth 65536 in
theorem w_hears : about1.hears theMethod below0 = true := by decide +kernel
set_option maxRecDepth 65536 in
theorem w_ripe : about1.ripe theMethod args0 below0 = true := by decide +kernel
theorem w_running : about1.status = .running := rfl
set_option maxRecDepth 65536 in
theorem w_room : about1.hasRoom e0.platform room_1 = true :=
  launch0.hasRoom_least _ room_1 (by decide +kernel) (by decide +kernel) (by decide +kernel) (by decide +kernel) (by decide +kernel) (by decide +kernel)
theorem allAtoms_all (ts : List Jvm.Cond) (a : Array Jvm.Value) (st : Jvm.State) : (allAtoms ts).before a st = ts.all (fun c => c.before a st) := by
  induction ts with
  | nil => rfl
  | cons c t ih =>
    show (Jvm.Cond.and c (allAtoms t)).before a st = _
    rw [Jvm.Cond.before_and, ih, List.all_cons]
def words1 : List Jvm.Cond := Jvm.Cond.code x code maxLocals ret :: tables_1
/-- a 'code' word, met by the world's own term for the bytes: nothing is compared byte by byte -/
theorem code_word {y : MethodName} {bytes : ByteArray} {mx : Nat} {rt : Option FieldType} {a : Array Value} {s : State} {m : MethodId} {meth : Method} {c : Code} (h1 : s.methodNamed? y = some m) (h2 : s.vm.method? m = some meth) (h3 : meth.code = some c) (h4 : c.code = bytes)
    (h5 : (c.maxLocals == mx && c.exceptionTable.isEmpty && decide (c.maxStack ≤ mostOperands) && decide (meth.sig.returnType = rt) && !meth.locks && decide (parseMethodDescriptor y.desc = some meth.sig)) = true) : (Jvm.Cond.code y bytes mx rt).before a s = true := by
  simp only [Bool.and_eq_true, beq_iff_eq, Bool.not_eq_true', decide_eq_true_eq] at h5
  obtain ⟨⟨⟨⟨⟨g1, g2⟩, g3⟩, g4⟩, g5⟩, g6⟩ := h5
  simp [Cond.before, Cond.holds, Cond.value, h1, h2, h3, h4, g1, g2, g3, g4, g5, g6]
def isCode : Jvm.Cond → Bool
  | .code _ _ _ _ => true
  | _ => false
theorem all_split {L : List Jvm.Cond} {P : Jvm.Cond → Bool} (h1 : L.all (fun c => isCode c || P c) = true) (h2 : ∀ c ∈ L.filter isCode, P c = true) : L.all P = true := by
  refine List.all_eq_true.mpr fun c hc => ?_
  have h := List.all_eq_true.mp h1 c hc
  rcases Bool.eq_false_or_eq_true (isCode c) with hi | hi
  · exact h2 c (List.mem_filter.mpr ⟨hc, hi⟩)
  · simpa [hi] using h
set_option maxRecDepth 65536 in
theorem w_c0 : (Jvm.Cond.code x code maxLocals ret).before args0 about1 = true := code_word (m := ⟨1, 2⟩) (meth := k1m2) (c := k1c2) (by decide +kernel) rfl rfl rfl (by decide +kernel)
set_option maxRecDepth 65536 in
theorem w_c1 : (Jvm.Cond.code ({ cls := "com/example/forward_horizon/forwardhorizon/engine/EventFieldPinLaw", name := "two", desc := "(I)Ljava/lang/String;" } : Jvm.MethodName) method_2_code (2 : Nat) (Option.some (Jvm.ClassFile.FieldType.object "java/lang/String"))).before args0 about1 = true := code_word (m := ⟨1, 1⟩) (meth := k1m1) (c := k1c1) (by decide +kernel) rfl rfl rfl (by decide +kernel)
set_option maxRecDepth 65536 in
theorem w_c2 : (Jvm.Cond.code ({ cls := "java/lang/String", name := "<init>", desc := "([C)V" } : Jvm.MethodName) jdk_42_method_3_code (2 : Nat) (Option.none : Option Jvm.ClassFile.FieldType)).before args0 about1 = true := code_word (m := ⟨7, 1⟩) (meth := k7m1) (c := k7c1) (by decide +kernel) rfl rfl rfl (by decide +kernel)
set_option maxRecDepth 65536 in
theorem w_c3 : (Jvm.Cond.code ({ cls := "java/lang/String", name := "<init>", desc := "([CIILjava/lang/Void;)V" } : Jvm.MethodName) jdk_42_method_149_code (6 : Nat) (Option.none : Option Jvm.ClassFile.FieldType)).before args0 about1 = true := code_word (m := ⟨7, 3⟩) (meth := k7m3) (c := k7c3) (by decide +kernel) rfl rfl rfl (by decide +kernel)
set_option maxRecDepth 65536 in
theorem w_c4 : (Jvm.Cond.code ({ cls := "java/lang/Object", name := "<init>", desc := "()V" } : Jvm.MethodName) object_method_1_code (1 : Nat) (Option.none : Option Jvm.ClassFile.FieldType)).before args0 about1 = true := code_word (m := ⟨0, 0⟩) (meth := k0m0) (c := k0c0) (by decide +kernel) rfl rfl rfl (by decide +kernel)
set_option maxRecDepth 65536 in
theorem w_c5 : (Jvm.Cond.code ({ cls := "java/lang/StringUTF16", name := "compress", desc := "([CII)[B" } : Jvm.MethodName) jdk_52_method_16_code (6 : Nat) (Option.some (Jvm.ClassFile.FieldType.array Jvm.ClassFile.FieldType.byte))).before args0 about1 = true := code_word (m := ⟨8, 2⟩) (meth := k8m2) (c := k8c2) (by decide +kernel) rfl rfl rfl (by decide +kernel)
set_option maxRecDepth 65536 in
theorem w_c6 : (Jvm.Cond.code ({ cls := "java/lang/StringUTF16", name := "compress", desc := "([CI[BII)I" } : Jvm.MethodName) jdk_52_method_21_code (7 : Nat) (Option.some Jvm.ClassFile.FieldType.int)).before args0 about1 = true := code_word (m := ⟨8, 3⟩) (meth := k8m3) (c := k8c3) (by decide +kernel) rfl rfl rfl (by decide +kernel)
set_option maxRecDepth 65536 in
theorem w_c7 : (Jvm.Cond.code ({ cls := "java/lang/StringUTF16", name := "coderFromArrayLen", desc := "([BI)B" } : Jvm.MethodName) jdk_52_method_15_code (2 : Nat) (Option.some Jvm.ClassFile.FieldType.byte)).before args0 about1 = true := code_word (m := ⟨8, 1⟩) (meth := k8m1) (c := k8c1) (by decide +kernel) rfl rfl rfl (by decide +kernel)
set_option maxRecDepth 65536 in
theorem w_c8 : (Jvm.Cond.code ({ cls := "java/util/ArrayList", name := "<init>", desc := "()V" } : Jvm.MethodName) jdk_38_method_2_code (1 : Nat) (Option.none : Option Jvm.ClassFile.FieldType)).before args0 about1 = true := code_word (m := ⟨17, 0⟩) (meth := k17m0) (c := k17c0) (by decide +kernel) rfl rfl rfl (by decide +kernel)
set_option maxRecDepth 65536 in
theorem w_c9 : (Jvm.Cond.code ({ cls := "java/util/AbstractList", name := "<init>", desc := "()V" } : Jvm.MethodName) jdk_39_method_1_code (1 : Nat) (Option.none : Option Jvm.ClassFile.FieldType)).before args0 about1 = true := code_word (m := ⟨14, 0⟩) (meth := k14m0) (c := k14c0) (by decide +kernel) rfl rfl rfl (by decide +kernel)
set_option maxRecDepth 65536 in
theorem w_c10 : (Jvm.Cond.code ({ cls := "java/util/AbstractCollection", name := "<init>", desc := "()V" } : Jvm.MethodName) jdk_22_method_1_code (1 : Nat) (Option.none : Option Jvm.ClassFile.FieldType)).before args0 about1 = true := code_word (m := ⟨11, 0⟩) (meth := k11m0) (c := k11c0) (by decide +kernel) rfl rfl rfl (by decide +kernel)
set_option maxRecDepth 65536 in
theorem w_c11 : (Jvm.Cond.code ({ cls := "java/util/ArrayList", name := "add", desc := "(Ljava/lang/Object;)Z" } : Jvm.MethodName) jdk_38_method_25_code (2 : Nat) (Option.some Jvm.ClassFile.FieldType.boolean)).before args0 about1 = true := code_word (m := ⟨17, 6⟩) (meth := k17m6) (c := k17c6) (by decide +kernel) rfl rfl rfl (by decide +kernel)
set_option maxRecDepth 65536 in
theorem w_c12 : (Jvm.Cond.code ({ cls := "java/util/ArrayList", name := "add", desc := "(Ljava/lang/Object;[Ljava/lang/Object;I)V" } : Jvm.MethodName) jdk_38_method_24_code (4 : Nat) (Option.none : Option Jvm.ClassFile.FieldType)).before args0 about1 = true := code_word (m := ⟨17, 5⟩) (meth := k17m5) (c := k17c5) (by decide +kernel) rfl rfl rfl (by decide +kernel)
set_option maxRecDepth 65536 in
theorem w_c13 : (Jvm.Cond.code ({ cls := "java/util/ArrayList", name := "grow", desc := "()[Ljava/lang/Object;" } : Jvm.MethodName) jdk_38_method_7_code (1 : Nat) (Option.some (Jvm.ClassFile.FieldType.array (Jvm.ClassFile.FieldType.object "java/lang/Object")))).before args0 about1 = true := code_word (m := ⟨17, 2⟩) (meth := k17m2) (c := k17c2) (by decide +kernel) rfl rfl rfl (by decide +kernel)
set_option maxRecDepth 65536 in
theorem w_c14 : (Jvm.Cond.code ({ cls := "java/util/ArrayList", name := "grow", desc := "(I)[Ljava/lang/Object;" } : Jvm.MethodName) jdk_38_method_6_code (4 : Nat) (Option.some (Jvm.ClassFile.FieldType.array (Jvm.ClassFile.FieldType.object "java/lang/Object")))).before args0 about1 = true := code_word (m := ⟨17, 1⟩) (meth := k17m1) (c := k17c1) (by decide +kernel) rfl rfl rfl (by decide +kernel)
set_option maxRecDepth 65536 in
theorem w_c15 : (Jvm.Cond.code ({ cls := "java/lang/Math", name := "max", desc := "(II)I" } : Jvm.MethodName) jdk_29_method_65_code (2 : Nat) (Option.some Jvm.ClassFile.FieldType.int)).before args0 about1 = true := code_word (m := ⟨18, 1⟩) (meth := k18m1) (c := k18c1) (by decide +kernel) rfl rfl rfl (by decide +kernel)
set_option maxRecDepth 65536 in
theorem w_c16 : (Jvm.Cond.code ({ cls := "com/example/forward_horizon/forwardhorizon/engine/Event", name := "<init>", desc := "(Ljava/util/List;J)V" } : Jvm.MethodName) prog_4_method_1_code (4 : Nat) (Option.none : Option Jvm.ClassFile.FieldType)).before args0 about1 = true := code_word (m := ⟨19, 0⟩) (meth := k19m0) (c := k19c0) (by decide +kernel) rfl rfl rfl (by decide +kernel)
set_option maxRecDepth 65536 in
theorem w_c17 : (Jvm.Cond.code ({ cls := "java/util/concurrent/atomic/AtomicInteger", name := "<init>", desc := "(I)V" } : Jvm.MethodName) jdk_2803_method_1_code (2 : Nat) (Option.none : Option Jvm.ClassFile.FieldType)).before args0 about1 = true := code_word (m := ⟨21, 0⟩) (meth := k21m0) (c := k21c0) (by decide +kernel) rfl rfl rfl (by decide +kernel)
set_option maxRecDepth 65536 in
theorem w_c18 : (Jvm.Cond.code ({ cls := "java/lang/Number", name := "<init>", desc := "()V" } : Jvm.MethodName) jdk_18_method_1_code (1 : Nat) (Option.none : Option Jvm.ClassFile.FieldType)).before args0 about1 = true := code_word (m := ⟨20, 0⟩) (meth := k20m0) (c := k20c0) (by decide +kernel) rfl rfl rfl (by decide +kernel)
set_option maxRecDepth 65536 in
theorem w_c19 : (Jvm.Cond.code ({ cls := "java/util/concurrent/atomic/AtomicLong", name := "<init>", desc := "(J)V" } : Jvm.MethodName) jdk_2805_method_2_code (3 : Nat) (Option.none : Option Jvm.ClassFile.FieldType)).before args0 about1 = true := code_word (m := ⟨22, 0⟩) (meth := k22m0) (c := k22c0) (by decide +kernel) rfl rfl rfl (by decide +kernel)
set_option maxRecDepth 65536 in
theorem w_c20 : (Jvm.Cond.code ({ cls := "com/example/forward_horizon/forwardhorizon/engine/Event", name := "field", desc := "(I)Ljava/lang/String;" } : Jvm.MethodName) prog_4_method_2_code (2 : Nat) (Option.some (Jvm.ClassFile.FieldType.object "java/lang/String"))).before args0 about1 = true := code_word (m := ⟨19, 1⟩) (meth := k19m1) (c := k19c1) (by decide +kernel) rfl rfl rfl (by decide +kernel)
set_option maxRecDepth 65536 in
theorem w_c21 : (Jvm.Cond.code ({ cls := "java/util/ArrayList", name := "get", desc := "(I)Ljava/lang/Object;" } : Jvm.MethodName) jdk_38_method_20_code (2 : Nat) (Option.some (Jvm.ClassFile.FieldType.object "java/lang/Object"))).before args0 about1 = true := code_word (m := ⟨17, 4⟩) (meth := k17m4) (c := k17c4) (by decide +kernel) rfl rfl rfl (by decide +kernel)
set_option maxRecDepth 65536 in
theorem w_c22 : (Jvm.Cond.code ({ cls := "java/util/Objects", name := "checkIndex", desc := "(II)I" } : Jvm.MethodName) jdk_31_method_17_code (2 : Nat) (Option.some Jvm.ClassFile.FieldType.int)).before args0 about1 = true := code_word (m := ⟨23, 1⟩) (meth := k23m1) (c := k23c1) (by decide +kernel) rfl rfl rfl (by decide +kernel)
set_option maxRecDepth 65536 in
theorem w_c23 : (Jvm.Cond.code ({ cls := "jdk/internal/util/Preconditions", name := "checkIndex", desc := "(IILjava/util/function/BiFunction;)I" } : Jvm.MethodName) jdk_41_method_11_code (3 : Nat) (Option.some Jvm.ClassFile.FieldType.int)).before args0 about1 = true := code_word (m := ⟨24, 1⟩) (meth := k24m1) (c := k24c1) (by decide +kernel) rfl rfl rfl (by decide +kernel)
set_option maxRecDepth 65536 in
theorem w_c24 : (Jvm.Cond.code ({ cls := "java/util/ArrayList", name := "elementData", desc := "(I)Ljava/lang/Object;" } : Jvm.MethodName) jdk_38_method_18_code (2 : Nat) (Option.some (Jvm.ClassFile.FieldType.object "java/lang/Object"))).before args0 about1 = true := code_word (m := ⟨17, 3⟩) (meth := k17m3) (c := k17c3) (by decide +kernel) rfl rfl rfl (by decide +kernel)
set_option maxRecDepth 65536 in
theorem w_c25 : (Jvm.Cond.code ({ cls := "java/lang/String", name := "equals", desc := "(Ljava/lang/Object;)Z" } : Jvm.MethodName) jdk_42_method_66_code (3 : Nat) (Option.some Jvm.ClassFile.FieldType.boolean)).before args0 about1 = true := code_word (m := ⟨7, 2⟩) (meth := k7m2) (c := k7c2) (by decide +kernel) rfl rfl rfl (by decide +kernel)
def codes1 : List Jvm.Cond := [Jvm.Cond.code x code maxLocals ret, Jvm.Cond.code ({ cls := "com/example/forward_horizon/forwardhorizon/engine/EventFieldPinLaw", name := "two", desc := "(I)Ljava/lang/String;" } : Jvm.MethodName) method_2_code (2 : Nat) (Option.some (Jvm.ClassFile.FieldType.object "java/lang/String")), Jvm.Cond.code ({ cls := "java/lang/String", name := "<init>", desc := "([C)V" } : Jvm.MethodName) jdk_42_method_3_code (2 : Nat) (Option.none : Option Jvm.ClassFile.FieldType), Jvm.Cond.code ({ cls := "java/lang/String", name := "<init>", desc := "([CIILjava/lang/Void;)V" } : Jvm.MethodName) jdk_42_method_149_code (6 : Nat) (Option.none : Option Jvm.ClassFile.FieldType), Jvm.Cond.code ({ cls := "java/lang/Object", name := "<init>", desc := "()V" } : Jvm.MethodName) object_method_1_code (1 : Nat) (Option.none : Option Jvm.ClassFile.FieldType), Jvm.Cond.code ({ cls := "java/lang/StringUTF16", name := "compress", desc := "([CII)[B" } : Jvm.MethodName) jdk_52_method_16_code (6 : Nat) (Option.some (Jvm.ClassFile.FieldType.array Jvm.ClassFile.FieldType.byte)), Jvm.Cond.code ({ cls := "java/lang/StringUTF16", name := "compress", desc := "([CI[BII)I" } : Jvm.MethodName) jdk_52_method_21_code (7 : Nat) (Option.some Jvm.ClassFile.FieldType.int), Jvm.Cond.code ({ cls := "java/lang/StringUTF16", name := "coderFromArrayLen", desc := "([BI)B" } : Jvm.MethodName) jdk_52_method_15_code (2 : Nat) (Option.some Jvm.ClassFile.FieldType.byte), Jvm.Cond.code ({ cls := "java/util/ArrayList", name := "<init>", desc := "()V" } : Jvm.MethodName) jdk_38_method_2_code (1 : Nat) (Option.none : Option Jvm.ClassFile.FieldType), Jvm.Cond.code ({ cls := "java/util/AbstractList", name := "<init>", desc := "()V" } : Jvm.MethodName) jdk_39_method_1_code (1 : Nat) (Option.none : Option Jvm.ClassFile.FieldType), Jvm.Cond.code ({ cls := "java/util/AbstractCollection", name := "<init>", desc := "()V" } : Jvm.MethodName) jdk_22_method_1_code (1 : Nat) (Option.none : Option Jvm.ClassFile.FieldType), Jvm.Cond.code ({ cls := "java/util/ArrayList", name := "add", desc := "(Ljava/lang/Object;)Z" } : Jvm.MethodName) jdk_38_method_25_code (2 : Nat) (Option.some Jvm.ClassFile.FieldType.boolean), Jvm.Cond.code ({ cls := "java/util/ArrayList", name := "add", desc := "(Ljava/lang/Object;[Ljava/lang/Object;I)V" } : Jvm.MethodName) jdk_38_method_24_code (4 : Nat) (Option.none : Option Jvm.ClassFile.FieldType), Jvm.Cond.code ({ cls := "java/util/ArrayList", name := "grow", desc := "()[Ljava/lang/Object;" } : Jvm.MethodName) jdk_38_method_7_code (1 : Nat) (Option.some (Jvm.ClassFile.FieldType.array (Jvm.ClassFile.FieldType.object "java/lang/Object"))), Jvm.Cond.code ({ cls := "java/util/ArrayList", name := "grow", desc := "(I)[Ljava/lang/Object;" } : Jvm.MethodName) jdk_38_method_6_code (4 : Nat) (Option.some (Jvm.ClassFile.FieldType.array (Jvm.ClassFile.FieldType.object "java/lang/Object"))), Jvm.Cond.code ({ cls := "java/lang/Math", name := "max", desc := "(II)I" } : Jvm.MethodName) jdk_29_method_65_code (2 : Nat) (Option.some Jvm.ClassFile.FieldType.int), Jvm.Cond.code ({ cls := "com/example/forward_horizon/forwardhorizon/engine/Event", name := "<init>", desc := "(Ljava/util/List;J)V" } : Jvm.MethodName) prog_4_method_1_code (4 : Nat) (Option.none : Option Jvm.ClassFile.FieldType), Jvm.Cond.code ({ cls := "java/util/concurrent/atomic/AtomicInteger", name := "<init>", desc := "(I)V" } : Jvm.MethodName) jdk_2803_method_1_code (2 : Nat) (Option.none : Option Jvm.ClassFile.FieldType), Jvm.Cond.code ({ cls := "java/lang/Number", name := "<init>", desc := "()V" } : Jvm.MethodName) jdk_18_method_1_code (1 : Nat) (Option.none : Option Jvm.ClassFile.FieldType), Jvm.Cond.code ({ cls := "java/util/concurrent/atomic/AtomicLong", name := "<init>", desc := "(J)V" } : Jvm.MethodName) jdk_2805_method_2_code (3 : Nat) (Option.none : Option Jvm.ClassFile.FieldType), Jvm.Cond.code ({ cls := "com/example/forward_horizon/forwardhorizon/engine/Event", name := "field", desc := "(I)Ljava/lang/String;" } : Jvm.MethodName) prog_4_method_2_code (2 : Nat) (Option.some (Jvm.ClassFile.FieldType.object "java/lang/String")), Jvm.Cond.code ({ cls := "java/util/ArrayList", name := "get", desc := "(I)Ljava/lang/Object;" } : Jvm.MethodName) jdk_38_method_20_code (2 : Nat) (Option.some (Jvm.ClassFile.FieldType.object "java/lang/Object")), Jvm.Cond.code ({ cls := "java/util/Objects", name := "checkIndex", desc := "(II)I" } : Jvm.MethodName) jdk_31_method_17_code (2 : Nat) (Option.some Jvm.ClassFile.FieldType.int), Jvm.Cond.code ({ cls := "jdk/internal/util/Preconditions", name := "checkIndex", desc := "(IILjava/util/function/BiFunction;)I" } : Jvm.MethodName) jdk_41_method_11_code (3 : Nat) (Option.some Jvm.ClassFile.FieldType.int), Jvm.Cond.code ({ cls := "java/util/ArrayList", name := "elementData", desc := "(I)Ljava/lang/Object;" } : Jvm.MethodName) jdk_38_method_18_code (2 : Nat) (Option.some (Jvm.ClassFile.FieldType.object "java/lang/Object")), Jvm.Cond.code ({ cls := "java/lang/String", name := "equals", desc := "(Ljava/lang/Object;)Z" } : Jvm.MethodName) jdk_42_method_66_code (3 : Nat) (Option.some Jvm.ClassFile.FieldType.boolean)]
set_option maxRecDepth 65536 in
theorem codes_eq : words1.filter isCode = codes1 := rfl
theorem w_codes : ∀ c ∈ words1.filter isCode, c.before args0 about1 = true := by
  rw [codes_eq]
  intro c hc
  simp only [codes1, List.mem_cons, List.not_mem_nil, or_false] at hc
  rcases hc with rfl | rfl | rfl | rfl | rfl | rfl | rfl | rfl | rfl | rfl | rfl | rfl | rfl | rfl | rfl | rfl | rfl | rfl | rfl | rfl | rfl | rfl | rfl | rfl | rfl | rfl
  · exact w_c0
  · exact w_c1
  · exact w_c2
  · exact w_c3
  · exact w_c4
  · exact w_c5
  · exact w_c6
  · exact w_c7
  · exact w_c8
  · exact w_c9
  · exact w_c10
  · exact w_c11
  · exact w_c12
  · exact w_c13
  · exact w_c14
  · exact w_c15
  · exact w_c16
  · exact w_c17
  · exact w_c18
  · exact w_c19
  · exact w_c20
  · exact w_c21
  · exact w_c22
  · exact w_c23
  · exact w_c24
  · exact w_c25
set_option maxRecDepth 65536 in
theorem w_t1 : (words1.take 24).all (fun c => isCode c || c.before args0 about1) = true := by decide +kernel
set_option maxRecDepth 65536 in
theorem w_t2 : ((words1.drop 24).take 24).all (fun c => isCode c || c.before args0 about1) = true := by decide +kernel
set_option maxRecDepth 65536 in
theorem w_t3 : (((words1.drop 24).drop 24).take 24).all (fun c => isCode c || c.before args0 about1) = true := by decide +kernel
set_option maxRecDepth 65536 in
theorem w_t4 : ((((words1.drop 24).drop 24).drop 24).take 24).all (fun c => isCode c || c.before args0 about1) = true := by decide +kernel
set_option maxRecDepth 65536 in
theorem w_t5 : (((((words1.drop 24).drop 24).drop 24).drop 24).take 24).all (fun c => isCode c || c.before args0 about1) = true := by decide +kernel
set_option maxRecDepth 65536 in
theorem w_t6 : ((((((words1.drop 24).drop 24).drop 24).drop 24).drop 24).take 24).all (fun c => isCode c || c.before args0 about1) = true := by decide +kernel
set_option maxRecDepth 65536 in
theorem w_t7 : ((((((words1.drop 24).drop 24).drop 24).drop 24).drop 24).drop 24).all (fun c => isCode c || c.before args0 about1) = true := by decide +kernel
theorem w_tables : (allAtoms (Jvm.Cond.code x code maxLocals ret :: tables_1)).before args0 about1 = true := by
  rw [allAtoms_all]
  show words1.all (fun c => c.before args0 about1) = true
  refine all_split ?_ w_codes
  rw [← List.take_append_drop 24 words1, List.all_append, w_t1, ← List.take_append_drop 24 (words1.drop 24), List.all_append, w_t2, ← List.take_append_drop 24 ((words1.drop 24).drop 24), List.all_append, w_t3, ← List.take_append_drop 24 (((words1.drop 24).drop 24).drop 24), List.all_append, w_t4, ← List.take_append_drop 24 ((((words1.drop 24).drop 24).drop 24).drop 24), List.all_append, w_t5, ← List.take_append_drop 24 (((((words1.drop 24).drop 24).drop 24).drop 24).drop 24), List.all_append, w_t6, w_t7]
  rfl
set_option maxRecDepth 65536 in
theorem w_rest : rest_1_c.before args0 about1 = true := by decide +kernel
set_option maxRecDepth 65536 in
theorem w_case : (Jvm.Cond.and given_1 narrow_1).before args0 about1 = true := by decide +kernel
theorem w_applies : (headSpec (Jvm.Cond.code x code maxLocals ret :: tables_1) room_1).applies x e0.platform about1 = true :=
  (Spec.applies_iff w_frames).mpr ⟨w_running, w_runnable, w_alone, w_named, w_hears, w_ripe, w_room, w_tables⟩
theorem atStart : AtStart classFile x code maxLocals ret World_1 tables_1 room_1 Calls_1 rest_1 Pre_1 launch0 p0 e0 about1 theMethod args0 below0 :=
  ⟨lists_1, trivial, launch0.admits_env _ _ _, launch0.least_env, fairChoices_fair.cas, fairChoices_fair.clock, w_frames, w_args, w_heap, w_applies, trivial, w_rest, w_case⟩
end start1
theorem witness_1 : WitnessClaimed_1 := ⟨start1.p0, start1.e0, start1.about1, start1.theMethod, start1.args0, start1.below0, start1.atStart⟩
end Jvm.Pilot.@@N@@
