import JvmDerived
import JvmDerived.Pilot.@@N@@Statement
import JvmDerived.Pilot.@@N@@Code
set_option linter.unusedVariables false
set_option linter.unusedSimpArgs false
namespace Jvm.RoadKit
open Sem ClassFile Op Lib Jvm.Stand Jvm.Free Jvm.LawKit
section Own
variable {p : Program} {l : Launch} {e : Env} {R : Room} {s : State} {m : MethodId} {args : Array Value} {below : List Frame} {meth : Method} {c : Code} {T : State} {locs : List Loc} {cells slots : Nat}
theorem retI (X : Stand p l e R s m args below meth c T locs cells slots) (hx : p.tables.exec = Jvm.exec) {pc : Nat} {Ls : Array Slot} {z : Int32} {rest : List Value} (hret : meth.sig.returnType = some .int) (hd : decode c.code pc = .ok (.ireturn, 1)) {fs : List Frame}
    (hl : ∀ (f : JFrame) (acts : List Action), f.method = m → f.locked = none → f.entered = [] → (doReturn e (T.setTop f) acts (some (.int z))).1 = T.setFrames fs) : Steps p.tables e below (T.setTop (mkF m pc Ls (.int z :: rest))) (T.setFrames fs) := by
  have hm' : T.vm.method? m = some meth := X.method'
  have hn : narrow .int (.int z) = .int z := rfl
  show Steps p.tables e below (T.setTop { method := m, pc := pc, locals := Ls, stack := _ :: rest, locked := none }) _
  jvm_step X.here [X.here.top, hx, hd, hm', hret, hn]
  first | (intro acts; rw [hl _ acts rfl rfl rfl]) | rw [hl _ _ rfl rfl rfl]
  exact Steps.refl _
/-- the walk from S ends as K says -/
def Way (tb : Tables) (e : Env) (below : List Frame) (K : Outcome → State → Prop) (S : State) : Prop := ∃ s₂ o, Steps tb e below S s₂ ∧ s₂.status = .running ∧ Ended s₂ below o ∧ K o s₂
theorem Way.by {tb : Tables} {K : Outcome → State → Prop} {A B : State} (st : ∀ t, Steps tb e below B t → Steps tb e below A t) (h : Way tb e below K B) : Way tb e below K A := by
  obtain ⟨s₂, o, h1, h2⟩ := h; exact ⟨s₂, o, st _ h1, h2⟩
theorem Way.to {tb : Tables} {K : Outcome → State → Prop} {A B : State} (st : Steps tb e below A B) (h : Way tb e below K B) : Way tb e below K A := by
  obtain ⟨s₂, o, h1, h2⟩ := h; exact ⟨s₂, o, st.trans h1, h2⟩
abbrev KQ (s : State) (Q : Option Value → Heap → List Loc → Prop) (C S : Nat) : Outcome → State → Prop := fun o s₂ => ∃ v L, o = .returned v ∧ Q v s₂.heap L ∧ FrameEnd s o s₂ L C S
theorem Way.ret {Q : Option Value → Heap → List Loc → Prop} {C S : Nat} {A : State} {v : Option Value} (X : Stand p l e R s m args below meth c T locs cells slots) (hlk : meth.locks = false) (hv : meth.sig.returnType = none → v = none)
    (hret : ∀ fs, (∀ (f : JFrame) (acts : List Action), f.method = m → f.locked = none → f.entered = [] → (doReturn e (T.setTop f) acts v).1 = T.setFrames fs) → Steps p.tables e below A (T.setFrames fs))
    (hQ : Q v T.heap locs) (hc : cells ≤ C) (hs : slots ≤ S) : Way p.tables e below (KQ s Q C S) A := by
  obtain ⟨fs, hr, hrun, hended, hW, hsame⟩ := X.leave hv hlk
  exact ⟨_, _, hret fs hr, hrun, hended, _, _, rfl, hQ, ⟨_, rfl⟩, hW, hsame.mono hc hs⟩
abbrev KQW (s : State) (Q : Option Value → Heap → List Loc → Prop) (C S : Nat) : Outcome → State → Prop := fun o s₂ => ∃ v L, o = .returned v ∧ Q v s₂.heap L ∧ ReturnedEndW s o s₂ L C S
theorem Way.retW {Q : Option Value → Heap → List Loc → Prop} {C S : Nat} {A : State} {v : Option Value} {vm1 : Vm} {n : Nat} (X : Stand p l e R (s.setVm vm1) m args below meth c T locs cells slots) (hS : s.Since vm1 n) (hn : n ≤ T.heap.size) (hlk : meth.locks = false) (hv : meth.sig.returnType = none → v = none)
    (hret : ∀ fs, (∀ (f : JFrame) (acts : List Action), f.method = m → f.locked = none → f.entered = [] → (doReturn e (T.setTop f) acts v).1 = T.setFrames fs) → Steps p.tables e below A (T.setFrames fs))
    (hQ : Q v T.heap locs) (hc : cells ≤ C) (hs : slots ≤ S) : Way p.tables e below (KQW s Q C S) A := by
  obtain ⟨fs, hr, hrun, hended, h1, h2, h3, h4⟩ := X.leaveW hS hn hv hlk
  exact ⟨_, _, hret fs hr, hrun, hended, _, _, rfl, hQ, h1, h2, h3, h4.mono hc hs⟩
abbrev KQH (s Z : State) (EL : List (String × Nat)) (Q : Option Value → Heap → List Loc → Prop) (C S : Nat) : Outcome → State → Prop := fun o s₂ => ∃ v L, o = .returned v ∧ Q v s₂.heap L ∧ CHr Z EL s.vm s.heap s₂.vm s₂.heap ∧ ReturnedEndW s o s₂ L C S
theorem Way.retH {Z : State} {a0 : Array Value} {EL : List (String × Nat)} {Q : Option Value → Heap → List Loc → Prop} {C S : Nat} {A : State} {v : Option Value} {vm1 : Vm} {n : Nat} {h h0 : Heap} (X : Stand p l e R (s.setVm vm1) m args below meth c T locs cells slots) (hS : s.Since vm1 n) (hn : n ≤ T.heap.size) (hZ : Z.Warmed39 vm1) (hEL : EW Z a0 EL) (hh : s.heap = h0) (eT : T.heap = h) (H : CHv Z EL vm1 h) (CH : CHr Z EL s.vm h0 vm1 h) (hlk : meth.locks = false) (hv : meth.sig.returnType = none → v = none)
    (hret : ∀ fs, (∀ (f : JFrame) (acts : List Action), f.method = m → f.locked = none → f.entered = [] → (doReturn e (T.setTop f) acts v).1 = T.setFrames fs) → Steps p.tables e below A (T.setFrames fs))
    (hQ : Q v T.heap locs) (hc : cells ≤ C) (hs : slots ≤ S) : Way p.tables e below (KQH s Z EL Q C S) A := by
  obtain ⟨fs, hr, hrun, hended, h1, h2, h3, h4⟩ := X.leaveW hS hn hv hlk
  refine ⟨_, _, hret fs hr, hrun, hended, _, _, rfl, hQ, ?_, h1, h2, h3, h4.mono hc hs⟩
  have B := CHv.at X hZ hEL H
  show CHr Z EL s.vm s.heap T.vm T.heap
  rw [hh, eT]; exact CH.trans B
theorem fldStart {Z : State} {args : Array Value} {t : Term} {a : Addr} {C n d : String} {k : Int32} (ev : t.eval args Z none [] Z = some (.ref a)) (h : (Cond.eq (.field t C n d) (.int k)).value args Z none Z [] = some true) : Fld Z Z.heap a C n d (.int k) := by
  refine Fld.start ?_
  have e1 : (Term.field t C n d).eval args Z none [] Z = Z.fieldOf? a C n d := fld_at ev
  simp only [Cond.value] at h
  rw [e1, show (Term.int k).eval args Z none [] Z = some (.int k) from rfl] at h
  cases hf : Z.fieldOf? a C n d with
  | none => simp [hf] at h
  | some w => cases w <;> simp [hf] at h ⊢; exact h
theorem envNe {Z : State} {args : Array Value} {t : Term} {v : Int32} (ev : t.eval args Z none [] Z = some (.int v)) (h : (Cond.not (.eq t (.int 0))).before args Z = true) : v ≠ 0 := by
  have h2 := Cond.before_iff.mp h
  intro q; subst q
  simp only [Cond.value] at h2
  rw [ev] at h2
  simp [Term.eval] at h2
theorem envRef {Z : State} {args : Array Value} {t : Term} (h : (Cond.isRef t).before args Z = true) : ∃ G, t.eval args Z none [] Z = some G ∧ G.isRef = true := by
  have h2 := Cond.before_iff.mp h
  cases ht : t.eval args Z none [] Z with
  | none => simp [Cond.value, ht] at h2
  | some w => exact ⟨w, rfl, by cases w <;> simp [Cond.value, ht] at h2 <;> rfl⟩
theorem own_getD {α : Type} {u : List α} {i : Nat} (d : α) (h : i < u.length) : u.getD i d = u[i] := by rw [List.getD_eq_getElem?_getD, List.getElem?_eq_getElem h]; rfl
theorem hpE {T : State} {h : Heap} {a : Addr} {c : Cell} (e : T.heap = h) (A : h[a]? = some c) : T.heap[a]? = some c := by rw [e]; exact A
theorem remB (x d : Int32) (D : Int) (hd : d.toInt = D) (h0 : 0 < D) : 0 ≤ ((x &&& 2147483647) % d).toInt ∧ ((x &&& 2147483647) % d).toInt < D := by
  have h1 := c_and x 2147483647 (by decide)
  rw [(c_irem (x &&& 2147483647) d D hd).1 h1.1]
  exact ⟨Int.emod_nonneg _ (by omega), Int.emod_lt_of_pos _ h0⟩
theorem cases3 {k : Int32} (h : 0 ≤ k.toInt ∧ k.toInt < 3) : k = 0 ∨ k = 1 ∨ k = 2 := by
  have q : k.toInt = 0 ∨ k.toInt = 1 ∨ k.toInt = 2 := by omega
  rcases q with q | q | q
  · exact Or.inl (Int32.toInt_inj.mp q)
  · exact Or.inr (Or.inl (Int32.toInt_inj.mp q))
  · exact Or.inr (Or.inr (Int32.toInt_inj.mp q))
theorem cases5 {k : Int32} (h : 0 ≤ k.toInt ∧ k.toInt < 5) : k = 0 ∨ k = 1 ∨ k = 2 ∨ k = 3 ∨ k = 4 := by
  have q : k.toInt = 0 ∨ k.toInt = 1 ∨ k.toInt = 2 ∨ k.toInt = 3 ∨ k.toInt = 4 := by omega
  rcases q with q | q | q | q | q
  · exact Or.inl (Int32.toInt_inj.mp q)
  · exact Or.inr (Or.inl (Int32.toInt_inj.mp q))
  · exact Or.inr (Or.inr (Or.inl (Int32.toInt_inj.mp q)))
  · exact Or.inr (Or.inr (Or.inr (Or.inl (Int32.toInt_inj.mp q))))
  · exact Or.inr (Or.inr (Or.inr (Or.inr (Int32.toInt_inj.mp q))))
theorem nfSel {s : State} {args : Array Value} {C : String} {y z : MethodName} (hyz : z.cls = y.cls) (hsel : (Cond.selects C z z).before args s = true) : NotFace s y := fun r0 h0 => by
  obtain ⟨c, r, m, -, -, hn, -, mk, hk, hni⟩ := Cond.selects_spec hsel
  have e1 := findClass_of_methodNamed h0
  have e2 := findClass_of_methodNamed hn
  rw [hyz, e1] at e2
  refine ⟨mk, ?_, hni⟩
  first | (rw [Option.some.inj e2]; exact hk) | (rw [← Option.some.inj e2]; exact hk)
theorem sameOwn {s : State} {args : Array Value} {C : String} {y z : MethodName} (hyz : z.cls = y.cls) (hsel : (Cond.selects C z z).before args s = true) (hinst : (Cond.instanceMethod y).before args s = true) (hy : y.cls ≠ "java/lang/invoke/MethodHandle" ∧ y.cls ≠ "java/lang/invoke/VarHandle") : (Cond.sameMethod y.cls y.cls y.name y.desc).before args s = true := by
  obtain ⟨mk, methM, hnamed, -⟩ := Cond.instanceMethod_spec hinst
  obtain ⟨kr, hk, hni⟩ := nfSel hyz hsel mk hnamed
  have hf := State.methodFound?_of_named hnamed hy
  have hc := findClass_of_methodNamed hnamed
  have hn2 : s.methodNamed? ⟨y.cls, y.name, y.desc⟩ = some mk := hnamed
  simp [Cond.before, Cond.holds, Cond.value, hc, hf, hn2, hk, hni]
theorem selPriv {s : State} {args : Array Value} {C : String} {y z : MethodName} (hyz : z.cls = y.cls) (hsel : (Cond.selects C z z).before args s = true) (hpriv : s.PrivateAt y) (hinst : (Cond.instanceMethod y).before args s = true) (hy : y.cls ≠ "java/lang/invoke/MethodHandle" ∧ y.cls ≠ "java/lang/invoke/VarHandle") : (Cond.selects y.cls y y).before args s = true := by
  obtain ⟨c, r, m, -, -, hn, -, mk, hk, hni⟩ := Cond.selects_spec hsel
  exact selects_self_of_private (by rw [← hyz]; exact findClass_of_methodNamed hn) hk hni hpriv hinst hy
theorem arrS {Z s : State} {h : Heap} {a : Addr} {cl : Cell} {ty : FieldType} (hZ : Z.Warmed39 s.vm) (A : Arr Z h a cl ty) : s.isArrayOf cl ty := State.isArrayOf_alike hZ.alike A.2.1
theorem evInt {Z : State} {args : Array Value} {t : Term} {k : Int32} (h : (Cond.eq t (.int k)).value args Z none Z [] = some true) : t.eval args Z none [] Z = some (.int k) := by
  cases ht : t.eval args Z none [] Z with
  | none => simp [Cond.value, ht] at h
  | some w => cases w <;> simp [Cond.value, ht, Term.eval] at h ⊢; exact h
theorem evRef {Z : State} {args : Array Value} {t u : Term} {a : Addr} (h : (Cond.eq t u).value args Z none Z [] = some true) (hu : u.eval args Z none [] Z = some (.ref a)) : t.eval args Z none [] Z = some (.ref a) := by
  cases ht : t.eval args Z none [] Z with
  | none => simp [Cond.value, ht] at h
  | some w => cases w <;> simp [Cond.value, ht, hu] at h ⊢; exact h
end Own
end Jvm.RoadKit
/- laws to paste: Road.backV, Road.lenW, Road.chN, Road.eqW, Road.codOf (cut by pick.py; bodies as the Statement names them) -/
namespace Jvm.Pilot.@@N@@
namespace StrChars
open Jvm Sem ClassFile Op Lib Jvm.Stand Jvm.Free.XT Jvm.Free.ALB Jvm.Free.JM Jvm.Free
open Jvm.Lib.Cold (StaticIs)
/-- a char array whose places are chars -/
def Ch (a : Addr) (A : Cell) (U : State) : Prop := Arr .char a A U ∧ Typed .char A
theorem Ch.mv {a : Addr} {A : Cell} {U U' : State} (h : Ch a A U) (hal : U.vm.Alike U'.vm) (hh : U'.heap = U.heap) : Ch a A U' := ⟨h.1.mv hal hh, h.2⟩
theorem Ch.keep {a : Addr} {A : Cell} {U U' : State} (h : Ch a A U) (hal : U.vm.Alike U'.vm) (hk : U'.heap[a]? = some A) : Ch a A U' := ⟨h.1.keep hal hk, h.2⟩
/-- what place i of a char[]'s cell holds -/
def cv (A : Cell) (i : Nat) : Int32 := match A.slots[i]? with | some (.int x) => x | _ => 0
theorem Ch.get {a : Addr} {A : Cell} {U : State} (h : Ch a A U) {i : Nat} (hi : i < A.slots.size) : A.slots[i]? = some (.int (cv A i)) := by
  have e := Array.getElem?_eq_getElem hi
  have f := h.2 i _ e
  unfold cv; rw [e]
  generalize A.slots[i] = v at f
  cases v <;> simp [fits] at f ⊢
/-- the byte that i2b leaves of a char -/
def lo8 (x : Int32) : Int32 := x.toInt8.toInt32
theorem fits_lo8 (y : Int32) : fits .byte (.int (lo8 y)) = true := by
  have h1 := y.toInt8.le_toInt
  have h2 := y.toInt8.toInt_lt
  simp only [lo8, fits, Bool.and_eq_true, decide_eq_true_eq, Int32.le_iff_toInt_le, Int8.toInt_toInt32, show (-128 : Int32).toInt = -128 from by decide, show (127 : Int32).toInt = 127 from by decide]
  omega
/-- A' is A but that each place j of lo .. hi - 1 holds f j -/
def Laid (A A' : Cell) (lo hi : Nat) (f : Nat → Value) : Prop := A'.cls = A.cls ∧ A'.vm = A.vm ∧ A'.slots.size = A.slots.size ∧ ∀ i, A'.slots[i]? = if lo ≤ i ∧ i < hi then some (f i) else A.slots[i]?
theorem Laid.zero (A : Cell) (lo : Nat) (f : Nat → Value) : Laid A A lo (lo + 0) f := ⟨rfl, rfl, rfl, fun i => by rw [if_neg (by omega)]⟩
theorem Laid.step {A Ak : Cell} {lo k : Nat} {f : Nat → Value} {v : Value} (h : Laid A Ak lo k f) (hlo : lo ≤ k) (hk : k < Ak.slots.size) (hv : v = f k) : Laid A (Ak.setSlot k v) lo (k + 1) f := by
  refine ⟨h.1, h.2.1, by simpa [Cell.setSlot] using h.2.2.1, fun i => ?_⟩
  by_cases e : k = i
  · subst e; rw [Cell.slots_setSlot_self v hk, if_pos (by omega), hv]
  · rw [Cell.slots_setSlot_ne v e, h.2.2.2 i]
    by_cases q : lo ≤ i ∧ i < k
    · rw [if_pos q, if_pos (by omega)]
    · rw [if_neg q, if_neg (by omega)]
def U16 : String := "java/lang/StringUTF16"
namespace Cmp5
def yN : MethodName := ⟨"java/lang/StringUTF16", "compress", "([CI[BII)I"⟩
abbrev yB : ByteArray := jdk_52_method_21_code
theorem d0 : decode yB 0 = .ok (.iconst 0, 1) := by decide +kernel
theorem d1 : decode yB 1 = .ok (.istore 5, 2) := by decide +kernel
theorem d3 : decode yB 3 = .ok (.iload 5, 2) := by decide +kernel
theorem d5 : decode yB 5 = .ok (.iload 4, 2) := by decide +kernel
theorem d7 : decode yB 7 = .ok (.if_icmp (.ge) 37, 3) := by decide +kernel
theorem d10 : decode yB 10 = .ok (.aload_n 0, 1) := by decide +kernel
theorem d11 : decode yB 11 = .ok (.iload_n 1, 1) := by decide +kernel
theorem d12 : decode yB 12 = .ok (.caload, 1) := by decide +kernel
theorem d13 : decode yB 13 = .ok (.istore 6, 2) := by decide +kernel
theorem d15 : decode yB 15 = .ok (.iload 6, 2) := by decide +kernel
theorem d17 : decode yB 17 = .ok (.sipush 255, 3) := by decide +kernel
theorem d20 : decode yB 20 = .ok (.if_icmp (.le) 6, 3) := by decide +kernel
theorem d26 : decode yB 26 = .ok (.aload_n 2, 1) := by decide +kernel
theorem d27 : decode yB 27 = .ok (.iload_n 3, 1) := by decide +kernel
theorem d28 : decode yB 28 = .ok (.iload 6, 2) := by decide +kernel
theorem d30 : decode yB 30 = .ok (.i2b, 1) := by decide +kernel
theorem d31 : decode yB 31 = .ok (.bastore, 1) := by decide +kernel
theorem d32 : decode yB 32 = .ok (.iinc 1 1, 3) := by decide +kernel
theorem d35 : decode yB 35 = .ok (.iinc 3 1, 3) := by decide +kernel
theorem d38 : decode yB 38 = .ok (.iinc 5 1, 3) := by decide +kernel
theorem d41 : decode yB 41 = .ok (.goto (-38), 3) := by decide +kernel
theorem d44 : decode yB 44 = .ok (.iload 4, 2) := by decide +kernel
theorem d46 : decode yB 46 = .ok (.ireturn, 1) := by decide +kernel
def site : List Cond := []
def tab : Cond := tabOf yN yB 7 (some .int) site
def P (b : Addr) (A : Cell) (d : Addr) (B : Cell) (o q len : Nat) (args : Array Value) (s : State) : Prop := args = #[.ref b, .int (Int32.ofNat o), .ref d, .int (Int32.ofNat q), .int (Int32.ofNat len)] ∧ Ch b A s ∧ Arr .byte d B s ∧ b ≠ d ∧ o + len ≤ A.slots.size ∧ q + len ≤ B.slots.size ∧ ∀ i, i < len → ¬ 255 < cv A (o + i)
def E (b : Addr) (A : Cell) (d : Addr) (B : Cell) (o q len : Nat) (r : Option Value) (s u : State) : Prop := r = some (.int (Int32.ofNat len)) ∧ ∃ B', Put d B' s u ∧ Laid B B' q (q + len) (fun j => Value.int (lo8 (cv A (o + (j - q)))))
/-- no char of the range above 255: len; the places written hold each char's low byte -/
theorem law (l : Launch) (b : Addr) (A : Cell) (d : Addr) (B : Cell) (o q len : Nat) : Law l yN 5 5 0 0 yB 7 (some .int) site (P b A d B o q len) (E b A d B o q len) (copyLocs d q len) 0 0 := by
  refine Law.of_walk (plainFor_of_name (by decide +kernel)) (by decide +kernel) (by decide +kernel) (by decide) (fun _ _ h => by rw [h.1]; rfl) (fun _ U U' hal hh h => ⟨h.1, h.2.1.mv hal hh, h.2.2.1.mv hal hh, h.2.2.2⟩) (fun r U U' V V' h1 hal h2 h => ⟨h.1, h.2.elim fun B' q => ⟨B', q.1.mv h1 h2, q.2⟩⟩) ?_
  intro p e s m args below meth c s₁ X0 hexec hbytes hml hret hlk hnm hown hh0 W hP
  obtain ⟨rfl, hA, hB, hne, l1, l2, hp⟩ := hP
  have c1 : Steps p.tables e below (s₁.setTop (entryFrame m #[.ref b, .int (Int32.ofNat o), .ref d, .int (Int32.ofNat q), .int (Int32.ofNat len)] 7)) (s₁.setTop (mkF m 0 #[.val (.ref b), .val (.int (Int32.ofNat o)), .val (.ref d), .val (.int (Int32.ofNat q)), .val (.int (Int32.ofNat len)), .unset, .unset] [])) := entry rfl
  have hA0 := hA.1.mv X0.warmed.alike hh0
  have hB0 := hB.mv X0.warmed.alike hh0
  have a31 := hA.1.2.2.2
  have c2 : Steps p.tables e below (s₁.setTop (entryFrame m #[.ref b, .int (Int32.ofNat o), .ref d, .int (Int32.ofNat q), .int (Int32.ofNat len)] 7)) (s₁.setTop (mkF m 3 #[.val (.ref b), .val (.int (Int32.ofNat o)), .val (.ref d), .val (.int (Int32.ofNat q)), .val (.int (Int32.ofNat len)), .val (.int 0), .unset] [])) := c1.trans (by
    refine iconstV X0.here hexec rfl 0 (hb hbytes d0) (by decide) ?_
    refine XS.istore X0.here hexec rfl (hb hbytes d1) rfl rfl ?_
    exact Steps.refl _)
  have loop : ∀ (r i : Nat), i + r = len → ∀ (z : Slot), (z = .unset ∨ ∃ w, z = .val w ∧ w.category = 1) → ∀ (Tl : State) (Bk : Cell), Stand p l e { frames := 0, locals := 0, cells := 0, slots := 0 } s m #[.ref b, .int (Int32.ofNat o), .ref d, .int (Int32.ofNat q), .int (Int32.ofNat len)] below meth c Tl ([] ++ copyLocs d q i) 0 0 → Put d Bk s₁ Tl → Laid B Bk q (q + i) (fun j => Value.int (lo8 (cv A (o + (j - q))))) →
      Steps p.tables e below (s₁.setTop (entryFrame m #[.ref b, .int (Int32.ofNat o), .ref d, .int (Int32.ofNat q), .int (Int32.ofNat len)] 7)) (Tl.setTop (mkF m 3 #[.val (.ref b), .val (.int (Int32.ofNat (o + i))), .val (.ref d), .val (.int (Int32.ofNat (q + i))), .val (.int (Int32.ofNat len)), .val (.int (Int32.ofNat i)), z] [])) → ∃ (T' : State) (B' : Cell) (z' : Slot), Stand p l e { frames := 0, locals := 0, cells := 0, slots := 0 } s m #[.ref b, .int (Int32.ofNat o), .ref d, .int (Int32.ofNat q), .int (Int32.ofNat len)] below meth c T' ([] ++ copyLocs d q len) 0 0 ∧ Put d B' s₁ T' ∧ Laid B B' q (q + len) (fun j => Value.int (lo8 (cv A (o + (j - q))))) ∧
      Steps p.tables e below (s₁.setTop (entryFrame m #[.ref b, .int (Int32.ofNat o), .ref d, .int (Int32.ofNat q), .int (Int32.ofNat len)] 7)) (T'.setTop (mkF m 3 #[.val (.ref b), .val (.int (Int32.ofNat (o + len))), .val (.ref d), .val (.int (Int32.ofNat (q + len))), .val (.int (Int32.ofNat len)), .val (.int (Int32.ofNat len)), z'] [])) := by
    intro r
    induction r with
    | zero =>
      intro i hi z hz Tl Bk Xl pl fl cl
      have hil : i = len := by omega
      rw [hil] at Xl fl cl
      exact ⟨Tl, Bk, z, Xl, pl, fl, cl⟩
    | succ r ih =>
      intro i hi z hz Tl Bk Xl pl fl cl
      have all := X0.warmed.alike.symm.trans Xl.warmed.alike
      have hAl := hA0.keep all (pl.other hne hA0.1)
      have hBk := hB0.like all pl.1 fl.1 fl.2.1 fl.2.2.1
      have hlt : q + i < Bk.slots.size := by rw [fl.2.2.1]; omega
      have c3 : Steps p.tables e below (s₁.setTop (entryFrame m #[.ref b, .int (Int32.ofNat o), .ref d, .int (Int32.ofNat q), .int (Int32.ofNat len)] 7)) (Tl.setTop (mkF m 12 #[.val (.ref b), .val (.int (Int32.ofNat (o + i))), .val (.ref d), .val (.int (Int32.ofNat (q + i))), .val (.int (Int32.ofNat len)), .val (.int (Int32.ofNat i)), z] [.int (Int32.ofNat (o + i)), .ref b])) := cl.trans (by
        refine XS.iload Xl.here hexec rfl (hb hbytes d3) rfl ?_
        refine XS.iload Xl.here hexec rfl (hb hbytes d5) rfl ?_
        refine XS.icmpNo Xl.here hexec rfl (hb hbytes d7) rfl (ii_ge_f (lt32 (by omega) (by omega))) ?_
        refine XS.aloadN Xl.here hexec rfl (hb hbytes d10) rfl rfl ?_
        refine XS.iloadN Xl.here hexec rfl (hb hbytes d11) rfl ?_
        exact Steps.refl _)
      have c4 : Steps p.tables e below (s₁.setTop (entryFrame m #[.ref b, .int (Int32.ofNat o), .ref d, .int (Int32.ofNat q), .int (Int32.ofNat len)] 7)) (Tl.setTop (mkF m 13 #[.val (.ref b), .val (.int (Int32.ofNat (o + i))), .val (.ref d), .val (.int (Int32.ofNat (q + i))), .val (.int (Int32.ofNat len)), .val (.int (Int32.ofNat i)), z] [.int (cv A (o + i))])) := c3.trans (by
        refine Xl.aget hexec hAl rfl (hA.get (i := o + i) (by omega)) rfl rfl (hb hbytes d12) ?_
        exact Steps.refl _)
      have c5 : Steps p.tables e below (s₁.setTop (entryFrame m #[.ref b, .int (Int32.ofNat o), .ref d, .int (Int32.ofNat q), .int (Int32.ofNat len)] 7)) (Tl.setTop (mkF m 15 #[.val (.ref b), .val (.int (Int32.ofNat (o + i))), .val (.ref d), .val (.int (Int32.ofNat (q + i))), .val (.int (Int32.ofNat len)), .val (.int (Int32.ofNat i)), .val (.int (cv A (o + i)))] [])) := c4.trans (by
        refine XS.istoreS Xl.here hexec rfl (hb hbytes d13) rfl rfl hz ?_
        exact Steps.refl _)
      have c6 : Steps p.tables e below (s₁.setTop (entryFrame m #[.ref b, .int (Int32.ofNat o), .ref d, .int (Int32.ofNat q), .int (Int32.ofNat len)] 7)) (Tl.setTop (mkF m 31 #[.val (.ref b), .val (.int (Int32.ofNat (o + i))), .val (.ref d), .val (.int (Int32.ofNat (q + i))), .val (.int (Int32.ofNat len)), .val (.int (Int32.ofNat i)), .val (.int (cv A (o + i)))] [.int (lo8 (cv A (o + i))), .int (Int32.ofNat (q + i)), .ref d])) := c5.trans (by
        refine XS.iload Xl.here hexec rfl (hb hbytes d15) rfl ?_
        refine sipushV Xl.here hexec rfl 255 (hb hbytes d17) (by decide) ?_
        refine XS.icmpYes Xl.here hexec rfl (pc0 := 20) rfl (hb hbytes d20) rfl (ii_le_t (hp i (by omega))) (by decide) rfl ?_
        refine XS.aloadN Xl.here hexec rfl (hb hbytes d26) rfl rfl ?_
        refine XS.iloadN Xl.here hexec rfl (hb hbytes d27) rfl ?_
        refine XS.iload Xl.here hexec rfl (hb hbytes d28) rfl ?_
        refine i2b Xl.here hexec rfl (hb hbytes d30) rfl ?_
        exact Steps.refl _)
      obtain ⟨T7, X7, p7, st7⟩ := Xl.aput hexec hBk rfl hlt rfl (fits_lo8 (cv A (o + i))) (g := (mkF m 31 #[.val (.ref b), .val (.int (Int32.ofNat (o + i))), .val (.ref d), .val (.int (Int32.ofNat (q + i))), .val (.int (Int32.ofNat len)), .val (.int (Int32.ofNat i)), .val (.int (cv A (o + i)))] [.int (lo8 (cv A (o + i))), .int (Int32.ofNat (q + i)), .ref d])) rfl (rest := []) rfl (hb hbytes d31)
      have c8 : Steps p.tables e below (s₁.setTop (entryFrame m #[.ref b, .int (Int32.ofNat o), .ref d, .int (Int32.ofNat q), .int (Int32.ofNat len)] 7)) (T7.setTop (mkF m 32 #[.val (.ref b), .val (.int (Int32.ofNat (o + i))), .val (.ref d), .val (.int (Int32.ofNat (q + i))), .val (.int (Int32.ofNat len)), .val (.int (Int32.ofNat i)), .val (.int (cv A (o + i)))] [])) := c6.trans (st7 _ (Steps.refl _))
      have c9 : Steps p.tables e below (s₁.setTop (entryFrame m #[.ref b, .int (Int32.ofNat o), .ref d, .int (Int32.ofNat q), .int (Int32.ofNat len)] 7)) (T7.setTop (mkF m 3 #[.val (.ref b), .val (.int (Int32.ofNat (o + i) + 1)), .val (.ref d), .val (.int (Int32.ofNat (q + i) + 1)), .val (.int (Int32.ofNat len)), .val (.int (Int32.ofNat i + 1)), .val (.int (cv A (o + i)))] [])) := c8.trans (by
        refine iincV X7.here hexec rfl 1 (hb hbytes d32) (by decide) rfl rfl ?_
        refine iincV X7.here hexec rfl 1 (hb hbytes d35) (by decide) rfl rfl ?_
        refine iincV X7.here hexec rfl 1 (hb hbytes d38) (by decide) rfl rfl ?_
        refine XS.goto X7.here hexec rfl (pc0 := 41) rfl (hb hbytes d41) (by decide) rfl ?_
        exact Steps.refl _)
      have c10 : Steps p.tables e below (s₁.setTop (entryFrame m #[.ref b, .int (Int32.ofNat o), .ref d, .int (Int32.ofNat q), .int (Int32.ofNat len)] 7)) (T7.setTop (mkF m 3 #[.val (.ref b), .val (.int (Int32.ofNat (o + (i + 1)))), .val (.ref d), .val (.int (Int32.ofNat (q + (i + 1)))), .val (.int (Int32.ofNat len)), .val (.int (Int32.ofNat (i + 1))), .val (.int (cv A (o + i)))] [])) := by
        have := c9
        rw [succ32, succ32, succ32] at this
        exact this
      exact ih (i + 1) (by omega) _ (Or.inr ⟨_, rfl, rfl⟩) T7 _ (by rw [copyLocs_step, ← List.append_assoc]; exact X7) (pl.trans p7) (fl.step (by omega) hlt (by simp)) c10
  obtain ⟨T9, B9, z9, X9, p9, f9, g9⟩ := loop len 0 (by omega) .unset (Or.inl rfl) s₁ B (by simpa [copyLocs] using X0) ⟨hB0.1, fun _ _ => rfl, rfl⟩ (Laid.zero _ _ _) c2
  have c11 : Steps p.tables e below (s₁.setTop (entryFrame m #[.ref b, .int (Int32.ofNat o), .ref d, .int (Int32.ofNat q), .int (Int32.ofNat len)] 7)) (T9.setTop (mkF m 46 #[.val (.ref b), .val (.int (Int32.ofNat (o + len))), .val (.ref d), .val (.int (Int32.ofNat (q + len))), .val (.int (Int32.ofNat len)), .val (.int (Int32.ofNat len)), z9] [.int (Int32.ofNat len)])) := g9.trans (by
    refine XS.iload X9.here hexec rfl (hb hbytes d3) rfl ?_
    refine XS.iload X9.here hexec rfl (hb hbytes d5) rfl ?_
    refine XS.icmpYes X9.here hexec rfl (pc0 := 7) rfl (hb hbytes d7) rfl (ii_ge_t (nlt32 (by omega) (Nat.le_refl _))) (by decide) rfl ?_
    refine XS.iload X9.here hexec rfl (hb hbytes d44) rfl ?_
    exact Steps.refl _)
  exact ⟨T9, some (.int (Int32.ofNat len)), _, _, _, X9, by simp, rfl, rfl, (fun h => by cases h), ⟨rfl, B9, p9.from hh0, f9⟩, fun fs hl => c11.trans (X9.ireturnOut hexec hret rfl (Or.inl rfl) (hb hbytes d46) hl)⟩
end Cmp5
namespace Cmp3
def yN : MethodName := ⟨"java/lang/StringUTF16", "compress", "([CII)[B"⟩
abbrev yB : ByteArray := jdk_52_method_16_code
theorem d0 : decode yB 0 = .ok (.iload_n 2, 1) := by decide +kernel
theorem d1 : decode yB 1 = .ok (.newarray .byte, 2) := by decide +kernel
theorem d3 : decode yB 3 = .ok (.astore_n 3, 1) := by decide +kernel
theorem d4 : decode yB 4 = .ok (.aload_n 0, 1) := by decide +kernel
theorem d5 : decode yB 5 = .ok (.iload_n 1, 1) := by decide +kernel
theorem d6 : decode yB 6 = .ok (.aload_n 3, 1) := by decide +kernel
theorem d7 : decode yB 7 = .ok (.iconst 0, 1) := by decide +kernel
theorem d8 : decode yB 8 = .ok (.iload_n 2, 1) := by decide +kernel
theorem d9 : decode yB 9 = .ok (.invokestatic 115, 3) := by decide +kernel
theorem d12 : decode yB 12 = .ok (.istore 4, 2) := by decide +kernel
theorem d14 : decode yB 14 = .ok (.iload 4, 2) := by decide +kernel
theorem d16 : decode yB 16 = .ok (.iload_n 2, 1) := by decide +kernel
theorem d17 : decode yB 17 = .ok (.if_icmp (.eq) 40, 3) := by decide +kernel
theorem d57 : decode yB 57 = .ok (.aload_n 3, 1) := by decide +kernel
theorem d58 : decode yB 58 = .ok (.areturn, 1) := by decide +kernel
def site : List Cond := [.arrayClass .byte, Cmp5.tab] ++ staticW U16 115 Cmp5.yN
def tab : Cond := tabOf yN yB 6 (some (.array .byte)) site
def P (b : Addr) (A : Cell) (o len : Nat) (args : Array Value) (s : State) : Prop := args = #[.ref b, .int (Int32.ofNat o), .int (Int32.ofNat len)] ∧ Ch b A s ∧ o + len ≤ A.slots.size ∧ len ≤ 536870912 ∧ ∀ i, i < len → ¬ 255 < cv A (o + i)
def E (b : Addr) (A : Cell) (o len : Nat) (r : Option Value) (s u : State) : Prop := NewArr .byte "[B" len (fun j => .int (lo8 (cv A (o + j)))) r s u ∧ u.heap.size = s.heap.size + 1
/-- no char of the range above 255: a new byte[] of their low bytes -/
theorem law (l : Launch) (b : Addr) (A : Cell) (o len : Nat) : Law l yN 3 3 1 18 yB 6 (some (.array .byte)) site (P b A o len) (E b A o len) [] 1 len := by
  refine Law.of_walk (plainFor_of_name (by decide +kernel)) (by decide +kernel) (by decide +kernel) (by decide) (fun _ _ h => by rw [h.1]; rfl) (fun _ U U' hal hh h => ⟨h.1, h.2.1.mv hal hh, h.2.2⟩) (fun r U U' V V' h1 hal h2 h => ⟨NewArr.mv r U U' V V' h1 hal h2 h.1, by rw [h1, h2]; exact h.2⟩) ?_
  intro p e s m args below meth c s₁ X0 hexec hbytes hml hret hlk hnm hown hh0 W hP
  obtain ⟨rfl, hA, l1, l2, hp⟩ := hP
  have a31 := hA.1.2.2.2
  have c1 : Steps p.tables e below (s₁.setTop (entryFrame m #[.ref b, .int (Int32.ofNat o), .int (Int32.ofNat len)] 6)) (s₁.setTop (mkF m 0 #[.val (.ref b), .val (.int (Int32.ofNat o)), .val (.int (Int32.ofNat len)), .unset, .unset, .unset] [])) := entry rfl
  have c2 : Steps p.tables e below (s₁.setTop (entryFrame m #[.ref b, .int (Int32.ofNat o), .int (Int32.ofNat len)] 6)) (s₁.setTop (mkF m 1 #[.val (.ref b), .val (.int (Int32.ofNat o)), .val (.int (Int32.ofNat len)), .unset, .unset, .unset] [.int (Int32.ofNat len)])) := c1.trans (by
    refine XS.iloadN X0.here hexec rfl (hb hbytes d0) rfl ?_
    exact Steps.refl _)
  obtain ⟨T3, B3, X3, ba3, bs3, bv3, bh3, bf3, st3⟩ := X0.anew hexec (atype := .byte) (wk W (.arrayClass .byte)) rfl (by show len * 1 ≤ _; omega) (by omega) (g := (mkF m 1 #[.val (.ref b), .val (.int (Int32.ofNat o)), .val (.int (Int32.ofNat len)), .unset, .unset, .unset] [.int (Int32.ofNat len)])) rfl (hb hbytes d1) (rest := []) rfl (Nat.le_refl _) (by show 0 + len ≤ len; omega)
  rw [hh0] at ba3 st3
  have kp3 : XT.Kept s T3 := (XT.Kept.of_eq hh0).push bh3
  have hA3 := hA.keep X3.warmed.alike (kp3 _ _ hA.1.1)
  have hne : b ≠ s.heap.size := hA.1.ne
  have c4 : Steps p.tables e below (s₁.setTop (entryFrame m #[.ref b, .int (Int32.ofNat o), .int (Int32.ofNat len)] 6)) (T3.setTop (mkF m 3 #[.val (.ref b), .val (.int (Int32.ofNat o)), .val (.int (Int32.ofNat len)), .unset, .unset, .unset] [.ref s.heap.size])) := c2.trans (st3 _ (Steps.refl _))
  have c5 : Steps p.tables e below (s₁.setTop (entryFrame m #[.ref b, .int (Int32.ofNat o), .int (Int32.ofNat len)] 6)) (T3.setTop (mkF m 9 #[.val (.ref b), .val (.int (Int32.ofNat o)), .val (.int (Int32.ofNat len)), .val (.ref s.heap.size), .unset, .unset] [.int (Int32.ofNat len), .int 0, .ref s.heap.size, .int (Int32.ofNat o), .ref b])) := c4.trans (by
    refine XS.astoreN X3.here hexec rfl (hb hbytes d3) rfl rfl rfl ?_
    refine XS.aloadN X3.here hexec rfl (hb hbytes d4) rfl rfl ?_
    refine XS.iloadN X3.here hexec rfl (hb hbytes d5) rfl ?_
    refine XS.aloadN X3.here hexec rfl (hb hbytes d6) rfl rfl ?_
    refine iconstV X3.here hexec rfl 0 (hb hbytes d7) (by decide) ?_
    refine XS.iloadN X3.here hexec rfl (hb hbytes d8) rfl ?_
    exact Steps.refl _)
  obtain ⟨v6, T6, X6, E6, g6⟩ := X3.callS hexec (Cmp5.law l b A s.heap.size B3 o 0 len) hown (wks W (staticW U16 115 Cmp5.yN)) (wk W Cmp5.tab) (W := 0) (Nat.le_of_ble_eq_true rfl) (Nat.le_of_ble_eq_true rfl) (Nat.le_refl _) (by show 0 + len + 0 ≤ len; omega) (g := (mkF m 9 #[.val (.ref b), .val (.int (Int32.ofNat o)), .val (.int (Int32.ofNat len)), .val (.ref s.heap.size), .unset, .unset] [.int (Int32.ofNat len), .int (Int32.ofNat 0), .ref s.heap.size, .int (Int32.ofNat o), .ref b])) rfl (by rw [hml]; rfl) c5 (argsL := [.ref b, .int (Int32.ofNat o), .ref s.heap.size, .int (Int32.ofNat 0), .int (Int32.ofNat len)]) (rest := []) rfl rfl (by show 2 * 0 + 0 ≤ _; decide) (hb hbytes d9) (⟨rfl, hA3, ba3, hne, l1, by rw [bs3]; simp, hp⟩)
  obtain ⟨rfl, B6, p6, f6⟩ := E6
  have c7 : Steps p.tables e below (s₁.setTop (entryFrame m #[.ref b, .int (Int32.ofNat o), .int (Int32.ofNat len)] 6)) (T6.setTop (mkF m 12 #[.val (.ref b), .val (.int (Int32.ofNat o)), .val (.int (Int32.ofNat len)), .val (.ref s.heap.size), .unset, .unset] [.int (Int32.ofNat len)])) := g6
  have c8 : Steps p.tables e below (s₁.setTop (entryFrame m #[.ref b, .int (Int32.ofNat o), .int (Int32.ofNat len)] 6)) (T6.setTop (mkF m 58 #[.val (.ref b), .val (.int (Int32.ofNat o)), .val (.int (Int32.ofNat len)), .val (.ref s.heap.size), .val (.int (Int32.ofNat len)), .unset] [.ref s.heap.size])) := c7.trans (by
    refine XS.istore X6.here hexec rfl (hb hbytes d12) rfl rfl ?_
    refine XS.iload X6.here hexec rfl (hb hbytes d14) rfl ?_
    refine XS.iloadN X6.here hexec rfl (hb hbytes d16) rfl ?_
    refine XS.icmpYes X6.here hexec rfl (pc0 := 17) rfl (hb hbytes d17) rfl (ii_eq_t rfl) (by decide) rfl ?_
    refine XS.aloadN X6.here hexec rfl (hb hbytes d57) rfl rfl ?_
    exact Steps.refl _)
  have X8 := X6.wide (L' := []) (cells' := 1) (slots' := len) (fun x hx hlt => by
    simp only [List.nil_append, copyLocs, List.mem_map, List.mem_range] at hx
    obtain ⟨i, -, rfl⟩ := hx
    exact absurd hlt (Nat.lt_irrefl _)) (Nat.le_refl _) (by omega)
  exact ⟨T6, some (.ref s.heap.size), _, _, _, X8, rfl, rfl, rfl, (fun h => by cases h), ⟨⟨rfl, B6, ba3.like (X3.warmed.alike.symm.trans X6.warmed.alike) p6.1 f6.1 f6.2.1 f6.2.2.1, f6.2.1.trans bv3, by rw [X6.warmed.alike.findClass, f6.1]; exact bf3, by rw [f6.2.2.1, bs3]; simp, fun j hj => by rw [f6.2.2.2 j, if_pos (by omega)]; rfl, kp3.put p6 (Nat.le_refl _)⟩, by rw [p6.2.2, bh3, hh0]; simp⟩, fun fs hl => c8.trans (X8.areturnOut hexec rfl hret rfl (hb hbytes d58) hl)⟩
end Cmp3
namespace CodL
def yN : MethodName := ⟨"java/lang/StringUTF16", "coderFromArrayLen", "([BI)B"⟩
abbrev yB : ByteArray := jdk_52_method_15_code
theorem d0 : decode yB 0 = .ok (.iload_n 1, 1) := by decide +kernel
theorem d1 : decode yB 1 = .ok (.aload_n 0, 1) := by decide +kernel
theorem d2 : decode yB 2 = .ok (.arraylength, 1) := by decide +kernel
theorem d3 : decode yB 3 = .ok (.isub, 1) := by decide +kernel
theorem d4 : decode yB 4 = .ok (.bipush 31, 2) := by decide +kernel
theorem d6 : decode yB 6 = .ok (.iushr, 1) := by decide +kernel
theorem d7 : decode yB 7 = .ok (.i2b, 1) := by decide +kernel
theorem d8 : decode yB 8 = .ok (.ireturn, 1) := by decide +kernel
def site : List Cond := []
def tab : Cond := tabOf yN yB 2 (some .byte) site
def P (d : Addr) (B : Cell) (args : Array Value) (s : State) : Prop := args = #[.ref d, .int (Int32.ofNat B.slots.size)] ∧ Arr .byte d B s
def E (r : Option Value) (s u : State) : Prop := XT.PureE (some (.int 0)) r s u
/-- an array as long as the number of chars: LATIN1 -/
theorem law (l : Launch) (d : Addr) (B : Cell) : Law l yN 2 2 0 0 yB 2 (some .byte) site (P d B) E [] 0 0 := by
  refine Law.of_walk (plainFor_of_name (by decide +kernel)) (by decide +kernel) (by decide +kernel) (by decide) (fun _ _ h => by rw [h.1]; rfl) (fun _ U U' hal hh h => ⟨h.1, h.2.mv hal hh⟩) (fun r U U' V V' h1 hal h2 h => XT.PureE.mv r U U' V V' h1 hal h2 h) ?_
  intro p e s m args below meth c s₁ X0 hexec hbytes hml hret hlk hnm hown hh0 W hP
  obtain ⟨rfl, hB⟩ := hP
  have hB0 := hB.mv X0.warmed.alike hh0
  have c1 : Steps p.tables e below (s₁.setTop (entryFrame m #[.ref d, .int (Int32.ofNat B.slots.size)] 2)) (s₁.setTop (mkF m 0 #[.val (.ref d), .val (.int (Int32.ofNat B.slots.size))] [])) := entry rfl
  have c2 : Steps p.tables e below (s₁.setTop (entryFrame m #[.ref d, .int (Int32.ofNat B.slots.size)] 2)) (s₁.setTop (mkF m 2 #[.val (.ref d), .val (.int (Int32.ofNat B.slots.size))] [.ref d, .int (Int32.ofNat B.slots.size)])) := c1.trans (by
    refine XS.iloadN X0.here hexec rfl (hb hbytes d0) rfl ?_
    refine XS.aloadN X0.here hexec rfl (hb hbytes d1) rfl rfl ?_
    exact Steps.refl _)
  have c3 : Steps p.tables e below (s₁.setTop (entryFrame m #[.ref d, .int (Int32.ofNat B.slots.size)] 2)) (s₁.setTop (mkF m 8 #[.val (.ref d), .val (.int (Int32.ofNat B.slots.size))] [.int (lo8 (ushr (Int32.ofNat B.slots.size - Int32.ofNat B.slots.size) 31))])) := c2.trans (by
    refine X0.alen hexec hB0 rfl rfl (hb hbytes d2) ?_
    refine XS.isub X0.here hexec rfl (hb hbytes d3) rfl ?_
    refine bipushV X0.here hexec rfl 31 (hb hbytes d4) (by decide) ?_
    refine iushr X0.here hexec rfl (hb hbytes d6) rfl ?_
    refine i2b X0.here hexec rfl (hb hbytes d7) rfl ?_
    exact Steps.refl _)
  have e0 : lo8 (ushr (Int32.ofNat B.slots.size - Int32.ofNat B.slots.size) 31) = 0 := by rw [Int32.sub_self]; decide
  rw [e0] at c3
  exact ⟨s₁, some (.int 0), _, _, _, X0, rfl, rfl, rfl, (fun h => by cases h), ⟨rfl, hh0⟩, fun fs hl => c3.trans (X0.ireturnOut hexec hret rfl (Or.inr (Or.inr (Or.inl rfl))) (hb hbytes d8) hl)⟩
end CodL
/-- the String at a is Latin-1 over a new byte[] (the heap's one new cell): the low bytes of the len chars of A from o on; every cell but a is kept -/
def Got (a : Addr) (D : Cell) (fV fC : Field) (A : Cell) (o len : Nat) (r : Option Value) (s u : State) : Prop := r = none ∧ ∃ D' V : Cell, Blank "java/lang/String" a D' u ∧ Same D D' [fV.slot, fC.slot] ∧ D'.slots[fV.slot]? = some (.ref s.heap.size) ∧ D'.slots[fC.slot]? = some (.int 0) ∧ Arr .byte s.heap.size V u ∧ V.vm = .none ∧ u.vm.findClass "[B" = some V.cls ∧ V.slots.size = len ∧ (∀ j, j < len → V.slots[j]? = some (.int (lo8 (cv A (o + j))))) ∧ (∀ (y : Addr) (c : Cell), y ≠ a → s.heap[y]? = some c → u.heap[y]? = some c) ∧ u.heap.size = s.heap.size + 1
theorem Got.mv {a : Addr} {D A : Cell} {fV fC : Field} {o len : Nat} : ∀ r (U U' V V' : State), U'.heap = U.heap → V.vm.Alike V'.vm → V'.heap = V.heap → Got a D fV fC A o len r U V → Got a D fV fC A o len r U' V' :=
  fun r U U' V V' h1 hal h2 ⟨e0, D', X, a1, a2, a3, a4, a5, a6, a7, a8, a9, a10, a11⟩ => ⟨e0, D', X, a1.mv hal h2, a2, by rw [h1]; exact a3, a4, by rw [h1]; exact a5.mv hal h2, a6, by rw [hal.findClass]; exact a7, a8, a9, by rw [h1, h2]; exact a10, by rw [h1, h2]; exact a11⟩
namespace New4
def yN : MethodName := ⟨"java/lang/String", "<init>", "([CIILjava/lang/Void;)V"⟩
abbrev yB : ByteArray := jdk_42_method_149_code
theorem d0 : decode yB 0 = .ok (.aload_n 0, 1) := by decide +kernel
theorem d1 : decode yB 1 = .ok (.invokespecial 1, 3) := by decide +kernel
theorem d4 : decode yB 4 = .ok (.iload_n 3, 1) := by decide +kernel
theorem d5 : decode yB 5 = .ok (.ifCond (.ne) 22, 3) := by decide +kernel
theorem d27 : decode yB 27 = .ok (.getstatic 38, 3) := by decide +kernel
theorem d30 : decode yB 30 = .ok (.ifCond (.eq) 28, 3) := by decide +kernel
theorem d33 : decode yB 33 = .ok (.aload_n 1, 1) := by decide +kernel
theorem d34 : decode yB 34 = .ok (.iload_n 2, 1) := by decide +kernel
theorem d35 : decode yB 35 = .ok (.iload_n 3, 1) := by decide +kernel
theorem d36 : decode yB 36 = .ok (.invokestatic 177, 3) := by decide +kernel
theorem d39 : decode yB 39 = .ok (.astore 5, 2) := by decide +kernel
theorem d41 : decode yB 41 = .ok (.aload_n 0, 1) := by decide +kernel
theorem d42 : decode yB 42 = .ok (.aload 5, 2) := by decide +kernel
theorem d44 : decode yB 44 = .ok (.iload_n 3, 1) := by decide +kernel
theorem d45 : decode yB 45 = .ok (.invokestatic 47, 3) := by decide +kernel
theorem d48 : decode yB 48 = .ok (.putfield 15, 3) := by decide +kernel
theorem d51 : decode yB 51 = .ok (.aload_n 0, 1) := by decide +kernel
theorem d52 : decode yB 52 = .ok (.aload 5, 2) := by decide +kernel
theorem d54 : decode yB 54 = .ok (.putfield 9, 3) := by decide +kernel
theorem d57 : decode yB 57 = .ok (.return_, 1) := by decide +kernel
def site : List Cond := [.fieldLink "java/lang/String" 38 "java/lang/String" "COMPACT_STRINGS" "Z", Cmp3.tab, CodL.tab, .laysFinal "java/lang/String" "java/lang/String" "value" "[B", .fieldLink "java/lang/String" 9 "java/lang/String" "value" "[B", .laysFinal "java/lang/String" "java/lang/String" "coder" "B", .fieldLink "java/lang/String" 15 "java/lang/String" "coder" "B"] ++ objW "java/lang/String" 1 ++ staticW "java/lang/String" 177 Cmp3.yN ++ staticW "java/lang/String" 47 CodL.yN
def tab : Cond := tabOf yN yB 6 none site
def P (a : Addr) (D : Cell) (fV fC : Field) (b : Addr) (A : Cell) (z : Int32) (o len : Nat) (args : Array Value) (s : State) : Prop := args = #[.ref a, .ref b, .int (Int32.ofNat o), .int (Int32.ofNat len), .null] ∧ Blank "java/lang/String" a D s ∧ Found "java/lang/String" "value" "[B" fV s ∧ Found "java/lang/String" "coder" "B" fC s ∧ Ch b A s ∧ StaticIs s "java/lang/String" "COMPACT_STRINGS" "Z" (.int z) ∧ ¬ z = 0 ∧ 0 < len ∧ o + len ≤ A.slots.size ∧ len ≤ 536870912 ∧ ∀ i, i < len → ¬ 255 < cv A (o + i)
def E (a : Addr) (D : Cell) (fV fC : Field) (A : Cell) (o len : Nat) (r : Option Value) (s u : State) : Prop := Got a D fV fC A o len r s u
/-- len > 0, no char of the range above 255: a Latin-1 String of their low bytes -/
theorem law (l : Launch) (a : Addr) (D : Cell) (fV fC : Field) (b : Addr) (A : Cell) (z : Int32) (o len : Nat) : Law l yN 5 4 2 35 yB 6 none site (P a D fV fC b A z o len) (E a D fV fC A o len) [⟨a, fC.slot⟩, ⟨a, fV.slot⟩] 1 len := by
  refine Law.of_walk (plainFor_of_name (by decide +kernel)) (by decide +kernel) (by decide +kernel) (by decide) (fun _ _ h => by rw [h.1]; rfl) (fun _ U U' hal hh h => ⟨h.1, h.2.1.mv hal hh, h.2.2.1.al hal, h.2.2.2.1.al hal, h.2.2.2.2.1.mv hal hh, h.2.2.2.2.2.1.there hal hh, h.2.2.2.2.2.2⟩) (fun r U U' V V' h1 hal h2 h => Got.mv r U U' V V' h1 hal h2 h) ?_
  intro p e s m args below meth c s₁ X0 hexec hbytes hml hret hlk hnm hown hh0 W hP
  obtain ⟨rfl, hB, f1, f2, hA, s1, hz, l0, l1, l2, hp⟩ := hP
  have a31 := hA.1.2.2.2
  have c1 : Steps p.tables e below (s₁.setTop (entryFrame m #[.ref a, .ref b, .int (Int32.ofNat o), .int (Int32.ofNat len), .null] 6)) (s₁.setTop (mkF m 0 #[.val (.ref a), .val (.ref b), .val (.int (Int32.ofNat o)), .val (.int (Int32.ofNat len)), .val .null, .unset] [])) := entry rfl
  have c2 : Steps p.tables e below (s₁.setTop (entryFrame m #[.ref a, .ref b, .int (Int32.ofNat o), .int (Int32.ofNat len), .null] 6)) (s₁.setTop (mkF m 1 #[.val (.ref a), .val (.ref b), .val (.int (Int32.ofNat o)), .val (.int (Int32.ofNat len)), .val .null, .unset] [.ref a])) := c1.trans (by
    refine XS.aloadN X0.here hexec rfl (hb hbytes d0) rfl rfl ?_
    exact Steps.refl _)
  obtain ⟨T3, X3, q3, st3⟩ := X0.oinit hexec hown (wks W (objW "java/lang/String" 1)) (g := (mkF m 1 #[.val (.ref a), .val (.ref b), .val (.int (Int32.ofNat o)), .val (.int (Int32.ofNat len)), .val .null, .unset] [.ref a])) rfl (by rw [hml]; rfl) (rest := []) rfl (hb hbytes d1) (W := 0) (by show 2 * 0 + 0 ≤ _; decide) (Nat.le_of_ble_eq_true rfl) (Nat.le_of_ble_eq_true rfl)
  have hh3 := q3.trans hh0
  have c4 : Steps p.tables e below (s₁.setTop (entryFrame m #[.ref a, .ref b, .int (Int32.ofNat o), .int (Int32.ofNat len), .null] 6)) (T3.setTop (mkF m 27 #[.val (.ref a), .val (.ref b), .val (.int (Int32.ofNat o)), .val (.int (Int32.ofNat len)), .val .null, .unset] [])) := (c2.trans (st3 _ (Steps.refl _))).trans (by
    refine XS.iloadN X3.here hexec rfl (hb hbytes d4) rfl ?_
    refine XS.ifYes X3.here hexec rfl (pc0 := 5) rfl (hb hbytes d5) rfl (i0_ne_t (nz32 (by omega) l0)) (by decide) rfl ?_
    exact Steps.refl _)
  obtain ⟨T5, X5, q5, st5⟩ := X3.sget hexec hown (wk W (.fieldLink "java/lang/String" 38 "java/lang/String" "COMPACT_STRINGS" "Z")) s1 (fun _ _ h => by rw [hh3]; exact h) (g := (mkF m 27 #[.val (.ref a), .val (.ref b), .val (.int (Int32.ofNat o)), .val (.int (Int32.ofNat len)), .val .null, .unset] [])) rfl (hb hbytes d27)
  have hh5 := q5.trans hh3
  have c6 : Steps p.tables e below (s₁.setTop (entryFrame m #[.ref a, .ref b, .int (Int32.ofNat o), .int (Int32.ofNat len), .null] 6)) (T5.setTop (mkF m 30 #[.val (.ref a), .val (.ref b), .val (.int (Int32.ofNat o)), .val (.int (Int32.ofNat len)), .val .null, .unset] [.int z])) := c4.trans (st5 _ (Steps.refl _))
  have c7 : Steps p.tables e below (s₁.setTop (entryFrame m #[.ref a, .ref b, .int (Int32.ofNat o), .int (Int32.ofNat len), .null] 6)) (T5.setTop (mkF m 36 #[.val (.ref a), .val (.ref b), .val (.int (Int32.ofNat o)), .val (.int (Int32.ofNat len)), .val .null, .unset] [.int (Int32.ofNat len), .int (Int32.ofNat o), .ref b])) := c6.trans (by
    refine XS.ifNo X5.here hexec rfl (hb hbytes d30) rfl (i0_eq_f hz) ?_
    refine XS.aloadN X5.here hexec rfl (hb hbytes d33) rfl rfl ?_
    refine XS.iloadN X5.here hexec rfl (hb hbytes d34) rfl ?_
    refine XS.iloadN X5.here hexec rfl (hb hbytes d35) rfl ?_
    exact Steps.refl _)
  obtain ⟨v8, T8, X8, E8, g8⟩ := X5.callS hexec (Cmp3.law l b A o len) hown (wks W (staticW "java/lang/String" 177 Cmp3.yN)) (wk W Cmp3.tab) (W := 0) (Nat.le_of_ble_eq_true rfl) (Nat.le_of_ble_eq_true rfl) (Nat.le_refl _) (by show 0 + len ≤ len; omega) (g := (mkF m 36 #[.val (.ref a), .val (.ref b), .val (.int (Int32.ofNat o)), .val (.int (Int32.ofNat len)), .val .null, .unset] [.int (Int32.ofNat len), .int (Int32.ofNat o), .ref b])) rfl (by rw [hml]; rfl) c7 (argsL := [.ref b, .int (Int32.ofNat o), .int (Int32.ofNat len)]) (rest := []) rfl rfl (by show 2 * 0 + 0 ≤ _; decide) (hb hbytes d36) (⟨rfl, hA.mv X5.warmed.alike hh5, l1, l2, hp⟩)
  obtain ⟨e8, z8⟩ := E8
  obtain ⟨rfl, N, n1, n2, n3, n4, n5, n6⟩ := NewArr.mv _ T5 s _ _ hh5.symm (Vm.Alike.refl _) rfl e8
  rw [hh5] at z8
  have hB1 := hB.keep X8.warmed.alike (n6 _ _ hB.1)
  have hne : s.heap.size ≠ a := (Nat.ne_of_lt (Array.getElem?_eq_some_iff.mp hB.1).1).symm
  have c9 : Steps p.tables e below (s₁.setTop (entryFrame m #[.ref a, .ref b, .int (Int32.ofNat o), .int (Int32.ofNat len), .null] 6)) (T8.setTop (mkF m 39 #[.val (.ref a), .val (.ref b), .val (.int (Int32.ofNat o)), .val (.int (Int32.ofNat len)), .val .null, .unset] [.ref s.heap.size])) := g8
  have c10 : Steps p.tables e below (s₁.setTop (entryFrame m #[.ref a, .ref b, .int (Int32.ofNat o), .int (Int32.ofNat len), .null] 6)) (T8.setTop (mkF m 45 #[.val (.ref a), .val (.ref b), .val (.int (Int32.ofNat o)), .val (.int (Int32.ofNat len)), .val .null, .val (.ref s.heap.size)] [.int (Int32.ofNat N.slots.size), .ref s.heap.size, .ref a])) := by
    have hc : Steps p.tables e below (s₁.setTop (entryFrame m #[.ref a, .ref b, .int (Int32.ofNat o), .int (Int32.ofNat len), .null] 6)) (T8.setTop (mkF m 45 #[.val (.ref a), .val (.ref b), .val (.int (Int32.ofNat o)), .val (.int (Int32.ofNat len)), .val .null, .val (.ref s.heap.size)] [.int (Int32.ofNat len), .ref s.heap.size, .ref a])) := c9.trans (by
      refine XS.astore X8.here hexec rfl (hb hbytes d39) rfl rfl rfl ?_
      refine XS.aloadN X8.here hexec rfl (hb hbytes d41) rfl rfl ?_
      refine XS.aload X8.here hexec rfl (hb hbytes d42) rfl rfl ?_
      refine XS.iloadN X8.here hexec rfl (hb hbytes d44) rfl ?_
      exact Steps.refl _)
    rw [n4]; exact hc
  obtain ⟨v11, T11, X11, E11, g11⟩ := X8.callS hexec (CodL.law l s.heap.size N) hown (wks W (staticW "java/lang/String" 47 CodL.yN)) (wk W CodL.tab) (W := 1) (Nat.le_of_ble_eq_true rfl) (Nat.le_of_ble_eq_true rfl) (Nat.le_refl _) (by show 0 + len + 0 ≤ len; omega) (g := (mkF m 45 #[.val (.ref a), .val (.ref b), .val (.int (Int32.ofNat o)), .val (.int (Int32.ofNat len)), .val .null, .val (.ref s.heap.size)] [.int (Int32.ofNat N.slots.size), .ref s.heap.size, .ref a])) rfl (by rw [hml]; rfl) c10 (argsL := [.ref s.heap.size, .int (Int32.ofNat N.slots.size)]) (rest := [.ref a]) rfl rfl (by show 2 * 0 + (1 + 0) ≤ _; decide) (hb hbytes d45) (⟨rfl, n1⟩)
  obtain ⟨rfl, q11⟩ := E11
  have hB11 := hB1.mv (X8.warmed.alike.symm.trans X11.warmed.alike) q11
  have c12 : Steps p.tables e below (s₁.setTop (entryFrame m #[.ref a, .ref b, .int (Int32.ofNat o), .int (Int32.ofNat len), .null] 6)) (T11.setTop (mkF m 48 #[.val (.ref a), .val (.ref b), .val (.int (Int32.ofNat o)), .val (.int (Int32.ofNat len)), .val .null, .val (.ref s.heap.size)] [.int 0, .ref a])) := g11
  obtain ⟨T13, X13, p13, bl13, sl13, st13⟩ := X11.finit hexec hown (wk W (.fieldLink "java/lang/String" 15 "java/lang/String" "coder" "B")) (Or.inr ⟨_, (wk W (.laysFinal "java/lang/String" "java/lang/String" "coder" "B"))⟩) (Or.inl ⟨rfl, hnm⟩) f2 (Or.inl rfl) hB11 (t := .byte) (by decide +kernel) rfl (g := (mkF m 48 #[.val (.ref a), .val (.ref b), .val (.int (Int32.ofNat o)), .val (.int (Int32.ofNat len)), .val .null, .val (.ref s.heap.size)] [.int 0, .ref a])) rfl (rest := []) rfl (hb hbytes d48)
  have c14 : Steps p.tables e below (s₁.setTop (entryFrame m #[.ref a, .ref b, .int (Int32.ofNat o), .int (Int32.ofNat len), .null] 6)) (T13.setTop (mkF m 54 #[.val (.ref a), .val (.ref b), .val (.int (Int32.ofNat o)), .val (.int (Int32.ofNat len)), .val .null, .val (.ref s.heap.size)] [.ref s.heap.size, .ref a])) := (c12.trans (st13 _ (Steps.refl _))).trans (by
    refine XS.aloadN X13.here hexec rfl (hb hbytes d51) rfl rfl ?_
    refine XS.aload X13.here hexec rfl (hb hbytes d52) rfl rfl ?_
    exact Steps.refl _)
  obtain ⟨T15, X15, p15, bl15, sl15, st15⟩ := X13.finit hexec hown (wk W (.fieldLink "java/lang/String" 9 "java/lang/String" "value" "[B")) (Or.inr ⟨_, (wk W (.laysFinal "java/lang/String" "java/lang/String" "value" "[B"))⟩) (Or.inl ⟨rfl, hnm⟩) f1 (Or.inl rfl) bl13 (t := (.array .byte)) (by decide +kernel) rfl (g := (mkF m 54 #[.val (.ref a), .val (.ref b), .val (.int (Int32.ofNat o)), .val (.int (Int32.ofNat len)), .val .null, .val (.ref s.heap.size)] [.ref s.heap.size, .ref a])) rfl (rest := []) rfl (hb hbytes d54)
  have c16 : Steps p.tables e below (s₁.setTop (entryFrame m #[.ref a, .ref b, .int (Int32.ofNat o), .int (Int32.ofNat len), .null] 6)) (T15.setTop (mkF m 57 #[.val (.ref a), .val (.ref b), .val (.int (Int32.ofNat o)), .val (.int (Int32.ofNat len)), .val .null, .val (.ref s.heap.size)] [])) := c14.trans (st15 _ (Steps.refl _))
  have ap := apart (Or.inr ⟨_, (wk W (.laysFinal "java/lang/String" "java/lang/String" "value" "[B"))⟩) (Or.inr ⟨_, (wk W (.laysFinal "java/lang/String" "java/lang/String" "coder" "B"))⟩) f1 f2 (t₁ := .array .byte) (t₂ := .byte) (by decide +kernel) (by decide +kernel) (by decide)
  have al := X8.warmed.alike.symm.trans X15.warmed.alike
  have n7 : T11.heap[s.heap.size]? = some N := by rw [q11]; exact n1.1
  exact ⟨T15, none, _, _, _, X15, by simp, rfl, by omega, (fun _ => rfl), ⟨rfl, _, N, bl15, ((Same.refl D _).set _ (by simp)).set _ (by simp), sl15, (Cell.slots_setSlot_ne _ ap).trans sl13, n1.keep al (p15.other hne (p13.other hne n7)), n2, by rw [al.findClass]; exact n3, n4, n5, fun y c h1 h2 => p15.other h1 (p13.other h1 (by rw [q11]; exact n6 y c h2)), by rw [p15.2.2, p13.2.2, q11]; exact z8⟩, fun fs hl => c16.trans (X15.returnOut hexec hret (hb hbytes d57) hl)⟩
end New4
namespace New1
def yN : MethodName := ⟨"java/lang/String", "<init>", "([C)V"⟩
abbrev yB : ByteArray := jdk_42_method_3_code
theorem d0 : decode yB 0 = .ok (.aload_n 0, 1) := by decide +kernel
theorem d1 : decode yB 1 = .ok (.aload_n 1, 1) := by decide +kernel
theorem d2 : decode yB 2 = .ok (.iconst 0, 1) := by decide +kernel
theorem d3 : decode yB 3 = .ok (.aload_n 1, 1) := by decide +kernel
theorem d4 : decode yB 4 = .ok (.arraylength, 1) := by decide +kernel
theorem d5 : decode yB 5 = .ok (.aconst_null, 1) := by decide +kernel
theorem d6 : decode yB 6 = .ok (.invokespecial 27, 3) := by decide +kernel
theorem d9 : decode yB 9 = .ok (.return_, 1) := by decide +kernel
def site : List Cond := [New4.tab] ++ initW "java/lang/String" 27 New4.yN
def tab : Cond := tabOf yN yB 2 none site
def P (a : Addr) (D : Cell) (fV fC : Field) (b : Addr) (A : Cell) (z : Int32) (args : Array Value) (s : State) : Prop := args = #[.ref a, .ref b] ∧ Blank "java/lang/String" a D s ∧ Found "java/lang/String" "value" "[B" fV s ∧ Found "java/lang/String" "coder" "B" fC s ∧ Ch b A s ∧ StaticIs s "java/lang/String" "COMPACT_STRINGS" "Z" (.int z) ∧ ¬ z = 0 ∧ 0 < A.slots.size ∧ A.slots.size ≤ 536870912 ∧ ∀ i, i < A.slots.size → ¬ 255 < cv A i
def E (a : Addr) (D : Cell) (fV fC : Field) (A : Cell) (r : Option Value) (s u : State) : Prop := Got a D fV fC A 0 A.slots.size r s u
/-- new String(chars), not empty, no char above 255: a Latin-1 String of their low bytes -/
theorem law (l : Launch) (a : Addr) (D : Cell) (fV fC : Field) (b : Addr) (A : Cell) (z : Int32) : Law l yN 2 1 3 52 yB 2 none site (P a D fV fC b A z) (E a D fV fC A) [⟨a, fC.slot⟩, ⟨a, fV.slot⟩] 1 A.slots.size := by
  refine Law.of_walk (plainFor_of_name (by decide +kernel)) (by decide +kernel) (by decide +kernel) (by decide) (fun _ _ h => by rw [h.1]; rfl) (fun _ U U' hal hh h => ⟨h.1, h.2.1.mv hal hh, h.2.2.1.al hal, h.2.2.2.1.al hal, h.2.2.2.2.1.mv hal hh, h.2.2.2.2.2.1.there hal hh, h.2.2.2.2.2.2⟩) (fun r U U' V V' h1 hal h2 h => Got.mv r U U' V V' h1 hal h2 h) ?_
  intro p e s m args below meth c s₁ X0 hexec hbytes hml hret hlk hnm hown hh0 W hP
  obtain ⟨rfl, hB, f1, f2, hA, s1, hz, l0, l2, hp⟩ := hP
  have c1 : Steps p.tables e below (s₁.setTop (entryFrame m #[.ref a, .ref b] 2)) (s₁.setTop (mkF m 0 #[.val (.ref a), .val (.ref b)] [])) := entry rfl
  have c2 : Steps p.tables e below (s₁.setTop (entryFrame m #[.ref a, .ref b] 2)) (s₁.setTop (mkF m 6 #[.val (.ref a), .val (.ref b)] [.null, .int (Int32.ofNat A.slots.size), .int 0, .ref b, .ref a])) := c1.trans (by
    refine XS.aloadN X0.here hexec rfl (hb hbytes d0) rfl rfl ?_
    refine XS.aloadN X0.here hexec rfl (hb hbytes d1) rfl rfl ?_
    refine iconstV X0.here hexec rfl 0 (hb hbytes d2) (by decide) ?_
    refine XS.aloadN X0.here hexec rfl (hb hbytes d3) rfl rfl ?_
    refine X0.alen hexec (hA.1.mv X0.warmed.alike hh0) rfl rfl (hb hbytes d4) ?_
    refine XS.aconstNull X0.here hexec rfl (hb hbytes d5) ?_
    exact Steps.refl _)
  obtain ⟨v3, T3, X3, E3, g3⟩ := X0.callN hexec (New4.law l a D fV fC b A z 0 A.slots.size) rfl hown (wks W (initW "java/lang/String" 27 New4.yN)) (W New4.tab (by simp only [site, List.mem_cons, List.mem_append, true_or, or_true])) (W := 0) (Nat.le_of_ble_eq_true rfl) (Nat.le_of_ble_eq_true rfl) (Nat.le_refl _) (by show 0 + A.slots.size ≤ A.slots.size; omega) (g := (mkF m 6 #[.val (.ref a), .val (.ref b)] [.null, .int (Int32.ofNat A.slots.size), .int (Int32.ofNat 0), .ref b, .ref a])) rfl (by rw [hml]; rfl) c2 (argsL := [.ref b, .int (Int32.ofNat 0), .int (Int32.ofNat A.slots.size), .null]) (rest := []) rfl rfl (by show 2 * 0 + 0 ≤ _; decide) (hb hbytes d6) (⟨rfl, hB.mv X0.warmed.alike hh0, f1.al X0.warmed.alike, f2.al X0.warmed.alike, hA.mv X0.warmed.alike hh0, s1.there X0.warmed.alike hh0, hz, l0, by omega, l2, fun i hi => by rw [Nat.zero_add]; exact hp i hi⟩)
  have e0 := Got.mv _ s₁ s _ _ hh0.symm (Vm.Alike.refl _) rfl E3
  obtain rfl := e0.1
  have c4 : Steps p.tables e below (s₁.setTop (entryFrame m #[.ref a, .ref b] 2)) (T3.setTop (mkF m 9 #[.val (.ref a), .val (.ref b)] [])) := g3
  exact ⟨T3, none, _, _, _, X3, by simp, rfl, by omega, (fun _ => rfl), e0, fun fs hl => c4.trans (X3.returnOut hexec hret (hb hbytes d9) hl)⟩
theorem pays {l : Launch} {R : Room} {p : Program} {e : Env} {below : List Frame} {s : State} {sargs : Array Value} {len W : Nat} (a : Addr) (D : Cell) (fV fC : Field) (b : Addr) (A : Cell) (z : Int32) (htab : tab.before sargs s = true) (hfr : 4 ≤ R.frames) (hlo : W + 65 ≤ R.locals) :
    Back l R p e below s sargs yN len W (fun A₁ a₁ => A₁.cells + 1 ≤ R.cells ∧ A₁.slots + A.slots.size ≤ R.slots ∧ P a D fV fC b A z a₁ A₁.U) (fun A₁ _ v₁ B₁ => E a D fV fC A v₁ A₁.U B₁.U ∧ B₁.locs = A₁.locs ++ [⟨a, fC.slot⟩, ⟨a, fV.slot⟩] ∧ B₁.cells = A₁.cells + 1 ∧ B₁.slots = A₁.slots + A.slots.size) :=
  (law l a D fV fC b A z).pays htab hfr (by omega)
end New1
/-- the byte, read back as charAt reads it, is the char -/
theorem lo8_mask {x : Int32} (h0 : ¬ x < 0) (h1 : ¬ 255 < x) : lo8 x &&& 255 = x := by
  have t : ∀ k : Fin 256, lo8 (Int32.ofNat k.val) &&& 255 = Int32.ofNat k.val := by decide +kernel
  rw [Int32.lt_iff_toInt_lt] at h0 h1
  have e0 : (0 : Int32).toInt = 0 := rfl
  have e1 : (255 : Int32).toInt = 255 := rfl
  obtain ⟨k, hk⟩ : ∃ k : Nat, x.toInt = k := ⟨x.toInt.toNat, by omega⟩
  have hx : x = Int32.ofNat k := Int32.toInt_inj.mp (by rw [hk, Int32.toInt_ofNat_small (by omega)])
  rw [hx]
  exact t ⟨k, by omega⟩
end StrChars
namespace StrChars.Road
open Jvm Sem ClassFile Op Lib Jvm.Stand Jvm.Free Jvm.Free.XT
open Jvm.Lib.Cold (StaticIs)
abbrev ST : String := "java/lang/String"
/-- every table word that New1's law asks, flat -/
abbrev words : List Jvm.Cond := [.code New1.yN New1.yB 2 none, .initialized ST, .methodLink ST 27 New4.yN, .instanceMethod New4.yN,
  .code New4.yN New4.yB 6 none, .fieldLink ST 38 ST "COMPACT_STRINGS" "Z", .laysFinal ST ST "value" "[B", .fieldLink ST 9 ST "value" "[B", .laysFinal ST ST "coder" "B", .fieldLink ST 15 ST "coder" "B",
  .methodLink ST 1 Lib.objectInit, .instanceMethod Lib.objectInit, .code Lib.objectInit ⟨#[0xb1]⟩ 1 none, .methodLink ST 177 Cmp3.yN, .static Cmp3.yN, .methodLink ST 47 CodL.yN, .static CodL.yN,
  .code Cmp3.yN Cmp3.yB 6 (some (.array .byte)), .initialized U16, .arrayClass .byte, .methodLink U16 115 Cmp5.yN, .static Cmp5.yN, .code Cmp5.yN Cmp5.yB 7 (some .int), .code CodL.yN CodL.yB 2 (some .byte)]
theorem tab_of {a : Array Value} {s : State} (h : ∀ w ∈ words, w.before a s = true) : New1.tab.before a s = true := by
  have h5 : Cmp5.tab.before a s = true := unparts (wk h (.code Cmp5.yN Cmp5.yB 7 (some .int))) (wks h (.initialized Cmp5.yN.cls :: Cmp5.site))
  have hc : CodL.tab.before a s = true := unparts (wk h (.code CodL.yN CodL.yB 2 (some .byte))) (wks h (.initialized CodL.yN.cls :: CodL.site))
  have q5 : ∀ w ∈ Cmp5.tab :: words, w.before a s = true := fun w hw => (List.mem_cons.mp hw).elim (fun e => e ▸ h5) (h w)
  have h3 : Cmp3.tab.before a s = true := unparts (wk q5 (.code Cmp3.yN Cmp3.yB 6 (some (.array .byte)))) (wks q5 (.initialized Cmp3.yN.cls :: Cmp3.site))
  have q3 : ∀ w ∈ Cmp3.tab :: CodL.tab :: words, w.before a s = true := fun w hw => (List.mem_cons.mp hw).elim (fun e => e ▸ h3) fun hw => (List.mem_cons.mp hw).elim (fun e => e ▸ hc) (h w)
  have h4 : New4.tab.before a s = true := unparts (wk q3 (.code New4.yN New4.yB 6 none)) (wks q3 (.initialized New4.yN.cls :: New4.site))
  have q4 : ∀ w ∈ New4.tab :: words, w.before a s = true := fun w hw => (List.mem_cons.mp hw).elim (fun e => e ▸ h4) (h w)
  exact unparts (wk q4 (.code New1.yN New1.yB 2 none)) (wks q4 (.initialized New1.yN.cls :: New1.site))
/-- the words ride from the start Z to the walk's own state -/
theorem moved {Z s : State} {a0 args : Array Value} (hZ : Z.Warmed39 s.vm) (hw : ∀ d ∈ words, d.before a0 Z = true) : ∀ d ∈ words, d.before args s = true := fun d hd => by
  have q := hw d hd
  have t : ∀ d ∈ words, d = .arrayClass .byte ∨ (d.onTables && d.keepsFace) = true := by decide +kernel
  rcases t d hd with rfl | t
  · exact RoadKit.mvA hZ q
  · exact RoadKit.mv hZ q t
/-- WHAT COMES BACK, over the tables of the start Z: h the heap at the call, h' behind it -/
def Q (Z : State) (x : Addr) (A : Cell) (h : Heap) (v : Option Value) (h' : Heap) (L : List Loc) : Prop := v = none ∧ (∀ y ∈ L, y.base = x) ∧ RoadKit.Keep h h' [x] ∧ h'.size = h.size + 1 ∧ RoadKit.Exa Z h' x ST ∧ RoadKit.Fld Z h' x ST "value" "[B" (.ref h.size) ∧ RoadKit.Fld Z h' x ST "coder" "B" (.int 0) ∧
  (∃ V : Cell, RoadKit.Arr Z h' h.size V .byte ∧ V.vm = .none ∧ Z.vm.findClass "[B" = some V.cls ∧ V.slots.size = A.slots.size ∧ ∀ j, j < A.slots.size → V.slots[j]? = some (.int (lo8 (cv A j)))) ∧
  ∀ (O n d : String) (w : Value), RoadKit.Fld Z h x O n d w → RoadKit.slotOf Z O n d ≠ RoadKit.slotOf Z ST "value" "[B" → RoadKit.slotOf Z O n d ≠ RoadKit.slotOf Z ST "coder" "B" → RoadKit.Fld Z h' x O n d w
/-- **new String(chars) AT A CALL, IN THE ROAD'S FORM**: for specialBack behind newO: x the fresh String, b the char[] with the cell A -/
theorem back {p : Program} {l : Launch} {e : Env} {R : Room} {s : State} {args : Array Value} {below : List Frame} {len W : Nat} {Z : State} {a0 : Array Value} {h : Heap} (hZ : Z.Warmed39 s.vm) (hw : ∀ d ∈ words, d.before a0 Z = true) {kI : Nat} (wi : (Jvm.Cond.instantiable ST kI).before a0 Z = true)
    {x b : Addr} {A : Cell} {z : Int32} {v0 c0 : Value} (E : RoadKit.Exa Z h x ST) (V : RoadKit.Fld Z h x ST "value" "[B" v0) (C : RoadKit.Fld Z h x ST "coder" "B" c0) (K : RoadKit.Arr Z h b A .char) (hty : Typed .char A) (S : RoadKit.Sta Z h ST "COMPACT_STRINGS" "Z" (.int z)) (hz : ¬ z = 0)
    (l0 : 0 < A.slots.size) (l2 : A.slots.size ≤ 536870912) (hp : ∀ i, i < A.slots.size → ¬ 255 < cv A i) (hfr : 4 ≤ R.frames) (hlo : W + 65 ≤ R.locals) :
    Back l R p e below s args New1.yN len W (fun P a => a = #[.ref x, .ref b] ∧ P.U.heap = h ∧ P.cells + 1 ≤ R.cells ∧ P.slots + A.slots.size ≤ R.slots)
      (fun P _ v B => ∃ L, Q Z x A h v B.U.heap L ∧ B.locs = P.locs ++ L ∧ B.cells = P.cells + 1 ∧ B.slots = P.slots + A.slots.size) := by
  intro m meth c P g ig mk a X hg hsize hdg hW hn hp'
  obtain ⟨rfl, rfl, r1, r2⟩ := hp'
  have al : Z.vm.Alike P.U.vm := hZ.alike.trans X.warmed.alike
  obtain ⟨D, cfV, kV, iV, fV, hD, gV, stV, knV, obV, asV, slV⟩ := id V
  obtain ⟨D', cfC, kC, iC, fC, hD', gC, stC, -, -, asC, slC⟩ := id C
  cases hD.symm.trans hD'
  obtain ⟨D2, kD, e1, e2, e3, e4, e5⟩ := id E
  cases hD.symm.trans e1
  obtain ⟨c2, k2, i1, i2, i3, -⟩ := Cond.instantiable_spec wi
  cases e2.symm.trans i1
  cases e3.symm.trans i2
  obtain ⟨kU, u1, u2⟩ := al.2.2 _ _ e3
  have hB : Blank ST x D P.U := ⟨hD, ⟨knV, fun q hq => by rw [hq] at obV; cases obV⟩, by rw [al.findClass]; exact e2, kU, u1, by rw [u2]; exact i3, by rw [u2]; exact e5 i3⟩
  have F1 : Found ST "value" "[B" fV P.U := ⟨SBG.found_only al ⟨cfV, kV, iV, gV⟩, stV⟩
  have F2 : Found ST "coder" "B" fC P.U := ⟨SBG.found_only al ⟨cfC, kC, iC, gC⟩, stC⟩
  have hA : Ch b A P.U := ⟨⟨K.1, State.isArrayOf_alike al K.2.1, K.2.2, by omega⟩, hty⟩
  have hS : StaticIs P.U ST "COMPACT_STRINGS" "Z" (.int z) := by
    obtain ⟨cfS, iS, kS, fS, st, cS, t1, t2, t3, t4, t5, t6, t7⟩ := S
    exact StaticIs.there (s := { Z with heap := P.U.heap }) ⟨cfS, iS, kS, fS, st, cS, t1, t2, t3, t4, t5, (fun q => by rw [q] at t6; cases t6), t7⟩ al rfl
  obtain ⟨v, B, X', ⟨⟨hv, E', V', q1, q2, q3, q4, q5, q6, q7, q8, q9, q10, q11⟩, hl, hc, hs⟩, st⟩ := New1.pays x D fV fC b A z (tab_of (moved hZ hw)) hfr hlo m meth c P g ig mk _ X hg hsize hdg hW hn ⟨r1, r2, rfl, hB, F1, F2, hA, hS, hz, l0, l2, hp⟩
  have al' : Z.vm.Alike B.U.vm := hZ.alike.trans X'.warmed.alike
  have hsz : E'.slots.size = D.slots.size := by
    obtain ⟨-, -, -, kB, w1, w2, w3⟩ := q1
    obtain ⟨kB', y1, y2⟩ := al'.2.2 _ _ e3
    rw [q2.2.1] at w1
    cases w1.symm.trans y1
    rw [w3, e5 i3, y2]
  refine ⟨v, B, X', ⟨_, ⟨hv, ?_, ⟨by omega, fun y cy hy hn' => q10 y cy (by simpa using hn') hy, fun y cy hy => ?_⟩, q11, ⟨E', _, q1.1, by rw [q2.2.1]; exact e2, by rw [q2.2.1]; exact e3, by rw [q2.1]; exact obV, fun _ => by rw [hsz]; exact e5 i3⟩,
    ⟨E', cfV, kV, iV, fV, q1.1, gV, stV, by rw [q2.1]; exact knV, by rw [q2.1]; exact obV, by rw [q2.2.1]; exact asV, q3⟩, ⟨E', cfC, kC, iC, fC, q1.1, gC, stC, by rw [q2.1]; exact knV, by rw [q2.1]; exact obV, by rw [q2.2.1]; exact asC, q4⟩,
    ⟨V', ⟨q5.1, State.isArrayOf_alike al'.symm q5.2.1, q5.2.2.1⟩, q6, by rw [← al'.findClass]; exact q7, q8, fun j hj => by have := q9 j hj; rwa [Nat.zero_add] at this⟩, fun O n d w F n1 n2 => ?_⟩, hl, hc, hs⟩, st⟩
  · intro y hy
    simp only [List.mem_cons, List.not_mem_nil, or_false] at hy
    rcases hy with rfl | rfl <;> rfl
  · by_cases q : y = x
    · subst q
      cases hD.symm.trans hy
      exact ⟨E', q1.1, q2.2.1, q2.1, hsz⟩
    · exact ⟨cy, q10 y cy q hy, rfl, rfl, rfl⟩
  · obtain ⟨D3, cf, k, i, f, g1, g2, g3, g4, g5, g6, g7⟩ := F
    cases hD.symm.trans g1
    simp only [RoadKit.slotOf, g2, gV, gC, Option.map_some, Option.getD_some] at n1 n2
    exact ⟨E', cf, k, i, f, q1.1, g2, g3, by rw [q2.1]; exact g4, by rw [q2.1]; exact g5, by rw [q2.2.1]; exact g6, by rw [q2.2.2 f.slot (by simp [n1, n2])]; exact g7⟩
end StrChars.Road
namespace StrChars.Road
open Jvm Sem ClassFile Op Lib Jvm.Stand Jvm.Free Jvm.Free.XT
/-- WHAT COMES BACK, the byte[] as a list of values -/
def QA (Z : State) (x : Addr) (zn : Int32) (cs : List Int32) (h : Heap) (v : Option Value) (h' : Heap) (L : List Loc) : Prop := v = none ∧ (∀ y ∈ L, y.base = x) ∧ RoadKit.Keep h h' [x] ∧ h'.size = h.size + 1 ∧ RoadKit.Exa Z h' x ST ∧ RoadKit.Fld Z h' x ST "value" "[B" (.ref h.size) ∧ RoadKit.Fld Z h' x ST "coder" "B" (.int 0) ∧
  (∃ kb, Z.vm.findClass "[B" = some kb ∧ RoadKit.Arv Z h' h.size kb .byte zn (cs.map fun c => .int (lo8 c)) (.int 0)) ∧
  ∀ (O n d : String) (w : Value), RoadKit.Fld Z h x O n d w → RoadKit.slotOf Z O n d ≠ RoadKit.slotOf Z ST "value" "[B" → RoadKit.slotOf Z O n d ≠ RoadKit.slotOf Z ST "coder" "B" → RoadKit.Fld Z h' x O n d w
/-- **new String(chars) AT A CALL, THE ARRAYS AS LISTS**: the char[] at b holds cs, not empty, no char above 255 -/
theorem backArv {p : Program} {l : Launch} {e : Env} {R : Room} {s : State} {args : Array Value} {below : List Frame} {len W : Nat} {Z : State} {a0 : Array Value} {h : Heap} (hZ : Z.Warmed39 s.vm) (hw : ∀ d ∈ words, d.before a0 Z = true) {kI : Nat} (wi : (Jvm.Cond.instantiable ST kI).before a0 Z = true)
    {x b : Addr} {k : ClassId} {zn z : Int32} {cs : List Int32} {dv v0 c0 : Value} (E : RoadKit.Exa Z h x ST) (V : RoadKit.Fld Z h x ST "value" "[B" v0) (C : RoadKit.Fld Z h x ST "coder" "B" c0) (K : RoadKit.Arv Z h b k .char zn (cs.map Value.int) dv) (S : RoadKit.Sta Z h ST "COMPACT_STRINGS" "Z" (.int z)) (hz : ¬ z = 0)
    (hlen : zn.toNatClampNeg = cs.length) (h0 : 0 < cs.length) (hbig : cs.length ≤ 536870912) (hall : ∀ c ∈ cs, ¬ 255 < c) (hfr : 4 ≤ R.frames) (hlo : W + 65 ≤ R.locals) :
    Back l R p e below s args New1.yN len W (fun P a => a = #[.ref x, .ref b] ∧ P.U.heap = h ∧ P.cells + 1 ≤ R.cells ∧ P.slots + cs.length ≤ R.slots)
      (fun P _ v B => ∃ L, QA Z x zn cs h v B.U.heap L ∧ B.locs = P.locs ++ L ∧ B.cells = P.cells + 1 ∧ B.slots = P.slots + cs.length) := by
  obtain ⟨A, K1, K2, K3, K4, K5, K6⟩ := K
  have e : A.slots.size = cs.length := K3.trans hlen
  have hat : ∀ (i : Nat) (hi : i < cs.length), A.slots[i]? = some (.int cs[i]) := fun i hi => by rw [K5 i (by omega)]; simp [List.getD_eq_getElem?_getD, hi]
  have hcv : ∀ (i : Nat) (hi : i < cs.length), cv A i = cs[i] := fun i hi => by unfold cv; rw [hat i hi]
  have hty : Typed .char A := fun i v hv => by
    have hi : i < A.slots.size := (Array.getElem?_eq_some_iff.mp hv).1
    have q := K5 i hi
    rw [hv] at q
    rw [Option.some.inj q]
    exact K6 i hi
  refine Back.mono (back hZ hw wi E V C K1 hty S hz (by omega) (by omega) (fun i hi => by rw [hcv i (by omega)]; exact hall _ (List.getElem_mem _)) hfr hlo) (fun P a hp => ⟨hp.1, hp.2.1, hp.2.2.1, by rw [e]; exact hp.2.2.2⟩) (fun P a v B hp hq => ?_)
  obtain ⟨L, ⟨q1, q2, q3, q4, q5, q6, q7, ⟨V', v1, v2, v3, v4, v5⟩, q9⟩, hl, hc, hs⟩ := hq
  refine ⟨L, ⟨q1, q2, q3, q4, q5, q6, q7, ⟨V'.cls, v3, V', v1, rfl, by rw [v4, e, hlen], K4, fun i hi => ?_, fun i hi => ?_⟩, q9⟩, hl, hc, by rw [hs, e]⟩
  · have hi' : i < cs.length := by omega
    rw [v5 i (by omega), hcv i hi']; simp [List.getD_eq_getElem?_getD, hi']
  · have hi' : i < cs.length := by omega
    simp only [List.getD_eq_getElem?_getD, List.getElem?_map, List.getElem?_eq_getElem hi', Option.map_some, Option.getD_some]
    exact fits_lo8 _
end StrChars.Road
namespace StrChars.Road
open Jvm Sem ClassFile Op Lib Jvm.Stand Jvm.Free Jvm.Free.XT
/-- WHAT COMES BACK, in the writer's own shape -/
def QV (Z : State) (x : Addr) (N : Int32) (bs : List Int32) (h : Heap) (n0 : Nat) (v : Option Value) (h' : Heap) (L : List Loc) : Prop := v = none ∧ RoadKit.Fr n0 L ∧ RoadKit.Keep h h' [x] ∧ RoadKit.Exa Z h' x ST ∧ RoadKit.Fld Z h' x ST "coder" "B" (.int 0) ∧
  ∃ (t : Addr) (kb : ClassId), n0 ≤ t ∧ h.size ≤ t ∧ ¬ t = x ∧ RoadKit.Fld Z h' x ST "value" "[B" (.ref t) ∧ RoadKit.Arv Z h' t kb .byte N (bs.map Value.int) (.int 0)
/-- **new String(chars) AT A CALL, FOR THE WRITER**: a char[] of n known ints, each 0 to 255 -/
theorem backV {p : Program} {l : Launch} {e : Env} {R : Room} {s : State} {args : Array Value} {below : List Frame} {len W : Nat} {Z : State} {a0 : Array Value} {h : Heap} (hZ : Z.Warmed39 s.vm) (hw : ∀ d ∈ words, d.before a0 Z = true) {kI : Nat} (wi : (Jvm.Cond.instantiable ST kI).before a0 Z = true)
    {x b : Addr} {kC : ClassId} {cs bs : List Int32} {d v0 c0 : Value} {z N : Int32} {n n0 : Nat} (hx0 : n0 ≤ x) (hh0 : n0 ≤ h.size) (E : RoadKit.Exa Z h x ST) (V : RoadKit.Fld Z h x ST "value" "[B" v0) (C : RoadKit.Fld Z h x ST "coder" "B" c0) (K : RoadKit.Arv Z h b kC .char N (cs.map Value.int) d) (S : RoadKit.Sta Z h ST "COMPACT_STRINGS" "Z" (.int z)) (hz : ¬ z = 0)
    (hn : cs.length = n) (hN : N = Int32.ofNat n) (l0 : 0 < n) (l2 : n ≤ 4000) (hp : ∀ c ∈ cs, ¬ c < 0 ∧ ¬ (255 : Int32) < c) (hb : bs = cs.map (fun c => c.toInt8.toInt32)) (hfr : 4 ≤ R.frames) (hlo : W + 65 ≤ R.locals) :
    Back l R p e below s args (⟨"java/lang/String", "<init>", "([C)V"⟩ : MethodName) len W (fun P a => a = #[.ref x, .ref b] ∧ P.U.heap = h ∧ P.cells + 1 ≤ R.cells ∧ P.slots + n ≤ R.slots)
      (fun P _ v B => ∃ L, QV Z x N bs h n0 v B.U.heap L ∧ B.locs = P.locs ++ L ∧ B.cells = P.cells + 1 ∧ B.slots = P.slots + n) := by
  subst hn hN hb
  refine Back.mono (backArv hZ hw wi E V C K S hz (n32 (by omega)) l0 (by omega) (fun c hc => (hp c hc).2) hfr hlo) (fun P a hp => hp) (fun P a v B hp hq => ?_)
  obtain ⟨L, ⟨q1, q2, q3, q4, q5, q6, q7, ⟨kb, v1, v2⟩, q9⟩, hl, hc, hs⟩ := hq
  exact ⟨L, ⟨q1, fun y hy => by rw [q2 y hy]; exact hx0, q3, q5, q7, h.size, kb, hh0, Nat.le_refl _, Nat.ne_of_gt E.lt, q6, by rw [List.map_map]; exact v2⟩, hl, hc, hs⟩
end StrChars.Road
namespace StrChars
open Jvm Sem ClassFile Op Lib Jvm.Stand Jvm.Free.XT Jvm.Free.ALB Jvm.Free.JM Jvm.Free
open Jvm.Lib.Cold (StaticIs)
def hi8 (x : Int32) : Int32 := lo8 (x >>> ((8 : Int32) &&& 31))
/-- what StringUTF16.getChar makes of two bytes -/
def pairCh (u v : Int32) : Int32 := (((u &&& 255) <<< ((0 : Int32) &&& 31)) ||| ((v &&& 255) <<< ((8 : Int32) &&& 31))).toUInt32.toUInt16.toUInt32.toInt32
theorem shr0 (c : Int32) : c >>> ((0 : Int32) &&& 31) = c := by
  have e : ((0 : Int32) &&& 31) = 0 := by decide
  rw [e]
  apply Int32.toBitVec_inj.mp
  rw [Int32.toBitVec_shiftRight]
  have e1 : ((0 : Int32).toBitVec.smod 32) = 0#32 := by decide
  rw [e1, BitVec.sshiftRight_eq']
  exact BitVec.sshiftRight_zero
theorem lo8_and (x : Int32) : (lo8 x &&& 255).toBitVec.toNat = x.toBitVec.toNat % 256 := by
  have h : (lo8 x).toBitVec = (x.toBitVec.signExtend 8).signExtend 32 := by rw [lo8, Int8.toBitVec_toInt32, Int32.toBitVec_toInt8]
  rw [Int32.toBitVec_and, BitVec.toNat_and, h]
  have e : ((x.toBitVec.signExtend 8).signExtend 32).toNat % 256 = x.toBitVec.toNat % 256 := by
    rw [BitVec.toNat_signExtend]
    have hlt := x.toBitVec.isLt
    simp only [BitVec.toNat_setWidth, BitVec.toNat_signExtend]
    split <;> split <;> omega
  rw [← e]
  exact Nat.and_two_pow_sub_one_eq_mod _ 8
theorem pair_says {c : Int32} (h0 : ¬ c < 0) (h1 : ¬ 65535 < c) : pairCh (lo8 c) (hi8 c) = c := by
  rw [Int32.lt_iff_toInt_lt] at h0 h1
  have e0 : (0 : Int32).toInt = 0 := rfl
  have e1 : (65535 : Int32).toInt = 65535 := rfl
  have hc : c.toInt = c.toBitVec.toNat := by
    have := c.toBitVec.isLt
    have e : c.toInt = c.toBitVec.toInt := rfl
    rw [e] at h0 h1
    rw [e]
    rw [BitVec.toInt_eq_toNat_cond] at h0 h1 ⊢
    split at h0 <;> split <;> omega
  have hn : c.toBitVec.toNat < 65536 := by omega
  have a1 := lo8_and c
  have a2 : (hi8 c &&& 255).toBitVec.toNat = c.toBitVec.toNat / 256 := by
    rw [hi8, lo8_and]
    have e : ((8 : Int32) &&& 31) = 8 := by decide
    rw [e, Int32.toBitVec_shiftRight]
    have e2 : ((8 : Int32).toBitVec.smod 32) = 8#32 := by decide
    rw [e2, BitVec.sshiftRight_eq', BitVec.toNat_sshiftRight_of_msb_false (by rw [BitVec.msb_eq_false_iff_two_mul_lt]; omega)]
    show c.toBitVec.toNat >>> 8 % 256 = _
    rw [Nat.shiftRight_eq_div_pow]
    omega
  unfold pairCh
  apply Int32.toBitVec_inj.mp
  apply BitVec.eq_of_toNat_eq
  have f0 : ((0 : Int32) &&& 31) = 0 := by decide
  have f8 : ((8 : Int32) &&& 31) = 8 := by decide
  rw [f0, f8]
  have g : (((lo8 c &&& 255) <<< (0 : Int32)) ||| ((hi8 c &&& 255) <<< (8 : Int32))).toBitVec.toNat = c.toBitVec.toNat := by
    rw [Int32.toBitVec_or, Int32.toBitVec_shiftLeft, Int32.toBitVec_shiftLeft]
    have s0 : ((0 : Int32).toBitVec.smod 32) = 0#32 := by decide
    have s8 : ((8 : Int32).toBitVec.smod 32) = 8#32 := by decide
    rw [s0, s8, BitVec.toNat_or]
    simp only [BitVec.shiftLeft_eq', BitVec.toNat_shiftLeft, a1, a2]
    show (c.toBitVec.toNat % 256) <<< 0 % 2 ^ 32 ||| (c.toBitVec.toNat / 256) <<< 8 % 2 ^ 32 = _
    rw [Nat.shiftLeft_zero, Nat.mod_eq_of_lt (show c.toBitVec.toNat % 256 < 2 ^ 32 by omega), Nat.mod_eq_of_lt (show (c.toBitVec.toNat / 256) <<< 8 < 2 ^ 32 by rw [Nat.shiftLeft_eq]; omega), Nat.or_comm, ← Nat.shiftLeft_add_eq_or_of_lt (by omega), Nat.shiftLeft_eq]
    omega
  show BitVec.toNat (((((lo8 c &&& 255) <<< (0 : Int32)) ||| ((hi8 c &&& 255) <<< (8 : Int32))).toBitVec.setWidth 16).setWidth 32) = _
  rw [BitVec.toNat_setWidth, BitVec.toNat_setWidth, g]
  omega
end StrChars
namespace StrChars
open Jvm Sem ClassFile Op Lib Jvm.Stand Jvm.Free.XT Jvm.Free.ALB Jvm.Free.JM Jvm.Free
open Jvm.Lib.Cold (StaticIs)
theorem shr1 {n : Nat} (h : 2 * n < 2 ^ 31) : Int32.ofNat (2 * n) >>> ((1 : Int32) &&& 31) = Int32.ofNat n := by
  have e : ((1 : Int32) &&& 31) = 1 := by decide
  rw [e]
  apply Int32.toBitVec_inj.mp
  rw [Int32.toBitVec_shiftRight]
  have e1 : ((1 : Int32).toBitVec.smod 32) = 1#32 := by decide
  have hm : (BitVec.ofNat 32 (2 * n)).toNat = 2 * n := by rw [BitVec.toNat_ofNat, Nat.mod_eq_of_lt (by omega)]
  rw [e1, BitVec.sshiftRight_eq']
  apply BitVec.eq_of_toNat_eq
  show ((BitVec.ofNat 32 (2 * n)).sshiftRight 1).toNat = (BitVec.ofNat 32 n).toNat
  rw [BitVec.toNat_sshiftRight_of_msb_false (by rw [BitVec.msb_eq_false_iff_two_mul_lt, hm]; omega), hm, BitVec.toNat_ofNat, Nat.shiftRight_eq_div_pow]
  omega
/-- charAt's cast of a byte read back -/
def chr8 (u : Int32) : Int32 := (u &&& 255).toUInt32.toUInt16.toUInt32.toInt32
theorem chr8_lo8 {c : Int32} (h0 : ¬ c < 0) (h1 : ¬ 255 < c) : chr8 (lo8 c) = c := by
  have t : ∀ k : Fin 256, (Int32.ofNat k.val).toUInt32.toUInt16.toUInt32.toInt32 = Int32.ofNat k.val := by decide +kernel
  unfold chr8
  rw [lo8_mask h0 h1]
  rw [Int32.lt_iff_toInt_lt] at h0 h1
  have e0 : (0 : Int32).toInt = 0 := rfl
  have e1 : (255 : Int32).toInt = 255 := rfl
  obtain ⟨k, hk⟩ : ∃ k : Nat, c.toInt = k := ⟨c.toInt.toNat, by omega⟩
  have hx : c = Int32.ofNat k := Int32.toInt_inj.mp (by rw [hk, Int32.toInt_ofNat_small (by omega)])
  rw [hx]
  exact t ⟨k, by omega⟩
theorem narrow_ch {c : Int32} (h0 : ¬ c < 0) (h1 : ¬ 65535 < c) : narrow .char (.int c) = .int c := by
  have q : narrow .char (.int (pairCh (lo8 c) (hi8 c))) = .int (pairCh (lo8 c) (hi8 c)) := narrow_c _
  rwa [pair_says h0 h1] at q
/-- the array's cell V codes the n chars f 0 .. f (n - 1) by the coder cd, as the JDK does: coder 1 just where some char is above 255 -/
def Cod (cd : Int32) (n : Nat) (f : Nat → Int32) (V : Cell) : Prop := (cd = 0 ∧ V.slots.size = n ∧ ∀ j, j < n → V.slots[j]? = some (.int (lo8 (f j))) ∧ ¬ 255 < f j) ∨ (cd = 1 ∧ V.slots.size = 2 * n ∧ (∀ j, j < n → V.slots[2 * j]? = some (.int (lo8 (f j))) ∧ V.slots[2 * j + 1]? = some (.int (hi8 (f j)))) ∧ ∃ j, j < n ∧ 255 < f j)
theorem Cod.cd {cd : Int32} {n : Nat} {f : Nat → Int32} {V : Cell} (h : Cod cd n f V) : cd = 0 ∨ cd = 1 := h.imp (fun q => q.1) fun q => q.1
theorem Cod.len {cd : Int32} {n : Nat} {f : Nat → Int32} {V : Cell} (h : Cod cd n f V) (hs : V.slots.size < 2 ^ 31) : Int32.ofNat V.slots.size >>> (cd &&& 31) = Int32.ofNat n := by
  rcases h with ⟨rfl, h, -⟩ | ⟨rfl, h, -⟩
  · rw [shr0, h]
  · rw [h, shr1 (by omega)]
/-- **x is a String of the n chars f 0 .. f (n - 1)**, Latin-1 or UTF-16; its array at t has the cell V -/
def Txt (x t : Addr) (V : Cell) (cd : Int32) (n : Nat) (f : Nat → Int32) (U : State) : Prop := Exact "java/lang/String" x U ∧ Has x "java/lang/String" "value" "[B" (.ref t) U ∧ Has x "java/lang/String" "coder" "B" (.int cd) U ∧ XT.Arr .byte t V U ∧ Cod cd n f V ∧ ∀ j, j < n → ¬ f j < 0 ∧ ¬ 65535 < f j
theorem Txt.mv {x t : Addr} {V : Cell} {cd : Int32} {n : Nat} {f : Nat → Int32} {U U' : State} (h : Txt x t V cd n f U) (hal : U.vm.Alike U'.vm) (hh : U'.heap = U.heap) : Txt x t V cd n f U' := ⟨h.1.mv hal hh, h.2.1.mv hal hh, h.2.2.1.mv hal hh, h.2.2.2.1.mv hal hh, h.2.2.2.2⟩
namespace Cdr
def yN : MethodName := ⟨"java/lang/String", "coder", "()B"⟩
abbrev yB : ByteArray := jdk_42_method_152_code
theorem d0 : decode yB 0 = .ok (.getstatic 38, 3) := by decide +kernel
theorem d3 : decode yB 3 = .ok (.ifCond (.eq) 10, 3) := by decide +kernel
theorem d6 : decode yB 6 = .ok (.aload_n 0, 1) := by decide +kernel
theorem d7 : decode yB 7 = .ok (.getfield 15, 3) := by decide +kernel
theorem d10 : decode yB 10 = .ok (.goto 4, 3) := by decide +kernel
theorem d14 : decode yB 14 = .ok (.ireturn, 1) := by decide +kernel
def site : List Cond := [.fieldLink "java/lang/String" 38 "java/lang/String" "COMPACT_STRINGS" "Z", .fieldLink "java/lang/String" 15 "java/lang/String" "coder" "B"]
def tab : Cond := tabOf yN yB 1 (some .byte) site
def P (x : Addr) (cd z : Int32) (args : Array Value) (s : State) : Prop := args = #[.ref x] ∧ Has x "java/lang/String" "coder" "B" (.int cd) s ∧ (cd = 0 ∨ cd = 1) ∧ StaticIs s "java/lang/String" "COMPACT_STRINGS" "Z" (.int z) ∧ ¬ z = 0
def E (cd : Int32) (r : Option Value) (s u : State) : Prop := XT.PureE (some (.int cd)) r s u
theorem law (l : Launch) (x : Addr) (cd z : Int32) : Law l yN 1 0 0 0 yB 1 (some .byte) site (P x cd z) (E cd) [] 0 0 := by
  refine Law.of_walk (plainFor_of_name (by decide +kernel)) (by decide +kernel) (by decide +kernel) (by decide) (fun _ _ h => by rw [h.1]; rfl) (fun _ U U' hal hh h => ⟨h.1, h.2.1.mv hal hh, h.2.2.1, h.2.2.2.1.there hal hh, h.2.2.2.2⟩) (fun r U U' V V' h1 hal h2 h => XT.PureE.mv r U U' V V' h1 hal h2 h) ?_
  intro p e s m args below meth c s₁ X0 hexec hbytes hml hret hlk hnm hown hh0 W hP
  obtain ⟨rfl, hx, hc, s1, hz⟩ := hP
  have c1 : Steps p.tables e below (s₁.setTop (entryFrame m #[.ref x] 1)) (s₁.setTop (mkF m 0 #[.val (.ref x)] [])) := entry rfl
  obtain ⟨T2, X2, q2, st2⟩ := X0.sget hexec hown (wk W (.fieldLink "java/lang/String" 38 "java/lang/String" "COMPACT_STRINGS" "Z")) s1 (fun _ _ h => by rw [hh0]; exact h) (g := (mkF m 0 #[.val (.ref x)] [])) rfl (hb hbytes d0)
  have hh2 := q2.trans hh0
  have c3 : Steps p.tables e below (s₁.setTop (entryFrame m #[.ref x] 1)) (T2.setTop (mkF m 7 #[.val (.ref x)] [.ref x])) := (c1.trans (st2 _ (Steps.refl _))).trans (by
    refine XS.ifNo X2.here hexec rfl (hb hbytes d3) rfl (i0_eq_f hz) ?_
    refine XS.aloadN X2.here hexec rfl (hb hbytes d6) rfl rfl ?_
    exact Steps.refl _)
  obtain ⟨T4, X4, q4, st4⟩ := X2.hget hexec hown (wk W (.fieldLink "java/lang/String" 15 "java/lang/String" "coder" "B")) (hx.mv X2.warmed.alike hh2) (g := (mkF m 7 #[.val (.ref x)] [.ref x])) rfl (rest := []) rfl (hb hbytes d7)
  have c5 : Steps p.tables e below (s₁.setTop (entryFrame m #[.ref x] 1)) (T4.setTop (mkF m 14 #[.val (.ref x)] [.int cd])) := (c3.trans (st4 _ (Steps.refl _))).trans (by
    refine XS.goto X4.here hexec rfl (pc0 := 10) rfl (hb hbytes d10) (by decide) rfl ?_
    exact Steps.refl _)
  exact ⟨T4, some (.int cd), _, _, _, X4, rfl, rfl, rfl, (fun h => by cases h), ⟨rfl, q4.trans hh2⟩, fun fs hl => c5.trans (X4.ireturnOut hexec hret (by rcases hc with rfl | rfl <;> rfl) (Or.inr (Or.inr (Or.inl rfl))) (hb hbytes d14) hl)⟩
end Cdr
namespace Len
def yN : MethodName := ⟨"java/lang/String", "length", "()I"⟩
abbrev yB : ByteArray := jdk_42_method_54_code
theorem d0 : decode yB 0 = .ok (.aload_n 0, 1) := by decide +kernel
theorem d1 : decode yB 1 = .ok (.getfield 9, 3) := by decide +kernel
theorem d4 : decode yB 4 = .ok (.arraylength, 1) := by decide +kernel
theorem d5 : decode yB 5 = .ok (.aload_n 0, 1) := by decide +kernel
theorem d6 : decode yB 6 = .ok (.invokevirtual 335, 3) := by decide +kernel
theorem d9 : decode yB 9 = .ok (.ishr, 1) := by decide +kernel
theorem d10 : decode yB 10 = .ok (.ireturn, 1) := by decide +kernel
def site : List Cond := [.fieldLink "java/lang/String" 9 "java/lang/String" "value" "[B", Cdr.tab] ++ virtW "java/lang/String" 335 "java/lang/String" Cdr.yN Cdr.yN
def tab : Cond := tabOf yN yB 1 (some .int) site
def P (x t : Addr) (V : Cell) (cd : Int32) (n : Nat) (f : Nat → Int32) (z : Int32) (args : Array Value) (s : State) : Prop := args = #[.ref x] ∧ Txt x t V cd n f s ∧ StaticIs s "java/lang/String" "COMPACT_STRINGS" "Z" (.int z) ∧ ¬ z = 0
def E (n : Nat) (r : Option Value) (s u : State) : Prop := XT.PureE (some (.int (Int32.ofNat n))) r s u
/-- length() of a String of n chars, in either coding -/
theorem law (l : Launch) (x t : Addr) (V : Cell) (cd : Int32) (n : Nat) (f : Nat → Int32) (z : Int32) : Law l yN 1 0 1 13 yB 1 (some .int) site (P x t V cd n f z) (E n) [] 0 0 := by
  refine Law.of_walk (plainFor_of_name (by decide +kernel)) (by decide +kernel) (by decide +kernel) (by decide) (fun _ _ h => by rw [h.1]; rfl) (fun _ U U' hal hh h => ⟨h.1, h.2.1.mv hal hh, h.2.2.1.there hal hh, h.2.2.2⟩) (fun r U U' V V' h1 hal h2 h => XT.PureE.mv r U U' V V' h1 hal h2 h) ?_
  intro p e s m args below meth c s₁ X0 hexec hbytes hml hret hlk hnm hown hh0 W hP
  obtain ⟨rfl, hx, s1, hz⟩ := hP
  have v31 := hx.2.2.2.1.2.2.2
  have c1 : Steps p.tables e below (s₁.setTop (entryFrame m #[.ref x] 1)) (s₁.setTop (mkF m 1 #[.val (.ref x)] [.ref x])) := Steps.trans (entry rfl) (by
    show Steps p.tables e below (s₁.setTop (mkF m 0 #[.val (.ref x)] [])) _
    refine XS.aloadN X0.here hexec rfl (hb hbytes d0) rfl rfl ?_
    exact Steps.refl _)
  obtain ⟨T2, X2, q2, st2⟩ := X0.hget hexec hown (wk W (.fieldLink "java/lang/String" 9 "java/lang/String" "value" "[B")) (hx.mv X0.warmed.alike hh0).2.1 (g := (mkF m 1 #[.val (.ref x)] [.ref x])) rfl (rest := []) rfl (hb hbytes d1)
  have hh2 := q2.trans hh0
  have hx2 := hx.mv X2.warmed.alike hh2
  have c3 : Steps p.tables e below (s₁.setTop (entryFrame m #[.ref x] 1)) (T2.setTop (mkF m 6 #[.val (.ref x)] [.ref x, .int (Int32.ofNat V.slots.size)])) := (c1.trans (st2 _ (Steps.refl _))).trans (by
    refine X2.alen hexec hx2.2.2.2.1 rfl rfl (hb hbytes d4) ?_
    refine XS.aloadN X2.here hexec rfl (hb hbytes d5) rfl rfl ?_
    exact Steps.refl _)
  obtain ⟨v4, T4, X4, E4, g4⟩ := X2.callV hexec (Cdr.law l x cd z) hown (wks W (virtW "java/lang/String" 335 "java/lang/String" Cdr.yN Cdr.yN)) rfl (by decide) (wk W Cdr.tab) (W := 1) (Nat.le_of_ble_eq_true rfl) (Nat.le_of_ble_eq_true rfl) (Nat.le_refl _) (Nat.le_refl _) (hx2.1.fc X2.warmed.alike) hx2.1.is (g := (mkF m 6 #[.val (.ref x)] [.ref x, .int (Int32.ofNat V.slots.size)])) rfl (by rw [hml]; rfl) c3 (argsL := []) (rest := [.int (Int32.ofNat V.slots.size)]) rfl rfl (by show 2 * 0 + (1 + 0) ≤ _; decide) (hb hbytes d6) (⟨rfl, hx2.2.2.1, hx.2.2.2.2.1.cd, s1.there X2.warmed.alike hh2, hz⟩)
  obtain ⟨rfl, q4⟩ := E4
  have c5 : Steps p.tables e below (s₁.setTop (entryFrame m #[.ref x] 1)) (T4.setTop (mkF m 10 #[.val (.ref x)] [.int (Int32.ofNat V.slots.size >>> (cd &&& 31))])) := Steps.trans g4 (by
    refine ishr X4.here hexec rfl (hb hbytes d9) rfl ?_
    exact Steps.refl _)
  rw [hx.2.2.2.2.1.len v31] at c5
  exact ⟨T4, some (.int (Int32.ofNat n)), _, _, _, X4, rfl, rfl, rfl, (fun h => by cases h), ⟨rfl, q4.trans hh2⟩, fun fs hl => c5.trans (X4.ireturnOut hexec hret rfl (Or.inl rfl) (hb hbytes d10) hl)⟩
theorem pays {l : Launch} {R : Room} {p : Program} {e : Env} {below : List Frame} {s : State} {sargs : Array Value} {len W : Nat} (x t : Addr) (V : Cell) (cd : Int32) (n : Nat) (f : Nat → Int32) (z : Int32) (htab : tab.before sargs s = true) (hfr : 2 ≤ R.frames) (hlo : W + 25 ≤ R.locals) :
    Back l R p e below s sargs yN len W (fun A₁ a₁ => A₁.cells + 0 ≤ R.cells ∧ A₁.slots + 0 ≤ R.slots ∧ P x t V cd n f z a₁ A₁.U) (fun A₁ _ v₁ B₁ => E n v₁ A₁.U B₁.U ∧ B₁.locs = A₁.locs ++ [] ∧ B₁.cells = A₁.cells + 0 ∧ B₁.slots = A₁.slots + 0) :=
  (law l x t V cd n f z).pays htab hfr (by omega)
end Len
namespace IsL
def yN : MethodName := ⟨"java/lang/String", "isLatin1", "()Z"⟩
abbrev yB : ByteArray := jdk_42_method_154_code
theorem d0 : decode yB 0 = .ok (.getstatic 38, 3) := by decide +kernel
theorem d3 : decode yB 3 = .ok (.ifCond (.eq) 14, 3) := by decide +kernel
theorem d6 : decode yB 6 = .ok (.aload_n 0, 1) := by decide +kernel
theorem d7 : decode yB 7 = .ok (.getfield 15, 3) := by decide +kernel
theorem d10 : decode yB 10 = .ok (.ifCond (.ne) 7, 3) := by decide +kernel
theorem d13 : decode yB 13 = .ok (.iconst 1, 1) := by decide +kernel
theorem d14 : decode yB 14 = .ok (.goto 4, 3) := by decide +kernel
theorem d17 : decode yB 17 = .ok (.iconst 0, 1) := by decide +kernel
theorem d18 : decode yB 18 = .ok (.ireturn, 1) := by decide +kernel
def site : List Cond := [.fieldLink "java/lang/String" 38 "java/lang/String" "COMPACT_STRINGS" "Z", .fieldLink "java/lang/String" 15 "java/lang/String" "coder" "B"]
def tab : Cond := tabOf yN yB 1 (some .boolean) site
def P (x : Addr) (cd z : Int32) (args : Array Value) (s : State) : Prop := args = #[.ref x] ∧ Has x "java/lang/String" "coder" "B" (.int cd) s ∧ (cd = 0 ∨ cd = 1) ∧ StaticIs s "java/lang/String" "COMPACT_STRINGS" "Z" (.int z) ∧ ¬ z = 0
def E (cd : Int32) (r : Option Value) (s u : State) : Prop := XT.PureE (some (.int (1 - cd))) r s u
theorem law (l : Launch) (x : Addr) (cd z : Int32) : Law l yN 1 0 0 0 yB 1 (some .boolean) site (P x cd z) (E cd) [] 0 0 := by
  refine Law.of_walk (plainFor_of_name (by decide +kernel)) (by decide +kernel) (by decide +kernel) (by decide) (fun _ _ h => by rw [h.1]; rfl) (fun _ U U' hal hh h => ⟨h.1, h.2.1.mv hal hh, h.2.2.1, h.2.2.2.1.there hal hh, h.2.2.2.2⟩) (fun r U U' V V' h1 hal h2 h => XT.PureE.mv r U U' V V' h1 hal h2 h) ?_
  intro p e s m args below meth c s₁ X0 hexec hbytes hml hret hlk hnm hown hh0 W hP
  obtain ⟨rfl, hx, hc, s1, hz⟩ := hP
  have c1 : Steps p.tables e below (s₁.setTop (entryFrame m #[.ref x] 1)) (s₁.setTop (mkF m 0 #[.val (.ref x)] [])) := entry rfl
  obtain ⟨T2, X2, q2, st2⟩ := X0.sget hexec hown (wk W (.fieldLink "java/lang/String" 38 "java/lang/String" "COMPACT_STRINGS" "Z")) s1 (fun _ _ h => by rw [hh0]; exact h) (g := (mkF m 0 #[.val (.ref x)] [])) rfl (hb hbytes d0)
  have hh2 := q2.trans hh0
  have c3 : Steps p.tables e below (s₁.setTop (entryFrame m #[.ref x] 1)) (T2.setTop (mkF m 7 #[.val (.ref x)] [.ref x])) := (c1.trans (st2 _ (Steps.refl _))).trans (by
    refine XS.ifNo X2.here hexec rfl (hb hbytes d3) rfl (i0_eq_f hz) ?_
    refine XS.aloadN X2.here hexec rfl (hb hbytes d6) rfl rfl ?_
    exact Steps.refl _)
  obtain ⟨T4, X4, q4, st4⟩ := X2.hget hexec hown (wk W (.fieldLink "java/lang/String" 15 "java/lang/String" "coder" "B")) (hx.mv X2.warmed.alike hh2) (g := (mkF m 7 #[.val (.ref x)] [.ref x])) rfl (rest := []) rfl (hb hbytes d7)
  have c5 : Steps p.tables e below (s₁.setTop (entryFrame m #[.ref x] 1)) (T4.setTop (mkF m 10 #[.val (.ref x)] [.int cd])) := c3.trans (st4 _ (Steps.refl _))
  have c6 : Steps p.tables e below (s₁.setTop (entryFrame m #[.ref x] 1)) (T4.setTop (mkF m 18 #[.val (.ref x)] [.int (1 - cd)])) := by
    rcases hc with rfl | rfl
    · exact c5.trans (by
        refine XS.ifNo X4.here hexec rfl (hb hbytes d10) rfl (i0_ne_f rfl) ?_
        refine iconstV X4.here hexec rfl 1 (hb hbytes d13) (by decide) ?_
        refine XS.goto X4.here hexec rfl (pc0 := 14) rfl (hb hbytes d14) (by decide) rfl ?_
        exact Steps.refl _)
    · exact c5.trans (by
        refine XS.ifYes X4.here hexec rfl (pc0 := 10) rfl (hb hbytes d10) rfl (i0_ne_t (by decide)) (by decide) rfl ?_
        refine iconstV X4.here hexec rfl 0 (hb hbytes d17) (by decide) ?_
        exact Steps.refl _)
  exact ⟨T4, some (.int (1 - cd)), _, _, _, X4, rfl, rfl, rfl, (fun h => by cases h), ⟨rfl, q4.trans hh2⟩, fun fs hl => c6.trans (X4.ireturnOut hexec hret (by rcases hc with rfl | rfl <;> rfl) (Or.inr (Or.inl rfl)) (hb hbytes d18) hl)⟩
end IsL
namespace LChA
def yN : MethodName := ⟨"java/lang/StringLatin1", "charAt", "([BI)C"⟩
abbrev yB : ByteArray := jdk_43_method_2_code
theorem d0 : decode yB 0 = .ok (.iload_n 1, 1) := by decide +kernel
theorem d1 : decode yB 1 = .ok (.aload_n 0, 1) := by decide +kernel
theorem d2 : decode yB 2 = .ok (.arraylength, 1) := by decide +kernel
theorem d3 : decode yB 3 = .ok (.invokestatic 9, 3) := by decide +kernel
theorem d6 : decode yB 6 = .ok (.aload_n 0, 1) := by decide +kernel
theorem d7 : decode yB 7 = .ok (.iload_n 1, 1) := by decide +kernel
theorem d8 : decode yB 8 = .ok (.baload, 1) := by decide +kernel
theorem d9 : decode yB 9 = .ok (.sipush 255, 3) := by decide +kernel
theorem d12 : decode yB 12 = .ok (.iand, 1) := by decide +kernel
theorem d13 : decode yB 13 = .ok (.i2c, 1) := by decide +kernel
theorem d14 : decode yB 14 = .ok (.ireturn, 1) := by decide +kernel
def site : List Cond := [JO.Str_checkIndex.tab] ++ staticW "java/lang/StringLatin1" 9 JO.Str_checkIndex.yN
def tab : Cond := tabOf yN yB 2 (some .char) site
def P (t : Addr) (V : Cell) (i : Nat) (u : Int32) (fm : Value) (args : Array Value) (s : State) : Prop := args = #[.ref t, .int (Int32.ofNat i)] ∧ XT.Arr .byte t V s ∧ V.slots[i]? = some (.int u) ∧ (StaticIs s "jdk/internal/util/Preconditions" "SIOOBE_FORMATTER" "Ljava/util/function/BiFunction;" fm ∧ fm.isRef = true)
def E (u : Int32) (r : Option Value) (s w : State) : Prop := XT.PureE (some (.int (chr8 u))) r s w
theorem law (l : Launch) (t : Addr) (V : Cell) (i : Nat) (u : Int32) (fm : Value) : Law l yN 2 2 2 27 yB 2 (some .char) site (P t V i u fm) (E u) [] 0 0 := by
  refine Law.of_walk (plainFor_of_name (by decide +kernel)) (by decide +kernel) (by decide +kernel) (by decide) (fun _ _ h => by rw [h.1]; rfl) (fun _ U U' hal hh h => ⟨h.1, h.2.1.mv hal hh, h.2.2.1, h.2.2.2.1.there hal hh, h.2.2.2.2⟩) (fun r U U' V V' h1 hal h2 h => XT.PureE.mv r U U' V V' h1 hal h2 h) ?_
  intro p e s m args below meth c s₁ X0 hexec hbytes hml hret hlk hnm hown hh0 W hP
  obtain ⟨rfl, hV, hu, s1, rf⟩ := hP
  have v31 := hV.2.2.2
  have hi : i < V.slots.size := (Array.getElem?_eq_some_iff.mp hu).1
  have c1 : Steps p.tables e below (s₁.setTop (entryFrame m #[.ref t, .int (Int32.ofNat i)] 2)) (s₁.setTop (mkF m 0 #[.val (.ref t), .val (.int (Int32.ofNat i))] [])) := entry rfl
  have c2 : Steps p.tables e below (s₁.setTop (entryFrame m #[.ref t, .int (Int32.ofNat i)] 2)) (s₁.setTop (mkF m 3 #[.val (.ref t), .val (.int (Int32.ofNat i))] [.int (Int32.ofNat V.slots.size), .int (Int32.ofNat i)])) := c1.trans (by
    refine XS.iloadN X0.here hexec rfl (hb hbytes d0) rfl ?_
    refine XS.aloadN X0.here hexec rfl (hb hbytes d1) rfl rfl ?_
    refine X0.alen hexec (hV.mv X0.warmed.alike hh0) rfl rfl (hb hbytes d2) ?_
    exact Steps.refl _)
  obtain ⟨v3, T3, X3, E3, g3⟩ := X0.callS hexec (JO.Str_checkIndex.law l (Int32.ofNat i) (Int32.ofNat V.slots.size) fm) hown (wks W (staticW "java/lang/StringLatin1" 9 JO.Str_checkIndex.yN)) (wk W JO.Str_checkIndex.tab) (W := 0) (Nat.le_of_ble_eq_true rfl) (Nat.le_of_ble_eq_true rfl) (Nat.le_refl _) (Nat.le_refl _) (g := (mkF m 3 #[.val (.ref t), .val (.int (Int32.ofNat i))] [.int (Int32.ofNat V.slots.size), .int (Int32.ofNat i)])) rfl (by rw [hml]; rfl) c2 (argsL := [.int (Int32.ofNat i), .int (Int32.ofNat V.slots.size)]) (rest := []) rfl rfl (by show 2 * 0 + 0 ≤ _; decide) (hb hbytes d3) (⟨rfl, rf, s1.there X0.warmed.alike hh0, Int32.ofNat_not_neg (by omega), lt32 v31 hi⟩)
  obtain ⟨rfl, q3⟩ := E3
  have hh3 := q3.trans hh0
  have c4 : Steps p.tables e below (s₁.setTop (entryFrame m #[.ref t, .int (Int32.ofNat i)] 2)) (T3.setTop (mkF m 14 #[.val (.ref t), .val (.int (Int32.ofNat i))] [.int (chr8 u)])) := Steps.trans g3 (by
    refine XS.aloadN X3.here hexec rfl (hb hbytes d6) rfl rfl ?_
    refine XS.iloadN X3.here hexec rfl (hb hbytes d7) rfl ?_
    refine X3.aget hexec (hV.mv X3.warmed.alike hh3) rfl hu rfl rfl (hb hbytes d8) ?_
    refine sipushV X3.here hexec rfl 255 (hb hbytes d9) (by decide) ?_
    refine XS.iand X3.here hexec rfl (hb hbytes d12) rfl ?_
    refine i2c X3.here hexec rfl (hb hbytes d13) rfl ?_
    exact Steps.refl _)
  exact ⟨T3, some (.int (chr8 u)), _, _, _, X3, rfl, rfl, rfl, (fun h => by cases h), ⟨rfl, hh3⟩, fun fs hl => c4.trans (X3.ireturnOut hexec hret (narrow_c _) (Or.inr (Or.inr (Or.inr (Or.inl rfl)))) (hb hbytes d14) hl)⟩
end LChA
end StrChars
namespace StrChars.Road
open Jvm Sem ClassFile Op Lib Jvm.Stand Jvm.Free Jvm.Free.XT
open Jvm.Lib.Cold (StaticIs)
theorem consq {a : Array Value} {s : State} {c : Jvm.Cond} {L : List Jvm.Cond} (h0 : c.before a s = true) (h : ∀ w ∈ L, w.before a s = true) : ∀ w ∈ c :: L, w.before a s = true := fun w hw => (List.mem_cons.mp hw).elim (fun e => e ▸ h0) (h w)
/-- the words of String.length(), either coding -/
abbrev wordsLen : List Jvm.Cond := [.code Len.yN Len.yB 1 (some .int), .initialized ST, .fieldLink ST 9 ST "value" "[B", .fieldLink ST 38 ST "COMPACT_STRINGS" "Z", .fieldLink ST 15 ST "coder" "B", .code Cdr.yN Cdr.yB 1 (some .byte), .methodLink ST 335 Cdr.yN, .declares Cdr.yN, .selects ST Cdr.yN Cdr.yN, .instanceMethod Cdr.yN]
theorem tabLen_of {a : Array Value} {s : State} (h : ∀ w ∈ wordsLen, w.before a s = true) : Len.tab.before a s = true := by
  have hc : Cdr.tab.before a s = true := unparts (wk h (.code Cdr.yN Cdr.yB 1 (some .byte))) (wks h (.initialized Cdr.yN.cls :: Cdr.site))
  have q := consq hc h
  exact unparts (wk q (.code Len.yN Len.yB 1 (some .int))) (wks q (.initialized Len.yN.cls :: Len.site))
theorem movedLen {Z s : State} {a0 args : Array Value} (hZ : Z.Warmed39 s.vm) (hw : ∀ d ∈ wordsLen, d.before a0 Z = true) : ∀ d ∈ wordsLen, d.before args s = true := fun d hd => by
  have q := hw d hd
  have t : ∀ d ∈ wordsLen, d = .arrayClass .byte ∨ (d.onTables && d.keepsFace) = true := by decide +kernel
  rcases t d hd with rfl | t
  · exact RoadKit.mvA hZ q
  · exact RoadKit.mv hZ q t
/-- the bytes of the chars cs, low before high -/
def wideBytes : List Int32 → List Value
  | [] => []
  | c :: cs => .int (lo8 c) :: .int (hi8 c) :: wideBytes cs
theorem wide_lo (d : Value) : ∀ (cs : List Int32) (j : Nat), j < cs.length → (wideBytes cs).getD (2 * j) d = .int (lo8 (cs.getD j 0))
  | [], j, h => absurd h (Nat.not_lt_zero j)
  | c :: cs, 0, _ => rfl
  | c :: cs, j + 1, h => by
    have q := wide_lo d cs j (by simpa using h)
    rw [show 2 * (j + 1) = 2 * j + 1 + 1 from by omega]
    simpa [wideBytes] using q
theorem wide_hi (d : Value) : ∀ (cs : List Int32) (j : Nat), j < cs.length → (wideBytes cs).getD (2 * j + 1) d = .int (hi8 (cs.getD j 0))
  | [], j, h => absurd h (Nat.not_lt_zero j)
  | c :: cs, 0, _ => rfl
  | c :: cs, j + 1, h => by
    have q := wide_hi d cs j (by simpa using h)
    rw [show 2 * (j + 1) + 1 = 2 * j + 1 + 1 + 1 from by omega]
    simpa [wideBytes] using q
theorem low_at (d : Value) (cs : List Int32) (j : Nat) (h : j < cs.length) : (cs.map fun c => Value.int (lo8 c)).getD j d = .int (lo8 (cs.getD j 0)) := by
  simp [List.getD_eq_getElem?_getD, h]
/-- an array of N2 bytes vs codes the chars cs by the coder cd -/
def CodA (cs : List Int32) (cd N2 : Int32) (vs : List Value) : Prop := (cd = 0 ∧ N2 = Int32.ofNat cs.length ∧ vs = (cs.map fun c => Value.int (lo8 c)) ∧ ∀ c ∈ cs, ¬ 255 < c) ∨ (cd = 1 ∧ N2 = Int32.ofNat (2 * cs.length) ∧ vs = wideBytes cs ∧ ∃ c ∈ cs, 255 < c)
theorem CodA.cod {cs : List Int32} {cd N2 : Int32} {vs : List Value} {V : Cell} (h : CodA cs cd N2 vs) (hn : 2 * cs.length < 2 ^ 31) (hs : V.slots.size = N2.toNatClampNeg) (hv : RoadKit.Has V vs (.int 0)) : Cod cd cs.length (fun j => cs.getD j 0) V := by
  rcases h with ⟨rfl, rfl, rfl, h⟩ | ⟨rfl, rfl, rfl, c, hc, hw⟩
  · rw [n32 (by omega)] at hs
    exact Or.inl ⟨rfl, hs, fun j hj => ⟨by rw [hv j (by omega), low_at _ _ _ hj], by
      have e : cs.getD j 0 = cs[j] := by simp [List.getD_eq_getElem?_getD, hj]
      show ¬ 255 < cs.getD j 0
      rw [e]; exact h _ (List.getElem_mem _)⟩⟩
  · rw [n32 (by omega)] at hs
    obtain ⟨j, hj, rfl⟩ := List.getElem_of_mem hc
    exact Or.inr ⟨rfl, hs, fun j hj => ⟨by rw [hv _ (by omega), wide_lo _ _ _ hj], by rw [hv _ (by omega), wide_hi _ _ _ hj]⟩, j, hj, by
      have e : cs.getD j 0 = cs[j] := by simp [List.getD_eq_getElem?_getD, hj]
      show 255 < cs.getD j 0
      rw [e]; exact hw⟩
/-- an object of exactly java/lang/String, its two fields found: as the laws ask it -/
theorem strObj {Z U : State} {a0 : Array Value} {kI : Nat} (wi : (Jvm.Cond.instantiable ST kI).before a0 Z = true) (al : Z.vm.Alike U.vm) {x : Addr} {v0 c0 : Value} (E : RoadKit.Exa Z U.heap x ST) (V : RoadKit.Fld Z U.heap x ST "value" "[B" v0) (C : RoadKit.Fld Z U.heap x ST "coder" "B" c0) :
    ∃ (D : Cell) (fV fC : Field), Blank ST x D U ∧ Found ST "value" "[B" fV U ∧ Found ST "coder" "B" fC U ∧ D.slots[fV.slot]? = some v0 ∧ D.slots[fC.slot]? = some c0 ∧ RoadKit.slotOf Z ST "value" "[B" = fV.slot ∧ RoadKit.slotOf Z ST "coder" "B" = fC.slot := by
  obtain ⟨D, cfV, kV, iV, fV, hD, gV, stV, knV, obV, asV, slV⟩ := V
  obtain ⟨D', cfC, kC, iC, fC, hD', gC, stC, -, -, asC, slC⟩ := C
  cases hD.symm.trans hD'
  obtain ⟨D2, kD, e1, e2, e3, e4, e5⟩ := E
  cases hD.symm.trans e1
  obtain ⟨c2, k2, i1, i2, i3, -⟩ := Cond.instantiable_spec wi
  cases e2.symm.trans i1
  cases e3.symm.trans i2
  obtain ⟨kU, u1, u2⟩ := al.2.2 _ _ e3
  exact ⟨D, fV, fC, ⟨hD, ⟨knV, fun q hq => by rw [hq] at obV; cases obV⟩, by rw [al.findClass]; exact e2, kU, u1, by rw [u2]; exact i3, by rw [u2]; exact e5 i3⟩, ⟨SBG.found_only al ⟨cfV, kV, iV, gV⟩, stV⟩, ⟨SBG.found_only al ⟨cfC, kC, iC, gC⟩, stC⟩, slV, slC, by simp [RoadKit.slotOf, gV], by simp [RoadKit.slotOf, gC]⟩
theorem sta_is {Z U : State} (al : Z.vm.Alike U.vm) {C n d : String} {v : Value} (S : RoadKit.Sta Z U.heap C n d v) : StaticIs U C n d v := by
  obtain ⟨cfS, iS, kS, fS, st, cS, t1, t2, t3, t4, t5, t6, t7⟩ := S
  exact StaticIs.there (s := { Z with heap := U.heap }) ⟨cfS, iS, kS, fS, st, cS, t1, t2, t3, t4, t5, (fun q => by rw [q] at t6; cases t6), t7⟩ al rfl
/-- **length() OF SUCH A STRING** -/
theorem lenW {p : Program} {l : Launch} {e : Env} {R : Room} {s : State} {args : Array Value} {below : List Frame} {len W : Nat} {Z : State} {a0 : Array Value} {h : Heap} (hZ : Z.Warmed39 s.vm) (hw : ∀ d ∈ wordsLen, d.before a0 Z = true) {kI : Nat} (wi : (Jvm.Cond.instantiable ST kI).before a0 Z = true)
    {x t : Addr} {kb : ClassId} {cs : List Int32} {cd N2 z : Int32} {vs : List Value} (E : RoadKit.Exa Z h x ST) (V : RoadKit.Fld Z h x ST "value" "[B" (.ref t)) (C : RoadKit.Fld Z h x ST "coder" "B" (.int cd)) (K : RoadKit.Arv Z h t kb .byte N2 vs (.int 0)) (hc : CodA cs cd N2 vs) (hb : ∀ c ∈ cs, ¬ c < 0 ∧ ¬ (65535 : Int32) < c)
    (S : RoadKit.Sta Z h ST "COMPACT_STRINGS" "Z" (.int z)) (hz : ¬ z = 0) (l2 : cs.length ≤ 4000) (hfr : 2 ≤ R.frames) (hlo : W + 25 ≤ R.locals) :
    Back l R p e below s args (⟨"java/lang/String", "length", "()I"⟩ : MethodName) len W (fun P a => a = #[.ref x] ∧ P.U.heap = h ∧ P.cells + 0 ≤ R.cells ∧ P.slots + 0 ≤ R.slots)
      (fun P _ v B => ∃ L, (v = some (.int (Int32.ofNat cs.length)) ∧ L = [] ∧ B.U.heap = h) ∧ B.locs = P.locs ++ L ∧ B.cells = P.cells + 0 ∧ B.slots = P.slots + 0) := by
  obtain ⟨A, K1, K2, K3, K4, K5, K6⟩ := K
  have hcod := hc.cod (by omega) K3 K5
  intro m meth c P g ig mk a X hg hsize hdg hW hn hp'
  obtain ⟨rfl, rfl, r1, r2⟩ := hp'
  have al : Z.vm.Alike P.U.vm := hZ.alike.trans X.warmed.alike
  obtain ⟨D, fV, fC, hB, F1, F2, g1, g2, -, -⟩ := strObj wi al E V C
  have hx : Txt x t A cd cs.length (fun j => cs.getD j 0) P.U := ⟨⟨_, hB.2.2.1, D, hB.1, rfl, by cases q : D.vm <;> first | rfl | exact absurd q (hB.2.1.2 _)⟩, Has.of hB F1 g1, Has.of hB F2 g2, ⟨K1.1, State.isArrayOf_alike al K1.2.1, K1.2.2, by rcases hcod with ⟨-, q, -⟩ | ⟨-, q, -⟩ <;> omega⟩, hcod, fun j hj => by
    have e : cs.getD j 0 = cs[j] := by simp [List.getD_eq_getElem?_getD, hj]
    show ¬ cs.getD j 0 < 0 ∧ ¬ 65535 < cs.getD j 0
    rw [e]; exact hb _ (List.getElem_mem _)⟩
  obtain ⟨v, B, X', ⟨⟨hv, hh⟩, hl, hk, hs⟩, st⟩ := Len.pays x t A cd cs.length (fun j => cs.getD j 0) z (tabLen_of (movedLen hZ hw)) hfr hlo m meth c P g ig mk _ X hg hsize hdg hW hn ⟨r1, r2, rfl, hx, sta_is al S, hz⟩
  exact ⟨v, B, X', ⟨[], ⟨hv, rfl, hh⟩, hl, hk, hs⟩, st⟩
end StrChars.Road
namespace StrChars
open Jvm Sem ClassFile Op Lib Jvm.Stand Jvm.Free.XT Jvm.Free.ALB Jvm.Free.JM Jvm.Free
open Jvm.Lib.Cold (StaticIs)
/-- what place i of a byte[]'s cell holds -/
def yv (A : Cell) (i : Nat) : Int32 := match A.slots[i]? with | some (.int x) => x | _ => 0
theorem yv_get {a : Addr} {A : Cell} {U : State} (h : XT.Arr .byte a A U) (ht : Typed .byte A) {i : Nat} (hi : i < A.slots.size) : A.slots[i]? = some (.int (yv A i)) := by
  have e := Array.getElem?_eq_getElem hi
  have f := ht i _ e
  unfold yv; rw [e]
  generalize A.slots[i] = v at f
  cases v <;> simp [fits] at f ⊢
/-- the two arrays are equal, place for place -/
def EqC (A B : Cell) : Prop := A.slots.size = B.slots.size ∧ ∀ i, i < A.slots.size → yv A i = yv B i
/-- a boolean that says whether p -/
def Says01 (q : Prop) (r : Option Value) (s u : State) : Prop := ∃ v : Int32, r = some (.int v) ∧ u.heap = s.heap ∧ ((v = 1 ∧ q) ∨ (v = 0 ∧ ¬ q))
theorem Says01.mv {q : Prop} : ∀ r (U U' V V' : State), U'.heap = U.heap → V.vm.Alike V'.vm → V'.heap = V.heap → Says01 q r U V → Says01 q r U' V' :=
  fun r U U' V V' h1 _ h2 ⟨v, a, b, c⟩ => ⟨v, a, by rw [h1, h2]; exact b, c⟩
namespace LEq
def yN : MethodName := ⟨"java/lang/StringLatin1", "equals", "([B[B)Z"⟩
abbrev yB : ByteArray := jdk_43_method_13_code
theorem d0 : decode yB 0 = .ok (.aload_n 0, 1) := by decide +kernel
theorem d1 : decode yB 1 = .ok (.arraylength, 1) := by decide +kernel
theorem d2 : decode yB 2 = .ok (.aload_n 1, 1) := by decide +kernel
theorem d3 : decode yB 3 = .ok (.arraylength, 1) := by decide +kernel
theorem d4 : decode yB 4 = .ok (.if_icmp (.ne) 30, 3) := by decide +kernel
theorem d7 : decode yB 7 = .ok (.iconst 0, 1) := by decide +kernel
theorem d8 : decode yB 8 = .ok (.istore_n 2, 1) := by decide +kernel
theorem d9 : decode yB 9 = .ok (.iload_n 2, 1) := by decide +kernel
theorem d10 : decode yB 10 = .ok (.aload_n 0, 1) := by decide +kernel
theorem d11 : decode yB 11 = .ok (.arraylength, 1) := by decide +kernel
theorem d12 : decode yB 12 = .ok (.if_icmp (.ge) 20, 3) := by decide +kernel
theorem d15 : decode yB 15 = .ok (.aload_n 0, 1) := by decide +kernel
theorem d16 : decode yB 16 = .ok (.iload_n 2, 1) := by decide +kernel
theorem d17 : decode yB 17 = .ok (.baload, 1) := by decide +kernel
theorem d18 : decode yB 18 = .ok (.aload_n 1, 1) := by decide +kernel
theorem d19 : decode yB 19 = .ok (.iload_n 2, 1) := by decide +kernel
theorem d20 : decode yB 20 = .ok (.baload, 1) := by decide +kernel
theorem d21 : decode yB 21 = .ok (.if_icmp (.eq) 5, 3) := by decide +kernel
theorem d24 : decode yB 24 = .ok (.iconst 0, 1) := by decide +kernel
theorem d25 : decode yB 25 = .ok (.ireturn, 1) := by decide +kernel
theorem d26 : decode yB 26 = .ok (.iinc 2 1, 3) := by decide +kernel
theorem d29 : decode yB 29 = .ok (.goto (-20), 3) := by decide +kernel
theorem d32 : decode yB 32 = .ok (.iconst 1, 1) := by decide +kernel
theorem d33 : decode yB 33 = .ok (.ireturn, 1) := by decide +kernel
theorem d34 : decode yB 34 = .ok (.iconst 0, 1) := by decide +kernel
theorem d35 : decode yB 35 = .ok (.ireturn, 1) := by decide +kernel
def site : List Cond := []
def tab : Cond := tabOf yN yB 3 (some .boolean) site
def P (a : Addr) (A : Cell) (b : Addr) (B : Cell) (args : Array Value) (s : State) : Prop := args = #[.ref a, .ref b] ∧ XT.Arr .byte a A s ∧ Typed .byte A ∧ XT.Arr .byte b B s ∧ Typed .byte B
/-- whether two byte[] are equal, place for place -/
theorem law (l : Launch) (a : Addr) (A : Cell) (b : Addr) (B : Cell) : Law l yN 2 2 0 0 yB 3 (some .boolean) site (P a A b B) (Says01 (EqC A B)) [] 0 0 := by
  refine Law.of_walk (plainFor_of_name (by decide +kernel)) (by decide +kernel) (by decide +kernel) (by decide) (fun _ _ h => by rw [h.1]; rfl) (fun _ U U' hal hh h => ⟨h.1, h.2.1.mv hal hh, h.2.2.1, h.2.2.2.1.mv hal hh, h.2.2.2.2⟩) (fun r U U' V V' h1 hal h2 h => Says01.mv r U U' V V' h1 hal h2 h) ?_
  intro p e s m args below meth c s₁ X0 hexec hbytes hml hret hlk hnm hown hh0 W hP
  obtain ⟨rfl, hA, tA, hB, tB⟩ := hP
  have a31 := hA.2.2.2
  have b31 := hB.2.2.2
  have hA0 := hA.mv X0.warmed.alike hh0
  have hB0 := hB.mv X0.warmed.alike hh0
  have c1 : Steps p.tables e below (s₁.setTop (entryFrame m #[.ref a, .ref b] 3)) (s₁.setTop (mkF m 0 #[.val (.ref a), .val (.ref b), .unset] [])) := entry rfl
  have c2 : Steps p.tables e below (s₁.setTop (entryFrame m #[.ref a, .ref b] 3)) (s₁.setTop (mkF m 4 #[.val (.ref a), .val (.ref b), .unset] [.int (Int32.ofNat B.slots.size), .int (Int32.ofNat A.slots.size)])) := c1.trans (by
    refine XS.aloadN X0.here hexec rfl (hb hbytes d0) rfl rfl ?_
    refine X0.alen hexec hA0 rfl rfl (hb hbytes d1) ?_
    refine XS.aloadN X0.here hexec rfl (hb hbytes d2) rfl rfl ?_
    refine X0.alen hexec hB0 rfl rfl (hb hbytes d3) ?_
    exact Steps.refl _)
  by_cases hs : A.slots.size = B.slots.size
  · have c3 : Steps p.tables e below (s₁.setTop (entryFrame m #[.ref a, .ref b] 3)) (s₁.setTop (mkF m 9 #[.val (.ref a), .val (.ref b), .val (.int 0)] [])) := c2.trans (by
      refine XS.icmpNo X0.here hexec rfl (hb hbytes d4) rfl (ii_ne_f (by rw [hs])) ?_
      refine iconstV X0.here hexec rfl 0 (hb hbytes d7) (by decide) ?_
      refine XS.istoreN X0.here hexec rfl (hb hbytes d8) rfl rfl ?_
      exact Steps.refl _)
    have loop : ∀ (r i : Nat), i + r = A.slots.size → (∀ j, j < i → yv A j = yv B j) → Steps p.tables e below (s₁.setTop (entryFrame m #[.ref a, .ref b] 3)) (s₁.setTop (mkF m 9 #[.val (.ref a), .val (.ref b), .val (.int (Int32.ofNat i))] [])) → ∃ (pc : Nat) (Ls : Array Slot) (v : Int32), (pc = 25 ∨ pc = 33) ∧ ((v = 1 ∧ EqC A B) ∨ (v = 0 ∧ ¬ EqC A B)) ∧ Steps p.tables e below (s₁.setTop (entryFrame m #[.ref a, .ref b] 3)) (s₁.setTop (mkF m pc Ls [.int v])) := by
      intro r
      induction r with
      | zero =>
        intro i hi he cl
        exact ⟨33, _, 1, Or.inr rfl, Or.inl ⟨rfl, hs, fun j hj => he j (by omega)⟩, cl.trans (by
          refine XS.iloadN X0.here hexec rfl (hb hbytes d9) rfl ?_
          refine XS.aloadN X0.here hexec rfl (hb hbytes d10) rfl rfl ?_
          refine X0.alen hexec hA0 rfl rfl (hb hbytes d11) ?_
          refine XS.icmpYes X0.here hexec rfl (pc0 := 12) rfl (hb hbytes d12) rfl (ii_ge_t (nlt32 (by omega) (by omega))) (by decide) rfl ?_
          refine iconstV X0.here hexec rfl 1 (hb hbytes d32) (by decide) ?_
          exact Steps.refl _)⟩
      | succ r ih =>
        intro i hi he cl
        have c4 : Steps p.tables e below (s₁.setTop (entryFrame m #[.ref a, .ref b] 3)) (s₁.setTop (mkF m 21 #[.val (.ref a), .val (.ref b), .val (.int (Int32.ofNat i))] [.int (yv B i), .int (yv A i)])) := cl.trans (by
          refine XS.iloadN X0.here hexec rfl (hb hbytes d9) rfl ?_
          refine XS.aloadN X0.here hexec rfl (hb hbytes d10) rfl rfl ?_
          refine X0.alen hexec hA0 rfl rfl (hb hbytes d11) ?_
          refine XS.icmpNo X0.here hexec rfl (hb hbytes d12) rfl (ii_ge_f (lt32 (by omega) (by omega))) ?_
          refine XS.aloadN X0.here hexec rfl (hb hbytes d15) rfl rfl ?_
          refine XS.iloadN X0.here hexec rfl (hb hbytes d16) rfl ?_
          refine X0.aget hexec hA0 rfl (yv_get hA tA (i := i) (by omega)) rfl rfl (hb hbytes d17) ?_
          refine XS.aloadN X0.here hexec rfl (hb hbytes d18) rfl rfl ?_
          refine XS.iloadN X0.here hexec rfl (hb hbytes d19) rfl ?_
          refine X0.aget hexec hB0 rfl (yv_get hB tB (i := i) (by omega)) rfl rfl (hb hbytes d20) ?_
          exact Steps.refl _)
        by_cases hv : yv A i = yv B i
        · have c5 : Steps p.tables e below (s₁.setTop (entryFrame m #[.ref a, .ref b] 3)) (s₁.setTop (mkF m 9 #[.val (.ref a), .val (.ref b), .val (.int (Int32.ofNat i + 1))] [])) := c4.trans (by
            refine XS.icmpYes X0.here hexec rfl (pc0 := 21) rfl (hb hbytes d21) rfl (ii_eq_t hv) (by decide) rfl ?_
            refine iincV X0.here hexec rfl 1 (hb hbytes d26) (by decide) rfl rfl ?_
            refine XS.goto X0.here hexec rfl (pc0 := 29) rfl (hb hbytes d29) (by decide) rfl ?_
            exact Steps.refl _)
          rw [succ32] at c5
          exact ih (i + 1) (by omega) (fun j hj => by
            by_cases e : j = i
            · rw [e]; exact hv
            · exact he j (by omega)) c5
        · exact ⟨25, _, 0, Or.inl rfl, Or.inr ⟨rfl, fun q => hv (q.2 i (by omega))⟩, c4.trans (by
            refine XS.icmpNo X0.here hexec rfl (hb hbytes d21) rfl (ii_eq_f hv) ?_
            refine iconstV X0.here hexec rfl 0 (hb hbytes d24) (by decide) ?_
            exact Steps.refl _)⟩
    obtain ⟨pc, Ls, v, hpc, hv, cz⟩ := loop A.slots.size 0 (by omega) (fun j hj => absurd hj (Nat.not_lt_zero j)) c3
    have nv : narrow .boolean (.int v) = .int v := by rcases hv with ⟨rfl, -⟩ | ⟨rfl, -⟩ <;> rfl
    rcases hpc with rfl | rfl
    · exact ⟨s₁, some (.int v), _, _, _, X0, rfl, rfl, rfl, (fun h => by cases h), ⟨v, rfl, hh0, hv⟩, fun fs hl => cz.trans (X0.ireturnOut hexec hret nv (Or.inr (Or.inl rfl)) (hb hbytes d25) hl)⟩
    · exact ⟨s₁, some (.int v), _, _, _, X0, rfl, rfl, rfl, (fun h => by cases h), ⟨v, rfl, hh0, hv⟩, fun fs hl => cz.trans (X0.ireturnOut hexec hret nv (Or.inr (Or.inl rfl)) (hb hbytes d33) hl)⟩
  · have c3 : Steps p.tables e below (s₁.setTop (entryFrame m #[.ref a, .ref b] 3)) (s₁.setTop (mkF m 35 #[.val (.ref a), .val (.ref b), .unset] [.int 0])) := c2.trans (by
      refine XS.icmpYes X0.here hexec rfl (pc0 := 4) rfl (hb hbytes d4) rfl (ii_ne_t (ne32 a31 b31 hs)) (by decide) rfl ?_
      refine iconstV X0.here hexec rfl 0 (hb hbytes d34) (by decide) ?_
      exact Steps.refl _)
    exact ⟨s₁, some (.int 0), _, _, _, X0, rfl, rfl, rfl, (fun h => by cases h), ⟨0, rfl, hh0, Or.inr ⟨rfl, fun q => hs q.1⟩⟩, fun fs hl => c3.trans (X0.ireturnOut hexec hret rfl (Or.inr (Or.inl rfl)) (hb hbytes d35) hl)⟩
end LEq
theorem Cod.ty {cd : Int32} {n : Nat} {f : Nat → Int32} {V : Cell} (h : Cod cd n f V) : Typed .byte V := fun i v hv => by
  have hi : i < V.slots.size := (Array.getElem?_eq_some_iff.mp hv).1
  rcases h with ⟨-, k1, k2⟩ | ⟨-, k1, k2, -⟩
  · rw [(k2 i (by omega)).1] at hv; cases hv; exact fits_lo8 _
  · rcases Nat.mod_two_eq_zero_or_one i with e | e
    · obtain ⟨j, rfl⟩ : ∃ j, i = 2 * j := ⟨i / 2, by omega⟩
      rw [(k2 j (by omega)).1] at hv; cases hv; exact fits_lo8 _
    · obtain ⟨j, rfl⟩ : ∃ j, i = 2 * j + 1 := ⟨i / 2, by omega⟩
      rw [(k2 j (by omega)).2] at hv; cases hv; exact fits_lo8 _
/-- the same text -/
def SameT (n : Nat) (f : Nat → Int32) (k : Nat) (g : Nat → Int32) : Prop := n = k ∧ ∀ j, j < n → f j = g j
theorem lo8_inj {x y : Int32} (h0 : ¬ x < 0) (h1 : ¬ 255 < x) (k0 : ¬ y < 0) (k1 : ¬ 255 < y) (h : lo8 x = lo8 y) : x = y := by
  rw [← lo8_mask h0 h1, ← lo8_mask k0 k1, h]
/-- arrays coded by one coder are equal just where the texts are -/
theorem Cod.eqv {cd : Int32} {n k : Nat} {f g : Nat → Int32} {V V' : Cell} (h : Cod cd n f V) (h' : Cod cd k g V') (hf : ∀ j, j < n → ¬ f j < 0 ∧ ¬ 65535 < f j) (hg : ∀ j, j < k → ¬ g j < 0 ∧ ¬ 65535 < g j) : EqC V V' ↔ SameT n f k g := by
  have yvv : ∀ {W : Cell} {i : Nat} {x : Int32}, W.slots[i]? = some (.int x) → yv W i = x := fun q => by unfold yv; rw [q]
  rcases h with ⟨rfl, k1, k2⟩ | ⟨rfl, k1, k2, -⟩
  · rcases h' with ⟨-, m1, m2⟩ | ⟨e, -⟩
    · constructor
      · rintro ⟨e1, e2⟩
        refine ⟨by omega, fun j hj => ?_⟩
        have q := e2 j (by omega)
        rw [yvv (k2 j hj).1, yvv (m2 j (by omega)).1] at q
        exact lo8_inj (hf j hj).1 (k2 j hj).2 (hg j (by omega)).1 (m2 j (by omega)).2 q
      · rintro ⟨rfl, e2⟩
        refine ⟨by omega, fun j hj => ?_⟩
        rw [yvv (k2 j (by omega)).1, yvv (m2 j (by omega)).1, e2 j (by omega)]
    · exact absurd e (by decide)
  · rcases h' with ⟨e, -⟩ | ⟨-, m1, m2, -⟩
    · exact absurd e (by decide)
    · constructor
      · rintro ⟨e1, e2⟩
        refine ⟨by omega, fun j hj => ?_⟩
        have q1 := e2 (2 * j) (by omega)
        have q2 := e2 (2 * j + 1) (by omega)
        rw [yvv (k2 j hj).1, yvv (m2 j (by omega)).1] at q1
        rw [yvv (k2 j hj).2, yvv (m2 j (by omega)).2] at q2
        rw [← pair_says (hf j hj).1 (hf j hj).2, ← pair_says (hg j (by omega)).1 (hg j (by omega)).2, q1, q2]
      · rintro ⟨rfl, e2⟩
        refine ⟨by omega, fun i hi => ?_⟩
        rcases Nat.mod_two_eq_zero_or_one i with e | e
        · obtain ⟨j, rfl⟩ : ∃ j, i = 2 * j := ⟨i / 2, by omega⟩
          rw [yvv (k2 j (by omega)).1, yvv (m2 j (by omega)).1, e2 j (by omega)]
        · obtain ⟨j, rfl⟩ : ∃ j, i = 2 * j + 1 := ⟨i / 2, by omega⟩
          rw [yvv (k2 j (by omega)).2, yvv (m2 j (by omega)).2, e2 j (by omega)]
/-- two codings differ: so do the texts -/
theorem Cod.dif {cd cd' : Int32} {n k : Nat} {f g : Nat → Int32} {V V' : Cell} (h : Cod cd n f V) (h' : Cod cd' k g V') (hne : ¬ cd = cd') : ¬ SameT n f k g := by
  rintro ⟨rfl, e⟩
  rcases h with ⟨rfl, -, k2⟩ | ⟨rfl, -, -, j, hj, hw⟩
  · rcases h' with ⟨rfl, -⟩ | ⟨-, -, -, j, hj, hw⟩
    · exact hne rfl
    · exact (k2 j hj).2 (by rw [e j hj]; exact hw)
  · rcases h' with ⟨-, -, m2⟩ | ⟨rfl, -⟩
    · exact (m2 j hj).2 (by rw [← e j hj]; exact hw)
    · exact hne rfl
/-- an object of exactly C is an instance of C -/
theorem cinst {p : Program} {l : Launch} {e : Env} {R : Room} {s : State} {m : MethodId} {args : Array Value} {below : List Frame} {meth : Method} {c : Code} {T : State} {locs : List Loc} {cells slots : Nat} (X : Stand p l e R s m args below meth c T locs cells slots) (hexec : p.tables.exec = Jvm.exec) {own C : String} {index : Nat} (hown : s.vm.findClass own = some m.cls) (hlink : (Cond.classLink own index C).before args s = true) {a : Addr} (hE : Exact C a T)
    {g : JFrame} (hg : g.method = m) {rest : List Value} (hstack : g.stack = .ref a :: rest) (hdg : decode c.code g.pc = .ok (.instanceof index, 3)) :
    ∃ T', Stand p l e R s m args below meth c T' locs cells slots ∧ T'.heap = T.heap ∧ ∀ target, Steps p.tables e below (T'.setTop { g with pc := g.pc + 3, stack := .int 1 :: rest }) target → Steps p.tables e below (T.setTop g) target := by
  obtain ⟨cB, h1, D, h2, h3, h4⟩ := hE
  have h1' : s.vm.findClass C = some cB := by rw [← X.warmed.alike.findClass]; exact h1
  obtain ⟨vm', X', st⟩ := X.instanceofYes hexec hown hlink h2 h4 h1' (by rw [h3]; exact Jvm.Free.SB.assignable_self _ _) hg hstack hdg
  exact ⟨_, X', rfl, st⟩
theorem cself {p : Program} {l : Launch} {e : Env} {R : Room} {s : State} {m : MethodId} {args : Array Value} {below : List Frame} {meth : Method} {c : Code} {T : State} {locs : List Loc} {cells slots : Nat} (X : Stand p l e R s m args below meth c T locs cells slots) (hexec : p.tables.exec = Jvm.exec) {own C : String} {index : Nat} (hown : s.vm.findClass own = some m.cls) (hlink : (Cond.classLink own index C).before args s = true) {a : Addr} (hE : Exact C a T)
    {g : JFrame} (hg : g.method = m) {rest : List Value} (hstack : g.stack = .ref a :: rest) (hdg : decode c.code g.pc = .ok (.checkcast index, 3)) :
    ∃ T', Stand p l e R s m args below meth c T' locs cells slots ∧ T'.heap = T.heap ∧ ∀ target, Steps p.tables e below (T'.setTop { g with pc := g.pc + 3, stack := .ref a :: rest }) target → Steps p.tables e below (T.setTop g) target := by
  obtain ⟨cB, h1, D, h2, h3, h4⟩ := hE
  have h1' : s.vm.findClass C = some cB := by rw [← X.warmed.alike.findClass]; exact h1
  obtain ⟨vm', X', st⟩ := X.checkcastYes hexec hown hlink h2 h4 h1' (by rw [h3]; exact Jvm.Free.SB.assignable_self _ _) hg hstack hdg
  exact ⟨_, X', rfl, fun t h => st t (by rw [← hstack] at h; exact h)⟩
namespace SEq
def yN : MethodName := ⟨"java/lang/String", "equals", "(Ljava/lang/Object;)Z"⟩
abbrev yB : ByteArray := jdk_42_method_66_code
theorem d0 : decode yB 0 = .ok (.aload_n 0, 1) := by decide +kernel
theorem d1 : decode yB 1 = .ok (.aload_n 1, 1) := by decide +kernel
theorem d2 : decode yB 2 = .ok (.if_acmp (.ne) 5, 3) := by decide +kernel
theorem d5 : decode yB 5 = .ok (.iconst 1, 1) := by decide +kernel
theorem d6 : decode yB 6 = .ok (.ireturn, 1) := by decide +kernel
theorem d7 : decode yB 7 = .ok (.aload_n 1, 1) := by decide +kernel
theorem d8 : decode yB 8 = .ok (.instanceof 10, 3) := by decide +kernel
theorem d11 : decode yB 11 = .ok (.ifCond (.eq) 43, 3) := by decide +kernel
theorem d14 : decode yB 14 = .ok (.aload_n 1, 1) := by decide +kernel
theorem d15 : decode yB 15 = .ok (.checkcast 10, 3) := by decide +kernel
theorem d18 : decode yB 18 = .ok (.astore_n 2, 1) := by decide +kernel
theorem d19 : decode yB 19 = .ok (.getstatic 38, 3) := by decide +kernel
theorem d22 : decode yB 22 = .ok (.ifCond (.eq) 14, 3) := by decide +kernel
theorem d25 : decode yB 25 = .ok (.aload_n 0, 1) := by decide +kernel
theorem d26 : decode yB 26 = .ok (.getfield 15, 3) := by decide +kernel
theorem d29 : decode yB 29 = .ok (.aload_n 2, 1) := by decide +kernel
theorem d30 : decode yB 30 = .ok (.getfield 15, 3) := by decide +kernel
theorem d33 : decode yB 33 = .ok (.if_icmp (.ne) 21, 3) := by decide +kernel
theorem d36 : decode yB 36 = .ok (.aload_n 0, 1) := by decide +kernel
theorem d37 : decode yB 37 = .ok (.getfield 9, 3) := by decide +kernel
theorem d40 : decode yB 40 = .ok (.aload_n 2, 1) := by decide +kernel
theorem d41 : decode yB 41 = .ok (.getfield 9, 3) := by decide +kernel
theorem d44 : decode yB 44 = .ok (.invokestatic 541, 3) := by decide +kernel
theorem d47 : decode yB 47 = .ok (.ifCond (.eq) 7, 3) := by decide +kernel
theorem d50 : decode yB 50 = .ok (.iconst 1, 1) := by decide +kernel
theorem d51 : decode yB 51 = .ok (.goto 4, 3) := by decide +kernel
theorem d54 : decode yB 54 = .ok (.iconst 0, 1) := by decide +kernel
theorem d55 : decode yB 55 = .ok (.ireturn, 1) := by decide +kernel
def site : List Cond := [.classLink "java/lang/String" 10 "java/lang/String", .fieldLink "java/lang/String" 38 "java/lang/String" "COMPACT_STRINGS" "Z", .fieldLink "java/lang/String" 15 "java/lang/String" "coder" "B", .fieldLink "java/lang/String" 9 "java/lang/String" "value" "[B", LEq.tab] ++ staticW "java/lang/String" 541 LEq.yN
def tab : Cond := tabOf yN yB 3 (some .boolean) site
def P (x t : Addr) (V : Cell) (cd : Int32) (n : Nat) (f : Nat → Int32) (y t' : Addr) (V' : Cell) (cd' : Int32) (k : Nat) (g : Nat → Int32) (z : Int32) (args : Array Value) (s : State) : Prop := args = #[.ref x, .ref y] ∧ Txt x t V cd n f s ∧ Txt y t' V' cd' k g s ∧ StaticIs s "java/lang/String" "COMPACT_STRINGS" "Z" (.int z) ∧ ¬ z = 0
/-- equals(Object) of two Strings: whether the texts are the same -/
theorem law (l : Launch) (x t : Addr) (V : Cell) (cd : Int32) (n : Nat) (f : Nat → Int32) (y t' : Addr) (V' : Cell) (cd' : Int32) (k : Nat) (g : Nat → Int32) (z : Int32) : Law l yN 2 1 1 14 yB 3 (some .boolean) site (P x t V cd n f y t' V' cd' k g z) (Says01 (SameT n f k g)) [] 0 0 := by
  refine Law.of_walk (plainFor_of_name (by decide +kernel)) (by decide +kernel) (by decide +kernel) (by decide) (fun _ _ h => by rw [h.1]; rfl) (fun _ U U' hal hh h => ⟨h.1, h.2.1.mv hal hh, h.2.2.1.mv hal hh, h.2.2.2.1.there hal hh, h.2.2.2.2⟩) (fun r U U' V V' h1 hal h2 h => Says01.mv r U U' V V' h1 hal h2 h) ?_
  intro p e s m args below meth c s₁ X0 hexec hbytes hml hret hlk hnm hown hh0 W hP
  obtain ⟨rfl, hx, hy, s1, hz⟩ := hP
  have c1 : Steps p.tables e below (s₁.setTop (entryFrame m #[.ref x, .ref y] 3)) (s₁.setTop (mkF m 2 #[.val (.ref x), .val (.ref y), .unset] [.ref y, .ref x])) := Steps.trans (entry rfl) (by
    show Steps p.tables e below (s₁.setTop (mkF m 0 #[.val (.ref x), .val (.ref y), .unset] [])) _
    refine XS.aloadN X0.here hexec rfl (hb hbytes d0) rfl rfl ?_
    refine XS.aloadN X0.here hexec rfl (hb hbytes d1) rfl rfl ?_
    exact Steps.refl _)
  by_cases hxy : x = y
  · have c2 : Steps p.tables e below (s₁.setTop (entryFrame m #[.ref x, .ref y] 3)) (s₁.setTop (mkF m 6 #[.val (.ref x), .val (.ref y), .unset] [.int 1])) := c1.trans (by
      refine acmpNo X0.here hexec rfl (hb hbytes d2) rfl rfl rfl (by simp [acmp, hxy]) ?_
      refine iconstV X0.here hexec rfl 1 (hb hbytes d5) (by decide) ?_
      exact Steps.refl _)
    subst hxy
    have ec : cd = cd' := by
      obtain ⟨D, fd, a1, a2, a3⟩ := hx.2.2.1
      obtain ⟨D', fd', b1, b2, b3⟩ := hy.2.2.1
      cases a1.symm.trans b1
      obtain ⟨q1, q2, q3, q4⟩ := a2.1
      obtain ⟨r1, r2, r3, r4⟩ := b2.1
      cases q4.symm.trans r4
      cases a3.symm.trans b3; rfl
    have et : t = t' := by
      obtain ⟨D, fd, a1, a2, a3⟩ := hx.2.1
      obtain ⟨D', fd', b1, b2, b3⟩ := hy.2.1
      cases a1.symm.trans b1
      obtain ⟨q1, q2, q3, q4⟩ := a2.1
      obtain ⟨r1, r2, r3, r4⟩ := b2.1
      cases q4.symm.trans r4
      cases a3.symm.trans b3; rfl
    subst ec et
    have ev : V = V' := by cases hx.2.2.2.1.1.symm.trans hy.2.2.2.1.1; rfl
    subst ev
    have hs : SameT n f k g := (Cod.eqv hx.2.2.2.2.1 hy.2.2.2.2.1 hx.2.2.2.2.2 hy.2.2.2.2.2).mp ⟨rfl, fun _ _ => rfl⟩
    exact ⟨s₁, some (.int 1), _, _, _, X0, rfl, rfl, rfl, (fun h => by cases h), ⟨1, rfl, hh0, Or.inl ⟨rfl, hs⟩⟩, fun fs hl => c2.trans (X0.ireturnOut hexec hret rfl (Or.inr (Or.inl rfl)) (hb hbytes d6) hl)⟩
  · have c2 : Steps p.tables e below (s₁.setTop (entryFrame m #[.ref x, .ref y] 3)) (s₁.setTop (mkF m 8 #[.val (.ref x), .val (.ref y), .unset] [.ref y])) := c1.trans (by
      refine acmpYes X0.here hexec rfl (pc0 := 2) rfl (hb hbytes d2) rfl rfl rfl (by simp [acmp, hxy]) (by decide) rfl ?_
      refine XS.aloadN X0.here hexec rfl (hb hbytes d7) rfl rfl ?_
      exact Steps.refl _)
    obtain ⟨T3, X3, q3, st3⟩ := cinst X0 hexec hown (wk W (.classLink "java/lang/String" 10 "java/lang/String")) (hy.mv X0.warmed.alike hh0).1 (g := (mkF m 8 #[.val (.ref x), .val (.ref y), .unset] [.ref y])) rfl (rest := []) rfl (hb hbytes d8)
    have hh3 := q3.trans hh0
    have c4 : Steps p.tables e below (s₁.setTop (entryFrame m #[.ref x, .ref y] 3)) (T3.setTop (mkF m 15 #[.val (.ref x), .val (.ref y), .unset] [.ref y])) := (c2.trans (st3 _ (Steps.refl _))).trans (by
      refine XS.ifNo X3.here hexec rfl (hb hbytes d11) rfl (i0_eq_f (by decide)) ?_
      refine XS.aloadN X3.here hexec rfl (hb hbytes d14) rfl rfl ?_
      exact Steps.refl _)
    obtain ⟨T5, X5, q5, st5⟩ := cself X3 hexec hown (wk W (.classLink "java/lang/String" 10 "java/lang/String")) (hy.mv X3.warmed.alike hh3).1 (g := (mkF m 15 #[.val (.ref x), .val (.ref y), .unset] [.ref y])) rfl (rest := []) rfl (hb hbytes d15)
    have hh5 := q5.trans hh3
    have c6 : Steps p.tables e below (s₁.setTop (entryFrame m #[.ref x, .ref y] 3)) (T5.setTop (mkF m 19 #[.val (.ref x), .val (.ref y), .val (.ref y)] [])) := (c4.trans (st5 _ (Steps.refl _))).trans (by
      refine XS.astoreN X5.here hexec rfl (hb hbytes d18) rfl rfl rfl ?_
      exact Steps.refl _)
    obtain ⟨T7, X7, q7, st7⟩ := X5.sget hexec hown (wk W (.fieldLink "java/lang/String" 38 "java/lang/String" "COMPACT_STRINGS" "Z")) s1 (fun _ _ h => by rw [hh5]; exact h) (g := (mkF m 19 #[.val (.ref x), .val (.ref y), .val (.ref y)] [])) rfl (hb hbytes d19)
    have hh7 := q7.trans hh5
    have c8 : Steps p.tables e below (s₁.setTop (entryFrame m #[.ref x, .ref y] 3)) (T7.setTop (mkF m 26 #[.val (.ref x), .val (.ref y), .val (.ref y)] [.ref x])) := (c6.trans (st7 _ (Steps.refl _))).trans (by
      refine XS.ifNo X7.here hexec rfl (hb hbytes d22) rfl (i0_eq_f hz) ?_
      refine XS.aloadN X7.here hexec rfl (hb hbytes d25) rfl rfl ?_
      exact Steps.refl _)
    obtain ⟨T9, X9, q9, st9⟩ := X7.hget hexec hown (wk W (.fieldLink "java/lang/String" 15 "java/lang/String" "coder" "B")) (hx.mv X7.warmed.alike hh7).2.2.1 (g := (mkF m 26 #[.val (.ref x), .val (.ref y), .val (.ref y)] [.ref x])) rfl (rest := []) rfl (hb hbytes d26)
    have hh9 := q9.trans hh7
    have c10 : Steps p.tables e below (s₁.setTop (entryFrame m #[.ref x, .ref y] 3)) (T9.setTop (mkF m 30 #[.val (.ref x), .val (.ref y), .val (.ref y)] [.ref y, .int cd])) := (c8.trans (st9 _ (Steps.refl _))).trans (by
      refine XS.aloadN X9.here hexec rfl (hb hbytes d29) rfl rfl ?_
      exact Steps.refl _)
    obtain ⟨T11, X11, q11, st11⟩ := X9.hget hexec hown (wk W (.fieldLink "java/lang/String" 15 "java/lang/String" "coder" "B")) (hy.mv X9.warmed.alike hh9).2.2.1 (g := (mkF m 30 #[.val (.ref x), .val (.ref y), .val (.ref y)] [.ref y, .int cd])) rfl (rest := [.int cd]) rfl (hb hbytes d30)
    have hh11 := q11.trans hh9
    have c12 : Steps p.tables e below (s₁.setTop (entryFrame m #[.ref x, .ref y] 3)) (T11.setTop (mkF m 33 #[.val (.ref x), .val (.ref y), .val (.ref y)] [.int cd', .int cd])) := c10.trans (st11 _ (Steps.refl _))
    by_cases hcd : cd = cd'
    · subst hcd
      have c13 : Steps p.tables e below (s₁.setTop (entryFrame m #[.ref x, .ref y] 3)) (T11.setTop (mkF m 37 #[.val (.ref x), .val (.ref y), .val (.ref y)] [.ref x])) := c12.trans (by
        refine XS.icmpNo X11.here hexec rfl (hb hbytes d33) rfl (ii_ne_f rfl) ?_
        refine XS.aloadN X11.here hexec rfl (hb hbytes d36) rfl rfl ?_
        exact Steps.refl _)
      obtain ⟨T14, X14, q14, st14⟩ := X11.hget hexec hown (wk W (.fieldLink "java/lang/String" 9 "java/lang/String" "value" "[B")) (hx.mv X11.warmed.alike hh11).2.1 (g := (mkF m 37 #[.val (.ref x), .val (.ref y), .val (.ref y)] [.ref x])) rfl (rest := []) rfl (hb hbytes d37)
      have hh14 := q14.trans hh11
      have c15 : Steps p.tables e below (s₁.setTop (entryFrame m #[.ref x, .ref y] 3)) (T14.setTop (mkF m 41 #[.val (.ref x), .val (.ref y), .val (.ref y)] [.ref y, .ref t])) := (c13.trans (st14 _ (Steps.refl _))).trans (by
        refine XS.aloadN X14.here hexec rfl (hb hbytes d40) rfl rfl ?_
        exact Steps.refl _)
      obtain ⟨T16, X16, q16, st16⟩ := X14.hget hexec hown (wk W (.fieldLink "java/lang/String" 9 "java/lang/String" "value" "[B")) (hy.mv X14.warmed.alike hh14).2.1 (g := (mkF m 41 #[.val (.ref x), .val (.ref y), .val (.ref y)] [.ref y, .ref t])) rfl (rest := [.ref t]) rfl (hb hbytes d41)
      have hh16 := q16.trans hh14
      have c17 : Steps p.tables e below (s₁.setTop (entryFrame m #[.ref x, .ref y] 3)) (T16.setTop (mkF m 44 #[.val (.ref x), .val (.ref y), .val (.ref y)] [.ref t', .ref t])) := c15.trans (st16 _ (Steps.refl _))
      obtain ⟨v18, T18, X18, E18, g18⟩ := X16.callS hexec (LEq.law l t V t' V') hown (wks W (staticW "java/lang/String" 541 LEq.yN)) (wk W LEq.tab) (W := 0) (Nat.le_of_ble_eq_true rfl) (Nat.le_of_ble_eq_true rfl) (Nat.le_refl _) (Nat.le_refl _) (g := (mkF m 44 #[.val (.ref x), .val (.ref y), .val (.ref y)] [.ref t', .ref t])) rfl (by rw [hml]; rfl) c17 (argsL := [.ref t, .ref t']) (rest := []) rfl rfl (by show 2 * 0 + 0 ≤ _; decide) (hb hbytes d44) (⟨rfl, hx.2.2.2.1.mv X16.warmed.alike hh16, hx.2.2.2.2.1.ty, hy.2.2.2.1.mv X16.warmed.alike hh16, hy.2.2.2.2.1.ty⟩)
      obtain ⟨v, rfl, q18, hv⟩ := E18
      have iff := Cod.eqv hx.2.2.2.2.1 hy.2.2.2.2.1 hx.2.2.2.2.2 hy.2.2.2.2.2
      rcases hv with ⟨rfl, he⟩ | ⟨rfl, he⟩
      · have c19 : Steps p.tables e below (s₁.setTop (entryFrame m #[.ref x, .ref y] 3)) (T18.setTop (mkF m 55 #[.val (.ref x), .val (.ref y), .val (.ref y)] [.int 1])) := Steps.trans g18 (by
          refine XS.ifNo X18.here hexec rfl (hb hbytes d47) rfl (i0_eq_f (by decide)) ?_
          refine iconstV X18.here hexec rfl 1 (hb hbytes d50) (by decide) ?_
          refine XS.goto X18.here hexec rfl (pc0 := 51) rfl (hb hbytes d51) (by decide) rfl ?_
          exact Steps.refl _)
        exact ⟨T18, some (.int 1), _, _, _, X18, rfl, rfl, rfl, (fun h => by cases h), ⟨1, rfl, q18.trans hh16, Or.inl ⟨rfl, iff.mp he⟩⟩, fun fs hl => c19.trans (X18.ireturnOut hexec hret rfl (Or.inr (Or.inl rfl)) (hb hbytes d55) hl)⟩
      · have c19 : Steps p.tables e below (s₁.setTop (entryFrame m #[.ref x, .ref y] 3)) (T18.setTop (mkF m 55 #[.val (.ref x), .val (.ref y), .val (.ref y)] [.int 0])) := Steps.trans g18 (by
          refine XS.ifYes X18.here hexec rfl (pc0 := 47) rfl (hb hbytes d47) rfl (i0_eq_t rfl) (by decide) rfl ?_
          refine iconstV X18.here hexec rfl 0 (hb hbytes d54) (by decide) ?_
          exact Steps.refl _)
        exact ⟨T18, some (.int 0), _, _, _, X18, rfl, rfl, rfl, (fun h => by cases h), ⟨0, rfl, q18.trans hh16, Or.inr ⟨rfl, fun q => he (iff.mpr q)⟩⟩, fun fs hl => c19.trans (X18.ireturnOut hexec hret rfl (Or.inr (Or.inl rfl)) (hb hbytes d55) hl)⟩
    · have c13 : Steps p.tables e below (s₁.setTop (entryFrame m #[.ref x, .ref y] 3)) (T11.setTop (mkF m 55 #[.val (.ref x), .val (.ref y), .val (.ref y)] [.int 0])) := c12.trans (by
        refine XS.icmpYes X11.here hexec rfl (pc0 := 33) rfl (hb hbytes d33) rfl (ii_ne_t hcd) (by decide) rfl ?_
        refine iconstV X11.here hexec rfl 0 (hb hbytes d54) (by decide) ?_
        exact Steps.refl _)
      exact ⟨T11, some (.int 0), _, _, _, X11, rfl, rfl, rfl, (fun h => by cases h), ⟨0, rfl, hh11, Or.inr ⟨rfl, Cod.dif hx.2.2.2.2.1 hy.2.2.2.2.1 hcd⟩⟩, fun fs hl => c13.trans (X11.ireturnOut hexec hret rfl (Or.inr (Or.inl rfl)) (hb hbytes d55) hl)⟩
theorem pays {l : Launch} {R : Room} {p : Program} {e : Env} {below : List Frame} {s : State} {sargs : Array Value} {len W : Nat} (x t : Addr) (V : Cell) (cd : Int32) (n : Nat) (f : Nat → Int32) (y t' : Addr) (V' : Cell) (cd' : Int32) (k : Nat) (g : Nat → Int32) (z : Int32) (htab : tab.before sargs s = true) (hfr : 2 ≤ R.frames) (hlo : W + 28 ≤ R.locals) :
    Back l R p e below s sargs yN len W (fun A₁ a₁ => A₁.cells + 0 ≤ R.cells ∧ A₁.slots + 0 ≤ R.slots ∧ P x t V cd n f y t' V' cd' k g z a₁ A₁.U) (fun A₁ _ v₁ B₁ => Says01 (SameT n f k g) v₁ A₁.U B₁.U ∧ B₁.locs = A₁.locs ++ [] ∧ B₁.cells = A₁.cells + 0 ∧ B₁.slots = A₁.slots + 0) :=
  (law l x t V cd n f y t' V' cd' k g z).pays htab hfr (by omega)
end SEq
end StrChars
namespace StrChars.Road
open Jvm Sem ClassFile Op Lib Jvm.Stand Jvm.Free Jvm.Free.XT
open Jvm.Lib.Cold (StaticIs)
/-- the words of String.equals(Object) -/
abbrev wordsEq : List Jvm.Cond := [.code SEq.yN SEq.yB 3 (some .boolean), .initialized ST, .classLink ST 10 ST, .fieldLink ST 38 ST "COMPACT_STRINGS" "Z", .fieldLink ST 15 ST "coder" "B", .fieldLink ST 9 ST "value" "[B", .methodLink ST 541 LEq.yN, .static LEq.yN, .code LEq.yN LEq.yB 3 (some .boolean), .initialized "java/lang/StringLatin1"]
theorem tabEq_of {a : Array Value} {s : State} (h : ∀ w ∈ wordsEq, w.before a s = true) : SEq.tab.before a s = true := by
  have hl : LEq.tab.before a s = true := unparts (wk h (.code LEq.yN LEq.yB 3 (some .boolean))) (wks h (.initialized LEq.yN.cls :: LEq.site))
  have q := consq hl h
  exact unparts (wk q (.code SEq.yN SEq.yB 3 (some .boolean))) (wks q (.initialized SEq.yN.cls :: SEq.site))
theorem movedEq {Z s : State} {a0 args : Array Value} (hZ : Z.Warmed39 s.vm) (hw : ∀ d ∈ wordsEq, d.before a0 Z = true) : ∀ d ∈ wordsEq, d.before args s = true := fun d hd => by
  have t : ∀ d ∈ wordsEq, (d.onTables && d.keepsFace) = true := by decide +kernel
  exact RoadKit.mv hZ (hw d hd) (t d hd)
/-- the road's facts of a String, as the laws ask it -/
theorem txt_of {Z U : State} {a0 : Array Value} {kI : Nat} (wi : (Jvm.Cond.instantiable ST kI).before a0 Z = true) (al : Z.vm.Alike U.vm) {x t : Addr} {kb : ClassId} {cs : List Int32} {cd N2 : Int32} {vs : List Value} (E : RoadKit.Exa Z U.heap x ST) (V : RoadKit.Fld Z U.heap x ST "value" "[B" (.ref t)) (C : RoadKit.Fld Z U.heap x ST "coder" "B" (.int cd)) (K : RoadKit.Arv Z U.heap t kb .byte N2 vs (.int 0)) (hc : CodA cs cd N2 vs) (hb : ∀ c ∈ cs, ¬ c < 0 ∧ ¬ (65535 : Int32) < c) (l2 : cs.length ≤ 4000) :
    ∃ A, Txt x t A cd cs.length (fun j => cs.getD j 0) U := by
  obtain ⟨A, K1, K2, K3, K4, K5, K6⟩ := K
  have hcod := hc.cod (by omega) K3 K5
  obtain ⟨D, fV, fC, hB, F1, F2, g1, g2, -, -⟩ := strObj wi al E V C
  exact ⟨A, ⟨_, hB.2.2.1, D, hB.1, rfl, by cases q : D.vm <;> first | rfl | exact absurd q (hB.2.1.2 _)⟩, Has.of hB F1 g1, Has.of hB F2 g2, ⟨K1.1, State.isArrayOf_alike al K1.2.1, K1.2.2, by rcases hcod with ⟨-, q, -⟩ | ⟨-, q, -⟩ <;> omega⟩, hcod, fun j hj => by
    have e : cs.getD j 0 = cs[j] := by simp [List.getD_eq_getElem?_getD, hj]
    show ¬ cs.getD j 0 < 0 ∧ ¬ 65535 < cs.getD j 0
    rw [e]; exact hb _ (List.getElem_mem _)⟩
theorem same_list (cs ds : List Int32) : SameT cs.length (fun j => cs.getD j 0) ds.length (fun j => ds.getD j 0) ↔ cs = ds := by
  constructor
  · rintro ⟨e, q⟩
    refine List.ext_getElem e fun j h1 h2 => ?_
    have := q j h1
    simpa [List.getD_eq_getElem?_getD, h1, h2] using this
  · rintro rfl
    exact ⟨rfl, fun _ _ => rfl⟩
/-- **equals(Object) OF TWO SUCH STRINGS**: 1 just where the chars are the same -/
theorem eqW {p : Program} {l : Launch} {e : Env} {R : Room} {s : State} {args : Array Value} {below : List Frame} {len W : Nat} {Z : State} {a0 : Array Value} {h : Heap} (hZ : Z.Warmed39 s.vm) (hw : ∀ d ∈ wordsEq, d.before a0 Z = true) {kI : Nat} (wi : (Jvm.Cond.instantiable ST kI).before a0 Z = true)
    {x t : Addr} {kb : ClassId} {cs : List Int32} {cd N2 : Int32} {vs : List Value} (E : RoadKit.Exa Z h x ST) (V : RoadKit.Fld Z h x ST "value" "[B" (.ref t)) (C : RoadKit.Fld Z h x ST "coder" "B" (.int cd)) (K : RoadKit.Arv Z h t kb .byte N2 vs (.int 0)) (hc : CodA cs cd N2 vs) (hb : ∀ c ∈ cs, ¬ c < 0 ∧ ¬ (65535 : Int32) < c) (l2 : cs.length ≤ 4000)
    {y t' : Addr} {kb' : ClassId} {ds : List Int32} {cd' N2' : Int32} {vs' : List Value} (E' : RoadKit.Exa Z h y ST) (V' : RoadKit.Fld Z h y ST "value" "[B" (.ref t')) (C' : RoadKit.Fld Z h y ST "coder" "B" (.int cd')) (K' : RoadKit.Arv Z h t' kb' .byte N2' vs' (.int 0)) (hc' : CodA ds cd' N2' vs') (hb' : ∀ c ∈ ds, ¬ c < 0 ∧ ¬ (65535 : Int32) < c) (l2' : ds.length ≤ 4000)
    {z : Int32} (S : RoadKit.Sta Z h ST "COMPACT_STRINGS" "Z" (.int z)) (hz : ¬ z = 0) (hfr : 2 ≤ R.frames) (hlo : W + 28 ≤ R.locals) :
    Back l R p e below s args (⟨"java/lang/String", "equals", "(Ljava/lang/Object;)Z"⟩ : MethodName) len W (fun P a => a = #[.ref x, .ref y] ∧ P.U.heap = h ∧ P.cells + 0 ≤ R.cells ∧ P.slots + 0 ≤ R.slots)
      (fun P _ v B => ∃ L, (((v = some (.int 1) ∧ cs = ds) ∨ (v = some (.int 0) ∧ ¬ cs = ds)) ∧ L = [] ∧ B.U.heap = h) ∧ B.locs = P.locs ++ L ∧ B.cells = P.cells + 0 ∧ B.slots = P.slots + 0) := by
  intro m meth c P g ig mk a X hg hsize hdg hW hn hp'
  obtain ⟨rfl, rfl, r1, r2⟩ := hp'
  have al : Z.vm.Alike P.U.vm := hZ.alike.trans X.warmed.alike
  obtain ⟨A, hx⟩ := txt_of wi al E V C K hc hb l2
  obtain ⟨A', hy⟩ := txt_of wi al E' V' C' K' hc' hb' l2'
  obtain ⟨v, B, X', ⟨⟨w, hv, hh, hq⟩, hl, hk, hs⟩, st⟩ := SEq.pays x t A cd cs.length (fun j => cs.getD j 0) y t' A' cd' ds.length (fun j => ds.getD j 0) z (tabEq_of (movedEq hZ hw)) hfr hlo m meth c P g ig mk _ X hg hsize hdg hW hn ⟨r1, r2, rfl, hx, hy, sta_is al S, hz⟩
  refine ⟨v, B, X', ⟨[], ⟨?_, rfl, hh⟩, hl, hk, hs⟩, st⟩
  rcases hq with ⟨rfl, q⟩ | ⟨rfl, q⟩
  · exact Or.inl ⟨hv, (same_list cs ds).mp q⟩
  · exact Or.inr ⟨hv, fun e => q ((same_list cs ds).mpr e)⟩
end StrChars.Road
namespace StrChars
open Jvm Sem ClassFile Op Lib Jvm.Stand Jvm.Free.XT Jvm.Free.ALB Jvm.Free.JM Jvm.Free
open Jvm.Lib.Cold (StaticIs)
namespace ChN
def yN : MethodName := ⟨"java/lang/String", "charAt", "(I)C"⟩
abbrev yB : ByteArray := jdk_42_method_56_code
theorem d0 : decode yB 0 = .ok (.aload_n 0, 1) := by decide +kernel
theorem d1 : decode yB 1 = .ok (.invokevirtual 492, 3) := by decide +kernel
theorem d4 : decode yB 4 = .ok (.ifCond (.eq) 12, 3) := by decide +kernel
theorem d7 : decode yB 7 = .ok (.aload_n 0, 1) := by decide +kernel
theorem d8 : decode yB 8 = .ok (.getfield 9, 3) := by decide +kernel
theorem d11 : decode yB 11 = .ok (.iload_n 1, 1) := by decide +kernel
theorem d12 : decode yB 12 = .ok (.invokestatic 495, 3) := by decide +kernel
theorem d15 : decode yB 15 = .ok (.ireturn, 1) := by decide +kernel
def site : List Cond := [.fieldLink "java/lang/String" 9 "java/lang/String" "value" "[B", IsL.tab, LChA.tab] ++ virtW "java/lang/String" 492 "java/lang/String" IsL.yN IsL.yN ++ staticW "java/lang/String" 495 LChA.yN
def tab : Cond := tabOf yN yB 2 (some .char) site
def P (x t : Addr) (V : Cell) (n : Nat) (f : Nat → Int32) (z : Int32) (fm : Value) (i : Nat) (args : Array Value) (s : State) : Prop := args = #[.ref x, .int (Int32.ofNat i)] ∧ Txt x t V 0 n f s ∧ i < n ∧ StaticIs s "java/lang/String" "COMPACT_STRINGS" "Z" (.int z) ∧ ¬ z = 0 ∧ StaticIs s "jdk/internal/util/Preconditions" "SIOOBE_FORMATTER" "Ljava/util/function/BiFunction;" fm ∧ fm.isRef = true
def E (f : Nat → Int32) (i : Nat) (r : Option Value) (s u : State) : Prop := XT.PureE (some (.int (f i))) r s u
/-- charAt(i) of a Latin-1 String of n chars, i < n: f i -/
theorem law (l : Launch) (x t : Addr) (V : Cell) (n : Nat) (f : Nat → Int32) (z : Int32) (fm : Value) (i : Nat) : Law l yN 2 1 3 40 yB 2 (some .char) site (P x t V n f z fm i) (E f i) [] 0 0 := by
  refine Law.of_walk (plainFor_of_name (by decide +kernel)) (by decide +kernel) (by decide +kernel) (by decide) (fun _ _ h => by rw [h.1]; rfl) (fun _ U U' hal hh h => ⟨h.1, h.2.1.mv hal hh, h.2.2.1, h.2.2.2.1.there hal hh, h.2.2.2.2.1, h.2.2.2.2.2.1.there hal hh, h.2.2.2.2.2.2⟩) (fun r U U' V V' h1 hal h2 h => XT.PureE.mv r U U' V V' h1 hal h2 h) ?_
  intro p e s m args below meth c s₁ X0 hexec hbytes hml hret hlk hnm hown hh0 W hP
  obtain ⟨rfl, hx, hi, s1, hz, s3, rf⟩ := hP
  have v31 := hx.2.2.2.1.2.2.2
  have hr := hx.2.2.2.2.2 i hi
  have hx0 := hx.mv X0.warmed.alike hh0
  have c1 : Steps p.tables e below (s₁.setTop (entryFrame m #[.ref x, .int (Int32.ofNat i)] 2)) (s₁.setTop (mkF m 1 #[.val (.ref x), .val (.int (Int32.ofNat i))] [.ref x])) := Steps.trans (entry rfl) (by
    show Steps p.tables e below (s₁.setTop (mkF m 0 #[.val (.ref x), .val (.int (Int32.ofNat i))] [])) _
    refine XS.aloadN X0.here hexec rfl (hb hbytes d0) rfl rfl ?_
    exact Steps.refl _)
  obtain ⟨v2, T2, X2, E2, g2⟩ := X0.callV hexec (IsL.law l x 0 z) hown (wks W (virtW "java/lang/String" 492 "java/lang/String" IsL.yN IsL.yN)) rfl (by decide) (wk W IsL.tab) (W := 0) (Nat.le_of_ble_eq_true rfl) (Nat.le_of_ble_eq_true rfl) (Nat.le_refl _) (Nat.le_refl _) (hx0.1.fc X0.warmed.alike) hx0.1.is (g := (mkF m 1 #[.val (.ref x), .val (.int (Int32.ofNat i))] [.ref x])) rfl (by rw [hml]; rfl) c1 (argsL := []) (rest := []) rfl rfl (by show 2 * 0 + 0 ≤ _; decide) (hb hbytes d1) (⟨rfl, hx0.2.2.1, hx.2.2.2.2.1.cd, s1.there X0.warmed.alike hh0, hz⟩)
  obtain ⟨rfl, q2⟩ := E2
  have hh2 := q2.trans hh0
  have hx2 := hx.mv X2.warmed.alike hh2
  obtain ⟨-, k1, k2⟩ | ⟨k0, -⟩ := hx.2.2.2.2.1
  · have c3 : Steps p.tables e below (s₁.setTop (entryFrame m #[.ref x, .int (Int32.ofNat i)] 2)) (T2.setTop (mkF m 8 #[.val (.ref x), .val (.int (Int32.ofNat i))] [.ref x])) := Steps.trans g2 (by
      refine XS.ifNo X2.here hexec rfl (hb hbytes d4) rfl (i0_eq_f (by decide)) ?_
      refine XS.aloadN X2.here hexec rfl (hb hbytes d7) rfl rfl ?_
      exact Steps.refl _)
    obtain ⟨T4, X4, q4, st4⟩ := X2.hget hexec hown (wk W (.fieldLink "java/lang/String" 9 "java/lang/String" "value" "[B")) hx2.2.1 (g := (mkF m 8 #[.val (.ref x), .val (.int (Int32.ofNat i))] [.ref x])) rfl (rest := []) rfl (hb hbytes d8)
    have hh4 := q4.trans hh2
    have c5 : Steps p.tables e below (s₁.setTop (entryFrame m #[.ref x, .int (Int32.ofNat i)] 2)) (T4.setTop (mkF m 12 #[.val (.ref x), .val (.int (Int32.ofNat i))] [.int (Int32.ofNat i), .ref t])) := (c3.trans (st4 _ (Steps.refl _))).trans (by
      refine XS.iloadN X4.here hexec rfl (hb hbytes d11) rfl ?_
      exact Steps.refl _)
    obtain ⟨v6, T6, X6, E6, g6⟩ := X4.callS hexec (LChA.law l t V i (lo8 (f i)) fm) hown (wks W (staticW "java/lang/String" 495 LChA.yN)) (wk W LChA.tab) (W := 0) (Nat.le_of_ble_eq_true rfl) (Nat.le_of_ble_eq_true rfl) (Nat.le_refl _) (Nat.le_refl _) (g := (mkF m 12 #[.val (.ref x), .val (.int (Int32.ofNat i))] [.int (Int32.ofNat i), .ref t])) rfl (by rw [hml]; rfl) c5 (argsL := [.ref t, .int (Int32.ofNat i)]) (rest := []) rfl rfl (by show 2 * 0 + 0 ≤ _; decide) (hb hbytes d12) (⟨rfl, hx.2.2.2.1.mv X4.warmed.alike hh4, (k2 i hi).1, s3.there X4.warmed.alike hh4, rf⟩)
    obtain ⟨rfl, q6⟩ := E6
    rw [chr8_lo8 hr.1 (k2 i hi).2] at g6
    exact ⟨T6, some (.int (f i)), _, _, _, X6, rfl, rfl, rfl, (fun h => by cases h), ⟨rfl, q6.trans hh4⟩, fun fs hl => Steps.trans g6 (X6.ireturnOut hexec hret (narrow_ch hr.1 hr.2) (Or.inr (Or.inr (Or.inr (Or.inl rfl)))) (hb hbytes d15) hl)⟩
  · exact absurd k0 (by decide)
theorem pays {l : Launch} {R : Room} {p : Program} {e : Env} {below : List Frame} {s : State} {sargs : Array Value} {len W : Nat} (x t : Addr) (V : Cell) (n : Nat) (f : Nat → Int32) (z : Int32) (fm : Value) (i : Nat) (htab : tab.before sargs s = true) (hfr : 4 ≤ R.frames) (hlo : W + 53 ≤ R.locals) :
    Back l R p e below s sargs yN len W (fun A₁ a₁ => A₁.cells + 0 ≤ R.cells ∧ A₁.slots + 0 ≤ R.slots ∧ P x t V n f z fm i a₁ A₁.U) (fun A₁ _ v₁ B₁ => E f i v₁ A₁.U B₁.U ∧ B₁.locs = A₁.locs ++ [] ∧ B₁.cells = A₁.cells + 0 ∧ B₁.slots = A₁.slots + 0) :=
  (law l x t V n f z fm i).pays htab hfr (by omega)
end ChN
end StrChars
namespace StrChars.Road
open Jvm Sem ClassFile Op Lib Jvm.Stand Jvm.Free Jvm.Free.XT
open Jvm.Lib.Cold (StaticIs)
/-- the words of String.charAt(int), the Latin-1 road alone -/
abbrev wordsChN : List Jvm.Cond := [.code ChN.yN ChN.yB 2 (some .char), .initialized ST, .fieldLink ST 9 ST "value" "[B", .fieldLink ST 38 ST "COMPACT_STRINGS" "Z", .fieldLink ST 15 ST "coder" "B", .code IsL.yN IsL.yB 1 (some .boolean), .methodLink ST 492 IsL.yN, .declares IsL.yN, .selects ST IsL.yN IsL.yN, .instanceMethod IsL.yN,
  .methodLink ST 495 LChA.yN, .static LChA.yN, .code LChA.yN LChA.yB 2 (some .char), .initialized "java/lang/StringLatin1", .methodLink "java/lang/StringLatin1" 9 JO.Str_checkIndex.yN, .static JO.Str_checkIndex.yN, .code JO.Str_checkIndex.yN JO.Str_checkIndex.yB 2 none,
  .fieldLink ST 1053 "jdk/internal/util/Preconditions" "SIOOBE_FORMATTER" "Ljava/util/function/BiFunction;", .methodLink ST 1059 JC.PreCheck.yN, .static JC.PreCheck.yN, .code JC.PreCheck.yN JC.PreCheck.yB 3 (some .int), .initialized "jdk/internal/util/Preconditions"]
theorem tabChN_of {a : Array Value} {s : State} (h : ∀ w ∈ wordsChN, w.before a s = true) : ChN.tab.before a s = true := by
  have hp : JC.PreCheck.tab.before a s = true := unparts (wk h (.code JC.PreCheck.yN JC.PreCheck.yB 3 (some .int))) (wks h (.initialized JC.PreCheck.yN.cls :: JC.PreCheck.site))
  have qk := consq hp h
  have hk : JO.Str_checkIndex.tab.before a s = true := unparts (wk qk (.code JO.Str_checkIndex.yN JO.Str_checkIndex.yB 2 none)) (wks qk (.initialized JO.Str_checkIndex.yN.cls :: JO.Str_checkIndex.site))
  have ql := consq hk h
  have hl : LChA.tab.before a s = true := unparts (wk ql (.code LChA.yN LChA.yB 2 (some .char))) (wks ql (.initialized LChA.yN.cls :: LChA.site))
  have hi : IsL.tab.before a s = true := unparts (wk h (.code IsL.yN IsL.yB 1 (some .boolean))) (wks h (.initialized IsL.yN.cls :: IsL.site))
  have q := consq hi (consq hl h)
  exact unparts (wk q (.code ChN.yN ChN.yB 2 (some .char))) (wks q (.initialized ChN.yN.cls :: ChN.site))
theorem movedChN {Z s : State} {a0 args : Array Value} (hZ : Z.Warmed39 s.vm) (hw : ∀ d ∈ wordsChN, d.before a0 Z = true) : ∀ d ∈ wordsChN, d.before args s = true := fun d hd => by
  have t : ∀ d ∈ wordsChN, (d.onTables && d.keepsFace) = true := by decide +kernel
  exact RoadKit.mv hZ (hw d hd) (t d hd)
/-- **charAt(i) OF A LATIN-1 STRING**, i < n: the char -/
theorem chN {p : Program} {l : Launch} {e : Env} {R : Room} {s : State} {args : Array Value} {below : List Frame} {len W : Nat} {Z : State} {a0 : Array Value} {h : Heap} (hZ : Z.Warmed39 s.vm) (hw : ∀ d ∈ wordsChN, d.before a0 Z = true) {kI : Nat} (wi : (Jvm.Cond.instantiable ST kI).before a0 Z = true)
    {x t : Addr} {kb : ClassId} {cs : List Int32} {N2 z : Int32} {vs : List Value} {fm : Value} {i : Nat} {j : Int32} (E : RoadKit.Exa Z h x ST) (V : RoadKit.Fld Z h x ST "value" "[B" (.ref t)) (C : RoadKit.Fld Z h x ST "coder" "B" (.int 0)) (K : RoadKit.Arv Z h t kb .byte N2 vs (.int 0)) (hc : CodA cs 0 N2 vs) (hb : ∀ c ∈ cs, ¬ c < 0 ∧ ¬ (65535 : Int32) < c)
    (S : RoadKit.Sta Z h ST "COMPACT_STRINGS" "Z" (.int z)) (hz : ¬ z = 0) (F : RoadKit.Sta Z h "jdk/internal/util/Preconditions" "SIOOBE_FORMATTER" "Ljava/util/function/BiFunction;" fm) (rf : fm.isRef = true) (l2 : cs.length ≤ 4000) (hi : i < cs.length) (hj : j = Int32.ofNat i) (hfr : 4 ≤ R.frames) (hlo : W + 53 ≤ R.locals) :
    Back l R p e below s args (⟨"java/lang/String", "charAt", "(I)C"⟩ : MethodName) len W (fun P a => a = #[.ref x, .int j] ∧ P.U.heap = h ∧ P.cells + 0 ≤ R.cells ∧ P.slots + 0 ≤ R.slots)
      (fun P _ v B => ∃ L, (v = some (.int (cs.getD i 0)) ∧ L = [] ∧ B.U.heap = h) ∧ B.locs = P.locs ++ L ∧ B.cells = P.cells + 0 ∧ B.slots = P.slots + 0) := by
  subst hj
  intro m meth c P g ig mk a X hg hsize hdg hW hn hp'
  obtain ⟨rfl, rfl, r1, r2⟩ := hp'
  have al : Z.vm.Alike P.U.vm := hZ.alike.trans X.warmed.alike
  obtain ⟨A, hx⟩ := txt_of wi al E V C K hc hb l2
  obtain ⟨v, B, X', ⟨⟨hv, hh⟩, hl, hk, hs⟩, st⟩ := ChN.pays x t A cs.length (fun j => cs.getD j 0) z fm i (tabChN_of (movedChN hZ hw)) hfr hlo m meth c P g ig mk _ X hg hsize hdg hW hn ⟨r1, r2, rfl, hx, hi, sta_is al S, hz, sta_is al F, rf⟩
  exact ⟨v, B, X', ⟨[], ⟨hv, rfl, hh⟩, hl, hk, hs⟩, st⟩
/-- what backV says of its String, as the contracts of this text ask it: cs's low bytes, coder 0 -/
theorem codOf {cs : List Int32} {n : Nat} (hn : cs.length = n) (hb : ∀ c ∈ cs, ¬ 255 < c) : CodA cs 0 (Int32.ofNat n) ((cs.map lo8).map Value.int) := Or.inl ⟨rfl, by rw [hn], by simp [List.map_map, Function.comp_def], hb⟩
end StrChars.Road
end Jvm.Pilot.@@N@@
namespace Jvm.Pilot.@@N@@
open Jvm Jvm.ClassFile Sem Op Lib Jvm.Free Jvm.Stand Jvm.LawKit Jvm.RoadKit Bundle Jvm.Pilot.@@N@@.Jvm.D
set_option maxRecDepth 65536
set_option maxHeartbeats 40000000
theorem tw {Z : State} {a0 : Array Value} (hw : ∀ d ∈ tables_1, d.before a0 Z = true) (i : Nat) {d : Jvm.Cond} (h : tables_1[i]? = some d) : d.before a0 Z = true := hw _ (List.mem_of_getElem? h)
theorem leW {a b : Nat} (h : 2 * 0 + a = b) : 2 * 0 + a ≤ b := Nat.le_of_eq h
theorem leB {a b : Nat} (h : Nat.ble a b = true) : a ≤ b := Nat.le_of_ble_eq_true h
theorem own_wS : ∀ d ∈ Bundle.stringAtoms, d ∈ tables_1 := by decide +kernel
def own_Env (Z : State) : Prop := (∃ G : Int32, Sta Z Z.heap "java/lang/String" "COMPACT_STRINGS" "Z" (.int G) ∧ ¬ G = 0) ∧ ∃ G : Value, Sta Z Z.heap "jdk/internal/util/Preconditions" "SIOOBE_FORMATTER" "Ljava/util/function/BiFunction;" G ∧ G.isRef = true
def own_Str (Z : State) (h : Heap) (x t : Addr) (cs : List Int32) : Prop := Exa Z h x "java/lang/String" ∧ Fld Z h x "java/lang/String" "value" "[B" (.ref t) ∧ Fld Z h x "java/lang/String" "coder" "B" (.int 0) ∧ (∃ (kb : ClassId) (N2 : Int32) (vs : List Value), Arv Z h t kb .byte N2 vs (.int 0) ∧ StrChars.Road.CodA cs 0 N2 vs) ∧ (∀ c ∈ cs, ¬ c < 0 ∧ ¬ (255 : Int32) < c) ∧ cs.length ≤ 4000
section OwnStr
variable {Z : State} {h h' : Heap} {x t : Addr} {cs : List Int32}
theorem own_Str.ext (F : own_Str Z h x t cs) (E : Ext h h') : own_Str Z h' x t cs := by
  obtain ⟨f1, f2, f3, ⟨kb, N2, vs, f4, f5⟩, f6⟩ := F
  exact ⟨Exa.ext E f1, Fld.ext E f2, Fld.ext E f3, ⟨kb, N2, vs, f4.ext E, f5⟩, f6⟩
theorem own_Str.other {a : Addr} {sl : Nat} {v : Value} (F : own_Str Z h x t cs) (W : Wr h h' a sl v) (n1 : x ≠ a) (n2 : t ≠ a) : own_Str Z h' x t cs := by
  obtain ⟨f1, f2, f3, ⟨kb, N2, vs, f4, f5⟩, f6⟩ := F
  exact ⟨Exa.wr W f1, f2.other W (Or.inl n1), f3.other W (Or.inl n1), ⟨kb, N2, vs, f4.other W n2, f5⟩, f6⟩
theorem own_Str.keep {ws : List Addr} (F : own_Str Z h x t cs) (K : Keep h h' ws) (n1 : x ∉ ws) (n2 : t ∉ ws) : own_Str Z h' x t cs := by
  obtain ⟨f1, f2, f3, ⟨kb, N2, vs, f4, f5⟩, f6⟩ := F
  exact ⟨f1.keep K, f2.keep K n1, f3.keep K n1, ⟨kb, N2, vs, f4.keep K n2, f5⟩, f6⟩
theorem own_Str.lt1 (F : own_Str Z h x t cs) : x < h.size := F.1.lt
theorem own_Str.lt2 (F : own_Str Z h x t cs) : t < h.size := by obtain ⟨-, -, -, ⟨kb, N2, vs, f4, -⟩, -⟩ := F; exact f4.lt
theorem own_up (F : ∀ c ∈ cs, ¬ c < 0 ∧ ¬ (255 : Int32) < c) : ∀ c ∈ cs, ¬ c < 0 ∧ ¬ (65535 : Int32) < c := fun c hc => ⟨(F c hc).1, fun q => (F c hc).2 (by rw [Int32.lt_iff_toInt_lt] at q ⊢; have e1 : (65535 : Int32).toInt = 65535 := rfl; have e2 : (255 : Int32).toInt = 255 := rfl; omega)⟩
end OwnStr
theorem own_pdNew : parseMethodDescriptor "([C)V" = some ⟨[(.array .char)], none⟩ := by decide +kernel
theorem own_pdLen : parseMethodDescriptor "()I" = some ⟨[], some .int⟩ := by decide +kernel
theorem own_pdChr : parseMethodDescriptor "(I)C" = some ⟨[.int], some .char⟩ := by decide +kernel
theorem own_pdEq : parseMethodDescriptor "(Ljava/lang/Object;)Z" = some ⟨[(.object "java/lang/Object")], some .boolean⟩ := by decide +kernel
theorem own_pdEmp : parseMethodDescriptor "()Z" = some ⟨[], some .boolean⟩ := by decide +kernel
section OwnCalls
variable {p : Program} {l : Launch} {e : Env} {R : Room} {s : State} {args : Array Value} {below : List Frame} {len W : Nat} {Z : State} {a0 : Array Value} {h : Heap} {n0 : Nat}
theorem own_wNew : ∀ d ∈ StrChars.Road.words, d ∈ tables_1 := by decide +kernel
theorem own_new (hZ : Z.Warmed39 s.vm) (hw : ∀ d ∈ tables_1, d.before a0 Z = true) (SV : own_Env Z) (O : Old Z n0 h) {x b : Addr} {kC : ClassId} {cs : List Int32} {d v0 c0 : Value} {N : Int32} {n : Nat} (hx0 : n0 ≤ x) (hh0 : n0 ≤ h.size) (E : Exa Z h x "java/lang/String") (V : Fld Z h x "java/lang/String" "value" "[B" v0) (C : Fld Z h x "java/lang/String" "coder" "B" c0) (K : Arv Z h b kC .char N (cs.map Value.int) d)
    (hn : cs.length = n) (hN : N = Int32.ofNat n) (l0 : 0 < n) (l2 : n ≤ 4000) (hp : ∀ c ∈ cs, ¬ c < 0 ∧ ¬ (255 : Int32) < c) (hfr : 4 ≤ R.frames) (hlo : W + 65 ≤ R.locals) :
    Back l R p e below s args (⟨"java/lang/String", "<init>", "([C)V"⟩ : MethodName) len W (fun P a => a = #[.ref x, .ref b] ∧ P.U.heap = h ∧ P.cells + 1 ≤ R.cells ∧ P.slots + n ≤ R.slots)
      (fun P _ v B => ∃ L, (v = none ∧ Fr n0 L ∧ Keep h B.U.heap [x] ∧ ∃ t, h.size ≤ t ∧ own_Str Z B.U.heap x t cs) ∧ B.locs = P.locs ++ L ∧ B.cells = P.cells + 1 ∧ B.slots = P.slots + n) := by
  obtain ⟨⟨G1, S1, S2⟩, -⟩ := SV
  refine Back.mono (StrChars.Road.backV hZ (fun d hd => hw d (own_wNew d hd)) (kI := 4) (tw hw 3 rfl) (bs := cs.map (fun c => c.toInt8.toInt32)) hx0 hh0 E V C K (Sta.ext O.2 S1) S2 hn hN l0 l2 hp rfl hfr hlo) (fun _ _ q => q) ?_
  rintro P a v B hq ⟨L, ⟨q1, q2, q3, q4, q5, t, kb, q6, q7, q8, q9, q10⟩, r⟩
  subst hn hN
  exact ⟨L, ⟨q1, q2, q3, t, q7, q4, q9, q5, ⟨kb, _, _, q10, StrChars.Road.codOf rfl (fun c hc => (hp c hc).2)⟩, hp, l2⟩, r⟩
theorem own_wLen : ∀ d ∈ StrChars.Road.wordsLen, d ∈ tables_1 := by decide +kernel
theorem own_len (hZ : Z.Warmed39 s.vm) (hw : ∀ d ∈ tables_1, d.before a0 Z = true) (SV : own_Env Z) (O : Old Z n0 h) {x t : Addr} {cs : List Int32} (F : own_Str Z h x t cs) (hfr : 2 ≤ R.frames) (hlo : W + 25 ≤ R.locals) :
    Back l R p e below s args (⟨"java/lang/String", "length", "()I"⟩ : MethodName) len W (fun P a => a = #[.ref x] ∧ P.U.heap = h ∧ P.cells + 0 ≤ R.cells ∧ P.slots + 0 ≤ R.slots)
      (fun P _ v B => ∃ L, (v = some (.int (Int32.ofNat cs.length)) ∧ Fr n0 L ∧ B.U.heap = h) ∧ B.locs = P.locs ++ L ∧ B.cells = P.cells + 0 ∧ B.slots = P.slots + 0) := by
  obtain ⟨⟨G1, S1, S2⟩, -⟩ := SV
  obtain ⟨f1, f2, f3, ⟨kb, N2, vs, f4, f5⟩, f6, f7⟩ := F
  refine Back.mono (StrChars.Road.lenW hZ (fun d hd => hw d (own_wLen d hd)) (kI := 4) (tw hw 3 rfl) f1 f2 f3 f4 f5 (own_up f6) (Sta.ext O.2 S1) S2 f7 hfr hlo) (fun _ _ q => q) ?_
  rintro P a v B hq ⟨L, ⟨q1, rfl, q3⟩, r⟩
  exact ⟨[], ⟨q1, Fr.nil n0, q3⟩, r⟩
theorem own_wChr : ∀ d ∈ StrChars.Road.wordsChN, d ∈ tables_1 := by decide +kernel
theorem own_chr (hZ : Z.Warmed39 s.vm) (hw : ∀ d ∈ tables_1, d.before a0 Z = true) (SV : own_Env Z) (O : Old Z n0 h) {x t : Addr} {cs : List Int32} {i : Nat} {j : Int32} (F : own_Str Z h x t cs) (hi : i < cs.length) (hj : j = Int32.ofNat i) (hfr : 4 ≤ R.frames) (hlo : W + 53 ≤ R.locals) :
    Back l R p e below s args (⟨"java/lang/String", "charAt", "(I)C"⟩ : MethodName) len W (fun P a => a = #[.ref x, .int j] ∧ P.U.heap = h ∧ P.cells + 0 ≤ R.cells ∧ P.slots + 0 ≤ R.slots)
      (fun P _ v B => ∃ L, (v = some (.int (cs.getD i 0)) ∧ Fr n0 L ∧ B.U.heap = h) ∧ B.locs = P.locs ++ L ∧ B.cells = P.cells + 0 ∧ B.slots = P.slots + 0) := by
  obtain ⟨⟨G1, S1, S2⟩, G3, S3, S4⟩ := SV
  obtain ⟨f1, f2, f3, ⟨kb, N2, vs, f4, f5⟩, f6, f7⟩ := F
  refine Back.mono (StrChars.Road.chN hZ (fun d hd => hw d (own_wChr d hd)) (kI := 4) (tw hw 3 rfl) f1 f2 f3 f4 f5 (own_up f6) (Sta.ext O.2 S1) S2 (Sta.ext O.2 S3) S4 f7 hi hj hfr hlo) (fun _ _ q => q) ?_
  rintro P a v B hq ⟨L, ⟨q1, rfl, q3⟩, r⟩
  exact ⟨[], ⟨q1, Fr.nil n0, q3⟩, r⟩
theorem own_wEq : ∀ d ∈ StrChars.Road.wordsEq, d ∈ tables_1 := by decide +kernel
theorem own_eqs (hZ : Z.Warmed39 s.vm) (hw : ∀ d ∈ tables_1, d.before a0 Z = true) (SV : own_Env Z) (O : Old Z n0 h) {x t y u : Addr} {cs ds : List Int32} (F : own_Str Z h x t cs) (G : own_Str Z h y u ds) (hfr : 2 ≤ R.frames) (hlo : W + 28 ≤ R.locals) :
    Back l R p e below s args (⟨"java/lang/String", "equals", "(Ljava/lang/Object;)Z"⟩ : MethodName) len W (fun P a => a = #[.ref x, .ref y] ∧ P.U.heap = h ∧ P.cells + 0 ≤ R.cells ∧ P.slots + 0 ≤ R.slots)
      (fun P _ v B => ∃ L, (v = some (.int (if cs = ds then 1 else 0)) ∧ Fr n0 L ∧ B.U.heap = h) ∧ B.locs = P.locs ++ L ∧ B.cells = P.cells + 0 ∧ B.slots = P.slots + 0) := by
  obtain ⟨⟨G1, S1, S2⟩, -⟩ := SV
  obtain ⟨f1, f2, f3, ⟨kb, N2, vs, f4, f5⟩, f6, f7⟩ := F
  obtain ⟨g1, g2, g3, ⟨kb', N2', vs', g4, g5⟩, g6, g7⟩ := G
  refine Back.mono (StrChars.Road.eqW hZ (fun d hd => hw d (own_wEq d hd)) (kI := 4) (tw hw 3 rfl) f1 f2 f3 f4 f5 (own_up f6) f7 g1 g2 g3 g4 g5 (own_up g6) g7 (Sta.ext O.2 S1) S2 hfr hlo) (fun _ _ q => q) ?_
  rintro P a v B hq ⟨L, ⟨q1, rfl, q3⟩, r⟩
  refine ⟨[], ⟨?_, Fr.nil n0, q3⟩, r⟩
  rcases q1 with ⟨q1, q2⟩ | ⟨q1, q2⟩
  · rw [q1, if_pos q2]
  · rw [q1, if_neg q2]
end OwnCalls
def own_ok (c : Int32) : Prop := (65 ≤ c.toInt ∧ c.toInt ≤ 90) ∨ (97 ≤ c.toInt ∧ c.toInt ≤ 122) ∨ (48 ≤ c.toInt ∧ c.toInt ≤ 57) ∨ c = 46 ∨ c = 95 ∨ c = 45
theorem own_ok.rng {c : Int32} (h : own_ok c) : 0 ≤ c.toInt ∧ c.toInt ≤ 255 := by
  rcases h with h | h | h | rfl | rfl | rfl <;> first | decide | omega
theorem own_ok.b {c : Int32} (h : own_ok c) : ¬ c < 0 ∧ ¬ (255 : Int32) < c := by
  have q := h.rng
  rw [Int32.lt_iff_toInt_lt, Int32.lt_iff_toInt_lt]
  have e1 : (255 : Int32).toInt = 255 := by decide
  have e2 : (0 : Int32).toInt = 0 := by decide
  omega
theorem own_i2c {y : Int32} (h : 0 ≤ y.toInt ∧ y.toInt < 65536) : y.toUInt32.toUInt16.toUInt32.toInt32 = y := by
  have q := c_i2c y
  apply Int32.toInt_inj.mp
  omega
theorem own_nar {y : Int32} (h : 0 ≤ y.toInt ∧ y.toInt < 65536) : nar .char y = y := own_i2c h
theorem own_nn {y : Int32} (h : 0 ≤ y.toInt ∧ y.toInt < 65536) : nar .char y.toUInt32.toUInt16.toUInt32.toInt32 = y := by rw [own_i2c h]; exact own_nar h
theorem own_ok.nar {c : Int32} (h : own_ok c) : nar .char c = c := own_nar (by have q := h.rng; omega)
theorem own_ltI (x y : Int32) : x < y ↔ x.toInt < y.toInt := Int32.lt_iff_toInt_lt
theorem own_Str.arv {Z : State} {h : Heap} {x t : Addr} {cs : List Int32} (F : own_Str Z h x t cs) : ∃ kb : ClassId, Arv Z h t kb .byte (Int32.ofNat cs.length) (cs.map fun c => Value.int (StrChars.lo8 c)) (.int 0) := by
  obtain ⟨-, -, -, ⟨kb, N2, vs, f4, f5⟩, -⟩ := F
  rcases f5 with ⟨-, rfl, rfl, -⟩ | ⟨q, -⟩
  · exact ⟨kb, f4⟩
  · exact absurd q (by decide)
theorem own_low {cs : List Int32} {i : Nat} (hi : i < cs.length) : (cs.map fun c => Value.int (StrChars.lo8 c)).getD i (.int 0) = .int (StrChars.lo8 (cs.getD i 0)) := by
  rw [own_getD _ (by simpa using hi), own_getD _ hi, List.getElem_map]
theorem own_lo8 {c : Int32} (h : ¬ c < 0 ∧ ¬ (255 : Int32) < c) : (StrChars.lo8 c &&& (255 : Int32)) = c := by
  apply Int32.toInt_inj.mp
  rw [c_mask _ 255 8 (by decide) (by decide)]
  have q : ((StrChars.lo8 c).toInt - c.toInt) % 256 = 0 ∧ -128 ≤ (StrChars.lo8 c).toInt ∧ (StrChars.lo8 c).toInt < 128 := c_i2b c
  rw [Int32.lt_iff_toInt_lt, Int32.lt_iff_toInt_lt] at h
  have e1 : (255 : Int32).toInt = 255 := by decide
  have e2 : (0 : Int32).toInt = 0 := by decide
  have e3 : ((2 ^ 8 : Nat) : Int) = 256 := by decide
  omega
theorem own_ofNat_toInt {n : Nat} (h : n < 2147483648) : (Int32.ofNat n).toInt = n := Int32.toInt_ofNat_small (n := n) (by omega)
theorem own_clamp {n : Nat} (h : n < 2147483648) : (Int32.ofNat n).toNatClampNeg = n := by
  show (Int32.ofNat n).toInt.toNat = n
  rw [own_ofNat_toInt h]; rfl
theorem own_ofNat_lt {i n : Nat} (hn : n < 2147483648) (hi : i < 2147483648) : Int32.ofNat i < Int32.ofNat n ↔ i < n := by
  rw [own_ltI, own_ofNat_toInt hn, own_ofNat_toInt hi]; omega
theorem own_ofNat_nn {i : Nat} (hi : i < 2147483648) : ¬ Int32.ofNat i < 0 := by
  rw [own_ltI, own_ofNat_toInt hi]
  have e2 : (0 : Int32).toInt = 0 := by decide
  omega
theorem own_mem_getD {cs : List Int32} {i : Nat} (hi : i < cs.length) : cs.getD i 0 ∈ cs := by
  rw [own_getD _ hi]; exact List.getElem_mem hi
theorem own_safeNull {Z : State} {EL : List (String × Nat)} {vm : Vm} {h : Heap} {x : Addr} (hal : Z.vm.Alike vm) (E : Exa Z h x "java/lang/String") (F : Fld Z h x "java/lang/String" "value" "[B" .null) : Safe Z EL vm h x := fun B => by
  obtain ⟨cell, cf, k, i, f, e1, e2, e3, e4, e5, e6, e7⟩ := F
  obtain ⟨p, -, u, a, -, q, -, G, rfl | rfl⟩ := B
  · cases (show h[q.sa]? = some q.sC from G.ha).symm.trans e1
    obtain ⟨cS, ⟨⟨-, -, -, ⟨c1, k1, i1, f1, -⟩, -, -, -, v1, -⟩, -⟩, -⟩ := G
    obtain ⟨k3, g3, -⟩ := State.fieldFound?_setVm (s := Z) hal e2
    have g4 := (show (Wst Z vm h).fieldFound? "java/lang/String" "value" "[B" = _ from g3).symm.trans f1
    simp only [Option.some.injEq, Prod.mk.injEq] at g4
    rw [g4.2.2.2, v1] at e7
    cases e7
  · obtain ⟨cell', k', a1, a2, -⟩ := E
    cases (show h[q.sd]? = some q.SA from G.hd).symm.trans a1
    obtain ⟨cS, -, -, g, -⟩ := G
    have g' : Z.vm.findClass "[B" = some q.SA.cls := by rw [← hal.findClass]; exact g
    exact ids_ne a2 g' (by decide) rfl
abbrev own_EL : List (String × Nat) := [("com/example/unbound_principals/unboundprincipals/AuthorizableKindOfNodeTypePinLaw", 8), ("com/example/unbound_principals/unboundprincipals/AuthorizableKindOfNodeTypePinLaw", 10), ("com/example/unbound_principals/unboundprincipals/AuthorizableKindOfNodeTypePinLaw", 12), ("java/lang/String", 7)]
theorem own_EW {Z : State} {a0 : Array Value} (hw : ∀ d ∈ tables_1, d.before a0 Z = true) : EW Z a0 own_EL := (EW.cons (tw hw 1 rfl) (by decide) (EW.cons (tw hw 116 rfl) (by decide) (EW.cons (tw hw 114 rfl) (by decide) (EW.cons (tw hw 115 rfl) (by decide) EW.nil))))
def own_b (c : Int32) : Prop := ¬ c < 0 ∧ ¬ (255 : Int32) < c
theorem own_b.rng {c : Int32} (h : own_b c) : 0 ≤ c.toInt ∧ c.toInt ≤ 255 := by
  have q := h
  unfold own_b at q
  rw [Int32.lt_iff_toInt_lt, Int32.lt_iff_toInt_lt] at q
  have e1 : (255 : Int32).toInt = 255 := by decide
  have e2 : (0 : Int32).toInt = 0 := by decide
  omega
theorem own_b.nar {c : Int32} (h : own_b c) : nar .char c = c := own_nar (by have q := h.rng; omega)
def own_kind (cs : List Int32) (a b c : Addr) : Value := if cs = [114, 101, 112, 58, 85, 115, 101, 114] then .ref a else if cs = [114, 101, 112, 58, 83, 121, 115, 116, 101, 109, 85, 115, 101, 114] then .ref b else if cs = [114, 101, 112, 58, 71, 114, 111, 117, 112] then .ref c else .null
theorem own_b255 (x : Int32) : own_b ((x &&& (255 : Int32)).toUInt32.toUInt16.toUInt32.toInt32) := by
  rw [i2c_mask]
  have h := c_and x 255 (by decide)
  unfold own_b
  rw [Int32.lt_iff_toInt_lt, Int32.lt_iff_toInt_lt]
  have e1 : (255 : Int32).toInt = 255 := by decide
  have e2 : (0 : Int32).toInt = 0 := by decide
  omega
def QGE (Z : State) (px : Addr) (pt : Addr) (cs : List Int32) (i : Int32) (h0 : Heap) (n0 : Nat) (v : Option Value) (h : Heap) (L : List Loc) : Prop := ∃ (pv : Int32), v = some (.int pv) ∧ Fr n0 L ∧ h = h0 ∧ own_b pv
theorem dGE_0 : decode method_4_code 0 = .ok (.iload_n 1, 1) := by decide +kernel
theorem dGE_1 : decode method_4_code 1 = .ok (.ifCond .lt 19, 3) := by decide +kernel
theorem dGE_4 : decode method_4_code 4 = .ok (.iload_n 1, 1) := by decide +kernel
theorem dGE_5 : decode method_4_code 5 = .ok (.aload_n 0, 1) := by decide +kernel
theorem dGE_6 : decode method_4_code 6 = .ok (.invokevirtual 14, 3) := by decide +kernel
theorem dGE_9 : decode method_4_code 9 = .ok (.if_icmp .ge 11, 3) := by decide +kernel
theorem dGE_12 : decode method_4_code 12 = .ok (.aload_n 0, 1) := by decide +kernel
theorem dGE_13 : decode method_4_code 13 = .ok (.iload_n 1, 1) := by decide +kernel
theorem dGE_14 : decode method_4_code 14 = .ok (.invokevirtual 56, 3) := by decide +kernel
theorem dGE_17 : decode method_4_code 17 = .ok (.goto 4, 3) := by decide +kernel
theorem dGE_20 : decode method_4_code 20 = .ok (.iconst 0, 1) := by decide +kernel
theorem dGE_21 : decode method_4_code 21 = .ok (.ireturn, 1) := by decide +kernel
theorem pnGE : plainName "com/example/unbound_principals/unboundprincipals/AuthorizableKindOfNodeTypePinLaw" = true := by first | (simp [plainName, overriddenIn]; done) | decide +kernel
theorem pdGE : parseMethodDescriptor "(Ljava/lang/String;I)C" = some ⟨[(.object "java/lang/String"), .int], some .char⟩ := by decide +kernel
theorem rmGE (l : Launch) (Z : State) (a0 : Array Value) (hw : ∀ d ∈ tables_1, d.before a0 Z = true) (ws : List Jvm.Cond) (px : Addr) (pt : Addr) (cs : List Int32) (i : Int32) (h0 : Heap) (n0 : Nat) (Z0 : n0 ≤ h0.size) (H0 : own_Str Z h0 px pt cs) (O0 : Old Z n0 h0) (SV : own_Env Z) :
    MetFree l (⟨"com/example/unbound_principals/unboundprincipals/AuthorizableKindOfNodeTypePinLaw", "get", "(Ljava/lang/String;I)C"⟩ : MethodName) (head1 (Jvm.Cond.code (⟨"com/example/unbound_principals/unboundprincipals/AuthorizableKindOfNodeTypePinLaw", "get", "(Ljava/lang/String;I)C"⟩ : MethodName) method_4_code 2 (some .char) :: ws) ({ frames := 4, cells := 0, slots := 0, locals := 54 } : Room)) (fun aa U => aa = #[(.ref px), (.int i)] ∧ Z.Warmed39 U.vm ∧ U.heap = h0) (fun _ _ _ _ _ => True) (fun _ U oo U' => ∃ v L, oo = .returned v ∧ QGE Z px pt cs i h0 n0 v U'.heap L ∧ FrameEnd U oo U' L ({ frames := 4, cells := 0, slots := 0, locals := 54 } : Room).cells ({ frames := 4, cells := 0, slots := 0, locals := 54 } : Room).slots) := by
  refine MetFree.of_bodySF (plainFor_of_name pnGE) hisR ?_
  intro p e s m args below meth c s₁ Bd hml0 hP hK
  obtain ⟨rfl, hZ, hh⟩ := hP
  have hx := Bd.exec
  have hby := Bd.bytes
  have hlk : meth.locks = false := BodyLoose.notSynchronized Bd
  have hml : c.maxLocals = 2 := hml0
  have hown : s.vm.findClass "com/example/unbound_principals/unboundprincipals/AuthorizableKindOfNodeTypePinLaw" = some m.cls := findClass_of_methodNamed Bd.named
  have hnm := (name_of_methodNamed Bd.named Bd.method).1
  have X0 : Stand p l e ({ frames := 4, cells := 0, slots := 0, locals := 54 } : Room) s m #[(.ref px), (.int i)] below meth c s₁ [] 0 0 := Stand.of_body Bd
  have e0 : s₁.heap = h0 := by rw [← hh, Bd.state]; rfl
  have N0 := Fr.nil n0
  have ef : entryFrame m #[(.ref px), (.int i)] 2 = mkF m 0 #[rv px, iv i] [] := by first | (simp [entryFrame, mkF, argsToLocals, Value.category, maxLocals]; done) | rfl
  show Way p.tables e below (KQ s (QGE Z px pt cs i h0 n0) ({ frames := 4, cells := 0, slots := 0, locals := 54 } : Room).cells ({ frames := 4, cells := 0, slots := 0, locals := 54 } : Room).slots) (s₁.setTop (entryFrame m #[(.ref px), (.int i)] 2))
  rw [ef]
  refine Way.by (fun _ k => XS.iloadN X0.here hx rfl (hb hby dGE_0) rfl k) ?_
  show Way _ _ _ _ (s₁.setTop (mkF m 1 #[rv px, iv i] [(.int i)]))
  by_cases hq1 : i < (0 : Int32)
  · skip
    refine Way.by (fun _ k => XS.ifYes X0.here hx rfl (pc0 := 1) (pc' := 20) rfl (hb hby dGE_1) rfl ((if0 .lt _).trans (tlt hq1).1) (by decide) (by decide) k) ?_
    show Way _ _ _ _ (s₁.setTop (mkF m 20 #[rv px, iv i] []))
    refine Way.by (fun _ k => XS.iconst X0.here hx rfl (hb hby dGE_20) k) ?_
    show Way _ _ _ _ (s₁.setTop (mkF m 21 #[rv px, iv i] [(.int 0)]))
    refine Way.ret (v := (some (.int (nar .char (0 : Int32))))) X0 hlk (fun h => by rw [Bd.returns] at h; cases h) (fun fs hr => retN X0 hx (t := .char) Bd.returns (by simp) (hb hby dGE_21) hr) ?_ (by decide) (by decide)
    show QGE Z px pt cs i h0 n0 _ s₁.heap _
    rw [e0]
    exact ⟨(0 : Int32), rfl, N0, rfl, (by unfold own_b; decide)⟩
  · skip
    refine Way.by (fun _ k => XS.ifNo X0.here hx rfl (hb hby dGE_1) rfl ((if0 .lt _).trans (flt hq1).1) k) ?_
    show Way _ _ _ _ (s₁.setTop (mkF m 4 #[rv px, iv i] []))
    refine Way.by (fun _ k => XS.iloadN X0.here hx rfl (hb hby dGE_4) rfl k) ?_
    show Way _ _ _ _ (s₁.setTop (mkF m 5 #[rv px, iv i] [(.int i)]))
    refine Way.by (fun _ k => XS.aloadN X0.here hx rfl (hb hby dGE_5) rfl rfl k) ?_
    show Way _ _ _ _ (s₁.setTop (mkF m 6 #[rv px, iv i] [(.ref px), (.int i)]))
    obtain ⟨cq17, kq18, qa19, qb20, qc21⟩ := isOf hZ e0 H0.1
    obtain ⟨_, _, ⟨T1, L3, k4, n5⟩, -, X2, ⟨Lc6, hQ7, l8, y9, z10⟩, st11⟩ := X0.virtualBack hx (y := (⟨"java/lang/String", "length", "()I"⟩ : MethodName)) (z := (⟨"java/lang/String", "length", "()I"⟩ : MethodName)) hown (mvT hZ (tw hw 9 rfl)) (mvT hZ (tw hw 10 rfl)) (notFace_of_selects (args := #[]) (mvT hZ (tw hw 12 rfl))) (mvT hZ (tw hw 12 rfl)) (mvT hZ (tw hw 11 rfl)) (by decide) (own_len (W := 1) (n0 := n0) hZ hw SV O0 (cs := cs) H0 (by decide) (by decide)) qa19 qc21 (g := (mkF m 6 #[rv px, iv i] [(.ref px), (.int i)])) rfl (by rw [hml]; rfl) (Steps.refl _) (argsL := []) (rest := [(.int i)]) (lenOf own_pdLen rfl) rfl (leW rfl) (hb hby dGE_6) (fun _ _ => ⟨rfl, e0, (leB rfl), (leB rfl)⟩)
    dsimp only [Pt.U, Pt.locs, Pt.cells, Pt.slots] at X2 l8 y9 z10 st11 hQ7
    subst y9 z10
    obtain ⟨rfl, N22, e13⟩ := hQ7
    have N12 : Fr n0 L3 := by rw [l8]; exact Fr.app N0 N22
    refine Way.to st11 ?_
    show Way _ _ _ _ (T1.setTop (mkF m 9 #[rv px, iv i] [(.int (Int32.ofNat cs.length)), (.int i)]))
    by_cases hq9 : i < (Int32.ofNat cs.length)
    · skip
      have hj2 : i = Int32.ofNat i.toNatClampNeg := (back32 hq1).1.symm
      have hsz : cs.length < 2147483648 := Nat.lt_of_le_of_lt H0.2.2.2.2.2 (by decide)
      have hi2 : i.toNatClampNeg < cs.length := (own_ofNat_lt hsz (by have := (back32 hq1).2; omega)).mp (by rw [← hj2]; exact hq9)
      refine Way.by (fun _ k => XS.icmpNo X2.here hx rfl (hb hby dGE_9) rfl (tlt hq9).2.1 k) ?_
      show Way _ _ _ _ (T1.setTop (mkF m 12 #[rv px, iv i] []))
      refine Way.by (fun _ k => XS.aloadN X2.here hx rfl (hb hby dGE_12) rfl rfl k) ?_
      show Way _ _ _ _ (T1.setTop (mkF m 13 #[rv px, iv i] [(.ref px)]))
      refine Way.by (fun _ k => XS.iloadN X2.here hx rfl (hb hby dGE_13) rfl k) ?_
      show Way _ _ _ _ (T1.setTop (mkF m 14 #[rv px, iv i] [(.int i), (.ref px)]))
      obtain ⟨cq40, kq41, qa42, qb43, qc44⟩ := isOf hZ e13 H0.1
      obtain ⟨_, _, ⟨T24, L26, k27, n28⟩, -, X25, ⟨Lc29, hQ30, l31, y32, z33⟩, st34⟩ := X2.virtualBack hx (y := (⟨"java/lang/String", "charAt", "(I)C"⟩ : MethodName)) (z := (⟨"java/lang/String", "charAt", "(I)C"⟩ : MethodName)) hown (mvT hZ (tw hw 30 rfl)) (mvT hZ (tw hw 31 rfl)) (notFace_of_selects (args := #[]) (mvT hZ (tw hw 33 rfl))) (mvT hZ (tw hw 33 rfl)) (mvT hZ (tw hw 32 rfl)) (by decide) (own_chr (W := 0) (n0 := n0) hZ hw SV O0 (cs := cs) (i := i.toNatClampNeg) H0 hi2 hj2 (by decide) (by decide)) qa42 qc44 (g := (mkF m 14 #[rv px, iv i] [(.int i), (.ref px)])) rfl (by rw [hml]; rfl) (Steps.refl _) (argsL := [(.int i)]) (rest := []) (lenOf own_pdChr rfl) rfl (leW rfl) (hb hby dGE_14) (fun _ _ => ⟨rfl, e13, (leB rfl), (leB rfl)⟩)
      dsimp only [Pt.U, Pt.locs, Pt.cells, Pt.slots] at X25 l31 y32 z33 st34 hQ30
      subst y32 z33
      obtain ⟨rfl, N45, e36⟩ := hQ30
      have N35 : Fr n0 L26 := by rw [l31]; exact Fr.app N12 N45
      refine Way.to st34 ?_
      show Way _ _ _ _ (T24.setTop (mkF m 17 #[rv px, iv i] [(.int (cs.getD i.toNatClampNeg 0))]))
      try clear X2 N12 e13 st34 cq40 kq41 qa42 qb43 qc44 N45
      try clear T1
      refine Way.by (fun _ k => XS.goto X25.here hx rfl (pc0 := 17) (pc' := 21) rfl (hb hby dGE_17) (by decide) (by decide) k) ?_
      show Way _ _ _ _ (T24.setTop (mkF m 21 #[rv px, iv i] [(.int (cs.getD i.toNatClampNeg 0))]))
      refine Way.ret (v := (some (.int (nar .char (cs.getD i.toNatClampNeg 0))))) X25 hlk (fun h => by rw [Bd.returns] at h; cases h) (fun fs hr => retN X25 hx (t := .char) Bd.returns (by simp) (hb hby dGE_21) hr) ?_ (by decide) (by decide)
      show QGE Z px pt cs i h0 n0 _ T24.heap _
      rw [e36]
      have hbv : own_b (cs.getD i.toNatClampNeg 0) := H0.2.2.2.2.1 _ (own_mem_getD hi2)
      exact ⟨(cs.getD i.toNatClampNeg 0), by rw [hbv.nar], N35, rfl, hbv⟩
    · skip
      refine Way.by (fun _ k => XS.icmpYes X2.here hx rfl (pc0 := 9) (pc' := 20) rfl (hb hby dGE_9) rfl (flt hq9).2.1 (by decide) (by decide) k) ?_
      show Way _ _ _ _ (T1.setTop (mkF m 20 #[rv px, iv i] []))
      refine Way.by (fun _ k => XS.iconst X2.here hx rfl (hb hby dGE_20) k) ?_
      show Way _ _ _ _ (T1.setTop (mkF m 21 #[rv px, iv i] [(.int 0)]))
      refine Way.ret (v := (some (.int (nar .char (0 : Int32))))) X2 hlk (fun h => by rw [Bd.returns] at h; cases h) (fun fs hr => retN X2 hx (t := .char) Bd.returns (by simp) (hb hby dGE_21) hr) ?_ (by decide) (by decide)
      show QGE Z px pt cs i h0 n0 _ T1.heap _
      rw [e13]
      exact ⟨(0 : Int32), rfl, N12, rfl, (by unfold own_b; decide)⟩
def QAT (Z : State) (px : Addr) (pt : Addr) (cs : List Int32) (o : Int32) (q : Int32) (ch : Int32) (q2 : Int32) (c2 : Int32) (i : Int32) (h0 : Heap) (n0 : Nat) (v : Option Value) (h : Heap) (L : List Loc) : Prop := ∃ (pv : Int32), v = some (.int pv) ∧ Fr n0 L ∧ h = h0 ∧ own_b pv
theorem dAT_0 : decode method_5_code 0 = .ok (.iload_n 1, 1) := by decide +kernel
theorem dAT_1 : decode method_5_code 1 = .ok (.iconst 1, 1) := by decide +kernel
theorem dAT_2 : decode method_5_code 2 = .ok (.if_icmp .ne 20, 3) := by decide +kernel
theorem dAT_5 : decode method_5_code 5 = .ok (.iload 6, 2) := by decide +kernel
theorem dAT_7 : decode method_5_code 7 = .ok (.iload_n 2, 1) := by decide +kernel
theorem dAT_8 : decode method_5_code 8 = .ok (.if_icmp .ne 7, 3) := by decide +kernel
theorem dAT_11 : decode method_5_code 11 = .ok (.iload_n 3, 1) := by decide +kernel
theorem dAT_12 : decode method_5_code 12 = .ok (.goto 9, 3) := by decide +kernel
theorem dAT_15 : decode method_5_code 15 = .ok (.aload_n 0, 1) := by decide +kernel
theorem dAT_16 : decode method_5_code 16 = .ok (.iload 6, 2) := by decide +kernel
theorem dAT_18 : decode method_5_code 18 = .ok (.invokestatic 60, 3) := by decide +kernel
theorem dAT_21 : decode method_5_code 21 = .ok (.ireturn, 1) := by decide +kernel
theorem dAT_22 : decode method_5_code 22 = .ok (.iload_n 1, 1) := by decide +kernel
theorem dAT_23 : decode method_5_code 23 = .ok (.iconst 2, 1) := by decide +kernel
theorem dAT_24 : decode method_5_code 24 = .ok (.if_icmp .ne 27, 3) := by decide +kernel
theorem dAT_27 : decode method_5_code 27 = .ok (.iload 6, 2) := by decide +kernel
theorem dAT_29 : decode method_5_code 29 = .ok (.iload_n 2, 1) := by decide +kernel
theorem dAT_30 : decode method_5_code 30 = .ok (.if_icmp .ge 12, 3) := by decide +kernel
theorem dAT_33 : decode method_5_code 33 = .ok (.aload_n 0, 1) := by decide +kernel
theorem dAT_34 : decode method_5_code 34 = .ok (.iload 6, 2) := by decide +kernel
theorem dAT_36 : decode method_5_code 36 = .ok (.invokestatic 60, 3) := by decide +kernel
theorem dAT_39 : decode method_5_code 39 = .ok (.goto 11, 3) := by decide +kernel
theorem dAT_42 : decode method_5_code 42 = .ok (.aload_n 0, 1) := by decide +kernel
theorem dAT_43 : decode method_5_code 43 = .ok (.iload 6, 2) := by decide +kernel
theorem dAT_45 : decode method_5_code 45 = .ok (.iconst 1, 1) := by decide +kernel
theorem dAT_46 : decode method_5_code 46 = .ok (.iadd, 1) := by decide +kernel
theorem dAT_47 : decode method_5_code 47 = .ok (.invokestatic 60, 3) := by decide +kernel
theorem dAT_50 : decode method_5_code 50 = .ok (.ireturn, 1) := by decide +kernel
theorem dAT_51 : decode method_5_code 51 = .ok (.iload_n 1, 1) := by decide +kernel
theorem dAT_52 : decode method_5_code 52 = .ok (.iconst 3, 1) := by decide +kernel
theorem dAT_53 : decode method_5_code 53 = .ok (.if_icmp .ne 37, 3) := by decide +kernel
theorem dAT_56 : decode method_5_code 56 = .ok (.iload 6, 2) := by decide +kernel
theorem dAT_58 : decode method_5_code 58 = .ok (.iload_n 2, 1) := by decide +kernel
theorem dAT_59 : decode method_5_code 59 = .ok (.if_icmp .ge 12, 3) := by decide +kernel
theorem dAT_62 : decode method_5_code 62 = .ok (.aload_n 0, 1) := by decide +kernel
theorem dAT_63 : decode method_5_code 63 = .ok (.iload 6, 2) := by decide +kernel
theorem dAT_65 : decode method_5_code 65 = .ok (.invokestatic 60, 3) := by decide +kernel
theorem dAT_68 : decode method_5_code 68 = .ok (.goto 21, 3) := by decide +kernel
theorem dAT_71 : decode method_5_code 71 = .ok (.iload 6, 2) := by decide +kernel
theorem dAT_73 : decode method_5_code 73 = .ok (.iload_n 2, 1) := by decide +kernel
theorem dAT_74 : decode method_5_code 74 = .ok (.if_icmp .ne 7, 3) := by decide +kernel
theorem dAT_77 : decode method_5_code 77 = .ok (.iload_n 3, 1) := by decide +kernel
theorem dAT_78 : decode method_5_code 78 = .ok (.goto 11, 3) := by decide +kernel
theorem dAT_81 : decode method_5_code 81 = .ok (.aload_n 0, 1) := by decide +kernel
theorem dAT_82 : decode method_5_code 82 = .ok (.iload 6, 2) := by decide +kernel
theorem dAT_84 : decode method_5_code 84 = .ok (.iconst 1, 1) := by decide +kernel
theorem dAT_85 : decode method_5_code 85 = .ok (.isub, 1) := by decide +kernel
theorem dAT_86 : decode method_5_code 86 = .ok (.invokestatic 60, 3) := by decide +kernel
theorem dAT_89 : decode method_5_code 89 = .ok (.ireturn, 1) := by decide +kernel
theorem dAT_90 : decode method_5_code 90 = .ok (.iload_n 1, 1) := by decide +kernel
theorem dAT_91 : decode method_5_code 91 = .ok (.bipush 6, 2) := by decide +kernel
theorem dAT_93 : decode method_5_code 93 = .ok (.if_icmp .ne 32, 3) := by decide +kernel
theorem dAT_96 : decode method_5_code 96 = .ok (.iload 6, 2) := by decide +kernel
theorem dAT_98 : decode method_5_code 98 = .ok (.iload 4, 2) := by decide +kernel
theorem dAT_100 : decode method_5_code 100 = .ok (.if_icmp .ne 8, 3) := by decide +kernel
theorem dAT_103 : decode method_5_code 103 = .ok (.iload 5, 2) := by decide +kernel
theorem dAT_105 : decode method_5_code 105 = .ok (.goto 19, 3) := by decide +kernel
theorem dAT_108 : decode method_5_code 108 = .ok (.iload 6, 2) := by decide +kernel
theorem dAT_110 : decode method_5_code 110 = .ok (.iload_n 2, 1) := by decide +kernel
theorem dAT_111 : decode method_5_code 111 = .ok (.if_icmp .ne 7, 3) := by decide +kernel
theorem dAT_114 : decode method_5_code 114 = .ok (.iload_n 3, 1) := by decide +kernel
theorem dAT_115 : decode method_5_code 115 = .ok (.goto 9, 3) := by decide +kernel
theorem dAT_118 : decode method_5_code 118 = .ok (.aload_n 0, 1) := by decide +kernel
theorem dAT_119 : decode method_5_code 119 = .ok (.iload 6, 2) := by decide +kernel
theorem dAT_121 : decode method_5_code 121 = .ok (.invokestatic 60, 3) := by decide +kernel
theorem dAT_124 : decode method_5_code 124 = .ok (.ireturn, 1) := by decide +kernel
theorem dAT_125 : decode method_5_code 125 = .ok (.aload_n 0, 1) := by decide +kernel
theorem dAT_126 : decode method_5_code 126 = .ok (.iload 6, 2) := by decide +kernel
theorem dAT_128 : decode method_5_code 128 = .ok (.invokestatic 60, 3) := by decide +kernel
theorem dAT_131 : decode method_5_code 131 = .ok (.ireturn, 1) := by decide +kernel
theorem pdAT : parseMethodDescriptor "(Ljava/lang/String;IICICI)C" = some ⟨[(.object "java/lang/String"), .int, .int, .char, .int, .char, .int], some .char⟩ := by decide +kernel
theorem rmAT (l : Launch) (Z : State) (a0 : Array Value) (hw : ∀ d ∈ tables_1, d.before a0 Z = true) (ws : List Jvm.Cond) (px : Addr) (pt : Addr) (cs : List Int32) (o : Int32) (q : Int32) (ch : Int32) (q2 : Int32) (c2 : Int32) (i : Int32) (h0 : Heap) (n0 : Nat) (Z0 : n0 ≤ h0.size) (H0 : own_Str Z h0 px pt cs) (hch : own_b ch) (hc2 : own_b c2) (O0 : Old Z n0 h0) (SV : own_Env Z) :
    MetFree l (⟨"com/example/unbound_principals/unboundprincipals/AuthorizableKindOfNodeTypePinLaw", "at", "(Ljava/lang/String;IICICI)C"⟩ : MethodName) (head1 (Jvm.Cond.code (⟨"com/example/unbound_principals/unboundprincipals/AuthorizableKindOfNodeTypePinLaw", "at", "(Ljava/lang/String;IICICI)C"⟩ : MethodName) method_5_code 7 (some .char) :: ws) ({ frames := 5, cells := 0, slots := 0, locals := 67 } : Room)) (fun aa U => aa = #[(.ref px), (.int o), (.int q), (.int ch), (.int q2), (.int c2), (.int i)] ∧ Z.Warmed39 U.vm ∧ U.heap = h0) (fun _ _ _ _ _ => True) (fun _ U oo U' => ∃ v L, oo = .returned v ∧ QAT Z px pt cs o q ch q2 c2 i h0 n0 v U'.heap L ∧ FrameEnd U oo U' L ({ frames := 5, cells := 0, slots := 0, locals := 67 } : Room).cells ({ frames := 5, cells := 0, slots := 0, locals := 67 } : Room).slots) := by
  refine MetFree.of_bodySF (plainFor_of_name pnGE) hisR ?_
  intro p e s m args below meth c s₁ Bd hml0 hP hK
  obtain ⟨rfl, hZ, hh⟩ := hP
  have hx := Bd.exec
  have hby := Bd.bytes
  have hlk : meth.locks = false := BodyLoose.notSynchronized Bd
  have hml : c.maxLocals = 7 := hml0
  have hown : s.vm.findClass "com/example/unbound_principals/unboundprincipals/AuthorizableKindOfNodeTypePinLaw" = some m.cls := findClass_of_methodNamed Bd.named
  have hnm := (name_of_methodNamed Bd.named Bd.method).1
  have X0 : Stand p l e ({ frames := 5, cells := 0, slots := 0, locals := 67 } : Room) s m #[(.ref px), (.int o), (.int q), (.int ch), (.int q2), (.int c2), (.int i)] below meth c s₁ [] 0 0 := Stand.of_body Bd
  have e0 : s₁.heap = h0 := by rw [← hh, Bd.state]; rfl
  have N0 := Fr.nil n0
  have ef : entryFrame m #[(.ref px), (.int o), (.int q), (.int ch), (.int q2), (.int c2), (.int i)] 7 = mkF m 0 #[rv px, iv o, iv q, iv ch, iv q2, iv c2, iv i] [] := by first | (simp [entryFrame, mkF, argsToLocals, Value.category, maxLocals]; done) | rfl
  show Way p.tables e below (KQ s (QAT Z px pt cs o q ch q2 c2 i h0 n0) ({ frames := 5, cells := 0, slots := 0, locals := 67 } : Room).cells ({ frames := 5, cells := 0, slots := 0, locals := 67 } : Room).slots) (s₁.setTop (entryFrame m #[(.ref px), (.int o), (.int q), (.int ch), (.int q2), (.int c2), (.int i)] 7))
  rw [ef]
  refine Way.by (fun _ k => XS.iloadN X0.here hx rfl (hb hby dAT_0) rfl k) ?_
  show Way _ _ _ _ (s₁.setTop (mkF m 1 #[rv px, iv o, iv q, iv ch, iv q2, iv c2, iv i] [(.int o)]))
  refine Way.by (fun _ k => XS.iconst X0.here hx rfl (hb hby dAT_1) k) ?_
  show Way _ _ _ _ (s₁.setTop (mkF m 2 #[rv px, iv o, iv q, iv ch, iv q2, iv c2, iv i] [(.int 1), (.int o)]))
  by_cases hq2 : o = (1 : Int32)
  · skip
    refine Way.by (fun _ k => XS.icmpNo X0.here hx rfl (hb hby dAT_2) rfl (teq hq2).2 k) ?_
    show Way _ _ _ _ (s₁.setTop (mkF m 5 #[rv px, iv o, iv q, iv ch, iv q2, iv c2, iv i] []))
    refine Way.by (fun _ k => XS.iload X0.here hx rfl (hb hby dAT_5) rfl k) ?_
    show Way _ _ _ _ (s₁.setTop (mkF m 7 #[rv px, iv o, iv q, iv ch, iv q2, iv c2, iv i] [(.int i)]))
    refine Way.by (fun _ k => XS.iloadN X0.here hx rfl (hb hby dAT_7) rfl k) ?_
    show Way _ _ _ _ (s₁.setTop (mkF m 8 #[rv px, iv o, iv q, iv ch, iv q2, iv c2, iv i] [(.int q), (.int i)]))
    by_cases hq8 : i = q
    · skip
      refine Way.by (fun _ k => XS.icmpNo X0.here hx rfl (hb hby dAT_8) rfl (teq hq8).2 k) ?_
      show Way _ _ _ _ (s₁.setTop (mkF m 11 #[rv px, iv o, iv q, iv ch, iv q2, iv c2, iv i] []))
      refine Way.by (fun _ k => XS.iloadN X0.here hx rfl (hb hby dAT_11) rfl k) ?_
      show Way _ _ _ _ (s₁.setTop (mkF m 12 #[rv px, iv o, iv q, iv ch, iv q2, iv c2, iv i] [(.int ch)]))
      refine Way.by (fun _ k => XS.goto X0.here hx rfl (pc0 := 12) (pc' := 21) rfl (hb hby dAT_12) (by decide) (by decide) k) ?_
      show Way _ _ _ _ (s₁.setTop (mkF m 21 #[rv px, iv o, iv q, iv ch, iv q2, iv c2, iv i] [(.int ch)]))
      refine Way.ret (v := (some (.int (nar .char ch)))) X0 hlk (fun h => by rw [Bd.returns] at h; cases h) (fun fs hr => retN X0 hx (t := .char) Bd.returns (by simp) (hb hby dAT_21) hr) ?_ (by decide) (by decide)
      show QAT Z px pt cs o q ch q2 c2 i h0 n0 _ s₁.heap _
      rw [e0]
      exact ⟨ch, by rw [own_b.nar hch], N0, rfl, hch⟩
    · skip
      refine Way.by (fun _ k => XS.icmpYes X0.here hx rfl (pc0 := 8) (pc' := 15) rfl (hb hby dAT_8) rfl (feq hq8).2 (by decide) (by decide) k) ?_
      show Way _ _ _ _ (s₁.setTop (mkF m 15 #[rv px, iv o, iv q, iv ch, iv q2, iv c2, iv i] []))
      refine Way.by (fun _ k => XS.aloadN X0.here hx rfl (hb hby dAT_15) rfl rfl k) ?_
      show Way _ _ _ _ (s₁.setTop (mkF m 16 #[rv px, iv o, iv q, iv ch, iv q2, iv c2, iv i] [(.ref px)]))
      refine Way.by (fun _ k => XS.iload X0.here hx rfl (hb hby dAT_16) rfl k) ?_
      show Way _ _ _ _ (s₁.setTop (mkF m 18 #[rv px, iv o, iv q, iv ch, iv q2, iv c2, iv i] [(.int i), (.ref px)]))
      obtain ⟨_, _, ⟨T1, L3, k4, n5⟩, -, X2, ⟨Lc6, hQ7, l8, y9, z10⟩, st11⟩ := Jvm.LawKit.callS X0 hx (y := (⟨"com/example/unbound_principals/unboundprincipals/AuthorizableKindOfNodeTypePinLaw", "get", "(Ljava/lang/String;I)C"⟩ : MethodName)) hown (mvT hZ (tw hw 27 rfl)) (mvT hZ (tw hw 28 rfl)) (mvT hZ (tw hw 25 rfl)) (mvT hZ (tw hw 29 rfl)) (by decide) (backOf (W := 0) (rmGE l Z a0 hw [] px pt cs i h0 n0 Z0 H0 O0 SV) hZ (tw hw 29 rfl) (tw hw 25 rfl) (by decide) (by decide)) (g := (mkF m 18 #[rv px, iv o, iv q, iv ch, iv q2, iv c2, iv i] [(.int i), (.ref px)])) rfl (by rw [hml]; rfl) (argsL := [(.ref px), (.int i)]) (rest := []) (lenOf pdGE rfl) rfl (leW rfl) (hb hby dAT_18) (fun _ _ => ⟨rfl, e0, (leB rfl), (leB rfl)⟩)
      dsimp only [Pt.U, Pt.locs, Pt.cells, Pt.slots] at X2 l8 y9 z10 st11 hQ7
      subst y9 z10
      obtain ⟨x_pv20, rfl, N17, e13, pu_OK19⟩ := hQ7
      have N12 : Fr n0 L3 := by rw [l8]; exact Fr.app N0 N17
      refine Way.by st11 ?_
      show Way _ _ _ _ (T1.setTop (mkF m 21 #[rv px, iv o, iv q, iv ch, iv q2, iv c2, iv i] [(.int x_pv20)]))
      refine Way.ret (v := (some (.int (nar .char x_pv20)))) X2 hlk (fun h => by rw [Bd.returns] at h; cases h) (fun fs hr => retN X2 hx (t := .char) Bd.returns (by simp) (hb hby dAT_21) hr) ?_ (by decide) (by decide)
      show QAT Z px pt cs o q ch q2 c2 i h0 n0 _ T1.heap _
      rw [e13]
      exact ⟨x_pv20, by rw [own_b.nar pu_OK19], N12, rfl, pu_OK19⟩
  · skip
    refine Way.by (fun _ k => XS.icmpYes X0.here hx rfl (pc0 := 2) (pc' := 22) rfl (hb hby dAT_2) rfl (feq hq2).2 (by decide) (by decide) k) ?_
    show Way _ _ _ _ (s₁.setTop (mkF m 22 #[rv px, iv o, iv q, iv ch, iv q2, iv c2, iv i] []))
    refine Way.by (fun _ k => XS.iloadN X0.here hx rfl (hb hby dAT_22) rfl k) ?_
    show Way _ _ _ _ (s₁.setTop (mkF m 23 #[rv px, iv o, iv q, iv ch, iv q2, iv c2, iv i] [(.int o)]))
    refine Way.by (fun _ k => XS.iconst X0.here hx rfl (hb hby dAT_23) k) ?_
    show Way _ _ _ _ (s₁.setTop (mkF m 24 #[rv px, iv o, iv q, iv ch, iv q2, iv c2, iv i] [(.int 2), (.int o)]))
    by_cases hq24 : o = (2 : Int32)
    · skip
      refine Way.by (fun _ k => XS.icmpNo X0.here hx rfl (hb hby dAT_24) rfl (teq hq24).2 k) ?_
      show Way _ _ _ _ (s₁.setTop (mkF m 27 #[rv px, iv o, iv q, iv ch, iv q2, iv c2, iv i] []))
      refine Way.by (fun _ k => XS.iload X0.here hx rfl (hb hby dAT_27) rfl k) ?_
      show Way _ _ _ _ (s₁.setTop (mkF m 29 #[rv px, iv o, iv q, iv ch, iv q2, iv c2, iv i] [(.int i)]))
      refine Way.by (fun _ k => XS.iloadN X0.here hx rfl (hb hby dAT_29) rfl k) ?_
      show Way _ _ _ _ (s₁.setTop (mkF m 30 #[rv px, iv o, iv q, iv ch, iv q2, iv c2, iv i] [(.int q), (.int i)]))
      by_cases hq30 : i < q
      · skip
        refine Way.by (fun _ k => XS.icmpNo X0.here hx rfl (hb hby dAT_30) rfl (tlt hq30).2.1 k) ?_
        show Way _ _ _ _ (s₁.setTop (mkF m 33 #[rv px, iv o, iv q, iv ch, iv q2, iv c2, iv i] []))
        refine Way.by (fun _ k => XS.aloadN X0.here hx rfl (hb hby dAT_33) rfl rfl k) ?_
        show Way _ _ _ _ (s₁.setTop (mkF m 34 #[rv px, iv o, iv q, iv ch, iv q2, iv c2, iv i] [(.ref px)]))
        refine Way.by (fun _ k => XS.iload X0.here hx rfl (hb hby dAT_34) rfl k) ?_
        show Way _ _ _ _ (s₁.setTop (mkF m 36 #[rv px, iv o, iv q, iv ch, iv q2, iv c2, iv i] [(.int i), (.ref px)]))
        obtain ⟨_, _, ⟨T21, L23, k24, n25⟩, -, X22, ⟨Lc26, hQ27, l28, y29, z30⟩, st31⟩ := Jvm.LawKit.callS X0 hx (y := (⟨"com/example/unbound_principals/unboundprincipals/AuthorizableKindOfNodeTypePinLaw", "get", "(Ljava/lang/String;I)C"⟩ : MethodName)) hown (mvT hZ (tw hw 27 rfl)) (mvT hZ (tw hw 28 rfl)) (mvT hZ (tw hw 25 rfl)) (mvT hZ (tw hw 29 rfl)) (by decide) (backOf (W := 0) (rmGE l Z a0 hw [] px pt cs i h0 n0 Z0 H0 O0 SV) hZ (tw hw 29 rfl) (tw hw 25 rfl) (by decide) (by decide)) (g := (mkF m 36 #[rv px, iv o, iv q, iv ch, iv q2, iv c2, iv i] [(.int i), (.ref px)])) rfl (by rw [hml]; rfl) (argsL := [(.ref px), (.int i)]) (rest := []) (lenOf pdGE rfl) rfl (leW rfl) (hb hby dAT_36) (fun _ _ => ⟨rfl, e0, (leB rfl), (leB rfl)⟩)
        dsimp only [Pt.U, Pt.locs, Pt.cells, Pt.slots] at X22 l28 y29 z30 st31 hQ27
        subst y29 z30
        obtain ⟨x_pv40, rfl, N37, e33, pu_OK39⟩ := hQ27
        have N32 : Fr n0 L23 := by rw [l28]; exact Fr.app N0 N37
        refine Way.by st31 ?_
        show Way _ _ _ _ (T21.setTop (mkF m 39 #[rv px, iv o, iv q, iv ch, iv q2, iv c2, iv i] [(.int x_pv40)]))
        refine Way.by (fun _ k => XS.goto X22.here hx rfl (pc0 := 39) (pc' := 50) rfl (hb hby dAT_39) (by decide) (by decide) k) ?_
        show Way _ _ _ _ (T21.setTop (mkF m 50 #[rv px, iv o, iv q, iv ch, iv q2, iv c2, iv i] [(.int x_pv40)]))
        refine Way.ret (v := (some (.int (nar .char x_pv40)))) X22 hlk (fun h => by rw [Bd.returns] at h; cases h) (fun fs hr => retN X22 hx (t := .char) Bd.returns (by simp) (hb hby dAT_50) hr) ?_ (by decide) (by decide)
        show QAT Z px pt cs o q ch q2 c2 i h0 n0 _ T21.heap _
        rw [e33]
        exact ⟨x_pv40, by rw [own_b.nar pu_OK39], N32, rfl, pu_OK39⟩
      · skip
        refine Way.by (fun _ k => XS.icmpYes X0.here hx rfl (pc0 := 30) (pc' := 42) rfl (hb hby dAT_30) rfl (flt hq30).2.1 (by decide) (by decide) k) ?_
        show Way _ _ _ _ (s₁.setTop (mkF m 42 #[rv px, iv o, iv q, iv ch, iv q2, iv c2, iv i] []))
        refine Way.by (fun _ k => XS.aloadN X0.here hx rfl (hb hby dAT_42) rfl rfl k) ?_
        show Way _ _ _ _ (s₁.setTop (mkF m 43 #[rv px, iv o, iv q, iv ch, iv q2, iv c2, iv i] [(.ref px)]))
        refine Way.by (fun _ k => XS.iload X0.here hx rfl (hb hby dAT_43) rfl k) ?_
        show Way _ _ _ _ (s₁.setTop (mkF m 45 #[rv px, iv o, iv q, iv ch, iv q2, iv c2, iv i] [(.int i), (.ref px)]))
        refine Way.by (fun _ k => XS.iconst X0.here hx rfl (hb hby dAT_45) k) ?_
        show Way _ _ _ _ (s₁.setTop (mkF m 46 #[rv px, iv o, iv q, iv ch, iv q2, iv c2, iv i] [(.int 1), (.int i), (.ref px)]))
        refine Way.by (fun _ k => XS.iadd X0.here hx rfl (hb hby dAT_46) rfl k) ?_
        show Way _ _ _ _ (s₁.setTop (mkF m 47 #[rv px, iv o, iv q, iv ch, iv q2, iv c2, iv i] [(.int (i + (1 : Int32))), (.ref px)]))
        obtain ⟨_, _, ⟨T41, L43, k44, n45⟩, -, X42, ⟨Lc46, hQ47, l48, y49, z50⟩, st51⟩ := Jvm.LawKit.callS X0 hx (y := (⟨"com/example/unbound_principals/unboundprincipals/AuthorizableKindOfNodeTypePinLaw", "get", "(Ljava/lang/String;I)C"⟩ : MethodName)) hown (mvT hZ (tw hw 27 rfl)) (mvT hZ (tw hw 28 rfl)) (mvT hZ (tw hw 25 rfl)) (mvT hZ (tw hw 29 rfl)) (by decide) (backOf (W := 0) (rmGE l Z a0 hw [] px pt cs (i + (1 : Int32)) h0 n0 Z0 H0 O0 SV) hZ (tw hw 29 rfl) (tw hw 25 rfl) (by decide) (by decide)) (g := (mkF m 47 #[rv px, iv o, iv q, iv ch, iv q2, iv c2, iv i] [(.int (i + (1 : Int32))), (.ref px)])) rfl (by rw [hml]; rfl) (argsL := [(.ref px), (.int (i + (1 : Int32)))]) (rest := []) (lenOf pdGE rfl) rfl (leW rfl) (hb hby dAT_47) (fun _ _ => ⟨rfl, e0, (leB rfl), (leB rfl)⟩)
        dsimp only [Pt.U, Pt.locs, Pt.cells, Pt.slots] at X42 l48 y49 z50 st51 hQ47
        subst y49 z50
        obtain ⟨x_pv60, rfl, N57, e53, pu_OK59⟩ := hQ47
        have N52 : Fr n0 L43 := by rw [l48]; exact Fr.app N0 N57
        refine Way.by st51 ?_
        show Way _ _ _ _ (T41.setTop (mkF m 50 #[rv px, iv o, iv q, iv ch, iv q2, iv c2, iv i] [(.int x_pv60)]))
        refine Way.ret (v := (some (.int (nar .char x_pv60)))) X42 hlk (fun h => by rw [Bd.returns] at h; cases h) (fun fs hr => retN X42 hx (t := .char) Bd.returns (by simp) (hb hby dAT_50) hr) ?_ (by decide) (by decide)
        show QAT Z px pt cs o q ch q2 c2 i h0 n0 _ T41.heap _
        rw [e53]
        exact ⟨x_pv60, by rw [own_b.nar pu_OK59], N52, rfl, pu_OK59⟩
    · skip
      refine Way.by (fun _ k => XS.icmpYes X0.here hx rfl (pc0 := 24) (pc' := 51) rfl (hb hby dAT_24) rfl (feq hq24).2 (by decide) (by decide) k) ?_
      show Way _ _ _ _ (s₁.setTop (mkF m 51 #[rv px, iv o, iv q, iv ch, iv q2, iv c2, iv i] []))
      refine Way.by (fun _ k => XS.iloadN X0.here hx rfl (hb hby dAT_51) rfl k) ?_
      show Way _ _ _ _ (s₁.setTop (mkF m 52 #[rv px, iv o, iv q, iv ch, iv q2, iv c2, iv i] [(.int o)]))
      refine Way.by (fun _ k => XS.iconst X0.here hx rfl (hb hby dAT_52) k) ?_
      show Way _ _ _ _ (s₁.setTop (mkF m 53 #[rv px, iv o, iv q, iv ch, iv q2, iv c2, iv i] [(.int 3), (.int o)]))
      by_cases hq53 : o = (3 : Int32)
      · skip
        refine Way.by (fun _ k => XS.icmpNo X0.here hx rfl (hb hby dAT_53) rfl (teq hq53).2 k) ?_
        show Way _ _ _ _ (s₁.setTop (mkF m 56 #[rv px, iv o, iv q, iv ch, iv q2, iv c2, iv i] []))
        refine Way.by (fun _ k => XS.iload X0.here hx rfl (hb hby dAT_56) rfl k) ?_
        show Way _ _ _ _ (s₁.setTop (mkF m 58 #[rv px, iv o, iv q, iv ch, iv q2, iv c2, iv i] [(.int i)]))
        refine Way.by (fun _ k => XS.iloadN X0.here hx rfl (hb hby dAT_58) rfl k) ?_
        show Way _ _ _ _ (s₁.setTop (mkF m 59 #[rv px, iv o, iv q, iv ch, iv q2, iv c2, iv i] [(.int q), (.int i)]))
        by_cases hq59 : i < q
        · skip
          refine Way.by (fun _ k => XS.icmpNo X0.here hx rfl (hb hby dAT_59) rfl (tlt hq59).2.1 k) ?_
          show Way _ _ _ _ (s₁.setTop (mkF m 62 #[rv px, iv o, iv q, iv ch, iv q2, iv c2, iv i] []))
          refine Way.by (fun _ k => XS.aloadN X0.here hx rfl (hb hby dAT_62) rfl rfl k) ?_
          show Way _ _ _ _ (s₁.setTop (mkF m 63 #[rv px, iv o, iv q, iv ch, iv q2, iv c2, iv i] [(.ref px)]))
          refine Way.by (fun _ k => XS.iload X0.here hx rfl (hb hby dAT_63) rfl k) ?_
          show Way _ _ _ _ (s₁.setTop (mkF m 65 #[rv px, iv o, iv q, iv ch, iv q2, iv c2, iv i] [(.int i), (.ref px)]))
          obtain ⟨_, _, ⟨T61, L63, k64, n65⟩, -, X62, ⟨Lc66, hQ67, l68, y69, z70⟩, st71⟩ := Jvm.LawKit.callS X0 hx (y := (⟨"com/example/unbound_principals/unboundprincipals/AuthorizableKindOfNodeTypePinLaw", "get", "(Ljava/lang/String;I)C"⟩ : MethodName)) hown (mvT hZ (tw hw 27 rfl)) (mvT hZ (tw hw 28 rfl)) (mvT hZ (tw hw 25 rfl)) (mvT hZ (tw hw 29 rfl)) (by decide) (backOf (W := 0) (rmGE l Z a0 hw [] px pt cs i h0 n0 Z0 H0 O0 SV) hZ (tw hw 29 rfl) (tw hw 25 rfl) (by decide) (by decide)) (g := (mkF m 65 #[rv px, iv o, iv q, iv ch, iv q2, iv c2, iv i] [(.int i), (.ref px)])) rfl (by rw [hml]; rfl) (argsL := [(.ref px), (.int i)]) (rest := []) (lenOf pdGE rfl) rfl (leW rfl) (hb hby dAT_65) (fun _ _ => ⟨rfl, e0, (leB rfl), (leB rfl)⟩)
          dsimp only [Pt.U, Pt.locs, Pt.cells, Pt.slots] at X62 l68 y69 z70 st71 hQ67
          subst y69 z70
          obtain ⟨x_pv80, rfl, N77, e73, pu_OK79⟩ := hQ67
          have N72 : Fr n0 L63 := by rw [l68]; exact Fr.app N0 N77
          refine Way.by st71 ?_
          show Way _ _ _ _ (T61.setTop (mkF m 68 #[rv px, iv o, iv q, iv ch, iv q2, iv c2, iv i] [(.int x_pv80)]))
          refine Way.by (fun _ k => XS.goto X62.here hx rfl (pc0 := 68) (pc' := 89) rfl (hb hby dAT_68) (by decide) (by decide) k) ?_
          show Way _ _ _ _ (T61.setTop (mkF m 89 #[rv px, iv o, iv q, iv ch, iv q2, iv c2, iv i] [(.int x_pv80)]))
          refine Way.ret (v := (some (.int (nar .char x_pv80)))) X62 hlk (fun h => by rw [Bd.returns] at h; cases h) (fun fs hr => retN X62 hx (t := .char) Bd.returns (by simp) (hb hby dAT_89) hr) ?_ (by decide) (by decide)
          show QAT Z px pt cs o q ch q2 c2 i h0 n0 _ T61.heap _
          rw [e73]
          exact ⟨x_pv80, by rw [own_b.nar pu_OK79], N72, rfl, pu_OK79⟩
        · skip
          refine Way.by (fun _ k => XS.icmpYes X0.here hx rfl (pc0 := 59) (pc' := 71) rfl (hb hby dAT_59) rfl (flt hq59).2.1 (by decide) (by decide) k) ?_
          show Way _ _ _ _ (s₁.setTop (mkF m 71 #[rv px, iv o, iv q, iv ch, iv q2, iv c2, iv i] []))
          refine Way.by (fun _ k => XS.iload X0.here hx rfl (hb hby dAT_71) rfl k) ?_
          show Way _ _ _ _ (s₁.setTop (mkF m 73 #[rv px, iv o, iv q, iv ch, iv q2, iv c2, iv i] [(.int i)]))
          refine Way.by (fun _ k => XS.iloadN X0.here hx rfl (hb hby dAT_73) rfl k) ?_
          show Way _ _ _ _ (s₁.setTop (mkF m 74 #[rv px, iv o, iv q, iv ch, iv q2, iv c2, iv i] [(.int q), (.int i)]))
          by_cases hq74 : i = q
          · skip
            refine Way.by (fun _ k => XS.icmpNo X0.here hx rfl (hb hby dAT_74) rfl (teq hq74).2 k) ?_
            show Way _ _ _ _ (s₁.setTop (mkF m 77 #[rv px, iv o, iv q, iv ch, iv q2, iv c2, iv i] []))
            refine Way.by (fun _ k => XS.iloadN X0.here hx rfl (hb hby dAT_77) rfl k) ?_
            show Way _ _ _ _ (s₁.setTop (mkF m 78 #[rv px, iv o, iv q, iv ch, iv q2, iv c2, iv i] [(.int ch)]))
            refine Way.by (fun _ k => XS.goto X0.here hx rfl (pc0 := 78) (pc' := 89) rfl (hb hby dAT_78) (by decide) (by decide) k) ?_
            show Way _ _ _ _ (s₁.setTop (mkF m 89 #[rv px, iv o, iv q, iv ch, iv q2, iv c2, iv i] [(.int ch)]))
            refine Way.ret (v := (some (.int (nar .char ch)))) X0 hlk (fun h => by rw [Bd.returns] at h; cases h) (fun fs hr => retN X0 hx (t := .char) Bd.returns (by simp) (hb hby dAT_89) hr) ?_ (by decide) (by decide)
            show QAT Z px pt cs o q ch q2 c2 i h0 n0 _ s₁.heap _
            rw [e0]
            exact ⟨ch, by rw [own_b.nar hch], N0, rfl, hch⟩
          · skip
            refine Way.by (fun _ k => XS.icmpYes X0.here hx rfl (pc0 := 74) (pc' := 81) rfl (hb hby dAT_74) rfl (feq hq74).2 (by decide) (by decide) k) ?_
            show Way _ _ _ _ (s₁.setTop (mkF m 81 #[rv px, iv o, iv q, iv ch, iv q2, iv c2, iv i] []))
            refine Way.by (fun _ k => XS.aloadN X0.here hx rfl (hb hby dAT_81) rfl rfl k) ?_
            show Way _ _ _ _ (s₁.setTop (mkF m 82 #[rv px, iv o, iv q, iv ch, iv q2, iv c2, iv i] [(.ref px)]))
            refine Way.by (fun _ k => XS.iload X0.here hx rfl (hb hby dAT_82) rfl k) ?_
            show Way _ _ _ _ (s₁.setTop (mkF m 84 #[rv px, iv o, iv q, iv ch, iv q2, iv c2, iv i] [(.int i), (.ref px)]))
            refine Way.by (fun _ k => XS.iconst X0.here hx rfl (hb hby dAT_84) k) ?_
            show Way _ _ _ _ (s₁.setTop (mkF m 85 #[rv px, iv o, iv q, iv ch, iv q2, iv c2, iv i] [(.int 1), (.int i), (.ref px)]))
            refine Way.by (fun _ k => XS.isub X0.here hx rfl (hb hby dAT_85) rfl k) ?_
            show Way _ _ _ _ (s₁.setTop (mkF m 86 #[rv px, iv o, iv q, iv ch, iv q2, iv c2, iv i] [(.int (i - (1 : Int32))), (.ref px)]))
            obtain ⟨_, _, ⟨T81, L83, k84, n85⟩, -, X82, ⟨Lc86, hQ87, l88, y89, z90⟩, st91⟩ := Jvm.LawKit.callS X0 hx (y := (⟨"com/example/unbound_principals/unboundprincipals/AuthorizableKindOfNodeTypePinLaw", "get", "(Ljava/lang/String;I)C"⟩ : MethodName)) hown (mvT hZ (tw hw 27 rfl)) (mvT hZ (tw hw 28 rfl)) (mvT hZ (tw hw 25 rfl)) (mvT hZ (tw hw 29 rfl)) (by decide) (backOf (W := 0) (rmGE l Z a0 hw [] px pt cs (i - (1 : Int32)) h0 n0 Z0 H0 O0 SV) hZ (tw hw 29 rfl) (tw hw 25 rfl) (by decide) (by decide)) (g := (mkF m 86 #[rv px, iv o, iv q, iv ch, iv q2, iv c2, iv i] [(.int (i - (1 : Int32))), (.ref px)])) rfl (by rw [hml]; rfl) (argsL := [(.ref px), (.int (i - (1 : Int32)))]) (rest := []) (lenOf pdGE rfl) rfl (leW rfl) (hb hby dAT_86) (fun _ _ => ⟨rfl, e0, (leB rfl), (leB rfl)⟩)
            dsimp only [Pt.U, Pt.locs, Pt.cells, Pt.slots] at X82 l88 y89 z90 st91 hQ87
            subst y89 z90
            obtain ⟨x_pv100, rfl, N97, e93, pu_OK99⟩ := hQ87
            have N92 : Fr n0 L83 := by rw [l88]; exact Fr.app N0 N97
            refine Way.by st91 ?_
            show Way _ _ _ _ (T81.setTop (mkF m 89 #[rv px, iv o, iv q, iv ch, iv q2, iv c2, iv i] [(.int x_pv100)]))
            refine Way.ret (v := (some (.int (nar .char x_pv100)))) X82 hlk (fun h => by rw [Bd.returns] at h; cases h) (fun fs hr => retN X82 hx (t := .char) Bd.returns (by simp) (hb hby dAT_89) hr) ?_ (by decide) (by decide)
            show QAT Z px pt cs o q ch q2 c2 i h0 n0 _ T81.heap _
            rw [e93]
            exact ⟨x_pv100, by rw [own_b.nar pu_OK99], N92, rfl, pu_OK99⟩
      · skip
        refine Way.by (fun _ k => XS.icmpYes X0.here hx rfl (pc0 := 53) (pc' := 90) rfl (hb hby dAT_53) rfl (feq hq53).2 (by decide) (by decide) k) ?_
        show Way _ _ _ _ (s₁.setTop (mkF m 90 #[rv px, iv o, iv q, iv ch, iv q2, iv c2, iv i] []))
        refine Way.by (fun _ k => XS.iloadN X0.here hx rfl (hb hby dAT_90) rfl k) ?_
        show Way _ _ _ _ (s₁.setTop (mkF m 91 #[rv px, iv o, iv q, iv ch, iv q2, iv c2, iv i] [(.int o)]))
        refine Way.by (fun _ k => XS.bipush X0.here hx rfl (hb hby dAT_91) k) ?_
        show Way _ _ _ _ (s₁.setTop (mkF m 93 #[rv px, iv o, iv q, iv ch, iv q2, iv c2, iv i] [(.int 6), (.int o)]))
        by_cases hq93 : o = (6 : Int32)
        · skip
          refine Way.by (fun _ k => XS.icmpNo X0.here hx rfl (hb hby dAT_93) rfl (teq hq93).2 k) ?_
          show Way _ _ _ _ (s₁.setTop (mkF m 96 #[rv px, iv o, iv q, iv ch, iv q2, iv c2, iv i] []))
          refine Way.by (fun _ k => XS.iload X0.here hx rfl (hb hby dAT_96) rfl k) ?_
          show Way _ _ _ _ (s₁.setTop (mkF m 98 #[rv px, iv o, iv q, iv ch, iv q2, iv c2, iv i] [(.int i)]))
          refine Way.by (fun _ k => XS.iload X0.here hx rfl (hb hby dAT_98) rfl k) ?_
          show Way _ _ _ _ (s₁.setTop (mkF m 100 #[rv px, iv o, iv q, iv ch, iv q2, iv c2, iv i] [(.int q2), (.int i)]))
          by_cases hq100 : i = q2
          · skip
            refine Way.by (fun _ k => XS.icmpNo X0.here hx rfl (hb hby dAT_100) rfl (teq hq100).2 k) ?_
            show Way _ _ _ _ (s₁.setTop (mkF m 103 #[rv px, iv o, iv q, iv ch, iv q2, iv c2, iv i] []))
            refine Way.by (fun _ k => XS.iload X0.here hx rfl (hb hby dAT_103) rfl k) ?_
            show Way _ _ _ _ (s₁.setTop (mkF m 105 #[rv px, iv o, iv q, iv ch, iv q2, iv c2, iv i] [(.int c2)]))
            refine Way.by (fun _ k => XS.goto X0.here hx rfl (pc0 := 105) (pc' := 124) rfl (hb hby dAT_105) (by decide) (by decide) k) ?_
            show Way _ _ _ _ (s₁.setTop (mkF m 124 #[rv px, iv o, iv q, iv ch, iv q2, iv c2, iv i] [(.int c2)]))
            refine Way.ret (v := (some (.int (nar .char c2)))) X0 hlk (fun h => by rw [Bd.returns] at h; cases h) (fun fs hr => retN X0 hx (t := .char) Bd.returns (by simp) (hb hby dAT_124) hr) ?_ (by decide) (by decide)
            show QAT Z px pt cs o q ch q2 c2 i h0 n0 _ s₁.heap _
            rw [e0]
            exact ⟨c2, by rw [own_b.nar hc2], N0, rfl, hc2⟩
          · skip
            refine Way.by (fun _ k => XS.icmpYes X0.here hx rfl (pc0 := 100) (pc' := 108) rfl (hb hby dAT_100) rfl (feq hq100).2 (by decide) (by decide) k) ?_
            show Way _ _ _ _ (s₁.setTop (mkF m 108 #[rv px, iv o, iv q, iv ch, iv q2, iv c2, iv i] []))
            refine Way.by (fun _ k => XS.iload X0.here hx rfl (hb hby dAT_108) rfl k) ?_
            show Way _ _ _ _ (s₁.setTop (mkF m 110 #[rv px, iv o, iv q, iv ch, iv q2, iv c2, iv i] [(.int i)]))
            refine Way.by (fun _ k => XS.iloadN X0.here hx rfl (hb hby dAT_110) rfl k) ?_
            show Way _ _ _ _ (s₁.setTop (mkF m 111 #[rv px, iv o, iv q, iv ch, iv q2, iv c2, iv i] [(.int q), (.int i)]))
            by_cases hq111 : i = q
            · skip
              refine Way.by (fun _ k => XS.icmpNo X0.here hx rfl (hb hby dAT_111) rfl (teq hq111).2 k) ?_
              show Way _ _ _ _ (s₁.setTop (mkF m 114 #[rv px, iv o, iv q, iv ch, iv q2, iv c2, iv i] []))
              refine Way.by (fun _ k => XS.iloadN X0.here hx rfl (hb hby dAT_114) rfl k) ?_
              show Way _ _ _ _ (s₁.setTop (mkF m 115 #[rv px, iv o, iv q, iv ch, iv q2, iv c2, iv i] [(.int ch)]))
              refine Way.by (fun _ k => XS.goto X0.here hx rfl (pc0 := 115) (pc' := 124) rfl (hb hby dAT_115) (by decide) (by decide) k) ?_
              show Way _ _ _ _ (s₁.setTop (mkF m 124 #[rv px, iv o, iv q, iv ch, iv q2, iv c2, iv i] [(.int ch)]))
              refine Way.ret (v := (some (.int (nar .char ch)))) X0 hlk (fun h => by rw [Bd.returns] at h; cases h) (fun fs hr => retN X0 hx (t := .char) Bd.returns (by simp) (hb hby dAT_124) hr) ?_ (by decide) (by decide)
              show QAT Z px pt cs o q ch q2 c2 i h0 n0 _ s₁.heap _
              rw [e0]
              exact ⟨ch, by rw [own_b.nar hch], N0, rfl, hch⟩
            · skip
              refine Way.by (fun _ k => XS.icmpYes X0.here hx rfl (pc0 := 111) (pc' := 118) rfl (hb hby dAT_111) rfl (feq hq111).2 (by decide) (by decide) k) ?_
              show Way _ _ _ _ (s₁.setTop (mkF m 118 #[rv px, iv o, iv q, iv ch, iv q2, iv c2, iv i] []))
              refine Way.by (fun _ k => XS.aloadN X0.here hx rfl (hb hby dAT_118) rfl rfl k) ?_
              show Way _ _ _ _ (s₁.setTop (mkF m 119 #[rv px, iv o, iv q, iv ch, iv q2, iv c2, iv i] [(.ref px)]))
              refine Way.by (fun _ k => XS.iload X0.here hx rfl (hb hby dAT_119) rfl k) ?_
              show Way _ _ _ _ (s₁.setTop (mkF m 121 #[rv px, iv o, iv q, iv ch, iv q2, iv c2, iv i] [(.int i), (.ref px)]))
              obtain ⟨_, _, ⟨T101, L103, k104, n105⟩, -, X102, ⟨Lc106, hQ107, l108, y109, z110⟩, st111⟩ := Jvm.LawKit.callS X0 hx (y := (⟨"com/example/unbound_principals/unboundprincipals/AuthorizableKindOfNodeTypePinLaw", "get", "(Ljava/lang/String;I)C"⟩ : MethodName)) hown (mvT hZ (tw hw 27 rfl)) (mvT hZ (tw hw 28 rfl)) (mvT hZ (tw hw 25 rfl)) (mvT hZ (tw hw 29 rfl)) (by decide) (backOf (W := 0) (rmGE l Z a0 hw [] px pt cs i h0 n0 Z0 H0 O0 SV) hZ (tw hw 29 rfl) (tw hw 25 rfl) (by decide) (by decide)) (g := (mkF m 121 #[rv px, iv o, iv q, iv ch, iv q2, iv c2, iv i] [(.int i), (.ref px)])) rfl (by rw [hml]; rfl) (argsL := [(.ref px), (.int i)]) (rest := []) (lenOf pdGE rfl) rfl (leW rfl) (hb hby dAT_121) (fun _ _ => ⟨rfl, e0, (leB rfl), (leB rfl)⟩)
              dsimp only [Pt.U, Pt.locs, Pt.cells, Pt.slots] at X102 l108 y109 z110 st111 hQ107
              subst y109 z110
              obtain ⟨x_pv120, rfl, N117, e113, pu_OK119⟩ := hQ107
              have N112 : Fr n0 L103 := by rw [l108]; exact Fr.app N0 N117
              refine Way.by st111 ?_
              show Way _ _ _ _ (T101.setTop (mkF m 124 #[rv px, iv o, iv q, iv ch, iv q2, iv c2, iv i] [(.int x_pv120)]))
              refine Way.ret (v := (some (.int (nar .char x_pv120)))) X102 hlk (fun h => by rw [Bd.returns] at h; cases h) (fun fs hr => retN X102 hx (t := .char) Bd.returns (by simp) (hb hby dAT_124) hr) ?_ (by decide) (by decide)
              show QAT Z px pt cs o q ch q2 c2 i h0 n0 _ T101.heap _
              rw [e113]
              exact ⟨x_pv120, by rw [own_b.nar pu_OK119], N112, rfl, pu_OK119⟩
        · skip
          refine Way.by (fun _ k => XS.icmpYes X0.here hx rfl (pc0 := 93) (pc' := 125) rfl (hb hby dAT_93) rfl (feq hq93).2 (by decide) (by decide) k) ?_
          show Way _ _ _ _ (s₁.setTop (mkF m 125 #[rv px, iv o, iv q, iv ch, iv q2, iv c2, iv i] []))
          refine Way.by (fun _ k => XS.aloadN X0.here hx rfl (hb hby dAT_125) rfl rfl k) ?_
          show Way _ _ _ _ (s₁.setTop (mkF m 126 #[rv px, iv o, iv q, iv ch, iv q2, iv c2, iv i] [(.ref px)]))
          refine Way.by (fun _ k => XS.iload X0.here hx rfl (hb hby dAT_126) rfl k) ?_
          show Way _ _ _ _ (s₁.setTop (mkF m 128 #[rv px, iv o, iv q, iv ch, iv q2, iv c2, iv i] [(.int i), (.ref px)]))
          obtain ⟨_, _, ⟨T121, L123, k124, n125⟩, -, X122, ⟨Lc126, hQ127, l128, y129, z130⟩, st131⟩ := Jvm.LawKit.callS X0 hx (y := (⟨"com/example/unbound_principals/unboundprincipals/AuthorizableKindOfNodeTypePinLaw", "get", "(Ljava/lang/String;I)C"⟩ : MethodName)) hown (mvT hZ (tw hw 27 rfl)) (mvT hZ (tw hw 28 rfl)) (mvT hZ (tw hw 25 rfl)) (mvT hZ (tw hw 29 rfl)) (by decide) (backOf (W := 0) (rmGE l Z a0 hw [] px pt cs i h0 n0 Z0 H0 O0 SV) hZ (tw hw 29 rfl) (tw hw 25 rfl) (by decide) (by decide)) (g := (mkF m 128 #[rv px, iv o, iv q, iv ch, iv q2, iv c2, iv i] [(.int i), (.ref px)])) rfl (by rw [hml]; rfl) (argsL := [(.ref px), (.int i)]) (rest := []) (lenOf pdGE rfl) rfl (leW rfl) (hb hby dAT_128) (fun _ _ => ⟨rfl, e0, (leB rfl), (leB rfl)⟩)
          dsimp only [Pt.U, Pt.locs, Pt.cells, Pt.slots] at X122 l128 y129 z130 st131 hQ127
          subst y129 z130
          obtain ⟨x_pv140, rfl, N137, e133, pu_OK139⟩ := hQ127
          have N132 : Fr n0 L123 := by rw [l128]; exact Fr.app N0 N137
          refine Way.by st131 ?_
          show Way _ _ _ _ (T121.setTop (mkF m 131 #[rv px, iv o, iv q, iv ch, iv q2, iv c2, iv i] [(.int x_pv140)]))
          refine Way.ret (v := (some (.int (nar .char x_pv140)))) X122 hlk (fun h => by rw [Bd.returns] at h; cases h) (fun fs hr => retN X122 hx (t := .char) Bd.returns (by simp) (hb hby dAT_131) hr) ?_ (by decide) (by decide)
          show QAT Z px pt cs o q ch q2 c2 i h0 n0 _ T121.heap _
          rw [e133]
          exact ⟨x_pv140, by rw [own_b.nar pu_OK139], N132, rfl, pu_OK139⟩
def QMK (Z : State) (pa : Addr) (ka : ClassId) (n : Int32) (x0 : Int32) (x1 : Int32) (x2 : Int32) (x3 : Int32) (x4 : Int32) (x5 : Int32) (x6 : Int32) (x7 : Int32) (x8 : Int32) (x9 : Int32) (x10 : Int32) (x11 : Int32) (x12 : Int32) (x13 : Int32) (x14 : Int32) (x15 : Int32) (h0 : Heap) (n0 : Nat) (v : Option Value) (h : Heap) (L : List Loc) : Prop := ∃ (bx : Addr) (bt : Addr) (bs : List Int32), v = some (.ref bx) ∧ Fr n0 L ∧ Keep h0 h [] ∧ h0.size ≤ bx ∧ h0.size ≤ bt ∧ own_Str Z h bx bt bs
theorem dMK_0 : decode method_6_code 0 = .ok (.iload_n 1, 1) := by decide +kernel
theorem dMK_1 : decode method_6_code 1 = .ok (.bipush 7, 2) := by decide +kernel
theorem dMK_3 : decode method_6_code 3 = .ok (.if_icmp .ne 59, 3) := by decide +kernel
theorem dMK_6 : decode method_6_code 6 = .ok (.new 15, 3) := by decide +kernel
theorem dMK_9 : decode method_6_code 9 = .ok (.dup, 1) := by decide +kernel
theorem dMK_10 : decode method_6_code 10 = .ok (.bipush 7, 2) := by decide +kernel
theorem dMK_12 : decode method_6_code 12 = .ok (.newarray .char, 2) := by decide +kernel
theorem dMK_14 : decode method_6_code 14 = .ok (.dup, 1) := by decide +kernel
theorem dMK_15 : decode method_6_code 15 = .ok (.iconst 0, 1) := by decide +kernel
theorem dMK_16 : decode method_6_code 16 = .ok (.aload_n 0, 1) := by decide +kernel
theorem dMK_17 : decode method_6_code 17 = .ok (.iconst 0, 1) := by decide +kernel
theorem dMK_18 : decode method_6_code 18 = .ok (.caload, 1) := by decide +kernel
theorem dMK_19 : decode method_6_code 19 = .ok (.castore, 1) := by decide +kernel
theorem dMK_20 : decode method_6_code 20 = .ok (.dup, 1) := by decide +kernel
theorem dMK_21 : decode method_6_code 21 = .ok (.iconst 1, 1) := by decide +kernel
theorem dMK_22 : decode method_6_code 22 = .ok (.aload_n 0, 1) := by decide +kernel
theorem dMK_23 : decode method_6_code 23 = .ok (.iconst 1, 1) := by decide +kernel
theorem dMK_24 : decode method_6_code 24 = .ok (.caload, 1) := by decide +kernel
theorem dMK_25 : decode method_6_code 25 = .ok (.castore, 1) := by decide +kernel
theorem dMK_26 : decode method_6_code 26 = .ok (.dup, 1) := by decide +kernel
theorem dMK_27 : decode method_6_code 27 = .ok (.iconst 2, 1) := by decide +kernel
theorem dMK_28 : decode method_6_code 28 = .ok (.aload_n 0, 1) := by decide +kernel
theorem dMK_29 : decode method_6_code 29 = .ok (.iconst 2, 1) := by decide +kernel
theorem dMK_30 : decode method_6_code 30 = .ok (.caload, 1) := by decide +kernel
theorem dMK_31 : decode method_6_code 31 = .ok (.castore, 1) := by decide +kernel
theorem dMK_32 : decode method_6_code 32 = .ok (.dup, 1) := by decide +kernel
theorem dMK_33 : decode method_6_code 33 = .ok (.iconst 3, 1) := by decide +kernel
theorem dMK_34 : decode method_6_code 34 = .ok (.aload_n 0, 1) := by decide +kernel
theorem dMK_35 : decode method_6_code 35 = .ok (.iconst 3, 1) := by decide +kernel
theorem dMK_36 : decode method_6_code 36 = .ok (.caload, 1) := by decide +kernel
theorem dMK_37 : decode method_6_code 37 = .ok (.castore, 1) := by decide +kernel
theorem dMK_38 : decode method_6_code 38 = .ok (.dup, 1) := by decide +kernel
theorem dMK_39 : decode method_6_code 39 = .ok (.iconst 4, 1) := by decide +kernel
theorem dMK_40 : decode method_6_code 40 = .ok (.aload_n 0, 1) := by decide +kernel
theorem dMK_41 : decode method_6_code 41 = .ok (.iconst 4, 1) := by decide +kernel
theorem dMK_42 : decode method_6_code 42 = .ok (.caload, 1) := by decide +kernel
theorem dMK_43 : decode method_6_code 43 = .ok (.castore, 1) := by decide +kernel
theorem dMK_44 : decode method_6_code 44 = .ok (.dup, 1) := by decide +kernel
theorem dMK_45 : decode method_6_code 45 = .ok (.iconst 5, 1) := by decide +kernel
theorem dMK_46 : decode method_6_code 46 = .ok (.aload_n 0, 1) := by decide +kernel
theorem dMK_47 : decode method_6_code 47 = .ok (.iconst 5, 1) := by decide +kernel
theorem dMK_48 : decode method_6_code 48 = .ok (.caload, 1) := by decide +kernel
theorem dMK_49 : decode method_6_code 49 = .ok (.castore, 1) := by decide +kernel
theorem dMK_50 : decode method_6_code 50 = .ok (.dup, 1) := by decide +kernel
theorem dMK_51 : decode method_6_code 51 = .ok (.bipush 6, 2) := by decide +kernel
theorem dMK_53 : decode method_6_code 53 = .ok (.aload_n 0, 1) := by decide +kernel
theorem dMK_54 : decode method_6_code 54 = .ok (.bipush 6, 2) := by decide +kernel
theorem dMK_56 : decode method_6_code 56 = .ok (.caload, 1) := by decide +kernel
theorem dMK_57 : decode method_6_code 57 = .ok (.castore, 1) := by decide +kernel
theorem dMK_58 : decode method_6_code 58 = .ok (.invokespecial 26, 3) := by decide +kernel
theorem dMK_61 : decode method_6_code 61 = .ok (.areturn, 1) := by decide +kernel
theorem dMK_62 : decode method_6_code 62 = .ok (.iload_n 1, 1) := by decide +kernel
theorem dMK_63 : decode method_6_code 63 = .ok (.bipush 8, 2) := by decide +kernel
theorem dMK_65 : decode method_6_code 65 = .ok (.if_icmp .ne 67, 3) := by decide +kernel
theorem dMK_68 : decode method_6_code 68 = .ok (.new 15, 3) := by decide +kernel
theorem dMK_71 : decode method_6_code 71 = .ok (.dup, 1) := by decide +kernel
theorem dMK_72 : decode method_6_code 72 = .ok (.bipush 8, 2) := by decide +kernel
theorem dMK_74 : decode method_6_code 74 = .ok (.newarray .char, 2) := by decide +kernel
theorem dMK_76 : decode method_6_code 76 = .ok (.dup, 1) := by decide +kernel
theorem dMK_77 : decode method_6_code 77 = .ok (.iconst 0, 1) := by decide +kernel
theorem dMK_78 : decode method_6_code 78 = .ok (.aload_n 0, 1) := by decide +kernel
theorem dMK_79 : decode method_6_code 79 = .ok (.iconst 0, 1) := by decide +kernel
theorem dMK_80 : decode method_6_code 80 = .ok (.caload, 1) := by decide +kernel
theorem dMK_81 : decode method_6_code 81 = .ok (.castore, 1) := by decide +kernel
theorem dMK_82 : decode method_6_code 82 = .ok (.dup, 1) := by decide +kernel
theorem dMK_83 : decode method_6_code 83 = .ok (.iconst 1, 1) := by decide +kernel
theorem dMK_84 : decode method_6_code 84 = .ok (.aload_n 0, 1) := by decide +kernel
theorem dMK_85 : decode method_6_code 85 = .ok (.iconst 1, 1) := by decide +kernel
theorem dMK_86 : decode method_6_code 86 = .ok (.caload, 1) := by decide +kernel
theorem dMK_87 : decode method_6_code 87 = .ok (.castore, 1) := by decide +kernel
theorem dMK_88 : decode method_6_code 88 = .ok (.dup, 1) := by decide +kernel
theorem dMK_89 : decode method_6_code 89 = .ok (.iconst 2, 1) := by decide +kernel
theorem dMK_90 : decode method_6_code 90 = .ok (.aload_n 0, 1) := by decide +kernel
theorem dMK_91 : decode method_6_code 91 = .ok (.iconst 2, 1) := by decide +kernel
theorem dMK_92 : decode method_6_code 92 = .ok (.caload, 1) := by decide +kernel
theorem dMK_93 : decode method_6_code 93 = .ok (.castore, 1) := by decide +kernel
theorem dMK_94 : decode method_6_code 94 = .ok (.dup, 1) := by decide +kernel
theorem dMK_95 : decode method_6_code 95 = .ok (.iconst 3, 1) := by decide +kernel
theorem dMK_96 : decode method_6_code 96 = .ok (.aload_n 0, 1) := by decide +kernel
theorem dMK_97 : decode method_6_code 97 = .ok (.iconst 3, 1) := by decide +kernel
theorem dMK_98 : decode method_6_code 98 = .ok (.caload, 1) := by decide +kernel
theorem dMK_99 : decode method_6_code 99 = .ok (.castore, 1) := by decide +kernel
theorem dMK_100 : decode method_6_code 100 = .ok (.dup, 1) := by decide +kernel
theorem dMK_101 : decode method_6_code 101 = .ok (.iconst 4, 1) := by decide +kernel
theorem dMK_102 : decode method_6_code 102 = .ok (.aload_n 0, 1) := by decide +kernel
theorem dMK_103 : decode method_6_code 103 = .ok (.iconst 4, 1) := by decide +kernel
theorem dMK_104 : decode method_6_code 104 = .ok (.caload, 1) := by decide +kernel
theorem dMK_105 : decode method_6_code 105 = .ok (.castore, 1) := by decide +kernel
theorem dMK_106 : decode method_6_code 106 = .ok (.dup, 1) := by decide +kernel
theorem dMK_107 : decode method_6_code 107 = .ok (.iconst 5, 1) := by decide +kernel
theorem dMK_108 : decode method_6_code 108 = .ok (.aload_n 0, 1) := by decide +kernel
theorem dMK_109 : decode method_6_code 109 = .ok (.iconst 5, 1) := by decide +kernel
theorem dMK_110 : decode method_6_code 110 = .ok (.caload, 1) := by decide +kernel
theorem dMK_111 : decode method_6_code 111 = .ok (.castore, 1) := by decide +kernel
theorem dMK_112 : decode method_6_code 112 = .ok (.dup, 1) := by decide +kernel
theorem dMK_113 : decode method_6_code 113 = .ok (.bipush 6, 2) := by decide +kernel
theorem dMK_115 : decode method_6_code 115 = .ok (.aload_n 0, 1) := by decide +kernel
theorem dMK_116 : decode method_6_code 116 = .ok (.bipush 6, 2) := by decide +kernel
theorem dMK_118 : decode method_6_code 118 = .ok (.caload, 1) := by decide +kernel
theorem dMK_119 : decode method_6_code 119 = .ok (.castore, 1) := by decide +kernel
theorem dMK_120 : decode method_6_code 120 = .ok (.dup, 1) := by decide +kernel
theorem dMK_121 : decode method_6_code 121 = .ok (.bipush 7, 2) := by decide +kernel
theorem dMK_123 : decode method_6_code 123 = .ok (.aload_n 0, 1) := by decide +kernel
theorem dMK_124 : decode method_6_code 124 = .ok (.bipush 7, 2) := by decide +kernel
theorem dMK_126 : decode method_6_code 126 = .ok (.caload, 1) := by decide +kernel
theorem dMK_127 : decode method_6_code 127 = .ok (.castore, 1) := by decide +kernel
theorem dMK_128 : decode method_6_code 128 = .ok (.invokespecial 26, 3) := by decide +kernel
theorem dMK_131 : decode method_6_code 131 = .ok (.areturn, 1) := by decide +kernel
theorem dMK_132 : decode method_6_code 132 = .ok (.iload_n 1, 1) := by decide +kernel
theorem dMK_133 : decode method_6_code 133 = .ok (.bipush 9, 2) := by decide +kernel
theorem dMK_135 : decode method_6_code 135 = .ok (.if_icmp .ne 75, 3) := by decide +kernel
theorem dMK_138 : decode method_6_code 138 = .ok (.new 15, 3) := by decide +kernel
theorem dMK_141 : decode method_6_code 141 = .ok (.dup, 1) := by decide +kernel
theorem dMK_142 : decode method_6_code 142 = .ok (.bipush 9, 2) := by decide +kernel
theorem dMK_144 : decode method_6_code 144 = .ok (.newarray .char, 2) := by decide +kernel
theorem dMK_146 : decode method_6_code 146 = .ok (.dup, 1) := by decide +kernel
theorem dMK_147 : decode method_6_code 147 = .ok (.iconst 0, 1) := by decide +kernel
theorem dMK_148 : decode method_6_code 148 = .ok (.aload_n 0, 1) := by decide +kernel
theorem dMK_149 : decode method_6_code 149 = .ok (.iconst 0, 1) := by decide +kernel
theorem dMK_150 : decode method_6_code 150 = .ok (.caload, 1) := by decide +kernel
theorem dMK_151 : decode method_6_code 151 = .ok (.castore, 1) := by decide +kernel
theorem dMK_152 : decode method_6_code 152 = .ok (.dup, 1) := by decide +kernel
theorem dMK_153 : decode method_6_code 153 = .ok (.iconst 1, 1) := by decide +kernel
theorem dMK_154 : decode method_6_code 154 = .ok (.aload_n 0, 1) := by decide +kernel
theorem dMK_155 : decode method_6_code 155 = .ok (.iconst 1, 1) := by decide +kernel
theorem dMK_156 : decode method_6_code 156 = .ok (.caload, 1) := by decide +kernel
theorem dMK_157 : decode method_6_code 157 = .ok (.castore, 1) := by decide +kernel
theorem dMK_158 : decode method_6_code 158 = .ok (.dup, 1) := by decide +kernel
theorem dMK_159 : decode method_6_code 159 = .ok (.iconst 2, 1) := by decide +kernel
theorem dMK_160 : decode method_6_code 160 = .ok (.aload_n 0, 1) := by decide +kernel
theorem dMK_161 : decode method_6_code 161 = .ok (.iconst 2, 1) := by decide +kernel
theorem dMK_162 : decode method_6_code 162 = .ok (.caload, 1) := by decide +kernel
theorem dMK_163 : decode method_6_code 163 = .ok (.castore, 1) := by decide +kernel
theorem dMK_164 : decode method_6_code 164 = .ok (.dup, 1) := by decide +kernel
theorem dMK_165 : decode method_6_code 165 = .ok (.iconst 3, 1) := by decide +kernel
theorem dMK_166 : decode method_6_code 166 = .ok (.aload_n 0, 1) := by decide +kernel
theorem dMK_167 : decode method_6_code 167 = .ok (.iconst 3, 1) := by decide +kernel
theorem dMK_168 : decode method_6_code 168 = .ok (.caload, 1) := by decide +kernel
theorem dMK_169 : decode method_6_code 169 = .ok (.castore, 1) := by decide +kernel
theorem dMK_170 : decode method_6_code 170 = .ok (.dup, 1) := by decide +kernel
theorem dMK_171 : decode method_6_code 171 = .ok (.iconst 4, 1) := by decide +kernel
theorem dMK_172 : decode method_6_code 172 = .ok (.aload_n 0, 1) := by decide +kernel
theorem dMK_173 : decode method_6_code 173 = .ok (.iconst 4, 1) := by decide +kernel
theorem dMK_174 : decode method_6_code 174 = .ok (.caload, 1) := by decide +kernel
theorem dMK_175 : decode method_6_code 175 = .ok (.castore, 1) := by decide +kernel
theorem dMK_176 : decode method_6_code 176 = .ok (.dup, 1) := by decide +kernel
theorem dMK_177 : decode method_6_code 177 = .ok (.iconst 5, 1) := by decide +kernel
theorem dMK_178 : decode method_6_code 178 = .ok (.aload_n 0, 1) := by decide +kernel
theorem dMK_179 : decode method_6_code 179 = .ok (.iconst 5, 1) := by decide +kernel
theorem dMK_180 : decode method_6_code 180 = .ok (.caload, 1) := by decide +kernel
theorem dMK_181 : decode method_6_code 181 = .ok (.castore, 1) := by decide +kernel
theorem dMK_182 : decode method_6_code 182 = .ok (.dup, 1) := by decide +kernel
theorem dMK_183 : decode method_6_code 183 = .ok (.bipush 6, 2) := by decide +kernel
theorem dMK_185 : decode method_6_code 185 = .ok (.aload_n 0, 1) := by decide +kernel
theorem dMK_186 : decode method_6_code 186 = .ok (.bipush 6, 2) := by decide +kernel
theorem dMK_188 : decode method_6_code 188 = .ok (.caload, 1) := by decide +kernel
theorem dMK_189 : decode method_6_code 189 = .ok (.castore, 1) := by decide +kernel
theorem dMK_190 : decode method_6_code 190 = .ok (.dup, 1) := by decide +kernel
theorem dMK_191 : decode method_6_code 191 = .ok (.bipush 7, 2) := by decide +kernel
theorem dMK_193 : decode method_6_code 193 = .ok (.aload_n 0, 1) := by decide +kernel
theorem dMK_194 : decode method_6_code 194 = .ok (.bipush 7, 2) := by decide +kernel
theorem dMK_196 : decode method_6_code 196 = .ok (.caload, 1) := by decide +kernel
theorem dMK_197 : decode method_6_code 197 = .ok (.castore, 1) := by decide +kernel
theorem dMK_198 : decode method_6_code 198 = .ok (.dup, 1) := by decide +kernel
theorem dMK_199 : decode method_6_code 199 = .ok (.bipush 8, 2) := by decide +kernel
theorem dMK_201 : decode method_6_code 201 = .ok (.aload_n 0, 1) := by decide +kernel
theorem dMK_202 : decode method_6_code 202 = .ok (.bipush 8, 2) := by decide +kernel
theorem dMK_204 : decode method_6_code 204 = .ok (.caload, 1) := by decide +kernel
theorem dMK_205 : decode method_6_code 205 = .ok (.castore, 1) := by decide +kernel
theorem dMK_206 : decode method_6_code 206 = .ok (.invokespecial 26, 3) := by decide +kernel
theorem dMK_209 : decode method_6_code 209 = .ok (.areturn, 1) := by decide +kernel
theorem dMK_210 : decode method_6_code 210 = .ok (.iload_n 1, 1) := by decide +kernel
theorem dMK_211 : decode method_6_code 211 = .ok (.bipush 10, 2) := by decide +kernel
theorem dMK_213 : decode method_6_code 213 = .ok (.if_icmp .ne 83, 3) := by decide +kernel
theorem dMK_216 : decode method_6_code 216 = .ok (.new 15, 3) := by decide +kernel
theorem dMK_219 : decode method_6_code 219 = .ok (.dup, 1) := by decide +kernel
theorem dMK_220 : decode method_6_code 220 = .ok (.bipush 10, 2) := by decide +kernel
theorem dMK_222 : decode method_6_code 222 = .ok (.newarray .char, 2) := by decide +kernel
theorem dMK_224 : decode method_6_code 224 = .ok (.dup, 1) := by decide +kernel
theorem dMK_225 : decode method_6_code 225 = .ok (.iconst 0, 1) := by decide +kernel
theorem dMK_226 : decode method_6_code 226 = .ok (.aload_n 0, 1) := by decide +kernel
theorem dMK_227 : decode method_6_code 227 = .ok (.iconst 0, 1) := by decide +kernel
theorem dMK_228 : decode method_6_code 228 = .ok (.caload, 1) := by decide +kernel
theorem dMK_229 : decode method_6_code 229 = .ok (.castore, 1) := by decide +kernel
theorem dMK_230 : decode method_6_code 230 = .ok (.dup, 1) := by decide +kernel
theorem dMK_231 : decode method_6_code 231 = .ok (.iconst 1, 1) := by decide +kernel
theorem dMK_232 : decode method_6_code 232 = .ok (.aload_n 0, 1) := by decide +kernel
theorem dMK_233 : decode method_6_code 233 = .ok (.iconst 1, 1) := by decide +kernel
theorem dMK_234 : decode method_6_code 234 = .ok (.caload, 1) := by decide +kernel
theorem dMK_235 : decode method_6_code 235 = .ok (.castore, 1) := by decide +kernel
theorem dMK_236 : decode method_6_code 236 = .ok (.dup, 1) := by decide +kernel
theorem dMK_237 : decode method_6_code 237 = .ok (.iconst 2, 1) := by decide +kernel
theorem dMK_238 : decode method_6_code 238 = .ok (.aload_n 0, 1) := by decide +kernel
theorem dMK_239 : decode method_6_code 239 = .ok (.iconst 2, 1) := by decide +kernel
theorem dMK_240 : decode method_6_code 240 = .ok (.caload, 1) := by decide +kernel
theorem dMK_241 : decode method_6_code 241 = .ok (.castore, 1) := by decide +kernel
theorem dMK_242 : decode method_6_code 242 = .ok (.dup, 1) := by decide +kernel
theorem dMK_243 : decode method_6_code 243 = .ok (.iconst 3, 1) := by decide +kernel
theorem dMK_244 : decode method_6_code 244 = .ok (.aload_n 0, 1) := by decide +kernel
theorem dMK_245 : decode method_6_code 245 = .ok (.iconst 3, 1) := by decide +kernel
theorem dMK_246 : decode method_6_code 246 = .ok (.caload, 1) := by decide +kernel
theorem dMK_247 : decode method_6_code 247 = .ok (.castore, 1) := by decide +kernel
theorem dMK_248 : decode method_6_code 248 = .ok (.dup, 1) := by decide +kernel
theorem dMK_249 : decode method_6_code 249 = .ok (.iconst 4, 1) := by decide +kernel
theorem dMK_250 : decode method_6_code 250 = .ok (.aload_n 0, 1) := by decide +kernel
theorem dMK_251 : decode method_6_code 251 = .ok (.iconst 4, 1) := by decide +kernel
theorem dMK_252 : decode method_6_code 252 = .ok (.caload, 1) := by decide +kernel
theorem dMK_253 : decode method_6_code 253 = .ok (.castore, 1) := by decide +kernel
theorem dMK_254 : decode method_6_code 254 = .ok (.dup, 1) := by decide +kernel
theorem dMK_255 : decode method_6_code 255 = .ok (.iconst 5, 1) := by decide +kernel
theorem dMK_256 : decode method_6_code 256 = .ok (.aload_n 0, 1) := by decide +kernel
theorem dMK_257 : decode method_6_code 257 = .ok (.iconst 5, 1) := by decide +kernel
theorem dMK_258 : decode method_6_code 258 = .ok (.caload, 1) := by decide +kernel
theorem dMK_259 : decode method_6_code 259 = .ok (.castore, 1) := by decide +kernel
theorem dMK_260 : decode method_6_code 260 = .ok (.dup, 1) := by decide +kernel
theorem dMK_261 : decode method_6_code 261 = .ok (.bipush 6, 2) := by decide +kernel
theorem dMK_263 : decode method_6_code 263 = .ok (.aload_n 0, 1) := by decide +kernel
theorem dMK_264 : decode method_6_code 264 = .ok (.bipush 6, 2) := by decide +kernel
theorem dMK_266 : decode method_6_code 266 = .ok (.caload, 1) := by decide +kernel
theorem dMK_267 : decode method_6_code 267 = .ok (.castore, 1) := by decide +kernel
theorem dMK_268 : decode method_6_code 268 = .ok (.dup, 1) := by decide +kernel
theorem dMK_269 : decode method_6_code 269 = .ok (.bipush 7, 2) := by decide +kernel
theorem dMK_271 : decode method_6_code 271 = .ok (.aload_n 0, 1) := by decide +kernel
theorem dMK_272 : decode method_6_code 272 = .ok (.bipush 7, 2) := by decide +kernel
theorem dMK_274 : decode method_6_code 274 = .ok (.caload, 1) := by decide +kernel
theorem dMK_275 : decode method_6_code 275 = .ok (.castore, 1) := by decide +kernel
theorem dMK_276 : decode method_6_code 276 = .ok (.dup, 1) := by decide +kernel
theorem dMK_277 : decode method_6_code 277 = .ok (.bipush 8, 2) := by decide +kernel
theorem dMK_279 : decode method_6_code 279 = .ok (.aload_n 0, 1) := by decide +kernel
theorem dMK_280 : decode method_6_code 280 = .ok (.bipush 8, 2) := by decide +kernel
theorem dMK_282 : decode method_6_code 282 = .ok (.caload, 1) := by decide +kernel
theorem dMK_283 : decode method_6_code 283 = .ok (.castore, 1) := by decide +kernel
theorem dMK_284 : decode method_6_code 284 = .ok (.dup, 1) := by decide +kernel
theorem dMK_285 : decode method_6_code 285 = .ok (.bipush 9, 2) := by decide +kernel
theorem dMK_287 : decode method_6_code 287 = .ok (.aload_n 0, 1) := by decide +kernel
theorem dMK_288 : decode method_6_code 288 = .ok (.bipush 9, 2) := by decide +kernel
theorem dMK_290 : decode method_6_code 290 = .ok (.caload, 1) := by decide +kernel
theorem dMK_291 : decode method_6_code 291 = .ok (.castore, 1) := by decide +kernel
theorem dMK_292 : decode method_6_code 292 = .ok (.invokespecial 26, 3) := by decide +kernel
theorem dMK_295 : decode method_6_code 295 = .ok (.areturn, 1) := by decide +kernel
theorem dMK_296 : decode method_6_code 296 = .ok (.iload_n 1, 1) := by decide +kernel
theorem dMK_297 : decode method_6_code 297 = .ok (.bipush 13, 2) := by decide +kernel
theorem dMK_299 : decode method_6_code 299 = .ok (.if_icmp .ne 107, 3) := by decide +kernel
theorem dMK_302 : decode method_6_code 302 = .ok (.new 15, 3) := by decide +kernel
theorem dMK_305 : decode method_6_code 305 = .ok (.dup, 1) := by decide +kernel
theorem dMK_306 : decode method_6_code 306 = .ok (.bipush 13, 2) := by decide +kernel
theorem dMK_308 : decode method_6_code 308 = .ok (.newarray .char, 2) := by decide +kernel
theorem dMK_310 : decode method_6_code 310 = .ok (.dup, 1) := by decide +kernel
theorem dMK_311 : decode method_6_code 311 = .ok (.iconst 0, 1) := by decide +kernel
theorem dMK_312 : decode method_6_code 312 = .ok (.aload_n 0, 1) := by decide +kernel
theorem dMK_313 : decode method_6_code 313 = .ok (.iconst 0, 1) := by decide +kernel
theorem dMK_314 : decode method_6_code 314 = .ok (.caload, 1) := by decide +kernel
theorem dMK_315 : decode method_6_code 315 = .ok (.castore, 1) := by decide +kernel
theorem dMK_316 : decode method_6_code 316 = .ok (.dup, 1) := by decide +kernel
theorem dMK_317 : decode method_6_code 317 = .ok (.iconst 1, 1) := by decide +kernel
theorem dMK_318 : decode method_6_code 318 = .ok (.aload_n 0, 1) := by decide +kernel
theorem dMK_319 : decode method_6_code 319 = .ok (.iconst 1, 1) := by decide +kernel
theorem dMK_320 : decode method_6_code 320 = .ok (.caload, 1) := by decide +kernel
theorem dMK_321 : decode method_6_code 321 = .ok (.castore, 1) := by decide +kernel
theorem dMK_322 : decode method_6_code 322 = .ok (.dup, 1) := by decide +kernel
theorem dMK_323 : decode method_6_code 323 = .ok (.iconst 2, 1) := by decide +kernel
theorem dMK_324 : decode method_6_code 324 = .ok (.aload_n 0, 1) := by decide +kernel
theorem dMK_325 : decode method_6_code 325 = .ok (.iconst 2, 1) := by decide +kernel
theorem dMK_326 : decode method_6_code 326 = .ok (.caload, 1) := by decide +kernel
theorem dMK_327 : decode method_6_code 327 = .ok (.castore, 1) := by decide +kernel
theorem dMK_328 : decode method_6_code 328 = .ok (.dup, 1) := by decide +kernel
theorem dMK_329 : decode method_6_code 329 = .ok (.iconst 3, 1) := by decide +kernel
theorem dMK_330 : decode method_6_code 330 = .ok (.aload_n 0, 1) := by decide +kernel
theorem dMK_331 : decode method_6_code 331 = .ok (.iconst 3, 1) := by decide +kernel
theorem dMK_332 : decode method_6_code 332 = .ok (.caload, 1) := by decide +kernel
theorem dMK_333 : decode method_6_code 333 = .ok (.castore, 1) := by decide +kernel
theorem dMK_334 : decode method_6_code 334 = .ok (.dup, 1) := by decide +kernel
theorem dMK_335 : decode method_6_code 335 = .ok (.iconst 4, 1) := by decide +kernel
theorem dMK_336 : decode method_6_code 336 = .ok (.aload_n 0, 1) := by decide +kernel
theorem dMK_337 : decode method_6_code 337 = .ok (.iconst 4, 1) := by decide +kernel
theorem dMK_338 : decode method_6_code 338 = .ok (.caload, 1) := by decide +kernel
theorem dMK_339 : decode method_6_code 339 = .ok (.castore, 1) := by decide +kernel
theorem dMK_340 : decode method_6_code 340 = .ok (.dup, 1) := by decide +kernel
theorem dMK_341 : decode method_6_code 341 = .ok (.iconst 5, 1) := by decide +kernel
theorem dMK_342 : decode method_6_code 342 = .ok (.aload_n 0, 1) := by decide +kernel
theorem dMK_343 : decode method_6_code 343 = .ok (.iconst 5, 1) := by decide +kernel
theorem dMK_344 : decode method_6_code 344 = .ok (.caload, 1) := by decide +kernel
theorem dMK_345 : decode method_6_code 345 = .ok (.castore, 1) := by decide +kernel
theorem dMK_346 : decode method_6_code 346 = .ok (.dup, 1) := by decide +kernel
theorem dMK_347 : decode method_6_code 347 = .ok (.bipush 6, 2) := by decide +kernel
theorem dMK_349 : decode method_6_code 349 = .ok (.aload_n 0, 1) := by decide +kernel
theorem dMK_350 : decode method_6_code 350 = .ok (.bipush 6, 2) := by decide +kernel
theorem dMK_352 : decode method_6_code 352 = .ok (.caload, 1) := by decide +kernel
theorem dMK_353 : decode method_6_code 353 = .ok (.castore, 1) := by decide +kernel
theorem dMK_354 : decode method_6_code 354 = .ok (.dup, 1) := by decide +kernel
theorem dMK_355 : decode method_6_code 355 = .ok (.bipush 7, 2) := by decide +kernel
theorem dMK_357 : decode method_6_code 357 = .ok (.aload_n 0, 1) := by decide +kernel
theorem dMK_358 : decode method_6_code 358 = .ok (.bipush 7, 2) := by decide +kernel
theorem dMK_360 : decode method_6_code 360 = .ok (.caload, 1) := by decide +kernel
theorem dMK_361 : decode method_6_code 361 = .ok (.castore, 1) := by decide +kernel
theorem dMK_362 : decode method_6_code 362 = .ok (.dup, 1) := by decide +kernel
theorem dMK_363 : decode method_6_code 363 = .ok (.bipush 8, 2) := by decide +kernel
theorem dMK_365 : decode method_6_code 365 = .ok (.aload_n 0, 1) := by decide +kernel
theorem dMK_366 : decode method_6_code 366 = .ok (.bipush 8, 2) := by decide +kernel
theorem dMK_368 : decode method_6_code 368 = .ok (.caload, 1) := by decide +kernel
theorem dMK_369 : decode method_6_code 369 = .ok (.castore, 1) := by decide +kernel
theorem dMK_370 : decode method_6_code 370 = .ok (.dup, 1) := by decide +kernel
theorem dMK_371 : decode method_6_code 371 = .ok (.bipush 9, 2) := by decide +kernel
theorem dMK_373 : decode method_6_code 373 = .ok (.aload_n 0, 1) := by decide +kernel
theorem dMK_374 : decode method_6_code 374 = .ok (.bipush 9, 2) := by decide +kernel
theorem dMK_376 : decode method_6_code 376 = .ok (.caload, 1) := by decide +kernel
theorem dMK_377 : decode method_6_code 377 = .ok (.castore, 1) := by decide +kernel
theorem dMK_378 : decode method_6_code 378 = .ok (.dup, 1) := by decide +kernel
theorem dMK_379 : decode method_6_code 379 = .ok (.bipush 10, 2) := by decide +kernel
theorem dMK_381 : decode method_6_code 381 = .ok (.aload_n 0, 1) := by decide +kernel
theorem dMK_382 : decode method_6_code 382 = .ok (.bipush 10, 2) := by decide +kernel
theorem dMK_384 : decode method_6_code 384 = .ok (.caload, 1) := by decide +kernel
theorem dMK_385 : decode method_6_code 385 = .ok (.castore, 1) := by decide +kernel
theorem dMK_386 : decode method_6_code 386 = .ok (.dup, 1) := by decide +kernel
theorem dMK_387 : decode method_6_code 387 = .ok (.bipush 11, 2) := by decide +kernel
theorem dMK_389 : decode method_6_code 389 = .ok (.aload_n 0, 1) := by decide +kernel
theorem dMK_390 : decode method_6_code 390 = .ok (.bipush 11, 2) := by decide +kernel
theorem dMK_392 : decode method_6_code 392 = .ok (.caload, 1) := by decide +kernel
theorem dMK_393 : decode method_6_code 393 = .ok (.castore, 1) := by decide +kernel
theorem dMK_394 : decode method_6_code 394 = .ok (.dup, 1) := by decide +kernel
theorem dMK_395 : decode method_6_code 395 = .ok (.bipush 12, 2) := by decide +kernel
theorem dMK_397 : decode method_6_code 397 = .ok (.aload_n 0, 1) := by decide +kernel
theorem dMK_398 : decode method_6_code 398 = .ok (.bipush 12, 2) := by decide +kernel
theorem dMK_400 : decode method_6_code 400 = .ok (.caload, 1) := by decide +kernel
theorem dMK_401 : decode method_6_code 401 = .ok (.castore, 1) := by decide +kernel
theorem dMK_402 : decode method_6_code 402 = .ok (.invokespecial 26, 3) := by decide +kernel
theorem dMK_405 : decode method_6_code 405 = .ok (.areturn, 1) := by decide +kernel
theorem dMK_406 : decode method_6_code 406 = .ok (.iload_n 1, 1) := by decide +kernel
theorem dMK_407 : decode method_6_code 407 = .ok (.bipush 14, 2) := by decide +kernel
theorem dMK_409 : decode method_6_code 409 = .ok (.if_icmp .ne 115, 3) := by decide +kernel
theorem dMK_412 : decode method_6_code 412 = .ok (.new 15, 3) := by decide +kernel
theorem dMK_415 : decode method_6_code 415 = .ok (.dup, 1) := by decide +kernel
theorem dMK_416 : decode method_6_code 416 = .ok (.bipush 14, 2) := by decide +kernel
theorem dMK_418 : decode method_6_code 418 = .ok (.newarray .char, 2) := by decide +kernel
theorem dMK_420 : decode method_6_code 420 = .ok (.dup, 1) := by decide +kernel
theorem dMK_421 : decode method_6_code 421 = .ok (.iconst 0, 1) := by decide +kernel
theorem dMK_422 : decode method_6_code 422 = .ok (.aload_n 0, 1) := by decide +kernel
theorem dMK_423 : decode method_6_code 423 = .ok (.iconst 0, 1) := by decide +kernel
theorem dMK_424 : decode method_6_code 424 = .ok (.caload, 1) := by decide +kernel
theorem dMK_425 : decode method_6_code 425 = .ok (.castore, 1) := by decide +kernel
theorem dMK_426 : decode method_6_code 426 = .ok (.dup, 1) := by decide +kernel
theorem dMK_427 : decode method_6_code 427 = .ok (.iconst 1, 1) := by decide +kernel
theorem dMK_428 : decode method_6_code 428 = .ok (.aload_n 0, 1) := by decide +kernel
theorem dMK_429 : decode method_6_code 429 = .ok (.iconst 1, 1) := by decide +kernel
theorem dMK_430 : decode method_6_code 430 = .ok (.caload, 1) := by decide +kernel
theorem dMK_431 : decode method_6_code 431 = .ok (.castore, 1) := by decide +kernel
theorem dMK_432 : decode method_6_code 432 = .ok (.dup, 1) := by decide +kernel
theorem dMK_433 : decode method_6_code 433 = .ok (.iconst 2, 1) := by decide +kernel
theorem dMK_434 : decode method_6_code 434 = .ok (.aload_n 0, 1) := by decide +kernel
theorem dMK_435 : decode method_6_code 435 = .ok (.iconst 2, 1) := by decide +kernel
theorem dMK_436 : decode method_6_code 436 = .ok (.caload, 1) := by decide +kernel
theorem dMK_437 : decode method_6_code 437 = .ok (.castore, 1) := by decide +kernel
theorem dMK_438 : decode method_6_code 438 = .ok (.dup, 1) := by decide +kernel
theorem dMK_439 : decode method_6_code 439 = .ok (.iconst 3, 1) := by decide +kernel
theorem dMK_440 : decode method_6_code 440 = .ok (.aload_n 0, 1) := by decide +kernel
theorem dMK_441 : decode method_6_code 441 = .ok (.iconst 3, 1) := by decide +kernel
theorem dMK_442 : decode method_6_code 442 = .ok (.caload, 1) := by decide +kernel
theorem dMK_443 : decode method_6_code 443 = .ok (.castore, 1) := by decide +kernel
theorem dMK_444 : decode method_6_code 444 = .ok (.dup, 1) := by decide +kernel
theorem dMK_445 : decode method_6_code 445 = .ok (.iconst 4, 1) := by decide +kernel
theorem dMK_446 : decode method_6_code 446 = .ok (.aload_n 0, 1) := by decide +kernel
theorem dMK_447 : decode method_6_code 447 = .ok (.iconst 4, 1) := by decide +kernel
theorem dMK_448 : decode method_6_code 448 = .ok (.caload, 1) := by decide +kernel
theorem dMK_449 : decode method_6_code 449 = .ok (.castore, 1) := by decide +kernel
theorem dMK_450 : decode method_6_code 450 = .ok (.dup, 1) := by decide +kernel
theorem dMK_451 : decode method_6_code 451 = .ok (.iconst 5, 1) := by decide +kernel
theorem dMK_452 : decode method_6_code 452 = .ok (.aload_n 0, 1) := by decide +kernel
theorem dMK_453 : decode method_6_code 453 = .ok (.iconst 5, 1) := by decide +kernel
theorem dMK_454 : decode method_6_code 454 = .ok (.caload, 1) := by decide +kernel
theorem dMK_455 : decode method_6_code 455 = .ok (.castore, 1) := by decide +kernel
theorem dMK_456 : decode method_6_code 456 = .ok (.dup, 1) := by decide +kernel
theorem dMK_457 : decode method_6_code 457 = .ok (.bipush 6, 2) := by decide +kernel
theorem dMK_459 : decode method_6_code 459 = .ok (.aload_n 0, 1) := by decide +kernel
theorem dMK_460 : decode method_6_code 460 = .ok (.bipush 6, 2) := by decide +kernel
theorem dMK_462 : decode method_6_code 462 = .ok (.caload, 1) := by decide +kernel
theorem dMK_463 : decode method_6_code 463 = .ok (.castore, 1) := by decide +kernel
theorem dMK_464 : decode method_6_code 464 = .ok (.dup, 1) := by decide +kernel
theorem dMK_465 : decode method_6_code 465 = .ok (.bipush 7, 2) := by decide +kernel
theorem dMK_467 : decode method_6_code 467 = .ok (.aload_n 0, 1) := by decide +kernel
theorem dMK_468 : decode method_6_code 468 = .ok (.bipush 7, 2) := by decide +kernel
theorem dMK_470 : decode method_6_code 470 = .ok (.caload, 1) := by decide +kernel
theorem dMK_471 : decode method_6_code 471 = .ok (.castore, 1) := by decide +kernel
theorem dMK_472 : decode method_6_code 472 = .ok (.dup, 1) := by decide +kernel
theorem dMK_473 : decode method_6_code 473 = .ok (.bipush 8, 2) := by decide +kernel
theorem dMK_475 : decode method_6_code 475 = .ok (.aload_n 0, 1) := by decide +kernel
theorem dMK_476 : decode method_6_code 476 = .ok (.bipush 8, 2) := by decide +kernel
theorem dMK_478 : decode method_6_code 478 = .ok (.caload, 1) := by decide +kernel
theorem dMK_479 : decode method_6_code 479 = .ok (.castore, 1) := by decide +kernel
theorem dMK_480 : decode method_6_code 480 = .ok (.dup, 1) := by decide +kernel
theorem dMK_481 : decode method_6_code 481 = .ok (.bipush 9, 2) := by decide +kernel
theorem dMK_483 : decode method_6_code 483 = .ok (.aload_n 0, 1) := by decide +kernel
theorem dMK_484 : decode method_6_code 484 = .ok (.bipush 9, 2) := by decide +kernel
theorem dMK_486 : decode method_6_code 486 = .ok (.caload, 1) := by decide +kernel
theorem dMK_487 : decode method_6_code 487 = .ok (.castore, 1) := by decide +kernel
theorem dMK_488 : decode method_6_code 488 = .ok (.dup, 1) := by decide +kernel
theorem dMK_489 : decode method_6_code 489 = .ok (.bipush 10, 2) := by decide +kernel
theorem dMK_491 : decode method_6_code 491 = .ok (.aload_n 0, 1) := by decide +kernel
theorem dMK_492 : decode method_6_code 492 = .ok (.bipush 10, 2) := by decide +kernel
theorem dMK_494 : decode method_6_code 494 = .ok (.caload, 1) := by decide +kernel
theorem dMK_495 : decode method_6_code 495 = .ok (.castore, 1) := by decide +kernel
theorem dMK_496 : decode method_6_code 496 = .ok (.dup, 1) := by decide +kernel
theorem dMK_497 : decode method_6_code 497 = .ok (.bipush 11, 2) := by decide +kernel
theorem dMK_499 : decode method_6_code 499 = .ok (.aload_n 0, 1) := by decide +kernel
theorem dMK_500 : decode method_6_code 500 = .ok (.bipush 11, 2) := by decide +kernel
theorem dMK_502 : decode method_6_code 502 = .ok (.caload, 1) := by decide +kernel
theorem dMK_503 : decode method_6_code 503 = .ok (.castore, 1) := by decide +kernel
theorem dMK_504 : decode method_6_code 504 = .ok (.dup, 1) := by decide +kernel
theorem dMK_505 : decode method_6_code 505 = .ok (.bipush 12, 2) := by decide +kernel
theorem dMK_507 : decode method_6_code 507 = .ok (.aload_n 0, 1) := by decide +kernel
theorem dMK_508 : decode method_6_code 508 = .ok (.bipush 12, 2) := by decide +kernel
theorem dMK_510 : decode method_6_code 510 = .ok (.caload, 1) := by decide +kernel
theorem dMK_511 : decode method_6_code 511 = .ok (.castore, 1) := by decide +kernel
theorem dMK_512 : decode method_6_code 512 = .ok (.dup, 1) := by decide +kernel
theorem dMK_513 : decode method_6_code 513 = .ok (.bipush 13, 2) := by decide +kernel
theorem dMK_515 : decode method_6_code 515 = .ok (.aload_n 0, 1) := by decide +kernel
theorem dMK_516 : decode method_6_code 516 = .ok (.bipush 13, 2) := by decide +kernel
theorem dMK_518 : decode method_6_code 518 = .ok (.caload, 1) := by decide +kernel
theorem dMK_519 : decode method_6_code 519 = .ok (.castore, 1) := by decide +kernel
theorem dMK_520 : decode method_6_code 520 = .ok (.invokespecial 26, 3) := by decide +kernel
theorem dMK_523 : decode method_6_code 523 = .ok (.areturn, 1) := by decide +kernel
theorem dMK_524 : decode method_6_code 524 = .ok (.iload_n 1, 1) := by decide +kernel
theorem dMK_525 : decode method_6_code 525 = .ok (.bipush 15, 2) := by decide +kernel
theorem dMK_527 : decode method_6_code 527 = .ok (.if_icmp .ne 123, 3) := by decide +kernel
theorem dMK_530 : decode method_6_code 530 = .ok (.new 15, 3) := by decide +kernel
theorem dMK_533 : decode method_6_code 533 = .ok (.dup, 1) := by decide +kernel
theorem dMK_534 : decode method_6_code 534 = .ok (.bipush 15, 2) := by decide +kernel
theorem dMK_536 : decode method_6_code 536 = .ok (.newarray .char, 2) := by decide +kernel
theorem dMK_538 : decode method_6_code 538 = .ok (.dup, 1) := by decide +kernel
theorem dMK_539 : decode method_6_code 539 = .ok (.iconst 0, 1) := by decide +kernel
theorem dMK_540 : decode method_6_code 540 = .ok (.aload_n 0, 1) := by decide +kernel
theorem dMK_541 : decode method_6_code 541 = .ok (.iconst 0, 1) := by decide +kernel
theorem dMK_542 : decode method_6_code 542 = .ok (.caload, 1) := by decide +kernel
theorem dMK_543 : decode method_6_code 543 = .ok (.castore, 1) := by decide +kernel
theorem dMK_544 : decode method_6_code 544 = .ok (.dup, 1) := by decide +kernel
theorem dMK_545 : decode method_6_code 545 = .ok (.iconst 1, 1) := by decide +kernel
theorem dMK_546 : decode method_6_code 546 = .ok (.aload_n 0, 1) := by decide +kernel
theorem dMK_547 : decode method_6_code 547 = .ok (.iconst 1, 1) := by decide +kernel
theorem dMK_548 : decode method_6_code 548 = .ok (.caload, 1) := by decide +kernel
theorem dMK_549 : decode method_6_code 549 = .ok (.castore, 1) := by decide +kernel
theorem dMK_550 : decode method_6_code 550 = .ok (.dup, 1) := by decide +kernel
theorem dMK_551 : decode method_6_code 551 = .ok (.iconst 2, 1) := by decide +kernel
theorem dMK_552 : decode method_6_code 552 = .ok (.aload_n 0, 1) := by decide +kernel
theorem dMK_553 : decode method_6_code 553 = .ok (.iconst 2, 1) := by decide +kernel
theorem dMK_554 : decode method_6_code 554 = .ok (.caload, 1) := by decide +kernel
theorem dMK_555 : decode method_6_code 555 = .ok (.castore, 1) := by decide +kernel
theorem dMK_556 : decode method_6_code 556 = .ok (.dup, 1) := by decide +kernel
theorem dMK_557 : decode method_6_code 557 = .ok (.iconst 3, 1) := by decide +kernel
theorem dMK_558 : decode method_6_code 558 = .ok (.aload_n 0, 1) := by decide +kernel
theorem dMK_559 : decode method_6_code 559 = .ok (.iconst 3, 1) := by decide +kernel
theorem dMK_560 : decode method_6_code 560 = .ok (.caload, 1) := by decide +kernel
theorem dMK_561 : decode method_6_code 561 = .ok (.castore, 1) := by decide +kernel
theorem dMK_562 : decode method_6_code 562 = .ok (.dup, 1) := by decide +kernel
theorem dMK_563 : decode method_6_code 563 = .ok (.iconst 4, 1) := by decide +kernel
theorem dMK_564 : decode method_6_code 564 = .ok (.aload_n 0, 1) := by decide +kernel
theorem dMK_565 : decode method_6_code 565 = .ok (.iconst 4, 1) := by decide +kernel
theorem dMK_566 : decode method_6_code 566 = .ok (.caload, 1) := by decide +kernel
theorem dMK_567 : decode method_6_code 567 = .ok (.castore, 1) := by decide +kernel
theorem dMK_568 : decode method_6_code 568 = .ok (.dup, 1) := by decide +kernel
theorem dMK_569 : decode method_6_code 569 = .ok (.iconst 5, 1) := by decide +kernel
theorem dMK_570 : decode method_6_code 570 = .ok (.aload_n 0, 1) := by decide +kernel
theorem dMK_571 : decode method_6_code 571 = .ok (.iconst 5, 1) := by decide +kernel
theorem dMK_572 : decode method_6_code 572 = .ok (.caload, 1) := by decide +kernel
theorem dMK_573 : decode method_6_code 573 = .ok (.castore, 1) := by decide +kernel
theorem dMK_574 : decode method_6_code 574 = .ok (.dup, 1) := by decide +kernel
theorem dMK_575 : decode method_6_code 575 = .ok (.bipush 6, 2) := by decide +kernel
theorem dMK_577 : decode method_6_code 577 = .ok (.aload_n 0, 1) := by decide +kernel
theorem dMK_578 : decode method_6_code 578 = .ok (.bipush 6, 2) := by decide +kernel
theorem dMK_580 : decode method_6_code 580 = .ok (.caload, 1) := by decide +kernel
theorem dMK_581 : decode method_6_code 581 = .ok (.castore, 1) := by decide +kernel
theorem dMK_582 : decode method_6_code 582 = .ok (.dup, 1) := by decide +kernel
theorem dMK_583 : decode method_6_code 583 = .ok (.bipush 7, 2) := by decide +kernel
theorem dMK_585 : decode method_6_code 585 = .ok (.aload_n 0, 1) := by decide +kernel
theorem dMK_586 : decode method_6_code 586 = .ok (.bipush 7, 2) := by decide +kernel
theorem dMK_588 : decode method_6_code 588 = .ok (.caload, 1) := by decide +kernel
theorem dMK_589 : decode method_6_code 589 = .ok (.castore, 1) := by decide +kernel
theorem dMK_590 : decode method_6_code 590 = .ok (.dup, 1) := by decide +kernel
theorem dMK_591 : decode method_6_code 591 = .ok (.bipush 8, 2) := by decide +kernel
theorem dMK_593 : decode method_6_code 593 = .ok (.aload_n 0, 1) := by decide +kernel
theorem dMK_594 : decode method_6_code 594 = .ok (.bipush 8, 2) := by decide +kernel
theorem dMK_596 : decode method_6_code 596 = .ok (.caload, 1) := by decide +kernel
theorem dMK_597 : decode method_6_code 597 = .ok (.castore, 1) := by decide +kernel
theorem dMK_598 : decode method_6_code 598 = .ok (.dup, 1) := by decide +kernel
theorem dMK_599 : decode method_6_code 599 = .ok (.bipush 9, 2) := by decide +kernel
theorem dMK_601 : decode method_6_code 601 = .ok (.aload_n 0, 1) := by decide +kernel
theorem dMK_602 : decode method_6_code 602 = .ok (.bipush 9, 2) := by decide +kernel
theorem dMK_604 : decode method_6_code 604 = .ok (.caload, 1) := by decide +kernel
theorem dMK_605 : decode method_6_code 605 = .ok (.castore, 1) := by decide +kernel
theorem dMK_606 : decode method_6_code 606 = .ok (.dup, 1) := by decide +kernel
theorem dMK_607 : decode method_6_code 607 = .ok (.bipush 10, 2) := by decide +kernel
theorem dMK_609 : decode method_6_code 609 = .ok (.aload_n 0, 1) := by decide +kernel
theorem dMK_610 : decode method_6_code 610 = .ok (.bipush 10, 2) := by decide +kernel
theorem dMK_612 : decode method_6_code 612 = .ok (.caload, 1) := by decide +kernel
theorem dMK_613 : decode method_6_code 613 = .ok (.castore, 1) := by decide +kernel
theorem dMK_614 : decode method_6_code 614 = .ok (.dup, 1) := by decide +kernel
theorem dMK_615 : decode method_6_code 615 = .ok (.bipush 11, 2) := by decide +kernel
theorem dMK_617 : decode method_6_code 617 = .ok (.aload_n 0, 1) := by decide +kernel
theorem dMK_618 : decode method_6_code 618 = .ok (.bipush 11, 2) := by decide +kernel
theorem dMK_620 : decode method_6_code 620 = .ok (.caload, 1) := by decide +kernel
theorem dMK_621 : decode method_6_code 621 = .ok (.castore, 1) := by decide +kernel
theorem dMK_622 : decode method_6_code 622 = .ok (.dup, 1) := by decide +kernel
theorem dMK_623 : decode method_6_code 623 = .ok (.bipush 12, 2) := by decide +kernel
theorem dMK_625 : decode method_6_code 625 = .ok (.aload_n 0, 1) := by decide +kernel
theorem dMK_626 : decode method_6_code 626 = .ok (.bipush 12, 2) := by decide +kernel
theorem dMK_628 : decode method_6_code 628 = .ok (.caload, 1) := by decide +kernel
theorem dMK_629 : decode method_6_code 629 = .ok (.castore, 1) := by decide +kernel
theorem dMK_630 : decode method_6_code 630 = .ok (.dup, 1) := by decide +kernel
theorem dMK_631 : decode method_6_code 631 = .ok (.bipush 13, 2) := by decide +kernel
theorem dMK_633 : decode method_6_code 633 = .ok (.aload_n 0, 1) := by decide +kernel
theorem dMK_634 : decode method_6_code 634 = .ok (.bipush 13, 2) := by decide +kernel
theorem dMK_636 : decode method_6_code 636 = .ok (.caload, 1) := by decide +kernel
theorem dMK_637 : decode method_6_code 637 = .ok (.castore, 1) := by decide +kernel
theorem dMK_638 : decode method_6_code 638 = .ok (.dup, 1) := by decide +kernel
theorem dMK_639 : decode method_6_code 639 = .ok (.bipush 14, 2) := by decide +kernel
theorem dMK_641 : decode method_6_code 641 = .ok (.aload_n 0, 1) := by decide +kernel
theorem dMK_642 : decode method_6_code 642 = .ok (.bipush 14, 2) := by decide +kernel
theorem dMK_644 : decode method_6_code 644 = .ok (.caload, 1) := by decide +kernel
theorem dMK_645 : decode method_6_code 645 = .ok (.castore, 1) := by decide +kernel
theorem dMK_646 : decode method_6_code 646 = .ok (.invokespecial 26, 3) := by decide +kernel
theorem dMK_649 : decode method_6_code 649 = .ok (.areturn, 1) := by decide +kernel
theorem pdMK : parseMethodDescriptor "([CI)Ljava/lang/String;" = some ⟨[(.array .char), .int], some (.object "java/lang/String")⟩ := by decide +kernel
theorem rmMK (l : Launch) (Z : State) (a0 : Array Value) (hw : ∀ d ∈ tables_1, d.before a0 Z = true) (ws : List Jvm.Cond) (pa : Addr) (ka : ClassId) (n : Int32) (x0 : Int32) (x1 : Int32) (x2 : Int32) (x3 : Int32) (x4 : Int32) (x5 : Int32) (x6 : Int32) (x7 : Int32) (x8 : Int32) (x9 : Int32) (x10 : Int32) (x11 : Int32) (x12 : Int32) (x13 : Int32) (x14 : Int32) (x15 : Int32) (h0 : Heap) (n0 : Nat) (Z0 : n0 ≤ h0.size) (H0 : Arv Z h0 pa ka .char (16 : Int32) [(.int x0), (.int x1), (.int x2), (.int x3), (.int x4), (.int x5), (.int x6), (.int x7), (.int x8), (.int x9), (.int x10), (.int x11), (.int x12), (.int x13), (.int x14), (.int x15)] (.int 0)) (hb0 : own_b x0) (hb1 : own_b x1) (hb2 : own_b x2) (hb3 : own_b x3) (hb4 : own_b x4) (hb5 : own_b x5) (hb6 : own_b x6) (hb7 : own_b x7) (hb8 : own_b x8) (hb9 : own_b x9) (hb10 : own_b x10) (hb11 : own_b x11) (hb12 : own_b x12) (hb13 : own_b x13) (hb14 : own_b x14) (hb15 : own_b x15) (hn : n = 7 ∨ n = 8 ∨ n = 9 ∨ n = 10 ∨ n = 13 ∨ n = 14 ∨ n = 15) (O0 : Old Z n0 h0) (SV : own_Env Z) :
    MetFree l (⟨"com/example/unbound_principals/unboundprincipals/AuthorizableKindOfNodeTypePinLaw", "mk", "([CI)Ljava/lang/String;"⟩ : MethodName) (head1 (Jvm.Cond.code (⟨"com/example/unbound_principals/unboundprincipals/AuthorizableKindOfNodeTypePinLaw", "mk", "([CI)Ljava/lang/String;"⟩ : MethodName) method_6_code 2 (some (.object "java/lang/String")) :: ws) ({ frames := 4, cells := 3, slots := 34, locals := 66 } : Room)) (fun aa U => aa = #[(.ref pa), (.int n)] ∧ Z.Warmed39 U.vm ∧ U.heap = h0) (fun _ _ _ _ _ => True) (fun _ U oo U' => ∃ v L, oo = .returned v ∧ QMK Z pa ka n x0 x1 x2 x3 x4 x5 x6 x7 x8 x9 x10 x11 x12 x13 x14 x15 h0 n0 v U'.heap L ∧ FrameEnd U oo U' L ({ frames := 4, cells := 3, slots := 34, locals := 66 } : Room).cells ({ frames := 4, cells := 3, slots := 34, locals := 66 } : Room).slots) := by
  refine MetFree.of_bodySF (plainFor_of_name pnGE) hisR ?_
  intro p e s m args below meth c s₁ Bd hml0 hP hK
  obtain ⟨rfl, hZ, hh⟩ := hP
  have hx := Bd.exec
  have hby := Bd.bytes
  have hlk : meth.locks = false := BodyLoose.notSynchronized Bd
  have hml : c.maxLocals = 2 := hml0
  have hown : s.vm.findClass "com/example/unbound_principals/unboundprincipals/AuthorizableKindOfNodeTypePinLaw" = some m.cls := findClass_of_methodNamed Bd.named
  have hnm := (name_of_methodNamed Bd.named Bd.method).1
  have X0 : Stand p l e ({ frames := 4, cells := 3, slots := 34, locals := 66 } : Room) s m #[(.ref pa), (.int n)] below meth c s₁ [] 0 0 := Stand.of_body Bd
  have e0 : s₁.heap = h0 := by rw [← hh, Bd.state]; rfl
  have N0 := Fr.nil n0
  have ef : entryFrame m #[(.ref pa), (.int n)] 2 = mkF m 0 #[rv pa, iv n] [] := by first | (simp [entryFrame, mkF, argsToLocals, Value.category, maxLocals]; done) | rfl
  show Way p.tables e below (KQ s (QMK Z pa ka n x0 x1 x2 x3 x4 x5 x6 x7 x8 x9 x10 x11 x12 x13 x14 x15 h0 n0) ({ frames := 4, cells := 3, slots := 34, locals := 66 } : Room).cells ({ frames := 4, cells := 3, slots := 34, locals := 66 } : Room).slots) (s₁.setTop (entryFrame m #[(.ref pa), (.int n)] 2))
  rw [ef]
  rcases hn with rfl | rfl | rfl | rfl | rfl | rfl | rfl
  · skip
    show Way _ _ _ _ (s₁.setTop (mkF m 0 #[rv pa, iv 7] []))
    refine Way.by (fun _ k => XS.iloadN X0.here hx rfl (hb hby dMK_0) rfl k) ?_
    show Way _ _ _ _ (s₁.setTop (mkF m 1 #[rv pa, iv 7] [(.int 7)]))
    refine Way.by (fun _ k => XS.bipush X0.here hx rfl (hb hby dMK_1) k) ?_
    show Way _ _ _ _ (s₁.setTop (mkF m 3 #[rv pa, iv 7] [(.int 7), (.int 7)]))
    have b1 : (7 : Int32) = (7 : Int32) := by decide
    refine Way.by (fun _ k => XS.icmpNo X0.here hx rfl (hb hby dMK_3) rfl (teq b1).2 k) ?_
    show Way _ _ _ _ (s₁.setTop (mkF m 6 #[rv pa, iv 7] []))
    obtain ⟨T2, h3, X4, e5, E6, A7, D8, -, st9⟩ := newO X0 hx hZ hown (tw hw 55 rfl) (tw hw 3 rfl) (tw hw 2 rfl) e0 (g := (mkF m 6 #[rv pa, iv 7] [])) rfl (hb hby dMK_6) (by decide) (by decide)
    obtain ⟨a10, g11⟩ : ∃ z, z = h0.size := ⟨_, rfl⟩
    rw [← g11] at A7 D8 st9
    have ne12 : pa ≠ a10 := Nat.ne_of_lt (Nat.lt_of_lt_of_eq H0.lt g11.symm)
    have nw13 : n0 ≤ a10 := Nat.le_trans Z0 (Nat.le_of_eq g11.symm)
    have hk14 : h0.size ≤ a10 := Nat.le_trans (Nat.le_refl h0.size) (Nat.le_of_eq g11.symm)
    have A15 := H0.ext E6
    have Z16 := Nat.le_trans Z0 E6.1
    have O17 := O0.ext E6
    have K18 := (Keep.refl h0 []).ext E6
    have hz19 := Nat.le_trans (Nat.le_refl h0.size) E6.1
    have F20 : Fld Z h3 a10 "java/lang/String" "value" "[B" .null := D8 (Or.inr (tw hw 5 rfl)) (ty := (.array .byte)) (by decide)
    have F21 : Fld Z h3 a10 "java/lang/String" "coder" "B" (.int 0) := D8 (Or.inr (tw hw 6 rfl)) (ty := .byte) (by decide)
    refine Way.by st9 ?_
    show Way _ _ _ _ (T2.setTop (mkF m 9 #[rv pa, iv 7] [(.ref a10)]))
    refine Way.by (fun _ k => XS.dup X4.here hx rfl (hb hby dMK_9) rfl rfl k) ?_
    show Way _ _ _ _ (T2.setTop (mkF m 10 #[rv pa, iv 7] [(.ref a10), (.ref a10)]))
    refine Way.by (fun _ k => XS.bipush X4.here hx rfl (hb hby dMK_10) k) ?_
    show Way _ _ _ _ (T2.setTop (mkF m 12 #[rv pa, iv 7] [(.int 7), (.ref a10), (.ref a10)]))
    obtain ⟨T22, h23, kc24, X25, e26, E27, A28, st29⟩ := newP X4 hx hZ (tw hw 22 rfl) e5 (g := (mkF m 12 #[rv pa, iv 7] [(.int 7), (.ref a10), (.ref a10)])) rfl (hb hby dMK_12) rfl (by decide) (cap := 7) (by decide) (by decide) (by decide) (by decide)
    obtain ⟨a30, g31⟩ : ∃ z, z = h3.size := ⟨_, rfl⟩
    rw [← g31] at A28 st29
    have ne33 : pa ≠ a30 := Nat.ne_of_lt (Nat.lt_of_lt_of_eq A15.lt g31.symm)
    have ne34 : a10 ≠ a30 := Nat.ne_of_lt (Nat.lt_of_lt_of_eq A7.lt g31.symm)
    have nw35 : n0 ≤ a30 := Nat.le_trans Z16 (Nat.le_of_eq g31.symm)
    have hk36 : h0.size ≤ a30 := Nat.le_trans hz19 (Nat.le_of_eq g31.symm)
    have A37 := A15.ext E27
    have E38 := Exa.ext E27 A7
    have F39 := Fld.ext E27 F20
    have F40 := Fld.ext E27 F21
    have Z41 := Nat.le_trans Z16 E27.1
    have O42 := O17.ext E27
    have K43 := K18.ext E27
    have hz44 := Nat.le_trans hz19 E27.1
    have V32 : Arv Z h23 a30 kc24 .char (7 : Int32) [] (.int 0) := Arv.new A28 (by decide)
    refine Way.by st29 ?_
    show Way _ _ _ _ (T22.setTop (mkF m 14 #[rv pa, iv 7] [(.ref a30), (.ref a10), (.ref a10)]))
    try clear X4 e5 A7 A15 Z16 O17 K18 hz19 F20 F21 E27 A28 st29
    try clear T2 h3
    refine Way.by (fun _ k => XS.dup X25.here hx rfl (hb hby dMK_14) rfl rfl k) ?_
    show Way _ _ _ _ (T22.setTop (mkF m 15 #[rv pa, iv 7] [(.ref a30), (.ref a30), (.ref a10), (.ref a10)]))
    refine Way.by (fun _ k => XS.iconst X25.here hx rfl (hb hby dMK_15) k) ?_
    show Way _ _ _ _ (T22.setTop (mkF m 16 #[rv pa, iv 7] [(.int 0), (.ref a30), (.ref a30), (.ref a10), (.ref a10)]))
    refine Way.by (fun _ k => XS.aloadN X25.here hx rfl (hb hby dMK_16) rfl rfl k) ?_
    show Way _ _ _ _ (T22.setTop (mkF m 17 #[rv pa, iv 7] [(.ref pa), (.int 0), (.ref a30), (.ref a30), (.ref a10), (.ref a10)]))
    refine Way.by (fun _ k => XS.iconst X25.here hx rfl (hb hby dMK_17) k) ?_
    show Way _ _ _ _ (T22.setTop (mkF m 18 #[rv pa, iv 7] [(.int 0), (.ref pa), (.int 0), (.ref a30), (.ref a30), (.ref a10), (.ref a10)]))
    obtain ⟨c45, A46, q47, S48, M49, H50, U51⟩ := id A37
    refine Way.by (fun t k => Stand.caload X25 hx (hpE e26 A46.1) (arrS hZ A46) A46.2.2 (inb_of S48 ⟨(by decide), (by decide)⟩) (Has.at H50 (inb_of S48 ⟨(by decide), (by decide)⟩) rfl) (g := (mkF m 18 #[rv pa, iv 7] [(.int 0), (.ref pa), (.int 0), (.ref a30), (.ref a30), (.ref a10), (.ref a10)])) rfl rfl (hb hby dMK_18) t k) ?_
    show Way _ _ _ _ (T22.setTop (mkF m 19 #[rv pa, iv 7] [(.int x0), (.int 0), (.ref a30), (.ref a30), (.ref a10), (.ref a10)]))
    have V52 : Arv Z h23 a30 kc24 .char (7 : Int32) [(.int 0)] (.int 0) := V32.pad (pad_rep [] (.int 0) 1)
    obtain ⟨c53, A54, q55, S56, M57, H58, U59⟩ := id V52
    obtain ⟨T60, h61, X62, e63, W64, st65⟩ := stC X25 hx hZ e26 A54 (j := (0 : Int32)) (inb_of S56 ⟨(by decide), (by decide)⟩) (g := (mkF m 19 #[rv pa, iv 7] [(.int x0), (.int 0), (.ref a30), (.ref a30), (.ref a10), (.ref a10)])) rfl rfl (hb hby dMK_19)
    have N66 := Fr.snoc X62 N0 nw35
    have V67 : Arv Z h61 a30 kc24 .char (7 : Int32) [(.int (nar .char x0))] (.int 0) := Arv.set A54 q55 S56 M57 H58 U59 (fits_nar_char _) W64 0 rfl (leB rfl)
    have nq69 : nar .char x0 = x0 := own_b.nar hb0
    have V68 : Arv Z h61 a30 kc24 .char (7 : Int32) [(.int x0)] (.int 0) := by rw [nq69] at V67; exact V67
    have A70 := A37.other W64 ne33
    have E71 := Exa.wr W64 E38
    have F72 := F39.other W64 (Or.inl ne34)
    have F73 := F40.other W64 (Or.inl ne34)
    have Z74 : n0 ≤ h61.size := by rw [W64.size]; exact Z41
    have O75 := O42.wr W64 nw35
    have K76 := K43.wr W64 (Or.inr hk36)
    have hz77 : h0.size ≤ h61.size := by rw [W64.size]; exact hz44
    refine Way.by st65 ?_
    show Way _ _ _ _ (T60.setTop (mkF m 20 #[rv pa, iv 7] [(.ref a30), (.ref a10), (.ref a10)]))
    try clear X25 e26 V32 A37 E38 F39 F40 Z41 O42 K43 hz44 V52 c53 A54 q55 S56 M57 H58 U59 W64 st65 V67
    try clear T22 h23
    refine Way.by (fun _ k => XS.dup X62.here hx rfl (hb hby dMK_20) rfl rfl k) ?_
    show Way _ _ _ _ (T60.setTop (mkF m 21 #[rv pa, iv 7] [(.ref a30), (.ref a30), (.ref a10), (.ref a10)]))
    refine Way.by (fun _ k => XS.iconst X62.here hx rfl (hb hby dMK_21) k) ?_
    show Way _ _ _ _ (T60.setTop (mkF m 22 #[rv pa, iv 7] [(.int 1), (.ref a30), (.ref a30), (.ref a10), (.ref a10)]))
    refine Way.by (fun _ k => XS.aloadN X62.here hx rfl (hb hby dMK_22) rfl rfl k) ?_
    show Way _ _ _ _ (T60.setTop (mkF m 23 #[rv pa, iv 7] [(.ref pa), (.int 1), (.ref a30), (.ref a30), (.ref a10), (.ref a10)]))
    refine Way.by (fun _ k => XS.iconst X62.here hx rfl (hb hby dMK_23) k) ?_
    show Way _ _ _ _ (T60.setTop (mkF m 24 #[rv pa, iv 7] [(.int 1), (.ref pa), (.int 1), (.ref a30), (.ref a30), (.ref a10), (.ref a10)]))
    obtain ⟨c78, A79, q80, S81, M82, H83, U84⟩ := id A70
    refine Way.by (fun t k => Stand.caload X62 hx (hpE e63 A79.1) (arrS hZ A79) A79.2.2 (inb_of S81 ⟨(by decide), (by decide)⟩) (Has.at H83 (inb_of S81 ⟨(by decide), (by decide)⟩) rfl) (g := (mkF m 24 #[rv pa, iv 7] [(.int 1), (.ref pa), (.int 1), (.ref a30), (.ref a30), (.ref a10), (.ref a10)])) rfl rfl (hb hby dMK_24) t k) ?_
    show Way _ _ _ _ (T60.setTop (mkF m 25 #[rv pa, iv 7] [(.int x1), (.int 1), (.ref a30), (.ref a30), (.ref a10), (.ref a10)]))
    have V85 : Arv Z h61 a30 kc24 .char (7 : Int32) [(.int x0), (.int 0)] (.int 0) := V68.pad (pad_rep [(.int x0)] (.int 0) 1)
    obtain ⟨c86, A87, q88, S89, M90, H91, U92⟩ := id V85
    obtain ⟨T93, h94, X95, e96, W97, st98⟩ := stC X62 hx hZ e63 A87 (j := (1 : Int32)) (inb_of S89 ⟨(by decide), (by decide)⟩) (g := (mkF m 25 #[rv pa, iv 7] [(.int x1), (.int 1), (.ref a30), (.ref a30), (.ref a10), (.ref a10)])) rfl rfl (hb hby dMK_25)
    have N99 := Fr.snoc X95 N66 nw35
    have V100 : Arv Z h94 a30 kc24 .char (7 : Int32) [(.int x0), (.int (nar .char x1))] (.int 0) := Arv.set A87 q88 S89 M90 H91 U92 (fits_nar_char _) W97 1 rfl (leB rfl)
    have nq102 : nar .char x1 = x1 := own_b.nar hb1
    have V101 : Arv Z h94 a30 kc24 .char (7 : Int32) [(.int x0), (.int x1)] (.int 0) := by rw [nq102] at V100; exact V100
    have A103 := A70.other W97 ne33
    have E104 := Exa.wr W97 E71
    have F105 := F72.other W97 (Or.inl ne34)
    have F106 := F73.other W97 (Or.inl ne34)
    have Z107 : n0 ≤ h94.size := by rw [W97.size]; exact Z74
    have O108 := O75.wr W97 nw35
    have K109 := K76.wr W97 (Or.inr hk36)
    have hz110 : h0.size ≤ h94.size := by rw [W97.size]; exact hz77
    refine Way.by st98 ?_
    show Way _ _ _ _ (T93.setTop (mkF m 26 #[rv pa, iv 7] [(.ref a30), (.ref a10), (.ref a10)]))
    try clear X62 e63 N66 V68 A70 E71 F72 F73 Z74 O75 K76 hz77 V85 c86 A87 q88 S89 M90 H91 U92 W97 st98 V100
    try clear T60 h61
    refine Way.by (fun _ k => XS.dup X95.here hx rfl (hb hby dMK_26) rfl rfl k) ?_
    show Way _ _ _ _ (T93.setTop (mkF m 27 #[rv pa, iv 7] [(.ref a30), (.ref a30), (.ref a10), (.ref a10)]))
    refine Way.by (fun _ k => XS.iconst X95.here hx rfl (hb hby dMK_27) k) ?_
    show Way _ _ _ _ (T93.setTop (mkF m 28 #[rv pa, iv 7] [(.int 2), (.ref a30), (.ref a30), (.ref a10), (.ref a10)]))
    refine Way.by (fun _ k => XS.aloadN X95.here hx rfl (hb hby dMK_28) rfl rfl k) ?_
    show Way _ _ _ _ (T93.setTop (mkF m 29 #[rv pa, iv 7] [(.ref pa), (.int 2), (.ref a30), (.ref a30), (.ref a10), (.ref a10)]))
    refine Way.by (fun _ k => XS.iconst X95.here hx rfl (hb hby dMK_29) k) ?_
    show Way _ _ _ _ (T93.setTop (mkF m 30 #[rv pa, iv 7] [(.int 2), (.ref pa), (.int 2), (.ref a30), (.ref a30), (.ref a10), (.ref a10)]))
    obtain ⟨c111, A112, q113, S114, M115, H116, U117⟩ := id A103
    refine Way.by (fun t k => Stand.caload X95 hx (hpE e96 A112.1) (arrS hZ A112) A112.2.2 (inb_of S114 ⟨(by decide), (by decide)⟩) (Has.at H116 (inb_of S114 ⟨(by decide), (by decide)⟩) rfl) (g := (mkF m 30 #[rv pa, iv 7] [(.int 2), (.ref pa), (.int 2), (.ref a30), (.ref a30), (.ref a10), (.ref a10)])) rfl rfl (hb hby dMK_30) t k) ?_
    show Way _ _ _ _ (T93.setTop (mkF m 31 #[rv pa, iv 7] [(.int x2), (.int 2), (.ref a30), (.ref a30), (.ref a10), (.ref a10)]))
    have V118 : Arv Z h94 a30 kc24 .char (7 : Int32) [(.int x0), (.int x1), (.int 0)] (.int 0) := V101.pad (pad_rep [(.int x0), (.int x1)] (.int 0) 1)
    obtain ⟨c119, A120, q121, S122, M123, H124, U125⟩ := id V118
    obtain ⟨T126, h127, X128, e129, W130, st131⟩ := stC X95 hx hZ e96 A120 (j := (2 : Int32)) (inb_of S122 ⟨(by decide), (by decide)⟩) (g := (mkF m 31 #[rv pa, iv 7] [(.int x2), (.int 2), (.ref a30), (.ref a30), (.ref a10), (.ref a10)])) rfl rfl (hb hby dMK_31)
    have N132 := Fr.snoc X128 N99 nw35
    have V133 : Arv Z h127 a30 kc24 .char (7 : Int32) [(.int x0), (.int x1), (.int (nar .char x2))] (.int 0) := Arv.set A120 q121 S122 M123 H124 U125 (fits_nar_char _) W130 2 rfl (leB rfl)
    have nq135 : nar .char x2 = x2 := own_b.nar hb2
    have V134 : Arv Z h127 a30 kc24 .char (7 : Int32) [(.int x0), (.int x1), (.int x2)] (.int 0) := by rw [nq135] at V133; exact V133
    have A136 := A103.other W130 ne33
    have E137 := Exa.wr W130 E104
    have F138 := F105.other W130 (Or.inl ne34)
    have F139 := F106.other W130 (Or.inl ne34)
    have Z140 : n0 ≤ h127.size := by rw [W130.size]; exact Z107
    have O141 := O108.wr W130 nw35
    have K142 := K109.wr W130 (Or.inr hk36)
    have hz143 : h0.size ≤ h127.size := by rw [W130.size]; exact hz110
    refine Way.by st131 ?_
    show Way _ _ _ _ (T126.setTop (mkF m 32 #[rv pa, iv 7] [(.ref a30), (.ref a10), (.ref a10)]))
    try clear X95 e96 N99 V101 A103 E104 F105 F106 Z107 O108 K109 hz110 V118 c119 A120 q121 S122 M123 H124 U125 W130 st131 V133
    try clear T93 h94
    refine Way.by (fun _ k => XS.dup X128.here hx rfl (hb hby dMK_32) rfl rfl k) ?_
    show Way _ _ _ _ (T126.setTop (mkF m 33 #[rv pa, iv 7] [(.ref a30), (.ref a30), (.ref a10), (.ref a10)]))
    refine Way.by (fun _ k => XS.iconst X128.here hx rfl (hb hby dMK_33) k) ?_
    show Way _ _ _ _ (T126.setTop (mkF m 34 #[rv pa, iv 7] [(.int 3), (.ref a30), (.ref a30), (.ref a10), (.ref a10)]))
    refine Way.by (fun _ k => XS.aloadN X128.here hx rfl (hb hby dMK_34) rfl rfl k) ?_
    show Way _ _ _ _ (T126.setTop (mkF m 35 #[rv pa, iv 7] [(.ref pa), (.int 3), (.ref a30), (.ref a30), (.ref a10), (.ref a10)]))
    refine Way.by (fun _ k => XS.iconst X128.here hx rfl (hb hby dMK_35) k) ?_
    show Way _ _ _ _ (T126.setTop (mkF m 36 #[rv pa, iv 7] [(.int 3), (.ref pa), (.int 3), (.ref a30), (.ref a30), (.ref a10), (.ref a10)]))
    obtain ⟨c144, A145, q146, S147, M148, H149, U150⟩ := id A136
    refine Way.by (fun t k => Stand.caload X128 hx (hpE e129 A145.1) (arrS hZ A145) A145.2.2 (inb_of S147 ⟨(by decide), (by decide)⟩) (Has.at H149 (inb_of S147 ⟨(by decide), (by decide)⟩) rfl) (g := (mkF m 36 #[rv pa, iv 7] [(.int 3), (.ref pa), (.int 3), (.ref a30), (.ref a30), (.ref a10), (.ref a10)])) rfl rfl (hb hby dMK_36) t k) ?_
    show Way _ _ _ _ (T126.setTop (mkF m 37 #[rv pa, iv 7] [(.int x3), (.int 3), (.ref a30), (.ref a30), (.ref a10), (.ref a10)]))
    have V151 : Arv Z h127 a30 kc24 .char (7 : Int32) [(.int x0), (.int x1), (.int x2), (.int 0)] (.int 0) := V134.pad (pad_rep [(.int x0), (.int x1), (.int x2)] (.int 0) 1)
    obtain ⟨c152, A153, q154, S155, M156, H157, U158⟩ := id V151
    obtain ⟨T159, h160, X161, e162, W163, st164⟩ := stC X128 hx hZ e129 A153 (j := (3 : Int32)) (inb_of S155 ⟨(by decide), (by decide)⟩) (g := (mkF m 37 #[rv pa, iv 7] [(.int x3), (.int 3), (.ref a30), (.ref a30), (.ref a10), (.ref a10)])) rfl rfl (hb hby dMK_37)
    have N165 := Fr.snoc X161 N132 nw35
    have V166 : Arv Z h160 a30 kc24 .char (7 : Int32) [(.int x0), (.int x1), (.int x2), (.int (nar .char x3))] (.int 0) := Arv.set A153 q154 S155 M156 H157 U158 (fits_nar_char _) W163 3 rfl (leB rfl)
    have nq168 : nar .char x3 = x3 := own_b.nar hb3
    have V167 : Arv Z h160 a30 kc24 .char (7 : Int32) [(.int x0), (.int x1), (.int x2), (.int x3)] (.int 0) := by rw [nq168] at V166; exact V166
    have A169 := A136.other W163 ne33
    have E170 := Exa.wr W163 E137
    have F171 := F138.other W163 (Or.inl ne34)
    have F172 := F139.other W163 (Or.inl ne34)
    have Z173 : n0 ≤ h160.size := by rw [W163.size]; exact Z140
    have O174 := O141.wr W163 nw35
    have K175 := K142.wr W163 (Or.inr hk36)
    have hz176 : h0.size ≤ h160.size := by rw [W163.size]; exact hz143
    refine Way.by st164 ?_
    show Way _ _ _ _ (T159.setTop (mkF m 38 #[rv pa, iv 7] [(.ref a30), (.ref a10), (.ref a10)]))
    try clear X128 e129 N132 V134 A136 E137 F138 F139 Z140 O141 K142 hz143 V151 c152 A153 q154 S155 M156 H157 U158 W163 st164 V166
    try clear T126 h127
    refine Way.by (fun _ k => XS.dup X161.here hx rfl (hb hby dMK_38) rfl rfl k) ?_
    show Way _ _ _ _ (T159.setTop (mkF m 39 #[rv pa, iv 7] [(.ref a30), (.ref a30), (.ref a10), (.ref a10)]))
    refine Way.by (fun _ k => XS.iconst X161.here hx rfl (hb hby dMK_39) k) ?_
    show Way _ _ _ _ (T159.setTop (mkF m 40 #[rv pa, iv 7] [(.int 4), (.ref a30), (.ref a30), (.ref a10), (.ref a10)]))
    refine Way.by (fun _ k => XS.aloadN X161.here hx rfl (hb hby dMK_40) rfl rfl k) ?_
    show Way _ _ _ _ (T159.setTop (mkF m 41 #[rv pa, iv 7] [(.ref pa), (.int 4), (.ref a30), (.ref a30), (.ref a10), (.ref a10)]))
    refine Way.by (fun _ k => XS.iconst X161.here hx rfl (hb hby dMK_41) k) ?_
    show Way _ _ _ _ (T159.setTop (mkF m 42 #[rv pa, iv 7] [(.int 4), (.ref pa), (.int 4), (.ref a30), (.ref a30), (.ref a10), (.ref a10)]))
    obtain ⟨c177, A178, q179, S180, M181, H182, U183⟩ := id A169
    refine Way.by (fun t k => Stand.caload X161 hx (hpE e162 A178.1) (arrS hZ A178) A178.2.2 (inb_of S180 ⟨(by decide), (by decide)⟩) (Has.at H182 (inb_of S180 ⟨(by decide), (by decide)⟩) rfl) (g := (mkF m 42 #[rv pa, iv 7] [(.int 4), (.ref pa), (.int 4), (.ref a30), (.ref a30), (.ref a10), (.ref a10)])) rfl rfl (hb hby dMK_42) t k) ?_
    show Way _ _ _ _ (T159.setTop (mkF m 43 #[rv pa, iv 7] [(.int x4), (.int 4), (.ref a30), (.ref a30), (.ref a10), (.ref a10)]))
    have V184 : Arv Z h160 a30 kc24 .char (7 : Int32) [(.int x0), (.int x1), (.int x2), (.int x3), (.int 0)] (.int 0) := V167.pad (pad_rep [(.int x0), (.int x1), (.int x2), (.int x3)] (.int 0) 1)
    obtain ⟨c185, A186, q187, S188, M189, H190, U191⟩ := id V184
    obtain ⟨T192, h193, X194, e195, W196, st197⟩ := stC X161 hx hZ e162 A186 (j := (4 : Int32)) (inb_of S188 ⟨(by decide), (by decide)⟩) (g := (mkF m 43 #[rv pa, iv 7] [(.int x4), (.int 4), (.ref a30), (.ref a30), (.ref a10), (.ref a10)])) rfl rfl (hb hby dMK_43)
    have N198 := Fr.snoc X194 N165 nw35
    have V199 : Arv Z h193 a30 kc24 .char (7 : Int32) [(.int x0), (.int x1), (.int x2), (.int x3), (.int (nar .char x4))] (.int 0) := Arv.set A186 q187 S188 M189 H190 U191 (fits_nar_char _) W196 4 rfl (leB rfl)
    have nq201 : nar .char x4 = x4 := own_b.nar hb4
    have V200 : Arv Z h193 a30 kc24 .char (7 : Int32) [(.int x0), (.int x1), (.int x2), (.int x3), (.int x4)] (.int 0) := by rw [nq201] at V199; exact V199
    have A202 := A169.other W196 ne33
    have E203 := Exa.wr W196 E170
    have F204 := F171.other W196 (Or.inl ne34)
    have F205 := F172.other W196 (Or.inl ne34)
    have Z206 : n0 ≤ h193.size := by rw [W196.size]; exact Z173
    have O207 := O174.wr W196 nw35
    have K208 := K175.wr W196 (Or.inr hk36)
    have hz209 : h0.size ≤ h193.size := by rw [W196.size]; exact hz176
    refine Way.by st197 ?_
    show Way _ _ _ _ (T192.setTop (mkF m 44 #[rv pa, iv 7] [(.ref a30), (.ref a10), (.ref a10)]))
    try clear X161 e162 N165 V167 A169 E170 F171 F172 Z173 O174 K175 hz176 V184 c185 A186 q187 S188 M189 H190 U191 W196 st197 V199
    try clear T159 h160
    refine Way.by (fun _ k => XS.dup X194.here hx rfl (hb hby dMK_44) rfl rfl k) ?_
    show Way _ _ _ _ (T192.setTop (mkF m 45 #[rv pa, iv 7] [(.ref a30), (.ref a30), (.ref a10), (.ref a10)]))
    refine Way.by (fun _ k => XS.iconst X194.here hx rfl (hb hby dMK_45) k) ?_
    show Way _ _ _ _ (T192.setTop (mkF m 46 #[rv pa, iv 7] [(.int 5), (.ref a30), (.ref a30), (.ref a10), (.ref a10)]))
    refine Way.by (fun _ k => XS.aloadN X194.here hx rfl (hb hby dMK_46) rfl rfl k) ?_
    show Way _ _ _ _ (T192.setTop (mkF m 47 #[rv pa, iv 7] [(.ref pa), (.int 5), (.ref a30), (.ref a30), (.ref a10), (.ref a10)]))
    refine Way.by (fun _ k => XS.iconst X194.here hx rfl (hb hby dMK_47) k) ?_
    show Way _ _ _ _ (T192.setTop (mkF m 48 #[rv pa, iv 7] [(.int 5), (.ref pa), (.int 5), (.ref a30), (.ref a30), (.ref a10), (.ref a10)]))
    obtain ⟨c210, A211, q212, S213, M214, H215, U216⟩ := id A202
    refine Way.by (fun t k => Stand.caload X194 hx (hpE e195 A211.1) (arrS hZ A211) A211.2.2 (inb_of S213 ⟨(by decide), (by decide)⟩) (Has.at H215 (inb_of S213 ⟨(by decide), (by decide)⟩) rfl) (g := (mkF m 48 #[rv pa, iv 7] [(.int 5), (.ref pa), (.int 5), (.ref a30), (.ref a30), (.ref a10), (.ref a10)])) rfl rfl (hb hby dMK_48) t k) ?_
    show Way _ _ _ _ (T192.setTop (mkF m 49 #[rv pa, iv 7] [(.int x5), (.int 5), (.ref a30), (.ref a30), (.ref a10), (.ref a10)]))
    have V217 : Arv Z h193 a30 kc24 .char (7 : Int32) [(.int x0), (.int x1), (.int x2), (.int x3), (.int x4), (.int 0)] (.int 0) := V200.pad (pad_rep [(.int x0), (.int x1), (.int x2), (.int x3), (.int x4)] (.int 0) 1)
    obtain ⟨c218, A219, q220, S221, M222, H223, U224⟩ := id V217
    obtain ⟨T225, h226, X227, e228, W229, st230⟩ := stC X194 hx hZ e195 A219 (j := (5 : Int32)) (inb_of S221 ⟨(by decide), (by decide)⟩) (g := (mkF m 49 #[rv pa, iv 7] [(.int x5), (.int 5), (.ref a30), (.ref a30), (.ref a10), (.ref a10)])) rfl rfl (hb hby dMK_49)
    have N231 := Fr.snoc X227 N198 nw35
    have V232 : Arv Z h226 a30 kc24 .char (7 : Int32) [(.int x0), (.int x1), (.int x2), (.int x3), (.int x4), (.int (nar .char x5))] (.int 0) := Arv.set A219 q220 S221 M222 H223 U224 (fits_nar_char _) W229 5 rfl (leB rfl)
    have nq234 : nar .char x5 = x5 := own_b.nar hb5
    have V233 : Arv Z h226 a30 kc24 .char (7 : Int32) [(.int x0), (.int x1), (.int x2), (.int x3), (.int x4), (.int x5)] (.int 0) := by rw [nq234] at V232; exact V232
    have A235 := A202.other W229 ne33
    have E236 := Exa.wr W229 E203
    have F237 := F204.other W229 (Or.inl ne34)
    have F238 := F205.other W229 (Or.inl ne34)
    have Z239 : n0 ≤ h226.size := by rw [W229.size]; exact Z206
    have O240 := O207.wr W229 nw35
    have K241 := K208.wr W229 (Or.inr hk36)
    have hz242 : h0.size ≤ h226.size := by rw [W229.size]; exact hz209
    refine Way.by st230 ?_
    show Way _ _ _ _ (T225.setTop (mkF m 50 #[rv pa, iv 7] [(.ref a30), (.ref a10), (.ref a10)]))
    try clear X194 e195 N198 V200 A202 E203 F204 F205 Z206 O207 K208 hz209 V217 c218 A219 q220 S221 M222 H223 U224 W229 st230 V232
    try clear T192 h193
    refine Way.by (fun _ k => XS.dup X227.here hx rfl (hb hby dMK_50) rfl rfl k) ?_
    show Way _ _ _ _ (T225.setTop (mkF m 51 #[rv pa, iv 7] [(.ref a30), (.ref a30), (.ref a10), (.ref a10)]))
    refine Way.by (fun _ k => XS.bipush X227.here hx rfl (hb hby dMK_51) k) ?_
    show Way _ _ _ _ (T225.setTop (mkF m 53 #[rv pa, iv 7] [(.int 6), (.ref a30), (.ref a30), (.ref a10), (.ref a10)]))
    refine Way.by (fun _ k => XS.aloadN X227.here hx rfl (hb hby dMK_53) rfl rfl k) ?_
    show Way _ _ _ _ (T225.setTop (mkF m 54 #[rv pa, iv 7] [(.ref pa), (.int 6), (.ref a30), (.ref a30), (.ref a10), (.ref a10)]))
    refine Way.by (fun _ k => XS.bipush X227.here hx rfl (hb hby dMK_54) k) ?_
    show Way _ _ _ _ (T225.setTop (mkF m 56 #[rv pa, iv 7] [(.int 6), (.ref pa), (.int 6), (.ref a30), (.ref a30), (.ref a10), (.ref a10)]))
    obtain ⟨c243, A244, q245, S246, M247, H248, U249⟩ := id A235
    refine Way.by (fun t k => Stand.caload X227 hx (hpE e228 A244.1) (arrS hZ A244) A244.2.2 (inb_of S246 ⟨(by decide), (by decide)⟩) (Has.at H248 (inb_of S246 ⟨(by decide), (by decide)⟩) rfl) (g := (mkF m 56 #[rv pa, iv 7] [(.int 6), (.ref pa), (.int 6), (.ref a30), (.ref a30), (.ref a10), (.ref a10)])) rfl rfl (hb hby dMK_56) t k) ?_
    show Way _ _ _ _ (T225.setTop (mkF m 57 #[rv pa, iv 7] [(.int x6), (.int 6), (.ref a30), (.ref a30), (.ref a10), (.ref a10)]))
    have V250 : Arv Z h226 a30 kc24 .char (7 : Int32) [(.int x0), (.int x1), (.int x2), (.int x3), (.int x4), (.int x5), (.int 0)] (.int 0) := V233.pad (pad_rep [(.int x0), (.int x1), (.int x2), (.int x3), (.int x4), (.int x5)] (.int 0) 1)
    obtain ⟨c251, A252, q253, S254, M255, H256, U257⟩ := id V250
    obtain ⟨T258, h259, X260, e261, W262, st263⟩ := stC X227 hx hZ e228 A252 (j := (6 : Int32)) (inb_of S254 ⟨(by decide), (by decide)⟩) (g := (mkF m 57 #[rv pa, iv 7] [(.int x6), (.int 6), (.ref a30), (.ref a30), (.ref a10), (.ref a10)])) rfl rfl (hb hby dMK_57)
    have N264 := Fr.snoc X260 N231 nw35
    have V265 : Arv Z h259 a30 kc24 .char (7 : Int32) [(.int x0), (.int x1), (.int x2), (.int x3), (.int x4), (.int x5), (.int (nar .char x6))] (.int 0) := Arv.set A252 q253 S254 M255 H256 U257 (fits_nar_char _) W262 6 rfl (leB rfl)
    have nq267 : nar .char x6 = x6 := own_b.nar hb6
    have V266 : Arv Z h259 a30 kc24 .char (7 : Int32) [(.int x0), (.int x1), (.int x2), (.int x3), (.int x4), (.int x5), (.int x6)] (.int 0) := by rw [nq267] at V265; exact V265
    have A268 := A235.other W262 ne33
    have E269 := Exa.wr W262 E236
    have F270 := F237.other W262 (Or.inl ne34)
    have F271 := F238.other W262 (Or.inl ne34)
    have Z272 : n0 ≤ h259.size := by rw [W262.size]; exact Z239
    have O273 := O240.wr W262 nw35
    have K274 := K241.wr W262 (Or.inr hk36)
    have hz275 : h0.size ≤ h259.size := by rw [W262.size]; exact hz242
    refine Way.by st263 ?_
    show Way _ _ _ _ (T258.setTop (mkF m 58 #[rv pa, iv 7] [(.ref a30), (.ref a10), (.ref a10)]))
    try clear X227 e228 N231 V233 A235 E236 F237 F238 Z239 O240 K241 hz242 V250 c251 A252 q253 S254 M255 H256 U257 W262 st263 V265
    try clear T225 h226
    have hp276 : ∀ c ∈ ([x0, x1, x2, x3, x4, x5, x6] : List Int32), ¬ c < 0 ∧ ¬ (255 : Int32) < c := by intro c hc; simp only [List.mem_cons, List.not_mem_nil, or_false] at hc; rcases hc with rfl | rfl | rfl | rfl | rfl | rfl | rfl <;> assumption
    obtain ⟨_, _, ⟨T277, L279, k280, n281⟩, -, X278, ⟨Lc282, hQ283, l284, y285, z286⟩, st287⟩ := X260.specialBack hx (y := (⟨"java/lang/String", "<init>", "([C)V"⟩ : MethodName)) rfl hown (mvT hZ (tw hw 56 rfl)) (mvT hZ (tw hw 57 rfl)) (mvT hZ (tw hw 58 rfl)) (by decide) (own_new (W := 1) (n0 := n0) hZ hw SV O273 (cs := [x0, x1, x2, x3, x4, x5, x6]) (n := 7) nw13 Z272 E269 F270 F271 V266 rfl rfl (by decide) (by decide) hp276 (by decide) (by decide)) (g := (mkF m 58 #[rv pa, iv 7] [(.ref a30), (.ref a10), (.ref a10)])) rfl (by rw [hml]; rfl) (Steps.refl _) (a := a10) (argsL := [(.ref a30)]) (rest := [(.ref a10)]) (lenOf own_pdNew rfl) rfl (leW rfl) (hb hby dMK_58) (fun _ _ => ⟨rfl, e261, (leB rfl), (leB rfl)⟩)
    dsimp only [Pt.U, Pt.locs, Pt.cells, Pt.slots] at X278 l284 y285 z286 st287 hQ283
    subst y285 z286
    obtain ⟨rfl, N293, K294, x_t297, fr_t296, F295⟩ := hQ283
    have N288 : Fr n0 L279 := by rw [l284]; exact Fr.app N264 N293
    have ne298 : pa ≠ x_t297 := Nat.ne_of_lt (Nat.lt_of_lt_of_le A268.lt fr_t296)
    have ne299 : a10 ≠ x_t297 := Nat.ne_of_lt (Nat.lt_of_lt_of_le E269.lt fr_t296)
    have ne300 : a30 ≠ x_t297 := Nat.ne_of_lt (Nat.lt_of_lt_of_le V266.lt fr_t296)
    have nw301 : n0 ≤ x_t297 := Nat.le_trans Z272 fr_t296
    have hk302 : h0.size ≤ x_t297 := Nat.le_trans hz275 fr_t296
    have A303 := A268.keep K294 (ninS ne12 nin0)
    have E304 := E269.keep K294
    have A305 := V266.keep K294 (ninS ne34.symm nin0)
    have Z306 := Nat.le_trans Z272 K294.1
    have O307 := O273.keep K294 (allS nw13 all0)
    have K308 := K274.trans K294 (allS (Or.inr hk14) all0)
    have hz309 := Nat.le_trans hz275 K294.1
    refine Way.to st287 ?_
    show Way _ _ _ _ (T277.setTop (mkF m 61 #[rv pa, iv 7] [(.ref a10)]))
    try clear X260 e261 N264 V266 A268 E269 F270 F271 Z272 O273 K274 hz275 st287 N293 K294
    try clear T258 h259
    refine Way.ret (v := (some (.ref a10))) X278 hlk (fun h => by rw [Bd.returns] at h; cases h) (fun fs hr => retOut X278 hx Bd.returns rfl (Or.inr (Or.inr (Or.inr (Or.inr ⟨rfl, rfl, rfl⟩)))) (hb hby dMK_61) hr) ?_ (by decide) (by decide)
    show QMK Z pa ka _ x0 x1 x2 x3 x4 x5 x6 x7 x8 x9 x10 x11 x12 x13 x14 x15 h0 n0 _ T277.heap _
    skip
    exact ⟨a10, x_t297, [x0, x1, x2, x3, x4, x5, x6], rfl, N288, K308, hk14, hk302, F295⟩
  · skip
    show Way _ _ _ _ (s₁.setTop (mkF m 0 #[rv pa, iv 8] []))
    refine Way.by (fun _ k => XS.iloadN X0.here hx rfl (hb hby dMK_0) rfl k) ?_
    show Way _ _ _ _ (s₁.setTop (mkF m 1 #[rv pa, iv 8] [(.int 8)]))
    refine Way.by (fun _ k => XS.bipush X0.here hx rfl (hb hby dMK_1) k) ?_
    show Way _ _ _ _ (s₁.setTop (mkF m 3 #[rv pa, iv 8] [(.int 7), (.int 8)]))
    have b310 : ¬ (8 : Int32) = (7 : Int32) := by decide
    refine Way.by (fun _ k => XS.icmpYes X0.here hx rfl (pc0 := 3) (pc' := 62) rfl (hb hby dMK_3) rfl (feq b310).2 (by decide) (by decide) k) ?_
    show Way _ _ _ _ (s₁.setTop (mkF m 62 #[rv pa, iv 8] []))
    refine Way.by (fun _ k => XS.iloadN X0.here hx rfl (hb hby dMK_62) rfl k) ?_
    show Way _ _ _ _ (s₁.setTop (mkF m 63 #[rv pa, iv 8] [(.int 8)]))
    refine Way.by (fun _ k => XS.bipush X0.here hx rfl (hb hby dMK_63) k) ?_
    show Way _ _ _ _ (s₁.setTop (mkF m 65 #[rv pa, iv 8] [(.int 8), (.int 8)]))
    have b311 : (8 : Int32) = (8 : Int32) := by decide
    refine Way.by (fun _ k => XS.icmpNo X0.here hx rfl (hb hby dMK_65) rfl (teq b311).2 k) ?_
    show Way _ _ _ _ (s₁.setTop (mkF m 68 #[rv pa, iv 8] []))
    obtain ⟨T312, h313, X314, e315, E316, A317, D318, -, st319⟩ := newO X0 hx hZ hown (tw hw 55 rfl) (tw hw 3 rfl) (tw hw 2 rfl) e0 (g := (mkF m 68 #[rv pa, iv 8] [])) rfl (hb hby dMK_68) (by decide) (by decide)
    obtain ⟨a320, g321⟩ : ∃ z, z = h0.size := ⟨_, rfl⟩
    rw [← g321] at A317 D318 st319
    have ne322 : pa ≠ a320 := Nat.ne_of_lt (Nat.lt_of_lt_of_eq H0.lt g321.symm)
    have nw323 : n0 ≤ a320 := Nat.le_trans Z0 (Nat.le_of_eq g321.symm)
    have hk324 : h0.size ≤ a320 := Nat.le_trans (Nat.le_refl h0.size) (Nat.le_of_eq g321.symm)
    have A325 := H0.ext E316
    have Z326 := Nat.le_trans Z0 E316.1
    have O327 := O0.ext E316
    have K328 := (Keep.refl h0 []).ext E316
    have hz329 := Nat.le_trans (Nat.le_refl h0.size) E316.1
    have F330 : Fld Z h313 a320 "java/lang/String" "value" "[B" .null := D318 (Or.inr (tw hw 5 rfl)) (ty := (.array .byte)) (by decide)
    have F331 : Fld Z h313 a320 "java/lang/String" "coder" "B" (.int 0) := D318 (Or.inr (tw hw 6 rfl)) (ty := .byte) (by decide)
    refine Way.by st319 ?_
    show Way _ _ _ _ (T312.setTop (mkF m 71 #[rv pa, iv 8] [(.ref a320)]))
    refine Way.by (fun _ k => XS.dup X314.here hx rfl (hb hby dMK_71) rfl rfl k) ?_
    show Way _ _ _ _ (T312.setTop (mkF m 72 #[rv pa, iv 8] [(.ref a320), (.ref a320)]))
    refine Way.by (fun _ k => XS.bipush X314.here hx rfl (hb hby dMK_72) k) ?_
    show Way _ _ _ _ (T312.setTop (mkF m 74 #[rv pa, iv 8] [(.int 8), (.ref a320), (.ref a320)]))
    obtain ⟨T332, h333, kc334, X335, e336, E337, A338, st339⟩ := newP X314 hx hZ (tw hw 22 rfl) e315 (g := (mkF m 74 #[rv pa, iv 8] [(.int 8), (.ref a320), (.ref a320)])) rfl (hb hby dMK_74) rfl (by decide) (cap := 8) (by decide) (by decide) (by decide) (by decide)
    obtain ⟨a340, g341⟩ : ∃ z, z = h313.size := ⟨_, rfl⟩
    rw [← g341] at A338 st339
    have ne343 : pa ≠ a340 := Nat.ne_of_lt (Nat.lt_of_lt_of_eq A325.lt g341.symm)
    have ne344 : a320 ≠ a340 := Nat.ne_of_lt (Nat.lt_of_lt_of_eq A317.lt g341.symm)
    have nw345 : n0 ≤ a340 := Nat.le_trans Z326 (Nat.le_of_eq g341.symm)
    have hk346 : h0.size ≤ a340 := Nat.le_trans hz329 (Nat.le_of_eq g341.symm)
    have A347 := A325.ext E337
    have E348 := Exa.ext E337 A317
    have F349 := Fld.ext E337 F330
    have F350 := Fld.ext E337 F331
    have Z351 := Nat.le_trans Z326 E337.1
    have O352 := O327.ext E337
    have K353 := K328.ext E337
    have hz354 := Nat.le_trans hz329 E337.1
    have V342 : Arv Z h333 a340 kc334 .char (8 : Int32) [] (.int 0) := Arv.new A338 (by decide)
    refine Way.by st339 ?_
    show Way _ _ _ _ (T332.setTop (mkF m 76 #[rv pa, iv 8] [(.ref a340), (.ref a320), (.ref a320)]))
    try clear X314 e315 A317 A325 Z326 O327 K328 hz329 F330 F331 E337 A338 st339
    try clear T312 h313
    refine Way.by (fun _ k => XS.dup X335.here hx rfl (hb hby dMK_76) rfl rfl k) ?_
    show Way _ _ _ _ (T332.setTop (mkF m 77 #[rv pa, iv 8] [(.ref a340), (.ref a340), (.ref a320), (.ref a320)]))
    refine Way.by (fun _ k => XS.iconst X335.here hx rfl (hb hby dMK_77) k) ?_
    show Way _ _ _ _ (T332.setTop (mkF m 78 #[rv pa, iv 8] [(.int 0), (.ref a340), (.ref a340), (.ref a320), (.ref a320)]))
    refine Way.by (fun _ k => XS.aloadN X335.here hx rfl (hb hby dMK_78) rfl rfl k) ?_
    show Way _ _ _ _ (T332.setTop (mkF m 79 #[rv pa, iv 8] [(.ref pa), (.int 0), (.ref a340), (.ref a340), (.ref a320), (.ref a320)]))
    refine Way.by (fun _ k => XS.iconst X335.here hx rfl (hb hby dMK_79) k) ?_
    show Way _ _ _ _ (T332.setTop (mkF m 80 #[rv pa, iv 8] [(.int 0), (.ref pa), (.int 0), (.ref a340), (.ref a340), (.ref a320), (.ref a320)]))
    obtain ⟨c355, A356, q357, S358, M359, H360, U361⟩ := id A347
    refine Way.by (fun t k => Stand.caload X335 hx (hpE e336 A356.1) (arrS hZ A356) A356.2.2 (inb_of S358 ⟨(by decide), (by decide)⟩) (Has.at H360 (inb_of S358 ⟨(by decide), (by decide)⟩) rfl) (g := (mkF m 80 #[rv pa, iv 8] [(.int 0), (.ref pa), (.int 0), (.ref a340), (.ref a340), (.ref a320), (.ref a320)])) rfl rfl (hb hby dMK_80) t k) ?_
    show Way _ _ _ _ (T332.setTop (mkF m 81 #[rv pa, iv 8] [(.int x0), (.int 0), (.ref a340), (.ref a340), (.ref a320), (.ref a320)]))
    have V362 : Arv Z h333 a340 kc334 .char (8 : Int32) [(.int 0)] (.int 0) := V342.pad (pad_rep [] (.int 0) 1)
    obtain ⟨c363, A364, q365, S366, M367, H368, U369⟩ := id V362
    obtain ⟨T370, h371, X372, e373, W374, st375⟩ := stC X335 hx hZ e336 A364 (j := (0 : Int32)) (inb_of S366 ⟨(by decide), (by decide)⟩) (g := (mkF m 81 #[rv pa, iv 8] [(.int x0), (.int 0), (.ref a340), (.ref a340), (.ref a320), (.ref a320)])) rfl rfl (hb hby dMK_81)
    have N376 := Fr.snoc X372 N0 nw345
    have V377 : Arv Z h371 a340 kc334 .char (8 : Int32) [(.int (nar .char x0))] (.int 0) := Arv.set A364 q365 S366 M367 H368 U369 (fits_nar_char _) W374 0 rfl (leB rfl)
    have nq379 : nar .char x0 = x0 := own_b.nar hb0
    have V378 : Arv Z h371 a340 kc334 .char (8 : Int32) [(.int x0)] (.int 0) := by rw [nq379] at V377; exact V377
    have A380 := A347.other W374 ne343
    have E381 := Exa.wr W374 E348
    have F382 := F349.other W374 (Or.inl ne344)
    have F383 := F350.other W374 (Or.inl ne344)
    have Z384 : n0 ≤ h371.size := by rw [W374.size]; exact Z351
    have O385 := O352.wr W374 nw345
    have K386 := K353.wr W374 (Or.inr hk346)
    have hz387 : h0.size ≤ h371.size := by rw [W374.size]; exact hz354
    refine Way.by st375 ?_
    show Way _ _ _ _ (T370.setTop (mkF m 82 #[rv pa, iv 8] [(.ref a340), (.ref a320), (.ref a320)]))
    try clear X335 e336 V342 A347 E348 F349 F350 Z351 O352 K353 hz354 V362 c363 A364 q365 S366 M367 H368 U369 W374 st375 V377
    try clear T332 h333
    refine Way.by (fun _ k => XS.dup X372.here hx rfl (hb hby dMK_82) rfl rfl k) ?_
    show Way _ _ _ _ (T370.setTop (mkF m 83 #[rv pa, iv 8] [(.ref a340), (.ref a340), (.ref a320), (.ref a320)]))
    refine Way.by (fun _ k => XS.iconst X372.here hx rfl (hb hby dMK_83) k) ?_
    show Way _ _ _ _ (T370.setTop (mkF m 84 #[rv pa, iv 8] [(.int 1), (.ref a340), (.ref a340), (.ref a320), (.ref a320)]))
    refine Way.by (fun _ k => XS.aloadN X372.here hx rfl (hb hby dMK_84) rfl rfl k) ?_
    show Way _ _ _ _ (T370.setTop (mkF m 85 #[rv pa, iv 8] [(.ref pa), (.int 1), (.ref a340), (.ref a340), (.ref a320), (.ref a320)]))
    refine Way.by (fun _ k => XS.iconst X372.here hx rfl (hb hby dMK_85) k) ?_
    show Way _ _ _ _ (T370.setTop (mkF m 86 #[rv pa, iv 8] [(.int 1), (.ref pa), (.int 1), (.ref a340), (.ref a340), (.ref a320), (.ref a320)]))
    obtain ⟨c388, A389, q390, S391, M392, H393, U394⟩ := id A380
    refine Way.by (fun t k => Stand.caload X372 hx (hpE e373 A389.1) (arrS hZ A389) A389.2.2 (inb_of S391 ⟨(by decide), (by decide)⟩) (Has.at H393 (inb_of S391 ⟨(by decide), (by decide)⟩) rfl) (g := (mkF m 86 #[rv pa, iv 8] [(.int 1), (.ref pa), (.int 1), (.ref a340), (.ref a340), (.ref a320), (.ref a320)])) rfl rfl (hb hby dMK_86) t k) ?_
    show Way _ _ _ _ (T370.setTop (mkF m 87 #[rv pa, iv 8] [(.int x1), (.int 1), (.ref a340), (.ref a340), (.ref a320), (.ref a320)]))
    have V395 : Arv Z h371 a340 kc334 .char (8 : Int32) [(.int x0), (.int 0)] (.int 0) := V378.pad (pad_rep [(.int x0)] (.int 0) 1)
    obtain ⟨c396, A397, q398, S399, M400, H401, U402⟩ := id V395
    obtain ⟨T403, h404, X405, e406, W407, st408⟩ := stC X372 hx hZ e373 A397 (j := (1 : Int32)) (inb_of S399 ⟨(by decide), (by decide)⟩) (g := (mkF m 87 #[rv pa, iv 8] [(.int x1), (.int 1), (.ref a340), (.ref a340), (.ref a320), (.ref a320)])) rfl rfl (hb hby dMK_87)
    have N409 := Fr.snoc X405 N376 nw345
    have V410 : Arv Z h404 a340 kc334 .char (8 : Int32) [(.int x0), (.int (nar .char x1))] (.int 0) := Arv.set A397 q398 S399 M400 H401 U402 (fits_nar_char _) W407 1 rfl (leB rfl)
    have nq412 : nar .char x1 = x1 := own_b.nar hb1
    have V411 : Arv Z h404 a340 kc334 .char (8 : Int32) [(.int x0), (.int x1)] (.int 0) := by rw [nq412] at V410; exact V410
    have A413 := A380.other W407 ne343
    have E414 := Exa.wr W407 E381
    have F415 := F382.other W407 (Or.inl ne344)
    have F416 := F383.other W407 (Or.inl ne344)
    have Z417 : n0 ≤ h404.size := by rw [W407.size]; exact Z384
    have O418 := O385.wr W407 nw345
    have K419 := K386.wr W407 (Or.inr hk346)
    have hz420 : h0.size ≤ h404.size := by rw [W407.size]; exact hz387
    refine Way.by st408 ?_
    show Way _ _ _ _ (T403.setTop (mkF m 88 #[rv pa, iv 8] [(.ref a340), (.ref a320), (.ref a320)]))
    try clear X372 e373 N376 V378 A380 E381 F382 F383 Z384 O385 K386 hz387 V395 c396 A397 q398 S399 M400 H401 U402 W407 st408 V410
    try clear T370 h371
    refine Way.by (fun _ k => XS.dup X405.here hx rfl (hb hby dMK_88) rfl rfl k) ?_
    show Way _ _ _ _ (T403.setTop (mkF m 89 #[rv pa, iv 8] [(.ref a340), (.ref a340), (.ref a320), (.ref a320)]))
    refine Way.by (fun _ k => XS.iconst X405.here hx rfl (hb hby dMK_89) k) ?_
    show Way _ _ _ _ (T403.setTop (mkF m 90 #[rv pa, iv 8] [(.int 2), (.ref a340), (.ref a340), (.ref a320), (.ref a320)]))
    refine Way.by (fun _ k => XS.aloadN X405.here hx rfl (hb hby dMK_90) rfl rfl k) ?_
    show Way _ _ _ _ (T403.setTop (mkF m 91 #[rv pa, iv 8] [(.ref pa), (.int 2), (.ref a340), (.ref a340), (.ref a320), (.ref a320)]))
    refine Way.by (fun _ k => XS.iconst X405.here hx rfl (hb hby dMK_91) k) ?_
    show Way _ _ _ _ (T403.setTop (mkF m 92 #[rv pa, iv 8] [(.int 2), (.ref pa), (.int 2), (.ref a340), (.ref a340), (.ref a320), (.ref a320)]))
    obtain ⟨c421, A422, q423, S424, M425, H426, U427⟩ := id A413
    refine Way.by (fun t k => Stand.caload X405 hx (hpE e406 A422.1) (arrS hZ A422) A422.2.2 (inb_of S424 ⟨(by decide), (by decide)⟩) (Has.at H426 (inb_of S424 ⟨(by decide), (by decide)⟩) rfl) (g := (mkF m 92 #[rv pa, iv 8] [(.int 2), (.ref pa), (.int 2), (.ref a340), (.ref a340), (.ref a320), (.ref a320)])) rfl rfl (hb hby dMK_92) t k) ?_
    show Way _ _ _ _ (T403.setTop (mkF m 93 #[rv pa, iv 8] [(.int x2), (.int 2), (.ref a340), (.ref a340), (.ref a320), (.ref a320)]))
    have V428 : Arv Z h404 a340 kc334 .char (8 : Int32) [(.int x0), (.int x1), (.int 0)] (.int 0) := V411.pad (pad_rep [(.int x0), (.int x1)] (.int 0) 1)
    obtain ⟨c429, A430, q431, S432, M433, H434, U435⟩ := id V428
    obtain ⟨T436, h437, X438, e439, W440, st441⟩ := stC X405 hx hZ e406 A430 (j := (2 : Int32)) (inb_of S432 ⟨(by decide), (by decide)⟩) (g := (mkF m 93 #[rv pa, iv 8] [(.int x2), (.int 2), (.ref a340), (.ref a340), (.ref a320), (.ref a320)])) rfl rfl (hb hby dMK_93)
    have N442 := Fr.snoc X438 N409 nw345
    have V443 : Arv Z h437 a340 kc334 .char (8 : Int32) [(.int x0), (.int x1), (.int (nar .char x2))] (.int 0) := Arv.set A430 q431 S432 M433 H434 U435 (fits_nar_char _) W440 2 rfl (leB rfl)
    have nq445 : nar .char x2 = x2 := own_b.nar hb2
    have V444 : Arv Z h437 a340 kc334 .char (8 : Int32) [(.int x0), (.int x1), (.int x2)] (.int 0) := by rw [nq445] at V443; exact V443
    have A446 := A413.other W440 ne343
    have E447 := Exa.wr W440 E414
    have F448 := F415.other W440 (Or.inl ne344)
    have F449 := F416.other W440 (Or.inl ne344)
    have Z450 : n0 ≤ h437.size := by rw [W440.size]; exact Z417
    have O451 := O418.wr W440 nw345
    have K452 := K419.wr W440 (Or.inr hk346)
    have hz453 : h0.size ≤ h437.size := by rw [W440.size]; exact hz420
    refine Way.by st441 ?_
    show Way _ _ _ _ (T436.setTop (mkF m 94 #[rv pa, iv 8] [(.ref a340), (.ref a320), (.ref a320)]))
    try clear X405 e406 N409 V411 A413 E414 F415 F416 Z417 O418 K419 hz420 V428 c429 A430 q431 S432 M433 H434 U435 W440 st441 V443
    try clear T403 h404
    refine Way.by (fun _ k => XS.dup X438.here hx rfl (hb hby dMK_94) rfl rfl k) ?_
    show Way _ _ _ _ (T436.setTop (mkF m 95 #[rv pa, iv 8] [(.ref a340), (.ref a340), (.ref a320), (.ref a320)]))
    refine Way.by (fun _ k => XS.iconst X438.here hx rfl (hb hby dMK_95) k) ?_
    show Way _ _ _ _ (T436.setTop (mkF m 96 #[rv pa, iv 8] [(.int 3), (.ref a340), (.ref a340), (.ref a320), (.ref a320)]))
    refine Way.by (fun _ k => XS.aloadN X438.here hx rfl (hb hby dMK_96) rfl rfl k) ?_
    show Way _ _ _ _ (T436.setTop (mkF m 97 #[rv pa, iv 8] [(.ref pa), (.int 3), (.ref a340), (.ref a340), (.ref a320), (.ref a320)]))
    refine Way.by (fun _ k => XS.iconst X438.here hx rfl (hb hby dMK_97) k) ?_
    show Way _ _ _ _ (T436.setTop (mkF m 98 #[rv pa, iv 8] [(.int 3), (.ref pa), (.int 3), (.ref a340), (.ref a340), (.ref a320), (.ref a320)]))
    obtain ⟨c454, A455, q456, S457, M458, H459, U460⟩ := id A446
    refine Way.by (fun t k => Stand.caload X438 hx (hpE e439 A455.1) (arrS hZ A455) A455.2.2 (inb_of S457 ⟨(by decide), (by decide)⟩) (Has.at H459 (inb_of S457 ⟨(by decide), (by decide)⟩) rfl) (g := (mkF m 98 #[rv pa, iv 8] [(.int 3), (.ref pa), (.int 3), (.ref a340), (.ref a340), (.ref a320), (.ref a320)])) rfl rfl (hb hby dMK_98) t k) ?_
    show Way _ _ _ _ (T436.setTop (mkF m 99 #[rv pa, iv 8] [(.int x3), (.int 3), (.ref a340), (.ref a340), (.ref a320), (.ref a320)]))
    have V461 : Arv Z h437 a340 kc334 .char (8 : Int32) [(.int x0), (.int x1), (.int x2), (.int 0)] (.int 0) := V444.pad (pad_rep [(.int x0), (.int x1), (.int x2)] (.int 0) 1)
    obtain ⟨c462, A463, q464, S465, M466, H467, U468⟩ := id V461
    obtain ⟨T469, h470, X471, e472, W473, st474⟩ := stC X438 hx hZ e439 A463 (j := (3 : Int32)) (inb_of S465 ⟨(by decide), (by decide)⟩) (g := (mkF m 99 #[rv pa, iv 8] [(.int x3), (.int 3), (.ref a340), (.ref a340), (.ref a320), (.ref a320)])) rfl rfl (hb hby dMK_99)
    have N475 := Fr.snoc X471 N442 nw345
    have V476 : Arv Z h470 a340 kc334 .char (8 : Int32) [(.int x0), (.int x1), (.int x2), (.int (nar .char x3))] (.int 0) := Arv.set A463 q464 S465 M466 H467 U468 (fits_nar_char _) W473 3 rfl (leB rfl)
    have nq478 : nar .char x3 = x3 := own_b.nar hb3
    have V477 : Arv Z h470 a340 kc334 .char (8 : Int32) [(.int x0), (.int x1), (.int x2), (.int x3)] (.int 0) := by rw [nq478] at V476; exact V476
    have A479 := A446.other W473 ne343
    have E480 := Exa.wr W473 E447
    have F481 := F448.other W473 (Or.inl ne344)
    have F482 := F449.other W473 (Or.inl ne344)
    have Z483 : n0 ≤ h470.size := by rw [W473.size]; exact Z450
    have O484 := O451.wr W473 nw345
    have K485 := K452.wr W473 (Or.inr hk346)
    have hz486 : h0.size ≤ h470.size := by rw [W473.size]; exact hz453
    refine Way.by st474 ?_
    show Way _ _ _ _ (T469.setTop (mkF m 100 #[rv pa, iv 8] [(.ref a340), (.ref a320), (.ref a320)]))
    try clear X438 e439 N442 V444 A446 E447 F448 F449 Z450 O451 K452 hz453 V461 c462 A463 q464 S465 M466 H467 U468 W473 st474 V476
    try clear T436 h437
    refine Way.by (fun _ k => XS.dup X471.here hx rfl (hb hby dMK_100) rfl rfl k) ?_
    show Way _ _ _ _ (T469.setTop (mkF m 101 #[rv pa, iv 8] [(.ref a340), (.ref a340), (.ref a320), (.ref a320)]))
    refine Way.by (fun _ k => XS.iconst X471.here hx rfl (hb hby dMK_101) k) ?_
    show Way _ _ _ _ (T469.setTop (mkF m 102 #[rv pa, iv 8] [(.int 4), (.ref a340), (.ref a340), (.ref a320), (.ref a320)]))
    refine Way.by (fun _ k => XS.aloadN X471.here hx rfl (hb hby dMK_102) rfl rfl k) ?_
    show Way _ _ _ _ (T469.setTop (mkF m 103 #[rv pa, iv 8] [(.ref pa), (.int 4), (.ref a340), (.ref a340), (.ref a320), (.ref a320)]))
    refine Way.by (fun _ k => XS.iconst X471.here hx rfl (hb hby dMK_103) k) ?_
    show Way _ _ _ _ (T469.setTop (mkF m 104 #[rv pa, iv 8] [(.int 4), (.ref pa), (.int 4), (.ref a340), (.ref a340), (.ref a320), (.ref a320)]))
    obtain ⟨c487, A488, q489, S490, M491, H492, U493⟩ := id A479
    refine Way.by (fun t k => Stand.caload X471 hx (hpE e472 A488.1) (arrS hZ A488) A488.2.2 (inb_of S490 ⟨(by decide), (by decide)⟩) (Has.at H492 (inb_of S490 ⟨(by decide), (by decide)⟩) rfl) (g := (mkF m 104 #[rv pa, iv 8] [(.int 4), (.ref pa), (.int 4), (.ref a340), (.ref a340), (.ref a320), (.ref a320)])) rfl rfl (hb hby dMK_104) t k) ?_
    show Way _ _ _ _ (T469.setTop (mkF m 105 #[rv pa, iv 8] [(.int x4), (.int 4), (.ref a340), (.ref a340), (.ref a320), (.ref a320)]))
    have V494 : Arv Z h470 a340 kc334 .char (8 : Int32) [(.int x0), (.int x1), (.int x2), (.int x3), (.int 0)] (.int 0) := V477.pad (pad_rep [(.int x0), (.int x1), (.int x2), (.int x3)] (.int 0) 1)
    obtain ⟨c495, A496, q497, S498, M499, H500, U501⟩ := id V494
    obtain ⟨T502, h503, X504, e505, W506, st507⟩ := stC X471 hx hZ e472 A496 (j := (4 : Int32)) (inb_of S498 ⟨(by decide), (by decide)⟩) (g := (mkF m 105 #[rv pa, iv 8] [(.int x4), (.int 4), (.ref a340), (.ref a340), (.ref a320), (.ref a320)])) rfl rfl (hb hby dMK_105)
    have N508 := Fr.snoc X504 N475 nw345
    have V509 : Arv Z h503 a340 kc334 .char (8 : Int32) [(.int x0), (.int x1), (.int x2), (.int x3), (.int (nar .char x4))] (.int 0) := Arv.set A496 q497 S498 M499 H500 U501 (fits_nar_char _) W506 4 rfl (leB rfl)
    have nq511 : nar .char x4 = x4 := own_b.nar hb4
    have V510 : Arv Z h503 a340 kc334 .char (8 : Int32) [(.int x0), (.int x1), (.int x2), (.int x3), (.int x4)] (.int 0) := by rw [nq511] at V509; exact V509
    have A512 := A479.other W506 ne343
    have E513 := Exa.wr W506 E480
    have F514 := F481.other W506 (Or.inl ne344)
    have F515 := F482.other W506 (Or.inl ne344)
    have Z516 : n0 ≤ h503.size := by rw [W506.size]; exact Z483
    have O517 := O484.wr W506 nw345
    have K518 := K485.wr W506 (Or.inr hk346)
    have hz519 : h0.size ≤ h503.size := by rw [W506.size]; exact hz486
    refine Way.by st507 ?_
    show Way _ _ _ _ (T502.setTop (mkF m 106 #[rv pa, iv 8] [(.ref a340), (.ref a320), (.ref a320)]))
    try clear X471 e472 N475 V477 A479 E480 F481 F482 Z483 O484 K485 hz486 V494 c495 A496 q497 S498 M499 H500 U501 W506 st507 V509
    try clear T469 h470
    refine Way.by (fun _ k => XS.dup X504.here hx rfl (hb hby dMK_106) rfl rfl k) ?_
    show Way _ _ _ _ (T502.setTop (mkF m 107 #[rv pa, iv 8] [(.ref a340), (.ref a340), (.ref a320), (.ref a320)]))
    refine Way.by (fun _ k => XS.iconst X504.here hx rfl (hb hby dMK_107) k) ?_
    show Way _ _ _ _ (T502.setTop (mkF m 108 #[rv pa, iv 8] [(.int 5), (.ref a340), (.ref a340), (.ref a320), (.ref a320)]))
    refine Way.by (fun _ k => XS.aloadN X504.here hx rfl (hb hby dMK_108) rfl rfl k) ?_
    show Way _ _ _ _ (T502.setTop (mkF m 109 #[rv pa, iv 8] [(.ref pa), (.int 5), (.ref a340), (.ref a340), (.ref a320), (.ref a320)]))
    refine Way.by (fun _ k => XS.iconst X504.here hx rfl (hb hby dMK_109) k) ?_
    show Way _ _ _ _ (T502.setTop (mkF m 110 #[rv pa, iv 8] [(.int 5), (.ref pa), (.int 5), (.ref a340), (.ref a340), (.ref a320), (.ref a320)]))
    obtain ⟨c520, A521, q522, S523, M524, H525, U526⟩ := id A512
    refine Way.by (fun t k => Stand.caload X504 hx (hpE e505 A521.1) (arrS hZ A521) A521.2.2 (inb_of S523 ⟨(by decide), (by decide)⟩) (Has.at H525 (inb_of S523 ⟨(by decide), (by decide)⟩) rfl) (g := (mkF m 110 #[rv pa, iv 8] [(.int 5), (.ref pa), (.int 5), (.ref a340), (.ref a340), (.ref a320), (.ref a320)])) rfl rfl (hb hby dMK_110) t k) ?_
    show Way _ _ _ _ (T502.setTop (mkF m 111 #[rv pa, iv 8] [(.int x5), (.int 5), (.ref a340), (.ref a340), (.ref a320), (.ref a320)]))
    have V527 : Arv Z h503 a340 kc334 .char (8 : Int32) [(.int x0), (.int x1), (.int x2), (.int x3), (.int x4), (.int 0)] (.int 0) := V510.pad (pad_rep [(.int x0), (.int x1), (.int x2), (.int x3), (.int x4)] (.int 0) 1)
    obtain ⟨c528, A529, q530, S531, M532, H533, U534⟩ := id V527
    obtain ⟨T535, h536, X537, e538, W539, st540⟩ := stC X504 hx hZ e505 A529 (j := (5 : Int32)) (inb_of S531 ⟨(by decide), (by decide)⟩) (g := (mkF m 111 #[rv pa, iv 8] [(.int x5), (.int 5), (.ref a340), (.ref a340), (.ref a320), (.ref a320)])) rfl rfl (hb hby dMK_111)
    have N541 := Fr.snoc X537 N508 nw345
    have V542 : Arv Z h536 a340 kc334 .char (8 : Int32) [(.int x0), (.int x1), (.int x2), (.int x3), (.int x4), (.int (nar .char x5))] (.int 0) := Arv.set A529 q530 S531 M532 H533 U534 (fits_nar_char _) W539 5 rfl (leB rfl)
    have nq544 : nar .char x5 = x5 := own_b.nar hb5
    have V543 : Arv Z h536 a340 kc334 .char (8 : Int32) [(.int x0), (.int x1), (.int x2), (.int x3), (.int x4), (.int x5)] (.int 0) := by rw [nq544] at V542; exact V542
    have A545 := A512.other W539 ne343
    have E546 := Exa.wr W539 E513
    have F547 := F514.other W539 (Or.inl ne344)
    have F548 := F515.other W539 (Or.inl ne344)
    have Z549 : n0 ≤ h536.size := by rw [W539.size]; exact Z516
    have O550 := O517.wr W539 nw345
    have K551 := K518.wr W539 (Or.inr hk346)
    have hz552 : h0.size ≤ h536.size := by rw [W539.size]; exact hz519
    refine Way.by st540 ?_
    show Way _ _ _ _ (T535.setTop (mkF m 112 #[rv pa, iv 8] [(.ref a340), (.ref a320), (.ref a320)]))
    try clear X504 e505 N508 V510 A512 E513 F514 F515 Z516 O517 K518 hz519 V527 c528 A529 q530 S531 M532 H533 U534 W539 st540 V542
    try clear T502 h503
    refine Way.by (fun _ k => XS.dup X537.here hx rfl (hb hby dMK_112) rfl rfl k) ?_
    show Way _ _ _ _ (T535.setTop (mkF m 113 #[rv pa, iv 8] [(.ref a340), (.ref a340), (.ref a320), (.ref a320)]))
    refine Way.by (fun _ k => XS.bipush X537.here hx rfl (hb hby dMK_113) k) ?_
    show Way _ _ _ _ (T535.setTop (mkF m 115 #[rv pa, iv 8] [(.int 6), (.ref a340), (.ref a340), (.ref a320), (.ref a320)]))
    refine Way.by (fun _ k => XS.aloadN X537.here hx rfl (hb hby dMK_115) rfl rfl k) ?_
    show Way _ _ _ _ (T535.setTop (mkF m 116 #[rv pa, iv 8] [(.ref pa), (.int 6), (.ref a340), (.ref a340), (.ref a320), (.ref a320)]))
    refine Way.by (fun _ k => XS.bipush X537.here hx rfl (hb hby dMK_116) k) ?_
    show Way _ _ _ _ (T535.setTop (mkF m 118 #[rv pa, iv 8] [(.int 6), (.ref pa), (.int 6), (.ref a340), (.ref a340), (.ref a320), (.ref a320)]))
    obtain ⟨c553, A554, q555, S556, M557, H558, U559⟩ := id A545
    refine Way.by (fun t k => Stand.caload X537 hx (hpE e538 A554.1) (arrS hZ A554) A554.2.2 (inb_of S556 ⟨(by decide), (by decide)⟩) (Has.at H558 (inb_of S556 ⟨(by decide), (by decide)⟩) rfl) (g := (mkF m 118 #[rv pa, iv 8] [(.int 6), (.ref pa), (.int 6), (.ref a340), (.ref a340), (.ref a320), (.ref a320)])) rfl rfl (hb hby dMK_118) t k) ?_
    show Way _ _ _ _ (T535.setTop (mkF m 119 #[rv pa, iv 8] [(.int x6), (.int 6), (.ref a340), (.ref a340), (.ref a320), (.ref a320)]))
    have V560 : Arv Z h536 a340 kc334 .char (8 : Int32) [(.int x0), (.int x1), (.int x2), (.int x3), (.int x4), (.int x5), (.int 0)] (.int 0) := V543.pad (pad_rep [(.int x0), (.int x1), (.int x2), (.int x3), (.int x4), (.int x5)] (.int 0) 1)
    obtain ⟨c561, A562, q563, S564, M565, H566, U567⟩ := id V560
    obtain ⟨T568, h569, X570, e571, W572, st573⟩ := stC X537 hx hZ e538 A562 (j := (6 : Int32)) (inb_of S564 ⟨(by decide), (by decide)⟩) (g := (mkF m 119 #[rv pa, iv 8] [(.int x6), (.int 6), (.ref a340), (.ref a340), (.ref a320), (.ref a320)])) rfl rfl (hb hby dMK_119)
    have N574 := Fr.snoc X570 N541 nw345
    have V575 : Arv Z h569 a340 kc334 .char (8 : Int32) [(.int x0), (.int x1), (.int x2), (.int x3), (.int x4), (.int x5), (.int (nar .char x6))] (.int 0) := Arv.set A562 q563 S564 M565 H566 U567 (fits_nar_char _) W572 6 rfl (leB rfl)
    have nq577 : nar .char x6 = x6 := own_b.nar hb6
    have V576 : Arv Z h569 a340 kc334 .char (8 : Int32) [(.int x0), (.int x1), (.int x2), (.int x3), (.int x4), (.int x5), (.int x6)] (.int 0) := by rw [nq577] at V575; exact V575
    have A578 := A545.other W572 ne343
    have E579 := Exa.wr W572 E546
    have F580 := F547.other W572 (Or.inl ne344)
    have F581 := F548.other W572 (Or.inl ne344)
    have Z582 : n0 ≤ h569.size := by rw [W572.size]; exact Z549
    have O583 := O550.wr W572 nw345
    have K584 := K551.wr W572 (Or.inr hk346)
    have hz585 : h0.size ≤ h569.size := by rw [W572.size]; exact hz552
    refine Way.by st573 ?_
    show Way _ _ _ _ (T568.setTop (mkF m 120 #[rv pa, iv 8] [(.ref a340), (.ref a320), (.ref a320)]))
    try clear X537 e538 N541 V543 A545 E546 F547 F548 Z549 O550 K551 hz552 V560 c561 A562 q563 S564 M565 H566 U567 W572 st573 V575
    try clear T535 h536
    refine Way.by (fun _ k => XS.dup X570.here hx rfl (hb hby dMK_120) rfl rfl k) ?_
    show Way _ _ _ _ (T568.setTop (mkF m 121 #[rv pa, iv 8] [(.ref a340), (.ref a340), (.ref a320), (.ref a320)]))
    refine Way.by (fun _ k => XS.bipush X570.here hx rfl (hb hby dMK_121) k) ?_
    show Way _ _ _ _ (T568.setTop (mkF m 123 #[rv pa, iv 8] [(.int 7), (.ref a340), (.ref a340), (.ref a320), (.ref a320)]))
    refine Way.by (fun _ k => XS.aloadN X570.here hx rfl (hb hby dMK_123) rfl rfl k) ?_
    show Way _ _ _ _ (T568.setTop (mkF m 124 #[rv pa, iv 8] [(.ref pa), (.int 7), (.ref a340), (.ref a340), (.ref a320), (.ref a320)]))
    refine Way.by (fun _ k => XS.bipush X570.here hx rfl (hb hby dMK_124) k) ?_
    show Way _ _ _ _ (T568.setTop (mkF m 126 #[rv pa, iv 8] [(.int 7), (.ref pa), (.int 7), (.ref a340), (.ref a340), (.ref a320), (.ref a320)]))
    obtain ⟨c586, A587, q588, S589, M590, H591, U592⟩ := id A578
    refine Way.by (fun t k => Stand.caload X570 hx (hpE e571 A587.1) (arrS hZ A587) A587.2.2 (inb_of S589 ⟨(by decide), (by decide)⟩) (Has.at H591 (inb_of S589 ⟨(by decide), (by decide)⟩) rfl) (g := (mkF m 126 #[rv pa, iv 8] [(.int 7), (.ref pa), (.int 7), (.ref a340), (.ref a340), (.ref a320), (.ref a320)])) rfl rfl (hb hby dMK_126) t k) ?_
    show Way _ _ _ _ (T568.setTop (mkF m 127 #[rv pa, iv 8] [(.int x7), (.int 7), (.ref a340), (.ref a340), (.ref a320), (.ref a320)]))
    have V593 : Arv Z h569 a340 kc334 .char (8 : Int32) [(.int x0), (.int x1), (.int x2), (.int x3), (.int x4), (.int x5), (.int x6), (.int 0)] (.int 0) := V576.pad (pad_rep [(.int x0), (.int x1), (.int x2), (.int x3), (.int x4), (.int x5), (.int x6)] (.int 0) 1)
    obtain ⟨c594, A595, q596, S597, M598, H599, U600⟩ := id V593
    obtain ⟨T601, h602, X603, e604, W605, st606⟩ := stC X570 hx hZ e571 A595 (j := (7 : Int32)) (inb_of S597 ⟨(by decide), (by decide)⟩) (g := (mkF m 127 #[rv pa, iv 8] [(.int x7), (.int 7), (.ref a340), (.ref a340), (.ref a320), (.ref a320)])) rfl rfl (hb hby dMK_127)
    have N607 := Fr.snoc X603 N574 nw345
    have V608 : Arv Z h602 a340 kc334 .char (8 : Int32) [(.int x0), (.int x1), (.int x2), (.int x3), (.int x4), (.int x5), (.int x6), (.int (nar .char x7))] (.int 0) := Arv.set A595 q596 S597 M598 H599 U600 (fits_nar_char _) W605 7 rfl (leB rfl)
    have nq610 : nar .char x7 = x7 := own_b.nar hb7
    have V609 : Arv Z h602 a340 kc334 .char (8 : Int32) [(.int x0), (.int x1), (.int x2), (.int x3), (.int x4), (.int x5), (.int x6), (.int x7)] (.int 0) := by rw [nq610] at V608; exact V608
    have A611 := A578.other W605 ne343
    have E612 := Exa.wr W605 E579
    have F613 := F580.other W605 (Or.inl ne344)
    have F614 := F581.other W605 (Or.inl ne344)
    have Z615 : n0 ≤ h602.size := by rw [W605.size]; exact Z582
    have O616 := O583.wr W605 nw345
    have K617 := K584.wr W605 (Or.inr hk346)
    have hz618 : h0.size ≤ h602.size := by rw [W605.size]; exact hz585
    refine Way.by st606 ?_
    show Way _ _ _ _ (T601.setTop (mkF m 128 #[rv pa, iv 8] [(.ref a340), (.ref a320), (.ref a320)]))
    try clear X570 e571 N574 V576 A578 E579 F580 F581 Z582 O583 K584 hz585 V593 c594 A595 q596 S597 M598 H599 U600 W605 st606 V608
    try clear T568 h569
    have hp619 : ∀ c ∈ ([x0, x1, x2, x3, x4, x5, x6, x7] : List Int32), ¬ c < 0 ∧ ¬ (255 : Int32) < c := by intro c hc; simp only [List.mem_cons, List.not_mem_nil, or_false] at hc; rcases hc with rfl | rfl | rfl | rfl | rfl | rfl | rfl | rfl <;> assumption
    obtain ⟨_, _, ⟨T620, L622, k623, n624⟩, -, X621, ⟨Lc625, hQ626, l627, y628, z629⟩, st630⟩ := X603.specialBack hx (y := (⟨"java/lang/String", "<init>", "([C)V"⟩ : MethodName)) rfl hown (mvT hZ (tw hw 56 rfl)) (mvT hZ (tw hw 57 rfl)) (mvT hZ (tw hw 58 rfl)) (by decide) (own_new (W := 1) (n0 := n0) hZ hw SV O616 (cs := [x0, x1, x2, x3, x4, x5, x6, x7]) (n := 8) nw323 Z615 E612 F613 F614 V609 rfl rfl (by decide) (by decide) hp619 (by decide) (by decide)) (g := (mkF m 128 #[rv pa, iv 8] [(.ref a340), (.ref a320), (.ref a320)])) rfl (by rw [hml]; rfl) (Steps.refl _) (a := a320) (argsL := [(.ref a340)]) (rest := [(.ref a320)]) (lenOf own_pdNew rfl) rfl (leW rfl) (hb hby dMK_128) (fun _ _ => ⟨rfl, e604, (leB rfl), (leB rfl)⟩)
    dsimp only [Pt.U, Pt.locs, Pt.cells, Pt.slots] at X621 l627 y628 z629 st630 hQ626
    subst y628 z629
    obtain ⟨rfl, N636, K637, x_t640, fr_t639, F638⟩ := hQ626
    have N631 : Fr n0 L622 := by rw [l627]; exact Fr.app N607 N636
    have ne641 : pa ≠ x_t640 := Nat.ne_of_lt (Nat.lt_of_lt_of_le A611.lt fr_t639)
    have ne642 : a320 ≠ x_t640 := Nat.ne_of_lt (Nat.lt_of_lt_of_le E612.lt fr_t639)
    have ne643 : a340 ≠ x_t640 := Nat.ne_of_lt (Nat.lt_of_lt_of_le V609.lt fr_t639)
    have nw644 : n0 ≤ x_t640 := Nat.le_trans Z615 fr_t639
    have hk645 : h0.size ≤ x_t640 := Nat.le_trans hz618 fr_t639
    have A646 := A611.keep K637 (ninS ne322 nin0)
    have E647 := E612.keep K637
    have A648 := V609.keep K637 (ninS ne344.symm nin0)
    have Z649 := Nat.le_trans Z615 K637.1
    have O650 := O616.keep K637 (allS nw323 all0)
    have K651 := K617.trans K637 (allS (Or.inr hk324) all0)
    have hz652 := Nat.le_trans hz618 K637.1
    refine Way.to st630 ?_
    show Way _ _ _ _ (T620.setTop (mkF m 131 #[rv pa, iv 8] [(.ref a320)]))
    try clear X603 e604 N607 V609 A611 E612 F613 F614 Z615 O616 K617 hz618 st630 N636 K637
    try clear T601 h602
    refine Way.ret (v := (some (.ref a320))) X621 hlk (fun h => by rw [Bd.returns] at h; cases h) (fun fs hr => retOut X621 hx Bd.returns rfl (Or.inr (Or.inr (Or.inr (Or.inr ⟨rfl, rfl, rfl⟩)))) (hb hby dMK_131) hr) ?_ (by decide) (by decide)
    show QMK Z pa ka _ x0 x1 x2 x3 x4 x5 x6 x7 x8 x9 x10 x11 x12 x13 x14 x15 h0 n0 _ T620.heap _
    skip
    exact ⟨a320, x_t640, [x0, x1, x2, x3, x4, x5, x6, x7], rfl, N631, K651, hk324, hk645, F638⟩
  · skip
    show Way _ _ _ _ (s₁.setTop (mkF m 0 #[rv pa, iv 9] []))
    refine Way.by (fun _ k => XS.iloadN X0.here hx rfl (hb hby dMK_0) rfl k) ?_
    show Way _ _ _ _ (s₁.setTop (mkF m 1 #[rv pa, iv 9] [(.int 9)]))
    refine Way.by (fun _ k => XS.bipush X0.here hx rfl (hb hby dMK_1) k) ?_
    show Way _ _ _ _ (s₁.setTop (mkF m 3 #[rv pa, iv 9] [(.int 7), (.int 9)]))
    have b653 : ¬ (9 : Int32) = (7 : Int32) := by decide
    refine Way.by (fun _ k => XS.icmpYes X0.here hx rfl (pc0 := 3) (pc' := 62) rfl (hb hby dMK_3) rfl (feq b653).2 (by decide) (by decide) k) ?_
    show Way _ _ _ _ (s₁.setTop (mkF m 62 #[rv pa, iv 9] []))
    refine Way.by (fun _ k => XS.iloadN X0.here hx rfl (hb hby dMK_62) rfl k) ?_
    show Way _ _ _ _ (s₁.setTop (mkF m 63 #[rv pa, iv 9] [(.int 9)]))
    refine Way.by (fun _ k => XS.bipush X0.here hx rfl (hb hby dMK_63) k) ?_
    show Way _ _ _ _ (s₁.setTop (mkF m 65 #[rv pa, iv 9] [(.int 8), (.int 9)]))
    have b654 : ¬ (9 : Int32) = (8 : Int32) := by decide
    refine Way.by (fun _ k => XS.icmpYes X0.here hx rfl (pc0 := 65) (pc' := 132) rfl (hb hby dMK_65) rfl (feq b654).2 (by decide) (by decide) k) ?_
    show Way _ _ _ _ (s₁.setTop (mkF m 132 #[rv pa, iv 9] []))
    refine Way.by (fun _ k => XS.iloadN X0.here hx rfl (hb hby dMK_132) rfl k) ?_
    show Way _ _ _ _ (s₁.setTop (mkF m 133 #[rv pa, iv 9] [(.int 9)]))
    refine Way.by (fun _ k => XS.bipush X0.here hx rfl (hb hby dMK_133) k) ?_
    show Way _ _ _ _ (s₁.setTop (mkF m 135 #[rv pa, iv 9] [(.int 9), (.int 9)]))
    have b655 : (9 : Int32) = (9 : Int32) := by decide
    refine Way.by (fun _ k => XS.icmpNo X0.here hx rfl (hb hby dMK_135) rfl (teq b655).2 k) ?_
    show Way _ _ _ _ (s₁.setTop (mkF m 138 #[rv pa, iv 9] []))
    obtain ⟨T656, h657, X658, e659, E660, A661, D662, -, st663⟩ := newO X0 hx hZ hown (tw hw 55 rfl) (tw hw 3 rfl) (tw hw 2 rfl) e0 (g := (mkF m 138 #[rv pa, iv 9] [])) rfl (hb hby dMK_138) (by decide) (by decide)
    obtain ⟨a664, g665⟩ : ∃ z, z = h0.size := ⟨_, rfl⟩
    rw [← g665] at A661 D662 st663
    have ne666 : pa ≠ a664 := Nat.ne_of_lt (Nat.lt_of_lt_of_eq H0.lt g665.symm)
    have nw667 : n0 ≤ a664 := Nat.le_trans Z0 (Nat.le_of_eq g665.symm)
    have hk668 : h0.size ≤ a664 := Nat.le_trans (Nat.le_refl h0.size) (Nat.le_of_eq g665.symm)
    have A669 := H0.ext E660
    have Z670 := Nat.le_trans Z0 E660.1
    have O671 := O0.ext E660
    have K672 := (Keep.refl h0 []).ext E660
    have hz673 := Nat.le_trans (Nat.le_refl h0.size) E660.1
    have F674 : Fld Z h657 a664 "java/lang/String" "value" "[B" .null := D662 (Or.inr (tw hw 5 rfl)) (ty := (.array .byte)) (by decide)
    have F675 : Fld Z h657 a664 "java/lang/String" "coder" "B" (.int 0) := D662 (Or.inr (tw hw 6 rfl)) (ty := .byte) (by decide)
    refine Way.by st663 ?_
    show Way _ _ _ _ (T656.setTop (mkF m 141 #[rv pa, iv 9] [(.ref a664)]))
    refine Way.by (fun _ k => XS.dup X658.here hx rfl (hb hby dMK_141) rfl rfl k) ?_
    show Way _ _ _ _ (T656.setTop (mkF m 142 #[rv pa, iv 9] [(.ref a664), (.ref a664)]))
    refine Way.by (fun _ k => XS.bipush X658.here hx rfl (hb hby dMK_142) k) ?_
    show Way _ _ _ _ (T656.setTop (mkF m 144 #[rv pa, iv 9] [(.int 9), (.ref a664), (.ref a664)]))
    obtain ⟨T676, h677, kc678, X679, e680, E681, A682, st683⟩ := newP X658 hx hZ (tw hw 22 rfl) e659 (g := (mkF m 144 #[rv pa, iv 9] [(.int 9), (.ref a664), (.ref a664)])) rfl (hb hby dMK_144) rfl (by decide) (cap := 9) (by decide) (by decide) (by decide) (by decide)
    obtain ⟨a684, g685⟩ : ∃ z, z = h657.size := ⟨_, rfl⟩
    rw [← g685] at A682 st683
    have ne687 : pa ≠ a684 := Nat.ne_of_lt (Nat.lt_of_lt_of_eq A669.lt g685.symm)
    have ne688 : a664 ≠ a684 := Nat.ne_of_lt (Nat.lt_of_lt_of_eq A661.lt g685.symm)
    have nw689 : n0 ≤ a684 := Nat.le_trans Z670 (Nat.le_of_eq g685.symm)
    have hk690 : h0.size ≤ a684 := Nat.le_trans hz673 (Nat.le_of_eq g685.symm)
    have A691 := A669.ext E681
    have E692 := Exa.ext E681 A661
    have F693 := Fld.ext E681 F674
    have F694 := Fld.ext E681 F675
    have Z695 := Nat.le_trans Z670 E681.1
    have O696 := O671.ext E681
    have K697 := K672.ext E681
    have hz698 := Nat.le_trans hz673 E681.1
    have V686 : Arv Z h677 a684 kc678 .char (9 : Int32) [] (.int 0) := Arv.new A682 (by decide)
    refine Way.by st683 ?_
    show Way _ _ _ _ (T676.setTop (mkF m 146 #[rv pa, iv 9] [(.ref a684), (.ref a664), (.ref a664)]))
    try clear X658 e659 A661 A669 Z670 O671 K672 hz673 F674 F675 E681 A682 st683
    try clear T656 h657
    refine Way.by (fun _ k => XS.dup X679.here hx rfl (hb hby dMK_146) rfl rfl k) ?_
    show Way _ _ _ _ (T676.setTop (mkF m 147 #[rv pa, iv 9] [(.ref a684), (.ref a684), (.ref a664), (.ref a664)]))
    refine Way.by (fun _ k => XS.iconst X679.here hx rfl (hb hby dMK_147) k) ?_
    show Way _ _ _ _ (T676.setTop (mkF m 148 #[rv pa, iv 9] [(.int 0), (.ref a684), (.ref a684), (.ref a664), (.ref a664)]))
    refine Way.by (fun _ k => XS.aloadN X679.here hx rfl (hb hby dMK_148) rfl rfl k) ?_
    show Way _ _ _ _ (T676.setTop (mkF m 149 #[rv pa, iv 9] [(.ref pa), (.int 0), (.ref a684), (.ref a684), (.ref a664), (.ref a664)]))
    refine Way.by (fun _ k => XS.iconst X679.here hx rfl (hb hby dMK_149) k) ?_
    show Way _ _ _ _ (T676.setTop (mkF m 150 #[rv pa, iv 9] [(.int 0), (.ref pa), (.int 0), (.ref a684), (.ref a684), (.ref a664), (.ref a664)]))
    obtain ⟨c699, A700, q701, S702, M703, H704, U705⟩ := id A691
    refine Way.by (fun t k => Stand.caload X679 hx (hpE e680 A700.1) (arrS hZ A700) A700.2.2 (inb_of S702 ⟨(by decide), (by decide)⟩) (Has.at H704 (inb_of S702 ⟨(by decide), (by decide)⟩) rfl) (g := (mkF m 150 #[rv pa, iv 9] [(.int 0), (.ref pa), (.int 0), (.ref a684), (.ref a684), (.ref a664), (.ref a664)])) rfl rfl (hb hby dMK_150) t k) ?_
    show Way _ _ _ _ (T676.setTop (mkF m 151 #[rv pa, iv 9] [(.int x0), (.int 0), (.ref a684), (.ref a684), (.ref a664), (.ref a664)]))
    have V706 : Arv Z h677 a684 kc678 .char (9 : Int32) [(.int 0)] (.int 0) := V686.pad (pad_rep [] (.int 0) 1)
    obtain ⟨c707, A708, q709, S710, M711, H712, U713⟩ := id V706
    obtain ⟨T714, h715, X716, e717, W718, st719⟩ := stC X679 hx hZ e680 A708 (j := (0 : Int32)) (inb_of S710 ⟨(by decide), (by decide)⟩) (g := (mkF m 151 #[rv pa, iv 9] [(.int x0), (.int 0), (.ref a684), (.ref a684), (.ref a664), (.ref a664)])) rfl rfl (hb hby dMK_151)
    have N720 := Fr.snoc X716 N0 nw689
    have V721 : Arv Z h715 a684 kc678 .char (9 : Int32) [(.int (nar .char x0))] (.int 0) := Arv.set A708 q709 S710 M711 H712 U713 (fits_nar_char _) W718 0 rfl (leB rfl)
    have nq723 : nar .char x0 = x0 := own_b.nar hb0
    have V722 : Arv Z h715 a684 kc678 .char (9 : Int32) [(.int x0)] (.int 0) := by rw [nq723] at V721; exact V721
    have A724 := A691.other W718 ne687
    have E725 := Exa.wr W718 E692
    have F726 := F693.other W718 (Or.inl ne688)
    have F727 := F694.other W718 (Or.inl ne688)
    have Z728 : n0 ≤ h715.size := by rw [W718.size]; exact Z695
    have O729 := O696.wr W718 nw689
    have K730 := K697.wr W718 (Or.inr hk690)
    have hz731 : h0.size ≤ h715.size := by rw [W718.size]; exact hz698
    refine Way.by st719 ?_
    show Way _ _ _ _ (T714.setTop (mkF m 152 #[rv pa, iv 9] [(.ref a684), (.ref a664), (.ref a664)]))
    try clear X679 e680 V686 A691 E692 F693 F694 Z695 O696 K697 hz698 V706 c707 A708 q709 S710 M711 H712 U713 W718 st719 V721
    try clear T676 h677
    refine Way.by (fun _ k => XS.dup X716.here hx rfl (hb hby dMK_152) rfl rfl k) ?_
    show Way _ _ _ _ (T714.setTop (mkF m 153 #[rv pa, iv 9] [(.ref a684), (.ref a684), (.ref a664), (.ref a664)]))
    refine Way.by (fun _ k => XS.iconst X716.here hx rfl (hb hby dMK_153) k) ?_
    show Way _ _ _ _ (T714.setTop (mkF m 154 #[rv pa, iv 9] [(.int 1), (.ref a684), (.ref a684), (.ref a664), (.ref a664)]))
    refine Way.by (fun _ k => XS.aloadN X716.here hx rfl (hb hby dMK_154) rfl rfl k) ?_
    show Way _ _ _ _ (T714.setTop (mkF m 155 #[rv pa, iv 9] [(.ref pa), (.int 1), (.ref a684), (.ref a684), (.ref a664), (.ref a664)]))
    refine Way.by (fun _ k => XS.iconst X716.here hx rfl (hb hby dMK_155) k) ?_
    show Way _ _ _ _ (T714.setTop (mkF m 156 #[rv pa, iv 9] [(.int 1), (.ref pa), (.int 1), (.ref a684), (.ref a684), (.ref a664), (.ref a664)]))
    obtain ⟨c732, A733, q734, S735, M736, H737, U738⟩ := id A724
    refine Way.by (fun t k => Stand.caload X716 hx (hpE e717 A733.1) (arrS hZ A733) A733.2.2 (inb_of S735 ⟨(by decide), (by decide)⟩) (Has.at H737 (inb_of S735 ⟨(by decide), (by decide)⟩) rfl) (g := (mkF m 156 #[rv pa, iv 9] [(.int 1), (.ref pa), (.int 1), (.ref a684), (.ref a684), (.ref a664), (.ref a664)])) rfl rfl (hb hby dMK_156) t k) ?_
    show Way _ _ _ _ (T714.setTop (mkF m 157 #[rv pa, iv 9] [(.int x1), (.int 1), (.ref a684), (.ref a684), (.ref a664), (.ref a664)]))
    have V739 : Arv Z h715 a684 kc678 .char (9 : Int32) [(.int x0), (.int 0)] (.int 0) := V722.pad (pad_rep [(.int x0)] (.int 0) 1)
    obtain ⟨c740, A741, q742, S743, M744, H745, U746⟩ := id V739
    obtain ⟨T747, h748, X749, e750, W751, st752⟩ := stC X716 hx hZ e717 A741 (j := (1 : Int32)) (inb_of S743 ⟨(by decide), (by decide)⟩) (g := (mkF m 157 #[rv pa, iv 9] [(.int x1), (.int 1), (.ref a684), (.ref a684), (.ref a664), (.ref a664)])) rfl rfl (hb hby dMK_157)
    have N753 := Fr.snoc X749 N720 nw689
    have V754 : Arv Z h748 a684 kc678 .char (9 : Int32) [(.int x0), (.int (nar .char x1))] (.int 0) := Arv.set A741 q742 S743 M744 H745 U746 (fits_nar_char _) W751 1 rfl (leB rfl)
    have nq756 : nar .char x1 = x1 := own_b.nar hb1
    have V755 : Arv Z h748 a684 kc678 .char (9 : Int32) [(.int x0), (.int x1)] (.int 0) := by rw [nq756] at V754; exact V754
    have A757 := A724.other W751 ne687
    have E758 := Exa.wr W751 E725
    have F759 := F726.other W751 (Or.inl ne688)
    have F760 := F727.other W751 (Or.inl ne688)
    have Z761 : n0 ≤ h748.size := by rw [W751.size]; exact Z728
    have O762 := O729.wr W751 nw689
    have K763 := K730.wr W751 (Or.inr hk690)
    have hz764 : h0.size ≤ h748.size := by rw [W751.size]; exact hz731
    refine Way.by st752 ?_
    show Way _ _ _ _ (T747.setTop (mkF m 158 #[rv pa, iv 9] [(.ref a684), (.ref a664), (.ref a664)]))
    try clear X716 e717 N720 V722 A724 E725 F726 F727 Z728 O729 K730 hz731 V739 c740 A741 q742 S743 M744 H745 U746 W751 st752 V754
    try clear T714 h715
    refine Way.by (fun _ k => XS.dup X749.here hx rfl (hb hby dMK_158) rfl rfl k) ?_
    show Way _ _ _ _ (T747.setTop (mkF m 159 #[rv pa, iv 9] [(.ref a684), (.ref a684), (.ref a664), (.ref a664)]))
    refine Way.by (fun _ k => XS.iconst X749.here hx rfl (hb hby dMK_159) k) ?_
    show Way _ _ _ _ (T747.setTop (mkF m 160 #[rv pa, iv 9] [(.int 2), (.ref a684), (.ref a684), (.ref a664), (.ref a664)]))
    refine Way.by (fun _ k => XS.aloadN X749.here hx rfl (hb hby dMK_160) rfl rfl k) ?_
    show Way _ _ _ _ (T747.setTop (mkF m 161 #[rv pa, iv 9] [(.ref pa), (.int 2), (.ref a684), (.ref a684), (.ref a664), (.ref a664)]))
    refine Way.by (fun _ k => XS.iconst X749.here hx rfl (hb hby dMK_161) k) ?_
    show Way _ _ _ _ (T747.setTop (mkF m 162 #[rv pa, iv 9] [(.int 2), (.ref pa), (.int 2), (.ref a684), (.ref a684), (.ref a664), (.ref a664)]))
    obtain ⟨c765, A766, q767, S768, M769, H770, U771⟩ := id A757
    refine Way.by (fun t k => Stand.caload X749 hx (hpE e750 A766.1) (arrS hZ A766) A766.2.2 (inb_of S768 ⟨(by decide), (by decide)⟩) (Has.at H770 (inb_of S768 ⟨(by decide), (by decide)⟩) rfl) (g := (mkF m 162 #[rv pa, iv 9] [(.int 2), (.ref pa), (.int 2), (.ref a684), (.ref a684), (.ref a664), (.ref a664)])) rfl rfl (hb hby dMK_162) t k) ?_
    show Way _ _ _ _ (T747.setTop (mkF m 163 #[rv pa, iv 9] [(.int x2), (.int 2), (.ref a684), (.ref a684), (.ref a664), (.ref a664)]))
    have V772 : Arv Z h748 a684 kc678 .char (9 : Int32) [(.int x0), (.int x1), (.int 0)] (.int 0) := V755.pad (pad_rep [(.int x0), (.int x1)] (.int 0) 1)
    obtain ⟨c773, A774, q775, S776, M777, H778, U779⟩ := id V772
    obtain ⟨T780, h781, X782, e783, W784, st785⟩ := stC X749 hx hZ e750 A774 (j := (2 : Int32)) (inb_of S776 ⟨(by decide), (by decide)⟩) (g := (mkF m 163 #[rv pa, iv 9] [(.int x2), (.int 2), (.ref a684), (.ref a684), (.ref a664), (.ref a664)])) rfl rfl (hb hby dMK_163)
    have N786 := Fr.snoc X782 N753 nw689
    have V787 : Arv Z h781 a684 kc678 .char (9 : Int32) [(.int x0), (.int x1), (.int (nar .char x2))] (.int 0) := Arv.set A774 q775 S776 M777 H778 U779 (fits_nar_char _) W784 2 rfl (leB rfl)
    have nq789 : nar .char x2 = x2 := own_b.nar hb2
    have V788 : Arv Z h781 a684 kc678 .char (9 : Int32) [(.int x0), (.int x1), (.int x2)] (.int 0) := by rw [nq789] at V787; exact V787
    have A790 := A757.other W784 ne687
    have E791 := Exa.wr W784 E758
    have F792 := F759.other W784 (Or.inl ne688)
    have F793 := F760.other W784 (Or.inl ne688)
    have Z794 : n0 ≤ h781.size := by rw [W784.size]; exact Z761
    have O795 := O762.wr W784 nw689
    have K796 := K763.wr W784 (Or.inr hk690)
    have hz797 : h0.size ≤ h781.size := by rw [W784.size]; exact hz764
    refine Way.by st785 ?_
    show Way _ _ _ _ (T780.setTop (mkF m 164 #[rv pa, iv 9] [(.ref a684), (.ref a664), (.ref a664)]))
    try clear X749 e750 N753 V755 A757 E758 F759 F760 Z761 O762 K763 hz764 V772 c773 A774 q775 S776 M777 H778 U779 W784 st785 V787
    try clear T747 h748
    refine Way.by (fun _ k => XS.dup X782.here hx rfl (hb hby dMK_164) rfl rfl k) ?_
    show Way _ _ _ _ (T780.setTop (mkF m 165 #[rv pa, iv 9] [(.ref a684), (.ref a684), (.ref a664), (.ref a664)]))
    refine Way.by (fun _ k => XS.iconst X782.here hx rfl (hb hby dMK_165) k) ?_
    show Way _ _ _ _ (T780.setTop (mkF m 166 #[rv pa, iv 9] [(.int 3), (.ref a684), (.ref a684), (.ref a664), (.ref a664)]))
    refine Way.by (fun _ k => XS.aloadN X782.here hx rfl (hb hby dMK_166) rfl rfl k) ?_
    show Way _ _ _ _ (T780.setTop (mkF m 167 #[rv pa, iv 9] [(.ref pa), (.int 3), (.ref a684), (.ref a684), (.ref a664), (.ref a664)]))
    refine Way.by (fun _ k => XS.iconst X782.here hx rfl (hb hby dMK_167) k) ?_
    show Way _ _ _ _ (T780.setTop (mkF m 168 #[rv pa, iv 9] [(.int 3), (.ref pa), (.int 3), (.ref a684), (.ref a684), (.ref a664), (.ref a664)]))
    obtain ⟨c798, A799, q800, S801, M802, H803, U804⟩ := id A790
    refine Way.by (fun t k => Stand.caload X782 hx (hpE e783 A799.1) (arrS hZ A799) A799.2.2 (inb_of S801 ⟨(by decide), (by decide)⟩) (Has.at H803 (inb_of S801 ⟨(by decide), (by decide)⟩) rfl) (g := (mkF m 168 #[rv pa, iv 9] [(.int 3), (.ref pa), (.int 3), (.ref a684), (.ref a684), (.ref a664), (.ref a664)])) rfl rfl (hb hby dMK_168) t k) ?_
    show Way _ _ _ _ (T780.setTop (mkF m 169 #[rv pa, iv 9] [(.int x3), (.int 3), (.ref a684), (.ref a684), (.ref a664), (.ref a664)]))
    have V805 : Arv Z h781 a684 kc678 .char (9 : Int32) [(.int x0), (.int x1), (.int x2), (.int 0)] (.int 0) := V788.pad (pad_rep [(.int x0), (.int x1), (.int x2)] (.int 0) 1)
    obtain ⟨c806, A807, q808, S809, M810, H811, U812⟩ := id V805
    obtain ⟨T813, h814, X815, e816, W817, st818⟩ := stC X782 hx hZ e783 A807 (j := (3 : Int32)) (inb_of S809 ⟨(by decide), (by decide)⟩) (g := (mkF m 169 #[rv pa, iv 9] [(.int x3), (.int 3), (.ref a684), (.ref a684), (.ref a664), (.ref a664)])) rfl rfl (hb hby dMK_169)
    have N819 := Fr.snoc X815 N786 nw689
    have V820 : Arv Z h814 a684 kc678 .char (9 : Int32) [(.int x0), (.int x1), (.int x2), (.int (nar .char x3))] (.int 0) := Arv.set A807 q808 S809 M810 H811 U812 (fits_nar_char _) W817 3 rfl (leB rfl)
    have nq822 : nar .char x3 = x3 := own_b.nar hb3
    have V821 : Arv Z h814 a684 kc678 .char (9 : Int32) [(.int x0), (.int x1), (.int x2), (.int x3)] (.int 0) := by rw [nq822] at V820; exact V820
    have A823 := A790.other W817 ne687
    have E824 := Exa.wr W817 E791
    have F825 := F792.other W817 (Or.inl ne688)
    have F826 := F793.other W817 (Or.inl ne688)
    have Z827 : n0 ≤ h814.size := by rw [W817.size]; exact Z794
    have O828 := O795.wr W817 nw689
    have K829 := K796.wr W817 (Or.inr hk690)
    have hz830 : h0.size ≤ h814.size := by rw [W817.size]; exact hz797
    refine Way.by st818 ?_
    show Way _ _ _ _ (T813.setTop (mkF m 170 #[rv pa, iv 9] [(.ref a684), (.ref a664), (.ref a664)]))
    try clear X782 e783 N786 V788 A790 E791 F792 F793 Z794 O795 K796 hz797 V805 c806 A807 q808 S809 M810 H811 U812 W817 st818 V820
    try clear T780 h781
    refine Way.by (fun _ k => XS.dup X815.here hx rfl (hb hby dMK_170) rfl rfl k) ?_
    show Way _ _ _ _ (T813.setTop (mkF m 171 #[rv pa, iv 9] [(.ref a684), (.ref a684), (.ref a664), (.ref a664)]))
    refine Way.by (fun _ k => XS.iconst X815.here hx rfl (hb hby dMK_171) k) ?_
    show Way _ _ _ _ (T813.setTop (mkF m 172 #[rv pa, iv 9] [(.int 4), (.ref a684), (.ref a684), (.ref a664), (.ref a664)]))
    refine Way.by (fun _ k => XS.aloadN X815.here hx rfl (hb hby dMK_172) rfl rfl k) ?_
    show Way _ _ _ _ (T813.setTop (mkF m 173 #[rv pa, iv 9] [(.ref pa), (.int 4), (.ref a684), (.ref a684), (.ref a664), (.ref a664)]))
    refine Way.by (fun _ k => XS.iconst X815.here hx rfl (hb hby dMK_173) k) ?_
    show Way _ _ _ _ (T813.setTop (mkF m 174 #[rv pa, iv 9] [(.int 4), (.ref pa), (.int 4), (.ref a684), (.ref a684), (.ref a664), (.ref a664)]))
    obtain ⟨c831, A832, q833, S834, M835, H836, U837⟩ := id A823
    refine Way.by (fun t k => Stand.caload X815 hx (hpE e816 A832.1) (arrS hZ A832) A832.2.2 (inb_of S834 ⟨(by decide), (by decide)⟩) (Has.at H836 (inb_of S834 ⟨(by decide), (by decide)⟩) rfl) (g := (mkF m 174 #[rv pa, iv 9] [(.int 4), (.ref pa), (.int 4), (.ref a684), (.ref a684), (.ref a664), (.ref a664)])) rfl rfl (hb hby dMK_174) t k) ?_
    show Way _ _ _ _ (T813.setTop (mkF m 175 #[rv pa, iv 9] [(.int x4), (.int 4), (.ref a684), (.ref a684), (.ref a664), (.ref a664)]))
    have V838 : Arv Z h814 a684 kc678 .char (9 : Int32) [(.int x0), (.int x1), (.int x2), (.int x3), (.int 0)] (.int 0) := V821.pad (pad_rep [(.int x0), (.int x1), (.int x2), (.int x3)] (.int 0) 1)
    obtain ⟨c839, A840, q841, S842, M843, H844, U845⟩ := id V838
    obtain ⟨T846, h847, X848, e849, W850, st851⟩ := stC X815 hx hZ e816 A840 (j := (4 : Int32)) (inb_of S842 ⟨(by decide), (by decide)⟩) (g := (mkF m 175 #[rv pa, iv 9] [(.int x4), (.int 4), (.ref a684), (.ref a684), (.ref a664), (.ref a664)])) rfl rfl (hb hby dMK_175)
    have N852 := Fr.snoc X848 N819 nw689
    have V853 : Arv Z h847 a684 kc678 .char (9 : Int32) [(.int x0), (.int x1), (.int x2), (.int x3), (.int (nar .char x4))] (.int 0) := Arv.set A840 q841 S842 M843 H844 U845 (fits_nar_char _) W850 4 rfl (leB rfl)
    have nq855 : nar .char x4 = x4 := own_b.nar hb4
    have V854 : Arv Z h847 a684 kc678 .char (9 : Int32) [(.int x0), (.int x1), (.int x2), (.int x3), (.int x4)] (.int 0) := by rw [nq855] at V853; exact V853
    have A856 := A823.other W850 ne687
    have E857 := Exa.wr W850 E824
    have F858 := F825.other W850 (Or.inl ne688)
    have F859 := F826.other W850 (Or.inl ne688)
    have Z860 : n0 ≤ h847.size := by rw [W850.size]; exact Z827
    have O861 := O828.wr W850 nw689
    have K862 := K829.wr W850 (Or.inr hk690)
    have hz863 : h0.size ≤ h847.size := by rw [W850.size]; exact hz830
    refine Way.by st851 ?_
    show Way _ _ _ _ (T846.setTop (mkF m 176 #[rv pa, iv 9] [(.ref a684), (.ref a664), (.ref a664)]))
    try clear X815 e816 N819 V821 A823 E824 F825 F826 Z827 O828 K829 hz830 V838 c839 A840 q841 S842 M843 H844 U845 W850 st851 V853
    try clear T813 h814
    refine Way.by (fun _ k => XS.dup X848.here hx rfl (hb hby dMK_176) rfl rfl k) ?_
    show Way _ _ _ _ (T846.setTop (mkF m 177 #[rv pa, iv 9] [(.ref a684), (.ref a684), (.ref a664), (.ref a664)]))
    refine Way.by (fun _ k => XS.iconst X848.here hx rfl (hb hby dMK_177) k) ?_
    show Way _ _ _ _ (T846.setTop (mkF m 178 #[rv pa, iv 9] [(.int 5), (.ref a684), (.ref a684), (.ref a664), (.ref a664)]))
    refine Way.by (fun _ k => XS.aloadN X848.here hx rfl (hb hby dMK_178) rfl rfl k) ?_
    show Way _ _ _ _ (T846.setTop (mkF m 179 #[rv pa, iv 9] [(.ref pa), (.int 5), (.ref a684), (.ref a684), (.ref a664), (.ref a664)]))
    refine Way.by (fun _ k => XS.iconst X848.here hx rfl (hb hby dMK_179) k) ?_
    show Way _ _ _ _ (T846.setTop (mkF m 180 #[rv pa, iv 9] [(.int 5), (.ref pa), (.int 5), (.ref a684), (.ref a684), (.ref a664), (.ref a664)]))
    obtain ⟨c864, A865, q866, S867, M868, H869, U870⟩ := id A856
    refine Way.by (fun t k => Stand.caload X848 hx (hpE e849 A865.1) (arrS hZ A865) A865.2.2 (inb_of S867 ⟨(by decide), (by decide)⟩) (Has.at H869 (inb_of S867 ⟨(by decide), (by decide)⟩) rfl) (g := (mkF m 180 #[rv pa, iv 9] [(.int 5), (.ref pa), (.int 5), (.ref a684), (.ref a684), (.ref a664), (.ref a664)])) rfl rfl (hb hby dMK_180) t k) ?_
    show Way _ _ _ _ (T846.setTop (mkF m 181 #[rv pa, iv 9] [(.int x5), (.int 5), (.ref a684), (.ref a684), (.ref a664), (.ref a664)]))
    have V871 : Arv Z h847 a684 kc678 .char (9 : Int32) [(.int x0), (.int x1), (.int x2), (.int x3), (.int x4), (.int 0)] (.int 0) := V854.pad (pad_rep [(.int x0), (.int x1), (.int x2), (.int x3), (.int x4)] (.int 0) 1)
    obtain ⟨c872, A873, q874, S875, M876, H877, U878⟩ := id V871
    obtain ⟨T879, h880, X881, e882, W883, st884⟩ := stC X848 hx hZ e849 A873 (j := (5 : Int32)) (inb_of S875 ⟨(by decide), (by decide)⟩) (g := (mkF m 181 #[rv pa, iv 9] [(.int x5), (.int 5), (.ref a684), (.ref a684), (.ref a664), (.ref a664)])) rfl rfl (hb hby dMK_181)
    have N885 := Fr.snoc X881 N852 nw689
    have V886 : Arv Z h880 a684 kc678 .char (9 : Int32) [(.int x0), (.int x1), (.int x2), (.int x3), (.int x4), (.int (nar .char x5))] (.int 0) := Arv.set A873 q874 S875 M876 H877 U878 (fits_nar_char _) W883 5 rfl (leB rfl)
    have nq888 : nar .char x5 = x5 := own_b.nar hb5
    have V887 : Arv Z h880 a684 kc678 .char (9 : Int32) [(.int x0), (.int x1), (.int x2), (.int x3), (.int x4), (.int x5)] (.int 0) := by rw [nq888] at V886; exact V886
    have A889 := A856.other W883 ne687
    have E890 := Exa.wr W883 E857
    have F891 := F858.other W883 (Or.inl ne688)
    have F892 := F859.other W883 (Or.inl ne688)
    have Z893 : n0 ≤ h880.size := by rw [W883.size]; exact Z860
    have O894 := O861.wr W883 nw689
    have K895 := K862.wr W883 (Or.inr hk690)
    have hz896 : h0.size ≤ h880.size := by rw [W883.size]; exact hz863
    refine Way.by st884 ?_
    show Way _ _ _ _ (T879.setTop (mkF m 182 #[rv pa, iv 9] [(.ref a684), (.ref a664), (.ref a664)]))
    try clear X848 e849 N852 V854 A856 E857 F858 F859 Z860 O861 K862 hz863 V871 c872 A873 q874 S875 M876 H877 U878 W883 st884 V886
    try clear T846 h847
    refine Way.by (fun _ k => XS.dup X881.here hx rfl (hb hby dMK_182) rfl rfl k) ?_
    show Way _ _ _ _ (T879.setTop (mkF m 183 #[rv pa, iv 9] [(.ref a684), (.ref a684), (.ref a664), (.ref a664)]))
    refine Way.by (fun _ k => XS.bipush X881.here hx rfl (hb hby dMK_183) k) ?_
    show Way _ _ _ _ (T879.setTop (mkF m 185 #[rv pa, iv 9] [(.int 6), (.ref a684), (.ref a684), (.ref a664), (.ref a664)]))
    refine Way.by (fun _ k => XS.aloadN X881.here hx rfl (hb hby dMK_185) rfl rfl k) ?_
    show Way _ _ _ _ (T879.setTop (mkF m 186 #[rv pa, iv 9] [(.ref pa), (.int 6), (.ref a684), (.ref a684), (.ref a664), (.ref a664)]))
    refine Way.by (fun _ k => XS.bipush X881.here hx rfl (hb hby dMK_186) k) ?_
    show Way _ _ _ _ (T879.setTop (mkF m 188 #[rv pa, iv 9] [(.int 6), (.ref pa), (.int 6), (.ref a684), (.ref a684), (.ref a664), (.ref a664)]))
    obtain ⟨c897, A898, q899, S900, M901, H902, U903⟩ := id A889
    refine Way.by (fun t k => Stand.caload X881 hx (hpE e882 A898.1) (arrS hZ A898) A898.2.2 (inb_of S900 ⟨(by decide), (by decide)⟩) (Has.at H902 (inb_of S900 ⟨(by decide), (by decide)⟩) rfl) (g := (mkF m 188 #[rv pa, iv 9] [(.int 6), (.ref pa), (.int 6), (.ref a684), (.ref a684), (.ref a664), (.ref a664)])) rfl rfl (hb hby dMK_188) t k) ?_
    show Way _ _ _ _ (T879.setTop (mkF m 189 #[rv pa, iv 9] [(.int x6), (.int 6), (.ref a684), (.ref a684), (.ref a664), (.ref a664)]))
    have V904 : Arv Z h880 a684 kc678 .char (9 : Int32) [(.int x0), (.int x1), (.int x2), (.int x3), (.int x4), (.int x5), (.int 0)] (.int 0) := V887.pad (pad_rep [(.int x0), (.int x1), (.int x2), (.int x3), (.int x4), (.int x5)] (.int 0) 1)
    obtain ⟨c905, A906, q907, S908, M909, H910, U911⟩ := id V904
    obtain ⟨T912, h913, X914, e915, W916, st917⟩ := stC X881 hx hZ e882 A906 (j := (6 : Int32)) (inb_of S908 ⟨(by decide), (by decide)⟩) (g := (mkF m 189 #[rv pa, iv 9] [(.int x6), (.int 6), (.ref a684), (.ref a684), (.ref a664), (.ref a664)])) rfl rfl (hb hby dMK_189)
    have N918 := Fr.snoc X914 N885 nw689
    have V919 : Arv Z h913 a684 kc678 .char (9 : Int32) [(.int x0), (.int x1), (.int x2), (.int x3), (.int x4), (.int x5), (.int (nar .char x6))] (.int 0) := Arv.set A906 q907 S908 M909 H910 U911 (fits_nar_char _) W916 6 rfl (leB rfl)
    have nq921 : nar .char x6 = x6 := own_b.nar hb6
    have V920 : Arv Z h913 a684 kc678 .char (9 : Int32) [(.int x0), (.int x1), (.int x2), (.int x3), (.int x4), (.int x5), (.int x6)] (.int 0) := by rw [nq921] at V919; exact V919
    have A922 := A889.other W916 ne687
    have E923 := Exa.wr W916 E890
    have F924 := F891.other W916 (Or.inl ne688)
    have F925 := F892.other W916 (Or.inl ne688)
    have Z926 : n0 ≤ h913.size := by rw [W916.size]; exact Z893
    have O927 := O894.wr W916 nw689
    have K928 := K895.wr W916 (Or.inr hk690)
    have hz929 : h0.size ≤ h913.size := by rw [W916.size]; exact hz896
    refine Way.by st917 ?_
    show Way _ _ _ _ (T912.setTop (mkF m 190 #[rv pa, iv 9] [(.ref a684), (.ref a664), (.ref a664)]))
    try clear X881 e882 N885 V887 A889 E890 F891 F892 Z893 O894 K895 hz896 V904 c905 A906 q907 S908 M909 H910 U911 W916 st917 V919
    try clear T879 h880
    refine Way.by (fun _ k => XS.dup X914.here hx rfl (hb hby dMK_190) rfl rfl k) ?_
    show Way _ _ _ _ (T912.setTop (mkF m 191 #[rv pa, iv 9] [(.ref a684), (.ref a684), (.ref a664), (.ref a664)]))
    refine Way.by (fun _ k => XS.bipush X914.here hx rfl (hb hby dMK_191) k) ?_
    show Way _ _ _ _ (T912.setTop (mkF m 193 #[rv pa, iv 9] [(.int 7), (.ref a684), (.ref a684), (.ref a664), (.ref a664)]))
    refine Way.by (fun _ k => XS.aloadN X914.here hx rfl (hb hby dMK_193) rfl rfl k) ?_
    show Way _ _ _ _ (T912.setTop (mkF m 194 #[rv pa, iv 9] [(.ref pa), (.int 7), (.ref a684), (.ref a684), (.ref a664), (.ref a664)]))
    refine Way.by (fun _ k => XS.bipush X914.here hx rfl (hb hby dMK_194) k) ?_
    show Way _ _ _ _ (T912.setTop (mkF m 196 #[rv pa, iv 9] [(.int 7), (.ref pa), (.int 7), (.ref a684), (.ref a684), (.ref a664), (.ref a664)]))
    obtain ⟨c930, A931, q932, S933, M934, H935, U936⟩ := id A922
    refine Way.by (fun t k => Stand.caload X914 hx (hpE e915 A931.1) (arrS hZ A931) A931.2.2 (inb_of S933 ⟨(by decide), (by decide)⟩) (Has.at H935 (inb_of S933 ⟨(by decide), (by decide)⟩) rfl) (g := (mkF m 196 #[rv pa, iv 9] [(.int 7), (.ref pa), (.int 7), (.ref a684), (.ref a684), (.ref a664), (.ref a664)])) rfl rfl (hb hby dMK_196) t k) ?_
    show Way _ _ _ _ (T912.setTop (mkF m 197 #[rv pa, iv 9] [(.int x7), (.int 7), (.ref a684), (.ref a684), (.ref a664), (.ref a664)]))
    have V937 : Arv Z h913 a684 kc678 .char (9 : Int32) [(.int x0), (.int x1), (.int x2), (.int x3), (.int x4), (.int x5), (.int x6), (.int 0)] (.int 0) := V920.pad (pad_rep [(.int x0), (.int x1), (.int x2), (.int x3), (.int x4), (.int x5), (.int x6)] (.int 0) 1)
    obtain ⟨c938, A939, q940, S941, M942, H943, U944⟩ := id V937
    obtain ⟨T945, h946, X947, e948, W949, st950⟩ := stC X914 hx hZ e915 A939 (j := (7 : Int32)) (inb_of S941 ⟨(by decide), (by decide)⟩) (g := (mkF m 197 #[rv pa, iv 9] [(.int x7), (.int 7), (.ref a684), (.ref a684), (.ref a664), (.ref a664)])) rfl rfl (hb hby dMK_197)
    have N951 := Fr.snoc X947 N918 nw689
    have V952 : Arv Z h946 a684 kc678 .char (9 : Int32) [(.int x0), (.int x1), (.int x2), (.int x3), (.int x4), (.int x5), (.int x6), (.int (nar .char x7))] (.int 0) := Arv.set A939 q940 S941 M942 H943 U944 (fits_nar_char _) W949 7 rfl (leB rfl)
    have nq954 : nar .char x7 = x7 := own_b.nar hb7
    have V953 : Arv Z h946 a684 kc678 .char (9 : Int32) [(.int x0), (.int x1), (.int x2), (.int x3), (.int x4), (.int x5), (.int x6), (.int x7)] (.int 0) := by rw [nq954] at V952; exact V952
    have A955 := A922.other W949 ne687
    have E956 := Exa.wr W949 E923
    have F957 := F924.other W949 (Or.inl ne688)
    have F958 := F925.other W949 (Or.inl ne688)
    have Z959 : n0 ≤ h946.size := by rw [W949.size]; exact Z926
    have O960 := O927.wr W949 nw689
    have K961 := K928.wr W949 (Or.inr hk690)
    have hz962 : h0.size ≤ h946.size := by rw [W949.size]; exact hz929
    refine Way.by st950 ?_
    show Way _ _ _ _ (T945.setTop (mkF m 198 #[rv pa, iv 9] [(.ref a684), (.ref a664), (.ref a664)]))
    try clear X914 e915 N918 V920 A922 E923 F924 F925 Z926 O927 K928 hz929 V937 c938 A939 q940 S941 M942 H943 U944 W949 st950 V952
    try clear T912 h913
    refine Way.by (fun _ k => XS.dup X947.here hx rfl (hb hby dMK_198) rfl rfl k) ?_
    show Way _ _ _ _ (T945.setTop (mkF m 199 #[rv pa, iv 9] [(.ref a684), (.ref a684), (.ref a664), (.ref a664)]))
    refine Way.by (fun _ k => XS.bipush X947.here hx rfl (hb hby dMK_199) k) ?_
    show Way _ _ _ _ (T945.setTop (mkF m 201 #[rv pa, iv 9] [(.int 8), (.ref a684), (.ref a684), (.ref a664), (.ref a664)]))
    refine Way.by (fun _ k => XS.aloadN X947.here hx rfl (hb hby dMK_201) rfl rfl k) ?_
    show Way _ _ _ _ (T945.setTop (mkF m 202 #[rv pa, iv 9] [(.ref pa), (.int 8), (.ref a684), (.ref a684), (.ref a664), (.ref a664)]))
    refine Way.by (fun _ k => XS.bipush X947.here hx rfl (hb hby dMK_202) k) ?_
    show Way _ _ _ _ (T945.setTop (mkF m 204 #[rv pa, iv 9] [(.int 8), (.ref pa), (.int 8), (.ref a684), (.ref a684), (.ref a664), (.ref a664)]))
    obtain ⟨c963, A964, q965, S966, M967, H968, U969⟩ := id A955
    refine Way.by (fun t k => Stand.caload X947 hx (hpE e948 A964.1) (arrS hZ A964) A964.2.2 (inb_of S966 ⟨(by decide), (by decide)⟩) (Has.at H968 (inb_of S966 ⟨(by decide), (by decide)⟩) rfl) (g := (mkF m 204 #[rv pa, iv 9] [(.int 8), (.ref pa), (.int 8), (.ref a684), (.ref a684), (.ref a664), (.ref a664)])) rfl rfl (hb hby dMK_204) t k) ?_
    show Way _ _ _ _ (T945.setTop (mkF m 205 #[rv pa, iv 9] [(.int x8), (.int 8), (.ref a684), (.ref a684), (.ref a664), (.ref a664)]))
    have V970 : Arv Z h946 a684 kc678 .char (9 : Int32) [(.int x0), (.int x1), (.int x2), (.int x3), (.int x4), (.int x5), (.int x6), (.int x7), (.int 0)] (.int 0) := V953.pad (pad_rep [(.int x0), (.int x1), (.int x2), (.int x3), (.int x4), (.int x5), (.int x6), (.int x7)] (.int 0) 1)
    obtain ⟨c971, A972, q973, S974, M975, H976, U977⟩ := id V970
    obtain ⟨T978, h979, X980, e981, W982, st983⟩ := stC X947 hx hZ e948 A972 (j := (8 : Int32)) (inb_of S974 ⟨(by decide), (by decide)⟩) (g := (mkF m 205 #[rv pa, iv 9] [(.int x8), (.int 8), (.ref a684), (.ref a684), (.ref a664), (.ref a664)])) rfl rfl (hb hby dMK_205)
    have N984 := Fr.snoc X980 N951 nw689
    have V985 : Arv Z h979 a684 kc678 .char (9 : Int32) [(.int x0), (.int x1), (.int x2), (.int x3), (.int x4), (.int x5), (.int x6), (.int x7), (.int (nar .char x8))] (.int 0) := Arv.set A972 q973 S974 M975 H976 U977 (fits_nar_char _) W982 8 rfl (leB rfl)
    have nq987 : nar .char x8 = x8 := own_b.nar hb8
    have V986 : Arv Z h979 a684 kc678 .char (9 : Int32) [(.int x0), (.int x1), (.int x2), (.int x3), (.int x4), (.int x5), (.int x6), (.int x7), (.int x8)] (.int 0) := by rw [nq987] at V985; exact V985
    have A988 := A955.other W982 ne687
    have E989 := Exa.wr W982 E956
    have F990 := F957.other W982 (Or.inl ne688)
    have F991 := F958.other W982 (Or.inl ne688)
    have Z992 : n0 ≤ h979.size := by rw [W982.size]; exact Z959
    have O993 := O960.wr W982 nw689
    have K994 := K961.wr W982 (Or.inr hk690)
    have hz995 : h0.size ≤ h979.size := by rw [W982.size]; exact hz962
    refine Way.by st983 ?_
    show Way _ _ _ _ (T978.setTop (mkF m 206 #[rv pa, iv 9] [(.ref a684), (.ref a664), (.ref a664)]))
    try clear X947 e948 N951 V953 A955 E956 F957 F958 Z959 O960 K961 hz962 V970 c971 A972 q973 S974 M975 H976 U977 W982 st983 V985
    try clear T945 h946
    have hp996 : ∀ c ∈ ([x0, x1, x2, x3, x4, x5, x6, x7, x8] : List Int32), ¬ c < 0 ∧ ¬ (255 : Int32) < c := by intro c hc; simp only [List.mem_cons, List.not_mem_nil, or_false] at hc; rcases hc with rfl | rfl | rfl | rfl | rfl | rfl | rfl | rfl | rfl <;> assumption
    obtain ⟨_, _, ⟨T997, L999, k1000, n1001⟩, -, X998, ⟨Lc1002, hQ1003, l1004, y1005, z1006⟩, st1007⟩ := X980.specialBack hx (y := (⟨"java/lang/String", "<init>", "([C)V"⟩ : MethodName)) rfl hown (mvT hZ (tw hw 56 rfl)) (mvT hZ (tw hw 57 rfl)) (mvT hZ (tw hw 58 rfl)) (by decide) (own_new (W := 1) (n0 := n0) hZ hw SV O993 (cs := [x0, x1, x2, x3, x4, x5, x6, x7, x8]) (n := 9) nw667 Z992 E989 F990 F991 V986 rfl rfl (by decide) (by decide) hp996 (by decide) (by decide)) (g := (mkF m 206 #[rv pa, iv 9] [(.ref a684), (.ref a664), (.ref a664)])) rfl (by rw [hml]; rfl) (Steps.refl _) (a := a664) (argsL := [(.ref a684)]) (rest := [(.ref a664)]) (lenOf own_pdNew rfl) rfl (leW rfl) (hb hby dMK_206) (fun _ _ => ⟨rfl, e981, (leB rfl), (leB rfl)⟩)
    dsimp only [Pt.U, Pt.locs, Pt.cells, Pt.slots] at X998 l1004 y1005 z1006 st1007 hQ1003
    subst y1005 z1006
    obtain ⟨rfl, N1013, K1014, x_t1017, fr_t1016, F1015⟩ := hQ1003
    have N1008 : Fr n0 L999 := by rw [l1004]; exact Fr.app N984 N1013
    have ne1018 : pa ≠ x_t1017 := Nat.ne_of_lt (Nat.lt_of_lt_of_le A988.lt fr_t1016)
    have ne1019 : a664 ≠ x_t1017 := Nat.ne_of_lt (Nat.lt_of_lt_of_le E989.lt fr_t1016)
    have ne1020 : a684 ≠ x_t1017 := Nat.ne_of_lt (Nat.lt_of_lt_of_le V986.lt fr_t1016)
    have nw1021 : n0 ≤ x_t1017 := Nat.le_trans Z992 fr_t1016
    have hk1022 : h0.size ≤ x_t1017 := Nat.le_trans hz995 fr_t1016
    have A1023 := A988.keep K1014 (ninS ne666 nin0)
    have E1024 := E989.keep K1014
    have A1025 := V986.keep K1014 (ninS ne688.symm nin0)
    have Z1026 := Nat.le_trans Z992 K1014.1
    have O1027 := O993.keep K1014 (allS nw667 all0)
    have K1028 := K994.trans K1014 (allS (Or.inr hk668) all0)
    have hz1029 := Nat.le_trans hz995 K1014.1
    refine Way.to st1007 ?_
    show Way _ _ _ _ (T997.setTop (mkF m 209 #[rv pa, iv 9] [(.ref a664)]))
    try clear X980 e981 N984 V986 A988 E989 F990 F991 Z992 O993 K994 hz995 st1007 N1013 K1014
    try clear T978 h979
    refine Way.ret (v := (some (.ref a664))) X998 hlk (fun h => by rw [Bd.returns] at h; cases h) (fun fs hr => retOut X998 hx Bd.returns rfl (Or.inr (Or.inr (Or.inr (Or.inr ⟨rfl, rfl, rfl⟩)))) (hb hby dMK_209) hr) ?_ (by decide) (by decide)
    show QMK Z pa ka _ x0 x1 x2 x3 x4 x5 x6 x7 x8 x9 x10 x11 x12 x13 x14 x15 h0 n0 _ T997.heap _
    skip
    exact ⟨a664, x_t1017, [x0, x1, x2, x3, x4, x5, x6, x7, x8], rfl, N1008, K1028, hk668, hk1022, F1015⟩
  · skip
    show Way _ _ _ _ (s₁.setTop (mkF m 0 #[rv pa, iv 10] []))
    refine Way.by (fun _ k => XS.iloadN X0.here hx rfl (hb hby dMK_0) rfl k) ?_
    show Way _ _ _ _ (s₁.setTop (mkF m 1 #[rv pa, iv 10] [(.int 10)]))
    refine Way.by (fun _ k => XS.bipush X0.here hx rfl (hb hby dMK_1) k) ?_
    show Way _ _ _ _ (s₁.setTop (mkF m 3 #[rv pa, iv 10] [(.int 7), (.int 10)]))
    have b1030 : ¬ (10 : Int32) = (7 : Int32) := by decide
    refine Way.by (fun _ k => XS.icmpYes X0.here hx rfl (pc0 := 3) (pc' := 62) rfl (hb hby dMK_3) rfl (feq b1030).2 (by decide) (by decide) k) ?_
    show Way _ _ _ _ (s₁.setTop (mkF m 62 #[rv pa, iv 10] []))
    refine Way.by (fun _ k => XS.iloadN X0.here hx rfl (hb hby dMK_62) rfl k) ?_
    show Way _ _ _ _ (s₁.setTop (mkF m 63 #[rv pa, iv 10] [(.int 10)]))
    refine Way.by (fun _ k => XS.bipush X0.here hx rfl (hb hby dMK_63) k) ?_
    show Way _ _ _ _ (s₁.setTop (mkF m 65 #[rv pa, iv 10] [(.int 8), (.int 10)]))
    have b1031 : ¬ (10 : Int32) = (8 : Int32) := by decide
    refine Way.by (fun _ k => XS.icmpYes X0.here hx rfl (pc0 := 65) (pc' := 132) rfl (hb hby dMK_65) rfl (feq b1031).2 (by decide) (by decide) k) ?_
    show Way _ _ _ _ (s₁.setTop (mkF m 132 #[rv pa, iv 10] []))
    refine Way.by (fun _ k => XS.iloadN X0.here hx rfl (hb hby dMK_132) rfl k) ?_
    show Way _ _ _ _ (s₁.setTop (mkF m 133 #[rv pa, iv 10] [(.int 10)]))
    refine Way.by (fun _ k => XS.bipush X0.here hx rfl (hb hby dMK_133) k) ?_
    show Way _ _ _ _ (s₁.setTop (mkF m 135 #[rv pa, iv 10] [(.int 9), (.int 10)]))
    have b1032 : ¬ (10 : Int32) = (9 : Int32) := by decide
    refine Way.by (fun _ k => XS.icmpYes X0.here hx rfl (pc0 := 135) (pc' := 210) rfl (hb hby dMK_135) rfl (feq b1032).2 (by decide) (by decide) k) ?_
    show Way _ _ _ _ (s₁.setTop (mkF m 210 #[rv pa, iv 10] []))
    refine Way.by (fun _ k => XS.iloadN X0.here hx rfl (hb hby dMK_210) rfl k) ?_
    show Way _ _ _ _ (s₁.setTop (mkF m 211 #[rv pa, iv 10] [(.int 10)]))
    refine Way.by (fun _ k => XS.bipush X0.here hx rfl (hb hby dMK_211) k) ?_
    show Way _ _ _ _ (s₁.setTop (mkF m 213 #[rv pa, iv 10] [(.int 10), (.int 10)]))
    have b1033 : (10 : Int32) = (10 : Int32) := by decide
    refine Way.by (fun _ k => XS.icmpNo X0.here hx rfl (hb hby dMK_213) rfl (teq b1033).2 k) ?_
    show Way _ _ _ _ (s₁.setTop (mkF m 216 #[rv pa, iv 10] []))
    obtain ⟨T1034, h1035, X1036, e1037, E1038, A1039, D1040, -, st1041⟩ := newO X0 hx hZ hown (tw hw 55 rfl) (tw hw 3 rfl) (tw hw 2 rfl) e0 (g := (mkF m 216 #[rv pa, iv 10] [])) rfl (hb hby dMK_216) (by decide) (by decide)
    obtain ⟨a1042, g1043⟩ : ∃ z, z = h0.size := ⟨_, rfl⟩
    rw [← g1043] at A1039 D1040 st1041
    have ne1044 : pa ≠ a1042 := Nat.ne_of_lt (Nat.lt_of_lt_of_eq H0.lt g1043.symm)
    have nw1045 : n0 ≤ a1042 := Nat.le_trans Z0 (Nat.le_of_eq g1043.symm)
    have hk1046 : h0.size ≤ a1042 := Nat.le_trans (Nat.le_refl h0.size) (Nat.le_of_eq g1043.symm)
    have A1047 := H0.ext E1038
    have Z1048 := Nat.le_trans Z0 E1038.1
    have O1049 := O0.ext E1038
    have K1050 := (Keep.refl h0 []).ext E1038
    have hz1051 := Nat.le_trans (Nat.le_refl h0.size) E1038.1
    have F1052 : Fld Z h1035 a1042 "java/lang/String" "value" "[B" .null := D1040 (Or.inr (tw hw 5 rfl)) (ty := (.array .byte)) (by decide)
    have F1053 : Fld Z h1035 a1042 "java/lang/String" "coder" "B" (.int 0) := D1040 (Or.inr (tw hw 6 rfl)) (ty := .byte) (by decide)
    refine Way.by st1041 ?_
    show Way _ _ _ _ (T1034.setTop (mkF m 219 #[rv pa, iv 10] [(.ref a1042)]))
    refine Way.by (fun _ k => XS.dup X1036.here hx rfl (hb hby dMK_219) rfl rfl k) ?_
    show Way _ _ _ _ (T1034.setTop (mkF m 220 #[rv pa, iv 10] [(.ref a1042), (.ref a1042)]))
    refine Way.by (fun _ k => XS.bipush X1036.here hx rfl (hb hby dMK_220) k) ?_
    show Way _ _ _ _ (T1034.setTop (mkF m 222 #[rv pa, iv 10] [(.int 10), (.ref a1042), (.ref a1042)]))
    obtain ⟨T1054, h1055, kc1056, X1057, e1058, E1059, A1060, st1061⟩ := newP X1036 hx hZ (tw hw 22 rfl) e1037 (g := (mkF m 222 #[rv pa, iv 10] [(.int 10), (.ref a1042), (.ref a1042)])) rfl (hb hby dMK_222) rfl (by decide) (cap := 10) (by decide) (by decide) (by decide) (by decide)
    obtain ⟨a1062, g1063⟩ : ∃ z, z = h1035.size := ⟨_, rfl⟩
    rw [← g1063] at A1060 st1061
    have ne1065 : pa ≠ a1062 := Nat.ne_of_lt (Nat.lt_of_lt_of_eq A1047.lt g1063.symm)
    have ne1066 : a1042 ≠ a1062 := Nat.ne_of_lt (Nat.lt_of_lt_of_eq A1039.lt g1063.symm)
    have nw1067 : n0 ≤ a1062 := Nat.le_trans Z1048 (Nat.le_of_eq g1063.symm)
    have hk1068 : h0.size ≤ a1062 := Nat.le_trans hz1051 (Nat.le_of_eq g1063.symm)
    have A1069 := A1047.ext E1059
    have E1070 := Exa.ext E1059 A1039
    have F1071 := Fld.ext E1059 F1052
    have F1072 := Fld.ext E1059 F1053
    have Z1073 := Nat.le_trans Z1048 E1059.1
    have O1074 := O1049.ext E1059
    have K1075 := K1050.ext E1059
    have hz1076 := Nat.le_trans hz1051 E1059.1
    have V1064 : Arv Z h1055 a1062 kc1056 .char (10 : Int32) [] (.int 0) := Arv.new A1060 (by decide)
    refine Way.by st1061 ?_
    show Way _ _ _ _ (T1054.setTop (mkF m 224 #[rv pa, iv 10] [(.ref a1062), (.ref a1042), (.ref a1042)]))
    try clear X1036 e1037 A1039 A1047 Z1048 O1049 K1050 hz1051 F1052 F1053 E1059 A1060 st1061
    try clear T1034 h1035
    refine Way.by (fun _ k => XS.dup X1057.here hx rfl (hb hby dMK_224) rfl rfl k) ?_
    show Way _ _ _ _ (T1054.setTop (mkF m 225 #[rv pa, iv 10] [(.ref a1062), (.ref a1062), (.ref a1042), (.ref a1042)]))
    refine Way.by (fun _ k => XS.iconst X1057.here hx rfl (hb hby dMK_225) k) ?_
    show Way _ _ _ _ (T1054.setTop (mkF m 226 #[rv pa, iv 10] [(.int 0), (.ref a1062), (.ref a1062), (.ref a1042), (.ref a1042)]))
    refine Way.by (fun _ k => XS.aloadN X1057.here hx rfl (hb hby dMK_226) rfl rfl k) ?_
    show Way _ _ _ _ (T1054.setTop (mkF m 227 #[rv pa, iv 10] [(.ref pa), (.int 0), (.ref a1062), (.ref a1062), (.ref a1042), (.ref a1042)]))
    refine Way.by (fun _ k => XS.iconst X1057.here hx rfl (hb hby dMK_227) k) ?_
    show Way _ _ _ _ (T1054.setTop (mkF m 228 #[rv pa, iv 10] [(.int 0), (.ref pa), (.int 0), (.ref a1062), (.ref a1062), (.ref a1042), (.ref a1042)]))
    obtain ⟨c1077, A1078, q1079, S1080, M1081, H1082, U1083⟩ := id A1069
    refine Way.by (fun t k => Stand.caload X1057 hx (hpE e1058 A1078.1) (arrS hZ A1078) A1078.2.2 (inb_of S1080 ⟨(by decide), (by decide)⟩) (Has.at H1082 (inb_of S1080 ⟨(by decide), (by decide)⟩) rfl) (g := (mkF m 228 #[rv pa, iv 10] [(.int 0), (.ref pa), (.int 0), (.ref a1062), (.ref a1062), (.ref a1042), (.ref a1042)])) rfl rfl (hb hby dMK_228) t k) ?_
    show Way _ _ _ _ (T1054.setTop (mkF m 229 #[rv pa, iv 10] [(.int x0), (.int 0), (.ref a1062), (.ref a1062), (.ref a1042), (.ref a1042)]))
    have V1084 : Arv Z h1055 a1062 kc1056 .char (10 : Int32) [(.int 0)] (.int 0) := V1064.pad (pad_rep [] (.int 0) 1)
    obtain ⟨c1085, A1086, q1087, S1088, M1089, H1090, U1091⟩ := id V1084
    obtain ⟨T1092, h1093, X1094, e1095, W1096, st1097⟩ := stC X1057 hx hZ e1058 A1086 (j := (0 : Int32)) (inb_of S1088 ⟨(by decide), (by decide)⟩) (g := (mkF m 229 #[rv pa, iv 10] [(.int x0), (.int 0), (.ref a1062), (.ref a1062), (.ref a1042), (.ref a1042)])) rfl rfl (hb hby dMK_229)
    have N1098 := Fr.snoc X1094 N0 nw1067
    have V1099 : Arv Z h1093 a1062 kc1056 .char (10 : Int32) [(.int (nar .char x0))] (.int 0) := Arv.set A1086 q1087 S1088 M1089 H1090 U1091 (fits_nar_char _) W1096 0 rfl (leB rfl)
    have nq1101 : nar .char x0 = x0 := own_b.nar hb0
    have V1100 : Arv Z h1093 a1062 kc1056 .char (10 : Int32) [(.int x0)] (.int 0) := by rw [nq1101] at V1099; exact V1099
    have A1102 := A1069.other W1096 ne1065
    have E1103 := Exa.wr W1096 E1070
    have F1104 := F1071.other W1096 (Or.inl ne1066)
    have F1105 := F1072.other W1096 (Or.inl ne1066)
    have Z1106 : n0 ≤ h1093.size := by rw [W1096.size]; exact Z1073
    have O1107 := O1074.wr W1096 nw1067
    have K1108 := K1075.wr W1096 (Or.inr hk1068)
    have hz1109 : h0.size ≤ h1093.size := by rw [W1096.size]; exact hz1076
    refine Way.by st1097 ?_
    show Way _ _ _ _ (T1092.setTop (mkF m 230 #[rv pa, iv 10] [(.ref a1062), (.ref a1042), (.ref a1042)]))
    try clear X1057 e1058 V1064 A1069 E1070 F1071 F1072 Z1073 O1074 K1075 hz1076 V1084 c1085 A1086 q1087 S1088 M1089 H1090 U1091 W1096 st1097 V1099
    try clear T1054 h1055
    refine Way.by (fun _ k => XS.dup X1094.here hx rfl (hb hby dMK_230) rfl rfl k) ?_
    show Way _ _ _ _ (T1092.setTop (mkF m 231 #[rv pa, iv 10] [(.ref a1062), (.ref a1062), (.ref a1042), (.ref a1042)]))
    refine Way.by (fun _ k => XS.iconst X1094.here hx rfl (hb hby dMK_231) k) ?_
    show Way _ _ _ _ (T1092.setTop (mkF m 232 #[rv pa, iv 10] [(.int 1), (.ref a1062), (.ref a1062), (.ref a1042), (.ref a1042)]))
    refine Way.by (fun _ k => XS.aloadN X1094.here hx rfl (hb hby dMK_232) rfl rfl k) ?_
    show Way _ _ _ _ (T1092.setTop (mkF m 233 #[rv pa, iv 10] [(.ref pa), (.int 1), (.ref a1062), (.ref a1062), (.ref a1042), (.ref a1042)]))
    refine Way.by (fun _ k => XS.iconst X1094.here hx rfl (hb hby dMK_233) k) ?_
    show Way _ _ _ _ (T1092.setTop (mkF m 234 #[rv pa, iv 10] [(.int 1), (.ref pa), (.int 1), (.ref a1062), (.ref a1062), (.ref a1042), (.ref a1042)]))
    obtain ⟨c1110, A1111, q1112, S1113, M1114, H1115, U1116⟩ := id A1102
    refine Way.by (fun t k => Stand.caload X1094 hx (hpE e1095 A1111.1) (arrS hZ A1111) A1111.2.2 (inb_of S1113 ⟨(by decide), (by decide)⟩) (Has.at H1115 (inb_of S1113 ⟨(by decide), (by decide)⟩) rfl) (g := (mkF m 234 #[rv pa, iv 10] [(.int 1), (.ref pa), (.int 1), (.ref a1062), (.ref a1062), (.ref a1042), (.ref a1042)])) rfl rfl (hb hby dMK_234) t k) ?_
    show Way _ _ _ _ (T1092.setTop (mkF m 235 #[rv pa, iv 10] [(.int x1), (.int 1), (.ref a1062), (.ref a1062), (.ref a1042), (.ref a1042)]))
    have V1117 : Arv Z h1093 a1062 kc1056 .char (10 : Int32) [(.int x0), (.int 0)] (.int 0) := V1100.pad (pad_rep [(.int x0)] (.int 0) 1)
    obtain ⟨c1118, A1119, q1120, S1121, M1122, H1123, U1124⟩ := id V1117
    obtain ⟨T1125, h1126, X1127, e1128, W1129, st1130⟩ := stC X1094 hx hZ e1095 A1119 (j := (1 : Int32)) (inb_of S1121 ⟨(by decide), (by decide)⟩) (g := (mkF m 235 #[rv pa, iv 10] [(.int x1), (.int 1), (.ref a1062), (.ref a1062), (.ref a1042), (.ref a1042)])) rfl rfl (hb hby dMK_235)
    have N1131 := Fr.snoc X1127 N1098 nw1067
    have V1132 : Arv Z h1126 a1062 kc1056 .char (10 : Int32) [(.int x0), (.int (nar .char x1))] (.int 0) := Arv.set A1119 q1120 S1121 M1122 H1123 U1124 (fits_nar_char _) W1129 1 rfl (leB rfl)
    have nq1134 : nar .char x1 = x1 := own_b.nar hb1
    have V1133 : Arv Z h1126 a1062 kc1056 .char (10 : Int32) [(.int x0), (.int x1)] (.int 0) := by rw [nq1134] at V1132; exact V1132
    have A1135 := A1102.other W1129 ne1065
    have E1136 := Exa.wr W1129 E1103
    have F1137 := F1104.other W1129 (Or.inl ne1066)
    have F1138 := F1105.other W1129 (Or.inl ne1066)
    have Z1139 : n0 ≤ h1126.size := by rw [W1129.size]; exact Z1106
    have O1140 := O1107.wr W1129 nw1067
    have K1141 := K1108.wr W1129 (Or.inr hk1068)
    have hz1142 : h0.size ≤ h1126.size := by rw [W1129.size]; exact hz1109
    refine Way.by st1130 ?_
    show Way _ _ _ _ (T1125.setTop (mkF m 236 #[rv pa, iv 10] [(.ref a1062), (.ref a1042), (.ref a1042)]))
    try clear X1094 e1095 N1098 V1100 A1102 E1103 F1104 F1105 Z1106 O1107 K1108 hz1109 V1117 c1118 A1119 q1120 S1121 M1122 H1123 U1124 W1129 st1130 V1132
    try clear T1092 h1093
    refine Way.by (fun _ k => XS.dup X1127.here hx rfl (hb hby dMK_236) rfl rfl k) ?_
    show Way _ _ _ _ (T1125.setTop (mkF m 237 #[rv pa, iv 10] [(.ref a1062), (.ref a1062), (.ref a1042), (.ref a1042)]))
    refine Way.by (fun _ k => XS.iconst X1127.here hx rfl (hb hby dMK_237) k) ?_
    show Way _ _ _ _ (T1125.setTop (mkF m 238 #[rv pa, iv 10] [(.int 2), (.ref a1062), (.ref a1062), (.ref a1042), (.ref a1042)]))
    refine Way.by (fun _ k => XS.aloadN X1127.here hx rfl (hb hby dMK_238) rfl rfl k) ?_
    show Way _ _ _ _ (T1125.setTop (mkF m 239 #[rv pa, iv 10] [(.ref pa), (.int 2), (.ref a1062), (.ref a1062), (.ref a1042), (.ref a1042)]))
    refine Way.by (fun _ k => XS.iconst X1127.here hx rfl (hb hby dMK_239) k) ?_
    show Way _ _ _ _ (T1125.setTop (mkF m 240 #[rv pa, iv 10] [(.int 2), (.ref pa), (.int 2), (.ref a1062), (.ref a1062), (.ref a1042), (.ref a1042)]))
    obtain ⟨c1143, A1144, q1145, S1146, M1147, H1148, U1149⟩ := id A1135
    refine Way.by (fun t k => Stand.caload X1127 hx (hpE e1128 A1144.1) (arrS hZ A1144) A1144.2.2 (inb_of S1146 ⟨(by decide), (by decide)⟩) (Has.at H1148 (inb_of S1146 ⟨(by decide), (by decide)⟩) rfl) (g := (mkF m 240 #[rv pa, iv 10] [(.int 2), (.ref pa), (.int 2), (.ref a1062), (.ref a1062), (.ref a1042), (.ref a1042)])) rfl rfl (hb hby dMK_240) t k) ?_
    show Way _ _ _ _ (T1125.setTop (mkF m 241 #[rv pa, iv 10] [(.int x2), (.int 2), (.ref a1062), (.ref a1062), (.ref a1042), (.ref a1042)]))
    have V1150 : Arv Z h1126 a1062 kc1056 .char (10 : Int32) [(.int x0), (.int x1), (.int 0)] (.int 0) := V1133.pad (pad_rep [(.int x0), (.int x1)] (.int 0) 1)
    obtain ⟨c1151, A1152, q1153, S1154, M1155, H1156, U1157⟩ := id V1150
    obtain ⟨T1158, h1159, X1160, e1161, W1162, st1163⟩ := stC X1127 hx hZ e1128 A1152 (j := (2 : Int32)) (inb_of S1154 ⟨(by decide), (by decide)⟩) (g := (mkF m 241 #[rv pa, iv 10] [(.int x2), (.int 2), (.ref a1062), (.ref a1062), (.ref a1042), (.ref a1042)])) rfl rfl (hb hby dMK_241)
    have N1164 := Fr.snoc X1160 N1131 nw1067
    have V1165 : Arv Z h1159 a1062 kc1056 .char (10 : Int32) [(.int x0), (.int x1), (.int (nar .char x2))] (.int 0) := Arv.set A1152 q1153 S1154 M1155 H1156 U1157 (fits_nar_char _) W1162 2 rfl (leB rfl)
    have nq1167 : nar .char x2 = x2 := own_b.nar hb2
    have V1166 : Arv Z h1159 a1062 kc1056 .char (10 : Int32) [(.int x0), (.int x1), (.int x2)] (.int 0) := by rw [nq1167] at V1165; exact V1165
    have A1168 := A1135.other W1162 ne1065
    have E1169 := Exa.wr W1162 E1136
    have F1170 := F1137.other W1162 (Or.inl ne1066)
    have F1171 := F1138.other W1162 (Or.inl ne1066)
    have Z1172 : n0 ≤ h1159.size := by rw [W1162.size]; exact Z1139
    have O1173 := O1140.wr W1162 nw1067
    have K1174 := K1141.wr W1162 (Or.inr hk1068)
    have hz1175 : h0.size ≤ h1159.size := by rw [W1162.size]; exact hz1142
    refine Way.by st1163 ?_
    show Way _ _ _ _ (T1158.setTop (mkF m 242 #[rv pa, iv 10] [(.ref a1062), (.ref a1042), (.ref a1042)]))
    try clear X1127 e1128 N1131 V1133 A1135 E1136 F1137 F1138 Z1139 O1140 K1141 hz1142 V1150 c1151 A1152 q1153 S1154 M1155 H1156 U1157 W1162 st1163 V1165
    try clear T1125 h1126
    refine Way.by (fun _ k => XS.dup X1160.here hx rfl (hb hby dMK_242) rfl rfl k) ?_
    show Way _ _ _ _ (T1158.setTop (mkF m 243 #[rv pa, iv 10] [(.ref a1062), (.ref a1062), (.ref a1042), (.ref a1042)]))
    refine Way.by (fun _ k => XS.iconst X1160.here hx rfl (hb hby dMK_243) k) ?_
    show Way _ _ _ _ (T1158.setTop (mkF m 244 #[rv pa, iv 10] [(.int 3), (.ref a1062), (.ref a1062), (.ref a1042), (.ref a1042)]))
    refine Way.by (fun _ k => XS.aloadN X1160.here hx rfl (hb hby dMK_244) rfl rfl k) ?_
    show Way _ _ _ _ (T1158.setTop (mkF m 245 #[rv pa, iv 10] [(.ref pa), (.int 3), (.ref a1062), (.ref a1062), (.ref a1042), (.ref a1042)]))
    refine Way.by (fun _ k => XS.iconst X1160.here hx rfl (hb hby dMK_245) k) ?_
    show Way _ _ _ _ (T1158.setTop (mkF m 246 #[rv pa, iv 10] [(.int 3), (.ref pa), (.int 3), (.ref a1062), (.ref a1062), (.ref a1042), (.ref a1042)]))
    obtain ⟨c1176, A1177, q1178, S1179, M1180, H1181, U1182⟩ := id A1168
    refine Way.by (fun t k => Stand.caload X1160 hx (hpE e1161 A1177.1) (arrS hZ A1177) A1177.2.2 (inb_of S1179 ⟨(by decide), (by decide)⟩) (Has.at H1181 (inb_of S1179 ⟨(by decide), (by decide)⟩) rfl) (g := (mkF m 246 #[rv pa, iv 10] [(.int 3), (.ref pa), (.int 3), (.ref a1062), (.ref a1062), (.ref a1042), (.ref a1042)])) rfl rfl (hb hby dMK_246) t k) ?_
    show Way _ _ _ _ (T1158.setTop (mkF m 247 #[rv pa, iv 10] [(.int x3), (.int 3), (.ref a1062), (.ref a1062), (.ref a1042), (.ref a1042)]))
    have V1183 : Arv Z h1159 a1062 kc1056 .char (10 : Int32) [(.int x0), (.int x1), (.int x2), (.int 0)] (.int 0) := V1166.pad (pad_rep [(.int x0), (.int x1), (.int x2)] (.int 0) 1)
    obtain ⟨c1184, A1185, q1186, S1187, M1188, H1189, U1190⟩ := id V1183
    obtain ⟨T1191, h1192, X1193, e1194, W1195, st1196⟩ := stC X1160 hx hZ e1161 A1185 (j := (3 : Int32)) (inb_of S1187 ⟨(by decide), (by decide)⟩) (g := (mkF m 247 #[rv pa, iv 10] [(.int x3), (.int 3), (.ref a1062), (.ref a1062), (.ref a1042), (.ref a1042)])) rfl rfl (hb hby dMK_247)
    have N1197 := Fr.snoc X1193 N1164 nw1067
    have V1198 : Arv Z h1192 a1062 kc1056 .char (10 : Int32) [(.int x0), (.int x1), (.int x2), (.int (nar .char x3))] (.int 0) := Arv.set A1185 q1186 S1187 M1188 H1189 U1190 (fits_nar_char _) W1195 3 rfl (leB rfl)
    have nq1200 : nar .char x3 = x3 := own_b.nar hb3
    have V1199 : Arv Z h1192 a1062 kc1056 .char (10 : Int32) [(.int x0), (.int x1), (.int x2), (.int x3)] (.int 0) := by rw [nq1200] at V1198; exact V1198
    have A1201 := A1168.other W1195 ne1065
    have E1202 := Exa.wr W1195 E1169
    have F1203 := F1170.other W1195 (Or.inl ne1066)
    have F1204 := F1171.other W1195 (Or.inl ne1066)
    have Z1205 : n0 ≤ h1192.size := by rw [W1195.size]; exact Z1172
    have O1206 := O1173.wr W1195 nw1067
    have K1207 := K1174.wr W1195 (Or.inr hk1068)
    have hz1208 : h0.size ≤ h1192.size := by rw [W1195.size]; exact hz1175
    refine Way.by st1196 ?_
    show Way _ _ _ _ (T1191.setTop (mkF m 248 #[rv pa, iv 10] [(.ref a1062), (.ref a1042), (.ref a1042)]))
    try clear X1160 e1161 N1164 V1166 A1168 E1169 F1170 F1171 Z1172 O1173 K1174 hz1175 V1183 c1184 A1185 q1186 S1187 M1188 H1189 U1190 W1195 st1196 V1198
    try clear T1158 h1159
    refine Way.by (fun _ k => XS.dup X1193.here hx rfl (hb hby dMK_248) rfl rfl k) ?_
    show Way _ _ _ _ (T1191.setTop (mkF m 249 #[rv pa, iv 10] [(.ref a1062), (.ref a1062), (.ref a1042), (.ref a1042)]))
    refine Way.by (fun _ k => XS.iconst X1193.here hx rfl (hb hby dMK_249) k) ?_
    show Way _ _ _ _ (T1191.setTop (mkF m 250 #[rv pa, iv 10] [(.int 4), (.ref a1062), (.ref a1062), (.ref a1042), (.ref a1042)]))
    refine Way.by (fun _ k => XS.aloadN X1193.here hx rfl (hb hby dMK_250) rfl rfl k) ?_
    show Way _ _ _ _ (T1191.setTop (mkF m 251 #[rv pa, iv 10] [(.ref pa), (.int 4), (.ref a1062), (.ref a1062), (.ref a1042), (.ref a1042)]))
    refine Way.by (fun _ k => XS.iconst X1193.here hx rfl (hb hby dMK_251) k) ?_
    show Way _ _ _ _ (T1191.setTop (mkF m 252 #[rv pa, iv 10] [(.int 4), (.ref pa), (.int 4), (.ref a1062), (.ref a1062), (.ref a1042), (.ref a1042)]))
    obtain ⟨c1209, A1210, q1211, S1212, M1213, H1214, U1215⟩ := id A1201
    refine Way.by (fun t k => Stand.caload X1193 hx (hpE e1194 A1210.1) (arrS hZ A1210) A1210.2.2 (inb_of S1212 ⟨(by decide), (by decide)⟩) (Has.at H1214 (inb_of S1212 ⟨(by decide), (by decide)⟩) rfl) (g := (mkF m 252 #[rv pa, iv 10] [(.int 4), (.ref pa), (.int 4), (.ref a1062), (.ref a1062), (.ref a1042), (.ref a1042)])) rfl rfl (hb hby dMK_252) t k) ?_
    show Way _ _ _ _ (T1191.setTop (mkF m 253 #[rv pa, iv 10] [(.int x4), (.int 4), (.ref a1062), (.ref a1062), (.ref a1042), (.ref a1042)]))
    have V1216 : Arv Z h1192 a1062 kc1056 .char (10 : Int32) [(.int x0), (.int x1), (.int x2), (.int x3), (.int 0)] (.int 0) := V1199.pad (pad_rep [(.int x0), (.int x1), (.int x2), (.int x3)] (.int 0) 1)
    obtain ⟨c1217, A1218, q1219, S1220, M1221, H1222, U1223⟩ := id V1216
    obtain ⟨T1224, h1225, X1226, e1227, W1228, st1229⟩ := stC X1193 hx hZ e1194 A1218 (j := (4 : Int32)) (inb_of S1220 ⟨(by decide), (by decide)⟩) (g := (mkF m 253 #[rv pa, iv 10] [(.int x4), (.int 4), (.ref a1062), (.ref a1062), (.ref a1042), (.ref a1042)])) rfl rfl (hb hby dMK_253)
    have N1230 := Fr.snoc X1226 N1197 nw1067
    have V1231 : Arv Z h1225 a1062 kc1056 .char (10 : Int32) [(.int x0), (.int x1), (.int x2), (.int x3), (.int (nar .char x4))] (.int 0) := Arv.set A1218 q1219 S1220 M1221 H1222 U1223 (fits_nar_char _) W1228 4 rfl (leB rfl)
    have nq1233 : nar .char x4 = x4 := own_b.nar hb4
    have V1232 : Arv Z h1225 a1062 kc1056 .char (10 : Int32) [(.int x0), (.int x1), (.int x2), (.int x3), (.int x4)] (.int 0) := by rw [nq1233] at V1231; exact V1231
    have A1234 := A1201.other W1228 ne1065
    have E1235 := Exa.wr W1228 E1202
    have F1236 := F1203.other W1228 (Or.inl ne1066)
    have F1237 := F1204.other W1228 (Or.inl ne1066)
    have Z1238 : n0 ≤ h1225.size := by rw [W1228.size]; exact Z1205
    have O1239 := O1206.wr W1228 nw1067
    have K1240 := K1207.wr W1228 (Or.inr hk1068)
    have hz1241 : h0.size ≤ h1225.size := by rw [W1228.size]; exact hz1208
    refine Way.by st1229 ?_
    show Way _ _ _ _ (T1224.setTop (mkF m 254 #[rv pa, iv 10] [(.ref a1062), (.ref a1042), (.ref a1042)]))
    try clear X1193 e1194 N1197 V1199 A1201 E1202 F1203 F1204 Z1205 O1206 K1207 hz1208 V1216 c1217 A1218 q1219 S1220 M1221 H1222 U1223 W1228 st1229 V1231
    try clear T1191 h1192
    refine Way.by (fun _ k => XS.dup X1226.here hx rfl (hb hby dMK_254) rfl rfl k) ?_
    show Way _ _ _ _ (T1224.setTop (mkF m 255 #[rv pa, iv 10] [(.ref a1062), (.ref a1062), (.ref a1042), (.ref a1042)]))
    refine Way.by (fun _ k => XS.iconst X1226.here hx rfl (hb hby dMK_255) k) ?_
    show Way _ _ _ _ (T1224.setTop (mkF m 256 #[rv pa, iv 10] [(.int 5), (.ref a1062), (.ref a1062), (.ref a1042), (.ref a1042)]))
    refine Way.by (fun _ k => XS.aloadN X1226.here hx rfl (hb hby dMK_256) rfl rfl k) ?_
    show Way _ _ _ _ (T1224.setTop (mkF m 257 #[rv pa, iv 10] [(.ref pa), (.int 5), (.ref a1062), (.ref a1062), (.ref a1042), (.ref a1042)]))
    refine Way.by (fun _ k => XS.iconst X1226.here hx rfl (hb hby dMK_257) k) ?_
    show Way _ _ _ _ (T1224.setTop (mkF m 258 #[rv pa, iv 10] [(.int 5), (.ref pa), (.int 5), (.ref a1062), (.ref a1062), (.ref a1042), (.ref a1042)]))
    obtain ⟨c1242, A1243, q1244, S1245, M1246, H1247, U1248⟩ := id A1234
    refine Way.by (fun t k => Stand.caload X1226 hx (hpE e1227 A1243.1) (arrS hZ A1243) A1243.2.2 (inb_of S1245 ⟨(by decide), (by decide)⟩) (Has.at H1247 (inb_of S1245 ⟨(by decide), (by decide)⟩) rfl) (g := (mkF m 258 #[rv pa, iv 10] [(.int 5), (.ref pa), (.int 5), (.ref a1062), (.ref a1062), (.ref a1042), (.ref a1042)])) rfl rfl (hb hby dMK_258) t k) ?_
    show Way _ _ _ _ (T1224.setTop (mkF m 259 #[rv pa, iv 10] [(.int x5), (.int 5), (.ref a1062), (.ref a1062), (.ref a1042), (.ref a1042)]))
    have V1249 : Arv Z h1225 a1062 kc1056 .char (10 : Int32) [(.int x0), (.int x1), (.int x2), (.int x3), (.int x4), (.int 0)] (.int 0) := V1232.pad (pad_rep [(.int x0), (.int x1), (.int x2), (.int x3), (.int x4)] (.int 0) 1)
    obtain ⟨c1250, A1251, q1252, S1253, M1254, H1255, U1256⟩ := id V1249
    obtain ⟨T1257, h1258, X1259, e1260, W1261, st1262⟩ := stC X1226 hx hZ e1227 A1251 (j := (5 : Int32)) (inb_of S1253 ⟨(by decide), (by decide)⟩) (g := (mkF m 259 #[rv pa, iv 10] [(.int x5), (.int 5), (.ref a1062), (.ref a1062), (.ref a1042), (.ref a1042)])) rfl rfl (hb hby dMK_259)
    have N1263 := Fr.snoc X1259 N1230 nw1067
    have V1264 : Arv Z h1258 a1062 kc1056 .char (10 : Int32) [(.int x0), (.int x1), (.int x2), (.int x3), (.int x4), (.int (nar .char x5))] (.int 0) := Arv.set A1251 q1252 S1253 M1254 H1255 U1256 (fits_nar_char _) W1261 5 rfl (leB rfl)
    have nq1266 : nar .char x5 = x5 := own_b.nar hb5
    have V1265 : Arv Z h1258 a1062 kc1056 .char (10 : Int32) [(.int x0), (.int x1), (.int x2), (.int x3), (.int x4), (.int x5)] (.int 0) := by rw [nq1266] at V1264; exact V1264
    have A1267 := A1234.other W1261 ne1065
    have E1268 := Exa.wr W1261 E1235
    have F1269 := F1236.other W1261 (Or.inl ne1066)
    have F1270 := F1237.other W1261 (Or.inl ne1066)
    have Z1271 : n0 ≤ h1258.size := by rw [W1261.size]; exact Z1238
    have O1272 := O1239.wr W1261 nw1067
    have K1273 := K1240.wr W1261 (Or.inr hk1068)
    have hz1274 : h0.size ≤ h1258.size := by rw [W1261.size]; exact hz1241
    refine Way.by st1262 ?_
    show Way _ _ _ _ (T1257.setTop (mkF m 260 #[rv pa, iv 10] [(.ref a1062), (.ref a1042), (.ref a1042)]))
    try clear X1226 e1227 N1230 V1232 A1234 E1235 F1236 F1237 Z1238 O1239 K1240 hz1241 V1249 c1250 A1251 q1252 S1253 M1254 H1255 U1256 W1261 st1262 V1264
    try clear T1224 h1225
    refine Way.by (fun _ k => XS.dup X1259.here hx rfl (hb hby dMK_260) rfl rfl k) ?_
    show Way _ _ _ _ (T1257.setTop (mkF m 261 #[rv pa, iv 10] [(.ref a1062), (.ref a1062), (.ref a1042), (.ref a1042)]))
    refine Way.by (fun _ k => XS.bipush X1259.here hx rfl (hb hby dMK_261) k) ?_
    show Way _ _ _ _ (T1257.setTop (mkF m 263 #[rv pa, iv 10] [(.int 6), (.ref a1062), (.ref a1062), (.ref a1042), (.ref a1042)]))
    refine Way.by (fun _ k => XS.aloadN X1259.here hx rfl (hb hby dMK_263) rfl rfl k) ?_
    show Way _ _ _ _ (T1257.setTop (mkF m 264 #[rv pa, iv 10] [(.ref pa), (.int 6), (.ref a1062), (.ref a1062), (.ref a1042), (.ref a1042)]))
    refine Way.by (fun _ k => XS.bipush X1259.here hx rfl (hb hby dMK_264) k) ?_
    show Way _ _ _ _ (T1257.setTop (mkF m 266 #[rv pa, iv 10] [(.int 6), (.ref pa), (.int 6), (.ref a1062), (.ref a1062), (.ref a1042), (.ref a1042)]))
    obtain ⟨c1275, A1276, q1277, S1278, M1279, H1280, U1281⟩ := id A1267
    refine Way.by (fun t k => Stand.caload X1259 hx (hpE e1260 A1276.1) (arrS hZ A1276) A1276.2.2 (inb_of S1278 ⟨(by decide), (by decide)⟩) (Has.at H1280 (inb_of S1278 ⟨(by decide), (by decide)⟩) rfl) (g := (mkF m 266 #[rv pa, iv 10] [(.int 6), (.ref pa), (.int 6), (.ref a1062), (.ref a1062), (.ref a1042), (.ref a1042)])) rfl rfl (hb hby dMK_266) t k) ?_
    show Way _ _ _ _ (T1257.setTop (mkF m 267 #[rv pa, iv 10] [(.int x6), (.int 6), (.ref a1062), (.ref a1062), (.ref a1042), (.ref a1042)]))
    have V1282 : Arv Z h1258 a1062 kc1056 .char (10 : Int32) [(.int x0), (.int x1), (.int x2), (.int x3), (.int x4), (.int x5), (.int 0)] (.int 0) := V1265.pad (pad_rep [(.int x0), (.int x1), (.int x2), (.int x3), (.int x4), (.int x5)] (.int 0) 1)
    obtain ⟨c1283, A1284, q1285, S1286, M1287, H1288, U1289⟩ := id V1282
    obtain ⟨T1290, h1291, X1292, e1293, W1294, st1295⟩ := stC X1259 hx hZ e1260 A1284 (j := (6 : Int32)) (inb_of S1286 ⟨(by decide), (by decide)⟩) (g := (mkF m 267 #[rv pa, iv 10] [(.int x6), (.int 6), (.ref a1062), (.ref a1062), (.ref a1042), (.ref a1042)])) rfl rfl (hb hby dMK_267)
    have N1296 := Fr.snoc X1292 N1263 nw1067
    have V1297 : Arv Z h1291 a1062 kc1056 .char (10 : Int32) [(.int x0), (.int x1), (.int x2), (.int x3), (.int x4), (.int x5), (.int (nar .char x6))] (.int 0) := Arv.set A1284 q1285 S1286 M1287 H1288 U1289 (fits_nar_char _) W1294 6 rfl (leB rfl)
    have nq1299 : nar .char x6 = x6 := own_b.nar hb6
    have V1298 : Arv Z h1291 a1062 kc1056 .char (10 : Int32) [(.int x0), (.int x1), (.int x2), (.int x3), (.int x4), (.int x5), (.int x6)] (.int 0) := by rw [nq1299] at V1297; exact V1297
    have A1300 := A1267.other W1294 ne1065
    have E1301 := Exa.wr W1294 E1268
    have F1302 := F1269.other W1294 (Or.inl ne1066)
    have F1303 := F1270.other W1294 (Or.inl ne1066)
    have Z1304 : n0 ≤ h1291.size := by rw [W1294.size]; exact Z1271
    have O1305 := O1272.wr W1294 nw1067
    have K1306 := K1273.wr W1294 (Or.inr hk1068)
    have hz1307 : h0.size ≤ h1291.size := by rw [W1294.size]; exact hz1274
    refine Way.by st1295 ?_
    show Way _ _ _ _ (T1290.setTop (mkF m 268 #[rv pa, iv 10] [(.ref a1062), (.ref a1042), (.ref a1042)]))
    try clear X1259 e1260 N1263 V1265 A1267 E1268 F1269 F1270 Z1271 O1272 K1273 hz1274 V1282 c1283 A1284 q1285 S1286 M1287 H1288 U1289 W1294 st1295 V1297
    try clear T1257 h1258
    refine Way.by (fun _ k => XS.dup X1292.here hx rfl (hb hby dMK_268) rfl rfl k) ?_
    show Way _ _ _ _ (T1290.setTop (mkF m 269 #[rv pa, iv 10] [(.ref a1062), (.ref a1062), (.ref a1042), (.ref a1042)]))
    refine Way.by (fun _ k => XS.bipush X1292.here hx rfl (hb hby dMK_269) k) ?_
    show Way _ _ _ _ (T1290.setTop (mkF m 271 #[rv pa, iv 10] [(.int 7), (.ref a1062), (.ref a1062), (.ref a1042), (.ref a1042)]))
    refine Way.by (fun _ k => XS.aloadN X1292.here hx rfl (hb hby dMK_271) rfl rfl k) ?_
    show Way _ _ _ _ (T1290.setTop (mkF m 272 #[rv pa, iv 10] [(.ref pa), (.int 7), (.ref a1062), (.ref a1062), (.ref a1042), (.ref a1042)]))
    refine Way.by (fun _ k => XS.bipush X1292.here hx rfl (hb hby dMK_272) k) ?_
    show Way _ _ _ _ (T1290.setTop (mkF m 274 #[rv pa, iv 10] [(.int 7), (.ref pa), (.int 7), (.ref a1062), (.ref a1062), (.ref a1042), (.ref a1042)]))
    obtain ⟨c1308, A1309, q1310, S1311, M1312, H1313, U1314⟩ := id A1300
    refine Way.by (fun t k => Stand.caload X1292 hx (hpE e1293 A1309.1) (arrS hZ A1309) A1309.2.2 (inb_of S1311 ⟨(by decide), (by decide)⟩) (Has.at H1313 (inb_of S1311 ⟨(by decide), (by decide)⟩) rfl) (g := (mkF m 274 #[rv pa, iv 10] [(.int 7), (.ref pa), (.int 7), (.ref a1062), (.ref a1062), (.ref a1042), (.ref a1042)])) rfl rfl (hb hby dMK_274) t k) ?_
    show Way _ _ _ _ (T1290.setTop (mkF m 275 #[rv pa, iv 10] [(.int x7), (.int 7), (.ref a1062), (.ref a1062), (.ref a1042), (.ref a1042)]))
    have V1315 : Arv Z h1291 a1062 kc1056 .char (10 : Int32) [(.int x0), (.int x1), (.int x2), (.int x3), (.int x4), (.int x5), (.int x6), (.int 0)] (.int 0) := V1298.pad (pad_rep [(.int x0), (.int x1), (.int x2), (.int x3), (.int x4), (.int x5), (.int x6)] (.int 0) 1)
    obtain ⟨c1316, A1317, q1318, S1319, M1320, H1321, U1322⟩ := id V1315
    obtain ⟨T1323, h1324, X1325, e1326, W1327, st1328⟩ := stC X1292 hx hZ e1293 A1317 (j := (7 : Int32)) (inb_of S1319 ⟨(by decide), (by decide)⟩) (g := (mkF m 275 #[rv pa, iv 10] [(.int x7), (.int 7), (.ref a1062), (.ref a1062), (.ref a1042), (.ref a1042)])) rfl rfl (hb hby dMK_275)
    have N1329 := Fr.snoc X1325 N1296 nw1067
    have V1330 : Arv Z h1324 a1062 kc1056 .char (10 : Int32) [(.int x0), (.int x1), (.int x2), (.int x3), (.int x4), (.int x5), (.int x6), (.int (nar .char x7))] (.int 0) := Arv.set A1317 q1318 S1319 M1320 H1321 U1322 (fits_nar_char _) W1327 7 rfl (leB rfl)
    have nq1332 : nar .char x7 = x7 := own_b.nar hb7
    have V1331 : Arv Z h1324 a1062 kc1056 .char (10 : Int32) [(.int x0), (.int x1), (.int x2), (.int x3), (.int x4), (.int x5), (.int x6), (.int x7)] (.int 0) := by rw [nq1332] at V1330; exact V1330
    have A1333 := A1300.other W1327 ne1065
    have E1334 := Exa.wr W1327 E1301
    have F1335 := F1302.other W1327 (Or.inl ne1066)
    have F1336 := F1303.other W1327 (Or.inl ne1066)
    have Z1337 : n0 ≤ h1324.size := by rw [W1327.size]; exact Z1304
    have O1338 := O1305.wr W1327 nw1067
    have K1339 := K1306.wr W1327 (Or.inr hk1068)
    have hz1340 : h0.size ≤ h1324.size := by rw [W1327.size]; exact hz1307
    refine Way.by st1328 ?_
    show Way _ _ _ _ (T1323.setTop (mkF m 276 #[rv pa, iv 10] [(.ref a1062), (.ref a1042), (.ref a1042)]))
    try clear X1292 e1293 N1296 V1298 A1300 E1301 F1302 F1303 Z1304 O1305 K1306 hz1307 V1315 c1316 A1317 q1318 S1319 M1320 H1321 U1322 W1327 st1328 V1330
    try clear T1290 h1291
    refine Way.by (fun _ k => XS.dup X1325.here hx rfl (hb hby dMK_276) rfl rfl k) ?_
    show Way _ _ _ _ (T1323.setTop (mkF m 277 #[rv pa, iv 10] [(.ref a1062), (.ref a1062), (.ref a1042), (.ref a1042)]))
    refine Way.by (fun _ k => XS.bipush X1325.here hx rfl (hb hby dMK_277) k) ?_
    show Way _ _ _ _ (T1323.setTop (mkF m 279 #[rv pa, iv 10] [(.int 8), (.ref a1062), (.ref a1062), (.ref a1042), (.ref a1042)]))
    refine Way.by (fun _ k => XS.aloadN X1325.here hx rfl (hb hby dMK_279) rfl rfl k) ?_
    show Way _ _ _ _ (T1323.setTop (mkF m 280 #[rv pa, iv 10] [(.ref pa), (.int 8), (.ref a1062), (.ref a1062), (.ref a1042), (.ref a1042)]))
    refine Way.by (fun _ k => XS.bipush X1325.here hx rfl (hb hby dMK_280) k) ?_
    show Way _ _ _ _ (T1323.setTop (mkF m 282 #[rv pa, iv 10] [(.int 8), (.ref pa), (.int 8), (.ref a1062), (.ref a1062), (.ref a1042), (.ref a1042)]))
    obtain ⟨c1341, A1342, q1343, S1344, M1345, H1346, U1347⟩ := id A1333
    refine Way.by (fun t k => Stand.caload X1325 hx (hpE e1326 A1342.1) (arrS hZ A1342) A1342.2.2 (inb_of S1344 ⟨(by decide), (by decide)⟩) (Has.at H1346 (inb_of S1344 ⟨(by decide), (by decide)⟩) rfl) (g := (mkF m 282 #[rv pa, iv 10] [(.int 8), (.ref pa), (.int 8), (.ref a1062), (.ref a1062), (.ref a1042), (.ref a1042)])) rfl rfl (hb hby dMK_282) t k) ?_
    show Way _ _ _ _ (T1323.setTop (mkF m 283 #[rv pa, iv 10] [(.int x8), (.int 8), (.ref a1062), (.ref a1062), (.ref a1042), (.ref a1042)]))
    have V1348 : Arv Z h1324 a1062 kc1056 .char (10 : Int32) [(.int x0), (.int x1), (.int x2), (.int x3), (.int x4), (.int x5), (.int x6), (.int x7), (.int 0)] (.int 0) := V1331.pad (pad_rep [(.int x0), (.int x1), (.int x2), (.int x3), (.int x4), (.int x5), (.int x6), (.int x7)] (.int 0) 1)
    obtain ⟨c1349, A1350, q1351, S1352, M1353, H1354, U1355⟩ := id V1348
    obtain ⟨T1356, h1357, X1358, e1359, W1360, st1361⟩ := stC X1325 hx hZ e1326 A1350 (j := (8 : Int32)) (inb_of S1352 ⟨(by decide), (by decide)⟩) (g := (mkF m 283 #[rv pa, iv 10] [(.int x8), (.int 8), (.ref a1062), (.ref a1062), (.ref a1042), (.ref a1042)])) rfl rfl (hb hby dMK_283)
    have N1362 := Fr.snoc X1358 N1329 nw1067
    have V1363 : Arv Z h1357 a1062 kc1056 .char (10 : Int32) [(.int x0), (.int x1), (.int x2), (.int x3), (.int x4), (.int x5), (.int x6), (.int x7), (.int (nar .char x8))] (.int 0) := Arv.set A1350 q1351 S1352 M1353 H1354 U1355 (fits_nar_char _) W1360 8 rfl (leB rfl)
    have nq1365 : nar .char x8 = x8 := own_b.nar hb8
    have V1364 : Arv Z h1357 a1062 kc1056 .char (10 : Int32) [(.int x0), (.int x1), (.int x2), (.int x3), (.int x4), (.int x5), (.int x6), (.int x7), (.int x8)] (.int 0) := by rw [nq1365] at V1363; exact V1363
    have A1366 := A1333.other W1360 ne1065
    have E1367 := Exa.wr W1360 E1334
    have F1368 := F1335.other W1360 (Or.inl ne1066)
    have F1369 := F1336.other W1360 (Or.inl ne1066)
    have Z1370 : n0 ≤ h1357.size := by rw [W1360.size]; exact Z1337
    have O1371 := O1338.wr W1360 nw1067
    have K1372 := K1339.wr W1360 (Or.inr hk1068)
    have hz1373 : h0.size ≤ h1357.size := by rw [W1360.size]; exact hz1340
    refine Way.by st1361 ?_
    show Way _ _ _ _ (T1356.setTop (mkF m 284 #[rv pa, iv 10] [(.ref a1062), (.ref a1042), (.ref a1042)]))
    try clear X1325 e1326 N1329 V1331 A1333 E1334 F1335 F1336 Z1337 O1338 K1339 hz1340 V1348 c1349 A1350 q1351 S1352 M1353 H1354 U1355 W1360 st1361 V1363
    try clear T1323 h1324
    refine Way.by (fun _ k => XS.dup X1358.here hx rfl (hb hby dMK_284) rfl rfl k) ?_
    show Way _ _ _ _ (T1356.setTop (mkF m 285 #[rv pa, iv 10] [(.ref a1062), (.ref a1062), (.ref a1042), (.ref a1042)]))
    refine Way.by (fun _ k => XS.bipush X1358.here hx rfl (hb hby dMK_285) k) ?_
    show Way _ _ _ _ (T1356.setTop (mkF m 287 #[rv pa, iv 10] [(.int 9), (.ref a1062), (.ref a1062), (.ref a1042), (.ref a1042)]))
    refine Way.by (fun _ k => XS.aloadN X1358.here hx rfl (hb hby dMK_287) rfl rfl k) ?_
    show Way _ _ _ _ (T1356.setTop (mkF m 288 #[rv pa, iv 10] [(.ref pa), (.int 9), (.ref a1062), (.ref a1062), (.ref a1042), (.ref a1042)]))
    refine Way.by (fun _ k => XS.bipush X1358.here hx rfl (hb hby dMK_288) k) ?_
    show Way _ _ _ _ (T1356.setTop (mkF m 290 #[rv pa, iv 10] [(.int 9), (.ref pa), (.int 9), (.ref a1062), (.ref a1062), (.ref a1042), (.ref a1042)]))
    obtain ⟨c1374, A1375, q1376, S1377, M1378, H1379, U1380⟩ := id A1366
    refine Way.by (fun t k => Stand.caload X1358 hx (hpE e1359 A1375.1) (arrS hZ A1375) A1375.2.2 (inb_of S1377 ⟨(by decide), (by decide)⟩) (Has.at H1379 (inb_of S1377 ⟨(by decide), (by decide)⟩) rfl) (g := (mkF m 290 #[rv pa, iv 10] [(.int 9), (.ref pa), (.int 9), (.ref a1062), (.ref a1062), (.ref a1042), (.ref a1042)])) rfl rfl (hb hby dMK_290) t k) ?_
    show Way _ _ _ _ (T1356.setTop (mkF m 291 #[rv pa, iv 10] [(.int x9), (.int 9), (.ref a1062), (.ref a1062), (.ref a1042), (.ref a1042)]))
    have V1381 : Arv Z h1357 a1062 kc1056 .char (10 : Int32) [(.int x0), (.int x1), (.int x2), (.int x3), (.int x4), (.int x5), (.int x6), (.int x7), (.int x8), (.int 0)] (.int 0) := V1364.pad (pad_rep [(.int x0), (.int x1), (.int x2), (.int x3), (.int x4), (.int x5), (.int x6), (.int x7), (.int x8)] (.int 0) 1)
    obtain ⟨c1382, A1383, q1384, S1385, M1386, H1387, U1388⟩ := id V1381
    obtain ⟨T1389, h1390, X1391, e1392, W1393, st1394⟩ := stC X1358 hx hZ e1359 A1383 (j := (9 : Int32)) (inb_of S1385 ⟨(by decide), (by decide)⟩) (g := (mkF m 291 #[rv pa, iv 10] [(.int x9), (.int 9), (.ref a1062), (.ref a1062), (.ref a1042), (.ref a1042)])) rfl rfl (hb hby dMK_291)
    have N1395 := Fr.snoc X1391 N1362 nw1067
    have V1396 : Arv Z h1390 a1062 kc1056 .char (10 : Int32) [(.int x0), (.int x1), (.int x2), (.int x3), (.int x4), (.int x5), (.int x6), (.int x7), (.int x8), (.int (nar .char x9))] (.int 0) := Arv.set A1383 q1384 S1385 M1386 H1387 U1388 (fits_nar_char _) W1393 9 rfl (leB rfl)
    have nq1398 : nar .char x9 = x9 := own_b.nar hb9
    have V1397 : Arv Z h1390 a1062 kc1056 .char (10 : Int32) [(.int x0), (.int x1), (.int x2), (.int x3), (.int x4), (.int x5), (.int x6), (.int x7), (.int x8), (.int x9)] (.int 0) := by rw [nq1398] at V1396; exact V1396
    have A1399 := A1366.other W1393 ne1065
    have E1400 := Exa.wr W1393 E1367
    have F1401 := F1368.other W1393 (Or.inl ne1066)
    have F1402 := F1369.other W1393 (Or.inl ne1066)
    have Z1403 : n0 ≤ h1390.size := by rw [W1393.size]; exact Z1370
    have O1404 := O1371.wr W1393 nw1067
    have K1405 := K1372.wr W1393 (Or.inr hk1068)
    have hz1406 : h0.size ≤ h1390.size := by rw [W1393.size]; exact hz1373
    refine Way.by st1394 ?_
    show Way _ _ _ _ (T1389.setTop (mkF m 292 #[rv pa, iv 10] [(.ref a1062), (.ref a1042), (.ref a1042)]))
    try clear X1358 e1359 N1362 V1364 A1366 E1367 F1368 F1369 Z1370 O1371 K1372 hz1373 V1381 c1382 A1383 q1384 S1385 M1386 H1387 U1388 W1393 st1394 V1396
    try clear T1356 h1357
    have hp1407 : ∀ c ∈ ([x0, x1, x2, x3, x4, x5, x6, x7, x8, x9] : List Int32), ¬ c < 0 ∧ ¬ (255 : Int32) < c := by intro c hc; simp only [List.mem_cons, List.not_mem_nil, or_false] at hc; rcases hc with rfl | rfl | rfl | rfl | rfl | rfl | rfl | rfl | rfl | rfl <;> assumption
    obtain ⟨_, _, ⟨T1408, L1410, k1411, n1412⟩, -, X1409, ⟨Lc1413, hQ1414, l1415, y1416, z1417⟩, st1418⟩ := X1391.specialBack hx (y := (⟨"java/lang/String", "<init>", "([C)V"⟩ : MethodName)) rfl hown (mvT hZ (tw hw 56 rfl)) (mvT hZ (tw hw 57 rfl)) (mvT hZ (tw hw 58 rfl)) (by decide) (own_new (W := 1) (n0 := n0) hZ hw SV O1404 (cs := [x0, x1, x2, x3, x4, x5, x6, x7, x8, x9]) (n := 10) nw1045 Z1403 E1400 F1401 F1402 V1397 rfl rfl (by decide) (by decide) hp1407 (by decide) (by decide)) (g := (mkF m 292 #[rv pa, iv 10] [(.ref a1062), (.ref a1042), (.ref a1042)])) rfl (by rw [hml]; rfl) (Steps.refl _) (a := a1042) (argsL := [(.ref a1062)]) (rest := [(.ref a1042)]) (lenOf own_pdNew rfl) rfl (leW rfl) (hb hby dMK_292) (fun _ _ => ⟨rfl, e1392, (leB rfl), (leB rfl)⟩)
    dsimp only [Pt.U, Pt.locs, Pt.cells, Pt.slots] at X1409 l1415 y1416 z1417 st1418 hQ1414
    subst y1416 z1417
    obtain ⟨rfl, N1424, K1425, x_t1428, fr_t1427, F1426⟩ := hQ1414
    have N1419 : Fr n0 L1410 := by rw [l1415]; exact Fr.app N1395 N1424
    have ne1429 : pa ≠ x_t1428 := Nat.ne_of_lt (Nat.lt_of_lt_of_le A1399.lt fr_t1427)
    have ne1430 : a1042 ≠ x_t1428 := Nat.ne_of_lt (Nat.lt_of_lt_of_le E1400.lt fr_t1427)
    have ne1431 : a1062 ≠ x_t1428 := Nat.ne_of_lt (Nat.lt_of_lt_of_le V1397.lt fr_t1427)
    have nw1432 : n0 ≤ x_t1428 := Nat.le_trans Z1403 fr_t1427
    have hk1433 : h0.size ≤ x_t1428 := Nat.le_trans hz1406 fr_t1427
    have A1434 := A1399.keep K1425 (ninS ne1044 nin0)
    have E1435 := E1400.keep K1425
    have A1436 := V1397.keep K1425 (ninS ne1066.symm nin0)
    have Z1437 := Nat.le_trans Z1403 K1425.1
    have O1438 := O1404.keep K1425 (allS nw1045 all0)
    have K1439 := K1405.trans K1425 (allS (Or.inr hk1046) all0)
    have hz1440 := Nat.le_trans hz1406 K1425.1
    refine Way.to st1418 ?_
    show Way _ _ _ _ (T1408.setTop (mkF m 295 #[rv pa, iv 10] [(.ref a1042)]))
    try clear X1391 e1392 N1395 V1397 A1399 E1400 F1401 F1402 Z1403 O1404 K1405 hz1406 st1418 N1424 K1425
    try clear T1389 h1390
    refine Way.ret (v := (some (.ref a1042))) X1409 hlk (fun h => by rw [Bd.returns] at h; cases h) (fun fs hr => retOut X1409 hx Bd.returns rfl (Or.inr (Or.inr (Or.inr (Or.inr ⟨rfl, rfl, rfl⟩)))) (hb hby dMK_295) hr) ?_ (by decide) (by decide)
    show QMK Z pa ka _ x0 x1 x2 x3 x4 x5 x6 x7 x8 x9 x10 x11 x12 x13 x14 x15 h0 n0 _ T1408.heap _
    skip
    exact ⟨a1042, x_t1428, [x0, x1, x2, x3, x4, x5, x6, x7, x8, x9], rfl, N1419, K1439, hk1046, hk1433, F1426⟩
  · skip
    show Way _ _ _ _ (s₁.setTop (mkF m 0 #[rv pa, iv 13] []))
    refine Way.by (fun _ k => XS.iloadN X0.here hx rfl (hb hby dMK_0) rfl k) ?_
    show Way _ _ _ _ (s₁.setTop (mkF m 1 #[rv pa, iv 13] [(.int 13)]))
    refine Way.by (fun _ k => XS.bipush X0.here hx rfl (hb hby dMK_1) k) ?_
    show Way _ _ _ _ (s₁.setTop (mkF m 3 #[rv pa, iv 13] [(.int 7), (.int 13)]))
    have b1441 : ¬ (13 : Int32) = (7 : Int32) := by decide
    refine Way.by (fun _ k => XS.icmpYes X0.here hx rfl (pc0 := 3) (pc' := 62) rfl (hb hby dMK_3) rfl (feq b1441).2 (by decide) (by decide) k) ?_
    show Way _ _ _ _ (s₁.setTop (mkF m 62 #[rv pa, iv 13] []))
    refine Way.by (fun _ k => XS.iloadN X0.here hx rfl (hb hby dMK_62) rfl k) ?_
    show Way _ _ _ _ (s₁.setTop (mkF m 63 #[rv pa, iv 13] [(.int 13)]))
    refine Way.by (fun _ k => XS.bipush X0.here hx rfl (hb hby dMK_63) k) ?_
    show Way _ _ _ _ (s₁.setTop (mkF m 65 #[rv pa, iv 13] [(.int 8), (.int 13)]))
    have b1442 : ¬ (13 : Int32) = (8 : Int32) := by decide
    refine Way.by (fun _ k => XS.icmpYes X0.here hx rfl (pc0 := 65) (pc' := 132) rfl (hb hby dMK_65) rfl (feq b1442).2 (by decide) (by decide) k) ?_
    show Way _ _ _ _ (s₁.setTop (mkF m 132 #[rv pa, iv 13] []))
    refine Way.by (fun _ k => XS.iloadN X0.here hx rfl (hb hby dMK_132) rfl k) ?_
    show Way _ _ _ _ (s₁.setTop (mkF m 133 #[rv pa, iv 13] [(.int 13)]))
    refine Way.by (fun _ k => XS.bipush X0.here hx rfl (hb hby dMK_133) k) ?_
    show Way _ _ _ _ (s₁.setTop (mkF m 135 #[rv pa, iv 13] [(.int 9), (.int 13)]))
    have b1443 : ¬ (13 : Int32) = (9 : Int32) := by decide
    refine Way.by (fun _ k => XS.icmpYes X0.here hx rfl (pc0 := 135) (pc' := 210) rfl (hb hby dMK_135) rfl (feq b1443).2 (by decide) (by decide) k) ?_
    show Way _ _ _ _ (s₁.setTop (mkF m 210 #[rv pa, iv 13] []))
    refine Way.by (fun _ k => XS.iloadN X0.here hx rfl (hb hby dMK_210) rfl k) ?_
    show Way _ _ _ _ (s₁.setTop (mkF m 211 #[rv pa, iv 13] [(.int 13)]))
    refine Way.by (fun _ k => XS.bipush X0.here hx rfl (hb hby dMK_211) k) ?_
    show Way _ _ _ _ (s₁.setTop (mkF m 213 #[rv pa, iv 13] [(.int 10), (.int 13)]))
    have b1444 : ¬ (13 : Int32) = (10 : Int32) := by decide
    refine Way.by (fun _ k => XS.icmpYes X0.here hx rfl (pc0 := 213) (pc' := 296) rfl (hb hby dMK_213) rfl (feq b1444).2 (by decide) (by decide) k) ?_
    show Way _ _ _ _ (s₁.setTop (mkF m 296 #[rv pa, iv 13] []))
    refine Way.by (fun _ k => XS.iloadN X0.here hx rfl (hb hby dMK_296) rfl k) ?_
    show Way _ _ _ _ (s₁.setTop (mkF m 297 #[rv pa, iv 13] [(.int 13)]))
    refine Way.by (fun _ k => XS.bipush X0.here hx rfl (hb hby dMK_297) k) ?_
    show Way _ _ _ _ (s₁.setTop (mkF m 299 #[rv pa, iv 13] [(.int 13), (.int 13)]))
    have b1445 : (13 : Int32) = (13 : Int32) := by decide
    refine Way.by (fun _ k => XS.icmpNo X0.here hx rfl (hb hby dMK_299) rfl (teq b1445).2 k) ?_
    show Way _ _ _ _ (s₁.setTop (mkF m 302 #[rv pa, iv 13] []))
    obtain ⟨T1446, h1447, X1448, e1449, E1450, A1451, D1452, -, st1453⟩ := newO X0 hx hZ hown (tw hw 55 rfl) (tw hw 3 rfl) (tw hw 2 rfl) e0 (g := (mkF m 302 #[rv pa, iv 13] [])) rfl (hb hby dMK_302) (by decide) (by decide)
    obtain ⟨a1454, g1455⟩ : ∃ z, z = h0.size := ⟨_, rfl⟩
    rw [← g1455] at A1451 D1452 st1453
    have ne1456 : pa ≠ a1454 := Nat.ne_of_lt (Nat.lt_of_lt_of_eq H0.lt g1455.symm)
    have nw1457 : n0 ≤ a1454 := Nat.le_trans Z0 (Nat.le_of_eq g1455.symm)
    have hk1458 : h0.size ≤ a1454 := Nat.le_trans (Nat.le_refl h0.size) (Nat.le_of_eq g1455.symm)
    have A1459 := H0.ext E1450
    have Z1460 := Nat.le_trans Z0 E1450.1
    have O1461 := O0.ext E1450
    have K1462 := (Keep.refl h0 []).ext E1450
    have hz1463 := Nat.le_trans (Nat.le_refl h0.size) E1450.1
    have F1464 : Fld Z h1447 a1454 "java/lang/String" "value" "[B" .null := D1452 (Or.inr (tw hw 5 rfl)) (ty := (.array .byte)) (by decide)
    have F1465 : Fld Z h1447 a1454 "java/lang/String" "coder" "B" (.int 0) := D1452 (Or.inr (tw hw 6 rfl)) (ty := .byte) (by decide)
    refine Way.by st1453 ?_
    show Way _ _ _ _ (T1446.setTop (mkF m 305 #[rv pa, iv 13] [(.ref a1454)]))
    refine Way.by (fun _ k => XS.dup X1448.here hx rfl (hb hby dMK_305) rfl rfl k) ?_
    show Way _ _ _ _ (T1446.setTop (mkF m 306 #[rv pa, iv 13] [(.ref a1454), (.ref a1454)]))
    refine Way.by (fun _ k => XS.bipush X1448.here hx rfl (hb hby dMK_306) k) ?_
    show Way _ _ _ _ (T1446.setTop (mkF m 308 #[rv pa, iv 13] [(.int 13), (.ref a1454), (.ref a1454)]))
    obtain ⟨T1466, h1467, kc1468, X1469, e1470, E1471, A1472, st1473⟩ := newP X1448 hx hZ (tw hw 22 rfl) e1449 (g := (mkF m 308 #[rv pa, iv 13] [(.int 13), (.ref a1454), (.ref a1454)])) rfl (hb hby dMK_308) rfl (by decide) (cap := 13) (by decide) (by decide) (by decide) (by decide)
    obtain ⟨a1474, g1475⟩ : ∃ z, z = h1447.size := ⟨_, rfl⟩
    rw [← g1475] at A1472 st1473
    have ne1477 : pa ≠ a1474 := Nat.ne_of_lt (Nat.lt_of_lt_of_eq A1459.lt g1475.symm)
    have ne1478 : a1454 ≠ a1474 := Nat.ne_of_lt (Nat.lt_of_lt_of_eq A1451.lt g1475.symm)
    have nw1479 : n0 ≤ a1474 := Nat.le_trans Z1460 (Nat.le_of_eq g1475.symm)
    have hk1480 : h0.size ≤ a1474 := Nat.le_trans hz1463 (Nat.le_of_eq g1475.symm)
    have A1481 := A1459.ext E1471
    have E1482 := Exa.ext E1471 A1451
    have F1483 := Fld.ext E1471 F1464
    have F1484 := Fld.ext E1471 F1465
    have Z1485 := Nat.le_trans Z1460 E1471.1
    have O1486 := O1461.ext E1471
    have K1487 := K1462.ext E1471
    have hz1488 := Nat.le_trans hz1463 E1471.1
    have V1476 : Arv Z h1467 a1474 kc1468 .char (13 : Int32) [] (.int 0) := Arv.new A1472 (by decide)
    refine Way.by st1473 ?_
    show Way _ _ _ _ (T1466.setTop (mkF m 310 #[rv pa, iv 13] [(.ref a1474), (.ref a1454), (.ref a1454)]))
    try clear X1448 e1449 A1451 A1459 Z1460 O1461 K1462 hz1463 F1464 F1465 E1471 A1472 st1473
    try clear T1446 h1447
    refine Way.by (fun _ k => XS.dup X1469.here hx rfl (hb hby dMK_310) rfl rfl k) ?_
    show Way _ _ _ _ (T1466.setTop (mkF m 311 #[rv pa, iv 13] [(.ref a1474), (.ref a1474), (.ref a1454), (.ref a1454)]))
    refine Way.by (fun _ k => XS.iconst X1469.here hx rfl (hb hby dMK_311) k) ?_
    show Way _ _ _ _ (T1466.setTop (mkF m 312 #[rv pa, iv 13] [(.int 0), (.ref a1474), (.ref a1474), (.ref a1454), (.ref a1454)]))
    refine Way.by (fun _ k => XS.aloadN X1469.here hx rfl (hb hby dMK_312) rfl rfl k) ?_
    show Way _ _ _ _ (T1466.setTop (mkF m 313 #[rv pa, iv 13] [(.ref pa), (.int 0), (.ref a1474), (.ref a1474), (.ref a1454), (.ref a1454)]))
    refine Way.by (fun _ k => XS.iconst X1469.here hx rfl (hb hby dMK_313) k) ?_
    show Way _ _ _ _ (T1466.setTop (mkF m 314 #[rv pa, iv 13] [(.int 0), (.ref pa), (.int 0), (.ref a1474), (.ref a1474), (.ref a1454), (.ref a1454)]))
    obtain ⟨c1489, A1490, q1491, S1492, M1493, H1494, U1495⟩ := id A1481
    refine Way.by (fun t k => Stand.caload X1469 hx (hpE e1470 A1490.1) (arrS hZ A1490) A1490.2.2 (inb_of S1492 ⟨(by decide), (by decide)⟩) (Has.at H1494 (inb_of S1492 ⟨(by decide), (by decide)⟩) rfl) (g := (mkF m 314 #[rv pa, iv 13] [(.int 0), (.ref pa), (.int 0), (.ref a1474), (.ref a1474), (.ref a1454), (.ref a1454)])) rfl rfl (hb hby dMK_314) t k) ?_
    show Way _ _ _ _ (T1466.setTop (mkF m 315 #[rv pa, iv 13] [(.int x0), (.int 0), (.ref a1474), (.ref a1474), (.ref a1454), (.ref a1454)]))
    have V1496 : Arv Z h1467 a1474 kc1468 .char (13 : Int32) [(.int 0)] (.int 0) := V1476.pad (pad_rep [] (.int 0) 1)
    obtain ⟨c1497, A1498, q1499, S1500, M1501, H1502, U1503⟩ := id V1496
    obtain ⟨T1504, h1505, X1506, e1507, W1508, st1509⟩ := stC X1469 hx hZ e1470 A1498 (j := (0 : Int32)) (inb_of S1500 ⟨(by decide), (by decide)⟩) (g := (mkF m 315 #[rv pa, iv 13] [(.int x0), (.int 0), (.ref a1474), (.ref a1474), (.ref a1454), (.ref a1454)])) rfl rfl (hb hby dMK_315)
    have N1510 := Fr.snoc X1506 N0 nw1479
    have V1511 : Arv Z h1505 a1474 kc1468 .char (13 : Int32) [(.int (nar .char x0))] (.int 0) := Arv.set A1498 q1499 S1500 M1501 H1502 U1503 (fits_nar_char _) W1508 0 rfl (leB rfl)
    have nq1513 : nar .char x0 = x0 := own_b.nar hb0
    have V1512 : Arv Z h1505 a1474 kc1468 .char (13 : Int32) [(.int x0)] (.int 0) := by rw [nq1513] at V1511; exact V1511
    have A1514 := A1481.other W1508 ne1477
    have E1515 := Exa.wr W1508 E1482
    have F1516 := F1483.other W1508 (Or.inl ne1478)
    have F1517 := F1484.other W1508 (Or.inl ne1478)
    have Z1518 : n0 ≤ h1505.size := by rw [W1508.size]; exact Z1485
    have O1519 := O1486.wr W1508 nw1479
    have K1520 := K1487.wr W1508 (Or.inr hk1480)
    have hz1521 : h0.size ≤ h1505.size := by rw [W1508.size]; exact hz1488
    refine Way.by st1509 ?_
    show Way _ _ _ _ (T1504.setTop (mkF m 316 #[rv pa, iv 13] [(.ref a1474), (.ref a1454), (.ref a1454)]))
    try clear X1469 e1470 V1476 A1481 E1482 F1483 F1484 Z1485 O1486 K1487 hz1488 V1496 c1497 A1498 q1499 S1500 M1501 H1502 U1503 W1508 st1509 V1511
    try clear T1466 h1467
    refine Way.by (fun _ k => XS.dup X1506.here hx rfl (hb hby dMK_316) rfl rfl k) ?_
    show Way _ _ _ _ (T1504.setTop (mkF m 317 #[rv pa, iv 13] [(.ref a1474), (.ref a1474), (.ref a1454), (.ref a1454)]))
    refine Way.by (fun _ k => XS.iconst X1506.here hx rfl (hb hby dMK_317) k) ?_
    show Way _ _ _ _ (T1504.setTop (mkF m 318 #[rv pa, iv 13] [(.int 1), (.ref a1474), (.ref a1474), (.ref a1454), (.ref a1454)]))
    refine Way.by (fun _ k => XS.aloadN X1506.here hx rfl (hb hby dMK_318) rfl rfl k) ?_
    show Way _ _ _ _ (T1504.setTop (mkF m 319 #[rv pa, iv 13] [(.ref pa), (.int 1), (.ref a1474), (.ref a1474), (.ref a1454), (.ref a1454)]))
    refine Way.by (fun _ k => XS.iconst X1506.here hx rfl (hb hby dMK_319) k) ?_
    show Way _ _ _ _ (T1504.setTop (mkF m 320 #[rv pa, iv 13] [(.int 1), (.ref pa), (.int 1), (.ref a1474), (.ref a1474), (.ref a1454), (.ref a1454)]))
    obtain ⟨c1522, A1523, q1524, S1525, M1526, H1527, U1528⟩ := id A1514
    refine Way.by (fun t k => Stand.caload X1506 hx (hpE e1507 A1523.1) (arrS hZ A1523) A1523.2.2 (inb_of S1525 ⟨(by decide), (by decide)⟩) (Has.at H1527 (inb_of S1525 ⟨(by decide), (by decide)⟩) rfl) (g := (mkF m 320 #[rv pa, iv 13] [(.int 1), (.ref pa), (.int 1), (.ref a1474), (.ref a1474), (.ref a1454), (.ref a1454)])) rfl rfl (hb hby dMK_320) t k) ?_
    show Way _ _ _ _ (T1504.setTop (mkF m 321 #[rv pa, iv 13] [(.int x1), (.int 1), (.ref a1474), (.ref a1474), (.ref a1454), (.ref a1454)]))
    have V1529 : Arv Z h1505 a1474 kc1468 .char (13 : Int32) [(.int x0), (.int 0)] (.int 0) := V1512.pad (pad_rep [(.int x0)] (.int 0) 1)
    obtain ⟨c1530, A1531, q1532, S1533, M1534, H1535, U1536⟩ := id V1529
    obtain ⟨T1537, h1538, X1539, e1540, W1541, st1542⟩ := stC X1506 hx hZ e1507 A1531 (j := (1 : Int32)) (inb_of S1533 ⟨(by decide), (by decide)⟩) (g := (mkF m 321 #[rv pa, iv 13] [(.int x1), (.int 1), (.ref a1474), (.ref a1474), (.ref a1454), (.ref a1454)])) rfl rfl (hb hby dMK_321)
    have N1543 := Fr.snoc X1539 N1510 nw1479
    have V1544 : Arv Z h1538 a1474 kc1468 .char (13 : Int32) [(.int x0), (.int (nar .char x1))] (.int 0) := Arv.set A1531 q1532 S1533 M1534 H1535 U1536 (fits_nar_char _) W1541 1 rfl (leB rfl)
    have nq1546 : nar .char x1 = x1 := own_b.nar hb1
    have V1545 : Arv Z h1538 a1474 kc1468 .char (13 : Int32) [(.int x0), (.int x1)] (.int 0) := by rw [nq1546] at V1544; exact V1544
    have A1547 := A1514.other W1541 ne1477
    have E1548 := Exa.wr W1541 E1515
    have F1549 := F1516.other W1541 (Or.inl ne1478)
    have F1550 := F1517.other W1541 (Or.inl ne1478)
    have Z1551 : n0 ≤ h1538.size := by rw [W1541.size]; exact Z1518
    have O1552 := O1519.wr W1541 nw1479
    have K1553 := K1520.wr W1541 (Or.inr hk1480)
    have hz1554 : h0.size ≤ h1538.size := by rw [W1541.size]; exact hz1521
    refine Way.by st1542 ?_
    show Way _ _ _ _ (T1537.setTop (mkF m 322 #[rv pa, iv 13] [(.ref a1474), (.ref a1454), (.ref a1454)]))
    try clear X1506 e1507 N1510 V1512 A1514 E1515 F1516 F1517 Z1518 O1519 K1520 hz1521 V1529 c1530 A1531 q1532 S1533 M1534 H1535 U1536 W1541 st1542 V1544
    try clear T1504 h1505
    refine Way.by (fun _ k => XS.dup X1539.here hx rfl (hb hby dMK_322) rfl rfl k) ?_
    show Way _ _ _ _ (T1537.setTop (mkF m 323 #[rv pa, iv 13] [(.ref a1474), (.ref a1474), (.ref a1454), (.ref a1454)]))
    refine Way.by (fun _ k => XS.iconst X1539.here hx rfl (hb hby dMK_323) k) ?_
    show Way _ _ _ _ (T1537.setTop (mkF m 324 #[rv pa, iv 13] [(.int 2), (.ref a1474), (.ref a1474), (.ref a1454), (.ref a1454)]))
    refine Way.by (fun _ k => XS.aloadN X1539.here hx rfl (hb hby dMK_324) rfl rfl k) ?_
    show Way _ _ _ _ (T1537.setTop (mkF m 325 #[rv pa, iv 13] [(.ref pa), (.int 2), (.ref a1474), (.ref a1474), (.ref a1454), (.ref a1454)]))
    refine Way.by (fun _ k => XS.iconst X1539.here hx rfl (hb hby dMK_325) k) ?_
    show Way _ _ _ _ (T1537.setTop (mkF m 326 #[rv pa, iv 13] [(.int 2), (.ref pa), (.int 2), (.ref a1474), (.ref a1474), (.ref a1454), (.ref a1454)]))
    obtain ⟨c1555, A1556, q1557, S1558, M1559, H1560, U1561⟩ := id A1547
    refine Way.by (fun t k => Stand.caload X1539 hx (hpE e1540 A1556.1) (arrS hZ A1556) A1556.2.2 (inb_of S1558 ⟨(by decide), (by decide)⟩) (Has.at H1560 (inb_of S1558 ⟨(by decide), (by decide)⟩) rfl) (g := (mkF m 326 #[rv pa, iv 13] [(.int 2), (.ref pa), (.int 2), (.ref a1474), (.ref a1474), (.ref a1454), (.ref a1454)])) rfl rfl (hb hby dMK_326) t k) ?_
    show Way _ _ _ _ (T1537.setTop (mkF m 327 #[rv pa, iv 13] [(.int x2), (.int 2), (.ref a1474), (.ref a1474), (.ref a1454), (.ref a1454)]))
    have V1562 : Arv Z h1538 a1474 kc1468 .char (13 : Int32) [(.int x0), (.int x1), (.int 0)] (.int 0) := V1545.pad (pad_rep [(.int x0), (.int x1)] (.int 0) 1)
    obtain ⟨c1563, A1564, q1565, S1566, M1567, H1568, U1569⟩ := id V1562
    obtain ⟨T1570, h1571, X1572, e1573, W1574, st1575⟩ := stC X1539 hx hZ e1540 A1564 (j := (2 : Int32)) (inb_of S1566 ⟨(by decide), (by decide)⟩) (g := (mkF m 327 #[rv pa, iv 13] [(.int x2), (.int 2), (.ref a1474), (.ref a1474), (.ref a1454), (.ref a1454)])) rfl rfl (hb hby dMK_327)
    have N1576 := Fr.snoc X1572 N1543 nw1479
    have V1577 : Arv Z h1571 a1474 kc1468 .char (13 : Int32) [(.int x0), (.int x1), (.int (nar .char x2))] (.int 0) := Arv.set A1564 q1565 S1566 M1567 H1568 U1569 (fits_nar_char _) W1574 2 rfl (leB rfl)
    have nq1579 : nar .char x2 = x2 := own_b.nar hb2
    have V1578 : Arv Z h1571 a1474 kc1468 .char (13 : Int32) [(.int x0), (.int x1), (.int x2)] (.int 0) := by rw [nq1579] at V1577; exact V1577
    have A1580 := A1547.other W1574 ne1477
    have E1581 := Exa.wr W1574 E1548
    have F1582 := F1549.other W1574 (Or.inl ne1478)
    have F1583 := F1550.other W1574 (Or.inl ne1478)
    have Z1584 : n0 ≤ h1571.size := by rw [W1574.size]; exact Z1551
    have O1585 := O1552.wr W1574 nw1479
    have K1586 := K1553.wr W1574 (Or.inr hk1480)
    have hz1587 : h0.size ≤ h1571.size := by rw [W1574.size]; exact hz1554
    refine Way.by st1575 ?_
    show Way _ _ _ _ (T1570.setTop (mkF m 328 #[rv pa, iv 13] [(.ref a1474), (.ref a1454), (.ref a1454)]))
    try clear X1539 e1540 N1543 V1545 A1547 E1548 F1549 F1550 Z1551 O1552 K1553 hz1554 V1562 c1563 A1564 q1565 S1566 M1567 H1568 U1569 W1574 st1575 V1577
    try clear T1537 h1538
    refine Way.by (fun _ k => XS.dup X1572.here hx rfl (hb hby dMK_328) rfl rfl k) ?_
    show Way _ _ _ _ (T1570.setTop (mkF m 329 #[rv pa, iv 13] [(.ref a1474), (.ref a1474), (.ref a1454), (.ref a1454)]))
    refine Way.by (fun _ k => XS.iconst X1572.here hx rfl (hb hby dMK_329) k) ?_
    show Way _ _ _ _ (T1570.setTop (mkF m 330 #[rv pa, iv 13] [(.int 3), (.ref a1474), (.ref a1474), (.ref a1454), (.ref a1454)]))
    refine Way.by (fun _ k => XS.aloadN X1572.here hx rfl (hb hby dMK_330) rfl rfl k) ?_
    show Way _ _ _ _ (T1570.setTop (mkF m 331 #[rv pa, iv 13] [(.ref pa), (.int 3), (.ref a1474), (.ref a1474), (.ref a1454), (.ref a1454)]))
    refine Way.by (fun _ k => XS.iconst X1572.here hx rfl (hb hby dMK_331) k) ?_
    show Way _ _ _ _ (T1570.setTop (mkF m 332 #[rv pa, iv 13] [(.int 3), (.ref pa), (.int 3), (.ref a1474), (.ref a1474), (.ref a1454), (.ref a1454)]))
    obtain ⟨c1588, A1589, q1590, S1591, M1592, H1593, U1594⟩ := id A1580
    refine Way.by (fun t k => Stand.caload X1572 hx (hpE e1573 A1589.1) (arrS hZ A1589) A1589.2.2 (inb_of S1591 ⟨(by decide), (by decide)⟩) (Has.at H1593 (inb_of S1591 ⟨(by decide), (by decide)⟩) rfl) (g := (mkF m 332 #[rv pa, iv 13] [(.int 3), (.ref pa), (.int 3), (.ref a1474), (.ref a1474), (.ref a1454), (.ref a1454)])) rfl rfl (hb hby dMK_332) t k) ?_
    show Way _ _ _ _ (T1570.setTop (mkF m 333 #[rv pa, iv 13] [(.int x3), (.int 3), (.ref a1474), (.ref a1474), (.ref a1454), (.ref a1454)]))
    have V1595 : Arv Z h1571 a1474 kc1468 .char (13 : Int32) [(.int x0), (.int x1), (.int x2), (.int 0)] (.int 0) := V1578.pad (pad_rep [(.int x0), (.int x1), (.int x2)] (.int 0) 1)
    obtain ⟨c1596, A1597, q1598, S1599, M1600, H1601, U1602⟩ := id V1595
    obtain ⟨T1603, h1604, X1605, e1606, W1607, st1608⟩ := stC X1572 hx hZ e1573 A1597 (j := (3 : Int32)) (inb_of S1599 ⟨(by decide), (by decide)⟩) (g := (mkF m 333 #[rv pa, iv 13] [(.int x3), (.int 3), (.ref a1474), (.ref a1474), (.ref a1454), (.ref a1454)])) rfl rfl (hb hby dMK_333)
    have N1609 := Fr.snoc X1605 N1576 nw1479
    have V1610 : Arv Z h1604 a1474 kc1468 .char (13 : Int32) [(.int x0), (.int x1), (.int x2), (.int (nar .char x3))] (.int 0) := Arv.set A1597 q1598 S1599 M1600 H1601 U1602 (fits_nar_char _) W1607 3 rfl (leB rfl)
    have nq1612 : nar .char x3 = x3 := own_b.nar hb3
    have V1611 : Arv Z h1604 a1474 kc1468 .char (13 : Int32) [(.int x0), (.int x1), (.int x2), (.int x3)] (.int 0) := by rw [nq1612] at V1610; exact V1610
    have A1613 := A1580.other W1607 ne1477
    have E1614 := Exa.wr W1607 E1581
    have F1615 := F1582.other W1607 (Or.inl ne1478)
    have F1616 := F1583.other W1607 (Or.inl ne1478)
    have Z1617 : n0 ≤ h1604.size := by rw [W1607.size]; exact Z1584
    have O1618 := O1585.wr W1607 nw1479
    have K1619 := K1586.wr W1607 (Or.inr hk1480)
    have hz1620 : h0.size ≤ h1604.size := by rw [W1607.size]; exact hz1587
    refine Way.by st1608 ?_
    show Way _ _ _ _ (T1603.setTop (mkF m 334 #[rv pa, iv 13] [(.ref a1474), (.ref a1454), (.ref a1454)]))
    try clear X1572 e1573 N1576 V1578 A1580 E1581 F1582 F1583 Z1584 O1585 K1586 hz1587 V1595 c1596 A1597 q1598 S1599 M1600 H1601 U1602 W1607 st1608 V1610
    try clear T1570 h1571
    refine Way.by (fun _ k => XS.dup X1605.here hx rfl (hb hby dMK_334) rfl rfl k) ?_
    show Way _ _ _ _ (T1603.setTop (mkF m 335 #[rv pa, iv 13] [(.ref a1474), (.ref a1474), (.ref a1454), (.ref a1454)]))
    refine Way.by (fun _ k => XS.iconst X1605.here hx rfl (hb hby dMK_335) k) ?_
    show Way _ _ _ _ (T1603.setTop (mkF m 336 #[rv pa, iv 13] [(.int 4), (.ref a1474), (.ref a1474), (.ref a1454), (.ref a1454)]))
    refine Way.by (fun _ k => XS.aloadN X1605.here hx rfl (hb hby dMK_336) rfl rfl k) ?_
    show Way _ _ _ _ (T1603.setTop (mkF m 337 #[rv pa, iv 13] [(.ref pa), (.int 4), (.ref a1474), (.ref a1474), (.ref a1454), (.ref a1454)]))
    refine Way.by (fun _ k => XS.iconst X1605.here hx rfl (hb hby dMK_337) k) ?_
    show Way _ _ _ _ (T1603.setTop (mkF m 338 #[rv pa, iv 13] [(.int 4), (.ref pa), (.int 4), (.ref a1474), (.ref a1474), (.ref a1454), (.ref a1454)]))
    obtain ⟨c1621, A1622, q1623, S1624, M1625, H1626, U1627⟩ := id A1613
    refine Way.by (fun t k => Stand.caload X1605 hx (hpE e1606 A1622.1) (arrS hZ A1622) A1622.2.2 (inb_of S1624 ⟨(by decide), (by decide)⟩) (Has.at H1626 (inb_of S1624 ⟨(by decide), (by decide)⟩) rfl) (g := (mkF m 338 #[rv pa, iv 13] [(.int 4), (.ref pa), (.int 4), (.ref a1474), (.ref a1474), (.ref a1454), (.ref a1454)])) rfl rfl (hb hby dMK_338) t k) ?_
    show Way _ _ _ _ (T1603.setTop (mkF m 339 #[rv pa, iv 13] [(.int x4), (.int 4), (.ref a1474), (.ref a1474), (.ref a1454), (.ref a1454)]))
    have V1628 : Arv Z h1604 a1474 kc1468 .char (13 : Int32) [(.int x0), (.int x1), (.int x2), (.int x3), (.int 0)] (.int 0) := V1611.pad (pad_rep [(.int x0), (.int x1), (.int x2), (.int x3)] (.int 0) 1)
    obtain ⟨c1629, A1630, q1631, S1632, M1633, H1634, U1635⟩ := id V1628
    obtain ⟨T1636, h1637, X1638, e1639, W1640, st1641⟩ := stC X1605 hx hZ e1606 A1630 (j := (4 : Int32)) (inb_of S1632 ⟨(by decide), (by decide)⟩) (g := (mkF m 339 #[rv pa, iv 13] [(.int x4), (.int 4), (.ref a1474), (.ref a1474), (.ref a1454), (.ref a1454)])) rfl rfl (hb hby dMK_339)
    have N1642 := Fr.snoc X1638 N1609 nw1479
    have V1643 : Arv Z h1637 a1474 kc1468 .char (13 : Int32) [(.int x0), (.int x1), (.int x2), (.int x3), (.int (nar .char x4))] (.int 0) := Arv.set A1630 q1631 S1632 M1633 H1634 U1635 (fits_nar_char _) W1640 4 rfl (leB rfl)
    have nq1645 : nar .char x4 = x4 := own_b.nar hb4
    have V1644 : Arv Z h1637 a1474 kc1468 .char (13 : Int32) [(.int x0), (.int x1), (.int x2), (.int x3), (.int x4)] (.int 0) := by rw [nq1645] at V1643; exact V1643
    have A1646 := A1613.other W1640 ne1477
    have E1647 := Exa.wr W1640 E1614
    have F1648 := F1615.other W1640 (Or.inl ne1478)
    have F1649 := F1616.other W1640 (Or.inl ne1478)
    have Z1650 : n0 ≤ h1637.size := by rw [W1640.size]; exact Z1617
    have O1651 := O1618.wr W1640 nw1479
    have K1652 := K1619.wr W1640 (Or.inr hk1480)
    have hz1653 : h0.size ≤ h1637.size := by rw [W1640.size]; exact hz1620
    refine Way.by st1641 ?_
    show Way _ _ _ _ (T1636.setTop (mkF m 340 #[rv pa, iv 13] [(.ref a1474), (.ref a1454), (.ref a1454)]))
    try clear X1605 e1606 N1609 V1611 A1613 E1614 F1615 F1616 Z1617 O1618 K1619 hz1620 V1628 c1629 A1630 q1631 S1632 M1633 H1634 U1635 W1640 st1641 V1643
    try clear T1603 h1604
    refine Way.by (fun _ k => XS.dup X1638.here hx rfl (hb hby dMK_340) rfl rfl k) ?_
    show Way _ _ _ _ (T1636.setTop (mkF m 341 #[rv pa, iv 13] [(.ref a1474), (.ref a1474), (.ref a1454), (.ref a1454)]))
    refine Way.by (fun _ k => XS.iconst X1638.here hx rfl (hb hby dMK_341) k) ?_
    show Way _ _ _ _ (T1636.setTop (mkF m 342 #[rv pa, iv 13] [(.int 5), (.ref a1474), (.ref a1474), (.ref a1454), (.ref a1454)]))
    refine Way.by (fun _ k => XS.aloadN X1638.here hx rfl (hb hby dMK_342) rfl rfl k) ?_
    show Way _ _ _ _ (T1636.setTop (mkF m 343 #[rv pa, iv 13] [(.ref pa), (.int 5), (.ref a1474), (.ref a1474), (.ref a1454), (.ref a1454)]))
    refine Way.by (fun _ k => XS.iconst X1638.here hx rfl (hb hby dMK_343) k) ?_
    show Way _ _ _ _ (T1636.setTop (mkF m 344 #[rv pa, iv 13] [(.int 5), (.ref pa), (.int 5), (.ref a1474), (.ref a1474), (.ref a1454), (.ref a1454)]))
    obtain ⟨c1654, A1655, q1656, S1657, M1658, H1659, U1660⟩ := id A1646
    refine Way.by (fun t k => Stand.caload X1638 hx (hpE e1639 A1655.1) (arrS hZ A1655) A1655.2.2 (inb_of S1657 ⟨(by decide), (by decide)⟩) (Has.at H1659 (inb_of S1657 ⟨(by decide), (by decide)⟩) rfl) (g := (mkF m 344 #[rv pa, iv 13] [(.int 5), (.ref pa), (.int 5), (.ref a1474), (.ref a1474), (.ref a1454), (.ref a1454)])) rfl rfl (hb hby dMK_344) t k) ?_
    show Way _ _ _ _ (T1636.setTop (mkF m 345 #[rv pa, iv 13] [(.int x5), (.int 5), (.ref a1474), (.ref a1474), (.ref a1454), (.ref a1454)]))
    have V1661 : Arv Z h1637 a1474 kc1468 .char (13 : Int32) [(.int x0), (.int x1), (.int x2), (.int x3), (.int x4), (.int 0)] (.int 0) := V1644.pad (pad_rep [(.int x0), (.int x1), (.int x2), (.int x3), (.int x4)] (.int 0) 1)
    obtain ⟨c1662, A1663, q1664, S1665, M1666, H1667, U1668⟩ := id V1661
    obtain ⟨T1669, h1670, X1671, e1672, W1673, st1674⟩ := stC X1638 hx hZ e1639 A1663 (j := (5 : Int32)) (inb_of S1665 ⟨(by decide), (by decide)⟩) (g := (mkF m 345 #[rv pa, iv 13] [(.int x5), (.int 5), (.ref a1474), (.ref a1474), (.ref a1454), (.ref a1454)])) rfl rfl (hb hby dMK_345)
    have N1675 := Fr.snoc X1671 N1642 nw1479
    have V1676 : Arv Z h1670 a1474 kc1468 .char (13 : Int32) [(.int x0), (.int x1), (.int x2), (.int x3), (.int x4), (.int (nar .char x5))] (.int 0) := Arv.set A1663 q1664 S1665 M1666 H1667 U1668 (fits_nar_char _) W1673 5 rfl (leB rfl)
    have nq1678 : nar .char x5 = x5 := own_b.nar hb5
    have V1677 : Arv Z h1670 a1474 kc1468 .char (13 : Int32) [(.int x0), (.int x1), (.int x2), (.int x3), (.int x4), (.int x5)] (.int 0) := by rw [nq1678] at V1676; exact V1676
    have A1679 := A1646.other W1673 ne1477
    have E1680 := Exa.wr W1673 E1647
    have F1681 := F1648.other W1673 (Or.inl ne1478)
    have F1682 := F1649.other W1673 (Or.inl ne1478)
    have Z1683 : n0 ≤ h1670.size := by rw [W1673.size]; exact Z1650
    have O1684 := O1651.wr W1673 nw1479
    have K1685 := K1652.wr W1673 (Or.inr hk1480)
    have hz1686 : h0.size ≤ h1670.size := by rw [W1673.size]; exact hz1653
    refine Way.by st1674 ?_
    show Way _ _ _ _ (T1669.setTop (mkF m 346 #[rv pa, iv 13] [(.ref a1474), (.ref a1454), (.ref a1454)]))
    try clear X1638 e1639 N1642 V1644 A1646 E1647 F1648 F1649 Z1650 O1651 K1652 hz1653 V1661 c1662 A1663 q1664 S1665 M1666 H1667 U1668 W1673 st1674 V1676
    try clear T1636 h1637
    refine Way.by (fun _ k => XS.dup X1671.here hx rfl (hb hby dMK_346) rfl rfl k) ?_
    show Way _ _ _ _ (T1669.setTop (mkF m 347 #[rv pa, iv 13] [(.ref a1474), (.ref a1474), (.ref a1454), (.ref a1454)]))
    refine Way.by (fun _ k => XS.bipush X1671.here hx rfl (hb hby dMK_347) k) ?_
    show Way _ _ _ _ (T1669.setTop (mkF m 349 #[rv pa, iv 13] [(.int 6), (.ref a1474), (.ref a1474), (.ref a1454), (.ref a1454)]))
    refine Way.by (fun _ k => XS.aloadN X1671.here hx rfl (hb hby dMK_349) rfl rfl k) ?_
    show Way _ _ _ _ (T1669.setTop (mkF m 350 #[rv pa, iv 13] [(.ref pa), (.int 6), (.ref a1474), (.ref a1474), (.ref a1454), (.ref a1454)]))
    refine Way.by (fun _ k => XS.bipush X1671.here hx rfl (hb hby dMK_350) k) ?_
    show Way _ _ _ _ (T1669.setTop (mkF m 352 #[rv pa, iv 13] [(.int 6), (.ref pa), (.int 6), (.ref a1474), (.ref a1474), (.ref a1454), (.ref a1454)]))
    obtain ⟨c1687, A1688, q1689, S1690, M1691, H1692, U1693⟩ := id A1679
    refine Way.by (fun t k => Stand.caload X1671 hx (hpE e1672 A1688.1) (arrS hZ A1688) A1688.2.2 (inb_of S1690 ⟨(by decide), (by decide)⟩) (Has.at H1692 (inb_of S1690 ⟨(by decide), (by decide)⟩) rfl) (g := (mkF m 352 #[rv pa, iv 13] [(.int 6), (.ref pa), (.int 6), (.ref a1474), (.ref a1474), (.ref a1454), (.ref a1454)])) rfl rfl (hb hby dMK_352) t k) ?_
    show Way _ _ _ _ (T1669.setTop (mkF m 353 #[rv pa, iv 13] [(.int x6), (.int 6), (.ref a1474), (.ref a1474), (.ref a1454), (.ref a1454)]))
    have V1694 : Arv Z h1670 a1474 kc1468 .char (13 : Int32) [(.int x0), (.int x1), (.int x2), (.int x3), (.int x4), (.int x5), (.int 0)] (.int 0) := V1677.pad (pad_rep [(.int x0), (.int x1), (.int x2), (.int x3), (.int x4), (.int x5)] (.int 0) 1)
    obtain ⟨c1695, A1696, q1697, S1698, M1699, H1700, U1701⟩ := id V1694
    obtain ⟨T1702, h1703, X1704, e1705, W1706, st1707⟩ := stC X1671 hx hZ e1672 A1696 (j := (6 : Int32)) (inb_of S1698 ⟨(by decide), (by decide)⟩) (g := (mkF m 353 #[rv pa, iv 13] [(.int x6), (.int 6), (.ref a1474), (.ref a1474), (.ref a1454), (.ref a1454)])) rfl rfl (hb hby dMK_353)
    have N1708 := Fr.snoc X1704 N1675 nw1479
    have V1709 : Arv Z h1703 a1474 kc1468 .char (13 : Int32) [(.int x0), (.int x1), (.int x2), (.int x3), (.int x4), (.int x5), (.int (nar .char x6))] (.int 0) := Arv.set A1696 q1697 S1698 M1699 H1700 U1701 (fits_nar_char _) W1706 6 rfl (leB rfl)
    have nq1711 : nar .char x6 = x6 := own_b.nar hb6
    have V1710 : Arv Z h1703 a1474 kc1468 .char (13 : Int32) [(.int x0), (.int x1), (.int x2), (.int x3), (.int x4), (.int x5), (.int x6)] (.int 0) := by rw [nq1711] at V1709; exact V1709
    have A1712 := A1679.other W1706 ne1477
    have E1713 := Exa.wr W1706 E1680
    have F1714 := F1681.other W1706 (Or.inl ne1478)
    have F1715 := F1682.other W1706 (Or.inl ne1478)
    have Z1716 : n0 ≤ h1703.size := by rw [W1706.size]; exact Z1683
    have O1717 := O1684.wr W1706 nw1479
    have K1718 := K1685.wr W1706 (Or.inr hk1480)
    have hz1719 : h0.size ≤ h1703.size := by rw [W1706.size]; exact hz1686
    refine Way.by st1707 ?_
    show Way _ _ _ _ (T1702.setTop (mkF m 354 #[rv pa, iv 13] [(.ref a1474), (.ref a1454), (.ref a1454)]))
    try clear X1671 e1672 N1675 V1677 A1679 E1680 F1681 F1682 Z1683 O1684 K1685 hz1686 V1694 c1695 A1696 q1697 S1698 M1699 H1700 U1701 W1706 st1707 V1709
    try clear T1669 h1670
    refine Way.by (fun _ k => XS.dup X1704.here hx rfl (hb hby dMK_354) rfl rfl k) ?_
    show Way _ _ _ _ (T1702.setTop (mkF m 355 #[rv pa, iv 13] [(.ref a1474), (.ref a1474), (.ref a1454), (.ref a1454)]))
    refine Way.by (fun _ k => XS.bipush X1704.here hx rfl (hb hby dMK_355) k) ?_
    show Way _ _ _ _ (T1702.setTop (mkF m 357 #[rv pa, iv 13] [(.int 7), (.ref a1474), (.ref a1474), (.ref a1454), (.ref a1454)]))
    refine Way.by (fun _ k => XS.aloadN X1704.here hx rfl (hb hby dMK_357) rfl rfl k) ?_
    show Way _ _ _ _ (T1702.setTop (mkF m 358 #[rv pa, iv 13] [(.ref pa), (.int 7), (.ref a1474), (.ref a1474), (.ref a1454), (.ref a1454)]))
    refine Way.by (fun _ k => XS.bipush X1704.here hx rfl (hb hby dMK_358) k) ?_
    show Way _ _ _ _ (T1702.setTop (mkF m 360 #[rv pa, iv 13] [(.int 7), (.ref pa), (.int 7), (.ref a1474), (.ref a1474), (.ref a1454), (.ref a1454)]))
    obtain ⟨c1720, A1721, q1722, S1723, M1724, H1725, U1726⟩ := id A1712
    refine Way.by (fun t k => Stand.caload X1704 hx (hpE e1705 A1721.1) (arrS hZ A1721) A1721.2.2 (inb_of S1723 ⟨(by decide), (by decide)⟩) (Has.at H1725 (inb_of S1723 ⟨(by decide), (by decide)⟩) rfl) (g := (mkF m 360 #[rv pa, iv 13] [(.int 7), (.ref pa), (.int 7), (.ref a1474), (.ref a1474), (.ref a1454), (.ref a1454)])) rfl rfl (hb hby dMK_360) t k) ?_
    show Way _ _ _ _ (T1702.setTop (mkF m 361 #[rv pa, iv 13] [(.int x7), (.int 7), (.ref a1474), (.ref a1474), (.ref a1454), (.ref a1454)]))
    have V1727 : Arv Z h1703 a1474 kc1468 .char (13 : Int32) [(.int x0), (.int x1), (.int x2), (.int x3), (.int x4), (.int x5), (.int x6), (.int 0)] (.int 0) := V1710.pad (pad_rep [(.int x0), (.int x1), (.int x2), (.int x3), (.int x4), (.int x5), (.int x6)] (.int 0) 1)
    obtain ⟨c1728, A1729, q1730, S1731, M1732, H1733, U1734⟩ := id V1727
    obtain ⟨T1735, h1736, X1737, e1738, W1739, st1740⟩ := stC X1704 hx hZ e1705 A1729 (j := (7 : Int32)) (inb_of S1731 ⟨(by decide), (by decide)⟩) (g := (mkF m 361 #[rv pa, iv 13] [(.int x7), (.int 7), (.ref a1474), (.ref a1474), (.ref a1454), (.ref a1454)])) rfl rfl (hb hby dMK_361)
    have N1741 := Fr.snoc X1737 N1708 nw1479
    have V1742 : Arv Z h1736 a1474 kc1468 .char (13 : Int32) [(.int x0), (.int x1), (.int x2), (.int x3), (.int x4), (.int x5), (.int x6), (.int (nar .char x7))] (.int 0) := Arv.set A1729 q1730 S1731 M1732 H1733 U1734 (fits_nar_char _) W1739 7 rfl (leB rfl)
    have nq1744 : nar .char x7 = x7 := own_b.nar hb7
    have V1743 : Arv Z h1736 a1474 kc1468 .char (13 : Int32) [(.int x0), (.int x1), (.int x2), (.int x3), (.int x4), (.int x5), (.int x6), (.int x7)] (.int 0) := by rw [nq1744] at V1742; exact V1742
    have A1745 := A1712.other W1739 ne1477
    have E1746 := Exa.wr W1739 E1713
    have F1747 := F1714.other W1739 (Or.inl ne1478)
    have F1748 := F1715.other W1739 (Or.inl ne1478)
    have Z1749 : n0 ≤ h1736.size := by rw [W1739.size]; exact Z1716
    have O1750 := O1717.wr W1739 nw1479
    have K1751 := K1718.wr W1739 (Or.inr hk1480)
    have hz1752 : h0.size ≤ h1736.size := by rw [W1739.size]; exact hz1719
    refine Way.by st1740 ?_
    show Way _ _ _ _ (T1735.setTop (mkF m 362 #[rv pa, iv 13] [(.ref a1474), (.ref a1454), (.ref a1454)]))
    try clear X1704 e1705 N1708 V1710 A1712 E1713 F1714 F1715 Z1716 O1717 K1718 hz1719 V1727 c1728 A1729 q1730 S1731 M1732 H1733 U1734 W1739 st1740 V1742
    try clear T1702 h1703
    refine Way.by (fun _ k => XS.dup X1737.here hx rfl (hb hby dMK_362) rfl rfl k) ?_
    show Way _ _ _ _ (T1735.setTop (mkF m 363 #[rv pa, iv 13] [(.ref a1474), (.ref a1474), (.ref a1454), (.ref a1454)]))
    refine Way.by (fun _ k => XS.bipush X1737.here hx rfl (hb hby dMK_363) k) ?_
    show Way _ _ _ _ (T1735.setTop (mkF m 365 #[rv pa, iv 13] [(.int 8), (.ref a1474), (.ref a1474), (.ref a1454), (.ref a1454)]))
    refine Way.by (fun _ k => XS.aloadN X1737.here hx rfl (hb hby dMK_365) rfl rfl k) ?_
    show Way _ _ _ _ (T1735.setTop (mkF m 366 #[rv pa, iv 13] [(.ref pa), (.int 8), (.ref a1474), (.ref a1474), (.ref a1454), (.ref a1454)]))
    refine Way.by (fun _ k => XS.bipush X1737.here hx rfl (hb hby dMK_366) k) ?_
    show Way _ _ _ _ (T1735.setTop (mkF m 368 #[rv pa, iv 13] [(.int 8), (.ref pa), (.int 8), (.ref a1474), (.ref a1474), (.ref a1454), (.ref a1454)]))
    obtain ⟨c1753, A1754, q1755, S1756, M1757, H1758, U1759⟩ := id A1745
    refine Way.by (fun t k => Stand.caload X1737 hx (hpE e1738 A1754.1) (arrS hZ A1754) A1754.2.2 (inb_of S1756 ⟨(by decide), (by decide)⟩) (Has.at H1758 (inb_of S1756 ⟨(by decide), (by decide)⟩) rfl) (g := (mkF m 368 #[rv pa, iv 13] [(.int 8), (.ref pa), (.int 8), (.ref a1474), (.ref a1474), (.ref a1454), (.ref a1454)])) rfl rfl (hb hby dMK_368) t k) ?_
    show Way _ _ _ _ (T1735.setTop (mkF m 369 #[rv pa, iv 13] [(.int x8), (.int 8), (.ref a1474), (.ref a1474), (.ref a1454), (.ref a1454)]))
    have V1760 : Arv Z h1736 a1474 kc1468 .char (13 : Int32) [(.int x0), (.int x1), (.int x2), (.int x3), (.int x4), (.int x5), (.int x6), (.int x7), (.int 0)] (.int 0) := V1743.pad (pad_rep [(.int x0), (.int x1), (.int x2), (.int x3), (.int x4), (.int x5), (.int x6), (.int x7)] (.int 0) 1)
    obtain ⟨c1761, A1762, q1763, S1764, M1765, H1766, U1767⟩ := id V1760
    obtain ⟨T1768, h1769, X1770, e1771, W1772, st1773⟩ := stC X1737 hx hZ e1738 A1762 (j := (8 : Int32)) (inb_of S1764 ⟨(by decide), (by decide)⟩) (g := (mkF m 369 #[rv pa, iv 13] [(.int x8), (.int 8), (.ref a1474), (.ref a1474), (.ref a1454), (.ref a1454)])) rfl rfl (hb hby dMK_369)
    have N1774 := Fr.snoc X1770 N1741 nw1479
    have V1775 : Arv Z h1769 a1474 kc1468 .char (13 : Int32) [(.int x0), (.int x1), (.int x2), (.int x3), (.int x4), (.int x5), (.int x6), (.int x7), (.int (nar .char x8))] (.int 0) := Arv.set A1762 q1763 S1764 M1765 H1766 U1767 (fits_nar_char _) W1772 8 rfl (leB rfl)
    have nq1777 : nar .char x8 = x8 := own_b.nar hb8
    have V1776 : Arv Z h1769 a1474 kc1468 .char (13 : Int32) [(.int x0), (.int x1), (.int x2), (.int x3), (.int x4), (.int x5), (.int x6), (.int x7), (.int x8)] (.int 0) := by rw [nq1777] at V1775; exact V1775
    have A1778 := A1745.other W1772 ne1477
    have E1779 := Exa.wr W1772 E1746
    have F1780 := F1747.other W1772 (Or.inl ne1478)
    have F1781 := F1748.other W1772 (Or.inl ne1478)
    have Z1782 : n0 ≤ h1769.size := by rw [W1772.size]; exact Z1749
    have O1783 := O1750.wr W1772 nw1479
    have K1784 := K1751.wr W1772 (Or.inr hk1480)
    have hz1785 : h0.size ≤ h1769.size := by rw [W1772.size]; exact hz1752
    refine Way.by st1773 ?_
    show Way _ _ _ _ (T1768.setTop (mkF m 370 #[rv pa, iv 13] [(.ref a1474), (.ref a1454), (.ref a1454)]))
    try clear X1737 e1738 N1741 V1743 A1745 E1746 F1747 F1748 Z1749 O1750 K1751 hz1752 V1760 c1761 A1762 q1763 S1764 M1765 H1766 U1767 W1772 st1773 V1775
    try clear T1735 h1736
    refine Way.by (fun _ k => XS.dup X1770.here hx rfl (hb hby dMK_370) rfl rfl k) ?_
    show Way _ _ _ _ (T1768.setTop (mkF m 371 #[rv pa, iv 13] [(.ref a1474), (.ref a1474), (.ref a1454), (.ref a1454)]))
    refine Way.by (fun _ k => XS.bipush X1770.here hx rfl (hb hby dMK_371) k) ?_
    show Way _ _ _ _ (T1768.setTop (mkF m 373 #[rv pa, iv 13] [(.int 9), (.ref a1474), (.ref a1474), (.ref a1454), (.ref a1454)]))
    refine Way.by (fun _ k => XS.aloadN X1770.here hx rfl (hb hby dMK_373) rfl rfl k) ?_
    show Way _ _ _ _ (T1768.setTop (mkF m 374 #[rv pa, iv 13] [(.ref pa), (.int 9), (.ref a1474), (.ref a1474), (.ref a1454), (.ref a1454)]))
    refine Way.by (fun _ k => XS.bipush X1770.here hx rfl (hb hby dMK_374) k) ?_
    show Way _ _ _ _ (T1768.setTop (mkF m 376 #[rv pa, iv 13] [(.int 9), (.ref pa), (.int 9), (.ref a1474), (.ref a1474), (.ref a1454), (.ref a1454)]))
    obtain ⟨c1786, A1787, q1788, S1789, M1790, H1791, U1792⟩ := id A1778
    refine Way.by (fun t k => Stand.caload X1770 hx (hpE e1771 A1787.1) (arrS hZ A1787) A1787.2.2 (inb_of S1789 ⟨(by decide), (by decide)⟩) (Has.at H1791 (inb_of S1789 ⟨(by decide), (by decide)⟩) rfl) (g := (mkF m 376 #[rv pa, iv 13] [(.int 9), (.ref pa), (.int 9), (.ref a1474), (.ref a1474), (.ref a1454), (.ref a1454)])) rfl rfl (hb hby dMK_376) t k) ?_
    show Way _ _ _ _ (T1768.setTop (mkF m 377 #[rv pa, iv 13] [(.int x9), (.int 9), (.ref a1474), (.ref a1474), (.ref a1454), (.ref a1454)]))
    have V1793 : Arv Z h1769 a1474 kc1468 .char (13 : Int32) [(.int x0), (.int x1), (.int x2), (.int x3), (.int x4), (.int x5), (.int x6), (.int x7), (.int x8), (.int 0)] (.int 0) := V1776.pad (pad_rep [(.int x0), (.int x1), (.int x2), (.int x3), (.int x4), (.int x5), (.int x6), (.int x7), (.int x8)] (.int 0) 1)
    obtain ⟨c1794, A1795, q1796, S1797, M1798, H1799, U1800⟩ := id V1793
    obtain ⟨T1801, h1802, X1803, e1804, W1805, st1806⟩ := stC X1770 hx hZ e1771 A1795 (j := (9 : Int32)) (inb_of S1797 ⟨(by decide), (by decide)⟩) (g := (mkF m 377 #[rv pa, iv 13] [(.int x9), (.int 9), (.ref a1474), (.ref a1474), (.ref a1454), (.ref a1454)])) rfl rfl (hb hby dMK_377)
    have N1807 := Fr.snoc X1803 N1774 nw1479
    have V1808 : Arv Z h1802 a1474 kc1468 .char (13 : Int32) [(.int x0), (.int x1), (.int x2), (.int x3), (.int x4), (.int x5), (.int x6), (.int x7), (.int x8), (.int (nar .char x9))] (.int 0) := Arv.set A1795 q1796 S1797 M1798 H1799 U1800 (fits_nar_char _) W1805 9 rfl (leB rfl)
    have nq1810 : nar .char x9 = x9 := own_b.nar hb9
    have V1809 : Arv Z h1802 a1474 kc1468 .char (13 : Int32) [(.int x0), (.int x1), (.int x2), (.int x3), (.int x4), (.int x5), (.int x6), (.int x7), (.int x8), (.int x9)] (.int 0) := by rw [nq1810] at V1808; exact V1808
    have A1811 := A1778.other W1805 ne1477
    have E1812 := Exa.wr W1805 E1779
    have F1813 := F1780.other W1805 (Or.inl ne1478)
    have F1814 := F1781.other W1805 (Or.inl ne1478)
    have Z1815 : n0 ≤ h1802.size := by rw [W1805.size]; exact Z1782
    have O1816 := O1783.wr W1805 nw1479
    have K1817 := K1784.wr W1805 (Or.inr hk1480)
    have hz1818 : h0.size ≤ h1802.size := by rw [W1805.size]; exact hz1785
    refine Way.by st1806 ?_
    show Way _ _ _ _ (T1801.setTop (mkF m 378 #[rv pa, iv 13] [(.ref a1474), (.ref a1454), (.ref a1454)]))
    try clear X1770 e1771 N1774 V1776 A1778 E1779 F1780 F1781 Z1782 O1783 K1784 hz1785 V1793 c1794 A1795 q1796 S1797 M1798 H1799 U1800 W1805 st1806 V1808
    try clear T1768 h1769
    refine Way.by (fun _ k => XS.dup X1803.here hx rfl (hb hby dMK_378) rfl rfl k) ?_
    show Way _ _ _ _ (T1801.setTop (mkF m 379 #[rv pa, iv 13] [(.ref a1474), (.ref a1474), (.ref a1454), (.ref a1454)]))
    refine Way.by (fun _ k => XS.bipush X1803.here hx rfl (hb hby dMK_379) k) ?_
    show Way _ _ _ _ (T1801.setTop (mkF m 381 #[rv pa, iv 13] [(.int 10), (.ref a1474), (.ref a1474), (.ref a1454), (.ref a1454)]))
    refine Way.by (fun _ k => XS.aloadN X1803.here hx rfl (hb hby dMK_381) rfl rfl k) ?_
    show Way _ _ _ _ (T1801.setTop (mkF m 382 #[rv pa, iv 13] [(.ref pa), (.int 10), (.ref a1474), (.ref a1474), (.ref a1454), (.ref a1454)]))
    refine Way.by (fun _ k => XS.bipush X1803.here hx rfl (hb hby dMK_382) k) ?_
    show Way _ _ _ _ (T1801.setTop (mkF m 384 #[rv pa, iv 13] [(.int 10), (.ref pa), (.int 10), (.ref a1474), (.ref a1474), (.ref a1454), (.ref a1454)]))
    obtain ⟨c1819, A1820, q1821, S1822, M1823, H1824, U1825⟩ := id A1811
    refine Way.by (fun t k => Stand.caload X1803 hx (hpE e1804 A1820.1) (arrS hZ A1820) A1820.2.2 (inb_of S1822 ⟨(by decide), (by decide)⟩) (Has.at H1824 (inb_of S1822 ⟨(by decide), (by decide)⟩) rfl) (g := (mkF m 384 #[rv pa, iv 13] [(.int 10), (.ref pa), (.int 10), (.ref a1474), (.ref a1474), (.ref a1454), (.ref a1454)])) rfl rfl (hb hby dMK_384) t k) ?_
    show Way _ _ _ _ (T1801.setTop (mkF m 385 #[rv pa, iv 13] [(.int x10), (.int 10), (.ref a1474), (.ref a1474), (.ref a1454), (.ref a1454)]))
    have V1826 : Arv Z h1802 a1474 kc1468 .char (13 : Int32) [(.int x0), (.int x1), (.int x2), (.int x3), (.int x4), (.int x5), (.int x6), (.int x7), (.int x8), (.int x9), (.int 0)] (.int 0) := V1809.pad (pad_rep [(.int x0), (.int x1), (.int x2), (.int x3), (.int x4), (.int x5), (.int x6), (.int x7), (.int x8), (.int x9)] (.int 0) 1)
    obtain ⟨c1827, A1828, q1829, S1830, M1831, H1832, U1833⟩ := id V1826
    obtain ⟨T1834, h1835, X1836, e1837, W1838, st1839⟩ := stC X1803 hx hZ e1804 A1828 (j := (10 : Int32)) (inb_of S1830 ⟨(by decide), (by decide)⟩) (g := (mkF m 385 #[rv pa, iv 13] [(.int x10), (.int 10), (.ref a1474), (.ref a1474), (.ref a1454), (.ref a1454)])) rfl rfl (hb hby dMK_385)
    have N1840 := Fr.snoc X1836 N1807 nw1479
    have V1841 : Arv Z h1835 a1474 kc1468 .char (13 : Int32) [(.int x0), (.int x1), (.int x2), (.int x3), (.int x4), (.int x5), (.int x6), (.int x7), (.int x8), (.int x9), (.int (nar .char x10))] (.int 0) := Arv.set A1828 q1829 S1830 M1831 H1832 U1833 (fits_nar_char _) W1838 10 rfl (leB rfl)
    have nq1843 : nar .char x10 = x10 := own_b.nar hb10
    have V1842 : Arv Z h1835 a1474 kc1468 .char (13 : Int32) [(.int x0), (.int x1), (.int x2), (.int x3), (.int x4), (.int x5), (.int x6), (.int x7), (.int x8), (.int x9), (.int x10)] (.int 0) := by rw [nq1843] at V1841; exact V1841
    have A1844 := A1811.other W1838 ne1477
    have E1845 := Exa.wr W1838 E1812
    have F1846 := F1813.other W1838 (Or.inl ne1478)
    have F1847 := F1814.other W1838 (Or.inl ne1478)
    have Z1848 : n0 ≤ h1835.size := by rw [W1838.size]; exact Z1815
    have O1849 := O1816.wr W1838 nw1479
    have K1850 := K1817.wr W1838 (Or.inr hk1480)
    have hz1851 : h0.size ≤ h1835.size := by rw [W1838.size]; exact hz1818
    refine Way.by st1839 ?_
    show Way _ _ _ _ (T1834.setTop (mkF m 386 #[rv pa, iv 13] [(.ref a1474), (.ref a1454), (.ref a1454)]))
    try clear X1803 e1804 N1807 V1809 A1811 E1812 F1813 F1814 Z1815 O1816 K1817 hz1818 V1826 c1827 A1828 q1829 S1830 M1831 H1832 U1833 W1838 st1839 V1841
    try clear T1801 h1802
    refine Way.by (fun _ k => XS.dup X1836.here hx rfl (hb hby dMK_386) rfl rfl k) ?_
    show Way _ _ _ _ (T1834.setTop (mkF m 387 #[rv pa, iv 13] [(.ref a1474), (.ref a1474), (.ref a1454), (.ref a1454)]))
    refine Way.by (fun _ k => XS.bipush X1836.here hx rfl (hb hby dMK_387) k) ?_
    show Way _ _ _ _ (T1834.setTop (mkF m 389 #[rv pa, iv 13] [(.int 11), (.ref a1474), (.ref a1474), (.ref a1454), (.ref a1454)]))
    refine Way.by (fun _ k => XS.aloadN X1836.here hx rfl (hb hby dMK_389) rfl rfl k) ?_
    show Way _ _ _ _ (T1834.setTop (mkF m 390 #[rv pa, iv 13] [(.ref pa), (.int 11), (.ref a1474), (.ref a1474), (.ref a1454), (.ref a1454)]))
    refine Way.by (fun _ k => XS.bipush X1836.here hx rfl (hb hby dMK_390) k) ?_
    show Way _ _ _ _ (T1834.setTop (mkF m 392 #[rv pa, iv 13] [(.int 11), (.ref pa), (.int 11), (.ref a1474), (.ref a1474), (.ref a1454), (.ref a1454)]))
    obtain ⟨c1852, A1853, q1854, S1855, M1856, H1857, U1858⟩ := id A1844
    refine Way.by (fun t k => Stand.caload X1836 hx (hpE e1837 A1853.1) (arrS hZ A1853) A1853.2.2 (inb_of S1855 ⟨(by decide), (by decide)⟩) (Has.at H1857 (inb_of S1855 ⟨(by decide), (by decide)⟩) rfl) (g := (mkF m 392 #[rv pa, iv 13] [(.int 11), (.ref pa), (.int 11), (.ref a1474), (.ref a1474), (.ref a1454), (.ref a1454)])) rfl rfl (hb hby dMK_392) t k) ?_
    show Way _ _ _ _ (T1834.setTop (mkF m 393 #[rv pa, iv 13] [(.int x11), (.int 11), (.ref a1474), (.ref a1474), (.ref a1454), (.ref a1454)]))
    have V1859 : Arv Z h1835 a1474 kc1468 .char (13 : Int32) [(.int x0), (.int x1), (.int x2), (.int x3), (.int x4), (.int x5), (.int x6), (.int x7), (.int x8), (.int x9), (.int x10), (.int 0)] (.int 0) := V1842.pad (pad_rep [(.int x0), (.int x1), (.int x2), (.int x3), (.int x4), (.int x5), (.int x6), (.int x7), (.int x8), (.int x9), (.int x10)] (.int 0) 1)
    obtain ⟨c1860, A1861, q1862, S1863, M1864, H1865, U1866⟩ := id V1859
    obtain ⟨T1867, h1868, X1869, e1870, W1871, st1872⟩ := stC X1836 hx hZ e1837 A1861 (j := (11 : Int32)) (inb_of S1863 ⟨(by decide), (by decide)⟩) (g := (mkF m 393 #[rv pa, iv 13] [(.int x11), (.int 11), (.ref a1474), (.ref a1474), (.ref a1454), (.ref a1454)])) rfl rfl (hb hby dMK_393)
    have N1873 := Fr.snoc X1869 N1840 nw1479
    have V1874 : Arv Z h1868 a1474 kc1468 .char (13 : Int32) [(.int x0), (.int x1), (.int x2), (.int x3), (.int x4), (.int x5), (.int x6), (.int x7), (.int x8), (.int x9), (.int x10), (.int (nar .char x11))] (.int 0) := Arv.set A1861 q1862 S1863 M1864 H1865 U1866 (fits_nar_char _) W1871 11 rfl (leB rfl)
    have nq1876 : nar .char x11 = x11 := own_b.nar hb11
    have V1875 : Arv Z h1868 a1474 kc1468 .char (13 : Int32) [(.int x0), (.int x1), (.int x2), (.int x3), (.int x4), (.int x5), (.int x6), (.int x7), (.int x8), (.int x9), (.int x10), (.int x11)] (.int 0) := by rw [nq1876] at V1874; exact V1874
    have A1877 := A1844.other W1871 ne1477
    have E1878 := Exa.wr W1871 E1845
    have F1879 := F1846.other W1871 (Or.inl ne1478)
    have F1880 := F1847.other W1871 (Or.inl ne1478)
    have Z1881 : n0 ≤ h1868.size := by rw [W1871.size]; exact Z1848
    have O1882 := O1849.wr W1871 nw1479
    have K1883 := K1850.wr W1871 (Or.inr hk1480)
    have hz1884 : h0.size ≤ h1868.size := by rw [W1871.size]; exact hz1851
    refine Way.by st1872 ?_
    show Way _ _ _ _ (T1867.setTop (mkF m 394 #[rv pa, iv 13] [(.ref a1474), (.ref a1454), (.ref a1454)]))
    try clear X1836 e1837 N1840 V1842 A1844 E1845 F1846 F1847 Z1848 O1849 K1850 hz1851 V1859 c1860 A1861 q1862 S1863 M1864 H1865 U1866 W1871 st1872 V1874
    try clear T1834 h1835
    refine Way.by (fun _ k => XS.dup X1869.here hx rfl (hb hby dMK_394) rfl rfl k) ?_
    show Way _ _ _ _ (T1867.setTop (mkF m 395 #[rv pa, iv 13] [(.ref a1474), (.ref a1474), (.ref a1454), (.ref a1454)]))
    refine Way.by (fun _ k => XS.bipush X1869.here hx rfl (hb hby dMK_395) k) ?_
    show Way _ _ _ _ (T1867.setTop (mkF m 397 #[rv pa, iv 13] [(.int 12), (.ref a1474), (.ref a1474), (.ref a1454), (.ref a1454)]))
    refine Way.by (fun _ k => XS.aloadN X1869.here hx rfl (hb hby dMK_397) rfl rfl k) ?_
    show Way _ _ _ _ (T1867.setTop (mkF m 398 #[rv pa, iv 13] [(.ref pa), (.int 12), (.ref a1474), (.ref a1474), (.ref a1454), (.ref a1454)]))
    refine Way.by (fun _ k => XS.bipush X1869.here hx rfl (hb hby dMK_398) k) ?_
    show Way _ _ _ _ (T1867.setTop (mkF m 400 #[rv pa, iv 13] [(.int 12), (.ref pa), (.int 12), (.ref a1474), (.ref a1474), (.ref a1454), (.ref a1454)]))
    obtain ⟨c1885, A1886, q1887, S1888, M1889, H1890, U1891⟩ := id A1877
    refine Way.by (fun t k => Stand.caload X1869 hx (hpE e1870 A1886.1) (arrS hZ A1886) A1886.2.2 (inb_of S1888 ⟨(by decide), (by decide)⟩) (Has.at H1890 (inb_of S1888 ⟨(by decide), (by decide)⟩) rfl) (g := (mkF m 400 #[rv pa, iv 13] [(.int 12), (.ref pa), (.int 12), (.ref a1474), (.ref a1474), (.ref a1454), (.ref a1454)])) rfl rfl (hb hby dMK_400) t k) ?_
    show Way _ _ _ _ (T1867.setTop (mkF m 401 #[rv pa, iv 13] [(.int x12), (.int 12), (.ref a1474), (.ref a1474), (.ref a1454), (.ref a1454)]))
    have V1892 : Arv Z h1868 a1474 kc1468 .char (13 : Int32) [(.int x0), (.int x1), (.int x2), (.int x3), (.int x4), (.int x5), (.int x6), (.int x7), (.int x8), (.int x9), (.int x10), (.int x11), (.int 0)] (.int 0) := V1875.pad (pad_rep [(.int x0), (.int x1), (.int x2), (.int x3), (.int x4), (.int x5), (.int x6), (.int x7), (.int x8), (.int x9), (.int x10), (.int x11)] (.int 0) 1)
    obtain ⟨c1893, A1894, q1895, S1896, M1897, H1898, U1899⟩ := id V1892
    obtain ⟨T1900, h1901, X1902, e1903, W1904, st1905⟩ := stC X1869 hx hZ e1870 A1894 (j := (12 : Int32)) (inb_of S1896 ⟨(by decide), (by decide)⟩) (g := (mkF m 401 #[rv pa, iv 13] [(.int x12), (.int 12), (.ref a1474), (.ref a1474), (.ref a1454), (.ref a1454)])) rfl rfl (hb hby dMK_401)
    have N1906 := Fr.snoc X1902 N1873 nw1479
    have V1907 : Arv Z h1901 a1474 kc1468 .char (13 : Int32) [(.int x0), (.int x1), (.int x2), (.int x3), (.int x4), (.int x5), (.int x6), (.int x7), (.int x8), (.int x9), (.int x10), (.int x11), (.int (nar .char x12))] (.int 0) := Arv.set A1894 q1895 S1896 M1897 H1898 U1899 (fits_nar_char _) W1904 12 rfl (leB rfl)
    have nq1909 : nar .char x12 = x12 := own_b.nar hb12
    have V1908 : Arv Z h1901 a1474 kc1468 .char (13 : Int32) [(.int x0), (.int x1), (.int x2), (.int x3), (.int x4), (.int x5), (.int x6), (.int x7), (.int x8), (.int x9), (.int x10), (.int x11), (.int x12)] (.int 0) := by rw [nq1909] at V1907; exact V1907
    have A1910 := A1877.other W1904 ne1477
    have E1911 := Exa.wr W1904 E1878
    have F1912 := F1879.other W1904 (Or.inl ne1478)
    have F1913 := F1880.other W1904 (Or.inl ne1478)
    have Z1914 : n0 ≤ h1901.size := by rw [W1904.size]; exact Z1881
    have O1915 := O1882.wr W1904 nw1479
    have K1916 := K1883.wr W1904 (Or.inr hk1480)
    have hz1917 : h0.size ≤ h1901.size := by rw [W1904.size]; exact hz1884
    refine Way.by st1905 ?_
    show Way _ _ _ _ (T1900.setTop (mkF m 402 #[rv pa, iv 13] [(.ref a1474), (.ref a1454), (.ref a1454)]))
    try clear X1869 e1870 N1873 V1875 A1877 E1878 F1879 F1880 Z1881 O1882 K1883 hz1884 V1892 c1893 A1894 q1895 S1896 M1897 H1898 U1899 W1904 st1905 V1907
    try clear T1867 h1868
    have hp1918 : ∀ c ∈ ([x0, x1, x2, x3, x4, x5, x6, x7, x8, x9, x10, x11, x12] : List Int32), ¬ c < 0 ∧ ¬ (255 : Int32) < c := by intro c hc; simp only [List.mem_cons, List.not_mem_nil, or_false] at hc; rcases hc with rfl | rfl | rfl | rfl | rfl | rfl | rfl | rfl | rfl | rfl | rfl | rfl | rfl <;> assumption
    obtain ⟨_, _, ⟨T1919, L1921, k1922, n1923⟩, -, X1920, ⟨Lc1924, hQ1925, l1926, y1927, z1928⟩, st1929⟩ := X1902.specialBack hx (y := (⟨"java/lang/String", "<init>", "([C)V"⟩ : MethodName)) rfl hown (mvT hZ (tw hw 56 rfl)) (mvT hZ (tw hw 57 rfl)) (mvT hZ (tw hw 58 rfl)) (by decide) (own_new (W := 1) (n0 := n0) hZ hw SV O1915 (cs := [x0, x1, x2, x3, x4, x5, x6, x7, x8, x9, x10, x11, x12]) (n := 13) nw1457 Z1914 E1911 F1912 F1913 V1908 rfl rfl (by decide) (by decide) hp1918 (by decide) (by decide)) (g := (mkF m 402 #[rv pa, iv 13] [(.ref a1474), (.ref a1454), (.ref a1454)])) rfl (by rw [hml]; rfl) (Steps.refl _) (a := a1454) (argsL := [(.ref a1474)]) (rest := [(.ref a1454)]) (lenOf own_pdNew rfl) rfl (leW rfl) (hb hby dMK_402) (fun _ _ => ⟨rfl, e1903, (leB rfl), (leB rfl)⟩)
    dsimp only [Pt.U, Pt.locs, Pt.cells, Pt.slots] at X1920 l1926 y1927 z1928 st1929 hQ1925
    subst y1927 z1928
    obtain ⟨rfl, N1935, K1936, x_t1939, fr_t1938, F1937⟩ := hQ1925
    have N1930 : Fr n0 L1921 := by rw [l1926]; exact Fr.app N1906 N1935
    have ne1940 : pa ≠ x_t1939 := Nat.ne_of_lt (Nat.lt_of_lt_of_le A1910.lt fr_t1938)
    have ne1941 : a1454 ≠ x_t1939 := Nat.ne_of_lt (Nat.lt_of_lt_of_le E1911.lt fr_t1938)
    have ne1942 : a1474 ≠ x_t1939 := Nat.ne_of_lt (Nat.lt_of_lt_of_le V1908.lt fr_t1938)
    have nw1943 : n0 ≤ x_t1939 := Nat.le_trans Z1914 fr_t1938
    have hk1944 : h0.size ≤ x_t1939 := Nat.le_trans hz1917 fr_t1938
    have A1945 := A1910.keep K1936 (ninS ne1456 nin0)
    have E1946 := E1911.keep K1936
    have A1947 := V1908.keep K1936 (ninS ne1478.symm nin0)
    have Z1948 := Nat.le_trans Z1914 K1936.1
    have O1949 := O1915.keep K1936 (allS nw1457 all0)
    have K1950 := K1916.trans K1936 (allS (Or.inr hk1458) all0)
    have hz1951 := Nat.le_trans hz1917 K1936.1
    refine Way.to st1929 ?_
    show Way _ _ _ _ (T1919.setTop (mkF m 405 #[rv pa, iv 13] [(.ref a1454)]))
    try clear X1902 e1903 N1906 V1908 A1910 E1911 F1912 F1913 Z1914 O1915 K1916 hz1917 st1929 N1935 K1936
    try clear T1900 h1901
    refine Way.ret (v := (some (.ref a1454))) X1920 hlk (fun h => by rw [Bd.returns] at h; cases h) (fun fs hr => retOut X1920 hx Bd.returns rfl (Or.inr (Or.inr (Or.inr (Or.inr ⟨rfl, rfl, rfl⟩)))) (hb hby dMK_405) hr) ?_ (by decide) (by decide)
    show QMK Z pa ka _ x0 x1 x2 x3 x4 x5 x6 x7 x8 x9 x10 x11 x12 x13 x14 x15 h0 n0 _ T1919.heap _
    skip
    exact ⟨a1454, x_t1939, [x0, x1, x2, x3, x4, x5, x6, x7, x8, x9, x10, x11, x12], rfl, N1930, K1950, hk1458, hk1944, F1937⟩
  · skip
    show Way _ _ _ _ (s₁.setTop (mkF m 0 #[rv pa, iv 14] []))
    refine Way.by (fun _ k => XS.iloadN X0.here hx rfl (hb hby dMK_0) rfl k) ?_
    show Way _ _ _ _ (s₁.setTop (mkF m 1 #[rv pa, iv 14] [(.int 14)]))
    refine Way.by (fun _ k => XS.bipush X0.here hx rfl (hb hby dMK_1) k) ?_
    show Way _ _ _ _ (s₁.setTop (mkF m 3 #[rv pa, iv 14] [(.int 7), (.int 14)]))
    have b1952 : ¬ (14 : Int32) = (7 : Int32) := by decide
    refine Way.by (fun _ k => XS.icmpYes X0.here hx rfl (pc0 := 3) (pc' := 62) rfl (hb hby dMK_3) rfl (feq b1952).2 (by decide) (by decide) k) ?_
    show Way _ _ _ _ (s₁.setTop (mkF m 62 #[rv pa, iv 14] []))
    refine Way.by (fun _ k => XS.iloadN X0.here hx rfl (hb hby dMK_62) rfl k) ?_
    show Way _ _ _ _ (s₁.setTop (mkF m 63 #[rv pa, iv 14] [(.int 14)]))
    refine Way.by (fun _ k => XS.bipush X0.here hx rfl (hb hby dMK_63) k) ?_
    show Way _ _ _ _ (s₁.setTop (mkF m 65 #[rv pa, iv 14] [(.int 8), (.int 14)]))
    have b1953 : ¬ (14 : Int32) = (8 : Int32) := by decide
    refine Way.by (fun _ k => XS.icmpYes X0.here hx rfl (pc0 := 65) (pc' := 132) rfl (hb hby dMK_65) rfl (feq b1953).2 (by decide) (by decide) k) ?_
    show Way _ _ _ _ (s₁.setTop (mkF m 132 #[rv pa, iv 14] []))
    refine Way.by (fun _ k => XS.iloadN X0.here hx rfl (hb hby dMK_132) rfl k) ?_
    show Way _ _ _ _ (s₁.setTop (mkF m 133 #[rv pa, iv 14] [(.int 14)]))
    refine Way.by (fun _ k => XS.bipush X0.here hx rfl (hb hby dMK_133) k) ?_
    show Way _ _ _ _ (s₁.setTop (mkF m 135 #[rv pa, iv 14] [(.int 9), (.int 14)]))
    have b1954 : ¬ (14 : Int32) = (9 : Int32) := by decide
    refine Way.by (fun _ k => XS.icmpYes X0.here hx rfl (pc0 := 135) (pc' := 210) rfl (hb hby dMK_135) rfl (feq b1954).2 (by decide) (by decide) k) ?_
    show Way _ _ _ _ (s₁.setTop (mkF m 210 #[rv pa, iv 14] []))
    refine Way.by (fun _ k => XS.iloadN X0.here hx rfl (hb hby dMK_210) rfl k) ?_
    show Way _ _ _ _ (s₁.setTop (mkF m 211 #[rv pa, iv 14] [(.int 14)]))
    refine Way.by (fun _ k => XS.bipush X0.here hx rfl (hb hby dMK_211) k) ?_
    show Way _ _ _ _ (s₁.setTop (mkF m 213 #[rv pa, iv 14] [(.int 10), (.int 14)]))
    have b1955 : ¬ (14 : Int32) = (10 : Int32) := by decide
    refine Way.by (fun _ k => XS.icmpYes X0.here hx rfl (pc0 := 213) (pc' := 296) rfl (hb hby dMK_213) rfl (feq b1955).2 (by decide) (by decide) k) ?_
    show Way _ _ _ _ (s₁.setTop (mkF m 296 #[rv pa, iv 14] []))
    refine Way.by (fun _ k => XS.iloadN X0.here hx rfl (hb hby dMK_296) rfl k) ?_
    show Way _ _ _ _ (s₁.setTop (mkF m 297 #[rv pa, iv 14] [(.int 14)]))
    refine Way.by (fun _ k => XS.bipush X0.here hx rfl (hb hby dMK_297) k) ?_
    show Way _ _ _ _ (s₁.setTop (mkF m 299 #[rv pa, iv 14] [(.int 13), (.int 14)]))
    have b1956 : ¬ (14 : Int32) = (13 : Int32) := by decide
    refine Way.by (fun _ k => XS.icmpYes X0.here hx rfl (pc0 := 299) (pc' := 406) rfl (hb hby dMK_299) rfl (feq b1956).2 (by decide) (by decide) k) ?_
    show Way _ _ _ _ (s₁.setTop (mkF m 406 #[rv pa, iv 14] []))
    refine Way.by (fun _ k => XS.iloadN X0.here hx rfl (hb hby dMK_406) rfl k) ?_
    show Way _ _ _ _ (s₁.setTop (mkF m 407 #[rv pa, iv 14] [(.int 14)]))
    refine Way.by (fun _ k => XS.bipush X0.here hx rfl (hb hby dMK_407) k) ?_
    show Way _ _ _ _ (s₁.setTop (mkF m 409 #[rv pa, iv 14] [(.int 14), (.int 14)]))
    have b1957 : (14 : Int32) = (14 : Int32) := by decide
    refine Way.by (fun _ k => XS.icmpNo X0.here hx rfl (hb hby dMK_409) rfl (teq b1957).2 k) ?_
    show Way _ _ _ _ (s₁.setTop (mkF m 412 #[rv pa, iv 14] []))
    obtain ⟨T1958, h1959, X1960, e1961, E1962, A1963, D1964, -, st1965⟩ := newO X0 hx hZ hown (tw hw 55 rfl) (tw hw 3 rfl) (tw hw 2 rfl) e0 (g := (mkF m 412 #[rv pa, iv 14] [])) rfl (hb hby dMK_412) (by decide) (by decide)
    obtain ⟨a1966, g1967⟩ : ∃ z, z = h0.size := ⟨_, rfl⟩
    rw [← g1967] at A1963 D1964 st1965
    have ne1968 : pa ≠ a1966 := Nat.ne_of_lt (Nat.lt_of_lt_of_eq H0.lt g1967.symm)
    have nw1969 : n0 ≤ a1966 := Nat.le_trans Z0 (Nat.le_of_eq g1967.symm)
    have hk1970 : h0.size ≤ a1966 := Nat.le_trans (Nat.le_refl h0.size) (Nat.le_of_eq g1967.symm)
    have A1971 := H0.ext E1962
    have Z1972 := Nat.le_trans Z0 E1962.1
    have O1973 := O0.ext E1962
    have K1974 := (Keep.refl h0 []).ext E1962
    have hz1975 := Nat.le_trans (Nat.le_refl h0.size) E1962.1
    have F1976 : Fld Z h1959 a1966 "java/lang/String" "value" "[B" .null := D1964 (Or.inr (tw hw 5 rfl)) (ty := (.array .byte)) (by decide)
    have F1977 : Fld Z h1959 a1966 "java/lang/String" "coder" "B" (.int 0) := D1964 (Or.inr (tw hw 6 rfl)) (ty := .byte) (by decide)
    refine Way.by st1965 ?_
    show Way _ _ _ _ (T1958.setTop (mkF m 415 #[rv pa, iv 14] [(.ref a1966)]))
    refine Way.by (fun _ k => XS.dup X1960.here hx rfl (hb hby dMK_415) rfl rfl k) ?_
    show Way _ _ _ _ (T1958.setTop (mkF m 416 #[rv pa, iv 14] [(.ref a1966), (.ref a1966)]))
    refine Way.by (fun _ k => XS.bipush X1960.here hx rfl (hb hby dMK_416) k) ?_
    show Way _ _ _ _ (T1958.setTop (mkF m 418 #[rv pa, iv 14] [(.int 14), (.ref a1966), (.ref a1966)]))
    obtain ⟨T1978, h1979, kc1980, X1981, e1982, E1983, A1984, st1985⟩ := newP X1960 hx hZ (tw hw 22 rfl) e1961 (g := (mkF m 418 #[rv pa, iv 14] [(.int 14), (.ref a1966), (.ref a1966)])) rfl (hb hby dMK_418) rfl (by decide) (cap := 14) (by decide) (by decide) (by decide) (by decide)
    obtain ⟨a1986, g1987⟩ : ∃ z, z = h1959.size := ⟨_, rfl⟩
    rw [← g1987] at A1984 st1985
    have ne1989 : pa ≠ a1986 := Nat.ne_of_lt (Nat.lt_of_lt_of_eq A1971.lt g1987.symm)
    have ne1990 : a1966 ≠ a1986 := Nat.ne_of_lt (Nat.lt_of_lt_of_eq A1963.lt g1987.symm)
    have nw1991 : n0 ≤ a1986 := Nat.le_trans Z1972 (Nat.le_of_eq g1987.symm)
    have hk1992 : h0.size ≤ a1986 := Nat.le_trans hz1975 (Nat.le_of_eq g1987.symm)
    have A1993 := A1971.ext E1983
    have E1994 := Exa.ext E1983 A1963
    have F1995 := Fld.ext E1983 F1976
    have F1996 := Fld.ext E1983 F1977
    have Z1997 := Nat.le_trans Z1972 E1983.1
    have O1998 := O1973.ext E1983
    have K1999 := K1974.ext E1983
    have hz2000 := Nat.le_trans hz1975 E1983.1
    have V1988 : Arv Z h1979 a1986 kc1980 .char (14 : Int32) [] (.int 0) := Arv.new A1984 (by decide)
    refine Way.by st1985 ?_
    show Way _ _ _ _ (T1978.setTop (mkF m 420 #[rv pa, iv 14] [(.ref a1986), (.ref a1966), (.ref a1966)]))
    try clear X1960 e1961 A1963 A1971 Z1972 O1973 K1974 hz1975 F1976 F1977 E1983 A1984 st1985
    try clear T1958 h1959
    refine Way.by (fun _ k => XS.dup X1981.here hx rfl (hb hby dMK_420) rfl rfl k) ?_
    show Way _ _ _ _ (T1978.setTop (mkF m 421 #[rv pa, iv 14] [(.ref a1986), (.ref a1986), (.ref a1966), (.ref a1966)]))
    refine Way.by (fun _ k => XS.iconst X1981.here hx rfl (hb hby dMK_421) k) ?_
    show Way _ _ _ _ (T1978.setTop (mkF m 422 #[rv pa, iv 14] [(.int 0), (.ref a1986), (.ref a1986), (.ref a1966), (.ref a1966)]))
    refine Way.by (fun _ k => XS.aloadN X1981.here hx rfl (hb hby dMK_422) rfl rfl k) ?_
    show Way _ _ _ _ (T1978.setTop (mkF m 423 #[rv pa, iv 14] [(.ref pa), (.int 0), (.ref a1986), (.ref a1986), (.ref a1966), (.ref a1966)]))
    refine Way.by (fun _ k => XS.iconst X1981.here hx rfl (hb hby dMK_423) k) ?_
    show Way _ _ _ _ (T1978.setTop (mkF m 424 #[rv pa, iv 14] [(.int 0), (.ref pa), (.int 0), (.ref a1986), (.ref a1986), (.ref a1966), (.ref a1966)]))
    obtain ⟨c2001, A2002, q2003, S2004, M2005, H2006, U2007⟩ := id A1993
    refine Way.by (fun t k => Stand.caload X1981 hx (hpE e1982 A2002.1) (arrS hZ A2002) A2002.2.2 (inb_of S2004 ⟨(by decide), (by decide)⟩) (Has.at H2006 (inb_of S2004 ⟨(by decide), (by decide)⟩) rfl) (g := (mkF m 424 #[rv pa, iv 14] [(.int 0), (.ref pa), (.int 0), (.ref a1986), (.ref a1986), (.ref a1966), (.ref a1966)])) rfl rfl (hb hby dMK_424) t k) ?_
    show Way _ _ _ _ (T1978.setTop (mkF m 425 #[rv pa, iv 14] [(.int x0), (.int 0), (.ref a1986), (.ref a1986), (.ref a1966), (.ref a1966)]))
    have V2008 : Arv Z h1979 a1986 kc1980 .char (14 : Int32) [(.int 0)] (.int 0) := V1988.pad (pad_rep [] (.int 0) 1)
    obtain ⟨c2009, A2010, q2011, S2012, M2013, H2014, U2015⟩ := id V2008
    obtain ⟨T2016, h2017, X2018, e2019, W2020, st2021⟩ := stC X1981 hx hZ e1982 A2010 (j := (0 : Int32)) (inb_of S2012 ⟨(by decide), (by decide)⟩) (g := (mkF m 425 #[rv pa, iv 14] [(.int x0), (.int 0), (.ref a1986), (.ref a1986), (.ref a1966), (.ref a1966)])) rfl rfl (hb hby dMK_425)
    have N2022 := Fr.snoc X2018 N0 nw1991
    have V2023 : Arv Z h2017 a1986 kc1980 .char (14 : Int32) [(.int (nar .char x0))] (.int 0) := Arv.set A2010 q2011 S2012 M2013 H2014 U2015 (fits_nar_char _) W2020 0 rfl (leB rfl)
    have nq2025 : nar .char x0 = x0 := own_b.nar hb0
    have V2024 : Arv Z h2017 a1986 kc1980 .char (14 : Int32) [(.int x0)] (.int 0) := by rw [nq2025] at V2023; exact V2023
    have A2026 := A1993.other W2020 ne1989
    have E2027 := Exa.wr W2020 E1994
    have F2028 := F1995.other W2020 (Or.inl ne1990)
    have F2029 := F1996.other W2020 (Or.inl ne1990)
    have Z2030 : n0 ≤ h2017.size := by rw [W2020.size]; exact Z1997
    have O2031 := O1998.wr W2020 nw1991
    have K2032 := K1999.wr W2020 (Or.inr hk1992)
    have hz2033 : h0.size ≤ h2017.size := by rw [W2020.size]; exact hz2000
    refine Way.by st2021 ?_
    show Way _ _ _ _ (T2016.setTop (mkF m 426 #[rv pa, iv 14] [(.ref a1986), (.ref a1966), (.ref a1966)]))
    try clear X1981 e1982 V1988 A1993 E1994 F1995 F1996 Z1997 O1998 K1999 hz2000 V2008 c2009 A2010 q2011 S2012 M2013 H2014 U2015 W2020 st2021 V2023
    try clear T1978 h1979
    refine Way.by (fun _ k => XS.dup X2018.here hx rfl (hb hby dMK_426) rfl rfl k) ?_
    show Way _ _ _ _ (T2016.setTop (mkF m 427 #[rv pa, iv 14] [(.ref a1986), (.ref a1986), (.ref a1966), (.ref a1966)]))
    refine Way.by (fun _ k => XS.iconst X2018.here hx rfl (hb hby dMK_427) k) ?_
    show Way _ _ _ _ (T2016.setTop (mkF m 428 #[rv pa, iv 14] [(.int 1), (.ref a1986), (.ref a1986), (.ref a1966), (.ref a1966)]))
    refine Way.by (fun _ k => XS.aloadN X2018.here hx rfl (hb hby dMK_428) rfl rfl k) ?_
    show Way _ _ _ _ (T2016.setTop (mkF m 429 #[rv pa, iv 14] [(.ref pa), (.int 1), (.ref a1986), (.ref a1986), (.ref a1966), (.ref a1966)]))
    refine Way.by (fun _ k => XS.iconst X2018.here hx rfl (hb hby dMK_429) k) ?_
    show Way _ _ _ _ (T2016.setTop (mkF m 430 #[rv pa, iv 14] [(.int 1), (.ref pa), (.int 1), (.ref a1986), (.ref a1986), (.ref a1966), (.ref a1966)]))
    obtain ⟨c2034, A2035, q2036, S2037, M2038, H2039, U2040⟩ := id A2026
    refine Way.by (fun t k => Stand.caload X2018 hx (hpE e2019 A2035.1) (arrS hZ A2035) A2035.2.2 (inb_of S2037 ⟨(by decide), (by decide)⟩) (Has.at H2039 (inb_of S2037 ⟨(by decide), (by decide)⟩) rfl) (g := (mkF m 430 #[rv pa, iv 14] [(.int 1), (.ref pa), (.int 1), (.ref a1986), (.ref a1986), (.ref a1966), (.ref a1966)])) rfl rfl (hb hby dMK_430) t k) ?_
    show Way _ _ _ _ (T2016.setTop (mkF m 431 #[rv pa, iv 14] [(.int x1), (.int 1), (.ref a1986), (.ref a1986), (.ref a1966), (.ref a1966)]))
    have V2041 : Arv Z h2017 a1986 kc1980 .char (14 : Int32) [(.int x0), (.int 0)] (.int 0) := V2024.pad (pad_rep [(.int x0)] (.int 0) 1)
    obtain ⟨c2042, A2043, q2044, S2045, M2046, H2047, U2048⟩ := id V2041
    obtain ⟨T2049, h2050, X2051, e2052, W2053, st2054⟩ := stC X2018 hx hZ e2019 A2043 (j := (1 : Int32)) (inb_of S2045 ⟨(by decide), (by decide)⟩) (g := (mkF m 431 #[rv pa, iv 14] [(.int x1), (.int 1), (.ref a1986), (.ref a1986), (.ref a1966), (.ref a1966)])) rfl rfl (hb hby dMK_431)
    have N2055 := Fr.snoc X2051 N2022 nw1991
    have V2056 : Arv Z h2050 a1986 kc1980 .char (14 : Int32) [(.int x0), (.int (nar .char x1))] (.int 0) := Arv.set A2043 q2044 S2045 M2046 H2047 U2048 (fits_nar_char _) W2053 1 rfl (leB rfl)
    have nq2058 : nar .char x1 = x1 := own_b.nar hb1
    have V2057 : Arv Z h2050 a1986 kc1980 .char (14 : Int32) [(.int x0), (.int x1)] (.int 0) := by rw [nq2058] at V2056; exact V2056
    have A2059 := A2026.other W2053 ne1989
    have E2060 := Exa.wr W2053 E2027
    have F2061 := F2028.other W2053 (Or.inl ne1990)
    have F2062 := F2029.other W2053 (Or.inl ne1990)
    have Z2063 : n0 ≤ h2050.size := by rw [W2053.size]; exact Z2030
    have O2064 := O2031.wr W2053 nw1991
    have K2065 := K2032.wr W2053 (Or.inr hk1992)
    have hz2066 : h0.size ≤ h2050.size := by rw [W2053.size]; exact hz2033
    refine Way.by st2054 ?_
    show Way _ _ _ _ (T2049.setTop (mkF m 432 #[rv pa, iv 14] [(.ref a1986), (.ref a1966), (.ref a1966)]))
    try clear X2018 e2019 N2022 V2024 A2026 E2027 F2028 F2029 Z2030 O2031 K2032 hz2033 V2041 c2042 A2043 q2044 S2045 M2046 H2047 U2048 W2053 st2054 V2056
    try clear T2016 h2017
    refine Way.by (fun _ k => XS.dup X2051.here hx rfl (hb hby dMK_432) rfl rfl k) ?_
    show Way _ _ _ _ (T2049.setTop (mkF m 433 #[rv pa, iv 14] [(.ref a1986), (.ref a1986), (.ref a1966), (.ref a1966)]))
    refine Way.by (fun _ k => XS.iconst X2051.here hx rfl (hb hby dMK_433) k) ?_
    show Way _ _ _ _ (T2049.setTop (mkF m 434 #[rv pa, iv 14] [(.int 2), (.ref a1986), (.ref a1986), (.ref a1966), (.ref a1966)]))
    refine Way.by (fun _ k => XS.aloadN X2051.here hx rfl (hb hby dMK_434) rfl rfl k) ?_
    show Way _ _ _ _ (T2049.setTop (mkF m 435 #[rv pa, iv 14] [(.ref pa), (.int 2), (.ref a1986), (.ref a1986), (.ref a1966), (.ref a1966)]))
    refine Way.by (fun _ k => XS.iconst X2051.here hx rfl (hb hby dMK_435) k) ?_
    show Way _ _ _ _ (T2049.setTop (mkF m 436 #[rv pa, iv 14] [(.int 2), (.ref pa), (.int 2), (.ref a1986), (.ref a1986), (.ref a1966), (.ref a1966)]))
    obtain ⟨c2067, A2068, q2069, S2070, M2071, H2072, U2073⟩ := id A2059
    refine Way.by (fun t k => Stand.caload X2051 hx (hpE e2052 A2068.1) (arrS hZ A2068) A2068.2.2 (inb_of S2070 ⟨(by decide), (by decide)⟩) (Has.at H2072 (inb_of S2070 ⟨(by decide), (by decide)⟩) rfl) (g := (mkF m 436 #[rv pa, iv 14] [(.int 2), (.ref pa), (.int 2), (.ref a1986), (.ref a1986), (.ref a1966), (.ref a1966)])) rfl rfl (hb hby dMK_436) t k) ?_
    show Way _ _ _ _ (T2049.setTop (mkF m 437 #[rv pa, iv 14] [(.int x2), (.int 2), (.ref a1986), (.ref a1986), (.ref a1966), (.ref a1966)]))
    have V2074 : Arv Z h2050 a1986 kc1980 .char (14 : Int32) [(.int x0), (.int x1), (.int 0)] (.int 0) := V2057.pad (pad_rep [(.int x0), (.int x1)] (.int 0) 1)
    obtain ⟨c2075, A2076, q2077, S2078, M2079, H2080, U2081⟩ := id V2074
    obtain ⟨T2082, h2083, X2084, e2085, W2086, st2087⟩ := stC X2051 hx hZ e2052 A2076 (j := (2 : Int32)) (inb_of S2078 ⟨(by decide), (by decide)⟩) (g := (mkF m 437 #[rv pa, iv 14] [(.int x2), (.int 2), (.ref a1986), (.ref a1986), (.ref a1966), (.ref a1966)])) rfl rfl (hb hby dMK_437)
    have N2088 := Fr.snoc X2084 N2055 nw1991
    have V2089 : Arv Z h2083 a1986 kc1980 .char (14 : Int32) [(.int x0), (.int x1), (.int (nar .char x2))] (.int 0) := Arv.set A2076 q2077 S2078 M2079 H2080 U2081 (fits_nar_char _) W2086 2 rfl (leB rfl)
    have nq2091 : nar .char x2 = x2 := own_b.nar hb2
    have V2090 : Arv Z h2083 a1986 kc1980 .char (14 : Int32) [(.int x0), (.int x1), (.int x2)] (.int 0) := by rw [nq2091] at V2089; exact V2089
    have A2092 := A2059.other W2086 ne1989
    have E2093 := Exa.wr W2086 E2060
    have F2094 := F2061.other W2086 (Or.inl ne1990)
    have F2095 := F2062.other W2086 (Or.inl ne1990)
    have Z2096 : n0 ≤ h2083.size := by rw [W2086.size]; exact Z2063
    have O2097 := O2064.wr W2086 nw1991
    have K2098 := K2065.wr W2086 (Or.inr hk1992)
    have hz2099 : h0.size ≤ h2083.size := by rw [W2086.size]; exact hz2066
    refine Way.by st2087 ?_
    show Way _ _ _ _ (T2082.setTop (mkF m 438 #[rv pa, iv 14] [(.ref a1986), (.ref a1966), (.ref a1966)]))
    try clear X2051 e2052 N2055 V2057 A2059 E2060 F2061 F2062 Z2063 O2064 K2065 hz2066 V2074 c2075 A2076 q2077 S2078 M2079 H2080 U2081 W2086 st2087 V2089
    try clear T2049 h2050
    refine Way.by (fun _ k => XS.dup X2084.here hx rfl (hb hby dMK_438) rfl rfl k) ?_
    show Way _ _ _ _ (T2082.setTop (mkF m 439 #[rv pa, iv 14] [(.ref a1986), (.ref a1986), (.ref a1966), (.ref a1966)]))
    refine Way.by (fun _ k => XS.iconst X2084.here hx rfl (hb hby dMK_439) k) ?_
    show Way _ _ _ _ (T2082.setTop (mkF m 440 #[rv pa, iv 14] [(.int 3), (.ref a1986), (.ref a1986), (.ref a1966), (.ref a1966)]))
    refine Way.by (fun _ k => XS.aloadN X2084.here hx rfl (hb hby dMK_440) rfl rfl k) ?_
    show Way _ _ _ _ (T2082.setTop (mkF m 441 #[rv pa, iv 14] [(.ref pa), (.int 3), (.ref a1986), (.ref a1986), (.ref a1966), (.ref a1966)]))
    refine Way.by (fun _ k => XS.iconst X2084.here hx rfl (hb hby dMK_441) k) ?_
    show Way _ _ _ _ (T2082.setTop (mkF m 442 #[rv pa, iv 14] [(.int 3), (.ref pa), (.int 3), (.ref a1986), (.ref a1986), (.ref a1966), (.ref a1966)]))
    obtain ⟨c2100, A2101, q2102, S2103, M2104, H2105, U2106⟩ := id A2092
    refine Way.by (fun t k => Stand.caload X2084 hx (hpE e2085 A2101.1) (arrS hZ A2101) A2101.2.2 (inb_of S2103 ⟨(by decide), (by decide)⟩) (Has.at H2105 (inb_of S2103 ⟨(by decide), (by decide)⟩) rfl) (g := (mkF m 442 #[rv pa, iv 14] [(.int 3), (.ref pa), (.int 3), (.ref a1986), (.ref a1986), (.ref a1966), (.ref a1966)])) rfl rfl (hb hby dMK_442) t k) ?_
    show Way _ _ _ _ (T2082.setTop (mkF m 443 #[rv pa, iv 14] [(.int x3), (.int 3), (.ref a1986), (.ref a1986), (.ref a1966), (.ref a1966)]))
    have V2107 : Arv Z h2083 a1986 kc1980 .char (14 : Int32) [(.int x0), (.int x1), (.int x2), (.int 0)] (.int 0) := V2090.pad (pad_rep [(.int x0), (.int x1), (.int x2)] (.int 0) 1)
    obtain ⟨c2108, A2109, q2110, S2111, M2112, H2113, U2114⟩ := id V2107
    obtain ⟨T2115, h2116, X2117, e2118, W2119, st2120⟩ := stC X2084 hx hZ e2085 A2109 (j := (3 : Int32)) (inb_of S2111 ⟨(by decide), (by decide)⟩) (g := (mkF m 443 #[rv pa, iv 14] [(.int x3), (.int 3), (.ref a1986), (.ref a1986), (.ref a1966), (.ref a1966)])) rfl rfl (hb hby dMK_443)
    have N2121 := Fr.snoc X2117 N2088 nw1991
    have V2122 : Arv Z h2116 a1986 kc1980 .char (14 : Int32) [(.int x0), (.int x1), (.int x2), (.int (nar .char x3))] (.int 0) := Arv.set A2109 q2110 S2111 M2112 H2113 U2114 (fits_nar_char _) W2119 3 rfl (leB rfl)
    have nq2124 : nar .char x3 = x3 := own_b.nar hb3
    have V2123 : Arv Z h2116 a1986 kc1980 .char (14 : Int32) [(.int x0), (.int x1), (.int x2), (.int x3)] (.int 0) := by rw [nq2124] at V2122; exact V2122
    have A2125 := A2092.other W2119 ne1989
    have E2126 := Exa.wr W2119 E2093
    have F2127 := F2094.other W2119 (Or.inl ne1990)
    have F2128 := F2095.other W2119 (Or.inl ne1990)
    have Z2129 : n0 ≤ h2116.size := by rw [W2119.size]; exact Z2096
    have O2130 := O2097.wr W2119 nw1991
    have K2131 := K2098.wr W2119 (Or.inr hk1992)
    have hz2132 : h0.size ≤ h2116.size := by rw [W2119.size]; exact hz2099
    refine Way.by st2120 ?_
    show Way _ _ _ _ (T2115.setTop (mkF m 444 #[rv pa, iv 14] [(.ref a1986), (.ref a1966), (.ref a1966)]))
    try clear X2084 e2085 N2088 V2090 A2092 E2093 F2094 F2095 Z2096 O2097 K2098 hz2099 V2107 c2108 A2109 q2110 S2111 M2112 H2113 U2114 W2119 st2120 V2122
    try clear T2082 h2083
    refine Way.by (fun _ k => XS.dup X2117.here hx rfl (hb hby dMK_444) rfl rfl k) ?_
    show Way _ _ _ _ (T2115.setTop (mkF m 445 #[rv pa, iv 14] [(.ref a1986), (.ref a1986), (.ref a1966), (.ref a1966)]))
    refine Way.by (fun _ k => XS.iconst X2117.here hx rfl (hb hby dMK_445) k) ?_
    show Way _ _ _ _ (T2115.setTop (mkF m 446 #[rv pa, iv 14] [(.int 4), (.ref a1986), (.ref a1986), (.ref a1966), (.ref a1966)]))
    refine Way.by (fun _ k => XS.aloadN X2117.here hx rfl (hb hby dMK_446) rfl rfl k) ?_
    show Way _ _ _ _ (T2115.setTop (mkF m 447 #[rv pa, iv 14] [(.ref pa), (.int 4), (.ref a1986), (.ref a1986), (.ref a1966), (.ref a1966)]))
    refine Way.by (fun _ k => XS.iconst X2117.here hx rfl (hb hby dMK_447) k) ?_
    show Way _ _ _ _ (T2115.setTop (mkF m 448 #[rv pa, iv 14] [(.int 4), (.ref pa), (.int 4), (.ref a1986), (.ref a1986), (.ref a1966), (.ref a1966)]))
    obtain ⟨c2133, A2134, q2135, S2136, M2137, H2138, U2139⟩ := id A2125
    refine Way.by (fun t k => Stand.caload X2117 hx (hpE e2118 A2134.1) (arrS hZ A2134) A2134.2.2 (inb_of S2136 ⟨(by decide), (by decide)⟩) (Has.at H2138 (inb_of S2136 ⟨(by decide), (by decide)⟩) rfl) (g := (mkF m 448 #[rv pa, iv 14] [(.int 4), (.ref pa), (.int 4), (.ref a1986), (.ref a1986), (.ref a1966), (.ref a1966)])) rfl rfl (hb hby dMK_448) t k) ?_
    show Way _ _ _ _ (T2115.setTop (mkF m 449 #[rv pa, iv 14] [(.int x4), (.int 4), (.ref a1986), (.ref a1986), (.ref a1966), (.ref a1966)]))
    have V2140 : Arv Z h2116 a1986 kc1980 .char (14 : Int32) [(.int x0), (.int x1), (.int x2), (.int x3), (.int 0)] (.int 0) := V2123.pad (pad_rep [(.int x0), (.int x1), (.int x2), (.int x3)] (.int 0) 1)
    obtain ⟨c2141, A2142, q2143, S2144, M2145, H2146, U2147⟩ := id V2140
    obtain ⟨T2148, h2149, X2150, e2151, W2152, st2153⟩ := stC X2117 hx hZ e2118 A2142 (j := (4 : Int32)) (inb_of S2144 ⟨(by decide), (by decide)⟩) (g := (mkF m 449 #[rv pa, iv 14] [(.int x4), (.int 4), (.ref a1986), (.ref a1986), (.ref a1966), (.ref a1966)])) rfl rfl (hb hby dMK_449)
    have N2154 := Fr.snoc X2150 N2121 nw1991
    have V2155 : Arv Z h2149 a1986 kc1980 .char (14 : Int32) [(.int x0), (.int x1), (.int x2), (.int x3), (.int (nar .char x4))] (.int 0) := Arv.set A2142 q2143 S2144 M2145 H2146 U2147 (fits_nar_char _) W2152 4 rfl (leB rfl)
    have nq2157 : nar .char x4 = x4 := own_b.nar hb4
    have V2156 : Arv Z h2149 a1986 kc1980 .char (14 : Int32) [(.int x0), (.int x1), (.int x2), (.int x3), (.int x4)] (.int 0) := by rw [nq2157] at V2155; exact V2155
    have A2158 := A2125.other W2152 ne1989
    have E2159 := Exa.wr W2152 E2126
    have F2160 := F2127.other W2152 (Or.inl ne1990)
    have F2161 := F2128.other W2152 (Or.inl ne1990)
    have Z2162 : n0 ≤ h2149.size := by rw [W2152.size]; exact Z2129
    have O2163 := O2130.wr W2152 nw1991
    have K2164 := K2131.wr W2152 (Or.inr hk1992)
    have hz2165 : h0.size ≤ h2149.size := by rw [W2152.size]; exact hz2132
    refine Way.by st2153 ?_
    show Way _ _ _ _ (T2148.setTop (mkF m 450 #[rv pa, iv 14] [(.ref a1986), (.ref a1966), (.ref a1966)]))
    try clear X2117 e2118 N2121 V2123 A2125 E2126 F2127 F2128 Z2129 O2130 K2131 hz2132 V2140 c2141 A2142 q2143 S2144 M2145 H2146 U2147 W2152 st2153 V2155
    try clear T2115 h2116
    refine Way.by (fun _ k => XS.dup X2150.here hx rfl (hb hby dMK_450) rfl rfl k) ?_
    show Way _ _ _ _ (T2148.setTop (mkF m 451 #[rv pa, iv 14] [(.ref a1986), (.ref a1986), (.ref a1966), (.ref a1966)]))
    refine Way.by (fun _ k => XS.iconst X2150.here hx rfl (hb hby dMK_451) k) ?_
    show Way _ _ _ _ (T2148.setTop (mkF m 452 #[rv pa, iv 14] [(.int 5), (.ref a1986), (.ref a1986), (.ref a1966), (.ref a1966)]))
    refine Way.by (fun _ k => XS.aloadN X2150.here hx rfl (hb hby dMK_452) rfl rfl k) ?_
    show Way _ _ _ _ (T2148.setTop (mkF m 453 #[rv pa, iv 14] [(.ref pa), (.int 5), (.ref a1986), (.ref a1986), (.ref a1966), (.ref a1966)]))
    refine Way.by (fun _ k => XS.iconst X2150.here hx rfl (hb hby dMK_453) k) ?_
    show Way _ _ _ _ (T2148.setTop (mkF m 454 #[rv pa, iv 14] [(.int 5), (.ref pa), (.int 5), (.ref a1986), (.ref a1986), (.ref a1966), (.ref a1966)]))
    obtain ⟨c2166, A2167, q2168, S2169, M2170, H2171, U2172⟩ := id A2158
    refine Way.by (fun t k => Stand.caload X2150 hx (hpE e2151 A2167.1) (arrS hZ A2167) A2167.2.2 (inb_of S2169 ⟨(by decide), (by decide)⟩) (Has.at H2171 (inb_of S2169 ⟨(by decide), (by decide)⟩) rfl) (g := (mkF m 454 #[rv pa, iv 14] [(.int 5), (.ref pa), (.int 5), (.ref a1986), (.ref a1986), (.ref a1966), (.ref a1966)])) rfl rfl (hb hby dMK_454) t k) ?_
    show Way _ _ _ _ (T2148.setTop (mkF m 455 #[rv pa, iv 14] [(.int x5), (.int 5), (.ref a1986), (.ref a1986), (.ref a1966), (.ref a1966)]))
    have V2173 : Arv Z h2149 a1986 kc1980 .char (14 : Int32) [(.int x0), (.int x1), (.int x2), (.int x3), (.int x4), (.int 0)] (.int 0) := V2156.pad (pad_rep [(.int x0), (.int x1), (.int x2), (.int x3), (.int x4)] (.int 0) 1)
    obtain ⟨c2174, A2175, q2176, S2177, M2178, H2179, U2180⟩ := id V2173
    obtain ⟨T2181, h2182, X2183, e2184, W2185, st2186⟩ := stC X2150 hx hZ e2151 A2175 (j := (5 : Int32)) (inb_of S2177 ⟨(by decide), (by decide)⟩) (g := (mkF m 455 #[rv pa, iv 14] [(.int x5), (.int 5), (.ref a1986), (.ref a1986), (.ref a1966), (.ref a1966)])) rfl rfl (hb hby dMK_455)
    have N2187 := Fr.snoc X2183 N2154 nw1991
    have V2188 : Arv Z h2182 a1986 kc1980 .char (14 : Int32) [(.int x0), (.int x1), (.int x2), (.int x3), (.int x4), (.int (nar .char x5))] (.int 0) := Arv.set A2175 q2176 S2177 M2178 H2179 U2180 (fits_nar_char _) W2185 5 rfl (leB rfl)
    have nq2190 : nar .char x5 = x5 := own_b.nar hb5
    have V2189 : Arv Z h2182 a1986 kc1980 .char (14 : Int32) [(.int x0), (.int x1), (.int x2), (.int x3), (.int x4), (.int x5)] (.int 0) := by rw [nq2190] at V2188; exact V2188
    have A2191 := A2158.other W2185 ne1989
    have E2192 := Exa.wr W2185 E2159
    have F2193 := F2160.other W2185 (Or.inl ne1990)
    have F2194 := F2161.other W2185 (Or.inl ne1990)
    have Z2195 : n0 ≤ h2182.size := by rw [W2185.size]; exact Z2162
    have O2196 := O2163.wr W2185 nw1991
    have K2197 := K2164.wr W2185 (Or.inr hk1992)
    have hz2198 : h0.size ≤ h2182.size := by rw [W2185.size]; exact hz2165
    refine Way.by st2186 ?_
    show Way _ _ _ _ (T2181.setTop (mkF m 456 #[rv pa, iv 14] [(.ref a1986), (.ref a1966), (.ref a1966)]))
    try clear X2150 e2151 N2154 V2156 A2158 E2159 F2160 F2161 Z2162 O2163 K2164 hz2165 V2173 c2174 A2175 q2176 S2177 M2178 H2179 U2180 W2185 st2186 V2188
    try clear T2148 h2149
    refine Way.by (fun _ k => XS.dup X2183.here hx rfl (hb hby dMK_456) rfl rfl k) ?_
    show Way _ _ _ _ (T2181.setTop (mkF m 457 #[rv pa, iv 14] [(.ref a1986), (.ref a1986), (.ref a1966), (.ref a1966)]))
    refine Way.by (fun _ k => XS.bipush X2183.here hx rfl (hb hby dMK_457) k) ?_
    show Way _ _ _ _ (T2181.setTop (mkF m 459 #[rv pa, iv 14] [(.int 6), (.ref a1986), (.ref a1986), (.ref a1966), (.ref a1966)]))
    refine Way.by (fun _ k => XS.aloadN X2183.here hx rfl (hb hby dMK_459) rfl rfl k) ?_
    show Way _ _ _ _ (T2181.setTop (mkF m 460 #[rv pa, iv 14] [(.ref pa), (.int 6), (.ref a1986), (.ref a1986), (.ref a1966), (.ref a1966)]))
    refine Way.by (fun _ k => XS.bipush X2183.here hx rfl (hb hby dMK_460) k) ?_
    show Way _ _ _ _ (T2181.setTop (mkF m 462 #[rv pa, iv 14] [(.int 6), (.ref pa), (.int 6), (.ref a1986), (.ref a1986), (.ref a1966), (.ref a1966)]))
    obtain ⟨c2199, A2200, q2201, S2202, M2203, H2204, U2205⟩ := id A2191
    refine Way.by (fun t k => Stand.caload X2183 hx (hpE e2184 A2200.1) (arrS hZ A2200) A2200.2.2 (inb_of S2202 ⟨(by decide), (by decide)⟩) (Has.at H2204 (inb_of S2202 ⟨(by decide), (by decide)⟩) rfl) (g := (mkF m 462 #[rv pa, iv 14] [(.int 6), (.ref pa), (.int 6), (.ref a1986), (.ref a1986), (.ref a1966), (.ref a1966)])) rfl rfl (hb hby dMK_462) t k) ?_
    show Way _ _ _ _ (T2181.setTop (mkF m 463 #[rv pa, iv 14] [(.int x6), (.int 6), (.ref a1986), (.ref a1986), (.ref a1966), (.ref a1966)]))
    have V2206 : Arv Z h2182 a1986 kc1980 .char (14 : Int32) [(.int x0), (.int x1), (.int x2), (.int x3), (.int x4), (.int x5), (.int 0)] (.int 0) := V2189.pad (pad_rep [(.int x0), (.int x1), (.int x2), (.int x3), (.int x4), (.int x5)] (.int 0) 1)
    obtain ⟨c2207, A2208, q2209, S2210, M2211, H2212, U2213⟩ := id V2206
    obtain ⟨T2214, h2215, X2216, e2217, W2218, st2219⟩ := stC X2183 hx hZ e2184 A2208 (j := (6 : Int32)) (inb_of S2210 ⟨(by decide), (by decide)⟩) (g := (mkF m 463 #[rv pa, iv 14] [(.int x6), (.int 6), (.ref a1986), (.ref a1986), (.ref a1966), (.ref a1966)])) rfl rfl (hb hby dMK_463)
    have N2220 := Fr.snoc X2216 N2187 nw1991
    have V2221 : Arv Z h2215 a1986 kc1980 .char (14 : Int32) [(.int x0), (.int x1), (.int x2), (.int x3), (.int x4), (.int x5), (.int (nar .char x6))] (.int 0) := Arv.set A2208 q2209 S2210 M2211 H2212 U2213 (fits_nar_char _) W2218 6 rfl (leB rfl)
    have nq2223 : nar .char x6 = x6 := own_b.nar hb6
    have V2222 : Arv Z h2215 a1986 kc1980 .char (14 : Int32) [(.int x0), (.int x1), (.int x2), (.int x3), (.int x4), (.int x5), (.int x6)] (.int 0) := by rw [nq2223] at V2221; exact V2221
    have A2224 := A2191.other W2218 ne1989
    have E2225 := Exa.wr W2218 E2192
    have F2226 := F2193.other W2218 (Or.inl ne1990)
    have F2227 := F2194.other W2218 (Or.inl ne1990)
    have Z2228 : n0 ≤ h2215.size := by rw [W2218.size]; exact Z2195
    have O2229 := O2196.wr W2218 nw1991
    have K2230 := K2197.wr W2218 (Or.inr hk1992)
    have hz2231 : h0.size ≤ h2215.size := by rw [W2218.size]; exact hz2198
    refine Way.by st2219 ?_
    show Way _ _ _ _ (T2214.setTop (mkF m 464 #[rv pa, iv 14] [(.ref a1986), (.ref a1966), (.ref a1966)]))
    try clear X2183 e2184 N2187 V2189 A2191 E2192 F2193 F2194 Z2195 O2196 K2197 hz2198 V2206 c2207 A2208 q2209 S2210 M2211 H2212 U2213 W2218 st2219 V2221
    try clear T2181 h2182
    refine Way.by (fun _ k => XS.dup X2216.here hx rfl (hb hby dMK_464) rfl rfl k) ?_
    show Way _ _ _ _ (T2214.setTop (mkF m 465 #[rv pa, iv 14] [(.ref a1986), (.ref a1986), (.ref a1966), (.ref a1966)]))
    refine Way.by (fun _ k => XS.bipush X2216.here hx rfl (hb hby dMK_465) k) ?_
    show Way _ _ _ _ (T2214.setTop (mkF m 467 #[rv pa, iv 14] [(.int 7), (.ref a1986), (.ref a1986), (.ref a1966), (.ref a1966)]))
    refine Way.by (fun _ k => XS.aloadN X2216.here hx rfl (hb hby dMK_467) rfl rfl k) ?_
    show Way _ _ _ _ (T2214.setTop (mkF m 468 #[rv pa, iv 14] [(.ref pa), (.int 7), (.ref a1986), (.ref a1986), (.ref a1966), (.ref a1966)]))
    refine Way.by (fun _ k => XS.bipush X2216.here hx rfl (hb hby dMK_468) k) ?_
    show Way _ _ _ _ (T2214.setTop (mkF m 470 #[rv pa, iv 14] [(.int 7), (.ref pa), (.int 7), (.ref a1986), (.ref a1986), (.ref a1966), (.ref a1966)]))
    obtain ⟨c2232, A2233, q2234, S2235, M2236, H2237, U2238⟩ := id A2224
    refine Way.by (fun t k => Stand.caload X2216 hx (hpE e2217 A2233.1) (arrS hZ A2233) A2233.2.2 (inb_of S2235 ⟨(by decide), (by decide)⟩) (Has.at H2237 (inb_of S2235 ⟨(by decide), (by decide)⟩) rfl) (g := (mkF m 470 #[rv pa, iv 14] [(.int 7), (.ref pa), (.int 7), (.ref a1986), (.ref a1986), (.ref a1966), (.ref a1966)])) rfl rfl (hb hby dMK_470) t k) ?_
    show Way _ _ _ _ (T2214.setTop (mkF m 471 #[rv pa, iv 14] [(.int x7), (.int 7), (.ref a1986), (.ref a1986), (.ref a1966), (.ref a1966)]))
    have V2239 : Arv Z h2215 a1986 kc1980 .char (14 : Int32) [(.int x0), (.int x1), (.int x2), (.int x3), (.int x4), (.int x5), (.int x6), (.int 0)] (.int 0) := V2222.pad (pad_rep [(.int x0), (.int x1), (.int x2), (.int x3), (.int x4), (.int x5), (.int x6)] (.int 0) 1)
    obtain ⟨c2240, A2241, q2242, S2243, M2244, H2245, U2246⟩ := id V2239
    obtain ⟨T2247, h2248, X2249, e2250, W2251, st2252⟩ := stC X2216 hx hZ e2217 A2241 (j := (7 : Int32)) (inb_of S2243 ⟨(by decide), (by decide)⟩) (g := (mkF m 471 #[rv pa, iv 14] [(.int x7), (.int 7), (.ref a1986), (.ref a1986), (.ref a1966), (.ref a1966)])) rfl rfl (hb hby dMK_471)
    have N2253 := Fr.snoc X2249 N2220 nw1991
    have V2254 : Arv Z h2248 a1986 kc1980 .char (14 : Int32) [(.int x0), (.int x1), (.int x2), (.int x3), (.int x4), (.int x5), (.int x6), (.int (nar .char x7))] (.int 0) := Arv.set A2241 q2242 S2243 M2244 H2245 U2246 (fits_nar_char _) W2251 7 rfl (leB rfl)
    have nq2256 : nar .char x7 = x7 := own_b.nar hb7
    have V2255 : Arv Z h2248 a1986 kc1980 .char (14 : Int32) [(.int x0), (.int x1), (.int x2), (.int x3), (.int x4), (.int x5), (.int x6), (.int x7)] (.int 0) := by rw [nq2256] at V2254; exact V2254
    have A2257 := A2224.other W2251 ne1989
    have E2258 := Exa.wr W2251 E2225
    have F2259 := F2226.other W2251 (Or.inl ne1990)
    have F2260 := F2227.other W2251 (Or.inl ne1990)
    have Z2261 : n0 ≤ h2248.size := by rw [W2251.size]; exact Z2228
    have O2262 := O2229.wr W2251 nw1991
    have K2263 := K2230.wr W2251 (Or.inr hk1992)
    have hz2264 : h0.size ≤ h2248.size := by rw [W2251.size]; exact hz2231
    refine Way.by st2252 ?_
    show Way _ _ _ _ (T2247.setTop (mkF m 472 #[rv pa, iv 14] [(.ref a1986), (.ref a1966), (.ref a1966)]))
    try clear X2216 e2217 N2220 V2222 A2224 E2225 F2226 F2227 Z2228 O2229 K2230 hz2231 V2239 c2240 A2241 q2242 S2243 M2244 H2245 U2246 W2251 st2252 V2254
    try clear T2214 h2215
    refine Way.by (fun _ k => XS.dup X2249.here hx rfl (hb hby dMK_472) rfl rfl k) ?_
    show Way _ _ _ _ (T2247.setTop (mkF m 473 #[rv pa, iv 14] [(.ref a1986), (.ref a1986), (.ref a1966), (.ref a1966)]))
    refine Way.by (fun _ k => XS.bipush X2249.here hx rfl (hb hby dMK_473) k) ?_
    show Way _ _ _ _ (T2247.setTop (mkF m 475 #[rv pa, iv 14] [(.int 8), (.ref a1986), (.ref a1986), (.ref a1966), (.ref a1966)]))
    refine Way.by (fun _ k => XS.aloadN X2249.here hx rfl (hb hby dMK_475) rfl rfl k) ?_
    show Way _ _ _ _ (T2247.setTop (mkF m 476 #[rv pa, iv 14] [(.ref pa), (.int 8), (.ref a1986), (.ref a1986), (.ref a1966), (.ref a1966)]))
    refine Way.by (fun _ k => XS.bipush X2249.here hx rfl (hb hby dMK_476) k) ?_
    show Way _ _ _ _ (T2247.setTop (mkF m 478 #[rv pa, iv 14] [(.int 8), (.ref pa), (.int 8), (.ref a1986), (.ref a1986), (.ref a1966), (.ref a1966)]))
    obtain ⟨c2265, A2266, q2267, S2268, M2269, H2270, U2271⟩ := id A2257
    refine Way.by (fun t k => Stand.caload X2249 hx (hpE e2250 A2266.1) (arrS hZ A2266) A2266.2.2 (inb_of S2268 ⟨(by decide), (by decide)⟩) (Has.at H2270 (inb_of S2268 ⟨(by decide), (by decide)⟩) rfl) (g := (mkF m 478 #[rv pa, iv 14] [(.int 8), (.ref pa), (.int 8), (.ref a1986), (.ref a1986), (.ref a1966), (.ref a1966)])) rfl rfl (hb hby dMK_478) t k) ?_
    show Way _ _ _ _ (T2247.setTop (mkF m 479 #[rv pa, iv 14] [(.int x8), (.int 8), (.ref a1986), (.ref a1986), (.ref a1966), (.ref a1966)]))
    have V2272 : Arv Z h2248 a1986 kc1980 .char (14 : Int32) [(.int x0), (.int x1), (.int x2), (.int x3), (.int x4), (.int x5), (.int x6), (.int x7), (.int 0)] (.int 0) := V2255.pad (pad_rep [(.int x0), (.int x1), (.int x2), (.int x3), (.int x4), (.int x5), (.int x6), (.int x7)] (.int 0) 1)
    obtain ⟨c2273, A2274, q2275, S2276, M2277, H2278, U2279⟩ := id V2272
    obtain ⟨T2280, h2281, X2282, e2283, W2284, st2285⟩ := stC X2249 hx hZ e2250 A2274 (j := (8 : Int32)) (inb_of S2276 ⟨(by decide), (by decide)⟩) (g := (mkF m 479 #[rv pa, iv 14] [(.int x8), (.int 8), (.ref a1986), (.ref a1986), (.ref a1966), (.ref a1966)])) rfl rfl (hb hby dMK_479)
    have N2286 := Fr.snoc X2282 N2253 nw1991
    have V2287 : Arv Z h2281 a1986 kc1980 .char (14 : Int32) [(.int x0), (.int x1), (.int x2), (.int x3), (.int x4), (.int x5), (.int x6), (.int x7), (.int (nar .char x8))] (.int 0) := Arv.set A2274 q2275 S2276 M2277 H2278 U2279 (fits_nar_char _) W2284 8 rfl (leB rfl)
    have nq2289 : nar .char x8 = x8 := own_b.nar hb8
    have V2288 : Arv Z h2281 a1986 kc1980 .char (14 : Int32) [(.int x0), (.int x1), (.int x2), (.int x3), (.int x4), (.int x5), (.int x6), (.int x7), (.int x8)] (.int 0) := by rw [nq2289] at V2287; exact V2287
    have A2290 := A2257.other W2284 ne1989
    have E2291 := Exa.wr W2284 E2258
    have F2292 := F2259.other W2284 (Or.inl ne1990)
    have F2293 := F2260.other W2284 (Or.inl ne1990)
    have Z2294 : n0 ≤ h2281.size := by rw [W2284.size]; exact Z2261
    have O2295 := O2262.wr W2284 nw1991
    have K2296 := K2263.wr W2284 (Or.inr hk1992)
    have hz2297 : h0.size ≤ h2281.size := by rw [W2284.size]; exact hz2264
    refine Way.by st2285 ?_
    show Way _ _ _ _ (T2280.setTop (mkF m 480 #[rv pa, iv 14] [(.ref a1986), (.ref a1966), (.ref a1966)]))
    try clear X2249 e2250 N2253 V2255 A2257 E2258 F2259 F2260 Z2261 O2262 K2263 hz2264 V2272 c2273 A2274 q2275 S2276 M2277 H2278 U2279 W2284 st2285 V2287
    try clear T2247 h2248
    refine Way.by (fun _ k => XS.dup X2282.here hx rfl (hb hby dMK_480) rfl rfl k) ?_
    show Way _ _ _ _ (T2280.setTop (mkF m 481 #[rv pa, iv 14] [(.ref a1986), (.ref a1986), (.ref a1966), (.ref a1966)]))
    refine Way.by (fun _ k => XS.bipush X2282.here hx rfl (hb hby dMK_481) k) ?_
    show Way _ _ _ _ (T2280.setTop (mkF m 483 #[rv pa, iv 14] [(.int 9), (.ref a1986), (.ref a1986), (.ref a1966), (.ref a1966)]))
    refine Way.by (fun _ k => XS.aloadN X2282.here hx rfl (hb hby dMK_483) rfl rfl k) ?_
    show Way _ _ _ _ (T2280.setTop (mkF m 484 #[rv pa, iv 14] [(.ref pa), (.int 9), (.ref a1986), (.ref a1986), (.ref a1966), (.ref a1966)]))
    refine Way.by (fun _ k => XS.bipush X2282.here hx rfl (hb hby dMK_484) k) ?_
    show Way _ _ _ _ (T2280.setTop (mkF m 486 #[rv pa, iv 14] [(.int 9), (.ref pa), (.int 9), (.ref a1986), (.ref a1986), (.ref a1966), (.ref a1966)]))
    obtain ⟨c2298, A2299, q2300, S2301, M2302, H2303, U2304⟩ := id A2290
    refine Way.by (fun t k => Stand.caload X2282 hx (hpE e2283 A2299.1) (arrS hZ A2299) A2299.2.2 (inb_of S2301 ⟨(by decide), (by decide)⟩) (Has.at H2303 (inb_of S2301 ⟨(by decide), (by decide)⟩) rfl) (g := (mkF m 486 #[rv pa, iv 14] [(.int 9), (.ref pa), (.int 9), (.ref a1986), (.ref a1986), (.ref a1966), (.ref a1966)])) rfl rfl (hb hby dMK_486) t k) ?_
    show Way _ _ _ _ (T2280.setTop (mkF m 487 #[rv pa, iv 14] [(.int x9), (.int 9), (.ref a1986), (.ref a1986), (.ref a1966), (.ref a1966)]))
    have V2305 : Arv Z h2281 a1986 kc1980 .char (14 : Int32) [(.int x0), (.int x1), (.int x2), (.int x3), (.int x4), (.int x5), (.int x6), (.int x7), (.int x8), (.int 0)] (.int 0) := V2288.pad (pad_rep [(.int x0), (.int x1), (.int x2), (.int x3), (.int x4), (.int x5), (.int x6), (.int x7), (.int x8)] (.int 0) 1)
    obtain ⟨c2306, A2307, q2308, S2309, M2310, H2311, U2312⟩ := id V2305
    obtain ⟨T2313, h2314, X2315, e2316, W2317, st2318⟩ := stC X2282 hx hZ e2283 A2307 (j := (9 : Int32)) (inb_of S2309 ⟨(by decide), (by decide)⟩) (g := (mkF m 487 #[rv pa, iv 14] [(.int x9), (.int 9), (.ref a1986), (.ref a1986), (.ref a1966), (.ref a1966)])) rfl rfl (hb hby dMK_487)
    have N2319 := Fr.snoc X2315 N2286 nw1991
    have V2320 : Arv Z h2314 a1986 kc1980 .char (14 : Int32) [(.int x0), (.int x1), (.int x2), (.int x3), (.int x4), (.int x5), (.int x6), (.int x7), (.int x8), (.int (nar .char x9))] (.int 0) := Arv.set A2307 q2308 S2309 M2310 H2311 U2312 (fits_nar_char _) W2317 9 rfl (leB rfl)
    have nq2322 : nar .char x9 = x9 := own_b.nar hb9
    have V2321 : Arv Z h2314 a1986 kc1980 .char (14 : Int32) [(.int x0), (.int x1), (.int x2), (.int x3), (.int x4), (.int x5), (.int x6), (.int x7), (.int x8), (.int x9)] (.int 0) := by rw [nq2322] at V2320; exact V2320
    have A2323 := A2290.other W2317 ne1989
    have E2324 := Exa.wr W2317 E2291
    have F2325 := F2292.other W2317 (Or.inl ne1990)
    have F2326 := F2293.other W2317 (Or.inl ne1990)
    have Z2327 : n0 ≤ h2314.size := by rw [W2317.size]; exact Z2294
    have O2328 := O2295.wr W2317 nw1991
    have K2329 := K2296.wr W2317 (Or.inr hk1992)
    have hz2330 : h0.size ≤ h2314.size := by rw [W2317.size]; exact hz2297
    refine Way.by st2318 ?_
    show Way _ _ _ _ (T2313.setTop (mkF m 488 #[rv pa, iv 14] [(.ref a1986), (.ref a1966), (.ref a1966)]))
    try clear X2282 e2283 N2286 V2288 A2290 E2291 F2292 F2293 Z2294 O2295 K2296 hz2297 V2305 c2306 A2307 q2308 S2309 M2310 H2311 U2312 W2317 st2318 V2320
    try clear T2280 h2281
    refine Way.by (fun _ k => XS.dup X2315.here hx rfl (hb hby dMK_488) rfl rfl k) ?_
    show Way _ _ _ _ (T2313.setTop (mkF m 489 #[rv pa, iv 14] [(.ref a1986), (.ref a1986), (.ref a1966), (.ref a1966)]))
    refine Way.by (fun _ k => XS.bipush X2315.here hx rfl (hb hby dMK_489) k) ?_
    show Way _ _ _ _ (T2313.setTop (mkF m 491 #[rv pa, iv 14] [(.int 10), (.ref a1986), (.ref a1986), (.ref a1966), (.ref a1966)]))
    refine Way.by (fun _ k => XS.aloadN X2315.here hx rfl (hb hby dMK_491) rfl rfl k) ?_
    show Way _ _ _ _ (T2313.setTop (mkF m 492 #[rv pa, iv 14] [(.ref pa), (.int 10), (.ref a1986), (.ref a1986), (.ref a1966), (.ref a1966)]))
    refine Way.by (fun _ k => XS.bipush X2315.here hx rfl (hb hby dMK_492) k) ?_
    show Way _ _ _ _ (T2313.setTop (mkF m 494 #[rv pa, iv 14] [(.int 10), (.ref pa), (.int 10), (.ref a1986), (.ref a1986), (.ref a1966), (.ref a1966)]))
    obtain ⟨c2331, A2332, q2333, S2334, M2335, H2336, U2337⟩ := id A2323
    refine Way.by (fun t k => Stand.caload X2315 hx (hpE e2316 A2332.1) (arrS hZ A2332) A2332.2.2 (inb_of S2334 ⟨(by decide), (by decide)⟩) (Has.at H2336 (inb_of S2334 ⟨(by decide), (by decide)⟩) rfl) (g := (mkF m 494 #[rv pa, iv 14] [(.int 10), (.ref pa), (.int 10), (.ref a1986), (.ref a1986), (.ref a1966), (.ref a1966)])) rfl rfl (hb hby dMK_494) t k) ?_
    show Way _ _ _ _ (T2313.setTop (mkF m 495 #[rv pa, iv 14] [(.int x10), (.int 10), (.ref a1986), (.ref a1986), (.ref a1966), (.ref a1966)]))
    have V2338 : Arv Z h2314 a1986 kc1980 .char (14 : Int32) [(.int x0), (.int x1), (.int x2), (.int x3), (.int x4), (.int x5), (.int x6), (.int x7), (.int x8), (.int x9), (.int 0)] (.int 0) := V2321.pad (pad_rep [(.int x0), (.int x1), (.int x2), (.int x3), (.int x4), (.int x5), (.int x6), (.int x7), (.int x8), (.int x9)] (.int 0) 1)
    obtain ⟨c2339, A2340, q2341, S2342, M2343, H2344, U2345⟩ := id V2338
    obtain ⟨T2346, h2347, X2348, e2349, W2350, st2351⟩ := stC X2315 hx hZ e2316 A2340 (j := (10 : Int32)) (inb_of S2342 ⟨(by decide), (by decide)⟩) (g := (mkF m 495 #[rv pa, iv 14] [(.int x10), (.int 10), (.ref a1986), (.ref a1986), (.ref a1966), (.ref a1966)])) rfl rfl (hb hby dMK_495)
    have N2352 := Fr.snoc X2348 N2319 nw1991
    have V2353 : Arv Z h2347 a1986 kc1980 .char (14 : Int32) [(.int x0), (.int x1), (.int x2), (.int x3), (.int x4), (.int x5), (.int x6), (.int x7), (.int x8), (.int x9), (.int (nar .char x10))] (.int 0) := Arv.set A2340 q2341 S2342 M2343 H2344 U2345 (fits_nar_char _) W2350 10 rfl (leB rfl)
    have nq2355 : nar .char x10 = x10 := own_b.nar hb10
    have V2354 : Arv Z h2347 a1986 kc1980 .char (14 : Int32) [(.int x0), (.int x1), (.int x2), (.int x3), (.int x4), (.int x5), (.int x6), (.int x7), (.int x8), (.int x9), (.int x10)] (.int 0) := by rw [nq2355] at V2353; exact V2353
    have A2356 := A2323.other W2350 ne1989
    have E2357 := Exa.wr W2350 E2324
    have F2358 := F2325.other W2350 (Or.inl ne1990)
    have F2359 := F2326.other W2350 (Or.inl ne1990)
    have Z2360 : n0 ≤ h2347.size := by rw [W2350.size]; exact Z2327
    have O2361 := O2328.wr W2350 nw1991
    have K2362 := K2329.wr W2350 (Or.inr hk1992)
    have hz2363 : h0.size ≤ h2347.size := by rw [W2350.size]; exact hz2330
    refine Way.by st2351 ?_
    show Way _ _ _ _ (T2346.setTop (mkF m 496 #[rv pa, iv 14] [(.ref a1986), (.ref a1966), (.ref a1966)]))
    try clear X2315 e2316 N2319 V2321 A2323 E2324 F2325 F2326 Z2327 O2328 K2329 hz2330 V2338 c2339 A2340 q2341 S2342 M2343 H2344 U2345 W2350 st2351 V2353
    try clear T2313 h2314
    refine Way.by (fun _ k => XS.dup X2348.here hx rfl (hb hby dMK_496) rfl rfl k) ?_
    show Way _ _ _ _ (T2346.setTop (mkF m 497 #[rv pa, iv 14] [(.ref a1986), (.ref a1986), (.ref a1966), (.ref a1966)]))
    refine Way.by (fun _ k => XS.bipush X2348.here hx rfl (hb hby dMK_497) k) ?_
    show Way _ _ _ _ (T2346.setTop (mkF m 499 #[rv pa, iv 14] [(.int 11), (.ref a1986), (.ref a1986), (.ref a1966), (.ref a1966)]))
    refine Way.by (fun _ k => XS.aloadN X2348.here hx rfl (hb hby dMK_499) rfl rfl k) ?_
    show Way _ _ _ _ (T2346.setTop (mkF m 500 #[rv pa, iv 14] [(.ref pa), (.int 11), (.ref a1986), (.ref a1986), (.ref a1966), (.ref a1966)]))
    refine Way.by (fun _ k => XS.bipush X2348.here hx rfl (hb hby dMK_500) k) ?_
    show Way _ _ _ _ (T2346.setTop (mkF m 502 #[rv pa, iv 14] [(.int 11), (.ref pa), (.int 11), (.ref a1986), (.ref a1986), (.ref a1966), (.ref a1966)]))
    obtain ⟨c2364, A2365, q2366, S2367, M2368, H2369, U2370⟩ := id A2356
    refine Way.by (fun t k => Stand.caload X2348 hx (hpE e2349 A2365.1) (arrS hZ A2365) A2365.2.2 (inb_of S2367 ⟨(by decide), (by decide)⟩) (Has.at H2369 (inb_of S2367 ⟨(by decide), (by decide)⟩) rfl) (g := (mkF m 502 #[rv pa, iv 14] [(.int 11), (.ref pa), (.int 11), (.ref a1986), (.ref a1986), (.ref a1966), (.ref a1966)])) rfl rfl (hb hby dMK_502) t k) ?_
    show Way _ _ _ _ (T2346.setTop (mkF m 503 #[rv pa, iv 14] [(.int x11), (.int 11), (.ref a1986), (.ref a1986), (.ref a1966), (.ref a1966)]))
    have V2371 : Arv Z h2347 a1986 kc1980 .char (14 : Int32) [(.int x0), (.int x1), (.int x2), (.int x3), (.int x4), (.int x5), (.int x6), (.int x7), (.int x8), (.int x9), (.int x10), (.int 0)] (.int 0) := V2354.pad (pad_rep [(.int x0), (.int x1), (.int x2), (.int x3), (.int x4), (.int x5), (.int x6), (.int x7), (.int x8), (.int x9), (.int x10)] (.int 0) 1)
    obtain ⟨c2372, A2373, q2374, S2375, M2376, H2377, U2378⟩ := id V2371
    obtain ⟨T2379, h2380, X2381, e2382, W2383, st2384⟩ := stC X2348 hx hZ e2349 A2373 (j := (11 : Int32)) (inb_of S2375 ⟨(by decide), (by decide)⟩) (g := (mkF m 503 #[rv pa, iv 14] [(.int x11), (.int 11), (.ref a1986), (.ref a1986), (.ref a1966), (.ref a1966)])) rfl rfl (hb hby dMK_503)
    have N2385 := Fr.snoc X2381 N2352 nw1991
    have V2386 : Arv Z h2380 a1986 kc1980 .char (14 : Int32) [(.int x0), (.int x1), (.int x2), (.int x3), (.int x4), (.int x5), (.int x6), (.int x7), (.int x8), (.int x9), (.int x10), (.int (nar .char x11))] (.int 0) := Arv.set A2373 q2374 S2375 M2376 H2377 U2378 (fits_nar_char _) W2383 11 rfl (leB rfl)
    have nq2388 : nar .char x11 = x11 := own_b.nar hb11
    have V2387 : Arv Z h2380 a1986 kc1980 .char (14 : Int32) [(.int x0), (.int x1), (.int x2), (.int x3), (.int x4), (.int x5), (.int x6), (.int x7), (.int x8), (.int x9), (.int x10), (.int x11)] (.int 0) := by rw [nq2388] at V2386; exact V2386
    have A2389 := A2356.other W2383 ne1989
    have E2390 := Exa.wr W2383 E2357
    have F2391 := F2358.other W2383 (Or.inl ne1990)
    have F2392 := F2359.other W2383 (Or.inl ne1990)
    have Z2393 : n0 ≤ h2380.size := by rw [W2383.size]; exact Z2360
    have O2394 := O2361.wr W2383 nw1991
    have K2395 := K2362.wr W2383 (Or.inr hk1992)
    have hz2396 : h0.size ≤ h2380.size := by rw [W2383.size]; exact hz2363
    refine Way.by st2384 ?_
    show Way _ _ _ _ (T2379.setTop (mkF m 504 #[rv pa, iv 14] [(.ref a1986), (.ref a1966), (.ref a1966)]))
    try clear X2348 e2349 N2352 V2354 A2356 E2357 F2358 F2359 Z2360 O2361 K2362 hz2363 V2371 c2372 A2373 q2374 S2375 M2376 H2377 U2378 W2383 st2384 V2386
    try clear T2346 h2347
    refine Way.by (fun _ k => XS.dup X2381.here hx rfl (hb hby dMK_504) rfl rfl k) ?_
    show Way _ _ _ _ (T2379.setTop (mkF m 505 #[rv pa, iv 14] [(.ref a1986), (.ref a1986), (.ref a1966), (.ref a1966)]))
    refine Way.by (fun _ k => XS.bipush X2381.here hx rfl (hb hby dMK_505) k) ?_
    show Way _ _ _ _ (T2379.setTop (mkF m 507 #[rv pa, iv 14] [(.int 12), (.ref a1986), (.ref a1986), (.ref a1966), (.ref a1966)]))
    refine Way.by (fun _ k => XS.aloadN X2381.here hx rfl (hb hby dMK_507) rfl rfl k) ?_
    show Way _ _ _ _ (T2379.setTop (mkF m 508 #[rv pa, iv 14] [(.ref pa), (.int 12), (.ref a1986), (.ref a1986), (.ref a1966), (.ref a1966)]))
    refine Way.by (fun _ k => XS.bipush X2381.here hx rfl (hb hby dMK_508) k) ?_
    show Way _ _ _ _ (T2379.setTop (mkF m 510 #[rv pa, iv 14] [(.int 12), (.ref pa), (.int 12), (.ref a1986), (.ref a1986), (.ref a1966), (.ref a1966)]))
    obtain ⟨c2397, A2398, q2399, S2400, M2401, H2402, U2403⟩ := id A2389
    refine Way.by (fun t k => Stand.caload X2381 hx (hpE e2382 A2398.1) (arrS hZ A2398) A2398.2.2 (inb_of S2400 ⟨(by decide), (by decide)⟩) (Has.at H2402 (inb_of S2400 ⟨(by decide), (by decide)⟩) rfl) (g := (mkF m 510 #[rv pa, iv 14] [(.int 12), (.ref pa), (.int 12), (.ref a1986), (.ref a1986), (.ref a1966), (.ref a1966)])) rfl rfl (hb hby dMK_510) t k) ?_
    show Way _ _ _ _ (T2379.setTop (mkF m 511 #[rv pa, iv 14] [(.int x12), (.int 12), (.ref a1986), (.ref a1986), (.ref a1966), (.ref a1966)]))
    have V2404 : Arv Z h2380 a1986 kc1980 .char (14 : Int32) [(.int x0), (.int x1), (.int x2), (.int x3), (.int x4), (.int x5), (.int x6), (.int x7), (.int x8), (.int x9), (.int x10), (.int x11), (.int 0)] (.int 0) := V2387.pad (pad_rep [(.int x0), (.int x1), (.int x2), (.int x3), (.int x4), (.int x5), (.int x6), (.int x7), (.int x8), (.int x9), (.int x10), (.int x11)] (.int 0) 1)
    obtain ⟨c2405, A2406, q2407, S2408, M2409, H2410, U2411⟩ := id V2404
    obtain ⟨T2412, h2413, X2414, e2415, W2416, st2417⟩ := stC X2381 hx hZ e2382 A2406 (j := (12 : Int32)) (inb_of S2408 ⟨(by decide), (by decide)⟩) (g := (mkF m 511 #[rv pa, iv 14] [(.int x12), (.int 12), (.ref a1986), (.ref a1986), (.ref a1966), (.ref a1966)])) rfl rfl (hb hby dMK_511)
    have N2418 := Fr.snoc X2414 N2385 nw1991
    have V2419 : Arv Z h2413 a1986 kc1980 .char (14 : Int32) [(.int x0), (.int x1), (.int x2), (.int x3), (.int x4), (.int x5), (.int x6), (.int x7), (.int x8), (.int x9), (.int x10), (.int x11), (.int (nar .char x12))] (.int 0) := Arv.set A2406 q2407 S2408 M2409 H2410 U2411 (fits_nar_char _) W2416 12 rfl (leB rfl)
    have nq2421 : nar .char x12 = x12 := own_b.nar hb12
    have V2420 : Arv Z h2413 a1986 kc1980 .char (14 : Int32) [(.int x0), (.int x1), (.int x2), (.int x3), (.int x4), (.int x5), (.int x6), (.int x7), (.int x8), (.int x9), (.int x10), (.int x11), (.int x12)] (.int 0) := by rw [nq2421] at V2419; exact V2419
    have A2422 := A2389.other W2416 ne1989
    have E2423 := Exa.wr W2416 E2390
    have F2424 := F2391.other W2416 (Or.inl ne1990)
    have F2425 := F2392.other W2416 (Or.inl ne1990)
    have Z2426 : n0 ≤ h2413.size := by rw [W2416.size]; exact Z2393
    have O2427 := O2394.wr W2416 nw1991
    have K2428 := K2395.wr W2416 (Or.inr hk1992)
    have hz2429 : h0.size ≤ h2413.size := by rw [W2416.size]; exact hz2396
    refine Way.by st2417 ?_
    show Way _ _ _ _ (T2412.setTop (mkF m 512 #[rv pa, iv 14] [(.ref a1986), (.ref a1966), (.ref a1966)]))
    try clear X2381 e2382 N2385 V2387 A2389 E2390 F2391 F2392 Z2393 O2394 K2395 hz2396 V2404 c2405 A2406 q2407 S2408 M2409 H2410 U2411 W2416 st2417 V2419
    try clear T2379 h2380
    refine Way.by (fun _ k => XS.dup X2414.here hx rfl (hb hby dMK_512) rfl rfl k) ?_
    show Way _ _ _ _ (T2412.setTop (mkF m 513 #[rv pa, iv 14] [(.ref a1986), (.ref a1986), (.ref a1966), (.ref a1966)]))
    refine Way.by (fun _ k => XS.bipush X2414.here hx rfl (hb hby dMK_513) k) ?_
    show Way _ _ _ _ (T2412.setTop (mkF m 515 #[rv pa, iv 14] [(.int 13), (.ref a1986), (.ref a1986), (.ref a1966), (.ref a1966)]))
    refine Way.by (fun _ k => XS.aloadN X2414.here hx rfl (hb hby dMK_515) rfl rfl k) ?_
    show Way _ _ _ _ (T2412.setTop (mkF m 516 #[rv pa, iv 14] [(.ref pa), (.int 13), (.ref a1986), (.ref a1986), (.ref a1966), (.ref a1966)]))
    refine Way.by (fun _ k => XS.bipush X2414.here hx rfl (hb hby dMK_516) k) ?_
    show Way _ _ _ _ (T2412.setTop (mkF m 518 #[rv pa, iv 14] [(.int 13), (.ref pa), (.int 13), (.ref a1986), (.ref a1986), (.ref a1966), (.ref a1966)]))
    obtain ⟨c2430, A2431, q2432, S2433, M2434, H2435, U2436⟩ := id A2422
    refine Way.by (fun t k => Stand.caload X2414 hx (hpE e2415 A2431.1) (arrS hZ A2431) A2431.2.2 (inb_of S2433 ⟨(by decide), (by decide)⟩) (Has.at H2435 (inb_of S2433 ⟨(by decide), (by decide)⟩) rfl) (g := (mkF m 518 #[rv pa, iv 14] [(.int 13), (.ref pa), (.int 13), (.ref a1986), (.ref a1986), (.ref a1966), (.ref a1966)])) rfl rfl (hb hby dMK_518) t k) ?_
    show Way _ _ _ _ (T2412.setTop (mkF m 519 #[rv pa, iv 14] [(.int x13), (.int 13), (.ref a1986), (.ref a1986), (.ref a1966), (.ref a1966)]))
    have V2437 : Arv Z h2413 a1986 kc1980 .char (14 : Int32) [(.int x0), (.int x1), (.int x2), (.int x3), (.int x4), (.int x5), (.int x6), (.int x7), (.int x8), (.int x9), (.int x10), (.int x11), (.int x12), (.int 0)] (.int 0) := V2420.pad (pad_rep [(.int x0), (.int x1), (.int x2), (.int x3), (.int x4), (.int x5), (.int x6), (.int x7), (.int x8), (.int x9), (.int x10), (.int x11), (.int x12)] (.int 0) 1)
    obtain ⟨c2438, A2439, q2440, S2441, M2442, H2443, U2444⟩ := id V2437
    obtain ⟨T2445, h2446, X2447, e2448, W2449, st2450⟩ := stC X2414 hx hZ e2415 A2439 (j := (13 : Int32)) (inb_of S2441 ⟨(by decide), (by decide)⟩) (g := (mkF m 519 #[rv pa, iv 14] [(.int x13), (.int 13), (.ref a1986), (.ref a1986), (.ref a1966), (.ref a1966)])) rfl rfl (hb hby dMK_519)
    have N2451 := Fr.snoc X2447 N2418 nw1991
    have V2452 : Arv Z h2446 a1986 kc1980 .char (14 : Int32) [(.int x0), (.int x1), (.int x2), (.int x3), (.int x4), (.int x5), (.int x6), (.int x7), (.int x8), (.int x9), (.int x10), (.int x11), (.int x12), (.int (nar .char x13))] (.int 0) := Arv.set A2439 q2440 S2441 M2442 H2443 U2444 (fits_nar_char _) W2449 13 rfl (leB rfl)
    have nq2454 : nar .char x13 = x13 := own_b.nar hb13
    have V2453 : Arv Z h2446 a1986 kc1980 .char (14 : Int32) [(.int x0), (.int x1), (.int x2), (.int x3), (.int x4), (.int x5), (.int x6), (.int x7), (.int x8), (.int x9), (.int x10), (.int x11), (.int x12), (.int x13)] (.int 0) := by rw [nq2454] at V2452; exact V2452
    have A2455 := A2422.other W2449 ne1989
    have E2456 := Exa.wr W2449 E2423
    have F2457 := F2424.other W2449 (Or.inl ne1990)
    have F2458 := F2425.other W2449 (Or.inl ne1990)
    have Z2459 : n0 ≤ h2446.size := by rw [W2449.size]; exact Z2426
    have O2460 := O2427.wr W2449 nw1991
    have K2461 := K2428.wr W2449 (Or.inr hk1992)
    have hz2462 : h0.size ≤ h2446.size := by rw [W2449.size]; exact hz2429
    refine Way.by st2450 ?_
    show Way _ _ _ _ (T2445.setTop (mkF m 520 #[rv pa, iv 14] [(.ref a1986), (.ref a1966), (.ref a1966)]))
    try clear X2414 e2415 N2418 V2420 A2422 E2423 F2424 F2425 Z2426 O2427 K2428 hz2429 V2437 c2438 A2439 q2440 S2441 M2442 H2443 U2444 W2449 st2450 V2452
    try clear T2412 h2413
    have hp2463 : ∀ c ∈ ([x0, x1, x2, x3, x4, x5, x6, x7, x8, x9, x10, x11, x12, x13] : List Int32), ¬ c < 0 ∧ ¬ (255 : Int32) < c := by intro c hc; simp only [List.mem_cons, List.not_mem_nil, or_false] at hc; rcases hc with rfl | rfl | rfl | rfl | rfl | rfl | rfl | rfl | rfl | rfl | rfl | rfl | rfl | rfl <;> assumption
    obtain ⟨_, _, ⟨T2464, L2466, k2467, n2468⟩, -, X2465, ⟨Lc2469, hQ2470, l2471, y2472, z2473⟩, st2474⟩ := X2447.specialBack hx (y := (⟨"java/lang/String", "<init>", "([C)V"⟩ : MethodName)) rfl hown (mvT hZ (tw hw 56 rfl)) (mvT hZ (tw hw 57 rfl)) (mvT hZ (tw hw 58 rfl)) (by decide) (own_new (W := 1) (n0 := n0) hZ hw SV O2460 (cs := [x0, x1, x2, x3, x4, x5, x6, x7, x8, x9, x10, x11, x12, x13]) (n := 14) nw1969 Z2459 E2456 F2457 F2458 V2453 rfl rfl (by decide) (by decide) hp2463 (by decide) (by decide)) (g := (mkF m 520 #[rv pa, iv 14] [(.ref a1986), (.ref a1966), (.ref a1966)])) rfl (by rw [hml]; rfl) (Steps.refl _) (a := a1966) (argsL := [(.ref a1986)]) (rest := [(.ref a1966)]) (lenOf own_pdNew rfl) rfl (leW rfl) (hb hby dMK_520) (fun _ _ => ⟨rfl, e2448, (leB rfl), (leB rfl)⟩)
    dsimp only [Pt.U, Pt.locs, Pt.cells, Pt.slots] at X2465 l2471 y2472 z2473 st2474 hQ2470
    subst y2472 z2473
    obtain ⟨rfl, N2480, K2481, x_t2484, fr_t2483, F2482⟩ := hQ2470
    have N2475 : Fr n0 L2466 := by rw [l2471]; exact Fr.app N2451 N2480
    have ne2485 : pa ≠ x_t2484 := Nat.ne_of_lt (Nat.lt_of_lt_of_le A2455.lt fr_t2483)
    have ne2486 : a1966 ≠ x_t2484 := Nat.ne_of_lt (Nat.lt_of_lt_of_le E2456.lt fr_t2483)
    have ne2487 : a1986 ≠ x_t2484 := Nat.ne_of_lt (Nat.lt_of_lt_of_le V2453.lt fr_t2483)
    have nw2488 : n0 ≤ x_t2484 := Nat.le_trans Z2459 fr_t2483
    have hk2489 : h0.size ≤ x_t2484 := Nat.le_trans hz2462 fr_t2483
    have A2490 := A2455.keep K2481 (ninS ne1968 nin0)
    have E2491 := E2456.keep K2481
    have A2492 := V2453.keep K2481 (ninS ne1990.symm nin0)
    have Z2493 := Nat.le_trans Z2459 K2481.1
    have O2494 := O2460.keep K2481 (allS nw1969 all0)
    have K2495 := K2461.trans K2481 (allS (Or.inr hk1970) all0)
    have hz2496 := Nat.le_trans hz2462 K2481.1
    refine Way.to st2474 ?_
    show Way _ _ _ _ (T2464.setTop (mkF m 523 #[rv pa, iv 14] [(.ref a1966)]))
    try clear X2447 e2448 N2451 V2453 A2455 E2456 F2457 F2458 Z2459 O2460 K2461 hz2462 st2474 N2480 K2481
    try clear T2445 h2446
    refine Way.ret (v := (some (.ref a1966))) X2465 hlk (fun h => by rw [Bd.returns] at h; cases h) (fun fs hr => retOut X2465 hx Bd.returns rfl (Or.inr (Or.inr (Or.inr (Or.inr ⟨rfl, rfl, rfl⟩)))) (hb hby dMK_523) hr) ?_ (by decide) (by decide)
    show QMK Z pa ka _ x0 x1 x2 x3 x4 x5 x6 x7 x8 x9 x10 x11 x12 x13 x14 x15 h0 n0 _ T2464.heap _
    skip
    exact ⟨a1966, x_t2484, [x0, x1, x2, x3, x4, x5, x6, x7, x8, x9, x10, x11, x12, x13], rfl, N2475, K2495, hk1970, hk2489, F2482⟩
  · skip
    show Way _ _ _ _ (s₁.setTop (mkF m 0 #[rv pa, iv 15] []))
    refine Way.by (fun _ k => XS.iloadN X0.here hx rfl (hb hby dMK_0) rfl k) ?_
    show Way _ _ _ _ (s₁.setTop (mkF m 1 #[rv pa, iv 15] [(.int 15)]))
    refine Way.by (fun _ k => XS.bipush X0.here hx rfl (hb hby dMK_1) k) ?_
    show Way _ _ _ _ (s₁.setTop (mkF m 3 #[rv pa, iv 15] [(.int 7), (.int 15)]))
    have b2497 : ¬ (15 : Int32) = (7 : Int32) := by decide
    refine Way.by (fun _ k => XS.icmpYes X0.here hx rfl (pc0 := 3) (pc' := 62) rfl (hb hby dMK_3) rfl (feq b2497).2 (by decide) (by decide) k) ?_
    show Way _ _ _ _ (s₁.setTop (mkF m 62 #[rv pa, iv 15] []))
    refine Way.by (fun _ k => XS.iloadN X0.here hx rfl (hb hby dMK_62) rfl k) ?_
    show Way _ _ _ _ (s₁.setTop (mkF m 63 #[rv pa, iv 15] [(.int 15)]))
    refine Way.by (fun _ k => XS.bipush X0.here hx rfl (hb hby dMK_63) k) ?_
    show Way _ _ _ _ (s₁.setTop (mkF m 65 #[rv pa, iv 15] [(.int 8), (.int 15)]))
    have b2498 : ¬ (15 : Int32) = (8 : Int32) := by decide
    refine Way.by (fun _ k => XS.icmpYes X0.here hx rfl (pc0 := 65) (pc' := 132) rfl (hb hby dMK_65) rfl (feq b2498).2 (by decide) (by decide) k) ?_
    show Way _ _ _ _ (s₁.setTop (mkF m 132 #[rv pa, iv 15] []))
    refine Way.by (fun _ k => XS.iloadN X0.here hx rfl (hb hby dMK_132) rfl k) ?_
    show Way _ _ _ _ (s₁.setTop (mkF m 133 #[rv pa, iv 15] [(.int 15)]))
    refine Way.by (fun _ k => XS.bipush X0.here hx rfl (hb hby dMK_133) k) ?_
    show Way _ _ _ _ (s₁.setTop (mkF m 135 #[rv pa, iv 15] [(.int 9), (.int 15)]))
    have b2499 : ¬ (15 : Int32) = (9 : Int32) := by decide
    refine Way.by (fun _ k => XS.icmpYes X0.here hx rfl (pc0 := 135) (pc' := 210) rfl (hb hby dMK_135) rfl (feq b2499).2 (by decide) (by decide) k) ?_
    show Way _ _ _ _ (s₁.setTop (mkF m 210 #[rv pa, iv 15] []))
    refine Way.by (fun _ k => XS.iloadN X0.here hx rfl (hb hby dMK_210) rfl k) ?_
    show Way _ _ _ _ (s₁.setTop (mkF m 211 #[rv pa, iv 15] [(.int 15)]))
    refine Way.by (fun _ k => XS.bipush X0.here hx rfl (hb hby dMK_211) k) ?_
    show Way _ _ _ _ (s₁.setTop (mkF m 213 #[rv pa, iv 15] [(.int 10), (.int 15)]))
    have b2500 : ¬ (15 : Int32) = (10 : Int32) := by decide
    refine Way.by (fun _ k => XS.icmpYes X0.here hx rfl (pc0 := 213) (pc' := 296) rfl (hb hby dMK_213) rfl (feq b2500).2 (by decide) (by decide) k) ?_
    show Way _ _ _ _ (s₁.setTop (mkF m 296 #[rv pa, iv 15] []))
    refine Way.by (fun _ k => XS.iloadN X0.here hx rfl (hb hby dMK_296) rfl k) ?_
    show Way _ _ _ _ (s₁.setTop (mkF m 297 #[rv pa, iv 15] [(.int 15)]))
    refine Way.by (fun _ k => XS.bipush X0.here hx rfl (hb hby dMK_297) k) ?_
    show Way _ _ _ _ (s₁.setTop (mkF m 299 #[rv pa, iv 15] [(.int 13), (.int 15)]))
    have b2501 : ¬ (15 : Int32) = (13 : Int32) := by decide
    refine Way.by (fun _ k => XS.icmpYes X0.here hx rfl (pc0 := 299) (pc' := 406) rfl (hb hby dMK_299) rfl (feq b2501).2 (by decide) (by decide) k) ?_
    show Way _ _ _ _ (s₁.setTop (mkF m 406 #[rv pa, iv 15] []))
    refine Way.by (fun _ k => XS.iloadN X0.here hx rfl (hb hby dMK_406) rfl k) ?_
    show Way _ _ _ _ (s₁.setTop (mkF m 407 #[rv pa, iv 15] [(.int 15)]))
    refine Way.by (fun _ k => XS.bipush X0.here hx rfl (hb hby dMK_407) k) ?_
    show Way _ _ _ _ (s₁.setTop (mkF m 409 #[rv pa, iv 15] [(.int 14), (.int 15)]))
    have b2502 : ¬ (15 : Int32) = (14 : Int32) := by decide
    refine Way.by (fun _ k => XS.icmpYes X0.here hx rfl (pc0 := 409) (pc' := 524) rfl (hb hby dMK_409) rfl (feq b2502).2 (by decide) (by decide) k) ?_
    show Way _ _ _ _ (s₁.setTop (mkF m 524 #[rv pa, iv 15] []))
    refine Way.by (fun _ k => XS.iloadN X0.here hx rfl (hb hby dMK_524) rfl k) ?_
    show Way _ _ _ _ (s₁.setTop (mkF m 525 #[rv pa, iv 15] [(.int 15)]))
    refine Way.by (fun _ k => XS.bipush X0.here hx rfl (hb hby dMK_525) k) ?_
    show Way _ _ _ _ (s₁.setTop (mkF m 527 #[rv pa, iv 15] [(.int 15), (.int 15)]))
    have b2503 : (15 : Int32) = (15 : Int32) := by decide
    refine Way.by (fun _ k => XS.icmpNo X0.here hx rfl (hb hby dMK_527) rfl (teq b2503).2 k) ?_
    show Way _ _ _ _ (s₁.setTop (mkF m 530 #[rv pa, iv 15] []))
    obtain ⟨T2504, h2505, X2506, e2507, E2508, A2509, D2510, -, st2511⟩ := newO X0 hx hZ hown (tw hw 55 rfl) (tw hw 3 rfl) (tw hw 2 rfl) e0 (g := (mkF m 530 #[rv pa, iv 15] [])) rfl (hb hby dMK_530) (by decide) (by decide)
    obtain ⟨a2512, g2513⟩ : ∃ z, z = h0.size := ⟨_, rfl⟩
    rw [← g2513] at A2509 D2510 st2511
    have ne2514 : pa ≠ a2512 := Nat.ne_of_lt (Nat.lt_of_lt_of_eq H0.lt g2513.symm)
    have nw2515 : n0 ≤ a2512 := Nat.le_trans Z0 (Nat.le_of_eq g2513.symm)
    have hk2516 : h0.size ≤ a2512 := Nat.le_trans (Nat.le_refl h0.size) (Nat.le_of_eq g2513.symm)
    have A2517 := H0.ext E2508
    have Z2518 := Nat.le_trans Z0 E2508.1
    have O2519 := O0.ext E2508
    have K2520 := (Keep.refl h0 []).ext E2508
    have hz2521 := Nat.le_trans (Nat.le_refl h0.size) E2508.1
    have F2522 : Fld Z h2505 a2512 "java/lang/String" "value" "[B" .null := D2510 (Or.inr (tw hw 5 rfl)) (ty := (.array .byte)) (by decide)
    have F2523 : Fld Z h2505 a2512 "java/lang/String" "coder" "B" (.int 0) := D2510 (Or.inr (tw hw 6 rfl)) (ty := .byte) (by decide)
    refine Way.by st2511 ?_
    show Way _ _ _ _ (T2504.setTop (mkF m 533 #[rv pa, iv 15] [(.ref a2512)]))
    refine Way.by (fun _ k => XS.dup X2506.here hx rfl (hb hby dMK_533) rfl rfl k) ?_
    show Way _ _ _ _ (T2504.setTop (mkF m 534 #[rv pa, iv 15] [(.ref a2512), (.ref a2512)]))
    refine Way.by (fun _ k => XS.bipush X2506.here hx rfl (hb hby dMK_534) k) ?_
    show Way _ _ _ _ (T2504.setTop (mkF m 536 #[rv pa, iv 15] [(.int 15), (.ref a2512), (.ref a2512)]))
    obtain ⟨T2524, h2525, kc2526, X2527, e2528, E2529, A2530, st2531⟩ := newP X2506 hx hZ (tw hw 22 rfl) e2507 (g := (mkF m 536 #[rv pa, iv 15] [(.int 15), (.ref a2512), (.ref a2512)])) rfl (hb hby dMK_536) rfl (by decide) (cap := 15) (by decide) (by decide) (by decide) (by decide)
    obtain ⟨a2532, g2533⟩ : ∃ z, z = h2505.size := ⟨_, rfl⟩
    rw [← g2533] at A2530 st2531
    have ne2535 : pa ≠ a2532 := Nat.ne_of_lt (Nat.lt_of_lt_of_eq A2517.lt g2533.symm)
    have ne2536 : a2512 ≠ a2532 := Nat.ne_of_lt (Nat.lt_of_lt_of_eq A2509.lt g2533.symm)
    have nw2537 : n0 ≤ a2532 := Nat.le_trans Z2518 (Nat.le_of_eq g2533.symm)
    have hk2538 : h0.size ≤ a2532 := Nat.le_trans hz2521 (Nat.le_of_eq g2533.symm)
    have A2539 := A2517.ext E2529
    have E2540 := Exa.ext E2529 A2509
    have F2541 := Fld.ext E2529 F2522
    have F2542 := Fld.ext E2529 F2523
    have Z2543 := Nat.le_trans Z2518 E2529.1
    have O2544 := O2519.ext E2529
    have K2545 := K2520.ext E2529
    have hz2546 := Nat.le_trans hz2521 E2529.1
    have V2534 : Arv Z h2525 a2532 kc2526 .char (15 : Int32) [] (.int 0) := Arv.new A2530 (by decide)
    refine Way.by st2531 ?_
    show Way _ _ _ _ (T2524.setTop (mkF m 538 #[rv pa, iv 15] [(.ref a2532), (.ref a2512), (.ref a2512)]))
    try clear X2506 e2507 A2509 A2517 Z2518 O2519 K2520 hz2521 F2522 F2523 E2529 A2530 st2531
    try clear T2504 h2505
    refine Way.by (fun _ k => XS.dup X2527.here hx rfl (hb hby dMK_538) rfl rfl k) ?_
    show Way _ _ _ _ (T2524.setTop (mkF m 539 #[rv pa, iv 15] [(.ref a2532), (.ref a2532), (.ref a2512), (.ref a2512)]))
    refine Way.by (fun _ k => XS.iconst X2527.here hx rfl (hb hby dMK_539) k) ?_
    show Way _ _ _ _ (T2524.setTop (mkF m 540 #[rv pa, iv 15] [(.int 0), (.ref a2532), (.ref a2532), (.ref a2512), (.ref a2512)]))
    refine Way.by (fun _ k => XS.aloadN X2527.here hx rfl (hb hby dMK_540) rfl rfl k) ?_
    show Way _ _ _ _ (T2524.setTop (mkF m 541 #[rv pa, iv 15] [(.ref pa), (.int 0), (.ref a2532), (.ref a2532), (.ref a2512), (.ref a2512)]))
    refine Way.by (fun _ k => XS.iconst X2527.here hx rfl (hb hby dMK_541) k) ?_
    show Way _ _ _ _ (T2524.setTop (mkF m 542 #[rv pa, iv 15] [(.int 0), (.ref pa), (.int 0), (.ref a2532), (.ref a2532), (.ref a2512), (.ref a2512)]))
    obtain ⟨c2547, A2548, q2549, S2550, M2551, H2552, U2553⟩ := id A2539
    refine Way.by (fun t k => Stand.caload X2527 hx (hpE e2528 A2548.1) (arrS hZ A2548) A2548.2.2 (inb_of S2550 ⟨(by decide), (by decide)⟩) (Has.at H2552 (inb_of S2550 ⟨(by decide), (by decide)⟩) rfl) (g := (mkF m 542 #[rv pa, iv 15] [(.int 0), (.ref pa), (.int 0), (.ref a2532), (.ref a2532), (.ref a2512), (.ref a2512)])) rfl rfl (hb hby dMK_542) t k) ?_
    show Way _ _ _ _ (T2524.setTop (mkF m 543 #[rv pa, iv 15] [(.int x0), (.int 0), (.ref a2532), (.ref a2532), (.ref a2512), (.ref a2512)]))
    have V2554 : Arv Z h2525 a2532 kc2526 .char (15 : Int32) [(.int 0)] (.int 0) := V2534.pad (pad_rep [] (.int 0) 1)
    obtain ⟨c2555, A2556, q2557, S2558, M2559, H2560, U2561⟩ := id V2554
    obtain ⟨T2562, h2563, X2564, e2565, W2566, st2567⟩ := stC X2527 hx hZ e2528 A2556 (j := (0 : Int32)) (inb_of S2558 ⟨(by decide), (by decide)⟩) (g := (mkF m 543 #[rv pa, iv 15] [(.int x0), (.int 0), (.ref a2532), (.ref a2532), (.ref a2512), (.ref a2512)])) rfl rfl (hb hby dMK_543)
    have N2568 := Fr.snoc X2564 N0 nw2537
    have V2569 : Arv Z h2563 a2532 kc2526 .char (15 : Int32) [(.int (nar .char x0))] (.int 0) := Arv.set A2556 q2557 S2558 M2559 H2560 U2561 (fits_nar_char _) W2566 0 rfl (leB rfl)
    have nq2571 : nar .char x0 = x0 := own_b.nar hb0
    have V2570 : Arv Z h2563 a2532 kc2526 .char (15 : Int32) [(.int x0)] (.int 0) := by rw [nq2571] at V2569; exact V2569
    have A2572 := A2539.other W2566 ne2535
    have E2573 := Exa.wr W2566 E2540
    have F2574 := F2541.other W2566 (Or.inl ne2536)
    have F2575 := F2542.other W2566 (Or.inl ne2536)
    have Z2576 : n0 ≤ h2563.size := by rw [W2566.size]; exact Z2543
    have O2577 := O2544.wr W2566 nw2537
    have K2578 := K2545.wr W2566 (Or.inr hk2538)
    have hz2579 : h0.size ≤ h2563.size := by rw [W2566.size]; exact hz2546
    refine Way.by st2567 ?_
    show Way _ _ _ _ (T2562.setTop (mkF m 544 #[rv pa, iv 15] [(.ref a2532), (.ref a2512), (.ref a2512)]))
    try clear X2527 e2528 V2534 A2539 E2540 F2541 F2542 Z2543 O2544 K2545 hz2546 V2554 c2555 A2556 q2557 S2558 M2559 H2560 U2561 W2566 st2567 V2569
    try clear T2524 h2525
    refine Way.by (fun _ k => XS.dup X2564.here hx rfl (hb hby dMK_544) rfl rfl k) ?_
    show Way _ _ _ _ (T2562.setTop (mkF m 545 #[rv pa, iv 15] [(.ref a2532), (.ref a2532), (.ref a2512), (.ref a2512)]))
    refine Way.by (fun _ k => XS.iconst X2564.here hx rfl (hb hby dMK_545) k) ?_
    show Way _ _ _ _ (T2562.setTop (mkF m 546 #[rv pa, iv 15] [(.int 1), (.ref a2532), (.ref a2532), (.ref a2512), (.ref a2512)]))
    refine Way.by (fun _ k => XS.aloadN X2564.here hx rfl (hb hby dMK_546) rfl rfl k) ?_
    show Way _ _ _ _ (T2562.setTop (mkF m 547 #[rv pa, iv 15] [(.ref pa), (.int 1), (.ref a2532), (.ref a2532), (.ref a2512), (.ref a2512)]))
    refine Way.by (fun _ k => XS.iconst X2564.here hx rfl (hb hby dMK_547) k) ?_
    show Way _ _ _ _ (T2562.setTop (mkF m 548 #[rv pa, iv 15] [(.int 1), (.ref pa), (.int 1), (.ref a2532), (.ref a2532), (.ref a2512), (.ref a2512)]))
    obtain ⟨c2580, A2581, q2582, S2583, M2584, H2585, U2586⟩ := id A2572
    refine Way.by (fun t k => Stand.caload X2564 hx (hpE e2565 A2581.1) (arrS hZ A2581) A2581.2.2 (inb_of S2583 ⟨(by decide), (by decide)⟩) (Has.at H2585 (inb_of S2583 ⟨(by decide), (by decide)⟩) rfl) (g := (mkF m 548 #[rv pa, iv 15] [(.int 1), (.ref pa), (.int 1), (.ref a2532), (.ref a2532), (.ref a2512), (.ref a2512)])) rfl rfl (hb hby dMK_548) t k) ?_
    show Way _ _ _ _ (T2562.setTop (mkF m 549 #[rv pa, iv 15] [(.int x1), (.int 1), (.ref a2532), (.ref a2532), (.ref a2512), (.ref a2512)]))
    have V2587 : Arv Z h2563 a2532 kc2526 .char (15 : Int32) [(.int x0), (.int 0)] (.int 0) := V2570.pad (pad_rep [(.int x0)] (.int 0) 1)
    obtain ⟨c2588, A2589, q2590, S2591, M2592, H2593, U2594⟩ := id V2587
    obtain ⟨T2595, h2596, X2597, e2598, W2599, st2600⟩ := stC X2564 hx hZ e2565 A2589 (j := (1 : Int32)) (inb_of S2591 ⟨(by decide), (by decide)⟩) (g := (mkF m 549 #[rv pa, iv 15] [(.int x1), (.int 1), (.ref a2532), (.ref a2532), (.ref a2512), (.ref a2512)])) rfl rfl (hb hby dMK_549)
    have N2601 := Fr.snoc X2597 N2568 nw2537
    have V2602 : Arv Z h2596 a2532 kc2526 .char (15 : Int32) [(.int x0), (.int (nar .char x1))] (.int 0) := Arv.set A2589 q2590 S2591 M2592 H2593 U2594 (fits_nar_char _) W2599 1 rfl (leB rfl)
    have nq2604 : nar .char x1 = x1 := own_b.nar hb1
    have V2603 : Arv Z h2596 a2532 kc2526 .char (15 : Int32) [(.int x0), (.int x1)] (.int 0) := by rw [nq2604] at V2602; exact V2602
    have A2605 := A2572.other W2599 ne2535
    have E2606 := Exa.wr W2599 E2573
    have F2607 := F2574.other W2599 (Or.inl ne2536)
    have F2608 := F2575.other W2599 (Or.inl ne2536)
    have Z2609 : n0 ≤ h2596.size := by rw [W2599.size]; exact Z2576
    have O2610 := O2577.wr W2599 nw2537
    have K2611 := K2578.wr W2599 (Or.inr hk2538)
    have hz2612 : h0.size ≤ h2596.size := by rw [W2599.size]; exact hz2579
    refine Way.by st2600 ?_
    show Way _ _ _ _ (T2595.setTop (mkF m 550 #[rv pa, iv 15] [(.ref a2532), (.ref a2512), (.ref a2512)]))
    try clear X2564 e2565 N2568 V2570 A2572 E2573 F2574 F2575 Z2576 O2577 K2578 hz2579 V2587 c2588 A2589 q2590 S2591 M2592 H2593 U2594 W2599 st2600 V2602
    try clear T2562 h2563
    refine Way.by (fun _ k => XS.dup X2597.here hx rfl (hb hby dMK_550) rfl rfl k) ?_
    show Way _ _ _ _ (T2595.setTop (mkF m 551 #[rv pa, iv 15] [(.ref a2532), (.ref a2532), (.ref a2512), (.ref a2512)]))
    refine Way.by (fun _ k => XS.iconst X2597.here hx rfl (hb hby dMK_551) k) ?_
    show Way _ _ _ _ (T2595.setTop (mkF m 552 #[rv pa, iv 15] [(.int 2), (.ref a2532), (.ref a2532), (.ref a2512), (.ref a2512)]))
    refine Way.by (fun _ k => XS.aloadN X2597.here hx rfl (hb hby dMK_552) rfl rfl k) ?_
    show Way _ _ _ _ (T2595.setTop (mkF m 553 #[rv pa, iv 15] [(.ref pa), (.int 2), (.ref a2532), (.ref a2532), (.ref a2512), (.ref a2512)]))
    refine Way.by (fun _ k => XS.iconst X2597.here hx rfl (hb hby dMK_553) k) ?_
    show Way _ _ _ _ (T2595.setTop (mkF m 554 #[rv pa, iv 15] [(.int 2), (.ref pa), (.int 2), (.ref a2532), (.ref a2532), (.ref a2512), (.ref a2512)]))
    obtain ⟨c2613, A2614, q2615, S2616, M2617, H2618, U2619⟩ := id A2605
    refine Way.by (fun t k => Stand.caload X2597 hx (hpE e2598 A2614.1) (arrS hZ A2614) A2614.2.2 (inb_of S2616 ⟨(by decide), (by decide)⟩) (Has.at H2618 (inb_of S2616 ⟨(by decide), (by decide)⟩) rfl) (g := (mkF m 554 #[rv pa, iv 15] [(.int 2), (.ref pa), (.int 2), (.ref a2532), (.ref a2532), (.ref a2512), (.ref a2512)])) rfl rfl (hb hby dMK_554) t k) ?_
    show Way _ _ _ _ (T2595.setTop (mkF m 555 #[rv pa, iv 15] [(.int x2), (.int 2), (.ref a2532), (.ref a2532), (.ref a2512), (.ref a2512)]))
    have V2620 : Arv Z h2596 a2532 kc2526 .char (15 : Int32) [(.int x0), (.int x1), (.int 0)] (.int 0) := V2603.pad (pad_rep [(.int x0), (.int x1)] (.int 0) 1)
    obtain ⟨c2621, A2622, q2623, S2624, M2625, H2626, U2627⟩ := id V2620
    obtain ⟨T2628, h2629, X2630, e2631, W2632, st2633⟩ := stC X2597 hx hZ e2598 A2622 (j := (2 : Int32)) (inb_of S2624 ⟨(by decide), (by decide)⟩) (g := (mkF m 555 #[rv pa, iv 15] [(.int x2), (.int 2), (.ref a2532), (.ref a2532), (.ref a2512), (.ref a2512)])) rfl rfl (hb hby dMK_555)
    have N2634 := Fr.snoc X2630 N2601 nw2537
    have V2635 : Arv Z h2629 a2532 kc2526 .char (15 : Int32) [(.int x0), (.int x1), (.int (nar .char x2))] (.int 0) := Arv.set A2622 q2623 S2624 M2625 H2626 U2627 (fits_nar_char _) W2632 2 rfl (leB rfl)
    have nq2637 : nar .char x2 = x2 := own_b.nar hb2
    have V2636 : Arv Z h2629 a2532 kc2526 .char (15 : Int32) [(.int x0), (.int x1), (.int x2)] (.int 0) := by rw [nq2637] at V2635; exact V2635
    have A2638 := A2605.other W2632 ne2535
    have E2639 := Exa.wr W2632 E2606
    have F2640 := F2607.other W2632 (Or.inl ne2536)
    have F2641 := F2608.other W2632 (Or.inl ne2536)
    have Z2642 : n0 ≤ h2629.size := by rw [W2632.size]; exact Z2609
    have O2643 := O2610.wr W2632 nw2537
    have K2644 := K2611.wr W2632 (Or.inr hk2538)
    have hz2645 : h0.size ≤ h2629.size := by rw [W2632.size]; exact hz2612
    refine Way.by st2633 ?_
    show Way _ _ _ _ (T2628.setTop (mkF m 556 #[rv pa, iv 15] [(.ref a2532), (.ref a2512), (.ref a2512)]))
    try clear X2597 e2598 N2601 V2603 A2605 E2606 F2607 F2608 Z2609 O2610 K2611 hz2612 V2620 c2621 A2622 q2623 S2624 M2625 H2626 U2627 W2632 st2633 V2635
    try clear T2595 h2596
    refine Way.by (fun _ k => XS.dup X2630.here hx rfl (hb hby dMK_556) rfl rfl k) ?_
    show Way _ _ _ _ (T2628.setTop (mkF m 557 #[rv pa, iv 15] [(.ref a2532), (.ref a2532), (.ref a2512), (.ref a2512)]))
    refine Way.by (fun _ k => XS.iconst X2630.here hx rfl (hb hby dMK_557) k) ?_
    show Way _ _ _ _ (T2628.setTop (mkF m 558 #[rv pa, iv 15] [(.int 3), (.ref a2532), (.ref a2532), (.ref a2512), (.ref a2512)]))
    refine Way.by (fun _ k => XS.aloadN X2630.here hx rfl (hb hby dMK_558) rfl rfl k) ?_
    show Way _ _ _ _ (T2628.setTop (mkF m 559 #[rv pa, iv 15] [(.ref pa), (.int 3), (.ref a2532), (.ref a2532), (.ref a2512), (.ref a2512)]))
    refine Way.by (fun _ k => XS.iconst X2630.here hx rfl (hb hby dMK_559) k) ?_
    show Way _ _ _ _ (T2628.setTop (mkF m 560 #[rv pa, iv 15] [(.int 3), (.ref pa), (.int 3), (.ref a2532), (.ref a2532), (.ref a2512), (.ref a2512)]))
    obtain ⟨c2646, A2647, q2648, S2649, M2650, H2651, U2652⟩ := id A2638
    refine Way.by (fun t k => Stand.caload X2630 hx (hpE e2631 A2647.1) (arrS hZ A2647) A2647.2.2 (inb_of S2649 ⟨(by decide), (by decide)⟩) (Has.at H2651 (inb_of S2649 ⟨(by decide), (by decide)⟩) rfl) (g := (mkF m 560 #[rv pa, iv 15] [(.int 3), (.ref pa), (.int 3), (.ref a2532), (.ref a2532), (.ref a2512), (.ref a2512)])) rfl rfl (hb hby dMK_560) t k) ?_
    show Way _ _ _ _ (T2628.setTop (mkF m 561 #[rv pa, iv 15] [(.int x3), (.int 3), (.ref a2532), (.ref a2532), (.ref a2512), (.ref a2512)]))
    have V2653 : Arv Z h2629 a2532 kc2526 .char (15 : Int32) [(.int x0), (.int x1), (.int x2), (.int 0)] (.int 0) := V2636.pad (pad_rep [(.int x0), (.int x1), (.int x2)] (.int 0) 1)
    obtain ⟨c2654, A2655, q2656, S2657, M2658, H2659, U2660⟩ := id V2653
    obtain ⟨T2661, h2662, X2663, e2664, W2665, st2666⟩ := stC X2630 hx hZ e2631 A2655 (j := (3 : Int32)) (inb_of S2657 ⟨(by decide), (by decide)⟩) (g := (mkF m 561 #[rv pa, iv 15] [(.int x3), (.int 3), (.ref a2532), (.ref a2532), (.ref a2512), (.ref a2512)])) rfl rfl (hb hby dMK_561)
    have N2667 := Fr.snoc X2663 N2634 nw2537
    have V2668 : Arv Z h2662 a2532 kc2526 .char (15 : Int32) [(.int x0), (.int x1), (.int x2), (.int (nar .char x3))] (.int 0) := Arv.set A2655 q2656 S2657 M2658 H2659 U2660 (fits_nar_char _) W2665 3 rfl (leB rfl)
    have nq2670 : nar .char x3 = x3 := own_b.nar hb3
    have V2669 : Arv Z h2662 a2532 kc2526 .char (15 : Int32) [(.int x0), (.int x1), (.int x2), (.int x3)] (.int 0) := by rw [nq2670] at V2668; exact V2668
    have A2671 := A2638.other W2665 ne2535
    have E2672 := Exa.wr W2665 E2639
    have F2673 := F2640.other W2665 (Or.inl ne2536)
    have F2674 := F2641.other W2665 (Or.inl ne2536)
    have Z2675 : n0 ≤ h2662.size := by rw [W2665.size]; exact Z2642
    have O2676 := O2643.wr W2665 nw2537
    have K2677 := K2644.wr W2665 (Or.inr hk2538)
    have hz2678 : h0.size ≤ h2662.size := by rw [W2665.size]; exact hz2645
    refine Way.by st2666 ?_
    show Way _ _ _ _ (T2661.setTop (mkF m 562 #[rv pa, iv 15] [(.ref a2532), (.ref a2512), (.ref a2512)]))
    try clear X2630 e2631 N2634 V2636 A2638 E2639 F2640 F2641 Z2642 O2643 K2644 hz2645 V2653 c2654 A2655 q2656 S2657 M2658 H2659 U2660 W2665 st2666 V2668
    try clear T2628 h2629
    refine Way.by (fun _ k => XS.dup X2663.here hx rfl (hb hby dMK_562) rfl rfl k) ?_
    show Way _ _ _ _ (T2661.setTop (mkF m 563 #[rv pa, iv 15] [(.ref a2532), (.ref a2532), (.ref a2512), (.ref a2512)]))
    refine Way.by (fun _ k => XS.iconst X2663.here hx rfl (hb hby dMK_563) k) ?_
    show Way _ _ _ _ (T2661.setTop (mkF m 564 #[rv pa, iv 15] [(.int 4), (.ref a2532), (.ref a2532), (.ref a2512), (.ref a2512)]))
    refine Way.by (fun _ k => XS.aloadN X2663.here hx rfl (hb hby dMK_564) rfl rfl k) ?_
    show Way _ _ _ _ (T2661.setTop (mkF m 565 #[rv pa, iv 15] [(.ref pa), (.int 4), (.ref a2532), (.ref a2532), (.ref a2512), (.ref a2512)]))
    refine Way.by (fun _ k => XS.iconst X2663.here hx rfl (hb hby dMK_565) k) ?_
    show Way _ _ _ _ (T2661.setTop (mkF m 566 #[rv pa, iv 15] [(.int 4), (.ref pa), (.int 4), (.ref a2532), (.ref a2532), (.ref a2512), (.ref a2512)]))
    obtain ⟨c2679, A2680, q2681, S2682, M2683, H2684, U2685⟩ := id A2671
    refine Way.by (fun t k => Stand.caload X2663 hx (hpE e2664 A2680.1) (arrS hZ A2680) A2680.2.2 (inb_of S2682 ⟨(by decide), (by decide)⟩) (Has.at H2684 (inb_of S2682 ⟨(by decide), (by decide)⟩) rfl) (g := (mkF m 566 #[rv pa, iv 15] [(.int 4), (.ref pa), (.int 4), (.ref a2532), (.ref a2532), (.ref a2512), (.ref a2512)])) rfl rfl (hb hby dMK_566) t k) ?_
    show Way _ _ _ _ (T2661.setTop (mkF m 567 #[rv pa, iv 15] [(.int x4), (.int 4), (.ref a2532), (.ref a2532), (.ref a2512), (.ref a2512)]))
    have V2686 : Arv Z h2662 a2532 kc2526 .char (15 : Int32) [(.int x0), (.int x1), (.int x2), (.int x3), (.int 0)] (.int 0) := V2669.pad (pad_rep [(.int x0), (.int x1), (.int x2), (.int x3)] (.int 0) 1)
    obtain ⟨c2687, A2688, q2689, S2690, M2691, H2692, U2693⟩ := id V2686
    obtain ⟨T2694, h2695, X2696, e2697, W2698, st2699⟩ := stC X2663 hx hZ e2664 A2688 (j := (4 : Int32)) (inb_of S2690 ⟨(by decide), (by decide)⟩) (g := (mkF m 567 #[rv pa, iv 15] [(.int x4), (.int 4), (.ref a2532), (.ref a2532), (.ref a2512), (.ref a2512)])) rfl rfl (hb hby dMK_567)
    have N2700 := Fr.snoc X2696 N2667 nw2537
    have V2701 : Arv Z h2695 a2532 kc2526 .char (15 : Int32) [(.int x0), (.int x1), (.int x2), (.int x3), (.int (nar .char x4))] (.int 0) := Arv.set A2688 q2689 S2690 M2691 H2692 U2693 (fits_nar_char _) W2698 4 rfl (leB rfl)
    have nq2703 : nar .char x4 = x4 := own_b.nar hb4
    have V2702 : Arv Z h2695 a2532 kc2526 .char (15 : Int32) [(.int x0), (.int x1), (.int x2), (.int x3), (.int x4)] (.int 0) := by rw [nq2703] at V2701; exact V2701
    have A2704 := A2671.other W2698 ne2535
    have E2705 := Exa.wr W2698 E2672
    have F2706 := F2673.other W2698 (Or.inl ne2536)
    have F2707 := F2674.other W2698 (Or.inl ne2536)
    have Z2708 : n0 ≤ h2695.size := by rw [W2698.size]; exact Z2675
    have O2709 := O2676.wr W2698 nw2537
    have K2710 := K2677.wr W2698 (Or.inr hk2538)
    have hz2711 : h0.size ≤ h2695.size := by rw [W2698.size]; exact hz2678
    refine Way.by st2699 ?_
    show Way _ _ _ _ (T2694.setTop (mkF m 568 #[rv pa, iv 15] [(.ref a2532), (.ref a2512), (.ref a2512)]))
    try clear X2663 e2664 N2667 V2669 A2671 E2672 F2673 F2674 Z2675 O2676 K2677 hz2678 V2686 c2687 A2688 q2689 S2690 M2691 H2692 U2693 W2698 st2699 V2701
    try clear T2661 h2662
    refine Way.by (fun _ k => XS.dup X2696.here hx rfl (hb hby dMK_568) rfl rfl k) ?_
    show Way _ _ _ _ (T2694.setTop (mkF m 569 #[rv pa, iv 15] [(.ref a2532), (.ref a2532), (.ref a2512), (.ref a2512)]))
    refine Way.by (fun _ k => XS.iconst X2696.here hx rfl (hb hby dMK_569) k) ?_
    show Way _ _ _ _ (T2694.setTop (mkF m 570 #[rv pa, iv 15] [(.int 5), (.ref a2532), (.ref a2532), (.ref a2512), (.ref a2512)]))
    refine Way.by (fun _ k => XS.aloadN X2696.here hx rfl (hb hby dMK_570) rfl rfl k) ?_
    show Way _ _ _ _ (T2694.setTop (mkF m 571 #[rv pa, iv 15] [(.ref pa), (.int 5), (.ref a2532), (.ref a2532), (.ref a2512), (.ref a2512)]))
    refine Way.by (fun _ k => XS.iconst X2696.here hx rfl (hb hby dMK_571) k) ?_
    show Way _ _ _ _ (T2694.setTop (mkF m 572 #[rv pa, iv 15] [(.int 5), (.ref pa), (.int 5), (.ref a2532), (.ref a2532), (.ref a2512), (.ref a2512)]))
    obtain ⟨c2712, A2713, q2714, S2715, M2716, H2717, U2718⟩ := id A2704
    refine Way.by (fun t k => Stand.caload X2696 hx (hpE e2697 A2713.1) (arrS hZ A2713) A2713.2.2 (inb_of S2715 ⟨(by decide), (by decide)⟩) (Has.at H2717 (inb_of S2715 ⟨(by decide), (by decide)⟩) rfl) (g := (mkF m 572 #[rv pa, iv 15] [(.int 5), (.ref pa), (.int 5), (.ref a2532), (.ref a2532), (.ref a2512), (.ref a2512)])) rfl rfl (hb hby dMK_572) t k) ?_
    show Way _ _ _ _ (T2694.setTop (mkF m 573 #[rv pa, iv 15] [(.int x5), (.int 5), (.ref a2532), (.ref a2532), (.ref a2512), (.ref a2512)]))
    have V2719 : Arv Z h2695 a2532 kc2526 .char (15 : Int32) [(.int x0), (.int x1), (.int x2), (.int x3), (.int x4), (.int 0)] (.int 0) := V2702.pad (pad_rep [(.int x0), (.int x1), (.int x2), (.int x3), (.int x4)] (.int 0) 1)
    obtain ⟨c2720, A2721, q2722, S2723, M2724, H2725, U2726⟩ := id V2719
    obtain ⟨T2727, h2728, X2729, e2730, W2731, st2732⟩ := stC X2696 hx hZ e2697 A2721 (j := (5 : Int32)) (inb_of S2723 ⟨(by decide), (by decide)⟩) (g := (mkF m 573 #[rv pa, iv 15] [(.int x5), (.int 5), (.ref a2532), (.ref a2532), (.ref a2512), (.ref a2512)])) rfl rfl (hb hby dMK_573)
    have N2733 := Fr.snoc X2729 N2700 nw2537
    have V2734 : Arv Z h2728 a2532 kc2526 .char (15 : Int32) [(.int x0), (.int x1), (.int x2), (.int x3), (.int x4), (.int (nar .char x5))] (.int 0) := Arv.set A2721 q2722 S2723 M2724 H2725 U2726 (fits_nar_char _) W2731 5 rfl (leB rfl)
    have nq2736 : nar .char x5 = x5 := own_b.nar hb5
    have V2735 : Arv Z h2728 a2532 kc2526 .char (15 : Int32) [(.int x0), (.int x1), (.int x2), (.int x3), (.int x4), (.int x5)] (.int 0) := by rw [nq2736] at V2734; exact V2734
    have A2737 := A2704.other W2731 ne2535
    have E2738 := Exa.wr W2731 E2705
    have F2739 := F2706.other W2731 (Or.inl ne2536)
    have F2740 := F2707.other W2731 (Or.inl ne2536)
    have Z2741 : n0 ≤ h2728.size := by rw [W2731.size]; exact Z2708
    have O2742 := O2709.wr W2731 nw2537
    have K2743 := K2710.wr W2731 (Or.inr hk2538)
    have hz2744 : h0.size ≤ h2728.size := by rw [W2731.size]; exact hz2711
    refine Way.by st2732 ?_
    show Way _ _ _ _ (T2727.setTop (mkF m 574 #[rv pa, iv 15] [(.ref a2532), (.ref a2512), (.ref a2512)]))
    try clear X2696 e2697 N2700 V2702 A2704 E2705 F2706 F2707 Z2708 O2709 K2710 hz2711 V2719 c2720 A2721 q2722 S2723 M2724 H2725 U2726 W2731 st2732 V2734
    try clear T2694 h2695
    refine Way.by (fun _ k => XS.dup X2729.here hx rfl (hb hby dMK_574) rfl rfl k) ?_
    show Way _ _ _ _ (T2727.setTop (mkF m 575 #[rv pa, iv 15] [(.ref a2532), (.ref a2532), (.ref a2512), (.ref a2512)]))
    refine Way.by (fun _ k => XS.bipush X2729.here hx rfl (hb hby dMK_575) k) ?_
    show Way _ _ _ _ (T2727.setTop (mkF m 577 #[rv pa, iv 15] [(.int 6), (.ref a2532), (.ref a2532), (.ref a2512), (.ref a2512)]))
    refine Way.by (fun _ k => XS.aloadN X2729.here hx rfl (hb hby dMK_577) rfl rfl k) ?_
    show Way _ _ _ _ (T2727.setTop (mkF m 578 #[rv pa, iv 15] [(.ref pa), (.int 6), (.ref a2532), (.ref a2532), (.ref a2512), (.ref a2512)]))
    refine Way.by (fun _ k => XS.bipush X2729.here hx rfl (hb hby dMK_578) k) ?_
    show Way _ _ _ _ (T2727.setTop (mkF m 580 #[rv pa, iv 15] [(.int 6), (.ref pa), (.int 6), (.ref a2532), (.ref a2532), (.ref a2512), (.ref a2512)]))
    obtain ⟨c2745, A2746, q2747, S2748, M2749, H2750, U2751⟩ := id A2737
    refine Way.by (fun t k => Stand.caload X2729 hx (hpE e2730 A2746.1) (arrS hZ A2746) A2746.2.2 (inb_of S2748 ⟨(by decide), (by decide)⟩) (Has.at H2750 (inb_of S2748 ⟨(by decide), (by decide)⟩) rfl) (g := (mkF m 580 #[rv pa, iv 15] [(.int 6), (.ref pa), (.int 6), (.ref a2532), (.ref a2532), (.ref a2512), (.ref a2512)])) rfl rfl (hb hby dMK_580) t k) ?_
    show Way _ _ _ _ (T2727.setTop (mkF m 581 #[rv pa, iv 15] [(.int x6), (.int 6), (.ref a2532), (.ref a2532), (.ref a2512), (.ref a2512)]))
    have V2752 : Arv Z h2728 a2532 kc2526 .char (15 : Int32) [(.int x0), (.int x1), (.int x2), (.int x3), (.int x4), (.int x5), (.int 0)] (.int 0) := V2735.pad (pad_rep [(.int x0), (.int x1), (.int x2), (.int x3), (.int x4), (.int x5)] (.int 0) 1)
    obtain ⟨c2753, A2754, q2755, S2756, M2757, H2758, U2759⟩ := id V2752
    obtain ⟨T2760, h2761, X2762, e2763, W2764, st2765⟩ := stC X2729 hx hZ e2730 A2754 (j := (6 : Int32)) (inb_of S2756 ⟨(by decide), (by decide)⟩) (g := (mkF m 581 #[rv pa, iv 15] [(.int x6), (.int 6), (.ref a2532), (.ref a2532), (.ref a2512), (.ref a2512)])) rfl rfl (hb hby dMK_581)
    have N2766 := Fr.snoc X2762 N2733 nw2537
    have V2767 : Arv Z h2761 a2532 kc2526 .char (15 : Int32) [(.int x0), (.int x1), (.int x2), (.int x3), (.int x4), (.int x5), (.int (nar .char x6))] (.int 0) := Arv.set A2754 q2755 S2756 M2757 H2758 U2759 (fits_nar_char _) W2764 6 rfl (leB rfl)
    have nq2769 : nar .char x6 = x6 := own_b.nar hb6
    have V2768 : Arv Z h2761 a2532 kc2526 .char (15 : Int32) [(.int x0), (.int x1), (.int x2), (.int x3), (.int x4), (.int x5), (.int x6)] (.int 0) := by rw [nq2769] at V2767; exact V2767
    have A2770 := A2737.other W2764 ne2535
    have E2771 := Exa.wr W2764 E2738
    have F2772 := F2739.other W2764 (Or.inl ne2536)
    have F2773 := F2740.other W2764 (Or.inl ne2536)
    have Z2774 : n0 ≤ h2761.size := by rw [W2764.size]; exact Z2741
    have O2775 := O2742.wr W2764 nw2537
    have K2776 := K2743.wr W2764 (Or.inr hk2538)
    have hz2777 : h0.size ≤ h2761.size := by rw [W2764.size]; exact hz2744
    refine Way.by st2765 ?_
    show Way _ _ _ _ (T2760.setTop (mkF m 582 #[rv pa, iv 15] [(.ref a2532), (.ref a2512), (.ref a2512)]))
    try clear X2729 e2730 N2733 V2735 A2737 E2738 F2739 F2740 Z2741 O2742 K2743 hz2744 V2752 c2753 A2754 q2755 S2756 M2757 H2758 U2759 W2764 st2765 V2767
    try clear T2727 h2728
    refine Way.by (fun _ k => XS.dup X2762.here hx rfl (hb hby dMK_582) rfl rfl k) ?_
    show Way _ _ _ _ (T2760.setTop (mkF m 583 #[rv pa, iv 15] [(.ref a2532), (.ref a2532), (.ref a2512), (.ref a2512)]))
    refine Way.by (fun _ k => XS.bipush X2762.here hx rfl (hb hby dMK_583) k) ?_
    show Way _ _ _ _ (T2760.setTop (mkF m 585 #[rv pa, iv 15] [(.int 7), (.ref a2532), (.ref a2532), (.ref a2512), (.ref a2512)]))
    refine Way.by (fun _ k => XS.aloadN X2762.here hx rfl (hb hby dMK_585) rfl rfl k) ?_
    show Way _ _ _ _ (T2760.setTop (mkF m 586 #[rv pa, iv 15] [(.ref pa), (.int 7), (.ref a2532), (.ref a2532), (.ref a2512), (.ref a2512)]))
    refine Way.by (fun _ k => XS.bipush X2762.here hx rfl (hb hby dMK_586) k) ?_
    show Way _ _ _ _ (T2760.setTop (mkF m 588 #[rv pa, iv 15] [(.int 7), (.ref pa), (.int 7), (.ref a2532), (.ref a2532), (.ref a2512), (.ref a2512)]))
    obtain ⟨c2778, A2779, q2780, S2781, M2782, H2783, U2784⟩ := id A2770
    refine Way.by (fun t k => Stand.caload X2762 hx (hpE e2763 A2779.1) (arrS hZ A2779) A2779.2.2 (inb_of S2781 ⟨(by decide), (by decide)⟩) (Has.at H2783 (inb_of S2781 ⟨(by decide), (by decide)⟩) rfl) (g := (mkF m 588 #[rv pa, iv 15] [(.int 7), (.ref pa), (.int 7), (.ref a2532), (.ref a2532), (.ref a2512), (.ref a2512)])) rfl rfl (hb hby dMK_588) t k) ?_
    show Way _ _ _ _ (T2760.setTop (mkF m 589 #[rv pa, iv 15] [(.int x7), (.int 7), (.ref a2532), (.ref a2532), (.ref a2512), (.ref a2512)]))
    have V2785 : Arv Z h2761 a2532 kc2526 .char (15 : Int32) [(.int x0), (.int x1), (.int x2), (.int x3), (.int x4), (.int x5), (.int x6), (.int 0)] (.int 0) := V2768.pad (pad_rep [(.int x0), (.int x1), (.int x2), (.int x3), (.int x4), (.int x5), (.int x6)] (.int 0) 1)
    obtain ⟨c2786, A2787, q2788, S2789, M2790, H2791, U2792⟩ := id V2785
    obtain ⟨T2793, h2794, X2795, e2796, W2797, st2798⟩ := stC X2762 hx hZ e2763 A2787 (j := (7 : Int32)) (inb_of S2789 ⟨(by decide), (by decide)⟩) (g := (mkF m 589 #[rv pa, iv 15] [(.int x7), (.int 7), (.ref a2532), (.ref a2532), (.ref a2512), (.ref a2512)])) rfl rfl (hb hby dMK_589)
    have N2799 := Fr.snoc X2795 N2766 nw2537
    have V2800 : Arv Z h2794 a2532 kc2526 .char (15 : Int32) [(.int x0), (.int x1), (.int x2), (.int x3), (.int x4), (.int x5), (.int x6), (.int (nar .char x7))] (.int 0) := Arv.set A2787 q2788 S2789 M2790 H2791 U2792 (fits_nar_char _) W2797 7 rfl (leB rfl)
    have nq2802 : nar .char x7 = x7 := own_b.nar hb7
    have V2801 : Arv Z h2794 a2532 kc2526 .char (15 : Int32) [(.int x0), (.int x1), (.int x2), (.int x3), (.int x4), (.int x5), (.int x6), (.int x7)] (.int 0) := by rw [nq2802] at V2800; exact V2800
    have A2803 := A2770.other W2797 ne2535
    have E2804 := Exa.wr W2797 E2771
    have F2805 := F2772.other W2797 (Or.inl ne2536)
    have F2806 := F2773.other W2797 (Or.inl ne2536)
    have Z2807 : n0 ≤ h2794.size := by rw [W2797.size]; exact Z2774
    have O2808 := O2775.wr W2797 nw2537
    have K2809 := K2776.wr W2797 (Or.inr hk2538)
    have hz2810 : h0.size ≤ h2794.size := by rw [W2797.size]; exact hz2777
    refine Way.by st2798 ?_
    show Way _ _ _ _ (T2793.setTop (mkF m 590 #[rv pa, iv 15] [(.ref a2532), (.ref a2512), (.ref a2512)]))
    try clear X2762 e2763 N2766 V2768 A2770 E2771 F2772 F2773 Z2774 O2775 K2776 hz2777 V2785 c2786 A2787 q2788 S2789 M2790 H2791 U2792 W2797 st2798 V2800
    try clear T2760 h2761
    refine Way.by (fun _ k => XS.dup X2795.here hx rfl (hb hby dMK_590) rfl rfl k) ?_
    show Way _ _ _ _ (T2793.setTop (mkF m 591 #[rv pa, iv 15] [(.ref a2532), (.ref a2532), (.ref a2512), (.ref a2512)]))
    refine Way.by (fun _ k => XS.bipush X2795.here hx rfl (hb hby dMK_591) k) ?_
    show Way _ _ _ _ (T2793.setTop (mkF m 593 #[rv pa, iv 15] [(.int 8), (.ref a2532), (.ref a2532), (.ref a2512), (.ref a2512)]))
    refine Way.by (fun _ k => XS.aloadN X2795.here hx rfl (hb hby dMK_593) rfl rfl k) ?_
    show Way _ _ _ _ (T2793.setTop (mkF m 594 #[rv pa, iv 15] [(.ref pa), (.int 8), (.ref a2532), (.ref a2532), (.ref a2512), (.ref a2512)]))
    refine Way.by (fun _ k => XS.bipush X2795.here hx rfl (hb hby dMK_594) k) ?_
    show Way _ _ _ _ (T2793.setTop (mkF m 596 #[rv pa, iv 15] [(.int 8), (.ref pa), (.int 8), (.ref a2532), (.ref a2532), (.ref a2512), (.ref a2512)]))
    obtain ⟨c2811, A2812, q2813, S2814, M2815, H2816, U2817⟩ := id A2803
    refine Way.by (fun t k => Stand.caload X2795 hx (hpE e2796 A2812.1) (arrS hZ A2812) A2812.2.2 (inb_of S2814 ⟨(by decide), (by decide)⟩) (Has.at H2816 (inb_of S2814 ⟨(by decide), (by decide)⟩) rfl) (g := (mkF m 596 #[rv pa, iv 15] [(.int 8), (.ref pa), (.int 8), (.ref a2532), (.ref a2532), (.ref a2512), (.ref a2512)])) rfl rfl (hb hby dMK_596) t k) ?_
    show Way _ _ _ _ (T2793.setTop (mkF m 597 #[rv pa, iv 15] [(.int x8), (.int 8), (.ref a2532), (.ref a2532), (.ref a2512), (.ref a2512)]))
    have V2818 : Arv Z h2794 a2532 kc2526 .char (15 : Int32) [(.int x0), (.int x1), (.int x2), (.int x3), (.int x4), (.int x5), (.int x6), (.int x7), (.int 0)] (.int 0) := V2801.pad (pad_rep [(.int x0), (.int x1), (.int x2), (.int x3), (.int x4), (.int x5), (.int x6), (.int x7)] (.int 0) 1)
    obtain ⟨c2819, A2820, q2821, S2822, M2823, H2824, U2825⟩ := id V2818
    obtain ⟨T2826, h2827, X2828, e2829, W2830, st2831⟩ := stC X2795 hx hZ e2796 A2820 (j := (8 : Int32)) (inb_of S2822 ⟨(by decide), (by decide)⟩) (g := (mkF m 597 #[rv pa, iv 15] [(.int x8), (.int 8), (.ref a2532), (.ref a2532), (.ref a2512), (.ref a2512)])) rfl rfl (hb hby dMK_597)
    have N2832 := Fr.snoc X2828 N2799 nw2537
    have V2833 : Arv Z h2827 a2532 kc2526 .char (15 : Int32) [(.int x0), (.int x1), (.int x2), (.int x3), (.int x4), (.int x5), (.int x6), (.int x7), (.int (nar .char x8))] (.int 0) := Arv.set A2820 q2821 S2822 M2823 H2824 U2825 (fits_nar_char _) W2830 8 rfl (leB rfl)
    have nq2835 : nar .char x8 = x8 := own_b.nar hb8
    have V2834 : Arv Z h2827 a2532 kc2526 .char (15 : Int32) [(.int x0), (.int x1), (.int x2), (.int x3), (.int x4), (.int x5), (.int x6), (.int x7), (.int x8)] (.int 0) := by rw [nq2835] at V2833; exact V2833
    have A2836 := A2803.other W2830 ne2535
    have E2837 := Exa.wr W2830 E2804
    have F2838 := F2805.other W2830 (Or.inl ne2536)
    have F2839 := F2806.other W2830 (Or.inl ne2536)
    have Z2840 : n0 ≤ h2827.size := by rw [W2830.size]; exact Z2807
    have O2841 := O2808.wr W2830 nw2537
    have K2842 := K2809.wr W2830 (Or.inr hk2538)
    have hz2843 : h0.size ≤ h2827.size := by rw [W2830.size]; exact hz2810
    refine Way.by st2831 ?_
    show Way _ _ _ _ (T2826.setTop (mkF m 598 #[rv pa, iv 15] [(.ref a2532), (.ref a2512), (.ref a2512)]))
    try clear X2795 e2796 N2799 V2801 A2803 E2804 F2805 F2806 Z2807 O2808 K2809 hz2810 V2818 c2819 A2820 q2821 S2822 M2823 H2824 U2825 W2830 st2831 V2833
    try clear T2793 h2794
    refine Way.by (fun _ k => XS.dup X2828.here hx rfl (hb hby dMK_598) rfl rfl k) ?_
    show Way _ _ _ _ (T2826.setTop (mkF m 599 #[rv pa, iv 15] [(.ref a2532), (.ref a2532), (.ref a2512), (.ref a2512)]))
    refine Way.by (fun _ k => XS.bipush X2828.here hx rfl (hb hby dMK_599) k) ?_
    show Way _ _ _ _ (T2826.setTop (mkF m 601 #[rv pa, iv 15] [(.int 9), (.ref a2532), (.ref a2532), (.ref a2512), (.ref a2512)]))
    refine Way.by (fun _ k => XS.aloadN X2828.here hx rfl (hb hby dMK_601) rfl rfl k) ?_
    show Way _ _ _ _ (T2826.setTop (mkF m 602 #[rv pa, iv 15] [(.ref pa), (.int 9), (.ref a2532), (.ref a2532), (.ref a2512), (.ref a2512)]))
    refine Way.by (fun _ k => XS.bipush X2828.here hx rfl (hb hby dMK_602) k) ?_
    show Way _ _ _ _ (T2826.setTop (mkF m 604 #[rv pa, iv 15] [(.int 9), (.ref pa), (.int 9), (.ref a2532), (.ref a2532), (.ref a2512), (.ref a2512)]))
    obtain ⟨c2844, A2845, q2846, S2847, M2848, H2849, U2850⟩ := id A2836
    refine Way.by (fun t k => Stand.caload X2828 hx (hpE e2829 A2845.1) (arrS hZ A2845) A2845.2.2 (inb_of S2847 ⟨(by decide), (by decide)⟩) (Has.at H2849 (inb_of S2847 ⟨(by decide), (by decide)⟩) rfl) (g := (mkF m 604 #[rv pa, iv 15] [(.int 9), (.ref pa), (.int 9), (.ref a2532), (.ref a2532), (.ref a2512), (.ref a2512)])) rfl rfl (hb hby dMK_604) t k) ?_
    show Way _ _ _ _ (T2826.setTop (mkF m 605 #[rv pa, iv 15] [(.int x9), (.int 9), (.ref a2532), (.ref a2532), (.ref a2512), (.ref a2512)]))
    have V2851 : Arv Z h2827 a2532 kc2526 .char (15 : Int32) [(.int x0), (.int x1), (.int x2), (.int x3), (.int x4), (.int x5), (.int x6), (.int x7), (.int x8), (.int 0)] (.int 0) := V2834.pad (pad_rep [(.int x0), (.int x1), (.int x2), (.int x3), (.int x4), (.int x5), (.int x6), (.int x7), (.int x8)] (.int 0) 1)
    obtain ⟨c2852, A2853, q2854, S2855, M2856, H2857, U2858⟩ := id V2851
    obtain ⟨T2859, h2860, X2861, e2862, W2863, st2864⟩ := stC X2828 hx hZ e2829 A2853 (j := (9 : Int32)) (inb_of S2855 ⟨(by decide), (by decide)⟩) (g := (mkF m 605 #[rv pa, iv 15] [(.int x9), (.int 9), (.ref a2532), (.ref a2532), (.ref a2512), (.ref a2512)])) rfl rfl (hb hby dMK_605)
    have N2865 := Fr.snoc X2861 N2832 nw2537
    have V2866 : Arv Z h2860 a2532 kc2526 .char (15 : Int32) [(.int x0), (.int x1), (.int x2), (.int x3), (.int x4), (.int x5), (.int x6), (.int x7), (.int x8), (.int (nar .char x9))] (.int 0) := Arv.set A2853 q2854 S2855 M2856 H2857 U2858 (fits_nar_char _) W2863 9 rfl (leB rfl)
    have nq2868 : nar .char x9 = x9 := own_b.nar hb9
    have V2867 : Arv Z h2860 a2532 kc2526 .char (15 : Int32) [(.int x0), (.int x1), (.int x2), (.int x3), (.int x4), (.int x5), (.int x6), (.int x7), (.int x8), (.int x9)] (.int 0) := by rw [nq2868] at V2866; exact V2866
    have A2869 := A2836.other W2863 ne2535
    have E2870 := Exa.wr W2863 E2837
    have F2871 := F2838.other W2863 (Or.inl ne2536)
    have F2872 := F2839.other W2863 (Or.inl ne2536)
    have Z2873 : n0 ≤ h2860.size := by rw [W2863.size]; exact Z2840
    have O2874 := O2841.wr W2863 nw2537
    have K2875 := K2842.wr W2863 (Or.inr hk2538)
    have hz2876 : h0.size ≤ h2860.size := by rw [W2863.size]; exact hz2843
    refine Way.by st2864 ?_
    show Way _ _ _ _ (T2859.setTop (mkF m 606 #[rv pa, iv 15] [(.ref a2532), (.ref a2512), (.ref a2512)]))
    try clear X2828 e2829 N2832 V2834 A2836 E2837 F2838 F2839 Z2840 O2841 K2842 hz2843 V2851 c2852 A2853 q2854 S2855 M2856 H2857 U2858 W2863 st2864 V2866
    try clear T2826 h2827
    refine Way.by (fun _ k => XS.dup X2861.here hx rfl (hb hby dMK_606) rfl rfl k) ?_
    show Way _ _ _ _ (T2859.setTop (mkF m 607 #[rv pa, iv 15] [(.ref a2532), (.ref a2532), (.ref a2512), (.ref a2512)]))
    refine Way.by (fun _ k => XS.bipush X2861.here hx rfl (hb hby dMK_607) k) ?_
    show Way _ _ _ _ (T2859.setTop (mkF m 609 #[rv pa, iv 15] [(.int 10), (.ref a2532), (.ref a2532), (.ref a2512), (.ref a2512)]))
    refine Way.by (fun _ k => XS.aloadN X2861.here hx rfl (hb hby dMK_609) rfl rfl k) ?_
    show Way _ _ _ _ (T2859.setTop (mkF m 610 #[rv pa, iv 15] [(.ref pa), (.int 10), (.ref a2532), (.ref a2532), (.ref a2512), (.ref a2512)]))
    refine Way.by (fun _ k => XS.bipush X2861.here hx rfl (hb hby dMK_610) k) ?_
    show Way _ _ _ _ (T2859.setTop (mkF m 612 #[rv pa, iv 15] [(.int 10), (.ref pa), (.int 10), (.ref a2532), (.ref a2532), (.ref a2512), (.ref a2512)]))
    obtain ⟨c2877, A2878, q2879, S2880, M2881, H2882, U2883⟩ := id A2869
    refine Way.by (fun t k => Stand.caload X2861 hx (hpE e2862 A2878.1) (arrS hZ A2878) A2878.2.2 (inb_of S2880 ⟨(by decide), (by decide)⟩) (Has.at H2882 (inb_of S2880 ⟨(by decide), (by decide)⟩) rfl) (g := (mkF m 612 #[rv pa, iv 15] [(.int 10), (.ref pa), (.int 10), (.ref a2532), (.ref a2532), (.ref a2512), (.ref a2512)])) rfl rfl (hb hby dMK_612) t k) ?_
    show Way _ _ _ _ (T2859.setTop (mkF m 613 #[rv pa, iv 15] [(.int x10), (.int 10), (.ref a2532), (.ref a2532), (.ref a2512), (.ref a2512)]))
    have V2884 : Arv Z h2860 a2532 kc2526 .char (15 : Int32) [(.int x0), (.int x1), (.int x2), (.int x3), (.int x4), (.int x5), (.int x6), (.int x7), (.int x8), (.int x9), (.int 0)] (.int 0) := V2867.pad (pad_rep [(.int x0), (.int x1), (.int x2), (.int x3), (.int x4), (.int x5), (.int x6), (.int x7), (.int x8), (.int x9)] (.int 0) 1)
    obtain ⟨c2885, A2886, q2887, S2888, M2889, H2890, U2891⟩ := id V2884
    obtain ⟨T2892, h2893, X2894, e2895, W2896, st2897⟩ := stC X2861 hx hZ e2862 A2886 (j := (10 : Int32)) (inb_of S2888 ⟨(by decide), (by decide)⟩) (g := (mkF m 613 #[rv pa, iv 15] [(.int x10), (.int 10), (.ref a2532), (.ref a2532), (.ref a2512), (.ref a2512)])) rfl rfl (hb hby dMK_613)
    have N2898 := Fr.snoc X2894 N2865 nw2537
    have V2899 : Arv Z h2893 a2532 kc2526 .char (15 : Int32) [(.int x0), (.int x1), (.int x2), (.int x3), (.int x4), (.int x5), (.int x6), (.int x7), (.int x8), (.int x9), (.int (nar .char x10))] (.int 0) := Arv.set A2886 q2887 S2888 M2889 H2890 U2891 (fits_nar_char _) W2896 10 rfl (leB rfl)
    have nq2901 : nar .char x10 = x10 := own_b.nar hb10
    have V2900 : Arv Z h2893 a2532 kc2526 .char (15 : Int32) [(.int x0), (.int x1), (.int x2), (.int x3), (.int x4), (.int x5), (.int x6), (.int x7), (.int x8), (.int x9), (.int x10)] (.int 0) := by rw [nq2901] at V2899; exact V2899
    have A2902 := A2869.other W2896 ne2535
    have E2903 := Exa.wr W2896 E2870
    have F2904 := F2871.other W2896 (Or.inl ne2536)
    have F2905 := F2872.other W2896 (Or.inl ne2536)
    have Z2906 : n0 ≤ h2893.size := by rw [W2896.size]; exact Z2873
    have O2907 := O2874.wr W2896 nw2537
    have K2908 := K2875.wr W2896 (Or.inr hk2538)
    have hz2909 : h0.size ≤ h2893.size := by rw [W2896.size]; exact hz2876
    refine Way.by st2897 ?_
    show Way _ _ _ _ (T2892.setTop (mkF m 614 #[rv pa, iv 15] [(.ref a2532), (.ref a2512), (.ref a2512)]))
    try clear X2861 e2862 N2865 V2867 A2869 E2870 F2871 F2872 Z2873 O2874 K2875 hz2876 V2884 c2885 A2886 q2887 S2888 M2889 H2890 U2891 W2896 st2897 V2899
    try clear T2859 h2860
    refine Way.by (fun _ k => XS.dup X2894.here hx rfl (hb hby dMK_614) rfl rfl k) ?_
    show Way _ _ _ _ (T2892.setTop (mkF m 615 #[rv pa, iv 15] [(.ref a2532), (.ref a2532), (.ref a2512), (.ref a2512)]))
    refine Way.by (fun _ k => XS.bipush X2894.here hx rfl (hb hby dMK_615) k) ?_
    show Way _ _ _ _ (T2892.setTop (mkF m 617 #[rv pa, iv 15] [(.int 11), (.ref a2532), (.ref a2532), (.ref a2512), (.ref a2512)]))
    refine Way.by (fun _ k => XS.aloadN X2894.here hx rfl (hb hby dMK_617) rfl rfl k) ?_
    show Way _ _ _ _ (T2892.setTop (mkF m 618 #[rv pa, iv 15] [(.ref pa), (.int 11), (.ref a2532), (.ref a2532), (.ref a2512), (.ref a2512)]))
    refine Way.by (fun _ k => XS.bipush X2894.here hx rfl (hb hby dMK_618) k) ?_
    show Way _ _ _ _ (T2892.setTop (mkF m 620 #[rv pa, iv 15] [(.int 11), (.ref pa), (.int 11), (.ref a2532), (.ref a2532), (.ref a2512), (.ref a2512)]))
    obtain ⟨c2910, A2911, q2912, S2913, M2914, H2915, U2916⟩ := id A2902
    refine Way.by (fun t k => Stand.caload X2894 hx (hpE e2895 A2911.1) (arrS hZ A2911) A2911.2.2 (inb_of S2913 ⟨(by decide), (by decide)⟩) (Has.at H2915 (inb_of S2913 ⟨(by decide), (by decide)⟩) rfl) (g := (mkF m 620 #[rv pa, iv 15] [(.int 11), (.ref pa), (.int 11), (.ref a2532), (.ref a2532), (.ref a2512), (.ref a2512)])) rfl rfl (hb hby dMK_620) t k) ?_
    show Way _ _ _ _ (T2892.setTop (mkF m 621 #[rv pa, iv 15] [(.int x11), (.int 11), (.ref a2532), (.ref a2532), (.ref a2512), (.ref a2512)]))
    have V2917 : Arv Z h2893 a2532 kc2526 .char (15 : Int32) [(.int x0), (.int x1), (.int x2), (.int x3), (.int x4), (.int x5), (.int x6), (.int x7), (.int x8), (.int x9), (.int x10), (.int 0)] (.int 0) := V2900.pad (pad_rep [(.int x0), (.int x1), (.int x2), (.int x3), (.int x4), (.int x5), (.int x6), (.int x7), (.int x8), (.int x9), (.int x10)] (.int 0) 1)
    obtain ⟨c2918, A2919, q2920, S2921, M2922, H2923, U2924⟩ := id V2917
    obtain ⟨T2925, h2926, X2927, e2928, W2929, st2930⟩ := stC X2894 hx hZ e2895 A2919 (j := (11 : Int32)) (inb_of S2921 ⟨(by decide), (by decide)⟩) (g := (mkF m 621 #[rv pa, iv 15] [(.int x11), (.int 11), (.ref a2532), (.ref a2532), (.ref a2512), (.ref a2512)])) rfl rfl (hb hby dMK_621)
    have N2931 := Fr.snoc X2927 N2898 nw2537
    have V2932 : Arv Z h2926 a2532 kc2526 .char (15 : Int32) [(.int x0), (.int x1), (.int x2), (.int x3), (.int x4), (.int x5), (.int x6), (.int x7), (.int x8), (.int x9), (.int x10), (.int (nar .char x11))] (.int 0) := Arv.set A2919 q2920 S2921 M2922 H2923 U2924 (fits_nar_char _) W2929 11 rfl (leB rfl)
    have nq2934 : nar .char x11 = x11 := own_b.nar hb11
    have V2933 : Arv Z h2926 a2532 kc2526 .char (15 : Int32) [(.int x0), (.int x1), (.int x2), (.int x3), (.int x4), (.int x5), (.int x6), (.int x7), (.int x8), (.int x9), (.int x10), (.int x11)] (.int 0) := by rw [nq2934] at V2932; exact V2932
    have A2935 := A2902.other W2929 ne2535
    have E2936 := Exa.wr W2929 E2903
    have F2937 := F2904.other W2929 (Or.inl ne2536)
    have F2938 := F2905.other W2929 (Or.inl ne2536)
    have Z2939 : n0 ≤ h2926.size := by rw [W2929.size]; exact Z2906
    have O2940 := O2907.wr W2929 nw2537
    have K2941 := K2908.wr W2929 (Or.inr hk2538)
    have hz2942 : h0.size ≤ h2926.size := by rw [W2929.size]; exact hz2909
    refine Way.by st2930 ?_
    show Way _ _ _ _ (T2925.setTop (mkF m 622 #[rv pa, iv 15] [(.ref a2532), (.ref a2512), (.ref a2512)]))
    try clear X2894 e2895 N2898 V2900 A2902 E2903 F2904 F2905 Z2906 O2907 K2908 hz2909 V2917 c2918 A2919 q2920 S2921 M2922 H2923 U2924 W2929 st2930 V2932
    try clear T2892 h2893
    refine Way.by (fun _ k => XS.dup X2927.here hx rfl (hb hby dMK_622) rfl rfl k) ?_
    show Way _ _ _ _ (T2925.setTop (mkF m 623 #[rv pa, iv 15] [(.ref a2532), (.ref a2532), (.ref a2512), (.ref a2512)]))
    refine Way.by (fun _ k => XS.bipush X2927.here hx rfl (hb hby dMK_623) k) ?_
    show Way _ _ _ _ (T2925.setTop (mkF m 625 #[rv pa, iv 15] [(.int 12), (.ref a2532), (.ref a2532), (.ref a2512), (.ref a2512)]))
    refine Way.by (fun _ k => XS.aloadN X2927.here hx rfl (hb hby dMK_625) rfl rfl k) ?_
    show Way _ _ _ _ (T2925.setTop (mkF m 626 #[rv pa, iv 15] [(.ref pa), (.int 12), (.ref a2532), (.ref a2532), (.ref a2512), (.ref a2512)]))
    refine Way.by (fun _ k => XS.bipush X2927.here hx rfl (hb hby dMK_626) k) ?_
    show Way _ _ _ _ (T2925.setTop (mkF m 628 #[rv pa, iv 15] [(.int 12), (.ref pa), (.int 12), (.ref a2532), (.ref a2532), (.ref a2512), (.ref a2512)]))
    obtain ⟨c2943, A2944, q2945, S2946, M2947, H2948, U2949⟩ := id A2935
    refine Way.by (fun t k => Stand.caload X2927 hx (hpE e2928 A2944.1) (arrS hZ A2944) A2944.2.2 (inb_of S2946 ⟨(by decide), (by decide)⟩) (Has.at H2948 (inb_of S2946 ⟨(by decide), (by decide)⟩) rfl) (g := (mkF m 628 #[rv pa, iv 15] [(.int 12), (.ref pa), (.int 12), (.ref a2532), (.ref a2532), (.ref a2512), (.ref a2512)])) rfl rfl (hb hby dMK_628) t k) ?_
    show Way _ _ _ _ (T2925.setTop (mkF m 629 #[rv pa, iv 15] [(.int x12), (.int 12), (.ref a2532), (.ref a2532), (.ref a2512), (.ref a2512)]))
    have V2950 : Arv Z h2926 a2532 kc2526 .char (15 : Int32) [(.int x0), (.int x1), (.int x2), (.int x3), (.int x4), (.int x5), (.int x6), (.int x7), (.int x8), (.int x9), (.int x10), (.int x11), (.int 0)] (.int 0) := V2933.pad (pad_rep [(.int x0), (.int x1), (.int x2), (.int x3), (.int x4), (.int x5), (.int x6), (.int x7), (.int x8), (.int x9), (.int x10), (.int x11)] (.int 0) 1)
    obtain ⟨c2951, A2952, q2953, S2954, M2955, H2956, U2957⟩ := id V2950
    obtain ⟨T2958, h2959, X2960, e2961, W2962, st2963⟩ := stC X2927 hx hZ e2928 A2952 (j := (12 : Int32)) (inb_of S2954 ⟨(by decide), (by decide)⟩) (g := (mkF m 629 #[rv pa, iv 15] [(.int x12), (.int 12), (.ref a2532), (.ref a2532), (.ref a2512), (.ref a2512)])) rfl rfl (hb hby dMK_629)
    have N2964 := Fr.snoc X2960 N2931 nw2537
    have V2965 : Arv Z h2959 a2532 kc2526 .char (15 : Int32) [(.int x0), (.int x1), (.int x2), (.int x3), (.int x4), (.int x5), (.int x6), (.int x7), (.int x8), (.int x9), (.int x10), (.int x11), (.int (nar .char x12))] (.int 0) := Arv.set A2952 q2953 S2954 M2955 H2956 U2957 (fits_nar_char _) W2962 12 rfl (leB rfl)
    have nq2967 : nar .char x12 = x12 := own_b.nar hb12
    have V2966 : Arv Z h2959 a2532 kc2526 .char (15 : Int32) [(.int x0), (.int x1), (.int x2), (.int x3), (.int x4), (.int x5), (.int x6), (.int x7), (.int x8), (.int x9), (.int x10), (.int x11), (.int x12)] (.int 0) := by rw [nq2967] at V2965; exact V2965
    have A2968 := A2935.other W2962 ne2535
    have E2969 := Exa.wr W2962 E2936
    have F2970 := F2937.other W2962 (Or.inl ne2536)
    have F2971 := F2938.other W2962 (Or.inl ne2536)
    have Z2972 : n0 ≤ h2959.size := by rw [W2962.size]; exact Z2939
    have O2973 := O2940.wr W2962 nw2537
    have K2974 := K2941.wr W2962 (Or.inr hk2538)
    have hz2975 : h0.size ≤ h2959.size := by rw [W2962.size]; exact hz2942
    refine Way.by st2963 ?_
    show Way _ _ _ _ (T2958.setTop (mkF m 630 #[rv pa, iv 15] [(.ref a2532), (.ref a2512), (.ref a2512)]))
    try clear X2927 e2928 N2931 V2933 A2935 E2936 F2937 F2938 Z2939 O2940 K2941 hz2942 V2950 c2951 A2952 q2953 S2954 M2955 H2956 U2957 W2962 st2963 V2965
    try clear T2925 h2926
    refine Way.by (fun _ k => XS.dup X2960.here hx rfl (hb hby dMK_630) rfl rfl k) ?_
    show Way _ _ _ _ (T2958.setTop (mkF m 631 #[rv pa, iv 15] [(.ref a2532), (.ref a2532), (.ref a2512), (.ref a2512)]))
    refine Way.by (fun _ k => XS.bipush X2960.here hx rfl (hb hby dMK_631) k) ?_
    show Way _ _ _ _ (T2958.setTop (mkF m 633 #[rv pa, iv 15] [(.int 13), (.ref a2532), (.ref a2532), (.ref a2512), (.ref a2512)]))
    refine Way.by (fun _ k => XS.aloadN X2960.here hx rfl (hb hby dMK_633) rfl rfl k) ?_
    show Way _ _ _ _ (T2958.setTop (mkF m 634 #[rv pa, iv 15] [(.ref pa), (.int 13), (.ref a2532), (.ref a2532), (.ref a2512), (.ref a2512)]))
    refine Way.by (fun _ k => XS.bipush X2960.here hx rfl (hb hby dMK_634) k) ?_
    show Way _ _ _ _ (T2958.setTop (mkF m 636 #[rv pa, iv 15] [(.int 13), (.ref pa), (.int 13), (.ref a2532), (.ref a2532), (.ref a2512), (.ref a2512)]))
    obtain ⟨c2976, A2977, q2978, S2979, M2980, H2981, U2982⟩ := id A2968
    refine Way.by (fun t k => Stand.caload X2960 hx (hpE e2961 A2977.1) (arrS hZ A2977) A2977.2.2 (inb_of S2979 ⟨(by decide), (by decide)⟩) (Has.at H2981 (inb_of S2979 ⟨(by decide), (by decide)⟩) rfl) (g := (mkF m 636 #[rv pa, iv 15] [(.int 13), (.ref pa), (.int 13), (.ref a2532), (.ref a2532), (.ref a2512), (.ref a2512)])) rfl rfl (hb hby dMK_636) t k) ?_
    show Way _ _ _ _ (T2958.setTop (mkF m 637 #[rv pa, iv 15] [(.int x13), (.int 13), (.ref a2532), (.ref a2532), (.ref a2512), (.ref a2512)]))
    have V2983 : Arv Z h2959 a2532 kc2526 .char (15 : Int32) [(.int x0), (.int x1), (.int x2), (.int x3), (.int x4), (.int x5), (.int x6), (.int x7), (.int x8), (.int x9), (.int x10), (.int x11), (.int x12), (.int 0)] (.int 0) := V2966.pad (pad_rep [(.int x0), (.int x1), (.int x2), (.int x3), (.int x4), (.int x5), (.int x6), (.int x7), (.int x8), (.int x9), (.int x10), (.int x11), (.int x12)] (.int 0) 1)
    obtain ⟨c2984, A2985, q2986, S2987, M2988, H2989, U2990⟩ := id V2983
    obtain ⟨T2991, h2992, X2993, e2994, W2995, st2996⟩ := stC X2960 hx hZ e2961 A2985 (j := (13 : Int32)) (inb_of S2987 ⟨(by decide), (by decide)⟩) (g := (mkF m 637 #[rv pa, iv 15] [(.int x13), (.int 13), (.ref a2532), (.ref a2532), (.ref a2512), (.ref a2512)])) rfl rfl (hb hby dMK_637)
    have N2997 := Fr.snoc X2993 N2964 nw2537
    have V2998 : Arv Z h2992 a2532 kc2526 .char (15 : Int32) [(.int x0), (.int x1), (.int x2), (.int x3), (.int x4), (.int x5), (.int x6), (.int x7), (.int x8), (.int x9), (.int x10), (.int x11), (.int x12), (.int (nar .char x13))] (.int 0) := Arv.set A2985 q2986 S2987 M2988 H2989 U2990 (fits_nar_char _) W2995 13 rfl (leB rfl)
    have nq3000 : nar .char x13 = x13 := own_b.nar hb13
    have V2999 : Arv Z h2992 a2532 kc2526 .char (15 : Int32) [(.int x0), (.int x1), (.int x2), (.int x3), (.int x4), (.int x5), (.int x6), (.int x7), (.int x8), (.int x9), (.int x10), (.int x11), (.int x12), (.int x13)] (.int 0) := by rw [nq3000] at V2998; exact V2998
    have A3001 := A2968.other W2995 ne2535
    have E3002 := Exa.wr W2995 E2969
    have F3003 := F2970.other W2995 (Or.inl ne2536)
    have F3004 := F2971.other W2995 (Or.inl ne2536)
    have Z3005 : n0 ≤ h2992.size := by rw [W2995.size]; exact Z2972
    have O3006 := O2973.wr W2995 nw2537
    have K3007 := K2974.wr W2995 (Or.inr hk2538)
    have hz3008 : h0.size ≤ h2992.size := by rw [W2995.size]; exact hz2975
    refine Way.by st2996 ?_
    show Way _ _ _ _ (T2991.setTop (mkF m 638 #[rv pa, iv 15] [(.ref a2532), (.ref a2512), (.ref a2512)]))
    try clear X2960 e2961 N2964 V2966 A2968 E2969 F2970 F2971 Z2972 O2973 K2974 hz2975 V2983 c2984 A2985 q2986 S2987 M2988 H2989 U2990 W2995 st2996 V2998
    try clear T2958 h2959
    refine Way.by (fun _ k => XS.dup X2993.here hx rfl (hb hby dMK_638) rfl rfl k) ?_
    show Way _ _ _ _ (T2991.setTop (mkF m 639 #[rv pa, iv 15] [(.ref a2532), (.ref a2532), (.ref a2512), (.ref a2512)]))
    refine Way.by (fun _ k => XS.bipush X2993.here hx rfl (hb hby dMK_639) k) ?_
    show Way _ _ _ _ (T2991.setTop (mkF m 641 #[rv pa, iv 15] [(.int 14), (.ref a2532), (.ref a2532), (.ref a2512), (.ref a2512)]))
    refine Way.by (fun _ k => XS.aloadN X2993.here hx rfl (hb hby dMK_641) rfl rfl k) ?_
    show Way _ _ _ _ (T2991.setTop (mkF m 642 #[rv pa, iv 15] [(.ref pa), (.int 14), (.ref a2532), (.ref a2532), (.ref a2512), (.ref a2512)]))
    refine Way.by (fun _ k => XS.bipush X2993.here hx rfl (hb hby dMK_642) k) ?_
    show Way _ _ _ _ (T2991.setTop (mkF m 644 #[rv pa, iv 15] [(.int 14), (.ref pa), (.int 14), (.ref a2532), (.ref a2532), (.ref a2512), (.ref a2512)]))
    obtain ⟨c3009, A3010, q3011, S3012, M3013, H3014, U3015⟩ := id A3001
    refine Way.by (fun t k => Stand.caload X2993 hx (hpE e2994 A3010.1) (arrS hZ A3010) A3010.2.2 (inb_of S3012 ⟨(by decide), (by decide)⟩) (Has.at H3014 (inb_of S3012 ⟨(by decide), (by decide)⟩) rfl) (g := (mkF m 644 #[rv pa, iv 15] [(.int 14), (.ref pa), (.int 14), (.ref a2532), (.ref a2532), (.ref a2512), (.ref a2512)])) rfl rfl (hb hby dMK_644) t k) ?_
    show Way _ _ _ _ (T2991.setTop (mkF m 645 #[rv pa, iv 15] [(.int x14), (.int 14), (.ref a2532), (.ref a2532), (.ref a2512), (.ref a2512)]))
    have V3016 : Arv Z h2992 a2532 kc2526 .char (15 : Int32) [(.int x0), (.int x1), (.int x2), (.int x3), (.int x4), (.int x5), (.int x6), (.int x7), (.int x8), (.int x9), (.int x10), (.int x11), (.int x12), (.int x13), (.int 0)] (.int 0) := V2999.pad (pad_rep [(.int x0), (.int x1), (.int x2), (.int x3), (.int x4), (.int x5), (.int x6), (.int x7), (.int x8), (.int x9), (.int x10), (.int x11), (.int x12), (.int x13)] (.int 0) 1)
    obtain ⟨c3017, A3018, q3019, S3020, M3021, H3022, U3023⟩ := id V3016
    obtain ⟨T3024, h3025, X3026, e3027, W3028, st3029⟩ := stC X2993 hx hZ e2994 A3018 (j := (14 : Int32)) (inb_of S3020 ⟨(by decide), (by decide)⟩) (g := (mkF m 645 #[rv pa, iv 15] [(.int x14), (.int 14), (.ref a2532), (.ref a2532), (.ref a2512), (.ref a2512)])) rfl rfl (hb hby dMK_645)
    have N3030 := Fr.snoc X3026 N2997 nw2537
    have V3031 : Arv Z h3025 a2532 kc2526 .char (15 : Int32) [(.int x0), (.int x1), (.int x2), (.int x3), (.int x4), (.int x5), (.int x6), (.int x7), (.int x8), (.int x9), (.int x10), (.int x11), (.int x12), (.int x13), (.int (nar .char x14))] (.int 0) := Arv.set A3018 q3019 S3020 M3021 H3022 U3023 (fits_nar_char _) W3028 14 rfl (leB rfl)
    have nq3033 : nar .char x14 = x14 := own_b.nar hb14
    have V3032 : Arv Z h3025 a2532 kc2526 .char (15 : Int32) [(.int x0), (.int x1), (.int x2), (.int x3), (.int x4), (.int x5), (.int x6), (.int x7), (.int x8), (.int x9), (.int x10), (.int x11), (.int x12), (.int x13), (.int x14)] (.int 0) := by rw [nq3033] at V3031; exact V3031
    have A3034 := A3001.other W3028 ne2535
    have E3035 := Exa.wr W3028 E3002
    have F3036 := F3003.other W3028 (Or.inl ne2536)
    have F3037 := F3004.other W3028 (Or.inl ne2536)
    have Z3038 : n0 ≤ h3025.size := by rw [W3028.size]; exact Z3005
    have O3039 := O3006.wr W3028 nw2537
    have K3040 := K3007.wr W3028 (Or.inr hk2538)
    have hz3041 : h0.size ≤ h3025.size := by rw [W3028.size]; exact hz3008
    refine Way.by st3029 ?_
    show Way _ _ _ _ (T3024.setTop (mkF m 646 #[rv pa, iv 15] [(.ref a2532), (.ref a2512), (.ref a2512)]))
    try clear X2993 e2994 N2997 V2999 A3001 E3002 F3003 F3004 Z3005 O3006 K3007 hz3008 V3016 c3017 A3018 q3019 S3020 M3021 H3022 U3023 W3028 st3029 V3031
    try clear T2991 h2992
    have hp3042 : ∀ c ∈ ([x0, x1, x2, x3, x4, x5, x6, x7, x8, x9, x10, x11, x12, x13, x14] : List Int32), ¬ c < 0 ∧ ¬ (255 : Int32) < c := by intro c hc; simp only [List.mem_cons, List.not_mem_nil, or_false] at hc; rcases hc with rfl | rfl | rfl | rfl | rfl | rfl | rfl | rfl | rfl | rfl | rfl | rfl | rfl | rfl | rfl <;> assumption
    obtain ⟨_, _, ⟨T3043, L3045, k3046, n3047⟩, -, X3044, ⟨Lc3048, hQ3049, l3050, y3051, z3052⟩, st3053⟩ := X3026.specialBack hx (y := (⟨"java/lang/String", "<init>", "([C)V"⟩ : MethodName)) rfl hown (mvT hZ (tw hw 56 rfl)) (mvT hZ (tw hw 57 rfl)) (mvT hZ (tw hw 58 rfl)) (by decide) (own_new (W := 1) (n0 := n0) hZ hw SV O3039 (cs := [x0, x1, x2, x3, x4, x5, x6, x7, x8, x9, x10, x11, x12, x13, x14]) (n := 15) nw2515 Z3038 E3035 F3036 F3037 V3032 rfl rfl (by decide) (by decide) hp3042 (by decide) (by decide)) (g := (mkF m 646 #[rv pa, iv 15] [(.ref a2532), (.ref a2512), (.ref a2512)])) rfl (by rw [hml]; rfl) (Steps.refl _) (a := a2512) (argsL := [(.ref a2532)]) (rest := [(.ref a2512)]) (lenOf own_pdNew rfl) rfl (leW rfl) (hb hby dMK_646) (fun _ _ => ⟨rfl, e3027, (leB rfl), (leB rfl)⟩)
    dsimp only [Pt.U, Pt.locs, Pt.cells, Pt.slots] at X3044 l3050 y3051 z3052 st3053 hQ3049
    subst y3051 z3052
    obtain ⟨rfl, N3059, K3060, x_t3063, fr_t3062, F3061⟩ := hQ3049
    have N3054 : Fr n0 L3045 := by rw [l3050]; exact Fr.app N3030 N3059
    have ne3064 : pa ≠ x_t3063 := Nat.ne_of_lt (Nat.lt_of_lt_of_le A3034.lt fr_t3062)
    have ne3065 : a2512 ≠ x_t3063 := Nat.ne_of_lt (Nat.lt_of_lt_of_le E3035.lt fr_t3062)
    have ne3066 : a2532 ≠ x_t3063 := Nat.ne_of_lt (Nat.lt_of_lt_of_le V3032.lt fr_t3062)
    have nw3067 : n0 ≤ x_t3063 := Nat.le_trans Z3038 fr_t3062
    have hk3068 : h0.size ≤ x_t3063 := Nat.le_trans hz3041 fr_t3062
    have A3069 := A3034.keep K3060 (ninS ne2514 nin0)
    have E3070 := E3035.keep K3060
    have A3071 := V3032.keep K3060 (ninS ne2536.symm nin0)
    have Z3072 := Nat.le_trans Z3038 K3060.1
    have O3073 := O3039.keep K3060 (allS nw2515 all0)
    have K3074 := K3040.trans K3060 (allS (Or.inr hk2516) all0)
    have hz3075 := Nat.le_trans hz3041 K3060.1
    refine Way.to st3053 ?_
    show Way _ _ _ _ (T3043.setTop (mkF m 649 #[rv pa, iv 15] [(.ref a2512)]))
    try clear X3026 e3027 N3030 V3032 A3034 E3035 F3036 F3037 Z3038 O3039 K3040 hz3041 st3053 N3059 K3060
    try clear T3024 h3025
    refine Way.ret (v := (some (.ref a2512))) X3044 hlk (fun h => by rw [Bd.returns] at h; cases h) (fun fs hr => retOut X3044 hx Bd.returns rfl (Or.inr (Or.inr (Or.inr (Or.inr ⟨rfl, rfl, rfl⟩)))) (hb hby dMK_649) hr) ?_ (by decide) (by decide)
    show QMK Z pa ka _ x0 x1 x2 x3 x4 x5 x6 x7 x8 x9 x10 x11 x12 x13 x14 x15 h0 n0 _ T3043.heap _
    skip
    exact ⟨a2512, x_t3063, [x0, x1, x2, x3, x4, x5, x6, x7, x8, x9, x10, x11, x12, x13, x14], rfl, N3054, K3074, hk2516, hk3068, F3061⟩
def QVA (Z : State) (va : Addr) (kv : ClassId) (uUSER : Addr) (uSYSTEM_USER : Addr) (uGROUP : Addr) (h0 : Heap) (n0 : Nat) (v : Option Value) (h : Heap) (L : List Loc) : Prop := ∃ (pe : Addr), v = some (.ref pe) ∧ Fr n0 L ∧ Keep h0 h [] ∧ h0.size ≤ pe ∧ Arv Z h pe kv (.object "com/example/unbound_principals/unboundprincipals/AuthorizableKind") (3 : Int32) [(.ref uUSER), (.ref uSYSTEM_USER), (.ref uGROUP)] .null
theorem dVA_0 : decode prog_1_method_1_code 0 = .ok (.getstatic 13, 3) := by decide +kernel
theorem dVA_3 : decode prog_1_method_1_code 3 = .ok (.invokevirtual 17, 3) := by decide +kernel
theorem dVA_6 : decode prog_1_method_1_code 6 = .ok (.checkcast 18, 3) := by decide +kernel
theorem dVA_9 : decode prog_1_method_1_code 9 = .ok (.areturn, 1) := by decide +kernel
theorem pnVA : plainName "com/example/unbound_principals/unboundprincipals/AuthorizableKind" = true := by first | (simp [plainName, overriddenIn]; done) | decide +kernel
theorem pdVA : parseMethodDescriptor "()[Lcom/example/unbound_principals/unboundprincipals/AuthorizableKind;" = some ⟨[], some (.array (.object "com/example/unbound_principals/unboundprincipals/AuthorizableKind"))⟩ := by decide +kernel
theorem rmVA (l : Launch) (Z : State) (a0 : Array Value) (hw : ∀ d ∈ tables_1, d.before a0 Z = true) (ws : List Jvm.Cond) (va : Addr) (kv : ClassId) (uUSER : Addr) (uSYSTEM_USER : Addr) (uGROUP : Addr) (h0 : Heap) (n0 : Nat) (Z0 : n0 ≤ h0.size) (O0 : Old Z n0 h0) (SVS : Sta Z Z.heap "com/example/unbound_principals/unboundprincipals/AuthorizableKind" "$VALUES" "[Lcom/example/unbound_principals/unboundprincipals/AuthorizableKind;" (.ref va)) (EVA : Exa Z Z.heap va "[Lcom/example/unbound_principals/unboundprincipals/AuthorizableKind;") (AVA : Arv Z Z.heap va kv (.object "com/example/unbound_principals/unboundprincipals/AuthorizableKind") (3 : Int32) [(.ref uUSER), (.ref uSYSTEM_USER), (.ref uGROUP)] .null) :
    MetFree l (⟨"com/example/unbound_principals/unboundprincipals/AuthorizableKind", "values", "()[Lcom/example/unbound_principals/unboundprincipals/AuthorizableKind;"⟩ : MethodName) (head1 (Jvm.Cond.code (⟨"com/example/unbound_principals/unboundprincipals/AuthorizableKind", "values", "()[Lcom/example/unbound_principals/unboundprincipals/AuthorizableKind;"⟩ : MethodName) prog_1_method_1_code 0 (some (.array (.object "com/example/unbound_principals/unboundprincipals/AuthorizableKind"))) :: ws) ({ frames := 1, cells := 1, slots := 3, locals := 14 } : Room)) (fun aa U => aa = #[] ∧ Z.Warmed39 U.vm ∧ U.heap = h0) (fun _ _ _ _ _ => True) (fun _ U oo U' => ∃ v L, oo = .returned v ∧ QVA Z va kv uUSER uSYSTEM_USER uGROUP h0 n0 v U'.heap L ∧ FrameEnd U oo U' L ({ frames := 1, cells := 1, slots := 3, locals := 14 } : Room).cells ({ frames := 1, cells := 1, slots := 3, locals := 14 } : Room).slots) := by
  refine MetFree.of_bodySF (plainFor_of_name pnVA) hisR ?_
  intro p e s m args below meth c s₁ Bd hml0 hP hK
  obtain ⟨rfl, hZ, hh⟩ := hP
  have hx := Bd.exec
  have hby := Bd.bytes
  have hlk : meth.locks = false := BodyLoose.notSynchronized Bd
  have hml : c.maxLocals = 0 := hml0
  have hown : s.vm.findClass "com/example/unbound_principals/unboundprincipals/AuthorizableKind" = some m.cls := findClass_of_methodNamed Bd.named
  have hnm := (name_of_methodNamed Bd.named Bd.method).1
  have X0 : Stand p l e ({ frames := 1, cells := 1, slots := 3, locals := 14 } : Room) s m #[] below meth c s₁ [] 0 0 := Stand.of_body Bd
  have e0 : s₁.heap = h0 := by rw [← hh, Bd.state]; rfl
  have N0 := Fr.nil n0
  have ef : entryFrame m #[] 0 = mkF m 0 #[] [] := by first | (simp [entryFrame, mkF, argsToLocals, Value.category, maxLocals]; done) | rfl
  show Way p.tables e below (KQ s (QVA Z va kv uUSER uSYSTEM_USER uGROUP h0 n0) ({ frames := 1, cells := 1, slots := 3, locals := 14 } : Room).cells ({ frames := 1, cells := 1, slots := 3, locals := 14 } : Room).slots) (s₁.setTop (entryFrame m #[] 0))
  rw [ef]
  obtain ⟨T1, X2, e3, st4⟩ := getS X0 hx hZ hown (host := "") (tw hw 83 rfl) Via.refl e0 (Sta.ext O0.2 SVS) (g := (mkF m 0 #[] [])) rfl (hb hby dVA_0)
  refine Way.by st4 ?_
  show Way _ _ _ _ (T1.setTop (mkF m 3 #[] [(.ref va)]))
  obtain ⟨T5, h6, X7, e8, E9, Ar10, Ex11, st12⟩ := cloneH X2 hx hZ hown (tw hw 85 rfl) (tw hw 86 rfl) (tw hw 90 rfl) (tw hw 88 rfl) (tw hw 89 rfl) (tw hw 91 rfl) e3 (Arv.arh (Arv.ext AVA O0.2)) (Exa.ext O0.2 EVA) (g := (mkF m 3 #[] [(.ref va)])) rfl (by rw [hml]; rfl) rfl (hb hby dVA_3) (by decide) (W := 0) (cap := 3) (leW rfl) (by decide) (by decide) (by decide) (by decide)
  obtain ⟨a13, g14⟩ : ∃ z, z = h0.size := ⟨_, rfl⟩
  rw [← g14] at Ar10 Ex11 st12
  have nw15 : n0 ≤ a13 := Nat.le_trans Z0 (Nat.le_of_eq g14.symm)
  have hk16 : h0.size ≤ a13 := Nat.le_trans (Nat.le_refl h0.size) (Nat.le_of_eq g14.symm)
  have Z17 := Nat.le_trans Z0 E9.1
  have O18 := O0.ext E9
  have K19 := (Keep.refl h0 []).ext E9
  have hz20 := Nat.le_trans (Nat.le_refl h0.size) E9.1
  refine Way.by st12 ?_
  show Way _ _ _ _ (T5.setTop (mkF m 6 #[] [(.ref a13)]))
  obtain ⟨T21, X22, e23, st24⟩ := castY X7 hx hZ hown (tw hw 96 rfl) e8 (Ins.self Ex11) (g := (mkF m 6 #[] [(.ref a13)])) rfl rfl (hb hby dVA_6)
  refine Way.by st24 ?_
  show Way _ _ _ _ (T21.setTop (mkF m 9 #[] [(.ref a13)]))
  refine Way.ret (v := (some (.ref a13))) X22 hlk (fun h => by rw [Bd.returns] at h; cases h) (fun fs hr => retOut X22 hx Bd.returns rfl (Or.inr (Or.inr (Or.inr (Or.inr ⟨rfl, rfl, rfl⟩)))) (hb hby dVA_9) hr) ?_ (by decide) (by decide)
  show QVA Z va kv uUSER uSYSTEM_USER uGROUP h0 n0 _ T21.heap _
  rw [e23]
  exact ⟨a13, rfl, N0, K19, hk16, Ar10⟩
theorem own_ite1 {a b : List Int32} : ((if a = b then (1 : Int32) else 0) = 0) = ¬ (b = a) := by
  by_cases h : a = b
  · simp [h]
  · simp [h, Ne.symm h]
def QON (Z : State) (px : Addr) (pt : Addr) (cs : List Int32) (va : Addr) (kv : ClassId) (uUSER : Addr) (uSYSTEM_USER : Addr) (uGROUP : Addr) (tUSER : Addr) (tSYSTEM_USER : Addr) (tGROUP : Addr) (tUSERt : Addr) (tSYSTEM_USERt : Addr) (tGROUPt : Addr) (h0 : Heap) (n0 : Nat) (v : Option Value) (h : Heap) (L : List Loc) : Prop := v = some (own_kind cs uUSER uSYSTEM_USER uGROUP) ∧ Fr n0 L ∧ Keep h0 h []
theorem dON_0 : decode prog_1_method_6_code 0 = .ok (.invokestatic 36, 3) := by decide +kernel
theorem dON_3 : decode prog_1_method_6_code 3 = .ok (.astore_n 1, 1) := by decide +kernel
theorem dON_4 : decode prog_1_method_6_code 4 = .ok (.aload_n 1, 1) := by decide +kernel
theorem dON_5 : decode prog_1_method_6_code 5 = .ok (.arraylength, 1) := by decide +kernel
theorem dON_6 : decode prog_1_method_6_code 6 = .ok (.istore_n 2, 1) := by decide +kernel
theorem dON_7 : decode prog_1_method_6_code 7 = .ok (.iconst 0, 1) := by decide +kernel
theorem dON_8 : decode prog_1_method_6_code 8 = .ok (.istore_n 3, 1) := by decide +kernel
theorem dON_9 : decode prog_1_method_6_code 9 = .ok (.iload_n 3, 1) := by decide +kernel
theorem dON_10 : decode prog_1_method_6_code 10 = .ok (.iload_n 2, 1) := by decide +kernel
theorem dON_11 : decode prog_1_method_6_code 11 = .ok (.if_icmp .ge 29, 3) := by decide +kernel
theorem dON_14 : decode prog_1_method_6_code 14 = .ok (.aload_n 1, 1) := by decide +kernel
theorem dON_15 : decode prog_1_method_6_code 15 = .ok (.iload_n 3, 1) := by decide +kernel
theorem dON_16 : decode prog_1_method_6_code 16 = .ok (.aaload, 1) := by decide +kernel
theorem dON_17 : decode prog_1_method_6_code 17 = .ok (.astore 4, 2) := by decide +kernel
theorem dON_19 : decode prog_1_method_6_code 19 = .ok (.aload 4, 2) := by decide +kernel
theorem dON_21 : decode prog_1_method_6_code 21 = .ok (.getfield 32, 3) := by decide +kernel
theorem dON_24 : decode prog_1_method_6_code 24 = .ok (.aload_n 0, 1) := by decide +kernel
theorem dON_25 : decode prog_1_method_6_code 25 = .ok (.invokevirtual 40, 3) := by decide +kernel
theorem dON_28 : decode prog_1_method_6_code 28 = .ok (.ifCond .eq 6, 3) := by decide +kernel
theorem dON_31 : decode prog_1_method_6_code 31 = .ok (.aload 4, 2) := by decide +kernel
theorem dON_33 : decode prog_1_method_6_code 33 = .ok (.areturn, 1) := by decide +kernel
theorem dON_34 : decode prog_1_method_6_code 34 = .ok (.iinc 3 1, 3) := by decide +kernel
theorem dON_37 : decode prog_1_method_6_code 37 = .ok (.goto (-28), 3) := by decide +kernel
theorem dON_40 : decode prog_1_method_6_code 40 = .ok (.aconst_null, 1) := by decide +kernel
theorem dON_41 : decode prog_1_method_6_code 41 = .ok (.areturn, 1) := by decide +kernel
theorem pdON : parseMethodDescriptor "(Ljava/lang/String;)Lcom/example/unbound_principals/unboundprincipals/AuthorizableKind;" = some ⟨[(.object "java/lang/String")], some (.object "com/example/unbound_principals/unboundprincipals/AuthorizableKind")⟩ := by decide +kernel
theorem rmON (l : Launch) (Z : State) (a0 : Array Value) (hw : ∀ d ∈ tables_1, d.before a0 Z = true) (ws : List Jvm.Cond) (px : Addr) (pt : Addr) (cs : List Int32) (va : Addr) (kv : ClassId) (uUSER : Addr) (uSYSTEM_USER : Addr) (uGROUP : Addr) (tUSER : Addr) (tSYSTEM_USER : Addr) (tGROUP : Addr) (tUSERt : Addr) (tSYSTEM_USERt : Addr) (tGROUPt : Addr) (h0 : Heap) (n0 : Nat) (Z0 : n0 ≤ h0.size) (H0 : own_Str Z h0 px pt cs) (O0 : Old Z n0 h0) (SV : own_Env Z) (SVS : Sta Z Z.heap "com/example/unbound_principals/unboundprincipals/AuthorizableKind" "$VALUES" "[Lcom/example/unbound_principals/unboundprincipals/AuthorizableKind;" (.ref va)) (EVA : Exa Z Z.heap va "[Lcom/example/unbound_principals/unboundprincipals/AuthorizableKind;") (AVA : Arv Z Z.heap va kv (.object "com/example/unbound_principals/unboundprincipals/AuthorizableKind") (3 : Int32) [(.ref uUSER), (.ref uSYSTEM_USER), (.ref uGROUP)] .null) (EUSER : Exa Z Z.heap uUSER "com/example/unbound_principals/unboundprincipals/AuthorizableKind") (FUSER : Fld Z Z.heap uUSER "com/example/unbound_principals/unboundprincipals/AuthorizableKind" "nodeType" "Ljava/lang/String;" (.ref tUSER)) (TUSER : own_Str Z Z.heap tUSER tUSERt [114, 101, 112, 58, 85, 115, 101, 114]) (ESYSTEM_USER : Exa Z Z.heap uSYSTEM_USER "com/example/unbound_principals/unboundprincipals/AuthorizableKind") (FSYSTEM_USER : Fld Z Z.heap uSYSTEM_USER "com/example/unbound_principals/unboundprincipals/AuthorizableKind" "nodeType" "Ljava/lang/String;" (.ref tSYSTEM_USER)) (TSYSTEM_USER : own_Str Z Z.heap tSYSTEM_USER tSYSTEM_USERt [114, 101, 112, 58, 83, 121, 115, 116, 101, 109, 85, 115, 101, 114]) (EGROUP : Exa Z Z.heap uGROUP "com/example/unbound_principals/unboundprincipals/AuthorizableKind") (FGROUP : Fld Z Z.heap uGROUP "com/example/unbound_principals/unboundprincipals/AuthorizableKind" "nodeType" "Ljava/lang/String;" (.ref tGROUP)) (TGROUP : own_Str Z Z.heap tGROUP tGROUPt [114, 101, 112, 58, 71, 114, 111, 117, 112]) :
    MetFree l (⟨"com/example/unbound_principals/unboundprincipals/AuthorizableKind", "ofNodeType", "(Ljava/lang/String;)Lcom/example/unbound_principals/unboundprincipals/AuthorizableKind;"⟩ : MethodName) (head1 (Jvm.Cond.code (⟨"com/example/unbound_principals/unboundprincipals/AuthorizableKind", "ofNodeType", "(Ljava/lang/String;)Lcom/example/unbound_principals/unboundprincipals/AuthorizableKind;"⟩ : MethodName) prog_1_method_6_code 5 (some (.object "com/example/unbound_principals/unboundprincipals/AuthorizableKind")) :: ws) ({ frames := 3, cells := 1, slots := 3, locals := 42 } : Room)) (fun aa U => aa = #[(.ref px)] ∧ Z.Warmed39 U.vm ∧ U.heap = h0) (fun _ _ _ _ _ => True) (fun _ U oo U' => ∃ v L, oo = .returned v ∧ QON Z px pt cs va kv uUSER uSYSTEM_USER uGROUP tUSER tSYSTEM_USER tGROUP tUSERt tSYSTEM_USERt tGROUPt h0 n0 v U'.heap L ∧ FrameEnd U oo U' L ({ frames := 3, cells := 1, slots := 3, locals := 42 } : Room).cells ({ frames := 3, cells := 1, slots := 3, locals := 42 } : Room).slots) := by
  refine MetFree.of_bodySF (plainFor_of_name pnVA) hisR ?_
  intro p e s m args below meth c s₁ Bd hml0 hP hK
  obtain ⟨rfl, hZ, hh⟩ := hP
  have hx := Bd.exec
  have hby := Bd.bytes
  have hlk : meth.locks = false := BodyLoose.notSynchronized Bd
  have hml : c.maxLocals = 5 := hml0
  have hown : s.vm.findClass "com/example/unbound_principals/unboundprincipals/AuthorizableKind" = some m.cls := findClass_of_methodNamed Bd.named
  have hnm := (name_of_methodNamed Bd.named Bd.method).1
  have X0 : Stand p l e ({ frames := 3, cells := 1, slots := 3, locals := 42 } : Room) s m #[(.ref px)] below meth c s₁ [] 0 0 := Stand.of_body Bd
  have e0 : s₁.heap = h0 := by rw [← hh, Bd.state]; rfl
  have N0 := Fr.nil n0
  have ef : entryFrame m #[(.ref px)] 5 = mkF m 0 #[rv px, .unset, .unset, .unset, .unset] [] := by first | (simp [entryFrame, mkF, argsToLocals, Value.category, maxLocals]; done) | rfl
  show Way p.tables e below (KQ s (QON Z px pt cs va kv uUSER uSYSTEM_USER uGROUP tUSER tSYSTEM_USER tGROUP tUSERt tSYSTEM_USERt tGROUPt h0 n0) ({ frames := 3, cells := 1, slots := 3, locals := 42 } : Room).cells ({ frames := 3, cells := 1, slots := 3, locals := 42 } : Room).slots) (s₁.setTop (entryFrame m #[(.ref px)] 5))
  rw [ef]
  have FUSER1 := Fld.ext O0.2 FUSER
  have TUSER1 := TUSER.ext O0.2
  have FSYSTEM_USER1 := Fld.ext O0.2 FSYSTEM_USER
  have TSYSTEM_USER1 := TSYSTEM_USER.ext O0.2
  have FGROUP1 := Fld.ext O0.2 FGROUP
  have TGROUP1 := TGROUP.ext O0.2
  obtain ⟨_, _, ⟨T1, L3, k4, n5⟩, -, X2, ⟨Lc6, hQ7, l8, y9, z10⟩, st11⟩ := Jvm.LawKit.callS X0 hx (y := (⟨"com/example/unbound_principals/unboundprincipals/AuthorizableKind", "values", "()[Lcom/example/unbound_principals/unboundprincipals/AuthorizableKind;"⟩ : MethodName)) hown (mvT hZ (tw hw 80 rfl)) (mvT hZ (tw hw 81 rfl)) (mvT hZ (tw hw 78 rfl)) (mvT hZ (tw hw 82 rfl)) (by decide) (backOf (W := 0) (rmVA l Z a0 hw [] va kv uUSER uSYSTEM_USER uGROUP h0 n0 Z0 O0 SVS EVA AVA) hZ (tw hw 82 rfl) (tw hw 78 rfl) (by decide) (by decide)) (g := (mkF m 0 #[rv px, .unset, .unset, .unset, .unset] [])) rfl (by rw [hml]; rfl) (argsL := []) (rest := []) (lenOf pdVA rfl) rfl (leW rfl) (hb hby dON_0) (fun _ _ => ⟨rfl, e0, (leB rfl), (leB rfl)⟩)
  dsimp only [Pt.U, Pt.locs, Pt.cells, Pt.slots] at X2 l8 y9 z10 st11 hQ7
  subst y9 z10
  obtain ⟨x_pe21, rfl, N17, K18, fr_pe20, F_019⟩ := hQ7
  have N12 : Fr n0 L3 := by rw [l8]; exact Fr.app N0 N17
  have ne22 : px ≠ x_pe21 := Nat.ne_of_lt (Nat.lt_of_lt_of_le H0.lt1 fr_pe20)
  have ne23 : pt ≠ x_pe21 := Nat.ne_of_lt (Nat.lt_of_lt_of_le H0.lt2 fr_pe20)
  have ne24 : uUSER ≠ x_pe21 := Nat.ne_of_lt (Nat.lt_of_lt_of_le FUSER1.lt fr_pe20)
  have ne25 : tUSER ≠ x_pe21 := Nat.ne_of_lt (Nat.lt_of_lt_of_le TUSER1.lt1 fr_pe20)
  have ne26 : tUSERt ≠ x_pe21 := Nat.ne_of_lt (Nat.lt_of_lt_of_le TUSER1.lt2 fr_pe20)
  have ne27 : uSYSTEM_USER ≠ x_pe21 := Nat.ne_of_lt (Nat.lt_of_lt_of_le FSYSTEM_USER1.lt fr_pe20)
  have ne28 : tSYSTEM_USER ≠ x_pe21 := Nat.ne_of_lt (Nat.lt_of_lt_of_le TSYSTEM_USER1.lt1 fr_pe20)
  have ne29 : tSYSTEM_USERt ≠ x_pe21 := Nat.ne_of_lt (Nat.lt_of_lt_of_le TSYSTEM_USER1.lt2 fr_pe20)
  have ne30 : uGROUP ≠ x_pe21 := Nat.ne_of_lt (Nat.lt_of_lt_of_le FGROUP1.lt fr_pe20)
  have ne31 : tGROUP ≠ x_pe21 := Nat.ne_of_lt (Nat.lt_of_lt_of_le TGROUP1.lt1 fr_pe20)
  have ne32 : tGROUPt ≠ x_pe21 := Nat.ne_of_lt (Nat.lt_of_lt_of_le TGROUP1.lt2 fr_pe20)
  have nw33 : n0 ≤ x_pe21 := Nat.le_trans Z0 fr_pe20
  have hk34 : h0.size ≤ x_pe21 := Nat.le_trans (Nat.le_refl h0.size) fr_pe20
  have S35 := H0.keep K18 nin0 nin0
  have F36 := FUSER1.keep K18 nin0
  have S37 := TUSER1.keep K18 nin0 nin0
  have F38 := FSYSTEM_USER1.keep K18 nin0
  have S39 := TSYSTEM_USER1.keep K18 nin0 nin0
  have F40 := FGROUP1.keep K18 nin0
  have S41 := TGROUP1.keep K18 nin0 nin0
  have Z42 := Nat.le_trans Z0 K18.1
  have O43 := O0.keep K18 all0
  have K44 := (Keep.refl h0 []).trans K18 all0
  have hz45 := Nat.le_trans (Nat.le_refl h0.size) K18.1
  refine Way.by st11 ?_
  show Way _ _ _ _ (T1.setTop (mkF m 3 #[rv px, .unset, .unset, .unset, .unset] [(.ref x_pe21)]))
  refine Way.by (fun _ k => XS.astoreN X2.here hx rfl (hb hby dON_3) rfl rfl (l' := #[rv px, rv x_pe21, .unset, .unset, .unset]) rfl k) ?_
  show Way _ _ _ _ (T1.setTop (mkF m 4 #[rv px, rv x_pe21, .unset, .unset, .unset] []))
  refine Way.by (fun _ k => XS.aloadN X2.here hx rfl (hb hby dON_4) rfl rfl k) ?_
  show Way _ _ _ _ (T1.setTop (mkF m 5 #[rv px, rv x_pe21, .unset, .unset, .unset] [(.ref x_pe21)]))
  obtain ⟨c46, A47, q48, S49, M50, H51, U52⟩ := id F_019
  refine Way.by (fun t k => Stand.arraylength X2 hx (hpE rfl A47.1) (arrS hZ A47) (g := (mkF m 5 #[rv px, rv x_pe21, .unset, .unset, .unset] [(.ref x_pe21)])) rfl rfl (hb hby dON_5) t k) ?_
  rw [len_of S49 M50]
  show Way _ _ _ _ (T1.setTop (mkF m 6 #[rv px, rv x_pe21, .unset, .unset, .unset] [(.int 3)]))
  refine Way.by (fun _ k => XS.istoreN X2.here hx rfl (hb hby dON_6) rfl (l' := #[rv px, rv x_pe21, iv 3, .unset, .unset]) rfl k) ?_
  show Way _ _ _ _ (T1.setTop (mkF m 7 #[rv px, rv x_pe21, iv 3, .unset, .unset] []))
  refine Way.by (fun _ k => XS.iconst X2.here hx rfl (hb hby dON_7) k) ?_
  show Way _ _ _ _ (T1.setTop (mkF m 8 #[rv px, rv x_pe21, iv 3, .unset, .unset] [(.int 0)]))
  refine Way.by (fun _ k => XS.istoreN X2.here hx rfl (hb hby dON_8) rfl (l' := #[rv px, rv x_pe21, iv 3, iv 0, .unset]) rfl k) ?_
  show Way _ _ _ _ (T1.setTop (mkF m 9 #[rv px, rv x_pe21, iv 3, iv 0, .unset] []))
  refine Way.by (fun _ k => XS.iloadN X2.here hx rfl (hb hby dON_9) rfl k) ?_
  show Way _ _ _ _ (T1.setTop (mkF m 10 #[rv px, rv x_pe21, iv 3, iv 0, .unset] [(.int 0)]))
  refine Way.by (fun _ k => XS.iloadN X2.here hx rfl (hb hby dON_10) rfl k) ?_
  show Way _ _ _ _ (T1.setTop (mkF m 11 #[rv px, rv x_pe21, iv 3, iv 0, .unset] [(.int 3), (.int 0)]))
  have b53 : (0 : Int32) < (3 : Int32) := by decide
  refine Way.by (fun _ k => XS.icmpNo X2.here hx rfl (hb hby dON_11) rfl (tlt b53).2.1 k) ?_
  show Way _ _ _ _ (T1.setTop (mkF m 14 #[rv px, rv x_pe21, iv 3, iv 0, .unset] []))
  refine Way.by (fun _ k => XS.aloadN X2.here hx rfl (hb hby dON_14) rfl rfl k) ?_
  show Way _ _ _ _ (T1.setTop (mkF m 15 #[rv px, rv x_pe21, iv 3, iv 0, .unset] [(.ref x_pe21)]))
  refine Way.by (fun _ k => XS.iloadN X2.here hx rfl (hb hby dON_15) rfl k) ?_
  show Way _ _ _ _ (T1.setTop (mkF m 16 #[rv px, rv x_pe21, iv 3, iv 0, .unset] [(.int 0), (.ref x_pe21)]))
  obtain ⟨c54, A55, q56, S57, M58, H59, U60⟩ := id F_019
  refine Way.by (fun t k => Stand.aaload X2 hx (hpE rfl A55.1) (arrS hZ A55) rfl A55.2.2 (inb_of S57 ⟨(by decide), (by decide)⟩) (Has.at H59 (inb_of S57 ⟨(by decide), (by decide)⟩) rfl) (g := (mkF m 16 #[rv px, rv x_pe21, iv 3, iv 0, .unset] [(.int 0), (.ref x_pe21)])) rfl rfl (hb hby dON_16) t k) ?_
  show Way _ _ _ _ (T1.setTop (mkF m 17 #[rv px, rv x_pe21, iv 3, iv 0, .unset] [(.ref uUSER)]))
  refine Way.by (fun _ k => XS.astore X2.here hx rfl (hb hby dON_17) rfl rfl (l' := #[rv px, rv x_pe21, iv 3, iv 0, rv uUSER]) rfl k) ?_
  show Way _ _ _ _ (T1.setTop (mkF m 19 #[rv px, rv x_pe21, iv 3, iv 0, rv uUSER] []))
  refine Way.by (fun _ k => XS.aload X2.here hx rfl (hb hby dON_19) rfl rfl k) ?_
  show Way _ _ _ _ (T1.setTop (mkF m 21 #[rv px, rv x_pe21, iv 3, iv 0, rv uUSER] [(.ref uUSER)]))
  obtain ⟨T61, X62, e63, st64⟩ := getF X2 hx hZ hown (host := "") (Or.inl (tw hw 98 rfl)) Via.refl rfl F36 (g := (mkF m 21 #[rv px, rv x_pe21, iv 3, iv 0, rv uUSER] [(.ref uUSER)])) rfl rfl (hb hby dON_21)
  refine Way.by st64 ?_
  show Way _ _ _ _ (T61.setTop (mkF m 24 #[rv px, rv x_pe21, iv 3, iv 0, rv uUSER] [(.ref tUSER)]))
  refine Way.by (fun _ k => XS.aloadN X62.here hx rfl (hb hby dON_24) rfl rfl k) ?_
  show Way _ _ _ _ (T61.setTop (mkF m 25 #[rv px, rv x_pe21, iv 3, iv 0, rv uUSER] [(.ref px), (.ref tUSER)]))
  obtain ⟨cq81, kq82, qa83, qb84, qc85⟩ := isOf hZ e63 S37.1
  obtain ⟨_, _, ⟨T65, L67, k68, n69⟩, -, X66, ⟨Lc70, hQ71, l72, y73, z74⟩, st75⟩ := X62.virtualBack hx (y := (⟨"java/lang/String", "equals", "(Ljava/lang/Object;)Z"⟩ : MethodName)) (z := (⟨"java/lang/String", "equals", "(Ljava/lang/Object;)Z"⟩ : MethodName)) hown (mvT hZ (tw hw 100 rfl)) (mvT hZ (tw hw 101 rfl)) (notFace_of_selects (args := #[]) (mvT hZ (tw hw 103 rfl))) (mvT hZ (tw hw 103 rfl)) (mvT hZ (tw hw 102 rfl)) (by decide) (own_eqs (W := 0) (n0 := n0) hZ hw SV O43 (cs := [114, 101, 112, 58, 85, 115, 101, 114]) (ds := cs) S37 S35 (by decide) (by decide)) qa83 qc85 (g := (mkF m 25 #[rv px, rv x_pe21, iv 3, iv 0, rv uUSER] [(.ref px), (.ref tUSER)])) rfl (by rw [hml]; rfl) (Steps.refl _) (argsL := [(.ref px)]) (rest := []) (lenOf own_pdEq rfl) rfl (leW rfl) (hb hby dON_25) (fun _ _ => ⟨rfl, e63, (leB rfl), (leB rfl)⟩)
  dsimp only [Pt.U, Pt.locs, Pt.cells, Pt.slots] at X66 l72 y73 z74 st75 hQ71
  subst y73 z74
  obtain ⟨rfl, N86, e77⟩ := hQ71
  have N76 : Fr n0 L67 := by rw [l72]; exact Fr.app N12 N86
  refine Way.to st75 ?_
  show Way _ _ _ _ (T65.setTop (mkF m 28 #[rv px, rv x_pe21, iv 3, iv 0, rv uUSER] [(.int (if ([114, 101, 112, 58, 85, 115, 101, 114] : List Int32) = cs then (1 : Int32) else 0))]))
  try clear N12 X62 e63 st75 cq81 kq82 qa83 qb84 qc85 N86
  try clear T61
  by_cases he1 : (if ([114, 101, 112, 58, 85, 115, 101, 114] : List Int32) = cs then (1 : Int32) else 0) = (0 : Int32)
  · skip
    refine Way.by (fun _ k => XS.ifYes X66.here hx rfl (pc0 := 28) (pc' := 34) rfl (hb hby dON_28) rfl ((if0 .eq _).trans (teq he1).1) (by decide) (by decide) k) ?_
    show Way _ _ _ _ (T65.setTop (mkF m 34 #[rv px, rv x_pe21, iv 3, iv 0, rv uUSER] []))
    refine Way.by (fun _ k => XS.iinc X66.here hx rfl (hb hby dON_34) rfl (l' := #[rv px, rv x_pe21, iv 3, iv 1, rv uUSER]) rfl k) ?_
    show Way _ _ _ _ (T65.setTop (mkF m 37 #[rv px, rv x_pe21, iv 3, iv 1, rv uUSER] []))
    refine Way.by (fun _ k => XS.goto X66.here hx rfl (pc0 := 37) (pc' := 9) rfl (hb hby dON_37) (by decide) (by decide) k) ?_
    show Way _ _ _ _ (T65.setTop (mkF m 9 #[rv px, rv x_pe21, iv 3, iv 1, rv uUSER] []))
    refine Way.by (fun _ k => XS.iloadN X66.here hx rfl (hb hby dON_9) rfl k) ?_
    show Way _ _ _ _ (T65.setTop (mkF m 10 #[rv px, rv x_pe21, iv 3, iv 1, rv uUSER] [(.int 1)]))
    refine Way.by (fun _ k => XS.iloadN X66.here hx rfl (hb hby dON_10) rfl k) ?_
    show Way _ _ _ _ (T65.setTop (mkF m 11 #[rv px, rv x_pe21, iv 3, iv 1, rv uUSER] [(.int 3), (.int 1)]))
    have b88 : (1 : Int32) < (3 : Int32) := by decide
    refine Way.by (fun _ k => XS.icmpNo X66.here hx rfl (hb hby dON_11) rfl (tlt b88).2.1 k) ?_
    show Way _ _ _ _ (T65.setTop (mkF m 14 #[rv px, rv x_pe21, iv 3, iv 1, rv uUSER] []))
    refine Way.by (fun _ k => XS.aloadN X66.here hx rfl (hb hby dON_14) rfl rfl k) ?_
    show Way _ _ _ _ (T65.setTop (mkF m 15 #[rv px, rv x_pe21, iv 3, iv 1, rv uUSER] [(.ref x_pe21)]))
    refine Way.by (fun _ k => XS.iloadN X66.here hx rfl (hb hby dON_15) rfl k) ?_
    show Way _ _ _ _ (T65.setTop (mkF m 16 #[rv px, rv x_pe21, iv 3, iv 1, rv uUSER] [(.int 1), (.ref x_pe21)]))
    obtain ⟨c89, A90, q91, S92, M93, H94, U95⟩ := id F_019
    refine Way.by (fun t k => Stand.aaload X66 hx (hpE e77 A90.1) (arrS hZ A90) rfl A90.2.2 (inb_of S92 ⟨(by decide), (by decide)⟩) (Has.at H94 (inb_of S92 ⟨(by decide), (by decide)⟩) rfl) (g := (mkF m 16 #[rv px, rv x_pe21, iv 3, iv 1, rv uUSER] [(.int 1), (.ref x_pe21)])) rfl rfl (hb hby dON_16) t k) ?_
    show Way _ _ _ _ (T65.setTop (mkF m 17 #[rv px, rv x_pe21, iv 3, iv 1, rv uUSER] [(.ref uSYSTEM_USER)]))
    refine Way.by (fun _ k => XS.astore X66.here hx rfl (hb hby dON_17) rfl rfl (l' := #[rv px, rv x_pe21, iv 3, iv 1, rv uSYSTEM_USER]) rfl k) ?_
    show Way _ _ _ _ (T65.setTop (mkF m 19 #[rv px, rv x_pe21, iv 3, iv 1, rv uSYSTEM_USER] []))
    refine Way.by (fun _ k => XS.aload X66.here hx rfl (hb hby dON_19) rfl rfl k) ?_
    show Way _ _ _ _ (T65.setTop (mkF m 21 #[rv px, rv x_pe21, iv 3, iv 1, rv uSYSTEM_USER] [(.ref uSYSTEM_USER)]))
    obtain ⟨T96, X97, e98, st99⟩ := getF X66 hx hZ hown (host := "") (Or.inl (tw hw 98 rfl)) Via.refl e77 F38 (g := (mkF m 21 #[rv px, rv x_pe21, iv 3, iv 1, rv uSYSTEM_USER] [(.ref uSYSTEM_USER)])) rfl rfl (hb hby dON_21)
    refine Way.by st99 ?_
    show Way _ _ _ _ (T96.setTop (mkF m 24 #[rv px, rv x_pe21, iv 3, iv 1, rv uSYSTEM_USER] [(.ref tSYSTEM_USER)]))
    refine Way.by (fun _ k => XS.aloadN X97.here hx rfl (hb hby dON_24) rfl rfl k) ?_
    show Way _ _ _ _ (T96.setTop (mkF m 25 #[rv px, rv x_pe21, iv 3, iv 1, rv uSYSTEM_USER] [(.ref px), (.ref tSYSTEM_USER)]))
    obtain ⟨cq116, kq117, qa118, qb119, qc120⟩ := isOf hZ e98 S39.1
    obtain ⟨_, _, ⟨T100, L102, k103, n104⟩, -, X101, ⟨Lc105, hQ106, l107, y108, z109⟩, st110⟩ := X97.virtualBack hx (y := (⟨"java/lang/String", "equals", "(Ljava/lang/Object;)Z"⟩ : MethodName)) (z := (⟨"java/lang/String", "equals", "(Ljava/lang/Object;)Z"⟩ : MethodName)) hown (mvT hZ (tw hw 100 rfl)) (mvT hZ (tw hw 101 rfl)) (notFace_of_selects (args := #[]) (mvT hZ (tw hw 103 rfl))) (mvT hZ (tw hw 103 rfl)) (mvT hZ (tw hw 102 rfl)) (by decide) (own_eqs (W := 0) (n0 := n0) hZ hw SV O43 (cs := [114, 101, 112, 58, 83, 121, 115, 116, 101, 109, 85, 115, 101, 114]) (ds := cs) S39 S35 (by decide) (by decide)) qa118 qc120 (g := (mkF m 25 #[rv px, rv x_pe21, iv 3, iv 1, rv uSYSTEM_USER] [(.ref px), (.ref tSYSTEM_USER)])) rfl (by rw [hml]; rfl) (Steps.refl _) (argsL := [(.ref px)]) (rest := []) (lenOf own_pdEq rfl) rfl (leW rfl) (hb hby dON_25) (fun _ _ => ⟨rfl, e98, (leB rfl), (leB rfl)⟩)
    dsimp only [Pt.U, Pt.locs, Pt.cells, Pt.slots] at X101 l107 y108 z109 st110 hQ106
    subst y108 z109
    obtain ⟨rfl, N121, e112⟩ := hQ106
    have N111 : Fr n0 L102 := by rw [l107]; exact Fr.app N76 N121
    refine Way.to st110 ?_
    show Way _ _ _ _ (T100.setTop (mkF m 28 #[rv px, rv x_pe21, iv 3, iv 1, rv uSYSTEM_USER] [(.int (if ([114, 101, 112, 58, 83, 121, 115, 116, 101, 109, 85, 115, 101, 114] : List Int32) = cs then (1 : Int32) else 0))]))
    try clear N76 X97 e98 st110 cq116 kq117 qa118 qb119 qc120 N121
    try clear T96
    by_cases he3 : (if ([114, 101, 112, 58, 83, 121, 115, 116, 101, 109, 85, 115, 101, 114] : List Int32) = cs then (1 : Int32) else 0) = (0 : Int32)
    · skip
      refine Way.by (fun _ k => XS.ifYes X101.here hx rfl (pc0 := 28) (pc' := 34) rfl (hb hby dON_28) rfl ((if0 .eq _).trans (teq he3).1) (by decide) (by decide) k) ?_
      show Way _ _ _ _ (T100.setTop (mkF m 34 #[rv px, rv x_pe21, iv 3, iv 1, rv uSYSTEM_USER] []))
      refine Way.by (fun _ k => XS.iinc X101.here hx rfl (hb hby dON_34) rfl (l' := #[rv px, rv x_pe21, iv 3, iv 2, rv uSYSTEM_USER]) rfl k) ?_
      show Way _ _ _ _ (T100.setTop (mkF m 37 #[rv px, rv x_pe21, iv 3, iv 2, rv uSYSTEM_USER] []))
      refine Way.by (fun _ k => XS.goto X101.here hx rfl (pc0 := 37) (pc' := 9) rfl (hb hby dON_37) (by decide) (by decide) k) ?_
      show Way _ _ _ _ (T100.setTop (mkF m 9 #[rv px, rv x_pe21, iv 3, iv 2, rv uSYSTEM_USER] []))
      refine Way.by (fun _ k => XS.iloadN X101.here hx rfl (hb hby dON_9) rfl k) ?_
      show Way _ _ _ _ (T100.setTop (mkF m 10 #[rv px, rv x_pe21, iv 3, iv 2, rv uSYSTEM_USER] [(.int 2)]))
      refine Way.by (fun _ k => XS.iloadN X101.here hx rfl (hb hby dON_10) rfl k) ?_
      show Way _ _ _ _ (T100.setTop (mkF m 11 #[rv px, rv x_pe21, iv 3, iv 2, rv uSYSTEM_USER] [(.int 3), (.int 2)]))
      have b123 : (2 : Int32) < (3 : Int32) := by decide
      refine Way.by (fun _ k => XS.icmpNo X101.here hx rfl (hb hby dON_11) rfl (tlt b123).2.1 k) ?_
      show Way _ _ _ _ (T100.setTop (mkF m 14 #[rv px, rv x_pe21, iv 3, iv 2, rv uSYSTEM_USER] []))
      refine Way.by (fun _ k => XS.aloadN X101.here hx rfl (hb hby dON_14) rfl rfl k) ?_
      show Way _ _ _ _ (T100.setTop (mkF m 15 #[rv px, rv x_pe21, iv 3, iv 2, rv uSYSTEM_USER] [(.ref x_pe21)]))
      refine Way.by (fun _ k => XS.iloadN X101.here hx rfl (hb hby dON_15) rfl k) ?_
      show Way _ _ _ _ (T100.setTop (mkF m 16 #[rv px, rv x_pe21, iv 3, iv 2, rv uSYSTEM_USER] [(.int 2), (.ref x_pe21)]))
      obtain ⟨c124, A125, q126, S127, M128, H129, U130⟩ := id F_019
      refine Way.by (fun t k => Stand.aaload X101 hx (hpE e112 A125.1) (arrS hZ A125) rfl A125.2.2 (inb_of S127 ⟨(by decide), (by decide)⟩) (Has.at H129 (inb_of S127 ⟨(by decide), (by decide)⟩) rfl) (g := (mkF m 16 #[rv px, rv x_pe21, iv 3, iv 2, rv uSYSTEM_USER] [(.int 2), (.ref x_pe21)])) rfl rfl (hb hby dON_16) t k) ?_
      show Way _ _ _ _ (T100.setTop (mkF m 17 #[rv px, rv x_pe21, iv 3, iv 2, rv uSYSTEM_USER] [(.ref uGROUP)]))
      refine Way.by (fun _ k => XS.astore X101.here hx rfl (hb hby dON_17) rfl rfl (l' := #[rv px, rv x_pe21, iv 3, iv 2, rv uGROUP]) rfl k) ?_
      show Way _ _ _ _ (T100.setTop (mkF m 19 #[rv px, rv x_pe21, iv 3, iv 2, rv uGROUP] []))
      refine Way.by (fun _ k => XS.aload X101.here hx rfl (hb hby dON_19) rfl rfl k) ?_
      show Way _ _ _ _ (T100.setTop (mkF m 21 #[rv px, rv x_pe21, iv 3, iv 2, rv uGROUP] [(.ref uGROUP)]))
      obtain ⟨T131, X132, e133, st134⟩ := getF X101 hx hZ hown (host := "") (Or.inl (tw hw 98 rfl)) Via.refl e112 F40 (g := (mkF m 21 #[rv px, rv x_pe21, iv 3, iv 2, rv uGROUP] [(.ref uGROUP)])) rfl rfl (hb hby dON_21)
      refine Way.by st134 ?_
      show Way _ _ _ _ (T131.setTop (mkF m 24 #[rv px, rv x_pe21, iv 3, iv 2, rv uGROUP] [(.ref tGROUP)]))
      refine Way.by (fun _ k => XS.aloadN X132.here hx rfl (hb hby dON_24) rfl rfl k) ?_
      show Way _ _ _ _ (T131.setTop (mkF m 25 #[rv px, rv x_pe21, iv 3, iv 2, rv uGROUP] [(.ref px), (.ref tGROUP)]))
      obtain ⟨cq151, kq152, qa153, qb154, qc155⟩ := isOf hZ e133 S41.1
      obtain ⟨_, _, ⟨T135, L137, k138, n139⟩, -, X136, ⟨Lc140, hQ141, l142, y143, z144⟩, st145⟩ := X132.virtualBack hx (y := (⟨"java/lang/String", "equals", "(Ljava/lang/Object;)Z"⟩ : MethodName)) (z := (⟨"java/lang/String", "equals", "(Ljava/lang/Object;)Z"⟩ : MethodName)) hown (mvT hZ (tw hw 100 rfl)) (mvT hZ (tw hw 101 rfl)) (notFace_of_selects (args := #[]) (mvT hZ (tw hw 103 rfl))) (mvT hZ (tw hw 103 rfl)) (mvT hZ (tw hw 102 rfl)) (by decide) (own_eqs (W := 0) (n0 := n0) hZ hw SV O43 (cs := [114, 101, 112, 58, 71, 114, 111, 117, 112]) (ds := cs) S41 S35 (by decide) (by decide)) qa153 qc155 (g := (mkF m 25 #[rv px, rv x_pe21, iv 3, iv 2, rv uGROUP] [(.ref px), (.ref tGROUP)])) rfl (by rw [hml]; rfl) (Steps.refl _) (argsL := [(.ref px)]) (rest := []) (lenOf own_pdEq rfl) rfl (leW rfl) (hb hby dON_25) (fun _ _ => ⟨rfl, e133, (leB rfl), (leB rfl)⟩)
      dsimp only [Pt.U, Pt.locs, Pt.cells, Pt.slots] at X136 l142 y143 z144 st145 hQ141
      subst y143 z144
      obtain ⟨rfl, N156, e147⟩ := hQ141
      have N146 : Fr n0 L137 := by rw [l142]; exact Fr.app N111 N156
      refine Way.to st145 ?_
      show Way _ _ _ _ (T135.setTop (mkF m 28 #[rv px, rv x_pe21, iv 3, iv 2, rv uGROUP] [(.int (if ([114, 101, 112, 58, 71, 114, 111, 117, 112] : List Int32) = cs then (1 : Int32) else 0))]))
      try clear N111 X132 e133 st145 cq151 kq152 qa153 qb154 qc155 N156
      try clear T131
      by_cases he5 : (if ([114, 101, 112, 58, 71, 114, 111, 117, 112] : List Int32) = cs then (1 : Int32) else 0) = (0 : Int32)
      · skip
        refine Way.by (fun _ k => XS.ifYes X136.here hx rfl (pc0 := 28) (pc' := 34) rfl (hb hby dON_28) rfl ((if0 .eq _).trans (teq he5).1) (by decide) (by decide) k) ?_
        show Way _ _ _ _ (T135.setTop (mkF m 34 #[rv px, rv x_pe21, iv 3, iv 2, rv uGROUP] []))
        refine Way.by (fun _ k => XS.iinc X136.here hx rfl (hb hby dON_34) rfl (l' := #[rv px, rv x_pe21, iv 3, iv 3, rv uGROUP]) rfl k) ?_
        show Way _ _ _ _ (T135.setTop (mkF m 37 #[rv px, rv x_pe21, iv 3, iv 3, rv uGROUP] []))
        refine Way.by (fun _ k => XS.goto X136.here hx rfl (pc0 := 37) (pc' := 9) rfl (hb hby dON_37) (by decide) (by decide) k) ?_
        show Way _ _ _ _ (T135.setTop (mkF m 9 #[rv px, rv x_pe21, iv 3, iv 3, rv uGROUP] []))
        refine Way.by (fun _ k => XS.iloadN X136.here hx rfl (hb hby dON_9) rfl k) ?_
        show Way _ _ _ _ (T135.setTop (mkF m 10 #[rv px, rv x_pe21, iv 3, iv 3, rv uGROUP] [(.int 3)]))
        refine Way.by (fun _ k => XS.iloadN X136.here hx rfl (hb hby dON_10) rfl k) ?_
        show Way _ _ _ _ (T135.setTop (mkF m 11 #[rv px, rv x_pe21, iv 3, iv 3, rv uGROUP] [(.int 3), (.int 3)]))
        have b158 : ¬ (3 : Int32) < (3 : Int32) := by decide
        refine Way.by (fun _ k => XS.icmpYes X136.here hx rfl (pc0 := 11) (pc' := 40) rfl (hb hby dON_11) rfl (flt b158).2.1 (by decide) (by decide) k) ?_
        show Way _ _ _ _ (T135.setTop (mkF m 40 #[rv px, rv x_pe21, iv 3, iv 3, rv uGROUP] []))
        refine Way.by (fun _ k => XS.aconstNull X136.here hx rfl (hb hby dON_40) k) ?_
        show Way _ _ _ _ (T135.setTop (mkF m 41 #[rv px, rv x_pe21, iv 3, iv 3, rv uGROUP] [.null]))
        refine Way.ret (v := (some .null)) X136 hlk (fun h => by rw [Bd.returns] at h; cases h) (fun fs hr => retOut X136 hx Bd.returns rfl (Or.inr (Or.inr (Or.inr (Or.inr ⟨rfl, rfl, rfl⟩)))) (hb hby dON_41) hr) ?_ (by decide) (by decide)
        show QON Z px pt cs va kv uUSER uSYSTEM_USER uGROUP tUSER tSYSTEM_USER tGROUP tUSERt tSYSTEM_USERt tGROUPt h0 n0 _ T135.heap _
        rw [e147]
        simp only [own_ite1] at he1 he3 he5
        exact ⟨by unfold own_kind; simp [he1, he3, he5], N146, K44⟩
      · skip
        refine Way.by (fun _ k => XS.ifNo X136.here hx rfl (hb hby dON_28) rfl ((if0 .eq _).trans (feq he5).1) k) ?_
        show Way _ _ _ _ (T135.setTop (mkF m 31 #[rv px, rv x_pe21, iv 3, iv 2, rv uGROUP] []))
        refine Way.by (fun _ k => XS.aload X136.here hx rfl (hb hby dON_31) rfl rfl k) ?_
        show Way _ _ _ _ (T135.setTop (mkF m 33 #[rv px, rv x_pe21, iv 3, iv 2, rv uGROUP] [(.ref uGROUP)]))
        refine Way.ret (v := (some (.ref uGROUP))) X136 hlk (fun h => by rw [Bd.returns] at h; cases h) (fun fs hr => retOut X136 hx Bd.returns rfl (Or.inr (Or.inr (Or.inr (Or.inr ⟨rfl, rfl, rfl⟩)))) (hb hby dON_33) hr) ?_ (by decide) (by decide)
        show QON Z px pt cs va kv uUSER uSYSTEM_USER uGROUP tUSER tSYSTEM_USER tGROUP tUSERt tSYSTEM_USERt tGROUPt h0 n0 _ T135.heap _
        rw [e147]
        simp only [own_ite1] at he1 he3 he5
        exact ⟨by unfold own_kind; simp [he1, he3, he5], N146, K44⟩
    · skip
      refine Way.by (fun _ k => XS.ifNo X101.here hx rfl (hb hby dON_28) rfl ((if0 .eq _).trans (feq he3).1) k) ?_
      show Way _ _ _ _ (T100.setTop (mkF m 31 #[rv px, rv x_pe21, iv 3, iv 1, rv uSYSTEM_USER] []))
      refine Way.by (fun _ k => XS.aload X101.here hx rfl (hb hby dON_31) rfl rfl k) ?_
      show Way _ _ _ _ (T100.setTop (mkF m 33 #[rv px, rv x_pe21, iv 3, iv 1, rv uSYSTEM_USER] [(.ref uSYSTEM_USER)]))
      refine Way.ret (v := (some (.ref uSYSTEM_USER))) X101 hlk (fun h => by rw [Bd.returns] at h; cases h) (fun fs hr => retOut X101 hx Bd.returns rfl (Or.inr (Or.inr (Or.inr (Or.inr ⟨rfl, rfl, rfl⟩)))) (hb hby dON_33) hr) ?_ (by decide) (by decide)
      show QON Z px pt cs va kv uUSER uSYSTEM_USER uGROUP tUSER tSYSTEM_USER tGROUP tUSERt tSYSTEM_USERt tGROUPt h0 n0 _ T100.heap _
      rw [e112]
      simp only [own_ite1] at he1 he3
      exact ⟨by unfold own_kind; simp [he1, he3], N111, K44⟩
  · skip
    refine Way.by (fun _ k => XS.ifNo X66.here hx rfl (hb hby dON_28) rfl ((if0 .eq _).trans (feq he1).1) k) ?_
    show Way _ _ _ _ (T65.setTop (mkF m 31 #[rv px, rv x_pe21, iv 3, iv 0, rv uUSER] []))
    refine Way.by (fun _ k => XS.aload X66.here hx rfl (hb hby dON_31) rfl rfl k) ?_
    show Way _ _ _ _ (T65.setTop (mkF m 33 #[rv px, rv x_pe21, iv 3, iv 0, rv uUSER] [(.ref uUSER)]))
    refine Way.ret (v := (some (.ref uUSER))) X66 hlk (fun h => by rw [Bd.returns] at h; cases h) (fun fs hr => retOut X66 hx Bd.returns rfl (Or.inr (Or.inr (Or.inr (Or.inr ⟨rfl, rfl, rfl⟩)))) (hb hby dON_33) hr) ?_ (by decide) (by decide)
    show QON Z px pt cs va kv uUSER uSYSTEM_USER uGROUP tUSER tSYSTEM_USER tGROUP tUSERt tSYSTEM_USERt tGROUPt h0 n0 _ T65.heap _
    rw [e77]
    simp only [own_ite1] at he1
    exact ⟨by unfold own_kind; simp [he1], N76, K44⟩
def QEZ (Z : State) (pa : Addr) (h0 : Heap) (n0 : Nat) (v : Option Value) (h : Heap) (L : List Loc) : Prop := v = some (.int 0) ∧ Fr n0 L ∧ h = h0
theorem dEZ_0 : decode jdk_42_method_66_code 0 = .ok (.aload_n 0, 1) := by decide +kernel
theorem dEZ_1 : decode jdk_42_method_66_code 1 = .ok (.aload_n 1, 1) := by decide +kernel
theorem dEZ_2 : decode jdk_42_method_66_code 2 = .ok (.if_acmp .ne 5, 3) := by decide +kernel
theorem dEZ_7 : decode jdk_42_method_66_code 7 = .ok (.aload_n 1, 1) := by decide +kernel
theorem dEZ_8 : decode jdk_42_method_66_code 8 = .ok (.instanceof 10, 3) := by decide +kernel
theorem dEZ_11 : decode jdk_42_method_66_code 11 = .ok (.ifCond .eq 43, 3) := by decide +kernel
theorem dEZ_54 : decode jdk_42_method_66_code 54 = .ok (.iconst 0, 1) := by decide +kernel
theorem dEZ_55 : decode jdk_42_method_66_code 55 = .ok (.ireturn, 1) := by decide +kernel
theorem pnEZ : plainName "java/lang/String" = true := by first | (simp [plainName, overriddenIn]; done) | decide +kernel
theorem pdEZ : parseMethodDescriptor "(Ljava/lang/Object;)Z" = some ⟨[(.object "java/lang/Object")], some .boolean⟩ := by decide +kernel
theorem rmEZ (l : Launch) (Z : State) (a0 : Array Value) (hw : ∀ d ∈ tables_1, d.before a0 Z = true) (ws : List Jvm.Cond) (pa : Addr) (h0 : Heap) (n0 : Nat) (Z0 : n0 ≤ h0.size)  :
    MetFree l (⟨"java/lang/String", "equals", "(Ljava/lang/Object;)Z"⟩ : MethodName) (head1 (Jvm.Cond.code (⟨"java/lang/String", "equals", "(Ljava/lang/Object;)Z"⟩ : MethodName) jdk_42_method_66_code 3 (some .boolean) :: ws) ({ frames := 0, cells := 0, slots := 0, locals := 0 } : Room)) (fun aa U => aa = #[(.ref pa), .null] ∧ Z.Warmed39 U.vm ∧ U.heap = h0) (fun _ _ _ _ _ => True) (fun _ U oo U' => ∃ v L, oo = .returned v ∧ QEZ Z pa h0 n0 v U'.heap L ∧ FrameEnd U oo U' L ({ frames := 0, cells := 0, slots := 0, locals := 0 } : Room).cells ({ frames := 0, cells := 0, slots := 0, locals := 0 } : Room).slots) := by
  refine MetFree.of_bodySF (plainFor_of_name pnEZ) hisR ?_
  intro p e s m args below meth c s₁ Bd hml0 hP hK
  obtain ⟨rfl, hZ, hh⟩ := hP
  have hx := Bd.exec
  have hby := Bd.bytes
  have hlk : meth.locks = false := BodyLoose.notSynchronized Bd
  have hml : c.maxLocals = 3 := hml0
  have hown : s.vm.findClass "java/lang/String" = some m.cls := findClass_of_methodNamed Bd.named
  have hnm := (name_of_methodNamed Bd.named Bd.method).1
  have X0 : Stand p l e ({ frames := 0, cells := 0, slots := 0, locals := 0 } : Room) s m #[(.ref pa), .null] below meth c s₁ [] 0 0 := Stand.of_body Bd
  have e0 : s₁.heap = h0 := by rw [← hh, Bd.state]; rfl
  have N0 := Fr.nil n0
  have ef : entryFrame m #[(.ref pa), .null] 3 = mkF m 0 #[rv pa, .val .null, .unset] [] := by first | (simp [entryFrame, mkF, argsToLocals, Value.category, maxLocals]; done) | rfl
  show Way p.tables e below (KQ s (QEZ Z pa h0 n0) ({ frames := 0, cells := 0, slots := 0, locals := 0 } : Room).cells ({ frames := 0, cells := 0, slots := 0, locals := 0 } : Room).slots) (s₁.setTop (entryFrame m #[(.ref pa), .null] 3))
  rw [ef]
  refine Way.by (fun _ k => XS.aloadN X0.here hx rfl (hb hby dEZ_0) rfl rfl k) ?_
  show Way _ _ _ _ (s₁.setTop (mkF m 1 #[rv pa, .val .null, .unset] [(.ref pa)]))
  refine Way.by (fun _ k => XS.aloadN X0.here hx rfl (hb hby dEZ_1) rfl rfl k) ?_
  show Way _ _ _ _ (s₁.setTop (mkF m 2 #[rv pa, .val .null, .unset] [.null, (.ref pa)]))
  have b1 : ¬ ((.ref pa) : Value) = .null := by simp
  refine Way.by (fun _ k => acmp X0 hx rfl rfl rfl (pc0 := 2) (pc' := 7) (same := false) rfl (hb hby dEZ_2) rfl (by simp [b1]) (by decide) (by decide) k) ?_
  show Way _ _ _ _ (s₁.setTop (mkF m 7 #[rv pa, .val .null, .unset] []))
  refine Way.by (fun _ k => XS.aloadN X0.here hx rfl (hb hby dEZ_7) rfl rfl k) ?_
  show Way _ _ _ _ (s₁.setTop (mkF m 8 #[rv pa, .val .null, .unset] [.null]))
  refine Way.by (Stand.instanceofNull X0 hx rfl rfl (hb hby dEZ_8)) ?_
  show Way _ _ _ _ (s₁.setTop (mkF m 11 #[rv pa, .val .null, .unset] [(.int 0)]))
  have b2 : (0 : Int32) = (0 : Int32) := by decide
  refine Way.by (fun _ k => XS.ifYes X0.here hx rfl (pc0 := 11) (pc' := 54) rfl (hb hby dEZ_11) rfl ((if0 .eq _).trans (teq b2).1) (by decide) (by decide) k) ?_
  show Way _ _ _ _ (s₁.setTop (mkF m 54 #[rv pa, .val .null, .unset] []))
  refine Way.by (fun _ k => XS.iconst X0.here hx rfl (hb hby dEZ_54) k) ?_
  show Way _ _ _ _ (s₁.setTop (mkF m 55 #[rv pa, .val .null, .unset] [(.int 0)]))
  refine Way.ret (v := (some (.int (nar .boolean (0 : Int32))))) X0 hlk (fun h => by rw [Bd.returns] at h; cases h) (fun fs hr => retN X0 hx (t := .boolean) Bd.returns (by simp) (hb hby dEZ_55) hr) ?_ (by decide) (by decide)
  show QEZ Z pa h0 n0 _ s₁.heap _
  rw [e0]
  exact ⟨rfl, N0, rfl⟩
def QOM (Z : State) (va : Addr) (kv : ClassId) (uUSER : Addr) (uSYSTEM_USER : Addr) (uGROUP : Addr) (tUSER : Addr) (tSYSTEM_USER : Addr) (tGROUP : Addr) (tUSERt : Addr) (tSYSTEM_USERt : Addr) (tGROUPt : Addr) (h0 : Heap) (n0 : Nat) (v : Option Value) (h : Heap) (L : List Loc) : Prop := v = some .null ∧ Fr n0 L ∧ Keep h0 h []
theorem rmOM (l : Launch) (Z : State) (a0 : Array Value) (hw : ∀ d ∈ tables_1, d.before a0 Z = true) (ws : List Jvm.Cond) (va : Addr) (kv : ClassId) (uUSER : Addr) (uSYSTEM_USER : Addr) (uGROUP : Addr) (tUSER : Addr) (tSYSTEM_USER : Addr) (tGROUP : Addr) (tUSERt : Addr) (tSYSTEM_USERt : Addr) (tGROUPt : Addr) (h0 : Heap) (n0 : Nat) (Z0 : n0 ≤ h0.size) (O0 : Old Z n0 h0) (SV : own_Env Z) (SVS : Sta Z Z.heap "com/example/unbound_principals/unboundprincipals/AuthorizableKind" "$VALUES" "[Lcom/example/unbound_principals/unboundprincipals/AuthorizableKind;" (.ref va)) (EVA : Exa Z Z.heap va "[Lcom/example/unbound_principals/unboundprincipals/AuthorizableKind;") (AVA : Arv Z Z.heap va kv (.object "com/example/unbound_principals/unboundprincipals/AuthorizableKind") (3 : Int32) [(.ref uUSER), (.ref uSYSTEM_USER), (.ref uGROUP)] .null) (EUSER : Exa Z Z.heap uUSER "com/example/unbound_principals/unboundprincipals/AuthorizableKind") (FUSER : Fld Z Z.heap uUSER "com/example/unbound_principals/unboundprincipals/AuthorizableKind" "nodeType" "Ljava/lang/String;" (.ref tUSER)) (TUSER : own_Str Z Z.heap tUSER tUSERt [114, 101, 112, 58, 85, 115, 101, 114]) (ESYSTEM_USER : Exa Z Z.heap uSYSTEM_USER "com/example/unbound_principals/unboundprincipals/AuthorizableKind") (FSYSTEM_USER : Fld Z Z.heap uSYSTEM_USER "com/example/unbound_principals/unboundprincipals/AuthorizableKind" "nodeType" "Ljava/lang/String;" (.ref tSYSTEM_USER)) (TSYSTEM_USER : own_Str Z Z.heap tSYSTEM_USER tSYSTEM_USERt [114, 101, 112, 58, 83, 121, 115, 116, 101, 109, 85, 115, 101, 114]) (EGROUP : Exa Z Z.heap uGROUP "com/example/unbound_principals/unboundprincipals/AuthorizableKind") (FGROUP : Fld Z Z.heap uGROUP "com/example/unbound_principals/unboundprincipals/AuthorizableKind" "nodeType" "Ljava/lang/String;" (.ref tGROUP)) (TGROUP : own_Str Z Z.heap tGROUP tGROUPt [114, 101, 112, 58, 71, 114, 111, 117, 112]) :
    MetFree l (⟨"com/example/unbound_principals/unboundprincipals/AuthorizableKind", "ofNodeType", "(Ljava/lang/String;)Lcom/example/unbound_principals/unboundprincipals/AuthorizableKind;"⟩ : MethodName) (head1 (Jvm.Cond.code (⟨"com/example/unbound_principals/unboundprincipals/AuthorizableKind", "ofNodeType", "(Ljava/lang/String;)Lcom/example/unbound_principals/unboundprincipals/AuthorizableKind;"⟩ : MethodName) prog_1_method_6_code 5 (some (.object "com/example/unbound_principals/unboundprincipals/AuthorizableKind")) :: ws) ({ frames := 3, cells := 1, slots := 3, locals := 42 } : Room)) (fun aa U => aa = #[.null] ∧ Z.Warmed39 U.vm ∧ U.heap = h0) (fun _ _ _ _ _ => True) (fun _ U oo U' => ∃ v L, oo = .returned v ∧ QOM Z va kv uUSER uSYSTEM_USER uGROUP tUSER tSYSTEM_USER tGROUP tUSERt tSYSTEM_USERt tGROUPt h0 n0 v U'.heap L ∧ FrameEnd U oo U' L ({ frames := 3, cells := 1, slots := 3, locals := 42 } : Room).cells ({ frames := 3, cells := 1, slots := 3, locals := 42 } : Room).slots) := by
  refine MetFree.of_bodySF (plainFor_of_name pnVA) hisR ?_
  intro p e s m args below meth c s₁ Bd hml0 hP hK
  obtain ⟨rfl, hZ, hh⟩ := hP
  have hx := Bd.exec
  have hby := Bd.bytes
  have hlk : meth.locks = false := BodyLoose.notSynchronized Bd
  have hml : c.maxLocals = 5 := hml0
  have hown : s.vm.findClass "com/example/unbound_principals/unboundprincipals/AuthorizableKind" = some m.cls := findClass_of_methodNamed Bd.named
  have hnm := (name_of_methodNamed Bd.named Bd.method).1
  have X0 : Stand p l e ({ frames := 3, cells := 1, slots := 3, locals := 42 } : Room) s m #[.null] below meth c s₁ [] 0 0 := Stand.of_body Bd
  have e0 : s₁.heap = h0 := by rw [← hh, Bd.state]; rfl
  have N0 := Fr.nil n0
  have ef : entryFrame m #[.null] 5 = mkF m 0 #[.val .null, .unset, .unset, .unset, .unset] [] := by first | (simp [entryFrame, mkF, argsToLocals, Value.category, maxLocals]; done) | rfl
  show Way p.tables e below (KQ s (QOM Z va kv uUSER uSYSTEM_USER uGROUP tUSER tSYSTEM_USER tGROUP tUSERt tSYSTEM_USERt tGROUPt h0 n0) ({ frames := 3, cells := 1, slots := 3, locals := 42 } : Room).cells ({ frames := 3, cells := 1, slots := 3, locals := 42 } : Room).slots) (s₁.setTop (entryFrame m #[.null] 5))
  rw [ef]
  have FUSER1 := Fld.ext O0.2 FUSER
  have TUSER1 := TUSER.ext O0.2
  have FSYSTEM_USER1 := Fld.ext O0.2 FSYSTEM_USER
  have TSYSTEM_USER1 := TSYSTEM_USER.ext O0.2
  have FGROUP1 := Fld.ext O0.2 FGROUP
  have TGROUP1 := TGROUP.ext O0.2
  obtain ⟨_, _, ⟨T1, L3, k4, n5⟩, -, X2, ⟨Lc6, hQ7, l8, y9, z10⟩, st11⟩ := Jvm.LawKit.callS X0 hx (y := (⟨"com/example/unbound_principals/unboundprincipals/AuthorizableKind", "values", "()[Lcom/example/unbound_principals/unboundprincipals/AuthorizableKind;"⟩ : MethodName)) hown (mvT hZ (tw hw 80 rfl)) (mvT hZ (tw hw 81 rfl)) (mvT hZ (tw hw 78 rfl)) (mvT hZ (tw hw 82 rfl)) (by decide) (backOf (W := 0) (rmVA l Z a0 hw [] va kv uUSER uSYSTEM_USER uGROUP h0 n0 Z0 O0 SVS EVA AVA) hZ (tw hw 82 rfl) (tw hw 78 rfl) (by decide) (by decide)) (g := (mkF m 0 #[.val .null, .unset, .unset, .unset, .unset] [])) rfl (by rw [hml]; rfl) (argsL := []) (rest := []) (lenOf pdVA rfl) rfl (leW rfl) (hb hby dON_0) (fun _ _ => ⟨rfl, e0, (leB rfl), (leB rfl)⟩)
  dsimp only [Pt.U, Pt.locs, Pt.cells, Pt.slots] at X2 l8 y9 z10 st11 hQ7
  subst y9 z10
  obtain ⟨x_pe21, rfl, N17, K18, fr_pe20, F_019⟩ := hQ7
  have N12 : Fr n0 L3 := by rw [l8]; exact Fr.app N0 N17
  have ne22 : uUSER ≠ x_pe21 := Nat.ne_of_lt (Nat.lt_of_lt_of_le FUSER1.lt fr_pe20)
  have ne23 : tUSER ≠ x_pe21 := Nat.ne_of_lt (Nat.lt_of_lt_of_le TUSER1.lt1 fr_pe20)
  have ne24 : tUSERt ≠ x_pe21 := Nat.ne_of_lt (Nat.lt_of_lt_of_le TUSER1.lt2 fr_pe20)
  have ne25 : uSYSTEM_USER ≠ x_pe21 := Nat.ne_of_lt (Nat.lt_of_lt_of_le FSYSTEM_USER1.lt fr_pe20)
  have ne26 : tSYSTEM_USER ≠ x_pe21 := Nat.ne_of_lt (Nat.lt_of_lt_of_le TSYSTEM_USER1.lt1 fr_pe20)
  have ne27 : tSYSTEM_USERt ≠ x_pe21 := Nat.ne_of_lt (Nat.lt_of_lt_of_le TSYSTEM_USER1.lt2 fr_pe20)
  have ne28 : uGROUP ≠ x_pe21 := Nat.ne_of_lt (Nat.lt_of_lt_of_le FGROUP1.lt fr_pe20)
  have ne29 : tGROUP ≠ x_pe21 := Nat.ne_of_lt (Nat.lt_of_lt_of_le TGROUP1.lt1 fr_pe20)
  have ne30 : tGROUPt ≠ x_pe21 := Nat.ne_of_lt (Nat.lt_of_lt_of_le TGROUP1.lt2 fr_pe20)
  have nw31 : n0 ≤ x_pe21 := Nat.le_trans Z0 fr_pe20
  have hk32 : h0.size ≤ x_pe21 := Nat.le_trans (Nat.le_refl h0.size) fr_pe20
  have F33 := FUSER1.keep K18 nin0
  have S34 := TUSER1.keep K18 nin0 nin0
  have F35 := FSYSTEM_USER1.keep K18 nin0
  have S36 := TSYSTEM_USER1.keep K18 nin0 nin0
  have F37 := FGROUP1.keep K18 nin0
  have S38 := TGROUP1.keep K18 nin0 nin0
  have Z39 := Nat.le_trans Z0 K18.1
  have O40 := O0.keep K18 all0
  have K41 := (Keep.refl h0 []).trans K18 all0
  have hz42 := Nat.le_trans (Nat.le_refl h0.size) K18.1
  refine Way.by st11 ?_
  show Way _ _ _ _ (T1.setTop (mkF m 3 #[.val .null, .unset, .unset, .unset, .unset] [(.ref x_pe21)]))
  refine Way.by (fun _ k => XS.astoreN X2.here hx rfl (hb hby dON_3) rfl rfl (l' := #[.val .null, rv x_pe21, .unset, .unset, .unset]) rfl k) ?_
  show Way _ _ _ _ (T1.setTop (mkF m 4 #[.val .null, rv x_pe21, .unset, .unset, .unset] []))
  refine Way.by (fun _ k => XS.aloadN X2.here hx rfl (hb hby dON_4) rfl rfl k) ?_
  show Way _ _ _ _ (T1.setTop (mkF m 5 #[.val .null, rv x_pe21, .unset, .unset, .unset] [(.ref x_pe21)]))
  obtain ⟨c43, A44, q45, S46, M47, H48, U49⟩ := id F_019
  refine Way.by (fun t k => Stand.arraylength X2 hx (hpE rfl A44.1) (arrS hZ A44) (g := (mkF m 5 #[.val .null, rv x_pe21, .unset, .unset, .unset] [(.ref x_pe21)])) rfl rfl (hb hby dON_5) t k) ?_
  rw [len_of S46 M47]
  show Way _ _ _ _ (T1.setTop (mkF m 6 #[.val .null, rv x_pe21, .unset, .unset, .unset] [(.int 3)]))
  refine Way.by (fun _ k => XS.istoreN X2.here hx rfl (hb hby dON_6) rfl (l' := #[.val .null, rv x_pe21, iv 3, .unset, .unset]) rfl k) ?_
  show Way _ _ _ _ (T1.setTop (mkF m 7 #[.val .null, rv x_pe21, iv 3, .unset, .unset] []))
  refine Way.by (fun _ k => XS.iconst X2.here hx rfl (hb hby dON_7) k) ?_
  show Way _ _ _ _ (T1.setTop (mkF m 8 #[.val .null, rv x_pe21, iv 3, .unset, .unset] [(.int 0)]))
  refine Way.by (fun _ k => XS.istoreN X2.here hx rfl (hb hby dON_8) rfl (l' := #[.val .null, rv x_pe21, iv 3, iv 0, .unset]) rfl k) ?_
  show Way _ _ _ _ (T1.setTop (mkF m 9 #[.val .null, rv x_pe21, iv 3, iv 0, .unset] []))
  refine Way.by (fun _ k => XS.iloadN X2.here hx rfl (hb hby dON_9) rfl k) ?_
  show Way _ _ _ _ (T1.setTop (mkF m 10 #[.val .null, rv x_pe21, iv 3, iv 0, .unset] [(.int 0)]))
  refine Way.by (fun _ k => XS.iloadN X2.here hx rfl (hb hby dON_10) rfl k) ?_
  show Way _ _ _ _ (T1.setTop (mkF m 11 #[.val .null, rv x_pe21, iv 3, iv 0, .unset] [(.int 3), (.int 0)]))
  have b50 : (0 : Int32) < (3 : Int32) := by decide
  refine Way.by (fun _ k => XS.icmpNo X2.here hx rfl (hb hby dON_11) rfl (tlt b50).2.1 k) ?_
  show Way _ _ _ _ (T1.setTop (mkF m 14 #[.val .null, rv x_pe21, iv 3, iv 0, .unset] []))
  refine Way.by (fun _ k => XS.aloadN X2.here hx rfl (hb hby dON_14) rfl rfl k) ?_
  show Way _ _ _ _ (T1.setTop (mkF m 15 #[.val .null, rv x_pe21, iv 3, iv 0, .unset] [(.ref x_pe21)]))
  refine Way.by (fun _ k => XS.iloadN X2.here hx rfl (hb hby dON_15) rfl k) ?_
  show Way _ _ _ _ (T1.setTop (mkF m 16 #[.val .null, rv x_pe21, iv 3, iv 0, .unset] [(.int 0), (.ref x_pe21)]))
  obtain ⟨c51, A52, q53, S54, M55, H56, U57⟩ := id F_019
  refine Way.by (fun t k => Stand.aaload X2 hx (hpE rfl A52.1) (arrS hZ A52) rfl A52.2.2 (inb_of S54 ⟨(by decide), (by decide)⟩) (Has.at H56 (inb_of S54 ⟨(by decide), (by decide)⟩) rfl) (g := (mkF m 16 #[.val .null, rv x_pe21, iv 3, iv 0, .unset] [(.int 0), (.ref x_pe21)])) rfl rfl (hb hby dON_16) t k) ?_
  show Way _ _ _ _ (T1.setTop (mkF m 17 #[.val .null, rv x_pe21, iv 3, iv 0, .unset] [(.ref uUSER)]))
  refine Way.by (fun _ k => XS.astore X2.here hx rfl (hb hby dON_17) rfl rfl (l' := #[.val .null, rv x_pe21, iv 3, iv 0, rv uUSER]) rfl k) ?_
  show Way _ _ _ _ (T1.setTop (mkF m 19 #[.val .null, rv x_pe21, iv 3, iv 0, rv uUSER] []))
  refine Way.by (fun _ k => XS.aload X2.here hx rfl (hb hby dON_19) rfl rfl k) ?_
  show Way _ _ _ _ (T1.setTop (mkF m 21 #[.val .null, rv x_pe21, iv 3, iv 0, rv uUSER] [(.ref uUSER)]))
  obtain ⟨T58, X59, e60, st61⟩ := getF X2 hx hZ hown (host := "") (Or.inl (tw hw 98 rfl)) Via.refl rfl F33 (g := (mkF m 21 #[.val .null, rv x_pe21, iv 3, iv 0, rv uUSER] [(.ref uUSER)])) rfl rfl (hb hby dON_21)
  refine Way.by st61 ?_
  show Way _ _ _ _ (T58.setTop (mkF m 24 #[.val .null, rv x_pe21, iv 3, iv 0, rv uUSER] [(.ref tUSER)]))
  refine Way.by (fun _ k => XS.aloadN X59.here hx rfl (hb hby dON_24) rfl rfl k) ?_
  show Way _ _ _ _ (T58.setTop (mkF m 25 #[.val .null, rv x_pe21, iv 3, iv 0, rv uUSER] [.null, (.ref tUSER)]))
  obtain ⟨cq78, kq79, qa80, qb81, qc82⟩ := isOf hZ e60 S34.1
  obtain ⟨_, _, ⟨T62, L64, k65, n66⟩, -, X63, ⟨Lc67, hQ68, l69, y70, z71⟩, st72⟩ := X59.virtualBack hx (y := (⟨"java/lang/String", "equals", "(Ljava/lang/Object;)Z"⟩ : MethodName)) (z := (⟨"java/lang/String", "equals", "(Ljava/lang/Object;)Z"⟩ : MethodName)) hown (mvT hZ (tw hw 100 rfl)) (mvT hZ (tw hw 101 rfl)) (notFace_of_selects (args := #[]) (mvT hZ (tw hw 103 rfl))) (mvT hZ (tw hw 103 rfl)) (mvT hZ (tw hw 102 rfl)) (by decide) (backOf (W := 0) (rmEZ l Z a0 hw [] tUSER T1.heap n0 Z39 ) hZ (tw hw 104 rfl) (tw hw 2 rfl) (by decide) (by decide)) qa80 qc82 (g := (mkF m 25 #[.val .null, rv x_pe21, iv 3, iv 0, rv uUSER] [.null, (.ref tUSER)])) rfl (by rw [hml]; rfl) (Steps.refl _) (argsL := [.null]) (rest := []) (lenOf pdEZ rfl) rfl (leW rfl) (hb hby dON_25) (fun _ _ => ⟨rfl, e60, (leB rfl), (leB rfl)⟩)
  dsimp only [Pt.U, Pt.locs, Pt.cells, Pt.slots] at X63 l69 y70 z71 st72 hQ68
  subst y70 z71
  obtain ⟨rfl, N83, e74⟩ := hQ68
  have N73 : Fr n0 L64 := by rw [l69]; exact Fr.app N12 N83
  refine Way.to st72 ?_
  show Way _ _ _ _ (T62.setTop (mkF m 28 #[.val .null, rv x_pe21, iv 3, iv 0, rv uUSER] [(.int 0)]))
  try clear N12 X59 e60 st72 cq78 kq79 qa80 qb81 qc82 N83
  try clear T58
  have b85 : (0 : Int32) = (0 : Int32) := by decide
  refine Way.by (fun _ k => XS.ifYes X63.here hx rfl (pc0 := 28) (pc' := 34) rfl (hb hby dON_28) rfl ((if0 .eq _).trans (teq b85).1) (by decide) (by decide) k) ?_
  show Way _ _ _ _ (T62.setTop (mkF m 34 #[.val .null, rv x_pe21, iv 3, iv 0, rv uUSER] []))
  refine Way.by (fun _ k => XS.iinc X63.here hx rfl (hb hby dON_34) rfl (l' := #[.val .null, rv x_pe21, iv 3, iv 1, rv uUSER]) rfl k) ?_
  show Way _ _ _ _ (T62.setTop (mkF m 37 #[.val .null, rv x_pe21, iv 3, iv 1, rv uUSER] []))
  refine Way.by (fun _ k => XS.goto X63.here hx rfl (pc0 := 37) (pc' := 9) rfl (hb hby dON_37) (by decide) (by decide) k) ?_
  show Way _ _ _ _ (T62.setTop (mkF m 9 #[.val .null, rv x_pe21, iv 3, iv 1, rv uUSER] []))
  refine Way.by (fun _ k => XS.iloadN X63.here hx rfl (hb hby dON_9) rfl k) ?_
  show Way _ _ _ _ (T62.setTop (mkF m 10 #[.val .null, rv x_pe21, iv 3, iv 1, rv uUSER] [(.int 1)]))
  refine Way.by (fun _ k => XS.iloadN X63.here hx rfl (hb hby dON_10) rfl k) ?_
  show Way _ _ _ _ (T62.setTop (mkF m 11 #[.val .null, rv x_pe21, iv 3, iv 1, rv uUSER] [(.int 3), (.int 1)]))
  have b86 : (1 : Int32) < (3 : Int32) := by decide
  refine Way.by (fun _ k => XS.icmpNo X63.here hx rfl (hb hby dON_11) rfl (tlt b86).2.1 k) ?_
  show Way _ _ _ _ (T62.setTop (mkF m 14 #[.val .null, rv x_pe21, iv 3, iv 1, rv uUSER] []))
  refine Way.by (fun _ k => XS.aloadN X63.here hx rfl (hb hby dON_14) rfl rfl k) ?_
  show Way _ _ _ _ (T62.setTop (mkF m 15 #[.val .null, rv x_pe21, iv 3, iv 1, rv uUSER] [(.ref x_pe21)]))
  refine Way.by (fun _ k => XS.iloadN X63.here hx rfl (hb hby dON_15) rfl k) ?_
  show Way _ _ _ _ (T62.setTop (mkF m 16 #[.val .null, rv x_pe21, iv 3, iv 1, rv uUSER] [(.int 1), (.ref x_pe21)]))
  obtain ⟨c87, A88, q89, S90, M91, H92, U93⟩ := id F_019
  refine Way.by (fun t k => Stand.aaload X63 hx (hpE e74 A88.1) (arrS hZ A88) rfl A88.2.2 (inb_of S90 ⟨(by decide), (by decide)⟩) (Has.at H92 (inb_of S90 ⟨(by decide), (by decide)⟩) rfl) (g := (mkF m 16 #[.val .null, rv x_pe21, iv 3, iv 1, rv uUSER] [(.int 1), (.ref x_pe21)])) rfl rfl (hb hby dON_16) t k) ?_
  show Way _ _ _ _ (T62.setTop (mkF m 17 #[.val .null, rv x_pe21, iv 3, iv 1, rv uUSER] [(.ref uSYSTEM_USER)]))
  refine Way.by (fun _ k => XS.astore X63.here hx rfl (hb hby dON_17) rfl rfl (l' := #[.val .null, rv x_pe21, iv 3, iv 1, rv uSYSTEM_USER]) rfl k) ?_
  show Way _ _ _ _ (T62.setTop (mkF m 19 #[.val .null, rv x_pe21, iv 3, iv 1, rv uSYSTEM_USER] []))
  refine Way.by (fun _ k => XS.aload X63.here hx rfl (hb hby dON_19) rfl rfl k) ?_
  show Way _ _ _ _ (T62.setTop (mkF m 21 #[.val .null, rv x_pe21, iv 3, iv 1, rv uSYSTEM_USER] [(.ref uSYSTEM_USER)]))
  obtain ⟨T94, X95, e96, st97⟩ := getF X63 hx hZ hown (host := "") (Or.inl (tw hw 98 rfl)) Via.refl e74 F35 (g := (mkF m 21 #[.val .null, rv x_pe21, iv 3, iv 1, rv uSYSTEM_USER] [(.ref uSYSTEM_USER)])) rfl rfl (hb hby dON_21)
  refine Way.by st97 ?_
  show Way _ _ _ _ (T94.setTop (mkF m 24 #[.val .null, rv x_pe21, iv 3, iv 1, rv uSYSTEM_USER] [(.ref tSYSTEM_USER)]))
  refine Way.by (fun _ k => XS.aloadN X95.here hx rfl (hb hby dON_24) rfl rfl k) ?_
  show Way _ _ _ _ (T94.setTop (mkF m 25 #[.val .null, rv x_pe21, iv 3, iv 1, rv uSYSTEM_USER] [.null, (.ref tSYSTEM_USER)]))
  obtain ⟨cq114, kq115, qa116, qb117, qc118⟩ := isOf hZ e96 S36.1
  obtain ⟨_, _, ⟨T98, L100, k101, n102⟩, -, X99, ⟨Lc103, hQ104, l105, y106, z107⟩, st108⟩ := X95.virtualBack hx (y := (⟨"java/lang/String", "equals", "(Ljava/lang/Object;)Z"⟩ : MethodName)) (z := (⟨"java/lang/String", "equals", "(Ljava/lang/Object;)Z"⟩ : MethodName)) hown (mvT hZ (tw hw 100 rfl)) (mvT hZ (tw hw 101 rfl)) (notFace_of_selects (args := #[]) (mvT hZ (tw hw 103 rfl))) (mvT hZ (tw hw 103 rfl)) (mvT hZ (tw hw 102 rfl)) (by decide) (backOf (W := 0) (rmEZ l Z a0 hw [] tSYSTEM_USER T1.heap n0 Z39 ) hZ (tw hw 104 rfl) (tw hw 2 rfl) (by decide) (by decide)) qa116 qc118 (g := (mkF m 25 #[.val .null, rv x_pe21, iv 3, iv 1, rv uSYSTEM_USER] [.null, (.ref tSYSTEM_USER)])) rfl (by rw [hml]; rfl) (Steps.refl _) (argsL := [.null]) (rest := []) (lenOf pdEZ rfl) rfl (leW rfl) (hb hby dON_25) (fun _ _ => ⟨rfl, e96, (leB rfl), (leB rfl)⟩)
  dsimp only [Pt.U, Pt.locs, Pt.cells, Pt.slots] at X99 l105 y106 z107 st108 hQ104
  subst y106 z107
  obtain ⟨rfl, N119, e110⟩ := hQ104
  have N109 : Fr n0 L100 := by rw [l105]; exact Fr.app N73 N119
  refine Way.to st108 ?_
  show Way _ _ _ _ (T98.setTop (mkF m 28 #[.val .null, rv x_pe21, iv 3, iv 1, rv uSYSTEM_USER] [(.int 0)]))
  try clear N73 X95 e96 st108 cq114 kq115 qa116 qb117 qc118 N119
  try clear T94
  have b121 : (0 : Int32) = (0 : Int32) := by decide
  refine Way.by (fun _ k => XS.ifYes X99.here hx rfl (pc0 := 28) (pc' := 34) rfl (hb hby dON_28) rfl ((if0 .eq _).trans (teq b121).1) (by decide) (by decide) k) ?_
  show Way _ _ _ _ (T98.setTop (mkF m 34 #[.val .null, rv x_pe21, iv 3, iv 1, rv uSYSTEM_USER] []))
  refine Way.by (fun _ k => XS.iinc X99.here hx rfl (hb hby dON_34) rfl (l' := #[.val .null, rv x_pe21, iv 3, iv 2, rv uSYSTEM_USER]) rfl k) ?_
  show Way _ _ _ _ (T98.setTop (mkF m 37 #[.val .null, rv x_pe21, iv 3, iv 2, rv uSYSTEM_USER] []))
  refine Way.by (fun _ k => XS.goto X99.here hx rfl (pc0 := 37) (pc' := 9) rfl (hb hby dON_37) (by decide) (by decide) k) ?_
  show Way _ _ _ _ (T98.setTop (mkF m 9 #[.val .null, rv x_pe21, iv 3, iv 2, rv uSYSTEM_USER] []))
  refine Way.by (fun _ k => XS.iloadN X99.here hx rfl (hb hby dON_9) rfl k) ?_
  show Way _ _ _ _ (T98.setTop (mkF m 10 #[.val .null, rv x_pe21, iv 3, iv 2, rv uSYSTEM_USER] [(.int 2)]))
  refine Way.by (fun _ k => XS.iloadN X99.here hx rfl (hb hby dON_10) rfl k) ?_
  show Way _ _ _ _ (T98.setTop (mkF m 11 #[.val .null, rv x_pe21, iv 3, iv 2, rv uSYSTEM_USER] [(.int 3), (.int 2)]))
  have b122 : (2 : Int32) < (3 : Int32) := by decide
  refine Way.by (fun _ k => XS.icmpNo X99.here hx rfl (hb hby dON_11) rfl (tlt b122).2.1 k) ?_
  show Way _ _ _ _ (T98.setTop (mkF m 14 #[.val .null, rv x_pe21, iv 3, iv 2, rv uSYSTEM_USER] []))
  refine Way.by (fun _ k => XS.aloadN X99.here hx rfl (hb hby dON_14) rfl rfl k) ?_
  show Way _ _ _ _ (T98.setTop (mkF m 15 #[.val .null, rv x_pe21, iv 3, iv 2, rv uSYSTEM_USER] [(.ref x_pe21)]))
  refine Way.by (fun _ k => XS.iloadN X99.here hx rfl (hb hby dON_15) rfl k) ?_
  show Way _ _ _ _ (T98.setTop (mkF m 16 #[.val .null, rv x_pe21, iv 3, iv 2, rv uSYSTEM_USER] [(.int 2), (.ref x_pe21)]))
  obtain ⟨c123, A124, q125, S126, M127, H128, U129⟩ := id F_019
  refine Way.by (fun t k => Stand.aaload X99 hx (hpE e110 A124.1) (arrS hZ A124) rfl A124.2.2 (inb_of S126 ⟨(by decide), (by decide)⟩) (Has.at H128 (inb_of S126 ⟨(by decide), (by decide)⟩) rfl) (g := (mkF m 16 #[.val .null, rv x_pe21, iv 3, iv 2, rv uSYSTEM_USER] [(.int 2), (.ref x_pe21)])) rfl rfl (hb hby dON_16) t k) ?_
  show Way _ _ _ _ (T98.setTop (mkF m 17 #[.val .null, rv x_pe21, iv 3, iv 2, rv uSYSTEM_USER] [(.ref uGROUP)]))
  refine Way.by (fun _ k => XS.astore X99.here hx rfl (hb hby dON_17) rfl rfl (l' := #[.val .null, rv x_pe21, iv 3, iv 2, rv uGROUP]) rfl k) ?_
  show Way _ _ _ _ (T98.setTop (mkF m 19 #[.val .null, rv x_pe21, iv 3, iv 2, rv uGROUP] []))
  refine Way.by (fun _ k => XS.aload X99.here hx rfl (hb hby dON_19) rfl rfl k) ?_
  show Way _ _ _ _ (T98.setTop (mkF m 21 #[.val .null, rv x_pe21, iv 3, iv 2, rv uGROUP] [(.ref uGROUP)]))
  obtain ⟨T130, X131, e132, st133⟩ := getF X99 hx hZ hown (host := "") (Or.inl (tw hw 98 rfl)) Via.refl e110 F37 (g := (mkF m 21 #[.val .null, rv x_pe21, iv 3, iv 2, rv uGROUP] [(.ref uGROUP)])) rfl rfl (hb hby dON_21)
  refine Way.by st133 ?_
  show Way _ _ _ _ (T130.setTop (mkF m 24 #[.val .null, rv x_pe21, iv 3, iv 2, rv uGROUP] [(.ref tGROUP)]))
  refine Way.by (fun _ k => XS.aloadN X131.here hx rfl (hb hby dON_24) rfl rfl k) ?_
  show Way _ _ _ _ (T130.setTop (mkF m 25 #[.val .null, rv x_pe21, iv 3, iv 2, rv uGROUP] [.null, (.ref tGROUP)]))
  obtain ⟨cq150, kq151, qa152, qb153, qc154⟩ := isOf hZ e132 S38.1
  obtain ⟨_, _, ⟨T134, L136, k137, n138⟩, -, X135, ⟨Lc139, hQ140, l141, y142, z143⟩, st144⟩ := X131.virtualBack hx (y := (⟨"java/lang/String", "equals", "(Ljava/lang/Object;)Z"⟩ : MethodName)) (z := (⟨"java/lang/String", "equals", "(Ljava/lang/Object;)Z"⟩ : MethodName)) hown (mvT hZ (tw hw 100 rfl)) (mvT hZ (tw hw 101 rfl)) (notFace_of_selects (args := #[]) (mvT hZ (tw hw 103 rfl))) (mvT hZ (tw hw 103 rfl)) (mvT hZ (tw hw 102 rfl)) (by decide) (backOf (W := 0) (rmEZ l Z a0 hw [] tGROUP T1.heap n0 Z39 ) hZ (tw hw 104 rfl) (tw hw 2 rfl) (by decide) (by decide)) qa152 qc154 (g := (mkF m 25 #[.val .null, rv x_pe21, iv 3, iv 2, rv uGROUP] [.null, (.ref tGROUP)])) rfl (by rw [hml]; rfl) (Steps.refl _) (argsL := [.null]) (rest := []) (lenOf pdEZ rfl) rfl (leW rfl) (hb hby dON_25) (fun _ _ => ⟨rfl, e132, (leB rfl), (leB rfl)⟩)
  dsimp only [Pt.U, Pt.locs, Pt.cells, Pt.slots] at X135 l141 y142 z143 st144 hQ140
  subst y142 z143
  obtain ⟨rfl, N155, e146⟩ := hQ140
  have N145 : Fr n0 L136 := by rw [l141]; exact Fr.app N109 N155
  refine Way.to st144 ?_
  show Way _ _ _ _ (T134.setTop (mkF m 28 #[.val .null, rv x_pe21, iv 3, iv 2, rv uGROUP] [(.int 0)]))
  try clear N109 X131 e132 st144 cq150 kq151 qa152 qb153 qc154 N155
  try clear T130
  have b157 : (0 : Int32) = (0 : Int32) := by decide
  refine Way.by (fun _ k => XS.ifYes X135.here hx rfl (pc0 := 28) (pc' := 34) rfl (hb hby dON_28) rfl ((if0 .eq _).trans (teq b157).1) (by decide) (by decide) k) ?_
  show Way _ _ _ _ (T134.setTop (mkF m 34 #[.val .null, rv x_pe21, iv 3, iv 2, rv uGROUP] []))
  refine Way.by (fun _ k => XS.iinc X135.here hx rfl (hb hby dON_34) rfl (l' := #[.val .null, rv x_pe21, iv 3, iv 3, rv uGROUP]) rfl k) ?_
  show Way _ _ _ _ (T134.setTop (mkF m 37 #[.val .null, rv x_pe21, iv 3, iv 3, rv uGROUP] []))
  refine Way.by (fun _ k => XS.goto X135.here hx rfl (pc0 := 37) (pc' := 9) rfl (hb hby dON_37) (by decide) (by decide) k) ?_
  show Way _ _ _ _ (T134.setTop (mkF m 9 #[.val .null, rv x_pe21, iv 3, iv 3, rv uGROUP] []))
  refine Way.by (fun _ k => XS.iloadN X135.here hx rfl (hb hby dON_9) rfl k) ?_
  show Way _ _ _ _ (T134.setTop (mkF m 10 #[.val .null, rv x_pe21, iv 3, iv 3, rv uGROUP] [(.int 3)]))
  refine Way.by (fun _ k => XS.iloadN X135.here hx rfl (hb hby dON_10) rfl k) ?_
  show Way _ _ _ _ (T134.setTop (mkF m 11 #[.val .null, rv x_pe21, iv 3, iv 3, rv uGROUP] [(.int 3), (.int 3)]))
  have b158 : ¬ (3 : Int32) < (3 : Int32) := by decide
  refine Way.by (fun _ k => XS.icmpYes X135.here hx rfl (pc0 := 11) (pc' := 40) rfl (hb hby dON_11) rfl (flt b158).2.1 (by decide) (by decide) k) ?_
  show Way _ _ _ _ (T134.setTop (mkF m 40 #[.val .null, rv x_pe21, iv 3, iv 3, rv uGROUP] []))
  refine Way.by (fun _ k => XS.aconstNull X135.here hx rfl (hb hby dON_40) k) ?_
  show Way _ _ _ _ (T134.setTop (mkF m 41 #[.val .null, rv x_pe21, iv 3, iv 3, rv uGROUP] [.null]))
  refine Way.ret (v := (some .null)) X135 hlk (fun h => by rw [Bd.returns] at h; cases h) (fun fs hr => retOut X135 hx Bd.returns rfl (Or.inr (Or.inr (Or.inr (Or.inr ⟨rfl, rfl, rfl⟩)))) (hb hby dON_41) hr) ?_ (by decide) (by decide)
  show QOM Z va kv uUSER uSYSTEM_USER uGROUP tUSER tSYSTEM_USER tGROUP tUSERt tSYSTEM_USERt tGROUPt h0 n0 _ T134.heap _
  rw [e146]
  exact ⟨rfl, N145, K41⟩
def QXN (Z : State)  (h0 : Heap) (n0 : Nat) (v : Option Value) (h : Heap) (L : List Loc) : Prop := v = some .null ∧ Fr n0 L ∧ h = h0
theorem dXN_0 : decode method_3_code 0 = .ok (.aload_n 0, 1) := by decide +kernel
theorem dXN_1 : decode method_3_code 1 = .ok (.ifnonnull 5, 3) := by decide +kernel
theorem dXN_4 : decode method_3_code 4 = .ok (.aconst_null, 1) := by decide +kernel
theorem dXN_5 : decode method_3_code 5 = .ok (.areturn, 1) := by decide +kernel
theorem rmXN (l : Launch) (Z : State) (a0 : Array Value) (hw : ∀ d ∈ tables_1, d.before a0 Z = true) (ws : List Jvm.Cond)  (h0 : Heap) (n0 : Nat) (Z0 : n0 ≤ h0.size)  :
    MetFree l (⟨"com/example/unbound_principals/unboundprincipals/AuthorizableKindOfNodeTypePinLaw", "expected", "(Ljava/lang/String;)Lcom/example/unbound_principals/unboundprincipals/AuthorizableKind;"⟩ : MethodName) (head1 (Jvm.Cond.code (⟨"com/example/unbound_principals/unboundprincipals/AuthorizableKindOfNodeTypePinLaw", "expected", "(Ljava/lang/String;)Lcom/example/unbound_principals/unboundprincipals/AuthorizableKind;"⟩ : MethodName) method_3_code 1 (some (.object "com/example/unbound_principals/unboundprincipals/AuthorizableKind")) :: ws) ({ frames := 0, cells := 0, slots := 0, locals := 0 } : Room)) (fun aa U => aa = #[.null] ∧ Z.Warmed39 U.vm ∧ U.heap = h0) (fun _ _ _ _ _ => True) (fun _ U oo U' => ∃ v L, oo = .returned v ∧ QXN Z  h0 n0 v U'.heap L ∧ FrameEnd U oo U' L ({ frames := 0, cells := 0, slots := 0, locals := 0 } : Room).cells ({ frames := 0, cells := 0, slots := 0, locals := 0 } : Room).slots) := by
  refine MetFree.of_bodySF (plainFor_of_name pnGE) hisR ?_
  intro p e s m args below meth c s₁ Bd hml0 hP hK
  obtain ⟨rfl, hZ, hh⟩ := hP
  have hx := Bd.exec
  have hby := Bd.bytes
  have hlk : meth.locks = false := BodyLoose.notSynchronized Bd
  have hml : c.maxLocals = 1 := hml0
  have hown : s.vm.findClass "com/example/unbound_principals/unboundprincipals/AuthorizableKindOfNodeTypePinLaw" = some m.cls := findClass_of_methodNamed Bd.named
  have hnm := (name_of_methodNamed Bd.named Bd.method).1
  have X0 : Stand p l e ({ frames := 0, cells := 0, slots := 0, locals := 0 } : Room) s m #[.null] below meth c s₁ [] 0 0 := Stand.of_body Bd
  have e0 : s₁.heap = h0 := by rw [← hh, Bd.state]; rfl
  have N0 := Fr.nil n0
  have ef : entryFrame m #[.null] 1 = mkF m 0 #[.val .null] [] := by first | (simp [entryFrame, mkF, argsToLocals, Value.category, maxLocals]; done) | rfl
  show Way p.tables e below (KQ s (QXN Z  h0 n0) ({ frames := 0, cells := 0, slots := 0, locals := 0 } : Room).cells ({ frames := 0, cells := 0, slots := 0, locals := 0 } : Room).slots) (s₁.setTop (entryFrame m #[.null] 1))
  rw [ef]
  refine Way.by (fun _ k => XS.aloadN X0.here hx rfl (hb hby dXN_0) rfl rfl k) ?_
  show Way _ _ _ _ (s₁.setTop (mkF m 1 #[.val .null] [.null]))
  refine Way.by (fun _ k => XT.ifnonnullNo X0.here hx rfl (hb hby dXN_1) rfl k) ?_
  show Way _ _ _ _ (s₁.setTop (mkF m 4 #[.val .null] []))
  refine Way.by (fun _ k => XS.aconstNull X0.here hx rfl (hb hby dXN_4) k) ?_
  show Way _ _ _ _ (s₁.setTop (mkF m 5 #[.val .null] [.null]))
  refine Way.ret (v := (some .null)) X0 hlk (fun h => by rw [Bd.returns] at h; cases h) (fun fs hr => retOut X0 hx Bd.returns rfl (Or.inr (Or.inr (Or.inr (Or.inr ⟨rfl, rfl, rfl⟩)))) (hb hby dXN_5) hr) ?_ (by decide) (by decide)
  show QXN Z  h0 n0 _ s₁.heap _
  rw [e0]
  exact ⟨rfl, N0, rfl⟩
theorem own_ite2 {a b : List Int32} : ((if a = b then (1 : Int32) else 0) = 0) = ¬ (a = b) := by
  by_cases h : a = b <;> simp [h]
def QXP (Z : State) (px : Addr) (pt : Addr) (cs : List Int32) (uUSER : Addr) (uSYSTEM_USER : Addr) (uGROUP : Addr) (h0 : Heap) (n0 : Nat) (v : Option Value) (h : Heap) (L : List Loc) : Prop := v = some (own_kind cs uUSER uSYSTEM_USER uGROUP) ∧ Fr n0 L ∧ Keep h0 h []
theorem dXP_6 : decode method_3_code 6 = .ok (.aload_n 0, 1) := by decide +kernel
theorem dXP_7 : decode method_3_code 7 = .ok (.ldc 8, 2) := by decide +kernel
theorem dXP_9 : decode method_3_code 9 = .ok (.invokevirtual 42, 3) := by decide +kernel
theorem dXP_12 : decode method_3_code 12 = .ok (.ifCond .eq 7, 3) := by decide +kernel
theorem dXP_15 : decode method_3_code 15 = .ok (.getstatic 46, 3) := by decide +kernel
theorem dXP_18 : decode method_3_code 18 = .ok (.areturn, 1) := by decide +kernel
theorem dXP_19 : decode method_3_code 19 = .ok (.aload_n 0, 1) := by decide +kernel
theorem dXP_20 : decode method_3_code 20 = .ok (.ldc 10, 2) := by decide +kernel
theorem dXP_22 : decode method_3_code 22 = .ok (.invokevirtual 42, 3) := by decide +kernel
theorem dXP_25 : decode method_3_code 25 = .ok (.ifCond .eq 7, 3) := by decide +kernel
theorem dXP_28 : decode method_3_code 28 = .ok (.getstatic 50, 3) := by decide +kernel
theorem dXP_31 : decode method_3_code 31 = .ok (.areturn, 1) := by decide +kernel
theorem dXP_32 : decode method_3_code 32 = .ok (.aload_n 0, 1) := by decide +kernel
theorem dXP_33 : decode method_3_code 33 = .ok (.ldc 12, 2) := by decide +kernel
theorem dXP_35 : decode method_3_code 35 = .ok (.invokevirtual 42, 3) := by decide +kernel
theorem dXP_38 : decode method_3_code 38 = .ok (.ifCond .eq 7, 3) := by decide +kernel
theorem dXP_41 : decode method_3_code 41 = .ok (.getstatic 53, 3) := by decide +kernel
theorem dXP_44 : decode method_3_code 44 = .ok (.areturn, 1) := by decide +kernel
theorem dXP_45 : decode method_3_code 45 = .ok (.aconst_null, 1) := by decide +kernel
theorem dXP_46 : decode method_3_code 46 = .ok (.areturn, 1) := by decide +kernel
theorem rmXP (l : Launch) (Z : State) (a0 : Array Value) (hw : ∀ d ∈ tables_1, d.before a0 Z = true) (ws : List Jvm.Cond) (px : Addr) (pt : Addr) (cs : List Int32) (uUSER : Addr) (uSYSTEM_USER : Addr) (uGROUP : Addr) (h0 : Heap) (n0 : Nat) (Z0 : n0 ≤ h0.size) (H0 : own_Str Z h0 px pt cs) (O0 : Old Z n0 h0) (SV : own_Env Z) (SUSER : Sta Z Z.heap "com/example/unbound_principals/unboundprincipals/AuthorizableKind" "USER" "Lcom/example/unbound_principals/unboundprincipals/AuthorizableKind;" (.ref uUSER)) (SSYSTEM_USER : Sta Z Z.heap "com/example/unbound_principals/unboundprincipals/AuthorizableKind" "SYSTEM_USER" "Lcom/example/unbound_principals/unboundprincipals/AuthorizableKind;" (.ref uSYSTEM_USER)) (SGROUP : Sta Z Z.heap "com/example/unbound_principals/unboundprincipals/AuthorizableKind" "GROUP" "Lcom/example/unbound_principals/unboundprincipals/AuthorizableKind;" (.ref uGROUP)) :
    MetFree l (⟨"com/example/unbound_principals/unboundprincipals/AuthorizableKindOfNodeTypePinLaw", "expected", "(Ljava/lang/String;)Lcom/example/unbound_principals/unboundprincipals/AuthorizableKind;"⟩ : MethodName) (head1 (Jvm.Cond.code (⟨"com/example/unbound_principals/unboundprincipals/AuthorizableKindOfNodeTypePinLaw", "expected", "(Ljava/lang/String;)Lcom/example/unbound_principals/unboundprincipals/AuthorizableKind;"⟩ : MethodName) method_3_code 1 (some (.object "com/example/unbound_principals/unboundprincipals/AuthorizableKind")) :: ws) ({ frames := 2, cells := 6, slots := 136, locals := 40 } : Room)) (fun aa U => aa = #[(.ref px)] ∧ Z.Warmed39 U.vm ∧ U.heap = h0 ∧ CHv Z own_EL U.vm h0) (fun _ _ _ _ _ => True) (fun _ U oo U' => ∃ v L, oo = .returned v ∧ QXP Z px pt cs uUSER uSYSTEM_USER uGROUP h0 n0 v U'.heap L ∧ CHr Z own_EL U.vm U.heap U'.vm U'.heap ∧ ReturnedEndW U oo U' L ({ frames := 2, cells := 6, slots := 136, locals := 40 } : Room).cells ({ frames := 2, cells := 6, slots := 136, locals := 40 } : Room).slots) := by
  refine MetFree.of_bodySF (plainFor_of_name pnGE) hisR ?_
  intro p e s m args below meth c s₁ Bd hml0 hP hK
  obtain ⟨rfl, hZ, hh, HV0⟩ := hP
  have hx := Bd.exec
  have hby := Bd.bytes
  have hlk : meth.locks = false := BodyLoose.notSynchronized Bd
  have hml : c.maxLocals = 1 := hml0
  have hown : s.vm.findClass "com/example/unbound_principals/unboundprincipals/AuthorizableKindOfNodeTypePinLaw" = some m.cls := findClass_of_methodNamed Bd.named
  have hnm := (name_of_methodNamed Bd.named Bd.method).1
  have X0 : Stand p l e ({ frames := 2, cells := 6, slots := 136, locals := 40 } : Room) s m #[(.ref px)] below meth c s₁ [] 0 0 := Stand.of_body Bd
  have e0 : s₁.heap = h0 := by rw [← hh, Bd.state]; rfl
  have N0 := Fr.nil n0
  have ef : entryFrame m #[(.ref px)] 1 = mkF m 0 #[rv px] [] := by first | (simp [entryFrame, mkF, argsToLocals, Value.category, maxLocals]; done) | rfl
  have XW : Stand p l e ({ frames := 2, cells := 6, slots := 136, locals := 40 } : Room) (s.setVm s.vm) m #[(.ref px)] below meth c s₁ [] 0 0 := X0
  have hS0 : s.Since s.vm 0 := (State.WarmedH.refl s).since 0
  have hZ0 : Z.Warmed39 (s.setVm s.vm).vm := hZ
  have hown0 : (s.setVm s.vm).vm.findClass "com/example/unbound_principals/unboundprincipals/AuthorizableKindOfNodeTypePinLaw" = some m.cls := hown
  have wS : ∀ d ∈ Bundle.stringAtoms, d.before a0 Z = true := fun d hd => hw d (own_wS d hd)
  have hEL : EW Z a0 own_EL := own_EW hw
  have CH0 : CHr Z own_EL s.vm h0 s.vm h0 := CHr.refl HV0
  show Way p.tables e below (KQH s Z own_EL (QXP Z px pt cs uUSER uSYSTEM_USER uGROUP h0 n0) ({ frames := 2, cells := 6, slots := 136, locals := 40 } : Room).cells ({ frames := 2, cells := 6, slots := 136, locals := 40 } : Room).slots) (s₁.setTop (entryFrame m #[(.ref px)] 1))
  rw [ef]
  refine Way.by (fun _ k => XS.aloadN XW.here hx rfl (hb hby dXN_0) rfl rfl k) ?_
  show Way _ _ _ _ (s₁.setTop (mkF m 1 #[rv px] [(.ref px)]))
  refine Way.by (fun _ k => XT.ifnonnullYes XW.here hx rfl (pc0 := 1) (pc' := 6) rfl (hb hby dXN_1) rfl (by decide) (by decide) k) ?_
  show Way _ _ _ _ (s₁.setTop (mkF m 6 #[rv px] []))
  refine Way.by (fun _ k => XS.aloadN XW.here hx rfl (hb hby dXP_6) rfl rfl k) ?_
  show Way _ _ _ _ (s₁.setTop (mkF m 7 #[rv px] [(.ref px)]))
  obtain ⟨a1, T2, h3, k4, bd5, kc6, X7, e8, E9, hS10, hk11, hZ12, hown13, Ex14, Co15, Va16, Ar17, la18, lb19, hr20, lit21, sfn22, st23⟩ := ldcCH XW hx hZ0 hown0 (tw hw 1 rfl) wS e0 hS0 (Nat.zero_le _) hEL (by decide) HV0 (vs := ([114, 101, 112, 58, 85, 115, 101, 114] : List Int32).map fun c => Value.int (StrChars.lo8 c)) (z := (8 : Int32)) ⟨by decide, by decide⟩ (by decide) rfl (g := (mkF m 7 #[rv px] [(.ref px)])) rfl (hb hby dXP_7) (n := 32) (by decide) (by decide) (by decide) (by decide)
  have H24 := hr20.1
  have CH25 := CH0.trans hr20
  have S27 := H0.ext E9
  have Z28 := Nat.le_trans Z0 E9.1
  have O29 := O0.ext E9
  have K30 := (Keep.refl h0 []).ext E9
  have hz31 := Nat.le_trans (Nat.le_refl h0.size) E9.1
  have F32 : own_Str Z h3 a1 bd5 [114, 101, 112, 58, 85, 115, 101, 114] := ⟨Ex14, Va16, Co15, ⟨_, _, _, Ar17, Or.inl ⟨rfl, rfl, rfl, by decide⟩⟩, by decide, by decide⟩
  refine Way.by st23 ?_
  show Way _ _ _ _ (T2.setTop (mkF m 9 #[rv px] [(.ref a1), (.ref px)]))
  obtain ⟨cq49, kq50, qa51, qb52, qc53⟩ := isOf hZ12 e8 S27.1
  obtain ⟨_, _, ⟨T33, L35, k36, n37⟩, -, X34, ⟨Lc38, hQ39, l40, y41, z42⟩, st43⟩ := X7.virtualBack hx (y := (⟨"java/lang/String", "equals", "(Ljava/lang/Object;)Z"⟩ : MethodName)) (z := (⟨"java/lang/String", "equals", "(Ljava/lang/Object;)Z"⟩ : MethodName)) hown13 (mvT hZ12 (tw hw 112 rfl)) (mvT hZ12 (tw hw 101 rfl)) (notFace_of_selects (args := #[]) (mvT hZ12 (tw hw 103 rfl))) (mvT hZ12 (tw hw 103 rfl)) (mvT hZ12 (tw hw 102 rfl)) (by decide) (own_eqs (W := 0) (n0 := n0) hZ12 hw SV O29 (cs := cs) (ds := [114, 101, 112, 58, 85, 115, 101, 114]) S27 F32 (by decide) (by decide)) qa51 qc53 (g := (mkF m 9 #[rv px] [(.ref a1), (.ref px)])) rfl (by rw [hml]; rfl) (Steps.refl _) (argsL := [(.ref a1)]) (rest := []) (lenOf own_pdEq rfl) rfl (leW rfl) (hb hby dXP_9) (fun _ _ => ⟨rfl, e8, (leB rfl), (leB rfl)⟩)
  dsimp only [Pt.U, Pt.locs, Pt.cells, Pt.slots] at X34 l40 y41 z42 st43 hQ39
  subst y41 z42
  obtain ⟨rfl, N54, e45⟩ := hQ39
  have N44 : Fr n0 L35 := by rw [l40]; exact Fr.app N0 N54
  refine Way.to st43 ?_
  show Way _ _ _ _ (T33.setTop (mkF m 12 #[rv px] [(.int (if (cs : List Int32) = [114, 101, 112, 58, 85, 115, 101, 114] then (1 : Int32) else 0))]))
  try clear X7 e8 st43 cq49 kq50 qa51 qb52 qc53 N54
  by_cases he0 : (if (cs : List Int32) = [114, 101, 112, 58, 85, 115, 101, 114] then (1 : Int32) else 0) = (0 : Int32)
  · skip
    refine Way.by (fun _ k => XS.ifYes X34.here hx rfl (pc0 := 12) (pc' := 19) rfl (hb hby dXP_12) rfl ((if0 .eq _).trans (teq he0).1) (by decide) (by decide) k) ?_
    show Way _ _ _ _ (T33.setTop (mkF m 19 #[rv px] []))
    refine Way.by (fun _ k => XS.aloadN X34.here hx rfl (hb hby dXP_19) rfl rfl k) ?_
    show Way _ _ _ _ (T33.setTop (mkF m 20 #[rv px] [(.ref px)]))
    obtain ⟨a56, T57, h58, k59, bd60, kc61, X62, e63, E64, hS65, hk66, hZ67, hown68, Ex69, Co70, Va71, Ar72, la73, lb74, hr75, lit76, sfn77, st78⟩ := ldcCH X34 hx hZ12 hown13 (tw hw 116 rfl) wS e45 hS10 hk11 hEL (by decide) H24 (vs := ([114, 101, 112, 58, 83, 121, 115, 116, 101, 109, 85, 115, 101, 114] : List Int32).map fun c => Value.int (StrChars.lo8 c)) (z := (14 : Int32)) ⟨by decide, by decide⟩ (by decide) rfl (g := (mkF m 20 #[rv px] [(.ref px)])) rfl (hb hby dXP_20) (n := 56) (by decide) (by decide) (by decide) (by decide)
    have H79 := hr75.1
    have CH80 := CH25.trans hr75
    have S82 := S27.ext E64
    have S83 := F32.ext E64
    have Z84 := Nat.le_trans Z28 E64.1
    have O85 := O29.ext E64
    have K86 := K30.ext E64
    have hz87 := Nat.le_trans hz31 E64.1
    have F88 : own_Str Z h58 a56 bd60 [114, 101, 112, 58, 83, 121, 115, 116, 101, 109, 85, 115, 101, 114] := ⟨Ex69, Va71, Co70, ⟨_, _, _, Ar72, Or.inl ⟨rfl, rfl, rfl, by decide⟩⟩, by decide, by decide⟩
    refine Way.by st78 ?_
    show Way _ _ _ _ (T57.setTop (mkF m 22 #[rv px] [(.ref a56), (.ref px)]))
    try clear hS10 hk11 hZ12 hown13 H24 CH25 S27 Z28 O29 K30 hz31 F32 X34 e45 E64 hr75 st78
    try clear T2 h3 T33
    obtain ⟨cq105, kq106, qa107, qb108, qc109⟩ := isOf hZ67 e63 S82.1
    obtain ⟨_, _, ⟨T89, L91, k92, n93⟩, -, X90, ⟨Lc94, hQ95, l96, y97, z98⟩, st99⟩ := X62.virtualBack hx (y := (⟨"java/lang/String", "equals", "(Ljava/lang/Object;)Z"⟩ : MethodName)) (z := (⟨"java/lang/String", "equals", "(Ljava/lang/Object;)Z"⟩ : MethodName)) hown68 (mvT hZ67 (tw hw 112 rfl)) (mvT hZ67 (tw hw 101 rfl)) (notFace_of_selects (args := #[]) (mvT hZ67 (tw hw 103 rfl))) (mvT hZ67 (tw hw 103 rfl)) (mvT hZ67 (tw hw 102 rfl)) (by decide) (own_eqs (W := 0) (n0 := n0) hZ67 hw SV O85 (cs := cs) (ds := [114, 101, 112, 58, 83, 121, 115, 116, 101, 109, 85, 115, 101, 114]) S82 F88 (by decide) (by decide)) qa107 qc109 (g := (mkF m 22 #[rv px] [(.ref a56), (.ref px)])) rfl (by rw [hml]; rfl) (Steps.refl _) (argsL := [(.ref a56)]) (rest := []) (lenOf own_pdEq rfl) rfl (leW rfl) (hb hby dXP_22) (fun _ _ => ⟨rfl, e63, (leB rfl), (leB rfl)⟩)
    dsimp only [Pt.U, Pt.locs, Pt.cells, Pt.slots] at X90 l96 y97 z98 st99 hQ95
    subst y97 z98
    obtain ⟨rfl, N110, e101⟩ := hQ95
    have N100 : Fr n0 L91 := by rw [l96]; exact Fr.app N44 N110
    refine Way.to st99 ?_
    show Way _ _ _ _ (T89.setTop (mkF m 25 #[rv px] [(.int (if (cs : List Int32) = [114, 101, 112, 58, 83, 121, 115, 116, 101, 109, 85, 115, 101, 114] then (1 : Int32) else 0))]))
    try clear N44 X62 e63 st99 cq105 kq106 qa107 qb108 qc109 N110
    by_cases he1 : (if (cs : List Int32) = [114, 101, 112, 58, 83, 121, 115, 116, 101, 109, 85, 115, 101, 114] then (1 : Int32) else 0) = (0 : Int32)
    · skip
      refine Way.by (fun _ k => XS.ifYes X90.here hx rfl (pc0 := 25) (pc' := 32) rfl (hb hby dXP_25) rfl ((if0 .eq _).trans (teq he1).1) (by decide) (by decide) k) ?_
      show Way _ _ _ _ (T89.setTop (mkF m 32 #[rv px] []))
      refine Way.by (fun _ k => XS.aloadN X90.here hx rfl (hb hby dXP_32) rfl rfl k) ?_
      show Way _ _ _ _ (T89.setTop (mkF m 33 #[rv px] [(.ref px)]))
      obtain ⟨a112, T113, h114, k115, bd116, kc117, X118, e119, E120, hS121, hk122, hZ123, hown124, Ex125, Co126, Va127, Ar128, la129, lb130, hr131, lit132, sfn133, st134⟩ := ldcCH X90 hx hZ67 hown68 (tw hw 114 rfl) wS e101 hS65 hk66 hEL (by decide) H79 (vs := ([114, 101, 112, 58, 71, 114, 111, 117, 112] : List Int32).map fun c => Value.int (StrChars.lo8 c)) (z := (9 : Int32)) ⟨by decide, by decide⟩ (by decide) rfl (g := (mkF m 33 #[rv px] [(.ref px)])) rfl (hb hby dXP_33) (n := 36) (by decide) (by decide) (by decide) (by decide)
      have H135 := hr131.1
      have CH136 := CH80.trans hr131
      have S138 := S82.ext E120
      have S139 := S83.ext E120
      have S140 := F88.ext E120
      have Z141 := Nat.le_trans Z84 E120.1
      have O142 := O85.ext E120
      have K143 := K86.ext E120
      have hz144 := Nat.le_trans hz87 E120.1
      have F145 : own_Str Z h114 a112 bd116 [114, 101, 112, 58, 71, 114, 111, 117, 112] := ⟨Ex125, Va127, Co126, ⟨_, _, _, Ar128, Or.inl ⟨rfl, rfl, rfl, by decide⟩⟩, by decide, by decide⟩
      refine Way.by st134 ?_
      show Way _ _ _ _ (T113.setTop (mkF m 35 #[rv px] [(.ref a112), (.ref px)]))
      try clear hS65 hk66 hZ67 hown68 H79 CH80 S82 S83 Z84 O85 K86 hz87 F88 X90 e101 E120 hr131 st134
      try clear T57 h58 T89
      obtain ⟨cq162, kq163, qa164, qb165, qc166⟩ := isOf hZ123 e119 S138.1
      obtain ⟨_, _, ⟨T146, L148, k149, n150⟩, -, X147, ⟨Lc151, hQ152, l153, y154, z155⟩, st156⟩ := X118.virtualBack hx (y := (⟨"java/lang/String", "equals", "(Ljava/lang/Object;)Z"⟩ : MethodName)) (z := (⟨"java/lang/String", "equals", "(Ljava/lang/Object;)Z"⟩ : MethodName)) hown124 (mvT hZ123 (tw hw 112 rfl)) (mvT hZ123 (tw hw 101 rfl)) (notFace_of_selects (args := #[]) (mvT hZ123 (tw hw 103 rfl))) (mvT hZ123 (tw hw 103 rfl)) (mvT hZ123 (tw hw 102 rfl)) (by decide) (own_eqs (W := 0) (n0 := n0) hZ123 hw SV O142 (cs := cs) (ds := [114, 101, 112, 58, 71, 114, 111, 117, 112]) S138 F145 (by decide) (by decide)) qa164 qc166 (g := (mkF m 35 #[rv px] [(.ref a112), (.ref px)])) rfl (by rw [hml]; rfl) (Steps.refl _) (argsL := [(.ref a112)]) (rest := []) (lenOf own_pdEq rfl) rfl (leW rfl) (hb hby dXP_35) (fun _ _ => ⟨rfl, e119, (leB rfl), (leB rfl)⟩)
      dsimp only [Pt.U, Pt.locs, Pt.cells, Pt.slots] at X147 l153 y154 z155 st156 hQ152
      subst y154 z155
      obtain ⟨rfl, N167, e158⟩ := hQ152
      have N157 : Fr n0 L148 := by rw [l153]; exact Fr.app N100 N167
      refine Way.to st156 ?_
      show Way _ _ _ _ (T146.setTop (mkF m 38 #[rv px] [(.int (if (cs : List Int32) = [114, 101, 112, 58, 71, 114, 111, 117, 112] then (1 : Int32) else 0))]))
      try clear N100 X118 e119 st156 cq162 kq163 qa164 qb165 qc166 N167
      by_cases he2 : (if (cs : List Int32) = [114, 101, 112, 58, 71, 114, 111, 117, 112] then (1 : Int32) else 0) = (0 : Int32)
      · skip
        refine Way.by (fun _ k => XS.ifYes X147.here hx rfl (pc0 := 38) (pc' := 45) rfl (hb hby dXP_38) rfl ((if0 .eq _).trans (teq he2).1) (by decide) (by decide) k) ?_
        show Way _ _ _ _ (T146.setTop (mkF m 45 #[rv px] []))
        refine Way.by (fun _ k => XS.aconstNull X147.here hx rfl (hb hby dXP_45) k) ?_
        show Way _ _ _ _ (T146.setTop (mkF m 46 #[rv px] [.null]))
        refine Way.retH (v := (some .null)) X147 hS121 (by rw [e158]; exact hk122) hZ123 hEL hh e158 H135 CH136 hlk (fun h => by rw [Bd.returns] at h; cases h) (fun fs hr => retOut X147 hx Bd.returns rfl (Or.inr (Or.inr (Or.inr (Or.inr ⟨rfl, rfl, rfl⟩)))) (hb hby dXP_46) hr) ?_ (by decide) (by decide)
        show QXP Z px pt cs uUSER uSYSTEM_USER uGROUP h0 n0 _ T146.heap _
        rw [e158]
        simp only [own_ite2] at he0 he1 he2
        exact ⟨by unfold own_kind; simp [he0, he1, he2], N157, K143⟩
      · skip
        refine Way.by (fun _ k => XS.ifNo X147.here hx rfl (hb hby dXP_38) rfl ((if0 .eq _).trans (feq he2).1) k) ?_
        show Way _ _ _ _ (T146.setTop (mkF m 41 #[rv px] []))
        obtain ⟨T169, X170, e171, st172⟩ := getS X147 hx hZ123 hown124 (host := "") (tw hw 117 rfl) Via.refl e158 (Sta.ext O142.2 SGROUP) (g := (mkF m 41 #[rv px] [])) rfl (hb hby dXP_41)
        refine Way.by st172 ?_
        show Way _ _ _ _ (T169.setTop (mkF m 44 #[rv px] [(.ref uGROUP)]))
        refine Way.retH (v := (some (.ref uGROUP))) X170 hS121 (by rw [e171]; exact hk122) hZ123 hEL hh e171 H135 CH136 hlk (fun h => by rw [Bd.returns] at h; cases h) (fun fs hr => retOut X170 hx Bd.returns rfl (Or.inr (Or.inr (Or.inr (Or.inr ⟨rfl, rfl, rfl⟩)))) (hb hby dXP_44) hr) ?_ (by decide) (by decide)
        show QXP Z px pt cs uUSER uSYSTEM_USER uGROUP h0 n0 _ T169.heap _
        rw [e171]
        simp only [own_ite2] at he0 he1 he2
        exact ⟨by unfold own_kind; simp [he0, he1, he2], N157, K143⟩
    · skip
      refine Way.by (fun _ k => XS.ifNo X90.here hx rfl (hb hby dXP_25) rfl ((if0 .eq _).trans (feq he1).1) k) ?_
      show Way _ _ _ _ (T89.setTop (mkF m 28 #[rv px] []))
      obtain ⟨T173, X174, e175, st176⟩ := getS X90 hx hZ67 hown68 (host := "") (tw hw 118 rfl) Via.refl e101 (Sta.ext O85.2 SSYSTEM_USER) (g := (mkF m 28 #[rv px] [])) rfl (hb hby dXP_28)
      refine Way.by st176 ?_
      show Way _ _ _ _ (T173.setTop (mkF m 31 #[rv px] [(.ref uSYSTEM_USER)]))
      refine Way.retH (v := (some (.ref uSYSTEM_USER))) X174 hS65 (by rw [e175]; exact hk66) hZ67 hEL hh e175 H79 CH80 hlk (fun h => by rw [Bd.returns] at h; cases h) (fun fs hr => retOut X174 hx Bd.returns rfl (Or.inr (Or.inr (Or.inr (Or.inr ⟨rfl, rfl, rfl⟩)))) (hb hby dXP_31) hr) ?_ (by decide) (by decide)
      show QXP Z px pt cs uUSER uSYSTEM_USER uGROUP h0 n0 _ T173.heap _
      rw [e175]
      simp only [own_ite2] at he0 he1
      exact ⟨by unfold own_kind; simp [he0, he1], N100, K86⟩
  · skip
    refine Way.by (fun _ k => XS.ifNo X34.here hx rfl (hb hby dXP_12) rfl ((if0 .eq _).trans (feq he0).1) k) ?_
    show Way _ _ _ _ (T33.setTop (mkF m 15 #[rv px] []))
    obtain ⟨T177, X178, e179, st180⟩ := getS X34 hx hZ12 hown13 (host := "") (tw hw 113 rfl) Via.refl e45 (Sta.ext O29.2 SUSER) (g := (mkF m 15 #[rv px] [])) rfl (hb hby dXP_15)
    refine Way.by st180 ?_
    show Way _ _ _ _ (T177.setTop (mkF m 18 #[rv px] [(.ref uUSER)]))
    refine Way.retH (v := (some (.ref uUSER))) X178 hS10 (by rw [e179]; exact hk11) hZ12 hEL hh e179 H24 CH25 hlk (fun h => by rw [Bd.returns] at h; cases h) (fun fs hr => retOut X178 hx Bd.returns rfl (Or.inr (Or.inr (Or.inr (Or.inr ⟨rfl, rfl, rfl⟩)))) (hb hby dXP_18) hr) ?_ (by decide) (by decide)
    show QXP Z px pt cs uUSER uSYSTEM_USER uGROUP h0 n0 _ T177.heap _
    rw [e179]
    simp only [own_ite2] at he0
    exact ⟨by unfold own_kind; simp [he0], N44, K30⟩
def QN4 (Z : State) (pa : Addr) (pb : Addr) (kb : ClassId) (h0 : Heap) (n0 : Nat) (v : Option Value) (h : Heap) (L : List Loc) : Prop := ∃ (pt : Addr), v = none ∧ Fr n0 L ∧ Keep h0 h [pa] ∧ own_Str Z h pa pt []
theorem dN4_0 : decode jdk_42_method_149_code 0 = .ok (.aload_n 0, 1) := by decide +kernel
theorem dN4_1 : decode jdk_42_method_149_code 1 = .ok (.invokespecial 1, 3) := by decide +kernel
theorem dN4_4 : decode jdk_42_method_149_code 4 = .ok (.iload_n 3, 1) := by decide +kernel
theorem dN4_5 : decode jdk_42_method_149_code 5 = .ok (.ifCond .ne 22, 3) := by decide +kernel
theorem dN4_8 : decode jdk_42_method_149_code 8 = .ok (.aload_n 0, 1) := by decide +kernel
theorem dN4_9 : decode jdk_42_method_149_code 9 = .ok (.ldc 7, 2) := by decide +kernel
theorem dN4_11 : decode jdk_42_method_149_code 11 = .ok (.getfield 9, 3) := by decide +kernel
theorem dN4_14 : decode jdk_42_method_149_code 14 = .ok (.putfield 9, 3) := by decide +kernel
theorem dN4_17 : decode jdk_42_method_149_code 17 = .ok (.aload_n 0, 1) := by decide +kernel
theorem dN4_18 : decode jdk_42_method_149_code 18 = .ok (.ldc 7, 2) := by decide +kernel
theorem dN4_20 : decode jdk_42_method_149_code 20 = .ok (.getfield 15, 3) := by decide +kernel
theorem dN4_23 : decode jdk_42_method_149_code 23 = .ok (.putfield 15, 3) := by decide +kernel
theorem dN4_26 : decode jdk_42_method_149_code 26 = .ok (.return_, 1) := by decide +kernel
theorem pdN4 : parseMethodDescriptor "([CIILjava/lang/Void;)V" = some ⟨[(.array .char), .int, .int, (.object "java/lang/Void")], none⟩ := by decide +kernel
theorem rmN4 (l : Launch) (Z : State) (a0 : Array Value) (hw : ∀ d ∈ tables_1, d.before a0 Z = true) (ws : List Jvm.Cond) (pa : Addr) (pb : Addr) (kb : ClassId) (h0 : Heap) (n0 : Nat) (Z0 : n0 ≤ h0.size) (H0 : Exa Z h0 pa "java/lang/String") (H1 : Fld Z h0 pa "java/lang/String" "value" "[B" .null) (H2 : Fld Z h0 pa "java/lang/String" "coder" "B" (.int 0)) (H3 : Arv Z h0 pb kb .char (0 : Int32) [] (.int 0)) (ne_pb_pa : pb ≠ pa) (nw_pa : n0 ≤ pa) :
    MetFree l (⟨"java/lang/String", "<init>", "([CIILjava/lang/Void;)V"⟩ : MethodName) (head1 (Jvm.Cond.code (⟨"java/lang/String", "<init>", "([CIILjava/lang/Void;)V"⟩ : MethodName) jdk_42_method_149_code 6 none :: ws) ({ frames := 1, cells := 4, slots := 8, locals := 12 } : Room)) (fun aa U => aa = #[(.ref pa), (.ref pb), (.int 0), (.int 0), .null] ∧ Z.Warmed39 U.vm ∧ U.heap = h0 ∧ CHv Z own_EL U.vm h0) (fun _ _ _ _ _ => True) (fun _ U oo U' => ∃ v L, oo = .returned v ∧ QN4 Z pa pb kb h0 n0 v U'.heap L ∧ CHr Z own_EL U.vm U.heap U'.vm U'.heap ∧ ReturnedEndW U oo U' L ({ frames := 1, cells := 4, slots := 8, locals := 12 } : Room).cells ({ frames := 1, cells := 4, slots := 8, locals := 12 } : Room).slots) := by
  refine MetFree.of_bodySF (plainFor_of_name pnEZ) hisR ?_
  intro p e s m args below meth c s₁ Bd hml0 hP hK
  obtain ⟨rfl, hZ, hh, HV0⟩ := hP
  have hx := Bd.exec
  have hby := Bd.bytes
  have hlk : meth.locks = false := BodyLoose.notSynchronized Bd
  have hml : c.maxLocals = 6 := hml0
  have hown : s.vm.findClass "java/lang/String" = some m.cls := findClass_of_methodNamed Bd.named
  have hnm := (name_of_methodNamed Bd.named Bd.method).1
  have X0 : Stand p l e ({ frames := 1, cells := 4, slots := 8, locals := 12 } : Room) s m #[(.ref pa), (.ref pb), (.int 0), (.int 0), .null] below meth c s₁ [] 0 0 := Stand.of_body Bd
  have e0 : s₁.heap = h0 := by rw [← hh, Bd.state]; rfl
  have N0 := Fr.nil n0
  have ef : entryFrame m #[(.ref pa), (.ref pb), (.int 0), (.int 0), .null] 6 = mkF m 0 #[rv pa, rv pb, iv 0, iv 0, .val .null, .unset] [] := by first | (simp [entryFrame, mkF, argsToLocals, Value.category, maxLocals]; done) | rfl
  have XW : Stand p l e ({ frames := 1, cells := 4, slots := 8, locals := 12 } : Room) (s.setVm s.vm) m #[(.ref pa), (.ref pb), (.int 0), (.int 0), .null] below meth c s₁ [] 0 0 := X0
  have hS0 : s.Since s.vm 0 := (State.WarmedH.refl s).since 0
  have hZ0 : Z.Warmed39 (s.setVm s.vm).vm := hZ
  have hown0 : (s.setVm s.vm).vm.findClass "java/lang/String" = some m.cls := hown
  have wS : ∀ d ∈ Bundle.stringAtoms, d.before a0 Z = true := fun d hd => hw d (own_wS d hd)
  have hEL : EW Z a0 own_EL := own_EW hw
  have CH0 : CHr Z own_EL s.vm h0 s.vm h0 := CHr.refl HV0
  show Way p.tables e below (KQH s Z own_EL (QN4 Z pa pb kb h0 n0) ({ frames := 1, cells := 4, slots := 8, locals := 12 } : Room).cells ({ frames := 1, cells := 4, slots := 8, locals := 12 } : Room).slots) (s₁.setTop (entryFrame m #[(.ref pa), (.ref pb), (.int 0), (.int 0), .null] 6))
  rw [ef]
  have sfa := own_safeNull (EL := own_EL) hZ.alike H0 H1
  refine Way.by (fun _ k => XS.aloadN XW.here hx rfl (hb hby dN4_0) rfl rfl k) ?_
  show Way _ _ _ _ (s₁.setTop (mkF m 1 #[rv pa, rv pb, iv 0, iv 0, .val .null, .unset] [(.ref pa)]))
  obtain ⟨T1, X2, e3, st4⟩ := initO XW hx hZ0 hown0 (tw hw 63 rfl) (tw hw 64 rfl) (tw hw 65 rfl) e0 (g := (mkF m 1 #[rv pa, rv pb, iv 0, iv 0, .val .null, .unset] [(.ref pa)])) rfl (by rw [hml]; rfl) rfl (hb hby dN4_1) (by decide) (W := 0) (leW rfl) (by decide)
  refine Way.by st4 ?_
  show Way _ _ _ _ (T1.setTop (mkF m 4 #[rv pa, rv pb, iv 0, iv 0, .val .null, .unset] []))
  refine Way.by (fun _ k => XS.iloadN X2.here hx rfl (hb hby dN4_4) rfl k) ?_
  show Way _ _ _ _ (T1.setTop (mkF m 5 #[rv pa, rv pb, iv 0, iv 0, .val .null, .unset] [(.int 0)]))
  have b5 : (0 : Int32) = (0 : Int32) := by decide
  refine Way.by (fun _ k => XS.ifNo X2.here hx rfl (hb hby dN4_5) rfl ((if0 .ne _).trans (teq b5).2) k) ?_
  show Way _ _ _ _ (T1.setTop (mkF m 8 #[rv pa, rv pb, iv 0, iv 0, .val .null, .unset] []))
  refine Way.by (fun _ k => XS.aloadN X2.here hx rfl (hb hby dN4_8) rfl rfl k) ?_
  show Way _ _ _ _ (T1.setTop (mkF m 9 #[rv pa, rv pb, iv 0, iv 0, .val .null, .unset] [(.ref pa)]))
  obtain ⟨a6, T7, h8, k9, bd10, kc11, X12, e13, E14, hS15, hk16, hZ17, hown18, Ex19, Co20, Va21, Ar22, la23, lb24, hr25, lit26, sfn27, st28⟩ := ldcCH X2 hx hZ0 hown0 (tw hw 115 rfl) wS e3 hS0 (Nat.zero_le _) hEL (by decide) HV0 (vs := ([] : List Int32).map fun c => Value.int (StrChars.lo8 c)) (z := (0 : Int32)) ⟨by decide, by decide⟩ (by decide) rfl (g := (mkF m 9 #[rv pa, rv pb, iv 0, iv 0, .val .null, .unset] [(.ref pa)])) rfl (hb hby dN4_9) (n := 0) (by decide) (by decide) (by decide) (by decide)
  have Sf32 := CHr.safe hr25 H0.lt sfa
  have H29 := hr25.1
  have CH30 := CH0.trans hr25
  have E33 := Exa.ext E14 H0
  have F34 := Fld.ext E14 H1
  have F35 := Fld.ext E14 H2
  have A36 := H3.ext E14
  have Z37 := Nat.le_trans Z0 E14.1
  have K38 := (Keep.refl h0 [pa]).ext E14
  have hz39 := Nat.le_trans (Nat.le_refl h0.size) E14.1
  have F40 : own_Str Z h8 a6 bd10 [] := ⟨Ex19, Va21, Co20, ⟨_, _, _, Ar22, Or.inl ⟨rfl, rfl, rfl, by decide⟩⟩, by decide, by decide⟩
  have ne41 := sfn27 pa Sf32
  have ne42 := sfn27 pb (Safe.arv hZ17.alike A36 (by decide))
  refine Way.by st28 ?_
  show Way _ _ _ _ (T7.setTop (mkF m 11 #[rv pa, rv pb, iv 0, iv 0, .val .null, .unset] [(.ref a6), (.ref pa)]))
  obtain ⟨T43, X44, e45, st46⟩ := getF X12 hx hZ17 hown18 (host := "") (Or.inl (tw hw 14 rfl)) Via.refl e13 F40.2.1 (g := (mkF m 11 #[rv pa, rv pb, iv 0, iv 0, .val .null, .unset] [(.ref a6), (.ref pa)])) rfl rfl (hb hby dN4_11)
  refine Way.by st46 ?_
  show Way _ _ _ _ (T43.setTop (mkF m 14 #[rv pa, rv pb, iv 0, iv 0, .val .null, .unset] [(.ref bd10), (.ref pa)]))
  obtain ⟨T47, h48, X49, e50, W51, st52⟩ := putF X44 hx hZ17 hown18 (host := "") (Or.inl (tw hw 14 rfl)) Via.refl e45 F34 E33 (Or.inr ⟨(tw hw 5 rfl), rfl, hnm⟩) (tw hw 3 rfl) (ty := (.array .byte)) (by decide) rfl rfl (g := (mkF m 14 #[rv pa, rv pb, iv 0, iv 0, .val .null, .unset] [(.ref bd10), (.ref pa)])) rfl rfl (hb hby dN4_14)
  have N53 := Fr.snoc X49 N0 nw_pa
  have hr56 := CHr.wr W51 Sf32 H29
  have Sf57 := Safe.wr W51 Sf32 H29 Sf32
  have H54 := hr56.1
  have CH55 := CH30.trans hr56
  have E58 := Exa.wr W51 E33
  have F59 : Fld Z h48 pa "java/lang/String" "value" "[B" (.ref bd10) := F34.same W51
  have F60 := F35.other W51 (Or.inr (slot_ne (Or.inr (tw hw 6 rfl)) (Or.inr (tw hw 5 rfl)) (by decide) (t := .byte) (t' := (.array .byte)) (by decide) (by decide)))
  have A61 := A36.other W51 ne_pb_pa
  have S62 := F40.other W51 ne41.1.symm ne41.2.symm
  have Z63 : n0 ≤ h48.size := by rw [W51.size]; exact Z37
  have hk64 := Nat.le_trans hk16 (Nat.le_of_eq W51.size.symm)
  have K65 := K38.wr W51 (Or.inl (List.mem_of_getElem? (i := 0) rfl))
  have hz66 : h0.size ≤ h48.size := by rw [W51.size]; exact hz39
  refine Way.by st52 ?_
  show Way _ _ _ _ (T47.setTop (mkF m 17 #[rv pa, rv pb, iv 0, iv 0, .val .null, .unset] []))
  try clear hk16 H29 CH30 Sf32 E33 F34 F35 A36 Z37 K38 hz39 F40 X44 e45 W51 st52 hr56
  try clear h8 T43
  refine Way.by (fun _ k => XS.aloadN X49.here hx rfl (hb hby dN4_17) rfl rfl k) ?_
  show Way _ _ _ _ (T47.setTop (mkF m 18 #[rv pa, rv pb, iv 0, iv 0, .val .null, .unset] [(.ref pa)]))
  obtain ⟨a67, T68, h69, k70, bd71, kc72, X73, e74, E75, hS76, hk77, hZ78, hown79, Ex80, Co81, Va82, Ar83, la84, lb85, hr86, lit87, sfn88, st89⟩ := ldcCH X49 hx hZ17 hown18 (tw hw 115 rfl) wS e50 hS15 hk64 hEL (by decide) H54 (vs := ([] : List Int32).map fun c => Value.int (StrChars.lo8 c)) (z := (0 : Int32)) ⟨by decide, by decide⟩ (by decide) rfl (g := (mkF m 18 #[rv pa, rv pb, iv 0, iv 0, .val .null, .unset] [(.ref pa)])) rfl (hb hby dN4_18) (n := 0) (by decide) (by decide) (by decide) (by decide)
  have Sf93 := CHr.safe hr86 E58.lt Sf57
  have H90 := hr86.1
  have CH91 := CH55.trans hr86
  have E94 := Exa.ext E75 E58
  have F95 := Fld.ext E75 F59
  have F96 := Fld.ext E75 F60
  have A97 := A61.ext E75
  have S98 := S62.ext E75
  have Z99 := Nat.le_trans Z63 E75.1
  have K100 := K65.ext E75
  have hz101 := Nat.le_trans hz66 E75.1
  have F102 : own_Str Z h69 a67 bd71 [] := ⟨Ex80, Va82, Co81, ⟨_, _, _, Ar83, Or.inl ⟨rfl, rfl, rfl, by decide⟩⟩, by decide, by decide⟩
  have ne103 := sfn88 pa Sf93
  have ne104 := sfn88 pb (Safe.arv hZ78.alike A97 (by decide))
  refine Way.by st89 ?_
  show Way _ _ _ _ (T68.setTop (mkF m 20 #[rv pa, rv pb, iv 0, iv 0, .val .null, .unset] [(.ref a67), (.ref pa)]))
  try clear hS15 hZ17 hown18 X49 e50 H54 CH55 Sf57 E58 F59 F60 A61 S62 Z63 hk64 K65 hz66 E75 hr86 st89
  try clear T7 T47 h48
  obtain ⟨T105, X106, e107, st108⟩ := getF X73 hx hZ78 hown79 (host := "") (Or.inl (tw hw 21 rfl)) Via.refl e74 F102.2.2.1 (g := (mkF m 20 #[rv pa, rv pb, iv 0, iv 0, .val .null, .unset] [(.ref a67), (.ref pa)])) rfl rfl (hb hby dN4_20)
  refine Way.by st108 ?_
  show Way _ _ _ _ (T105.setTop (mkF m 23 #[rv pa, rv pb, iv 0, iv 0, .val .null, .unset] [(.int 0), (.ref pa)]))
  obtain ⟨T109, h110, X111, e112, W113, st114⟩ := putF X106 hx hZ78 hown79 (host := "") (Or.inl (tw hw 21 rfl)) Via.refl e107 F96 E94 (Or.inr ⟨(tw hw 6 rfl), rfl, hnm⟩) (tw hw 3 rfl) (ty := .byte) (by decide) rfl rfl (g := (mkF m 23 #[rv pa, rv pb, iv 0, iv 0, .val .null, .unset] [(.int 0), (.ref pa)])) rfl rfl (hb hby dN4_23)
  have N115 := Fr.snoc X111 N53 nw_pa
  have hr118 := CHr.wr W113 Sf93 H90
  have Sf119 := Safe.wr W113 Sf93 H90 Sf93
  have H116 := hr118.1
  have CH117 := CH91.trans hr118
  have E120 := Exa.wr W113 E94
  have F121 := F95.other W113 (Or.inr (slot_ne (Or.inr (tw hw 5 rfl)) (Or.inr (tw hw 6 rfl)) (by decide) (t := (.array .byte)) (t' := .byte) (by decide) (by decide)))
  have F122 : Fld Z h110 pa "java/lang/String" "coder" "B" (.int 0) := F96.same W113
  have A123 := A97.other W113 ne_pb_pa
  have S124 := S98.other W113 ne41.1.symm ne41.2.symm
  have S125 := F102.other W113 ne103.1.symm ne103.2.symm
  have Z126 : n0 ≤ h110.size := by rw [W113.size]; exact Z99
  have hk127 := Nat.le_trans hk77 (Nat.le_of_eq W113.size.symm)
  have K128 := K100.wr W113 (Or.inl (List.mem_of_getElem? (i := 0) rfl))
  have hz129 : h0.size ≤ h110.size := by rw [W113.size]; exact hz101
  refine Way.by st114 ?_
  show Way _ _ _ _ (T109.setTop (mkF m 26 #[rv pa, rv pb, iv 0, iv 0, .val .null, .unset] []))
  try clear N53 hk77 H90 CH91 Sf93 E94 F95 F96 A97 S98 Z99 K100 hz101 F102 X106 e107 W113 st114 hr118
  try clear h69 T105
  refine Way.retH (v := none) X111 hS76 (by rw [e112]; exact hk127) hZ78 hEL hh e112 H116 CH117 hlk (fun _ => rfl) (fun fs hr => X111.returnOut hx Bd.returns (hb hby dN4_26) hr) ?_ (by decide) (by decide)
  show QN4 Z pa pb kb h0 n0 _ T109.heap _
  rw [e112]
  have STR : own_Str Z h110 pa bd10 [] := ⟨E120, F121, F122, S124.2.2.2⟩
  exact ⟨bd10, rfl, N115, K128, STR⟩
def QN1 (Z : State) (pa : Addr) (pb : Addr) (kb : ClassId) (h0 : Heap) (n0 : Nat) (v : Option Value) (h : Heap) (L : List Loc) : Prop := ∃ (pt : Addr), v = none ∧ Fr n0 L ∧ Keep h0 h [pa] ∧ own_Str Z h pa pt []
theorem dN1_0 : decode jdk_42_method_3_code 0 = .ok (.aload_n 0, 1) := by decide +kernel
theorem dN1_1 : decode jdk_42_method_3_code 1 = .ok (.aload_n 1, 1) := by decide +kernel
theorem dN1_2 : decode jdk_42_method_3_code 2 = .ok (.iconst 0, 1) := by decide +kernel
theorem dN1_3 : decode jdk_42_method_3_code 3 = .ok (.aload_n 1, 1) := by decide +kernel
theorem dN1_4 : decode jdk_42_method_3_code 4 = .ok (.arraylength, 1) := by decide +kernel
theorem dN1_5 : decode jdk_42_method_3_code 5 = .ok (.aconst_null, 1) := by decide +kernel
theorem dN1_6 : decode jdk_42_method_3_code 6 = .ok (.invokespecial 27, 3) := by decide +kernel
theorem dN1_9 : decode jdk_42_method_3_code 9 = .ok (.return_, 1) := by decide +kernel
theorem pdN1 : parseMethodDescriptor "([C)V" = some ⟨[(.array .char)], none⟩ := by decide +kernel
theorem rmN1 (l : Launch) (Z : State) (a0 : Array Value) (hw : ∀ d ∈ tables_1, d.before a0 Z = true) (ws : List Jvm.Cond) (pa : Addr) (pb : Addr) (kb : ClassId) (h0 : Heap) (n0 : Nat) (Z0 : n0 ≤ h0.size) (H0 : Exa Z h0 pa "java/lang/String") (H1 : Fld Z h0 pa "java/lang/String" "value" "[B" .null) (H2 : Fld Z h0 pa "java/lang/String" "coder" "B" (.int 0)) (H3 : Arv Z h0 pb kb .char (0 : Int32) [] (.int 0)) (ne_pb_pa : pb ≠ pa) (nw_pa : n0 ≤ pa) :
    MetFree l (⟨"java/lang/String", "<init>", "([C)V"⟩ : MethodName) (head1 (Jvm.Cond.code (⟨"java/lang/String", "<init>", "([C)V"⟩ : MethodName) jdk_42_method_3_code 2 none :: ws) ({ frames := 2, cells := 4, slots := 8, locals := 29 } : Room)) (fun aa U => aa = #[(.ref pa), (.ref pb)] ∧ Z.Warmed39 U.vm ∧ U.heap = h0 ∧ CHv Z own_EL U.vm h0) (fun _ _ _ _ _ => True) (fun _ U oo U' => ∃ v L, oo = .returned v ∧ QN1 Z pa pb kb h0 n0 v U'.heap L ∧ CHr Z own_EL U.vm U.heap U'.vm U'.heap ∧ ReturnedEndW U oo U' L ({ frames := 2, cells := 4, slots := 8, locals := 29 } : Room).cells ({ frames := 2, cells := 4, slots := 8, locals := 29 } : Room).slots) := by
  refine MetFree.of_bodySF (plainFor_of_name pnEZ) hisR ?_
  intro p e s m args below meth c s₁ Bd hml0 hP hK
  obtain ⟨rfl, hZ, hh, HV0⟩ := hP
  have hx := Bd.exec
  have hby := Bd.bytes
  have hlk : meth.locks = false := BodyLoose.notSynchronized Bd
  have hml : c.maxLocals = 2 := hml0
  have hown : s.vm.findClass "java/lang/String" = some m.cls := findClass_of_methodNamed Bd.named
  have hnm := (name_of_methodNamed Bd.named Bd.method).1
  have X0 : Stand p l e ({ frames := 2, cells := 4, slots := 8, locals := 29 } : Room) s m #[(.ref pa), (.ref pb)] below meth c s₁ [] 0 0 := Stand.of_body Bd
  have e0 : s₁.heap = h0 := by rw [← hh, Bd.state]; rfl
  have N0 := Fr.nil n0
  have ef : entryFrame m #[(.ref pa), (.ref pb)] 2 = mkF m 0 #[rv pa, rv pb] [] := by first | (simp [entryFrame, mkF, argsToLocals, Value.category, maxLocals]; done) | rfl
  have XW : Stand p l e ({ frames := 2, cells := 4, slots := 8, locals := 29 } : Room) (s.setVm s.vm) m #[(.ref pa), (.ref pb)] below meth c s₁ [] 0 0 := X0
  have hS0 : s.Since s.vm 0 := (State.WarmedH.refl s).since 0
  have hZ0 : Z.Warmed39 (s.setVm s.vm).vm := hZ
  have hown0 : (s.setVm s.vm).vm.findClass "java/lang/String" = some m.cls := hown
  have wS : ∀ d ∈ Bundle.stringAtoms, d.before a0 Z = true := fun d hd => hw d (own_wS d hd)
  have hEL : EW Z a0 own_EL := own_EW hw
  have CH0 : CHr Z own_EL s.vm h0 s.vm h0 := CHr.refl HV0
  show Way p.tables e below (KQH s Z own_EL (QN1 Z pa pb kb h0 n0) ({ frames := 2, cells := 4, slots := 8, locals := 29 } : Room).cells ({ frames := 2, cells := 4, slots := 8, locals := 29 } : Room).slots) (s₁.setTop (entryFrame m #[(.ref pa), (.ref pb)] 2))
  rw [ef]
  have sfa := own_safeNull (EL := own_EL) hZ.alike H0 H1
  refine Way.by (fun _ k => XS.aloadN XW.here hx rfl (hb hby dN1_0) rfl rfl k) ?_
  show Way _ _ _ _ (s₁.setTop (mkF m 1 #[rv pa, rv pb] [(.ref pa)]))
  refine Way.by (fun _ k => XS.aloadN XW.here hx rfl (hb hby dN1_1) rfl rfl k) ?_
  show Way _ _ _ _ (s₁.setTop (mkF m 2 #[rv pa, rv pb] [(.ref pb), (.ref pa)]))
  refine Way.by (fun _ k => XS.iconst XW.here hx rfl (hb hby dN1_2) k) ?_
  show Way _ _ _ _ (s₁.setTop (mkF m 3 #[rv pa, rv pb] [(.int 0), (.ref pb), (.ref pa)]))
  refine Way.by (fun _ k => XS.aloadN XW.here hx rfl (hb hby dN1_3) rfl rfl k) ?_
  show Way _ _ _ _ (s₁.setTop (mkF m 4 #[rv pa, rv pb] [(.ref pb), (.int 0), (.ref pb), (.ref pa)]))
  obtain ⟨c1, A2, q3, S4, M5, H6, U7⟩ := id H3
  refine Way.by (fun t k => Stand.arraylength XW hx (hpE e0 A2.1) (arrS hZ0 A2) (g := (mkF m 4 #[rv pa, rv pb] [(.ref pb), (.int 0), (.ref pb), (.ref pa)])) rfl rfl (hb hby dN1_4) t k) ?_
  rw [len_of S4 M5]
  show Way _ _ _ _ (s₁.setTop (mkF m 5 #[rv pa, rv pb] [(.int 0), (.int 0), (.ref pb), (.ref pa)]))
  refine Way.by (fun _ k => XS.aconstNull XW.here hx rfl (hb hby dN1_5) k) ?_
  show Way _ _ _ _ (s₁.setTop (mkF m 6 #[rv pa, rv pb] [.null, (.int 0), (.int 0), (.ref pb), (.ref pa)]))
  obtain ⟨_, _, ⟨T8, L10, k11, n12⟩, -, X9, hS21, hg22, ⟨Lc13, hQ14, l15, y16, z17, hr23⟩, st18⟩ := XW.specialBackS hx (y := (⟨"java/lang/String", "<init>", "([CIILjava/lang/Void;)V"⟩ : MethodName)) rfl hown0 (mvT hZ0 (tw hw 59 rfl)) (mvT hZ0 (tw hw 60 rfl)) (mvT hZ0 (tw hw 62 rfl)) (by decide) (backOfSH (W := 0) (rmN4 l Z a0 hw [] pa pb kb h0 n0 Z0 H0 H1 H2 H3 ne_pb_pa nw_pa) hZ0 (tw hw 62 rfl) (tw hw 2 rfl) (by decide) (by decide) hEL HV0) (g := (mkF m 6 #[rv pa, rv pb] [.null, (.int 0), (.int 0), (.ref pb), (.ref pa)])) rfl (by rw [hml]; rfl) (Steps.refl _) (a := pa) (argsL := [(.ref pb), (.int 0), (.int 0), .null]) (rest := []) (lenOf pdN4 rfl) rfl (leW rfl) (hb hby dN1_6) (fun _ _ => ⟨rfl, e0, (leB rfl), (leB rfl)⟩)
  dsimp only [Pt.U, Pt.locs, Pt.cells, Pt.slots] at X9 l15 y16 z17 st18 hQ14 hS21 hg22 hr23
  subst y16 z17
  obtain ⟨X24, hS25, hZ26, hown27⟩ := rebS hS0 (by rw [e0]; exact (Nat.zero_le _)) X9 hS21 hg22 hZ0 hown0
  obtain ⟨x_pt31, rfl, N28, K29, F_030⟩ := hQ14
  have N19 : Fr n0 L10 := by rw [l15]; exact Fr.app N0 N28
  have Sf35 := CHr.safe hr23 H0.lt sfa
  have H32 := hr23.1
  have CH33 := CH0.trans hr23
  have E36 := H0.keep K29
  have A37 := H3.keep K29 (ninS ne_pb_pa nin0)
  have Z38 := Nat.le_trans Z0 K29.1
  have K39 := (Keep.refl h0 [pa]).trans K29 (allS (Or.inl (List.mem_of_getElem? (i := 0) rfl)) all0)
  have hz40 := Nat.le_trans (Nat.le_refl h0.size) K29.1
  refine Way.to st18 ?_
  show Way _ _ _ _ (T8.setTop (mkF m 9 #[rv pa, rv pb] []))
  refine Way.retH (v := none) X24 hS25 (by exact (Nat.le_refl _)) hZ26 hEL hh rfl H32 CH33 hlk (fun _ => rfl) (fun fs hr => X24.returnOut hx Bd.returns (hb hby dN1_9) hr) ?_ (by decide) (by decide)
  show QN1 Z pa pb kb h0 n0 _ T8.heap _
  skip
  exact ⟨x_pt31, rfl, N19, K39, F_030⟩
def Q0 (n0 : Nat) (v : Option Value) (h : Heap) (L : List Loc) : Prop := v = some (.int 1) ∧ Fr n0 L
theorem own_kref {cs : List Int32} {a b c : Addr} : (own_kind cs a b c).isRef = true := by
  unfold own_kind; repeat' split
  all_goals rfl
theorem own_kcat {cs : List Int32} {a b c : Addr} : (own_kind cs a b c).category = 1 := by
  unfold own_kind; repeat' split
  all_goals rfl
theorem seg502 (l : Launch) (Z : State) (a0 : Array Value) (hw : ∀ d ∈ tables_1, d.before a0 Z = true) (ws : List Jvm.Cond) (p0 p1 p2 p3 p4 p5 : Int32) (va : Addr) (kv : ClassId) (uUSER uSYSTEM_USER uGROUP : Addr) (tUSER tUSERt tSYSTEM_USER tSYSTEM_USERt tGROUP tGROUPt : Addr) (h0 : Heap) (n0 : Nat) (Z0 : n0 ≤ h0.size) (O0 : Old Z n0 h0) (SV : own_Env Z) (SVS : Sta Z Z.heap "com/example/unbound_principals/unboundprincipals/AuthorizableKind" "$VALUES" "[Lcom/example/unbound_principals/unboundprincipals/AuthorizableKind;" (.ref va)) (EVA : Exa Z Z.heap va "[Lcom/example/unbound_principals/unboundprincipals/AuthorizableKind;") (AVA : Arv Z Z.heap va kv (.object "com/example/unbound_principals/unboundprincipals/AuthorizableKind") (3 : Int32) [(.ref uUSER), (.ref uSYSTEM_USER), (.ref uGROUP)] .null) (EUSER : Exa Z Z.heap uUSER "com/example/unbound_principals/unboundprincipals/AuthorizableKind") (FUSER : Fld Z Z.heap uUSER "com/example/unbound_principals/unboundprincipals/AuthorizableKind" "nodeType" "Ljava/lang/String;" (.ref tUSER)) (TUSER : own_Str Z Z.heap tUSER tUSERt [114, 101, 112, 58, 85, 115, 101, 114]) (ESYSTEM_USER : Exa Z Z.heap uSYSTEM_USER "com/example/unbound_principals/unboundprincipals/AuthorizableKind") (FSYSTEM_USER : Fld Z Z.heap uSYSTEM_USER "com/example/unbound_principals/unboundprincipals/AuthorizableKind" "nodeType" "Ljava/lang/String;" (.ref tSYSTEM_USER)) (TSYSTEM_USER : own_Str Z Z.heap tSYSTEM_USER tSYSTEM_USERt [114, 101, 112, 58, 83, 121, 115, 116, 101, 109, 85, 115, 101, 114]) (EGROUP : Exa Z Z.heap uGROUP "com/example/unbound_principals/unboundprincipals/AuthorizableKind") (FGROUP : Fld Z Z.heap uGROUP "com/example/unbound_principals/unboundprincipals/AuthorizableKind" "nodeType" "Ljava/lang/String;" (.ref tGROUP)) (TGROUP : own_Str Z Z.heap tGROUP tGROUPt [114, 101, 112, 58, 71, 114, 111, 117, 112]) (SUSER : Sta Z Z.heap "com/example/unbound_principals/unboundprincipals/AuthorizableKind" "USER" "Lcom/example/unbound_principals/unboundprincipals/AuthorizableKind;" (.ref uUSER)) (SSYSTEM_USER : Sta Z Z.heap "com/example/unbound_principals/unboundprincipals/AuthorizableKind" "SYSTEM_USER" "Lcom/example/unbound_principals/unboundprincipals/AuthorizableKind;" (.ref uSYSTEM_USER)) (SGROUP : Sta Z Z.heap "com/example/unbound_principals/unboundprincipals/AuthorizableKind" "GROUP" "Lcom/example/unbound_principals/unboundprincipals/AuthorizableKind;" (.ref uGROUP))
    (p : Program) (e : Env) (s : State) (m : MethodId) (below : List Frame) (meth : Method) (c : Code) (s₁ : State) (Bd : BodyLoose p l x (head1 (Jvm.Cond.code x code maxLocals ret :: ws) room_1) code maxLocals ret e s m #[(.int p0), (.int p1), (.int p2), (.int p3), (.int p4), (.int p5)] below meth c s₁) (hml : c.maxLocals = 17)
    (vm0 : Vm) (hZ : Z.Warmed39 (s.setVm vm0).vm) (hown : (s.setVm vm0).vm.findClass "com/example/unbound_principals/unboundprincipals/AuthorizableKindOfNodeTypePinLaw" = some m.cls) (k0 : Nat) (hS : s.Since vm0 k0) (hh : s.heap = h0)
    (T : State) (h : Heap) (locs : List Loc) (X : Stand p l e room_1 (s.setVm vm0) m #[(.int p0), (.int p1), (.int p2), (.int p3), (.int p4), (.int p5)] below meth c T locs 16 400) (eT : T.heap = h) (N : Fr n0 locs) (Zh : n0 ≤ h.size) (hk : k0 ≤ h.size) (H : CHv Z own_EL vm0 h) (CH : CHr Z own_EL s.vm h0 vm0 h) (O : Old Z n0 h) (b : Int32) (bx : Addr) (ln : Int32) (o : Int32) (q : Int32) (ch : Int32) (q2 : Int32) (c2 : Int32) (n : Int32) (ar : Addr) (px : Addr) (pt : Addr) (cs : List Int32) (J0 : own_Str Z h px pt cs) :
    Way p.tables e below (KQH s Z own_EL (Q0 n0) room_1.cells room_1.slots) (T.setTop (mkF m 502 #[iv p0, iv p1, iv p2, iv p3, iv p4, iv p5, iv b, rv bx, iv ln, iv o, iv q, iv ch, iv q2, iv c2, iv n, rv ar, rv px] [])) := by
  have hx := Bd.exec
  have hby := Bd.bytes
  have hlk : meth.locks = false := BodyLoose.notSynchronized Bd
  have hnm := (name_of_methodNamed Bd.named Bd.method).1
  have wS : ∀ d ∈ Bundle.stringAtoms, d.before a0 Z = true := fun d hd => hw d (own_wS d hd)
  have hEL : EW Z a0 own_EL := own_EW hw
  refine Way.by (fun _ k => XS.aload X.here hx rfl (hb hby at_502) rfl rfl k) ?_
  show Way _ _ _ _ (T.setTop (mkF m 504 #[iv p0, iv p1, iv p2, iv p3, iv p4, iv p5, iv b, rv bx, iv ln, iv o, iv q, iv ch, iv q2, iv c2, iv n, rv ar, rv px] [(.ref px)]))
  obtain ⟨_, _, ⟨T1, L3, k4, n5⟩, -, X2, ⟨Lc6, hQ7, l8, y9, z10⟩, st11⟩ := Jvm.LawKit.callS X hx (y := (⟨"com/example/unbound_principals/unboundprincipals/AuthorizableKind", "ofNodeType", "(Ljava/lang/String;)Lcom/example/unbound_principals/unboundprincipals/AuthorizableKind;"⟩ : MethodName)) hown (mvT hZ (tw hw 76 rfl)) (mvT hZ (tw hw 77 rfl)) (mvT hZ (tw hw 78 rfl)) (mvT hZ (tw hw 79 rfl)) (by decide) (backOf (W := 0) (rmON l Z a0 hw [] px pt cs va kv uUSER uSYSTEM_USER uGROUP tUSER tSYSTEM_USER tGROUP tUSERt tSYSTEM_USERt tGROUPt h n0 Zh J0 O SV SVS EVA AVA EUSER FUSER TUSER ESYSTEM_USER FSYSTEM_USER TSYSTEM_USER EGROUP FGROUP TGROUP) hZ (tw hw 79 rfl) (tw hw 78 rfl) (by decide) (by decide)) (g := (mkF m 504 #[iv p0, iv p1, iv p2, iv p3, iv p4, iv p5, iv b, rv bx, iv ln, iv o, iv q, iv ch, iv q2, iv c2, iv n, rv ar, rv px] [(.ref px)])) rfl (by rw [hml]; rfl) (argsL := [(.ref px)]) (rest := []) (lenOf pdON rfl) rfl (leW rfl) (hb hby at_504) (fun _ _ => ⟨rfl, eT, (leB rfl), (leB rfl)⟩)
  dsimp only [Pt.U, Pt.locs, Pt.cells, Pt.slots] at X2 l8 y9 z10 st11 hQ7
  subst y9 z10
  obtain ⟨rfl, N17, K18⟩ := hQ7
  have N12 : Fr n0 L3 := by rw [l8]; exact Fr.app N N17
  have hr21 := CHr.keep K18 sf0 H
  have H19 := hr21.1
  have CH20 := CH.trans hr21
  have S22 := J0.keep K18 nin0 nin0
  have Z23 := Nat.le_trans Zh K18.1
  have hk24 := Nat.le_trans hk K18.1
  have O25 := O.keep K18 all0
  refine Way.by st11 ?_
  show Way _ _ _ _ (T1.setTop (mkF m 507 #[iv p0, iv p1, iv p2, iv p3, iv p4, iv p5, iv b, rv bx, iv ln, iv o, iv q, iv ch, iv q2, iv c2, iv n, rv ar, rv px] [(own_kind cs uUSER uSYSTEM_USER uGROUP)]))
  refine Way.by (fun _ k => XS.aload X2.here hx rfl (hb hby at_507) rfl rfl k) ?_
  show Way _ _ _ _ (T1.setTop (mkF m 509 #[iv p0, iv p1, iv p2, iv p3, iv p4, iv p5, iv b, rv bx, iv ln, iv o, iv q, iv ch, iv q2, iv c2, iv n, rv ar, rv px] [(.ref px), (own_kind cs uUSER uSYSTEM_USER uGROUP)]))
  obtain ⟨_, _, ⟨T26, L28, k29, n30⟩, -, X27, hS39, hg40, ⟨Lc31, hQ32, l33, y34, z35, hr41⟩, st36⟩ := callSS X2 hx (y := (⟨"com/example/unbound_principals/unboundprincipals/AuthorizableKindOfNodeTypePinLaw", "expected", "(Ljava/lang/String;)Lcom/example/unbound_principals/unboundprincipals/AuthorizableKind;"⟩ : MethodName)) hown (mvT hZ (tw hw 109 rfl)) (mvT hZ (tw hw 110 rfl)) (mvT hZ (tw hw 25 rfl)) (mvT hZ (tw hw 111 rfl)) (by decide) (backOfSH (W := 1) (rmXP l Z a0 hw [] px pt cs uUSER uSYSTEM_USER uGROUP T1.heap n0 Z23 S22 O25 SV SUSER SSYSTEM_USER SGROUP) hZ (tw hw 111 rfl) (tw hw 25 rfl) (by decide) (by decide) hEL H19) (g := (mkF m 509 #[iv p0, iv p1, iv p2, iv p3, iv p4, iv p5, iv b, rv bx, iv ln, iv o, iv q, iv ch, iv q2, iv c2, iv n, rv ar, rv px] [(.ref px), (own_kind cs uUSER uSYSTEM_USER uGROUP)])) rfl (by rw [hml]; rfl) (argsL := [(.ref px)]) (rest := [(own_kind cs uUSER uSYSTEM_USER uGROUP)]) (lenOf pdON rfl) rfl (leW (by simp [own_kcat])) (hb hby at_509) (fun _ _ => ⟨rfl, rfl, (leB rfl), (leB rfl)⟩)
  dsimp only [Pt.U, Pt.locs, Pt.cells, Pt.slots] at X27 l33 y34 z35 st36 hQ32 hS39 hg40 hr41
  subst y34 z35
  obtain ⟨X42, hS43, hZ44, hown45⟩ := rebS hS (by exact hk24) X27 hS39 hg40 hZ hown
  obtain ⟨rfl, N46, K47⟩ := hQ32
  have N37 : Fr n0 L28 := by rw [l33]; exact Fr.app N12 N46
  have H48 := hr41.1
  have CH49 := CH20.trans hr41
  have S51 := S22.keep K47 nin0 nin0
  have Z52 := Nat.le_trans Z23 K47.1
  have O53 := O25.keep K47 all0
  refine Way.to st36 ?_
  show Way _ _ _ _ (T26.setTop (mkF m 512 #[iv p0, iv p1, iv p2, iv p3, iv p4, iv p5, iv b, rv bx, iv ln, iv o, iv q, iv ch, iv q2, iv c2, iv n, rv ar, rv px] [(own_kind cs uUSER uSYSTEM_USER uGROUP), (own_kind cs uUSER uSYSTEM_USER uGROUP)]))
  try clear X2 N12 H19 CH20 S22 Z23 hk24 O25 X27 st36 hS39 hg40 hr41 N46 K47
  try clear T1
  have b54 : ((own_kind cs uUSER uSYSTEM_USER uGROUP) : Value) = (own_kind cs uUSER uSYSTEM_USER uGROUP) := rfl
  refine Way.by (fun _ k => acmp X42 hx rfl own_kref own_kref (pc0 := 512) (pc' := 515) (same := true) rfl (hb hby at_512) rfl (by simp [b54]) (by decide) (by decide) k) ?_
  show Way _ _ _ _ (T26.setTop (mkF m 515 #[iv p0, iv p1, iv p2, iv p3, iv p4, iv p5, iv b, rv bx, iv ln, iv o, iv q, iv ch, iv q2, iv c2, iv n, rv ar, rv px] []))
  refine Way.by (fun _ k => XS.iconst X42.here hx rfl (hb hby at_515) k) ?_
  show Way _ _ _ _ (T26.setTop (mkF m 516 #[iv p0, iv p1, iv p2, iv p3, iv p4, iv p5, iv b, rv bx, iv ln, iv o, iv q, iv ch, iv q2, iv c2, iv n, rv ar, rv px] [(.int 1)]))
  refine Way.by (fun _ k => XS.goto X42.here hx rfl (pc0 := 516) (pc' := 520) rfl (hb hby at_516) (by decide) (by decide) k) ?_
  show Way _ _ _ _ (T26.setTop (mkF m 520 #[iv p0, iv p1, iv p2, iv p3, iv p4, iv p5, iv b, rv bx, iv ln, iv o, iv q, iv ch, iv q2, iv c2, iv n, rv ar, rv px] [(.int 1)]))
  refine Way.retH (v := (some (.int (nar .boolean (1 : Int32))))) X42 hS43 (by exact (Nat.le_refl _)) hZ44 hEL hh rfl H48 CH49 hlk (fun h => by rw [Bd.returns] at h; cases h) (fun fs hr => retN X42 hx (t := .boolean) Bd.returns (by simp) (hb hby at_520) hr) ?_ (by decide) (by decide)
  show Q0 n0 _ T26.heap _
  skip
  exact ⟨rfl, N37⟩
theorem seg502n (l : Launch) (Z : State) (a0 : Array Value) (hw : ∀ d ∈ tables_1, d.before a0 Z = true) (ws : List Jvm.Cond) (p0 p1 p2 p3 p4 p5 : Int32) (va : Addr) (kv : ClassId) (uUSER uSYSTEM_USER uGROUP : Addr) (tUSER tUSERt tSYSTEM_USER tSYSTEM_USERt tGROUP tGROUPt : Addr) (h0 : Heap) (n0 : Nat) (Z0 : n0 ≤ h0.size) (O0 : Old Z n0 h0) (SV : own_Env Z) (SVS : Sta Z Z.heap "com/example/unbound_principals/unboundprincipals/AuthorizableKind" "$VALUES" "[Lcom/example/unbound_principals/unboundprincipals/AuthorizableKind;" (.ref va)) (EVA : Exa Z Z.heap va "[Lcom/example/unbound_principals/unboundprincipals/AuthorizableKind;") (AVA : Arv Z Z.heap va kv (.object "com/example/unbound_principals/unboundprincipals/AuthorizableKind") (3 : Int32) [(.ref uUSER), (.ref uSYSTEM_USER), (.ref uGROUP)] .null) (EUSER : Exa Z Z.heap uUSER "com/example/unbound_principals/unboundprincipals/AuthorizableKind") (FUSER : Fld Z Z.heap uUSER "com/example/unbound_principals/unboundprincipals/AuthorizableKind" "nodeType" "Ljava/lang/String;" (.ref tUSER)) (TUSER : own_Str Z Z.heap tUSER tUSERt [114, 101, 112, 58, 85, 115, 101, 114]) (ESYSTEM_USER : Exa Z Z.heap uSYSTEM_USER "com/example/unbound_principals/unboundprincipals/AuthorizableKind") (FSYSTEM_USER : Fld Z Z.heap uSYSTEM_USER "com/example/unbound_principals/unboundprincipals/AuthorizableKind" "nodeType" "Ljava/lang/String;" (.ref tSYSTEM_USER)) (TSYSTEM_USER : own_Str Z Z.heap tSYSTEM_USER tSYSTEM_USERt [114, 101, 112, 58, 83, 121, 115, 116, 101, 109, 85, 115, 101, 114]) (EGROUP : Exa Z Z.heap uGROUP "com/example/unbound_principals/unboundprincipals/AuthorizableKind") (FGROUP : Fld Z Z.heap uGROUP "com/example/unbound_principals/unboundprincipals/AuthorizableKind" "nodeType" "Ljava/lang/String;" (.ref tGROUP)) (TGROUP : own_Str Z Z.heap tGROUP tGROUPt [114, 101, 112, 58, 71, 114, 111, 117, 112]) (SUSER : Sta Z Z.heap "com/example/unbound_principals/unboundprincipals/AuthorizableKind" "USER" "Lcom/example/unbound_principals/unboundprincipals/AuthorizableKind;" (.ref uUSER)) (SSYSTEM_USER : Sta Z Z.heap "com/example/unbound_principals/unboundprincipals/AuthorizableKind" "SYSTEM_USER" "Lcom/example/unbound_principals/unboundprincipals/AuthorizableKind;" (.ref uSYSTEM_USER)) (SGROUP : Sta Z Z.heap "com/example/unbound_principals/unboundprincipals/AuthorizableKind" "GROUP" "Lcom/example/unbound_principals/unboundprincipals/AuthorizableKind;" (.ref uGROUP))
    (p : Program) (e : Env) (s : State) (m : MethodId) (below : List Frame) (meth : Method) (c : Code) (s₁ : State) (Bd : BodyLoose p l x (head1 (Jvm.Cond.code x code maxLocals ret :: ws) room_1) code maxLocals ret e s m #[(.int p0), (.int p1), (.int p2), (.int p3), (.int p4), (.int p5)] below meth c s₁) (hml : c.maxLocals = 17)
    (vm0 : Vm) (hZ : Z.Warmed39 (s.setVm vm0).vm) (hown : (s.setVm vm0).vm.findClass "com/example/unbound_principals/unboundprincipals/AuthorizableKindOfNodeTypePinLaw" = some m.cls) (k0 : Nat) (hS : s.Since vm0 k0) (hh : s.heap = h0)
    (T : State) (h : Heap) (locs : List Loc) (X : Stand p l e room_1 (s.setVm vm0) m #[(.int p0), (.int p1), (.int p2), (.int p3), (.int p4), (.int p5)] below meth c T locs 16 400) (eT : T.heap = h) (N : Fr n0 locs) (Zh : n0 ≤ h.size) (hk : k0 ≤ h.size) (H : CHv Z own_EL vm0 h) (CH : CHr Z own_EL s.vm h0 vm0 h) (O : Old Z n0 h) (b : Int32) (bx : Addr) (ln : Int32) (o : Int32) (q : Int32) (ch : Int32) (q2 : Int32) (c2 : Int32) (n : Int32) (ar : Addr)  :
    Way p.tables e below (KQH s Z own_EL (Q0 n0) room_1.cells room_1.slots) (T.setTop (mkF m 502 #[iv p0, iv p1, iv p2, iv p3, iv p4, iv p5, iv b, rv bx, iv ln, iv o, iv q, iv ch, iv q2, iv c2, iv n, rv ar, .val .null] [])) := by
  have hx := Bd.exec
  have hby := Bd.bytes
  have hlk : meth.locks = false := BodyLoose.notSynchronized Bd
  have hnm := (name_of_methodNamed Bd.named Bd.method).1
  have wS : ∀ d ∈ Bundle.stringAtoms, d.before a0 Z = true := fun d hd => hw d (own_wS d hd)
  have hEL : EW Z a0 own_EL := own_EW hw
  refine Way.by (fun _ k => XS.aload X.here hx rfl (hb hby at_502) rfl rfl k) ?_
  show Way _ _ _ _ (T.setTop (mkF m 504 #[iv p0, iv p1, iv p2, iv p3, iv p4, iv p5, iv b, rv bx, iv ln, iv o, iv q, iv ch, iv q2, iv c2, iv n, rv ar, .val .null] [.null]))
  obtain ⟨_, _, ⟨T1, L3, k4, n5⟩, -, X2, ⟨Lc6, hQ7, l8, y9, z10⟩, st11⟩ := Jvm.LawKit.callS X hx (y := (⟨"com/example/unbound_principals/unboundprincipals/AuthorizableKind", "ofNodeType", "(Ljava/lang/String;)Lcom/example/unbound_principals/unboundprincipals/AuthorizableKind;"⟩ : MethodName)) hown (mvT hZ (tw hw 76 rfl)) (mvT hZ (tw hw 77 rfl)) (mvT hZ (tw hw 78 rfl)) (mvT hZ (tw hw 79 rfl)) (by decide) (backOf (W := 0) (rmOM l Z a0 hw [] va kv uUSER uSYSTEM_USER uGROUP tUSER tSYSTEM_USER tGROUP tUSERt tSYSTEM_USERt tGROUPt h n0 Zh O SV SVS EVA AVA EUSER FUSER TUSER ESYSTEM_USER FSYSTEM_USER TSYSTEM_USER EGROUP FGROUP TGROUP) hZ (tw hw 79 rfl) (tw hw 78 rfl) (by decide) (by decide)) (g := (mkF m 504 #[iv p0, iv p1, iv p2, iv p3, iv p4, iv p5, iv b, rv bx, iv ln, iv o, iv q, iv ch, iv q2, iv c2, iv n, rv ar, .val .null] [.null])) rfl (by rw [hml]; rfl) (argsL := [.null]) (rest := []) (lenOf pdON rfl) rfl (leW rfl) (hb hby at_504) (fun _ _ => ⟨rfl, eT, (leB rfl), (leB rfl)⟩)
  dsimp only [Pt.U, Pt.locs, Pt.cells, Pt.slots] at X2 l8 y9 z10 st11 hQ7
  subst y9 z10
  obtain ⟨rfl, N17, K18⟩ := hQ7
  have N12 : Fr n0 L3 := by rw [l8]; exact Fr.app N N17
  have hr21 := CHr.keep K18 sf0 H
  have H19 := hr21.1
  have CH20 := CH.trans hr21
  have Z22 := Nat.le_trans Zh K18.1
  have hk23 := Nat.le_trans hk K18.1
  have O24 := O.keep K18 all0
  refine Way.by st11 ?_
  show Way _ _ _ _ (T1.setTop (mkF m 507 #[iv p0, iv p1, iv p2, iv p3, iv p4, iv p5, iv b, rv bx, iv ln, iv o, iv q, iv ch, iv q2, iv c2, iv n, rv ar, .val .null] [.null]))
  refine Way.by (fun _ k => XS.aload X2.here hx rfl (hb hby at_507) rfl rfl k) ?_
  show Way _ _ _ _ (T1.setTop (mkF m 509 #[iv p0, iv p1, iv p2, iv p3, iv p4, iv p5, iv b, rv bx, iv ln, iv o, iv q, iv ch, iv q2, iv c2, iv n, rv ar, .val .null] [.null, .null]))
  obtain ⟨_, _, ⟨T25, L27, k28, n29⟩, -, X26, ⟨Lc30, hQ31, l32, y33, z34⟩, st35⟩ := Jvm.LawKit.callS X2 hx (y := (⟨"com/example/unbound_principals/unboundprincipals/AuthorizableKindOfNodeTypePinLaw", "expected", "(Ljava/lang/String;)Lcom/example/unbound_principals/unboundprincipals/AuthorizableKind;"⟩ : MethodName)) hown (mvT hZ (tw hw 109 rfl)) (mvT hZ (tw hw 110 rfl)) (mvT hZ (tw hw 25 rfl)) (mvT hZ (tw hw 111 rfl)) (by decide) (backOf (W := 1) (rmXN l Z a0 hw []  T1.heap n0 Z22 ) hZ (tw hw 111 rfl) (tw hw 25 rfl) (by decide) (by decide)) (g := (mkF m 509 #[iv p0, iv p1, iv p2, iv p3, iv p4, iv p5, iv b, rv bx, iv ln, iv o, iv q, iv ch, iv q2, iv c2, iv n, rv ar, .val .null] [.null, .null])) rfl (by rw [hml]; rfl) (argsL := [.null]) (rest := [.null]) (lenOf pdON rfl) rfl (leW rfl) (hb hby at_509) (fun _ _ => ⟨rfl, rfl, (leB rfl), (leB rfl)⟩)
  dsimp only [Pt.U, Pt.locs, Pt.cells, Pt.slots] at X26 l32 y33 z34 st35 hQ31
  subst y33 z34
  obtain ⟨rfl, N41, e37⟩ := hQ31
  have N36 : Fr n0 L27 := by rw [l32]; exact Fr.app N12 N41
  refine Way.by st35 ?_
  show Way _ _ _ _ (T25.setTop (mkF m 512 #[iv p0, iv p1, iv p2, iv p3, iv p4, iv p5, iv b, rv bx, iv ln, iv o, iv q, iv ch, iv q2, iv c2, iv n, rv ar, .val .null] [.null, .null]))
  have b43 : (.null : Value) = .null := rfl
  refine Way.by (fun _ k => acmp X26 hx rfl rfl rfl (pc0 := 512) (pc' := 515) (same := true) rfl (hb hby at_512) rfl (by simp [b43]) (by decide) (by decide) k) ?_
  show Way _ _ _ _ (T25.setTop (mkF m 515 #[iv p0, iv p1, iv p2, iv p3, iv p4, iv p5, iv b, rv bx, iv ln, iv o, iv q, iv ch, iv q2, iv c2, iv n, rv ar, .val .null] []))
  refine Way.by (fun _ k => XS.iconst X26.here hx rfl (hb hby at_515) k) ?_
  show Way _ _ _ _ (T25.setTop (mkF m 516 #[iv p0, iv p1, iv p2, iv p3, iv p4, iv p5, iv b, rv bx, iv ln, iv o, iv q, iv ch, iv q2, iv c2, iv n, rv ar, .val .null] [(.int 1)]))
  refine Way.by (fun _ k => XS.goto X26.here hx rfl (pc0 := 516) (pc' := 520) rfl (hb hby at_516) (by decide) (by decide) k) ?_
  show Way _ _ _ _ (T25.setTop (mkF m 520 #[iv p0, iv p1, iv p2, iv p3, iv p4, iv p5, iv b, rv bx, iv ln, iv o, iv q, iv ch, iv q2, iv c2, iv n, rv ar, .val .null] [(.int 1)]))
  refine Way.retH (v := (some (.int (nar .boolean (1 : Int32))))) X26 hS (by rw [e37]; exact hk23) hZ hEL hh e37 H19 CH20 hlk (fun h => by rw [Bd.returns] at h; cases h) (fun fs hr => retN X26 hx (t := .boolean) Bd.returns (by simp) (hb hby at_520) hr) ?_ (by decide) (by decide)
  show Q0 n0 _ T25.heap _
  rw [e37]
  exact ⟨rfl, N36⟩
theorem seg460 (l : Launch) (Z : State) (a0 : Array Value) (hw : ∀ d ∈ tables_1, d.before a0 Z = true) (ws : List Jvm.Cond) (p0 p1 p2 p3 p4 p5 : Int32) (va : Addr) (kv : ClassId) (uUSER uSYSTEM_USER uGROUP : Addr) (tUSER tUSERt tSYSTEM_USER tSYSTEM_USERt tGROUP tGROUPt : Addr) (h0 : Heap) (n0 : Nat) (Z0 : n0 ≤ h0.size) (O0 : Old Z n0 h0) (SV : own_Env Z) (SVS : Sta Z Z.heap "com/example/unbound_principals/unboundprincipals/AuthorizableKind" "$VALUES" "[Lcom/example/unbound_principals/unboundprincipals/AuthorizableKind;" (.ref va)) (EVA : Exa Z Z.heap va "[Lcom/example/unbound_principals/unboundprincipals/AuthorizableKind;") (AVA : Arv Z Z.heap va kv (.object "com/example/unbound_principals/unboundprincipals/AuthorizableKind") (3 : Int32) [(.ref uUSER), (.ref uSYSTEM_USER), (.ref uGROUP)] .null) (EUSER : Exa Z Z.heap uUSER "com/example/unbound_principals/unboundprincipals/AuthorizableKind") (FUSER : Fld Z Z.heap uUSER "com/example/unbound_principals/unboundprincipals/AuthorizableKind" "nodeType" "Ljava/lang/String;" (.ref tUSER)) (TUSER : own_Str Z Z.heap tUSER tUSERt [114, 101, 112, 58, 85, 115, 101, 114]) (ESYSTEM_USER : Exa Z Z.heap uSYSTEM_USER "com/example/unbound_principals/unboundprincipals/AuthorizableKind") (FSYSTEM_USER : Fld Z Z.heap uSYSTEM_USER "com/example/unbound_principals/unboundprincipals/AuthorizableKind" "nodeType" "Ljava/lang/String;" (.ref tSYSTEM_USER)) (TSYSTEM_USER : own_Str Z Z.heap tSYSTEM_USER tSYSTEM_USERt [114, 101, 112, 58, 83, 121, 115, 116, 101, 109, 85, 115, 101, 114]) (EGROUP : Exa Z Z.heap uGROUP "com/example/unbound_principals/unboundprincipals/AuthorizableKind") (FGROUP : Fld Z Z.heap uGROUP "com/example/unbound_principals/unboundprincipals/AuthorizableKind" "nodeType" "Ljava/lang/String;" (.ref tGROUP)) (TGROUP : own_Str Z Z.heap tGROUP tGROUPt [114, 101, 112, 58, 71, 114, 111, 117, 112]) (SUSER : Sta Z Z.heap "com/example/unbound_principals/unboundprincipals/AuthorizableKind" "USER" "Lcom/example/unbound_principals/unboundprincipals/AuthorizableKind;" (.ref uUSER)) (SSYSTEM_USER : Sta Z Z.heap "com/example/unbound_principals/unboundprincipals/AuthorizableKind" "SYSTEM_USER" "Lcom/example/unbound_principals/unboundprincipals/AuthorizableKind;" (.ref uSYSTEM_USER)) (SGROUP : Sta Z Z.heap "com/example/unbound_principals/unboundprincipals/AuthorizableKind" "GROUP" "Lcom/example/unbound_principals/unboundprincipals/AuthorizableKind;" (.ref uGROUP))
    (p : Program) (e : Env) (s : State) (m : MethodId) (below : List Frame) (meth : Method) (c : Code) (s₁ : State) (Bd : BodyLoose p l x (head1 (Jvm.Cond.code x code maxLocals ret :: ws) room_1) code maxLocals ret e s m #[(.int p0), (.int p1), (.int p2), (.int p3), (.int p4), (.int p5)] below meth c s₁) (hml : c.maxLocals = 17)
    (vm0 : Vm) (hZ : Z.Warmed39 (s.setVm vm0).vm) (hown : (s.setVm vm0).vm.findClass "com/example/unbound_principals/unboundprincipals/AuthorizableKindOfNodeTypePinLaw" = some m.cls) (k0 : Nat) (hS : s.Since vm0 k0) (hh : s.heap = h0)
    (T : State) (h : Heap) (locs : List Loc) (X : Stand p l e room_1 (s.setVm vm0) m #[(.int p0), (.int p1), (.int p2), (.int p3), (.int p4), (.int p5)] below meth c T locs 8 200) (eT : T.heap = h) (N : Fr n0 locs) (Zh : n0 ≤ h.size) (hk : k0 ≤ h.size) (H : CHv Z own_EL vm0 h) (CH : CHr Z own_EL s.vm h0 vm0 h) (O : Old Z n0 h) (b : Int32) (bx : Addr) (ln : Int32) (o : Int32) (q : Int32) (ch : Int32) (q2 : Int32) (c2 : Int32) (n : Int32) (ar : Addr) (ka : ClassId) (x0 : Int32) (x1 : Int32) (x2 : Int32) (x3 : Int32) (x4 : Int32) (x5 : Int32) (x6 : Int32) (x7 : Int32) (x8 : Int32) (x9 : Int32) (x10 : Int32) (x11 : Int32) (x12 : Int32) (x13 : Int32) (x14 : Int32) (x15 : Int32) (J0 : Arv Z h ar ka .char (16 : Int32) [(.int x0), (.int x1), (.int x2), (.int x3), (.int x4), (.int x5), (.int x6), (.int x7), (.int x8), (.int x9), (.int x10), (.int x11), (.int x12), (.int x13), (.int x14), (.int x15)] (.int 0)) (hb0 : own_b x0) (hb1 : own_b x1) (hb2 : own_b x2) (hb3 : own_b x3) (hb4 : own_b x4) (hb5 : own_b x5) (hb6 : own_b x6) (hb7 : own_b x7) (hb8 : own_b x8) (hb9 : own_b x9) (hb10 : own_b x10) (hb11 : own_b x11) (hb12 : own_b x12) (hb13 : own_b x13) (hb14 : own_b x14) (hb15 : own_b x15) (hn : n = 7 ∨ n = 8 ∨ n = 9 ∨ n = 10 ∨ n = 13 ∨ n = 14 ∨ n = 15) :
    Way p.tables e below (KQH s Z own_EL (Q0 n0) room_1.cells room_1.slots) (T.setTop (mkF m 460 #[iv p0, iv p1, iv p2, iv p3, iv p4, iv p5, iv b, rv bx, iv ln, iv o, iv q, iv ch, iv q2, iv c2, iv n, rv ar, .unset] [])) := by
  have hx := Bd.exec
  have hby := Bd.bytes
  have hlk : meth.locks = false := BodyLoose.notSynchronized Bd
  have hnm := (name_of_methodNamed Bd.named Bd.method).1
  have wS : ∀ d ∈ Bundle.stringAtoms, d.before a0 Z = true := fun d hd => hw d (own_wS d hd)
  have hEL : EW Z a0 own_EL := own_EW hw
  refine Way.by (fun _ k => XS.iload X.here hx rfl (hb hby at_460) rfl k) ?_
  show Way _ _ _ _ (T.setTop (mkF m 462 #[iv p0, iv p1, iv p2, iv p3, iv p4, iv p5, iv b, rv bx, iv ln, iv o, iv q, iv ch, iv q2, iv c2, iv n, rv ar, .unset] [(.int o)]))
  refine Way.by (fun _ k => XS.iconst X.here hx rfl (hb hby at_462) k) ?_
  show Way _ _ _ _ (T.setTop (mkF m 463 #[iv p0, iv p1, iv p2, iv p3, iv p4, iv p5, iv b, rv bx, iv ln, iv o, iv q, iv ch, iv q2, iv c2, iv n, rv ar, .unset] [(.int 4), (.int o)]))
  by_cases b1 : o = (4 : Int32)
  · skip
    refine Way.by (fun _ k => XS.icmpNo X.here hx rfl (hb hby at_463) rfl (teq b1).2 k) ?_
    show Way _ _ _ _ (T.setTop (mkF m 466 #[iv p0, iv p1, iv p2, iv p3, iv p4, iv p5, iv b, rv bx, iv ln, iv o, iv q, iv ch, iv q2, iv c2, iv n, rv ar, .unset] []))
    refine Way.by (fun _ k => XS.aconstNull X.here hx rfl (hb hby at_466) k) ?_
    show Way _ _ _ _ (T.setTop (mkF m 467 #[iv p0, iv p1, iv p2, iv p3, iv p4, iv p5, iv b, rv bx, iv ln, iv o, iv q, iv ch, iv q2, iv c2, iv n, rv ar, .unset] [.null]))
    refine Way.by (fun _ k => XS.astore X.here hx rfl (hb hby at_467) rfl rfl (l' := #[iv p0, iv p1, iv p2, iv p3, iv p4, iv p5, iv b, rv bx, iv ln, iv o, iv q, iv ch, iv q2, iv c2, iv n, rv ar, .val .null]) rfl k) ?_
    show Way _ _ _ _ (T.setTop (mkF m 469 #[iv p0, iv p1, iv p2, iv p3, iv p4, iv p5, iv b, rv bx, iv ln, iv o, iv q, iv ch, iv q2, iv c2, iv n, rv ar, .val .null] []))
    refine Way.by (fun _ k => XS.goto X.here hx rfl (pc0 := 469) (pc' := 502) rfl (hb hby at_469) (by decide) (by decide) k) ?_
    show Way _ _ _ _ (T.setTop (mkF m 502 #[iv p0, iv p1, iv p2, iv p3, iv p4, iv p5, iv b, rv bx, iv ln, iv o, iv q, iv ch, iv q2, iv c2, iv n, rv ar, .val .null] []))
    exact seg502n l Z a0 hw ws p0 p1 p2 p3 p4 p5 va kv uUSER uSYSTEM_USER uGROUP tUSER tUSERt tSYSTEM_USER tSYSTEM_USERt tGROUP tGROUPt h0 n0 Z0 O0 SV SVS EVA AVA EUSER FUSER TUSER ESYSTEM_USER FSYSTEM_USER TSYSTEM_USER EGROUP FGROUP TGROUP SUSER SSYSTEM_USER SGROUP p e s m below meth c s₁ Bd hml _ hZ hown _ hS hh T h _ (X.mono (by decide) (by decide)) eT N Zh hk H CH O b bx ln o q ch q2 c2 n ar 
  · skip
    refine Way.by (fun _ k => XS.icmpYes X.here hx rfl (pc0 := 463) (pc' := 472) rfl (hb hby at_463) rfl (feq b1).2 (by decide) (by decide) k) ?_
    show Way _ _ _ _ (T.setTop (mkF m 472 #[iv p0, iv p1, iv p2, iv p3, iv p4, iv p5, iv b, rv bx, iv ln, iv o, iv q, iv ch, iv q2, iv c2, iv n, rv ar, .unset] []))
    refine Way.by (fun _ k => XS.iload X.here hx rfl (hb hby at_472) rfl k) ?_
    show Way _ _ _ _ (T.setTop (mkF m 474 #[iv p0, iv p1, iv p2, iv p3, iv p4, iv p5, iv b, rv bx, iv ln, iv o, iv q, iv ch, iv q2, iv c2, iv n, rv ar, .unset] [(.int o)]))
    refine Way.by (fun _ k => XS.iconst X.here hx rfl (hb hby at_474) k) ?_
    show Way _ _ _ _ (T.setTop (mkF m 475 #[iv p0, iv p1, iv p2, iv p3, iv p4, iv p5, iv b, rv bx, iv ln, iv o, iv q, iv ch, iv q2, iv c2, iv n, rv ar, .unset] [(.int 5), (.int o)]))
    by_cases b2 : o = (5 : Int32)
    · skip
      refine Way.by (fun _ k => XS.icmpNo X.here hx rfl (hb hby at_475) rfl (teq b2).2 k) ?_
      show Way _ _ _ _ (T.setTop (mkF m 478 #[iv p0, iv p1, iv p2, iv p3, iv p4, iv p5, iv b, rv bx, iv ln, iv o, iv q, iv ch, iv q2, iv c2, iv n, rv ar, .unset] []))
      obtain ⟨T3, h4, X5, e6, E7, A8, D9, -, st10⟩ := newO X hx hZ hown (tw hw 55 rfl) (tw hw 3 rfl) (tw hw 2 rfl) eT (g := (mkF m 478 #[iv p0, iv p1, iv p2, iv p3, iv p4, iv p5, iv b, rv bx, iv ln, iv o, iv q, iv ch, iv q2, iv c2, iv n, rv ar, .unset] [])) rfl (hb hby at_478) (by decide) (by decide)
      obtain ⟨a11, g12⟩ : ∃ z, z = h.size := ⟨_, rfl⟩
      rw [← g12] at A8 D9 st10
      have ne13 : ar ≠ a11 := Nat.ne_of_lt (Nat.lt_of_lt_of_eq J0.lt g12.symm)
      have nw14 : n0 ≤ a11 := Nat.le_trans Zh (Nat.le_of_eq g12.symm)
      have Sf15 : Safe Z own_EL vm0 h a11 := Safe.new (Nat.le_of_eq g12.symm)
      have hr18 := CHr.ext E7 H
      have Sf19 := Safe.ext E7 H Sf15
      have H16 := hr18.1
      have CH17 := CH.trans hr18
      have A20 := J0.ext E7
      have Z21 := Nat.le_trans Zh E7.1
      have hk22 := Nat.le_trans hk E7.1
      have O23 := O.ext E7
      have F24 : Fld Z h4 a11 "java/lang/String" "value" "[B" .null := D9 (Or.inr (tw hw 5 rfl)) (ty := (.array .byte)) (by decide)
      have F25 : Fld Z h4 a11 "java/lang/String" "coder" "B" (.int 0) := D9 (Or.inr (tw hw 6 rfl)) (ty := .byte) (by decide)
      refine Way.by st10 ?_
      show Way _ _ _ _ (T3.setTop (mkF m 481 #[iv p0, iv p1, iv p2, iv p3, iv p4, iv p5, iv b, rv bx, iv ln, iv o, iv q, iv ch, iv q2, iv c2, iv n, rv ar, .unset] [(.ref a11)]))
      refine Way.by (fun _ k => XS.dup X5.here hx rfl (hb hby at_481) rfl rfl k) ?_
      show Way _ _ _ _ (T3.setTop (mkF m 482 #[iv p0, iv p1, iv p2, iv p3, iv p4, iv p5, iv b, rv bx, iv ln, iv o, iv q, iv ch, iv q2, iv c2, iv n, rv ar, .unset] [(.ref a11), (.ref a11)]))
      refine Way.by (fun _ k => XS.iconst X5.here hx rfl (hb hby at_482) k) ?_
      show Way _ _ _ _ (T3.setTop (mkF m 483 #[iv p0, iv p1, iv p2, iv p3, iv p4, iv p5, iv b, rv bx, iv ln, iv o, iv q, iv ch, iv q2, iv c2, iv n, rv ar, .unset] [(.int 0), (.ref a11), (.ref a11)]))
      obtain ⟨T26, h27, kc28, X29, e30, E31, A32, st33⟩ := newP X5 hx hZ (tw hw 22 rfl) e6 (g := (mkF m 483 #[iv p0, iv p1, iv p2, iv p3, iv p4, iv p5, iv b, rv bx, iv ln, iv o, iv q, iv ch, iv q2, iv c2, iv n, rv ar, .unset] [(.int 0), (.ref a11), (.ref a11)])) rfl (hb hby at_483) rfl (by decide) (cap := 0) (by decide) (by decide) (by decide) (by decide)
      obtain ⟨a34, g35⟩ : ∃ z, z = h4.size := ⟨_, rfl⟩
      rw [← g35] at A32 st33
      have ne37 : ar ≠ a34 := Nat.ne_of_lt (Nat.lt_of_lt_of_eq A20.lt g35.symm)
      have ne38 : a11 ≠ a34 := Nat.ne_of_lt (Nat.lt_of_lt_of_eq A8.lt g35.symm)
      have nw39 : n0 ≤ a34 := Nat.le_trans Z21 (Nat.le_of_eq g35.symm)
      have hr42 := CHr.ext E31 H16
      have Sf43 := Safe.ext E31 H16 Sf19
      have H40 := hr42.1
      have CH41 := CH17.trans hr42
      have A44 := A20.ext E31
      have E45 := Exa.ext E31 A8
      have F46 := Fld.ext E31 F24
      have F47 := Fld.ext E31 F25
      have Z48 := Nat.le_trans Z21 E31.1
      have hk49 := Nat.le_trans hk22 E31.1
      have O50 := O23.ext E31
      have V36 : Arv Z h27 a34 kc28 .char (0 : Int32) [] (.int 0) := Arv.new A32 (by decide)
      refine Way.by st33 ?_
      show Way _ _ _ _ (T26.setTop (mkF m 485 #[iv p0, iv p1, iv p2, iv p3, iv p4, iv p5, iv b, rv bx, iv ln, iv o, iv q, iv ch, iv q2, iv c2, iv n, rv ar, .unset] [(.ref a34), (.ref a11), (.ref a11)]))
      try clear X5 e6 A8 H16 CH17 Sf19 A20 Z21 hk22 O23 F24 F25 E31 A32 st33 hr42
      try clear T3 h4
      obtain ⟨_, _, ⟨T51, L53, k54, n55⟩, -, X52, hS64, hg65, ⟨Lc56, hQ57, l58, y59, z60, hr66⟩, st61⟩ := X29.specialBackS hx (y := (⟨"java/lang/String", "<init>", "([C)V"⟩ : MethodName)) rfl hown (mvT hZ (tw hw 56 rfl)) (mvT hZ (tw hw 57 rfl)) (mvT hZ (tw hw 58 rfl)) (by decide) (backOfSH (W := 1) (rmN1 l Z a0 hw [] a11 a34 kc28 h27 n0 Z48 E45 F46 F47 V36 ne38.symm nw14) hZ (tw hw 58 rfl) (tw hw 2 rfl) (by decide) (by decide) hEL H40) (g := (mkF m 485 #[iv p0, iv p1, iv p2, iv p3, iv p4, iv p5, iv b, rv bx, iv ln, iv o, iv q, iv ch, iv q2, iv c2, iv n, rv ar, .unset] [(.ref a34), (.ref a11), (.ref a11)])) rfl (by rw [hml]; rfl) (Steps.refl _) (a := a11) (argsL := [(.ref a34)]) (rest := [(.ref a11)]) (lenOf pdN1 rfl) rfl (leW rfl) (hb hby at_485) (fun _ _ => ⟨rfl, e30, (leB rfl), (leB rfl)⟩)
      dsimp only [Pt.U, Pt.locs, Pt.cells, Pt.slots] at X52 l58 y59 z60 st61 hQ57 hS64 hg65 hr66
      subst y59 z60
      obtain ⟨X67, hS68, hZ69, hown70⟩ := rebS hS (by rw [e30]; exact hk49) X52 hS64 hg65 hZ hown
      obtain ⟨x_pt74, rfl, N71, K72, F_073⟩ := hQ57
      have N62 : Fr n0 L53 := by rw [l58]; exact Fr.app N N71
      have Sf78 := CHr.safe hr66 E45.lt Sf43
      have H75 := hr66.1
      have CH76 := CH41.trans hr66
      have A79 := A44.keep K72 (ninS ne13 nin0)
      have E80 := E45.keep K72
      have A81 := V36.keep K72 (ninS ne38.symm nin0)
      have Z82 := Nat.le_trans Z48 K72.1
      have O83 := O50.keep K72 (allS nw14 all0)
      refine Way.to st61 ?_
      show Way _ _ _ _ (T51.setTop (mkF m 488 #[iv p0, iv p1, iv p2, iv p3, iv p4, iv p5, iv b, rv bx, iv ln, iv o, iv q, iv ch, iv q2, iv c2, iv n, rv ar, .unset] [(.ref a11)]))
      try clear X29 e30 V36 H40 CH41 Sf43 A44 E45 F46 F47 Z48 hk49 O50 X52 st61 hS64 hg65 hr66 N71 K72
      try clear T26 h27
      refine Way.by (fun _ k => XS.astore X67.here hx rfl (hb hby at_488) rfl rfl (l' := #[iv p0, iv p1, iv p2, iv p3, iv p4, iv p5, iv b, rv bx, iv ln, iv o, iv q, iv ch, iv q2, iv c2, iv n, rv ar, rv a11]) rfl k) ?_
      show Way _ _ _ _ (T51.setTop (mkF m 490 #[iv p0, iv p1, iv p2, iv p3, iv p4, iv p5, iv b, rv bx, iv ln, iv o, iv q, iv ch, iv q2, iv c2, iv n, rv ar, rv a11] []))
      refine Way.by (fun _ k => XS.goto X67.here hx rfl (pc0 := 490) (pc' := 502) rfl (hb hby at_490) (by decide) (by decide) k) ?_
      show Way _ _ _ _ (T51.setTop (mkF m 502 #[iv p0, iv p1, iv p2, iv p3, iv p4, iv p5, iv b, rv bx, iv ln, iv o, iv q, iv ch, iv q2, iv c2, iv n, rv ar, rv a11] []))
      exact seg502 l Z a0 hw ws p0 p1 p2 p3 p4 p5 va kv uUSER uSYSTEM_USER uGROUP tUSER tUSERt tSYSTEM_USER tSYSTEM_USERt tGROUP tGROUPt h0 n0 Z0 O0 SV SVS EVA AVA EUSER FUSER TUSER ESYSTEM_USER FSYSTEM_USER TSYSTEM_USER EGROUP FGROUP TGROUP SUSER SSYSTEM_USER SGROUP p e s m below meth c s₁ Bd hml _ hZ69 hown70 _ hS68 hh T51 T51.heap _ (X67.mono (by decide) (by decide)) rfl N62 Z82 (Nat.le_refl _) H75 CH76 O83 b bx ln o q ch q2 c2 n ar a11 x_pt74 [] F_073
    · skip
      refine Way.by (fun _ k => XS.icmpYes X.here hx rfl (pc0 := 475) (pc' := 493) rfl (hb hby at_475) rfl (feq b2).2 (by decide) (by decide) k) ?_
      show Way _ _ _ _ (T.setTop (mkF m 493 #[iv p0, iv p1, iv p2, iv p3, iv p4, iv p5, iv b, rv bx, iv ln, iv o, iv q, iv ch, iv q2, iv c2, iv n, rv ar, .unset] []))
      refine Way.by (fun _ k => XS.aload X.here hx rfl (hb hby at_493) rfl rfl k) ?_
      show Way _ _ _ _ (T.setTop (mkF m 495 #[iv p0, iv p1, iv p2, iv p3, iv p4, iv p5, iv b, rv bx, iv ln, iv o, iv q, iv ch, iv q2, iv c2, iv n, rv ar, .unset] [(.ref ar)]))
      refine Way.by (fun _ k => XS.iload X.here hx rfl (hb hby at_495) rfl k) ?_
      show Way _ _ _ _ (T.setTop (mkF m 497 #[iv p0, iv p1, iv p2, iv p3, iv p4, iv p5, iv b, rv bx, iv ln, iv o, iv q, iv ch, iv q2, iv c2, iv n, rv ar, .unset] [(.int n), (.ref ar)]))
      obtain ⟨_, _, ⟨T84, L86, k87, n88⟩, -, X85, ⟨Lc89, hQ90, l91, y92, z93⟩, st94⟩ := Jvm.LawKit.callS X hx (y := (⟨"com/example/unbound_principals/unboundprincipals/AuthorizableKindOfNodeTypePinLaw", "mk", "([CI)Ljava/lang/String;"⟩ : MethodName)) hown (mvT hZ (tw hw 52 rfl)) (mvT hZ (tw hw 53 rfl)) (mvT hZ (tw hw 25 rfl)) (mvT hZ (tw hw 54 rfl)) (by decide) (backOf (W := 0) (rmMK l Z a0 hw [] ar ka n x0 x1 x2 x3 x4 x5 x6 x7 x8 x9 x10 x11 x12 x13 x14 x15 h n0 Zh J0 hb0 hb1 hb2 hb3 hb4 hb5 hb6 hb7 hb8 hb9 hb10 hb11 hb12 hb13 hb14 hb15 hn O SV) hZ (tw hw 54 rfl) (tw hw 25 rfl) (by decide) (by decide)) (g := (mkF m 497 #[iv p0, iv p1, iv p2, iv p3, iv p4, iv p5, iv b, rv bx, iv ln, iv o, iv q, iv ch, iv q2, iv c2, iv n, rv ar, .unset] [(.int n), (.ref ar)])) rfl (by rw [hml]; rfl) (argsL := [(.ref ar), (.int n)]) (rest := []) (lenOf pdMK rfl) rfl (leW rfl) (hb hby at_497) (fun _ _ => ⟨rfl, eT, (leB rfl), (leB rfl)⟩)
      dsimp only [Pt.U, Pt.locs, Pt.cells, Pt.slots] at X85 l91 y92 z93 st94 hQ90
      subst y92 z93
      obtain ⟨x_bx107, x_bt106, x_bs105, rfl, N100, K101, fr_bx104, fr_bt103, F_0102⟩ := hQ90
      have N95 : Fr n0 L86 := by rw [l91]; exact Fr.app N N100
      have ne108 : ar ≠ x_bx107 := Nat.ne_of_lt (Nat.lt_of_lt_of_le J0.lt fr_bx104)
      have nw109 : n0 ≤ x_bx107 := Nat.le_trans Zh fr_bx104
      have Sf110 : Safe Z own_EL vm0 h x_bx107 := Safe.new fr_bx104
      have ne111 : ar ≠ x_bt106 := Nat.ne_of_lt (Nat.lt_of_lt_of_le J0.lt fr_bt103)
      have nw112 : n0 ≤ x_bt106 := Nat.le_trans Zh fr_bt103
      have Sf113 : Safe Z own_EL vm0 h x_bt106 := Safe.new fr_bt103
      have hr116 := CHr.keep K101 sf0 H
      have Sf117 := Safe.keep K101 sf0 H Sf110
      have Sf118 := Safe.keep K101 sf0 H Sf113
      have H114 := hr116.1
      have CH115 := CH.trans hr116
      have A119 := J0.keep K101 nin0
      have Z120 := Nat.le_trans Zh K101.1
      have hk121 := Nat.le_trans hk K101.1
      have O122 := O.keep K101 all0
      refine Way.by st94 ?_
      show Way _ _ _ _ (T84.setTop (mkF m 500 #[iv p0, iv p1, iv p2, iv p3, iv p4, iv p5, iv b, rv bx, iv ln, iv o, iv q, iv ch, iv q2, iv c2, iv n, rv ar, .unset] [(.ref x_bx107)]))
      refine Way.by (fun _ k => XS.astore X85.here hx rfl (hb hby at_500) rfl rfl (l' := #[iv p0, iv p1, iv p2, iv p3, iv p4, iv p5, iv b, rv bx, iv ln, iv o, iv q, iv ch, iv q2, iv c2, iv n, rv ar, rv x_bx107]) rfl k) ?_
      show Way _ _ _ _ (T84.setTop (mkF m 502 #[iv p0, iv p1, iv p2, iv p3, iv p4, iv p5, iv b, rv bx, iv ln, iv o, iv q, iv ch, iv q2, iv c2, iv n, rv ar, rv x_bx107] []))
      exact seg502 l Z a0 hw ws p0 p1 p2 p3 p4 p5 va kv uUSER uSYSTEM_USER uGROUP tUSER tUSERt tSYSTEM_USER tSYSTEM_USERt tGROUP tGROUPt h0 n0 Z0 O0 SV SVS EVA AVA EUSER FUSER TUSER ESYSTEM_USER FSYSTEM_USER TSYSTEM_USER EGROUP FGROUP TGROUP SUSER SSYSTEM_USER SGROUP p e s m below meth c s₁ Bd hml _ hZ hown _ hS hh T84 T84.heap _ (X85.mono (by decide) (by decide)) rfl N95 Z120 hk121 H114 CH115 O122 b bx ln o q ch q2 c2 n ar x_bx107 x_bt106 x_bs105 F_0102
theorem seg130 (l : Launch) (Z : State) (a0 : Array Value) (hw : ∀ d ∈ tables_1, d.before a0 Z = true) (ws : List Jvm.Cond) (p0 p1 p2 p3 p4 p5 : Int32) (va : Addr) (kv : ClassId) (uUSER uSYSTEM_USER uGROUP : Addr) (tUSER tUSERt tSYSTEM_USER tSYSTEM_USERt tGROUP tGROUPt : Addr) (h0 : Heap) (n0 : Nat) (Z0 : n0 ≤ h0.size) (O0 : Old Z n0 h0) (SV : own_Env Z) (SVS : Sta Z Z.heap "com/example/unbound_principals/unboundprincipals/AuthorizableKind" "$VALUES" "[Lcom/example/unbound_principals/unboundprincipals/AuthorizableKind;" (.ref va)) (EVA : Exa Z Z.heap va "[Lcom/example/unbound_principals/unboundprincipals/AuthorizableKind;") (AVA : Arv Z Z.heap va kv (.object "com/example/unbound_principals/unboundprincipals/AuthorizableKind") (3 : Int32) [(.ref uUSER), (.ref uSYSTEM_USER), (.ref uGROUP)] .null) (EUSER : Exa Z Z.heap uUSER "com/example/unbound_principals/unboundprincipals/AuthorizableKind") (FUSER : Fld Z Z.heap uUSER "com/example/unbound_principals/unboundprincipals/AuthorizableKind" "nodeType" "Ljava/lang/String;" (.ref tUSER)) (TUSER : own_Str Z Z.heap tUSER tUSERt [114, 101, 112, 58, 85, 115, 101, 114]) (ESYSTEM_USER : Exa Z Z.heap uSYSTEM_USER "com/example/unbound_principals/unboundprincipals/AuthorizableKind") (FSYSTEM_USER : Fld Z Z.heap uSYSTEM_USER "com/example/unbound_principals/unboundprincipals/AuthorizableKind" "nodeType" "Ljava/lang/String;" (.ref tSYSTEM_USER)) (TSYSTEM_USER : own_Str Z Z.heap tSYSTEM_USER tSYSTEM_USERt [114, 101, 112, 58, 83, 121, 115, 116, 101, 109, 85, 115, 101, 114]) (EGROUP : Exa Z Z.heap uGROUP "com/example/unbound_principals/unboundprincipals/AuthorizableKind") (FGROUP : Fld Z Z.heap uGROUP "com/example/unbound_principals/unboundprincipals/AuthorizableKind" "nodeType" "Ljava/lang/String;" (.ref tGROUP)) (TGROUP : own_Str Z Z.heap tGROUP tGROUPt [114, 101, 112, 58, 71, 114, 111, 117, 112]) (SUSER : Sta Z Z.heap "com/example/unbound_principals/unboundprincipals/AuthorizableKind" "USER" "Lcom/example/unbound_principals/unboundprincipals/AuthorizableKind;" (.ref uUSER)) (SSYSTEM_USER : Sta Z Z.heap "com/example/unbound_principals/unboundprincipals/AuthorizableKind" "SYSTEM_USER" "Lcom/example/unbound_principals/unboundprincipals/AuthorizableKind;" (.ref uSYSTEM_USER)) (SGROUP : Sta Z Z.heap "com/example/unbound_principals/unboundprincipals/AuthorizableKind" "GROUP" "Lcom/example/unbound_principals/unboundprincipals/AuthorizableKind;" (.ref uGROUP))
    (p : Program) (e : Env) (s : State) (m : MethodId) (below : List Frame) (meth : Method) (c : Code) (s₁ : State) (Bd : BodyLoose p l x (head1 (Jvm.Cond.code x code maxLocals ret :: ws) room_1) code maxLocals ret e s m #[(.int p0), (.int p1), (.int p2), (.int p3), (.int p4), (.int p5)] below meth c s₁) (hml : c.maxLocals = 17)
    (vm0 : Vm) (hZ : Z.Warmed39 (s.setVm vm0).vm) (hown : (s.setVm vm0).vm.findClass "com/example/unbound_principals/unboundprincipals/AuthorizableKindOfNodeTypePinLaw" = some m.cls) (k0 : Nat) (hS : s.Since vm0 k0) (hh : s.heap = h0)
    (T : State) (h : Heap) (locs : List Loc) (X : Stand p l e room_1 (s.setVm vm0) m #[(.int p0), (.int p1), (.int p2), (.int p3), (.int p4), (.int p5)] below meth c T locs 4 136) (eT : T.heap = h) (N : Fr n0 locs) (Zh : n0 ≤ h.size) (hk : k0 ≤ h.size) (H : CHv Z own_EL vm0 h) (CH : CHr Z own_EL s.vm h0 vm0 h) (O : Old Z n0 h) (b : Int32) (bx : Addr) (ln : Int32) (o : Int32) (q : Int32) (ch : Int32) (q2 : Int32) (c2 : Int32) (n : Int32) (bt : Addr) (cs : List Int32) (J0 : own_Str Z h bx bt cs) (hch : own_b ch) (hc2 : own_b c2) (hn : n = 7 ∨ n = 8 ∨ n = 9 ∨ n = 10 ∨ n = 13 ∨ n = 14 ∨ n = 15) :
    Way p.tables e below (KQH s Z own_EL (Q0 n0) room_1.cells room_1.slots) (T.setTop (mkF m 130 #[iv p0, iv p1, iv p2, iv p3, iv p4, iv p5, iv b, rv bx, iv ln, iv o, iv q, iv ch, iv q2, iv c2, iv n, .unset, .unset] [])) := by
  have hx := Bd.exec
  have hby := Bd.bytes
  have hlk : meth.locks = false := BodyLoose.notSynchronized Bd
  have hnm := (name_of_methodNamed Bd.named Bd.method).1
  have wS : ∀ d ∈ Bundle.stringAtoms, d.before a0 Z = true := fun d hd => hw d (own_wS d hd)
  have hEL : EW Z a0 own_EL := own_EW hw
  refine Way.by (fun _ k => XS.bipush X.here hx rfl (hb hby at_130) k) ?_
  show Way _ _ _ _ (T.setTop (mkF m 132 #[iv p0, iv p1, iv p2, iv p3, iv p4, iv p5, iv b, rv bx, iv ln, iv o, iv q, iv ch, iv q2, iv c2, iv n, .unset, .unset] [(.int 16)]))
  obtain ⟨T1, h2, kc3, X4, e5, E6, A7, st8⟩ := newP X hx hZ (tw hw 22 rfl) eT (g := (mkF m 132 #[iv p0, iv p1, iv p2, iv p3, iv p4, iv p5, iv b, rv bx, iv ln, iv o, iv q, iv ch, iv q2, iv c2, iv n, .unset, .unset] [(.int 16)])) rfl (hb hby at_132) rfl (by decide) (cap := 16) (by decide) (by decide) (by decide) (by decide)
  obtain ⟨a9, g10⟩ : ∃ z, z = h.size := ⟨_, rfl⟩
  rw [← g10] at A7 st8
  have ne12 : bx ≠ a9 := Nat.ne_of_lt (Nat.lt_of_lt_of_eq J0.lt1 g10.symm)
  have ne13 : bt ≠ a9 := Nat.ne_of_lt (Nat.lt_of_lt_of_eq J0.lt2 g10.symm)
  have nw14 : n0 ≤ a9 := Nat.le_trans Zh (Nat.le_of_eq g10.symm)
  have hr17 := CHr.ext E6 H
  have H15 := hr17.1
  have CH16 := CH.trans hr17
  have S18 := J0.ext E6
  have Z19 := Nat.le_trans Zh E6.1
  have hk20 := Nat.le_trans hk E6.1
  have O21 := O.ext E6
  have V11 : Arv Z h2 a9 kc3 .char (16 : Int32) [] (.int 0) := Arv.new A7 (by decide)
  refine Way.by st8 ?_
  show Way _ _ _ _ (T1.setTop (mkF m 134 #[iv p0, iv p1, iv p2, iv p3, iv p4, iv p5, iv b, rv bx, iv ln, iv o, iv q, iv ch, iv q2, iv c2, iv n, .unset, .unset] [(.ref a9)]))
  refine Way.by (fun _ k => XS.dup X4.here hx rfl (hb hby at_134) rfl rfl k) ?_
  show Way _ _ _ _ (T1.setTop (mkF m 135 #[iv p0, iv p1, iv p2, iv p3, iv p4, iv p5, iv b, rv bx, iv ln, iv o, iv q, iv ch, iv q2, iv c2, iv n, .unset, .unset] [(.ref a9), (.ref a9)]))
  refine Way.by (fun _ k => XS.iconst X4.here hx rfl (hb hby at_135) k) ?_
  show Way _ _ _ _ (T1.setTop (mkF m 136 #[iv p0, iv p1, iv p2, iv p3, iv p4, iv p5, iv b, rv bx, iv ln, iv o, iv q, iv ch, iv q2, iv c2, iv n, .unset, .unset] [(.int 0), (.ref a9), (.ref a9)]))
  refine Way.by (fun _ k => XS.aload X4.here hx rfl (hb hby at_136) rfl rfl k) ?_
  show Way _ _ _ _ (T1.setTop (mkF m 138 #[iv p0, iv p1, iv p2, iv p3, iv p4, iv p5, iv b, rv bx, iv ln, iv o, iv q, iv ch, iv q2, iv c2, iv n, .unset, .unset] [(.ref bx), (.int 0), (.ref a9), (.ref a9)]))
  refine Way.by (fun _ k => XS.iload X4.here hx rfl (hb hby at_138) rfl k) ?_
  show Way _ _ _ _ (T1.setTop (mkF m 140 #[iv p0, iv p1, iv p2, iv p3, iv p4, iv p5, iv b, rv bx, iv ln, iv o, iv q, iv ch, iv q2, iv c2, iv n, .unset, .unset] [(.int o), (.ref bx), (.int 0), (.ref a9), (.ref a9)]))
  refine Way.by (fun _ k => XS.iload X4.here hx rfl (hb hby at_140) rfl k) ?_
  show Way _ _ _ _ (T1.setTop (mkF m 142 #[iv p0, iv p1, iv p2, iv p3, iv p4, iv p5, iv b, rv bx, iv ln, iv o, iv q, iv ch, iv q2, iv c2, iv n, .unset, .unset] [(.int q), (.int o), (.ref bx), (.int 0), (.ref a9), (.ref a9)]))
  refine Way.by (fun _ k => XS.iload X4.here hx rfl (hb hby at_142) rfl k) ?_
  show Way _ _ _ _ (T1.setTop (mkF m 144 #[iv p0, iv p1, iv p2, iv p3, iv p4, iv p5, iv b, rv bx, iv ln, iv o, iv q, iv ch, iv q2, iv c2, iv n, .unset, .unset] [(.int ch), (.int q), (.int o), (.ref bx), (.int 0), (.ref a9), (.ref a9)]))
  refine Way.by (fun _ k => XS.iload X4.here hx rfl (hb hby at_144) rfl k) ?_
  show Way _ _ _ _ (T1.setTop (mkF m 146 #[iv p0, iv p1, iv p2, iv p3, iv p4, iv p5, iv b, rv bx, iv ln, iv o, iv q, iv ch, iv q2, iv c2, iv n, .unset, .unset] [(.int q2), (.int ch), (.int q), (.int o), (.ref bx), (.int 0), (.ref a9), (.ref a9)]))
  refine Way.by (fun _ k => XS.iload X4.here hx rfl (hb hby at_146) rfl k) ?_
  show Way _ _ _ _ (T1.setTop (mkF m 148 #[iv p0, iv p1, iv p2, iv p3, iv p4, iv p5, iv b, rv bx, iv ln, iv o, iv q, iv ch, iv q2, iv c2, iv n, .unset, .unset] [(.int c2), (.int q2), (.int ch), (.int q), (.int o), (.ref bx), (.int 0), (.ref a9), (.ref a9)]))
  refine Way.by (fun _ k => XS.iconst X4.here hx rfl (hb hby at_148) k) ?_
  show Way _ _ _ _ (T1.setTop (mkF m 149 #[iv p0, iv p1, iv p2, iv p3, iv p4, iv p5, iv b, rv bx, iv ln, iv o, iv q, iv ch, iv q2, iv c2, iv n, .unset, .unset] [(.int 0), (.int c2), (.int q2), (.int ch), (.int q), (.int o), (.ref bx), (.int 0), (.ref a9), (.ref a9)]))
  obtain ⟨_, _, ⟨T22, L24, k25, n26⟩, -, X23, ⟨Lc27, hQ28, l29, y30, z31⟩, st32⟩ := Jvm.LawKit.callS X4 hx (y := (⟨"com/example/unbound_principals/unboundprincipals/AuthorizableKindOfNodeTypePinLaw", "at", "(Ljava/lang/String;IICICI)C"⟩ : MethodName)) hown (mvT hZ (tw hw 23 rfl)) (mvT hZ (tw hw 24 rfl)) (mvT hZ (tw hw 25 rfl)) (mvT hZ (tw hw 26 rfl)) (by decide) (backOf (W := 3) (rmAT l Z a0 hw [] bx bt cs o q ch q2 c2 (0 : Int32) h2 n0 Z19 S18 hch hc2 O21 SV) hZ (tw hw 26 rfl) (tw hw 25 rfl) (by decide) (by decide)) (g := (mkF m 149 #[iv p0, iv p1, iv p2, iv p3, iv p4, iv p5, iv b, rv bx, iv ln, iv o, iv q, iv ch, iv q2, iv c2, iv n, .unset, .unset] [(.int 0), (.int c2), (.int q2), (.int ch), (.int q), (.int o), (.ref bx), (.int 0), (.ref a9), (.ref a9)])) rfl (by rw [hml]; rfl) (argsL := [(.ref bx), (.int o), (.int q), (.int ch), (.int q2), (.int c2), (.int 0)]) (rest := [(.int 0), (.ref a9), (.ref a9)]) (lenOf pdAT rfl) rfl (leW rfl) (hb hby at_149) (fun _ _ => ⟨rfl, e5, (leB rfl), (leB rfl)⟩)
  dsimp only [Pt.U, Pt.locs, Pt.cells, Pt.slots] at X23 l29 y30 z31 st32 hQ28
  subst y30 z31
  obtain ⟨x_pv41, rfl, N38, e34, pu_OK40⟩ := hQ28
  have N33 : Fr n0 L24 := by rw [l29]; exact Fr.app N N38
  refine Way.by st32 ?_
  show Way _ _ _ _ (T22.setTop (mkF m 152 #[iv p0, iv p1, iv p2, iv p3, iv p4, iv p5, iv b, rv bx, iv ln, iv o, iv q, iv ch, iv q2, iv c2, iv n, .unset, .unset] [(.int x_pv41), (.int 0), (.ref a9), (.ref a9)]))
  have V42 : Arv Z h2 a9 kc3 .char (16 : Int32) [(.int 0)] (.int 0) := V11.pad (pad_rep [] (.int 0) 1)
  obtain ⟨c43, A44, q45, S46, M47, H48, U49⟩ := id V42
  obtain ⟨T50, h51, X52, e53, W54, st55⟩ := stC X23 hx hZ e34 A44 (j := (0 : Int32)) (inb_of S46 ⟨(by decide), (by decide)⟩) (g := (mkF m 152 #[iv p0, iv p1, iv p2, iv p3, iv p4, iv p5, iv b, rv bx, iv ln, iv o, iv q, iv ch, iv q2, iv c2, iv n, .unset, .unset] [(.int x_pv41), (.int 0), (.ref a9), (.ref a9)])) rfl rfl (hb hby at_152)
  have N56 := Fr.snoc X52 N33 nw14
  have V57 : Arv Z h51 a9 kc3 .char (16 : Int32) [(.int (nar .char x_pv41))] (.int 0) := Arv.set A44 q45 S46 M47 H48 U49 (fits_nar_char _) W54 0 rfl (leB rfl)
  have nq59 : nar .char x_pv41 = x_pv41 := own_b.nar pu_OK40
  have V58 : Arv Z h51 a9 kc3 .char (16 : Int32) [(.int x_pv41)] (.int 0) := by rw [nq59] at V57; exact V57
  have hr62 := CHr.wr W54 (Safe.arv hZ.alike V11 (by decide)) H15
  have H60 := hr62.1
  have CH61 := CH16.trans hr62
  have S63 := S18.other W54 ne12 ne13
  have Z64 : n0 ≤ h51.size := by rw [W54.size]; exact Z19
  have hk65 := Nat.le_trans hk20 (Nat.le_of_eq W54.size.symm)
  have O66 := O21.wr W54 nw14
  refine Way.by st55 ?_
  show Way _ _ _ _ (T50.setTop (mkF m 153 #[iv p0, iv p1, iv p2, iv p3, iv p4, iv p5, iv b, rv bx, iv ln, iv o, iv q, iv ch, iv q2, iv c2, iv n, .unset, .unset] [(.ref a9)]))
  try clear V11 H15 CH16 S18 Z19 hk20 O21 X23 N33 e34 V42 c43 A44 q45 S46 M47 H48 U49 W54 st55 V57 hr62
  try clear h2 T22
  refine Way.by (fun _ k => XS.dup X52.here hx rfl (hb hby at_153) rfl rfl k) ?_
  show Way _ _ _ _ (T50.setTop (mkF m 154 #[iv p0, iv p1, iv p2, iv p3, iv p4, iv p5, iv b, rv bx, iv ln, iv o, iv q, iv ch, iv q2, iv c2, iv n, .unset, .unset] [(.ref a9), (.ref a9)]))
  refine Way.by (fun _ k => XS.iconst X52.here hx rfl (hb hby at_154) k) ?_
  show Way _ _ _ _ (T50.setTop (mkF m 155 #[iv p0, iv p1, iv p2, iv p3, iv p4, iv p5, iv b, rv bx, iv ln, iv o, iv q, iv ch, iv q2, iv c2, iv n, .unset, .unset] [(.int 1), (.ref a9), (.ref a9)]))
  refine Way.by (fun _ k => XS.aload X52.here hx rfl (hb hby at_155) rfl rfl k) ?_
  show Way _ _ _ _ (T50.setTop (mkF m 157 #[iv p0, iv p1, iv p2, iv p3, iv p4, iv p5, iv b, rv bx, iv ln, iv o, iv q, iv ch, iv q2, iv c2, iv n, .unset, .unset] [(.ref bx), (.int 1), (.ref a9), (.ref a9)]))
  refine Way.by (fun _ k => XS.iload X52.here hx rfl (hb hby at_157) rfl k) ?_
  show Way _ _ _ _ (T50.setTop (mkF m 159 #[iv p0, iv p1, iv p2, iv p3, iv p4, iv p5, iv b, rv bx, iv ln, iv o, iv q, iv ch, iv q2, iv c2, iv n, .unset, .unset] [(.int o), (.ref bx), (.int 1), (.ref a9), (.ref a9)]))
  refine Way.by (fun _ k => XS.iload X52.here hx rfl (hb hby at_159) rfl k) ?_
  show Way _ _ _ _ (T50.setTop (mkF m 161 #[iv p0, iv p1, iv p2, iv p3, iv p4, iv p5, iv b, rv bx, iv ln, iv o, iv q, iv ch, iv q2, iv c2, iv n, .unset, .unset] [(.int q), (.int o), (.ref bx), (.int 1), (.ref a9), (.ref a9)]))
  refine Way.by (fun _ k => XS.iload X52.here hx rfl (hb hby at_161) rfl k) ?_
  show Way _ _ _ _ (T50.setTop (mkF m 163 #[iv p0, iv p1, iv p2, iv p3, iv p4, iv p5, iv b, rv bx, iv ln, iv o, iv q, iv ch, iv q2, iv c2, iv n, .unset, .unset] [(.int ch), (.int q), (.int o), (.ref bx), (.int 1), (.ref a9), (.ref a9)]))
  refine Way.by (fun _ k => XS.iload X52.here hx rfl (hb hby at_163) rfl k) ?_
  show Way _ _ _ _ (T50.setTop (mkF m 165 #[iv p0, iv p1, iv p2, iv p3, iv p4, iv p5, iv b, rv bx, iv ln, iv o, iv q, iv ch, iv q2, iv c2, iv n, .unset, .unset] [(.int q2), (.int ch), (.int q), (.int o), (.ref bx), (.int 1), (.ref a9), (.ref a9)]))
  refine Way.by (fun _ k => XS.iload X52.here hx rfl (hb hby at_165) rfl k) ?_
  show Way _ _ _ _ (T50.setTop (mkF m 167 #[iv p0, iv p1, iv p2, iv p3, iv p4, iv p5, iv b, rv bx, iv ln, iv o, iv q, iv ch, iv q2, iv c2, iv n, .unset, .unset] [(.int c2), (.int q2), (.int ch), (.int q), (.int o), (.ref bx), (.int 1), (.ref a9), (.ref a9)]))
  refine Way.by (fun _ k => XS.iconst X52.here hx rfl (hb hby at_167) k) ?_
  show Way _ _ _ _ (T50.setTop (mkF m 168 #[iv p0, iv p1, iv p2, iv p3, iv p4, iv p5, iv b, rv bx, iv ln, iv o, iv q, iv ch, iv q2, iv c2, iv n, .unset, .unset] [(.int 1), (.int c2), (.int q2), (.int ch), (.int q), (.int o), (.ref bx), (.int 1), (.ref a9), (.ref a9)]))
  obtain ⟨_, _, ⟨T67, L69, k70, n71⟩, -, X68, ⟨Lc72, hQ73, l74, y75, z76⟩, st77⟩ := Jvm.LawKit.callS X52 hx (y := (⟨"com/example/unbound_principals/unboundprincipals/AuthorizableKindOfNodeTypePinLaw", "at", "(Ljava/lang/String;IICICI)C"⟩ : MethodName)) hown (mvT hZ (tw hw 23 rfl)) (mvT hZ (tw hw 24 rfl)) (mvT hZ (tw hw 25 rfl)) (mvT hZ (tw hw 26 rfl)) (by decide) (backOf (W := 3) (rmAT l Z a0 hw [] bx bt cs o q ch q2 c2 (1 : Int32) h51 n0 Z64 S63 hch hc2 O66 SV) hZ (tw hw 26 rfl) (tw hw 25 rfl) (by decide) (by decide)) (g := (mkF m 168 #[iv p0, iv p1, iv p2, iv p3, iv p4, iv p5, iv b, rv bx, iv ln, iv o, iv q, iv ch, iv q2, iv c2, iv n, .unset, .unset] [(.int 1), (.int c2), (.int q2), (.int ch), (.int q), (.int o), (.ref bx), (.int 1), (.ref a9), (.ref a9)])) rfl (by rw [hml]; rfl) (argsL := [(.ref bx), (.int o), (.int q), (.int ch), (.int q2), (.int c2), (.int 1)]) (rest := [(.int 1), (.ref a9), (.ref a9)]) (lenOf pdAT rfl) rfl (leW rfl) (hb hby at_168) (fun _ _ => ⟨rfl, e53, (leB rfl), (leB rfl)⟩)
  dsimp only [Pt.U, Pt.locs, Pt.cells, Pt.slots] at X68 l74 y75 z76 st77 hQ73
  subst y75 z76
  obtain ⟨x_pv86, rfl, N83, e79, pu_OK85⟩ := hQ73
  have N78 : Fr n0 L69 := by rw [l74]; exact Fr.app N56 N83
  refine Way.by st77 ?_
  show Way _ _ _ _ (T67.setTop (mkF m 171 #[iv p0, iv p1, iv p2, iv p3, iv p4, iv p5, iv b, rv bx, iv ln, iv o, iv q, iv ch, iv q2, iv c2, iv n, .unset, .unset] [(.int x_pv86), (.int 1), (.ref a9), (.ref a9)]))
  have V87 : Arv Z h51 a9 kc3 .char (16 : Int32) [(.int x_pv41), (.int 0)] (.int 0) := V58.pad (pad_rep [(.int x_pv41)] (.int 0) 1)
  obtain ⟨c88, A89, q90, S91, M92, H93, U94⟩ := id V87
  obtain ⟨T95, h96, X97, e98, W99, st100⟩ := stC X68 hx hZ e79 A89 (j := (1 : Int32)) (inb_of S91 ⟨(by decide), (by decide)⟩) (g := (mkF m 171 #[iv p0, iv p1, iv p2, iv p3, iv p4, iv p5, iv b, rv bx, iv ln, iv o, iv q, iv ch, iv q2, iv c2, iv n, .unset, .unset] [(.int x_pv86), (.int 1), (.ref a9), (.ref a9)])) rfl rfl (hb hby at_171)
  have N101 := Fr.snoc X97 N78 nw14
  have V102 : Arv Z h96 a9 kc3 .char (16 : Int32) [(.int x_pv41), (.int (nar .char x_pv86))] (.int 0) := Arv.set A89 q90 S91 M92 H93 U94 (fits_nar_char _) W99 1 rfl (leB rfl)
  have nq104 : nar .char x_pv86 = x_pv86 := own_b.nar pu_OK85
  have V103 : Arv Z h96 a9 kc3 .char (16 : Int32) [(.int x_pv41), (.int x_pv86)] (.int 0) := by rw [nq104] at V102; exact V102
  have hr107 := CHr.wr W99 (Safe.arv hZ.alike V58 (by decide)) H60
  have H105 := hr107.1
  have CH106 := CH61.trans hr107
  have S108 := S63.other W99 ne12 ne13
  have Z109 : n0 ≤ h96.size := by rw [W99.size]; exact Z64
  have hk110 := Nat.le_trans hk65 (Nat.le_of_eq W99.size.symm)
  have O111 := O66.wr W99 nw14
  refine Way.by st100 ?_
  show Way _ _ _ _ (T95.setTop (mkF m 172 #[iv p0, iv p1, iv p2, iv p3, iv p4, iv p5, iv b, rv bx, iv ln, iv o, iv q, iv ch, iv q2, iv c2, iv n, .unset, .unset] [(.ref a9)]))
  try clear V58 H60 CH61 S63 Z64 hk65 O66 X68 N78 e79 V87 c88 A89 q90 S91 M92 H93 U94 W99 st100 V102 hr107
  try clear h51 T67
  refine Way.by (fun _ k => XS.dup X97.here hx rfl (hb hby at_172) rfl rfl k) ?_
  show Way _ _ _ _ (T95.setTop (mkF m 173 #[iv p0, iv p1, iv p2, iv p3, iv p4, iv p5, iv b, rv bx, iv ln, iv o, iv q, iv ch, iv q2, iv c2, iv n, .unset, .unset] [(.ref a9), (.ref a9)]))
  refine Way.by (fun _ k => XS.iconst X97.here hx rfl (hb hby at_173) k) ?_
  show Way _ _ _ _ (T95.setTop (mkF m 174 #[iv p0, iv p1, iv p2, iv p3, iv p4, iv p5, iv b, rv bx, iv ln, iv o, iv q, iv ch, iv q2, iv c2, iv n, .unset, .unset] [(.int 2), (.ref a9), (.ref a9)]))
  refine Way.by (fun _ k => XS.aload X97.here hx rfl (hb hby at_174) rfl rfl k) ?_
  show Way _ _ _ _ (T95.setTop (mkF m 176 #[iv p0, iv p1, iv p2, iv p3, iv p4, iv p5, iv b, rv bx, iv ln, iv o, iv q, iv ch, iv q2, iv c2, iv n, .unset, .unset] [(.ref bx), (.int 2), (.ref a9), (.ref a9)]))
  refine Way.by (fun _ k => XS.iload X97.here hx rfl (hb hby at_176) rfl k) ?_
  show Way _ _ _ _ (T95.setTop (mkF m 178 #[iv p0, iv p1, iv p2, iv p3, iv p4, iv p5, iv b, rv bx, iv ln, iv o, iv q, iv ch, iv q2, iv c2, iv n, .unset, .unset] [(.int o), (.ref bx), (.int 2), (.ref a9), (.ref a9)]))
  refine Way.by (fun _ k => XS.iload X97.here hx rfl (hb hby at_178) rfl k) ?_
  show Way _ _ _ _ (T95.setTop (mkF m 180 #[iv p0, iv p1, iv p2, iv p3, iv p4, iv p5, iv b, rv bx, iv ln, iv o, iv q, iv ch, iv q2, iv c2, iv n, .unset, .unset] [(.int q), (.int o), (.ref bx), (.int 2), (.ref a9), (.ref a9)]))
  refine Way.by (fun _ k => XS.iload X97.here hx rfl (hb hby at_180) rfl k) ?_
  show Way _ _ _ _ (T95.setTop (mkF m 182 #[iv p0, iv p1, iv p2, iv p3, iv p4, iv p5, iv b, rv bx, iv ln, iv o, iv q, iv ch, iv q2, iv c2, iv n, .unset, .unset] [(.int ch), (.int q), (.int o), (.ref bx), (.int 2), (.ref a9), (.ref a9)]))
  refine Way.by (fun _ k => XS.iload X97.here hx rfl (hb hby at_182) rfl k) ?_
  show Way _ _ _ _ (T95.setTop (mkF m 184 #[iv p0, iv p1, iv p2, iv p3, iv p4, iv p5, iv b, rv bx, iv ln, iv o, iv q, iv ch, iv q2, iv c2, iv n, .unset, .unset] [(.int q2), (.int ch), (.int q), (.int o), (.ref bx), (.int 2), (.ref a9), (.ref a9)]))
  refine Way.by (fun _ k => XS.iload X97.here hx rfl (hb hby at_184) rfl k) ?_
  show Way _ _ _ _ (T95.setTop (mkF m 186 #[iv p0, iv p1, iv p2, iv p3, iv p4, iv p5, iv b, rv bx, iv ln, iv o, iv q, iv ch, iv q2, iv c2, iv n, .unset, .unset] [(.int c2), (.int q2), (.int ch), (.int q), (.int o), (.ref bx), (.int 2), (.ref a9), (.ref a9)]))
  refine Way.by (fun _ k => XS.iconst X97.here hx rfl (hb hby at_186) k) ?_
  show Way _ _ _ _ (T95.setTop (mkF m 187 #[iv p0, iv p1, iv p2, iv p3, iv p4, iv p5, iv b, rv bx, iv ln, iv o, iv q, iv ch, iv q2, iv c2, iv n, .unset, .unset] [(.int 2), (.int c2), (.int q2), (.int ch), (.int q), (.int o), (.ref bx), (.int 2), (.ref a9), (.ref a9)]))
  obtain ⟨_, _, ⟨T112, L114, k115, n116⟩, -, X113, ⟨Lc117, hQ118, l119, y120, z121⟩, st122⟩ := Jvm.LawKit.callS X97 hx (y := (⟨"com/example/unbound_principals/unboundprincipals/AuthorizableKindOfNodeTypePinLaw", "at", "(Ljava/lang/String;IICICI)C"⟩ : MethodName)) hown (mvT hZ (tw hw 23 rfl)) (mvT hZ (tw hw 24 rfl)) (mvT hZ (tw hw 25 rfl)) (mvT hZ (tw hw 26 rfl)) (by decide) (backOf (W := 3) (rmAT l Z a0 hw [] bx bt cs o q ch q2 c2 (2 : Int32) h96 n0 Z109 S108 hch hc2 O111 SV) hZ (tw hw 26 rfl) (tw hw 25 rfl) (by decide) (by decide)) (g := (mkF m 187 #[iv p0, iv p1, iv p2, iv p3, iv p4, iv p5, iv b, rv bx, iv ln, iv o, iv q, iv ch, iv q2, iv c2, iv n, .unset, .unset] [(.int 2), (.int c2), (.int q2), (.int ch), (.int q), (.int o), (.ref bx), (.int 2), (.ref a9), (.ref a9)])) rfl (by rw [hml]; rfl) (argsL := [(.ref bx), (.int o), (.int q), (.int ch), (.int q2), (.int c2), (.int 2)]) (rest := [(.int 2), (.ref a9), (.ref a9)]) (lenOf pdAT rfl) rfl (leW rfl) (hb hby at_187) (fun _ _ => ⟨rfl, e98, (leB rfl), (leB rfl)⟩)
  dsimp only [Pt.U, Pt.locs, Pt.cells, Pt.slots] at X113 l119 y120 z121 st122 hQ118
  subst y120 z121
  obtain ⟨x_pv131, rfl, N128, e124, pu_OK130⟩ := hQ118
  have N123 : Fr n0 L114 := by rw [l119]; exact Fr.app N101 N128
  refine Way.by st122 ?_
  show Way _ _ _ _ (T112.setTop (mkF m 190 #[iv p0, iv p1, iv p2, iv p3, iv p4, iv p5, iv b, rv bx, iv ln, iv o, iv q, iv ch, iv q2, iv c2, iv n, .unset, .unset] [(.int x_pv131), (.int 2), (.ref a9), (.ref a9)]))
  have V132 : Arv Z h96 a9 kc3 .char (16 : Int32) [(.int x_pv41), (.int x_pv86), (.int 0)] (.int 0) := V103.pad (pad_rep [(.int x_pv41), (.int x_pv86)] (.int 0) 1)
  obtain ⟨c133, A134, q135, S136, M137, H138, U139⟩ := id V132
  obtain ⟨T140, h141, X142, e143, W144, st145⟩ := stC X113 hx hZ e124 A134 (j := (2 : Int32)) (inb_of S136 ⟨(by decide), (by decide)⟩) (g := (mkF m 190 #[iv p0, iv p1, iv p2, iv p3, iv p4, iv p5, iv b, rv bx, iv ln, iv o, iv q, iv ch, iv q2, iv c2, iv n, .unset, .unset] [(.int x_pv131), (.int 2), (.ref a9), (.ref a9)])) rfl rfl (hb hby at_190)
  have N146 := Fr.snoc X142 N123 nw14
  have V147 : Arv Z h141 a9 kc3 .char (16 : Int32) [(.int x_pv41), (.int x_pv86), (.int (nar .char x_pv131))] (.int 0) := Arv.set A134 q135 S136 M137 H138 U139 (fits_nar_char _) W144 2 rfl (leB rfl)
  have nq149 : nar .char x_pv131 = x_pv131 := own_b.nar pu_OK130
  have V148 : Arv Z h141 a9 kc3 .char (16 : Int32) [(.int x_pv41), (.int x_pv86), (.int x_pv131)] (.int 0) := by rw [nq149] at V147; exact V147
  have hr152 := CHr.wr W144 (Safe.arv hZ.alike V103 (by decide)) H105
  have H150 := hr152.1
  have CH151 := CH106.trans hr152
  have S153 := S108.other W144 ne12 ne13
  have Z154 : n0 ≤ h141.size := by rw [W144.size]; exact Z109
  have hk155 := Nat.le_trans hk110 (Nat.le_of_eq W144.size.symm)
  have O156 := O111.wr W144 nw14
  refine Way.by st145 ?_
  show Way _ _ _ _ (T140.setTop (mkF m 191 #[iv p0, iv p1, iv p2, iv p3, iv p4, iv p5, iv b, rv bx, iv ln, iv o, iv q, iv ch, iv q2, iv c2, iv n, .unset, .unset] [(.ref a9)]))
  try clear V103 H105 CH106 S108 Z109 hk110 O111 X113 N123 e124 V132 c133 A134 q135 S136 M137 H138 U139 W144 st145 V147 hr152
  try clear h96 T112
  refine Way.by (fun _ k => XS.dup X142.here hx rfl (hb hby at_191) rfl rfl k) ?_
  show Way _ _ _ _ (T140.setTop (mkF m 192 #[iv p0, iv p1, iv p2, iv p3, iv p4, iv p5, iv b, rv bx, iv ln, iv o, iv q, iv ch, iv q2, iv c2, iv n, .unset, .unset] [(.ref a9), (.ref a9)]))
  refine Way.by (fun _ k => XS.iconst X142.here hx rfl (hb hby at_192) k) ?_
  show Way _ _ _ _ (T140.setTop (mkF m 193 #[iv p0, iv p1, iv p2, iv p3, iv p4, iv p5, iv b, rv bx, iv ln, iv o, iv q, iv ch, iv q2, iv c2, iv n, .unset, .unset] [(.int 3), (.ref a9), (.ref a9)]))
  refine Way.by (fun _ k => XS.aload X142.here hx rfl (hb hby at_193) rfl rfl k) ?_
  show Way _ _ _ _ (T140.setTop (mkF m 195 #[iv p0, iv p1, iv p2, iv p3, iv p4, iv p5, iv b, rv bx, iv ln, iv o, iv q, iv ch, iv q2, iv c2, iv n, .unset, .unset] [(.ref bx), (.int 3), (.ref a9), (.ref a9)]))
  refine Way.by (fun _ k => XS.iload X142.here hx rfl (hb hby at_195) rfl k) ?_
  show Way _ _ _ _ (T140.setTop (mkF m 197 #[iv p0, iv p1, iv p2, iv p3, iv p4, iv p5, iv b, rv bx, iv ln, iv o, iv q, iv ch, iv q2, iv c2, iv n, .unset, .unset] [(.int o), (.ref bx), (.int 3), (.ref a9), (.ref a9)]))
  refine Way.by (fun _ k => XS.iload X142.here hx rfl (hb hby at_197) rfl k) ?_
  show Way _ _ _ _ (T140.setTop (mkF m 199 #[iv p0, iv p1, iv p2, iv p3, iv p4, iv p5, iv b, rv bx, iv ln, iv o, iv q, iv ch, iv q2, iv c2, iv n, .unset, .unset] [(.int q), (.int o), (.ref bx), (.int 3), (.ref a9), (.ref a9)]))
  refine Way.by (fun _ k => XS.iload X142.here hx rfl (hb hby at_199) rfl k) ?_
  show Way _ _ _ _ (T140.setTop (mkF m 201 #[iv p0, iv p1, iv p2, iv p3, iv p4, iv p5, iv b, rv bx, iv ln, iv o, iv q, iv ch, iv q2, iv c2, iv n, .unset, .unset] [(.int ch), (.int q), (.int o), (.ref bx), (.int 3), (.ref a9), (.ref a9)]))
  refine Way.by (fun _ k => XS.iload X142.here hx rfl (hb hby at_201) rfl k) ?_
  show Way _ _ _ _ (T140.setTop (mkF m 203 #[iv p0, iv p1, iv p2, iv p3, iv p4, iv p5, iv b, rv bx, iv ln, iv o, iv q, iv ch, iv q2, iv c2, iv n, .unset, .unset] [(.int q2), (.int ch), (.int q), (.int o), (.ref bx), (.int 3), (.ref a9), (.ref a9)]))
  refine Way.by (fun _ k => XS.iload X142.here hx rfl (hb hby at_203) rfl k) ?_
  show Way _ _ _ _ (T140.setTop (mkF m 205 #[iv p0, iv p1, iv p2, iv p3, iv p4, iv p5, iv b, rv bx, iv ln, iv o, iv q, iv ch, iv q2, iv c2, iv n, .unset, .unset] [(.int c2), (.int q2), (.int ch), (.int q), (.int o), (.ref bx), (.int 3), (.ref a9), (.ref a9)]))
  refine Way.by (fun _ k => XS.iconst X142.here hx rfl (hb hby at_205) k) ?_
  show Way _ _ _ _ (T140.setTop (mkF m 206 #[iv p0, iv p1, iv p2, iv p3, iv p4, iv p5, iv b, rv bx, iv ln, iv o, iv q, iv ch, iv q2, iv c2, iv n, .unset, .unset] [(.int 3), (.int c2), (.int q2), (.int ch), (.int q), (.int o), (.ref bx), (.int 3), (.ref a9), (.ref a9)]))
  obtain ⟨_, _, ⟨T157, L159, k160, n161⟩, -, X158, ⟨Lc162, hQ163, l164, y165, z166⟩, st167⟩ := Jvm.LawKit.callS X142 hx (y := (⟨"com/example/unbound_principals/unboundprincipals/AuthorizableKindOfNodeTypePinLaw", "at", "(Ljava/lang/String;IICICI)C"⟩ : MethodName)) hown (mvT hZ (tw hw 23 rfl)) (mvT hZ (tw hw 24 rfl)) (mvT hZ (tw hw 25 rfl)) (mvT hZ (tw hw 26 rfl)) (by decide) (backOf (W := 3) (rmAT l Z a0 hw [] bx bt cs o q ch q2 c2 (3 : Int32) h141 n0 Z154 S153 hch hc2 O156 SV) hZ (tw hw 26 rfl) (tw hw 25 rfl) (by decide) (by decide)) (g := (mkF m 206 #[iv p0, iv p1, iv p2, iv p3, iv p4, iv p5, iv b, rv bx, iv ln, iv o, iv q, iv ch, iv q2, iv c2, iv n, .unset, .unset] [(.int 3), (.int c2), (.int q2), (.int ch), (.int q), (.int o), (.ref bx), (.int 3), (.ref a9), (.ref a9)])) rfl (by rw [hml]; rfl) (argsL := [(.ref bx), (.int o), (.int q), (.int ch), (.int q2), (.int c2), (.int 3)]) (rest := [(.int 3), (.ref a9), (.ref a9)]) (lenOf pdAT rfl) rfl (leW rfl) (hb hby at_206) (fun _ _ => ⟨rfl, e143, (leB rfl), (leB rfl)⟩)
  dsimp only [Pt.U, Pt.locs, Pt.cells, Pt.slots] at X158 l164 y165 z166 st167 hQ163
  subst y165 z166
  obtain ⟨x_pv176, rfl, N173, e169, pu_OK175⟩ := hQ163
  have N168 : Fr n0 L159 := by rw [l164]; exact Fr.app N146 N173
  refine Way.by st167 ?_
  show Way _ _ _ _ (T157.setTop (mkF m 209 #[iv p0, iv p1, iv p2, iv p3, iv p4, iv p5, iv b, rv bx, iv ln, iv o, iv q, iv ch, iv q2, iv c2, iv n, .unset, .unset] [(.int x_pv176), (.int 3), (.ref a9), (.ref a9)]))
  have V177 : Arv Z h141 a9 kc3 .char (16 : Int32) [(.int x_pv41), (.int x_pv86), (.int x_pv131), (.int 0)] (.int 0) := V148.pad (pad_rep [(.int x_pv41), (.int x_pv86), (.int x_pv131)] (.int 0) 1)
  obtain ⟨c178, A179, q180, S181, M182, H183, U184⟩ := id V177
  obtain ⟨T185, h186, X187, e188, W189, st190⟩ := stC X158 hx hZ e169 A179 (j := (3 : Int32)) (inb_of S181 ⟨(by decide), (by decide)⟩) (g := (mkF m 209 #[iv p0, iv p1, iv p2, iv p3, iv p4, iv p5, iv b, rv bx, iv ln, iv o, iv q, iv ch, iv q2, iv c2, iv n, .unset, .unset] [(.int x_pv176), (.int 3), (.ref a9), (.ref a9)])) rfl rfl (hb hby at_209)
  have N191 := Fr.snoc X187 N168 nw14
  have V192 : Arv Z h186 a9 kc3 .char (16 : Int32) [(.int x_pv41), (.int x_pv86), (.int x_pv131), (.int (nar .char x_pv176))] (.int 0) := Arv.set A179 q180 S181 M182 H183 U184 (fits_nar_char _) W189 3 rfl (leB rfl)
  have nq194 : nar .char x_pv176 = x_pv176 := own_b.nar pu_OK175
  have V193 : Arv Z h186 a9 kc3 .char (16 : Int32) [(.int x_pv41), (.int x_pv86), (.int x_pv131), (.int x_pv176)] (.int 0) := by rw [nq194] at V192; exact V192
  have hr197 := CHr.wr W189 (Safe.arv hZ.alike V148 (by decide)) H150
  have H195 := hr197.1
  have CH196 := CH151.trans hr197
  have S198 := S153.other W189 ne12 ne13
  have Z199 : n0 ≤ h186.size := by rw [W189.size]; exact Z154
  have hk200 := Nat.le_trans hk155 (Nat.le_of_eq W189.size.symm)
  have O201 := O156.wr W189 nw14
  refine Way.by st190 ?_
  show Way _ _ _ _ (T185.setTop (mkF m 210 #[iv p0, iv p1, iv p2, iv p3, iv p4, iv p5, iv b, rv bx, iv ln, iv o, iv q, iv ch, iv q2, iv c2, iv n, .unset, .unset] [(.ref a9)]))
  try clear V148 H150 CH151 S153 Z154 hk155 O156 X158 N168 e169 V177 c178 A179 q180 S181 M182 H183 U184 W189 st190 V192 hr197
  try clear h141 T157
  refine Way.by (fun _ k => XS.dup X187.here hx rfl (hb hby at_210) rfl rfl k) ?_
  show Way _ _ _ _ (T185.setTop (mkF m 211 #[iv p0, iv p1, iv p2, iv p3, iv p4, iv p5, iv b, rv bx, iv ln, iv o, iv q, iv ch, iv q2, iv c2, iv n, .unset, .unset] [(.ref a9), (.ref a9)]))
  refine Way.by (fun _ k => XS.iconst X187.here hx rfl (hb hby at_211) k) ?_
  show Way _ _ _ _ (T185.setTop (mkF m 212 #[iv p0, iv p1, iv p2, iv p3, iv p4, iv p5, iv b, rv bx, iv ln, iv o, iv q, iv ch, iv q2, iv c2, iv n, .unset, .unset] [(.int 4), (.ref a9), (.ref a9)]))
  refine Way.by (fun _ k => XS.aload X187.here hx rfl (hb hby at_212) rfl rfl k) ?_
  show Way _ _ _ _ (T185.setTop (mkF m 214 #[iv p0, iv p1, iv p2, iv p3, iv p4, iv p5, iv b, rv bx, iv ln, iv o, iv q, iv ch, iv q2, iv c2, iv n, .unset, .unset] [(.ref bx), (.int 4), (.ref a9), (.ref a9)]))
  refine Way.by (fun _ k => XS.iload X187.here hx rfl (hb hby at_214) rfl k) ?_
  show Way _ _ _ _ (T185.setTop (mkF m 216 #[iv p0, iv p1, iv p2, iv p3, iv p4, iv p5, iv b, rv bx, iv ln, iv o, iv q, iv ch, iv q2, iv c2, iv n, .unset, .unset] [(.int o), (.ref bx), (.int 4), (.ref a9), (.ref a9)]))
  refine Way.by (fun _ k => XS.iload X187.here hx rfl (hb hby at_216) rfl k) ?_
  show Way _ _ _ _ (T185.setTop (mkF m 218 #[iv p0, iv p1, iv p2, iv p3, iv p4, iv p5, iv b, rv bx, iv ln, iv o, iv q, iv ch, iv q2, iv c2, iv n, .unset, .unset] [(.int q), (.int o), (.ref bx), (.int 4), (.ref a9), (.ref a9)]))
  refine Way.by (fun _ k => XS.iload X187.here hx rfl (hb hby at_218) rfl k) ?_
  show Way _ _ _ _ (T185.setTop (mkF m 220 #[iv p0, iv p1, iv p2, iv p3, iv p4, iv p5, iv b, rv bx, iv ln, iv o, iv q, iv ch, iv q2, iv c2, iv n, .unset, .unset] [(.int ch), (.int q), (.int o), (.ref bx), (.int 4), (.ref a9), (.ref a9)]))
  refine Way.by (fun _ k => XS.iload X187.here hx rfl (hb hby at_220) rfl k) ?_
  show Way _ _ _ _ (T185.setTop (mkF m 222 #[iv p0, iv p1, iv p2, iv p3, iv p4, iv p5, iv b, rv bx, iv ln, iv o, iv q, iv ch, iv q2, iv c2, iv n, .unset, .unset] [(.int q2), (.int ch), (.int q), (.int o), (.ref bx), (.int 4), (.ref a9), (.ref a9)]))
  refine Way.by (fun _ k => XS.iload X187.here hx rfl (hb hby at_222) rfl k) ?_
  show Way _ _ _ _ (T185.setTop (mkF m 224 #[iv p0, iv p1, iv p2, iv p3, iv p4, iv p5, iv b, rv bx, iv ln, iv o, iv q, iv ch, iv q2, iv c2, iv n, .unset, .unset] [(.int c2), (.int q2), (.int ch), (.int q), (.int o), (.ref bx), (.int 4), (.ref a9), (.ref a9)]))
  refine Way.by (fun _ k => XS.iconst X187.here hx rfl (hb hby at_224) k) ?_
  show Way _ _ _ _ (T185.setTop (mkF m 225 #[iv p0, iv p1, iv p2, iv p3, iv p4, iv p5, iv b, rv bx, iv ln, iv o, iv q, iv ch, iv q2, iv c2, iv n, .unset, .unset] [(.int 4), (.int c2), (.int q2), (.int ch), (.int q), (.int o), (.ref bx), (.int 4), (.ref a9), (.ref a9)]))
  obtain ⟨_, _, ⟨T202, L204, k205, n206⟩, -, X203, ⟨Lc207, hQ208, l209, y210, z211⟩, st212⟩ := Jvm.LawKit.callS X187 hx (y := (⟨"com/example/unbound_principals/unboundprincipals/AuthorizableKindOfNodeTypePinLaw", "at", "(Ljava/lang/String;IICICI)C"⟩ : MethodName)) hown (mvT hZ (tw hw 23 rfl)) (mvT hZ (tw hw 24 rfl)) (mvT hZ (tw hw 25 rfl)) (mvT hZ (tw hw 26 rfl)) (by decide) (backOf (W := 3) (rmAT l Z a0 hw [] bx bt cs o q ch q2 c2 (4 : Int32) h186 n0 Z199 S198 hch hc2 O201 SV) hZ (tw hw 26 rfl) (tw hw 25 rfl) (by decide) (by decide)) (g := (mkF m 225 #[iv p0, iv p1, iv p2, iv p3, iv p4, iv p5, iv b, rv bx, iv ln, iv o, iv q, iv ch, iv q2, iv c2, iv n, .unset, .unset] [(.int 4), (.int c2), (.int q2), (.int ch), (.int q), (.int o), (.ref bx), (.int 4), (.ref a9), (.ref a9)])) rfl (by rw [hml]; rfl) (argsL := [(.ref bx), (.int o), (.int q), (.int ch), (.int q2), (.int c2), (.int 4)]) (rest := [(.int 4), (.ref a9), (.ref a9)]) (lenOf pdAT rfl) rfl (leW rfl) (hb hby at_225) (fun _ _ => ⟨rfl, e188, (leB rfl), (leB rfl)⟩)
  dsimp only [Pt.U, Pt.locs, Pt.cells, Pt.slots] at X203 l209 y210 z211 st212 hQ208
  subst y210 z211
  obtain ⟨x_pv221, rfl, N218, e214, pu_OK220⟩ := hQ208
  have N213 : Fr n0 L204 := by rw [l209]; exact Fr.app N191 N218
  refine Way.by st212 ?_
  show Way _ _ _ _ (T202.setTop (mkF m 228 #[iv p0, iv p1, iv p2, iv p3, iv p4, iv p5, iv b, rv bx, iv ln, iv o, iv q, iv ch, iv q2, iv c2, iv n, .unset, .unset] [(.int x_pv221), (.int 4), (.ref a9), (.ref a9)]))
  have V222 : Arv Z h186 a9 kc3 .char (16 : Int32) [(.int x_pv41), (.int x_pv86), (.int x_pv131), (.int x_pv176), (.int 0)] (.int 0) := V193.pad (pad_rep [(.int x_pv41), (.int x_pv86), (.int x_pv131), (.int x_pv176)] (.int 0) 1)
  obtain ⟨c223, A224, q225, S226, M227, H228, U229⟩ := id V222
  obtain ⟨T230, h231, X232, e233, W234, st235⟩ := stC X203 hx hZ e214 A224 (j := (4 : Int32)) (inb_of S226 ⟨(by decide), (by decide)⟩) (g := (mkF m 228 #[iv p0, iv p1, iv p2, iv p3, iv p4, iv p5, iv b, rv bx, iv ln, iv o, iv q, iv ch, iv q2, iv c2, iv n, .unset, .unset] [(.int x_pv221), (.int 4), (.ref a9), (.ref a9)])) rfl rfl (hb hby at_228)
  have N236 := Fr.snoc X232 N213 nw14
  have V237 : Arv Z h231 a9 kc3 .char (16 : Int32) [(.int x_pv41), (.int x_pv86), (.int x_pv131), (.int x_pv176), (.int (nar .char x_pv221))] (.int 0) := Arv.set A224 q225 S226 M227 H228 U229 (fits_nar_char _) W234 4 rfl (leB rfl)
  have nq239 : nar .char x_pv221 = x_pv221 := own_b.nar pu_OK220
  have V238 : Arv Z h231 a9 kc3 .char (16 : Int32) [(.int x_pv41), (.int x_pv86), (.int x_pv131), (.int x_pv176), (.int x_pv221)] (.int 0) := by rw [nq239] at V237; exact V237
  have hr242 := CHr.wr W234 (Safe.arv hZ.alike V193 (by decide)) H195
  have H240 := hr242.1
  have CH241 := CH196.trans hr242
  have S243 := S198.other W234 ne12 ne13
  have Z244 : n0 ≤ h231.size := by rw [W234.size]; exact Z199
  have hk245 := Nat.le_trans hk200 (Nat.le_of_eq W234.size.symm)
  have O246 := O201.wr W234 nw14
  refine Way.by st235 ?_
  show Way _ _ _ _ (T230.setTop (mkF m 229 #[iv p0, iv p1, iv p2, iv p3, iv p4, iv p5, iv b, rv bx, iv ln, iv o, iv q, iv ch, iv q2, iv c2, iv n, .unset, .unset] [(.ref a9)]))
  try clear V193 H195 CH196 S198 Z199 hk200 O201 X203 N213 e214 V222 c223 A224 q225 S226 M227 H228 U229 W234 st235 V237 hr242
  try clear h186 T202
  refine Way.by (fun _ k => XS.dup X232.here hx rfl (hb hby at_229) rfl rfl k) ?_
  show Way _ _ _ _ (T230.setTop (mkF m 230 #[iv p0, iv p1, iv p2, iv p3, iv p4, iv p5, iv b, rv bx, iv ln, iv o, iv q, iv ch, iv q2, iv c2, iv n, .unset, .unset] [(.ref a9), (.ref a9)]))
  refine Way.by (fun _ k => XS.iconst X232.here hx rfl (hb hby at_230) k) ?_
  show Way _ _ _ _ (T230.setTop (mkF m 231 #[iv p0, iv p1, iv p2, iv p3, iv p4, iv p5, iv b, rv bx, iv ln, iv o, iv q, iv ch, iv q2, iv c2, iv n, .unset, .unset] [(.int 5), (.ref a9), (.ref a9)]))
  refine Way.by (fun _ k => XS.aload X232.here hx rfl (hb hby at_231) rfl rfl k) ?_
  show Way _ _ _ _ (T230.setTop (mkF m 233 #[iv p0, iv p1, iv p2, iv p3, iv p4, iv p5, iv b, rv bx, iv ln, iv o, iv q, iv ch, iv q2, iv c2, iv n, .unset, .unset] [(.ref bx), (.int 5), (.ref a9), (.ref a9)]))
  refine Way.by (fun _ k => XS.iload X232.here hx rfl (hb hby at_233) rfl k) ?_
  show Way _ _ _ _ (T230.setTop (mkF m 235 #[iv p0, iv p1, iv p2, iv p3, iv p4, iv p5, iv b, rv bx, iv ln, iv o, iv q, iv ch, iv q2, iv c2, iv n, .unset, .unset] [(.int o), (.ref bx), (.int 5), (.ref a9), (.ref a9)]))
  refine Way.by (fun _ k => XS.iload X232.here hx rfl (hb hby at_235) rfl k) ?_
  show Way _ _ _ _ (T230.setTop (mkF m 237 #[iv p0, iv p1, iv p2, iv p3, iv p4, iv p5, iv b, rv bx, iv ln, iv o, iv q, iv ch, iv q2, iv c2, iv n, .unset, .unset] [(.int q), (.int o), (.ref bx), (.int 5), (.ref a9), (.ref a9)]))
  refine Way.by (fun _ k => XS.iload X232.here hx rfl (hb hby at_237) rfl k) ?_
  show Way _ _ _ _ (T230.setTop (mkF m 239 #[iv p0, iv p1, iv p2, iv p3, iv p4, iv p5, iv b, rv bx, iv ln, iv o, iv q, iv ch, iv q2, iv c2, iv n, .unset, .unset] [(.int ch), (.int q), (.int o), (.ref bx), (.int 5), (.ref a9), (.ref a9)]))
  refine Way.by (fun _ k => XS.iload X232.here hx rfl (hb hby at_239) rfl k) ?_
  show Way _ _ _ _ (T230.setTop (mkF m 241 #[iv p0, iv p1, iv p2, iv p3, iv p4, iv p5, iv b, rv bx, iv ln, iv o, iv q, iv ch, iv q2, iv c2, iv n, .unset, .unset] [(.int q2), (.int ch), (.int q), (.int o), (.ref bx), (.int 5), (.ref a9), (.ref a9)]))
  refine Way.by (fun _ k => XS.iload X232.here hx rfl (hb hby at_241) rfl k) ?_
  show Way _ _ _ _ (T230.setTop (mkF m 243 #[iv p0, iv p1, iv p2, iv p3, iv p4, iv p5, iv b, rv bx, iv ln, iv o, iv q, iv ch, iv q2, iv c2, iv n, .unset, .unset] [(.int c2), (.int q2), (.int ch), (.int q), (.int o), (.ref bx), (.int 5), (.ref a9), (.ref a9)]))
  refine Way.by (fun _ k => XS.iconst X232.here hx rfl (hb hby at_243) k) ?_
  show Way _ _ _ _ (T230.setTop (mkF m 244 #[iv p0, iv p1, iv p2, iv p3, iv p4, iv p5, iv b, rv bx, iv ln, iv o, iv q, iv ch, iv q2, iv c2, iv n, .unset, .unset] [(.int 5), (.int c2), (.int q2), (.int ch), (.int q), (.int o), (.ref bx), (.int 5), (.ref a9), (.ref a9)]))
  obtain ⟨_, _, ⟨T247, L249, k250, n251⟩, -, X248, ⟨Lc252, hQ253, l254, y255, z256⟩, st257⟩ := Jvm.LawKit.callS X232 hx (y := (⟨"com/example/unbound_principals/unboundprincipals/AuthorizableKindOfNodeTypePinLaw", "at", "(Ljava/lang/String;IICICI)C"⟩ : MethodName)) hown (mvT hZ (tw hw 23 rfl)) (mvT hZ (tw hw 24 rfl)) (mvT hZ (tw hw 25 rfl)) (mvT hZ (tw hw 26 rfl)) (by decide) (backOf (W := 3) (rmAT l Z a0 hw [] bx bt cs o q ch q2 c2 (5 : Int32) h231 n0 Z244 S243 hch hc2 O246 SV) hZ (tw hw 26 rfl) (tw hw 25 rfl) (by decide) (by decide)) (g := (mkF m 244 #[iv p0, iv p1, iv p2, iv p3, iv p4, iv p5, iv b, rv bx, iv ln, iv o, iv q, iv ch, iv q2, iv c2, iv n, .unset, .unset] [(.int 5), (.int c2), (.int q2), (.int ch), (.int q), (.int o), (.ref bx), (.int 5), (.ref a9), (.ref a9)])) rfl (by rw [hml]; rfl) (argsL := [(.ref bx), (.int o), (.int q), (.int ch), (.int q2), (.int c2), (.int 5)]) (rest := [(.int 5), (.ref a9), (.ref a9)]) (lenOf pdAT rfl) rfl (leW rfl) (hb hby at_244) (fun _ _ => ⟨rfl, e233, (leB rfl), (leB rfl)⟩)
  dsimp only [Pt.U, Pt.locs, Pt.cells, Pt.slots] at X248 l254 y255 z256 st257 hQ253
  subst y255 z256
  obtain ⟨x_pv266, rfl, N263, e259, pu_OK265⟩ := hQ253
  have N258 : Fr n0 L249 := by rw [l254]; exact Fr.app N236 N263
  refine Way.by st257 ?_
  show Way _ _ _ _ (T247.setTop (mkF m 247 #[iv p0, iv p1, iv p2, iv p3, iv p4, iv p5, iv b, rv bx, iv ln, iv o, iv q, iv ch, iv q2, iv c2, iv n, .unset, .unset] [(.int x_pv266), (.int 5), (.ref a9), (.ref a9)]))
  have V267 : Arv Z h231 a9 kc3 .char (16 : Int32) [(.int x_pv41), (.int x_pv86), (.int x_pv131), (.int x_pv176), (.int x_pv221), (.int 0)] (.int 0) := V238.pad (pad_rep [(.int x_pv41), (.int x_pv86), (.int x_pv131), (.int x_pv176), (.int x_pv221)] (.int 0) 1)
  obtain ⟨c268, A269, q270, S271, M272, H273, U274⟩ := id V267
  obtain ⟨T275, h276, X277, e278, W279, st280⟩ := stC X248 hx hZ e259 A269 (j := (5 : Int32)) (inb_of S271 ⟨(by decide), (by decide)⟩) (g := (mkF m 247 #[iv p0, iv p1, iv p2, iv p3, iv p4, iv p5, iv b, rv bx, iv ln, iv o, iv q, iv ch, iv q2, iv c2, iv n, .unset, .unset] [(.int x_pv266), (.int 5), (.ref a9), (.ref a9)])) rfl rfl (hb hby at_247)
  have N281 := Fr.snoc X277 N258 nw14
  have V282 : Arv Z h276 a9 kc3 .char (16 : Int32) [(.int x_pv41), (.int x_pv86), (.int x_pv131), (.int x_pv176), (.int x_pv221), (.int (nar .char x_pv266))] (.int 0) := Arv.set A269 q270 S271 M272 H273 U274 (fits_nar_char _) W279 5 rfl (leB rfl)
  have nq284 : nar .char x_pv266 = x_pv266 := own_b.nar pu_OK265
  have V283 : Arv Z h276 a9 kc3 .char (16 : Int32) [(.int x_pv41), (.int x_pv86), (.int x_pv131), (.int x_pv176), (.int x_pv221), (.int x_pv266)] (.int 0) := by rw [nq284] at V282; exact V282
  have hr287 := CHr.wr W279 (Safe.arv hZ.alike V238 (by decide)) H240
  have H285 := hr287.1
  have CH286 := CH241.trans hr287
  have S288 := S243.other W279 ne12 ne13
  have Z289 : n0 ≤ h276.size := by rw [W279.size]; exact Z244
  have hk290 := Nat.le_trans hk245 (Nat.le_of_eq W279.size.symm)
  have O291 := O246.wr W279 nw14
  refine Way.by st280 ?_
  show Way _ _ _ _ (T275.setTop (mkF m 248 #[iv p0, iv p1, iv p2, iv p3, iv p4, iv p5, iv b, rv bx, iv ln, iv o, iv q, iv ch, iv q2, iv c2, iv n, .unset, .unset] [(.ref a9)]))
  try clear V238 H240 CH241 S243 Z244 hk245 O246 X248 N258 e259 V267 c268 A269 q270 S271 M272 H273 U274 W279 st280 V282 hr287
  try clear h231 T247
  refine Way.by (fun _ k => XS.dup X277.here hx rfl (hb hby at_248) rfl rfl k) ?_
  show Way _ _ _ _ (T275.setTop (mkF m 249 #[iv p0, iv p1, iv p2, iv p3, iv p4, iv p5, iv b, rv bx, iv ln, iv o, iv q, iv ch, iv q2, iv c2, iv n, .unset, .unset] [(.ref a9), (.ref a9)]))
  refine Way.by (fun _ k => XS.bipush X277.here hx rfl (hb hby at_249) k) ?_
  show Way _ _ _ _ (T275.setTop (mkF m 251 #[iv p0, iv p1, iv p2, iv p3, iv p4, iv p5, iv b, rv bx, iv ln, iv o, iv q, iv ch, iv q2, iv c2, iv n, .unset, .unset] [(.int 6), (.ref a9), (.ref a9)]))
  refine Way.by (fun _ k => XS.aload X277.here hx rfl (hb hby at_251) rfl rfl k) ?_
  show Way _ _ _ _ (T275.setTop (mkF m 253 #[iv p0, iv p1, iv p2, iv p3, iv p4, iv p5, iv b, rv bx, iv ln, iv o, iv q, iv ch, iv q2, iv c2, iv n, .unset, .unset] [(.ref bx), (.int 6), (.ref a9), (.ref a9)]))
  refine Way.by (fun _ k => XS.iload X277.here hx rfl (hb hby at_253) rfl k) ?_
  show Way _ _ _ _ (T275.setTop (mkF m 255 #[iv p0, iv p1, iv p2, iv p3, iv p4, iv p5, iv b, rv bx, iv ln, iv o, iv q, iv ch, iv q2, iv c2, iv n, .unset, .unset] [(.int o), (.ref bx), (.int 6), (.ref a9), (.ref a9)]))
  refine Way.by (fun _ k => XS.iload X277.here hx rfl (hb hby at_255) rfl k) ?_
  show Way _ _ _ _ (T275.setTop (mkF m 257 #[iv p0, iv p1, iv p2, iv p3, iv p4, iv p5, iv b, rv bx, iv ln, iv o, iv q, iv ch, iv q2, iv c2, iv n, .unset, .unset] [(.int q), (.int o), (.ref bx), (.int 6), (.ref a9), (.ref a9)]))
  refine Way.by (fun _ k => XS.iload X277.here hx rfl (hb hby at_257) rfl k) ?_
  show Way _ _ _ _ (T275.setTop (mkF m 259 #[iv p0, iv p1, iv p2, iv p3, iv p4, iv p5, iv b, rv bx, iv ln, iv o, iv q, iv ch, iv q2, iv c2, iv n, .unset, .unset] [(.int ch), (.int q), (.int o), (.ref bx), (.int 6), (.ref a9), (.ref a9)]))
  refine Way.by (fun _ k => XS.iload X277.here hx rfl (hb hby at_259) rfl k) ?_
  show Way _ _ _ _ (T275.setTop (mkF m 261 #[iv p0, iv p1, iv p2, iv p3, iv p4, iv p5, iv b, rv bx, iv ln, iv o, iv q, iv ch, iv q2, iv c2, iv n, .unset, .unset] [(.int q2), (.int ch), (.int q), (.int o), (.ref bx), (.int 6), (.ref a9), (.ref a9)]))
  refine Way.by (fun _ k => XS.iload X277.here hx rfl (hb hby at_261) rfl k) ?_
  show Way _ _ _ _ (T275.setTop (mkF m 263 #[iv p0, iv p1, iv p2, iv p3, iv p4, iv p5, iv b, rv bx, iv ln, iv o, iv q, iv ch, iv q2, iv c2, iv n, .unset, .unset] [(.int c2), (.int q2), (.int ch), (.int q), (.int o), (.ref bx), (.int 6), (.ref a9), (.ref a9)]))
  refine Way.by (fun _ k => XS.bipush X277.here hx rfl (hb hby at_263) k) ?_
  show Way _ _ _ _ (T275.setTop (mkF m 265 #[iv p0, iv p1, iv p2, iv p3, iv p4, iv p5, iv b, rv bx, iv ln, iv o, iv q, iv ch, iv q2, iv c2, iv n, .unset, .unset] [(.int 6), (.int c2), (.int q2), (.int ch), (.int q), (.int o), (.ref bx), (.int 6), (.ref a9), (.ref a9)]))
  obtain ⟨_, _, ⟨T292, L294, k295, n296⟩, -, X293, ⟨Lc297, hQ298, l299, y300, z301⟩, st302⟩ := Jvm.LawKit.callS X277 hx (y := (⟨"com/example/unbound_principals/unboundprincipals/AuthorizableKindOfNodeTypePinLaw", "at", "(Ljava/lang/String;IICICI)C"⟩ : MethodName)) hown (mvT hZ (tw hw 23 rfl)) (mvT hZ (tw hw 24 rfl)) (mvT hZ (tw hw 25 rfl)) (mvT hZ (tw hw 26 rfl)) (by decide) (backOf (W := 3) (rmAT l Z a0 hw [] bx bt cs o q ch q2 c2 (6 : Int32) h276 n0 Z289 S288 hch hc2 O291 SV) hZ (tw hw 26 rfl) (tw hw 25 rfl) (by decide) (by decide)) (g := (mkF m 265 #[iv p0, iv p1, iv p2, iv p3, iv p4, iv p5, iv b, rv bx, iv ln, iv o, iv q, iv ch, iv q2, iv c2, iv n, .unset, .unset] [(.int 6), (.int c2), (.int q2), (.int ch), (.int q), (.int o), (.ref bx), (.int 6), (.ref a9), (.ref a9)])) rfl (by rw [hml]; rfl) (argsL := [(.ref bx), (.int o), (.int q), (.int ch), (.int q2), (.int c2), (.int 6)]) (rest := [(.int 6), (.ref a9), (.ref a9)]) (lenOf pdAT rfl) rfl (leW rfl) (hb hby at_265) (fun _ _ => ⟨rfl, e278, (leB rfl), (leB rfl)⟩)
  dsimp only [Pt.U, Pt.locs, Pt.cells, Pt.slots] at X293 l299 y300 z301 st302 hQ298
  subst y300 z301
  obtain ⟨x_pv311, rfl, N308, e304, pu_OK310⟩ := hQ298
  have N303 : Fr n0 L294 := by rw [l299]; exact Fr.app N281 N308
  refine Way.by st302 ?_
  show Way _ _ _ _ (T292.setTop (mkF m 268 #[iv p0, iv p1, iv p2, iv p3, iv p4, iv p5, iv b, rv bx, iv ln, iv o, iv q, iv ch, iv q2, iv c2, iv n, .unset, .unset] [(.int x_pv311), (.int 6), (.ref a9), (.ref a9)]))
  have V312 : Arv Z h276 a9 kc3 .char (16 : Int32) [(.int x_pv41), (.int x_pv86), (.int x_pv131), (.int x_pv176), (.int x_pv221), (.int x_pv266), (.int 0)] (.int 0) := V283.pad (pad_rep [(.int x_pv41), (.int x_pv86), (.int x_pv131), (.int x_pv176), (.int x_pv221), (.int x_pv266)] (.int 0) 1)
  obtain ⟨c313, A314, q315, S316, M317, H318, U319⟩ := id V312
  obtain ⟨T320, h321, X322, e323, W324, st325⟩ := stC X293 hx hZ e304 A314 (j := (6 : Int32)) (inb_of S316 ⟨(by decide), (by decide)⟩) (g := (mkF m 268 #[iv p0, iv p1, iv p2, iv p3, iv p4, iv p5, iv b, rv bx, iv ln, iv o, iv q, iv ch, iv q2, iv c2, iv n, .unset, .unset] [(.int x_pv311), (.int 6), (.ref a9), (.ref a9)])) rfl rfl (hb hby at_268)
  have N326 := Fr.snoc X322 N303 nw14
  have V327 : Arv Z h321 a9 kc3 .char (16 : Int32) [(.int x_pv41), (.int x_pv86), (.int x_pv131), (.int x_pv176), (.int x_pv221), (.int x_pv266), (.int (nar .char x_pv311))] (.int 0) := Arv.set A314 q315 S316 M317 H318 U319 (fits_nar_char _) W324 6 rfl (leB rfl)
  have nq329 : nar .char x_pv311 = x_pv311 := own_b.nar pu_OK310
  have V328 : Arv Z h321 a9 kc3 .char (16 : Int32) [(.int x_pv41), (.int x_pv86), (.int x_pv131), (.int x_pv176), (.int x_pv221), (.int x_pv266), (.int x_pv311)] (.int 0) := by rw [nq329] at V327; exact V327
  have hr332 := CHr.wr W324 (Safe.arv hZ.alike V283 (by decide)) H285
  have H330 := hr332.1
  have CH331 := CH286.trans hr332
  have S333 := S288.other W324 ne12 ne13
  have Z334 : n0 ≤ h321.size := by rw [W324.size]; exact Z289
  have hk335 := Nat.le_trans hk290 (Nat.le_of_eq W324.size.symm)
  have O336 := O291.wr W324 nw14
  refine Way.by st325 ?_
  show Way _ _ _ _ (T320.setTop (mkF m 269 #[iv p0, iv p1, iv p2, iv p3, iv p4, iv p5, iv b, rv bx, iv ln, iv o, iv q, iv ch, iv q2, iv c2, iv n, .unset, .unset] [(.ref a9)]))
  try clear V283 H285 CH286 S288 Z289 hk290 O291 X293 N303 e304 V312 c313 A314 q315 S316 M317 H318 U319 W324 st325 V327 hr332
  try clear h276 T292
  refine Way.by (fun _ k => XS.dup X322.here hx rfl (hb hby at_269) rfl rfl k) ?_
  show Way _ _ _ _ (T320.setTop (mkF m 270 #[iv p0, iv p1, iv p2, iv p3, iv p4, iv p5, iv b, rv bx, iv ln, iv o, iv q, iv ch, iv q2, iv c2, iv n, .unset, .unset] [(.ref a9), (.ref a9)]))
  refine Way.by (fun _ k => XS.bipush X322.here hx rfl (hb hby at_270) k) ?_
  show Way _ _ _ _ (T320.setTop (mkF m 272 #[iv p0, iv p1, iv p2, iv p3, iv p4, iv p5, iv b, rv bx, iv ln, iv o, iv q, iv ch, iv q2, iv c2, iv n, .unset, .unset] [(.int 7), (.ref a9), (.ref a9)]))
  refine Way.by (fun _ k => XS.aload X322.here hx rfl (hb hby at_272) rfl rfl k) ?_
  show Way _ _ _ _ (T320.setTop (mkF m 274 #[iv p0, iv p1, iv p2, iv p3, iv p4, iv p5, iv b, rv bx, iv ln, iv o, iv q, iv ch, iv q2, iv c2, iv n, .unset, .unset] [(.ref bx), (.int 7), (.ref a9), (.ref a9)]))
  refine Way.by (fun _ k => XS.iload X322.here hx rfl (hb hby at_274) rfl k) ?_
  show Way _ _ _ _ (T320.setTop (mkF m 276 #[iv p0, iv p1, iv p2, iv p3, iv p4, iv p5, iv b, rv bx, iv ln, iv o, iv q, iv ch, iv q2, iv c2, iv n, .unset, .unset] [(.int o), (.ref bx), (.int 7), (.ref a9), (.ref a9)]))
  refine Way.by (fun _ k => XS.iload X322.here hx rfl (hb hby at_276) rfl k) ?_
  show Way _ _ _ _ (T320.setTop (mkF m 278 #[iv p0, iv p1, iv p2, iv p3, iv p4, iv p5, iv b, rv bx, iv ln, iv o, iv q, iv ch, iv q2, iv c2, iv n, .unset, .unset] [(.int q), (.int o), (.ref bx), (.int 7), (.ref a9), (.ref a9)]))
  refine Way.by (fun _ k => XS.iload X322.here hx rfl (hb hby at_278) rfl k) ?_
  show Way _ _ _ _ (T320.setTop (mkF m 280 #[iv p0, iv p1, iv p2, iv p3, iv p4, iv p5, iv b, rv bx, iv ln, iv o, iv q, iv ch, iv q2, iv c2, iv n, .unset, .unset] [(.int ch), (.int q), (.int o), (.ref bx), (.int 7), (.ref a9), (.ref a9)]))
  refine Way.by (fun _ k => XS.iload X322.here hx rfl (hb hby at_280) rfl k) ?_
  show Way _ _ _ _ (T320.setTop (mkF m 282 #[iv p0, iv p1, iv p2, iv p3, iv p4, iv p5, iv b, rv bx, iv ln, iv o, iv q, iv ch, iv q2, iv c2, iv n, .unset, .unset] [(.int q2), (.int ch), (.int q), (.int o), (.ref bx), (.int 7), (.ref a9), (.ref a9)]))
  refine Way.by (fun _ k => XS.iload X322.here hx rfl (hb hby at_282) rfl k) ?_
  show Way _ _ _ _ (T320.setTop (mkF m 284 #[iv p0, iv p1, iv p2, iv p3, iv p4, iv p5, iv b, rv bx, iv ln, iv o, iv q, iv ch, iv q2, iv c2, iv n, .unset, .unset] [(.int c2), (.int q2), (.int ch), (.int q), (.int o), (.ref bx), (.int 7), (.ref a9), (.ref a9)]))
  refine Way.by (fun _ k => XS.bipush X322.here hx rfl (hb hby at_284) k) ?_
  show Way _ _ _ _ (T320.setTop (mkF m 286 #[iv p0, iv p1, iv p2, iv p3, iv p4, iv p5, iv b, rv bx, iv ln, iv o, iv q, iv ch, iv q2, iv c2, iv n, .unset, .unset] [(.int 7), (.int c2), (.int q2), (.int ch), (.int q), (.int o), (.ref bx), (.int 7), (.ref a9), (.ref a9)]))
  obtain ⟨_, _, ⟨T337, L339, k340, n341⟩, -, X338, ⟨Lc342, hQ343, l344, y345, z346⟩, st347⟩ := Jvm.LawKit.callS X322 hx (y := (⟨"com/example/unbound_principals/unboundprincipals/AuthorizableKindOfNodeTypePinLaw", "at", "(Ljava/lang/String;IICICI)C"⟩ : MethodName)) hown (mvT hZ (tw hw 23 rfl)) (mvT hZ (tw hw 24 rfl)) (mvT hZ (tw hw 25 rfl)) (mvT hZ (tw hw 26 rfl)) (by decide) (backOf (W := 3) (rmAT l Z a0 hw [] bx bt cs o q ch q2 c2 (7 : Int32) h321 n0 Z334 S333 hch hc2 O336 SV) hZ (tw hw 26 rfl) (tw hw 25 rfl) (by decide) (by decide)) (g := (mkF m 286 #[iv p0, iv p1, iv p2, iv p3, iv p4, iv p5, iv b, rv bx, iv ln, iv o, iv q, iv ch, iv q2, iv c2, iv n, .unset, .unset] [(.int 7), (.int c2), (.int q2), (.int ch), (.int q), (.int o), (.ref bx), (.int 7), (.ref a9), (.ref a9)])) rfl (by rw [hml]; rfl) (argsL := [(.ref bx), (.int o), (.int q), (.int ch), (.int q2), (.int c2), (.int 7)]) (rest := [(.int 7), (.ref a9), (.ref a9)]) (lenOf pdAT rfl) rfl (leW rfl) (hb hby at_286) (fun _ _ => ⟨rfl, e323, (leB rfl), (leB rfl)⟩)
  dsimp only [Pt.U, Pt.locs, Pt.cells, Pt.slots] at X338 l344 y345 z346 st347 hQ343
  subst y345 z346
  obtain ⟨x_pv356, rfl, N353, e349, pu_OK355⟩ := hQ343
  have N348 : Fr n0 L339 := by rw [l344]; exact Fr.app N326 N353
  refine Way.by st347 ?_
  show Way _ _ _ _ (T337.setTop (mkF m 289 #[iv p0, iv p1, iv p2, iv p3, iv p4, iv p5, iv b, rv bx, iv ln, iv o, iv q, iv ch, iv q2, iv c2, iv n, .unset, .unset] [(.int x_pv356), (.int 7), (.ref a9), (.ref a9)]))
  have V357 : Arv Z h321 a9 kc3 .char (16 : Int32) [(.int x_pv41), (.int x_pv86), (.int x_pv131), (.int x_pv176), (.int x_pv221), (.int x_pv266), (.int x_pv311), (.int 0)] (.int 0) := V328.pad (pad_rep [(.int x_pv41), (.int x_pv86), (.int x_pv131), (.int x_pv176), (.int x_pv221), (.int x_pv266), (.int x_pv311)] (.int 0) 1)
  obtain ⟨c358, A359, q360, S361, M362, H363, U364⟩ := id V357
  obtain ⟨T365, h366, X367, e368, W369, st370⟩ := stC X338 hx hZ e349 A359 (j := (7 : Int32)) (inb_of S361 ⟨(by decide), (by decide)⟩) (g := (mkF m 289 #[iv p0, iv p1, iv p2, iv p3, iv p4, iv p5, iv b, rv bx, iv ln, iv o, iv q, iv ch, iv q2, iv c2, iv n, .unset, .unset] [(.int x_pv356), (.int 7), (.ref a9), (.ref a9)])) rfl rfl (hb hby at_289)
  have N371 := Fr.snoc X367 N348 nw14
  have V372 : Arv Z h366 a9 kc3 .char (16 : Int32) [(.int x_pv41), (.int x_pv86), (.int x_pv131), (.int x_pv176), (.int x_pv221), (.int x_pv266), (.int x_pv311), (.int (nar .char x_pv356))] (.int 0) := Arv.set A359 q360 S361 M362 H363 U364 (fits_nar_char _) W369 7 rfl (leB rfl)
  have nq374 : nar .char x_pv356 = x_pv356 := own_b.nar pu_OK355
  have V373 : Arv Z h366 a9 kc3 .char (16 : Int32) [(.int x_pv41), (.int x_pv86), (.int x_pv131), (.int x_pv176), (.int x_pv221), (.int x_pv266), (.int x_pv311), (.int x_pv356)] (.int 0) := by rw [nq374] at V372; exact V372
  have hr377 := CHr.wr W369 (Safe.arv hZ.alike V328 (by decide)) H330
  have H375 := hr377.1
  have CH376 := CH331.trans hr377
  have S378 := S333.other W369 ne12 ne13
  have Z379 : n0 ≤ h366.size := by rw [W369.size]; exact Z334
  have hk380 := Nat.le_trans hk335 (Nat.le_of_eq W369.size.symm)
  have O381 := O336.wr W369 nw14
  refine Way.by st370 ?_
  show Way _ _ _ _ (T365.setTop (mkF m 290 #[iv p0, iv p1, iv p2, iv p3, iv p4, iv p5, iv b, rv bx, iv ln, iv o, iv q, iv ch, iv q2, iv c2, iv n, .unset, .unset] [(.ref a9)]))
  try clear V328 H330 CH331 S333 Z334 hk335 O336 X338 N348 e349 V357 c358 A359 q360 S361 M362 H363 U364 W369 st370 V372 hr377
  try clear h321 T337
  refine Way.by (fun _ k => XS.dup X367.here hx rfl (hb hby at_290) rfl rfl k) ?_
  show Way _ _ _ _ (T365.setTop (mkF m 291 #[iv p0, iv p1, iv p2, iv p3, iv p4, iv p5, iv b, rv bx, iv ln, iv o, iv q, iv ch, iv q2, iv c2, iv n, .unset, .unset] [(.ref a9), (.ref a9)]))
  refine Way.by (fun _ k => XS.bipush X367.here hx rfl (hb hby at_291) k) ?_
  show Way _ _ _ _ (T365.setTop (mkF m 293 #[iv p0, iv p1, iv p2, iv p3, iv p4, iv p5, iv b, rv bx, iv ln, iv o, iv q, iv ch, iv q2, iv c2, iv n, .unset, .unset] [(.int 8), (.ref a9), (.ref a9)]))
  refine Way.by (fun _ k => XS.aload X367.here hx rfl (hb hby at_293) rfl rfl k) ?_
  show Way _ _ _ _ (T365.setTop (mkF m 295 #[iv p0, iv p1, iv p2, iv p3, iv p4, iv p5, iv b, rv bx, iv ln, iv o, iv q, iv ch, iv q2, iv c2, iv n, .unset, .unset] [(.ref bx), (.int 8), (.ref a9), (.ref a9)]))
  refine Way.by (fun _ k => XS.iload X367.here hx rfl (hb hby at_295) rfl k) ?_
  show Way _ _ _ _ (T365.setTop (mkF m 297 #[iv p0, iv p1, iv p2, iv p3, iv p4, iv p5, iv b, rv bx, iv ln, iv o, iv q, iv ch, iv q2, iv c2, iv n, .unset, .unset] [(.int o), (.ref bx), (.int 8), (.ref a9), (.ref a9)]))
  refine Way.by (fun _ k => XS.iload X367.here hx rfl (hb hby at_297) rfl k) ?_
  show Way _ _ _ _ (T365.setTop (mkF m 299 #[iv p0, iv p1, iv p2, iv p3, iv p4, iv p5, iv b, rv bx, iv ln, iv o, iv q, iv ch, iv q2, iv c2, iv n, .unset, .unset] [(.int q), (.int o), (.ref bx), (.int 8), (.ref a9), (.ref a9)]))
  refine Way.by (fun _ k => XS.iload X367.here hx rfl (hb hby at_299) rfl k) ?_
  show Way _ _ _ _ (T365.setTop (mkF m 301 #[iv p0, iv p1, iv p2, iv p3, iv p4, iv p5, iv b, rv bx, iv ln, iv o, iv q, iv ch, iv q2, iv c2, iv n, .unset, .unset] [(.int ch), (.int q), (.int o), (.ref bx), (.int 8), (.ref a9), (.ref a9)]))
  refine Way.by (fun _ k => XS.iload X367.here hx rfl (hb hby at_301) rfl k) ?_
  show Way _ _ _ _ (T365.setTop (mkF m 303 #[iv p0, iv p1, iv p2, iv p3, iv p4, iv p5, iv b, rv bx, iv ln, iv o, iv q, iv ch, iv q2, iv c2, iv n, .unset, .unset] [(.int q2), (.int ch), (.int q), (.int o), (.ref bx), (.int 8), (.ref a9), (.ref a9)]))
  refine Way.by (fun _ k => XS.iload X367.here hx rfl (hb hby at_303) rfl k) ?_
  show Way _ _ _ _ (T365.setTop (mkF m 305 #[iv p0, iv p1, iv p2, iv p3, iv p4, iv p5, iv b, rv bx, iv ln, iv o, iv q, iv ch, iv q2, iv c2, iv n, .unset, .unset] [(.int c2), (.int q2), (.int ch), (.int q), (.int o), (.ref bx), (.int 8), (.ref a9), (.ref a9)]))
  refine Way.by (fun _ k => XS.bipush X367.here hx rfl (hb hby at_305) k) ?_
  show Way _ _ _ _ (T365.setTop (mkF m 307 #[iv p0, iv p1, iv p2, iv p3, iv p4, iv p5, iv b, rv bx, iv ln, iv o, iv q, iv ch, iv q2, iv c2, iv n, .unset, .unset] [(.int 8), (.int c2), (.int q2), (.int ch), (.int q), (.int o), (.ref bx), (.int 8), (.ref a9), (.ref a9)]))
  obtain ⟨_, _, ⟨T382, L384, k385, n386⟩, -, X383, ⟨Lc387, hQ388, l389, y390, z391⟩, st392⟩ := Jvm.LawKit.callS X367 hx (y := (⟨"com/example/unbound_principals/unboundprincipals/AuthorizableKindOfNodeTypePinLaw", "at", "(Ljava/lang/String;IICICI)C"⟩ : MethodName)) hown (mvT hZ (tw hw 23 rfl)) (mvT hZ (tw hw 24 rfl)) (mvT hZ (tw hw 25 rfl)) (mvT hZ (tw hw 26 rfl)) (by decide) (backOf (W := 3) (rmAT l Z a0 hw [] bx bt cs o q ch q2 c2 (8 : Int32) h366 n0 Z379 S378 hch hc2 O381 SV) hZ (tw hw 26 rfl) (tw hw 25 rfl) (by decide) (by decide)) (g := (mkF m 307 #[iv p0, iv p1, iv p2, iv p3, iv p4, iv p5, iv b, rv bx, iv ln, iv o, iv q, iv ch, iv q2, iv c2, iv n, .unset, .unset] [(.int 8), (.int c2), (.int q2), (.int ch), (.int q), (.int o), (.ref bx), (.int 8), (.ref a9), (.ref a9)])) rfl (by rw [hml]; rfl) (argsL := [(.ref bx), (.int o), (.int q), (.int ch), (.int q2), (.int c2), (.int 8)]) (rest := [(.int 8), (.ref a9), (.ref a9)]) (lenOf pdAT rfl) rfl (leW rfl) (hb hby at_307) (fun _ _ => ⟨rfl, e368, (leB rfl), (leB rfl)⟩)
  dsimp only [Pt.U, Pt.locs, Pt.cells, Pt.slots] at X383 l389 y390 z391 st392 hQ388
  subst y390 z391
  obtain ⟨x_pv401, rfl, N398, e394, pu_OK400⟩ := hQ388
  have N393 : Fr n0 L384 := by rw [l389]; exact Fr.app N371 N398
  refine Way.by st392 ?_
  show Way _ _ _ _ (T382.setTop (mkF m 310 #[iv p0, iv p1, iv p2, iv p3, iv p4, iv p5, iv b, rv bx, iv ln, iv o, iv q, iv ch, iv q2, iv c2, iv n, .unset, .unset] [(.int x_pv401), (.int 8), (.ref a9), (.ref a9)]))
  have V402 : Arv Z h366 a9 kc3 .char (16 : Int32) [(.int x_pv41), (.int x_pv86), (.int x_pv131), (.int x_pv176), (.int x_pv221), (.int x_pv266), (.int x_pv311), (.int x_pv356), (.int 0)] (.int 0) := V373.pad (pad_rep [(.int x_pv41), (.int x_pv86), (.int x_pv131), (.int x_pv176), (.int x_pv221), (.int x_pv266), (.int x_pv311), (.int x_pv356)] (.int 0) 1)
  obtain ⟨c403, A404, q405, S406, M407, H408, U409⟩ := id V402
  obtain ⟨T410, h411, X412, e413, W414, st415⟩ := stC X383 hx hZ e394 A404 (j := (8 : Int32)) (inb_of S406 ⟨(by decide), (by decide)⟩) (g := (mkF m 310 #[iv p0, iv p1, iv p2, iv p3, iv p4, iv p5, iv b, rv bx, iv ln, iv o, iv q, iv ch, iv q2, iv c2, iv n, .unset, .unset] [(.int x_pv401), (.int 8), (.ref a9), (.ref a9)])) rfl rfl (hb hby at_310)
  have N416 := Fr.snoc X412 N393 nw14
  have V417 : Arv Z h411 a9 kc3 .char (16 : Int32) [(.int x_pv41), (.int x_pv86), (.int x_pv131), (.int x_pv176), (.int x_pv221), (.int x_pv266), (.int x_pv311), (.int x_pv356), (.int (nar .char x_pv401))] (.int 0) := Arv.set A404 q405 S406 M407 H408 U409 (fits_nar_char _) W414 8 rfl (leB rfl)
  have nq419 : nar .char x_pv401 = x_pv401 := own_b.nar pu_OK400
  have V418 : Arv Z h411 a9 kc3 .char (16 : Int32) [(.int x_pv41), (.int x_pv86), (.int x_pv131), (.int x_pv176), (.int x_pv221), (.int x_pv266), (.int x_pv311), (.int x_pv356), (.int x_pv401)] (.int 0) := by rw [nq419] at V417; exact V417
  have hr422 := CHr.wr W414 (Safe.arv hZ.alike V373 (by decide)) H375
  have H420 := hr422.1
  have CH421 := CH376.trans hr422
  have S423 := S378.other W414 ne12 ne13
  have Z424 : n0 ≤ h411.size := by rw [W414.size]; exact Z379
  have hk425 := Nat.le_trans hk380 (Nat.le_of_eq W414.size.symm)
  have O426 := O381.wr W414 nw14
  refine Way.by st415 ?_
  show Way _ _ _ _ (T410.setTop (mkF m 311 #[iv p0, iv p1, iv p2, iv p3, iv p4, iv p5, iv b, rv bx, iv ln, iv o, iv q, iv ch, iv q2, iv c2, iv n, .unset, .unset] [(.ref a9)]))
  try clear V373 H375 CH376 S378 Z379 hk380 O381 X383 N393 e394 V402 c403 A404 q405 S406 M407 H408 U409 W414 st415 V417 hr422
  try clear h366 T382
  refine Way.by (fun _ k => XS.dup X412.here hx rfl (hb hby at_311) rfl rfl k) ?_
  show Way _ _ _ _ (T410.setTop (mkF m 312 #[iv p0, iv p1, iv p2, iv p3, iv p4, iv p5, iv b, rv bx, iv ln, iv o, iv q, iv ch, iv q2, iv c2, iv n, .unset, .unset] [(.ref a9), (.ref a9)]))
  refine Way.by (fun _ k => XS.bipush X412.here hx rfl (hb hby at_312) k) ?_
  show Way _ _ _ _ (T410.setTop (mkF m 314 #[iv p0, iv p1, iv p2, iv p3, iv p4, iv p5, iv b, rv bx, iv ln, iv o, iv q, iv ch, iv q2, iv c2, iv n, .unset, .unset] [(.int 9), (.ref a9), (.ref a9)]))
  refine Way.by (fun _ k => XS.aload X412.here hx rfl (hb hby at_314) rfl rfl k) ?_
  show Way _ _ _ _ (T410.setTop (mkF m 316 #[iv p0, iv p1, iv p2, iv p3, iv p4, iv p5, iv b, rv bx, iv ln, iv o, iv q, iv ch, iv q2, iv c2, iv n, .unset, .unset] [(.ref bx), (.int 9), (.ref a9), (.ref a9)]))
  refine Way.by (fun _ k => XS.iload X412.here hx rfl (hb hby at_316) rfl k) ?_
  show Way _ _ _ _ (T410.setTop (mkF m 318 #[iv p0, iv p1, iv p2, iv p3, iv p4, iv p5, iv b, rv bx, iv ln, iv o, iv q, iv ch, iv q2, iv c2, iv n, .unset, .unset] [(.int o), (.ref bx), (.int 9), (.ref a9), (.ref a9)]))
  refine Way.by (fun _ k => XS.iload X412.here hx rfl (hb hby at_318) rfl k) ?_
  show Way _ _ _ _ (T410.setTop (mkF m 320 #[iv p0, iv p1, iv p2, iv p3, iv p4, iv p5, iv b, rv bx, iv ln, iv o, iv q, iv ch, iv q2, iv c2, iv n, .unset, .unset] [(.int q), (.int o), (.ref bx), (.int 9), (.ref a9), (.ref a9)]))
  refine Way.by (fun _ k => XS.iload X412.here hx rfl (hb hby at_320) rfl k) ?_
  show Way _ _ _ _ (T410.setTop (mkF m 322 #[iv p0, iv p1, iv p2, iv p3, iv p4, iv p5, iv b, rv bx, iv ln, iv o, iv q, iv ch, iv q2, iv c2, iv n, .unset, .unset] [(.int ch), (.int q), (.int o), (.ref bx), (.int 9), (.ref a9), (.ref a9)]))
  refine Way.by (fun _ k => XS.iload X412.here hx rfl (hb hby at_322) rfl k) ?_
  show Way _ _ _ _ (T410.setTop (mkF m 324 #[iv p0, iv p1, iv p2, iv p3, iv p4, iv p5, iv b, rv bx, iv ln, iv o, iv q, iv ch, iv q2, iv c2, iv n, .unset, .unset] [(.int q2), (.int ch), (.int q), (.int o), (.ref bx), (.int 9), (.ref a9), (.ref a9)]))
  refine Way.by (fun _ k => XS.iload X412.here hx rfl (hb hby at_324) rfl k) ?_
  show Way _ _ _ _ (T410.setTop (mkF m 326 #[iv p0, iv p1, iv p2, iv p3, iv p4, iv p5, iv b, rv bx, iv ln, iv o, iv q, iv ch, iv q2, iv c2, iv n, .unset, .unset] [(.int c2), (.int q2), (.int ch), (.int q), (.int o), (.ref bx), (.int 9), (.ref a9), (.ref a9)]))
  refine Way.by (fun _ k => XS.bipush X412.here hx rfl (hb hby at_326) k) ?_
  show Way _ _ _ _ (T410.setTop (mkF m 328 #[iv p0, iv p1, iv p2, iv p3, iv p4, iv p5, iv b, rv bx, iv ln, iv o, iv q, iv ch, iv q2, iv c2, iv n, .unset, .unset] [(.int 9), (.int c2), (.int q2), (.int ch), (.int q), (.int o), (.ref bx), (.int 9), (.ref a9), (.ref a9)]))
  obtain ⟨_, _, ⟨T427, L429, k430, n431⟩, -, X428, ⟨Lc432, hQ433, l434, y435, z436⟩, st437⟩ := Jvm.LawKit.callS X412 hx (y := (⟨"com/example/unbound_principals/unboundprincipals/AuthorizableKindOfNodeTypePinLaw", "at", "(Ljava/lang/String;IICICI)C"⟩ : MethodName)) hown (mvT hZ (tw hw 23 rfl)) (mvT hZ (tw hw 24 rfl)) (mvT hZ (tw hw 25 rfl)) (mvT hZ (tw hw 26 rfl)) (by decide) (backOf (W := 3) (rmAT l Z a0 hw [] bx bt cs o q ch q2 c2 (9 : Int32) h411 n0 Z424 S423 hch hc2 O426 SV) hZ (tw hw 26 rfl) (tw hw 25 rfl) (by decide) (by decide)) (g := (mkF m 328 #[iv p0, iv p1, iv p2, iv p3, iv p4, iv p5, iv b, rv bx, iv ln, iv o, iv q, iv ch, iv q2, iv c2, iv n, .unset, .unset] [(.int 9), (.int c2), (.int q2), (.int ch), (.int q), (.int o), (.ref bx), (.int 9), (.ref a9), (.ref a9)])) rfl (by rw [hml]; rfl) (argsL := [(.ref bx), (.int o), (.int q), (.int ch), (.int q2), (.int c2), (.int 9)]) (rest := [(.int 9), (.ref a9), (.ref a9)]) (lenOf pdAT rfl) rfl (leW rfl) (hb hby at_328) (fun _ _ => ⟨rfl, e413, (leB rfl), (leB rfl)⟩)
  dsimp only [Pt.U, Pt.locs, Pt.cells, Pt.slots] at X428 l434 y435 z436 st437 hQ433
  subst y435 z436
  obtain ⟨x_pv446, rfl, N443, e439, pu_OK445⟩ := hQ433
  have N438 : Fr n0 L429 := by rw [l434]; exact Fr.app N416 N443
  refine Way.by st437 ?_
  show Way _ _ _ _ (T427.setTop (mkF m 331 #[iv p0, iv p1, iv p2, iv p3, iv p4, iv p5, iv b, rv bx, iv ln, iv o, iv q, iv ch, iv q2, iv c2, iv n, .unset, .unset] [(.int x_pv446), (.int 9), (.ref a9), (.ref a9)]))
  have V447 : Arv Z h411 a9 kc3 .char (16 : Int32) [(.int x_pv41), (.int x_pv86), (.int x_pv131), (.int x_pv176), (.int x_pv221), (.int x_pv266), (.int x_pv311), (.int x_pv356), (.int x_pv401), (.int 0)] (.int 0) := V418.pad (pad_rep [(.int x_pv41), (.int x_pv86), (.int x_pv131), (.int x_pv176), (.int x_pv221), (.int x_pv266), (.int x_pv311), (.int x_pv356), (.int x_pv401)] (.int 0) 1)
  obtain ⟨c448, A449, q450, S451, M452, H453, U454⟩ := id V447
  obtain ⟨T455, h456, X457, e458, W459, st460⟩ := stC X428 hx hZ e439 A449 (j := (9 : Int32)) (inb_of S451 ⟨(by decide), (by decide)⟩) (g := (mkF m 331 #[iv p0, iv p1, iv p2, iv p3, iv p4, iv p5, iv b, rv bx, iv ln, iv o, iv q, iv ch, iv q2, iv c2, iv n, .unset, .unset] [(.int x_pv446), (.int 9), (.ref a9), (.ref a9)])) rfl rfl (hb hby at_331)
  have N461 := Fr.snoc X457 N438 nw14
  have V462 : Arv Z h456 a9 kc3 .char (16 : Int32) [(.int x_pv41), (.int x_pv86), (.int x_pv131), (.int x_pv176), (.int x_pv221), (.int x_pv266), (.int x_pv311), (.int x_pv356), (.int x_pv401), (.int (nar .char x_pv446))] (.int 0) := Arv.set A449 q450 S451 M452 H453 U454 (fits_nar_char _) W459 9 rfl (leB rfl)
  have nq464 : nar .char x_pv446 = x_pv446 := own_b.nar pu_OK445
  have V463 : Arv Z h456 a9 kc3 .char (16 : Int32) [(.int x_pv41), (.int x_pv86), (.int x_pv131), (.int x_pv176), (.int x_pv221), (.int x_pv266), (.int x_pv311), (.int x_pv356), (.int x_pv401), (.int x_pv446)] (.int 0) := by rw [nq464] at V462; exact V462
  have hr467 := CHr.wr W459 (Safe.arv hZ.alike V418 (by decide)) H420
  have H465 := hr467.1
  have CH466 := CH421.trans hr467
  have S468 := S423.other W459 ne12 ne13
  have Z469 : n0 ≤ h456.size := by rw [W459.size]; exact Z424
  have hk470 := Nat.le_trans hk425 (Nat.le_of_eq W459.size.symm)
  have O471 := O426.wr W459 nw14
  refine Way.by st460 ?_
  show Way _ _ _ _ (T455.setTop (mkF m 332 #[iv p0, iv p1, iv p2, iv p3, iv p4, iv p5, iv b, rv bx, iv ln, iv o, iv q, iv ch, iv q2, iv c2, iv n, .unset, .unset] [(.ref a9)]))
  try clear V418 H420 CH421 S423 Z424 hk425 O426 X428 N438 e439 V447 c448 A449 q450 S451 M452 H453 U454 W459 st460 V462 hr467
  try clear h411 T427
  refine Way.by (fun _ k => XS.dup X457.here hx rfl (hb hby at_332) rfl rfl k) ?_
  show Way _ _ _ _ (T455.setTop (mkF m 333 #[iv p0, iv p1, iv p2, iv p3, iv p4, iv p5, iv b, rv bx, iv ln, iv o, iv q, iv ch, iv q2, iv c2, iv n, .unset, .unset] [(.ref a9), (.ref a9)]))
  refine Way.by (fun _ k => XS.bipush X457.here hx rfl (hb hby at_333) k) ?_
  show Way _ _ _ _ (T455.setTop (mkF m 335 #[iv p0, iv p1, iv p2, iv p3, iv p4, iv p5, iv b, rv bx, iv ln, iv o, iv q, iv ch, iv q2, iv c2, iv n, .unset, .unset] [(.int 10), (.ref a9), (.ref a9)]))
  refine Way.by (fun _ k => XS.aload X457.here hx rfl (hb hby at_335) rfl rfl k) ?_
  show Way _ _ _ _ (T455.setTop (mkF m 337 #[iv p0, iv p1, iv p2, iv p3, iv p4, iv p5, iv b, rv bx, iv ln, iv o, iv q, iv ch, iv q2, iv c2, iv n, .unset, .unset] [(.ref bx), (.int 10), (.ref a9), (.ref a9)]))
  refine Way.by (fun _ k => XS.iload X457.here hx rfl (hb hby at_337) rfl k) ?_
  show Way _ _ _ _ (T455.setTop (mkF m 339 #[iv p0, iv p1, iv p2, iv p3, iv p4, iv p5, iv b, rv bx, iv ln, iv o, iv q, iv ch, iv q2, iv c2, iv n, .unset, .unset] [(.int o), (.ref bx), (.int 10), (.ref a9), (.ref a9)]))
  refine Way.by (fun _ k => XS.iload X457.here hx rfl (hb hby at_339) rfl k) ?_
  show Way _ _ _ _ (T455.setTop (mkF m 341 #[iv p0, iv p1, iv p2, iv p3, iv p4, iv p5, iv b, rv bx, iv ln, iv o, iv q, iv ch, iv q2, iv c2, iv n, .unset, .unset] [(.int q), (.int o), (.ref bx), (.int 10), (.ref a9), (.ref a9)]))
  refine Way.by (fun _ k => XS.iload X457.here hx rfl (hb hby at_341) rfl k) ?_
  show Way _ _ _ _ (T455.setTop (mkF m 343 #[iv p0, iv p1, iv p2, iv p3, iv p4, iv p5, iv b, rv bx, iv ln, iv o, iv q, iv ch, iv q2, iv c2, iv n, .unset, .unset] [(.int ch), (.int q), (.int o), (.ref bx), (.int 10), (.ref a9), (.ref a9)]))
  refine Way.by (fun _ k => XS.iload X457.here hx rfl (hb hby at_343) rfl k) ?_
  show Way _ _ _ _ (T455.setTop (mkF m 345 #[iv p0, iv p1, iv p2, iv p3, iv p4, iv p5, iv b, rv bx, iv ln, iv o, iv q, iv ch, iv q2, iv c2, iv n, .unset, .unset] [(.int q2), (.int ch), (.int q), (.int o), (.ref bx), (.int 10), (.ref a9), (.ref a9)]))
  refine Way.by (fun _ k => XS.iload X457.here hx rfl (hb hby at_345) rfl k) ?_
  show Way _ _ _ _ (T455.setTop (mkF m 347 #[iv p0, iv p1, iv p2, iv p3, iv p4, iv p5, iv b, rv bx, iv ln, iv o, iv q, iv ch, iv q2, iv c2, iv n, .unset, .unset] [(.int c2), (.int q2), (.int ch), (.int q), (.int o), (.ref bx), (.int 10), (.ref a9), (.ref a9)]))
  refine Way.by (fun _ k => XS.bipush X457.here hx rfl (hb hby at_347) k) ?_
  show Way _ _ _ _ (T455.setTop (mkF m 349 #[iv p0, iv p1, iv p2, iv p3, iv p4, iv p5, iv b, rv bx, iv ln, iv o, iv q, iv ch, iv q2, iv c2, iv n, .unset, .unset] [(.int 10), (.int c2), (.int q2), (.int ch), (.int q), (.int o), (.ref bx), (.int 10), (.ref a9), (.ref a9)]))
  obtain ⟨_, _, ⟨T472, L474, k475, n476⟩, -, X473, ⟨Lc477, hQ478, l479, y480, z481⟩, st482⟩ := Jvm.LawKit.callS X457 hx (y := (⟨"com/example/unbound_principals/unboundprincipals/AuthorizableKindOfNodeTypePinLaw", "at", "(Ljava/lang/String;IICICI)C"⟩ : MethodName)) hown (mvT hZ (tw hw 23 rfl)) (mvT hZ (tw hw 24 rfl)) (mvT hZ (tw hw 25 rfl)) (mvT hZ (tw hw 26 rfl)) (by decide) (backOf (W := 3) (rmAT l Z a0 hw [] bx bt cs o q ch q2 c2 (10 : Int32) h456 n0 Z469 S468 hch hc2 O471 SV) hZ (tw hw 26 rfl) (tw hw 25 rfl) (by decide) (by decide)) (g := (mkF m 349 #[iv p0, iv p1, iv p2, iv p3, iv p4, iv p5, iv b, rv bx, iv ln, iv o, iv q, iv ch, iv q2, iv c2, iv n, .unset, .unset] [(.int 10), (.int c2), (.int q2), (.int ch), (.int q), (.int o), (.ref bx), (.int 10), (.ref a9), (.ref a9)])) rfl (by rw [hml]; rfl) (argsL := [(.ref bx), (.int o), (.int q), (.int ch), (.int q2), (.int c2), (.int 10)]) (rest := [(.int 10), (.ref a9), (.ref a9)]) (lenOf pdAT rfl) rfl (leW rfl) (hb hby at_349) (fun _ _ => ⟨rfl, e458, (leB rfl), (leB rfl)⟩)
  dsimp only [Pt.U, Pt.locs, Pt.cells, Pt.slots] at X473 l479 y480 z481 st482 hQ478
  subst y480 z481
  obtain ⟨x_pv491, rfl, N488, e484, pu_OK490⟩ := hQ478
  have N483 : Fr n0 L474 := by rw [l479]; exact Fr.app N461 N488
  refine Way.by st482 ?_
  show Way _ _ _ _ (T472.setTop (mkF m 352 #[iv p0, iv p1, iv p2, iv p3, iv p4, iv p5, iv b, rv bx, iv ln, iv o, iv q, iv ch, iv q2, iv c2, iv n, .unset, .unset] [(.int x_pv491), (.int 10), (.ref a9), (.ref a9)]))
  have V492 : Arv Z h456 a9 kc3 .char (16 : Int32) [(.int x_pv41), (.int x_pv86), (.int x_pv131), (.int x_pv176), (.int x_pv221), (.int x_pv266), (.int x_pv311), (.int x_pv356), (.int x_pv401), (.int x_pv446), (.int 0)] (.int 0) := V463.pad (pad_rep [(.int x_pv41), (.int x_pv86), (.int x_pv131), (.int x_pv176), (.int x_pv221), (.int x_pv266), (.int x_pv311), (.int x_pv356), (.int x_pv401), (.int x_pv446)] (.int 0) 1)
  obtain ⟨c493, A494, q495, S496, M497, H498, U499⟩ := id V492
  obtain ⟨T500, h501, X502, e503, W504, st505⟩ := stC X473 hx hZ e484 A494 (j := (10 : Int32)) (inb_of S496 ⟨(by decide), (by decide)⟩) (g := (mkF m 352 #[iv p0, iv p1, iv p2, iv p3, iv p4, iv p5, iv b, rv bx, iv ln, iv o, iv q, iv ch, iv q2, iv c2, iv n, .unset, .unset] [(.int x_pv491), (.int 10), (.ref a9), (.ref a9)])) rfl rfl (hb hby at_352)
  have N506 := Fr.snoc X502 N483 nw14
  have V507 : Arv Z h501 a9 kc3 .char (16 : Int32) [(.int x_pv41), (.int x_pv86), (.int x_pv131), (.int x_pv176), (.int x_pv221), (.int x_pv266), (.int x_pv311), (.int x_pv356), (.int x_pv401), (.int x_pv446), (.int (nar .char x_pv491))] (.int 0) := Arv.set A494 q495 S496 M497 H498 U499 (fits_nar_char _) W504 10 rfl (leB rfl)
  have nq509 : nar .char x_pv491 = x_pv491 := own_b.nar pu_OK490
  have V508 : Arv Z h501 a9 kc3 .char (16 : Int32) [(.int x_pv41), (.int x_pv86), (.int x_pv131), (.int x_pv176), (.int x_pv221), (.int x_pv266), (.int x_pv311), (.int x_pv356), (.int x_pv401), (.int x_pv446), (.int x_pv491)] (.int 0) := by rw [nq509] at V507; exact V507
  have hr512 := CHr.wr W504 (Safe.arv hZ.alike V463 (by decide)) H465
  have H510 := hr512.1
  have CH511 := CH466.trans hr512
  have S513 := S468.other W504 ne12 ne13
  have Z514 : n0 ≤ h501.size := by rw [W504.size]; exact Z469
  have hk515 := Nat.le_trans hk470 (Nat.le_of_eq W504.size.symm)
  have O516 := O471.wr W504 nw14
  refine Way.by st505 ?_
  show Way _ _ _ _ (T500.setTop (mkF m 353 #[iv p0, iv p1, iv p2, iv p3, iv p4, iv p5, iv b, rv bx, iv ln, iv o, iv q, iv ch, iv q2, iv c2, iv n, .unset, .unset] [(.ref a9)]))
  try clear V463 H465 CH466 S468 Z469 hk470 O471 X473 N483 e484 V492 c493 A494 q495 S496 M497 H498 U499 W504 st505 V507 hr512
  try clear h456 T472
  refine Way.by (fun _ k => XS.dup X502.here hx rfl (hb hby at_353) rfl rfl k) ?_
  show Way _ _ _ _ (T500.setTop (mkF m 354 #[iv p0, iv p1, iv p2, iv p3, iv p4, iv p5, iv b, rv bx, iv ln, iv o, iv q, iv ch, iv q2, iv c2, iv n, .unset, .unset] [(.ref a9), (.ref a9)]))
  refine Way.by (fun _ k => XS.bipush X502.here hx rfl (hb hby at_354) k) ?_
  show Way _ _ _ _ (T500.setTop (mkF m 356 #[iv p0, iv p1, iv p2, iv p3, iv p4, iv p5, iv b, rv bx, iv ln, iv o, iv q, iv ch, iv q2, iv c2, iv n, .unset, .unset] [(.int 11), (.ref a9), (.ref a9)]))
  refine Way.by (fun _ k => XS.aload X502.here hx rfl (hb hby at_356) rfl rfl k) ?_
  show Way _ _ _ _ (T500.setTop (mkF m 358 #[iv p0, iv p1, iv p2, iv p3, iv p4, iv p5, iv b, rv bx, iv ln, iv o, iv q, iv ch, iv q2, iv c2, iv n, .unset, .unset] [(.ref bx), (.int 11), (.ref a9), (.ref a9)]))
  refine Way.by (fun _ k => XS.iload X502.here hx rfl (hb hby at_358) rfl k) ?_
  show Way _ _ _ _ (T500.setTop (mkF m 360 #[iv p0, iv p1, iv p2, iv p3, iv p4, iv p5, iv b, rv bx, iv ln, iv o, iv q, iv ch, iv q2, iv c2, iv n, .unset, .unset] [(.int o), (.ref bx), (.int 11), (.ref a9), (.ref a9)]))
  refine Way.by (fun _ k => XS.iload X502.here hx rfl (hb hby at_360) rfl k) ?_
  show Way _ _ _ _ (T500.setTop (mkF m 362 #[iv p0, iv p1, iv p2, iv p3, iv p4, iv p5, iv b, rv bx, iv ln, iv o, iv q, iv ch, iv q2, iv c2, iv n, .unset, .unset] [(.int q), (.int o), (.ref bx), (.int 11), (.ref a9), (.ref a9)]))
  refine Way.by (fun _ k => XS.iload X502.here hx rfl (hb hby at_362) rfl k) ?_
  show Way _ _ _ _ (T500.setTop (mkF m 364 #[iv p0, iv p1, iv p2, iv p3, iv p4, iv p5, iv b, rv bx, iv ln, iv o, iv q, iv ch, iv q2, iv c2, iv n, .unset, .unset] [(.int ch), (.int q), (.int o), (.ref bx), (.int 11), (.ref a9), (.ref a9)]))
  refine Way.by (fun _ k => XS.iload X502.here hx rfl (hb hby at_364) rfl k) ?_
  show Way _ _ _ _ (T500.setTop (mkF m 366 #[iv p0, iv p1, iv p2, iv p3, iv p4, iv p5, iv b, rv bx, iv ln, iv o, iv q, iv ch, iv q2, iv c2, iv n, .unset, .unset] [(.int q2), (.int ch), (.int q), (.int o), (.ref bx), (.int 11), (.ref a9), (.ref a9)]))
  refine Way.by (fun _ k => XS.iload X502.here hx rfl (hb hby at_366) rfl k) ?_
  show Way _ _ _ _ (T500.setTop (mkF m 368 #[iv p0, iv p1, iv p2, iv p3, iv p4, iv p5, iv b, rv bx, iv ln, iv o, iv q, iv ch, iv q2, iv c2, iv n, .unset, .unset] [(.int c2), (.int q2), (.int ch), (.int q), (.int o), (.ref bx), (.int 11), (.ref a9), (.ref a9)]))
  refine Way.by (fun _ k => XS.bipush X502.here hx rfl (hb hby at_368) k) ?_
  show Way _ _ _ _ (T500.setTop (mkF m 370 #[iv p0, iv p1, iv p2, iv p3, iv p4, iv p5, iv b, rv bx, iv ln, iv o, iv q, iv ch, iv q2, iv c2, iv n, .unset, .unset] [(.int 11), (.int c2), (.int q2), (.int ch), (.int q), (.int o), (.ref bx), (.int 11), (.ref a9), (.ref a9)]))
  obtain ⟨_, _, ⟨T517, L519, k520, n521⟩, -, X518, ⟨Lc522, hQ523, l524, y525, z526⟩, st527⟩ := Jvm.LawKit.callS X502 hx (y := (⟨"com/example/unbound_principals/unboundprincipals/AuthorizableKindOfNodeTypePinLaw", "at", "(Ljava/lang/String;IICICI)C"⟩ : MethodName)) hown (mvT hZ (tw hw 23 rfl)) (mvT hZ (tw hw 24 rfl)) (mvT hZ (tw hw 25 rfl)) (mvT hZ (tw hw 26 rfl)) (by decide) (backOf (W := 3) (rmAT l Z a0 hw [] bx bt cs o q ch q2 c2 (11 : Int32) h501 n0 Z514 S513 hch hc2 O516 SV) hZ (tw hw 26 rfl) (tw hw 25 rfl) (by decide) (by decide)) (g := (mkF m 370 #[iv p0, iv p1, iv p2, iv p3, iv p4, iv p5, iv b, rv bx, iv ln, iv o, iv q, iv ch, iv q2, iv c2, iv n, .unset, .unset] [(.int 11), (.int c2), (.int q2), (.int ch), (.int q), (.int o), (.ref bx), (.int 11), (.ref a9), (.ref a9)])) rfl (by rw [hml]; rfl) (argsL := [(.ref bx), (.int o), (.int q), (.int ch), (.int q2), (.int c2), (.int 11)]) (rest := [(.int 11), (.ref a9), (.ref a9)]) (lenOf pdAT rfl) rfl (leW rfl) (hb hby at_370) (fun _ _ => ⟨rfl, e503, (leB rfl), (leB rfl)⟩)
  dsimp only [Pt.U, Pt.locs, Pt.cells, Pt.slots] at X518 l524 y525 z526 st527 hQ523
  subst y525 z526
  obtain ⟨x_pv536, rfl, N533, e529, pu_OK535⟩ := hQ523
  have N528 : Fr n0 L519 := by rw [l524]; exact Fr.app N506 N533
  refine Way.by st527 ?_
  show Way _ _ _ _ (T517.setTop (mkF m 373 #[iv p0, iv p1, iv p2, iv p3, iv p4, iv p5, iv b, rv bx, iv ln, iv o, iv q, iv ch, iv q2, iv c2, iv n, .unset, .unset] [(.int x_pv536), (.int 11), (.ref a9), (.ref a9)]))
  have V537 : Arv Z h501 a9 kc3 .char (16 : Int32) [(.int x_pv41), (.int x_pv86), (.int x_pv131), (.int x_pv176), (.int x_pv221), (.int x_pv266), (.int x_pv311), (.int x_pv356), (.int x_pv401), (.int x_pv446), (.int x_pv491), (.int 0)] (.int 0) := V508.pad (pad_rep [(.int x_pv41), (.int x_pv86), (.int x_pv131), (.int x_pv176), (.int x_pv221), (.int x_pv266), (.int x_pv311), (.int x_pv356), (.int x_pv401), (.int x_pv446), (.int x_pv491)] (.int 0) 1)
  obtain ⟨c538, A539, q540, S541, M542, H543, U544⟩ := id V537
  obtain ⟨T545, h546, X547, e548, W549, st550⟩ := stC X518 hx hZ e529 A539 (j := (11 : Int32)) (inb_of S541 ⟨(by decide), (by decide)⟩) (g := (mkF m 373 #[iv p0, iv p1, iv p2, iv p3, iv p4, iv p5, iv b, rv bx, iv ln, iv o, iv q, iv ch, iv q2, iv c2, iv n, .unset, .unset] [(.int x_pv536), (.int 11), (.ref a9), (.ref a9)])) rfl rfl (hb hby at_373)
  have N551 := Fr.snoc X547 N528 nw14
  have V552 : Arv Z h546 a9 kc3 .char (16 : Int32) [(.int x_pv41), (.int x_pv86), (.int x_pv131), (.int x_pv176), (.int x_pv221), (.int x_pv266), (.int x_pv311), (.int x_pv356), (.int x_pv401), (.int x_pv446), (.int x_pv491), (.int (nar .char x_pv536))] (.int 0) := Arv.set A539 q540 S541 M542 H543 U544 (fits_nar_char _) W549 11 rfl (leB rfl)
  have nq554 : nar .char x_pv536 = x_pv536 := own_b.nar pu_OK535
  have V553 : Arv Z h546 a9 kc3 .char (16 : Int32) [(.int x_pv41), (.int x_pv86), (.int x_pv131), (.int x_pv176), (.int x_pv221), (.int x_pv266), (.int x_pv311), (.int x_pv356), (.int x_pv401), (.int x_pv446), (.int x_pv491), (.int x_pv536)] (.int 0) := by rw [nq554] at V552; exact V552
  have hr557 := CHr.wr W549 (Safe.arv hZ.alike V508 (by decide)) H510
  have H555 := hr557.1
  have CH556 := CH511.trans hr557
  have S558 := S513.other W549 ne12 ne13
  have Z559 : n0 ≤ h546.size := by rw [W549.size]; exact Z514
  have hk560 := Nat.le_trans hk515 (Nat.le_of_eq W549.size.symm)
  have O561 := O516.wr W549 nw14
  refine Way.by st550 ?_
  show Way _ _ _ _ (T545.setTop (mkF m 374 #[iv p0, iv p1, iv p2, iv p3, iv p4, iv p5, iv b, rv bx, iv ln, iv o, iv q, iv ch, iv q2, iv c2, iv n, .unset, .unset] [(.ref a9)]))
  try clear V508 H510 CH511 S513 Z514 hk515 O516 X518 N528 e529 V537 c538 A539 q540 S541 M542 H543 U544 W549 st550 V552 hr557
  try clear h501 T517
  refine Way.by (fun _ k => XS.dup X547.here hx rfl (hb hby at_374) rfl rfl k) ?_
  show Way _ _ _ _ (T545.setTop (mkF m 375 #[iv p0, iv p1, iv p2, iv p3, iv p4, iv p5, iv b, rv bx, iv ln, iv o, iv q, iv ch, iv q2, iv c2, iv n, .unset, .unset] [(.ref a9), (.ref a9)]))
  refine Way.by (fun _ k => XS.bipush X547.here hx rfl (hb hby at_375) k) ?_
  show Way _ _ _ _ (T545.setTop (mkF m 377 #[iv p0, iv p1, iv p2, iv p3, iv p4, iv p5, iv b, rv bx, iv ln, iv o, iv q, iv ch, iv q2, iv c2, iv n, .unset, .unset] [(.int 12), (.ref a9), (.ref a9)]))
  refine Way.by (fun _ k => XS.aload X547.here hx rfl (hb hby at_377) rfl rfl k) ?_
  show Way _ _ _ _ (T545.setTop (mkF m 379 #[iv p0, iv p1, iv p2, iv p3, iv p4, iv p5, iv b, rv bx, iv ln, iv o, iv q, iv ch, iv q2, iv c2, iv n, .unset, .unset] [(.ref bx), (.int 12), (.ref a9), (.ref a9)]))
  refine Way.by (fun _ k => XS.iload X547.here hx rfl (hb hby at_379) rfl k) ?_
  show Way _ _ _ _ (T545.setTop (mkF m 381 #[iv p0, iv p1, iv p2, iv p3, iv p4, iv p5, iv b, rv bx, iv ln, iv o, iv q, iv ch, iv q2, iv c2, iv n, .unset, .unset] [(.int o), (.ref bx), (.int 12), (.ref a9), (.ref a9)]))
  refine Way.by (fun _ k => XS.iload X547.here hx rfl (hb hby at_381) rfl k) ?_
  show Way _ _ _ _ (T545.setTop (mkF m 383 #[iv p0, iv p1, iv p2, iv p3, iv p4, iv p5, iv b, rv bx, iv ln, iv o, iv q, iv ch, iv q2, iv c2, iv n, .unset, .unset] [(.int q), (.int o), (.ref bx), (.int 12), (.ref a9), (.ref a9)]))
  refine Way.by (fun _ k => XS.iload X547.here hx rfl (hb hby at_383) rfl k) ?_
  show Way _ _ _ _ (T545.setTop (mkF m 385 #[iv p0, iv p1, iv p2, iv p3, iv p4, iv p5, iv b, rv bx, iv ln, iv o, iv q, iv ch, iv q2, iv c2, iv n, .unset, .unset] [(.int ch), (.int q), (.int o), (.ref bx), (.int 12), (.ref a9), (.ref a9)]))
  refine Way.by (fun _ k => XS.iload X547.here hx rfl (hb hby at_385) rfl k) ?_
  show Way _ _ _ _ (T545.setTop (mkF m 387 #[iv p0, iv p1, iv p2, iv p3, iv p4, iv p5, iv b, rv bx, iv ln, iv o, iv q, iv ch, iv q2, iv c2, iv n, .unset, .unset] [(.int q2), (.int ch), (.int q), (.int o), (.ref bx), (.int 12), (.ref a9), (.ref a9)]))
  refine Way.by (fun _ k => XS.iload X547.here hx rfl (hb hby at_387) rfl k) ?_
  show Way _ _ _ _ (T545.setTop (mkF m 389 #[iv p0, iv p1, iv p2, iv p3, iv p4, iv p5, iv b, rv bx, iv ln, iv o, iv q, iv ch, iv q2, iv c2, iv n, .unset, .unset] [(.int c2), (.int q2), (.int ch), (.int q), (.int o), (.ref bx), (.int 12), (.ref a9), (.ref a9)]))
  refine Way.by (fun _ k => XS.bipush X547.here hx rfl (hb hby at_389) k) ?_
  show Way _ _ _ _ (T545.setTop (mkF m 391 #[iv p0, iv p1, iv p2, iv p3, iv p4, iv p5, iv b, rv bx, iv ln, iv o, iv q, iv ch, iv q2, iv c2, iv n, .unset, .unset] [(.int 12), (.int c2), (.int q2), (.int ch), (.int q), (.int o), (.ref bx), (.int 12), (.ref a9), (.ref a9)]))
  obtain ⟨_, _, ⟨T562, L564, k565, n566⟩, -, X563, ⟨Lc567, hQ568, l569, y570, z571⟩, st572⟩ := Jvm.LawKit.callS X547 hx (y := (⟨"com/example/unbound_principals/unboundprincipals/AuthorizableKindOfNodeTypePinLaw", "at", "(Ljava/lang/String;IICICI)C"⟩ : MethodName)) hown (mvT hZ (tw hw 23 rfl)) (mvT hZ (tw hw 24 rfl)) (mvT hZ (tw hw 25 rfl)) (mvT hZ (tw hw 26 rfl)) (by decide) (backOf (W := 3) (rmAT l Z a0 hw [] bx bt cs o q ch q2 c2 (12 : Int32) h546 n0 Z559 S558 hch hc2 O561 SV) hZ (tw hw 26 rfl) (tw hw 25 rfl) (by decide) (by decide)) (g := (mkF m 391 #[iv p0, iv p1, iv p2, iv p3, iv p4, iv p5, iv b, rv bx, iv ln, iv o, iv q, iv ch, iv q2, iv c2, iv n, .unset, .unset] [(.int 12), (.int c2), (.int q2), (.int ch), (.int q), (.int o), (.ref bx), (.int 12), (.ref a9), (.ref a9)])) rfl (by rw [hml]; rfl) (argsL := [(.ref bx), (.int o), (.int q), (.int ch), (.int q2), (.int c2), (.int 12)]) (rest := [(.int 12), (.ref a9), (.ref a9)]) (lenOf pdAT rfl) rfl (leW rfl) (hb hby at_391) (fun _ _ => ⟨rfl, e548, (leB rfl), (leB rfl)⟩)
  dsimp only [Pt.U, Pt.locs, Pt.cells, Pt.slots] at X563 l569 y570 z571 st572 hQ568
  subst y570 z571
  obtain ⟨x_pv581, rfl, N578, e574, pu_OK580⟩ := hQ568
  have N573 : Fr n0 L564 := by rw [l569]; exact Fr.app N551 N578
  refine Way.by st572 ?_
  show Way _ _ _ _ (T562.setTop (mkF m 394 #[iv p0, iv p1, iv p2, iv p3, iv p4, iv p5, iv b, rv bx, iv ln, iv o, iv q, iv ch, iv q2, iv c2, iv n, .unset, .unset] [(.int x_pv581), (.int 12), (.ref a9), (.ref a9)]))
  have V582 : Arv Z h546 a9 kc3 .char (16 : Int32) [(.int x_pv41), (.int x_pv86), (.int x_pv131), (.int x_pv176), (.int x_pv221), (.int x_pv266), (.int x_pv311), (.int x_pv356), (.int x_pv401), (.int x_pv446), (.int x_pv491), (.int x_pv536), (.int 0)] (.int 0) := V553.pad (pad_rep [(.int x_pv41), (.int x_pv86), (.int x_pv131), (.int x_pv176), (.int x_pv221), (.int x_pv266), (.int x_pv311), (.int x_pv356), (.int x_pv401), (.int x_pv446), (.int x_pv491), (.int x_pv536)] (.int 0) 1)
  obtain ⟨c583, A584, q585, S586, M587, H588, U589⟩ := id V582
  obtain ⟨T590, h591, X592, e593, W594, st595⟩ := stC X563 hx hZ e574 A584 (j := (12 : Int32)) (inb_of S586 ⟨(by decide), (by decide)⟩) (g := (mkF m 394 #[iv p0, iv p1, iv p2, iv p3, iv p4, iv p5, iv b, rv bx, iv ln, iv o, iv q, iv ch, iv q2, iv c2, iv n, .unset, .unset] [(.int x_pv581), (.int 12), (.ref a9), (.ref a9)])) rfl rfl (hb hby at_394)
  have N596 := Fr.snoc X592 N573 nw14
  have V597 : Arv Z h591 a9 kc3 .char (16 : Int32) [(.int x_pv41), (.int x_pv86), (.int x_pv131), (.int x_pv176), (.int x_pv221), (.int x_pv266), (.int x_pv311), (.int x_pv356), (.int x_pv401), (.int x_pv446), (.int x_pv491), (.int x_pv536), (.int (nar .char x_pv581))] (.int 0) := Arv.set A584 q585 S586 M587 H588 U589 (fits_nar_char _) W594 12 rfl (leB rfl)
  have nq599 : nar .char x_pv581 = x_pv581 := own_b.nar pu_OK580
  have V598 : Arv Z h591 a9 kc3 .char (16 : Int32) [(.int x_pv41), (.int x_pv86), (.int x_pv131), (.int x_pv176), (.int x_pv221), (.int x_pv266), (.int x_pv311), (.int x_pv356), (.int x_pv401), (.int x_pv446), (.int x_pv491), (.int x_pv536), (.int x_pv581)] (.int 0) := by rw [nq599] at V597; exact V597
  have hr602 := CHr.wr W594 (Safe.arv hZ.alike V553 (by decide)) H555
  have H600 := hr602.1
  have CH601 := CH556.trans hr602
  have S603 := S558.other W594 ne12 ne13
  have Z604 : n0 ≤ h591.size := by rw [W594.size]; exact Z559
  have hk605 := Nat.le_trans hk560 (Nat.le_of_eq W594.size.symm)
  have O606 := O561.wr W594 nw14
  refine Way.by st595 ?_
  show Way _ _ _ _ (T590.setTop (mkF m 395 #[iv p0, iv p1, iv p2, iv p3, iv p4, iv p5, iv b, rv bx, iv ln, iv o, iv q, iv ch, iv q2, iv c2, iv n, .unset, .unset] [(.ref a9)]))
  try clear V553 H555 CH556 S558 Z559 hk560 O561 X563 N573 e574 V582 c583 A584 q585 S586 M587 H588 U589 W594 st595 V597 hr602
  try clear h546 T562
  refine Way.by (fun _ k => XS.dup X592.here hx rfl (hb hby at_395) rfl rfl k) ?_
  show Way _ _ _ _ (T590.setTop (mkF m 396 #[iv p0, iv p1, iv p2, iv p3, iv p4, iv p5, iv b, rv bx, iv ln, iv o, iv q, iv ch, iv q2, iv c2, iv n, .unset, .unset] [(.ref a9), (.ref a9)]))
  refine Way.by (fun _ k => XS.bipush X592.here hx rfl (hb hby at_396) k) ?_
  show Way _ _ _ _ (T590.setTop (mkF m 398 #[iv p0, iv p1, iv p2, iv p3, iv p4, iv p5, iv b, rv bx, iv ln, iv o, iv q, iv ch, iv q2, iv c2, iv n, .unset, .unset] [(.int 13), (.ref a9), (.ref a9)]))
  refine Way.by (fun _ k => XS.aload X592.here hx rfl (hb hby at_398) rfl rfl k) ?_
  show Way _ _ _ _ (T590.setTop (mkF m 400 #[iv p0, iv p1, iv p2, iv p3, iv p4, iv p5, iv b, rv bx, iv ln, iv o, iv q, iv ch, iv q2, iv c2, iv n, .unset, .unset] [(.ref bx), (.int 13), (.ref a9), (.ref a9)]))
  refine Way.by (fun _ k => XS.iload X592.here hx rfl (hb hby at_400) rfl k) ?_
  show Way _ _ _ _ (T590.setTop (mkF m 402 #[iv p0, iv p1, iv p2, iv p3, iv p4, iv p5, iv b, rv bx, iv ln, iv o, iv q, iv ch, iv q2, iv c2, iv n, .unset, .unset] [(.int o), (.ref bx), (.int 13), (.ref a9), (.ref a9)]))
  refine Way.by (fun _ k => XS.iload X592.here hx rfl (hb hby at_402) rfl k) ?_
  show Way _ _ _ _ (T590.setTop (mkF m 404 #[iv p0, iv p1, iv p2, iv p3, iv p4, iv p5, iv b, rv bx, iv ln, iv o, iv q, iv ch, iv q2, iv c2, iv n, .unset, .unset] [(.int q), (.int o), (.ref bx), (.int 13), (.ref a9), (.ref a9)]))
  refine Way.by (fun _ k => XS.iload X592.here hx rfl (hb hby at_404) rfl k) ?_
  show Way _ _ _ _ (T590.setTop (mkF m 406 #[iv p0, iv p1, iv p2, iv p3, iv p4, iv p5, iv b, rv bx, iv ln, iv o, iv q, iv ch, iv q2, iv c2, iv n, .unset, .unset] [(.int ch), (.int q), (.int o), (.ref bx), (.int 13), (.ref a9), (.ref a9)]))
  refine Way.by (fun _ k => XS.iload X592.here hx rfl (hb hby at_406) rfl k) ?_
  show Way _ _ _ _ (T590.setTop (mkF m 408 #[iv p0, iv p1, iv p2, iv p3, iv p4, iv p5, iv b, rv bx, iv ln, iv o, iv q, iv ch, iv q2, iv c2, iv n, .unset, .unset] [(.int q2), (.int ch), (.int q), (.int o), (.ref bx), (.int 13), (.ref a9), (.ref a9)]))
  refine Way.by (fun _ k => XS.iload X592.here hx rfl (hb hby at_408) rfl k) ?_
  show Way _ _ _ _ (T590.setTop (mkF m 410 #[iv p0, iv p1, iv p2, iv p3, iv p4, iv p5, iv b, rv bx, iv ln, iv o, iv q, iv ch, iv q2, iv c2, iv n, .unset, .unset] [(.int c2), (.int q2), (.int ch), (.int q), (.int o), (.ref bx), (.int 13), (.ref a9), (.ref a9)]))
  refine Way.by (fun _ k => XS.bipush X592.here hx rfl (hb hby at_410) k) ?_
  show Way _ _ _ _ (T590.setTop (mkF m 412 #[iv p0, iv p1, iv p2, iv p3, iv p4, iv p5, iv b, rv bx, iv ln, iv o, iv q, iv ch, iv q2, iv c2, iv n, .unset, .unset] [(.int 13), (.int c2), (.int q2), (.int ch), (.int q), (.int o), (.ref bx), (.int 13), (.ref a9), (.ref a9)]))
  obtain ⟨_, _, ⟨T607, L609, k610, n611⟩, -, X608, ⟨Lc612, hQ613, l614, y615, z616⟩, st617⟩ := Jvm.LawKit.callS X592 hx (y := (⟨"com/example/unbound_principals/unboundprincipals/AuthorizableKindOfNodeTypePinLaw", "at", "(Ljava/lang/String;IICICI)C"⟩ : MethodName)) hown (mvT hZ (tw hw 23 rfl)) (mvT hZ (tw hw 24 rfl)) (mvT hZ (tw hw 25 rfl)) (mvT hZ (tw hw 26 rfl)) (by decide) (backOf (W := 3) (rmAT l Z a0 hw [] bx bt cs o q ch q2 c2 (13 : Int32) h591 n0 Z604 S603 hch hc2 O606 SV) hZ (tw hw 26 rfl) (tw hw 25 rfl) (by decide) (by decide)) (g := (mkF m 412 #[iv p0, iv p1, iv p2, iv p3, iv p4, iv p5, iv b, rv bx, iv ln, iv o, iv q, iv ch, iv q2, iv c2, iv n, .unset, .unset] [(.int 13), (.int c2), (.int q2), (.int ch), (.int q), (.int o), (.ref bx), (.int 13), (.ref a9), (.ref a9)])) rfl (by rw [hml]; rfl) (argsL := [(.ref bx), (.int o), (.int q), (.int ch), (.int q2), (.int c2), (.int 13)]) (rest := [(.int 13), (.ref a9), (.ref a9)]) (lenOf pdAT rfl) rfl (leW rfl) (hb hby at_412) (fun _ _ => ⟨rfl, e593, (leB rfl), (leB rfl)⟩)
  dsimp only [Pt.U, Pt.locs, Pt.cells, Pt.slots] at X608 l614 y615 z616 st617 hQ613
  subst y615 z616
  obtain ⟨x_pv626, rfl, N623, e619, pu_OK625⟩ := hQ613
  have N618 : Fr n0 L609 := by rw [l614]; exact Fr.app N596 N623
  refine Way.by st617 ?_
  show Way _ _ _ _ (T607.setTop (mkF m 415 #[iv p0, iv p1, iv p2, iv p3, iv p4, iv p5, iv b, rv bx, iv ln, iv o, iv q, iv ch, iv q2, iv c2, iv n, .unset, .unset] [(.int x_pv626), (.int 13), (.ref a9), (.ref a9)]))
  have V627 : Arv Z h591 a9 kc3 .char (16 : Int32) [(.int x_pv41), (.int x_pv86), (.int x_pv131), (.int x_pv176), (.int x_pv221), (.int x_pv266), (.int x_pv311), (.int x_pv356), (.int x_pv401), (.int x_pv446), (.int x_pv491), (.int x_pv536), (.int x_pv581), (.int 0)] (.int 0) := V598.pad (pad_rep [(.int x_pv41), (.int x_pv86), (.int x_pv131), (.int x_pv176), (.int x_pv221), (.int x_pv266), (.int x_pv311), (.int x_pv356), (.int x_pv401), (.int x_pv446), (.int x_pv491), (.int x_pv536), (.int x_pv581)] (.int 0) 1)
  obtain ⟨c628, A629, q630, S631, M632, H633, U634⟩ := id V627
  obtain ⟨T635, h636, X637, e638, W639, st640⟩ := stC X608 hx hZ e619 A629 (j := (13 : Int32)) (inb_of S631 ⟨(by decide), (by decide)⟩) (g := (mkF m 415 #[iv p0, iv p1, iv p2, iv p3, iv p4, iv p5, iv b, rv bx, iv ln, iv o, iv q, iv ch, iv q2, iv c2, iv n, .unset, .unset] [(.int x_pv626), (.int 13), (.ref a9), (.ref a9)])) rfl rfl (hb hby at_415)
  have N641 := Fr.snoc X637 N618 nw14
  have V642 : Arv Z h636 a9 kc3 .char (16 : Int32) [(.int x_pv41), (.int x_pv86), (.int x_pv131), (.int x_pv176), (.int x_pv221), (.int x_pv266), (.int x_pv311), (.int x_pv356), (.int x_pv401), (.int x_pv446), (.int x_pv491), (.int x_pv536), (.int x_pv581), (.int (nar .char x_pv626))] (.int 0) := Arv.set A629 q630 S631 M632 H633 U634 (fits_nar_char _) W639 13 rfl (leB rfl)
  have nq644 : nar .char x_pv626 = x_pv626 := own_b.nar pu_OK625
  have V643 : Arv Z h636 a9 kc3 .char (16 : Int32) [(.int x_pv41), (.int x_pv86), (.int x_pv131), (.int x_pv176), (.int x_pv221), (.int x_pv266), (.int x_pv311), (.int x_pv356), (.int x_pv401), (.int x_pv446), (.int x_pv491), (.int x_pv536), (.int x_pv581), (.int x_pv626)] (.int 0) := by rw [nq644] at V642; exact V642
  have hr647 := CHr.wr W639 (Safe.arv hZ.alike V598 (by decide)) H600
  have H645 := hr647.1
  have CH646 := CH601.trans hr647
  have S648 := S603.other W639 ne12 ne13
  have Z649 : n0 ≤ h636.size := by rw [W639.size]; exact Z604
  have hk650 := Nat.le_trans hk605 (Nat.le_of_eq W639.size.symm)
  have O651 := O606.wr W639 nw14
  refine Way.by st640 ?_
  show Way _ _ _ _ (T635.setTop (mkF m 416 #[iv p0, iv p1, iv p2, iv p3, iv p4, iv p5, iv b, rv bx, iv ln, iv o, iv q, iv ch, iv q2, iv c2, iv n, .unset, .unset] [(.ref a9)]))
  try clear V598 H600 CH601 S603 Z604 hk605 O606 X608 N618 e619 V627 c628 A629 q630 S631 M632 H633 U634 W639 st640 V642 hr647
  try clear h591 T607
  refine Way.by (fun _ k => XS.dup X637.here hx rfl (hb hby at_416) rfl rfl k) ?_
  show Way _ _ _ _ (T635.setTop (mkF m 417 #[iv p0, iv p1, iv p2, iv p3, iv p4, iv p5, iv b, rv bx, iv ln, iv o, iv q, iv ch, iv q2, iv c2, iv n, .unset, .unset] [(.ref a9), (.ref a9)]))
  refine Way.by (fun _ k => XS.bipush X637.here hx rfl (hb hby at_417) k) ?_
  show Way _ _ _ _ (T635.setTop (mkF m 419 #[iv p0, iv p1, iv p2, iv p3, iv p4, iv p5, iv b, rv bx, iv ln, iv o, iv q, iv ch, iv q2, iv c2, iv n, .unset, .unset] [(.int 14), (.ref a9), (.ref a9)]))
  refine Way.by (fun _ k => XS.aload X637.here hx rfl (hb hby at_419) rfl rfl k) ?_
  show Way _ _ _ _ (T635.setTop (mkF m 421 #[iv p0, iv p1, iv p2, iv p3, iv p4, iv p5, iv b, rv bx, iv ln, iv o, iv q, iv ch, iv q2, iv c2, iv n, .unset, .unset] [(.ref bx), (.int 14), (.ref a9), (.ref a9)]))
  refine Way.by (fun _ k => XS.iload X637.here hx rfl (hb hby at_421) rfl k) ?_
  show Way _ _ _ _ (T635.setTop (mkF m 423 #[iv p0, iv p1, iv p2, iv p3, iv p4, iv p5, iv b, rv bx, iv ln, iv o, iv q, iv ch, iv q2, iv c2, iv n, .unset, .unset] [(.int o), (.ref bx), (.int 14), (.ref a9), (.ref a9)]))
  refine Way.by (fun _ k => XS.iload X637.here hx rfl (hb hby at_423) rfl k) ?_
  show Way _ _ _ _ (T635.setTop (mkF m 425 #[iv p0, iv p1, iv p2, iv p3, iv p4, iv p5, iv b, rv bx, iv ln, iv o, iv q, iv ch, iv q2, iv c2, iv n, .unset, .unset] [(.int q), (.int o), (.ref bx), (.int 14), (.ref a9), (.ref a9)]))
  refine Way.by (fun _ k => XS.iload X637.here hx rfl (hb hby at_425) rfl k) ?_
  show Way _ _ _ _ (T635.setTop (mkF m 427 #[iv p0, iv p1, iv p2, iv p3, iv p4, iv p5, iv b, rv bx, iv ln, iv o, iv q, iv ch, iv q2, iv c2, iv n, .unset, .unset] [(.int ch), (.int q), (.int o), (.ref bx), (.int 14), (.ref a9), (.ref a9)]))
  refine Way.by (fun _ k => XS.iload X637.here hx rfl (hb hby at_427) rfl k) ?_
  show Way _ _ _ _ (T635.setTop (mkF m 429 #[iv p0, iv p1, iv p2, iv p3, iv p4, iv p5, iv b, rv bx, iv ln, iv o, iv q, iv ch, iv q2, iv c2, iv n, .unset, .unset] [(.int q2), (.int ch), (.int q), (.int o), (.ref bx), (.int 14), (.ref a9), (.ref a9)]))
  refine Way.by (fun _ k => XS.iload X637.here hx rfl (hb hby at_429) rfl k) ?_
  show Way _ _ _ _ (T635.setTop (mkF m 431 #[iv p0, iv p1, iv p2, iv p3, iv p4, iv p5, iv b, rv bx, iv ln, iv o, iv q, iv ch, iv q2, iv c2, iv n, .unset, .unset] [(.int c2), (.int q2), (.int ch), (.int q), (.int o), (.ref bx), (.int 14), (.ref a9), (.ref a9)]))
  refine Way.by (fun _ k => XS.bipush X637.here hx rfl (hb hby at_431) k) ?_
  show Way _ _ _ _ (T635.setTop (mkF m 433 #[iv p0, iv p1, iv p2, iv p3, iv p4, iv p5, iv b, rv bx, iv ln, iv o, iv q, iv ch, iv q2, iv c2, iv n, .unset, .unset] [(.int 14), (.int c2), (.int q2), (.int ch), (.int q), (.int o), (.ref bx), (.int 14), (.ref a9), (.ref a9)]))
  obtain ⟨_, _, ⟨T652, L654, k655, n656⟩, -, X653, ⟨Lc657, hQ658, l659, y660, z661⟩, st662⟩ := Jvm.LawKit.callS X637 hx (y := (⟨"com/example/unbound_principals/unboundprincipals/AuthorizableKindOfNodeTypePinLaw", "at", "(Ljava/lang/String;IICICI)C"⟩ : MethodName)) hown (mvT hZ (tw hw 23 rfl)) (mvT hZ (tw hw 24 rfl)) (mvT hZ (tw hw 25 rfl)) (mvT hZ (tw hw 26 rfl)) (by decide) (backOf (W := 3) (rmAT l Z a0 hw [] bx bt cs o q ch q2 c2 (14 : Int32) h636 n0 Z649 S648 hch hc2 O651 SV) hZ (tw hw 26 rfl) (tw hw 25 rfl) (by decide) (by decide)) (g := (mkF m 433 #[iv p0, iv p1, iv p2, iv p3, iv p4, iv p5, iv b, rv bx, iv ln, iv o, iv q, iv ch, iv q2, iv c2, iv n, .unset, .unset] [(.int 14), (.int c2), (.int q2), (.int ch), (.int q), (.int o), (.ref bx), (.int 14), (.ref a9), (.ref a9)])) rfl (by rw [hml]; rfl) (argsL := [(.ref bx), (.int o), (.int q), (.int ch), (.int q2), (.int c2), (.int 14)]) (rest := [(.int 14), (.ref a9), (.ref a9)]) (lenOf pdAT rfl) rfl (leW rfl) (hb hby at_433) (fun _ _ => ⟨rfl, e638, (leB rfl), (leB rfl)⟩)
  dsimp only [Pt.U, Pt.locs, Pt.cells, Pt.slots] at X653 l659 y660 z661 st662 hQ658
  subst y660 z661
  obtain ⟨x_pv671, rfl, N668, e664, pu_OK670⟩ := hQ658
  have N663 : Fr n0 L654 := by rw [l659]; exact Fr.app N641 N668
  refine Way.by st662 ?_
  show Way _ _ _ _ (T652.setTop (mkF m 436 #[iv p0, iv p1, iv p2, iv p3, iv p4, iv p5, iv b, rv bx, iv ln, iv o, iv q, iv ch, iv q2, iv c2, iv n, .unset, .unset] [(.int x_pv671), (.int 14), (.ref a9), (.ref a9)]))
  have V672 : Arv Z h636 a9 kc3 .char (16 : Int32) [(.int x_pv41), (.int x_pv86), (.int x_pv131), (.int x_pv176), (.int x_pv221), (.int x_pv266), (.int x_pv311), (.int x_pv356), (.int x_pv401), (.int x_pv446), (.int x_pv491), (.int x_pv536), (.int x_pv581), (.int x_pv626), (.int 0)] (.int 0) := V643.pad (pad_rep [(.int x_pv41), (.int x_pv86), (.int x_pv131), (.int x_pv176), (.int x_pv221), (.int x_pv266), (.int x_pv311), (.int x_pv356), (.int x_pv401), (.int x_pv446), (.int x_pv491), (.int x_pv536), (.int x_pv581), (.int x_pv626)] (.int 0) 1)
  obtain ⟨c673, A674, q675, S676, M677, H678, U679⟩ := id V672
  obtain ⟨T680, h681, X682, e683, W684, st685⟩ := stC X653 hx hZ e664 A674 (j := (14 : Int32)) (inb_of S676 ⟨(by decide), (by decide)⟩) (g := (mkF m 436 #[iv p0, iv p1, iv p2, iv p3, iv p4, iv p5, iv b, rv bx, iv ln, iv o, iv q, iv ch, iv q2, iv c2, iv n, .unset, .unset] [(.int x_pv671), (.int 14), (.ref a9), (.ref a9)])) rfl rfl (hb hby at_436)
  have N686 := Fr.snoc X682 N663 nw14
  have V687 : Arv Z h681 a9 kc3 .char (16 : Int32) [(.int x_pv41), (.int x_pv86), (.int x_pv131), (.int x_pv176), (.int x_pv221), (.int x_pv266), (.int x_pv311), (.int x_pv356), (.int x_pv401), (.int x_pv446), (.int x_pv491), (.int x_pv536), (.int x_pv581), (.int x_pv626), (.int (nar .char x_pv671))] (.int 0) := Arv.set A674 q675 S676 M677 H678 U679 (fits_nar_char _) W684 14 rfl (leB rfl)
  have nq689 : nar .char x_pv671 = x_pv671 := own_b.nar pu_OK670
  have V688 : Arv Z h681 a9 kc3 .char (16 : Int32) [(.int x_pv41), (.int x_pv86), (.int x_pv131), (.int x_pv176), (.int x_pv221), (.int x_pv266), (.int x_pv311), (.int x_pv356), (.int x_pv401), (.int x_pv446), (.int x_pv491), (.int x_pv536), (.int x_pv581), (.int x_pv626), (.int x_pv671)] (.int 0) := by rw [nq689] at V687; exact V687
  have hr692 := CHr.wr W684 (Safe.arv hZ.alike V643 (by decide)) H645
  have H690 := hr692.1
  have CH691 := CH646.trans hr692
  have S693 := S648.other W684 ne12 ne13
  have Z694 : n0 ≤ h681.size := by rw [W684.size]; exact Z649
  have hk695 := Nat.le_trans hk650 (Nat.le_of_eq W684.size.symm)
  have O696 := O651.wr W684 nw14
  refine Way.by st685 ?_
  show Way _ _ _ _ (T680.setTop (mkF m 437 #[iv p0, iv p1, iv p2, iv p3, iv p4, iv p5, iv b, rv bx, iv ln, iv o, iv q, iv ch, iv q2, iv c2, iv n, .unset, .unset] [(.ref a9)]))
  try clear V643 H645 CH646 S648 Z649 hk650 O651 X653 N663 e664 V672 c673 A674 q675 S676 M677 H678 U679 W684 st685 V687 hr692
  try clear h636 T652
  refine Way.by (fun _ k => XS.dup X682.here hx rfl (hb hby at_437) rfl rfl k) ?_
  show Way _ _ _ _ (T680.setTop (mkF m 438 #[iv p0, iv p1, iv p2, iv p3, iv p4, iv p5, iv b, rv bx, iv ln, iv o, iv q, iv ch, iv q2, iv c2, iv n, .unset, .unset] [(.ref a9), (.ref a9)]))
  refine Way.by (fun _ k => XS.bipush X682.here hx rfl (hb hby at_438) k) ?_
  show Way _ _ _ _ (T680.setTop (mkF m 440 #[iv p0, iv p1, iv p2, iv p3, iv p4, iv p5, iv b, rv bx, iv ln, iv o, iv q, iv ch, iv q2, iv c2, iv n, .unset, .unset] [(.int 15), (.ref a9), (.ref a9)]))
  refine Way.by (fun _ k => XS.aload X682.here hx rfl (hb hby at_440) rfl rfl k) ?_
  show Way _ _ _ _ (T680.setTop (mkF m 442 #[iv p0, iv p1, iv p2, iv p3, iv p4, iv p5, iv b, rv bx, iv ln, iv o, iv q, iv ch, iv q2, iv c2, iv n, .unset, .unset] [(.ref bx), (.int 15), (.ref a9), (.ref a9)]))
  refine Way.by (fun _ k => XS.iload X682.here hx rfl (hb hby at_442) rfl k) ?_
  show Way _ _ _ _ (T680.setTop (mkF m 444 #[iv p0, iv p1, iv p2, iv p3, iv p4, iv p5, iv b, rv bx, iv ln, iv o, iv q, iv ch, iv q2, iv c2, iv n, .unset, .unset] [(.int o), (.ref bx), (.int 15), (.ref a9), (.ref a9)]))
  refine Way.by (fun _ k => XS.iload X682.here hx rfl (hb hby at_444) rfl k) ?_
  show Way _ _ _ _ (T680.setTop (mkF m 446 #[iv p0, iv p1, iv p2, iv p3, iv p4, iv p5, iv b, rv bx, iv ln, iv o, iv q, iv ch, iv q2, iv c2, iv n, .unset, .unset] [(.int q), (.int o), (.ref bx), (.int 15), (.ref a9), (.ref a9)]))
  refine Way.by (fun _ k => XS.iload X682.here hx rfl (hb hby at_446) rfl k) ?_
  show Way _ _ _ _ (T680.setTop (mkF m 448 #[iv p0, iv p1, iv p2, iv p3, iv p4, iv p5, iv b, rv bx, iv ln, iv o, iv q, iv ch, iv q2, iv c2, iv n, .unset, .unset] [(.int ch), (.int q), (.int o), (.ref bx), (.int 15), (.ref a9), (.ref a9)]))
  refine Way.by (fun _ k => XS.iload X682.here hx rfl (hb hby at_448) rfl k) ?_
  show Way _ _ _ _ (T680.setTop (mkF m 450 #[iv p0, iv p1, iv p2, iv p3, iv p4, iv p5, iv b, rv bx, iv ln, iv o, iv q, iv ch, iv q2, iv c2, iv n, .unset, .unset] [(.int q2), (.int ch), (.int q), (.int o), (.ref bx), (.int 15), (.ref a9), (.ref a9)]))
  refine Way.by (fun _ k => XS.iload X682.here hx rfl (hb hby at_450) rfl k) ?_
  show Way _ _ _ _ (T680.setTop (mkF m 452 #[iv p0, iv p1, iv p2, iv p3, iv p4, iv p5, iv b, rv bx, iv ln, iv o, iv q, iv ch, iv q2, iv c2, iv n, .unset, .unset] [(.int c2), (.int q2), (.int ch), (.int q), (.int o), (.ref bx), (.int 15), (.ref a9), (.ref a9)]))
  refine Way.by (fun _ k => XS.bipush X682.here hx rfl (hb hby at_452) k) ?_
  show Way _ _ _ _ (T680.setTop (mkF m 454 #[iv p0, iv p1, iv p2, iv p3, iv p4, iv p5, iv b, rv bx, iv ln, iv o, iv q, iv ch, iv q2, iv c2, iv n, .unset, .unset] [(.int 15), (.int c2), (.int q2), (.int ch), (.int q), (.int o), (.ref bx), (.int 15), (.ref a9), (.ref a9)]))
  obtain ⟨_, _, ⟨T697, L699, k700, n701⟩, -, X698, ⟨Lc702, hQ703, l704, y705, z706⟩, st707⟩ := Jvm.LawKit.callS X682 hx (y := (⟨"com/example/unbound_principals/unboundprincipals/AuthorizableKindOfNodeTypePinLaw", "at", "(Ljava/lang/String;IICICI)C"⟩ : MethodName)) hown (mvT hZ (tw hw 23 rfl)) (mvT hZ (tw hw 24 rfl)) (mvT hZ (tw hw 25 rfl)) (mvT hZ (tw hw 26 rfl)) (by decide) (backOf (W := 3) (rmAT l Z a0 hw [] bx bt cs o q ch q2 c2 (15 : Int32) h681 n0 Z694 S693 hch hc2 O696 SV) hZ (tw hw 26 rfl) (tw hw 25 rfl) (by decide) (by decide)) (g := (mkF m 454 #[iv p0, iv p1, iv p2, iv p3, iv p4, iv p5, iv b, rv bx, iv ln, iv o, iv q, iv ch, iv q2, iv c2, iv n, .unset, .unset] [(.int 15), (.int c2), (.int q2), (.int ch), (.int q), (.int o), (.ref bx), (.int 15), (.ref a9), (.ref a9)])) rfl (by rw [hml]; rfl) (argsL := [(.ref bx), (.int o), (.int q), (.int ch), (.int q2), (.int c2), (.int 15)]) (rest := [(.int 15), (.ref a9), (.ref a9)]) (lenOf pdAT rfl) rfl (leW rfl) (hb hby at_454) (fun _ _ => ⟨rfl, e683, (leB rfl), (leB rfl)⟩)
  dsimp only [Pt.U, Pt.locs, Pt.cells, Pt.slots] at X698 l704 y705 z706 st707 hQ703
  subst y705 z706
  obtain ⟨x_pv716, rfl, N713, e709, pu_OK715⟩ := hQ703
  have N708 : Fr n0 L699 := by rw [l704]; exact Fr.app N686 N713
  refine Way.by st707 ?_
  show Way _ _ _ _ (T697.setTop (mkF m 457 #[iv p0, iv p1, iv p2, iv p3, iv p4, iv p5, iv b, rv bx, iv ln, iv o, iv q, iv ch, iv q2, iv c2, iv n, .unset, .unset] [(.int x_pv716), (.int 15), (.ref a9), (.ref a9)]))
  have V717 : Arv Z h681 a9 kc3 .char (16 : Int32) [(.int x_pv41), (.int x_pv86), (.int x_pv131), (.int x_pv176), (.int x_pv221), (.int x_pv266), (.int x_pv311), (.int x_pv356), (.int x_pv401), (.int x_pv446), (.int x_pv491), (.int x_pv536), (.int x_pv581), (.int x_pv626), (.int x_pv671), (.int 0)] (.int 0) := V688.pad (pad_rep [(.int x_pv41), (.int x_pv86), (.int x_pv131), (.int x_pv176), (.int x_pv221), (.int x_pv266), (.int x_pv311), (.int x_pv356), (.int x_pv401), (.int x_pv446), (.int x_pv491), (.int x_pv536), (.int x_pv581), (.int x_pv626), (.int x_pv671)] (.int 0) 1)
  obtain ⟨c718, A719, q720, S721, M722, H723, U724⟩ := id V717
  obtain ⟨T725, h726, X727, e728, W729, st730⟩ := stC X698 hx hZ e709 A719 (j := (15 : Int32)) (inb_of S721 ⟨(by decide), (by decide)⟩) (g := (mkF m 457 #[iv p0, iv p1, iv p2, iv p3, iv p4, iv p5, iv b, rv bx, iv ln, iv o, iv q, iv ch, iv q2, iv c2, iv n, .unset, .unset] [(.int x_pv716), (.int 15), (.ref a9), (.ref a9)])) rfl rfl (hb hby at_457)
  have N731 := Fr.snoc X727 N708 nw14
  have V732 : Arv Z h726 a9 kc3 .char (16 : Int32) [(.int x_pv41), (.int x_pv86), (.int x_pv131), (.int x_pv176), (.int x_pv221), (.int x_pv266), (.int x_pv311), (.int x_pv356), (.int x_pv401), (.int x_pv446), (.int x_pv491), (.int x_pv536), (.int x_pv581), (.int x_pv626), (.int x_pv671), (.int (nar .char x_pv716))] (.int 0) := Arv.set A719 q720 S721 M722 H723 U724 (fits_nar_char _) W729 15 rfl (leB rfl)
  have nq734 : nar .char x_pv716 = x_pv716 := own_b.nar pu_OK715
  have V733 : Arv Z h726 a9 kc3 .char (16 : Int32) [(.int x_pv41), (.int x_pv86), (.int x_pv131), (.int x_pv176), (.int x_pv221), (.int x_pv266), (.int x_pv311), (.int x_pv356), (.int x_pv401), (.int x_pv446), (.int x_pv491), (.int x_pv536), (.int x_pv581), (.int x_pv626), (.int x_pv671), (.int x_pv716)] (.int 0) := by rw [nq734] at V732; exact V732
  have hr737 := CHr.wr W729 (Safe.arv hZ.alike V688 (by decide)) H690
  have H735 := hr737.1
  have CH736 := CH691.trans hr737
  have S738 := S693.other W729 ne12 ne13
  have Z739 : n0 ≤ h726.size := by rw [W729.size]; exact Z694
  have hk740 := Nat.le_trans hk695 (Nat.le_of_eq W729.size.symm)
  have O741 := O696.wr W729 nw14
  refine Way.by st730 ?_
  show Way _ _ _ _ (T725.setTop (mkF m 458 #[iv p0, iv p1, iv p2, iv p3, iv p4, iv p5, iv b, rv bx, iv ln, iv o, iv q, iv ch, iv q2, iv c2, iv n, .unset, .unset] [(.ref a9)]))
  try clear V688 H690 CH691 S693 Z694 hk695 O696 X698 N708 e709 V717 c718 A719 q720 S721 M722 H723 U724 W729 st730 V732 hr737
  try clear h681 T697
  refine Way.by (fun _ k => XS.astore X727.here hx rfl (hb hby at_458) rfl rfl (l' := #[iv p0, iv p1, iv p2, iv p3, iv p4, iv p5, iv b, rv bx, iv ln, iv o, iv q, iv ch, iv q2, iv c2, iv n, rv a9, .unset]) rfl k) ?_
  show Way _ _ _ _ (T725.setTop (mkF m 460 #[iv p0, iv p1, iv p2, iv p3, iv p4, iv p5, iv b, rv bx, iv ln, iv o, iv q, iv ch, iv q2, iv c2, iv n, rv a9, .unset] []))
  exact seg460 l Z a0 hw ws p0 p1 p2 p3 p4 p5 va kv uUSER uSYSTEM_USER uGROUP tUSER tUSERt tSYSTEM_USER tSYSTEM_USERt tGROUP tGROUPt h0 n0 Z0 O0 SV SVS EVA AVA EUSER FUSER TUSER ESYSTEM_USER FSYSTEM_USER TSYSTEM_USER EGROUP FGROUP TGROUP SUSER SSYSTEM_USER SGROUP p e s m below meth c s₁ Bd hml _ hZ hown _ hS hh T725 h726 _ (X727.mono (by decide) (by decide)) e728 N731 Z739 hk740 H735 CH736 O741 b bx ln o q ch q2 c2 n a9 kc3 x_pv41 x_pv86 x_pv131 x_pv176 x_pv221 x_pv266 x_pv311 x_pv356 x_pv401 x_pv446 x_pv491 x_pv536 x_pv581 x_pv626 x_pv671 x_pv716 V733 pu_OK40 pu_OK85 pu_OK130 pu_OK175 pu_OK220 pu_OK265 pu_OK310 pu_OK355 pu_OK400 pu_OK445 pu_OK490 pu_OK535 pu_OK580 pu_OK625 pu_OK670 pu_OK715 hn
theorem seg74 (l : Launch) (Z : State) (a0 : Array Value) (hw : ∀ d ∈ tables_1, d.before a0 Z = true) (ws : List Jvm.Cond) (p0 p1 p2 p3 p4 p5 : Int32) (va : Addr) (kv : ClassId) (uUSER uSYSTEM_USER uGROUP : Addr) (tUSER tUSERt tSYSTEM_USER tSYSTEM_USERt tGROUP tGROUPt : Addr) (h0 : Heap) (n0 : Nat) (Z0 : n0 ≤ h0.size) (O0 : Old Z n0 h0) (SV : own_Env Z) (SVS : Sta Z Z.heap "com/example/unbound_principals/unboundprincipals/AuthorizableKind" "$VALUES" "[Lcom/example/unbound_principals/unboundprincipals/AuthorizableKind;" (.ref va)) (EVA : Exa Z Z.heap va "[Lcom/example/unbound_principals/unboundprincipals/AuthorizableKind;") (AVA : Arv Z Z.heap va kv (.object "com/example/unbound_principals/unboundprincipals/AuthorizableKind") (3 : Int32) [(.ref uUSER), (.ref uSYSTEM_USER), (.ref uGROUP)] .null) (EUSER : Exa Z Z.heap uUSER "com/example/unbound_principals/unboundprincipals/AuthorizableKind") (FUSER : Fld Z Z.heap uUSER "com/example/unbound_principals/unboundprincipals/AuthorizableKind" "nodeType" "Ljava/lang/String;" (.ref tUSER)) (TUSER : own_Str Z Z.heap tUSER tUSERt [114, 101, 112, 58, 85, 115, 101, 114]) (ESYSTEM_USER : Exa Z Z.heap uSYSTEM_USER "com/example/unbound_principals/unboundprincipals/AuthorizableKind") (FSYSTEM_USER : Fld Z Z.heap uSYSTEM_USER "com/example/unbound_principals/unboundprincipals/AuthorizableKind" "nodeType" "Ljava/lang/String;" (.ref tSYSTEM_USER)) (TSYSTEM_USER : own_Str Z Z.heap tSYSTEM_USER tSYSTEM_USERt [114, 101, 112, 58, 83, 121, 115, 116, 101, 109, 85, 115, 101, 114]) (EGROUP : Exa Z Z.heap uGROUP "com/example/unbound_principals/unboundprincipals/AuthorizableKind") (FGROUP : Fld Z Z.heap uGROUP "com/example/unbound_principals/unboundprincipals/AuthorizableKind" "nodeType" "Ljava/lang/String;" (.ref tGROUP)) (TGROUP : own_Str Z Z.heap tGROUP tGROUPt [114, 101, 112, 58, 71, 114, 111, 117, 112]) (SUSER : Sta Z Z.heap "com/example/unbound_principals/unboundprincipals/AuthorizableKind" "USER" "Lcom/example/unbound_principals/unboundprincipals/AuthorizableKind;" (.ref uUSER)) (SSYSTEM_USER : Sta Z Z.heap "com/example/unbound_principals/unboundprincipals/AuthorizableKind" "SYSTEM_USER" "Lcom/example/unbound_principals/unboundprincipals/AuthorizableKind;" (.ref uSYSTEM_USER)) (SGROUP : Sta Z Z.heap "com/example/unbound_principals/unboundprincipals/AuthorizableKind" "GROUP" "Lcom/example/unbound_principals/unboundprincipals/AuthorizableKind;" (.ref uGROUP))
    (p : Program) (e : Env) (s : State) (m : MethodId) (below : List Frame) (meth : Method) (c : Code) (s₁ : State) (Bd : BodyLoose p l x (head1 (Jvm.Cond.code x code maxLocals ret :: ws) room_1) code maxLocals ret e s m #[(.int p0), (.int p1), (.int p2), (.int p3), (.int p4), (.int p5)] below meth c s₁) (hml : c.maxLocals = 17)
    (vm0 : Vm) (hZ : Z.Warmed39 (s.setVm vm0).vm) (hown : (s.setVm vm0).vm.findClass "com/example/unbound_principals/unboundprincipals/AuthorizableKindOfNodeTypePinLaw" = some m.cls) (k0 : Nat) (hS : s.Since vm0 k0) (hh : s.heap = h0)
    (T : State) (h : Heap) (locs : List Loc) (X : Stand p l e room_1 (s.setVm vm0) m #[(.int p0), (.int p1), (.int p2), (.int p3), (.int p4), (.int p5)] below meth c T locs 4 136) (eT : T.heap = h) (N : Fr n0 locs) (Zh : n0 ≤ h.size) (hk : k0 ≤ h.size) (H : CHv Z own_EL vm0 h) (CH : CHr Z own_EL s.vm h0 vm0 h) (O : Old Z n0 h) (b : Int32) (bx : Addr) (ln : Int32) (o : Int32) (q : Int32) (bt : Addr) (cs : List Int32) (J0 : own_Str Z h bx bt cs) (hln : ln = 8 ∨ ln = 14 ∨ ln = 9) :
    Way p.tables e below (KQH s Z own_EL (Q0 n0) room_1.cells room_1.slots) (T.setTop (mkF m 74 #[iv p0, iv p1, iv p2, iv p3, iv p4, iv p5, iv b, rv bx, iv ln, iv o, iv q, .unset, .unset, .unset, .unset, .unset, .unset] [])) := by
  have hx := Bd.exec
  have hby := Bd.bytes
  have hlk : meth.locks = false := BodyLoose.notSynchronized Bd
  have hnm := (name_of_methodNamed Bd.named Bd.method).1
  have wS : ∀ d ∈ Bundle.stringAtoms, d.before a0 Z = true := fun d hd => hw d (own_wS d hd)
  have hEL : EW Z a0 own_EL := own_EW hw
  have hnz : ln ≠ 0 := by rcases hln with rfl | rfl | rfl <;> decide
  refine Way.by (fun _ k => XS.iloadN X.here hx rfl (hb hby at_74) rfl k) ?_
  show Way _ _ _ _ (T.setTop (mkF m 75 #[iv p0, iv p1, iv p2, iv p3, iv p4, iv p5, iv b, rv bx, iv ln, iv o, iv q, .unset, .unset, .unset, .unset, .unset, .unset] [(.int p2)]))
  refine Way.by (fun _ k => XS.sipush X.here hx rfl (hb hby at_75) k) ?_
  show Way _ _ _ _ (T.setTop (mkF m 78 #[iv p0, iv p1, iv p2, iv p3, iv p4, iv p5, iv b, rv bx, iv ln, iv o, iv q, .unset, .unset, .unset, .unset, .unset, .unset] [(.int 255), (.int p2)]))
  refine Way.by (fun _ k => XS.iand X.here hx rfl (hb hby at_78) rfl k) ?_
  show Way _ _ _ _ (T.setTop (mkF m 79 #[iv p0, iv p1, iv p2, iv p3, iv p4, iv p5, iv b, rv bx, iv ln, iv o, iv q, .unset, .unset, .unset, .unset, .unset, .unset] [(.int (p2 &&& (255 : Int32)))]))
  refine Way.by (fun _ k => XT.i2c X.here hx rfl (hb hby at_79) rfl k) ?_
  show Way _ _ _ _ (T.setTop (mkF m 80 #[iv p0, iv p1, iv p2, iv p3, iv p4, iv p5, iv b, rv bx, iv ln, iv o, iv q, .unset, .unset, .unset, .unset, .unset, .unset] [(.int (p2 &&& (255 : Int32)).toUInt32.toUInt16.toUInt32.toInt32)]))
  refine Way.by (fun _ k => XS.istore X.here hx rfl (hb hby at_80) rfl (l' := #[iv p0, iv p1, iv p2, iv p3, iv p4, iv p5, iv b, rv bx, iv ln, iv o, iv q, iv (p2 &&& (255 : Int32)).toUInt32.toUInt16.toUInt32.toInt32, .unset, .unset, .unset, .unset, .unset]) rfl k) ?_
  show Way _ _ _ _ (T.setTop (mkF m 82 #[iv p0, iv p1, iv p2, iv p3, iv p4, iv p5, iv b, rv bx, iv ln, iv o, iv q, iv (p2 &&& (255 : Int32)).toUInt32.toUInt16.toUInt32.toInt32, .unset, .unset, .unset, .unset, .unset] []))
  refine Way.by (fun _ k => XS.iloadN X.here hx rfl (hb hby at_82) rfl k) ?_
  show Way _ _ _ _ (T.setTop (mkF m 83 #[iv p0, iv p1, iv p2, iv p3, iv p4, iv p5, iv b, rv bx, iv ln, iv o, iv q, iv (p2 &&& (255 : Int32)).toUInt32.toUInt16.toUInt32.toInt32, .unset, .unset, .unset, .unset, .unset] [(.int p3)]))
  refine Way.by (Stand.ldcInt X hx hown (mvT hZ (tw hw 0 rfl)) rfl (hb hby at_83)) ?_
  show Way _ _ _ _ (T.setTop (mkF m 85 #[iv p0, iv p1, iv p2, iv p3, iv p4, iv p5, iv b, rv bx, iv ln, iv o, iv q, iv (p2 &&& (255 : Int32)).toUInt32.toUInt16.toUInt32.toInt32, .unset, .unset, .unset, .unset, .unset] [(.int 2147483647), (.int p3)]))
  refine Way.by (fun _ k => XS.iand X.here hx rfl (hb hby at_85) rfl k) ?_
  show Way _ _ _ _ (T.setTop (mkF m 86 #[iv p0, iv p1, iv p2, iv p3, iv p4, iv p5, iv b, rv bx, iv ln, iv o, iv q, iv (p2 &&& (255 : Int32)).toUInt32.toUInt16.toUInt32.toInt32, .unset, .unset, .unset, .unset, .unset] [(.int (p3 &&& (2147483647 : Int32)))]))
  refine Way.by (fun _ k => XS.iload X.here hx rfl (hb hby at_86) rfl k) ?_
  show Way _ _ _ _ (T.setTop (mkF m 88 #[iv p0, iv p1, iv p2, iv p3, iv p4, iv p5, iv b, rv bx, iv ln, iv o, iv q, iv (p2 &&& (255 : Int32)).toUInt32.toUInt16.toUInt32.toInt32, .unset, .unset, .unset, .unset, .unset] [(.int ln), (.int (p3 &&& (2147483647 : Int32)))]))
  refine Way.by (fun _ k => iremM X hx rfl (hb hby at_88) rfl hnz k) ?_
  show Way _ _ _ _ (T.setTop (mkF m 89 #[iv p0, iv p1, iv p2, iv p3, iv p4, iv p5, iv b, rv bx, iv ln, iv o, iv q, iv (p2 &&& (255 : Int32)).toUInt32.toUInt16.toUInt32.toInt32, .unset, .unset, .unset, .unset, .unset] [(.int ((p3 &&& (2147483647 : Int32)) % ln))]))
  refine Way.by (fun _ k => XS.istore X.here hx rfl (hb hby at_89) rfl (l' := #[iv p0, iv p1, iv p2, iv p3, iv p4, iv p5, iv b, rv bx, iv ln, iv o, iv q, iv (p2 &&& (255 : Int32)).toUInt32.toUInt16.toUInt32.toInt32, iv ((p3 &&& (2147483647 : Int32)) % ln), .unset, .unset, .unset, .unset]) rfl k) ?_
  show Way _ _ _ _ (T.setTop (mkF m 91 #[iv p0, iv p1, iv p2, iv p3, iv p4, iv p5, iv b, rv bx, iv ln, iv o, iv q, iv (p2 &&& (255 : Int32)).toUInt32.toUInt16.toUInt32.toInt32, iv ((p3 &&& (2147483647 : Int32)) % ln), .unset, .unset, .unset, .unset] []))
  refine Way.by (fun _ k => XS.iload X.here hx rfl (hb hby at_91) rfl k) ?_
  show Way _ _ _ _ (T.setTop (mkF m 93 #[iv p0, iv p1, iv p2, iv p3, iv p4, iv p5, iv b, rv bx, iv ln, iv o, iv q, iv (p2 &&& (255 : Int32)).toUInt32.toUInt16.toUInt32.toInt32, iv ((p3 &&& (2147483647 : Int32)) % ln), .unset, .unset, .unset, .unset] [(.int p4)]))
  refine Way.by (fun _ k => XS.sipush X.here hx rfl (hb hby at_93) k) ?_
  show Way _ _ _ _ (T.setTop (mkF m 96 #[iv p0, iv p1, iv p2, iv p3, iv p4, iv p5, iv b, rv bx, iv ln, iv o, iv q, iv (p2 &&& (255 : Int32)).toUInt32.toUInt16.toUInt32.toInt32, iv ((p3 &&& (2147483647 : Int32)) % ln), .unset, .unset, .unset, .unset] [(.int 255), (.int p4)]))
  refine Way.by (fun _ k => XS.iand X.here hx rfl (hb hby at_96) rfl k) ?_
  show Way _ _ _ _ (T.setTop (mkF m 97 #[iv p0, iv p1, iv p2, iv p3, iv p4, iv p5, iv b, rv bx, iv ln, iv o, iv q, iv (p2 &&& (255 : Int32)).toUInt32.toUInt16.toUInt32.toInt32, iv ((p3 &&& (2147483647 : Int32)) % ln), .unset, .unset, .unset, .unset] [(.int (p4 &&& (255 : Int32)))]))
  refine Way.by (fun _ k => XT.i2c X.here hx rfl (hb hby at_97) rfl k) ?_
  show Way _ _ _ _ (T.setTop (mkF m 98 #[iv p0, iv p1, iv p2, iv p3, iv p4, iv p5, iv b, rv bx, iv ln, iv o, iv q, iv (p2 &&& (255 : Int32)).toUInt32.toUInt16.toUInt32.toInt32, iv ((p3 &&& (2147483647 : Int32)) % ln), .unset, .unset, .unset, .unset] [(.int (p4 &&& (255 : Int32)).toUInt32.toUInt16.toUInt32.toInt32)]))
  refine Way.by (fun _ k => XS.istore X.here hx rfl (hb hby at_98) rfl (l' := #[iv p0, iv p1, iv p2, iv p3, iv p4, iv p5, iv b, rv bx, iv ln, iv o, iv q, iv (p2 &&& (255 : Int32)).toUInt32.toUInt16.toUInt32.toInt32, iv ((p3 &&& (2147483647 : Int32)) % ln), iv (p4 &&& (255 : Int32)).toUInt32.toUInt16.toUInt32.toInt32, .unset, .unset, .unset]) rfl k) ?_
  show Way _ _ _ _ (T.setTop (mkF m 100 #[iv p0, iv p1, iv p2, iv p3, iv p4, iv p5, iv b, rv bx, iv ln, iv o, iv q, iv (p2 &&& (255 : Int32)).toUInt32.toUInt16.toUInt32.toInt32, iv ((p3 &&& (2147483647 : Int32)) % ln), iv (p4 &&& (255 : Int32)).toUInt32.toUInt16.toUInt32.toInt32, .unset, .unset, .unset] []))
  refine Way.by (fun _ k => XS.iload X.here hx rfl (hb hby at_100) rfl k) ?_
  show Way _ _ _ _ (T.setTop (mkF m 102 #[iv p0, iv p1, iv p2, iv p3, iv p4, iv p5, iv b, rv bx, iv ln, iv o, iv q, iv (p2 &&& (255 : Int32)).toUInt32.toUInt16.toUInt32.toInt32, iv ((p3 &&& (2147483647 : Int32)) % ln), iv (p4 &&& (255 : Int32)).toUInt32.toUInt16.toUInt32.toInt32, .unset, .unset, .unset] [(.int o)]))
  refine Way.by (fun _ k => XS.iconst X.here hx rfl (hb hby at_102) k) ?_
  show Way _ _ _ _ (T.setTop (mkF m 103 #[iv p0, iv p1, iv p2, iv p3, iv p4, iv p5, iv b, rv bx, iv ln, iv o, iv q, iv (p2 &&& (255 : Int32)).toUInt32.toUInt16.toUInt32.toInt32, iv ((p3 &&& (2147483647 : Int32)) % ln), iv (p4 &&& (255 : Int32)).toUInt32.toUInt16.toUInt32.toInt32, .unset, .unset, .unset] [(.int 2), (.int o)]))
  by_cases b1 : o = (2 : Int32)
  · skip
    refine Way.by (fun _ k => XS.icmpNo X.here hx rfl (hb hby at_103) rfl (teq b1).2 k) ?_
    show Way _ _ _ _ (T.setTop (mkF m 106 #[iv p0, iv p1, iv p2, iv p3, iv p4, iv p5, iv b, rv bx, iv ln, iv o, iv q, iv (p2 &&& (255 : Int32)).toUInt32.toUInt16.toUInt32.toInt32, iv ((p3 &&& (2147483647 : Int32)) % ln), iv (p4 &&& (255 : Int32)).toUInt32.toUInt16.toUInt32.toInt32, .unset, .unset, .unset] []))
    refine Way.by (fun _ k => XS.iload X.here hx rfl (hb hby at_106) rfl k) ?_
    show Way _ _ _ _ (T.setTop (mkF m 108 #[iv p0, iv p1, iv p2, iv p3, iv p4, iv p5, iv b, rv bx, iv ln, iv o, iv q, iv (p2 &&& (255 : Int32)).toUInt32.toUInt16.toUInt32.toInt32, iv ((p3 &&& (2147483647 : Int32)) % ln), iv (p4 &&& (255 : Int32)).toUInt32.toUInt16.toUInt32.toInt32, .unset, .unset, .unset] [(.int ln)]))
    refine Way.by (fun _ k => XS.iconst X.here hx rfl (hb hby at_108) k) ?_
    show Way _ _ _ _ (T.setTop (mkF m 109 #[iv p0, iv p1, iv p2, iv p3, iv p4, iv p5, iv b, rv bx, iv ln, iv o, iv q, iv (p2 &&& (255 : Int32)).toUInt32.toUInt16.toUInt32.toInt32, iv ((p3 &&& (2147483647 : Int32)) % ln), iv (p4 &&& (255 : Int32)).toUInt32.toUInt16.toUInt32.toInt32, .unset, .unset, .unset] [(.int 1), (.int ln)]))
    refine Way.by (fun _ k => XS.isub X.here hx rfl (hb hby at_109) rfl k) ?_
    show Way _ _ _ _ (T.setTop (mkF m 110 #[iv p0, iv p1, iv p2, iv p3, iv p4, iv p5, iv b, rv bx, iv ln, iv o, iv q, iv (p2 &&& (255 : Int32)).toUInt32.toUInt16.toUInt32.toInt32, iv ((p3 &&& (2147483647 : Int32)) % ln), iv (p4 &&& (255 : Int32)).toUInt32.toUInt16.toUInt32.toInt32, .unset, .unset, .unset] [(.int (ln - (1 : Int32)))]))
    refine Way.by (fun _ k => XS.goto X.here hx rfl (pc0 := 110) (pc' := 128) rfl (hb hby at_110) (by decide) (by decide) k) ?_
    show Way _ _ _ _ (T.setTop (mkF m 128 #[iv p0, iv p1, iv p2, iv p3, iv p4, iv p5, iv b, rv bx, iv ln, iv o, iv q, iv (p2 &&& (255 : Int32)).toUInt32.toUInt16.toUInt32.toInt32, iv ((p3 &&& (2147483647 : Int32)) % ln), iv (p4 &&& (255 : Int32)).toUInt32.toUInt16.toUInt32.toInt32, .unset, .unset, .unset] [(.int (ln - (1 : Int32)))]))
    have hn : (ln - (1 : Int32)) = 7 ∨ (ln - (1 : Int32)) = 8 ∨ (ln - (1 : Int32)) = 9 ∨ (ln - (1 : Int32)) = 10 ∨ (ln - (1 : Int32)) = 13 ∨ (ln - (1 : Int32)) = 14 ∨ (ln - (1 : Int32)) = 15 := by rcases hln with rfl | rfl | rfl <;> decide
    refine Way.by (fun _ k => XS.istore X.here hx rfl (hb hby at_128) rfl (l' := #[iv p0, iv p1, iv p2, iv p3, iv p4, iv p5, iv b, rv bx, iv ln, iv o, iv q, iv (p2 &&& (255 : Int32)).toUInt32.toUInt16.toUInt32.toInt32, iv ((p3 &&& (2147483647 : Int32)) % ln), iv (p4 &&& (255 : Int32)).toUInt32.toUInt16.toUInt32.toInt32, iv (ln - (1 : Int32)), .unset, .unset]) rfl k) ?_
    show Way _ _ _ _ (T.setTop (mkF m 130 #[iv p0, iv p1, iv p2, iv p3, iv p4, iv p5, iv b, rv bx, iv ln, iv o, iv q, iv (p2 &&& (255 : Int32)).toUInt32.toUInt16.toUInt32.toInt32, iv ((p3 &&& (2147483647 : Int32)) % ln), iv (p4 &&& (255 : Int32)).toUInt32.toUInt16.toUInt32.toInt32, iv (ln - (1 : Int32)), .unset, .unset] []))
    exact seg130 l Z a0 hw ws p0 p1 p2 p3 p4 p5 va kv uUSER uSYSTEM_USER uGROUP tUSER tUSERt tSYSTEM_USER tSYSTEM_USERt tGROUP tGROUPt h0 n0 Z0 O0 SV SVS EVA AVA EUSER FUSER TUSER ESYSTEM_USER FSYSTEM_USER TSYSTEM_USER EGROUP FGROUP TGROUP SUSER SSYSTEM_USER SGROUP p e s m below meth c s₁ Bd hml _ hZ hown _ hS hh T h _ X eT N Zh hk H CH O b bx ln o q (p2 &&& (255 : Int32)).toUInt32.toUInt16.toUInt32.toInt32 ((p3 &&& (2147483647 : Int32)) % ln) (p4 &&& (255 : Int32)).toUInt32.toUInt16.toUInt32.toInt32 (ln - (1 : Int32)) bt cs J0 (own_b255 p2) (own_b255 p4) hn
  · skip
    refine Way.by (fun _ k => XS.icmpYes X.here hx rfl (pc0 := 103) (pc' := 113) rfl (hb hby at_103) rfl (feq b1).2 (by decide) (by decide) k) ?_
    show Way _ _ _ _ (T.setTop (mkF m 113 #[iv p0, iv p1, iv p2, iv p3, iv p4, iv p5, iv b, rv bx, iv ln, iv o, iv q, iv (p2 &&& (255 : Int32)).toUInt32.toUInt16.toUInt32.toInt32, iv ((p3 &&& (2147483647 : Int32)) % ln), iv (p4 &&& (255 : Int32)).toUInt32.toUInt16.toUInt32.toInt32, .unset, .unset, .unset] []))
    refine Way.by (fun _ k => XS.iload X.here hx rfl (hb hby at_113) rfl k) ?_
    show Way _ _ _ _ (T.setTop (mkF m 115 #[iv p0, iv p1, iv p2, iv p3, iv p4, iv p5, iv b, rv bx, iv ln, iv o, iv q, iv (p2 &&& (255 : Int32)).toUInt32.toUInt16.toUInt32.toInt32, iv ((p3 &&& (2147483647 : Int32)) % ln), iv (p4 &&& (255 : Int32)).toUInt32.toUInt16.toUInt32.toInt32, .unset, .unset, .unset] [(.int o)]))
    refine Way.by (fun _ k => XS.iconst X.here hx rfl (hb hby at_115) k) ?_
    show Way _ _ _ _ (T.setTop (mkF m 116 #[iv p0, iv p1, iv p2, iv p3, iv p4, iv p5, iv b, rv bx, iv ln, iv o, iv q, iv (p2 &&& (255 : Int32)).toUInt32.toUInt16.toUInt32.toInt32, iv ((p3 &&& (2147483647 : Int32)) % ln), iv (p4 &&& (255 : Int32)).toUInt32.toUInt16.toUInt32.toInt32, .unset, .unset, .unset] [(.int 3), (.int o)]))
    by_cases b2 : o = (3 : Int32)
    · skip
      refine Way.by (fun _ k => XS.icmpNo X.here hx rfl (hb hby at_116) rfl (teq b2).2 k) ?_
      show Way _ _ _ _ (T.setTop (mkF m 119 #[iv p0, iv p1, iv p2, iv p3, iv p4, iv p5, iv b, rv bx, iv ln, iv o, iv q, iv (p2 &&& (255 : Int32)).toUInt32.toUInt16.toUInt32.toInt32, iv ((p3 &&& (2147483647 : Int32)) % ln), iv (p4 &&& (255 : Int32)).toUInt32.toUInt16.toUInt32.toInt32, .unset, .unset, .unset] []))
      refine Way.by (fun _ k => XS.iload X.here hx rfl (hb hby at_119) rfl k) ?_
      show Way _ _ _ _ (T.setTop (mkF m 121 #[iv p0, iv p1, iv p2, iv p3, iv p4, iv p5, iv b, rv bx, iv ln, iv o, iv q, iv (p2 &&& (255 : Int32)).toUInt32.toUInt16.toUInt32.toInt32, iv ((p3 &&& (2147483647 : Int32)) % ln), iv (p4 &&& (255 : Int32)).toUInt32.toUInt16.toUInt32.toInt32, .unset, .unset, .unset] [(.int ln)]))
      refine Way.by (fun _ k => XS.iconst X.here hx rfl (hb hby at_121) k) ?_
      show Way _ _ _ _ (T.setTop (mkF m 122 #[iv p0, iv p1, iv p2, iv p3, iv p4, iv p5, iv b, rv bx, iv ln, iv o, iv q, iv (p2 &&& (255 : Int32)).toUInt32.toUInt16.toUInt32.toInt32, iv ((p3 &&& (2147483647 : Int32)) % ln), iv (p4 &&& (255 : Int32)).toUInt32.toUInt16.toUInt32.toInt32, .unset, .unset, .unset] [(.int 1), (.int ln)]))
      refine Way.by (fun _ k => XS.iadd X.here hx rfl (hb hby at_122) rfl k) ?_
      show Way _ _ _ _ (T.setTop (mkF m 123 #[iv p0, iv p1, iv p2, iv p3, iv p4, iv p5, iv b, rv bx, iv ln, iv o, iv q, iv (p2 &&& (255 : Int32)).toUInt32.toUInt16.toUInt32.toInt32, iv ((p3 &&& (2147483647 : Int32)) % ln), iv (p4 &&& (255 : Int32)).toUInt32.toUInt16.toUInt32.toInt32, .unset, .unset, .unset] [(.int (ln + (1 : Int32)))]))
      refine Way.by (fun _ k => XS.goto X.here hx rfl (pc0 := 123) (pc' := 128) rfl (hb hby at_123) (by decide) (by decide) k) ?_
      show Way _ _ _ _ (T.setTop (mkF m 128 #[iv p0, iv p1, iv p2, iv p3, iv p4, iv p5, iv b, rv bx, iv ln, iv o, iv q, iv (p2 &&& (255 : Int32)).toUInt32.toUInt16.toUInt32.toInt32, iv ((p3 &&& (2147483647 : Int32)) % ln), iv (p4 &&& (255 : Int32)).toUInt32.toUInt16.toUInt32.toInt32, .unset, .unset, .unset] [(.int (ln + (1 : Int32)))]))
      have hn : (ln + (1 : Int32)) = 7 ∨ (ln + (1 : Int32)) = 8 ∨ (ln + (1 : Int32)) = 9 ∨ (ln + (1 : Int32)) = 10 ∨ (ln + (1 : Int32)) = 13 ∨ (ln + (1 : Int32)) = 14 ∨ (ln + (1 : Int32)) = 15 := by rcases hln with rfl | rfl | rfl <;> decide
      refine Way.by (fun _ k => XS.istore X.here hx rfl (hb hby at_128) rfl (l' := #[iv p0, iv p1, iv p2, iv p3, iv p4, iv p5, iv b, rv bx, iv ln, iv o, iv q, iv (p2 &&& (255 : Int32)).toUInt32.toUInt16.toUInt32.toInt32, iv ((p3 &&& (2147483647 : Int32)) % ln), iv (p4 &&& (255 : Int32)).toUInt32.toUInt16.toUInt32.toInt32, iv (ln + (1 : Int32)), .unset, .unset]) rfl k) ?_
      show Way _ _ _ _ (T.setTop (mkF m 130 #[iv p0, iv p1, iv p2, iv p3, iv p4, iv p5, iv b, rv bx, iv ln, iv o, iv q, iv (p2 &&& (255 : Int32)).toUInt32.toUInt16.toUInt32.toInt32, iv ((p3 &&& (2147483647 : Int32)) % ln), iv (p4 &&& (255 : Int32)).toUInt32.toUInt16.toUInt32.toInt32, iv (ln + (1 : Int32)), .unset, .unset] []))
      exact seg130 l Z a0 hw ws p0 p1 p2 p3 p4 p5 va kv uUSER uSYSTEM_USER uGROUP tUSER tUSERt tSYSTEM_USER tSYSTEM_USERt tGROUP tGROUPt h0 n0 Z0 O0 SV SVS EVA AVA EUSER FUSER TUSER ESYSTEM_USER FSYSTEM_USER TSYSTEM_USER EGROUP FGROUP TGROUP SUSER SSYSTEM_USER SGROUP p e s m below meth c s₁ Bd hml _ hZ hown _ hS hh T h _ X eT N Zh hk H CH O b bx ln o q (p2 &&& (255 : Int32)).toUInt32.toUInt16.toUInt32.toInt32 ((p3 &&& (2147483647 : Int32)) % ln) (p4 &&& (255 : Int32)).toUInt32.toUInt16.toUInt32.toInt32 (ln + (1 : Int32)) bt cs J0 (own_b255 p2) (own_b255 p4) hn
    · skip
      refine Way.by (fun _ k => XS.icmpYes X.here hx rfl (pc0 := 116) (pc' := 126) rfl (hb hby at_116) rfl (feq b2).2 (by decide) (by decide) k) ?_
      show Way _ _ _ _ (T.setTop (mkF m 126 #[iv p0, iv p1, iv p2, iv p3, iv p4, iv p5, iv b, rv bx, iv ln, iv o, iv q, iv (p2 &&& (255 : Int32)).toUInt32.toUInt16.toUInt32.toInt32, iv ((p3 &&& (2147483647 : Int32)) % ln), iv (p4 &&& (255 : Int32)).toUInt32.toUInt16.toUInt32.toInt32, .unset, .unset, .unset] []))
      refine Way.by (fun _ k => XS.iload X.here hx rfl (hb hby at_126) rfl k) ?_
      show Way _ _ _ _ (T.setTop (mkF m 128 #[iv p0, iv p1, iv p2, iv p3, iv p4, iv p5, iv b, rv bx, iv ln, iv o, iv q, iv (p2 &&& (255 : Int32)).toUInt32.toUInt16.toUInt32.toInt32, iv ((p3 &&& (2147483647 : Int32)) % ln), iv (p4 &&& (255 : Int32)).toUInt32.toUInt16.toUInt32.toInt32, .unset, .unset, .unset] [(.int ln)]))
      have hn : ln = 7 ∨ ln = 8 ∨ ln = 9 ∨ ln = 10 ∨ ln = 13 ∨ ln = 14 ∨ ln = 15 := by rcases hln with rfl | rfl | rfl <;> decide
      refine Way.by (fun _ k => XS.istore X.here hx rfl (hb hby at_128) rfl (l' := #[iv p0, iv p1, iv p2, iv p3, iv p4, iv p5, iv b, rv bx, iv ln, iv o, iv q, iv (p2 &&& (255 : Int32)).toUInt32.toUInt16.toUInt32.toInt32, iv ((p3 &&& (2147483647 : Int32)) % ln), iv (p4 &&& (255 : Int32)).toUInt32.toUInt16.toUInt32.toInt32, iv ln, .unset, .unset]) rfl k) ?_
      show Way _ _ _ _ (T.setTop (mkF m 130 #[iv p0, iv p1, iv p2, iv p3, iv p4, iv p5, iv b, rv bx, iv ln, iv o, iv q, iv (p2 &&& (255 : Int32)).toUInt32.toUInt16.toUInt32.toInt32, iv ((p3 &&& (2147483647 : Int32)) % ln), iv (p4 &&& (255 : Int32)).toUInt32.toUInt16.toUInt32.toInt32, iv ln, .unset, .unset] []))
      exact seg130 l Z a0 hw ws p0 p1 p2 p3 p4 p5 va kv uUSER uSYSTEM_USER uGROUP tUSER tUSERt tSYSTEM_USER tSYSTEM_USERt tGROUP tGROUPt h0 n0 Z0 O0 SV SVS EVA AVA EUSER FUSER TUSER ESYSTEM_USER FSYSTEM_USER TSYSTEM_USER EGROUP FGROUP TGROUP SUSER SSYSTEM_USER SGROUP p e s m below meth c s₁ Bd hml _ hZ hown _ hS hh T h _ X eT N Zh hk H CH O b bx ln o q (p2 &&& (255 : Int32)).toUInt32.toUInt16.toUInt32.toInt32 ((p3 &&& (2147483647 : Int32)) % ln) (p4 &&& (255 : Int32)).toUInt32.toUInt16.toUInt32.toInt32 ln bt cs J0 (own_b255 p2) (own_b255 p4) hn
theorem pd0 : parseMethodDescriptor "(IIIIII)Z" = some ⟨[.int, .int, .int, .int, .int, .int], some .boolean⟩ := by decide +kernel
theorem rm0 (l : Launch) (Z : State) (a0 : Array Value) (hw : ∀ d ∈ tables_1, d.before a0 Z = true) (ws : List Jvm.Cond) (p0 p1 p2 p3 p4 p5 : Int32) (va : Addr) (kv : ClassId) (uUSER uSYSTEM_USER uGROUP : Addr) (tUSER tUSERt tSYSTEM_USER tSYSTEM_USERt tGROUP tGROUPt : Addr) (h0 : Heap) (n0 : Nat) (Z0 : n0 ≤ h0.size) (O0 : Old Z n0 h0) (SV : own_Env Z) (SVS : Sta Z Z.heap "com/example/unbound_principals/unboundprincipals/AuthorizableKind" "$VALUES" "[Lcom/example/unbound_principals/unboundprincipals/AuthorizableKind;" (.ref va)) (EVA : Exa Z Z.heap va "[Lcom/example/unbound_principals/unboundprincipals/AuthorizableKind;") (AVA : Arv Z Z.heap va kv (.object "com/example/unbound_principals/unboundprincipals/AuthorizableKind") (3 : Int32) [(.ref uUSER), (.ref uSYSTEM_USER), (.ref uGROUP)] .null) (EUSER : Exa Z Z.heap uUSER "com/example/unbound_principals/unboundprincipals/AuthorizableKind") (FUSER : Fld Z Z.heap uUSER "com/example/unbound_principals/unboundprincipals/AuthorizableKind" "nodeType" "Ljava/lang/String;" (.ref tUSER)) (TUSER : own_Str Z Z.heap tUSER tUSERt [114, 101, 112, 58, 85, 115, 101, 114]) (ESYSTEM_USER : Exa Z Z.heap uSYSTEM_USER "com/example/unbound_principals/unboundprincipals/AuthorizableKind") (FSYSTEM_USER : Fld Z Z.heap uSYSTEM_USER "com/example/unbound_principals/unboundprincipals/AuthorizableKind" "nodeType" "Ljava/lang/String;" (.ref tSYSTEM_USER)) (TSYSTEM_USER : own_Str Z Z.heap tSYSTEM_USER tSYSTEM_USERt [114, 101, 112, 58, 83, 121, 115, 116, 101, 109, 85, 115, 101, 114]) (EGROUP : Exa Z Z.heap uGROUP "com/example/unbound_principals/unboundprincipals/AuthorizableKind") (FGROUP : Fld Z Z.heap uGROUP "com/example/unbound_principals/unboundprincipals/AuthorizableKind" "nodeType" "Ljava/lang/String;" (.ref tGROUP)) (TGROUP : own_Str Z Z.heap tGROUP tGROUPt [114, 101, 112, 58, 71, 114, 111, 117, 112]) (SUSER : Sta Z Z.heap "com/example/unbound_principals/unboundprincipals/AuthorizableKind" "USER" "Lcom/example/unbound_principals/unboundprincipals/AuthorizableKind;" (.ref uUSER)) (SSYSTEM_USER : Sta Z Z.heap "com/example/unbound_principals/unboundprincipals/AuthorizableKind" "SYSTEM_USER" "Lcom/example/unbound_principals/unboundprincipals/AuthorizableKind;" (.ref uSYSTEM_USER)) (SGROUP : Sta Z Z.heap "com/example/unbound_principals/unboundprincipals/AuthorizableKind" "GROUP" "Lcom/example/unbound_principals/unboundprincipals/AuthorizableKind;" (.ref uGROUP)) :
    MetFree l x (head1 (Jvm.Cond.code x code maxLocals ret :: ws) room_1) (fun aa U => aa = #[(.int p0), (.int p1), (.int p2), (.int p3), (.int p4), (.int p5)] ∧ Z.Warmed39 U.vm ∧ U.heap = h0 ∧ CHv Z own_EL U.vm h0) (fun _ _ _ _ _ => True) (fun _ U oo U' => ∃ v L, oo = .returned v ∧ Q0 n0 v U'.heap L ∧ CHr Z own_EL U.vm U.heap U'.vm U'.heap ∧ ReturnedEndW U oo U' L room_1.cells room_1.slots) := by
  refine MetFree.of_bodySF (plainFor_of_name pnGE) hisR ?_
  intro p e s m args below meth c s₁ Bd hml0 hP hK
  obtain ⟨rfl, hZ, hh, HV0⟩ := hP
  have hx := Bd.exec
  have hby := Bd.bytes
  have hlk : meth.locks = false := BodyLoose.notSynchronized Bd
  have hml : c.maxLocals = 17 := hml0
  have hown : s.vm.findClass "com/example/unbound_principals/unboundprincipals/AuthorizableKindOfNodeTypePinLaw" = some m.cls := findClass_of_methodNamed Bd.named
  have hnm := (name_of_methodNamed Bd.named Bd.method).1
  have X0 : Stand p l e room_1 s m #[(.int p0), (.int p1), (.int p2), (.int p3), (.int p4), (.int p5)] below meth c s₁ [] 0 0 := Stand.of_body Bd
  have e0 : s₁.heap = h0 := by rw [← hh, Bd.state]; rfl
  have N0 := Fr.nil n0
  have ef : entryFrame m #[(.int p0), (.int p1), (.int p2), (.int p3), (.int p4), (.int p5)] maxLocals = mkF m 0 #[iv p0, iv p1, iv p2, iv p3, iv p4, iv p5, .unset, .unset, .unset, .unset, .unset, .unset, .unset, .unset, .unset, .unset, .unset] [] := by first | (simp [entryFrame, mkF, argsToLocals, Value.category, maxLocals]; done) | rfl
  have XW : Stand p l e room_1 (s.setVm s.vm) m #[(.int p0), (.int p1), (.int p2), (.int p3), (.int p4), (.int p5)] below meth c s₁ [] 0 0 := X0
  have hS0 : s.Since s.vm 0 := (State.WarmedH.refl s).since 0
  have hZ0 : Z.Warmed39 (s.setVm s.vm).vm := hZ
  have hown0 : (s.setVm s.vm).vm.findClass "com/example/unbound_principals/unboundprincipals/AuthorizableKindOfNodeTypePinLaw" = some m.cls := hown
  have wS : ∀ d ∈ Bundle.stringAtoms, d.before a0 Z = true := fun d hd => hw d (own_wS d hd)
  have hEL : EW Z a0 own_EL := own_EW hw
  have CH0 : CHr Z own_EL s.vm h0 s.vm h0 := CHr.refl HV0
  show Way p.tables e below (KQH s Z own_EL (Q0 n0) room_1.cells room_1.slots) (s₁.setTop (entryFrame m #[(.int p0), (.int p1), (.int p2), (.int p3), (.int p4), (.int p5)] maxLocals))
  rw [ef]
  refine Way.by (fun _ k => XS.iload XW.here hx rfl (hb hby at_0) rfl k) ?_
  show Way _ _ _ _ (s₁.setTop (mkF m 2 #[iv p0, iv p1, iv p2, iv p3, iv p4, iv p5, .unset, .unset, .unset, .unset, .unset, .unset, .unset, .unset, .unset, .unset, .unset] [(.int p5)]))
  refine Way.by (Stand.ldcInt XW hx hown0 (mvT hZ0 (tw hw 0 rfl)) rfl (hb hby at_2)) ?_
  show Way _ _ _ _ (s₁.setTop (mkF m 4 #[iv p0, iv p1, iv p2, iv p3, iv p4, iv p5, .unset, .unset, .unset, .unset, .unset, .unset, .unset, .unset, .unset, .unset, .unset] [(.int 2147483647), (.int p5)]))
  refine Way.by (fun _ k => XS.iand XW.here hx rfl (hb hby at_4) rfl k) ?_
  show Way _ _ _ _ (s₁.setTop (mkF m 5 #[iv p0, iv p1, iv p2, iv p3, iv p4, iv p5, .unset, .unset, .unset, .unset, .unset, .unset, .unset, .unset, .unset, .unset, .unset] [(.int (p5 &&& (2147483647 : Int32)))]))
  refine Way.by (fun _ k => XS.iconst XW.here hx rfl (hb hby at_5) k) ?_
  show Way _ _ _ _ (s₁.setTop (mkF m 6 #[iv p0, iv p1, iv p2, iv p3, iv p4, iv p5, .unset, .unset, .unset, .unset, .unset, .unset, .unset, .unset, .unset, .unset, .unset] [(.int 3), (.int (p5 &&& (2147483647 : Int32)))]))
  refine Way.by (fun _ k => iremM XW hx rfl (hb hby at_6) rfl (by decide) k) ?_
  show Way _ _ _ _ (s₁.setTop (mkF m 7 #[iv p0, iv p1, iv p2, iv p3, iv p4, iv p5, .unset, .unset, .unset, .unset, .unset, .unset, .unset, .unset, .unset, .unset, .unset] [(.int ((p5 &&& (2147483647 : Int32)) % (3 : Int32)))]))
  refine Way.by (fun _ k => XS.istore XW.here hx rfl (hb hby at_7) rfl (l' := #[iv p0, iv p1, iv p2, iv p3, iv p4, iv p5, iv ((p5 &&& (2147483647 : Int32)) % (3 : Int32)), .unset, .unset, .unset, .unset, .unset, .unset, .unset, .unset, .unset, .unset]) rfl k) ?_
  show Way _ _ _ _ (s₁.setTop (mkF m 9 #[iv p0, iv p1, iv p2, iv p3, iv p4, iv p5, iv ((p5 &&& (2147483647 : Int32)) % (3 : Int32)), .unset, .unset, .unset, .unset, .unset, .unset, .unset, .unset, .unset, .unset] []))
  refine Way.by (fun _ k => XS.iload XW.here hx rfl (hb hby at_9) rfl k) ?_
  show Way _ _ _ _ (s₁.setTop (mkF m 11 #[iv p0, iv p1, iv p2, iv p3, iv p4, iv p5, iv ((p5 &&& (2147483647 : Int32)) % (3 : Int32)), .unset, .unset, .unset, .unset, .unset, .unset, .unset, .unset, .unset, .unset] [(.int ((p5 &&& (2147483647 : Int32)) % (3 : Int32)))]))
  by_cases b1 : ((p5 &&& (2147483647 : Int32)) % (3 : Int32)) = (0 : Int32)
  · skip
    refine Way.by (fun _ k => XS.ifNo XW.here hx rfl (hb hby at_11) rfl ((if0 .ne _).trans (teq b1).2) k) ?_
    show Way _ _ _ _ (s₁.setTop (mkF m 14 #[iv p0, iv p1, iv p2, iv p3, iv p4, iv p5, iv ((p5 &&& (2147483647 : Int32)) % (3 : Int32)), .unset, .unset, .unset, .unset, .unset, .unset, .unset, .unset, .unset, .unset] []))
    obtain ⟨a2, T3, h4, k5, bd6, kc7, X8, e9, E10, hS11, hk12, hZ13, hown14, Ex15, Co16, Va17, Ar18, la19, lb20, hr21, lit22, sfn23, st24⟩ := ldcCH XW hx hZ0 hown0 (tw hw 1 rfl) wS e0 hS0 (Nat.zero_le _) hEL (by decide) HV0 (vs := ([114, 101, 112, 58, 85, 115, 101, 114] : List Int32).map fun c => Value.int (StrChars.lo8 c)) (z := (8 : Int32)) ⟨by decide, by decide⟩ (by decide) rfl (g := (mkF m 14 #[iv p0, iv p1, iv p2, iv p3, iv p4, iv p5, iv ((p5 &&& (2147483647 : Int32)) % (3 : Int32)), .unset, .unset, .unset, .unset, .unset, .unset, .unset, .unset, .unset, .unset] [])) rfl (hb hby at_14) (n := 32) (by decide) (by decide) (by decide) (by decide)
    have H25 := hr21.1
    have CH26 := CH0.trans hr21
    have Z28 := Nat.le_trans Z0 E10.1
    have O29 := O0.ext E10
    have F30 : own_Str Z h4 a2 bd6 [114, 101, 112, 58, 85, 115, 101, 114] := ⟨Ex15, Va17, Co16, ⟨_, _, _, Ar18, Or.inl ⟨rfl, rfl, rfl, by decide⟩⟩, by decide, by decide⟩
    refine Way.by st24 ?_
    show Way _ _ _ _ (T3.setTop (mkF m 16 #[iv p0, iv p1, iv p2, iv p3, iv p4, iv p5, iv ((p5 &&& (2147483647 : Int32)) % (3 : Int32)), .unset, .unset, .unset, .unset, .unset, .unset, .unset, .unset, .unset, .unset] [(.ref a2)]))
    refine Way.by (fun _ k => XS.goto X8.here hx rfl (pc0 := 16) (pc' := 32) rfl (hb hby at_16) (by decide) (by decide) k) ?_
    show Way _ _ _ _ (T3.setTop (mkF m 32 #[iv p0, iv p1, iv p2, iv p3, iv p4, iv p5, iv ((p5 &&& (2147483647 : Int32)) % (3 : Int32)), .unset, .unset, .unset, .unset, .unset, .unset, .unset, .unset, .unset, .unset] [(.ref a2)]))
    refine Way.by (fun _ k => XS.astore X8.here hx rfl (hb hby at_32) rfl rfl (l' := #[iv p0, iv p1, iv p2, iv p3, iv p4, iv p5, iv ((p5 &&& (2147483647 : Int32)) % (3 : Int32)), rv a2, .unset, .unset, .unset, .unset, .unset, .unset, .unset, .unset, .unset]) rfl k) ?_
    show Way _ _ _ _ (T3.setTop (mkF m 34 #[iv p0, iv p1, iv p2, iv p3, iv p4, iv p5, iv ((p5 &&& (2147483647 : Int32)) % (3 : Int32)), rv a2, .unset, .unset, .unset, .unset, .unset, .unset, .unset, .unset, .unset] []))
    refine Way.by (fun _ k => XS.aload X8.here hx rfl (hb hby at_34) rfl rfl k) ?_
    show Way _ _ _ _ (T3.setTop (mkF m 36 #[iv p0, iv p1, iv p2, iv p3, iv p4, iv p5, iv ((p5 &&& (2147483647 : Int32)) % (3 : Int32)), rv a2, .unset, .unset, .unset, .unset, .unset, .unset, .unset, .unset, .unset] [(.ref a2)]))
    obtain ⟨cq47, kq48, qa49, qb50, qc51⟩ := isOf hZ13 e9 F30.1
    obtain ⟨_, _, ⟨T31, L33, k34, n35⟩, -, X32, ⟨Lc36, hQ37, l38, y39, z40⟩, st41⟩ := X8.virtualBack hx (y := (⟨"java/lang/String", "length", "()I"⟩ : MethodName)) (z := (⟨"java/lang/String", "length", "()I"⟩ : MethodName)) hown14 (mvT hZ13 (tw hw 9 rfl)) (mvT hZ13 (tw hw 10 rfl)) (notFace_of_selects (args := #[]) (mvT hZ13 (tw hw 12 rfl))) (mvT hZ13 (tw hw 12 rfl)) (mvT hZ13 (tw hw 11 rfl)) (by decide) (own_len (W := 0) (n0 := n0) hZ13 hw SV O29 (cs := [114, 101, 112, 58, 85, 115, 101, 114]) F30 (by decide) (by decide)) qa49 qc51 (g := (mkF m 36 #[iv p0, iv p1, iv p2, iv p3, iv p4, iv p5, iv ((p5 &&& (2147483647 : Int32)) % (3 : Int32)), rv a2, .unset, .unset, .unset, .unset, .unset, .unset, .unset, .unset, .unset] [(.ref a2)])) rfl (by rw [hml]; rfl) (Steps.refl _) (argsL := []) (rest := []) (lenOf own_pdLen rfl) rfl (leW rfl) (hb hby at_36) (fun _ _ => ⟨rfl, e9, (leB rfl), (leB rfl)⟩)
    dsimp only [Pt.U, Pt.locs, Pt.cells, Pt.slots] at X32 l38 y39 z40 st41 hQ37
    subst y39 z40
    obtain ⟨rfl, N52, e43⟩ := hQ37
    have N42 : Fr n0 L33 := by rw [l38]; exact Fr.app N0 N52
    refine Way.to st41 ?_
    show Way _ _ _ _ (T31.setTop (mkF m 39 #[iv p0, iv p1, iv p2, iv p3, iv p4, iv p5, iv ((p5 &&& (2147483647 : Int32)) % (3 : Int32)), rv a2, .unset, .unset, .unset, .unset, .unset, .unset, .unset, .unset, .unset] [(.int 8)]))
    try clear X8 e9 st41 cq47 kq48 qa49 qb50 qc51 N52
    refine Way.by (fun _ k => XS.istore X32.here hx rfl (hb hby at_39) rfl (l' := #[iv p0, iv p1, iv p2, iv p3, iv p4, iv p5, iv ((p5 &&& (2147483647 : Int32)) % (3 : Int32)), rv a2, iv 8, .unset, .unset, .unset, .unset, .unset, .unset, .unset, .unset]) rfl k) ?_
    show Way _ _ _ _ (T31.setTop (mkF m 41 #[iv p0, iv p1, iv p2, iv p3, iv p4, iv p5, iv ((p5 &&& (2147483647 : Int32)) % (3 : Int32)), rv a2, iv 8, .unset, .unset, .unset, .unset, .unset, .unset, .unset, .unset] []))
    refine Way.by (fun _ k => XS.iloadN X32.here hx rfl (hb hby at_41) rfl k) ?_
    show Way _ _ _ _ (T31.setTop (mkF m 42 #[iv p0, iv p1, iv p2, iv p3, iv p4, iv p5, iv ((p5 &&& (2147483647 : Int32)) % (3 : Int32)), rv a2, iv 8, .unset, .unset, .unset, .unset, .unset, .unset, .unset, .unset] [(.int p0)]))
    refine Way.by (fun _ k => XS.bipush X32.here hx rfl (hb hby at_42) k) ?_
    show Way _ _ _ _ (T31.setTop (mkF m 44 #[iv p0, iv p1, iv p2, iv p3, iv p4, iv p5, iv ((p5 &&& (2147483647 : Int32)) % (3 : Int32)), rv a2, iv 8, .unset, .unset, .unset, .unset, .unset, .unset, .unset, .unset] [(.int 7), (.int p0)]))
    refine Way.by (fun _ k => XS.iand X32.here hx rfl (hb hby at_44) rfl k) ?_
    show Way _ _ _ _ (T31.setTop (mkF m 45 #[iv p0, iv p1, iv p2, iv p3, iv p4, iv p5, iv ((p5 &&& (2147483647 : Int32)) % (3 : Int32)), rv a2, iv 8, .unset, .unset, .unset, .unset, .unset, .unset, .unset, .unset] [(.int (p0 &&& (7 : Int32)))]))
    refine Way.by (fun _ k => XS.istore X32.here hx rfl (hb hby at_45) rfl (l' := #[iv p0, iv p1, iv p2, iv p3, iv p4, iv p5, iv ((p5 &&& (2147483647 : Int32)) % (3 : Int32)), rv a2, iv 8, iv (p0 &&& (7 : Int32)), .unset, .unset, .unset, .unset, .unset, .unset, .unset]) rfl k) ?_
    show Way _ _ _ _ (T31.setTop (mkF m 47 #[iv p0, iv p1, iv p2, iv p3, iv p4, iv p5, iv ((p5 &&& (2147483647 : Int32)) % (3 : Int32)), rv a2, iv 8, iv (p0 &&& (7 : Int32)), .unset, .unset, .unset, .unset, .unset, .unset, .unset] []))
    refine Way.by (fun _ k => XS.iload X32.here hx rfl (hb hby at_47) rfl k) ?_
    show Way _ _ _ _ (T31.setTop (mkF m 49 #[iv p0, iv p1, iv p2, iv p3, iv p4, iv p5, iv ((p5 &&& (2147483647 : Int32)) % (3 : Int32)), rv a2, iv 8, iv (p0 &&& (7 : Int32)), .unset, .unset, .unset, .unset, .unset, .unset, .unset] [(.int (p0 &&& (7 : Int32)))]))
    refine Way.by (fun _ k => XS.iconst X32.here hx rfl (hb hby at_49) k) ?_
    show Way _ _ _ _ (T31.setTop (mkF m 50 #[iv p0, iv p1, iv p2, iv p3, iv p4, iv p5, iv ((p5 &&& (2147483647 : Int32)) % (3 : Int32)), rv a2, iv 8, iv (p0 &&& (7 : Int32)), .unset, .unset, .unset, .unset, .unset, .unset, .unset] [(.int 3), (.int (p0 &&& (7 : Int32)))]))
    by_cases b54 : (p0 &&& (7 : Int32)) = (3 : Int32)
    · skip
      refine Way.by (fun _ k => XS.icmpNo X32.here hx rfl (hb hby at_50) rfl (teq b54).2 k) ?_
      show Way _ _ _ _ (T31.setTop (mkF m 53 #[iv p0, iv p1, iv p2, iv p3, iv p4, iv p5, iv ((p5 &&& (2147483647 : Int32)) % (3 : Int32)), rv a2, iv 8, iv (p0 &&& (7 : Int32)), .unset, .unset, .unset, .unset, .unset, .unset, .unset] []))
      refine Way.by (fun _ k => XS.iloadN X32.here hx rfl (hb hby at_53) rfl k) ?_
      show Way _ _ _ _ (T31.setTop (mkF m 54 #[iv p0, iv p1, iv p2, iv p3, iv p4, iv p5, iv ((p5 &&& (2147483647 : Int32)) % (3 : Int32)), rv a2, iv 8, iv (p0 &&& (7 : Int32)), .unset, .unset, .unset, .unset, .unset, .unset, .unset] [(.int p1)]))
      refine Way.by (Stand.ldcInt X32 hx hown14 (mvT hZ13 (tw hw 0 rfl)) rfl (hb hby at_54)) ?_
      show Way _ _ _ _ (T31.setTop (mkF m 56 #[iv p0, iv p1, iv p2, iv p3, iv p4, iv p5, iv ((p5 &&& (2147483647 : Int32)) % (3 : Int32)), rv a2, iv 8, iv (p0 &&& (7 : Int32)), .unset, .unset, .unset, .unset, .unset, .unset, .unset] [(.int 2147483647), (.int p1)]))
      refine Way.by (fun _ k => XS.iand X32.here hx rfl (hb hby at_56) rfl k) ?_
      show Way _ _ _ _ (T31.setTop (mkF m 57 #[iv p0, iv p1, iv p2, iv p3, iv p4, iv p5, iv ((p5 &&& (2147483647 : Int32)) % (3 : Int32)), rv a2, iv 8, iv (p0 &&& (7 : Int32)), .unset, .unset, .unset, .unset, .unset, .unset, .unset] [(.int (p1 &&& (2147483647 : Int32)))]))
      refine Way.by (fun _ k => XS.iload X32.here hx rfl (hb hby at_57) rfl k) ?_
      show Way _ _ _ _ (T31.setTop (mkF m 59 #[iv p0, iv p1, iv p2, iv p3, iv p4, iv p5, iv ((p5 &&& (2147483647 : Int32)) % (3 : Int32)), rv a2, iv 8, iv (p0 &&& (7 : Int32)), .unset, .unset, .unset, .unset, .unset, .unset, .unset] [(.int 8), (.int (p1 &&& (2147483647 : Int32)))]))
      refine Way.by (fun _ k => XS.iconst X32.here hx rfl (hb hby at_59) k) ?_
      show Way _ _ _ _ (T31.setTop (mkF m 60 #[iv p0, iv p1, iv p2, iv p3, iv p4, iv p5, iv ((p5 &&& (2147483647 : Int32)) % (3 : Int32)), rv a2, iv 8, iv (p0 &&& (7 : Int32)), .unset, .unset, .unset, .unset, .unset, .unset, .unset] [(.int 1), (.int 8), (.int (p1 &&& (2147483647 : Int32)))]))
      refine Way.by (fun _ k => XS.iadd X32.here hx rfl (hb hby at_60) rfl k) ?_
      show Way _ _ _ _ (T31.setTop (mkF m 61 #[iv p0, iv p1, iv p2, iv p3, iv p4, iv p5, iv ((p5 &&& (2147483647 : Int32)) % (3 : Int32)), rv a2, iv 8, iv (p0 &&& (7 : Int32)), .unset, .unset, .unset, .unset, .unset, .unset, .unset] [(.int 9), (.int (p1 &&& (2147483647 : Int32)))]))
      refine Way.by (fun _ k => iremM X32 hx rfl (hb hby at_61) rfl (by decide) k) ?_
      show Way _ _ _ _ (T31.setTop (mkF m 62 #[iv p0, iv p1, iv p2, iv p3, iv p4, iv p5, iv ((p5 &&& (2147483647 : Int32)) % (3 : Int32)), rv a2, iv 8, iv (p0 &&& (7 : Int32)), .unset, .unset, .unset, .unset, .unset, .unset, .unset] [(.int ((p1 &&& (2147483647 : Int32)) % (9 : Int32)))]))
      refine Way.by (fun _ k => XS.goto X32.here hx rfl (pc0 := 62) (pc' := 72) rfl (hb hby at_62) (by decide) (by decide) k) ?_
      show Way _ _ _ _ (T31.setTop (mkF m 72 #[iv p0, iv p1, iv p2, iv p3, iv p4, iv p5, iv ((p5 &&& (2147483647 : Int32)) % (3 : Int32)), rv a2, iv 8, iv (p0 &&& (7 : Int32)), .unset, .unset, .unset, .unset, .unset, .unset, .unset] [(.int ((p1 &&& (2147483647 : Int32)) % (9 : Int32)))]))
      refine Way.by (fun _ k => XS.istore X32.here hx rfl (hb hby at_72) rfl (l' := #[iv p0, iv p1, iv p2, iv p3, iv p4, iv p5, iv ((p5 &&& (2147483647 : Int32)) % (3 : Int32)), rv a2, iv 8, iv (p0 &&& (7 : Int32)), iv ((p1 &&& (2147483647 : Int32)) % (9 : Int32)), .unset, .unset, .unset, .unset, .unset, .unset]) rfl k) ?_
      show Way _ _ _ _ (T31.setTop (mkF m 74 #[iv p0, iv p1, iv p2, iv p3, iv p4, iv p5, iv ((p5 &&& (2147483647 : Int32)) % (3 : Int32)), rv a2, iv 8, iv (p0 &&& (7 : Int32)), iv ((p1 &&& (2147483647 : Int32)) % (9 : Int32)), .unset, .unset, .unset, .unset, .unset, .unset] []))
      exact seg74 l Z a0 hw ws p0 p1 p2 p3 p4 p5 va kv uUSER uSYSTEM_USER uGROUP tUSER tUSERt tSYSTEM_USER tSYSTEM_USERt tGROUP tGROUPt h0 n0 Z0 O0 SV SVS EVA AVA EUSER FUSER TUSER ESYSTEM_USER FSYSTEM_USER TSYSTEM_USER EGROUP FGROUP TGROUP SUSER SSYSTEM_USER SGROUP p e s m below meth c s₁ Bd hml _ hZ13 hown14 _ hS11 hh T31 h4 _ (X32.mono (by decide) (by decide)) e43 N42 Z28 hk12 H25 CH26 O29 ((p5 &&& (2147483647 : Int32)) % (3 : Int32)) a2 (8 : Int32) (p0 &&& (7 : Int32)) ((p1 &&& (2147483647 : Int32)) % (9 : Int32)) bd6 [114, 101, 112, 58, 85, 115, 101, 114] F30 (by decide)
    · skip
      refine Way.by (fun _ k => XS.icmpYes X32.here hx rfl (pc0 := 50) (pc' := 65) rfl (hb hby at_50) rfl (feq b54).2 (by decide) (by decide) k) ?_
      show Way _ _ _ _ (T31.setTop (mkF m 65 #[iv p0, iv p1, iv p2, iv p3, iv p4, iv p5, iv ((p5 &&& (2147483647 : Int32)) % (3 : Int32)), rv a2, iv 8, iv (p0 &&& (7 : Int32)), .unset, .unset, .unset, .unset, .unset, .unset, .unset] []))
      refine Way.by (fun _ k => XS.iloadN X32.here hx rfl (hb hby at_65) rfl k) ?_
      show Way _ _ _ _ (T31.setTop (mkF m 66 #[iv p0, iv p1, iv p2, iv p3, iv p4, iv p5, iv ((p5 &&& (2147483647 : Int32)) % (3 : Int32)), rv a2, iv 8, iv (p0 &&& (7 : Int32)), .unset, .unset, .unset, .unset, .unset, .unset, .unset] [(.int p1)]))
      refine Way.by (Stand.ldcInt X32 hx hown14 (mvT hZ13 (tw hw 0 rfl)) rfl (hb hby at_66)) ?_
      show Way _ _ _ _ (T31.setTop (mkF m 68 #[iv p0, iv p1, iv p2, iv p3, iv p4, iv p5, iv ((p5 &&& (2147483647 : Int32)) % (3 : Int32)), rv a2, iv 8, iv (p0 &&& (7 : Int32)), .unset, .unset, .unset, .unset, .unset, .unset, .unset] [(.int 2147483647), (.int p1)]))
      refine Way.by (fun _ k => XS.iand X32.here hx rfl (hb hby at_68) rfl k) ?_
      show Way _ _ _ _ (T31.setTop (mkF m 69 #[iv p0, iv p1, iv p2, iv p3, iv p4, iv p5, iv ((p5 &&& (2147483647 : Int32)) % (3 : Int32)), rv a2, iv 8, iv (p0 &&& (7 : Int32)), .unset, .unset, .unset, .unset, .unset, .unset, .unset] [(.int (p1 &&& (2147483647 : Int32)))]))
      refine Way.by (fun _ k => XS.iload X32.here hx rfl (hb hby at_69) rfl k) ?_
      show Way _ _ _ _ (T31.setTop (mkF m 71 #[iv p0, iv p1, iv p2, iv p3, iv p4, iv p5, iv ((p5 &&& (2147483647 : Int32)) % (3 : Int32)), rv a2, iv 8, iv (p0 &&& (7 : Int32)), .unset, .unset, .unset, .unset, .unset, .unset, .unset] [(.int 8), (.int (p1 &&& (2147483647 : Int32)))]))
      refine Way.by (fun _ k => iremM X32 hx rfl (hb hby at_71) rfl (by decide) k) ?_
      show Way _ _ _ _ (T31.setTop (mkF m 72 #[iv p0, iv p1, iv p2, iv p3, iv p4, iv p5, iv ((p5 &&& (2147483647 : Int32)) % (3 : Int32)), rv a2, iv 8, iv (p0 &&& (7 : Int32)), .unset, .unset, .unset, .unset, .unset, .unset, .unset] [(.int ((p1 &&& (2147483647 : Int32)) % (8 : Int32)))]))
      refine Way.by (fun _ k => XS.istore X32.here hx rfl (hb hby at_72) rfl (l' := #[iv p0, iv p1, iv p2, iv p3, iv p4, iv p5, iv ((p5 &&& (2147483647 : Int32)) % (3 : Int32)), rv a2, iv 8, iv (p0 &&& (7 : Int32)), iv ((p1 &&& (2147483647 : Int32)) % (8 : Int32)), .unset, .unset, .unset, .unset, .unset, .unset]) rfl k) ?_
      show Way _ _ _ _ (T31.setTop (mkF m 74 #[iv p0, iv p1, iv p2, iv p3, iv p4, iv p5, iv ((p5 &&& (2147483647 : Int32)) % (3 : Int32)), rv a2, iv 8, iv (p0 &&& (7 : Int32)), iv ((p1 &&& (2147483647 : Int32)) % (8 : Int32)), .unset, .unset, .unset, .unset, .unset, .unset] []))
      exact seg74 l Z a0 hw ws p0 p1 p2 p3 p4 p5 va kv uUSER uSYSTEM_USER uGROUP tUSER tUSERt tSYSTEM_USER tSYSTEM_USERt tGROUP tGROUPt h0 n0 Z0 O0 SV SVS EVA AVA EUSER FUSER TUSER ESYSTEM_USER FSYSTEM_USER TSYSTEM_USER EGROUP FGROUP TGROUP SUSER SSYSTEM_USER SGROUP p e s m below meth c s₁ Bd hml _ hZ13 hown14 _ hS11 hh T31 h4 _ (X32.mono (by decide) (by decide)) e43 N42 Z28 hk12 H25 CH26 O29 ((p5 &&& (2147483647 : Int32)) % (3 : Int32)) a2 (8 : Int32) (p0 &&& (7 : Int32)) ((p1 &&& (2147483647 : Int32)) % (8 : Int32)) bd6 [114, 101, 112, 58, 85, 115, 101, 114] F30 (by decide)
  · skip
    refine Way.by (fun _ k => XS.ifYes XW.here hx rfl (pc0 := 11) (pc' := 19) rfl (hb hby at_11) rfl ((if0 .ne _).trans (feq b1).2) (by decide) (by decide) k) ?_
    show Way _ _ _ _ (s₁.setTop (mkF m 19 #[iv p0, iv p1, iv p2, iv p3, iv p4, iv p5, iv ((p5 &&& (2147483647 : Int32)) % (3 : Int32)), .unset, .unset, .unset, .unset, .unset, .unset, .unset, .unset, .unset, .unset] []))
    refine Way.by (fun _ k => XS.iload XW.here hx rfl (hb hby at_19) rfl k) ?_
    show Way _ _ _ _ (s₁.setTop (mkF m 21 #[iv p0, iv p1, iv p2, iv p3, iv p4, iv p5, iv ((p5 &&& (2147483647 : Int32)) % (3 : Int32)), .unset, .unset, .unset, .unset, .unset, .unset, .unset, .unset, .unset, .unset] [(.int ((p5 &&& (2147483647 : Int32)) % (3 : Int32)))]))
    refine Way.by (fun _ k => XS.iconst XW.here hx rfl (hb hby at_21) k) ?_
    show Way _ _ _ _ (s₁.setTop (mkF m 22 #[iv p0, iv p1, iv p2, iv p3, iv p4, iv p5, iv ((p5 &&& (2147483647 : Int32)) % (3 : Int32)), .unset, .unset, .unset, .unset, .unset, .unset, .unset, .unset, .unset, .unset] [(.int 1), (.int ((p5 &&& (2147483647 : Int32)) % (3 : Int32)))]))
    by_cases b55 : ((p5 &&& (2147483647 : Int32)) % (3 : Int32)) = (1 : Int32)
    · skip
      refine Way.by (fun _ k => XS.icmpNo XW.here hx rfl (hb hby at_22) rfl (teq b55).2 k) ?_
      show Way _ _ _ _ (s₁.setTop (mkF m 25 #[iv p0, iv p1, iv p2, iv p3, iv p4, iv p5, iv ((p5 &&& (2147483647 : Int32)) % (3 : Int32)), .unset, .unset, .unset, .unset, .unset, .unset, .unset, .unset, .unset, .unset] []))
      obtain ⟨a56, T57, h58, k59, bd60, kc61, X62, e63, E64, hS65, hk66, hZ67, hown68, Ex69, Co70, Va71, Ar72, la73, lb74, hr75, lit76, sfn77, st78⟩ := ldcCH XW hx hZ0 hown0 (tw hw 116 rfl) wS e0 hS0 (Nat.zero_le _) hEL (by decide) HV0 (vs := ([114, 101, 112, 58, 83, 121, 115, 116, 101, 109, 85, 115, 101, 114] : List Int32).map fun c => Value.int (StrChars.lo8 c)) (z := (14 : Int32)) ⟨by decide, by decide⟩ (by decide) rfl (g := (mkF m 25 #[iv p0, iv p1, iv p2, iv p3, iv p4, iv p5, iv ((p5 &&& (2147483647 : Int32)) % (3 : Int32)), .unset, .unset, .unset, .unset, .unset, .unset, .unset, .unset, .unset, .unset] [])) rfl (hb hby at_25) (n := 56) (by decide) (by decide) (by decide) (by decide)
      have H79 := hr75.1
      have CH80 := CH0.trans hr75
      have Z82 := Nat.le_trans Z0 E64.1
      have O83 := O0.ext E64
      have F84 : own_Str Z h58 a56 bd60 [114, 101, 112, 58, 83, 121, 115, 116, 101, 109, 85, 115, 101, 114] := ⟨Ex69, Va71, Co70, ⟨_, _, _, Ar72, Or.inl ⟨rfl, rfl, rfl, by decide⟩⟩, by decide, by decide⟩
      refine Way.by st78 ?_
      show Way _ _ _ _ (T57.setTop (mkF m 27 #[iv p0, iv p1, iv p2, iv p3, iv p4, iv p5, iv ((p5 &&& (2147483647 : Int32)) % (3 : Int32)), .unset, .unset, .unset, .unset, .unset, .unset, .unset, .unset, .unset, .unset] [(.ref a56)]))
      refine Way.by (fun _ k => XS.goto X62.here hx rfl (pc0 := 27) (pc' := 32) rfl (hb hby at_27) (by decide) (by decide) k) ?_
      show Way _ _ _ _ (T57.setTop (mkF m 32 #[iv p0, iv p1, iv p2, iv p3, iv p4, iv p5, iv ((p5 &&& (2147483647 : Int32)) % (3 : Int32)), .unset, .unset, .unset, .unset, .unset, .unset, .unset, .unset, .unset, .unset] [(.ref a56)]))
      refine Way.by (fun _ k => XS.astore X62.here hx rfl (hb hby at_32) rfl rfl (l' := #[iv p0, iv p1, iv p2, iv p3, iv p4, iv p5, iv ((p5 &&& (2147483647 : Int32)) % (3 : Int32)), rv a56, .unset, .unset, .unset, .unset, .unset, .unset, .unset, .unset, .unset]) rfl k) ?_
      show Way _ _ _ _ (T57.setTop (mkF m 34 #[iv p0, iv p1, iv p2, iv p3, iv p4, iv p5, iv ((p5 &&& (2147483647 : Int32)) % (3 : Int32)), rv a56, .unset, .unset, .unset, .unset, .unset, .unset, .unset, .unset, .unset] []))
      refine Way.by (fun _ k => XS.aload X62.here hx rfl (hb hby at_34) rfl rfl k) ?_
      show Way _ _ _ _ (T57.setTop (mkF m 36 #[iv p0, iv p1, iv p2, iv p3, iv p4, iv p5, iv ((p5 &&& (2147483647 : Int32)) % (3 : Int32)), rv a56, .unset, .unset, .unset, .unset, .unset, .unset, .unset, .unset, .unset] [(.ref a56)]))
      obtain ⟨cq101, kq102, qa103, qb104, qc105⟩ := isOf hZ67 e63 F84.1
      obtain ⟨_, _, ⟨T85, L87, k88, n89⟩, -, X86, ⟨Lc90, hQ91, l92, y93, z94⟩, st95⟩ := X62.virtualBack hx (y := (⟨"java/lang/String", "length", "()I"⟩ : MethodName)) (z := (⟨"java/lang/String", "length", "()I"⟩ : MethodName)) hown68 (mvT hZ67 (tw hw 9 rfl)) (mvT hZ67 (tw hw 10 rfl)) (notFace_of_selects (args := #[]) (mvT hZ67 (tw hw 12 rfl))) (mvT hZ67 (tw hw 12 rfl)) (mvT hZ67 (tw hw 11 rfl)) (by decide) (own_len (W := 0) (n0 := n0) hZ67 hw SV O83 (cs := [114, 101, 112, 58, 83, 121, 115, 116, 101, 109, 85, 115, 101, 114]) F84 (by decide) (by decide)) qa103 qc105 (g := (mkF m 36 #[iv p0, iv p1, iv p2, iv p3, iv p4, iv p5, iv ((p5 &&& (2147483647 : Int32)) % (3 : Int32)), rv a56, .unset, .unset, .unset, .unset, .unset, .unset, .unset, .unset, .unset] [(.ref a56)])) rfl (by rw [hml]; rfl) (Steps.refl _) (argsL := []) (rest := []) (lenOf own_pdLen rfl) rfl (leW rfl) (hb hby at_36) (fun _ _ => ⟨rfl, e63, (leB rfl), (leB rfl)⟩)
      dsimp only [Pt.U, Pt.locs, Pt.cells, Pt.slots] at X86 l92 y93 z94 st95 hQ91
      subst y93 z94
      obtain ⟨rfl, N106, e97⟩ := hQ91
      have N96 : Fr n0 L87 := by rw [l92]; exact Fr.app N0 N106
      refine Way.to st95 ?_
      show Way _ _ _ _ (T85.setTop (mkF m 39 #[iv p0, iv p1, iv p2, iv p3, iv p4, iv p5, iv ((p5 &&& (2147483647 : Int32)) % (3 : Int32)), rv a56, .unset, .unset, .unset, .unset, .unset, .unset, .unset, .unset, .unset] [(.int 14)]))
      try clear X62 e63 st95 cq101 kq102 qa103 qb104 qc105 N106
      refine Way.by (fun _ k => XS.istore X86.here hx rfl (hb hby at_39) rfl (l' := #[iv p0, iv p1, iv p2, iv p3, iv p4, iv p5, iv ((p5 &&& (2147483647 : Int32)) % (3 : Int32)), rv a56, iv 14, .unset, .unset, .unset, .unset, .unset, .unset, .unset, .unset]) rfl k) ?_
      show Way _ _ _ _ (T85.setTop (mkF m 41 #[iv p0, iv p1, iv p2, iv p3, iv p4, iv p5, iv ((p5 &&& (2147483647 : Int32)) % (3 : Int32)), rv a56, iv 14, .unset, .unset, .unset, .unset, .unset, .unset, .unset, .unset] []))
      refine Way.by (fun _ k => XS.iloadN X86.here hx rfl (hb hby at_41) rfl k) ?_
      show Way _ _ _ _ (T85.setTop (mkF m 42 #[iv p0, iv p1, iv p2, iv p3, iv p4, iv p5, iv ((p5 &&& (2147483647 : Int32)) % (3 : Int32)), rv a56, iv 14, .unset, .unset, .unset, .unset, .unset, .unset, .unset, .unset] [(.int p0)]))
      refine Way.by (fun _ k => XS.bipush X86.here hx rfl (hb hby at_42) k) ?_
      show Way _ _ _ _ (T85.setTop (mkF m 44 #[iv p0, iv p1, iv p2, iv p3, iv p4, iv p5, iv ((p5 &&& (2147483647 : Int32)) % (3 : Int32)), rv a56, iv 14, .unset, .unset, .unset, .unset, .unset, .unset, .unset, .unset] [(.int 7), (.int p0)]))
      refine Way.by (fun _ k => XS.iand X86.here hx rfl (hb hby at_44) rfl k) ?_
      show Way _ _ _ _ (T85.setTop (mkF m 45 #[iv p0, iv p1, iv p2, iv p3, iv p4, iv p5, iv ((p5 &&& (2147483647 : Int32)) % (3 : Int32)), rv a56, iv 14, .unset, .unset, .unset, .unset, .unset, .unset, .unset, .unset] [(.int (p0 &&& (7 : Int32)))]))
      refine Way.by (fun _ k => XS.istore X86.here hx rfl (hb hby at_45) rfl (l' := #[iv p0, iv p1, iv p2, iv p3, iv p4, iv p5, iv ((p5 &&& (2147483647 : Int32)) % (3 : Int32)), rv a56, iv 14, iv (p0 &&& (7 : Int32)), .unset, .unset, .unset, .unset, .unset, .unset, .unset]) rfl k) ?_
      show Way _ _ _ _ (T85.setTop (mkF m 47 #[iv p0, iv p1, iv p2, iv p3, iv p4, iv p5, iv ((p5 &&& (2147483647 : Int32)) % (3 : Int32)), rv a56, iv 14, iv (p0 &&& (7 : Int32)), .unset, .unset, .unset, .unset, .unset, .unset, .unset] []))
      refine Way.by (fun _ k => XS.iload X86.here hx rfl (hb hby at_47) rfl k) ?_
      show Way _ _ _ _ (T85.setTop (mkF m 49 #[iv p0, iv p1, iv p2, iv p3, iv p4, iv p5, iv ((p5 &&& (2147483647 : Int32)) % (3 : Int32)), rv a56, iv 14, iv (p0 &&& (7 : Int32)), .unset, .unset, .unset, .unset, .unset, .unset, .unset] [(.int (p0 &&& (7 : Int32)))]))
      refine Way.by (fun _ k => XS.iconst X86.here hx rfl (hb hby at_49) k) ?_
      show Way _ _ _ _ (T85.setTop (mkF m 50 #[iv p0, iv p1, iv p2, iv p3, iv p4, iv p5, iv ((p5 &&& (2147483647 : Int32)) % (3 : Int32)), rv a56, iv 14, iv (p0 &&& (7 : Int32)), .unset, .unset, .unset, .unset, .unset, .unset, .unset] [(.int 3), (.int (p0 &&& (7 : Int32)))]))
      by_cases b108 : (p0 &&& (7 : Int32)) = (3 : Int32)
      · skip
        refine Way.by (fun _ k => XS.icmpNo X86.here hx rfl (hb hby at_50) rfl (teq b108).2 k) ?_
        show Way _ _ _ _ (T85.setTop (mkF m 53 #[iv p0, iv p1, iv p2, iv p3, iv p4, iv p5, iv ((p5 &&& (2147483647 : Int32)) % (3 : Int32)), rv a56, iv 14, iv (p0 &&& (7 : Int32)), .unset, .unset, .unset, .unset, .unset, .unset, .unset] []))
        refine Way.by (fun _ k => XS.iloadN X86.here hx rfl (hb hby at_53) rfl k) ?_
        show Way _ _ _ _ (T85.setTop (mkF m 54 #[iv p0, iv p1, iv p2, iv p3, iv p4, iv p5, iv ((p5 &&& (2147483647 : Int32)) % (3 : Int32)), rv a56, iv 14, iv (p0 &&& (7 : Int32)), .unset, .unset, .unset, .unset, .unset, .unset, .unset] [(.int p1)]))
        refine Way.by (Stand.ldcInt X86 hx hown68 (mvT hZ67 (tw hw 0 rfl)) rfl (hb hby at_54)) ?_
        show Way _ _ _ _ (T85.setTop (mkF m 56 #[iv p0, iv p1, iv p2, iv p3, iv p4, iv p5, iv ((p5 &&& (2147483647 : Int32)) % (3 : Int32)), rv a56, iv 14, iv (p0 &&& (7 : Int32)), .unset, .unset, .unset, .unset, .unset, .unset, .unset] [(.int 2147483647), (.int p1)]))
        refine Way.by (fun _ k => XS.iand X86.here hx rfl (hb hby at_56) rfl k) ?_
        show Way _ _ _ _ (T85.setTop (mkF m 57 #[iv p0, iv p1, iv p2, iv p3, iv p4, iv p5, iv ((p5 &&& (2147483647 : Int32)) % (3 : Int32)), rv a56, iv 14, iv (p0 &&& (7 : Int32)), .unset, .unset, .unset, .unset, .unset, .unset, .unset] [(.int (p1 &&& (2147483647 : Int32)))]))
        refine Way.by (fun _ k => XS.iload X86.here hx rfl (hb hby at_57) rfl k) ?_
        show Way _ _ _ _ (T85.setTop (mkF m 59 #[iv p0, iv p1, iv p2, iv p3, iv p4, iv p5, iv ((p5 &&& (2147483647 : Int32)) % (3 : Int32)), rv a56, iv 14, iv (p0 &&& (7 : Int32)), .unset, .unset, .unset, .unset, .unset, .unset, .unset] [(.int 14), (.int (p1 &&& (2147483647 : Int32)))]))
        refine Way.by (fun _ k => XS.iconst X86.here hx rfl (hb hby at_59) k) ?_
        show Way _ _ _ _ (T85.setTop (mkF m 60 #[iv p0, iv p1, iv p2, iv p3, iv p4, iv p5, iv ((p5 &&& (2147483647 : Int32)) % (3 : Int32)), rv a56, iv 14, iv (p0 &&& (7 : Int32)), .unset, .unset, .unset, .unset, .unset, .unset, .unset] [(.int 1), (.int 14), (.int (p1 &&& (2147483647 : Int32)))]))
        refine Way.by (fun _ k => XS.iadd X86.here hx rfl (hb hby at_60) rfl k) ?_
        show Way _ _ _ _ (T85.setTop (mkF m 61 #[iv p0, iv p1, iv p2, iv p3, iv p4, iv p5, iv ((p5 &&& (2147483647 : Int32)) % (3 : Int32)), rv a56, iv 14, iv (p0 &&& (7 : Int32)), .unset, .unset, .unset, .unset, .unset, .unset, .unset] [(.int 15), (.int (p1 &&& (2147483647 : Int32)))]))
        refine Way.by (fun _ k => iremM X86 hx rfl (hb hby at_61) rfl (by decide) k) ?_
        show Way _ _ _ _ (T85.setTop (mkF m 62 #[iv p0, iv p1, iv p2, iv p3, iv p4, iv p5, iv ((p5 &&& (2147483647 : Int32)) % (3 : Int32)), rv a56, iv 14, iv (p0 &&& (7 : Int32)), .unset, .unset, .unset, .unset, .unset, .unset, .unset] [(.int ((p1 &&& (2147483647 : Int32)) % (15 : Int32)))]))
        refine Way.by (fun _ k => XS.goto X86.here hx rfl (pc0 := 62) (pc' := 72) rfl (hb hby at_62) (by decide) (by decide) k) ?_
        show Way _ _ _ _ (T85.setTop (mkF m 72 #[iv p0, iv p1, iv p2, iv p3, iv p4, iv p5, iv ((p5 &&& (2147483647 : Int32)) % (3 : Int32)), rv a56, iv 14, iv (p0 &&& (7 : Int32)), .unset, .unset, .unset, .unset, .unset, .unset, .unset] [(.int ((p1 &&& (2147483647 : Int32)) % (15 : Int32)))]))
        refine Way.by (fun _ k => XS.istore X86.here hx rfl (hb hby at_72) rfl (l' := #[iv p0, iv p1, iv p2, iv p3, iv p4, iv p5, iv ((p5 &&& (2147483647 : Int32)) % (3 : Int32)), rv a56, iv 14, iv (p0 &&& (7 : Int32)), iv ((p1 &&& (2147483647 : Int32)) % (15 : Int32)), .unset, .unset, .unset, .unset, .unset, .unset]) rfl k) ?_
        show Way _ _ _ _ (T85.setTop (mkF m 74 #[iv p0, iv p1, iv p2, iv p3, iv p4, iv p5, iv ((p5 &&& (2147483647 : Int32)) % (3 : Int32)), rv a56, iv 14, iv (p0 &&& (7 : Int32)), iv ((p1 &&& (2147483647 : Int32)) % (15 : Int32)), .unset, .unset, .unset, .unset, .unset, .unset] []))
        exact seg74 l Z a0 hw ws p0 p1 p2 p3 p4 p5 va kv uUSER uSYSTEM_USER uGROUP tUSER tUSERt tSYSTEM_USER tSYSTEM_USERt tGROUP tGROUPt h0 n0 Z0 O0 SV SVS EVA AVA EUSER FUSER TUSER ESYSTEM_USER FSYSTEM_USER TSYSTEM_USER EGROUP FGROUP TGROUP SUSER SSYSTEM_USER SGROUP p e s m below meth c s₁ Bd hml _ hZ67 hown68 _ hS65 hh T85 h58 _ (X86.mono (by decide) (by decide)) e97 N96 Z82 hk66 H79 CH80 O83 ((p5 &&& (2147483647 : Int32)) % (3 : Int32)) a56 (14 : Int32) (p0 &&& (7 : Int32)) ((p1 &&& (2147483647 : Int32)) % (15 : Int32)) bd60 [114, 101, 112, 58, 83, 121, 115, 116, 101, 109, 85, 115, 101, 114] F84 (by decide)
      · skip
        refine Way.by (fun _ k => XS.icmpYes X86.here hx rfl (pc0 := 50) (pc' := 65) rfl (hb hby at_50) rfl (feq b108).2 (by decide) (by decide) k) ?_
        show Way _ _ _ _ (T85.setTop (mkF m 65 #[iv p0, iv p1, iv p2, iv p3, iv p4, iv p5, iv ((p5 &&& (2147483647 : Int32)) % (3 : Int32)), rv a56, iv 14, iv (p0 &&& (7 : Int32)), .unset, .unset, .unset, .unset, .unset, .unset, .unset] []))
        refine Way.by (fun _ k => XS.iloadN X86.here hx rfl (hb hby at_65) rfl k) ?_
        show Way _ _ _ _ (T85.setTop (mkF m 66 #[iv p0, iv p1, iv p2, iv p3, iv p4, iv p5, iv ((p5 &&& (2147483647 : Int32)) % (3 : Int32)), rv a56, iv 14, iv (p0 &&& (7 : Int32)), .unset, .unset, .unset, .unset, .unset, .unset, .unset] [(.int p1)]))
        refine Way.by (Stand.ldcInt X86 hx hown68 (mvT hZ67 (tw hw 0 rfl)) rfl (hb hby at_66)) ?_
        show Way _ _ _ _ (T85.setTop (mkF m 68 #[iv p0, iv p1, iv p2, iv p3, iv p4, iv p5, iv ((p5 &&& (2147483647 : Int32)) % (3 : Int32)), rv a56, iv 14, iv (p0 &&& (7 : Int32)), .unset, .unset, .unset, .unset, .unset, .unset, .unset] [(.int 2147483647), (.int p1)]))
        refine Way.by (fun _ k => XS.iand X86.here hx rfl (hb hby at_68) rfl k) ?_
        show Way _ _ _ _ (T85.setTop (mkF m 69 #[iv p0, iv p1, iv p2, iv p3, iv p4, iv p5, iv ((p5 &&& (2147483647 : Int32)) % (3 : Int32)), rv a56, iv 14, iv (p0 &&& (7 : Int32)), .unset, .unset, .unset, .unset, .unset, .unset, .unset] [(.int (p1 &&& (2147483647 : Int32)))]))
        refine Way.by (fun _ k => XS.iload X86.here hx rfl (hb hby at_69) rfl k) ?_
        show Way _ _ _ _ (T85.setTop (mkF m 71 #[iv p0, iv p1, iv p2, iv p3, iv p4, iv p5, iv ((p5 &&& (2147483647 : Int32)) % (3 : Int32)), rv a56, iv 14, iv (p0 &&& (7 : Int32)), .unset, .unset, .unset, .unset, .unset, .unset, .unset] [(.int 14), (.int (p1 &&& (2147483647 : Int32)))]))
        refine Way.by (fun _ k => iremM X86 hx rfl (hb hby at_71) rfl (by decide) k) ?_
        show Way _ _ _ _ (T85.setTop (mkF m 72 #[iv p0, iv p1, iv p2, iv p3, iv p4, iv p5, iv ((p5 &&& (2147483647 : Int32)) % (3 : Int32)), rv a56, iv 14, iv (p0 &&& (7 : Int32)), .unset, .unset, .unset, .unset, .unset, .unset, .unset] [(.int ((p1 &&& (2147483647 : Int32)) % (14 : Int32)))]))
        refine Way.by (fun _ k => XS.istore X86.here hx rfl (hb hby at_72) rfl (l' := #[iv p0, iv p1, iv p2, iv p3, iv p4, iv p5, iv ((p5 &&& (2147483647 : Int32)) % (3 : Int32)), rv a56, iv 14, iv (p0 &&& (7 : Int32)), iv ((p1 &&& (2147483647 : Int32)) % (14 : Int32)), .unset, .unset, .unset, .unset, .unset, .unset]) rfl k) ?_
        show Way _ _ _ _ (T85.setTop (mkF m 74 #[iv p0, iv p1, iv p2, iv p3, iv p4, iv p5, iv ((p5 &&& (2147483647 : Int32)) % (3 : Int32)), rv a56, iv 14, iv (p0 &&& (7 : Int32)), iv ((p1 &&& (2147483647 : Int32)) % (14 : Int32)), .unset, .unset, .unset, .unset, .unset, .unset] []))
        exact seg74 l Z a0 hw ws p0 p1 p2 p3 p4 p5 va kv uUSER uSYSTEM_USER uGROUP tUSER tUSERt tSYSTEM_USER tSYSTEM_USERt tGROUP tGROUPt h0 n0 Z0 O0 SV SVS EVA AVA EUSER FUSER TUSER ESYSTEM_USER FSYSTEM_USER TSYSTEM_USER EGROUP FGROUP TGROUP SUSER SSYSTEM_USER SGROUP p e s m below meth c s₁ Bd hml _ hZ67 hown68 _ hS65 hh T85 h58 _ (X86.mono (by decide) (by decide)) e97 N96 Z82 hk66 H79 CH80 O83 ((p5 &&& (2147483647 : Int32)) % (3 : Int32)) a56 (14 : Int32) (p0 &&& (7 : Int32)) ((p1 &&& (2147483647 : Int32)) % (14 : Int32)) bd60 [114, 101, 112, 58, 83, 121, 115, 116, 101, 109, 85, 115, 101, 114] F84 (by decide)
    · skip
      refine Way.by (fun _ k => XS.icmpYes XW.here hx rfl (pc0 := 22) (pc' := 30) rfl (hb hby at_22) rfl (feq b55).2 (by decide) (by decide) k) ?_
      show Way _ _ _ _ (s₁.setTop (mkF m 30 #[iv p0, iv p1, iv p2, iv p3, iv p4, iv p5, iv ((p5 &&& (2147483647 : Int32)) % (3 : Int32)), .unset, .unset, .unset, .unset, .unset, .unset, .unset, .unset, .unset, .unset] []))
      obtain ⟨a109, T110, h111, k112, bd113, kc114, X115, e116, E117, hS118, hk119, hZ120, hown121, Ex122, Co123, Va124, Ar125, la126, lb127, hr128, lit129, sfn130, st131⟩ := ldcCH XW hx hZ0 hown0 (tw hw 114 rfl) wS e0 hS0 (Nat.zero_le _) hEL (by decide) HV0 (vs := ([114, 101, 112, 58, 71, 114, 111, 117, 112] : List Int32).map fun c => Value.int (StrChars.lo8 c)) (z := (9 : Int32)) ⟨by decide, by decide⟩ (by decide) rfl (g := (mkF m 30 #[iv p0, iv p1, iv p2, iv p3, iv p4, iv p5, iv ((p5 &&& (2147483647 : Int32)) % (3 : Int32)), .unset, .unset, .unset, .unset, .unset, .unset, .unset, .unset, .unset, .unset] [])) rfl (hb hby at_30) (n := 36) (by decide) (by decide) (by decide) (by decide)
      have H132 := hr128.1
      have CH133 := CH0.trans hr128
      have Z135 := Nat.le_trans Z0 E117.1
      have O136 := O0.ext E117
      have F137 : own_Str Z h111 a109 bd113 [114, 101, 112, 58, 71, 114, 111, 117, 112] := ⟨Ex122, Va124, Co123, ⟨_, _, _, Ar125, Or.inl ⟨rfl, rfl, rfl, by decide⟩⟩, by decide, by decide⟩
      refine Way.by st131 ?_
      show Way _ _ _ _ (T110.setTop (mkF m 32 #[iv p0, iv p1, iv p2, iv p3, iv p4, iv p5, iv ((p5 &&& (2147483647 : Int32)) % (3 : Int32)), .unset, .unset, .unset, .unset, .unset, .unset, .unset, .unset, .unset, .unset] [(.ref a109)]))
      refine Way.by (fun _ k => XS.astore X115.here hx rfl (hb hby at_32) rfl rfl (l' := #[iv p0, iv p1, iv p2, iv p3, iv p4, iv p5, iv ((p5 &&& (2147483647 : Int32)) % (3 : Int32)), rv a109, .unset, .unset, .unset, .unset, .unset, .unset, .unset, .unset, .unset]) rfl k) ?_
      show Way _ _ _ _ (T110.setTop (mkF m 34 #[iv p0, iv p1, iv p2, iv p3, iv p4, iv p5, iv ((p5 &&& (2147483647 : Int32)) % (3 : Int32)), rv a109, .unset, .unset, .unset, .unset, .unset, .unset, .unset, .unset, .unset] []))
      refine Way.by (fun _ k => XS.aload X115.here hx rfl (hb hby at_34) rfl rfl k) ?_
      show Way _ _ _ _ (T110.setTop (mkF m 36 #[iv p0, iv p1, iv p2, iv p3, iv p4, iv p5, iv ((p5 &&& (2147483647 : Int32)) % (3 : Int32)), rv a109, .unset, .unset, .unset, .unset, .unset, .unset, .unset, .unset, .unset] [(.ref a109)]))
      obtain ⟨cq154, kq155, qa156, qb157, qc158⟩ := isOf hZ120 e116 F137.1
      obtain ⟨_, _, ⟨T138, L140, k141, n142⟩, -, X139, ⟨Lc143, hQ144, l145, y146, z147⟩, st148⟩ := X115.virtualBack hx (y := (⟨"java/lang/String", "length", "()I"⟩ : MethodName)) (z := (⟨"java/lang/String", "length", "()I"⟩ : MethodName)) hown121 (mvT hZ120 (tw hw 9 rfl)) (mvT hZ120 (tw hw 10 rfl)) (notFace_of_selects (args := #[]) (mvT hZ120 (tw hw 12 rfl))) (mvT hZ120 (tw hw 12 rfl)) (mvT hZ120 (tw hw 11 rfl)) (by decide) (own_len (W := 0) (n0 := n0) hZ120 hw SV O136 (cs := [114, 101, 112, 58, 71, 114, 111, 117, 112]) F137 (by decide) (by decide)) qa156 qc158 (g := (mkF m 36 #[iv p0, iv p1, iv p2, iv p3, iv p4, iv p5, iv ((p5 &&& (2147483647 : Int32)) % (3 : Int32)), rv a109, .unset, .unset, .unset, .unset, .unset, .unset, .unset, .unset, .unset] [(.ref a109)])) rfl (by rw [hml]; rfl) (Steps.refl _) (argsL := []) (rest := []) (lenOf own_pdLen rfl) rfl (leW rfl) (hb hby at_36) (fun _ _ => ⟨rfl, e116, (leB rfl), (leB rfl)⟩)
      dsimp only [Pt.U, Pt.locs, Pt.cells, Pt.slots] at X139 l145 y146 z147 st148 hQ144
      subst y146 z147
      obtain ⟨rfl, N159, e150⟩ := hQ144
      have N149 : Fr n0 L140 := by rw [l145]; exact Fr.app N0 N159
      refine Way.to st148 ?_
      show Way _ _ _ _ (T138.setTop (mkF m 39 #[iv p0, iv p1, iv p2, iv p3, iv p4, iv p5, iv ((p5 &&& (2147483647 : Int32)) % (3 : Int32)), rv a109, .unset, .unset, .unset, .unset, .unset, .unset, .unset, .unset, .unset] [(.int 9)]))
      try clear X115 e116 st148 cq154 kq155 qa156 qb157 qc158 N159
      refine Way.by (fun _ k => XS.istore X139.here hx rfl (hb hby at_39) rfl (l' := #[iv p0, iv p1, iv p2, iv p3, iv p4, iv p5, iv ((p5 &&& (2147483647 : Int32)) % (3 : Int32)), rv a109, iv 9, .unset, .unset, .unset, .unset, .unset, .unset, .unset, .unset]) rfl k) ?_
      show Way _ _ _ _ (T138.setTop (mkF m 41 #[iv p0, iv p1, iv p2, iv p3, iv p4, iv p5, iv ((p5 &&& (2147483647 : Int32)) % (3 : Int32)), rv a109, iv 9, .unset, .unset, .unset, .unset, .unset, .unset, .unset, .unset] []))
      refine Way.by (fun _ k => XS.iloadN X139.here hx rfl (hb hby at_41) rfl k) ?_
      show Way _ _ _ _ (T138.setTop (mkF m 42 #[iv p0, iv p1, iv p2, iv p3, iv p4, iv p5, iv ((p5 &&& (2147483647 : Int32)) % (3 : Int32)), rv a109, iv 9, .unset, .unset, .unset, .unset, .unset, .unset, .unset, .unset] [(.int p0)]))
      refine Way.by (fun _ k => XS.bipush X139.here hx rfl (hb hby at_42) k) ?_
      show Way _ _ _ _ (T138.setTop (mkF m 44 #[iv p0, iv p1, iv p2, iv p3, iv p4, iv p5, iv ((p5 &&& (2147483647 : Int32)) % (3 : Int32)), rv a109, iv 9, .unset, .unset, .unset, .unset, .unset, .unset, .unset, .unset] [(.int 7), (.int p0)]))
      refine Way.by (fun _ k => XS.iand X139.here hx rfl (hb hby at_44) rfl k) ?_
      show Way _ _ _ _ (T138.setTop (mkF m 45 #[iv p0, iv p1, iv p2, iv p3, iv p4, iv p5, iv ((p5 &&& (2147483647 : Int32)) % (3 : Int32)), rv a109, iv 9, .unset, .unset, .unset, .unset, .unset, .unset, .unset, .unset] [(.int (p0 &&& (7 : Int32)))]))
      refine Way.by (fun _ k => XS.istore X139.here hx rfl (hb hby at_45) rfl (l' := #[iv p0, iv p1, iv p2, iv p3, iv p4, iv p5, iv ((p5 &&& (2147483647 : Int32)) % (3 : Int32)), rv a109, iv 9, iv (p0 &&& (7 : Int32)), .unset, .unset, .unset, .unset, .unset, .unset, .unset]) rfl k) ?_
      show Way _ _ _ _ (T138.setTop (mkF m 47 #[iv p0, iv p1, iv p2, iv p3, iv p4, iv p5, iv ((p5 &&& (2147483647 : Int32)) % (3 : Int32)), rv a109, iv 9, iv (p0 &&& (7 : Int32)), .unset, .unset, .unset, .unset, .unset, .unset, .unset] []))
      refine Way.by (fun _ k => XS.iload X139.here hx rfl (hb hby at_47) rfl k) ?_
      show Way _ _ _ _ (T138.setTop (mkF m 49 #[iv p0, iv p1, iv p2, iv p3, iv p4, iv p5, iv ((p5 &&& (2147483647 : Int32)) % (3 : Int32)), rv a109, iv 9, iv (p0 &&& (7 : Int32)), .unset, .unset, .unset, .unset, .unset, .unset, .unset] [(.int (p0 &&& (7 : Int32)))]))
      refine Way.by (fun _ k => XS.iconst X139.here hx rfl (hb hby at_49) k) ?_
      show Way _ _ _ _ (T138.setTop (mkF m 50 #[iv p0, iv p1, iv p2, iv p3, iv p4, iv p5, iv ((p5 &&& (2147483647 : Int32)) % (3 : Int32)), rv a109, iv 9, iv (p0 &&& (7 : Int32)), .unset, .unset, .unset, .unset, .unset, .unset, .unset] [(.int 3), (.int (p0 &&& (7 : Int32)))]))
      by_cases b161 : (p0 &&& (7 : Int32)) = (3 : Int32)
      · skip
        refine Way.by (fun _ k => XS.icmpNo X139.here hx rfl (hb hby at_50) rfl (teq b161).2 k) ?_
        show Way _ _ _ _ (T138.setTop (mkF m 53 #[iv p0, iv p1, iv p2, iv p3, iv p4, iv p5, iv ((p5 &&& (2147483647 : Int32)) % (3 : Int32)), rv a109, iv 9, iv (p0 &&& (7 : Int32)), .unset, .unset, .unset, .unset, .unset, .unset, .unset] []))
        refine Way.by (fun _ k => XS.iloadN X139.here hx rfl (hb hby at_53) rfl k) ?_
        show Way _ _ _ _ (T138.setTop (mkF m 54 #[iv p0, iv p1, iv p2, iv p3, iv p4, iv p5, iv ((p5 &&& (2147483647 : Int32)) % (3 : Int32)), rv a109, iv 9, iv (p0 &&& (7 : Int32)), .unset, .unset, .unset, .unset, .unset, .unset, .unset] [(.int p1)]))
        refine Way.by (Stand.ldcInt X139 hx hown121 (mvT hZ120 (tw hw 0 rfl)) rfl (hb hby at_54)) ?_
        show Way _ _ _ _ (T138.setTop (mkF m 56 #[iv p0, iv p1, iv p2, iv p3, iv p4, iv p5, iv ((p5 &&& (2147483647 : Int32)) % (3 : Int32)), rv a109, iv 9, iv (p0 &&& (7 : Int32)), .unset, .unset, .unset, .unset, .unset, .unset, .unset] [(.int 2147483647), (.int p1)]))
        refine Way.by (fun _ k => XS.iand X139.here hx rfl (hb hby at_56) rfl k) ?_
        show Way _ _ _ _ (T138.setTop (mkF m 57 #[iv p0, iv p1, iv p2, iv p3, iv p4, iv p5, iv ((p5 &&& (2147483647 : Int32)) % (3 : Int32)), rv a109, iv 9, iv (p0 &&& (7 : Int32)), .unset, .unset, .unset, .unset, .unset, .unset, .unset] [(.int (p1 &&& (2147483647 : Int32)))]))
        refine Way.by (fun _ k => XS.iload X139.here hx rfl (hb hby at_57) rfl k) ?_
        show Way _ _ _ _ (T138.setTop (mkF m 59 #[iv p0, iv p1, iv p2, iv p3, iv p4, iv p5, iv ((p5 &&& (2147483647 : Int32)) % (3 : Int32)), rv a109, iv 9, iv (p0 &&& (7 : Int32)), .unset, .unset, .unset, .unset, .unset, .unset, .unset] [(.int 9), (.int (p1 &&& (2147483647 : Int32)))]))
        refine Way.by (fun _ k => XS.iconst X139.here hx rfl (hb hby at_59) k) ?_
        show Way _ _ _ _ (T138.setTop (mkF m 60 #[iv p0, iv p1, iv p2, iv p3, iv p4, iv p5, iv ((p5 &&& (2147483647 : Int32)) % (3 : Int32)), rv a109, iv 9, iv (p0 &&& (7 : Int32)), .unset, .unset, .unset, .unset, .unset, .unset, .unset] [(.int 1), (.int 9), (.int (p1 &&& (2147483647 : Int32)))]))
        refine Way.by (fun _ k => XS.iadd X139.here hx rfl (hb hby at_60) rfl k) ?_
        show Way _ _ _ _ (T138.setTop (mkF m 61 #[iv p0, iv p1, iv p2, iv p3, iv p4, iv p5, iv ((p5 &&& (2147483647 : Int32)) % (3 : Int32)), rv a109, iv 9, iv (p0 &&& (7 : Int32)), .unset, .unset, .unset, .unset, .unset, .unset, .unset] [(.int 10), (.int (p1 &&& (2147483647 : Int32)))]))
        refine Way.by (fun _ k => iremM X139 hx rfl (hb hby at_61) rfl (by decide) k) ?_
        show Way _ _ _ _ (T138.setTop (mkF m 62 #[iv p0, iv p1, iv p2, iv p3, iv p4, iv p5, iv ((p5 &&& (2147483647 : Int32)) % (3 : Int32)), rv a109, iv 9, iv (p0 &&& (7 : Int32)), .unset, .unset, .unset, .unset, .unset, .unset, .unset] [(.int ((p1 &&& (2147483647 : Int32)) % (10 : Int32)))]))
        refine Way.by (fun _ k => XS.goto X139.here hx rfl (pc0 := 62) (pc' := 72) rfl (hb hby at_62) (by decide) (by decide) k) ?_
        show Way _ _ _ _ (T138.setTop (mkF m 72 #[iv p0, iv p1, iv p2, iv p3, iv p4, iv p5, iv ((p5 &&& (2147483647 : Int32)) % (3 : Int32)), rv a109, iv 9, iv (p0 &&& (7 : Int32)), .unset, .unset, .unset, .unset, .unset, .unset, .unset] [(.int ((p1 &&& (2147483647 : Int32)) % (10 : Int32)))]))
        refine Way.by (fun _ k => XS.istore X139.here hx rfl (hb hby at_72) rfl (l' := #[iv p0, iv p1, iv p2, iv p3, iv p4, iv p5, iv ((p5 &&& (2147483647 : Int32)) % (3 : Int32)), rv a109, iv 9, iv (p0 &&& (7 : Int32)), iv ((p1 &&& (2147483647 : Int32)) % (10 : Int32)), .unset, .unset, .unset, .unset, .unset, .unset]) rfl k) ?_
        show Way _ _ _ _ (T138.setTop (mkF m 74 #[iv p0, iv p1, iv p2, iv p3, iv p4, iv p5, iv ((p5 &&& (2147483647 : Int32)) % (3 : Int32)), rv a109, iv 9, iv (p0 &&& (7 : Int32)), iv ((p1 &&& (2147483647 : Int32)) % (10 : Int32)), .unset, .unset, .unset, .unset, .unset, .unset] []))
        exact seg74 l Z a0 hw ws p0 p1 p2 p3 p4 p5 va kv uUSER uSYSTEM_USER uGROUP tUSER tUSERt tSYSTEM_USER tSYSTEM_USERt tGROUP tGROUPt h0 n0 Z0 O0 SV SVS EVA AVA EUSER FUSER TUSER ESYSTEM_USER FSYSTEM_USER TSYSTEM_USER EGROUP FGROUP TGROUP SUSER SSYSTEM_USER SGROUP p e s m below meth c s₁ Bd hml _ hZ120 hown121 _ hS118 hh T138 h111 _ (X139.mono (by decide) (by decide)) e150 N149 Z135 hk119 H132 CH133 O136 ((p5 &&& (2147483647 : Int32)) % (3 : Int32)) a109 (9 : Int32) (p0 &&& (7 : Int32)) ((p1 &&& (2147483647 : Int32)) % (10 : Int32)) bd113 [114, 101, 112, 58, 71, 114, 111, 117, 112] F137 (by decide)
      · skip
        refine Way.by (fun _ k => XS.icmpYes X139.here hx rfl (pc0 := 50) (pc' := 65) rfl (hb hby at_50) rfl (feq b161).2 (by decide) (by decide) k) ?_
        show Way _ _ _ _ (T138.setTop (mkF m 65 #[iv p0, iv p1, iv p2, iv p3, iv p4, iv p5, iv ((p5 &&& (2147483647 : Int32)) % (3 : Int32)), rv a109, iv 9, iv (p0 &&& (7 : Int32)), .unset, .unset, .unset, .unset, .unset, .unset, .unset] []))
        refine Way.by (fun _ k => XS.iloadN X139.here hx rfl (hb hby at_65) rfl k) ?_
        show Way _ _ _ _ (T138.setTop (mkF m 66 #[iv p0, iv p1, iv p2, iv p3, iv p4, iv p5, iv ((p5 &&& (2147483647 : Int32)) % (3 : Int32)), rv a109, iv 9, iv (p0 &&& (7 : Int32)), .unset, .unset, .unset, .unset, .unset, .unset, .unset] [(.int p1)]))
        refine Way.by (Stand.ldcInt X139 hx hown121 (mvT hZ120 (tw hw 0 rfl)) rfl (hb hby at_66)) ?_
        show Way _ _ _ _ (T138.setTop (mkF m 68 #[iv p0, iv p1, iv p2, iv p3, iv p4, iv p5, iv ((p5 &&& (2147483647 : Int32)) % (3 : Int32)), rv a109, iv 9, iv (p0 &&& (7 : Int32)), .unset, .unset, .unset, .unset, .unset, .unset, .unset] [(.int 2147483647), (.int p1)]))
        refine Way.by (fun _ k => XS.iand X139.here hx rfl (hb hby at_68) rfl k) ?_
        show Way _ _ _ _ (T138.setTop (mkF m 69 #[iv p0, iv p1, iv p2, iv p3, iv p4, iv p5, iv ((p5 &&& (2147483647 : Int32)) % (3 : Int32)), rv a109, iv 9, iv (p0 &&& (7 : Int32)), .unset, .unset, .unset, .unset, .unset, .unset, .unset] [(.int (p1 &&& (2147483647 : Int32)))]))
        refine Way.by (fun _ k => XS.iload X139.here hx rfl (hb hby at_69) rfl k) ?_
        show Way _ _ _ _ (T138.setTop (mkF m 71 #[iv p0, iv p1, iv p2, iv p3, iv p4, iv p5, iv ((p5 &&& (2147483647 : Int32)) % (3 : Int32)), rv a109, iv 9, iv (p0 &&& (7 : Int32)), .unset, .unset, .unset, .unset, .unset, .unset, .unset] [(.int 9), (.int (p1 &&& (2147483647 : Int32)))]))
        refine Way.by (fun _ k => iremM X139 hx rfl (hb hby at_71) rfl (by decide) k) ?_
        show Way _ _ _ _ (T138.setTop (mkF m 72 #[iv p0, iv p1, iv p2, iv p3, iv p4, iv p5, iv ((p5 &&& (2147483647 : Int32)) % (3 : Int32)), rv a109, iv 9, iv (p0 &&& (7 : Int32)), .unset, .unset, .unset, .unset, .unset, .unset, .unset] [(.int ((p1 &&& (2147483647 : Int32)) % (9 : Int32)))]))
        refine Way.by (fun _ k => XS.istore X139.here hx rfl (hb hby at_72) rfl (l' := #[iv p0, iv p1, iv p2, iv p3, iv p4, iv p5, iv ((p5 &&& (2147483647 : Int32)) % (3 : Int32)), rv a109, iv 9, iv (p0 &&& (7 : Int32)), iv ((p1 &&& (2147483647 : Int32)) % (9 : Int32)), .unset, .unset, .unset, .unset, .unset, .unset]) rfl k) ?_
        show Way _ _ _ _ (T138.setTop (mkF m 74 #[iv p0, iv p1, iv p2, iv p3, iv p4, iv p5, iv ((p5 &&& (2147483647 : Int32)) % (3 : Int32)), rv a109, iv 9, iv (p0 &&& (7 : Int32)), iv ((p1 &&& (2147483647 : Int32)) % (9 : Int32)), .unset, .unset, .unset, .unset, .unset, .unset] []))
        exact seg74 l Z a0 hw ws p0 p1 p2 p3 p4 p5 va kv uUSER uSYSTEM_USER uGROUP tUSER tUSERt tSYSTEM_USER tSYSTEM_USERt tGROUP tGROUPt h0 n0 Z0 O0 SV SVS EVA AVA EUSER FUSER TUSER ESYSTEM_USER FSYSTEM_USER TSYSTEM_USER EGROUP FGROUP TGROUP SUSER SSYSTEM_USER SGROUP p e s m below meth c s₁ Bd hml _ hZ120 hown121 _ hS118 hh T138 h111 _ (X139.mono (by decide) (by decide)) e150 N149 Z135 hk119 H132 CH133 O136 ((p5 &&& (2147483647 : Int32)) % (3 : Int32)) a109 (9 : Int32) (p0 &&& (7 : Int32)) ((p1 &&& (2147483647 : Int32)) % (9 : Int32)) bd113 [114, 101, 112, 58, 71, 114, 111, 117, 112] F137 (by decide)
theorem comes_1 {Post : Tables → Env → Array Value → State → Outcome → State → Prop} (hpost : ∀ tb e args s v u, (limb_1_1.after args s (.returned v) u = true ∧ limb_1_2.after args s (.returned v) u = true ∧ True) → ReturnedEndW s (.returned v) u (Jvm.fieldLocs frame_1_writes args s ++ Jvm.arrayLocs frame_1_arrays args s ++ Jvm.staticLocs frame_1_statics s) 32 4288 → Post tb e args s (.returned v) u) :
    ArmFor flags0 classFile x code maxLocals ret World_1 tables_1 room_1 Calls_1 rest_1 Pre_1 Post := by
  intro l hfl _ _ p e ha hc hk s m args below hf hA hF happ hP
  obtain ⟨hcalls, hrest, hpre⟩ := hP
  obtain ⟨-, -, -, hnamed, -, -, -, hat⟩ := (Spec.applies_iff hf).mp happ
  obtain ⟨hg, hn⟩ := and_e (Cond.before_iff.mp (show (Jvm.Cond.and given_1 narrow_1).before args s = true from hpre))
  obtain ⟨hg0, hgr0⟩ := and_e hg
  obtain ⟨hg1, hgr1⟩ := and_e hgr0
  obtain ⟨hg2, hgr2⟩ := and_e hgr1
  obtain ⟨hg3, hgr3⟩ := and_e hgr2
  obtain ⟨hg4, hgr4⟩ := and_e hgr3
  obtain ⟨hg5, hgr5⟩ := and_e hgr4
  obtain ⟨w0, w1, w2, w3, w4, w5, rfl⟩ : ∃ w0 w1 w2 w3 w4 w5 : Value, args = #[w0, w1, w2, w3, w4, w5] := by
    have hs : args.size = 6 := by simpa [Cond.value, given_1] using hg0
    obtain ⟨L⟩ := args
    match L, hs with
    | [w0, w1, w2, w3, w4, w5], _ => exact ⟨w0, w1, w2, w3, w4, w5, rfl⟩
  have hw := fun d (hd : d ∈ tables_1) => atoms_spec (ws := Jvm.Cond.code x code maxLocals ret :: tables_1) hat d (List.mem_cons_of_mem _ hd)
  have hfit : Fit s := fun {y c} hc i hi => by
    obtain ⟨ha, rfl⟩ := Array.getElem?_eq_some_iff.mp hc
    have q := List.all_eq_true.mp ((Array.all_eq_true_iff_forall_mem.mp hF) _ (Array.getElem_mem ha)) i (List.mem_range.mpr hi)
    simpa [Array.getElem?_eq_getElem hi] using q
  obtain ⟨i0, ei0⟩ := is_v hg1
  obtain rfl : w0 = (.int i0) := Option.some.inj ei0
  obtain ⟨i1, ei1⟩ := is_v hg2
  obtain rfl : w1 = (.int i1) := Option.some.inj ei1
  obtain ⟨i2, ei2⟩ := is_v hg3
  obtain rfl : w2 = (.int i2) := Option.some.inj ei2
  obtain ⟨i3, ei3⟩ := is_v hg4
  obtain rfl : w3 = (.int i3) := Option.some.inj ei3
  obtain ⟨i4, ei4⟩ := is_v hg5
  obtain rfl : w4 = (.int i4) := Option.some.inj ei4
  obtain ⟨i5, ei5⟩ := is_v hgr5
  obtain rfl : w5 = (.int i5) := Option.some.inj ei5
  obtain ⟨hn0, hnr0⟩ := and_e hn
  obtain ⟨hn1, hnr1⟩ := and_e hnr0
  obtain ⟨hn2, hnr2⟩ := and_e hnr1
  obtain ⟨hn3, hnr3⟩ := and_e hnr2
  obtain ⟨hn4, hnr4⟩ := and_e hnr3
  obtain ⟨hn5, hnr5⟩ := and_e hnr4
  obtain ⟨hn6, hnr6⟩ := and_e hnr5
  obtain ⟨hn7, hnr7⟩ := and_e hnr6
  obtain ⟨hn8, hnr8⟩ := and_e hnr7
  obtain ⟨hn9, hnr9⟩ := and_e hnr8
  obtain ⟨hn10, hnr10⟩ := and_e hnr9
  obtain ⟨hn11, hnr11⟩ := and_e hnr10
  obtain ⟨hn12, hnr12⟩ := and_e hnr11
  obtain ⟨hn13, hnr13⟩ := and_e hnr12
  obtain ⟨hn14, hnr14⟩ := and_e hnr13
  obtain ⟨hn15, hnr15⟩ := and_e hnr14
  obtain ⟨hn16, hnr16⟩ := and_e hnr15
  obtain ⟨hn17, hnr17⟩ := and_e hnr16
  obtain ⟨hn18, hnr18⟩ := and_e hnr17
  obtain ⟨hn19, hnr19⟩ := and_e hnr18
  obtain ⟨hn20, hnr20⟩ := and_e hnr19
  obtain ⟨hn21, hnr21⟩ := and_e hnr20
  obtain ⟨hn22, hnr22⟩ := and_e hnr21
  obtain ⟨hn23, hnr23⟩ := and_e hnr22
  obtain ⟨hn24, hnr24⟩ := and_e hnr23
  obtain ⟨hn25, hnr25⟩ := and_e hnr24
  obtain ⟨hn26, hnr26⟩ := and_e hnr25
  obtain ⟨hn27, hnr27⟩ := and_e hnr26
  obtain ⟨hn28, hnr28⟩ := and_e hnr27
  obtain ⟨hn29, hnr29⟩ := and_e hnr28
  obtain ⟨hn30, hnr30⟩ := and_e hnr29
  obtain ⟨hn31, hnr31⟩ := and_e hnr30
  obtain ⟨hn32, hnr32⟩ := and_e hnr31
  obtain ⟨hn33, hnr33⟩ := and_e hnr32
  obtain ⟨hn34, hnr34⟩ := and_e hnr33
  obtain ⟨hn35, hnr35⟩ := and_e hnr34
  obtain ⟨hn36, hnr36⟩ := and_e hnr35
  obtain ⟨hn37, hnr37⟩ := and_e hnr36
  obtain ⟨hn38, hnr38⟩ := and_e hnr37
  obtain ⟨hn39, hnr39⟩ := and_e hnr38
  obtain ⟨hn40, hnr40⟩ := and_e hnr39
  obtain ⟨hn41, hnr41⟩ := and_e hnr40
  obtain ⟨hn42, hnr42⟩ := and_e hnr41
  obtain ⟨hn43, hnr43⟩ := and_e hnr42
  obtain ⟨hn44, hnr44⟩ := and_e hnr43
  obtain ⟨hn45, hnr45⟩ := and_e hnr44
  obtain ⟨hn46, hnr46⟩ := and_e hnr45
  obtain ⟨hn47, hnr47⟩ := and_e hnr46
  obtain ⟨hn48, hnr48⟩ := and_e hnr47
  obtain ⟨hn49, hnr49⟩ := and_e hnr48
  obtain ⟨hn50, hnr50⟩ := and_e hnr49
  obtain ⟨u_VALUES, _, _, _, ev_VALUES, -⟩ := Cond.exactly_spec (Cond.before_iff.mpr hn1)
  have S_VALUES := Sta.start ev_VALUES (Or.inr ⟨(tw hw 78 rfl), (tw hw 84 rfl)⟩)
  have E_VALUES := Exa.start ev_VALUES hn1
  obtain ⟨uUSER, _, _, _, evUSER, -⟩ := Cond.exactly_spec (Cond.before_iff.mpr hn3)
  have SUSER := Sta.start evUSER (Or.inr ⟨(tw hw 78 rfl), (tw hw 92 rfl)⟩)
  have EUSER := Exa.start evUSER hn3
  obtain ⟨uSYSTEM_USER, _, _, _, evSYSTEM_USER, -⟩ := Cond.exactly_spec (Cond.before_iff.mpr hn5)
  have SSYSTEM_USER := Sta.start evSYSTEM_USER (Or.inr ⟨(tw hw 78 rfl), (tw hw 93 rfl)⟩)
  have ESYSTEM_USER := Exa.start evSYSTEM_USER hn5
  obtain ⟨uGROUP, _, _, _, evGROUP, -⟩ := Cond.exactly_spec (Cond.before_iff.mpr hn7)
  have SGROUP := Sta.start evGROUP (Or.inr ⟨(tw hw 78 rfl), (tw hw 94 rfl)⟩)
  have EGROUP := Exa.start evGROUP hn7
  have hs := atoms_of jdkStatics_1 (show (jdkStatics_1.foldr Jvm.Cond.and restOwn_1).before _ s = true from hrest)
  have SV : own_Env s := by
    refine ⟨?_, ?_⟩
    · obtain ⟨G1, ev⟩ := is_v (Cond.before_iff.mp (hs.1 _ (List.mem_of_getElem? (i := 1) rfl)))
      exact ⟨G1, Sta.start ev (Or.inl (hs.1 _ (List.mem_of_getElem? (i := 0) rfl))), envNe ev (hs.1 _ (List.mem_of_getElem? (i := 2) rfl))⟩
    · obtain ⟨G3, ev, rG⟩ := envRef (hs.1 _ (List.mem_of_getElem? (i := 8) rfl))
      exact ⟨G3, Sta.start ev (Or.inl (hs.1 _ (List.mem_of_getElem? (i := 7) rfl))), rG⟩

  have HC : CHv s own_EL s.vm s.heap := CHv.start (own_EW hw) (fun q hq => hcalls.1 q hq) (hs.1 _ (List.mem_of_getElem? (i := 2) rfl)) (tw hw 4 rfl) (tw hw 3 rfl)
  obtain ⟨clV, AVl⟩ := Arr.start ev_VALUES hn0
  obtain ⟨hszV, hlenV⟩ := Jvm.Free.IntBox.length_fwd (Cond.before_iff.mpr hn2) ev_VALUES AVl.1 AVl.2.1 AVl.2.2
  have qV0 := (elem_in (evRef hn4 evUSER) ev_VALUES (Term.int_eval 0) AVl.1).2
  have qV1 := (elem_in (evRef hn6 evSYSTEM_USER) ev_VALUES (Term.int_eval 1) AVl.1).2
  have qV2 := (elem_in (evRef hn8 evGROUP) ev_VALUES (Term.int_eval 2) AVl.1).2
  have AVA : Arv s s.heap u_VALUES clV.cls (.object "com/example/unbound_principals/unboundprincipals/AuthorizableKind") (3 : Int32) [(.ref uUSER), (.ref uSYSTEM_USER), (.ref uGROUP)] .null := Arv.start hfit AVl hszV hlenV (by decide) rfl ⟨qV0, qV1, qV2, trivial⟩
  obtain ⟨tUSER, _, _, _, evtUSER, -⟩ := Cond.exactly_spec (Cond.before_iff.mpr hn9)
  have FnUSER : Fld s s.heap uUSER "com/example/unbound_principals/unboundprincipals/AuthorizableKind" "nodeType" "Ljava/lang/String;" (.ref tUSER) := Fld.start ((fld_at evUSER).symm.trans evtUSER)
  have EtUSER := Exa.start evtUSER hn9
  have CtUSER := fldStart evtUSER hn10
  obtain ⟨_, _, e1tUSER, -, -⟩ := cmp_v (Or.inl hn12)
  obtain ⟨tUSERt, evVtUSER⟩ := len_v e1tUSER
  obtain ⟨cltUSER, AVtUSER⟩ := Arr.start evVtUSER hn11
  have FVtUSER : Fld s s.heap tUSER "java/lang/String" "value" "[B" (.ref tUSERt) := Fld.start ((fld_at evtUSER).symm.trans evVtUSER)
  obtain ⟨hsztUSER, hlentUSER⟩ := Jvm.Free.IntBox.length_fwd (Cond.before_iff.mpr hn12) evVtUSER AVtUSER.1 AVtUSER.2.1 AVtUSER.2.2
  have qtUSER0 := (elem_in (evInt hn21) evVtUSER (Term.int_eval 0) AVtUSER.1).2
  have qtUSER1 := (elem_in (evInt hn22) evVtUSER (Term.int_eval 1) AVtUSER.1).2
  have qtUSER2 := (elem_in (evInt hn23) evVtUSER (Term.int_eval 2) AVtUSER.1).2
  have qtUSER3 := (elem_in (evInt hn24) evVtUSER (Term.int_eval 3) AVtUSER.1).2
  have qtUSER4 := (elem_in (evInt hn25) evVtUSER (Term.int_eval 4) AVtUSER.1).2
  have qtUSER5 := (elem_in (evInt hn26) evVtUSER (Term.int_eval 5) AVtUSER.1).2
  have qtUSER6 := (elem_in (evInt hn27) evVtUSER (Term.int_eval 6) AVtUSER.1).2
  have qtUSER7 := (elem_in (evInt hn28) evVtUSER (Term.int_eval 7) AVtUSER.1).2
  have VVtUSER : Arv s s.heap tUSERt cltUSER.cls .byte (8 : Int32) [(.int 114), (.int 101), (.int 112), (.int 58), (.int 85), (.int 115), (.int 101), (.int 114)] (.int 0) := Arv.start hfit AVtUSER hsztUSER hlentUSER (by decide) rfl ⟨qtUSER0, qtUSER1, qtUSER2, qtUSER3, qtUSER4, qtUSER5, qtUSER6, qtUSER7, trivial⟩
  have StUSER : own_Str s s.heap tUSER tUSERt [114, 101, 112, 58, 85, 115, 101, 114] := ⟨EtUSER, FVtUSER, CtUSER, ⟨_, _, _, VVtUSER, Or.inl ⟨rfl, rfl, rfl, by decide⟩⟩, by decide, by decide⟩
  obtain ⟨tSYSTEM_USER, _, _, _, evtSYSTEM_USER, -⟩ := Cond.exactly_spec (Cond.before_iff.mpr hn13)
  have FnSYSTEM_USER : Fld s s.heap uSYSTEM_USER "com/example/unbound_principals/unboundprincipals/AuthorizableKind" "nodeType" "Ljava/lang/String;" (.ref tSYSTEM_USER) := Fld.start ((fld_at evSYSTEM_USER).symm.trans evtSYSTEM_USER)
  have EtSYSTEM_USER := Exa.start evtSYSTEM_USER hn13
  have CtSYSTEM_USER := fldStart evtSYSTEM_USER hn15
  obtain ⟨_, _, e1tSYSTEM_USER, -, -⟩ := cmp_v (Or.inl hn17)
  obtain ⟨tSYSTEM_USERt, evVtSYSTEM_USER⟩ := len_v e1tSYSTEM_USER
  obtain ⟨cltSYSTEM_USER, AVtSYSTEM_USER⟩ := Arr.start evVtSYSTEM_USER hn16
  have FVtSYSTEM_USER : Fld s s.heap tSYSTEM_USER "java/lang/String" "value" "[B" (.ref tSYSTEM_USERt) := Fld.start ((fld_at evtSYSTEM_USER).symm.trans evVtSYSTEM_USER)
  obtain ⟨hsztSYSTEM_USER, hlentSYSTEM_USER⟩ := Jvm.Free.IntBox.length_fwd (Cond.before_iff.mpr hn17) evVtSYSTEM_USER AVtSYSTEM_USER.1 AVtSYSTEM_USER.2.1 AVtSYSTEM_USER.2.2
  have qtSYSTEM_USER0 := (elem_in (evInt hn29) evVtSYSTEM_USER (Term.int_eval 0) AVtSYSTEM_USER.1).2
  have qtSYSTEM_USER1 := (elem_in (evInt hn30) evVtSYSTEM_USER (Term.int_eval 1) AVtSYSTEM_USER.1).2
  have qtSYSTEM_USER2 := (elem_in (evInt hn31) evVtSYSTEM_USER (Term.int_eval 2) AVtSYSTEM_USER.1).2
  have qtSYSTEM_USER3 := (elem_in (evInt hn32) evVtSYSTEM_USER (Term.int_eval 3) AVtSYSTEM_USER.1).2
  have qtSYSTEM_USER4 := (elem_in (evInt hn33) evVtSYSTEM_USER (Term.int_eval 4) AVtSYSTEM_USER.1).2
  have qtSYSTEM_USER5 := (elem_in (evInt hn34) evVtSYSTEM_USER (Term.int_eval 5) AVtSYSTEM_USER.1).2
  have qtSYSTEM_USER6 := (elem_in (evInt hn35) evVtSYSTEM_USER (Term.int_eval 6) AVtSYSTEM_USER.1).2
  have qtSYSTEM_USER7 := (elem_in (evInt hn36) evVtSYSTEM_USER (Term.int_eval 7) AVtSYSTEM_USER.1).2
  have qtSYSTEM_USER8 := (elem_in (evInt hn37) evVtSYSTEM_USER (Term.int_eval 8) AVtSYSTEM_USER.1).2
  have qtSYSTEM_USER9 := (elem_in (evInt hn38) evVtSYSTEM_USER (Term.int_eval 9) AVtSYSTEM_USER.1).2
  have qtSYSTEM_USER10 := (elem_in (evInt hn39) evVtSYSTEM_USER (Term.int_eval 10) AVtSYSTEM_USER.1).2
  have qtSYSTEM_USER11 := (elem_in (evInt hn40) evVtSYSTEM_USER (Term.int_eval 11) AVtSYSTEM_USER.1).2
  have qtSYSTEM_USER12 := (elem_in (evInt hn41) evVtSYSTEM_USER (Term.int_eval 12) AVtSYSTEM_USER.1).2
  have qtSYSTEM_USER13 := (elem_in (evInt hn42) evVtSYSTEM_USER (Term.int_eval 13) AVtSYSTEM_USER.1).2
  have VVtSYSTEM_USER : Arv s s.heap tSYSTEM_USERt cltSYSTEM_USER.cls .byte (14 : Int32) [(.int 114), (.int 101), (.int 112), (.int 58), (.int 83), (.int 121), (.int 115), (.int 116), (.int 101), (.int 109), (.int 85), (.int 115), (.int 101), (.int 114)] (.int 0) := Arv.start hfit AVtSYSTEM_USER hsztSYSTEM_USER hlentSYSTEM_USER (by decide) rfl ⟨qtSYSTEM_USER0, qtSYSTEM_USER1, qtSYSTEM_USER2, qtSYSTEM_USER3, qtSYSTEM_USER4, qtSYSTEM_USER5, qtSYSTEM_USER6, qtSYSTEM_USER7, qtSYSTEM_USER8, qtSYSTEM_USER9, qtSYSTEM_USER10, qtSYSTEM_USER11, qtSYSTEM_USER12, qtSYSTEM_USER13, trivial⟩
  have StSYSTEM_USER : own_Str s s.heap tSYSTEM_USER tSYSTEM_USERt [114, 101, 112, 58, 83, 121, 115, 116, 101, 109, 85, 115, 101, 114] := ⟨EtSYSTEM_USER, FVtSYSTEM_USER, CtSYSTEM_USER, ⟨_, _, _, VVtSYSTEM_USER, Or.inl ⟨rfl, rfl, rfl, by decide⟩⟩, by decide, by decide⟩
  obtain ⟨tGROUP, _, _, _, evtGROUP, -⟩ := Cond.exactly_spec (Cond.before_iff.mpr hn14)
  have FnGROUP : Fld s s.heap uGROUP "com/example/unbound_principals/unboundprincipals/AuthorizableKind" "nodeType" "Ljava/lang/String;" (.ref tGROUP) := Fld.start ((fld_at evGROUP).symm.trans evtGROUP)
  have EtGROUP := Exa.start evtGROUP hn14
  have CtGROUP := fldStart evtGROUP hn18
  obtain ⟨_, _, e1tGROUP, -, -⟩ := cmp_v (Or.inl hn20)
  obtain ⟨tGROUPt, evVtGROUP⟩ := len_v e1tGROUP
  obtain ⟨cltGROUP, AVtGROUP⟩ := Arr.start evVtGROUP hn19
  have FVtGROUP : Fld s s.heap tGROUP "java/lang/String" "value" "[B" (.ref tGROUPt) := Fld.start ((fld_at evtGROUP).symm.trans evVtGROUP)
  obtain ⟨hsztGROUP, hlentGROUP⟩ := Jvm.Free.IntBox.length_fwd (Cond.before_iff.mpr hn20) evVtGROUP AVtGROUP.1 AVtGROUP.2.1 AVtGROUP.2.2
  have qtGROUP0 := (elem_in (evInt hn43) evVtGROUP (Term.int_eval 0) AVtGROUP.1).2
  have qtGROUP1 := (elem_in (evInt hn44) evVtGROUP (Term.int_eval 1) AVtGROUP.1).2
  have qtGROUP2 := (elem_in (evInt hn45) evVtGROUP (Term.int_eval 2) AVtGROUP.1).2
  have qtGROUP3 := (elem_in (evInt hn46) evVtGROUP (Term.int_eval 3) AVtGROUP.1).2
  have qtGROUP4 := (elem_in (evInt hn47) evVtGROUP (Term.int_eval 4) AVtGROUP.1).2
  have qtGROUP5 := (elem_in (evInt hn48) evVtGROUP (Term.int_eval 5) AVtGROUP.1).2
  have qtGROUP6 := (elem_in (evInt hn49) evVtGROUP (Term.int_eval 6) AVtGROUP.1).2
  have qtGROUP7 := (elem_in (evInt hn50) evVtGROUP (Term.int_eval 7) AVtGROUP.1).2
  have qtGROUP8 := (elem_in (evInt hnr50) evVtGROUP (Term.int_eval 8) AVtGROUP.1).2
  have VVtGROUP : Arv s s.heap tGROUPt cltGROUP.cls .byte (9 : Int32) [(.int 114), (.int 101), (.int 112), (.int 58), (.int 71), (.int 114), (.int 111), (.int 117), (.int 112)] (.int 0) := Arv.start hfit AVtGROUP hsztGROUP hlentGROUP (by decide) rfl ⟨qtGROUP0, qtGROUP1, qtGROUP2, qtGROUP3, qtGROUP4, qtGROUP5, qtGROUP6, qtGROUP7, qtGROUP8, trivial⟩
  have StGROUP : own_Str s s.heap tGROUP tGROUPt [114, 101, 112, 58, 71, 114, 111, 117, 112] := ⟨EtGROUP, FVtGROUP, CtGROUP, ⟨_, _, _, VVtGROUP, Or.inl ⟨rfl, rfl, rfl, by decide⟩⟩, by decide, by decide⟩
  obtain ⟨n, o, h1, h2, h3, _, L, rfl, ⟨rfl, N⟩, -, hq⟩ := rm0 l s _ hw tables_1 i0 i1 i2 i3 i4 i5 u_VALUES clV.cls uUSER uSYSTEM_USER uGROUP tUSER tUSERt tSYSTEM_USER tSYSTEM_USERt tGROUP tGROUPt s.heap s.heap.size (Nat.le_refl _) (Old.start s) SV S_VALUES E_VALUES AVA EUSER FnUSER StUSER ESYSTEM_USER FnSYSTEM_USER StSYSTEM_USER EGROUP FnGROUP StGROUP SUSER SSYSTEM_USER SGROUP p e ha hc hk s m _ below hf ((Spec.applies_iff_loose hf).mp happ).1 ⟨rfl, State.Warmed39.refl s, rfl, HC⟩ trivial
  refine ⟨n, _, h1, h2, h3, hpost _ _ _ _ _ _ ⟨Cond.after_iff.mpr rfl, Cond.after_iff.mpr (eq_i res_at (Term.int_eval (1)) rfl), trivial⟩ ⟨hq.1, hq.2.1, hq.2.2.1, (hq.2.2.2.sift fun y hy => Or.inr (N y hy)).mono (by decide) (by decide)⟩⟩
theorem main_1_1 : Claimed_1_1 := comes_1 fun _ _ _ _ _ _ h hF => ⟨h.1, hF⟩
theorem main_1_2 : Claimed_1_2 := comes_1 fun _ _ _ _ _ _ h hF => ⟨h.2.1, hF⟩
end Jvm.Pilot.@@N@@
namespace Jvm.Pilot.@@N@@
open Jvm Jvm.ClassFile Sem Op Lib Jvm.Free Jvm.Stand Jvm.Pilot.@@N@@.Jvm.D
/-! MADE BY PROGRAM (witnessworld.py) out of the Statement's table words and the real class files: 22 classes; the members and pool entries that the words name. The judged class is class 1, her method 1. -/
namespace start1
open Jvm.ClassFile
def u (s : String) : CpInfo := .utf8 (stringToUtf16 s)
/-- a pool by its gaps: so many unusable entries, then the entry; so many at the end -/
def gap : Nat → List CpInfo → List CpInfo
  | 0, r => r
  | n + 1, r => .unusable :: gap n r
def poolList (es : List (Nat × CpInfo)) (last : Nat) : List CpInfo := es.foldr (fun e r => gap e.1 (e.2 :: r)) (gap last [])
def pool (es : List (Nat × CpInfo)) (last : Nat) : Array CpInfo := ⟨poolList es last⟩
def fileOf (pool : Array CpInfo) (this : Nat) (attrs : Array Attribute := #[]) (ms : Array MethodInfo := #[]) (fl : Nat := 33) (sup : Nat := 0) (ifs : Array Nat := #[]) (fds : Array FieldInfo := #[]) : ClassFile where
  minorVersion := 0
  majorVersion := 65
  constantPool := pool
  accessFlags := fl
  thisClass := this
  superClass := sup
  interfaces := ifs
  fields := fds
  methods := ms
  attributes := attrs
def plain (name : String) (sup : Option ClassId) : Class where
  name := name
  kind := .ordinary
  loader := none
  accessFlags := 33
  super := sup
  interfaces := #[]
  cf := none
  fields := #[]
  methods := #[]
  instanceTypes := #[]
  staticTypes := #[]
  resolved := #[]
  callSites := []
  init := .initialized
  statics := none
  mirror := none

def pool0 : Array CpInfo := pool [(5, u "<init>"), (0, u "()V"), (1, .class_ 10), (1, u "java/lang/Object"), (85, u "clone"), (0, u "()Ljava/lang/Object;")] 26

def k0c0 : Code := { maxStack := 0, maxLocals := 1, code := object_method_1_code, exceptionTable := #[], attributes := #[] }
def k0m0 : Method := { name := "<init>", desc := "()V", sig := { parameters := [], returnType := none }, accessFlags := 1, code := some k0c0 }
def k0m1 : Method := { name := "clone", desc := "()Ljava/lang/Object;", sig := { parameters := [], returnType := some (.object "java/lang/Object") }, accessFlags := 260, code := none }
/-- java/lang/Object -/
def k0 : Class := { plain "java/lang/Object" none with
  accessFlags := 33
  interfaces := #[]
  cf := some (fileOf pool0 8 #[] #[{ accessFlags := 1, nameIndex := 5, descriptorIndex := 6, attributes := #[] }, { accessFlags := 260, nameIndex := 96, descriptorIndex := 97, attributes := #[] }] 33 0 #[] #[])
  fields := #[]
  methods := #[k0m0, k0m1]
  instanceTypes := #[]
  staticTypes := #[]
  resolved := Array.replicate 124 none
  statics := none }

def pool1 : Array CpInfo := pool [(2, .class_ 4), (1, u "java/lang/Object"), (0, u "<init>"), (0, u "()V"), (0, .integer 2147483647), (0, .string 9), (0, u "rep:User"), (0, .string 11), (0, u "rep:SystemUser"), (0, .string 13), (0, u "rep:Group"), (0, .methodref 15 16), (0, .class_ 17), (0, .nameAndType 18 19), (0, u "java/lang/String"), (0, u "length"), (0, u "()I"), (0, .methodref 21 22), (0, .class_ 23), (0, .nameAndType 24 25), (0, u "com/example/unbound_principals/unboundprincipals/AuthorizableKindOfNodeTypePinLaw"), (0, u "at"), (0, u "(Ljava/lang/String;IICICI)C"), (0, .methodref 15 27), (0, .nameAndType 5 28), (0, u "([C)V"), (0, .methodref 21 30), (0, .nameAndType 31 32), (0, u "mk"), (0, u "([CI)Ljava/lang/String;"), (0, .methodref 34 35), (0, .class_ 36), (0, .nameAndType 37 38), (0, u "com/example/unbound_principals/unboundprincipals/AuthorizableKind"), (0, u "ofNodeType"), (0, u "(Ljava/lang/String;)Lcom/example/unbound_principals/unboundprincipals/AuthorizableKind;"), (0, .methodref 21 40), (0, .nameAndType 41 38), (0, u "expected"), (0, .methodref 15 43), (0, .nameAndType 44 45), (0, u "equals"), (0, u "(Ljava/lang/Object;)Z"), (0, .fieldref 34 47), (0, .nameAndType 48 49), (0, u "USER"), (0, u "Lcom/example/unbound_principals/unboundprincipals/AuthorizableKind;"), (0, .fieldref 34 51), (0, .nameAndType 52 49), (0, u "SYSTEM_USER"), (0, .fieldref 34 54), (0, .nameAndType 55 49), (0, u "GROUP"), (0, .methodref 15 57), (0, .nameAndType 58 59), (0, u "charAt"), (0, u "(I)C"), (0, .methodref 21 61), (0, .nameAndType 62 63), (0, u "get"), (0, u "(Ljava/lang/String;I)C"), (2, u "law"), (0, u "(IIIIII)Z")] 5

def k1m0 : Method := { name := "<init>", desc := "()V", sig := { parameters := [], returnType := none }, accessFlags := 1, code := none }
def k1c1 : Code := { maxStack := 10, maxLocals := 17, code := code, exceptionTable := #[], attributes := #[] }
def k1m1 : Method := { name := "law", desc := "(IIIIII)Z", sig := { parameters := [.int, .int, .int, .int, .int, .int], returnType := some .boolean }, accessFlags := 9, code := some k1c1 }
def k1c2 : Code := { maxStack := 2, maxLocals := 1, code := method_3_code, exceptionTable := #[], attributes := #[] }
def k1m2 : Method := { name := "expected", desc := "(Ljava/lang/String;)Lcom/example/unbound_principals/unboundprincipals/AuthorizableKind;", sig := { parameters := [(.object "java/lang/String")], returnType := some (.object "com/example/unbound_principals/unboundprincipals/AuthorizableKind") }, accessFlags := 10, code := some k1c2 }
def k1c3 : Code := { maxStack := 2, maxLocals := 2, code := method_4_code, exceptionTable := #[], attributes := #[] }
def k1m3 : Method := { name := "get", desc := "(Ljava/lang/String;I)C", sig := { parameters := [(.object "java/lang/String"), .int], returnType := some .char }, accessFlags := 10, code := some k1c3 }
def k1c4 : Code := { maxStack := 3, maxLocals := 7, code := method_5_code, exceptionTable := #[], attributes := #[] }
def k1m4 : Method := { name := "at", desc := "(Ljava/lang/String;IICICI)C", sig := { parameters := [(.object "java/lang/String"), .int, .int, .char, .int, .char, .int], returnType := some .char }, accessFlags := 10, code := some k1c4 }
def k1c5 : Code := { maxStack := 7, maxLocals := 2, code := method_6_code, exceptionTable := #[], attributes := #[] }
def k1m5 : Method := { name := "mk", desc := "([CI)Ljava/lang/String;", sig := { parameters := [(.array .char), .int], returnType := some (.object "java/lang/String") }, accessFlags := 10, code := some k1c5 }
/-- com/example/unbound_principals/unboundprincipals/AuthorizableKindOfNodeTypePinLaw -/
def k1 : Class := { plain "com/example/unbound_principals/unboundprincipals/AuthorizableKindOfNodeTypePinLaw" (some 0) with
  accessFlags := 49
  interfaces := #[]
  cf := some (fileOf pool1 21 #[] #[{ accessFlags := 1, nameIndex := 5, descriptorIndex := 6, attributes := #[] }, { accessFlags := 9, nameIndex := 66, descriptorIndex := 67, attributes := #[] }, { accessFlags := 10, nameIndex := 41, descriptorIndex := 38, attributes := #[] }, { accessFlags := 10, nameIndex := 62, descriptorIndex := 63, attributes := #[] }, { accessFlags := 10, nameIndex := 24, descriptorIndex := 25, attributes := #[] }, { accessFlags := 10, nameIndex := 31, descriptorIndex := 32, attributes := #[] }] 49 2 #[] #[])
  fields := #[]
  methods := #[k1m0, k1m1, k1m2, k1m3, k1m4, k1m5]
  instanceTypes := #[]
  staticTypes := #[]
  resolved := Array.replicate 73 none
  statics := none }

def pool2 : Array CpInfo := pool [(1, .class_ 2), (0, u "java/io/Serializable"), (0, .class_ 4), (0, u "java/lang/Object")] 2

/-- java/io/Serializable -/
def k2 : Class := { plain "java/io/Serializable" (some 0) with
  accessFlags := 1537
  interfaces := #[]
  cf := some (fileOf pool2 1 #[] #[] 1537 3 #[] #[])
  fields := #[]
  methods := #[]
  instanceTypes := #[]
  staticTypes := #[]
  resolved := Array.replicate 7 none
  statics := none }

def pool3 : Array CpInfo := pool [(1, .class_ 2), (0, u "java/lang/Comparable"), (0, .class_ 4), (0, u "java/lang/Object")] 7

/-- java/lang/Comparable -/
def k3 : Class := { plain "java/lang/Comparable" (some 0) with
  accessFlags := 1537
  interfaces := #[]
  cf := some (fileOf pool3 1 #[] #[] 1537 3 #[] #[])
  fields := #[]
  methods := #[]
  instanceTypes := #[]
  staticTypes := #[]
  resolved := Array.replicate 12 none
  statics := none }

def pool4 : Array CpInfo := pool [(2, .class_ 4), (1, u "java/lang/CharSequence"), (42, .class_ 48), (0, u "java/lang/CharSequence$1CodePointIterator"), (10, .class_ 60), (0, u "java/lang/CharSequence$1CharIterator"), (5, .class_ 67), (0, u "java/lang/Object")] 63

/-- java/lang/CharSequence -/
def k4 : Class := { plain "java/lang/CharSequence" (some 0) with
  accessFlags := 1537
  interfaces := #[]
  cf := some (fileOf pool4 2 #[.nestMembers #[47, 59]] #[] 1537 66 #[] #[])
  fields := #[]
  methods := #[]
  instanceTypes := #[]
  staticTypes := #[]
  resolved := Array.replicate 131 none
  statics := none }

def pool5 : Array CpInfo := pool [(1, .class_ 2), (0, u "java/lang/constant/Constable"), (0, .class_ 4), (0, u "java/lang/Object")] 6

/-- java/lang/constant/Constable -/
def k5 : Class := { plain "java/lang/constant/Constable" (some 0) with
  accessFlags := 1537
  interfaces := #[]
  cf := some (fileOf pool5 1 #[] #[] 1537 3 #[] #[])
  fields := #[]
  methods := #[]
  instanceTypes := #[]
  staticTypes := #[]
  resolved := Array.replicate 11 none
  statics := none }

def pool6 : Array CpInfo := pool [(1, .class_ 2), (0, u "java/lang/constant/ConstantDesc"), (0, .class_ 4), (0, u "java/lang/Object")] 32

/-- java/lang/constant/ConstantDesc -/
def k6 : Class := { plain "java/lang/constant/ConstantDesc" (some 0) with
  accessFlags := 1537
  interfaces := #[]
  cf := some (fileOf pool6 1 #[] #[] 1537 3 #[] #[])
  fields := #[]
  methods := #[]
  instanceTypes := #[]
  staticTypes := #[]
  resolved := Array.replicate 37 none
  statics := none }

def pool7 : Array CpInfo := pool [(1, .methodref 2 3), (0, .class_ 4), (0, .nameAndType 5 6), (0, u "java/lang/Object"), (0, u "<init>"), (0, u "()V"), (0, .string 8), (0, u ""), (0, .fieldref 10 11), (0, .class_ 12), (0, .nameAndType 13 14), (0, u "java/lang/String"), (0, u "value"), (0, u "[B"), (0, .fieldref 10 16), (0, .nameAndType 17 18), (0, u "coder"), (0, u "B"), (2, u "hash"), (0, u "I"), (2, u "hashIsZero"), (0, u "Z"), (0, .methodref 10 28), (0, .nameAndType 5 29), (0, u "([CIILjava/lang/Void;)V"), (8, .fieldref 10 39), (0, .nameAndType 40 26), (0, u "COMPACT_STRINGS"), (1, .class_ 44), (1, u "java/lang/StringUTF16"), (0, u "compress"), (1, .methodref 42 48), (0, .nameAndType 49 50), (0, u "coderFromArrayLen"), (0, u "([BI)B"), (56, .class_ 109), (1, u "java/lang/StringLatin1"), (32, u "()Z"), (34, .methodref 42 178), (0, .nameAndType 45 179), (0, u "([CII)[B"), (154, u "()I"), (0, .methodref 10 336), (0, .nameAndType 17 337), (0, u "()B"), (25, u "([BI)C"), (27, u "(II)V"), (35, u "(I)C"), (64, .methodref 10 493), (0, .nameAndType 494 142), (0, u "isLatin1"), (0, .methodref 107 496), (0, .nameAndType 497 363), (0, u "charAt"), (3, u "checkIndex"), (5, u "length"), (33, .methodref 107 542), (0, .nameAndType 543 544), (0, u "equals"), (0, u "([B[B)Z"), (28, u "(Ljava/lang/Object;)Z"), (1, .class_ 576), (0, u "java/lang/CharSequence"), (22, u "CASE_INSENSITIVE_ORDER"), (0, u "Ljava/util/Comparator;"), (409, u "([C)V"), (42, .fieldref 1054 1055), (0, .class_ 1056), (0, .nameAndType 1057 1058), (0, u "jdk/internal/util/Preconditions"), (0, u "SIOOBE_FORMATTER"), (0, u "Ljava/util/function/BiFunction;"), (0, .methodref 1054 1060), (0, .nameAndType 501 1061), (0, u "(IILjava/util/function/BiFunction;)I"), (39, u "serialPersistentFields"), (0, u "[Ljava/io/ObjectStreamField;"), (0, .class_ 1104), (0, u "java/lang/String$CaseInsensitiveComparator"), (1, .class_ 1107), (0, u "java/io/Serializable"), (0, .class_ 1109), (0, u "java/lang/Comparable"), (0, .class_ 1111), (0, u "java/lang/constant/Constable"), (0, .class_ 1113), (0, u "java/lang/constant/ConstantDesc"), (2, u "serialVersionUID"), (0, u "J"), (3, u "REPL"), (0, u "C"), (2, u "LATIN1"), (1, u "UTF16")] 323

def k7m0 : Method := { name := "<init>", desc := "()V", sig := { parameters := [], returnType := none }, accessFlags := 1, code := none }
def k7c1 : Code := { maxStack := 5, maxLocals := 2, code := jdk_42_method_3_code, exceptionTable := #[], attributes := #[] }
def k7m1 : Method := { name := "<init>", desc := "([C)V", sig := { parameters := [(.array .char)], returnType := none }, accessFlags := 1, code := some k7c1 }
def k7c2 : Code := { maxStack := 2, maxLocals := 1, code := jdk_42_method_54_code, exceptionTable := #[], attributes := #[] }
def k7m2 : Method := { name := "length", desc := "()I", sig := { parameters := [], returnType := some .int }, accessFlags := 1, code := some k7c2 }
def k7c3 : Code := { maxStack := 2, maxLocals := 2, code := jdk_42_method_56_code, exceptionTable := #[], attributes := #[] }
def k7m3 : Method := { name := "charAt", desc := "(I)C", sig := { parameters := [.int], returnType := some .char }, accessFlags := 1, code := some k7c3 }
def k7c4 : Code := { maxStack := 2, maxLocals := 3, code := jdk_42_method_66_code, exceptionTable := #[], attributes := #[] }
def k7m4 : Method := { name := "equals", desc := "(Ljava/lang/Object;)Z", sig := { parameters := [(.object "java/lang/Object")], returnType := some .boolean }, accessFlags := 1, code := some k7c4 }
def k7c5 : Code := { maxStack := 4, maxLocals := 6, code := jdk_42_method_149_code, exceptionTable := #[], attributes := #[] }
def k7m5 : Method := { name := "<init>", desc := "([CIILjava/lang/Void;)V", sig := { parameters := [(.array .char), .int, .int, (.object "java/lang/Void")], returnType := none }, accessFlags := 2, code := some k7c5 }
def k7c6 : Code := { maxStack := 1, maxLocals := 1, code := jdk_42_method_152_code, exceptionTable := #[], attributes := #[] }
def k7m6 : Method := { name := "coder", desc := "()B", sig := { parameters := [], returnType := some .byte }, accessFlags := 0, code := some k7c6 }
def k7c7 : Code := { maxStack := 1, maxLocals := 1, code := jdk_42_method_154_code, exceptionTable := #[], attributes := #[] }
def k7m7 : Method := { name := "isLatin1", desc := "()Z", sig := { parameters := [], returnType := some .boolean }, accessFlags := 0, code := some k7c7 }
def k7c8 : Code := { maxStack := 3, maxLocals := 2, code := jdk_42_method_155_code, exceptionTable := #[], attributes := #[] }
def k7m8 : Method := { name := "checkIndex", desc := "(II)V", sig := { parameters := [.int, .int], returnType := none }, accessFlags := 8, code := some k7c8 }
/-- java/lang/String -/
def k7 : Class := { plain "java/lang/String" (some 0) with
  accessFlags := 49
  interfaces := #[2, 3, 4, 5, 6]
  cf := some (fileOf pool7 10 #[.nestMembers #[1103]] #[{ accessFlags := 1, nameIndex := 5, descriptorIndex := 6, attributes := #[] }, { accessFlags := 1, nameIndex := 5, descriptorIndex := 1010, attributes := #[] }, { accessFlags := 1, nameIndex := 507, descriptorIndex := 334, attributes := #[] }, { accessFlags := 1, nameIndex := 497, descriptorIndex := 427, attributes := #[] }, { accessFlags := 1, nameIndex := 543, descriptorIndex := 573, attributes := #[] }, { accessFlags := 2, nameIndex := 5, descriptorIndex := 29, attributes := #[] }, { accessFlags := 0, nameIndex := 17, descriptorIndex := 337, attributes := #[] }, { accessFlags := 0, nameIndex := 494, descriptorIndex := 142, attributes := #[] }, { accessFlags := 8, nameIndex := 501, descriptorIndex := 391, attributes := #[] }] 49 2 #[1106, 1108, 575, 1110, 1112] #[{ accessFlags := 18, nameIndex := 13, descriptorIndex := 14, attributes := #[] }, { accessFlags := 18, nameIndex := 17, descriptorIndex := 18, attributes := #[] }, { accessFlags := 2, nameIndex := 21, descriptorIndex := 22, attributes := #[] }, { accessFlags := 2, nameIndex := 25, descriptorIndex := 26, attributes := #[] }, { accessFlags := 26, nameIndex := 1116, descriptorIndex := 1117, attributes := #[] }, { accessFlags := 24, nameIndex := 40, descriptorIndex := 26, attributes := #[] }, { accessFlags := 26, nameIndex := 1101, descriptorIndex := 1102, attributes := #[] }, { accessFlags := 26, nameIndex := 1121, descriptorIndex := 1122, attributes := #[] }, { accessFlags := 25, nameIndex := 599, descriptorIndex := 600, attributes := #[] }, { accessFlags := 24, nameIndex := 1125, descriptorIndex := 18, attributes := #[] }, { accessFlags := 24, nameIndex := 1127, descriptorIndex := 18, attributes := #[] }])
  fields := #[{ name := "value", type := (.array .byte), accessFlags := 18, slot := 0, constantValue := 0 }, { name := "coder", type := .byte, accessFlags := 18, slot := 1, constantValue := 0 }, { name := "hash", type := .int, accessFlags := 2, slot := 2, constantValue := 0 }, { name := "hashIsZero", type := .boolean, accessFlags := 2, slot := 3, constantValue := 0 }, { name := "serialVersionUID", type := .long, accessFlags := 26, slot := 0, constantValue := 0 }, { name := "COMPACT_STRINGS", type := .boolean, accessFlags := 24, slot := 1, constantValue := 0 }, { name := "serialPersistentFields", type := (.array (.object "java/io/ObjectStreamField")), accessFlags := 26, slot := 2, constantValue := 0 }, { name := "REPL", type := .char, accessFlags := 26, slot := 3, constantValue := 0 }, { name := "CASE_INSENSITIVE_ORDER", type := (.object "java/util/Comparator"), accessFlags := 25, slot := 4, constantValue := 0 }, { name := "LATIN1", type := .byte, accessFlags := 24, slot := 5, constantValue := 0 }, { name := "UTF16", type := .byte, accessFlags := 24, slot := 6, constantValue := 0 }]
  methods := #[k7m0, k7m1, k7m2, k7m3, k7m4, k7m5, k7m6, k7m7, k7m8]
  instanceTypes := #[(.array .byte), .byte, .int, .boolean]
  staticTypes := #[.long, .boolean, (.array (.object "java/io/ObjectStreamField")), .char, (.object "java/util/Comparator"), .byte, .byte]
  resolved := Array.replicate 1451 none
  statics := some 0 }

def pool8 : Array CpInfo := pool [(1, .class_ 2), (0, u "java/lang/String"), (1, .class_ 6), (1, u "java/lang/Object"), (0, u "<init>"), (0, u "()V"), (0, .methodref 1 10), (0, .nameAndType 11 12), (0, u "checkIndex"), (0, u "(II)V"), (1, .class_ 16), (1, u "java/lang/StringLatin1"), (36, u "([BI)C"), (67, u "$assertionsDisabled"), (0, u "Z"), (98, .class_ 223), (1, u "java/lang/StringLatin1$LinesSpliterator"), (28, u "charAt"), (28, u "equals"), (0, u "([B[B)Z"), (107, .class_ 391), (0, u "java/lang/StringLatin1$CharsSpliterator")] 3

def k8m0 : Method := { name := "<init>", desc := "()V", sig := { parameters := [], returnType := none }, accessFlags := 0, code := none }
def k8c1 : Code := { maxStack := 2, maxLocals := 2, code := jdk_43_method_2_code, exceptionTable := #[], attributes := #[] }
def k8m1 : Method := { name := "charAt", desc := "([BI)C", sig := { parameters := [(.array .byte), .int], returnType := some .char }, accessFlags := 9, code := some k8c1 }
def k8c2 : Code := { maxStack := 3, maxLocals := 3, code := jdk_43_method_13_code, exceptionTable := #[], attributes := #[] }
def k8m2 : Method := { name := "equals", desc := "([B[B)Z", sig := { parameters := [(.array .byte), (.array .byte)], returnType := some .boolean }, accessFlags := 9, code := some k8c2 }
/-- java/lang/StringLatin1 -/
def k8 : Class := { plain "java/lang/StringLatin1" (some 0) with
  accessFlags := 48
  interfaces := #[]
  cf := some (fileOf pool8 14 #[.nestMembers #[390, 221]] #[{ accessFlags := 0, nameIndex := 7, descriptorIndex := 8, attributes := #[] }, { accessFlags := 9, nameIndex := 252, descriptorIndex := 53, attributes := #[] }, { accessFlags := 9, nameIndex := 281, descriptorIndex := 282, attributes := #[] }] 48 4 #[] #[{ accessFlags := 4120, nameIndex := 121, descriptorIndex := 122, attributes := #[] }])
  fields := #[{ name := "$assertionsDisabled", type := .boolean, accessFlags := 4120, slot := 0, constantValue := 0 }]
  methods := #[k8m0, k8m1, k8m2]
  instanceTypes := #[]
  staticTypes := #[.boolean]
  resolved := Array.replicate 395 none
  statics := none }

def pool9 : Array CpInfo := pool [(2, .class_ 4), (1, u "java/lang/Object"), (0, u "<init>"), (0, u "()V"), (17, .class_ 26), (1, u "jdk/internal/util/Preconditions"), (6, u "checkIndex"), (21, .class_ 56), (0, u "jdk/internal/util/Preconditions$4"), (57, .class_ 115), (0, u "jdk/internal/util/Preconditions$1"), (7, u "SIOOBE_FORMATTER"), (0, u "Ljava/util/function/BiFunction;"), (0, .class_ 126), (0, u "jdk/internal/util/Preconditions$2"), (3, u "AIOOBE_FORMATTER"), (0, .class_ 132), (0, u "jdk/internal/util/Preconditions$3"), (3, u "IOOBE_FORMATTER"), (41, u "(IILjava/util/function/BiFunction;)I")] 15

def k9m0 : Method := { name := "<init>", desc := "()V", sig := { parameters := [], returnType := none }, accessFlags := 1, code := none }
def k9c1 : Code := { maxStack := 3, maxLocals := 3, code := jdk_41_method_11_code, exceptionTable := #[], attributes := #[] }
def k9m1 : Method := { name := "checkIndex", desc := "(IILjava/util/function/BiFunction;)I", sig := { parameters := [.int, .int, (.object "java/util/function/BiFunction")], returnType := some .int }, accessFlags := 9, code := some k9c1 }
/-- jdk/internal/util/Preconditions -/
def k9 : Class := { plain "jdk/internal/util/Preconditions" (some 0) with
  accessFlags := 33
  interfaces := #[]
  cf := some (fileOf pool9 24 #[.nestMembers #[55, 131, 125, 114]] #[{ accessFlags := 1, nameIndex := 5, descriptorIndex := 6, attributes := #[] }, { accessFlags := 9, nameIndex := 33, descriptorIndex := 178, attributes := #[] }] 33 2 #[] #[{ accessFlags := 25, nameIndex := 123, descriptorIndex := 124, attributes := #[] }, { accessFlags := 25, nameIndex := 130, descriptorIndex := 124, attributes := #[] }, { accessFlags := 25, nameIndex := 136, descriptorIndex := 124, attributes := #[] }])
  fields := #[{ name := "SIOOBE_FORMATTER", type := (.object "java/util/function/BiFunction"), accessFlags := 25, slot := 0, constantValue := 0 }, { name := "AIOOBE_FORMATTER", type := (.object "java/util/function/BiFunction"), accessFlags := 25, slot := 1, constantValue := 0 }, { name := "IOOBE_FORMATTER", type := (.object "java/util/function/BiFunction"), accessFlags := 25, slot := 2, constantValue := 0 }]
  methods := #[k9m0, k9m1]
  instanceTypes := #[]
  staticTypes := #[(.object "java/util/function/BiFunction"), (.object "java/util/function/BiFunction"), (.object "java/util/function/BiFunction")]
  resolved := Array.replicate 194 none
  statics := some 1 }

def pool10 : Array CpInfo := pool [(6, .class_ 8), (1, u "java/lang/Object"), (0, u "<init>"), (0, u "()V"), (1, .class_ 14), (1, u "java/lang/StringUTF16"), (31, u "$assertionsDisabled"), (0, u "Z"), (13, u "HI_BYTE_SHIFT"), (0, u "I"), (2, u "LO_BYTE_SHIFT"), (49, .methodref 12 116), (0, .nameAndType 117 118), (0, u "compress"), (0, u "([CI[BII)I"), (3, u "([CII)[B"), (138, u "coderFromArrayLen"), (0, u "([BI)B"), (106, .class_ 371), (1, u "java/lang/StringUTF16$LinesSpliterator"), (58, u "MAX_LENGTH"), (196, .class_ 628), (0, u "java/lang/StringUTF16$CodePointsSpliterator"), (0, .class_ 630), (0, u "java/lang/StringUTF16$CharsSpliterator")] 4

def k10m0 : Method := { name := "<init>", desc := "()V", sig := { parameters := [], returnType := none }, accessFlags := 0, code := none }
def k10c1 : Code := { maxStack := 2, maxLocals := 2, code := jdk_52_method_15_code, exceptionTable := #[], attributes := #[] }
def k10m1 : Method := { name := "coderFromArrayLen", desc := "([BI)B", sig := { parameters := [(.array .byte), .int], returnType := some .byte }, accessFlags := 8, code := some k10c1 }
def k10c2 : Code := { maxStack := 5, maxLocals := 6, code := jdk_52_method_16_code, exceptionTable := #[], attributes := #[] }
def k10m2 : Method := { name := "compress", desc := "([CII)[B", sig := { parameters := [(.array .char), .int, .int], returnType := some (.array .byte) }, accessFlags := 9, code := some k10c2 }
def k10c3 : Code := { maxStack := 3, maxLocals := 7, code := jdk_52_method_21_code, exceptionTable := #[], attributes := #[] }
def k10m3 : Method := { name := "compress", desc := "([CI[BII)I", sig := { parameters := [(.array .char), .int, (.array .byte), .int, .int], returnType := some .int }, accessFlags := 9, code := some k10c3 }
/-- java/lang/StringUTF16 -/
def k10 : Class := { plain "java/lang/StringUTF16" (some 0) with
  accessFlags := 48
  interfaces := #[]
  cf := some (fileOf pool10 12 #[.nestMembers #[627, 629, 369]] #[{ accessFlags := 0, nameIndex := 9, descriptorIndex := 10, attributes := #[] }, { accessFlags := 8, nameIndex := 261, descriptorIndex := 262, attributes := #[] }, { accessFlags := 9, nameIndex := 117, descriptorIndex := 122, attributes := #[] }, { accessFlags := 9, nameIndex := 117, descriptorIndex := 118, attributes := #[] }] 48 6 #[] #[{ accessFlags := 26, nameIndex := 61, descriptorIndex := 62, attributes := #[] }, { accessFlags := 26, nameIndex := 65, descriptorIndex := 62, attributes := #[] }, { accessFlags := 24, nameIndex := 430, descriptorIndex := 62, attributes := #[] }, { accessFlags := 4120, nameIndex := 46, descriptorIndex := 47, attributes := #[] }])
  fields := #[{ name := "HI_BYTE_SHIFT", type := .int, accessFlags := 26, slot := 0, constantValue := 0 }, { name := "LO_BYTE_SHIFT", type := .int, accessFlags := 26, slot := 1, constantValue := 0 }, { name := "MAX_LENGTH", type := .int, accessFlags := 24, slot := 2, constantValue := 0 }, { name := "$assertionsDisabled", type := .boolean, accessFlags := 4120, slot := 3, constantValue := 0 }]
  methods := #[k10m0, k10m1, k10m2, k10m3]
  instanceTypes := #[]
  staticTypes := #[.int, .int, .int, .boolean]
  resolved := Array.replicate 635 none
  statics := none }

def pool11 : Array CpInfo := pool [(2, .class_ 4), (1, u "java/lang/Enum"), (0, u "name"), (0, u "Ljava/lang/String;"), (2, u "ordinal"), (0, u "I"), (1, .class_ 14), (1, u "java/lang/Object"), (4, u "hash"), (86, .class_ 108), (1, u "java/lang/Enum$EnumDesc"), (2, .class_ 112), (0, u "java/lang/constant/Constable"), (0, .class_ 114), (0, u "java/lang/Comparable"), (0, .class_ 116), (0, u "java/io/Serializable")] 87

/-- java/lang/Enum -/
def k11 : Class := { plain "java/lang/Enum" (some 0) with
  accessFlags := 1057
  interfaces := #[5, 3, 2]
  cf := some (fileOf pool11 2 #[.nestMembers #[106]] #[] 1057 12 #[111, 113, 115] #[{ accessFlags := 18, nameIndex := 5, descriptorIndex := 6, attributes := #[] }, { accessFlags := 18, nameIndex := 9, descriptorIndex := 10, attributes := #[] }, { accessFlags := 2, nameIndex := 19, descriptorIndex := 10, attributes := #[] }])
  fields := #[{ name := "name", type := (.object "java/lang/String"), accessFlags := 18, slot := 0, constantValue := 0 }, { name := "ordinal", type := .int, accessFlags := 18, slot := 1, constantValue := 0 }, { name := "hash", type := .int, accessFlags := 2, slot := 2, constantValue := 0 }]
  methods := #[]
  instanceTypes := #[(.object "java/lang/String"), .int, .int]
  staticTypes := #[]
  resolved := Array.replicate 204 none
  statics := none }

def pool12 : Array CpInfo := pool [(1, .class_ 2), (0, u "com/example/unbound_principals/unboundprincipals/AuthorizableKind"), (2, u "USER"), (0, u "Lcom/example/unbound_principals/unboundprincipals/AuthorizableKind;"), (2, u "SYSTEM_USER"), (2, u "GROUP"), (0, .fieldref 1 14), (0, .nameAndType 15 16), (0, u "$VALUES"), (0, u "[Lcom/example/unbound_principals/unboundprincipals/AuthorizableKind;"), (0, .methodref 18 19), (0, .class_ 16), (0, .nameAndType 20 21), (0, u "clone"), (0, u "()Ljava/lang/Object;"), (1, .class_ 25), (1, u "java/lang/Enum"), (6, .fieldref 1 33), (0, .nameAndType 34 35), (0, u "nodeType"), (0, u "Ljava/lang/String;"), (0, .methodref 1 37), (0, .nameAndType 38 39), (0, u "values"), (0, u "()[Lcom/example/unbound_principals/unboundprincipals/AuthorizableKind;"), (0, .methodref 41 42), (0, .class_ 43), (0, .nameAndType 44 45), (0, u "java/lang/String"), (0, u "equals"), (0, u "(Ljava/lang/Object;)Z"), (17, u "(Ljava/lang/String;)Lcom/example/unbound_principals/unboundprincipals/AuthorizableKind;"), (8, u "ofNodeType")] 5

def k12c0 : Code := { maxStack := 1, maxLocals := 0, code := prog_1_method_1_code, exceptionTable := #[], attributes := #[] }
def k12m0 : Method := { name := "values", desc := "()[Lcom/example/unbound_principals/unboundprincipals/AuthorizableKind;", sig := { parameters := [], returnType := some (.array (.object "com/example/unbound_principals/unboundprincipals/AuthorizableKind")) }, accessFlags := 9, code := some k12c0 }
def k12c1 : Code := { maxStack := 2, maxLocals := 5, code := prog_1_method_6_code, exceptionTable := #[], attributes := #[] }
def k12m1 : Method := { name := "ofNodeType", desc := "(Ljava/lang/String;)Lcom/example/unbound_principals/unboundprincipals/AuthorizableKind;", sig := { parameters := [(.object "java/lang/String")], returnType := some (.object "com/example/unbound_principals/unboundprincipals/AuthorizableKind") }, accessFlags := 9, code := some k12c1 }
/-- com/example/unbound_principals/unboundprincipals/AuthorizableKind -/
def k12 : Class := { plain "com/example/unbound_principals/unboundprincipals/AuthorizableKind" (some 11) with
  accessFlags := 16433
  interfaces := #[]
  cf := some (fileOf pool12 1 #[] #[{ accessFlags := 9, nameIndex := 38, descriptorIndex := 39, attributes := #[] }, { accessFlags := 9, nameIndex := 72, descriptorIndex := 63, attributes := #[] }] 16433 23 #[] #[{ accessFlags := 16409, nameIndex := 5, descriptorIndex := 6, attributes := #[] }, { accessFlags := 16409, nameIndex := 9, descriptorIndex := 6, attributes := #[] }, { accessFlags := 16409, nameIndex := 12, descriptorIndex := 6, attributes := #[] }, { accessFlags := 18, nameIndex := 34, descriptorIndex := 35, attributes := #[] }, { accessFlags := 4122, nameIndex := 15, descriptorIndex := 16, attributes := #[] }])
  fields := #[{ name := "USER", type := (.object "com/example/unbound_principals/unboundprincipals/AuthorizableKind"), accessFlags := 16409, slot := 0, constantValue := 0 }, { name := "SYSTEM_USER", type := (.object "com/example/unbound_principals/unboundprincipals/AuthorizableKind"), accessFlags := 16409, slot := 1, constantValue := 0 }, { name := "GROUP", type := (.object "com/example/unbound_principals/unboundprincipals/AuthorizableKind"), accessFlags := 16409, slot := 2, constantValue := 0 }, { name := "nodeType", type := (.object "java/lang/String"), accessFlags := 18, slot := 3, constantValue := 0 }, { name := "$VALUES", type := (.array (.object "com/example/unbound_principals/unboundprincipals/AuthorizableKind")), accessFlags := 4122, slot := 3, constantValue := 0 }]
  methods := #[k12m0, k12m1]
  instanceTypes := #[(.object "java/lang/String"), .int, .int, (.object "java/lang/String")]
  staticTypes := #[(.object "com/example/unbound_principals/unboundprincipals/AuthorizableKind"), (.object "com/example/unbound_principals/unboundprincipals/AuthorizableKind"), (.object "com/example/unbound_principals/unboundprincipals/AuthorizableKind"), (.array (.object "com/example/unbound_principals/unboundprincipals/AuthorizableKind"))]
  resolved := Array.replicate 78 none
  statics := some 2 }

def pool13 : Array CpInfo := pool [(1, .class_ 2), (0, u "java/lang/Cloneable"), (0, .class_ 4), (0, u "java/lang/Object")] 2

/-- java/lang/Cloneable -/
def k13 : Class := { plain "java/lang/Cloneable" (some 0) with
  accessFlags := 1537
  interfaces := #[]
  cf := some (fileOf pool13 1 #[] #[] 1537 3 #[] #[])
  fields := #[]
  methods := #[]
  instanceTypes := #[]
  staticTypes := #[]
  resolved := Array.replicate 7 none
  statics := none }

def pool14 : Array CpInfo := pool [(9, u "<init>"), (6, .class_ 18), (1, u "java/lang/Object"), (0, u "()V"), (1, .class_ 23), (1, u "jdk/internal/util/ArraysSupport"), (0, u "LOG2_ARRAY_LONG_INDEX_SCALE"), (0, u "I"), (2, u "U"), (0, u "Ljdk/internal/misc/Unsafe;"), (8, u "BIG_ENDIAN"), (0, u "Z"), (8, u "LOG2_BYTE_BIT_SIZE"), (4, u "LOG2_ARRAY_INT_INDEX_SCALE"), (54, u "JLA"), (0, u "Ljdk/internal/access/JavaLangAccess;"), (11, u "LOG2_ARRAY_BOOLEAN_INDEX_SCALE"), (9, u "LOG2_ARRAY_BYTE_INDEX_SCALE"), (5, u "LOG2_ARRAY_CHAR_INDEX_SCALE"), (5, u "LOG2_ARRAY_SHORT_INDEX_SCALE"), (18, u "LOG2_ARRAY_FLOAT_INDEX_SCALE"), (24, u "LOG2_ARRAY_DOUBLE_INDEX_SCALE"), (89, u "T_BOOLEAN"), (2, u "T_CHAR"), (1, u "T_FLOAT"), (1, u "T_DOUBLE"), (1, u "T_BYTE"), (1, u "T_SHORT"), (1, u "T_INT"), (1, u "T_LONG"), (1, u "SOFT_MAX_ARRAY_LENGTH")] 83

def k14m0 : Method := { name := "<init>", desc := "()V", sig := { parameters := [], returnType := none }, accessFlags := 2, code := none }
/-- jdk/internal/util/ArraysSupport -/
def k14 : Class := { plain "jdk/internal/util/ArraysSupport" (some 0) with
  accessFlags := 33
  interfaces := #[]
  cf := some (fileOf pool14 21 #[] #[{ accessFlags := 2, nameIndex := 9, descriptorIndex := 19, attributes := #[] }] 33 16 #[] #[{ accessFlags := 24, nameIndex := 28, descriptorIndex := 29, attributes := #[] }, { accessFlags := 26, nameIndex := 38, descriptorIndex := 39, attributes := #[] }, { accessFlags := 25, nameIndex := 121, descriptorIndex := 25, attributes := #[] }, { accessFlags := 25, nameIndex := 131, descriptorIndex := 25, attributes := #[] }, { accessFlags := 25, nameIndex := 137, descriptorIndex := 25, attributes := #[] }, { accessFlags := 25, nameIndex := 143, descriptorIndex := 25, attributes := #[] }, { accessFlags := 25, nameIndex := 53, descriptorIndex := 25, attributes := #[] }, { accessFlags := 25, nameIndex := 24, descriptorIndex := 25, attributes := #[] }, { accessFlags := 25, nameIndex := 162, descriptorIndex := 25, attributes := #[] }, { accessFlags := 25, nameIndex := 187, descriptorIndex := 25, attributes := #[] }, { accessFlags := 26, nameIndex := 48, descriptorIndex := 25, attributes := #[] }, { accessFlags := 25, nameIndex := 277, descriptorIndex := 25, attributes := #[] }, { accessFlags := 25, nameIndex := 280, descriptorIndex := 25, attributes := #[] }, { accessFlags := 25, nameIndex := 282, descriptorIndex := 25, attributes := #[] }, { accessFlags := 25, nameIndex := 284, descriptorIndex := 25, attributes := #[] }, { accessFlags := 25, nameIndex := 286, descriptorIndex := 25, attributes := #[] }, { accessFlags := 25, nameIndex := 288, descriptorIndex := 25, attributes := #[] }, { accessFlags := 25, nameIndex := 290, descriptorIndex := 25, attributes := #[] }, { accessFlags := 25, nameIndex := 292, descriptorIndex := 25, attributes := #[] }, { accessFlags := 26, nameIndex := 108, descriptorIndex := 109, attributes := #[] }, { accessFlags := 25, nameIndex := 294, descriptorIndex := 25, attributes := #[] }])
  fields := #[{ name := "U", type := (.object "jdk/internal/misc/Unsafe"), accessFlags := 24, slot := 0, constantValue := 0 }, { name := "BIG_ENDIAN", type := .boolean, accessFlags := 26, slot := 1, constantValue := 0 }, { name := "LOG2_ARRAY_BOOLEAN_INDEX_SCALE", type := .int, accessFlags := 25, slot := 2, constantValue := 0 }, { name := "LOG2_ARRAY_BYTE_INDEX_SCALE", type := .int, accessFlags := 25, slot := 3, constantValue := 0 }, { name := "LOG2_ARRAY_CHAR_INDEX_SCALE", type := .int, accessFlags := 25, slot := 4, constantValue := 0 }, { name := "LOG2_ARRAY_SHORT_INDEX_SCALE", type := .int, accessFlags := 25, slot := 5, constantValue := 0 }, { name := "LOG2_ARRAY_INT_INDEX_SCALE", type := .int, accessFlags := 25, slot := 6, constantValue := 0 }, { name := "LOG2_ARRAY_LONG_INDEX_SCALE", type := .int, accessFlags := 25, slot := 7, constantValue := 0 }, { name := "LOG2_ARRAY_FLOAT_INDEX_SCALE", type := .int, accessFlags := 25, slot := 8, constantValue := 0 }, { name := "LOG2_ARRAY_DOUBLE_INDEX_SCALE", type := .int, accessFlags := 25, slot := 9, constantValue := 0 }, { name := "LOG2_BYTE_BIT_SIZE", type := .int, accessFlags := 26, slot := 10, constantValue := 0 }, { name := "T_BOOLEAN", type := .int, accessFlags := 25, slot := 11, constantValue := 0 }, { name := "T_CHAR", type := .int, accessFlags := 25, slot := 12, constantValue := 0 }, { name := "T_FLOAT", type := .int, accessFlags := 25, slot := 13, constantValue := 0 }, { name := "T_DOUBLE", type := .int, accessFlags := 25, slot := 14, constantValue := 0 }, { name := "T_BYTE", type := .int, accessFlags := 25, slot := 15, constantValue := 0 }, { name := "T_SHORT", type := .int, accessFlags := 25, slot := 16, constantValue := 0 }, { name := "T_INT", type := .int, accessFlags := 25, slot := 17, constantValue := 0 }, { name := "T_LONG", type := .int, accessFlags := 25, slot := 18, constantValue := 0 }, { name := "JLA", type := (.object "jdk/internal/access/JavaLangAccess"), accessFlags := 26, slot := 19, constantValue := 0 }, { name := "SOFT_MAX_ARRAY_LENGTH", type := .int, accessFlags := 25, slot := 20, constantValue := 0 }]
  methods := #[k14m0]
  instanceTypes := #[]
  staticTypes := #[(.object "jdk/internal/misc/Unsafe"), .boolean, .int, .int, .int, .int, .int, .int, .int, .int, .int, .int, .int, .int, .int, .int, .int, .int, .int, (.object "jdk/internal/access/JavaLangAccess"), .int]
  resolved := Array.replicate 378 none
  statics := none }

/-- the primitive byte -/
def k15 : Class := { plain "byte" none with kind := .primitive 'B', accessFlags := 0x411 }
/-- [B -/
def k16 : Class := { plain "[B" (some 0) with kind := .array 15 .byte, interfaces := #[13, 2], accessFlags := 1041 }

/-- the primitive char -/
def k17 : Class := { plain "char" none with kind := .primitive 'C', accessFlags := 0x411 }
/-- [C -/
def k18 : Class := { plain "[C" (some 0) with kind := .array 17 .char, interfaces := #[13, 2], accessFlags := 1041 }

/-- the primitive int -/
def k19 : Class := { plain "int" none with kind := .primitive 'I', accessFlags := 0x411 }
/-- [I -/
def k20 : Class := { plain "[I" (some 0) with kind := .array 19 .int, interfaces := #[13, 2], accessFlags := 1041 }

/-- [Lcom/example/unbound_principals/unboundprincipals/AuthorizableKind; -/
def k21 : Class := { plain "[Lcom/example/unbound_principals/unboundprincipals/AuthorizableKind;" (some 0) with kind := .array 12 (.object "com/example/unbound_principals/unboundprincipals/AuthorizableKind"), interfaces := #[13, 2], accessFlags := 1041 }

def heap : Heap := #[{ cls := 7, slots := #[.long 0, .int 1, .null, .int 0, .null, .int 0, .int 0], vm := .statics 7 },
  { cls := 9, slots := #[.null, .null, .null], vm := .statics 9 },
  { cls := 12, slots := #[.ref 4, .ref 5, .ref 6, .ref 3], vm := .statics 12 },
  { cls := 21, slots := #[.ref 4, .ref 5, .ref 6], vm := .none },
  { cls := 12, slots := #[.null, .int 0, .int 0, .ref 7], vm := .none },
  { cls := 12, slots := #[.null, .int 0, .int 0, .ref 9], vm := .none },
  { cls := 12, slots := #[.null, .int 0, .int 0, .ref 10], vm := .none },
  { cls := 7, slots := #[.ref 8, .int 0, .int 0, .int 0], vm := .none },
  { cls := 16, slots := #[.int 114, .int 101, .int 112, .int 58, .int 85, .int 115, .int 101, .int 114], vm := .none },
  { cls := 7, slots := #[.ref 11, .int 0, .int 0, .int 0], vm := .none },
  { cls := 7, slots := #[.ref 12, .int 0, .int 0, .int 0], vm := .none },
  { cls := 16, slots := #[.int 114, .int 101, .int 112, .int 58, .int 83, .int 121, .int 115, .int 116, .int 101, .int 109, .int 85, .int 115, .int 101, .int 114], vm := .none },
  { cls := 16, slots := #[.int 114, .int 101, .int 112, .int 58, .int 71, .int 114, .int 111, .int 117, .int 112], vm := .none }]
def classes : Array Class := #[k0, k1, k2, k3, k4, k5, k6, k7, k8, k9, k10, k11, k12, k13, k14, k15, k16, k17, k18, k19, k20, k21]
def interned : List (Array UInt16 × Addr) := []
def slotsUsed : Nat := 72
def theMethod : MethodId := ⟨1, 1⟩
def args0 : Array Value := #[.int 4, .int 7, .int 8, .int 9, .int 0, .int 3]
def aboutOver (below : List Frame) : State where
  vm := { classes := classes, interned := interned.toArray }
  heap := heap
  slotsUsed := slotsUsed
  threads := #[{ frames := .invoking theMethod args0 :: below }]
def below0 : List Frame := [.native { method := ⟨0, 0⟩, args := #[] }]
def about1 : State := aboutOver below0
def p0 : Program := .bare "" "" ""
def e0 : Env := launch0.env 0 0 0
theorem w_frames : about1.frames = Frame.invoking theMethod args0 :: below0 := rfl
set_option maxRecDepth 65536 in
theorem w_args : argsFit about1.vm theMethod args0 = true := by decide +kernel
set_option maxRecDepth 65536 in
theorem w_heap : heapFits about1 = true := by decide +kernel
set_option maxRecDepth 65536 in
theorem w_runnable : about1.curStatus? = some .runnable := by decide +kernel
set_option maxRecDepth 65536 in
theorem w_alone : about1.alone = true := by decide +kernel
set_option maxRecDepth 65536 in
theorem w_named : about1.methodNamed? x = some theMethod := by decide +kernel
set_option maxRecDepth 65536 in
theorem w_hears : about1.hears theMethod below0 = true := by decide +kernel
set_option maxRecDepth 65536 in
theorem w_ripe : about1.ripe theMethod args0 below0 = true := by decide +kernel
theorem w_running : about1.status = .running := rfl
set_option maxRecDepth 65536 in
theorem w_room : about1.hasRoom e0.platform room_1 = true :=
  launch0.hasRoom_least _ room_1 (by decide +kernel) (by decide +kernel) (by decide +kernel) (by decide +kernel) (by decide +kernel) (by decide +kernel)
theorem allAtoms_all (ts : List Jvm.Cond) (a : Array Jvm.Value) (st : Jvm.State) : (allAtoms ts).before a st = ts.all (fun c => c.before a st) := by
  induction ts with
  | nil => rfl
  | cons c t ih =>
    show (Jvm.Cond.and c (allAtoms t)).before a st = _
    rw [Jvm.Cond.before_and, ih, List.all_cons]
def words1 : List Jvm.Cond := Jvm.Cond.code x code maxLocals ret :: tables_1
/-- a 'code' word, met by the world's own term for the bytes: nothing is compared byte by byte -/
theorem code_word {y : MethodName} {bytes : ByteArray} {mx : Nat} {rt : Option FieldType} {a : Array Value} {s : State} {m : MethodId} {meth : Method} {c : Code} (h1 : s.methodNamed? y = some m) (h2 : s.vm.method? m = some meth) (h3 : meth.code = some c) (h4 : c.code = bytes)
    (h5 : (c.maxLocals == mx && c.exceptionTable.isEmpty && decide (c.maxStack ≤ mostOperands) && decide (meth.sig.returnType = rt) && !meth.locks && decide (parseMethodDescriptor y.desc = some meth.sig)) = true) : (Jvm.Cond.code y bytes mx rt).before a s = true := by
  simp only [Bool.and_eq_true, beq_iff_eq, Bool.not_eq_true', decide_eq_true_eq] at h5
  obtain ⟨⟨⟨⟨⟨g1, g2⟩, g3⟩, g4⟩, g5⟩, g6⟩ := h5
  simp [Cond.before, Cond.holds, Cond.value, h1, h2, h3, h4, g1, g2, g3, g4, g5, g6]
def isCode : Jvm.Cond → Bool
  | .code _ _ _ _ => true
  | _ => false
theorem all_split {L : List Jvm.Cond} {P : Jvm.Cond → Bool} (h1 : L.all (fun c => isCode c || P c) = true) (h2 : ∀ c ∈ L.filter isCode, P c = true) : L.all P = true := by
  refine List.all_eq_true.mpr fun c hc => ?_
  have h := List.all_eq_true.mp h1 c hc
  rcases Bool.eq_false_or_eq_true (isCode c) with hi | hi
  · exact h2 c (List.mem_filter.mpr ⟨hc, hi⟩)
  · simpa [hi] using h
set_option maxRecDepth 65536 in
theorem w_c0 : (Jvm.Cond.code x code maxLocals ret).before args0 about1 = true := code_word (m := ⟨1, 1⟩) (meth := k1m1) (c := k1c1) (by decide +kernel) rfl rfl rfl (by decide +kernel)
set_option maxRecDepth 65536 in
theorem w_c1 : (Jvm.Cond.code ({ cls := "java/lang/String", name := "length", desc := "()I" } : Jvm.MethodName) jdk_42_method_54_code (1 : Nat) (Option.some Jvm.ClassFile.FieldType.int)).before args0 about1 = true := code_word (m := ⟨7, 2⟩) (meth := k7m2) (c := k7c2) (by decide +kernel) rfl rfl rfl (by decide +kernel)
set_option maxRecDepth 65536 in
theorem w_c2 : (Jvm.Cond.code ({ cls := "java/lang/String", name := "coder", desc := "()B" } : Jvm.MethodName) jdk_42_method_152_code (1 : Nat) (Option.some Jvm.ClassFile.FieldType.byte)).before args0 about1 = true := code_word (m := ⟨7, 6⟩) (meth := k7m6) (c := k7c6) (by decide +kernel) rfl rfl rfl (by decide +kernel)
set_option maxRecDepth 65536 in
theorem w_c3 : (Jvm.Cond.code ({ cls := "com/example/unbound_principals/unboundprincipals/AuthorizableKindOfNodeTypePinLaw", name := "at", desc := "(Ljava/lang/String;IICICI)C" } : Jvm.MethodName) method_5_code (7 : Nat) (Option.some Jvm.ClassFile.FieldType.char)).before args0 about1 = true := code_word (m := ⟨1, 4⟩) (meth := k1m4) (c := k1c4) (by decide +kernel) rfl rfl rfl (by decide +kernel)
set_option maxRecDepth 65536 in
theorem w_c4 : (Jvm.Cond.code ({ cls := "com/example/unbound_principals/unboundprincipals/AuthorizableKindOfNodeTypePinLaw", name := "get", desc := "(Ljava/lang/String;I)C" } : Jvm.MethodName) method_4_code (2 : Nat) (Option.some Jvm.ClassFile.FieldType.char)).before args0 about1 = true := code_word (m := ⟨1, 3⟩) (meth := k1m3) (c := k1c3) (by decide +kernel) rfl rfl rfl (by decide +kernel)
set_option maxRecDepth 65536 in
theorem w_c5 : (Jvm.Cond.code ({ cls := "java/lang/String", name := "charAt", desc := "(I)C" } : Jvm.MethodName) jdk_42_method_56_code (2 : Nat) (Option.some Jvm.ClassFile.FieldType.char)).before args0 about1 = true := code_word (m := ⟨7, 3⟩) (meth := k7m3) (c := k7c3) (by decide +kernel) rfl rfl rfl (by decide +kernel)
set_option maxRecDepth 65536 in
theorem w_c6 : (Jvm.Cond.code ({ cls := "java/lang/String", name := "isLatin1", desc := "()Z" } : Jvm.MethodName) jdk_42_method_154_code (1 : Nat) (Option.some Jvm.ClassFile.FieldType.boolean)).before args0 about1 = true := code_word (m := ⟨7, 7⟩) (meth := k7m7) (c := k7c7) (by decide +kernel) rfl rfl rfl (by decide +kernel)
set_option maxRecDepth 65536 in
theorem w_c7 : (Jvm.Cond.code ({ cls := "java/lang/StringLatin1", name := "charAt", desc := "([BI)C" } : Jvm.MethodName) jdk_43_method_2_code (2 : Nat) (Option.some Jvm.ClassFile.FieldType.char)).before args0 about1 = true := code_word (m := ⟨8, 1⟩) (meth := k8m1) (c := k8c1) (by decide +kernel) rfl rfl rfl (by decide +kernel)
set_option maxRecDepth 65536 in
theorem w_c8 : (Jvm.Cond.code ({ cls := "java/lang/String", name := "checkIndex", desc := "(II)V" } : Jvm.MethodName) jdk_42_method_155_code (2 : Nat) (Option.none : Option Jvm.ClassFile.FieldType)).before args0 about1 = true := code_word (m := ⟨7, 8⟩) (meth := k7m8) (c := k7c8) (by decide +kernel) rfl rfl rfl (by decide +kernel)
set_option maxRecDepth 65536 in
theorem w_c9 : (Jvm.Cond.code ({ cls := "jdk/internal/util/Preconditions", name := "checkIndex", desc := "(IILjava/util/function/BiFunction;)I" } : Jvm.MethodName) jdk_41_method_11_code (3 : Nat) (Option.some Jvm.ClassFile.FieldType.int)).before args0 about1 = true := code_word (m := ⟨9, 1⟩) (meth := k9m1) (c := k9c1) (by decide +kernel) rfl rfl rfl (by decide +kernel)
set_option maxRecDepth 65536 in
theorem w_c10 : (Jvm.Cond.code ({ cls := "com/example/unbound_principals/unboundprincipals/AuthorizableKindOfNodeTypePinLaw", name := "mk", desc := "([CI)Ljava/lang/String;" } : Jvm.MethodName) method_6_code (2 : Nat) (Option.some (Jvm.ClassFile.FieldType.object "java/lang/String"))).before args0 about1 = true := code_word (m := ⟨1, 5⟩) (meth := k1m5) (c := k1c5) (by decide +kernel) rfl rfl rfl (by decide +kernel)
set_option maxRecDepth 65536 in
theorem w_c11 : (Jvm.Cond.code ({ cls := "java/lang/String", name := "<init>", desc := "([C)V" } : Jvm.MethodName) jdk_42_method_3_code (2 : Nat) (Option.none : Option Jvm.ClassFile.FieldType)).before args0 about1 = true := code_word (m := ⟨7, 1⟩) (meth := k7m1) (c := k7c1) (by decide +kernel) rfl rfl rfl (by decide +kernel)
set_option maxRecDepth 65536 in
theorem w_c12 : (Jvm.Cond.code ({ cls := "java/lang/String", name := "<init>", desc := "([CIILjava/lang/Void;)V" } : Jvm.MethodName) jdk_42_method_149_code (6 : Nat) (Option.none : Option Jvm.ClassFile.FieldType)).before args0 about1 = true := code_word (m := ⟨7, 5⟩) (meth := k7m5) (c := k7c5) (by decide +kernel) rfl rfl rfl (by decide +kernel)
set_option maxRecDepth 65536 in
theorem w_c13 : (Jvm.Cond.code ({ cls := "java/lang/Object", name := "<init>", desc := "()V" } : Jvm.MethodName) object_method_1_code (1 : Nat) (Option.none : Option Jvm.ClassFile.FieldType)).before args0 about1 = true := code_word (m := ⟨0, 0⟩) (meth := k0m0) (c := k0c0) (by decide +kernel) rfl rfl rfl (by decide +kernel)
set_option maxRecDepth 65536 in
theorem w_c14 : (Jvm.Cond.code ({ cls := "java/lang/StringUTF16", name := "compress", desc := "([CII)[B" } : Jvm.MethodName) jdk_52_method_16_code (6 : Nat) (Option.some (Jvm.ClassFile.FieldType.array Jvm.ClassFile.FieldType.byte))).before args0 about1 = true := code_word (m := ⟨10, 2⟩) (meth := k10m2) (c := k10c2) (by decide +kernel) rfl rfl rfl (by decide +kernel)
set_option maxRecDepth 65536 in
theorem w_c15 : (Jvm.Cond.code ({ cls := "java/lang/StringUTF16", name := "compress", desc := "([CI[BII)I" } : Jvm.MethodName) jdk_52_method_21_code (7 : Nat) (Option.some Jvm.ClassFile.FieldType.int)).before args0 about1 = true := code_word (m := ⟨10, 3⟩) (meth := k10m3) (c := k10c3) (by decide +kernel) rfl rfl rfl (by decide +kernel)
set_option maxRecDepth 65536 in
theorem w_c16 : (Jvm.Cond.code ({ cls := "java/lang/StringUTF16", name := "coderFromArrayLen", desc := "([BI)B" } : Jvm.MethodName) jdk_52_method_15_code (2 : Nat) (Option.some Jvm.ClassFile.FieldType.byte)).before args0 about1 = true := code_word (m := ⟨10, 1⟩) (meth := k10m1) (c := k10c1) (by decide +kernel) rfl rfl rfl (by decide +kernel)
set_option maxRecDepth 65536 in
theorem w_c17 : (Jvm.Cond.code ({ cls := "com/example/unbound_principals/unboundprincipals/AuthorizableKind", name := "ofNodeType", desc := "(Ljava/lang/String;)Lcom/example/unbound_principals/unboundprincipals/AuthorizableKind;" } : Jvm.MethodName) prog_1_method_6_code (5 : Nat) (Option.some (Jvm.ClassFile.FieldType.object "com/example/unbound_principals/unboundprincipals/AuthorizableKind"))).before args0 about1 = true := code_word (m := ⟨12, 1⟩) (meth := k12m1) (c := k12c1) (by decide +kernel) rfl rfl rfl (by decide +kernel)
set_option maxRecDepth 65536 in
theorem w_c18 : (Jvm.Cond.code ({ cls := "com/example/unbound_principals/unboundprincipals/AuthorizableKind", name := "values", desc := "()[Lcom/example/unbound_principals/unboundprincipals/AuthorizableKind;" } : Jvm.MethodName) prog_1_method_1_code (0 : Nat) (Option.some (Jvm.ClassFile.FieldType.array (Jvm.ClassFile.FieldType.object "com/example/unbound_principals/unboundprincipals/AuthorizableKind")))).before args0 about1 = true := code_word (m := ⟨12, 0⟩) (meth := k12m0) (c := k12c0) (by decide +kernel) rfl rfl rfl (by decide +kernel)
set_option maxRecDepth 65536 in
theorem w_c19 : (Jvm.Cond.code ({ cls := "java/lang/String", name := "equals", desc := "(Ljava/lang/Object;)Z" } : Jvm.MethodName) jdk_42_method_66_code (3 : Nat) (Option.some Jvm.ClassFile.FieldType.boolean)).before args0 about1 = true := code_word (m := ⟨7, 4⟩) (meth := k7m4) (c := k7c4) (by decide +kernel) rfl rfl rfl (by decide +kernel)
set_option maxRecDepth 65536 in
theorem w_c20 : (Jvm.Cond.code ({ cls := "java/lang/StringLatin1", name := "equals", desc := "([B[B)Z" } : Jvm.MethodName) jdk_43_method_13_code (3 : Nat) (Option.some Jvm.ClassFile.FieldType.boolean)).before args0 about1 = true := code_word (m := ⟨8, 2⟩) (meth := k8m2) (c := k8c2) (by decide +kernel) rfl rfl rfl (by decide +kernel)
set_option maxRecDepth 65536 in
theorem w_c21 : (Jvm.Cond.code ({ cls := "com/example/unbound_principals/unboundprincipals/AuthorizableKindOfNodeTypePinLaw", name := "expected", desc := "(Ljava/lang/String;)Lcom/example/unbound_principals/unboundprincipals/AuthorizableKind;" } : Jvm.MethodName) method_3_code (1 : Nat) (Option.some (Jvm.ClassFile.FieldType.object "com/example/unbound_principals/unboundprincipals/AuthorizableKind"))).before args0 about1 = true := code_word (m := ⟨1, 2⟩) (meth := k1m2) (c := k1c2) (by decide +kernel) rfl rfl rfl (by decide +kernel)
def codes1 : List Jvm.Cond := [Jvm.Cond.code x code maxLocals ret, Jvm.Cond.code ({ cls := "java/lang/String", name := "length", desc := "()I" } : Jvm.MethodName) jdk_42_method_54_code (1 : Nat) (Option.some Jvm.ClassFile.FieldType.int), Jvm.Cond.code ({ cls := "java/lang/String", name := "coder", desc := "()B" } : Jvm.MethodName) jdk_42_method_152_code (1 : Nat) (Option.some Jvm.ClassFile.FieldType.byte), Jvm.Cond.code ({ cls := "com/example/unbound_principals/unboundprincipals/AuthorizableKindOfNodeTypePinLaw", name := "at", desc := "(Ljava/lang/String;IICICI)C" } : Jvm.MethodName) method_5_code (7 : Nat) (Option.some Jvm.ClassFile.FieldType.char), Jvm.Cond.code ({ cls := "com/example/unbound_principals/unboundprincipals/AuthorizableKindOfNodeTypePinLaw", name := "get", desc := "(Ljava/lang/String;I)C" } : Jvm.MethodName) method_4_code (2 : Nat) (Option.some Jvm.ClassFile.FieldType.char), Jvm.Cond.code ({ cls := "java/lang/String", name := "charAt", desc := "(I)C" } : Jvm.MethodName) jdk_42_method_56_code (2 : Nat) (Option.some Jvm.ClassFile.FieldType.char), Jvm.Cond.code ({ cls := "java/lang/String", name := "isLatin1", desc := "()Z" } : Jvm.MethodName) jdk_42_method_154_code (1 : Nat) (Option.some Jvm.ClassFile.FieldType.boolean), Jvm.Cond.code ({ cls := "java/lang/StringLatin1", name := "charAt", desc := "([BI)C" } : Jvm.MethodName) jdk_43_method_2_code (2 : Nat) (Option.some Jvm.ClassFile.FieldType.char), Jvm.Cond.code ({ cls := "java/lang/String", name := "checkIndex", desc := "(II)V" } : Jvm.MethodName) jdk_42_method_155_code (2 : Nat) (Option.none : Option Jvm.ClassFile.FieldType), Jvm.Cond.code ({ cls := "jdk/internal/util/Preconditions", name := "checkIndex", desc := "(IILjava/util/function/BiFunction;)I" } : Jvm.MethodName) jdk_41_method_11_code (3 : Nat) (Option.some Jvm.ClassFile.FieldType.int), Jvm.Cond.code ({ cls := "com/example/unbound_principals/unboundprincipals/AuthorizableKindOfNodeTypePinLaw", name := "mk", desc := "([CI)Ljava/lang/String;" } : Jvm.MethodName) method_6_code (2 : Nat) (Option.some (Jvm.ClassFile.FieldType.object "java/lang/String")), Jvm.Cond.code ({ cls := "java/lang/String", name := "<init>", desc := "([C)V" } : Jvm.MethodName) jdk_42_method_3_code (2 : Nat) (Option.none : Option Jvm.ClassFile.FieldType), Jvm.Cond.code ({ cls := "java/lang/String", name := "<init>", desc := "([CIILjava/lang/Void;)V" } : Jvm.MethodName) jdk_42_method_149_code (6 : Nat) (Option.none : Option Jvm.ClassFile.FieldType), Jvm.Cond.code ({ cls := "java/lang/Object", name := "<init>", desc := "()V" } : Jvm.MethodName) object_method_1_code (1 : Nat) (Option.none : Option Jvm.ClassFile.FieldType), Jvm.Cond.code ({ cls := "java/lang/StringUTF16", name := "compress", desc := "([CII)[B" } : Jvm.MethodName) jdk_52_method_16_code (6 : Nat) (Option.some (Jvm.ClassFile.FieldType.array Jvm.ClassFile.FieldType.byte)), Jvm.Cond.code ({ cls := "java/lang/StringUTF16", name := "compress", desc := "([CI[BII)I" } : Jvm.MethodName) jdk_52_method_21_code (7 : Nat) (Option.some Jvm.ClassFile.FieldType.int), Jvm.Cond.code ({ cls := "java/lang/StringUTF16", name := "coderFromArrayLen", desc := "([BI)B" } : Jvm.MethodName) jdk_52_method_15_code (2 : Nat) (Option.some Jvm.ClassFile.FieldType.byte), Jvm.Cond.code ({ cls := "com/example/unbound_principals/unboundprincipals/AuthorizableKind", name := "ofNodeType", desc := "(Ljava/lang/String;)Lcom/example/unbound_principals/unboundprincipals/AuthorizableKind;" } : Jvm.MethodName) prog_1_method_6_code (5 : Nat) (Option.some (Jvm.ClassFile.FieldType.object "com/example/unbound_principals/unboundprincipals/AuthorizableKind")), Jvm.Cond.code ({ cls := "com/example/unbound_principals/unboundprincipals/AuthorizableKind", name := "values", desc := "()[Lcom/example/unbound_principals/unboundprincipals/AuthorizableKind;" } : Jvm.MethodName) prog_1_method_1_code (0 : Nat) (Option.some (Jvm.ClassFile.FieldType.array (Jvm.ClassFile.FieldType.object "com/example/unbound_principals/unboundprincipals/AuthorizableKind"))), Jvm.Cond.code ({ cls := "java/lang/String", name := "equals", desc := "(Ljava/lang/Object;)Z" } : Jvm.MethodName) jdk_42_method_66_code (3 : Nat) (Option.some Jvm.ClassFile.FieldType.boolean), Jvm.Cond.code ({ cls := "java/lang/StringLatin1", name := "equals", desc := "([B[B)Z" } : Jvm.MethodName) jdk_43_method_13_code (3 : Nat) (Option.some Jvm.ClassFile.FieldType.boolean), Jvm.Cond.code ({ cls := "com/example/unbound_principals/unboundprincipals/AuthorizableKindOfNodeTypePinLaw", name := "expected", desc := "(Ljava/lang/String;)Lcom/example/unbound_principals/unboundprincipals/AuthorizableKind;" } : Jvm.MethodName) method_3_code (1 : Nat) (Option.some (Jvm.ClassFile.FieldType.object "com/example/unbound_principals/unboundprincipals/AuthorizableKind"))]
set_option maxRecDepth 65536 in
theorem codes_eq : words1.filter isCode = codes1 := rfl
theorem w_codes : ∀ c ∈ words1.filter isCode, c.before args0 about1 = true := by
  rw [codes_eq]
  intro c hc
  simp only [codes1, List.mem_cons, List.not_mem_nil, or_false] at hc
  rcases hc with rfl | rfl | rfl | rfl | rfl | rfl | rfl | rfl | rfl | rfl | rfl | rfl | rfl | rfl | rfl | rfl | rfl | rfl | rfl | rfl | rfl | rfl
  · exact w_c0
  · exact w_c1
  · exact w_c2
  · exact w_c3
  · exact w_c4
  · exact w_c5
  · exact w_c6
  · exact w_c7
  · exact w_c8
  · exact w_c9
  · exact w_c10
  · exact w_c11
  · exact w_c12
  · exact w_c13
  · exact w_c14
  · exact w_c15
  · exact w_c16
  · exact w_c17
  · exact w_c18
  · exact w_c19
  · exact w_c20
  · exact w_c21
set_option maxRecDepth 65536 in
theorem w_t1 : (words1.take 24).all (fun c => isCode c || c.before args0 about1) = true := by decide +kernel
set_option maxRecDepth 65536 in
theorem w_t2 : ((words1.drop 24).take 24).all (fun c => isCode c || c.before args0 about1) = true := by decide +kernel
set_option maxRecDepth 65536 in
theorem w_t3 : (((words1.drop 24).drop 24).take 24).all (fun c => isCode c || c.before args0 about1) = true := by decide +kernel
set_option maxRecDepth 65536 in
theorem w_t4 : ((((words1.drop 24).drop 24).drop 24).take 24).all (fun c => isCode c || c.before args0 about1) = true := by decide +kernel
set_option maxRecDepth 65536 in
theorem w_t5 : ((((words1.drop 24).drop 24).drop 24).drop 24).all (fun c => isCode c || c.before args0 about1) = true := by decide +kernel
theorem w_tables : (allAtoms (Jvm.Cond.code x code maxLocals ret :: tables_1)).before args0 about1 = true := by
  rw [allAtoms_all]
  show words1.all (fun c => c.before args0 about1) = true
  refine all_split ?_ w_codes
  rw [← List.take_append_drop 24 words1, List.all_append, w_t1, ← List.take_append_drop 24 (words1.drop 24), List.all_append, w_t2, ← List.take_append_drop 24 ((words1.drop 24).drop 24), List.all_append, w_t3, ← List.take_append_drop 24 (((words1.drop 24).drop 24).drop 24), List.all_append, w_t4, w_t5]
  rfl
set_option maxRecDepth 65536 in
theorem w_rest : rest_1_c.before args0 about1 = true := by decide +kernel
set_option maxRecDepth 65536 in
theorem w_case : (Jvm.Cond.and given_1 narrow_1).before args0 about1 = true := by decide +kernel
set_option maxRecDepth 65536 in
theorem w_consts : constsHeld consts_1 about1 := Jvm.Lit.constsHeldB_iff.mp (by decide +kernel)
theorem w_applies : (headSpec (Jvm.Cond.code x code maxLocals ret :: tables_1) room_1).applies x e0.platform about1 = true :=
  (Spec.applies_iff w_frames).mpr ⟨w_running, w_runnable, w_alone, w_named, w_hears, w_ripe, w_room, w_tables⟩
theorem atStart : AtStart classFile x code maxLocals ret World_1 tables_1 room_1 Calls_1 rest_1 Pre_1 launch0 p0 e0 about1 theMethod args0 below0 :=
  ⟨lists_1, trivial, launch0.admits_env _ _ _, launch0.least_env, fairChoices_fair.cas, fairChoices_fair.clock, w_frames, w_args, w_heap, w_applies, ⟨w_consts, trivial⟩, w_rest, w_case⟩
end start1
theorem witness_1 : WitnessClaimed_1 := ⟨start1.p0, start1.e0, start1.about1, start1.theMethod, start1.args0, start1.below0, start1.atStart⟩
end Jvm.Pilot.@@N@@
